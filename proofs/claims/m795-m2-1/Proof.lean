import JvmDerived
import JvmDerived.Pilot.@@N@@Statement
import JvmDerived.Pilot.@@N@@Code
set_option linter.unusedVariables false
set_option linter.unusedSimpArgs false
@@BLOCK:NumsL.lean.txt@@
namespace Jvm.RoadKit
open Sem ClassFile Op Lib Jvm.Stand Jvm.Free Jvm.LawKit
section OwnKit
theorem wm {α : Type} {l : List α} {a : α} (i : Nat) (h : l[i]? = some a) : a ∈ l := List.mem_of_getElem? h
variable {p : Program} {l : Launch} {e : Env} {R : Room} {s : State} {m : MethodId} {args : Array Value} {below : List Frame} {meth : Method} {c : Code} {T T' : State} {locs locs' : List Loc} {k n k' n' : Nat} {Z : State} {a0 : Array Value} {h h' h0 : Heap}
theorem retI (X : Stand p l e R s m args below meth c T locs k n) (hx : p.tables.exec = Jvm.exec) {pc : Nat} {Ls : Array Slot} {z : Int32} {rest : List Value} (hret : meth.sig.returnType = some .int) (hd : decode c.code pc = .ok (.ireturn, 1)) {fs : List Frame}
    (hl : ∀ (f : JFrame) (acts : List Action), f.method = m → f.locked = none → f.entered = [] → (doReturn e (T.setTop f) acts (some (.int z))).1 = T.setFrames fs) : Steps p.tables e below (T.setTop (mkF m pc Ls (.int z :: rest))) (T.setFrames fs) := by
  have hm' : T.vm.method? m = some meth := X.method'
  have hn : narrow .int (.int z) = .int z := rfl
  show Steps p.tables e below (T.setTop { method := m, pc := pc, locals := Ls, stack := _ :: rest, locked := none }) _
  jvm_step X.here [X.here.top, hx, hd, hm', hret, hn]
  first | (intro acts; rw [hl _ acts rfl rfl rfl]) | rw [hl _ _ rfl rfl rfl]
  exact Steps.refl _
/-- how a body may end: the instruction, the method's return type, what lies on the stack, what is handed back -/
def OwnRet (i : Instr) (ret : Option FieldType) (w v : Option Value) : Prop :=
  (i = .ireturn ∧ ∃ z : Int32, ret = some .int ∧ w = some (.int z) ∧ v = some (.int z)) ∨
  (i = .ireturn ∧ ∃ (t : FieldType) (z : Int32), ret = some t ∧ (t = .boolean ∨ t = .byte ∨ t = .char ∨ t = .short) ∧ w = some (.int z) ∧ v = some (.int (nar t z))) ∨
  (i = .lreturn ∧ ret = some .long ∧ ∃ z : Int64, w = some (.long z) ∧ v = some (.long z)) ∨
  (i = .areturn ∧ ∃ (t : FieldType) (u : Value), ret = some t ∧ t.isReference = true ∧ u.isRef = true ∧ narrow t u = u ∧ w = some u ∧ v = some u) ∨
  (i = .return_ ∧ ret = none ∧ w = none ∧ v = none)
/-- from the frame g the body comes to its return and leaves what Q says -/
def OwnFin (_X : Stand p l e R s m args below meth c T locs k n) (ret : Option FieldType) (Q : Option Value → Heap → List Loc → Prop) (K N : Nat) (g : JFrame) : Prop :=
  ∃ (i : Instr) (w v : Option Value) (T' : State) (locs' : List Loc) (k' n' pcr : Nat) (Ls : Array Slot), OwnRet i ret w v ∧ Stand p l e R s m args below meth c T' locs' k' n' ∧ k' ≤ K ∧ n' ≤ N ∧ Q v T'.heap locs' ∧ decode c.code pcr = .ok (i, 1) ∧
    ∀ t, Steps p.tables e below (T'.setTop (mkF m pcr Ls w.toList)) t → Steps p.tables e below (T.setTop g) t
variable {ret : Option FieldType} {Q : Option Value → Heap → List Loc → Prop} {K N : Nat} {g g' : JFrame}
theorem OwnFin.step {X : Stand p l e R s m args below meth c T locs k n} (X' : Stand p l e R s m args below meth c T' locs' k' n') (hs : ∀ t, Steps p.tables e below (T'.setTop g') t → Steps p.tables e below (T.setTop g) t) (hF : OwnFin X' ret Q K N g') : OwnFin X ret Q K N g := by
  obtain ⟨i, w, v, T2, locs2, k2, n2, pcr, Ls, h1, h2, h3, h4, h5, h6, h7⟩ := hF
  exact ⟨i, w, v, T2, locs2, k2, n2, pcr, Ls, h1, h2, h3, h4, h5, h6, fun t k => hs t (h7 t k)⟩
theorem ost (g' : JFrame) {X : Stand p l e R s m args below meth c T locs k n} (X' : Stand p l e R s m args below meth c T' locs' k' n') (hs : ∀ t, Steps p.tables e below (T'.setTop g') t → Steps p.tables e below (T.setTop g) t) (hF : OwnFin X' ret Q K N g') : OwnFin X ret Q K N g := OwnFin.step X' hs hF
theorem OwnFin.retInt (X : Stand p l e R s m args below meth c T locs k n) {pc : Nat} {Ls : Array Slot} {z : Int32} (hd : decode c.code pc = .ok (.ireturn, 1)) (hk : k ≤ K) (hn : n ≤ N) (hQ : Q (some (.int z)) T.heap locs) : OwnFin X (some .int) Q K N (mkF m pc Ls [.int z]) :=
  ⟨.ireturn, some (.int z), _, T, locs, k, n, pc, Ls, Or.inl ⟨rfl, z, rfl, rfl, rfl⟩, X, hk, hn, hQ, hd, fun _ k => k⟩
theorem OwnFin.retNar (X : Stand p l e R s m args below meth c T locs k n) {t : FieldType} (ht : t = .boolean ∨ t = .byte ∨ t = .char ∨ t = .short) {pc : Nat} {Ls : Array Slot} {z : Int32} (hd : decode c.code pc = .ok (.ireturn, 1)) (hk : k ≤ K) (hn : n ≤ N) (hQ : Q (some (.int (nar t z))) T.heap locs) : OwnFin X (some t) Q K N (mkF m pc Ls [.int z]) :=
  ⟨.ireturn, some (.int z), _, T, locs, k, n, pc, Ls, Or.inr (Or.inl ⟨rfl, t, z, rfl, ht, rfl, rfl⟩), X, hk, hn, hQ, hd, fun _ k => k⟩
theorem OwnFin.retLong (X : Stand p l e R s m args below meth c T locs k n) {pc : Nat} {Ls : Array Slot} {z : Int64} (hd : decode c.code pc = .ok (.lreturn, 1)) (hk : k ≤ K) (hn : n ≤ N) (hQ : Q (some (.long z)) T.heap locs) : OwnFin X (some .long) Q K N (mkF m pc Ls [.long z]) :=
  ⟨.lreturn, some (.long z), _, T, locs, k, n, pc, Ls, Or.inr (Or.inr (Or.inl ⟨rfl, rfl, z, rfl, rfl⟩)), X, hk, hn, hQ, hd, fun _ k => k⟩
theorem OwnFin.retRef (X : Stand p l e R s m args below meth c T locs k n) {t : FieldType} {u : Value} (ht : t.isReference = true) (hu : u.isRef = true) (hnw : narrow t u = u) {pc : Nat} {Ls : Array Slot} (hd : decode c.code pc = .ok (.areturn, 1)) (hk : k ≤ K) (hn : n ≤ N) (hQ : Q (some u) T.heap locs) : OwnFin X (some t) Q K N (mkF m pc Ls [u]) :=
  ⟨.areturn, some u, _, T, locs, k, n, pc, Ls, Or.inr (Or.inr (Or.inr (Or.inl ⟨rfl, t, u, rfl, ht, hu, hnw, rfl, rfl⟩))), X, hk, hn, hQ, hd, fun _ k => k⟩
theorem OwnFin.retVoid (X : Stand p l e R s m args below meth c T locs k n) {pc : Nat} {Ls : Array Slot} (hd : decode c.code pc = .ok (.return_, 1)) (hk : k ≤ K) (hn : n ≤ N) (hQ : Q none T.heap locs) : OwnFin X none Q K N (mkF m pc Ls []) :=
  ⟨.return_, none, _, T, locs, k, n, pc, Ls, Or.inr (Or.inr (Or.inr (Or.inr ⟨rfl, rfl, rfl, rfl⟩))), X, hk, hn, hQ, hd, fun _ k => k⟩
theorem own_met {y : MethodName} {bytes : ByteArray} {maxL : Nat} {rm : Room} {ws : List Jvm.Cond} {as' : Array Value} {Ls : Array Slot} (hpf : plainFor y = true) (hent : ∀ m, entryFrame m as' maxL = mkF m 0 Ls [])
    (H : ∀ p e s m below meth c s₁ (X : Stand p l e rm s m as' below meth c s₁ [] 0 0), p.tables.exec = Jvm.exec → c.code = bytes → c.maxLocals = maxL → s.vm.findClass y.cls = some m.cls → meth.name = y.name → Z.Warmed39 s.vm → s₁.heap = h0 → OwnFin X ret Q rm.cells rm.slots (mkF m 0 Ls [])) :
    MetFree l y (head1 (Jvm.Cond.code y bytes maxL ret :: ws) rm) (fun a U => a = as' ∧ Z.Warmed39 U.vm ∧ U.heap = h0) (fun _ _ _ _ _ => True) (fun _ U o U' => ∃ v L, o = .returned v ∧ Q v U'.heap L ∧ FrameEnd U o U' L rm.cells rm.slots) := by
  refine MetFree.of_bodySF hpf hisR ?_
  intro p e s m args below meth c s₁ Bd hml0 hP hK
  obtain ⟨rfl, hZ, hh⟩ := hP
  have hx := Bd.exec
  have hby := Bd.bytes
  have hown : s.vm.findClass y.cls = some m.cls := findClass_of_methodNamed Bd.named
  have hnm := (name_of_methodNamed Bd.named Bd.method).1
  have X0 : Stand p l e rm s m args below meth c s₁ [] 0 0 := Stand.of_body Bd
  have e0 : s₁.heap = h0 := by rw [← hh, Bd.state]; rfl
  obtain ⟨i, w, v, T2, locs2, k2, n2, pcr, Ls2, h1, X2, h3, h4, h5, h6, h7⟩ := H p e s m below meth c s₁ X0 hx hby hml0 hown hnm hZ e0
  have hret := Bd.returns
  have hv : meth.sig.returnType = none → v = none := by
    intro q
    rw [hret] at q
    rcases h1 with ⟨-, z, hr, -⟩ | ⟨-, t, z, hr, -⟩ | ⟨-, hr, -⟩ | ⟨-, t, u, hr, -⟩ | ⟨-, -, -, hr⟩
    · rw [hr] at q; cases q
    · rw [hr] at q; cases q
    · rw [hr] at q; cases q
    · rw [hr] at q; cases q
    · exact hr
  obtain ⟨fs, hr, hrun, hended, hW, hsame⟩ := X2.leave (v := v) hv
  refine ⟨_, _, ?_, hrun, hended, _, _, rfl, h5, ⟨_, rfl⟩, hW, hsame.mono h3 h4⟩
  rw [hent]
  apply h7
  rcases h1 with ⟨rfl, z, rfl, rfl, rfl⟩ | ⟨rfl, t, z, rfl, ht, rfl, rfl⟩ | ⟨rfl, rfl, z, rfl, rfl⟩ | ⟨rfl, t, u, rfl, ht, hu, hnw, rfl, rfl⟩ | ⟨rfl, rfl, rfl, rfl⟩
  · exact retI X2 hx hret h6 hr
  · exact retN X2 hx hret ht h6 hr
  · exact retOut X2 hx hret rfl (Or.inr (Or.inl ⟨rfl, rfl, z, rfl⟩)) h6 hr
  · exact retOut X2 hx hret hnw (Or.inr (Or.inr (Or.inr (Or.inr ⟨rfl, ht, hu⟩)))) h6 hr
  · exact X2.returnOut hx hret h6 hr
theorem OwnFin.wide {X : Stand p l e R s m args below meth c T locs k n} {K' N' : Nat} (F : OwnFin X ret Q K N g) (h1 : K ≤ K') (h2 : N ≤ N') : OwnFin X ret Q K' N' g := by
  obtain ⟨i, w, v, T2, locs2, k2, n2, pcr, Ls, q1, q2, q3, q4, q5, q6, q7⟩ := F
  exact ⟨i, w, v, T2, locs2, k2, n2, pcr, Ls, q1, q2, Nat.le_trans q3 h1, Nat.le_trans q4 h2, q5, q6, q7⟩
/-- a callee that leaves the heap alone: what it hands back -/
def PQ (w : Option Value) (h0 : Heap) (n0 : Nat) : Option Value → Heap → List Loc → Prop := fun v h L => v = w ∧ h = h0 ∧ Fr n0 L
def LQ (n0 : Nat) : Option Value → Heap → List Loc → Prop := fun v _ L => v = some (.int 1) ∧ Fr n0 L
theorem own_callS (X : Stand p l e R s m args below meth c T locs k n) (hx : p.tables.exec = Jvm.exec) (hZ : Z.Warmed39 s.vm) {own : String} {index : Nat} {y : MethodName} {bytes : ByteArray} {maxL W : Nat} {rt : Option FieldType} {rm : Room} {argsL rest : List Value} {ps : List FieldType} {r : Option FieldType} {Qc : Option Value → Heap → List Loc → Prop}
    (hown : s.vm.findClass own = some m.cls) (w1 : (Jvm.Cond.methodLink own index y).before a0 Z = true) (w2 : (Jvm.Cond.static y).before a0 Z = true) (w3 : (Jvm.Cond.initialized y.cls).before a0 Z = true) (w4 : (Jvm.Cond.code y bytes maxL rt).before a0 Z = true) (hy : y.cls ≠ "java/lang/invoke/MethodHandle" ∧ y.cls ≠ "java/lang/invoke/VarHandle")
    (hM : MetFree l y (head1 [Jvm.Cond.code y bytes maxL rt] rm) (fun a U => a = argsL.toArray ∧ Z.Warmed39 U.vm ∧ U.heap = h) (fun _ _ _ _ _ => True) (fun _ U o U' => ∃ v L, o = .returned v ∧ Qc v U'.heap L ∧ FrameEnd U o U' L rm.cells rm.slots))
    (hf : rm.frames + 1 ≤ R.frames) (hl : W + (maxL + 11) + rm.locals ≤ R.locals) (hc : k + rm.cells ≤ R.cells) (hs : n + rm.slots ≤ R.slots) (eT : T.heap = h)
    (hg : g.method = m) (hsize : g.locals.size = c.maxLocals) (hd : parseMethodDescriptor y.desc = some ⟨ps, r⟩) (hlen : argsL.length = ps.length) (hstack : g.stack = argsL.reverse ++ rest) (hW : 2 * g.monitorRoom + (rest.map fun v => v.category).sum ≤ W) (hdg : decode c.code g.pc = .ok (.invokestatic index, 3)) :
    ∃ v T' L, Stand p l e R s m args below meth c T' (locs ++ L) (k + rm.cells) (n + rm.slots) ∧ Qc v T'.heap L ∧ ∀ t, Steps p.tables e below (T'.setTop { g with pc := g.pc + 3, stack := v.toList ++ rest }) t → Steps p.tables e below (T.setTop g) t := by
  obtain ⟨v, vm1, ⟨T', L', k', n'⟩, -, X', ⟨Lc, hQ, l1, y1, z1⟩, st⟩ := Jvm.LawKit.callS X hx (y := y) hown (mvT hZ w1) (mvT hZ w2) (mvT hZ w3) (mvT hZ w4) hy (backOf (W := W) hM hZ w4 w3 hf hl) hg hsize (argsL := argsL) (rest := rest) (lenOf hd hlen) hstack hW hdg (fun _ _ => ⟨rfl, eT, hc, hs⟩)
  dsimp only [Pt.U, Pt.locs, Pt.cells, Pt.slots] at X' l1 y1 z1 st hQ
  subst l1 y1 z1
  exact ⟨v, T', Lc, X', hQ, st⟩
theorem own_callI (X : Stand p l e R s m args below meth c T locs k n) (hx : p.tables.exec = Jvm.exec) (hZ : Z.Warmed39 s.vm) {own : String} {index : Nat} {y : MethodName} {bytes : ByteArray} {maxL W : Nat} {rm : Room} {a : Addr} {argsL rest : List Value} {ps : List FieldType} {r : Option FieldType} {Qc : Option Value → Heap → List Loc → Prop}
    (hy1 : y.name = "<init>") (hown : s.vm.findClass own = some m.cls) (w1 : (Jvm.Cond.methodLink own index y).before a0 Z = true) (w2 : (Jvm.Cond.instanceMethod y).before a0 Z = true) (w3 : (Jvm.Cond.initialized y.cls).before a0 Z = true) (w4 : (Jvm.Cond.code y bytes maxL none).before a0 Z = true) (hy : y.cls ≠ "java/lang/invoke/MethodHandle" ∧ y.cls ≠ "java/lang/invoke/VarHandle")
    (hM : MetFree l y (head1 [Jvm.Cond.code y bytes maxL none] rm) (fun a' U => a' = (Value.ref a :: argsL).toArray ∧ Z.Warmed39 U.vm ∧ U.heap = h) (fun _ _ _ _ _ => True) (fun _ U o U' => ∃ v L, o = .returned v ∧ Qc v U'.heap L ∧ FrameEnd U o U' L rm.cells rm.slots))
    (hf : rm.frames + 1 ≤ R.frames) (hl : W + (maxL + 11) + rm.locals ≤ R.locals) (hc : k + rm.cells ≤ R.cells) (hs : n + rm.slots ≤ R.slots) (eT : T.heap = h)
    (hg : g.method = m) (hsize : g.locals.size = c.maxLocals) (hd : parseMethodDescriptor y.desc = some ⟨ps, r⟩) (hlen : argsL.length = ps.length) (hstack : g.stack = argsL.reverse ++ .ref a :: rest) (hW : 2 * g.monitorRoom + (rest.map fun v => v.category).sum ≤ W) (hdg : decode c.code g.pc = .ok (.invokespecial index, 3)) :
    ∃ v T' L, Stand p l e R s m args below meth c T' (locs ++ L) (k + rm.cells) (n + rm.slots) ∧ Qc v T'.heap L ∧ ∀ t, Steps p.tables e below (T'.setTop { g with pc := g.pc + 3, stack := v.toList ++ rest }) t → Steps p.tables e below (T.setTop g) t := by
  obtain ⟨v, vm1, ⟨T', L', k', n'⟩, -, X', ⟨Lc, hQ, l1, y1, z1⟩, st⟩ := X.specialBack hx (y := y) hy1 hown (mvT hZ w1) (mvT hZ w2) (mvT hZ w4) hy (backOf (W := W) hM hZ w4 w3 hf hl) hg hsize (Steps.refl _) (a := a) (argsL := argsL) (rest := rest) (lenOf hd hlen) hstack hW hdg (fun _ _ => ⟨rfl, eT, hc, hs⟩)
  dsimp only [Pt.U, Pt.locs, Pt.cells, Pt.slots] at X' l1 y1 z1 st hQ
  subst l1 y1 z1
  exact ⟨v, T', Lc, X', hQ, fun t k => st.trans k⟩
theorem own_callV (X : Stand p l e R s m args below meth c T locs k n) (hx : p.tables.exec = Jvm.exec) (hZ : Z.Warmed39 s.vm) {own C : String} {index : Nat} {y : MethodName} {bytes : ByteArray} {maxL W : Nat} {rt : Option FieldType} {rm : Room} {a : Addr} {argsL rest : List Value} {ps : List FieldType} {r : Option FieldType} {Qc : Option Value → Heap → List Loc → Prop}
    (hown : s.vm.findClass own = some m.cls) (w1 : (Jvm.Cond.methodLink own index y).before a0 Z = true) (w2 : (Jvm.Cond.declares y).before a0 Z = true) (w5 : (Jvm.Cond.selects C y y).before a0 Z = true) (w6 : (Jvm.Cond.instanceMethod y).before a0 Z = true) (w3 : (Jvm.Cond.initialized y.cls).before a0 Z = true) (w4 : (Jvm.Cond.code y bytes maxL rt).before a0 Z = true) (hy : y.cls ≠ "java/lang/invoke/MethodHandle" ∧ y.cls ≠ "java/lang/invoke/VarHandle")
    (E : Exa Z h a C)
    (hM : MetFree l y (head1 [Jvm.Cond.code y bytes maxL rt] rm) (fun a' U => a' = (Value.ref a :: argsL).toArray ∧ Z.Warmed39 U.vm ∧ U.heap = h) (fun _ _ _ _ _ => True) (fun _ U o U' => ∃ v L, o = .returned v ∧ Qc v U'.heap L ∧ FrameEnd U o U' L rm.cells rm.slots))
    (hf : rm.frames + 1 ≤ R.frames) (hl : W + (maxL + 11) + rm.locals ≤ R.locals) (hc : k + rm.cells ≤ R.cells) (hs : n + rm.slots ≤ R.slots) (eT : T.heap = h)
    (hg : g.method = m) (hsize : g.locals.size = c.maxLocals) (hd : parseMethodDescriptor y.desc = some ⟨ps, r⟩) (hlen : argsL.length = ps.length) (hstack : g.stack = argsL.reverse ++ .ref a :: rest) (hW : 2 * g.monitorRoom + (rest.map fun v => v.category).sum ≤ W) (hdg : decode c.code g.pc = .ok (.invokevirtual index, 3)) :
    ∃ v T' L, Stand p l e R s m args below meth c T' (locs ++ L) (k + rm.cells) (n + rm.slots) ∧ Qc v T'.heap L ∧ ∀ t, Steps p.tables e below (T'.setTop { g with pc := g.pc + 3, stack := v.toList ++ rest }) t → Steps p.tables e below (T.setTop g) t := by
  obtain ⟨cq, kq, q1, q2, q3⟩ := isOf hZ eT E
  obtain ⟨v, vm1, ⟨T', L', k', n'⟩, -, X', ⟨Lc, hQ, l1, y1, z1⟩, st⟩ := X.virtualBack hx (y := y) (z := y) hown (mvT hZ w1) (mvT hZ w2) (notFace_of_selects (args := #[]) (mvT hZ w5)) (mvT hZ w5) (mvT hZ w6) hy (backOf (W := W) hM hZ w4 w3 hf hl) q1 q3 hg hsize (Steps.refl _) (argsL := argsL) (rest := rest) (lenOf hd hlen) hstack hW hdg (fun _ _ => ⟨rfl, eT, hc, hs⟩)
  dsimp only [Pt.U, Pt.locs, Pt.cells, Pt.slots] at X' l1 y1 z1 st hQ
  subst l1 y1 z1
  exact ⟨v, T', Lc, X', hQ, fun t k => st.trans k⟩
theorem lrem_eq_mod (x y : Int64) : x - (x / y) * y = x % y := by
  apply Int64.toInt_inj.mp
  have h1 := Int64.le_toInt (x % y)
  have h2 := Int64.toInt_lt (x % y)
  rw [Int64.toInt_sub, Int64.toInt_mul, Int64.toInt_div, Int.bmod_mul_bmod, Int.sub_bmod_bmod, Int.mul_comm (x.toInt.tdiv y.toInt), ← Int.tmod_def, ← Int64.toInt_mod]
  exact Int.bmod_eq_of_le_mul_two (by omega) (by omega)
theorem own_lrem (X : Stand p l e R s m args below meth c T locs k n) (hx : p.tables.exec = Jvm.exec) (hg : g.method = m) {x y : Int64} {rest : List Value} (hd : decode c.code g.pc = .ok (.lrem, 1)) (hs : g.stack = .long y :: .long x :: rest) (hy : y ≠ 0) {target : State}
    (hr : Steps p.tables e below (T.setTop { g with pc := g.pc + 1, stack := .long (x % y) :: rest }) target) : Steps p.tables e below (T.setTop g) target := by
  exact XT.lrem X.here hx hg hd hs hy (by rw [lrem_eq_mod]; exact hr)
theorem cl_lt (x y : Int64) : XT.cmpL x y < 0 ↔ x < y := by
  unfold XT.cmpL
  split
  · rename_i q; simp only [Int64.lt_iff_toInt_lt] at *; constructor <;> intro w <;> first | (exact absurd w (by decide)) | omega
  · split
    · rename_i q r; subst r; constructor <;> intro w
      · exact absurd w (by decide)
      · exact absurd w q
    · rename_i q r; constructor <;> intro w
      · simp only [Int64.lt_iff_toInt_lt, ← Int64.toInt_inj] at *; omega
      · decide
theorem cl_gt (x y : Int64) : 0 < XT.cmpL x y ↔ y < x := by
  unfold XT.cmpL
  split
  · rename_i q; exact ⟨fun _ => q, fun _ => by decide⟩
  · rename_i q
    constructor
    · intro w; split at w <;> exact absurd w (by decide)
    · intro w; exact absurd w q
theorem cl_eq (x y : Int64) : XT.cmpL x y = 0 ↔ x = y := by
  unfold XT.cmpL
  split
  · rename_i q; constructor
    · intro w; exact absurd w (by decide)
    · intro w; subst w; simp only [Int64.lt_iff_toInt_lt] at q; omega
  · split
    · rename_i r; exact ⟨fun _ => r, fun _ => rfl⟩
    · rename_i r; constructor
      · intro w; exact absurd w (by decide)
      · intro w; exact absurd w r
end OwnKit
end Jvm.RoadKit
namespace Jvm.RoadKit
open Sem ClassFile Op Lib Jvm.Stand Jvm.Free Jvm.LawKit
section OwnHeap
variable {p : Program} {l : Launch} {e : Env} {R : Room} {s : State} {m : MethodId} {args : Array Value} {below : List Frame} {meth : Method} {c : Code} {T T' : State} {locs locs' : List Loc} {k n k' n' : Nat} {Z : State} {a0 : Array Value} {h h' h0 : Heap} {g : JFrame} {a b : Addr} {ws ws' : List Addr} {n0 : Nat}
theorem keep_ext (E : Ext h h') : Keep h h' [] := (Keep.refl h []).ext E
theorem nin1 {x y : Addr} (q : x ≠ y) : x ∉ [y] := ninS q nin0
/-- an array: its length and what each place holds -/
def Ary (Z : State) (h : Heap) (a : Addr) (ty : FieldType) (n : Nat) (f : Nat → Value) : Prop := ∃ c : Cell, Arr Z h a c ty ∧ c.slots.size = n ∧ n < 2 ^ 31 ∧ ∀ i, i < n → c.slots[i]? = some (f i)
def updN {α : Type} (f : Nat → α) (j : Nat) (v : α) : Nat → α := fun i => if i = j then v else f i
theorem updN_same {α : Type} (f : Nat → α) (j : Nat) (v : α) : updN f j v j = v := if_pos rfl
theorem updN_ne {α : Type} (f : Nat → α) {i j : Nat} (v : α) (q : i ≠ j) : updN f j v i = f i := if_neg q
def InB (j : Int32) (n : Nat) : Prop := ¬ j < 0 ∧ j.toNatClampNeg < n
instance (j : Int32) (n : Nat) : Decidable (InB j n) := inferInstanceAs (Decidable (¬ j < 0 ∧ j.toNatClampNeg < n))
variable {ty : FieldType} {len : Nat} {f : Nat → Value}
theorem Ary.lt (F : Ary Z h a ty len f) : a < h.size := by obtain ⟨c, A, -⟩ := F; exact A.lt
theorem Ary.keep (F : Ary Z h a ty len f) (K : Keep h h' ws) (q : a ∉ ws) : Ary Z h' a ty len f := by
  obtain ⟨c, A, r⟩ := F; exact ⟨c, ⟨K.2.1 a c A.1 q, A.2⟩, r⟩
theorem Ary.small (F : Ary Z h a ty len f) : len < 2 ^ 31 := by obtain ⟨c, A, r1, r2, -⟩ := F; exact r2
theorem Ary.congr {f' : Nat → Value} (F : Ary Z h a ty len f) (q : ∀ i, i < len → f i = f' i) : Ary Z h a ty len f' := by
  obtain ⟨c, A, r1, r2, r3⟩ := F; exact ⟨c, A, r1, r2, fun i hi => by rw [← q i hi]; exact r3 i hi⟩
theorem Ary.wr {v : Value} {j : Nat} (F : Ary Z h a ty len f) (W : Wr h h' a j v) (hj : j < len) : Ary Z h' a ty len (updN f j v) := by
  obtain ⟨c, A, r1, r2, r3⟩ := F
  refine ⟨_, A.same W, by rw [sz_set]; exact r1, r2, fun i hi => ?_⟩
  by_cases q : i = j
  · subst q; rw [updN_same]; simp [Cell.setSlot, r1, hi]
  · rw [updN_ne _ _ q]; simp only [Cell.setSlot]; rw [Array.getElem?_setIfInBounds_ne (Ne.symm q)]; exact r3 i hi
theorem not_in {j : Int32} {n : Nat} (q : InB j n) {c : Cell} (r : c.slots.size = n) : ¬ (j < 0 ∨ c.slots.size ≤ j.toNatClampNeg) := by
  rw [r]; obtain ⟨q1, q2⟩ := q; intro z; rcases z with z | z
  · exact q1 z
  · omega
theorem own_len (X : Stand p l e R s m args below meth c T locs k n) (hx : p.tables.exec = Jvm.exec) (hZ : Z.Warmed39 s.vm) (eT : T.heap = h) (A : Ary Z h a ty len f) {rest : List Value} (hg : g.method = m) (hs : g.stack = .ref a :: rest) (hd : decode c.code g.pc = .ok (.arraylength, 1)) (t : State)
    (hr : Steps p.tables e below (T.setTop { g with pc := g.pc + 1, stack := .int len.toInt32 :: rest }) t) : Steps p.tables e below (T.setTop g) t := by
  obtain ⟨cl, A1, r1, r2, r3⟩ := A
  refine X.arraylength hx (by rw [eT]; exact A1.1) (State.isArrayOf_alike hZ.alike A1.2.1) hg hs hd t ?_
  rw [r1]; exact hr
theorem own_ldI (X : Stand p l e R s m args below meth c T locs k n) (hx : p.tables.exec = Jvm.exec) (hZ : Z.Warmed39 s.vm) (eT : T.heap = h) (A : Ary Z h a .int len f) {j : Int32} (hj : InB j len) {v : Value} (hv : f j.toNatClampNeg = v) {rest : List Value} (hg : g.method = m) (hs : g.stack = .int j :: .ref a :: rest) (hd : decode c.code g.pc = .ok (.iaload, 1)) (t : State)
    (hr : Steps p.tables e below (T.setTop { g with pc := g.pc + 1, stack := v :: rest }) t) : Steps p.tables e below (T.setTop g) t := by
  obtain ⟨cl, A1, r1, r2, r3⟩ := A
  exact X.iaload hx (by rw [eT]; exact A1.1) (State.isArrayOf_alike hZ.alike A1.2.1) A1.2.2 (not_in hj r1) (by rw [r3 _ hj.2, hv]) hg hs hd t hr
theorem own_ldJ (X : Stand p l e R s m args below meth c T locs k n) (hx : p.tables.exec = Jvm.exec) (hZ : Z.Warmed39 s.vm) (eT : T.heap = h) (A : Ary Z h a .long len f) {j : Int32} (hj : InB j len) {v : Value} (hv : f j.toNatClampNeg = v) {rest : List Value} (hg : g.method = m) (hs : g.stack = .int j :: .ref a :: rest) (hd : decode c.code g.pc = .ok (.laload, 1)) (t : State)
    (hr : Steps p.tables e below (T.setTop { g with pc := g.pc + 1, stack := v :: rest }) t) : Steps p.tables e below (T.setTop g) t := by
  obtain ⟨cl, A1, r1, r2, r3⟩ := A
  exact X.laload hx (by rw [eT]; exact A1.1) (State.isArrayOf_alike hZ.alike A1.2.1) A1.2.2 (not_in hj r1) (by rw [r3 _ hj.2, hv]) hg hs hd t hr
theorem own_ldC (X : Stand p l e R s m args below meth c T locs k n) (hx : p.tables.exec = Jvm.exec) (hZ : Z.Warmed39 s.vm) (eT : T.heap = h) (A : Ary Z h a .char len f) {j : Int32} (hj : InB j len) {v : Value} (hv : f j.toNatClampNeg = v) {rest : List Value} (hg : g.method = m) (hs : g.stack = .int j :: .ref a :: rest) (hd : decode c.code g.pc = .ok (.caload, 1)) (t : State)
    (hr : Steps p.tables e below (T.setTop { g with pc := g.pc + 1, stack := v :: rest }) t) : Steps p.tables e below (T.setTop g) t := by
  obtain ⟨cl, A1, r1, r2, r3⟩ := A
  exact X.caload hx (by rw [eT]; exact A1.1) (State.isArrayOf_alike hZ.alike A1.2.1) A1.2.2 (not_in hj r1) (by rw [r3 _ hj.2, hv]) hg hs hd t hr
theorem own_ldB (X : Stand p l e R s m args below meth c T locs k n) (hx : p.tables.exec = Jvm.exec) (hZ : Z.Warmed39 s.vm) (eT : T.heap = h) (A : Ary Z h a .byte len f) {j : Int32} (hj : InB j len) {v : Value} (hv : f j.toNatClampNeg = v) {rest : List Value} (hg : g.method = m) (hs : g.stack = .int j :: .ref a :: rest) (hd : decode c.code g.pc = .ok (.baload, 1)) (t : State)
    (hr : Steps p.tables e below (T.setTop { g with pc := g.pc + 1, stack := v :: rest }) t) : Steps p.tables e below (T.setTop g) t := by
  obtain ⟨cl, A1, r1, r2, r3⟩ := A
  exact X.baloadBytes hx (by rw [eT]; exact A1.1) (State.isArrayOf_alike hZ.alike A1.2.1) A1.2.2 (not_in hj r1) (by rw [r3 _ hj.2, hv]) hg hs hd t hr
theorem own_ldA (X : Stand p l e R s m args below meth c T locs k n) (hx : p.tables.exec = Jvm.exec) (hZ : Z.Warmed39 s.vm) (eT : T.heap = h) (A : Ary Z h a ty len f) (hty : ty.isReference = true) {j : Int32} (hj : InB j len) {v : Value} (hv : f j.toNatClampNeg = v) {rest : List Value} (hg : g.method = m) (hs : g.stack = .int j :: .ref a :: rest) (hd : decode c.code g.pc = .ok (.aaload, 1)) (t : State)
    (hr : Steps p.tables e below (T.setTop { g with pc := g.pc + 1, stack := v :: rest }) t) : Steps p.tables e below (T.setTop g) t := by
  obtain ⟨cl, A1, r1, r2, r3⟩ := A
  exact X.aaload hx (by rw [eT]; exact A1.1) (State.isArrayOf_alike hZ.alike A1.2.1) hty A1.2.2 (not_in hj r1) (by rw [r3 _ hj.2, hv]) hg hs hd t hr
theorem own_stI (X : Stand p l e R s m args below meth c T locs k n) (hx : p.tables.exec = Jvm.exec) (hZ : Z.Warmed39 s.vm) (eT : T.heap = h) (N : Fr n0 locs) {G : Nat → Int32} (A : Ary Z h a .int len (fun i => .int (G i))) (ga : n0 ≤ a) {j x : Int32} (hj : InB j len) {rest : List Value} (hg : g.method = m) (hs : g.stack = .int x :: .int j :: .ref a :: rest) (hd : decode c.code g.pc = .ok (.iastore, 1)) :
    ∃ (T' : State) (h' : Heap) (locs' : List Loc), Stand p l e R s m args below meth c T' locs' k n ∧ T'.heap = h' ∧ Fr n0 locs' ∧ Keep h h' [a] ∧ Ary Z h' a .int len (fun i => .int (updN G j.toNatClampNeg x i)) ∧ ∀ t, Steps p.tables e below (T'.setTop { g with pc := g.pc + 1, stack := rest }) t → Steps p.tables e below (T.setTop g) t := by
  obtain ⟨cl, A1, r⟩ := A
  obtain ⟨T', h', X', e', W, st⟩ := stI X hx hZ eT A1 (not_in hj r.1) hg hs hd
  exact ⟨T', h', _, X', e', Fr.snoc X' N ga, Keep.of_wr W, (Ary.wr ⟨cl, A1, r⟩ W hj.2).congr (fun i _ => by unfold updN; split <;> rfl), st⟩
theorem own_stJ (X : Stand p l e R s m args below meth c T locs k n) (hx : p.tables.exec = Jvm.exec) (hZ : Z.Warmed39 s.vm) (eT : T.heap = h) (N : Fr n0 locs) {G : Nat → Int64} (A : Ary Z h a .long len (fun i => .long (G i))) (ga : n0 ≤ a) {j : Int32} {x : Int64} (hj : InB j len) {rest : List Value} (hg : g.method = m) (hs : g.stack = .long x :: .int j :: .ref a :: rest) (hd : decode c.code g.pc = .ok (.lastore, 1)) :
    ∃ (T' : State) (h' : Heap) (locs' : List Loc), Stand p l e R s m args below meth c T' locs' k n ∧ T'.heap = h' ∧ Fr n0 locs' ∧ Keep h h' [a] ∧ Ary Z h' a .long len (fun i => .long (updN G j.toNatClampNeg x i)) ∧ ∀ t, Steps p.tables e below (T'.setTop { g with pc := g.pc + 1, stack := rest }) t → Steps p.tables e below (T.setTop g) t := by
  obtain ⟨cl, A1, r⟩ := A
  obtain ⟨T', h', X', e', W, st⟩ := stJ X hx hZ eT A1 (not_in hj r.1) hg hs hd
  exact ⟨T', h', _, X', e', Fr.snoc X' N ga, Keep.of_wr W, (Ary.wr ⟨cl, A1, r⟩ W hj.2).congr (fun i _ => by unfold updN; split <;> rfl), st⟩
theorem own_stC (X : Stand p l e R s m args below meth c T locs k n) (hx : p.tables.exec = Jvm.exec) (hZ : Z.Warmed39 s.vm) (eT : T.heap = h) (N : Fr n0 locs) {G : Nat → Int32} (A : Ary Z h a .char len (fun i => .int (G i))) (ga : n0 ≤ a) {j x : Int32} (hj : InB j len) {rest : List Value} (hg : g.method = m) (hs : g.stack = .int x :: .int j :: .ref a :: rest) (hd : decode c.code g.pc = .ok (.castore, 1)) :
    ∃ (T' : State) (h' : Heap) (locs' : List Loc), Stand p l e R s m args below meth c T' locs' k n ∧ T'.heap = h' ∧ Fr n0 locs' ∧ Keep h h' [a] ∧ Ary Z h' a .char len (fun i => .int (updN G j.toNatClampNeg (nar .char x) i)) ∧ ∀ t, Steps p.tables e below (T'.setTop { g with pc := g.pc + 1, stack := rest }) t → Steps p.tables e below (T.setTop g) t := by
  obtain ⟨cl, A1, r⟩ := A
  obtain ⟨T', h', X', e', W, st⟩ := stC X hx hZ eT A1 (not_in hj r.1) hg hs hd
  exact ⟨T', h', _, X', e', Fr.snoc X' N ga, Keep.of_wr W, (Ary.wr ⟨cl, A1, r⟩ W hj.2).congr (fun i _ => by unfold updN; split <;> rfl), st⟩
theorem own_stB (X : Stand p l e R s m args below meth c T locs k n) (hx : p.tables.exec = Jvm.exec) (hZ : Z.Warmed39 s.vm) (eT : T.heap = h) (N : Fr n0 locs) {G : Nat → Int32} (A : Ary Z h a .byte len (fun i => .int (G i))) (ga : n0 ≤ a) {j x : Int32} (hj : InB j len) {rest : List Value} (hg : g.method = m) (hs : g.stack = .int x :: .int j :: .ref a :: rest) (hd : decode c.code g.pc = .ok (.bastore, 1)) :
    ∃ (T' : State) (h' : Heap) (locs' : List Loc), Stand p l e R s m args below meth c T' locs' k n ∧ T'.heap = h' ∧ Fr n0 locs' ∧ Keep h h' [a] ∧ Ary Z h' a .byte len (fun i => .int (updN G j.toNatClampNeg (nar .byte x) i)) ∧ ∀ t, Steps p.tables e below (T'.setTop { g with pc := g.pc + 1, stack := rest }) t → Steps p.tables e below (T.setTop g) t := by
  obtain ⟨cl, A1, r⟩ := A
  obtain ⟨T', h', X', e', W, st⟩ := stB X hx hZ eT A1 (not_in hj r.1) hg hs hd
  exact ⟨T', h', _, X', e', Fr.snoc X' N ga, Keep.of_wr W, (Ary.wr ⟨cl, A1, r⟩ W hj.2).congr (fun i _ => by unfold updN; split <;> rfl), st⟩
/-- newarray of a length that is not negative and at most cap -/
theorem own_new (X : Stand p l e R s m args below meth c T locs k n) (hx : p.tables.exec = Jvm.exec) (hZ : Z.Warmed39 s.vm) {aty : ArrayType} (w : (Jvm.Cond.arrayClass (newarray.typeOf aty)).before a0 Z = true) (eT : T.heap = h) (hg : g.method = m) (hd : decode c.code g.pc = .ok (.newarray aty, 2)) {z : Int32} {rest : List Value} (hs : g.stack = .int z :: rest)
    (hn : ¬ z < 0) {cap : Nat} (hcap : z.toNatClampNeg ≤ cap) (hb : cap * 8 ≤ 536870912) (hc : k + 1 ≤ R.cells) (hl : n + cap ≤ R.slots) :
    ∃ (T' : State) (h' : Heap) (a : Addr), Stand p l e R s m args below meth c T' locs (k + 1) (n + cap) ∧ T'.heap = h' ∧ a = h.size ∧ Keep h h' [] ∧ Ary Z h' a (newarray.typeOf aty) z.toNatClampNeg (fun _ => defaultValue (newarray.typeOf aty)) ∧
      ∀ t, Steps p.tables e below (T'.setTop { g with pc := g.pc + 2, stack := .ref a :: rest }) t → Steps p.tables e below (T.setTop g) t := by
  obtain ⟨T', h', cA, X', e', E, A, st⟩ := newP X hx hZ w eT hg hd hs hn hcap hb hc hl
  refine ⟨T', h', _, X', e', rfl, keep_ext E, ⟨_, A, sz_new _ _ _, ?_, fun i hi => ?_⟩, st⟩
  · exact (back32 hn).2
  · simp [newA, hi]
/-- an object's field written: the heap, what is kept, the field -/
theorem own_putF (X : Stand p l e R s m args below meth c T locs k n) (hx : p.tables.exec = Jvm.exec) (hZ : Z.Warmed39 s.vm) {own O nm d C : String} {index kk : Nat} {fty : FieldType} (hown : s.vm.findClass own = some m.cls) (w : (Jvm.Cond.fieldLink own index O nm d).before a0 Z = true)
    (eT : T.heap = h) (N : Fr n0 locs) {u v : Value} (F : Fld Z h a O nm d u) (E : Exa Z h a C) (ga : n0 ≤ a) (lw : (Jvm.Cond.lays C O nm d).before a0 Z = true ∨ ((Jvm.Cond.laysFinal C O nm d).before a0 Z = true ∧ own = O ∧ meth.name = "<init>")) (wi : (Jvm.Cond.instantiable C kk).before a0 Z = true)
    (hty : parseFieldDescriptor d = some fty) (hn : narrow fty v = v) (hf : fits fty v = true) {rest : List Value} (hg : g.method = m) (hs : g.stack = v :: .ref a :: rest) (hd : decode c.code g.pc = .ok (.putfield index, 3)) :
    ∃ (T' : State) (h' : Heap) (locs' : List Loc), Stand p l e R s m args below meth c T' locs' k n ∧ T'.heap = h' ∧ Fr n0 locs' ∧ Wr h h' a (slotOf Z O nm d) v ∧ Fld Z h' a O nm d v ∧ ∀ t, Steps p.tables e below (T'.setTop { g with pc := g.pc + 3, stack := rest }) t → Steps p.tables e below (T.setTop g) t := by
  obtain ⟨T', h', X', e', W, st⟩ := putF X hx hZ hown (host := "") (Or.inl w) Via.refl eT F E lw wi (ty := fty) hty hn hf hg hs hd
  exact ⟨T', h', _, X', e', Fr.snoc X' N ga, W, F.same W, st⟩
theorem Exa.neS {C : String} (F : Exa Z h a C) (q : b = h.size) : a ≠ b := by
  have r := Exa.lt F; intro z; rw [z, q] at r; exact Nat.lt_irrefl _ r
theorem Ary.neS (F : Ary Z h a ty len f) (q : b = h.size) : a ≠ b := by
  have r := Ary.lt F; intro z; rw [z, q] at r; exact Nat.lt_irrefl _ r
end OwnHeap
end Jvm.RoadKit
namespace Jvm.RoadKit
open Sem ClassFile Op Lib Jvm.Stand Jvm.Free Jvm.LawKit
section OwnNum
theorem i32lt (x y : Int32) : x < y ↔ x.toInt < y.toInt := Int32.lt_iff_toInt_lt
theorem i32eq (x y : Int32) : x = y ↔ x.toInt = y.toInt := Int32.toInt_inj.symm
theorem i64lt (x y : Int64) : x < y ↔ x.toInt < y.toInt := Int64.lt_iff_toInt_lt
theorem i64eq (x y : Int64) : x = y ↔ x.toInt = y.toInt := Int64.toInt_inj.symm
theorem nar0 : nar .boolean 0 = 0 := by decide
theorem nar1 : nar .boolean 1 = 1 := by decide
theorem narI (P : Prop) [Decidable P] : nar .boolean (if P then 1 else 0) = if P then 1 else 0 := by split <;> decide
theorem ushr_pos {x y : Int32} (hx : 0 ≤ x.toInt) {k : Nat} (hn : (y &&& 31).toUInt32.toNat = k) (hk : k < 32) : (XT.ushr x y).toInt = x.toInt / 2 ^ k :=
  Jvm.Kit.i32_iushr (Jvm.Kit.i32_nonneg.mpr hx) hn hk
theorem ushr_nat (x y : Int32) {k : Nat} (hn : (y &&& 31).toUInt32.toNat = k) (h1 : 0 < k) (hk : k < 32) : (XT.ushr x y).toInt = (x.toBitVec.toNat / 2 ^ k : Nat) := by
  have e1 : (XT.ushr x y).toBitVec.toNat = x.toBitVec.toNat / 2 ^ k := by
    show (x.toUInt32 >>> (y &&& 31).toUInt32).toNat = _
    rw [UInt32.toNat_shiftRight, hn, Nat.mod_eq_of_lt hk, Nat.shiftRight_eq_div_pow]
    rfl
  have e2 := x.toBitVec.isLt
  have e3 : x.toBitVec.toNat / 2 ^ k < 2 ^ 31 := by
    apply Nat.div_lt_of_lt_mul
    calc x.toBitVec.toNat < 2 ^ 32 := e2
      _ ≤ 2 ^ k * 2 ^ 31 := by rw [← Nat.pow_add]; exact Nat.pow_le_pow_right (by omega) (by omega)
  show (XT.ushr x y).toBitVec.toInt = _
  rw [BitVec.toInt_eq_toNat_of_lt (by rw [e1]; omega), e1]
theorem inb_of_toInt {j : Int32} {n : Nat} (h1 : 0 ≤ j.toInt) (h2 : j.toInt < n) : InB j n := by
  refine ⟨?_, ?_⟩
  · rw [i32lt]; show ¬ j.toInt < 0; omega
  · simp only [Int32.toNatClampNeg]; omega
theorem or32_nat (n : Nat) : n ||| 32 = n + (if n % 64 < 32 then 32 else 0) := by
  have h1 : (n ||| 32) % 2 ^ 6 = (n % 2 ^ 6) ||| (32 % 2 ^ 6) := Nat.or_mod_two_pow
  have h2 : (n ||| 32) / 2 ^ 6 = n / 2 ^ 6 := by
    rw [← Nat.shiftRight_eq_div_pow, Nat.shiftRight_or_distrib, ← Nat.shiftRight_eq_div_pow]
    simp
  have h3 : ∀ r : Fin 64, r.val ||| 32 = if r.val < 32 then r.val + 32 else r.val := by decide
  have h4 := h3 ⟨n % 64, Nat.mod_lt _ (by omega)⟩
  simp only at h4
  have h5 : (n % 2 ^ 6) ||| (32 % 2 ^ 6) = (n % 64) ||| 32 := rfl
  rw [h5, h4] at h1
  split at h1 <;> split <;> omega
theorem or32 (c : Int32) : (c ||| 32).toInt = c.toInt + (if c.toInt % 64 < 32 then 32 else 0) := by
  have e1 : (c ||| 32).toBitVec.toNat = c.toBitVec.toNat ||| 32 := by simp [BitVec.toNat_or]
  have e2 : c.toInt = c.toBitVec.toInt := rfl
  have e3 : (c ||| 32).toInt = (c ||| 32).toBitVec.toInt := rfl
  have e4 := c.toBitVec.isLt
  have e5 := (c ||| 32).toBitVec.isLt
  rw [e2, e3, BitVec.toInt_eq_toNat_cond, BitVec.toInt_eq_toNat_cond, e1, or32_nat]
  rw [e1, or32_nat] at e5
  split at e5 <;> split <;> split <;> split <;> omega
theorem i2c_toInt (x : Int32) : (x.toUInt32.toUInt16.toUInt32.toInt32).toInt = x.toInt % 65536 := by
  have e1 : (x.toUInt32.toUInt16.toUInt32.toInt32).toBitVec.toNat = x.toBitVec.toNat % 65536 := by
    show (x.toUInt32.toUInt16.toUInt32).toNat = _
    simp
    rfl
  have e2 := x.toBitVec.isLt
  have e3 : x.toInt = x.toBitVec.toInt := rfl
  have e4 : (x.toUInt32.toUInt16.toUInt32.toInt32).toInt = (x.toUInt32.toUInt16.toUInt32.toInt32).toBitVec.toInt := rfl
  rw [e3, e4, BitVec.toInt_eq_toNat_cond, BitVec.toInt_eq_toNat_cond, e1]
  split <;> split <;> omega
theorem mulbd {a b : Int} (h1 : 0 ≤ a) (h2 : a ≤ 2147483648) (h3 : 0 ≤ b) (h4 : b ≤ 2147483648) : 0 ≤ a * b ∧ a * b ≤ 4611686018427387904 := by
  refine ⟨Int.mul_nonneg h1 h3, ?_⟩
  have h : a * b ≤ 2147483648 * 2147483648 := Int.mul_le_mul h2 h4 h3 (by omega)
  omega
theorem mul64g {x y : Int64} (h1 : 0 ≤ x.toInt) (h2 : x.toInt ≤ 2147483648) (h3 : 0 ≤ y.toInt) (h4 : y.toInt ≤ 2147483648) : (x * y).toInt = x.toInt * y.toInt := by
  obtain ⟨b1, b2⟩ := mulbd h1 h2 h3 h4
  exact Jvm.Kit.i64_mul (by omega) (by omega)
theorem mul64 {x y : Int32} (h1 : 0 ≤ x.toInt) (h3 : 0 ≤ y.toInt) : (x.toInt64 * y.toInt64).toInt = x.toInt * y.toInt := by
  have e1 := Jvm.Kit.i64_of_i32 x
  have e2 := Jvm.Kit.i64_of_i32 y
  have b1 := Int32.toInt_lt x
  have b2 := Int32.toInt_lt y
  rw [mul64g (by omega) (by omega) (by omega) (by omega), e1, e2]
/-- the quotient q of a by b: b * q ≤ a < b * q + b -/
theorem quot {a b : Int} (hb : 0 < b) : b * (a / b) ≤ a ∧ a < b * (a / b) + b := by
  have h1 := Int.emod_def a b
  have h2 := Int.emod_nonneg a (show b ≠ 0 by omega)
  have h3 := Int.emod_lt_of_pos a hb
  omega
theorem div64 {x y : Int64} (h1 : 0 ≤ x.toInt) (h2 : 0 < y.toInt) : (x / y).toInt = x.toInt / y.toInt := by
  rw [Jvm.Kit.i64_div (by omega), Int.tdiv_eq_ediv_of_nonneg h1]
theorem mask31 (x : Int32) : (x &&& 2147483647).toInt = x.toInt % 2147483648 := by
  have := Jvm.Kit.i32_mask x 2147483647 (k := 31) (by decide) (by decide)
  omega
theorem rem32 {x y : Int32} (h : 0 ≤ x.toInt) (h2 : 0 < y.toInt) : 0 ≤ (x % y).toInt ∧ (x % y).toInt < y.toInt := by
  rw [Jvm.Kit.i32_rem_nonneg h]
  exact ⟨Int.emod_nonneg _ (by omega), Int.emod_lt_of_pos _ h2⟩
end OwnNum
end Jvm.RoadKit
namespace Jvm.RoadKit
open Sem ClassFile Op Lib Jvm.Stand Jvm.Free Jvm.LawKit
section OwnBits
theorem byte255 (y : Int32) : (nar .byte (y.toInt8.toInt32) &&& 255).toInt = y.toInt % 256 := by
  have h1 := Jvm.Kit.i32_mask (nar .byte (y.toInt8.toInt32)) 255 (k := 8) (by decide) (by decide)
  have h2 : (nar .byte (y.toInt8.toInt32)).toInt = (y.toInt.bmod 256).bmod 256 := by
    show ((y.toInt8.toInt32).toInt8.toInt32).toInt = _
    rw [Int8.toInt_toInt32, Int32.toInt_toInt8, Int8.toInt_toInt32, Int32.toInt_toInt8]
  rw [h1, h2]
  have h3 : ∀ z : Int, z.bmod 256 % 256 = z % 256 := fun z => Int.bmod_emod
  have h4 : (2 : Int) ^ 8 = 256 := rfl
  rw [h4, h3, h3]
theorem natOfI {x : Int32} (h : 0 ≤ x.toInt) : x.toBitVec.toNat = x.toInt.toNat := by
  have e : x.toInt = x.toBitVec.toInt := rfl
  have e2 := x.toBitVec.isLt
  rw [e, BitVec.toInt_eq_toNat_cond] at h ⊢
  split at h <;> split <;> omega
theorem ofNat31 {x : Int32} {n : Nat} (h : x.toBitVec.toNat = n) (h2 : n < 2 ^ 31) : x.toInt = n := by
  have e : x.toInt = x.toBitVec.toInt := rfl
  rw [e, BitVec.toInt_eq_toNat_of_lt (by rw [h]; omega), h]
theorem or_sum {a b : Int32} {k g : Nat} (ha : 0 ≤ a.toInt) (ha2 : a.toInt < 2 ^ k) (hb : b.toInt = (2 ^ k * g : Nat)) (hs : 2 ^ k * g + a.toInt.toNat < 2 ^ 31) : (a ||| b).toInt = a.toInt + b.toInt ∧ (b ||| a).toInt = a.toInt + b.toInt := by
  have e1 : a.toBitVec.toNat = a.toInt.toNat := natOfI ha
  have e2 : b.toBitVec.toNat = 2 ^ k * g := by rw [natOfI (by omega), hb]; exact Int.toNat_natCast _
  have hlt : a.toInt.toNat < 2 ^ k := by
    have : ((2 ^ k : Nat) : Int) = (2 : Int) ^ k := by simp
    omega
  have e3 := Nat.two_pow_add_eq_or_of_lt hlt g
  constructor
  · have e4 : (a ||| b).toBitVec.toNat = 2 ^ k * g + a.toInt.toNat := by
      show (a.toBitVec ||| b.toBitVec).toNat = _
      rw [BitVec.toNat_or, e1, e2, Nat.or_comm, ← e3]
    rw [ofNat31 e4 hs]; omega
  · have e4 : (b ||| a).toBitVec.toNat = 2 ^ k * g + a.toInt.toNat := by
      show (b.toBitVec ||| a.toBitVec).toNat = _
      rw [BitVec.toNat_or, e1, e2, ← e3]
    rw [ofNat31 e4 hs]; omega
theorem or128 {x : Int32} (h : 0 ≤ x.toInt) (h2 : x.toInt < 128) : (x ||| 128).toInt = x.toInt + 128 ∧ (128 ||| x).toInt = x.toInt + 128 := by
  have a : (128 : Int32).toInt = 128 := rfl
  have := or_sum (a := x) (b := 128) (k := 7) (g := 1) h (by omega) (by rw [a]; rfl) (by omega)
  rw [a] at this; exact this
/-- a group of seven bits laid above what is there -/
theorem acc {a g n : Int32} {k : Nat} (hn : (n.toBitVec.smod 32).toNat = k) (ha : 0 ≤ a.toInt) (ha2 : a.toInt < 2 ^ k) (hg : 0 ≤ g.toInt) (hs : g.toInt * 2 ^ k + a.toInt < 2 ^ 31) : (a ||| (g <<< n)).toInt = a.toInt + g.toInt * 2 ^ k := by
  have p : (0 : Int) < 2 ^ k := Int.pow_pos (by omega)
  have q : 0 ≤ g.toInt * 2 ^ k := Int.mul_nonneg hg (by omega)
  have e1 : (g <<< n).toInt = g.toInt * 2 ^ k := Jvm.Kit.i32_shl g n hn (by omega) (by omega)
  have e2 : (g <<< n).toInt = (2 ^ k * g.toInt.toNat : Nat) := by
    rw [e1, Int.natCast_mul, Int.toNat_of_nonneg hg, Int.mul_comm, Int.natCast_pow]; rfl
  have := (or_sum (a := a) (b := g <<< n) (k := k) (g := g.toInt.toNat) ha ha2 e2 (by have := e1.symm.trans e2; omega)).1
  rw [this, e1]
theorem and_not0 (x : Int64) : x &&& ((0 : Int64) ^^^ (-1)) = x := by
  apply Int64.toBitVec_inj.mp
  apply BitVec.eq_of_getLsbD_eq
  intro i hi
  have : (-1 : Int64).toBitVec = BitVec.allOnes 64 := by decide
  simp [this, hi]
theorem and_not2 (x a b : Int64) : (x &&& (a ^^^ (-1))) &&& (b ^^^ (-1)) = x &&& ((a ||| b) ^^^ (-1)) := by
  apply Int64.toBitVec_inj.mp
  apply BitVec.eq_of_getLsbD_eq
  intro i hi
  have : (-1 : Int64).toBitVec = BitVec.allOnes 64 := by decide
  simp [this, hi]
  exact Bool.and_assoc _ _ _
theorem clamp_eq {a b : Int32} (ha : 0 ≤ a.toInt) (hb : 0 ≤ b.toInt) : a.toNatClampNeg = b.toNatClampNeg ↔ a = b := by
  rw [i32eq]; simp only [Int32.toNatClampNeg]; omega
theorem mask63 (v : Int32) : ((v &&& 63).toInt64 &&& 63) = (v.toInt64 &&& 63) := by
  have h1 := Jvm.Kit.i64_mask (v &&& 63).toInt64 63 (k := 6) (by decide) (by decide)
  have h2 := Jvm.Kit.i64_mask v.toInt64 63 (k := 6) (by decide) (by decide)
  have h3 := Jvm.Kit.i32_mask v 63 (k := 6) (by decide) (by decide)
  rw [Jvm.Kit.i64_of_i32] at h1 h2
  rw [i64eq, h1, h2, h3]; omega
theorem charBack {x : Int32} (h : 0 ≤ x.toInt) (h2 : x.toInt < 65536) : nar .char (x.toUInt32.toUInt16.toUInt32.toInt32) = x := by
  have e1 : (nar .char (x.toUInt32.toUInt16.toUInt32.toInt32)).toInt = (x.toUInt32.toUInt16.toUInt32.toInt32).toInt % 65536 := i2c_toInt _
  rw [i32eq, e1, i2c_toInt]; omega
end OwnBits
end Jvm.RoadKit
namespace Jvm.Pilot.@@N@@
open Jvm Jvm.ClassFile Sem Op Lib Jvm.Free Jvm.Stand Jvm.LawKit Jvm.RoadKit Bundle Jvm.Pilot.@@N@@.Jvm.D
theorem d1_0 : decode prog_21_method_1_code 0 = .ok (.aload_n 0, 1) := by decide +kernel
theorem d1_1 : decode prog_21_method_1_code 1 = .ok (.invokespecial 1, 3) := by decide +kernel
theorem d1_4 : decode prog_21_method_1_code 4 = .ok (.aload_n 0, 1) := by decide +kernel
theorem d1_5 : decode prog_21_method_1_code 5 = .ok (.aload_n 1, 1) := by decide +kernel
theorem d1_6 : decode prog_21_method_1_code 6 = .ok (.putfield 7, 3) := by decide +kernel
theorem d1_9 : decode prog_21_method_1_code 9 = .ok (.return_, 1) := by decide +kernel
theorem pn_1 : plainName "com/example/faden/faden/rank/RecordReader" = true := by first | (simp [plainName, overriddenIn]; done) | decide +kernel
theorem ef_1 (m : MethodId) (o0 : Addr) (o1 : Addr) : entryFrame m #[(.ref o0), (.ref o1)] 2 = mkF m 0 #[.val (.ref o0), .val (.ref o1)] [] := by first | (simp [entryFrame, mkF, argsToLocals, Value.category]; done) | rfl
def Q1 (Z : State) (o0 : Addr) (o1 : Addr) (h0 : Heap) (n0 : Nat) : Option Value → Heap → List Loc → Prop := fun v h L => v = none ∧ Fr n0 L ∧ Keep h0 h [o0] ∧ Exa Z h o0 "com/example/faden/faden/rank/RecordReader" ∧ Fld Z h o0 "com/example/faden/faden/rank/RecordReader" "record" "[B" (.ref o1) ∧ Fld Z h o0 "com/example/faden/faden/rank/RecordReader" "at" "I" (.int (0 : Int32))
set_option maxRecDepth 65536 in
set_option maxHeartbeats 40000000 in
theorem j1 {p : Program} {l : Launch} {e : Env} {s : State} {m : MethodId} {args : Array Value} {below : List Frame} {meth : Method} {c : Code} {T0 : State} {locs : List Loc} {Z : State} {a0 : Array Value} {h0 : Heap} {n0 : Nat}
    (X0 : Stand p l e ({ frames := 1, cells := 0, slots := 0, locals := 12 } : Room) s m args below meth c T0 locs 0 0) (hx : p.tables.exec = Jvm.exec) (hZ : Z.Warmed39 s.vm) (hw : ∀ d ∈ tables_1, d.before a0 Z = true) (hby : c.code = prog_21_method_1_code) (hml : c.maxLocals = 2) (hown : s.vm.findClass "com/example/faden/faden/rank/RecordReader" = some m.cls) (hnm : meth.name = "<init>") (e0 : T0.heap = h0) (N0 : Fr n0 locs) (Z0 : n0 ≤ h0.size) (o0 : Addr) (o1 : Addr) (E_o0 : Exa Z h0 o0 "com/example/faden/faden/rank/RecordReader") (g_o0 : n0 ≤ o0) (F_record_o0 : Fld Z h0 o0 "com/example/faden/faden/rank/RecordReader" "record" "[B" .null) (F_at_o0 : Fld Z h0 o0 "com/example/faden/faden/rank/RecordReader" "at" "I" (.int (0 : Int32))) :
    OwnFin X0 none (Q1 Z o0 o1 h0 n0) ({ frames := 1, cells := 0, slots := 0, locals := 12 } : Room).cells ({ frames := 1, cells := 0, slots := 0, locals := 12 } : Room).slots (mkF m 0 #[.val (.ref o0), .val (.ref o1)] []) := by
  refine OwnFin.step (g' := (mkF m 1 #[.val (.ref o0), .val (.ref o1)] [(.ref o0)])) X0 (fun t k => XS.aloadN X0.here hx rfl (hb hby d1_0) rfl rfl k) ?_
  obtain ⟨T1, X1, e1, st1⟩ := initO X0 hx hZ hown (hw _ (wm 10 rfl)) (hw _ (wm 11 rfl)) (hw _ (wm 12 rfl)) e0 (g := (mkF m 1 #[.val (.ref o0), .val (.ref o1)] [(.ref o0)])) rfl (by rw [hml]; rfl) rfl (hb hby d1_1) (by decide) (W := 0) (by show 2 * 0 + _ ≤ _; exact Nat.le_of_eq rfl) (by decide)
  refine OwnFin.step (g' := (mkF m 4 #[.val (.ref o0), .val (.ref o1)] [])) X1 (fun t k => st1 _ k) ?_
  refine OwnFin.step (g' := (mkF m 5 #[.val (.ref o0), .val (.ref o1)] [(.ref o0)])) X1 (fun t k => XS.aloadN X1.here hx rfl (hb hby d1_4) rfl rfl k) ?_
  refine OwnFin.step (g' := (mkF m 6 #[.val (.ref o0), .val (.ref o1)] [(.ref o1), (.ref o0)])) X1 (fun t k => XS.aloadN X1.here hx rfl (hb hby d1_5) rfl rfl k) ?_
  obtain ⟨T2, h2, L2, X2, e2, N2, W2, F2, st2⟩ := own_putF X1 hx hZ hown (hw _ (wm 13 rfl)) e1 N0 F_record_o0 E_o0 g_o0 (Or.inr ⟨(hw _ (wm 14 rfl)), rfl, hnm⟩) (hw _ (wm 5 rfl)) (fty := (.array .byte)) (by decide) rfl rfl (g := (mkF m 6 #[.val (.ref o0), .val (.ref o1)] [(.ref o1), (.ref o0)])) rfl rfl (hb hby d1_6)
  have K2 := Keep.of_wr W2
  have Z2 := Nat.le_trans Z0 K2.1
  have S2 := Nat.le_trans (Nat.le_refl h0.size) K2.1
  have F3 := Fld.other W2 F_at_o0 (Or.inr (slot_ne (Or.inl (hw _ (wm 21 rfl))) (Or.inr (hw _ (wm 14 rfl))) (by decide) (t := .int) (t' := (.array .byte)) (by decide) (by decide)))
  have E4 := Exa.wr W2 E_o0
  refine OwnFin.step (g' := (mkF m 9 #[.val (.ref o0), .val (.ref o1)] [])) X2 (fun t k => st2 _ k) ?_
  refine OwnFin.retVoid X2 (hb hby d1_9) (by decide) (by decide) ?_
  rw [e2]
  exact ⟨rfl, N2, (Keep.trans (Keep.refl h0 [o0]) K2 (allS (Or.inl (wm 0 rfl)) all0)), E4, F2, F3⟩
set_option maxRecDepth 65536 in
set_option maxHeartbeats 40000000 in
theorem rm1 (l : Launch) (Z : State) (a0 : Array Value) (hw : ∀ d ∈ tables_1, d.before a0 Z = true) (ws : List Jvm.Cond) (o0 : Addr) (o1 : Addr) (h0 : Heap) (n0 : Nat) (Z0 : n0 ≤ h0.size) (E_o0 : Exa Z h0 o0 "com/example/faden/faden/rank/RecordReader") (g_o0 : n0 ≤ o0) (F_record_o0 : Fld Z h0 o0 "com/example/faden/faden/rank/RecordReader" "record" "[B" .null) (F_at_o0 : Fld Z h0 o0 "com/example/faden/faden/rank/RecordReader" "at" "I" (.int (0 : Int32))) :
    MetFree l (⟨"com/example/faden/faden/rank/RecordReader", "<init>", "([B)V"⟩ : MethodName) (head1 (Jvm.Cond.code (⟨"com/example/faden/faden/rank/RecordReader", "<init>", "([B)V"⟩ : MethodName) prog_21_method_1_code 2 none :: ws) ({ frames := 1, cells := 0, slots := 0, locals := 12 } : Room)) (fun a U => a = #[(.ref o0), (.ref o1)] ∧ Z.Warmed39 U.vm ∧ U.heap = h0) (fun _ _ _ _ _ => True) (fun _ U o U' => ∃ v L, o = .returned v ∧ (Q1 Z o0 o1 h0 n0) v U'.heap L ∧ FrameEnd U o U' L ({ frames := 1, cells := 0, slots := 0, locals := 12 } : Room).cells ({ frames := 1, cells := 0, slots := 0, locals := 12 } : Room).slots) :=
  own_met (ret := none) (Q := (Q1 Z o0 o1 h0 n0)) (plainFor_of_name pn_1) (fun m => ef_1 m o0 o1) (fun p e s m below meth c s₁ X hx hby hml hown hnm hZ e0 => j1 X hx hZ hw hby hml hown hnm e0 (Fr.nil n0) Z0 o0 o1 E_o0 g_o0 F_record_o0 F_at_o0)
theorem d4_0 : decode prog_21_method_2_code 0 = .ok (.aload_n 0, 1) := by decide +kernel
theorem d4_1 : decode prog_21_method_2_code 1 = .ok (.getfield 13, 3) := by decide +kernel
theorem d4_4 : decode prog_21_method_2_code 4 = .ok (.aload_n 0, 1) := by decide +kernel
theorem d4_5 : decode prog_21_method_2_code 5 = .ok (.getfield 7, 3) := by decide +kernel
theorem d4_8 : decode prog_21_method_2_code 8 = .ok (.arraylength, 1) := by decide +kernel
theorem d4_9 : decode prog_21_method_2_code 9 = .ok (.if_icmp .ne 7, 3) := by decide +kernel
theorem d4_12 : decode prog_21_method_2_code 12 = .ok (.iconst 1, 1) := by decide +kernel
theorem d4_13 : decode prog_21_method_2_code 13 = .ok (.goto 4, 3) := by decide +kernel
theorem d4_16 : decode prog_21_method_2_code 16 = .ok (.iconst 0, 1) := by decide +kernel
theorem d4_17 : decode prog_21_method_2_code 17 = .ok (.ireturn, 1) := by decide +kernel
theorem pn_4 : plainName "com/example/faden/faden/rank/RecordReader" = true := by first | (simp [plainName, overriddenIn]; done) | decide +kernel
theorem ef_4 (m : MethodId) (o0 : Addr) : entryFrame m #[(.ref o0)] 1 = mkF m 0 #[.val (.ref o0)] [] := by first | (simp [entryFrame, mkF, argsToLocals, Value.category]; done) | rfl
def v4_17 (w_at : Int32) (ln : Nat) : Int32 := (if w_at = (ln).toInt32 then (1 : Int32) else (0 : Int32))
def Q4 (Z : State) (o0 : Addr) (ln : Nat) (G : Nat → Int32) (w_record : Addr) (w_at : Int32) (h0 : Heap) (n0 : Nat) : Option Value → Heap → List Loc → Prop := fun v h L => v = some (.int (nar .boolean (v4_17 w_at ln))) ∧ Fr n0 L ∧ Keep h0 h []
set_option maxRecDepth 65536 in
set_option maxHeartbeats 40000000 in
theorem j4 {p : Program} {l : Launch} {e : Env} {s : State} {m : MethodId} {args : Array Value} {below : List Frame} {meth : Method} {c : Code} {T0 : State} {locs : List Loc} {Z : State} {a0 : Array Value} {h0 : Heap} {n0 : Nat}
    (X0 : Stand p l e ({ frames := 0, cells := 0, slots := 0, locals := 0 } : Room) s m args below meth c T0 locs 0 0) (hx : p.tables.exec = Jvm.exec) (hZ : Z.Warmed39 s.vm) (hw : ∀ d ∈ tables_1, d.before a0 Z = true) (hby : c.code = prog_21_method_2_code) (hml : c.maxLocals = 1) (hown : s.vm.findClass "com/example/faden/faden/rank/RecordReader" = some m.cls) (hnm : meth.name = "atEnd") (e0 : T0.heap = h0) (N0 : Fr n0 locs) (Z0 : n0 ≤ h0.size) (o0 : Addr) (ln : Nat) (G : Nat → Int32) (w_record : Addr) (w_at : Int32) (E_o0 : Exa Z h0 o0 "com/example/faden/faden/rank/RecordReader") (g_o0 : n0 ≤ o0) (F_record_o0 : Fld Z h0 o0 "com/example/faden/faden/rank/RecordReader" "record" "[B" (.ref w_record)) (F_at_o0 : Fld Z h0 o0 "com/example/faden/faden/rank/RecordReader" "at" "I" (.int w_at)) (A_w_record : Ary Z h0 w_record .byte ln (fun i => .int (G i))) (ne_o0__w_record : o0 ≠ w_record) :
    OwnFin X0 (some .boolean) (Q4 Z o0 ln G w_record w_at h0 n0) ({ frames := 0, cells := 0, slots := 0, locals := 0 } : Room).cells ({ frames := 0, cells := 0, slots := 0, locals := 0 } : Room).slots (mkF m 0 #[.val (.ref o0)] []) := by
  refine OwnFin.step (g' := (mkF m 1 #[.val (.ref o0)] [(.ref o0)])) X0 (fun t k => XS.aloadN X0.here hx rfl (hb hby d4_0) rfl rfl k) ?_
  obtain ⟨T1, X1, e1, st1⟩ := getF X0 hx hZ hown (host := "") (Or.inl (hw _ (wm 20 rfl))) Via.refl e0 F_at_o0 (g := (mkF m 1 #[.val (.ref o0)] [(.ref o0)])) rfl rfl (hb hby d4_1)
  refine OwnFin.step (g' := (mkF m 4 #[.val (.ref o0)] [(.int w_at)])) X1 (fun t k => st1 _ k) ?_
  refine OwnFin.step (g' := (mkF m 5 #[.val (.ref o0)] [(.ref o0), (.int w_at)])) X1 (fun t k => XS.aloadN X1.here hx rfl (hb hby d4_4) rfl rfl k) ?_
  obtain ⟨T2, X2, e2, st2⟩ := getF X1 hx hZ hown (host := "") (Or.inl (hw _ (wm 13 rfl))) Via.refl e1 F_record_o0 (g := (mkF m 5 #[.val (.ref o0)] [(.ref o0), (.int w_at)])) rfl rfl (hb hby d4_5)
  refine OwnFin.step (g' := (mkF m 8 #[.val (.ref o0)] [(.ref w_record), (.int w_at)])) X2 (fun t k => st2 _ k) ?_
  refine OwnFin.step (g' := (mkF m 9 #[.val (.ref o0)] [(.int (ln).toInt32), (.int w_at)])) X2 (fun t k => own_len X2 hx hZ e2 A_w_record (g := (mkF m 8 #[.val (.ref o0)] [(.ref w_record), (.int w_at)])) rfl rfl (hb hby d4_8) _ k) ?_
  refine OwnFin.step (g' := (mkF m 17 #[.val (.ref o0)] [(.int (v4_17 w_at ln))])) X2 (fun t k => ?_) ?_
  · show Steps p.tables e below (T2.setTop (mkF m 9 #[.val (.ref o0)] [(.int (ln).toInt32), (.int w_at)])) t
    by_cases hc3 : w_at = (ln).toInt32
    · skip
      refine XS.icmpNo X2.here hx rfl (hb hby d4_9) rfl (teq hc3).2 ?_
      show Steps p.tables e below (T2.setTop (mkF m 12 #[.val (.ref o0)] [])) t
      refine XS.iconst X2.here hx rfl (hb hby d4_12) ?_
      show Steps p.tables e below (T2.setTop (mkF m 13 #[.val (.ref o0)] [(.int (1 : Int32))])) t
      refine XS.goto X2.here hx rfl (pc0 := 13) (pc' := 17) rfl (hb hby d4_13) (by decide) (by decide) ?_
      show Steps p.tables e below (T2.setTop (mkF m 17 #[.val (.ref o0)] [(.int (1 : Int32))])) t
      have qq4 : (v4_17 w_at ln) = (1 : Int32) := by
        show (if w_at = (ln).toInt32 then (1 : Int32) else (0 : Int32)) = (1 : Int32)
        simp only [if_pos hc3]
      rw [qq4] at k
      exact k
    · skip
      refine XS.icmpYes X2.here hx rfl (pc0 := 9) (pc' := 16) rfl (hb hby d4_9) rfl (feq hc3).2 (by decide) (by decide) ?_
      show Steps p.tables e below (T2.setTop (mkF m 16 #[.val (.ref o0)] [])) t
      refine XS.iconst X2.here hx rfl (hb hby d4_16) ?_
      show Steps p.tables e below (T2.setTop (mkF m 17 #[.val (.ref o0)] [(.int (0 : Int32))])) t
      have qq5 : (v4_17 w_at ln) = (0 : Int32) := by
        show (if w_at = (ln).toInt32 then (1 : Int32) else (0 : Int32)) = (0 : Int32)
        simp only [if_neg hc3]
      rw [qq5] at k
      exact k
  refine OwnFin.retNar X2 (by simp) (hb hby d4_17) (by decide) (by decide) ?_
  rw [e2]
  exact ⟨rfl, N0, (Keep.refl h0 [])⟩
set_option maxRecDepth 65536 in
set_option maxHeartbeats 40000000 in
theorem rm4 (l : Launch) (Z : State) (a0 : Array Value) (hw : ∀ d ∈ tables_1, d.before a0 Z = true) (ws : List Jvm.Cond) (o0 : Addr) (ln : Nat) (G : Nat → Int32) (w_record : Addr) (w_at : Int32) (h0 : Heap) (n0 : Nat) (Z0 : n0 ≤ h0.size) (E_o0 : Exa Z h0 o0 "com/example/faden/faden/rank/RecordReader") (g_o0 : n0 ≤ o0) (F_record_o0 : Fld Z h0 o0 "com/example/faden/faden/rank/RecordReader" "record" "[B" (.ref w_record)) (F_at_o0 : Fld Z h0 o0 "com/example/faden/faden/rank/RecordReader" "at" "I" (.int w_at)) (A_w_record : Ary Z h0 w_record .byte ln (fun i => .int (G i))) (ne_o0__w_record : o0 ≠ w_record) :
    MetFree l (⟨"com/example/faden/faden/rank/RecordReader", "atEnd", "()Z"⟩ : MethodName) (head1 (Jvm.Cond.code (⟨"com/example/faden/faden/rank/RecordReader", "atEnd", "()Z"⟩ : MethodName) prog_21_method_2_code 1 (some .boolean) :: ws) ({ frames := 0, cells := 0, slots := 0, locals := 0 } : Room)) (fun a U => a = #[(.ref o0)] ∧ Z.Warmed39 U.vm ∧ U.heap = h0) (fun _ _ _ _ _ => True) (fun _ U o U' => ∃ v L, o = .returned v ∧ (Q4 Z o0 ln G w_record w_at h0 n0) v U'.heap L ∧ FrameEnd U o U' L ({ frames := 0, cells := 0, slots := 0, locals := 0 } : Room).cells ({ frames := 0, cells := 0, slots := 0, locals := 0 } : Room).slots) :=
  own_met (ret := (some .boolean)) (Q := (Q4 Z o0 ln G w_record w_at h0 n0)) (plainFor_of_name pn_4) (fun m => ef_4 m o0) (fun p e s m below meth c s₁ X hx hby hml hown hnm hZ e0 => j4 X hx hZ hw hby hml hown hnm e0 (Fr.nil n0) Z0 o0 ln G w_record w_at E_o0 g_o0 F_record_o0 F_at_o0 A_w_record ne_o0__w_record)
theorem own_c0 : (0 : Int32).toNatClampNeg = 0 := by decide
theorem own_c1 : (1 : Int32).toNatClampNeg = 1 := by decide
theorem own_c2 : (2 : Int32).toNatClampNeg = 2 := by decide
theorem own_c3 : (3 : Int32).toNatClampNeg = 3 := by decide
theorem own_c4 : (4 : Int32).toNatClampNeg = 4 := by decide
theorem own_c5 : (5 : Int32).toNatClampNeg = 5 := by decide
theorem own_size {n : Nat} (h : n < 100) : (n.toInt32).toInt = (n : Int) := by
  show (Int32.ofNat n).toInt = (n : Int)
  first | exact Int32.toInt_ofNat_of_lt (by omega) | exact Int32.toInt_ofNat_small (by omega)
theorem own_ne {a : Int32} (A : Nat) (ha : a.toInt = A) {ln : Nat} (h : A < ln ∧ ln < 100) : ¬ (a = (ln).toInt32) := by
  intro q; rw [i32eq, own_size h.2, ha] at q; omega
theorem own_in {a : Int32} (A : Nat) (ha : a.toInt = A) {ln : Nat} (h : A < ln ∧ ln < 100) : InB a ln := inb_of_toInt (by omega) (by omega)
theorem own_b127 (x : Int32) : 0 ≤ (x &&& 127).toInt ∧ (x &&& 127).toInt < 128 := by
  have := Jvm.Kit.i32_mask x 127 (k := 7) (by decide) (by decide)
  omega
theorem own_lo {x : Int32} (h : 0 ≤ x.toInt ∧ x.toInt < 128) : ((nar .byte (x.toInt8.toInt32)) &&& 255).toInt = x.toInt := by
  rw [byte255]; omega
theorem own_hi {x : Int32} (h : 0 ≤ x.toInt ∧ x.toInt < 128) : ((nar .byte ((x ||| 128).toInt8.toInt32)) &&& 255).toInt = x.toInt + 128 := by
  have := (or128 h.1 h.2).1
  rw [byte255]; omega
theorem own_hi' {x : Int32} (h : 0 ≤ x.toInt ∧ x.toInt < 128) : ((nar .byte ((128 ||| x).toInt8.toInt32)) &&& 255).toInt = x.toInt + 128 := by
  have := (or128 h.1 h.2).2
  rw [byte255]; omega
theorem own_b7 (x : Int32) : 0 ≤ (x &&& 7).toInt ∧ (x &&& 7).toInt < 8 := by
  have := Jvm.Kit.i32_mask x 7 (k := 3) (by decide) (by decide)
  omega
theorem own_ex (a : Int64) (g : Int32) (c : Int64) (C : Int) (hc : c.toInt = C) (ha : 0 ≤ a.toInt ∧ a.toInt < 1099511627776) (hg : 0 ≤ g.toInt * C ∧ g.toInt * C < 1099511627776) : (a + g.toInt64 * c).toInt = a.toInt + g.toInt * C := by
  have e := Jvm.Kit.i64_of_i32 g
  have m : (g.toInt64 * c).toInt = g.toInt * C := by
    have q := Jvm.Kit.i64_mul (x := g.toInt64) (y := c) (by rw [e, hc]; omega) (by rw [e, hc]; omega)
    rw [q, e, hc]
  rw [Jvm.Kit.i64_add (by omega) (by omega), m]
theorem own_m7 {x g : Int} (h : x = g + 128) (b : 0 ≤ g ∧ g < 128) : x % 128 = g := by omega
theorem own_m7' {x g : Int} (h : x = g) (b : 0 ≤ g ∧ g < 128) : x % 128 = g := by omega
theorem own_ex1 (a : Int64) (g : Int32) (ha : 0 ≤ a.toInt ∧ a.toInt < 128) (hg : 0 ≤ g.toInt ∧ g.toInt < 128) : (a + g.toInt64 * (128 : Int64)).toInt = a.toInt + g.toInt * 128 ∧ 0 ≤ (a + g.toInt64 * (128 : Int64)).toInt ∧ (a + g.toInt64 * (128 : Int64)).toInt < 16384 := by
  have h := own_ex a g 128 128 rfl (by omega) (by omega)
  exact ⟨h, by omega, by omega⟩
theorem own_ex2 (a : Int64) (g : Int32) (ha : 0 ≤ a.toInt ∧ a.toInt < 16384) (hg : 0 ≤ g.toInt ∧ g.toInt < 128) : (a + g.toInt64 * (16384 : Int64)).toInt = a.toInt + g.toInt * 16384 ∧ 0 ≤ (a + g.toInt64 * (16384 : Int64)).toInt ∧ (a + g.toInt64 * (16384 : Int64)).toInt < 2097152 := by
  have h := own_ex a g 16384 16384 rfl (by omega) (by omega)
  exact ⟨h, by omega, by omega⟩
theorem own_ex3 (a : Int64) (g : Int32) (ha : 0 ≤ a.toInt ∧ a.toInt < 2097152) (hg : 0 ≤ g.toInt ∧ g.toInt < 128) : (a + g.toInt64 * (2097152 : Int64)).toInt = a.toInt + g.toInt * 2097152 ∧ 0 ≤ (a + g.toInt64 * (2097152 : Int64)).toInt ∧ (a + g.toInt64 * (2097152 : Int64)).toInt < 268435456 := by
  have h := own_ex a g 2097152 2097152 rfl (by omega) (by omega)
  exact ⟨h, by omega, by omega⟩
theorem own_ex4 (a : Int64) (g : Int32) (ha : 0 ≤ a.toInt ∧ a.toInt < 268435456) (hg : 0 ≤ g.toInt ∧ g.toInt < 128) : (a + g.toInt64 * (268435456 : Int64)).toInt = a.toInt + g.toInt * 268435456 ∧ 0 ≤ (a + g.toInt64 * (268435456 : Int64)).toInt ∧ (a + g.toInt64 * (268435456 : Int64)).toInt < 34359738368 := by
  have h := own_ex a g 268435456 268435456 rfl (by omega) (by omega)
  exact ⟨h, by omega, by omega⟩
theorem d3_0 : decode prog_21_method_3_code 0 = .ok (.iconst 0, 1) := by decide +kernel
theorem d3_1 : decode prog_21_method_3_code 1 = .ok (.istore_n 1, 1) := by decide +kernel
theorem d3_2 : decode prog_21_method_3_code 2 = .ok (.iconst 0, 1) := by decide +kernel
theorem d3_3 : decode prog_21_method_3_code 3 = .ok (.istore_n 2, 1) := by decide +kernel
theorem d3_4 : decode prog_21_method_3_code 4 = .ok (.aload_n 0, 1) := by decide +kernel
theorem d3_5 : decode prog_21_method_3_code 5 = .ok (.getfield 13, 3) := by decide +kernel
theorem d3_8 : decode prog_21_method_3_code 8 = .ok (.aload_n 0, 1) := by decide +kernel
theorem d3_9 : decode prog_21_method_3_code 9 = .ok (.getfield 7, 3) := by decide +kernel
theorem d3_12 : decode prog_21_method_3_code 12 = .ok (.arraylength, 1) := by decide +kernel
theorem d3_13 : decode prog_21_method_3_code 13 = .ok (.if_icmp .ne 13, 3) := by decide +kernel
theorem d3_26 : decode prog_21_method_3_code 26 = .ok (.aload_n 0, 1) := by decide +kernel
theorem d3_27 : decode prog_21_method_3_code 27 = .ok (.getfield 7, 3) := by decide +kernel
theorem d3_30 : decode prog_21_method_3_code 30 = .ok (.aload_n 0, 1) := by decide +kernel
theorem d3_31 : decode prog_21_method_3_code 31 = .ok (.dup, 1) := by decide +kernel
theorem d3_32 : decode prog_21_method_3_code 32 = .ok (.getfield 13, 3) := by decide +kernel
theorem d3_35 : decode prog_21_method_3_code 35 = .ok (.dup_x1, 1) := by decide +kernel
theorem d3_36 : decode prog_21_method_3_code 36 = .ok (.iconst 1, 1) := by decide +kernel
theorem d3_37 : decode prog_21_method_3_code 37 = .ok (.iadd, 1) := by decide +kernel
theorem d3_38 : decode prog_21_method_3_code 38 = .ok (.putfield 13, 3) := by decide +kernel
theorem d3_41 : decode prog_21_method_3_code 41 = .ok (.baload, 1) := by decide +kernel
theorem d3_42 : decode prog_21_method_3_code 42 = .ok (.sipush 255, 3) := by decide +kernel
theorem d3_45 : decode prog_21_method_3_code 45 = .ok (.iand, 1) := by decide +kernel
theorem d3_46 : decode prog_21_method_3_code 46 = .ok (.istore_n 3, 1) := by decide +kernel
theorem d3_47 : decode prog_21_method_3_code 47 = .ok (.iload_n 2, 1) := by decide +kernel
theorem d3_48 : decode prog_21_method_3_code 48 = .ok (.bipush 28, 2) := by decide +kernel
theorem d3_50 : decode prog_21_method_3_code 50 = .ok (.if_icmp .ne 19, 3) := by decide +kernel
theorem d3_69 : decode prog_21_method_3_code 69 = .ok (.iload_n 1, 1) := by decide +kernel
theorem d3_70 : decode prog_21_method_3_code 70 = .ok (.iload_n 3, 1) := by decide +kernel
theorem d3_71 : decode prog_21_method_3_code 71 = .ok (.bipush 127, 2) := by decide +kernel
theorem d3_73 : decode prog_21_method_3_code 73 = .ok (.iand, 1) := by decide +kernel
theorem d3_74 : decode prog_21_method_3_code 74 = .ok (.iload_n 2, 1) := by decide +kernel
theorem d3_75 : decode prog_21_method_3_code 75 = .ok (.ishl, 1) := by decide +kernel
theorem d3_76 : decode prog_21_method_3_code 76 = .ok (.ior, 1) := by decide +kernel
theorem d3_77 : decode prog_21_method_3_code 77 = .ok (.istore_n 1, 1) := by decide +kernel
theorem d3_78 : decode prog_21_method_3_code 78 = .ok (.iload_n 3, 1) := by decide +kernel
theorem d3_79 : decode prog_21_method_3_code 79 = .ok (.sipush 128, 3) := by decide +kernel
theorem d3_82 : decode prog_21_method_3_code 82 = .ok (.if_icmp .ge 5, 3) := by decide +kernel
theorem d3_85 : decode prog_21_method_3_code 85 = .ok (.iload_n 1, 1) := by decide +kernel
theorem d3_86 : decode prog_21_method_3_code 86 = .ok (.ireturn, 1) := by decide +kernel
theorem pn_3 : plainName "com/example/faden/faden/rank/RecordReader" = true := by first | (simp [plainName, overriddenIn]; done) | decide +kernel
theorem ef_3 (m : MethodId) (o0 : Addr) : entryFrame m #[(.ref o0)] 4 = mkF m 0 #[.val (.ref o0), .unset, .unset, .unset] [] := by first | (simp [entryFrame, mkF, argsToLocals, Value.category]; done) | rfl
def va0k13_46 (G : Nat → Int32) : Int32 := ((G ((0 : Int32)).toNatClampNeg) &&& (255 : Int32))
def va0k13_77 (G : Nat → Int32) : Int32 := ((0 : Int32) ||| (((va0k13_46 G) &&& (127 : Int32)) <<< ((0 : Int32) &&& 31)))
theorem bra0k13_13 (ln : Nat) (G : Nat → Int32) (hln : 1 ≤ ln ∧ ln < 100) (hb0 : ((G 0) &&& 255).toInt < 128) : ¬ ((0 : Int32) = (ln).toInt32) := own_ne 0 (by decide) (by omega)
theorem iba0k13_41 (ln : Nat) (G : Nat → Int32) (hln : 1 ≤ ln ∧ ln < 100) (hb0 : ((G 0) &&& 255).toInt < 128) : InB (0 : Int32) ln := own_in 0 (by decide) (by omega)
theorem bra0k13_82 (G : Nat → Int32) (ln : Nat) (hln : 1 ≤ ln ∧ ln < 100) (hb0 : ((G 0) &&& 255).toInt < 128) : (va0k13_46 G) < (128 : Int32) := by
  have c0 : (128 : Int32).toInt = 128 := rfl
  have c1 : (7 : Int32).toInt = 7 := rfl
  have e0 : (va0k13_46 G).toInt = ((G 0) &&& 255).toInt := by
    unfold va0k13_46; rw [own_c0]
  rw [i32lt, e0]; omega
def Q3a0k1 (Z : State) (o0 : Addr) (ln : Nat) (G : Nat → Int32) (w_record : Addr) (h0 : Heap) (n0 : Nat) : Option Value → Heap → List Loc → Prop := fun v h L => v = some (.int (va0k13_77 G)) ∧ Fr n0 L ∧ Keep h0 h [o0] ∧ Exa Z h o0 "com/example/faden/faden/rank/RecordReader" ∧ Fld Z h o0 "com/example/faden/faden/rank/RecordReader" "record" "[B" (.ref w_record) ∧ Fld Z h o0 "com/example/faden/faden/rank/RecordReader" "at" "I" (.int (1 : Int32))
set_option maxRecDepth 65536 in
set_option maxHeartbeats 40000000 in
theorem j3a0k1 {p : Program} {l : Launch} {e : Env} {s : State} {m : MethodId} {args : Array Value} {below : List Frame} {meth : Method} {c : Code} {T0 : State} {locs : List Loc} {Z : State} {a0 : Array Value} {h0 : Heap} {n0 : Nat}
    (X0 : Stand p l e ({ frames := 0, cells := 0, slots := 0, locals := 0 } : Room) s m args below meth c T0 locs 0 0) (hx : p.tables.exec = Jvm.exec) (hZ : Z.Warmed39 s.vm) (hw : ∀ d ∈ tables_1, d.before a0 Z = true) (hby : c.code = prog_21_method_3_code) (hml : c.maxLocals = 4) (hown : s.vm.findClass "com/example/faden/faden/rank/RecordReader" = some m.cls) (hnm : meth.name = "number") (e0 : T0.heap = h0) (N0 : Fr n0 locs) (Z0 : n0 ≤ h0.size) (o0 : Addr) (ln : Nat) (G : Nat → Int32) (w_record : Addr) (E_o0 : Exa Z h0 o0 "com/example/faden/faden/rank/RecordReader") (g_o0 : n0 ≤ o0) (F_record_o0 : Fld Z h0 o0 "com/example/faden/faden/rank/RecordReader" "record" "[B" (.ref w_record)) (F_at_o0 : Fld Z h0 o0 "com/example/faden/faden/rank/RecordReader" "at" "I" (.int (0 : Int32))) (A_w_record : Ary Z h0 w_record .byte ln (fun i => .int (G i))) (ne_o0__w_record : o0 ≠ w_record) (hln : 1 ≤ ln ∧ ln < 100) (hb0 : ((G 0) &&& 255).toInt < 128) :
    OwnFin X0 (some .int) (Q3a0k1 Z o0 ln G w_record h0 n0) ({ frames := 0, cells := 0, slots := 0, locals := 0 } : Room).cells ({ frames := 0, cells := 0, slots := 0, locals := 0 } : Room).slots (mkF m 0 #[.val (.ref o0), .unset, .unset, .unset] []) := by
  refine OwnFin.step (g' := (mkF m 1 #[.val (.ref o0), .unset, .unset, .unset] [(.int (0 : Int32))])) X0 (fun t k => XS.iconst X0.here hx rfl (hb hby d3_0) k) ?_
  refine OwnFin.step (g' := (mkF m 2 #[.val (.ref o0), .val (.int (0 : Int32)), .unset, .unset] [])) X0 (fun t k => XS.istoreN X0.here hx rfl (hb hby d3_1) rfl (l' := #[.val (.ref o0), .val (.int (0 : Int32)), .unset, .unset]) rfl k) ?_
  refine OwnFin.step (g' := (mkF m 3 #[.val (.ref o0), .val (.int (0 : Int32)), .unset, .unset] [(.int (0 : Int32))])) X0 (fun t k => XS.iconst X0.here hx rfl (hb hby d3_2) k) ?_
  refine OwnFin.step (g' := (mkF m 4 #[.val (.ref o0), .val (.int (0 : Int32)), .val (.int (0 : Int32)), .unset] [])) X0 (fun t k => XS.istoreN X0.here hx rfl (hb hby d3_3) rfl (l' := #[.val (.ref o0), .val (.int (0 : Int32)), .val (.int (0 : Int32)), .unset]) rfl k) ?_
  refine OwnFin.step (g' := (mkF m 5 #[.val (.ref o0), .val (.int (0 : Int32)), .val (.int (0 : Int32)), .unset] [(.ref o0)])) X0 (fun t k => XS.aloadN X0.here hx rfl (hb hby d3_4) rfl rfl k) ?_
  obtain ⟨T1, X1, e1, st1⟩ := getF X0 hx hZ hown (host := "") (Or.inl (hw _ (wm 20 rfl))) Via.refl e0 F_at_o0 (g := (mkF m 5 #[.val (.ref o0), .val (.int (0 : Int32)), .val (.int (0 : Int32)), .unset] [(.ref o0)])) rfl rfl (hb hby d3_5)
  refine OwnFin.step (g' := (mkF m 8 #[.val (.ref o0), .val (.int (0 : Int32)), .val (.int (0 : Int32)), .unset] [(.int (0 : Int32))])) X1 (fun t k => st1 _ k) ?_
  refine OwnFin.step (g' := (mkF m 9 #[.val (.ref o0), .val (.int (0 : Int32)), .val (.int (0 : Int32)), .unset] [(.ref o0), (.int (0 : Int32))])) X1 (fun t k => XS.aloadN X1.here hx rfl (hb hby d3_8) rfl rfl k) ?_
  obtain ⟨T2, X2, e2, st2⟩ := getF X1 hx hZ hown (host := "") (Or.inl (hw _ (wm 13 rfl))) Via.refl e1 F_record_o0 (g := (mkF m 9 #[.val (.ref o0), .val (.int (0 : Int32)), .val (.int (0 : Int32)), .unset] [(.ref o0), (.int (0 : Int32))])) rfl rfl (hb hby d3_9)
  refine OwnFin.step (g' := (mkF m 12 #[.val (.ref o0), .val (.int (0 : Int32)), .val (.int (0 : Int32)), .unset] [(.ref w_record), (.int (0 : Int32))])) X2 (fun t k => st2 _ k) ?_
  refine OwnFin.step (g' := (mkF m 13 #[.val (.ref o0), .val (.int (0 : Int32)), .val (.int (0 : Int32)), .unset] [(.int (ln).toInt32), (.int (0 : Int32))])) X2 (fun t k => own_len X2 hx hZ e2 A_w_record (g := (mkF m 12 #[.val (.ref o0), .val (.int (0 : Int32)), .val (.int (0 : Int32)), .unset] [(.ref w_record), (.int (0 : Int32))])) rfl rfl (hb hby d3_12) _ k) ?_
  refine OwnFin.step (g' := (mkF m 26 #[.val (.ref o0), .val (.int (0 : Int32)), .val (.int (0 : Int32)), .unset] [])) X2 (fun t k => XS.icmpYes X2.here hx rfl (pc0 := 13) (pc' := 26) rfl (hb hby d3_13) rfl (feq (bra0k13_13 ln G hln hb0)).2 (by decide) (by decide) k) ?_
  refine OwnFin.step (g' := (mkF m 27 #[.val (.ref o0), .val (.int (0 : Int32)), .val (.int (0 : Int32)), .unset] [(.ref o0)])) X2 (fun t k => XS.aloadN X2.here hx rfl (hb hby d3_26) rfl rfl k) ?_
  obtain ⟨T3, X3, e3, st3⟩ := getF X2 hx hZ hown (host := "") (Or.inl (hw _ (wm 13 rfl))) Via.refl e2 F_record_o0 (g := (mkF m 27 #[.val (.ref o0), .val (.int (0 : Int32)), .val (.int (0 : Int32)), .unset] [(.ref o0)])) rfl rfl (hb hby d3_27)
  refine OwnFin.step (g' := (mkF m 30 #[.val (.ref o0), .val (.int (0 : Int32)), .val (.int (0 : Int32)), .unset] [(.ref w_record)])) X3 (fun t k => st3 _ k) ?_
  refine OwnFin.step (g' := (mkF m 31 #[.val (.ref o0), .val (.int (0 : Int32)), .val (.int (0 : Int32)), .unset] [(.ref o0), (.ref w_record)])) X3 (fun t k => XS.aloadN X3.here hx rfl (hb hby d3_30) rfl rfl k) ?_
  refine OwnFin.step (g' := (mkF m 32 #[.val (.ref o0), .val (.int (0 : Int32)), .val (.int (0 : Int32)), .unset] [(.ref o0), (.ref o0), (.ref w_record)])) X3 (fun t k => XS.dup X3.here hx rfl (hb hby d3_31) rfl rfl k) ?_
  obtain ⟨T4, X4, e4, st4⟩ := getF X3 hx hZ hown (host := "") (Or.inl (hw _ (wm 20 rfl))) Via.refl e3 F_at_o0 (g := (mkF m 32 #[.val (.ref o0), .val (.int (0 : Int32)), .val (.int (0 : Int32)), .unset] [(.ref o0), (.ref o0), (.ref w_record)])) rfl rfl (hb hby d3_32)
  refine OwnFin.step (g' := (mkF m 35 #[.val (.ref o0), .val (.int (0 : Int32)), .val (.int (0 : Int32)), .unset] [(.int (0 : Int32)), (.ref o0), (.ref w_record)])) X4 (fun t k => st4 _ k) ?_
  refine OwnFin.step (g' := (mkF m 36 #[.val (.ref o0), .val (.int (0 : Int32)), .val (.int (0 : Int32)), .unset] [(.int (0 : Int32)), (.ref o0), (.int (0 : Int32)), (.ref w_record)])) X4 (fun t k => XT.dupX1 X4.here hx rfl (hb hby d3_35) rfl rfl rfl k) ?_
  refine OwnFin.step (g' := (mkF m 37 #[.val (.ref o0), .val (.int (0 : Int32)), .val (.int (0 : Int32)), .unset] [(.int (1 : Int32)), (.int (0 : Int32)), (.ref o0), (.int (0 : Int32)), (.ref w_record)])) X4 (fun t k => XS.iconst X4.here hx rfl (hb hby d3_36) k) ?_
  refine OwnFin.step (g' := (mkF m 38 #[.val (.ref o0), .val (.int (0 : Int32)), .val (.int (0 : Int32)), .unset] [(.int (1 : Int32)), (.ref o0), (.int (0 : Int32)), (.ref w_record)])) X4 (fun t k => XS.iadd X4.here hx rfl (hb hby d3_37) rfl k) ?_
  obtain ⟨T5, h5, L5, X5, e5, N5, W5, F5, st5⟩ := own_putF X4 hx hZ hown (hw _ (wm 20 rfl)) e4 N0 F_at_o0 E_o0 g_o0 (Or.inl (hw _ (wm 21 rfl))) (hw _ (wm 5 rfl)) (fty := .int) (by decide) rfl rfl (g := (mkF m 38 #[.val (.ref o0), .val (.int (0 : Int32)), .val (.int (0 : Int32)), .unset] [(.int (1 : Int32)), (.ref o0), (.int (0 : Int32)), (.ref w_record)])) rfl rfl (hb hby d3_38)
  have K5 := Keep.of_wr W5
  have Z5 := Nat.le_trans Z0 K5.1
  have S5 := Nat.le_trans (Nat.le_refl h0.size) K5.1
  have F6 := Fld.other W5 F_record_o0 (Or.inr (slot_ne (Or.inr (hw _ (wm 14 rfl))) (Or.inl (hw _ (wm 21 rfl))) (by decide) (t := (.array .byte)) (t' := .int) (by decide) (by decide)))
  have E7 := Exa.wr W5 E_o0
  refine OwnFin.step (g' := (mkF m 41 #[.val (.ref o0), .val (.int (0 : Int32)), .val (.int (0 : Int32)), .unset] [(.int (0 : Int32)), (.ref w_record)])) X5 (fun t k => st5 _ k) ?_
  have A8 := (A_w_record.keep K5 (ninS (Ne.symm ne_o0__w_record) nin0))
  refine OwnFin.step (g' := (mkF m 42 #[.val (.ref o0), .val (.int (0 : Int32)), .val (.int (0 : Int32)), .unset] [(.int (G ((0 : Int32)).toNatClampNeg))])) X5 (fun t k => own_ldB X5 hx hZ e5 A8 (iba0k13_41 ln G hln hb0) rfl (g := (mkF m 41 #[.val (.ref o0), .val (.int (0 : Int32)), .val (.int (0 : Int32)), .unset] [(.int (0 : Int32)), (.ref w_record)])) rfl rfl (hb hby d3_41) _ k) ?_
  refine OwnFin.step (g' := (mkF m 45 #[.val (.ref o0), .val (.int (0 : Int32)), .val (.int (0 : Int32)), .unset] [(.int (255 : Int32)), (.int (G ((0 : Int32)).toNatClampNeg))])) X5 (fun t k => XS.sipush X5.here hx rfl (hb hby d3_42) k) ?_
  refine OwnFin.step (g' := (mkF m 46 #[.val (.ref o0), .val (.int (0 : Int32)), .val (.int (0 : Int32)), .unset] [(.int ((G ((0 : Int32)).toNatClampNeg) &&& (255 : Int32)))])) X5 (fun t k => XS.iand X5.here hx rfl (hb hby d3_45) rfl k) ?_
  refine OwnFin.step (g' := (mkF m 47 #[.val (.ref o0), .val (.int (0 : Int32)), .val (.int (0 : Int32)), .val (.int (va0k13_46 G))] [])) X5 (fun t k => XS.istoreN X5.here hx rfl (hb hby d3_46) rfl (l' := #[.val (.ref o0), .val (.int (0 : Int32)), .val (.int (0 : Int32)), .val (.int (va0k13_46 G))]) rfl k) ?_
  refine OwnFin.step (g' := (mkF m 48 #[.val (.ref o0), .val (.int (0 : Int32)), .val (.int (0 : Int32)), .val (.int (va0k13_46 G))] [(.int (0 : Int32))])) X5 (fun t k => XS.iloadN X5.here hx rfl (hb hby d3_47) rfl k) ?_
  refine OwnFin.step (g' := (mkF m 50 #[.val (.ref o0), .val (.int (0 : Int32)), .val (.int (0 : Int32)), .val (.int (va0k13_46 G))] [(.int (28 : Int32)), (.int (0 : Int32))])) X5 (fun t k => XS.bipush X5.here hx rfl (hb hby d3_48) k) ?_
  refine OwnFin.step (g' := (mkF m 69 #[.val (.ref o0), .val (.int (0 : Int32)), .val (.int (0 : Int32)), .val (.int (va0k13_46 G))] [])) X5 (fun t k => XS.icmpYes X5.here hx rfl (pc0 := 50) (pc' := 69) rfl (hb hby d3_50) rfl (feq (show ¬ ((0 : Int32) = (28 : Int32)) by first | decide | exact Int32.lt_irrefl _ | exact Int64.lt_irrefl _)).2 (by decide) (by decide) k) ?_
  refine OwnFin.step (g' := (mkF m 70 #[.val (.ref o0), .val (.int (0 : Int32)), .val (.int (0 : Int32)), .val (.int (va0k13_46 G))] [(.int (0 : Int32))])) X5 (fun t k => XS.iloadN X5.here hx rfl (hb hby d3_69) rfl k) ?_
  refine OwnFin.step (g' := (mkF m 71 #[.val (.ref o0), .val (.int (0 : Int32)), .val (.int (0 : Int32)), .val (.int (va0k13_46 G))] [(.int (va0k13_46 G)), (.int (0 : Int32))])) X5 (fun t k => XS.iloadN X5.here hx rfl (hb hby d3_70) rfl k) ?_
  refine OwnFin.step (g' := (mkF m 73 #[.val (.ref o0), .val (.int (0 : Int32)), .val (.int (0 : Int32)), .val (.int (va0k13_46 G))] [(.int (127 : Int32)), (.int (va0k13_46 G)), (.int (0 : Int32))])) X5 (fun t k => XS.bipush X5.here hx rfl (hb hby d3_71) k) ?_
  refine OwnFin.step (g' := (mkF m 74 #[.val (.ref o0), .val (.int (0 : Int32)), .val (.int (0 : Int32)), .val (.int (va0k13_46 G))] [(.int ((va0k13_46 G) &&& (127 : Int32))), (.int (0 : Int32))])) X5 (fun t k => XS.iand X5.here hx rfl (hb hby d3_73) rfl k) ?_
  refine OwnFin.step (g' := (mkF m 75 #[.val (.ref o0), .val (.int (0 : Int32)), .val (.int (0 : Int32)), .val (.int (va0k13_46 G))] [(.int (0 : Int32)), (.int ((va0k13_46 G) &&& (127 : Int32))), (.int (0 : Int32))])) X5 (fun t k => XS.iloadN X5.here hx rfl (hb hby d3_74) rfl k) ?_
  refine OwnFin.step (g' := (mkF m 76 #[.val (.ref o0), .val (.int (0 : Int32)), .val (.int (0 : Int32)), .val (.int (va0k13_46 G))] [(.int (((va0k13_46 G) &&& (127 : Int32)) <<< ((0 : Int32) &&& 31))), (.int (0 : Int32))])) X5 (fun t k => XT.ishl X5.here hx rfl (hb hby d3_75) rfl k) ?_
  refine OwnFin.step (g' := (mkF m 77 #[.val (.ref o0), .val (.int (0 : Int32)), .val (.int (0 : Int32)), .val (.int (va0k13_46 G))] [(.int ((0 : Int32) ||| (((va0k13_46 G) &&& (127 : Int32)) <<< ((0 : Int32) &&& 31))))])) X5 (fun t k => XT.ior X5.here hx rfl (hb hby d3_76) rfl k) ?_
  refine OwnFin.step (g' := (mkF m 78 #[.val (.ref o0), .val (.int (va0k13_77 G)), .val (.int (0 : Int32)), .val (.int (va0k13_46 G))] [])) X5 (fun t k => XS.istoreN X5.here hx rfl (hb hby d3_77) rfl (l' := #[.val (.ref o0), .val (.int (va0k13_77 G)), .val (.int (0 : Int32)), .val (.int (va0k13_46 G))]) rfl k) ?_
  refine OwnFin.step (g' := (mkF m 79 #[.val (.ref o0), .val (.int (va0k13_77 G)), .val (.int (0 : Int32)), .val (.int (va0k13_46 G))] [(.int (va0k13_46 G))])) X5 (fun t k => XS.iloadN X5.here hx rfl (hb hby d3_78) rfl k) ?_
  refine OwnFin.step (g' := (mkF m 82 #[.val (.ref o0), .val (.int (va0k13_77 G)), .val (.int (0 : Int32)), .val (.int (va0k13_46 G))] [(.int (128 : Int32)), (.int (va0k13_46 G))])) X5 (fun t k => XS.sipush X5.here hx rfl (hb hby d3_79) k) ?_
  refine OwnFin.step (g' := (mkF m 85 #[.val (.ref o0), .val (.int (va0k13_77 G)), .val (.int (0 : Int32)), .val (.int (va0k13_46 G))] [])) X5 (fun t k => XS.icmpNo X5.here hx rfl (hb hby d3_82) rfl (tlt (bra0k13_82 G ln hln hb0)).2.1 k) ?_
  refine OwnFin.step (g' := (mkF m 86 #[.val (.ref o0), .val (.int (va0k13_77 G)), .val (.int (0 : Int32)), .val (.int (va0k13_46 G))] [(.int (va0k13_77 G))])) X5 (fun t k => XS.iloadN X5.here hx rfl (hb hby d3_85) rfl k) ?_
  refine OwnFin.retInt X5 (hb hby d3_86) (by decide) (by decide) ?_
  rw [e5]
  exact ⟨rfl, N5, (Keep.trans (Keep.refl h0 [o0]) K5 (allS (Or.inl (wm 0 rfl)) all0)), E7, F6, F5⟩
set_option maxRecDepth 65536 in
set_option maxHeartbeats 40000000 in
theorem rm3a0k1 (l : Launch) (Z : State) (a0 : Array Value) (hw : ∀ d ∈ tables_1, d.before a0 Z = true) (ws : List Jvm.Cond) (o0 : Addr) (ln : Nat) (G : Nat → Int32) (w_record : Addr) (h0 : Heap) (n0 : Nat) (Z0 : n0 ≤ h0.size) (E_o0 : Exa Z h0 o0 "com/example/faden/faden/rank/RecordReader") (g_o0 : n0 ≤ o0) (F_record_o0 : Fld Z h0 o0 "com/example/faden/faden/rank/RecordReader" "record" "[B" (.ref w_record)) (F_at_o0 : Fld Z h0 o0 "com/example/faden/faden/rank/RecordReader" "at" "I" (.int (0 : Int32))) (A_w_record : Ary Z h0 w_record .byte ln (fun i => .int (G i))) (ne_o0__w_record : o0 ≠ w_record) (hln : 1 ≤ ln ∧ ln < 100) (hb0 : ((G 0) &&& 255).toInt < 128) :
    MetFree l (⟨"com/example/faden/faden/rank/RecordReader", "number", "()I"⟩ : MethodName) (head1 (Jvm.Cond.code (⟨"com/example/faden/faden/rank/RecordReader", "number", "()I"⟩ : MethodName) prog_21_method_3_code 4 (some .int) :: ws) ({ frames := 0, cells := 0, slots := 0, locals := 0 } : Room)) (fun a U => a = #[(.ref o0)] ∧ Z.Warmed39 U.vm ∧ U.heap = h0) (fun _ _ _ _ _ => True) (fun _ U o U' => ∃ v L, o = .returned v ∧ (Q3a0k1 Z o0 ln G w_record h0 n0) v U'.heap L ∧ FrameEnd U o U' L ({ frames := 0, cells := 0, slots := 0, locals := 0 } : Room).cells ({ frames := 0, cells := 0, slots := 0, locals := 0 } : Room).slots) :=
  own_met (ret := (some .int)) (Q := (Q3a0k1 Z o0 ln G w_record h0 n0)) (plainFor_of_name pn_3) (fun m => ef_3 m o0) (fun p e s m below meth c s₁ X hx hby hml hown hnm hZ e0 => j3a0k1 X hx hZ hw hby hml hown hnm e0 (Fr.nil n0) Z0 o0 ln G w_record E_o0 g_o0 F_record_o0 F_at_o0 A_w_record ne_o0__w_record hln hb0)
theorem own_va0k13_77 (G : Nat → Int32) : (va0k13_77 G).toInt = ((G 0) &&& 255).toInt % 128 * 1 := by
  have m := Jvm.Kit.i32_mask (va0k13_46 G) 127 (k := 7) (by decide) (by decide)
  have e : (va0k13_46 G).toInt = ((G 0) &&& 255).toInt := by unfold va0k13_46; rw [own_c0]
  have u0 := Jvm.Kit.i32_mask (G 0) 255 (k := 8) (by decide) (by decide)
  have z0 : (0 : Int32).toInt = 0 := rfl
  have q := acc (a := (0 : Int32)) (g := (va0k13_46 G) &&& 127) (n := (0 : Int32) &&& 31) (k := 0) (by decide) (by omega) (by omega) (by omega) (by omega)
  unfold va0k13_77
  rw [q]; omega
theorem d3_87 : decode prog_21_method_3_code 87 = .ok (.iinc 2 7, 3) := by decide +kernel
theorem d3_90 : decode prog_21_method_3_code 90 = .ok (.goto (-86), 3) := by decide +kernel
def va0k23_46 (G : Nat → Int32) : Int32 := ((G ((0 : Int32)).toNatClampNeg) &&& (255 : Int32))
def va0k23_77 (G : Nat → Int32) : Int32 := ((0 : Int32) ||| (((va0k23_46 G) &&& (127 : Int32)) <<< ((0 : Int32) &&& 31)))
def va0k23_46b (G : Nat → Int32) : Int32 := ((G ((1 : Int32)).toNatClampNeg) &&& (255 : Int32))
def va0k23_77b (G : Nat → Int32) : Int32 := ((va0k23_77 G) ||| (((va0k23_46b G) &&& (127 : Int32)) <<< ((7 : Int32) &&& 31)))
theorem bra0k23_13 (ln : Nat) (G : Nat → Int32) (hln : 2 ≤ ln ∧ ln < 100) (hb0 : 128 ≤ ((G 0) &&& 255).toInt) (hb1 : ((G 1) &&& 255).toInt < 128) : ¬ ((0 : Int32) = (ln).toInt32) := own_ne 0 (by decide) (by omega)
theorem iba0k23_41 (ln : Nat) (G : Nat → Int32) (hln : 2 ≤ ln ∧ ln < 100) (hb0 : 128 ≤ ((G 0) &&& 255).toInt) (hb1 : ((G 1) &&& 255).toInt < 128) : InB (0 : Int32) ln := own_in 0 (by decide) (by omega)
theorem bra0k23_82 (G : Nat → Int32) (ln : Nat) (hln : 2 ≤ ln ∧ ln < 100) (hb0 : 128 ≤ ((G 0) &&& 255).toInt) (hb1 : ((G 1) &&& 255).toInt < 128) : ¬ ((va0k23_46 G) < (128 : Int32)) := by
  have c0 : (128 : Int32).toInt = 128 := rfl
  have c1 : (7 : Int32).toInt = 7 := rfl
  have e0 : (va0k23_46 G).toInt = ((G 0) &&& 255).toInt := by
    unfold va0k23_46; rw [own_c0]
  rw [i32lt, e0]; omega
theorem bra0k23_13z (ln : Nat) (G : Nat → Int32) (hln : 2 ≤ ln ∧ ln < 100) (hb0 : 128 ≤ ((G 0) &&& 255).toInt) (hb1 : ((G 1) &&& 255).toInt < 128) : ¬ ((1 : Int32) = (ln).toInt32) := own_ne 1 (by decide) (by omega)
theorem iba0k23_41z (ln : Nat) (G : Nat → Int32) (hln : 2 ≤ ln ∧ ln < 100) (hb0 : 128 ≤ ((G 0) &&& 255).toInt) (hb1 : ((G 1) &&& 255).toInt < 128) : InB (1 : Int32) ln := own_in 1 (by decide) (by omega)
theorem bra0k23_82z (G : Nat → Int32) (ln : Nat) (hln : 2 ≤ ln ∧ ln < 100) (hb0 : 128 ≤ ((G 0) &&& 255).toInt) (hb1 : ((G 1) &&& 255).toInt < 128) : (va0k23_46b G) < (128 : Int32) := by
  have c0 : (128 : Int32).toInt = 128 := rfl
  have c1 : (7 : Int32).toInt = 7 := rfl
  have e0 : (va0k23_46b G).toInt = ((G 1) &&& 255).toInt := by
    unfold va0k23_46b; rw [own_c1]
  rw [i32lt, e0]; omega
def Q3a0k2 (Z : State) (o0 : Addr) (ln : Nat) (G : Nat → Int32) (w_record : Addr) (h0 : Heap) (n0 : Nat) : Option Value → Heap → List Loc → Prop := fun v h L => v = some (.int (va0k23_77b G)) ∧ Fr n0 L ∧ Keep h0 h [o0] ∧ Exa Z h o0 "com/example/faden/faden/rank/RecordReader" ∧ Fld Z h o0 "com/example/faden/faden/rank/RecordReader" "record" "[B" (.ref w_record) ∧ Fld Z h o0 "com/example/faden/faden/rank/RecordReader" "at" "I" (.int (2 : Int32))
set_option maxRecDepth 65536 in
set_option maxHeartbeats 40000000 in
theorem j3a0k2 {p : Program} {l : Launch} {e : Env} {s : State} {m : MethodId} {args : Array Value} {below : List Frame} {meth : Method} {c : Code} {T0 : State} {locs : List Loc} {Z : State} {a0 : Array Value} {h0 : Heap} {n0 : Nat}
    (X0 : Stand p l e ({ frames := 0, cells := 0, slots := 0, locals := 0 } : Room) s m args below meth c T0 locs 0 0) (hx : p.tables.exec = Jvm.exec) (hZ : Z.Warmed39 s.vm) (hw : ∀ d ∈ tables_1, d.before a0 Z = true) (hby : c.code = prog_21_method_3_code) (hml : c.maxLocals = 4) (hown : s.vm.findClass "com/example/faden/faden/rank/RecordReader" = some m.cls) (hnm : meth.name = "number") (e0 : T0.heap = h0) (N0 : Fr n0 locs) (Z0 : n0 ≤ h0.size) (o0 : Addr) (ln : Nat) (G : Nat → Int32) (w_record : Addr) (E_o0 : Exa Z h0 o0 "com/example/faden/faden/rank/RecordReader") (g_o0 : n0 ≤ o0) (F_record_o0 : Fld Z h0 o0 "com/example/faden/faden/rank/RecordReader" "record" "[B" (.ref w_record)) (F_at_o0 : Fld Z h0 o0 "com/example/faden/faden/rank/RecordReader" "at" "I" (.int (0 : Int32))) (A_w_record : Ary Z h0 w_record .byte ln (fun i => .int (G i))) (ne_o0__w_record : o0 ≠ w_record) (hln : 2 ≤ ln ∧ ln < 100) (hb0 : 128 ≤ ((G 0) &&& 255).toInt) (hb1 : ((G 1) &&& 255).toInt < 128) :
    OwnFin X0 (some .int) (Q3a0k2 Z o0 ln G w_record h0 n0) ({ frames := 0, cells := 0, slots := 0, locals := 0 } : Room).cells ({ frames := 0, cells := 0, slots := 0, locals := 0 } : Room).slots (mkF m 0 #[.val (.ref o0), .unset, .unset, .unset] []) := by
  refine OwnFin.step (g' := (mkF m 1 #[.val (.ref o0), .unset, .unset, .unset] [(.int (0 : Int32))])) X0 (fun t k => XS.iconst X0.here hx rfl (hb hby d3_0) k) ?_
  refine OwnFin.step (g' := (mkF m 2 #[.val (.ref o0), .val (.int (0 : Int32)), .unset, .unset] [])) X0 (fun t k => XS.istoreN X0.here hx rfl (hb hby d3_1) rfl (l' := #[.val (.ref o0), .val (.int (0 : Int32)), .unset, .unset]) rfl k) ?_
  refine OwnFin.step (g' := (mkF m 3 #[.val (.ref o0), .val (.int (0 : Int32)), .unset, .unset] [(.int (0 : Int32))])) X0 (fun t k => XS.iconst X0.here hx rfl (hb hby d3_2) k) ?_
  refine OwnFin.step (g' := (mkF m 4 #[.val (.ref o0), .val (.int (0 : Int32)), .val (.int (0 : Int32)), .unset] [])) X0 (fun t k => XS.istoreN X0.here hx rfl (hb hby d3_3) rfl (l' := #[.val (.ref o0), .val (.int (0 : Int32)), .val (.int (0 : Int32)), .unset]) rfl k) ?_
  refine OwnFin.step (g' := (mkF m 5 #[.val (.ref o0), .val (.int (0 : Int32)), .val (.int (0 : Int32)), .unset] [(.ref o0)])) X0 (fun t k => XS.aloadN X0.here hx rfl (hb hby d3_4) rfl rfl k) ?_
  obtain ⟨T1, X1, e1, st1⟩ := getF X0 hx hZ hown (host := "") (Or.inl (hw _ (wm 20 rfl))) Via.refl e0 F_at_o0 (g := (mkF m 5 #[.val (.ref o0), .val (.int (0 : Int32)), .val (.int (0 : Int32)), .unset] [(.ref o0)])) rfl rfl (hb hby d3_5)
  refine OwnFin.step (g' := (mkF m 8 #[.val (.ref o0), .val (.int (0 : Int32)), .val (.int (0 : Int32)), .unset] [(.int (0 : Int32))])) X1 (fun t k => st1 _ k) ?_
  refine OwnFin.step (g' := (mkF m 9 #[.val (.ref o0), .val (.int (0 : Int32)), .val (.int (0 : Int32)), .unset] [(.ref o0), (.int (0 : Int32))])) X1 (fun t k => XS.aloadN X1.here hx rfl (hb hby d3_8) rfl rfl k) ?_
  obtain ⟨T2, X2, e2, st2⟩ := getF X1 hx hZ hown (host := "") (Or.inl (hw _ (wm 13 rfl))) Via.refl e1 F_record_o0 (g := (mkF m 9 #[.val (.ref o0), .val (.int (0 : Int32)), .val (.int (0 : Int32)), .unset] [(.ref o0), (.int (0 : Int32))])) rfl rfl (hb hby d3_9)
  refine OwnFin.step (g' := (mkF m 12 #[.val (.ref o0), .val (.int (0 : Int32)), .val (.int (0 : Int32)), .unset] [(.ref w_record), (.int (0 : Int32))])) X2 (fun t k => st2 _ k) ?_
  refine OwnFin.step (g' := (mkF m 13 #[.val (.ref o0), .val (.int (0 : Int32)), .val (.int (0 : Int32)), .unset] [(.int (ln).toInt32), (.int (0 : Int32))])) X2 (fun t k => own_len X2 hx hZ e2 A_w_record (g := (mkF m 12 #[.val (.ref o0), .val (.int (0 : Int32)), .val (.int (0 : Int32)), .unset] [(.ref w_record), (.int (0 : Int32))])) rfl rfl (hb hby d3_12) _ k) ?_
  refine OwnFin.step (g' := (mkF m 26 #[.val (.ref o0), .val (.int (0 : Int32)), .val (.int (0 : Int32)), .unset] [])) X2 (fun t k => XS.icmpYes X2.here hx rfl (pc0 := 13) (pc' := 26) rfl (hb hby d3_13) rfl (feq (bra0k23_13 ln G hln hb0 hb1)).2 (by decide) (by decide) k) ?_
  refine OwnFin.step (g' := (mkF m 27 #[.val (.ref o0), .val (.int (0 : Int32)), .val (.int (0 : Int32)), .unset] [(.ref o0)])) X2 (fun t k => XS.aloadN X2.here hx rfl (hb hby d3_26) rfl rfl k) ?_
  obtain ⟨T3, X3, e3, st3⟩ := getF X2 hx hZ hown (host := "") (Or.inl (hw _ (wm 13 rfl))) Via.refl e2 F_record_o0 (g := (mkF m 27 #[.val (.ref o0), .val (.int (0 : Int32)), .val (.int (0 : Int32)), .unset] [(.ref o0)])) rfl rfl (hb hby d3_27)
  refine OwnFin.step (g' := (mkF m 30 #[.val (.ref o0), .val (.int (0 : Int32)), .val (.int (0 : Int32)), .unset] [(.ref w_record)])) X3 (fun t k => st3 _ k) ?_
  refine OwnFin.step (g' := (mkF m 31 #[.val (.ref o0), .val (.int (0 : Int32)), .val (.int (0 : Int32)), .unset] [(.ref o0), (.ref w_record)])) X3 (fun t k => XS.aloadN X3.here hx rfl (hb hby d3_30) rfl rfl k) ?_
  refine OwnFin.step (g' := (mkF m 32 #[.val (.ref o0), .val (.int (0 : Int32)), .val (.int (0 : Int32)), .unset] [(.ref o0), (.ref o0), (.ref w_record)])) X3 (fun t k => XS.dup X3.here hx rfl (hb hby d3_31) rfl rfl k) ?_
  obtain ⟨T4, X4, e4, st4⟩ := getF X3 hx hZ hown (host := "") (Or.inl (hw _ (wm 20 rfl))) Via.refl e3 F_at_o0 (g := (mkF m 32 #[.val (.ref o0), .val (.int (0 : Int32)), .val (.int (0 : Int32)), .unset] [(.ref o0), (.ref o0), (.ref w_record)])) rfl rfl (hb hby d3_32)
  refine OwnFin.step (g' := (mkF m 35 #[.val (.ref o0), .val (.int (0 : Int32)), .val (.int (0 : Int32)), .unset] [(.int (0 : Int32)), (.ref o0), (.ref w_record)])) X4 (fun t k => st4 _ k) ?_
  refine OwnFin.step (g' := (mkF m 36 #[.val (.ref o0), .val (.int (0 : Int32)), .val (.int (0 : Int32)), .unset] [(.int (0 : Int32)), (.ref o0), (.int (0 : Int32)), (.ref w_record)])) X4 (fun t k => XT.dupX1 X4.here hx rfl (hb hby d3_35) rfl rfl rfl k) ?_
  refine OwnFin.step (g' := (mkF m 37 #[.val (.ref o0), .val (.int (0 : Int32)), .val (.int (0 : Int32)), .unset] [(.int (1 : Int32)), (.int (0 : Int32)), (.ref o0), (.int (0 : Int32)), (.ref w_record)])) X4 (fun t k => XS.iconst X4.here hx rfl (hb hby d3_36) k) ?_
  refine OwnFin.step (g' := (mkF m 38 #[.val (.ref o0), .val (.int (0 : Int32)), .val (.int (0 : Int32)), .unset] [(.int (1 : Int32)), (.ref o0), (.int (0 : Int32)), (.ref w_record)])) X4 (fun t k => XS.iadd X4.here hx rfl (hb hby d3_37) rfl k) ?_
  obtain ⟨T5, h5, L5, X5, e5, N5, W5, F5, st5⟩ := own_putF X4 hx hZ hown (hw _ (wm 20 rfl)) e4 N0 F_at_o0 E_o0 g_o0 (Or.inl (hw _ (wm 21 rfl))) (hw _ (wm 5 rfl)) (fty := .int) (by decide) rfl rfl (g := (mkF m 38 #[.val (.ref o0), .val (.int (0 : Int32)), .val (.int (0 : Int32)), .unset] [(.int (1 : Int32)), (.ref o0), (.int (0 : Int32)), (.ref w_record)])) rfl rfl (hb hby d3_38)
  have K5 := Keep.of_wr W5
  have Z5 := Nat.le_trans Z0 K5.1
  have S5 := Nat.le_trans (Nat.le_refl h0.size) K5.1
  have F6 := Fld.other W5 F_record_o0 (Or.inr (slot_ne (Or.inr (hw _ (wm 14 rfl))) (Or.inl (hw _ (wm 21 rfl))) (by decide) (t := (.array .byte)) (t' := .int) (by decide) (by decide)))
  have E7 := Exa.wr W5 E_o0
  refine OwnFin.step (g' := (mkF m 41 #[.val (.ref o0), .val (.int (0 : Int32)), .val (.int (0 : Int32)), .unset] [(.int (0 : Int32)), (.ref w_record)])) X5 (fun t k => st5 _ k) ?_
  have A8 := (A_w_record.keep K5 (ninS (Ne.symm ne_o0__w_record) nin0))
  refine OwnFin.step (g' := (mkF m 42 #[.val (.ref o0), .val (.int (0 : Int32)), .val (.int (0 : Int32)), .unset] [(.int (G ((0 : Int32)).toNatClampNeg))])) X5 (fun t k => own_ldB X5 hx hZ e5 A8 (iba0k23_41 ln G hln hb0 hb1) rfl (g := (mkF m 41 #[.val (.ref o0), .val (.int (0 : Int32)), .val (.int (0 : Int32)), .unset] [(.int (0 : Int32)), (.ref w_record)])) rfl rfl (hb hby d3_41) _ k) ?_
  refine OwnFin.step (g' := (mkF m 45 #[.val (.ref o0), .val (.int (0 : Int32)), .val (.int (0 : Int32)), .unset] [(.int (255 : Int32)), (.int (G ((0 : Int32)).toNatClampNeg))])) X5 (fun t k => XS.sipush X5.here hx rfl (hb hby d3_42) k) ?_
  refine OwnFin.step (g' := (mkF m 46 #[.val (.ref o0), .val (.int (0 : Int32)), .val (.int (0 : Int32)), .unset] [(.int ((G ((0 : Int32)).toNatClampNeg) &&& (255 : Int32)))])) X5 (fun t k => XS.iand X5.here hx rfl (hb hby d3_45) rfl k) ?_
  refine OwnFin.step (g' := (mkF m 47 #[.val (.ref o0), .val (.int (0 : Int32)), .val (.int (0 : Int32)), .val (.int (va0k23_46 G))] [])) X5 (fun t k => XS.istoreN X5.here hx rfl (hb hby d3_46) rfl (l' := #[.val (.ref o0), .val (.int (0 : Int32)), .val (.int (0 : Int32)), .val (.int (va0k23_46 G))]) rfl k) ?_
  refine OwnFin.step (g' := (mkF m 48 #[.val (.ref o0), .val (.int (0 : Int32)), .val (.int (0 : Int32)), .val (.int (va0k23_46 G))] [(.int (0 : Int32))])) X5 (fun t k => XS.iloadN X5.here hx rfl (hb hby d3_47) rfl k) ?_
  refine OwnFin.step (g' := (mkF m 50 #[.val (.ref o0), .val (.int (0 : Int32)), .val (.int (0 : Int32)), .val (.int (va0k23_46 G))] [(.int (28 : Int32)), (.int (0 : Int32))])) X5 (fun t k => XS.bipush X5.here hx rfl (hb hby d3_48) k) ?_
  refine OwnFin.step (g' := (mkF m 69 #[.val (.ref o0), .val (.int (0 : Int32)), .val (.int (0 : Int32)), .val (.int (va0k23_46 G))] [])) X5 (fun t k => XS.icmpYes X5.here hx rfl (pc0 := 50) (pc' := 69) rfl (hb hby d3_50) rfl (feq (show ¬ ((0 : Int32) = (28 : Int32)) by first | decide | exact Int32.lt_irrefl _ | exact Int64.lt_irrefl _)).2 (by decide) (by decide) k) ?_
  refine OwnFin.step (g' := (mkF m 70 #[.val (.ref o0), .val (.int (0 : Int32)), .val (.int (0 : Int32)), .val (.int (va0k23_46 G))] [(.int (0 : Int32))])) X5 (fun t k => XS.iloadN X5.here hx rfl (hb hby d3_69) rfl k) ?_
  refine OwnFin.step (g' := (mkF m 71 #[.val (.ref o0), .val (.int (0 : Int32)), .val (.int (0 : Int32)), .val (.int (va0k23_46 G))] [(.int (va0k23_46 G)), (.int (0 : Int32))])) X5 (fun t k => XS.iloadN X5.here hx rfl (hb hby d3_70) rfl k) ?_
  refine OwnFin.step (g' := (mkF m 73 #[.val (.ref o0), .val (.int (0 : Int32)), .val (.int (0 : Int32)), .val (.int (va0k23_46 G))] [(.int (127 : Int32)), (.int (va0k23_46 G)), (.int (0 : Int32))])) X5 (fun t k => XS.bipush X5.here hx rfl (hb hby d3_71) k) ?_
  refine OwnFin.step (g' := (mkF m 74 #[.val (.ref o0), .val (.int (0 : Int32)), .val (.int (0 : Int32)), .val (.int (va0k23_46 G))] [(.int ((va0k23_46 G) &&& (127 : Int32))), (.int (0 : Int32))])) X5 (fun t k => XS.iand X5.here hx rfl (hb hby d3_73) rfl k) ?_
  refine OwnFin.step (g' := (mkF m 75 #[.val (.ref o0), .val (.int (0 : Int32)), .val (.int (0 : Int32)), .val (.int (va0k23_46 G))] [(.int (0 : Int32)), (.int ((va0k23_46 G) &&& (127 : Int32))), (.int (0 : Int32))])) X5 (fun t k => XS.iloadN X5.here hx rfl (hb hby d3_74) rfl k) ?_
  refine OwnFin.step (g' := (mkF m 76 #[.val (.ref o0), .val (.int (0 : Int32)), .val (.int (0 : Int32)), .val (.int (va0k23_46 G))] [(.int (((va0k23_46 G) &&& (127 : Int32)) <<< ((0 : Int32) &&& 31))), (.int (0 : Int32))])) X5 (fun t k => XT.ishl X5.here hx rfl (hb hby d3_75) rfl k) ?_
  refine OwnFin.step (g' := (mkF m 77 #[.val (.ref o0), .val (.int (0 : Int32)), .val (.int (0 : Int32)), .val (.int (va0k23_46 G))] [(.int ((0 : Int32) ||| (((va0k23_46 G) &&& (127 : Int32)) <<< ((0 : Int32) &&& 31))))])) X5 (fun t k => XT.ior X5.here hx rfl (hb hby d3_76) rfl k) ?_
  refine OwnFin.step (g' := (mkF m 78 #[.val (.ref o0), .val (.int (va0k23_77 G)), .val (.int (0 : Int32)), .val (.int (va0k23_46 G))] [])) X5 (fun t k => XS.istoreN X5.here hx rfl (hb hby d3_77) rfl (l' := #[.val (.ref o0), .val (.int (va0k23_77 G)), .val (.int (0 : Int32)), .val (.int (va0k23_46 G))]) rfl k) ?_
  refine OwnFin.step (g' := (mkF m 79 #[.val (.ref o0), .val (.int (va0k23_77 G)), .val (.int (0 : Int32)), .val (.int (va0k23_46 G))] [(.int (va0k23_46 G))])) X5 (fun t k => XS.iloadN X5.here hx rfl (hb hby d3_78) rfl k) ?_
  refine OwnFin.step (g' := (mkF m 82 #[.val (.ref o0), .val (.int (va0k23_77 G)), .val (.int (0 : Int32)), .val (.int (va0k23_46 G))] [(.int (128 : Int32)), (.int (va0k23_46 G))])) X5 (fun t k => XS.sipush X5.here hx rfl (hb hby d3_79) k) ?_
  refine OwnFin.step (g' := (mkF m 87 #[.val (.ref o0), .val (.int (va0k23_77 G)), .val (.int (0 : Int32)), .val (.int (va0k23_46 G))] [])) X5 (fun t k => XS.icmpYes X5.here hx rfl (pc0 := 82) (pc' := 87) rfl (hb hby d3_82) rfl (flt (bra0k23_82 G ln hln hb0 hb1)).2.1 (by decide) (by decide) k) ?_
  refine OwnFin.step (g' := (mkF m 90 #[.val (.ref o0), .val (.int (va0k23_77 G)), .val (.int (7 : Int32)), .val (.int (va0k23_46 G))] [])) X5 (fun t k => XS.iinc X5.here hx rfl (hb hby d3_87) rfl (l' := #[.val (.ref o0), .val (.int (va0k23_77 G)), .val (.int (7 : Int32)), .val (.int (va0k23_46 G))]) rfl k) ?_
  refine OwnFin.step (g' := (mkF m 4 #[.val (.ref o0), .val (.int (va0k23_77 G)), .val (.int (7 : Int32)), .val (.int (va0k23_46 G))] [])) X5 (fun t k => XS.goto X5.here hx rfl (pc0 := 90) (pc' := 4) rfl (hb hby d3_90) (by decide) (by decide) k) ?_
  refine OwnFin.step (g' := (mkF m 5 #[.val (.ref o0), .val (.int (va0k23_77 G)), .val (.int (7 : Int32)), .val (.int (va0k23_46 G))] [(.ref o0)])) X5 (fun t k => XS.aloadN X5.here hx rfl (hb hby d3_4) rfl rfl k) ?_
  obtain ⟨T9, X9, e9, st9⟩ := getF X5 hx hZ hown (host := "") (Or.inl (hw _ (wm 20 rfl))) Via.refl e5 F5 (g := (mkF m 5 #[.val (.ref o0), .val (.int (va0k23_77 G)), .val (.int (7 : Int32)), .val (.int (va0k23_46 G))] [(.ref o0)])) rfl rfl (hb hby d3_5)
  refine OwnFin.step (g' := (mkF m 8 #[.val (.ref o0), .val (.int (va0k23_77 G)), .val (.int (7 : Int32)), .val (.int (va0k23_46 G))] [(.int (1 : Int32))])) X9 (fun t k => st9 _ k) ?_
  refine OwnFin.step (g' := (mkF m 9 #[.val (.ref o0), .val (.int (va0k23_77 G)), .val (.int (7 : Int32)), .val (.int (va0k23_46 G))] [(.ref o0), (.int (1 : Int32))])) X9 (fun t k => XS.aloadN X9.here hx rfl (hb hby d3_8) rfl rfl k) ?_
  obtain ⟨T10, X10, e10, st10⟩ := getF X9 hx hZ hown (host := "") (Or.inl (hw _ (wm 13 rfl))) Via.refl e9 F6 (g := (mkF m 9 #[.val (.ref o0), .val (.int (va0k23_77 G)), .val (.int (7 : Int32)), .val (.int (va0k23_46 G))] [(.ref o0), (.int (1 : Int32))])) rfl rfl (hb hby d3_9)
  refine OwnFin.step (g' := (mkF m 12 #[.val (.ref o0), .val (.int (va0k23_77 G)), .val (.int (7 : Int32)), .val (.int (va0k23_46 G))] [(.ref w_record), (.int (1 : Int32))])) X10 (fun t k => st10 _ k) ?_
  refine OwnFin.step (g' := (mkF m 13 #[.val (.ref o0), .val (.int (va0k23_77 G)), .val (.int (7 : Int32)), .val (.int (va0k23_46 G))] [(.int (ln).toInt32), (.int (1 : Int32))])) X10 (fun t k => own_len X10 hx hZ e10 A8 (g := (mkF m 12 #[.val (.ref o0), .val (.int (va0k23_77 G)), .val (.int (7 : Int32)), .val (.int (va0k23_46 G))] [(.ref w_record), (.int (1 : Int32))])) rfl rfl (hb hby d3_12) _ k) ?_
  refine OwnFin.step (g' := (mkF m 26 #[.val (.ref o0), .val (.int (va0k23_77 G)), .val (.int (7 : Int32)), .val (.int (va0k23_46 G))] [])) X10 (fun t k => XS.icmpYes X10.here hx rfl (pc0 := 13) (pc' := 26) rfl (hb hby d3_13) rfl (feq (bra0k23_13z ln G hln hb0 hb1)).2 (by decide) (by decide) k) ?_
  refine OwnFin.step (g' := (mkF m 27 #[.val (.ref o0), .val (.int (va0k23_77 G)), .val (.int (7 : Int32)), .val (.int (va0k23_46 G))] [(.ref o0)])) X10 (fun t k => XS.aloadN X10.here hx rfl (hb hby d3_26) rfl rfl k) ?_
  obtain ⟨T11, X11, e11, st11⟩ := getF X10 hx hZ hown (host := "") (Or.inl (hw _ (wm 13 rfl))) Via.refl e10 F6 (g := (mkF m 27 #[.val (.ref o0), .val (.int (va0k23_77 G)), .val (.int (7 : Int32)), .val (.int (va0k23_46 G))] [(.ref o0)])) rfl rfl (hb hby d3_27)
  refine OwnFin.step (g' := (mkF m 30 #[.val (.ref o0), .val (.int (va0k23_77 G)), .val (.int (7 : Int32)), .val (.int (va0k23_46 G))] [(.ref w_record)])) X11 (fun t k => st11 _ k) ?_
  refine OwnFin.step (g' := (mkF m 31 #[.val (.ref o0), .val (.int (va0k23_77 G)), .val (.int (7 : Int32)), .val (.int (va0k23_46 G))] [(.ref o0), (.ref w_record)])) X11 (fun t k => XS.aloadN X11.here hx rfl (hb hby d3_30) rfl rfl k) ?_
  refine OwnFin.step (g' := (mkF m 32 #[.val (.ref o0), .val (.int (va0k23_77 G)), .val (.int (7 : Int32)), .val (.int (va0k23_46 G))] [(.ref o0), (.ref o0), (.ref w_record)])) X11 (fun t k => XS.dup X11.here hx rfl (hb hby d3_31) rfl rfl k) ?_
  obtain ⟨T12, X12, e12, st12⟩ := getF X11 hx hZ hown (host := "") (Or.inl (hw _ (wm 20 rfl))) Via.refl e11 F5 (g := (mkF m 32 #[.val (.ref o0), .val (.int (va0k23_77 G)), .val (.int (7 : Int32)), .val (.int (va0k23_46 G))] [(.ref o0), (.ref o0), (.ref w_record)])) rfl rfl (hb hby d3_32)
  refine OwnFin.step (g' := (mkF m 35 #[.val (.ref o0), .val (.int (va0k23_77 G)), .val (.int (7 : Int32)), .val (.int (va0k23_46 G))] [(.int (1 : Int32)), (.ref o0), (.ref w_record)])) X12 (fun t k => st12 _ k) ?_
  refine OwnFin.step (g' := (mkF m 36 #[.val (.ref o0), .val (.int (va0k23_77 G)), .val (.int (7 : Int32)), .val (.int (va0k23_46 G))] [(.int (1 : Int32)), (.ref o0), (.int (1 : Int32)), (.ref w_record)])) X12 (fun t k => XT.dupX1 X12.here hx rfl (hb hby d3_35) rfl rfl rfl k) ?_
  refine OwnFin.step (g' := (mkF m 37 #[.val (.ref o0), .val (.int (va0k23_77 G)), .val (.int (7 : Int32)), .val (.int (va0k23_46 G))] [(.int (1 : Int32)), (.int (1 : Int32)), (.ref o0), (.int (1 : Int32)), (.ref w_record)])) X12 (fun t k => XS.iconst X12.here hx rfl (hb hby d3_36) k) ?_
  refine OwnFin.step (g' := (mkF m 38 #[.val (.ref o0), .val (.int (va0k23_77 G)), .val (.int (7 : Int32)), .val (.int (va0k23_46 G))] [(.int (2 : Int32)), (.ref o0), (.int (1 : Int32)), (.ref w_record)])) X12 (fun t k => XS.iadd X12.here hx rfl (hb hby d3_37) rfl k) ?_
  obtain ⟨T13, h13, L13, X13, e13, N13, W13, F13, st13⟩ := own_putF X12 hx hZ hown (hw _ (wm 20 rfl)) e12 N5 F5 E7 g_o0 (Or.inl (hw _ (wm 21 rfl))) (hw _ (wm 5 rfl)) (fty := .int) (by decide) rfl rfl (g := (mkF m 38 #[.val (.ref o0), .val (.int (va0k23_77 G)), .val (.int (7 : Int32)), .val (.int (va0k23_46 G))] [(.int (2 : Int32)), (.ref o0), (.int (1 : Int32)), (.ref w_record)])) rfl rfl (hb hby d3_38)
  have K13 := Keep.of_wr W13
  have Z13 := Nat.le_trans Z5 K13.1
  have S13 := Nat.le_trans S5 K13.1
  have F14 := Fld.other W13 F6 (Or.inr (slot_ne (Or.inr (hw _ (wm 14 rfl))) (Or.inl (hw _ (wm 21 rfl))) (by decide) (t := (.array .byte)) (t' := .int) (by decide) (by decide)))
  have E15 := Exa.wr W13 E7
  refine OwnFin.step (g' := (mkF m 41 #[.val (.ref o0), .val (.int (va0k23_77 G)), .val (.int (7 : Int32)), .val (.int (va0k23_46 G))] [(.int (1 : Int32)), (.ref w_record)])) X13 (fun t k => st13 _ k) ?_
  have A16 := (A8.keep K13 (ninS (Ne.symm ne_o0__w_record) nin0))
  refine OwnFin.step (g' := (mkF m 42 #[.val (.ref o0), .val (.int (va0k23_77 G)), .val (.int (7 : Int32)), .val (.int (va0k23_46 G))] [(.int (G ((1 : Int32)).toNatClampNeg))])) X13 (fun t k => own_ldB X13 hx hZ e13 A16 (iba0k23_41z ln G hln hb0 hb1) rfl (g := (mkF m 41 #[.val (.ref o0), .val (.int (va0k23_77 G)), .val (.int (7 : Int32)), .val (.int (va0k23_46 G))] [(.int (1 : Int32)), (.ref w_record)])) rfl rfl (hb hby d3_41) _ k) ?_
  refine OwnFin.step (g' := (mkF m 45 #[.val (.ref o0), .val (.int (va0k23_77 G)), .val (.int (7 : Int32)), .val (.int (va0k23_46 G))] [(.int (255 : Int32)), (.int (G ((1 : Int32)).toNatClampNeg))])) X13 (fun t k => XS.sipush X13.here hx rfl (hb hby d3_42) k) ?_
  refine OwnFin.step (g' := (mkF m 46 #[.val (.ref o0), .val (.int (va0k23_77 G)), .val (.int (7 : Int32)), .val (.int (va0k23_46 G))] [(.int ((G ((1 : Int32)).toNatClampNeg) &&& (255 : Int32)))])) X13 (fun t k => XS.iand X13.here hx rfl (hb hby d3_45) rfl k) ?_
  refine OwnFin.step (g' := (mkF m 47 #[.val (.ref o0), .val (.int (va0k23_77 G)), .val (.int (7 : Int32)), .val (.int (va0k23_46b G))] [])) X13 (fun t k => XS.istoreN X13.here hx rfl (hb hby d3_46) rfl (l' := #[.val (.ref o0), .val (.int (va0k23_77 G)), .val (.int (7 : Int32)), .val (.int (va0k23_46b G))]) rfl k) ?_
  refine OwnFin.step (g' := (mkF m 48 #[.val (.ref o0), .val (.int (va0k23_77 G)), .val (.int (7 : Int32)), .val (.int (va0k23_46b G))] [(.int (7 : Int32))])) X13 (fun t k => XS.iloadN X13.here hx rfl (hb hby d3_47) rfl k) ?_
  refine OwnFin.step (g' := (mkF m 50 #[.val (.ref o0), .val (.int (va0k23_77 G)), .val (.int (7 : Int32)), .val (.int (va0k23_46b G))] [(.int (28 : Int32)), (.int (7 : Int32))])) X13 (fun t k => XS.bipush X13.here hx rfl (hb hby d3_48) k) ?_
  refine OwnFin.step (g' := (mkF m 69 #[.val (.ref o0), .val (.int (va0k23_77 G)), .val (.int (7 : Int32)), .val (.int (va0k23_46b G))] [])) X13 (fun t k => XS.icmpYes X13.here hx rfl (pc0 := 50) (pc' := 69) rfl (hb hby d3_50) rfl (feq (show ¬ ((7 : Int32) = (28 : Int32)) by first | decide | exact Int32.lt_irrefl _ | exact Int64.lt_irrefl _)).2 (by decide) (by decide) k) ?_
  refine OwnFin.step (g' := (mkF m 70 #[.val (.ref o0), .val (.int (va0k23_77 G)), .val (.int (7 : Int32)), .val (.int (va0k23_46b G))] [(.int (va0k23_77 G))])) X13 (fun t k => XS.iloadN X13.here hx rfl (hb hby d3_69) rfl k) ?_
  refine OwnFin.step (g' := (mkF m 71 #[.val (.ref o0), .val (.int (va0k23_77 G)), .val (.int (7 : Int32)), .val (.int (va0k23_46b G))] [(.int (va0k23_46b G)), (.int (va0k23_77 G))])) X13 (fun t k => XS.iloadN X13.here hx rfl (hb hby d3_70) rfl k) ?_
  refine OwnFin.step (g' := (mkF m 73 #[.val (.ref o0), .val (.int (va0k23_77 G)), .val (.int (7 : Int32)), .val (.int (va0k23_46b G))] [(.int (127 : Int32)), (.int (va0k23_46b G)), (.int (va0k23_77 G))])) X13 (fun t k => XS.bipush X13.here hx rfl (hb hby d3_71) k) ?_
  refine OwnFin.step (g' := (mkF m 74 #[.val (.ref o0), .val (.int (va0k23_77 G)), .val (.int (7 : Int32)), .val (.int (va0k23_46b G))] [(.int ((va0k23_46b G) &&& (127 : Int32))), (.int (va0k23_77 G))])) X13 (fun t k => XS.iand X13.here hx rfl (hb hby d3_73) rfl k) ?_
  refine OwnFin.step (g' := (mkF m 75 #[.val (.ref o0), .val (.int (va0k23_77 G)), .val (.int (7 : Int32)), .val (.int (va0k23_46b G))] [(.int (7 : Int32)), (.int ((va0k23_46b G) &&& (127 : Int32))), (.int (va0k23_77 G))])) X13 (fun t k => XS.iloadN X13.here hx rfl (hb hby d3_74) rfl k) ?_
  refine OwnFin.step (g' := (mkF m 76 #[.val (.ref o0), .val (.int (va0k23_77 G)), .val (.int (7 : Int32)), .val (.int (va0k23_46b G))] [(.int (((va0k23_46b G) &&& (127 : Int32)) <<< ((7 : Int32) &&& 31))), (.int (va0k23_77 G))])) X13 (fun t k => XT.ishl X13.here hx rfl (hb hby d3_75) rfl k) ?_
  refine OwnFin.step (g' := (mkF m 77 #[.val (.ref o0), .val (.int (va0k23_77 G)), .val (.int (7 : Int32)), .val (.int (va0k23_46b G))] [(.int ((va0k23_77 G) ||| (((va0k23_46b G) &&& (127 : Int32)) <<< ((7 : Int32) &&& 31))))])) X13 (fun t k => XT.ior X13.here hx rfl (hb hby d3_76) rfl k) ?_
  refine OwnFin.step (g' := (mkF m 78 #[.val (.ref o0), .val (.int (va0k23_77b G)), .val (.int (7 : Int32)), .val (.int (va0k23_46b G))] [])) X13 (fun t k => XS.istoreN X13.here hx rfl (hb hby d3_77) rfl (l' := #[.val (.ref o0), .val (.int (va0k23_77b G)), .val (.int (7 : Int32)), .val (.int (va0k23_46b G))]) rfl k) ?_
  refine OwnFin.step (g' := (mkF m 79 #[.val (.ref o0), .val (.int (va0k23_77b G)), .val (.int (7 : Int32)), .val (.int (va0k23_46b G))] [(.int (va0k23_46b G))])) X13 (fun t k => XS.iloadN X13.here hx rfl (hb hby d3_78) rfl k) ?_
  refine OwnFin.step (g' := (mkF m 82 #[.val (.ref o0), .val (.int (va0k23_77b G)), .val (.int (7 : Int32)), .val (.int (va0k23_46b G))] [(.int (128 : Int32)), (.int (va0k23_46b G))])) X13 (fun t k => XS.sipush X13.here hx rfl (hb hby d3_79) k) ?_
  refine OwnFin.step (g' := (mkF m 85 #[.val (.ref o0), .val (.int (va0k23_77b G)), .val (.int (7 : Int32)), .val (.int (va0k23_46b G))] [])) X13 (fun t k => XS.icmpNo X13.here hx rfl (hb hby d3_82) rfl (tlt (bra0k23_82z G ln hln hb0 hb1)).2.1 k) ?_
  refine OwnFin.step (g' := (mkF m 86 #[.val (.ref o0), .val (.int (va0k23_77b G)), .val (.int (7 : Int32)), .val (.int (va0k23_46b G))] [(.int (va0k23_77b G))])) X13 (fun t k => XS.iloadN X13.here hx rfl (hb hby d3_85) rfl k) ?_
  refine OwnFin.retInt X13 (hb hby d3_86) (by decide) (by decide) ?_
  rw [e13]
  exact ⟨rfl, N13, (Keep.trans (Keep.trans (Keep.refl h0 [o0]) K5 (allS (Or.inl (wm 0 rfl)) all0)) K13 (allS (Or.inl (wm 0 rfl)) all0)), E15, F14, F13⟩
set_option maxRecDepth 65536 in
set_option maxHeartbeats 40000000 in
theorem rm3a0k2 (l : Launch) (Z : State) (a0 : Array Value) (hw : ∀ d ∈ tables_1, d.before a0 Z = true) (ws : List Jvm.Cond) (o0 : Addr) (ln : Nat) (G : Nat → Int32) (w_record : Addr) (h0 : Heap) (n0 : Nat) (Z0 : n0 ≤ h0.size) (E_o0 : Exa Z h0 o0 "com/example/faden/faden/rank/RecordReader") (g_o0 : n0 ≤ o0) (F_record_o0 : Fld Z h0 o0 "com/example/faden/faden/rank/RecordReader" "record" "[B" (.ref w_record)) (F_at_o0 : Fld Z h0 o0 "com/example/faden/faden/rank/RecordReader" "at" "I" (.int (0 : Int32))) (A_w_record : Ary Z h0 w_record .byte ln (fun i => .int (G i))) (ne_o0__w_record : o0 ≠ w_record) (hln : 2 ≤ ln ∧ ln < 100) (hb0 : 128 ≤ ((G 0) &&& 255).toInt) (hb1 : ((G 1) &&& 255).toInt < 128) :
    MetFree l (⟨"com/example/faden/faden/rank/RecordReader", "number", "()I"⟩ : MethodName) (head1 (Jvm.Cond.code (⟨"com/example/faden/faden/rank/RecordReader", "number", "()I"⟩ : MethodName) prog_21_method_3_code 4 (some .int) :: ws) ({ frames := 0, cells := 0, slots := 0, locals := 0 } : Room)) (fun a U => a = #[(.ref o0)] ∧ Z.Warmed39 U.vm ∧ U.heap = h0) (fun _ _ _ _ _ => True) (fun _ U o U' => ∃ v L, o = .returned v ∧ (Q3a0k2 Z o0 ln G w_record h0 n0) v U'.heap L ∧ FrameEnd U o U' L ({ frames := 0, cells := 0, slots := 0, locals := 0 } : Room).cells ({ frames := 0, cells := 0, slots := 0, locals := 0 } : Room).slots) :=
  own_met (ret := (some .int)) (Q := (Q3a0k2 Z o0 ln G w_record h0 n0)) (plainFor_of_name pn_3) (fun m => ef_3 m o0) (fun p e s m below meth c s₁ X hx hby hml hown hnm hZ e0 => j3a0k2 X hx hZ hw hby hml hown hnm e0 (Fr.nil n0) Z0 o0 ln G w_record E_o0 g_o0 F_record_o0 F_at_o0 A_w_record ne_o0__w_record hln hb0 hb1)
theorem own_va0k23_77 (G : Nat → Int32) : (va0k23_77 G).toInt = ((G 0) &&& 255).toInt % 128 * 1 := by
  have m := Jvm.Kit.i32_mask (va0k23_46 G) 127 (k := 7) (by decide) (by decide)
  have e : (va0k23_46 G).toInt = ((G 0) &&& 255).toInt := by unfold va0k23_46; rw [own_c0]
  have u0 := Jvm.Kit.i32_mask (G 0) 255 (k := 8) (by decide) (by decide)
  have z0 : (0 : Int32).toInt = 0 := rfl
  have q := acc (a := (0 : Int32)) (g := (va0k23_46 G) &&& 127) (n := (0 : Int32) &&& 31) (k := 0) (by decide) (by omega) (by omega) (by omega) (by omega)
  unfold va0k23_77
  rw [q]; omega
theorem own_va0k23_77b (G : Nat → Int32) : (va0k23_77b G).toInt = ((G 0) &&& 255).toInt % 128 * 1 + ((G 1) &&& 255).toInt % 128 * 128 := by
  have m := Jvm.Kit.i32_mask (va0k23_46b G) 127 (k := 7) (by decide) (by decide)
  have e : (va0k23_46b G).toInt = ((G 1) &&& 255).toInt := by unfold va0k23_46b; rw [own_c1]
  have u0 := Jvm.Kit.i32_mask (G 0) 255 (k := 8) (by decide) (by decide)
  have u1 := Jvm.Kit.i32_mask (G 1) 255 (k := 8) (by decide) (by decide)
  have p := own_va0k23_77 G
  have z0 : (0 : Int32).toInt = 0 := rfl
  have q := acc (a := (va0k23_77 G)) (g := (va0k23_46b G) &&& 127) (n := (7 : Int32) &&& 31) (k := 7) (by decide) (by omega) (by omega) (by omega) (by omega)
  unfold va0k23_77b
  rw [q]; omega
def va0k33_46 (G : Nat → Int32) : Int32 := ((G ((0 : Int32)).toNatClampNeg) &&& (255 : Int32))
def va0k33_77 (G : Nat → Int32) : Int32 := ((0 : Int32) ||| (((va0k33_46 G) &&& (127 : Int32)) <<< ((0 : Int32) &&& 31)))
def va0k33_46b (G : Nat → Int32) : Int32 := ((G ((1 : Int32)).toNatClampNeg) &&& (255 : Int32))
def va0k33_77b (G : Nat → Int32) : Int32 := ((va0k33_77 G) ||| (((va0k33_46b G) &&& (127 : Int32)) <<< ((7 : Int32) &&& 31)))
def va0k33_46bb (G : Nat → Int32) : Int32 := ((G ((2 : Int32)).toNatClampNeg) &&& (255 : Int32))
def va0k33_77bb (G : Nat → Int32) : Int32 := ((va0k33_77b G) ||| (((va0k33_46bb G) &&& (127 : Int32)) <<< ((14 : Int32) &&& 31)))
theorem bra0k33_13 (ln : Nat) (G : Nat → Int32) (hln : 3 ≤ ln ∧ ln < 100) (hb0 : 128 ≤ ((G 0) &&& 255).toInt) (hb1 : 128 ≤ ((G 1) &&& 255).toInt) (hb2 : ((G 2) &&& 255).toInt < 128) : ¬ ((0 : Int32) = (ln).toInt32) := own_ne 0 (by decide) (by omega)
theorem iba0k33_41 (ln : Nat) (G : Nat → Int32) (hln : 3 ≤ ln ∧ ln < 100) (hb0 : 128 ≤ ((G 0) &&& 255).toInt) (hb1 : 128 ≤ ((G 1) &&& 255).toInt) (hb2 : ((G 2) &&& 255).toInt < 128) : InB (0 : Int32) ln := own_in 0 (by decide) (by omega)
theorem bra0k33_82 (G : Nat → Int32) (ln : Nat) (hln : 3 ≤ ln ∧ ln < 100) (hb0 : 128 ≤ ((G 0) &&& 255).toInt) (hb1 : 128 ≤ ((G 1) &&& 255).toInt) (hb2 : ((G 2) &&& 255).toInt < 128) : ¬ ((va0k33_46 G) < (128 : Int32)) := by
  have c0 : (128 : Int32).toInt = 128 := rfl
  have c1 : (7 : Int32).toInt = 7 := rfl
  have e0 : (va0k33_46 G).toInt = ((G 0) &&& 255).toInt := by
    unfold va0k33_46; rw [own_c0]
  rw [i32lt, e0]; omega
theorem bra0k33_13z (ln : Nat) (G : Nat → Int32) (hln : 3 ≤ ln ∧ ln < 100) (hb0 : 128 ≤ ((G 0) &&& 255).toInt) (hb1 : 128 ≤ ((G 1) &&& 255).toInt) (hb2 : ((G 2) &&& 255).toInt < 128) : ¬ ((1 : Int32) = (ln).toInt32) := own_ne 1 (by decide) (by omega)
theorem iba0k33_41z (ln : Nat) (G : Nat → Int32) (hln : 3 ≤ ln ∧ ln < 100) (hb0 : 128 ≤ ((G 0) &&& 255).toInt) (hb1 : 128 ≤ ((G 1) &&& 255).toInt) (hb2 : ((G 2) &&& 255).toInt < 128) : InB (1 : Int32) ln := own_in 1 (by decide) (by omega)
theorem bra0k33_82z (G : Nat → Int32) (ln : Nat) (hln : 3 ≤ ln ∧ ln < 100) (hb0 : 128 ≤ ((G 0) &&& 255).toInt) (hb1 : 128 ≤ ((G 1) &&& 255).toInt) (hb2 : ((G 2) &&& 255).toInt < 128) : ¬ ((va0k33_46b G) < (128 : Int32)) := by
  have c0 : (128 : Int32).toInt = 128 := rfl
  have c1 : (7 : Int32).toInt = 7 := rfl
  have e0 : (va0k33_46b G).toInt = ((G 1) &&& 255).toInt := by
    unfold va0k33_46b; rw [own_c1]
  rw [i32lt, e0]; omega
theorem bra0k33_13zz (ln : Nat) (G : Nat → Int32) (hln : 3 ≤ ln ∧ ln < 100) (hb0 : 128 ≤ ((G 0) &&& 255).toInt) (hb1 : 128 ≤ ((G 1) &&& 255).toInt) (hb2 : ((G 2) &&& 255).toInt < 128) : ¬ ((2 : Int32) = (ln).toInt32) := own_ne 2 (by decide) (by omega)
theorem iba0k33_41zz (ln : Nat) (G : Nat → Int32) (hln : 3 ≤ ln ∧ ln < 100) (hb0 : 128 ≤ ((G 0) &&& 255).toInt) (hb1 : 128 ≤ ((G 1) &&& 255).toInt) (hb2 : ((G 2) &&& 255).toInt < 128) : InB (2 : Int32) ln := own_in 2 (by decide) (by omega)
theorem bra0k33_82zz (G : Nat → Int32) (ln : Nat) (hln : 3 ≤ ln ∧ ln < 100) (hb0 : 128 ≤ ((G 0) &&& 255).toInt) (hb1 : 128 ≤ ((G 1) &&& 255).toInt) (hb2 : ((G 2) &&& 255).toInt < 128) : (va0k33_46bb G) < (128 : Int32) := by
  have c0 : (128 : Int32).toInt = 128 := rfl
  have c1 : (7 : Int32).toInt = 7 := rfl
  have e0 : (va0k33_46bb G).toInt = ((G 2) &&& 255).toInt := by
    unfold va0k33_46bb; rw [own_c2]
  rw [i32lt, e0]; omega
def Q3a0k3 (Z : State) (o0 : Addr) (ln : Nat) (G : Nat → Int32) (w_record : Addr) (h0 : Heap) (n0 : Nat) : Option Value → Heap → List Loc → Prop := fun v h L => v = some (.int (va0k33_77bb G)) ∧ Fr n0 L ∧ Keep h0 h [o0] ∧ Exa Z h o0 "com/example/faden/faden/rank/RecordReader" ∧ Fld Z h o0 "com/example/faden/faden/rank/RecordReader" "record" "[B" (.ref w_record) ∧ Fld Z h o0 "com/example/faden/faden/rank/RecordReader" "at" "I" (.int (3 : Int32))
set_option maxRecDepth 65536 in
set_option maxHeartbeats 40000000 in
theorem j3a0k3 {p : Program} {l : Launch} {e : Env} {s : State} {m : MethodId} {args : Array Value} {below : List Frame} {meth : Method} {c : Code} {T0 : State} {locs : List Loc} {Z : State} {a0 : Array Value} {h0 : Heap} {n0 : Nat}
    (X0 : Stand p l e ({ frames := 0, cells := 0, slots := 0, locals := 0 } : Room) s m args below meth c T0 locs 0 0) (hx : p.tables.exec = Jvm.exec) (hZ : Z.Warmed39 s.vm) (hw : ∀ d ∈ tables_1, d.before a0 Z = true) (hby : c.code = prog_21_method_3_code) (hml : c.maxLocals = 4) (hown : s.vm.findClass "com/example/faden/faden/rank/RecordReader" = some m.cls) (hnm : meth.name = "number") (e0 : T0.heap = h0) (N0 : Fr n0 locs) (Z0 : n0 ≤ h0.size) (o0 : Addr) (ln : Nat) (G : Nat → Int32) (w_record : Addr) (E_o0 : Exa Z h0 o0 "com/example/faden/faden/rank/RecordReader") (g_o0 : n0 ≤ o0) (F_record_o0 : Fld Z h0 o0 "com/example/faden/faden/rank/RecordReader" "record" "[B" (.ref w_record)) (F_at_o0 : Fld Z h0 o0 "com/example/faden/faden/rank/RecordReader" "at" "I" (.int (0 : Int32))) (A_w_record : Ary Z h0 w_record .byte ln (fun i => .int (G i))) (ne_o0__w_record : o0 ≠ w_record) (hln : 3 ≤ ln ∧ ln < 100) (hb0 : 128 ≤ ((G 0) &&& 255).toInt) (hb1 : 128 ≤ ((G 1) &&& 255).toInt) (hb2 : ((G 2) &&& 255).toInt < 128) :
    OwnFin X0 (some .int) (Q3a0k3 Z o0 ln G w_record h0 n0) ({ frames := 0, cells := 0, slots := 0, locals := 0 } : Room).cells ({ frames := 0, cells := 0, slots := 0, locals := 0 } : Room).slots (mkF m 0 #[.val (.ref o0), .unset, .unset, .unset] []) := by
  refine OwnFin.step (g' := (mkF m 1 #[.val (.ref o0), .unset, .unset, .unset] [(.int (0 : Int32))])) X0 (fun t k => XS.iconst X0.here hx rfl (hb hby d3_0) k) ?_
  refine OwnFin.step (g' := (mkF m 2 #[.val (.ref o0), .val (.int (0 : Int32)), .unset, .unset] [])) X0 (fun t k => XS.istoreN X0.here hx rfl (hb hby d3_1) rfl (l' := #[.val (.ref o0), .val (.int (0 : Int32)), .unset, .unset]) rfl k) ?_
  refine OwnFin.step (g' := (mkF m 3 #[.val (.ref o0), .val (.int (0 : Int32)), .unset, .unset] [(.int (0 : Int32))])) X0 (fun t k => XS.iconst X0.here hx rfl (hb hby d3_2) k) ?_
  refine OwnFin.step (g' := (mkF m 4 #[.val (.ref o0), .val (.int (0 : Int32)), .val (.int (0 : Int32)), .unset] [])) X0 (fun t k => XS.istoreN X0.here hx rfl (hb hby d3_3) rfl (l' := #[.val (.ref o0), .val (.int (0 : Int32)), .val (.int (0 : Int32)), .unset]) rfl k) ?_
  refine OwnFin.step (g' := (mkF m 5 #[.val (.ref o0), .val (.int (0 : Int32)), .val (.int (0 : Int32)), .unset] [(.ref o0)])) X0 (fun t k => XS.aloadN X0.here hx rfl (hb hby d3_4) rfl rfl k) ?_
  obtain ⟨T1, X1, e1, st1⟩ := getF X0 hx hZ hown (host := "") (Or.inl (hw _ (wm 20 rfl))) Via.refl e0 F_at_o0 (g := (mkF m 5 #[.val (.ref o0), .val (.int (0 : Int32)), .val (.int (0 : Int32)), .unset] [(.ref o0)])) rfl rfl (hb hby d3_5)
  refine OwnFin.step (g' := (mkF m 8 #[.val (.ref o0), .val (.int (0 : Int32)), .val (.int (0 : Int32)), .unset] [(.int (0 : Int32))])) X1 (fun t k => st1 _ k) ?_
  refine OwnFin.step (g' := (mkF m 9 #[.val (.ref o0), .val (.int (0 : Int32)), .val (.int (0 : Int32)), .unset] [(.ref o0), (.int (0 : Int32))])) X1 (fun t k => XS.aloadN X1.here hx rfl (hb hby d3_8) rfl rfl k) ?_
  obtain ⟨T2, X2, e2, st2⟩ := getF X1 hx hZ hown (host := "") (Or.inl (hw _ (wm 13 rfl))) Via.refl e1 F_record_o0 (g := (mkF m 9 #[.val (.ref o0), .val (.int (0 : Int32)), .val (.int (0 : Int32)), .unset] [(.ref o0), (.int (0 : Int32))])) rfl rfl (hb hby d3_9)
  refine OwnFin.step (g' := (mkF m 12 #[.val (.ref o0), .val (.int (0 : Int32)), .val (.int (0 : Int32)), .unset] [(.ref w_record), (.int (0 : Int32))])) X2 (fun t k => st2 _ k) ?_
  refine OwnFin.step (g' := (mkF m 13 #[.val (.ref o0), .val (.int (0 : Int32)), .val (.int (0 : Int32)), .unset] [(.int (ln).toInt32), (.int (0 : Int32))])) X2 (fun t k => own_len X2 hx hZ e2 A_w_record (g := (mkF m 12 #[.val (.ref o0), .val (.int (0 : Int32)), .val (.int (0 : Int32)), .unset] [(.ref w_record), (.int (0 : Int32))])) rfl rfl (hb hby d3_12) _ k) ?_
  refine OwnFin.step (g' := (mkF m 26 #[.val (.ref o0), .val (.int (0 : Int32)), .val (.int (0 : Int32)), .unset] [])) X2 (fun t k => XS.icmpYes X2.here hx rfl (pc0 := 13) (pc' := 26) rfl (hb hby d3_13) rfl (feq (bra0k33_13 ln G hln hb0 hb1 hb2)).2 (by decide) (by decide) k) ?_
  refine OwnFin.step (g' := (mkF m 27 #[.val (.ref o0), .val (.int (0 : Int32)), .val (.int (0 : Int32)), .unset] [(.ref o0)])) X2 (fun t k => XS.aloadN X2.here hx rfl (hb hby d3_26) rfl rfl k) ?_
  obtain ⟨T3, X3, e3, st3⟩ := getF X2 hx hZ hown (host := "") (Or.inl (hw _ (wm 13 rfl))) Via.refl e2 F_record_o0 (g := (mkF m 27 #[.val (.ref o0), .val (.int (0 : Int32)), .val (.int (0 : Int32)), .unset] [(.ref o0)])) rfl rfl (hb hby d3_27)
  refine OwnFin.step (g' := (mkF m 30 #[.val (.ref o0), .val (.int (0 : Int32)), .val (.int (0 : Int32)), .unset] [(.ref w_record)])) X3 (fun t k => st3 _ k) ?_
  refine OwnFin.step (g' := (mkF m 31 #[.val (.ref o0), .val (.int (0 : Int32)), .val (.int (0 : Int32)), .unset] [(.ref o0), (.ref w_record)])) X3 (fun t k => XS.aloadN X3.here hx rfl (hb hby d3_30) rfl rfl k) ?_
  refine OwnFin.step (g' := (mkF m 32 #[.val (.ref o0), .val (.int (0 : Int32)), .val (.int (0 : Int32)), .unset] [(.ref o0), (.ref o0), (.ref w_record)])) X3 (fun t k => XS.dup X3.here hx rfl (hb hby d3_31) rfl rfl k) ?_
  obtain ⟨T4, X4, e4, st4⟩ := getF X3 hx hZ hown (host := "") (Or.inl (hw _ (wm 20 rfl))) Via.refl e3 F_at_o0 (g := (mkF m 32 #[.val (.ref o0), .val (.int (0 : Int32)), .val (.int (0 : Int32)), .unset] [(.ref o0), (.ref o0), (.ref w_record)])) rfl rfl (hb hby d3_32)
  refine OwnFin.step (g' := (mkF m 35 #[.val (.ref o0), .val (.int (0 : Int32)), .val (.int (0 : Int32)), .unset] [(.int (0 : Int32)), (.ref o0), (.ref w_record)])) X4 (fun t k => st4 _ k) ?_
  refine OwnFin.step (g' := (mkF m 36 #[.val (.ref o0), .val (.int (0 : Int32)), .val (.int (0 : Int32)), .unset] [(.int (0 : Int32)), (.ref o0), (.int (0 : Int32)), (.ref w_record)])) X4 (fun t k => XT.dupX1 X4.here hx rfl (hb hby d3_35) rfl rfl rfl k) ?_
  refine OwnFin.step (g' := (mkF m 37 #[.val (.ref o0), .val (.int (0 : Int32)), .val (.int (0 : Int32)), .unset] [(.int (1 : Int32)), (.int (0 : Int32)), (.ref o0), (.int (0 : Int32)), (.ref w_record)])) X4 (fun t k => XS.iconst X4.here hx rfl (hb hby d3_36) k) ?_
  refine OwnFin.step (g' := (mkF m 38 #[.val (.ref o0), .val (.int (0 : Int32)), .val (.int (0 : Int32)), .unset] [(.int (1 : Int32)), (.ref o0), (.int (0 : Int32)), (.ref w_record)])) X4 (fun t k => XS.iadd X4.here hx rfl (hb hby d3_37) rfl k) ?_
  obtain ⟨T5, h5, L5, X5, e5, N5, W5, F5, st5⟩ := own_putF X4 hx hZ hown (hw _ (wm 20 rfl)) e4 N0 F_at_o0 E_o0 g_o0 (Or.inl (hw _ (wm 21 rfl))) (hw _ (wm 5 rfl)) (fty := .int) (by decide) rfl rfl (g := (mkF m 38 #[.val (.ref o0), .val (.int (0 : Int32)), .val (.int (0 : Int32)), .unset] [(.int (1 : Int32)), (.ref o0), (.int (0 : Int32)), (.ref w_record)])) rfl rfl (hb hby d3_38)
  have K5 := Keep.of_wr W5
  have Z5 := Nat.le_trans Z0 K5.1
  have S5 := Nat.le_trans (Nat.le_refl h0.size) K5.1
  have F6 := Fld.other W5 F_record_o0 (Or.inr (slot_ne (Or.inr (hw _ (wm 14 rfl))) (Or.inl (hw _ (wm 21 rfl))) (by decide) (t := (.array .byte)) (t' := .int) (by decide) (by decide)))
  have E7 := Exa.wr W5 E_o0
  refine OwnFin.step (g' := (mkF m 41 #[.val (.ref o0), .val (.int (0 : Int32)), .val (.int (0 : Int32)), .unset] [(.int (0 : Int32)), (.ref w_record)])) X5 (fun t k => st5 _ k) ?_
  have A8 := (A_w_record.keep K5 (ninS (Ne.symm ne_o0__w_record) nin0))
  refine OwnFin.step (g' := (mkF m 42 #[.val (.ref o0), .val (.int (0 : Int32)), .val (.int (0 : Int32)), .unset] [(.int (G ((0 : Int32)).toNatClampNeg))])) X5 (fun t k => own_ldB X5 hx hZ e5 A8 (iba0k33_41 ln G hln hb0 hb1 hb2) rfl (g := (mkF m 41 #[.val (.ref o0), .val (.int (0 : Int32)), .val (.int (0 : Int32)), .unset] [(.int (0 : Int32)), (.ref w_record)])) rfl rfl (hb hby d3_41) _ k) ?_
  refine OwnFin.step (g' := (mkF m 45 #[.val (.ref o0), .val (.int (0 : Int32)), .val (.int (0 : Int32)), .unset] [(.int (255 : Int32)), (.int (G ((0 : Int32)).toNatClampNeg))])) X5 (fun t k => XS.sipush X5.here hx rfl (hb hby d3_42) k) ?_
  refine OwnFin.step (g' := (mkF m 46 #[.val (.ref o0), .val (.int (0 : Int32)), .val (.int (0 : Int32)), .unset] [(.int ((G ((0 : Int32)).toNatClampNeg) &&& (255 : Int32)))])) X5 (fun t k => XS.iand X5.here hx rfl (hb hby d3_45) rfl k) ?_
  refine OwnFin.step (g' := (mkF m 47 #[.val (.ref o0), .val (.int (0 : Int32)), .val (.int (0 : Int32)), .val (.int (va0k33_46 G))] [])) X5 (fun t k => XS.istoreN X5.here hx rfl (hb hby d3_46) rfl (l' := #[.val (.ref o0), .val (.int (0 : Int32)), .val (.int (0 : Int32)), .val (.int (va0k33_46 G))]) rfl k) ?_
  refine OwnFin.step (g' := (mkF m 48 #[.val (.ref o0), .val (.int (0 : Int32)), .val (.int (0 : Int32)), .val (.int (va0k33_46 G))] [(.int (0 : Int32))])) X5 (fun t k => XS.iloadN X5.here hx rfl (hb hby d3_47) rfl k) ?_
  refine OwnFin.step (g' := (mkF m 50 #[.val (.ref o0), .val (.int (0 : Int32)), .val (.int (0 : Int32)), .val (.int (va0k33_46 G))] [(.int (28 : Int32)), (.int (0 : Int32))])) X5 (fun t k => XS.bipush X5.here hx rfl (hb hby d3_48) k) ?_
  refine OwnFin.step (g' := (mkF m 69 #[.val (.ref o0), .val (.int (0 : Int32)), .val (.int (0 : Int32)), .val (.int (va0k33_46 G))] [])) X5 (fun t k => XS.icmpYes X5.here hx rfl (pc0 := 50) (pc' := 69) rfl (hb hby d3_50) rfl (feq (show ¬ ((0 : Int32) = (28 : Int32)) by first | decide | exact Int32.lt_irrefl _ | exact Int64.lt_irrefl _)).2 (by decide) (by decide) k) ?_
  refine OwnFin.step (g' := (mkF m 70 #[.val (.ref o0), .val (.int (0 : Int32)), .val (.int (0 : Int32)), .val (.int (va0k33_46 G))] [(.int (0 : Int32))])) X5 (fun t k => XS.iloadN X5.here hx rfl (hb hby d3_69) rfl k) ?_
  refine OwnFin.step (g' := (mkF m 71 #[.val (.ref o0), .val (.int (0 : Int32)), .val (.int (0 : Int32)), .val (.int (va0k33_46 G))] [(.int (va0k33_46 G)), (.int (0 : Int32))])) X5 (fun t k => XS.iloadN X5.here hx rfl (hb hby d3_70) rfl k) ?_
  refine OwnFin.step (g' := (mkF m 73 #[.val (.ref o0), .val (.int (0 : Int32)), .val (.int (0 : Int32)), .val (.int (va0k33_46 G))] [(.int (127 : Int32)), (.int (va0k33_46 G)), (.int (0 : Int32))])) X5 (fun t k => XS.bipush X5.here hx rfl (hb hby d3_71) k) ?_
  refine OwnFin.step (g' := (mkF m 74 #[.val (.ref o0), .val (.int (0 : Int32)), .val (.int (0 : Int32)), .val (.int (va0k33_46 G))] [(.int ((va0k33_46 G) &&& (127 : Int32))), (.int (0 : Int32))])) X5 (fun t k => XS.iand X5.here hx rfl (hb hby d3_73) rfl k) ?_
  refine OwnFin.step (g' := (mkF m 75 #[.val (.ref o0), .val (.int (0 : Int32)), .val (.int (0 : Int32)), .val (.int (va0k33_46 G))] [(.int (0 : Int32)), (.int ((va0k33_46 G) &&& (127 : Int32))), (.int (0 : Int32))])) X5 (fun t k => XS.iloadN X5.here hx rfl (hb hby d3_74) rfl k) ?_
  refine OwnFin.step (g' := (mkF m 76 #[.val (.ref o0), .val (.int (0 : Int32)), .val (.int (0 : Int32)), .val (.int (va0k33_46 G))] [(.int (((va0k33_46 G) &&& (127 : Int32)) <<< ((0 : Int32) &&& 31))), (.int (0 : Int32))])) X5 (fun t k => XT.ishl X5.here hx rfl (hb hby d3_75) rfl k) ?_
  refine OwnFin.step (g' := (mkF m 77 #[.val (.ref o0), .val (.int (0 : Int32)), .val (.int (0 : Int32)), .val (.int (va0k33_46 G))] [(.int ((0 : Int32) ||| (((va0k33_46 G) &&& (127 : Int32)) <<< ((0 : Int32) &&& 31))))])) X5 (fun t k => XT.ior X5.here hx rfl (hb hby d3_76) rfl k) ?_
  refine OwnFin.step (g' := (mkF m 78 #[.val (.ref o0), .val (.int (va0k33_77 G)), .val (.int (0 : Int32)), .val (.int (va0k33_46 G))] [])) X5 (fun t k => XS.istoreN X5.here hx rfl (hb hby d3_77) rfl (l' := #[.val (.ref o0), .val (.int (va0k33_77 G)), .val (.int (0 : Int32)), .val (.int (va0k33_46 G))]) rfl k) ?_
  refine OwnFin.step (g' := (mkF m 79 #[.val (.ref o0), .val (.int (va0k33_77 G)), .val (.int (0 : Int32)), .val (.int (va0k33_46 G))] [(.int (va0k33_46 G))])) X5 (fun t k => XS.iloadN X5.here hx rfl (hb hby d3_78) rfl k) ?_
  refine OwnFin.step (g' := (mkF m 82 #[.val (.ref o0), .val (.int (va0k33_77 G)), .val (.int (0 : Int32)), .val (.int (va0k33_46 G))] [(.int (128 : Int32)), (.int (va0k33_46 G))])) X5 (fun t k => XS.sipush X5.here hx rfl (hb hby d3_79) k) ?_
  refine OwnFin.step (g' := (mkF m 87 #[.val (.ref o0), .val (.int (va0k33_77 G)), .val (.int (0 : Int32)), .val (.int (va0k33_46 G))] [])) X5 (fun t k => XS.icmpYes X5.here hx rfl (pc0 := 82) (pc' := 87) rfl (hb hby d3_82) rfl (flt (bra0k33_82 G ln hln hb0 hb1 hb2)).2.1 (by decide) (by decide) k) ?_
  refine OwnFin.step (g' := (mkF m 90 #[.val (.ref o0), .val (.int (va0k33_77 G)), .val (.int (7 : Int32)), .val (.int (va0k33_46 G))] [])) X5 (fun t k => XS.iinc X5.here hx rfl (hb hby d3_87) rfl (l' := #[.val (.ref o0), .val (.int (va0k33_77 G)), .val (.int (7 : Int32)), .val (.int (va0k33_46 G))]) rfl k) ?_
  refine OwnFin.step (g' := (mkF m 4 #[.val (.ref o0), .val (.int (va0k33_77 G)), .val (.int (7 : Int32)), .val (.int (va0k33_46 G))] [])) X5 (fun t k => XS.goto X5.here hx rfl (pc0 := 90) (pc' := 4) rfl (hb hby d3_90) (by decide) (by decide) k) ?_
  refine OwnFin.step (g' := (mkF m 5 #[.val (.ref o0), .val (.int (va0k33_77 G)), .val (.int (7 : Int32)), .val (.int (va0k33_46 G))] [(.ref o0)])) X5 (fun t k => XS.aloadN X5.here hx rfl (hb hby d3_4) rfl rfl k) ?_
  obtain ⟨T9, X9, e9, st9⟩ := getF X5 hx hZ hown (host := "") (Or.inl (hw _ (wm 20 rfl))) Via.refl e5 F5 (g := (mkF m 5 #[.val (.ref o0), .val (.int (va0k33_77 G)), .val (.int (7 : Int32)), .val (.int (va0k33_46 G))] [(.ref o0)])) rfl rfl (hb hby d3_5)
  refine OwnFin.step (g' := (mkF m 8 #[.val (.ref o0), .val (.int (va0k33_77 G)), .val (.int (7 : Int32)), .val (.int (va0k33_46 G))] [(.int (1 : Int32))])) X9 (fun t k => st9 _ k) ?_
  refine OwnFin.step (g' := (mkF m 9 #[.val (.ref o0), .val (.int (va0k33_77 G)), .val (.int (7 : Int32)), .val (.int (va0k33_46 G))] [(.ref o0), (.int (1 : Int32))])) X9 (fun t k => XS.aloadN X9.here hx rfl (hb hby d3_8) rfl rfl k) ?_
  obtain ⟨T10, X10, e10, st10⟩ := getF X9 hx hZ hown (host := "") (Or.inl (hw _ (wm 13 rfl))) Via.refl e9 F6 (g := (mkF m 9 #[.val (.ref o0), .val (.int (va0k33_77 G)), .val (.int (7 : Int32)), .val (.int (va0k33_46 G))] [(.ref o0), (.int (1 : Int32))])) rfl rfl (hb hby d3_9)
  refine OwnFin.step (g' := (mkF m 12 #[.val (.ref o0), .val (.int (va0k33_77 G)), .val (.int (7 : Int32)), .val (.int (va0k33_46 G))] [(.ref w_record), (.int (1 : Int32))])) X10 (fun t k => st10 _ k) ?_
  refine OwnFin.step (g' := (mkF m 13 #[.val (.ref o0), .val (.int (va0k33_77 G)), .val (.int (7 : Int32)), .val (.int (va0k33_46 G))] [(.int (ln).toInt32), (.int (1 : Int32))])) X10 (fun t k => own_len X10 hx hZ e10 A8 (g := (mkF m 12 #[.val (.ref o0), .val (.int (va0k33_77 G)), .val (.int (7 : Int32)), .val (.int (va0k33_46 G))] [(.ref w_record), (.int (1 : Int32))])) rfl rfl (hb hby d3_12) _ k) ?_
  refine OwnFin.step (g' := (mkF m 26 #[.val (.ref o0), .val (.int (va0k33_77 G)), .val (.int (7 : Int32)), .val (.int (va0k33_46 G))] [])) X10 (fun t k => XS.icmpYes X10.here hx rfl (pc0 := 13) (pc' := 26) rfl (hb hby d3_13) rfl (feq (bra0k33_13z ln G hln hb0 hb1 hb2)).2 (by decide) (by decide) k) ?_
  refine OwnFin.step (g' := (mkF m 27 #[.val (.ref o0), .val (.int (va0k33_77 G)), .val (.int (7 : Int32)), .val (.int (va0k33_46 G))] [(.ref o0)])) X10 (fun t k => XS.aloadN X10.here hx rfl (hb hby d3_26) rfl rfl k) ?_
  obtain ⟨T11, X11, e11, st11⟩ := getF X10 hx hZ hown (host := "") (Or.inl (hw _ (wm 13 rfl))) Via.refl e10 F6 (g := (mkF m 27 #[.val (.ref o0), .val (.int (va0k33_77 G)), .val (.int (7 : Int32)), .val (.int (va0k33_46 G))] [(.ref o0)])) rfl rfl (hb hby d3_27)
  refine OwnFin.step (g' := (mkF m 30 #[.val (.ref o0), .val (.int (va0k33_77 G)), .val (.int (7 : Int32)), .val (.int (va0k33_46 G))] [(.ref w_record)])) X11 (fun t k => st11 _ k) ?_
  refine OwnFin.step (g' := (mkF m 31 #[.val (.ref o0), .val (.int (va0k33_77 G)), .val (.int (7 : Int32)), .val (.int (va0k33_46 G))] [(.ref o0), (.ref w_record)])) X11 (fun t k => XS.aloadN X11.here hx rfl (hb hby d3_30) rfl rfl k) ?_
  refine OwnFin.step (g' := (mkF m 32 #[.val (.ref o0), .val (.int (va0k33_77 G)), .val (.int (7 : Int32)), .val (.int (va0k33_46 G))] [(.ref o0), (.ref o0), (.ref w_record)])) X11 (fun t k => XS.dup X11.here hx rfl (hb hby d3_31) rfl rfl k) ?_
  obtain ⟨T12, X12, e12, st12⟩ := getF X11 hx hZ hown (host := "") (Or.inl (hw _ (wm 20 rfl))) Via.refl e11 F5 (g := (mkF m 32 #[.val (.ref o0), .val (.int (va0k33_77 G)), .val (.int (7 : Int32)), .val (.int (va0k33_46 G))] [(.ref o0), (.ref o0), (.ref w_record)])) rfl rfl (hb hby d3_32)
  refine OwnFin.step (g' := (mkF m 35 #[.val (.ref o0), .val (.int (va0k33_77 G)), .val (.int (7 : Int32)), .val (.int (va0k33_46 G))] [(.int (1 : Int32)), (.ref o0), (.ref w_record)])) X12 (fun t k => st12 _ k) ?_
  refine OwnFin.step (g' := (mkF m 36 #[.val (.ref o0), .val (.int (va0k33_77 G)), .val (.int (7 : Int32)), .val (.int (va0k33_46 G))] [(.int (1 : Int32)), (.ref o0), (.int (1 : Int32)), (.ref w_record)])) X12 (fun t k => XT.dupX1 X12.here hx rfl (hb hby d3_35) rfl rfl rfl k) ?_
  refine OwnFin.step (g' := (mkF m 37 #[.val (.ref o0), .val (.int (va0k33_77 G)), .val (.int (7 : Int32)), .val (.int (va0k33_46 G))] [(.int (1 : Int32)), (.int (1 : Int32)), (.ref o0), (.int (1 : Int32)), (.ref w_record)])) X12 (fun t k => XS.iconst X12.here hx rfl (hb hby d3_36) k) ?_
  refine OwnFin.step (g' := (mkF m 38 #[.val (.ref o0), .val (.int (va0k33_77 G)), .val (.int (7 : Int32)), .val (.int (va0k33_46 G))] [(.int (2 : Int32)), (.ref o0), (.int (1 : Int32)), (.ref w_record)])) X12 (fun t k => XS.iadd X12.here hx rfl (hb hby d3_37) rfl k) ?_
  obtain ⟨T13, h13, L13, X13, e13, N13, W13, F13, st13⟩ := own_putF X12 hx hZ hown (hw _ (wm 20 rfl)) e12 N5 F5 E7 g_o0 (Or.inl (hw _ (wm 21 rfl))) (hw _ (wm 5 rfl)) (fty := .int) (by decide) rfl rfl (g := (mkF m 38 #[.val (.ref o0), .val (.int (va0k33_77 G)), .val (.int (7 : Int32)), .val (.int (va0k33_46 G))] [(.int (2 : Int32)), (.ref o0), (.int (1 : Int32)), (.ref w_record)])) rfl rfl (hb hby d3_38)
  have K13 := Keep.of_wr W13
  have Z13 := Nat.le_trans Z5 K13.1
  have S13 := Nat.le_trans S5 K13.1
  have F14 := Fld.other W13 F6 (Or.inr (slot_ne (Or.inr (hw _ (wm 14 rfl))) (Or.inl (hw _ (wm 21 rfl))) (by decide) (t := (.array .byte)) (t' := .int) (by decide) (by decide)))
  have E15 := Exa.wr W13 E7
  refine OwnFin.step (g' := (mkF m 41 #[.val (.ref o0), .val (.int (va0k33_77 G)), .val (.int (7 : Int32)), .val (.int (va0k33_46 G))] [(.int (1 : Int32)), (.ref w_record)])) X13 (fun t k => st13 _ k) ?_
  have A16 := (A8.keep K13 (ninS (Ne.symm ne_o0__w_record) nin0))
  refine OwnFin.step (g' := (mkF m 42 #[.val (.ref o0), .val (.int (va0k33_77 G)), .val (.int (7 : Int32)), .val (.int (va0k33_46 G))] [(.int (G ((1 : Int32)).toNatClampNeg))])) X13 (fun t k => own_ldB X13 hx hZ e13 A16 (iba0k33_41z ln G hln hb0 hb1 hb2) rfl (g := (mkF m 41 #[.val (.ref o0), .val (.int (va0k33_77 G)), .val (.int (7 : Int32)), .val (.int (va0k33_46 G))] [(.int (1 : Int32)), (.ref w_record)])) rfl rfl (hb hby d3_41) _ k) ?_
  refine OwnFin.step (g' := (mkF m 45 #[.val (.ref o0), .val (.int (va0k33_77 G)), .val (.int (7 : Int32)), .val (.int (va0k33_46 G))] [(.int (255 : Int32)), (.int (G ((1 : Int32)).toNatClampNeg))])) X13 (fun t k => XS.sipush X13.here hx rfl (hb hby d3_42) k) ?_
  refine OwnFin.step (g' := (mkF m 46 #[.val (.ref o0), .val (.int (va0k33_77 G)), .val (.int (7 : Int32)), .val (.int (va0k33_46 G))] [(.int ((G ((1 : Int32)).toNatClampNeg) &&& (255 : Int32)))])) X13 (fun t k => XS.iand X13.here hx rfl (hb hby d3_45) rfl k) ?_
  refine OwnFin.step (g' := (mkF m 47 #[.val (.ref o0), .val (.int (va0k33_77 G)), .val (.int (7 : Int32)), .val (.int (va0k33_46b G))] [])) X13 (fun t k => XS.istoreN X13.here hx rfl (hb hby d3_46) rfl (l' := #[.val (.ref o0), .val (.int (va0k33_77 G)), .val (.int (7 : Int32)), .val (.int (va0k33_46b G))]) rfl k) ?_
  refine OwnFin.step (g' := (mkF m 48 #[.val (.ref o0), .val (.int (va0k33_77 G)), .val (.int (7 : Int32)), .val (.int (va0k33_46b G))] [(.int (7 : Int32))])) X13 (fun t k => XS.iloadN X13.here hx rfl (hb hby d3_47) rfl k) ?_
  refine OwnFin.step (g' := (mkF m 50 #[.val (.ref o0), .val (.int (va0k33_77 G)), .val (.int (7 : Int32)), .val (.int (va0k33_46b G))] [(.int (28 : Int32)), (.int (7 : Int32))])) X13 (fun t k => XS.bipush X13.here hx rfl (hb hby d3_48) k) ?_
  refine OwnFin.step (g' := (mkF m 69 #[.val (.ref o0), .val (.int (va0k33_77 G)), .val (.int (7 : Int32)), .val (.int (va0k33_46b G))] [])) X13 (fun t k => XS.icmpYes X13.here hx rfl (pc0 := 50) (pc' := 69) rfl (hb hby d3_50) rfl (feq (show ¬ ((7 : Int32) = (28 : Int32)) by first | decide | exact Int32.lt_irrefl _ | exact Int64.lt_irrefl _)).2 (by decide) (by decide) k) ?_
  refine OwnFin.step (g' := (mkF m 70 #[.val (.ref o0), .val (.int (va0k33_77 G)), .val (.int (7 : Int32)), .val (.int (va0k33_46b G))] [(.int (va0k33_77 G))])) X13 (fun t k => XS.iloadN X13.here hx rfl (hb hby d3_69) rfl k) ?_
  refine OwnFin.step (g' := (mkF m 71 #[.val (.ref o0), .val (.int (va0k33_77 G)), .val (.int (7 : Int32)), .val (.int (va0k33_46b G))] [(.int (va0k33_46b G)), (.int (va0k33_77 G))])) X13 (fun t k => XS.iloadN X13.here hx rfl (hb hby d3_70) rfl k) ?_
  refine OwnFin.step (g' := (mkF m 73 #[.val (.ref o0), .val (.int (va0k33_77 G)), .val (.int (7 : Int32)), .val (.int (va0k33_46b G))] [(.int (127 : Int32)), (.int (va0k33_46b G)), (.int (va0k33_77 G))])) X13 (fun t k => XS.bipush X13.here hx rfl (hb hby d3_71) k) ?_
  refine OwnFin.step (g' := (mkF m 74 #[.val (.ref o0), .val (.int (va0k33_77 G)), .val (.int (7 : Int32)), .val (.int (va0k33_46b G))] [(.int ((va0k33_46b G) &&& (127 : Int32))), (.int (va0k33_77 G))])) X13 (fun t k => XS.iand X13.here hx rfl (hb hby d3_73) rfl k) ?_
  refine OwnFin.step (g' := (mkF m 75 #[.val (.ref o0), .val (.int (va0k33_77 G)), .val (.int (7 : Int32)), .val (.int (va0k33_46b G))] [(.int (7 : Int32)), (.int ((va0k33_46b G) &&& (127 : Int32))), (.int (va0k33_77 G))])) X13 (fun t k => XS.iloadN X13.here hx rfl (hb hby d3_74) rfl k) ?_
  refine OwnFin.step (g' := (mkF m 76 #[.val (.ref o0), .val (.int (va0k33_77 G)), .val (.int (7 : Int32)), .val (.int (va0k33_46b G))] [(.int (((va0k33_46b G) &&& (127 : Int32)) <<< ((7 : Int32) &&& 31))), (.int (va0k33_77 G))])) X13 (fun t k => XT.ishl X13.here hx rfl (hb hby d3_75) rfl k) ?_
  refine OwnFin.step (g' := (mkF m 77 #[.val (.ref o0), .val (.int (va0k33_77 G)), .val (.int (7 : Int32)), .val (.int (va0k33_46b G))] [(.int ((va0k33_77 G) ||| (((va0k33_46b G) &&& (127 : Int32)) <<< ((7 : Int32) &&& 31))))])) X13 (fun t k => XT.ior X13.here hx rfl (hb hby d3_76) rfl k) ?_
  refine OwnFin.step (g' := (mkF m 78 #[.val (.ref o0), .val (.int (va0k33_77b G)), .val (.int (7 : Int32)), .val (.int (va0k33_46b G))] [])) X13 (fun t k => XS.istoreN X13.here hx rfl (hb hby d3_77) rfl (l' := #[.val (.ref o0), .val (.int (va0k33_77b G)), .val (.int (7 : Int32)), .val (.int (va0k33_46b G))]) rfl k) ?_
  refine OwnFin.step (g' := (mkF m 79 #[.val (.ref o0), .val (.int (va0k33_77b G)), .val (.int (7 : Int32)), .val (.int (va0k33_46b G))] [(.int (va0k33_46b G))])) X13 (fun t k => XS.iloadN X13.here hx rfl (hb hby d3_78) rfl k) ?_
  refine OwnFin.step (g' := (mkF m 82 #[.val (.ref o0), .val (.int (va0k33_77b G)), .val (.int (7 : Int32)), .val (.int (va0k33_46b G))] [(.int (128 : Int32)), (.int (va0k33_46b G))])) X13 (fun t k => XS.sipush X13.here hx rfl (hb hby d3_79) k) ?_
  refine OwnFin.step (g' := (mkF m 87 #[.val (.ref o0), .val (.int (va0k33_77b G)), .val (.int (7 : Int32)), .val (.int (va0k33_46b G))] [])) X13 (fun t k => XS.icmpYes X13.here hx rfl (pc0 := 82) (pc' := 87) rfl (hb hby d3_82) rfl (flt (bra0k33_82z G ln hln hb0 hb1 hb2)).2.1 (by decide) (by decide) k) ?_
  refine OwnFin.step (g' := (mkF m 90 #[.val (.ref o0), .val (.int (va0k33_77b G)), .val (.int (14 : Int32)), .val (.int (va0k33_46b G))] [])) X13 (fun t k => XS.iinc X13.here hx rfl (hb hby d3_87) rfl (l' := #[.val (.ref o0), .val (.int (va0k33_77b G)), .val (.int (14 : Int32)), .val (.int (va0k33_46b G))]) rfl k) ?_
  refine OwnFin.step (g' := (mkF m 4 #[.val (.ref o0), .val (.int (va0k33_77b G)), .val (.int (14 : Int32)), .val (.int (va0k33_46b G))] [])) X13 (fun t k => XS.goto X13.here hx rfl (pc0 := 90) (pc' := 4) rfl (hb hby d3_90) (by decide) (by decide) k) ?_
  refine OwnFin.step (g' := (mkF m 5 #[.val (.ref o0), .val (.int (va0k33_77b G)), .val (.int (14 : Int32)), .val (.int (va0k33_46b G))] [(.ref o0)])) X13 (fun t k => XS.aloadN X13.here hx rfl (hb hby d3_4) rfl rfl k) ?_
  obtain ⟨T17, X17, e17, st17⟩ := getF X13 hx hZ hown (host := "") (Or.inl (hw _ (wm 20 rfl))) Via.refl e13 F13 (g := (mkF m 5 #[.val (.ref o0), .val (.int (va0k33_77b G)), .val (.int (14 : Int32)), .val (.int (va0k33_46b G))] [(.ref o0)])) rfl rfl (hb hby d3_5)
  refine OwnFin.step (g' := (mkF m 8 #[.val (.ref o0), .val (.int (va0k33_77b G)), .val (.int (14 : Int32)), .val (.int (va0k33_46b G))] [(.int (2 : Int32))])) X17 (fun t k => st17 _ k) ?_
  refine OwnFin.step (g' := (mkF m 9 #[.val (.ref o0), .val (.int (va0k33_77b G)), .val (.int (14 : Int32)), .val (.int (va0k33_46b G))] [(.ref o0), (.int (2 : Int32))])) X17 (fun t k => XS.aloadN X17.here hx rfl (hb hby d3_8) rfl rfl k) ?_
  obtain ⟨T18, X18, e18, st18⟩ := getF X17 hx hZ hown (host := "") (Or.inl (hw _ (wm 13 rfl))) Via.refl e17 F14 (g := (mkF m 9 #[.val (.ref o0), .val (.int (va0k33_77b G)), .val (.int (14 : Int32)), .val (.int (va0k33_46b G))] [(.ref o0), (.int (2 : Int32))])) rfl rfl (hb hby d3_9)
  refine OwnFin.step (g' := (mkF m 12 #[.val (.ref o0), .val (.int (va0k33_77b G)), .val (.int (14 : Int32)), .val (.int (va0k33_46b G))] [(.ref w_record), (.int (2 : Int32))])) X18 (fun t k => st18 _ k) ?_
  refine OwnFin.step (g' := (mkF m 13 #[.val (.ref o0), .val (.int (va0k33_77b G)), .val (.int (14 : Int32)), .val (.int (va0k33_46b G))] [(.int (ln).toInt32), (.int (2 : Int32))])) X18 (fun t k => own_len X18 hx hZ e18 A16 (g := (mkF m 12 #[.val (.ref o0), .val (.int (va0k33_77b G)), .val (.int (14 : Int32)), .val (.int (va0k33_46b G))] [(.ref w_record), (.int (2 : Int32))])) rfl rfl (hb hby d3_12) _ k) ?_
  refine OwnFin.step (g' := (mkF m 26 #[.val (.ref o0), .val (.int (va0k33_77b G)), .val (.int (14 : Int32)), .val (.int (va0k33_46b G))] [])) X18 (fun t k => XS.icmpYes X18.here hx rfl (pc0 := 13) (pc' := 26) rfl (hb hby d3_13) rfl (feq (bra0k33_13zz ln G hln hb0 hb1 hb2)).2 (by decide) (by decide) k) ?_
  refine OwnFin.step (g' := (mkF m 27 #[.val (.ref o0), .val (.int (va0k33_77b G)), .val (.int (14 : Int32)), .val (.int (va0k33_46b G))] [(.ref o0)])) X18 (fun t k => XS.aloadN X18.here hx rfl (hb hby d3_26) rfl rfl k) ?_
  obtain ⟨T19, X19, e19, st19⟩ := getF X18 hx hZ hown (host := "") (Or.inl (hw _ (wm 13 rfl))) Via.refl e18 F14 (g := (mkF m 27 #[.val (.ref o0), .val (.int (va0k33_77b G)), .val (.int (14 : Int32)), .val (.int (va0k33_46b G))] [(.ref o0)])) rfl rfl (hb hby d3_27)
  refine OwnFin.step (g' := (mkF m 30 #[.val (.ref o0), .val (.int (va0k33_77b G)), .val (.int (14 : Int32)), .val (.int (va0k33_46b G))] [(.ref w_record)])) X19 (fun t k => st19 _ k) ?_
  refine OwnFin.step (g' := (mkF m 31 #[.val (.ref o0), .val (.int (va0k33_77b G)), .val (.int (14 : Int32)), .val (.int (va0k33_46b G))] [(.ref o0), (.ref w_record)])) X19 (fun t k => XS.aloadN X19.here hx rfl (hb hby d3_30) rfl rfl k) ?_
  refine OwnFin.step (g' := (mkF m 32 #[.val (.ref o0), .val (.int (va0k33_77b G)), .val (.int (14 : Int32)), .val (.int (va0k33_46b G))] [(.ref o0), (.ref o0), (.ref w_record)])) X19 (fun t k => XS.dup X19.here hx rfl (hb hby d3_31) rfl rfl k) ?_
  obtain ⟨T20, X20, e20, st20⟩ := getF X19 hx hZ hown (host := "") (Or.inl (hw _ (wm 20 rfl))) Via.refl e19 F13 (g := (mkF m 32 #[.val (.ref o0), .val (.int (va0k33_77b G)), .val (.int (14 : Int32)), .val (.int (va0k33_46b G))] [(.ref o0), (.ref o0), (.ref w_record)])) rfl rfl (hb hby d3_32)
  refine OwnFin.step (g' := (mkF m 35 #[.val (.ref o0), .val (.int (va0k33_77b G)), .val (.int (14 : Int32)), .val (.int (va0k33_46b G))] [(.int (2 : Int32)), (.ref o0), (.ref w_record)])) X20 (fun t k => st20 _ k) ?_
  refine OwnFin.step (g' := (mkF m 36 #[.val (.ref o0), .val (.int (va0k33_77b G)), .val (.int (14 : Int32)), .val (.int (va0k33_46b G))] [(.int (2 : Int32)), (.ref o0), (.int (2 : Int32)), (.ref w_record)])) X20 (fun t k => XT.dupX1 X20.here hx rfl (hb hby d3_35) rfl rfl rfl k) ?_
  refine OwnFin.step (g' := (mkF m 37 #[.val (.ref o0), .val (.int (va0k33_77b G)), .val (.int (14 : Int32)), .val (.int (va0k33_46b G))] [(.int (1 : Int32)), (.int (2 : Int32)), (.ref o0), (.int (2 : Int32)), (.ref w_record)])) X20 (fun t k => XS.iconst X20.here hx rfl (hb hby d3_36) k) ?_
  refine OwnFin.step (g' := (mkF m 38 #[.val (.ref o0), .val (.int (va0k33_77b G)), .val (.int (14 : Int32)), .val (.int (va0k33_46b G))] [(.int (3 : Int32)), (.ref o0), (.int (2 : Int32)), (.ref w_record)])) X20 (fun t k => XS.iadd X20.here hx rfl (hb hby d3_37) rfl k) ?_
  obtain ⟨T21, h21, L21, X21, e21, N21, W21, F21, st21⟩ := own_putF X20 hx hZ hown (hw _ (wm 20 rfl)) e20 N13 F13 E15 g_o0 (Or.inl (hw _ (wm 21 rfl))) (hw _ (wm 5 rfl)) (fty := .int) (by decide) rfl rfl (g := (mkF m 38 #[.val (.ref o0), .val (.int (va0k33_77b G)), .val (.int (14 : Int32)), .val (.int (va0k33_46b G))] [(.int (3 : Int32)), (.ref o0), (.int (2 : Int32)), (.ref w_record)])) rfl rfl (hb hby d3_38)
  have K21 := Keep.of_wr W21
  have Z21 := Nat.le_trans Z13 K21.1
  have S21 := Nat.le_trans S13 K21.1
  have F22 := Fld.other W21 F14 (Or.inr (slot_ne (Or.inr (hw _ (wm 14 rfl))) (Or.inl (hw _ (wm 21 rfl))) (by decide) (t := (.array .byte)) (t' := .int) (by decide) (by decide)))
  have E23 := Exa.wr W21 E15
  refine OwnFin.step (g' := (mkF m 41 #[.val (.ref o0), .val (.int (va0k33_77b G)), .val (.int (14 : Int32)), .val (.int (va0k33_46b G))] [(.int (2 : Int32)), (.ref w_record)])) X21 (fun t k => st21 _ k) ?_
  have A24 := (A16.keep K21 (ninS (Ne.symm ne_o0__w_record) nin0))
  refine OwnFin.step (g' := (mkF m 42 #[.val (.ref o0), .val (.int (va0k33_77b G)), .val (.int (14 : Int32)), .val (.int (va0k33_46b G))] [(.int (G ((2 : Int32)).toNatClampNeg))])) X21 (fun t k => own_ldB X21 hx hZ e21 A24 (iba0k33_41zz ln G hln hb0 hb1 hb2) rfl (g := (mkF m 41 #[.val (.ref o0), .val (.int (va0k33_77b G)), .val (.int (14 : Int32)), .val (.int (va0k33_46b G))] [(.int (2 : Int32)), (.ref w_record)])) rfl rfl (hb hby d3_41) _ k) ?_
  refine OwnFin.step (g' := (mkF m 45 #[.val (.ref o0), .val (.int (va0k33_77b G)), .val (.int (14 : Int32)), .val (.int (va0k33_46b G))] [(.int (255 : Int32)), (.int (G ((2 : Int32)).toNatClampNeg))])) X21 (fun t k => XS.sipush X21.here hx rfl (hb hby d3_42) k) ?_
  refine OwnFin.step (g' := (mkF m 46 #[.val (.ref o0), .val (.int (va0k33_77b G)), .val (.int (14 : Int32)), .val (.int (va0k33_46b G))] [(.int ((G ((2 : Int32)).toNatClampNeg) &&& (255 : Int32)))])) X21 (fun t k => XS.iand X21.here hx rfl (hb hby d3_45) rfl k) ?_
  refine OwnFin.step (g' := (mkF m 47 #[.val (.ref o0), .val (.int (va0k33_77b G)), .val (.int (14 : Int32)), .val (.int (va0k33_46bb G))] [])) X21 (fun t k => XS.istoreN X21.here hx rfl (hb hby d3_46) rfl (l' := #[.val (.ref o0), .val (.int (va0k33_77b G)), .val (.int (14 : Int32)), .val (.int (va0k33_46bb G))]) rfl k) ?_
  refine OwnFin.step (g' := (mkF m 48 #[.val (.ref o0), .val (.int (va0k33_77b G)), .val (.int (14 : Int32)), .val (.int (va0k33_46bb G))] [(.int (14 : Int32))])) X21 (fun t k => XS.iloadN X21.here hx rfl (hb hby d3_47) rfl k) ?_
  refine OwnFin.step (g' := (mkF m 50 #[.val (.ref o0), .val (.int (va0k33_77b G)), .val (.int (14 : Int32)), .val (.int (va0k33_46bb G))] [(.int (28 : Int32)), (.int (14 : Int32))])) X21 (fun t k => XS.bipush X21.here hx rfl (hb hby d3_48) k) ?_
  refine OwnFin.step (g' := (mkF m 69 #[.val (.ref o0), .val (.int (va0k33_77b G)), .val (.int (14 : Int32)), .val (.int (va0k33_46bb G))] [])) X21 (fun t k => XS.icmpYes X21.here hx rfl (pc0 := 50) (pc' := 69) rfl (hb hby d3_50) rfl (feq (show ¬ ((14 : Int32) = (28 : Int32)) by first | decide | exact Int32.lt_irrefl _ | exact Int64.lt_irrefl _)).2 (by decide) (by decide) k) ?_
  refine OwnFin.step (g' := (mkF m 70 #[.val (.ref o0), .val (.int (va0k33_77b G)), .val (.int (14 : Int32)), .val (.int (va0k33_46bb G))] [(.int (va0k33_77b G))])) X21 (fun t k => XS.iloadN X21.here hx rfl (hb hby d3_69) rfl k) ?_
  refine OwnFin.step (g' := (mkF m 71 #[.val (.ref o0), .val (.int (va0k33_77b G)), .val (.int (14 : Int32)), .val (.int (va0k33_46bb G))] [(.int (va0k33_46bb G)), (.int (va0k33_77b G))])) X21 (fun t k => XS.iloadN X21.here hx rfl (hb hby d3_70) rfl k) ?_
  refine OwnFin.step (g' := (mkF m 73 #[.val (.ref o0), .val (.int (va0k33_77b G)), .val (.int (14 : Int32)), .val (.int (va0k33_46bb G))] [(.int (127 : Int32)), (.int (va0k33_46bb G)), (.int (va0k33_77b G))])) X21 (fun t k => XS.bipush X21.here hx rfl (hb hby d3_71) k) ?_
  refine OwnFin.step (g' := (mkF m 74 #[.val (.ref o0), .val (.int (va0k33_77b G)), .val (.int (14 : Int32)), .val (.int (va0k33_46bb G))] [(.int ((va0k33_46bb G) &&& (127 : Int32))), (.int (va0k33_77b G))])) X21 (fun t k => XS.iand X21.here hx rfl (hb hby d3_73) rfl k) ?_
  refine OwnFin.step (g' := (mkF m 75 #[.val (.ref o0), .val (.int (va0k33_77b G)), .val (.int (14 : Int32)), .val (.int (va0k33_46bb G))] [(.int (14 : Int32)), (.int ((va0k33_46bb G) &&& (127 : Int32))), (.int (va0k33_77b G))])) X21 (fun t k => XS.iloadN X21.here hx rfl (hb hby d3_74) rfl k) ?_
  refine OwnFin.step (g' := (mkF m 76 #[.val (.ref o0), .val (.int (va0k33_77b G)), .val (.int (14 : Int32)), .val (.int (va0k33_46bb G))] [(.int (((va0k33_46bb G) &&& (127 : Int32)) <<< ((14 : Int32) &&& 31))), (.int (va0k33_77b G))])) X21 (fun t k => XT.ishl X21.here hx rfl (hb hby d3_75) rfl k) ?_
  refine OwnFin.step (g' := (mkF m 77 #[.val (.ref o0), .val (.int (va0k33_77b G)), .val (.int (14 : Int32)), .val (.int (va0k33_46bb G))] [(.int ((va0k33_77b G) ||| (((va0k33_46bb G) &&& (127 : Int32)) <<< ((14 : Int32) &&& 31))))])) X21 (fun t k => XT.ior X21.here hx rfl (hb hby d3_76) rfl k) ?_
  refine OwnFin.step (g' := (mkF m 78 #[.val (.ref o0), .val (.int (va0k33_77bb G)), .val (.int (14 : Int32)), .val (.int (va0k33_46bb G))] [])) X21 (fun t k => XS.istoreN X21.here hx rfl (hb hby d3_77) rfl (l' := #[.val (.ref o0), .val (.int (va0k33_77bb G)), .val (.int (14 : Int32)), .val (.int (va0k33_46bb G))]) rfl k) ?_
  refine OwnFin.step (g' := (mkF m 79 #[.val (.ref o0), .val (.int (va0k33_77bb G)), .val (.int (14 : Int32)), .val (.int (va0k33_46bb G))] [(.int (va0k33_46bb G))])) X21 (fun t k => XS.iloadN X21.here hx rfl (hb hby d3_78) rfl k) ?_
  refine OwnFin.step (g' := (mkF m 82 #[.val (.ref o0), .val (.int (va0k33_77bb G)), .val (.int (14 : Int32)), .val (.int (va0k33_46bb G))] [(.int (128 : Int32)), (.int (va0k33_46bb G))])) X21 (fun t k => XS.sipush X21.here hx rfl (hb hby d3_79) k) ?_
  refine OwnFin.step (g' := (mkF m 85 #[.val (.ref o0), .val (.int (va0k33_77bb G)), .val (.int (14 : Int32)), .val (.int (va0k33_46bb G))] [])) X21 (fun t k => XS.icmpNo X21.here hx rfl (hb hby d3_82) rfl (tlt (bra0k33_82zz G ln hln hb0 hb1 hb2)).2.1 k) ?_
  refine OwnFin.step (g' := (mkF m 86 #[.val (.ref o0), .val (.int (va0k33_77bb G)), .val (.int (14 : Int32)), .val (.int (va0k33_46bb G))] [(.int (va0k33_77bb G))])) X21 (fun t k => XS.iloadN X21.here hx rfl (hb hby d3_85) rfl k) ?_
  refine OwnFin.retInt X21 (hb hby d3_86) (by decide) (by decide) ?_
  rw [e21]
  exact ⟨rfl, N21, (Keep.trans (Keep.trans (Keep.trans (Keep.refl h0 [o0]) K5 (allS (Or.inl (wm 0 rfl)) all0)) K13 (allS (Or.inl (wm 0 rfl)) all0)) K21 (allS (Or.inl (wm 0 rfl)) all0)), E23, F22, F21⟩
set_option maxRecDepth 65536 in
set_option maxHeartbeats 40000000 in
theorem rm3a0k3 (l : Launch) (Z : State) (a0 : Array Value) (hw : ∀ d ∈ tables_1, d.before a0 Z = true) (ws : List Jvm.Cond) (o0 : Addr) (ln : Nat) (G : Nat → Int32) (w_record : Addr) (h0 : Heap) (n0 : Nat) (Z0 : n0 ≤ h0.size) (E_o0 : Exa Z h0 o0 "com/example/faden/faden/rank/RecordReader") (g_o0 : n0 ≤ o0) (F_record_o0 : Fld Z h0 o0 "com/example/faden/faden/rank/RecordReader" "record" "[B" (.ref w_record)) (F_at_o0 : Fld Z h0 o0 "com/example/faden/faden/rank/RecordReader" "at" "I" (.int (0 : Int32))) (A_w_record : Ary Z h0 w_record .byte ln (fun i => .int (G i))) (ne_o0__w_record : o0 ≠ w_record) (hln : 3 ≤ ln ∧ ln < 100) (hb0 : 128 ≤ ((G 0) &&& 255).toInt) (hb1 : 128 ≤ ((G 1) &&& 255).toInt) (hb2 : ((G 2) &&& 255).toInt < 128) :
    MetFree l (⟨"com/example/faden/faden/rank/RecordReader", "number", "()I"⟩ : MethodName) (head1 (Jvm.Cond.code (⟨"com/example/faden/faden/rank/RecordReader", "number", "()I"⟩ : MethodName) prog_21_method_3_code 4 (some .int) :: ws) ({ frames := 0, cells := 0, slots := 0, locals := 0 } : Room)) (fun a U => a = #[(.ref o0)] ∧ Z.Warmed39 U.vm ∧ U.heap = h0) (fun _ _ _ _ _ => True) (fun _ U o U' => ∃ v L, o = .returned v ∧ (Q3a0k3 Z o0 ln G w_record h0 n0) v U'.heap L ∧ FrameEnd U o U' L ({ frames := 0, cells := 0, slots := 0, locals := 0 } : Room).cells ({ frames := 0, cells := 0, slots := 0, locals := 0 } : Room).slots) :=
  own_met (ret := (some .int)) (Q := (Q3a0k3 Z o0 ln G w_record h0 n0)) (plainFor_of_name pn_3) (fun m => ef_3 m o0) (fun p e s m below meth c s₁ X hx hby hml hown hnm hZ e0 => j3a0k3 X hx hZ hw hby hml hown hnm e0 (Fr.nil n0) Z0 o0 ln G w_record E_o0 g_o0 F_record_o0 F_at_o0 A_w_record ne_o0__w_record hln hb0 hb1 hb2)
theorem own_va0k33_77 (G : Nat → Int32) : (va0k33_77 G).toInt = ((G 0) &&& 255).toInt % 128 * 1 := by
  have m := Jvm.Kit.i32_mask (va0k33_46 G) 127 (k := 7) (by decide) (by decide)
  have e : (va0k33_46 G).toInt = ((G 0) &&& 255).toInt := by unfold va0k33_46; rw [own_c0]
  have u0 := Jvm.Kit.i32_mask (G 0) 255 (k := 8) (by decide) (by decide)
  have z0 : (0 : Int32).toInt = 0 := rfl
  have q := acc (a := (0 : Int32)) (g := (va0k33_46 G) &&& 127) (n := (0 : Int32) &&& 31) (k := 0) (by decide) (by omega) (by omega) (by omega) (by omega)
  unfold va0k33_77
  rw [q]; omega
theorem own_va0k33_77b (G : Nat → Int32) : (va0k33_77b G).toInt = ((G 0) &&& 255).toInt % 128 * 1 + ((G 1) &&& 255).toInt % 128 * 128 := by
  have m := Jvm.Kit.i32_mask (va0k33_46b G) 127 (k := 7) (by decide) (by decide)
  have e : (va0k33_46b G).toInt = ((G 1) &&& 255).toInt := by unfold va0k33_46b; rw [own_c1]
  have u0 := Jvm.Kit.i32_mask (G 0) 255 (k := 8) (by decide) (by decide)
  have u1 := Jvm.Kit.i32_mask (G 1) 255 (k := 8) (by decide) (by decide)
  have p := own_va0k33_77 G
  have z0 : (0 : Int32).toInt = 0 := rfl
  have q := acc (a := (va0k33_77 G)) (g := (va0k33_46b G) &&& 127) (n := (7 : Int32) &&& 31) (k := 7) (by decide) (by omega) (by omega) (by omega) (by omega)
  unfold va0k33_77b
  rw [q]; omega
theorem own_va0k33_77bb (G : Nat → Int32) : (va0k33_77bb G).toInt = ((G 0) &&& 255).toInt % 128 * 1 + ((G 1) &&& 255).toInt % 128 * 128 + ((G 2) &&& 255).toInt % 128 * 16384 := by
  have m := Jvm.Kit.i32_mask (va0k33_46bb G) 127 (k := 7) (by decide) (by decide)
  have e : (va0k33_46bb G).toInt = ((G 2) &&& 255).toInt := by unfold va0k33_46bb; rw [own_c2]
  have u0 := Jvm.Kit.i32_mask (G 0) 255 (k := 8) (by decide) (by decide)
  have u1 := Jvm.Kit.i32_mask (G 1) 255 (k := 8) (by decide) (by decide)
  have u2 := Jvm.Kit.i32_mask (G 2) 255 (k := 8) (by decide) (by decide)
  have p := own_va0k33_77b G
  have z0 : (0 : Int32).toInt = 0 := rfl
  have q := acc (a := (va0k33_77b G)) (g := (va0k33_46bb G) &&& 127) (n := (14 : Int32) &&& 31) (k := 14) (by decide) (by omega) (by omega) (by omega) (by omega)
  unfold va0k33_77bb
  rw [q]; omega
def va0k43_46 (G : Nat → Int32) : Int32 := ((G ((0 : Int32)).toNatClampNeg) &&& (255 : Int32))
def va0k43_77 (G : Nat → Int32) : Int32 := ((0 : Int32) ||| (((va0k43_46 G) &&& (127 : Int32)) <<< ((0 : Int32) &&& 31)))
def va0k43_46b (G : Nat → Int32) : Int32 := ((G ((1 : Int32)).toNatClampNeg) &&& (255 : Int32))
def va0k43_77b (G : Nat → Int32) : Int32 := ((va0k43_77 G) ||| (((va0k43_46b G) &&& (127 : Int32)) <<< ((7 : Int32) &&& 31)))
def va0k43_46bb (G : Nat → Int32) : Int32 := ((G ((2 : Int32)).toNatClampNeg) &&& (255 : Int32))
def va0k43_77bb (G : Nat → Int32) : Int32 := ((va0k43_77b G) ||| (((va0k43_46bb G) &&& (127 : Int32)) <<< ((14 : Int32) &&& 31)))
def va0k43_46bbb (G : Nat → Int32) : Int32 := ((G ((3 : Int32)).toNatClampNeg) &&& (255 : Int32))
def va0k43_77bbb (G : Nat → Int32) : Int32 := ((va0k43_77bb G) ||| (((va0k43_46bbb G) &&& (127 : Int32)) <<< ((21 : Int32) &&& 31)))
theorem bra0k43_13 (ln : Nat) (G : Nat → Int32) (hln : 4 ≤ ln ∧ ln < 100) (hb0 : 128 ≤ ((G 0) &&& 255).toInt) (hb1 : 128 ≤ ((G 1) &&& 255).toInt) (hb2 : 128 ≤ ((G 2) &&& 255).toInt) (hb3 : ((G 3) &&& 255).toInt < 128) : ¬ ((0 : Int32) = (ln).toInt32) := own_ne 0 (by decide) (by omega)
theorem iba0k43_41 (ln : Nat) (G : Nat → Int32) (hln : 4 ≤ ln ∧ ln < 100) (hb0 : 128 ≤ ((G 0) &&& 255).toInt) (hb1 : 128 ≤ ((G 1) &&& 255).toInt) (hb2 : 128 ≤ ((G 2) &&& 255).toInt) (hb3 : ((G 3) &&& 255).toInt < 128) : InB (0 : Int32) ln := own_in 0 (by decide) (by omega)
theorem bra0k43_82 (G : Nat → Int32) (ln : Nat) (hln : 4 ≤ ln ∧ ln < 100) (hb0 : 128 ≤ ((G 0) &&& 255).toInt) (hb1 : 128 ≤ ((G 1) &&& 255).toInt) (hb2 : 128 ≤ ((G 2) &&& 255).toInt) (hb3 : ((G 3) &&& 255).toInt < 128) : ¬ ((va0k43_46 G) < (128 : Int32)) := by
  have c0 : (128 : Int32).toInt = 128 := rfl
  have c1 : (7 : Int32).toInt = 7 := rfl
  have e0 : (va0k43_46 G).toInt = ((G 0) &&& 255).toInt := by
    unfold va0k43_46; rw [own_c0]
  rw [i32lt, e0]; omega
theorem bra0k43_13z (ln : Nat) (G : Nat → Int32) (hln : 4 ≤ ln ∧ ln < 100) (hb0 : 128 ≤ ((G 0) &&& 255).toInt) (hb1 : 128 ≤ ((G 1) &&& 255).toInt) (hb2 : 128 ≤ ((G 2) &&& 255).toInt) (hb3 : ((G 3) &&& 255).toInt < 128) : ¬ ((1 : Int32) = (ln).toInt32) := own_ne 1 (by decide) (by omega)
theorem iba0k43_41z (ln : Nat) (G : Nat → Int32) (hln : 4 ≤ ln ∧ ln < 100) (hb0 : 128 ≤ ((G 0) &&& 255).toInt) (hb1 : 128 ≤ ((G 1) &&& 255).toInt) (hb2 : 128 ≤ ((G 2) &&& 255).toInt) (hb3 : ((G 3) &&& 255).toInt < 128) : InB (1 : Int32) ln := own_in 1 (by decide) (by omega)
theorem bra0k43_82z (G : Nat → Int32) (ln : Nat) (hln : 4 ≤ ln ∧ ln < 100) (hb0 : 128 ≤ ((G 0) &&& 255).toInt) (hb1 : 128 ≤ ((G 1) &&& 255).toInt) (hb2 : 128 ≤ ((G 2) &&& 255).toInt) (hb3 : ((G 3) &&& 255).toInt < 128) : ¬ ((va0k43_46b G) < (128 : Int32)) := by
  have c0 : (128 : Int32).toInt = 128 := rfl
  have c1 : (7 : Int32).toInt = 7 := rfl
  have e0 : (va0k43_46b G).toInt = ((G 1) &&& 255).toInt := by
    unfold va0k43_46b; rw [own_c1]
  rw [i32lt, e0]; omega
theorem bra0k43_13zz (ln : Nat) (G : Nat → Int32) (hln : 4 ≤ ln ∧ ln < 100) (hb0 : 128 ≤ ((G 0) &&& 255).toInt) (hb1 : 128 ≤ ((G 1) &&& 255).toInt) (hb2 : 128 ≤ ((G 2) &&& 255).toInt) (hb3 : ((G 3) &&& 255).toInt < 128) : ¬ ((2 : Int32) = (ln).toInt32) := own_ne 2 (by decide) (by omega)
theorem iba0k43_41zz (ln : Nat) (G : Nat → Int32) (hln : 4 ≤ ln ∧ ln < 100) (hb0 : 128 ≤ ((G 0) &&& 255).toInt) (hb1 : 128 ≤ ((G 1) &&& 255).toInt) (hb2 : 128 ≤ ((G 2) &&& 255).toInt) (hb3 : ((G 3) &&& 255).toInt < 128) : InB (2 : Int32) ln := own_in 2 (by decide) (by omega)
theorem bra0k43_82zz (G : Nat → Int32) (ln : Nat) (hln : 4 ≤ ln ∧ ln < 100) (hb0 : 128 ≤ ((G 0) &&& 255).toInt) (hb1 : 128 ≤ ((G 1) &&& 255).toInt) (hb2 : 128 ≤ ((G 2) &&& 255).toInt) (hb3 : ((G 3) &&& 255).toInt < 128) : ¬ ((va0k43_46bb G) < (128 : Int32)) := by
  have c0 : (128 : Int32).toInt = 128 := rfl
  have c1 : (7 : Int32).toInt = 7 := rfl
  have e0 : (va0k43_46bb G).toInt = ((G 2) &&& 255).toInt := by
    unfold va0k43_46bb; rw [own_c2]
  rw [i32lt, e0]; omega
theorem bra0k43_13zzz (ln : Nat) (G : Nat → Int32) (hln : 4 ≤ ln ∧ ln < 100) (hb0 : 128 ≤ ((G 0) &&& 255).toInt) (hb1 : 128 ≤ ((G 1) &&& 255).toInt) (hb2 : 128 ≤ ((G 2) &&& 255).toInt) (hb3 : ((G 3) &&& 255).toInt < 128) : ¬ ((3 : Int32) = (ln).toInt32) := own_ne 3 (by decide) (by omega)
theorem iba0k43_41zzz (ln : Nat) (G : Nat → Int32) (hln : 4 ≤ ln ∧ ln < 100) (hb0 : 128 ≤ ((G 0) &&& 255).toInt) (hb1 : 128 ≤ ((G 1) &&& 255).toInt) (hb2 : 128 ≤ ((G 2) &&& 255).toInt) (hb3 : ((G 3) &&& 255).toInt < 128) : InB (3 : Int32) ln := own_in 3 (by decide) (by omega)
theorem bra0k43_82zzz (G : Nat → Int32) (ln : Nat) (hln : 4 ≤ ln ∧ ln < 100) (hb0 : 128 ≤ ((G 0) &&& 255).toInt) (hb1 : 128 ≤ ((G 1) &&& 255).toInt) (hb2 : 128 ≤ ((G 2) &&& 255).toInt) (hb3 : ((G 3) &&& 255).toInt < 128) : (va0k43_46bbb G) < (128 : Int32) := by
  have c0 : (128 : Int32).toInt = 128 := rfl
  have c1 : (7 : Int32).toInt = 7 := rfl
  have e0 : (va0k43_46bbb G).toInt = ((G 3) &&& 255).toInt := by
    unfold va0k43_46bbb; rw [own_c3]
  rw [i32lt, e0]; omega
def Q3a0k4 (Z : State) (o0 : Addr) (ln : Nat) (G : Nat → Int32) (w_record : Addr) (h0 : Heap) (n0 : Nat) : Option Value → Heap → List Loc → Prop := fun v h L => v = some (.int (va0k43_77bbb G)) ∧ Fr n0 L ∧ Keep h0 h [o0] ∧ Exa Z h o0 "com/example/faden/faden/rank/RecordReader" ∧ Fld Z h o0 "com/example/faden/faden/rank/RecordReader" "record" "[B" (.ref w_record) ∧ Fld Z h o0 "com/example/faden/faden/rank/RecordReader" "at" "I" (.int (4 : Int32))
set_option maxRecDepth 65536 in
set_option maxHeartbeats 40000000 in
theorem j3a0k4 {p : Program} {l : Launch} {e : Env} {s : State} {m : MethodId} {args : Array Value} {below : List Frame} {meth : Method} {c : Code} {T0 : State} {locs : List Loc} {Z : State} {a0 : Array Value} {h0 : Heap} {n0 : Nat}
    (X0 : Stand p l e ({ frames := 0, cells := 0, slots := 0, locals := 0 } : Room) s m args below meth c T0 locs 0 0) (hx : p.tables.exec = Jvm.exec) (hZ : Z.Warmed39 s.vm) (hw : ∀ d ∈ tables_1, d.before a0 Z = true) (hby : c.code = prog_21_method_3_code) (hml : c.maxLocals = 4) (hown : s.vm.findClass "com/example/faden/faden/rank/RecordReader" = some m.cls) (hnm : meth.name = "number") (e0 : T0.heap = h0) (N0 : Fr n0 locs) (Z0 : n0 ≤ h0.size) (o0 : Addr) (ln : Nat) (G : Nat → Int32) (w_record : Addr) (E_o0 : Exa Z h0 o0 "com/example/faden/faden/rank/RecordReader") (g_o0 : n0 ≤ o0) (F_record_o0 : Fld Z h0 o0 "com/example/faden/faden/rank/RecordReader" "record" "[B" (.ref w_record)) (F_at_o0 : Fld Z h0 o0 "com/example/faden/faden/rank/RecordReader" "at" "I" (.int (0 : Int32))) (A_w_record : Ary Z h0 w_record .byte ln (fun i => .int (G i))) (ne_o0__w_record : o0 ≠ w_record) (hln : 4 ≤ ln ∧ ln < 100) (hb0 : 128 ≤ ((G 0) &&& 255).toInt) (hb1 : 128 ≤ ((G 1) &&& 255).toInt) (hb2 : 128 ≤ ((G 2) &&& 255).toInt) (hb3 : ((G 3) &&& 255).toInt < 128) :
    OwnFin X0 (some .int) (Q3a0k4 Z o0 ln G w_record h0 n0) ({ frames := 0, cells := 0, slots := 0, locals := 0 } : Room).cells ({ frames := 0, cells := 0, slots := 0, locals := 0 } : Room).slots (mkF m 0 #[.val (.ref o0), .unset, .unset, .unset] []) := by
  refine OwnFin.step (g' := (mkF m 1 #[.val (.ref o0), .unset, .unset, .unset] [(.int (0 : Int32))])) X0 (fun t k => XS.iconst X0.here hx rfl (hb hby d3_0) k) ?_
  refine OwnFin.step (g' := (mkF m 2 #[.val (.ref o0), .val (.int (0 : Int32)), .unset, .unset] [])) X0 (fun t k => XS.istoreN X0.here hx rfl (hb hby d3_1) rfl (l' := #[.val (.ref o0), .val (.int (0 : Int32)), .unset, .unset]) rfl k) ?_
  refine OwnFin.step (g' := (mkF m 3 #[.val (.ref o0), .val (.int (0 : Int32)), .unset, .unset] [(.int (0 : Int32))])) X0 (fun t k => XS.iconst X0.here hx rfl (hb hby d3_2) k) ?_
  refine OwnFin.step (g' := (mkF m 4 #[.val (.ref o0), .val (.int (0 : Int32)), .val (.int (0 : Int32)), .unset] [])) X0 (fun t k => XS.istoreN X0.here hx rfl (hb hby d3_3) rfl (l' := #[.val (.ref o0), .val (.int (0 : Int32)), .val (.int (0 : Int32)), .unset]) rfl k) ?_
  refine OwnFin.step (g' := (mkF m 5 #[.val (.ref o0), .val (.int (0 : Int32)), .val (.int (0 : Int32)), .unset] [(.ref o0)])) X0 (fun t k => XS.aloadN X0.here hx rfl (hb hby d3_4) rfl rfl k) ?_
  obtain ⟨T1, X1, e1, st1⟩ := getF X0 hx hZ hown (host := "") (Or.inl (hw _ (wm 20 rfl))) Via.refl e0 F_at_o0 (g := (mkF m 5 #[.val (.ref o0), .val (.int (0 : Int32)), .val (.int (0 : Int32)), .unset] [(.ref o0)])) rfl rfl (hb hby d3_5)
  refine OwnFin.step (g' := (mkF m 8 #[.val (.ref o0), .val (.int (0 : Int32)), .val (.int (0 : Int32)), .unset] [(.int (0 : Int32))])) X1 (fun t k => st1 _ k) ?_
  refine OwnFin.step (g' := (mkF m 9 #[.val (.ref o0), .val (.int (0 : Int32)), .val (.int (0 : Int32)), .unset] [(.ref o0), (.int (0 : Int32))])) X1 (fun t k => XS.aloadN X1.here hx rfl (hb hby d3_8) rfl rfl k) ?_
  obtain ⟨T2, X2, e2, st2⟩ := getF X1 hx hZ hown (host := "") (Or.inl (hw _ (wm 13 rfl))) Via.refl e1 F_record_o0 (g := (mkF m 9 #[.val (.ref o0), .val (.int (0 : Int32)), .val (.int (0 : Int32)), .unset] [(.ref o0), (.int (0 : Int32))])) rfl rfl (hb hby d3_9)
  refine OwnFin.step (g' := (mkF m 12 #[.val (.ref o0), .val (.int (0 : Int32)), .val (.int (0 : Int32)), .unset] [(.ref w_record), (.int (0 : Int32))])) X2 (fun t k => st2 _ k) ?_
  refine OwnFin.step (g' := (mkF m 13 #[.val (.ref o0), .val (.int (0 : Int32)), .val (.int (0 : Int32)), .unset] [(.int (ln).toInt32), (.int (0 : Int32))])) X2 (fun t k => own_len X2 hx hZ e2 A_w_record (g := (mkF m 12 #[.val (.ref o0), .val (.int (0 : Int32)), .val (.int (0 : Int32)), .unset] [(.ref w_record), (.int (0 : Int32))])) rfl rfl (hb hby d3_12) _ k) ?_
  refine OwnFin.step (g' := (mkF m 26 #[.val (.ref o0), .val (.int (0 : Int32)), .val (.int (0 : Int32)), .unset] [])) X2 (fun t k => XS.icmpYes X2.here hx rfl (pc0 := 13) (pc' := 26) rfl (hb hby d3_13) rfl (feq (bra0k43_13 ln G hln hb0 hb1 hb2 hb3)).2 (by decide) (by decide) k) ?_
  refine OwnFin.step (g' := (mkF m 27 #[.val (.ref o0), .val (.int (0 : Int32)), .val (.int (0 : Int32)), .unset] [(.ref o0)])) X2 (fun t k => XS.aloadN X2.here hx rfl (hb hby d3_26) rfl rfl k) ?_
  obtain ⟨T3, X3, e3, st3⟩ := getF X2 hx hZ hown (host := "") (Or.inl (hw _ (wm 13 rfl))) Via.refl e2 F_record_o0 (g := (mkF m 27 #[.val (.ref o0), .val (.int (0 : Int32)), .val (.int (0 : Int32)), .unset] [(.ref o0)])) rfl rfl (hb hby d3_27)
  refine OwnFin.step (g' := (mkF m 30 #[.val (.ref o0), .val (.int (0 : Int32)), .val (.int (0 : Int32)), .unset] [(.ref w_record)])) X3 (fun t k => st3 _ k) ?_
  refine OwnFin.step (g' := (mkF m 31 #[.val (.ref o0), .val (.int (0 : Int32)), .val (.int (0 : Int32)), .unset] [(.ref o0), (.ref w_record)])) X3 (fun t k => XS.aloadN X3.here hx rfl (hb hby d3_30) rfl rfl k) ?_
  refine OwnFin.step (g' := (mkF m 32 #[.val (.ref o0), .val (.int (0 : Int32)), .val (.int (0 : Int32)), .unset] [(.ref o0), (.ref o0), (.ref w_record)])) X3 (fun t k => XS.dup X3.here hx rfl (hb hby d3_31) rfl rfl k) ?_
  obtain ⟨T4, X4, e4, st4⟩ := getF X3 hx hZ hown (host := "") (Or.inl (hw _ (wm 20 rfl))) Via.refl e3 F_at_o0 (g := (mkF m 32 #[.val (.ref o0), .val (.int (0 : Int32)), .val (.int (0 : Int32)), .unset] [(.ref o0), (.ref o0), (.ref w_record)])) rfl rfl (hb hby d3_32)
  refine OwnFin.step (g' := (mkF m 35 #[.val (.ref o0), .val (.int (0 : Int32)), .val (.int (0 : Int32)), .unset] [(.int (0 : Int32)), (.ref o0), (.ref w_record)])) X4 (fun t k => st4 _ k) ?_
  refine OwnFin.step (g' := (mkF m 36 #[.val (.ref o0), .val (.int (0 : Int32)), .val (.int (0 : Int32)), .unset] [(.int (0 : Int32)), (.ref o0), (.int (0 : Int32)), (.ref w_record)])) X4 (fun t k => XT.dupX1 X4.here hx rfl (hb hby d3_35) rfl rfl rfl k) ?_
  refine OwnFin.step (g' := (mkF m 37 #[.val (.ref o0), .val (.int (0 : Int32)), .val (.int (0 : Int32)), .unset] [(.int (1 : Int32)), (.int (0 : Int32)), (.ref o0), (.int (0 : Int32)), (.ref w_record)])) X4 (fun t k => XS.iconst X4.here hx rfl (hb hby d3_36) k) ?_
  refine OwnFin.step (g' := (mkF m 38 #[.val (.ref o0), .val (.int (0 : Int32)), .val (.int (0 : Int32)), .unset] [(.int (1 : Int32)), (.ref o0), (.int (0 : Int32)), (.ref w_record)])) X4 (fun t k => XS.iadd X4.here hx rfl (hb hby d3_37) rfl k) ?_
  obtain ⟨T5, h5, L5, X5, e5, N5, W5, F5, st5⟩ := own_putF X4 hx hZ hown (hw _ (wm 20 rfl)) e4 N0 F_at_o0 E_o0 g_o0 (Or.inl (hw _ (wm 21 rfl))) (hw _ (wm 5 rfl)) (fty := .int) (by decide) rfl rfl (g := (mkF m 38 #[.val (.ref o0), .val (.int (0 : Int32)), .val (.int (0 : Int32)), .unset] [(.int (1 : Int32)), (.ref o0), (.int (0 : Int32)), (.ref w_record)])) rfl rfl (hb hby d3_38)
  have K5 := Keep.of_wr W5
  have Z5 := Nat.le_trans Z0 K5.1
  have S5 := Nat.le_trans (Nat.le_refl h0.size) K5.1
  have F6 := Fld.other W5 F_record_o0 (Or.inr (slot_ne (Or.inr (hw _ (wm 14 rfl))) (Or.inl (hw _ (wm 21 rfl))) (by decide) (t := (.array .byte)) (t' := .int) (by decide) (by decide)))
  have E7 := Exa.wr W5 E_o0
  refine OwnFin.step (g' := (mkF m 41 #[.val (.ref o0), .val (.int (0 : Int32)), .val (.int (0 : Int32)), .unset] [(.int (0 : Int32)), (.ref w_record)])) X5 (fun t k => st5 _ k) ?_
  have A8 := (A_w_record.keep K5 (ninS (Ne.symm ne_o0__w_record) nin0))
  refine OwnFin.step (g' := (mkF m 42 #[.val (.ref o0), .val (.int (0 : Int32)), .val (.int (0 : Int32)), .unset] [(.int (G ((0 : Int32)).toNatClampNeg))])) X5 (fun t k => own_ldB X5 hx hZ e5 A8 (iba0k43_41 ln G hln hb0 hb1 hb2 hb3) rfl (g := (mkF m 41 #[.val (.ref o0), .val (.int (0 : Int32)), .val (.int (0 : Int32)), .unset] [(.int (0 : Int32)), (.ref w_record)])) rfl rfl (hb hby d3_41) _ k) ?_
  refine OwnFin.step (g' := (mkF m 45 #[.val (.ref o0), .val (.int (0 : Int32)), .val (.int (0 : Int32)), .unset] [(.int (255 : Int32)), (.int (G ((0 : Int32)).toNatClampNeg))])) X5 (fun t k => XS.sipush X5.here hx rfl (hb hby d3_42) k) ?_
  refine OwnFin.step (g' := (mkF m 46 #[.val (.ref o0), .val (.int (0 : Int32)), .val (.int (0 : Int32)), .unset] [(.int ((G ((0 : Int32)).toNatClampNeg) &&& (255 : Int32)))])) X5 (fun t k => XS.iand X5.here hx rfl (hb hby d3_45) rfl k) ?_
  refine OwnFin.step (g' := (mkF m 47 #[.val (.ref o0), .val (.int (0 : Int32)), .val (.int (0 : Int32)), .val (.int (va0k43_46 G))] [])) X5 (fun t k => XS.istoreN X5.here hx rfl (hb hby d3_46) rfl (l' := #[.val (.ref o0), .val (.int (0 : Int32)), .val (.int (0 : Int32)), .val (.int (va0k43_46 G))]) rfl k) ?_
  refine OwnFin.step (g' := (mkF m 48 #[.val (.ref o0), .val (.int (0 : Int32)), .val (.int (0 : Int32)), .val (.int (va0k43_46 G))] [(.int (0 : Int32))])) X5 (fun t k => XS.iloadN X5.here hx rfl (hb hby d3_47) rfl k) ?_
  refine OwnFin.step (g' := (mkF m 50 #[.val (.ref o0), .val (.int (0 : Int32)), .val (.int (0 : Int32)), .val (.int (va0k43_46 G))] [(.int (28 : Int32)), (.int (0 : Int32))])) X5 (fun t k => XS.bipush X5.here hx rfl (hb hby d3_48) k) ?_
  refine OwnFin.step (g' := (mkF m 69 #[.val (.ref o0), .val (.int (0 : Int32)), .val (.int (0 : Int32)), .val (.int (va0k43_46 G))] [])) X5 (fun t k => XS.icmpYes X5.here hx rfl (pc0 := 50) (pc' := 69) rfl (hb hby d3_50) rfl (feq (show ¬ ((0 : Int32) = (28 : Int32)) by first | decide | exact Int32.lt_irrefl _ | exact Int64.lt_irrefl _)).2 (by decide) (by decide) k) ?_
  refine OwnFin.step (g' := (mkF m 70 #[.val (.ref o0), .val (.int (0 : Int32)), .val (.int (0 : Int32)), .val (.int (va0k43_46 G))] [(.int (0 : Int32))])) X5 (fun t k => XS.iloadN X5.here hx rfl (hb hby d3_69) rfl k) ?_
  refine OwnFin.step (g' := (mkF m 71 #[.val (.ref o0), .val (.int (0 : Int32)), .val (.int (0 : Int32)), .val (.int (va0k43_46 G))] [(.int (va0k43_46 G)), (.int (0 : Int32))])) X5 (fun t k => XS.iloadN X5.here hx rfl (hb hby d3_70) rfl k) ?_
  refine OwnFin.step (g' := (mkF m 73 #[.val (.ref o0), .val (.int (0 : Int32)), .val (.int (0 : Int32)), .val (.int (va0k43_46 G))] [(.int (127 : Int32)), (.int (va0k43_46 G)), (.int (0 : Int32))])) X5 (fun t k => XS.bipush X5.here hx rfl (hb hby d3_71) k) ?_
  refine OwnFin.step (g' := (mkF m 74 #[.val (.ref o0), .val (.int (0 : Int32)), .val (.int (0 : Int32)), .val (.int (va0k43_46 G))] [(.int ((va0k43_46 G) &&& (127 : Int32))), (.int (0 : Int32))])) X5 (fun t k => XS.iand X5.here hx rfl (hb hby d3_73) rfl k) ?_
  refine OwnFin.step (g' := (mkF m 75 #[.val (.ref o0), .val (.int (0 : Int32)), .val (.int (0 : Int32)), .val (.int (va0k43_46 G))] [(.int (0 : Int32)), (.int ((va0k43_46 G) &&& (127 : Int32))), (.int (0 : Int32))])) X5 (fun t k => XS.iloadN X5.here hx rfl (hb hby d3_74) rfl k) ?_
  refine OwnFin.step (g' := (mkF m 76 #[.val (.ref o0), .val (.int (0 : Int32)), .val (.int (0 : Int32)), .val (.int (va0k43_46 G))] [(.int (((va0k43_46 G) &&& (127 : Int32)) <<< ((0 : Int32) &&& 31))), (.int (0 : Int32))])) X5 (fun t k => XT.ishl X5.here hx rfl (hb hby d3_75) rfl k) ?_
  refine OwnFin.step (g' := (mkF m 77 #[.val (.ref o0), .val (.int (0 : Int32)), .val (.int (0 : Int32)), .val (.int (va0k43_46 G))] [(.int ((0 : Int32) ||| (((va0k43_46 G) &&& (127 : Int32)) <<< ((0 : Int32) &&& 31))))])) X5 (fun t k => XT.ior X5.here hx rfl (hb hby d3_76) rfl k) ?_
  refine OwnFin.step (g' := (mkF m 78 #[.val (.ref o0), .val (.int (va0k43_77 G)), .val (.int (0 : Int32)), .val (.int (va0k43_46 G))] [])) X5 (fun t k => XS.istoreN X5.here hx rfl (hb hby d3_77) rfl (l' := #[.val (.ref o0), .val (.int (va0k43_77 G)), .val (.int (0 : Int32)), .val (.int (va0k43_46 G))]) rfl k) ?_
  refine OwnFin.step (g' := (mkF m 79 #[.val (.ref o0), .val (.int (va0k43_77 G)), .val (.int (0 : Int32)), .val (.int (va0k43_46 G))] [(.int (va0k43_46 G))])) X5 (fun t k => XS.iloadN X5.here hx rfl (hb hby d3_78) rfl k) ?_
  refine OwnFin.step (g' := (mkF m 82 #[.val (.ref o0), .val (.int (va0k43_77 G)), .val (.int (0 : Int32)), .val (.int (va0k43_46 G))] [(.int (128 : Int32)), (.int (va0k43_46 G))])) X5 (fun t k => XS.sipush X5.here hx rfl (hb hby d3_79) k) ?_
  refine OwnFin.step (g' := (mkF m 87 #[.val (.ref o0), .val (.int (va0k43_77 G)), .val (.int (0 : Int32)), .val (.int (va0k43_46 G))] [])) X5 (fun t k => XS.icmpYes X5.here hx rfl (pc0 := 82) (pc' := 87) rfl (hb hby d3_82) rfl (flt (bra0k43_82 G ln hln hb0 hb1 hb2 hb3)).2.1 (by decide) (by decide) k) ?_
  refine OwnFin.step (g' := (mkF m 90 #[.val (.ref o0), .val (.int (va0k43_77 G)), .val (.int (7 : Int32)), .val (.int (va0k43_46 G))] [])) X5 (fun t k => XS.iinc X5.here hx rfl (hb hby d3_87) rfl (l' := #[.val (.ref o0), .val (.int (va0k43_77 G)), .val (.int (7 : Int32)), .val (.int (va0k43_46 G))]) rfl k) ?_
  refine OwnFin.step (g' := (mkF m 4 #[.val (.ref o0), .val (.int (va0k43_77 G)), .val (.int (7 : Int32)), .val (.int (va0k43_46 G))] [])) X5 (fun t k => XS.goto X5.here hx rfl (pc0 := 90) (pc' := 4) rfl (hb hby d3_90) (by decide) (by decide) k) ?_
  refine OwnFin.step (g' := (mkF m 5 #[.val (.ref o0), .val (.int (va0k43_77 G)), .val (.int (7 : Int32)), .val (.int (va0k43_46 G))] [(.ref o0)])) X5 (fun t k => XS.aloadN X5.here hx rfl (hb hby d3_4) rfl rfl k) ?_
  obtain ⟨T9, X9, e9, st9⟩ := getF X5 hx hZ hown (host := "") (Or.inl (hw _ (wm 20 rfl))) Via.refl e5 F5 (g := (mkF m 5 #[.val (.ref o0), .val (.int (va0k43_77 G)), .val (.int (7 : Int32)), .val (.int (va0k43_46 G))] [(.ref o0)])) rfl rfl (hb hby d3_5)
  refine OwnFin.step (g' := (mkF m 8 #[.val (.ref o0), .val (.int (va0k43_77 G)), .val (.int (7 : Int32)), .val (.int (va0k43_46 G))] [(.int (1 : Int32))])) X9 (fun t k => st9 _ k) ?_
  refine OwnFin.step (g' := (mkF m 9 #[.val (.ref o0), .val (.int (va0k43_77 G)), .val (.int (7 : Int32)), .val (.int (va0k43_46 G))] [(.ref o0), (.int (1 : Int32))])) X9 (fun t k => XS.aloadN X9.here hx rfl (hb hby d3_8) rfl rfl k) ?_
  obtain ⟨T10, X10, e10, st10⟩ := getF X9 hx hZ hown (host := "") (Or.inl (hw _ (wm 13 rfl))) Via.refl e9 F6 (g := (mkF m 9 #[.val (.ref o0), .val (.int (va0k43_77 G)), .val (.int (7 : Int32)), .val (.int (va0k43_46 G))] [(.ref o0), (.int (1 : Int32))])) rfl rfl (hb hby d3_9)
  refine OwnFin.step (g' := (mkF m 12 #[.val (.ref o0), .val (.int (va0k43_77 G)), .val (.int (7 : Int32)), .val (.int (va0k43_46 G))] [(.ref w_record), (.int (1 : Int32))])) X10 (fun t k => st10 _ k) ?_
  refine OwnFin.step (g' := (mkF m 13 #[.val (.ref o0), .val (.int (va0k43_77 G)), .val (.int (7 : Int32)), .val (.int (va0k43_46 G))] [(.int (ln).toInt32), (.int (1 : Int32))])) X10 (fun t k => own_len X10 hx hZ e10 A8 (g := (mkF m 12 #[.val (.ref o0), .val (.int (va0k43_77 G)), .val (.int (7 : Int32)), .val (.int (va0k43_46 G))] [(.ref w_record), (.int (1 : Int32))])) rfl rfl (hb hby d3_12) _ k) ?_
  refine OwnFin.step (g' := (mkF m 26 #[.val (.ref o0), .val (.int (va0k43_77 G)), .val (.int (7 : Int32)), .val (.int (va0k43_46 G))] [])) X10 (fun t k => XS.icmpYes X10.here hx rfl (pc0 := 13) (pc' := 26) rfl (hb hby d3_13) rfl (feq (bra0k43_13z ln G hln hb0 hb1 hb2 hb3)).2 (by decide) (by decide) k) ?_
  refine OwnFin.step (g' := (mkF m 27 #[.val (.ref o0), .val (.int (va0k43_77 G)), .val (.int (7 : Int32)), .val (.int (va0k43_46 G))] [(.ref o0)])) X10 (fun t k => XS.aloadN X10.here hx rfl (hb hby d3_26) rfl rfl k) ?_
  obtain ⟨T11, X11, e11, st11⟩ := getF X10 hx hZ hown (host := "") (Or.inl (hw _ (wm 13 rfl))) Via.refl e10 F6 (g := (mkF m 27 #[.val (.ref o0), .val (.int (va0k43_77 G)), .val (.int (7 : Int32)), .val (.int (va0k43_46 G))] [(.ref o0)])) rfl rfl (hb hby d3_27)
  refine OwnFin.step (g' := (mkF m 30 #[.val (.ref o0), .val (.int (va0k43_77 G)), .val (.int (7 : Int32)), .val (.int (va0k43_46 G))] [(.ref w_record)])) X11 (fun t k => st11 _ k) ?_
  refine OwnFin.step (g' := (mkF m 31 #[.val (.ref o0), .val (.int (va0k43_77 G)), .val (.int (7 : Int32)), .val (.int (va0k43_46 G))] [(.ref o0), (.ref w_record)])) X11 (fun t k => XS.aloadN X11.here hx rfl (hb hby d3_30) rfl rfl k) ?_
  refine OwnFin.step (g' := (mkF m 32 #[.val (.ref o0), .val (.int (va0k43_77 G)), .val (.int (7 : Int32)), .val (.int (va0k43_46 G))] [(.ref o0), (.ref o0), (.ref w_record)])) X11 (fun t k => XS.dup X11.here hx rfl (hb hby d3_31) rfl rfl k) ?_
  obtain ⟨T12, X12, e12, st12⟩ := getF X11 hx hZ hown (host := "") (Or.inl (hw _ (wm 20 rfl))) Via.refl e11 F5 (g := (mkF m 32 #[.val (.ref o0), .val (.int (va0k43_77 G)), .val (.int (7 : Int32)), .val (.int (va0k43_46 G))] [(.ref o0), (.ref o0), (.ref w_record)])) rfl rfl (hb hby d3_32)
  refine OwnFin.step (g' := (mkF m 35 #[.val (.ref o0), .val (.int (va0k43_77 G)), .val (.int (7 : Int32)), .val (.int (va0k43_46 G))] [(.int (1 : Int32)), (.ref o0), (.ref w_record)])) X12 (fun t k => st12 _ k) ?_
  refine OwnFin.step (g' := (mkF m 36 #[.val (.ref o0), .val (.int (va0k43_77 G)), .val (.int (7 : Int32)), .val (.int (va0k43_46 G))] [(.int (1 : Int32)), (.ref o0), (.int (1 : Int32)), (.ref w_record)])) X12 (fun t k => XT.dupX1 X12.here hx rfl (hb hby d3_35) rfl rfl rfl k) ?_
  refine OwnFin.step (g' := (mkF m 37 #[.val (.ref o0), .val (.int (va0k43_77 G)), .val (.int (7 : Int32)), .val (.int (va0k43_46 G))] [(.int (1 : Int32)), (.int (1 : Int32)), (.ref o0), (.int (1 : Int32)), (.ref w_record)])) X12 (fun t k => XS.iconst X12.here hx rfl (hb hby d3_36) k) ?_
  refine OwnFin.step (g' := (mkF m 38 #[.val (.ref o0), .val (.int (va0k43_77 G)), .val (.int (7 : Int32)), .val (.int (va0k43_46 G))] [(.int (2 : Int32)), (.ref o0), (.int (1 : Int32)), (.ref w_record)])) X12 (fun t k => XS.iadd X12.here hx rfl (hb hby d3_37) rfl k) ?_
  obtain ⟨T13, h13, L13, X13, e13, N13, W13, F13, st13⟩ := own_putF X12 hx hZ hown (hw _ (wm 20 rfl)) e12 N5 F5 E7 g_o0 (Or.inl (hw _ (wm 21 rfl))) (hw _ (wm 5 rfl)) (fty := .int) (by decide) rfl rfl (g := (mkF m 38 #[.val (.ref o0), .val (.int (va0k43_77 G)), .val (.int (7 : Int32)), .val (.int (va0k43_46 G))] [(.int (2 : Int32)), (.ref o0), (.int (1 : Int32)), (.ref w_record)])) rfl rfl (hb hby d3_38)
  have K13 := Keep.of_wr W13
  have Z13 := Nat.le_trans Z5 K13.1
  have S13 := Nat.le_trans S5 K13.1
  have F14 := Fld.other W13 F6 (Or.inr (slot_ne (Or.inr (hw _ (wm 14 rfl))) (Or.inl (hw _ (wm 21 rfl))) (by decide) (t := (.array .byte)) (t' := .int) (by decide) (by decide)))
  have E15 := Exa.wr W13 E7
  refine OwnFin.step (g' := (mkF m 41 #[.val (.ref o0), .val (.int (va0k43_77 G)), .val (.int (7 : Int32)), .val (.int (va0k43_46 G))] [(.int (1 : Int32)), (.ref w_record)])) X13 (fun t k => st13 _ k) ?_
  have A16 := (A8.keep K13 (ninS (Ne.symm ne_o0__w_record) nin0))
  refine OwnFin.step (g' := (mkF m 42 #[.val (.ref o0), .val (.int (va0k43_77 G)), .val (.int (7 : Int32)), .val (.int (va0k43_46 G))] [(.int (G ((1 : Int32)).toNatClampNeg))])) X13 (fun t k => own_ldB X13 hx hZ e13 A16 (iba0k43_41z ln G hln hb0 hb1 hb2 hb3) rfl (g := (mkF m 41 #[.val (.ref o0), .val (.int (va0k43_77 G)), .val (.int (7 : Int32)), .val (.int (va0k43_46 G))] [(.int (1 : Int32)), (.ref w_record)])) rfl rfl (hb hby d3_41) _ k) ?_
  refine OwnFin.step (g' := (mkF m 45 #[.val (.ref o0), .val (.int (va0k43_77 G)), .val (.int (7 : Int32)), .val (.int (va0k43_46 G))] [(.int (255 : Int32)), (.int (G ((1 : Int32)).toNatClampNeg))])) X13 (fun t k => XS.sipush X13.here hx rfl (hb hby d3_42) k) ?_
  refine OwnFin.step (g' := (mkF m 46 #[.val (.ref o0), .val (.int (va0k43_77 G)), .val (.int (7 : Int32)), .val (.int (va0k43_46 G))] [(.int ((G ((1 : Int32)).toNatClampNeg) &&& (255 : Int32)))])) X13 (fun t k => XS.iand X13.here hx rfl (hb hby d3_45) rfl k) ?_
  refine OwnFin.step (g' := (mkF m 47 #[.val (.ref o0), .val (.int (va0k43_77 G)), .val (.int (7 : Int32)), .val (.int (va0k43_46b G))] [])) X13 (fun t k => XS.istoreN X13.here hx rfl (hb hby d3_46) rfl (l' := #[.val (.ref o0), .val (.int (va0k43_77 G)), .val (.int (7 : Int32)), .val (.int (va0k43_46b G))]) rfl k) ?_
  refine OwnFin.step (g' := (mkF m 48 #[.val (.ref o0), .val (.int (va0k43_77 G)), .val (.int (7 : Int32)), .val (.int (va0k43_46b G))] [(.int (7 : Int32))])) X13 (fun t k => XS.iloadN X13.here hx rfl (hb hby d3_47) rfl k) ?_
  refine OwnFin.step (g' := (mkF m 50 #[.val (.ref o0), .val (.int (va0k43_77 G)), .val (.int (7 : Int32)), .val (.int (va0k43_46b G))] [(.int (28 : Int32)), (.int (7 : Int32))])) X13 (fun t k => XS.bipush X13.here hx rfl (hb hby d3_48) k) ?_
  refine OwnFin.step (g' := (mkF m 69 #[.val (.ref o0), .val (.int (va0k43_77 G)), .val (.int (7 : Int32)), .val (.int (va0k43_46b G))] [])) X13 (fun t k => XS.icmpYes X13.here hx rfl (pc0 := 50) (pc' := 69) rfl (hb hby d3_50) rfl (feq (show ¬ ((7 : Int32) = (28 : Int32)) by first | decide | exact Int32.lt_irrefl _ | exact Int64.lt_irrefl _)).2 (by decide) (by decide) k) ?_
  refine OwnFin.step (g' := (mkF m 70 #[.val (.ref o0), .val (.int (va0k43_77 G)), .val (.int (7 : Int32)), .val (.int (va0k43_46b G))] [(.int (va0k43_77 G))])) X13 (fun t k => XS.iloadN X13.here hx rfl (hb hby d3_69) rfl k) ?_
  refine OwnFin.step (g' := (mkF m 71 #[.val (.ref o0), .val (.int (va0k43_77 G)), .val (.int (7 : Int32)), .val (.int (va0k43_46b G))] [(.int (va0k43_46b G)), (.int (va0k43_77 G))])) X13 (fun t k => XS.iloadN X13.here hx rfl (hb hby d3_70) rfl k) ?_
  refine OwnFin.step (g' := (mkF m 73 #[.val (.ref o0), .val (.int (va0k43_77 G)), .val (.int (7 : Int32)), .val (.int (va0k43_46b G))] [(.int (127 : Int32)), (.int (va0k43_46b G)), (.int (va0k43_77 G))])) X13 (fun t k => XS.bipush X13.here hx rfl (hb hby d3_71) k) ?_
  refine OwnFin.step (g' := (mkF m 74 #[.val (.ref o0), .val (.int (va0k43_77 G)), .val (.int (7 : Int32)), .val (.int (va0k43_46b G))] [(.int ((va0k43_46b G) &&& (127 : Int32))), (.int (va0k43_77 G))])) X13 (fun t k => XS.iand X13.here hx rfl (hb hby d3_73) rfl k) ?_
  refine OwnFin.step (g' := (mkF m 75 #[.val (.ref o0), .val (.int (va0k43_77 G)), .val (.int (7 : Int32)), .val (.int (va0k43_46b G))] [(.int (7 : Int32)), (.int ((va0k43_46b G) &&& (127 : Int32))), (.int (va0k43_77 G))])) X13 (fun t k => XS.iloadN X13.here hx rfl (hb hby d3_74) rfl k) ?_
  refine OwnFin.step (g' := (mkF m 76 #[.val (.ref o0), .val (.int (va0k43_77 G)), .val (.int (7 : Int32)), .val (.int (va0k43_46b G))] [(.int (((va0k43_46b G) &&& (127 : Int32)) <<< ((7 : Int32) &&& 31))), (.int (va0k43_77 G))])) X13 (fun t k => XT.ishl X13.here hx rfl (hb hby d3_75) rfl k) ?_
  refine OwnFin.step (g' := (mkF m 77 #[.val (.ref o0), .val (.int (va0k43_77 G)), .val (.int (7 : Int32)), .val (.int (va0k43_46b G))] [(.int ((va0k43_77 G) ||| (((va0k43_46b G) &&& (127 : Int32)) <<< ((7 : Int32) &&& 31))))])) X13 (fun t k => XT.ior X13.here hx rfl (hb hby d3_76) rfl k) ?_
  refine OwnFin.step (g' := (mkF m 78 #[.val (.ref o0), .val (.int (va0k43_77b G)), .val (.int (7 : Int32)), .val (.int (va0k43_46b G))] [])) X13 (fun t k => XS.istoreN X13.here hx rfl (hb hby d3_77) rfl (l' := #[.val (.ref o0), .val (.int (va0k43_77b G)), .val (.int (7 : Int32)), .val (.int (va0k43_46b G))]) rfl k) ?_
  refine OwnFin.step (g' := (mkF m 79 #[.val (.ref o0), .val (.int (va0k43_77b G)), .val (.int (7 : Int32)), .val (.int (va0k43_46b G))] [(.int (va0k43_46b G))])) X13 (fun t k => XS.iloadN X13.here hx rfl (hb hby d3_78) rfl k) ?_
  refine OwnFin.step (g' := (mkF m 82 #[.val (.ref o0), .val (.int (va0k43_77b G)), .val (.int (7 : Int32)), .val (.int (va0k43_46b G))] [(.int (128 : Int32)), (.int (va0k43_46b G))])) X13 (fun t k => XS.sipush X13.here hx rfl (hb hby d3_79) k) ?_
  refine OwnFin.step (g' := (mkF m 87 #[.val (.ref o0), .val (.int (va0k43_77b G)), .val (.int (7 : Int32)), .val (.int (va0k43_46b G))] [])) X13 (fun t k => XS.icmpYes X13.here hx rfl (pc0 := 82) (pc' := 87) rfl (hb hby d3_82) rfl (flt (bra0k43_82z G ln hln hb0 hb1 hb2 hb3)).2.1 (by decide) (by decide) k) ?_
  refine OwnFin.step (g' := (mkF m 90 #[.val (.ref o0), .val (.int (va0k43_77b G)), .val (.int (14 : Int32)), .val (.int (va0k43_46b G))] [])) X13 (fun t k => XS.iinc X13.here hx rfl (hb hby d3_87) rfl (l' := #[.val (.ref o0), .val (.int (va0k43_77b G)), .val (.int (14 : Int32)), .val (.int (va0k43_46b G))]) rfl k) ?_
  refine OwnFin.step (g' := (mkF m 4 #[.val (.ref o0), .val (.int (va0k43_77b G)), .val (.int (14 : Int32)), .val (.int (va0k43_46b G))] [])) X13 (fun t k => XS.goto X13.here hx rfl (pc0 := 90) (pc' := 4) rfl (hb hby d3_90) (by decide) (by decide) k) ?_
  refine OwnFin.step (g' := (mkF m 5 #[.val (.ref o0), .val (.int (va0k43_77b G)), .val (.int (14 : Int32)), .val (.int (va0k43_46b G))] [(.ref o0)])) X13 (fun t k => XS.aloadN X13.here hx rfl (hb hby d3_4) rfl rfl k) ?_
  obtain ⟨T17, X17, e17, st17⟩ := getF X13 hx hZ hown (host := "") (Or.inl (hw _ (wm 20 rfl))) Via.refl e13 F13 (g := (mkF m 5 #[.val (.ref o0), .val (.int (va0k43_77b G)), .val (.int (14 : Int32)), .val (.int (va0k43_46b G))] [(.ref o0)])) rfl rfl (hb hby d3_5)
  refine OwnFin.step (g' := (mkF m 8 #[.val (.ref o0), .val (.int (va0k43_77b G)), .val (.int (14 : Int32)), .val (.int (va0k43_46b G))] [(.int (2 : Int32))])) X17 (fun t k => st17 _ k) ?_
  refine OwnFin.step (g' := (mkF m 9 #[.val (.ref o0), .val (.int (va0k43_77b G)), .val (.int (14 : Int32)), .val (.int (va0k43_46b G))] [(.ref o0), (.int (2 : Int32))])) X17 (fun t k => XS.aloadN X17.here hx rfl (hb hby d3_8) rfl rfl k) ?_
  obtain ⟨T18, X18, e18, st18⟩ := getF X17 hx hZ hown (host := "") (Or.inl (hw _ (wm 13 rfl))) Via.refl e17 F14 (g := (mkF m 9 #[.val (.ref o0), .val (.int (va0k43_77b G)), .val (.int (14 : Int32)), .val (.int (va0k43_46b G))] [(.ref o0), (.int (2 : Int32))])) rfl rfl (hb hby d3_9)
  refine OwnFin.step (g' := (mkF m 12 #[.val (.ref o0), .val (.int (va0k43_77b G)), .val (.int (14 : Int32)), .val (.int (va0k43_46b G))] [(.ref w_record), (.int (2 : Int32))])) X18 (fun t k => st18 _ k) ?_
  refine OwnFin.step (g' := (mkF m 13 #[.val (.ref o0), .val (.int (va0k43_77b G)), .val (.int (14 : Int32)), .val (.int (va0k43_46b G))] [(.int (ln).toInt32), (.int (2 : Int32))])) X18 (fun t k => own_len X18 hx hZ e18 A16 (g := (mkF m 12 #[.val (.ref o0), .val (.int (va0k43_77b G)), .val (.int (14 : Int32)), .val (.int (va0k43_46b G))] [(.ref w_record), (.int (2 : Int32))])) rfl rfl (hb hby d3_12) _ k) ?_
  refine OwnFin.step (g' := (mkF m 26 #[.val (.ref o0), .val (.int (va0k43_77b G)), .val (.int (14 : Int32)), .val (.int (va0k43_46b G))] [])) X18 (fun t k => XS.icmpYes X18.here hx rfl (pc0 := 13) (pc' := 26) rfl (hb hby d3_13) rfl (feq (bra0k43_13zz ln G hln hb0 hb1 hb2 hb3)).2 (by decide) (by decide) k) ?_
  refine OwnFin.step (g' := (mkF m 27 #[.val (.ref o0), .val (.int (va0k43_77b G)), .val (.int (14 : Int32)), .val (.int (va0k43_46b G))] [(.ref o0)])) X18 (fun t k => XS.aloadN X18.here hx rfl (hb hby d3_26) rfl rfl k) ?_
  obtain ⟨T19, X19, e19, st19⟩ := getF X18 hx hZ hown (host := "") (Or.inl (hw _ (wm 13 rfl))) Via.refl e18 F14 (g := (mkF m 27 #[.val (.ref o0), .val (.int (va0k43_77b G)), .val (.int (14 : Int32)), .val (.int (va0k43_46b G))] [(.ref o0)])) rfl rfl (hb hby d3_27)
  refine OwnFin.step (g' := (mkF m 30 #[.val (.ref o0), .val (.int (va0k43_77b G)), .val (.int (14 : Int32)), .val (.int (va0k43_46b G))] [(.ref w_record)])) X19 (fun t k => st19 _ k) ?_
  refine OwnFin.step (g' := (mkF m 31 #[.val (.ref o0), .val (.int (va0k43_77b G)), .val (.int (14 : Int32)), .val (.int (va0k43_46b G))] [(.ref o0), (.ref w_record)])) X19 (fun t k => XS.aloadN X19.here hx rfl (hb hby d3_30) rfl rfl k) ?_
  refine OwnFin.step (g' := (mkF m 32 #[.val (.ref o0), .val (.int (va0k43_77b G)), .val (.int (14 : Int32)), .val (.int (va0k43_46b G))] [(.ref o0), (.ref o0), (.ref w_record)])) X19 (fun t k => XS.dup X19.here hx rfl (hb hby d3_31) rfl rfl k) ?_
  obtain ⟨T20, X20, e20, st20⟩ := getF X19 hx hZ hown (host := "") (Or.inl (hw _ (wm 20 rfl))) Via.refl e19 F13 (g := (mkF m 32 #[.val (.ref o0), .val (.int (va0k43_77b G)), .val (.int (14 : Int32)), .val (.int (va0k43_46b G))] [(.ref o0), (.ref o0), (.ref w_record)])) rfl rfl (hb hby d3_32)
  refine OwnFin.step (g' := (mkF m 35 #[.val (.ref o0), .val (.int (va0k43_77b G)), .val (.int (14 : Int32)), .val (.int (va0k43_46b G))] [(.int (2 : Int32)), (.ref o0), (.ref w_record)])) X20 (fun t k => st20 _ k) ?_
  refine OwnFin.step (g' := (mkF m 36 #[.val (.ref o0), .val (.int (va0k43_77b G)), .val (.int (14 : Int32)), .val (.int (va0k43_46b G))] [(.int (2 : Int32)), (.ref o0), (.int (2 : Int32)), (.ref w_record)])) X20 (fun t k => XT.dupX1 X20.here hx rfl (hb hby d3_35) rfl rfl rfl k) ?_
  refine OwnFin.step (g' := (mkF m 37 #[.val (.ref o0), .val (.int (va0k43_77b G)), .val (.int (14 : Int32)), .val (.int (va0k43_46b G))] [(.int (1 : Int32)), (.int (2 : Int32)), (.ref o0), (.int (2 : Int32)), (.ref w_record)])) X20 (fun t k => XS.iconst X20.here hx rfl (hb hby d3_36) k) ?_
  refine OwnFin.step (g' := (mkF m 38 #[.val (.ref o0), .val (.int (va0k43_77b G)), .val (.int (14 : Int32)), .val (.int (va0k43_46b G))] [(.int (3 : Int32)), (.ref o0), (.int (2 : Int32)), (.ref w_record)])) X20 (fun t k => XS.iadd X20.here hx rfl (hb hby d3_37) rfl k) ?_
  obtain ⟨T21, h21, L21, X21, e21, N21, W21, F21, st21⟩ := own_putF X20 hx hZ hown (hw _ (wm 20 rfl)) e20 N13 F13 E15 g_o0 (Or.inl (hw _ (wm 21 rfl))) (hw _ (wm 5 rfl)) (fty := .int) (by decide) rfl rfl (g := (mkF m 38 #[.val (.ref o0), .val (.int (va0k43_77b G)), .val (.int (14 : Int32)), .val (.int (va0k43_46b G))] [(.int (3 : Int32)), (.ref o0), (.int (2 : Int32)), (.ref w_record)])) rfl rfl (hb hby d3_38)
  have K21 := Keep.of_wr W21
  have Z21 := Nat.le_trans Z13 K21.1
  have S21 := Nat.le_trans S13 K21.1
  have F22 := Fld.other W21 F14 (Or.inr (slot_ne (Or.inr (hw _ (wm 14 rfl))) (Or.inl (hw _ (wm 21 rfl))) (by decide) (t := (.array .byte)) (t' := .int) (by decide) (by decide)))
  have E23 := Exa.wr W21 E15
  refine OwnFin.step (g' := (mkF m 41 #[.val (.ref o0), .val (.int (va0k43_77b G)), .val (.int (14 : Int32)), .val (.int (va0k43_46b G))] [(.int (2 : Int32)), (.ref w_record)])) X21 (fun t k => st21 _ k) ?_
  have A24 := (A16.keep K21 (ninS (Ne.symm ne_o0__w_record) nin0))
  refine OwnFin.step (g' := (mkF m 42 #[.val (.ref o0), .val (.int (va0k43_77b G)), .val (.int (14 : Int32)), .val (.int (va0k43_46b G))] [(.int (G ((2 : Int32)).toNatClampNeg))])) X21 (fun t k => own_ldB X21 hx hZ e21 A24 (iba0k43_41zz ln G hln hb0 hb1 hb2 hb3) rfl (g := (mkF m 41 #[.val (.ref o0), .val (.int (va0k43_77b G)), .val (.int (14 : Int32)), .val (.int (va0k43_46b G))] [(.int (2 : Int32)), (.ref w_record)])) rfl rfl (hb hby d3_41) _ k) ?_
  refine OwnFin.step (g' := (mkF m 45 #[.val (.ref o0), .val (.int (va0k43_77b G)), .val (.int (14 : Int32)), .val (.int (va0k43_46b G))] [(.int (255 : Int32)), (.int (G ((2 : Int32)).toNatClampNeg))])) X21 (fun t k => XS.sipush X21.here hx rfl (hb hby d3_42) k) ?_
  refine OwnFin.step (g' := (mkF m 46 #[.val (.ref o0), .val (.int (va0k43_77b G)), .val (.int (14 : Int32)), .val (.int (va0k43_46b G))] [(.int ((G ((2 : Int32)).toNatClampNeg) &&& (255 : Int32)))])) X21 (fun t k => XS.iand X21.here hx rfl (hb hby d3_45) rfl k) ?_
  refine OwnFin.step (g' := (mkF m 47 #[.val (.ref o0), .val (.int (va0k43_77b G)), .val (.int (14 : Int32)), .val (.int (va0k43_46bb G))] [])) X21 (fun t k => XS.istoreN X21.here hx rfl (hb hby d3_46) rfl (l' := #[.val (.ref o0), .val (.int (va0k43_77b G)), .val (.int (14 : Int32)), .val (.int (va0k43_46bb G))]) rfl k) ?_
  refine OwnFin.step (g' := (mkF m 48 #[.val (.ref o0), .val (.int (va0k43_77b G)), .val (.int (14 : Int32)), .val (.int (va0k43_46bb G))] [(.int (14 : Int32))])) X21 (fun t k => XS.iloadN X21.here hx rfl (hb hby d3_47) rfl k) ?_
  refine OwnFin.step (g' := (mkF m 50 #[.val (.ref o0), .val (.int (va0k43_77b G)), .val (.int (14 : Int32)), .val (.int (va0k43_46bb G))] [(.int (28 : Int32)), (.int (14 : Int32))])) X21 (fun t k => XS.bipush X21.here hx rfl (hb hby d3_48) k) ?_
  refine OwnFin.step (g' := (mkF m 69 #[.val (.ref o0), .val (.int (va0k43_77b G)), .val (.int (14 : Int32)), .val (.int (va0k43_46bb G))] [])) X21 (fun t k => XS.icmpYes X21.here hx rfl (pc0 := 50) (pc' := 69) rfl (hb hby d3_50) rfl (feq (show ¬ ((14 : Int32) = (28 : Int32)) by first | decide | exact Int32.lt_irrefl _ | exact Int64.lt_irrefl _)).2 (by decide) (by decide) k) ?_
  refine OwnFin.step (g' := (mkF m 70 #[.val (.ref o0), .val (.int (va0k43_77b G)), .val (.int (14 : Int32)), .val (.int (va0k43_46bb G))] [(.int (va0k43_77b G))])) X21 (fun t k => XS.iloadN X21.here hx rfl (hb hby d3_69) rfl k) ?_
  refine OwnFin.step (g' := (mkF m 71 #[.val (.ref o0), .val (.int (va0k43_77b G)), .val (.int (14 : Int32)), .val (.int (va0k43_46bb G))] [(.int (va0k43_46bb G)), (.int (va0k43_77b G))])) X21 (fun t k => XS.iloadN X21.here hx rfl (hb hby d3_70) rfl k) ?_
  refine OwnFin.step (g' := (mkF m 73 #[.val (.ref o0), .val (.int (va0k43_77b G)), .val (.int (14 : Int32)), .val (.int (va0k43_46bb G))] [(.int (127 : Int32)), (.int (va0k43_46bb G)), (.int (va0k43_77b G))])) X21 (fun t k => XS.bipush X21.here hx rfl (hb hby d3_71) k) ?_
  refine OwnFin.step (g' := (mkF m 74 #[.val (.ref o0), .val (.int (va0k43_77b G)), .val (.int (14 : Int32)), .val (.int (va0k43_46bb G))] [(.int ((va0k43_46bb G) &&& (127 : Int32))), (.int (va0k43_77b G))])) X21 (fun t k => XS.iand X21.here hx rfl (hb hby d3_73) rfl k) ?_
  refine OwnFin.step (g' := (mkF m 75 #[.val (.ref o0), .val (.int (va0k43_77b G)), .val (.int (14 : Int32)), .val (.int (va0k43_46bb G))] [(.int (14 : Int32)), (.int ((va0k43_46bb G) &&& (127 : Int32))), (.int (va0k43_77b G))])) X21 (fun t k => XS.iloadN X21.here hx rfl (hb hby d3_74) rfl k) ?_
  refine OwnFin.step (g' := (mkF m 76 #[.val (.ref o0), .val (.int (va0k43_77b G)), .val (.int (14 : Int32)), .val (.int (va0k43_46bb G))] [(.int (((va0k43_46bb G) &&& (127 : Int32)) <<< ((14 : Int32) &&& 31))), (.int (va0k43_77b G))])) X21 (fun t k => XT.ishl X21.here hx rfl (hb hby d3_75) rfl k) ?_
  refine OwnFin.step (g' := (mkF m 77 #[.val (.ref o0), .val (.int (va0k43_77b G)), .val (.int (14 : Int32)), .val (.int (va0k43_46bb G))] [(.int ((va0k43_77b G) ||| (((va0k43_46bb G) &&& (127 : Int32)) <<< ((14 : Int32) &&& 31))))])) X21 (fun t k => XT.ior X21.here hx rfl (hb hby d3_76) rfl k) ?_
  refine OwnFin.step (g' := (mkF m 78 #[.val (.ref o0), .val (.int (va0k43_77bb G)), .val (.int (14 : Int32)), .val (.int (va0k43_46bb G))] [])) X21 (fun t k => XS.istoreN X21.here hx rfl (hb hby d3_77) rfl (l' := #[.val (.ref o0), .val (.int (va0k43_77bb G)), .val (.int (14 : Int32)), .val (.int (va0k43_46bb G))]) rfl k) ?_
  refine OwnFin.step (g' := (mkF m 79 #[.val (.ref o0), .val (.int (va0k43_77bb G)), .val (.int (14 : Int32)), .val (.int (va0k43_46bb G))] [(.int (va0k43_46bb G))])) X21 (fun t k => XS.iloadN X21.here hx rfl (hb hby d3_78) rfl k) ?_
  refine OwnFin.step (g' := (mkF m 82 #[.val (.ref o0), .val (.int (va0k43_77bb G)), .val (.int (14 : Int32)), .val (.int (va0k43_46bb G))] [(.int (128 : Int32)), (.int (va0k43_46bb G))])) X21 (fun t k => XS.sipush X21.here hx rfl (hb hby d3_79) k) ?_
  refine OwnFin.step (g' := (mkF m 87 #[.val (.ref o0), .val (.int (va0k43_77bb G)), .val (.int (14 : Int32)), .val (.int (va0k43_46bb G))] [])) X21 (fun t k => XS.icmpYes X21.here hx rfl (pc0 := 82) (pc' := 87) rfl (hb hby d3_82) rfl (flt (bra0k43_82zz G ln hln hb0 hb1 hb2 hb3)).2.1 (by decide) (by decide) k) ?_
  refine OwnFin.step (g' := (mkF m 90 #[.val (.ref o0), .val (.int (va0k43_77bb G)), .val (.int (21 : Int32)), .val (.int (va0k43_46bb G))] [])) X21 (fun t k => XS.iinc X21.here hx rfl (hb hby d3_87) rfl (l' := #[.val (.ref o0), .val (.int (va0k43_77bb G)), .val (.int (21 : Int32)), .val (.int (va0k43_46bb G))]) rfl k) ?_
  refine OwnFin.step (g' := (mkF m 4 #[.val (.ref o0), .val (.int (va0k43_77bb G)), .val (.int (21 : Int32)), .val (.int (va0k43_46bb G))] [])) X21 (fun t k => XS.goto X21.here hx rfl (pc0 := 90) (pc' := 4) rfl (hb hby d3_90) (by decide) (by decide) k) ?_
  refine OwnFin.step (g' := (mkF m 5 #[.val (.ref o0), .val (.int (va0k43_77bb G)), .val (.int (21 : Int32)), .val (.int (va0k43_46bb G))] [(.ref o0)])) X21 (fun t k => XS.aloadN X21.here hx rfl (hb hby d3_4) rfl rfl k) ?_
  obtain ⟨T25, X25, e25, st25⟩ := getF X21 hx hZ hown (host := "") (Or.inl (hw _ (wm 20 rfl))) Via.refl e21 F21 (g := (mkF m 5 #[.val (.ref o0), .val (.int (va0k43_77bb G)), .val (.int (21 : Int32)), .val (.int (va0k43_46bb G))] [(.ref o0)])) rfl rfl (hb hby d3_5)
  refine OwnFin.step (g' := (mkF m 8 #[.val (.ref o0), .val (.int (va0k43_77bb G)), .val (.int (21 : Int32)), .val (.int (va0k43_46bb G))] [(.int (3 : Int32))])) X25 (fun t k => st25 _ k) ?_
  refine OwnFin.step (g' := (mkF m 9 #[.val (.ref o0), .val (.int (va0k43_77bb G)), .val (.int (21 : Int32)), .val (.int (va0k43_46bb G))] [(.ref o0), (.int (3 : Int32))])) X25 (fun t k => XS.aloadN X25.here hx rfl (hb hby d3_8) rfl rfl k) ?_
  obtain ⟨T26, X26, e26, st26⟩ := getF X25 hx hZ hown (host := "") (Or.inl (hw _ (wm 13 rfl))) Via.refl e25 F22 (g := (mkF m 9 #[.val (.ref o0), .val (.int (va0k43_77bb G)), .val (.int (21 : Int32)), .val (.int (va0k43_46bb G))] [(.ref o0), (.int (3 : Int32))])) rfl rfl (hb hby d3_9)
  refine OwnFin.step (g' := (mkF m 12 #[.val (.ref o0), .val (.int (va0k43_77bb G)), .val (.int (21 : Int32)), .val (.int (va0k43_46bb G))] [(.ref w_record), (.int (3 : Int32))])) X26 (fun t k => st26 _ k) ?_
  refine OwnFin.step (g' := (mkF m 13 #[.val (.ref o0), .val (.int (va0k43_77bb G)), .val (.int (21 : Int32)), .val (.int (va0k43_46bb G))] [(.int (ln).toInt32), (.int (3 : Int32))])) X26 (fun t k => own_len X26 hx hZ e26 A24 (g := (mkF m 12 #[.val (.ref o0), .val (.int (va0k43_77bb G)), .val (.int (21 : Int32)), .val (.int (va0k43_46bb G))] [(.ref w_record), (.int (3 : Int32))])) rfl rfl (hb hby d3_12) _ k) ?_
  refine OwnFin.step (g' := (mkF m 26 #[.val (.ref o0), .val (.int (va0k43_77bb G)), .val (.int (21 : Int32)), .val (.int (va0k43_46bb G))] [])) X26 (fun t k => XS.icmpYes X26.here hx rfl (pc0 := 13) (pc' := 26) rfl (hb hby d3_13) rfl (feq (bra0k43_13zzz ln G hln hb0 hb1 hb2 hb3)).2 (by decide) (by decide) k) ?_
  refine OwnFin.step (g' := (mkF m 27 #[.val (.ref o0), .val (.int (va0k43_77bb G)), .val (.int (21 : Int32)), .val (.int (va0k43_46bb G))] [(.ref o0)])) X26 (fun t k => XS.aloadN X26.here hx rfl (hb hby d3_26) rfl rfl k) ?_
  obtain ⟨T27, X27, e27, st27⟩ := getF X26 hx hZ hown (host := "") (Or.inl (hw _ (wm 13 rfl))) Via.refl e26 F22 (g := (mkF m 27 #[.val (.ref o0), .val (.int (va0k43_77bb G)), .val (.int (21 : Int32)), .val (.int (va0k43_46bb G))] [(.ref o0)])) rfl rfl (hb hby d3_27)
  refine OwnFin.step (g' := (mkF m 30 #[.val (.ref o0), .val (.int (va0k43_77bb G)), .val (.int (21 : Int32)), .val (.int (va0k43_46bb G))] [(.ref w_record)])) X27 (fun t k => st27 _ k) ?_
  refine OwnFin.step (g' := (mkF m 31 #[.val (.ref o0), .val (.int (va0k43_77bb G)), .val (.int (21 : Int32)), .val (.int (va0k43_46bb G))] [(.ref o0), (.ref w_record)])) X27 (fun t k => XS.aloadN X27.here hx rfl (hb hby d3_30) rfl rfl k) ?_
  refine OwnFin.step (g' := (mkF m 32 #[.val (.ref o0), .val (.int (va0k43_77bb G)), .val (.int (21 : Int32)), .val (.int (va0k43_46bb G))] [(.ref o0), (.ref o0), (.ref w_record)])) X27 (fun t k => XS.dup X27.here hx rfl (hb hby d3_31) rfl rfl k) ?_
  obtain ⟨T28, X28, e28, st28⟩ := getF X27 hx hZ hown (host := "") (Or.inl (hw _ (wm 20 rfl))) Via.refl e27 F21 (g := (mkF m 32 #[.val (.ref o0), .val (.int (va0k43_77bb G)), .val (.int (21 : Int32)), .val (.int (va0k43_46bb G))] [(.ref o0), (.ref o0), (.ref w_record)])) rfl rfl (hb hby d3_32)
  refine OwnFin.step (g' := (mkF m 35 #[.val (.ref o0), .val (.int (va0k43_77bb G)), .val (.int (21 : Int32)), .val (.int (va0k43_46bb G))] [(.int (3 : Int32)), (.ref o0), (.ref w_record)])) X28 (fun t k => st28 _ k) ?_
  refine OwnFin.step (g' := (mkF m 36 #[.val (.ref o0), .val (.int (va0k43_77bb G)), .val (.int (21 : Int32)), .val (.int (va0k43_46bb G))] [(.int (3 : Int32)), (.ref o0), (.int (3 : Int32)), (.ref w_record)])) X28 (fun t k => XT.dupX1 X28.here hx rfl (hb hby d3_35) rfl rfl rfl k) ?_
  refine OwnFin.step (g' := (mkF m 37 #[.val (.ref o0), .val (.int (va0k43_77bb G)), .val (.int (21 : Int32)), .val (.int (va0k43_46bb G))] [(.int (1 : Int32)), (.int (3 : Int32)), (.ref o0), (.int (3 : Int32)), (.ref w_record)])) X28 (fun t k => XS.iconst X28.here hx rfl (hb hby d3_36) k) ?_
  refine OwnFin.step (g' := (mkF m 38 #[.val (.ref o0), .val (.int (va0k43_77bb G)), .val (.int (21 : Int32)), .val (.int (va0k43_46bb G))] [(.int (4 : Int32)), (.ref o0), (.int (3 : Int32)), (.ref w_record)])) X28 (fun t k => XS.iadd X28.here hx rfl (hb hby d3_37) rfl k) ?_
  obtain ⟨T29, h29, L29, X29, e29, N29, W29, F29, st29⟩ := own_putF X28 hx hZ hown (hw _ (wm 20 rfl)) e28 N21 F21 E23 g_o0 (Or.inl (hw _ (wm 21 rfl))) (hw _ (wm 5 rfl)) (fty := .int) (by decide) rfl rfl (g := (mkF m 38 #[.val (.ref o0), .val (.int (va0k43_77bb G)), .val (.int (21 : Int32)), .val (.int (va0k43_46bb G))] [(.int (4 : Int32)), (.ref o0), (.int (3 : Int32)), (.ref w_record)])) rfl rfl (hb hby d3_38)
  have K29 := Keep.of_wr W29
  have Z29 := Nat.le_trans Z21 K29.1
  have S29 := Nat.le_trans S21 K29.1
  have F30 := Fld.other W29 F22 (Or.inr (slot_ne (Or.inr (hw _ (wm 14 rfl))) (Or.inl (hw _ (wm 21 rfl))) (by decide) (t := (.array .byte)) (t' := .int) (by decide) (by decide)))
  have E31 := Exa.wr W29 E23
  refine OwnFin.step (g' := (mkF m 41 #[.val (.ref o0), .val (.int (va0k43_77bb G)), .val (.int (21 : Int32)), .val (.int (va0k43_46bb G))] [(.int (3 : Int32)), (.ref w_record)])) X29 (fun t k => st29 _ k) ?_
  have A32 := (A24.keep K29 (ninS (Ne.symm ne_o0__w_record) nin0))
  refine OwnFin.step (g' := (mkF m 42 #[.val (.ref o0), .val (.int (va0k43_77bb G)), .val (.int (21 : Int32)), .val (.int (va0k43_46bb G))] [(.int (G ((3 : Int32)).toNatClampNeg))])) X29 (fun t k => own_ldB X29 hx hZ e29 A32 (iba0k43_41zzz ln G hln hb0 hb1 hb2 hb3) rfl (g := (mkF m 41 #[.val (.ref o0), .val (.int (va0k43_77bb G)), .val (.int (21 : Int32)), .val (.int (va0k43_46bb G))] [(.int (3 : Int32)), (.ref w_record)])) rfl rfl (hb hby d3_41) _ k) ?_
  refine OwnFin.step (g' := (mkF m 45 #[.val (.ref o0), .val (.int (va0k43_77bb G)), .val (.int (21 : Int32)), .val (.int (va0k43_46bb G))] [(.int (255 : Int32)), (.int (G ((3 : Int32)).toNatClampNeg))])) X29 (fun t k => XS.sipush X29.here hx rfl (hb hby d3_42) k) ?_
  refine OwnFin.step (g' := (mkF m 46 #[.val (.ref o0), .val (.int (va0k43_77bb G)), .val (.int (21 : Int32)), .val (.int (va0k43_46bb G))] [(.int ((G ((3 : Int32)).toNatClampNeg) &&& (255 : Int32)))])) X29 (fun t k => XS.iand X29.here hx rfl (hb hby d3_45) rfl k) ?_
  refine OwnFin.step (g' := (mkF m 47 #[.val (.ref o0), .val (.int (va0k43_77bb G)), .val (.int (21 : Int32)), .val (.int (va0k43_46bbb G))] [])) X29 (fun t k => XS.istoreN X29.here hx rfl (hb hby d3_46) rfl (l' := #[.val (.ref o0), .val (.int (va0k43_77bb G)), .val (.int (21 : Int32)), .val (.int (va0k43_46bbb G))]) rfl k) ?_
  refine OwnFin.step (g' := (mkF m 48 #[.val (.ref o0), .val (.int (va0k43_77bb G)), .val (.int (21 : Int32)), .val (.int (va0k43_46bbb G))] [(.int (21 : Int32))])) X29 (fun t k => XS.iloadN X29.here hx rfl (hb hby d3_47) rfl k) ?_
  refine OwnFin.step (g' := (mkF m 50 #[.val (.ref o0), .val (.int (va0k43_77bb G)), .val (.int (21 : Int32)), .val (.int (va0k43_46bbb G))] [(.int (28 : Int32)), (.int (21 : Int32))])) X29 (fun t k => XS.bipush X29.here hx rfl (hb hby d3_48) k) ?_
  refine OwnFin.step (g' := (mkF m 69 #[.val (.ref o0), .val (.int (va0k43_77bb G)), .val (.int (21 : Int32)), .val (.int (va0k43_46bbb G))] [])) X29 (fun t k => XS.icmpYes X29.here hx rfl (pc0 := 50) (pc' := 69) rfl (hb hby d3_50) rfl (feq (show ¬ ((21 : Int32) = (28 : Int32)) by first | decide | exact Int32.lt_irrefl _ | exact Int64.lt_irrefl _)).2 (by decide) (by decide) k) ?_
  refine OwnFin.step (g' := (mkF m 70 #[.val (.ref o0), .val (.int (va0k43_77bb G)), .val (.int (21 : Int32)), .val (.int (va0k43_46bbb G))] [(.int (va0k43_77bb G))])) X29 (fun t k => XS.iloadN X29.here hx rfl (hb hby d3_69) rfl k) ?_
  refine OwnFin.step (g' := (mkF m 71 #[.val (.ref o0), .val (.int (va0k43_77bb G)), .val (.int (21 : Int32)), .val (.int (va0k43_46bbb G))] [(.int (va0k43_46bbb G)), (.int (va0k43_77bb G))])) X29 (fun t k => XS.iloadN X29.here hx rfl (hb hby d3_70) rfl k) ?_
  refine OwnFin.step (g' := (mkF m 73 #[.val (.ref o0), .val (.int (va0k43_77bb G)), .val (.int (21 : Int32)), .val (.int (va0k43_46bbb G))] [(.int (127 : Int32)), (.int (va0k43_46bbb G)), (.int (va0k43_77bb G))])) X29 (fun t k => XS.bipush X29.here hx rfl (hb hby d3_71) k) ?_
  refine OwnFin.step (g' := (mkF m 74 #[.val (.ref o0), .val (.int (va0k43_77bb G)), .val (.int (21 : Int32)), .val (.int (va0k43_46bbb G))] [(.int ((va0k43_46bbb G) &&& (127 : Int32))), (.int (va0k43_77bb G))])) X29 (fun t k => XS.iand X29.here hx rfl (hb hby d3_73) rfl k) ?_
  refine OwnFin.step (g' := (mkF m 75 #[.val (.ref o0), .val (.int (va0k43_77bb G)), .val (.int (21 : Int32)), .val (.int (va0k43_46bbb G))] [(.int (21 : Int32)), (.int ((va0k43_46bbb G) &&& (127 : Int32))), (.int (va0k43_77bb G))])) X29 (fun t k => XS.iloadN X29.here hx rfl (hb hby d3_74) rfl k) ?_
  refine OwnFin.step (g' := (mkF m 76 #[.val (.ref o0), .val (.int (va0k43_77bb G)), .val (.int (21 : Int32)), .val (.int (va0k43_46bbb G))] [(.int (((va0k43_46bbb G) &&& (127 : Int32)) <<< ((21 : Int32) &&& 31))), (.int (va0k43_77bb G))])) X29 (fun t k => XT.ishl X29.here hx rfl (hb hby d3_75) rfl k) ?_
  refine OwnFin.step (g' := (mkF m 77 #[.val (.ref o0), .val (.int (va0k43_77bb G)), .val (.int (21 : Int32)), .val (.int (va0k43_46bbb G))] [(.int ((va0k43_77bb G) ||| (((va0k43_46bbb G) &&& (127 : Int32)) <<< ((21 : Int32) &&& 31))))])) X29 (fun t k => XT.ior X29.here hx rfl (hb hby d3_76) rfl k) ?_
  refine OwnFin.step (g' := (mkF m 78 #[.val (.ref o0), .val (.int (va0k43_77bbb G)), .val (.int (21 : Int32)), .val (.int (va0k43_46bbb G))] [])) X29 (fun t k => XS.istoreN X29.here hx rfl (hb hby d3_77) rfl (l' := #[.val (.ref o0), .val (.int (va0k43_77bbb G)), .val (.int (21 : Int32)), .val (.int (va0k43_46bbb G))]) rfl k) ?_
  refine OwnFin.step (g' := (mkF m 79 #[.val (.ref o0), .val (.int (va0k43_77bbb G)), .val (.int (21 : Int32)), .val (.int (va0k43_46bbb G))] [(.int (va0k43_46bbb G))])) X29 (fun t k => XS.iloadN X29.here hx rfl (hb hby d3_78) rfl k) ?_
  refine OwnFin.step (g' := (mkF m 82 #[.val (.ref o0), .val (.int (va0k43_77bbb G)), .val (.int (21 : Int32)), .val (.int (va0k43_46bbb G))] [(.int (128 : Int32)), (.int (va0k43_46bbb G))])) X29 (fun t k => XS.sipush X29.here hx rfl (hb hby d3_79) k) ?_
  refine OwnFin.step (g' := (mkF m 85 #[.val (.ref o0), .val (.int (va0k43_77bbb G)), .val (.int (21 : Int32)), .val (.int (va0k43_46bbb G))] [])) X29 (fun t k => XS.icmpNo X29.here hx rfl (hb hby d3_82) rfl (tlt (bra0k43_82zzz G ln hln hb0 hb1 hb2 hb3)).2.1 k) ?_
  refine OwnFin.step (g' := (mkF m 86 #[.val (.ref o0), .val (.int (va0k43_77bbb G)), .val (.int (21 : Int32)), .val (.int (va0k43_46bbb G))] [(.int (va0k43_77bbb G))])) X29 (fun t k => XS.iloadN X29.here hx rfl (hb hby d3_85) rfl k) ?_
  refine OwnFin.retInt X29 (hb hby d3_86) (by decide) (by decide) ?_
  rw [e29]
  exact ⟨rfl, N29, (Keep.trans (Keep.trans (Keep.trans (Keep.trans (Keep.refl h0 [o0]) K5 (allS (Or.inl (wm 0 rfl)) all0)) K13 (allS (Or.inl (wm 0 rfl)) all0)) K21 (allS (Or.inl (wm 0 rfl)) all0)) K29 (allS (Or.inl (wm 0 rfl)) all0)), E31, F30, F29⟩
set_option maxRecDepth 65536 in
set_option maxHeartbeats 40000000 in
theorem rm3a0k4 (l : Launch) (Z : State) (a0 : Array Value) (hw : ∀ d ∈ tables_1, d.before a0 Z = true) (ws : List Jvm.Cond) (o0 : Addr) (ln : Nat) (G : Nat → Int32) (w_record : Addr) (h0 : Heap) (n0 : Nat) (Z0 : n0 ≤ h0.size) (E_o0 : Exa Z h0 o0 "com/example/faden/faden/rank/RecordReader") (g_o0 : n0 ≤ o0) (F_record_o0 : Fld Z h0 o0 "com/example/faden/faden/rank/RecordReader" "record" "[B" (.ref w_record)) (F_at_o0 : Fld Z h0 o0 "com/example/faden/faden/rank/RecordReader" "at" "I" (.int (0 : Int32))) (A_w_record : Ary Z h0 w_record .byte ln (fun i => .int (G i))) (ne_o0__w_record : o0 ≠ w_record) (hln : 4 ≤ ln ∧ ln < 100) (hb0 : 128 ≤ ((G 0) &&& 255).toInt) (hb1 : 128 ≤ ((G 1) &&& 255).toInt) (hb2 : 128 ≤ ((G 2) &&& 255).toInt) (hb3 : ((G 3) &&& 255).toInt < 128) :
    MetFree l (⟨"com/example/faden/faden/rank/RecordReader", "number", "()I"⟩ : MethodName) (head1 (Jvm.Cond.code (⟨"com/example/faden/faden/rank/RecordReader", "number", "()I"⟩ : MethodName) prog_21_method_3_code 4 (some .int) :: ws) ({ frames := 0, cells := 0, slots := 0, locals := 0 } : Room)) (fun a U => a = #[(.ref o0)] ∧ Z.Warmed39 U.vm ∧ U.heap = h0) (fun _ _ _ _ _ => True) (fun _ U o U' => ∃ v L, o = .returned v ∧ (Q3a0k4 Z o0 ln G w_record h0 n0) v U'.heap L ∧ FrameEnd U o U' L ({ frames := 0, cells := 0, slots := 0, locals := 0 } : Room).cells ({ frames := 0, cells := 0, slots := 0, locals := 0 } : Room).slots) :=
  own_met (ret := (some .int)) (Q := (Q3a0k4 Z o0 ln G w_record h0 n0)) (plainFor_of_name pn_3) (fun m => ef_3 m o0) (fun p e s m below meth c s₁ X hx hby hml hown hnm hZ e0 => j3a0k4 X hx hZ hw hby hml hown hnm e0 (Fr.nil n0) Z0 o0 ln G w_record E_o0 g_o0 F_record_o0 F_at_o0 A_w_record ne_o0__w_record hln hb0 hb1 hb2 hb3)
theorem own_va0k43_77 (G : Nat → Int32) : (va0k43_77 G).toInt = ((G 0) &&& 255).toInt % 128 * 1 := by
  have m := Jvm.Kit.i32_mask (va0k43_46 G) 127 (k := 7) (by decide) (by decide)
  have e : (va0k43_46 G).toInt = ((G 0) &&& 255).toInt := by unfold va0k43_46; rw [own_c0]
  have u0 := Jvm.Kit.i32_mask (G 0) 255 (k := 8) (by decide) (by decide)
  have z0 : (0 : Int32).toInt = 0 := rfl
  have q := acc (a := (0 : Int32)) (g := (va0k43_46 G) &&& 127) (n := (0 : Int32) &&& 31) (k := 0) (by decide) (by omega) (by omega) (by omega) (by omega)
  unfold va0k43_77
  rw [q]; omega
theorem own_va0k43_77b (G : Nat → Int32) : (va0k43_77b G).toInt = ((G 0) &&& 255).toInt % 128 * 1 + ((G 1) &&& 255).toInt % 128 * 128 := by
  have m := Jvm.Kit.i32_mask (va0k43_46b G) 127 (k := 7) (by decide) (by decide)
  have e : (va0k43_46b G).toInt = ((G 1) &&& 255).toInt := by unfold va0k43_46b; rw [own_c1]
  have u0 := Jvm.Kit.i32_mask (G 0) 255 (k := 8) (by decide) (by decide)
  have u1 := Jvm.Kit.i32_mask (G 1) 255 (k := 8) (by decide) (by decide)
  have p := own_va0k43_77 G
  have z0 : (0 : Int32).toInt = 0 := rfl
  have q := acc (a := (va0k43_77 G)) (g := (va0k43_46b G) &&& 127) (n := (7 : Int32) &&& 31) (k := 7) (by decide) (by omega) (by omega) (by omega) (by omega)
  unfold va0k43_77b
  rw [q]; omega
theorem own_va0k43_77bb (G : Nat → Int32) : (va0k43_77bb G).toInt = ((G 0) &&& 255).toInt % 128 * 1 + ((G 1) &&& 255).toInt % 128 * 128 + ((G 2) &&& 255).toInt % 128 * 16384 := by
  have m := Jvm.Kit.i32_mask (va0k43_46bb G) 127 (k := 7) (by decide) (by decide)
  have e : (va0k43_46bb G).toInt = ((G 2) &&& 255).toInt := by unfold va0k43_46bb; rw [own_c2]
  have u0 := Jvm.Kit.i32_mask (G 0) 255 (k := 8) (by decide) (by decide)
  have u1 := Jvm.Kit.i32_mask (G 1) 255 (k := 8) (by decide) (by decide)
  have u2 := Jvm.Kit.i32_mask (G 2) 255 (k := 8) (by decide) (by decide)
  have p := own_va0k43_77b G
  have z0 : (0 : Int32).toInt = 0 := rfl
  have q := acc (a := (va0k43_77b G)) (g := (va0k43_46bb G) &&& 127) (n := (14 : Int32) &&& 31) (k := 14) (by decide) (by omega) (by omega) (by omega) (by omega)
  unfold va0k43_77bb
  rw [q]; omega
theorem own_va0k43_77bbb (G : Nat → Int32) : (va0k43_77bbb G).toInt = ((G 0) &&& 255).toInt % 128 * 1 + ((G 1) &&& 255).toInt % 128 * 128 + ((G 2) &&& 255).toInt % 128 * 16384 + ((G 3) &&& 255).toInt % 128 * 2097152 := by
  have m := Jvm.Kit.i32_mask (va0k43_46bbb G) 127 (k := 7) (by decide) (by decide)
  have e : (va0k43_46bbb G).toInt = ((G 3) &&& 255).toInt := by unfold va0k43_46bbb; rw [own_c3]
  have u0 := Jvm.Kit.i32_mask (G 0) 255 (k := 8) (by decide) (by decide)
  have u1 := Jvm.Kit.i32_mask (G 1) 255 (k := 8) (by decide) (by decide)
  have u2 := Jvm.Kit.i32_mask (G 2) 255 (k := 8) (by decide) (by decide)
  have u3 := Jvm.Kit.i32_mask (G 3) 255 (k := 8) (by decide) (by decide)
  have p := own_va0k43_77bb G
  have z0 : (0 : Int32).toInt = 0 := rfl
  have q := acc (a := (va0k43_77bb G)) (g := (va0k43_46bbb G) &&& 127) (n := (21 : Int32) &&& 31) (k := 21) (by decide) (by omega) (by omega) (by omega) (by omega)
  unfold va0k43_77bbb
  rw [q]; omega
theorem d3_53 : decode prog_21_method_3_code 53 = .ok (.iload_n 3, 1) := by decide +kernel
theorem d3_54 : decode prog_21_method_3_code 54 = .ok (.bipush 7, 2) := by decide +kernel
theorem d3_56 : decode prog_21_method_3_code 56 = .ok (.if_icmp .le 13, 3) := by decide +kernel
def va0k53_46 (G : Nat → Int32) : Int32 := ((G ((0 : Int32)).toNatClampNeg) &&& (255 : Int32))
def va0k53_77 (G : Nat → Int32) : Int32 := ((0 : Int32) ||| (((va0k53_46 G) &&& (127 : Int32)) <<< ((0 : Int32) &&& 31)))
def va0k53_46b (G : Nat → Int32) : Int32 := ((G ((1 : Int32)).toNatClampNeg) &&& (255 : Int32))
def va0k53_77b (G : Nat → Int32) : Int32 := ((va0k53_77 G) ||| (((va0k53_46b G) &&& (127 : Int32)) <<< ((7 : Int32) &&& 31)))
def va0k53_46bb (G : Nat → Int32) : Int32 := ((G ((2 : Int32)).toNatClampNeg) &&& (255 : Int32))
def va0k53_77bb (G : Nat → Int32) : Int32 := ((va0k53_77b G) ||| (((va0k53_46bb G) &&& (127 : Int32)) <<< ((14 : Int32) &&& 31)))
def va0k53_46bbb (G : Nat → Int32) : Int32 := ((G ((3 : Int32)).toNatClampNeg) &&& (255 : Int32))
def va0k53_77bbb (G : Nat → Int32) : Int32 := ((va0k53_77bb G) ||| (((va0k53_46bbb G) &&& (127 : Int32)) <<< ((21 : Int32) &&& 31)))
def va0k53_46bbbb (G : Nat → Int32) : Int32 := ((G ((4 : Int32)).toNatClampNeg) &&& (255 : Int32))
def va0k53_77bbbb (G : Nat → Int32) : Int32 := ((va0k53_77bbb G) ||| (((va0k53_46bbbb G) &&& (127 : Int32)) <<< ((28 : Int32) &&& 31)))
theorem bra0k53_13 (ln : Nat) (G : Nat → Int32) (hln : 5 ≤ ln ∧ ln < 100) (hb0 : 128 ≤ ((G 0) &&& 255).toInt) (hb1 : 128 ≤ ((G 1) &&& 255).toInt) (hb2 : 128 ≤ ((G 2) &&& 255).toInt) (hb3 : 128 ≤ ((G 3) &&& 255).toInt) (hb4 : ((G 4) &&& 255).toInt < 8) : ¬ ((0 : Int32) = (ln).toInt32) := own_ne 0 (by decide) (by omega)
theorem iba0k53_41 (ln : Nat) (G : Nat → Int32) (hln : 5 ≤ ln ∧ ln < 100) (hb0 : 128 ≤ ((G 0) &&& 255).toInt) (hb1 : 128 ≤ ((G 1) &&& 255).toInt) (hb2 : 128 ≤ ((G 2) &&& 255).toInt) (hb3 : 128 ≤ ((G 3) &&& 255).toInt) (hb4 : ((G 4) &&& 255).toInt < 8) : InB (0 : Int32) ln := own_in 0 (by decide) (by omega)
theorem bra0k53_82 (G : Nat → Int32) (ln : Nat) (hln : 5 ≤ ln ∧ ln < 100) (hb0 : 128 ≤ ((G 0) &&& 255).toInt) (hb1 : 128 ≤ ((G 1) &&& 255).toInt) (hb2 : 128 ≤ ((G 2) &&& 255).toInt) (hb3 : 128 ≤ ((G 3) &&& 255).toInt) (hb4 : ((G 4) &&& 255).toInt < 8) : ¬ ((va0k53_46 G) < (128 : Int32)) := by
  have c0 : (128 : Int32).toInt = 128 := rfl
  have c1 : (7 : Int32).toInt = 7 := rfl
  have e0 : (va0k53_46 G).toInt = ((G 0) &&& 255).toInt := by
    unfold va0k53_46; rw [own_c0]
  rw [i32lt, e0]; omega
theorem bra0k53_13z (ln : Nat) (G : Nat → Int32) (hln : 5 ≤ ln ∧ ln < 100) (hb0 : 128 ≤ ((G 0) &&& 255).toInt) (hb1 : 128 ≤ ((G 1) &&& 255).toInt) (hb2 : 128 ≤ ((G 2) &&& 255).toInt) (hb3 : 128 ≤ ((G 3) &&& 255).toInt) (hb4 : ((G 4) &&& 255).toInt < 8) : ¬ ((1 : Int32) = (ln).toInt32) := own_ne 1 (by decide) (by omega)
theorem iba0k53_41z (ln : Nat) (G : Nat → Int32) (hln : 5 ≤ ln ∧ ln < 100) (hb0 : 128 ≤ ((G 0) &&& 255).toInt) (hb1 : 128 ≤ ((G 1) &&& 255).toInt) (hb2 : 128 ≤ ((G 2) &&& 255).toInt) (hb3 : 128 ≤ ((G 3) &&& 255).toInt) (hb4 : ((G 4) &&& 255).toInt < 8) : InB (1 : Int32) ln := own_in 1 (by decide) (by omega)
theorem bra0k53_82z (G : Nat → Int32) (ln : Nat) (hln : 5 ≤ ln ∧ ln < 100) (hb0 : 128 ≤ ((G 0) &&& 255).toInt) (hb1 : 128 ≤ ((G 1) &&& 255).toInt) (hb2 : 128 ≤ ((G 2) &&& 255).toInt) (hb3 : 128 ≤ ((G 3) &&& 255).toInt) (hb4 : ((G 4) &&& 255).toInt < 8) : ¬ ((va0k53_46b G) < (128 : Int32)) := by
  have c0 : (128 : Int32).toInt = 128 := rfl
  have c1 : (7 : Int32).toInt = 7 := rfl
  have e0 : (va0k53_46b G).toInt = ((G 1) &&& 255).toInt := by
    unfold va0k53_46b; rw [own_c1]
  rw [i32lt, e0]; omega
theorem bra0k53_13zz (ln : Nat) (G : Nat → Int32) (hln : 5 ≤ ln ∧ ln < 100) (hb0 : 128 ≤ ((G 0) &&& 255).toInt) (hb1 : 128 ≤ ((G 1) &&& 255).toInt) (hb2 : 128 ≤ ((G 2) &&& 255).toInt) (hb3 : 128 ≤ ((G 3) &&& 255).toInt) (hb4 : ((G 4) &&& 255).toInt < 8) : ¬ ((2 : Int32) = (ln).toInt32) := own_ne 2 (by decide) (by omega)
theorem iba0k53_41zz (ln : Nat) (G : Nat → Int32) (hln : 5 ≤ ln ∧ ln < 100) (hb0 : 128 ≤ ((G 0) &&& 255).toInt) (hb1 : 128 ≤ ((G 1) &&& 255).toInt) (hb2 : 128 ≤ ((G 2) &&& 255).toInt) (hb3 : 128 ≤ ((G 3) &&& 255).toInt) (hb4 : ((G 4) &&& 255).toInt < 8) : InB (2 : Int32) ln := own_in 2 (by decide) (by omega)
theorem bra0k53_82zz (G : Nat → Int32) (ln : Nat) (hln : 5 ≤ ln ∧ ln < 100) (hb0 : 128 ≤ ((G 0) &&& 255).toInt) (hb1 : 128 ≤ ((G 1) &&& 255).toInt) (hb2 : 128 ≤ ((G 2) &&& 255).toInt) (hb3 : 128 ≤ ((G 3) &&& 255).toInt) (hb4 : ((G 4) &&& 255).toInt < 8) : ¬ ((va0k53_46bb G) < (128 : Int32)) := by
  have c0 : (128 : Int32).toInt = 128 := rfl
  have c1 : (7 : Int32).toInt = 7 := rfl
  have e0 : (va0k53_46bb G).toInt = ((G 2) &&& 255).toInt := by
    unfold va0k53_46bb; rw [own_c2]
  rw [i32lt, e0]; omega
theorem bra0k53_13zzz (ln : Nat) (G : Nat → Int32) (hln : 5 ≤ ln ∧ ln < 100) (hb0 : 128 ≤ ((G 0) &&& 255).toInt) (hb1 : 128 ≤ ((G 1) &&& 255).toInt) (hb2 : 128 ≤ ((G 2) &&& 255).toInt) (hb3 : 128 ≤ ((G 3) &&& 255).toInt) (hb4 : ((G 4) &&& 255).toInt < 8) : ¬ ((3 : Int32) = (ln).toInt32) := own_ne 3 (by decide) (by omega)
theorem iba0k53_41zzz (ln : Nat) (G : Nat → Int32) (hln : 5 ≤ ln ∧ ln < 100) (hb0 : 128 ≤ ((G 0) &&& 255).toInt) (hb1 : 128 ≤ ((G 1) &&& 255).toInt) (hb2 : 128 ≤ ((G 2) &&& 255).toInt) (hb3 : 128 ≤ ((G 3) &&& 255).toInt) (hb4 : ((G 4) &&& 255).toInt < 8) : InB (3 : Int32) ln := own_in 3 (by decide) (by omega)
theorem bra0k53_82zzz (G : Nat → Int32) (ln : Nat) (hln : 5 ≤ ln ∧ ln < 100) (hb0 : 128 ≤ ((G 0) &&& 255).toInt) (hb1 : 128 ≤ ((G 1) &&& 255).toInt) (hb2 : 128 ≤ ((G 2) &&& 255).toInt) (hb3 : 128 ≤ ((G 3) &&& 255).toInt) (hb4 : ((G 4) &&& 255).toInt < 8) : ¬ ((va0k53_46bbb G) < (128 : Int32)) := by
  have c0 : (128 : Int32).toInt = 128 := rfl
  have c1 : (7 : Int32).toInt = 7 := rfl
  have e0 : (va0k53_46bbb G).toInt = ((G 3) &&& 255).toInt := by
    unfold va0k53_46bbb; rw [own_c3]
  rw [i32lt, e0]; omega
theorem bra0k53_13zzzz (ln : Nat) (G : Nat → Int32) (hln : 5 ≤ ln ∧ ln < 100) (hb0 : 128 ≤ ((G 0) &&& 255).toInt) (hb1 : 128 ≤ ((G 1) &&& 255).toInt) (hb2 : 128 ≤ ((G 2) &&& 255).toInt) (hb3 : 128 ≤ ((G 3) &&& 255).toInt) (hb4 : ((G 4) &&& 255).toInt < 8) : ¬ ((4 : Int32) = (ln).toInt32) := own_ne 4 (by decide) (by omega)
theorem iba0k53_41zzzz (ln : Nat) (G : Nat → Int32) (hln : 5 ≤ ln ∧ ln < 100) (hb0 : 128 ≤ ((G 0) &&& 255).toInt) (hb1 : 128 ≤ ((G 1) &&& 255).toInt) (hb2 : 128 ≤ ((G 2) &&& 255).toInt) (hb3 : 128 ≤ ((G 3) &&& 255).toInt) (hb4 : ((G 4) &&& 255).toInt < 8) : InB (4 : Int32) ln := own_in 4 (by decide) (by omega)
theorem bra0k53_56 (G : Nat → Int32) (ln : Nat) (hln : 5 ≤ ln ∧ ln < 100) (hb0 : 128 ≤ ((G 0) &&& 255).toInt) (hb1 : 128 ≤ ((G 1) &&& 255).toInt) (hb2 : 128 ≤ ((G 2) &&& 255).toInt) (hb3 : 128 ≤ ((G 3) &&& 255).toInt) (hb4 : ((G 4) &&& 255).toInt < 8) : ¬ ((7 : Int32) < (va0k53_46bbbb G)) := by
  have c0 : (128 : Int32).toInt = 128 := rfl
  have c1 : (7 : Int32).toInt = 7 := rfl
  have e0 : (va0k53_46bbbb G).toInt = ((G 4) &&& 255).toInt := by
    unfold va0k53_46bbbb; rw [own_c4]
  rw [i32lt, e0]; omega
theorem bra0k53_82zzzz (G : Nat → Int32) (ln : Nat) (hln : 5 ≤ ln ∧ ln < 100) (hb0 : 128 ≤ ((G 0) &&& 255).toInt) (hb1 : 128 ≤ ((G 1) &&& 255).toInt) (hb2 : 128 ≤ ((G 2) &&& 255).toInt) (hb3 : 128 ≤ ((G 3) &&& 255).toInt) (hb4 : ((G 4) &&& 255).toInt < 8) : (va0k53_46bbbb G) < (128 : Int32) := by
  have c0 : (128 : Int32).toInt = 128 := rfl
  have c1 : (7 : Int32).toInt = 7 := rfl
  have e0 : (va0k53_46bbbb G).toInt = ((G 4) &&& 255).toInt := by
    unfold va0k53_46bbbb; rw [own_c4]
  rw [i32lt, e0]; omega
def Q3a0k5 (Z : State) (o0 : Addr) (ln : Nat) (G : Nat → Int32) (w_record : Addr) (h0 : Heap) (n0 : Nat) : Option Value → Heap → List Loc → Prop := fun v h L => v = some (.int (va0k53_77bbbb G)) ∧ Fr n0 L ∧ Keep h0 h [o0] ∧ Exa Z h o0 "com/example/faden/faden/rank/RecordReader" ∧ Fld Z h o0 "com/example/faden/faden/rank/RecordReader" "record" "[B" (.ref w_record) ∧ Fld Z h o0 "com/example/faden/faden/rank/RecordReader" "at" "I" (.int (5 : Int32))
set_option maxRecDepth 65536 in
set_option maxHeartbeats 40000000 in
theorem j3a0k5 {p : Program} {l : Launch} {e : Env} {s : State} {m : MethodId} {args : Array Value} {below : List Frame} {meth : Method} {c : Code} {T0 : State} {locs : List Loc} {Z : State} {a0 : Array Value} {h0 : Heap} {n0 : Nat}
    (X0 : Stand p l e ({ frames := 0, cells := 0, slots := 0, locals := 0 } : Room) s m args below meth c T0 locs 0 0) (hx : p.tables.exec = Jvm.exec) (hZ : Z.Warmed39 s.vm) (hw : ∀ d ∈ tables_1, d.before a0 Z = true) (hby : c.code = prog_21_method_3_code) (hml : c.maxLocals = 4) (hown : s.vm.findClass "com/example/faden/faden/rank/RecordReader" = some m.cls) (hnm : meth.name = "number") (e0 : T0.heap = h0) (N0 : Fr n0 locs) (Z0 : n0 ≤ h0.size) (o0 : Addr) (ln : Nat) (G : Nat → Int32) (w_record : Addr) (E_o0 : Exa Z h0 o0 "com/example/faden/faden/rank/RecordReader") (g_o0 : n0 ≤ o0) (F_record_o0 : Fld Z h0 o0 "com/example/faden/faden/rank/RecordReader" "record" "[B" (.ref w_record)) (F_at_o0 : Fld Z h0 o0 "com/example/faden/faden/rank/RecordReader" "at" "I" (.int (0 : Int32))) (A_w_record : Ary Z h0 w_record .byte ln (fun i => .int (G i))) (ne_o0__w_record : o0 ≠ w_record) (hln : 5 ≤ ln ∧ ln < 100) (hb0 : 128 ≤ ((G 0) &&& 255).toInt) (hb1 : 128 ≤ ((G 1) &&& 255).toInt) (hb2 : 128 ≤ ((G 2) &&& 255).toInt) (hb3 : 128 ≤ ((G 3) &&& 255).toInt) (hb4 : ((G 4) &&& 255).toInt < 8) :
    OwnFin X0 (some .int) (Q3a0k5 Z o0 ln G w_record h0 n0) ({ frames := 0, cells := 0, slots := 0, locals := 0 } : Room).cells ({ frames := 0, cells := 0, slots := 0, locals := 0 } : Room).slots (mkF m 0 #[.val (.ref o0), .unset, .unset, .unset] []) := by
  refine OwnFin.step (g' := (mkF m 1 #[.val (.ref o0), .unset, .unset, .unset] [(.int (0 : Int32))])) X0 (fun t k => XS.iconst X0.here hx rfl (hb hby d3_0) k) ?_
  refine OwnFin.step (g' := (mkF m 2 #[.val (.ref o0), .val (.int (0 : Int32)), .unset, .unset] [])) X0 (fun t k => XS.istoreN X0.here hx rfl (hb hby d3_1) rfl (l' := #[.val (.ref o0), .val (.int (0 : Int32)), .unset, .unset]) rfl k) ?_
  refine OwnFin.step (g' := (mkF m 3 #[.val (.ref o0), .val (.int (0 : Int32)), .unset, .unset] [(.int (0 : Int32))])) X0 (fun t k => XS.iconst X0.here hx rfl (hb hby d3_2) k) ?_
  refine OwnFin.step (g' := (mkF m 4 #[.val (.ref o0), .val (.int (0 : Int32)), .val (.int (0 : Int32)), .unset] [])) X0 (fun t k => XS.istoreN X0.here hx rfl (hb hby d3_3) rfl (l' := #[.val (.ref o0), .val (.int (0 : Int32)), .val (.int (0 : Int32)), .unset]) rfl k) ?_
  refine OwnFin.step (g' := (mkF m 5 #[.val (.ref o0), .val (.int (0 : Int32)), .val (.int (0 : Int32)), .unset] [(.ref o0)])) X0 (fun t k => XS.aloadN X0.here hx rfl (hb hby d3_4) rfl rfl k) ?_
  obtain ⟨T1, X1, e1, st1⟩ := getF X0 hx hZ hown (host := "") (Or.inl (hw _ (wm 20 rfl))) Via.refl e0 F_at_o0 (g := (mkF m 5 #[.val (.ref o0), .val (.int (0 : Int32)), .val (.int (0 : Int32)), .unset] [(.ref o0)])) rfl rfl (hb hby d3_5)
  refine OwnFin.step (g' := (mkF m 8 #[.val (.ref o0), .val (.int (0 : Int32)), .val (.int (0 : Int32)), .unset] [(.int (0 : Int32))])) X1 (fun t k => st1 _ k) ?_
  refine OwnFin.step (g' := (mkF m 9 #[.val (.ref o0), .val (.int (0 : Int32)), .val (.int (0 : Int32)), .unset] [(.ref o0), (.int (0 : Int32))])) X1 (fun t k => XS.aloadN X1.here hx rfl (hb hby d3_8) rfl rfl k) ?_
  obtain ⟨T2, X2, e2, st2⟩ := getF X1 hx hZ hown (host := "") (Or.inl (hw _ (wm 13 rfl))) Via.refl e1 F_record_o0 (g := (mkF m 9 #[.val (.ref o0), .val (.int (0 : Int32)), .val (.int (0 : Int32)), .unset] [(.ref o0), (.int (0 : Int32))])) rfl rfl (hb hby d3_9)
  refine OwnFin.step (g' := (mkF m 12 #[.val (.ref o0), .val (.int (0 : Int32)), .val (.int (0 : Int32)), .unset] [(.ref w_record), (.int (0 : Int32))])) X2 (fun t k => st2 _ k) ?_
  refine OwnFin.step (g' := (mkF m 13 #[.val (.ref o0), .val (.int (0 : Int32)), .val (.int (0 : Int32)), .unset] [(.int (ln).toInt32), (.int (0 : Int32))])) X2 (fun t k => own_len X2 hx hZ e2 A_w_record (g := (mkF m 12 #[.val (.ref o0), .val (.int (0 : Int32)), .val (.int (0 : Int32)), .unset] [(.ref w_record), (.int (0 : Int32))])) rfl rfl (hb hby d3_12) _ k) ?_
  refine OwnFin.step (g' := (mkF m 26 #[.val (.ref o0), .val (.int (0 : Int32)), .val (.int (0 : Int32)), .unset] [])) X2 (fun t k => XS.icmpYes X2.here hx rfl (pc0 := 13) (pc' := 26) rfl (hb hby d3_13) rfl (feq (bra0k53_13 ln G hln hb0 hb1 hb2 hb3 hb4)).2 (by decide) (by decide) k) ?_
  refine OwnFin.step (g' := (mkF m 27 #[.val (.ref o0), .val (.int (0 : Int32)), .val (.int (0 : Int32)), .unset] [(.ref o0)])) X2 (fun t k => XS.aloadN X2.here hx rfl (hb hby d3_26) rfl rfl k) ?_
  obtain ⟨T3, X3, e3, st3⟩ := getF X2 hx hZ hown (host := "") (Or.inl (hw _ (wm 13 rfl))) Via.refl e2 F_record_o0 (g := (mkF m 27 #[.val (.ref o0), .val (.int (0 : Int32)), .val (.int (0 : Int32)), .unset] [(.ref o0)])) rfl rfl (hb hby d3_27)
  refine OwnFin.step (g' := (mkF m 30 #[.val (.ref o0), .val (.int (0 : Int32)), .val (.int (0 : Int32)), .unset] [(.ref w_record)])) X3 (fun t k => st3 _ k) ?_
  refine OwnFin.step (g' := (mkF m 31 #[.val (.ref o0), .val (.int (0 : Int32)), .val (.int (0 : Int32)), .unset] [(.ref o0), (.ref w_record)])) X3 (fun t k => XS.aloadN X3.here hx rfl (hb hby d3_30) rfl rfl k) ?_
  refine OwnFin.step (g' := (mkF m 32 #[.val (.ref o0), .val (.int (0 : Int32)), .val (.int (0 : Int32)), .unset] [(.ref o0), (.ref o0), (.ref w_record)])) X3 (fun t k => XS.dup X3.here hx rfl (hb hby d3_31) rfl rfl k) ?_
  obtain ⟨T4, X4, e4, st4⟩ := getF X3 hx hZ hown (host := "") (Or.inl (hw _ (wm 20 rfl))) Via.refl e3 F_at_o0 (g := (mkF m 32 #[.val (.ref o0), .val (.int (0 : Int32)), .val (.int (0 : Int32)), .unset] [(.ref o0), (.ref o0), (.ref w_record)])) rfl rfl (hb hby d3_32)
  refine OwnFin.step (g' := (mkF m 35 #[.val (.ref o0), .val (.int (0 : Int32)), .val (.int (0 : Int32)), .unset] [(.int (0 : Int32)), (.ref o0), (.ref w_record)])) X4 (fun t k => st4 _ k) ?_
  refine OwnFin.step (g' := (mkF m 36 #[.val (.ref o0), .val (.int (0 : Int32)), .val (.int (0 : Int32)), .unset] [(.int (0 : Int32)), (.ref o0), (.int (0 : Int32)), (.ref w_record)])) X4 (fun t k => XT.dupX1 X4.here hx rfl (hb hby d3_35) rfl rfl rfl k) ?_
  refine OwnFin.step (g' := (mkF m 37 #[.val (.ref o0), .val (.int (0 : Int32)), .val (.int (0 : Int32)), .unset] [(.int (1 : Int32)), (.int (0 : Int32)), (.ref o0), (.int (0 : Int32)), (.ref w_record)])) X4 (fun t k => XS.iconst X4.here hx rfl (hb hby d3_36) k) ?_
  refine OwnFin.step (g' := (mkF m 38 #[.val (.ref o0), .val (.int (0 : Int32)), .val (.int (0 : Int32)), .unset] [(.int (1 : Int32)), (.ref o0), (.int (0 : Int32)), (.ref w_record)])) X4 (fun t k => XS.iadd X4.here hx rfl (hb hby d3_37) rfl k) ?_
  obtain ⟨T5, h5, L5, X5, e5, N5, W5, F5, st5⟩ := own_putF X4 hx hZ hown (hw _ (wm 20 rfl)) e4 N0 F_at_o0 E_o0 g_o0 (Or.inl (hw _ (wm 21 rfl))) (hw _ (wm 5 rfl)) (fty := .int) (by decide) rfl rfl (g := (mkF m 38 #[.val (.ref o0), .val (.int (0 : Int32)), .val (.int (0 : Int32)), .unset] [(.int (1 : Int32)), (.ref o0), (.int (0 : Int32)), (.ref w_record)])) rfl rfl (hb hby d3_38)
  have K5 := Keep.of_wr W5
  have Z5 := Nat.le_trans Z0 K5.1
  have S5 := Nat.le_trans (Nat.le_refl h0.size) K5.1
  have F6 := Fld.other W5 F_record_o0 (Or.inr (slot_ne (Or.inr (hw _ (wm 14 rfl))) (Or.inl (hw _ (wm 21 rfl))) (by decide) (t := (.array .byte)) (t' := .int) (by decide) (by decide)))
  have E7 := Exa.wr W5 E_o0
  refine OwnFin.step (g' := (mkF m 41 #[.val (.ref o0), .val (.int (0 : Int32)), .val (.int (0 : Int32)), .unset] [(.int (0 : Int32)), (.ref w_record)])) X5 (fun t k => st5 _ k) ?_
  have A8 := (A_w_record.keep K5 (ninS (Ne.symm ne_o0__w_record) nin0))
  refine OwnFin.step (g' := (mkF m 42 #[.val (.ref o0), .val (.int (0 : Int32)), .val (.int (0 : Int32)), .unset] [(.int (G ((0 : Int32)).toNatClampNeg))])) X5 (fun t k => own_ldB X5 hx hZ e5 A8 (iba0k53_41 ln G hln hb0 hb1 hb2 hb3 hb4) rfl (g := (mkF m 41 #[.val (.ref o0), .val (.int (0 : Int32)), .val (.int (0 : Int32)), .unset] [(.int (0 : Int32)), (.ref w_record)])) rfl rfl (hb hby d3_41) _ k) ?_
  refine OwnFin.step (g' := (mkF m 45 #[.val (.ref o0), .val (.int (0 : Int32)), .val (.int (0 : Int32)), .unset] [(.int (255 : Int32)), (.int (G ((0 : Int32)).toNatClampNeg))])) X5 (fun t k => XS.sipush X5.here hx rfl (hb hby d3_42) k) ?_
  refine OwnFin.step (g' := (mkF m 46 #[.val (.ref o0), .val (.int (0 : Int32)), .val (.int (0 : Int32)), .unset] [(.int ((G ((0 : Int32)).toNatClampNeg) &&& (255 : Int32)))])) X5 (fun t k => XS.iand X5.here hx rfl (hb hby d3_45) rfl k) ?_
  refine OwnFin.step (g' := (mkF m 47 #[.val (.ref o0), .val (.int (0 : Int32)), .val (.int (0 : Int32)), .val (.int (va0k53_46 G))] [])) X5 (fun t k => XS.istoreN X5.here hx rfl (hb hby d3_46) rfl (l' := #[.val (.ref o0), .val (.int (0 : Int32)), .val (.int (0 : Int32)), .val (.int (va0k53_46 G))]) rfl k) ?_
  refine OwnFin.step (g' := (mkF m 48 #[.val (.ref o0), .val (.int (0 : Int32)), .val (.int (0 : Int32)), .val (.int (va0k53_46 G))] [(.int (0 : Int32))])) X5 (fun t k => XS.iloadN X5.here hx rfl (hb hby d3_47) rfl k) ?_
  refine OwnFin.step (g' := (mkF m 50 #[.val (.ref o0), .val (.int (0 : Int32)), .val (.int (0 : Int32)), .val (.int (va0k53_46 G))] [(.int (28 : Int32)), (.int (0 : Int32))])) X5 (fun t k => XS.bipush X5.here hx rfl (hb hby d3_48) k) ?_
  refine OwnFin.step (g' := (mkF m 69 #[.val (.ref o0), .val (.int (0 : Int32)), .val (.int (0 : Int32)), .val (.int (va0k53_46 G))] [])) X5 (fun t k => XS.icmpYes X5.here hx rfl (pc0 := 50) (pc' := 69) rfl (hb hby d3_50) rfl (feq (show ¬ ((0 : Int32) = (28 : Int32)) by first | decide | exact Int32.lt_irrefl _ | exact Int64.lt_irrefl _)).2 (by decide) (by decide) k) ?_
  refine OwnFin.step (g' := (mkF m 70 #[.val (.ref o0), .val (.int (0 : Int32)), .val (.int (0 : Int32)), .val (.int (va0k53_46 G))] [(.int (0 : Int32))])) X5 (fun t k => XS.iloadN X5.here hx rfl (hb hby d3_69) rfl k) ?_
  refine OwnFin.step (g' := (mkF m 71 #[.val (.ref o0), .val (.int (0 : Int32)), .val (.int (0 : Int32)), .val (.int (va0k53_46 G))] [(.int (va0k53_46 G)), (.int (0 : Int32))])) X5 (fun t k => XS.iloadN X5.here hx rfl (hb hby d3_70) rfl k) ?_
  refine OwnFin.step (g' := (mkF m 73 #[.val (.ref o0), .val (.int (0 : Int32)), .val (.int (0 : Int32)), .val (.int (va0k53_46 G))] [(.int (127 : Int32)), (.int (va0k53_46 G)), (.int (0 : Int32))])) X5 (fun t k => XS.bipush X5.here hx rfl (hb hby d3_71) k) ?_
  refine OwnFin.step (g' := (mkF m 74 #[.val (.ref o0), .val (.int (0 : Int32)), .val (.int (0 : Int32)), .val (.int (va0k53_46 G))] [(.int ((va0k53_46 G) &&& (127 : Int32))), (.int (0 : Int32))])) X5 (fun t k => XS.iand X5.here hx rfl (hb hby d3_73) rfl k) ?_
  refine OwnFin.step (g' := (mkF m 75 #[.val (.ref o0), .val (.int (0 : Int32)), .val (.int (0 : Int32)), .val (.int (va0k53_46 G))] [(.int (0 : Int32)), (.int ((va0k53_46 G) &&& (127 : Int32))), (.int (0 : Int32))])) X5 (fun t k => XS.iloadN X5.here hx rfl (hb hby d3_74) rfl k) ?_
  refine OwnFin.step (g' := (mkF m 76 #[.val (.ref o0), .val (.int (0 : Int32)), .val (.int (0 : Int32)), .val (.int (va0k53_46 G))] [(.int (((va0k53_46 G) &&& (127 : Int32)) <<< ((0 : Int32) &&& 31))), (.int (0 : Int32))])) X5 (fun t k => XT.ishl X5.here hx rfl (hb hby d3_75) rfl k) ?_
  refine OwnFin.step (g' := (mkF m 77 #[.val (.ref o0), .val (.int (0 : Int32)), .val (.int (0 : Int32)), .val (.int (va0k53_46 G))] [(.int ((0 : Int32) ||| (((va0k53_46 G) &&& (127 : Int32)) <<< ((0 : Int32) &&& 31))))])) X5 (fun t k => XT.ior X5.here hx rfl (hb hby d3_76) rfl k) ?_
  refine OwnFin.step (g' := (mkF m 78 #[.val (.ref o0), .val (.int (va0k53_77 G)), .val (.int (0 : Int32)), .val (.int (va0k53_46 G))] [])) X5 (fun t k => XS.istoreN X5.here hx rfl (hb hby d3_77) rfl (l' := #[.val (.ref o0), .val (.int (va0k53_77 G)), .val (.int (0 : Int32)), .val (.int (va0k53_46 G))]) rfl k) ?_
  refine OwnFin.step (g' := (mkF m 79 #[.val (.ref o0), .val (.int (va0k53_77 G)), .val (.int (0 : Int32)), .val (.int (va0k53_46 G))] [(.int (va0k53_46 G))])) X5 (fun t k => XS.iloadN X5.here hx rfl (hb hby d3_78) rfl k) ?_
  refine OwnFin.step (g' := (mkF m 82 #[.val (.ref o0), .val (.int (va0k53_77 G)), .val (.int (0 : Int32)), .val (.int (va0k53_46 G))] [(.int (128 : Int32)), (.int (va0k53_46 G))])) X5 (fun t k => XS.sipush X5.here hx rfl (hb hby d3_79) k) ?_
  refine OwnFin.step (g' := (mkF m 87 #[.val (.ref o0), .val (.int (va0k53_77 G)), .val (.int (0 : Int32)), .val (.int (va0k53_46 G))] [])) X5 (fun t k => XS.icmpYes X5.here hx rfl (pc0 := 82) (pc' := 87) rfl (hb hby d3_82) rfl (flt (bra0k53_82 G ln hln hb0 hb1 hb2 hb3 hb4)).2.1 (by decide) (by decide) k) ?_
  refine OwnFin.step (g' := (mkF m 90 #[.val (.ref o0), .val (.int (va0k53_77 G)), .val (.int (7 : Int32)), .val (.int (va0k53_46 G))] [])) X5 (fun t k => XS.iinc X5.here hx rfl (hb hby d3_87) rfl (l' := #[.val (.ref o0), .val (.int (va0k53_77 G)), .val (.int (7 : Int32)), .val (.int (va0k53_46 G))]) rfl k) ?_
  refine OwnFin.step (g' := (mkF m 4 #[.val (.ref o0), .val (.int (va0k53_77 G)), .val (.int (7 : Int32)), .val (.int (va0k53_46 G))] [])) X5 (fun t k => XS.goto X5.here hx rfl (pc0 := 90) (pc' := 4) rfl (hb hby d3_90) (by decide) (by decide) k) ?_
  refine OwnFin.step (g' := (mkF m 5 #[.val (.ref o0), .val (.int (va0k53_77 G)), .val (.int (7 : Int32)), .val (.int (va0k53_46 G))] [(.ref o0)])) X5 (fun t k => XS.aloadN X5.here hx rfl (hb hby d3_4) rfl rfl k) ?_
  obtain ⟨T9, X9, e9, st9⟩ := getF X5 hx hZ hown (host := "") (Or.inl (hw _ (wm 20 rfl))) Via.refl e5 F5 (g := (mkF m 5 #[.val (.ref o0), .val (.int (va0k53_77 G)), .val (.int (7 : Int32)), .val (.int (va0k53_46 G))] [(.ref o0)])) rfl rfl (hb hby d3_5)
  refine OwnFin.step (g' := (mkF m 8 #[.val (.ref o0), .val (.int (va0k53_77 G)), .val (.int (7 : Int32)), .val (.int (va0k53_46 G))] [(.int (1 : Int32))])) X9 (fun t k => st9 _ k) ?_
  refine OwnFin.step (g' := (mkF m 9 #[.val (.ref o0), .val (.int (va0k53_77 G)), .val (.int (7 : Int32)), .val (.int (va0k53_46 G))] [(.ref o0), (.int (1 : Int32))])) X9 (fun t k => XS.aloadN X9.here hx rfl (hb hby d3_8) rfl rfl k) ?_
  obtain ⟨T10, X10, e10, st10⟩ := getF X9 hx hZ hown (host := "") (Or.inl (hw _ (wm 13 rfl))) Via.refl e9 F6 (g := (mkF m 9 #[.val (.ref o0), .val (.int (va0k53_77 G)), .val (.int (7 : Int32)), .val (.int (va0k53_46 G))] [(.ref o0), (.int (1 : Int32))])) rfl rfl (hb hby d3_9)
  refine OwnFin.step (g' := (mkF m 12 #[.val (.ref o0), .val (.int (va0k53_77 G)), .val (.int (7 : Int32)), .val (.int (va0k53_46 G))] [(.ref w_record), (.int (1 : Int32))])) X10 (fun t k => st10 _ k) ?_
  refine OwnFin.step (g' := (mkF m 13 #[.val (.ref o0), .val (.int (va0k53_77 G)), .val (.int (7 : Int32)), .val (.int (va0k53_46 G))] [(.int (ln).toInt32), (.int (1 : Int32))])) X10 (fun t k => own_len X10 hx hZ e10 A8 (g := (mkF m 12 #[.val (.ref o0), .val (.int (va0k53_77 G)), .val (.int (7 : Int32)), .val (.int (va0k53_46 G))] [(.ref w_record), (.int (1 : Int32))])) rfl rfl (hb hby d3_12) _ k) ?_
  refine OwnFin.step (g' := (mkF m 26 #[.val (.ref o0), .val (.int (va0k53_77 G)), .val (.int (7 : Int32)), .val (.int (va0k53_46 G))] [])) X10 (fun t k => XS.icmpYes X10.here hx rfl (pc0 := 13) (pc' := 26) rfl (hb hby d3_13) rfl (feq (bra0k53_13z ln G hln hb0 hb1 hb2 hb3 hb4)).2 (by decide) (by decide) k) ?_
  refine OwnFin.step (g' := (mkF m 27 #[.val (.ref o0), .val (.int (va0k53_77 G)), .val (.int (7 : Int32)), .val (.int (va0k53_46 G))] [(.ref o0)])) X10 (fun t k => XS.aloadN X10.here hx rfl (hb hby d3_26) rfl rfl k) ?_
  obtain ⟨T11, X11, e11, st11⟩ := getF X10 hx hZ hown (host := "") (Or.inl (hw _ (wm 13 rfl))) Via.refl e10 F6 (g := (mkF m 27 #[.val (.ref o0), .val (.int (va0k53_77 G)), .val (.int (7 : Int32)), .val (.int (va0k53_46 G))] [(.ref o0)])) rfl rfl (hb hby d3_27)
  refine OwnFin.step (g' := (mkF m 30 #[.val (.ref o0), .val (.int (va0k53_77 G)), .val (.int (7 : Int32)), .val (.int (va0k53_46 G))] [(.ref w_record)])) X11 (fun t k => st11 _ k) ?_
  refine OwnFin.step (g' := (mkF m 31 #[.val (.ref o0), .val (.int (va0k53_77 G)), .val (.int (7 : Int32)), .val (.int (va0k53_46 G))] [(.ref o0), (.ref w_record)])) X11 (fun t k => XS.aloadN X11.here hx rfl (hb hby d3_30) rfl rfl k) ?_
  refine OwnFin.step (g' := (mkF m 32 #[.val (.ref o0), .val (.int (va0k53_77 G)), .val (.int (7 : Int32)), .val (.int (va0k53_46 G))] [(.ref o0), (.ref o0), (.ref w_record)])) X11 (fun t k => XS.dup X11.here hx rfl (hb hby d3_31) rfl rfl k) ?_
  obtain ⟨T12, X12, e12, st12⟩ := getF X11 hx hZ hown (host := "") (Or.inl (hw _ (wm 20 rfl))) Via.refl e11 F5 (g := (mkF m 32 #[.val (.ref o0), .val (.int (va0k53_77 G)), .val (.int (7 : Int32)), .val (.int (va0k53_46 G))] [(.ref o0), (.ref o0), (.ref w_record)])) rfl rfl (hb hby d3_32)
  refine OwnFin.step (g' := (mkF m 35 #[.val (.ref o0), .val (.int (va0k53_77 G)), .val (.int (7 : Int32)), .val (.int (va0k53_46 G))] [(.int (1 : Int32)), (.ref o0), (.ref w_record)])) X12 (fun t k => st12 _ k) ?_
  refine OwnFin.step (g' := (mkF m 36 #[.val (.ref o0), .val (.int (va0k53_77 G)), .val (.int (7 : Int32)), .val (.int (va0k53_46 G))] [(.int (1 : Int32)), (.ref o0), (.int (1 : Int32)), (.ref w_record)])) X12 (fun t k => XT.dupX1 X12.here hx rfl (hb hby d3_35) rfl rfl rfl k) ?_
  refine OwnFin.step (g' := (mkF m 37 #[.val (.ref o0), .val (.int (va0k53_77 G)), .val (.int (7 : Int32)), .val (.int (va0k53_46 G))] [(.int (1 : Int32)), (.int (1 : Int32)), (.ref o0), (.int (1 : Int32)), (.ref w_record)])) X12 (fun t k => XS.iconst X12.here hx rfl (hb hby d3_36) k) ?_
  refine OwnFin.step (g' := (mkF m 38 #[.val (.ref o0), .val (.int (va0k53_77 G)), .val (.int (7 : Int32)), .val (.int (va0k53_46 G))] [(.int (2 : Int32)), (.ref o0), (.int (1 : Int32)), (.ref w_record)])) X12 (fun t k => XS.iadd X12.here hx rfl (hb hby d3_37) rfl k) ?_
  obtain ⟨T13, h13, L13, X13, e13, N13, W13, F13, st13⟩ := own_putF X12 hx hZ hown (hw _ (wm 20 rfl)) e12 N5 F5 E7 g_o0 (Or.inl (hw _ (wm 21 rfl))) (hw _ (wm 5 rfl)) (fty := .int) (by decide) rfl rfl (g := (mkF m 38 #[.val (.ref o0), .val (.int (va0k53_77 G)), .val (.int (7 : Int32)), .val (.int (va0k53_46 G))] [(.int (2 : Int32)), (.ref o0), (.int (1 : Int32)), (.ref w_record)])) rfl rfl (hb hby d3_38)
  have K13 := Keep.of_wr W13
  have Z13 := Nat.le_trans Z5 K13.1
  have S13 := Nat.le_trans S5 K13.1
  have F14 := Fld.other W13 F6 (Or.inr (slot_ne (Or.inr (hw _ (wm 14 rfl))) (Or.inl (hw _ (wm 21 rfl))) (by decide) (t := (.array .byte)) (t' := .int) (by decide) (by decide)))
  have E15 := Exa.wr W13 E7
  refine OwnFin.step (g' := (mkF m 41 #[.val (.ref o0), .val (.int (va0k53_77 G)), .val (.int (7 : Int32)), .val (.int (va0k53_46 G))] [(.int (1 : Int32)), (.ref w_record)])) X13 (fun t k => st13 _ k) ?_
  have A16 := (A8.keep K13 (ninS (Ne.symm ne_o0__w_record) nin0))
  refine OwnFin.step (g' := (mkF m 42 #[.val (.ref o0), .val (.int (va0k53_77 G)), .val (.int (7 : Int32)), .val (.int (va0k53_46 G))] [(.int (G ((1 : Int32)).toNatClampNeg))])) X13 (fun t k => own_ldB X13 hx hZ e13 A16 (iba0k53_41z ln G hln hb0 hb1 hb2 hb3 hb4) rfl (g := (mkF m 41 #[.val (.ref o0), .val (.int (va0k53_77 G)), .val (.int (7 : Int32)), .val (.int (va0k53_46 G))] [(.int (1 : Int32)), (.ref w_record)])) rfl rfl (hb hby d3_41) _ k) ?_
  refine OwnFin.step (g' := (mkF m 45 #[.val (.ref o0), .val (.int (va0k53_77 G)), .val (.int (7 : Int32)), .val (.int (va0k53_46 G))] [(.int (255 : Int32)), (.int (G ((1 : Int32)).toNatClampNeg))])) X13 (fun t k => XS.sipush X13.here hx rfl (hb hby d3_42) k) ?_
  refine OwnFin.step (g' := (mkF m 46 #[.val (.ref o0), .val (.int (va0k53_77 G)), .val (.int (7 : Int32)), .val (.int (va0k53_46 G))] [(.int ((G ((1 : Int32)).toNatClampNeg) &&& (255 : Int32)))])) X13 (fun t k => XS.iand X13.here hx rfl (hb hby d3_45) rfl k) ?_
  refine OwnFin.step (g' := (mkF m 47 #[.val (.ref o0), .val (.int (va0k53_77 G)), .val (.int (7 : Int32)), .val (.int (va0k53_46b G))] [])) X13 (fun t k => XS.istoreN X13.here hx rfl (hb hby d3_46) rfl (l' := #[.val (.ref o0), .val (.int (va0k53_77 G)), .val (.int (7 : Int32)), .val (.int (va0k53_46b G))]) rfl k) ?_
  refine OwnFin.step (g' := (mkF m 48 #[.val (.ref o0), .val (.int (va0k53_77 G)), .val (.int (7 : Int32)), .val (.int (va0k53_46b G))] [(.int (7 : Int32))])) X13 (fun t k => XS.iloadN X13.here hx rfl (hb hby d3_47) rfl k) ?_
  refine OwnFin.step (g' := (mkF m 50 #[.val (.ref o0), .val (.int (va0k53_77 G)), .val (.int (7 : Int32)), .val (.int (va0k53_46b G))] [(.int (28 : Int32)), (.int (7 : Int32))])) X13 (fun t k => XS.bipush X13.here hx rfl (hb hby d3_48) k) ?_
  refine OwnFin.step (g' := (mkF m 69 #[.val (.ref o0), .val (.int (va0k53_77 G)), .val (.int (7 : Int32)), .val (.int (va0k53_46b G))] [])) X13 (fun t k => XS.icmpYes X13.here hx rfl (pc0 := 50) (pc' := 69) rfl (hb hby d3_50) rfl (feq (show ¬ ((7 : Int32) = (28 : Int32)) by first | decide | exact Int32.lt_irrefl _ | exact Int64.lt_irrefl _)).2 (by decide) (by decide) k) ?_
  refine OwnFin.step (g' := (mkF m 70 #[.val (.ref o0), .val (.int (va0k53_77 G)), .val (.int (7 : Int32)), .val (.int (va0k53_46b G))] [(.int (va0k53_77 G))])) X13 (fun t k => XS.iloadN X13.here hx rfl (hb hby d3_69) rfl k) ?_
  refine OwnFin.step (g' := (mkF m 71 #[.val (.ref o0), .val (.int (va0k53_77 G)), .val (.int (7 : Int32)), .val (.int (va0k53_46b G))] [(.int (va0k53_46b G)), (.int (va0k53_77 G))])) X13 (fun t k => XS.iloadN X13.here hx rfl (hb hby d3_70) rfl k) ?_
  refine OwnFin.step (g' := (mkF m 73 #[.val (.ref o0), .val (.int (va0k53_77 G)), .val (.int (7 : Int32)), .val (.int (va0k53_46b G))] [(.int (127 : Int32)), (.int (va0k53_46b G)), (.int (va0k53_77 G))])) X13 (fun t k => XS.bipush X13.here hx rfl (hb hby d3_71) k) ?_
  refine OwnFin.step (g' := (mkF m 74 #[.val (.ref o0), .val (.int (va0k53_77 G)), .val (.int (7 : Int32)), .val (.int (va0k53_46b G))] [(.int ((va0k53_46b G) &&& (127 : Int32))), (.int (va0k53_77 G))])) X13 (fun t k => XS.iand X13.here hx rfl (hb hby d3_73) rfl k) ?_
  refine OwnFin.step (g' := (mkF m 75 #[.val (.ref o0), .val (.int (va0k53_77 G)), .val (.int (7 : Int32)), .val (.int (va0k53_46b G))] [(.int (7 : Int32)), (.int ((va0k53_46b G) &&& (127 : Int32))), (.int (va0k53_77 G))])) X13 (fun t k => XS.iloadN X13.here hx rfl (hb hby d3_74) rfl k) ?_
  refine OwnFin.step (g' := (mkF m 76 #[.val (.ref o0), .val (.int (va0k53_77 G)), .val (.int (7 : Int32)), .val (.int (va0k53_46b G))] [(.int (((va0k53_46b G) &&& (127 : Int32)) <<< ((7 : Int32) &&& 31))), (.int (va0k53_77 G))])) X13 (fun t k => XT.ishl X13.here hx rfl (hb hby d3_75) rfl k) ?_
  refine OwnFin.step (g' := (mkF m 77 #[.val (.ref o0), .val (.int (va0k53_77 G)), .val (.int (7 : Int32)), .val (.int (va0k53_46b G))] [(.int ((va0k53_77 G) ||| (((va0k53_46b G) &&& (127 : Int32)) <<< ((7 : Int32) &&& 31))))])) X13 (fun t k => XT.ior X13.here hx rfl (hb hby d3_76) rfl k) ?_
  refine OwnFin.step (g' := (mkF m 78 #[.val (.ref o0), .val (.int (va0k53_77b G)), .val (.int (7 : Int32)), .val (.int (va0k53_46b G))] [])) X13 (fun t k => XS.istoreN X13.here hx rfl (hb hby d3_77) rfl (l' := #[.val (.ref o0), .val (.int (va0k53_77b G)), .val (.int (7 : Int32)), .val (.int (va0k53_46b G))]) rfl k) ?_
  refine OwnFin.step (g' := (mkF m 79 #[.val (.ref o0), .val (.int (va0k53_77b G)), .val (.int (7 : Int32)), .val (.int (va0k53_46b G))] [(.int (va0k53_46b G))])) X13 (fun t k => XS.iloadN X13.here hx rfl (hb hby d3_78) rfl k) ?_
  refine OwnFin.step (g' := (mkF m 82 #[.val (.ref o0), .val (.int (va0k53_77b G)), .val (.int (7 : Int32)), .val (.int (va0k53_46b G))] [(.int (128 : Int32)), (.int (va0k53_46b G))])) X13 (fun t k => XS.sipush X13.here hx rfl (hb hby d3_79) k) ?_
  refine OwnFin.step (g' := (mkF m 87 #[.val (.ref o0), .val (.int (va0k53_77b G)), .val (.int (7 : Int32)), .val (.int (va0k53_46b G))] [])) X13 (fun t k => XS.icmpYes X13.here hx rfl (pc0 := 82) (pc' := 87) rfl (hb hby d3_82) rfl (flt (bra0k53_82z G ln hln hb0 hb1 hb2 hb3 hb4)).2.1 (by decide) (by decide) k) ?_
  refine OwnFin.step (g' := (mkF m 90 #[.val (.ref o0), .val (.int (va0k53_77b G)), .val (.int (14 : Int32)), .val (.int (va0k53_46b G))] [])) X13 (fun t k => XS.iinc X13.here hx rfl (hb hby d3_87) rfl (l' := #[.val (.ref o0), .val (.int (va0k53_77b G)), .val (.int (14 : Int32)), .val (.int (va0k53_46b G))]) rfl k) ?_
  refine OwnFin.step (g' := (mkF m 4 #[.val (.ref o0), .val (.int (va0k53_77b G)), .val (.int (14 : Int32)), .val (.int (va0k53_46b G))] [])) X13 (fun t k => XS.goto X13.here hx rfl (pc0 := 90) (pc' := 4) rfl (hb hby d3_90) (by decide) (by decide) k) ?_
  refine OwnFin.step (g' := (mkF m 5 #[.val (.ref o0), .val (.int (va0k53_77b G)), .val (.int (14 : Int32)), .val (.int (va0k53_46b G))] [(.ref o0)])) X13 (fun t k => XS.aloadN X13.here hx rfl (hb hby d3_4) rfl rfl k) ?_
  obtain ⟨T17, X17, e17, st17⟩ := getF X13 hx hZ hown (host := "") (Or.inl (hw _ (wm 20 rfl))) Via.refl e13 F13 (g := (mkF m 5 #[.val (.ref o0), .val (.int (va0k53_77b G)), .val (.int (14 : Int32)), .val (.int (va0k53_46b G))] [(.ref o0)])) rfl rfl (hb hby d3_5)
  refine OwnFin.step (g' := (mkF m 8 #[.val (.ref o0), .val (.int (va0k53_77b G)), .val (.int (14 : Int32)), .val (.int (va0k53_46b G))] [(.int (2 : Int32))])) X17 (fun t k => st17 _ k) ?_
  refine OwnFin.step (g' := (mkF m 9 #[.val (.ref o0), .val (.int (va0k53_77b G)), .val (.int (14 : Int32)), .val (.int (va0k53_46b G))] [(.ref o0), (.int (2 : Int32))])) X17 (fun t k => XS.aloadN X17.here hx rfl (hb hby d3_8) rfl rfl k) ?_
  obtain ⟨T18, X18, e18, st18⟩ := getF X17 hx hZ hown (host := "") (Or.inl (hw _ (wm 13 rfl))) Via.refl e17 F14 (g := (mkF m 9 #[.val (.ref o0), .val (.int (va0k53_77b G)), .val (.int (14 : Int32)), .val (.int (va0k53_46b G))] [(.ref o0), (.int (2 : Int32))])) rfl rfl (hb hby d3_9)
  refine OwnFin.step (g' := (mkF m 12 #[.val (.ref o0), .val (.int (va0k53_77b G)), .val (.int (14 : Int32)), .val (.int (va0k53_46b G))] [(.ref w_record), (.int (2 : Int32))])) X18 (fun t k => st18 _ k) ?_
  refine OwnFin.step (g' := (mkF m 13 #[.val (.ref o0), .val (.int (va0k53_77b G)), .val (.int (14 : Int32)), .val (.int (va0k53_46b G))] [(.int (ln).toInt32), (.int (2 : Int32))])) X18 (fun t k => own_len X18 hx hZ e18 A16 (g := (mkF m 12 #[.val (.ref o0), .val (.int (va0k53_77b G)), .val (.int (14 : Int32)), .val (.int (va0k53_46b G))] [(.ref w_record), (.int (2 : Int32))])) rfl rfl (hb hby d3_12) _ k) ?_
  refine OwnFin.step (g' := (mkF m 26 #[.val (.ref o0), .val (.int (va0k53_77b G)), .val (.int (14 : Int32)), .val (.int (va0k53_46b G))] [])) X18 (fun t k => XS.icmpYes X18.here hx rfl (pc0 := 13) (pc' := 26) rfl (hb hby d3_13) rfl (feq (bra0k53_13zz ln G hln hb0 hb1 hb2 hb3 hb4)).2 (by decide) (by decide) k) ?_
  refine OwnFin.step (g' := (mkF m 27 #[.val (.ref o0), .val (.int (va0k53_77b G)), .val (.int (14 : Int32)), .val (.int (va0k53_46b G))] [(.ref o0)])) X18 (fun t k => XS.aloadN X18.here hx rfl (hb hby d3_26) rfl rfl k) ?_
  obtain ⟨T19, X19, e19, st19⟩ := getF X18 hx hZ hown (host := "") (Or.inl (hw _ (wm 13 rfl))) Via.refl e18 F14 (g := (mkF m 27 #[.val (.ref o0), .val (.int (va0k53_77b G)), .val (.int (14 : Int32)), .val (.int (va0k53_46b G))] [(.ref o0)])) rfl rfl (hb hby d3_27)
  refine OwnFin.step (g' := (mkF m 30 #[.val (.ref o0), .val (.int (va0k53_77b G)), .val (.int (14 : Int32)), .val (.int (va0k53_46b G))] [(.ref w_record)])) X19 (fun t k => st19 _ k) ?_
  refine OwnFin.step (g' := (mkF m 31 #[.val (.ref o0), .val (.int (va0k53_77b G)), .val (.int (14 : Int32)), .val (.int (va0k53_46b G))] [(.ref o0), (.ref w_record)])) X19 (fun t k => XS.aloadN X19.here hx rfl (hb hby d3_30) rfl rfl k) ?_
  refine OwnFin.step (g' := (mkF m 32 #[.val (.ref o0), .val (.int (va0k53_77b G)), .val (.int (14 : Int32)), .val (.int (va0k53_46b G))] [(.ref o0), (.ref o0), (.ref w_record)])) X19 (fun t k => XS.dup X19.here hx rfl (hb hby d3_31) rfl rfl k) ?_
  obtain ⟨T20, X20, e20, st20⟩ := getF X19 hx hZ hown (host := "") (Or.inl (hw _ (wm 20 rfl))) Via.refl e19 F13 (g := (mkF m 32 #[.val (.ref o0), .val (.int (va0k53_77b G)), .val (.int (14 : Int32)), .val (.int (va0k53_46b G))] [(.ref o0), (.ref o0), (.ref w_record)])) rfl rfl (hb hby d3_32)
  refine OwnFin.step (g' := (mkF m 35 #[.val (.ref o0), .val (.int (va0k53_77b G)), .val (.int (14 : Int32)), .val (.int (va0k53_46b G))] [(.int (2 : Int32)), (.ref o0), (.ref w_record)])) X20 (fun t k => st20 _ k) ?_
  refine OwnFin.step (g' := (mkF m 36 #[.val (.ref o0), .val (.int (va0k53_77b G)), .val (.int (14 : Int32)), .val (.int (va0k53_46b G))] [(.int (2 : Int32)), (.ref o0), (.int (2 : Int32)), (.ref w_record)])) X20 (fun t k => XT.dupX1 X20.here hx rfl (hb hby d3_35) rfl rfl rfl k) ?_
  refine OwnFin.step (g' := (mkF m 37 #[.val (.ref o0), .val (.int (va0k53_77b G)), .val (.int (14 : Int32)), .val (.int (va0k53_46b G))] [(.int (1 : Int32)), (.int (2 : Int32)), (.ref o0), (.int (2 : Int32)), (.ref w_record)])) X20 (fun t k => XS.iconst X20.here hx rfl (hb hby d3_36) k) ?_
  refine OwnFin.step (g' := (mkF m 38 #[.val (.ref o0), .val (.int (va0k53_77b G)), .val (.int (14 : Int32)), .val (.int (va0k53_46b G))] [(.int (3 : Int32)), (.ref o0), (.int (2 : Int32)), (.ref w_record)])) X20 (fun t k => XS.iadd X20.here hx rfl (hb hby d3_37) rfl k) ?_
  obtain ⟨T21, h21, L21, X21, e21, N21, W21, F21, st21⟩ := own_putF X20 hx hZ hown (hw _ (wm 20 rfl)) e20 N13 F13 E15 g_o0 (Or.inl (hw _ (wm 21 rfl))) (hw _ (wm 5 rfl)) (fty := .int) (by decide) rfl rfl (g := (mkF m 38 #[.val (.ref o0), .val (.int (va0k53_77b G)), .val (.int (14 : Int32)), .val (.int (va0k53_46b G))] [(.int (3 : Int32)), (.ref o0), (.int (2 : Int32)), (.ref w_record)])) rfl rfl (hb hby d3_38)
  have K21 := Keep.of_wr W21
  have Z21 := Nat.le_trans Z13 K21.1
  have S21 := Nat.le_trans S13 K21.1
  have F22 := Fld.other W21 F14 (Or.inr (slot_ne (Or.inr (hw _ (wm 14 rfl))) (Or.inl (hw _ (wm 21 rfl))) (by decide) (t := (.array .byte)) (t' := .int) (by decide) (by decide)))
  have E23 := Exa.wr W21 E15
  refine OwnFin.step (g' := (mkF m 41 #[.val (.ref o0), .val (.int (va0k53_77b G)), .val (.int (14 : Int32)), .val (.int (va0k53_46b G))] [(.int (2 : Int32)), (.ref w_record)])) X21 (fun t k => st21 _ k) ?_
  have A24 := (A16.keep K21 (ninS (Ne.symm ne_o0__w_record) nin0))
  refine OwnFin.step (g' := (mkF m 42 #[.val (.ref o0), .val (.int (va0k53_77b G)), .val (.int (14 : Int32)), .val (.int (va0k53_46b G))] [(.int (G ((2 : Int32)).toNatClampNeg))])) X21 (fun t k => own_ldB X21 hx hZ e21 A24 (iba0k53_41zz ln G hln hb0 hb1 hb2 hb3 hb4) rfl (g := (mkF m 41 #[.val (.ref o0), .val (.int (va0k53_77b G)), .val (.int (14 : Int32)), .val (.int (va0k53_46b G))] [(.int (2 : Int32)), (.ref w_record)])) rfl rfl (hb hby d3_41) _ k) ?_
  refine OwnFin.step (g' := (mkF m 45 #[.val (.ref o0), .val (.int (va0k53_77b G)), .val (.int (14 : Int32)), .val (.int (va0k53_46b G))] [(.int (255 : Int32)), (.int (G ((2 : Int32)).toNatClampNeg))])) X21 (fun t k => XS.sipush X21.here hx rfl (hb hby d3_42) k) ?_
  refine OwnFin.step (g' := (mkF m 46 #[.val (.ref o0), .val (.int (va0k53_77b G)), .val (.int (14 : Int32)), .val (.int (va0k53_46b G))] [(.int ((G ((2 : Int32)).toNatClampNeg) &&& (255 : Int32)))])) X21 (fun t k => XS.iand X21.here hx rfl (hb hby d3_45) rfl k) ?_
  refine OwnFin.step (g' := (mkF m 47 #[.val (.ref o0), .val (.int (va0k53_77b G)), .val (.int (14 : Int32)), .val (.int (va0k53_46bb G))] [])) X21 (fun t k => XS.istoreN X21.here hx rfl (hb hby d3_46) rfl (l' := #[.val (.ref o0), .val (.int (va0k53_77b G)), .val (.int (14 : Int32)), .val (.int (va0k53_46bb G))]) rfl k) ?_
  refine OwnFin.step (g' := (mkF m 48 #[.val (.ref o0), .val (.int (va0k53_77b G)), .val (.int (14 : Int32)), .val (.int (va0k53_46bb G))] [(.int (14 : Int32))])) X21 (fun t k => XS.iloadN X21.here hx rfl (hb hby d3_47) rfl k) ?_
  refine OwnFin.step (g' := (mkF m 50 #[.val (.ref o0), .val (.int (va0k53_77b G)), .val (.int (14 : Int32)), .val (.int (va0k53_46bb G))] [(.int (28 : Int32)), (.int (14 : Int32))])) X21 (fun t k => XS.bipush X21.here hx rfl (hb hby d3_48) k) ?_
  refine OwnFin.step (g' := (mkF m 69 #[.val (.ref o0), .val (.int (va0k53_77b G)), .val (.int (14 : Int32)), .val (.int (va0k53_46bb G))] [])) X21 (fun t k => XS.icmpYes X21.here hx rfl (pc0 := 50) (pc' := 69) rfl (hb hby d3_50) rfl (feq (show ¬ ((14 : Int32) = (28 : Int32)) by first | decide | exact Int32.lt_irrefl _ | exact Int64.lt_irrefl _)).2 (by decide) (by decide) k) ?_
  refine OwnFin.step (g' := (mkF m 70 #[.val (.ref o0), .val (.int (va0k53_77b G)), .val (.int (14 : Int32)), .val (.int (va0k53_46bb G))] [(.int (va0k53_77b G))])) X21 (fun t k => XS.iloadN X21.here hx rfl (hb hby d3_69) rfl k) ?_
  refine OwnFin.step (g' := (mkF m 71 #[.val (.ref o0), .val (.int (va0k53_77b G)), .val (.int (14 : Int32)), .val (.int (va0k53_46bb G))] [(.int (va0k53_46bb G)), (.int (va0k53_77b G))])) X21 (fun t k => XS.iloadN X21.here hx rfl (hb hby d3_70) rfl k) ?_
  refine OwnFin.step (g' := (mkF m 73 #[.val (.ref o0), .val (.int (va0k53_77b G)), .val (.int (14 : Int32)), .val (.int (va0k53_46bb G))] [(.int (127 : Int32)), (.int (va0k53_46bb G)), (.int (va0k53_77b G))])) X21 (fun t k => XS.bipush X21.here hx rfl (hb hby d3_71) k) ?_
  refine OwnFin.step (g' := (mkF m 74 #[.val (.ref o0), .val (.int (va0k53_77b G)), .val (.int (14 : Int32)), .val (.int (va0k53_46bb G))] [(.int ((va0k53_46bb G) &&& (127 : Int32))), (.int (va0k53_77b G))])) X21 (fun t k => XS.iand X21.here hx rfl (hb hby d3_73) rfl k) ?_
  refine OwnFin.step (g' := (mkF m 75 #[.val (.ref o0), .val (.int (va0k53_77b G)), .val (.int (14 : Int32)), .val (.int (va0k53_46bb G))] [(.int (14 : Int32)), (.int ((va0k53_46bb G) &&& (127 : Int32))), (.int (va0k53_77b G))])) X21 (fun t k => XS.iloadN X21.here hx rfl (hb hby d3_74) rfl k) ?_
  refine OwnFin.step (g' := (mkF m 76 #[.val (.ref o0), .val (.int (va0k53_77b G)), .val (.int (14 : Int32)), .val (.int (va0k53_46bb G))] [(.int (((va0k53_46bb G) &&& (127 : Int32)) <<< ((14 : Int32) &&& 31))), (.int (va0k53_77b G))])) X21 (fun t k => XT.ishl X21.here hx rfl (hb hby d3_75) rfl k) ?_
  refine OwnFin.step (g' := (mkF m 77 #[.val (.ref o0), .val (.int (va0k53_77b G)), .val (.int (14 : Int32)), .val (.int (va0k53_46bb G))] [(.int ((va0k53_77b G) ||| (((va0k53_46bb G) &&& (127 : Int32)) <<< ((14 : Int32) &&& 31))))])) X21 (fun t k => XT.ior X21.here hx rfl (hb hby d3_76) rfl k) ?_
  refine OwnFin.step (g' := (mkF m 78 #[.val (.ref o0), .val (.int (va0k53_77bb G)), .val (.int (14 : Int32)), .val (.int (va0k53_46bb G))] [])) X21 (fun t k => XS.istoreN X21.here hx rfl (hb hby d3_77) rfl (l' := #[.val (.ref o0), .val (.int (va0k53_77bb G)), .val (.int (14 : Int32)), .val (.int (va0k53_46bb G))]) rfl k) ?_
  refine OwnFin.step (g' := (mkF m 79 #[.val (.ref o0), .val (.int (va0k53_77bb G)), .val (.int (14 : Int32)), .val (.int (va0k53_46bb G))] [(.int (va0k53_46bb G))])) X21 (fun t k => XS.iloadN X21.here hx rfl (hb hby d3_78) rfl k) ?_
  refine OwnFin.step (g' := (mkF m 82 #[.val (.ref o0), .val (.int (va0k53_77bb G)), .val (.int (14 : Int32)), .val (.int (va0k53_46bb G))] [(.int (128 : Int32)), (.int (va0k53_46bb G))])) X21 (fun t k => XS.sipush X21.here hx rfl (hb hby d3_79) k) ?_
  refine OwnFin.step (g' := (mkF m 87 #[.val (.ref o0), .val (.int (va0k53_77bb G)), .val (.int (14 : Int32)), .val (.int (va0k53_46bb G))] [])) X21 (fun t k => XS.icmpYes X21.here hx rfl (pc0 := 82) (pc' := 87) rfl (hb hby d3_82) rfl (flt (bra0k53_82zz G ln hln hb0 hb1 hb2 hb3 hb4)).2.1 (by decide) (by decide) k) ?_
  refine OwnFin.step (g' := (mkF m 90 #[.val (.ref o0), .val (.int (va0k53_77bb G)), .val (.int (21 : Int32)), .val (.int (va0k53_46bb G))] [])) X21 (fun t k => XS.iinc X21.here hx rfl (hb hby d3_87) rfl (l' := #[.val (.ref o0), .val (.int (va0k53_77bb G)), .val (.int (21 : Int32)), .val (.int (va0k53_46bb G))]) rfl k) ?_
  refine OwnFin.step (g' := (mkF m 4 #[.val (.ref o0), .val (.int (va0k53_77bb G)), .val (.int (21 : Int32)), .val (.int (va0k53_46bb G))] [])) X21 (fun t k => XS.goto X21.here hx rfl (pc0 := 90) (pc' := 4) rfl (hb hby d3_90) (by decide) (by decide) k) ?_
  refine OwnFin.step (g' := (mkF m 5 #[.val (.ref o0), .val (.int (va0k53_77bb G)), .val (.int (21 : Int32)), .val (.int (va0k53_46bb G))] [(.ref o0)])) X21 (fun t k => XS.aloadN X21.here hx rfl (hb hby d3_4) rfl rfl k) ?_
  obtain ⟨T25, X25, e25, st25⟩ := getF X21 hx hZ hown (host := "") (Or.inl (hw _ (wm 20 rfl))) Via.refl e21 F21 (g := (mkF m 5 #[.val (.ref o0), .val (.int (va0k53_77bb G)), .val (.int (21 : Int32)), .val (.int (va0k53_46bb G))] [(.ref o0)])) rfl rfl (hb hby d3_5)
  refine OwnFin.step (g' := (mkF m 8 #[.val (.ref o0), .val (.int (va0k53_77bb G)), .val (.int (21 : Int32)), .val (.int (va0k53_46bb G))] [(.int (3 : Int32))])) X25 (fun t k => st25 _ k) ?_
  refine OwnFin.step (g' := (mkF m 9 #[.val (.ref o0), .val (.int (va0k53_77bb G)), .val (.int (21 : Int32)), .val (.int (va0k53_46bb G))] [(.ref o0), (.int (3 : Int32))])) X25 (fun t k => XS.aloadN X25.here hx rfl (hb hby d3_8) rfl rfl k) ?_
  obtain ⟨T26, X26, e26, st26⟩ := getF X25 hx hZ hown (host := "") (Or.inl (hw _ (wm 13 rfl))) Via.refl e25 F22 (g := (mkF m 9 #[.val (.ref o0), .val (.int (va0k53_77bb G)), .val (.int (21 : Int32)), .val (.int (va0k53_46bb G))] [(.ref o0), (.int (3 : Int32))])) rfl rfl (hb hby d3_9)
  refine OwnFin.step (g' := (mkF m 12 #[.val (.ref o0), .val (.int (va0k53_77bb G)), .val (.int (21 : Int32)), .val (.int (va0k53_46bb G))] [(.ref w_record), (.int (3 : Int32))])) X26 (fun t k => st26 _ k) ?_
  refine OwnFin.step (g' := (mkF m 13 #[.val (.ref o0), .val (.int (va0k53_77bb G)), .val (.int (21 : Int32)), .val (.int (va0k53_46bb G))] [(.int (ln).toInt32), (.int (3 : Int32))])) X26 (fun t k => own_len X26 hx hZ e26 A24 (g := (mkF m 12 #[.val (.ref o0), .val (.int (va0k53_77bb G)), .val (.int (21 : Int32)), .val (.int (va0k53_46bb G))] [(.ref w_record), (.int (3 : Int32))])) rfl rfl (hb hby d3_12) _ k) ?_
  refine OwnFin.step (g' := (mkF m 26 #[.val (.ref o0), .val (.int (va0k53_77bb G)), .val (.int (21 : Int32)), .val (.int (va0k53_46bb G))] [])) X26 (fun t k => XS.icmpYes X26.here hx rfl (pc0 := 13) (pc' := 26) rfl (hb hby d3_13) rfl (feq (bra0k53_13zzz ln G hln hb0 hb1 hb2 hb3 hb4)).2 (by decide) (by decide) k) ?_
  refine OwnFin.step (g' := (mkF m 27 #[.val (.ref o0), .val (.int (va0k53_77bb G)), .val (.int (21 : Int32)), .val (.int (va0k53_46bb G))] [(.ref o0)])) X26 (fun t k => XS.aloadN X26.here hx rfl (hb hby d3_26) rfl rfl k) ?_
  obtain ⟨T27, X27, e27, st27⟩ := getF X26 hx hZ hown (host := "") (Or.inl (hw _ (wm 13 rfl))) Via.refl e26 F22 (g := (mkF m 27 #[.val (.ref o0), .val (.int (va0k53_77bb G)), .val (.int (21 : Int32)), .val (.int (va0k53_46bb G))] [(.ref o0)])) rfl rfl (hb hby d3_27)
  refine OwnFin.step (g' := (mkF m 30 #[.val (.ref o0), .val (.int (va0k53_77bb G)), .val (.int (21 : Int32)), .val (.int (va0k53_46bb G))] [(.ref w_record)])) X27 (fun t k => st27 _ k) ?_
  refine OwnFin.step (g' := (mkF m 31 #[.val (.ref o0), .val (.int (va0k53_77bb G)), .val (.int (21 : Int32)), .val (.int (va0k53_46bb G))] [(.ref o0), (.ref w_record)])) X27 (fun t k => XS.aloadN X27.here hx rfl (hb hby d3_30) rfl rfl k) ?_
  refine OwnFin.step (g' := (mkF m 32 #[.val (.ref o0), .val (.int (va0k53_77bb G)), .val (.int (21 : Int32)), .val (.int (va0k53_46bb G))] [(.ref o0), (.ref o0), (.ref w_record)])) X27 (fun t k => XS.dup X27.here hx rfl (hb hby d3_31) rfl rfl k) ?_
  obtain ⟨T28, X28, e28, st28⟩ := getF X27 hx hZ hown (host := "") (Or.inl (hw _ (wm 20 rfl))) Via.refl e27 F21 (g := (mkF m 32 #[.val (.ref o0), .val (.int (va0k53_77bb G)), .val (.int (21 : Int32)), .val (.int (va0k53_46bb G))] [(.ref o0), (.ref o0), (.ref w_record)])) rfl rfl (hb hby d3_32)
  refine OwnFin.step (g' := (mkF m 35 #[.val (.ref o0), .val (.int (va0k53_77bb G)), .val (.int (21 : Int32)), .val (.int (va0k53_46bb G))] [(.int (3 : Int32)), (.ref o0), (.ref w_record)])) X28 (fun t k => st28 _ k) ?_
  refine OwnFin.step (g' := (mkF m 36 #[.val (.ref o0), .val (.int (va0k53_77bb G)), .val (.int (21 : Int32)), .val (.int (va0k53_46bb G))] [(.int (3 : Int32)), (.ref o0), (.int (3 : Int32)), (.ref w_record)])) X28 (fun t k => XT.dupX1 X28.here hx rfl (hb hby d3_35) rfl rfl rfl k) ?_
  refine OwnFin.step (g' := (mkF m 37 #[.val (.ref o0), .val (.int (va0k53_77bb G)), .val (.int (21 : Int32)), .val (.int (va0k53_46bb G))] [(.int (1 : Int32)), (.int (3 : Int32)), (.ref o0), (.int (3 : Int32)), (.ref w_record)])) X28 (fun t k => XS.iconst X28.here hx rfl (hb hby d3_36) k) ?_
  refine OwnFin.step (g' := (mkF m 38 #[.val (.ref o0), .val (.int (va0k53_77bb G)), .val (.int (21 : Int32)), .val (.int (va0k53_46bb G))] [(.int (4 : Int32)), (.ref o0), (.int (3 : Int32)), (.ref w_record)])) X28 (fun t k => XS.iadd X28.here hx rfl (hb hby d3_37) rfl k) ?_
  obtain ⟨T29, h29, L29, X29, e29, N29, W29, F29, st29⟩ := own_putF X28 hx hZ hown (hw _ (wm 20 rfl)) e28 N21 F21 E23 g_o0 (Or.inl (hw _ (wm 21 rfl))) (hw _ (wm 5 rfl)) (fty := .int) (by decide) rfl rfl (g := (mkF m 38 #[.val (.ref o0), .val (.int (va0k53_77bb G)), .val (.int (21 : Int32)), .val (.int (va0k53_46bb G))] [(.int (4 : Int32)), (.ref o0), (.int (3 : Int32)), (.ref w_record)])) rfl rfl (hb hby d3_38)
  have K29 := Keep.of_wr W29
  have Z29 := Nat.le_trans Z21 K29.1
  have S29 := Nat.le_trans S21 K29.1
  have F30 := Fld.other W29 F22 (Or.inr (slot_ne (Or.inr (hw _ (wm 14 rfl))) (Or.inl (hw _ (wm 21 rfl))) (by decide) (t := (.array .byte)) (t' := .int) (by decide) (by decide)))
  have E31 := Exa.wr W29 E23
  refine OwnFin.step (g' := (mkF m 41 #[.val (.ref o0), .val (.int (va0k53_77bb G)), .val (.int (21 : Int32)), .val (.int (va0k53_46bb G))] [(.int (3 : Int32)), (.ref w_record)])) X29 (fun t k => st29 _ k) ?_
  have A32 := (A24.keep K29 (ninS (Ne.symm ne_o0__w_record) nin0))
  refine OwnFin.step (g' := (mkF m 42 #[.val (.ref o0), .val (.int (va0k53_77bb G)), .val (.int (21 : Int32)), .val (.int (va0k53_46bb G))] [(.int (G ((3 : Int32)).toNatClampNeg))])) X29 (fun t k => own_ldB X29 hx hZ e29 A32 (iba0k53_41zzz ln G hln hb0 hb1 hb2 hb3 hb4) rfl (g := (mkF m 41 #[.val (.ref o0), .val (.int (va0k53_77bb G)), .val (.int (21 : Int32)), .val (.int (va0k53_46bb G))] [(.int (3 : Int32)), (.ref w_record)])) rfl rfl (hb hby d3_41) _ k) ?_
  refine OwnFin.step (g' := (mkF m 45 #[.val (.ref o0), .val (.int (va0k53_77bb G)), .val (.int (21 : Int32)), .val (.int (va0k53_46bb G))] [(.int (255 : Int32)), (.int (G ((3 : Int32)).toNatClampNeg))])) X29 (fun t k => XS.sipush X29.here hx rfl (hb hby d3_42) k) ?_
  refine OwnFin.step (g' := (mkF m 46 #[.val (.ref o0), .val (.int (va0k53_77bb G)), .val (.int (21 : Int32)), .val (.int (va0k53_46bb G))] [(.int ((G ((3 : Int32)).toNatClampNeg) &&& (255 : Int32)))])) X29 (fun t k => XS.iand X29.here hx rfl (hb hby d3_45) rfl k) ?_
  refine OwnFin.step (g' := (mkF m 47 #[.val (.ref o0), .val (.int (va0k53_77bb G)), .val (.int (21 : Int32)), .val (.int (va0k53_46bbb G))] [])) X29 (fun t k => XS.istoreN X29.here hx rfl (hb hby d3_46) rfl (l' := #[.val (.ref o0), .val (.int (va0k53_77bb G)), .val (.int (21 : Int32)), .val (.int (va0k53_46bbb G))]) rfl k) ?_
  refine OwnFin.step (g' := (mkF m 48 #[.val (.ref o0), .val (.int (va0k53_77bb G)), .val (.int (21 : Int32)), .val (.int (va0k53_46bbb G))] [(.int (21 : Int32))])) X29 (fun t k => XS.iloadN X29.here hx rfl (hb hby d3_47) rfl k) ?_
  refine OwnFin.step (g' := (mkF m 50 #[.val (.ref o0), .val (.int (va0k53_77bb G)), .val (.int (21 : Int32)), .val (.int (va0k53_46bbb G))] [(.int (28 : Int32)), (.int (21 : Int32))])) X29 (fun t k => XS.bipush X29.here hx rfl (hb hby d3_48) k) ?_
  refine OwnFin.step (g' := (mkF m 69 #[.val (.ref o0), .val (.int (va0k53_77bb G)), .val (.int (21 : Int32)), .val (.int (va0k53_46bbb G))] [])) X29 (fun t k => XS.icmpYes X29.here hx rfl (pc0 := 50) (pc' := 69) rfl (hb hby d3_50) rfl (feq (show ¬ ((21 : Int32) = (28 : Int32)) by first | decide | exact Int32.lt_irrefl _ | exact Int64.lt_irrefl _)).2 (by decide) (by decide) k) ?_
  refine OwnFin.step (g' := (mkF m 70 #[.val (.ref o0), .val (.int (va0k53_77bb G)), .val (.int (21 : Int32)), .val (.int (va0k53_46bbb G))] [(.int (va0k53_77bb G))])) X29 (fun t k => XS.iloadN X29.here hx rfl (hb hby d3_69) rfl k) ?_
  refine OwnFin.step (g' := (mkF m 71 #[.val (.ref o0), .val (.int (va0k53_77bb G)), .val (.int (21 : Int32)), .val (.int (va0k53_46bbb G))] [(.int (va0k53_46bbb G)), (.int (va0k53_77bb G))])) X29 (fun t k => XS.iloadN X29.here hx rfl (hb hby d3_70) rfl k) ?_
  refine OwnFin.step (g' := (mkF m 73 #[.val (.ref o0), .val (.int (va0k53_77bb G)), .val (.int (21 : Int32)), .val (.int (va0k53_46bbb G))] [(.int (127 : Int32)), (.int (va0k53_46bbb G)), (.int (va0k53_77bb G))])) X29 (fun t k => XS.bipush X29.here hx rfl (hb hby d3_71) k) ?_
  refine OwnFin.step (g' := (mkF m 74 #[.val (.ref o0), .val (.int (va0k53_77bb G)), .val (.int (21 : Int32)), .val (.int (va0k53_46bbb G))] [(.int ((va0k53_46bbb G) &&& (127 : Int32))), (.int (va0k53_77bb G))])) X29 (fun t k => XS.iand X29.here hx rfl (hb hby d3_73) rfl k) ?_
  refine OwnFin.step (g' := (mkF m 75 #[.val (.ref o0), .val (.int (va0k53_77bb G)), .val (.int (21 : Int32)), .val (.int (va0k53_46bbb G))] [(.int (21 : Int32)), (.int ((va0k53_46bbb G) &&& (127 : Int32))), (.int (va0k53_77bb G))])) X29 (fun t k => XS.iloadN X29.here hx rfl (hb hby d3_74) rfl k) ?_
  refine OwnFin.step (g' := (mkF m 76 #[.val (.ref o0), .val (.int (va0k53_77bb G)), .val (.int (21 : Int32)), .val (.int (va0k53_46bbb G))] [(.int (((va0k53_46bbb G) &&& (127 : Int32)) <<< ((21 : Int32) &&& 31))), (.int (va0k53_77bb G))])) X29 (fun t k => XT.ishl X29.here hx rfl (hb hby d3_75) rfl k) ?_
  refine OwnFin.step (g' := (mkF m 77 #[.val (.ref o0), .val (.int (va0k53_77bb G)), .val (.int (21 : Int32)), .val (.int (va0k53_46bbb G))] [(.int ((va0k53_77bb G) ||| (((va0k53_46bbb G) &&& (127 : Int32)) <<< ((21 : Int32) &&& 31))))])) X29 (fun t k => XT.ior X29.here hx rfl (hb hby d3_76) rfl k) ?_
  refine OwnFin.step (g' := (mkF m 78 #[.val (.ref o0), .val (.int (va0k53_77bbb G)), .val (.int (21 : Int32)), .val (.int (va0k53_46bbb G))] [])) X29 (fun t k => XS.istoreN X29.here hx rfl (hb hby d3_77) rfl (l' := #[.val (.ref o0), .val (.int (va0k53_77bbb G)), .val (.int (21 : Int32)), .val (.int (va0k53_46bbb G))]) rfl k) ?_
  refine OwnFin.step (g' := (mkF m 79 #[.val (.ref o0), .val (.int (va0k53_77bbb G)), .val (.int (21 : Int32)), .val (.int (va0k53_46bbb G))] [(.int (va0k53_46bbb G))])) X29 (fun t k => XS.iloadN X29.here hx rfl (hb hby d3_78) rfl k) ?_
  refine OwnFin.step (g' := (mkF m 82 #[.val (.ref o0), .val (.int (va0k53_77bbb G)), .val (.int (21 : Int32)), .val (.int (va0k53_46bbb G))] [(.int (128 : Int32)), (.int (va0k53_46bbb G))])) X29 (fun t k => XS.sipush X29.here hx rfl (hb hby d3_79) k) ?_
  refine OwnFin.step (g' := (mkF m 87 #[.val (.ref o0), .val (.int (va0k53_77bbb G)), .val (.int (21 : Int32)), .val (.int (va0k53_46bbb G))] [])) X29 (fun t k => XS.icmpYes X29.here hx rfl (pc0 := 82) (pc' := 87) rfl (hb hby d3_82) rfl (flt (bra0k53_82zzz G ln hln hb0 hb1 hb2 hb3 hb4)).2.1 (by decide) (by decide) k) ?_
  refine OwnFin.step (g' := (mkF m 90 #[.val (.ref o0), .val (.int (va0k53_77bbb G)), .val (.int (28 : Int32)), .val (.int (va0k53_46bbb G))] [])) X29 (fun t k => XS.iinc X29.here hx rfl (hb hby d3_87) rfl (l' := #[.val (.ref o0), .val (.int (va0k53_77bbb G)), .val (.int (28 : Int32)), .val (.int (va0k53_46bbb G))]) rfl k) ?_
  refine OwnFin.step (g' := (mkF m 4 #[.val (.ref o0), .val (.int (va0k53_77bbb G)), .val (.int (28 : Int32)), .val (.int (va0k53_46bbb G))] [])) X29 (fun t k => XS.goto X29.here hx rfl (pc0 := 90) (pc' := 4) rfl (hb hby d3_90) (by decide) (by decide) k) ?_
  refine OwnFin.step (g' := (mkF m 5 #[.val (.ref o0), .val (.int (va0k53_77bbb G)), .val (.int (28 : Int32)), .val (.int (va0k53_46bbb G))] [(.ref o0)])) X29 (fun t k => XS.aloadN X29.here hx rfl (hb hby d3_4) rfl rfl k) ?_
  obtain ⟨T33, X33, e33, st33⟩ := getF X29 hx hZ hown (host := "") (Or.inl (hw _ (wm 20 rfl))) Via.refl e29 F29 (g := (mkF m 5 #[.val (.ref o0), .val (.int (va0k53_77bbb G)), .val (.int (28 : Int32)), .val (.int (va0k53_46bbb G))] [(.ref o0)])) rfl rfl (hb hby d3_5)
  refine OwnFin.step (g' := (mkF m 8 #[.val (.ref o0), .val (.int (va0k53_77bbb G)), .val (.int (28 : Int32)), .val (.int (va0k53_46bbb G))] [(.int (4 : Int32))])) X33 (fun t k => st33 _ k) ?_
  refine OwnFin.step (g' := (mkF m 9 #[.val (.ref o0), .val (.int (va0k53_77bbb G)), .val (.int (28 : Int32)), .val (.int (va0k53_46bbb G))] [(.ref o0), (.int (4 : Int32))])) X33 (fun t k => XS.aloadN X33.here hx rfl (hb hby d3_8) rfl rfl k) ?_
  obtain ⟨T34, X34, e34, st34⟩ := getF X33 hx hZ hown (host := "") (Or.inl (hw _ (wm 13 rfl))) Via.refl e33 F30 (g := (mkF m 9 #[.val (.ref o0), .val (.int (va0k53_77bbb G)), .val (.int (28 : Int32)), .val (.int (va0k53_46bbb G))] [(.ref o0), (.int (4 : Int32))])) rfl rfl (hb hby d3_9)
  refine OwnFin.step (g' := (mkF m 12 #[.val (.ref o0), .val (.int (va0k53_77bbb G)), .val (.int (28 : Int32)), .val (.int (va0k53_46bbb G))] [(.ref w_record), (.int (4 : Int32))])) X34 (fun t k => st34 _ k) ?_
  refine OwnFin.step (g' := (mkF m 13 #[.val (.ref o0), .val (.int (va0k53_77bbb G)), .val (.int (28 : Int32)), .val (.int (va0k53_46bbb G))] [(.int (ln).toInt32), (.int (4 : Int32))])) X34 (fun t k => own_len X34 hx hZ e34 A32 (g := (mkF m 12 #[.val (.ref o0), .val (.int (va0k53_77bbb G)), .val (.int (28 : Int32)), .val (.int (va0k53_46bbb G))] [(.ref w_record), (.int (4 : Int32))])) rfl rfl (hb hby d3_12) _ k) ?_
  refine OwnFin.step (g' := (mkF m 26 #[.val (.ref o0), .val (.int (va0k53_77bbb G)), .val (.int (28 : Int32)), .val (.int (va0k53_46bbb G))] [])) X34 (fun t k => XS.icmpYes X34.here hx rfl (pc0 := 13) (pc' := 26) rfl (hb hby d3_13) rfl (feq (bra0k53_13zzzz ln G hln hb0 hb1 hb2 hb3 hb4)).2 (by decide) (by decide) k) ?_
  refine OwnFin.step (g' := (mkF m 27 #[.val (.ref o0), .val (.int (va0k53_77bbb G)), .val (.int (28 : Int32)), .val (.int (va0k53_46bbb G))] [(.ref o0)])) X34 (fun t k => XS.aloadN X34.here hx rfl (hb hby d3_26) rfl rfl k) ?_
  obtain ⟨T35, X35, e35, st35⟩ := getF X34 hx hZ hown (host := "") (Or.inl (hw _ (wm 13 rfl))) Via.refl e34 F30 (g := (mkF m 27 #[.val (.ref o0), .val (.int (va0k53_77bbb G)), .val (.int (28 : Int32)), .val (.int (va0k53_46bbb G))] [(.ref o0)])) rfl rfl (hb hby d3_27)
  refine OwnFin.step (g' := (mkF m 30 #[.val (.ref o0), .val (.int (va0k53_77bbb G)), .val (.int (28 : Int32)), .val (.int (va0k53_46bbb G))] [(.ref w_record)])) X35 (fun t k => st35 _ k) ?_
  refine OwnFin.step (g' := (mkF m 31 #[.val (.ref o0), .val (.int (va0k53_77bbb G)), .val (.int (28 : Int32)), .val (.int (va0k53_46bbb G))] [(.ref o0), (.ref w_record)])) X35 (fun t k => XS.aloadN X35.here hx rfl (hb hby d3_30) rfl rfl k) ?_
  refine OwnFin.step (g' := (mkF m 32 #[.val (.ref o0), .val (.int (va0k53_77bbb G)), .val (.int (28 : Int32)), .val (.int (va0k53_46bbb G))] [(.ref o0), (.ref o0), (.ref w_record)])) X35 (fun t k => XS.dup X35.here hx rfl (hb hby d3_31) rfl rfl k) ?_
  obtain ⟨T36, X36, e36, st36⟩ := getF X35 hx hZ hown (host := "") (Or.inl (hw _ (wm 20 rfl))) Via.refl e35 F29 (g := (mkF m 32 #[.val (.ref o0), .val (.int (va0k53_77bbb G)), .val (.int (28 : Int32)), .val (.int (va0k53_46bbb G))] [(.ref o0), (.ref o0), (.ref w_record)])) rfl rfl (hb hby d3_32)
  refine OwnFin.step (g' := (mkF m 35 #[.val (.ref o0), .val (.int (va0k53_77bbb G)), .val (.int (28 : Int32)), .val (.int (va0k53_46bbb G))] [(.int (4 : Int32)), (.ref o0), (.ref w_record)])) X36 (fun t k => st36 _ k) ?_
  refine OwnFin.step (g' := (mkF m 36 #[.val (.ref o0), .val (.int (va0k53_77bbb G)), .val (.int (28 : Int32)), .val (.int (va0k53_46bbb G))] [(.int (4 : Int32)), (.ref o0), (.int (4 : Int32)), (.ref w_record)])) X36 (fun t k => XT.dupX1 X36.here hx rfl (hb hby d3_35) rfl rfl rfl k) ?_
  refine OwnFin.step (g' := (mkF m 37 #[.val (.ref o0), .val (.int (va0k53_77bbb G)), .val (.int (28 : Int32)), .val (.int (va0k53_46bbb G))] [(.int (1 : Int32)), (.int (4 : Int32)), (.ref o0), (.int (4 : Int32)), (.ref w_record)])) X36 (fun t k => XS.iconst X36.here hx rfl (hb hby d3_36) k) ?_
  refine OwnFin.step (g' := (mkF m 38 #[.val (.ref o0), .val (.int (va0k53_77bbb G)), .val (.int (28 : Int32)), .val (.int (va0k53_46bbb G))] [(.int (5 : Int32)), (.ref o0), (.int (4 : Int32)), (.ref w_record)])) X36 (fun t k => XS.iadd X36.here hx rfl (hb hby d3_37) rfl k) ?_
  obtain ⟨T37, h37, L37, X37, e37, N37, W37, F37, st37⟩ := own_putF X36 hx hZ hown (hw _ (wm 20 rfl)) e36 N29 F29 E31 g_o0 (Or.inl (hw _ (wm 21 rfl))) (hw _ (wm 5 rfl)) (fty := .int) (by decide) rfl rfl (g := (mkF m 38 #[.val (.ref o0), .val (.int (va0k53_77bbb G)), .val (.int (28 : Int32)), .val (.int (va0k53_46bbb G))] [(.int (5 : Int32)), (.ref o0), (.int (4 : Int32)), (.ref w_record)])) rfl rfl (hb hby d3_38)
  have K37 := Keep.of_wr W37
  have Z37 := Nat.le_trans Z29 K37.1
  have S37 := Nat.le_trans S29 K37.1
  have F38 := Fld.other W37 F30 (Or.inr (slot_ne (Or.inr (hw _ (wm 14 rfl))) (Or.inl (hw _ (wm 21 rfl))) (by decide) (t := (.array .byte)) (t' := .int) (by decide) (by decide)))
  have E39 := Exa.wr W37 E31
  refine OwnFin.step (g' := (mkF m 41 #[.val (.ref o0), .val (.int (va0k53_77bbb G)), .val (.int (28 : Int32)), .val (.int (va0k53_46bbb G))] [(.int (4 : Int32)), (.ref w_record)])) X37 (fun t k => st37 _ k) ?_
  have A40 := (A32.keep K37 (ninS (Ne.symm ne_o0__w_record) nin0))
  refine OwnFin.step (g' := (mkF m 42 #[.val (.ref o0), .val (.int (va0k53_77bbb G)), .val (.int (28 : Int32)), .val (.int (va0k53_46bbb G))] [(.int (G ((4 : Int32)).toNatClampNeg))])) X37 (fun t k => own_ldB X37 hx hZ e37 A40 (iba0k53_41zzzz ln G hln hb0 hb1 hb2 hb3 hb4) rfl (g := (mkF m 41 #[.val (.ref o0), .val (.int (va0k53_77bbb G)), .val (.int (28 : Int32)), .val (.int (va0k53_46bbb G))] [(.int (4 : Int32)), (.ref w_record)])) rfl rfl (hb hby d3_41) _ k) ?_
  refine OwnFin.step (g' := (mkF m 45 #[.val (.ref o0), .val (.int (va0k53_77bbb G)), .val (.int (28 : Int32)), .val (.int (va0k53_46bbb G))] [(.int (255 : Int32)), (.int (G ((4 : Int32)).toNatClampNeg))])) X37 (fun t k => XS.sipush X37.here hx rfl (hb hby d3_42) k) ?_
  refine OwnFin.step (g' := (mkF m 46 #[.val (.ref o0), .val (.int (va0k53_77bbb G)), .val (.int (28 : Int32)), .val (.int (va0k53_46bbb G))] [(.int ((G ((4 : Int32)).toNatClampNeg) &&& (255 : Int32)))])) X37 (fun t k => XS.iand X37.here hx rfl (hb hby d3_45) rfl k) ?_
  refine OwnFin.step (g' := (mkF m 47 #[.val (.ref o0), .val (.int (va0k53_77bbb G)), .val (.int (28 : Int32)), .val (.int (va0k53_46bbbb G))] [])) X37 (fun t k => XS.istoreN X37.here hx rfl (hb hby d3_46) rfl (l' := #[.val (.ref o0), .val (.int (va0k53_77bbb G)), .val (.int (28 : Int32)), .val (.int (va0k53_46bbbb G))]) rfl k) ?_
  refine OwnFin.step (g' := (mkF m 48 #[.val (.ref o0), .val (.int (va0k53_77bbb G)), .val (.int (28 : Int32)), .val (.int (va0k53_46bbbb G))] [(.int (28 : Int32))])) X37 (fun t k => XS.iloadN X37.here hx rfl (hb hby d3_47) rfl k) ?_
  refine OwnFin.step (g' := (mkF m 50 #[.val (.ref o0), .val (.int (va0k53_77bbb G)), .val (.int (28 : Int32)), .val (.int (va0k53_46bbbb G))] [(.int (28 : Int32)), (.int (28 : Int32))])) X37 (fun t k => XS.bipush X37.here hx rfl (hb hby d3_48) k) ?_
  refine OwnFin.step (g' := (mkF m 53 #[.val (.ref o0), .val (.int (va0k53_77bbb G)), .val (.int (28 : Int32)), .val (.int (va0k53_46bbbb G))] [])) X37 (fun t k => XS.icmpNo X37.here hx rfl (hb hby d3_50) rfl (teq (show (28 : Int32) = (28 : Int32) by first | rfl | decide)).2 k) ?_
  refine OwnFin.step (g' := (mkF m 54 #[.val (.ref o0), .val (.int (va0k53_77bbb G)), .val (.int (28 : Int32)), .val (.int (va0k53_46bbbb G))] [(.int (va0k53_46bbbb G))])) X37 (fun t k => XS.iloadN X37.here hx rfl (hb hby d3_53) rfl k) ?_
  refine OwnFin.step (g' := (mkF m 56 #[.val (.ref o0), .val (.int (va0k53_77bbb G)), .val (.int (28 : Int32)), .val (.int (va0k53_46bbbb G))] [(.int (7 : Int32)), (.int (va0k53_46bbbb G))])) X37 (fun t k => XS.bipush X37.here hx rfl (hb hby d3_54) k) ?_
  refine OwnFin.step (g' := (mkF m 69 #[.val (.ref o0), .val (.int (va0k53_77bbb G)), .val (.int (28 : Int32)), .val (.int (va0k53_46bbbb G))] [])) X37 (fun t k => XS.icmpYes X37.here hx rfl (pc0 := 56) (pc' := 69) rfl (hb hby d3_56) rfl (flt (bra0k53_56 G ln hln hb0 hb1 hb2 hb3 hb4)).2.2.2 (by decide) (by decide) k) ?_
  refine OwnFin.step (g' := (mkF m 70 #[.val (.ref o0), .val (.int (va0k53_77bbb G)), .val (.int (28 : Int32)), .val (.int (va0k53_46bbbb G))] [(.int (va0k53_77bbb G))])) X37 (fun t k => XS.iloadN X37.here hx rfl (hb hby d3_69) rfl k) ?_
  refine OwnFin.step (g' := (mkF m 71 #[.val (.ref o0), .val (.int (va0k53_77bbb G)), .val (.int (28 : Int32)), .val (.int (va0k53_46bbbb G))] [(.int (va0k53_46bbbb G)), (.int (va0k53_77bbb G))])) X37 (fun t k => XS.iloadN X37.here hx rfl (hb hby d3_70) rfl k) ?_
  refine OwnFin.step (g' := (mkF m 73 #[.val (.ref o0), .val (.int (va0k53_77bbb G)), .val (.int (28 : Int32)), .val (.int (va0k53_46bbbb G))] [(.int (127 : Int32)), (.int (va0k53_46bbbb G)), (.int (va0k53_77bbb G))])) X37 (fun t k => XS.bipush X37.here hx rfl (hb hby d3_71) k) ?_
  refine OwnFin.step (g' := (mkF m 74 #[.val (.ref o0), .val (.int (va0k53_77bbb G)), .val (.int (28 : Int32)), .val (.int (va0k53_46bbbb G))] [(.int ((va0k53_46bbbb G) &&& (127 : Int32))), (.int (va0k53_77bbb G))])) X37 (fun t k => XS.iand X37.here hx rfl (hb hby d3_73) rfl k) ?_
  refine OwnFin.step (g' := (mkF m 75 #[.val (.ref o0), .val (.int (va0k53_77bbb G)), .val (.int (28 : Int32)), .val (.int (va0k53_46bbbb G))] [(.int (28 : Int32)), (.int ((va0k53_46bbbb G) &&& (127 : Int32))), (.int (va0k53_77bbb G))])) X37 (fun t k => XS.iloadN X37.here hx rfl (hb hby d3_74) rfl k) ?_
  refine OwnFin.step (g' := (mkF m 76 #[.val (.ref o0), .val (.int (va0k53_77bbb G)), .val (.int (28 : Int32)), .val (.int (va0k53_46bbbb G))] [(.int (((va0k53_46bbbb G) &&& (127 : Int32)) <<< ((28 : Int32) &&& 31))), (.int (va0k53_77bbb G))])) X37 (fun t k => XT.ishl X37.here hx rfl (hb hby d3_75) rfl k) ?_
  refine OwnFin.step (g' := (mkF m 77 #[.val (.ref o0), .val (.int (va0k53_77bbb G)), .val (.int (28 : Int32)), .val (.int (va0k53_46bbbb G))] [(.int ((va0k53_77bbb G) ||| (((va0k53_46bbbb G) &&& (127 : Int32)) <<< ((28 : Int32) &&& 31))))])) X37 (fun t k => XT.ior X37.here hx rfl (hb hby d3_76) rfl k) ?_
  refine OwnFin.step (g' := (mkF m 78 #[.val (.ref o0), .val (.int (va0k53_77bbbb G)), .val (.int (28 : Int32)), .val (.int (va0k53_46bbbb G))] [])) X37 (fun t k => XS.istoreN X37.here hx rfl (hb hby d3_77) rfl (l' := #[.val (.ref o0), .val (.int (va0k53_77bbbb G)), .val (.int (28 : Int32)), .val (.int (va0k53_46bbbb G))]) rfl k) ?_
  refine OwnFin.step (g' := (mkF m 79 #[.val (.ref o0), .val (.int (va0k53_77bbbb G)), .val (.int (28 : Int32)), .val (.int (va0k53_46bbbb G))] [(.int (va0k53_46bbbb G))])) X37 (fun t k => XS.iloadN X37.here hx rfl (hb hby d3_78) rfl k) ?_
  refine OwnFin.step (g' := (mkF m 82 #[.val (.ref o0), .val (.int (va0k53_77bbbb G)), .val (.int (28 : Int32)), .val (.int (va0k53_46bbbb G))] [(.int (128 : Int32)), (.int (va0k53_46bbbb G))])) X37 (fun t k => XS.sipush X37.here hx rfl (hb hby d3_79) k) ?_
  refine OwnFin.step (g' := (mkF m 85 #[.val (.ref o0), .val (.int (va0k53_77bbbb G)), .val (.int (28 : Int32)), .val (.int (va0k53_46bbbb G))] [])) X37 (fun t k => XS.icmpNo X37.here hx rfl (hb hby d3_82) rfl (tlt (bra0k53_82zzzz G ln hln hb0 hb1 hb2 hb3 hb4)).2.1 k) ?_
  refine OwnFin.step (g' := (mkF m 86 #[.val (.ref o0), .val (.int (va0k53_77bbbb G)), .val (.int (28 : Int32)), .val (.int (va0k53_46bbbb G))] [(.int (va0k53_77bbbb G))])) X37 (fun t k => XS.iloadN X37.here hx rfl (hb hby d3_85) rfl k) ?_
  refine OwnFin.retInt X37 (hb hby d3_86) (by decide) (by decide) ?_
  rw [e37]
  exact ⟨rfl, N37, (Keep.trans (Keep.trans (Keep.trans (Keep.trans (Keep.trans (Keep.refl h0 [o0]) K5 (allS (Or.inl (wm 0 rfl)) all0)) K13 (allS (Or.inl (wm 0 rfl)) all0)) K21 (allS (Or.inl (wm 0 rfl)) all0)) K29 (allS (Or.inl (wm 0 rfl)) all0)) K37 (allS (Or.inl (wm 0 rfl)) all0)), E39, F38, F37⟩
set_option maxRecDepth 65536 in
set_option maxHeartbeats 40000000 in
theorem rm3a0k5 (l : Launch) (Z : State) (a0 : Array Value) (hw : ∀ d ∈ tables_1, d.before a0 Z = true) (ws : List Jvm.Cond) (o0 : Addr) (ln : Nat) (G : Nat → Int32) (w_record : Addr) (h0 : Heap) (n0 : Nat) (Z0 : n0 ≤ h0.size) (E_o0 : Exa Z h0 o0 "com/example/faden/faden/rank/RecordReader") (g_o0 : n0 ≤ o0) (F_record_o0 : Fld Z h0 o0 "com/example/faden/faden/rank/RecordReader" "record" "[B" (.ref w_record)) (F_at_o0 : Fld Z h0 o0 "com/example/faden/faden/rank/RecordReader" "at" "I" (.int (0 : Int32))) (A_w_record : Ary Z h0 w_record .byte ln (fun i => .int (G i))) (ne_o0__w_record : o0 ≠ w_record) (hln : 5 ≤ ln ∧ ln < 100) (hb0 : 128 ≤ ((G 0) &&& 255).toInt) (hb1 : 128 ≤ ((G 1) &&& 255).toInt) (hb2 : 128 ≤ ((G 2) &&& 255).toInt) (hb3 : 128 ≤ ((G 3) &&& 255).toInt) (hb4 : ((G 4) &&& 255).toInt < 8) :
    MetFree l (⟨"com/example/faden/faden/rank/RecordReader", "number", "()I"⟩ : MethodName) (head1 (Jvm.Cond.code (⟨"com/example/faden/faden/rank/RecordReader", "number", "()I"⟩ : MethodName) prog_21_method_3_code 4 (some .int) :: ws) ({ frames := 0, cells := 0, slots := 0, locals := 0 } : Room)) (fun a U => a = #[(.ref o0)] ∧ Z.Warmed39 U.vm ∧ U.heap = h0) (fun _ _ _ _ _ => True) (fun _ U o U' => ∃ v L, o = .returned v ∧ (Q3a0k5 Z o0 ln G w_record h0 n0) v U'.heap L ∧ FrameEnd U o U' L ({ frames := 0, cells := 0, slots := 0, locals := 0 } : Room).cells ({ frames := 0, cells := 0, slots := 0, locals := 0 } : Room).slots) :=
  own_met (ret := (some .int)) (Q := (Q3a0k5 Z o0 ln G w_record h0 n0)) (plainFor_of_name pn_3) (fun m => ef_3 m o0) (fun p e s m below meth c s₁ X hx hby hml hown hnm hZ e0 => j3a0k5 X hx hZ hw hby hml hown hnm e0 (Fr.nil n0) Z0 o0 ln G w_record E_o0 g_o0 F_record_o0 F_at_o0 A_w_record ne_o0__w_record hln hb0 hb1 hb2 hb3 hb4)
theorem own_va0k53_77 (G : Nat → Int32) : (va0k53_77 G).toInt = ((G 0) &&& 255).toInt % 128 * 1 := by
  have m := Jvm.Kit.i32_mask (va0k53_46 G) 127 (k := 7) (by decide) (by decide)
  have e : (va0k53_46 G).toInt = ((G 0) &&& 255).toInt := by unfold va0k53_46; rw [own_c0]
  have u0 := Jvm.Kit.i32_mask (G 0) 255 (k := 8) (by decide) (by decide)
  have z0 : (0 : Int32).toInt = 0 := rfl
  have q := acc (a := (0 : Int32)) (g := (va0k53_46 G) &&& 127) (n := (0 : Int32) &&& 31) (k := 0) (by decide) (by omega) (by omega) (by omega) (by omega)
  unfold va0k53_77
  rw [q]; omega
theorem own_va0k53_77b (G : Nat → Int32) : (va0k53_77b G).toInt = ((G 0) &&& 255).toInt % 128 * 1 + ((G 1) &&& 255).toInt % 128 * 128 := by
  have m := Jvm.Kit.i32_mask (va0k53_46b G) 127 (k := 7) (by decide) (by decide)
  have e : (va0k53_46b G).toInt = ((G 1) &&& 255).toInt := by unfold va0k53_46b; rw [own_c1]
  have u0 := Jvm.Kit.i32_mask (G 0) 255 (k := 8) (by decide) (by decide)
  have u1 := Jvm.Kit.i32_mask (G 1) 255 (k := 8) (by decide) (by decide)
  have p := own_va0k53_77 G
  have z0 : (0 : Int32).toInt = 0 := rfl
  have q := acc (a := (va0k53_77 G)) (g := (va0k53_46b G) &&& 127) (n := (7 : Int32) &&& 31) (k := 7) (by decide) (by omega) (by omega) (by omega) (by omega)
  unfold va0k53_77b
  rw [q]; omega
theorem own_va0k53_77bb (G : Nat → Int32) : (va0k53_77bb G).toInt = ((G 0) &&& 255).toInt % 128 * 1 + ((G 1) &&& 255).toInt % 128 * 128 + ((G 2) &&& 255).toInt % 128 * 16384 := by
  have m := Jvm.Kit.i32_mask (va0k53_46bb G) 127 (k := 7) (by decide) (by decide)
  have e : (va0k53_46bb G).toInt = ((G 2) &&& 255).toInt := by unfold va0k53_46bb; rw [own_c2]
  have u0 := Jvm.Kit.i32_mask (G 0) 255 (k := 8) (by decide) (by decide)
  have u1 := Jvm.Kit.i32_mask (G 1) 255 (k := 8) (by decide) (by decide)
  have u2 := Jvm.Kit.i32_mask (G 2) 255 (k := 8) (by decide) (by decide)
  have p := own_va0k53_77b G
  have z0 : (0 : Int32).toInt = 0 := rfl
  have q := acc (a := (va0k53_77b G)) (g := (va0k53_46bb G) &&& 127) (n := (14 : Int32) &&& 31) (k := 14) (by decide) (by omega) (by omega) (by omega) (by omega)
  unfold va0k53_77bb
  rw [q]; omega
theorem own_va0k53_77bbb (G : Nat → Int32) : (va0k53_77bbb G).toInt = ((G 0) &&& 255).toInt % 128 * 1 + ((G 1) &&& 255).toInt % 128 * 128 + ((G 2) &&& 255).toInt % 128 * 16384 + ((G 3) &&& 255).toInt % 128 * 2097152 := by
  have m := Jvm.Kit.i32_mask (va0k53_46bbb G) 127 (k := 7) (by decide) (by decide)
  have e : (va0k53_46bbb G).toInt = ((G 3) &&& 255).toInt := by unfold va0k53_46bbb; rw [own_c3]
  have u0 := Jvm.Kit.i32_mask (G 0) 255 (k := 8) (by decide) (by decide)
  have u1 := Jvm.Kit.i32_mask (G 1) 255 (k := 8) (by decide) (by decide)
  have u2 := Jvm.Kit.i32_mask (G 2) 255 (k := 8) (by decide) (by decide)
  have u3 := Jvm.Kit.i32_mask (G 3) 255 (k := 8) (by decide) (by decide)
  have p := own_va0k53_77bb G
  have z0 : (0 : Int32).toInt = 0 := rfl
  have q := acc (a := (va0k53_77bb G)) (g := (va0k53_46bbb G) &&& 127) (n := (21 : Int32) &&& 31) (k := 21) (by decide) (by omega) (by omega) (by omega) (by omega)
  unfold va0k53_77bbb
  rw [q]; omega
theorem own_va0k53_77bbbb (G : Nat → Int32) (h4 : ((G 4) &&& 255).toInt < 8) : (va0k53_77bbbb G).toInt = ((G 0) &&& 255).toInt % 128 * 1 + ((G 1) &&& 255).toInt % 128 * 128 + ((G 2) &&& 255).toInt % 128 * 16384 + ((G 3) &&& 255).toInt % 128 * 2097152 + ((G 4) &&& 255).toInt % 128 * 268435456 := by
  have m := Jvm.Kit.i32_mask (va0k53_46bbbb G) 127 (k := 7) (by decide) (by decide)
  have e : (va0k53_46bbbb G).toInt = ((G 4) &&& 255).toInt := by unfold va0k53_46bbbb; rw [own_c4]
  have u0 := Jvm.Kit.i32_mask (G 0) 255 (k := 8) (by decide) (by decide)
  have u1 := Jvm.Kit.i32_mask (G 1) 255 (k := 8) (by decide) (by decide)
  have u2 := Jvm.Kit.i32_mask (G 2) 255 (k := 8) (by decide) (by decide)
  have u3 := Jvm.Kit.i32_mask (G 3) 255 (k := 8) (by decide) (by decide)
  have u4 := Jvm.Kit.i32_mask (G 4) 255 (k := 8) (by decide) (by decide)
  have p := own_va0k53_77bbb G
  have z0 : (0 : Int32).toInt = 0 := rfl
  have q := acc (a := (va0k53_77bbb G)) (g := (va0k53_46bbbb G) &&& 127) (n := (28 : Int32) &&& 31) (k := 28) (by decide) (by omega) (by omega) (by omega) (by omega)
  unfold va0k53_77bbbb
  rw [q]; omega
def va1k13_46 (G : Nat → Int32) : Int32 := ((G ((1 : Int32)).toNatClampNeg) &&& (255 : Int32))
def va1k13_77 (G : Nat → Int32) : Int32 := ((0 : Int32) ||| (((va1k13_46 G) &&& (127 : Int32)) <<< ((0 : Int32) &&& 31)))
theorem bra1k13_13 (ln : Nat) (G : Nat → Int32) (hln : 2 ≤ ln ∧ ln < 100) (hb0 : ((G 1) &&& 255).toInt < 128) : ¬ ((1 : Int32) = (ln).toInt32) := own_ne 1 (by decide) (by omega)
theorem iba1k13_41 (ln : Nat) (G : Nat → Int32) (hln : 2 ≤ ln ∧ ln < 100) (hb0 : ((G 1) &&& 255).toInt < 128) : InB (1 : Int32) ln := own_in 1 (by decide) (by omega)
theorem bra1k13_82 (G : Nat → Int32) (ln : Nat) (hln : 2 ≤ ln ∧ ln < 100) (hb0 : ((G 1) &&& 255).toInt < 128) : (va1k13_46 G) < (128 : Int32) := by
  have c0 : (128 : Int32).toInt = 128 := rfl
  have c1 : (7 : Int32).toInt = 7 := rfl
  have e0 : (va1k13_46 G).toInt = ((G 1) &&& 255).toInt := by
    unfold va1k13_46; rw [own_c1]
  rw [i32lt, e0]; omega
def Q3a1k1 (Z : State) (o0 : Addr) (ln : Nat) (G : Nat → Int32) (w_record : Addr) (h0 : Heap) (n0 : Nat) : Option Value → Heap → List Loc → Prop := fun v h L => v = some (.int (va1k13_77 G)) ∧ Fr n0 L ∧ Keep h0 h [o0] ∧ Exa Z h o0 "com/example/faden/faden/rank/RecordReader" ∧ Fld Z h o0 "com/example/faden/faden/rank/RecordReader" "record" "[B" (.ref w_record) ∧ Fld Z h o0 "com/example/faden/faden/rank/RecordReader" "at" "I" (.int (2 : Int32))
set_option maxRecDepth 65536 in
set_option maxHeartbeats 40000000 in
theorem j3a1k1 {p : Program} {l : Launch} {e : Env} {s : State} {m : MethodId} {args : Array Value} {below : List Frame} {meth : Method} {c : Code} {T0 : State} {locs : List Loc} {Z : State} {a0 : Array Value} {h0 : Heap} {n0 : Nat}
    (X0 : Stand p l e ({ frames := 0, cells := 0, slots := 0, locals := 0 } : Room) s m args below meth c T0 locs 0 0) (hx : p.tables.exec = Jvm.exec) (hZ : Z.Warmed39 s.vm) (hw : ∀ d ∈ tables_1, d.before a0 Z = true) (hby : c.code = prog_21_method_3_code) (hml : c.maxLocals = 4) (hown : s.vm.findClass "com/example/faden/faden/rank/RecordReader" = some m.cls) (hnm : meth.name = "number") (e0 : T0.heap = h0) (N0 : Fr n0 locs) (Z0 : n0 ≤ h0.size) (o0 : Addr) (ln : Nat) (G : Nat → Int32) (w_record : Addr) (E_o0 : Exa Z h0 o0 "com/example/faden/faden/rank/RecordReader") (g_o0 : n0 ≤ o0) (F_record_o0 : Fld Z h0 o0 "com/example/faden/faden/rank/RecordReader" "record" "[B" (.ref w_record)) (F_at_o0 : Fld Z h0 o0 "com/example/faden/faden/rank/RecordReader" "at" "I" (.int (1 : Int32))) (A_w_record : Ary Z h0 w_record .byte ln (fun i => .int (G i))) (ne_o0__w_record : o0 ≠ w_record) (hln : 2 ≤ ln ∧ ln < 100) (hb0 : ((G 1) &&& 255).toInt < 128) :
    OwnFin X0 (some .int) (Q3a1k1 Z o0 ln G w_record h0 n0) ({ frames := 0, cells := 0, slots := 0, locals := 0 } : Room).cells ({ frames := 0, cells := 0, slots := 0, locals := 0 } : Room).slots (mkF m 0 #[.val (.ref o0), .unset, .unset, .unset] []) := by
  refine OwnFin.step (g' := (mkF m 1 #[.val (.ref o0), .unset, .unset, .unset] [(.int (0 : Int32))])) X0 (fun t k => XS.iconst X0.here hx rfl (hb hby d3_0) k) ?_
  refine OwnFin.step (g' := (mkF m 2 #[.val (.ref o0), .val (.int (0 : Int32)), .unset, .unset] [])) X0 (fun t k => XS.istoreN X0.here hx rfl (hb hby d3_1) rfl (l' := #[.val (.ref o0), .val (.int (0 : Int32)), .unset, .unset]) rfl k) ?_
  refine OwnFin.step (g' := (mkF m 3 #[.val (.ref o0), .val (.int (0 : Int32)), .unset, .unset] [(.int (0 : Int32))])) X0 (fun t k => XS.iconst X0.here hx rfl (hb hby d3_2) k) ?_
  refine OwnFin.step (g' := (mkF m 4 #[.val (.ref o0), .val (.int (0 : Int32)), .val (.int (0 : Int32)), .unset] [])) X0 (fun t k => XS.istoreN X0.here hx rfl (hb hby d3_3) rfl (l' := #[.val (.ref o0), .val (.int (0 : Int32)), .val (.int (0 : Int32)), .unset]) rfl k) ?_
  refine OwnFin.step (g' := (mkF m 5 #[.val (.ref o0), .val (.int (0 : Int32)), .val (.int (0 : Int32)), .unset] [(.ref o0)])) X0 (fun t k => XS.aloadN X0.here hx rfl (hb hby d3_4) rfl rfl k) ?_
  obtain ⟨T1, X1, e1, st1⟩ := getF X0 hx hZ hown (host := "") (Or.inl (hw _ (wm 20 rfl))) Via.refl e0 F_at_o0 (g := (mkF m 5 #[.val (.ref o0), .val (.int (0 : Int32)), .val (.int (0 : Int32)), .unset] [(.ref o0)])) rfl rfl (hb hby d3_5)
  refine OwnFin.step (g' := (mkF m 8 #[.val (.ref o0), .val (.int (0 : Int32)), .val (.int (0 : Int32)), .unset] [(.int (1 : Int32))])) X1 (fun t k => st1 _ k) ?_
  refine OwnFin.step (g' := (mkF m 9 #[.val (.ref o0), .val (.int (0 : Int32)), .val (.int (0 : Int32)), .unset] [(.ref o0), (.int (1 : Int32))])) X1 (fun t k => XS.aloadN X1.here hx rfl (hb hby d3_8) rfl rfl k) ?_
  obtain ⟨T2, X2, e2, st2⟩ := getF X1 hx hZ hown (host := "") (Or.inl (hw _ (wm 13 rfl))) Via.refl e1 F_record_o0 (g := (mkF m 9 #[.val (.ref o0), .val (.int (0 : Int32)), .val (.int (0 : Int32)), .unset] [(.ref o0), (.int (1 : Int32))])) rfl rfl (hb hby d3_9)
  refine OwnFin.step (g' := (mkF m 12 #[.val (.ref o0), .val (.int (0 : Int32)), .val (.int (0 : Int32)), .unset] [(.ref w_record), (.int (1 : Int32))])) X2 (fun t k => st2 _ k) ?_
  refine OwnFin.step (g' := (mkF m 13 #[.val (.ref o0), .val (.int (0 : Int32)), .val (.int (0 : Int32)), .unset] [(.int (ln).toInt32), (.int (1 : Int32))])) X2 (fun t k => own_len X2 hx hZ e2 A_w_record (g := (mkF m 12 #[.val (.ref o0), .val (.int (0 : Int32)), .val (.int (0 : Int32)), .unset] [(.ref w_record), (.int (1 : Int32))])) rfl rfl (hb hby d3_12) _ k) ?_
  refine OwnFin.step (g' := (mkF m 26 #[.val (.ref o0), .val (.int (0 : Int32)), .val (.int (0 : Int32)), .unset] [])) X2 (fun t k => XS.icmpYes X2.here hx rfl (pc0 := 13) (pc' := 26) rfl (hb hby d3_13) rfl (feq (bra1k13_13 ln G hln hb0)).2 (by decide) (by decide) k) ?_
  refine OwnFin.step (g' := (mkF m 27 #[.val (.ref o0), .val (.int (0 : Int32)), .val (.int (0 : Int32)), .unset] [(.ref o0)])) X2 (fun t k => XS.aloadN X2.here hx rfl (hb hby d3_26) rfl rfl k) ?_
  obtain ⟨T3, X3, e3, st3⟩ := getF X2 hx hZ hown (host := "") (Or.inl (hw _ (wm 13 rfl))) Via.refl e2 F_record_o0 (g := (mkF m 27 #[.val (.ref o0), .val (.int (0 : Int32)), .val (.int (0 : Int32)), .unset] [(.ref o0)])) rfl rfl (hb hby d3_27)
  refine OwnFin.step (g' := (mkF m 30 #[.val (.ref o0), .val (.int (0 : Int32)), .val (.int (0 : Int32)), .unset] [(.ref w_record)])) X3 (fun t k => st3 _ k) ?_
  refine OwnFin.step (g' := (mkF m 31 #[.val (.ref o0), .val (.int (0 : Int32)), .val (.int (0 : Int32)), .unset] [(.ref o0), (.ref w_record)])) X3 (fun t k => XS.aloadN X3.here hx rfl (hb hby d3_30) rfl rfl k) ?_
  refine OwnFin.step (g' := (mkF m 32 #[.val (.ref o0), .val (.int (0 : Int32)), .val (.int (0 : Int32)), .unset] [(.ref o0), (.ref o0), (.ref w_record)])) X3 (fun t k => XS.dup X3.here hx rfl (hb hby d3_31) rfl rfl k) ?_
  obtain ⟨T4, X4, e4, st4⟩ := getF X3 hx hZ hown (host := "") (Or.inl (hw _ (wm 20 rfl))) Via.refl e3 F_at_o0 (g := (mkF m 32 #[.val (.ref o0), .val (.int (0 : Int32)), .val (.int (0 : Int32)), .unset] [(.ref o0), (.ref o0), (.ref w_record)])) rfl rfl (hb hby d3_32)
  refine OwnFin.step (g' := (mkF m 35 #[.val (.ref o0), .val (.int (0 : Int32)), .val (.int (0 : Int32)), .unset] [(.int (1 : Int32)), (.ref o0), (.ref w_record)])) X4 (fun t k => st4 _ k) ?_
  refine OwnFin.step (g' := (mkF m 36 #[.val (.ref o0), .val (.int (0 : Int32)), .val (.int (0 : Int32)), .unset] [(.int (1 : Int32)), (.ref o0), (.int (1 : Int32)), (.ref w_record)])) X4 (fun t k => XT.dupX1 X4.here hx rfl (hb hby d3_35) rfl rfl rfl k) ?_
  refine OwnFin.step (g' := (mkF m 37 #[.val (.ref o0), .val (.int (0 : Int32)), .val (.int (0 : Int32)), .unset] [(.int (1 : Int32)), (.int (1 : Int32)), (.ref o0), (.int (1 : Int32)), (.ref w_record)])) X4 (fun t k => XS.iconst X4.here hx rfl (hb hby d3_36) k) ?_
  refine OwnFin.step (g' := (mkF m 38 #[.val (.ref o0), .val (.int (0 : Int32)), .val (.int (0 : Int32)), .unset] [(.int (2 : Int32)), (.ref o0), (.int (1 : Int32)), (.ref w_record)])) X4 (fun t k => XS.iadd X4.here hx rfl (hb hby d3_37) rfl k) ?_
  obtain ⟨T5, h5, L5, X5, e5, N5, W5, F5, st5⟩ := own_putF X4 hx hZ hown (hw _ (wm 20 rfl)) e4 N0 F_at_o0 E_o0 g_o0 (Or.inl (hw _ (wm 21 rfl))) (hw _ (wm 5 rfl)) (fty := .int) (by decide) rfl rfl (g := (mkF m 38 #[.val (.ref o0), .val (.int (0 : Int32)), .val (.int (0 : Int32)), .unset] [(.int (2 : Int32)), (.ref o0), (.int (1 : Int32)), (.ref w_record)])) rfl rfl (hb hby d3_38)
  have K5 := Keep.of_wr W5
  have Z5 := Nat.le_trans Z0 K5.1
  have S5 := Nat.le_trans (Nat.le_refl h0.size) K5.1
  have F6 := Fld.other W5 F_record_o0 (Or.inr (slot_ne (Or.inr (hw _ (wm 14 rfl))) (Or.inl (hw _ (wm 21 rfl))) (by decide) (t := (.array .byte)) (t' := .int) (by decide) (by decide)))
  have E7 := Exa.wr W5 E_o0
  refine OwnFin.step (g' := (mkF m 41 #[.val (.ref o0), .val (.int (0 : Int32)), .val (.int (0 : Int32)), .unset] [(.int (1 : Int32)), (.ref w_record)])) X5 (fun t k => st5 _ k) ?_
  have A8 := (A_w_record.keep K5 (ninS (Ne.symm ne_o0__w_record) nin0))
  refine OwnFin.step (g' := (mkF m 42 #[.val (.ref o0), .val (.int (0 : Int32)), .val (.int (0 : Int32)), .unset] [(.int (G ((1 : Int32)).toNatClampNeg))])) X5 (fun t k => own_ldB X5 hx hZ e5 A8 (iba1k13_41 ln G hln hb0) rfl (g := (mkF m 41 #[.val (.ref o0), .val (.int (0 : Int32)), .val (.int (0 : Int32)), .unset] [(.int (1 : Int32)), (.ref w_record)])) rfl rfl (hb hby d3_41) _ k) ?_
  refine OwnFin.step (g' := (mkF m 45 #[.val (.ref o0), .val (.int (0 : Int32)), .val (.int (0 : Int32)), .unset] [(.int (255 : Int32)), (.int (G ((1 : Int32)).toNatClampNeg))])) X5 (fun t k => XS.sipush X5.here hx rfl (hb hby d3_42) k) ?_
  refine OwnFin.step (g' := (mkF m 46 #[.val (.ref o0), .val (.int (0 : Int32)), .val (.int (0 : Int32)), .unset] [(.int ((G ((1 : Int32)).toNatClampNeg) &&& (255 : Int32)))])) X5 (fun t k => XS.iand X5.here hx rfl (hb hby d3_45) rfl k) ?_
  refine OwnFin.step (g' := (mkF m 47 #[.val (.ref o0), .val (.int (0 : Int32)), .val (.int (0 : Int32)), .val (.int (va1k13_46 G))] [])) X5 (fun t k => XS.istoreN X5.here hx rfl (hb hby d3_46) rfl (l' := #[.val (.ref o0), .val (.int (0 : Int32)), .val (.int (0 : Int32)), .val (.int (va1k13_46 G))]) rfl k) ?_
  refine OwnFin.step (g' := (mkF m 48 #[.val (.ref o0), .val (.int (0 : Int32)), .val (.int (0 : Int32)), .val (.int (va1k13_46 G))] [(.int (0 : Int32))])) X5 (fun t k => XS.iloadN X5.here hx rfl (hb hby d3_47) rfl k) ?_
  refine OwnFin.step (g' := (mkF m 50 #[.val (.ref o0), .val (.int (0 : Int32)), .val (.int (0 : Int32)), .val (.int (va1k13_46 G))] [(.int (28 : Int32)), (.int (0 : Int32))])) X5 (fun t k => XS.bipush X5.here hx rfl (hb hby d3_48) k) ?_
  refine OwnFin.step (g' := (mkF m 69 #[.val (.ref o0), .val (.int (0 : Int32)), .val (.int (0 : Int32)), .val (.int (va1k13_46 G))] [])) X5 (fun t k => XS.icmpYes X5.here hx rfl (pc0 := 50) (pc' := 69) rfl (hb hby d3_50) rfl (feq (show ¬ ((0 : Int32) = (28 : Int32)) by first | decide | exact Int32.lt_irrefl _ | exact Int64.lt_irrefl _)).2 (by decide) (by decide) k) ?_
  refine OwnFin.step (g' := (mkF m 70 #[.val (.ref o0), .val (.int (0 : Int32)), .val (.int (0 : Int32)), .val (.int (va1k13_46 G))] [(.int (0 : Int32))])) X5 (fun t k => XS.iloadN X5.here hx rfl (hb hby d3_69) rfl k) ?_
  refine OwnFin.step (g' := (mkF m 71 #[.val (.ref o0), .val (.int (0 : Int32)), .val (.int (0 : Int32)), .val (.int (va1k13_46 G))] [(.int (va1k13_46 G)), (.int (0 : Int32))])) X5 (fun t k => XS.iloadN X5.here hx rfl (hb hby d3_70) rfl k) ?_
  refine OwnFin.step (g' := (mkF m 73 #[.val (.ref o0), .val (.int (0 : Int32)), .val (.int (0 : Int32)), .val (.int (va1k13_46 G))] [(.int (127 : Int32)), (.int (va1k13_46 G)), (.int (0 : Int32))])) X5 (fun t k => XS.bipush X5.here hx rfl (hb hby d3_71) k) ?_
  refine OwnFin.step (g' := (mkF m 74 #[.val (.ref o0), .val (.int (0 : Int32)), .val (.int (0 : Int32)), .val (.int (va1k13_46 G))] [(.int ((va1k13_46 G) &&& (127 : Int32))), (.int (0 : Int32))])) X5 (fun t k => XS.iand X5.here hx rfl (hb hby d3_73) rfl k) ?_
  refine OwnFin.step (g' := (mkF m 75 #[.val (.ref o0), .val (.int (0 : Int32)), .val (.int (0 : Int32)), .val (.int (va1k13_46 G))] [(.int (0 : Int32)), (.int ((va1k13_46 G) &&& (127 : Int32))), (.int (0 : Int32))])) X5 (fun t k => XS.iloadN X5.here hx rfl (hb hby d3_74) rfl k) ?_
  refine OwnFin.step (g' := (mkF m 76 #[.val (.ref o0), .val (.int (0 : Int32)), .val (.int (0 : Int32)), .val (.int (va1k13_46 G))] [(.int (((va1k13_46 G) &&& (127 : Int32)) <<< ((0 : Int32) &&& 31))), (.int (0 : Int32))])) X5 (fun t k => XT.ishl X5.here hx rfl (hb hby d3_75) rfl k) ?_
  refine OwnFin.step (g' := (mkF m 77 #[.val (.ref o0), .val (.int (0 : Int32)), .val (.int (0 : Int32)), .val (.int (va1k13_46 G))] [(.int ((0 : Int32) ||| (((va1k13_46 G) &&& (127 : Int32)) <<< ((0 : Int32) &&& 31))))])) X5 (fun t k => XT.ior X5.here hx rfl (hb hby d3_76) rfl k) ?_
  refine OwnFin.step (g' := (mkF m 78 #[.val (.ref o0), .val (.int (va1k13_77 G)), .val (.int (0 : Int32)), .val (.int (va1k13_46 G))] [])) X5 (fun t k => XS.istoreN X5.here hx rfl (hb hby d3_77) rfl (l' := #[.val (.ref o0), .val (.int (va1k13_77 G)), .val (.int (0 : Int32)), .val (.int (va1k13_46 G))]) rfl k) ?_
  refine OwnFin.step (g' := (mkF m 79 #[.val (.ref o0), .val (.int (va1k13_77 G)), .val (.int (0 : Int32)), .val (.int (va1k13_46 G))] [(.int (va1k13_46 G))])) X5 (fun t k => XS.iloadN X5.here hx rfl (hb hby d3_78) rfl k) ?_
  refine OwnFin.step (g' := (mkF m 82 #[.val (.ref o0), .val (.int (va1k13_77 G)), .val (.int (0 : Int32)), .val (.int (va1k13_46 G))] [(.int (128 : Int32)), (.int (va1k13_46 G))])) X5 (fun t k => XS.sipush X5.here hx rfl (hb hby d3_79) k) ?_
  refine OwnFin.step (g' := (mkF m 85 #[.val (.ref o0), .val (.int (va1k13_77 G)), .val (.int (0 : Int32)), .val (.int (va1k13_46 G))] [])) X5 (fun t k => XS.icmpNo X5.here hx rfl (hb hby d3_82) rfl (tlt (bra1k13_82 G ln hln hb0)).2.1 k) ?_
  refine OwnFin.step (g' := (mkF m 86 #[.val (.ref o0), .val (.int (va1k13_77 G)), .val (.int (0 : Int32)), .val (.int (va1k13_46 G))] [(.int (va1k13_77 G))])) X5 (fun t k => XS.iloadN X5.here hx rfl (hb hby d3_85) rfl k) ?_
  refine OwnFin.retInt X5 (hb hby d3_86) (by decide) (by decide) ?_
  rw [e5]
  exact ⟨rfl, N5, (Keep.trans (Keep.refl h0 [o0]) K5 (allS (Or.inl (wm 0 rfl)) all0)), E7, F6, F5⟩
set_option maxRecDepth 65536 in
set_option maxHeartbeats 40000000 in
theorem rm3a1k1 (l : Launch) (Z : State) (a0 : Array Value) (hw : ∀ d ∈ tables_1, d.before a0 Z = true) (ws : List Jvm.Cond) (o0 : Addr) (ln : Nat) (G : Nat → Int32) (w_record : Addr) (h0 : Heap) (n0 : Nat) (Z0 : n0 ≤ h0.size) (E_o0 : Exa Z h0 o0 "com/example/faden/faden/rank/RecordReader") (g_o0 : n0 ≤ o0) (F_record_o0 : Fld Z h0 o0 "com/example/faden/faden/rank/RecordReader" "record" "[B" (.ref w_record)) (F_at_o0 : Fld Z h0 o0 "com/example/faden/faden/rank/RecordReader" "at" "I" (.int (1 : Int32))) (A_w_record : Ary Z h0 w_record .byte ln (fun i => .int (G i))) (ne_o0__w_record : o0 ≠ w_record) (hln : 2 ≤ ln ∧ ln < 100) (hb0 : ((G 1) &&& 255).toInt < 128) :
    MetFree l (⟨"com/example/faden/faden/rank/RecordReader", "number", "()I"⟩ : MethodName) (head1 (Jvm.Cond.code (⟨"com/example/faden/faden/rank/RecordReader", "number", "()I"⟩ : MethodName) prog_21_method_3_code 4 (some .int) :: ws) ({ frames := 0, cells := 0, slots := 0, locals := 0 } : Room)) (fun a U => a = #[(.ref o0)] ∧ Z.Warmed39 U.vm ∧ U.heap = h0) (fun _ _ _ _ _ => True) (fun _ U o U' => ∃ v L, o = .returned v ∧ (Q3a1k1 Z o0 ln G w_record h0 n0) v U'.heap L ∧ FrameEnd U o U' L ({ frames := 0, cells := 0, slots := 0, locals := 0 } : Room).cells ({ frames := 0, cells := 0, slots := 0, locals := 0 } : Room).slots) :=
  own_met (ret := (some .int)) (Q := (Q3a1k1 Z o0 ln G w_record h0 n0)) (plainFor_of_name pn_3) (fun m => ef_3 m o0) (fun p e s m below meth c s₁ X hx hby hml hown hnm hZ e0 => j3a1k1 X hx hZ hw hby hml hown hnm e0 (Fr.nil n0) Z0 o0 ln G w_record E_o0 g_o0 F_record_o0 F_at_o0 A_w_record ne_o0__w_record hln hb0)
theorem own_va1k13_77 (G : Nat → Int32) : (va1k13_77 G).toInt = ((G 1) &&& 255).toInt % 128 * 1 := by
  have m := Jvm.Kit.i32_mask (va1k13_46 G) 127 (k := 7) (by decide) (by decide)
  have e : (va1k13_46 G).toInt = ((G 1) &&& 255).toInt := by unfold va1k13_46; rw [own_c1]
  have u0 := Jvm.Kit.i32_mask (G 1) 255 (k := 8) (by decide) (by decide)
  have z0 : (0 : Int32).toInt = 0 := rfl
  have q := acc (a := (0 : Int32)) (g := (va1k13_46 G) &&& 127) (n := (0 : Int32) &&& 31) (k := 0) (by decide) (by omega) (by omega) (by omega) (by omega)
  unfold va1k13_77
  rw [q]; omega
def va2k13_46 (G : Nat → Int32) : Int32 := ((G ((2 : Int32)).toNatClampNeg) &&& (255 : Int32))
def va2k13_77 (G : Nat → Int32) : Int32 := ((0 : Int32) ||| (((va2k13_46 G) &&& (127 : Int32)) <<< ((0 : Int32) &&& 31)))
theorem bra2k13_13 (ln : Nat) (G : Nat → Int32) (hln : 3 ≤ ln ∧ ln < 100) (hb0 : ((G 2) &&& 255).toInt < 128) : ¬ ((2 : Int32) = (ln).toInt32) := own_ne 2 (by decide) (by omega)
theorem iba2k13_41 (ln : Nat) (G : Nat → Int32) (hln : 3 ≤ ln ∧ ln < 100) (hb0 : ((G 2) &&& 255).toInt < 128) : InB (2 : Int32) ln := own_in 2 (by decide) (by omega)
theorem bra2k13_82 (G : Nat → Int32) (ln : Nat) (hln : 3 ≤ ln ∧ ln < 100) (hb0 : ((G 2) &&& 255).toInt < 128) : (va2k13_46 G) < (128 : Int32) := by
  have c0 : (128 : Int32).toInt = 128 := rfl
  have c1 : (7 : Int32).toInt = 7 := rfl
  have e0 : (va2k13_46 G).toInt = ((G 2) &&& 255).toInt := by
    unfold va2k13_46; rw [own_c2]
  rw [i32lt, e0]; omega
def Q3a2k1 (Z : State) (o0 : Addr) (ln : Nat) (G : Nat → Int32) (w_record : Addr) (h0 : Heap) (n0 : Nat) : Option Value → Heap → List Loc → Prop := fun v h L => v = some (.int (va2k13_77 G)) ∧ Fr n0 L ∧ Keep h0 h [o0] ∧ Exa Z h o0 "com/example/faden/faden/rank/RecordReader" ∧ Fld Z h o0 "com/example/faden/faden/rank/RecordReader" "record" "[B" (.ref w_record) ∧ Fld Z h o0 "com/example/faden/faden/rank/RecordReader" "at" "I" (.int (3 : Int32))
set_option maxRecDepth 65536 in
set_option maxHeartbeats 40000000 in
theorem j3a2k1 {p : Program} {l : Launch} {e : Env} {s : State} {m : MethodId} {args : Array Value} {below : List Frame} {meth : Method} {c : Code} {T0 : State} {locs : List Loc} {Z : State} {a0 : Array Value} {h0 : Heap} {n0 : Nat}
    (X0 : Stand p l e ({ frames := 0, cells := 0, slots := 0, locals := 0 } : Room) s m args below meth c T0 locs 0 0) (hx : p.tables.exec = Jvm.exec) (hZ : Z.Warmed39 s.vm) (hw : ∀ d ∈ tables_1, d.before a0 Z = true) (hby : c.code = prog_21_method_3_code) (hml : c.maxLocals = 4) (hown : s.vm.findClass "com/example/faden/faden/rank/RecordReader" = some m.cls) (hnm : meth.name = "number") (e0 : T0.heap = h0) (N0 : Fr n0 locs) (Z0 : n0 ≤ h0.size) (o0 : Addr) (ln : Nat) (G : Nat → Int32) (w_record : Addr) (E_o0 : Exa Z h0 o0 "com/example/faden/faden/rank/RecordReader") (g_o0 : n0 ≤ o0) (F_record_o0 : Fld Z h0 o0 "com/example/faden/faden/rank/RecordReader" "record" "[B" (.ref w_record)) (F_at_o0 : Fld Z h0 o0 "com/example/faden/faden/rank/RecordReader" "at" "I" (.int (2 : Int32))) (A_w_record : Ary Z h0 w_record .byte ln (fun i => .int (G i))) (ne_o0__w_record : o0 ≠ w_record) (hln : 3 ≤ ln ∧ ln < 100) (hb0 : ((G 2) &&& 255).toInt < 128) :
    OwnFin X0 (some .int) (Q3a2k1 Z o0 ln G w_record h0 n0) ({ frames := 0, cells := 0, slots := 0, locals := 0 } : Room).cells ({ frames := 0, cells := 0, slots := 0, locals := 0 } : Room).slots (mkF m 0 #[.val (.ref o0), .unset, .unset, .unset] []) := by
  refine OwnFin.step (g' := (mkF m 1 #[.val (.ref o0), .unset, .unset, .unset] [(.int (0 : Int32))])) X0 (fun t k => XS.iconst X0.here hx rfl (hb hby d3_0) k) ?_
  refine OwnFin.step (g' := (mkF m 2 #[.val (.ref o0), .val (.int (0 : Int32)), .unset, .unset] [])) X0 (fun t k => XS.istoreN X0.here hx rfl (hb hby d3_1) rfl (l' := #[.val (.ref o0), .val (.int (0 : Int32)), .unset, .unset]) rfl k) ?_
  refine OwnFin.step (g' := (mkF m 3 #[.val (.ref o0), .val (.int (0 : Int32)), .unset, .unset] [(.int (0 : Int32))])) X0 (fun t k => XS.iconst X0.here hx rfl (hb hby d3_2) k) ?_
  refine OwnFin.step (g' := (mkF m 4 #[.val (.ref o0), .val (.int (0 : Int32)), .val (.int (0 : Int32)), .unset] [])) X0 (fun t k => XS.istoreN X0.here hx rfl (hb hby d3_3) rfl (l' := #[.val (.ref o0), .val (.int (0 : Int32)), .val (.int (0 : Int32)), .unset]) rfl k) ?_
  refine OwnFin.step (g' := (mkF m 5 #[.val (.ref o0), .val (.int (0 : Int32)), .val (.int (0 : Int32)), .unset] [(.ref o0)])) X0 (fun t k => XS.aloadN X0.here hx rfl (hb hby d3_4) rfl rfl k) ?_
  obtain ⟨T1, X1, e1, st1⟩ := getF X0 hx hZ hown (host := "") (Or.inl (hw _ (wm 20 rfl))) Via.refl e0 F_at_o0 (g := (mkF m 5 #[.val (.ref o0), .val (.int (0 : Int32)), .val (.int (0 : Int32)), .unset] [(.ref o0)])) rfl rfl (hb hby d3_5)
  refine OwnFin.step (g' := (mkF m 8 #[.val (.ref o0), .val (.int (0 : Int32)), .val (.int (0 : Int32)), .unset] [(.int (2 : Int32))])) X1 (fun t k => st1 _ k) ?_
  refine OwnFin.step (g' := (mkF m 9 #[.val (.ref o0), .val (.int (0 : Int32)), .val (.int (0 : Int32)), .unset] [(.ref o0), (.int (2 : Int32))])) X1 (fun t k => XS.aloadN X1.here hx rfl (hb hby d3_8) rfl rfl k) ?_
  obtain ⟨T2, X2, e2, st2⟩ := getF X1 hx hZ hown (host := "") (Or.inl (hw _ (wm 13 rfl))) Via.refl e1 F_record_o0 (g := (mkF m 9 #[.val (.ref o0), .val (.int (0 : Int32)), .val (.int (0 : Int32)), .unset] [(.ref o0), (.int (2 : Int32))])) rfl rfl (hb hby d3_9)
  refine OwnFin.step (g' := (mkF m 12 #[.val (.ref o0), .val (.int (0 : Int32)), .val (.int (0 : Int32)), .unset] [(.ref w_record), (.int (2 : Int32))])) X2 (fun t k => st2 _ k) ?_
  refine OwnFin.step (g' := (mkF m 13 #[.val (.ref o0), .val (.int (0 : Int32)), .val (.int (0 : Int32)), .unset] [(.int (ln).toInt32), (.int (2 : Int32))])) X2 (fun t k => own_len X2 hx hZ e2 A_w_record (g := (mkF m 12 #[.val (.ref o0), .val (.int (0 : Int32)), .val (.int (0 : Int32)), .unset] [(.ref w_record), (.int (2 : Int32))])) rfl rfl (hb hby d3_12) _ k) ?_
  refine OwnFin.step (g' := (mkF m 26 #[.val (.ref o0), .val (.int (0 : Int32)), .val (.int (0 : Int32)), .unset] [])) X2 (fun t k => XS.icmpYes X2.here hx rfl (pc0 := 13) (pc' := 26) rfl (hb hby d3_13) rfl (feq (bra2k13_13 ln G hln hb0)).2 (by decide) (by decide) k) ?_
  refine OwnFin.step (g' := (mkF m 27 #[.val (.ref o0), .val (.int (0 : Int32)), .val (.int (0 : Int32)), .unset] [(.ref o0)])) X2 (fun t k => XS.aloadN X2.here hx rfl (hb hby d3_26) rfl rfl k) ?_
  obtain ⟨T3, X3, e3, st3⟩ := getF X2 hx hZ hown (host := "") (Or.inl (hw _ (wm 13 rfl))) Via.refl e2 F_record_o0 (g := (mkF m 27 #[.val (.ref o0), .val (.int (0 : Int32)), .val (.int (0 : Int32)), .unset] [(.ref o0)])) rfl rfl (hb hby d3_27)
  refine OwnFin.step (g' := (mkF m 30 #[.val (.ref o0), .val (.int (0 : Int32)), .val (.int (0 : Int32)), .unset] [(.ref w_record)])) X3 (fun t k => st3 _ k) ?_
  refine OwnFin.step (g' := (mkF m 31 #[.val (.ref o0), .val (.int (0 : Int32)), .val (.int (0 : Int32)), .unset] [(.ref o0), (.ref w_record)])) X3 (fun t k => XS.aloadN X3.here hx rfl (hb hby d3_30) rfl rfl k) ?_
  refine OwnFin.step (g' := (mkF m 32 #[.val (.ref o0), .val (.int (0 : Int32)), .val (.int (0 : Int32)), .unset] [(.ref o0), (.ref o0), (.ref w_record)])) X3 (fun t k => XS.dup X3.here hx rfl (hb hby d3_31) rfl rfl k) ?_
  obtain ⟨T4, X4, e4, st4⟩ := getF X3 hx hZ hown (host := "") (Or.inl (hw _ (wm 20 rfl))) Via.refl e3 F_at_o0 (g := (mkF m 32 #[.val (.ref o0), .val (.int (0 : Int32)), .val (.int (0 : Int32)), .unset] [(.ref o0), (.ref o0), (.ref w_record)])) rfl rfl (hb hby d3_32)
  refine OwnFin.step (g' := (mkF m 35 #[.val (.ref o0), .val (.int (0 : Int32)), .val (.int (0 : Int32)), .unset] [(.int (2 : Int32)), (.ref o0), (.ref w_record)])) X4 (fun t k => st4 _ k) ?_
  refine OwnFin.step (g' := (mkF m 36 #[.val (.ref o0), .val (.int (0 : Int32)), .val (.int (0 : Int32)), .unset] [(.int (2 : Int32)), (.ref o0), (.int (2 : Int32)), (.ref w_record)])) X4 (fun t k => XT.dupX1 X4.here hx rfl (hb hby d3_35) rfl rfl rfl k) ?_
  refine OwnFin.step (g' := (mkF m 37 #[.val (.ref o0), .val (.int (0 : Int32)), .val (.int (0 : Int32)), .unset] [(.int (1 : Int32)), (.int (2 : Int32)), (.ref o0), (.int (2 : Int32)), (.ref w_record)])) X4 (fun t k => XS.iconst X4.here hx rfl (hb hby d3_36) k) ?_
  refine OwnFin.step (g' := (mkF m 38 #[.val (.ref o0), .val (.int (0 : Int32)), .val (.int (0 : Int32)), .unset] [(.int (3 : Int32)), (.ref o0), (.int (2 : Int32)), (.ref w_record)])) X4 (fun t k => XS.iadd X4.here hx rfl (hb hby d3_37) rfl k) ?_
  obtain ⟨T5, h5, L5, X5, e5, N5, W5, F5, st5⟩ := own_putF X4 hx hZ hown (hw _ (wm 20 rfl)) e4 N0 F_at_o0 E_o0 g_o0 (Or.inl (hw _ (wm 21 rfl))) (hw _ (wm 5 rfl)) (fty := .int) (by decide) rfl rfl (g := (mkF m 38 #[.val (.ref o0), .val (.int (0 : Int32)), .val (.int (0 : Int32)), .unset] [(.int (3 : Int32)), (.ref o0), (.int (2 : Int32)), (.ref w_record)])) rfl rfl (hb hby d3_38)
  have K5 := Keep.of_wr W5
  have Z5 := Nat.le_trans Z0 K5.1
  have S5 := Nat.le_trans (Nat.le_refl h0.size) K5.1
  have F6 := Fld.other W5 F_record_o0 (Or.inr (slot_ne (Or.inr (hw _ (wm 14 rfl))) (Or.inl (hw _ (wm 21 rfl))) (by decide) (t := (.array .byte)) (t' := .int) (by decide) (by decide)))
  have E7 := Exa.wr W5 E_o0
  refine OwnFin.step (g' := (mkF m 41 #[.val (.ref o0), .val (.int (0 : Int32)), .val (.int (0 : Int32)), .unset] [(.int (2 : Int32)), (.ref w_record)])) X5 (fun t k => st5 _ k) ?_
  have A8 := (A_w_record.keep K5 (ninS (Ne.symm ne_o0__w_record) nin0))
  refine OwnFin.step (g' := (mkF m 42 #[.val (.ref o0), .val (.int (0 : Int32)), .val (.int (0 : Int32)), .unset] [(.int (G ((2 : Int32)).toNatClampNeg))])) X5 (fun t k => own_ldB X5 hx hZ e5 A8 (iba2k13_41 ln G hln hb0) rfl (g := (mkF m 41 #[.val (.ref o0), .val (.int (0 : Int32)), .val (.int (0 : Int32)), .unset] [(.int (2 : Int32)), (.ref w_record)])) rfl rfl (hb hby d3_41) _ k) ?_
  refine OwnFin.step (g' := (mkF m 45 #[.val (.ref o0), .val (.int (0 : Int32)), .val (.int (0 : Int32)), .unset] [(.int (255 : Int32)), (.int (G ((2 : Int32)).toNatClampNeg))])) X5 (fun t k => XS.sipush X5.here hx rfl (hb hby d3_42) k) ?_
  refine OwnFin.step (g' := (mkF m 46 #[.val (.ref o0), .val (.int (0 : Int32)), .val (.int (0 : Int32)), .unset] [(.int ((G ((2 : Int32)).toNatClampNeg) &&& (255 : Int32)))])) X5 (fun t k => XS.iand X5.here hx rfl (hb hby d3_45) rfl k) ?_
  refine OwnFin.step (g' := (mkF m 47 #[.val (.ref o0), .val (.int (0 : Int32)), .val (.int (0 : Int32)), .val (.int (va2k13_46 G))] [])) X5 (fun t k => XS.istoreN X5.here hx rfl (hb hby d3_46) rfl (l' := #[.val (.ref o0), .val (.int (0 : Int32)), .val (.int (0 : Int32)), .val (.int (va2k13_46 G))]) rfl k) ?_
  refine OwnFin.step (g' := (mkF m 48 #[.val (.ref o0), .val (.int (0 : Int32)), .val (.int (0 : Int32)), .val (.int (va2k13_46 G))] [(.int (0 : Int32))])) X5 (fun t k => XS.iloadN X5.here hx rfl (hb hby d3_47) rfl k) ?_
  refine OwnFin.step (g' := (mkF m 50 #[.val (.ref o0), .val (.int (0 : Int32)), .val (.int (0 : Int32)), .val (.int (va2k13_46 G))] [(.int (28 : Int32)), (.int (0 : Int32))])) X5 (fun t k => XS.bipush X5.here hx rfl (hb hby d3_48) k) ?_
  refine OwnFin.step (g' := (mkF m 69 #[.val (.ref o0), .val (.int (0 : Int32)), .val (.int (0 : Int32)), .val (.int (va2k13_46 G))] [])) X5 (fun t k => XS.icmpYes X5.here hx rfl (pc0 := 50) (pc' := 69) rfl (hb hby d3_50) rfl (feq (show ¬ ((0 : Int32) = (28 : Int32)) by first | decide | exact Int32.lt_irrefl _ | exact Int64.lt_irrefl _)).2 (by decide) (by decide) k) ?_
  refine OwnFin.step (g' := (mkF m 70 #[.val (.ref o0), .val (.int (0 : Int32)), .val (.int (0 : Int32)), .val (.int (va2k13_46 G))] [(.int (0 : Int32))])) X5 (fun t k => XS.iloadN X5.here hx rfl (hb hby d3_69) rfl k) ?_
  refine OwnFin.step (g' := (mkF m 71 #[.val (.ref o0), .val (.int (0 : Int32)), .val (.int (0 : Int32)), .val (.int (va2k13_46 G))] [(.int (va2k13_46 G)), (.int (0 : Int32))])) X5 (fun t k => XS.iloadN X5.here hx rfl (hb hby d3_70) rfl k) ?_
  refine OwnFin.step (g' := (mkF m 73 #[.val (.ref o0), .val (.int (0 : Int32)), .val (.int (0 : Int32)), .val (.int (va2k13_46 G))] [(.int (127 : Int32)), (.int (va2k13_46 G)), (.int (0 : Int32))])) X5 (fun t k => XS.bipush X5.here hx rfl (hb hby d3_71) k) ?_
  refine OwnFin.step (g' := (mkF m 74 #[.val (.ref o0), .val (.int (0 : Int32)), .val (.int (0 : Int32)), .val (.int (va2k13_46 G))] [(.int ((va2k13_46 G) &&& (127 : Int32))), (.int (0 : Int32))])) X5 (fun t k => XS.iand X5.here hx rfl (hb hby d3_73) rfl k) ?_
  refine OwnFin.step (g' := (mkF m 75 #[.val (.ref o0), .val (.int (0 : Int32)), .val (.int (0 : Int32)), .val (.int (va2k13_46 G))] [(.int (0 : Int32)), (.int ((va2k13_46 G) &&& (127 : Int32))), (.int (0 : Int32))])) X5 (fun t k => XS.iloadN X5.here hx rfl (hb hby d3_74) rfl k) ?_
  refine OwnFin.step (g' := (mkF m 76 #[.val (.ref o0), .val (.int (0 : Int32)), .val (.int (0 : Int32)), .val (.int (va2k13_46 G))] [(.int (((va2k13_46 G) &&& (127 : Int32)) <<< ((0 : Int32) &&& 31))), (.int (0 : Int32))])) X5 (fun t k => XT.ishl X5.here hx rfl (hb hby d3_75) rfl k) ?_
  refine OwnFin.step (g' := (mkF m 77 #[.val (.ref o0), .val (.int (0 : Int32)), .val (.int (0 : Int32)), .val (.int (va2k13_46 G))] [(.int ((0 : Int32) ||| (((va2k13_46 G) &&& (127 : Int32)) <<< ((0 : Int32) &&& 31))))])) X5 (fun t k => XT.ior X5.here hx rfl (hb hby d3_76) rfl k) ?_
  refine OwnFin.step (g' := (mkF m 78 #[.val (.ref o0), .val (.int (va2k13_77 G)), .val (.int (0 : Int32)), .val (.int (va2k13_46 G))] [])) X5 (fun t k => XS.istoreN X5.here hx rfl (hb hby d3_77) rfl (l' := #[.val (.ref o0), .val (.int (va2k13_77 G)), .val (.int (0 : Int32)), .val (.int (va2k13_46 G))]) rfl k) ?_
  refine OwnFin.step (g' := (mkF m 79 #[.val (.ref o0), .val (.int (va2k13_77 G)), .val (.int (0 : Int32)), .val (.int (va2k13_46 G))] [(.int (va2k13_46 G))])) X5 (fun t k => XS.iloadN X5.here hx rfl (hb hby d3_78) rfl k) ?_
  refine OwnFin.step (g' := (mkF m 82 #[.val (.ref o0), .val (.int (va2k13_77 G)), .val (.int (0 : Int32)), .val (.int (va2k13_46 G))] [(.int (128 : Int32)), (.int (va2k13_46 G))])) X5 (fun t k => XS.sipush X5.here hx rfl (hb hby d3_79) k) ?_
  refine OwnFin.step (g' := (mkF m 85 #[.val (.ref o0), .val (.int (va2k13_77 G)), .val (.int (0 : Int32)), .val (.int (va2k13_46 G))] [])) X5 (fun t k => XS.icmpNo X5.here hx rfl (hb hby d3_82) rfl (tlt (bra2k13_82 G ln hln hb0)).2.1 k) ?_
  refine OwnFin.step (g' := (mkF m 86 #[.val (.ref o0), .val (.int (va2k13_77 G)), .val (.int (0 : Int32)), .val (.int (va2k13_46 G))] [(.int (va2k13_77 G))])) X5 (fun t k => XS.iloadN X5.here hx rfl (hb hby d3_85) rfl k) ?_
  refine OwnFin.retInt X5 (hb hby d3_86) (by decide) (by decide) ?_
  rw [e5]
  exact ⟨rfl, N5, (Keep.trans (Keep.refl h0 [o0]) K5 (allS (Or.inl (wm 0 rfl)) all0)), E7, F6, F5⟩
set_option maxRecDepth 65536 in
set_option maxHeartbeats 40000000 in
theorem rm3a2k1 (l : Launch) (Z : State) (a0 : Array Value) (hw : ∀ d ∈ tables_1, d.before a0 Z = true) (ws : List Jvm.Cond) (o0 : Addr) (ln : Nat) (G : Nat → Int32) (w_record : Addr) (h0 : Heap) (n0 : Nat) (Z0 : n0 ≤ h0.size) (E_o0 : Exa Z h0 o0 "com/example/faden/faden/rank/RecordReader") (g_o0 : n0 ≤ o0) (F_record_o0 : Fld Z h0 o0 "com/example/faden/faden/rank/RecordReader" "record" "[B" (.ref w_record)) (F_at_o0 : Fld Z h0 o0 "com/example/faden/faden/rank/RecordReader" "at" "I" (.int (2 : Int32))) (A_w_record : Ary Z h0 w_record .byte ln (fun i => .int (G i))) (ne_o0__w_record : o0 ≠ w_record) (hln : 3 ≤ ln ∧ ln < 100) (hb0 : ((G 2) &&& 255).toInt < 128) :
    MetFree l (⟨"com/example/faden/faden/rank/RecordReader", "number", "()I"⟩ : MethodName) (head1 (Jvm.Cond.code (⟨"com/example/faden/faden/rank/RecordReader", "number", "()I"⟩ : MethodName) prog_21_method_3_code 4 (some .int) :: ws) ({ frames := 0, cells := 0, slots := 0, locals := 0 } : Room)) (fun a U => a = #[(.ref o0)] ∧ Z.Warmed39 U.vm ∧ U.heap = h0) (fun _ _ _ _ _ => True) (fun _ U o U' => ∃ v L, o = .returned v ∧ (Q3a2k1 Z o0 ln G w_record h0 n0) v U'.heap L ∧ FrameEnd U o U' L ({ frames := 0, cells := 0, slots := 0, locals := 0 } : Room).cells ({ frames := 0, cells := 0, slots := 0, locals := 0 } : Room).slots) :=
  own_met (ret := (some .int)) (Q := (Q3a2k1 Z o0 ln G w_record h0 n0)) (plainFor_of_name pn_3) (fun m => ef_3 m o0) (fun p e s m below meth c s₁ X hx hby hml hown hnm hZ e0 => j3a2k1 X hx hZ hw hby hml hown hnm e0 (Fr.nil n0) Z0 o0 ln G w_record E_o0 g_o0 F_record_o0 F_at_o0 A_w_record ne_o0__w_record hln hb0)
theorem own_va2k13_77 (G : Nat → Int32) : (va2k13_77 G).toInt = ((G 2) &&& 255).toInt % 128 * 1 := by
  have m := Jvm.Kit.i32_mask (va2k13_46 G) 127 (k := 7) (by decide) (by decide)
  have e : (va2k13_46 G).toInt = ((G 2) &&& 255).toInt := by unfold va2k13_46; rw [own_c2]
  have u0 := Jvm.Kit.i32_mask (G 2) 255 (k := 8) (by decide) (by decide)
  have z0 : (0 : Int32).toInt = 0 := rfl
  have q := acc (a := (0 : Int32)) (g := (va2k13_46 G) &&& 127) (n := (0 : Int32) &&& 31) (k := 0) (by decide) (by omega) (by omega) (by omega) (by omega)
  unfold va2k13_77
  rw [q]; omega
def va3k13_46 (G : Nat → Int32) : Int32 := ((G ((3 : Int32)).toNatClampNeg) &&& (255 : Int32))
def va3k13_77 (G : Nat → Int32) : Int32 := ((0 : Int32) ||| (((va3k13_46 G) &&& (127 : Int32)) <<< ((0 : Int32) &&& 31)))
theorem bra3k13_13 (ln : Nat) (G : Nat → Int32) (hln : 4 ≤ ln ∧ ln < 100) (hb0 : ((G 3) &&& 255).toInt < 128) : ¬ ((3 : Int32) = (ln).toInt32) := own_ne 3 (by decide) (by omega)
theorem iba3k13_41 (ln : Nat) (G : Nat → Int32) (hln : 4 ≤ ln ∧ ln < 100) (hb0 : ((G 3) &&& 255).toInt < 128) : InB (3 : Int32) ln := own_in 3 (by decide) (by omega)
theorem bra3k13_82 (G : Nat → Int32) (ln : Nat) (hln : 4 ≤ ln ∧ ln < 100) (hb0 : ((G 3) &&& 255).toInt < 128) : (va3k13_46 G) < (128 : Int32) := by
  have c0 : (128 : Int32).toInt = 128 := rfl
  have c1 : (7 : Int32).toInt = 7 := rfl
  have e0 : (va3k13_46 G).toInt = ((G 3) &&& 255).toInt := by
    unfold va3k13_46; rw [own_c3]
  rw [i32lt, e0]; omega
def Q3a3k1 (Z : State) (o0 : Addr) (ln : Nat) (G : Nat → Int32) (w_record : Addr) (h0 : Heap) (n0 : Nat) : Option Value → Heap → List Loc → Prop := fun v h L => v = some (.int (va3k13_77 G)) ∧ Fr n0 L ∧ Keep h0 h [o0] ∧ Exa Z h o0 "com/example/faden/faden/rank/RecordReader" ∧ Fld Z h o0 "com/example/faden/faden/rank/RecordReader" "record" "[B" (.ref w_record) ∧ Fld Z h o0 "com/example/faden/faden/rank/RecordReader" "at" "I" (.int (4 : Int32))
set_option maxRecDepth 65536 in
set_option maxHeartbeats 40000000 in
theorem j3a3k1 {p : Program} {l : Launch} {e : Env} {s : State} {m : MethodId} {args : Array Value} {below : List Frame} {meth : Method} {c : Code} {T0 : State} {locs : List Loc} {Z : State} {a0 : Array Value} {h0 : Heap} {n0 : Nat}
    (X0 : Stand p l e ({ frames := 0, cells := 0, slots := 0, locals := 0 } : Room) s m args below meth c T0 locs 0 0) (hx : p.tables.exec = Jvm.exec) (hZ : Z.Warmed39 s.vm) (hw : ∀ d ∈ tables_1, d.before a0 Z = true) (hby : c.code = prog_21_method_3_code) (hml : c.maxLocals = 4) (hown : s.vm.findClass "com/example/faden/faden/rank/RecordReader" = some m.cls) (hnm : meth.name = "number") (e0 : T0.heap = h0) (N0 : Fr n0 locs) (Z0 : n0 ≤ h0.size) (o0 : Addr) (ln : Nat) (G : Nat → Int32) (w_record : Addr) (E_o0 : Exa Z h0 o0 "com/example/faden/faden/rank/RecordReader") (g_o0 : n0 ≤ o0) (F_record_o0 : Fld Z h0 o0 "com/example/faden/faden/rank/RecordReader" "record" "[B" (.ref w_record)) (F_at_o0 : Fld Z h0 o0 "com/example/faden/faden/rank/RecordReader" "at" "I" (.int (3 : Int32))) (A_w_record : Ary Z h0 w_record .byte ln (fun i => .int (G i))) (ne_o0__w_record : o0 ≠ w_record) (hln : 4 ≤ ln ∧ ln < 100) (hb0 : ((G 3) &&& 255).toInt < 128) :
    OwnFin X0 (some .int) (Q3a3k1 Z o0 ln G w_record h0 n0) ({ frames := 0, cells := 0, slots := 0, locals := 0 } : Room).cells ({ frames := 0, cells := 0, slots := 0, locals := 0 } : Room).slots (mkF m 0 #[.val (.ref o0), .unset, .unset, .unset] []) := by
  refine OwnFin.step (g' := (mkF m 1 #[.val (.ref o0), .unset, .unset, .unset] [(.int (0 : Int32))])) X0 (fun t k => XS.iconst X0.here hx rfl (hb hby d3_0) k) ?_
  refine OwnFin.step (g' := (mkF m 2 #[.val (.ref o0), .val (.int (0 : Int32)), .unset, .unset] [])) X0 (fun t k => XS.istoreN X0.here hx rfl (hb hby d3_1) rfl (l' := #[.val (.ref o0), .val (.int (0 : Int32)), .unset, .unset]) rfl k) ?_
  refine OwnFin.step (g' := (mkF m 3 #[.val (.ref o0), .val (.int (0 : Int32)), .unset, .unset] [(.int (0 : Int32))])) X0 (fun t k => XS.iconst X0.here hx rfl (hb hby d3_2) k) ?_
  refine OwnFin.step (g' := (mkF m 4 #[.val (.ref o0), .val (.int (0 : Int32)), .val (.int (0 : Int32)), .unset] [])) X0 (fun t k => XS.istoreN X0.here hx rfl (hb hby d3_3) rfl (l' := #[.val (.ref o0), .val (.int (0 : Int32)), .val (.int (0 : Int32)), .unset]) rfl k) ?_
  refine OwnFin.step (g' := (mkF m 5 #[.val (.ref o0), .val (.int (0 : Int32)), .val (.int (0 : Int32)), .unset] [(.ref o0)])) X0 (fun t k => XS.aloadN X0.here hx rfl (hb hby d3_4) rfl rfl k) ?_
  obtain ⟨T1, X1, e1, st1⟩ := getF X0 hx hZ hown (host := "") (Or.inl (hw _ (wm 20 rfl))) Via.refl e0 F_at_o0 (g := (mkF m 5 #[.val (.ref o0), .val (.int (0 : Int32)), .val (.int (0 : Int32)), .unset] [(.ref o0)])) rfl rfl (hb hby d3_5)
  refine OwnFin.step (g' := (mkF m 8 #[.val (.ref o0), .val (.int (0 : Int32)), .val (.int (0 : Int32)), .unset] [(.int (3 : Int32))])) X1 (fun t k => st1 _ k) ?_
  refine OwnFin.step (g' := (mkF m 9 #[.val (.ref o0), .val (.int (0 : Int32)), .val (.int (0 : Int32)), .unset] [(.ref o0), (.int (3 : Int32))])) X1 (fun t k => XS.aloadN X1.here hx rfl (hb hby d3_8) rfl rfl k) ?_
  obtain ⟨T2, X2, e2, st2⟩ := getF X1 hx hZ hown (host := "") (Or.inl (hw _ (wm 13 rfl))) Via.refl e1 F_record_o0 (g := (mkF m 9 #[.val (.ref o0), .val (.int (0 : Int32)), .val (.int (0 : Int32)), .unset] [(.ref o0), (.int (3 : Int32))])) rfl rfl (hb hby d3_9)
  refine OwnFin.step (g' := (mkF m 12 #[.val (.ref o0), .val (.int (0 : Int32)), .val (.int (0 : Int32)), .unset] [(.ref w_record), (.int (3 : Int32))])) X2 (fun t k => st2 _ k) ?_
  refine OwnFin.step (g' := (mkF m 13 #[.val (.ref o0), .val (.int (0 : Int32)), .val (.int (0 : Int32)), .unset] [(.int (ln).toInt32), (.int (3 : Int32))])) X2 (fun t k => own_len X2 hx hZ e2 A_w_record (g := (mkF m 12 #[.val (.ref o0), .val (.int (0 : Int32)), .val (.int (0 : Int32)), .unset] [(.ref w_record), (.int (3 : Int32))])) rfl rfl (hb hby d3_12) _ k) ?_
  refine OwnFin.step (g' := (mkF m 26 #[.val (.ref o0), .val (.int (0 : Int32)), .val (.int (0 : Int32)), .unset] [])) X2 (fun t k => XS.icmpYes X2.here hx rfl (pc0 := 13) (pc' := 26) rfl (hb hby d3_13) rfl (feq (bra3k13_13 ln G hln hb0)).2 (by decide) (by decide) k) ?_
  refine OwnFin.step (g' := (mkF m 27 #[.val (.ref o0), .val (.int (0 : Int32)), .val (.int (0 : Int32)), .unset] [(.ref o0)])) X2 (fun t k => XS.aloadN X2.here hx rfl (hb hby d3_26) rfl rfl k) ?_
  obtain ⟨T3, X3, e3, st3⟩ := getF X2 hx hZ hown (host := "") (Or.inl (hw _ (wm 13 rfl))) Via.refl e2 F_record_o0 (g := (mkF m 27 #[.val (.ref o0), .val (.int (0 : Int32)), .val (.int (0 : Int32)), .unset] [(.ref o0)])) rfl rfl (hb hby d3_27)
  refine OwnFin.step (g' := (mkF m 30 #[.val (.ref o0), .val (.int (0 : Int32)), .val (.int (0 : Int32)), .unset] [(.ref w_record)])) X3 (fun t k => st3 _ k) ?_
  refine OwnFin.step (g' := (mkF m 31 #[.val (.ref o0), .val (.int (0 : Int32)), .val (.int (0 : Int32)), .unset] [(.ref o0), (.ref w_record)])) X3 (fun t k => XS.aloadN X3.here hx rfl (hb hby d3_30) rfl rfl k) ?_
  refine OwnFin.step (g' := (mkF m 32 #[.val (.ref o0), .val (.int (0 : Int32)), .val (.int (0 : Int32)), .unset] [(.ref o0), (.ref o0), (.ref w_record)])) X3 (fun t k => XS.dup X3.here hx rfl (hb hby d3_31) rfl rfl k) ?_
  obtain ⟨T4, X4, e4, st4⟩ := getF X3 hx hZ hown (host := "") (Or.inl (hw _ (wm 20 rfl))) Via.refl e3 F_at_o0 (g := (mkF m 32 #[.val (.ref o0), .val (.int (0 : Int32)), .val (.int (0 : Int32)), .unset] [(.ref o0), (.ref o0), (.ref w_record)])) rfl rfl (hb hby d3_32)
  refine OwnFin.step (g' := (mkF m 35 #[.val (.ref o0), .val (.int (0 : Int32)), .val (.int (0 : Int32)), .unset] [(.int (3 : Int32)), (.ref o0), (.ref w_record)])) X4 (fun t k => st4 _ k) ?_
  refine OwnFin.step (g' := (mkF m 36 #[.val (.ref o0), .val (.int (0 : Int32)), .val (.int (0 : Int32)), .unset] [(.int (3 : Int32)), (.ref o0), (.int (3 : Int32)), (.ref w_record)])) X4 (fun t k => XT.dupX1 X4.here hx rfl (hb hby d3_35) rfl rfl rfl k) ?_
  refine OwnFin.step (g' := (mkF m 37 #[.val (.ref o0), .val (.int (0 : Int32)), .val (.int (0 : Int32)), .unset] [(.int (1 : Int32)), (.int (3 : Int32)), (.ref o0), (.int (3 : Int32)), (.ref w_record)])) X4 (fun t k => XS.iconst X4.here hx rfl (hb hby d3_36) k) ?_
  refine OwnFin.step (g' := (mkF m 38 #[.val (.ref o0), .val (.int (0 : Int32)), .val (.int (0 : Int32)), .unset] [(.int (4 : Int32)), (.ref o0), (.int (3 : Int32)), (.ref w_record)])) X4 (fun t k => XS.iadd X4.here hx rfl (hb hby d3_37) rfl k) ?_
  obtain ⟨T5, h5, L5, X5, e5, N5, W5, F5, st5⟩ := own_putF X4 hx hZ hown (hw _ (wm 20 rfl)) e4 N0 F_at_o0 E_o0 g_o0 (Or.inl (hw _ (wm 21 rfl))) (hw _ (wm 5 rfl)) (fty := .int) (by decide) rfl rfl (g := (mkF m 38 #[.val (.ref o0), .val (.int (0 : Int32)), .val (.int (0 : Int32)), .unset] [(.int (4 : Int32)), (.ref o0), (.int (3 : Int32)), (.ref w_record)])) rfl rfl (hb hby d3_38)
  have K5 := Keep.of_wr W5
  have Z5 := Nat.le_trans Z0 K5.1
  have S5 := Nat.le_trans (Nat.le_refl h0.size) K5.1
  have F6 := Fld.other W5 F_record_o0 (Or.inr (slot_ne (Or.inr (hw _ (wm 14 rfl))) (Or.inl (hw _ (wm 21 rfl))) (by decide) (t := (.array .byte)) (t' := .int) (by decide) (by decide)))
  have E7 := Exa.wr W5 E_o0
  refine OwnFin.step (g' := (mkF m 41 #[.val (.ref o0), .val (.int (0 : Int32)), .val (.int (0 : Int32)), .unset] [(.int (3 : Int32)), (.ref w_record)])) X5 (fun t k => st5 _ k) ?_
  have A8 := (A_w_record.keep K5 (ninS (Ne.symm ne_o0__w_record) nin0))
  refine OwnFin.step (g' := (mkF m 42 #[.val (.ref o0), .val (.int (0 : Int32)), .val (.int (0 : Int32)), .unset] [(.int (G ((3 : Int32)).toNatClampNeg))])) X5 (fun t k => own_ldB X5 hx hZ e5 A8 (iba3k13_41 ln G hln hb0) rfl (g := (mkF m 41 #[.val (.ref o0), .val (.int (0 : Int32)), .val (.int (0 : Int32)), .unset] [(.int (3 : Int32)), (.ref w_record)])) rfl rfl (hb hby d3_41) _ k) ?_
  refine OwnFin.step (g' := (mkF m 45 #[.val (.ref o0), .val (.int (0 : Int32)), .val (.int (0 : Int32)), .unset] [(.int (255 : Int32)), (.int (G ((3 : Int32)).toNatClampNeg))])) X5 (fun t k => XS.sipush X5.here hx rfl (hb hby d3_42) k) ?_
  refine OwnFin.step (g' := (mkF m 46 #[.val (.ref o0), .val (.int (0 : Int32)), .val (.int (0 : Int32)), .unset] [(.int ((G ((3 : Int32)).toNatClampNeg) &&& (255 : Int32)))])) X5 (fun t k => XS.iand X5.here hx rfl (hb hby d3_45) rfl k) ?_
  refine OwnFin.step (g' := (mkF m 47 #[.val (.ref o0), .val (.int (0 : Int32)), .val (.int (0 : Int32)), .val (.int (va3k13_46 G))] [])) X5 (fun t k => XS.istoreN X5.here hx rfl (hb hby d3_46) rfl (l' := #[.val (.ref o0), .val (.int (0 : Int32)), .val (.int (0 : Int32)), .val (.int (va3k13_46 G))]) rfl k) ?_
  refine OwnFin.step (g' := (mkF m 48 #[.val (.ref o0), .val (.int (0 : Int32)), .val (.int (0 : Int32)), .val (.int (va3k13_46 G))] [(.int (0 : Int32))])) X5 (fun t k => XS.iloadN X5.here hx rfl (hb hby d3_47) rfl k) ?_
  refine OwnFin.step (g' := (mkF m 50 #[.val (.ref o0), .val (.int (0 : Int32)), .val (.int (0 : Int32)), .val (.int (va3k13_46 G))] [(.int (28 : Int32)), (.int (0 : Int32))])) X5 (fun t k => XS.bipush X5.here hx rfl (hb hby d3_48) k) ?_
  refine OwnFin.step (g' := (mkF m 69 #[.val (.ref o0), .val (.int (0 : Int32)), .val (.int (0 : Int32)), .val (.int (va3k13_46 G))] [])) X5 (fun t k => XS.icmpYes X5.here hx rfl (pc0 := 50) (pc' := 69) rfl (hb hby d3_50) rfl (feq (show ¬ ((0 : Int32) = (28 : Int32)) by first | decide | exact Int32.lt_irrefl _ | exact Int64.lt_irrefl _)).2 (by decide) (by decide) k) ?_
  refine OwnFin.step (g' := (mkF m 70 #[.val (.ref o0), .val (.int (0 : Int32)), .val (.int (0 : Int32)), .val (.int (va3k13_46 G))] [(.int (0 : Int32))])) X5 (fun t k => XS.iloadN X5.here hx rfl (hb hby d3_69) rfl k) ?_
  refine OwnFin.step (g' := (mkF m 71 #[.val (.ref o0), .val (.int (0 : Int32)), .val (.int (0 : Int32)), .val (.int (va3k13_46 G))] [(.int (va3k13_46 G)), (.int (0 : Int32))])) X5 (fun t k => XS.iloadN X5.here hx rfl (hb hby d3_70) rfl k) ?_
  refine OwnFin.step (g' := (mkF m 73 #[.val (.ref o0), .val (.int (0 : Int32)), .val (.int (0 : Int32)), .val (.int (va3k13_46 G))] [(.int (127 : Int32)), (.int (va3k13_46 G)), (.int (0 : Int32))])) X5 (fun t k => XS.bipush X5.here hx rfl (hb hby d3_71) k) ?_
  refine OwnFin.step (g' := (mkF m 74 #[.val (.ref o0), .val (.int (0 : Int32)), .val (.int (0 : Int32)), .val (.int (va3k13_46 G))] [(.int ((va3k13_46 G) &&& (127 : Int32))), (.int (0 : Int32))])) X5 (fun t k => XS.iand X5.here hx rfl (hb hby d3_73) rfl k) ?_
  refine OwnFin.step (g' := (mkF m 75 #[.val (.ref o0), .val (.int (0 : Int32)), .val (.int (0 : Int32)), .val (.int (va3k13_46 G))] [(.int (0 : Int32)), (.int ((va3k13_46 G) &&& (127 : Int32))), (.int (0 : Int32))])) X5 (fun t k => XS.iloadN X5.here hx rfl (hb hby d3_74) rfl k) ?_
  refine OwnFin.step (g' := (mkF m 76 #[.val (.ref o0), .val (.int (0 : Int32)), .val (.int (0 : Int32)), .val (.int (va3k13_46 G))] [(.int (((va3k13_46 G) &&& (127 : Int32)) <<< ((0 : Int32) &&& 31))), (.int (0 : Int32))])) X5 (fun t k => XT.ishl X5.here hx rfl (hb hby d3_75) rfl k) ?_
  refine OwnFin.step (g' := (mkF m 77 #[.val (.ref o0), .val (.int (0 : Int32)), .val (.int (0 : Int32)), .val (.int (va3k13_46 G))] [(.int ((0 : Int32) ||| (((va3k13_46 G) &&& (127 : Int32)) <<< ((0 : Int32) &&& 31))))])) X5 (fun t k => XT.ior X5.here hx rfl (hb hby d3_76) rfl k) ?_
  refine OwnFin.step (g' := (mkF m 78 #[.val (.ref o0), .val (.int (va3k13_77 G)), .val (.int (0 : Int32)), .val (.int (va3k13_46 G))] [])) X5 (fun t k => XS.istoreN X5.here hx rfl (hb hby d3_77) rfl (l' := #[.val (.ref o0), .val (.int (va3k13_77 G)), .val (.int (0 : Int32)), .val (.int (va3k13_46 G))]) rfl k) ?_
  refine OwnFin.step (g' := (mkF m 79 #[.val (.ref o0), .val (.int (va3k13_77 G)), .val (.int (0 : Int32)), .val (.int (va3k13_46 G))] [(.int (va3k13_46 G))])) X5 (fun t k => XS.iloadN X5.here hx rfl (hb hby d3_78) rfl k) ?_
  refine OwnFin.step (g' := (mkF m 82 #[.val (.ref o0), .val (.int (va3k13_77 G)), .val (.int (0 : Int32)), .val (.int (va3k13_46 G))] [(.int (128 : Int32)), (.int (va3k13_46 G))])) X5 (fun t k => XS.sipush X5.here hx rfl (hb hby d3_79) k) ?_
  refine OwnFin.step (g' := (mkF m 85 #[.val (.ref o0), .val (.int (va3k13_77 G)), .val (.int (0 : Int32)), .val (.int (va3k13_46 G))] [])) X5 (fun t k => XS.icmpNo X5.here hx rfl (hb hby d3_82) rfl (tlt (bra3k13_82 G ln hln hb0)).2.1 k) ?_
  refine OwnFin.step (g' := (mkF m 86 #[.val (.ref o0), .val (.int (va3k13_77 G)), .val (.int (0 : Int32)), .val (.int (va3k13_46 G))] [(.int (va3k13_77 G))])) X5 (fun t k => XS.iloadN X5.here hx rfl (hb hby d3_85) rfl k) ?_
  refine OwnFin.retInt X5 (hb hby d3_86) (by decide) (by decide) ?_
  rw [e5]
  exact ⟨rfl, N5, (Keep.trans (Keep.refl h0 [o0]) K5 (allS (Or.inl (wm 0 rfl)) all0)), E7, F6, F5⟩
set_option maxRecDepth 65536 in
set_option maxHeartbeats 40000000 in
theorem rm3a3k1 (l : Launch) (Z : State) (a0 : Array Value) (hw : ∀ d ∈ tables_1, d.before a0 Z = true) (ws : List Jvm.Cond) (o0 : Addr) (ln : Nat) (G : Nat → Int32) (w_record : Addr) (h0 : Heap) (n0 : Nat) (Z0 : n0 ≤ h0.size) (E_o0 : Exa Z h0 o0 "com/example/faden/faden/rank/RecordReader") (g_o0 : n0 ≤ o0) (F_record_o0 : Fld Z h0 o0 "com/example/faden/faden/rank/RecordReader" "record" "[B" (.ref w_record)) (F_at_o0 : Fld Z h0 o0 "com/example/faden/faden/rank/RecordReader" "at" "I" (.int (3 : Int32))) (A_w_record : Ary Z h0 w_record .byte ln (fun i => .int (G i))) (ne_o0__w_record : o0 ≠ w_record) (hln : 4 ≤ ln ∧ ln < 100) (hb0 : ((G 3) &&& 255).toInt < 128) :
    MetFree l (⟨"com/example/faden/faden/rank/RecordReader", "number", "()I"⟩ : MethodName) (head1 (Jvm.Cond.code (⟨"com/example/faden/faden/rank/RecordReader", "number", "()I"⟩ : MethodName) prog_21_method_3_code 4 (some .int) :: ws) ({ frames := 0, cells := 0, slots := 0, locals := 0 } : Room)) (fun a U => a = #[(.ref o0)] ∧ Z.Warmed39 U.vm ∧ U.heap = h0) (fun _ _ _ _ _ => True) (fun _ U o U' => ∃ v L, o = .returned v ∧ (Q3a3k1 Z o0 ln G w_record h0 n0) v U'.heap L ∧ FrameEnd U o U' L ({ frames := 0, cells := 0, slots := 0, locals := 0 } : Room).cells ({ frames := 0, cells := 0, slots := 0, locals := 0 } : Room).slots) :=
  own_met (ret := (some .int)) (Q := (Q3a3k1 Z o0 ln G w_record h0 n0)) (plainFor_of_name pn_3) (fun m => ef_3 m o0) (fun p e s m below meth c s₁ X hx hby hml hown hnm hZ e0 => j3a3k1 X hx hZ hw hby hml hown hnm e0 (Fr.nil n0) Z0 o0 ln G w_record E_o0 g_o0 F_record_o0 F_at_o0 A_w_record ne_o0__w_record hln hb0)
theorem own_va3k13_77 (G : Nat → Int32) : (va3k13_77 G).toInt = ((G 3) &&& 255).toInt % 128 * 1 := by
  have m := Jvm.Kit.i32_mask (va3k13_46 G) 127 (k := 7) (by decide) (by decide)
  have e : (va3k13_46 G).toInt = ((G 3) &&& 255).toInt := by unfold va3k13_46; rw [own_c3]
  have u0 := Jvm.Kit.i32_mask (G 3) 255 (k := 8) (by decide) (by decide)
  have z0 : (0 : Int32).toInt = 0 := rfl
  have q := acc (a := (0 : Int32)) (g := (va3k13_46 G) &&& 127) (n := (0 : Int32) &&& 31) (k := 0) (by decide) (by omega) (by omega) (by omega) (by omega)
  unfold va3k13_77
  rw [q]; omega
def va4k13_46 (G : Nat → Int32) : Int32 := ((G ((4 : Int32)).toNatClampNeg) &&& (255 : Int32))
def va4k13_77 (G : Nat → Int32) : Int32 := ((0 : Int32) ||| (((va4k13_46 G) &&& (127 : Int32)) <<< ((0 : Int32) &&& 31)))
theorem bra4k13_13 (ln : Nat) (G : Nat → Int32) (hln : 5 ≤ ln ∧ ln < 100) (hb0 : ((G 4) &&& 255).toInt < 128) : ¬ ((4 : Int32) = (ln).toInt32) := own_ne 4 (by decide) (by omega)
theorem iba4k13_41 (ln : Nat) (G : Nat → Int32) (hln : 5 ≤ ln ∧ ln < 100) (hb0 : ((G 4) &&& 255).toInt < 128) : InB (4 : Int32) ln := own_in 4 (by decide) (by omega)
theorem bra4k13_82 (G : Nat → Int32) (ln : Nat) (hln : 5 ≤ ln ∧ ln < 100) (hb0 : ((G 4) &&& 255).toInt < 128) : (va4k13_46 G) < (128 : Int32) := by
  have c0 : (128 : Int32).toInt = 128 := rfl
  have c1 : (7 : Int32).toInt = 7 := rfl
  have e0 : (va4k13_46 G).toInt = ((G 4) &&& 255).toInt := by
    unfold va4k13_46; rw [own_c4]
  rw [i32lt, e0]; omega
def Q3a4k1 (Z : State) (o0 : Addr) (ln : Nat) (G : Nat → Int32) (w_record : Addr) (h0 : Heap) (n0 : Nat) : Option Value → Heap → List Loc → Prop := fun v h L => v = some (.int (va4k13_77 G)) ∧ Fr n0 L ∧ Keep h0 h [o0] ∧ Exa Z h o0 "com/example/faden/faden/rank/RecordReader" ∧ Fld Z h o0 "com/example/faden/faden/rank/RecordReader" "record" "[B" (.ref w_record) ∧ Fld Z h o0 "com/example/faden/faden/rank/RecordReader" "at" "I" (.int (5 : Int32))
set_option maxRecDepth 65536 in
set_option maxHeartbeats 40000000 in
theorem j3a4k1 {p : Program} {l : Launch} {e : Env} {s : State} {m : MethodId} {args : Array Value} {below : List Frame} {meth : Method} {c : Code} {T0 : State} {locs : List Loc} {Z : State} {a0 : Array Value} {h0 : Heap} {n0 : Nat}
    (X0 : Stand p l e ({ frames := 0, cells := 0, slots := 0, locals := 0 } : Room) s m args below meth c T0 locs 0 0) (hx : p.tables.exec = Jvm.exec) (hZ : Z.Warmed39 s.vm) (hw : ∀ d ∈ tables_1, d.before a0 Z = true) (hby : c.code = prog_21_method_3_code) (hml : c.maxLocals = 4) (hown : s.vm.findClass "com/example/faden/faden/rank/RecordReader" = some m.cls) (hnm : meth.name = "number") (e0 : T0.heap = h0) (N0 : Fr n0 locs) (Z0 : n0 ≤ h0.size) (o0 : Addr) (ln : Nat) (G : Nat → Int32) (w_record : Addr) (E_o0 : Exa Z h0 o0 "com/example/faden/faden/rank/RecordReader") (g_o0 : n0 ≤ o0) (F_record_o0 : Fld Z h0 o0 "com/example/faden/faden/rank/RecordReader" "record" "[B" (.ref w_record)) (F_at_o0 : Fld Z h0 o0 "com/example/faden/faden/rank/RecordReader" "at" "I" (.int (4 : Int32))) (A_w_record : Ary Z h0 w_record .byte ln (fun i => .int (G i))) (ne_o0__w_record : o0 ≠ w_record) (hln : 5 ≤ ln ∧ ln < 100) (hb0 : ((G 4) &&& 255).toInt < 128) :
    OwnFin X0 (some .int) (Q3a4k1 Z o0 ln G w_record h0 n0) ({ frames := 0, cells := 0, slots := 0, locals := 0 } : Room).cells ({ frames := 0, cells := 0, slots := 0, locals := 0 } : Room).slots (mkF m 0 #[.val (.ref o0), .unset, .unset, .unset] []) := by
  refine OwnFin.step (g' := (mkF m 1 #[.val (.ref o0), .unset, .unset, .unset] [(.int (0 : Int32))])) X0 (fun t k => XS.iconst X0.here hx rfl (hb hby d3_0) k) ?_
  refine OwnFin.step (g' := (mkF m 2 #[.val (.ref o0), .val (.int (0 : Int32)), .unset, .unset] [])) X0 (fun t k => XS.istoreN X0.here hx rfl (hb hby d3_1) rfl (l' := #[.val (.ref o0), .val (.int (0 : Int32)), .unset, .unset]) rfl k) ?_
  refine OwnFin.step (g' := (mkF m 3 #[.val (.ref o0), .val (.int (0 : Int32)), .unset, .unset] [(.int (0 : Int32))])) X0 (fun t k => XS.iconst X0.here hx rfl (hb hby d3_2) k) ?_
  refine OwnFin.step (g' := (mkF m 4 #[.val (.ref o0), .val (.int (0 : Int32)), .val (.int (0 : Int32)), .unset] [])) X0 (fun t k => XS.istoreN X0.here hx rfl (hb hby d3_3) rfl (l' := #[.val (.ref o0), .val (.int (0 : Int32)), .val (.int (0 : Int32)), .unset]) rfl k) ?_
  refine OwnFin.step (g' := (mkF m 5 #[.val (.ref o0), .val (.int (0 : Int32)), .val (.int (0 : Int32)), .unset] [(.ref o0)])) X0 (fun t k => XS.aloadN X0.here hx rfl (hb hby d3_4) rfl rfl k) ?_
  obtain ⟨T1, X1, e1, st1⟩ := getF X0 hx hZ hown (host := "") (Or.inl (hw _ (wm 20 rfl))) Via.refl e0 F_at_o0 (g := (mkF m 5 #[.val (.ref o0), .val (.int (0 : Int32)), .val (.int (0 : Int32)), .unset] [(.ref o0)])) rfl rfl (hb hby d3_5)
  refine OwnFin.step (g' := (mkF m 8 #[.val (.ref o0), .val (.int (0 : Int32)), .val (.int (0 : Int32)), .unset] [(.int (4 : Int32))])) X1 (fun t k => st1 _ k) ?_
  refine OwnFin.step (g' := (mkF m 9 #[.val (.ref o0), .val (.int (0 : Int32)), .val (.int (0 : Int32)), .unset] [(.ref o0), (.int (4 : Int32))])) X1 (fun t k => XS.aloadN X1.here hx rfl (hb hby d3_8) rfl rfl k) ?_
  obtain ⟨T2, X2, e2, st2⟩ := getF X1 hx hZ hown (host := "") (Or.inl (hw _ (wm 13 rfl))) Via.refl e1 F_record_o0 (g := (mkF m 9 #[.val (.ref o0), .val (.int (0 : Int32)), .val (.int (0 : Int32)), .unset] [(.ref o0), (.int (4 : Int32))])) rfl rfl (hb hby d3_9)
  refine OwnFin.step (g' := (mkF m 12 #[.val (.ref o0), .val (.int (0 : Int32)), .val (.int (0 : Int32)), .unset] [(.ref w_record), (.int (4 : Int32))])) X2 (fun t k => st2 _ k) ?_
  refine OwnFin.step (g' := (mkF m 13 #[.val (.ref o0), .val (.int (0 : Int32)), .val (.int (0 : Int32)), .unset] [(.int (ln).toInt32), (.int (4 : Int32))])) X2 (fun t k => own_len X2 hx hZ e2 A_w_record (g := (mkF m 12 #[.val (.ref o0), .val (.int (0 : Int32)), .val (.int (0 : Int32)), .unset] [(.ref w_record), (.int (4 : Int32))])) rfl rfl (hb hby d3_12) _ k) ?_
  refine OwnFin.step (g' := (mkF m 26 #[.val (.ref o0), .val (.int (0 : Int32)), .val (.int (0 : Int32)), .unset] [])) X2 (fun t k => XS.icmpYes X2.here hx rfl (pc0 := 13) (pc' := 26) rfl (hb hby d3_13) rfl (feq (bra4k13_13 ln G hln hb0)).2 (by decide) (by decide) k) ?_
  refine OwnFin.step (g' := (mkF m 27 #[.val (.ref o0), .val (.int (0 : Int32)), .val (.int (0 : Int32)), .unset] [(.ref o0)])) X2 (fun t k => XS.aloadN X2.here hx rfl (hb hby d3_26) rfl rfl k) ?_
  obtain ⟨T3, X3, e3, st3⟩ := getF X2 hx hZ hown (host := "") (Or.inl (hw _ (wm 13 rfl))) Via.refl e2 F_record_o0 (g := (mkF m 27 #[.val (.ref o0), .val (.int (0 : Int32)), .val (.int (0 : Int32)), .unset] [(.ref o0)])) rfl rfl (hb hby d3_27)
  refine OwnFin.step (g' := (mkF m 30 #[.val (.ref o0), .val (.int (0 : Int32)), .val (.int (0 : Int32)), .unset] [(.ref w_record)])) X3 (fun t k => st3 _ k) ?_
  refine OwnFin.step (g' := (mkF m 31 #[.val (.ref o0), .val (.int (0 : Int32)), .val (.int (0 : Int32)), .unset] [(.ref o0), (.ref w_record)])) X3 (fun t k => XS.aloadN X3.here hx rfl (hb hby d3_30) rfl rfl k) ?_
  refine OwnFin.step (g' := (mkF m 32 #[.val (.ref o0), .val (.int (0 : Int32)), .val (.int (0 : Int32)), .unset] [(.ref o0), (.ref o0), (.ref w_record)])) X3 (fun t k => XS.dup X3.here hx rfl (hb hby d3_31) rfl rfl k) ?_
  obtain ⟨T4, X4, e4, st4⟩ := getF X3 hx hZ hown (host := "") (Or.inl (hw _ (wm 20 rfl))) Via.refl e3 F_at_o0 (g := (mkF m 32 #[.val (.ref o0), .val (.int (0 : Int32)), .val (.int (0 : Int32)), .unset] [(.ref o0), (.ref o0), (.ref w_record)])) rfl rfl (hb hby d3_32)
  refine OwnFin.step (g' := (mkF m 35 #[.val (.ref o0), .val (.int (0 : Int32)), .val (.int (0 : Int32)), .unset] [(.int (4 : Int32)), (.ref o0), (.ref w_record)])) X4 (fun t k => st4 _ k) ?_
  refine OwnFin.step (g' := (mkF m 36 #[.val (.ref o0), .val (.int (0 : Int32)), .val (.int (0 : Int32)), .unset] [(.int (4 : Int32)), (.ref o0), (.int (4 : Int32)), (.ref w_record)])) X4 (fun t k => XT.dupX1 X4.here hx rfl (hb hby d3_35) rfl rfl rfl k) ?_
  refine OwnFin.step (g' := (mkF m 37 #[.val (.ref o0), .val (.int (0 : Int32)), .val (.int (0 : Int32)), .unset] [(.int (1 : Int32)), (.int (4 : Int32)), (.ref o0), (.int (4 : Int32)), (.ref w_record)])) X4 (fun t k => XS.iconst X4.here hx rfl (hb hby d3_36) k) ?_
  refine OwnFin.step (g' := (mkF m 38 #[.val (.ref o0), .val (.int (0 : Int32)), .val (.int (0 : Int32)), .unset] [(.int (5 : Int32)), (.ref o0), (.int (4 : Int32)), (.ref w_record)])) X4 (fun t k => XS.iadd X4.here hx rfl (hb hby d3_37) rfl k) ?_
  obtain ⟨T5, h5, L5, X5, e5, N5, W5, F5, st5⟩ := own_putF X4 hx hZ hown (hw _ (wm 20 rfl)) e4 N0 F_at_o0 E_o0 g_o0 (Or.inl (hw _ (wm 21 rfl))) (hw _ (wm 5 rfl)) (fty := .int) (by decide) rfl rfl (g := (mkF m 38 #[.val (.ref o0), .val (.int (0 : Int32)), .val (.int (0 : Int32)), .unset] [(.int (5 : Int32)), (.ref o0), (.int (4 : Int32)), (.ref w_record)])) rfl rfl (hb hby d3_38)
  have K5 := Keep.of_wr W5
  have Z5 := Nat.le_trans Z0 K5.1
  have S5 := Nat.le_trans (Nat.le_refl h0.size) K5.1
  have F6 := Fld.other W5 F_record_o0 (Or.inr (slot_ne (Or.inr (hw _ (wm 14 rfl))) (Or.inl (hw _ (wm 21 rfl))) (by decide) (t := (.array .byte)) (t' := .int) (by decide) (by decide)))
  have E7 := Exa.wr W5 E_o0
  refine OwnFin.step (g' := (mkF m 41 #[.val (.ref o0), .val (.int (0 : Int32)), .val (.int (0 : Int32)), .unset] [(.int (4 : Int32)), (.ref w_record)])) X5 (fun t k => st5 _ k) ?_
  have A8 := (A_w_record.keep K5 (ninS (Ne.symm ne_o0__w_record) nin0))
  refine OwnFin.step (g' := (mkF m 42 #[.val (.ref o0), .val (.int (0 : Int32)), .val (.int (0 : Int32)), .unset] [(.int (G ((4 : Int32)).toNatClampNeg))])) X5 (fun t k => own_ldB X5 hx hZ e5 A8 (iba4k13_41 ln G hln hb0) rfl (g := (mkF m 41 #[.val (.ref o0), .val (.int (0 : Int32)), .val (.int (0 : Int32)), .unset] [(.int (4 : Int32)), (.ref w_record)])) rfl rfl (hb hby d3_41) _ k) ?_
  refine OwnFin.step (g' := (mkF m 45 #[.val (.ref o0), .val (.int (0 : Int32)), .val (.int (0 : Int32)), .unset] [(.int (255 : Int32)), (.int (G ((4 : Int32)).toNatClampNeg))])) X5 (fun t k => XS.sipush X5.here hx rfl (hb hby d3_42) k) ?_
  refine OwnFin.step (g' := (mkF m 46 #[.val (.ref o0), .val (.int (0 : Int32)), .val (.int (0 : Int32)), .unset] [(.int ((G ((4 : Int32)).toNatClampNeg) &&& (255 : Int32)))])) X5 (fun t k => XS.iand X5.here hx rfl (hb hby d3_45) rfl k) ?_
  refine OwnFin.step (g' := (mkF m 47 #[.val (.ref o0), .val (.int (0 : Int32)), .val (.int (0 : Int32)), .val (.int (va4k13_46 G))] [])) X5 (fun t k => XS.istoreN X5.here hx rfl (hb hby d3_46) rfl (l' := #[.val (.ref o0), .val (.int (0 : Int32)), .val (.int (0 : Int32)), .val (.int (va4k13_46 G))]) rfl k) ?_
  refine OwnFin.step (g' := (mkF m 48 #[.val (.ref o0), .val (.int (0 : Int32)), .val (.int (0 : Int32)), .val (.int (va4k13_46 G))] [(.int (0 : Int32))])) X5 (fun t k => XS.iloadN X5.here hx rfl (hb hby d3_47) rfl k) ?_
  refine OwnFin.step (g' := (mkF m 50 #[.val (.ref o0), .val (.int (0 : Int32)), .val (.int (0 : Int32)), .val (.int (va4k13_46 G))] [(.int (28 : Int32)), (.int (0 : Int32))])) X5 (fun t k => XS.bipush X5.here hx rfl (hb hby d3_48) k) ?_
  refine OwnFin.step (g' := (mkF m 69 #[.val (.ref o0), .val (.int (0 : Int32)), .val (.int (0 : Int32)), .val (.int (va4k13_46 G))] [])) X5 (fun t k => XS.icmpYes X5.here hx rfl (pc0 := 50) (pc' := 69) rfl (hb hby d3_50) rfl (feq (show ¬ ((0 : Int32) = (28 : Int32)) by first | decide | exact Int32.lt_irrefl _ | exact Int64.lt_irrefl _)).2 (by decide) (by decide) k) ?_
  refine OwnFin.step (g' := (mkF m 70 #[.val (.ref o0), .val (.int (0 : Int32)), .val (.int (0 : Int32)), .val (.int (va4k13_46 G))] [(.int (0 : Int32))])) X5 (fun t k => XS.iloadN X5.here hx rfl (hb hby d3_69) rfl k) ?_
  refine OwnFin.step (g' := (mkF m 71 #[.val (.ref o0), .val (.int (0 : Int32)), .val (.int (0 : Int32)), .val (.int (va4k13_46 G))] [(.int (va4k13_46 G)), (.int (0 : Int32))])) X5 (fun t k => XS.iloadN X5.here hx rfl (hb hby d3_70) rfl k) ?_
  refine OwnFin.step (g' := (mkF m 73 #[.val (.ref o0), .val (.int (0 : Int32)), .val (.int (0 : Int32)), .val (.int (va4k13_46 G))] [(.int (127 : Int32)), (.int (va4k13_46 G)), (.int (0 : Int32))])) X5 (fun t k => XS.bipush X5.here hx rfl (hb hby d3_71) k) ?_
  refine OwnFin.step (g' := (mkF m 74 #[.val (.ref o0), .val (.int (0 : Int32)), .val (.int (0 : Int32)), .val (.int (va4k13_46 G))] [(.int ((va4k13_46 G) &&& (127 : Int32))), (.int (0 : Int32))])) X5 (fun t k => XS.iand X5.here hx rfl (hb hby d3_73) rfl k) ?_
  refine OwnFin.step (g' := (mkF m 75 #[.val (.ref o0), .val (.int (0 : Int32)), .val (.int (0 : Int32)), .val (.int (va4k13_46 G))] [(.int (0 : Int32)), (.int ((va4k13_46 G) &&& (127 : Int32))), (.int (0 : Int32))])) X5 (fun t k => XS.iloadN X5.here hx rfl (hb hby d3_74) rfl k) ?_
  refine OwnFin.step (g' := (mkF m 76 #[.val (.ref o0), .val (.int (0 : Int32)), .val (.int (0 : Int32)), .val (.int (va4k13_46 G))] [(.int (((va4k13_46 G) &&& (127 : Int32)) <<< ((0 : Int32) &&& 31))), (.int (0 : Int32))])) X5 (fun t k => XT.ishl X5.here hx rfl (hb hby d3_75) rfl k) ?_
  refine OwnFin.step (g' := (mkF m 77 #[.val (.ref o0), .val (.int (0 : Int32)), .val (.int (0 : Int32)), .val (.int (va4k13_46 G))] [(.int ((0 : Int32) ||| (((va4k13_46 G) &&& (127 : Int32)) <<< ((0 : Int32) &&& 31))))])) X5 (fun t k => XT.ior X5.here hx rfl (hb hby d3_76) rfl k) ?_
  refine OwnFin.step (g' := (mkF m 78 #[.val (.ref o0), .val (.int (va4k13_77 G)), .val (.int (0 : Int32)), .val (.int (va4k13_46 G))] [])) X5 (fun t k => XS.istoreN X5.here hx rfl (hb hby d3_77) rfl (l' := #[.val (.ref o0), .val (.int (va4k13_77 G)), .val (.int (0 : Int32)), .val (.int (va4k13_46 G))]) rfl k) ?_
  refine OwnFin.step (g' := (mkF m 79 #[.val (.ref o0), .val (.int (va4k13_77 G)), .val (.int (0 : Int32)), .val (.int (va4k13_46 G))] [(.int (va4k13_46 G))])) X5 (fun t k => XS.iloadN X5.here hx rfl (hb hby d3_78) rfl k) ?_
  refine OwnFin.step (g' := (mkF m 82 #[.val (.ref o0), .val (.int (va4k13_77 G)), .val (.int (0 : Int32)), .val (.int (va4k13_46 G))] [(.int (128 : Int32)), (.int (va4k13_46 G))])) X5 (fun t k => XS.sipush X5.here hx rfl (hb hby d3_79) k) ?_
  refine OwnFin.step (g' := (mkF m 85 #[.val (.ref o0), .val (.int (va4k13_77 G)), .val (.int (0 : Int32)), .val (.int (va4k13_46 G))] [])) X5 (fun t k => XS.icmpNo X5.here hx rfl (hb hby d3_82) rfl (tlt (bra4k13_82 G ln hln hb0)).2.1 k) ?_
  refine OwnFin.step (g' := (mkF m 86 #[.val (.ref o0), .val (.int (va4k13_77 G)), .val (.int (0 : Int32)), .val (.int (va4k13_46 G))] [(.int (va4k13_77 G))])) X5 (fun t k => XS.iloadN X5.here hx rfl (hb hby d3_85) rfl k) ?_
  refine OwnFin.retInt X5 (hb hby d3_86) (by decide) (by decide) ?_
  rw [e5]
  exact ⟨rfl, N5, (Keep.trans (Keep.refl h0 [o0]) K5 (allS (Or.inl (wm 0 rfl)) all0)), E7, F6, F5⟩
set_option maxRecDepth 65536 in
set_option maxHeartbeats 40000000 in
theorem rm3a4k1 (l : Launch) (Z : State) (a0 : Array Value) (hw : ∀ d ∈ tables_1, d.before a0 Z = true) (ws : List Jvm.Cond) (o0 : Addr) (ln : Nat) (G : Nat → Int32) (w_record : Addr) (h0 : Heap) (n0 : Nat) (Z0 : n0 ≤ h0.size) (E_o0 : Exa Z h0 o0 "com/example/faden/faden/rank/RecordReader") (g_o0 : n0 ≤ o0) (F_record_o0 : Fld Z h0 o0 "com/example/faden/faden/rank/RecordReader" "record" "[B" (.ref w_record)) (F_at_o0 : Fld Z h0 o0 "com/example/faden/faden/rank/RecordReader" "at" "I" (.int (4 : Int32))) (A_w_record : Ary Z h0 w_record .byte ln (fun i => .int (G i))) (ne_o0__w_record : o0 ≠ w_record) (hln : 5 ≤ ln ∧ ln < 100) (hb0 : ((G 4) &&& 255).toInt < 128) :
    MetFree l (⟨"com/example/faden/faden/rank/RecordReader", "number", "()I"⟩ : MethodName) (head1 (Jvm.Cond.code (⟨"com/example/faden/faden/rank/RecordReader", "number", "()I"⟩ : MethodName) prog_21_method_3_code 4 (some .int) :: ws) ({ frames := 0, cells := 0, slots := 0, locals := 0 } : Room)) (fun a U => a = #[(.ref o0)] ∧ Z.Warmed39 U.vm ∧ U.heap = h0) (fun _ _ _ _ _ => True) (fun _ U o U' => ∃ v L, o = .returned v ∧ (Q3a4k1 Z o0 ln G w_record h0 n0) v U'.heap L ∧ FrameEnd U o U' L ({ frames := 0, cells := 0, slots := 0, locals := 0 } : Room).cells ({ frames := 0, cells := 0, slots := 0, locals := 0 } : Room).slots) :=
  own_met (ret := (some .int)) (Q := (Q3a4k1 Z o0 ln G w_record h0 n0)) (plainFor_of_name pn_3) (fun m => ef_3 m o0) (fun p e s m below meth c s₁ X hx hby hml hown hnm hZ e0 => j3a4k1 X hx hZ hw hby hml hown hnm e0 (Fr.nil n0) Z0 o0 ln G w_record E_o0 g_o0 F_record_o0 F_at_o0 A_w_record ne_o0__w_record hln hb0)
theorem own_va4k13_77 (G : Nat → Int32) : (va4k13_77 G).toInt = ((G 4) &&& 255).toInt % 128 * 1 := by
  have m := Jvm.Kit.i32_mask (va4k13_46 G) 127 (k := 7) (by decide) (by decide)
  have e : (va4k13_46 G).toInt = ((G 4) &&& 255).toInt := by unfold va4k13_46; rw [own_c4]
  have u0 := Jvm.Kit.i32_mask (G 4) 255 (k := 8) (by decide) (by decide)
  have z0 : (0 : Int32).toInt = 0 := rfl
  have q := acc (a := (0 : Int32)) (g := (va4k13_46 G) &&& 127) (n := (0 : Int32) &&& 31) (k := 0) (by decide) (by omega) (by omega) (by omega) (by omega)
  unfold va4k13_77
  rw [q]; omega
def va5k13_46 (G : Nat → Int32) : Int32 := ((G ((5 : Int32)).toNatClampNeg) &&& (255 : Int32))
def va5k13_77 (G : Nat → Int32) : Int32 := ((0 : Int32) ||| (((va5k13_46 G) &&& (127 : Int32)) <<< ((0 : Int32) &&& 31)))
theorem bra5k13_13 (ln : Nat) (G : Nat → Int32) (hln : 6 ≤ ln ∧ ln < 100) (hb0 : ((G 5) &&& 255).toInt < 128) : ¬ ((5 : Int32) = (ln).toInt32) := own_ne 5 (by decide) (by omega)
theorem iba5k13_41 (ln : Nat) (G : Nat → Int32) (hln : 6 ≤ ln ∧ ln < 100) (hb0 : ((G 5) &&& 255).toInt < 128) : InB (5 : Int32) ln := own_in 5 (by decide) (by omega)
theorem bra5k13_82 (G : Nat → Int32) (ln : Nat) (hln : 6 ≤ ln ∧ ln < 100) (hb0 : ((G 5) &&& 255).toInt < 128) : (va5k13_46 G) < (128 : Int32) := by
  have c0 : (128 : Int32).toInt = 128 := rfl
  have c1 : (7 : Int32).toInt = 7 := rfl
  have e0 : (va5k13_46 G).toInt = ((G 5) &&& 255).toInt := by
    unfold va5k13_46; rw [own_c5]
  rw [i32lt, e0]; omega
def Q3a5k1 (Z : State) (o0 : Addr) (ln : Nat) (G : Nat → Int32) (w_record : Addr) (h0 : Heap) (n0 : Nat) : Option Value → Heap → List Loc → Prop := fun v h L => v = some (.int (va5k13_77 G)) ∧ Fr n0 L ∧ Keep h0 h [o0] ∧ Exa Z h o0 "com/example/faden/faden/rank/RecordReader" ∧ Fld Z h o0 "com/example/faden/faden/rank/RecordReader" "record" "[B" (.ref w_record) ∧ Fld Z h o0 "com/example/faden/faden/rank/RecordReader" "at" "I" (.int (6 : Int32))
set_option maxRecDepth 65536 in
set_option maxHeartbeats 40000000 in
theorem j3a5k1 {p : Program} {l : Launch} {e : Env} {s : State} {m : MethodId} {args : Array Value} {below : List Frame} {meth : Method} {c : Code} {T0 : State} {locs : List Loc} {Z : State} {a0 : Array Value} {h0 : Heap} {n0 : Nat}
    (X0 : Stand p l e ({ frames := 0, cells := 0, slots := 0, locals := 0 } : Room) s m args below meth c T0 locs 0 0) (hx : p.tables.exec = Jvm.exec) (hZ : Z.Warmed39 s.vm) (hw : ∀ d ∈ tables_1, d.before a0 Z = true) (hby : c.code = prog_21_method_3_code) (hml : c.maxLocals = 4) (hown : s.vm.findClass "com/example/faden/faden/rank/RecordReader" = some m.cls) (hnm : meth.name = "number") (e0 : T0.heap = h0) (N0 : Fr n0 locs) (Z0 : n0 ≤ h0.size) (o0 : Addr) (ln : Nat) (G : Nat → Int32) (w_record : Addr) (E_o0 : Exa Z h0 o0 "com/example/faden/faden/rank/RecordReader") (g_o0 : n0 ≤ o0) (F_record_o0 : Fld Z h0 o0 "com/example/faden/faden/rank/RecordReader" "record" "[B" (.ref w_record)) (F_at_o0 : Fld Z h0 o0 "com/example/faden/faden/rank/RecordReader" "at" "I" (.int (5 : Int32))) (A_w_record : Ary Z h0 w_record .byte ln (fun i => .int (G i))) (ne_o0__w_record : o0 ≠ w_record) (hln : 6 ≤ ln ∧ ln < 100) (hb0 : ((G 5) &&& 255).toInt < 128) :
    OwnFin X0 (some .int) (Q3a5k1 Z o0 ln G w_record h0 n0) ({ frames := 0, cells := 0, slots := 0, locals := 0 } : Room).cells ({ frames := 0, cells := 0, slots := 0, locals := 0 } : Room).slots (mkF m 0 #[.val (.ref o0), .unset, .unset, .unset] []) := by
  refine OwnFin.step (g' := (mkF m 1 #[.val (.ref o0), .unset, .unset, .unset] [(.int (0 : Int32))])) X0 (fun t k => XS.iconst X0.here hx rfl (hb hby d3_0) k) ?_
  refine OwnFin.step (g' := (mkF m 2 #[.val (.ref o0), .val (.int (0 : Int32)), .unset, .unset] [])) X0 (fun t k => XS.istoreN X0.here hx rfl (hb hby d3_1) rfl (l' := #[.val (.ref o0), .val (.int (0 : Int32)), .unset, .unset]) rfl k) ?_
  refine OwnFin.step (g' := (mkF m 3 #[.val (.ref o0), .val (.int (0 : Int32)), .unset, .unset] [(.int (0 : Int32))])) X0 (fun t k => XS.iconst X0.here hx rfl (hb hby d3_2) k) ?_
  refine OwnFin.step (g' := (mkF m 4 #[.val (.ref o0), .val (.int (0 : Int32)), .val (.int (0 : Int32)), .unset] [])) X0 (fun t k => XS.istoreN X0.here hx rfl (hb hby d3_3) rfl (l' := #[.val (.ref o0), .val (.int (0 : Int32)), .val (.int (0 : Int32)), .unset]) rfl k) ?_
  refine OwnFin.step (g' := (mkF m 5 #[.val (.ref o0), .val (.int (0 : Int32)), .val (.int (0 : Int32)), .unset] [(.ref o0)])) X0 (fun t k => XS.aloadN X0.here hx rfl (hb hby d3_4) rfl rfl k) ?_
  obtain ⟨T1, X1, e1, st1⟩ := getF X0 hx hZ hown (host := "") (Or.inl (hw _ (wm 20 rfl))) Via.refl e0 F_at_o0 (g := (mkF m 5 #[.val (.ref o0), .val (.int (0 : Int32)), .val (.int (0 : Int32)), .unset] [(.ref o0)])) rfl rfl (hb hby d3_5)
  refine OwnFin.step (g' := (mkF m 8 #[.val (.ref o0), .val (.int (0 : Int32)), .val (.int (0 : Int32)), .unset] [(.int (5 : Int32))])) X1 (fun t k => st1 _ k) ?_
  refine OwnFin.step (g' := (mkF m 9 #[.val (.ref o0), .val (.int (0 : Int32)), .val (.int (0 : Int32)), .unset] [(.ref o0), (.int (5 : Int32))])) X1 (fun t k => XS.aloadN X1.here hx rfl (hb hby d3_8) rfl rfl k) ?_
  obtain ⟨T2, X2, e2, st2⟩ := getF X1 hx hZ hown (host := "") (Or.inl (hw _ (wm 13 rfl))) Via.refl e1 F_record_o0 (g := (mkF m 9 #[.val (.ref o0), .val (.int (0 : Int32)), .val (.int (0 : Int32)), .unset] [(.ref o0), (.int (5 : Int32))])) rfl rfl (hb hby d3_9)
  refine OwnFin.step (g' := (mkF m 12 #[.val (.ref o0), .val (.int (0 : Int32)), .val (.int (0 : Int32)), .unset] [(.ref w_record), (.int (5 : Int32))])) X2 (fun t k => st2 _ k) ?_
  refine OwnFin.step (g' := (mkF m 13 #[.val (.ref o0), .val (.int (0 : Int32)), .val (.int (0 : Int32)), .unset] [(.int (ln).toInt32), (.int (5 : Int32))])) X2 (fun t k => own_len X2 hx hZ e2 A_w_record (g := (mkF m 12 #[.val (.ref o0), .val (.int (0 : Int32)), .val (.int (0 : Int32)), .unset] [(.ref w_record), (.int (5 : Int32))])) rfl rfl (hb hby d3_12) _ k) ?_
  refine OwnFin.step (g' := (mkF m 26 #[.val (.ref o0), .val (.int (0 : Int32)), .val (.int (0 : Int32)), .unset] [])) X2 (fun t k => XS.icmpYes X2.here hx rfl (pc0 := 13) (pc' := 26) rfl (hb hby d3_13) rfl (feq (bra5k13_13 ln G hln hb0)).2 (by decide) (by decide) k) ?_
  refine OwnFin.step (g' := (mkF m 27 #[.val (.ref o0), .val (.int (0 : Int32)), .val (.int (0 : Int32)), .unset] [(.ref o0)])) X2 (fun t k => XS.aloadN X2.here hx rfl (hb hby d3_26) rfl rfl k) ?_
  obtain ⟨T3, X3, e3, st3⟩ := getF X2 hx hZ hown (host := "") (Or.inl (hw _ (wm 13 rfl))) Via.refl e2 F_record_o0 (g := (mkF m 27 #[.val (.ref o0), .val (.int (0 : Int32)), .val (.int (0 : Int32)), .unset] [(.ref o0)])) rfl rfl (hb hby d3_27)
  refine OwnFin.step (g' := (mkF m 30 #[.val (.ref o0), .val (.int (0 : Int32)), .val (.int (0 : Int32)), .unset] [(.ref w_record)])) X3 (fun t k => st3 _ k) ?_
  refine OwnFin.step (g' := (mkF m 31 #[.val (.ref o0), .val (.int (0 : Int32)), .val (.int (0 : Int32)), .unset] [(.ref o0), (.ref w_record)])) X3 (fun t k => XS.aloadN X3.here hx rfl (hb hby d3_30) rfl rfl k) ?_
  refine OwnFin.step (g' := (mkF m 32 #[.val (.ref o0), .val (.int (0 : Int32)), .val (.int (0 : Int32)), .unset] [(.ref o0), (.ref o0), (.ref w_record)])) X3 (fun t k => XS.dup X3.here hx rfl (hb hby d3_31) rfl rfl k) ?_
  obtain ⟨T4, X4, e4, st4⟩ := getF X3 hx hZ hown (host := "") (Or.inl (hw _ (wm 20 rfl))) Via.refl e3 F_at_o0 (g := (mkF m 32 #[.val (.ref o0), .val (.int (0 : Int32)), .val (.int (0 : Int32)), .unset] [(.ref o0), (.ref o0), (.ref w_record)])) rfl rfl (hb hby d3_32)
  refine OwnFin.step (g' := (mkF m 35 #[.val (.ref o0), .val (.int (0 : Int32)), .val (.int (0 : Int32)), .unset] [(.int (5 : Int32)), (.ref o0), (.ref w_record)])) X4 (fun t k => st4 _ k) ?_
  refine OwnFin.step (g' := (mkF m 36 #[.val (.ref o0), .val (.int (0 : Int32)), .val (.int (0 : Int32)), .unset] [(.int (5 : Int32)), (.ref o0), (.int (5 : Int32)), (.ref w_record)])) X4 (fun t k => XT.dupX1 X4.here hx rfl (hb hby d3_35) rfl rfl rfl k) ?_
  refine OwnFin.step (g' := (mkF m 37 #[.val (.ref o0), .val (.int (0 : Int32)), .val (.int (0 : Int32)), .unset] [(.int (1 : Int32)), (.int (5 : Int32)), (.ref o0), (.int (5 : Int32)), (.ref w_record)])) X4 (fun t k => XS.iconst X4.here hx rfl (hb hby d3_36) k) ?_
  refine OwnFin.step (g' := (mkF m 38 #[.val (.ref o0), .val (.int (0 : Int32)), .val (.int (0 : Int32)), .unset] [(.int (6 : Int32)), (.ref o0), (.int (5 : Int32)), (.ref w_record)])) X4 (fun t k => XS.iadd X4.here hx rfl (hb hby d3_37) rfl k) ?_
  obtain ⟨T5, h5, L5, X5, e5, N5, W5, F5, st5⟩ := own_putF X4 hx hZ hown (hw _ (wm 20 rfl)) e4 N0 F_at_o0 E_o0 g_o0 (Or.inl (hw _ (wm 21 rfl))) (hw _ (wm 5 rfl)) (fty := .int) (by decide) rfl rfl (g := (mkF m 38 #[.val (.ref o0), .val (.int (0 : Int32)), .val (.int (0 : Int32)), .unset] [(.int (6 : Int32)), (.ref o0), (.int (5 : Int32)), (.ref w_record)])) rfl rfl (hb hby d3_38)
  have K5 := Keep.of_wr W5
  have Z5 := Nat.le_trans Z0 K5.1
  have S5 := Nat.le_trans (Nat.le_refl h0.size) K5.1
  have F6 := Fld.other W5 F_record_o0 (Or.inr (slot_ne (Or.inr (hw _ (wm 14 rfl))) (Or.inl (hw _ (wm 21 rfl))) (by decide) (t := (.array .byte)) (t' := .int) (by decide) (by decide)))
  have E7 := Exa.wr W5 E_o0
  refine OwnFin.step (g' := (mkF m 41 #[.val (.ref o0), .val (.int (0 : Int32)), .val (.int (0 : Int32)), .unset] [(.int (5 : Int32)), (.ref w_record)])) X5 (fun t k => st5 _ k) ?_
  have A8 := (A_w_record.keep K5 (ninS (Ne.symm ne_o0__w_record) nin0))
  refine OwnFin.step (g' := (mkF m 42 #[.val (.ref o0), .val (.int (0 : Int32)), .val (.int (0 : Int32)), .unset] [(.int (G ((5 : Int32)).toNatClampNeg))])) X5 (fun t k => own_ldB X5 hx hZ e5 A8 (iba5k13_41 ln G hln hb0) rfl (g := (mkF m 41 #[.val (.ref o0), .val (.int (0 : Int32)), .val (.int (0 : Int32)), .unset] [(.int (5 : Int32)), (.ref w_record)])) rfl rfl (hb hby d3_41) _ k) ?_
  refine OwnFin.step (g' := (mkF m 45 #[.val (.ref o0), .val (.int (0 : Int32)), .val (.int (0 : Int32)), .unset] [(.int (255 : Int32)), (.int (G ((5 : Int32)).toNatClampNeg))])) X5 (fun t k => XS.sipush X5.here hx rfl (hb hby d3_42) k) ?_
  refine OwnFin.step (g' := (mkF m 46 #[.val (.ref o0), .val (.int (0 : Int32)), .val (.int (0 : Int32)), .unset] [(.int ((G ((5 : Int32)).toNatClampNeg) &&& (255 : Int32)))])) X5 (fun t k => XS.iand X5.here hx rfl (hb hby d3_45) rfl k) ?_
  refine OwnFin.step (g' := (mkF m 47 #[.val (.ref o0), .val (.int (0 : Int32)), .val (.int (0 : Int32)), .val (.int (va5k13_46 G))] [])) X5 (fun t k => XS.istoreN X5.here hx rfl (hb hby d3_46) rfl (l' := #[.val (.ref o0), .val (.int (0 : Int32)), .val (.int (0 : Int32)), .val (.int (va5k13_46 G))]) rfl k) ?_
  refine OwnFin.step (g' := (mkF m 48 #[.val (.ref o0), .val (.int (0 : Int32)), .val (.int (0 : Int32)), .val (.int (va5k13_46 G))] [(.int (0 : Int32))])) X5 (fun t k => XS.iloadN X5.here hx rfl (hb hby d3_47) rfl k) ?_
  refine OwnFin.step (g' := (mkF m 50 #[.val (.ref o0), .val (.int (0 : Int32)), .val (.int (0 : Int32)), .val (.int (va5k13_46 G))] [(.int (28 : Int32)), (.int (0 : Int32))])) X5 (fun t k => XS.bipush X5.here hx rfl (hb hby d3_48) k) ?_
  refine OwnFin.step (g' := (mkF m 69 #[.val (.ref o0), .val (.int (0 : Int32)), .val (.int (0 : Int32)), .val (.int (va5k13_46 G))] [])) X5 (fun t k => XS.icmpYes X5.here hx rfl (pc0 := 50) (pc' := 69) rfl (hb hby d3_50) rfl (feq (show ¬ ((0 : Int32) = (28 : Int32)) by first | decide | exact Int32.lt_irrefl _ | exact Int64.lt_irrefl _)).2 (by decide) (by decide) k) ?_
  refine OwnFin.step (g' := (mkF m 70 #[.val (.ref o0), .val (.int (0 : Int32)), .val (.int (0 : Int32)), .val (.int (va5k13_46 G))] [(.int (0 : Int32))])) X5 (fun t k => XS.iloadN X5.here hx rfl (hb hby d3_69) rfl k) ?_
  refine OwnFin.step (g' := (mkF m 71 #[.val (.ref o0), .val (.int (0 : Int32)), .val (.int (0 : Int32)), .val (.int (va5k13_46 G))] [(.int (va5k13_46 G)), (.int (0 : Int32))])) X5 (fun t k => XS.iloadN X5.here hx rfl (hb hby d3_70) rfl k) ?_
  refine OwnFin.step (g' := (mkF m 73 #[.val (.ref o0), .val (.int (0 : Int32)), .val (.int (0 : Int32)), .val (.int (va5k13_46 G))] [(.int (127 : Int32)), (.int (va5k13_46 G)), (.int (0 : Int32))])) X5 (fun t k => XS.bipush X5.here hx rfl (hb hby d3_71) k) ?_
  refine OwnFin.step (g' := (mkF m 74 #[.val (.ref o0), .val (.int (0 : Int32)), .val (.int (0 : Int32)), .val (.int (va5k13_46 G))] [(.int ((va5k13_46 G) &&& (127 : Int32))), (.int (0 : Int32))])) X5 (fun t k => XS.iand X5.here hx rfl (hb hby d3_73) rfl k) ?_
  refine OwnFin.step (g' := (mkF m 75 #[.val (.ref o0), .val (.int (0 : Int32)), .val (.int (0 : Int32)), .val (.int (va5k13_46 G))] [(.int (0 : Int32)), (.int ((va5k13_46 G) &&& (127 : Int32))), (.int (0 : Int32))])) X5 (fun t k => XS.iloadN X5.here hx rfl (hb hby d3_74) rfl k) ?_
  refine OwnFin.step (g' := (mkF m 76 #[.val (.ref o0), .val (.int (0 : Int32)), .val (.int (0 : Int32)), .val (.int (va5k13_46 G))] [(.int (((va5k13_46 G) &&& (127 : Int32)) <<< ((0 : Int32) &&& 31))), (.int (0 : Int32))])) X5 (fun t k => XT.ishl X5.here hx rfl (hb hby d3_75) rfl k) ?_
  refine OwnFin.step (g' := (mkF m 77 #[.val (.ref o0), .val (.int (0 : Int32)), .val (.int (0 : Int32)), .val (.int (va5k13_46 G))] [(.int ((0 : Int32) ||| (((va5k13_46 G) &&& (127 : Int32)) <<< ((0 : Int32) &&& 31))))])) X5 (fun t k => XT.ior X5.here hx rfl (hb hby d3_76) rfl k) ?_
  refine OwnFin.step (g' := (mkF m 78 #[.val (.ref o0), .val (.int (va5k13_77 G)), .val (.int (0 : Int32)), .val (.int (va5k13_46 G))] [])) X5 (fun t k => XS.istoreN X5.here hx rfl (hb hby d3_77) rfl (l' := #[.val (.ref o0), .val (.int (va5k13_77 G)), .val (.int (0 : Int32)), .val (.int (va5k13_46 G))]) rfl k) ?_
  refine OwnFin.step (g' := (mkF m 79 #[.val (.ref o0), .val (.int (va5k13_77 G)), .val (.int (0 : Int32)), .val (.int (va5k13_46 G))] [(.int (va5k13_46 G))])) X5 (fun t k => XS.iloadN X5.here hx rfl (hb hby d3_78) rfl k) ?_
  refine OwnFin.step (g' := (mkF m 82 #[.val (.ref o0), .val (.int (va5k13_77 G)), .val (.int (0 : Int32)), .val (.int (va5k13_46 G))] [(.int (128 : Int32)), (.int (va5k13_46 G))])) X5 (fun t k => XS.sipush X5.here hx rfl (hb hby d3_79) k) ?_
  refine OwnFin.step (g' := (mkF m 85 #[.val (.ref o0), .val (.int (va5k13_77 G)), .val (.int (0 : Int32)), .val (.int (va5k13_46 G))] [])) X5 (fun t k => XS.icmpNo X5.here hx rfl (hb hby d3_82) rfl (tlt (bra5k13_82 G ln hln hb0)).2.1 k) ?_
  refine OwnFin.step (g' := (mkF m 86 #[.val (.ref o0), .val (.int (va5k13_77 G)), .val (.int (0 : Int32)), .val (.int (va5k13_46 G))] [(.int (va5k13_77 G))])) X5 (fun t k => XS.iloadN X5.here hx rfl (hb hby d3_85) rfl k) ?_
  refine OwnFin.retInt X5 (hb hby d3_86) (by decide) (by decide) ?_
  rw [e5]
  exact ⟨rfl, N5, (Keep.trans (Keep.refl h0 [o0]) K5 (allS (Or.inl (wm 0 rfl)) all0)), E7, F6, F5⟩
set_option maxRecDepth 65536 in
set_option maxHeartbeats 40000000 in
theorem rm3a5k1 (l : Launch) (Z : State) (a0 : Array Value) (hw : ∀ d ∈ tables_1, d.before a0 Z = true) (ws : List Jvm.Cond) (o0 : Addr) (ln : Nat) (G : Nat → Int32) (w_record : Addr) (h0 : Heap) (n0 : Nat) (Z0 : n0 ≤ h0.size) (E_o0 : Exa Z h0 o0 "com/example/faden/faden/rank/RecordReader") (g_o0 : n0 ≤ o0) (F_record_o0 : Fld Z h0 o0 "com/example/faden/faden/rank/RecordReader" "record" "[B" (.ref w_record)) (F_at_o0 : Fld Z h0 o0 "com/example/faden/faden/rank/RecordReader" "at" "I" (.int (5 : Int32))) (A_w_record : Ary Z h0 w_record .byte ln (fun i => .int (G i))) (ne_o0__w_record : o0 ≠ w_record) (hln : 6 ≤ ln ∧ ln < 100) (hb0 : ((G 5) &&& 255).toInt < 128) :
    MetFree l (⟨"com/example/faden/faden/rank/RecordReader", "number", "()I"⟩ : MethodName) (head1 (Jvm.Cond.code (⟨"com/example/faden/faden/rank/RecordReader", "number", "()I"⟩ : MethodName) prog_21_method_3_code 4 (some .int) :: ws) ({ frames := 0, cells := 0, slots := 0, locals := 0 } : Room)) (fun a U => a = #[(.ref o0)] ∧ Z.Warmed39 U.vm ∧ U.heap = h0) (fun _ _ _ _ _ => True) (fun _ U o U' => ∃ v L, o = .returned v ∧ (Q3a5k1 Z o0 ln G w_record h0 n0) v U'.heap L ∧ FrameEnd U o U' L ({ frames := 0, cells := 0, slots := 0, locals := 0 } : Room).cells ({ frames := 0, cells := 0, slots := 0, locals := 0 } : Room).slots) :=
  own_met (ret := (some .int)) (Q := (Q3a5k1 Z o0 ln G w_record h0 n0)) (plainFor_of_name pn_3) (fun m => ef_3 m o0) (fun p e s m below meth c s₁ X hx hby hml hown hnm hZ e0 => j3a5k1 X hx hZ hw hby hml hown hnm e0 (Fr.nil n0) Z0 o0 ln G w_record E_o0 g_o0 F_record_o0 F_at_o0 A_w_record ne_o0__w_record hln hb0)
theorem own_va5k13_77 (G : Nat → Int32) : (va5k13_77 G).toInt = ((G 5) &&& 255).toInt % 128 * 1 := by
  have m := Jvm.Kit.i32_mask (va5k13_46 G) 127 (k := 7) (by decide) (by decide)
  have e : (va5k13_46 G).toInt = ((G 5) &&& 255).toInt := by unfold va5k13_46; rw [own_c5]
  have u0 := Jvm.Kit.i32_mask (G 5) 255 (k := 8) (by decide) (by decide)
  have z0 : (0 : Int32).toInt = 0 := rfl
  have q := acc (a := (0 : Int32)) (g := (va5k13_46 G) &&& 127) (n := (0 : Int32) &&& 31) (k := 0) (by decide) (by omega) (by omega) (by omega) (by omega)
  unfold va5k13_77
  rw [q]; omega
theorem pn_0 : plainName "com/example/faden/faden/rank/RecordReaderNumberPinLaw" = true := by first | (simp [plainName, overriddenIn]; done) | decide +kernel
theorem ef_0 (m : MethodId) (p0 : Int32) (p1 : Int32) (p2 : Int32) (p3 : Int32) (p4 : Int32) : entryFrame m #[(.int p0), (.int p1), (.int p2), (.int p3), (.int p4)] maxLocals = mkF m 0 #[.val (.int p0), .val (.int p1), .val (.int p2), .val (.int p3), .val (.int p4), .unset, .unset, .unset, .unset, .unset, .unset, .unset, .unset, .unset, .unset, .unset, .unset, .unset, .unset] [] := by first | (simp [entryFrame, mkF, argsToLocals, Value.category, maxLocals]; done) | rfl
theorem pd_0 : parseMethodDescriptor "([B)V" = some ⟨[(.array .byte)], none⟩ := by decide +kernel
theorem pd_1 : parseMethodDescriptor "()I" = some ⟨[], some .int⟩ := by decide +kernel
theorem pd_2 : parseMethodDescriptor "()Z" = some ⟨[], some .boolean⟩ := by decide +kernel
def vk1m00_8 (p2 : Int32) : Int32 := (((p2 &&& (2147483647 : Int32)) % (5 : Int32)) + (1 : Int32))
def vk1m00_22 (p4 : Int32) : Int32 := (if (p4 &&& (1 : Int32)) = (0 : Int32) then (0 : Int32) else (1 : Int32))
def vk1m00_28 (p0 : Int32) : Int32 := (p0 &&& (127 : Int32))
def vk1m00_37 (p0 : Int32) : Int32 := ((XT.ushr p0 (8 : Int32)) &&& (127 : Int32))
def vk1m00_46 (p0 : Int32) : Int32 := ((XT.ushr p0 (16 : Int32)) &&& (127 : Int32))
def vk1m00_55 (p0 : Int32) : Int32 := ((XT.ushr p0 (24 : Int32)) &&& (127 : Int32))
def vk1m00_61 (p1 : Int32) : Int32 := (p1 &&& (7 : Int32))
def vk1m00_67 (p3 : Int32) : Int32 := (p3 &&& (127 : Int32))
def Gk1m00_108 (p0 : Int32) : Nat → Int32 := (updN (fun _ => (0 : Int32)) ((0 : Int32)).toNatClampNeg (nar .byte ((vk1m00_28 p0).toInt8.toInt32)))
def vk1m00_222 (p0 : Int32) : Int64 := ((vk1m00_28 p0).toInt64)
def vk1m00_312 (p0 : Int32) : Int32 := (va0k13_77 (Gk1m00_108 p0))
theorem exhlnk1m00_309 (p2 : Int32) (p4 : Int32) (hk : vk1m00_8 p2 = (1 : Int32)) (hm : vk1m00_22 p4 = (0 : Int32)) : 1 ≤ 1 ∧ 1 < 100 := by decide
theorem exhb0k1m00_309 (p0 : Int32) (p2 : Int32) (p4 : Int32) (hk : vk1m00_8 p2 = (1 : Int32)) (hm : vk1m00_22 p4 = (0 : Int32)) : (((Gk1m00_108 p0) 0) &&& 255).toInt < 128 := by
  have b0 : 0 ≤ (vk1m00_28 p0).toInt ∧ (vk1m00_28 p0).toInt < 128 := own_b127 _
  have h0 : (((Gk1m00_108 p0) 0) &&& 255).toInt = (vk1m00_28 p0).toInt := own_lo ⟨b0.1, Int.lt_of_lt_of_le b0.2 (by decide)⟩
  omega
theorem brk1m00_320 (p0 : Int32) (p2 : Int32) (p4 : Int32) (hk : vk1m00_8 p2 = (1 : Int32)) (hm : vk1m00_22 p4 = (0 : Int32)) : ((vk1m00_312 p0).toInt64) = (vk1m00_222 p0) := by
  have b0 : 0 ≤ (vk1m00_28 p0).toInt ∧ (vk1m00_28 p0).toInt < 128 := own_b127 _
  have h0 : (((Gk1m00_108 p0) 0) &&& 255).toInt = (vk1m00_28 p0).toInt := own_lo ⟨b0.1, Int.lt_of_lt_of_le b0.2 (by decide)⟩
  have e0 : (vk1m00_222 p0).toInt = (vk1m00_28 p0).toInt := Jvm.Kit.i64_of_i32 _
  have m0 : (((Gk1m00_108 p0) 0) &&& 255).toInt % 128 = (vk1m00_28 p0).toInt := own_m7' h0 ⟨b0.1, Int.lt_of_lt_of_le b0.2 (by decide)⟩
  have r : (vk1m00_312 p0).toInt = _ := own_va0k13_77 (Gk1m00_108 p0)
  rw [i64eq, Jvm.Kit.i64_of_i32, r, m0, e0, Int.mul_one]
abbrev Lak1m00_0 (p0 : Int32) (p1 : Int32) (p2 : Int32) (p3 : Int32) (p4 : Int32) : Array Slot := #[.val (.int p0), .val (.int p1), .val (.int p2), .val (.int p3), .val (.int p4), .unset, .unset, .unset, .unset, .unset, .unset, .unset, .unset, .unset, .unset, .unset, .unset, .unset, .unset]
abbrev Lak1m00_1 (p0 : Int32) (p1 : Int32) (p2 : Int32) (p3 : Int32) (p4 : Int32) : Array Slot := #[.val (.int p0), .val (.int p1), .val (.int p2), .val (.int p3), .val (.int p4), .val (.int (1 : Int32)), .unset, .unset, .unset, .unset, .unset, .unset, .unset, .unset, .unset, .unset, .unset, .unset, .unset]
abbrev Lak1m00_2 (p0 : Int32) (p1 : Int32) (p2 : Int32) (p3 : Int32) (p4 : Int32) : Array Slot := #[.val (.int p0), .val (.int p1), .val (.int p2), .val (.int p3), .val (.int p4), .val (.int (1 : Int32)), .val (.int (0 : Int32)), .unset, .unset, .unset, .unset, .unset, .unset, .unset, .unset, .unset, .unset, .unset, .unset]
abbrev Lak1m00_3 (p0 : Int32) (p1 : Int32) (p2 : Int32) (p3 : Int32) (p4 : Int32) : Array Slot := #[.val (.int p0), .val (.int p1), .val (.int p2), .val (.int p3), .val (.int p4), .val (.int (1 : Int32)), .val (.int (0 : Int32)), .val (.int (vk1m00_28 p0)), .unset, .unset, .unset, .unset, .unset, .unset, .unset, .unset, .unset, .unset, .unset]
abbrev Lak1m00_4 (p0 : Int32) (p1 : Int32) (p2 : Int32) (p3 : Int32) (p4 : Int32) : Array Slot := #[.val (.int p0), .val (.int p1), .val (.int p2), .val (.int p3), .val (.int p4), .val (.int (1 : Int32)), .val (.int (0 : Int32)), .val (.int (vk1m00_28 p0)), .val (.int (vk1m00_37 p0)), .unset, .unset, .unset, .unset, .unset, .unset, .unset, .unset, .unset, .unset]
abbrev Lak1m00_5 (p0 : Int32) (p1 : Int32) (p2 : Int32) (p3 : Int32) (p4 : Int32) : Array Slot := #[.val (.int p0), .val (.int p1), .val (.int p2), .val (.int p3), .val (.int p4), .val (.int (1 : Int32)), .val (.int (0 : Int32)), .val (.int (vk1m00_28 p0)), .val (.int (vk1m00_37 p0)), .val (.int (vk1m00_46 p0)), .unset, .unset, .unset, .unset, .unset, .unset, .unset, .unset, .unset]
abbrev Lak1m00_6 (p0 : Int32) (p1 : Int32) (p2 : Int32) (p3 : Int32) (p4 : Int32) : Array Slot := #[.val (.int p0), .val (.int p1), .val (.int p2), .val (.int p3), .val (.int p4), .val (.int (1 : Int32)), .val (.int (0 : Int32)), .val (.int (vk1m00_28 p0)), .val (.int (vk1m00_37 p0)), .val (.int (vk1m00_46 p0)), .val (.int (vk1m00_55 p0)), .unset, .unset, .unset, .unset, .unset, .unset, .unset, .unset]
abbrev Lak1m00_7 (p0 : Int32) (p1 : Int32) (p2 : Int32) (p3 : Int32) (p4 : Int32) : Array Slot := #[.val (.int p0), .val (.int p1), .val (.int p2), .val (.int p3), .val (.int p4), .val (.int (1 : Int32)), .val (.int (0 : Int32)), .val (.int (vk1m00_28 p0)), .val (.int (vk1m00_37 p0)), .val (.int (vk1m00_46 p0)), .val (.int (vk1m00_55 p0)), .val (.int (vk1m00_61 p1)), .unset, .unset, .unset, .unset, .unset, .unset, .unset]
abbrev Lak1m00_8 (p0 : Int32) (p1 : Int32) (p2 : Int32) (p3 : Int32) (p4 : Int32) : Array Slot := #[.val (.int p0), .val (.int p1), .val (.int p2), .val (.int p3), .val (.int p4), .val (.int (1 : Int32)), .val (.int (0 : Int32)), .val (.int (vk1m00_28 p0)), .val (.int (vk1m00_37 p0)), .val (.int (vk1m00_46 p0)), .val (.int (vk1m00_55 p0)), .val (.int (vk1m00_61 p1)), .val (.int (vk1m00_67 p3)), .unset, .unset, .unset, .unset, .unset, .unset]
abbrev Lak1m00_9 (p0 : Int32) (p1 : Int32) (p2 : Int32) (p3 : Int32) (p4 : Int32) (b4 : Addr) : Array Slot := #[.val (.int p0), .val (.int p1), .val (.int p2), .val (.int p3), .val (.int p4), .val (.int (1 : Int32)), .val (.int (0 : Int32)), .val (.int (vk1m00_28 p0)), .val (.int (vk1m00_37 p0)), .val (.int (vk1m00_46 p0)), .val (.int (vk1m00_55 p0)), .val (.int (vk1m00_61 p1)), .val (.int (vk1m00_67 p3)), .val (.ref b4), .unset, .unset, .unset, .unset, .unset]
abbrev Lak1m00_10 (p0 : Int32) (p1 : Int32) (p2 : Int32) (p3 : Int32) (p4 : Int32) (b4 : Addr) : Array Slot := #[.val (.int p0), .val (.int p1), .val (.int p2), .val (.int p3), .val (.int p4), .val (.int (1 : Int32)), .val (.int (0 : Int32)), .val (.int (vk1m00_28 p0)), .val (.int (vk1m00_37 p0)), .val (.int (vk1m00_46 p0)), .val (.int (vk1m00_55 p0)), .val (.int (vk1m00_61 p1)), .val (.int (vk1m00_67 p3)), .val (.ref b4), .val (.long (vk1m00_222 p0)), .second, .unset, .unset, .unset]
abbrev Lak1m00_11 (p0 : Int32) (p1 : Int32) (p2 : Int32) (p3 : Int32) (p4 : Int32) (b4 : Addr) (b6 : Addr) : Array Slot := #[.val (.int p0), .val (.int p1), .val (.int p2), .val (.int p3), .val (.int p4), .val (.int (1 : Int32)), .val (.int (0 : Int32)), .val (.int (vk1m00_28 p0)), .val (.int (vk1m00_37 p0)), .val (.int (vk1m00_46 p0)), .val (.int (vk1m00_55 p0)), .val (.int (vk1m00_61 p1)), .val (.int (vk1m00_67 p3)), .val (.ref b4), .val (.long (vk1m00_222 p0)), .second, .val (.ref b6), .unset, .unset]
abbrev Lak1m00_12 (p0 : Int32) (p1 : Int32) (p2 : Int32) (p3 : Int32) (p4 : Int32) (b4 : Addr) (b6 : Addr) : Array Slot := #[.val (.int p0), .val (.int p1), .val (.int p2), .val (.int p3), .val (.int p4), .val (.int (1 : Int32)), .val (.int (0 : Int32)), .val (.int (vk1m00_28 p0)), .val (.int (vk1m00_37 p0)), .val (.int (vk1m00_46 p0)), .val (.int (vk1m00_55 p0)), .val (.int (vk1m00_61 p1)), .val (.int (vk1m00_67 p3)), .val (.ref b4), .val (.long (vk1m00_222 p0)), .second, .val (.ref b6), .val (.int (vk1m00_312 p0)), .unset]
set_option maxRecDepth 65536 in
set_option maxHeartbeats 40000000 in
theorem j0k1m0 {p : Program} {l : Launch} {e : Env} {s : State} {m : MethodId} {args : Array Value} {below : List Frame} {meth : Method} {c : Code} {T0 : State} {locs : List Loc} {Z : State} {a0 : Array Value} {h0 : Heap} {n0 : Nat}
    (X0 : Stand p l e room_1 s m args below meth c T0 locs 0 0) (hx : p.tables.exec = Jvm.exec) (hZ : Z.Warmed39 s.vm) (hw : ∀ d ∈ tables_1, d.before a0 Z = true) (hby : c.code = code) (hml : c.maxLocals = 19) (hown : s.vm.findClass "com/example/faden/faden/rank/RecordReaderNumberPinLaw" = some m.cls) (hnm : meth.name = "law") (e0 : T0.heap = h0) (N0 : Fr n0 locs) (Z0 : n0 ≤ h0.size) (p0 : Int32) (p1 : Int32) (p2 : Int32) (p3 : Int32) (p4 : Int32) (hk : vk1m00_8 p2 = (1 : Int32)) (hm : vk1m00_22 p4 = (0 : Int32)) :
    OwnFin X0 (some .boolean) (LQ n0) room_1.cells room_1.slots (mkF m 0 #[.val (.int p0), .val (.int p1), .val (.int p2), .val (.int p3), .val (.int p4), .unset, .unset, .unset, .unset, .unset, .unset, .unset, .unset, .unset, .unset, .unset, .unset, .unset, .unset] []) := by
  refine OwnFin.step (g' := (mkF m 1 (Lak1m00_0 p0 p1 p2 p3 p4) [(.int p2)])) X0 (fun t k => XS.iloadN X0.here hx rfl (hb hby at_0) rfl k) ?_
  refine OwnFin.step (g' := (mkF m 3 (Lak1m00_0 p0 p1 p2 p3 p4) [(.int (2147483647 : Int32)), (.int p2)])) X0 (fun t k => X0.ldcInt hx hown (mvT hZ (hw _ (wm 0 rfl))) (g := (mkF m 1 (Lak1m00_0 p0 p1 p2 p3 p4) [(.int p2)])) rfl (hb hby at_1) _ k) ?_
  refine OwnFin.step (g' := (mkF m 4 (Lak1m00_0 p0 p1 p2 p3 p4) [(.int (p2 &&& (2147483647 : Int32)))])) X0 (fun t k => XS.iand X0.here hx rfl (hb hby at_3) rfl k) ?_
  refine OwnFin.step (g' := (mkF m 5 (Lak1m00_0 p0 p1 p2 p3 p4) [(.int (5 : Int32)), (.int (p2 &&& (2147483647 : Int32)))])) X0 (fun t k => XS.iconst X0.here hx rfl (hb hby at_4) k) ?_
  refine OwnFin.step (g' := (mkF m 6 (Lak1m00_0 p0 p1 p2 p3 p4) [(.int ((p2 &&& (2147483647 : Int32)) % (5 : Int32)))])) X0 (fun t k => iremM (g := (mkF m 5 (Lak1m00_0 p0 p1 p2 p3 p4) [(.int (5 : Int32)), (.int (p2 &&& (2147483647 : Int32)))])) X0 hx rfl (hb hby at_5) rfl (by decide) k) ?_
  refine OwnFin.step (g' := (mkF m 7 (Lak1m00_0 p0 p1 p2 p3 p4) [(.int (1 : Int32)), (.int ((p2 &&& (2147483647 : Int32)) % (5 : Int32)))])) X0 (fun t k => XS.iconst X0.here hx rfl (hb hby at_6) k) ?_
  refine OwnFin.step (g' := (mkF m 8 (Lak1m00_0 p0 p1 p2 p3 p4) [(.int (((p2 &&& (2147483647 : Int32)) % (5 : Int32)) + (1 : Int32)))])) X0 (fun t k => XS.iadd X0.here hx rfl (hb hby at_7) rfl k) ?_
  refine OwnFin.step (g' := (mkF m 10 #[.val (.int p0), .val (.int p1), .val (.int p2), .val (.int p3), .val (.int p4), .val (.int (vk1m00_8 p2)), .unset, .unset, .unset, .unset, .unset, .unset, .unset, .unset, .unset, .unset, .unset, .unset, .unset] [])) X0 (fun t k => XS.istore X0.here hx rfl (hb hby at_8) rfl (l' := #[.val (.int p0), .val (.int p1), .val (.int p2), .val (.int p3), .val (.int p4), .val (.int (vk1m00_8 p2)), .unset, .unset, .unset, .unset, .unset, .unset, .unset, .unset, .unset, .unset, .unset, .unset, .unset]) rfl k) ?_
  rw [hk]
  refine OwnFin.step (g' := (mkF m 12 (Lak1m00_1 p0 p1 p2 p3 p4) [(.int p4)])) X0 (fun t k => XS.iload X0.here hx rfl (hb hby at_10) rfl k) ?_
  refine OwnFin.step (g' := (mkF m 13 (Lak1m00_1 p0 p1 p2 p3 p4) [(.int (1 : Int32)), (.int p4)])) X0 (fun t k => XS.iconst X0.here hx rfl (hb hby at_12) k) ?_
  refine OwnFin.step (g' := (mkF m 14 (Lak1m00_1 p0 p1 p2 p3 p4) [(.int (p4 &&& (1 : Int32)))])) X0 (fun t k => XS.iand X0.here hx rfl (hb hby at_13) rfl k) ?_
  refine OwnFin.step (g' := (mkF m 22 #[.val (.int p0), .val (.int p1), .val (.int p2), .val (.int p3), .val (.int p4), .val (.int (1 : Int32)), .unset, .unset, .unset, .unset, .unset, .unset, .unset, .unset, .unset, .unset, .unset, .unset, .unset] [(.int (vk1m00_22 p4))])) X0 (fun t k => ?_) ?_
  · show Steps p.tables e below (T0.setTop (mkF m 14 (Lak1m00_1 p0 p1 p2 p3 p4) [(.int (p4 &&& (1 : Int32)))])) t
    by_cases hc1 : (p4 &&& (1 : Int32)) = (0 : Int32)
    · skip
      refine XS.ifYes X0.here hx rfl (pc0 := 14) (pc' := 21) rfl (hb hby at_14) rfl ((if0 _ _).trans (teq hc1).1) (by decide) (by decide) ?_
      show Steps p.tables e below (T0.setTop (mkF m 21 (Lak1m00_1 p0 p1 p2 p3 p4) [])) t
      refine XS.iconst X0.here hx rfl (hb hby at_21) ?_
      show Steps p.tables e below (T0.setTop (mkF m 22 (Lak1m00_1 p0 p1 p2 p3 p4) [(.int (0 : Int32))])) t
      have qq2 : (vk1m00_22 p4) = (0 : Int32) := by
        show (if (p4 &&& (1 : Int32)) = (0 : Int32) then (0 : Int32) else (1 : Int32)) = (0 : Int32)
        simp only [if_pos hc1]
      rw [qq2] at k
      exact k
    · skip
      refine XS.ifNo X0.here hx rfl (hb hby at_14) rfl ((if0 _ _).trans (feq hc1).1) ?_
      show Steps p.tables e below (T0.setTop (mkF m 17 (Lak1m00_1 p0 p1 p2 p3 p4) [])) t
      refine XS.iconst X0.here hx rfl (hb hby at_17) ?_
      show Steps p.tables e below (T0.setTop (mkF m 18 (Lak1m00_1 p0 p1 p2 p3 p4) [(.int (1 : Int32))])) t
      refine XS.goto X0.here hx rfl (pc0 := 18) (pc' := 22) rfl (hb hby at_18) (by decide) (by decide) ?_
      show Steps p.tables e below (T0.setTop (mkF m 22 (Lak1m00_1 p0 p1 p2 p3 p4) [(.int (1 : Int32))])) t
      have qq3 : (vk1m00_22 p4) = (1 : Int32) := by
        show (if (p4 &&& (1 : Int32)) = (0 : Int32) then (0 : Int32) else (1 : Int32)) = (1 : Int32)
        simp only [if_neg hc1]
      rw [qq3] at k
      exact k
  refine OwnFin.step (g' := (mkF m 24 #[.val (.int p0), .val (.int p1), .val (.int p2), .val (.int p3), .val (.int p4), .val (.int (1 : Int32)), .val (.int (vk1m00_22 p4)), .unset, .unset, .unset, .unset, .unset, .unset, .unset, .unset, .unset, .unset, .unset, .unset] [])) X0 (fun t k => XS.istore X0.here hx rfl (hb hby at_22) rfl (l' := #[.val (.int p0), .val (.int p1), .val (.int p2), .val (.int p3), .val (.int p4), .val (.int (1 : Int32)), .val (.int (vk1m00_22 p4)), .unset, .unset, .unset, .unset, .unset, .unset, .unset, .unset, .unset, .unset, .unset, .unset]) rfl k) ?_
  rw [hm]
  refine OwnFin.step (g' := (mkF m 25 (Lak1m00_2 p0 p1 p2 p3 p4) [(.int p0)])) X0 (fun t k => XS.iloadN X0.here hx rfl (hb hby at_24) rfl k) ?_
  refine OwnFin.step (g' := (mkF m 27 (Lak1m00_2 p0 p1 p2 p3 p4) [(.int (127 : Int32)), (.int p0)])) X0 (fun t k => XS.bipush X0.here hx rfl (hb hby at_25) k) ?_
  refine OwnFin.step (g' := (mkF m 28 (Lak1m00_2 p0 p1 p2 p3 p4) [(.int (p0 &&& (127 : Int32)))])) X0 (fun t k => XS.iand X0.here hx rfl (hb hby at_27) rfl k) ?_
  refine OwnFin.step (g' := (mkF m 30 (Lak1m00_3 p0 p1 p2 p3 p4) [])) X0 (fun t k => XS.istore X0.here hx rfl (hb hby at_28) rfl (l' := (Lak1m00_3 p0 p1 p2 p3 p4)) rfl k) ?_
  refine OwnFin.step (g' := (mkF m 31 (Lak1m00_3 p0 p1 p2 p3 p4) [(.int p0)])) X0 (fun t k => XS.iloadN X0.here hx rfl (hb hby at_30) rfl k) ?_
  refine OwnFin.step (g' := (mkF m 33 (Lak1m00_3 p0 p1 p2 p3 p4) [(.int (8 : Int32)), (.int p0)])) X0 (fun t k => XS.bipush X0.here hx rfl (hb hby at_31) k) ?_
  refine OwnFin.step (g' := (mkF m 34 (Lak1m00_3 p0 p1 p2 p3 p4) [(.int (XT.ushr p0 (8 : Int32)))])) X0 (fun t k => XT.iushr X0.here hx rfl (hb hby at_33) rfl k) ?_
  refine OwnFin.step (g' := (mkF m 36 (Lak1m00_3 p0 p1 p2 p3 p4) [(.int (127 : Int32)), (.int (XT.ushr p0 (8 : Int32)))])) X0 (fun t k => XS.bipush X0.here hx rfl (hb hby at_34) k) ?_
  refine OwnFin.step (g' := (mkF m 37 (Lak1m00_3 p0 p1 p2 p3 p4) [(.int ((XT.ushr p0 (8 : Int32)) &&& (127 : Int32)))])) X0 (fun t k => XS.iand X0.here hx rfl (hb hby at_36) rfl k) ?_
  refine OwnFin.step (g' := (mkF m 39 (Lak1m00_4 p0 p1 p2 p3 p4) [])) X0 (fun t k => XS.istore X0.here hx rfl (hb hby at_37) rfl (l' := (Lak1m00_4 p0 p1 p2 p3 p4)) rfl k) ?_
  refine OwnFin.step (g' := (mkF m 40 (Lak1m00_4 p0 p1 p2 p3 p4) [(.int p0)])) X0 (fun t k => XS.iloadN X0.here hx rfl (hb hby at_39) rfl k) ?_
  refine OwnFin.step (g' := (mkF m 42 (Lak1m00_4 p0 p1 p2 p3 p4) [(.int (16 : Int32)), (.int p0)])) X0 (fun t k => XS.bipush X0.here hx rfl (hb hby at_40) k) ?_
  refine OwnFin.step (g' := (mkF m 43 (Lak1m00_4 p0 p1 p2 p3 p4) [(.int (XT.ushr p0 (16 : Int32)))])) X0 (fun t k => XT.iushr X0.here hx rfl (hb hby at_42) rfl k) ?_
  refine OwnFin.step (g' := (mkF m 45 (Lak1m00_4 p0 p1 p2 p3 p4) [(.int (127 : Int32)), (.int (XT.ushr p0 (16 : Int32)))])) X0 (fun t k => XS.bipush X0.here hx rfl (hb hby at_43) k) ?_
  refine OwnFin.step (g' := (mkF m 46 (Lak1m00_4 p0 p1 p2 p3 p4) [(.int ((XT.ushr p0 (16 : Int32)) &&& (127 : Int32)))])) X0 (fun t k => XS.iand X0.here hx rfl (hb hby at_45) rfl k) ?_
  refine OwnFin.step (g' := (mkF m 48 (Lak1m00_5 p0 p1 p2 p3 p4) [])) X0 (fun t k => XS.istore X0.here hx rfl (hb hby at_46) rfl (l' := (Lak1m00_5 p0 p1 p2 p3 p4)) rfl k) ?_
  refine OwnFin.step (g' := (mkF m 49 (Lak1m00_5 p0 p1 p2 p3 p4) [(.int p0)])) X0 (fun t k => XS.iloadN X0.here hx rfl (hb hby at_48) rfl k) ?_
  refine OwnFin.step (g' := (mkF m 51 (Lak1m00_5 p0 p1 p2 p3 p4) [(.int (24 : Int32)), (.int p0)])) X0 (fun t k => XS.bipush X0.here hx rfl (hb hby at_49) k) ?_
  refine OwnFin.step (g' := (mkF m 52 (Lak1m00_5 p0 p1 p2 p3 p4) [(.int (XT.ushr p0 (24 : Int32)))])) X0 (fun t k => XT.iushr X0.here hx rfl (hb hby at_51) rfl k) ?_
  refine OwnFin.step (g' := (mkF m 54 (Lak1m00_5 p0 p1 p2 p3 p4) [(.int (127 : Int32)), (.int (XT.ushr p0 (24 : Int32)))])) X0 (fun t k => XS.bipush X0.here hx rfl (hb hby at_52) k) ?_
  refine OwnFin.step (g' := (mkF m 55 (Lak1m00_5 p0 p1 p2 p3 p4) [(.int ((XT.ushr p0 (24 : Int32)) &&& (127 : Int32)))])) X0 (fun t k => XS.iand X0.here hx rfl (hb hby at_54) rfl k) ?_
  refine OwnFin.step (g' := (mkF m 57 (Lak1m00_6 p0 p1 p2 p3 p4) [])) X0 (fun t k => XS.istore X0.here hx rfl (hb hby at_55) rfl (l' := (Lak1m00_6 p0 p1 p2 p3 p4)) rfl k) ?_
  refine OwnFin.step (g' := (mkF m 58 (Lak1m00_6 p0 p1 p2 p3 p4) [(.int p1)])) X0 (fun t k => XS.iloadN X0.here hx rfl (hb hby at_57) rfl k) ?_
  refine OwnFin.step (g' := (mkF m 60 (Lak1m00_6 p0 p1 p2 p3 p4) [(.int (7 : Int32)), (.int p1)])) X0 (fun t k => XS.bipush X0.here hx rfl (hb hby at_58) k) ?_
  refine OwnFin.step (g' := (mkF m 61 (Lak1m00_6 p0 p1 p2 p3 p4) [(.int (p1 &&& (7 : Int32)))])) X0 (fun t k => XS.iand X0.here hx rfl (hb hby at_60) rfl k) ?_
  refine OwnFin.step (g' := (mkF m 63 (Lak1m00_7 p0 p1 p2 p3 p4) [])) X0 (fun t k => XS.istore X0.here hx rfl (hb hby at_61) rfl (l' := (Lak1m00_7 p0 p1 p2 p3 p4)) rfl k) ?_
  refine OwnFin.step (g' := (mkF m 64 (Lak1m00_7 p0 p1 p2 p3 p4) [(.int p3)])) X0 (fun t k => XS.iloadN X0.here hx rfl (hb hby at_63) rfl k) ?_
  refine OwnFin.step (g' := (mkF m 66 (Lak1m00_7 p0 p1 p2 p3 p4) [(.int (127 : Int32)), (.int p3)])) X0 (fun t k => XS.bipush X0.here hx rfl (hb hby at_64) k) ?_
  refine OwnFin.step (g' := (mkF m 67 (Lak1m00_7 p0 p1 p2 p3 p4) [(.int (p3 &&& (127 : Int32)))])) X0 (fun t k => XS.iand X0.here hx rfl (hb hby at_66) rfl k) ?_
  refine OwnFin.step (g' := (mkF m 69 (Lak1m00_8 p0 p1 p2 p3 p4) [])) X0 (fun t k => XS.istore X0.here hx rfl (hb hby at_67) rfl (l' := (Lak1m00_8 p0 p1 p2 p3 p4)) rfl k) ?_
  refine OwnFin.step (g' := (mkF m 71 (Lak1m00_8 p0 p1 p2 p3 p4) [(.int (0 : Int32))])) X0 (fun t k => XS.iload X0.here hx rfl (hb hby at_69) rfl k) ?_
  refine OwnFin.step (g' := (mkF m 81 (Lak1m00_8 p0 p1 p2 p3 p4) [])) X0 (fun t k => XS.ifYes X0.here hx rfl (pc0 := 71) (pc' := 81) rfl (hb hby at_71) rfl ((if0 _ _).trans (teq (show (0 : Int32) = (0 : Int32) by first | rfl | decide)).1) (by decide) (by decide) k) ?_
  refine OwnFin.step (g' := (mkF m 83 (Lak1m00_8 p0 p1 p2 p3 p4) [(.int (1 : Int32))])) X0 (fun t k => XS.iload X0.here hx rfl (hb hby at_81) rfl k) ?_
  obtain ⟨T4, h4, b4, X4, e4, y4, K4, A4, st4⟩ := own_new X0 hx hZ (hw _ (wm 1 rfl)) e0 (g := (mkF m 83 (Lak1m00_8 p0 p1 p2 p3 p4) [(.int (1 : Int32))])) rfl (hb hby at_83) rfl (by decide) (cap := 1) (by decide) (by decide) (by decide) (by decide)
  have B4 : Ary Z h4 b4 .byte 1 (fun i => .int ((fun _ => (0 : Int32)) i)) := A4
  have g_b4 : n0 ≤ b4 := by rw [y4]; exact Z0
  have Z4 := Nat.le_trans Z0 K4.1
  refine OwnFin.step (g' := (mkF m 85 (Lak1m00_8 p0 p1 p2 p3 p4) [(.ref b4)])) X4 (fun t k => st4 _ k) ?_
  refine OwnFin.step (g' := (mkF m 87 (Lak1m00_9 p0 p1 p2 p3 p4 b4) [])) X4 (fun t k => XS.astore X4.here hx rfl (hb hby at_85) rfl rfl (l' := (Lak1m00_9 p0 p1 p2 p3 p4 b4)) rfl k) ?_
  refine OwnFin.step (g' := (mkF m 89 (Lak1m00_9 p0 p1 p2 p3 p4 b4) [(.ref b4)])) X4 (fun t k => XS.aload X4.here hx rfl (hb hby at_87) rfl rfl k) ?_
  refine OwnFin.step (g' := (mkF m 90 (Lak1m00_9 p0 p1 p2 p3 p4 b4) [(.int (0 : Int32)), (.ref b4)])) X4 (fun t k => XS.iconst X4.here hx rfl (hb hby at_89) k) ?_
  refine OwnFin.step (g' := (mkF m 92 (Lak1m00_9 p0 p1 p2 p3 p4 b4) [(.int (1 : Int32)), (.int (0 : Int32)), (.ref b4)])) X4 (fun t k => XS.iload X4.here hx rfl (hb hby at_90) rfl k) ?_
  refine OwnFin.step (g' := (mkF m 93 (Lak1m00_9 p0 p1 p2 p3 p4 b4) [(.int (1 : Int32)), (.int (1 : Int32)), (.int (0 : Int32)), (.ref b4)])) X4 (fun t k => XS.iconst X4.here hx rfl (hb hby at_92) k) ?_
  refine OwnFin.step (g' := (mkF m 105 (Lak1m00_9 p0 p1 p2 p3 p4 b4) [(.int (0 : Int32)), (.ref b4)])) X4 (fun t k => XS.icmpYes X4.here hx rfl (pc0 := 93) (pc' := 105) rfl (hb hby at_93) rfl (flt (show ¬ ((1 : Int32) < (1 : Int32)) by first | decide | exact Int32.lt_irrefl _ | exact Int64.lt_irrefl _)).2.2.2 (by decide) (by decide) k) ?_
  refine OwnFin.step (g' := (mkF m 107 (Lak1m00_9 p0 p1 p2 p3 p4 b4) [(.int (vk1m00_28 p0)), (.int (0 : Int32)), (.ref b4)])) X4 (fun t k => XS.iload X4.here hx rfl (hb hby at_105) rfl k) ?_
  refine OwnFin.step (g' := (mkF m 108 (Lak1m00_9 p0 p1 p2 p3 p4 b4) [(.int ((vk1m00_28 p0).toInt8.toInt32)), (.int (0 : Int32)), (.ref b4)])) X4 (fun t k => XT.i2b X4.here hx rfl (hb hby at_107) rfl k) ?_
  obtain ⟨T5, h5, L5, X5, e5, N5, K5, A5, st5⟩ := own_stB X4 hx hZ e4 N0 (G := (fun _ => (0 : Int32))) B4 g_b4 (j := (0 : Int32)) (x := ((vk1m00_28 p0).toInt8.toInt32)) (by decide) (g := (mkF m 108 (Lak1m00_9 p0 p1 p2 p3 p4 b4) [(.int ((vk1m00_28 p0).toInt8.toInt32)), (.int (0 : Int32)), (.ref b4)])) rfl rfl (hb hby at_108)
  have B5 : Ary Z h5 b4 .byte 1 (fun i => .int ((Gk1m00_108 p0) i)) := A5
  have Z5 := Nat.le_trans Z4 K5.1
  refine OwnFin.step (g' := (mkF m 109 (Lak1m00_9 p0 p1 p2 p3 p4 b4) [])) X5 (fun t k => st5 _ k) ?_
  refine OwnFin.step (g' := (mkF m 111 (Lak1m00_9 p0 p1 p2 p3 p4 b4) [(.int (1 : Int32))])) X5 (fun t k => XS.iload X5.here hx rfl (hb hby at_109) rfl k) ?_
  refine OwnFin.step (g' := (mkF m 112 (Lak1m00_9 p0 p1 p2 p3 p4 b4) [(.int (1 : Int32)), (.int (1 : Int32))])) X5 (fun t k => XS.iconst X5.here hx rfl (hb hby at_111) k) ?_
  refine OwnFin.step (g' := (mkF m 137 (Lak1m00_9 p0 p1 p2 p3 p4 b4) [])) X5 (fun t k => XS.icmpYes X5.here hx rfl (pc0 := 112) (pc' := 137) rfl (hb hby at_112) rfl (flt (show ¬ ((1 : Int32) < (1 : Int32)) by first | decide | exact Int32.lt_irrefl _ | exact Int64.lt_irrefl _)).2.2.2 (by decide) (by decide) k) ?_
  refine OwnFin.step (g' := (mkF m 139 (Lak1m00_9 p0 p1 p2 p3 p4 b4) [(.int (1 : Int32))])) X5 (fun t k => XS.iload X5.here hx rfl (hb hby at_137) rfl k) ?_
  refine OwnFin.step (g' := (mkF m 140 (Lak1m00_9 p0 p1 p2 p3 p4 b4) [(.int (2 : Int32)), (.int (1 : Int32))])) X5 (fun t k => XS.iconst X5.here hx rfl (hb hby at_139) k) ?_
  refine OwnFin.step (g' := (mkF m 165 (Lak1m00_9 p0 p1 p2 p3 p4 b4) [])) X5 (fun t k => XS.icmpYes X5.here hx rfl (pc0 := 140) (pc' := 165) rfl (hb hby at_140) rfl (flt (show ¬ ((2 : Int32) < (1 : Int32)) by first | decide | exact Int32.lt_irrefl _ | exact Int64.lt_irrefl _)).2.2.2 (by decide) (by decide) k) ?_
  refine OwnFin.step (g' := (mkF m 167 (Lak1m00_9 p0 p1 p2 p3 p4 b4) [(.int (1 : Int32))])) X5 (fun t k => XS.iload X5.here hx rfl (hb hby at_165) rfl k) ?_
  refine OwnFin.step (g' := (mkF m 168 (Lak1m00_9 p0 p1 p2 p3 p4 b4) [(.int (3 : Int32)), (.int (1 : Int32))])) X5 (fun t k => XS.iconst X5.here hx rfl (hb hby at_167) k) ?_
  refine OwnFin.step (g' := (mkF m 193 (Lak1m00_9 p0 p1 p2 p3 p4 b4) [])) X5 (fun t k => XS.icmpYes X5.here hx rfl (pc0 := 168) (pc' := 193) rfl (hb hby at_168) rfl (flt (show ¬ ((3 : Int32) < (1 : Int32)) by first | decide | exact Int32.lt_irrefl _ | exact Int64.lt_irrefl _)).2.2.2 (by decide) (by decide) k) ?_
  refine OwnFin.step (g' := (mkF m 195 (Lak1m00_9 p0 p1 p2 p3 p4 b4) [(.int (1 : Int32))])) X5 (fun t k => XS.iload X5.here hx rfl (hb hby at_193) rfl k) ?_
  refine OwnFin.step (g' := (mkF m 196 (Lak1m00_9 p0 p1 p2 p3 p4 b4) [(.int (4 : Int32)), (.int (1 : Int32))])) X5 (fun t k => XS.iconst X5.here hx rfl (hb hby at_195) k) ?_
  refine OwnFin.step (g' := (mkF m 206 (Lak1m00_9 p0 p1 p2 p3 p4 b4) [])) X5 (fun t k => XS.icmpYes X5.here hx rfl (pc0 := 196) (pc' := 206) rfl (hb hby at_196) rfl (flt (show ¬ ((4 : Int32) < (1 : Int32)) by first | decide | exact Int32.lt_irrefl _ | exact Int64.lt_irrefl _)).2.2.2 (by decide) (by decide) k) ?_
  refine OwnFin.step (g' := (mkF m 208 (Lak1m00_9 p0 p1 p2 p3 p4 b4) [(.int (0 : Int32))])) X5 (fun t k => XS.iload X5.here hx rfl (hb hby at_206) rfl k) ?_
  refine OwnFin.step (g' := (mkF m 219 (Lak1m00_9 p0 p1 p2 p3 p4 b4) [])) X5 (fun t k => XS.ifYes X5.here hx rfl (pc0 := 208) (pc' := 219) rfl (hb hby at_208) rfl ((if0 _ _).trans (teq (show (0 : Int32) = (0 : Int32) by first | rfl | decide)).1) (by decide) (by decide) k) ?_
  refine OwnFin.step (g' := (mkF m 221 (Lak1m00_9 p0 p1 p2 p3 p4 b4) [(.int (vk1m00_28 p0))])) X5 (fun t k => XS.iload X5.here hx rfl (hb hby at_219) rfl k) ?_
  refine OwnFin.step (g' := (mkF m 222 (Lak1m00_9 p0 p1 p2 p3 p4 b4) [(.long ((vk1m00_28 p0).toInt64))])) X5 (fun t k => XT.i2l X5.here hx rfl (hb hby at_221) rfl k) ?_
  refine OwnFin.step (g' := (mkF m 224 (Lak1m00_10 p0 p1 p2 p3 p4 b4) [])) X5 (fun t k => XT.lstore X5.here hx rfl (hb hby at_222) rfl (l' := (Lak1m00_10 p0 p1 p2 p3 p4 b4)) rfl k) ?_
  refine OwnFin.step (g' := (mkF m 226 (Lak1m00_10 p0 p1 p2 p3 p4 b4) [(.int (1 : Int32))])) X5 (fun t k => XS.iload X5.here hx rfl (hb hby at_224) rfl k) ?_
  refine OwnFin.step (g' := (mkF m 227 (Lak1m00_10 p0 p1 p2 p3 p4 b4) [(.int (1 : Int32)), (.int (1 : Int32))])) X5 (fun t k => XS.iconst X5.here hx rfl (hb hby at_226) k) ?_
  refine OwnFin.step (g' := (mkF m 242 (Lak1m00_10 p0 p1 p2 p3 p4 b4) [])) X5 (fun t k => XS.icmpYes X5.here hx rfl (pc0 := 227) (pc' := 242) rfl (hb hby at_227) rfl (flt (show ¬ ((1 : Int32) < (1 : Int32)) by first | decide | exact Int32.lt_irrefl _ | exact Int64.lt_irrefl _)).2.2.2 (by decide) (by decide) k) ?_
  refine OwnFin.step (g' := (mkF m 244 (Lak1m00_10 p0 p1 p2 p3 p4 b4) [(.int (1 : Int32))])) X5 (fun t k => XS.iload X5.here hx rfl (hb hby at_242) rfl k) ?_
  refine OwnFin.step (g' := (mkF m 245 (Lak1m00_10 p0 p1 p2 p3 p4 b4) [(.int (2 : Int32)), (.int (1 : Int32))])) X5 (fun t k => XS.iconst X5.here hx rfl (hb hby at_244) k) ?_
  refine OwnFin.step (g' := (mkF m 260 (Lak1m00_10 p0 p1 p2 p3 p4 b4) [])) X5 (fun t k => XS.icmpYes X5.here hx rfl (pc0 := 245) (pc' := 260) rfl (hb hby at_245) rfl (flt (show ¬ ((2 : Int32) < (1 : Int32)) by first | decide | exact Int32.lt_irrefl _ | exact Int64.lt_irrefl _)).2.2.2 (by decide) (by decide) k) ?_
  refine OwnFin.step (g' := (mkF m 262 (Lak1m00_10 p0 p1 p2 p3 p4 b4) [(.int (1 : Int32))])) X5 (fun t k => XS.iload X5.here hx rfl (hb hby at_260) rfl k) ?_
  refine OwnFin.step (g' := (mkF m 263 (Lak1m00_10 p0 p1 p2 p3 p4 b4) [(.int (3 : Int32)), (.int (1 : Int32))])) X5 (fun t k => XS.iconst X5.here hx rfl (hb hby at_262) k) ?_
  refine OwnFin.step (g' := (mkF m 278 (Lak1m00_10 p0 p1 p2 p3 p4 b4) [])) X5 (fun t k => XS.icmpYes X5.here hx rfl (pc0 := 263) (pc' := 278) rfl (hb hby at_263) rfl (flt (show ¬ ((3 : Int32) < (1 : Int32)) by first | decide | exact Int32.lt_irrefl _ | exact Int64.lt_irrefl _)).2.2.2 (by decide) (by decide) k) ?_
  refine OwnFin.step (g' := (mkF m 280 (Lak1m00_10 p0 p1 p2 p3 p4 b4) [(.int (1 : Int32))])) X5 (fun t k => XS.iload X5.here hx rfl (hb hby at_278) rfl k) ?_
  refine OwnFin.step (g' := (mkF m 281 (Lak1m00_10 p0 p1 p2 p3 p4 b4) [(.int (4 : Int32)), (.int (1 : Int32))])) X5 (fun t k => XS.iconst X5.here hx rfl (hb hby at_280) k) ?_
  refine OwnFin.step (g' := (mkF m 296 (Lak1m00_10 p0 p1 p2 p3 p4 b4) [])) X5 (fun t k => XS.icmpYes X5.here hx rfl (pc0 := 281) (pc' := 296) rfl (hb hby at_281) rfl (flt (show ¬ ((4 : Int32) < (1 : Int32)) by first | decide | exact Int32.lt_irrefl _ | exact Int64.lt_irrefl _)).2.2.2 (by decide) (by decide) k) ?_
  obtain ⟨T6, h6, X6, e6, E6, A6, D6, -, st6⟩ := newO X5 hx hZ hown (hw _ (wm 4 rfl)) (hw _ (wm 5 rfl)) (hw _ (wm 6 rfl)) e5 (g := (mkF m 296 (Lak1m00_10 p0 p1 p2 p3 p4 b4) [])) rfl (hb hby at_296) (by decide) (by decide)
  obtain ⟨b6, y6⟩ : ∃ z, z = h5.size := ⟨_, rfl⟩
  rw [← y6] at A6 D6 st6
  have K6 := keep_ext E6
  have ne_b4_b6 : b4 ≠ b6 := Ary.neS B5 y6
  have g_b6 : n0 ≤ b6 := by rw [y6]; exact Z5
  have Z6 := Nat.le_trans Z5 K6.1
  have F6_record : Fld Z h6 b6 "com/example/faden/faden/rank/RecordReader" "record" "[B" .null := D6 (Or.inr (hw _ (wm 14 rfl))) (ty := (.array .byte)) (by decide)
  have F6_at : Fld Z h6 b6 "com/example/faden/faden/rank/RecordReader" "at" "I" (.int (0 : Int32)) := D6 (Or.inl (hw _ (wm 21 rfl))) (ty := .int) (by decide)
  refine OwnFin.step (g' := (mkF m 299 (Lak1m00_10 p0 p1 p2 p3 p4 b4) [(.ref b6)])) X6 (fun t k => st6 _ k) ?_
  refine OwnFin.step (g' := (mkF m 300 (Lak1m00_10 p0 p1 p2 p3 p4 b4) [(.ref b6), (.ref b6)])) X6 (fun t k => XS.dup X6.here hx rfl (hb hby at_299) rfl rfl k) ?_
  refine OwnFin.step (g' := (mkF m 302 (Lak1m00_10 p0 p1 p2 p3 p4 b4) [(.ref b4), (.ref b6), (.ref b6)])) X6 (fun t k => XS.aload X6.here hx rfl (hb hby at_300) rfl rfl k) ?_
  obtain ⟨_, T7, L7, X7, ⟨rfl, N7q, u8, u9, u10, u11⟩, st7⟩ := own_callI X6 hx hZ (y := (⟨"com/example/faden/faden/rank/RecordReader", "<init>", "([B)V"⟩ : MethodName)) (W := 1) (a := b6) (argsL := [(.ref b4)]) (rest := [(.ref b6)]) rfl hown (hw _ (wm 7 rfl)) (hw _ (wm 8 rfl)) (hw _ (wm 6 rfl)) (hw _ (wm 9 rfl)) (by decide) (rm1 l Z a0 hw [] b6 b4 h6 n0 Z6 A6 g_b6 F6_record F6_at) (by decide) (by decide) (by decide) (by decide) e6 (g := (mkF m 302 (Lak1m00_10 p0 p1 p2 p3 p4 b4) [(.ref b4), (.ref b6), (.ref b6)])) rfl (by rw [hml]; rfl) pd_0 rfl rfl (by show 2 * 0 + _ ≤ _; exact Nat.le_of_eq rfl) (hb hby at_302)
  have N7 := Fr.app N5 N7q
  obtain ⟨h7, e7⟩ : ∃ z, T7.heap = z := ⟨_, rfl⟩
  rw [e7] at u8 u9 u10 u11
  have K7 := u8
  have Z7 := Nat.le_trans Z6 K7.1
  refine OwnFin.step (g' := (mkF m 305 (Lak1m00_10 p0 p1 p2 p3 p4 b4) [(.ref b6)])) X7 (fun t k => st7 _ k) ?_
  refine OwnFin.step (g' := (mkF m 307 (Lak1m00_11 p0 p1 p2 p3 p4 b4 b6) [])) X7 (fun t k => XS.astore X7.here hx rfl (hb hby at_305) rfl rfl (l' := (Lak1m00_11 p0 p1 p2 p3 p4 b4 b6)) rfl k) ?_
  refine OwnFin.step (g' := (mkF m 309 (Lak1m00_11 p0 p1 p2 p3 p4 b4 b6) [(.ref b6)])) X7 (fun t k => XS.aload X7.here hx rfl (hb hby at_307) rfl rfl k) ?_
  have A13 := ((B5.keep K6 nin0).keep K7 (ninS ne_b4_b6 nin0))
  obtain ⟨_, T12, L12, X12, ⟨rfl, N12q, u14, u15, u16, u17⟩, st12⟩ := own_callV X7 hx hZ (y := (⟨"com/example/faden/faden/rank/RecordReader", "number", "()I"⟩ : MethodName)) (W := 0) (a := b6) (argsL := []) (rest := []) hown (hw _ (wm 15 rfl)) (hw _ (wm 16 rfl)) (hw _ (wm 18 rfl)) (hw _ (wm 17 rfl)) (hw _ (wm 6 rfl)) (hw _ (wm 19 rfl)) (by decide) u9 (rm3a0k1 l Z a0 hw [] b6 1 (Gk1m00_108 p0) b4 h7 n0 Z7 u9 g_b6 u10 u11 A13 (Ne.symm ne_b4_b6) (exhlnk1m00_309 p2 p4 hk hm) (exhb0k1m00_309 p0 p2 p4 hk hm)) (by decide) (by decide) (by decide) (by decide) e7 (g := (mkF m 309 (Lak1m00_11 p0 p1 p2 p3 p4 b4 b6) [(.ref b6)])) rfl (by rw [hml]; rfl) pd_1 rfl rfl (by show 2 * 0 + _ ≤ _; exact Nat.le_of_eq rfl) (hb hby at_309)
  have N12 := Fr.app N7 N12q
  obtain ⟨h12, e12⟩ : ∃ z, T12.heap = z := ⟨_, rfl⟩
  rw [e12] at u14 u15 u16 u17
  have K12 := u14
  have Z12 := Nat.le_trans Z7 K12.1
  refine OwnFin.step (g' := (mkF m 312 (Lak1m00_11 p0 p1 p2 p3 p4 b4 b6) [(.int (va0k13_77 (Gk1m00_108 p0)))])) X12 (fun t k => st12 _ k) ?_
  refine OwnFin.step (g' := (mkF m 314 (Lak1m00_12 p0 p1 p2 p3 p4 b4 b6) [])) X12 (fun t k => XS.istore X12.here hx rfl (hb hby at_312) rfl (l' := (Lak1m00_12 p0 p1 p2 p3 p4 b4 b6)) rfl k) ?_
  refine OwnFin.step (g' := (mkF m 316 (Lak1m00_12 p0 p1 p2 p3 p4 b4 b6) [(.int (vk1m00_312 p0))])) X12 (fun t k => XS.iload X12.here hx rfl (hb hby at_314) rfl k) ?_
  refine OwnFin.step (g' := (mkF m 317 (Lak1m00_12 p0 p1 p2 p3 p4 b4 b6) [(.long ((vk1m00_312 p0).toInt64))])) X12 (fun t k => XT.i2l X12.here hx rfl (hb hby at_316) rfl k) ?_
  refine OwnFin.step (g' := (mkF m 319 (Lak1m00_12 p0 p1 p2 p3 p4 b4 b6) [(.long (vk1m00_222 p0)), (.long ((vk1m00_312 p0).toInt64))])) X12 (fun t k => XT.lload X12.here hx rfl (hb hby at_317) rfl k) ?_
  refine OwnFin.step (g' := (mkF m 320 (Lak1m00_12 p0 p1 p2 p3 p4 b4 b6) [(.int (XT.cmpL ((vk1m00_312 p0).toInt64) (vk1m00_222 p0)))])) X12 (fun t k => XT.lcmp X12.here hx rfl (hb hby at_319) rfl k) ?_
  refine OwnFin.step (g' := (mkF m 325 (Lak1m00_12 p0 p1 p2 p3 p4 b4 b6) [])) X12 (fun t k => XS.ifYes X12.here hx rfl (pc0 := 320) (pc' := 325) rfl (hb hby at_320) rfl ((if0 _ _).trans (teq ((cl_eq _ _).mpr (brk1m00_320 p0 p2 p4 hk hm))).1) (by decide) (by decide) k) ?_
  refine OwnFin.step (g' := (mkF m 327 (Lak1m00_12 p0 p1 p2 p3 p4 b4 b6) [(.int (0 : Int32))])) X12 (fun t k => XS.iload X12.here hx rfl (hb hby at_325) rfl k) ?_
  refine OwnFin.step (g' := (mkF m 330 (Lak1m00_12 p0 p1 p2 p3 p4 b4 b6) [])) X12 (fun t k => XS.ifNo X12.here hx rfl (hb hby at_327) rfl ((if0 _ _).trans (teq (show (0 : Int32) = (0 : Int32) by first | rfl | decide)).2) k) ?_
  refine OwnFin.step (g' := (mkF m 332 (Lak1m00_12 p0 p1 p2 p3 p4 b4 b6) [(.ref b6)])) X12 (fun t k => XS.aload X12.here hx rfl (hb hby at_330) rfl rfl k) ?_
  have A19 := (A13.keep K12 (ninS ne_b4_b6 nin0))
  obtain ⟨_, T18, L18, X18, ⟨rfl, N18q, u20⟩, st18⟩ := own_callV X12 hx hZ (y := (⟨"com/example/faden/faden/rank/RecordReader", "atEnd", "()Z"⟩ : MethodName)) (W := 0) (a := b6) (argsL := []) (rest := []) hown (hw _ (wm 22 rfl)) (hw _ (wm 23 rfl)) (hw _ (wm 25 rfl)) (hw _ (wm 24 rfl)) (hw _ (wm 6 rfl)) (hw _ (wm 26 rfl)) (by decide) u15 (rm4 l Z a0 hw [] b6 1 (Gk1m00_108 p0) b4 (1 : Int32) h12 n0 Z12 u15 g_b6 u16 u17 A19 (Ne.symm ne_b4_b6)) (by decide) (by decide) (by decide) (by decide) e12 (g := (mkF m 332 (Lak1m00_12 p0 p1 p2 p3 p4 b4 b6) [(.ref b6)])) rfl (by rw [hml]; rfl) pd_2 rfl rfl (by show 2 * 0 + _ ≤ _; exact Nat.le_of_eq rfl) (hb hby at_332)
  have N18 := Fr.app N12 N18q
  obtain ⟨h18, e18⟩ : ∃ z, T18.heap = z := ⟨_, rfl⟩
  rw [e18] at u20
  have K18 := u20
  have Z18 := Nat.le_trans Z12 K18.1
  rw [show (nar .boolean (v4_17 (1 : Int32) 1)) = (1 : Int32) from by decide] at st18
  refine OwnFin.step (g' := (mkF m 335 (Lak1m00_12 p0 p1 p2 p3 p4 b4 b6) [(.int (1 : Int32))])) X18 (fun t k => st18 _ k) ?_
  refine OwnFin.retNar X18 (by simp) (hb hby at_335) (by decide) (by decide) ?_
  exact ⟨rfl, N18⟩
set_option maxRecDepth 65536 in
set_option maxHeartbeats 40000000 in
theorem rm0k1m0 (l : Launch) (Z : State) (a0 : Array Value) (hw : ∀ d ∈ tables_1, d.before a0 Z = true) (ws : List Jvm.Cond) (p0 : Int32) (p1 : Int32) (p2 : Int32) (p3 : Int32) (p4 : Int32) (h0 : Heap) (n0 : Nat) (Z0 : n0 ≤ h0.size) (hk : vk1m00_8 p2 = (1 : Int32)) (hm : vk1m00_22 p4 = (0 : Int32)) :
    MetFree l x (head1 (Jvm.Cond.code x code maxLocals ret :: ws) room_1) (fun a U => a = #[(.int p0), (.int p1), (.int p2), (.int p3), (.int p4)] ∧ Z.Warmed39 U.vm ∧ U.heap = h0) (fun _ _ _ _ _ => True) (fun _ U o U' => ∃ v L, o = .returned v ∧ (LQ n0) v U'.heap L ∧ FrameEnd U o U' L room_1.cells room_1.slots) :=
  own_met (ret := ret) (Q := (LQ n0)) (plainFor_of_name pn_0) (fun m => ef_0 m p0 p1 p2 p3 p4) (fun p e s m below meth c s₁ X hx hby hml hown hnm hZ e0 => j0k1m0 X hx hZ hw hby hml hown hnm e0 (Fr.nil n0) Z0 p0 p1 p2 p3 p4 hk hm)
def vk1m10_8 (p2 : Int32) : Int32 := (((p2 &&& (2147483647 : Int32)) % (5 : Int32)) + (1 : Int32))
def vk1m10_22 (p4 : Int32) : Int32 := (if (p4 &&& (1 : Int32)) = (0 : Int32) then (0 : Int32) else (1 : Int32))
def vk1m10_28 (p0 : Int32) : Int32 := (p0 &&& (127 : Int32))
def vk1m10_37 (p0 : Int32) : Int32 := ((XT.ushr p0 (8 : Int32)) &&& (127 : Int32))
def vk1m10_46 (p0 : Int32) : Int32 := ((XT.ushr p0 (16 : Int32)) &&& (127 : Int32))
def vk1m10_55 (p0 : Int32) : Int32 := ((XT.ushr p0 (24 : Int32)) &&& (127 : Int32))
def vk1m10_61 (p1 : Int32) : Int32 := (p1 &&& (7 : Int32))
def vk1m10_67 (p3 : Int32) : Int32 := (p3 &&& (127 : Int32))
def Gk1m10_108 (p0 : Int32) : Nat → Int32 := (updN (fun _ => (0 : Int32)) ((0 : Int32)).toNatClampNeg (nar .byte ((vk1m10_28 p0).toInt8.toInt32)))
def Gk1m10_218 (p0 : Int32) (p3 : Int32) : Nat → Int32 := (updN (Gk1m10_108 p0) ((1 : Int32)).toNatClampNeg (nar .byte ((vk1m10_67 p3).toInt8.toInt32)))
def vk1m10_222 (p0 : Int32) : Int64 := ((vk1m10_28 p0).toInt64)
def vk1m10_312 (p0 : Int32) (p3 : Int32) : Int32 := (va0k13_77 (Gk1m10_218 p0 p3))
def vk1m10_351 (p0 : Int32) (p3 : Int32) : Int32 := (va1k13_77 (Gk1m10_218 p0 p3))
theorem exhlnk1m10_309 (p2 : Int32) (p4 : Int32) (hk : vk1m10_8 p2 = (1 : Int32)) (hm : vk1m10_22 p4 = (1 : Int32)) : 1 ≤ 2 ∧ 2 < 100 := by decide
theorem exhb0k1m10_309 (p0 : Int32) (p3 : Int32) (p2 : Int32) (p4 : Int32) (hk : vk1m10_8 p2 = (1 : Int32)) (hm : vk1m10_22 p4 = (1 : Int32)) : (((Gk1m10_218 p0 p3) 0) &&& 255).toInt < 128 := by
  have b0 : 0 ≤ (vk1m10_28 p0).toInt ∧ (vk1m10_28 p0).toInt < 128 := own_b127 _
  have h0 : (((Gk1m10_218 p0 p3) 0) &&& 255).toInt = (vk1m10_28 p0).toInt := own_lo ⟨b0.1, Int.lt_of_lt_of_le b0.2 (by decide)⟩
  omega
theorem brk1m10_320 (p0 : Int32) (p3 : Int32) (p2 : Int32) (p4 : Int32) (hk : vk1m10_8 p2 = (1 : Int32)) (hm : vk1m10_22 p4 = (1 : Int32)) : ((vk1m10_312 p0 p3).toInt64) = (vk1m10_222 p0) := by
  have b0 : 0 ≤ (vk1m10_28 p0).toInt ∧ (vk1m10_28 p0).toInt < 128 := own_b127 _
  have h0 : (((Gk1m10_218 p0 p3) 0) &&& 255).toInt = (vk1m10_28 p0).toInt := own_lo ⟨b0.1, Int.lt_of_lt_of_le b0.2 (by decide)⟩
  have e0 : (vk1m10_222 p0).toInt = (vk1m10_28 p0).toInt := Jvm.Kit.i64_of_i32 _
  have m0 : (((Gk1m10_218 p0 p3) 0) &&& 255).toInt % 128 = (vk1m10_28 p0).toInt := own_m7' h0 ⟨b0.1, Int.lt_of_lt_of_le b0.2 (by decide)⟩
  have r : (vk1m10_312 p0 p3).toInt = _ := own_va0k13_77 (Gk1m10_218 p0 p3)
  rw [i64eq, Jvm.Kit.i64_of_i32, r, m0, e0, Int.mul_one]
theorem exhlnk1m10_348 (p2 : Int32) (p4 : Int32) (hk : vk1m10_8 p2 = (1 : Int32)) (hm : vk1m10_22 p4 = (1 : Int32)) : 2 ≤ 2 ∧ 2 < 100 := by decide
theorem exhb0k1m10_348 (p0 : Int32) (p3 : Int32) (p2 : Int32) (p4 : Int32) (hk : vk1m10_8 p2 = (1 : Int32)) (hm : vk1m10_22 p4 = (1 : Int32)) : (((Gk1m10_218 p0 p3) 1) &&& 255).toInt < 128 := by
  have bc : 0 ≤ (vk1m10_67 p3).toInt ∧ (vk1m10_67 p3).toInt < 128 := own_b127 _
  have hc : (((Gk1m10_218 p0 p3) 1) &&& 255).toInt = (vk1m10_67 p3).toInt := own_lo bc
  omega
theorem brk1m10_357 (p0 : Int32) (p3 : Int32) (p2 : Int32) (p4 : Int32) (hk : vk1m10_8 p2 = (1 : Int32)) (hm : vk1m10_22 p4 = (1 : Int32)) : (vk1m10_351 p0 p3) = (vk1m10_67 p3) := by
  have bc : 0 ≤ (vk1m10_67 p3).toInt ∧ (vk1m10_67 p3).toInt < 128 := own_b127 _
  have hc : (((Gk1m10_218 p0 p3) 1) &&& 255).toInt = (vk1m10_67 p3).toInt := own_lo bc
  have r : (vk1m10_351 p0 p3).toInt = _ := own_va1k13_77 (Gk1m10_218 p0 p3)
  rw [i32eq, r]; omega
abbrev Lak1m10_0 (p0 : Int32) (p1 : Int32) (p2 : Int32) (p3 : Int32) (p4 : Int32) : Array Slot := #[.val (.int p0), .val (.int p1), .val (.int p2), .val (.int p3), .val (.int p4), .unset, .unset, .unset, .unset, .unset, .unset, .unset, .unset, .unset, .unset, .unset, .unset, .unset, .unset]
abbrev Lak1m10_1 (p0 : Int32) (p1 : Int32) (p2 : Int32) (p3 : Int32) (p4 : Int32) : Array Slot := #[.val (.int p0), .val (.int p1), .val (.int p2), .val (.int p3), .val (.int p4), .val (.int (1 : Int32)), .unset, .unset, .unset, .unset, .unset, .unset, .unset, .unset, .unset, .unset, .unset, .unset, .unset]
abbrev Lak1m10_2 (p0 : Int32) (p1 : Int32) (p2 : Int32) (p3 : Int32) (p4 : Int32) : Array Slot := #[.val (.int p0), .val (.int p1), .val (.int p2), .val (.int p3), .val (.int p4), .val (.int (1 : Int32)), .val (.int (1 : Int32)), .unset, .unset, .unset, .unset, .unset, .unset, .unset, .unset, .unset, .unset, .unset, .unset]
abbrev Lak1m10_3 (p0 : Int32) (p1 : Int32) (p2 : Int32) (p3 : Int32) (p4 : Int32) : Array Slot := #[.val (.int p0), .val (.int p1), .val (.int p2), .val (.int p3), .val (.int p4), .val (.int (1 : Int32)), .val (.int (1 : Int32)), .val (.int (vk1m10_28 p0)), .unset, .unset, .unset, .unset, .unset, .unset, .unset, .unset, .unset, .unset, .unset]
abbrev Lak1m10_4 (p0 : Int32) (p1 : Int32) (p2 : Int32) (p3 : Int32) (p4 : Int32) : Array Slot := #[.val (.int p0), .val (.int p1), .val (.int p2), .val (.int p3), .val (.int p4), .val (.int (1 : Int32)), .val (.int (1 : Int32)), .val (.int (vk1m10_28 p0)), .val (.int (vk1m10_37 p0)), .unset, .unset, .unset, .unset, .unset, .unset, .unset, .unset, .unset, .unset]
abbrev Lak1m10_5 (p0 : Int32) (p1 : Int32) (p2 : Int32) (p3 : Int32) (p4 : Int32) : Array Slot := #[.val (.int p0), .val (.int p1), .val (.int p2), .val (.int p3), .val (.int p4), .val (.int (1 : Int32)), .val (.int (1 : Int32)), .val (.int (vk1m10_28 p0)), .val (.int (vk1m10_37 p0)), .val (.int (vk1m10_46 p0)), .unset, .unset, .unset, .unset, .unset, .unset, .unset, .unset, .unset]
abbrev Lak1m10_6 (p0 : Int32) (p1 : Int32) (p2 : Int32) (p3 : Int32) (p4 : Int32) : Array Slot := #[.val (.int p0), .val (.int p1), .val (.int p2), .val (.int p3), .val (.int p4), .val (.int (1 : Int32)), .val (.int (1 : Int32)), .val (.int (vk1m10_28 p0)), .val (.int (vk1m10_37 p0)), .val (.int (vk1m10_46 p0)), .val (.int (vk1m10_55 p0)), .unset, .unset, .unset, .unset, .unset, .unset, .unset, .unset]
abbrev Lak1m10_7 (p0 : Int32) (p1 : Int32) (p2 : Int32) (p3 : Int32) (p4 : Int32) : Array Slot := #[.val (.int p0), .val (.int p1), .val (.int p2), .val (.int p3), .val (.int p4), .val (.int (1 : Int32)), .val (.int (1 : Int32)), .val (.int (vk1m10_28 p0)), .val (.int (vk1m10_37 p0)), .val (.int (vk1m10_46 p0)), .val (.int (vk1m10_55 p0)), .val (.int (vk1m10_61 p1)), .unset, .unset, .unset, .unset, .unset, .unset, .unset]
abbrev Lak1m10_8 (p0 : Int32) (p1 : Int32) (p2 : Int32) (p3 : Int32) (p4 : Int32) : Array Slot := #[.val (.int p0), .val (.int p1), .val (.int p2), .val (.int p3), .val (.int p4), .val (.int (1 : Int32)), .val (.int (1 : Int32)), .val (.int (vk1m10_28 p0)), .val (.int (vk1m10_37 p0)), .val (.int (vk1m10_46 p0)), .val (.int (vk1m10_55 p0)), .val (.int (vk1m10_61 p1)), .val (.int (vk1m10_67 p3)), .unset, .unset, .unset, .unset, .unset, .unset]
abbrev Lak1m10_9 (p0 : Int32) (p1 : Int32) (p2 : Int32) (p3 : Int32) (p4 : Int32) (b4 : Addr) : Array Slot := #[.val (.int p0), .val (.int p1), .val (.int p2), .val (.int p3), .val (.int p4), .val (.int (1 : Int32)), .val (.int (1 : Int32)), .val (.int (vk1m10_28 p0)), .val (.int (vk1m10_37 p0)), .val (.int (vk1m10_46 p0)), .val (.int (vk1m10_55 p0)), .val (.int (vk1m10_61 p1)), .val (.int (vk1m10_67 p3)), .val (.ref b4), .unset, .unset, .unset, .unset, .unset]
abbrev Lak1m10_10 (p0 : Int32) (p1 : Int32) (p2 : Int32) (p3 : Int32) (p4 : Int32) (b4 : Addr) : Array Slot := #[.val (.int p0), .val (.int p1), .val (.int p2), .val (.int p3), .val (.int p4), .val (.int (1 : Int32)), .val (.int (1 : Int32)), .val (.int (vk1m10_28 p0)), .val (.int (vk1m10_37 p0)), .val (.int (vk1m10_46 p0)), .val (.int (vk1m10_55 p0)), .val (.int (vk1m10_61 p1)), .val (.int (vk1m10_67 p3)), .val (.ref b4), .val (.long (vk1m10_222 p0)), .second, .unset, .unset, .unset]
abbrev Lak1m10_11 (p0 : Int32) (p1 : Int32) (p2 : Int32) (p3 : Int32) (p4 : Int32) (b4 : Addr) (b7 : Addr) : Array Slot := #[.val (.int p0), .val (.int p1), .val (.int p2), .val (.int p3), .val (.int p4), .val (.int (1 : Int32)), .val (.int (1 : Int32)), .val (.int (vk1m10_28 p0)), .val (.int (vk1m10_37 p0)), .val (.int (vk1m10_46 p0)), .val (.int (vk1m10_55 p0)), .val (.int (vk1m10_61 p1)), .val (.int (vk1m10_67 p3)), .val (.ref b4), .val (.long (vk1m10_222 p0)), .second, .val (.ref b7), .unset, .unset]
abbrev Lak1m10_12 (p0 : Int32) (p1 : Int32) (p2 : Int32) (p3 : Int32) (p4 : Int32) (b4 : Addr) (b7 : Addr) : Array Slot := #[.val (.int p0), .val (.int p1), .val (.int p2), .val (.int p3), .val (.int p4), .val (.int (1 : Int32)), .val (.int (1 : Int32)), .val (.int (vk1m10_28 p0)), .val (.int (vk1m10_37 p0)), .val (.int (vk1m10_46 p0)), .val (.int (vk1m10_55 p0)), .val (.int (vk1m10_61 p1)), .val (.int (vk1m10_67 p3)), .val (.ref b4), .val (.long (vk1m10_222 p0)), .second, .val (.ref b7), .val (.int (vk1m10_312 p0 p3)), .unset]
abbrev Lak1m10_13 (p0 : Int32) (p1 : Int32) (p2 : Int32) (p3 : Int32) (p4 : Int32) (b4 : Addr) (b7 : Addr) : Array Slot := #[.val (.int p0), .val (.int p1), .val (.int p2), .val (.int p3), .val (.int p4), .val (.int (1 : Int32)), .val (.int (1 : Int32)), .val (.int (vk1m10_28 p0)), .val (.int (vk1m10_37 p0)), .val (.int (vk1m10_46 p0)), .val (.int (vk1m10_55 p0)), .val (.int (vk1m10_61 p1)), .val (.int (vk1m10_67 p3)), .val (.ref b4), .val (.long (vk1m10_222 p0)), .second, .val (.ref b7), .val (.int (vk1m10_312 p0 p3)), .val (.int (vk1m10_351 p0 p3))]
set_option maxRecDepth 65536 in
set_option maxHeartbeats 40000000 in
theorem j0k1m1 {p : Program} {l : Launch} {e : Env} {s : State} {m : MethodId} {args : Array Value} {below : List Frame} {meth : Method} {c : Code} {T0 : State} {locs : List Loc} {Z : State} {a0 : Array Value} {h0 : Heap} {n0 : Nat}
    (X0 : Stand p l e room_1 s m args below meth c T0 locs 0 0) (hx : p.tables.exec = Jvm.exec) (hZ : Z.Warmed39 s.vm) (hw : ∀ d ∈ tables_1, d.before a0 Z = true) (hby : c.code = code) (hml : c.maxLocals = 19) (hown : s.vm.findClass "com/example/faden/faden/rank/RecordReaderNumberPinLaw" = some m.cls) (hnm : meth.name = "law") (e0 : T0.heap = h0) (N0 : Fr n0 locs) (Z0 : n0 ≤ h0.size) (p0 : Int32) (p1 : Int32) (p2 : Int32) (p3 : Int32) (p4 : Int32) (hk : vk1m10_8 p2 = (1 : Int32)) (hm : vk1m10_22 p4 = (1 : Int32)) :
    OwnFin X0 (some .boolean) (LQ n0) room_1.cells room_1.slots (mkF m 0 #[.val (.int p0), .val (.int p1), .val (.int p2), .val (.int p3), .val (.int p4), .unset, .unset, .unset, .unset, .unset, .unset, .unset, .unset, .unset, .unset, .unset, .unset, .unset, .unset] []) := by
  refine OwnFin.step (g' := (mkF m 1 (Lak1m10_0 p0 p1 p2 p3 p4) [(.int p2)])) X0 (fun t k => XS.iloadN X0.here hx rfl (hb hby at_0) rfl k) ?_
  refine OwnFin.step (g' := (mkF m 3 (Lak1m10_0 p0 p1 p2 p3 p4) [(.int (2147483647 : Int32)), (.int p2)])) X0 (fun t k => X0.ldcInt hx hown (mvT hZ (hw _ (wm 0 rfl))) (g := (mkF m 1 (Lak1m10_0 p0 p1 p2 p3 p4) [(.int p2)])) rfl (hb hby at_1) _ k) ?_
  refine OwnFin.step (g' := (mkF m 4 (Lak1m10_0 p0 p1 p2 p3 p4) [(.int (p2 &&& (2147483647 : Int32)))])) X0 (fun t k => XS.iand X0.here hx rfl (hb hby at_3) rfl k) ?_
  refine OwnFin.step (g' := (mkF m 5 (Lak1m10_0 p0 p1 p2 p3 p4) [(.int (5 : Int32)), (.int (p2 &&& (2147483647 : Int32)))])) X0 (fun t k => XS.iconst X0.here hx rfl (hb hby at_4) k) ?_
  refine OwnFin.step (g' := (mkF m 6 (Lak1m10_0 p0 p1 p2 p3 p4) [(.int ((p2 &&& (2147483647 : Int32)) % (5 : Int32)))])) X0 (fun t k => iremM (g := (mkF m 5 (Lak1m10_0 p0 p1 p2 p3 p4) [(.int (5 : Int32)), (.int (p2 &&& (2147483647 : Int32)))])) X0 hx rfl (hb hby at_5) rfl (by decide) k) ?_
  refine OwnFin.step (g' := (mkF m 7 (Lak1m10_0 p0 p1 p2 p3 p4) [(.int (1 : Int32)), (.int ((p2 &&& (2147483647 : Int32)) % (5 : Int32)))])) X0 (fun t k => XS.iconst X0.here hx rfl (hb hby at_6) k) ?_
  refine OwnFin.step (g' := (mkF m 8 (Lak1m10_0 p0 p1 p2 p3 p4) [(.int (((p2 &&& (2147483647 : Int32)) % (5 : Int32)) + (1 : Int32)))])) X0 (fun t k => XS.iadd X0.here hx rfl (hb hby at_7) rfl k) ?_
  refine OwnFin.step (g' := (mkF m 10 #[.val (.int p0), .val (.int p1), .val (.int p2), .val (.int p3), .val (.int p4), .val (.int (vk1m10_8 p2)), .unset, .unset, .unset, .unset, .unset, .unset, .unset, .unset, .unset, .unset, .unset, .unset, .unset] [])) X0 (fun t k => XS.istore X0.here hx rfl (hb hby at_8) rfl (l' := #[.val (.int p0), .val (.int p1), .val (.int p2), .val (.int p3), .val (.int p4), .val (.int (vk1m10_8 p2)), .unset, .unset, .unset, .unset, .unset, .unset, .unset, .unset, .unset, .unset, .unset, .unset, .unset]) rfl k) ?_
  rw [hk]
  refine OwnFin.step (g' := (mkF m 12 (Lak1m10_1 p0 p1 p2 p3 p4) [(.int p4)])) X0 (fun t k => XS.iload X0.here hx rfl (hb hby at_10) rfl k) ?_
  refine OwnFin.step (g' := (mkF m 13 (Lak1m10_1 p0 p1 p2 p3 p4) [(.int (1 : Int32)), (.int p4)])) X0 (fun t k => XS.iconst X0.here hx rfl (hb hby at_12) k) ?_
  refine OwnFin.step (g' := (mkF m 14 (Lak1m10_1 p0 p1 p2 p3 p4) [(.int (p4 &&& (1 : Int32)))])) X0 (fun t k => XS.iand X0.here hx rfl (hb hby at_13) rfl k) ?_
  refine OwnFin.step (g' := (mkF m 22 #[.val (.int p0), .val (.int p1), .val (.int p2), .val (.int p3), .val (.int p4), .val (.int (1 : Int32)), .unset, .unset, .unset, .unset, .unset, .unset, .unset, .unset, .unset, .unset, .unset, .unset, .unset] [(.int (vk1m10_22 p4))])) X0 (fun t k => ?_) ?_
  · show Steps p.tables e below (T0.setTop (mkF m 14 (Lak1m10_1 p0 p1 p2 p3 p4) [(.int (p4 &&& (1 : Int32)))])) t
    by_cases hc1 : (p4 &&& (1 : Int32)) = (0 : Int32)
    · skip
      refine XS.ifYes X0.here hx rfl (pc0 := 14) (pc' := 21) rfl (hb hby at_14) rfl ((if0 _ _).trans (teq hc1).1) (by decide) (by decide) ?_
      show Steps p.tables e below (T0.setTop (mkF m 21 (Lak1m10_1 p0 p1 p2 p3 p4) [])) t
      refine XS.iconst X0.here hx rfl (hb hby at_21) ?_
      show Steps p.tables e below (T0.setTop (mkF m 22 (Lak1m10_1 p0 p1 p2 p3 p4) [(.int (0 : Int32))])) t
      have qq2 : (vk1m10_22 p4) = (0 : Int32) := by
        show (if (p4 &&& (1 : Int32)) = (0 : Int32) then (0 : Int32) else (1 : Int32)) = (0 : Int32)
        simp only [if_pos hc1]
      rw [qq2] at k
      exact k
    · skip
      refine XS.ifNo X0.here hx rfl (hb hby at_14) rfl ((if0 _ _).trans (feq hc1).1) ?_
      show Steps p.tables e below (T0.setTop (mkF m 17 (Lak1m10_1 p0 p1 p2 p3 p4) [])) t
      refine XS.iconst X0.here hx rfl (hb hby at_17) ?_
      show Steps p.tables e below (T0.setTop (mkF m 18 (Lak1m10_1 p0 p1 p2 p3 p4) [(.int (1 : Int32))])) t
      refine XS.goto X0.here hx rfl (pc0 := 18) (pc' := 22) rfl (hb hby at_18) (by decide) (by decide) ?_
      show Steps p.tables e below (T0.setTop (mkF m 22 (Lak1m10_1 p0 p1 p2 p3 p4) [(.int (1 : Int32))])) t
      have qq3 : (vk1m10_22 p4) = (1 : Int32) := by
        show (if (p4 &&& (1 : Int32)) = (0 : Int32) then (0 : Int32) else (1 : Int32)) = (1 : Int32)
        simp only [if_neg hc1]
      rw [qq3] at k
      exact k
  refine OwnFin.step (g' := (mkF m 24 #[.val (.int p0), .val (.int p1), .val (.int p2), .val (.int p3), .val (.int p4), .val (.int (1 : Int32)), .val (.int (vk1m10_22 p4)), .unset, .unset, .unset, .unset, .unset, .unset, .unset, .unset, .unset, .unset, .unset, .unset] [])) X0 (fun t k => XS.istore X0.here hx rfl (hb hby at_22) rfl (l' := #[.val (.int p0), .val (.int p1), .val (.int p2), .val (.int p3), .val (.int p4), .val (.int (1 : Int32)), .val (.int (vk1m10_22 p4)), .unset, .unset, .unset, .unset, .unset, .unset, .unset, .unset, .unset, .unset, .unset, .unset]) rfl k) ?_
  rw [hm]
  refine OwnFin.step (g' := (mkF m 25 (Lak1m10_2 p0 p1 p2 p3 p4) [(.int p0)])) X0 (fun t k => XS.iloadN X0.here hx rfl (hb hby at_24) rfl k) ?_
  refine OwnFin.step (g' := (mkF m 27 (Lak1m10_2 p0 p1 p2 p3 p4) [(.int (127 : Int32)), (.int p0)])) X0 (fun t k => XS.bipush X0.here hx rfl (hb hby at_25) k) ?_
  refine OwnFin.step (g' := (mkF m 28 (Lak1m10_2 p0 p1 p2 p3 p4) [(.int (p0 &&& (127 : Int32)))])) X0 (fun t k => XS.iand X0.here hx rfl (hb hby at_27) rfl k) ?_
  refine OwnFin.step (g' := (mkF m 30 (Lak1m10_3 p0 p1 p2 p3 p4) [])) X0 (fun t k => XS.istore X0.here hx rfl (hb hby at_28) rfl (l' := (Lak1m10_3 p0 p1 p2 p3 p4)) rfl k) ?_
  refine OwnFin.step (g' := (mkF m 31 (Lak1m10_3 p0 p1 p2 p3 p4) [(.int p0)])) X0 (fun t k => XS.iloadN X0.here hx rfl (hb hby at_30) rfl k) ?_
  refine OwnFin.step (g' := (mkF m 33 (Lak1m10_3 p0 p1 p2 p3 p4) [(.int (8 : Int32)), (.int p0)])) X0 (fun t k => XS.bipush X0.here hx rfl (hb hby at_31) k) ?_
  refine OwnFin.step (g' := (mkF m 34 (Lak1m10_3 p0 p1 p2 p3 p4) [(.int (XT.ushr p0 (8 : Int32)))])) X0 (fun t k => XT.iushr X0.here hx rfl (hb hby at_33) rfl k) ?_
  refine OwnFin.step (g' := (mkF m 36 (Lak1m10_3 p0 p1 p2 p3 p4) [(.int (127 : Int32)), (.int (XT.ushr p0 (8 : Int32)))])) X0 (fun t k => XS.bipush X0.here hx rfl (hb hby at_34) k) ?_
  refine OwnFin.step (g' := (mkF m 37 (Lak1m10_3 p0 p1 p2 p3 p4) [(.int ((XT.ushr p0 (8 : Int32)) &&& (127 : Int32)))])) X0 (fun t k => XS.iand X0.here hx rfl (hb hby at_36) rfl k) ?_
  refine OwnFin.step (g' := (mkF m 39 (Lak1m10_4 p0 p1 p2 p3 p4) [])) X0 (fun t k => XS.istore X0.here hx rfl (hb hby at_37) rfl (l' := (Lak1m10_4 p0 p1 p2 p3 p4)) rfl k) ?_
  refine OwnFin.step (g' := (mkF m 40 (Lak1m10_4 p0 p1 p2 p3 p4) [(.int p0)])) X0 (fun t k => XS.iloadN X0.here hx rfl (hb hby at_39) rfl k) ?_
  refine OwnFin.step (g' := (mkF m 42 (Lak1m10_4 p0 p1 p2 p3 p4) [(.int (16 : Int32)), (.int p0)])) X0 (fun t k => XS.bipush X0.here hx rfl (hb hby at_40) k) ?_
  refine OwnFin.step (g' := (mkF m 43 (Lak1m10_4 p0 p1 p2 p3 p4) [(.int (XT.ushr p0 (16 : Int32)))])) X0 (fun t k => XT.iushr X0.here hx rfl (hb hby at_42) rfl k) ?_
  refine OwnFin.step (g' := (mkF m 45 (Lak1m10_4 p0 p1 p2 p3 p4) [(.int (127 : Int32)), (.int (XT.ushr p0 (16 : Int32)))])) X0 (fun t k => XS.bipush X0.here hx rfl (hb hby at_43) k) ?_
  refine OwnFin.step (g' := (mkF m 46 (Lak1m10_4 p0 p1 p2 p3 p4) [(.int ((XT.ushr p0 (16 : Int32)) &&& (127 : Int32)))])) X0 (fun t k => XS.iand X0.here hx rfl (hb hby at_45) rfl k) ?_
  refine OwnFin.step (g' := (mkF m 48 (Lak1m10_5 p0 p1 p2 p3 p4) [])) X0 (fun t k => XS.istore X0.here hx rfl (hb hby at_46) rfl (l' := (Lak1m10_5 p0 p1 p2 p3 p4)) rfl k) ?_
  refine OwnFin.step (g' := (mkF m 49 (Lak1m10_5 p0 p1 p2 p3 p4) [(.int p0)])) X0 (fun t k => XS.iloadN X0.here hx rfl (hb hby at_48) rfl k) ?_
  refine OwnFin.step (g' := (mkF m 51 (Lak1m10_5 p0 p1 p2 p3 p4) [(.int (24 : Int32)), (.int p0)])) X0 (fun t k => XS.bipush X0.here hx rfl (hb hby at_49) k) ?_
  refine OwnFin.step (g' := (mkF m 52 (Lak1m10_5 p0 p1 p2 p3 p4) [(.int (XT.ushr p0 (24 : Int32)))])) X0 (fun t k => XT.iushr X0.here hx rfl (hb hby at_51) rfl k) ?_
  refine OwnFin.step (g' := (mkF m 54 (Lak1m10_5 p0 p1 p2 p3 p4) [(.int (127 : Int32)), (.int (XT.ushr p0 (24 : Int32)))])) X0 (fun t k => XS.bipush X0.here hx rfl (hb hby at_52) k) ?_
  refine OwnFin.step (g' := (mkF m 55 (Lak1m10_5 p0 p1 p2 p3 p4) [(.int ((XT.ushr p0 (24 : Int32)) &&& (127 : Int32)))])) X0 (fun t k => XS.iand X0.here hx rfl (hb hby at_54) rfl k) ?_
  refine OwnFin.step (g' := (mkF m 57 (Lak1m10_6 p0 p1 p2 p3 p4) [])) X0 (fun t k => XS.istore X0.here hx rfl (hb hby at_55) rfl (l' := (Lak1m10_6 p0 p1 p2 p3 p4)) rfl k) ?_
  refine OwnFin.step (g' := (mkF m 58 (Lak1m10_6 p0 p1 p2 p3 p4) [(.int p1)])) X0 (fun t k => XS.iloadN X0.here hx rfl (hb hby at_57) rfl k) ?_
  refine OwnFin.step (g' := (mkF m 60 (Lak1m10_6 p0 p1 p2 p3 p4) [(.int (7 : Int32)), (.int p1)])) X0 (fun t k => XS.bipush X0.here hx rfl (hb hby at_58) k) ?_
  refine OwnFin.step (g' := (mkF m 61 (Lak1m10_6 p0 p1 p2 p3 p4) [(.int (p1 &&& (7 : Int32)))])) X0 (fun t k => XS.iand X0.here hx rfl (hb hby at_60) rfl k) ?_
  refine OwnFin.step (g' := (mkF m 63 (Lak1m10_7 p0 p1 p2 p3 p4) [])) X0 (fun t k => XS.istore X0.here hx rfl (hb hby at_61) rfl (l' := (Lak1m10_7 p0 p1 p2 p3 p4)) rfl k) ?_
  refine OwnFin.step (g' := (mkF m 64 (Lak1m10_7 p0 p1 p2 p3 p4) [(.int p3)])) X0 (fun t k => XS.iloadN X0.here hx rfl (hb hby at_63) rfl k) ?_
  refine OwnFin.step (g' := (mkF m 66 (Lak1m10_7 p0 p1 p2 p3 p4) [(.int (127 : Int32)), (.int p3)])) X0 (fun t k => XS.bipush X0.here hx rfl (hb hby at_64) k) ?_
  refine OwnFin.step (g' := (mkF m 67 (Lak1m10_7 p0 p1 p2 p3 p4) [(.int (p3 &&& (127 : Int32)))])) X0 (fun t k => XS.iand X0.here hx rfl (hb hby at_66) rfl k) ?_
  refine OwnFin.step (g' := (mkF m 69 (Lak1m10_8 p0 p1 p2 p3 p4) [])) X0 (fun t k => XS.istore X0.here hx rfl (hb hby at_67) rfl (l' := (Lak1m10_8 p0 p1 p2 p3 p4)) rfl k) ?_
  refine OwnFin.step (g' := (mkF m 71 (Lak1m10_8 p0 p1 p2 p3 p4) [(.int (1 : Int32))])) X0 (fun t k => XS.iload X0.here hx rfl (hb hby at_69) rfl k) ?_
  refine OwnFin.step (g' := (mkF m 74 (Lak1m10_8 p0 p1 p2 p3 p4) [])) X0 (fun t k => XS.ifNo X0.here hx rfl (hb hby at_71) rfl ((if0 _ _).trans (feq (show ¬ ((1 : Int32) = (0 : Int32)) by first | decide | exact Int32.lt_irrefl _ | exact Int64.lt_irrefl _)).1) k) ?_
  refine OwnFin.step (g' := (mkF m 76 (Lak1m10_8 p0 p1 p2 p3 p4) [(.int (1 : Int32))])) X0 (fun t k => XS.iload X0.here hx rfl (hb hby at_74) rfl k) ?_
  refine OwnFin.step (g' := (mkF m 77 (Lak1m10_8 p0 p1 p2 p3 p4) [(.int (1 : Int32)), (.int (1 : Int32))])) X0 (fun t k => XS.iconst X0.here hx rfl (hb hby at_76) k) ?_
  refine OwnFin.step (g' := (mkF m 78 (Lak1m10_8 p0 p1 p2 p3 p4) [(.int (2 : Int32))])) X0 (fun t k => XS.iadd X0.here hx rfl (hb hby at_77) rfl k) ?_
  refine OwnFin.step (g' := (mkF m 83 (Lak1m10_8 p0 p1 p2 p3 p4) [(.int (2 : Int32))])) X0 (fun t k => XS.goto X0.here hx rfl (pc0 := 78) (pc' := 83) rfl (hb hby at_78) (by decide) (by decide) k) ?_
  obtain ⟨T4, h4, b4, X4, e4, y4, K4, A4, st4⟩ := own_new X0 hx hZ (hw _ (wm 1 rfl)) e0 (g := (mkF m 83 (Lak1m10_8 p0 p1 p2 p3 p4) [(.int (2 : Int32))])) rfl (hb hby at_83) rfl (by decide) (cap := 2) (by decide) (by decide) (by decide) (by decide)
  have B4 : Ary Z h4 b4 .byte 2 (fun i => .int ((fun _ => (0 : Int32)) i)) := A4
  have g_b4 : n0 ≤ b4 := by rw [y4]; exact Z0
  have Z4 := Nat.le_trans Z0 K4.1
  refine OwnFin.step (g' := (mkF m 85 (Lak1m10_8 p0 p1 p2 p3 p4) [(.ref b4)])) X4 (fun t k => st4 _ k) ?_
  refine OwnFin.step (g' := (mkF m 87 (Lak1m10_9 p0 p1 p2 p3 p4 b4) [])) X4 (fun t k => XS.astore X4.here hx rfl (hb hby at_85) rfl rfl (l' := (Lak1m10_9 p0 p1 p2 p3 p4 b4)) rfl k) ?_
  refine OwnFin.step (g' := (mkF m 89 (Lak1m10_9 p0 p1 p2 p3 p4 b4) [(.ref b4)])) X4 (fun t k => XS.aload X4.here hx rfl (hb hby at_87) rfl rfl k) ?_
  refine OwnFin.step (g' := (mkF m 90 (Lak1m10_9 p0 p1 p2 p3 p4 b4) [(.int (0 : Int32)), (.ref b4)])) X4 (fun t k => XS.iconst X4.here hx rfl (hb hby at_89) k) ?_
  refine OwnFin.step (g' := (mkF m 92 (Lak1m10_9 p0 p1 p2 p3 p4 b4) [(.int (1 : Int32)), (.int (0 : Int32)), (.ref b4)])) X4 (fun t k => XS.iload X4.here hx rfl (hb hby at_90) rfl k) ?_
  refine OwnFin.step (g' := (mkF m 93 (Lak1m10_9 p0 p1 p2 p3 p4 b4) [(.int (1 : Int32)), (.int (1 : Int32)), (.int (0 : Int32)), (.ref b4)])) X4 (fun t k => XS.iconst X4.here hx rfl (hb hby at_92) k) ?_
  refine OwnFin.step (g' := (mkF m 105 (Lak1m10_9 p0 p1 p2 p3 p4 b4) [(.int (0 : Int32)), (.ref b4)])) X4 (fun t k => XS.icmpYes X4.here hx rfl (pc0 := 93) (pc' := 105) rfl (hb hby at_93) rfl (flt (show ¬ ((1 : Int32) < (1 : Int32)) by first | decide | exact Int32.lt_irrefl _ | exact Int64.lt_irrefl _)).2.2.2 (by decide) (by decide) k) ?_
  refine OwnFin.step (g' := (mkF m 107 (Lak1m10_9 p0 p1 p2 p3 p4 b4) [(.int (vk1m10_28 p0)), (.int (0 : Int32)), (.ref b4)])) X4 (fun t k => XS.iload X4.here hx rfl (hb hby at_105) rfl k) ?_
  refine OwnFin.step (g' := (mkF m 108 (Lak1m10_9 p0 p1 p2 p3 p4 b4) [(.int ((vk1m10_28 p0).toInt8.toInt32)), (.int (0 : Int32)), (.ref b4)])) X4 (fun t k => XT.i2b X4.here hx rfl (hb hby at_107) rfl k) ?_
  obtain ⟨T5, h5, L5, X5, e5, N5, K5, A5, st5⟩ := own_stB X4 hx hZ e4 N0 (G := (fun _ => (0 : Int32))) B4 g_b4 (j := (0 : Int32)) (x := ((vk1m10_28 p0).toInt8.toInt32)) (by decide) (g := (mkF m 108 (Lak1m10_9 p0 p1 p2 p3 p4 b4) [(.int ((vk1m10_28 p0).toInt8.toInt32)), (.int (0 : Int32)), (.ref b4)])) rfl rfl (hb hby at_108)
  have B5 : Ary Z h5 b4 .byte 2 (fun i => .int ((Gk1m10_108 p0) i)) := A5
  have Z5 := Nat.le_trans Z4 K5.1
  refine OwnFin.step (g' := (mkF m 109 (Lak1m10_9 p0 p1 p2 p3 p4 b4) [])) X5 (fun t k => st5 _ k) ?_
  refine OwnFin.step (g' := (mkF m 111 (Lak1m10_9 p0 p1 p2 p3 p4 b4) [(.int (1 : Int32))])) X5 (fun t k => XS.iload X5.here hx rfl (hb hby at_109) rfl k) ?_
  refine OwnFin.step (g' := (mkF m 112 (Lak1m10_9 p0 p1 p2 p3 p4 b4) [(.int (1 : Int32)), (.int (1 : Int32))])) X5 (fun t k => XS.iconst X5.here hx rfl (hb hby at_111) k) ?_
  refine OwnFin.step (g' := (mkF m 137 (Lak1m10_9 p0 p1 p2 p3 p4 b4) [])) X5 (fun t k => XS.icmpYes X5.here hx rfl (pc0 := 112) (pc' := 137) rfl (hb hby at_112) rfl (flt (show ¬ ((1 : Int32) < (1 : Int32)) by first | decide | exact Int32.lt_irrefl _ | exact Int64.lt_irrefl _)).2.2.2 (by decide) (by decide) k) ?_
  refine OwnFin.step (g' := (mkF m 139 (Lak1m10_9 p0 p1 p2 p3 p4 b4) [(.int (1 : Int32))])) X5 (fun t k => XS.iload X5.here hx rfl (hb hby at_137) rfl k) ?_
  refine OwnFin.step (g' := (mkF m 140 (Lak1m10_9 p0 p1 p2 p3 p4 b4) [(.int (2 : Int32)), (.int (1 : Int32))])) X5 (fun t k => XS.iconst X5.here hx rfl (hb hby at_139) k) ?_
  refine OwnFin.step (g' := (mkF m 165 (Lak1m10_9 p0 p1 p2 p3 p4 b4) [])) X5 (fun t k => XS.icmpYes X5.here hx rfl (pc0 := 140) (pc' := 165) rfl (hb hby at_140) rfl (flt (show ¬ ((2 : Int32) < (1 : Int32)) by first | decide | exact Int32.lt_irrefl _ | exact Int64.lt_irrefl _)).2.2.2 (by decide) (by decide) k) ?_
  refine OwnFin.step (g' := (mkF m 167 (Lak1m10_9 p0 p1 p2 p3 p4 b4) [(.int (1 : Int32))])) X5 (fun t k => XS.iload X5.here hx rfl (hb hby at_165) rfl k) ?_
  refine OwnFin.step (g' := (mkF m 168 (Lak1m10_9 p0 p1 p2 p3 p4 b4) [(.int (3 : Int32)), (.int (1 : Int32))])) X5 (fun t k => XS.iconst X5.here hx rfl (hb hby at_167) k) ?_
  refine OwnFin.step (g' := (mkF m 193 (Lak1m10_9 p0 p1 p2 p3 p4 b4) [])) X5 (fun t k => XS.icmpYes X5.here hx rfl (pc0 := 168) (pc' := 193) rfl (hb hby at_168) rfl (flt (show ¬ ((3 : Int32) < (1 : Int32)) by first | decide | exact Int32.lt_irrefl _ | exact Int64.lt_irrefl _)).2.2.2 (by decide) (by decide) k) ?_
  refine OwnFin.step (g' := (mkF m 195 (Lak1m10_9 p0 p1 p2 p3 p4 b4) [(.int (1 : Int32))])) X5 (fun t k => XS.iload X5.here hx rfl (hb hby at_193) rfl k) ?_
  refine OwnFin.step (g' := (mkF m 196 (Lak1m10_9 p0 p1 p2 p3 p4 b4) [(.int (4 : Int32)), (.int (1 : Int32))])) X5 (fun t k => XS.iconst X5.here hx rfl (hb hby at_195) k) ?_
  refine OwnFin.step (g' := (mkF m 206 (Lak1m10_9 p0 p1 p2 p3 p4 b4) [])) X5 (fun t k => XS.icmpYes X5.here hx rfl (pc0 := 196) (pc' := 206) rfl (hb hby at_196) rfl (flt (show ¬ ((4 : Int32) < (1 : Int32)) by first | decide | exact Int32.lt_irrefl _ | exact Int64.lt_irrefl _)).2.2.2 (by decide) (by decide) k) ?_
  refine OwnFin.step (g' := (mkF m 208 (Lak1m10_9 p0 p1 p2 p3 p4 b4) [(.int (1 : Int32))])) X5 (fun t k => XS.iload X5.here hx rfl (hb hby at_206) rfl k) ?_
  refine OwnFin.step (g' := (mkF m 211 (Lak1m10_9 p0 p1 p2 p3 p4 b4) [])) X5 (fun t k => XS.ifNo X5.here hx rfl (hb hby at_208) rfl ((if0 _ _).trans (feq (show ¬ ((1 : Int32) = (0 : Int32)) by first | decide | exact Int32.lt_irrefl _ | exact Int64.lt_irrefl _)).1) k) ?_
  refine OwnFin.step (g' := (mkF m 213 (Lak1m10_9 p0 p1 p2 p3 p4 b4) [(.ref b4)])) X5 (fun t k => XS.aload X5.here hx rfl (hb hby at_211) rfl rfl k) ?_
  refine OwnFin.step (g' := (mkF m 215 (Lak1m10_9 p0 p1 p2 p3 p4 b4) [(.int (1 : Int32)), (.ref b4)])) X5 (fun t k => XS.iload X5.here hx rfl (hb hby at_213) rfl k) ?_
  refine OwnFin.step (g' := (mkF m 217 (Lak1m10_9 p0 p1 p2 p3 p4 b4) [(.int (vk1m10_67 p3)), (.int (1 : Int32)), (.ref b4)])) X5 (fun t k => XS.iload X5.here hx rfl (hb hby at_215) rfl k) ?_
  refine OwnFin.step (g' := (mkF m 218 (Lak1m10_9 p0 p1 p2 p3 p4 b4) [(.int ((vk1m10_67 p3).toInt8.toInt32)), (.int (1 : Int32)), (.ref b4)])) X5 (fun t k => XT.i2b X5.here hx rfl (hb hby at_217) rfl k) ?_
  obtain ⟨T6, h6, L6, X6, e6, N6, K6, A6, st6⟩ := own_stB X5 hx hZ e5 N5 (G := (Gk1m10_108 p0)) B5 g_b4 (j := (1 : Int32)) (x := ((vk1m10_67 p3).toInt8.toInt32)) (by decide) (g := (mkF m 218 (Lak1m10_9 p0 p1 p2 p3 p4 b4) [(.int ((vk1m10_67 p3).toInt8.toInt32)), (.int (1 : Int32)), (.ref b4)])) rfl rfl (hb hby at_218)
  have B6 : Ary Z h6 b4 .byte 2 (fun i => .int ((Gk1m10_218 p0 p3) i)) := A6
  have Z6 := Nat.le_trans Z5 K6.1
  refine OwnFin.step (g' := (mkF m 219 (Lak1m10_9 p0 p1 p2 p3 p4 b4) [])) X6 (fun t k => st6 _ k) ?_
  refine OwnFin.step (g' := (mkF m 221 (Lak1m10_9 p0 p1 p2 p3 p4 b4) [(.int (vk1m10_28 p0))])) X6 (fun t k => XS.iload X6.here hx rfl (hb hby at_219) rfl k) ?_
  refine OwnFin.step (g' := (mkF m 222 (Lak1m10_9 p0 p1 p2 p3 p4 b4) [(.long ((vk1m10_28 p0).toInt64))])) X6 (fun t k => XT.i2l X6.here hx rfl (hb hby at_221) rfl k) ?_
  refine OwnFin.step (g' := (mkF m 224 (Lak1m10_10 p0 p1 p2 p3 p4 b4) [])) X6 (fun t k => XT.lstore X6.here hx rfl (hb hby at_222) rfl (l' := (Lak1m10_10 p0 p1 p2 p3 p4 b4)) rfl k) ?_
  refine OwnFin.step (g' := (mkF m 226 (Lak1m10_10 p0 p1 p2 p3 p4 b4) [(.int (1 : Int32))])) X6 (fun t k => XS.iload X6.here hx rfl (hb hby at_224) rfl k) ?_
  refine OwnFin.step (g' := (mkF m 227 (Lak1m10_10 p0 p1 p2 p3 p4 b4) [(.int (1 : Int32)), (.int (1 : Int32))])) X6 (fun t k => XS.iconst X6.here hx rfl (hb hby at_226) k) ?_
  refine OwnFin.step (g' := (mkF m 242 (Lak1m10_10 p0 p1 p2 p3 p4 b4) [])) X6 (fun t k => XS.icmpYes X6.here hx rfl (pc0 := 227) (pc' := 242) rfl (hb hby at_227) rfl (flt (show ¬ ((1 : Int32) < (1 : Int32)) by first | decide | exact Int32.lt_irrefl _ | exact Int64.lt_irrefl _)).2.2.2 (by decide) (by decide) k) ?_
  refine OwnFin.step (g' := (mkF m 244 (Lak1m10_10 p0 p1 p2 p3 p4 b4) [(.int (1 : Int32))])) X6 (fun t k => XS.iload X6.here hx rfl (hb hby at_242) rfl k) ?_
  refine OwnFin.step (g' := (mkF m 245 (Lak1m10_10 p0 p1 p2 p3 p4 b4) [(.int (2 : Int32)), (.int (1 : Int32))])) X6 (fun t k => XS.iconst X6.here hx rfl (hb hby at_244) k) ?_
  refine OwnFin.step (g' := (mkF m 260 (Lak1m10_10 p0 p1 p2 p3 p4 b4) [])) X6 (fun t k => XS.icmpYes X6.here hx rfl (pc0 := 245) (pc' := 260) rfl (hb hby at_245) rfl (flt (show ¬ ((2 : Int32) < (1 : Int32)) by first | decide | exact Int32.lt_irrefl _ | exact Int64.lt_irrefl _)).2.2.2 (by decide) (by decide) k) ?_
  refine OwnFin.step (g' := (mkF m 262 (Lak1m10_10 p0 p1 p2 p3 p4 b4) [(.int (1 : Int32))])) X6 (fun t k => XS.iload X6.here hx rfl (hb hby at_260) rfl k) ?_
  refine OwnFin.step (g' := (mkF m 263 (Lak1m10_10 p0 p1 p2 p3 p4 b4) [(.int (3 : Int32)), (.int (1 : Int32))])) X6 (fun t k => XS.iconst X6.here hx rfl (hb hby at_262) k) ?_
  refine OwnFin.step (g' := (mkF m 278 (Lak1m10_10 p0 p1 p2 p3 p4 b4) [])) X6 (fun t k => XS.icmpYes X6.here hx rfl (pc0 := 263) (pc' := 278) rfl (hb hby at_263) rfl (flt (show ¬ ((3 : Int32) < (1 : Int32)) by first | decide | exact Int32.lt_irrefl _ | exact Int64.lt_irrefl _)).2.2.2 (by decide) (by decide) k) ?_
  refine OwnFin.step (g' := (mkF m 280 (Lak1m10_10 p0 p1 p2 p3 p4 b4) [(.int (1 : Int32))])) X6 (fun t k => XS.iload X6.here hx rfl (hb hby at_278) rfl k) ?_
  refine OwnFin.step (g' := (mkF m 281 (Lak1m10_10 p0 p1 p2 p3 p4 b4) [(.int (4 : Int32)), (.int (1 : Int32))])) X6 (fun t k => XS.iconst X6.here hx rfl (hb hby at_280) k) ?_
  refine OwnFin.step (g' := (mkF m 296 (Lak1m10_10 p0 p1 p2 p3 p4 b4) [])) X6 (fun t k => XS.icmpYes X6.here hx rfl (pc0 := 281) (pc' := 296) rfl (hb hby at_281) rfl (flt (show ¬ ((4 : Int32) < (1 : Int32)) by first | decide | exact Int32.lt_irrefl _ | exact Int64.lt_irrefl _)).2.2.2 (by decide) (by decide) k) ?_
  obtain ⟨T7, h7, X7, e7, E7, A7, D7, -, st7⟩ := newO X6 hx hZ hown (hw _ (wm 4 rfl)) (hw _ (wm 5 rfl)) (hw _ (wm 6 rfl)) e6 (g := (mkF m 296 (Lak1m10_10 p0 p1 p2 p3 p4 b4) [])) rfl (hb hby at_296) (by decide) (by decide)
  obtain ⟨b7, y7⟩ : ∃ z, z = h6.size := ⟨_, rfl⟩
  rw [← y7] at A7 D7 st7
  have K7 := keep_ext E7
  have ne_b4_b7 : b4 ≠ b7 := Ary.neS B6 y7
  have g_b7 : n0 ≤ b7 := by rw [y7]; exact Z6
  have Z7 := Nat.le_trans Z6 K7.1
  have F7_record : Fld Z h7 b7 "com/example/faden/faden/rank/RecordReader" "record" "[B" .null := D7 (Or.inr (hw _ (wm 14 rfl))) (ty := (.array .byte)) (by decide)
  have F7_at : Fld Z h7 b7 "com/example/faden/faden/rank/RecordReader" "at" "I" (.int (0 : Int32)) := D7 (Or.inl (hw _ (wm 21 rfl))) (ty := .int) (by decide)
  refine OwnFin.step (g' := (mkF m 299 (Lak1m10_10 p0 p1 p2 p3 p4 b4) [(.ref b7)])) X7 (fun t k => st7 _ k) ?_
  refine OwnFin.step (g' := (mkF m 300 (Lak1m10_10 p0 p1 p2 p3 p4 b4) [(.ref b7), (.ref b7)])) X7 (fun t k => XS.dup X7.here hx rfl (hb hby at_299) rfl rfl k) ?_
  refine OwnFin.step (g' := (mkF m 302 (Lak1m10_10 p0 p1 p2 p3 p4 b4) [(.ref b4), (.ref b7), (.ref b7)])) X7 (fun t k => XS.aload X7.here hx rfl (hb hby at_300) rfl rfl k) ?_
  obtain ⟨_, T8, L8, X8, ⟨rfl, N8q, u9, u10, u11, u12⟩, st8⟩ := own_callI X7 hx hZ (y := (⟨"com/example/faden/faden/rank/RecordReader", "<init>", "([B)V"⟩ : MethodName)) (W := 1) (a := b7) (argsL := [(.ref b4)]) (rest := [(.ref b7)]) rfl hown (hw _ (wm 7 rfl)) (hw _ (wm 8 rfl)) (hw _ (wm 6 rfl)) (hw _ (wm 9 rfl)) (by decide) (rm1 l Z a0 hw [] b7 b4 h7 n0 Z7 A7 g_b7 F7_record F7_at) (by decide) (by decide) (by decide) (by decide) e7 (g := (mkF m 302 (Lak1m10_10 p0 p1 p2 p3 p4 b4) [(.ref b4), (.ref b7), (.ref b7)])) rfl (by rw [hml]; rfl) pd_0 rfl rfl (by show 2 * 0 + _ ≤ _; exact Nat.le_of_eq rfl) (hb hby at_302)
  have N8 := Fr.app N6 N8q
  obtain ⟨h8, e8⟩ : ∃ z, T8.heap = z := ⟨_, rfl⟩
  rw [e8] at u9 u10 u11 u12
  have K8 := u9
  have Z8 := Nat.le_trans Z7 K8.1
  refine OwnFin.step (g' := (mkF m 305 (Lak1m10_10 p0 p1 p2 p3 p4 b4) [(.ref b7)])) X8 (fun t k => st8 _ k) ?_
  refine OwnFin.step (g' := (mkF m 307 (Lak1m10_11 p0 p1 p2 p3 p4 b4 b7) [])) X8 (fun t k => XS.astore X8.here hx rfl (hb hby at_305) rfl rfl (l' := (Lak1m10_11 p0 p1 p2 p3 p4 b4 b7)) rfl k) ?_
  refine OwnFin.step (g' := (mkF m 309 (Lak1m10_11 p0 p1 p2 p3 p4 b4 b7) [(.ref b7)])) X8 (fun t k => XS.aload X8.here hx rfl (hb hby at_307) rfl rfl k) ?_
  have A14 := ((B6.keep K7 nin0).keep K8 (ninS ne_b4_b7 nin0))
  obtain ⟨_, T13, L13, X13, ⟨rfl, N13q, u15, u16, u17, u18⟩, st13⟩ := own_callV X8 hx hZ (y := (⟨"com/example/faden/faden/rank/RecordReader", "number", "()I"⟩ : MethodName)) (W := 0) (a := b7) (argsL := []) (rest := []) hown (hw _ (wm 15 rfl)) (hw _ (wm 16 rfl)) (hw _ (wm 18 rfl)) (hw _ (wm 17 rfl)) (hw _ (wm 6 rfl)) (hw _ (wm 19 rfl)) (by decide) u10 (rm3a0k1 l Z a0 hw [] b7 2 (Gk1m10_218 p0 p3) b4 h8 n0 Z8 u10 g_b7 u11 u12 A14 (Ne.symm ne_b4_b7) (exhlnk1m10_309 p2 p4 hk hm) (exhb0k1m10_309 p0 p3 p2 p4 hk hm)) (by decide) (by decide) (by decide) (by decide) e8 (g := (mkF m 309 (Lak1m10_11 p0 p1 p2 p3 p4 b4 b7) [(.ref b7)])) rfl (by rw [hml]; rfl) pd_1 rfl rfl (by show 2 * 0 + _ ≤ _; exact Nat.le_of_eq rfl) (hb hby at_309)
  have N13 := Fr.app N8 N13q
  obtain ⟨h13, e13⟩ : ∃ z, T13.heap = z := ⟨_, rfl⟩
  rw [e13] at u15 u16 u17 u18
  have K13 := u15
  have Z13 := Nat.le_trans Z8 K13.1
  refine OwnFin.step (g' := (mkF m 312 (Lak1m10_11 p0 p1 p2 p3 p4 b4 b7) [(.int (va0k13_77 (Gk1m10_218 p0 p3)))])) X13 (fun t k => st13 _ k) ?_
  refine OwnFin.step (g' := (mkF m 314 (Lak1m10_12 p0 p1 p2 p3 p4 b4 b7) [])) X13 (fun t k => XS.istore X13.here hx rfl (hb hby at_312) rfl (l' := (Lak1m10_12 p0 p1 p2 p3 p4 b4 b7)) rfl k) ?_
  refine OwnFin.step (g' := (mkF m 316 (Lak1m10_12 p0 p1 p2 p3 p4 b4 b7) [(.int (vk1m10_312 p0 p3))])) X13 (fun t k => XS.iload X13.here hx rfl (hb hby at_314) rfl k) ?_
  refine OwnFin.step (g' := (mkF m 317 (Lak1m10_12 p0 p1 p2 p3 p4 b4 b7) [(.long ((vk1m10_312 p0 p3).toInt64))])) X13 (fun t k => XT.i2l X13.here hx rfl (hb hby at_316) rfl k) ?_
  refine OwnFin.step (g' := (mkF m 319 (Lak1m10_12 p0 p1 p2 p3 p4 b4 b7) [(.long (vk1m10_222 p0)), (.long ((vk1m10_312 p0 p3).toInt64))])) X13 (fun t k => XT.lload X13.here hx rfl (hb hby at_317) rfl k) ?_
  refine OwnFin.step (g' := (mkF m 320 (Lak1m10_12 p0 p1 p2 p3 p4 b4 b7) [(.int (XT.cmpL ((vk1m10_312 p0 p3).toInt64) (vk1m10_222 p0)))])) X13 (fun t k => XT.lcmp X13.here hx rfl (hb hby at_319) rfl k) ?_
  refine OwnFin.step (g' := (mkF m 325 (Lak1m10_12 p0 p1 p2 p3 p4 b4 b7) [])) X13 (fun t k => XS.ifYes X13.here hx rfl (pc0 := 320) (pc' := 325) rfl (hb hby at_320) rfl ((if0 _ _).trans (teq ((cl_eq _ _).mpr (brk1m10_320 p0 p3 p2 p4 hk hm))).1) (by decide) (by decide) k) ?_
  refine OwnFin.step (g' := (mkF m 327 (Lak1m10_12 p0 p1 p2 p3 p4 b4 b7) [(.int (1 : Int32))])) X13 (fun t k => XS.iload X13.here hx rfl (hb hby at_325) rfl k) ?_
  refine OwnFin.step (g' := (mkF m 336 (Lak1m10_12 p0 p1 p2 p3 p4 b4 b7) [])) X13 (fun t k => XS.ifYes X13.here hx rfl (pc0 := 327) (pc' := 336) rfl (hb hby at_327) rfl ((if0 _ _).trans (feq (show ¬ ((1 : Int32) = (0 : Int32)) by first | decide | exact Int32.lt_irrefl _ | exact Int64.lt_irrefl _)).2) (by decide) (by decide) k) ?_
  refine OwnFin.step (g' := (mkF m 338 (Lak1m10_12 p0 p1 p2 p3 p4 b4 b7) [(.ref b7)])) X13 (fun t k => XS.aload X13.here hx rfl (hb hby at_336) rfl rfl k) ?_
  have A20 := (A14.keep K13 (ninS ne_b4_b7 nin0))
  obtain ⟨_, T19, L19, X19, ⟨rfl, N19q, u21⟩, st19⟩ := own_callV X13 hx hZ (y := (⟨"com/example/faden/faden/rank/RecordReader", "atEnd", "()Z"⟩ : MethodName)) (W := 0) (a := b7) (argsL := []) (rest := []) hown (hw _ (wm 22 rfl)) (hw _ (wm 23 rfl)) (hw _ (wm 25 rfl)) (hw _ (wm 24 rfl)) (hw _ (wm 6 rfl)) (hw _ (wm 26 rfl)) (by decide) u16 (rm4 l Z a0 hw [] b7 2 (Gk1m10_218 p0 p3) b4 (1 : Int32) h13 n0 Z13 u16 g_b7 u17 u18 A20 (Ne.symm ne_b4_b7)) (by decide) (by decide) (by decide) (by decide) e13 (g := (mkF m 338 (Lak1m10_12 p0 p1 p2 p3 p4 b4 b7) [(.ref b7)])) rfl (by rw [hml]; rfl) pd_2 rfl rfl (by show 2 * 0 + _ ≤ _; exact Nat.le_of_eq rfl) (hb hby at_338)
  have N19 := Fr.app N13 N19q
  obtain ⟨h19, e19⟩ : ∃ z, T19.heap = z := ⟨_, rfl⟩
  rw [e19] at u21
  have K19 := u21
  have Z19 := Nat.le_trans Z13 K19.1
  rw [show (nar .boolean (v4_17 (1 : Int32) 2)) = (0 : Int32) from by decide] at st19
  refine OwnFin.step (g' := (mkF m 341 (Lak1m10_12 p0 p1 p2 p3 p4 b4 b7) [(.int (0 : Int32))])) X19 (fun t k => st19 _ k) ?_
  refine OwnFin.step (g' := (mkF m 346 (Lak1m10_12 p0 p1 p2 p3 p4 b4 b7) [])) X19 (fun t k => XS.ifYes X19.here hx rfl (pc0 := 341) (pc' := 346) rfl (hb hby at_341) rfl ((if0 _ _).trans (teq (show (0 : Int32) = (0 : Int32) by first | rfl | decide)).1) (by decide) (by decide) k) ?_
  refine OwnFin.step (g' := (mkF m 348 (Lak1m10_12 p0 p1 p2 p3 p4 b4 b7) [(.ref b7)])) X19 (fun t k => XS.aload X19.here hx rfl (hb hby at_346) rfl rfl k) ?_
  have E23 := (Exa.keep u16 K19)
  have F24 := (u17.keep K19 nin0)
  have F25 := (u18.keep K19 nin0)
  have A26 := (A20.keep K19 nin0)
  obtain ⟨_, T22, L22, X22, ⟨rfl, N22q, u27, u28, u29, u30⟩, st22⟩ := own_callV X19 hx hZ (y := (⟨"com/example/faden/faden/rank/RecordReader", "number", "()I"⟩ : MethodName)) (W := 0) (a := b7) (argsL := []) (rest := []) hown (hw _ (wm 15 rfl)) (hw _ (wm 16 rfl)) (hw _ (wm 18 rfl)) (hw _ (wm 17 rfl)) (hw _ (wm 6 rfl)) (hw _ (wm 19 rfl)) (by decide) E23 (rm3a1k1 l Z a0 hw [] b7 2 (Gk1m10_218 p0 p3) b4 h19 n0 Z19 E23 g_b7 F24 F25 A26 (Ne.symm ne_b4_b7) (exhlnk1m10_348 p2 p4 hk hm) (exhb0k1m10_348 p0 p3 p2 p4 hk hm)) (by decide) (by decide) (by decide) (by decide) e19 (g := (mkF m 348 (Lak1m10_12 p0 p1 p2 p3 p4 b4 b7) [(.ref b7)])) rfl (by rw [hml]; rfl) pd_1 rfl rfl (by show 2 * 0 + _ ≤ _; exact Nat.le_of_eq rfl) (hb hby at_348)
  have N22 := Fr.app N19 N22q
  obtain ⟨h22, e22⟩ : ∃ z, T22.heap = z := ⟨_, rfl⟩
  rw [e22] at u27 u28 u29 u30
  have K22 := u27
  have Z22 := Nat.le_trans Z19 K22.1
  refine OwnFin.step (g' := (mkF m 351 (Lak1m10_12 p0 p1 p2 p3 p4 b4 b7) [(.int (va1k13_77 (Gk1m10_218 p0 p3)))])) X22 (fun t k => st22 _ k) ?_
  refine OwnFin.step (g' := (mkF m 353 (Lak1m10_13 p0 p1 p2 p3 p4 b4 b7) [])) X22 (fun t k => XS.istore X22.here hx rfl (hb hby at_351) rfl (l' := (Lak1m10_13 p0 p1 p2 p3 p4 b4 b7)) rfl k) ?_
  refine OwnFin.step (g' := (mkF m 355 (Lak1m10_13 p0 p1 p2 p3 p4 b4 b7) [(.int (vk1m10_351 p0 p3))])) X22 (fun t k => XS.iload X22.here hx rfl (hb hby at_353) rfl k) ?_
  refine OwnFin.step (g' := (mkF m 357 (Lak1m10_13 p0 p1 p2 p3 p4 b4 b7) [(.int (vk1m10_67 p3)), (.int (vk1m10_351 p0 p3))])) X22 (fun t k => XS.iload X22.here hx rfl (hb hby at_355) rfl k) ?_
  refine OwnFin.step (g' := (mkF m 360 (Lak1m10_13 p0 p1 p2 p3 p4 b4 b7) [])) X22 (fun t k => XS.icmpNo X22.here hx rfl (hb hby at_357) rfl (teq (brk1m10_357 p0 p3 p2 p4 hk hm)).2 k) ?_
  refine OwnFin.step (g' := (mkF m 362 (Lak1m10_13 p0 p1 p2 p3 p4 b4 b7) [(.ref b7)])) X22 (fun t k => XS.aload X22.here hx rfl (hb hby at_360) rfl rfl k) ?_
  have A32 := (A26.keep K22 (ninS ne_b4_b7 nin0))
  obtain ⟨_, T31, L31, X31, ⟨rfl, N31q, u33⟩, st31⟩ := own_callV X22 hx hZ (y := (⟨"com/example/faden/faden/rank/RecordReader", "atEnd", "()Z"⟩ : MethodName)) (W := 0) (a := b7) (argsL := []) (rest := []) hown (hw _ (wm 22 rfl)) (hw _ (wm 23 rfl)) (hw _ (wm 25 rfl)) (hw _ (wm 24 rfl)) (hw _ (wm 6 rfl)) (hw _ (wm 26 rfl)) (by decide) u28 (rm4 l Z a0 hw [] b7 2 (Gk1m10_218 p0 p3) b4 (2 : Int32) h22 n0 Z22 u28 g_b7 u29 u30 A32 (Ne.symm ne_b4_b7)) (by decide) (by decide) (by decide) (by decide) e22 (g := (mkF m 362 (Lak1m10_13 p0 p1 p2 p3 p4 b4 b7) [(.ref b7)])) rfl (by rw [hml]; rfl) pd_2 rfl rfl (by show 2 * 0 + _ ≤ _; exact Nat.le_of_eq rfl) (hb hby at_362)
  have N31 := Fr.app N22 N31q
  obtain ⟨h31, e31⟩ : ∃ z, T31.heap = z := ⟨_, rfl⟩
  rw [e31] at u33
  have K31 := u33
  have Z31 := Nat.le_trans Z22 K31.1
  rw [show (nar .boolean (v4_17 (2 : Int32) 2)) = (1 : Int32) from by decide] at st31
  refine OwnFin.step (g' := (mkF m 365 (Lak1m10_13 p0 p1 p2 p3 p4 b4 b7) [(.int (1 : Int32))])) X31 (fun t k => st31 _ k) ?_
  refine OwnFin.step (g' := (mkF m 368 (Lak1m10_13 p0 p1 p2 p3 p4 b4 b7) [])) X31 (fun t k => XS.ifNo X31.here hx rfl (hb hby at_365) rfl ((if0 _ _).trans (feq (show ¬ ((1 : Int32) = (0 : Int32)) by first | decide | exact Int32.lt_irrefl _ | exact Int64.lt_irrefl _)).1) k) ?_
  refine OwnFin.step (g' := (mkF m 369 (Lak1m10_13 p0 p1 p2 p3 p4 b4 b7) [(.int (1 : Int32))])) X31 (fun t k => XS.iconst X31.here hx rfl (hb hby at_368) k) ?_
  refine OwnFin.step (g' := (mkF m 373 (Lak1m10_13 p0 p1 p2 p3 p4 b4 b7) [(.int (1 : Int32))])) X31 (fun t k => XS.goto X31.here hx rfl (pc0 := 369) (pc' := 373) rfl (hb hby at_369) (by decide) (by decide) k) ?_
  refine OwnFin.retNar X31 (by simp) (hb hby at_373) (by decide) (by decide) ?_
  exact ⟨rfl, N31⟩
set_option maxRecDepth 65536 in
set_option maxHeartbeats 40000000 in
theorem rm0k1m1 (l : Launch) (Z : State) (a0 : Array Value) (hw : ∀ d ∈ tables_1, d.before a0 Z = true) (ws : List Jvm.Cond) (p0 : Int32) (p1 : Int32) (p2 : Int32) (p3 : Int32) (p4 : Int32) (h0 : Heap) (n0 : Nat) (Z0 : n0 ≤ h0.size) (hk : vk1m10_8 p2 = (1 : Int32)) (hm : vk1m10_22 p4 = (1 : Int32)) :
    MetFree l x (head1 (Jvm.Cond.code x code maxLocals ret :: ws) room_1) (fun a U => a = #[(.int p0), (.int p1), (.int p2), (.int p3), (.int p4)] ∧ Z.Warmed39 U.vm ∧ U.heap = h0) (fun _ _ _ _ _ => True) (fun _ U o U' => ∃ v L, o = .returned v ∧ (LQ n0) v U'.heap L ∧ FrameEnd U o U' L room_1.cells room_1.slots) :=
  own_met (ret := ret) (Q := (LQ n0)) (plainFor_of_name pn_0) (fun m => ef_0 m p0 p1 p2 p3 p4) (fun p e s m below meth c s₁ X hx hby hml hown hnm hZ e0 => j0k1m1 X hx hZ hw hby hml hown hnm e0 (Fr.nil n0) Z0 p0 p1 p2 p3 p4 hk hm)
def vk2m00_8 (p2 : Int32) : Int32 := (((p2 &&& (2147483647 : Int32)) % (5 : Int32)) + (1 : Int32))
def vk2m00_22 (p4 : Int32) : Int32 := (if (p4 &&& (1 : Int32)) = (0 : Int32) then (0 : Int32) else (1 : Int32))
def vk2m00_28 (p0 : Int32) : Int32 := (p0 &&& (127 : Int32))
def vk2m00_37 (p0 : Int32) : Int32 := ((XT.ushr p0 (8 : Int32)) &&& (127 : Int32))
def vk2m00_46 (p0 : Int32) : Int32 := ((XT.ushr p0 (16 : Int32)) &&& (127 : Int32))
def vk2m00_55 (p0 : Int32) : Int32 := ((XT.ushr p0 (24 : Int32)) &&& (127 : Int32))
def vk2m00_61 (p1 : Int32) : Int32 := (p1 &&& (7 : Int32))
def vk2m00_67 (p3 : Int32) : Int32 := (p3 &&& (127 : Int32))
def Gk2m00_108 (p0 : Int32) : Nat → Int32 := (updN (fun _ => (0 : Int32)) ((0 : Int32)).toNatClampNeg (nar .byte (((vk2m00_28 p0) ||| (128 : Int32)).toInt8.toInt32)))
def Gk2m00_136 (p0 : Int32) : Nat → Int32 := (updN (Gk2m00_108 p0) ((1 : Int32)).toNatClampNeg (nar .byte ((vk2m00_37 p0).toInt8.toInt32)))
def vk2m00_222 (p0 : Int32) : Int64 := ((vk2m00_28 p0).toInt64)
def vk2m00_240 (p0 : Int32) : Int64 := ((vk2m00_222 p0) + (((vk2m00_37 p0).toInt64) * (128 : Int64)))
def vk2m00_312 (p0 : Int32) : Int32 := (va0k23_77b (Gk2m00_136 p0))
theorem exhlnk2m00_309 (p2 : Int32) (p4 : Int32) (hk : vk2m00_8 p2 = (2 : Int32)) (hm : vk2m00_22 p4 = (0 : Int32)) : 2 ≤ 2 ∧ 2 < 100 := by decide
theorem exhb0k2m00_309 (p0 : Int32) (p2 : Int32) (p4 : Int32) (hk : vk2m00_8 p2 = (2 : Int32)) (hm : vk2m00_22 p4 = (0 : Int32)) : 128 ≤ (((Gk2m00_136 p0) 0) &&& 255).toInt := by
  have b0 : 0 ≤ (vk2m00_28 p0).toInt ∧ (vk2m00_28 p0).toInt < 128 := own_b127 _
  have h0 : (((Gk2m00_136 p0) 0) &&& 255).toInt = (vk2m00_28 p0).toInt + 128 := own_hi b0
  have b1 : 0 ≤ (vk2m00_37 p0).toInt ∧ (vk2m00_37 p0).toInt < 128 := own_b127 _
  have h1 : (((Gk2m00_136 p0) 1) &&& 255).toInt = (vk2m00_37 p0).toInt := own_lo ⟨b1.1, Int.lt_of_lt_of_le b1.2 (by decide)⟩
  omega
theorem exhb1k2m00_309 (p0 : Int32) (p2 : Int32) (p4 : Int32) (hk : vk2m00_8 p2 = (2 : Int32)) (hm : vk2m00_22 p4 = (0 : Int32)) : (((Gk2m00_136 p0) 1) &&& 255).toInt < 128 := by
  have b0 : 0 ≤ (vk2m00_28 p0).toInt ∧ (vk2m00_28 p0).toInt < 128 := own_b127 _
  have h0 : (((Gk2m00_136 p0) 0) &&& 255).toInt = (vk2m00_28 p0).toInt + 128 := own_hi b0
  have b1 : 0 ≤ (vk2m00_37 p0).toInt ∧ (vk2m00_37 p0).toInt < 128 := own_b127 _
  have h1 : (((Gk2m00_136 p0) 1) &&& 255).toInt = (vk2m00_37 p0).toInt := own_lo ⟨b1.1, Int.lt_of_lt_of_le b1.2 (by decide)⟩
  omega
theorem brk2m00_320 (p0 : Int32) (p2 : Int32) (p4 : Int32) (hk : vk2m00_8 p2 = (2 : Int32)) (hm : vk2m00_22 p4 = (0 : Int32)) : ((vk2m00_312 p0).toInt64) = (vk2m00_240 p0) := by
  have b0 : 0 ≤ (vk2m00_28 p0).toInt ∧ (vk2m00_28 p0).toInt < 128 := own_b127 _
  have h0 : (((Gk2m00_136 p0) 0) &&& 255).toInt = (vk2m00_28 p0).toInt + 128 := own_hi b0
  have b1 : 0 ≤ (vk2m00_37 p0).toInt ∧ (vk2m00_37 p0).toInt < 128 := own_b127 _
  have h1 : (((Gk2m00_136 p0) 1) &&& 255).toInt = (vk2m00_37 p0).toInt := own_lo ⟨b1.1, Int.lt_of_lt_of_le b1.2 (by decide)⟩
  have e0 : (vk2m00_222 p0).toInt = (vk2m00_28 p0).toInt := Jvm.Kit.i64_of_i32 _
  have m0 : (((Gk2m00_136 p0) 0) &&& 255).toInt % 128 = (vk2m00_28 p0).toInt := own_m7 h0 ⟨b0.1, Int.lt_of_lt_of_le b0.2 (by decide)⟩
  have m1 : (((Gk2m00_136 p0) 1) &&& 255).toInt % 128 = (vk2m00_37 p0).toInt := own_m7' h1 ⟨b1.1, Int.lt_of_lt_of_le b1.2 (by decide)⟩
  have e1 : (vk2m00_240 p0).toInt = (vk2m00_222 p0).toInt + (vk2m00_37 p0).toInt * 128 ∧ 0 ≤ (vk2m00_240 p0).toInt ∧ (vk2m00_240 p0).toInt < 16384 := own_ex1 _ _ (by rw [e0]; exact b0) ⟨b1.1, Int.lt_of_lt_of_le b1.2 (by decide)⟩
  have r : (vk2m00_312 p0).toInt = _ := own_va0k23_77b (Gk2m00_136 p0)
  rw [i64eq, Jvm.Kit.i64_of_i32, r, m0, m1, e1.1, e0, Int.mul_one]
abbrev Lak2m00_0 (p0 : Int32) (p1 : Int32) (p2 : Int32) (p3 : Int32) (p4 : Int32) : Array Slot := #[.val (.int p0), .val (.int p1), .val (.int p2), .val (.int p3), .val (.int p4), .unset, .unset, .unset, .unset, .unset, .unset, .unset, .unset, .unset, .unset, .unset, .unset, .unset, .unset]
abbrev Lak2m00_1 (p0 : Int32) (p1 : Int32) (p2 : Int32) (p3 : Int32) (p4 : Int32) : Array Slot := #[.val (.int p0), .val (.int p1), .val (.int p2), .val (.int p3), .val (.int p4), .val (.int (2 : Int32)), .unset, .unset, .unset, .unset, .unset, .unset, .unset, .unset, .unset, .unset, .unset, .unset, .unset]
abbrev Lak2m00_2 (p0 : Int32) (p1 : Int32) (p2 : Int32) (p3 : Int32) (p4 : Int32) : Array Slot := #[.val (.int p0), .val (.int p1), .val (.int p2), .val (.int p3), .val (.int p4), .val (.int (2 : Int32)), .val (.int (0 : Int32)), .unset, .unset, .unset, .unset, .unset, .unset, .unset, .unset, .unset, .unset, .unset, .unset]
abbrev Lak2m00_3 (p0 : Int32) (p1 : Int32) (p2 : Int32) (p3 : Int32) (p4 : Int32) : Array Slot := #[.val (.int p0), .val (.int p1), .val (.int p2), .val (.int p3), .val (.int p4), .val (.int (2 : Int32)), .val (.int (0 : Int32)), .val (.int (vk2m00_28 p0)), .unset, .unset, .unset, .unset, .unset, .unset, .unset, .unset, .unset, .unset, .unset]
abbrev Lak2m00_4 (p0 : Int32) (p1 : Int32) (p2 : Int32) (p3 : Int32) (p4 : Int32) : Array Slot := #[.val (.int p0), .val (.int p1), .val (.int p2), .val (.int p3), .val (.int p4), .val (.int (2 : Int32)), .val (.int (0 : Int32)), .val (.int (vk2m00_28 p0)), .val (.int (vk2m00_37 p0)), .unset, .unset, .unset, .unset, .unset, .unset, .unset, .unset, .unset, .unset]
abbrev Lak2m00_5 (p0 : Int32) (p1 : Int32) (p2 : Int32) (p3 : Int32) (p4 : Int32) : Array Slot := #[.val (.int p0), .val (.int p1), .val (.int p2), .val (.int p3), .val (.int p4), .val (.int (2 : Int32)), .val (.int (0 : Int32)), .val (.int (vk2m00_28 p0)), .val (.int (vk2m00_37 p0)), .val (.int (vk2m00_46 p0)), .unset, .unset, .unset, .unset, .unset, .unset, .unset, .unset, .unset]
abbrev Lak2m00_6 (p0 : Int32) (p1 : Int32) (p2 : Int32) (p3 : Int32) (p4 : Int32) : Array Slot := #[.val (.int p0), .val (.int p1), .val (.int p2), .val (.int p3), .val (.int p4), .val (.int (2 : Int32)), .val (.int (0 : Int32)), .val (.int (vk2m00_28 p0)), .val (.int (vk2m00_37 p0)), .val (.int (vk2m00_46 p0)), .val (.int (vk2m00_55 p0)), .unset, .unset, .unset, .unset, .unset, .unset, .unset, .unset]
abbrev Lak2m00_7 (p0 : Int32) (p1 : Int32) (p2 : Int32) (p3 : Int32) (p4 : Int32) : Array Slot := #[.val (.int p0), .val (.int p1), .val (.int p2), .val (.int p3), .val (.int p4), .val (.int (2 : Int32)), .val (.int (0 : Int32)), .val (.int (vk2m00_28 p0)), .val (.int (vk2m00_37 p0)), .val (.int (vk2m00_46 p0)), .val (.int (vk2m00_55 p0)), .val (.int (vk2m00_61 p1)), .unset, .unset, .unset, .unset, .unset, .unset, .unset]
abbrev Lak2m00_8 (p0 : Int32) (p1 : Int32) (p2 : Int32) (p3 : Int32) (p4 : Int32) : Array Slot := #[.val (.int p0), .val (.int p1), .val (.int p2), .val (.int p3), .val (.int p4), .val (.int (2 : Int32)), .val (.int (0 : Int32)), .val (.int (vk2m00_28 p0)), .val (.int (vk2m00_37 p0)), .val (.int (vk2m00_46 p0)), .val (.int (vk2m00_55 p0)), .val (.int (vk2m00_61 p1)), .val (.int (vk2m00_67 p3)), .unset, .unset, .unset, .unset, .unset, .unset]
abbrev Lak2m00_9 (p0 : Int32) (p1 : Int32) (p2 : Int32) (p3 : Int32) (p4 : Int32) (b4 : Addr) : Array Slot := #[.val (.int p0), .val (.int p1), .val (.int p2), .val (.int p3), .val (.int p4), .val (.int (2 : Int32)), .val (.int (0 : Int32)), .val (.int (vk2m00_28 p0)), .val (.int (vk2m00_37 p0)), .val (.int (vk2m00_46 p0)), .val (.int (vk2m00_55 p0)), .val (.int (vk2m00_61 p1)), .val (.int (vk2m00_67 p3)), .val (.ref b4), .unset, .unset, .unset, .unset, .unset]
abbrev Lak2m00_10 (p0 : Int32) (p1 : Int32) (p2 : Int32) (p3 : Int32) (p4 : Int32) (b4 : Addr) : Array Slot := #[.val (.int p0), .val (.int p1), .val (.int p2), .val (.int p3), .val (.int p4), .val (.int (2 : Int32)), .val (.int (0 : Int32)), .val (.int (vk2m00_28 p0)), .val (.int (vk2m00_37 p0)), .val (.int (vk2m00_46 p0)), .val (.int (vk2m00_55 p0)), .val (.int (vk2m00_61 p1)), .val (.int (vk2m00_67 p3)), .val (.ref b4), .val (.long (vk2m00_222 p0)), .second, .unset, .unset, .unset]
abbrev Lak2m00_11 (p0 : Int32) (p1 : Int32) (p2 : Int32) (p3 : Int32) (p4 : Int32) (b4 : Addr) : Array Slot := #[.val (.int p0), .val (.int p1), .val (.int p2), .val (.int p3), .val (.int p4), .val (.int (2 : Int32)), .val (.int (0 : Int32)), .val (.int (vk2m00_28 p0)), .val (.int (vk2m00_37 p0)), .val (.int (vk2m00_46 p0)), .val (.int (vk2m00_55 p0)), .val (.int (vk2m00_61 p1)), .val (.int (vk2m00_67 p3)), .val (.ref b4), .val (.long (vk2m00_240 p0)), .second, .unset, .unset, .unset]
abbrev Lak2m00_12 (p0 : Int32) (p1 : Int32) (p2 : Int32) (p3 : Int32) (p4 : Int32) (b4 : Addr) (b7 : Addr) : Array Slot := #[.val (.int p0), .val (.int p1), .val (.int p2), .val (.int p3), .val (.int p4), .val (.int (2 : Int32)), .val (.int (0 : Int32)), .val (.int (vk2m00_28 p0)), .val (.int (vk2m00_37 p0)), .val (.int (vk2m00_46 p0)), .val (.int (vk2m00_55 p0)), .val (.int (vk2m00_61 p1)), .val (.int (vk2m00_67 p3)), .val (.ref b4), .val (.long (vk2m00_240 p0)), .second, .val (.ref b7), .unset, .unset]
abbrev Lak2m00_13 (p0 : Int32) (p1 : Int32) (p2 : Int32) (p3 : Int32) (p4 : Int32) (b4 : Addr) (b7 : Addr) : Array Slot := #[.val (.int p0), .val (.int p1), .val (.int p2), .val (.int p3), .val (.int p4), .val (.int (2 : Int32)), .val (.int (0 : Int32)), .val (.int (vk2m00_28 p0)), .val (.int (vk2m00_37 p0)), .val (.int (vk2m00_46 p0)), .val (.int (vk2m00_55 p0)), .val (.int (vk2m00_61 p1)), .val (.int (vk2m00_67 p3)), .val (.ref b4), .val (.long (vk2m00_240 p0)), .second, .val (.ref b7), .val (.int (vk2m00_312 p0)), .unset]
set_option maxRecDepth 65536 in
set_option maxHeartbeats 40000000 in
theorem j0k2m0 {p : Program} {l : Launch} {e : Env} {s : State} {m : MethodId} {args : Array Value} {below : List Frame} {meth : Method} {c : Code} {T0 : State} {locs : List Loc} {Z : State} {a0 : Array Value} {h0 : Heap} {n0 : Nat}
    (X0 : Stand p l e room_1 s m args below meth c T0 locs 0 0) (hx : p.tables.exec = Jvm.exec) (hZ : Z.Warmed39 s.vm) (hw : ∀ d ∈ tables_1, d.before a0 Z = true) (hby : c.code = code) (hml : c.maxLocals = 19) (hown : s.vm.findClass "com/example/faden/faden/rank/RecordReaderNumberPinLaw" = some m.cls) (hnm : meth.name = "law") (e0 : T0.heap = h0) (N0 : Fr n0 locs) (Z0 : n0 ≤ h0.size) (p0 : Int32) (p1 : Int32) (p2 : Int32) (p3 : Int32) (p4 : Int32) (hk : vk2m00_8 p2 = (2 : Int32)) (hm : vk2m00_22 p4 = (0 : Int32)) :
    OwnFin X0 (some .boolean) (LQ n0) room_1.cells room_1.slots (mkF m 0 #[.val (.int p0), .val (.int p1), .val (.int p2), .val (.int p3), .val (.int p4), .unset, .unset, .unset, .unset, .unset, .unset, .unset, .unset, .unset, .unset, .unset, .unset, .unset, .unset] []) := by
  refine OwnFin.step (g' := (mkF m 1 (Lak2m00_0 p0 p1 p2 p3 p4) [(.int p2)])) X0 (fun t k => XS.iloadN X0.here hx rfl (hb hby at_0) rfl k) ?_
  refine OwnFin.step (g' := (mkF m 3 (Lak2m00_0 p0 p1 p2 p3 p4) [(.int (2147483647 : Int32)), (.int p2)])) X0 (fun t k => X0.ldcInt hx hown (mvT hZ (hw _ (wm 0 rfl))) (g := (mkF m 1 (Lak2m00_0 p0 p1 p2 p3 p4) [(.int p2)])) rfl (hb hby at_1) _ k) ?_
  refine OwnFin.step (g' := (mkF m 4 (Lak2m00_0 p0 p1 p2 p3 p4) [(.int (p2 &&& (2147483647 : Int32)))])) X0 (fun t k => XS.iand X0.here hx rfl (hb hby at_3) rfl k) ?_
  refine OwnFin.step (g' := (mkF m 5 (Lak2m00_0 p0 p1 p2 p3 p4) [(.int (5 : Int32)), (.int (p2 &&& (2147483647 : Int32)))])) X0 (fun t k => XS.iconst X0.here hx rfl (hb hby at_4) k) ?_
  refine OwnFin.step (g' := (mkF m 6 (Lak2m00_0 p0 p1 p2 p3 p4) [(.int ((p2 &&& (2147483647 : Int32)) % (5 : Int32)))])) X0 (fun t k => iremM (g := (mkF m 5 (Lak2m00_0 p0 p1 p2 p3 p4) [(.int (5 : Int32)), (.int (p2 &&& (2147483647 : Int32)))])) X0 hx rfl (hb hby at_5) rfl (by decide) k) ?_
  refine OwnFin.step (g' := (mkF m 7 (Lak2m00_0 p0 p1 p2 p3 p4) [(.int (1 : Int32)), (.int ((p2 &&& (2147483647 : Int32)) % (5 : Int32)))])) X0 (fun t k => XS.iconst X0.here hx rfl (hb hby at_6) k) ?_
  refine OwnFin.step (g' := (mkF m 8 (Lak2m00_0 p0 p1 p2 p3 p4) [(.int (((p2 &&& (2147483647 : Int32)) % (5 : Int32)) + (1 : Int32)))])) X0 (fun t k => XS.iadd X0.here hx rfl (hb hby at_7) rfl k) ?_
  refine OwnFin.step (g' := (mkF m 10 #[.val (.int p0), .val (.int p1), .val (.int p2), .val (.int p3), .val (.int p4), .val (.int (vk2m00_8 p2)), .unset, .unset, .unset, .unset, .unset, .unset, .unset, .unset, .unset, .unset, .unset, .unset, .unset] [])) X0 (fun t k => XS.istore X0.here hx rfl (hb hby at_8) rfl (l' := #[.val (.int p0), .val (.int p1), .val (.int p2), .val (.int p3), .val (.int p4), .val (.int (vk2m00_8 p2)), .unset, .unset, .unset, .unset, .unset, .unset, .unset, .unset, .unset, .unset, .unset, .unset, .unset]) rfl k) ?_
  rw [hk]
  refine OwnFin.step (g' := (mkF m 12 (Lak2m00_1 p0 p1 p2 p3 p4) [(.int p4)])) X0 (fun t k => XS.iload X0.here hx rfl (hb hby at_10) rfl k) ?_
  refine OwnFin.step (g' := (mkF m 13 (Lak2m00_1 p0 p1 p2 p3 p4) [(.int (1 : Int32)), (.int p4)])) X0 (fun t k => XS.iconst X0.here hx rfl (hb hby at_12) k) ?_
  refine OwnFin.step (g' := (mkF m 14 (Lak2m00_1 p0 p1 p2 p3 p4) [(.int (p4 &&& (1 : Int32)))])) X0 (fun t k => XS.iand X0.here hx rfl (hb hby at_13) rfl k) ?_
  refine OwnFin.step (g' := (mkF m 22 #[.val (.int p0), .val (.int p1), .val (.int p2), .val (.int p3), .val (.int p4), .val (.int (2 : Int32)), .unset, .unset, .unset, .unset, .unset, .unset, .unset, .unset, .unset, .unset, .unset, .unset, .unset] [(.int (vk2m00_22 p4))])) X0 (fun t k => ?_) ?_
  · show Steps p.tables e below (T0.setTop (mkF m 14 (Lak2m00_1 p0 p1 p2 p3 p4) [(.int (p4 &&& (1 : Int32)))])) t
    by_cases hc1 : (p4 &&& (1 : Int32)) = (0 : Int32)
    · skip
      refine XS.ifYes X0.here hx rfl (pc0 := 14) (pc' := 21) rfl (hb hby at_14) rfl ((if0 _ _).trans (teq hc1).1) (by decide) (by decide) ?_
      show Steps p.tables e below (T0.setTop (mkF m 21 (Lak2m00_1 p0 p1 p2 p3 p4) [])) t
      refine XS.iconst X0.here hx rfl (hb hby at_21) ?_
      show Steps p.tables e below (T0.setTop (mkF m 22 (Lak2m00_1 p0 p1 p2 p3 p4) [(.int (0 : Int32))])) t
      have qq2 : (vk2m00_22 p4) = (0 : Int32) := by
        show (if (p4 &&& (1 : Int32)) = (0 : Int32) then (0 : Int32) else (1 : Int32)) = (0 : Int32)
        simp only [if_pos hc1]
      rw [qq2] at k
      exact k
    · skip
      refine XS.ifNo X0.here hx rfl (hb hby at_14) rfl ((if0 _ _).trans (feq hc1).1) ?_
      show Steps p.tables e below (T0.setTop (mkF m 17 (Lak2m00_1 p0 p1 p2 p3 p4) [])) t
      refine XS.iconst X0.here hx rfl (hb hby at_17) ?_
      show Steps p.tables e below (T0.setTop (mkF m 18 (Lak2m00_1 p0 p1 p2 p3 p4) [(.int (1 : Int32))])) t
      refine XS.goto X0.here hx rfl (pc0 := 18) (pc' := 22) rfl (hb hby at_18) (by decide) (by decide) ?_
      show Steps p.tables e below (T0.setTop (mkF m 22 (Lak2m00_1 p0 p1 p2 p3 p4) [(.int (1 : Int32))])) t
      have qq3 : (vk2m00_22 p4) = (1 : Int32) := by
        show (if (p4 &&& (1 : Int32)) = (0 : Int32) then (0 : Int32) else (1 : Int32)) = (1 : Int32)
        simp only [if_neg hc1]
      rw [qq3] at k
      exact k
  refine OwnFin.step (g' := (mkF m 24 #[.val (.int p0), .val (.int p1), .val (.int p2), .val (.int p3), .val (.int p4), .val (.int (2 : Int32)), .val (.int (vk2m00_22 p4)), .unset, .unset, .unset, .unset, .unset, .unset, .unset, .unset, .unset, .unset, .unset, .unset] [])) X0 (fun t k => XS.istore X0.here hx rfl (hb hby at_22) rfl (l' := #[.val (.int p0), .val (.int p1), .val (.int p2), .val (.int p3), .val (.int p4), .val (.int (2 : Int32)), .val (.int (vk2m00_22 p4)), .unset, .unset, .unset, .unset, .unset, .unset, .unset, .unset, .unset, .unset, .unset, .unset]) rfl k) ?_
  rw [hm]
  refine OwnFin.step (g' := (mkF m 25 (Lak2m00_2 p0 p1 p2 p3 p4) [(.int p0)])) X0 (fun t k => XS.iloadN X0.here hx rfl (hb hby at_24) rfl k) ?_
  refine OwnFin.step (g' := (mkF m 27 (Lak2m00_2 p0 p1 p2 p3 p4) [(.int (127 : Int32)), (.int p0)])) X0 (fun t k => XS.bipush X0.here hx rfl (hb hby at_25) k) ?_
  refine OwnFin.step (g' := (mkF m 28 (Lak2m00_2 p0 p1 p2 p3 p4) [(.int (p0 &&& (127 : Int32)))])) X0 (fun t k => XS.iand X0.here hx rfl (hb hby at_27) rfl k) ?_
  refine OwnFin.step (g' := (mkF m 30 (Lak2m00_3 p0 p1 p2 p3 p4) [])) X0 (fun t k => XS.istore X0.here hx rfl (hb hby at_28) rfl (l' := (Lak2m00_3 p0 p1 p2 p3 p4)) rfl k) ?_
  refine OwnFin.step (g' := (mkF m 31 (Lak2m00_3 p0 p1 p2 p3 p4) [(.int p0)])) X0 (fun t k => XS.iloadN X0.here hx rfl (hb hby at_30) rfl k) ?_
  refine OwnFin.step (g' := (mkF m 33 (Lak2m00_3 p0 p1 p2 p3 p4) [(.int (8 : Int32)), (.int p0)])) X0 (fun t k => XS.bipush X0.here hx rfl (hb hby at_31) k) ?_
  refine OwnFin.step (g' := (mkF m 34 (Lak2m00_3 p0 p1 p2 p3 p4) [(.int (XT.ushr p0 (8 : Int32)))])) X0 (fun t k => XT.iushr X0.here hx rfl (hb hby at_33) rfl k) ?_
  refine OwnFin.step (g' := (mkF m 36 (Lak2m00_3 p0 p1 p2 p3 p4) [(.int (127 : Int32)), (.int (XT.ushr p0 (8 : Int32)))])) X0 (fun t k => XS.bipush X0.here hx rfl (hb hby at_34) k) ?_
  refine OwnFin.step (g' := (mkF m 37 (Lak2m00_3 p0 p1 p2 p3 p4) [(.int ((XT.ushr p0 (8 : Int32)) &&& (127 : Int32)))])) X0 (fun t k => XS.iand X0.here hx rfl (hb hby at_36) rfl k) ?_
  refine OwnFin.step (g' := (mkF m 39 (Lak2m00_4 p0 p1 p2 p3 p4) [])) X0 (fun t k => XS.istore X0.here hx rfl (hb hby at_37) rfl (l' := (Lak2m00_4 p0 p1 p2 p3 p4)) rfl k) ?_
  refine OwnFin.step (g' := (mkF m 40 (Lak2m00_4 p0 p1 p2 p3 p4) [(.int p0)])) X0 (fun t k => XS.iloadN X0.here hx rfl (hb hby at_39) rfl k) ?_
  refine OwnFin.step (g' := (mkF m 42 (Lak2m00_4 p0 p1 p2 p3 p4) [(.int (16 : Int32)), (.int p0)])) X0 (fun t k => XS.bipush X0.here hx rfl (hb hby at_40) k) ?_
  refine OwnFin.step (g' := (mkF m 43 (Lak2m00_4 p0 p1 p2 p3 p4) [(.int (XT.ushr p0 (16 : Int32)))])) X0 (fun t k => XT.iushr X0.here hx rfl (hb hby at_42) rfl k) ?_
  refine OwnFin.step (g' := (mkF m 45 (Lak2m00_4 p0 p1 p2 p3 p4) [(.int (127 : Int32)), (.int (XT.ushr p0 (16 : Int32)))])) X0 (fun t k => XS.bipush X0.here hx rfl (hb hby at_43) k) ?_
  refine OwnFin.step (g' := (mkF m 46 (Lak2m00_4 p0 p1 p2 p3 p4) [(.int ((XT.ushr p0 (16 : Int32)) &&& (127 : Int32)))])) X0 (fun t k => XS.iand X0.here hx rfl (hb hby at_45) rfl k) ?_
  refine OwnFin.step (g' := (mkF m 48 (Lak2m00_5 p0 p1 p2 p3 p4) [])) X0 (fun t k => XS.istore X0.here hx rfl (hb hby at_46) rfl (l' := (Lak2m00_5 p0 p1 p2 p3 p4)) rfl k) ?_
  refine OwnFin.step (g' := (mkF m 49 (Lak2m00_5 p0 p1 p2 p3 p4) [(.int p0)])) X0 (fun t k => XS.iloadN X0.here hx rfl (hb hby at_48) rfl k) ?_
  refine OwnFin.step (g' := (mkF m 51 (Lak2m00_5 p0 p1 p2 p3 p4) [(.int (24 : Int32)), (.int p0)])) X0 (fun t k => XS.bipush X0.here hx rfl (hb hby at_49) k) ?_
  refine OwnFin.step (g' := (mkF m 52 (Lak2m00_5 p0 p1 p2 p3 p4) [(.int (XT.ushr p0 (24 : Int32)))])) X0 (fun t k => XT.iushr X0.here hx rfl (hb hby at_51) rfl k) ?_
  refine OwnFin.step (g' := (mkF m 54 (Lak2m00_5 p0 p1 p2 p3 p4) [(.int (127 : Int32)), (.int (XT.ushr p0 (24 : Int32)))])) X0 (fun t k => XS.bipush X0.here hx rfl (hb hby at_52) k) ?_
  refine OwnFin.step (g' := (mkF m 55 (Lak2m00_5 p0 p1 p2 p3 p4) [(.int ((XT.ushr p0 (24 : Int32)) &&& (127 : Int32)))])) X0 (fun t k => XS.iand X0.here hx rfl (hb hby at_54) rfl k) ?_
  refine OwnFin.step (g' := (mkF m 57 (Lak2m00_6 p0 p1 p2 p3 p4) [])) X0 (fun t k => XS.istore X0.here hx rfl (hb hby at_55) rfl (l' := (Lak2m00_6 p0 p1 p2 p3 p4)) rfl k) ?_
  refine OwnFin.step (g' := (mkF m 58 (Lak2m00_6 p0 p1 p2 p3 p4) [(.int p1)])) X0 (fun t k => XS.iloadN X0.here hx rfl (hb hby at_57) rfl k) ?_
  refine OwnFin.step (g' := (mkF m 60 (Lak2m00_6 p0 p1 p2 p3 p4) [(.int (7 : Int32)), (.int p1)])) X0 (fun t k => XS.bipush X0.here hx rfl (hb hby at_58) k) ?_
  refine OwnFin.step (g' := (mkF m 61 (Lak2m00_6 p0 p1 p2 p3 p4) [(.int (p1 &&& (7 : Int32)))])) X0 (fun t k => XS.iand X0.here hx rfl (hb hby at_60) rfl k) ?_
  refine OwnFin.step (g' := (mkF m 63 (Lak2m00_7 p0 p1 p2 p3 p4) [])) X0 (fun t k => XS.istore X0.here hx rfl (hb hby at_61) rfl (l' := (Lak2m00_7 p0 p1 p2 p3 p4)) rfl k) ?_
  refine OwnFin.step (g' := (mkF m 64 (Lak2m00_7 p0 p1 p2 p3 p4) [(.int p3)])) X0 (fun t k => XS.iloadN X0.here hx rfl (hb hby at_63) rfl k) ?_
  refine OwnFin.step (g' := (mkF m 66 (Lak2m00_7 p0 p1 p2 p3 p4) [(.int (127 : Int32)), (.int p3)])) X0 (fun t k => XS.bipush X0.here hx rfl (hb hby at_64) k) ?_
  refine OwnFin.step (g' := (mkF m 67 (Lak2m00_7 p0 p1 p2 p3 p4) [(.int (p3 &&& (127 : Int32)))])) X0 (fun t k => XS.iand X0.here hx rfl (hb hby at_66) rfl k) ?_
  refine OwnFin.step (g' := (mkF m 69 (Lak2m00_8 p0 p1 p2 p3 p4) [])) X0 (fun t k => XS.istore X0.here hx rfl (hb hby at_67) rfl (l' := (Lak2m00_8 p0 p1 p2 p3 p4)) rfl k) ?_
  refine OwnFin.step (g' := (mkF m 71 (Lak2m00_8 p0 p1 p2 p3 p4) [(.int (0 : Int32))])) X0 (fun t k => XS.iload X0.here hx rfl (hb hby at_69) rfl k) ?_
  refine OwnFin.step (g' := (mkF m 81 (Lak2m00_8 p0 p1 p2 p3 p4) [])) X0 (fun t k => XS.ifYes X0.here hx rfl (pc0 := 71) (pc' := 81) rfl (hb hby at_71) rfl ((if0 _ _).trans (teq (show (0 : Int32) = (0 : Int32) by first | rfl | decide)).1) (by decide) (by decide) k) ?_
  refine OwnFin.step (g' := (mkF m 83 (Lak2m00_8 p0 p1 p2 p3 p4) [(.int (2 : Int32))])) X0 (fun t k => XS.iload X0.here hx rfl (hb hby at_81) rfl k) ?_
  obtain ⟨T4, h4, b4, X4, e4, y4, K4, A4, st4⟩ := own_new X0 hx hZ (hw _ (wm 1 rfl)) e0 (g := (mkF m 83 (Lak2m00_8 p0 p1 p2 p3 p4) [(.int (2 : Int32))])) rfl (hb hby at_83) rfl (by decide) (cap := 2) (by decide) (by decide) (by decide) (by decide)
  have B4 : Ary Z h4 b4 .byte 2 (fun i => .int ((fun _ => (0 : Int32)) i)) := A4
  have g_b4 : n0 ≤ b4 := by rw [y4]; exact Z0
  have Z4 := Nat.le_trans Z0 K4.1
  refine OwnFin.step (g' := (mkF m 85 (Lak2m00_8 p0 p1 p2 p3 p4) [(.ref b4)])) X4 (fun t k => st4 _ k) ?_
  refine OwnFin.step (g' := (mkF m 87 (Lak2m00_9 p0 p1 p2 p3 p4 b4) [])) X4 (fun t k => XS.astore X4.here hx rfl (hb hby at_85) rfl rfl (l' := (Lak2m00_9 p0 p1 p2 p3 p4 b4)) rfl k) ?_
  refine OwnFin.step (g' := (mkF m 89 (Lak2m00_9 p0 p1 p2 p3 p4 b4) [(.ref b4)])) X4 (fun t k => XS.aload X4.here hx rfl (hb hby at_87) rfl rfl k) ?_
  refine OwnFin.step (g' := (mkF m 90 (Lak2m00_9 p0 p1 p2 p3 p4 b4) [(.int (0 : Int32)), (.ref b4)])) X4 (fun t k => XS.iconst X4.here hx rfl (hb hby at_89) k) ?_
  refine OwnFin.step (g' := (mkF m 92 (Lak2m00_9 p0 p1 p2 p3 p4 b4) [(.int (2 : Int32)), (.int (0 : Int32)), (.ref b4)])) X4 (fun t k => XS.iload X4.here hx rfl (hb hby at_90) rfl k) ?_
  refine OwnFin.step (g' := (mkF m 93 (Lak2m00_9 p0 p1 p2 p3 p4 b4) [(.int (1 : Int32)), (.int (2 : Int32)), (.int (0 : Int32)), (.ref b4)])) X4 (fun t k => XS.iconst X4.here hx rfl (hb hby at_92) k) ?_
  refine OwnFin.step (g' := (mkF m 96 (Lak2m00_9 p0 p1 p2 p3 p4 b4) [(.int (0 : Int32)), (.ref b4)])) X4 (fun t k => XS.icmpNo X4.here hx rfl (hb hby at_93) rfl (tlt (show (1 : Int32) < (2 : Int32) by first | rfl | decide)).2.2.2 k) ?_
  refine OwnFin.step (g' := (mkF m 98 (Lak2m00_9 p0 p1 p2 p3 p4 b4) [(.int (vk2m00_28 p0)), (.int (0 : Int32)), (.ref b4)])) X4 (fun t k => XS.iload X4.here hx rfl (hb hby at_96) rfl k) ?_
  refine OwnFin.step (g' := (mkF m 101 (Lak2m00_9 p0 p1 p2 p3 p4 b4) [(.int (128 : Int32)), (.int (vk2m00_28 p0)), (.int (0 : Int32)), (.ref b4)])) X4 (fun t k => XS.sipush X4.here hx rfl (hb hby at_98) k) ?_
  refine OwnFin.step (g' := (mkF m 102 (Lak2m00_9 p0 p1 p2 p3 p4 b4) [(.int ((vk2m00_28 p0) ||| (128 : Int32))), (.int (0 : Int32)), (.ref b4)])) X4 (fun t k => XT.ior X4.here hx rfl (hb hby at_101) rfl k) ?_
  refine OwnFin.step (g' := (mkF m 107 (Lak2m00_9 p0 p1 p2 p3 p4 b4) [(.int ((vk2m00_28 p0) ||| (128 : Int32))), (.int (0 : Int32)), (.ref b4)])) X4 (fun t k => XS.goto X4.here hx rfl (pc0 := 102) (pc' := 107) rfl (hb hby at_102) (by decide) (by decide) k) ?_
  refine OwnFin.step (g' := (mkF m 108 (Lak2m00_9 p0 p1 p2 p3 p4 b4) [(.int (((vk2m00_28 p0) ||| (128 : Int32)).toInt8.toInt32)), (.int (0 : Int32)), (.ref b4)])) X4 (fun t k => XT.i2b X4.here hx rfl (hb hby at_107) rfl k) ?_
  obtain ⟨T5, h5, L5, X5, e5, N5, K5, A5, st5⟩ := own_stB X4 hx hZ e4 N0 (G := (fun _ => (0 : Int32))) B4 g_b4 (j := (0 : Int32)) (x := (((vk2m00_28 p0) ||| (128 : Int32)).toInt8.toInt32)) (by decide) (g := (mkF m 108 (Lak2m00_9 p0 p1 p2 p3 p4 b4) [(.int (((vk2m00_28 p0) ||| (128 : Int32)).toInt8.toInt32)), (.int (0 : Int32)), (.ref b4)])) rfl rfl (hb hby at_108)
  have B5 : Ary Z h5 b4 .byte 2 (fun i => .int ((Gk2m00_108 p0) i)) := A5
  have Z5 := Nat.le_trans Z4 K5.1
  refine OwnFin.step (g' := (mkF m 109 (Lak2m00_9 p0 p1 p2 p3 p4 b4) [])) X5 (fun t k => st5 _ k) ?_
  refine OwnFin.step (g' := (mkF m 111 (Lak2m00_9 p0 p1 p2 p3 p4 b4) [(.int (2 : Int32))])) X5 (fun t k => XS.iload X5.here hx rfl (hb hby at_109) rfl k) ?_
  refine OwnFin.step (g' := (mkF m 112 (Lak2m00_9 p0 p1 p2 p3 p4 b4) [(.int (1 : Int32)), (.int (2 : Int32))])) X5 (fun t k => XS.iconst X5.here hx rfl (hb hby at_111) k) ?_
  refine OwnFin.step (g' := (mkF m 115 (Lak2m00_9 p0 p1 p2 p3 p4 b4) [])) X5 (fun t k => XS.icmpNo X5.here hx rfl (hb hby at_112) rfl (tlt (show (1 : Int32) < (2 : Int32) by first | rfl | decide)).2.2.2 k) ?_
  refine OwnFin.step (g' := (mkF m 117 (Lak2m00_9 p0 p1 p2 p3 p4 b4) [(.ref b4)])) X5 (fun t k => XS.aload X5.here hx rfl (hb hby at_115) rfl rfl k) ?_
  refine OwnFin.step (g' := (mkF m 118 (Lak2m00_9 p0 p1 p2 p3 p4 b4) [(.int (1 : Int32)), (.ref b4)])) X5 (fun t k => XS.iconst X5.here hx rfl (hb hby at_117) k) ?_
  refine OwnFin.step (g' := (mkF m 120 (Lak2m00_9 p0 p1 p2 p3 p4 b4) [(.int (2 : Int32)), (.int (1 : Int32)), (.ref b4)])) X5 (fun t k => XS.iload X5.here hx rfl (hb hby at_118) rfl k) ?_
  refine OwnFin.step (g' := (mkF m 121 (Lak2m00_9 p0 p1 p2 p3 p4 b4) [(.int (2 : Int32)), (.int (2 : Int32)), (.int (1 : Int32)), (.ref b4)])) X5 (fun t k => XS.iconst X5.here hx rfl (hb hby at_120) k) ?_
  refine OwnFin.step (g' := (mkF m 133 (Lak2m00_9 p0 p1 p2 p3 p4 b4) [(.int (1 : Int32)), (.ref b4)])) X5 (fun t k => XS.icmpYes X5.here hx rfl (pc0 := 121) (pc' := 133) rfl (hb hby at_121) rfl (flt (show ¬ ((2 : Int32) < (2 : Int32)) by first | decide | exact Int32.lt_irrefl _ | exact Int64.lt_irrefl _)).2.2.2 (by decide) (by decide) k) ?_
  refine OwnFin.step (g' := (mkF m 135 (Lak2m00_9 p0 p1 p2 p3 p4 b4) [(.int (vk2m00_37 p0)), (.int (1 : Int32)), (.ref b4)])) X5 (fun t k => XS.iload X5.here hx rfl (hb hby at_133) rfl k) ?_
  refine OwnFin.step (g' := (mkF m 136 (Lak2m00_9 p0 p1 p2 p3 p4 b4) [(.int ((vk2m00_37 p0).toInt8.toInt32)), (.int (1 : Int32)), (.ref b4)])) X5 (fun t k => XT.i2b X5.here hx rfl (hb hby at_135) rfl k) ?_
  obtain ⟨T6, h6, L6, X6, e6, N6, K6, A6, st6⟩ := own_stB X5 hx hZ e5 N5 (G := (Gk2m00_108 p0)) B5 g_b4 (j := (1 : Int32)) (x := ((vk2m00_37 p0).toInt8.toInt32)) (by decide) (g := (mkF m 136 (Lak2m00_9 p0 p1 p2 p3 p4 b4) [(.int ((vk2m00_37 p0).toInt8.toInt32)), (.int (1 : Int32)), (.ref b4)])) rfl rfl (hb hby at_136)
  have B6 : Ary Z h6 b4 .byte 2 (fun i => .int ((Gk2m00_136 p0) i)) := A6
  have Z6 := Nat.le_trans Z5 K6.1
  refine OwnFin.step (g' := (mkF m 137 (Lak2m00_9 p0 p1 p2 p3 p4 b4) [])) X6 (fun t k => st6 _ k) ?_
  refine OwnFin.step (g' := (mkF m 139 (Lak2m00_9 p0 p1 p2 p3 p4 b4) [(.int (2 : Int32))])) X6 (fun t k => XS.iload X6.here hx rfl (hb hby at_137) rfl k) ?_
  refine OwnFin.step (g' := (mkF m 140 (Lak2m00_9 p0 p1 p2 p3 p4 b4) [(.int (2 : Int32)), (.int (2 : Int32))])) X6 (fun t k => XS.iconst X6.here hx rfl (hb hby at_139) k) ?_
  refine OwnFin.step (g' := (mkF m 165 (Lak2m00_9 p0 p1 p2 p3 p4 b4) [])) X6 (fun t k => XS.icmpYes X6.here hx rfl (pc0 := 140) (pc' := 165) rfl (hb hby at_140) rfl (flt (show ¬ ((2 : Int32) < (2 : Int32)) by first | decide | exact Int32.lt_irrefl _ | exact Int64.lt_irrefl _)).2.2.2 (by decide) (by decide) k) ?_
  refine OwnFin.step (g' := (mkF m 167 (Lak2m00_9 p0 p1 p2 p3 p4 b4) [(.int (2 : Int32))])) X6 (fun t k => XS.iload X6.here hx rfl (hb hby at_165) rfl k) ?_
  refine OwnFin.step (g' := (mkF m 168 (Lak2m00_9 p0 p1 p2 p3 p4 b4) [(.int (3 : Int32)), (.int (2 : Int32))])) X6 (fun t k => XS.iconst X6.here hx rfl (hb hby at_167) k) ?_
  refine OwnFin.step (g' := (mkF m 193 (Lak2m00_9 p0 p1 p2 p3 p4 b4) [])) X6 (fun t k => XS.icmpYes X6.here hx rfl (pc0 := 168) (pc' := 193) rfl (hb hby at_168) rfl (flt (show ¬ ((3 : Int32) < (2 : Int32)) by first | decide | exact Int32.lt_irrefl _ | exact Int64.lt_irrefl _)).2.2.2 (by decide) (by decide) k) ?_
  refine OwnFin.step (g' := (mkF m 195 (Lak2m00_9 p0 p1 p2 p3 p4 b4) [(.int (2 : Int32))])) X6 (fun t k => XS.iload X6.here hx rfl (hb hby at_193) rfl k) ?_
  refine OwnFin.step (g' := (mkF m 196 (Lak2m00_9 p0 p1 p2 p3 p4 b4) [(.int (4 : Int32)), (.int (2 : Int32))])) X6 (fun t k => XS.iconst X6.here hx rfl (hb hby at_195) k) ?_
  refine OwnFin.step (g' := (mkF m 206 (Lak2m00_9 p0 p1 p2 p3 p4 b4) [])) X6 (fun t k => XS.icmpYes X6.here hx rfl (pc0 := 196) (pc' := 206) rfl (hb hby at_196) rfl (flt (show ¬ ((4 : Int32) < (2 : Int32)) by first | decide | exact Int32.lt_irrefl _ | exact Int64.lt_irrefl _)).2.2.2 (by decide) (by decide) k) ?_
  refine OwnFin.step (g' := (mkF m 208 (Lak2m00_9 p0 p1 p2 p3 p4 b4) [(.int (0 : Int32))])) X6 (fun t k => XS.iload X6.here hx rfl (hb hby at_206) rfl k) ?_
  refine OwnFin.step (g' := (mkF m 219 (Lak2m00_9 p0 p1 p2 p3 p4 b4) [])) X6 (fun t k => XS.ifYes X6.here hx rfl (pc0 := 208) (pc' := 219) rfl (hb hby at_208) rfl ((if0 _ _).trans (teq (show (0 : Int32) = (0 : Int32) by first | rfl | decide)).1) (by decide) (by decide) k) ?_
  refine OwnFin.step (g' := (mkF m 221 (Lak2m00_9 p0 p1 p2 p3 p4 b4) [(.int (vk2m00_28 p0))])) X6 (fun t k => XS.iload X6.here hx rfl (hb hby at_219) rfl k) ?_
  refine OwnFin.step (g' := (mkF m 222 (Lak2m00_9 p0 p1 p2 p3 p4 b4) [(.long ((vk2m00_28 p0).toInt64))])) X6 (fun t k => XT.i2l X6.here hx rfl (hb hby at_221) rfl k) ?_
  refine OwnFin.step (g' := (mkF m 224 (Lak2m00_10 p0 p1 p2 p3 p4 b4) [])) X6 (fun t k => XT.lstore X6.here hx rfl (hb hby at_222) rfl (l' := (Lak2m00_10 p0 p1 p2 p3 p4 b4)) rfl k) ?_
  refine OwnFin.step (g' := (mkF m 226 (Lak2m00_10 p0 p1 p2 p3 p4 b4) [(.int (2 : Int32))])) X6 (fun t k => XS.iload X6.here hx rfl (hb hby at_224) rfl k) ?_
  refine OwnFin.step (g' := (mkF m 227 (Lak2m00_10 p0 p1 p2 p3 p4 b4) [(.int (1 : Int32)), (.int (2 : Int32))])) X6 (fun t k => XS.iconst X6.here hx rfl (hb hby at_226) k) ?_
  refine OwnFin.step (g' := (mkF m 230 (Lak2m00_10 p0 p1 p2 p3 p4 b4) [])) X6 (fun t k => XS.icmpNo X6.here hx rfl (hb hby at_227) rfl (tlt (show (1 : Int32) < (2 : Int32) by first | rfl | decide)).2.2.2 k) ?_
  refine OwnFin.step (g' := (mkF m 232 (Lak2m00_10 p0 p1 p2 p3 p4 b4) [(.long (vk2m00_222 p0))])) X6 (fun t k => XT.lload X6.here hx rfl (hb hby at_230) rfl k) ?_
  refine OwnFin.step (g' := (mkF m 234 (Lak2m00_10 p0 p1 p2 p3 p4 b4) [(.int (vk2m00_37 p0)), (.long (vk2m00_222 p0))])) X6 (fun t k => XS.iload X6.here hx rfl (hb hby at_232) rfl k) ?_
  refine OwnFin.step (g' := (mkF m 235 (Lak2m00_10 p0 p1 p2 p3 p4 b4) [(.long ((vk2m00_37 p0).toInt64)), (.long (vk2m00_222 p0))])) X6 (fun t k => XT.i2l X6.here hx rfl (hb hby at_234) rfl k) ?_
  refine OwnFin.step (g' := (mkF m 238 (Lak2m00_10 p0 p1 p2 p3 p4 b4) [(.long (128 : Int64)), (.long ((vk2m00_37 p0).toInt64)), (.long (vk2m00_222 p0))])) X6 (fun t k => X6.ldc2Long hx hown (mvT hZ (hw _ (wm 2 rfl))) (g := (mkF m 235 (Lak2m00_10 p0 p1 p2 p3 p4 b4) [(.long ((vk2m00_37 p0).toInt64)), (.long (vk2m00_222 p0))])) rfl (hb hby at_235) _ k) ?_
  refine OwnFin.step (g' := (mkF m 239 (Lak2m00_10 p0 p1 p2 p3 p4 b4) [(.long (((vk2m00_37 p0).toInt64) * (128 : Int64))), (.long (vk2m00_222 p0))])) X6 (fun t k => XT.lmul X6.here hx rfl (hb hby at_238) rfl k) ?_
  refine OwnFin.step (g' := (mkF m 240 (Lak2m00_10 p0 p1 p2 p3 p4 b4) [(.long ((vk2m00_222 p0) + (((vk2m00_37 p0).toInt64) * (128 : Int64))))])) X6 (fun t k => XT.ladd X6.here hx rfl (hb hby at_239) rfl k) ?_
  refine OwnFin.step (g' := (mkF m 242 (Lak2m00_11 p0 p1 p2 p3 p4 b4) [])) X6 (fun t k => XT.lstore X6.here hx rfl (hb hby at_240) rfl (l' := (Lak2m00_11 p0 p1 p2 p3 p4 b4)) rfl k) ?_
  refine OwnFin.step (g' := (mkF m 244 (Lak2m00_11 p0 p1 p2 p3 p4 b4) [(.int (2 : Int32))])) X6 (fun t k => XS.iload X6.here hx rfl (hb hby at_242) rfl k) ?_
  refine OwnFin.step (g' := (mkF m 245 (Lak2m00_11 p0 p1 p2 p3 p4 b4) [(.int (2 : Int32)), (.int (2 : Int32))])) X6 (fun t k => XS.iconst X6.here hx rfl (hb hby at_244) k) ?_
  refine OwnFin.step (g' := (mkF m 260 (Lak2m00_11 p0 p1 p2 p3 p4 b4) [])) X6 (fun t k => XS.icmpYes X6.here hx rfl (pc0 := 245) (pc' := 260) rfl (hb hby at_245) rfl (flt (show ¬ ((2 : Int32) < (2 : Int32)) by first | decide | exact Int32.lt_irrefl _ | exact Int64.lt_irrefl _)).2.2.2 (by decide) (by decide) k) ?_
  refine OwnFin.step (g' := (mkF m 262 (Lak2m00_11 p0 p1 p2 p3 p4 b4) [(.int (2 : Int32))])) X6 (fun t k => XS.iload X6.here hx rfl (hb hby at_260) rfl k) ?_
  refine OwnFin.step (g' := (mkF m 263 (Lak2m00_11 p0 p1 p2 p3 p4 b4) [(.int (3 : Int32)), (.int (2 : Int32))])) X6 (fun t k => XS.iconst X6.here hx rfl (hb hby at_262) k) ?_
  refine OwnFin.step (g' := (mkF m 278 (Lak2m00_11 p0 p1 p2 p3 p4 b4) [])) X6 (fun t k => XS.icmpYes X6.here hx rfl (pc0 := 263) (pc' := 278) rfl (hb hby at_263) rfl (flt (show ¬ ((3 : Int32) < (2 : Int32)) by first | decide | exact Int32.lt_irrefl _ | exact Int64.lt_irrefl _)).2.2.2 (by decide) (by decide) k) ?_
  refine OwnFin.step (g' := (mkF m 280 (Lak2m00_11 p0 p1 p2 p3 p4 b4) [(.int (2 : Int32))])) X6 (fun t k => XS.iload X6.here hx rfl (hb hby at_278) rfl k) ?_
  refine OwnFin.step (g' := (mkF m 281 (Lak2m00_11 p0 p1 p2 p3 p4 b4) [(.int (4 : Int32)), (.int (2 : Int32))])) X6 (fun t k => XS.iconst X6.here hx rfl (hb hby at_280) k) ?_
  refine OwnFin.step (g' := (mkF m 296 (Lak2m00_11 p0 p1 p2 p3 p4 b4) [])) X6 (fun t k => XS.icmpYes X6.here hx rfl (pc0 := 281) (pc' := 296) rfl (hb hby at_281) rfl (flt (show ¬ ((4 : Int32) < (2 : Int32)) by first | decide | exact Int32.lt_irrefl _ | exact Int64.lt_irrefl _)).2.2.2 (by decide) (by decide) k) ?_
  obtain ⟨T7, h7, X7, e7, E7, A7, D7, -, st7⟩ := newO X6 hx hZ hown (hw _ (wm 4 rfl)) (hw _ (wm 5 rfl)) (hw _ (wm 6 rfl)) e6 (g := (mkF m 296 (Lak2m00_11 p0 p1 p2 p3 p4 b4) [])) rfl (hb hby at_296) (by decide) (by decide)
  obtain ⟨b7, y7⟩ : ∃ z, z = h6.size := ⟨_, rfl⟩
  rw [← y7] at A7 D7 st7
  have K7 := keep_ext E7
  have ne_b4_b7 : b4 ≠ b7 := Ary.neS B6 y7
  have g_b7 : n0 ≤ b7 := by rw [y7]; exact Z6
  have Z7 := Nat.le_trans Z6 K7.1
  have F7_record : Fld Z h7 b7 "com/example/faden/faden/rank/RecordReader" "record" "[B" .null := D7 (Or.inr (hw _ (wm 14 rfl))) (ty := (.array .byte)) (by decide)
  have F7_at : Fld Z h7 b7 "com/example/faden/faden/rank/RecordReader" "at" "I" (.int (0 : Int32)) := D7 (Or.inl (hw _ (wm 21 rfl))) (ty := .int) (by decide)
  refine OwnFin.step (g' := (mkF m 299 (Lak2m00_11 p0 p1 p2 p3 p4 b4) [(.ref b7)])) X7 (fun t k => st7 _ k) ?_
  refine OwnFin.step (g' := (mkF m 300 (Lak2m00_11 p0 p1 p2 p3 p4 b4) [(.ref b7), (.ref b7)])) X7 (fun t k => XS.dup X7.here hx rfl (hb hby at_299) rfl rfl k) ?_
  refine OwnFin.step (g' := (mkF m 302 (Lak2m00_11 p0 p1 p2 p3 p4 b4) [(.ref b4), (.ref b7), (.ref b7)])) X7 (fun t k => XS.aload X7.here hx rfl (hb hby at_300) rfl rfl k) ?_
  obtain ⟨_, T8, L8, X8, ⟨rfl, N8q, u9, u10, u11, u12⟩, st8⟩ := own_callI X7 hx hZ (y := (⟨"com/example/faden/faden/rank/RecordReader", "<init>", "([B)V"⟩ : MethodName)) (W := 1) (a := b7) (argsL := [(.ref b4)]) (rest := [(.ref b7)]) rfl hown (hw _ (wm 7 rfl)) (hw _ (wm 8 rfl)) (hw _ (wm 6 rfl)) (hw _ (wm 9 rfl)) (by decide) (rm1 l Z a0 hw [] b7 b4 h7 n0 Z7 A7 g_b7 F7_record F7_at) (by decide) (by decide) (by decide) (by decide) e7 (g := (mkF m 302 (Lak2m00_11 p0 p1 p2 p3 p4 b4) [(.ref b4), (.ref b7), (.ref b7)])) rfl (by rw [hml]; rfl) pd_0 rfl rfl (by show 2 * 0 + _ ≤ _; exact Nat.le_of_eq rfl) (hb hby at_302)
  have N8 := Fr.app N6 N8q
  obtain ⟨h8, e8⟩ : ∃ z, T8.heap = z := ⟨_, rfl⟩
  rw [e8] at u9 u10 u11 u12
  have K8 := u9
  have Z8 := Nat.le_trans Z7 K8.1
  refine OwnFin.step (g' := (mkF m 305 (Lak2m00_11 p0 p1 p2 p3 p4 b4) [(.ref b7)])) X8 (fun t k => st8 _ k) ?_
  refine OwnFin.step (g' := (mkF m 307 (Lak2m00_12 p0 p1 p2 p3 p4 b4 b7) [])) X8 (fun t k => XS.astore X8.here hx rfl (hb hby at_305) rfl rfl (l' := (Lak2m00_12 p0 p1 p2 p3 p4 b4 b7)) rfl k) ?_
  refine OwnFin.step (g' := (mkF m 309 (Lak2m00_12 p0 p1 p2 p3 p4 b4 b7) [(.ref b7)])) X8 (fun t k => XS.aload X8.here hx rfl (hb hby at_307) rfl rfl k) ?_
  have A14 := ((B6.keep K7 nin0).keep K8 (ninS ne_b4_b7 nin0))
  obtain ⟨_, T13, L13, X13, ⟨rfl, N13q, u15, u16, u17, u18⟩, st13⟩ := own_callV X8 hx hZ (y := (⟨"com/example/faden/faden/rank/RecordReader", "number", "()I"⟩ : MethodName)) (W := 0) (a := b7) (argsL := []) (rest := []) hown (hw _ (wm 15 rfl)) (hw _ (wm 16 rfl)) (hw _ (wm 18 rfl)) (hw _ (wm 17 rfl)) (hw _ (wm 6 rfl)) (hw _ (wm 19 rfl)) (by decide) u10 (rm3a0k2 l Z a0 hw [] b7 2 (Gk2m00_136 p0) b4 h8 n0 Z8 u10 g_b7 u11 u12 A14 (Ne.symm ne_b4_b7) (exhlnk2m00_309 p2 p4 hk hm) (exhb0k2m00_309 p0 p2 p4 hk hm) (exhb1k2m00_309 p0 p2 p4 hk hm)) (by decide) (by decide) (by decide) (by decide) e8 (g := (mkF m 309 (Lak2m00_12 p0 p1 p2 p3 p4 b4 b7) [(.ref b7)])) rfl (by rw [hml]; rfl) pd_1 rfl rfl (by show 2 * 0 + _ ≤ _; exact Nat.le_of_eq rfl) (hb hby at_309)
  have N13 := Fr.app N8 N13q
  obtain ⟨h13, e13⟩ : ∃ z, T13.heap = z := ⟨_, rfl⟩
  rw [e13] at u15 u16 u17 u18
  have K13 := u15
  have Z13 := Nat.le_trans Z8 K13.1
  refine OwnFin.step (g' := (mkF m 312 (Lak2m00_12 p0 p1 p2 p3 p4 b4 b7) [(.int (va0k23_77b (Gk2m00_136 p0)))])) X13 (fun t k => st13 _ k) ?_
  refine OwnFin.step (g' := (mkF m 314 (Lak2m00_13 p0 p1 p2 p3 p4 b4 b7) [])) X13 (fun t k => XS.istore X13.here hx rfl (hb hby at_312) rfl (l' := (Lak2m00_13 p0 p1 p2 p3 p4 b4 b7)) rfl k) ?_
  refine OwnFin.step (g' := (mkF m 316 (Lak2m00_13 p0 p1 p2 p3 p4 b4 b7) [(.int (vk2m00_312 p0))])) X13 (fun t k => XS.iload X13.here hx rfl (hb hby at_314) rfl k) ?_
  refine OwnFin.step (g' := (mkF m 317 (Lak2m00_13 p0 p1 p2 p3 p4 b4 b7) [(.long ((vk2m00_312 p0).toInt64))])) X13 (fun t k => XT.i2l X13.here hx rfl (hb hby at_316) rfl k) ?_
  refine OwnFin.step (g' := (mkF m 319 (Lak2m00_13 p0 p1 p2 p3 p4 b4 b7) [(.long (vk2m00_240 p0)), (.long ((vk2m00_312 p0).toInt64))])) X13 (fun t k => XT.lload X13.here hx rfl (hb hby at_317) rfl k) ?_
  refine OwnFin.step (g' := (mkF m 320 (Lak2m00_13 p0 p1 p2 p3 p4 b4 b7) [(.int (XT.cmpL ((vk2m00_312 p0).toInt64) (vk2m00_240 p0)))])) X13 (fun t k => XT.lcmp X13.here hx rfl (hb hby at_319) rfl k) ?_
  refine OwnFin.step (g' := (mkF m 325 (Lak2m00_13 p0 p1 p2 p3 p4 b4 b7) [])) X13 (fun t k => XS.ifYes X13.here hx rfl (pc0 := 320) (pc' := 325) rfl (hb hby at_320) rfl ((if0 _ _).trans (teq ((cl_eq _ _).mpr (brk2m00_320 p0 p2 p4 hk hm))).1) (by decide) (by decide) k) ?_
  refine OwnFin.step (g' := (mkF m 327 (Lak2m00_13 p0 p1 p2 p3 p4 b4 b7) [(.int (0 : Int32))])) X13 (fun t k => XS.iload X13.here hx rfl (hb hby at_325) rfl k) ?_
  refine OwnFin.step (g' := (mkF m 330 (Lak2m00_13 p0 p1 p2 p3 p4 b4 b7) [])) X13 (fun t k => XS.ifNo X13.here hx rfl (hb hby at_327) rfl ((if0 _ _).trans (teq (show (0 : Int32) = (0 : Int32) by first | rfl | decide)).2) k) ?_
  refine OwnFin.step (g' := (mkF m 332 (Lak2m00_13 p0 p1 p2 p3 p4 b4 b7) [(.ref b7)])) X13 (fun t k => XS.aload X13.here hx rfl (hb hby at_330) rfl rfl k) ?_
  have A20 := (A14.keep K13 (ninS ne_b4_b7 nin0))
  obtain ⟨_, T19, L19, X19, ⟨rfl, N19q, u21⟩, st19⟩ := own_callV X13 hx hZ (y := (⟨"com/example/faden/faden/rank/RecordReader", "atEnd", "()Z"⟩ : MethodName)) (W := 0) (a := b7) (argsL := []) (rest := []) hown (hw _ (wm 22 rfl)) (hw _ (wm 23 rfl)) (hw _ (wm 25 rfl)) (hw _ (wm 24 rfl)) (hw _ (wm 6 rfl)) (hw _ (wm 26 rfl)) (by decide) u16 (rm4 l Z a0 hw [] b7 2 (Gk2m00_136 p0) b4 (2 : Int32) h13 n0 Z13 u16 g_b7 u17 u18 A20 (Ne.symm ne_b4_b7)) (by decide) (by decide) (by decide) (by decide) e13 (g := (mkF m 332 (Lak2m00_13 p0 p1 p2 p3 p4 b4 b7) [(.ref b7)])) rfl (by rw [hml]; rfl) pd_2 rfl rfl (by show 2 * 0 + _ ≤ _; exact Nat.le_of_eq rfl) (hb hby at_332)
  have N19 := Fr.app N13 N19q
  obtain ⟨h19, e19⟩ : ∃ z, T19.heap = z := ⟨_, rfl⟩
  rw [e19] at u21
  have K19 := u21
  have Z19 := Nat.le_trans Z13 K19.1
  rw [show (nar .boolean (v4_17 (2 : Int32) 2)) = (1 : Int32) from by decide] at st19
  refine OwnFin.step (g' := (mkF m 335 (Lak2m00_13 p0 p1 p2 p3 p4 b4 b7) [(.int (1 : Int32))])) X19 (fun t k => st19 _ k) ?_
  refine OwnFin.retNar X19 (by simp) (hb hby at_335) (by decide) (by decide) ?_
  exact ⟨rfl, N19⟩
set_option maxRecDepth 65536 in
set_option maxHeartbeats 40000000 in
theorem rm0k2m0 (l : Launch) (Z : State) (a0 : Array Value) (hw : ∀ d ∈ tables_1, d.before a0 Z = true) (ws : List Jvm.Cond) (p0 : Int32) (p1 : Int32) (p2 : Int32) (p3 : Int32) (p4 : Int32) (h0 : Heap) (n0 : Nat) (Z0 : n0 ≤ h0.size) (hk : vk2m00_8 p2 = (2 : Int32)) (hm : vk2m00_22 p4 = (0 : Int32)) :
    MetFree l x (head1 (Jvm.Cond.code x code maxLocals ret :: ws) room_1) (fun a U => a = #[(.int p0), (.int p1), (.int p2), (.int p3), (.int p4)] ∧ Z.Warmed39 U.vm ∧ U.heap = h0) (fun _ _ _ _ _ => True) (fun _ U o U' => ∃ v L, o = .returned v ∧ (LQ n0) v U'.heap L ∧ FrameEnd U o U' L room_1.cells room_1.slots) :=
  own_met (ret := ret) (Q := (LQ n0)) (plainFor_of_name pn_0) (fun m => ef_0 m p0 p1 p2 p3 p4) (fun p e s m below meth c s₁ X hx hby hml hown hnm hZ e0 => j0k2m0 X hx hZ hw hby hml hown hnm e0 (Fr.nil n0) Z0 p0 p1 p2 p3 p4 hk hm)
def vk2m10_8 (p2 : Int32) : Int32 := (((p2 &&& (2147483647 : Int32)) % (5 : Int32)) + (1 : Int32))
def vk2m10_22 (p4 : Int32) : Int32 := (if (p4 &&& (1 : Int32)) = (0 : Int32) then (0 : Int32) else (1 : Int32))
def vk2m10_28 (p0 : Int32) : Int32 := (p0 &&& (127 : Int32))
def vk2m10_37 (p0 : Int32) : Int32 := ((XT.ushr p0 (8 : Int32)) &&& (127 : Int32))
def vk2m10_46 (p0 : Int32) : Int32 := ((XT.ushr p0 (16 : Int32)) &&& (127 : Int32))
def vk2m10_55 (p0 : Int32) : Int32 := ((XT.ushr p0 (24 : Int32)) &&& (127 : Int32))
def vk2m10_61 (p1 : Int32) : Int32 := (p1 &&& (7 : Int32))
def vk2m10_67 (p3 : Int32) : Int32 := (p3 &&& (127 : Int32))
def Gk2m10_108 (p0 : Int32) : Nat → Int32 := (updN (fun _ => (0 : Int32)) ((0 : Int32)).toNatClampNeg (nar .byte (((vk2m10_28 p0) ||| (128 : Int32)).toInt8.toInt32)))
def Gk2m10_136 (p0 : Int32) : Nat → Int32 := (updN (Gk2m10_108 p0) ((1 : Int32)).toNatClampNeg (nar .byte ((vk2m10_37 p0).toInt8.toInt32)))
def Gk2m10_218 (p0 : Int32) (p3 : Int32) : Nat → Int32 := (updN (Gk2m10_136 p0) ((2 : Int32)).toNatClampNeg (nar .byte ((vk2m10_67 p3).toInt8.toInt32)))
def vk2m10_222 (p0 : Int32) : Int64 := ((vk2m10_28 p0).toInt64)
def vk2m10_240 (p0 : Int32) : Int64 := ((vk2m10_222 p0) + (((vk2m10_37 p0).toInt64) * (128 : Int64)))
def vk2m10_312 (p0 : Int32) (p3 : Int32) : Int32 := (va0k23_77b (Gk2m10_218 p0 p3))
def vk2m10_351 (p0 : Int32) (p3 : Int32) : Int32 := (va2k13_77 (Gk2m10_218 p0 p3))
theorem exhlnk2m10_309 (p2 : Int32) (p4 : Int32) (hk : vk2m10_8 p2 = (2 : Int32)) (hm : vk2m10_22 p4 = (1 : Int32)) : 2 ≤ 3 ∧ 3 < 100 := by decide
theorem exhb0k2m10_309 (p0 : Int32) (p3 : Int32) (p2 : Int32) (p4 : Int32) (hk : vk2m10_8 p2 = (2 : Int32)) (hm : vk2m10_22 p4 = (1 : Int32)) : 128 ≤ (((Gk2m10_218 p0 p3) 0) &&& 255).toInt := by
  have b0 : 0 ≤ (vk2m10_28 p0).toInt ∧ (vk2m10_28 p0).toInt < 128 := own_b127 _
  have h0 : (((Gk2m10_218 p0 p3) 0) &&& 255).toInt = (vk2m10_28 p0).toInt + 128 := own_hi b0
  have b1 : 0 ≤ (vk2m10_37 p0).toInt ∧ (vk2m10_37 p0).toInt < 128 := own_b127 _
  have h1 : (((Gk2m10_218 p0 p3) 1) &&& 255).toInt = (vk2m10_37 p0).toInt := own_lo ⟨b1.1, Int.lt_of_lt_of_le b1.2 (by decide)⟩
  omega
theorem exhb1k2m10_309 (p0 : Int32) (p3 : Int32) (p2 : Int32) (p4 : Int32) (hk : vk2m10_8 p2 = (2 : Int32)) (hm : vk2m10_22 p4 = (1 : Int32)) : (((Gk2m10_218 p0 p3) 1) &&& 255).toInt < 128 := by
  have b0 : 0 ≤ (vk2m10_28 p0).toInt ∧ (vk2m10_28 p0).toInt < 128 := own_b127 _
  have h0 : (((Gk2m10_218 p0 p3) 0) &&& 255).toInt = (vk2m10_28 p0).toInt + 128 := own_hi b0
  have b1 : 0 ≤ (vk2m10_37 p0).toInt ∧ (vk2m10_37 p0).toInt < 128 := own_b127 _
  have h1 : (((Gk2m10_218 p0 p3) 1) &&& 255).toInt = (vk2m10_37 p0).toInt := own_lo ⟨b1.1, Int.lt_of_lt_of_le b1.2 (by decide)⟩
  omega
theorem brk2m10_320 (p0 : Int32) (p3 : Int32) (p2 : Int32) (p4 : Int32) (hk : vk2m10_8 p2 = (2 : Int32)) (hm : vk2m10_22 p4 = (1 : Int32)) : ((vk2m10_312 p0 p3).toInt64) = (vk2m10_240 p0) := by
  have b0 : 0 ≤ (vk2m10_28 p0).toInt ∧ (vk2m10_28 p0).toInt < 128 := own_b127 _
  have h0 : (((Gk2m10_218 p0 p3) 0) &&& 255).toInt = (vk2m10_28 p0).toInt + 128 := own_hi b0
  have b1 : 0 ≤ (vk2m10_37 p0).toInt ∧ (vk2m10_37 p0).toInt < 128 := own_b127 _
  have h1 : (((Gk2m10_218 p0 p3) 1) &&& 255).toInt = (vk2m10_37 p0).toInt := own_lo ⟨b1.1, Int.lt_of_lt_of_le b1.2 (by decide)⟩
  have e0 : (vk2m10_222 p0).toInt = (vk2m10_28 p0).toInt := Jvm.Kit.i64_of_i32 _
  have m0 : (((Gk2m10_218 p0 p3) 0) &&& 255).toInt % 128 = (vk2m10_28 p0).toInt := own_m7 h0 ⟨b0.1, Int.lt_of_lt_of_le b0.2 (by decide)⟩
  have m1 : (((Gk2m10_218 p0 p3) 1) &&& 255).toInt % 128 = (vk2m10_37 p0).toInt := own_m7' h1 ⟨b1.1, Int.lt_of_lt_of_le b1.2 (by decide)⟩
  have e1 : (vk2m10_240 p0).toInt = (vk2m10_222 p0).toInt + (vk2m10_37 p0).toInt * 128 ∧ 0 ≤ (vk2m10_240 p0).toInt ∧ (vk2m10_240 p0).toInt < 16384 := own_ex1 _ _ (by rw [e0]; exact b0) ⟨b1.1, Int.lt_of_lt_of_le b1.2 (by decide)⟩
  have r : (vk2m10_312 p0 p3).toInt = _ := own_va0k23_77b (Gk2m10_218 p0 p3)
  rw [i64eq, Jvm.Kit.i64_of_i32, r, m0, m1, e1.1, e0, Int.mul_one]
theorem exhlnk2m10_348 (p2 : Int32) (p4 : Int32) (hk : vk2m10_8 p2 = (2 : Int32)) (hm : vk2m10_22 p4 = (1 : Int32)) : 3 ≤ 3 ∧ 3 < 100 := by decide
theorem exhb0k2m10_348 (p0 : Int32) (p3 : Int32) (p2 : Int32) (p4 : Int32) (hk : vk2m10_8 p2 = (2 : Int32)) (hm : vk2m10_22 p4 = (1 : Int32)) : (((Gk2m10_218 p0 p3) 2) &&& 255).toInt < 128 := by
  have bc : 0 ≤ (vk2m10_67 p3).toInt ∧ (vk2m10_67 p3).toInt < 128 := own_b127 _
  have hc : (((Gk2m10_218 p0 p3) 2) &&& 255).toInt = (vk2m10_67 p3).toInt := own_lo bc
  omega
theorem brk2m10_357 (p0 : Int32) (p3 : Int32) (p2 : Int32) (p4 : Int32) (hk : vk2m10_8 p2 = (2 : Int32)) (hm : vk2m10_22 p4 = (1 : Int32)) : (vk2m10_351 p0 p3) = (vk2m10_67 p3) := by
  have bc : 0 ≤ (vk2m10_67 p3).toInt ∧ (vk2m10_67 p3).toInt < 128 := own_b127 _
  have hc : (((Gk2m10_218 p0 p3) 2) &&& 255).toInt = (vk2m10_67 p3).toInt := own_lo bc
  have r : (vk2m10_351 p0 p3).toInt = _ := own_va2k13_77 (Gk2m10_218 p0 p3)
  rw [i32eq, r]; omega
abbrev Lak2m10_0 (p0 : Int32) (p1 : Int32) (p2 : Int32) (p3 : Int32) (p4 : Int32) : Array Slot := #[.val (.int p0), .val (.int p1), .val (.int p2), .val (.int p3), .val (.int p4), .unset, .unset, .unset, .unset, .unset, .unset, .unset, .unset, .unset, .unset, .unset, .unset, .unset, .unset]
abbrev Lak2m10_1 (p0 : Int32) (p1 : Int32) (p2 : Int32) (p3 : Int32) (p4 : Int32) : Array Slot := #[.val (.int p0), .val (.int p1), .val (.int p2), .val (.int p3), .val (.int p4), .val (.int (2 : Int32)), .unset, .unset, .unset, .unset, .unset, .unset, .unset, .unset, .unset, .unset, .unset, .unset, .unset]
abbrev Lak2m10_2 (p0 : Int32) (p1 : Int32) (p2 : Int32) (p3 : Int32) (p4 : Int32) : Array Slot := #[.val (.int p0), .val (.int p1), .val (.int p2), .val (.int p3), .val (.int p4), .val (.int (2 : Int32)), .val (.int (1 : Int32)), .unset, .unset, .unset, .unset, .unset, .unset, .unset, .unset, .unset, .unset, .unset, .unset]
abbrev Lak2m10_3 (p0 : Int32) (p1 : Int32) (p2 : Int32) (p3 : Int32) (p4 : Int32) : Array Slot := #[.val (.int p0), .val (.int p1), .val (.int p2), .val (.int p3), .val (.int p4), .val (.int (2 : Int32)), .val (.int (1 : Int32)), .val (.int (vk2m10_28 p0)), .unset, .unset, .unset, .unset, .unset, .unset, .unset, .unset, .unset, .unset, .unset]
abbrev Lak2m10_4 (p0 : Int32) (p1 : Int32) (p2 : Int32) (p3 : Int32) (p4 : Int32) : Array Slot := #[.val (.int p0), .val (.int p1), .val (.int p2), .val (.int p3), .val (.int p4), .val (.int (2 : Int32)), .val (.int (1 : Int32)), .val (.int (vk2m10_28 p0)), .val (.int (vk2m10_37 p0)), .unset, .unset, .unset, .unset, .unset, .unset, .unset, .unset, .unset, .unset]
abbrev Lak2m10_5 (p0 : Int32) (p1 : Int32) (p2 : Int32) (p3 : Int32) (p4 : Int32) : Array Slot := #[.val (.int p0), .val (.int p1), .val (.int p2), .val (.int p3), .val (.int p4), .val (.int (2 : Int32)), .val (.int (1 : Int32)), .val (.int (vk2m10_28 p0)), .val (.int (vk2m10_37 p0)), .val (.int (vk2m10_46 p0)), .unset, .unset, .unset, .unset, .unset, .unset, .unset, .unset, .unset]
abbrev Lak2m10_6 (p0 : Int32) (p1 : Int32) (p2 : Int32) (p3 : Int32) (p4 : Int32) : Array Slot := #[.val (.int p0), .val (.int p1), .val (.int p2), .val (.int p3), .val (.int p4), .val (.int (2 : Int32)), .val (.int (1 : Int32)), .val (.int (vk2m10_28 p0)), .val (.int (vk2m10_37 p0)), .val (.int (vk2m10_46 p0)), .val (.int (vk2m10_55 p0)), .unset, .unset, .unset, .unset, .unset, .unset, .unset, .unset]
abbrev Lak2m10_7 (p0 : Int32) (p1 : Int32) (p2 : Int32) (p3 : Int32) (p4 : Int32) : Array Slot := #[.val (.int p0), .val (.int p1), .val (.int p2), .val (.int p3), .val (.int p4), .val (.int (2 : Int32)), .val (.int (1 : Int32)), .val (.int (vk2m10_28 p0)), .val (.int (vk2m10_37 p0)), .val (.int (vk2m10_46 p0)), .val (.int (vk2m10_55 p0)), .val (.int (vk2m10_61 p1)), .unset, .unset, .unset, .unset, .unset, .unset, .unset]
abbrev Lak2m10_8 (p0 : Int32) (p1 : Int32) (p2 : Int32) (p3 : Int32) (p4 : Int32) : Array Slot := #[.val (.int p0), .val (.int p1), .val (.int p2), .val (.int p3), .val (.int p4), .val (.int (2 : Int32)), .val (.int (1 : Int32)), .val (.int (vk2m10_28 p0)), .val (.int (vk2m10_37 p0)), .val (.int (vk2m10_46 p0)), .val (.int (vk2m10_55 p0)), .val (.int (vk2m10_61 p1)), .val (.int (vk2m10_67 p3)), .unset, .unset, .unset, .unset, .unset, .unset]
abbrev Lak2m10_9 (p0 : Int32) (p1 : Int32) (p2 : Int32) (p3 : Int32) (p4 : Int32) (b4 : Addr) : Array Slot := #[.val (.int p0), .val (.int p1), .val (.int p2), .val (.int p3), .val (.int p4), .val (.int (2 : Int32)), .val (.int (1 : Int32)), .val (.int (vk2m10_28 p0)), .val (.int (vk2m10_37 p0)), .val (.int (vk2m10_46 p0)), .val (.int (vk2m10_55 p0)), .val (.int (vk2m10_61 p1)), .val (.int (vk2m10_67 p3)), .val (.ref b4), .unset, .unset, .unset, .unset, .unset]
abbrev Lak2m10_10 (p0 : Int32) (p1 : Int32) (p2 : Int32) (p3 : Int32) (p4 : Int32) (b4 : Addr) : Array Slot := #[.val (.int p0), .val (.int p1), .val (.int p2), .val (.int p3), .val (.int p4), .val (.int (2 : Int32)), .val (.int (1 : Int32)), .val (.int (vk2m10_28 p0)), .val (.int (vk2m10_37 p0)), .val (.int (vk2m10_46 p0)), .val (.int (vk2m10_55 p0)), .val (.int (vk2m10_61 p1)), .val (.int (vk2m10_67 p3)), .val (.ref b4), .val (.long (vk2m10_222 p0)), .second, .unset, .unset, .unset]
abbrev Lak2m10_11 (p0 : Int32) (p1 : Int32) (p2 : Int32) (p3 : Int32) (p4 : Int32) (b4 : Addr) : Array Slot := #[.val (.int p0), .val (.int p1), .val (.int p2), .val (.int p3), .val (.int p4), .val (.int (2 : Int32)), .val (.int (1 : Int32)), .val (.int (vk2m10_28 p0)), .val (.int (vk2m10_37 p0)), .val (.int (vk2m10_46 p0)), .val (.int (vk2m10_55 p0)), .val (.int (vk2m10_61 p1)), .val (.int (vk2m10_67 p3)), .val (.ref b4), .val (.long (vk2m10_240 p0)), .second, .unset, .unset, .unset]
abbrev Lak2m10_12 (p0 : Int32) (p1 : Int32) (p2 : Int32) (p3 : Int32) (p4 : Int32) (b4 : Addr) (b8 : Addr) : Array Slot := #[.val (.int p0), .val (.int p1), .val (.int p2), .val (.int p3), .val (.int p4), .val (.int (2 : Int32)), .val (.int (1 : Int32)), .val (.int (vk2m10_28 p0)), .val (.int (vk2m10_37 p0)), .val (.int (vk2m10_46 p0)), .val (.int (vk2m10_55 p0)), .val (.int (vk2m10_61 p1)), .val (.int (vk2m10_67 p3)), .val (.ref b4), .val (.long (vk2m10_240 p0)), .second, .val (.ref b8), .unset, .unset]
abbrev Lak2m10_13 (p0 : Int32) (p1 : Int32) (p2 : Int32) (p3 : Int32) (p4 : Int32) (b4 : Addr) (b8 : Addr) : Array Slot := #[.val (.int p0), .val (.int p1), .val (.int p2), .val (.int p3), .val (.int p4), .val (.int (2 : Int32)), .val (.int (1 : Int32)), .val (.int (vk2m10_28 p0)), .val (.int (vk2m10_37 p0)), .val (.int (vk2m10_46 p0)), .val (.int (vk2m10_55 p0)), .val (.int (vk2m10_61 p1)), .val (.int (vk2m10_67 p3)), .val (.ref b4), .val (.long (vk2m10_240 p0)), .second, .val (.ref b8), .val (.int (vk2m10_312 p0 p3)), .unset]
abbrev Lak2m10_14 (p0 : Int32) (p1 : Int32) (p2 : Int32) (p3 : Int32) (p4 : Int32) (b4 : Addr) (b8 : Addr) : Array Slot := #[.val (.int p0), .val (.int p1), .val (.int p2), .val (.int p3), .val (.int p4), .val (.int (2 : Int32)), .val (.int (1 : Int32)), .val (.int (vk2m10_28 p0)), .val (.int (vk2m10_37 p0)), .val (.int (vk2m10_46 p0)), .val (.int (vk2m10_55 p0)), .val (.int (vk2m10_61 p1)), .val (.int (vk2m10_67 p3)), .val (.ref b4), .val (.long (vk2m10_240 p0)), .second, .val (.ref b8), .val (.int (vk2m10_312 p0 p3)), .val (.int (vk2m10_351 p0 p3))]
set_option maxRecDepth 65536 in
set_option maxHeartbeats 40000000 in
theorem j0k2m1 {p : Program} {l : Launch} {e : Env} {s : State} {m : MethodId} {args : Array Value} {below : List Frame} {meth : Method} {c : Code} {T0 : State} {locs : List Loc} {Z : State} {a0 : Array Value} {h0 : Heap} {n0 : Nat}
    (X0 : Stand p l e room_1 s m args below meth c T0 locs 0 0) (hx : p.tables.exec = Jvm.exec) (hZ : Z.Warmed39 s.vm) (hw : ∀ d ∈ tables_1, d.before a0 Z = true) (hby : c.code = code) (hml : c.maxLocals = 19) (hown : s.vm.findClass "com/example/faden/faden/rank/RecordReaderNumberPinLaw" = some m.cls) (hnm : meth.name = "law") (e0 : T0.heap = h0) (N0 : Fr n0 locs) (Z0 : n0 ≤ h0.size) (p0 : Int32) (p1 : Int32) (p2 : Int32) (p3 : Int32) (p4 : Int32) (hk : vk2m10_8 p2 = (2 : Int32)) (hm : vk2m10_22 p4 = (1 : Int32)) :
    OwnFin X0 (some .boolean) (LQ n0) room_1.cells room_1.slots (mkF m 0 #[.val (.int p0), .val (.int p1), .val (.int p2), .val (.int p3), .val (.int p4), .unset, .unset, .unset, .unset, .unset, .unset, .unset, .unset, .unset, .unset, .unset, .unset, .unset, .unset] []) := by
  refine OwnFin.step (g' := (mkF m 1 (Lak2m10_0 p0 p1 p2 p3 p4) [(.int p2)])) X0 (fun t k => XS.iloadN X0.here hx rfl (hb hby at_0) rfl k) ?_
  refine OwnFin.step (g' := (mkF m 3 (Lak2m10_0 p0 p1 p2 p3 p4) [(.int (2147483647 : Int32)), (.int p2)])) X0 (fun t k => X0.ldcInt hx hown (mvT hZ (hw _ (wm 0 rfl))) (g := (mkF m 1 (Lak2m10_0 p0 p1 p2 p3 p4) [(.int p2)])) rfl (hb hby at_1) _ k) ?_
  refine OwnFin.step (g' := (mkF m 4 (Lak2m10_0 p0 p1 p2 p3 p4) [(.int (p2 &&& (2147483647 : Int32)))])) X0 (fun t k => XS.iand X0.here hx rfl (hb hby at_3) rfl k) ?_
  refine OwnFin.step (g' := (mkF m 5 (Lak2m10_0 p0 p1 p2 p3 p4) [(.int (5 : Int32)), (.int (p2 &&& (2147483647 : Int32)))])) X0 (fun t k => XS.iconst X0.here hx rfl (hb hby at_4) k) ?_
  refine OwnFin.step (g' := (mkF m 6 (Lak2m10_0 p0 p1 p2 p3 p4) [(.int ((p2 &&& (2147483647 : Int32)) % (5 : Int32)))])) X0 (fun t k => iremM (g := (mkF m 5 (Lak2m10_0 p0 p1 p2 p3 p4) [(.int (5 : Int32)), (.int (p2 &&& (2147483647 : Int32)))])) X0 hx rfl (hb hby at_5) rfl (by decide) k) ?_
  refine OwnFin.step (g' := (mkF m 7 (Lak2m10_0 p0 p1 p2 p3 p4) [(.int (1 : Int32)), (.int ((p2 &&& (2147483647 : Int32)) % (5 : Int32)))])) X0 (fun t k => XS.iconst X0.here hx rfl (hb hby at_6) k) ?_
  refine OwnFin.step (g' := (mkF m 8 (Lak2m10_0 p0 p1 p2 p3 p4) [(.int (((p2 &&& (2147483647 : Int32)) % (5 : Int32)) + (1 : Int32)))])) X0 (fun t k => XS.iadd X0.here hx rfl (hb hby at_7) rfl k) ?_
  refine OwnFin.step (g' := (mkF m 10 #[.val (.int p0), .val (.int p1), .val (.int p2), .val (.int p3), .val (.int p4), .val (.int (vk2m10_8 p2)), .unset, .unset, .unset, .unset, .unset, .unset, .unset, .unset, .unset, .unset, .unset, .unset, .unset] [])) X0 (fun t k => XS.istore X0.here hx rfl (hb hby at_8) rfl (l' := #[.val (.int p0), .val (.int p1), .val (.int p2), .val (.int p3), .val (.int p4), .val (.int (vk2m10_8 p2)), .unset, .unset, .unset, .unset, .unset, .unset, .unset, .unset, .unset, .unset, .unset, .unset, .unset]) rfl k) ?_
  rw [hk]
  refine OwnFin.step (g' := (mkF m 12 (Lak2m10_1 p0 p1 p2 p3 p4) [(.int p4)])) X0 (fun t k => XS.iload X0.here hx rfl (hb hby at_10) rfl k) ?_
  refine OwnFin.step (g' := (mkF m 13 (Lak2m10_1 p0 p1 p2 p3 p4) [(.int (1 : Int32)), (.int p4)])) X0 (fun t k => XS.iconst X0.here hx rfl (hb hby at_12) k) ?_
  refine OwnFin.step (g' := (mkF m 14 (Lak2m10_1 p0 p1 p2 p3 p4) [(.int (p4 &&& (1 : Int32)))])) X0 (fun t k => XS.iand X0.here hx rfl (hb hby at_13) rfl k) ?_
  refine OwnFin.step (g' := (mkF m 22 #[.val (.int p0), .val (.int p1), .val (.int p2), .val (.int p3), .val (.int p4), .val (.int (2 : Int32)), .unset, .unset, .unset, .unset, .unset, .unset, .unset, .unset, .unset, .unset, .unset, .unset, .unset] [(.int (vk2m10_22 p4))])) X0 (fun t k => ?_) ?_
  · show Steps p.tables e below (T0.setTop (mkF m 14 (Lak2m10_1 p0 p1 p2 p3 p4) [(.int (p4 &&& (1 : Int32)))])) t
    by_cases hc1 : (p4 &&& (1 : Int32)) = (0 : Int32)
    · skip
      refine XS.ifYes X0.here hx rfl (pc0 := 14) (pc' := 21) rfl (hb hby at_14) rfl ((if0 _ _).trans (teq hc1).1) (by decide) (by decide) ?_
      show Steps p.tables e below (T0.setTop (mkF m 21 (Lak2m10_1 p0 p1 p2 p3 p4) [])) t
      refine XS.iconst X0.here hx rfl (hb hby at_21) ?_
      show Steps p.tables e below (T0.setTop (mkF m 22 (Lak2m10_1 p0 p1 p2 p3 p4) [(.int (0 : Int32))])) t
      have qq2 : (vk2m10_22 p4) = (0 : Int32) := by
        show (if (p4 &&& (1 : Int32)) = (0 : Int32) then (0 : Int32) else (1 : Int32)) = (0 : Int32)
        simp only [if_pos hc1]
      rw [qq2] at k
      exact k
    · skip
      refine XS.ifNo X0.here hx rfl (hb hby at_14) rfl ((if0 _ _).trans (feq hc1).1) ?_
      show Steps p.tables e below (T0.setTop (mkF m 17 (Lak2m10_1 p0 p1 p2 p3 p4) [])) t
      refine XS.iconst X0.here hx rfl (hb hby at_17) ?_
      show Steps p.tables e below (T0.setTop (mkF m 18 (Lak2m10_1 p0 p1 p2 p3 p4) [(.int (1 : Int32))])) t
      refine XS.goto X0.here hx rfl (pc0 := 18) (pc' := 22) rfl (hb hby at_18) (by decide) (by decide) ?_
      show Steps p.tables e below (T0.setTop (mkF m 22 (Lak2m10_1 p0 p1 p2 p3 p4) [(.int (1 : Int32))])) t
      have qq3 : (vk2m10_22 p4) = (1 : Int32) := by
        show (if (p4 &&& (1 : Int32)) = (0 : Int32) then (0 : Int32) else (1 : Int32)) = (1 : Int32)
        simp only [if_neg hc1]
      rw [qq3] at k
      exact k
  refine OwnFin.step (g' := (mkF m 24 #[.val (.int p0), .val (.int p1), .val (.int p2), .val (.int p3), .val (.int p4), .val (.int (2 : Int32)), .val (.int (vk2m10_22 p4)), .unset, .unset, .unset, .unset, .unset, .unset, .unset, .unset, .unset, .unset, .unset, .unset] [])) X0 (fun t k => XS.istore X0.here hx rfl (hb hby at_22) rfl (l' := #[.val (.int p0), .val (.int p1), .val (.int p2), .val (.int p3), .val (.int p4), .val (.int (2 : Int32)), .val (.int (vk2m10_22 p4)), .unset, .unset, .unset, .unset, .unset, .unset, .unset, .unset, .unset, .unset, .unset, .unset]) rfl k) ?_
  rw [hm]
  refine OwnFin.step (g' := (mkF m 25 (Lak2m10_2 p0 p1 p2 p3 p4) [(.int p0)])) X0 (fun t k => XS.iloadN X0.here hx rfl (hb hby at_24) rfl k) ?_
  refine OwnFin.step (g' := (mkF m 27 (Lak2m10_2 p0 p1 p2 p3 p4) [(.int (127 : Int32)), (.int p0)])) X0 (fun t k => XS.bipush X0.here hx rfl (hb hby at_25) k) ?_
  refine OwnFin.step (g' := (mkF m 28 (Lak2m10_2 p0 p1 p2 p3 p4) [(.int (p0 &&& (127 : Int32)))])) X0 (fun t k => XS.iand X0.here hx rfl (hb hby at_27) rfl k) ?_
  refine OwnFin.step (g' := (mkF m 30 (Lak2m10_3 p0 p1 p2 p3 p4) [])) X0 (fun t k => XS.istore X0.here hx rfl (hb hby at_28) rfl (l' := (Lak2m10_3 p0 p1 p2 p3 p4)) rfl k) ?_
  refine OwnFin.step (g' := (mkF m 31 (Lak2m10_3 p0 p1 p2 p3 p4) [(.int p0)])) X0 (fun t k => XS.iloadN X0.here hx rfl (hb hby at_30) rfl k) ?_
  refine OwnFin.step (g' := (mkF m 33 (Lak2m10_3 p0 p1 p2 p3 p4) [(.int (8 : Int32)), (.int p0)])) X0 (fun t k => XS.bipush X0.here hx rfl (hb hby at_31) k) ?_
  refine OwnFin.step (g' := (mkF m 34 (Lak2m10_3 p0 p1 p2 p3 p4) [(.int (XT.ushr p0 (8 : Int32)))])) X0 (fun t k => XT.iushr X0.here hx rfl (hb hby at_33) rfl k) ?_
  refine OwnFin.step (g' := (mkF m 36 (Lak2m10_3 p0 p1 p2 p3 p4) [(.int (127 : Int32)), (.int (XT.ushr p0 (8 : Int32)))])) X0 (fun t k => XS.bipush X0.here hx rfl (hb hby at_34) k) ?_
  refine OwnFin.step (g' := (mkF m 37 (Lak2m10_3 p0 p1 p2 p3 p4) [(.int ((XT.ushr p0 (8 : Int32)) &&& (127 : Int32)))])) X0 (fun t k => XS.iand X0.here hx rfl (hb hby at_36) rfl k) ?_
  refine OwnFin.step (g' := (mkF m 39 (Lak2m10_4 p0 p1 p2 p3 p4) [])) X0 (fun t k => XS.istore X0.here hx rfl (hb hby at_37) rfl (l' := (Lak2m10_4 p0 p1 p2 p3 p4)) rfl k) ?_
  refine OwnFin.step (g' := (mkF m 40 (Lak2m10_4 p0 p1 p2 p3 p4) [(.int p0)])) X0 (fun t k => XS.iloadN X0.here hx rfl (hb hby at_39) rfl k) ?_
  refine OwnFin.step (g' := (mkF m 42 (Lak2m10_4 p0 p1 p2 p3 p4) [(.int (16 : Int32)), (.int p0)])) X0 (fun t k => XS.bipush X0.here hx rfl (hb hby at_40) k) ?_
  refine OwnFin.step (g' := (mkF m 43 (Lak2m10_4 p0 p1 p2 p3 p4) [(.int (XT.ushr p0 (16 : Int32)))])) X0 (fun t k => XT.iushr X0.here hx rfl (hb hby at_42) rfl k) ?_
  refine OwnFin.step (g' := (mkF m 45 (Lak2m10_4 p0 p1 p2 p3 p4) [(.int (127 : Int32)), (.int (XT.ushr p0 (16 : Int32)))])) X0 (fun t k => XS.bipush X0.here hx rfl (hb hby at_43) k) ?_
  refine OwnFin.step (g' := (mkF m 46 (Lak2m10_4 p0 p1 p2 p3 p4) [(.int ((XT.ushr p0 (16 : Int32)) &&& (127 : Int32)))])) X0 (fun t k => XS.iand X0.here hx rfl (hb hby at_45) rfl k) ?_
  refine OwnFin.step (g' := (mkF m 48 (Lak2m10_5 p0 p1 p2 p3 p4) [])) X0 (fun t k => XS.istore X0.here hx rfl (hb hby at_46) rfl (l' := (Lak2m10_5 p0 p1 p2 p3 p4)) rfl k) ?_
  refine OwnFin.step (g' := (mkF m 49 (Lak2m10_5 p0 p1 p2 p3 p4) [(.int p0)])) X0 (fun t k => XS.iloadN X0.here hx rfl (hb hby at_48) rfl k) ?_
  refine OwnFin.step (g' := (mkF m 51 (Lak2m10_5 p0 p1 p2 p3 p4) [(.int (24 : Int32)), (.int p0)])) X0 (fun t k => XS.bipush X0.here hx rfl (hb hby at_49) k) ?_
  refine OwnFin.step (g' := (mkF m 52 (Lak2m10_5 p0 p1 p2 p3 p4) [(.int (XT.ushr p0 (24 : Int32)))])) X0 (fun t k => XT.iushr X0.here hx rfl (hb hby at_51) rfl k) ?_
  refine OwnFin.step (g' := (mkF m 54 (Lak2m10_5 p0 p1 p2 p3 p4) [(.int (127 : Int32)), (.int (XT.ushr p0 (24 : Int32)))])) X0 (fun t k => XS.bipush X0.here hx rfl (hb hby at_52) k) ?_
  refine OwnFin.step (g' := (mkF m 55 (Lak2m10_5 p0 p1 p2 p3 p4) [(.int ((XT.ushr p0 (24 : Int32)) &&& (127 : Int32)))])) X0 (fun t k => XS.iand X0.here hx rfl (hb hby at_54) rfl k) ?_
  refine OwnFin.step (g' := (mkF m 57 (Lak2m10_6 p0 p1 p2 p3 p4) [])) X0 (fun t k => XS.istore X0.here hx rfl (hb hby at_55) rfl (l' := (Lak2m10_6 p0 p1 p2 p3 p4)) rfl k) ?_
  refine OwnFin.step (g' := (mkF m 58 (Lak2m10_6 p0 p1 p2 p3 p4) [(.int p1)])) X0 (fun t k => XS.iloadN X0.here hx rfl (hb hby at_57) rfl k) ?_
  refine OwnFin.step (g' := (mkF m 60 (Lak2m10_6 p0 p1 p2 p3 p4) [(.int (7 : Int32)), (.int p1)])) X0 (fun t k => XS.bipush X0.here hx rfl (hb hby at_58) k) ?_
  refine OwnFin.step (g' := (mkF m 61 (Lak2m10_6 p0 p1 p2 p3 p4) [(.int (p1 &&& (7 : Int32)))])) X0 (fun t k => XS.iand X0.here hx rfl (hb hby at_60) rfl k) ?_
  refine OwnFin.step (g' := (mkF m 63 (Lak2m10_7 p0 p1 p2 p3 p4) [])) X0 (fun t k => XS.istore X0.here hx rfl (hb hby at_61) rfl (l' := (Lak2m10_7 p0 p1 p2 p3 p4)) rfl k) ?_
  refine OwnFin.step (g' := (mkF m 64 (Lak2m10_7 p0 p1 p2 p3 p4) [(.int p3)])) X0 (fun t k => XS.iloadN X0.here hx rfl (hb hby at_63) rfl k) ?_
  refine OwnFin.step (g' := (mkF m 66 (Lak2m10_7 p0 p1 p2 p3 p4) [(.int (127 : Int32)), (.int p3)])) X0 (fun t k => XS.bipush X0.here hx rfl (hb hby at_64) k) ?_
  refine OwnFin.step (g' := (mkF m 67 (Lak2m10_7 p0 p1 p2 p3 p4) [(.int (p3 &&& (127 : Int32)))])) X0 (fun t k => XS.iand X0.here hx rfl (hb hby at_66) rfl k) ?_
  refine OwnFin.step (g' := (mkF m 69 (Lak2m10_8 p0 p1 p2 p3 p4) [])) X0 (fun t k => XS.istore X0.here hx rfl (hb hby at_67) rfl (l' := (Lak2m10_8 p0 p1 p2 p3 p4)) rfl k) ?_
  refine OwnFin.step (g' := (mkF m 71 (Lak2m10_8 p0 p1 p2 p3 p4) [(.int (1 : Int32))])) X0 (fun t k => XS.iload X0.here hx rfl (hb hby at_69) rfl k) ?_
  refine OwnFin.step (g' := (mkF m 74 (Lak2m10_8 p0 p1 p2 p3 p4) [])) X0 (fun t k => XS.ifNo X0.here hx rfl (hb hby at_71) rfl ((if0 _ _).trans (feq (show ¬ ((1 : Int32) = (0 : Int32)) by first | decide | exact Int32.lt_irrefl _ | exact Int64.lt_irrefl _)).1) k) ?_
  refine OwnFin.step (g' := (mkF m 76 (Lak2m10_8 p0 p1 p2 p3 p4) [(.int (2 : Int32))])) X0 (fun t k => XS.iload X0.here hx rfl (hb hby at_74) rfl k) ?_
  refine OwnFin.step (g' := (mkF m 77 (Lak2m10_8 p0 p1 p2 p3 p4) [(.int (1 : Int32)), (.int (2 : Int32))])) X0 (fun t k => XS.iconst X0.here hx rfl (hb hby at_76) k) ?_
  refine OwnFin.step (g' := (mkF m 78 (Lak2m10_8 p0 p1 p2 p3 p4) [(.int (3 : Int32))])) X0 (fun t k => XS.iadd X0.here hx rfl (hb hby at_77) rfl k) ?_
  refine OwnFin.step (g' := (mkF m 83 (Lak2m10_8 p0 p1 p2 p3 p4) [(.int (3 : Int32))])) X0 (fun t k => XS.goto X0.here hx rfl (pc0 := 78) (pc' := 83) rfl (hb hby at_78) (by decide) (by decide) k) ?_
  obtain ⟨T4, h4, b4, X4, e4, y4, K4, A4, st4⟩ := own_new X0 hx hZ (hw _ (wm 1 rfl)) e0 (g := (mkF m 83 (Lak2m10_8 p0 p1 p2 p3 p4) [(.int (3 : Int32))])) rfl (hb hby at_83) rfl (by decide) (cap := 3) (by decide) (by decide) (by decide) (by decide)
  have B4 : Ary Z h4 b4 .byte 3 (fun i => .int ((fun _ => (0 : Int32)) i)) := A4
  have g_b4 : n0 ≤ b4 := by rw [y4]; exact Z0
  have Z4 := Nat.le_trans Z0 K4.1
  refine OwnFin.step (g' := (mkF m 85 (Lak2m10_8 p0 p1 p2 p3 p4) [(.ref b4)])) X4 (fun t k => st4 _ k) ?_
  refine OwnFin.step (g' := (mkF m 87 (Lak2m10_9 p0 p1 p2 p3 p4 b4) [])) X4 (fun t k => XS.astore X4.here hx rfl (hb hby at_85) rfl rfl (l' := (Lak2m10_9 p0 p1 p2 p3 p4 b4)) rfl k) ?_
  refine OwnFin.step (g' := (mkF m 89 (Lak2m10_9 p0 p1 p2 p3 p4 b4) [(.ref b4)])) X4 (fun t k => XS.aload X4.here hx rfl (hb hby at_87) rfl rfl k) ?_
  refine OwnFin.step (g' := (mkF m 90 (Lak2m10_9 p0 p1 p2 p3 p4 b4) [(.int (0 : Int32)), (.ref b4)])) X4 (fun t k => XS.iconst X4.here hx rfl (hb hby at_89) k) ?_
  refine OwnFin.step (g' := (mkF m 92 (Lak2m10_9 p0 p1 p2 p3 p4 b4) [(.int (2 : Int32)), (.int (0 : Int32)), (.ref b4)])) X4 (fun t k => XS.iload X4.here hx rfl (hb hby at_90) rfl k) ?_
  refine OwnFin.step (g' := (mkF m 93 (Lak2m10_9 p0 p1 p2 p3 p4 b4) [(.int (1 : Int32)), (.int (2 : Int32)), (.int (0 : Int32)), (.ref b4)])) X4 (fun t k => XS.iconst X4.here hx rfl (hb hby at_92) k) ?_
  refine OwnFin.step (g' := (mkF m 96 (Lak2m10_9 p0 p1 p2 p3 p4 b4) [(.int (0 : Int32)), (.ref b4)])) X4 (fun t k => XS.icmpNo X4.here hx rfl (hb hby at_93) rfl (tlt (show (1 : Int32) < (2 : Int32) by first | rfl | decide)).2.2.2 k) ?_
  refine OwnFin.step (g' := (mkF m 98 (Lak2m10_9 p0 p1 p2 p3 p4 b4) [(.int (vk2m10_28 p0)), (.int (0 : Int32)), (.ref b4)])) X4 (fun t k => XS.iload X4.here hx rfl (hb hby at_96) rfl k) ?_
  refine OwnFin.step (g' := (mkF m 101 (Lak2m10_9 p0 p1 p2 p3 p4 b4) [(.int (128 : Int32)), (.int (vk2m10_28 p0)), (.int (0 : Int32)), (.ref b4)])) X4 (fun t k => XS.sipush X4.here hx rfl (hb hby at_98) k) ?_
  refine OwnFin.step (g' := (mkF m 102 (Lak2m10_9 p0 p1 p2 p3 p4 b4) [(.int ((vk2m10_28 p0) ||| (128 : Int32))), (.int (0 : Int32)), (.ref b4)])) X4 (fun t k => XT.ior X4.here hx rfl (hb hby at_101) rfl k) ?_
  refine OwnFin.step (g' := (mkF m 107 (Lak2m10_9 p0 p1 p2 p3 p4 b4) [(.int ((vk2m10_28 p0) ||| (128 : Int32))), (.int (0 : Int32)), (.ref b4)])) X4 (fun t k => XS.goto X4.here hx rfl (pc0 := 102) (pc' := 107) rfl (hb hby at_102) (by decide) (by decide) k) ?_
  refine OwnFin.step (g' := (mkF m 108 (Lak2m10_9 p0 p1 p2 p3 p4 b4) [(.int (((vk2m10_28 p0) ||| (128 : Int32)).toInt8.toInt32)), (.int (0 : Int32)), (.ref b4)])) X4 (fun t k => XT.i2b X4.here hx rfl (hb hby at_107) rfl k) ?_
  obtain ⟨T5, h5, L5, X5, e5, N5, K5, A5, st5⟩ := own_stB X4 hx hZ e4 N0 (G := (fun _ => (0 : Int32))) B4 g_b4 (j := (0 : Int32)) (x := (((vk2m10_28 p0) ||| (128 : Int32)).toInt8.toInt32)) (by decide) (g := (mkF m 108 (Lak2m10_9 p0 p1 p2 p3 p4 b4) [(.int (((vk2m10_28 p0) ||| (128 : Int32)).toInt8.toInt32)), (.int (0 : Int32)), (.ref b4)])) rfl rfl (hb hby at_108)
  have B5 : Ary Z h5 b4 .byte 3 (fun i => .int ((Gk2m10_108 p0) i)) := A5
  have Z5 := Nat.le_trans Z4 K5.1
  refine OwnFin.step (g' := (mkF m 109 (Lak2m10_9 p0 p1 p2 p3 p4 b4) [])) X5 (fun t k => st5 _ k) ?_
  refine OwnFin.step (g' := (mkF m 111 (Lak2m10_9 p0 p1 p2 p3 p4 b4) [(.int (2 : Int32))])) X5 (fun t k => XS.iload X5.here hx rfl (hb hby at_109) rfl k) ?_
  refine OwnFin.step (g' := (mkF m 112 (Lak2m10_9 p0 p1 p2 p3 p4 b4) [(.int (1 : Int32)), (.int (2 : Int32))])) X5 (fun t k => XS.iconst X5.here hx rfl (hb hby at_111) k) ?_
  refine OwnFin.step (g' := (mkF m 115 (Lak2m10_9 p0 p1 p2 p3 p4 b4) [])) X5 (fun t k => XS.icmpNo X5.here hx rfl (hb hby at_112) rfl (tlt (show (1 : Int32) < (2 : Int32) by first | rfl | decide)).2.2.2 k) ?_
  refine OwnFin.step (g' := (mkF m 117 (Lak2m10_9 p0 p1 p2 p3 p4 b4) [(.ref b4)])) X5 (fun t k => XS.aload X5.here hx rfl (hb hby at_115) rfl rfl k) ?_
  refine OwnFin.step (g' := (mkF m 118 (Lak2m10_9 p0 p1 p2 p3 p4 b4) [(.int (1 : Int32)), (.ref b4)])) X5 (fun t k => XS.iconst X5.here hx rfl (hb hby at_117) k) ?_
  refine OwnFin.step (g' := (mkF m 120 (Lak2m10_9 p0 p1 p2 p3 p4 b4) [(.int (2 : Int32)), (.int (1 : Int32)), (.ref b4)])) X5 (fun t k => XS.iload X5.here hx rfl (hb hby at_118) rfl k) ?_
  refine OwnFin.step (g' := (mkF m 121 (Lak2m10_9 p0 p1 p2 p3 p4 b4) [(.int (2 : Int32)), (.int (2 : Int32)), (.int (1 : Int32)), (.ref b4)])) X5 (fun t k => XS.iconst X5.here hx rfl (hb hby at_120) k) ?_
  refine OwnFin.step (g' := (mkF m 133 (Lak2m10_9 p0 p1 p2 p3 p4 b4) [(.int (1 : Int32)), (.ref b4)])) X5 (fun t k => XS.icmpYes X5.here hx rfl (pc0 := 121) (pc' := 133) rfl (hb hby at_121) rfl (flt (show ¬ ((2 : Int32) < (2 : Int32)) by first | decide | exact Int32.lt_irrefl _ | exact Int64.lt_irrefl _)).2.2.2 (by decide) (by decide) k) ?_
  refine OwnFin.step (g' := (mkF m 135 (Lak2m10_9 p0 p1 p2 p3 p4 b4) [(.int (vk2m10_37 p0)), (.int (1 : Int32)), (.ref b4)])) X5 (fun t k => XS.iload X5.here hx rfl (hb hby at_133) rfl k) ?_
  refine OwnFin.step (g' := (mkF m 136 (Lak2m10_9 p0 p1 p2 p3 p4 b4) [(.int ((vk2m10_37 p0).toInt8.toInt32)), (.int (1 : Int32)), (.ref b4)])) X5 (fun t k => XT.i2b X5.here hx rfl (hb hby at_135) rfl k) ?_
  obtain ⟨T6, h6, L6, X6, e6, N6, K6, A6, st6⟩ := own_stB X5 hx hZ e5 N5 (G := (Gk2m10_108 p0)) B5 g_b4 (j := (1 : Int32)) (x := ((vk2m10_37 p0).toInt8.toInt32)) (by decide) (g := (mkF m 136 (Lak2m10_9 p0 p1 p2 p3 p4 b4) [(.int ((vk2m10_37 p0).toInt8.toInt32)), (.int (1 : Int32)), (.ref b4)])) rfl rfl (hb hby at_136)
  have B6 : Ary Z h6 b4 .byte 3 (fun i => .int ((Gk2m10_136 p0) i)) := A6
  have Z6 := Nat.le_trans Z5 K6.1
  refine OwnFin.step (g' := (mkF m 137 (Lak2m10_9 p0 p1 p2 p3 p4 b4) [])) X6 (fun t k => st6 _ k) ?_
  refine OwnFin.step (g' := (mkF m 139 (Lak2m10_9 p0 p1 p2 p3 p4 b4) [(.int (2 : Int32))])) X6 (fun t k => XS.iload X6.here hx rfl (hb hby at_137) rfl k) ?_
  refine OwnFin.step (g' := (mkF m 140 (Lak2m10_9 p0 p1 p2 p3 p4 b4) [(.int (2 : Int32)), (.int (2 : Int32))])) X6 (fun t k => XS.iconst X6.here hx rfl (hb hby at_139) k) ?_
  refine OwnFin.step (g' := (mkF m 165 (Lak2m10_9 p0 p1 p2 p3 p4 b4) [])) X6 (fun t k => XS.icmpYes X6.here hx rfl (pc0 := 140) (pc' := 165) rfl (hb hby at_140) rfl (flt (show ¬ ((2 : Int32) < (2 : Int32)) by first | decide | exact Int32.lt_irrefl _ | exact Int64.lt_irrefl _)).2.2.2 (by decide) (by decide) k) ?_
  refine OwnFin.step (g' := (mkF m 167 (Lak2m10_9 p0 p1 p2 p3 p4 b4) [(.int (2 : Int32))])) X6 (fun t k => XS.iload X6.here hx rfl (hb hby at_165) rfl k) ?_
  refine OwnFin.step (g' := (mkF m 168 (Lak2m10_9 p0 p1 p2 p3 p4 b4) [(.int (3 : Int32)), (.int (2 : Int32))])) X6 (fun t k => XS.iconst X6.here hx rfl (hb hby at_167) k) ?_
  refine OwnFin.step (g' := (mkF m 193 (Lak2m10_9 p0 p1 p2 p3 p4 b4) [])) X6 (fun t k => XS.icmpYes X6.here hx rfl (pc0 := 168) (pc' := 193) rfl (hb hby at_168) rfl (flt (show ¬ ((3 : Int32) < (2 : Int32)) by first | decide | exact Int32.lt_irrefl _ | exact Int64.lt_irrefl _)).2.2.2 (by decide) (by decide) k) ?_
  refine OwnFin.step (g' := (mkF m 195 (Lak2m10_9 p0 p1 p2 p3 p4 b4) [(.int (2 : Int32))])) X6 (fun t k => XS.iload X6.here hx rfl (hb hby at_193) rfl k) ?_
  refine OwnFin.step (g' := (mkF m 196 (Lak2m10_9 p0 p1 p2 p3 p4 b4) [(.int (4 : Int32)), (.int (2 : Int32))])) X6 (fun t k => XS.iconst X6.here hx rfl (hb hby at_195) k) ?_
  refine OwnFin.step (g' := (mkF m 206 (Lak2m10_9 p0 p1 p2 p3 p4 b4) [])) X6 (fun t k => XS.icmpYes X6.here hx rfl (pc0 := 196) (pc' := 206) rfl (hb hby at_196) rfl (flt (show ¬ ((4 : Int32) < (2 : Int32)) by first | decide | exact Int32.lt_irrefl _ | exact Int64.lt_irrefl _)).2.2.2 (by decide) (by decide) k) ?_
  refine OwnFin.step (g' := (mkF m 208 (Lak2m10_9 p0 p1 p2 p3 p4 b4) [(.int (1 : Int32))])) X6 (fun t k => XS.iload X6.here hx rfl (hb hby at_206) rfl k) ?_
  refine OwnFin.step (g' := (mkF m 211 (Lak2m10_9 p0 p1 p2 p3 p4 b4) [])) X6 (fun t k => XS.ifNo X6.here hx rfl (hb hby at_208) rfl ((if0 _ _).trans (feq (show ¬ ((1 : Int32) = (0 : Int32)) by first | decide | exact Int32.lt_irrefl _ | exact Int64.lt_irrefl _)).1) k) ?_
  refine OwnFin.step (g' := (mkF m 213 (Lak2m10_9 p0 p1 p2 p3 p4 b4) [(.ref b4)])) X6 (fun t k => XS.aload X6.here hx rfl (hb hby at_211) rfl rfl k) ?_
  refine OwnFin.step (g' := (mkF m 215 (Lak2m10_9 p0 p1 p2 p3 p4 b4) [(.int (2 : Int32)), (.ref b4)])) X6 (fun t k => XS.iload X6.here hx rfl (hb hby at_213) rfl k) ?_
  refine OwnFin.step (g' := (mkF m 217 (Lak2m10_9 p0 p1 p2 p3 p4 b4) [(.int (vk2m10_67 p3)), (.int (2 : Int32)), (.ref b4)])) X6 (fun t k => XS.iload X6.here hx rfl (hb hby at_215) rfl k) ?_
  refine OwnFin.step (g' := (mkF m 218 (Lak2m10_9 p0 p1 p2 p3 p4 b4) [(.int ((vk2m10_67 p3).toInt8.toInt32)), (.int (2 : Int32)), (.ref b4)])) X6 (fun t k => XT.i2b X6.here hx rfl (hb hby at_217) rfl k) ?_
  obtain ⟨T7, h7, L7, X7, e7, N7, K7, A7, st7⟩ := own_stB X6 hx hZ e6 N6 (G := (Gk2m10_136 p0)) B6 g_b4 (j := (2 : Int32)) (x := ((vk2m10_67 p3).toInt8.toInt32)) (by decide) (g := (mkF m 218 (Lak2m10_9 p0 p1 p2 p3 p4 b4) [(.int ((vk2m10_67 p3).toInt8.toInt32)), (.int (2 : Int32)), (.ref b4)])) rfl rfl (hb hby at_218)
  have B7 : Ary Z h7 b4 .byte 3 (fun i => .int ((Gk2m10_218 p0 p3) i)) := A7
  have Z7 := Nat.le_trans Z6 K7.1
  refine OwnFin.step (g' := (mkF m 219 (Lak2m10_9 p0 p1 p2 p3 p4 b4) [])) X7 (fun t k => st7 _ k) ?_
  refine OwnFin.step (g' := (mkF m 221 (Lak2m10_9 p0 p1 p2 p3 p4 b4) [(.int (vk2m10_28 p0))])) X7 (fun t k => XS.iload X7.here hx rfl (hb hby at_219) rfl k) ?_
  refine OwnFin.step (g' := (mkF m 222 (Lak2m10_9 p0 p1 p2 p3 p4 b4) [(.long ((vk2m10_28 p0).toInt64))])) X7 (fun t k => XT.i2l X7.here hx rfl (hb hby at_221) rfl k) ?_
  refine OwnFin.step (g' := (mkF m 224 (Lak2m10_10 p0 p1 p2 p3 p4 b4) [])) X7 (fun t k => XT.lstore X7.here hx rfl (hb hby at_222) rfl (l' := (Lak2m10_10 p0 p1 p2 p3 p4 b4)) rfl k) ?_
  refine OwnFin.step (g' := (mkF m 226 (Lak2m10_10 p0 p1 p2 p3 p4 b4) [(.int (2 : Int32))])) X7 (fun t k => XS.iload X7.here hx rfl (hb hby at_224) rfl k) ?_
  refine OwnFin.step (g' := (mkF m 227 (Lak2m10_10 p0 p1 p2 p3 p4 b4) [(.int (1 : Int32)), (.int (2 : Int32))])) X7 (fun t k => XS.iconst X7.here hx rfl (hb hby at_226) k) ?_
  refine OwnFin.step (g' := (mkF m 230 (Lak2m10_10 p0 p1 p2 p3 p4 b4) [])) X7 (fun t k => XS.icmpNo X7.here hx rfl (hb hby at_227) rfl (tlt (show (1 : Int32) < (2 : Int32) by first | rfl | decide)).2.2.2 k) ?_
  refine OwnFin.step (g' := (mkF m 232 (Lak2m10_10 p0 p1 p2 p3 p4 b4) [(.long (vk2m10_222 p0))])) X7 (fun t k => XT.lload X7.here hx rfl (hb hby at_230) rfl k) ?_
  refine OwnFin.step (g' := (mkF m 234 (Lak2m10_10 p0 p1 p2 p3 p4 b4) [(.int (vk2m10_37 p0)), (.long (vk2m10_222 p0))])) X7 (fun t k => XS.iload X7.here hx rfl (hb hby at_232) rfl k) ?_
  refine OwnFin.step (g' := (mkF m 235 (Lak2m10_10 p0 p1 p2 p3 p4 b4) [(.long ((vk2m10_37 p0).toInt64)), (.long (vk2m10_222 p0))])) X7 (fun t k => XT.i2l X7.here hx rfl (hb hby at_234) rfl k) ?_
  refine OwnFin.step (g' := (mkF m 238 (Lak2m10_10 p0 p1 p2 p3 p4 b4) [(.long (128 : Int64)), (.long ((vk2m10_37 p0).toInt64)), (.long (vk2m10_222 p0))])) X7 (fun t k => X7.ldc2Long hx hown (mvT hZ (hw _ (wm 2 rfl))) (g := (mkF m 235 (Lak2m10_10 p0 p1 p2 p3 p4 b4) [(.long ((vk2m10_37 p0).toInt64)), (.long (vk2m10_222 p0))])) rfl (hb hby at_235) _ k) ?_
  refine OwnFin.step (g' := (mkF m 239 (Lak2m10_10 p0 p1 p2 p3 p4 b4) [(.long (((vk2m10_37 p0).toInt64) * (128 : Int64))), (.long (vk2m10_222 p0))])) X7 (fun t k => XT.lmul X7.here hx rfl (hb hby at_238) rfl k) ?_
  refine OwnFin.step (g' := (mkF m 240 (Lak2m10_10 p0 p1 p2 p3 p4 b4) [(.long ((vk2m10_222 p0) + (((vk2m10_37 p0).toInt64) * (128 : Int64))))])) X7 (fun t k => XT.ladd X7.here hx rfl (hb hby at_239) rfl k) ?_
  refine OwnFin.step (g' := (mkF m 242 (Lak2m10_11 p0 p1 p2 p3 p4 b4) [])) X7 (fun t k => XT.lstore X7.here hx rfl (hb hby at_240) rfl (l' := (Lak2m10_11 p0 p1 p2 p3 p4 b4)) rfl k) ?_
  refine OwnFin.step (g' := (mkF m 244 (Lak2m10_11 p0 p1 p2 p3 p4 b4) [(.int (2 : Int32))])) X7 (fun t k => XS.iload X7.here hx rfl (hb hby at_242) rfl k) ?_
  refine OwnFin.step (g' := (mkF m 245 (Lak2m10_11 p0 p1 p2 p3 p4 b4) [(.int (2 : Int32)), (.int (2 : Int32))])) X7 (fun t k => XS.iconst X7.here hx rfl (hb hby at_244) k) ?_
  refine OwnFin.step (g' := (mkF m 260 (Lak2m10_11 p0 p1 p2 p3 p4 b4) [])) X7 (fun t k => XS.icmpYes X7.here hx rfl (pc0 := 245) (pc' := 260) rfl (hb hby at_245) rfl (flt (show ¬ ((2 : Int32) < (2 : Int32)) by first | decide | exact Int32.lt_irrefl _ | exact Int64.lt_irrefl _)).2.2.2 (by decide) (by decide) k) ?_
  refine OwnFin.step (g' := (mkF m 262 (Lak2m10_11 p0 p1 p2 p3 p4 b4) [(.int (2 : Int32))])) X7 (fun t k => XS.iload X7.here hx rfl (hb hby at_260) rfl k) ?_
  refine OwnFin.step (g' := (mkF m 263 (Lak2m10_11 p0 p1 p2 p3 p4 b4) [(.int (3 : Int32)), (.int (2 : Int32))])) X7 (fun t k => XS.iconst X7.here hx rfl (hb hby at_262) k) ?_
  refine OwnFin.step (g' := (mkF m 278 (Lak2m10_11 p0 p1 p2 p3 p4 b4) [])) X7 (fun t k => XS.icmpYes X7.here hx rfl (pc0 := 263) (pc' := 278) rfl (hb hby at_263) rfl (flt (show ¬ ((3 : Int32) < (2 : Int32)) by first | decide | exact Int32.lt_irrefl _ | exact Int64.lt_irrefl _)).2.2.2 (by decide) (by decide) k) ?_
  refine OwnFin.step (g' := (mkF m 280 (Lak2m10_11 p0 p1 p2 p3 p4 b4) [(.int (2 : Int32))])) X7 (fun t k => XS.iload X7.here hx rfl (hb hby at_278) rfl k) ?_
  refine OwnFin.step (g' := (mkF m 281 (Lak2m10_11 p0 p1 p2 p3 p4 b4) [(.int (4 : Int32)), (.int (2 : Int32))])) X7 (fun t k => XS.iconst X7.here hx rfl (hb hby at_280) k) ?_
  refine OwnFin.step (g' := (mkF m 296 (Lak2m10_11 p0 p1 p2 p3 p4 b4) [])) X7 (fun t k => XS.icmpYes X7.here hx rfl (pc0 := 281) (pc' := 296) rfl (hb hby at_281) rfl (flt (show ¬ ((4 : Int32) < (2 : Int32)) by first | decide | exact Int32.lt_irrefl _ | exact Int64.lt_irrefl _)).2.2.2 (by decide) (by decide) k) ?_
  obtain ⟨T8, h8, X8, e8, E8, A8, D8, -, st8⟩ := newO X7 hx hZ hown (hw _ (wm 4 rfl)) (hw _ (wm 5 rfl)) (hw _ (wm 6 rfl)) e7 (g := (mkF m 296 (Lak2m10_11 p0 p1 p2 p3 p4 b4) [])) rfl (hb hby at_296) (by decide) (by decide)
  obtain ⟨b8, y8⟩ : ∃ z, z = h7.size := ⟨_, rfl⟩
  rw [← y8] at A8 D8 st8
  have K8 := keep_ext E8
  have ne_b4_b8 : b4 ≠ b8 := Ary.neS B7 y8
  have g_b8 : n0 ≤ b8 := by rw [y8]; exact Z7
  have Z8 := Nat.le_trans Z7 K8.1
  have F8_record : Fld Z h8 b8 "com/example/faden/faden/rank/RecordReader" "record" "[B" .null := D8 (Or.inr (hw _ (wm 14 rfl))) (ty := (.array .byte)) (by decide)
  have F8_at : Fld Z h8 b8 "com/example/faden/faden/rank/RecordReader" "at" "I" (.int (0 : Int32)) := D8 (Or.inl (hw _ (wm 21 rfl))) (ty := .int) (by decide)
  refine OwnFin.step (g' := (mkF m 299 (Lak2m10_11 p0 p1 p2 p3 p4 b4) [(.ref b8)])) X8 (fun t k => st8 _ k) ?_
  refine OwnFin.step (g' := (mkF m 300 (Lak2m10_11 p0 p1 p2 p3 p4 b4) [(.ref b8), (.ref b8)])) X8 (fun t k => XS.dup X8.here hx rfl (hb hby at_299) rfl rfl k) ?_
  refine OwnFin.step (g' := (mkF m 302 (Lak2m10_11 p0 p1 p2 p3 p4 b4) [(.ref b4), (.ref b8), (.ref b8)])) X8 (fun t k => XS.aload X8.here hx rfl (hb hby at_300) rfl rfl k) ?_
  obtain ⟨_, T9, L9, X9, ⟨rfl, N9q, u10, u11, u12, u13⟩, st9⟩ := own_callI X8 hx hZ (y := (⟨"com/example/faden/faden/rank/RecordReader", "<init>", "([B)V"⟩ : MethodName)) (W := 1) (a := b8) (argsL := [(.ref b4)]) (rest := [(.ref b8)]) rfl hown (hw _ (wm 7 rfl)) (hw _ (wm 8 rfl)) (hw _ (wm 6 rfl)) (hw _ (wm 9 rfl)) (by decide) (rm1 l Z a0 hw [] b8 b4 h8 n0 Z8 A8 g_b8 F8_record F8_at) (by decide) (by decide) (by decide) (by decide) e8 (g := (mkF m 302 (Lak2m10_11 p0 p1 p2 p3 p4 b4) [(.ref b4), (.ref b8), (.ref b8)])) rfl (by rw [hml]; rfl) pd_0 rfl rfl (by show 2 * 0 + _ ≤ _; exact Nat.le_of_eq rfl) (hb hby at_302)
  have N9 := Fr.app N7 N9q
  obtain ⟨h9, e9⟩ : ∃ z, T9.heap = z := ⟨_, rfl⟩
  rw [e9] at u10 u11 u12 u13
  have K9 := u10
  have Z9 := Nat.le_trans Z8 K9.1
  refine OwnFin.step (g' := (mkF m 305 (Lak2m10_11 p0 p1 p2 p3 p4 b4) [(.ref b8)])) X9 (fun t k => st9 _ k) ?_
  refine OwnFin.step (g' := (mkF m 307 (Lak2m10_12 p0 p1 p2 p3 p4 b4 b8) [])) X9 (fun t k => XS.astore X9.here hx rfl (hb hby at_305) rfl rfl (l' := (Lak2m10_12 p0 p1 p2 p3 p4 b4 b8)) rfl k) ?_
  refine OwnFin.step (g' := (mkF m 309 (Lak2m10_12 p0 p1 p2 p3 p4 b4 b8) [(.ref b8)])) X9 (fun t k => XS.aload X9.here hx rfl (hb hby at_307) rfl rfl k) ?_
  have A15 := ((B7.keep K8 nin0).keep K9 (ninS ne_b4_b8 nin0))
  obtain ⟨_, T14, L14, X14, ⟨rfl, N14q, u16, u17, u18, u19⟩, st14⟩ := own_callV X9 hx hZ (y := (⟨"com/example/faden/faden/rank/RecordReader", "number", "()I"⟩ : MethodName)) (W := 0) (a := b8) (argsL := []) (rest := []) hown (hw _ (wm 15 rfl)) (hw _ (wm 16 rfl)) (hw _ (wm 18 rfl)) (hw _ (wm 17 rfl)) (hw _ (wm 6 rfl)) (hw _ (wm 19 rfl)) (by decide) u11 (rm3a0k2 l Z a0 hw [] b8 3 (Gk2m10_218 p0 p3) b4 h9 n0 Z9 u11 g_b8 u12 u13 A15 (Ne.symm ne_b4_b8) (exhlnk2m10_309 p2 p4 hk hm) (exhb0k2m10_309 p0 p3 p2 p4 hk hm) (exhb1k2m10_309 p0 p3 p2 p4 hk hm)) (by decide) (by decide) (by decide) (by decide) e9 (g := (mkF m 309 (Lak2m10_12 p0 p1 p2 p3 p4 b4 b8) [(.ref b8)])) rfl (by rw [hml]; rfl) pd_1 rfl rfl (by show 2 * 0 + _ ≤ _; exact Nat.le_of_eq rfl) (hb hby at_309)
  have N14 := Fr.app N9 N14q
  obtain ⟨h14, e14⟩ : ∃ z, T14.heap = z := ⟨_, rfl⟩
  rw [e14] at u16 u17 u18 u19
  have K14 := u16
  have Z14 := Nat.le_trans Z9 K14.1
  refine OwnFin.step (g' := (mkF m 312 (Lak2m10_12 p0 p1 p2 p3 p4 b4 b8) [(.int (va0k23_77b (Gk2m10_218 p0 p3)))])) X14 (fun t k => st14 _ k) ?_
  refine OwnFin.step (g' := (mkF m 314 (Lak2m10_13 p0 p1 p2 p3 p4 b4 b8) [])) X14 (fun t k => XS.istore X14.here hx rfl (hb hby at_312) rfl (l' := (Lak2m10_13 p0 p1 p2 p3 p4 b4 b8)) rfl k) ?_
  refine OwnFin.step (g' := (mkF m 316 (Lak2m10_13 p0 p1 p2 p3 p4 b4 b8) [(.int (vk2m10_312 p0 p3))])) X14 (fun t k => XS.iload X14.here hx rfl (hb hby at_314) rfl k) ?_
  refine OwnFin.step (g' := (mkF m 317 (Lak2m10_13 p0 p1 p2 p3 p4 b4 b8) [(.long ((vk2m10_312 p0 p3).toInt64))])) X14 (fun t k => XT.i2l X14.here hx rfl (hb hby at_316) rfl k) ?_
  refine OwnFin.step (g' := (mkF m 319 (Lak2m10_13 p0 p1 p2 p3 p4 b4 b8) [(.long (vk2m10_240 p0)), (.long ((vk2m10_312 p0 p3).toInt64))])) X14 (fun t k => XT.lload X14.here hx rfl (hb hby at_317) rfl k) ?_
  refine OwnFin.step (g' := (mkF m 320 (Lak2m10_13 p0 p1 p2 p3 p4 b4 b8) [(.int (XT.cmpL ((vk2m10_312 p0 p3).toInt64) (vk2m10_240 p0)))])) X14 (fun t k => XT.lcmp X14.here hx rfl (hb hby at_319) rfl k) ?_
  refine OwnFin.step (g' := (mkF m 325 (Lak2m10_13 p0 p1 p2 p3 p4 b4 b8) [])) X14 (fun t k => XS.ifYes X14.here hx rfl (pc0 := 320) (pc' := 325) rfl (hb hby at_320) rfl ((if0 _ _).trans (teq ((cl_eq _ _).mpr (brk2m10_320 p0 p3 p2 p4 hk hm))).1) (by decide) (by decide) k) ?_
  refine OwnFin.step (g' := (mkF m 327 (Lak2m10_13 p0 p1 p2 p3 p4 b4 b8) [(.int (1 : Int32))])) X14 (fun t k => XS.iload X14.here hx rfl (hb hby at_325) rfl k) ?_
  refine OwnFin.step (g' := (mkF m 336 (Lak2m10_13 p0 p1 p2 p3 p4 b4 b8) [])) X14 (fun t k => XS.ifYes X14.here hx rfl (pc0 := 327) (pc' := 336) rfl (hb hby at_327) rfl ((if0 _ _).trans (feq (show ¬ ((1 : Int32) = (0 : Int32)) by first | decide | exact Int32.lt_irrefl _ | exact Int64.lt_irrefl _)).2) (by decide) (by decide) k) ?_
  refine OwnFin.step (g' := (mkF m 338 (Lak2m10_13 p0 p1 p2 p3 p4 b4 b8) [(.ref b8)])) X14 (fun t k => XS.aload X14.here hx rfl (hb hby at_336) rfl rfl k) ?_
  have A21 := (A15.keep K14 (ninS ne_b4_b8 nin0))
  obtain ⟨_, T20, L20, X20, ⟨rfl, N20q, u22⟩, st20⟩ := own_callV X14 hx hZ (y := (⟨"com/example/faden/faden/rank/RecordReader", "atEnd", "()Z"⟩ : MethodName)) (W := 0) (a := b8) (argsL := []) (rest := []) hown (hw _ (wm 22 rfl)) (hw _ (wm 23 rfl)) (hw _ (wm 25 rfl)) (hw _ (wm 24 rfl)) (hw _ (wm 6 rfl)) (hw _ (wm 26 rfl)) (by decide) u17 (rm4 l Z a0 hw [] b8 3 (Gk2m10_218 p0 p3) b4 (2 : Int32) h14 n0 Z14 u17 g_b8 u18 u19 A21 (Ne.symm ne_b4_b8)) (by decide) (by decide) (by decide) (by decide) e14 (g := (mkF m 338 (Lak2m10_13 p0 p1 p2 p3 p4 b4 b8) [(.ref b8)])) rfl (by rw [hml]; rfl) pd_2 rfl rfl (by show 2 * 0 + _ ≤ _; exact Nat.le_of_eq rfl) (hb hby at_338)
  have N20 := Fr.app N14 N20q
  obtain ⟨h20, e20⟩ : ∃ z, T20.heap = z := ⟨_, rfl⟩
  rw [e20] at u22
  have K20 := u22
  have Z20 := Nat.le_trans Z14 K20.1
  rw [show (nar .boolean (v4_17 (2 : Int32) 3)) = (0 : Int32) from by decide] at st20
  refine OwnFin.step (g' := (mkF m 341 (Lak2m10_13 p0 p1 p2 p3 p4 b4 b8) [(.int (0 : Int32))])) X20 (fun t k => st20 _ k) ?_
  refine OwnFin.step (g' := (mkF m 346 (Lak2m10_13 p0 p1 p2 p3 p4 b4 b8) [])) X20 (fun t k => XS.ifYes X20.here hx rfl (pc0 := 341) (pc' := 346) rfl (hb hby at_341) rfl ((if0 _ _).trans (teq (show (0 : Int32) = (0 : Int32) by first | rfl | decide)).1) (by decide) (by decide) k) ?_
  refine OwnFin.step (g' := (mkF m 348 (Lak2m10_13 p0 p1 p2 p3 p4 b4 b8) [(.ref b8)])) X20 (fun t k => XS.aload X20.here hx rfl (hb hby at_346) rfl rfl k) ?_
  have E24 := (Exa.keep u17 K20)
  have F25 := (u18.keep K20 nin0)
  have F26 := (u19.keep K20 nin0)
  have A27 := (A21.keep K20 nin0)
  obtain ⟨_, T23, L23, X23, ⟨rfl, N23q, u28, u29, u30, u31⟩, st23⟩ := own_callV X20 hx hZ (y := (⟨"com/example/faden/faden/rank/RecordReader", "number", "()I"⟩ : MethodName)) (W := 0) (a := b8) (argsL := []) (rest := []) hown (hw _ (wm 15 rfl)) (hw _ (wm 16 rfl)) (hw _ (wm 18 rfl)) (hw _ (wm 17 rfl)) (hw _ (wm 6 rfl)) (hw _ (wm 19 rfl)) (by decide) E24 (rm3a2k1 l Z a0 hw [] b8 3 (Gk2m10_218 p0 p3) b4 h20 n0 Z20 E24 g_b8 F25 F26 A27 (Ne.symm ne_b4_b8) (exhlnk2m10_348 p2 p4 hk hm) (exhb0k2m10_348 p0 p3 p2 p4 hk hm)) (by decide) (by decide) (by decide) (by decide) e20 (g := (mkF m 348 (Lak2m10_13 p0 p1 p2 p3 p4 b4 b8) [(.ref b8)])) rfl (by rw [hml]; rfl) pd_1 rfl rfl (by show 2 * 0 + _ ≤ _; exact Nat.le_of_eq rfl) (hb hby at_348)
  have N23 := Fr.app N20 N23q
  obtain ⟨h23, e23⟩ : ∃ z, T23.heap = z := ⟨_, rfl⟩
  rw [e23] at u28 u29 u30 u31
  have K23 := u28
  have Z23 := Nat.le_trans Z20 K23.1
  refine OwnFin.step (g' := (mkF m 351 (Lak2m10_13 p0 p1 p2 p3 p4 b4 b8) [(.int (va2k13_77 (Gk2m10_218 p0 p3)))])) X23 (fun t k => st23 _ k) ?_
  refine OwnFin.step (g' := (mkF m 353 (Lak2m10_14 p0 p1 p2 p3 p4 b4 b8) [])) X23 (fun t k => XS.istore X23.here hx rfl (hb hby at_351) rfl (l' := (Lak2m10_14 p0 p1 p2 p3 p4 b4 b8)) rfl k) ?_
  refine OwnFin.step (g' := (mkF m 355 (Lak2m10_14 p0 p1 p2 p3 p4 b4 b8) [(.int (vk2m10_351 p0 p3))])) X23 (fun t k => XS.iload X23.here hx rfl (hb hby at_353) rfl k) ?_
  refine OwnFin.step (g' := (mkF m 357 (Lak2m10_14 p0 p1 p2 p3 p4 b4 b8) [(.int (vk2m10_67 p3)), (.int (vk2m10_351 p0 p3))])) X23 (fun t k => XS.iload X23.here hx rfl (hb hby at_355) rfl k) ?_
  refine OwnFin.step (g' := (mkF m 360 (Lak2m10_14 p0 p1 p2 p3 p4 b4 b8) [])) X23 (fun t k => XS.icmpNo X23.here hx rfl (hb hby at_357) rfl (teq (brk2m10_357 p0 p3 p2 p4 hk hm)).2 k) ?_
  refine OwnFin.step (g' := (mkF m 362 (Lak2m10_14 p0 p1 p2 p3 p4 b4 b8) [(.ref b8)])) X23 (fun t k => XS.aload X23.here hx rfl (hb hby at_360) rfl rfl k) ?_
  have A33 := (A27.keep K23 (ninS ne_b4_b8 nin0))
  obtain ⟨_, T32, L32, X32, ⟨rfl, N32q, u34⟩, st32⟩ := own_callV X23 hx hZ (y := (⟨"com/example/faden/faden/rank/RecordReader", "atEnd", "()Z"⟩ : MethodName)) (W := 0) (a := b8) (argsL := []) (rest := []) hown (hw _ (wm 22 rfl)) (hw _ (wm 23 rfl)) (hw _ (wm 25 rfl)) (hw _ (wm 24 rfl)) (hw _ (wm 6 rfl)) (hw _ (wm 26 rfl)) (by decide) u29 (rm4 l Z a0 hw [] b8 3 (Gk2m10_218 p0 p3) b4 (3 : Int32) h23 n0 Z23 u29 g_b8 u30 u31 A33 (Ne.symm ne_b4_b8)) (by decide) (by decide) (by decide) (by decide) e23 (g := (mkF m 362 (Lak2m10_14 p0 p1 p2 p3 p4 b4 b8) [(.ref b8)])) rfl (by rw [hml]; rfl) pd_2 rfl rfl (by show 2 * 0 + _ ≤ _; exact Nat.le_of_eq rfl) (hb hby at_362)
  have N32 := Fr.app N23 N32q
  obtain ⟨h32, e32⟩ : ∃ z, T32.heap = z := ⟨_, rfl⟩
  rw [e32] at u34
  have K32 := u34
  have Z32 := Nat.le_trans Z23 K32.1
  rw [show (nar .boolean (v4_17 (3 : Int32) 3)) = (1 : Int32) from by decide] at st32
  refine OwnFin.step (g' := (mkF m 365 (Lak2m10_14 p0 p1 p2 p3 p4 b4 b8) [(.int (1 : Int32))])) X32 (fun t k => st32 _ k) ?_
  refine OwnFin.step (g' := (mkF m 368 (Lak2m10_14 p0 p1 p2 p3 p4 b4 b8) [])) X32 (fun t k => XS.ifNo X32.here hx rfl (hb hby at_365) rfl ((if0 _ _).trans (feq (show ¬ ((1 : Int32) = (0 : Int32)) by first | decide | exact Int32.lt_irrefl _ | exact Int64.lt_irrefl _)).1) k) ?_
  refine OwnFin.step (g' := (mkF m 369 (Lak2m10_14 p0 p1 p2 p3 p4 b4 b8) [(.int (1 : Int32))])) X32 (fun t k => XS.iconst X32.here hx rfl (hb hby at_368) k) ?_
  refine OwnFin.step (g' := (mkF m 373 (Lak2m10_14 p0 p1 p2 p3 p4 b4 b8) [(.int (1 : Int32))])) X32 (fun t k => XS.goto X32.here hx rfl (pc0 := 369) (pc' := 373) rfl (hb hby at_369) (by decide) (by decide) k) ?_
  refine OwnFin.retNar X32 (by simp) (hb hby at_373) (by decide) (by decide) ?_
  exact ⟨rfl, N32⟩
set_option maxRecDepth 65536 in
set_option maxHeartbeats 40000000 in
theorem rm0k2m1 (l : Launch) (Z : State) (a0 : Array Value) (hw : ∀ d ∈ tables_1, d.before a0 Z = true) (ws : List Jvm.Cond) (p0 : Int32) (p1 : Int32) (p2 : Int32) (p3 : Int32) (p4 : Int32) (h0 : Heap) (n0 : Nat) (Z0 : n0 ≤ h0.size) (hk : vk2m10_8 p2 = (2 : Int32)) (hm : vk2m10_22 p4 = (1 : Int32)) :
    MetFree l x (head1 (Jvm.Cond.code x code maxLocals ret :: ws) room_1) (fun a U => a = #[(.int p0), (.int p1), (.int p2), (.int p3), (.int p4)] ∧ Z.Warmed39 U.vm ∧ U.heap = h0) (fun _ _ _ _ _ => True) (fun _ U o U' => ∃ v L, o = .returned v ∧ (LQ n0) v U'.heap L ∧ FrameEnd U o U' L room_1.cells room_1.slots) :=
  own_met (ret := ret) (Q := (LQ n0)) (plainFor_of_name pn_0) (fun m => ef_0 m p0 p1 p2 p3 p4) (fun p e s m below meth c s₁ X hx hby hml hown hnm hZ e0 => j0k2m1 X hx hZ hw hby hml hown hnm e0 (Fr.nil n0) Z0 p0 p1 p2 p3 p4 hk hm)
def vk3m00_8 (p2 : Int32) : Int32 := (((p2 &&& (2147483647 : Int32)) % (5 : Int32)) + (1 : Int32))
def vk3m00_22 (p4 : Int32) : Int32 := (if (p4 &&& (1 : Int32)) = (0 : Int32) then (0 : Int32) else (1 : Int32))
def vk3m00_28 (p0 : Int32) : Int32 := (p0 &&& (127 : Int32))
def vk3m00_37 (p0 : Int32) : Int32 := ((XT.ushr p0 (8 : Int32)) &&& (127 : Int32))
def vk3m00_46 (p0 : Int32) : Int32 := ((XT.ushr p0 (16 : Int32)) &&& (127 : Int32))
def vk3m00_55 (p0 : Int32) : Int32 := ((XT.ushr p0 (24 : Int32)) &&& (127 : Int32))
def vk3m00_61 (p1 : Int32) : Int32 := (p1 &&& (7 : Int32))
def vk3m00_67 (p3 : Int32) : Int32 := (p3 &&& (127 : Int32))
def Gk3m00_108 (p0 : Int32) : Nat → Int32 := (updN (fun _ => (0 : Int32)) ((0 : Int32)).toNatClampNeg (nar .byte (((vk3m00_28 p0) ||| (128 : Int32)).toInt8.toInt32)))
def Gk3m00_136 (p0 : Int32) : Nat → Int32 := (updN (Gk3m00_108 p0) ((1 : Int32)).toNatClampNeg (nar .byte (((vk3m00_37 p0) ||| (128 : Int32)).toInt8.toInt32)))
def Gk3m00_164 (p0 : Int32) : Nat → Int32 := (updN (Gk3m00_136 p0) ((2 : Int32)).toNatClampNeg (nar .byte ((vk3m00_46 p0).toInt8.toInt32)))
def vk3m00_222 (p0 : Int32) : Int64 := ((vk3m00_28 p0).toInt64)
def vk3m00_240 (p0 : Int32) : Int64 := ((vk3m00_222 p0) + (((vk3m00_37 p0).toInt64) * (128 : Int64)))
def vk3m00_258 (p0 : Int32) : Int64 := ((vk3m00_240 p0) + (((vk3m00_46 p0).toInt64) * (16384 : Int64)))
def vk3m00_312 (p0 : Int32) : Int32 := (va0k33_77bb (Gk3m00_164 p0))
theorem exhlnk3m00_309 (p2 : Int32) (p4 : Int32) (hk : vk3m00_8 p2 = (3 : Int32)) (hm : vk3m00_22 p4 = (0 : Int32)) : 3 ≤ 3 ∧ 3 < 100 := by decide
theorem exhb0k3m00_309 (p0 : Int32) (p2 : Int32) (p4 : Int32) (hk : vk3m00_8 p2 = (3 : Int32)) (hm : vk3m00_22 p4 = (0 : Int32)) : 128 ≤ (((Gk3m00_164 p0) 0) &&& 255).toInt := by
  have b0 : 0 ≤ (vk3m00_28 p0).toInt ∧ (vk3m00_28 p0).toInt < 128 := own_b127 _
  have h0 : (((Gk3m00_164 p0) 0) &&& 255).toInt = (vk3m00_28 p0).toInt + 128 := own_hi b0
  have b1 : 0 ≤ (vk3m00_37 p0).toInt ∧ (vk3m00_37 p0).toInt < 128 := own_b127 _
  have h1 : (((Gk3m00_164 p0) 1) &&& 255).toInt = (vk3m00_37 p0).toInt + 128 := own_hi b1
  have b2 : 0 ≤ (vk3m00_46 p0).toInt ∧ (vk3m00_46 p0).toInt < 128 := own_b127 _
  have h2 : (((Gk3m00_164 p0) 2) &&& 255).toInt = (vk3m00_46 p0).toInt := own_lo ⟨b2.1, Int.lt_of_lt_of_le b2.2 (by decide)⟩
  omega
theorem exhb1k3m00_309 (p0 : Int32) (p2 : Int32) (p4 : Int32) (hk : vk3m00_8 p2 = (3 : Int32)) (hm : vk3m00_22 p4 = (0 : Int32)) : 128 ≤ (((Gk3m00_164 p0) 1) &&& 255).toInt := by
  have b0 : 0 ≤ (vk3m00_28 p0).toInt ∧ (vk3m00_28 p0).toInt < 128 := own_b127 _
  have h0 : (((Gk3m00_164 p0) 0) &&& 255).toInt = (vk3m00_28 p0).toInt + 128 := own_hi b0
  have b1 : 0 ≤ (vk3m00_37 p0).toInt ∧ (vk3m00_37 p0).toInt < 128 := own_b127 _
  have h1 : (((Gk3m00_164 p0) 1) &&& 255).toInt = (vk3m00_37 p0).toInt + 128 := own_hi b1
  have b2 : 0 ≤ (vk3m00_46 p0).toInt ∧ (vk3m00_46 p0).toInt < 128 := own_b127 _
  have h2 : (((Gk3m00_164 p0) 2) &&& 255).toInt = (vk3m00_46 p0).toInt := own_lo ⟨b2.1, Int.lt_of_lt_of_le b2.2 (by decide)⟩
  omega
theorem exhb2k3m00_309 (p0 : Int32) (p2 : Int32) (p4 : Int32) (hk : vk3m00_8 p2 = (3 : Int32)) (hm : vk3m00_22 p4 = (0 : Int32)) : (((Gk3m00_164 p0) 2) &&& 255).toInt < 128 := by
  have b0 : 0 ≤ (vk3m00_28 p0).toInt ∧ (vk3m00_28 p0).toInt < 128 := own_b127 _
  have h0 : (((Gk3m00_164 p0) 0) &&& 255).toInt = (vk3m00_28 p0).toInt + 128 := own_hi b0
  have b1 : 0 ≤ (vk3m00_37 p0).toInt ∧ (vk3m00_37 p0).toInt < 128 := own_b127 _
  have h1 : (((Gk3m00_164 p0) 1) &&& 255).toInt = (vk3m00_37 p0).toInt + 128 := own_hi b1
  have b2 : 0 ≤ (vk3m00_46 p0).toInt ∧ (vk3m00_46 p0).toInt < 128 := own_b127 _
  have h2 : (((Gk3m00_164 p0) 2) &&& 255).toInt = (vk3m00_46 p0).toInt := own_lo ⟨b2.1, Int.lt_of_lt_of_le b2.2 (by decide)⟩
  omega
theorem brk3m00_320 (p0 : Int32) (p2 : Int32) (p4 : Int32) (hk : vk3m00_8 p2 = (3 : Int32)) (hm : vk3m00_22 p4 = (0 : Int32)) : ((vk3m00_312 p0).toInt64) = (vk3m00_258 p0) := by
  have b0 : 0 ≤ (vk3m00_28 p0).toInt ∧ (vk3m00_28 p0).toInt < 128 := own_b127 _
  have h0 : (((Gk3m00_164 p0) 0) &&& 255).toInt = (vk3m00_28 p0).toInt + 128 := own_hi b0
  have b1 : 0 ≤ (vk3m00_37 p0).toInt ∧ (vk3m00_37 p0).toInt < 128 := own_b127 _
  have h1 : (((Gk3m00_164 p0) 1) &&& 255).toInt = (vk3m00_37 p0).toInt + 128 := own_hi b1
  have b2 : 0 ≤ (vk3m00_46 p0).toInt ∧ (vk3m00_46 p0).toInt < 128 := own_b127 _
  have h2 : (((Gk3m00_164 p0) 2) &&& 255).toInt = (vk3m00_46 p0).toInt := own_lo ⟨b2.1, Int.lt_of_lt_of_le b2.2 (by decide)⟩
  have e0 : (vk3m00_222 p0).toInt = (vk3m00_28 p0).toInt := Jvm.Kit.i64_of_i32 _
  have m0 : (((Gk3m00_164 p0) 0) &&& 255).toInt % 128 = (vk3m00_28 p0).toInt := own_m7 h0 ⟨b0.1, Int.lt_of_lt_of_le b0.2 (by decide)⟩
  have m1 : (((Gk3m00_164 p0) 1) &&& 255).toInt % 128 = (vk3m00_37 p0).toInt := own_m7 h1 ⟨b1.1, Int.lt_of_lt_of_le b1.2 (by decide)⟩
  have m2 : (((Gk3m00_164 p0) 2) &&& 255).toInt % 128 = (vk3m00_46 p0).toInt := own_m7' h2 ⟨b2.1, Int.lt_of_lt_of_le b2.2 (by decide)⟩
  have e1 : (vk3m00_240 p0).toInt = (vk3m00_222 p0).toInt + (vk3m00_37 p0).toInt * 128 ∧ 0 ≤ (vk3m00_240 p0).toInt ∧ (vk3m00_240 p0).toInt < 16384 := own_ex1 _ _ (by rw [e0]; exact b0) ⟨b1.1, Int.lt_of_lt_of_le b1.2 (by decide)⟩
  have e2 : (vk3m00_258 p0).toInt = (vk3m00_240 p0).toInt + (vk3m00_46 p0).toInt * 16384 ∧ 0 ≤ (vk3m00_258 p0).toInt ∧ (vk3m00_258 p0).toInt < 2097152 := own_ex2 _ _ e1.2 ⟨b2.1, Int.lt_of_lt_of_le b2.2 (by decide)⟩
  have r : (vk3m00_312 p0).toInt = _ := own_va0k33_77bb (Gk3m00_164 p0)
  rw [i64eq, Jvm.Kit.i64_of_i32, r, m0, m1, m2, e2.1, e1.1, e0, Int.mul_one]
abbrev Lak3m00_0 (p0 : Int32) (p1 : Int32) (p2 : Int32) (p3 : Int32) (p4 : Int32) : Array Slot := #[.val (.int p0), .val (.int p1), .val (.int p2), .val (.int p3), .val (.int p4), .unset, .unset, .unset, .unset, .unset, .unset, .unset, .unset, .unset, .unset, .unset, .unset, .unset, .unset]
abbrev Lak3m00_1 (p0 : Int32) (p1 : Int32) (p2 : Int32) (p3 : Int32) (p4 : Int32) : Array Slot := #[.val (.int p0), .val (.int p1), .val (.int p2), .val (.int p3), .val (.int p4), .val (.int (3 : Int32)), .unset, .unset, .unset, .unset, .unset, .unset, .unset, .unset, .unset, .unset, .unset, .unset, .unset]
abbrev Lak3m00_2 (p0 : Int32) (p1 : Int32) (p2 : Int32) (p3 : Int32) (p4 : Int32) : Array Slot := #[.val (.int p0), .val (.int p1), .val (.int p2), .val (.int p3), .val (.int p4), .val (.int (3 : Int32)), .val (.int (0 : Int32)), .unset, .unset, .unset, .unset, .unset, .unset, .unset, .unset, .unset, .unset, .unset, .unset]
abbrev Lak3m00_3 (p0 : Int32) (p1 : Int32) (p2 : Int32) (p3 : Int32) (p4 : Int32) : Array Slot := #[.val (.int p0), .val (.int p1), .val (.int p2), .val (.int p3), .val (.int p4), .val (.int (3 : Int32)), .val (.int (0 : Int32)), .val (.int (vk3m00_28 p0)), .unset, .unset, .unset, .unset, .unset, .unset, .unset, .unset, .unset, .unset, .unset]
abbrev Lak3m00_4 (p0 : Int32) (p1 : Int32) (p2 : Int32) (p3 : Int32) (p4 : Int32) : Array Slot := #[.val (.int p0), .val (.int p1), .val (.int p2), .val (.int p3), .val (.int p4), .val (.int (3 : Int32)), .val (.int (0 : Int32)), .val (.int (vk3m00_28 p0)), .val (.int (vk3m00_37 p0)), .unset, .unset, .unset, .unset, .unset, .unset, .unset, .unset, .unset, .unset]
abbrev Lak3m00_5 (p0 : Int32) (p1 : Int32) (p2 : Int32) (p3 : Int32) (p4 : Int32) : Array Slot := #[.val (.int p0), .val (.int p1), .val (.int p2), .val (.int p3), .val (.int p4), .val (.int (3 : Int32)), .val (.int (0 : Int32)), .val (.int (vk3m00_28 p0)), .val (.int (vk3m00_37 p0)), .val (.int (vk3m00_46 p0)), .unset, .unset, .unset, .unset, .unset, .unset, .unset, .unset, .unset]
abbrev Lak3m00_6 (p0 : Int32) (p1 : Int32) (p2 : Int32) (p3 : Int32) (p4 : Int32) : Array Slot := #[.val (.int p0), .val (.int p1), .val (.int p2), .val (.int p3), .val (.int p4), .val (.int (3 : Int32)), .val (.int (0 : Int32)), .val (.int (vk3m00_28 p0)), .val (.int (vk3m00_37 p0)), .val (.int (vk3m00_46 p0)), .val (.int (vk3m00_55 p0)), .unset, .unset, .unset, .unset, .unset, .unset, .unset, .unset]
abbrev Lak3m00_7 (p0 : Int32) (p1 : Int32) (p2 : Int32) (p3 : Int32) (p4 : Int32) : Array Slot := #[.val (.int p0), .val (.int p1), .val (.int p2), .val (.int p3), .val (.int p4), .val (.int (3 : Int32)), .val (.int (0 : Int32)), .val (.int (vk3m00_28 p0)), .val (.int (vk3m00_37 p0)), .val (.int (vk3m00_46 p0)), .val (.int (vk3m00_55 p0)), .val (.int (vk3m00_61 p1)), .unset, .unset, .unset, .unset, .unset, .unset, .unset]
abbrev Lak3m00_8 (p0 : Int32) (p1 : Int32) (p2 : Int32) (p3 : Int32) (p4 : Int32) : Array Slot := #[.val (.int p0), .val (.int p1), .val (.int p2), .val (.int p3), .val (.int p4), .val (.int (3 : Int32)), .val (.int (0 : Int32)), .val (.int (vk3m00_28 p0)), .val (.int (vk3m00_37 p0)), .val (.int (vk3m00_46 p0)), .val (.int (vk3m00_55 p0)), .val (.int (vk3m00_61 p1)), .val (.int (vk3m00_67 p3)), .unset, .unset, .unset, .unset, .unset, .unset]
abbrev Lak3m00_9 (p0 : Int32) (p1 : Int32) (p2 : Int32) (p3 : Int32) (p4 : Int32) (b4 : Addr) : Array Slot := #[.val (.int p0), .val (.int p1), .val (.int p2), .val (.int p3), .val (.int p4), .val (.int (3 : Int32)), .val (.int (0 : Int32)), .val (.int (vk3m00_28 p0)), .val (.int (vk3m00_37 p0)), .val (.int (vk3m00_46 p0)), .val (.int (vk3m00_55 p0)), .val (.int (vk3m00_61 p1)), .val (.int (vk3m00_67 p3)), .val (.ref b4), .unset, .unset, .unset, .unset, .unset]
abbrev Lak3m00_10 (p0 : Int32) (p1 : Int32) (p2 : Int32) (p3 : Int32) (p4 : Int32) (b4 : Addr) : Array Slot := #[.val (.int p0), .val (.int p1), .val (.int p2), .val (.int p3), .val (.int p4), .val (.int (3 : Int32)), .val (.int (0 : Int32)), .val (.int (vk3m00_28 p0)), .val (.int (vk3m00_37 p0)), .val (.int (vk3m00_46 p0)), .val (.int (vk3m00_55 p0)), .val (.int (vk3m00_61 p1)), .val (.int (vk3m00_67 p3)), .val (.ref b4), .val (.long (vk3m00_222 p0)), .second, .unset, .unset, .unset]
abbrev Lak3m00_11 (p0 : Int32) (p1 : Int32) (p2 : Int32) (p3 : Int32) (p4 : Int32) (b4 : Addr) : Array Slot := #[.val (.int p0), .val (.int p1), .val (.int p2), .val (.int p3), .val (.int p4), .val (.int (3 : Int32)), .val (.int (0 : Int32)), .val (.int (vk3m00_28 p0)), .val (.int (vk3m00_37 p0)), .val (.int (vk3m00_46 p0)), .val (.int (vk3m00_55 p0)), .val (.int (vk3m00_61 p1)), .val (.int (vk3m00_67 p3)), .val (.ref b4), .val (.long (vk3m00_240 p0)), .second, .unset, .unset, .unset]
abbrev Lak3m00_12 (p0 : Int32) (p1 : Int32) (p2 : Int32) (p3 : Int32) (p4 : Int32) (b4 : Addr) : Array Slot := #[.val (.int p0), .val (.int p1), .val (.int p2), .val (.int p3), .val (.int p4), .val (.int (3 : Int32)), .val (.int (0 : Int32)), .val (.int (vk3m00_28 p0)), .val (.int (vk3m00_37 p0)), .val (.int (vk3m00_46 p0)), .val (.int (vk3m00_55 p0)), .val (.int (vk3m00_61 p1)), .val (.int (vk3m00_67 p3)), .val (.ref b4), .val (.long (vk3m00_258 p0)), .second, .unset, .unset, .unset]
abbrev Lak3m00_13 (p0 : Int32) (p1 : Int32) (p2 : Int32) (p3 : Int32) (p4 : Int32) (b4 : Addr) (b8 : Addr) : Array Slot := #[.val (.int p0), .val (.int p1), .val (.int p2), .val (.int p3), .val (.int p4), .val (.int (3 : Int32)), .val (.int (0 : Int32)), .val (.int (vk3m00_28 p0)), .val (.int (vk3m00_37 p0)), .val (.int (vk3m00_46 p0)), .val (.int (vk3m00_55 p0)), .val (.int (vk3m00_61 p1)), .val (.int (vk3m00_67 p3)), .val (.ref b4), .val (.long (vk3m00_258 p0)), .second, .val (.ref b8), .unset, .unset]
abbrev Lak3m00_14 (p0 : Int32) (p1 : Int32) (p2 : Int32) (p3 : Int32) (p4 : Int32) (b4 : Addr) (b8 : Addr) : Array Slot := #[.val (.int p0), .val (.int p1), .val (.int p2), .val (.int p3), .val (.int p4), .val (.int (3 : Int32)), .val (.int (0 : Int32)), .val (.int (vk3m00_28 p0)), .val (.int (vk3m00_37 p0)), .val (.int (vk3m00_46 p0)), .val (.int (vk3m00_55 p0)), .val (.int (vk3m00_61 p1)), .val (.int (vk3m00_67 p3)), .val (.ref b4), .val (.long (vk3m00_258 p0)), .second, .val (.ref b8), .val (.int (vk3m00_312 p0)), .unset]
set_option maxRecDepth 65536 in
set_option maxHeartbeats 40000000 in
theorem j0k3m0 {p : Program} {l : Launch} {e : Env} {s : State} {m : MethodId} {args : Array Value} {below : List Frame} {meth : Method} {c : Code} {T0 : State} {locs : List Loc} {Z : State} {a0 : Array Value} {h0 : Heap} {n0 : Nat}
    (X0 : Stand p l e room_1 s m args below meth c T0 locs 0 0) (hx : p.tables.exec = Jvm.exec) (hZ : Z.Warmed39 s.vm) (hw : ∀ d ∈ tables_1, d.before a0 Z = true) (hby : c.code = code) (hml : c.maxLocals = 19) (hown : s.vm.findClass "com/example/faden/faden/rank/RecordReaderNumberPinLaw" = some m.cls) (hnm : meth.name = "law") (e0 : T0.heap = h0) (N0 : Fr n0 locs) (Z0 : n0 ≤ h0.size) (p0 : Int32) (p1 : Int32) (p2 : Int32) (p3 : Int32) (p4 : Int32) (hk : vk3m00_8 p2 = (3 : Int32)) (hm : vk3m00_22 p4 = (0 : Int32)) :
    OwnFin X0 (some .boolean) (LQ n0) room_1.cells room_1.slots (mkF m 0 #[.val (.int p0), .val (.int p1), .val (.int p2), .val (.int p3), .val (.int p4), .unset, .unset, .unset, .unset, .unset, .unset, .unset, .unset, .unset, .unset, .unset, .unset, .unset, .unset] []) := by
  refine OwnFin.step (g' := (mkF m 1 (Lak3m00_0 p0 p1 p2 p3 p4) [(.int p2)])) X0 (fun t k => XS.iloadN X0.here hx rfl (hb hby at_0) rfl k) ?_
  refine OwnFin.step (g' := (mkF m 3 (Lak3m00_0 p0 p1 p2 p3 p4) [(.int (2147483647 : Int32)), (.int p2)])) X0 (fun t k => X0.ldcInt hx hown (mvT hZ (hw _ (wm 0 rfl))) (g := (mkF m 1 (Lak3m00_0 p0 p1 p2 p3 p4) [(.int p2)])) rfl (hb hby at_1) _ k) ?_
  refine OwnFin.step (g' := (mkF m 4 (Lak3m00_0 p0 p1 p2 p3 p4) [(.int (p2 &&& (2147483647 : Int32)))])) X0 (fun t k => XS.iand X0.here hx rfl (hb hby at_3) rfl k) ?_
  refine OwnFin.step (g' := (mkF m 5 (Lak3m00_0 p0 p1 p2 p3 p4) [(.int (5 : Int32)), (.int (p2 &&& (2147483647 : Int32)))])) X0 (fun t k => XS.iconst X0.here hx rfl (hb hby at_4) k) ?_
  refine OwnFin.step (g' := (mkF m 6 (Lak3m00_0 p0 p1 p2 p3 p4) [(.int ((p2 &&& (2147483647 : Int32)) % (5 : Int32)))])) X0 (fun t k => iremM (g := (mkF m 5 (Lak3m00_0 p0 p1 p2 p3 p4) [(.int (5 : Int32)), (.int (p2 &&& (2147483647 : Int32)))])) X0 hx rfl (hb hby at_5) rfl (by decide) k) ?_
  refine OwnFin.step (g' := (mkF m 7 (Lak3m00_0 p0 p1 p2 p3 p4) [(.int (1 : Int32)), (.int ((p2 &&& (2147483647 : Int32)) % (5 : Int32)))])) X0 (fun t k => XS.iconst X0.here hx rfl (hb hby at_6) k) ?_
  refine OwnFin.step (g' := (mkF m 8 (Lak3m00_0 p0 p1 p2 p3 p4) [(.int (((p2 &&& (2147483647 : Int32)) % (5 : Int32)) + (1 : Int32)))])) X0 (fun t k => XS.iadd X0.here hx rfl (hb hby at_7) rfl k) ?_
  refine OwnFin.step (g' := (mkF m 10 #[.val (.int p0), .val (.int p1), .val (.int p2), .val (.int p3), .val (.int p4), .val (.int (vk3m00_8 p2)), .unset, .unset, .unset, .unset, .unset, .unset, .unset, .unset, .unset, .unset, .unset, .unset, .unset] [])) X0 (fun t k => XS.istore X0.here hx rfl (hb hby at_8) rfl (l' := #[.val (.int p0), .val (.int p1), .val (.int p2), .val (.int p3), .val (.int p4), .val (.int (vk3m00_8 p2)), .unset, .unset, .unset, .unset, .unset, .unset, .unset, .unset, .unset, .unset, .unset, .unset, .unset]) rfl k) ?_
  rw [hk]
  refine OwnFin.step (g' := (mkF m 12 (Lak3m00_1 p0 p1 p2 p3 p4) [(.int p4)])) X0 (fun t k => XS.iload X0.here hx rfl (hb hby at_10) rfl k) ?_
  refine OwnFin.step (g' := (mkF m 13 (Lak3m00_1 p0 p1 p2 p3 p4) [(.int (1 : Int32)), (.int p4)])) X0 (fun t k => XS.iconst X0.here hx rfl (hb hby at_12) k) ?_
  refine OwnFin.step (g' := (mkF m 14 (Lak3m00_1 p0 p1 p2 p3 p4) [(.int (p4 &&& (1 : Int32)))])) X0 (fun t k => XS.iand X0.here hx rfl (hb hby at_13) rfl k) ?_
  refine OwnFin.step (g' := (mkF m 22 #[.val (.int p0), .val (.int p1), .val (.int p2), .val (.int p3), .val (.int p4), .val (.int (3 : Int32)), .unset, .unset, .unset, .unset, .unset, .unset, .unset, .unset, .unset, .unset, .unset, .unset, .unset] [(.int (vk3m00_22 p4))])) X0 (fun t k => ?_) ?_
  · show Steps p.tables e below (T0.setTop (mkF m 14 (Lak3m00_1 p0 p1 p2 p3 p4) [(.int (p4 &&& (1 : Int32)))])) t
    by_cases hc1 : (p4 &&& (1 : Int32)) = (0 : Int32)
    · skip
      refine XS.ifYes X0.here hx rfl (pc0 := 14) (pc' := 21) rfl (hb hby at_14) rfl ((if0 _ _).trans (teq hc1).1) (by decide) (by decide) ?_
      show Steps p.tables e below (T0.setTop (mkF m 21 (Lak3m00_1 p0 p1 p2 p3 p4) [])) t
      refine XS.iconst X0.here hx rfl (hb hby at_21) ?_
      show Steps p.tables e below (T0.setTop (mkF m 22 (Lak3m00_1 p0 p1 p2 p3 p4) [(.int (0 : Int32))])) t
      have qq2 : (vk3m00_22 p4) = (0 : Int32) := by
        show (if (p4 &&& (1 : Int32)) = (0 : Int32) then (0 : Int32) else (1 : Int32)) = (0 : Int32)
        simp only [if_pos hc1]
      rw [qq2] at k
      exact k
    · skip
      refine XS.ifNo X0.here hx rfl (hb hby at_14) rfl ((if0 _ _).trans (feq hc1).1) ?_
      show Steps p.tables e below (T0.setTop (mkF m 17 (Lak3m00_1 p0 p1 p2 p3 p4) [])) t
      refine XS.iconst X0.here hx rfl (hb hby at_17) ?_
      show Steps p.tables e below (T0.setTop (mkF m 18 (Lak3m00_1 p0 p1 p2 p3 p4) [(.int (1 : Int32))])) t
      refine XS.goto X0.here hx rfl (pc0 := 18) (pc' := 22) rfl (hb hby at_18) (by decide) (by decide) ?_
      show Steps p.tables e below (T0.setTop (mkF m 22 (Lak3m00_1 p0 p1 p2 p3 p4) [(.int (1 : Int32))])) t
      have qq3 : (vk3m00_22 p4) = (1 : Int32) := by
        show (if (p4 &&& (1 : Int32)) = (0 : Int32) then (0 : Int32) else (1 : Int32)) = (1 : Int32)
        simp only [if_neg hc1]
      rw [qq3] at k
      exact k
  refine OwnFin.step (g' := (mkF m 24 #[.val (.int p0), .val (.int p1), .val (.int p2), .val (.int p3), .val (.int p4), .val (.int (3 : Int32)), .val (.int (vk3m00_22 p4)), .unset, .unset, .unset, .unset, .unset, .unset, .unset, .unset, .unset, .unset, .unset, .unset] [])) X0 (fun t k => XS.istore X0.here hx rfl (hb hby at_22) rfl (l' := #[.val (.int p0), .val (.int p1), .val (.int p2), .val (.int p3), .val (.int p4), .val (.int (3 : Int32)), .val (.int (vk3m00_22 p4)), .unset, .unset, .unset, .unset, .unset, .unset, .unset, .unset, .unset, .unset, .unset, .unset]) rfl k) ?_
  rw [hm]
  refine OwnFin.step (g' := (mkF m 25 (Lak3m00_2 p0 p1 p2 p3 p4) [(.int p0)])) X0 (fun t k => XS.iloadN X0.here hx rfl (hb hby at_24) rfl k) ?_
  refine OwnFin.step (g' := (mkF m 27 (Lak3m00_2 p0 p1 p2 p3 p4) [(.int (127 : Int32)), (.int p0)])) X0 (fun t k => XS.bipush X0.here hx rfl (hb hby at_25) k) ?_
  refine OwnFin.step (g' := (mkF m 28 (Lak3m00_2 p0 p1 p2 p3 p4) [(.int (p0 &&& (127 : Int32)))])) X0 (fun t k => XS.iand X0.here hx rfl (hb hby at_27) rfl k) ?_
  refine OwnFin.step (g' := (mkF m 30 (Lak3m00_3 p0 p1 p2 p3 p4) [])) X0 (fun t k => XS.istore X0.here hx rfl (hb hby at_28) rfl (l' := (Lak3m00_3 p0 p1 p2 p3 p4)) rfl k) ?_
  refine OwnFin.step (g' := (mkF m 31 (Lak3m00_3 p0 p1 p2 p3 p4) [(.int p0)])) X0 (fun t k => XS.iloadN X0.here hx rfl (hb hby at_30) rfl k) ?_
  refine OwnFin.step (g' := (mkF m 33 (Lak3m00_3 p0 p1 p2 p3 p4) [(.int (8 : Int32)), (.int p0)])) X0 (fun t k => XS.bipush X0.here hx rfl (hb hby at_31) k) ?_
  refine OwnFin.step (g' := (mkF m 34 (Lak3m00_3 p0 p1 p2 p3 p4) [(.int (XT.ushr p0 (8 : Int32)))])) X0 (fun t k => XT.iushr X0.here hx rfl (hb hby at_33) rfl k) ?_
  refine OwnFin.step (g' := (mkF m 36 (Lak3m00_3 p0 p1 p2 p3 p4) [(.int (127 : Int32)), (.int (XT.ushr p0 (8 : Int32)))])) X0 (fun t k => XS.bipush X0.here hx rfl (hb hby at_34) k) ?_
  refine OwnFin.step (g' := (mkF m 37 (Lak3m00_3 p0 p1 p2 p3 p4) [(.int ((XT.ushr p0 (8 : Int32)) &&& (127 : Int32)))])) X0 (fun t k => XS.iand X0.here hx rfl (hb hby at_36) rfl k) ?_
  refine OwnFin.step (g' := (mkF m 39 (Lak3m00_4 p0 p1 p2 p3 p4) [])) X0 (fun t k => XS.istore X0.here hx rfl (hb hby at_37) rfl (l' := (Lak3m00_4 p0 p1 p2 p3 p4)) rfl k) ?_
  refine OwnFin.step (g' := (mkF m 40 (Lak3m00_4 p0 p1 p2 p3 p4) [(.int p0)])) X0 (fun t k => XS.iloadN X0.here hx rfl (hb hby at_39) rfl k) ?_
  refine OwnFin.step (g' := (mkF m 42 (Lak3m00_4 p0 p1 p2 p3 p4) [(.int (16 : Int32)), (.int p0)])) X0 (fun t k => XS.bipush X0.here hx rfl (hb hby at_40) k) ?_
  refine OwnFin.step (g' := (mkF m 43 (Lak3m00_4 p0 p1 p2 p3 p4) [(.int (XT.ushr p0 (16 : Int32)))])) X0 (fun t k => XT.iushr X0.here hx rfl (hb hby at_42) rfl k) ?_
  refine OwnFin.step (g' := (mkF m 45 (Lak3m00_4 p0 p1 p2 p3 p4) [(.int (127 : Int32)), (.int (XT.ushr p0 (16 : Int32)))])) X0 (fun t k => XS.bipush X0.here hx rfl (hb hby at_43) k) ?_
  refine OwnFin.step (g' := (mkF m 46 (Lak3m00_4 p0 p1 p2 p3 p4) [(.int ((XT.ushr p0 (16 : Int32)) &&& (127 : Int32)))])) X0 (fun t k => XS.iand X0.here hx rfl (hb hby at_45) rfl k) ?_
  refine OwnFin.step (g' := (mkF m 48 (Lak3m00_5 p0 p1 p2 p3 p4) [])) X0 (fun t k => XS.istore X0.here hx rfl (hb hby at_46) rfl (l' := (Lak3m00_5 p0 p1 p2 p3 p4)) rfl k) ?_
  refine OwnFin.step (g' := (mkF m 49 (Lak3m00_5 p0 p1 p2 p3 p4) [(.int p0)])) X0 (fun t k => XS.iloadN X0.here hx rfl (hb hby at_48) rfl k) ?_
  refine OwnFin.step (g' := (mkF m 51 (Lak3m00_5 p0 p1 p2 p3 p4) [(.int (24 : Int32)), (.int p0)])) X0 (fun t k => XS.bipush X0.here hx rfl (hb hby at_49) k) ?_
  refine OwnFin.step (g' := (mkF m 52 (Lak3m00_5 p0 p1 p2 p3 p4) [(.int (XT.ushr p0 (24 : Int32)))])) X0 (fun t k => XT.iushr X0.here hx rfl (hb hby at_51) rfl k) ?_
  refine OwnFin.step (g' := (mkF m 54 (Lak3m00_5 p0 p1 p2 p3 p4) [(.int (127 : Int32)), (.int (XT.ushr p0 (24 : Int32)))])) X0 (fun t k => XS.bipush X0.here hx rfl (hb hby at_52) k) ?_
  refine OwnFin.step (g' := (mkF m 55 (Lak3m00_5 p0 p1 p2 p3 p4) [(.int ((XT.ushr p0 (24 : Int32)) &&& (127 : Int32)))])) X0 (fun t k => XS.iand X0.here hx rfl (hb hby at_54) rfl k) ?_
  refine OwnFin.step (g' := (mkF m 57 (Lak3m00_6 p0 p1 p2 p3 p4) [])) X0 (fun t k => XS.istore X0.here hx rfl (hb hby at_55) rfl (l' := (Lak3m00_6 p0 p1 p2 p3 p4)) rfl k) ?_
  refine OwnFin.step (g' := (mkF m 58 (Lak3m00_6 p0 p1 p2 p3 p4) [(.int p1)])) X0 (fun t k => XS.iloadN X0.here hx rfl (hb hby at_57) rfl k) ?_
  refine OwnFin.step (g' := (mkF m 60 (Lak3m00_6 p0 p1 p2 p3 p4) [(.int (7 : Int32)), (.int p1)])) X0 (fun t k => XS.bipush X0.here hx rfl (hb hby at_58) k) ?_
  refine OwnFin.step (g' := (mkF m 61 (Lak3m00_6 p0 p1 p2 p3 p4) [(.int (p1 &&& (7 : Int32)))])) X0 (fun t k => XS.iand X0.here hx rfl (hb hby at_60) rfl k) ?_
  refine OwnFin.step (g' := (mkF m 63 (Lak3m00_7 p0 p1 p2 p3 p4) [])) X0 (fun t k => XS.istore X0.here hx rfl (hb hby at_61) rfl (l' := (Lak3m00_7 p0 p1 p2 p3 p4)) rfl k) ?_
  refine OwnFin.step (g' := (mkF m 64 (Lak3m00_7 p0 p1 p2 p3 p4) [(.int p3)])) X0 (fun t k => XS.iloadN X0.here hx rfl (hb hby at_63) rfl k) ?_
  refine OwnFin.step (g' := (mkF m 66 (Lak3m00_7 p0 p1 p2 p3 p4) [(.int (127 : Int32)), (.int p3)])) X0 (fun t k => XS.bipush X0.here hx rfl (hb hby at_64) k) ?_
  refine OwnFin.step (g' := (mkF m 67 (Lak3m00_7 p0 p1 p2 p3 p4) [(.int (p3 &&& (127 : Int32)))])) X0 (fun t k => XS.iand X0.here hx rfl (hb hby at_66) rfl k) ?_
  refine OwnFin.step (g' := (mkF m 69 (Lak3m00_8 p0 p1 p2 p3 p4) [])) X0 (fun t k => XS.istore X0.here hx rfl (hb hby at_67) rfl (l' := (Lak3m00_8 p0 p1 p2 p3 p4)) rfl k) ?_
  refine OwnFin.step (g' := (mkF m 71 (Lak3m00_8 p0 p1 p2 p3 p4) [(.int (0 : Int32))])) X0 (fun t k => XS.iload X0.here hx rfl (hb hby at_69) rfl k) ?_
  refine OwnFin.step (g' := (mkF m 81 (Lak3m00_8 p0 p1 p2 p3 p4) [])) X0 (fun t k => XS.ifYes X0.here hx rfl (pc0 := 71) (pc' := 81) rfl (hb hby at_71) rfl ((if0 _ _).trans (teq (show (0 : Int32) = (0 : Int32) by first | rfl | decide)).1) (by decide) (by decide) k) ?_
  refine OwnFin.step (g' := (mkF m 83 (Lak3m00_8 p0 p1 p2 p3 p4) [(.int (3 : Int32))])) X0 (fun t k => XS.iload X0.here hx rfl (hb hby at_81) rfl k) ?_
  obtain ⟨T4, h4, b4, X4, e4, y4, K4, A4, st4⟩ := own_new X0 hx hZ (hw _ (wm 1 rfl)) e0 (g := (mkF m 83 (Lak3m00_8 p0 p1 p2 p3 p4) [(.int (3 : Int32))])) rfl (hb hby at_83) rfl (by decide) (cap := 3) (by decide) (by decide) (by decide) (by decide)
  have B4 : Ary Z h4 b4 .byte 3 (fun i => .int ((fun _ => (0 : Int32)) i)) := A4
  have g_b4 : n0 ≤ b4 := by rw [y4]; exact Z0
  have Z4 := Nat.le_trans Z0 K4.1
  refine OwnFin.step (g' := (mkF m 85 (Lak3m00_8 p0 p1 p2 p3 p4) [(.ref b4)])) X4 (fun t k => st4 _ k) ?_
  refine OwnFin.step (g' := (mkF m 87 (Lak3m00_9 p0 p1 p2 p3 p4 b4) [])) X4 (fun t k => XS.astore X4.here hx rfl (hb hby at_85) rfl rfl (l' := (Lak3m00_9 p0 p1 p2 p3 p4 b4)) rfl k) ?_
  refine OwnFin.step (g' := (mkF m 89 (Lak3m00_9 p0 p1 p2 p3 p4 b4) [(.ref b4)])) X4 (fun t k => XS.aload X4.here hx rfl (hb hby at_87) rfl rfl k) ?_
  refine OwnFin.step (g' := (mkF m 90 (Lak3m00_9 p0 p1 p2 p3 p4 b4) [(.int (0 : Int32)), (.ref b4)])) X4 (fun t k => XS.iconst X4.here hx rfl (hb hby at_89) k) ?_
  refine OwnFin.step (g' := (mkF m 92 (Lak3m00_9 p0 p1 p2 p3 p4 b4) [(.int (3 : Int32)), (.int (0 : Int32)), (.ref b4)])) X4 (fun t k => XS.iload X4.here hx rfl (hb hby at_90) rfl k) ?_
  refine OwnFin.step (g' := (mkF m 93 (Lak3m00_9 p0 p1 p2 p3 p4 b4) [(.int (1 : Int32)), (.int (3 : Int32)), (.int (0 : Int32)), (.ref b4)])) X4 (fun t k => XS.iconst X4.here hx rfl (hb hby at_92) k) ?_
  refine OwnFin.step (g' := (mkF m 96 (Lak3m00_9 p0 p1 p2 p3 p4 b4) [(.int (0 : Int32)), (.ref b4)])) X4 (fun t k => XS.icmpNo X4.here hx rfl (hb hby at_93) rfl (tlt (show (1 : Int32) < (3 : Int32) by first | rfl | decide)).2.2.2 k) ?_
  refine OwnFin.step (g' := (mkF m 98 (Lak3m00_9 p0 p1 p2 p3 p4 b4) [(.int (vk3m00_28 p0)), (.int (0 : Int32)), (.ref b4)])) X4 (fun t k => XS.iload X4.here hx rfl (hb hby at_96) rfl k) ?_
  refine OwnFin.step (g' := (mkF m 101 (Lak3m00_9 p0 p1 p2 p3 p4 b4) [(.int (128 : Int32)), (.int (vk3m00_28 p0)), (.int (0 : Int32)), (.ref b4)])) X4 (fun t k => XS.sipush X4.here hx rfl (hb hby at_98) k) ?_
  refine OwnFin.step (g' := (mkF m 102 (Lak3m00_9 p0 p1 p2 p3 p4 b4) [(.int ((vk3m00_28 p0) ||| (128 : Int32))), (.int (0 : Int32)), (.ref b4)])) X4 (fun t k => XT.ior X4.here hx rfl (hb hby at_101) rfl k) ?_
  refine OwnFin.step (g' := (mkF m 107 (Lak3m00_9 p0 p1 p2 p3 p4 b4) [(.int ((vk3m00_28 p0) ||| (128 : Int32))), (.int (0 : Int32)), (.ref b4)])) X4 (fun t k => XS.goto X4.here hx rfl (pc0 := 102) (pc' := 107) rfl (hb hby at_102) (by decide) (by decide) k) ?_
  refine OwnFin.step (g' := (mkF m 108 (Lak3m00_9 p0 p1 p2 p3 p4 b4) [(.int (((vk3m00_28 p0) ||| (128 : Int32)).toInt8.toInt32)), (.int (0 : Int32)), (.ref b4)])) X4 (fun t k => XT.i2b X4.here hx rfl (hb hby at_107) rfl k) ?_
  obtain ⟨T5, h5, L5, X5, e5, N5, K5, A5, st5⟩ := own_stB X4 hx hZ e4 N0 (G := (fun _ => (0 : Int32))) B4 g_b4 (j := (0 : Int32)) (x := (((vk3m00_28 p0) ||| (128 : Int32)).toInt8.toInt32)) (by decide) (g := (mkF m 108 (Lak3m00_9 p0 p1 p2 p3 p4 b4) [(.int (((vk3m00_28 p0) ||| (128 : Int32)).toInt8.toInt32)), (.int (0 : Int32)), (.ref b4)])) rfl rfl (hb hby at_108)
  have B5 : Ary Z h5 b4 .byte 3 (fun i => .int ((Gk3m00_108 p0) i)) := A5
  have Z5 := Nat.le_trans Z4 K5.1
  refine OwnFin.step (g' := (mkF m 109 (Lak3m00_9 p0 p1 p2 p3 p4 b4) [])) X5 (fun t k => st5 _ k) ?_
  refine OwnFin.step (g' := (mkF m 111 (Lak3m00_9 p0 p1 p2 p3 p4 b4) [(.int (3 : Int32))])) X5 (fun t k => XS.iload X5.here hx rfl (hb hby at_109) rfl k) ?_
  refine OwnFin.step (g' := (mkF m 112 (Lak3m00_9 p0 p1 p2 p3 p4 b4) [(.int (1 : Int32)), (.int (3 : Int32))])) X5 (fun t k => XS.iconst X5.here hx rfl (hb hby at_111) k) ?_
  refine OwnFin.step (g' := (mkF m 115 (Lak3m00_9 p0 p1 p2 p3 p4 b4) [])) X5 (fun t k => XS.icmpNo X5.here hx rfl (hb hby at_112) rfl (tlt (show (1 : Int32) < (3 : Int32) by first | rfl | decide)).2.2.2 k) ?_
  refine OwnFin.step (g' := (mkF m 117 (Lak3m00_9 p0 p1 p2 p3 p4 b4) [(.ref b4)])) X5 (fun t k => XS.aload X5.here hx rfl (hb hby at_115) rfl rfl k) ?_
  refine OwnFin.step (g' := (mkF m 118 (Lak3m00_9 p0 p1 p2 p3 p4 b4) [(.int (1 : Int32)), (.ref b4)])) X5 (fun t k => XS.iconst X5.here hx rfl (hb hby at_117) k) ?_
  refine OwnFin.step (g' := (mkF m 120 (Lak3m00_9 p0 p1 p2 p3 p4 b4) [(.int (3 : Int32)), (.int (1 : Int32)), (.ref b4)])) X5 (fun t k => XS.iload X5.here hx rfl (hb hby at_118) rfl k) ?_
  refine OwnFin.step (g' := (mkF m 121 (Lak3m00_9 p0 p1 p2 p3 p4 b4) [(.int (2 : Int32)), (.int (3 : Int32)), (.int (1 : Int32)), (.ref b4)])) X5 (fun t k => XS.iconst X5.here hx rfl (hb hby at_120) k) ?_
  refine OwnFin.step (g' := (mkF m 124 (Lak3m00_9 p0 p1 p2 p3 p4 b4) [(.int (1 : Int32)), (.ref b4)])) X5 (fun t k => XS.icmpNo X5.here hx rfl (hb hby at_121) rfl (tlt (show (2 : Int32) < (3 : Int32) by first | rfl | decide)).2.2.2 k) ?_
  refine OwnFin.step (g' := (mkF m 126 (Lak3m00_9 p0 p1 p2 p3 p4 b4) [(.int (vk3m00_37 p0)), (.int (1 : Int32)), (.ref b4)])) X5 (fun t k => XS.iload X5.here hx rfl (hb hby at_124) rfl k) ?_
  refine OwnFin.step (g' := (mkF m 129 (Lak3m00_9 p0 p1 p2 p3 p4 b4) [(.int (128 : Int32)), (.int (vk3m00_37 p0)), (.int (1 : Int32)), (.ref b4)])) X5 (fun t k => XS.sipush X5.here hx rfl (hb hby at_126) k) ?_
  refine OwnFin.step (g' := (mkF m 130 (Lak3m00_9 p0 p1 p2 p3 p4 b4) [(.int ((vk3m00_37 p0) ||| (128 : Int32))), (.int (1 : Int32)), (.ref b4)])) X5 (fun t k => XT.ior X5.here hx rfl (hb hby at_129) rfl k) ?_
  refine OwnFin.step (g' := (mkF m 135 (Lak3m00_9 p0 p1 p2 p3 p4 b4) [(.int ((vk3m00_37 p0) ||| (128 : Int32))), (.int (1 : Int32)), (.ref b4)])) X5 (fun t k => XS.goto X5.here hx rfl (pc0 := 130) (pc' := 135) rfl (hb hby at_130) (by decide) (by decide) k) ?_
  refine OwnFin.step (g' := (mkF m 136 (Lak3m00_9 p0 p1 p2 p3 p4 b4) [(.int (((vk3m00_37 p0) ||| (128 : Int32)).toInt8.toInt32)), (.int (1 : Int32)), (.ref b4)])) X5 (fun t k => XT.i2b X5.here hx rfl (hb hby at_135) rfl k) ?_
  obtain ⟨T6, h6, L6, X6, e6, N6, K6, A6, st6⟩ := own_stB X5 hx hZ e5 N5 (G := (Gk3m00_108 p0)) B5 g_b4 (j := (1 : Int32)) (x := (((vk3m00_37 p0) ||| (128 : Int32)).toInt8.toInt32)) (by decide) (g := (mkF m 136 (Lak3m00_9 p0 p1 p2 p3 p4 b4) [(.int (((vk3m00_37 p0) ||| (128 : Int32)).toInt8.toInt32)), (.int (1 : Int32)), (.ref b4)])) rfl rfl (hb hby at_136)
  have B6 : Ary Z h6 b4 .byte 3 (fun i => .int ((Gk3m00_136 p0) i)) := A6
  have Z6 := Nat.le_trans Z5 K6.1
  refine OwnFin.step (g' := (mkF m 137 (Lak3m00_9 p0 p1 p2 p3 p4 b4) [])) X6 (fun t k => st6 _ k) ?_
  refine OwnFin.step (g' := (mkF m 139 (Lak3m00_9 p0 p1 p2 p3 p4 b4) [(.int (3 : Int32))])) X6 (fun t k => XS.iload X6.here hx rfl (hb hby at_137) rfl k) ?_
  refine OwnFin.step (g' := (mkF m 140 (Lak3m00_9 p0 p1 p2 p3 p4 b4) [(.int (2 : Int32)), (.int (3 : Int32))])) X6 (fun t k => XS.iconst X6.here hx rfl (hb hby at_139) k) ?_
  refine OwnFin.step (g' := (mkF m 143 (Lak3m00_9 p0 p1 p2 p3 p4 b4) [])) X6 (fun t k => XS.icmpNo X6.here hx rfl (hb hby at_140) rfl (tlt (show (2 : Int32) < (3 : Int32) by first | rfl | decide)).2.2.2 k) ?_
  refine OwnFin.step (g' := (mkF m 145 (Lak3m00_9 p0 p1 p2 p3 p4 b4) [(.ref b4)])) X6 (fun t k => XS.aload X6.here hx rfl (hb hby at_143) rfl rfl k) ?_
  refine OwnFin.step (g' := (mkF m 146 (Lak3m00_9 p0 p1 p2 p3 p4 b4) [(.int (2 : Int32)), (.ref b4)])) X6 (fun t k => XS.iconst X6.here hx rfl (hb hby at_145) k) ?_
  refine OwnFin.step (g' := (mkF m 148 (Lak3m00_9 p0 p1 p2 p3 p4 b4) [(.int (3 : Int32)), (.int (2 : Int32)), (.ref b4)])) X6 (fun t k => XS.iload X6.here hx rfl (hb hby at_146) rfl k) ?_
  refine OwnFin.step (g' := (mkF m 149 (Lak3m00_9 p0 p1 p2 p3 p4 b4) [(.int (3 : Int32)), (.int (3 : Int32)), (.int (2 : Int32)), (.ref b4)])) X6 (fun t k => XS.iconst X6.here hx rfl (hb hby at_148) k) ?_
  refine OwnFin.step (g' := (mkF m 161 (Lak3m00_9 p0 p1 p2 p3 p4 b4) [(.int (2 : Int32)), (.ref b4)])) X6 (fun t k => XS.icmpYes X6.here hx rfl (pc0 := 149) (pc' := 161) rfl (hb hby at_149) rfl (flt (show ¬ ((3 : Int32) < (3 : Int32)) by first | decide | exact Int32.lt_irrefl _ | exact Int64.lt_irrefl _)).2.2.2 (by decide) (by decide) k) ?_
  refine OwnFin.step (g' := (mkF m 163 (Lak3m00_9 p0 p1 p2 p3 p4 b4) [(.int (vk3m00_46 p0)), (.int (2 : Int32)), (.ref b4)])) X6 (fun t k => XS.iload X6.here hx rfl (hb hby at_161) rfl k) ?_
  refine OwnFin.step (g' := (mkF m 164 (Lak3m00_9 p0 p1 p2 p3 p4 b4) [(.int ((vk3m00_46 p0).toInt8.toInt32)), (.int (2 : Int32)), (.ref b4)])) X6 (fun t k => XT.i2b X6.here hx rfl (hb hby at_163) rfl k) ?_
  obtain ⟨T7, h7, L7, X7, e7, N7, K7, A7, st7⟩ := own_stB X6 hx hZ e6 N6 (G := (Gk3m00_136 p0)) B6 g_b4 (j := (2 : Int32)) (x := ((vk3m00_46 p0).toInt8.toInt32)) (by decide) (g := (mkF m 164 (Lak3m00_9 p0 p1 p2 p3 p4 b4) [(.int ((vk3m00_46 p0).toInt8.toInt32)), (.int (2 : Int32)), (.ref b4)])) rfl rfl (hb hby at_164)
  have B7 : Ary Z h7 b4 .byte 3 (fun i => .int ((Gk3m00_164 p0) i)) := A7
  have Z7 := Nat.le_trans Z6 K7.1
  refine OwnFin.step (g' := (mkF m 165 (Lak3m00_9 p0 p1 p2 p3 p4 b4) [])) X7 (fun t k => st7 _ k) ?_
  refine OwnFin.step (g' := (mkF m 167 (Lak3m00_9 p0 p1 p2 p3 p4 b4) [(.int (3 : Int32))])) X7 (fun t k => XS.iload X7.here hx rfl (hb hby at_165) rfl k) ?_
  refine OwnFin.step (g' := (mkF m 168 (Lak3m00_9 p0 p1 p2 p3 p4 b4) [(.int (3 : Int32)), (.int (3 : Int32))])) X7 (fun t k => XS.iconst X7.here hx rfl (hb hby at_167) k) ?_
  refine OwnFin.step (g' := (mkF m 193 (Lak3m00_9 p0 p1 p2 p3 p4 b4) [])) X7 (fun t k => XS.icmpYes X7.here hx rfl (pc0 := 168) (pc' := 193) rfl (hb hby at_168) rfl (flt (show ¬ ((3 : Int32) < (3 : Int32)) by first | decide | exact Int32.lt_irrefl _ | exact Int64.lt_irrefl _)).2.2.2 (by decide) (by decide) k) ?_
  refine OwnFin.step (g' := (mkF m 195 (Lak3m00_9 p0 p1 p2 p3 p4 b4) [(.int (3 : Int32))])) X7 (fun t k => XS.iload X7.here hx rfl (hb hby at_193) rfl k) ?_
  refine OwnFin.step (g' := (mkF m 196 (Lak3m00_9 p0 p1 p2 p3 p4 b4) [(.int (4 : Int32)), (.int (3 : Int32))])) X7 (fun t k => XS.iconst X7.here hx rfl (hb hby at_195) k) ?_
  refine OwnFin.step (g' := (mkF m 206 (Lak3m00_9 p0 p1 p2 p3 p4 b4) [])) X7 (fun t k => XS.icmpYes X7.here hx rfl (pc0 := 196) (pc' := 206) rfl (hb hby at_196) rfl (flt (show ¬ ((4 : Int32) < (3 : Int32)) by first | decide | exact Int32.lt_irrefl _ | exact Int64.lt_irrefl _)).2.2.2 (by decide) (by decide) k) ?_
  refine OwnFin.step (g' := (mkF m 208 (Lak3m00_9 p0 p1 p2 p3 p4 b4) [(.int (0 : Int32))])) X7 (fun t k => XS.iload X7.here hx rfl (hb hby at_206) rfl k) ?_
  refine OwnFin.step (g' := (mkF m 219 (Lak3m00_9 p0 p1 p2 p3 p4 b4) [])) X7 (fun t k => XS.ifYes X7.here hx rfl (pc0 := 208) (pc' := 219) rfl (hb hby at_208) rfl ((if0 _ _).trans (teq (show (0 : Int32) = (0 : Int32) by first | rfl | decide)).1) (by decide) (by decide) k) ?_
  refine OwnFin.step (g' := (mkF m 221 (Lak3m00_9 p0 p1 p2 p3 p4 b4) [(.int (vk3m00_28 p0))])) X7 (fun t k => XS.iload X7.here hx rfl (hb hby at_219) rfl k) ?_
  refine OwnFin.step (g' := (mkF m 222 (Lak3m00_9 p0 p1 p2 p3 p4 b4) [(.long ((vk3m00_28 p0).toInt64))])) X7 (fun t k => XT.i2l X7.here hx rfl (hb hby at_221) rfl k) ?_
  refine OwnFin.step (g' := (mkF m 224 (Lak3m00_10 p0 p1 p2 p3 p4 b4) [])) X7 (fun t k => XT.lstore X7.here hx rfl (hb hby at_222) rfl (l' := (Lak3m00_10 p0 p1 p2 p3 p4 b4)) rfl k) ?_
  refine OwnFin.step (g' := (mkF m 226 (Lak3m00_10 p0 p1 p2 p3 p4 b4) [(.int (3 : Int32))])) X7 (fun t k => XS.iload X7.here hx rfl (hb hby at_224) rfl k) ?_
  refine OwnFin.step (g' := (mkF m 227 (Lak3m00_10 p0 p1 p2 p3 p4 b4) [(.int (1 : Int32)), (.int (3 : Int32))])) X7 (fun t k => XS.iconst X7.here hx rfl (hb hby at_226) k) ?_
  refine OwnFin.step (g' := (mkF m 230 (Lak3m00_10 p0 p1 p2 p3 p4 b4) [])) X7 (fun t k => XS.icmpNo X7.here hx rfl (hb hby at_227) rfl (tlt (show (1 : Int32) < (3 : Int32) by first | rfl | decide)).2.2.2 k) ?_
  refine OwnFin.step (g' := (mkF m 232 (Lak3m00_10 p0 p1 p2 p3 p4 b4) [(.long (vk3m00_222 p0))])) X7 (fun t k => XT.lload X7.here hx rfl (hb hby at_230) rfl k) ?_
  refine OwnFin.step (g' := (mkF m 234 (Lak3m00_10 p0 p1 p2 p3 p4 b4) [(.int (vk3m00_37 p0)), (.long (vk3m00_222 p0))])) X7 (fun t k => XS.iload X7.here hx rfl (hb hby at_232) rfl k) ?_
  refine OwnFin.step (g' := (mkF m 235 (Lak3m00_10 p0 p1 p2 p3 p4 b4) [(.long ((vk3m00_37 p0).toInt64)), (.long (vk3m00_222 p0))])) X7 (fun t k => XT.i2l X7.here hx rfl (hb hby at_234) rfl k) ?_
  refine OwnFin.step (g' := (mkF m 238 (Lak3m00_10 p0 p1 p2 p3 p4 b4) [(.long (128 : Int64)), (.long ((vk3m00_37 p0).toInt64)), (.long (vk3m00_222 p0))])) X7 (fun t k => X7.ldc2Long hx hown (mvT hZ (hw _ (wm 2 rfl))) (g := (mkF m 235 (Lak3m00_10 p0 p1 p2 p3 p4 b4) [(.long ((vk3m00_37 p0).toInt64)), (.long (vk3m00_222 p0))])) rfl (hb hby at_235) _ k) ?_
  refine OwnFin.step (g' := (mkF m 239 (Lak3m00_10 p0 p1 p2 p3 p4 b4) [(.long (((vk3m00_37 p0).toInt64) * (128 : Int64))), (.long (vk3m00_222 p0))])) X7 (fun t k => XT.lmul X7.here hx rfl (hb hby at_238) rfl k) ?_
  refine OwnFin.step (g' := (mkF m 240 (Lak3m00_10 p0 p1 p2 p3 p4 b4) [(.long ((vk3m00_222 p0) + (((vk3m00_37 p0).toInt64) * (128 : Int64))))])) X7 (fun t k => XT.ladd X7.here hx rfl (hb hby at_239) rfl k) ?_
  refine OwnFin.step (g' := (mkF m 242 (Lak3m00_11 p0 p1 p2 p3 p4 b4) [])) X7 (fun t k => XT.lstore X7.here hx rfl (hb hby at_240) rfl (l' := (Lak3m00_11 p0 p1 p2 p3 p4 b4)) rfl k) ?_
  refine OwnFin.step (g' := (mkF m 244 (Lak3m00_11 p0 p1 p2 p3 p4 b4) [(.int (3 : Int32))])) X7 (fun t k => XS.iload X7.here hx rfl (hb hby at_242) rfl k) ?_
  refine OwnFin.step (g' := (mkF m 245 (Lak3m00_11 p0 p1 p2 p3 p4 b4) [(.int (2 : Int32)), (.int (3 : Int32))])) X7 (fun t k => XS.iconst X7.here hx rfl (hb hby at_244) k) ?_
  refine OwnFin.step (g' := (mkF m 248 (Lak3m00_11 p0 p1 p2 p3 p4 b4) [])) X7 (fun t k => XS.icmpNo X7.here hx rfl (hb hby at_245) rfl (tlt (show (2 : Int32) < (3 : Int32) by first | rfl | decide)).2.2.2 k) ?_
  refine OwnFin.step (g' := (mkF m 250 (Lak3m00_11 p0 p1 p2 p3 p4 b4) [(.long (vk3m00_240 p0))])) X7 (fun t k => XT.lload X7.here hx rfl (hb hby at_248) rfl k) ?_
  refine OwnFin.step (g' := (mkF m 252 (Lak3m00_11 p0 p1 p2 p3 p4 b4) [(.int (vk3m00_46 p0)), (.long (vk3m00_240 p0))])) X7 (fun t k => XS.iload X7.here hx rfl (hb hby at_250) rfl k) ?_
  refine OwnFin.step (g' := (mkF m 253 (Lak3m00_11 p0 p1 p2 p3 p4 b4) [(.long ((vk3m00_46 p0).toInt64)), (.long (vk3m00_240 p0))])) X7 (fun t k => XT.i2l X7.here hx rfl (hb hby at_252) rfl k) ?_
  refine OwnFin.step (g' := (mkF m 256 (Lak3m00_11 p0 p1 p2 p3 p4 b4) [(.long (16384 : Int64)), (.long ((vk3m00_46 p0).toInt64)), (.long (vk3m00_240 p0))])) X7 (fun t k => X7.ldc2Long hx hown (mvT hZ (hw _ (wm 3 rfl))) (g := (mkF m 253 (Lak3m00_11 p0 p1 p2 p3 p4 b4) [(.long ((vk3m00_46 p0).toInt64)), (.long (vk3m00_240 p0))])) rfl (hb hby at_253) _ k) ?_
  refine OwnFin.step (g' := (mkF m 257 (Lak3m00_11 p0 p1 p2 p3 p4 b4) [(.long (((vk3m00_46 p0).toInt64) * (16384 : Int64))), (.long (vk3m00_240 p0))])) X7 (fun t k => XT.lmul X7.here hx rfl (hb hby at_256) rfl k) ?_
  refine OwnFin.step (g' := (mkF m 258 (Lak3m00_11 p0 p1 p2 p3 p4 b4) [(.long ((vk3m00_240 p0) + (((vk3m00_46 p0).toInt64) * (16384 : Int64))))])) X7 (fun t k => XT.ladd X7.here hx rfl (hb hby at_257) rfl k) ?_
  refine OwnFin.step (g' := (mkF m 260 (Lak3m00_12 p0 p1 p2 p3 p4 b4) [])) X7 (fun t k => XT.lstore X7.here hx rfl (hb hby at_258) rfl (l' := (Lak3m00_12 p0 p1 p2 p3 p4 b4)) rfl k) ?_
  refine OwnFin.step (g' := (mkF m 262 (Lak3m00_12 p0 p1 p2 p3 p4 b4) [(.int (3 : Int32))])) X7 (fun t k => XS.iload X7.here hx rfl (hb hby at_260) rfl k) ?_
  refine OwnFin.step (g' := (mkF m 263 (Lak3m00_12 p0 p1 p2 p3 p4 b4) [(.int (3 : Int32)), (.int (3 : Int32))])) X7 (fun t k => XS.iconst X7.here hx rfl (hb hby at_262) k) ?_
  refine OwnFin.step (g' := (mkF m 278 (Lak3m00_12 p0 p1 p2 p3 p4 b4) [])) X7 (fun t k => XS.icmpYes X7.here hx rfl (pc0 := 263) (pc' := 278) rfl (hb hby at_263) rfl (flt (show ¬ ((3 : Int32) < (3 : Int32)) by first | decide | exact Int32.lt_irrefl _ | exact Int64.lt_irrefl _)).2.2.2 (by decide) (by decide) k) ?_
  refine OwnFin.step (g' := (mkF m 280 (Lak3m00_12 p0 p1 p2 p3 p4 b4) [(.int (3 : Int32))])) X7 (fun t k => XS.iload X7.here hx rfl (hb hby at_278) rfl k) ?_
  refine OwnFin.step (g' := (mkF m 281 (Lak3m00_12 p0 p1 p2 p3 p4 b4) [(.int (4 : Int32)), (.int (3 : Int32))])) X7 (fun t k => XS.iconst X7.here hx rfl (hb hby at_280) k) ?_
  refine OwnFin.step (g' := (mkF m 296 (Lak3m00_12 p0 p1 p2 p3 p4 b4) [])) X7 (fun t k => XS.icmpYes X7.here hx rfl (pc0 := 281) (pc' := 296) rfl (hb hby at_281) rfl (flt (show ¬ ((4 : Int32) < (3 : Int32)) by first | decide | exact Int32.lt_irrefl _ | exact Int64.lt_irrefl _)).2.2.2 (by decide) (by decide) k) ?_
  obtain ⟨T8, h8, X8, e8, E8, A8, D8, -, st8⟩ := newO X7 hx hZ hown (hw _ (wm 4 rfl)) (hw _ (wm 5 rfl)) (hw _ (wm 6 rfl)) e7 (g := (mkF m 296 (Lak3m00_12 p0 p1 p2 p3 p4 b4) [])) rfl (hb hby at_296) (by decide) (by decide)
  obtain ⟨b8, y8⟩ : ∃ z, z = h7.size := ⟨_, rfl⟩
  rw [← y8] at A8 D8 st8
  have K8 := keep_ext E8
  have ne_b4_b8 : b4 ≠ b8 := Ary.neS B7 y8
  have g_b8 : n0 ≤ b8 := by rw [y8]; exact Z7
  have Z8 := Nat.le_trans Z7 K8.1
  have F8_record : Fld Z h8 b8 "com/example/faden/faden/rank/RecordReader" "record" "[B" .null := D8 (Or.inr (hw _ (wm 14 rfl))) (ty := (.array .byte)) (by decide)
  have F8_at : Fld Z h8 b8 "com/example/faden/faden/rank/RecordReader" "at" "I" (.int (0 : Int32)) := D8 (Or.inl (hw _ (wm 21 rfl))) (ty := .int) (by decide)
  refine OwnFin.step (g' := (mkF m 299 (Lak3m00_12 p0 p1 p2 p3 p4 b4) [(.ref b8)])) X8 (fun t k => st8 _ k) ?_
  refine OwnFin.step (g' := (mkF m 300 (Lak3m00_12 p0 p1 p2 p3 p4 b4) [(.ref b8), (.ref b8)])) X8 (fun t k => XS.dup X8.here hx rfl (hb hby at_299) rfl rfl k) ?_
  refine OwnFin.step (g' := (mkF m 302 (Lak3m00_12 p0 p1 p2 p3 p4 b4) [(.ref b4), (.ref b8), (.ref b8)])) X8 (fun t k => XS.aload X8.here hx rfl (hb hby at_300) rfl rfl k) ?_
  obtain ⟨_, T9, L9, X9, ⟨rfl, N9q, u10, u11, u12, u13⟩, st9⟩ := own_callI X8 hx hZ (y := (⟨"com/example/faden/faden/rank/RecordReader", "<init>", "([B)V"⟩ : MethodName)) (W := 1) (a := b8) (argsL := [(.ref b4)]) (rest := [(.ref b8)]) rfl hown (hw _ (wm 7 rfl)) (hw _ (wm 8 rfl)) (hw _ (wm 6 rfl)) (hw _ (wm 9 rfl)) (by decide) (rm1 l Z a0 hw [] b8 b4 h8 n0 Z8 A8 g_b8 F8_record F8_at) (by decide) (by decide) (by decide) (by decide) e8 (g := (mkF m 302 (Lak3m00_12 p0 p1 p2 p3 p4 b4) [(.ref b4), (.ref b8), (.ref b8)])) rfl (by rw [hml]; rfl) pd_0 rfl rfl (by show 2 * 0 + _ ≤ _; exact Nat.le_of_eq rfl) (hb hby at_302)
  have N9 := Fr.app N7 N9q
  obtain ⟨h9, e9⟩ : ∃ z, T9.heap = z := ⟨_, rfl⟩
  rw [e9] at u10 u11 u12 u13
  have K9 := u10
  have Z9 := Nat.le_trans Z8 K9.1
  refine OwnFin.step (g' := (mkF m 305 (Lak3m00_12 p0 p1 p2 p3 p4 b4) [(.ref b8)])) X9 (fun t k => st9 _ k) ?_
  refine OwnFin.step (g' := (mkF m 307 (Lak3m00_13 p0 p1 p2 p3 p4 b4 b8) [])) X9 (fun t k => XS.astore X9.here hx rfl (hb hby at_305) rfl rfl (l' := (Lak3m00_13 p0 p1 p2 p3 p4 b4 b8)) rfl k) ?_
  refine OwnFin.step (g' := (mkF m 309 (Lak3m00_13 p0 p1 p2 p3 p4 b4 b8) [(.ref b8)])) X9 (fun t k => XS.aload X9.here hx rfl (hb hby at_307) rfl rfl k) ?_
  have A15 := ((B7.keep K8 nin0).keep K9 (ninS ne_b4_b8 nin0))
  obtain ⟨_, T14, L14, X14, ⟨rfl, N14q, u16, u17, u18, u19⟩, st14⟩ := own_callV X9 hx hZ (y := (⟨"com/example/faden/faden/rank/RecordReader", "number", "()I"⟩ : MethodName)) (W := 0) (a := b8) (argsL := []) (rest := []) hown (hw _ (wm 15 rfl)) (hw _ (wm 16 rfl)) (hw _ (wm 18 rfl)) (hw _ (wm 17 rfl)) (hw _ (wm 6 rfl)) (hw _ (wm 19 rfl)) (by decide) u11 (rm3a0k3 l Z a0 hw [] b8 3 (Gk3m00_164 p0) b4 h9 n0 Z9 u11 g_b8 u12 u13 A15 (Ne.symm ne_b4_b8) (exhlnk3m00_309 p2 p4 hk hm) (exhb0k3m00_309 p0 p2 p4 hk hm) (exhb1k3m00_309 p0 p2 p4 hk hm) (exhb2k3m00_309 p0 p2 p4 hk hm)) (by decide) (by decide) (by decide) (by decide) e9 (g := (mkF m 309 (Lak3m00_13 p0 p1 p2 p3 p4 b4 b8) [(.ref b8)])) rfl (by rw [hml]; rfl) pd_1 rfl rfl (by show 2 * 0 + _ ≤ _; exact Nat.le_of_eq rfl) (hb hby at_309)
  have N14 := Fr.app N9 N14q
  obtain ⟨h14, e14⟩ : ∃ z, T14.heap = z := ⟨_, rfl⟩
  rw [e14] at u16 u17 u18 u19
  have K14 := u16
  have Z14 := Nat.le_trans Z9 K14.1
  refine OwnFin.step (g' := (mkF m 312 (Lak3m00_13 p0 p1 p2 p3 p4 b4 b8) [(.int (va0k33_77bb (Gk3m00_164 p0)))])) X14 (fun t k => st14 _ k) ?_
  refine OwnFin.step (g' := (mkF m 314 (Lak3m00_14 p0 p1 p2 p3 p4 b4 b8) [])) X14 (fun t k => XS.istore X14.here hx rfl (hb hby at_312) rfl (l' := (Lak3m00_14 p0 p1 p2 p3 p4 b4 b8)) rfl k) ?_
  refine OwnFin.step (g' := (mkF m 316 (Lak3m00_14 p0 p1 p2 p3 p4 b4 b8) [(.int (vk3m00_312 p0))])) X14 (fun t k => XS.iload X14.here hx rfl (hb hby at_314) rfl k) ?_
  refine OwnFin.step (g' := (mkF m 317 (Lak3m00_14 p0 p1 p2 p3 p4 b4 b8) [(.long ((vk3m00_312 p0).toInt64))])) X14 (fun t k => XT.i2l X14.here hx rfl (hb hby at_316) rfl k) ?_
  refine OwnFin.step (g' := (mkF m 319 (Lak3m00_14 p0 p1 p2 p3 p4 b4 b8) [(.long (vk3m00_258 p0)), (.long ((vk3m00_312 p0).toInt64))])) X14 (fun t k => XT.lload X14.here hx rfl (hb hby at_317) rfl k) ?_
  refine OwnFin.step (g' := (mkF m 320 (Lak3m00_14 p0 p1 p2 p3 p4 b4 b8) [(.int (XT.cmpL ((vk3m00_312 p0).toInt64) (vk3m00_258 p0)))])) X14 (fun t k => XT.lcmp X14.here hx rfl (hb hby at_319) rfl k) ?_
  refine OwnFin.step (g' := (mkF m 325 (Lak3m00_14 p0 p1 p2 p3 p4 b4 b8) [])) X14 (fun t k => XS.ifYes X14.here hx rfl (pc0 := 320) (pc' := 325) rfl (hb hby at_320) rfl ((if0 _ _).trans (teq ((cl_eq _ _).mpr (brk3m00_320 p0 p2 p4 hk hm))).1) (by decide) (by decide) k) ?_
  refine OwnFin.step (g' := (mkF m 327 (Lak3m00_14 p0 p1 p2 p3 p4 b4 b8) [(.int (0 : Int32))])) X14 (fun t k => XS.iload X14.here hx rfl (hb hby at_325) rfl k) ?_
  refine OwnFin.step (g' := (mkF m 330 (Lak3m00_14 p0 p1 p2 p3 p4 b4 b8) [])) X14 (fun t k => XS.ifNo X14.here hx rfl (hb hby at_327) rfl ((if0 _ _).trans (teq (show (0 : Int32) = (0 : Int32) by first | rfl | decide)).2) k) ?_
  refine OwnFin.step (g' := (mkF m 332 (Lak3m00_14 p0 p1 p2 p3 p4 b4 b8) [(.ref b8)])) X14 (fun t k => XS.aload X14.here hx rfl (hb hby at_330) rfl rfl k) ?_
  have A21 := (A15.keep K14 (ninS ne_b4_b8 nin0))
  obtain ⟨_, T20, L20, X20, ⟨rfl, N20q, u22⟩, st20⟩ := own_callV X14 hx hZ (y := (⟨"com/example/faden/faden/rank/RecordReader", "atEnd", "()Z"⟩ : MethodName)) (W := 0) (a := b8) (argsL := []) (rest := []) hown (hw _ (wm 22 rfl)) (hw _ (wm 23 rfl)) (hw _ (wm 25 rfl)) (hw _ (wm 24 rfl)) (hw _ (wm 6 rfl)) (hw _ (wm 26 rfl)) (by decide) u17 (rm4 l Z a0 hw [] b8 3 (Gk3m00_164 p0) b4 (3 : Int32) h14 n0 Z14 u17 g_b8 u18 u19 A21 (Ne.symm ne_b4_b8)) (by decide) (by decide) (by decide) (by decide) e14 (g := (mkF m 332 (Lak3m00_14 p0 p1 p2 p3 p4 b4 b8) [(.ref b8)])) rfl (by rw [hml]; rfl) pd_2 rfl rfl (by show 2 * 0 + _ ≤ _; exact Nat.le_of_eq rfl) (hb hby at_332)
  have N20 := Fr.app N14 N20q
  obtain ⟨h20, e20⟩ : ∃ z, T20.heap = z := ⟨_, rfl⟩
  rw [e20] at u22
  have K20 := u22
  have Z20 := Nat.le_trans Z14 K20.1
  rw [show (nar .boolean (v4_17 (3 : Int32) 3)) = (1 : Int32) from by decide] at st20
  refine OwnFin.step (g' := (mkF m 335 (Lak3m00_14 p0 p1 p2 p3 p4 b4 b8) [(.int (1 : Int32))])) X20 (fun t k => st20 _ k) ?_
  refine OwnFin.retNar X20 (by simp) (hb hby at_335) (by decide) (by decide) ?_
  exact ⟨rfl, N20⟩
set_option maxRecDepth 65536 in
set_option maxHeartbeats 40000000 in
theorem rm0k3m0 (l : Launch) (Z : State) (a0 : Array Value) (hw : ∀ d ∈ tables_1, d.before a0 Z = true) (ws : List Jvm.Cond) (p0 : Int32) (p1 : Int32) (p2 : Int32) (p3 : Int32) (p4 : Int32) (h0 : Heap) (n0 : Nat) (Z0 : n0 ≤ h0.size) (hk : vk3m00_8 p2 = (3 : Int32)) (hm : vk3m00_22 p4 = (0 : Int32)) :
    MetFree l x (head1 (Jvm.Cond.code x code maxLocals ret :: ws) room_1) (fun a U => a = #[(.int p0), (.int p1), (.int p2), (.int p3), (.int p4)] ∧ Z.Warmed39 U.vm ∧ U.heap = h0) (fun _ _ _ _ _ => True) (fun _ U o U' => ∃ v L, o = .returned v ∧ (LQ n0) v U'.heap L ∧ FrameEnd U o U' L room_1.cells room_1.slots) :=
  own_met (ret := ret) (Q := (LQ n0)) (plainFor_of_name pn_0) (fun m => ef_0 m p0 p1 p2 p3 p4) (fun p e s m below meth c s₁ X hx hby hml hown hnm hZ e0 => j0k3m0 X hx hZ hw hby hml hown hnm e0 (Fr.nil n0) Z0 p0 p1 p2 p3 p4 hk hm)
def vk3m10_8 (p2 : Int32) : Int32 := (((p2 &&& (2147483647 : Int32)) % (5 : Int32)) + (1 : Int32))
def vk3m10_22 (p4 : Int32) : Int32 := (if (p4 &&& (1 : Int32)) = (0 : Int32) then (0 : Int32) else (1 : Int32))
def vk3m10_28 (p0 : Int32) : Int32 := (p0 &&& (127 : Int32))
def vk3m10_37 (p0 : Int32) : Int32 := ((XT.ushr p0 (8 : Int32)) &&& (127 : Int32))
def vk3m10_46 (p0 : Int32) : Int32 := ((XT.ushr p0 (16 : Int32)) &&& (127 : Int32))
def vk3m10_55 (p0 : Int32) : Int32 := ((XT.ushr p0 (24 : Int32)) &&& (127 : Int32))
def vk3m10_61 (p1 : Int32) : Int32 := (p1 &&& (7 : Int32))
def vk3m10_67 (p3 : Int32) : Int32 := (p3 &&& (127 : Int32))
def Gk3m10_108 (p0 : Int32) : Nat → Int32 := (updN (fun _ => (0 : Int32)) ((0 : Int32)).toNatClampNeg (nar .byte (((vk3m10_28 p0) ||| (128 : Int32)).toInt8.toInt32)))
def Gk3m10_136 (p0 : Int32) : Nat → Int32 := (updN (Gk3m10_108 p0) ((1 : Int32)).toNatClampNeg (nar .byte (((vk3m10_37 p0) ||| (128 : Int32)).toInt8.toInt32)))
def Gk3m10_164 (p0 : Int32) : Nat → Int32 := (updN (Gk3m10_136 p0) ((2 : Int32)).toNatClampNeg (nar .byte ((vk3m10_46 p0).toInt8.toInt32)))
def Gk3m10_218 (p0 : Int32) (p3 : Int32) : Nat → Int32 := (updN (Gk3m10_164 p0) ((3 : Int32)).toNatClampNeg (nar .byte ((vk3m10_67 p3).toInt8.toInt32)))
def vk3m10_222 (p0 : Int32) : Int64 := ((vk3m10_28 p0).toInt64)
def vk3m10_240 (p0 : Int32) : Int64 := ((vk3m10_222 p0) + (((vk3m10_37 p0).toInt64) * (128 : Int64)))
def vk3m10_258 (p0 : Int32) : Int64 := ((vk3m10_240 p0) + (((vk3m10_46 p0).toInt64) * (16384 : Int64)))
def vk3m10_312 (p0 : Int32) (p3 : Int32) : Int32 := (va0k33_77bb (Gk3m10_218 p0 p3))
def vk3m10_351 (p0 : Int32) (p3 : Int32) : Int32 := (va3k13_77 (Gk3m10_218 p0 p3))
theorem exhlnk3m10_309 (p2 : Int32) (p4 : Int32) (hk : vk3m10_8 p2 = (3 : Int32)) (hm : vk3m10_22 p4 = (1 : Int32)) : 3 ≤ 4 ∧ 4 < 100 := by decide
theorem exhb0k3m10_309 (p0 : Int32) (p3 : Int32) (p2 : Int32) (p4 : Int32) (hk : vk3m10_8 p2 = (3 : Int32)) (hm : vk3m10_22 p4 = (1 : Int32)) : 128 ≤ (((Gk3m10_218 p0 p3) 0) &&& 255).toInt := by
  have b0 : 0 ≤ (vk3m10_28 p0).toInt ∧ (vk3m10_28 p0).toInt < 128 := own_b127 _
  have h0 : (((Gk3m10_218 p0 p3) 0) &&& 255).toInt = (vk3m10_28 p0).toInt + 128 := own_hi b0
  have b1 : 0 ≤ (vk3m10_37 p0).toInt ∧ (vk3m10_37 p0).toInt < 128 := own_b127 _
  have h1 : (((Gk3m10_218 p0 p3) 1) &&& 255).toInt = (vk3m10_37 p0).toInt + 128 := own_hi b1
  have b2 : 0 ≤ (vk3m10_46 p0).toInt ∧ (vk3m10_46 p0).toInt < 128 := own_b127 _
  have h2 : (((Gk3m10_218 p0 p3) 2) &&& 255).toInt = (vk3m10_46 p0).toInt := own_lo ⟨b2.1, Int.lt_of_lt_of_le b2.2 (by decide)⟩
  omega
theorem exhb1k3m10_309 (p0 : Int32) (p3 : Int32) (p2 : Int32) (p4 : Int32) (hk : vk3m10_8 p2 = (3 : Int32)) (hm : vk3m10_22 p4 = (1 : Int32)) : 128 ≤ (((Gk3m10_218 p0 p3) 1) &&& 255).toInt := by
  have b0 : 0 ≤ (vk3m10_28 p0).toInt ∧ (vk3m10_28 p0).toInt < 128 := own_b127 _
  have h0 : (((Gk3m10_218 p0 p3) 0) &&& 255).toInt = (vk3m10_28 p0).toInt + 128 := own_hi b0
  have b1 : 0 ≤ (vk3m10_37 p0).toInt ∧ (vk3m10_37 p0).toInt < 128 := own_b127 _
  have h1 : (((Gk3m10_218 p0 p3) 1) &&& 255).toInt = (vk3m10_37 p0).toInt + 128 := own_hi b1
  have b2 : 0 ≤ (vk3m10_46 p0).toInt ∧ (vk3m10_46 p0).toInt < 128 := own_b127 _
  have h2 : (((Gk3m10_218 p0 p3) 2) &&& 255).toInt = (vk3m10_46 p0).toInt := own_lo ⟨b2.1, Int.lt_of_lt_of_le b2.2 (by decide)⟩
  omega
theorem exhb2k3m10_309 (p0 : Int32) (p3 : Int32) (p2 : Int32) (p4 : Int32) (hk : vk3m10_8 p2 = (3 : Int32)) (hm : vk3m10_22 p4 = (1 : Int32)) : (((Gk3m10_218 p0 p3) 2) &&& 255).toInt < 128 := by
  have b0 : 0 ≤ (vk3m10_28 p0).toInt ∧ (vk3m10_28 p0).toInt < 128 := own_b127 _
  have h0 : (((Gk3m10_218 p0 p3) 0) &&& 255).toInt = (vk3m10_28 p0).toInt + 128 := own_hi b0
  have b1 : 0 ≤ (vk3m10_37 p0).toInt ∧ (vk3m10_37 p0).toInt < 128 := own_b127 _
  have h1 : (((Gk3m10_218 p0 p3) 1) &&& 255).toInt = (vk3m10_37 p0).toInt + 128 := own_hi b1
  have b2 : 0 ≤ (vk3m10_46 p0).toInt ∧ (vk3m10_46 p0).toInt < 128 := own_b127 _
  have h2 : (((Gk3m10_218 p0 p3) 2) &&& 255).toInt = (vk3m10_46 p0).toInt := own_lo ⟨b2.1, Int.lt_of_lt_of_le b2.2 (by decide)⟩
  omega
theorem brk3m10_320 (p0 : Int32) (p3 : Int32) (p2 : Int32) (p4 : Int32) (hk : vk3m10_8 p2 = (3 : Int32)) (hm : vk3m10_22 p4 = (1 : Int32)) : ((vk3m10_312 p0 p3).toInt64) = (vk3m10_258 p0) := by
  have b0 : 0 ≤ (vk3m10_28 p0).toInt ∧ (vk3m10_28 p0).toInt < 128 := own_b127 _
  have h0 : (((Gk3m10_218 p0 p3) 0) &&& 255).toInt = (vk3m10_28 p0).toInt + 128 := own_hi b0
  have b1 : 0 ≤ (vk3m10_37 p0).toInt ∧ (vk3m10_37 p0).toInt < 128 := own_b127 _
  have h1 : (((Gk3m10_218 p0 p3) 1) &&& 255).toInt = (vk3m10_37 p0).toInt + 128 := own_hi b1
  have b2 : 0 ≤ (vk3m10_46 p0).toInt ∧ (vk3m10_46 p0).toInt < 128 := own_b127 _
  have h2 : (((Gk3m10_218 p0 p3) 2) &&& 255).toInt = (vk3m10_46 p0).toInt := own_lo ⟨b2.1, Int.lt_of_lt_of_le b2.2 (by decide)⟩
  have e0 : (vk3m10_222 p0).toInt = (vk3m10_28 p0).toInt := Jvm.Kit.i64_of_i32 _
  have m0 : (((Gk3m10_218 p0 p3) 0) &&& 255).toInt % 128 = (vk3m10_28 p0).toInt := own_m7 h0 ⟨b0.1, Int.lt_of_lt_of_le b0.2 (by decide)⟩
  have m1 : (((Gk3m10_218 p0 p3) 1) &&& 255).toInt % 128 = (vk3m10_37 p0).toInt := own_m7 h1 ⟨b1.1, Int.lt_of_lt_of_le b1.2 (by decide)⟩
  have m2 : (((Gk3m10_218 p0 p3) 2) &&& 255).toInt % 128 = (vk3m10_46 p0).toInt := own_m7' h2 ⟨b2.1, Int.lt_of_lt_of_le b2.2 (by decide)⟩
  have e1 : (vk3m10_240 p0).toInt = (vk3m10_222 p0).toInt + (vk3m10_37 p0).toInt * 128 ∧ 0 ≤ (vk3m10_240 p0).toInt ∧ (vk3m10_240 p0).toInt < 16384 := own_ex1 _ _ (by rw [e0]; exact b0) ⟨b1.1, Int.lt_of_lt_of_le b1.2 (by decide)⟩
  have e2 : (vk3m10_258 p0).toInt = (vk3m10_240 p0).toInt + (vk3m10_46 p0).toInt * 16384 ∧ 0 ≤ (vk3m10_258 p0).toInt ∧ (vk3m10_258 p0).toInt < 2097152 := own_ex2 _ _ e1.2 ⟨b2.1, Int.lt_of_lt_of_le b2.2 (by decide)⟩
  have r : (vk3m10_312 p0 p3).toInt = _ := own_va0k33_77bb (Gk3m10_218 p0 p3)
  rw [i64eq, Jvm.Kit.i64_of_i32, r, m0, m1, m2, e2.1, e1.1, e0, Int.mul_one]
theorem exhlnk3m10_348 (p2 : Int32) (p4 : Int32) (hk : vk3m10_8 p2 = (3 : Int32)) (hm : vk3m10_22 p4 = (1 : Int32)) : 4 ≤ 4 ∧ 4 < 100 := by decide
theorem exhb0k3m10_348 (p0 : Int32) (p3 : Int32) (p2 : Int32) (p4 : Int32) (hk : vk3m10_8 p2 = (3 : Int32)) (hm : vk3m10_22 p4 = (1 : Int32)) : (((Gk3m10_218 p0 p3) 3) &&& 255).toInt < 128 := by
  have bc : 0 ≤ (vk3m10_67 p3).toInt ∧ (vk3m10_67 p3).toInt < 128 := own_b127 _
  have hc : (((Gk3m10_218 p0 p3) 3) &&& 255).toInt = (vk3m10_67 p3).toInt := own_lo bc
  omega
theorem brk3m10_357 (p0 : Int32) (p3 : Int32) (p2 : Int32) (p4 : Int32) (hk : vk3m10_8 p2 = (3 : Int32)) (hm : vk3m10_22 p4 = (1 : Int32)) : (vk3m10_351 p0 p3) = (vk3m10_67 p3) := by
  have bc : 0 ≤ (vk3m10_67 p3).toInt ∧ (vk3m10_67 p3).toInt < 128 := own_b127 _
  have hc : (((Gk3m10_218 p0 p3) 3) &&& 255).toInt = (vk3m10_67 p3).toInt := own_lo bc
  have r : (vk3m10_351 p0 p3).toInt = _ := own_va3k13_77 (Gk3m10_218 p0 p3)
  rw [i32eq, r]; omega
abbrev Lak3m10_0 (p0 : Int32) (p1 : Int32) (p2 : Int32) (p3 : Int32) (p4 : Int32) : Array Slot := #[.val (.int p0), .val (.int p1), .val (.int p2), .val (.int p3), .val (.int p4), .unset, .unset, .unset, .unset, .unset, .unset, .unset, .unset, .unset, .unset, .unset, .unset, .unset, .unset]
abbrev Lak3m10_1 (p0 : Int32) (p1 : Int32) (p2 : Int32) (p3 : Int32) (p4 : Int32) : Array Slot := #[.val (.int p0), .val (.int p1), .val (.int p2), .val (.int p3), .val (.int p4), .val (.int (3 : Int32)), .unset, .unset, .unset, .unset, .unset, .unset, .unset, .unset, .unset, .unset, .unset, .unset, .unset]
abbrev Lak3m10_2 (p0 : Int32) (p1 : Int32) (p2 : Int32) (p3 : Int32) (p4 : Int32) : Array Slot := #[.val (.int p0), .val (.int p1), .val (.int p2), .val (.int p3), .val (.int p4), .val (.int (3 : Int32)), .val (.int (1 : Int32)), .unset, .unset, .unset, .unset, .unset, .unset, .unset, .unset, .unset, .unset, .unset, .unset]
abbrev Lak3m10_3 (p0 : Int32) (p1 : Int32) (p2 : Int32) (p3 : Int32) (p4 : Int32) : Array Slot := #[.val (.int p0), .val (.int p1), .val (.int p2), .val (.int p3), .val (.int p4), .val (.int (3 : Int32)), .val (.int (1 : Int32)), .val (.int (vk3m10_28 p0)), .unset, .unset, .unset, .unset, .unset, .unset, .unset, .unset, .unset, .unset, .unset]
abbrev Lak3m10_4 (p0 : Int32) (p1 : Int32) (p2 : Int32) (p3 : Int32) (p4 : Int32) : Array Slot := #[.val (.int p0), .val (.int p1), .val (.int p2), .val (.int p3), .val (.int p4), .val (.int (3 : Int32)), .val (.int (1 : Int32)), .val (.int (vk3m10_28 p0)), .val (.int (vk3m10_37 p0)), .unset, .unset, .unset, .unset, .unset, .unset, .unset, .unset, .unset, .unset]
abbrev Lak3m10_5 (p0 : Int32) (p1 : Int32) (p2 : Int32) (p3 : Int32) (p4 : Int32) : Array Slot := #[.val (.int p0), .val (.int p1), .val (.int p2), .val (.int p3), .val (.int p4), .val (.int (3 : Int32)), .val (.int (1 : Int32)), .val (.int (vk3m10_28 p0)), .val (.int (vk3m10_37 p0)), .val (.int (vk3m10_46 p0)), .unset, .unset, .unset, .unset, .unset, .unset, .unset, .unset, .unset]
abbrev Lak3m10_6 (p0 : Int32) (p1 : Int32) (p2 : Int32) (p3 : Int32) (p4 : Int32) : Array Slot := #[.val (.int p0), .val (.int p1), .val (.int p2), .val (.int p3), .val (.int p4), .val (.int (3 : Int32)), .val (.int (1 : Int32)), .val (.int (vk3m10_28 p0)), .val (.int (vk3m10_37 p0)), .val (.int (vk3m10_46 p0)), .val (.int (vk3m10_55 p0)), .unset, .unset, .unset, .unset, .unset, .unset, .unset, .unset]
abbrev Lak3m10_7 (p0 : Int32) (p1 : Int32) (p2 : Int32) (p3 : Int32) (p4 : Int32) : Array Slot := #[.val (.int p0), .val (.int p1), .val (.int p2), .val (.int p3), .val (.int p4), .val (.int (3 : Int32)), .val (.int (1 : Int32)), .val (.int (vk3m10_28 p0)), .val (.int (vk3m10_37 p0)), .val (.int (vk3m10_46 p0)), .val (.int (vk3m10_55 p0)), .val (.int (vk3m10_61 p1)), .unset, .unset, .unset, .unset, .unset, .unset, .unset]
abbrev Lak3m10_8 (p0 : Int32) (p1 : Int32) (p2 : Int32) (p3 : Int32) (p4 : Int32) : Array Slot := #[.val (.int p0), .val (.int p1), .val (.int p2), .val (.int p3), .val (.int p4), .val (.int (3 : Int32)), .val (.int (1 : Int32)), .val (.int (vk3m10_28 p0)), .val (.int (vk3m10_37 p0)), .val (.int (vk3m10_46 p0)), .val (.int (vk3m10_55 p0)), .val (.int (vk3m10_61 p1)), .val (.int (vk3m10_67 p3)), .unset, .unset, .unset, .unset, .unset, .unset]
abbrev Lak3m10_9 (p0 : Int32) (p1 : Int32) (p2 : Int32) (p3 : Int32) (p4 : Int32) (b4 : Addr) : Array Slot := #[.val (.int p0), .val (.int p1), .val (.int p2), .val (.int p3), .val (.int p4), .val (.int (3 : Int32)), .val (.int (1 : Int32)), .val (.int (vk3m10_28 p0)), .val (.int (vk3m10_37 p0)), .val (.int (vk3m10_46 p0)), .val (.int (vk3m10_55 p0)), .val (.int (vk3m10_61 p1)), .val (.int (vk3m10_67 p3)), .val (.ref b4), .unset, .unset, .unset, .unset, .unset]
abbrev Lak3m10_10 (p0 : Int32) (p1 : Int32) (p2 : Int32) (p3 : Int32) (p4 : Int32) (b4 : Addr) : Array Slot := #[.val (.int p0), .val (.int p1), .val (.int p2), .val (.int p3), .val (.int p4), .val (.int (3 : Int32)), .val (.int (1 : Int32)), .val (.int (vk3m10_28 p0)), .val (.int (vk3m10_37 p0)), .val (.int (vk3m10_46 p0)), .val (.int (vk3m10_55 p0)), .val (.int (vk3m10_61 p1)), .val (.int (vk3m10_67 p3)), .val (.ref b4), .val (.long (vk3m10_222 p0)), .second, .unset, .unset, .unset]
abbrev Lak3m10_11 (p0 : Int32) (p1 : Int32) (p2 : Int32) (p3 : Int32) (p4 : Int32) (b4 : Addr) : Array Slot := #[.val (.int p0), .val (.int p1), .val (.int p2), .val (.int p3), .val (.int p4), .val (.int (3 : Int32)), .val (.int (1 : Int32)), .val (.int (vk3m10_28 p0)), .val (.int (vk3m10_37 p0)), .val (.int (vk3m10_46 p0)), .val (.int (vk3m10_55 p0)), .val (.int (vk3m10_61 p1)), .val (.int (vk3m10_67 p3)), .val (.ref b4), .val (.long (vk3m10_240 p0)), .second, .unset, .unset, .unset]
abbrev Lak3m10_12 (p0 : Int32) (p1 : Int32) (p2 : Int32) (p3 : Int32) (p4 : Int32) (b4 : Addr) : Array Slot := #[.val (.int p0), .val (.int p1), .val (.int p2), .val (.int p3), .val (.int p4), .val (.int (3 : Int32)), .val (.int (1 : Int32)), .val (.int (vk3m10_28 p0)), .val (.int (vk3m10_37 p0)), .val (.int (vk3m10_46 p0)), .val (.int (vk3m10_55 p0)), .val (.int (vk3m10_61 p1)), .val (.int (vk3m10_67 p3)), .val (.ref b4), .val (.long (vk3m10_258 p0)), .second, .unset, .unset, .unset]
abbrev Lak3m10_13 (p0 : Int32) (p1 : Int32) (p2 : Int32) (p3 : Int32) (p4 : Int32) (b4 : Addr) (b9 : Addr) : Array Slot := #[.val (.int p0), .val (.int p1), .val (.int p2), .val (.int p3), .val (.int p4), .val (.int (3 : Int32)), .val (.int (1 : Int32)), .val (.int (vk3m10_28 p0)), .val (.int (vk3m10_37 p0)), .val (.int (vk3m10_46 p0)), .val (.int (vk3m10_55 p0)), .val (.int (vk3m10_61 p1)), .val (.int (vk3m10_67 p3)), .val (.ref b4), .val (.long (vk3m10_258 p0)), .second, .val (.ref b9), .unset, .unset]
abbrev Lak3m10_14 (p0 : Int32) (p1 : Int32) (p2 : Int32) (p3 : Int32) (p4 : Int32) (b4 : Addr) (b9 : Addr) : Array Slot := #[.val (.int p0), .val (.int p1), .val (.int p2), .val (.int p3), .val (.int p4), .val (.int (3 : Int32)), .val (.int (1 : Int32)), .val (.int (vk3m10_28 p0)), .val (.int (vk3m10_37 p0)), .val (.int (vk3m10_46 p0)), .val (.int (vk3m10_55 p0)), .val (.int (vk3m10_61 p1)), .val (.int (vk3m10_67 p3)), .val (.ref b4), .val (.long (vk3m10_258 p0)), .second, .val (.ref b9), .val (.int (vk3m10_312 p0 p3)), .unset]
abbrev Lak3m10_15 (p0 : Int32) (p1 : Int32) (p2 : Int32) (p3 : Int32) (p4 : Int32) (b4 : Addr) (b9 : Addr) : Array Slot := #[.val (.int p0), .val (.int p1), .val (.int p2), .val (.int p3), .val (.int p4), .val (.int (3 : Int32)), .val (.int (1 : Int32)), .val (.int (vk3m10_28 p0)), .val (.int (vk3m10_37 p0)), .val (.int (vk3m10_46 p0)), .val (.int (vk3m10_55 p0)), .val (.int (vk3m10_61 p1)), .val (.int (vk3m10_67 p3)), .val (.ref b4), .val (.long (vk3m10_258 p0)), .second, .val (.ref b9), .val (.int (vk3m10_312 p0 p3)), .val (.int (vk3m10_351 p0 p3))]
set_option maxRecDepth 65536 in
set_option maxHeartbeats 40000000 in
theorem j0k3m1 {p : Program} {l : Launch} {e : Env} {s : State} {m : MethodId} {args : Array Value} {below : List Frame} {meth : Method} {c : Code} {T0 : State} {locs : List Loc} {Z : State} {a0 : Array Value} {h0 : Heap} {n0 : Nat}
    (X0 : Stand p l e room_1 s m args below meth c T0 locs 0 0) (hx : p.tables.exec = Jvm.exec) (hZ : Z.Warmed39 s.vm) (hw : ∀ d ∈ tables_1, d.before a0 Z = true) (hby : c.code = code) (hml : c.maxLocals = 19) (hown : s.vm.findClass "com/example/faden/faden/rank/RecordReaderNumberPinLaw" = some m.cls) (hnm : meth.name = "law") (e0 : T0.heap = h0) (N0 : Fr n0 locs) (Z0 : n0 ≤ h0.size) (p0 : Int32) (p1 : Int32) (p2 : Int32) (p3 : Int32) (p4 : Int32) (hk : vk3m10_8 p2 = (3 : Int32)) (hm : vk3m10_22 p4 = (1 : Int32)) :
    OwnFin X0 (some .boolean) (LQ n0) room_1.cells room_1.slots (mkF m 0 #[.val (.int p0), .val (.int p1), .val (.int p2), .val (.int p3), .val (.int p4), .unset, .unset, .unset, .unset, .unset, .unset, .unset, .unset, .unset, .unset, .unset, .unset, .unset, .unset] []) := by
  refine OwnFin.step (g' := (mkF m 1 (Lak3m10_0 p0 p1 p2 p3 p4) [(.int p2)])) X0 (fun t k => XS.iloadN X0.here hx rfl (hb hby at_0) rfl k) ?_
  refine OwnFin.step (g' := (mkF m 3 (Lak3m10_0 p0 p1 p2 p3 p4) [(.int (2147483647 : Int32)), (.int p2)])) X0 (fun t k => X0.ldcInt hx hown (mvT hZ (hw _ (wm 0 rfl))) (g := (mkF m 1 (Lak3m10_0 p0 p1 p2 p3 p4) [(.int p2)])) rfl (hb hby at_1) _ k) ?_
  refine OwnFin.step (g' := (mkF m 4 (Lak3m10_0 p0 p1 p2 p3 p4) [(.int (p2 &&& (2147483647 : Int32)))])) X0 (fun t k => XS.iand X0.here hx rfl (hb hby at_3) rfl k) ?_
  refine OwnFin.step (g' := (mkF m 5 (Lak3m10_0 p0 p1 p2 p3 p4) [(.int (5 : Int32)), (.int (p2 &&& (2147483647 : Int32)))])) X0 (fun t k => XS.iconst X0.here hx rfl (hb hby at_4) k) ?_
  refine OwnFin.step (g' := (mkF m 6 (Lak3m10_0 p0 p1 p2 p3 p4) [(.int ((p2 &&& (2147483647 : Int32)) % (5 : Int32)))])) X0 (fun t k => iremM (g := (mkF m 5 (Lak3m10_0 p0 p1 p2 p3 p4) [(.int (5 : Int32)), (.int (p2 &&& (2147483647 : Int32)))])) X0 hx rfl (hb hby at_5) rfl (by decide) k) ?_
  refine OwnFin.step (g' := (mkF m 7 (Lak3m10_0 p0 p1 p2 p3 p4) [(.int (1 : Int32)), (.int ((p2 &&& (2147483647 : Int32)) % (5 : Int32)))])) X0 (fun t k => XS.iconst X0.here hx rfl (hb hby at_6) k) ?_
  refine OwnFin.step (g' := (mkF m 8 (Lak3m10_0 p0 p1 p2 p3 p4) [(.int (((p2 &&& (2147483647 : Int32)) % (5 : Int32)) + (1 : Int32)))])) X0 (fun t k => XS.iadd X0.here hx rfl (hb hby at_7) rfl k) ?_
  refine OwnFin.step (g' := (mkF m 10 #[.val (.int p0), .val (.int p1), .val (.int p2), .val (.int p3), .val (.int p4), .val (.int (vk3m10_8 p2)), .unset, .unset, .unset, .unset, .unset, .unset, .unset, .unset, .unset, .unset, .unset, .unset, .unset] [])) X0 (fun t k => XS.istore X0.here hx rfl (hb hby at_8) rfl (l' := #[.val (.int p0), .val (.int p1), .val (.int p2), .val (.int p3), .val (.int p4), .val (.int (vk3m10_8 p2)), .unset, .unset, .unset, .unset, .unset, .unset, .unset, .unset, .unset, .unset, .unset, .unset, .unset]) rfl k) ?_
  rw [hk]
  refine OwnFin.step (g' := (mkF m 12 (Lak3m10_1 p0 p1 p2 p3 p4) [(.int p4)])) X0 (fun t k => XS.iload X0.here hx rfl (hb hby at_10) rfl k) ?_
  refine OwnFin.step (g' := (mkF m 13 (Lak3m10_1 p0 p1 p2 p3 p4) [(.int (1 : Int32)), (.int p4)])) X0 (fun t k => XS.iconst X0.here hx rfl (hb hby at_12) k) ?_
  refine OwnFin.step (g' := (mkF m 14 (Lak3m10_1 p0 p1 p2 p3 p4) [(.int (p4 &&& (1 : Int32)))])) X0 (fun t k => XS.iand X0.here hx rfl (hb hby at_13) rfl k) ?_
  refine OwnFin.step (g' := (mkF m 22 #[.val (.int p0), .val (.int p1), .val (.int p2), .val (.int p3), .val (.int p4), .val (.int (3 : Int32)), .unset, .unset, .unset, .unset, .unset, .unset, .unset, .unset, .unset, .unset, .unset, .unset, .unset] [(.int (vk3m10_22 p4))])) X0 (fun t k => ?_) ?_
  · show Steps p.tables e below (T0.setTop (mkF m 14 (Lak3m10_1 p0 p1 p2 p3 p4) [(.int (p4 &&& (1 : Int32)))])) t
    by_cases hc1 : (p4 &&& (1 : Int32)) = (0 : Int32)
    · skip
      refine XS.ifYes X0.here hx rfl (pc0 := 14) (pc' := 21) rfl (hb hby at_14) rfl ((if0 _ _).trans (teq hc1).1) (by decide) (by decide) ?_
      show Steps p.tables e below (T0.setTop (mkF m 21 (Lak3m10_1 p0 p1 p2 p3 p4) [])) t
      refine XS.iconst X0.here hx rfl (hb hby at_21) ?_
      show Steps p.tables e below (T0.setTop (mkF m 22 (Lak3m10_1 p0 p1 p2 p3 p4) [(.int (0 : Int32))])) t
      have qq2 : (vk3m10_22 p4) = (0 : Int32) := by
        show (if (p4 &&& (1 : Int32)) = (0 : Int32) then (0 : Int32) else (1 : Int32)) = (0 : Int32)
        simp only [if_pos hc1]
      rw [qq2] at k
      exact k
    · skip
      refine XS.ifNo X0.here hx rfl (hb hby at_14) rfl ((if0 _ _).trans (feq hc1).1) ?_
      show Steps p.tables e below (T0.setTop (mkF m 17 (Lak3m10_1 p0 p1 p2 p3 p4) [])) t
      refine XS.iconst X0.here hx rfl (hb hby at_17) ?_
      show Steps p.tables e below (T0.setTop (mkF m 18 (Lak3m10_1 p0 p1 p2 p3 p4) [(.int (1 : Int32))])) t
      refine XS.goto X0.here hx rfl (pc0 := 18) (pc' := 22) rfl (hb hby at_18) (by decide) (by decide) ?_
      show Steps p.tables e below (T0.setTop (mkF m 22 (Lak3m10_1 p0 p1 p2 p3 p4) [(.int (1 : Int32))])) t
      have qq3 : (vk3m10_22 p4) = (1 : Int32) := by
        show (if (p4 &&& (1 : Int32)) = (0 : Int32) then (0 : Int32) else (1 : Int32)) = (1 : Int32)
        simp only [if_neg hc1]
      rw [qq3] at k
      exact k
  refine OwnFin.step (g' := (mkF m 24 #[.val (.int p0), .val (.int p1), .val (.int p2), .val (.int p3), .val (.int p4), .val (.int (3 : Int32)), .val (.int (vk3m10_22 p4)), .unset, .unset, .unset, .unset, .unset, .unset, .unset, .unset, .unset, .unset, .unset, .unset] [])) X0 (fun t k => XS.istore X0.here hx rfl (hb hby at_22) rfl (l' := #[.val (.int p0), .val (.int p1), .val (.int p2), .val (.int p3), .val (.int p4), .val (.int (3 : Int32)), .val (.int (vk3m10_22 p4)), .unset, .unset, .unset, .unset, .unset, .unset, .unset, .unset, .unset, .unset, .unset, .unset]) rfl k) ?_
  rw [hm]
  refine OwnFin.step (g' := (mkF m 25 (Lak3m10_2 p0 p1 p2 p3 p4) [(.int p0)])) X0 (fun t k => XS.iloadN X0.here hx rfl (hb hby at_24) rfl k) ?_
  refine OwnFin.step (g' := (mkF m 27 (Lak3m10_2 p0 p1 p2 p3 p4) [(.int (127 : Int32)), (.int p0)])) X0 (fun t k => XS.bipush X0.here hx rfl (hb hby at_25) k) ?_
  refine OwnFin.step (g' := (mkF m 28 (Lak3m10_2 p0 p1 p2 p3 p4) [(.int (p0 &&& (127 : Int32)))])) X0 (fun t k => XS.iand X0.here hx rfl (hb hby at_27) rfl k) ?_
  refine OwnFin.step (g' := (mkF m 30 (Lak3m10_3 p0 p1 p2 p3 p4) [])) X0 (fun t k => XS.istore X0.here hx rfl (hb hby at_28) rfl (l' := (Lak3m10_3 p0 p1 p2 p3 p4)) rfl k) ?_
  refine OwnFin.step (g' := (mkF m 31 (Lak3m10_3 p0 p1 p2 p3 p4) [(.int p0)])) X0 (fun t k => XS.iloadN X0.here hx rfl (hb hby at_30) rfl k) ?_
  refine OwnFin.step (g' := (mkF m 33 (Lak3m10_3 p0 p1 p2 p3 p4) [(.int (8 : Int32)), (.int p0)])) X0 (fun t k => XS.bipush X0.here hx rfl (hb hby at_31) k) ?_
  refine OwnFin.step (g' := (mkF m 34 (Lak3m10_3 p0 p1 p2 p3 p4) [(.int (XT.ushr p0 (8 : Int32)))])) X0 (fun t k => XT.iushr X0.here hx rfl (hb hby at_33) rfl k) ?_
  refine OwnFin.step (g' := (mkF m 36 (Lak3m10_3 p0 p1 p2 p3 p4) [(.int (127 : Int32)), (.int (XT.ushr p0 (8 : Int32)))])) X0 (fun t k => XS.bipush X0.here hx rfl (hb hby at_34) k) ?_
  refine OwnFin.step (g' := (mkF m 37 (Lak3m10_3 p0 p1 p2 p3 p4) [(.int ((XT.ushr p0 (8 : Int32)) &&& (127 : Int32)))])) X0 (fun t k => XS.iand X0.here hx rfl (hb hby at_36) rfl k) ?_
  refine OwnFin.step (g' := (mkF m 39 (Lak3m10_4 p0 p1 p2 p3 p4) [])) X0 (fun t k => XS.istore X0.here hx rfl (hb hby at_37) rfl (l' := (Lak3m10_4 p0 p1 p2 p3 p4)) rfl k) ?_
  refine OwnFin.step (g' := (mkF m 40 (Lak3m10_4 p0 p1 p2 p3 p4) [(.int p0)])) X0 (fun t k => XS.iloadN X0.here hx rfl (hb hby at_39) rfl k) ?_
  refine OwnFin.step (g' := (mkF m 42 (Lak3m10_4 p0 p1 p2 p3 p4) [(.int (16 : Int32)), (.int p0)])) X0 (fun t k => XS.bipush X0.here hx rfl (hb hby at_40) k) ?_
  refine OwnFin.step (g' := (mkF m 43 (Lak3m10_4 p0 p1 p2 p3 p4) [(.int (XT.ushr p0 (16 : Int32)))])) X0 (fun t k => XT.iushr X0.here hx rfl (hb hby at_42) rfl k) ?_
  refine OwnFin.step (g' := (mkF m 45 (Lak3m10_4 p0 p1 p2 p3 p4) [(.int (127 : Int32)), (.int (XT.ushr p0 (16 : Int32)))])) X0 (fun t k => XS.bipush X0.here hx rfl (hb hby at_43) k) ?_
  refine OwnFin.step (g' := (mkF m 46 (Lak3m10_4 p0 p1 p2 p3 p4) [(.int ((XT.ushr p0 (16 : Int32)) &&& (127 : Int32)))])) X0 (fun t k => XS.iand X0.here hx rfl (hb hby at_45) rfl k) ?_
  refine OwnFin.step (g' := (mkF m 48 (Lak3m10_5 p0 p1 p2 p3 p4) [])) X0 (fun t k => XS.istore X0.here hx rfl (hb hby at_46) rfl (l' := (Lak3m10_5 p0 p1 p2 p3 p4)) rfl k) ?_
  refine OwnFin.step (g' := (mkF m 49 (Lak3m10_5 p0 p1 p2 p3 p4) [(.int p0)])) X0 (fun t k => XS.iloadN X0.here hx rfl (hb hby at_48) rfl k) ?_
  refine OwnFin.step (g' := (mkF m 51 (Lak3m10_5 p0 p1 p2 p3 p4) [(.int (24 : Int32)), (.int p0)])) X0 (fun t k => XS.bipush X0.here hx rfl (hb hby at_49) k) ?_
  refine OwnFin.step (g' := (mkF m 52 (Lak3m10_5 p0 p1 p2 p3 p4) [(.int (XT.ushr p0 (24 : Int32)))])) X0 (fun t k => XT.iushr X0.here hx rfl (hb hby at_51) rfl k) ?_
  refine OwnFin.step (g' := (mkF m 54 (Lak3m10_5 p0 p1 p2 p3 p4) [(.int (127 : Int32)), (.int (XT.ushr p0 (24 : Int32)))])) X0 (fun t k => XS.bipush X0.here hx rfl (hb hby at_52) k) ?_
  refine OwnFin.step (g' := (mkF m 55 (Lak3m10_5 p0 p1 p2 p3 p4) [(.int ((XT.ushr p0 (24 : Int32)) &&& (127 : Int32)))])) X0 (fun t k => XS.iand X0.here hx rfl (hb hby at_54) rfl k) ?_
  refine OwnFin.step (g' := (mkF m 57 (Lak3m10_6 p0 p1 p2 p3 p4) [])) X0 (fun t k => XS.istore X0.here hx rfl (hb hby at_55) rfl (l' := (Lak3m10_6 p0 p1 p2 p3 p4)) rfl k) ?_
  refine OwnFin.step (g' := (mkF m 58 (Lak3m10_6 p0 p1 p2 p3 p4) [(.int p1)])) X0 (fun t k => XS.iloadN X0.here hx rfl (hb hby at_57) rfl k) ?_
  refine OwnFin.step (g' := (mkF m 60 (Lak3m10_6 p0 p1 p2 p3 p4) [(.int (7 : Int32)), (.int p1)])) X0 (fun t k => XS.bipush X0.here hx rfl (hb hby at_58) k) ?_
  refine OwnFin.step (g' := (mkF m 61 (Lak3m10_6 p0 p1 p2 p3 p4) [(.int (p1 &&& (7 : Int32)))])) X0 (fun t k => XS.iand X0.here hx rfl (hb hby at_60) rfl k) ?_
  refine OwnFin.step (g' := (mkF m 63 (Lak3m10_7 p0 p1 p2 p3 p4) [])) X0 (fun t k => XS.istore X0.here hx rfl (hb hby at_61) rfl (l' := (Lak3m10_7 p0 p1 p2 p3 p4)) rfl k) ?_
  refine OwnFin.step (g' := (mkF m 64 (Lak3m10_7 p0 p1 p2 p3 p4) [(.int p3)])) X0 (fun t k => XS.iloadN X0.here hx rfl (hb hby at_63) rfl k) ?_
  refine OwnFin.step (g' := (mkF m 66 (Lak3m10_7 p0 p1 p2 p3 p4) [(.int (127 : Int32)), (.int p3)])) X0 (fun t k => XS.bipush X0.here hx rfl (hb hby at_64) k) ?_
  refine OwnFin.step (g' := (mkF m 67 (Lak3m10_7 p0 p1 p2 p3 p4) [(.int (p3 &&& (127 : Int32)))])) X0 (fun t k => XS.iand X0.here hx rfl (hb hby at_66) rfl k) ?_
  refine OwnFin.step (g' := (mkF m 69 (Lak3m10_8 p0 p1 p2 p3 p4) [])) X0 (fun t k => XS.istore X0.here hx rfl (hb hby at_67) rfl (l' := (Lak3m10_8 p0 p1 p2 p3 p4)) rfl k) ?_
  refine OwnFin.step (g' := (mkF m 71 (Lak3m10_8 p0 p1 p2 p3 p4) [(.int (1 : Int32))])) X0 (fun t k => XS.iload X0.here hx rfl (hb hby at_69) rfl k) ?_
  refine OwnFin.step (g' := (mkF m 74 (Lak3m10_8 p0 p1 p2 p3 p4) [])) X0 (fun t k => XS.ifNo X0.here hx rfl (hb hby at_71) rfl ((if0 _ _).trans (feq (show ¬ ((1 : Int32) = (0 : Int32)) by first | decide | exact Int32.lt_irrefl _ | exact Int64.lt_irrefl _)).1) k) ?_
  refine OwnFin.step (g' := (mkF m 76 (Lak3m10_8 p0 p1 p2 p3 p4) [(.int (3 : Int32))])) X0 (fun t k => XS.iload X0.here hx rfl (hb hby at_74) rfl k) ?_
  refine OwnFin.step (g' := (mkF m 77 (Lak3m10_8 p0 p1 p2 p3 p4) [(.int (1 : Int32)), (.int (3 : Int32))])) X0 (fun t k => XS.iconst X0.here hx rfl (hb hby at_76) k) ?_
  refine OwnFin.step (g' := (mkF m 78 (Lak3m10_8 p0 p1 p2 p3 p4) [(.int (4 : Int32))])) X0 (fun t k => XS.iadd X0.here hx rfl (hb hby at_77) rfl k) ?_
  refine OwnFin.step (g' := (mkF m 83 (Lak3m10_8 p0 p1 p2 p3 p4) [(.int (4 : Int32))])) X0 (fun t k => XS.goto X0.here hx rfl (pc0 := 78) (pc' := 83) rfl (hb hby at_78) (by decide) (by decide) k) ?_
  obtain ⟨T4, h4, b4, X4, e4, y4, K4, A4, st4⟩ := own_new X0 hx hZ (hw _ (wm 1 rfl)) e0 (g := (mkF m 83 (Lak3m10_8 p0 p1 p2 p3 p4) [(.int (4 : Int32))])) rfl (hb hby at_83) rfl (by decide) (cap := 4) (by decide) (by decide) (by decide) (by decide)
  have B4 : Ary Z h4 b4 .byte 4 (fun i => .int ((fun _ => (0 : Int32)) i)) := A4
  have g_b4 : n0 ≤ b4 := by rw [y4]; exact Z0
  have Z4 := Nat.le_trans Z0 K4.1
  refine OwnFin.step (g' := (mkF m 85 (Lak3m10_8 p0 p1 p2 p3 p4) [(.ref b4)])) X4 (fun t k => st4 _ k) ?_
  refine OwnFin.step (g' := (mkF m 87 (Lak3m10_9 p0 p1 p2 p3 p4 b4) [])) X4 (fun t k => XS.astore X4.here hx rfl (hb hby at_85) rfl rfl (l' := (Lak3m10_9 p0 p1 p2 p3 p4 b4)) rfl k) ?_
  refine OwnFin.step (g' := (mkF m 89 (Lak3m10_9 p0 p1 p2 p3 p4 b4) [(.ref b4)])) X4 (fun t k => XS.aload X4.here hx rfl (hb hby at_87) rfl rfl k) ?_
  refine OwnFin.step (g' := (mkF m 90 (Lak3m10_9 p0 p1 p2 p3 p4 b4) [(.int (0 : Int32)), (.ref b4)])) X4 (fun t k => XS.iconst X4.here hx rfl (hb hby at_89) k) ?_
  refine OwnFin.step (g' := (mkF m 92 (Lak3m10_9 p0 p1 p2 p3 p4 b4) [(.int (3 : Int32)), (.int (0 : Int32)), (.ref b4)])) X4 (fun t k => XS.iload X4.here hx rfl (hb hby at_90) rfl k) ?_
  refine OwnFin.step (g' := (mkF m 93 (Lak3m10_9 p0 p1 p2 p3 p4 b4) [(.int (1 : Int32)), (.int (3 : Int32)), (.int (0 : Int32)), (.ref b4)])) X4 (fun t k => XS.iconst X4.here hx rfl (hb hby at_92) k) ?_
  refine OwnFin.step (g' := (mkF m 96 (Lak3m10_9 p0 p1 p2 p3 p4 b4) [(.int (0 : Int32)), (.ref b4)])) X4 (fun t k => XS.icmpNo X4.here hx rfl (hb hby at_93) rfl (tlt (show (1 : Int32) < (3 : Int32) by first | rfl | decide)).2.2.2 k) ?_
  refine OwnFin.step (g' := (mkF m 98 (Lak3m10_9 p0 p1 p2 p3 p4 b4) [(.int (vk3m10_28 p0)), (.int (0 : Int32)), (.ref b4)])) X4 (fun t k => XS.iload X4.here hx rfl (hb hby at_96) rfl k) ?_
  refine OwnFin.step (g' := (mkF m 101 (Lak3m10_9 p0 p1 p2 p3 p4 b4) [(.int (128 : Int32)), (.int (vk3m10_28 p0)), (.int (0 : Int32)), (.ref b4)])) X4 (fun t k => XS.sipush X4.here hx rfl (hb hby at_98) k) ?_
  refine OwnFin.step (g' := (mkF m 102 (Lak3m10_9 p0 p1 p2 p3 p4 b4) [(.int ((vk3m10_28 p0) ||| (128 : Int32))), (.int (0 : Int32)), (.ref b4)])) X4 (fun t k => XT.ior X4.here hx rfl (hb hby at_101) rfl k) ?_
  refine OwnFin.step (g' := (mkF m 107 (Lak3m10_9 p0 p1 p2 p3 p4 b4) [(.int ((vk3m10_28 p0) ||| (128 : Int32))), (.int (0 : Int32)), (.ref b4)])) X4 (fun t k => XS.goto X4.here hx rfl (pc0 := 102) (pc' := 107) rfl (hb hby at_102) (by decide) (by decide) k) ?_
  refine OwnFin.step (g' := (mkF m 108 (Lak3m10_9 p0 p1 p2 p3 p4 b4) [(.int (((vk3m10_28 p0) ||| (128 : Int32)).toInt8.toInt32)), (.int (0 : Int32)), (.ref b4)])) X4 (fun t k => XT.i2b X4.here hx rfl (hb hby at_107) rfl k) ?_
  obtain ⟨T5, h5, L5, X5, e5, N5, K5, A5, st5⟩ := own_stB X4 hx hZ e4 N0 (G := (fun _ => (0 : Int32))) B4 g_b4 (j := (0 : Int32)) (x := (((vk3m10_28 p0) ||| (128 : Int32)).toInt8.toInt32)) (by decide) (g := (mkF m 108 (Lak3m10_9 p0 p1 p2 p3 p4 b4) [(.int (((vk3m10_28 p0) ||| (128 : Int32)).toInt8.toInt32)), (.int (0 : Int32)), (.ref b4)])) rfl rfl (hb hby at_108)
  have B5 : Ary Z h5 b4 .byte 4 (fun i => .int ((Gk3m10_108 p0) i)) := A5
  have Z5 := Nat.le_trans Z4 K5.1
  refine OwnFin.step (g' := (mkF m 109 (Lak3m10_9 p0 p1 p2 p3 p4 b4) [])) X5 (fun t k => st5 _ k) ?_
  refine OwnFin.step (g' := (mkF m 111 (Lak3m10_9 p0 p1 p2 p3 p4 b4) [(.int (3 : Int32))])) X5 (fun t k => XS.iload X5.here hx rfl (hb hby at_109) rfl k) ?_
  refine OwnFin.step (g' := (mkF m 112 (Lak3m10_9 p0 p1 p2 p3 p4 b4) [(.int (1 : Int32)), (.int (3 : Int32))])) X5 (fun t k => XS.iconst X5.here hx rfl (hb hby at_111) k) ?_
  refine OwnFin.step (g' := (mkF m 115 (Lak3m10_9 p0 p1 p2 p3 p4 b4) [])) X5 (fun t k => XS.icmpNo X5.here hx rfl (hb hby at_112) rfl (tlt (show (1 : Int32) < (3 : Int32) by first | rfl | decide)).2.2.2 k) ?_
  refine OwnFin.step (g' := (mkF m 117 (Lak3m10_9 p0 p1 p2 p3 p4 b4) [(.ref b4)])) X5 (fun t k => XS.aload X5.here hx rfl (hb hby at_115) rfl rfl k) ?_
  refine OwnFin.step (g' := (mkF m 118 (Lak3m10_9 p0 p1 p2 p3 p4 b4) [(.int (1 : Int32)), (.ref b4)])) X5 (fun t k => XS.iconst X5.here hx rfl (hb hby at_117) k) ?_
  refine OwnFin.step (g' := (mkF m 120 (Lak3m10_9 p0 p1 p2 p3 p4 b4) [(.int (3 : Int32)), (.int (1 : Int32)), (.ref b4)])) X5 (fun t k => XS.iload X5.here hx rfl (hb hby at_118) rfl k) ?_
  refine OwnFin.step (g' := (mkF m 121 (Lak3m10_9 p0 p1 p2 p3 p4 b4) [(.int (2 : Int32)), (.int (3 : Int32)), (.int (1 : Int32)), (.ref b4)])) X5 (fun t k => XS.iconst X5.here hx rfl (hb hby at_120) k) ?_
  refine OwnFin.step (g' := (mkF m 124 (Lak3m10_9 p0 p1 p2 p3 p4 b4) [(.int (1 : Int32)), (.ref b4)])) X5 (fun t k => XS.icmpNo X5.here hx rfl (hb hby at_121) rfl (tlt (show (2 : Int32) < (3 : Int32) by first | rfl | decide)).2.2.2 k) ?_
  refine OwnFin.step (g' := (mkF m 126 (Lak3m10_9 p0 p1 p2 p3 p4 b4) [(.int (vk3m10_37 p0)), (.int (1 : Int32)), (.ref b4)])) X5 (fun t k => XS.iload X5.here hx rfl (hb hby at_124) rfl k) ?_
  refine OwnFin.step (g' := (mkF m 129 (Lak3m10_9 p0 p1 p2 p3 p4 b4) [(.int (128 : Int32)), (.int (vk3m10_37 p0)), (.int (1 : Int32)), (.ref b4)])) X5 (fun t k => XS.sipush X5.here hx rfl (hb hby at_126) k) ?_
  refine OwnFin.step (g' := (mkF m 130 (Lak3m10_9 p0 p1 p2 p3 p4 b4) [(.int ((vk3m10_37 p0) ||| (128 : Int32))), (.int (1 : Int32)), (.ref b4)])) X5 (fun t k => XT.ior X5.here hx rfl (hb hby at_129) rfl k) ?_
  refine OwnFin.step (g' := (mkF m 135 (Lak3m10_9 p0 p1 p2 p3 p4 b4) [(.int ((vk3m10_37 p0) ||| (128 : Int32))), (.int (1 : Int32)), (.ref b4)])) X5 (fun t k => XS.goto X5.here hx rfl (pc0 := 130) (pc' := 135) rfl (hb hby at_130) (by decide) (by decide) k) ?_
  refine OwnFin.step (g' := (mkF m 136 (Lak3m10_9 p0 p1 p2 p3 p4 b4) [(.int (((vk3m10_37 p0) ||| (128 : Int32)).toInt8.toInt32)), (.int (1 : Int32)), (.ref b4)])) X5 (fun t k => XT.i2b X5.here hx rfl (hb hby at_135) rfl k) ?_
  obtain ⟨T6, h6, L6, X6, e6, N6, K6, A6, st6⟩ := own_stB X5 hx hZ e5 N5 (G := (Gk3m10_108 p0)) B5 g_b4 (j := (1 : Int32)) (x := (((vk3m10_37 p0) ||| (128 : Int32)).toInt8.toInt32)) (by decide) (g := (mkF m 136 (Lak3m10_9 p0 p1 p2 p3 p4 b4) [(.int (((vk3m10_37 p0) ||| (128 : Int32)).toInt8.toInt32)), (.int (1 : Int32)), (.ref b4)])) rfl rfl (hb hby at_136)
  have B6 : Ary Z h6 b4 .byte 4 (fun i => .int ((Gk3m10_136 p0) i)) := A6
  have Z6 := Nat.le_trans Z5 K6.1
  refine OwnFin.step (g' := (mkF m 137 (Lak3m10_9 p0 p1 p2 p3 p4 b4) [])) X6 (fun t k => st6 _ k) ?_
  refine OwnFin.step (g' := (mkF m 139 (Lak3m10_9 p0 p1 p2 p3 p4 b4) [(.int (3 : Int32))])) X6 (fun t k => XS.iload X6.here hx rfl (hb hby at_137) rfl k) ?_
  refine OwnFin.step (g' := (mkF m 140 (Lak3m10_9 p0 p1 p2 p3 p4 b4) [(.int (2 : Int32)), (.int (3 : Int32))])) X6 (fun t k => XS.iconst X6.here hx rfl (hb hby at_139) k) ?_
  refine OwnFin.step (g' := (mkF m 143 (Lak3m10_9 p0 p1 p2 p3 p4 b4) [])) X6 (fun t k => XS.icmpNo X6.here hx rfl (hb hby at_140) rfl (tlt (show (2 : Int32) < (3 : Int32) by first | rfl | decide)).2.2.2 k) ?_
  refine OwnFin.step (g' := (mkF m 145 (Lak3m10_9 p0 p1 p2 p3 p4 b4) [(.ref b4)])) X6 (fun t k => XS.aload X6.here hx rfl (hb hby at_143) rfl rfl k) ?_
  refine OwnFin.step (g' := (mkF m 146 (Lak3m10_9 p0 p1 p2 p3 p4 b4) [(.int (2 : Int32)), (.ref b4)])) X6 (fun t k => XS.iconst X6.here hx rfl (hb hby at_145) k) ?_
  refine OwnFin.step (g' := (mkF m 148 (Lak3m10_9 p0 p1 p2 p3 p4 b4) [(.int (3 : Int32)), (.int (2 : Int32)), (.ref b4)])) X6 (fun t k => XS.iload X6.here hx rfl (hb hby at_146) rfl k) ?_
  refine OwnFin.step (g' := (mkF m 149 (Lak3m10_9 p0 p1 p2 p3 p4 b4) [(.int (3 : Int32)), (.int (3 : Int32)), (.int (2 : Int32)), (.ref b4)])) X6 (fun t k => XS.iconst X6.here hx rfl (hb hby at_148) k) ?_
  refine OwnFin.step (g' := (mkF m 161 (Lak3m10_9 p0 p1 p2 p3 p4 b4) [(.int (2 : Int32)), (.ref b4)])) X6 (fun t k => XS.icmpYes X6.here hx rfl (pc0 := 149) (pc' := 161) rfl (hb hby at_149) rfl (flt (show ¬ ((3 : Int32) < (3 : Int32)) by first | decide | exact Int32.lt_irrefl _ | exact Int64.lt_irrefl _)).2.2.2 (by decide) (by decide) k) ?_
  refine OwnFin.step (g' := (mkF m 163 (Lak3m10_9 p0 p1 p2 p3 p4 b4) [(.int (vk3m10_46 p0)), (.int (2 : Int32)), (.ref b4)])) X6 (fun t k => XS.iload X6.here hx rfl (hb hby at_161) rfl k) ?_
  refine OwnFin.step (g' := (mkF m 164 (Lak3m10_9 p0 p1 p2 p3 p4 b4) [(.int ((vk3m10_46 p0).toInt8.toInt32)), (.int (2 : Int32)), (.ref b4)])) X6 (fun t k => XT.i2b X6.here hx rfl (hb hby at_163) rfl k) ?_
  obtain ⟨T7, h7, L7, X7, e7, N7, K7, A7, st7⟩ := own_stB X6 hx hZ e6 N6 (G := (Gk3m10_136 p0)) B6 g_b4 (j := (2 : Int32)) (x := ((vk3m10_46 p0).toInt8.toInt32)) (by decide) (g := (mkF m 164 (Lak3m10_9 p0 p1 p2 p3 p4 b4) [(.int ((vk3m10_46 p0).toInt8.toInt32)), (.int (2 : Int32)), (.ref b4)])) rfl rfl (hb hby at_164)
  have B7 : Ary Z h7 b4 .byte 4 (fun i => .int ((Gk3m10_164 p0) i)) := A7
  have Z7 := Nat.le_trans Z6 K7.1
  refine OwnFin.step (g' := (mkF m 165 (Lak3m10_9 p0 p1 p2 p3 p4 b4) [])) X7 (fun t k => st7 _ k) ?_
  refine OwnFin.step (g' := (mkF m 167 (Lak3m10_9 p0 p1 p2 p3 p4 b4) [(.int (3 : Int32))])) X7 (fun t k => XS.iload X7.here hx rfl (hb hby at_165) rfl k) ?_
  refine OwnFin.step (g' := (mkF m 168 (Lak3m10_9 p0 p1 p2 p3 p4 b4) [(.int (3 : Int32)), (.int (3 : Int32))])) X7 (fun t k => XS.iconst X7.here hx rfl (hb hby at_167) k) ?_
  refine OwnFin.step (g' := (mkF m 193 (Lak3m10_9 p0 p1 p2 p3 p4 b4) [])) X7 (fun t k => XS.icmpYes X7.here hx rfl (pc0 := 168) (pc' := 193) rfl (hb hby at_168) rfl (flt (show ¬ ((3 : Int32) < (3 : Int32)) by first | decide | exact Int32.lt_irrefl _ | exact Int64.lt_irrefl _)).2.2.2 (by decide) (by decide) k) ?_
  refine OwnFin.step (g' := (mkF m 195 (Lak3m10_9 p0 p1 p2 p3 p4 b4) [(.int (3 : Int32))])) X7 (fun t k => XS.iload X7.here hx rfl (hb hby at_193) rfl k) ?_
  refine OwnFin.step (g' := (mkF m 196 (Lak3m10_9 p0 p1 p2 p3 p4 b4) [(.int (4 : Int32)), (.int (3 : Int32))])) X7 (fun t k => XS.iconst X7.here hx rfl (hb hby at_195) k) ?_
  refine OwnFin.step (g' := (mkF m 206 (Lak3m10_9 p0 p1 p2 p3 p4 b4) [])) X7 (fun t k => XS.icmpYes X7.here hx rfl (pc0 := 196) (pc' := 206) rfl (hb hby at_196) rfl (flt (show ¬ ((4 : Int32) < (3 : Int32)) by first | decide | exact Int32.lt_irrefl _ | exact Int64.lt_irrefl _)).2.2.2 (by decide) (by decide) k) ?_
  refine OwnFin.step (g' := (mkF m 208 (Lak3m10_9 p0 p1 p2 p3 p4 b4) [(.int (1 : Int32))])) X7 (fun t k => XS.iload X7.here hx rfl (hb hby at_206) rfl k) ?_
  refine OwnFin.step (g' := (mkF m 211 (Lak3m10_9 p0 p1 p2 p3 p4 b4) [])) X7 (fun t k => XS.ifNo X7.here hx rfl (hb hby at_208) rfl ((if0 _ _).trans (feq (show ¬ ((1 : Int32) = (0 : Int32)) by first | decide | exact Int32.lt_irrefl _ | exact Int64.lt_irrefl _)).1) k) ?_
  refine OwnFin.step (g' := (mkF m 213 (Lak3m10_9 p0 p1 p2 p3 p4 b4) [(.ref b4)])) X7 (fun t k => XS.aload X7.here hx rfl (hb hby at_211) rfl rfl k) ?_
  refine OwnFin.step (g' := (mkF m 215 (Lak3m10_9 p0 p1 p2 p3 p4 b4) [(.int (3 : Int32)), (.ref b4)])) X7 (fun t k => XS.iload X7.here hx rfl (hb hby at_213) rfl k) ?_
  refine OwnFin.step (g' := (mkF m 217 (Lak3m10_9 p0 p1 p2 p3 p4 b4) [(.int (vk3m10_67 p3)), (.int (3 : Int32)), (.ref b4)])) X7 (fun t k => XS.iload X7.here hx rfl (hb hby at_215) rfl k) ?_
  refine OwnFin.step (g' := (mkF m 218 (Lak3m10_9 p0 p1 p2 p3 p4 b4) [(.int ((vk3m10_67 p3).toInt8.toInt32)), (.int (3 : Int32)), (.ref b4)])) X7 (fun t k => XT.i2b X7.here hx rfl (hb hby at_217) rfl k) ?_
  obtain ⟨T8, h8, L8, X8, e8, N8, K8, A8, st8⟩ := own_stB X7 hx hZ e7 N7 (G := (Gk3m10_164 p0)) B7 g_b4 (j := (3 : Int32)) (x := ((vk3m10_67 p3).toInt8.toInt32)) (by decide) (g := (mkF m 218 (Lak3m10_9 p0 p1 p2 p3 p4 b4) [(.int ((vk3m10_67 p3).toInt8.toInt32)), (.int (3 : Int32)), (.ref b4)])) rfl rfl (hb hby at_218)
  have B8 : Ary Z h8 b4 .byte 4 (fun i => .int ((Gk3m10_218 p0 p3) i)) := A8
  have Z8 := Nat.le_trans Z7 K8.1
  refine OwnFin.step (g' := (mkF m 219 (Lak3m10_9 p0 p1 p2 p3 p4 b4) [])) X8 (fun t k => st8 _ k) ?_
  refine OwnFin.step (g' := (mkF m 221 (Lak3m10_9 p0 p1 p2 p3 p4 b4) [(.int (vk3m10_28 p0))])) X8 (fun t k => XS.iload X8.here hx rfl (hb hby at_219) rfl k) ?_
  refine OwnFin.step (g' := (mkF m 222 (Lak3m10_9 p0 p1 p2 p3 p4 b4) [(.long ((vk3m10_28 p0).toInt64))])) X8 (fun t k => XT.i2l X8.here hx rfl (hb hby at_221) rfl k) ?_
  refine OwnFin.step (g' := (mkF m 224 (Lak3m10_10 p0 p1 p2 p3 p4 b4) [])) X8 (fun t k => XT.lstore X8.here hx rfl (hb hby at_222) rfl (l' := (Lak3m10_10 p0 p1 p2 p3 p4 b4)) rfl k) ?_
  refine OwnFin.step (g' := (mkF m 226 (Lak3m10_10 p0 p1 p2 p3 p4 b4) [(.int (3 : Int32))])) X8 (fun t k => XS.iload X8.here hx rfl (hb hby at_224) rfl k) ?_
  refine OwnFin.step (g' := (mkF m 227 (Lak3m10_10 p0 p1 p2 p3 p4 b4) [(.int (1 : Int32)), (.int (3 : Int32))])) X8 (fun t k => XS.iconst X8.here hx rfl (hb hby at_226) k) ?_
  refine OwnFin.step (g' := (mkF m 230 (Lak3m10_10 p0 p1 p2 p3 p4 b4) [])) X8 (fun t k => XS.icmpNo X8.here hx rfl (hb hby at_227) rfl (tlt (show (1 : Int32) < (3 : Int32) by first | rfl | decide)).2.2.2 k) ?_
  refine OwnFin.step (g' := (mkF m 232 (Lak3m10_10 p0 p1 p2 p3 p4 b4) [(.long (vk3m10_222 p0))])) X8 (fun t k => XT.lload X8.here hx rfl (hb hby at_230) rfl k) ?_
  refine OwnFin.step (g' := (mkF m 234 (Lak3m10_10 p0 p1 p2 p3 p4 b4) [(.int (vk3m10_37 p0)), (.long (vk3m10_222 p0))])) X8 (fun t k => XS.iload X8.here hx rfl (hb hby at_232) rfl k) ?_
  refine OwnFin.step (g' := (mkF m 235 (Lak3m10_10 p0 p1 p2 p3 p4 b4) [(.long ((vk3m10_37 p0).toInt64)), (.long (vk3m10_222 p0))])) X8 (fun t k => XT.i2l X8.here hx rfl (hb hby at_234) rfl k) ?_
  refine OwnFin.step (g' := (mkF m 238 (Lak3m10_10 p0 p1 p2 p3 p4 b4) [(.long (128 : Int64)), (.long ((vk3m10_37 p0).toInt64)), (.long (vk3m10_222 p0))])) X8 (fun t k => X8.ldc2Long hx hown (mvT hZ (hw _ (wm 2 rfl))) (g := (mkF m 235 (Lak3m10_10 p0 p1 p2 p3 p4 b4) [(.long ((vk3m10_37 p0).toInt64)), (.long (vk3m10_222 p0))])) rfl (hb hby at_235) _ k) ?_
  refine OwnFin.step (g' := (mkF m 239 (Lak3m10_10 p0 p1 p2 p3 p4 b4) [(.long (((vk3m10_37 p0).toInt64) * (128 : Int64))), (.long (vk3m10_222 p0))])) X8 (fun t k => XT.lmul X8.here hx rfl (hb hby at_238) rfl k) ?_
  refine OwnFin.step (g' := (mkF m 240 (Lak3m10_10 p0 p1 p2 p3 p4 b4) [(.long ((vk3m10_222 p0) + (((vk3m10_37 p0).toInt64) * (128 : Int64))))])) X8 (fun t k => XT.ladd X8.here hx rfl (hb hby at_239) rfl k) ?_
  refine OwnFin.step (g' := (mkF m 242 (Lak3m10_11 p0 p1 p2 p3 p4 b4) [])) X8 (fun t k => XT.lstore X8.here hx rfl (hb hby at_240) rfl (l' := (Lak3m10_11 p0 p1 p2 p3 p4 b4)) rfl k) ?_
  refine OwnFin.step (g' := (mkF m 244 (Lak3m10_11 p0 p1 p2 p3 p4 b4) [(.int (3 : Int32))])) X8 (fun t k => XS.iload X8.here hx rfl (hb hby at_242) rfl k) ?_
  refine OwnFin.step (g' := (mkF m 245 (Lak3m10_11 p0 p1 p2 p3 p4 b4) [(.int (2 : Int32)), (.int (3 : Int32))])) X8 (fun t k => XS.iconst X8.here hx rfl (hb hby at_244) k) ?_
  refine OwnFin.step (g' := (mkF m 248 (Lak3m10_11 p0 p1 p2 p3 p4 b4) [])) X8 (fun t k => XS.icmpNo X8.here hx rfl (hb hby at_245) rfl (tlt (show (2 : Int32) < (3 : Int32) by first | rfl | decide)).2.2.2 k) ?_
  refine OwnFin.step (g' := (mkF m 250 (Lak3m10_11 p0 p1 p2 p3 p4 b4) [(.long (vk3m10_240 p0))])) X8 (fun t k => XT.lload X8.here hx rfl (hb hby at_248) rfl k) ?_
  refine OwnFin.step (g' := (mkF m 252 (Lak3m10_11 p0 p1 p2 p3 p4 b4) [(.int (vk3m10_46 p0)), (.long (vk3m10_240 p0))])) X8 (fun t k => XS.iload X8.here hx rfl (hb hby at_250) rfl k) ?_
  refine OwnFin.step (g' := (mkF m 253 (Lak3m10_11 p0 p1 p2 p3 p4 b4) [(.long ((vk3m10_46 p0).toInt64)), (.long (vk3m10_240 p0))])) X8 (fun t k => XT.i2l X8.here hx rfl (hb hby at_252) rfl k) ?_
  refine OwnFin.step (g' := (mkF m 256 (Lak3m10_11 p0 p1 p2 p3 p4 b4) [(.long (16384 : Int64)), (.long ((vk3m10_46 p0).toInt64)), (.long (vk3m10_240 p0))])) X8 (fun t k => X8.ldc2Long hx hown (mvT hZ (hw _ (wm 3 rfl))) (g := (mkF m 253 (Lak3m10_11 p0 p1 p2 p3 p4 b4) [(.long ((vk3m10_46 p0).toInt64)), (.long (vk3m10_240 p0))])) rfl (hb hby at_253) _ k) ?_
  refine OwnFin.step (g' := (mkF m 257 (Lak3m10_11 p0 p1 p2 p3 p4 b4) [(.long (((vk3m10_46 p0).toInt64) * (16384 : Int64))), (.long (vk3m10_240 p0))])) X8 (fun t k => XT.lmul X8.here hx rfl (hb hby at_256) rfl k) ?_
  refine OwnFin.step (g' := (mkF m 258 (Lak3m10_11 p0 p1 p2 p3 p4 b4) [(.long ((vk3m10_240 p0) + (((vk3m10_46 p0).toInt64) * (16384 : Int64))))])) X8 (fun t k => XT.ladd X8.here hx rfl (hb hby at_257) rfl k) ?_
  refine OwnFin.step (g' := (mkF m 260 (Lak3m10_12 p0 p1 p2 p3 p4 b4) [])) X8 (fun t k => XT.lstore X8.here hx rfl (hb hby at_258) rfl (l' := (Lak3m10_12 p0 p1 p2 p3 p4 b4)) rfl k) ?_
  refine OwnFin.step (g' := (mkF m 262 (Lak3m10_12 p0 p1 p2 p3 p4 b4) [(.int (3 : Int32))])) X8 (fun t k => XS.iload X8.here hx rfl (hb hby at_260) rfl k) ?_
  refine OwnFin.step (g' := (mkF m 263 (Lak3m10_12 p0 p1 p2 p3 p4 b4) [(.int (3 : Int32)), (.int (3 : Int32))])) X8 (fun t k => XS.iconst X8.here hx rfl (hb hby at_262) k) ?_
  refine OwnFin.step (g' := (mkF m 278 (Lak3m10_12 p0 p1 p2 p3 p4 b4) [])) X8 (fun t k => XS.icmpYes X8.here hx rfl (pc0 := 263) (pc' := 278) rfl (hb hby at_263) rfl (flt (show ¬ ((3 : Int32) < (3 : Int32)) by first | decide | exact Int32.lt_irrefl _ | exact Int64.lt_irrefl _)).2.2.2 (by decide) (by decide) k) ?_
  refine OwnFin.step (g' := (mkF m 280 (Lak3m10_12 p0 p1 p2 p3 p4 b4) [(.int (3 : Int32))])) X8 (fun t k => XS.iload X8.here hx rfl (hb hby at_278) rfl k) ?_
  refine OwnFin.step (g' := (mkF m 281 (Lak3m10_12 p0 p1 p2 p3 p4 b4) [(.int (4 : Int32)), (.int (3 : Int32))])) X8 (fun t k => XS.iconst X8.here hx rfl (hb hby at_280) k) ?_
  refine OwnFin.step (g' := (mkF m 296 (Lak3m10_12 p0 p1 p2 p3 p4 b4) [])) X8 (fun t k => XS.icmpYes X8.here hx rfl (pc0 := 281) (pc' := 296) rfl (hb hby at_281) rfl (flt (show ¬ ((4 : Int32) < (3 : Int32)) by first | decide | exact Int32.lt_irrefl _ | exact Int64.lt_irrefl _)).2.2.2 (by decide) (by decide) k) ?_
  obtain ⟨T9, h9, X9, e9, E9, A9, D9, -, st9⟩ := newO X8 hx hZ hown (hw _ (wm 4 rfl)) (hw _ (wm 5 rfl)) (hw _ (wm 6 rfl)) e8 (g := (mkF m 296 (Lak3m10_12 p0 p1 p2 p3 p4 b4) [])) rfl (hb hby at_296) (by decide) (by decide)
  obtain ⟨b9, y9⟩ : ∃ z, z = h8.size := ⟨_, rfl⟩
  rw [← y9] at A9 D9 st9
  have K9 := keep_ext E9
  have ne_b4_b9 : b4 ≠ b9 := Ary.neS B8 y9
  have g_b9 : n0 ≤ b9 := by rw [y9]; exact Z8
  have Z9 := Nat.le_trans Z8 K9.1
  have F9_record : Fld Z h9 b9 "com/example/faden/faden/rank/RecordReader" "record" "[B" .null := D9 (Or.inr (hw _ (wm 14 rfl))) (ty := (.array .byte)) (by decide)
  have F9_at : Fld Z h9 b9 "com/example/faden/faden/rank/RecordReader" "at" "I" (.int (0 : Int32)) := D9 (Or.inl (hw _ (wm 21 rfl))) (ty := .int) (by decide)
  refine OwnFin.step (g' := (mkF m 299 (Lak3m10_12 p0 p1 p2 p3 p4 b4) [(.ref b9)])) X9 (fun t k => st9 _ k) ?_
  refine OwnFin.step (g' := (mkF m 300 (Lak3m10_12 p0 p1 p2 p3 p4 b4) [(.ref b9), (.ref b9)])) X9 (fun t k => XS.dup X9.here hx rfl (hb hby at_299) rfl rfl k) ?_
  refine OwnFin.step (g' := (mkF m 302 (Lak3m10_12 p0 p1 p2 p3 p4 b4) [(.ref b4), (.ref b9), (.ref b9)])) X9 (fun t k => XS.aload X9.here hx rfl (hb hby at_300) rfl rfl k) ?_
  obtain ⟨_, T10, L10, X10, ⟨rfl, N10q, u11, u12, u13, u14⟩, st10⟩ := own_callI X9 hx hZ (y := (⟨"com/example/faden/faden/rank/RecordReader", "<init>", "([B)V"⟩ : MethodName)) (W := 1) (a := b9) (argsL := [(.ref b4)]) (rest := [(.ref b9)]) rfl hown (hw _ (wm 7 rfl)) (hw _ (wm 8 rfl)) (hw _ (wm 6 rfl)) (hw _ (wm 9 rfl)) (by decide) (rm1 l Z a0 hw [] b9 b4 h9 n0 Z9 A9 g_b9 F9_record F9_at) (by decide) (by decide) (by decide) (by decide) e9 (g := (mkF m 302 (Lak3m10_12 p0 p1 p2 p3 p4 b4) [(.ref b4), (.ref b9), (.ref b9)])) rfl (by rw [hml]; rfl) pd_0 rfl rfl (by show 2 * 0 + _ ≤ _; exact Nat.le_of_eq rfl) (hb hby at_302)
  have N10 := Fr.app N8 N10q
  obtain ⟨h10, e10⟩ : ∃ z, T10.heap = z := ⟨_, rfl⟩
  rw [e10] at u11 u12 u13 u14
  have K10 := u11
  have Z10 := Nat.le_trans Z9 K10.1
  refine OwnFin.step (g' := (mkF m 305 (Lak3m10_12 p0 p1 p2 p3 p4 b4) [(.ref b9)])) X10 (fun t k => st10 _ k) ?_
  refine OwnFin.step (g' := (mkF m 307 (Lak3m10_13 p0 p1 p2 p3 p4 b4 b9) [])) X10 (fun t k => XS.astore X10.here hx rfl (hb hby at_305) rfl rfl (l' := (Lak3m10_13 p0 p1 p2 p3 p4 b4 b9)) rfl k) ?_
  refine OwnFin.step (g' := (mkF m 309 (Lak3m10_13 p0 p1 p2 p3 p4 b4 b9) [(.ref b9)])) X10 (fun t k => XS.aload X10.here hx rfl (hb hby at_307) rfl rfl k) ?_
  have A16 := ((B8.keep K9 nin0).keep K10 (ninS ne_b4_b9 nin0))
  obtain ⟨_, T15, L15, X15, ⟨rfl, N15q, u17, u18, u19, u20⟩, st15⟩ := own_callV X10 hx hZ (y := (⟨"com/example/faden/faden/rank/RecordReader", "number", "()I"⟩ : MethodName)) (W := 0) (a := b9) (argsL := []) (rest := []) hown (hw _ (wm 15 rfl)) (hw _ (wm 16 rfl)) (hw _ (wm 18 rfl)) (hw _ (wm 17 rfl)) (hw _ (wm 6 rfl)) (hw _ (wm 19 rfl)) (by decide) u12 (rm3a0k3 l Z a0 hw [] b9 4 (Gk3m10_218 p0 p3) b4 h10 n0 Z10 u12 g_b9 u13 u14 A16 (Ne.symm ne_b4_b9) (exhlnk3m10_309 p2 p4 hk hm) (exhb0k3m10_309 p0 p3 p2 p4 hk hm) (exhb1k3m10_309 p0 p3 p2 p4 hk hm) (exhb2k3m10_309 p0 p3 p2 p4 hk hm)) (by decide) (by decide) (by decide) (by decide) e10 (g := (mkF m 309 (Lak3m10_13 p0 p1 p2 p3 p4 b4 b9) [(.ref b9)])) rfl (by rw [hml]; rfl) pd_1 rfl rfl (by show 2 * 0 + _ ≤ _; exact Nat.le_of_eq rfl) (hb hby at_309)
  have N15 := Fr.app N10 N15q
  obtain ⟨h15, e15⟩ : ∃ z, T15.heap = z := ⟨_, rfl⟩
  rw [e15] at u17 u18 u19 u20
  have K15 := u17
  have Z15 := Nat.le_trans Z10 K15.1
  refine OwnFin.step (g' := (mkF m 312 (Lak3m10_13 p0 p1 p2 p3 p4 b4 b9) [(.int (va0k33_77bb (Gk3m10_218 p0 p3)))])) X15 (fun t k => st15 _ k) ?_
  refine OwnFin.step (g' := (mkF m 314 (Lak3m10_14 p0 p1 p2 p3 p4 b4 b9) [])) X15 (fun t k => XS.istore X15.here hx rfl (hb hby at_312) rfl (l' := (Lak3m10_14 p0 p1 p2 p3 p4 b4 b9)) rfl k) ?_
  refine OwnFin.step (g' := (mkF m 316 (Lak3m10_14 p0 p1 p2 p3 p4 b4 b9) [(.int (vk3m10_312 p0 p3))])) X15 (fun t k => XS.iload X15.here hx rfl (hb hby at_314) rfl k) ?_
  refine OwnFin.step (g' := (mkF m 317 (Lak3m10_14 p0 p1 p2 p3 p4 b4 b9) [(.long ((vk3m10_312 p0 p3).toInt64))])) X15 (fun t k => XT.i2l X15.here hx rfl (hb hby at_316) rfl k) ?_
  refine OwnFin.step (g' := (mkF m 319 (Lak3m10_14 p0 p1 p2 p3 p4 b4 b9) [(.long (vk3m10_258 p0)), (.long ((vk3m10_312 p0 p3).toInt64))])) X15 (fun t k => XT.lload X15.here hx rfl (hb hby at_317) rfl k) ?_
  refine OwnFin.step (g' := (mkF m 320 (Lak3m10_14 p0 p1 p2 p3 p4 b4 b9) [(.int (XT.cmpL ((vk3m10_312 p0 p3).toInt64) (vk3m10_258 p0)))])) X15 (fun t k => XT.lcmp X15.here hx rfl (hb hby at_319) rfl k) ?_
  refine OwnFin.step (g' := (mkF m 325 (Lak3m10_14 p0 p1 p2 p3 p4 b4 b9) [])) X15 (fun t k => XS.ifYes X15.here hx rfl (pc0 := 320) (pc' := 325) rfl (hb hby at_320) rfl ((if0 _ _).trans (teq ((cl_eq _ _).mpr (brk3m10_320 p0 p3 p2 p4 hk hm))).1) (by decide) (by decide) k) ?_
  refine OwnFin.step (g' := (mkF m 327 (Lak3m10_14 p0 p1 p2 p3 p4 b4 b9) [(.int (1 : Int32))])) X15 (fun t k => XS.iload X15.here hx rfl (hb hby at_325) rfl k) ?_
  refine OwnFin.step (g' := (mkF m 336 (Lak3m10_14 p0 p1 p2 p3 p4 b4 b9) [])) X15 (fun t k => XS.ifYes X15.here hx rfl (pc0 := 327) (pc' := 336) rfl (hb hby at_327) rfl ((if0 _ _).trans (feq (show ¬ ((1 : Int32) = (0 : Int32)) by first | decide | exact Int32.lt_irrefl _ | exact Int64.lt_irrefl _)).2) (by decide) (by decide) k) ?_
  refine OwnFin.step (g' := (mkF m 338 (Lak3m10_14 p0 p1 p2 p3 p4 b4 b9) [(.ref b9)])) X15 (fun t k => XS.aload X15.here hx rfl (hb hby at_336) rfl rfl k) ?_
  have A22 := (A16.keep K15 (ninS ne_b4_b9 nin0))
  obtain ⟨_, T21, L21, X21, ⟨rfl, N21q, u23⟩, st21⟩ := own_callV X15 hx hZ (y := (⟨"com/example/faden/faden/rank/RecordReader", "atEnd", "()Z"⟩ : MethodName)) (W := 0) (a := b9) (argsL := []) (rest := []) hown (hw _ (wm 22 rfl)) (hw _ (wm 23 rfl)) (hw _ (wm 25 rfl)) (hw _ (wm 24 rfl)) (hw _ (wm 6 rfl)) (hw _ (wm 26 rfl)) (by decide) u18 (rm4 l Z a0 hw [] b9 4 (Gk3m10_218 p0 p3) b4 (3 : Int32) h15 n0 Z15 u18 g_b9 u19 u20 A22 (Ne.symm ne_b4_b9)) (by decide) (by decide) (by decide) (by decide) e15 (g := (mkF m 338 (Lak3m10_14 p0 p1 p2 p3 p4 b4 b9) [(.ref b9)])) rfl (by rw [hml]; rfl) pd_2 rfl rfl (by show 2 * 0 + _ ≤ _; exact Nat.le_of_eq rfl) (hb hby at_338)
  have N21 := Fr.app N15 N21q
  obtain ⟨h21, e21⟩ : ∃ z, T21.heap = z := ⟨_, rfl⟩
  rw [e21] at u23
  have K21 := u23
  have Z21 := Nat.le_trans Z15 K21.1
  rw [show (nar .boolean (v4_17 (3 : Int32) 4)) = (0 : Int32) from by decide] at st21
  refine OwnFin.step (g' := (mkF m 341 (Lak3m10_14 p0 p1 p2 p3 p4 b4 b9) [(.int (0 : Int32))])) X21 (fun t k => st21 _ k) ?_
  refine OwnFin.step (g' := (mkF m 346 (Lak3m10_14 p0 p1 p2 p3 p4 b4 b9) [])) X21 (fun t k => XS.ifYes X21.here hx rfl (pc0 := 341) (pc' := 346) rfl (hb hby at_341) rfl ((if0 _ _).trans (teq (show (0 : Int32) = (0 : Int32) by first | rfl | decide)).1) (by decide) (by decide) k) ?_
  refine OwnFin.step (g' := (mkF m 348 (Lak3m10_14 p0 p1 p2 p3 p4 b4 b9) [(.ref b9)])) X21 (fun t k => XS.aload X21.here hx rfl (hb hby at_346) rfl rfl k) ?_
  have E25 := (Exa.keep u18 K21)
  have F26 := (u19.keep K21 nin0)
  have F27 := (u20.keep K21 nin0)
  have A28 := (A22.keep K21 nin0)
  obtain ⟨_, T24, L24, X24, ⟨rfl, N24q, u29, u30, u31, u32⟩, st24⟩ := own_callV X21 hx hZ (y := (⟨"com/example/faden/faden/rank/RecordReader", "number", "()I"⟩ : MethodName)) (W := 0) (a := b9) (argsL := []) (rest := []) hown (hw _ (wm 15 rfl)) (hw _ (wm 16 rfl)) (hw _ (wm 18 rfl)) (hw _ (wm 17 rfl)) (hw _ (wm 6 rfl)) (hw _ (wm 19 rfl)) (by decide) E25 (rm3a3k1 l Z a0 hw [] b9 4 (Gk3m10_218 p0 p3) b4 h21 n0 Z21 E25 g_b9 F26 F27 A28 (Ne.symm ne_b4_b9) (exhlnk3m10_348 p2 p4 hk hm) (exhb0k3m10_348 p0 p3 p2 p4 hk hm)) (by decide) (by decide) (by decide) (by decide) e21 (g := (mkF m 348 (Lak3m10_14 p0 p1 p2 p3 p4 b4 b9) [(.ref b9)])) rfl (by rw [hml]; rfl) pd_1 rfl rfl (by show 2 * 0 + _ ≤ _; exact Nat.le_of_eq rfl) (hb hby at_348)
  have N24 := Fr.app N21 N24q
  obtain ⟨h24, e24⟩ : ∃ z, T24.heap = z := ⟨_, rfl⟩
  rw [e24] at u29 u30 u31 u32
  have K24 := u29
  have Z24 := Nat.le_trans Z21 K24.1
  refine OwnFin.step (g' := (mkF m 351 (Lak3m10_14 p0 p1 p2 p3 p4 b4 b9) [(.int (va3k13_77 (Gk3m10_218 p0 p3)))])) X24 (fun t k => st24 _ k) ?_
  refine OwnFin.step (g' := (mkF m 353 (Lak3m10_15 p0 p1 p2 p3 p4 b4 b9) [])) X24 (fun t k => XS.istore X24.here hx rfl (hb hby at_351) rfl (l' := (Lak3m10_15 p0 p1 p2 p3 p4 b4 b9)) rfl k) ?_
  refine OwnFin.step (g' := (mkF m 355 (Lak3m10_15 p0 p1 p2 p3 p4 b4 b9) [(.int (vk3m10_351 p0 p3))])) X24 (fun t k => XS.iload X24.here hx rfl (hb hby at_353) rfl k) ?_
  refine OwnFin.step (g' := (mkF m 357 (Lak3m10_15 p0 p1 p2 p3 p4 b4 b9) [(.int (vk3m10_67 p3)), (.int (vk3m10_351 p0 p3))])) X24 (fun t k => XS.iload X24.here hx rfl (hb hby at_355) rfl k) ?_
  refine OwnFin.step (g' := (mkF m 360 (Lak3m10_15 p0 p1 p2 p3 p4 b4 b9) [])) X24 (fun t k => XS.icmpNo X24.here hx rfl (hb hby at_357) rfl (teq (brk3m10_357 p0 p3 p2 p4 hk hm)).2 k) ?_
  refine OwnFin.step (g' := (mkF m 362 (Lak3m10_15 p0 p1 p2 p3 p4 b4 b9) [(.ref b9)])) X24 (fun t k => XS.aload X24.here hx rfl (hb hby at_360) rfl rfl k) ?_
  have A34 := (A28.keep K24 (ninS ne_b4_b9 nin0))
  obtain ⟨_, T33, L33, X33, ⟨rfl, N33q, u35⟩, st33⟩ := own_callV X24 hx hZ (y := (⟨"com/example/faden/faden/rank/RecordReader", "atEnd", "()Z"⟩ : MethodName)) (W := 0) (a := b9) (argsL := []) (rest := []) hown (hw _ (wm 22 rfl)) (hw _ (wm 23 rfl)) (hw _ (wm 25 rfl)) (hw _ (wm 24 rfl)) (hw _ (wm 6 rfl)) (hw _ (wm 26 rfl)) (by decide) u30 (rm4 l Z a0 hw [] b9 4 (Gk3m10_218 p0 p3) b4 (4 : Int32) h24 n0 Z24 u30 g_b9 u31 u32 A34 (Ne.symm ne_b4_b9)) (by decide) (by decide) (by decide) (by decide) e24 (g := (mkF m 362 (Lak3m10_15 p0 p1 p2 p3 p4 b4 b9) [(.ref b9)])) rfl (by rw [hml]; rfl) pd_2 rfl rfl (by show 2 * 0 + _ ≤ _; exact Nat.le_of_eq rfl) (hb hby at_362)
  have N33 := Fr.app N24 N33q
  obtain ⟨h33, e33⟩ : ∃ z, T33.heap = z := ⟨_, rfl⟩
  rw [e33] at u35
  have K33 := u35
  have Z33 := Nat.le_trans Z24 K33.1
  rw [show (nar .boolean (v4_17 (4 : Int32) 4)) = (1 : Int32) from by decide] at st33
  refine OwnFin.step (g' := (mkF m 365 (Lak3m10_15 p0 p1 p2 p3 p4 b4 b9) [(.int (1 : Int32))])) X33 (fun t k => st33 _ k) ?_
  refine OwnFin.step (g' := (mkF m 368 (Lak3m10_15 p0 p1 p2 p3 p4 b4 b9) [])) X33 (fun t k => XS.ifNo X33.here hx rfl (hb hby at_365) rfl ((if0 _ _).trans (feq (show ¬ ((1 : Int32) = (0 : Int32)) by first | decide | exact Int32.lt_irrefl _ | exact Int64.lt_irrefl _)).1) k) ?_
  refine OwnFin.step (g' := (mkF m 369 (Lak3m10_15 p0 p1 p2 p3 p4 b4 b9) [(.int (1 : Int32))])) X33 (fun t k => XS.iconst X33.here hx rfl (hb hby at_368) k) ?_
  refine OwnFin.step (g' := (mkF m 373 (Lak3m10_15 p0 p1 p2 p3 p4 b4 b9) [(.int (1 : Int32))])) X33 (fun t k => XS.goto X33.here hx rfl (pc0 := 369) (pc' := 373) rfl (hb hby at_369) (by decide) (by decide) k) ?_
  refine OwnFin.retNar X33 (by simp) (hb hby at_373) (by decide) (by decide) ?_
  exact ⟨rfl, N33⟩
set_option maxRecDepth 65536 in
set_option maxHeartbeats 40000000 in
theorem rm0k3m1 (l : Launch) (Z : State) (a0 : Array Value) (hw : ∀ d ∈ tables_1, d.before a0 Z = true) (ws : List Jvm.Cond) (p0 : Int32) (p1 : Int32) (p2 : Int32) (p3 : Int32) (p4 : Int32) (h0 : Heap) (n0 : Nat) (Z0 : n0 ≤ h0.size) (hk : vk3m10_8 p2 = (3 : Int32)) (hm : vk3m10_22 p4 = (1 : Int32)) :
    MetFree l x (head1 (Jvm.Cond.code x code maxLocals ret :: ws) room_1) (fun a U => a = #[(.int p0), (.int p1), (.int p2), (.int p3), (.int p4)] ∧ Z.Warmed39 U.vm ∧ U.heap = h0) (fun _ _ _ _ _ => True) (fun _ U o U' => ∃ v L, o = .returned v ∧ (LQ n0) v U'.heap L ∧ FrameEnd U o U' L room_1.cells room_1.slots) :=
  own_met (ret := ret) (Q := (LQ n0)) (plainFor_of_name pn_0) (fun m => ef_0 m p0 p1 p2 p3 p4) (fun p e s m below meth c s₁ X hx hby hml hown hnm hZ e0 => j0k3m1 X hx hZ hw hby hml hown hnm e0 (Fr.nil n0) Z0 p0 p1 p2 p3 p4 hk hm)
def vk4m00_8 (p2 : Int32) : Int32 := (((p2 &&& (2147483647 : Int32)) % (5 : Int32)) + (1 : Int32))
def vk4m00_22 (p4 : Int32) : Int32 := (if (p4 &&& (1 : Int32)) = (0 : Int32) then (0 : Int32) else (1 : Int32))
def vk4m00_28 (p0 : Int32) : Int32 := (p0 &&& (127 : Int32))
def vk4m00_37 (p0 : Int32) : Int32 := ((XT.ushr p0 (8 : Int32)) &&& (127 : Int32))
def vk4m00_46 (p0 : Int32) : Int32 := ((XT.ushr p0 (16 : Int32)) &&& (127 : Int32))
def vk4m00_55 (p0 : Int32) : Int32 := ((XT.ushr p0 (24 : Int32)) &&& (127 : Int32))
def vk4m00_61 (p1 : Int32) : Int32 := (p1 &&& (7 : Int32))
def vk4m00_67 (p3 : Int32) : Int32 := (p3 &&& (127 : Int32))
def Gk4m00_108 (p0 : Int32) : Nat → Int32 := (updN (fun _ => (0 : Int32)) ((0 : Int32)).toNatClampNeg (nar .byte (((vk4m00_28 p0) ||| (128 : Int32)).toInt8.toInt32)))
def Gk4m00_136 (p0 : Int32) : Nat → Int32 := (updN (Gk4m00_108 p0) ((1 : Int32)).toNatClampNeg (nar .byte (((vk4m00_37 p0) ||| (128 : Int32)).toInt8.toInt32)))
def Gk4m00_164 (p0 : Int32) : Nat → Int32 := (updN (Gk4m00_136 p0) ((2 : Int32)).toNatClampNeg (nar .byte (((vk4m00_46 p0) ||| (128 : Int32)).toInt8.toInt32)))
def Gk4m00_192 (p0 : Int32) : Nat → Int32 := (updN (Gk4m00_164 p0) ((3 : Int32)).toNatClampNeg (nar .byte ((vk4m00_55 p0).toInt8.toInt32)))
def vk4m00_222 (p0 : Int32) : Int64 := ((vk4m00_28 p0).toInt64)
def vk4m00_240 (p0 : Int32) : Int64 := ((vk4m00_222 p0) + (((vk4m00_37 p0).toInt64) * (128 : Int64)))
def vk4m00_258 (p0 : Int32) : Int64 := ((vk4m00_240 p0) + (((vk4m00_46 p0).toInt64) * (16384 : Int64)))
def vk4m00_276 (p0 : Int32) : Int64 := ((vk4m00_258 p0) + (((vk4m00_55 p0).toInt64) * (2097152 : Int64)))
def vk4m00_312 (p0 : Int32) : Int32 := (va0k43_77bbb (Gk4m00_192 p0))
theorem exhlnk4m00_309 (p2 : Int32) (p4 : Int32) (hk : vk4m00_8 p2 = (4 : Int32)) (hm : vk4m00_22 p4 = (0 : Int32)) : 4 ≤ 4 ∧ 4 < 100 := by decide
theorem exhb0k4m00_309 (p0 : Int32) (p2 : Int32) (p4 : Int32) (hk : vk4m00_8 p2 = (4 : Int32)) (hm : vk4m00_22 p4 = (0 : Int32)) : 128 ≤ (((Gk4m00_192 p0) 0) &&& 255).toInt := by
  have b0 : 0 ≤ (vk4m00_28 p0).toInt ∧ (vk4m00_28 p0).toInt < 128 := own_b127 _
  have h0 : (((Gk4m00_192 p0) 0) &&& 255).toInt = (vk4m00_28 p0).toInt + 128 := own_hi b0
  have b1 : 0 ≤ (vk4m00_37 p0).toInt ∧ (vk4m00_37 p0).toInt < 128 := own_b127 _
  have h1 : (((Gk4m00_192 p0) 1) &&& 255).toInt = (vk4m00_37 p0).toInt + 128 := own_hi b1
  have b2 : 0 ≤ (vk4m00_46 p0).toInt ∧ (vk4m00_46 p0).toInt < 128 := own_b127 _
  have h2 : (((Gk4m00_192 p0) 2) &&& 255).toInt = (vk4m00_46 p0).toInt + 128 := own_hi b2
  have b3 : 0 ≤ (vk4m00_55 p0).toInt ∧ (vk4m00_55 p0).toInt < 128 := own_b127 _
  have h3 : (((Gk4m00_192 p0) 3) &&& 255).toInt = (vk4m00_55 p0).toInt := own_lo ⟨b3.1, Int.lt_of_lt_of_le b3.2 (by decide)⟩
  omega
theorem exhb1k4m00_309 (p0 : Int32) (p2 : Int32) (p4 : Int32) (hk : vk4m00_8 p2 = (4 : Int32)) (hm : vk4m00_22 p4 = (0 : Int32)) : 128 ≤ (((Gk4m00_192 p0) 1) &&& 255).toInt := by
  have b0 : 0 ≤ (vk4m00_28 p0).toInt ∧ (vk4m00_28 p0).toInt < 128 := own_b127 _
  have h0 : (((Gk4m00_192 p0) 0) &&& 255).toInt = (vk4m00_28 p0).toInt + 128 := own_hi b0
  have b1 : 0 ≤ (vk4m00_37 p0).toInt ∧ (vk4m00_37 p0).toInt < 128 := own_b127 _
  have h1 : (((Gk4m00_192 p0) 1) &&& 255).toInt = (vk4m00_37 p0).toInt + 128 := own_hi b1
  have b2 : 0 ≤ (vk4m00_46 p0).toInt ∧ (vk4m00_46 p0).toInt < 128 := own_b127 _
  have h2 : (((Gk4m00_192 p0) 2) &&& 255).toInt = (vk4m00_46 p0).toInt + 128 := own_hi b2
  have b3 : 0 ≤ (vk4m00_55 p0).toInt ∧ (vk4m00_55 p0).toInt < 128 := own_b127 _
  have h3 : (((Gk4m00_192 p0) 3) &&& 255).toInt = (vk4m00_55 p0).toInt := own_lo ⟨b3.1, Int.lt_of_lt_of_le b3.2 (by decide)⟩
  omega
theorem exhb2k4m00_309 (p0 : Int32) (p2 : Int32) (p4 : Int32) (hk : vk4m00_8 p2 = (4 : Int32)) (hm : vk4m00_22 p4 = (0 : Int32)) : 128 ≤ (((Gk4m00_192 p0) 2) &&& 255).toInt := by
  have b0 : 0 ≤ (vk4m00_28 p0).toInt ∧ (vk4m00_28 p0).toInt < 128 := own_b127 _
  have h0 : (((Gk4m00_192 p0) 0) &&& 255).toInt = (vk4m00_28 p0).toInt + 128 := own_hi b0
  have b1 : 0 ≤ (vk4m00_37 p0).toInt ∧ (vk4m00_37 p0).toInt < 128 := own_b127 _
  have h1 : (((Gk4m00_192 p0) 1) &&& 255).toInt = (vk4m00_37 p0).toInt + 128 := own_hi b1
  have b2 : 0 ≤ (vk4m00_46 p0).toInt ∧ (vk4m00_46 p0).toInt < 128 := own_b127 _
  have h2 : (((Gk4m00_192 p0) 2) &&& 255).toInt = (vk4m00_46 p0).toInt + 128 := own_hi b2
  have b3 : 0 ≤ (vk4m00_55 p0).toInt ∧ (vk4m00_55 p0).toInt < 128 := own_b127 _
  have h3 : (((Gk4m00_192 p0) 3) &&& 255).toInt = (vk4m00_55 p0).toInt := own_lo ⟨b3.1, Int.lt_of_lt_of_le b3.2 (by decide)⟩
  omega
theorem exhb3k4m00_309 (p0 : Int32) (p2 : Int32) (p4 : Int32) (hk : vk4m00_8 p2 = (4 : Int32)) (hm : vk4m00_22 p4 = (0 : Int32)) : (((Gk4m00_192 p0) 3) &&& 255).toInt < 128 := by
  have b0 : 0 ≤ (vk4m00_28 p0).toInt ∧ (vk4m00_28 p0).toInt < 128 := own_b127 _
  have h0 : (((Gk4m00_192 p0) 0) &&& 255).toInt = (vk4m00_28 p0).toInt + 128 := own_hi b0
  have b1 : 0 ≤ (vk4m00_37 p0).toInt ∧ (vk4m00_37 p0).toInt < 128 := own_b127 _
  have h1 : (((Gk4m00_192 p0) 1) &&& 255).toInt = (vk4m00_37 p0).toInt + 128 := own_hi b1
  have b2 : 0 ≤ (vk4m00_46 p0).toInt ∧ (vk4m00_46 p0).toInt < 128 := own_b127 _
  have h2 : (((Gk4m00_192 p0) 2) &&& 255).toInt = (vk4m00_46 p0).toInt + 128 := own_hi b2
  have b3 : 0 ≤ (vk4m00_55 p0).toInt ∧ (vk4m00_55 p0).toInt < 128 := own_b127 _
  have h3 : (((Gk4m00_192 p0) 3) &&& 255).toInt = (vk4m00_55 p0).toInt := own_lo ⟨b3.1, Int.lt_of_lt_of_le b3.2 (by decide)⟩
  omega
theorem brk4m00_320 (p0 : Int32) (p2 : Int32) (p4 : Int32) (hk : vk4m00_8 p2 = (4 : Int32)) (hm : vk4m00_22 p4 = (0 : Int32)) : ((vk4m00_312 p0).toInt64) = (vk4m00_276 p0) := by
  have b0 : 0 ≤ (vk4m00_28 p0).toInt ∧ (vk4m00_28 p0).toInt < 128 := own_b127 _
  have h0 : (((Gk4m00_192 p0) 0) &&& 255).toInt = (vk4m00_28 p0).toInt + 128 := own_hi b0
  have b1 : 0 ≤ (vk4m00_37 p0).toInt ∧ (vk4m00_37 p0).toInt < 128 := own_b127 _
  have h1 : (((Gk4m00_192 p0) 1) &&& 255).toInt = (vk4m00_37 p0).toInt + 128 := own_hi b1
  have b2 : 0 ≤ (vk4m00_46 p0).toInt ∧ (vk4m00_46 p0).toInt < 128 := own_b127 _
  have h2 : (((Gk4m00_192 p0) 2) &&& 255).toInt = (vk4m00_46 p0).toInt + 128 := own_hi b2
  have b3 : 0 ≤ (vk4m00_55 p0).toInt ∧ (vk4m00_55 p0).toInt < 128 := own_b127 _
  have h3 : (((Gk4m00_192 p0) 3) &&& 255).toInt = (vk4m00_55 p0).toInt := own_lo ⟨b3.1, Int.lt_of_lt_of_le b3.2 (by decide)⟩
  have e0 : (vk4m00_222 p0).toInt = (vk4m00_28 p0).toInt := Jvm.Kit.i64_of_i32 _
  have m0 : (((Gk4m00_192 p0) 0) &&& 255).toInt % 128 = (vk4m00_28 p0).toInt := own_m7 h0 ⟨b0.1, Int.lt_of_lt_of_le b0.2 (by decide)⟩
  have m1 : (((Gk4m00_192 p0) 1) &&& 255).toInt % 128 = (vk4m00_37 p0).toInt := own_m7 h1 ⟨b1.1, Int.lt_of_lt_of_le b1.2 (by decide)⟩
  have m2 : (((Gk4m00_192 p0) 2) &&& 255).toInt % 128 = (vk4m00_46 p0).toInt := own_m7 h2 ⟨b2.1, Int.lt_of_lt_of_le b2.2 (by decide)⟩
  have m3 : (((Gk4m00_192 p0) 3) &&& 255).toInt % 128 = (vk4m00_55 p0).toInt := own_m7' h3 ⟨b3.1, Int.lt_of_lt_of_le b3.2 (by decide)⟩
  have e1 : (vk4m00_240 p0).toInt = (vk4m00_222 p0).toInt + (vk4m00_37 p0).toInt * 128 ∧ 0 ≤ (vk4m00_240 p0).toInt ∧ (vk4m00_240 p0).toInt < 16384 := own_ex1 _ _ (by rw [e0]; exact b0) ⟨b1.1, Int.lt_of_lt_of_le b1.2 (by decide)⟩
  have e2 : (vk4m00_258 p0).toInt = (vk4m00_240 p0).toInt + (vk4m00_46 p0).toInt * 16384 ∧ 0 ≤ (vk4m00_258 p0).toInt ∧ (vk4m00_258 p0).toInt < 2097152 := own_ex2 _ _ e1.2 ⟨b2.1, Int.lt_of_lt_of_le b2.2 (by decide)⟩
  have e3 : (vk4m00_276 p0).toInt = (vk4m00_258 p0).toInt + (vk4m00_55 p0).toInt * 2097152 ∧ 0 ≤ (vk4m00_276 p0).toInt ∧ (vk4m00_276 p0).toInt < 268435456 := own_ex3 _ _ e2.2 ⟨b3.1, Int.lt_of_lt_of_le b3.2 (by decide)⟩
  have r : (vk4m00_312 p0).toInt = _ := own_va0k43_77bbb (Gk4m00_192 p0)
  rw [i64eq, Jvm.Kit.i64_of_i32, r, m0, m1, m2, m3, e3.1, e2.1, e1.1, e0, Int.mul_one]
abbrev Lak4m00_0 (p0 : Int32) (p1 : Int32) (p2 : Int32) (p3 : Int32) (p4 : Int32) : Array Slot := #[.val (.int p0), .val (.int p1), .val (.int p2), .val (.int p3), .val (.int p4), .unset, .unset, .unset, .unset, .unset, .unset, .unset, .unset, .unset, .unset, .unset, .unset, .unset, .unset]
abbrev Lak4m00_1 (p0 : Int32) (p1 : Int32) (p2 : Int32) (p3 : Int32) (p4 : Int32) : Array Slot := #[.val (.int p0), .val (.int p1), .val (.int p2), .val (.int p3), .val (.int p4), .val (.int (4 : Int32)), .unset, .unset, .unset, .unset, .unset, .unset, .unset, .unset, .unset, .unset, .unset, .unset, .unset]
abbrev Lak4m00_2 (p0 : Int32) (p1 : Int32) (p2 : Int32) (p3 : Int32) (p4 : Int32) : Array Slot := #[.val (.int p0), .val (.int p1), .val (.int p2), .val (.int p3), .val (.int p4), .val (.int (4 : Int32)), .val (.int (0 : Int32)), .unset, .unset, .unset, .unset, .unset, .unset, .unset, .unset, .unset, .unset, .unset, .unset]
abbrev Lak4m00_3 (p0 : Int32) (p1 : Int32) (p2 : Int32) (p3 : Int32) (p4 : Int32) : Array Slot := #[.val (.int p0), .val (.int p1), .val (.int p2), .val (.int p3), .val (.int p4), .val (.int (4 : Int32)), .val (.int (0 : Int32)), .val (.int (vk4m00_28 p0)), .unset, .unset, .unset, .unset, .unset, .unset, .unset, .unset, .unset, .unset, .unset]
abbrev Lak4m00_4 (p0 : Int32) (p1 : Int32) (p2 : Int32) (p3 : Int32) (p4 : Int32) : Array Slot := #[.val (.int p0), .val (.int p1), .val (.int p2), .val (.int p3), .val (.int p4), .val (.int (4 : Int32)), .val (.int (0 : Int32)), .val (.int (vk4m00_28 p0)), .val (.int (vk4m00_37 p0)), .unset, .unset, .unset, .unset, .unset, .unset, .unset, .unset, .unset, .unset]
abbrev Lak4m00_5 (p0 : Int32) (p1 : Int32) (p2 : Int32) (p3 : Int32) (p4 : Int32) : Array Slot := #[.val (.int p0), .val (.int p1), .val (.int p2), .val (.int p3), .val (.int p4), .val (.int (4 : Int32)), .val (.int (0 : Int32)), .val (.int (vk4m00_28 p0)), .val (.int (vk4m00_37 p0)), .val (.int (vk4m00_46 p0)), .unset, .unset, .unset, .unset, .unset, .unset, .unset, .unset, .unset]
abbrev Lak4m00_6 (p0 : Int32) (p1 : Int32) (p2 : Int32) (p3 : Int32) (p4 : Int32) : Array Slot := #[.val (.int p0), .val (.int p1), .val (.int p2), .val (.int p3), .val (.int p4), .val (.int (4 : Int32)), .val (.int (0 : Int32)), .val (.int (vk4m00_28 p0)), .val (.int (vk4m00_37 p0)), .val (.int (vk4m00_46 p0)), .val (.int (vk4m00_55 p0)), .unset, .unset, .unset, .unset, .unset, .unset, .unset, .unset]
abbrev Lak4m00_7 (p0 : Int32) (p1 : Int32) (p2 : Int32) (p3 : Int32) (p4 : Int32) : Array Slot := #[.val (.int p0), .val (.int p1), .val (.int p2), .val (.int p3), .val (.int p4), .val (.int (4 : Int32)), .val (.int (0 : Int32)), .val (.int (vk4m00_28 p0)), .val (.int (vk4m00_37 p0)), .val (.int (vk4m00_46 p0)), .val (.int (vk4m00_55 p0)), .val (.int (vk4m00_61 p1)), .unset, .unset, .unset, .unset, .unset, .unset, .unset]
abbrev Lak4m00_8 (p0 : Int32) (p1 : Int32) (p2 : Int32) (p3 : Int32) (p4 : Int32) : Array Slot := #[.val (.int p0), .val (.int p1), .val (.int p2), .val (.int p3), .val (.int p4), .val (.int (4 : Int32)), .val (.int (0 : Int32)), .val (.int (vk4m00_28 p0)), .val (.int (vk4m00_37 p0)), .val (.int (vk4m00_46 p0)), .val (.int (vk4m00_55 p0)), .val (.int (vk4m00_61 p1)), .val (.int (vk4m00_67 p3)), .unset, .unset, .unset, .unset, .unset, .unset]
abbrev Lak4m00_9 (p0 : Int32) (p1 : Int32) (p2 : Int32) (p3 : Int32) (p4 : Int32) (b4 : Addr) : Array Slot := #[.val (.int p0), .val (.int p1), .val (.int p2), .val (.int p3), .val (.int p4), .val (.int (4 : Int32)), .val (.int (0 : Int32)), .val (.int (vk4m00_28 p0)), .val (.int (vk4m00_37 p0)), .val (.int (vk4m00_46 p0)), .val (.int (vk4m00_55 p0)), .val (.int (vk4m00_61 p1)), .val (.int (vk4m00_67 p3)), .val (.ref b4), .unset, .unset, .unset, .unset, .unset]
abbrev Lak4m00_10 (p0 : Int32) (p1 : Int32) (p2 : Int32) (p3 : Int32) (p4 : Int32) (b4 : Addr) : Array Slot := #[.val (.int p0), .val (.int p1), .val (.int p2), .val (.int p3), .val (.int p4), .val (.int (4 : Int32)), .val (.int (0 : Int32)), .val (.int (vk4m00_28 p0)), .val (.int (vk4m00_37 p0)), .val (.int (vk4m00_46 p0)), .val (.int (vk4m00_55 p0)), .val (.int (vk4m00_61 p1)), .val (.int (vk4m00_67 p3)), .val (.ref b4), .val (.long (vk4m00_222 p0)), .second, .unset, .unset, .unset]
abbrev Lak4m00_11 (p0 : Int32) (p1 : Int32) (p2 : Int32) (p3 : Int32) (p4 : Int32) (b4 : Addr) : Array Slot := #[.val (.int p0), .val (.int p1), .val (.int p2), .val (.int p3), .val (.int p4), .val (.int (4 : Int32)), .val (.int (0 : Int32)), .val (.int (vk4m00_28 p0)), .val (.int (vk4m00_37 p0)), .val (.int (vk4m00_46 p0)), .val (.int (vk4m00_55 p0)), .val (.int (vk4m00_61 p1)), .val (.int (vk4m00_67 p3)), .val (.ref b4), .val (.long (vk4m00_240 p0)), .second, .unset, .unset, .unset]
abbrev Lak4m00_12 (p0 : Int32) (p1 : Int32) (p2 : Int32) (p3 : Int32) (p4 : Int32) (b4 : Addr) : Array Slot := #[.val (.int p0), .val (.int p1), .val (.int p2), .val (.int p3), .val (.int p4), .val (.int (4 : Int32)), .val (.int (0 : Int32)), .val (.int (vk4m00_28 p0)), .val (.int (vk4m00_37 p0)), .val (.int (vk4m00_46 p0)), .val (.int (vk4m00_55 p0)), .val (.int (vk4m00_61 p1)), .val (.int (vk4m00_67 p3)), .val (.ref b4), .val (.long (vk4m00_258 p0)), .second, .unset, .unset, .unset]
abbrev Lak4m00_13 (p0 : Int32) (p1 : Int32) (p2 : Int32) (p3 : Int32) (p4 : Int32) (b4 : Addr) : Array Slot := #[.val (.int p0), .val (.int p1), .val (.int p2), .val (.int p3), .val (.int p4), .val (.int (4 : Int32)), .val (.int (0 : Int32)), .val (.int (vk4m00_28 p0)), .val (.int (vk4m00_37 p0)), .val (.int (vk4m00_46 p0)), .val (.int (vk4m00_55 p0)), .val (.int (vk4m00_61 p1)), .val (.int (vk4m00_67 p3)), .val (.ref b4), .val (.long (vk4m00_276 p0)), .second, .unset, .unset, .unset]
abbrev Lak4m00_14 (p0 : Int32) (p1 : Int32) (p2 : Int32) (p3 : Int32) (p4 : Int32) (b4 : Addr) (b9 : Addr) : Array Slot := #[.val (.int p0), .val (.int p1), .val (.int p2), .val (.int p3), .val (.int p4), .val (.int (4 : Int32)), .val (.int (0 : Int32)), .val (.int (vk4m00_28 p0)), .val (.int (vk4m00_37 p0)), .val (.int (vk4m00_46 p0)), .val (.int (vk4m00_55 p0)), .val (.int (vk4m00_61 p1)), .val (.int (vk4m00_67 p3)), .val (.ref b4), .val (.long (vk4m00_276 p0)), .second, .val (.ref b9), .unset, .unset]
abbrev Lak4m00_15 (p0 : Int32) (p1 : Int32) (p2 : Int32) (p3 : Int32) (p4 : Int32) (b4 : Addr) (b9 : Addr) : Array Slot := #[.val (.int p0), .val (.int p1), .val (.int p2), .val (.int p3), .val (.int p4), .val (.int (4 : Int32)), .val (.int (0 : Int32)), .val (.int (vk4m00_28 p0)), .val (.int (vk4m00_37 p0)), .val (.int (vk4m00_46 p0)), .val (.int (vk4m00_55 p0)), .val (.int (vk4m00_61 p1)), .val (.int (vk4m00_67 p3)), .val (.ref b4), .val (.long (vk4m00_276 p0)), .second, .val (.ref b9), .val (.int (vk4m00_312 p0)), .unset]
set_option maxRecDepth 65536 in
set_option maxHeartbeats 40000000 in
theorem j0k4m0 {p : Program} {l : Launch} {e : Env} {s : State} {m : MethodId} {args : Array Value} {below : List Frame} {meth : Method} {c : Code} {T0 : State} {locs : List Loc} {Z : State} {a0 : Array Value} {h0 : Heap} {n0 : Nat}
    (X0 : Stand p l e room_1 s m args below meth c T0 locs 0 0) (hx : p.tables.exec = Jvm.exec) (hZ : Z.Warmed39 s.vm) (hw : ∀ d ∈ tables_1, d.before a0 Z = true) (hby : c.code = code) (hml : c.maxLocals = 19) (hown : s.vm.findClass "com/example/faden/faden/rank/RecordReaderNumberPinLaw" = some m.cls) (hnm : meth.name = "law") (e0 : T0.heap = h0) (N0 : Fr n0 locs) (Z0 : n0 ≤ h0.size) (p0 : Int32) (p1 : Int32) (p2 : Int32) (p3 : Int32) (p4 : Int32) (hk : vk4m00_8 p2 = (4 : Int32)) (hm : vk4m00_22 p4 = (0 : Int32)) :
    OwnFin X0 (some .boolean) (LQ n0) room_1.cells room_1.slots (mkF m 0 #[.val (.int p0), .val (.int p1), .val (.int p2), .val (.int p3), .val (.int p4), .unset, .unset, .unset, .unset, .unset, .unset, .unset, .unset, .unset, .unset, .unset, .unset, .unset, .unset] []) := by
  refine OwnFin.step (g' := (mkF m 1 (Lak4m00_0 p0 p1 p2 p3 p4) [(.int p2)])) X0 (fun t k => XS.iloadN X0.here hx rfl (hb hby at_0) rfl k) ?_
  refine OwnFin.step (g' := (mkF m 3 (Lak4m00_0 p0 p1 p2 p3 p4) [(.int (2147483647 : Int32)), (.int p2)])) X0 (fun t k => X0.ldcInt hx hown (mvT hZ (hw _ (wm 0 rfl))) (g := (mkF m 1 (Lak4m00_0 p0 p1 p2 p3 p4) [(.int p2)])) rfl (hb hby at_1) _ k) ?_
  refine OwnFin.step (g' := (mkF m 4 (Lak4m00_0 p0 p1 p2 p3 p4) [(.int (p2 &&& (2147483647 : Int32)))])) X0 (fun t k => XS.iand X0.here hx rfl (hb hby at_3) rfl k) ?_
  refine OwnFin.step (g' := (mkF m 5 (Lak4m00_0 p0 p1 p2 p3 p4) [(.int (5 : Int32)), (.int (p2 &&& (2147483647 : Int32)))])) X0 (fun t k => XS.iconst X0.here hx rfl (hb hby at_4) k) ?_
  refine OwnFin.step (g' := (mkF m 6 (Lak4m00_0 p0 p1 p2 p3 p4) [(.int ((p2 &&& (2147483647 : Int32)) % (5 : Int32)))])) X0 (fun t k => iremM (g := (mkF m 5 (Lak4m00_0 p0 p1 p2 p3 p4) [(.int (5 : Int32)), (.int (p2 &&& (2147483647 : Int32)))])) X0 hx rfl (hb hby at_5) rfl (by decide) k) ?_
  refine OwnFin.step (g' := (mkF m 7 (Lak4m00_0 p0 p1 p2 p3 p4) [(.int (1 : Int32)), (.int ((p2 &&& (2147483647 : Int32)) % (5 : Int32)))])) X0 (fun t k => XS.iconst X0.here hx rfl (hb hby at_6) k) ?_
  refine OwnFin.step (g' := (mkF m 8 (Lak4m00_0 p0 p1 p2 p3 p4) [(.int (((p2 &&& (2147483647 : Int32)) % (5 : Int32)) + (1 : Int32)))])) X0 (fun t k => XS.iadd X0.here hx rfl (hb hby at_7) rfl k) ?_
  refine OwnFin.step (g' := (mkF m 10 #[.val (.int p0), .val (.int p1), .val (.int p2), .val (.int p3), .val (.int p4), .val (.int (vk4m00_8 p2)), .unset, .unset, .unset, .unset, .unset, .unset, .unset, .unset, .unset, .unset, .unset, .unset, .unset] [])) X0 (fun t k => XS.istore X0.here hx rfl (hb hby at_8) rfl (l' := #[.val (.int p0), .val (.int p1), .val (.int p2), .val (.int p3), .val (.int p4), .val (.int (vk4m00_8 p2)), .unset, .unset, .unset, .unset, .unset, .unset, .unset, .unset, .unset, .unset, .unset, .unset, .unset]) rfl k) ?_
  rw [hk]
  refine OwnFin.step (g' := (mkF m 12 (Lak4m00_1 p0 p1 p2 p3 p4) [(.int p4)])) X0 (fun t k => XS.iload X0.here hx rfl (hb hby at_10) rfl k) ?_
  refine OwnFin.step (g' := (mkF m 13 (Lak4m00_1 p0 p1 p2 p3 p4) [(.int (1 : Int32)), (.int p4)])) X0 (fun t k => XS.iconst X0.here hx rfl (hb hby at_12) k) ?_
  refine OwnFin.step (g' := (mkF m 14 (Lak4m00_1 p0 p1 p2 p3 p4) [(.int (p4 &&& (1 : Int32)))])) X0 (fun t k => XS.iand X0.here hx rfl (hb hby at_13) rfl k) ?_
  refine OwnFin.step (g' := (mkF m 22 #[.val (.int p0), .val (.int p1), .val (.int p2), .val (.int p3), .val (.int p4), .val (.int (4 : Int32)), .unset, .unset, .unset, .unset, .unset, .unset, .unset, .unset, .unset, .unset, .unset, .unset, .unset] [(.int (vk4m00_22 p4))])) X0 (fun t k => ?_) ?_
  · show Steps p.tables e below (T0.setTop (mkF m 14 (Lak4m00_1 p0 p1 p2 p3 p4) [(.int (p4 &&& (1 : Int32)))])) t
    by_cases hc1 : (p4 &&& (1 : Int32)) = (0 : Int32)
    · skip
      refine XS.ifYes X0.here hx rfl (pc0 := 14) (pc' := 21) rfl (hb hby at_14) rfl ((if0 _ _).trans (teq hc1).1) (by decide) (by decide) ?_
      show Steps p.tables e below (T0.setTop (mkF m 21 (Lak4m00_1 p0 p1 p2 p3 p4) [])) t
      refine XS.iconst X0.here hx rfl (hb hby at_21) ?_
      show Steps p.tables e below (T0.setTop (mkF m 22 (Lak4m00_1 p0 p1 p2 p3 p4) [(.int (0 : Int32))])) t
      have qq2 : (vk4m00_22 p4) = (0 : Int32) := by
        show (if (p4 &&& (1 : Int32)) = (0 : Int32) then (0 : Int32) else (1 : Int32)) = (0 : Int32)
        simp only [if_pos hc1]
      rw [qq2] at k
      exact k
    · skip
      refine XS.ifNo X0.here hx rfl (hb hby at_14) rfl ((if0 _ _).trans (feq hc1).1) ?_
      show Steps p.tables e below (T0.setTop (mkF m 17 (Lak4m00_1 p0 p1 p2 p3 p4) [])) t
      refine XS.iconst X0.here hx rfl (hb hby at_17) ?_
      show Steps p.tables e below (T0.setTop (mkF m 18 (Lak4m00_1 p0 p1 p2 p3 p4) [(.int (1 : Int32))])) t
      refine XS.goto X0.here hx rfl (pc0 := 18) (pc' := 22) rfl (hb hby at_18) (by decide) (by decide) ?_
      show Steps p.tables e below (T0.setTop (mkF m 22 (Lak4m00_1 p0 p1 p2 p3 p4) [(.int (1 : Int32))])) t
      have qq3 : (vk4m00_22 p4) = (1 : Int32) := by
        show (if (p4 &&& (1 : Int32)) = (0 : Int32) then (0 : Int32) else (1 : Int32)) = (1 : Int32)
        simp only [if_neg hc1]
      rw [qq3] at k
      exact k
  refine OwnFin.step (g' := (mkF m 24 #[.val (.int p0), .val (.int p1), .val (.int p2), .val (.int p3), .val (.int p4), .val (.int (4 : Int32)), .val (.int (vk4m00_22 p4)), .unset, .unset, .unset, .unset, .unset, .unset, .unset, .unset, .unset, .unset, .unset, .unset] [])) X0 (fun t k => XS.istore X0.here hx rfl (hb hby at_22) rfl (l' := #[.val (.int p0), .val (.int p1), .val (.int p2), .val (.int p3), .val (.int p4), .val (.int (4 : Int32)), .val (.int (vk4m00_22 p4)), .unset, .unset, .unset, .unset, .unset, .unset, .unset, .unset, .unset, .unset, .unset, .unset]) rfl k) ?_
  rw [hm]
  refine OwnFin.step (g' := (mkF m 25 (Lak4m00_2 p0 p1 p2 p3 p4) [(.int p0)])) X0 (fun t k => XS.iloadN X0.here hx rfl (hb hby at_24) rfl k) ?_
  refine OwnFin.step (g' := (mkF m 27 (Lak4m00_2 p0 p1 p2 p3 p4) [(.int (127 : Int32)), (.int p0)])) X0 (fun t k => XS.bipush X0.here hx rfl (hb hby at_25) k) ?_
  refine OwnFin.step (g' := (mkF m 28 (Lak4m00_2 p0 p1 p2 p3 p4) [(.int (p0 &&& (127 : Int32)))])) X0 (fun t k => XS.iand X0.here hx rfl (hb hby at_27) rfl k) ?_
  refine OwnFin.step (g' := (mkF m 30 (Lak4m00_3 p0 p1 p2 p3 p4) [])) X0 (fun t k => XS.istore X0.here hx rfl (hb hby at_28) rfl (l' := (Lak4m00_3 p0 p1 p2 p3 p4)) rfl k) ?_
  refine OwnFin.step (g' := (mkF m 31 (Lak4m00_3 p0 p1 p2 p3 p4) [(.int p0)])) X0 (fun t k => XS.iloadN X0.here hx rfl (hb hby at_30) rfl k) ?_
  refine OwnFin.step (g' := (mkF m 33 (Lak4m00_3 p0 p1 p2 p3 p4) [(.int (8 : Int32)), (.int p0)])) X0 (fun t k => XS.bipush X0.here hx rfl (hb hby at_31) k) ?_
  refine OwnFin.step (g' := (mkF m 34 (Lak4m00_3 p0 p1 p2 p3 p4) [(.int (XT.ushr p0 (8 : Int32)))])) X0 (fun t k => XT.iushr X0.here hx rfl (hb hby at_33) rfl k) ?_
  refine OwnFin.step (g' := (mkF m 36 (Lak4m00_3 p0 p1 p2 p3 p4) [(.int (127 : Int32)), (.int (XT.ushr p0 (8 : Int32)))])) X0 (fun t k => XS.bipush X0.here hx rfl (hb hby at_34) k) ?_
  refine OwnFin.step (g' := (mkF m 37 (Lak4m00_3 p0 p1 p2 p3 p4) [(.int ((XT.ushr p0 (8 : Int32)) &&& (127 : Int32)))])) X0 (fun t k => XS.iand X0.here hx rfl (hb hby at_36) rfl k) ?_
  refine OwnFin.step (g' := (mkF m 39 (Lak4m00_4 p0 p1 p2 p3 p4) [])) X0 (fun t k => XS.istore X0.here hx rfl (hb hby at_37) rfl (l' := (Lak4m00_4 p0 p1 p2 p3 p4)) rfl k) ?_
  refine OwnFin.step (g' := (mkF m 40 (Lak4m00_4 p0 p1 p2 p3 p4) [(.int p0)])) X0 (fun t k => XS.iloadN X0.here hx rfl (hb hby at_39) rfl k) ?_
  refine OwnFin.step (g' := (mkF m 42 (Lak4m00_4 p0 p1 p2 p3 p4) [(.int (16 : Int32)), (.int p0)])) X0 (fun t k => XS.bipush X0.here hx rfl (hb hby at_40) k) ?_
  refine OwnFin.step (g' := (mkF m 43 (Lak4m00_4 p0 p1 p2 p3 p4) [(.int (XT.ushr p0 (16 : Int32)))])) X0 (fun t k => XT.iushr X0.here hx rfl (hb hby at_42) rfl k) ?_
  refine OwnFin.step (g' := (mkF m 45 (Lak4m00_4 p0 p1 p2 p3 p4) [(.int (127 : Int32)), (.int (XT.ushr p0 (16 : Int32)))])) X0 (fun t k => XS.bipush X0.here hx rfl (hb hby at_43) k) ?_
  refine OwnFin.step (g' := (mkF m 46 (Lak4m00_4 p0 p1 p2 p3 p4) [(.int ((XT.ushr p0 (16 : Int32)) &&& (127 : Int32)))])) X0 (fun t k => XS.iand X0.here hx rfl (hb hby at_45) rfl k) ?_
  refine OwnFin.step (g' := (mkF m 48 (Lak4m00_5 p0 p1 p2 p3 p4) [])) X0 (fun t k => XS.istore X0.here hx rfl (hb hby at_46) rfl (l' := (Lak4m00_5 p0 p1 p2 p3 p4)) rfl k) ?_
  refine OwnFin.step (g' := (mkF m 49 (Lak4m00_5 p0 p1 p2 p3 p4) [(.int p0)])) X0 (fun t k => XS.iloadN X0.here hx rfl (hb hby at_48) rfl k) ?_
  refine OwnFin.step (g' := (mkF m 51 (Lak4m00_5 p0 p1 p2 p3 p4) [(.int (24 : Int32)), (.int p0)])) X0 (fun t k => XS.bipush X0.here hx rfl (hb hby at_49) k) ?_
  refine OwnFin.step (g' := (mkF m 52 (Lak4m00_5 p0 p1 p2 p3 p4) [(.int (XT.ushr p0 (24 : Int32)))])) X0 (fun t k => XT.iushr X0.here hx rfl (hb hby at_51) rfl k) ?_
  refine OwnFin.step (g' := (mkF m 54 (Lak4m00_5 p0 p1 p2 p3 p4) [(.int (127 : Int32)), (.int (XT.ushr p0 (24 : Int32)))])) X0 (fun t k => XS.bipush X0.here hx rfl (hb hby at_52) k) ?_
  refine OwnFin.step (g' := (mkF m 55 (Lak4m00_5 p0 p1 p2 p3 p4) [(.int ((XT.ushr p0 (24 : Int32)) &&& (127 : Int32)))])) X0 (fun t k => XS.iand X0.here hx rfl (hb hby at_54) rfl k) ?_
  refine OwnFin.step (g' := (mkF m 57 (Lak4m00_6 p0 p1 p2 p3 p4) [])) X0 (fun t k => XS.istore X0.here hx rfl (hb hby at_55) rfl (l' := (Lak4m00_6 p0 p1 p2 p3 p4)) rfl k) ?_
  refine OwnFin.step (g' := (mkF m 58 (Lak4m00_6 p0 p1 p2 p3 p4) [(.int p1)])) X0 (fun t k => XS.iloadN X0.here hx rfl (hb hby at_57) rfl k) ?_
  refine OwnFin.step (g' := (mkF m 60 (Lak4m00_6 p0 p1 p2 p3 p4) [(.int (7 : Int32)), (.int p1)])) X0 (fun t k => XS.bipush X0.here hx rfl (hb hby at_58) k) ?_
  refine OwnFin.step (g' := (mkF m 61 (Lak4m00_6 p0 p1 p2 p3 p4) [(.int (p1 &&& (7 : Int32)))])) X0 (fun t k => XS.iand X0.here hx rfl (hb hby at_60) rfl k) ?_
  refine OwnFin.step (g' := (mkF m 63 (Lak4m00_7 p0 p1 p2 p3 p4) [])) X0 (fun t k => XS.istore X0.here hx rfl (hb hby at_61) rfl (l' := (Lak4m00_7 p0 p1 p2 p3 p4)) rfl k) ?_
  refine OwnFin.step (g' := (mkF m 64 (Lak4m00_7 p0 p1 p2 p3 p4) [(.int p3)])) X0 (fun t k => XS.iloadN X0.here hx rfl (hb hby at_63) rfl k) ?_
  refine OwnFin.step (g' := (mkF m 66 (Lak4m00_7 p0 p1 p2 p3 p4) [(.int (127 : Int32)), (.int p3)])) X0 (fun t k => XS.bipush X0.here hx rfl (hb hby at_64) k) ?_
  refine OwnFin.step (g' := (mkF m 67 (Lak4m00_7 p0 p1 p2 p3 p4) [(.int (p3 &&& (127 : Int32)))])) X0 (fun t k => XS.iand X0.here hx rfl (hb hby at_66) rfl k) ?_
  refine OwnFin.step (g' := (mkF m 69 (Lak4m00_8 p0 p1 p2 p3 p4) [])) X0 (fun t k => XS.istore X0.here hx rfl (hb hby at_67) rfl (l' := (Lak4m00_8 p0 p1 p2 p3 p4)) rfl k) ?_
  refine OwnFin.step (g' := (mkF m 71 (Lak4m00_8 p0 p1 p2 p3 p4) [(.int (0 : Int32))])) X0 (fun t k => XS.iload X0.here hx rfl (hb hby at_69) rfl k) ?_
  refine OwnFin.step (g' := (mkF m 81 (Lak4m00_8 p0 p1 p2 p3 p4) [])) X0 (fun t k => XS.ifYes X0.here hx rfl (pc0 := 71) (pc' := 81) rfl (hb hby at_71) rfl ((if0 _ _).trans (teq (show (0 : Int32) = (0 : Int32) by first | rfl | decide)).1) (by decide) (by decide) k) ?_
  refine OwnFin.step (g' := (mkF m 83 (Lak4m00_8 p0 p1 p2 p3 p4) [(.int (4 : Int32))])) X0 (fun t k => XS.iload X0.here hx rfl (hb hby at_81) rfl k) ?_
  obtain ⟨T4, h4, b4, X4, e4, y4, K4, A4, st4⟩ := own_new X0 hx hZ (hw _ (wm 1 rfl)) e0 (g := (mkF m 83 (Lak4m00_8 p0 p1 p2 p3 p4) [(.int (4 : Int32))])) rfl (hb hby at_83) rfl (by decide) (cap := 4) (by decide) (by decide) (by decide) (by decide)
  have B4 : Ary Z h4 b4 .byte 4 (fun i => .int ((fun _ => (0 : Int32)) i)) := A4
  have g_b4 : n0 ≤ b4 := by rw [y4]; exact Z0
  have Z4 := Nat.le_trans Z0 K4.1
  refine OwnFin.step (g' := (mkF m 85 (Lak4m00_8 p0 p1 p2 p3 p4) [(.ref b4)])) X4 (fun t k => st4 _ k) ?_
  refine OwnFin.step (g' := (mkF m 87 (Lak4m00_9 p0 p1 p2 p3 p4 b4) [])) X4 (fun t k => XS.astore X4.here hx rfl (hb hby at_85) rfl rfl (l' := (Lak4m00_9 p0 p1 p2 p3 p4 b4)) rfl k) ?_
  refine OwnFin.step (g' := (mkF m 89 (Lak4m00_9 p0 p1 p2 p3 p4 b4) [(.ref b4)])) X4 (fun t k => XS.aload X4.here hx rfl (hb hby at_87) rfl rfl k) ?_
  refine OwnFin.step (g' := (mkF m 90 (Lak4m00_9 p0 p1 p2 p3 p4 b4) [(.int (0 : Int32)), (.ref b4)])) X4 (fun t k => XS.iconst X4.here hx rfl (hb hby at_89) k) ?_
  refine OwnFin.step (g' := (mkF m 92 (Lak4m00_9 p0 p1 p2 p3 p4 b4) [(.int (4 : Int32)), (.int (0 : Int32)), (.ref b4)])) X4 (fun t k => XS.iload X4.here hx rfl (hb hby at_90) rfl k) ?_
  refine OwnFin.step (g' := (mkF m 93 (Lak4m00_9 p0 p1 p2 p3 p4 b4) [(.int (1 : Int32)), (.int (4 : Int32)), (.int (0 : Int32)), (.ref b4)])) X4 (fun t k => XS.iconst X4.here hx rfl (hb hby at_92) k) ?_
  refine OwnFin.step (g' := (mkF m 96 (Lak4m00_9 p0 p1 p2 p3 p4 b4) [(.int (0 : Int32)), (.ref b4)])) X4 (fun t k => XS.icmpNo X4.here hx rfl (hb hby at_93) rfl (tlt (show (1 : Int32) < (4 : Int32) by first | rfl | decide)).2.2.2 k) ?_
  refine OwnFin.step (g' := (mkF m 98 (Lak4m00_9 p0 p1 p2 p3 p4 b4) [(.int (vk4m00_28 p0)), (.int (0 : Int32)), (.ref b4)])) X4 (fun t k => XS.iload X4.here hx rfl (hb hby at_96) rfl k) ?_
  refine OwnFin.step (g' := (mkF m 101 (Lak4m00_9 p0 p1 p2 p3 p4 b4) [(.int (128 : Int32)), (.int (vk4m00_28 p0)), (.int (0 : Int32)), (.ref b4)])) X4 (fun t k => XS.sipush X4.here hx rfl (hb hby at_98) k) ?_
  refine OwnFin.step (g' := (mkF m 102 (Lak4m00_9 p0 p1 p2 p3 p4 b4) [(.int ((vk4m00_28 p0) ||| (128 : Int32))), (.int (0 : Int32)), (.ref b4)])) X4 (fun t k => XT.ior X4.here hx rfl (hb hby at_101) rfl k) ?_
  refine OwnFin.step (g' := (mkF m 107 (Lak4m00_9 p0 p1 p2 p3 p4 b4) [(.int ((vk4m00_28 p0) ||| (128 : Int32))), (.int (0 : Int32)), (.ref b4)])) X4 (fun t k => XS.goto X4.here hx rfl (pc0 := 102) (pc' := 107) rfl (hb hby at_102) (by decide) (by decide) k) ?_
  refine OwnFin.step (g' := (mkF m 108 (Lak4m00_9 p0 p1 p2 p3 p4 b4) [(.int (((vk4m00_28 p0) ||| (128 : Int32)).toInt8.toInt32)), (.int (0 : Int32)), (.ref b4)])) X4 (fun t k => XT.i2b X4.here hx rfl (hb hby at_107) rfl k) ?_
  obtain ⟨T5, h5, L5, X5, e5, N5, K5, A5, st5⟩ := own_stB X4 hx hZ e4 N0 (G := (fun _ => (0 : Int32))) B4 g_b4 (j := (0 : Int32)) (x := (((vk4m00_28 p0) ||| (128 : Int32)).toInt8.toInt32)) (by decide) (g := (mkF m 108 (Lak4m00_9 p0 p1 p2 p3 p4 b4) [(.int (((vk4m00_28 p0) ||| (128 : Int32)).toInt8.toInt32)), (.int (0 : Int32)), (.ref b4)])) rfl rfl (hb hby at_108)
  have B5 : Ary Z h5 b4 .byte 4 (fun i => .int ((Gk4m00_108 p0) i)) := A5
  have Z5 := Nat.le_trans Z4 K5.1
  refine OwnFin.step (g' := (mkF m 109 (Lak4m00_9 p0 p1 p2 p3 p4 b4) [])) X5 (fun t k => st5 _ k) ?_
  refine OwnFin.step (g' := (mkF m 111 (Lak4m00_9 p0 p1 p2 p3 p4 b4) [(.int (4 : Int32))])) X5 (fun t k => XS.iload X5.here hx rfl (hb hby at_109) rfl k) ?_
  refine OwnFin.step (g' := (mkF m 112 (Lak4m00_9 p0 p1 p2 p3 p4 b4) [(.int (1 : Int32)), (.int (4 : Int32))])) X5 (fun t k => XS.iconst X5.here hx rfl (hb hby at_111) k) ?_
  refine OwnFin.step (g' := (mkF m 115 (Lak4m00_9 p0 p1 p2 p3 p4 b4) [])) X5 (fun t k => XS.icmpNo X5.here hx rfl (hb hby at_112) rfl (tlt (show (1 : Int32) < (4 : Int32) by first | rfl | decide)).2.2.2 k) ?_
  refine OwnFin.step (g' := (mkF m 117 (Lak4m00_9 p0 p1 p2 p3 p4 b4) [(.ref b4)])) X5 (fun t k => XS.aload X5.here hx rfl (hb hby at_115) rfl rfl k) ?_
  refine OwnFin.step (g' := (mkF m 118 (Lak4m00_9 p0 p1 p2 p3 p4 b4) [(.int (1 : Int32)), (.ref b4)])) X5 (fun t k => XS.iconst X5.here hx rfl (hb hby at_117) k) ?_
  refine OwnFin.step (g' := (mkF m 120 (Lak4m00_9 p0 p1 p2 p3 p4 b4) [(.int (4 : Int32)), (.int (1 : Int32)), (.ref b4)])) X5 (fun t k => XS.iload X5.here hx rfl (hb hby at_118) rfl k) ?_
  refine OwnFin.step (g' := (mkF m 121 (Lak4m00_9 p0 p1 p2 p3 p4 b4) [(.int (2 : Int32)), (.int (4 : Int32)), (.int (1 : Int32)), (.ref b4)])) X5 (fun t k => XS.iconst X5.here hx rfl (hb hby at_120) k) ?_
  refine OwnFin.step (g' := (mkF m 124 (Lak4m00_9 p0 p1 p2 p3 p4 b4) [(.int (1 : Int32)), (.ref b4)])) X5 (fun t k => XS.icmpNo X5.here hx rfl (hb hby at_121) rfl (tlt (show (2 : Int32) < (4 : Int32) by first | rfl | decide)).2.2.2 k) ?_
  refine OwnFin.step (g' := (mkF m 126 (Lak4m00_9 p0 p1 p2 p3 p4 b4) [(.int (vk4m00_37 p0)), (.int (1 : Int32)), (.ref b4)])) X5 (fun t k => XS.iload X5.here hx rfl (hb hby at_124) rfl k) ?_
  refine OwnFin.step (g' := (mkF m 129 (Lak4m00_9 p0 p1 p2 p3 p4 b4) [(.int (128 : Int32)), (.int (vk4m00_37 p0)), (.int (1 : Int32)), (.ref b4)])) X5 (fun t k => XS.sipush X5.here hx rfl (hb hby at_126) k) ?_
  refine OwnFin.step (g' := (mkF m 130 (Lak4m00_9 p0 p1 p2 p3 p4 b4) [(.int ((vk4m00_37 p0) ||| (128 : Int32))), (.int (1 : Int32)), (.ref b4)])) X5 (fun t k => XT.ior X5.here hx rfl (hb hby at_129) rfl k) ?_
  refine OwnFin.step (g' := (mkF m 135 (Lak4m00_9 p0 p1 p2 p3 p4 b4) [(.int ((vk4m00_37 p0) ||| (128 : Int32))), (.int (1 : Int32)), (.ref b4)])) X5 (fun t k => XS.goto X5.here hx rfl (pc0 := 130) (pc' := 135) rfl (hb hby at_130) (by decide) (by decide) k) ?_
  refine OwnFin.step (g' := (mkF m 136 (Lak4m00_9 p0 p1 p2 p3 p4 b4) [(.int (((vk4m00_37 p0) ||| (128 : Int32)).toInt8.toInt32)), (.int (1 : Int32)), (.ref b4)])) X5 (fun t k => XT.i2b X5.here hx rfl (hb hby at_135) rfl k) ?_
  obtain ⟨T6, h6, L6, X6, e6, N6, K6, A6, st6⟩ := own_stB X5 hx hZ e5 N5 (G := (Gk4m00_108 p0)) B5 g_b4 (j := (1 : Int32)) (x := (((vk4m00_37 p0) ||| (128 : Int32)).toInt8.toInt32)) (by decide) (g := (mkF m 136 (Lak4m00_9 p0 p1 p2 p3 p4 b4) [(.int (((vk4m00_37 p0) ||| (128 : Int32)).toInt8.toInt32)), (.int (1 : Int32)), (.ref b4)])) rfl rfl (hb hby at_136)
  have B6 : Ary Z h6 b4 .byte 4 (fun i => .int ((Gk4m00_136 p0) i)) := A6
  have Z6 := Nat.le_trans Z5 K6.1
  refine OwnFin.step (g' := (mkF m 137 (Lak4m00_9 p0 p1 p2 p3 p4 b4) [])) X6 (fun t k => st6 _ k) ?_
  refine OwnFin.step (g' := (mkF m 139 (Lak4m00_9 p0 p1 p2 p3 p4 b4) [(.int (4 : Int32))])) X6 (fun t k => XS.iload X6.here hx rfl (hb hby at_137) rfl k) ?_
  refine OwnFin.step (g' := (mkF m 140 (Lak4m00_9 p0 p1 p2 p3 p4 b4) [(.int (2 : Int32)), (.int (4 : Int32))])) X6 (fun t k => XS.iconst X6.here hx rfl (hb hby at_139) k) ?_
  refine OwnFin.step (g' := (mkF m 143 (Lak4m00_9 p0 p1 p2 p3 p4 b4) [])) X6 (fun t k => XS.icmpNo X6.here hx rfl (hb hby at_140) rfl (tlt (show (2 : Int32) < (4 : Int32) by first | rfl | decide)).2.2.2 k) ?_
  refine OwnFin.step (g' := (mkF m 145 (Lak4m00_9 p0 p1 p2 p3 p4 b4) [(.ref b4)])) X6 (fun t k => XS.aload X6.here hx rfl (hb hby at_143) rfl rfl k) ?_
  refine OwnFin.step (g' := (mkF m 146 (Lak4m00_9 p0 p1 p2 p3 p4 b4) [(.int (2 : Int32)), (.ref b4)])) X6 (fun t k => XS.iconst X6.here hx rfl (hb hby at_145) k) ?_
  refine OwnFin.step (g' := (mkF m 148 (Lak4m00_9 p0 p1 p2 p3 p4 b4) [(.int (4 : Int32)), (.int (2 : Int32)), (.ref b4)])) X6 (fun t k => XS.iload X6.here hx rfl (hb hby at_146) rfl k) ?_
  refine OwnFin.step (g' := (mkF m 149 (Lak4m00_9 p0 p1 p2 p3 p4 b4) [(.int (3 : Int32)), (.int (4 : Int32)), (.int (2 : Int32)), (.ref b4)])) X6 (fun t k => XS.iconst X6.here hx rfl (hb hby at_148) k) ?_
  refine OwnFin.step (g' := (mkF m 152 (Lak4m00_9 p0 p1 p2 p3 p4 b4) [(.int (2 : Int32)), (.ref b4)])) X6 (fun t k => XS.icmpNo X6.here hx rfl (hb hby at_149) rfl (tlt (show (3 : Int32) < (4 : Int32) by first | rfl | decide)).2.2.2 k) ?_
  refine OwnFin.step (g' := (mkF m 154 (Lak4m00_9 p0 p1 p2 p3 p4 b4) [(.int (vk4m00_46 p0)), (.int (2 : Int32)), (.ref b4)])) X6 (fun t k => XS.iload X6.here hx rfl (hb hby at_152) rfl k) ?_
  refine OwnFin.step (g' := (mkF m 157 (Lak4m00_9 p0 p1 p2 p3 p4 b4) [(.int (128 : Int32)), (.int (vk4m00_46 p0)), (.int (2 : Int32)), (.ref b4)])) X6 (fun t k => XS.sipush X6.here hx rfl (hb hby at_154) k) ?_
  refine OwnFin.step (g' := (mkF m 158 (Lak4m00_9 p0 p1 p2 p3 p4 b4) [(.int ((vk4m00_46 p0) ||| (128 : Int32))), (.int (2 : Int32)), (.ref b4)])) X6 (fun t k => XT.ior X6.here hx rfl (hb hby at_157) rfl k) ?_
  refine OwnFin.step (g' := (mkF m 163 (Lak4m00_9 p0 p1 p2 p3 p4 b4) [(.int ((vk4m00_46 p0) ||| (128 : Int32))), (.int (2 : Int32)), (.ref b4)])) X6 (fun t k => XS.goto X6.here hx rfl (pc0 := 158) (pc' := 163) rfl (hb hby at_158) (by decide) (by decide) k) ?_
  refine OwnFin.step (g' := (mkF m 164 (Lak4m00_9 p0 p1 p2 p3 p4 b4) [(.int (((vk4m00_46 p0) ||| (128 : Int32)).toInt8.toInt32)), (.int (2 : Int32)), (.ref b4)])) X6 (fun t k => XT.i2b X6.here hx rfl (hb hby at_163) rfl k) ?_
  obtain ⟨T7, h7, L7, X7, e7, N7, K7, A7, st7⟩ := own_stB X6 hx hZ e6 N6 (G := (Gk4m00_136 p0)) B6 g_b4 (j := (2 : Int32)) (x := (((vk4m00_46 p0) ||| (128 : Int32)).toInt8.toInt32)) (by decide) (g := (mkF m 164 (Lak4m00_9 p0 p1 p2 p3 p4 b4) [(.int (((vk4m00_46 p0) ||| (128 : Int32)).toInt8.toInt32)), (.int (2 : Int32)), (.ref b4)])) rfl rfl (hb hby at_164)
  have B7 : Ary Z h7 b4 .byte 4 (fun i => .int ((Gk4m00_164 p0) i)) := A7
  have Z7 := Nat.le_trans Z6 K7.1
  refine OwnFin.step (g' := (mkF m 165 (Lak4m00_9 p0 p1 p2 p3 p4 b4) [])) X7 (fun t k => st7 _ k) ?_
  refine OwnFin.step (g' := (mkF m 167 (Lak4m00_9 p0 p1 p2 p3 p4 b4) [(.int (4 : Int32))])) X7 (fun t k => XS.iload X7.here hx rfl (hb hby at_165) rfl k) ?_
  refine OwnFin.step (g' := (mkF m 168 (Lak4m00_9 p0 p1 p2 p3 p4 b4) [(.int (3 : Int32)), (.int (4 : Int32))])) X7 (fun t k => XS.iconst X7.here hx rfl (hb hby at_167) k) ?_
  refine OwnFin.step (g' := (mkF m 171 (Lak4m00_9 p0 p1 p2 p3 p4 b4) [])) X7 (fun t k => XS.icmpNo X7.here hx rfl (hb hby at_168) rfl (tlt (show (3 : Int32) < (4 : Int32) by first | rfl | decide)).2.2.2 k) ?_
  refine OwnFin.step (g' := (mkF m 173 (Lak4m00_9 p0 p1 p2 p3 p4 b4) [(.ref b4)])) X7 (fun t k => XS.aload X7.here hx rfl (hb hby at_171) rfl rfl k) ?_
  refine OwnFin.step (g' := (mkF m 174 (Lak4m00_9 p0 p1 p2 p3 p4 b4) [(.int (3 : Int32)), (.ref b4)])) X7 (fun t k => XS.iconst X7.here hx rfl (hb hby at_173) k) ?_
  refine OwnFin.step (g' := (mkF m 176 (Lak4m00_9 p0 p1 p2 p3 p4 b4) [(.int (4 : Int32)), (.int (3 : Int32)), (.ref b4)])) X7 (fun t k => XS.iload X7.here hx rfl (hb hby at_174) rfl k) ?_
  refine OwnFin.step (g' := (mkF m 177 (Lak4m00_9 p0 p1 p2 p3 p4 b4) [(.int (4 : Int32)), (.int (4 : Int32)), (.int (3 : Int32)), (.ref b4)])) X7 (fun t k => XS.iconst X7.here hx rfl (hb hby at_176) k) ?_
  refine OwnFin.step (g' := (mkF m 189 (Lak4m00_9 p0 p1 p2 p3 p4 b4) [(.int (3 : Int32)), (.ref b4)])) X7 (fun t k => XS.icmpYes X7.here hx rfl (pc0 := 177) (pc' := 189) rfl (hb hby at_177) rfl (flt (show ¬ ((4 : Int32) < (4 : Int32)) by first | decide | exact Int32.lt_irrefl _ | exact Int64.lt_irrefl _)).2.2.2 (by decide) (by decide) k) ?_
  refine OwnFin.step (g' := (mkF m 191 (Lak4m00_9 p0 p1 p2 p3 p4 b4) [(.int (vk4m00_55 p0)), (.int (3 : Int32)), (.ref b4)])) X7 (fun t k => XS.iload X7.here hx rfl (hb hby at_189) rfl k) ?_
  refine OwnFin.step (g' := (mkF m 192 (Lak4m00_9 p0 p1 p2 p3 p4 b4) [(.int ((vk4m00_55 p0).toInt8.toInt32)), (.int (3 : Int32)), (.ref b4)])) X7 (fun t k => XT.i2b X7.here hx rfl (hb hby at_191) rfl k) ?_
  obtain ⟨T8, h8, L8, X8, e8, N8, K8, A8, st8⟩ := own_stB X7 hx hZ e7 N7 (G := (Gk4m00_164 p0)) B7 g_b4 (j := (3 : Int32)) (x := ((vk4m00_55 p0).toInt8.toInt32)) (by decide) (g := (mkF m 192 (Lak4m00_9 p0 p1 p2 p3 p4 b4) [(.int ((vk4m00_55 p0).toInt8.toInt32)), (.int (3 : Int32)), (.ref b4)])) rfl rfl (hb hby at_192)
  have B8 : Ary Z h8 b4 .byte 4 (fun i => .int ((Gk4m00_192 p0) i)) := A8
  have Z8 := Nat.le_trans Z7 K8.1
  refine OwnFin.step (g' := (mkF m 193 (Lak4m00_9 p0 p1 p2 p3 p4 b4) [])) X8 (fun t k => st8 _ k) ?_
  refine OwnFin.step (g' := (mkF m 195 (Lak4m00_9 p0 p1 p2 p3 p4 b4) [(.int (4 : Int32))])) X8 (fun t k => XS.iload X8.here hx rfl (hb hby at_193) rfl k) ?_
  refine OwnFin.step (g' := (mkF m 196 (Lak4m00_9 p0 p1 p2 p3 p4 b4) [(.int (4 : Int32)), (.int (4 : Int32))])) X8 (fun t k => XS.iconst X8.here hx rfl (hb hby at_195) k) ?_
  refine OwnFin.step (g' := (mkF m 206 (Lak4m00_9 p0 p1 p2 p3 p4 b4) [])) X8 (fun t k => XS.icmpYes X8.here hx rfl (pc0 := 196) (pc' := 206) rfl (hb hby at_196) rfl (flt (show ¬ ((4 : Int32) < (4 : Int32)) by first | decide | exact Int32.lt_irrefl _ | exact Int64.lt_irrefl _)).2.2.2 (by decide) (by decide) k) ?_
  refine OwnFin.step (g' := (mkF m 208 (Lak4m00_9 p0 p1 p2 p3 p4 b4) [(.int (0 : Int32))])) X8 (fun t k => XS.iload X8.here hx rfl (hb hby at_206) rfl k) ?_
  refine OwnFin.step (g' := (mkF m 219 (Lak4m00_9 p0 p1 p2 p3 p4 b4) [])) X8 (fun t k => XS.ifYes X8.here hx rfl (pc0 := 208) (pc' := 219) rfl (hb hby at_208) rfl ((if0 _ _).trans (teq (show (0 : Int32) = (0 : Int32) by first | rfl | decide)).1) (by decide) (by decide) k) ?_
  refine OwnFin.step (g' := (mkF m 221 (Lak4m00_9 p0 p1 p2 p3 p4 b4) [(.int (vk4m00_28 p0))])) X8 (fun t k => XS.iload X8.here hx rfl (hb hby at_219) rfl k) ?_
  refine OwnFin.step (g' := (mkF m 222 (Lak4m00_9 p0 p1 p2 p3 p4 b4) [(.long ((vk4m00_28 p0).toInt64))])) X8 (fun t k => XT.i2l X8.here hx rfl (hb hby at_221) rfl k) ?_
  refine OwnFin.step (g' := (mkF m 224 (Lak4m00_10 p0 p1 p2 p3 p4 b4) [])) X8 (fun t k => XT.lstore X8.here hx rfl (hb hby at_222) rfl (l' := (Lak4m00_10 p0 p1 p2 p3 p4 b4)) rfl k) ?_
  refine OwnFin.step (g' := (mkF m 226 (Lak4m00_10 p0 p1 p2 p3 p4 b4) [(.int (4 : Int32))])) X8 (fun t k => XS.iload X8.here hx rfl (hb hby at_224) rfl k) ?_
  refine OwnFin.step (g' := (mkF m 227 (Lak4m00_10 p0 p1 p2 p3 p4 b4) [(.int (1 : Int32)), (.int (4 : Int32))])) X8 (fun t k => XS.iconst X8.here hx rfl (hb hby at_226) k) ?_
  refine OwnFin.step (g' := (mkF m 230 (Lak4m00_10 p0 p1 p2 p3 p4 b4) [])) X8 (fun t k => XS.icmpNo X8.here hx rfl (hb hby at_227) rfl (tlt (show (1 : Int32) < (4 : Int32) by first | rfl | decide)).2.2.2 k) ?_
  refine OwnFin.step (g' := (mkF m 232 (Lak4m00_10 p0 p1 p2 p3 p4 b4) [(.long (vk4m00_222 p0))])) X8 (fun t k => XT.lload X8.here hx rfl (hb hby at_230) rfl k) ?_
  refine OwnFin.step (g' := (mkF m 234 (Lak4m00_10 p0 p1 p2 p3 p4 b4) [(.int (vk4m00_37 p0)), (.long (vk4m00_222 p0))])) X8 (fun t k => XS.iload X8.here hx rfl (hb hby at_232) rfl k) ?_
  refine OwnFin.step (g' := (mkF m 235 (Lak4m00_10 p0 p1 p2 p3 p4 b4) [(.long ((vk4m00_37 p0).toInt64)), (.long (vk4m00_222 p0))])) X8 (fun t k => XT.i2l X8.here hx rfl (hb hby at_234) rfl k) ?_
  refine OwnFin.step (g' := (mkF m 238 (Lak4m00_10 p0 p1 p2 p3 p4 b4) [(.long (128 : Int64)), (.long ((vk4m00_37 p0).toInt64)), (.long (vk4m00_222 p0))])) X8 (fun t k => X8.ldc2Long hx hown (mvT hZ (hw _ (wm 2 rfl))) (g := (mkF m 235 (Lak4m00_10 p0 p1 p2 p3 p4 b4) [(.long ((vk4m00_37 p0).toInt64)), (.long (vk4m00_222 p0))])) rfl (hb hby at_235) _ k) ?_
  refine OwnFin.step (g' := (mkF m 239 (Lak4m00_10 p0 p1 p2 p3 p4 b4) [(.long (((vk4m00_37 p0).toInt64) * (128 : Int64))), (.long (vk4m00_222 p0))])) X8 (fun t k => XT.lmul X8.here hx rfl (hb hby at_238) rfl k) ?_
  refine OwnFin.step (g' := (mkF m 240 (Lak4m00_10 p0 p1 p2 p3 p4 b4) [(.long ((vk4m00_222 p0) + (((vk4m00_37 p0).toInt64) * (128 : Int64))))])) X8 (fun t k => XT.ladd X8.here hx rfl (hb hby at_239) rfl k) ?_
  refine OwnFin.step (g' := (mkF m 242 (Lak4m00_11 p0 p1 p2 p3 p4 b4) [])) X8 (fun t k => XT.lstore X8.here hx rfl (hb hby at_240) rfl (l' := (Lak4m00_11 p0 p1 p2 p3 p4 b4)) rfl k) ?_
  refine OwnFin.step (g' := (mkF m 244 (Lak4m00_11 p0 p1 p2 p3 p4 b4) [(.int (4 : Int32))])) X8 (fun t k => XS.iload X8.here hx rfl (hb hby at_242) rfl k) ?_
  refine OwnFin.step (g' := (mkF m 245 (Lak4m00_11 p0 p1 p2 p3 p4 b4) [(.int (2 : Int32)), (.int (4 : Int32))])) X8 (fun t k => XS.iconst X8.here hx rfl (hb hby at_244) k) ?_
  refine OwnFin.step (g' := (mkF m 248 (Lak4m00_11 p0 p1 p2 p3 p4 b4) [])) X8 (fun t k => XS.icmpNo X8.here hx rfl (hb hby at_245) rfl (tlt (show (2 : Int32) < (4 : Int32) by first | rfl | decide)).2.2.2 k) ?_
  refine OwnFin.step (g' := (mkF m 250 (Lak4m00_11 p0 p1 p2 p3 p4 b4) [(.long (vk4m00_240 p0))])) X8 (fun t k => XT.lload X8.here hx rfl (hb hby at_248) rfl k) ?_
  refine OwnFin.step (g' := (mkF m 252 (Lak4m00_11 p0 p1 p2 p3 p4 b4) [(.int (vk4m00_46 p0)), (.long (vk4m00_240 p0))])) X8 (fun t k => XS.iload X8.here hx rfl (hb hby at_250) rfl k) ?_
  refine OwnFin.step (g' := (mkF m 253 (Lak4m00_11 p0 p1 p2 p3 p4 b4) [(.long ((vk4m00_46 p0).toInt64)), (.long (vk4m00_240 p0))])) X8 (fun t k => XT.i2l X8.here hx rfl (hb hby at_252) rfl k) ?_
  refine OwnFin.step (g' := (mkF m 256 (Lak4m00_11 p0 p1 p2 p3 p4 b4) [(.long (16384 : Int64)), (.long ((vk4m00_46 p0).toInt64)), (.long (vk4m00_240 p0))])) X8 (fun t k => X8.ldc2Long hx hown (mvT hZ (hw _ (wm 3 rfl))) (g := (mkF m 253 (Lak4m00_11 p0 p1 p2 p3 p4 b4) [(.long ((vk4m00_46 p0).toInt64)), (.long (vk4m00_240 p0))])) rfl (hb hby at_253) _ k) ?_
  refine OwnFin.step (g' := (mkF m 257 (Lak4m00_11 p0 p1 p2 p3 p4 b4) [(.long (((vk4m00_46 p0).toInt64) * (16384 : Int64))), (.long (vk4m00_240 p0))])) X8 (fun t k => XT.lmul X8.here hx rfl (hb hby at_256) rfl k) ?_
  refine OwnFin.step (g' := (mkF m 258 (Lak4m00_11 p0 p1 p2 p3 p4 b4) [(.long ((vk4m00_240 p0) + (((vk4m00_46 p0).toInt64) * (16384 : Int64))))])) X8 (fun t k => XT.ladd X8.here hx rfl (hb hby at_257) rfl k) ?_
  refine OwnFin.step (g' := (mkF m 260 (Lak4m00_12 p0 p1 p2 p3 p4 b4) [])) X8 (fun t k => XT.lstore X8.here hx rfl (hb hby at_258) rfl (l' := (Lak4m00_12 p0 p1 p2 p3 p4 b4)) rfl k) ?_
  refine OwnFin.step (g' := (mkF m 262 (Lak4m00_12 p0 p1 p2 p3 p4 b4) [(.int (4 : Int32))])) X8 (fun t k => XS.iload X8.here hx rfl (hb hby at_260) rfl k) ?_
  refine OwnFin.step (g' := (mkF m 263 (Lak4m00_12 p0 p1 p2 p3 p4 b4) [(.int (3 : Int32)), (.int (4 : Int32))])) X8 (fun t k => XS.iconst X8.here hx rfl (hb hby at_262) k) ?_
  refine OwnFin.step (g' := (mkF m 266 (Lak4m00_12 p0 p1 p2 p3 p4 b4) [])) X8 (fun t k => XS.icmpNo X8.here hx rfl (hb hby at_263) rfl (tlt (show (3 : Int32) < (4 : Int32) by first | rfl | decide)).2.2.2 k) ?_
  refine OwnFin.step (g' := (mkF m 268 (Lak4m00_12 p0 p1 p2 p3 p4 b4) [(.long (vk4m00_258 p0))])) X8 (fun t k => XT.lload X8.here hx rfl (hb hby at_266) rfl k) ?_
  refine OwnFin.step (g' := (mkF m 270 (Lak4m00_12 p0 p1 p2 p3 p4 b4) [(.int (vk4m00_55 p0)), (.long (vk4m00_258 p0))])) X8 (fun t k => XS.iload X8.here hx rfl (hb hby at_268) rfl k) ?_
  refine OwnFin.step (g' := (mkF m 271 (Lak4m00_12 p0 p1 p2 p3 p4 b4) [(.long ((vk4m00_55 p0).toInt64)), (.long (vk4m00_258 p0))])) X8 (fun t k => XT.i2l X8.here hx rfl (hb hby at_270) rfl k) ?_
  refine OwnFin.step (g' := (mkF m 274 (Lak4m00_12 p0 p1 p2 p3 p4 b4) [(.long (2097152 : Int64)), (.long ((vk4m00_55 p0).toInt64)), (.long (vk4m00_258 p0))])) X8 (fun t k => X8.ldc2Long hx hown (mvT hZ (hw _ (wm 27 rfl))) (g := (mkF m 271 (Lak4m00_12 p0 p1 p2 p3 p4 b4) [(.long ((vk4m00_55 p0).toInt64)), (.long (vk4m00_258 p0))])) rfl (hb hby at_271) _ k) ?_
  refine OwnFin.step (g' := (mkF m 275 (Lak4m00_12 p0 p1 p2 p3 p4 b4) [(.long (((vk4m00_55 p0).toInt64) * (2097152 : Int64))), (.long (vk4m00_258 p0))])) X8 (fun t k => XT.lmul X8.here hx rfl (hb hby at_274) rfl k) ?_
  refine OwnFin.step (g' := (mkF m 276 (Lak4m00_12 p0 p1 p2 p3 p4 b4) [(.long ((vk4m00_258 p0) + (((vk4m00_55 p0).toInt64) * (2097152 : Int64))))])) X8 (fun t k => XT.ladd X8.here hx rfl (hb hby at_275) rfl k) ?_
  refine OwnFin.step (g' := (mkF m 278 (Lak4m00_13 p0 p1 p2 p3 p4 b4) [])) X8 (fun t k => XT.lstore X8.here hx rfl (hb hby at_276) rfl (l' := (Lak4m00_13 p0 p1 p2 p3 p4 b4)) rfl k) ?_
  refine OwnFin.step (g' := (mkF m 280 (Lak4m00_13 p0 p1 p2 p3 p4 b4) [(.int (4 : Int32))])) X8 (fun t k => XS.iload X8.here hx rfl (hb hby at_278) rfl k) ?_
  refine OwnFin.step (g' := (mkF m 281 (Lak4m00_13 p0 p1 p2 p3 p4 b4) [(.int (4 : Int32)), (.int (4 : Int32))])) X8 (fun t k => XS.iconst X8.here hx rfl (hb hby at_280) k) ?_
  refine OwnFin.step (g' := (mkF m 296 (Lak4m00_13 p0 p1 p2 p3 p4 b4) [])) X8 (fun t k => XS.icmpYes X8.here hx rfl (pc0 := 281) (pc' := 296) rfl (hb hby at_281) rfl (flt (show ¬ ((4 : Int32) < (4 : Int32)) by first | decide | exact Int32.lt_irrefl _ | exact Int64.lt_irrefl _)).2.2.2 (by decide) (by decide) k) ?_
  obtain ⟨T9, h9, X9, e9, E9, A9, D9, -, st9⟩ := newO X8 hx hZ hown (hw _ (wm 4 rfl)) (hw _ (wm 5 rfl)) (hw _ (wm 6 rfl)) e8 (g := (mkF m 296 (Lak4m00_13 p0 p1 p2 p3 p4 b4) [])) rfl (hb hby at_296) (by decide) (by decide)
  obtain ⟨b9, y9⟩ : ∃ z, z = h8.size := ⟨_, rfl⟩
  rw [← y9] at A9 D9 st9
  have K9 := keep_ext E9
  have ne_b4_b9 : b4 ≠ b9 := Ary.neS B8 y9
  have g_b9 : n0 ≤ b9 := by rw [y9]; exact Z8
  have Z9 := Nat.le_trans Z8 K9.1
  have F9_record : Fld Z h9 b9 "com/example/faden/faden/rank/RecordReader" "record" "[B" .null := D9 (Or.inr (hw _ (wm 14 rfl))) (ty := (.array .byte)) (by decide)
  have F9_at : Fld Z h9 b9 "com/example/faden/faden/rank/RecordReader" "at" "I" (.int (0 : Int32)) := D9 (Or.inl (hw _ (wm 21 rfl))) (ty := .int) (by decide)
  refine OwnFin.step (g' := (mkF m 299 (Lak4m00_13 p0 p1 p2 p3 p4 b4) [(.ref b9)])) X9 (fun t k => st9 _ k) ?_
  refine OwnFin.step (g' := (mkF m 300 (Lak4m00_13 p0 p1 p2 p3 p4 b4) [(.ref b9), (.ref b9)])) X9 (fun t k => XS.dup X9.here hx rfl (hb hby at_299) rfl rfl k) ?_
  refine OwnFin.step (g' := (mkF m 302 (Lak4m00_13 p0 p1 p2 p3 p4 b4) [(.ref b4), (.ref b9), (.ref b9)])) X9 (fun t k => XS.aload X9.here hx rfl (hb hby at_300) rfl rfl k) ?_
  obtain ⟨_, T10, L10, X10, ⟨rfl, N10q, u11, u12, u13, u14⟩, st10⟩ := own_callI X9 hx hZ (y := (⟨"com/example/faden/faden/rank/RecordReader", "<init>", "([B)V"⟩ : MethodName)) (W := 1) (a := b9) (argsL := [(.ref b4)]) (rest := [(.ref b9)]) rfl hown (hw _ (wm 7 rfl)) (hw _ (wm 8 rfl)) (hw _ (wm 6 rfl)) (hw _ (wm 9 rfl)) (by decide) (rm1 l Z a0 hw [] b9 b4 h9 n0 Z9 A9 g_b9 F9_record F9_at) (by decide) (by decide) (by decide) (by decide) e9 (g := (mkF m 302 (Lak4m00_13 p0 p1 p2 p3 p4 b4) [(.ref b4), (.ref b9), (.ref b9)])) rfl (by rw [hml]; rfl) pd_0 rfl rfl (by show 2 * 0 + _ ≤ _; exact Nat.le_of_eq rfl) (hb hby at_302)
  have N10 := Fr.app N8 N10q
  obtain ⟨h10, e10⟩ : ∃ z, T10.heap = z := ⟨_, rfl⟩
  rw [e10] at u11 u12 u13 u14
  have K10 := u11
  have Z10 := Nat.le_trans Z9 K10.1
  refine OwnFin.step (g' := (mkF m 305 (Lak4m00_13 p0 p1 p2 p3 p4 b4) [(.ref b9)])) X10 (fun t k => st10 _ k) ?_
  refine OwnFin.step (g' := (mkF m 307 (Lak4m00_14 p0 p1 p2 p3 p4 b4 b9) [])) X10 (fun t k => XS.astore X10.here hx rfl (hb hby at_305) rfl rfl (l' := (Lak4m00_14 p0 p1 p2 p3 p4 b4 b9)) rfl k) ?_
  refine OwnFin.step (g' := (mkF m 309 (Lak4m00_14 p0 p1 p2 p3 p4 b4 b9) [(.ref b9)])) X10 (fun t k => XS.aload X10.here hx rfl (hb hby at_307) rfl rfl k) ?_
  have A16 := ((B8.keep K9 nin0).keep K10 (ninS ne_b4_b9 nin0))
  obtain ⟨_, T15, L15, X15, ⟨rfl, N15q, u17, u18, u19, u20⟩, st15⟩ := own_callV X10 hx hZ (y := (⟨"com/example/faden/faden/rank/RecordReader", "number", "()I"⟩ : MethodName)) (W := 0) (a := b9) (argsL := []) (rest := []) hown (hw _ (wm 15 rfl)) (hw _ (wm 16 rfl)) (hw _ (wm 18 rfl)) (hw _ (wm 17 rfl)) (hw _ (wm 6 rfl)) (hw _ (wm 19 rfl)) (by decide) u12 (rm3a0k4 l Z a0 hw [] b9 4 (Gk4m00_192 p0) b4 h10 n0 Z10 u12 g_b9 u13 u14 A16 (Ne.symm ne_b4_b9) (exhlnk4m00_309 p2 p4 hk hm) (exhb0k4m00_309 p0 p2 p4 hk hm) (exhb1k4m00_309 p0 p2 p4 hk hm) (exhb2k4m00_309 p0 p2 p4 hk hm) (exhb3k4m00_309 p0 p2 p4 hk hm)) (by decide) (by decide) (by decide) (by decide) e10 (g := (mkF m 309 (Lak4m00_14 p0 p1 p2 p3 p4 b4 b9) [(.ref b9)])) rfl (by rw [hml]; rfl) pd_1 rfl rfl (by show 2 * 0 + _ ≤ _; exact Nat.le_of_eq rfl) (hb hby at_309)
  have N15 := Fr.app N10 N15q
  obtain ⟨h15, e15⟩ : ∃ z, T15.heap = z := ⟨_, rfl⟩
  rw [e15] at u17 u18 u19 u20
  have K15 := u17
  have Z15 := Nat.le_trans Z10 K15.1
  refine OwnFin.step (g' := (mkF m 312 (Lak4m00_14 p0 p1 p2 p3 p4 b4 b9) [(.int (va0k43_77bbb (Gk4m00_192 p0)))])) X15 (fun t k => st15 _ k) ?_
  refine OwnFin.step (g' := (mkF m 314 (Lak4m00_15 p0 p1 p2 p3 p4 b4 b9) [])) X15 (fun t k => XS.istore X15.here hx rfl (hb hby at_312) rfl (l' := (Lak4m00_15 p0 p1 p2 p3 p4 b4 b9)) rfl k) ?_
  refine OwnFin.step (g' := (mkF m 316 (Lak4m00_15 p0 p1 p2 p3 p4 b4 b9) [(.int (vk4m00_312 p0))])) X15 (fun t k => XS.iload X15.here hx rfl (hb hby at_314) rfl k) ?_
  refine OwnFin.step (g' := (mkF m 317 (Lak4m00_15 p0 p1 p2 p3 p4 b4 b9) [(.long ((vk4m00_312 p0).toInt64))])) X15 (fun t k => XT.i2l X15.here hx rfl (hb hby at_316) rfl k) ?_
  refine OwnFin.step (g' := (mkF m 319 (Lak4m00_15 p0 p1 p2 p3 p4 b4 b9) [(.long (vk4m00_276 p0)), (.long ((vk4m00_312 p0).toInt64))])) X15 (fun t k => XT.lload X15.here hx rfl (hb hby at_317) rfl k) ?_
  refine OwnFin.step (g' := (mkF m 320 (Lak4m00_15 p0 p1 p2 p3 p4 b4 b9) [(.int (XT.cmpL ((vk4m00_312 p0).toInt64) (vk4m00_276 p0)))])) X15 (fun t k => XT.lcmp X15.here hx rfl (hb hby at_319) rfl k) ?_
  refine OwnFin.step (g' := (mkF m 325 (Lak4m00_15 p0 p1 p2 p3 p4 b4 b9) [])) X15 (fun t k => XS.ifYes X15.here hx rfl (pc0 := 320) (pc' := 325) rfl (hb hby at_320) rfl ((if0 _ _).trans (teq ((cl_eq _ _).mpr (brk4m00_320 p0 p2 p4 hk hm))).1) (by decide) (by decide) k) ?_
  refine OwnFin.step (g' := (mkF m 327 (Lak4m00_15 p0 p1 p2 p3 p4 b4 b9) [(.int (0 : Int32))])) X15 (fun t k => XS.iload X15.here hx rfl (hb hby at_325) rfl k) ?_
  refine OwnFin.step (g' := (mkF m 330 (Lak4m00_15 p0 p1 p2 p3 p4 b4 b9) [])) X15 (fun t k => XS.ifNo X15.here hx rfl (hb hby at_327) rfl ((if0 _ _).trans (teq (show (0 : Int32) = (0 : Int32) by first | rfl | decide)).2) k) ?_
  refine OwnFin.step (g' := (mkF m 332 (Lak4m00_15 p0 p1 p2 p3 p4 b4 b9) [(.ref b9)])) X15 (fun t k => XS.aload X15.here hx rfl (hb hby at_330) rfl rfl k) ?_
  have A22 := (A16.keep K15 (ninS ne_b4_b9 nin0))
  obtain ⟨_, T21, L21, X21, ⟨rfl, N21q, u23⟩, st21⟩ := own_callV X15 hx hZ (y := (⟨"com/example/faden/faden/rank/RecordReader", "atEnd", "()Z"⟩ : MethodName)) (W := 0) (a := b9) (argsL := []) (rest := []) hown (hw _ (wm 22 rfl)) (hw _ (wm 23 rfl)) (hw _ (wm 25 rfl)) (hw _ (wm 24 rfl)) (hw _ (wm 6 rfl)) (hw _ (wm 26 rfl)) (by decide) u18 (rm4 l Z a0 hw [] b9 4 (Gk4m00_192 p0) b4 (4 : Int32) h15 n0 Z15 u18 g_b9 u19 u20 A22 (Ne.symm ne_b4_b9)) (by decide) (by decide) (by decide) (by decide) e15 (g := (mkF m 332 (Lak4m00_15 p0 p1 p2 p3 p4 b4 b9) [(.ref b9)])) rfl (by rw [hml]; rfl) pd_2 rfl rfl (by show 2 * 0 + _ ≤ _; exact Nat.le_of_eq rfl) (hb hby at_332)
  have N21 := Fr.app N15 N21q
  obtain ⟨h21, e21⟩ : ∃ z, T21.heap = z := ⟨_, rfl⟩
  rw [e21] at u23
  have K21 := u23
  have Z21 := Nat.le_trans Z15 K21.1
  rw [show (nar .boolean (v4_17 (4 : Int32) 4)) = (1 : Int32) from by decide] at st21
  refine OwnFin.step (g' := (mkF m 335 (Lak4m00_15 p0 p1 p2 p3 p4 b4 b9) [(.int (1 : Int32))])) X21 (fun t k => st21 _ k) ?_
  refine OwnFin.retNar X21 (by simp) (hb hby at_335) (by decide) (by decide) ?_
  exact ⟨rfl, N21⟩
set_option maxRecDepth 65536 in
set_option maxHeartbeats 40000000 in
theorem rm0k4m0 (l : Launch) (Z : State) (a0 : Array Value) (hw : ∀ d ∈ tables_1, d.before a0 Z = true) (ws : List Jvm.Cond) (p0 : Int32) (p1 : Int32) (p2 : Int32) (p3 : Int32) (p4 : Int32) (h0 : Heap) (n0 : Nat) (Z0 : n0 ≤ h0.size) (hk : vk4m00_8 p2 = (4 : Int32)) (hm : vk4m00_22 p4 = (0 : Int32)) :
    MetFree l x (head1 (Jvm.Cond.code x code maxLocals ret :: ws) room_1) (fun a U => a = #[(.int p0), (.int p1), (.int p2), (.int p3), (.int p4)] ∧ Z.Warmed39 U.vm ∧ U.heap = h0) (fun _ _ _ _ _ => True) (fun _ U o U' => ∃ v L, o = .returned v ∧ (LQ n0) v U'.heap L ∧ FrameEnd U o U' L room_1.cells room_1.slots) :=
  own_met (ret := ret) (Q := (LQ n0)) (plainFor_of_name pn_0) (fun m => ef_0 m p0 p1 p2 p3 p4) (fun p e s m below meth c s₁ X hx hby hml hown hnm hZ e0 => j0k4m0 X hx hZ hw hby hml hown hnm e0 (Fr.nil n0) Z0 p0 p1 p2 p3 p4 hk hm)
def vk4m10_8 (p2 : Int32) : Int32 := (((p2 &&& (2147483647 : Int32)) % (5 : Int32)) + (1 : Int32))
def vk4m10_22 (p4 : Int32) : Int32 := (if (p4 &&& (1 : Int32)) = (0 : Int32) then (0 : Int32) else (1 : Int32))
def vk4m10_28 (p0 : Int32) : Int32 := (p0 &&& (127 : Int32))
def vk4m10_37 (p0 : Int32) : Int32 := ((XT.ushr p0 (8 : Int32)) &&& (127 : Int32))
def vk4m10_46 (p0 : Int32) : Int32 := ((XT.ushr p0 (16 : Int32)) &&& (127 : Int32))
def vk4m10_55 (p0 : Int32) : Int32 := ((XT.ushr p0 (24 : Int32)) &&& (127 : Int32))
def vk4m10_61 (p1 : Int32) : Int32 := (p1 &&& (7 : Int32))
def vk4m10_67 (p3 : Int32) : Int32 := (p3 &&& (127 : Int32))
def Gk4m10_108 (p0 : Int32) : Nat → Int32 := (updN (fun _ => (0 : Int32)) ((0 : Int32)).toNatClampNeg (nar .byte (((vk4m10_28 p0) ||| (128 : Int32)).toInt8.toInt32)))
def Gk4m10_136 (p0 : Int32) : Nat → Int32 := (updN (Gk4m10_108 p0) ((1 : Int32)).toNatClampNeg (nar .byte (((vk4m10_37 p0) ||| (128 : Int32)).toInt8.toInt32)))
def Gk4m10_164 (p0 : Int32) : Nat → Int32 := (updN (Gk4m10_136 p0) ((2 : Int32)).toNatClampNeg (nar .byte (((vk4m10_46 p0) ||| (128 : Int32)).toInt8.toInt32)))
def Gk4m10_192 (p0 : Int32) : Nat → Int32 := (updN (Gk4m10_164 p0) ((3 : Int32)).toNatClampNeg (nar .byte ((vk4m10_55 p0).toInt8.toInt32)))
def Gk4m10_218 (p0 : Int32) (p3 : Int32) : Nat → Int32 := (updN (Gk4m10_192 p0) ((4 : Int32)).toNatClampNeg (nar .byte ((vk4m10_67 p3).toInt8.toInt32)))
def vk4m10_222 (p0 : Int32) : Int64 := ((vk4m10_28 p0).toInt64)
def vk4m10_240 (p0 : Int32) : Int64 := ((vk4m10_222 p0) + (((vk4m10_37 p0).toInt64) * (128 : Int64)))
def vk4m10_258 (p0 : Int32) : Int64 := ((vk4m10_240 p0) + (((vk4m10_46 p0).toInt64) * (16384 : Int64)))
def vk4m10_276 (p0 : Int32) : Int64 := ((vk4m10_258 p0) + (((vk4m10_55 p0).toInt64) * (2097152 : Int64)))
def vk4m10_312 (p0 : Int32) (p3 : Int32) : Int32 := (va0k43_77bbb (Gk4m10_218 p0 p3))
def vk4m10_351 (p0 : Int32) (p3 : Int32) : Int32 := (va4k13_77 (Gk4m10_218 p0 p3))
theorem exhlnk4m10_309 (p2 : Int32) (p4 : Int32) (hk : vk4m10_8 p2 = (4 : Int32)) (hm : vk4m10_22 p4 = (1 : Int32)) : 4 ≤ 5 ∧ 5 < 100 := by decide
theorem exhb0k4m10_309 (p0 : Int32) (p3 : Int32) (p2 : Int32) (p4 : Int32) (hk : vk4m10_8 p2 = (4 : Int32)) (hm : vk4m10_22 p4 = (1 : Int32)) : 128 ≤ (((Gk4m10_218 p0 p3) 0) &&& 255).toInt := by
  have b0 : 0 ≤ (vk4m10_28 p0).toInt ∧ (vk4m10_28 p0).toInt < 128 := own_b127 _
  have h0 : (((Gk4m10_218 p0 p3) 0) &&& 255).toInt = (vk4m10_28 p0).toInt + 128 := own_hi b0
  have b1 : 0 ≤ (vk4m10_37 p0).toInt ∧ (vk4m10_37 p0).toInt < 128 := own_b127 _
  have h1 : (((Gk4m10_218 p0 p3) 1) &&& 255).toInt = (vk4m10_37 p0).toInt + 128 := own_hi b1
  have b2 : 0 ≤ (vk4m10_46 p0).toInt ∧ (vk4m10_46 p0).toInt < 128 := own_b127 _
  have h2 : (((Gk4m10_218 p0 p3) 2) &&& 255).toInt = (vk4m10_46 p0).toInt + 128 := own_hi b2
  have b3 : 0 ≤ (vk4m10_55 p0).toInt ∧ (vk4m10_55 p0).toInt < 128 := own_b127 _
  have h3 : (((Gk4m10_218 p0 p3) 3) &&& 255).toInt = (vk4m10_55 p0).toInt := own_lo ⟨b3.1, Int.lt_of_lt_of_le b3.2 (by decide)⟩
  omega
theorem exhb1k4m10_309 (p0 : Int32) (p3 : Int32) (p2 : Int32) (p4 : Int32) (hk : vk4m10_8 p2 = (4 : Int32)) (hm : vk4m10_22 p4 = (1 : Int32)) : 128 ≤ (((Gk4m10_218 p0 p3) 1) &&& 255).toInt := by
  have b0 : 0 ≤ (vk4m10_28 p0).toInt ∧ (vk4m10_28 p0).toInt < 128 := own_b127 _
  have h0 : (((Gk4m10_218 p0 p3) 0) &&& 255).toInt = (vk4m10_28 p0).toInt + 128 := own_hi b0
  have b1 : 0 ≤ (vk4m10_37 p0).toInt ∧ (vk4m10_37 p0).toInt < 128 := own_b127 _
  have h1 : (((Gk4m10_218 p0 p3) 1) &&& 255).toInt = (vk4m10_37 p0).toInt + 128 := own_hi b1
  have b2 : 0 ≤ (vk4m10_46 p0).toInt ∧ (vk4m10_46 p0).toInt < 128 := own_b127 _
  have h2 : (((Gk4m10_218 p0 p3) 2) &&& 255).toInt = (vk4m10_46 p0).toInt + 128 := own_hi b2
  have b3 : 0 ≤ (vk4m10_55 p0).toInt ∧ (vk4m10_55 p0).toInt < 128 := own_b127 _
  have h3 : (((Gk4m10_218 p0 p3) 3) &&& 255).toInt = (vk4m10_55 p0).toInt := own_lo ⟨b3.1, Int.lt_of_lt_of_le b3.2 (by decide)⟩
  omega
theorem exhb2k4m10_309 (p0 : Int32) (p3 : Int32) (p2 : Int32) (p4 : Int32) (hk : vk4m10_8 p2 = (4 : Int32)) (hm : vk4m10_22 p4 = (1 : Int32)) : 128 ≤ (((Gk4m10_218 p0 p3) 2) &&& 255).toInt := by
  have b0 : 0 ≤ (vk4m10_28 p0).toInt ∧ (vk4m10_28 p0).toInt < 128 := own_b127 _
  have h0 : (((Gk4m10_218 p0 p3) 0) &&& 255).toInt = (vk4m10_28 p0).toInt + 128 := own_hi b0
  have b1 : 0 ≤ (vk4m10_37 p0).toInt ∧ (vk4m10_37 p0).toInt < 128 := own_b127 _
  have h1 : (((Gk4m10_218 p0 p3) 1) &&& 255).toInt = (vk4m10_37 p0).toInt + 128 := own_hi b1
  have b2 : 0 ≤ (vk4m10_46 p0).toInt ∧ (vk4m10_46 p0).toInt < 128 := own_b127 _
  have h2 : (((Gk4m10_218 p0 p3) 2) &&& 255).toInt = (vk4m10_46 p0).toInt + 128 := own_hi b2
  have b3 : 0 ≤ (vk4m10_55 p0).toInt ∧ (vk4m10_55 p0).toInt < 128 := own_b127 _
  have h3 : (((Gk4m10_218 p0 p3) 3) &&& 255).toInt = (vk4m10_55 p0).toInt := own_lo ⟨b3.1, Int.lt_of_lt_of_le b3.2 (by decide)⟩
  omega
theorem exhb3k4m10_309 (p0 : Int32) (p3 : Int32) (p2 : Int32) (p4 : Int32) (hk : vk4m10_8 p2 = (4 : Int32)) (hm : vk4m10_22 p4 = (1 : Int32)) : (((Gk4m10_218 p0 p3) 3) &&& 255).toInt < 128 := by
  have b0 : 0 ≤ (vk4m10_28 p0).toInt ∧ (vk4m10_28 p0).toInt < 128 := own_b127 _
  have h0 : (((Gk4m10_218 p0 p3) 0) &&& 255).toInt = (vk4m10_28 p0).toInt + 128 := own_hi b0
  have b1 : 0 ≤ (vk4m10_37 p0).toInt ∧ (vk4m10_37 p0).toInt < 128 := own_b127 _
  have h1 : (((Gk4m10_218 p0 p3) 1) &&& 255).toInt = (vk4m10_37 p0).toInt + 128 := own_hi b1
  have b2 : 0 ≤ (vk4m10_46 p0).toInt ∧ (vk4m10_46 p0).toInt < 128 := own_b127 _
  have h2 : (((Gk4m10_218 p0 p3) 2) &&& 255).toInt = (vk4m10_46 p0).toInt + 128 := own_hi b2
  have b3 : 0 ≤ (vk4m10_55 p0).toInt ∧ (vk4m10_55 p0).toInt < 128 := own_b127 _
  have h3 : (((Gk4m10_218 p0 p3) 3) &&& 255).toInt = (vk4m10_55 p0).toInt := own_lo ⟨b3.1, Int.lt_of_lt_of_le b3.2 (by decide)⟩
  omega
theorem brk4m10_320 (p0 : Int32) (p3 : Int32) (p2 : Int32) (p4 : Int32) (hk : vk4m10_8 p2 = (4 : Int32)) (hm : vk4m10_22 p4 = (1 : Int32)) : ((vk4m10_312 p0 p3).toInt64) = (vk4m10_276 p0) := by
  have b0 : 0 ≤ (vk4m10_28 p0).toInt ∧ (vk4m10_28 p0).toInt < 128 := own_b127 _
  have h0 : (((Gk4m10_218 p0 p3) 0) &&& 255).toInt = (vk4m10_28 p0).toInt + 128 := own_hi b0
  have b1 : 0 ≤ (vk4m10_37 p0).toInt ∧ (vk4m10_37 p0).toInt < 128 := own_b127 _
  have h1 : (((Gk4m10_218 p0 p3) 1) &&& 255).toInt = (vk4m10_37 p0).toInt + 128 := own_hi b1
  have b2 : 0 ≤ (vk4m10_46 p0).toInt ∧ (vk4m10_46 p0).toInt < 128 := own_b127 _
  have h2 : (((Gk4m10_218 p0 p3) 2) &&& 255).toInt = (vk4m10_46 p0).toInt + 128 := own_hi b2
  have b3 : 0 ≤ (vk4m10_55 p0).toInt ∧ (vk4m10_55 p0).toInt < 128 := own_b127 _
  have h3 : (((Gk4m10_218 p0 p3) 3) &&& 255).toInt = (vk4m10_55 p0).toInt := own_lo ⟨b3.1, Int.lt_of_lt_of_le b3.2 (by decide)⟩
  have e0 : (vk4m10_222 p0).toInt = (vk4m10_28 p0).toInt := Jvm.Kit.i64_of_i32 _
  have m0 : (((Gk4m10_218 p0 p3) 0) &&& 255).toInt % 128 = (vk4m10_28 p0).toInt := own_m7 h0 ⟨b0.1, Int.lt_of_lt_of_le b0.2 (by decide)⟩
  have m1 : (((Gk4m10_218 p0 p3) 1) &&& 255).toInt % 128 = (vk4m10_37 p0).toInt := own_m7 h1 ⟨b1.1, Int.lt_of_lt_of_le b1.2 (by decide)⟩
  have m2 : (((Gk4m10_218 p0 p3) 2) &&& 255).toInt % 128 = (vk4m10_46 p0).toInt := own_m7 h2 ⟨b2.1, Int.lt_of_lt_of_le b2.2 (by decide)⟩
  have m3 : (((Gk4m10_218 p0 p3) 3) &&& 255).toInt % 128 = (vk4m10_55 p0).toInt := own_m7' h3 ⟨b3.1, Int.lt_of_lt_of_le b3.2 (by decide)⟩
  have e1 : (vk4m10_240 p0).toInt = (vk4m10_222 p0).toInt + (vk4m10_37 p0).toInt * 128 ∧ 0 ≤ (vk4m10_240 p0).toInt ∧ (vk4m10_240 p0).toInt < 16384 := own_ex1 _ _ (by rw [e0]; exact b0) ⟨b1.1, Int.lt_of_lt_of_le b1.2 (by decide)⟩
  have e2 : (vk4m10_258 p0).toInt = (vk4m10_240 p0).toInt + (vk4m10_46 p0).toInt * 16384 ∧ 0 ≤ (vk4m10_258 p0).toInt ∧ (vk4m10_258 p0).toInt < 2097152 := own_ex2 _ _ e1.2 ⟨b2.1, Int.lt_of_lt_of_le b2.2 (by decide)⟩
  have e3 : (vk4m10_276 p0).toInt = (vk4m10_258 p0).toInt + (vk4m10_55 p0).toInt * 2097152 ∧ 0 ≤ (vk4m10_276 p0).toInt ∧ (vk4m10_276 p0).toInt < 268435456 := own_ex3 _ _ e2.2 ⟨b3.1, Int.lt_of_lt_of_le b3.2 (by decide)⟩
  have r : (vk4m10_312 p0 p3).toInt = _ := own_va0k43_77bbb (Gk4m10_218 p0 p3)
  rw [i64eq, Jvm.Kit.i64_of_i32, r, m0, m1, m2, m3, e3.1, e2.1, e1.1, e0, Int.mul_one]
theorem exhlnk4m10_348 (p2 : Int32) (p4 : Int32) (hk : vk4m10_8 p2 = (4 : Int32)) (hm : vk4m10_22 p4 = (1 : Int32)) : 5 ≤ 5 ∧ 5 < 100 := by decide
theorem exhb0k4m10_348 (p0 : Int32) (p3 : Int32) (p2 : Int32) (p4 : Int32) (hk : vk4m10_8 p2 = (4 : Int32)) (hm : vk4m10_22 p4 = (1 : Int32)) : (((Gk4m10_218 p0 p3) 4) &&& 255).toInt < 128 := by
  have bc : 0 ≤ (vk4m10_67 p3).toInt ∧ (vk4m10_67 p3).toInt < 128 := own_b127 _
  have hc : (((Gk4m10_218 p0 p3) 4) &&& 255).toInt = (vk4m10_67 p3).toInt := own_lo bc
  omega
theorem brk4m10_357 (p0 : Int32) (p3 : Int32) (p2 : Int32) (p4 : Int32) (hk : vk4m10_8 p2 = (4 : Int32)) (hm : vk4m10_22 p4 = (1 : Int32)) : (vk4m10_351 p0 p3) = (vk4m10_67 p3) := by
  have bc : 0 ≤ (vk4m10_67 p3).toInt ∧ (vk4m10_67 p3).toInt < 128 := own_b127 _
  have hc : (((Gk4m10_218 p0 p3) 4) &&& 255).toInt = (vk4m10_67 p3).toInt := own_lo bc
  have r : (vk4m10_351 p0 p3).toInt = _ := own_va4k13_77 (Gk4m10_218 p0 p3)
  rw [i32eq, r]; omega
abbrev Lak4m10_0 (p0 : Int32) (p1 : Int32) (p2 : Int32) (p3 : Int32) (p4 : Int32) : Array Slot := #[.val (.int p0), .val (.int p1), .val (.int p2), .val (.int p3), .val (.int p4), .unset, .unset, .unset, .unset, .unset, .unset, .unset, .unset, .unset, .unset, .unset, .unset, .unset, .unset]
abbrev Lak4m10_1 (p0 : Int32) (p1 : Int32) (p2 : Int32) (p3 : Int32) (p4 : Int32) : Array Slot := #[.val (.int p0), .val (.int p1), .val (.int p2), .val (.int p3), .val (.int p4), .val (.int (4 : Int32)), .unset, .unset, .unset, .unset, .unset, .unset, .unset, .unset, .unset, .unset, .unset, .unset, .unset]
abbrev Lak4m10_2 (p0 : Int32) (p1 : Int32) (p2 : Int32) (p3 : Int32) (p4 : Int32) : Array Slot := #[.val (.int p0), .val (.int p1), .val (.int p2), .val (.int p3), .val (.int p4), .val (.int (4 : Int32)), .val (.int (1 : Int32)), .unset, .unset, .unset, .unset, .unset, .unset, .unset, .unset, .unset, .unset, .unset, .unset]
abbrev Lak4m10_3 (p0 : Int32) (p1 : Int32) (p2 : Int32) (p3 : Int32) (p4 : Int32) : Array Slot := #[.val (.int p0), .val (.int p1), .val (.int p2), .val (.int p3), .val (.int p4), .val (.int (4 : Int32)), .val (.int (1 : Int32)), .val (.int (vk4m10_28 p0)), .unset, .unset, .unset, .unset, .unset, .unset, .unset, .unset, .unset, .unset, .unset]
abbrev Lak4m10_4 (p0 : Int32) (p1 : Int32) (p2 : Int32) (p3 : Int32) (p4 : Int32) : Array Slot := #[.val (.int p0), .val (.int p1), .val (.int p2), .val (.int p3), .val (.int p4), .val (.int (4 : Int32)), .val (.int (1 : Int32)), .val (.int (vk4m10_28 p0)), .val (.int (vk4m10_37 p0)), .unset, .unset, .unset, .unset, .unset, .unset, .unset, .unset, .unset, .unset]
abbrev Lak4m10_5 (p0 : Int32) (p1 : Int32) (p2 : Int32) (p3 : Int32) (p4 : Int32) : Array Slot := #[.val (.int p0), .val (.int p1), .val (.int p2), .val (.int p3), .val (.int p4), .val (.int (4 : Int32)), .val (.int (1 : Int32)), .val (.int (vk4m10_28 p0)), .val (.int (vk4m10_37 p0)), .val (.int (vk4m10_46 p0)), .unset, .unset, .unset, .unset, .unset, .unset, .unset, .unset, .unset]
abbrev Lak4m10_6 (p0 : Int32) (p1 : Int32) (p2 : Int32) (p3 : Int32) (p4 : Int32) : Array Slot := #[.val (.int p0), .val (.int p1), .val (.int p2), .val (.int p3), .val (.int p4), .val (.int (4 : Int32)), .val (.int (1 : Int32)), .val (.int (vk4m10_28 p0)), .val (.int (vk4m10_37 p0)), .val (.int (vk4m10_46 p0)), .val (.int (vk4m10_55 p0)), .unset, .unset, .unset, .unset, .unset, .unset, .unset, .unset]
abbrev Lak4m10_7 (p0 : Int32) (p1 : Int32) (p2 : Int32) (p3 : Int32) (p4 : Int32) : Array Slot := #[.val (.int p0), .val (.int p1), .val (.int p2), .val (.int p3), .val (.int p4), .val (.int (4 : Int32)), .val (.int (1 : Int32)), .val (.int (vk4m10_28 p0)), .val (.int (vk4m10_37 p0)), .val (.int (vk4m10_46 p0)), .val (.int (vk4m10_55 p0)), .val (.int (vk4m10_61 p1)), .unset, .unset, .unset, .unset, .unset, .unset, .unset]
abbrev Lak4m10_8 (p0 : Int32) (p1 : Int32) (p2 : Int32) (p3 : Int32) (p4 : Int32) : Array Slot := #[.val (.int p0), .val (.int p1), .val (.int p2), .val (.int p3), .val (.int p4), .val (.int (4 : Int32)), .val (.int (1 : Int32)), .val (.int (vk4m10_28 p0)), .val (.int (vk4m10_37 p0)), .val (.int (vk4m10_46 p0)), .val (.int (vk4m10_55 p0)), .val (.int (vk4m10_61 p1)), .val (.int (vk4m10_67 p3)), .unset, .unset, .unset, .unset, .unset, .unset]
abbrev Lak4m10_9 (p0 : Int32) (p1 : Int32) (p2 : Int32) (p3 : Int32) (p4 : Int32) (b4 : Addr) : Array Slot := #[.val (.int p0), .val (.int p1), .val (.int p2), .val (.int p3), .val (.int p4), .val (.int (4 : Int32)), .val (.int (1 : Int32)), .val (.int (vk4m10_28 p0)), .val (.int (vk4m10_37 p0)), .val (.int (vk4m10_46 p0)), .val (.int (vk4m10_55 p0)), .val (.int (vk4m10_61 p1)), .val (.int (vk4m10_67 p3)), .val (.ref b4), .unset, .unset, .unset, .unset, .unset]
abbrev Lak4m10_10 (p0 : Int32) (p1 : Int32) (p2 : Int32) (p3 : Int32) (p4 : Int32) (b4 : Addr) : Array Slot := #[.val (.int p0), .val (.int p1), .val (.int p2), .val (.int p3), .val (.int p4), .val (.int (4 : Int32)), .val (.int (1 : Int32)), .val (.int (vk4m10_28 p0)), .val (.int (vk4m10_37 p0)), .val (.int (vk4m10_46 p0)), .val (.int (vk4m10_55 p0)), .val (.int (vk4m10_61 p1)), .val (.int (vk4m10_67 p3)), .val (.ref b4), .val (.long (vk4m10_222 p0)), .second, .unset, .unset, .unset]
abbrev Lak4m10_11 (p0 : Int32) (p1 : Int32) (p2 : Int32) (p3 : Int32) (p4 : Int32) (b4 : Addr) : Array Slot := #[.val (.int p0), .val (.int p1), .val (.int p2), .val (.int p3), .val (.int p4), .val (.int (4 : Int32)), .val (.int (1 : Int32)), .val (.int (vk4m10_28 p0)), .val (.int (vk4m10_37 p0)), .val (.int (vk4m10_46 p0)), .val (.int (vk4m10_55 p0)), .val (.int (vk4m10_61 p1)), .val (.int (vk4m10_67 p3)), .val (.ref b4), .val (.long (vk4m10_240 p0)), .second, .unset, .unset, .unset]
abbrev Lak4m10_12 (p0 : Int32) (p1 : Int32) (p2 : Int32) (p3 : Int32) (p4 : Int32) (b4 : Addr) : Array Slot := #[.val (.int p0), .val (.int p1), .val (.int p2), .val (.int p3), .val (.int p4), .val (.int (4 : Int32)), .val (.int (1 : Int32)), .val (.int (vk4m10_28 p0)), .val (.int (vk4m10_37 p0)), .val (.int (vk4m10_46 p0)), .val (.int (vk4m10_55 p0)), .val (.int (vk4m10_61 p1)), .val (.int (vk4m10_67 p3)), .val (.ref b4), .val (.long (vk4m10_258 p0)), .second, .unset, .unset, .unset]
abbrev Lak4m10_13 (p0 : Int32) (p1 : Int32) (p2 : Int32) (p3 : Int32) (p4 : Int32) (b4 : Addr) : Array Slot := #[.val (.int p0), .val (.int p1), .val (.int p2), .val (.int p3), .val (.int p4), .val (.int (4 : Int32)), .val (.int (1 : Int32)), .val (.int (vk4m10_28 p0)), .val (.int (vk4m10_37 p0)), .val (.int (vk4m10_46 p0)), .val (.int (vk4m10_55 p0)), .val (.int (vk4m10_61 p1)), .val (.int (vk4m10_67 p3)), .val (.ref b4), .val (.long (vk4m10_276 p0)), .second, .unset, .unset, .unset]
abbrev Lak4m10_14 (p0 : Int32) (p1 : Int32) (p2 : Int32) (p3 : Int32) (p4 : Int32) (b4 : Addr) (b10 : Addr) : Array Slot := #[.val (.int p0), .val (.int p1), .val (.int p2), .val (.int p3), .val (.int p4), .val (.int (4 : Int32)), .val (.int (1 : Int32)), .val (.int (vk4m10_28 p0)), .val (.int (vk4m10_37 p0)), .val (.int (vk4m10_46 p0)), .val (.int (vk4m10_55 p0)), .val (.int (vk4m10_61 p1)), .val (.int (vk4m10_67 p3)), .val (.ref b4), .val (.long (vk4m10_276 p0)), .second, .val (.ref b10), .unset, .unset]
abbrev Lak4m10_15 (p0 : Int32) (p1 : Int32) (p2 : Int32) (p3 : Int32) (p4 : Int32) (b4 : Addr) (b10 : Addr) : Array Slot := #[.val (.int p0), .val (.int p1), .val (.int p2), .val (.int p3), .val (.int p4), .val (.int (4 : Int32)), .val (.int (1 : Int32)), .val (.int (vk4m10_28 p0)), .val (.int (vk4m10_37 p0)), .val (.int (vk4m10_46 p0)), .val (.int (vk4m10_55 p0)), .val (.int (vk4m10_61 p1)), .val (.int (vk4m10_67 p3)), .val (.ref b4), .val (.long (vk4m10_276 p0)), .second, .val (.ref b10), .val (.int (vk4m10_312 p0 p3)), .unset]
abbrev Lak4m10_16 (p0 : Int32) (p1 : Int32) (p2 : Int32) (p3 : Int32) (p4 : Int32) (b4 : Addr) (b10 : Addr) : Array Slot := #[.val (.int p0), .val (.int p1), .val (.int p2), .val (.int p3), .val (.int p4), .val (.int (4 : Int32)), .val (.int (1 : Int32)), .val (.int (vk4m10_28 p0)), .val (.int (vk4m10_37 p0)), .val (.int (vk4m10_46 p0)), .val (.int (vk4m10_55 p0)), .val (.int (vk4m10_61 p1)), .val (.int (vk4m10_67 p3)), .val (.ref b4), .val (.long (vk4m10_276 p0)), .second, .val (.ref b10), .val (.int (vk4m10_312 p0 p3)), .val (.int (vk4m10_351 p0 p3))]
set_option maxRecDepth 65536 in
set_option maxHeartbeats 40000000 in
theorem j0k4m1 {p : Program} {l : Launch} {e : Env} {s : State} {m : MethodId} {args : Array Value} {below : List Frame} {meth : Method} {c : Code} {T0 : State} {locs : List Loc} {Z : State} {a0 : Array Value} {h0 : Heap} {n0 : Nat}
    (X0 : Stand p l e room_1 s m args below meth c T0 locs 0 0) (hx : p.tables.exec = Jvm.exec) (hZ : Z.Warmed39 s.vm) (hw : ∀ d ∈ tables_1, d.before a0 Z = true) (hby : c.code = code) (hml : c.maxLocals = 19) (hown : s.vm.findClass "com/example/faden/faden/rank/RecordReaderNumberPinLaw" = some m.cls) (hnm : meth.name = "law") (e0 : T0.heap = h0) (N0 : Fr n0 locs) (Z0 : n0 ≤ h0.size) (p0 : Int32) (p1 : Int32) (p2 : Int32) (p3 : Int32) (p4 : Int32) (hk : vk4m10_8 p2 = (4 : Int32)) (hm : vk4m10_22 p4 = (1 : Int32)) :
    OwnFin X0 (some .boolean) (LQ n0) room_1.cells room_1.slots (mkF m 0 #[.val (.int p0), .val (.int p1), .val (.int p2), .val (.int p3), .val (.int p4), .unset, .unset, .unset, .unset, .unset, .unset, .unset, .unset, .unset, .unset, .unset, .unset, .unset, .unset] []) := by
  refine OwnFin.step (g' := (mkF m 1 (Lak4m10_0 p0 p1 p2 p3 p4) [(.int p2)])) X0 (fun t k => XS.iloadN X0.here hx rfl (hb hby at_0) rfl k) ?_
  refine OwnFin.step (g' := (mkF m 3 (Lak4m10_0 p0 p1 p2 p3 p4) [(.int (2147483647 : Int32)), (.int p2)])) X0 (fun t k => X0.ldcInt hx hown (mvT hZ (hw _ (wm 0 rfl))) (g := (mkF m 1 (Lak4m10_0 p0 p1 p2 p3 p4) [(.int p2)])) rfl (hb hby at_1) _ k) ?_
  refine OwnFin.step (g' := (mkF m 4 (Lak4m10_0 p0 p1 p2 p3 p4) [(.int (p2 &&& (2147483647 : Int32)))])) X0 (fun t k => XS.iand X0.here hx rfl (hb hby at_3) rfl k) ?_
  refine OwnFin.step (g' := (mkF m 5 (Lak4m10_0 p0 p1 p2 p3 p4) [(.int (5 : Int32)), (.int (p2 &&& (2147483647 : Int32)))])) X0 (fun t k => XS.iconst X0.here hx rfl (hb hby at_4) k) ?_
  refine OwnFin.step (g' := (mkF m 6 (Lak4m10_0 p0 p1 p2 p3 p4) [(.int ((p2 &&& (2147483647 : Int32)) % (5 : Int32)))])) X0 (fun t k => iremM (g := (mkF m 5 (Lak4m10_0 p0 p1 p2 p3 p4) [(.int (5 : Int32)), (.int (p2 &&& (2147483647 : Int32)))])) X0 hx rfl (hb hby at_5) rfl (by decide) k) ?_
  refine OwnFin.step (g' := (mkF m 7 (Lak4m10_0 p0 p1 p2 p3 p4) [(.int (1 : Int32)), (.int ((p2 &&& (2147483647 : Int32)) % (5 : Int32)))])) X0 (fun t k => XS.iconst X0.here hx rfl (hb hby at_6) k) ?_
  refine OwnFin.step (g' := (mkF m 8 (Lak4m10_0 p0 p1 p2 p3 p4) [(.int (((p2 &&& (2147483647 : Int32)) % (5 : Int32)) + (1 : Int32)))])) X0 (fun t k => XS.iadd X0.here hx rfl (hb hby at_7) rfl k) ?_
  refine OwnFin.step (g' := (mkF m 10 #[.val (.int p0), .val (.int p1), .val (.int p2), .val (.int p3), .val (.int p4), .val (.int (vk4m10_8 p2)), .unset, .unset, .unset, .unset, .unset, .unset, .unset, .unset, .unset, .unset, .unset, .unset, .unset] [])) X0 (fun t k => XS.istore X0.here hx rfl (hb hby at_8) rfl (l' := #[.val (.int p0), .val (.int p1), .val (.int p2), .val (.int p3), .val (.int p4), .val (.int (vk4m10_8 p2)), .unset, .unset, .unset, .unset, .unset, .unset, .unset, .unset, .unset, .unset, .unset, .unset, .unset]) rfl k) ?_
  rw [hk]
  refine OwnFin.step (g' := (mkF m 12 (Lak4m10_1 p0 p1 p2 p3 p4) [(.int p4)])) X0 (fun t k => XS.iload X0.here hx rfl (hb hby at_10) rfl k) ?_
  refine OwnFin.step (g' := (mkF m 13 (Lak4m10_1 p0 p1 p2 p3 p4) [(.int (1 : Int32)), (.int p4)])) X0 (fun t k => XS.iconst X0.here hx rfl (hb hby at_12) k) ?_
  refine OwnFin.step (g' := (mkF m 14 (Lak4m10_1 p0 p1 p2 p3 p4) [(.int (p4 &&& (1 : Int32)))])) X0 (fun t k => XS.iand X0.here hx rfl (hb hby at_13) rfl k) ?_
  refine OwnFin.step (g' := (mkF m 22 #[.val (.int p0), .val (.int p1), .val (.int p2), .val (.int p3), .val (.int p4), .val (.int (4 : Int32)), .unset, .unset, .unset, .unset, .unset, .unset, .unset, .unset, .unset, .unset, .unset, .unset, .unset] [(.int (vk4m10_22 p4))])) X0 (fun t k => ?_) ?_
  · show Steps p.tables e below (T0.setTop (mkF m 14 (Lak4m10_1 p0 p1 p2 p3 p4) [(.int (p4 &&& (1 : Int32)))])) t
    by_cases hc1 : (p4 &&& (1 : Int32)) = (0 : Int32)
    · skip
      refine XS.ifYes X0.here hx rfl (pc0 := 14) (pc' := 21) rfl (hb hby at_14) rfl ((if0 _ _).trans (teq hc1).1) (by decide) (by decide) ?_
      show Steps p.tables e below (T0.setTop (mkF m 21 (Lak4m10_1 p0 p1 p2 p3 p4) [])) t
      refine XS.iconst X0.here hx rfl (hb hby at_21) ?_
      show Steps p.tables e below (T0.setTop (mkF m 22 (Lak4m10_1 p0 p1 p2 p3 p4) [(.int (0 : Int32))])) t
      have qq2 : (vk4m10_22 p4) = (0 : Int32) := by
        show (if (p4 &&& (1 : Int32)) = (0 : Int32) then (0 : Int32) else (1 : Int32)) = (0 : Int32)
        simp only [if_pos hc1]
      rw [qq2] at k
      exact k
    · skip
      refine XS.ifNo X0.here hx rfl (hb hby at_14) rfl ((if0 _ _).trans (feq hc1).1) ?_
      show Steps p.tables e below (T0.setTop (mkF m 17 (Lak4m10_1 p0 p1 p2 p3 p4) [])) t
      refine XS.iconst X0.here hx rfl (hb hby at_17) ?_
      show Steps p.tables e below (T0.setTop (mkF m 18 (Lak4m10_1 p0 p1 p2 p3 p4) [(.int (1 : Int32))])) t
      refine XS.goto X0.here hx rfl (pc0 := 18) (pc' := 22) rfl (hb hby at_18) (by decide) (by decide) ?_
      show Steps p.tables e below (T0.setTop (mkF m 22 (Lak4m10_1 p0 p1 p2 p3 p4) [(.int (1 : Int32))])) t
      have qq3 : (vk4m10_22 p4) = (1 : Int32) := by
        show (if (p4 &&& (1 : Int32)) = (0 : Int32) then (0 : Int32) else (1 : Int32)) = (1 : Int32)
        simp only [if_neg hc1]
      rw [qq3] at k
      exact k
  refine OwnFin.step (g' := (mkF m 24 #[.val (.int p0), .val (.int p1), .val (.int p2), .val (.int p3), .val (.int p4), .val (.int (4 : Int32)), .val (.int (vk4m10_22 p4)), .unset, .unset, .unset, .unset, .unset, .unset, .unset, .unset, .unset, .unset, .unset, .unset] [])) X0 (fun t k => XS.istore X0.here hx rfl (hb hby at_22) rfl (l' := #[.val (.int p0), .val (.int p1), .val (.int p2), .val (.int p3), .val (.int p4), .val (.int (4 : Int32)), .val (.int (vk4m10_22 p4)), .unset, .unset, .unset, .unset, .unset, .unset, .unset, .unset, .unset, .unset, .unset, .unset]) rfl k) ?_
  rw [hm]
  refine OwnFin.step (g' := (mkF m 25 (Lak4m10_2 p0 p1 p2 p3 p4) [(.int p0)])) X0 (fun t k => XS.iloadN X0.here hx rfl (hb hby at_24) rfl k) ?_
  refine OwnFin.step (g' := (mkF m 27 (Lak4m10_2 p0 p1 p2 p3 p4) [(.int (127 : Int32)), (.int p0)])) X0 (fun t k => XS.bipush X0.here hx rfl (hb hby at_25) k) ?_
  refine OwnFin.step (g' := (mkF m 28 (Lak4m10_2 p0 p1 p2 p3 p4) [(.int (p0 &&& (127 : Int32)))])) X0 (fun t k => XS.iand X0.here hx rfl (hb hby at_27) rfl k) ?_
  refine OwnFin.step (g' := (mkF m 30 (Lak4m10_3 p0 p1 p2 p3 p4) [])) X0 (fun t k => XS.istore X0.here hx rfl (hb hby at_28) rfl (l' := (Lak4m10_3 p0 p1 p2 p3 p4)) rfl k) ?_
  refine OwnFin.step (g' := (mkF m 31 (Lak4m10_3 p0 p1 p2 p3 p4) [(.int p0)])) X0 (fun t k => XS.iloadN X0.here hx rfl (hb hby at_30) rfl k) ?_
  refine OwnFin.step (g' := (mkF m 33 (Lak4m10_3 p0 p1 p2 p3 p4) [(.int (8 : Int32)), (.int p0)])) X0 (fun t k => XS.bipush X0.here hx rfl (hb hby at_31) k) ?_
  refine OwnFin.step (g' := (mkF m 34 (Lak4m10_3 p0 p1 p2 p3 p4) [(.int (XT.ushr p0 (8 : Int32)))])) X0 (fun t k => XT.iushr X0.here hx rfl (hb hby at_33) rfl k) ?_
  refine OwnFin.step (g' := (mkF m 36 (Lak4m10_3 p0 p1 p2 p3 p4) [(.int (127 : Int32)), (.int (XT.ushr p0 (8 : Int32)))])) X0 (fun t k => XS.bipush X0.here hx rfl (hb hby at_34) k) ?_
  refine OwnFin.step (g' := (mkF m 37 (Lak4m10_3 p0 p1 p2 p3 p4) [(.int ((XT.ushr p0 (8 : Int32)) &&& (127 : Int32)))])) X0 (fun t k => XS.iand X0.here hx rfl (hb hby at_36) rfl k) ?_
  refine OwnFin.step (g' := (mkF m 39 (Lak4m10_4 p0 p1 p2 p3 p4) [])) X0 (fun t k => XS.istore X0.here hx rfl (hb hby at_37) rfl (l' := (Lak4m10_4 p0 p1 p2 p3 p4)) rfl k) ?_
  refine OwnFin.step (g' := (mkF m 40 (Lak4m10_4 p0 p1 p2 p3 p4) [(.int p0)])) X0 (fun t k => XS.iloadN X0.here hx rfl (hb hby at_39) rfl k) ?_
  refine OwnFin.step (g' := (mkF m 42 (Lak4m10_4 p0 p1 p2 p3 p4) [(.int (16 : Int32)), (.int p0)])) X0 (fun t k => XS.bipush X0.here hx rfl (hb hby at_40) k) ?_
  refine OwnFin.step (g' := (mkF m 43 (Lak4m10_4 p0 p1 p2 p3 p4) [(.int (XT.ushr p0 (16 : Int32)))])) X0 (fun t k => XT.iushr X0.here hx rfl (hb hby at_42) rfl k) ?_
  refine OwnFin.step (g' := (mkF m 45 (Lak4m10_4 p0 p1 p2 p3 p4) [(.int (127 : Int32)), (.int (XT.ushr p0 (16 : Int32)))])) X0 (fun t k => XS.bipush X0.here hx rfl (hb hby at_43) k) ?_
  refine OwnFin.step (g' := (mkF m 46 (Lak4m10_4 p0 p1 p2 p3 p4) [(.int ((XT.ushr p0 (16 : Int32)) &&& (127 : Int32)))])) X0 (fun t k => XS.iand X0.here hx rfl (hb hby at_45) rfl k) ?_
  refine OwnFin.step (g' := (mkF m 48 (Lak4m10_5 p0 p1 p2 p3 p4) [])) X0 (fun t k => XS.istore X0.here hx rfl (hb hby at_46) rfl (l' := (Lak4m10_5 p0 p1 p2 p3 p4)) rfl k) ?_
  refine OwnFin.step (g' := (mkF m 49 (Lak4m10_5 p0 p1 p2 p3 p4) [(.int p0)])) X0 (fun t k => XS.iloadN X0.here hx rfl (hb hby at_48) rfl k) ?_
  refine OwnFin.step (g' := (mkF m 51 (Lak4m10_5 p0 p1 p2 p3 p4) [(.int (24 : Int32)), (.int p0)])) X0 (fun t k => XS.bipush X0.here hx rfl (hb hby at_49) k) ?_
  refine OwnFin.step (g' := (mkF m 52 (Lak4m10_5 p0 p1 p2 p3 p4) [(.int (XT.ushr p0 (24 : Int32)))])) X0 (fun t k => XT.iushr X0.here hx rfl (hb hby at_51) rfl k) ?_
  refine OwnFin.step (g' := (mkF m 54 (Lak4m10_5 p0 p1 p2 p3 p4) [(.int (127 : Int32)), (.int (XT.ushr p0 (24 : Int32)))])) X0 (fun t k => XS.bipush X0.here hx rfl (hb hby at_52) k) ?_
  refine OwnFin.step (g' := (mkF m 55 (Lak4m10_5 p0 p1 p2 p3 p4) [(.int ((XT.ushr p0 (24 : Int32)) &&& (127 : Int32)))])) X0 (fun t k => XS.iand X0.here hx rfl (hb hby at_54) rfl k) ?_
  refine OwnFin.step (g' := (mkF m 57 (Lak4m10_6 p0 p1 p2 p3 p4) [])) X0 (fun t k => XS.istore X0.here hx rfl (hb hby at_55) rfl (l' := (Lak4m10_6 p0 p1 p2 p3 p4)) rfl k) ?_
  refine OwnFin.step (g' := (mkF m 58 (Lak4m10_6 p0 p1 p2 p3 p4) [(.int p1)])) X0 (fun t k => XS.iloadN X0.here hx rfl (hb hby at_57) rfl k) ?_
  refine OwnFin.step (g' := (mkF m 60 (Lak4m10_6 p0 p1 p2 p3 p4) [(.int (7 : Int32)), (.int p1)])) X0 (fun t k => XS.bipush X0.here hx rfl (hb hby at_58) k) ?_
  refine OwnFin.step (g' := (mkF m 61 (Lak4m10_6 p0 p1 p2 p3 p4) [(.int (p1 &&& (7 : Int32)))])) X0 (fun t k => XS.iand X0.here hx rfl (hb hby at_60) rfl k) ?_
  refine OwnFin.step (g' := (mkF m 63 (Lak4m10_7 p0 p1 p2 p3 p4) [])) X0 (fun t k => XS.istore X0.here hx rfl (hb hby at_61) rfl (l' := (Lak4m10_7 p0 p1 p2 p3 p4)) rfl k) ?_
  refine OwnFin.step (g' := (mkF m 64 (Lak4m10_7 p0 p1 p2 p3 p4) [(.int p3)])) X0 (fun t k => XS.iloadN X0.here hx rfl (hb hby at_63) rfl k) ?_
  refine OwnFin.step (g' := (mkF m 66 (Lak4m10_7 p0 p1 p2 p3 p4) [(.int (127 : Int32)), (.int p3)])) X0 (fun t k => XS.bipush X0.here hx rfl (hb hby at_64) k) ?_
  refine OwnFin.step (g' := (mkF m 67 (Lak4m10_7 p0 p1 p2 p3 p4) [(.int (p3 &&& (127 : Int32)))])) X0 (fun t k => XS.iand X0.here hx rfl (hb hby at_66) rfl k) ?_
  refine OwnFin.step (g' := (mkF m 69 (Lak4m10_8 p0 p1 p2 p3 p4) [])) X0 (fun t k => XS.istore X0.here hx rfl (hb hby at_67) rfl (l' := (Lak4m10_8 p0 p1 p2 p3 p4)) rfl k) ?_
  refine OwnFin.step (g' := (mkF m 71 (Lak4m10_8 p0 p1 p2 p3 p4) [(.int (1 : Int32))])) X0 (fun t k => XS.iload X0.here hx rfl (hb hby at_69) rfl k) ?_
  refine OwnFin.step (g' := (mkF m 74 (Lak4m10_8 p0 p1 p2 p3 p4) [])) X0 (fun t k => XS.ifNo X0.here hx rfl (hb hby at_71) rfl ((if0 _ _).trans (feq (show ¬ ((1 : Int32) = (0 : Int32)) by first | decide | exact Int32.lt_irrefl _ | exact Int64.lt_irrefl _)).1) k) ?_
  refine OwnFin.step (g' := (mkF m 76 (Lak4m10_8 p0 p1 p2 p3 p4) [(.int (4 : Int32))])) X0 (fun t k => XS.iload X0.here hx rfl (hb hby at_74) rfl k) ?_
  refine OwnFin.step (g' := (mkF m 77 (Lak4m10_8 p0 p1 p2 p3 p4) [(.int (1 : Int32)), (.int (4 : Int32))])) X0 (fun t k => XS.iconst X0.here hx rfl (hb hby at_76) k) ?_
  refine OwnFin.step (g' := (mkF m 78 (Lak4m10_8 p0 p1 p2 p3 p4) [(.int (5 : Int32))])) X0 (fun t k => XS.iadd X0.here hx rfl (hb hby at_77) rfl k) ?_
  refine OwnFin.step (g' := (mkF m 83 (Lak4m10_8 p0 p1 p2 p3 p4) [(.int (5 : Int32))])) X0 (fun t k => XS.goto X0.here hx rfl (pc0 := 78) (pc' := 83) rfl (hb hby at_78) (by decide) (by decide) k) ?_
  obtain ⟨T4, h4, b4, X4, e4, y4, K4, A4, st4⟩ := own_new X0 hx hZ (hw _ (wm 1 rfl)) e0 (g := (mkF m 83 (Lak4m10_8 p0 p1 p2 p3 p4) [(.int (5 : Int32))])) rfl (hb hby at_83) rfl (by decide) (cap := 5) (by decide) (by decide) (by decide) (by decide)
  have B4 : Ary Z h4 b4 .byte 5 (fun i => .int ((fun _ => (0 : Int32)) i)) := A4
  have g_b4 : n0 ≤ b4 := by rw [y4]; exact Z0
  have Z4 := Nat.le_trans Z0 K4.1
  refine OwnFin.step (g' := (mkF m 85 (Lak4m10_8 p0 p1 p2 p3 p4) [(.ref b4)])) X4 (fun t k => st4 _ k) ?_
  refine OwnFin.step (g' := (mkF m 87 (Lak4m10_9 p0 p1 p2 p3 p4 b4) [])) X4 (fun t k => XS.astore X4.here hx rfl (hb hby at_85) rfl rfl (l' := (Lak4m10_9 p0 p1 p2 p3 p4 b4)) rfl k) ?_
  refine OwnFin.step (g' := (mkF m 89 (Lak4m10_9 p0 p1 p2 p3 p4 b4) [(.ref b4)])) X4 (fun t k => XS.aload X4.here hx rfl (hb hby at_87) rfl rfl k) ?_
  refine OwnFin.step (g' := (mkF m 90 (Lak4m10_9 p0 p1 p2 p3 p4 b4) [(.int (0 : Int32)), (.ref b4)])) X4 (fun t k => XS.iconst X4.here hx rfl (hb hby at_89) k) ?_
  refine OwnFin.step (g' := (mkF m 92 (Lak4m10_9 p0 p1 p2 p3 p4 b4) [(.int (4 : Int32)), (.int (0 : Int32)), (.ref b4)])) X4 (fun t k => XS.iload X4.here hx rfl (hb hby at_90) rfl k) ?_
  refine OwnFin.step (g' := (mkF m 93 (Lak4m10_9 p0 p1 p2 p3 p4 b4) [(.int (1 : Int32)), (.int (4 : Int32)), (.int (0 : Int32)), (.ref b4)])) X4 (fun t k => XS.iconst X4.here hx rfl (hb hby at_92) k) ?_
  refine OwnFin.step (g' := (mkF m 96 (Lak4m10_9 p0 p1 p2 p3 p4 b4) [(.int (0 : Int32)), (.ref b4)])) X4 (fun t k => XS.icmpNo X4.here hx rfl (hb hby at_93) rfl (tlt (show (1 : Int32) < (4 : Int32) by first | rfl | decide)).2.2.2 k) ?_
  refine OwnFin.step (g' := (mkF m 98 (Lak4m10_9 p0 p1 p2 p3 p4 b4) [(.int (vk4m10_28 p0)), (.int (0 : Int32)), (.ref b4)])) X4 (fun t k => XS.iload X4.here hx rfl (hb hby at_96) rfl k) ?_
  refine OwnFin.step (g' := (mkF m 101 (Lak4m10_9 p0 p1 p2 p3 p4 b4) [(.int (128 : Int32)), (.int (vk4m10_28 p0)), (.int (0 : Int32)), (.ref b4)])) X4 (fun t k => XS.sipush X4.here hx rfl (hb hby at_98) k) ?_
  refine OwnFin.step (g' := (mkF m 102 (Lak4m10_9 p0 p1 p2 p3 p4 b4) [(.int ((vk4m10_28 p0) ||| (128 : Int32))), (.int (0 : Int32)), (.ref b4)])) X4 (fun t k => XT.ior X4.here hx rfl (hb hby at_101) rfl k) ?_
  refine OwnFin.step (g' := (mkF m 107 (Lak4m10_9 p0 p1 p2 p3 p4 b4) [(.int ((vk4m10_28 p0) ||| (128 : Int32))), (.int (0 : Int32)), (.ref b4)])) X4 (fun t k => XS.goto X4.here hx rfl (pc0 := 102) (pc' := 107) rfl (hb hby at_102) (by decide) (by decide) k) ?_
  refine OwnFin.step (g' := (mkF m 108 (Lak4m10_9 p0 p1 p2 p3 p4 b4) [(.int (((vk4m10_28 p0) ||| (128 : Int32)).toInt8.toInt32)), (.int (0 : Int32)), (.ref b4)])) X4 (fun t k => XT.i2b X4.here hx rfl (hb hby at_107) rfl k) ?_
  obtain ⟨T5, h5, L5, X5, e5, N5, K5, A5, st5⟩ := own_stB X4 hx hZ e4 N0 (G := (fun _ => (0 : Int32))) B4 g_b4 (j := (0 : Int32)) (x := (((vk4m10_28 p0) ||| (128 : Int32)).toInt8.toInt32)) (by decide) (g := (mkF m 108 (Lak4m10_9 p0 p1 p2 p3 p4 b4) [(.int (((vk4m10_28 p0) ||| (128 : Int32)).toInt8.toInt32)), (.int (0 : Int32)), (.ref b4)])) rfl rfl (hb hby at_108)
  have B5 : Ary Z h5 b4 .byte 5 (fun i => .int ((Gk4m10_108 p0) i)) := A5
  have Z5 := Nat.le_trans Z4 K5.1
  refine OwnFin.step (g' := (mkF m 109 (Lak4m10_9 p0 p1 p2 p3 p4 b4) [])) X5 (fun t k => st5 _ k) ?_
  refine OwnFin.step (g' := (mkF m 111 (Lak4m10_9 p0 p1 p2 p3 p4 b4) [(.int (4 : Int32))])) X5 (fun t k => XS.iload X5.here hx rfl (hb hby at_109) rfl k) ?_
  refine OwnFin.step (g' := (mkF m 112 (Lak4m10_9 p0 p1 p2 p3 p4 b4) [(.int (1 : Int32)), (.int (4 : Int32))])) X5 (fun t k => XS.iconst X5.here hx rfl (hb hby at_111) k) ?_
  refine OwnFin.step (g' := (mkF m 115 (Lak4m10_9 p0 p1 p2 p3 p4 b4) [])) X5 (fun t k => XS.icmpNo X5.here hx rfl (hb hby at_112) rfl (tlt (show (1 : Int32) < (4 : Int32) by first | rfl | decide)).2.2.2 k) ?_
  refine OwnFin.step (g' := (mkF m 117 (Lak4m10_9 p0 p1 p2 p3 p4 b4) [(.ref b4)])) X5 (fun t k => XS.aload X5.here hx rfl (hb hby at_115) rfl rfl k) ?_
  refine OwnFin.step (g' := (mkF m 118 (Lak4m10_9 p0 p1 p2 p3 p4 b4) [(.int (1 : Int32)), (.ref b4)])) X5 (fun t k => XS.iconst X5.here hx rfl (hb hby at_117) k) ?_
  refine OwnFin.step (g' := (mkF m 120 (Lak4m10_9 p0 p1 p2 p3 p4 b4) [(.int (4 : Int32)), (.int (1 : Int32)), (.ref b4)])) X5 (fun t k => XS.iload X5.here hx rfl (hb hby at_118) rfl k) ?_
  refine OwnFin.step (g' := (mkF m 121 (Lak4m10_9 p0 p1 p2 p3 p4 b4) [(.int (2 : Int32)), (.int (4 : Int32)), (.int (1 : Int32)), (.ref b4)])) X5 (fun t k => XS.iconst X5.here hx rfl (hb hby at_120) k) ?_
  refine OwnFin.step (g' := (mkF m 124 (Lak4m10_9 p0 p1 p2 p3 p4 b4) [(.int (1 : Int32)), (.ref b4)])) X5 (fun t k => XS.icmpNo X5.here hx rfl (hb hby at_121) rfl (tlt (show (2 : Int32) < (4 : Int32) by first | rfl | decide)).2.2.2 k) ?_
  refine OwnFin.step (g' := (mkF m 126 (Lak4m10_9 p0 p1 p2 p3 p4 b4) [(.int (vk4m10_37 p0)), (.int (1 : Int32)), (.ref b4)])) X5 (fun t k => XS.iload X5.here hx rfl (hb hby at_124) rfl k) ?_
  refine OwnFin.step (g' := (mkF m 129 (Lak4m10_9 p0 p1 p2 p3 p4 b4) [(.int (128 : Int32)), (.int (vk4m10_37 p0)), (.int (1 : Int32)), (.ref b4)])) X5 (fun t k => XS.sipush X5.here hx rfl (hb hby at_126) k) ?_
  refine OwnFin.step (g' := (mkF m 130 (Lak4m10_9 p0 p1 p2 p3 p4 b4) [(.int ((vk4m10_37 p0) ||| (128 : Int32))), (.int (1 : Int32)), (.ref b4)])) X5 (fun t k => XT.ior X5.here hx rfl (hb hby at_129) rfl k) ?_
  refine OwnFin.step (g' := (mkF m 135 (Lak4m10_9 p0 p1 p2 p3 p4 b4) [(.int ((vk4m10_37 p0) ||| (128 : Int32))), (.int (1 : Int32)), (.ref b4)])) X5 (fun t k => XS.goto X5.here hx rfl (pc0 := 130) (pc' := 135) rfl (hb hby at_130) (by decide) (by decide) k) ?_
  refine OwnFin.step (g' := (mkF m 136 (Lak4m10_9 p0 p1 p2 p3 p4 b4) [(.int (((vk4m10_37 p0) ||| (128 : Int32)).toInt8.toInt32)), (.int (1 : Int32)), (.ref b4)])) X5 (fun t k => XT.i2b X5.here hx rfl (hb hby at_135) rfl k) ?_
  obtain ⟨T6, h6, L6, X6, e6, N6, K6, A6, st6⟩ := own_stB X5 hx hZ e5 N5 (G := (Gk4m10_108 p0)) B5 g_b4 (j := (1 : Int32)) (x := (((vk4m10_37 p0) ||| (128 : Int32)).toInt8.toInt32)) (by decide) (g := (mkF m 136 (Lak4m10_9 p0 p1 p2 p3 p4 b4) [(.int (((vk4m10_37 p0) ||| (128 : Int32)).toInt8.toInt32)), (.int (1 : Int32)), (.ref b4)])) rfl rfl (hb hby at_136)
  have B6 : Ary Z h6 b4 .byte 5 (fun i => .int ((Gk4m10_136 p0) i)) := A6
  have Z6 := Nat.le_trans Z5 K6.1
  refine OwnFin.step (g' := (mkF m 137 (Lak4m10_9 p0 p1 p2 p3 p4 b4) [])) X6 (fun t k => st6 _ k) ?_
  refine OwnFin.step (g' := (mkF m 139 (Lak4m10_9 p0 p1 p2 p3 p4 b4) [(.int (4 : Int32))])) X6 (fun t k => XS.iload X6.here hx rfl (hb hby at_137) rfl k) ?_
  refine OwnFin.step (g' := (mkF m 140 (Lak4m10_9 p0 p1 p2 p3 p4 b4) [(.int (2 : Int32)), (.int (4 : Int32))])) X6 (fun t k => XS.iconst X6.here hx rfl (hb hby at_139) k) ?_
  refine OwnFin.step (g' := (mkF m 143 (Lak4m10_9 p0 p1 p2 p3 p4 b4) [])) X6 (fun t k => XS.icmpNo X6.here hx rfl (hb hby at_140) rfl (tlt (show (2 : Int32) < (4 : Int32) by first | rfl | decide)).2.2.2 k) ?_
  refine OwnFin.step (g' := (mkF m 145 (Lak4m10_9 p0 p1 p2 p3 p4 b4) [(.ref b4)])) X6 (fun t k => XS.aload X6.here hx rfl (hb hby at_143) rfl rfl k) ?_
  refine OwnFin.step (g' := (mkF m 146 (Lak4m10_9 p0 p1 p2 p3 p4 b4) [(.int (2 : Int32)), (.ref b4)])) X6 (fun t k => XS.iconst X6.here hx rfl (hb hby at_145) k) ?_
  refine OwnFin.step (g' := (mkF m 148 (Lak4m10_9 p0 p1 p2 p3 p4 b4) [(.int (4 : Int32)), (.int (2 : Int32)), (.ref b4)])) X6 (fun t k => XS.iload X6.here hx rfl (hb hby at_146) rfl k) ?_
  refine OwnFin.step (g' := (mkF m 149 (Lak4m10_9 p0 p1 p2 p3 p4 b4) [(.int (3 : Int32)), (.int (4 : Int32)), (.int (2 : Int32)), (.ref b4)])) X6 (fun t k => XS.iconst X6.here hx rfl (hb hby at_148) k) ?_
  refine OwnFin.step (g' := (mkF m 152 (Lak4m10_9 p0 p1 p2 p3 p4 b4) [(.int (2 : Int32)), (.ref b4)])) X6 (fun t k => XS.icmpNo X6.here hx rfl (hb hby at_149) rfl (tlt (show (3 : Int32) < (4 : Int32) by first | rfl | decide)).2.2.2 k) ?_
  refine OwnFin.step (g' := (mkF m 154 (Lak4m10_9 p0 p1 p2 p3 p4 b4) [(.int (vk4m10_46 p0)), (.int (2 : Int32)), (.ref b4)])) X6 (fun t k => XS.iload X6.here hx rfl (hb hby at_152) rfl k) ?_
  refine OwnFin.step (g' := (mkF m 157 (Lak4m10_9 p0 p1 p2 p3 p4 b4) [(.int (128 : Int32)), (.int (vk4m10_46 p0)), (.int (2 : Int32)), (.ref b4)])) X6 (fun t k => XS.sipush X6.here hx rfl (hb hby at_154) k) ?_
  refine OwnFin.step (g' := (mkF m 158 (Lak4m10_9 p0 p1 p2 p3 p4 b4) [(.int ((vk4m10_46 p0) ||| (128 : Int32))), (.int (2 : Int32)), (.ref b4)])) X6 (fun t k => XT.ior X6.here hx rfl (hb hby at_157) rfl k) ?_
  refine OwnFin.step (g' := (mkF m 163 (Lak4m10_9 p0 p1 p2 p3 p4 b4) [(.int ((vk4m10_46 p0) ||| (128 : Int32))), (.int (2 : Int32)), (.ref b4)])) X6 (fun t k => XS.goto X6.here hx rfl (pc0 := 158) (pc' := 163) rfl (hb hby at_158) (by decide) (by decide) k) ?_
  refine OwnFin.step (g' := (mkF m 164 (Lak4m10_9 p0 p1 p2 p3 p4 b4) [(.int (((vk4m10_46 p0) ||| (128 : Int32)).toInt8.toInt32)), (.int (2 : Int32)), (.ref b4)])) X6 (fun t k => XT.i2b X6.here hx rfl (hb hby at_163) rfl k) ?_
  obtain ⟨T7, h7, L7, X7, e7, N7, K7, A7, st7⟩ := own_stB X6 hx hZ e6 N6 (G := (Gk4m10_136 p0)) B6 g_b4 (j := (2 : Int32)) (x := (((vk4m10_46 p0) ||| (128 : Int32)).toInt8.toInt32)) (by decide) (g := (mkF m 164 (Lak4m10_9 p0 p1 p2 p3 p4 b4) [(.int (((vk4m10_46 p0) ||| (128 : Int32)).toInt8.toInt32)), (.int (2 : Int32)), (.ref b4)])) rfl rfl (hb hby at_164)
  have B7 : Ary Z h7 b4 .byte 5 (fun i => .int ((Gk4m10_164 p0) i)) := A7
  have Z7 := Nat.le_trans Z6 K7.1
  refine OwnFin.step (g' := (mkF m 165 (Lak4m10_9 p0 p1 p2 p3 p4 b4) [])) X7 (fun t k => st7 _ k) ?_
  refine OwnFin.step (g' := (mkF m 167 (Lak4m10_9 p0 p1 p2 p3 p4 b4) [(.int (4 : Int32))])) X7 (fun t k => XS.iload X7.here hx rfl (hb hby at_165) rfl k) ?_
  refine OwnFin.step (g' := (mkF m 168 (Lak4m10_9 p0 p1 p2 p3 p4 b4) [(.int (3 : Int32)), (.int (4 : Int32))])) X7 (fun t k => XS.iconst X7.here hx rfl (hb hby at_167) k) ?_
  refine OwnFin.step (g' := (mkF m 171 (Lak4m10_9 p0 p1 p2 p3 p4 b4) [])) X7 (fun t k => XS.icmpNo X7.here hx rfl (hb hby at_168) rfl (tlt (show (3 : Int32) < (4 : Int32) by first | rfl | decide)).2.2.2 k) ?_
  refine OwnFin.step (g' := (mkF m 173 (Lak4m10_9 p0 p1 p2 p3 p4 b4) [(.ref b4)])) X7 (fun t k => XS.aload X7.here hx rfl (hb hby at_171) rfl rfl k) ?_
  refine OwnFin.step (g' := (mkF m 174 (Lak4m10_9 p0 p1 p2 p3 p4 b4) [(.int (3 : Int32)), (.ref b4)])) X7 (fun t k => XS.iconst X7.here hx rfl (hb hby at_173) k) ?_
  refine OwnFin.step (g' := (mkF m 176 (Lak4m10_9 p0 p1 p2 p3 p4 b4) [(.int (4 : Int32)), (.int (3 : Int32)), (.ref b4)])) X7 (fun t k => XS.iload X7.here hx rfl (hb hby at_174) rfl k) ?_
  refine OwnFin.step (g' := (mkF m 177 (Lak4m10_9 p0 p1 p2 p3 p4 b4) [(.int (4 : Int32)), (.int (4 : Int32)), (.int (3 : Int32)), (.ref b4)])) X7 (fun t k => XS.iconst X7.here hx rfl (hb hby at_176) k) ?_
  refine OwnFin.step (g' := (mkF m 189 (Lak4m10_9 p0 p1 p2 p3 p4 b4) [(.int (3 : Int32)), (.ref b4)])) X7 (fun t k => XS.icmpYes X7.here hx rfl (pc0 := 177) (pc' := 189) rfl (hb hby at_177) rfl (flt (show ¬ ((4 : Int32) < (4 : Int32)) by first | decide | exact Int32.lt_irrefl _ | exact Int64.lt_irrefl _)).2.2.2 (by decide) (by decide) k) ?_
  refine OwnFin.step (g' := (mkF m 191 (Lak4m10_9 p0 p1 p2 p3 p4 b4) [(.int (vk4m10_55 p0)), (.int (3 : Int32)), (.ref b4)])) X7 (fun t k => XS.iload X7.here hx rfl (hb hby at_189) rfl k) ?_
  refine OwnFin.step (g' := (mkF m 192 (Lak4m10_9 p0 p1 p2 p3 p4 b4) [(.int ((vk4m10_55 p0).toInt8.toInt32)), (.int (3 : Int32)), (.ref b4)])) X7 (fun t k => XT.i2b X7.here hx rfl (hb hby at_191) rfl k) ?_
  obtain ⟨T8, h8, L8, X8, e8, N8, K8, A8, st8⟩ := own_stB X7 hx hZ e7 N7 (G := (Gk4m10_164 p0)) B7 g_b4 (j := (3 : Int32)) (x := ((vk4m10_55 p0).toInt8.toInt32)) (by decide) (g := (mkF m 192 (Lak4m10_9 p0 p1 p2 p3 p4 b4) [(.int ((vk4m10_55 p0).toInt8.toInt32)), (.int (3 : Int32)), (.ref b4)])) rfl rfl (hb hby at_192)
  have B8 : Ary Z h8 b4 .byte 5 (fun i => .int ((Gk4m10_192 p0) i)) := A8
  have Z8 := Nat.le_trans Z7 K8.1
  refine OwnFin.step (g' := (mkF m 193 (Lak4m10_9 p0 p1 p2 p3 p4 b4) [])) X8 (fun t k => st8 _ k) ?_
  refine OwnFin.step (g' := (mkF m 195 (Lak4m10_9 p0 p1 p2 p3 p4 b4) [(.int (4 : Int32))])) X8 (fun t k => XS.iload X8.here hx rfl (hb hby at_193) rfl k) ?_
  refine OwnFin.step (g' := (mkF m 196 (Lak4m10_9 p0 p1 p2 p3 p4 b4) [(.int (4 : Int32)), (.int (4 : Int32))])) X8 (fun t k => XS.iconst X8.here hx rfl (hb hby at_195) k) ?_
  refine OwnFin.step (g' := (mkF m 206 (Lak4m10_9 p0 p1 p2 p3 p4 b4) [])) X8 (fun t k => XS.icmpYes X8.here hx rfl (pc0 := 196) (pc' := 206) rfl (hb hby at_196) rfl (flt (show ¬ ((4 : Int32) < (4 : Int32)) by first | decide | exact Int32.lt_irrefl _ | exact Int64.lt_irrefl _)).2.2.2 (by decide) (by decide) k) ?_
  refine OwnFin.step (g' := (mkF m 208 (Lak4m10_9 p0 p1 p2 p3 p4 b4) [(.int (1 : Int32))])) X8 (fun t k => XS.iload X8.here hx rfl (hb hby at_206) rfl k) ?_
  refine OwnFin.step (g' := (mkF m 211 (Lak4m10_9 p0 p1 p2 p3 p4 b4) [])) X8 (fun t k => XS.ifNo X8.here hx rfl (hb hby at_208) rfl ((if0 _ _).trans (feq (show ¬ ((1 : Int32) = (0 : Int32)) by first | decide | exact Int32.lt_irrefl _ | exact Int64.lt_irrefl _)).1) k) ?_
  refine OwnFin.step (g' := (mkF m 213 (Lak4m10_9 p0 p1 p2 p3 p4 b4) [(.ref b4)])) X8 (fun t k => XS.aload X8.here hx rfl (hb hby at_211) rfl rfl k) ?_
  refine OwnFin.step (g' := (mkF m 215 (Lak4m10_9 p0 p1 p2 p3 p4 b4) [(.int (4 : Int32)), (.ref b4)])) X8 (fun t k => XS.iload X8.here hx rfl (hb hby at_213) rfl k) ?_
  refine OwnFin.step (g' := (mkF m 217 (Lak4m10_9 p0 p1 p2 p3 p4 b4) [(.int (vk4m10_67 p3)), (.int (4 : Int32)), (.ref b4)])) X8 (fun t k => XS.iload X8.here hx rfl (hb hby at_215) rfl k) ?_
  refine OwnFin.step (g' := (mkF m 218 (Lak4m10_9 p0 p1 p2 p3 p4 b4) [(.int ((vk4m10_67 p3).toInt8.toInt32)), (.int (4 : Int32)), (.ref b4)])) X8 (fun t k => XT.i2b X8.here hx rfl (hb hby at_217) rfl k) ?_
  obtain ⟨T9, h9, L9, X9, e9, N9, K9, A9, st9⟩ := own_stB X8 hx hZ e8 N8 (G := (Gk4m10_192 p0)) B8 g_b4 (j := (4 : Int32)) (x := ((vk4m10_67 p3).toInt8.toInt32)) (by decide) (g := (mkF m 218 (Lak4m10_9 p0 p1 p2 p3 p4 b4) [(.int ((vk4m10_67 p3).toInt8.toInt32)), (.int (4 : Int32)), (.ref b4)])) rfl rfl (hb hby at_218)
  have B9 : Ary Z h9 b4 .byte 5 (fun i => .int ((Gk4m10_218 p0 p3) i)) := A9
  have Z9 := Nat.le_trans Z8 K9.1
  refine OwnFin.step (g' := (mkF m 219 (Lak4m10_9 p0 p1 p2 p3 p4 b4) [])) X9 (fun t k => st9 _ k) ?_
  refine OwnFin.step (g' := (mkF m 221 (Lak4m10_9 p0 p1 p2 p3 p4 b4) [(.int (vk4m10_28 p0))])) X9 (fun t k => XS.iload X9.here hx rfl (hb hby at_219) rfl k) ?_
  refine OwnFin.step (g' := (mkF m 222 (Lak4m10_9 p0 p1 p2 p3 p4 b4) [(.long ((vk4m10_28 p0).toInt64))])) X9 (fun t k => XT.i2l X9.here hx rfl (hb hby at_221) rfl k) ?_
  refine OwnFin.step (g' := (mkF m 224 (Lak4m10_10 p0 p1 p2 p3 p4 b4) [])) X9 (fun t k => XT.lstore X9.here hx rfl (hb hby at_222) rfl (l' := (Lak4m10_10 p0 p1 p2 p3 p4 b4)) rfl k) ?_
  refine OwnFin.step (g' := (mkF m 226 (Lak4m10_10 p0 p1 p2 p3 p4 b4) [(.int (4 : Int32))])) X9 (fun t k => XS.iload X9.here hx rfl (hb hby at_224) rfl k) ?_
  refine OwnFin.step (g' := (mkF m 227 (Lak4m10_10 p0 p1 p2 p3 p4 b4) [(.int (1 : Int32)), (.int (4 : Int32))])) X9 (fun t k => XS.iconst X9.here hx rfl (hb hby at_226) k) ?_
  refine OwnFin.step (g' := (mkF m 230 (Lak4m10_10 p0 p1 p2 p3 p4 b4) [])) X9 (fun t k => XS.icmpNo X9.here hx rfl (hb hby at_227) rfl (tlt (show (1 : Int32) < (4 : Int32) by first | rfl | decide)).2.2.2 k) ?_
  refine OwnFin.step (g' := (mkF m 232 (Lak4m10_10 p0 p1 p2 p3 p4 b4) [(.long (vk4m10_222 p0))])) X9 (fun t k => XT.lload X9.here hx rfl (hb hby at_230) rfl k) ?_
  refine OwnFin.step (g' := (mkF m 234 (Lak4m10_10 p0 p1 p2 p3 p4 b4) [(.int (vk4m10_37 p0)), (.long (vk4m10_222 p0))])) X9 (fun t k => XS.iload X9.here hx rfl (hb hby at_232) rfl k) ?_
  refine OwnFin.step (g' := (mkF m 235 (Lak4m10_10 p0 p1 p2 p3 p4 b4) [(.long ((vk4m10_37 p0).toInt64)), (.long (vk4m10_222 p0))])) X9 (fun t k => XT.i2l X9.here hx rfl (hb hby at_234) rfl k) ?_
  refine OwnFin.step (g' := (mkF m 238 (Lak4m10_10 p0 p1 p2 p3 p4 b4) [(.long (128 : Int64)), (.long ((vk4m10_37 p0).toInt64)), (.long (vk4m10_222 p0))])) X9 (fun t k => X9.ldc2Long hx hown (mvT hZ (hw _ (wm 2 rfl))) (g := (mkF m 235 (Lak4m10_10 p0 p1 p2 p3 p4 b4) [(.long ((vk4m10_37 p0).toInt64)), (.long (vk4m10_222 p0))])) rfl (hb hby at_235) _ k) ?_
  refine OwnFin.step (g' := (mkF m 239 (Lak4m10_10 p0 p1 p2 p3 p4 b4) [(.long (((vk4m10_37 p0).toInt64) * (128 : Int64))), (.long (vk4m10_222 p0))])) X9 (fun t k => XT.lmul X9.here hx rfl (hb hby at_238) rfl k) ?_
  refine OwnFin.step (g' := (mkF m 240 (Lak4m10_10 p0 p1 p2 p3 p4 b4) [(.long ((vk4m10_222 p0) + (((vk4m10_37 p0).toInt64) * (128 : Int64))))])) X9 (fun t k => XT.ladd X9.here hx rfl (hb hby at_239) rfl k) ?_
  refine OwnFin.step (g' := (mkF m 242 (Lak4m10_11 p0 p1 p2 p3 p4 b4) [])) X9 (fun t k => XT.lstore X9.here hx rfl (hb hby at_240) rfl (l' := (Lak4m10_11 p0 p1 p2 p3 p4 b4)) rfl k) ?_
  refine OwnFin.step (g' := (mkF m 244 (Lak4m10_11 p0 p1 p2 p3 p4 b4) [(.int (4 : Int32))])) X9 (fun t k => XS.iload X9.here hx rfl (hb hby at_242) rfl k) ?_
  refine OwnFin.step (g' := (mkF m 245 (Lak4m10_11 p0 p1 p2 p3 p4 b4) [(.int (2 : Int32)), (.int (4 : Int32))])) X9 (fun t k => XS.iconst X9.here hx rfl (hb hby at_244) k) ?_
  refine OwnFin.step (g' := (mkF m 248 (Lak4m10_11 p0 p1 p2 p3 p4 b4) [])) X9 (fun t k => XS.icmpNo X9.here hx rfl (hb hby at_245) rfl (tlt (show (2 : Int32) < (4 : Int32) by first | rfl | decide)).2.2.2 k) ?_
  refine OwnFin.step (g' := (mkF m 250 (Lak4m10_11 p0 p1 p2 p3 p4 b4) [(.long (vk4m10_240 p0))])) X9 (fun t k => XT.lload X9.here hx rfl (hb hby at_248) rfl k) ?_
  refine OwnFin.step (g' := (mkF m 252 (Lak4m10_11 p0 p1 p2 p3 p4 b4) [(.int (vk4m10_46 p0)), (.long (vk4m10_240 p0))])) X9 (fun t k => XS.iload X9.here hx rfl (hb hby at_250) rfl k) ?_
  refine OwnFin.step (g' := (mkF m 253 (Lak4m10_11 p0 p1 p2 p3 p4 b4) [(.long ((vk4m10_46 p0).toInt64)), (.long (vk4m10_240 p0))])) X9 (fun t k => XT.i2l X9.here hx rfl (hb hby at_252) rfl k) ?_
  refine OwnFin.step (g' := (mkF m 256 (Lak4m10_11 p0 p1 p2 p3 p4 b4) [(.long (16384 : Int64)), (.long ((vk4m10_46 p0).toInt64)), (.long (vk4m10_240 p0))])) X9 (fun t k => X9.ldc2Long hx hown (mvT hZ (hw _ (wm 3 rfl))) (g := (mkF m 253 (Lak4m10_11 p0 p1 p2 p3 p4 b4) [(.long ((vk4m10_46 p0).toInt64)), (.long (vk4m10_240 p0))])) rfl (hb hby at_253) _ k) ?_
  refine OwnFin.step (g' := (mkF m 257 (Lak4m10_11 p0 p1 p2 p3 p4 b4) [(.long (((vk4m10_46 p0).toInt64) * (16384 : Int64))), (.long (vk4m10_240 p0))])) X9 (fun t k => XT.lmul X9.here hx rfl (hb hby at_256) rfl k) ?_
  refine OwnFin.step (g' := (mkF m 258 (Lak4m10_11 p0 p1 p2 p3 p4 b4) [(.long ((vk4m10_240 p0) + (((vk4m10_46 p0).toInt64) * (16384 : Int64))))])) X9 (fun t k => XT.ladd X9.here hx rfl (hb hby at_257) rfl k) ?_
  refine OwnFin.step (g' := (mkF m 260 (Lak4m10_12 p0 p1 p2 p3 p4 b4) [])) X9 (fun t k => XT.lstore X9.here hx rfl (hb hby at_258) rfl (l' := (Lak4m10_12 p0 p1 p2 p3 p4 b4)) rfl k) ?_
  refine OwnFin.step (g' := (mkF m 262 (Lak4m10_12 p0 p1 p2 p3 p4 b4) [(.int (4 : Int32))])) X9 (fun t k => XS.iload X9.here hx rfl (hb hby at_260) rfl k) ?_
  refine OwnFin.step (g' := (mkF m 263 (Lak4m10_12 p0 p1 p2 p3 p4 b4) [(.int (3 : Int32)), (.int (4 : Int32))])) X9 (fun t k => XS.iconst X9.here hx rfl (hb hby at_262) k) ?_
  refine OwnFin.step (g' := (mkF m 266 (Lak4m10_12 p0 p1 p2 p3 p4 b4) [])) X9 (fun t k => XS.icmpNo X9.here hx rfl (hb hby at_263) rfl (tlt (show (3 : Int32) < (4 : Int32) by first | rfl | decide)).2.2.2 k) ?_
  refine OwnFin.step (g' := (mkF m 268 (Lak4m10_12 p0 p1 p2 p3 p4 b4) [(.long (vk4m10_258 p0))])) X9 (fun t k => XT.lload X9.here hx rfl (hb hby at_266) rfl k) ?_
  refine OwnFin.step (g' := (mkF m 270 (Lak4m10_12 p0 p1 p2 p3 p4 b4) [(.int (vk4m10_55 p0)), (.long (vk4m10_258 p0))])) X9 (fun t k => XS.iload X9.here hx rfl (hb hby at_268) rfl k) ?_
  refine OwnFin.step (g' := (mkF m 271 (Lak4m10_12 p0 p1 p2 p3 p4 b4) [(.long ((vk4m10_55 p0).toInt64)), (.long (vk4m10_258 p0))])) X9 (fun t k => XT.i2l X9.here hx rfl (hb hby at_270) rfl k) ?_
  refine OwnFin.step (g' := (mkF m 274 (Lak4m10_12 p0 p1 p2 p3 p4 b4) [(.long (2097152 : Int64)), (.long ((vk4m10_55 p0).toInt64)), (.long (vk4m10_258 p0))])) X9 (fun t k => X9.ldc2Long hx hown (mvT hZ (hw _ (wm 27 rfl))) (g := (mkF m 271 (Lak4m10_12 p0 p1 p2 p3 p4 b4) [(.long ((vk4m10_55 p0).toInt64)), (.long (vk4m10_258 p0))])) rfl (hb hby at_271) _ k) ?_
  refine OwnFin.step (g' := (mkF m 275 (Lak4m10_12 p0 p1 p2 p3 p4 b4) [(.long (((vk4m10_55 p0).toInt64) * (2097152 : Int64))), (.long (vk4m10_258 p0))])) X9 (fun t k => XT.lmul X9.here hx rfl (hb hby at_274) rfl k) ?_
  refine OwnFin.step (g' := (mkF m 276 (Lak4m10_12 p0 p1 p2 p3 p4 b4) [(.long ((vk4m10_258 p0) + (((vk4m10_55 p0).toInt64) * (2097152 : Int64))))])) X9 (fun t k => XT.ladd X9.here hx rfl (hb hby at_275) rfl k) ?_
  refine OwnFin.step (g' := (mkF m 278 (Lak4m10_13 p0 p1 p2 p3 p4 b4) [])) X9 (fun t k => XT.lstore X9.here hx rfl (hb hby at_276) rfl (l' := (Lak4m10_13 p0 p1 p2 p3 p4 b4)) rfl k) ?_
  refine OwnFin.step (g' := (mkF m 280 (Lak4m10_13 p0 p1 p2 p3 p4 b4) [(.int (4 : Int32))])) X9 (fun t k => XS.iload X9.here hx rfl (hb hby at_278) rfl k) ?_
  refine OwnFin.step (g' := (mkF m 281 (Lak4m10_13 p0 p1 p2 p3 p4 b4) [(.int (4 : Int32)), (.int (4 : Int32))])) X9 (fun t k => XS.iconst X9.here hx rfl (hb hby at_280) k) ?_
  refine OwnFin.step (g' := (mkF m 296 (Lak4m10_13 p0 p1 p2 p3 p4 b4) [])) X9 (fun t k => XS.icmpYes X9.here hx rfl (pc0 := 281) (pc' := 296) rfl (hb hby at_281) rfl (flt (show ¬ ((4 : Int32) < (4 : Int32)) by first | decide | exact Int32.lt_irrefl _ | exact Int64.lt_irrefl _)).2.2.2 (by decide) (by decide) k) ?_
  obtain ⟨T10, h10, X10, e10, E10, A10, D10, -, st10⟩ := newO X9 hx hZ hown (hw _ (wm 4 rfl)) (hw _ (wm 5 rfl)) (hw _ (wm 6 rfl)) e9 (g := (mkF m 296 (Lak4m10_13 p0 p1 p2 p3 p4 b4) [])) rfl (hb hby at_296) (by decide) (by decide)
  obtain ⟨b10, y10⟩ : ∃ z, z = h9.size := ⟨_, rfl⟩
  rw [← y10] at A10 D10 st10
  have K10 := keep_ext E10
  have ne_b4_b10 : b4 ≠ b10 := Ary.neS B9 y10
  have g_b10 : n0 ≤ b10 := by rw [y10]; exact Z9
  have Z10 := Nat.le_trans Z9 K10.1
  have F10_record : Fld Z h10 b10 "com/example/faden/faden/rank/RecordReader" "record" "[B" .null := D10 (Or.inr (hw _ (wm 14 rfl))) (ty := (.array .byte)) (by decide)
  have F10_at : Fld Z h10 b10 "com/example/faden/faden/rank/RecordReader" "at" "I" (.int (0 : Int32)) := D10 (Or.inl (hw _ (wm 21 rfl))) (ty := .int) (by decide)
  refine OwnFin.step (g' := (mkF m 299 (Lak4m10_13 p0 p1 p2 p3 p4 b4) [(.ref b10)])) X10 (fun t k => st10 _ k) ?_
  refine OwnFin.step (g' := (mkF m 300 (Lak4m10_13 p0 p1 p2 p3 p4 b4) [(.ref b10), (.ref b10)])) X10 (fun t k => XS.dup X10.here hx rfl (hb hby at_299) rfl rfl k) ?_
  refine OwnFin.step (g' := (mkF m 302 (Lak4m10_13 p0 p1 p2 p3 p4 b4) [(.ref b4), (.ref b10), (.ref b10)])) X10 (fun t k => XS.aload X10.here hx rfl (hb hby at_300) rfl rfl k) ?_
  obtain ⟨_, T11, L11, X11, ⟨rfl, N11q, u12, u13, u14, u15⟩, st11⟩ := own_callI X10 hx hZ (y := (⟨"com/example/faden/faden/rank/RecordReader", "<init>", "([B)V"⟩ : MethodName)) (W := 1) (a := b10) (argsL := [(.ref b4)]) (rest := [(.ref b10)]) rfl hown (hw _ (wm 7 rfl)) (hw _ (wm 8 rfl)) (hw _ (wm 6 rfl)) (hw _ (wm 9 rfl)) (by decide) (rm1 l Z a0 hw [] b10 b4 h10 n0 Z10 A10 g_b10 F10_record F10_at) (by decide) (by decide) (by decide) (by decide) e10 (g := (mkF m 302 (Lak4m10_13 p0 p1 p2 p3 p4 b4) [(.ref b4), (.ref b10), (.ref b10)])) rfl (by rw [hml]; rfl) pd_0 rfl rfl (by show 2 * 0 + _ ≤ _; exact Nat.le_of_eq rfl) (hb hby at_302)
  have N11 := Fr.app N9 N11q
  obtain ⟨h11, e11⟩ : ∃ z, T11.heap = z := ⟨_, rfl⟩
  rw [e11] at u12 u13 u14 u15
  have K11 := u12
  have Z11 := Nat.le_trans Z10 K11.1
  refine OwnFin.step (g' := (mkF m 305 (Lak4m10_13 p0 p1 p2 p3 p4 b4) [(.ref b10)])) X11 (fun t k => st11 _ k) ?_
  refine OwnFin.step (g' := (mkF m 307 (Lak4m10_14 p0 p1 p2 p3 p4 b4 b10) [])) X11 (fun t k => XS.astore X11.here hx rfl (hb hby at_305) rfl rfl (l' := (Lak4m10_14 p0 p1 p2 p3 p4 b4 b10)) rfl k) ?_
  refine OwnFin.step (g' := (mkF m 309 (Lak4m10_14 p0 p1 p2 p3 p4 b4 b10) [(.ref b10)])) X11 (fun t k => XS.aload X11.here hx rfl (hb hby at_307) rfl rfl k) ?_
  have A17 := ((B9.keep K10 nin0).keep K11 (ninS ne_b4_b10 nin0))
  obtain ⟨_, T16, L16, X16, ⟨rfl, N16q, u18, u19, u20, u21⟩, st16⟩ := own_callV X11 hx hZ (y := (⟨"com/example/faden/faden/rank/RecordReader", "number", "()I"⟩ : MethodName)) (W := 0) (a := b10) (argsL := []) (rest := []) hown (hw _ (wm 15 rfl)) (hw _ (wm 16 rfl)) (hw _ (wm 18 rfl)) (hw _ (wm 17 rfl)) (hw _ (wm 6 rfl)) (hw _ (wm 19 rfl)) (by decide) u13 (rm3a0k4 l Z a0 hw [] b10 5 (Gk4m10_218 p0 p3) b4 h11 n0 Z11 u13 g_b10 u14 u15 A17 (Ne.symm ne_b4_b10) (exhlnk4m10_309 p2 p4 hk hm) (exhb0k4m10_309 p0 p3 p2 p4 hk hm) (exhb1k4m10_309 p0 p3 p2 p4 hk hm) (exhb2k4m10_309 p0 p3 p2 p4 hk hm) (exhb3k4m10_309 p0 p3 p2 p4 hk hm)) (by decide) (by decide) (by decide) (by decide) e11 (g := (mkF m 309 (Lak4m10_14 p0 p1 p2 p3 p4 b4 b10) [(.ref b10)])) rfl (by rw [hml]; rfl) pd_1 rfl rfl (by show 2 * 0 + _ ≤ _; exact Nat.le_of_eq rfl) (hb hby at_309)
  have N16 := Fr.app N11 N16q
  obtain ⟨h16, e16⟩ : ∃ z, T16.heap = z := ⟨_, rfl⟩
  rw [e16] at u18 u19 u20 u21
  have K16 := u18
  have Z16 := Nat.le_trans Z11 K16.1
  refine OwnFin.step (g' := (mkF m 312 (Lak4m10_14 p0 p1 p2 p3 p4 b4 b10) [(.int (va0k43_77bbb (Gk4m10_218 p0 p3)))])) X16 (fun t k => st16 _ k) ?_
  refine OwnFin.step (g' := (mkF m 314 (Lak4m10_15 p0 p1 p2 p3 p4 b4 b10) [])) X16 (fun t k => XS.istore X16.here hx rfl (hb hby at_312) rfl (l' := (Lak4m10_15 p0 p1 p2 p3 p4 b4 b10)) rfl k) ?_
  refine OwnFin.step (g' := (mkF m 316 (Lak4m10_15 p0 p1 p2 p3 p4 b4 b10) [(.int (vk4m10_312 p0 p3))])) X16 (fun t k => XS.iload X16.here hx rfl (hb hby at_314) rfl k) ?_
  refine OwnFin.step (g' := (mkF m 317 (Lak4m10_15 p0 p1 p2 p3 p4 b4 b10) [(.long ((vk4m10_312 p0 p3).toInt64))])) X16 (fun t k => XT.i2l X16.here hx rfl (hb hby at_316) rfl k) ?_
  refine OwnFin.step (g' := (mkF m 319 (Lak4m10_15 p0 p1 p2 p3 p4 b4 b10) [(.long (vk4m10_276 p0)), (.long ((vk4m10_312 p0 p3).toInt64))])) X16 (fun t k => XT.lload X16.here hx rfl (hb hby at_317) rfl k) ?_
  refine OwnFin.step (g' := (mkF m 320 (Lak4m10_15 p0 p1 p2 p3 p4 b4 b10) [(.int (XT.cmpL ((vk4m10_312 p0 p3).toInt64) (vk4m10_276 p0)))])) X16 (fun t k => XT.lcmp X16.here hx rfl (hb hby at_319) rfl k) ?_
  refine OwnFin.step (g' := (mkF m 325 (Lak4m10_15 p0 p1 p2 p3 p4 b4 b10) [])) X16 (fun t k => XS.ifYes X16.here hx rfl (pc0 := 320) (pc' := 325) rfl (hb hby at_320) rfl ((if0 _ _).trans (teq ((cl_eq _ _).mpr (brk4m10_320 p0 p3 p2 p4 hk hm))).1) (by decide) (by decide) k) ?_
  refine OwnFin.step (g' := (mkF m 327 (Lak4m10_15 p0 p1 p2 p3 p4 b4 b10) [(.int (1 : Int32))])) X16 (fun t k => XS.iload X16.here hx rfl (hb hby at_325) rfl k) ?_
  refine OwnFin.step (g' := (mkF m 336 (Lak4m10_15 p0 p1 p2 p3 p4 b4 b10) [])) X16 (fun t k => XS.ifYes X16.here hx rfl (pc0 := 327) (pc' := 336) rfl (hb hby at_327) rfl ((if0 _ _).trans (feq (show ¬ ((1 : Int32) = (0 : Int32)) by first | decide | exact Int32.lt_irrefl _ | exact Int64.lt_irrefl _)).2) (by decide) (by decide) k) ?_
  refine OwnFin.step (g' := (mkF m 338 (Lak4m10_15 p0 p1 p2 p3 p4 b4 b10) [(.ref b10)])) X16 (fun t k => XS.aload X16.here hx rfl (hb hby at_336) rfl rfl k) ?_
  have A23 := (A17.keep K16 (ninS ne_b4_b10 nin0))
  obtain ⟨_, T22, L22, X22, ⟨rfl, N22q, u24⟩, st22⟩ := own_callV X16 hx hZ (y := (⟨"com/example/faden/faden/rank/RecordReader", "atEnd", "()Z"⟩ : MethodName)) (W := 0) (a := b10) (argsL := []) (rest := []) hown (hw _ (wm 22 rfl)) (hw _ (wm 23 rfl)) (hw _ (wm 25 rfl)) (hw _ (wm 24 rfl)) (hw _ (wm 6 rfl)) (hw _ (wm 26 rfl)) (by decide) u19 (rm4 l Z a0 hw [] b10 5 (Gk4m10_218 p0 p3) b4 (4 : Int32) h16 n0 Z16 u19 g_b10 u20 u21 A23 (Ne.symm ne_b4_b10)) (by decide) (by decide) (by decide) (by decide) e16 (g := (mkF m 338 (Lak4m10_15 p0 p1 p2 p3 p4 b4 b10) [(.ref b10)])) rfl (by rw [hml]; rfl) pd_2 rfl rfl (by show 2 * 0 + _ ≤ _; exact Nat.le_of_eq rfl) (hb hby at_338)
  have N22 := Fr.app N16 N22q
  obtain ⟨h22, e22⟩ : ∃ z, T22.heap = z := ⟨_, rfl⟩
  rw [e22] at u24
  have K22 := u24
  have Z22 := Nat.le_trans Z16 K22.1
  rw [show (nar .boolean (v4_17 (4 : Int32) 5)) = (0 : Int32) from by decide] at st22
  refine OwnFin.step (g' := (mkF m 341 (Lak4m10_15 p0 p1 p2 p3 p4 b4 b10) [(.int (0 : Int32))])) X22 (fun t k => st22 _ k) ?_
  refine OwnFin.step (g' := (mkF m 346 (Lak4m10_15 p0 p1 p2 p3 p4 b4 b10) [])) X22 (fun t k => XS.ifYes X22.here hx rfl (pc0 := 341) (pc' := 346) rfl (hb hby at_341) rfl ((if0 _ _).trans (teq (show (0 : Int32) = (0 : Int32) by first | rfl | decide)).1) (by decide) (by decide) k) ?_
  refine OwnFin.step (g' := (mkF m 348 (Lak4m10_15 p0 p1 p2 p3 p4 b4 b10) [(.ref b10)])) X22 (fun t k => XS.aload X22.here hx rfl (hb hby at_346) rfl rfl k) ?_
  have E26 := (Exa.keep u19 K22)
  have F27 := (u20.keep K22 nin0)
  have F28 := (u21.keep K22 nin0)
  have A29 := (A23.keep K22 nin0)
  obtain ⟨_, T25, L25, X25, ⟨rfl, N25q, u30, u31, u32, u33⟩, st25⟩ := own_callV X22 hx hZ (y := (⟨"com/example/faden/faden/rank/RecordReader", "number", "()I"⟩ : MethodName)) (W := 0) (a := b10) (argsL := []) (rest := []) hown (hw _ (wm 15 rfl)) (hw _ (wm 16 rfl)) (hw _ (wm 18 rfl)) (hw _ (wm 17 rfl)) (hw _ (wm 6 rfl)) (hw _ (wm 19 rfl)) (by decide) E26 (rm3a4k1 l Z a0 hw [] b10 5 (Gk4m10_218 p0 p3) b4 h22 n0 Z22 E26 g_b10 F27 F28 A29 (Ne.symm ne_b4_b10) (exhlnk4m10_348 p2 p4 hk hm) (exhb0k4m10_348 p0 p3 p2 p4 hk hm)) (by decide) (by decide) (by decide) (by decide) e22 (g := (mkF m 348 (Lak4m10_15 p0 p1 p2 p3 p4 b4 b10) [(.ref b10)])) rfl (by rw [hml]; rfl) pd_1 rfl rfl (by show 2 * 0 + _ ≤ _; exact Nat.le_of_eq rfl) (hb hby at_348)
  have N25 := Fr.app N22 N25q
  obtain ⟨h25, e25⟩ : ∃ z, T25.heap = z := ⟨_, rfl⟩
  rw [e25] at u30 u31 u32 u33
  have K25 := u30
  have Z25 := Nat.le_trans Z22 K25.1
  refine OwnFin.step (g' := (mkF m 351 (Lak4m10_15 p0 p1 p2 p3 p4 b4 b10) [(.int (va4k13_77 (Gk4m10_218 p0 p3)))])) X25 (fun t k => st25 _ k) ?_
  refine OwnFin.step (g' := (mkF m 353 (Lak4m10_16 p0 p1 p2 p3 p4 b4 b10) [])) X25 (fun t k => XS.istore X25.here hx rfl (hb hby at_351) rfl (l' := (Lak4m10_16 p0 p1 p2 p3 p4 b4 b10)) rfl k) ?_
  refine OwnFin.step (g' := (mkF m 355 (Lak4m10_16 p0 p1 p2 p3 p4 b4 b10) [(.int (vk4m10_351 p0 p3))])) X25 (fun t k => XS.iload X25.here hx rfl (hb hby at_353) rfl k) ?_
  refine OwnFin.step (g' := (mkF m 357 (Lak4m10_16 p0 p1 p2 p3 p4 b4 b10) [(.int (vk4m10_67 p3)), (.int (vk4m10_351 p0 p3))])) X25 (fun t k => XS.iload X25.here hx rfl (hb hby at_355) rfl k) ?_
  refine OwnFin.step (g' := (mkF m 360 (Lak4m10_16 p0 p1 p2 p3 p4 b4 b10) [])) X25 (fun t k => XS.icmpNo X25.here hx rfl (hb hby at_357) rfl (teq (brk4m10_357 p0 p3 p2 p4 hk hm)).2 k) ?_
  refine OwnFin.step (g' := (mkF m 362 (Lak4m10_16 p0 p1 p2 p3 p4 b4 b10) [(.ref b10)])) X25 (fun t k => XS.aload X25.here hx rfl (hb hby at_360) rfl rfl k) ?_
  have A35 := (A29.keep K25 (ninS ne_b4_b10 nin0))
  obtain ⟨_, T34, L34, X34, ⟨rfl, N34q, u36⟩, st34⟩ := own_callV X25 hx hZ (y := (⟨"com/example/faden/faden/rank/RecordReader", "atEnd", "()Z"⟩ : MethodName)) (W := 0) (a := b10) (argsL := []) (rest := []) hown (hw _ (wm 22 rfl)) (hw _ (wm 23 rfl)) (hw _ (wm 25 rfl)) (hw _ (wm 24 rfl)) (hw _ (wm 6 rfl)) (hw _ (wm 26 rfl)) (by decide) u31 (rm4 l Z a0 hw [] b10 5 (Gk4m10_218 p0 p3) b4 (5 : Int32) h25 n0 Z25 u31 g_b10 u32 u33 A35 (Ne.symm ne_b4_b10)) (by decide) (by decide) (by decide) (by decide) e25 (g := (mkF m 362 (Lak4m10_16 p0 p1 p2 p3 p4 b4 b10) [(.ref b10)])) rfl (by rw [hml]; rfl) pd_2 rfl rfl (by show 2 * 0 + _ ≤ _; exact Nat.le_of_eq rfl) (hb hby at_362)
  have N34 := Fr.app N25 N34q
  obtain ⟨h34, e34⟩ : ∃ z, T34.heap = z := ⟨_, rfl⟩
  rw [e34] at u36
  have K34 := u36
  have Z34 := Nat.le_trans Z25 K34.1
  rw [show (nar .boolean (v4_17 (5 : Int32) 5)) = (1 : Int32) from by decide] at st34
  refine OwnFin.step (g' := (mkF m 365 (Lak4m10_16 p0 p1 p2 p3 p4 b4 b10) [(.int (1 : Int32))])) X34 (fun t k => st34 _ k) ?_
  refine OwnFin.step (g' := (mkF m 368 (Lak4m10_16 p0 p1 p2 p3 p4 b4 b10) [])) X34 (fun t k => XS.ifNo X34.here hx rfl (hb hby at_365) rfl ((if0 _ _).trans (feq (show ¬ ((1 : Int32) = (0 : Int32)) by first | decide | exact Int32.lt_irrefl _ | exact Int64.lt_irrefl _)).1) k) ?_
  refine OwnFin.step (g' := (mkF m 369 (Lak4m10_16 p0 p1 p2 p3 p4 b4 b10) [(.int (1 : Int32))])) X34 (fun t k => XS.iconst X34.here hx rfl (hb hby at_368) k) ?_
  refine OwnFin.step (g' := (mkF m 373 (Lak4m10_16 p0 p1 p2 p3 p4 b4 b10) [(.int (1 : Int32))])) X34 (fun t k => XS.goto X34.here hx rfl (pc0 := 369) (pc' := 373) rfl (hb hby at_369) (by decide) (by decide) k) ?_
  refine OwnFin.retNar X34 (by simp) (hb hby at_373) (by decide) (by decide) ?_
  exact ⟨rfl, N34⟩
set_option maxRecDepth 65536 in
set_option maxHeartbeats 40000000 in
theorem rm0k4m1 (l : Launch) (Z : State) (a0 : Array Value) (hw : ∀ d ∈ tables_1, d.before a0 Z = true) (ws : List Jvm.Cond) (p0 : Int32) (p1 : Int32) (p2 : Int32) (p3 : Int32) (p4 : Int32) (h0 : Heap) (n0 : Nat) (Z0 : n0 ≤ h0.size) (hk : vk4m10_8 p2 = (4 : Int32)) (hm : vk4m10_22 p4 = (1 : Int32)) :
    MetFree l x (head1 (Jvm.Cond.code x code maxLocals ret :: ws) room_1) (fun a U => a = #[(.int p0), (.int p1), (.int p2), (.int p3), (.int p4)] ∧ Z.Warmed39 U.vm ∧ U.heap = h0) (fun _ _ _ _ _ => True) (fun _ U o U' => ∃ v L, o = .returned v ∧ (LQ n0) v U'.heap L ∧ FrameEnd U o U' L room_1.cells room_1.slots) :=
  own_met (ret := ret) (Q := (LQ n0)) (plainFor_of_name pn_0) (fun m => ef_0 m p0 p1 p2 p3 p4) (fun p e s m below meth c s₁ X hx hby hml hown hnm hZ e0 => j0k4m1 X hx hZ hw hby hml hown hnm e0 (Fr.nil n0) Z0 p0 p1 p2 p3 p4 hk hm)
def vk5m00_8 (p2 : Int32) : Int32 := (((p2 &&& (2147483647 : Int32)) % (5 : Int32)) + (1 : Int32))
def vk5m00_22 (p4 : Int32) : Int32 := (if (p4 &&& (1 : Int32)) = (0 : Int32) then (0 : Int32) else (1 : Int32))
def vk5m00_28 (p0 : Int32) : Int32 := (p0 &&& (127 : Int32))
def vk5m00_37 (p0 : Int32) : Int32 := ((XT.ushr p0 (8 : Int32)) &&& (127 : Int32))
def vk5m00_46 (p0 : Int32) : Int32 := ((XT.ushr p0 (16 : Int32)) &&& (127 : Int32))
def vk5m00_55 (p0 : Int32) : Int32 := ((XT.ushr p0 (24 : Int32)) &&& (127 : Int32))
def vk5m00_61 (p1 : Int32) : Int32 := (p1 &&& (7 : Int32))
def vk5m00_67 (p3 : Int32) : Int32 := (p3 &&& (127 : Int32))
def Gk5m00_108 (p0 : Int32) : Nat → Int32 := (updN (fun _ => (0 : Int32)) ((0 : Int32)).toNatClampNeg (nar .byte (((vk5m00_28 p0) ||| (128 : Int32)).toInt8.toInt32)))
def Gk5m00_136 (p0 : Int32) : Nat → Int32 := (updN (Gk5m00_108 p0) ((1 : Int32)).toNatClampNeg (nar .byte (((vk5m00_37 p0) ||| (128 : Int32)).toInt8.toInt32)))
def Gk5m00_164 (p0 : Int32) : Nat → Int32 := (updN (Gk5m00_136 p0) ((2 : Int32)).toNatClampNeg (nar .byte (((vk5m00_46 p0) ||| (128 : Int32)).toInt8.toInt32)))
def Gk5m00_192 (p0 : Int32) : Nat → Int32 := (updN (Gk5m00_164 p0) ((3 : Int32)).toNatClampNeg (nar .byte (((vk5m00_55 p0) ||| (128 : Int32)).toInt8.toInt32)))
def Gk5m00_205 (p0 : Int32) (p1 : Int32) : Nat → Int32 := (updN (Gk5m00_192 p0) ((4 : Int32)).toNatClampNeg (nar .byte ((vk5m00_61 p1).toInt8.toInt32)))
def vk5m00_222 (p0 : Int32) : Int64 := ((vk5m00_28 p0).toInt64)
def vk5m00_240 (p0 : Int32) : Int64 := ((vk5m00_222 p0) + (((vk5m00_37 p0).toInt64) * (128 : Int64)))
def vk5m00_258 (p0 : Int32) : Int64 := ((vk5m00_240 p0) + (((vk5m00_46 p0).toInt64) * (16384 : Int64)))
def vk5m00_276 (p0 : Int32) : Int64 := ((vk5m00_258 p0) + (((vk5m00_55 p0).toInt64) * (2097152 : Int64)))
def vk5m00_294 (p0 : Int32) (p1 : Int32) : Int64 := ((vk5m00_276 p0) + (((vk5m00_61 p1).toInt64) * (268435456 : Int64)))
def vk5m00_312 (p0 : Int32) (p1 : Int32) : Int32 := (va0k53_77bbbb (Gk5m00_205 p0 p1))
theorem exhlnk5m00_309 (p2 : Int32) (p4 : Int32) (hk : vk5m00_8 p2 = (5 : Int32)) (hm : vk5m00_22 p4 = (0 : Int32)) : 5 ≤ 5 ∧ 5 < 100 := by decide
theorem exhb0k5m00_309 (p0 : Int32) (p1 : Int32) (p2 : Int32) (p4 : Int32) (hk : vk5m00_8 p2 = (5 : Int32)) (hm : vk5m00_22 p4 = (0 : Int32)) : 128 ≤ (((Gk5m00_205 p0 p1) 0) &&& 255).toInt := by
  have b0 : 0 ≤ (vk5m00_28 p0).toInt ∧ (vk5m00_28 p0).toInt < 128 := own_b127 _
  have h0 : (((Gk5m00_205 p0 p1) 0) &&& 255).toInt = (vk5m00_28 p0).toInt + 128 := own_hi b0
  have b1 : 0 ≤ (vk5m00_37 p0).toInt ∧ (vk5m00_37 p0).toInt < 128 := own_b127 _
  have h1 : (((Gk5m00_205 p0 p1) 1) &&& 255).toInt = (vk5m00_37 p0).toInt + 128 := own_hi b1
  have b2 : 0 ≤ (vk5m00_46 p0).toInt ∧ (vk5m00_46 p0).toInt < 128 := own_b127 _
  have h2 : (((Gk5m00_205 p0 p1) 2) &&& 255).toInt = (vk5m00_46 p0).toInt + 128 := own_hi b2
  have b3 : 0 ≤ (vk5m00_55 p0).toInt ∧ (vk5m00_55 p0).toInt < 128 := own_b127 _
  have h3 : (((Gk5m00_205 p0 p1) 3) &&& 255).toInt = (vk5m00_55 p0).toInt + 128 := own_hi b3
  have b4 : 0 ≤ (vk5m00_61 p1).toInt ∧ (vk5m00_61 p1).toInt < 8 := own_b7 _
  have h4 : (((Gk5m00_205 p0 p1) 4) &&& 255).toInt = (vk5m00_61 p1).toInt := own_lo ⟨b4.1, Int.lt_of_lt_of_le b4.2 (by decide)⟩
  omega
theorem exhb1k5m00_309 (p0 : Int32) (p1 : Int32) (p2 : Int32) (p4 : Int32) (hk : vk5m00_8 p2 = (5 : Int32)) (hm : vk5m00_22 p4 = (0 : Int32)) : 128 ≤ (((Gk5m00_205 p0 p1) 1) &&& 255).toInt := by
  have b0 : 0 ≤ (vk5m00_28 p0).toInt ∧ (vk5m00_28 p0).toInt < 128 := own_b127 _
  have h0 : (((Gk5m00_205 p0 p1) 0) &&& 255).toInt = (vk5m00_28 p0).toInt + 128 := own_hi b0
  have b1 : 0 ≤ (vk5m00_37 p0).toInt ∧ (vk5m00_37 p0).toInt < 128 := own_b127 _
  have h1 : (((Gk5m00_205 p0 p1) 1) &&& 255).toInt = (vk5m00_37 p0).toInt + 128 := own_hi b1
  have b2 : 0 ≤ (vk5m00_46 p0).toInt ∧ (vk5m00_46 p0).toInt < 128 := own_b127 _
  have h2 : (((Gk5m00_205 p0 p1) 2) &&& 255).toInt = (vk5m00_46 p0).toInt + 128 := own_hi b2
  have b3 : 0 ≤ (vk5m00_55 p0).toInt ∧ (vk5m00_55 p0).toInt < 128 := own_b127 _
  have h3 : (((Gk5m00_205 p0 p1) 3) &&& 255).toInt = (vk5m00_55 p0).toInt + 128 := own_hi b3
  have b4 : 0 ≤ (vk5m00_61 p1).toInt ∧ (vk5m00_61 p1).toInt < 8 := own_b7 _
  have h4 : (((Gk5m00_205 p0 p1) 4) &&& 255).toInt = (vk5m00_61 p1).toInt := own_lo ⟨b4.1, Int.lt_of_lt_of_le b4.2 (by decide)⟩
  omega
theorem exhb2k5m00_309 (p0 : Int32) (p1 : Int32) (p2 : Int32) (p4 : Int32) (hk : vk5m00_8 p2 = (5 : Int32)) (hm : vk5m00_22 p4 = (0 : Int32)) : 128 ≤ (((Gk5m00_205 p0 p1) 2) &&& 255).toInt := by
  have b0 : 0 ≤ (vk5m00_28 p0).toInt ∧ (vk5m00_28 p0).toInt < 128 := own_b127 _
  have h0 : (((Gk5m00_205 p0 p1) 0) &&& 255).toInt = (vk5m00_28 p0).toInt + 128 := own_hi b0
  have b1 : 0 ≤ (vk5m00_37 p0).toInt ∧ (vk5m00_37 p0).toInt < 128 := own_b127 _
  have h1 : (((Gk5m00_205 p0 p1) 1) &&& 255).toInt = (vk5m00_37 p0).toInt + 128 := own_hi b1
  have b2 : 0 ≤ (vk5m00_46 p0).toInt ∧ (vk5m00_46 p0).toInt < 128 := own_b127 _
  have h2 : (((Gk5m00_205 p0 p1) 2) &&& 255).toInt = (vk5m00_46 p0).toInt + 128 := own_hi b2
  have b3 : 0 ≤ (vk5m00_55 p0).toInt ∧ (vk5m00_55 p0).toInt < 128 := own_b127 _
  have h3 : (((Gk5m00_205 p0 p1) 3) &&& 255).toInt = (vk5m00_55 p0).toInt + 128 := own_hi b3
  have b4 : 0 ≤ (vk5m00_61 p1).toInt ∧ (vk5m00_61 p1).toInt < 8 := own_b7 _
  have h4 : (((Gk5m00_205 p0 p1) 4) &&& 255).toInt = (vk5m00_61 p1).toInt := own_lo ⟨b4.1, Int.lt_of_lt_of_le b4.2 (by decide)⟩
  omega
theorem exhb3k5m00_309 (p0 : Int32) (p1 : Int32) (p2 : Int32) (p4 : Int32) (hk : vk5m00_8 p2 = (5 : Int32)) (hm : vk5m00_22 p4 = (0 : Int32)) : 128 ≤ (((Gk5m00_205 p0 p1) 3) &&& 255).toInt := by
  have b0 : 0 ≤ (vk5m00_28 p0).toInt ∧ (vk5m00_28 p0).toInt < 128 := own_b127 _
  have h0 : (((Gk5m00_205 p0 p1) 0) &&& 255).toInt = (vk5m00_28 p0).toInt + 128 := own_hi b0
  have b1 : 0 ≤ (vk5m00_37 p0).toInt ∧ (vk5m00_37 p0).toInt < 128 := own_b127 _
  have h1 : (((Gk5m00_205 p0 p1) 1) &&& 255).toInt = (vk5m00_37 p0).toInt + 128 := own_hi b1
  have b2 : 0 ≤ (vk5m00_46 p0).toInt ∧ (vk5m00_46 p0).toInt < 128 := own_b127 _
  have h2 : (((Gk5m00_205 p0 p1) 2) &&& 255).toInt = (vk5m00_46 p0).toInt + 128 := own_hi b2
  have b3 : 0 ≤ (vk5m00_55 p0).toInt ∧ (vk5m00_55 p0).toInt < 128 := own_b127 _
  have h3 : (((Gk5m00_205 p0 p1) 3) &&& 255).toInt = (vk5m00_55 p0).toInt + 128 := own_hi b3
  have b4 : 0 ≤ (vk5m00_61 p1).toInt ∧ (vk5m00_61 p1).toInt < 8 := own_b7 _
  have h4 : (((Gk5m00_205 p0 p1) 4) &&& 255).toInt = (vk5m00_61 p1).toInt := own_lo ⟨b4.1, Int.lt_of_lt_of_le b4.2 (by decide)⟩
  omega
theorem exhb4k5m00_309 (p0 : Int32) (p1 : Int32) (p2 : Int32) (p4 : Int32) (hk : vk5m00_8 p2 = (5 : Int32)) (hm : vk5m00_22 p4 = (0 : Int32)) : (((Gk5m00_205 p0 p1) 4) &&& 255).toInt < 8 := by
  have b0 : 0 ≤ (vk5m00_28 p0).toInt ∧ (vk5m00_28 p0).toInt < 128 := own_b127 _
  have h0 : (((Gk5m00_205 p0 p1) 0) &&& 255).toInt = (vk5m00_28 p0).toInt + 128 := own_hi b0
  have b1 : 0 ≤ (vk5m00_37 p0).toInt ∧ (vk5m00_37 p0).toInt < 128 := own_b127 _
  have h1 : (((Gk5m00_205 p0 p1) 1) &&& 255).toInt = (vk5m00_37 p0).toInt + 128 := own_hi b1
  have b2 : 0 ≤ (vk5m00_46 p0).toInt ∧ (vk5m00_46 p0).toInt < 128 := own_b127 _
  have h2 : (((Gk5m00_205 p0 p1) 2) &&& 255).toInt = (vk5m00_46 p0).toInt + 128 := own_hi b2
  have b3 : 0 ≤ (vk5m00_55 p0).toInt ∧ (vk5m00_55 p0).toInt < 128 := own_b127 _
  have h3 : (((Gk5m00_205 p0 p1) 3) &&& 255).toInt = (vk5m00_55 p0).toInt + 128 := own_hi b3
  have b4 : 0 ≤ (vk5m00_61 p1).toInt ∧ (vk5m00_61 p1).toInt < 8 := own_b7 _
  have h4 : (((Gk5m00_205 p0 p1) 4) &&& 255).toInt = (vk5m00_61 p1).toInt := own_lo ⟨b4.1, Int.lt_of_lt_of_le b4.2 (by decide)⟩
  omega
theorem brk5m00_320 (p0 : Int32) (p1 : Int32) (p2 : Int32) (p4 : Int32) (hk : vk5m00_8 p2 = (5 : Int32)) (hm : vk5m00_22 p4 = (0 : Int32)) : ((vk5m00_312 p0 p1).toInt64) = (vk5m00_294 p0 p1) := by
  have b0 : 0 ≤ (vk5m00_28 p0).toInt ∧ (vk5m00_28 p0).toInt < 128 := own_b127 _
  have h0 : (((Gk5m00_205 p0 p1) 0) &&& 255).toInt = (vk5m00_28 p0).toInt + 128 := own_hi b0
  have b1 : 0 ≤ (vk5m00_37 p0).toInt ∧ (vk5m00_37 p0).toInt < 128 := own_b127 _
  have h1 : (((Gk5m00_205 p0 p1) 1) &&& 255).toInt = (vk5m00_37 p0).toInt + 128 := own_hi b1
  have b2 : 0 ≤ (vk5m00_46 p0).toInt ∧ (vk5m00_46 p0).toInt < 128 := own_b127 _
  have h2 : (((Gk5m00_205 p0 p1) 2) &&& 255).toInt = (vk5m00_46 p0).toInt + 128 := own_hi b2
  have b3 : 0 ≤ (vk5m00_55 p0).toInt ∧ (vk5m00_55 p0).toInt < 128 := own_b127 _
  have h3 : (((Gk5m00_205 p0 p1) 3) &&& 255).toInt = (vk5m00_55 p0).toInt + 128 := own_hi b3
  have b4 : 0 ≤ (vk5m00_61 p1).toInt ∧ (vk5m00_61 p1).toInt < 8 := own_b7 _
  have h4 : (((Gk5m00_205 p0 p1) 4) &&& 255).toInt = (vk5m00_61 p1).toInt := own_lo ⟨b4.1, Int.lt_of_lt_of_le b4.2 (by decide)⟩
  have e0 : (vk5m00_222 p0).toInt = (vk5m00_28 p0).toInt := Jvm.Kit.i64_of_i32 _
  have m0 : (((Gk5m00_205 p0 p1) 0) &&& 255).toInt % 128 = (vk5m00_28 p0).toInt := own_m7 h0 ⟨b0.1, Int.lt_of_lt_of_le b0.2 (by decide)⟩
  have m1 : (((Gk5m00_205 p0 p1) 1) &&& 255).toInt % 128 = (vk5m00_37 p0).toInt := own_m7 h1 ⟨b1.1, Int.lt_of_lt_of_le b1.2 (by decide)⟩
  have m2 : (((Gk5m00_205 p0 p1) 2) &&& 255).toInt % 128 = (vk5m00_46 p0).toInt := own_m7 h2 ⟨b2.1, Int.lt_of_lt_of_le b2.2 (by decide)⟩
  have m3 : (((Gk5m00_205 p0 p1) 3) &&& 255).toInt % 128 = (vk5m00_55 p0).toInt := own_m7 h3 ⟨b3.1, Int.lt_of_lt_of_le b3.2 (by decide)⟩
  have m4 : (((Gk5m00_205 p0 p1) 4) &&& 255).toInt % 128 = (vk5m00_61 p1).toInt := own_m7' h4 ⟨b4.1, Int.lt_of_lt_of_le b4.2 (by decide)⟩
  have e1 : (vk5m00_240 p0).toInt = (vk5m00_222 p0).toInt + (vk5m00_37 p0).toInt * 128 ∧ 0 ≤ (vk5m00_240 p0).toInt ∧ (vk5m00_240 p0).toInt < 16384 := own_ex1 _ _ (by rw [e0]; exact b0) ⟨b1.1, Int.lt_of_lt_of_le b1.2 (by decide)⟩
  have e2 : (vk5m00_258 p0).toInt = (vk5m00_240 p0).toInt + (vk5m00_46 p0).toInt * 16384 ∧ 0 ≤ (vk5m00_258 p0).toInt ∧ (vk5m00_258 p0).toInt < 2097152 := own_ex2 _ _ e1.2 ⟨b2.1, Int.lt_of_lt_of_le b2.2 (by decide)⟩
  have e3 : (vk5m00_276 p0).toInt = (vk5m00_258 p0).toInt + (vk5m00_55 p0).toInt * 2097152 ∧ 0 ≤ (vk5m00_276 p0).toInt ∧ (vk5m00_276 p0).toInt < 268435456 := own_ex3 _ _ e2.2 ⟨b3.1, Int.lt_of_lt_of_le b3.2 (by decide)⟩
  have e4 : (vk5m00_294 p0 p1).toInt = (vk5m00_276 p0).toInt + (vk5m00_61 p1).toInt * 268435456 ∧ 0 ≤ (vk5m00_294 p0 p1).toInt ∧ (vk5m00_294 p0 p1).toInt < 34359738368 := own_ex4 _ _ e3.2 ⟨b4.1, Int.lt_of_lt_of_le b4.2 (by decide)⟩
  have r : (vk5m00_312 p0 p1).toInt = _ := own_va0k53_77bbbb (Gk5m00_205 p0 p1) (by rw [h4]; exact b4.2)
  rw [i64eq, Jvm.Kit.i64_of_i32, r, m0, m1, m2, m3, m4, e4.1, e3.1, e2.1, e1.1, e0, Int.mul_one]
abbrev Lak5m00_0 (p0 : Int32) (p1 : Int32) (p2 : Int32) (p3 : Int32) (p4 : Int32) : Array Slot := #[.val (.int p0), .val (.int p1), .val (.int p2), .val (.int p3), .val (.int p4), .unset, .unset, .unset, .unset, .unset, .unset, .unset, .unset, .unset, .unset, .unset, .unset, .unset, .unset]
abbrev Lak5m00_1 (p0 : Int32) (p1 : Int32) (p2 : Int32) (p3 : Int32) (p4 : Int32) : Array Slot := #[.val (.int p0), .val (.int p1), .val (.int p2), .val (.int p3), .val (.int p4), .val (.int (5 : Int32)), .unset, .unset, .unset, .unset, .unset, .unset, .unset, .unset, .unset, .unset, .unset, .unset, .unset]
abbrev Lak5m00_2 (p0 : Int32) (p1 : Int32) (p2 : Int32) (p3 : Int32) (p4 : Int32) : Array Slot := #[.val (.int p0), .val (.int p1), .val (.int p2), .val (.int p3), .val (.int p4), .val (.int (5 : Int32)), .val (.int (0 : Int32)), .unset, .unset, .unset, .unset, .unset, .unset, .unset, .unset, .unset, .unset, .unset, .unset]
abbrev Lak5m00_3 (p0 : Int32) (p1 : Int32) (p2 : Int32) (p3 : Int32) (p4 : Int32) : Array Slot := #[.val (.int p0), .val (.int p1), .val (.int p2), .val (.int p3), .val (.int p4), .val (.int (5 : Int32)), .val (.int (0 : Int32)), .val (.int (vk5m00_28 p0)), .unset, .unset, .unset, .unset, .unset, .unset, .unset, .unset, .unset, .unset, .unset]
abbrev Lak5m00_4 (p0 : Int32) (p1 : Int32) (p2 : Int32) (p3 : Int32) (p4 : Int32) : Array Slot := #[.val (.int p0), .val (.int p1), .val (.int p2), .val (.int p3), .val (.int p4), .val (.int (5 : Int32)), .val (.int (0 : Int32)), .val (.int (vk5m00_28 p0)), .val (.int (vk5m00_37 p0)), .unset, .unset, .unset, .unset, .unset, .unset, .unset, .unset, .unset, .unset]
abbrev Lak5m00_5 (p0 : Int32) (p1 : Int32) (p2 : Int32) (p3 : Int32) (p4 : Int32) : Array Slot := #[.val (.int p0), .val (.int p1), .val (.int p2), .val (.int p3), .val (.int p4), .val (.int (5 : Int32)), .val (.int (0 : Int32)), .val (.int (vk5m00_28 p0)), .val (.int (vk5m00_37 p0)), .val (.int (vk5m00_46 p0)), .unset, .unset, .unset, .unset, .unset, .unset, .unset, .unset, .unset]
abbrev Lak5m00_6 (p0 : Int32) (p1 : Int32) (p2 : Int32) (p3 : Int32) (p4 : Int32) : Array Slot := #[.val (.int p0), .val (.int p1), .val (.int p2), .val (.int p3), .val (.int p4), .val (.int (5 : Int32)), .val (.int (0 : Int32)), .val (.int (vk5m00_28 p0)), .val (.int (vk5m00_37 p0)), .val (.int (vk5m00_46 p0)), .val (.int (vk5m00_55 p0)), .unset, .unset, .unset, .unset, .unset, .unset, .unset, .unset]
abbrev Lak5m00_7 (p0 : Int32) (p1 : Int32) (p2 : Int32) (p3 : Int32) (p4 : Int32) : Array Slot := #[.val (.int p0), .val (.int p1), .val (.int p2), .val (.int p3), .val (.int p4), .val (.int (5 : Int32)), .val (.int (0 : Int32)), .val (.int (vk5m00_28 p0)), .val (.int (vk5m00_37 p0)), .val (.int (vk5m00_46 p0)), .val (.int (vk5m00_55 p0)), .val (.int (vk5m00_61 p1)), .unset, .unset, .unset, .unset, .unset, .unset, .unset]
abbrev Lak5m00_8 (p0 : Int32) (p1 : Int32) (p2 : Int32) (p3 : Int32) (p4 : Int32) : Array Slot := #[.val (.int p0), .val (.int p1), .val (.int p2), .val (.int p3), .val (.int p4), .val (.int (5 : Int32)), .val (.int (0 : Int32)), .val (.int (vk5m00_28 p0)), .val (.int (vk5m00_37 p0)), .val (.int (vk5m00_46 p0)), .val (.int (vk5m00_55 p0)), .val (.int (vk5m00_61 p1)), .val (.int (vk5m00_67 p3)), .unset, .unset, .unset, .unset, .unset, .unset]
abbrev Lak5m00_9 (p0 : Int32) (p1 : Int32) (p2 : Int32) (p3 : Int32) (p4 : Int32) (b4 : Addr) : Array Slot := #[.val (.int p0), .val (.int p1), .val (.int p2), .val (.int p3), .val (.int p4), .val (.int (5 : Int32)), .val (.int (0 : Int32)), .val (.int (vk5m00_28 p0)), .val (.int (vk5m00_37 p0)), .val (.int (vk5m00_46 p0)), .val (.int (vk5m00_55 p0)), .val (.int (vk5m00_61 p1)), .val (.int (vk5m00_67 p3)), .val (.ref b4), .unset, .unset, .unset, .unset, .unset]
abbrev Lak5m00_10 (p0 : Int32) (p1 : Int32) (p2 : Int32) (p3 : Int32) (p4 : Int32) (b4 : Addr) : Array Slot := #[.val (.int p0), .val (.int p1), .val (.int p2), .val (.int p3), .val (.int p4), .val (.int (5 : Int32)), .val (.int (0 : Int32)), .val (.int (vk5m00_28 p0)), .val (.int (vk5m00_37 p0)), .val (.int (vk5m00_46 p0)), .val (.int (vk5m00_55 p0)), .val (.int (vk5m00_61 p1)), .val (.int (vk5m00_67 p3)), .val (.ref b4), .val (.long (vk5m00_222 p0)), .second, .unset, .unset, .unset]
abbrev Lak5m00_11 (p0 : Int32) (p1 : Int32) (p2 : Int32) (p3 : Int32) (p4 : Int32) (b4 : Addr) : Array Slot := #[.val (.int p0), .val (.int p1), .val (.int p2), .val (.int p3), .val (.int p4), .val (.int (5 : Int32)), .val (.int (0 : Int32)), .val (.int (vk5m00_28 p0)), .val (.int (vk5m00_37 p0)), .val (.int (vk5m00_46 p0)), .val (.int (vk5m00_55 p0)), .val (.int (vk5m00_61 p1)), .val (.int (vk5m00_67 p3)), .val (.ref b4), .val (.long (vk5m00_240 p0)), .second, .unset, .unset, .unset]
abbrev Lak5m00_12 (p0 : Int32) (p1 : Int32) (p2 : Int32) (p3 : Int32) (p4 : Int32) (b4 : Addr) : Array Slot := #[.val (.int p0), .val (.int p1), .val (.int p2), .val (.int p3), .val (.int p4), .val (.int (5 : Int32)), .val (.int (0 : Int32)), .val (.int (vk5m00_28 p0)), .val (.int (vk5m00_37 p0)), .val (.int (vk5m00_46 p0)), .val (.int (vk5m00_55 p0)), .val (.int (vk5m00_61 p1)), .val (.int (vk5m00_67 p3)), .val (.ref b4), .val (.long (vk5m00_258 p0)), .second, .unset, .unset, .unset]
abbrev Lak5m00_13 (p0 : Int32) (p1 : Int32) (p2 : Int32) (p3 : Int32) (p4 : Int32) (b4 : Addr) : Array Slot := #[.val (.int p0), .val (.int p1), .val (.int p2), .val (.int p3), .val (.int p4), .val (.int (5 : Int32)), .val (.int (0 : Int32)), .val (.int (vk5m00_28 p0)), .val (.int (vk5m00_37 p0)), .val (.int (vk5m00_46 p0)), .val (.int (vk5m00_55 p0)), .val (.int (vk5m00_61 p1)), .val (.int (vk5m00_67 p3)), .val (.ref b4), .val (.long (vk5m00_276 p0)), .second, .unset, .unset, .unset]
abbrev Lak5m00_14 (p0 : Int32) (p1 : Int32) (p2 : Int32) (p3 : Int32) (p4 : Int32) (b4 : Addr) : Array Slot := #[.val (.int p0), .val (.int p1), .val (.int p2), .val (.int p3), .val (.int p4), .val (.int (5 : Int32)), .val (.int (0 : Int32)), .val (.int (vk5m00_28 p0)), .val (.int (vk5m00_37 p0)), .val (.int (vk5m00_46 p0)), .val (.int (vk5m00_55 p0)), .val (.int (vk5m00_61 p1)), .val (.int (vk5m00_67 p3)), .val (.ref b4), .val (.long (vk5m00_294 p0 p1)), .second, .unset, .unset, .unset]
abbrev Lak5m00_15 (p0 : Int32) (p1 : Int32) (p2 : Int32) (p3 : Int32) (p4 : Int32) (b4 : Addr) (b10 : Addr) : Array Slot := #[.val (.int p0), .val (.int p1), .val (.int p2), .val (.int p3), .val (.int p4), .val (.int (5 : Int32)), .val (.int (0 : Int32)), .val (.int (vk5m00_28 p0)), .val (.int (vk5m00_37 p0)), .val (.int (vk5m00_46 p0)), .val (.int (vk5m00_55 p0)), .val (.int (vk5m00_61 p1)), .val (.int (vk5m00_67 p3)), .val (.ref b4), .val (.long (vk5m00_294 p0 p1)), .second, .val (.ref b10), .unset, .unset]
abbrev Lak5m00_16 (p0 : Int32) (p1 : Int32) (p2 : Int32) (p3 : Int32) (p4 : Int32) (b4 : Addr) (b10 : Addr) : Array Slot := #[.val (.int p0), .val (.int p1), .val (.int p2), .val (.int p3), .val (.int p4), .val (.int (5 : Int32)), .val (.int (0 : Int32)), .val (.int (vk5m00_28 p0)), .val (.int (vk5m00_37 p0)), .val (.int (vk5m00_46 p0)), .val (.int (vk5m00_55 p0)), .val (.int (vk5m00_61 p1)), .val (.int (vk5m00_67 p3)), .val (.ref b4), .val (.long (vk5m00_294 p0 p1)), .second, .val (.ref b10), .val (.int (vk5m00_312 p0 p1)), .unset]
set_option maxRecDepth 65536 in
set_option maxHeartbeats 40000000 in
theorem j0k5m0 {p : Program} {l : Launch} {e : Env} {s : State} {m : MethodId} {args : Array Value} {below : List Frame} {meth : Method} {c : Code} {T0 : State} {locs : List Loc} {Z : State} {a0 : Array Value} {h0 : Heap} {n0 : Nat}
    (X0 : Stand p l e room_1 s m args below meth c T0 locs 0 0) (hx : p.tables.exec = Jvm.exec) (hZ : Z.Warmed39 s.vm) (hw : ∀ d ∈ tables_1, d.before a0 Z = true) (hby : c.code = code) (hml : c.maxLocals = 19) (hown : s.vm.findClass "com/example/faden/faden/rank/RecordReaderNumberPinLaw" = some m.cls) (hnm : meth.name = "law") (e0 : T0.heap = h0) (N0 : Fr n0 locs) (Z0 : n0 ≤ h0.size) (p0 : Int32) (p1 : Int32) (p2 : Int32) (p3 : Int32) (p4 : Int32) (hk : vk5m00_8 p2 = (5 : Int32)) (hm : vk5m00_22 p4 = (0 : Int32)) :
    OwnFin X0 (some .boolean) (LQ n0) room_1.cells room_1.slots (mkF m 0 #[.val (.int p0), .val (.int p1), .val (.int p2), .val (.int p3), .val (.int p4), .unset, .unset, .unset, .unset, .unset, .unset, .unset, .unset, .unset, .unset, .unset, .unset, .unset, .unset] []) := by
  refine OwnFin.step (g' := (mkF m 1 (Lak5m00_0 p0 p1 p2 p3 p4) [(.int p2)])) X0 (fun t k => XS.iloadN X0.here hx rfl (hb hby at_0) rfl k) ?_
  refine OwnFin.step (g' := (mkF m 3 (Lak5m00_0 p0 p1 p2 p3 p4) [(.int (2147483647 : Int32)), (.int p2)])) X0 (fun t k => X0.ldcInt hx hown (mvT hZ (hw _ (wm 0 rfl))) (g := (mkF m 1 (Lak5m00_0 p0 p1 p2 p3 p4) [(.int p2)])) rfl (hb hby at_1) _ k) ?_
  refine OwnFin.step (g' := (mkF m 4 (Lak5m00_0 p0 p1 p2 p3 p4) [(.int (p2 &&& (2147483647 : Int32)))])) X0 (fun t k => XS.iand X0.here hx rfl (hb hby at_3) rfl k) ?_
  refine OwnFin.step (g' := (mkF m 5 (Lak5m00_0 p0 p1 p2 p3 p4) [(.int (5 : Int32)), (.int (p2 &&& (2147483647 : Int32)))])) X0 (fun t k => XS.iconst X0.here hx rfl (hb hby at_4) k) ?_
  refine OwnFin.step (g' := (mkF m 6 (Lak5m00_0 p0 p1 p2 p3 p4) [(.int ((p2 &&& (2147483647 : Int32)) % (5 : Int32)))])) X0 (fun t k => iremM (g := (mkF m 5 (Lak5m00_0 p0 p1 p2 p3 p4) [(.int (5 : Int32)), (.int (p2 &&& (2147483647 : Int32)))])) X0 hx rfl (hb hby at_5) rfl (by decide) k) ?_
  refine OwnFin.step (g' := (mkF m 7 (Lak5m00_0 p0 p1 p2 p3 p4) [(.int (1 : Int32)), (.int ((p2 &&& (2147483647 : Int32)) % (5 : Int32)))])) X0 (fun t k => XS.iconst X0.here hx rfl (hb hby at_6) k) ?_
  refine OwnFin.step (g' := (mkF m 8 (Lak5m00_0 p0 p1 p2 p3 p4) [(.int (((p2 &&& (2147483647 : Int32)) % (5 : Int32)) + (1 : Int32)))])) X0 (fun t k => XS.iadd X0.here hx rfl (hb hby at_7) rfl k) ?_
  refine OwnFin.step (g' := (mkF m 10 #[.val (.int p0), .val (.int p1), .val (.int p2), .val (.int p3), .val (.int p4), .val (.int (vk5m00_8 p2)), .unset, .unset, .unset, .unset, .unset, .unset, .unset, .unset, .unset, .unset, .unset, .unset, .unset] [])) X0 (fun t k => XS.istore X0.here hx rfl (hb hby at_8) rfl (l' := #[.val (.int p0), .val (.int p1), .val (.int p2), .val (.int p3), .val (.int p4), .val (.int (vk5m00_8 p2)), .unset, .unset, .unset, .unset, .unset, .unset, .unset, .unset, .unset, .unset, .unset, .unset, .unset]) rfl k) ?_
  rw [hk]
  refine OwnFin.step (g' := (mkF m 12 (Lak5m00_1 p0 p1 p2 p3 p4) [(.int p4)])) X0 (fun t k => XS.iload X0.here hx rfl (hb hby at_10) rfl k) ?_
  refine OwnFin.step (g' := (mkF m 13 (Lak5m00_1 p0 p1 p2 p3 p4) [(.int (1 : Int32)), (.int p4)])) X0 (fun t k => XS.iconst X0.here hx rfl (hb hby at_12) k) ?_
  refine OwnFin.step (g' := (mkF m 14 (Lak5m00_1 p0 p1 p2 p3 p4) [(.int (p4 &&& (1 : Int32)))])) X0 (fun t k => XS.iand X0.here hx rfl (hb hby at_13) rfl k) ?_
  refine OwnFin.step (g' := (mkF m 22 #[.val (.int p0), .val (.int p1), .val (.int p2), .val (.int p3), .val (.int p4), .val (.int (5 : Int32)), .unset, .unset, .unset, .unset, .unset, .unset, .unset, .unset, .unset, .unset, .unset, .unset, .unset] [(.int (vk5m00_22 p4))])) X0 (fun t k => ?_) ?_
  · show Steps p.tables e below (T0.setTop (mkF m 14 (Lak5m00_1 p0 p1 p2 p3 p4) [(.int (p4 &&& (1 : Int32)))])) t
    by_cases hc1 : (p4 &&& (1 : Int32)) = (0 : Int32)
    · skip
      refine XS.ifYes X0.here hx rfl (pc0 := 14) (pc' := 21) rfl (hb hby at_14) rfl ((if0 _ _).trans (teq hc1).1) (by decide) (by decide) ?_
      show Steps p.tables e below (T0.setTop (mkF m 21 (Lak5m00_1 p0 p1 p2 p3 p4) [])) t
      refine XS.iconst X0.here hx rfl (hb hby at_21) ?_
      show Steps p.tables e below (T0.setTop (mkF m 22 (Lak5m00_1 p0 p1 p2 p3 p4) [(.int (0 : Int32))])) t
      have qq2 : (vk5m00_22 p4) = (0 : Int32) := by
        show (if (p4 &&& (1 : Int32)) = (0 : Int32) then (0 : Int32) else (1 : Int32)) = (0 : Int32)
        simp only [if_pos hc1]
      rw [qq2] at k
      exact k
    · skip
      refine XS.ifNo X0.here hx rfl (hb hby at_14) rfl ((if0 _ _).trans (feq hc1).1) ?_
      show Steps p.tables e below (T0.setTop (mkF m 17 (Lak5m00_1 p0 p1 p2 p3 p4) [])) t
      refine XS.iconst X0.here hx rfl (hb hby at_17) ?_
      show Steps p.tables e below (T0.setTop (mkF m 18 (Lak5m00_1 p0 p1 p2 p3 p4) [(.int (1 : Int32))])) t
      refine XS.goto X0.here hx rfl (pc0 := 18) (pc' := 22) rfl (hb hby at_18) (by decide) (by decide) ?_
      show Steps p.tables e below (T0.setTop (mkF m 22 (Lak5m00_1 p0 p1 p2 p3 p4) [(.int (1 : Int32))])) t
      have qq3 : (vk5m00_22 p4) = (1 : Int32) := by
        show (if (p4 &&& (1 : Int32)) = (0 : Int32) then (0 : Int32) else (1 : Int32)) = (1 : Int32)
        simp only [if_neg hc1]
      rw [qq3] at k
      exact k
  refine OwnFin.step (g' := (mkF m 24 #[.val (.int p0), .val (.int p1), .val (.int p2), .val (.int p3), .val (.int p4), .val (.int (5 : Int32)), .val (.int (vk5m00_22 p4)), .unset, .unset, .unset, .unset, .unset, .unset, .unset, .unset, .unset, .unset, .unset, .unset] [])) X0 (fun t k => XS.istore X0.here hx rfl (hb hby at_22) rfl (l' := #[.val (.int p0), .val (.int p1), .val (.int p2), .val (.int p3), .val (.int p4), .val (.int (5 : Int32)), .val (.int (vk5m00_22 p4)), .unset, .unset, .unset, .unset, .unset, .unset, .unset, .unset, .unset, .unset, .unset, .unset]) rfl k) ?_
  rw [hm]
  refine OwnFin.step (g' := (mkF m 25 (Lak5m00_2 p0 p1 p2 p3 p4) [(.int p0)])) X0 (fun t k => XS.iloadN X0.here hx rfl (hb hby at_24) rfl k) ?_
  refine OwnFin.step (g' := (mkF m 27 (Lak5m00_2 p0 p1 p2 p3 p4) [(.int (127 : Int32)), (.int p0)])) X0 (fun t k => XS.bipush X0.here hx rfl (hb hby at_25) k) ?_
  refine OwnFin.step (g' := (mkF m 28 (Lak5m00_2 p0 p1 p2 p3 p4) [(.int (p0 &&& (127 : Int32)))])) X0 (fun t k => XS.iand X0.here hx rfl (hb hby at_27) rfl k) ?_
  refine OwnFin.step (g' := (mkF m 30 (Lak5m00_3 p0 p1 p2 p3 p4) [])) X0 (fun t k => XS.istore X0.here hx rfl (hb hby at_28) rfl (l' := (Lak5m00_3 p0 p1 p2 p3 p4)) rfl k) ?_
  refine OwnFin.step (g' := (mkF m 31 (Lak5m00_3 p0 p1 p2 p3 p4) [(.int p0)])) X0 (fun t k => XS.iloadN X0.here hx rfl (hb hby at_30) rfl k) ?_
  refine OwnFin.step (g' := (mkF m 33 (Lak5m00_3 p0 p1 p2 p3 p4) [(.int (8 : Int32)), (.int p0)])) X0 (fun t k => XS.bipush X0.here hx rfl (hb hby at_31) k) ?_
  refine OwnFin.step (g' := (mkF m 34 (Lak5m00_3 p0 p1 p2 p3 p4) [(.int (XT.ushr p0 (8 : Int32)))])) X0 (fun t k => XT.iushr X0.here hx rfl (hb hby at_33) rfl k) ?_
  refine OwnFin.step (g' := (mkF m 36 (Lak5m00_3 p0 p1 p2 p3 p4) [(.int (127 : Int32)), (.int (XT.ushr p0 (8 : Int32)))])) X0 (fun t k => XS.bipush X0.here hx rfl (hb hby at_34) k) ?_
  refine OwnFin.step (g' := (mkF m 37 (Lak5m00_3 p0 p1 p2 p3 p4) [(.int ((XT.ushr p0 (8 : Int32)) &&& (127 : Int32)))])) X0 (fun t k => XS.iand X0.here hx rfl (hb hby at_36) rfl k) ?_
  refine OwnFin.step (g' := (mkF m 39 (Lak5m00_4 p0 p1 p2 p3 p4) [])) X0 (fun t k => XS.istore X0.here hx rfl (hb hby at_37) rfl (l' := (Lak5m00_4 p0 p1 p2 p3 p4)) rfl k) ?_
  refine OwnFin.step (g' := (mkF m 40 (Lak5m00_4 p0 p1 p2 p3 p4) [(.int p0)])) X0 (fun t k => XS.iloadN X0.here hx rfl (hb hby at_39) rfl k) ?_
  refine OwnFin.step (g' := (mkF m 42 (Lak5m00_4 p0 p1 p2 p3 p4) [(.int (16 : Int32)), (.int p0)])) X0 (fun t k => XS.bipush X0.here hx rfl (hb hby at_40) k) ?_
  refine OwnFin.step (g' := (mkF m 43 (Lak5m00_4 p0 p1 p2 p3 p4) [(.int (XT.ushr p0 (16 : Int32)))])) X0 (fun t k => XT.iushr X0.here hx rfl (hb hby at_42) rfl k) ?_
  refine OwnFin.step (g' := (mkF m 45 (Lak5m00_4 p0 p1 p2 p3 p4) [(.int (127 : Int32)), (.int (XT.ushr p0 (16 : Int32)))])) X0 (fun t k => XS.bipush X0.here hx rfl (hb hby at_43) k) ?_
  refine OwnFin.step (g' := (mkF m 46 (Lak5m00_4 p0 p1 p2 p3 p4) [(.int ((XT.ushr p0 (16 : Int32)) &&& (127 : Int32)))])) X0 (fun t k => XS.iand X0.here hx rfl (hb hby at_45) rfl k) ?_
  refine OwnFin.step (g' := (mkF m 48 (Lak5m00_5 p0 p1 p2 p3 p4) [])) X0 (fun t k => XS.istore X0.here hx rfl (hb hby at_46) rfl (l' := (Lak5m00_5 p0 p1 p2 p3 p4)) rfl k) ?_
  refine OwnFin.step (g' := (mkF m 49 (Lak5m00_5 p0 p1 p2 p3 p4) [(.int p0)])) X0 (fun t k => XS.iloadN X0.here hx rfl (hb hby at_48) rfl k) ?_
  refine OwnFin.step (g' := (mkF m 51 (Lak5m00_5 p0 p1 p2 p3 p4) [(.int (24 : Int32)), (.int p0)])) X0 (fun t k => XS.bipush X0.here hx rfl (hb hby at_49) k) ?_
  refine OwnFin.step (g' := (mkF m 52 (Lak5m00_5 p0 p1 p2 p3 p4) [(.int (XT.ushr p0 (24 : Int32)))])) X0 (fun t k => XT.iushr X0.here hx rfl (hb hby at_51) rfl k) ?_
  refine OwnFin.step (g' := (mkF m 54 (Lak5m00_5 p0 p1 p2 p3 p4) [(.int (127 : Int32)), (.int (XT.ushr p0 (24 : Int32)))])) X0 (fun t k => XS.bipush X0.here hx rfl (hb hby at_52) k) ?_
  refine OwnFin.step (g' := (mkF m 55 (Lak5m00_5 p0 p1 p2 p3 p4) [(.int ((XT.ushr p0 (24 : Int32)) &&& (127 : Int32)))])) X0 (fun t k => XS.iand X0.here hx rfl (hb hby at_54) rfl k) ?_
  refine OwnFin.step (g' := (mkF m 57 (Lak5m00_6 p0 p1 p2 p3 p4) [])) X0 (fun t k => XS.istore X0.here hx rfl (hb hby at_55) rfl (l' := (Lak5m00_6 p0 p1 p2 p3 p4)) rfl k) ?_
  refine OwnFin.step (g' := (mkF m 58 (Lak5m00_6 p0 p1 p2 p3 p4) [(.int p1)])) X0 (fun t k => XS.iloadN X0.here hx rfl (hb hby at_57) rfl k) ?_
  refine OwnFin.step (g' := (mkF m 60 (Lak5m00_6 p0 p1 p2 p3 p4) [(.int (7 : Int32)), (.int p1)])) X0 (fun t k => XS.bipush X0.here hx rfl (hb hby at_58) k) ?_
  refine OwnFin.step (g' := (mkF m 61 (Lak5m00_6 p0 p1 p2 p3 p4) [(.int (p1 &&& (7 : Int32)))])) X0 (fun t k => XS.iand X0.here hx rfl (hb hby at_60) rfl k) ?_
  refine OwnFin.step (g' := (mkF m 63 (Lak5m00_7 p0 p1 p2 p3 p4) [])) X0 (fun t k => XS.istore X0.here hx rfl (hb hby at_61) rfl (l' := (Lak5m00_7 p0 p1 p2 p3 p4)) rfl k) ?_
  refine OwnFin.step (g' := (mkF m 64 (Lak5m00_7 p0 p1 p2 p3 p4) [(.int p3)])) X0 (fun t k => XS.iloadN X0.here hx rfl (hb hby at_63) rfl k) ?_
  refine OwnFin.step (g' := (mkF m 66 (Lak5m00_7 p0 p1 p2 p3 p4) [(.int (127 : Int32)), (.int p3)])) X0 (fun t k => XS.bipush X0.here hx rfl (hb hby at_64) k) ?_
  refine OwnFin.step (g' := (mkF m 67 (Lak5m00_7 p0 p1 p2 p3 p4) [(.int (p3 &&& (127 : Int32)))])) X0 (fun t k => XS.iand X0.here hx rfl (hb hby at_66) rfl k) ?_
  refine OwnFin.step (g' := (mkF m 69 (Lak5m00_8 p0 p1 p2 p3 p4) [])) X0 (fun t k => XS.istore X0.here hx rfl (hb hby at_67) rfl (l' := (Lak5m00_8 p0 p1 p2 p3 p4)) rfl k) ?_
  refine OwnFin.step (g' := (mkF m 71 (Lak5m00_8 p0 p1 p2 p3 p4) [(.int (0 : Int32))])) X0 (fun t k => XS.iload X0.here hx rfl (hb hby at_69) rfl k) ?_
  refine OwnFin.step (g' := (mkF m 81 (Lak5m00_8 p0 p1 p2 p3 p4) [])) X0 (fun t k => XS.ifYes X0.here hx rfl (pc0 := 71) (pc' := 81) rfl (hb hby at_71) rfl ((if0 _ _).trans (teq (show (0 : Int32) = (0 : Int32) by first | rfl | decide)).1) (by decide) (by decide) k) ?_
  refine OwnFin.step (g' := (mkF m 83 (Lak5m00_8 p0 p1 p2 p3 p4) [(.int (5 : Int32))])) X0 (fun t k => XS.iload X0.here hx rfl (hb hby at_81) rfl k) ?_
  obtain ⟨T4, h4, b4, X4, e4, y4, K4, A4, st4⟩ := own_new X0 hx hZ (hw _ (wm 1 rfl)) e0 (g := (mkF m 83 (Lak5m00_8 p0 p1 p2 p3 p4) [(.int (5 : Int32))])) rfl (hb hby at_83) rfl (by decide) (cap := 5) (by decide) (by decide) (by decide) (by decide)
  have B4 : Ary Z h4 b4 .byte 5 (fun i => .int ((fun _ => (0 : Int32)) i)) := A4
  have g_b4 : n0 ≤ b4 := by rw [y4]; exact Z0
  have Z4 := Nat.le_trans Z0 K4.1
  refine OwnFin.step (g' := (mkF m 85 (Lak5m00_8 p0 p1 p2 p3 p4) [(.ref b4)])) X4 (fun t k => st4 _ k) ?_
  refine OwnFin.step (g' := (mkF m 87 (Lak5m00_9 p0 p1 p2 p3 p4 b4) [])) X4 (fun t k => XS.astore X4.here hx rfl (hb hby at_85) rfl rfl (l' := (Lak5m00_9 p0 p1 p2 p3 p4 b4)) rfl k) ?_
  refine OwnFin.step (g' := (mkF m 89 (Lak5m00_9 p0 p1 p2 p3 p4 b4) [(.ref b4)])) X4 (fun t k => XS.aload X4.here hx rfl (hb hby at_87) rfl rfl k) ?_
  refine OwnFin.step (g' := (mkF m 90 (Lak5m00_9 p0 p1 p2 p3 p4 b4) [(.int (0 : Int32)), (.ref b4)])) X4 (fun t k => XS.iconst X4.here hx rfl (hb hby at_89) k) ?_
  refine OwnFin.step (g' := (mkF m 92 (Lak5m00_9 p0 p1 p2 p3 p4 b4) [(.int (5 : Int32)), (.int (0 : Int32)), (.ref b4)])) X4 (fun t k => XS.iload X4.here hx rfl (hb hby at_90) rfl k) ?_
  refine OwnFin.step (g' := (mkF m 93 (Lak5m00_9 p0 p1 p2 p3 p4 b4) [(.int (1 : Int32)), (.int (5 : Int32)), (.int (0 : Int32)), (.ref b4)])) X4 (fun t k => XS.iconst X4.here hx rfl (hb hby at_92) k) ?_
  refine OwnFin.step (g' := (mkF m 96 (Lak5m00_9 p0 p1 p2 p3 p4 b4) [(.int (0 : Int32)), (.ref b4)])) X4 (fun t k => XS.icmpNo X4.here hx rfl (hb hby at_93) rfl (tlt (show (1 : Int32) < (5 : Int32) by first | rfl | decide)).2.2.2 k) ?_
  refine OwnFin.step (g' := (mkF m 98 (Lak5m00_9 p0 p1 p2 p3 p4 b4) [(.int (vk5m00_28 p0)), (.int (0 : Int32)), (.ref b4)])) X4 (fun t k => XS.iload X4.here hx rfl (hb hby at_96) rfl k) ?_
  refine OwnFin.step (g' := (mkF m 101 (Lak5m00_9 p0 p1 p2 p3 p4 b4) [(.int (128 : Int32)), (.int (vk5m00_28 p0)), (.int (0 : Int32)), (.ref b4)])) X4 (fun t k => XS.sipush X4.here hx rfl (hb hby at_98) k) ?_
  refine OwnFin.step (g' := (mkF m 102 (Lak5m00_9 p0 p1 p2 p3 p4 b4) [(.int ((vk5m00_28 p0) ||| (128 : Int32))), (.int (0 : Int32)), (.ref b4)])) X4 (fun t k => XT.ior X4.here hx rfl (hb hby at_101) rfl k) ?_
  refine OwnFin.step (g' := (mkF m 107 (Lak5m00_9 p0 p1 p2 p3 p4 b4) [(.int ((vk5m00_28 p0) ||| (128 : Int32))), (.int (0 : Int32)), (.ref b4)])) X4 (fun t k => XS.goto X4.here hx rfl (pc0 := 102) (pc' := 107) rfl (hb hby at_102) (by decide) (by decide) k) ?_
  refine OwnFin.step (g' := (mkF m 108 (Lak5m00_9 p0 p1 p2 p3 p4 b4) [(.int (((vk5m00_28 p0) ||| (128 : Int32)).toInt8.toInt32)), (.int (0 : Int32)), (.ref b4)])) X4 (fun t k => XT.i2b X4.here hx rfl (hb hby at_107) rfl k) ?_
  obtain ⟨T5, h5, L5, X5, e5, N5, K5, A5, st5⟩ := own_stB X4 hx hZ e4 N0 (G := (fun _ => (0 : Int32))) B4 g_b4 (j := (0 : Int32)) (x := (((vk5m00_28 p0) ||| (128 : Int32)).toInt8.toInt32)) (by decide) (g := (mkF m 108 (Lak5m00_9 p0 p1 p2 p3 p4 b4) [(.int (((vk5m00_28 p0) ||| (128 : Int32)).toInt8.toInt32)), (.int (0 : Int32)), (.ref b4)])) rfl rfl (hb hby at_108)
  have B5 : Ary Z h5 b4 .byte 5 (fun i => .int ((Gk5m00_108 p0) i)) := A5
  have Z5 := Nat.le_trans Z4 K5.1
  refine OwnFin.step (g' := (mkF m 109 (Lak5m00_9 p0 p1 p2 p3 p4 b4) [])) X5 (fun t k => st5 _ k) ?_
  refine OwnFin.step (g' := (mkF m 111 (Lak5m00_9 p0 p1 p2 p3 p4 b4) [(.int (5 : Int32))])) X5 (fun t k => XS.iload X5.here hx rfl (hb hby at_109) rfl k) ?_
  refine OwnFin.step (g' := (mkF m 112 (Lak5m00_9 p0 p1 p2 p3 p4 b4) [(.int (1 : Int32)), (.int (5 : Int32))])) X5 (fun t k => XS.iconst X5.here hx rfl (hb hby at_111) k) ?_
  refine OwnFin.step (g' := (mkF m 115 (Lak5m00_9 p0 p1 p2 p3 p4 b4) [])) X5 (fun t k => XS.icmpNo X5.here hx rfl (hb hby at_112) rfl (tlt (show (1 : Int32) < (5 : Int32) by first | rfl | decide)).2.2.2 k) ?_
  refine OwnFin.step (g' := (mkF m 117 (Lak5m00_9 p0 p1 p2 p3 p4 b4) [(.ref b4)])) X5 (fun t k => XS.aload X5.here hx rfl (hb hby at_115) rfl rfl k) ?_
  refine OwnFin.step (g' := (mkF m 118 (Lak5m00_9 p0 p1 p2 p3 p4 b4) [(.int (1 : Int32)), (.ref b4)])) X5 (fun t k => XS.iconst X5.here hx rfl (hb hby at_117) k) ?_
  refine OwnFin.step (g' := (mkF m 120 (Lak5m00_9 p0 p1 p2 p3 p4 b4) [(.int (5 : Int32)), (.int (1 : Int32)), (.ref b4)])) X5 (fun t k => XS.iload X5.here hx rfl (hb hby at_118) rfl k) ?_
  refine OwnFin.step (g' := (mkF m 121 (Lak5m00_9 p0 p1 p2 p3 p4 b4) [(.int (2 : Int32)), (.int (5 : Int32)), (.int (1 : Int32)), (.ref b4)])) X5 (fun t k => XS.iconst X5.here hx rfl (hb hby at_120) k) ?_
  refine OwnFin.step (g' := (mkF m 124 (Lak5m00_9 p0 p1 p2 p3 p4 b4) [(.int (1 : Int32)), (.ref b4)])) X5 (fun t k => XS.icmpNo X5.here hx rfl (hb hby at_121) rfl (tlt (show (2 : Int32) < (5 : Int32) by first | rfl | decide)).2.2.2 k) ?_
  refine OwnFin.step (g' := (mkF m 126 (Lak5m00_9 p0 p1 p2 p3 p4 b4) [(.int (vk5m00_37 p0)), (.int (1 : Int32)), (.ref b4)])) X5 (fun t k => XS.iload X5.here hx rfl (hb hby at_124) rfl k) ?_
  refine OwnFin.step (g' := (mkF m 129 (Lak5m00_9 p0 p1 p2 p3 p4 b4) [(.int (128 : Int32)), (.int (vk5m00_37 p0)), (.int (1 : Int32)), (.ref b4)])) X5 (fun t k => XS.sipush X5.here hx rfl (hb hby at_126) k) ?_
  refine OwnFin.step (g' := (mkF m 130 (Lak5m00_9 p0 p1 p2 p3 p4 b4) [(.int ((vk5m00_37 p0) ||| (128 : Int32))), (.int (1 : Int32)), (.ref b4)])) X5 (fun t k => XT.ior X5.here hx rfl (hb hby at_129) rfl k) ?_
  refine OwnFin.step (g' := (mkF m 135 (Lak5m00_9 p0 p1 p2 p3 p4 b4) [(.int ((vk5m00_37 p0) ||| (128 : Int32))), (.int (1 : Int32)), (.ref b4)])) X5 (fun t k => XS.goto X5.here hx rfl (pc0 := 130) (pc' := 135) rfl (hb hby at_130) (by decide) (by decide) k) ?_
  refine OwnFin.step (g' := (mkF m 136 (Lak5m00_9 p0 p1 p2 p3 p4 b4) [(.int (((vk5m00_37 p0) ||| (128 : Int32)).toInt8.toInt32)), (.int (1 : Int32)), (.ref b4)])) X5 (fun t k => XT.i2b X5.here hx rfl (hb hby at_135) rfl k) ?_
  obtain ⟨T6, h6, L6, X6, e6, N6, K6, A6, st6⟩ := own_stB X5 hx hZ e5 N5 (G := (Gk5m00_108 p0)) B5 g_b4 (j := (1 : Int32)) (x := (((vk5m00_37 p0) ||| (128 : Int32)).toInt8.toInt32)) (by decide) (g := (mkF m 136 (Lak5m00_9 p0 p1 p2 p3 p4 b4) [(.int (((vk5m00_37 p0) ||| (128 : Int32)).toInt8.toInt32)), (.int (1 : Int32)), (.ref b4)])) rfl rfl (hb hby at_136)
  have B6 : Ary Z h6 b4 .byte 5 (fun i => .int ((Gk5m00_136 p0) i)) := A6
  have Z6 := Nat.le_trans Z5 K6.1
  refine OwnFin.step (g' := (mkF m 137 (Lak5m00_9 p0 p1 p2 p3 p4 b4) [])) X6 (fun t k => st6 _ k) ?_
  refine OwnFin.step (g' := (mkF m 139 (Lak5m00_9 p0 p1 p2 p3 p4 b4) [(.int (5 : Int32))])) X6 (fun t k => XS.iload X6.here hx rfl (hb hby at_137) rfl k) ?_
  refine OwnFin.step (g' := (mkF m 140 (Lak5m00_9 p0 p1 p2 p3 p4 b4) [(.int (2 : Int32)), (.int (5 : Int32))])) X6 (fun t k => XS.iconst X6.here hx rfl (hb hby at_139) k) ?_
  refine OwnFin.step (g' := (mkF m 143 (Lak5m00_9 p0 p1 p2 p3 p4 b4) [])) X6 (fun t k => XS.icmpNo X6.here hx rfl (hb hby at_140) rfl (tlt (show (2 : Int32) < (5 : Int32) by first | rfl | decide)).2.2.2 k) ?_
  refine OwnFin.step (g' := (mkF m 145 (Lak5m00_9 p0 p1 p2 p3 p4 b4) [(.ref b4)])) X6 (fun t k => XS.aload X6.here hx rfl (hb hby at_143) rfl rfl k) ?_
  refine OwnFin.step (g' := (mkF m 146 (Lak5m00_9 p0 p1 p2 p3 p4 b4) [(.int (2 : Int32)), (.ref b4)])) X6 (fun t k => XS.iconst X6.here hx rfl (hb hby at_145) k) ?_
  refine OwnFin.step (g' := (mkF m 148 (Lak5m00_9 p0 p1 p2 p3 p4 b4) [(.int (5 : Int32)), (.int (2 : Int32)), (.ref b4)])) X6 (fun t k => XS.iload X6.here hx rfl (hb hby at_146) rfl k) ?_
  refine OwnFin.step (g' := (mkF m 149 (Lak5m00_9 p0 p1 p2 p3 p4 b4) [(.int (3 : Int32)), (.int (5 : Int32)), (.int (2 : Int32)), (.ref b4)])) X6 (fun t k => XS.iconst X6.here hx rfl (hb hby at_148) k) ?_
  refine OwnFin.step (g' := (mkF m 152 (Lak5m00_9 p0 p1 p2 p3 p4 b4) [(.int (2 : Int32)), (.ref b4)])) X6 (fun t k => XS.icmpNo X6.here hx rfl (hb hby at_149) rfl (tlt (show (3 : Int32) < (5 : Int32) by first | rfl | decide)).2.2.2 k) ?_
  refine OwnFin.step (g' := (mkF m 154 (Lak5m00_9 p0 p1 p2 p3 p4 b4) [(.int (vk5m00_46 p0)), (.int (2 : Int32)), (.ref b4)])) X6 (fun t k => XS.iload X6.here hx rfl (hb hby at_152) rfl k) ?_
  refine OwnFin.step (g' := (mkF m 157 (Lak5m00_9 p0 p1 p2 p3 p4 b4) [(.int (128 : Int32)), (.int (vk5m00_46 p0)), (.int (2 : Int32)), (.ref b4)])) X6 (fun t k => XS.sipush X6.here hx rfl (hb hby at_154) k) ?_
  refine OwnFin.step (g' := (mkF m 158 (Lak5m00_9 p0 p1 p2 p3 p4 b4) [(.int ((vk5m00_46 p0) ||| (128 : Int32))), (.int (2 : Int32)), (.ref b4)])) X6 (fun t k => XT.ior X6.here hx rfl (hb hby at_157) rfl k) ?_
  refine OwnFin.step (g' := (mkF m 163 (Lak5m00_9 p0 p1 p2 p3 p4 b4) [(.int ((vk5m00_46 p0) ||| (128 : Int32))), (.int (2 : Int32)), (.ref b4)])) X6 (fun t k => XS.goto X6.here hx rfl (pc0 := 158) (pc' := 163) rfl (hb hby at_158) (by decide) (by decide) k) ?_
  refine OwnFin.step (g' := (mkF m 164 (Lak5m00_9 p0 p1 p2 p3 p4 b4) [(.int (((vk5m00_46 p0) ||| (128 : Int32)).toInt8.toInt32)), (.int (2 : Int32)), (.ref b4)])) X6 (fun t k => XT.i2b X6.here hx rfl (hb hby at_163) rfl k) ?_
  obtain ⟨T7, h7, L7, X7, e7, N7, K7, A7, st7⟩ := own_stB X6 hx hZ e6 N6 (G := (Gk5m00_136 p0)) B6 g_b4 (j := (2 : Int32)) (x := (((vk5m00_46 p0) ||| (128 : Int32)).toInt8.toInt32)) (by decide) (g := (mkF m 164 (Lak5m00_9 p0 p1 p2 p3 p4 b4) [(.int (((vk5m00_46 p0) ||| (128 : Int32)).toInt8.toInt32)), (.int (2 : Int32)), (.ref b4)])) rfl rfl (hb hby at_164)
  have B7 : Ary Z h7 b4 .byte 5 (fun i => .int ((Gk5m00_164 p0) i)) := A7
  have Z7 := Nat.le_trans Z6 K7.1
  refine OwnFin.step (g' := (mkF m 165 (Lak5m00_9 p0 p1 p2 p3 p4 b4) [])) X7 (fun t k => st7 _ k) ?_
  refine OwnFin.step (g' := (mkF m 167 (Lak5m00_9 p0 p1 p2 p3 p4 b4) [(.int (5 : Int32))])) X7 (fun t k => XS.iload X7.here hx rfl (hb hby at_165) rfl k) ?_
  refine OwnFin.step (g' := (mkF m 168 (Lak5m00_9 p0 p1 p2 p3 p4 b4) [(.int (3 : Int32)), (.int (5 : Int32))])) X7 (fun t k => XS.iconst X7.here hx rfl (hb hby at_167) k) ?_
  refine OwnFin.step (g' := (mkF m 171 (Lak5m00_9 p0 p1 p2 p3 p4 b4) [])) X7 (fun t k => XS.icmpNo X7.here hx rfl (hb hby at_168) rfl (tlt (show (3 : Int32) < (5 : Int32) by first | rfl | decide)).2.2.2 k) ?_
  refine OwnFin.step (g' := (mkF m 173 (Lak5m00_9 p0 p1 p2 p3 p4 b4) [(.ref b4)])) X7 (fun t k => XS.aload X7.here hx rfl (hb hby at_171) rfl rfl k) ?_
  refine OwnFin.step (g' := (mkF m 174 (Lak5m00_9 p0 p1 p2 p3 p4 b4) [(.int (3 : Int32)), (.ref b4)])) X7 (fun t k => XS.iconst X7.here hx rfl (hb hby at_173) k) ?_
  refine OwnFin.step (g' := (mkF m 176 (Lak5m00_9 p0 p1 p2 p3 p4 b4) [(.int (5 : Int32)), (.int (3 : Int32)), (.ref b4)])) X7 (fun t k => XS.iload X7.here hx rfl (hb hby at_174) rfl k) ?_
  refine OwnFin.step (g' := (mkF m 177 (Lak5m00_9 p0 p1 p2 p3 p4 b4) [(.int (4 : Int32)), (.int (5 : Int32)), (.int (3 : Int32)), (.ref b4)])) X7 (fun t k => XS.iconst X7.here hx rfl (hb hby at_176) k) ?_
  refine OwnFin.step (g' := (mkF m 180 (Lak5m00_9 p0 p1 p2 p3 p4 b4) [(.int (3 : Int32)), (.ref b4)])) X7 (fun t k => XS.icmpNo X7.here hx rfl (hb hby at_177) rfl (tlt (show (4 : Int32) < (5 : Int32) by first | rfl | decide)).2.2.2 k) ?_
  refine OwnFin.step (g' := (mkF m 182 (Lak5m00_9 p0 p1 p2 p3 p4 b4) [(.int (vk5m00_55 p0)), (.int (3 : Int32)), (.ref b4)])) X7 (fun t k => XS.iload X7.here hx rfl (hb hby at_180) rfl k) ?_
  refine OwnFin.step (g' := (mkF m 185 (Lak5m00_9 p0 p1 p2 p3 p4 b4) [(.int (128 : Int32)), (.int (vk5m00_55 p0)), (.int (3 : Int32)), (.ref b4)])) X7 (fun t k => XS.sipush X7.here hx rfl (hb hby at_182) k) ?_
  refine OwnFin.step (g' := (mkF m 186 (Lak5m00_9 p0 p1 p2 p3 p4 b4) [(.int ((vk5m00_55 p0) ||| (128 : Int32))), (.int (3 : Int32)), (.ref b4)])) X7 (fun t k => XT.ior X7.here hx rfl (hb hby at_185) rfl k) ?_
  refine OwnFin.step (g' := (mkF m 191 (Lak5m00_9 p0 p1 p2 p3 p4 b4) [(.int ((vk5m00_55 p0) ||| (128 : Int32))), (.int (3 : Int32)), (.ref b4)])) X7 (fun t k => XS.goto X7.here hx rfl (pc0 := 186) (pc' := 191) rfl (hb hby at_186) (by decide) (by decide) k) ?_
  refine OwnFin.step (g' := (mkF m 192 (Lak5m00_9 p0 p1 p2 p3 p4 b4) [(.int (((vk5m00_55 p0) ||| (128 : Int32)).toInt8.toInt32)), (.int (3 : Int32)), (.ref b4)])) X7 (fun t k => XT.i2b X7.here hx rfl (hb hby at_191) rfl k) ?_
  obtain ⟨T8, h8, L8, X8, e8, N8, K8, A8, st8⟩ := own_stB X7 hx hZ e7 N7 (G := (Gk5m00_164 p0)) B7 g_b4 (j := (3 : Int32)) (x := (((vk5m00_55 p0) ||| (128 : Int32)).toInt8.toInt32)) (by decide) (g := (mkF m 192 (Lak5m00_9 p0 p1 p2 p3 p4 b4) [(.int (((vk5m00_55 p0) ||| (128 : Int32)).toInt8.toInt32)), (.int (3 : Int32)), (.ref b4)])) rfl rfl (hb hby at_192)
  have B8 : Ary Z h8 b4 .byte 5 (fun i => .int ((Gk5m00_192 p0) i)) := A8
  have Z8 := Nat.le_trans Z7 K8.1
  refine OwnFin.step (g' := (mkF m 193 (Lak5m00_9 p0 p1 p2 p3 p4 b4) [])) X8 (fun t k => st8 _ k) ?_
  refine OwnFin.step (g' := (mkF m 195 (Lak5m00_9 p0 p1 p2 p3 p4 b4) [(.int (5 : Int32))])) X8 (fun t k => XS.iload X8.here hx rfl (hb hby at_193) rfl k) ?_
  refine OwnFin.step (g' := (mkF m 196 (Lak5m00_9 p0 p1 p2 p3 p4 b4) [(.int (4 : Int32)), (.int (5 : Int32))])) X8 (fun t k => XS.iconst X8.here hx rfl (hb hby at_195) k) ?_
  refine OwnFin.step (g' := (mkF m 199 (Lak5m00_9 p0 p1 p2 p3 p4 b4) [])) X8 (fun t k => XS.icmpNo X8.here hx rfl (hb hby at_196) rfl (tlt (show (4 : Int32) < (5 : Int32) by first | rfl | decide)).2.2.2 k) ?_
  refine OwnFin.step (g' := (mkF m 201 (Lak5m00_9 p0 p1 p2 p3 p4 b4) [(.ref b4)])) X8 (fun t k => XS.aload X8.here hx rfl (hb hby at_199) rfl rfl k) ?_
  refine OwnFin.step (g' := (mkF m 202 (Lak5m00_9 p0 p1 p2 p3 p4 b4) [(.int (4 : Int32)), (.ref b4)])) X8 (fun t k => XS.iconst X8.here hx rfl (hb hby at_201) k) ?_
  refine OwnFin.step (g' := (mkF m 204 (Lak5m00_9 p0 p1 p2 p3 p4 b4) [(.int (vk5m00_61 p1)), (.int (4 : Int32)), (.ref b4)])) X8 (fun t k => XS.iload X8.here hx rfl (hb hby at_202) rfl k) ?_
  refine OwnFin.step (g' := (mkF m 205 (Lak5m00_9 p0 p1 p2 p3 p4 b4) [(.int ((vk5m00_61 p1).toInt8.toInt32)), (.int (4 : Int32)), (.ref b4)])) X8 (fun t k => XT.i2b X8.here hx rfl (hb hby at_204) rfl k) ?_
  obtain ⟨T9, h9, L9, X9, e9, N9, K9, A9, st9⟩ := own_stB X8 hx hZ e8 N8 (G := (Gk5m00_192 p0)) B8 g_b4 (j := (4 : Int32)) (x := ((vk5m00_61 p1).toInt8.toInt32)) (by decide) (g := (mkF m 205 (Lak5m00_9 p0 p1 p2 p3 p4 b4) [(.int ((vk5m00_61 p1).toInt8.toInt32)), (.int (4 : Int32)), (.ref b4)])) rfl rfl (hb hby at_205)
  have B9 : Ary Z h9 b4 .byte 5 (fun i => .int ((Gk5m00_205 p0 p1) i)) := A9
  have Z9 := Nat.le_trans Z8 K9.1
  refine OwnFin.step (g' := (mkF m 206 (Lak5m00_9 p0 p1 p2 p3 p4 b4) [])) X9 (fun t k => st9 _ k) ?_
  refine OwnFin.step (g' := (mkF m 208 (Lak5m00_9 p0 p1 p2 p3 p4 b4) [(.int (0 : Int32))])) X9 (fun t k => XS.iload X9.here hx rfl (hb hby at_206) rfl k) ?_
  refine OwnFin.step (g' := (mkF m 219 (Lak5m00_9 p0 p1 p2 p3 p4 b4) [])) X9 (fun t k => XS.ifYes X9.here hx rfl (pc0 := 208) (pc' := 219) rfl (hb hby at_208) rfl ((if0 _ _).trans (teq (show (0 : Int32) = (0 : Int32) by first | rfl | decide)).1) (by decide) (by decide) k) ?_
  refine OwnFin.step (g' := (mkF m 221 (Lak5m00_9 p0 p1 p2 p3 p4 b4) [(.int (vk5m00_28 p0))])) X9 (fun t k => XS.iload X9.here hx rfl (hb hby at_219) rfl k) ?_
  refine OwnFin.step (g' := (mkF m 222 (Lak5m00_9 p0 p1 p2 p3 p4 b4) [(.long ((vk5m00_28 p0).toInt64))])) X9 (fun t k => XT.i2l X9.here hx rfl (hb hby at_221) rfl k) ?_
  refine OwnFin.step (g' := (mkF m 224 (Lak5m00_10 p0 p1 p2 p3 p4 b4) [])) X9 (fun t k => XT.lstore X9.here hx rfl (hb hby at_222) rfl (l' := (Lak5m00_10 p0 p1 p2 p3 p4 b4)) rfl k) ?_
  refine OwnFin.step (g' := (mkF m 226 (Lak5m00_10 p0 p1 p2 p3 p4 b4) [(.int (5 : Int32))])) X9 (fun t k => XS.iload X9.here hx rfl (hb hby at_224) rfl k) ?_
  refine OwnFin.step (g' := (mkF m 227 (Lak5m00_10 p0 p1 p2 p3 p4 b4) [(.int (1 : Int32)), (.int (5 : Int32))])) X9 (fun t k => XS.iconst X9.here hx rfl (hb hby at_226) k) ?_
  refine OwnFin.step (g' := (mkF m 230 (Lak5m00_10 p0 p1 p2 p3 p4 b4) [])) X9 (fun t k => XS.icmpNo X9.here hx rfl (hb hby at_227) rfl (tlt (show (1 : Int32) < (5 : Int32) by first | rfl | decide)).2.2.2 k) ?_
  refine OwnFin.step (g' := (mkF m 232 (Lak5m00_10 p0 p1 p2 p3 p4 b4) [(.long (vk5m00_222 p0))])) X9 (fun t k => XT.lload X9.here hx rfl (hb hby at_230) rfl k) ?_
  refine OwnFin.step (g' := (mkF m 234 (Lak5m00_10 p0 p1 p2 p3 p4 b4) [(.int (vk5m00_37 p0)), (.long (vk5m00_222 p0))])) X9 (fun t k => XS.iload X9.here hx rfl (hb hby at_232) rfl k) ?_
  refine OwnFin.step (g' := (mkF m 235 (Lak5m00_10 p0 p1 p2 p3 p4 b4) [(.long ((vk5m00_37 p0).toInt64)), (.long (vk5m00_222 p0))])) X9 (fun t k => XT.i2l X9.here hx rfl (hb hby at_234) rfl k) ?_
  refine OwnFin.step (g' := (mkF m 238 (Lak5m00_10 p0 p1 p2 p3 p4 b4) [(.long (128 : Int64)), (.long ((vk5m00_37 p0).toInt64)), (.long (vk5m00_222 p0))])) X9 (fun t k => X9.ldc2Long hx hown (mvT hZ (hw _ (wm 2 rfl))) (g := (mkF m 235 (Lak5m00_10 p0 p1 p2 p3 p4 b4) [(.long ((vk5m00_37 p0).toInt64)), (.long (vk5m00_222 p0))])) rfl (hb hby at_235) _ k) ?_
  refine OwnFin.step (g' := (mkF m 239 (Lak5m00_10 p0 p1 p2 p3 p4 b4) [(.long (((vk5m00_37 p0).toInt64) * (128 : Int64))), (.long (vk5m00_222 p0))])) X9 (fun t k => XT.lmul X9.here hx rfl (hb hby at_238) rfl k) ?_
  refine OwnFin.step (g' := (mkF m 240 (Lak5m00_10 p0 p1 p2 p3 p4 b4) [(.long ((vk5m00_222 p0) + (((vk5m00_37 p0).toInt64) * (128 : Int64))))])) X9 (fun t k => XT.ladd X9.here hx rfl (hb hby at_239) rfl k) ?_
  refine OwnFin.step (g' := (mkF m 242 (Lak5m00_11 p0 p1 p2 p3 p4 b4) [])) X9 (fun t k => XT.lstore X9.here hx rfl (hb hby at_240) rfl (l' := (Lak5m00_11 p0 p1 p2 p3 p4 b4)) rfl k) ?_
  refine OwnFin.step (g' := (mkF m 244 (Lak5m00_11 p0 p1 p2 p3 p4 b4) [(.int (5 : Int32))])) X9 (fun t k => XS.iload X9.here hx rfl (hb hby at_242) rfl k) ?_
  refine OwnFin.step (g' := (mkF m 245 (Lak5m00_11 p0 p1 p2 p3 p4 b4) [(.int (2 : Int32)), (.int (5 : Int32))])) X9 (fun t k => XS.iconst X9.here hx rfl (hb hby at_244) k) ?_
  refine OwnFin.step (g' := (mkF m 248 (Lak5m00_11 p0 p1 p2 p3 p4 b4) [])) X9 (fun t k => XS.icmpNo X9.here hx rfl (hb hby at_245) rfl (tlt (show (2 : Int32) < (5 : Int32) by first | rfl | decide)).2.2.2 k) ?_
  refine OwnFin.step (g' := (mkF m 250 (Lak5m00_11 p0 p1 p2 p3 p4 b4) [(.long (vk5m00_240 p0))])) X9 (fun t k => XT.lload X9.here hx rfl (hb hby at_248) rfl k) ?_
  refine OwnFin.step (g' := (mkF m 252 (Lak5m00_11 p0 p1 p2 p3 p4 b4) [(.int (vk5m00_46 p0)), (.long (vk5m00_240 p0))])) X9 (fun t k => XS.iload X9.here hx rfl (hb hby at_250) rfl k) ?_
  refine OwnFin.step (g' := (mkF m 253 (Lak5m00_11 p0 p1 p2 p3 p4 b4) [(.long ((vk5m00_46 p0).toInt64)), (.long (vk5m00_240 p0))])) X9 (fun t k => XT.i2l X9.here hx rfl (hb hby at_252) rfl k) ?_
  refine OwnFin.step (g' := (mkF m 256 (Lak5m00_11 p0 p1 p2 p3 p4 b4) [(.long (16384 : Int64)), (.long ((vk5m00_46 p0).toInt64)), (.long (vk5m00_240 p0))])) X9 (fun t k => X9.ldc2Long hx hown (mvT hZ (hw _ (wm 3 rfl))) (g := (mkF m 253 (Lak5m00_11 p0 p1 p2 p3 p4 b4) [(.long ((vk5m00_46 p0).toInt64)), (.long (vk5m00_240 p0))])) rfl (hb hby at_253) _ k) ?_
  refine OwnFin.step (g' := (mkF m 257 (Lak5m00_11 p0 p1 p2 p3 p4 b4) [(.long (((vk5m00_46 p0).toInt64) * (16384 : Int64))), (.long (vk5m00_240 p0))])) X9 (fun t k => XT.lmul X9.here hx rfl (hb hby at_256) rfl k) ?_
  refine OwnFin.step (g' := (mkF m 258 (Lak5m00_11 p0 p1 p2 p3 p4 b4) [(.long ((vk5m00_240 p0) + (((vk5m00_46 p0).toInt64) * (16384 : Int64))))])) X9 (fun t k => XT.ladd X9.here hx rfl (hb hby at_257) rfl k) ?_
  refine OwnFin.step (g' := (mkF m 260 (Lak5m00_12 p0 p1 p2 p3 p4 b4) [])) X9 (fun t k => XT.lstore X9.here hx rfl (hb hby at_258) rfl (l' := (Lak5m00_12 p0 p1 p2 p3 p4 b4)) rfl k) ?_
  refine OwnFin.step (g' := (mkF m 262 (Lak5m00_12 p0 p1 p2 p3 p4 b4) [(.int (5 : Int32))])) X9 (fun t k => XS.iload X9.here hx rfl (hb hby at_260) rfl k) ?_
  refine OwnFin.step (g' := (mkF m 263 (Lak5m00_12 p0 p1 p2 p3 p4 b4) [(.int (3 : Int32)), (.int (5 : Int32))])) X9 (fun t k => XS.iconst X9.here hx rfl (hb hby at_262) k) ?_
  refine OwnFin.step (g' := (mkF m 266 (Lak5m00_12 p0 p1 p2 p3 p4 b4) [])) X9 (fun t k => XS.icmpNo X9.here hx rfl (hb hby at_263) rfl (tlt (show (3 : Int32) < (5 : Int32) by first | rfl | decide)).2.2.2 k) ?_
  refine OwnFin.step (g' := (mkF m 268 (Lak5m00_12 p0 p1 p2 p3 p4 b4) [(.long (vk5m00_258 p0))])) X9 (fun t k => XT.lload X9.here hx rfl (hb hby at_266) rfl k) ?_
  refine OwnFin.step (g' := (mkF m 270 (Lak5m00_12 p0 p1 p2 p3 p4 b4) [(.int (vk5m00_55 p0)), (.long (vk5m00_258 p0))])) X9 (fun t k => XS.iload X9.here hx rfl (hb hby at_268) rfl k) ?_
  refine OwnFin.step (g' := (mkF m 271 (Lak5m00_12 p0 p1 p2 p3 p4 b4) [(.long ((vk5m00_55 p0).toInt64)), (.long (vk5m00_258 p0))])) X9 (fun t k => XT.i2l X9.here hx rfl (hb hby at_270) rfl k) ?_
  refine OwnFin.step (g' := (mkF m 274 (Lak5m00_12 p0 p1 p2 p3 p4 b4) [(.long (2097152 : Int64)), (.long ((vk5m00_55 p0).toInt64)), (.long (vk5m00_258 p0))])) X9 (fun t k => X9.ldc2Long hx hown (mvT hZ (hw _ (wm 27 rfl))) (g := (mkF m 271 (Lak5m00_12 p0 p1 p2 p3 p4 b4) [(.long ((vk5m00_55 p0).toInt64)), (.long (vk5m00_258 p0))])) rfl (hb hby at_271) _ k) ?_
  refine OwnFin.step (g' := (mkF m 275 (Lak5m00_12 p0 p1 p2 p3 p4 b4) [(.long (((vk5m00_55 p0).toInt64) * (2097152 : Int64))), (.long (vk5m00_258 p0))])) X9 (fun t k => XT.lmul X9.here hx rfl (hb hby at_274) rfl k) ?_
  refine OwnFin.step (g' := (mkF m 276 (Lak5m00_12 p0 p1 p2 p3 p4 b4) [(.long ((vk5m00_258 p0) + (((vk5m00_55 p0).toInt64) * (2097152 : Int64))))])) X9 (fun t k => XT.ladd X9.here hx rfl (hb hby at_275) rfl k) ?_
  refine OwnFin.step (g' := (mkF m 278 (Lak5m00_13 p0 p1 p2 p3 p4 b4) [])) X9 (fun t k => XT.lstore X9.here hx rfl (hb hby at_276) rfl (l' := (Lak5m00_13 p0 p1 p2 p3 p4 b4)) rfl k) ?_
  refine OwnFin.step (g' := (mkF m 280 (Lak5m00_13 p0 p1 p2 p3 p4 b4) [(.int (5 : Int32))])) X9 (fun t k => XS.iload X9.here hx rfl (hb hby at_278) rfl k) ?_
  refine OwnFin.step (g' := (mkF m 281 (Lak5m00_13 p0 p1 p2 p3 p4 b4) [(.int (4 : Int32)), (.int (5 : Int32))])) X9 (fun t k => XS.iconst X9.here hx rfl (hb hby at_280) k) ?_
  refine OwnFin.step (g' := (mkF m 284 (Lak5m00_13 p0 p1 p2 p3 p4 b4) [])) X9 (fun t k => XS.icmpNo X9.here hx rfl (hb hby at_281) rfl (tlt (show (4 : Int32) < (5 : Int32) by first | rfl | decide)).2.2.2 k) ?_
  refine OwnFin.step (g' := (mkF m 286 (Lak5m00_13 p0 p1 p2 p3 p4 b4) [(.long (vk5m00_276 p0))])) X9 (fun t k => XT.lload X9.here hx rfl (hb hby at_284) rfl k) ?_
  refine OwnFin.step (g' := (mkF m 288 (Lak5m00_13 p0 p1 p2 p3 p4 b4) [(.int (vk5m00_61 p1)), (.long (vk5m00_276 p0))])) X9 (fun t k => XS.iload X9.here hx rfl (hb hby at_286) rfl k) ?_
  refine OwnFin.step (g' := (mkF m 289 (Lak5m00_13 p0 p1 p2 p3 p4 b4) [(.long ((vk5m00_61 p1).toInt64)), (.long (vk5m00_276 p0))])) X9 (fun t k => XT.i2l X9.here hx rfl (hb hby at_288) rfl k) ?_
  refine OwnFin.step (g' := (mkF m 292 (Lak5m00_13 p0 p1 p2 p3 p4 b4) [(.long (268435456 : Int64)), (.long ((vk5m00_61 p1).toInt64)), (.long (vk5m00_276 p0))])) X9 (fun t k => X9.ldc2Long hx hown (mvT hZ (hw _ (wm 28 rfl))) (g := (mkF m 289 (Lak5m00_13 p0 p1 p2 p3 p4 b4) [(.long ((vk5m00_61 p1).toInt64)), (.long (vk5m00_276 p0))])) rfl (hb hby at_289) _ k) ?_
  refine OwnFin.step (g' := (mkF m 293 (Lak5m00_13 p0 p1 p2 p3 p4 b4) [(.long (((vk5m00_61 p1).toInt64) * (268435456 : Int64))), (.long (vk5m00_276 p0))])) X9 (fun t k => XT.lmul X9.here hx rfl (hb hby at_292) rfl k) ?_
  refine OwnFin.step (g' := (mkF m 294 (Lak5m00_13 p0 p1 p2 p3 p4 b4) [(.long ((vk5m00_276 p0) + (((vk5m00_61 p1).toInt64) * (268435456 : Int64))))])) X9 (fun t k => XT.ladd X9.here hx rfl (hb hby at_293) rfl k) ?_
  refine OwnFin.step (g' := (mkF m 296 (Lak5m00_14 p0 p1 p2 p3 p4 b4) [])) X9 (fun t k => XT.lstore X9.here hx rfl (hb hby at_294) rfl (l' := (Lak5m00_14 p0 p1 p2 p3 p4 b4)) rfl k) ?_
  obtain ⟨T10, h10, X10, e10, E10, A10, D10, -, st10⟩ := newO X9 hx hZ hown (hw _ (wm 4 rfl)) (hw _ (wm 5 rfl)) (hw _ (wm 6 rfl)) e9 (g := (mkF m 296 (Lak5m00_14 p0 p1 p2 p3 p4 b4) [])) rfl (hb hby at_296) (by decide) (by decide)
  obtain ⟨b10, y10⟩ : ∃ z, z = h9.size := ⟨_, rfl⟩
  rw [← y10] at A10 D10 st10
  have K10 := keep_ext E10
  have ne_b4_b10 : b4 ≠ b10 := Ary.neS B9 y10
  have g_b10 : n0 ≤ b10 := by rw [y10]; exact Z9
  have Z10 := Nat.le_trans Z9 K10.1
  have F10_record : Fld Z h10 b10 "com/example/faden/faden/rank/RecordReader" "record" "[B" .null := D10 (Or.inr (hw _ (wm 14 rfl))) (ty := (.array .byte)) (by decide)
  have F10_at : Fld Z h10 b10 "com/example/faden/faden/rank/RecordReader" "at" "I" (.int (0 : Int32)) := D10 (Or.inl (hw _ (wm 21 rfl))) (ty := .int) (by decide)
  refine OwnFin.step (g' := (mkF m 299 (Lak5m00_14 p0 p1 p2 p3 p4 b4) [(.ref b10)])) X10 (fun t k => st10 _ k) ?_
  refine OwnFin.step (g' := (mkF m 300 (Lak5m00_14 p0 p1 p2 p3 p4 b4) [(.ref b10), (.ref b10)])) X10 (fun t k => XS.dup X10.here hx rfl (hb hby at_299) rfl rfl k) ?_
  refine OwnFin.step (g' := (mkF m 302 (Lak5m00_14 p0 p1 p2 p3 p4 b4) [(.ref b4), (.ref b10), (.ref b10)])) X10 (fun t k => XS.aload X10.here hx rfl (hb hby at_300) rfl rfl k) ?_
  obtain ⟨_, T11, L11, X11, ⟨rfl, N11q, u12, u13, u14, u15⟩, st11⟩ := own_callI X10 hx hZ (y := (⟨"com/example/faden/faden/rank/RecordReader", "<init>", "([B)V"⟩ : MethodName)) (W := 1) (a := b10) (argsL := [(.ref b4)]) (rest := [(.ref b10)]) rfl hown (hw _ (wm 7 rfl)) (hw _ (wm 8 rfl)) (hw _ (wm 6 rfl)) (hw _ (wm 9 rfl)) (by decide) (rm1 l Z a0 hw [] b10 b4 h10 n0 Z10 A10 g_b10 F10_record F10_at) (by decide) (by decide) (by decide) (by decide) e10 (g := (mkF m 302 (Lak5m00_14 p0 p1 p2 p3 p4 b4) [(.ref b4), (.ref b10), (.ref b10)])) rfl (by rw [hml]; rfl) pd_0 rfl rfl (by show 2 * 0 + _ ≤ _; exact Nat.le_of_eq rfl) (hb hby at_302)
  have N11 := Fr.app N9 N11q
  obtain ⟨h11, e11⟩ : ∃ z, T11.heap = z := ⟨_, rfl⟩
  rw [e11] at u12 u13 u14 u15
  have K11 := u12
  have Z11 := Nat.le_trans Z10 K11.1
  refine OwnFin.step (g' := (mkF m 305 (Lak5m00_14 p0 p1 p2 p3 p4 b4) [(.ref b10)])) X11 (fun t k => st11 _ k) ?_
  refine OwnFin.step (g' := (mkF m 307 (Lak5m00_15 p0 p1 p2 p3 p4 b4 b10) [])) X11 (fun t k => XS.astore X11.here hx rfl (hb hby at_305) rfl rfl (l' := (Lak5m00_15 p0 p1 p2 p3 p4 b4 b10)) rfl k) ?_
  refine OwnFin.step (g' := (mkF m 309 (Lak5m00_15 p0 p1 p2 p3 p4 b4 b10) [(.ref b10)])) X11 (fun t k => XS.aload X11.here hx rfl (hb hby at_307) rfl rfl k) ?_
  have A17 := ((B9.keep K10 nin0).keep K11 (ninS ne_b4_b10 nin0))
  obtain ⟨_, T16, L16, X16, ⟨rfl, N16q, u18, u19, u20, u21⟩, st16⟩ := own_callV X11 hx hZ (y := (⟨"com/example/faden/faden/rank/RecordReader", "number", "()I"⟩ : MethodName)) (W := 0) (a := b10) (argsL := []) (rest := []) hown (hw _ (wm 15 rfl)) (hw _ (wm 16 rfl)) (hw _ (wm 18 rfl)) (hw _ (wm 17 rfl)) (hw _ (wm 6 rfl)) (hw _ (wm 19 rfl)) (by decide) u13 (rm3a0k5 l Z a0 hw [] b10 5 (Gk5m00_205 p0 p1) b4 h11 n0 Z11 u13 g_b10 u14 u15 A17 (Ne.symm ne_b4_b10) (exhlnk5m00_309 p2 p4 hk hm) (exhb0k5m00_309 p0 p1 p2 p4 hk hm) (exhb1k5m00_309 p0 p1 p2 p4 hk hm) (exhb2k5m00_309 p0 p1 p2 p4 hk hm) (exhb3k5m00_309 p0 p1 p2 p4 hk hm) (exhb4k5m00_309 p0 p1 p2 p4 hk hm)) (by decide) (by decide) (by decide) (by decide) e11 (g := (mkF m 309 (Lak5m00_15 p0 p1 p2 p3 p4 b4 b10) [(.ref b10)])) rfl (by rw [hml]; rfl) pd_1 rfl rfl (by show 2 * 0 + _ ≤ _; exact Nat.le_of_eq rfl) (hb hby at_309)
  have N16 := Fr.app N11 N16q
  obtain ⟨h16, e16⟩ : ∃ z, T16.heap = z := ⟨_, rfl⟩
  rw [e16] at u18 u19 u20 u21
  have K16 := u18
  have Z16 := Nat.le_trans Z11 K16.1
  refine OwnFin.step (g' := (mkF m 312 (Lak5m00_15 p0 p1 p2 p3 p4 b4 b10) [(.int (va0k53_77bbbb (Gk5m00_205 p0 p1)))])) X16 (fun t k => st16 _ k) ?_
  refine OwnFin.step (g' := (mkF m 314 (Lak5m00_16 p0 p1 p2 p3 p4 b4 b10) [])) X16 (fun t k => XS.istore X16.here hx rfl (hb hby at_312) rfl (l' := (Lak5m00_16 p0 p1 p2 p3 p4 b4 b10)) rfl k) ?_
  refine OwnFin.step (g' := (mkF m 316 (Lak5m00_16 p0 p1 p2 p3 p4 b4 b10) [(.int (vk5m00_312 p0 p1))])) X16 (fun t k => XS.iload X16.here hx rfl (hb hby at_314) rfl k) ?_
  refine OwnFin.step (g' := (mkF m 317 (Lak5m00_16 p0 p1 p2 p3 p4 b4 b10) [(.long ((vk5m00_312 p0 p1).toInt64))])) X16 (fun t k => XT.i2l X16.here hx rfl (hb hby at_316) rfl k) ?_
  refine OwnFin.step (g' := (mkF m 319 (Lak5m00_16 p0 p1 p2 p3 p4 b4 b10) [(.long (vk5m00_294 p0 p1)), (.long ((vk5m00_312 p0 p1).toInt64))])) X16 (fun t k => XT.lload X16.here hx rfl (hb hby at_317) rfl k) ?_
  refine OwnFin.step (g' := (mkF m 320 (Lak5m00_16 p0 p1 p2 p3 p4 b4 b10) [(.int (XT.cmpL ((vk5m00_312 p0 p1).toInt64) (vk5m00_294 p0 p1)))])) X16 (fun t k => XT.lcmp X16.here hx rfl (hb hby at_319) rfl k) ?_
  refine OwnFin.step (g' := (mkF m 325 (Lak5m00_16 p0 p1 p2 p3 p4 b4 b10) [])) X16 (fun t k => XS.ifYes X16.here hx rfl (pc0 := 320) (pc' := 325) rfl (hb hby at_320) rfl ((if0 _ _).trans (teq ((cl_eq _ _).mpr (brk5m00_320 p0 p1 p2 p4 hk hm))).1) (by decide) (by decide) k) ?_
  refine OwnFin.step (g' := (mkF m 327 (Lak5m00_16 p0 p1 p2 p3 p4 b4 b10) [(.int (0 : Int32))])) X16 (fun t k => XS.iload X16.here hx rfl (hb hby at_325) rfl k) ?_
  refine OwnFin.step (g' := (mkF m 330 (Lak5m00_16 p0 p1 p2 p3 p4 b4 b10) [])) X16 (fun t k => XS.ifNo X16.here hx rfl (hb hby at_327) rfl ((if0 _ _).trans (teq (show (0 : Int32) = (0 : Int32) by first | rfl | decide)).2) k) ?_
  refine OwnFin.step (g' := (mkF m 332 (Lak5m00_16 p0 p1 p2 p3 p4 b4 b10) [(.ref b10)])) X16 (fun t k => XS.aload X16.here hx rfl (hb hby at_330) rfl rfl k) ?_
  have A23 := (A17.keep K16 (ninS ne_b4_b10 nin0))
  obtain ⟨_, T22, L22, X22, ⟨rfl, N22q, u24⟩, st22⟩ := own_callV X16 hx hZ (y := (⟨"com/example/faden/faden/rank/RecordReader", "atEnd", "()Z"⟩ : MethodName)) (W := 0) (a := b10) (argsL := []) (rest := []) hown (hw _ (wm 22 rfl)) (hw _ (wm 23 rfl)) (hw _ (wm 25 rfl)) (hw _ (wm 24 rfl)) (hw _ (wm 6 rfl)) (hw _ (wm 26 rfl)) (by decide) u19 (rm4 l Z a0 hw [] b10 5 (Gk5m00_205 p0 p1) b4 (5 : Int32) h16 n0 Z16 u19 g_b10 u20 u21 A23 (Ne.symm ne_b4_b10)) (by decide) (by decide) (by decide) (by decide) e16 (g := (mkF m 332 (Lak5m00_16 p0 p1 p2 p3 p4 b4 b10) [(.ref b10)])) rfl (by rw [hml]; rfl) pd_2 rfl rfl (by show 2 * 0 + _ ≤ _; exact Nat.le_of_eq rfl) (hb hby at_332)
  have N22 := Fr.app N16 N22q
  obtain ⟨h22, e22⟩ : ∃ z, T22.heap = z := ⟨_, rfl⟩
  rw [e22] at u24
  have K22 := u24
  have Z22 := Nat.le_trans Z16 K22.1
  rw [show (nar .boolean (v4_17 (5 : Int32) 5)) = (1 : Int32) from by decide] at st22
  refine OwnFin.step (g' := (mkF m 335 (Lak5m00_16 p0 p1 p2 p3 p4 b4 b10) [(.int (1 : Int32))])) X22 (fun t k => st22 _ k) ?_
  refine OwnFin.retNar X22 (by simp) (hb hby at_335) (by decide) (by decide) ?_
  exact ⟨rfl, N22⟩
set_option maxRecDepth 65536 in
set_option maxHeartbeats 40000000 in
theorem rm0k5m0 (l : Launch) (Z : State) (a0 : Array Value) (hw : ∀ d ∈ tables_1, d.before a0 Z = true) (ws : List Jvm.Cond) (p0 : Int32) (p1 : Int32) (p2 : Int32) (p3 : Int32) (p4 : Int32) (h0 : Heap) (n0 : Nat) (Z0 : n0 ≤ h0.size) (hk : vk5m00_8 p2 = (5 : Int32)) (hm : vk5m00_22 p4 = (0 : Int32)) :
    MetFree l x (head1 (Jvm.Cond.code x code maxLocals ret :: ws) room_1) (fun a U => a = #[(.int p0), (.int p1), (.int p2), (.int p3), (.int p4)] ∧ Z.Warmed39 U.vm ∧ U.heap = h0) (fun _ _ _ _ _ => True) (fun _ U o U' => ∃ v L, o = .returned v ∧ (LQ n0) v U'.heap L ∧ FrameEnd U o U' L room_1.cells room_1.slots) :=
  own_met (ret := ret) (Q := (LQ n0)) (plainFor_of_name pn_0) (fun m => ef_0 m p0 p1 p2 p3 p4) (fun p e s m below meth c s₁ X hx hby hml hown hnm hZ e0 => j0k5m0 X hx hZ hw hby hml hown hnm e0 (Fr.nil n0) Z0 p0 p1 p2 p3 p4 hk hm)
def vk5m10_8 (p2 : Int32) : Int32 := (((p2 &&& (2147483647 : Int32)) % (5 : Int32)) + (1 : Int32))
def vk5m10_22 (p4 : Int32) : Int32 := (if (p4 &&& (1 : Int32)) = (0 : Int32) then (0 : Int32) else (1 : Int32))
def vk5m10_28 (p0 : Int32) : Int32 := (p0 &&& (127 : Int32))
def vk5m10_37 (p0 : Int32) : Int32 := ((XT.ushr p0 (8 : Int32)) &&& (127 : Int32))
def vk5m10_46 (p0 : Int32) : Int32 := ((XT.ushr p0 (16 : Int32)) &&& (127 : Int32))
def vk5m10_55 (p0 : Int32) : Int32 := ((XT.ushr p0 (24 : Int32)) &&& (127 : Int32))
def vk5m10_61 (p1 : Int32) : Int32 := (p1 &&& (7 : Int32))
def vk5m10_67 (p3 : Int32) : Int32 := (p3 &&& (127 : Int32))
def Gk5m10_108 (p0 : Int32) : Nat → Int32 := (updN (fun _ => (0 : Int32)) ((0 : Int32)).toNatClampNeg (nar .byte (((vk5m10_28 p0) ||| (128 : Int32)).toInt8.toInt32)))
def Gk5m10_136 (p0 : Int32) : Nat → Int32 := (updN (Gk5m10_108 p0) ((1 : Int32)).toNatClampNeg (nar .byte (((vk5m10_37 p0) ||| (128 : Int32)).toInt8.toInt32)))
def Gk5m10_164 (p0 : Int32) : Nat → Int32 := (updN (Gk5m10_136 p0) ((2 : Int32)).toNatClampNeg (nar .byte (((vk5m10_46 p0) ||| (128 : Int32)).toInt8.toInt32)))
def Gk5m10_192 (p0 : Int32) : Nat → Int32 := (updN (Gk5m10_164 p0) ((3 : Int32)).toNatClampNeg (nar .byte (((vk5m10_55 p0) ||| (128 : Int32)).toInt8.toInt32)))
def Gk5m10_205 (p0 : Int32) (p1 : Int32) : Nat → Int32 := (updN (Gk5m10_192 p0) ((4 : Int32)).toNatClampNeg (nar .byte ((vk5m10_61 p1).toInt8.toInt32)))
def Gk5m10_218 (p0 : Int32) (p1 : Int32) (p3 : Int32) : Nat → Int32 := (updN (Gk5m10_205 p0 p1) ((5 : Int32)).toNatClampNeg (nar .byte ((vk5m10_67 p3).toInt8.toInt32)))
def vk5m10_222 (p0 : Int32) : Int64 := ((vk5m10_28 p0).toInt64)
def vk5m10_240 (p0 : Int32) : Int64 := ((vk5m10_222 p0) + (((vk5m10_37 p0).toInt64) * (128 : Int64)))
def vk5m10_258 (p0 : Int32) : Int64 := ((vk5m10_240 p0) + (((vk5m10_46 p0).toInt64) * (16384 : Int64)))
def vk5m10_276 (p0 : Int32) : Int64 := ((vk5m10_258 p0) + (((vk5m10_55 p0).toInt64) * (2097152 : Int64)))
def vk5m10_294 (p0 : Int32) (p1 : Int32) : Int64 := ((vk5m10_276 p0) + (((vk5m10_61 p1).toInt64) * (268435456 : Int64)))
def vk5m10_312 (p0 : Int32) (p1 : Int32) (p3 : Int32) : Int32 := (va0k53_77bbbb (Gk5m10_218 p0 p1 p3))
def vk5m10_351 (p0 : Int32) (p1 : Int32) (p3 : Int32) : Int32 := (va5k13_77 (Gk5m10_218 p0 p1 p3))
theorem exhlnk5m10_309 (p2 : Int32) (p4 : Int32) (hk : vk5m10_8 p2 = (5 : Int32)) (hm : vk5m10_22 p4 = (1 : Int32)) : 5 ≤ 6 ∧ 6 < 100 := by decide
theorem exhb0k5m10_309 (p0 : Int32) (p1 : Int32) (p3 : Int32) (p2 : Int32) (p4 : Int32) (hk : vk5m10_8 p2 = (5 : Int32)) (hm : vk5m10_22 p4 = (1 : Int32)) : 128 ≤ (((Gk5m10_218 p0 p1 p3) 0) &&& 255).toInt := by
  have b0 : 0 ≤ (vk5m10_28 p0).toInt ∧ (vk5m10_28 p0).toInt < 128 := own_b127 _
  have h0 : (((Gk5m10_218 p0 p1 p3) 0) &&& 255).toInt = (vk5m10_28 p0).toInt + 128 := own_hi b0
  have b1 : 0 ≤ (vk5m10_37 p0).toInt ∧ (vk5m10_37 p0).toInt < 128 := own_b127 _
  have h1 : (((Gk5m10_218 p0 p1 p3) 1) &&& 255).toInt = (vk5m10_37 p0).toInt + 128 := own_hi b1
  have b2 : 0 ≤ (vk5m10_46 p0).toInt ∧ (vk5m10_46 p0).toInt < 128 := own_b127 _
  have h2 : (((Gk5m10_218 p0 p1 p3) 2) &&& 255).toInt = (vk5m10_46 p0).toInt + 128 := own_hi b2
  have b3 : 0 ≤ (vk5m10_55 p0).toInt ∧ (vk5m10_55 p0).toInt < 128 := own_b127 _
  have h3 : (((Gk5m10_218 p0 p1 p3) 3) &&& 255).toInt = (vk5m10_55 p0).toInt + 128 := own_hi b3
  have b4 : 0 ≤ (vk5m10_61 p1).toInt ∧ (vk5m10_61 p1).toInt < 8 := own_b7 _
  have h4 : (((Gk5m10_218 p0 p1 p3) 4) &&& 255).toInt = (vk5m10_61 p1).toInt := own_lo ⟨b4.1, Int.lt_of_lt_of_le b4.2 (by decide)⟩
  omega
theorem exhb1k5m10_309 (p0 : Int32) (p1 : Int32) (p3 : Int32) (p2 : Int32) (p4 : Int32) (hk : vk5m10_8 p2 = (5 : Int32)) (hm : vk5m10_22 p4 = (1 : Int32)) : 128 ≤ (((Gk5m10_218 p0 p1 p3) 1) &&& 255).toInt := by
  have b0 : 0 ≤ (vk5m10_28 p0).toInt ∧ (vk5m10_28 p0).toInt < 128 := own_b127 _
  have h0 : (((Gk5m10_218 p0 p1 p3) 0) &&& 255).toInt = (vk5m10_28 p0).toInt + 128 := own_hi b0
  have b1 : 0 ≤ (vk5m10_37 p0).toInt ∧ (vk5m10_37 p0).toInt < 128 := own_b127 _
  have h1 : (((Gk5m10_218 p0 p1 p3) 1) &&& 255).toInt = (vk5m10_37 p0).toInt + 128 := own_hi b1
  have b2 : 0 ≤ (vk5m10_46 p0).toInt ∧ (vk5m10_46 p0).toInt < 128 := own_b127 _
  have h2 : (((Gk5m10_218 p0 p1 p3) 2) &&& 255).toInt = (vk5m10_46 p0).toInt + 128 := own_hi b2
  have b3 : 0 ≤ (vk5m10_55 p0).toInt ∧ (vk5m10_55 p0).toInt < 128 := own_b127 _
  have h3 : (((Gk5m10_218 p0 p1 p3) 3) &&& 255).toInt = (vk5m10_55 p0).toInt + 128 := own_hi b3
  have b4 : 0 ≤ (vk5m10_61 p1).toInt ∧ (vk5m10_61 p1).toInt < 8 := own_b7 _
  have h4 : (((Gk5m10_218 p0 p1 p3) 4) &&& 255).toInt = (vk5m10_61 p1).toInt := own_lo ⟨b4.1, Int.lt_of_lt_of_le b4.2 (by decide)⟩
  omega
theorem exhb2k5m10_309 (p0 : Int32) (p1 : Int32) (p3 : Int32) (p2 : Int32) (p4 : Int32) (hk : vk5m10_8 p2 = (5 : Int32)) (hm : vk5m10_22 p4 = (1 : Int32)) : 128 ≤ (((Gk5m10_218 p0 p1 p3) 2) &&& 255).toInt := by
  have b0 : 0 ≤ (vk5m10_28 p0).toInt ∧ (vk5m10_28 p0).toInt < 128 := own_b127 _
  have h0 : (((Gk5m10_218 p0 p1 p3) 0) &&& 255).toInt = (vk5m10_28 p0).toInt + 128 := own_hi b0
  have b1 : 0 ≤ (vk5m10_37 p0).toInt ∧ (vk5m10_37 p0).toInt < 128 := own_b127 _
  have h1 : (((Gk5m10_218 p0 p1 p3) 1) &&& 255).toInt = (vk5m10_37 p0).toInt + 128 := own_hi b1
  have b2 : 0 ≤ (vk5m10_46 p0).toInt ∧ (vk5m10_46 p0).toInt < 128 := own_b127 _
  have h2 : (((Gk5m10_218 p0 p1 p3) 2) &&& 255).toInt = (vk5m10_46 p0).toInt + 128 := own_hi b2
  have b3 : 0 ≤ (vk5m10_55 p0).toInt ∧ (vk5m10_55 p0).toInt < 128 := own_b127 _
  have h3 : (((Gk5m10_218 p0 p1 p3) 3) &&& 255).toInt = (vk5m10_55 p0).toInt + 128 := own_hi b3
  have b4 : 0 ≤ (vk5m10_61 p1).toInt ∧ (vk5m10_61 p1).toInt < 8 := own_b7 _
  have h4 : (((Gk5m10_218 p0 p1 p3) 4) &&& 255).toInt = (vk5m10_61 p1).toInt := own_lo ⟨b4.1, Int.lt_of_lt_of_le b4.2 (by decide)⟩
  omega
theorem exhb3k5m10_309 (p0 : Int32) (p1 : Int32) (p3 : Int32) (p2 : Int32) (p4 : Int32) (hk : vk5m10_8 p2 = (5 : Int32)) (hm : vk5m10_22 p4 = (1 : Int32)) : 128 ≤ (((Gk5m10_218 p0 p1 p3) 3) &&& 255).toInt := by
  have b0 : 0 ≤ (vk5m10_28 p0).toInt ∧ (vk5m10_28 p0).toInt < 128 := own_b127 _
  have h0 : (((Gk5m10_218 p0 p1 p3) 0) &&& 255).toInt = (vk5m10_28 p0).toInt + 128 := own_hi b0
  have b1 : 0 ≤ (vk5m10_37 p0).toInt ∧ (vk5m10_37 p0).toInt < 128 := own_b127 _
  have h1 : (((Gk5m10_218 p0 p1 p3) 1) &&& 255).toInt = (vk5m10_37 p0).toInt + 128 := own_hi b1
  have b2 : 0 ≤ (vk5m10_46 p0).toInt ∧ (vk5m10_46 p0).toInt < 128 := own_b127 _
  have h2 : (((Gk5m10_218 p0 p1 p3) 2) &&& 255).toInt = (vk5m10_46 p0).toInt + 128 := own_hi b2
  have b3 : 0 ≤ (vk5m10_55 p0).toInt ∧ (vk5m10_55 p0).toInt < 128 := own_b127 _
  have h3 : (((Gk5m10_218 p0 p1 p3) 3) &&& 255).toInt = (vk5m10_55 p0).toInt + 128 := own_hi b3
  have b4 : 0 ≤ (vk5m10_61 p1).toInt ∧ (vk5m10_61 p1).toInt < 8 := own_b7 _
  have h4 : (((Gk5m10_218 p0 p1 p3) 4) &&& 255).toInt = (vk5m10_61 p1).toInt := own_lo ⟨b4.1, Int.lt_of_lt_of_le b4.2 (by decide)⟩
  omega
theorem exhb4k5m10_309 (p0 : Int32) (p1 : Int32) (p3 : Int32) (p2 : Int32) (p4 : Int32) (hk : vk5m10_8 p2 = (5 : Int32)) (hm : vk5m10_22 p4 = (1 : Int32)) : (((Gk5m10_218 p0 p1 p3) 4) &&& 255).toInt < 8 := by
  have b0 : 0 ≤ (vk5m10_28 p0).toInt ∧ (vk5m10_28 p0).toInt < 128 := own_b127 _
  have h0 : (((Gk5m10_218 p0 p1 p3) 0) &&& 255).toInt = (vk5m10_28 p0).toInt + 128 := own_hi b0
  have b1 : 0 ≤ (vk5m10_37 p0).toInt ∧ (vk5m10_37 p0).toInt < 128 := own_b127 _
  have h1 : (((Gk5m10_218 p0 p1 p3) 1) &&& 255).toInt = (vk5m10_37 p0).toInt + 128 := own_hi b1
  have b2 : 0 ≤ (vk5m10_46 p0).toInt ∧ (vk5m10_46 p0).toInt < 128 := own_b127 _
  have h2 : (((Gk5m10_218 p0 p1 p3) 2) &&& 255).toInt = (vk5m10_46 p0).toInt + 128 := own_hi b2
  have b3 : 0 ≤ (vk5m10_55 p0).toInt ∧ (vk5m10_55 p0).toInt < 128 := own_b127 _
  have h3 : (((Gk5m10_218 p0 p1 p3) 3) &&& 255).toInt = (vk5m10_55 p0).toInt + 128 := own_hi b3
  have b4 : 0 ≤ (vk5m10_61 p1).toInt ∧ (vk5m10_61 p1).toInt < 8 := own_b7 _
  have h4 : (((Gk5m10_218 p0 p1 p3) 4) &&& 255).toInt = (vk5m10_61 p1).toInt := own_lo ⟨b4.1, Int.lt_of_lt_of_le b4.2 (by decide)⟩
  omega
theorem brk5m10_320 (p0 : Int32) (p1 : Int32) (p3 : Int32) (p2 : Int32) (p4 : Int32) (hk : vk5m10_8 p2 = (5 : Int32)) (hm : vk5m10_22 p4 = (1 : Int32)) : ((vk5m10_312 p0 p1 p3).toInt64) = (vk5m10_294 p0 p1) := by
  have b0 : 0 ≤ (vk5m10_28 p0).toInt ∧ (vk5m10_28 p0).toInt < 128 := own_b127 _
  have h0 : (((Gk5m10_218 p0 p1 p3) 0) &&& 255).toInt = (vk5m10_28 p0).toInt + 128 := own_hi b0
  have b1 : 0 ≤ (vk5m10_37 p0).toInt ∧ (vk5m10_37 p0).toInt < 128 := own_b127 _
  have h1 : (((Gk5m10_218 p0 p1 p3) 1) &&& 255).toInt = (vk5m10_37 p0).toInt + 128 := own_hi b1
  have b2 : 0 ≤ (vk5m10_46 p0).toInt ∧ (vk5m10_46 p0).toInt < 128 := own_b127 _
  have h2 : (((Gk5m10_218 p0 p1 p3) 2) &&& 255).toInt = (vk5m10_46 p0).toInt + 128 := own_hi b2
  have b3 : 0 ≤ (vk5m10_55 p0).toInt ∧ (vk5m10_55 p0).toInt < 128 := own_b127 _
  have h3 : (((Gk5m10_218 p0 p1 p3) 3) &&& 255).toInt = (vk5m10_55 p0).toInt + 128 := own_hi b3
  have b4 : 0 ≤ (vk5m10_61 p1).toInt ∧ (vk5m10_61 p1).toInt < 8 := own_b7 _
  have h4 : (((Gk5m10_218 p0 p1 p3) 4) &&& 255).toInt = (vk5m10_61 p1).toInt := own_lo ⟨b4.1, Int.lt_of_lt_of_le b4.2 (by decide)⟩
  have e0 : (vk5m10_222 p0).toInt = (vk5m10_28 p0).toInt := Jvm.Kit.i64_of_i32 _
  have m0 : (((Gk5m10_218 p0 p1 p3) 0) &&& 255).toInt % 128 = (vk5m10_28 p0).toInt := own_m7 h0 ⟨b0.1, Int.lt_of_lt_of_le b0.2 (by decide)⟩
  have m1 : (((Gk5m10_218 p0 p1 p3) 1) &&& 255).toInt % 128 = (vk5m10_37 p0).toInt := own_m7 h1 ⟨b1.1, Int.lt_of_lt_of_le b1.2 (by decide)⟩
  have m2 : (((Gk5m10_218 p0 p1 p3) 2) &&& 255).toInt % 128 = (vk5m10_46 p0).toInt := own_m7 h2 ⟨b2.1, Int.lt_of_lt_of_le b2.2 (by decide)⟩
  have m3 : (((Gk5m10_218 p0 p1 p3) 3) &&& 255).toInt % 128 = (vk5m10_55 p0).toInt := own_m7 h3 ⟨b3.1, Int.lt_of_lt_of_le b3.2 (by decide)⟩
  have m4 : (((Gk5m10_218 p0 p1 p3) 4) &&& 255).toInt % 128 = (vk5m10_61 p1).toInt := own_m7' h4 ⟨b4.1, Int.lt_of_lt_of_le b4.2 (by decide)⟩
  have e1 : (vk5m10_240 p0).toInt = (vk5m10_222 p0).toInt + (vk5m10_37 p0).toInt * 128 ∧ 0 ≤ (vk5m10_240 p0).toInt ∧ (vk5m10_240 p0).toInt < 16384 := own_ex1 _ _ (by rw [e0]; exact b0) ⟨b1.1, Int.lt_of_lt_of_le b1.2 (by decide)⟩
  have e2 : (vk5m10_258 p0).toInt = (vk5m10_240 p0).toInt + (vk5m10_46 p0).toInt * 16384 ∧ 0 ≤ (vk5m10_258 p0).toInt ∧ (vk5m10_258 p0).toInt < 2097152 := own_ex2 _ _ e1.2 ⟨b2.1, Int.lt_of_lt_of_le b2.2 (by decide)⟩
  have e3 : (vk5m10_276 p0).toInt = (vk5m10_258 p0).toInt + (vk5m10_55 p0).toInt * 2097152 ∧ 0 ≤ (vk5m10_276 p0).toInt ∧ (vk5m10_276 p0).toInt < 268435456 := own_ex3 _ _ e2.2 ⟨b3.1, Int.lt_of_lt_of_le b3.2 (by decide)⟩
  have e4 : (vk5m10_294 p0 p1).toInt = (vk5m10_276 p0).toInt + (vk5m10_61 p1).toInt * 268435456 ∧ 0 ≤ (vk5m10_294 p0 p1).toInt ∧ (vk5m10_294 p0 p1).toInt < 34359738368 := own_ex4 _ _ e3.2 ⟨b4.1, Int.lt_of_lt_of_le b4.2 (by decide)⟩
  have r : (vk5m10_312 p0 p1 p3).toInt = _ := own_va0k53_77bbbb (Gk5m10_218 p0 p1 p3) (by rw [h4]; exact b4.2)
  rw [i64eq, Jvm.Kit.i64_of_i32, r, m0, m1, m2, m3, m4, e4.1, e3.1, e2.1, e1.1, e0, Int.mul_one]
theorem exhlnk5m10_348 (p2 : Int32) (p4 : Int32) (hk : vk5m10_8 p2 = (5 : Int32)) (hm : vk5m10_22 p4 = (1 : Int32)) : 6 ≤ 6 ∧ 6 < 100 := by decide
theorem exhb0k5m10_348 (p0 : Int32) (p1 : Int32) (p3 : Int32) (p2 : Int32) (p4 : Int32) (hk : vk5m10_8 p2 = (5 : Int32)) (hm : vk5m10_22 p4 = (1 : Int32)) : (((Gk5m10_218 p0 p1 p3) 5) &&& 255).toInt < 128 := by
  have bc : 0 ≤ (vk5m10_67 p3).toInt ∧ (vk5m10_67 p3).toInt < 128 := own_b127 _
  have hc : (((Gk5m10_218 p0 p1 p3) 5) &&& 255).toInt = (vk5m10_67 p3).toInt := own_lo bc
  omega
theorem brk5m10_357 (p0 : Int32) (p1 : Int32) (p3 : Int32) (p2 : Int32) (p4 : Int32) (hk : vk5m10_8 p2 = (5 : Int32)) (hm : vk5m10_22 p4 = (1 : Int32)) : (vk5m10_351 p0 p1 p3) = (vk5m10_67 p3) := by
  have bc : 0 ≤ (vk5m10_67 p3).toInt ∧ (vk5m10_67 p3).toInt < 128 := own_b127 _
  have hc : (((Gk5m10_218 p0 p1 p3) 5) &&& 255).toInt = (vk5m10_67 p3).toInt := own_lo bc
  have r : (vk5m10_351 p0 p1 p3).toInt = _ := own_va5k13_77 (Gk5m10_218 p0 p1 p3)
  rw [i32eq, r]; omega
abbrev Lak5m10_0 (p0 : Int32) (p1 : Int32) (p2 : Int32) (p3 : Int32) (p4 : Int32) : Array Slot := #[.val (.int p0), .val (.int p1), .val (.int p2), .val (.int p3), .val (.int p4), .unset, .unset, .unset, .unset, .unset, .unset, .unset, .unset, .unset, .unset, .unset, .unset, .unset, .unset]
abbrev Lak5m10_1 (p0 : Int32) (p1 : Int32) (p2 : Int32) (p3 : Int32) (p4 : Int32) : Array Slot := #[.val (.int p0), .val (.int p1), .val (.int p2), .val (.int p3), .val (.int p4), .val (.int (5 : Int32)), .unset, .unset, .unset, .unset, .unset, .unset, .unset, .unset, .unset, .unset, .unset, .unset, .unset]
abbrev Lak5m10_2 (p0 : Int32) (p1 : Int32) (p2 : Int32) (p3 : Int32) (p4 : Int32) : Array Slot := #[.val (.int p0), .val (.int p1), .val (.int p2), .val (.int p3), .val (.int p4), .val (.int (5 : Int32)), .val (.int (1 : Int32)), .unset, .unset, .unset, .unset, .unset, .unset, .unset, .unset, .unset, .unset, .unset, .unset]
abbrev Lak5m10_3 (p0 : Int32) (p1 : Int32) (p2 : Int32) (p3 : Int32) (p4 : Int32) : Array Slot := #[.val (.int p0), .val (.int p1), .val (.int p2), .val (.int p3), .val (.int p4), .val (.int (5 : Int32)), .val (.int (1 : Int32)), .val (.int (vk5m10_28 p0)), .unset, .unset, .unset, .unset, .unset, .unset, .unset, .unset, .unset, .unset, .unset]
abbrev Lak5m10_4 (p0 : Int32) (p1 : Int32) (p2 : Int32) (p3 : Int32) (p4 : Int32) : Array Slot := #[.val (.int p0), .val (.int p1), .val (.int p2), .val (.int p3), .val (.int p4), .val (.int (5 : Int32)), .val (.int (1 : Int32)), .val (.int (vk5m10_28 p0)), .val (.int (vk5m10_37 p0)), .unset, .unset, .unset, .unset, .unset, .unset, .unset, .unset, .unset, .unset]
abbrev Lak5m10_5 (p0 : Int32) (p1 : Int32) (p2 : Int32) (p3 : Int32) (p4 : Int32) : Array Slot := #[.val (.int p0), .val (.int p1), .val (.int p2), .val (.int p3), .val (.int p4), .val (.int (5 : Int32)), .val (.int (1 : Int32)), .val (.int (vk5m10_28 p0)), .val (.int (vk5m10_37 p0)), .val (.int (vk5m10_46 p0)), .unset, .unset, .unset, .unset, .unset, .unset, .unset, .unset, .unset]
abbrev Lak5m10_6 (p0 : Int32) (p1 : Int32) (p2 : Int32) (p3 : Int32) (p4 : Int32) : Array Slot := #[.val (.int p0), .val (.int p1), .val (.int p2), .val (.int p3), .val (.int p4), .val (.int (5 : Int32)), .val (.int (1 : Int32)), .val (.int (vk5m10_28 p0)), .val (.int (vk5m10_37 p0)), .val (.int (vk5m10_46 p0)), .val (.int (vk5m10_55 p0)), .unset, .unset, .unset, .unset, .unset, .unset, .unset, .unset]
abbrev Lak5m10_7 (p0 : Int32) (p1 : Int32) (p2 : Int32) (p3 : Int32) (p4 : Int32) : Array Slot := #[.val (.int p0), .val (.int p1), .val (.int p2), .val (.int p3), .val (.int p4), .val (.int (5 : Int32)), .val (.int (1 : Int32)), .val (.int (vk5m10_28 p0)), .val (.int (vk5m10_37 p0)), .val (.int (vk5m10_46 p0)), .val (.int (vk5m10_55 p0)), .val (.int (vk5m10_61 p1)), .unset, .unset, .unset, .unset, .unset, .unset, .unset]
abbrev Lak5m10_8 (p0 : Int32) (p1 : Int32) (p2 : Int32) (p3 : Int32) (p4 : Int32) : Array Slot := #[.val (.int p0), .val (.int p1), .val (.int p2), .val (.int p3), .val (.int p4), .val (.int (5 : Int32)), .val (.int (1 : Int32)), .val (.int (vk5m10_28 p0)), .val (.int (vk5m10_37 p0)), .val (.int (vk5m10_46 p0)), .val (.int (vk5m10_55 p0)), .val (.int (vk5m10_61 p1)), .val (.int (vk5m10_67 p3)), .unset, .unset, .unset, .unset, .unset, .unset]
abbrev Lak5m10_9 (p0 : Int32) (p1 : Int32) (p2 : Int32) (p3 : Int32) (p4 : Int32) (b4 : Addr) : Array Slot := #[.val (.int p0), .val (.int p1), .val (.int p2), .val (.int p3), .val (.int p4), .val (.int (5 : Int32)), .val (.int (1 : Int32)), .val (.int (vk5m10_28 p0)), .val (.int (vk5m10_37 p0)), .val (.int (vk5m10_46 p0)), .val (.int (vk5m10_55 p0)), .val (.int (vk5m10_61 p1)), .val (.int (vk5m10_67 p3)), .val (.ref b4), .unset, .unset, .unset, .unset, .unset]
abbrev Lak5m10_10 (p0 : Int32) (p1 : Int32) (p2 : Int32) (p3 : Int32) (p4 : Int32) (b4 : Addr) : Array Slot := #[.val (.int p0), .val (.int p1), .val (.int p2), .val (.int p3), .val (.int p4), .val (.int (5 : Int32)), .val (.int (1 : Int32)), .val (.int (vk5m10_28 p0)), .val (.int (vk5m10_37 p0)), .val (.int (vk5m10_46 p0)), .val (.int (vk5m10_55 p0)), .val (.int (vk5m10_61 p1)), .val (.int (vk5m10_67 p3)), .val (.ref b4), .val (.long (vk5m10_222 p0)), .second, .unset, .unset, .unset]
abbrev Lak5m10_11 (p0 : Int32) (p1 : Int32) (p2 : Int32) (p3 : Int32) (p4 : Int32) (b4 : Addr) : Array Slot := #[.val (.int p0), .val (.int p1), .val (.int p2), .val (.int p3), .val (.int p4), .val (.int (5 : Int32)), .val (.int (1 : Int32)), .val (.int (vk5m10_28 p0)), .val (.int (vk5m10_37 p0)), .val (.int (vk5m10_46 p0)), .val (.int (vk5m10_55 p0)), .val (.int (vk5m10_61 p1)), .val (.int (vk5m10_67 p3)), .val (.ref b4), .val (.long (vk5m10_240 p0)), .second, .unset, .unset, .unset]
abbrev Lak5m10_12 (p0 : Int32) (p1 : Int32) (p2 : Int32) (p3 : Int32) (p4 : Int32) (b4 : Addr) : Array Slot := #[.val (.int p0), .val (.int p1), .val (.int p2), .val (.int p3), .val (.int p4), .val (.int (5 : Int32)), .val (.int (1 : Int32)), .val (.int (vk5m10_28 p0)), .val (.int (vk5m10_37 p0)), .val (.int (vk5m10_46 p0)), .val (.int (vk5m10_55 p0)), .val (.int (vk5m10_61 p1)), .val (.int (vk5m10_67 p3)), .val (.ref b4), .val (.long (vk5m10_258 p0)), .second, .unset, .unset, .unset]
abbrev Lak5m10_13 (p0 : Int32) (p1 : Int32) (p2 : Int32) (p3 : Int32) (p4 : Int32) (b4 : Addr) : Array Slot := #[.val (.int p0), .val (.int p1), .val (.int p2), .val (.int p3), .val (.int p4), .val (.int (5 : Int32)), .val (.int (1 : Int32)), .val (.int (vk5m10_28 p0)), .val (.int (vk5m10_37 p0)), .val (.int (vk5m10_46 p0)), .val (.int (vk5m10_55 p0)), .val (.int (vk5m10_61 p1)), .val (.int (vk5m10_67 p3)), .val (.ref b4), .val (.long (vk5m10_276 p0)), .second, .unset, .unset, .unset]
abbrev Lak5m10_14 (p0 : Int32) (p1 : Int32) (p2 : Int32) (p3 : Int32) (p4 : Int32) (b4 : Addr) : Array Slot := #[.val (.int p0), .val (.int p1), .val (.int p2), .val (.int p3), .val (.int p4), .val (.int (5 : Int32)), .val (.int (1 : Int32)), .val (.int (vk5m10_28 p0)), .val (.int (vk5m10_37 p0)), .val (.int (vk5m10_46 p0)), .val (.int (vk5m10_55 p0)), .val (.int (vk5m10_61 p1)), .val (.int (vk5m10_67 p3)), .val (.ref b4), .val (.long (vk5m10_294 p0 p1)), .second, .unset, .unset, .unset]
abbrev Lak5m10_15 (p0 : Int32) (p1 : Int32) (p2 : Int32) (p3 : Int32) (p4 : Int32) (b4 : Addr) (b11 : Addr) : Array Slot := #[.val (.int p0), .val (.int p1), .val (.int p2), .val (.int p3), .val (.int p4), .val (.int (5 : Int32)), .val (.int (1 : Int32)), .val (.int (vk5m10_28 p0)), .val (.int (vk5m10_37 p0)), .val (.int (vk5m10_46 p0)), .val (.int (vk5m10_55 p0)), .val (.int (vk5m10_61 p1)), .val (.int (vk5m10_67 p3)), .val (.ref b4), .val (.long (vk5m10_294 p0 p1)), .second, .val (.ref b11), .unset, .unset]
abbrev Lak5m10_16 (p0 : Int32) (p1 : Int32) (p2 : Int32) (p3 : Int32) (p4 : Int32) (b4 : Addr) (b11 : Addr) : Array Slot := #[.val (.int p0), .val (.int p1), .val (.int p2), .val (.int p3), .val (.int p4), .val (.int (5 : Int32)), .val (.int (1 : Int32)), .val (.int (vk5m10_28 p0)), .val (.int (vk5m10_37 p0)), .val (.int (vk5m10_46 p0)), .val (.int (vk5m10_55 p0)), .val (.int (vk5m10_61 p1)), .val (.int (vk5m10_67 p3)), .val (.ref b4), .val (.long (vk5m10_294 p0 p1)), .second, .val (.ref b11), .val (.int (vk5m10_312 p0 p1 p3)), .unset]
abbrev Lak5m10_17 (p0 : Int32) (p1 : Int32) (p2 : Int32) (p3 : Int32) (p4 : Int32) (b4 : Addr) (b11 : Addr) : Array Slot := #[.val (.int p0), .val (.int p1), .val (.int p2), .val (.int p3), .val (.int p4), .val (.int (5 : Int32)), .val (.int (1 : Int32)), .val (.int (vk5m10_28 p0)), .val (.int (vk5m10_37 p0)), .val (.int (vk5m10_46 p0)), .val (.int (vk5m10_55 p0)), .val (.int (vk5m10_61 p1)), .val (.int (vk5m10_67 p3)), .val (.ref b4), .val (.long (vk5m10_294 p0 p1)), .second, .val (.ref b11), .val (.int (vk5m10_312 p0 p1 p3)), .val (.int (vk5m10_351 p0 p1 p3))]
set_option maxRecDepth 65536 in
set_option maxHeartbeats 40000000 in
theorem j0k5m1 {p : Program} {l : Launch} {e : Env} {s : State} {m : MethodId} {args : Array Value} {below : List Frame} {meth : Method} {c : Code} {T0 : State} {locs : List Loc} {Z : State} {a0 : Array Value} {h0 : Heap} {n0 : Nat}
    (X0 : Stand p l e room_1 s m args below meth c T0 locs 0 0) (hx : p.tables.exec = Jvm.exec) (hZ : Z.Warmed39 s.vm) (hw : ∀ d ∈ tables_1, d.before a0 Z = true) (hby : c.code = code) (hml : c.maxLocals = 19) (hown : s.vm.findClass "com/example/faden/faden/rank/RecordReaderNumberPinLaw" = some m.cls) (hnm : meth.name = "law") (e0 : T0.heap = h0) (N0 : Fr n0 locs) (Z0 : n0 ≤ h0.size) (p0 : Int32) (p1 : Int32) (p2 : Int32) (p3 : Int32) (p4 : Int32) (hk : vk5m10_8 p2 = (5 : Int32)) (hm : vk5m10_22 p4 = (1 : Int32)) :
    OwnFin X0 (some .boolean) (LQ n0) room_1.cells room_1.slots (mkF m 0 #[.val (.int p0), .val (.int p1), .val (.int p2), .val (.int p3), .val (.int p4), .unset, .unset, .unset, .unset, .unset, .unset, .unset, .unset, .unset, .unset, .unset, .unset, .unset, .unset] []) := by
  refine OwnFin.step (g' := (mkF m 1 (Lak5m10_0 p0 p1 p2 p3 p4) [(.int p2)])) X0 (fun t k => XS.iloadN X0.here hx rfl (hb hby at_0) rfl k) ?_
  refine OwnFin.step (g' := (mkF m 3 (Lak5m10_0 p0 p1 p2 p3 p4) [(.int (2147483647 : Int32)), (.int p2)])) X0 (fun t k => X0.ldcInt hx hown (mvT hZ (hw _ (wm 0 rfl))) (g := (mkF m 1 (Lak5m10_0 p0 p1 p2 p3 p4) [(.int p2)])) rfl (hb hby at_1) _ k) ?_
  refine OwnFin.step (g' := (mkF m 4 (Lak5m10_0 p0 p1 p2 p3 p4) [(.int (p2 &&& (2147483647 : Int32)))])) X0 (fun t k => XS.iand X0.here hx rfl (hb hby at_3) rfl k) ?_
  refine OwnFin.step (g' := (mkF m 5 (Lak5m10_0 p0 p1 p2 p3 p4) [(.int (5 : Int32)), (.int (p2 &&& (2147483647 : Int32)))])) X0 (fun t k => XS.iconst X0.here hx rfl (hb hby at_4) k) ?_
  refine OwnFin.step (g' := (mkF m 6 (Lak5m10_0 p0 p1 p2 p3 p4) [(.int ((p2 &&& (2147483647 : Int32)) % (5 : Int32)))])) X0 (fun t k => iremM (g := (mkF m 5 (Lak5m10_0 p0 p1 p2 p3 p4) [(.int (5 : Int32)), (.int (p2 &&& (2147483647 : Int32)))])) X0 hx rfl (hb hby at_5) rfl (by decide) k) ?_
  refine OwnFin.step (g' := (mkF m 7 (Lak5m10_0 p0 p1 p2 p3 p4) [(.int (1 : Int32)), (.int ((p2 &&& (2147483647 : Int32)) % (5 : Int32)))])) X0 (fun t k => XS.iconst X0.here hx rfl (hb hby at_6) k) ?_
  refine OwnFin.step (g' := (mkF m 8 (Lak5m10_0 p0 p1 p2 p3 p4) [(.int (((p2 &&& (2147483647 : Int32)) % (5 : Int32)) + (1 : Int32)))])) X0 (fun t k => XS.iadd X0.here hx rfl (hb hby at_7) rfl k) ?_
  refine OwnFin.step (g' := (mkF m 10 #[.val (.int p0), .val (.int p1), .val (.int p2), .val (.int p3), .val (.int p4), .val (.int (vk5m10_8 p2)), .unset, .unset, .unset, .unset, .unset, .unset, .unset, .unset, .unset, .unset, .unset, .unset, .unset] [])) X0 (fun t k => XS.istore X0.here hx rfl (hb hby at_8) rfl (l' := #[.val (.int p0), .val (.int p1), .val (.int p2), .val (.int p3), .val (.int p4), .val (.int (vk5m10_8 p2)), .unset, .unset, .unset, .unset, .unset, .unset, .unset, .unset, .unset, .unset, .unset, .unset, .unset]) rfl k) ?_
  rw [hk]
  refine OwnFin.step (g' := (mkF m 12 (Lak5m10_1 p0 p1 p2 p3 p4) [(.int p4)])) X0 (fun t k => XS.iload X0.here hx rfl (hb hby at_10) rfl k) ?_
  refine OwnFin.step (g' := (mkF m 13 (Lak5m10_1 p0 p1 p2 p3 p4) [(.int (1 : Int32)), (.int p4)])) X0 (fun t k => XS.iconst X0.here hx rfl (hb hby at_12) k) ?_
  refine OwnFin.step (g' := (mkF m 14 (Lak5m10_1 p0 p1 p2 p3 p4) [(.int (p4 &&& (1 : Int32)))])) X0 (fun t k => XS.iand X0.here hx rfl (hb hby at_13) rfl k) ?_
  refine OwnFin.step (g' := (mkF m 22 #[.val (.int p0), .val (.int p1), .val (.int p2), .val (.int p3), .val (.int p4), .val (.int (5 : Int32)), .unset, .unset, .unset, .unset, .unset, .unset, .unset, .unset, .unset, .unset, .unset, .unset, .unset] [(.int (vk5m10_22 p4))])) X0 (fun t k => ?_) ?_
  · show Steps p.tables e below (T0.setTop (mkF m 14 (Lak5m10_1 p0 p1 p2 p3 p4) [(.int (p4 &&& (1 : Int32)))])) t
    by_cases hc1 : (p4 &&& (1 : Int32)) = (0 : Int32)
    · skip
      refine XS.ifYes X0.here hx rfl (pc0 := 14) (pc' := 21) rfl (hb hby at_14) rfl ((if0 _ _).trans (teq hc1).1) (by decide) (by decide) ?_
      show Steps p.tables e below (T0.setTop (mkF m 21 (Lak5m10_1 p0 p1 p2 p3 p4) [])) t
      refine XS.iconst X0.here hx rfl (hb hby at_21) ?_
      show Steps p.tables e below (T0.setTop (mkF m 22 (Lak5m10_1 p0 p1 p2 p3 p4) [(.int (0 : Int32))])) t
      have qq2 : (vk5m10_22 p4) = (0 : Int32) := by
        show (if (p4 &&& (1 : Int32)) = (0 : Int32) then (0 : Int32) else (1 : Int32)) = (0 : Int32)
        simp only [if_pos hc1]
      rw [qq2] at k
      exact k
    · skip
      refine XS.ifNo X0.here hx rfl (hb hby at_14) rfl ((if0 _ _).trans (feq hc1).1) ?_
      show Steps p.tables e below (T0.setTop (mkF m 17 (Lak5m10_1 p0 p1 p2 p3 p4) [])) t
      refine XS.iconst X0.here hx rfl (hb hby at_17) ?_
      show Steps p.tables e below (T0.setTop (mkF m 18 (Lak5m10_1 p0 p1 p2 p3 p4) [(.int (1 : Int32))])) t
      refine XS.goto X0.here hx rfl (pc0 := 18) (pc' := 22) rfl (hb hby at_18) (by decide) (by decide) ?_
      show Steps p.tables e below (T0.setTop (mkF m 22 (Lak5m10_1 p0 p1 p2 p3 p4) [(.int (1 : Int32))])) t
      have qq3 : (vk5m10_22 p4) = (1 : Int32) := by
        show (if (p4 &&& (1 : Int32)) = (0 : Int32) then (0 : Int32) else (1 : Int32)) = (1 : Int32)
        simp only [if_neg hc1]
      rw [qq3] at k
      exact k
  refine OwnFin.step (g' := (mkF m 24 #[.val (.int p0), .val (.int p1), .val (.int p2), .val (.int p3), .val (.int p4), .val (.int (5 : Int32)), .val (.int (vk5m10_22 p4)), .unset, .unset, .unset, .unset, .unset, .unset, .unset, .unset, .unset, .unset, .unset, .unset] [])) X0 (fun t k => XS.istore X0.here hx rfl (hb hby at_22) rfl (l' := #[.val (.int p0), .val (.int p1), .val (.int p2), .val (.int p3), .val (.int p4), .val (.int (5 : Int32)), .val (.int (vk5m10_22 p4)), .unset, .unset, .unset, .unset, .unset, .unset, .unset, .unset, .unset, .unset, .unset, .unset]) rfl k) ?_
  rw [hm]
  refine OwnFin.step (g' := (mkF m 25 (Lak5m10_2 p0 p1 p2 p3 p4) [(.int p0)])) X0 (fun t k => XS.iloadN X0.here hx rfl (hb hby at_24) rfl k) ?_
  refine OwnFin.step (g' := (mkF m 27 (Lak5m10_2 p0 p1 p2 p3 p4) [(.int (127 : Int32)), (.int p0)])) X0 (fun t k => XS.bipush X0.here hx rfl (hb hby at_25) k) ?_
  refine OwnFin.step (g' := (mkF m 28 (Lak5m10_2 p0 p1 p2 p3 p4) [(.int (p0 &&& (127 : Int32)))])) X0 (fun t k => XS.iand X0.here hx rfl (hb hby at_27) rfl k) ?_
  refine OwnFin.step (g' := (mkF m 30 (Lak5m10_3 p0 p1 p2 p3 p4) [])) X0 (fun t k => XS.istore X0.here hx rfl (hb hby at_28) rfl (l' := (Lak5m10_3 p0 p1 p2 p3 p4)) rfl k) ?_
  refine OwnFin.step (g' := (mkF m 31 (Lak5m10_3 p0 p1 p2 p3 p4) [(.int p0)])) X0 (fun t k => XS.iloadN X0.here hx rfl (hb hby at_30) rfl k) ?_
  refine OwnFin.step (g' := (mkF m 33 (Lak5m10_3 p0 p1 p2 p3 p4) [(.int (8 : Int32)), (.int p0)])) X0 (fun t k => XS.bipush X0.here hx rfl (hb hby at_31) k) ?_
  refine OwnFin.step (g' := (mkF m 34 (Lak5m10_3 p0 p1 p2 p3 p4) [(.int (XT.ushr p0 (8 : Int32)))])) X0 (fun t k => XT.iushr X0.here hx rfl (hb hby at_33) rfl k) ?_
  refine OwnFin.step (g' := (mkF m 36 (Lak5m10_3 p0 p1 p2 p3 p4) [(.int (127 : Int32)), (.int (XT.ushr p0 (8 : Int32)))])) X0 (fun t k => XS.bipush X0.here hx rfl (hb hby at_34) k) ?_
  refine OwnFin.step (g' := (mkF m 37 (Lak5m10_3 p0 p1 p2 p3 p4) [(.int ((XT.ushr p0 (8 : Int32)) &&& (127 : Int32)))])) X0 (fun t k => XS.iand X0.here hx rfl (hb hby at_36) rfl k) ?_
  refine OwnFin.step (g' := (mkF m 39 (Lak5m10_4 p0 p1 p2 p3 p4) [])) X0 (fun t k => XS.istore X0.here hx rfl (hb hby at_37) rfl (l' := (Lak5m10_4 p0 p1 p2 p3 p4)) rfl k) ?_
  refine OwnFin.step (g' := (mkF m 40 (Lak5m10_4 p0 p1 p2 p3 p4) [(.int p0)])) X0 (fun t k => XS.iloadN X0.here hx rfl (hb hby at_39) rfl k) ?_
  refine OwnFin.step (g' := (mkF m 42 (Lak5m10_4 p0 p1 p2 p3 p4) [(.int (16 : Int32)), (.int p0)])) X0 (fun t k => XS.bipush X0.here hx rfl (hb hby at_40) k) ?_
  refine OwnFin.step (g' := (mkF m 43 (Lak5m10_4 p0 p1 p2 p3 p4) [(.int (XT.ushr p0 (16 : Int32)))])) X0 (fun t k => XT.iushr X0.here hx rfl (hb hby at_42) rfl k) ?_
  refine OwnFin.step (g' := (mkF m 45 (Lak5m10_4 p0 p1 p2 p3 p4) [(.int (127 : Int32)), (.int (XT.ushr p0 (16 : Int32)))])) X0 (fun t k => XS.bipush X0.here hx rfl (hb hby at_43) k) ?_
  refine OwnFin.step (g' := (mkF m 46 (Lak5m10_4 p0 p1 p2 p3 p4) [(.int ((XT.ushr p0 (16 : Int32)) &&& (127 : Int32)))])) X0 (fun t k => XS.iand X0.here hx rfl (hb hby at_45) rfl k) ?_
  refine OwnFin.step (g' := (mkF m 48 (Lak5m10_5 p0 p1 p2 p3 p4) [])) X0 (fun t k => XS.istore X0.here hx rfl (hb hby at_46) rfl (l' := (Lak5m10_5 p0 p1 p2 p3 p4)) rfl k) ?_
  refine OwnFin.step (g' := (mkF m 49 (Lak5m10_5 p0 p1 p2 p3 p4) [(.int p0)])) X0 (fun t k => XS.iloadN X0.here hx rfl (hb hby at_48) rfl k) ?_
  refine OwnFin.step (g' := (mkF m 51 (Lak5m10_5 p0 p1 p2 p3 p4) [(.int (24 : Int32)), (.int p0)])) X0 (fun t k => XS.bipush X0.here hx rfl (hb hby at_49) k) ?_
  refine OwnFin.step (g' := (mkF m 52 (Lak5m10_5 p0 p1 p2 p3 p4) [(.int (XT.ushr p0 (24 : Int32)))])) X0 (fun t k => XT.iushr X0.here hx rfl (hb hby at_51) rfl k) ?_
  refine OwnFin.step (g' := (mkF m 54 (Lak5m10_5 p0 p1 p2 p3 p4) [(.int (127 : Int32)), (.int (XT.ushr p0 (24 : Int32)))])) X0 (fun t k => XS.bipush X0.here hx rfl (hb hby at_52) k) ?_
  refine OwnFin.step (g' := (mkF m 55 (Lak5m10_5 p0 p1 p2 p3 p4) [(.int ((XT.ushr p0 (24 : Int32)) &&& (127 : Int32)))])) X0 (fun t k => XS.iand X0.here hx rfl (hb hby at_54) rfl k) ?_
  refine OwnFin.step (g' := (mkF m 57 (Lak5m10_6 p0 p1 p2 p3 p4) [])) X0 (fun t k => XS.istore X0.here hx rfl (hb hby at_55) rfl (l' := (Lak5m10_6 p0 p1 p2 p3 p4)) rfl k) ?_
  refine OwnFin.step (g' := (mkF m 58 (Lak5m10_6 p0 p1 p2 p3 p4) [(.int p1)])) X0 (fun t k => XS.iloadN X0.here hx rfl (hb hby at_57) rfl k) ?_
  refine OwnFin.step (g' := (mkF m 60 (Lak5m10_6 p0 p1 p2 p3 p4) [(.int (7 : Int32)), (.int p1)])) X0 (fun t k => XS.bipush X0.here hx rfl (hb hby at_58) k) ?_
  refine OwnFin.step (g' := (mkF m 61 (Lak5m10_6 p0 p1 p2 p3 p4) [(.int (p1 &&& (7 : Int32)))])) X0 (fun t k => XS.iand X0.here hx rfl (hb hby at_60) rfl k) ?_
  refine OwnFin.step (g' := (mkF m 63 (Lak5m10_7 p0 p1 p2 p3 p4) [])) X0 (fun t k => XS.istore X0.here hx rfl (hb hby at_61) rfl (l' := (Lak5m10_7 p0 p1 p2 p3 p4)) rfl k) ?_
  refine OwnFin.step (g' := (mkF m 64 (Lak5m10_7 p0 p1 p2 p3 p4) [(.int p3)])) X0 (fun t k => XS.iloadN X0.here hx rfl (hb hby at_63) rfl k) ?_
  refine OwnFin.step (g' := (mkF m 66 (Lak5m10_7 p0 p1 p2 p3 p4) [(.int (127 : Int32)), (.int p3)])) X0 (fun t k => XS.bipush X0.here hx rfl (hb hby at_64) k) ?_
  refine OwnFin.step (g' := (mkF m 67 (Lak5m10_7 p0 p1 p2 p3 p4) [(.int (p3 &&& (127 : Int32)))])) X0 (fun t k => XS.iand X0.here hx rfl (hb hby at_66) rfl k) ?_
  refine OwnFin.step (g' := (mkF m 69 (Lak5m10_8 p0 p1 p2 p3 p4) [])) X0 (fun t k => XS.istore X0.here hx rfl (hb hby at_67) rfl (l' := (Lak5m10_8 p0 p1 p2 p3 p4)) rfl k) ?_
  refine OwnFin.step (g' := (mkF m 71 (Lak5m10_8 p0 p1 p2 p3 p4) [(.int (1 : Int32))])) X0 (fun t k => XS.iload X0.here hx rfl (hb hby at_69) rfl k) ?_
  refine OwnFin.step (g' := (mkF m 74 (Lak5m10_8 p0 p1 p2 p3 p4) [])) X0 (fun t k => XS.ifNo X0.here hx rfl (hb hby at_71) rfl ((if0 _ _).trans (feq (show ¬ ((1 : Int32) = (0 : Int32)) by first | decide | exact Int32.lt_irrefl _ | exact Int64.lt_irrefl _)).1) k) ?_
  refine OwnFin.step (g' := (mkF m 76 (Lak5m10_8 p0 p1 p2 p3 p4) [(.int (5 : Int32))])) X0 (fun t k => XS.iload X0.here hx rfl (hb hby at_74) rfl k) ?_
  refine OwnFin.step (g' := (mkF m 77 (Lak5m10_8 p0 p1 p2 p3 p4) [(.int (1 : Int32)), (.int (5 : Int32))])) X0 (fun t k => XS.iconst X0.here hx rfl (hb hby at_76) k) ?_
  refine OwnFin.step (g' := (mkF m 78 (Lak5m10_8 p0 p1 p2 p3 p4) [(.int (6 : Int32))])) X0 (fun t k => XS.iadd X0.here hx rfl (hb hby at_77) rfl k) ?_
  refine OwnFin.step (g' := (mkF m 83 (Lak5m10_8 p0 p1 p2 p3 p4) [(.int (6 : Int32))])) X0 (fun t k => XS.goto X0.here hx rfl (pc0 := 78) (pc' := 83) rfl (hb hby at_78) (by decide) (by decide) k) ?_
  obtain ⟨T4, h4, b4, X4, e4, y4, K4, A4, st4⟩ := own_new X0 hx hZ (hw _ (wm 1 rfl)) e0 (g := (mkF m 83 (Lak5m10_8 p0 p1 p2 p3 p4) [(.int (6 : Int32))])) rfl (hb hby at_83) rfl (by decide) (cap := 6) (by decide) (by decide) (by decide) (by decide)
  have B4 : Ary Z h4 b4 .byte 6 (fun i => .int ((fun _ => (0 : Int32)) i)) := A4
  have g_b4 : n0 ≤ b4 := by rw [y4]; exact Z0
  have Z4 := Nat.le_trans Z0 K4.1
  refine OwnFin.step (g' := (mkF m 85 (Lak5m10_8 p0 p1 p2 p3 p4) [(.ref b4)])) X4 (fun t k => st4 _ k) ?_
  refine OwnFin.step (g' := (mkF m 87 (Lak5m10_9 p0 p1 p2 p3 p4 b4) [])) X4 (fun t k => XS.astore X4.here hx rfl (hb hby at_85) rfl rfl (l' := (Lak5m10_9 p0 p1 p2 p3 p4 b4)) rfl k) ?_
  refine OwnFin.step (g' := (mkF m 89 (Lak5m10_9 p0 p1 p2 p3 p4 b4) [(.ref b4)])) X4 (fun t k => XS.aload X4.here hx rfl (hb hby at_87) rfl rfl k) ?_
  refine OwnFin.step (g' := (mkF m 90 (Lak5m10_9 p0 p1 p2 p3 p4 b4) [(.int (0 : Int32)), (.ref b4)])) X4 (fun t k => XS.iconst X4.here hx rfl (hb hby at_89) k) ?_
  refine OwnFin.step (g' := (mkF m 92 (Lak5m10_9 p0 p1 p2 p3 p4 b4) [(.int (5 : Int32)), (.int (0 : Int32)), (.ref b4)])) X4 (fun t k => XS.iload X4.here hx rfl (hb hby at_90) rfl k) ?_
  refine OwnFin.step (g' := (mkF m 93 (Lak5m10_9 p0 p1 p2 p3 p4 b4) [(.int (1 : Int32)), (.int (5 : Int32)), (.int (0 : Int32)), (.ref b4)])) X4 (fun t k => XS.iconst X4.here hx rfl (hb hby at_92) k) ?_
  refine OwnFin.step (g' := (mkF m 96 (Lak5m10_9 p0 p1 p2 p3 p4 b4) [(.int (0 : Int32)), (.ref b4)])) X4 (fun t k => XS.icmpNo X4.here hx rfl (hb hby at_93) rfl (tlt (show (1 : Int32) < (5 : Int32) by first | rfl | decide)).2.2.2 k) ?_
  refine OwnFin.step (g' := (mkF m 98 (Lak5m10_9 p0 p1 p2 p3 p4 b4) [(.int (vk5m10_28 p0)), (.int (0 : Int32)), (.ref b4)])) X4 (fun t k => XS.iload X4.here hx rfl (hb hby at_96) rfl k) ?_
  refine OwnFin.step (g' := (mkF m 101 (Lak5m10_9 p0 p1 p2 p3 p4 b4) [(.int (128 : Int32)), (.int (vk5m10_28 p0)), (.int (0 : Int32)), (.ref b4)])) X4 (fun t k => XS.sipush X4.here hx rfl (hb hby at_98) k) ?_
  refine OwnFin.step (g' := (mkF m 102 (Lak5m10_9 p0 p1 p2 p3 p4 b4) [(.int ((vk5m10_28 p0) ||| (128 : Int32))), (.int (0 : Int32)), (.ref b4)])) X4 (fun t k => XT.ior X4.here hx rfl (hb hby at_101) rfl k) ?_
  refine OwnFin.step (g' := (mkF m 107 (Lak5m10_9 p0 p1 p2 p3 p4 b4) [(.int ((vk5m10_28 p0) ||| (128 : Int32))), (.int (0 : Int32)), (.ref b4)])) X4 (fun t k => XS.goto X4.here hx rfl (pc0 := 102) (pc' := 107) rfl (hb hby at_102) (by decide) (by decide) k) ?_
  refine OwnFin.step (g' := (mkF m 108 (Lak5m10_9 p0 p1 p2 p3 p4 b4) [(.int (((vk5m10_28 p0) ||| (128 : Int32)).toInt8.toInt32)), (.int (0 : Int32)), (.ref b4)])) X4 (fun t k => XT.i2b X4.here hx rfl (hb hby at_107) rfl k) ?_
  obtain ⟨T5, h5, L5, X5, e5, N5, K5, A5, st5⟩ := own_stB X4 hx hZ e4 N0 (G := (fun _ => (0 : Int32))) B4 g_b4 (j := (0 : Int32)) (x := (((vk5m10_28 p0) ||| (128 : Int32)).toInt8.toInt32)) (by decide) (g := (mkF m 108 (Lak5m10_9 p0 p1 p2 p3 p4 b4) [(.int (((vk5m10_28 p0) ||| (128 : Int32)).toInt8.toInt32)), (.int (0 : Int32)), (.ref b4)])) rfl rfl (hb hby at_108)
  have B5 : Ary Z h5 b4 .byte 6 (fun i => .int ((Gk5m10_108 p0) i)) := A5
  have Z5 := Nat.le_trans Z4 K5.1
  refine OwnFin.step (g' := (mkF m 109 (Lak5m10_9 p0 p1 p2 p3 p4 b4) [])) X5 (fun t k => st5 _ k) ?_
  refine OwnFin.step (g' := (mkF m 111 (Lak5m10_9 p0 p1 p2 p3 p4 b4) [(.int (5 : Int32))])) X5 (fun t k => XS.iload X5.here hx rfl (hb hby at_109) rfl k) ?_
  refine OwnFin.step (g' := (mkF m 112 (Lak5m10_9 p0 p1 p2 p3 p4 b4) [(.int (1 : Int32)), (.int (5 : Int32))])) X5 (fun t k => XS.iconst X5.here hx rfl (hb hby at_111) k) ?_
  refine OwnFin.step (g' := (mkF m 115 (Lak5m10_9 p0 p1 p2 p3 p4 b4) [])) X5 (fun t k => XS.icmpNo X5.here hx rfl (hb hby at_112) rfl (tlt (show (1 : Int32) < (5 : Int32) by first | rfl | decide)).2.2.2 k) ?_
  refine OwnFin.step (g' := (mkF m 117 (Lak5m10_9 p0 p1 p2 p3 p4 b4) [(.ref b4)])) X5 (fun t k => XS.aload X5.here hx rfl (hb hby at_115) rfl rfl k) ?_
  refine OwnFin.step (g' := (mkF m 118 (Lak5m10_9 p0 p1 p2 p3 p4 b4) [(.int (1 : Int32)), (.ref b4)])) X5 (fun t k => XS.iconst X5.here hx rfl (hb hby at_117) k) ?_
  refine OwnFin.step (g' := (mkF m 120 (Lak5m10_9 p0 p1 p2 p3 p4 b4) [(.int (5 : Int32)), (.int (1 : Int32)), (.ref b4)])) X5 (fun t k => XS.iload X5.here hx rfl (hb hby at_118) rfl k) ?_
  refine OwnFin.step (g' := (mkF m 121 (Lak5m10_9 p0 p1 p2 p3 p4 b4) [(.int (2 : Int32)), (.int (5 : Int32)), (.int (1 : Int32)), (.ref b4)])) X5 (fun t k => XS.iconst X5.here hx rfl (hb hby at_120) k) ?_
  refine OwnFin.step (g' := (mkF m 124 (Lak5m10_9 p0 p1 p2 p3 p4 b4) [(.int (1 : Int32)), (.ref b4)])) X5 (fun t k => XS.icmpNo X5.here hx rfl (hb hby at_121) rfl (tlt (show (2 : Int32) < (5 : Int32) by first | rfl | decide)).2.2.2 k) ?_
  refine OwnFin.step (g' := (mkF m 126 (Lak5m10_9 p0 p1 p2 p3 p4 b4) [(.int (vk5m10_37 p0)), (.int (1 : Int32)), (.ref b4)])) X5 (fun t k => XS.iload X5.here hx rfl (hb hby at_124) rfl k) ?_
  refine OwnFin.step (g' := (mkF m 129 (Lak5m10_9 p0 p1 p2 p3 p4 b4) [(.int (128 : Int32)), (.int (vk5m10_37 p0)), (.int (1 : Int32)), (.ref b4)])) X5 (fun t k => XS.sipush X5.here hx rfl (hb hby at_126) k) ?_
  refine OwnFin.step (g' := (mkF m 130 (Lak5m10_9 p0 p1 p2 p3 p4 b4) [(.int ((vk5m10_37 p0) ||| (128 : Int32))), (.int (1 : Int32)), (.ref b4)])) X5 (fun t k => XT.ior X5.here hx rfl (hb hby at_129) rfl k) ?_
  refine OwnFin.step (g' := (mkF m 135 (Lak5m10_9 p0 p1 p2 p3 p4 b4) [(.int ((vk5m10_37 p0) ||| (128 : Int32))), (.int (1 : Int32)), (.ref b4)])) X5 (fun t k => XS.goto X5.here hx rfl (pc0 := 130) (pc' := 135) rfl (hb hby at_130) (by decide) (by decide) k) ?_
  refine OwnFin.step (g' := (mkF m 136 (Lak5m10_9 p0 p1 p2 p3 p4 b4) [(.int (((vk5m10_37 p0) ||| (128 : Int32)).toInt8.toInt32)), (.int (1 : Int32)), (.ref b4)])) X5 (fun t k => XT.i2b X5.here hx rfl (hb hby at_135) rfl k) ?_
  obtain ⟨T6, h6, L6, X6, e6, N6, K6, A6, st6⟩ := own_stB X5 hx hZ e5 N5 (G := (Gk5m10_108 p0)) B5 g_b4 (j := (1 : Int32)) (x := (((vk5m10_37 p0) ||| (128 : Int32)).toInt8.toInt32)) (by decide) (g := (mkF m 136 (Lak5m10_9 p0 p1 p2 p3 p4 b4) [(.int (((vk5m10_37 p0) ||| (128 : Int32)).toInt8.toInt32)), (.int (1 : Int32)), (.ref b4)])) rfl rfl (hb hby at_136)
  have B6 : Ary Z h6 b4 .byte 6 (fun i => .int ((Gk5m10_136 p0) i)) := A6
  have Z6 := Nat.le_trans Z5 K6.1
  refine OwnFin.step (g' := (mkF m 137 (Lak5m10_9 p0 p1 p2 p3 p4 b4) [])) X6 (fun t k => st6 _ k) ?_
  refine OwnFin.step (g' := (mkF m 139 (Lak5m10_9 p0 p1 p2 p3 p4 b4) [(.int (5 : Int32))])) X6 (fun t k => XS.iload X6.here hx rfl (hb hby at_137) rfl k) ?_
  refine OwnFin.step (g' := (mkF m 140 (Lak5m10_9 p0 p1 p2 p3 p4 b4) [(.int (2 : Int32)), (.int (5 : Int32))])) X6 (fun t k => XS.iconst X6.here hx rfl (hb hby at_139) k) ?_
  refine OwnFin.step (g' := (mkF m 143 (Lak5m10_9 p0 p1 p2 p3 p4 b4) [])) X6 (fun t k => XS.icmpNo X6.here hx rfl (hb hby at_140) rfl (tlt (show (2 : Int32) < (5 : Int32) by first | rfl | decide)).2.2.2 k) ?_
  refine OwnFin.step (g' := (mkF m 145 (Lak5m10_9 p0 p1 p2 p3 p4 b4) [(.ref b4)])) X6 (fun t k => XS.aload X6.here hx rfl (hb hby at_143) rfl rfl k) ?_
  refine OwnFin.step (g' := (mkF m 146 (Lak5m10_9 p0 p1 p2 p3 p4 b4) [(.int (2 : Int32)), (.ref b4)])) X6 (fun t k => XS.iconst X6.here hx rfl (hb hby at_145) k) ?_
  refine OwnFin.step (g' := (mkF m 148 (Lak5m10_9 p0 p1 p2 p3 p4 b4) [(.int (5 : Int32)), (.int (2 : Int32)), (.ref b4)])) X6 (fun t k => XS.iload X6.here hx rfl (hb hby at_146) rfl k) ?_
  refine OwnFin.step (g' := (mkF m 149 (Lak5m10_9 p0 p1 p2 p3 p4 b4) [(.int (3 : Int32)), (.int (5 : Int32)), (.int (2 : Int32)), (.ref b4)])) X6 (fun t k => XS.iconst X6.here hx rfl (hb hby at_148) k) ?_
  refine OwnFin.step (g' := (mkF m 152 (Lak5m10_9 p0 p1 p2 p3 p4 b4) [(.int (2 : Int32)), (.ref b4)])) X6 (fun t k => XS.icmpNo X6.here hx rfl (hb hby at_149) rfl (tlt (show (3 : Int32) < (5 : Int32) by first | rfl | decide)).2.2.2 k) ?_
  refine OwnFin.step (g' := (mkF m 154 (Lak5m10_9 p0 p1 p2 p3 p4 b4) [(.int (vk5m10_46 p0)), (.int (2 : Int32)), (.ref b4)])) X6 (fun t k => XS.iload X6.here hx rfl (hb hby at_152) rfl k) ?_
  refine OwnFin.step (g' := (mkF m 157 (Lak5m10_9 p0 p1 p2 p3 p4 b4) [(.int (128 : Int32)), (.int (vk5m10_46 p0)), (.int (2 : Int32)), (.ref b4)])) X6 (fun t k => XS.sipush X6.here hx rfl (hb hby at_154) k) ?_
  refine OwnFin.step (g' := (mkF m 158 (Lak5m10_9 p0 p1 p2 p3 p4 b4) [(.int ((vk5m10_46 p0) ||| (128 : Int32))), (.int (2 : Int32)), (.ref b4)])) X6 (fun t k => XT.ior X6.here hx rfl (hb hby at_157) rfl k) ?_
  refine OwnFin.step (g' := (mkF m 163 (Lak5m10_9 p0 p1 p2 p3 p4 b4) [(.int ((vk5m10_46 p0) ||| (128 : Int32))), (.int (2 : Int32)), (.ref b4)])) X6 (fun t k => XS.goto X6.here hx rfl (pc0 := 158) (pc' := 163) rfl (hb hby at_158) (by decide) (by decide) k) ?_
  refine OwnFin.step (g' := (mkF m 164 (Lak5m10_9 p0 p1 p2 p3 p4 b4) [(.int (((vk5m10_46 p0) ||| (128 : Int32)).toInt8.toInt32)), (.int (2 : Int32)), (.ref b4)])) X6 (fun t k => XT.i2b X6.here hx rfl (hb hby at_163) rfl k) ?_
  obtain ⟨T7, h7, L7, X7, e7, N7, K7, A7, st7⟩ := own_stB X6 hx hZ e6 N6 (G := (Gk5m10_136 p0)) B6 g_b4 (j := (2 : Int32)) (x := (((vk5m10_46 p0) ||| (128 : Int32)).toInt8.toInt32)) (by decide) (g := (mkF m 164 (Lak5m10_9 p0 p1 p2 p3 p4 b4) [(.int (((vk5m10_46 p0) ||| (128 : Int32)).toInt8.toInt32)), (.int (2 : Int32)), (.ref b4)])) rfl rfl (hb hby at_164)
  have B7 : Ary Z h7 b4 .byte 6 (fun i => .int ((Gk5m10_164 p0) i)) := A7
  have Z7 := Nat.le_trans Z6 K7.1
  refine OwnFin.step (g' := (mkF m 165 (Lak5m10_9 p0 p1 p2 p3 p4 b4) [])) X7 (fun t k => st7 _ k) ?_
  refine OwnFin.step (g' := (mkF m 167 (Lak5m10_9 p0 p1 p2 p3 p4 b4) [(.int (5 : Int32))])) X7 (fun t k => XS.iload X7.here hx rfl (hb hby at_165) rfl k) ?_
  refine OwnFin.step (g' := (mkF m 168 (Lak5m10_9 p0 p1 p2 p3 p4 b4) [(.int (3 : Int32)), (.int (5 : Int32))])) X7 (fun t k => XS.iconst X7.here hx rfl (hb hby at_167) k) ?_
  refine OwnFin.step (g' := (mkF m 171 (Lak5m10_9 p0 p1 p2 p3 p4 b4) [])) X7 (fun t k => XS.icmpNo X7.here hx rfl (hb hby at_168) rfl (tlt (show (3 : Int32) < (5 : Int32) by first | rfl | decide)).2.2.2 k) ?_
  refine OwnFin.step (g' := (mkF m 173 (Lak5m10_9 p0 p1 p2 p3 p4 b4) [(.ref b4)])) X7 (fun t k => XS.aload X7.here hx rfl (hb hby at_171) rfl rfl k) ?_
  refine OwnFin.step (g' := (mkF m 174 (Lak5m10_9 p0 p1 p2 p3 p4 b4) [(.int (3 : Int32)), (.ref b4)])) X7 (fun t k => XS.iconst X7.here hx rfl (hb hby at_173) k) ?_
  refine OwnFin.step (g' := (mkF m 176 (Lak5m10_9 p0 p1 p2 p3 p4 b4) [(.int (5 : Int32)), (.int (3 : Int32)), (.ref b4)])) X7 (fun t k => XS.iload X7.here hx rfl (hb hby at_174) rfl k) ?_
  refine OwnFin.step (g' := (mkF m 177 (Lak5m10_9 p0 p1 p2 p3 p4 b4) [(.int (4 : Int32)), (.int (5 : Int32)), (.int (3 : Int32)), (.ref b4)])) X7 (fun t k => XS.iconst X7.here hx rfl (hb hby at_176) k) ?_
  refine OwnFin.step (g' := (mkF m 180 (Lak5m10_9 p0 p1 p2 p3 p4 b4) [(.int (3 : Int32)), (.ref b4)])) X7 (fun t k => XS.icmpNo X7.here hx rfl (hb hby at_177) rfl (tlt (show (4 : Int32) < (5 : Int32) by first | rfl | decide)).2.2.2 k) ?_
  refine OwnFin.step (g' := (mkF m 182 (Lak5m10_9 p0 p1 p2 p3 p4 b4) [(.int (vk5m10_55 p0)), (.int (3 : Int32)), (.ref b4)])) X7 (fun t k => XS.iload X7.here hx rfl (hb hby at_180) rfl k) ?_
  refine OwnFin.step (g' := (mkF m 185 (Lak5m10_9 p0 p1 p2 p3 p4 b4) [(.int (128 : Int32)), (.int (vk5m10_55 p0)), (.int (3 : Int32)), (.ref b4)])) X7 (fun t k => XS.sipush X7.here hx rfl (hb hby at_182) k) ?_
  refine OwnFin.step (g' := (mkF m 186 (Lak5m10_9 p0 p1 p2 p3 p4 b4) [(.int ((vk5m10_55 p0) ||| (128 : Int32))), (.int (3 : Int32)), (.ref b4)])) X7 (fun t k => XT.ior X7.here hx rfl (hb hby at_185) rfl k) ?_
  refine OwnFin.step (g' := (mkF m 191 (Lak5m10_9 p0 p1 p2 p3 p4 b4) [(.int ((vk5m10_55 p0) ||| (128 : Int32))), (.int (3 : Int32)), (.ref b4)])) X7 (fun t k => XS.goto X7.here hx rfl (pc0 := 186) (pc' := 191) rfl (hb hby at_186) (by decide) (by decide) k) ?_
  refine OwnFin.step (g' := (mkF m 192 (Lak5m10_9 p0 p1 p2 p3 p4 b4) [(.int (((vk5m10_55 p0) ||| (128 : Int32)).toInt8.toInt32)), (.int (3 : Int32)), (.ref b4)])) X7 (fun t k => XT.i2b X7.here hx rfl (hb hby at_191) rfl k) ?_
  obtain ⟨T8, h8, L8, X8, e8, N8, K8, A8, st8⟩ := own_stB X7 hx hZ e7 N7 (G := (Gk5m10_164 p0)) B7 g_b4 (j := (3 : Int32)) (x := (((vk5m10_55 p0) ||| (128 : Int32)).toInt8.toInt32)) (by decide) (g := (mkF m 192 (Lak5m10_9 p0 p1 p2 p3 p4 b4) [(.int (((vk5m10_55 p0) ||| (128 : Int32)).toInt8.toInt32)), (.int (3 : Int32)), (.ref b4)])) rfl rfl (hb hby at_192)
  have B8 : Ary Z h8 b4 .byte 6 (fun i => .int ((Gk5m10_192 p0) i)) := A8
  have Z8 := Nat.le_trans Z7 K8.1
  refine OwnFin.step (g' := (mkF m 193 (Lak5m10_9 p0 p1 p2 p3 p4 b4) [])) X8 (fun t k => st8 _ k) ?_
  refine OwnFin.step (g' := (mkF m 195 (Lak5m10_9 p0 p1 p2 p3 p4 b4) [(.int (5 : Int32))])) X8 (fun t k => XS.iload X8.here hx rfl (hb hby at_193) rfl k) ?_
  refine OwnFin.step (g' := (mkF m 196 (Lak5m10_9 p0 p1 p2 p3 p4 b4) [(.int (4 : Int32)), (.int (5 : Int32))])) X8 (fun t k => XS.iconst X8.here hx rfl (hb hby at_195) k) ?_
  refine OwnFin.step (g' := (mkF m 199 (Lak5m10_9 p0 p1 p2 p3 p4 b4) [])) X8 (fun t k => XS.icmpNo X8.here hx rfl (hb hby at_196) rfl (tlt (show (4 : Int32) < (5 : Int32) by first | rfl | decide)).2.2.2 k) ?_
  refine OwnFin.step (g' := (mkF m 201 (Lak5m10_9 p0 p1 p2 p3 p4 b4) [(.ref b4)])) X8 (fun t k => XS.aload X8.here hx rfl (hb hby at_199) rfl rfl k) ?_
  refine OwnFin.step (g' := (mkF m 202 (Lak5m10_9 p0 p1 p2 p3 p4 b4) [(.int (4 : Int32)), (.ref b4)])) X8 (fun t k => XS.iconst X8.here hx rfl (hb hby at_201) k) ?_
  refine OwnFin.step (g' := (mkF m 204 (Lak5m10_9 p0 p1 p2 p3 p4 b4) [(.int (vk5m10_61 p1)), (.int (4 : Int32)), (.ref b4)])) X8 (fun t k => XS.iload X8.here hx rfl (hb hby at_202) rfl k) ?_
  refine OwnFin.step (g' := (mkF m 205 (Lak5m10_9 p0 p1 p2 p3 p4 b4) [(.int ((vk5m10_61 p1).toInt8.toInt32)), (.int (4 : Int32)), (.ref b4)])) X8 (fun t k => XT.i2b X8.here hx rfl (hb hby at_204) rfl k) ?_
  obtain ⟨T9, h9, L9, X9, e9, N9, K9, A9, st9⟩ := own_stB X8 hx hZ e8 N8 (G := (Gk5m10_192 p0)) B8 g_b4 (j := (4 : Int32)) (x := ((vk5m10_61 p1).toInt8.toInt32)) (by decide) (g := (mkF m 205 (Lak5m10_9 p0 p1 p2 p3 p4 b4) [(.int ((vk5m10_61 p1).toInt8.toInt32)), (.int (4 : Int32)), (.ref b4)])) rfl rfl (hb hby at_205)
  have B9 : Ary Z h9 b4 .byte 6 (fun i => .int ((Gk5m10_205 p0 p1) i)) := A9
  have Z9 := Nat.le_trans Z8 K9.1
  refine OwnFin.step (g' := (mkF m 206 (Lak5m10_9 p0 p1 p2 p3 p4 b4) [])) X9 (fun t k => st9 _ k) ?_
  refine OwnFin.step (g' := (mkF m 208 (Lak5m10_9 p0 p1 p2 p3 p4 b4) [(.int (1 : Int32))])) X9 (fun t k => XS.iload X9.here hx rfl (hb hby at_206) rfl k) ?_
  refine OwnFin.step (g' := (mkF m 211 (Lak5m10_9 p0 p1 p2 p3 p4 b4) [])) X9 (fun t k => XS.ifNo X9.here hx rfl (hb hby at_208) rfl ((if0 _ _).trans (feq (show ¬ ((1 : Int32) = (0 : Int32)) by first | decide | exact Int32.lt_irrefl _ | exact Int64.lt_irrefl _)).1) k) ?_
  refine OwnFin.step (g' := (mkF m 213 (Lak5m10_9 p0 p1 p2 p3 p4 b4) [(.ref b4)])) X9 (fun t k => XS.aload X9.here hx rfl (hb hby at_211) rfl rfl k) ?_
  refine OwnFin.step (g' := (mkF m 215 (Lak5m10_9 p0 p1 p2 p3 p4 b4) [(.int (5 : Int32)), (.ref b4)])) X9 (fun t k => XS.iload X9.here hx rfl (hb hby at_213) rfl k) ?_
  refine OwnFin.step (g' := (mkF m 217 (Lak5m10_9 p0 p1 p2 p3 p4 b4) [(.int (vk5m10_67 p3)), (.int (5 : Int32)), (.ref b4)])) X9 (fun t k => XS.iload X9.here hx rfl (hb hby at_215) rfl k) ?_
  refine OwnFin.step (g' := (mkF m 218 (Lak5m10_9 p0 p1 p2 p3 p4 b4) [(.int ((vk5m10_67 p3).toInt8.toInt32)), (.int (5 : Int32)), (.ref b4)])) X9 (fun t k => XT.i2b X9.here hx rfl (hb hby at_217) rfl k) ?_
  obtain ⟨T10, h10, L10, X10, e10, N10, K10, A10, st10⟩ := own_stB X9 hx hZ e9 N9 (G := (Gk5m10_205 p0 p1)) B9 g_b4 (j := (5 : Int32)) (x := ((vk5m10_67 p3).toInt8.toInt32)) (by decide) (g := (mkF m 218 (Lak5m10_9 p0 p1 p2 p3 p4 b4) [(.int ((vk5m10_67 p3).toInt8.toInt32)), (.int (5 : Int32)), (.ref b4)])) rfl rfl (hb hby at_218)
  have B10 : Ary Z h10 b4 .byte 6 (fun i => .int ((Gk5m10_218 p0 p1 p3) i)) := A10
  have Z10 := Nat.le_trans Z9 K10.1
  refine OwnFin.step (g' := (mkF m 219 (Lak5m10_9 p0 p1 p2 p3 p4 b4) [])) X10 (fun t k => st10 _ k) ?_
  refine OwnFin.step (g' := (mkF m 221 (Lak5m10_9 p0 p1 p2 p3 p4 b4) [(.int (vk5m10_28 p0))])) X10 (fun t k => XS.iload X10.here hx rfl (hb hby at_219) rfl k) ?_
  refine OwnFin.step (g' := (mkF m 222 (Lak5m10_9 p0 p1 p2 p3 p4 b4) [(.long ((vk5m10_28 p0).toInt64))])) X10 (fun t k => XT.i2l X10.here hx rfl (hb hby at_221) rfl k) ?_
  refine OwnFin.step (g' := (mkF m 224 (Lak5m10_10 p0 p1 p2 p3 p4 b4) [])) X10 (fun t k => XT.lstore X10.here hx rfl (hb hby at_222) rfl (l' := (Lak5m10_10 p0 p1 p2 p3 p4 b4)) rfl k) ?_
  refine OwnFin.step (g' := (mkF m 226 (Lak5m10_10 p0 p1 p2 p3 p4 b4) [(.int (5 : Int32))])) X10 (fun t k => XS.iload X10.here hx rfl (hb hby at_224) rfl k) ?_
  refine OwnFin.step (g' := (mkF m 227 (Lak5m10_10 p0 p1 p2 p3 p4 b4) [(.int (1 : Int32)), (.int (5 : Int32))])) X10 (fun t k => XS.iconst X10.here hx rfl (hb hby at_226) k) ?_
  refine OwnFin.step (g' := (mkF m 230 (Lak5m10_10 p0 p1 p2 p3 p4 b4) [])) X10 (fun t k => XS.icmpNo X10.here hx rfl (hb hby at_227) rfl (tlt (show (1 : Int32) < (5 : Int32) by first | rfl | decide)).2.2.2 k) ?_
  refine OwnFin.step (g' := (mkF m 232 (Lak5m10_10 p0 p1 p2 p3 p4 b4) [(.long (vk5m10_222 p0))])) X10 (fun t k => XT.lload X10.here hx rfl (hb hby at_230) rfl k) ?_
  refine OwnFin.step (g' := (mkF m 234 (Lak5m10_10 p0 p1 p2 p3 p4 b4) [(.int (vk5m10_37 p0)), (.long (vk5m10_222 p0))])) X10 (fun t k => XS.iload X10.here hx rfl (hb hby at_232) rfl k) ?_
  refine OwnFin.step (g' := (mkF m 235 (Lak5m10_10 p0 p1 p2 p3 p4 b4) [(.long ((vk5m10_37 p0).toInt64)), (.long (vk5m10_222 p0))])) X10 (fun t k => XT.i2l X10.here hx rfl (hb hby at_234) rfl k) ?_
  refine OwnFin.step (g' := (mkF m 238 (Lak5m10_10 p0 p1 p2 p3 p4 b4) [(.long (128 : Int64)), (.long ((vk5m10_37 p0).toInt64)), (.long (vk5m10_222 p0))])) X10 (fun t k => X10.ldc2Long hx hown (mvT hZ (hw _ (wm 2 rfl))) (g := (mkF m 235 (Lak5m10_10 p0 p1 p2 p3 p4 b4) [(.long ((vk5m10_37 p0).toInt64)), (.long (vk5m10_222 p0))])) rfl (hb hby at_235) _ k) ?_
  refine OwnFin.step (g' := (mkF m 239 (Lak5m10_10 p0 p1 p2 p3 p4 b4) [(.long (((vk5m10_37 p0).toInt64) * (128 : Int64))), (.long (vk5m10_222 p0))])) X10 (fun t k => XT.lmul X10.here hx rfl (hb hby at_238) rfl k) ?_
  refine OwnFin.step (g' := (mkF m 240 (Lak5m10_10 p0 p1 p2 p3 p4 b4) [(.long ((vk5m10_222 p0) + (((vk5m10_37 p0).toInt64) * (128 : Int64))))])) X10 (fun t k => XT.ladd X10.here hx rfl (hb hby at_239) rfl k) ?_
  refine OwnFin.step (g' := (mkF m 242 (Lak5m10_11 p0 p1 p2 p3 p4 b4) [])) X10 (fun t k => XT.lstore X10.here hx rfl (hb hby at_240) rfl (l' := (Lak5m10_11 p0 p1 p2 p3 p4 b4)) rfl k) ?_
  refine OwnFin.step (g' := (mkF m 244 (Lak5m10_11 p0 p1 p2 p3 p4 b4) [(.int (5 : Int32))])) X10 (fun t k => XS.iload X10.here hx rfl (hb hby at_242) rfl k) ?_
  refine OwnFin.step (g' := (mkF m 245 (Lak5m10_11 p0 p1 p2 p3 p4 b4) [(.int (2 : Int32)), (.int (5 : Int32))])) X10 (fun t k => XS.iconst X10.here hx rfl (hb hby at_244) k) ?_
  refine OwnFin.step (g' := (mkF m 248 (Lak5m10_11 p0 p1 p2 p3 p4 b4) [])) X10 (fun t k => XS.icmpNo X10.here hx rfl (hb hby at_245) rfl (tlt (show (2 : Int32) < (5 : Int32) by first | rfl | decide)).2.2.2 k) ?_
  refine OwnFin.step (g' := (mkF m 250 (Lak5m10_11 p0 p1 p2 p3 p4 b4) [(.long (vk5m10_240 p0))])) X10 (fun t k => XT.lload X10.here hx rfl (hb hby at_248) rfl k) ?_
  refine OwnFin.step (g' := (mkF m 252 (Lak5m10_11 p0 p1 p2 p3 p4 b4) [(.int (vk5m10_46 p0)), (.long (vk5m10_240 p0))])) X10 (fun t k => XS.iload X10.here hx rfl (hb hby at_250) rfl k) ?_
  refine OwnFin.step (g' := (mkF m 253 (Lak5m10_11 p0 p1 p2 p3 p4 b4) [(.long ((vk5m10_46 p0).toInt64)), (.long (vk5m10_240 p0))])) X10 (fun t k => XT.i2l X10.here hx rfl (hb hby at_252) rfl k) ?_
  refine OwnFin.step (g' := (mkF m 256 (Lak5m10_11 p0 p1 p2 p3 p4 b4) [(.long (16384 : Int64)), (.long ((vk5m10_46 p0).toInt64)), (.long (vk5m10_240 p0))])) X10 (fun t k => X10.ldc2Long hx hown (mvT hZ (hw _ (wm 3 rfl))) (g := (mkF m 253 (Lak5m10_11 p0 p1 p2 p3 p4 b4) [(.long ((vk5m10_46 p0).toInt64)), (.long (vk5m10_240 p0))])) rfl (hb hby at_253) _ k) ?_
  refine OwnFin.step (g' := (mkF m 257 (Lak5m10_11 p0 p1 p2 p3 p4 b4) [(.long (((vk5m10_46 p0).toInt64) * (16384 : Int64))), (.long (vk5m10_240 p0))])) X10 (fun t k => XT.lmul X10.here hx rfl (hb hby at_256) rfl k) ?_
  refine OwnFin.step (g' := (mkF m 258 (Lak5m10_11 p0 p1 p2 p3 p4 b4) [(.long ((vk5m10_240 p0) + (((vk5m10_46 p0).toInt64) * (16384 : Int64))))])) X10 (fun t k => XT.ladd X10.here hx rfl (hb hby at_257) rfl k) ?_
  refine OwnFin.step (g' := (mkF m 260 (Lak5m10_12 p0 p1 p2 p3 p4 b4) [])) X10 (fun t k => XT.lstore X10.here hx rfl (hb hby at_258) rfl (l' := (Lak5m10_12 p0 p1 p2 p3 p4 b4)) rfl k) ?_
  refine OwnFin.step (g' := (mkF m 262 (Lak5m10_12 p0 p1 p2 p3 p4 b4) [(.int (5 : Int32))])) X10 (fun t k => XS.iload X10.here hx rfl (hb hby at_260) rfl k) ?_
  refine OwnFin.step (g' := (mkF m 263 (Lak5m10_12 p0 p1 p2 p3 p4 b4) [(.int (3 : Int32)), (.int (5 : Int32))])) X10 (fun t k => XS.iconst X10.here hx rfl (hb hby at_262) k) ?_
  refine OwnFin.step (g' := (mkF m 266 (Lak5m10_12 p0 p1 p2 p3 p4 b4) [])) X10 (fun t k => XS.icmpNo X10.here hx rfl (hb hby at_263) rfl (tlt (show (3 : Int32) < (5 : Int32) by first | rfl | decide)).2.2.2 k) ?_
  refine OwnFin.step (g' := (mkF m 268 (Lak5m10_12 p0 p1 p2 p3 p4 b4) [(.long (vk5m10_258 p0))])) X10 (fun t k => XT.lload X10.here hx rfl (hb hby at_266) rfl k) ?_
  refine OwnFin.step (g' := (mkF m 270 (Lak5m10_12 p0 p1 p2 p3 p4 b4) [(.int (vk5m10_55 p0)), (.long (vk5m10_258 p0))])) X10 (fun t k => XS.iload X10.here hx rfl (hb hby at_268) rfl k) ?_
  refine OwnFin.step (g' := (mkF m 271 (Lak5m10_12 p0 p1 p2 p3 p4 b4) [(.long ((vk5m10_55 p0).toInt64)), (.long (vk5m10_258 p0))])) X10 (fun t k => XT.i2l X10.here hx rfl (hb hby at_270) rfl k) ?_
  refine OwnFin.step (g' := (mkF m 274 (Lak5m10_12 p0 p1 p2 p3 p4 b4) [(.long (2097152 : Int64)), (.long ((vk5m10_55 p0).toInt64)), (.long (vk5m10_258 p0))])) X10 (fun t k => X10.ldc2Long hx hown (mvT hZ (hw _ (wm 27 rfl))) (g := (mkF m 271 (Lak5m10_12 p0 p1 p2 p3 p4 b4) [(.long ((vk5m10_55 p0).toInt64)), (.long (vk5m10_258 p0))])) rfl (hb hby at_271) _ k) ?_
  refine OwnFin.step (g' := (mkF m 275 (Lak5m10_12 p0 p1 p2 p3 p4 b4) [(.long (((vk5m10_55 p0).toInt64) * (2097152 : Int64))), (.long (vk5m10_258 p0))])) X10 (fun t k => XT.lmul X10.here hx rfl (hb hby at_274) rfl k) ?_
  refine OwnFin.step (g' := (mkF m 276 (Lak5m10_12 p0 p1 p2 p3 p4 b4) [(.long ((vk5m10_258 p0) + (((vk5m10_55 p0).toInt64) * (2097152 : Int64))))])) X10 (fun t k => XT.ladd X10.here hx rfl (hb hby at_275) rfl k) ?_
  refine OwnFin.step (g' := (mkF m 278 (Lak5m10_13 p0 p1 p2 p3 p4 b4) [])) X10 (fun t k => XT.lstore X10.here hx rfl (hb hby at_276) rfl (l' := (Lak5m10_13 p0 p1 p2 p3 p4 b4)) rfl k) ?_
  refine OwnFin.step (g' := (mkF m 280 (Lak5m10_13 p0 p1 p2 p3 p4 b4) [(.int (5 : Int32))])) X10 (fun t k => XS.iload X10.here hx rfl (hb hby at_278) rfl k) ?_
  refine OwnFin.step (g' := (mkF m 281 (Lak5m10_13 p0 p1 p2 p3 p4 b4) [(.int (4 : Int32)), (.int (5 : Int32))])) X10 (fun t k => XS.iconst X10.here hx rfl (hb hby at_280) k) ?_
  refine OwnFin.step (g' := (mkF m 284 (Lak5m10_13 p0 p1 p2 p3 p4 b4) [])) X10 (fun t k => XS.icmpNo X10.here hx rfl (hb hby at_281) rfl (tlt (show (4 : Int32) < (5 : Int32) by first | rfl | decide)).2.2.2 k) ?_
  refine OwnFin.step (g' := (mkF m 286 (Lak5m10_13 p0 p1 p2 p3 p4 b4) [(.long (vk5m10_276 p0))])) X10 (fun t k => XT.lload X10.here hx rfl (hb hby at_284) rfl k) ?_
  refine OwnFin.step (g' := (mkF m 288 (Lak5m10_13 p0 p1 p2 p3 p4 b4) [(.int (vk5m10_61 p1)), (.long (vk5m10_276 p0))])) X10 (fun t k => XS.iload X10.here hx rfl (hb hby at_286) rfl k) ?_
  refine OwnFin.step (g' := (mkF m 289 (Lak5m10_13 p0 p1 p2 p3 p4 b4) [(.long ((vk5m10_61 p1).toInt64)), (.long (vk5m10_276 p0))])) X10 (fun t k => XT.i2l X10.here hx rfl (hb hby at_288) rfl k) ?_
  refine OwnFin.step (g' := (mkF m 292 (Lak5m10_13 p0 p1 p2 p3 p4 b4) [(.long (268435456 : Int64)), (.long ((vk5m10_61 p1).toInt64)), (.long (vk5m10_276 p0))])) X10 (fun t k => X10.ldc2Long hx hown (mvT hZ (hw _ (wm 28 rfl))) (g := (mkF m 289 (Lak5m10_13 p0 p1 p2 p3 p4 b4) [(.long ((vk5m10_61 p1).toInt64)), (.long (vk5m10_276 p0))])) rfl (hb hby at_289) _ k) ?_
  refine OwnFin.step (g' := (mkF m 293 (Lak5m10_13 p0 p1 p2 p3 p4 b4) [(.long (((vk5m10_61 p1).toInt64) * (268435456 : Int64))), (.long (vk5m10_276 p0))])) X10 (fun t k => XT.lmul X10.here hx rfl (hb hby at_292) rfl k) ?_
  refine OwnFin.step (g' := (mkF m 294 (Lak5m10_13 p0 p1 p2 p3 p4 b4) [(.long ((vk5m10_276 p0) + (((vk5m10_61 p1).toInt64) * (268435456 : Int64))))])) X10 (fun t k => XT.ladd X10.here hx rfl (hb hby at_293) rfl k) ?_
  refine OwnFin.step (g' := (mkF m 296 (Lak5m10_14 p0 p1 p2 p3 p4 b4) [])) X10 (fun t k => XT.lstore X10.here hx rfl (hb hby at_294) rfl (l' := (Lak5m10_14 p0 p1 p2 p3 p4 b4)) rfl k) ?_
  obtain ⟨T11, h11, X11, e11, E11, A11, D11, -, st11⟩ := newO X10 hx hZ hown (hw _ (wm 4 rfl)) (hw _ (wm 5 rfl)) (hw _ (wm 6 rfl)) e10 (g := (mkF m 296 (Lak5m10_14 p0 p1 p2 p3 p4 b4) [])) rfl (hb hby at_296) (by decide) (by decide)
  obtain ⟨b11, y11⟩ : ∃ z, z = h10.size := ⟨_, rfl⟩
  rw [← y11] at A11 D11 st11
  have K11 := keep_ext E11
  have ne_b4_b11 : b4 ≠ b11 := Ary.neS B10 y11
  have g_b11 : n0 ≤ b11 := by rw [y11]; exact Z10
  have Z11 := Nat.le_trans Z10 K11.1
  have F11_record : Fld Z h11 b11 "com/example/faden/faden/rank/RecordReader" "record" "[B" .null := D11 (Or.inr (hw _ (wm 14 rfl))) (ty := (.array .byte)) (by decide)
  have F11_at : Fld Z h11 b11 "com/example/faden/faden/rank/RecordReader" "at" "I" (.int (0 : Int32)) := D11 (Or.inl (hw _ (wm 21 rfl))) (ty := .int) (by decide)
  refine OwnFin.step (g' := (mkF m 299 (Lak5m10_14 p0 p1 p2 p3 p4 b4) [(.ref b11)])) X11 (fun t k => st11 _ k) ?_
  refine OwnFin.step (g' := (mkF m 300 (Lak5m10_14 p0 p1 p2 p3 p4 b4) [(.ref b11), (.ref b11)])) X11 (fun t k => XS.dup X11.here hx rfl (hb hby at_299) rfl rfl k) ?_
  refine OwnFin.step (g' := (mkF m 302 (Lak5m10_14 p0 p1 p2 p3 p4 b4) [(.ref b4), (.ref b11), (.ref b11)])) X11 (fun t k => XS.aload X11.here hx rfl (hb hby at_300) rfl rfl k) ?_
  obtain ⟨_, T12, L12, X12, ⟨rfl, N12q, u13, u14, u15, u16⟩, st12⟩ := own_callI X11 hx hZ (y := (⟨"com/example/faden/faden/rank/RecordReader", "<init>", "([B)V"⟩ : MethodName)) (W := 1) (a := b11) (argsL := [(.ref b4)]) (rest := [(.ref b11)]) rfl hown (hw _ (wm 7 rfl)) (hw _ (wm 8 rfl)) (hw _ (wm 6 rfl)) (hw _ (wm 9 rfl)) (by decide) (rm1 l Z a0 hw [] b11 b4 h11 n0 Z11 A11 g_b11 F11_record F11_at) (by decide) (by decide) (by decide) (by decide) e11 (g := (mkF m 302 (Lak5m10_14 p0 p1 p2 p3 p4 b4) [(.ref b4), (.ref b11), (.ref b11)])) rfl (by rw [hml]; rfl) pd_0 rfl rfl (by show 2 * 0 + _ ≤ _; exact Nat.le_of_eq rfl) (hb hby at_302)
  have N12 := Fr.app N10 N12q
  obtain ⟨h12, e12⟩ : ∃ z, T12.heap = z := ⟨_, rfl⟩
  rw [e12] at u13 u14 u15 u16
  have K12 := u13
  have Z12 := Nat.le_trans Z11 K12.1
  refine OwnFin.step (g' := (mkF m 305 (Lak5m10_14 p0 p1 p2 p3 p4 b4) [(.ref b11)])) X12 (fun t k => st12 _ k) ?_
  refine OwnFin.step (g' := (mkF m 307 (Lak5m10_15 p0 p1 p2 p3 p4 b4 b11) [])) X12 (fun t k => XS.astore X12.here hx rfl (hb hby at_305) rfl rfl (l' := (Lak5m10_15 p0 p1 p2 p3 p4 b4 b11)) rfl k) ?_
  refine OwnFin.step (g' := (mkF m 309 (Lak5m10_15 p0 p1 p2 p3 p4 b4 b11) [(.ref b11)])) X12 (fun t k => XS.aload X12.here hx rfl (hb hby at_307) rfl rfl k) ?_
  have A18 := ((B10.keep K11 nin0).keep K12 (ninS ne_b4_b11 nin0))
  obtain ⟨_, T17, L17, X17, ⟨rfl, N17q, u19, u20, u21, u22⟩, st17⟩ := own_callV X12 hx hZ (y := (⟨"com/example/faden/faden/rank/RecordReader", "number", "()I"⟩ : MethodName)) (W := 0) (a := b11) (argsL := []) (rest := []) hown (hw _ (wm 15 rfl)) (hw _ (wm 16 rfl)) (hw _ (wm 18 rfl)) (hw _ (wm 17 rfl)) (hw _ (wm 6 rfl)) (hw _ (wm 19 rfl)) (by decide) u14 (rm3a0k5 l Z a0 hw [] b11 6 (Gk5m10_218 p0 p1 p3) b4 h12 n0 Z12 u14 g_b11 u15 u16 A18 (Ne.symm ne_b4_b11) (exhlnk5m10_309 p2 p4 hk hm) (exhb0k5m10_309 p0 p1 p3 p2 p4 hk hm) (exhb1k5m10_309 p0 p1 p3 p2 p4 hk hm) (exhb2k5m10_309 p0 p1 p3 p2 p4 hk hm) (exhb3k5m10_309 p0 p1 p3 p2 p4 hk hm) (exhb4k5m10_309 p0 p1 p3 p2 p4 hk hm)) (by decide) (by decide) (by decide) (by decide) e12 (g := (mkF m 309 (Lak5m10_15 p0 p1 p2 p3 p4 b4 b11) [(.ref b11)])) rfl (by rw [hml]; rfl) pd_1 rfl rfl (by show 2 * 0 + _ ≤ _; exact Nat.le_of_eq rfl) (hb hby at_309)
  have N17 := Fr.app N12 N17q
  obtain ⟨h17, e17⟩ : ∃ z, T17.heap = z := ⟨_, rfl⟩
  rw [e17] at u19 u20 u21 u22
  have K17 := u19
  have Z17 := Nat.le_trans Z12 K17.1
  refine OwnFin.step (g' := (mkF m 312 (Lak5m10_15 p0 p1 p2 p3 p4 b4 b11) [(.int (va0k53_77bbbb (Gk5m10_218 p0 p1 p3)))])) X17 (fun t k => st17 _ k) ?_
  refine OwnFin.step (g' := (mkF m 314 (Lak5m10_16 p0 p1 p2 p3 p4 b4 b11) [])) X17 (fun t k => XS.istore X17.here hx rfl (hb hby at_312) rfl (l' := (Lak5m10_16 p0 p1 p2 p3 p4 b4 b11)) rfl k) ?_
  refine OwnFin.step (g' := (mkF m 316 (Lak5m10_16 p0 p1 p2 p3 p4 b4 b11) [(.int (vk5m10_312 p0 p1 p3))])) X17 (fun t k => XS.iload X17.here hx rfl (hb hby at_314) rfl k) ?_
  refine OwnFin.step (g' := (mkF m 317 (Lak5m10_16 p0 p1 p2 p3 p4 b4 b11) [(.long ((vk5m10_312 p0 p1 p3).toInt64))])) X17 (fun t k => XT.i2l X17.here hx rfl (hb hby at_316) rfl k) ?_
  refine OwnFin.step (g' := (mkF m 319 (Lak5m10_16 p0 p1 p2 p3 p4 b4 b11) [(.long (vk5m10_294 p0 p1)), (.long ((vk5m10_312 p0 p1 p3).toInt64))])) X17 (fun t k => XT.lload X17.here hx rfl (hb hby at_317) rfl k) ?_
  refine OwnFin.step (g' := (mkF m 320 (Lak5m10_16 p0 p1 p2 p3 p4 b4 b11) [(.int (XT.cmpL ((vk5m10_312 p0 p1 p3).toInt64) (vk5m10_294 p0 p1)))])) X17 (fun t k => XT.lcmp X17.here hx rfl (hb hby at_319) rfl k) ?_
  refine OwnFin.step (g' := (mkF m 325 (Lak5m10_16 p0 p1 p2 p3 p4 b4 b11) [])) X17 (fun t k => XS.ifYes X17.here hx rfl (pc0 := 320) (pc' := 325) rfl (hb hby at_320) rfl ((if0 _ _).trans (teq ((cl_eq _ _).mpr (brk5m10_320 p0 p1 p3 p2 p4 hk hm))).1) (by decide) (by decide) k) ?_
  refine OwnFin.step (g' := (mkF m 327 (Lak5m10_16 p0 p1 p2 p3 p4 b4 b11) [(.int (1 : Int32))])) X17 (fun t k => XS.iload X17.here hx rfl (hb hby at_325) rfl k) ?_
  refine OwnFin.step (g' := (mkF m 336 (Lak5m10_16 p0 p1 p2 p3 p4 b4 b11) [])) X17 (fun t k => XS.ifYes X17.here hx rfl (pc0 := 327) (pc' := 336) rfl (hb hby at_327) rfl ((if0 _ _).trans (feq (show ¬ ((1 : Int32) = (0 : Int32)) by first | decide | exact Int32.lt_irrefl _ | exact Int64.lt_irrefl _)).2) (by decide) (by decide) k) ?_
  refine OwnFin.step (g' := (mkF m 338 (Lak5m10_16 p0 p1 p2 p3 p4 b4 b11) [(.ref b11)])) X17 (fun t k => XS.aload X17.here hx rfl (hb hby at_336) rfl rfl k) ?_
  have A24 := (A18.keep K17 (ninS ne_b4_b11 nin0))
  obtain ⟨_, T23, L23, X23, ⟨rfl, N23q, u25⟩, st23⟩ := own_callV X17 hx hZ (y := (⟨"com/example/faden/faden/rank/RecordReader", "atEnd", "()Z"⟩ : MethodName)) (W := 0) (a := b11) (argsL := []) (rest := []) hown (hw _ (wm 22 rfl)) (hw _ (wm 23 rfl)) (hw _ (wm 25 rfl)) (hw _ (wm 24 rfl)) (hw _ (wm 6 rfl)) (hw _ (wm 26 rfl)) (by decide) u20 (rm4 l Z a0 hw [] b11 6 (Gk5m10_218 p0 p1 p3) b4 (5 : Int32) h17 n0 Z17 u20 g_b11 u21 u22 A24 (Ne.symm ne_b4_b11)) (by decide) (by decide) (by decide) (by decide) e17 (g := (mkF m 338 (Lak5m10_16 p0 p1 p2 p3 p4 b4 b11) [(.ref b11)])) rfl (by rw [hml]; rfl) pd_2 rfl rfl (by show 2 * 0 + _ ≤ _; exact Nat.le_of_eq rfl) (hb hby at_338)
  have N23 := Fr.app N17 N23q
  obtain ⟨h23, e23⟩ : ∃ z, T23.heap = z := ⟨_, rfl⟩
  rw [e23] at u25
  have K23 := u25
  have Z23 := Nat.le_trans Z17 K23.1
  rw [show (nar .boolean (v4_17 (5 : Int32) 6)) = (0 : Int32) from by decide] at st23
  refine OwnFin.step (g' := (mkF m 341 (Lak5m10_16 p0 p1 p2 p3 p4 b4 b11) [(.int (0 : Int32))])) X23 (fun t k => st23 _ k) ?_
  refine OwnFin.step (g' := (mkF m 346 (Lak5m10_16 p0 p1 p2 p3 p4 b4 b11) [])) X23 (fun t k => XS.ifYes X23.here hx rfl (pc0 := 341) (pc' := 346) rfl (hb hby at_341) rfl ((if0 _ _).trans (teq (show (0 : Int32) = (0 : Int32) by first | rfl | decide)).1) (by decide) (by decide) k) ?_
  refine OwnFin.step (g' := (mkF m 348 (Lak5m10_16 p0 p1 p2 p3 p4 b4 b11) [(.ref b11)])) X23 (fun t k => XS.aload X23.here hx rfl (hb hby at_346) rfl rfl k) ?_
  have E27 := (Exa.keep u20 K23)
  have F28 := (u21.keep K23 nin0)
  have F29 := (u22.keep K23 nin0)
  have A30 := (A24.keep K23 nin0)
  obtain ⟨_, T26, L26, X26, ⟨rfl, N26q, u31, u32, u33, u34⟩, st26⟩ := own_callV X23 hx hZ (y := (⟨"com/example/faden/faden/rank/RecordReader", "number", "()I"⟩ : MethodName)) (W := 0) (a := b11) (argsL := []) (rest := []) hown (hw _ (wm 15 rfl)) (hw _ (wm 16 rfl)) (hw _ (wm 18 rfl)) (hw _ (wm 17 rfl)) (hw _ (wm 6 rfl)) (hw _ (wm 19 rfl)) (by decide) E27 (rm3a5k1 l Z a0 hw [] b11 6 (Gk5m10_218 p0 p1 p3) b4 h23 n0 Z23 E27 g_b11 F28 F29 A30 (Ne.symm ne_b4_b11) (exhlnk5m10_348 p2 p4 hk hm) (exhb0k5m10_348 p0 p1 p3 p2 p4 hk hm)) (by decide) (by decide) (by decide) (by decide) e23 (g := (mkF m 348 (Lak5m10_16 p0 p1 p2 p3 p4 b4 b11) [(.ref b11)])) rfl (by rw [hml]; rfl) pd_1 rfl rfl (by show 2 * 0 + _ ≤ _; exact Nat.le_of_eq rfl) (hb hby at_348)
  have N26 := Fr.app N23 N26q
  obtain ⟨h26, e26⟩ : ∃ z, T26.heap = z := ⟨_, rfl⟩
  rw [e26] at u31 u32 u33 u34
  have K26 := u31
  have Z26 := Nat.le_trans Z23 K26.1
  refine OwnFin.step (g' := (mkF m 351 (Lak5m10_16 p0 p1 p2 p3 p4 b4 b11) [(.int (va5k13_77 (Gk5m10_218 p0 p1 p3)))])) X26 (fun t k => st26 _ k) ?_
  refine OwnFin.step (g' := (mkF m 353 (Lak5m10_17 p0 p1 p2 p3 p4 b4 b11) [])) X26 (fun t k => XS.istore X26.here hx rfl (hb hby at_351) rfl (l' := (Lak5m10_17 p0 p1 p2 p3 p4 b4 b11)) rfl k) ?_
  refine OwnFin.step (g' := (mkF m 355 (Lak5m10_17 p0 p1 p2 p3 p4 b4 b11) [(.int (vk5m10_351 p0 p1 p3))])) X26 (fun t k => XS.iload X26.here hx rfl (hb hby at_353) rfl k) ?_
  refine OwnFin.step (g' := (mkF m 357 (Lak5m10_17 p0 p1 p2 p3 p4 b4 b11) [(.int (vk5m10_67 p3)), (.int (vk5m10_351 p0 p1 p3))])) X26 (fun t k => XS.iload X26.here hx rfl (hb hby at_355) rfl k) ?_
  refine OwnFin.step (g' := (mkF m 360 (Lak5m10_17 p0 p1 p2 p3 p4 b4 b11) [])) X26 (fun t k => XS.icmpNo X26.here hx rfl (hb hby at_357) rfl (teq (brk5m10_357 p0 p1 p3 p2 p4 hk hm)).2 k) ?_
  refine OwnFin.step (g' := (mkF m 362 (Lak5m10_17 p0 p1 p2 p3 p4 b4 b11) [(.ref b11)])) X26 (fun t k => XS.aload X26.here hx rfl (hb hby at_360) rfl rfl k) ?_
  have A36 := (A30.keep K26 (ninS ne_b4_b11 nin0))
  obtain ⟨_, T35, L35, X35, ⟨rfl, N35q, u37⟩, st35⟩ := own_callV X26 hx hZ (y := (⟨"com/example/faden/faden/rank/RecordReader", "atEnd", "()Z"⟩ : MethodName)) (W := 0) (a := b11) (argsL := []) (rest := []) hown (hw _ (wm 22 rfl)) (hw _ (wm 23 rfl)) (hw _ (wm 25 rfl)) (hw _ (wm 24 rfl)) (hw _ (wm 6 rfl)) (hw _ (wm 26 rfl)) (by decide) u32 (rm4 l Z a0 hw [] b11 6 (Gk5m10_218 p0 p1 p3) b4 (6 : Int32) h26 n0 Z26 u32 g_b11 u33 u34 A36 (Ne.symm ne_b4_b11)) (by decide) (by decide) (by decide) (by decide) e26 (g := (mkF m 362 (Lak5m10_17 p0 p1 p2 p3 p4 b4 b11) [(.ref b11)])) rfl (by rw [hml]; rfl) pd_2 rfl rfl (by show 2 * 0 + _ ≤ _; exact Nat.le_of_eq rfl) (hb hby at_362)
  have N35 := Fr.app N26 N35q
  obtain ⟨h35, e35⟩ : ∃ z, T35.heap = z := ⟨_, rfl⟩
  rw [e35] at u37
  have K35 := u37
  have Z35 := Nat.le_trans Z26 K35.1
  rw [show (nar .boolean (v4_17 (6 : Int32) 6)) = (1 : Int32) from by decide] at st35
  refine OwnFin.step (g' := (mkF m 365 (Lak5m10_17 p0 p1 p2 p3 p4 b4 b11) [(.int (1 : Int32))])) X35 (fun t k => st35 _ k) ?_
  refine OwnFin.step (g' := (mkF m 368 (Lak5m10_17 p0 p1 p2 p3 p4 b4 b11) [])) X35 (fun t k => XS.ifNo X35.here hx rfl (hb hby at_365) rfl ((if0 _ _).trans (feq (show ¬ ((1 : Int32) = (0 : Int32)) by first | decide | exact Int32.lt_irrefl _ | exact Int64.lt_irrefl _)).1) k) ?_
  refine OwnFin.step (g' := (mkF m 369 (Lak5m10_17 p0 p1 p2 p3 p4 b4 b11) [(.int (1 : Int32))])) X35 (fun t k => XS.iconst X35.here hx rfl (hb hby at_368) k) ?_
  refine OwnFin.step (g' := (mkF m 373 (Lak5m10_17 p0 p1 p2 p3 p4 b4 b11) [(.int (1 : Int32))])) X35 (fun t k => XS.goto X35.here hx rfl (pc0 := 369) (pc' := 373) rfl (hb hby at_369) (by decide) (by decide) k) ?_
  refine OwnFin.retNar X35 (by simp) (hb hby at_373) (by decide) (by decide) ?_
  exact ⟨rfl, N35⟩
set_option maxRecDepth 65536 in
set_option maxHeartbeats 40000000 in
theorem rm0k5m1 (l : Launch) (Z : State) (a0 : Array Value) (hw : ∀ d ∈ tables_1, d.before a0 Z = true) (ws : List Jvm.Cond) (p0 : Int32) (p1 : Int32) (p2 : Int32) (p3 : Int32) (p4 : Int32) (h0 : Heap) (n0 : Nat) (Z0 : n0 ≤ h0.size) (hk : vk5m10_8 p2 = (5 : Int32)) (hm : vk5m10_22 p4 = (1 : Int32)) :
    MetFree l x (head1 (Jvm.Cond.code x code maxLocals ret :: ws) room_1) (fun a U => a = #[(.int p0), (.int p1), (.int p2), (.int p3), (.int p4)] ∧ Z.Warmed39 U.vm ∧ U.heap = h0) (fun _ _ _ _ _ => True) (fun _ U o U' => ∃ v L, o = .returned v ∧ (LQ n0) v U'.heap L ∧ FrameEnd U o U' L room_1.cells room_1.slots) :=
  own_met (ret := ret) (Q := (LQ n0)) (plainFor_of_name pn_0) (fun m => ef_0 m p0 p1 p2 p3 p4) (fun p e s m below meth c s₁ X hx hby hml hown hnm hZ e0 => j0k5m1 X hx hZ hw hby hml hown hnm e0 (Fr.nil n0) Z0 p0 p1 p2 p3 p4 hk hm)
theorem own_k (p2 : Int32) : (p2 &&& 2147483647) % 5 + 1 = (1 : Int32) ∨ (p2 &&& 2147483647) % 5 + 1 = (2 : Int32) ∨ (p2 &&& 2147483647) % 5 + 1 = (3 : Int32) ∨ (p2 &&& 2147483647) % 5 + 1 = (4 : Int32) ∨ (p2 &&& 2147483647) % 5 + 1 = (5 : Int32) := by
  have h := mask31 p2
  have r := rem32 (x := p2 &&& 2147483647) (y := 5) (by omega) (by decide)
  have c1 : (1 : Int32).toInt = 1 := rfl
  have c2 : (2 : Int32).toInt = 2 := rfl
  have c3 : (3 : Int32).toInt = 3 := rfl
  have c4 : (4 : Int32).toInt = 4 := rfl
  have c5 : (5 : Int32).toInt = 5 := rfl
  have a : ((p2 &&& 2147483647) % 5 + 1 : Int32).toInt = ((p2 &&& 2147483647) % 5).toInt + (1 : Int32).toInt := Jvm.Kit.i32_add (by omega) (by omega)
  simp only [i32eq]
  omega
theorem own_m (p4 : Int32) : (if (p4 &&& 1) = (0 : Int32) then (0 : Int32) else 1) = 0 ∨ (if (p4 &&& 1) = (0 : Int32) then (0 : Int32) else 1) = 1 := by
  by_cases q : (p4 &&& 1) = (0 : Int32)
  · exact Or.inl (if_pos q)
  · exact Or.inr (if_neg q)
set_option maxRecDepth 65536 in
set_option maxHeartbeats 40000000 in
theorem rm0 (l : Launch) (Z : State) (a0 : Array Value) (hw : ∀ d ∈ tables_1, d.before a0 Z = true) (ws : List Jvm.Cond) (p0 : Int32) (p1 : Int32) (p2 : Int32) (p3 : Int32) (p4 : Int32) (h0 : Heap) (n0 : Nat) (Z0 : n0 ≤ h0.size) :
    MetFree l x (head1 (Jvm.Cond.code x code maxLocals ret :: ws) room_1) (fun a U => a = #[(.int p0), (.int p1), (.int p2), (.int p3), (.int p4)] ∧ Z.Warmed39 U.vm ∧ U.heap = h0) (fun _ _ _ _ _ => True) (fun _ U o U' => ∃ v L, o = .returned v ∧ LQ n0 v U'.heap L ∧ FrameEnd U o U' L room_1.cells room_1.slots) := by
  rcases own_k p2 with h | h | h | h | h
  · rcases own_m p4 with q | q
    · exact rm0k1m0 l Z a0 hw ws p0 p1 p2 p3 p4 h0 n0 Z0 h q
    · exact rm0k1m1 l Z a0 hw ws p0 p1 p2 p3 p4 h0 n0 Z0 h q
  · rcases own_m p4 with q | q
    · exact rm0k2m0 l Z a0 hw ws p0 p1 p2 p3 p4 h0 n0 Z0 h q
    · exact rm0k2m1 l Z a0 hw ws p0 p1 p2 p3 p4 h0 n0 Z0 h q
  · rcases own_m p4 with q | q
    · exact rm0k3m0 l Z a0 hw ws p0 p1 p2 p3 p4 h0 n0 Z0 h q
    · exact rm0k3m1 l Z a0 hw ws p0 p1 p2 p3 p4 h0 n0 Z0 h q
  · rcases own_m p4 with q | q
    · exact rm0k4m0 l Z a0 hw ws p0 p1 p2 p3 p4 h0 n0 Z0 h q
    · exact rm0k4m1 l Z a0 hw ws p0 p1 p2 p3 p4 h0 n0 Z0 h q
  · rcases own_m p4 with q | q
    · exact rm0k5m0 l Z a0 hw ws p0 p1 p2 p3 p4 h0 n0 Z0 h q
    · exact rm0k5m1 l Z a0 hw ws p0 p1 p2 p3 p4 h0 n0 Z0 h q
set_option maxRecDepth 65536 in
set_option maxHeartbeats 40000000 in
theorem comes_1 {Post : Tables → Env → Array Value → State → Outcome → State → Prop} (hpost : ∀ tb e args s v u, (limb_1_1.after args s (.returned v) u = true ∧ limb_1_2.after args s (.returned v) u = true ∧ True) → FrameEnd s (.returned v) u (Jvm.fieldLocs frame_1_writes args s ++ Jvm.arrayLocs frame_1_arrays args s ++ Jvm.staticLocs frame_1_statics s) 16 128 → Post tb e args s (.returned v) u) :
    ArmFor flags0 classFile x code maxLocals ret World_1 tables_1 room_1 Calls_1 rest_1 Pre_1 Post := by
  intro l hfl _ _ p e ha hc hk s m args below hf hA hF happ hP
  obtain ⟨hcalls, hrest, hpre⟩ := hP
  obtain ⟨-, -, -, hnamed, -, -, -, hat⟩ := (Spec.applies_iff hf).mp happ
  obtain ⟨hg, hn⟩ := and_e (Cond.before_iff.mp (show (Jvm.Cond.and given_1 narrow_1).before args s = true from hpre))
  obtain ⟨g1, g2⟩ := and_e hg
  obtain ⟨g3, g4⟩ := and_e g2
  obtain ⟨g5, g6⟩ := and_e g4
  obtain ⟨g7, g8⟩ := and_e g6
  obtain ⟨g9, g10⟩ := and_e g8
  obtain ⟨w0, w1, w2, w3, w4, rfl⟩ : ∃ w0 w1 w2 w3 w4 : Value, args = #[w0, w1, w2, w3, w4] := by
    have hs : args.size = 5 := by simpa [Cond.value, given_1] using g1
    obtain ⟨L⟩ := args
    match L, hs with
    | [w0, w1, w2, w3, w4], _ => exact ⟨w0, w1, w2, w3, w4, rfl⟩
  have hw := fun d (hd : d ∈ tables_1) => atoms_spec (ws := Jvm.Cond.code x code maxLocals ret :: tables_1) hat d (List.mem_cons_of_mem _ hd)
  obtain ⟨i0, ei0⟩ := is_v g3
  obtain rfl : w0 = (.int i0) := Option.some.inj ei0
  obtain ⟨i1, ei1⟩ := is_v g5
  obtain rfl : w1 = (.int i1) := Option.some.inj ei1
  obtain ⟨i2, ei2⟩ := is_v g7
  obtain rfl : w2 = (.int i2) := Option.some.inj ei2
  obtain ⟨i3, ei3⟩ := is_v g9
  obtain rfl : w3 = (.int i3) := Option.some.inj ei3
  obtain ⟨i4, ei4⟩ := is_v g10
  obtain rfl : w4 = (.int i4) := Option.some.inj ei4
  obtain ⟨n, o, h1, h2, h3, _, L, rfl, ⟨rfl, N⟩, hq⟩ := rm0 l s _ hw tables_1 i0 i1 i2 i3 i4 s.heap s.heap.size (Nat.le_refl _) p e ha hc hk s m _ below hf ((Spec.applies_iff_loose hf).mp happ).1 ⟨rfl, State.Warmed39.refl s, rfl⟩ trivial
  refine ⟨n, _, h1, h2, h3, hpost _ _ _ _ _ _ ⟨Cond.after_iff.mpr rfl, Cond.after_iff.mpr (eq_i res_at (Term.int_eval (1)) rfl), trivial⟩ ⟨hq.1, hq.2.1, (hq.2.2.sift fun y hy => Or.inr (N y hy)).mono (by decide) (by decide)⟩⟩
theorem main_1_1 : Claimed_1_1 := comes_1 fun _ _ _ _ _ _ h hF => ⟨h.1, hF⟩
theorem main_1_2 : Claimed_1_2 := comes_1 fun _ _ _ _ _ _ h hF => ⟨h.2.1, hF⟩
end Jvm.Pilot.@@N@@
namespace Jvm.Pilot.@@N@@
open Jvm Jvm.ClassFile Sem Op Lib Jvm.Free Jvm.Stand Jvm.Pilot.@@N@@.Jvm.D
/-! MADE BY PROGRAM (witnessworld.py) out of the Statement's table words and the real class files: 9 classes; the members and pool entries that the words name. The judged class is class 1, her method 1. -/
namespace start1
open Jvm.ClassFile
def u (s : String) : CpInfo := .utf8 (stringToUtf16 s)
/-- a pool by its gaps: so many unusable entries, then the entry; so many at the end -/
def gap : Nat → List CpInfo → List CpInfo
  | 0, r => r
  | n + 1, r => .unusable :: gap n r
def poolList (es : List (Nat × CpInfo)) (last : Nat) : List CpInfo := es.foldr (fun e r => gap e.1 (e.2 :: r)) (gap last [])
def pool (es : List (Nat × CpInfo)) (last : Nat) : Array CpInfo := ⟨poolList es last⟩
def fileOf (pool : Array CpInfo) (this : Nat) (attrs : Array Attribute := #[]) (ms : Array MethodInfo := #[]) (fl : Nat := 33) (sup : Nat := 0) (ifs : Array Nat := #[]) (fds : Array FieldInfo := #[]) : ClassFile where
  minorVersion := 0
  majorVersion := 65
  constantPool := pool
  accessFlags := fl
  thisClass := this
  superClass := sup
  interfaces := ifs
  fields := fds
  methods := ms
  attributes := attrs
def plain (name : String) (sup : Option ClassId) : Class where
  name := name
  kind := .ordinary
  loader := none
  accessFlags := 33
  super := sup
  interfaces := #[]
  cf := none
  fields := #[]
  methods := #[]
  instanceTypes := #[]
  staticTypes := #[]
  resolved := #[]
  callSites := []
  init := .initialized
  statics := none
  mirror := none

def pool0 : Array CpInfo := pool [(5, u "<init>"), (0, u "()V"), (1, .class_ 10), (1, u "java/lang/Object")] 113

def k0c0 : Code := { maxStack := 0, maxLocals := 1, code := object_method_1_code, exceptionTable := #[], attributes := #[] }
def k0m0 : Method := { name := "<init>", desc := "()V", sig := { parameters := [], returnType := none }, accessFlags := 1, code := some k0c0 }
/-- java/lang/Object -/
def k0 : Class := { plain "java/lang/Object" none with
  accessFlags := 33
  interfaces := #[]
  cf := some (fileOf pool0 8 #[] #[{ accessFlags := 1, nameIndex := 5, descriptorIndex := 6, attributes := #[] }] 33 0 #[] #[])
  fields := #[]
  methods := #[k0m0]
  instanceTypes := #[]
  staticTypes := #[]
  resolved := Array.replicate 124 none
  statics := none }

def pool1 : Array CpInfo := pool [(2, .class_ 4), (1, u "java/lang/Object"), (0, u "<init>"), (0, u "()V"), (0, .integer 2147483647), (0, .long 128), (1, .long 16384), (1, .long 2097152), (1, .long 268435456), (1, .class_ 17), (0, u "com/example/faden/faden/rank/RecordReader"), (0, .methodref 16 19), (0, .nameAndType 5 20), (0, u "([B)V"), (0, .methodref 16 22), (0, .nameAndType 23 24), (0, u "number"), (0, u "()I"), (0, .methodref 16 26), (0, .nameAndType 27 28), (0, u "atEnd"), (0, u "()Z"), (0, .class_ 30), (0, u "com/example/faden/faden/rank/RecordReaderNumberPinLaw"), (2, u "law"), (0, u "(IIIII)Z")] 8

def k1m0 : Method := { name := "<init>", desc := "()V", sig := { parameters := [], returnType := none }, accessFlags := 1, code := none }
def k1c1 : Code := { maxStack := 6, maxLocals := 19, code := code, exceptionTable := #[], attributes := #[] }
def k1m1 : Method := { name := "law", desc := "(IIIII)Z", sig := { parameters := [.int, .int, .int, .int, .int], returnType := some .boolean }, accessFlags := 9, code := some k1c1 }
/-- com/example/faden/faden/rank/RecordReaderNumberPinLaw -/
def k1 : Class := { plain "com/example/faden/faden/rank/RecordReaderNumberPinLaw" (some 0) with
  accessFlags := 49
  interfaces := #[]
  cf := some (fileOf pool1 29 #[] #[{ accessFlags := 1, nameIndex := 5, descriptorIndex := 6, attributes := #[] }, { accessFlags := 9, nameIndex := 33, descriptorIndex := 34, attributes := #[] }] 49 2 #[] #[])
  fields := #[]
  methods := #[k1m0, k1m1]
  instanceTypes := #[]
  staticTypes := #[]
  resolved := Array.replicate 43 none
  statics := none }

def pool2 : Array CpInfo := pool [(1, .methodref 2 3), (0, .class_ 4), (0, .nameAndType 5 6), (0, u "java/lang/Object"), (0, u "<init>"), (0, u "()V"), (0, .fieldref 8 9), (0, .class_ 10), (0, .nameAndType 11 12), (0, u "com/example/faden/faden/rank/RecordReader"), (0, u "record"), (0, u "[B"), (0, .fieldref 8 14), (0, .nameAndType 15 16), (0, u "at"), (0, u "I"), (13, u "number"), (0, u "()I"), (13, u "([B)V"), (2, u "atEnd"), (0, u "()Z")] 6

def k2c0 : Code := { maxStack := 2, maxLocals := 2, code := prog_21_method_1_code, exceptionTable := #[], attributes := #[] }
def k2m0 : Method := { name := "<init>", desc := "([B)V", sig := { parameters := [(.array .byte)], returnType := none }, accessFlags := 0, code := some k2c0 }
def k2c1 : Code := { maxStack := 2, maxLocals := 1, code := prog_21_method_2_code, exceptionTable := #[], attributes := #[] }
def k2m1 : Method := { name := "atEnd", desc := "()Z", sig := { parameters := [], returnType := some .boolean }, accessFlags := 0, code := some k2c1 }
def k2c2 : Code := { maxStack := 5, maxLocals := 4, code := prog_21_method_3_code, exceptionTable := #[], attributes := #[] }
def k2m2 : Method := { name := "number", desc := "()I", sig := { parameters := [], returnType := some .int }, accessFlags := 0, code := some k2c2 }
/-- com/example/faden/faden/rank/RecordReader -/
def k2 : Class := { plain "com/example/faden/faden/rank/RecordReader" (some 0) with
  accessFlags := 48
  interfaces := #[]
  cf := some (fileOf pool2 8 #[] #[{ accessFlags := 0, nameIndex := 5, descriptorIndex := 45, attributes := #[] }, { accessFlags := 0, nameIndex := 48, descriptorIndex := 49, attributes := #[] }, { accessFlags := 0, nameIndex := 30, descriptorIndex := 31, attributes := #[] }] 48 2 #[] #[{ accessFlags := 18, nameIndex := 11, descriptorIndex := 12, attributes := #[] }, { accessFlags := 2, nameIndex := 15, descriptorIndex := 16, attributes := #[] }])
  fields := #[{ name := "record", type := (.array .byte), accessFlags := 18, slot := 0, constantValue := 0 }, { name := "at", type := .int, accessFlags := 2, slot := 1, constantValue := 0 }]
  methods := #[k2m0, k2m1, k2m2]
  instanceTypes := #[(.array .byte), .int]
  staticTypes := #[]
  resolved := Array.replicate 56 none
  statics := none }

def pool3 : Array CpInfo := pool [(1, u "java/lang/Cloneable"), (0, .class_ 1), (0, u "java/lang/Object"), (0, .class_ 3)] 3

/-- java/lang/Cloneable -/
def k3 : Class := { plain "java/lang/Cloneable" (some 0) with
  accessFlags := 1537
  interfaces := #[]
  cf := some (fileOf pool3 2 #[] #[] 1537 4 #[] #[])
  fields := #[]
  methods := #[]
  instanceTypes := #[]
  staticTypes := #[]
  resolved := Array.replicate 8 none
  statics := none }

def pool4 : Array CpInfo := pool [(1, u "java/io/Serializable"), (0, .class_ 1), (0, u "java/lang/Object"), (0, .class_ 3)] 3

/-- java/io/Serializable -/
def k4 : Class := { plain "java/io/Serializable" (some 0) with
  accessFlags := 1537
  interfaces := #[]
  cf := some (fileOf pool4 2 #[] #[] 1537 4 #[] #[])
  fields := #[]
  methods := #[]
  instanceTypes := #[]
  staticTypes := #[]
  resolved := Array.replicate 8 none
  statics := none }

/-- the primitive byte -/
def k5 : Class := { plain "byte" none with kind := .primitive 'B', accessFlags := 0x411 }
/-- [B -/
def k6 : Class := { plain "[B" (some 0) with kind := .array 5 .byte, interfaces := #[3, 4], accessFlags := 1041 }

/-- the primitive int -/
def k7 : Class := { plain "int" none with kind := .primitive 'I', accessFlags := 0x411 }
/-- [I -/
def k8 : Class := { plain "[I" (some 0) with kind := .array 7 .int, interfaces := #[3, 4], accessFlags := 1041 }

def heap : Heap := #[]
def classes : Array Class := #[k0, k1, k2, k3, k4, k5, k6, k7, k8]
def interned : List (Array UInt16 × Addr) := []
def slotsUsed : Nat := 0
def theMethod : MethodId := ⟨1, 1⟩
def args0 : Array Value := #[.int 5, .int 6, .int 7, .int 8, .int 9]
def aboutOver (below : List Frame) : State where
  vm := { classes := classes, interned := interned.toArray }
  heap := heap
  slotsUsed := slotsUsed
  threads := #[{ frames := .invoking theMethod args0 :: below }]
def below0 : List Frame := [.native { method := ⟨0, 0⟩, args := #[] }]
def about1 : State := aboutOver below0
def p0 : Program := .bare "" "" ""
def e0 : Env := launch0.env 0 0 0
theorem w_frames : about1.frames = Frame.invoking theMethod args0 :: below0 := rfl
set_option maxRecDepth 65536 in
theorem w_args : argsFit about1.vm theMethod args0 = true := by decide +kernel
set_option maxRecDepth 65536 in
theorem w_heap : heapFits about1 = true := by decide +kernel
set_option maxRecDepth 65536 in
theorem w_runnable : about1.curStatus? = some .runnable := by decide +kernel
set_option maxRecDepth 65536 in
theorem w_alone : about1.alone = true := by decide +kernel
set_option maxRecDepth 65536 in
theorem w_named : about1.methodNamed? x = some theMethod := by decide +kernel
set_option maxRecDepth 65536 in
theorem w_hears : about1.hears theMethod below0 = true := by decide +kernel
set_option maxRecDepth 65536 in
theorem w_ripe : about1.ripe theMethod args0 below0 = true := by decide +kernel
theorem w_running : about1.status = .running := rfl
set_option maxRecDepth 65536 in
theorem w_room : about1.hasRoom e0.platform room_1 = true :=
  launch0.hasRoom_least _ room_1 (by decide +kernel) (by decide +kernel) (by decide +kernel) (by decide +kernel) (by decide +kernel) (by decide +kernel)
theorem allAtoms_all (ts : List Jvm.Cond) (a : Array Jvm.Value) (st : Jvm.State) : (allAtoms ts).before a st = ts.all (fun c => c.before a st) := by
  induction ts with
  | nil => rfl
  | cons c t ih =>
    show (Jvm.Cond.and c (allAtoms t)).before a st = _
    rw [Jvm.Cond.before_and, ih, List.all_cons]
def words1 : List Jvm.Cond := Jvm.Cond.code x code maxLocals ret :: tables_1
/-- a 'code' word, met by the world's own term for the bytes: nothing is compared byte by byte -/
theorem code_word {y : MethodName} {bytes : ByteArray} {mx : Nat} {rt : Option FieldType} {a : Array Value} {s : State} {m : MethodId} {meth : Method} {c : Code} (h1 : s.methodNamed? y = some m) (h2 : s.vm.method? m = some meth) (h3 : meth.code = some c) (h4 : c.code = bytes)
    (h5 : (c.maxLocals == mx && c.exceptionTable.isEmpty && decide (c.maxStack ≤ mostOperands) && decide (meth.sig.returnType = rt) && !meth.locks && decide (parseMethodDescriptor y.desc = some meth.sig)) = true) : (Jvm.Cond.code y bytes mx rt).before a s = true := by
  simp only [Bool.and_eq_true, beq_iff_eq, Bool.not_eq_true', decide_eq_true_eq] at h5
  obtain ⟨⟨⟨⟨⟨g1, g2⟩, g3⟩, g4⟩, g5⟩, g6⟩ := h5
  simp [Cond.before, Cond.holds, Cond.value, h1, h2, h3, h4, g1, g2, g3, g4, g5, g6]
def isCode : Jvm.Cond → Bool
  | .code _ _ _ _ => true
  | _ => false
theorem all_split {L : List Jvm.Cond} {P : Jvm.Cond → Bool} (h1 : L.all (fun c => isCode c || P c) = true) (h2 : ∀ c ∈ L.filter isCode, P c = true) : L.all P = true := by
  refine List.all_eq_true.mpr fun c hc => ?_
  have h := List.all_eq_true.mp h1 c hc
  rcases Bool.eq_false_or_eq_true (isCode c) with hi | hi
  · exact h2 c (List.mem_filter.mpr ⟨hc, hi⟩)
  · simpa [hi] using h
set_option maxRecDepth 65536 in
theorem w_c0 : (Jvm.Cond.code x code maxLocals ret).before args0 about1 = true := code_word (m := ⟨1, 1⟩) (meth := k1m1) (c := k1c1) (by decide +kernel) rfl rfl rfl (by decide +kernel)
set_option maxRecDepth 65536 in
theorem w_c1 : (Jvm.Cond.code ({ cls := "com/example/faden/faden/rank/RecordReader", name := "<init>", desc := "([B)V" } : Jvm.MethodName) prog_21_method_1_code (2 : Nat) (Option.none : Option Jvm.ClassFile.FieldType)).before args0 about1 = true := code_word (m := ⟨2, 0⟩) (meth := k2m0) (c := k2c0) (by decide +kernel) rfl rfl rfl (by decide +kernel)
set_option maxRecDepth 65536 in
theorem w_c2 : (Jvm.Cond.code ({ cls := "java/lang/Object", name := "<init>", desc := "()V" } : Jvm.MethodName) object_method_1_code (1 : Nat) (Option.none : Option Jvm.ClassFile.FieldType)).before args0 about1 = true := code_word (m := ⟨0, 0⟩) (meth := k0m0) (c := k0c0) (by decide +kernel) rfl rfl rfl (by decide +kernel)
set_option maxRecDepth 65536 in
theorem w_c3 : (Jvm.Cond.code ({ cls := "com/example/faden/faden/rank/RecordReader", name := "number", desc := "()I" } : Jvm.MethodName) prog_21_method_3_code (4 : Nat) (Option.some Jvm.ClassFile.FieldType.int)).before args0 about1 = true := code_word (m := ⟨2, 2⟩) (meth := k2m2) (c := k2c2) (by decide +kernel) rfl rfl rfl (by decide +kernel)
set_option maxRecDepth 65536 in
theorem w_c4 : (Jvm.Cond.code ({ cls := "com/example/faden/faden/rank/RecordReader", name := "atEnd", desc := "()Z" } : Jvm.MethodName) prog_21_method_2_code (1 : Nat) (Option.some Jvm.ClassFile.FieldType.boolean)).before args0 about1 = true := code_word (m := ⟨2, 1⟩) (meth := k2m1) (c := k2c1) (by decide +kernel) rfl rfl rfl (by decide +kernel)
def codes1 : List Jvm.Cond := [Jvm.Cond.code x code maxLocals ret, Jvm.Cond.code ({ cls := "com/example/faden/faden/rank/RecordReader", name := "<init>", desc := "([B)V" } : Jvm.MethodName) prog_21_method_1_code (2 : Nat) (Option.none : Option Jvm.ClassFile.FieldType), Jvm.Cond.code ({ cls := "java/lang/Object", name := "<init>", desc := "()V" } : Jvm.MethodName) object_method_1_code (1 : Nat) (Option.none : Option Jvm.ClassFile.FieldType), Jvm.Cond.code ({ cls := "com/example/faden/faden/rank/RecordReader", name := "number", desc := "()I" } : Jvm.MethodName) prog_21_method_3_code (4 : Nat) (Option.some Jvm.ClassFile.FieldType.int), Jvm.Cond.code ({ cls := "com/example/faden/faden/rank/RecordReader", name := "atEnd", desc := "()Z" } : Jvm.MethodName) prog_21_method_2_code (1 : Nat) (Option.some Jvm.ClassFile.FieldType.boolean)]
set_option maxRecDepth 65536 in
theorem codes_eq : words1.filter isCode = codes1 := rfl
theorem w_codes : ∀ c ∈ words1.filter isCode, c.before args0 about1 = true := by
  rw [codes_eq]
  intro c hc
  simp only [codes1, List.mem_cons, List.not_mem_nil, or_false] at hc
  rcases hc with rfl | rfl | rfl | rfl | rfl
  · exact w_c0
  · exact w_c1
  · exact w_c2
  · exact w_c3
  · exact w_c4
set_option maxRecDepth 65536 in
theorem w_t1 : (words1.take 24).all (fun c => isCode c || c.before args0 about1) = true := by decide +kernel
set_option maxRecDepth 65536 in
theorem w_t2 : (words1.drop 24).all (fun c => isCode c || c.before args0 about1) = true := by decide +kernel
theorem w_tables : (allAtoms (Jvm.Cond.code x code maxLocals ret :: tables_1)).before args0 about1 = true := by
  rw [allAtoms_all]
  show words1.all (fun c => c.before args0 about1) = true
  refine all_split ?_ w_codes
  rw [← List.take_append_drop 24 words1, List.all_append, w_t1, w_t2]
  rfl
set_option maxRecDepth 65536 in
theorem w_case : (Jvm.Cond.and given_1 narrow_1).before args0 about1 = true := by decide +kernel
theorem w_applies : (headSpec (Jvm.Cond.code x code maxLocals ret :: tables_1) room_1).applies x e0.platform about1 = true :=
  (Spec.applies_iff w_frames).mpr ⟨w_running, w_runnable, w_alone, w_named, w_hears, w_ripe, w_room, w_tables⟩
theorem atStart : AtStart classFile x code maxLocals ret World_1 tables_1 room_1 Calls_1 rest_1 Pre_1 launch0 p0 e0 about1 theMethod args0 below0 :=
  ⟨lists_1, trivial, launch0.admits_env _ _ _, launch0.least_env, fairChoices_fair.cas, fairChoices_fair.clock, w_frames, w_args, w_heap, w_applies, trivial, trivial, w_case⟩
end start1
theorem witness_1 : WitnessClaimed_1 := ⟨start1.p0, start1.e0, start1.about1, start1.theMethod, start1.args0, start1.below0, start1.atStart⟩
end Jvm.Pilot.@@N@@
