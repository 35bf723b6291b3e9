import JvmDerived
import JvmDerived.Pilot.@@N@@Statement
import JvmDerived.Pilot.@@N@@Code
set_option linter.unusedVariables false
set_option linter.unusedSimpArgs false
@@BLOCK:NumsL.lean.txt@@
namespace Jvm.RoadKit
open Sem ClassFile Op Lib Jvm.Stand Jvm.Free Jvm.LawKit
section OwnKit
theorem wm {α : Type} {l : List α} {a : α} (i : Nat) (h : l[i]? = some a) : a ∈ l := List.mem_of_getElem? h
variable {p : Program} {l : Launch} {e : Env} {R : Room} {s : State} {m : MethodId} {args : Array Value} {below : List Frame} {meth : Method} {c : Code} {T T' : State} {locs locs' : List Loc} {k n k' n' : Nat} {Z : State} {a0 : Array Value} {h h' h0 : Heap}
theorem retI (X : Stand p l e R s m args below meth c T locs k n) (hx : p.tables.exec = Jvm.exec) {pc : Nat} {Ls : Array Slot} {z : Int32} {rest : List Value} (hret : meth.sig.returnType = some .int) (hd : decode c.code pc = .ok (.ireturn, 1)) {fs : List Frame}
    (hl : ∀ (f : JFrame) (acts : List Action), f.method = m → f.locked = none → f.entered = [] → (doReturn e (T.setTop f) acts (some (.int z))).1 = T.setFrames fs) : Steps p.tables e below (T.setTop (mkF m pc Ls (.int z :: rest))) (T.setFrames fs) := by
  have hm' : T.vm.method? m = some meth := X.method'
  have hn : narrow .int (.int z) = .int z := rfl
  show Steps p.tables e below (T.setTop { method := m, pc := pc, locals := Ls, stack := _ :: rest, locked := none }) _
  jvm_step X.here [X.here.top, hx, hd, hm', hret, hn]
  first | (intro acts; rw [hl _ acts rfl rfl rfl]) | rw [hl _ _ rfl rfl rfl]
  exact Steps.refl _
/-- how a body may end: the instruction, the method's return type, what lies on the stack, what is handed back -/
def OwnRet (i : Instr) (ret : Option FieldType) (w v : Option Value) : Prop :=
  (i = .ireturn ∧ ∃ z : Int32, ret = some .int ∧ w = some (.int z) ∧ v = some (.int z)) ∨
  (i = .ireturn ∧ ∃ (t : FieldType) (z : Int32), ret = some t ∧ (t = .boolean ∨ t = .byte ∨ t = .char ∨ t = .short) ∧ w = some (.int z) ∧ v = some (.int (nar t z))) ∨
  (i = .lreturn ∧ ret = some .long ∧ ∃ z : Int64, w = some (.long z) ∧ v = some (.long z)) ∨
  (i = .areturn ∧ ∃ (t : FieldType) (u : Value), ret = some t ∧ t.isReference = true ∧ u.isRef = true ∧ narrow t u = u ∧ w = some u ∧ v = some u) ∨
  (i = .return_ ∧ ret = none ∧ w = none ∧ v = none)
/-- from the frame g the body comes to its return and leaves what Q says -/
def OwnFin (_X : Stand p l e R s m args below meth c T locs k n) (ret : Option FieldType) (Q : Option Value → Heap → List Loc → Prop) (K N : Nat) (g : JFrame) : Prop :=
  ∃ (i : Instr) (w v : Option Value) (T' : State) (locs' : List Loc) (k' n' pcr : Nat) (Ls : Array Slot), OwnRet i ret w v ∧ Stand p l e R s m args below meth c T' locs' k' n' ∧ k' ≤ K ∧ n' ≤ N ∧ Q v T'.heap locs' ∧ decode c.code pcr = .ok (i, 1) ∧
    ∀ t, Steps p.tables e below (T'.setTop (mkF m pcr Ls w.toList)) t → Steps p.tables e below (T.setTop g) t
variable {ret : Option FieldType} {Q : Option Value → Heap → List Loc → Prop} {K N : Nat} {g g' : JFrame}
theorem OwnFin.step {X : Stand p l e R s m args below meth c T locs k n} (X' : Stand p l e R s m args below meth c T' locs' k' n') (hs : ∀ t, Steps p.tables e below (T'.setTop g') t → Steps p.tables e below (T.setTop g) t) (hF : OwnFin X' ret Q K N g') : OwnFin X ret Q K N g := by
  obtain ⟨i, w, v, T2, locs2, k2, n2, pcr, Ls, h1, h2, h3, h4, h5, h6, h7⟩ := hF
  exact ⟨i, w, v, T2, locs2, k2, n2, pcr, Ls, h1, h2, h3, h4, h5, h6, fun t k => hs t (h7 t k)⟩
theorem ost (g' : JFrame) {X : Stand p l e R s m args below meth c T locs k n} (X' : Stand p l e R s m args below meth c T' locs' k' n') (hs : ∀ t, Steps p.tables e below (T'.setTop g') t → Steps p.tables e below (T.setTop g) t) (hF : OwnFin X' ret Q K N g') : OwnFin X ret Q K N g := OwnFin.step X' hs hF
theorem OwnFin.retInt (X : Stand p l e R s m args below meth c T locs k n) {pc : Nat} {Ls : Array Slot} {z : Int32} (hd : decode c.code pc = .ok (.ireturn, 1)) (hk : k ≤ K) (hn : n ≤ N) (hQ : Q (some (.int z)) T.heap locs) : OwnFin X (some .int) Q K N (mkF m pc Ls [.int z]) :=
  ⟨.ireturn, some (.int z), _, T, locs, k, n, pc, Ls, Or.inl ⟨rfl, z, rfl, rfl, rfl⟩, X, hk, hn, hQ, hd, fun _ k => k⟩
theorem OwnFin.retNar (X : Stand p l e R s m args below meth c T locs k n) {t : FieldType} (ht : t = .boolean ∨ t = .byte ∨ t = .char ∨ t = .short) {pc : Nat} {Ls : Array Slot} {z : Int32} (hd : decode c.code pc = .ok (.ireturn, 1)) (hk : k ≤ K) (hn : n ≤ N) (hQ : Q (some (.int (nar t z))) T.heap locs) : OwnFin X (some t) Q K N (mkF m pc Ls [.int z]) :=
  ⟨.ireturn, some (.int z), _, T, locs, k, n, pc, Ls, Or.inr (Or.inl ⟨rfl, t, z, rfl, ht, rfl, rfl⟩), X, hk, hn, hQ, hd, fun _ k => k⟩
theorem OwnFin.retLong (X : Stand p l e R s m args below meth c T locs k n) {pc : Nat} {Ls : Array Slot} {z : Int64} (hd : decode c.code pc = .ok (.lreturn, 1)) (hk : k ≤ K) (hn : n ≤ N) (hQ : Q (some (.long z)) T.heap locs) : OwnFin X (some .long) Q K N (mkF m pc Ls [.long z]) :=
  ⟨.lreturn, some (.long z), _, T, locs, k, n, pc, Ls, Or.inr (Or.inr (Or.inl ⟨rfl, rfl, z, rfl, rfl⟩)), X, hk, hn, hQ, hd, fun _ k => k⟩
theorem OwnFin.retRef (X : Stand p l e R s m args below meth c T locs k n) {t : FieldType} {u : Value} (ht : t.isReference = true) (hu : u.isRef = true) (hnw : narrow t u = u) {pc : Nat} {Ls : Array Slot} (hd : decode c.code pc = .ok (.areturn, 1)) (hk : k ≤ K) (hn : n ≤ N) (hQ : Q (some u) T.heap locs) : OwnFin X (some t) Q K N (mkF m pc Ls [u]) :=
  ⟨.areturn, some u, _, T, locs, k, n, pc, Ls, Or.inr (Or.inr (Or.inr (Or.inl ⟨rfl, t, u, rfl, ht, hu, hnw, rfl, rfl⟩))), X, hk, hn, hQ, hd, fun _ k => k⟩
theorem OwnFin.retVoid (X : Stand p l e R s m args below meth c T locs k n) {pc : Nat} {Ls : Array Slot} (hd : decode c.code pc = .ok (.return_, 1)) (hk : k ≤ K) (hn : n ≤ N) (hQ : Q none T.heap locs) : OwnFin X none Q K N (mkF m pc Ls []) :=
  ⟨.return_, none, _, T, locs, k, n, pc, Ls, Or.inr (Or.inr (Or.inr (Or.inr ⟨rfl, rfl, rfl, rfl⟩))), X, hk, hn, hQ, hd, fun _ k => k⟩
theorem own_met {y : MethodName} {bytes : ByteArray} {maxL : Nat} {rm : Room} {ws : List Jvm.Cond} {as' : Array Value} {Ls : Array Slot} (hpf : plainFor y = true) (hent : ∀ m, entryFrame m as' maxL = mkF m 0 Ls [])
    (H : ∀ p e s m below meth c s₁ (X : Stand p l e rm s m as' below meth c s₁ [] 0 0), p.tables.exec = Jvm.exec → c.code = bytes → c.maxLocals = maxL → s.vm.findClass y.cls = some m.cls → meth.name = y.name → Z.Warmed39 s.vm → s₁.heap = h0 → OwnFin X ret Q rm.cells rm.slots (mkF m 0 Ls [])) :
    MetFree l y (head1 (Jvm.Cond.code y bytes maxL ret :: ws) rm) (fun a U => a = as' ∧ Z.Warmed39 U.vm ∧ U.heap = h0) (fun _ _ _ _ _ => True) (fun _ U o U' => ∃ v L, o = .returned v ∧ Q v U'.heap L ∧ FrameEnd U o U' L rm.cells rm.slots) := by
  refine MetFree.of_bodySF hpf hisR ?_
  intro p e s m args below meth c s₁ Bd hml0 hP hK
  obtain ⟨rfl, hZ, hh⟩ := hP
  have hx := Bd.exec
  have hby := Bd.bytes
  have hown : s.vm.findClass y.cls = some m.cls := findClass_of_methodNamed Bd.named
  have hnm := (name_of_methodNamed Bd.named Bd.method).1
  have X0 : Stand p l e rm s m args below meth c s₁ [] 0 0 := Stand.of_body Bd
  have e0 : s₁.heap = h0 := by rw [← hh, Bd.state]; rfl
  obtain ⟨i, w, v, T2, locs2, k2, n2, pcr, Ls2, h1, X2, h3, h4, h5, h6, h7⟩ := H p e s m below meth c s₁ X0 hx hby hml0 hown hnm hZ e0
  have hret := Bd.returns
  have hv : meth.sig.returnType = none → v = none := by
    intro q
    rw [hret] at q
    rcases h1 with ⟨-, z, hr, -⟩ | ⟨-, t, z, hr, -⟩ | ⟨-, hr, -⟩ | ⟨-, t, u, hr, -⟩ | ⟨-, -, -, hr⟩
    · rw [hr] at q; cases q
    · rw [hr] at q; cases q
    · rw [hr] at q; cases q
    · rw [hr] at q; cases q
    · exact hr
  obtain ⟨fs, hr, hrun, hended, hW, hsame⟩ := X2.leave (v := v) hv
  refine ⟨_, _, ?_, hrun, hended, _, _, rfl, h5, ⟨_, rfl⟩, hW, hsame.mono h3 h4⟩
  rw [hent]
  apply h7
  rcases h1 with ⟨rfl, z, rfl, rfl, rfl⟩ | ⟨rfl, t, z, rfl, ht, rfl, rfl⟩ | ⟨rfl, rfl, z, rfl, rfl⟩ | ⟨rfl, t, u, rfl, ht, hu, hnw, rfl, rfl⟩ | ⟨rfl, rfl, rfl, rfl⟩
  · exact retI X2 hx hret h6 hr
  · exact retN X2 hx hret ht h6 hr
  · exact retOut X2 hx hret rfl (Or.inr (Or.inl ⟨rfl, rfl, z, rfl⟩)) h6 hr
  · exact retOut X2 hx hret hnw (Or.inr (Or.inr (Or.inr (Or.inr ⟨rfl, ht, hu⟩)))) h6 hr
  · exact X2.returnOut hx hret h6 hr
theorem OwnFin.wide {X : Stand p l e R s m args below meth c T locs k n} {K' N' : Nat} (F : OwnFin X ret Q K N g) (h1 : K ≤ K') (h2 : N ≤ N') : OwnFin X ret Q K' N' g := by
  obtain ⟨i, w, v, T2, locs2, k2, n2, pcr, Ls, q1, q2, q3, q4, q5, q6, q7⟩ := F
  exact ⟨i, w, v, T2, locs2, k2, n2, pcr, Ls, q1, q2, Nat.le_trans q3 h1, Nat.le_trans q4 h2, q5, q6, q7⟩
/-- a callee that leaves the heap alone: what it hands back -/
def PQ (w : Option Value) (h0 : Heap) (n0 : Nat) : Option Value → Heap → List Loc → Prop := fun v h L => v = w ∧ h = h0 ∧ Fr n0 L
def LQ (n0 : Nat) : Option Value → Heap → List Loc → Prop := fun v _ L => v = some (.int 1) ∧ Fr n0 L
theorem own_callS (X : Stand p l e R s m args below meth c T locs k n) (hx : p.tables.exec = Jvm.exec) (hZ : Z.Warmed39 s.vm) {own : String} {index : Nat} {y : MethodName} {bytes : ByteArray} {maxL W : Nat} {rt : Option FieldType} {rm : Room} {argsL rest : List Value} {ps : List FieldType} {r : Option FieldType} {Qc : Option Value → Heap → List Loc → Prop}
    (hown : s.vm.findClass own = some m.cls) (w1 : (Jvm.Cond.methodLink own index y).before a0 Z = true) (w2 : (Jvm.Cond.static y).before a0 Z = true) (w3 : (Jvm.Cond.initialized y.cls).before a0 Z = true) (w4 : (Jvm.Cond.code y bytes maxL rt).before a0 Z = true) (hy : y.cls ≠ "java/lang/invoke/MethodHandle" ∧ y.cls ≠ "java/lang/invoke/VarHandle")
    (hM : MetFree l y (head1 [Jvm.Cond.code y bytes maxL rt] rm) (fun a U => a = argsL.toArray ∧ Z.Warmed39 U.vm ∧ U.heap = h) (fun _ _ _ _ _ => True) (fun _ U o U' => ∃ v L, o = .returned v ∧ Qc v U'.heap L ∧ FrameEnd U o U' L rm.cells rm.slots))
    (hf : rm.frames + 1 ≤ R.frames) (hl : W + (maxL + 11) + rm.locals ≤ R.locals) (hc : k + rm.cells ≤ R.cells) (hs : n + rm.slots ≤ R.slots) (eT : T.heap = h)
    (hg : g.method = m) (hsize : g.locals.size = c.maxLocals) (hd : parseMethodDescriptor y.desc = some ⟨ps, r⟩) (hlen : argsL.length = ps.length) (hstack : g.stack = argsL.reverse ++ rest) (hW : 2 * g.monitorRoom + (rest.map fun v => v.category).sum ≤ W) (hdg : decode c.code g.pc = .ok (.invokestatic index, 3)) :
    ∃ v T' L, Stand p l e R s m args below meth c T' (locs ++ L) (k + rm.cells) (n + rm.slots) ∧ Qc v T'.heap L ∧ ∀ t, Steps p.tables e below (T'.setTop { g with pc := g.pc + 3, stack := v.toList ++ rest }) t → Steps p.tables e below (T.setTop g) t := by
  obtain ⟨v, vm1, ⟨T', L', k', n'⟩, -, X', ⟨Lc, hQ, l1, y1, z1⟩, st⟩ := Jvm.LawKit.callS X hx (y := y) hown (mvT hZ w1) (mvT hZ w2) (mvT hZ w3) (mvT hZ w4) hy (backOf (W := W) hM hZ w4 w3 hf hl) hg hsize (argsL := argsL) (rest := rest) (lenOf hd hlen) hstack hW hdg (fun _ _ => ⟨rfl, eT, hc, hs⟩)
  dsimp only [Pt.U, Pt.locs, Pt.cells, Pt.slots] at X' l1 y1 z1 st hQ
  subst l1 y1 z1
  exact ⟨v, T', Lc, X', hQ, st⟩
theorem own_callI (X : Stand p l e R s m args below meth c T locs k n) (hx : p.tables.exec = Jvm.exec) (hZ : Z.Warmed39 s.vm) {own : String} {index : Nat} {y : MethodName} {bytes : ByteArray} {maxL W : Nat} {rm : Room} {a : Addr} {argsL rest : List Value} {ps : List FieldType} {r : Option FieldType} {Qc : Option Value → Heap → List Loc → Prop}
    (hy1 : y.name = "<init>") (hown : s.vm.findClass own = some m.cls) (w1 : (Jvm.Cond.methodLink own index y).before a0 Z = true) (w2 : (Jvm.Cond.instanceMethod y).before a0 Z = true) (w3 : (Jvm.Cond.initialized y.cls).before a0 Z = true) (w4 : (Jvm.Cond.code y bytes maxL none).before a0 Z = true) (hy : y.cls ≠ "java/lang/invoke/MethodHandle" ∧ y.cls ≠ "java/lang/invoke/VarHandle")
    (hM : MetFree l y (head1 [Jvm.Cond.code y bytes maxL none] rm) (fun a' U => a' = (Value.ref a :: argsL).toArray ∧ Z.Warmed39 U.vm ∧ U.heap = h) (fun _ _ _ _ _ => True) (fun _ U o U' => ∃ v L, o = .returned v ∧ Qc v U'.heap L ∧ FrameEnd U o U' L rm.cells rm.slots))
    (hf : rm.frames + 1 ≤ R.frames) (hl : W + (maxL + 11) + rm.locals ≤ R.locals) (hc : k + rm.cells ≤ R.cells) (hs : n + rm.slots ≤ R.slots) (eT : T.heap = h)
    (hg : g.method = m) (hsize : g.locals.size = c.maxLocals) (hd : parseMethodDescriptor y.desc = some ⟨ps, r⟩) (hlen : argsL.length = ps.length) (hstack : g.stack = argsL.reverse ++ .ref a :: rest) (hW : 2 * g.monitorRoom + (rest.map fun v => v.category).sum ≤ W) (hdg : decode c.code g.pc = .ok (.invokespecial index, 3)) :
    ∃ v T' L, Stand p l e R s m args below meth c T' (locs ++ L) (k + rm.cells) (n + rm.slots) ∧ Qc v T'.heap L ∧ ∀ t, Steps p.tables e below (T'.setTop { g with pc := g.pc + 3, stack := v.toList ++ rest }) t → Steps p.tables e below (T.setTop g) t := by
  obtain ⟨v, vm1, ⟨T', L', k', n'⟩, -, X', ⟨Lc, hQ, l1, y1, z1⟩, st⟩ := X.specialBack hx (y := y) hy1 hown (mvT hZ w1) (mvT hZ w2) (mvT hZ w4) hy (backOf (W := W) hM hZ w4 w3 hf hl) hg hsize (Steps.refl _) (a := a) (argsL := argsL) (rest := rest) (lenOf hd hlen) hstack hW hdg (fun _ _ => ⟨rfl, eT, hc, hs⟩)
  dsimp only [Pt.U, Pt.locs, Pt.cells, Pt.slots] at X' l1 y1 z1 st hQ
  subst l1 y1 z1
  exact ⟨v, T', Lc, X', hQ, fun t k => st.trans k⟩
theorem own_callV (X : Stand p l e R s m args below meth c T locs k n) (hx : p.tables.exec = Jvm.exec) (hZ : Z.Warmed39 s.vm) {own C : String} {index : Nat} {y : MethodName} {bytes : ByteArray} {maxL W : Nat} {rt : Option FieldType} {rm : Room} {a : Addr} {argsL rest : List Value} {ps : List FieldType} {r : Option FieldType} {Qc : Option Value → Heap → List Loc → Prop}
    (hown : s.vm.findClass own = some m.cls) (w1 : (Jvm.Cond.methodLink own index y).before a0 Z = true) (w2 : (Jvm.Cond.declares y).before a0 Z = true) (w5 : (Jvm.Cond.selects C y y).before a0 Z = true) (w6 : (Jvm.Cond.instanceMethod y).before a0 Z = true) (w3 : (Jvm.Cond.initialized y.cls).before a0 Z = true) (w4 : (Jvm.Cond.code y bytes maxL rt).before a0 Z = true) (hy : y.cls ≠ "java/lang/invoke/MethodHandle" ∧ y.cls ≠ "java/lang/invoke/VarHandle")
    (E : Exa Z h a C)
    (hM : MetFree l y (head1 [Jvm.Cond.code y bytes maxL rt] rm) (fun a' U => a' = (Value.ref a :: argsL).toArray ∧ Z.Warmed39 U.vm ∧ U.heap = h) (fun _ _ _ _ _ => True) (fun _ U o U' => ∃ v L, o = .returned v ∧ Qc v U'.heap L ∧ FrameEnd U o U' L rm.cells rm.slots))
    (hf : rm.frames + 1 ≤ R.frames) (hl : W + (maxL + 11) + rm.locals ≤ R.locals) (hc : k + rm.cells ≤ R.cells) (hs : n + rm.slots ≤ R.slots) (eT : T.heap = h)
    (hg : g.method = m) (hsize : g.locals.size = c.maxLocals) (hd : parseMethodDescriptor y.desc = some ⟨ps, r⟩) (hlen : argsL.length = ps.length) (hstack : g.stack = argsL.reverse ++ .ref a :: rest) (hW : 2 * g.monitorRoom + (rest.map fun v => v.category).sum ≤ W) (hdg : decode c.code g.pc = .ok (.invokevirtual index, 3)) :
    ∃ v T' L, Stand p l e R s m args below meth c T' (locs ++ L) (k + rm.cells) (n + rm.slots) ∧ Qc v T'.heap L ∧ ∀ t, Steps p.tables e below (T'.setTop { g with pc := g.pc + 3, stack := v.toList ++ rest }) t → Steps p.tables e below (T.setTop g) t := by
  obtain ⟨cq, kq, q1, q2, q3⟩ := isOf hZ eT E
  obtain ⟨v, vm1, ⟨T', L', k', n'⟩, -, X', ⟨Lc, hQ, l1, y1, z1⟩, st⟩ := X.virtualBack hx (y := y) (z := y) hown (mvT hZ w1) (mvT hZ w2) (notFace_of_selects (args := #[]) (mvT hZ w5)) (mvT hZ w5) (mvT hZ w6) hy (backOf (W := W) hM hZ w4 w3 hf hl) q1 q3 hg hsize (Steps.refl _) (argsL := argsL) (rest := rest) (lenOf hd hlen) hstack hW hdg (fun _ _ => ⟨rfl, eT, hc, hs⟩)
  dsimp only [Pt.U, Pt.locs, Pt.cells, Pt.slots] at X' l1 y1 z1 st hQ
  subst l1 y1 z1
  exact ⟨v, T', Lc, X', hQ, fun t k => st.trans k⟩
theorem lrem_eq_mod (x y : Int64) : x - (x / y) * y = x % y := by
  apply Int64.toInt_inj.mp
  have h1 := Int64.le_toInt (x % y)
  have h2 := Int64.toInt_lt (x % y)
  rw [Int64.toInt_sub, Int64.toInt_mul, Int64.toInt_div, Int.bmod_mul_bmod, Int.sub_bmod_bmod, Int.mul_comm (x.toInt.tdiv y.toInt), ← Int.tmod_def, ← Int64.toInt_mod]
  exact Int.bmod_eq_of_le_mul_two (by omega) (by omega)
theorem own_lrem (X : Stand p l e R s m args below meth c T locs k n) (hx : p.tables.exec = Jvm.exec) (hg : g.method = m) {x y : Int64} {rest : List Value} (hd : decode c.code g.pc = .ok (.lrem, 1)) (hs : g.stack = .long y :: .long x :: rest) (hy : y ≠ 0) {target : State}
    (hr : Steps p.tables e below (T.setTop { g with pc := g.pc + 1, stack := .long (x % y) :: rest }) target) : Steps p.tables e below (T.setTop g) target := by
  exact XT.lrem X.here hx hg hd hs hy (by rw [lrem_eq_mod]; exact hr)
theorem cl_lt (x y : Int64) : XT.cmpL x y < 0 ↔ x < y := by
  unfold XT.cmpL
  split
  · rename_i q; simp only [Int64.lt_iff_toInt_lt] at *; constructor <;> intro w <;> first | (exact absurd w (by decide)) | omega
  · split
    · rename_i q r; subst r; constructor <;> intro w
      · exact absurd w (by decide)
      · exact absurd w q
    · rename_i q r; constructor <;> intro w
      · simp only [Int64.lt_iff_toInt_lt, ← Int64.toInt_inj] at *; omega
      · decide
theorem cl_gt (x y : Int64) : 0 < XT.cmpL x y ↔ y < x := by
  unfold XT.cmpL
  split
  · rename_i q; exact ⟨fun _ => q, fun _ => by decide⟩
  · rename_i q
    constructor
    · intro w; split at w <;> exact absurd w (by decide)
    · intro w; exact absurd w q
theorem cl_eq (x y : Int64) : XT.cmpL x y = 0 ↔ x = y := by
  unfold XT.cmpL
  split
  · rename_i q; constructor
    · intro w; exact absurd w (by decide)
    · intro w; subst w; simp only [Int64.lt_iff_toInt_lt] at q; omega
  · split
    · rename_i r; exact ⟨fun _ => r, fun _ => rfl⟩
    · rename_i r; constructor
      · intro w; exact absurd w (by decide)
      · intro w; exact absurd w r
end OwnKit
end Jvm.RoadKit
namespace Jvm.RoadKit
open Sem ClassFile Op Lib Jvm.Stand Jvm.Free Jvm.LawKit
section OwnHeap
variable {p : Program} {l : Launch} {e : Env} {R : Room} {s : State} {m : MethodId} {args : Array Value} {below : List Frame} {meth : Method} {c : Code} {T T' : State} {locs locs' : List Loc} {k n k' n' : Nat} {Z : State} {a0 : Array Value} {h h' h0 : Heap} {g : JFrame} {a b : Addr} {ws ws' : List Addr} {n0 : Nat}
theorem keep_ext (E : Ext h h') : Keep h h' [] := (Keep.refl h []).ext E
theorem nin1 {x y : Addr} (q : x ≠ y) : x ∉ [y] := ninS q nin0
/-- an array: its length and what each place holds -/
def Ary (Z : State) (h : Heap) (a : Addr) (ty : FieldType) (n : Nat) (f : Nat → Value) : Prop := ∃ c : Cell, Arr Z h a c ty ∧ c.slots.size = n ∧ n < 2 ^ 31 ∧ ∀ i, i < n → c.slots[i]? = some (f i)
def updN {α : Type} (f : Nat → α) (j : Nat) (v : α) : Nat → α := fun i => if i = j then v else f i
theorem updN_same {α : Type} (f : Nat → α) (j : Nat) (v : α) : updN f j v j = v := if_pos rfl
theorem updN_ne {α : Type} (f : Nat → α) {i j : Nat} (v : α) (q : i ≠ j) : updN f j v i = f i := if_neg q
def InB (j : Int32) (n : Nat) : Prop := ¬ j < 0 ∧ j.toNatClampNeg < n
instance (j : Int32) (n : Nat) : Decidable (InB j n) := inferInstanceAs (Decidable (¬ j < 0 ∧ j.toNatClampNeg < n))
variable {ty : FieldType} {len : Nat} {f : Nat → Value}
theorem Ary.lt (F : Ary Z h a ty len f) : a < h.size := by obtain ⟨c, A, -⟩ := F; exact A.lt
theorem Ary.keep (F : Ary Z h a ty len f) (K : Keep h h' ws) (q : a ∉ ws) : Ary Z h' a ty len f := by
  obtain ⟨c, A, r⟩ := F; exact ⟨c, ⟨K.2.1 a c A.1 q, A.2⟩, r⟩
theorem Ary.small (F : Ary Z h a ty len f) : len < 2 ^ 31 := by obtain ⟨c, A, r1, r2, -⟩ := F; exact r2
theorem Ary.congr {f' : Nat → Value} (F : Ary Z h a ty len f) (q : ∀ i, i < len → f i = f' i) : Ary Z h a ty len f' := by
  obtain ⟨c, A, r1, r2, r3⟩ := F; exact ⟨c, A, r1, r2, fun i hi => by rw [← q i hi]; exact r3 i hi⟩
theorem Ary.wr {v : Value} {j : Nat} (F : Ary Z h a ty len f) (W : Wr h h' a j v) (hj : j < len) : Ary Z h' a ty len (updN f j v) := by
  obtain ⟨c, A, r1, r2, r3⟩ := F
  refine ⟨_, A.same W, by rw [sz_set]; exact r1, r2, fun i hi => ?_⟩
  by_cases q : i = j
  · subst q; rw [updN_same]; simp [Cell.setSlot, r1, hi]
  · rw [updN_ne _ _ q]; simp only [Cell.setSlot]; rw [Array.getElem?_setIfInBounds_ne (Ne.symm q)]; exact r3 i hi
theorem not_in {j : Int32} {n : Nat} (q : InB j n) {c : Cell} (r : c.slots.size = n) : ¬ (j < 0 ∨ c.slots.size ≤ j.toNatClampNeg) := by
  rw [r]; obtain ⟨q1, q2⟩ := q; intro z; rcases z with z | z
  · exact q1 z
  · omega
theorem own_len (X : Stand p l e R s m args below meth c T locs k n) (hx : p.tables.exec = Jvm.exec) (hZ : Z.Warmed39 s.vm) (eT : T.heap = h) (A : Ary Z h a ty len f) {rest : List Value} (hg : g.method = m) (hs : g.stack = .ref a :: rest) (hd : decode c.code g.pc = .ok (.arraylength, 1)) (t : State)
    (hr : Steps p.tables e below (T.setTop { g with pc := g.pc + 1, stack := .int len.toInt32 :: rest }) t) : Steps p.tables e below (T.setTop g) t := by
  obtain ⟨cl, A1, r1, r2, r3⟩ := A
  refine X.arraylength hx (by rw [eT]; exact A1.1) (State.isArrayOf_alike hZ.alike A1.2.1) hg hs hd t ?_
  rw [r1]; exact hr
theorem own_ldI (X : Stand p l e R s m args below meth c T locs k n) (hx : p.tables.exec = Jvm.exec) (hZ : Z.Warmed39 s.vm) (eT : T.heap = h) (A : Ary Z h a .int len f) {j : Int32} (hj : InB j len) {v : Value} (hv : f j.toNatClampNeg = v) {rest : List Value} (hg : g.method = m) (hs : g.stack = .int j :: .ref a :: rest) (hd : decode c.code g.pc = .ok (.iaload, 1)) (t : State)
    (hr : Steps p.tables e below (T.setTop { g with pc := g.pc + 1, stack := v :: rest }) t) : Steps p.tables e below (T.setTop g) t := by
  obtain ⟨cl, A1, r1, r2, r3⟩ := A
  exact X.iaload hx (by rw [eT]; exact A1.1) (State.isArrayOf_alike hZ.alike A1.2.1) A1.2.2 (not_in hj r1) (by rw [r3 _ hj.2, hv]) hg hs hd t hr
theorem own_ldJ (X : Stand p l e R s m args below meth c T locs k n) (hx : p.tables.exec = Jvm.exec) (hZ : Z.Warmed39 s.vm) (eT : T.heap = h) (A : Ary Z h a .long len f) {j : Int32} (hj : InB j len) {v : Value} (hv : f j.toNatClampNeg = v) {rest : List Value} (hg : g.method = m) (hs : g.stack = .int j :: .ref a :: rest) (hd : decode c.code g.pc = .ok (.laload, 1)) (t : State)
    (hr : Steps p.tables e below (T.setTop { g with pc := g.pc + 1, stack := v :: rest }) t) : Steps p.tables e below (T.setTop g) t := by
  obtain ⟨cl, A1, r1, r2, r3⟩ := A
  exact X.laload hx (by rw [eT]; exact A1.1) (State.isArrayOf_alike hZ.alike A1.2.1) A1.2.2 (not_in hj r1) (by rw [r3 _ hj.2, hv]) hg hs hd t hr
theorem own_ldC (X : Stand p l e R s m args below meth c T locs k n) (hx : p.tables.exec = Jvm.exec) (hZ : Z.Warmed39 s.vm) (eT : T.heap = h) (A : Ary Z h a .char len f) {j : Int32} (hj : InB j len) {v : Value} (hv : f j.toNatClampNeg = v) {rest : List Value} (hg : g.method = m) (hs : g.stack = .int j :: .ref a :: rest) (hd : decode c.code g.pc = .ok (.caload, 1)) (t : State)
    (hr : Steps p.tables e below (T.setTop { g with pc := g.pc + 1, stack := v :: rest }) t) : Steps p.tables e below (T.setTop g) t := by
  obtain ⟨cl, A1, r1, r2, r3⟩ := A
  exact X.caload hx (by rw [eT]; exact A1.1) (State.isArrayOf_alike hZ.alike A1.2.1) A1.2.2 (not_in hj r1) (by rw [r3 _ hj.2, hv]) hg hs hd t hr
theorem own_ldB (X : Stand p l e R s m args below meth c T locs k n) (hx : p.tables.exec = Jvm.exec) (hZ : Z.Warmed39 s.vm) (eT : T.heap = h) (A : Ary Z h a .byte len f) {j : Int32} (hj : InB j len) {v : Value} (hv : f j.toNatClampNeg = v) {rest : List Value} (hg : g.method = m) (hs : g.stack = .int j :: .ref a :: rest) (hd : decode c.code g.pc = .ok (.baload, 1)) (t : State)
    (hr : Steps p.tables e below (T.setTop { g with pc := g.pc + 1, stack := v :: rest }) t) : Steps p.tables e below (T.setTop g) t := by
  obtain ⟨cl, A1, r1, r2, r3⟩ := A
  exact X.baloadBytes hx (by rw [eT]; exact A1.1) (State.isArrayOf_alike hZ.alike A1.2.1) A1.2.2 (not_in hj r1) (by rw [r3 _ hj.2, hv]) hg hs hd t hr
theorem own_ldA (X : Stand p l e R s m args below meth c T locs k n) (hx : p.tables.exec = Jvm.exec) (hZ : Z.Warmed39 s.vm) (eT : T.heap = h) (A : Ary Z h a ty len f) (hty : ty.isReference = true) {j : Int32} (hj : InB j len) {v : Value} (hv : f j.toNatClampNeg = v) {rest : List Value} (hg : g.method = m) (hs : g.stack = .int j :: .ref a :: rest) (hd : decode c.code g.pc = .ok (.aaload, 1)) (t : State)
    (hr : Steps p.tables e below (T.setTop { g with pc := g.pc + 1, stack := v :: rest }) t) : Steps p.tables e below (T.setTop g) t := by
  obtain ⟨cl, A1, r1, r2, r3⟩ := A
  exact X.aaload hx (by rw [eT]; exact A1.1) (State.isArrayOf_alike hZ.alike A1.2.1) hty A1.2.2 (not_in hj r1) (by rw [r3 _ hj.2, hv]) hg hs hd t hr
theorem own_stI (X : Stand p l e R s m args below meth c T locs k n) (hx : p.tables.exec = Jvm.exec) (hZ : Z.Warmed39 s.vm) (eT : T.heap = h) (N : Fr n0 locs) {G : Nat → Int32} (A : Ary Z h a .int len (fun i => .int (G i))) (ga : n0 ≤ a) {j x : Int32} (hj : InB j len) {rest : List Value} (hg : g.method = m) (hs : g.stack = .int x :: .int j :: .ref a :: rest) (hd : decode c.code g.pc = .ok (.iastore, 1)) :
    ∃ (T' : State) (h' : Heap) (locs' : List Loc), Stand p l e R s m args below meth c T' locs' k n ∧ T'.heap = h' ∧ Fr n0 locs' ∧ Keep h h' [a] ∧ Ary Z h' a .int len (fun i => .int (updN G j.toNatClampNeg x i)) ∧ ∀ t, Steps p.tables e below (T'.setTop { g with pc := g.pc + 1, stack := rest }) t → Steps p.tables e below (T.setTop g) t := by
  obtain ⟨cl, A1, r⟩ := A
  obtain ⟨T', h', X', e', W, st⟩ := stI X hx hZ eT A1 (not_in hj r.1) hg hs hd
  exact ⟨T', h', _, X', e', Fr.snoc X' N ga, Keep.of_wr W, (Ary.wr ⟨cl, A1, r⟩ W hj.2).congr (fun i _ => by unfold updN; split <;> rfl), st⟩
theorem own_stJ (X : Stand p l e R s m args below meth c T locs k n) (hx : p.tables.exec = Jvm.exec) (hZ : Z.Warmed39 s.vm) (eT : T.heap = h) (N : Fr n0 locs) {G : Nat → Int64} (A : Ary Z h a .long len (fun i => .long (G i))) (ga : n0 ≤ a) {j : Int32} {x : Int64} (hj : InB j len) {rest : List Value} (hg : g.method = m) (hs : g.stack = .long x :: .int j :: .ref a :: rest) (hd : decode c.code g.pc = .ok (.lastore, 1)) :
    ∃ (T' : State) (h' : Heap) (locs' : List Loc), Stand p l e R s m args below meth c T' locs' k n ∧ T'.heap = h' ∧ Fr n0 locs' ∧ Keep h h' [a] ∧ Ary Z h' a .long len (fun i => .long (updN G j.toNatClampNeg x i)) ∧ ∀ t, Steps p.tables e below (T'.setTop { g with pc := g.pc + 1, stack := rest }) t → Steps p.tables e below (T.setTop g) t := by
  obtain ⟨cl, A1, r⟩ := A
  obtain ⟨T', h', X', e', W, st⟩ := stJ X hx hZ eT A1 (not_in hj r.1) hg hs hd
  exact ⟨T', h', _, X', e', Fr.snoc X' N ga, Keep.of_wr W, (Ary.wr ⟨cl, A1, r⟩ W hj.2).congr (fun i _ => by unfold updN; split <;> rfl), st⟩
theorem own_stC (X : Stand p l e R s m args below meth c T locs k n) (hx : p.tables.exec = Jvm.exec) (hZ : Z.Warmed39 s.vm) (eT : T.heap = h) (N : Fr n0 locs) {G : Nat → Int32} (A : Ary Z h a .char len (fun i => .int (G i))) (ga : n0 ≤ a) {j x : Int32} (hj : InB j len) {rest : List Value} (hg : g.method = m) (hs : g.stack = .int x :: .int j :: .ref a :: rest) (hd : decode c.code g.pc = .ok (.castore, 1)) :
    ∃ (T' : State) (h' : Heap) (locs' : List Loc), Stand p l e R s m args below meth c T' locs' k n ∧ T'.heap = h' ∧ Fr n0 locs' ∧ Keep h h' [a] ∧ Ary Z h' a .char len (fun i => .int (updN G j.toNatClampNeg (nar .char x) i)) ∧ ∀ t, Steps p.tables e below (T'.setTop { g with pc := g.pc + 1, stack := rest }) t → Steps p.tables e below (T.setTop g) t := by
  obtain ⟨cl, A1, r⟩ := A
  obtain ⟨T', h', X', e', W, st⟩ := stC X hx hZ eT A1 (not_in hj r.1) hg hs hd
  exact ⟨T', h', _, X', e', Fr.snoc X' N ga, Keep.of_wr W, (Ary.wr ⟨cl, A1, r⟩ W hj.2).congr (fun i _ => by unfold updN; split <;> rfl), st⟩
theorem own_stB (X : Stand p l e R s m args below meth c T locs k n) (hx : p.tables.exec = Jvm.exec) (hZ : Z.Warmed39 s.vm) (eT : T.heap = h) (N : Fr n0 locs) {G : Nat → Int32} (A : Ary Z h a .byte len (fun i => .int (G i))) (ga : n0 ≤ a) {j x : Int32} (hj : InB j len) {rest : List Value} (hg : g.method = m) (hs : g.stack = .int x :: .int j :: .ref a :: rest) (hd : decode c.code g.pc = .ok (.bastore, 1)) :
    ∃ (T' : State) (h' : Heap) (locs' : List Loc), Stand p l e R s m args below meth c T' locs' k n ∧ T'.heap = h' ∧ Fr n0 locs' ∧ Keep h h' [a] ∧ Ary Z h' a .byte len (fun i => .int (updN G j.toNatClampNeg (nar .byte x) i)) ∧ ∀ t, Steps p.tables e below (T'.setTop { g with pc := g.pc + 1, stack := rest }) t → Steps p.tables e below (T.setTop g) t := by
  obtain ⟨cl, A1, r⟩ := A
  obtain ⟨T', h', X', e', W, st⟩ := stB X hx hZ eT A1 (not_in hj r.1) hg hs hd
  exact ⟨T', h', _, X', e', Fr.snoc X' N ga, Keep.of_wr W, (Ary.wr ⟨cl, A1, r⟩ W hj.2).congr (fun i _ => by unfold updN; split <;> rfl), st⟩
/-- newarray of a length that is not negative and at most cap -/
theorem own_new (X : Stand p l e R s m args below meth c T locs k n) (hx : p.tables.exec = Jvm.exec) (hZ : Z.Warmed39 s.vm) {aty : ArrayType} (w : (Jvm.Cond.arrayClass (newarray.typeOf aty)).before a0 Z = true) (eT : T.heap = h) (hg : g.method = m) (hd : decode c.code g.pc = .ok (.newarray aty, 2)) {z : Int32} {rest : List Value} (hs : g.stack = .int z :: rest)
    (hn : ¬ z < 0) {cap : Nat} (hcap : z.toNatClampNeg ≤ cap) (hb : cap * 8 ≤ 536870912) (hc : k + 1 ≤ R.cells) (hl : n + cap ≤ R.slots) :
    ∃ (T' : State) (h' : Heap) (a : Addr), Stand p l e R s m args below meth c T' locs (k + 1) (n + cap) ∧ T'.heap = h' ∧ a = h.size ∧ Keep h h' [] ∧ Ary Z h' a (newarray.typeOf aty) z.toNatClampNeg (fun _ => defaultValue (newarray.typeOf aty)) ∧
      ∀ t, Steps p.tables e below (T'.setTop { g with pc := g.pc + 2, stack := .ref a :: rest }) t → Steps p.tables e below (T.setTop g) t := by
  obtain ⟨T', h', cA, X', e', E, A, st⟩ := newP X hx hZ w eT hg hd hs hn hcap hb hc hl
  refine ⟨T', h', _, X', e', rfl, keep_ext E, ⟨_, A, sz_new _ _ _, ?_, fun i hi => ?_⟩, st⟩
  · exact (back32 hn).2
  · simp [newA, hi]
/-- an object's field written: the heap, what is kept, the field -/
theorem own_putF (X : Stand p l e R s m args below meth c T locs k n) (hx : p.tables.exec = Jvm.exec) (hZ : Z.Warmed39 s.vm) {own O nm d C : String} {index kk : Nat} {fty : FieldType} (hown : s.vm.findClass own = some m.cls) (w : (Jvm.Cond.fieldLink own index O nm d).before a0 Z = true)
    (eT : T.heap = h) (N : Fr n0 locs) {u v : Value} (F : Fld Z h a O nm d u) (E : Exa Z h a C) (ga : n0 ≤ a) (lw : (Jvm.Cond.lays C O nm d).before a0 Z = true ∨ ((Jvm.Cond.laysFinal C O nm d).before a0 Z = true ∧ own = O ∧ meth.name = "<init>")) (wi : (Jvm.Cond.instantiable C kk).before a0 Z = true)
    (hty : parseFieldDescriptor d = some fty) (hn : narrow fty v = v) (hf : fits fty v = true) {rest : List Value} (hg : g.method = m) (hs : g.stack = v :: .ref a :: rest) (hd : decode c.code g.pc = .ok (.putfield index, 3)) :
    ∃ (T' : State) (h' : Heap) (locs' : List Loc), Stand p l e R s m args below meth c T' locs' k n ∧ T'.heap = h' ∧ Fr n0 locs' ∧ Wr h h' a (slotOf Z O nm d) v ∧ Fld Z h' a O nm d v ∧ ∀ t, Steps p.tables e below (T'.setTop { g with pc := g.pc + 3, stack := rest }) t → Steps p.tables e below (T.setTop g) t := by
  obtain ⟨T', h', X', e', W, st⟩ := putF X hx hZ hown (host := "") (Or.inl w) Via.refl eT F E lw wi (ty := fty) hty hn hf hg hs hd
  exact ⟨T', h', _, X', e', Fr.snoc X' N ga, W, F.same W, st⟩
theorem Exa.neS {C : String} (F : Exa Z h a C) (q : b = h.size) : a ≠ b := by
  have r := Exa.lt F; intro z; rw [z, q] at r; exact Nat.lt_irrefl _ r
theorem Ary.neS (F : Ary Z h a ty len f) (q : b = h.size) : a ≠ b := by
  have r := Ary.lt F; intro z; rw [z, q] at r; exact Nat.lt_irrefl _ r
end OwnHeap
end Jvm.RoadKit
namespace Jvm.RoadKit
open Sem ClassFile Op Lib Jvm.Stand Jvm.Free Jvm.LawKit
section OwnNum
theorem i32lt (x y : Int32) : x < y ↔ x.toInt < y.toInt := Int32.lt_iff_toInt_lt
theorem i32eq (x y : Int32) : x = y ↔ x.toInt = y.toInt := Int32.toInt_inj.symm
theorem i64lt (x y : Int64) : x < y ↔ x.toInt < y.toInt := Int64.lt_iff_toInt_lt
theorem i64eq (x y : Int64) : x = y ↔ x.toInt = y.toInt := Int64.toInt_inj.symm
theorem nar0 : nar .boolean 0 = 0 := by decide
theorem nar1 : nar .boolean 1 = 1 := by decide
theorem narI (P : Prop) [Decidable P] : nar .boolean (if P then 1 else 0) = if P then 1 else 0 := by split <;> decide
theorem ushr_pos {x y : Int32} (hx : 0 ≤ x.toInt) {k : Nat} (hn : (y &&& 31).toUInt32.toNat = k) (hk : k < 32) : (XT.ushr x y).toInt = x.toInt / 2 ^ k :=
  Jvm.Kit.i32_iushr (Jvm.Kit.i32_nonneg.mpr hx) hn hk
theorem ushr_nat (x y : Int32) {k : Nat} (hn : (y &&& 31).toUInt32.toNat = k) (h1 : 0 < k) (hk : k < 32) : (XT.ushr x y).toInt = (x.toBitVec.toNat / 2 ^ k : Nat) := by
  have e1 : (XT.ushr x y).toBitVec.toNat = x.toBitVec.toNat / 2 ^ k := by
    show (x.toUInt32 >>> (y &&& 31).toUInt32).toNat = _
    rw [UInt32.toNat_shiftRight, hn, Nat.mod_eq_of_lt hk, Nat.shiftRight_eq_div_pow]
    rfl
  have e2 := x.toBitVec.isLt
  have e3 : x.toBitVec.toNat / 2 ^ k < 2 ^ 31 := by
    apply Nat.div_lt_of_lt_mul
    calc x.toBitVec.toNat < 2 ^ 32 := e2
      _ ≤ 2 ^ k * 2 ^ 31 := by rw [← Nat.pow_add]; exact Nat.pow_le_pow_right (by omega) (by omega)
  show (XT.ushr x y).toBitVec.toInt = _
  rw [BitVec.toInt_eq_toNat_of_lt (by rw [e1]; omega), e1]
theorem inb_of_toInt {j : Int32} {n : Nat} (h1 : 0 ≤ j.toInt) (h2 : j.toInt < n) : InB j n := by
  refine ⟨?_, ?_⟩
  · rw [i32lt]; show ¬ j.toInt < 0; omega
  · simp only [Int32.toNatClampNeg]; omega
theorem or32_nat (n : Nat) : n ||| 32 = n + (if n % 64 < 32 then 32 else 0) := by
  have h1 : (n ||| 32) % 2 ^ 6 = (n % 2 ^ 6) ||| (32 % 2 ^ 6) := Nat.or_mod_two_pow
  have h2 : (n ||| 32) / 2 ^ 6 = n / 2 ^ 6 := by
    rw [← Nat.shiftRight_eq_div_pow, Nat.shiftRight_or_distrib, ← Nat.shiftRight_eq_div_pow]
    simp
  have h3 : ∀ r : Fin 64, r.val ||| 32 = if r.val < 32 then r.val + 32 else r.val := by decide
  have h4 := h3 ⟨n % 64, Nat.mod_lt _ (by omega)⟩
  simp only at h4
  have h5 : (n % 2 ^ 6) ||| (32 % 2 ^ 6) = (n % 64) ||| 32 := rfl
  rw [h5, h4] at h1
  split at h1 <;> split <;> omega
theorem or32 (c : Int32) : (c ||| 32).toInt = c.toInt + (if c.toInt % 64 < 32 then 32 else 0) := by
  have e1 : (c ||| 32).toBitVec.toNat = c.toBitVec.toNat ||| 32 := by simp [BitVec.toNat_or]
  have e2 : c.toInt = c.toBitVec.toInt := rfl
  have e3 : (c ||| 32).toInt = (c ||| 32).toBitVec.toInt := rfl
  have e4 := c.toBitVec.isLt
  have e5 := (c ||| 32).toBitVec.isLt
  rw [e2, e3, BitVec.toInt_eq_toNat_cond, BitVec.toInt_eq_toNat_cond, e1, or32_nat]
  rw [e1, or32_nat] at e5
  split at e5 <;> split <;> split <;> split <;> omega
theorem i2c_toInt (x : Int32) : (x.toUInt32.toUInt16.toUInt32.toInt32).toInt = x.toInt % 65536 := by
  have e1 : (x.toUInt32.toUInt16.toUInt32.toInt32).toBitVec.toNat = x.toBitVec.toNat % 65536 := by
    show (x.toUInt32.toUInt16.toUInt32).toNat = _
    simp
    rfl
  have e2 := x.toBitVec.isLt
  have e3 : x.toInt = x.toBitVec.toInt := rfl
  have e4 : (x.toUInt32.toUInt16.toUInt32.toInt32).toInt = (x.toUInt32.toUInt16.toUInt32.toInt32).toBitVec.toInt := rfl
  rw [e3, e4, BitVec.toInt_eq_toNat_cond, BitVec.toInt_eq_toNat_cond, e1]
  split <;> split <;> omega
theorem mulbd {a b : Int} (h1 : 0 ≤ a) (h2 : a ≤ 2147483648) (h3 : 0 ≤ b) (h4 : b ≤ 2147483648) : 0 ≤ a * b ∧ a * b ≤ 4611686018427387904 := by
  refine ⟨Int.mul_nonneg h1 h3, ?_⟩
  have h : a * b ≤ 2147483648 * 2147483648 := Int.mul_le_mul h2 h4 h3 (by omega)
  omega
theorem mul64g {x y : Int64} (h1 : 0 ≤ x.toInt) (h2 : x.toInt ≤ 2147483648) (h3 : 0 ≤ y.toInt) (h4 : y.toInt ≤ 2147483648) : (x * y).toInt = x.toInt * y.toInt := by
  obtain ⟨b1, b2⟩ := mulbd h1 h2 h3 h4
  exact Jvm.Kit.i64_mul (by omega) (by omega)
theorem mul64 {x y : Int32} (h1 : 0 ≤ x.toInt) (h3 : 0 ≤ y.toInt) : (x.toInt64 * y.toInt64).toInt = x.toInt * y.toInt := by
  have e1 := Jvm.Kit.i64_of_i32 x
  have e2 := Jvm.Kit.i64_of_i32 y
  have b1 := Int32.toInt_lt x
  have b2 := Int32.toInt_lt y
  rw [mul64g (by omega) (by omega) (by omega) (by omega), e1, e2]
/-- the quotient q of a by b: b * q ≤ a < b * q + b -/
theorem quot {a b : Int} (hb : 0 < b) : b * (a / b) ≤ a ∧ a < b * (a / b) + b := by
  have h1 := Int.emod_def a b
  have h2 := Int.emod_nonneg a (show b ≠ 0 by omega)
  have h3 := Int.emod_lt_of_pos a hb
  omega
theorem div64 {x y : Int64} (h1 : 0 ≤ x.toInt) (h2 : 0 < y.toInt) : (x / y).toInt = x.toInt / y.toInt := by
  rw [Jvm.Kit.i64_div (by omega), Int.tdiv_eq_ediv_of_nonneg h1]
theorem mask31 (x : Int32) : (x &&& 2147483647).toInt = x.toInt % 2147483648 := by
  have := Jvm.Kit.i32_mask x 2147483647 (k := 31) (by decide) (by decide)
  omega
theorem rem32 {x y : Int32} (h : 0 ≤ x.toInt) (h2 : 0 < y.toInt) : 0 ≤ (x % y).toInt ∧ (x % y).toInt < y.toInt := by
  rw [Jvm.Kit.i32_rem_nonneg h]
  exact ⟨Int.emod_nonneg _ (by omega), Int.emod_lt_of_pos _ h2⟩
end OwnNum
end Jvm.RoadKit
namespace Jvm.RoadKit
open Sem ClassFile Op Lib Jvm.Stand Jvm.Free Jvm.LawKit
section OwnBits
theorem byte255 (y : Int32) : (nar .byte (y.toInt8.toInt32) &&& 255).toInt = y.toInt % 256 := by
  have h1 := Jvm.Kit.i32_mask (nar .byte (y.toInt8.toInt32)) 255 (k := 8) (by decide) (by decide)
  have h2 : (nar .byte (y.toInt8.toInt32)).toInt = (y.toInt.bmod 256).bmod 256 := by
    show ((y.toInt8.toInt32).toInt8.toInt32).toInt = _
    rw [Int8.toInt_toInt32, Int32.toInt_toInt8, Int8.toInt_toInt32, Int32.toInt_toInt8]
  rw [h1, h2]
  have h3 : ∀ z : Int, z.bmod 256 % 256 = z % 256 := fun z => Int.bmod_emod
  have h4 : (2 : Int) ^ 8 = 256 := rfl
  rw [h4, h3, h3]
theorem natOfI {x : Int32} (h : 0 ≤ x.toInt) : x.toBitVec.toNat = x.toInt.toNat := by
  have e : x.toInt = x.toBitVec.toInt := rfl
  have e2 := x.toBitVec.isLt
  rw [e, BitVec.toInt_eq_toNat_cond] at h ⊢
  split at h <;> split <;> omega
theorem ofNat31 {x : Int32} {n : Nat} (h : x.toBitVec.toNat = n) (h2 : n < 2 ^ 31) : x.toInt = n := by
  have e : x.toInt = x.toBitVec.toInt := rfl
  rw [e, BitVec.toInt_eq_toNat_of_lt (by rw [h]; omega), h]
theorem or_sum {a b : Int32} {k g : Nat} (ha : 0 ≤ a.toInt) (ha2 : a.toInt < 2 ^ k) (hb : b.toInt = (2 ^ k * g : Nat)) (hs : 2 ^ k * g + a.toInt.toNat < 2 ^ 31) : (a ||| b).toInt = a.toInt + b.toInt ∧ (b ||| a).toInt = a.toInt + b.toInt := by
  have e1 : a.toBitVec.toNat = a.toInt.toNat := natOfI ha
  have e2 : b.toBitVec.toNat = 2 ^ k * g := by rw [natOfI (by omega), hb]; exact Int.toNat_natCast _
  have hlt : a.toInt.toNat < 2 ^ k := by
    have : ((2 ^ k : Nat) : Int) = (2 : Int) ^ k := by simp
    omega
  have e3 := Nat.two_pow_add_eq_or_of_lt hlt g
  constructor
  · have e4 : (a ||| b).toBitVec.toNat = 2 ^ k * g + a.toInt.toNat := by
      show (a.toBitVec ||| b.toBitVec).toNat = _
      rw [BitVec.toNat_or, e1, e2, Nat.or_comm, ← e3]
    rw [ofNat31 e4 hs]; omega
  · have e4 : (b ||| a).toBitVec.toNat = 2 ^ k * g + a.toInt.toNat := by
      show (b.toBitVec ||| a.toBitVec).toNat = _
      rw [BitVec.toNat_or, e1, e2, ← e3]
    rw [ofNat31 e4 hs]; omega
theorem or128 {x : Int32} (h : 0 ≤ x.toInt) (h2 : x.toInt < 128) : (x ||| 128).toInt = x.toInt + 128 ∧ (128 ||| x).toInt = x.toInt + 128 := by
  have a : (128 : Int32).toInt = 128 := rfl
  have := or_sum (a := x) (b := 128) (k := 7) (g := 1) h (by omega) (by rw [a]; rfl) (by omega)
  rw [a] at this; exact this
/-- a group of seven bits laid above what is there -/
theorem acc {a g n : Int32} {k : Nat} (hn : (n.toBitVec.smod 32).toNat = k) (ha : 0 ≤ a.toInt) (ha2 : a.toInt < 2 ^ k) (hg : 0 ≤ g.toInt) (hs : g.toInt * 2 ^ k + a.toInt < 2 ^ 31) : (a ||| (g <<< n)).toInt = a.toInt + g.toInt * 2 ^ k := by
  have p : (0 : Int) < 2 ^ k := Int.pow_pos (by omega)
  have q : 0 ≤ g.toInt * 2 ^ k := Int.mul_nonneg hg (by omega)
  have e1 : (g <<< n).toInt = g.toInt * 2 ^ k := Jvm.Kit.i32_shl g n hn (by omega) (by omega)
  have e2 : (g <<< n).toInt = (2 ^ k * g.toInt.toNat : Nat) := by
    rw [e1, Int.natCast_mul, Int.toNat_of_nonneg hg, Int.mul_comm, Int.natCast_pow]; rfl
  have := (or_sum (a := a) (b := g <<< n) (k := k) (g := g.toInt.toNat) ha ha2 e2 (by have := e1.symm.trans e2; omega)).1
  rw [this, e1]
theorem and_not0 (x : Int64) : x &&& ((0 : Int64) ^^^ (-1)) = x := by
  apply Int64.toBitVec_inj.mp
  apply BitVec.eq_of_getLsbD_eq
  intro i hi
  have : (-1 : Int64).toBitVec = BitVec.allOnes 64 := by decide
  simp [this, hi]
theorem and_not2 (x a b : Int64) : (x &&& (a ^^^ (-1))) &&& (b ^^^ (-1)) = x &&& ((a ||| b) ^^^ (-1)) := by
  apply Int64.toBitVec_inj.mp
  apply BitVec.eq_of_getLsbD_eq
  intro i hi
  have : (-1 : Int64).toBitVec = BitVec.allOnes 64 := by decide
  simp [this, hi]
  exact Bool.and_assoc _ _ _
theorem clamp_eq {a b : Int32} (ha : 0 ≤ a.toInt) (hb : 0 ≤ b.toInt) : a.toNatClampNeg = b.toNatClampNeg ↔ a = b := by
  rw [i32eq]; simp only [Int32.toNatClampNeg]; omega
theorem mask63 (v : Int32) : ((v &&& 63).toInt64 &&& 63) = (v.toInt64 &&& 63) := by
  have h1 := Jvm.Kit.i64_mask (v &&& 63).toInt64 63 (k := 6) (by decide) (by decide)
  have h2 := Jvm.Kit.i64_mask v.toInt64 63 (k := 6) (by decide) (by decide)
  have h3 := Jvm.Kit.i32_mask v 63 (k := 6) (by decide) (by decide)
  rw [Jvm.Kit.i64_of_i32] at h1 h2
  rw [i64eq, h1, h2, h3]; omega
theorem charBack {x : Int32} (h : 0 ≤ x.toInt) (h2 : x.toInt < 65536) : nar .char (x.toUInt32.toUInt16.toUInt32.toInt32) = x := by
  have e1 : (nar .char (x.toUInt32.toUInt16.toUInt32.toInt32)).toInt = (x.toUInt32.toUInt16.toUInt32.toInt32).toInt % 65536 := i2c_toInt _
  rw [i32eq, e1, i2c_toInt]; omega
end OwnBits
end Jvm.RoadKit
namespace Jvm.RoadKit
open Sem ClassFile Op Lib Jvm.Stand Jvm.Free Jvm.LawKit
section OwnMore
variable {p : Program} {l : Launch} {e : Env} {R : Room} {s : State} {m : MethodId} {args : Array Value} {below : List Frame} {meth : Method} {c : Code} {T T' : State} {locs locs' : List Loc} {k n k' n' : Nat} {Z : State} {a0 : Array Value} {h h' h0 : Heap} {g : JFrame} {n0 : Nat} {a b : Addr}
/-- a private method called by invokevirtual; y2 is any method of its class that has a 'selects' word -/
theorem own_callP (X : Stand p l e R s m args below meth c T locs k n) (hx : p.tables.exec = Jvm.exec) (hZ : Z.Warmed39 s.vm) {own C D : String} {index : Nat} {y y2 : MethodName} {bytes : ByteArray} {maxL W : Nat} {rt : Option FieldType} {rm : Room} {a : Addr} {argsL rest : List Value} {ps : List FieldType} {r : Option FieldType} {Qc : Option Value → Heap → List Loc → Prop}
    (hown : s.vm.findClass own = some m.cls) (w1 : (Jvm.Cond.methodLink own index y).before a0 Z = true) (w5 : (Jvm.Cond.selects D y2 y2).before a0 Z = true) (hc2 : y2.cls = y.cls) (w6 : (Jvm.Cond.instanceMethod y).before a0 Z = true) (w7 : (Jvm.Cond.privateMethod y).before a0 Z = true) (w3 : (Jvm.Cond.initialized y.cls).before a0 Z = true) (w4 : (Jvm.Cond.code y bytes maxL rt).before a0 Z = true) (hy : y.cls ≠ "java/lang/invoke/MethodHandle" ∧ y.cls ≠ "java/lang/invoke/VarHandle")
    (E : Exa Z h a C)
    (hM : MetFree l y (head1 [Jvm.Cond.code y bytes maxL rt] rm) (fun a' U => a' = (Value.ref a :: argsL).toArray ∧ Z.Warmed39 U.vm ∧ U.heap = h) (fun _ _ _ _ _ => True) (fun _ U o U' => ∃ v L, o = .returned v ∧ Qc v U'.heap L ∧ FrameEnd U o U' L rm.cells rm.slots))
    (hf : rm.frames + 1 ≤ R.frames) (hl : W + (maxL + 11) + rm.locals ≤ R.locals) (hc : k + rm.cells ≤ R.cells) (hs : n + rm.slots ≤ R.slots) (eT : T.heap = h)
    (hg : g.method = m) (hsize : g.locals.size = c.maxLocals) (hd : parseMethodDescriptor y.desc = some ⟨ps, r⟩) (hlen : argsL.length = ps.length) (hstack : g.stack = argsL.reverse ++ .ref a :: rest) (hW : 2 * g.monitorRoom + (rest.map fun v => v.category).sum ≤ W) (hdg : decode c.code g.pc = .ok (.invokevirtual index, 3)) :
    ∃ v T' L, Stand p l e R s m args below meth c T' (locs ++ L) (k + rm.cells) (n + rm.slots) ∧ Qc v T'.heap L ∧ ∀ t, Steps p.tables e below (T'.setTop { g with pc := g.pc + 3, stack := v.toList ++ rest }) t → Steps p.tables e below (T.setTop g) t := by
  obtain ⟨mk, methM, hnamed, hmethM, hstM, habM⟩ := Cond.instanceMethod_spec (mvT (args := args) hZ w6)
  obtain ⟨methM', cM, hmethM', -, -, -, -, -, -, hsigM⟩ := Cond.code_spec hnamed (mvT (args := args) hZ w4)
  cases hmethM.symm.trans hmethM'
  obtain ⟨c2, r2, m2, -, -, q3, -, kP, hkP, hkPi⟩ := Cond.selects_spec (mvT (args := args) hZ w5)
  have f1 := findClass_of_methodNamed q3
  have f2 := findClass_of_methodNamed hnamed
  rw [hc2] at f1
  have f3 : m2.cls = mk.cls := Option.some.inj (f1.symm.trans f2)
  rw [f3] at hkP
  obtain ⟨cell, hcell, hobj⟩ := E.cell
  have hselP : selectMethod e.platform s.vm cell.cls mk = .method mk := selectMethod_private hmethM ((Cond.privateMethod_at (mvP (args := args) hZ w7)) mk methM hnamed hmethM)
  obtain ⟨vm₁, X₁, hstep₁⟩ := X.invokevirtual hx hown (mvT hZ w1) hnamed hmethM hstM hkP hkPi hy (a := a) (cell := cell) (by rw [eT]; exact hcell) hobj hselP hmethM habM hkP hkPi (g := g) hg (argsL := argsL) (rest := rest) (lenOf hd hlen _ hsigM) hstack hdg
  obtain ⟨v, ⟨T', L', k', n'⟩, X', ⟨Lc, hQ, l1, y1, z1⟩, st⟩ := (backOf (p := p) (e := e) (below := below) (R := R) (s := s) (args := args) (len := 3) (W := W) hM hZ w4 w3 hf hl) m meth c ⟨T.setVm vm₁, locs, k, n⟩ { g with stack := rest } (.invokevirtual index) mk (.ref a :: argsL).toArray X₁ hg hsize hdg hW (X₁.named hnamed) ⟨rfl, eT, hc, hs⟩
  dsimp only [Pt.U, Pt.locs, Pt.cells, Pt.slots] at X' l1 y1 z1 st hQ
  subst l1 y1 z1
  exact ⟨v, T', Lc, X', hQ, fun t k => ((hstep₁ _ (fun acts => by rw [doInvoke_state]; exact Steps.refl _)).trans st).trans k⟩
/-- System.arraycopy between two arrays of longs -/
theorem own_copyJ (X : Stand p l e R s m args below meth c T locs k n) (hx : p.tables.exec = Jvm.exec) (hZ : Z.Warmed39 s.vm) {own : String} {index : Nat} (hown : s.vm.findClass own = some m.cls)
    (w1 : (Jvm.Cond.methodLink own index (⟨"java/lang/System", "arraycopy", "(Ljava/lang/Object;ILjava/lang/Object;II)V"⟩ : MethodName)).before a0 Z = true) (w2 : (Jvm.Cond.native (⟨"java/lang/System", "arraycopy", "(Ljava/lang/Object;ILjava/lang/Object;II)V"⟩ : MethodName)).before a0 Z = true) (w3 : (Jvm.Cond.static (⟨"java/lang/System", "arraycopy", "(Ljava/lang/Object;ILjava/lang/Object;II)V"⟩ : MethodName)).before a0 Z = true) (w4 : (Jvm.Cond.initialized "java/lang/System").before a0 Z = true)
    (eT : T.heap = h) (N : Fr n0 locs) {G G' : Nat → Int64} {la lb : Nat} (A : Ary Z h a .long la (fun i => .long (G i))) (B : Ary Z h b .long lb (fun i => .long (G' i))) (gb : n0 ≤ b) {o q z : Nat} {jo jq jn : Int32} (ho : jo = Int32.ofNat o) (hq : jq = Int32.ofNat q) (hn : jn = Int32.ofNat z) (h4 : o + z ≤ la) (h5 : q + z ≤ lb)
    (hg : g.method = m) (hsize : g.locals.size = c.maxLocals) {rest : List Value} (hstack : g.stack = .int jn :: .int jq :: .ref b :: .int jo :: .ref a :: rest) (hdg : decode c.code g.pc = .ok (.invokestatic index, 3)) {W : Nat} (hW : 2 * g.monitorRoom + (rest.map fun v => v.category).sum ≤ W) (hfr : 1 ≤ R.frames) (hlo : W + 40 ≤ R.locals) :
    ∃ (T' : State) (h' : Heap) (locs' : List Loc), Stand p l e R s m args below meth c T' locs' k n ∧ T'.heap = h' ∧ Fr n0 locs' ∧ Keep h h' [b] ∧ Ary Z h' b .long lb (fun i => .long (if q ≤ i ∧ i < q + z then G (o + (i - q)) else G' i)) ∧ ∀ t, Steps p.tables e below (T'.setTop { g with pc := g.pc + 3, stack := rest }) t → Steps p.tables e below (T.setTop g) t := by
  obtain ⟨cA, hA, sA, lA, fA⟩ := A
  obtain ⟨cB, hB, sB, lB, fB⟩ := B
  have hal : Z.vm.Alike T.vm := (wtrans hZ X.warmed).alike
  have XA : XT.Arr .long a cA T := ⟨by rw [eT]; exact hA.1, State.isArrayOf_alike hal hA.2.1, hA.2.2, by rw [sA]; exact lA⟩
  have XB : XT.Arr .long b cB T := ⟨by rw [eT]; exact hB.1, State.isArrayOf_alike hal hB.2.1, hB.2.2, by rw [sB]; exact lB⟩
  have val : ∀ i, i < la → cA.slots.getD i .null = .long (G i) := fun i hi => by
    rw [Array.getD_eq_getD_getElem?, fA i hi]; rfl
  have hgo : XT.Goes .long cA o z cB T := fun i hi => by
    rw [val (o + i) (by omega)]
    exact ⟨rfl, fun q => by cases q⟩
  obtain ⟨T', B', X', P, c1, c2, c3, c4, st⟩ := X.acopy hx hown (index := index) (fun d hd => by
    simp only [XT.acW, List.mem_cons, List.not_mem_nil, or_false] at hd
    rcases hd with rfl | rfl | rfl | rfl
    · exact mvT hZ w1
    · exact mvT hZ w2
    · exact mvT hZ w3
    · exact mvT hZ w4) XA XB rfl ho hq hn (by rw [sA]; exact h4) (by rw [sB]; exact h5) hgo hg hsize hstack hdg hW hfr hlo
  refine ⟨T', _, _, X', rfl, N.app (fun y hy => by rw [copyLocs_base hy]; exact gb), ?_, ⟨B', ⟨P.1, ?_, by rw [c2]; exact hB.2.2⟩, by rw [c3]; exact sB, lB, ?_⟩, st⟩
  · refine ⟨by rw [P.2.2, eT]; exact Nat.le_refl _, fun x cx hxx nx => ?_, fun x cx hxx => ?_⟩
    · rw [P.2.1 x (fun q => nx (by simp [q])), eT]; exact hxx
    · by_cases q : x = b
      · subst q
        cases hB.1.symm.trans hxx
        exact ⟨B', P.1, c1, c2, c3⟩
      · exact ⟨cx, by rw [P.2.1 x q, eT]; exact hxx, rfl, rfl, rfl⟩
  · obtain ⟨q1, kk, q2, q3⟩ := hB.2.1
    exact ⟨by rw [c2]; exact q1, kk, by rw [c1]; exact q2, q3⟩
  · intro i hi
    show B'.slots[i]? = some (Value.long (if q ≤ i ∧ i < q + z then G (o + (i - q)) else G' i))
    rw [c4 i]
    by_cases qq : q ≤ i ∧ i < q + z
    · rw [if_pos qq, if_pos qq, val _ (by omega)]
    · rw [if_neg qq, if_neg qq]; exact fB i hi
end OwnMore
end Jvm.RoadKit
namespace Jvm.RoadKit
open Sem ClassFile Op Lib Jvm.Stand Jvm.Free Jvm.LawKit
section OwnWide
variable {p : Program} {l : Launch} {e : Env} {R : Room} {s s' s0 : State} {m : MethodId} {args : Array Value} {below : List Frame} {meth : Method} {c : Code} {T T' : State} {locs locs' : List Loc} {k n k' n' : Nat} {Z : State} {a0 : Array Value} {h h' h0 : Heap} {vm : Vm} {n1 : Nat}
variable {ret : Option FieldType} {Q : Option Value → Heap → List Loc → Prop} {K N : Nat} {g g' : JFrame}
/-- OwnFin, over tables that may have grown since s0 -/
def OwnFinW (s0 : State) (_X : Stand p l e R s m args below meth c T locs k n) (ret : Option FieldType) (Q : Option Value → Heap → List Loc → Prop) (K N : Nat) (g : JFrame) : Prop :=
  ∃ (i : Instr) (w v : Option Value) (T' : State) (locs' : List Loc) (k' n' pcr n1 : Nat) (Ls : Array Slot) (vm1 : Vm), OwnRet i ret w v ∧ Stand p l e R (s0.setVm vm1) m args below meth c T' locs' k' n' ∧ s0.Since vm1 n1 ∧ n1 ≤ T'.heap.size ∧ k' ≤ K ∧ n' ≤ N ∧ Q v T'.heap locs' ∧ decode c.code pcr = .ok (i, 1) ∧
    ∀ t, Steps p.tables e below (T'.setTop (mkF m pcr Ls w.toList)) t → Steps p.tables e below (T.setTop g) t
theorem OwnFinW.step {X : Stand p l e R s m args below meth c T locs k n} (X' : Stand p l e R s' m args below meth c T' locs' k' n') (hs : ∀ t, Steps p.tables e below (T'.setTop g') t → Steps p.tables e below (T.setTop g) t) (hF : OwnFinW s0 X' ret Q K N g') : OwnFinW s0 X ret Q K N g := by
  obtain ⟨i, w, v, T2, locs2, k2, n2, pcr, q1, Ls, vm1, h1, h2, h3, h4, h5, h6, h7, h8, h9⟩ := hF
  exact ⟨i, w, v, T2, locs2, k2, n2, pcr, q1, Ls, vm1, h1, h2, h3, h4, h5, h6, h7, h8, fun t k => hs t (h9 t k)⟩
theorem ostW (g' : JFrame) {X : Stand p l e R s m args below meth c T locs k n} (X' : Stand p l e R s' m args below meth c T' locs' k' n') (hs : ∀ t, Steps p.tables e below (T'.setTop g') t → Steps p.tables e below (T.setTop g) t) (hF : OwnFinW s0 X' ret Q K N g') : OwnFinW s0 X ret Q K N g := OwnFinW.step X' hs hF
theorem OwnFinW.retInt (X : Stand p l e R (s0.setVm vm) m args below meth c T locs k n) (hS : s0.Since vm n1) (hz : n1 ≤ T.heap.size) {pc : Nat} {Ls : Array Slot} {z : Int32} (hd : decode c.code pc = .ok (.ireturn, 1)) (hk : k ≤ K) (hn : n ≤ N) (hQ : Q (some (.int z)) T.heap locs) : OwnFinW s0 X (some .int) Q K N (mkF m pc Ls [.int z]) :=
  ⟨.ireturn, some (.int z), _, T, locs, k, n, pc, n1, Ls, vm, Or.inl ⟨rfl, z, rfl, rfl, rfl⟩, X, hS, hz, hk, hn, hQ, hd, fun _ k => k⟩
theorem OwnFinW.retNar (X : Stand p l e R (s0.setVm vm) m args below meth c T locs k n) (hS : s0.Since vm n1) (hz : n1 ≤ T.heap.size) {t : FieldType} (ht : t = .boolean ∨ t = .byte ∨ t = .char ∨ t = .short) {pc : Nat} {Ls : Array Slot} {z : Int32} (hd : decode c.code pc = .ok (.ireturn, 1)) (hk : k ≤ K) (hn : n ≤ N) (hQ : Q (some (.int (nar t z))) T.heap locs) : OwnFinW s0 X (some t) Q K N (mkF m pc Ls [.int z]) :=
  ⟨.ireturn, some (.int z), _, T, locs, k, n, pc, n1, Ls, vm, Or.inr (Or.inl ⟨rfl, t, z, rfl, ht, rfl, rfl⟩), X, hS, hz, hk, hn, hQ, hd, fun _ k => k⟩
theorem OwnFinW.retVoid (X : Stand p l e R (s0.setVm vm) m args below meth c T locs k n) (hS : s0.Since vm n1) (hz : n1 ≤ T.heap.size) {pc : Nat} {Ls : Array Slot} (hd : decode c.code pc = .ok (.return_, 1)) (hk : k ≤ K) (hn : n ≤ N) (hQ : Q none T.heap locs) : OwnFinW s0 X none Q K N (mkF m pc Ls []) :=
  ⟨.return_, none, _, T, locs, k, n, pc, n1, Ls, vm, Or.inr (Or.inr (Or.inr (Or.inr ⟨rfl, rfl, rfl, rfl⟩))), X, hS, hz, hk, hn, hQ, hd, fun _ k => k⟩
theorem own_metW {y : MethodName} {bytes : ByteArray} {maxL : Nat} {rm : Room} {ws : List Jvm.Cond} {as' : Array Value} {Ls : Array Slot} (hpf : plainFor y = true) (hent : ∀ m, entryFrame m as' maxL = mkF m 0 Ls [])
    (H : ∀ p e s m below meth c s₁ (X : Stand p l e rm s m as' below meth c s₁ [] 0 0), p.tables.exec = Jvm.exec → c.code = bytes → c.maxLocals = maxL → s.vm.findClass y.cls = some m.cls → meth.name = y.name → Z.Warmed39 s.vm → s₁.heap = h0 → OwnFinW s X ret Q rm.cells rm.slots (mkF m 0 Ls [])) :
    MetFree l y (head1 (Jvm.Cond.code y bytes maxL ret :: ws) rm) (fun a U => a = as' ∧ Z.Warmed39 U.vm ∧ U.heap = h0) (fun _ _ _ _ _ => True) (fun _ U o U' => ∃ v L, o = .returned v ∧ Q v U'.heap L ∧ ReturnedEndW U o U' L rm.cells rm.slots) := by
  refine MetFree.of_bodySF hpf hisR ?_
  intro p e s m args below meth c s₁ Bd hml0 hP hK
  obtain ⟨rfl, hZ, hh⟩ := hP
  have hx := Bd.exec
  have hby := Bd.bytes
  have hown : s.vm.findClass y.cls = some m.cls := findClass_of_methodNamed Bd.named
  have hnm := (name_of_methodNamed Bd.named Bd.method).1
  have X0 : Stand p l e rm s m args below meth c s₁ [] 0 0 := Stand.of_body Bd
  have e0 : s₁.heap = h0 := by rw [← hh, Bd.state]; rfl
  obtain ⟨i, w, v, T2, locs2, k2, n2, pcr, q1, Ls2, vm1, h1, X2, hS, hz, h3, h4, h5, h6, h7⟩ := H p e s m below meth c s₁ X0 hx hby hml0 hown hnm hZ e0
  have hret := Bd.returns
  have hv : meth.sig.returnType = none → v = none := by
    intro q
    rw [hret] at q
    rcases h1 with ⟨-, z, hr, -⟩ | ⟨-, t, z, hr, -⟩ | ⟨-, hr, -⟩ | ⟨-, t, u, hr, -⟩ | ⟨-, -, -, hr⟩
    · rw [hr] at q; cases q
    · rw [hr] at q; cases q
    · rw [hr] at q; cases q
    · rw [hr] at q; cases q
    · exact hr
  obtain ⟨fs, hr, hrun, hended, hE1, hE2, hE3, hE4⟩ := X2.leaveW hS hz (v := v) hv
  refine ⟨_, _, ?_, hrun, hended, _, _, rfl, h5, ⟨_, rfl⟩, hE2, hE3, hE4.mono h3 h4⟩
  rw [hent]
  apply h7
  rcases h1 with ⟨rfl, z, rfl, rfl, rfl⟩ | ⟨rfl, t, z, rfl, ht, rfl, rfl⟩ | ⟨rfl, rfl, z, rfl, rfl⟩ | ⟨rfl, t, u, rfl, ht, hu, hnw, rfl, rfl⟩ | ⟨rfl, rfl, rfl, rfl⟩
  · exact retI X2 hx hret h6 hr
  · exact retN X2 hx hret ht h6 hr
  · exact retOut X2 hx hret rfl (Or.inr (Or.inl ⟨rfl, rfl, z, rfl⟩)) h6 hr
  · exact retOut X2 hx hret hnw (Or.inr (Or.inr (Or.inr (Or.inr ⟨rfl, ht, hu⟩)))) h6 hr
  · exact X2.returnOut hx hret h6 hr
/-- a constructor called whose walk may have interned -/
theorem own_callIW (X : Stand p l e R s m args below meth c T locs k n) (hx : p.tables.exec = Jvm.exec) (hZ : Z.Warmed39 s.vm) {own : String} {index : Nat} {y : MethodName} {bytes : ByteArray} {maxL W : Nat} {rm : Room} {a : Addr} {argsL rest : List Value} {ps : List FieldType} {r : Option FieldType} {Qc : Option Value → Heap → List Loc → Prop}
    (hy1 : y.name = "<init>") (hown : s.vm.findClass own = some m.cls) (w1 : (Jvm.Cond.methodLink own index y).before a0 Z = true) (w2 : (Jvm.Cond.instanceMethod y).before a0 Z = true) (w3 : (Jvm.Cond.initialized y.cls).before a0 Z = true) (w4 : (Jvm.Cond.code y bytes maxL none).before a0 Z = true) (hy : y.cls ≠ "java/lang/invoke/MethodHandle" ∧ y.cls ≠ "java/lang/invoke/VarHandle")
    (hM : MetFree l y (head1 [Jvm.Cond.code y bytes maxL none] rm) (fun a' U => a' = (Value.ref a :: argsL).toArray ∧ Z.Warmed39 U.vm ∧ U.heap = h) (fun _ _ _ _ _ => True) (fun _ U o U' => ∃ v L, o = .returned v ∧ Qc v U'.heap L ∧ ReturnedEndW U o U' L rm.cells rm.slots))
    (hf : rm.frames + 1 ≤ R.frames) (hl : W + (maxL + 11) + rm.locals ≤ R.locals) (hc : k + rm.cells ≤ R.cells) (hs : n + rm.slots ≤ R.slots) (eT : T.heap = h)
    (hg : g.method = m) (hsize : g.locals.size = c.maxLocals) (hd : parseMethodDescriptor y.desc = some ⟨ps, r⟩) (hlen : argsL.length = ps.length) (hstack : g.stack = argsL.reverse ++ .ref a :: rest) (hW : 2 * g.monitorRoom + (rest.map fun v => v.category).sum ≤ W) (hdg : decode c.code g.pc = .ok (.invokespecial index, 3)) :
    ∃ v T' L, Stand p l e R (s.setVm T'.vm) m args below meth c T' (locs ++ L) (k + rm.cells) (n + rm.slots) ∧ s.Since T'.vm T'.heap.size ∧ T.heap.size ≤ T'.heap.size ∧ Z.Warmed39 (s.setVm T'.vm).vm ∧ (s.setVm T'.vm).vm.findClass own = some m.cls ∧ Qc v T'.heap L ∧ ∀ t, Steps p.tables e below (T'.setTop { g with pc := g.pc + 3, stack := v.toList ++ rest }) t → Steps p.tables e below (T.setTop g) t := by
  obtain ⟨v, vm1, ⟨T', L', k', n'⟩, -, X', hS, hgr, ⟨Lc, hQ, l1, y1, z1⟩, st⟩ := X.specialBackS hx (y := y) hy1 hown (mvT hZ w1) (mvT hZ w2) (mvT hZ w4) hy (backOfS (W := W) hM hZ w4 w3 hf hl) hg hsize (Steps.refl _) (a := a) (argsL := argsL) (rest := rest) (lenOf hd hlen) hstack hW hdg (fun _ _ => ⟨rfl, eT, hc, hs⟩)
  dsimp only [Pt.U, Pt.locs, Pt.cells, Pt.slots] at X' l1 y1 z1 st hQ hS hgr
  subst l1 y1 z1
  exact ⟨v, T', Lc, X', hS, hgr, State.Warmed39.trans (t := s) hZ hS.1, by rw [show (s.setVm T'.vm).vm = T'.vm from rfl, hS.1.alike.findClass]; exact hown, hQ, fun t k => st.trans k⟩
end OwnWide
end Jvm.RoadKit
namespace Jvm.RoadKit
open Sem ClassFile Op Lib Jvm.Stand Jvm.Free Jvm.LawKit
section OwnRefs
variable {p : Program} {l : Launch} {e : Env} {R : Room} {s : State} {m : MethodId} {args : Array Value} {below : List Frame} {meth : Method} {c : Code} {T T' : State} {locs locs' : List Loc} {k n k' n' : Nat} {Z : State} {a0 : Array Value} {h h' h0 : Heap} {g : JFrame} {n0 len : Nat} {a b : Addr} {ws : List Addr} {ty : FieldType} {f : Nat → Value}
/-- an array of references to objects of C that takes objects of C -/
def AryR (Z : State) (h : Heap) (a : Addr) (C : String) (n : Nat) (f : Nat → Value) : Prop := Ary Z h a (.object C) n f ∧ ∃ cl : Cell, h[a]? = some cl ∧ Ovr Z cl.cls C
theorem AryR.keep {C : String} (F : AryR Z h a C len f) (K : Keep h h' ws) (q : a ∉ ws) : AryR Z h' a C len f := by
  obtain ⟨A, cl, h1, h2⟩ := F
  exact ⟨A.keep K q, cl, K.2.1 a cl h1 q, h2⟩
theorem AryR.lt {C : String} (F : AryR Z h a C len f) : a < h.size := F.1.lt
theorem AryR.neS {C : String} (F : AryR Z h a C len f) (q : b = h.size) : a ≠ b := Ary.neS F.1 q
theorem Ary.old (F : Ary Z Z.heap a ty len f) (X : Old Z n0 h) : Ary Z h a ty len f := by
  obtain ⟨c, A, r⟩ := F
  exact ⟨c, A.ext X.2, r⟩
theorem own_newR (X : Stand p l e R s m args below meth c T locs k n) (hx : p.tables.exec = Jvm.exec) (hZ : Z.Warmed39 s.vm) {own C : String} {index : Nat} (hown : s.vm.findClass own = some m.cls) (w1 : (Jvm.Cond.classLink own index C).before a0 Z = true) (w2 : (Jvm.Cond.arrayOver (.object C)).before a0 Z = true) (eT : T.heap = h) (hg : g.method = m) (hd : decode c.code g.pc = .ok (.anewarray index, 3)) {z : Int32} {rest : List Value} (hs : g.stack = .int z :: rest)
    (hn : ¬ z < 0) {cap : Nat} (hcap : z.toNatClampNeg ≤ cap) (hb : cap * 8 ≤ 536870912) (hc : k + 1 ≤ R.cells) (hl : n + cap ≤ R.slots) :
    ∃ (T' : State) (h' : Heap) (a : Addr), Stand p l e R s m args below meth c T' locs (k + 1) (n + cap) ∧ T'.heap = h' ∧ a = h.size ∧ Keep h h' [] ∧ AryR Z h' a C z.toNatClampNeg (fun _ => .null) ∧
      ∀ t, Steps p.tables e below (T'.setTop { g with pc := g.pc + 3, stack := .ref a :: rest }) t → Steps p.tables e below (T.setTop g) t := by
  obtain ⟨T', h', cA, X', e', E, A, O, st⟩ := newR X hx hZ hown w1 w2 eT hg hd hs hn hcap hb hc hl
  refine ⟨T', h', _, X', e', rfl, keep_ext E, ⟨⟨_, A, sz_new _ _ _, (back32 hn).2, fun i hi => ?_⟩, _, A.1, O⟩, st⟩
  simp [newA, hi, defaultValue]
theorem own_sto {C D : String} {y : Addr} (A : AryR Z h a C len f) (E : Exa Z h y D) (w : (Jvm.Cond.castable D C).before a0 Z = true) : Sto Z h a (.ref y) := by
  obtain ⟨⟨cl, A1, r⟩, c2, O1, O2⟩ := A
  have q : cl = c2 := Option.some.inj (A1.1.symm.trans O1)
  subst q
  exact Sto.of A1 O2 (Ins.of_exa E w)
theorem own_stA (X : Stand p l e R s m args below meth c T locs k n) (hx : p.tables.exec = Jvm.exec) (hZ : Z.Warmed39 s.vm) (eT : T.heap = h) (N : Fr n0 locs) {C : String} {G : Nat → Value} (A : AryR Z h a C len G) (ga : n0 ≤ a) {j : Int32} {v : Value} (hj : InB j len) (F : Sto Z h a v) {rest : List Value} (hg : g.method = m) (hs : g.stack = v :: .int j :: .ref a :: rest) (hd : decode c.code g.pc = .ok (.aastore, 1)) :
    ∃ (T' : State) (h' : Heap) (locs' : List Loc), Stand p l e R s m args below meth c T' locs' k n ∧ T'.heap = h' ∧ Fr n0 locs' ∧ Keep h h' [a] ∧ AryR Z h' a C len (updN G j.toNatClampNeg v) ∧ ∀ t, Steps p.tables e below (T'.setTop { g with pc := g.pc + 1, stack := rest }) t → Steps p.tables e below (T.setTop g) t := by
  obtain ⟨⟨cl, A1, r⟩, c2, O1, O2⟩ := A
  obtain ⟨T', h', X', e', W, st⟩ := stR X hx hZ eT A1 (not_in hj r.1) rfl F hg hs hd
  have K := Keep.of_wr W
  obtain ⟨c', q1, q2, -⟩ := K.2.2 a c2 O1
  exact ⟨T', h', _, X', e', Fr.snoc X' N ga, K, ⟨Ary.wr ⟨cl, A1, r⟩ W hj.2, c', q1, by rw [q2]; exact O2⟩, st⟩
theorem own_putFV (X : Stand p l e R s m args below meth c T locs k n) (hx : p.tables.exec = Jvm.exec) (hZ : Z.Warmed39 s.vm) {own R0 O nm d C : String} {index kk : Nat} {fty : FieldType} (hown : s.vm.findClass own = some m.cls) (w : (Jvm.Cond.fieldLink own index R0 nm d).before a0 Z = true) (via : Via Z R0 O nm d)
    (eT : T.heap = h) (N : Fr n0 locs) {u v : Value} (F : Fld Z h a O nm d u) (E : Exa Z h a C) (ga : n0 ≤ a) (lw : (Jvm.Cond.lays C O nm d).before a0 Z = true ∨ ((Jvm.Cond.laysFinal C O nm d).before a0 Z = true ∧ own = O ∧ meth.name = "<init>")) (wi : (Jvm.Cond.instantiable C kk).before a0 Z = true)
    (hty : parseFieldDescriptor d = some fty) (hn : narrow fty v = v) (hf : fits fty v = true) {rest : List Value} (hg : g.method = m) (hs : g.stack = v :: .ref a :: rest) (hd : decode c.code g.pc = .ok (.putfield index, 3)) :
    ∃ (T' : State) (h' : Heap) (locs' : List Loc), Stand p l e R s m args below meth c T' locs' k n ∧ T'.heap = h' ∧ Fr n0 locs' ∧ Wr h h' a (slotOf Z O nm d) v ∧ Fld Z h' a O nm d v ∧ ∀ t, Steps p.tables e below (T'.setTop { g with pc := g.pc + 3, stack := rest }) t → Steps p.tables e below (T.setTop g) t := by
  obtain ⟨T', h', X', e', W, st⟩ := putF X hx hZ hown (host := "") (Or.inl w) via eT F E lw wi (ty := fty) hty hn hf hg hs hd
  exact ⟨T', h', _, X', e', Fr.snoc X' N ga, W, F.same W, st⟩
theorem own_callF (X : Stand p l e R s m args below meth c T locs k n) (hx : p.tables.exec = Jvm.exec) (hZ : Z.Warmed39 s.vm) {own C : String} {index count : Nat} {xi y : MethodName} {bytes : ByteArray} {maxL W : Nat} {rt : Option FieldType} {rm : Room} {a : Addr} {argsL rest : List Value} {ps : List FieldType} {r : Option FieldType} {Qc : Option Value → Heap → List Loc → Prop}
    (hown : s.vm.findClass own = some m.cls) (w1 : (Jvm.Cond.methodLink own index xi).before a0 Z = true) (w2 : (Jvm.Cond.declares xi).before a0 Z = true) (w5 : (Jvm.Cond.interfaceMethod xi.cls xi.cls xi.name xi.desc).before a0 Z = true) (w6 : (Jvm.Cond.selects C xi y).before a0 Z = true) (w7 : (Jvm.Cond.instanceMethod y).before a0 Z = true) (w8 : (Jvm.Cond.publicMethod y).before a0 Z = true) (w9 : (Jvm.Cond.unhidden C xi.name xi.desc).before a0 Z = true) (w10 : (Jvm.Cond.castable C xi.cls).before a0 Z = true) (hfa : ((Jvm.Cond.interfaceMethod xi.cls xi.cls xi.name xi.desc).onTables && (Jvm.Cond.interfaceMethod xi.cls xi.cls xi.name xi.desc).keepsFace) = true) (w3 : (Jvm.Cond.initialized y.cls).before a0 Z = true) (w4 : (Jvm.Cond.code y bytes maxL rt).before a0 Z = true) (hy : xi.cls ≠ "java/lang/invoke/MethodHandle" ∧ xi.cls ≠ "java/lang/invoke/VarHandle")
    (E : Exa Z h a C)
    (hM : MetFree l y (head1 [Jvm.Cond.code y bytes maxL rt] rm) (fun a' U => a' = (Value.ref a :: argsL).toArray ∧ Z.Warmed39 U.vm ∧ U.heap = h) (fun _ _ _ _ _ => True) (fun _ U o U' => ∃ v L, o = .returned v ∧ Qc v U'.heap L ∧ FrameEnd U o U' L rm.cells rm.slots))
    (hf : rm.frames + 1 ≤ R.frames) (hl : W + (maxL + 11) + rm.locals ≤ R.locals) (hc : k + rm.cells ≤ R.cells) (hs : n + rm.slots ≤ R.slots) (eT : T.heap = h)
    (hg : g.method = m) (hsize : g.locals.size = c.maxLocals) (hd : parseMethodDescriptor xi.desc = some ⟨ps, r⟩) (hlen : argsL.length = ps.length) (hstack : g.stack = argsL.reverse ++ .ref a :: rest) (hW : 2 * g.monitorRoom + (rest.map fun v => v.category).sum ≤ W) (hdg : decode c.code g.pc = .ok (.invokeinterface index count, 5)) :
    ∃ v T' L, Stand p l e R s m args below meth c T' (locs ++ L) (k + rm.cells) (n + rm.slots) ∧ Qc v T'.heap L ∧ ∀ t, Steps p.tables e below (T'.setTop { g with pc := g.pc + 5, stack := v.toList ++ rest }) t → Steps p.tables e below (T.setTop g) t := by
  obtain ⟨cq, kq, q1, q2, q3⟩ := isOf hZ eT E
  obtain ⟨v, vm1, ⟨T', L', k', n'⟩, -, X', ⟨Lc, hQ, l1, y1, z1⟩, st⟩ := X.interfaceBack hx (xi := xi) (y := y) (index := index) (count := count) hown (mvT hZ w1) (mvT hZ w2) (mvT hZ w5 hfa) (mvT hZ w6) (mvT hZ w7) (mvT hZ w8) (mvT hZ w9) (mvT hZ w10) hy (backOf (W := W) hM hZ w4 w3 hf hl) q1 q2 q3 hg hsize (Steps.refl _) (argsL := argsL) (rest := rest) (lenOf hd hlen) hstack hW hdg (fun _ _ => ⟨rfl, eT, hc, hs⟩)
  dsimp only [Pt.U, Pt.locs, Pt.cells, Pt.slots] at X' l1 y1 z1 st hQ
  subst l1 y1 z1
  exact ⟨v, T', Lc, X', hQ, fun t k => st.trans k⟩
/-- a static that holds an empty array -/
theorem own_empty {C nm d : String} (w1 : (Jvm.Cond.arrayOf (Term.static C nm d) ty).value args Z none Z [] = some true) (w2 : (Jvm.Cond.eq (Term.length (Term.static C nm d)) (Term.int 0)).value args Z none Z [] = some true) (hi : (Jvm.Cond.initializedFor C nm d).before args Z = true ∨ ((Jvm.Cond.initialized C).before args Z = true ∧ (Jvm.Cond.laysStatic C nm d).before args Z = true)) : ∃ a : Addr, Sta Z Z.heap C nm d (.ref a) ∧ Ary Z Z.heap a ty 0 (fun _ => .null) := by
  obtain ⟨a, ev⟩ := arr_v w1
  obtain ⟨c, A⟩ := Arr.start ev w1
  have hat : Z.arrayAt? a = some c := Arr.fin (State.Warmed39.refl Z).alike A
  have hl : c.slots.size = 0 := by
    cases hlen : (Term.length (Term.static C nm d)).eval args Z none [] Z with
    | none => simp [Cond.value, hlen] at w2
    | some v =>
      by_cases hb : c.slots.size < 2 ^ 31
      · have q := len_f (t := Term.static C nm d) ev hat hb
        have z := gotT (Cond.eq_ints q (Term.int_eval (0))) w2
        have z2 := congrArg Int32.toInt z
        rw [len_toInt hb] at z2
        have z3 : (0 : Int32).toInt = 0 := rfl
        omega
      · have hb' : ¬ c.slots.size < 2147483648 := hb
        simp [Term.eval] at hlen ev
        simp [ev, hat, hb'] at hlen
  exact ⟨a, Sta.start ev hi, c, A, hl, by decide, fun i hi => absurd hi (Nat.not_lt_zero i)⟩
end OwnRefs
end Jvm.RoadKit
namespace Jvm.RoadKit
open Sem ClassFile Op Lib Jvm.Stand Jvm.Free Jvm.LawKit
section OwnBits2
/-- bits of longs, told by getLsbD -/
theorem bitsEq {x y : Int64} (h : ∀ i, i < 64 → x.toBitVec.getLsbD i = y.toBitVec.getLsbD i) : x = y := by
  apply Int64.toBitVec_inj.mp
  exact BitVec.eq_of_getLsbD_eq h
theorem bAnd (x y : Int64) (i : Nat) : (x &&& y).toBitVec.getLsbD i = (x.toBitVec.getLsbD i && y.toBitVec.getLsbD i) := by
  show (x.toBitVec &&& y.toBitVec).getLsbD i = _
  exact BitVec.getLsbD_and
theorem bOr (x y : Int64) (i : Nat) : (x ||| y).toBitVec.getLsbD i = (x.toBitVec.getLsbD i || y.toBitVec.getLsbD i) := by
  show (x.toBitVec ||| y.toBitVec).getLsbD i = _
  exact BitVec.getLsbD_or
theorem bXor (x y : Int64) (i : Nat) : (x ^^^ y).toBitVec.getLsbD i = (x.toBitVec.getLsbD i ^^ y.toBitVec.getLsbD i) := by
  show (x.toBitVec ^^^ y.toBitVec).getLsbD i = _
  exact BitVec.getLsbD_xor
theorem bZero (i : Nat) : (0 : Int64).toBitVec.getLsbD i = false := by
  show (0#64).getLsbD i = false
  simp
theorem bTop {x : Int64} {b : Nat} (h : x.toBitVec.toNat < 2 ^ b) {i : Nat} (hi : b ≤ i) : x.toBitVec.getLsbD i = false :=
  Nat.testBit_lt_two_pow (Nat.lt_of_lt_of_le h (Nat.pow_le_pow_right (by omega) hi))
theorem amt (y : Int32) {k : Nat} (hy : y.toInt = k) (hk : k < 64) : (y.toInt64 &&& 63) = Int64.ofNat k := by
  have h := Jvm.Kit.i64_mask y.toInt64 63 (k := 6) (by decide) (by decide)
  have e : (Int64.ofNat k).toInt = (k : Int) := by first | exact Int64.toInt_ofNat_of_lt (by omega) | exact Int64.toInt_ofNat_small (by omega)
  rw [i64eq, h, Jvm.Kit.i64_of_i32, hy, e]; omega
theorem amtL : ∀ k : Fin 64, ((Int64.ofNat k.val).toBitVec.smod 64).toNat = k.val := by decide
theorem amtR : ∀ k : Fin 64, ((Int64.ofNat k.val).toUInt64.toBitVec % 64).toNat = k.val := by decide
theorem bShl (x : Int64) (y : Int32) {k : Nat} (hy : y.toInt = k) (hk : k < 64) {i : Nat} (hi : i < 64) : (x <<< (y.toInt64 &&& 63)).toBitVec.getLsbD i = (decide (k ≤ i) && x.toBitVec.getLsbD (i - k)) := by
  rw [amt y hy hk, Int64.toBitVec_shiftLeft, BitVec.shiftLeft_eq', amtL ⟨k, hk⟩, BitVec.getLsbD_shiftLeft]
  by_cases q : k ≤ i
  · have q' : ¬ i < k := by omega
    simp [q, q', hi]
  · have q' : i < k := by omega
    simp [q, q', hi]
theorem bShr (x : Int64) (y : Int32) {k : Nat} (hy : y.toInt = k) (hk : k < 64) (i : Nat) : (XT.ushrL x y).toBitVec.getLsbD i = x.toBitVec.getLsbD (k + i) := by
  have e : (y.toInt64.toUInt64 &&& Int64.toUInt64 63) = (Int64.ofNat k).toUInt64 := congrArg Int64.toUInt64 (amt y hy hk)
  unfold XT.ushrL
  rw [e]
  show (x.toUInt64 >>> (Int64.ofNat k).toUInt64).toBitVec.getLsbD i = _
  rw [UInt64.toBitVec_shiftRight, BitVec.ushiftRight_eq', amtR ⟨k, hk⟩, BitVec.getLsbD_ushiftRight]
  rfl
theorem natOfL {x : Int64} (h : 0 ≤ x.toInt) : x.toBitVec.toNat = x.toInt.toNat := by
  have e : x.toInt = x.toBitVec.toInt := rfl
  have e2 := x.toBitVec.isLt
  rw [e, BitVec.toInt_eq_toNat_cond] at h ⊢
  split at h <;> split <;> omega
theorem int64nat {x : Int64} {n : Nat} (h : x.toBitVec.toNat ≤ n) (hn : n < 2 ^ 63) : 0 ≤ x.toInt ∧ x.toInt ≤ n := by
  have e : x.toInt = x.toBitVec.toInt := rfl
  rw [e, BitVec.toInt_eq_toNat_of_lt (by omega)]; omega
theorem nat64lt {x : Int64} {b : Nat} (h : 0 ≤ x.toInt) (h2 : x.toInt < ((2 ^ b : Nat) : Int)) : x.toBitVec.toNat < 2 ^ b := by
  rw [natOfL h]; omega
theorem back32L {x : Int64} (h1 : 0 ≤ x.toInt) (h2 : x.toInt < 2147483648) : (x.toInt32).toInt64 = x := by
  rw [i64eq, Jvm.Kit.i64_of_i32, Jvm.Kit.i32_of_i64 (by omega) (by omega)]
theorem back64I (x : Int32) : (x.toInt64).toInt32 = x := by
  have h1 := Int32.le_toInt x
  have h2 := Int32.toInt_lt x
  have e := Jvm.Kit.i64_of_i32 x
  rw [i32eq, Jvm.Kit.i32_of_i64 (by omega) (by omega), e]
/-- a field of b bits at the place s: written and read back -/
theorem own_field (t v C M : Int64) (y : Int32) (s b : Nat) (hs : s + b ≤ 64) (hs64 : s < 64) (hy : y.toInt = s) (hC : ∀ i : Fin 64, C.toBitVec.getLsbD i.val = !(decide (s ≤ i.val) && decide (i.val < s + b))) (hM : ∀ i : Fin 64, M.toBitVec.getLsbD i.val = decide (i.val < b)) (hv : v.toBitVec.toNat < 2 ^ b) :
    ((((t &&& C) ||| (v <<< (y.toInt64 &&& 63))) ^^^ t) &&& C) = 0 ∧ (XT.ushrL ((t &&& C) ||| (v <<< (y.toInt64 &&& 63))) y &&& M) = v := by
  constructor
  · apply bitsEq
    intro i hi
    rw [bAnd, bXor, bOr, bAnd, bShl v y hy hs64 hi, hC ⟨i, hi⟩, bZero]
    by_cases q1 : s ≤ i
    · by_cases q2 : i < s + b
      · simp [q1, q2]
      · rw [bTop hv (show b ≤ i - s by omega)]
        simp [q2]
    · simp [q1]
  · apply bitsEq
    intro i hi
    rw [bAnd, bShr _ y hy hs64, hM ⟨i, hi⟩]
    by_cases q : i < b
    · rw [bOr, bAnd, bShl v y hy hs64 (show s + i < 64 by omega), hC ⟨s + i, by omega⟩]
      have q1 : s ≤ s + i := by omega
      have q2 : s + i < s + b := by omega
      have q3 : s + i - s = i := by omega
      simp [q, q1, q2, q3]
    · rw [bTop hv (show b ≤ i by omega)]
      simp [q]
end OwnBits2
end Jvm.RoadKit
namespace Jvm.Pilot.@@N@@
open Jvm Jvm.ClassFile Sem Op Lib Jvm.Free Jvm.Stand Jvm.LawKit Jvm.RoadKit Bundle Jvm.Pilot.@@N@@.Jvm.D
/-! body 5: java/lang/Math.min:(II)I -/
theorem d5_0 : decode jdk_29_method_69_code 0 = .ok (.iload_n 0, 1) := by decide +kernel
theorem d5_1 : decode jdk_29_method_69_code 1 = .ok (.iload_n 1, 1) := by decide +kernel
theorem d5_2 : decode jdk_29_method_69_code 2 = .ok (.if_icmp .gt 7, 3) := by decide +kernel
theorem d5_5 : decode jdk_29_method_69_code 5 = .ok (.iload_n 0, 1) := by decide +kernel
theorem d5_6 : decode jdk_29_method_69_code 6 = .ok (.goto 4, 3) := by decide +kernel
theorem d5_9 : decode jdk_29_method_69_code 9 = .ok (.iload_n 1, 1) := by decide +kernel
theorem d5_10 : decode jdk_29_method_69_code 10 = .ok (.ireturn, 1) := by decide +kernel
theorem ef_5 (m : MethodId) (p0 : Int32) (p1 : Int32) : entryFrame m #[(.int p0), (.int p1)] 2 = mkF m 0 #[.val (.int p0), .val (.int p1)] [] := by first | (simp [entryFrame, mkF, argsToLocals, Value.category]; done) | rfl
def f5_0 (p0 : Int32) (p1 : Int32) : Int32 := (if p1 < p0 then p1 else p0)
set_option maxRecDepth 65536 in
set_option maxHeartbeats 40000000 in
theorem j5_0 {p : Program} {l : Launch} {e : Env} {s : State} {m : MethodId} {args : Array Value} {below : List Frame} {meth : Method} {c : Code} {T0 : State} {locs : List Loc} {Z : State} {a0 : Array Value} {h0 : Heap} {n0 : Nat}
    (X0 : Stand p l e ({ frames := 0, cells := 0, slots := 0, locals := 0 } : Room) s m args below meth c T0 locs 0 0) (hx : p.tables.exec = Jvm.exec) (hZ : Z.Warmed39 s.vm) (hw : ∀ d ∈ tables_1, d.before a0 Z = true) (hby : c.code = jdk_29_method_69_code) (hml : c.maxLocals = 2) (hown : s.vm.findClass "java/lang/Math" = some m.cls) (e0 : T0.heap = h0) (N0 : Fr n0 locs) (Z0 : n0 ≤ h0.size) (p0 : Int32) (p1 : Int32) :
    OwnFin X0 (some .int) (PQ (some (.int (f5_0 p0 p1))) h0 n0) 0 0 (mkF m 0 #[.val (.int p0), .val (.int p1)] []) := by
  show OwnFin X0 (some .int) (PQ (some (.int (if p1 < p0 then p1 else p0))) h0 n0) 0 0 _
  refine OwnFin.step (g' := (mkF m 1 #[.val (.int p0), .val (.int p1)] [(.int p0)])) X0 (fun t k => XS.iloadN X0.here hx rfl (hb hby d5_0) rfl k) ?_
  refine OwnFin.step (g' := (mkF m 2 #[.val (.int p0), .val (.int p1)] [(.int p1), (.int p0)])) X0 (fun t k => XS.iloadN X0.here hx rfl (hb hby d5_1) rfl k) ?_
  by_cases hc1 : p1 < p0
  · rw [if_pos hc1]
    refine OwnFin.step (g' := (mkF m 9 #[.val (.int p0), .val (.int p1)] [])) X0 (fun t k => XS.icmpYes X0.here hx rfl (pc0 := 2) (pc' := 9) rfl (hb hby d5_2) rfl (tlt hc1).2.2.1 (by decide) (by decide) k) ?_
    refine OwnFin.step (g' := (mkF m 10 #[.val (.int p0), .val (.int p1)] [(.int p1)])) X0 (fun t k => XS.iloadN X0.here hx rfl (hb hby d5_9) rfl k) ?_
    exact OwnFin.retInt X0 (hb hby d5_10) (Nat.le_refl _) (Nat.le_refl _) ⟨rfl, e0, N0⟩
  · rw [if_neg hc1]
    refine OwnFin.step (g' := (mkF m 5 #[.val (.int p0), .val (.int p1)] [])) X0 (fun t k => XS.icmpNo X0.here hx rfl (hb hby d5_2) rfl (flt hc1).2.2.1 k) ?_
    refine OwnFin.step (g' := (mkF m 6 #[.val (.int p0), .val (.int p1)] [(.int p0)])) X0 (fun t k => XS.iloadN X0.here hx rfl (hb hby d5_5) rfl k) ?_
    refine OwnFin.step (g' := (mkF m 10 #[.val (.int p0), .val (.int p1)] [(.int p0)])) X0 (fun t k => XS.goto X0.here hx rfl (pc0 := 6) (pc' := 10) rfl (hb hby d5_6) (by decide) (by decide) k) ?_
    exact OwnFin.retInt X0 (hb hby d5_10) (Nat.le_refl _) (Nat.le_refl _) ⟨rfl, e0, N0⟩
def r5 (p0 : Int32) (p1 : Int32) : Int32 := f5_0 p0 p1
set_option maxRecDepth 65536 in
set_option maxHeartbeats 40000000 in
theorem rm5 (l : Launch) (Z : State) (a0 : Array Value) (hw : ∀ d ∈ tables_1, d.before a0 Z = true) (ws : List Jvm.Cond) (p0 : Int32) (p1 : Int32) (h0 : Heap) (n0 : Nat) (Z0 : n0 ≤ h0.size) :
    MetFree l (⟨"java/lang/Math", "min", "(II)I"⟩ : MethodName) (head1 (Jvm.Cond.code (⟨"java/lang/Math", "min", "(II)I"⟩ : MethodName) jdk_29_method_69_code 2 (some .int) :: ws) ({ frames := 0, cells := 0, slots := 0, locals := 0 } : Room)) (fun a U => a = #[(.int p0), (.int p1)] ∧ Z.Warmed39 U.vm ∧ U.heap = h0) (fun _ _ _ _ _ => True) (fun _ U o U' => ∃ v L, o = .returned v ∧ PQ (some (.int (r5 p0 p1))) h0 n0 v U'.heap L ∧ FrameEnd U o U' L ({ frames := 0, cells := 0, slots := 0, locals := 0 } : Room).cells ({ frames := 0, cells := 0, slots := 0, locals := 0 } : Room).slots) :=
  own_met (ret := (some .int)) (Jvm.Free.JP.mathPlain rfl (by decide +kernel)) (fun m => ef_5 m p0 p1) (fun p e s m below meth c s₁ X hx hby hml hown hnm hZ e0 => OwnFin.wide (j5_0 X hx hZ hw hby hml hown e0 (Fr.nil n0) Z0 p0 p1) (Nat.zero_le _) (Nat.zero_le _))
/-! body 15: com/example/ken2/ken2/RememberedStepsTakePinLaw.agrees:(JJJJ)Z -/
theorem d15_0 : decode method_3_code 0 = .ok (.lload_n 0, 1) := by decide +kernel
theorem d15_1 : decode method_3_code 1 = .ok (.lload_n 2, 1) := by decide +kernel
theorem d15_2 : decode method_3_code 2 = .ok (.lxor, 1) := by decide +kernel
theorem d15_3 : decode method_3_code 3 = .ok (.lload 4, 2) := by decide +kernel
theorem d15_5 : decode method_3_code 5 = .ok (.ldc2_w 16, 3) := by decide +kernel
theorem d15_8 : decode method_3_code 8 = .ok (.lxor, 1) := by decide +kernel
theorem d15_9 : decode method_3_code 9 = .ok (.land, 1) := by decide +kernel
theorem d15_10 : decode method_3_code 10 = .ok (.lconst 0, 1) := by decide +kernel
theorem d15_11 : decode method_3_code 11 = .ok (.lcmp, 1) := by decide +kernel
theorem d15_12 : decode method_3_code 12 = .ok (.ifCond .ne 19, 3) := by decide +kernel
theorem d15_15 : decode method_3_code 15 = .ok (.lload_n 0, 1) := by decide +kernel
theorem d15_16 : decode method_3_code 16 = .ok (.lload 6, 2) := by decide +kernel
theorem d15_18 : decode method_3_code 18 = .ok (.lxor, 1) := by decide +kernel
theorem d15_19 : decode method_3_code 19 = .ok (.lload 4, 2) := by decide +kernel
theorem d15_21 : decode method_3_code 21 = .ok (.land, 1) := by decide +kernel
theorem d15_22 : decode method_3_code 22 = .ok (.lconst 0, 1) := by decide +kernel
theorem d15_23 : decode method_3_code 23 = .ok (.lcmp, 1) := by decide +kernel
theorem d15_24 : decode method_3_code 24 = .ok (.ifCond .ne 7, 3) := by decide +kernel
theorem d15_27 : decode method_3_code 27 = .ok (.iconst 1, 1) := by decide +kernel
theorem d15_28 : decode method_3_code 28 = .ok (.goto 4, 3) := by decide +kernel
theorem d15_31 : decode method_3_code 31 = .ok (.iconst 0, 1) := by decide +kernel
theorem d15_32 : decode method_3_code 32 = .ok (.ireturn, 1) := by decide +kernel
theorem pn_15 : plainName "com/example/ken2/ken2/RememberedStepsTakePinLaw" = true := by first | (simp [plainName, overriddenIn]; done) | decide +kernel
theorem ef_15 (m : MethodId) (q0 : Int64) (q1 : Int64) (q2 : Int64) (q3 : Int64) : entryFrame m #[(.long q0), (.long q1), (.long q2), (.long q3)] 8 = mkF m 0 #[.val (.long q0), .second, .val (.long q1), .second, .val (.long q2), .second, .val (.long q3), .second] [] := by first | (simp [entryFrame, mkF, argsToLocals, Value.category]; done) | rfl
def f15_0 (q0 : Int64) (q1 : Int64) (q2 : Int64) (q3 : Int64) : Int32 := (if ((q0 ^^^ q1) &&& (q2 ^^^ (-1 : Int64))) = (0 : Int64) then (if ((q0 ^^^ q3) &&& q2) = (0 : Int64) then (1 : Int32) else (0 : Int32)) else (0 : Int32))
set_option maxRecDepth 65536 in
set_option maxHeartbeats 40000000 in
theorem j15_0 {p : Program} {l : Launch} {e : Env} {s : State} {m : MethodId} {args : Array Value} {below : List Frame} {meth : Method} {c : Code} {T0 : State} {locs : List Loc} {Z : State} {a0 : Array Value} {h0 : Heap} {n0 : Nat}
    (X0 : Stand p l e ({ frames := 0, cells := 0, slots := 0, locals := 0 } : Room) s m args below meth c T0 locs 0 0) (hx : p.tables.exec = Jvm.exec) (hZ : Z.Warmed39 s.vm) (hw : ∀ d ∈ tables_1, d.before a0 Z = true) (hby : c.code = method_3_code) (hml : c.maxLocals = 8) (hown : s.vm.findClass "com/example/ken2/ken2/RememberedStepsTakePinLaw" = some m.cls) (e0 : T0.heap = h0) (N0 : Fr n0 locs) (Z0 : n0 ≤ h0.size) (q0 : Int64) (q1 : Int64) (q2 : Int64) (q3 : Int64) :
    OwnFin X0 (some .boolean) (PQ (some (.int (nar .boolean (f15_0 q0 q1 q2 q3)))) h0 n0) 0 0 (mkF m 0 #[.val (.long q0), .second, .val (.long q1), .second, .val (.long q2), .second, .val (.long q3), .second] []) := by
  show OwnFin X0 (some .boolean) (PQ (some (.int (nar .boolean (if ((q0 ^^^ q1) &&& (q2 ^^^ (-1 : Int64))) = (0 : Int64) then (if ((q0 ^^^ q3) &&& q2) = (0 : Int64) then (1 : Int32) else (0 : Int32)) else (0 : Int32))))) h0 n0) 0 0 _
  refine OwnFin.step (g' := (mkF m 1 #[.val (.long q0), .second, .val (.long q1), .second, .val (.long q2), .second, .val (.long q3), .second] [(.long q0)])) X0 (fun t k => XT.lloadN X0.here hx rfl (hb hby d15_0) rfl k) ?_
  refine OwnFin.step (g' := (mkF m 2 #[.val (.long q0), .second, .val (.long q1), .second, .val (.long q2), .second, .val (.long q3), .second] [(.long q1), (.long q0)])) X0 (fun t k => XT.lloadN X0.here hx rfl (hb hby d15_1) rfl k) ?_
  refine OwnFin.step (g' := (mkF m 3 #[.val (.long q0), .second, .val (.long q1), .second, .val (.long q2), .second, .val (.long q3), .second] [(.long (q0 ^^^ q1))])) X0 (fun t k => XT.lxor X0.here hx rfl (hb hby d15_2) rfl k) ?_
  refine OwnFin.step (g' := (mkF m 5 #[.val (.long q0), .second, .val (.long q1), .second, .val (.long q2), .second, .val (.long q3), .second] [(.long q2), (.long (q0 ^^^ q1))])) X0 (fun t k => XT.lload X0.here hx rfl (hb hby d15_3) rfl k) ?_
  refine OwnFin.step (g' := (mkF m 8 #[.val (.long q0), .second, .val (.long q1), .second, .val (.long q2), .second, .val (.long q3), .second] [(.long (-1 : Int64)), (.long q2), (.long (q0 ^^^ q1))])) X0 (fun t k => X0.ldc2Long hx hown (mvT hZ (hw _ (wm 81 rfl))) (g := (mkF m 5 #[.val (.long q0), .second, .val (.long q1), .second, .val (.long q2), .second, .val (.long q3), .second] [(.long q2), (.long (q0 ^^^ q1))])) rfl (hb hby d15_5) _ k) ?_
  refine OwnFin.step (g' := (mkF m 9 #[.val (.long q0), .second, .val (.long q1), .second, .val (.long q2), .second, .val (.long q3), .second] [(.long (q2 ^^^ (-1 : Int64))), (.long (q0 ^^^ q1))])) X0 (fun t k => XT.lxor X0.here hx rfl (hb hby d15_8) rfl k) ?_
  refine OwnFin.step (g' := (mkF m 10 #[.val (.long q0), .second, .val (.long q1), .second, .val (.long q2), .second, .val (.long q3), .second] [(.long ((q0 ^^^ q1) &&& (q2 ^^^ (-1 : Int64))))])) X0 (fun t k => XT.land X0.here hx rfl (hb hby d15_9) rfl k) ?_
  refine OwnFin.step (g' := (mkF m 11 #[.val (.long q0), .second, .val (.long q1), .second, .val (.long q2), .second, .val (.long q3), .second] [(.long (0 : Int64)), (.long ((q0 ^^^ q1) &&& (q2 ^^^ (-1 : Int64))))])) X0 (fun t k => XT.lconst X0.here hx rfl (hb hby d15_10) k) ?_
  refine OwnFin.step (g' := (mkF m 12 #[.val (.long q0), .second, .val (.long q1), .second, .val (.long q2), .second, .val (.long q3), .second] [(.int (XT.cmpL ((q0 ^^^ q1) &&& (q2 ^^^ (-1 : Int64))) (0 : Int64)))])) X0 (fun t k => XT.lcmp X0.here hx rfl (hb hby d15_11) rfl k) ?_
  by_cases hc1 : ((q0 ^^^ q1) &&& (q2 ^^^ (-1 : Int64))) = (0 : Int64)
  · rw [if_pos hc1]
    refine OwnFin.step (g' := (mkF m 15 #[.val (.long q0), .second, .val (.long q1), .second, .val (.long q2), .second, .val (.long q3), .second] [])) X0 (fun t k => XS.ifNo X0.here hx rfl (hb hby d15_12) rfl ((if0 _ _).trans (teq ((cl_eq _ _).mpr hc1)).2) k) ?_
    refine OwnFin.step (g' := (mkF m 16 #[.val (.long q0), .second, .val (.long q1), .second, .val (.long q2), .second, .val (.long q3), .second] [(.long q0)])) X0 (fun t k => XT.lloadN X0.here hx rfl (hb hby d15_15) rfl k) ?_
    refine OwnFin.step (g' := (mkF m 18 #[.val (.long q0), .second, .val (.long q1), .second, .val (.long q2), .second, .val (.long q3), .second] [(.long q3), (.long q0)])) X0 (fun t k => XT.lload X0.here hx rfl (hb hby d15_16) rfl k) ?_
    refine OwnFin.step (g' := (mkF m 19 #[.val (.long q0), .second, .val (.long q1), .second, .val (.long q2), .second, .val (.long q3), .second] [(.long (q0 ^^^ q3))])) X0 (fun t k => XT.lxor X0.here hx rfl (hb hby d15_18) rfl k) ?_
    refine OwnFin.step (g' := (mkF m 21 #[.val (.long q0), .second, .val (.long q1), .second, .val (.long q2), .second, .val (.long q3), .second] [(.long q2), (.long (q0 ^^^ q3))])) X0 (fun t k => XT.lload X0.here hx rfl (hb hby d15_19) rfl k) ?_
    refine OwnFin.step (g' := (mkF m 22 #[.val (.long q0), .second, .val (.long q1), .second, .val (.long q2), .second, .val (.long q3), .second] [(.long ((q0 ^^^ q3) &&& q2))])) X0 (fun t k => XT.land X0.here hx rfl (hb hby d15_21) rfl k) ?_
    refine OwnFin.step (g' := (mkF m 23 #[.val (.long q0), .second, .val (.long q1), .second, .val (.long q2), .second, .val (.long q3), .second] [(.long (0 : Int64)), (.long ((q0 ^^^ q3) &&& q2))])) X0 (fun t k => XT.lconst X0.here hx rfl (hb hby d15_22) k) ?_
    refine OwnFin.step (g' := (mkF m 24 #[.val (.long q0), .second, .val (.long q1), .second, .val (.long q2), .second, .val (.long q3), .second] [(.int (XT.cmpL ((q0 ^^^ q3) &&& q2) (0 : Int64)))])) X0 (fun t k => XT.lcmp X0.here hx rfl (hb hby d15_23) rfl k) ?_
    by_cases hc2 : ((q0 ^^^ q3) &&& q2) = (0 : Int64)
    · rw [if_pos hc2]
      refine OwnFin.step (g' := (mkF m 27 #[.val (.long q0), .second, .val (.long q1), .second, .val (.long q2), .second, .val (.long q3), .second] [])) X0 (fun t k => XS.ifNo X0.here hx rfl (hb hby d15_24) rfl ((if0 _ _).trans (teq ((cl_eq _ _).mpr hc2)).2) k) ?_
      refine OwnFin.step (g' := (mkF m 28 #[.val (.long q0), .second, .val (.long q1), .second, .val (.long q2), .second, .val (.long q3), .second] [(.int (1 : Int32))])) X0 (fun t k => XS.iconst X0.here hx rfl (hb hby d15_27) k) ?_
      refine OwnFin.step (g' := (mkF m 32 #[.val (.long q0), .second, .val (.long q1), .second, .val (.long q2), .second, .val (.long q3), .second] [(.int (1 : Int32))])) X0 (fun t k => XS.goto X0.here hx rfl (pc0 := 28) (pc' := 32) rfl (hb hby d15_28) (by decide) (by decide) k) ?_
      exact OwnFin.retNar X0 (by simp) (hb hby d15_32) (Nat.le_refl _) (Nat.le_refl _) ⟨rfl, e0, N0⟩
    · rw [if_neg hc2]
      refine OwnFin.step (g' := (mkF m 31 #[.val (.long q0), .second, .val (.long q1), .second, .val (.long q2), .second, .val (.long q3), .second] [])) X0 (fun t k => XS.ifYes X0.here hx rfl (pc0 := 24) (pc' := 31) rfl (hb hby d15_24) rfl ((if0 _ _).trans (feq (fun q => hc2 ((cl_eq _ _).mp q))).2) (by decide) (by decide) k) ?_
      refine OwnFin.step (g' := (mkF m 32 #[.val (.long q0), .second, .val (.long q1), .second, .val (.long q2), .second, .val (.long q3), .second] [(.int (0 : Int32))])) X0 (fun t k => XS.iconst X0.here hx rfl (hb hby d15_31) k) ?_
      exact OwnFin.retNar X0 (by simp) (hb hby d15_32) (Nat.le_refl _) (Nat.le_refl _) ⟨rfl, e0, N0⟩
  · rw [if_neg hc1]
    refine OwnFin.step (g' := (mkF m 31 #[.val (.long q0), .second, .val (.long q1), .second, .val (.long q2), .second, .val (.long q3), .second] [])) X0 (fun t k => XS.ifYes X0.here hx rfl (pc0 := 12) (pc' := 31) rfl (hb hby d15_12) rfl ((if0 _ _).trans (feq (fun q => hc1 ((cl_eq _ _).mp q))).2) (by decide) (by decide) k) ?_
    refine OwnFin.step (g' := (mkF m 32 #[.val (.long q0), .second, .val (.long q1), .second, .val (.long q2), .second, .val (.long q3), .second] [(.int (0 : Int32))])) X0 (fun t k => XS.iconst X0.here hx rfl (hb hby d15_31) k) ?_
    exact OwnFin.retNar X0 (by simp) (hb hby d15_32) (Nat.le_refl _) (Nat.le_refl _) ⟨rfl, e0, N0⟩
def r15 (q0 : Int64) (q1 : Int64) (q2 : Int64) (q3 : Int64) : Int32 := nar .boolean (f15_0 q0 q1 q2 q3)
set_option maxRecDepth 65536 in
set_option maxHeartbeats 40000000 in
theorem rm15 (l : Launch) (Z : State) (a0 : Array Value) (hw : ∀ d ∈ tables_1, d.before a0 Z = true) (ws : List Jvm.Cond) (q0 : Int64) (q1 : Int64) (q2 : Int64) (q3 : Int64) (h0 : Heap) (n0 : Nat) (Z0 : n0 ≤ h0.size) :
    MetFree l (⟨"com/example/ken2/ken2/RememberedStepsTakePinLaw", "agrees", "(JJJJ)Z"⟩ : MethodName) (head1 (Jvm.Cond.code (⟨"com/example/ken2/ken2/RememberedStepsTakePinLaw", "agrees", "(JJJJ)Z"⟩ : MethodName) method_3_code 8 (some .boolean) :: ws) ({ frames := 0, cells := 0, slots := 0, locals := 0 } : Room)) (fun a U => a = #[(.long q0), (.long q1), (.long q2), (.long q3)] ∧ Z.Warmed39 U.vm ∧ U.heap = h0) (fun _ _ _ _ _ => True) (fun _ U o U' => ∃ v L, o = .returned v ∧ PQ (some (.int (r15 q0 q1 q2 q3))) h0 n0 v U'.heap L ∧ FrameEnd U o U' L ({ frames := 0, cells := 0, slots := 0, locals := 0 } : Room).cells ({ frames := 0, cells := 0, slots := 0, locals := 0 } : Room).slots) :=
  own_met (ret := (some .boolean)) (plainFor_of_name pn_15) (fun m => ef_15 m q0 q1 q2 q3) (fun p e s m below meth c s₁ X hx hby hml hown hnm hZ e0 => OwnFin.wide (j15_0 X hx hZ hw hby hml hown e0 (Fr.nil n0) Z0 q0 q1 q2 q3) (Nat.zero_le _) (Nat.zero_le _))
theorem d4_0 : decode prog_120_method_2_code 0 = .ok (.aload_n 0, 1) := by decide +kernel
theorem d4_1 : decode prog_120_method_2_code 1 = .ok (.invokespecial 8, 3) := by decide +kernel
theorem d4_4 : decode prog_120_method_2_code 4 = .ok (.aload_n 0, 1) := by decide +kernel
theorem d4_5 : decode prog_120_method_2_code 5 = .ok (.iload_n 1, 1) := by decide +kernel
theorem d4_6 : decode prog_120_method_2_code 6 = .ok (.putfield 13, 3) := by decide +kernel
theorem d4_9 : decode prog_120_method_2_code 9 = .ok (.aload_n 0, 1) := by decide +kernel
theorem d4_10 : decode prog_120_method_2_code 10 = .ok (.ldc 3, 2) := by decide +kernel
theorem d4_12 : decode prog_120_method_2_code 12 = .ok (.iload_n 2, 1) := by decide +kernel
theorem d4_13 : decode prog_120_method_2_code 13 = .ok (.invokestatic 17, 3) := by decide +kernel
theorem d4_16 : decode prog_120_method_2_code 16 = .ok (.ldc 25, 2) := by decide +kernel
theorem d4_18 : decode prog_120_method_2_code 18 = .ok (.iload_n 1, 1) := by decide +kernel
theorem d4_19 : decode prog_120_method_2_code 19 = .ok (.idiv, 1) := by decide +kernel
theorem d4_20 : decode prog_120_method_2_code 20 = .ok (.invokestatic 17, 3) := by decide +kernel
theorem d4_23 : decode prog_120_method_2_code 23 = .ok (.putfield 26, 3) := by decide +kernel
theorem d4_26 : decode prog_120_method_2_code 26 = .ok (.aload_n 0, 1) := by decide +kernel
theorem d4_27 : decode prog_120_method_2_code 27 = .ok (.bipush 16, 2) := by decide +kernel
theorem d4_29 : decode prog_120_method_2_code 29 = .ok (.iload_n 1, 1) := by decide +kernel
theorem d4_30 : decode prog_120_method_2_code 30 = .ok (.imul, 1) := by decide +kernel
theorem d4_31 : decode prog_120_method_2_code 31 = .ok (.newarray .long, 2) := by decide +kernel
theorem d4_33 : decode prog_120_method_2_code 33 = .ok (.putfield 29, 3) := by decide +kernel
theorem d4_36 : decode prog_120_method_2_code 36 = .ok (.aload_n 0, 1) := by decide +kernel
theorem d4_37 : decode prog_120_method_2_code 37 = .ok (.bipush 32, 2) := by decide +kernel
theorem d4_39 : decode prog_120_method_2_code 39 = .ok (.newarray .long, 2) := by decide +kernel
theorem d4_41 : decode prog_120_method_2_code 41 = .ok (.putfield 33, 3) := by decide +kernel
theorem d4_44 : decode prog_120_method_2_code 44 = .ok (.return_, 1) := by decide +kernel
theorem pn_4 : plainName "com/example/ken2/ken2/TupleTable" = true := by first | (simp [plainName, overriddenIn]; done) | decide +kernel
theorem ef_4 (m : MethodId) (o0 : Addr) (p1 : Int32) (p2 : Int32) : entryFrame m #[(.ref o0), (.int p1), (.int p2)] 3 = mkF m 0 #[.val (.ref o0), .val (.int p1), .val (.int p2)] [] := by first | (simp [entryFrame, mkF, argsToLocals, Value.category]; done) | rfl
theorem d3_0 : decode prog_120_method_1_code 0 = .ok (.aload_n 0, 1) := by decide +kernel
theorem d3_1 : decode prog_120_method_1_code 1 = .ok (.iload_n 1, 1) := by decide +kernel
theorem d3_2 : decode prog_120_method_1_code 2 = .ok (.ldc 3, 2) := by decide +kernel
theorem d3_4 : decode prog_120_method_1_code 4 = .ok (.invokespecial 4, 3) := by decide +kernel
theorem d3_7 : decode prog_120_method_1_code 7 = .ok (.return_, 1) := by decide +kernel
theorem pn_3 : plainName "com/example/ken2/ken2/TupleTable" = true := by first | (simp [plainName, overriddenIn]; done) | decide +kernel
theorem ef_3 (m : MethodId) (o0 : Addr) (p1 : Int32) : entryFrame m #[(.ref o0), (.int p1)] 2 = mkF m 0 #[.val (.ref o0), .val (.int p1)] [] := by first | (simp [entryFrame, mkF, argsToLocals, Value.category]; done) | rfl
theorem d1_0 : decode prog_109_method_1_code 0 = .ok (.aload_n 0, 1) := by decide +kernel
theorem d1_1 : decode prog_109_method_1_code 1 = .ok (.invokespecial 1, 3) := by decide +kernel
theorem d1_4 : decode prog_109_method_1_code 4 = .ok (.aload_n 0, 1) := by decide +kernel
theorem d1_5 : decode prog_109_method_1_code 5 = .ok (.bipush 17, 2) := by decide +kernel
theorem d1_7 : decode prog_109_method_1_code 7 = .ok (.newarray .int, 2) := by decide +kernel
theorem d1_9 : decode prog_109_method_1_code 9 = .ok (.putfield 7, 3) := by decide +kernel
theorem d1_12 : decode prog_109_method_1_code 12 = .ok (.aload_n 0, 1) := by decide +kernel
theorem d1_13 : decode prog_109_method_1_code 13 = .ok (.iload_n 1, 1) := by decide +kernel
theorem d1_14 : decode prog_109_method_1_code 14 = .ok (.putfield 13, 3) := by decide +kernel
theorem d1_17 : decode prog_109_method_1_code 17 = .ok (.aload_n 0, 1) := by decide +kernel
theorem d1_18 : decode prog_109_method_1_code 18 = .ok (.new 17, 3) := by decide +kernel
theorem d1_21 : decode prog_109_method_1_code 21 = .ok (.dup, 1) := by decide +kernel
theorem d1_22 : decode prog_109_method_1_code 22 = .ok (.iload_n 1, 1) := by decide +kernel
theorem d1_23 : decode prog_109_method_1_code 23 = .ok (.invokespecial 19, 3) := by decide +kernel
theorem d1_26 : decode prog_109_method_1_code 26 = .ok (.putfield 22, 3) := by decide +kernel
theorem d1_29 : decode prog_109_method_1_code 29 = .ok (.aload_n 0, 1) := by decide +kernel
theorem d1_30 : decode prog_109_method_1_code 30 = .ok (.bipush 32, 2) := by decide +kernel
theorem d1_32 : decode prog_109_method_1_code 32 = .ok (.iload_n 1, 1) := by decide +kernel
theorem d1_33 : decode prog_109_method_1_code 33 = .ok (.imul, 1) := by decide +kernel
theorem d1_34 : decode prog_109_method_1_code 34 = .ok (.newarray .long, 2) := by decide +kernel
theorem d1_36 : decode prog_109_method_1_code 36 = .ok (.putfield 26, 3) := by decide +kernel
theorem d1_39 : decode prog_109_method_1_code 39 = .ok (.return_, 1) := by decide +kernel
theorem pn_1 : plainName "com/example/ken2/ken2/RememberedSteps" = true := by first | (simp [plainName, overriddenIn]; done) | decide +kernel
theorem ef_1 (m : MethodId) (o0 : Addr) (p1 : Int32) : entryFrame m #[(.ref o0), (.int p1)] 2 = mkF m 0 #[.val (.ref o0), .val (.int p1)] [] := by first | (simp [entryFrame, mkF, argsToLocals, Value.category]; done) | rfl
theorem d9_0 : decode prog_120_method_11_code 0 = .ok (.lconst 0, 1) := by decide +kernel
theorem d9_1 : decode prog_120_method_11_code 1 = .ok (.lstore_n 3, 1) := by decide +kernel
theorem d9_2 : decode prog_120_method_11_code 2 = .ok (.iload_n 2, 1) := by decide +kernel
theorem d9_3 : decode prog_120_method_11_code 3 = .ok (.istore 5, 2) := by decide +kernel
theorem d9_5 : decode prog_120_method_11_code 5 = .ok (.iload 5, 2) := by decide +kernel
theorem d9_7 : decode prog_120_method_11_code 7 = .ok (.iload_n 2, 1) := by decide +kernel
theorem d9_8 : decode prog_120_method_11_code 8 = .ok (.aload_n 0, 1) := by decide +kernel
theorem d9_9 : decode prog_120_method_11_code 9 = .ok (.getfield 13, 3) := by decide +kernel
theorem d9_12 : decode prog_120_method_11_code 12 = .ok (.iadd, 1) := by decide +kernel
theorem d9_13 : decode prog_120_method_11_code 13 = .ok (.if_icmp .ge 27, 3) := by decide +kernel
theorem d9_16 : decode prog_120_method_11_code 16 = .ok (.lload_n 3, 1) := by decide +kernel
theorem d9_17 : decode prog_120_method_11_code 17 = .ok (.aload_n 1, 1) := by decide +kernel
theorem d9_18 : decode prog_120_method_11_code 18 = .ok (.iload 5, 2) := by decide +kernel
theorem d9_20 : decode prog_120_method_11_code 20 = .ok (.laload, 1) := by decide +kernel
theorem d9_21 : decode prog_120_method_11_code 21 = .ok (.lxor, 1) := by decide +kernel
theorem d9_22 : decode prog_120_method_11_code 22 = .ok (.ldc2_w 91, 3) := by decide +kernel
theorem d9_25 : decode prog_120_method_11_code 25 = .ok (.lmul, 1) := by decide +kernel
theorem d9_26 : decode prog_120_method_11_code 26 = .ok (.lstore_n 3, 1) := by decide +kernel
theorem d9_27 : decode prog_120_method_11_code 27 = .ok (.lload_n 3, 1) := by decide +kernel
theorem d9_28 : decode prog_120_method_11_code 28 = .ok (.lload_n 3, 1) := by decide +kernel
theorem d9_29 : decode prog_120_method_11_code 29 = .ok (.bipush 32, 2) := by decide +kernel
theorem d9_31 : decode prog_120_method_11_code 31 = .ok (.lushr, 1) := by decide +kernel
theorem d9_32 : decode prog_120_method_11_code 32 = .ok (.lxor, 1) := by decide +kernel
theorem d9_33 : decode prog_120_method_11_code 33 = .ok (.lstore_n 3, 1) := by decide +kernel
theorem d9_34 : decode prog_120_method_11_code 34 = .ok (.iinc 5 1, 3) := by decide +kernel
theorem d9_37 : decode prog_120_method_11_code 37 = .ok (.goto (-32), 3) := by decide +kernel
theorem d9_40 : decode prog_120_method_11_code 40 = .ok (.lload_n 3, 1) := by decide +kernel
theorem d9_41 : decode prog_120_method_11_code 41 = .ok (.ldc2_w 93, 3) := by decide +kernel
theorem d9_44 : decode prog_120_method_11_code 44 = .ok (.lmul, 1) := by decide +kernel
theorem d9_45 : decode prog_120_method_11_code 45 = .ok (.lstore_n 3, 1) := by decide +kernel
theorem d9_46 : decode prog_120_method_11_code 46 = .ok (.lload_n 3, 1) := by decide +kernel
theorem d9_47 : decode prog_120_method_11_code 47 = .ok (.lload_n 3, 1) := by decide +kernel
theorem d9_48 : decode prog_120_method_11_code 48 = .ok (.bipush 32, 2) := by decide +kernel
theorem d9_50 : decode prog_120_method_11_code 50 = .ok (.lushr, 1) := by decide +kernel
theorem d9_51 : decode prog_120_method_11_code 51 = .ok (.lxor, 1) := by decide +kernel
theorem d9_52 : decode prog_120_method_11_code 52 = .ok (.l2i, 1) := by decide +kernel
theorem d9_53 : decode prog_120_method_11_code 53 = .ok (.ireturn, 1) := by decide +kernel
theorem pn_9 : plainName "com/example/ken2/ken2/TupleTable" = true := by first | (simp [plainName, overriddenIn]; done) | decide +kernel
theorem ef_9 (m : MethodId) (o0 : Addr) (o1 : Addr) (p2 : Int32) : entryFrame m #[(.ref o0), (.ref o1), (.int p2)] 6 = mkF m 0 #[.val (.ref o0), .val (.ref o1), .val (.int p2), .unset, .unset, .unset] [] := by first | (simp [entryFrame, mkF, argsToLocals, Value.category]; done) | rfl
theorem d10_0 : decode prog_120_method_7_code 0 = .ok (.aload_n 0, 1) := by decide +kernel
theorem d10_1 : decode prog_120_method_7_code 1 = .ok (.getfield 33, 3) := by decide +kernel
theorem d10_4 : decode prog_120_method_7_code 4 = .ok (.arraylength, 1) := by decide +kernel
theorem d10_5 : decode prog_120_method_7_code 5 = .ok (.iconst 1, 1) := by decide +kernel
theorem d10_6 : decode prog_120_method_7_code 6 = .ok (.isub, 1) := by decide +kernel
theorem d10_7 : decode prog_120_method_7_code 7 = .ok (.istore 4, 2) := by decide +kernel
theorem d10_9 : decode prog_120_method_7_code 9 = .ok (.iload_n 3, 1) := by decide +kernel
theorem d10_10 : decode prog_120_method_7_code 10 = .ok (.iload 4, 2) := by decide +kernel
theorem d10_12 : decode prog_120_method_7_code 12 = .ok (.iand, 1) := by decide +kernel
theorem d10_13 : decode prog_120_method_7_code 13 = .ok (.istore 5, 2) := by decide +kernel
theorem d10_15 : decode prog_120_method_7_code 15 = .ok (.aload_n 0, 1) := by decide +kernel
theorem d10_16 : decode prog_120_method_7_code 16 = .ok (.getfield 33, 3) := by decide +kernel
theorem d10_19 : decode prog_120_method_7_code 19 = .ok (.iload 5, 2) := by decide +kernel
theorem d10_21 : decode prog_120_method_7_code 21 = .ok (.laload, 1) := by decide +kernel
theorem d10_22 : decode prog_120_method_7_code 22 = .ok (.lconst 0, 1) := by decide +kernel
theorem d10_23 : decode prog_120_method_7_code 23 = .ok (.lcmp, 1) := by decide +kernel
theorem d10_24 : decode prog_120_method_7_code 24 = .ok (.ifCond .eq 56, 3) := by decide +kernel
theorem d10_80 : decode prog_120_method_7_code 80 = .ok (.iload 5, 2) := by decide +kernel
theorem d10_82 : decode prog_120_method_7_code 82 = .ok (.ireturn, 1) := by decide +kernel
theorem pn_10 : plainName "com/example/ken2/ken2/TupleTable" = true := by first | (simp [plainName, overriddenIn]; done) | decide +kernel
theorem ef_10 (m : MethodId) (o0 : Addr) (o1 : Addr) (p2 : Int32) (p3 : Int32) : entryFrame m #[(.ref o0), (.ref o1), (.int p2), (.int p3)] 7 = mkF m 0 #[.val (.ref o0), .val (.ref o1), .val (.int p2), .val (.int p3), .unset, .unset, .unset] [] := by first | (simp [entryFrame, mkF, argsToLocals, Value.category]; done) | rfl
theorem d11_0 : decode prog_120_method_12_code 0 = .ok (.iload_n 0, 1) := by decide +kernel
theorem d11_1 : decode prog_120_method_12_code 1 = .ok (.i2l, 1) := by decide +kernel
theorem d11_2 : decode prog_120_method_12_code 2 = .ok (.bipush 32, 2) := by decide +kernel
theorem d11_4 : decode prog_120_method_12_code 4 = .ok (.lshl, 1) := by decide +kernel
theorem d11_5 : decode prog_120_method_12_code 5 = .ok (.iload_n 1, 1) := by decide +kernel
theorem d11_6 : decode prog_120_method_12_code 6 = .ok (.iconst 1, 1) := by decide +kernel
theorem d11_7 : decode prog_120_method_12_code 7 = .ok (.iadd, 1) := by decide +kernel
theorem d11_8 : decode prog_120_method_12_code 8 = .ok (.i2l, 1) := by decide +kernel
theorem d11_9 : decode prog_120_method_12_code 9 = .ok (.lor, 1) := by decide +kernel
theorem d11_10 : decode prog_120_method_12_code 10 = .ok (.lreturn, 1) := by decide +kernel
theorem pn_11 : plainName "com/example/ken2/ken2/TupleTable" = true := by first | (simp [plainName, overriddenIn]; done) | decide +kernel
theorem ef_11 (m : MethodId) (p0 : Int32) (p1 : Int32) : entryFrame m #[(.int p0), (.int p1)] 2 = mkF m 0 #[.val (.int p0), .val (.int p1)] [] := by first | (simp [entryFrame, mkF, argsToLocals, Value.category]; done) | rfl
theorem d8_0 : decode prog_120_method_5_code 0 = .ok (.aload_n 0, 1) := by decide +kernel
theorem d8_1 : decode prog_120_method_5_code 1 = .ok (.aload_n 1, 1) := by decide +kernel
theorem d8_2 : decode prog_120_method_5_code 2 = .ok (.iload_n 2, 1) := by decide +kernel
theorem d8_3 : decode prog_120_method_5_code 3 = .ok (.invokevirtual 43, 3) := by decide +kernel
theorem d8_6 : decode prog_120_method_5_code 6 = .ok (.istore_n 3, 1) := by decide +kernel
theorem d8_7 : decode prog_120_method_5_code 7 = .ok (.aload_n 0, 1) := by decide +kernel
theorem d8_8 : decode prog_120_method_5_code 8 = .ok (.aload_n 1, 1) := by decide +kernel
theorem d8_9 : decode prog_120_method_5_code 9 = .ok (.iload_n 2, 1) := by decide +kernel
theorem d8_10 : decode prog_120_method_5_code 10 = .ok (.iload_n 3, 1) := by decide +kernel
theorem d8_11 : decode prog_120_method_5_code 11 = .ok (.invokevirtual 46, 3) := by decide +kernel
theorem d8_14 : decode prog_120_method_5_code 14 = .ok (.istore 4, 2) := by decide +kernel
theorem d8_16 : decode prog_120_method_5_code 16 = .ok (.aload_n 0, 1) := by decide +kernel
theorem d8_17 : decode prog_120_method_5_code 17 = .ok (.getfield 33, 3) := by decide +kernel
theorem d8_20 : decode prog_120_method_5_code 20 = .ok (.iload 4, 2) := by decide +kernel
theorem d8_22 : decode prog_120_method_5_code 22 = .ok (.laload, 1) := by decide +kernel
theorem d8_23 : decode prog_120_method_5_code 23 = .ok (.lconst 0, 1) := by decide +kernel
theorem d8_24 : decode prog_120_method_5_code 24 = .ok (.lcmp, 1) := by decide +kernel
theorem d8_25 : decode prog_120_method_5_code 25 = .ok (.ifCond .eq 14, 3) := by decide +kernel
theorem d8_39 : decode prog_120_method_5_code 39 = .ok (.aload_n 0, 1) := by decide +kernel
theorem d8_40 : decode prog_120_method_5_code 40 = .ok (.getfield 36, 3) := by decide +kernel
theorem d8_43 : decode prog_120_method_5_code 43 = .ok (.aload_n 0, 1) := by decide +kernel
theorem d8_44 : decode prog_120_method_5_code 44 = .ok (.getfield 26, 3) := by decide +kernel
theorem d8_47 : decode prog_120_method_5_code 47 = .ok (.if_icmp .ne 20, 3) := by decide +kernel
theorem d8_67 : decode prog_120_method_5_code 67 = .ok (.aload_n 0, 1) := by decide +kernel
theorem d8_68 : decode prog_120_method_5_code 68 = .ok (.dup, 1) := by decide +kernel
theorem d8_69 : decode prog_120_method_5_code 69 = .ok (.getfield 36, 3) := by decide +kernel
theorem d8_72 : decode prog_120_method_5_code 72 = .ok (.dup_x1, 1) := by decide +kernel
theorem d8_73 : decode prog_120_method_5_code 73 = .ok (.iconst 1, 1) := by decide +kernel
theorem d8_74 : decode prog_120_method_5_code 74 = .ok (.iadd, 1) := by decide +kernel
theorem d8_75 : decode prog_120_method_5_code 75 = .ok (.putfield 36, 3) := by decide +kernel
theorem d8_78 : decode prog_120_method_5_code 78 = .ok (.istore 5, 2) := by decide +kernel
theorem d8_80 : decode prog_120_method_5_code 80 = .ok (.aload_n 0, 1) := by decide +kernel
theorem d8_81 : decode prog_120_method_5_code 81 = .ok (.getfield 29, 3) := by decide +kernel
theorem d8_84 : decode prog_120_method_5_code 84 = .ok (.arraylength, 1) := by decide +kernel
theorem d8_85 : decode prog_120_method_5_code 85 = .ok (.aload_n 0, 1) := by decide +kernel
theorem d8_86 : decode prog_120_method_5_code 86 = .ok (.getfield 36, 3) := by decide +kernel
theorem d8_89 : decode prog_120_method_5_code 89 = .ok (.aload_n 0, 1) := by decide +kernel
theorem d8_90 : decode prog_120_method_5_code 90 = .ok (.getfield 13, 3) := by decide +kernel
theorem d8_93 : decode prog_120_method_5_code 93 = .ok (.imul, 1) := by decide +kernel
theorem d8_94 : decode prog_120_method_5_code 94 = .ok (.if_icmp .ge 38, 3) := by decide +kernel
theorem d8_132 : decode prog_120_method_5_code 132 = .ok (.aload_n 1, 1) := by decide +kernel
theorem d8_133 : decode prog_120_method_5_code 133 = .ok (.iload_n 2, 1) := by decide +kernel
theorem d8_134 : decode prog_120_method_5_code 134 = .ok (.aload_n 0, 1) := by decide +kernel
theorem d8_135 : decode prog_120_method_5_code 135 = .ok (.getfield 29, 3) := by decide +kernel
theorem d8_138 : decode prog_120_method_5_code 138 = .ok (.iload 5, 2) := by decide +kernel
theorem d8_140 : decode prog_120_method_5_code 140 = .ok (.aload_n 0, 1) := by decide +kernel
theorem d8_141 : decode prog_120_method_5_code 141 = .ok (.getfield 13, 3) := by decide +kernel
theorem d8_144 : decode prog_120_method_5_code 144 = .ok (.imul, 1) := by decide +kernel
theorem d8_145 : decode prog_120_method_5_code 145 = .ok (.aload_n 0, 1) := by decide +kernel
theorem d8_146 : decode prog_120_method_5_code 146 = .ok (.getfield 13, 3) := by decide +kernel
theorem d8_149 : decode prog_120_method_5_code 149 = .ok (.invokestatic 70, 3) := by decide +kernel
theorem d8_152 : decode prog_120_method_5_code 152 = .ok (.aload_n 0, 1) := by decide +kernel
theorem d8_153 : decode prog_120_method_5_code 153 = .ok (.getfield 33, 3) := by decide +kernel
theorem d8_156 : decode prog_120_method_5_code 156 = .ok (.iload 4, 2) := by decide +kernel
theorem d8_158 : decode prog_120_method_5_code 158 = .ok (.iload_n 3, 1) := by decide +kernel
theorem d8_159 : decode prog_120_method_5_code 159 = .ok (.iload 5, 2) := by decide +kernel
theorem d8_161 : decode prog_120_method_5_code 161 = .ok (.invokestatic 76, 3) := by decide +kernel
theorem d8_164 : decode prog_120_method_5_code 164 = .ok (.lastore, 1) := by decide +kernel
theorem d8_165 : decode prog_120_method_5_code 165 = .ok (.ldc2_w 80, 3) := by decide +kernel
theorem d8_168 : decode prog_120_method_5_code 168 = .ok (.aload_n 0, 1) := by decide +kernel
theorem d8_169 : decode prog_120_method_5_code 169 = .ok (.getfield 36, 3) := by decide +kernel
theorem d8_172 : decode prog_120_method_5_code 172 = .ok (.i2l, 1) := by decide +kernel
theorem d8_173 : decode prog_120_method_5_code 173 = .ok (.lmul, 1) := by decide +kernel
theorem d8_174 : decode prog_120_method_5_code 174 = .ok (.ldc2_w 82, 3) := by decide +kernel
theorem d8_177 : decode prog_120_method_5_code 177 = .ok (.aload_n 0, 1) := by decide +kernel
theorem d8_178 : decode prog_120_method_5_code 178 = .ok (.getfield 33, 3) := by decide +kernel
theorem d8_181 : decode prog_120_method_5_code 181 = .ok (.arraylength, 1) := by decide +kernel
theorem d8_182 : decode prog_120_method_5_code 182 = .ok (.i2l, 1) := by decide +kernel
theorem d8_183 : decode prog_120_method_5_code 183 = .ok (.lmul, 1) := by decide +kernel
theorem d8_184 : decode prog_120_method_5_code 184 = .ok (.lcmp, 1) := by decide +kernel
theorem d8_185 : decode prog_120_method_5_code 185 = .ok (.ifCond .le 7, 3) := by decide +kernel
theorem d8_192 : decode prog_120_method_5_code 192 = .ok (.iload 5, 2) := by decide +kernel
theorem d8_194 : decode prog_120_method_5_code 194 = .ok (.ireturn, 1) := by decide +kernel
theorem pn_8 : plainName "com/example/ken2/ken2/TupleTable" = true := by first | (simp [plainName, overriddenIn]; done) | decide +kernel
theorem ef_8 (m : MethodId) (o0 : Addr) (o1 : Addr) (p2 : Int32) : entryFrame m #[(.ref o0), (.ref o1), (.int p2)] 6 = mkF m 0 #[.val (.ref o0), .val (.ref o1), .val (.int p2), .unset, .unset, .unset] [] := by first | (simp [entryFrame, mkF, argsToLocals, Value.category]; done) | rfl
theorem d7_0 : decode prog_120_method_4_code 0 = .ok (.aload_n 0, 1) := by decide +kernel
theorem d7_1 : decode prog_120_method_4_code 1 = .ok (.aload_n 1, 1) := by decide +kernel
theorem d7_2 : decode prog_120_method_4_code 2 = .ok (.iconst 0, 1) := by decide +kernel
theorem d7_3 : decode prog_120_method_4_code 3 = .ok (.invokevirtual 39, 3) := by decide +kernel
theorem d7_6 : decode prog_120_method_4_code 6 = .ok (.ireturn, 1) := by decide +kernel
theorem pn_7 : plainName "com/example/ken2/ken2/TupleTable" = true := by first | (simp [plainName, overriddenIn]; done) | decide +kernel
theorem ef_7 (m : MethodId) (o0 : Addr) (o1 : Addr) : entryFrame m #[(.ref o0), (.ref o1)] 2 = mkF m 0 #[.val (.ref o0), .val (.ref o1)] [] := by first | (simp [entryFrame, mkF, argsToLocals, Value.category]; done) | rfl
theorem d6_0 : decode prog_109_method_4_code 0 = .ok (.aload_n 0, 1) := by decide +kernel
theorem d6_1 : decode prog_109_method_4_code 1 = .ok (.getfield 22, 3) := by decide +kernel
theorem d6_4 : decode prog_109_method_4_code 4 = .ok (.aload_n 1, 1) := by decide +kernel
theorem d6_5 : decode prog_109_method_4_code 5 = .ok (.invokevirtual 42, 3) := by decide +kernel
theorem d6_8 : decode prog_109_method_4_code 8 = .ok (.istore_n 2, 1) := by decide +kernel
theorem d6_9 : decode prog_109_method_4_code 9 = .ok (.iload_n 2, 1) := by decide +kernel
theorem d6_10 : decode prog_109_method_4_code 10 = .ok (.iconst 2, 1) := by decide +kernel
theorem d6_11 : decode prog_109_method_4_code 11 = .ok (.iadd, 1) := by decide +kernel
theorem d6_12 : decode prog_109_method_4_code 12 = .ok (.aload_n 0, 1) := by decide +kernel
theorem d6_13 : decode prog_109_method_4_code 13 = .ok (.getfield 7, 3) := by decide +kernel
theorem d6_16 : decode prog_109_method_4_code 16 = .ok (.arraylength, 1) := by decide +kernel
theorem d6_17 : decode prog_109_method_4_code 17 = .ok (.if_icmp .le 21, 3) := by decide +kernel
theorem d6_38 : decode prog_109_method_4_code 38 = .ok (.aload_n 0, 1) := by decide +kernel
theorem d6_39 : decode prog_109_method_4_code 39 = .ok (.getfield 7, 3) := by decide +kernel
theorem d6_42 : decode prog_109_method_4_code 42 = .ok (.iload_n 2, 1) := by decide +kernel
theorem d6_43 : decode prog_109_method_4_code 43 = .ok (.aload_n 0, 1) := by decide +kernel
theorem d6_44 : decode prog_109_method_4_code 44 = .ok (.getfield 38, 3) := by decide +kernel
theorem d6_47 : decode prog_109_method_4_code 47 = .ok (.iastore, 1) := by decide +kernel
theorem d6_48 : decode prog_109_method_4_code 48 = .ok (.aload_n 0, 1) := by decide +kernel
theorem d6_49 : decode prog_109_method_4_code 49 = .ok (.getfield 7, 3) := by decide +kernel
theorem d6_52 : decode prog_109_method_4_code 52 = .ok (.iload_n 2, 1) := by decide +kernel
theorem d6_53 : decode prog_109_method_4_code 53 = .ok (.iconst 1, 1) := by decide +kernel
theorem d6_54 : decode prog_109_method_4_code 54 = .ok (.iadd, 1) := by decide +kernel
theorem d6_55 : decode prog_109_method_4_code 55 = .ok (.aload_n 0, 1) := by decide +kernel
theorem d6_56 : decode prog_109_method_4_code 56 = .ok (.getfield 38, 3) := by decide +kernel
theorem d6_59 : decode prog_109_method_4_code 59 = .ok (.iastore, 1) := by decide +kernel
theorem d6_60 : decode prog_109_method_4_code 60 = .ok (.return_, 1) := by decide +kernel
theorem pn_6 : plainName "com/example/ken2/ken2/RememberedSteps" = true := by first | (simp [plainName, overriddenIn]; done) | decide +kernel
theorem ef_6 (m : MethodId) (o0 : Addr) (o1 : Addr) : entryFrame m #[(.ref o0), (.ref o1)] 3 = mkF m 0 #[.val (.ref o0), .val (.ref o1), .unset] [] := by first | (simp [entryFrame, mkF, argsToLocals, Value.category]; done) | rfl
theorem d13_0 : decode prog_120_method_3_code 0 = .ok (.aload_n 0, 1) := by decide +kernel
theorem d13_1 : decode prog_120_method_3_code 1 = .ok (.getfield 36, 3) := by decide +kernel
theorem d13_4 : decode prog_120_method_3_code 4 = .ok (.ireturn, 1) := by decide +kernel
theorem pn_13 : plainName "com/example/ken2/ken2/TupleTable" = true := by first | (simp [plainName, overriddenIn]; done) | decide +kernel
theorem ef_13 (m : MethodId) (o0 : Addr) : entryFrame m #[(.ref o0)] 1 = mkF m 0 #[.val (.ref o0)] [] := by first | (simp [entryFrame, mkF, argsToLocals, Value.category]; done) | rfl
theorem d12_0 : decode prog_109_method_5_code 0 = .ok (.aload_n 0, 1) := by decide +kernel
theorem d12_1 : decode prog_109_method_5_code 1 = .ok (.getfield 38, 3) := by decide +kernel
theorem d12_4 : decode prog_109_method_5_code 4 = .ok (.iconst 1, 1) := by decide +kernel
theorem d12_5 : decode prog_109_method_5_code 5 = .ok (.iadd, 1) := by decide +kernel
theorem d12_6 : decode prog_109_method_5_code 6 = .ok (.iconst 2, 1) := by decide +kernel
theorem d12_7 : decode prog_109_method_5_code 7 = .ok (.imul, 1) := by decide +kernel
theorem d12_8 : decode prog_109_method_5_code 8 = .ok (.aload_n 0, 1) := by decide +kernel
theorem d12_9 : decode prog_109_method_5_code 9 = .ok (.getfield 13, 3) := by decide +kernel
theorem d12_12 : decode prog_109_method_5_code 12 = .ok (.imul, 1) := by decide +kernel
theorem d12_13 : decode prog_109_method_5_code 13 = .ok (.aload_n 0, 1) := by decide +kernel
theorem d12_14 : decode prog_109_method_5_code 14 = .ok (.getfield 26, 3) := by decide +kernel
theorem d12_17 : decode prog_109_method_5_code 17 = .ok (.arraylength, 1) := by decide +kernel
theorem d12_18 : decode prog_109_method_5_code 18 = .ok (.if_icmp .le 21, 3) := by decide +kernel
theorem d12_39 : decode prog_109_method_5_code 39 = .ok (.aload_n 0, 1) := by decide +kernel
theorem d12_40 : decode prog_109_method_5_code 40 = .ok (.getfield 38, 3) := by decide +kernel
theorem d12_43 : decode prog_109_method_5_code 43 = .ok (.iconst 2, 1) := by decide +kernel
theorem d12_44 : decode prog_109_method_5_code 44 = .ok (.imul, 1) := by decide +kernel
theorem d12_45 : decode prog_109_method_5_code 45 = .ok (.aload_n 0, 1) := by decide +kernel
theorem d12_46 : decode prog_109_method_5_code 46 = .ok (.getfield 13, 3) := by decide +kernel
theorem d12_49 : decode prog_109_method_5_code 49 = .ok (.imul, 1) := by decide +kernel
theorem d12_50 : decode prog_109_method_5_code 50 = .ok (.istore_n 3, 1) := by decide +kernel
theorem d12_51 : decode prog_109_method_5_code 51 = .ok (.iconst 0, 1) := by decide +kernel
theorem d12_52 : decode prog_109_method_5_code 52 = .ok (.istore 4, 2) := by decide +kernel
theorem d12_54 : decode prog_109_method_5_code 54 = .ok (.iload 4, 2) := by decide +kernel
theorem d12_56 : decode prog_109_method_5_code 56 = .ok (.aload_n 0, 1) := by decide +kernel
theorem d12_57 : decode prog_109_method_5_code 57 = .ok (.getfield 13, 3) := by decide +kernel
theorem d12_60 : decode prog_109_method_5_code 60 = .ok (.if_icmp .ge 45, 3) := by decide +kernel
theorem d12_63 : decode prog_109_method_5_code 63 = .ok (.aload_n 0, 1) := by decide +kernel
theorem d12_64 : decode prog_109_method_5_code 64 = .ok (.getfield 26, 3) := by decide +kernel
theorem d12_67 : decode prog_109_method_5_code 67 = .ok (.iload_n 3, 1) := by decide +kernel
theorem d12_68 : decode prog_109_method_5_code 68 = .ok (.iload 4, 2) := by decide +kernel
theorem d12_70 : decode prog_109_method_5_code 70 = .ok (.iadd, 1) := by decide +kernel
theorem d12_71 : decode prog_109_method_5_code 71 = .ok (.aload_n 1, 1) := by decide +kernel
theorem d12_72 : decode prog_109_method_5_code 72 = .ok (.iload 4, 2) := by decide +kernel
theorem d12_74 : decode prog_109_method_5_code 74 = .ok (.laload, 1) := by decide +kernel
theorem d12_75 : decode prog_109_method_5_code 75 = .ok (.lastore, 1) := by decide +kernel
theorem d12_76 : decode prog_109_method_5_code 76 = .ok (.aload_n 0, 1) := by decide +kernel
theorem d12_77 : decode prog_109_method_5_code 77 = .ok (.getfield 26, 3) := by decide +kernel
theorem d12_80 : decode prog_109_method_5_code 80 = .ok (.iload_n 3, 1) := by decide +kernel
theorem d12_81 : decode prog_109_method_5_code 81 = .ok (.aload_n 0, 1) := by decide +kernel
theorem d12_82 : decode prog_109_method_5_code 82 = .ok (.getfield 13, 3) := by decide +kernel
theorem d12_85 : decode prog_109_method_5_code 85 = .ok (.iadd, 1) := by decide +kernel
theorem d12_86 : decode prog_109_method_5_code 86 = .ok (.iload 4, 2) := by decide +kernel
theorem d12_88 : decode prog_109_method_5_code 88 = .ok (.iadd, 1) := by decide +kernel
theorem d12_89 : decode prog_109_method_5_code 89 = .ok (.aload_n 2, 1) := by decide +kernel
theorem d12_90 : decode prog_109_method_5_code 90 = .ok (.iload 4, 2) := by decide +kernel
theorem d12_92 : decode prog_109_method_5_code 92 = .ok (.laload, 1) := by decide +kernel
theorem d12_93 : decode prog_109_method_5_code 93 = .ok (.aload_n 1, 1) := by decide +kernel
theorem d12_94 : decode prog_109_method_5_code 94 = .ok (.iload 4, 2) := by decide +kernel
theorem d12_96 : decode prog_109_method_5_code 96 = .ok (.laload, 1) := by decide +kernel
theorem d12_97 : decode prog_109_method_5_code 97 = .ok (.land, 1) := by decide +kernel
theorem d12_98 : decode prog_109_method_5_code 98 = .ok (.lastore, 1) := by decide +kernel
theorem d12_99 : decode prog_109_method_5_code 99 = .ok (.iinc 4 1, 3) := by decide +kernel
theorem d12_102 : decode prog_109_method_5_code 102 = .ok (.goto (-48), 3) := by decide +kernel
theorem d12_105 : decode prog_109_method_5_code 105 = .ok (.aload_n 0, 1) := by decide +kernel
theorem d12_106 : decode prog_109_method_5_code 106 = .ok (.dup, 1) := by decide +kernel
theorem d12_107 : decode prog_109_method_5_code 107 = .ok (.getfield 38, 3) := by decide +kernel
theorem d12_110 : decode prog_109_method_5_code 110 = .ok (.iconst 1, 1) := by decide +kernel
theorem d12_111 : decode prog_109_method_5_code 111 = .ok (.iadd, 1) := by decide +kernel
theorem d12_112 : decode prog_109_method_5_code 112 = .ok (.putfield 38, 3) := by decide +kernel
theorem d12_115 : decode prog_109_method_5_code 115 = .ok (.aload_n 0, 1) := by decide +kernel
theorem d12_116 : decode prog_109_method_5_code 116 = .ok (.getfield 7, 3) := by decide +kernel
theorem d12_119 : decode prog_109_method_5_code 119 = .ok (.aload_n 0, 1) := by decide +kernel
theorem d12_120 : decode prog_109_method_5_code 120 = .ok (.getfield 22, 3) := by decide +kernel
theorem d12_123 : decode prog_109_method_5_code 123 = .ok (.invokevirtual 34, 3) := by decide +kernel
theorem d12_126 : decode prog_109_method_5_code 126 = .ok (.aload_n 0, 1) := by decide +kernel
theorem d12_127 : decode prog_109_method_5_code 127 = .ok (.getfield 38, 3) := by decide +kernel
theorem d12_130 : decode prog_109_method_5_code 130 = .ok (.iastore, 1) := by decide +kernel
theorem d12_131 : decode prog_109_method_5_code 131 = .ok (.return_, 1) := by decide +kernel
theorem pn_12 : plainName "com/example/ken2/ken2/RememberedSteps" = true := by first | (simp [plainName, overriddenIn]; done) | decide +kernel
theorem ef_12 (m : MethodId) (o0 : Addr) (o1 : Addr) (o2 : Addr) : entryFrame m #[(.ref o0), (.ref o1), (.ref o2)] 5 = mkF m 0 #[.val (.ref o0), .val (.ref o1), .val (.ref o2), .unset, .unset] [] := by first | (simp [entryFrame, mkF, argsToLocals, Value.category]; done) | rfl
theorem d14_0 : decode prog_109_method_8_code 0 = .ok (.iload_n 1, 1) := by decide +kernel
theorem d14_1 : decode prog_109_method_8_code 1 = .ok (.iconst 2, 1) := by decide +kernel
theorem d14_2 : decode prog_109_method_8_code 2 = .ok (.imul, 1) := by decide +kernel
theorem d14_3 : decode prog_109_method_8_code 3 = .ok (.aload_n 0, 1) := by decide +kernel
theorem d14_4 : decode prog_109_method_8_code 4 = .ok (.getfield 13, 3) := by decide +kernel
theorem d14_7 : decode prog_109_method_8_code 7 = .ok (.imul, 1) := by decide +kernel
theorem d14_8 : decode prog_109_method_8_code 8 = .ok (.istore 4, 2) := by decide +kernel
theorem d14_10 : decode prog_109_method_8_code 10 = .ok (.iconst 0, 1) := by decide +kernel
theorem d14_11 : decode prog_109_method_8_code 11 = .ok (.istore 5, 2) := by decide +kernel
theorem d14_13 : decode prog_109_method_8_code 13 = .ok (.iload 5, 2) := by decide +kernel
theorem d14_15 : decode prog_109_method_8_code 15 = .ok (.aload_n 0, 1) := by decide +kernel
theorem d14_16 : decode prog_109_method_8_code 16 = .ok (.getfield 13, 3) := by decide +kernel
theorem d14_19 : decode prog_109_method_8_code 19 = .ok (.if_icmp .ge 48, 3) := by decide +kernel
theorem d14_22 : decode prog_109_method_8_code 22 = .ok (.aload_n 3, 1) := by decide +kernel
theorem d14_23 : decode prog_109_method_8_code 23 = .ok (.iload 5, 2) := by decide +kernel
theorem d14_25 : decode prog_109_method_8_code 25 = .ok (.aload_n 2, 1) := by decide +kernel
theorem d14_26 : decode prog_109_method_8_code 26 = .ok (.iload 5, 2) := by decide +kernel
theorem d14_28 : decode prog_109_method_8_code 28 = .ok (.laload, 1) := by decide +kernel
theorem d14_29 : decode prog_109_method_8_code 29 = .ok (.aload_n 0, 1) := by decide +kernel
theorem d14_30 : decode prog_109_method_8_code 30 = .ok (.getfield 26, 3) := by decide +kernel
theorem d14_33 : decode prog_109_method_8_code 33 = .ok (.iload 4, 2) := by decide +kernel
theorem d14_35 : decode prog_109_method_8_code 35 = .ok (.iload 5, 2) := by decide +kernel
theorem d14_37 : decode prog_109_method_8_code 37 = .ok (.iadd, 1) := by decide +kernel
theorem d14_38 : decode prog_109_method_8_code 38 = .ok (.laload, 1) := by decide +kernel
theorem d14_39 : decode prog_109_method_8_code 39 = .ok (.ldc2_w 54, 3) := by decide +kernel
theorem d14_42 : decode prog_109_method_8_code 42 = .ok (.lxor, 1) := by decide +kernel
theorem d14_43 : decode prog_109_method_8_code 43 = .ok (.land, 1) := by decide +kernel
theorem d14_44 : decode prog_109_method_8_code 44 = .ok (.aload_n 0, 1) := by decide +kernel
theorem d14_45 : decode prog_109_method_8_code 45 = .ok (.getfield 26, 3) := by decide +kernel
theorem d14_48 : decode prog_109_method_8_code 48 = .ok (.iload 4, 2) := by decide +kernel
theorem d14_50 : decode prog_109_method_8_code 50 = .ok (.aload_n 0, 1) := by decide +kernel
theorem d14_51 : decode prog_109_method_8_code 51 = .ok (.getfield 13, 3) := by decide +kernel
theorem d14_54 : decode prog_109_method_8_code 54 = .ok (.iadd, 1) := by decide +kernel
theorem d14_55 : decode prog_109_method_8_code 55 = .ok (.iload 5, 2) := by decide +kernel
theorem d14_57 : decode prog_109_method_8_code 57 = .ok (.iadd, 1) := by decide +kernel
theorem d14_58 : decode prog_109_method_8_code 58 = .ok (.laload, 1) := by decide +kernel
theorem d14_59 : decode prog_109_method_8_code 59 = .ok (.lor, 1) := by decide +kernel
theorem d14_60 : decode prog_109_method_8_code 60 = .ok (.lastore, 1) := by decide +kernel
theorem d14_61 : decode prog_109_method_8_code 61 = .ok (.iinc 5 1, 3) := by decide +kernel
theorem d14_64 : decode prog_109_method_8_code 64 = .ok (.goto (-51), 3) := by decide +kernel
theorem d14_67 : decode prog_109_method_8_code 67 = .ok (.return_, 1) := by decide +kernel
theorem pn_14 : plainName "com/example/ken2/ken2/RememberedSteps" = true := by first | (simp [plainName, overriddenIn]; done) | decide +kernel
theorem ef_14 (m : MethodId) (o0 : Addr) (p1 : Int32) (o2 : Addr) (o3 : Addr) : entryFrame m #[(.ref o0), (.int p1), (.ref o2), (.ref o3)] 6 = mkF m 0 #[.val (.ref o0), .val (.int p1), .val (.ref o2), .val (.ref o3), .unset, .unset] [] := by first | (simp [entryFrame, mkF, argsToLocals, Value.category]; done) | rfl
theorem pn_0 : plainName "com/example/ken2/ken2/RememberedStepsTakePinLaw" = true := by first | (simp [plainName, overriddenIn]; done) | decide +kernel
theorem ef_0 (m : MethodId) (q0 : Int64) (q1 : Int64) (q2 : Int64) (q3 : Int64) (q4 : Int64) (q5 : Int64) : entryFrame m #[(.long q0), (.long q1), (.long q2), (.long q3), (.long q4), (.long q5)] maxLocals = mkF m 0 #[.val (.long q0), .second, .val (.long q1), .second, .val (.long q2), .second, .val (.long q3), .second, .val (.long q4), .second, .val (.long q5), .second, .unset, .unset, .unset, .unset, .unset, .unset, .unset, .unset] [] := by first | (simp [entryFrame, mkF, argsToLocals, Value.category, maxLocals]; done) | rfl
theorem pd_0 : parseMethodDescriptor "(II)I" = some ⟨[.int, .int], some .int⟩ := by decide +kernel
theorem pd_1 : parseMethodDescriptor "(II)V" = some ⟨[.int, .int], none⟩ := by decide +kernel
theorem pd_2 : parseMethodDescriptor "(I)V" = some ⟨[.int], none⟩ := by decide +kernel
theorem pd_3 : parseMethodDescriptor "([JI)I" = some ⟨[(.array .long), .int], some .int⟩ := by decide +kernel
theorem pd_4 : parseMethodDescriptor "([JII)I" = some ⟨[(.array .long), .int, .int], some .int⟩ := by decide +kernel
theorem pd_5 : parseMethodDescriptor "(II)J" = some ⟨[.int, .int], some .long⟩ := by decide +kernel
theorem pd_6 : parseMethodDescriptor "([J)I" = some ⟨[(.array .long)], some .int⟩ := by decide +kernel
theorem pd_7 : parseMethodDescriptor "([J)V" = some ⟨[(.array .long)], none⟩ := by decide +kernel
theorem pd_8 : parseMethodDescriptor "()I" = some ⟨[], some .int⟩ := by decide +kernel
theorem pd_9 : parseMethodDescriptor "([J[J)V" = some ⟨[(.array .long), (.array .long)], none⟩ := by decide +kernel
theorem pd_10 : parseMethodDescriptor "(I[J[J)V" = some ⟨[.int, (.array .long), (.array .long)], none⟩ := by decide +kernel
theorem pd_11 : parseMethodDescriptor "(JJJJ)Z" = some ⟨[.long, .long, .long, .long], some .boolean⟩ := by decide +kernel
def G0_18  : Nat → Int64 := (updN (fun _ => (0 : Int64)) ((0 : Int32)).toNatClampNeg (0 : Int64))
def G0_22  : Nat → Int64 := (updN (G0_18) ((1 : Int32)).toNatClampNeg (0 : Int64))
def Gs68_149  : Nat → Int64 := (fun i => if 0 ≤ i ∧ i < 0 + 2 then (G0_22) (0 + (i - 0)) else (fun _ => (0 : Int64)) i)
def Gs68_164  : Nat → Int64 := (updN (fun _ => (0 : Int64)) ((0 : Int32)).toNatClampNeg (1 : Int64))
def Gs46_47  : Nat → Int32 := (updN (fun _ => (0 : Int32)) ((0 : Int32)).toNatClampNeg (0 : Int32))
def Gs46_59  : Nat → Int32 := (updN (Gs46_47) ((1 : Int32)).toNatClampNeg (0 : Int32))
def Gs1012_75 (q0 : Int64) : Nat → Int64 := (updN (fun _ => (0 : Int64)) ((0 : Int32)).toNatClampNeg q0)
def Gs1012_98 (q0 : Int64) (q2 : Int64) : Nat → Int64 := (updN (Gs1012_75 q0) ((2 : Int32)).toNatClampNeg (q2 &&& q0))
def Gs1012_75b (q0 : Int64) (q2 : Int64) (q1 : Int64) : Nat → Int64 := (updN (Gs1012_98 q0 q2) ((1 : Int32)).toNatClampNeg q1)
def Gs1012_98b (q0 : Int64) (q2 : Int64) (q1 : Int64) (q3 : Int64) : Nat → Int64 := (updN (Gs1012_75b q0 q2 q1) ((3 : Int32)).toNatClampNeg (q3 &&& q1))
def Gs1012_130  : Nat → Int32 := (updN (Gs46_59) ((1 : Int32)).toNatClampNeg (1 : Int32))
def Gs1212_75 (q0 : Int64) (q2 : Int64) (q1 : Int64) (q3 : Int64) : Nat → Int64 := (updN (Gs1012_98b q0 q2 q1 q3) ((4 : Int32)).toNatClampNeg q1)
def Gs1212_98 (q0 : Int64) (q2 : Int64) (q1 : Int64) (q3 : Int64) : Nat → Int64 := (updN (Gs1212_75 q0 q2 q1 q3) ((6 : Int32)).toNatClampNeg ((q3 ^^^ (-1 : Int64)) &&& q1))
def Gs1212_75b (q0 : Int64) (q2 : Int64) (q1 : Int64) (q3 : Int64) : Nat → Int64 := (updN (Gs1212_98 q0 q2 q1 q3) ((5 : Int32)).toNatClampNeg q0)
def Gs1212_98b (q0 : Int64) (q2 : Int64) (q1 : Int64) (q3 : Int64) (q5 : Int64) : Nat → Int64 := (updN (Gs1212_75b q0 q2 q1 q3) ((7 : Int32)).toNatClampNeg ((q2 ^^^ q5) &&& q0))
def Gs1212_130  : Nat → Int32 := (updN (Gs1012_130) ((1 : Int32)).toNatClampNeg (2 : Int32))
def G0_133 (q4 : Int64) : Nat → Int64 := (updN (fun _ => (0 : Int64)) ((0 : Int32)).toNatClampNeg (q4 ^^^ (-1 : Int64)))
def G0_142 (q4 : Int64) (q5 : Int64) : Nat → Int64 := (updN (G0_133 q4) ((1 : Int32)).toNatClampNeg (q5 ^^^ (-1 : Int64)))
def Gs1414_60 (q4 : Int64) (q5 : Int64) (q0 : Int64) (q2 : Int64) : Nat → Int64 := (updN (G0_142 q4 q5) ((0 : Int32)).toNatClampNeg ((q4 &&& (q0 ^^^ (-1 : Int64))) ||| (q2 &&& q0)))
def Gs1414_60b (q4 : Int64) (q5 : Int64) (q0 : Int64) (q2 : Int64) (q1 : Int64) (q3 : Int64) : Nat → Int64 := (updN (Gs1414_60 q4 q5 q0 q2) ((1 : Int32)).toNatClampNeg ((q5 &&& (q1 ^^^ (-1 : Int64))) ||| (q3 &&& q1)))
def Gs1514_60 (q4 : Int64) (q5 : Int64) (q1 : Int64) (q3 : Int64) : Nat → Int64 := (updN (G0_142 q4 q5) ((0 : Int32)).toNatClampNeg ((q4 &&& (q1 ^^^ (-1 : Int64))) ||| ((q3 ^^^ (-1 : Int64)) &&& q1)))
def Gs1514_60b (q4 : Int64) (q5 : Int64) (q1 : Int64) (q3 : Int64) (q0 : Int64) (q2 : Int64) : Nat → Int64 := (updN (Gs1514_60 q4 q5 q1 q3) ((1 : Int32)).toNatClampNeg ((q5 &&& (q0 ^^^ (-1 : Int64))) ||| ((q2 ^^^ q5) &&& q0)))
def G0_32 (q0 : Int64) : Nat → Int64 := (updN (fun _ => (0 : Int64)) ((0 : Int32)).toNatClampNeg q0)
def G0_36 (q0 : Int64) (q1 : Int64) : Nat → Int64 := (updN (G0_32 q0) ((1 : Int32)).toNatClampNeg q1)
def G0_46 (q2 : Int64) : Nat → Int64 := (updN (fun _ => (0 : Int64)) ((0 : Int32)).toNatClampNeg q2)
def G0_51 (q2 : Int64) (q3 : Int64) : Nat → Int64 := (updN (G0_46 q2) ((1 : Int32)).toNatClampNeg q3)
def G0_60 (q1 : Int64) : Nat → Int64 := (updN (fun _ => (0 : Int64)) ((0 : Int32)).toNatClampNeg q1)
def G0_64 (q1 : Int64) (q0 : Int64) : Nat → Int64 := (updN (G0_60 q1) ((1 : Int32)).toNatClampNeg q0)
def G0_78 (q3 : Int64) : Nat → Int64 := (updN (fun _ => (0 : Int64)) ((0 : Int32)).toNatClampNeg (q3 ^^^ (-1 : Int64)))
def G0_86 (q3 : Int64) (q2 : Int64) (q5 : Int64) : Nat → Int64 := (updN (G0_78 q3) ((1 : Int32)).toNatClampNeg (q2 ^^^ q5))
def G0_114 (q4 : Int64) : Nat → Int64 := (updN (fun _ => (0 : Int64)) ((0 : Int32)).toNatClampNeg q4)
def G0_119 (q4 : Int64) (q5 : Int64) : Nat → Int64 := (updN (G0_114 q4) ((1 : Int32)).toNatClampNeg q5)
theorem bNeg (i : Nat) (hi : i < 64) : (-1 : Int64).toBitVec.getLsbD i = true := by
  have m : (-1 : Int64).toBitVec = BitVec.allOnes 64 := by decide
  rw [m, BitVec.getLsbD_allOnes]; simp [hi]
theorem own_agr (b c a : Int64) : ¬ r15 ((b &&& (c ^^^ (-1 : Int64))) ||| (a &&& c)) b c a = 0 := by
  have z1 : ((((b &&& (c ^^^ (-1 : Int64))) ||| (a &&& c)) ^^^ b) &&& (c ^^^ (-1 : Int64))) = 0 := by
    apply bitsEq
    intro i hi
    rw [bAnd, bXor, bOr, bAnd, bAnd, bXor, bNeg i hi, bZero]
    cases b.toBitVec.getLsbD i <;> cases c.toBitVec.getLsbD i <;> cases a.toBitVec.getLsbD i <;> rfl
  have z2 : ((((b &&& (c ^^^ (-1 : Int64))) ||| (a &&& c)) ^^^ a) &&& c) = 0 := by
    apply bitsEq
    intro i hi
    rw [bAnd, bXor, bOr, bAnd, bAnd, bXor, bNeg i hi, bZero]
    cases b.toBitVec.getLsbD i <;> cases c.toBitVec.getLsbD i <;> cases a.toBitVec.getLsbD i <;> rfl
  unfold r15 f15_0
  rw [if_pos z1, if_pos z2]
  decide
theorem br0_200 (q4 : Int64) (q0 : Int64) (q2 : Int64) : ¬ ((r15 ((q4 &&& (q0 ^^^ (-1 : Int64))) ||| (q2 &&& q0)) q4 q0 q2) = (0 : Int32)) := own_agr _ _ _
theorem br0_215 (q5 : Int64) (q1 : Int64) (q3 : Int64) : ¬ ((r15 ((q5 &&& (q1 ^^^ (-1 : Int64))) ||| (q3 &&& q1)) q5 q1 q3) = (0 : Int32)) := own_agr _ _ _
theorem br0_234 (q4 : Int64) (q1 : Int64) (q3 : Int64) : ¬ ((r15 ((q4 &&& (q1 ^^^ (-1 : Int64))) ||| ((q3 ^^^ (-1 : Int64)) &&& q1)) q4 q1 (q3 ^^^ (-1 : Int64))) = (0 : Int32)) := own_agr _ _ _
theorem br0_252 (q5 : Int64) (q0 : Int64) (q2 : Int64) : ¬ ((r15 ((q5 &&& (q0 ^^^ (-1 : Int64))) ||| ((q2 ^^^ q5) &&& q0)) q5 q0 (q2 ^^^ q5)) = (0 : Int32)) := own_agr _ _ _
def Q14s15 (Z : State) (q0 : Int64) (q2 : Int64) (q1 : Int64) (q3 : Int64) (q5 : Int64) (q4 : Int64) (b1 : Addr) (b3133 : Addr) (b13611 : Addr) (b13636 : Addr) (h0 : Heap) (n0 : Nat) : Option Value → Heap → List Loc → Prop := fun v h L => v = none ∧ Fr n0 L ∧ Keep h0 h [b13636] ∧ Ary Z h b13636 .long 2 (fun i => .long ((Gs1514_60b q4 q5 q1 q3 q0 q2) i))
abbrev Las1514_0 (b1 : Addr) (b13611 : Addr) (b13636 : Addr) : Array Slot := #[.val (.ref b1), .val (.int (1 : Int32)), .val (.ref b13611), .val (.ref b13636), .unset, .unset]
abbrev Las1514_1 (b1 : Addr) (b13611 : Addr) (b13636 : Addr) : Array Slot := #[.val (.ref b1), .val (.int (1 : Int32)), .val (.ref b13611), .val (.ref b13636), .val (.int (4 : Int32)), .unset]
abbrev Las1514_2 (b1 : Addr) (b13611 : Addr) (b13636 : Addr) : Array Slot := #[.val (.ref b1), .val (.int (1 : Int32)), .val (.ref b13611), .val (.ref b13636), .val (.int (4 : Int32)), .val (.int (0 : Int32))]
abbrev Las1514_3 (b1 : Addr) (b13611 : Addr) (b13636 : Addr) : Array Slot := #[.val (.ref b1), .val (.int (1 : Int32)), .val (.ref b13611), .val (.ref b13636), .val (.int (4 : Int32)), .val (.int (1 : Int32))]
abbrev Las1514_4 (b1 : Addr) (b13611 : Addr) (b13636 : Addr) : Array Slot := #[.val (.ref b1), .val (.int (1 : Int32)), .val (.ref b13611), .val (.ref b13636), .val (.int (4 : Int32)), .val (.int (2 : Int32))]
set_option maxRecDepth 65536 in
set_option maxHeartbeats 40000000 in
theorem rm14s15 (l : Launch) (Z : State) (a0 : Array Value) (hw : ∀ d ∈ tables_1, d.before a0 Z = true) (ws : List Jvm.Cond) (q0 : Int64) (q2 : Int64) (q1 : Int64) (q3 : Int64) (q5 : Int64) (q4 : Int64) (b1 : Addr) (b3133 : Addr) (b13611 : Addr) (b13636 : Addr) (h0 : Heap) (n0 : Nat) (Z0 : n0 ≤ h0.size) (F_m_width_b1 : Fld Z h0 b1 "com/example/ken2/ken2/RememberedSteps" "m_width" "I" (.int (2 : Int32))) (F_m_steps_b1 : Fld Z h0 b1 "com/example/ken2/ken2/RememberedSteps" "m_steps" "[J" (.ref b3133)) (A_b3133 : Ary Z h0 b3133 .long 64 (fun i => .long ((Gs1212_98b q0 q2 q1 q3 q5) i))) (A_b13611 : Ary Z h0 b13611 .long 2 (fun i => .long ((G0_119 q4 q5) i))) (A_b13636 : Ary Z h0 b13636 .long 2 (fun i => .long ((G0_142 q4 q5) i))) (g_b13636 : n0 ≤ b13636) (ne_b1_b13636 : b1 ≠ b13636) (ne_b3133_b13636 : b3133 ≠ b13636) (ne_b13611_b13636 : b13611 ≠ b13636) :
    MetFree l (⟨"com/example/ken2/ken2/RememberedSteps", "take", "(I[J[J)V"⟩ : MethodName) (head1 (Jvm.Cond.code (⟨"com/example/ken2/ken2/RememberedSteps", "take", "(I[J[J)V"⟩ : MethodName) prog_109_method_8_code 6 none :: ws) ({ frames := 0, cells := 0, slots := 0, locals := 0 } : Room)) (fun a U => a = #[(.ref b1), (.int (1 : Int32)), (.ref b13611), (.ref b13636)] ∧ Z.Warmed39 U.vm ∧ U.heap = h0) (fun _ _ _ _ _ => True) (fun _ U o U' => ∃ v L, o = .returned v ∧ (Q14s15 Z q0 q2 q1 q3 q5 q4 b1 b3133 b13611 b13636 h0 n0) v U'.heap L ∧ FrameEnd U o U' L ({ frames := 0, cells := 0, slots := 0, locals := 0 } : Room).cells ({ frames := 0, cells := 0, slots := 0, locals := 0 } : Room).slots) :=
  own_met (ret := none) (Q := (Q14s15 Z q0 q2 q1 q3 q5 q4 b1 b3133 b13611 b13636 h0 n0)) (plainFor_of_name pn_14) (fun m => ef_14 m b1 (1 : Int32) b13611 b13636) (fun p e s m below meth c T0 X0 hx hby hml hown hnm hZ e0 => by
  have N0 := Fr.nil n0
  refine OwnFin.step (g' := (mkF m 1 (Las1514_0 b1 b13611 b13636) [(.int (1 : Int32))])) X0 (fun t k => XS.iloadN X0.here hx rfl (hb hby d14_0) rfl k) ?_
  refine OwnFin.step (g' := (mkF m 2 (Las1514_0 b1 b13611 b13636) [(.int (2 : Int32)), (.int (1 : Int32))])) X0 (fun t k => XS.iconst X0.here hx rfl (hb hby d14_1) k) ?_
  refine OwnFin.step (g' := (mkF m 3 (Las1514_0 b1 b13611 b13636) [(.int (2 : Int32))])) X0 (fun t k => XS.imul X0.here hx rfl (hb hby d14_2) rfl k) ?_
  refine OwnFin.step (g' := (mkF m 4 (Las1514_0 b1 b13611 b13636) [(.ref b1), (.int (2 : Int32))])) X0 (fun t k => XS.aloadN X0.here hx rfl (hb hby d14_3) rfl rfl k) ?_
  obtain ⟨T15688, X15688, e15688, st15688⟩ := getF X0 hx hZ hown (host := "") (Or.inl (hw _ (wm 12 rfl))) Via.refl e0 F_m_width_b1 (g := (mkF m 4 (Las1514_0 b1 b13611 b13636) [(.ref b1), (.int (2 : Int32))])) rfl rfl (hb hby d14_4)
  refine OwnFin.step (g' := (mkF m 7 (Las1514_0 b1 b13611 b13636) [(.int (2 : Int32)), (.int (2 : Int32))])) X15688 (fun t k => st15688 _ k) ?_
  refine OwnFin.step (g' := (mkF m 8 (Las1514_0 b1 b13611 b13636) [(.int (4 : Int32))])) X15688 (fun t k => XS.imul X15688.here hx rfl (hb hby d14_7) rfl k) ?_
  refine OwnFin.step (g' := (mkF m 10 (Las1514_1 b1 b13611 b13636) [])) X15688 (fun t k => XS.istore X15688.here hx rfl (hb hby d14_8) rfl (l' := (Las1514_1 b1 b13611 b13636)) rfl k) ?_
  refine OwnFin.step (g' := (mkF m 11 (Las1514_1 b1 b13611 b13636) [(.int (0 : Int32))])) X15688 (fun t k => XS.iconst X15688.here hx rfl (hb hby d14_10) k) ?_
  refine OwnFin.step (g' := (mkF m 13 (Las1514_2 b1 b13611 b13636) [])) X15688 (fun t k => XS.istore X15688.here hx rfl (hb hby d14_11) rfl (l' := (Las1514_2 b1 b13611 b13636)) rfl k) ?_
  refine OwnFin.step (g' := (mkF m 15 (Las1514_2 b1 b13611 b13636) [(.int (0 : Int32))])) X15688 (fun t k => XS.iload X15688.here hx rfl (hb hby d14_13) rfl k) ?_
  refine OwnFin.step (g' := (mkF m 16 (Las1514_2 b1 b13611 b13636) [(.ref b1), (.int (0 : Int32))])) X15688 (fun t k => XS.aloadN X15688.here hx rfl (hb hby d14_15) rfl rfl k) ?_
  obtain ⟨T15689, X15689, e15689, st15689⟩ := getF X15688 hx hZ hown (host := "") (Or.inl (hw _ (wm 12 rfl))) Via.refl e15688 F_m_width_b1 (g := (mkF m 16 (Las1514_2 b1 b13611 b13636) [(.ref b1), (.int (0 : Int32))])) rfl rfl (hb hby d14_16)
  refine OwnFin.step (g' := (mkF m 19 (Las1514_2 b1 b13611 b13636) [(.int (2 : Int32)), (.int (0 : Int32))])) X15689 (fun t k => st15689 _ k) ?_
  refine OwnFin.step (g' := (mkF m 22 (Las1514_2 b1 b13611 b13636) [])) X15689 (fun t k => XS.icmpNo X15689.here hx rfl (hb hby d14_19) rfl (tlt (show (0 : Int32) < (2 : Int32) by first | rfl | decide)).2.1 k) ?_
  refine OwnFin.step (g' := (mkF m 23 (Las1514_2 b1 b13611 b13636) [(.ref b13636)])) X15689 (fun t k => XS.aloadN X15689.here hx rfl (hb hby d14_22) rfl rfl k) ?_
  refine OwnFin.step (g' := (mkF m 25 (Las1514_2 b1 b13611 b13636) [(.int (0 : Int32)), (.ref b13636)])) X15689 (fun t k => XS.iload X15689.here hx rfl (hb hby d14_23) rfl k) ?_
  refine OwnFin.step (g' := (mkF m 26 (Las1514_2 b1 b13611 b13636) [(.ref b13611), (.int (0 : Int32)), (.ref b13636)])) X15689 (fun t k => XS.aloadN X15689.here hx rfl (hb hby d14_25) rfl rfl k) ?_
  refine OwnFin.step (g' := (mkF m 28 (Las1514_2 b1 b13611 b13636) [(.int (0 : Int32)), (.ref b13611), (.int (0 : Int32)), (.ref b13636)])) X15689 (fun t k => XS.iload X15689.here hx rfl (hb hby d14_26) rfl k) ?_
  refine OwnFin.step (g' := (mkF m 29 (Las1514_2 b1 b13611 b13636) [(.long q4), (.int (0 : Int32)), (.ref b13636)])) X15689 (fun t k => own_ldJ X15689 hx hZ e15689 A_b13611 (by decide) rfl (g := (mkF m 28 (Las1514_2 b1 b13611 b13636) [(.int (0 : Int32)), (.ref b13611), (.int (0 : Int32)), (.ref b13636)])) rfl rfl (hb hby d14_28) _ k) ?_
  refine OwnFin.step (g' := (mkF m 30 (Las1514_2 b1 b13611 b13636) [(.ref b1), (.long q4), (.int (0 : Int32)), (.ref b13636)])) X15689 (fun t k => XS.aloadN X15689.here hx rfl (hb hby d14_29) rfl rfl k) ?_
  obtain ⟨T15690, X15690, e15690, st15690⟩ := getF X15689 hx hZ hown (host := "") (Or.inl (hw _ (wm 41 rfl))) Via.refl e15689 F_m_steps_b1 (g := (mkF m 30 (Las1514_2 b1 b13611 b13636) [(.ref b1), (.long q4), (.int (0 : Int32)), (.ref b13636)])) rfl rfl (hb hby d14_30)
  refine OwnFin.step (g' := (mkF m 33 (Las1514_2 b1 b13611 b13636) [(.ref b3133), (.long q4), (.int (0 : Int32)), (.ref b13636)])) X15690 (fun t k => st15690 _ k) ?_
  refine OwnFin.step (g' := (mkF m 35 (Las1514_2 b1 b13611 b13636) [(.int (4 : Int32)), (.ref b3133), (.long q4), (.int (0 : Int32)), (.ref b13636)])) X15690 (fun t k => XS.iload X15690.here hx rfl (hb hby d14_33) rfl k) ?_
  refine OwnFin.step (g' := (mkF m 37 (Las1514_2 b1 b13611 b13636) [(.int (0 : Int32)), (.int (4 : Int32)), (.ref b3133), (.long q4), (.int (0 : Int32)), (.ref b13636)])) X15690 (fun t k => XS.iload X15690.here hx rfl (hb hby d14_35) rfl k) ?_
  refine OwnFin.step (g' := (mkF m 38 (Las1514_2 b1 b13611 b13636) [(.int (4 : Int32)), (.ref b3133), (.long q4), (.int (0 : Int32)), (.ref b13636)])) X15690 (fun t k => XS.iadd X15690.here hx rfl (hb hby d14_37) rfl k) ?_
  refine OwnFin.step (g' := (mkF m 39 (Las1514_2 b1 b13611 b13636) [(.long q1), (.long q4), (.int (0 : Int32)), (.ref b13636)])) X15690 (fun t k => own_ldJ X15690 hx hZ e15690 A_b3133 (by decide) rfl (g := (mkF m 38 (Las1514_2 b1 b13611 b13636) [(.int (4 : Int32)), (.ref b3133), (.long q4), (.int (0 : Int32)), (.ref b13636)])) rfl rfl (hb hby d14_38) _ k) ?_
  refine OwnFin.step (g' := (mkF m 42 (Las1514_2 b1 b13611 b13636) [(.long (-1 : Int64)), (.long q1), (.long q4), (.int (0 : Int32)), (.ref b13636)])) X15690 (fun t k => X15690.ldc2Long hx hown (mvT hZ (hw _ (wm 97 rfl))) (g := (mkF m 39 (Las1514_2 b1 b13611 b13636) [(.long q1), (.long q4), (.int (0 : Int32)), (.ref b13636)])) rfl (hb hby d14_39) _ k) ?_
  refine OwnFin.step (g' := (mkF m 43 (Las1514_2 b1 b13611 b13636) [(.long (q1 ^^^ (-1 : Int64))), (.long q4), (.int (0 : Int32)), (.ref b13636)])) X15690 (fun t k => XT.lxor X15690.here hx rfl (hb hby d14_42) rfl k) ?_
  refine OwnFin.step (g' := (mkF m 44 (Las1514_2 b1 b13611 b13636) [(.long (q4 &&& (q1 ^^^ (-1 : Int64)))), (.int (0 : Int32)), (.ref b13636)])) X15690 (fun t k => XT.land X15690.here hx rfl (hb hby d14_43) rfl k) ?_
  refine OwnFin.step (g' := (mkF m 45 (Las1514_2 b1 b13611 b13636) [(.ref b1), (.long (q4 &&& (q1 ^^^ (-1 : Int64)))), (.int (0 : Int32)), (.ref b13636)])) X15690 (fun t k => XS.aloadN X15690.here hx rfl (hb hby d14_44) rfl rfl k) ?_
  obtain ⟨T15691, X15691, e15691, st15691⟩ := getF X15690 hx hZ hown (host := "") (Or.inl (hw _ (wm 41 rfl))) Via.refl e15690 F_m_steps_b1 (g := (mkF m 45 (Las1514_2 b1 b13611 b13636) [(.ref b1), (.long (q4 &&& (q1 ^^^ (-1 : Int64)))), (.int (0 : Int32)), (.ref b13636)])) rfl rfl (hb hby d14_45)
  refine OwnFin.step (g' := (mkF m 48 (Las1514_2 b1 b13611 b13636) [(.ref b3133), (.long (q4 &&& (q1 ^^^ (-1 : Int64)))), (.int (0 : Int32)), (.ref b13636)])) X15691 (fun t k => st15691 _ k) ?_
  refine OwnFin.step (g' := (mkF m 50 (Las1514_2 b1 b13611 b13636) [(.int (4 : Int32)), (.ref b3133), (.long (q4 &&& (q1 ^^^ (-1 : Int64)))), (.int (0 : Int32)), (.ref b13636)])) X15691 (fun t k => XS.iload X15691.here hx rfl (hb hby d14_48) rfl k) ?_
  refine OwnFin.step (g' := (mkF m 51 (Las1514_2 b1 b13611 b13636) [(.ref b1), (.int (4 : Int32)), (.ref b3133), (.long (q4 &&& (q1 ^^^ (-1 : Int64)))), (.int (0 : Int32)), (.ref b13636)])) X15691 (fun t k => XS.aloadN X15691.here hx rfl (hb hby d14_50) rfl rfl k) ?_
  obtain ⟨T15692, X15692, e15692, st15692⟩ := getF X15691 hx hZ hown (host := "") (Or.inl (hw _ (wm 12 rfl))) Via.refl e15691 F_m_width_b1 (g := (mkF m 51 (Las1514_2 b1 b13611 b13636) [(.ref b1), (.int (4 : Int32)), (.ref b3133), (.long (q4 &&& (q1 ^^^ (-1 : Int64)))), (.int (0 : Int32)), (.ref b13636)])) rfl rfl (hb hby d14_51)
  refine OwnFin.step (g' := (mkF m 54 (Las1514_2 b1 b13611 b13636) [(.int (2 : Int32)), (.int (4 : Int32)), (.ref b3133), (.long (q4 &&& (q1 ^^^ (-1 : Int64)))), (.int (0 : Int32)), (.ref b13636)])) X15692 (fun t k => st15692 _ k) ?_
  refine OwnFin.step (g' := (mkF m 55 (Las1514_2 b1 b13611 b13636) [(.int (6 : Int32)), (.ref b3133), (.long (q4 &&& (q1 ^^^ (-1 : Int64)))), (.int (0 : Int32)), (.ref b13636)])) X15692 (fun t k => XS.iadd X15692.here hx rfl (hb hby d14_54) rfl k) ?_
  refine OwnFin.step (g' := (mkF m 57 (Las1514_2 b1 b13611 b13636) [(.int (0 : Int32)), (.int (6 : Int32)), (.ref b3133), (.long (q4 &&& (q1 ^^^ (-1 : Int64)))), (.int (0 : Int32)), (.ref b13636)])) X15692 (fun t k => XS.iload X15692.here hx rfl (hb hby d14_55) rfl k) ?_
  refine OwnFin.step (g' := (mkF m 58 (Las1514_2 b1 b13611 b13636) [(.int (6 : Int32)), (.ref b3133), (.long (q4 &&& (q1 ^^^ (-1 : Int64)))), (.int (0 : Int32)), (.ref b13636)])) X15692 (fun t k => XS.iadd X15692.here hx rfl (hb hby d14_57) rfl k) ?_
  refine OwnFin.step (g' := (mkF m 59 (Las1514_2 b1 b13611 b13636) [(.long ((q3 ^^^ (-1 : Int64)) &&& q1)), (.long (q4 &&& (q1 ^^^ (-1 : Int64)))), (.int (0 : Int32)), (.ref b13636)])) X15692 (fun t k => own_ldJ X15692 hx hZ e15692 A_b3133 (by decide) rfl (g := (mkF m 58 (Las1514_2 b1 b13611 b13636) [(.int (6 : Int32)), (.ref b3133), (.long (q4 &&& (q1 ^^^ (-1 : Int64)))), (.int (0 : Int32)), (.ref b13636)])) rfl rfl (hb hby d14_58) _ k) ?_
  refine OwnFin.step (g' := (mkF m 60 (Las1514_2 b1 b13611 b13636) [(.long ((q4 &&& (q1 ^^^ (-1 : Int64))) ||| ((q3 ^^^ (-1 : Int64)) &&& q1))), (.int (0 : Int32)), (.ref b13636)])) X15692 (fun t k => XT.lor X15692.here hx rfl (hb hby d14_59) rfl k) ?_
  obtain ⟨T15693, h15693, L15693, X15693, e15693, N15693, K15693, A15693, st15693⟩ := own_stJ X15692 hx hZ e15692 N0 (G := (G0_142 q4 q5)) A_b13636 g_b13636 (j := (0 : Int32)) (x := ((q4 &&& (q1 ^^^ (-1 : Int64))) ||| ((q3 ^^^ (-1 : Int64)) &&& q1))) (by decide) (g := (mkF m 60 (Las1514_2 b1 b13611 b13636) [(.long ((q4 &&& (q1 ^^^ (-1 : Int64))) ||| ((q3 ^^^ (-1 : Int64)) &&& q1))), (.int (0 : Int32)), (.ref b13636)])) rfl rfl (hb hby d14_60)
  have B15693 : Ary Z h15693 b13636 .long 2 (fun i => .long ((Gs1514_60 q4 q5 q1 q3) i)) := A15693
  have Z15693 := Nat.le_trans Z0 K15693.1
  have S15693 := Nat.le_trans (Nat.le_refl h0.size) K15693.1
  refine OwnFin.step (g' := (mkF m 61 (Las1514_2 b1 b13611 b13636) [])) X15693 (fun t k => st15693 _ k) ?_
  refine OwnFin.step (g' := (mkF m 64 (Las1514_3 b1 b13611 b13636) [])) X15693 (fun t k => XS.iinc X15693.here hx rfl (hb hby d14_61) rfl (l' := (Las1514_3 b1 b13611 b13636)) rfl k) ?_
  refine OwnFin.step (g' := (mkF m 13 (Las1514_3 b1 b13611 b13636) [])) X15693 (fun t k => XS.goto X15693.here hx rfl (pc0 := 64) (pc' := 13) rfl (hb hby d14_64) (by decide) (by decide) k) ?_
  refine OwnFin.step (g' := (mkF m 15 (Las1514_3 b1 b13611 b13636) [(.int (1 : Int32))])) X15693 (fun t k => XS.iload X15693.here hx rfl (hb hby d14_13) rfl k) ?_
  refine OwnFin.step (g' := (mkF m 16 (Las1514_3 b1 b13611 b13636) [(.ref b1), (.int (1 : Int32))])) X15693 (fun t k => XS.aloadN X15693.here hx rfl (hb hby d14_15) rfl rfl k) ?_
  have F15694 := (F_m_width_b1.keep K15693 (ninS ne_b1_b13636 nin0))
  obtain ⟨T15695, X15695, e15695, st15695⟩ := getF X15693 hx hZ hown (host := "") (Or.inl (hw _ (wm 12 rfl))) Via.refl e15693 F15694 (g := (mkF m 16 (Las1514_3 b1 b13611 b13636) [(.ref b1), (.int (1 : Int32))])) rfl rfl (hb hby d14_16)
  refine OwnFin.step (g' := (mkF m 19 (Las1514_3 b1 b13611 b13636) [(.int (2 : Int32)), (.int (1 : Int32))])) X15695 (fun t k => st15695 _ k) ?_
  refine OwnFin.step (g' := (mkF m 22 (Las1514_3 b1 b13611 b13636) [])) X15695 (fun t k => XS.icmpNo X15695.here hx rfl (hb hby d14_19) rfl (tlt (show (1 : Int32) < (2 : Int32) by first | rfl | decide)).2.1 k) ?_
  refine OwnFin.step (g' := (mkF m 23 (Las1514_3 b1 b13611 b13636) [(.ref b13636)])) X15695 (fun t k => XS.aloadN X15695.here hx rfl (hb hby d14_22) rfl rfl k) ?_
  refine OwnFin.step (g' := (mkF m 25 (Las1514_3 b1 b13611 b13636) [(.int (1 : Int32)), (.ref b13636)])) X15695 (fun t k => XS.iload X15695.here hx rfl (hb hby d14_23) rfl k) ?_
  refine OwnFin.step (g' := (mkF m 26 (Las1514_3 b1 b13611 b13636) [(.ref b13611), (.int (1 : Int32)), (.ref b13636)])) X15695 (fun t k => XS.aloadN X15695.here hx rfl (hb hby d14_25) rfl rfl k) ?_
  refine OwnFin.step (g' := (mkF m 28 (Las1514_3 b1 b13611 b13636) [(.int (1 : Int32)), (.ref b13611), (.int (1 : Int32)), (.ref b13636)])) X15695 (fun t k => XS.iload X15695.here hx rfl (hb hby d14_26) rfl k) ?_
  have A15696 := (A_b13611.keep K15693 (ninS ne_b13611_b13636 nin0))
  refine OwnFin.step (g' := (mkF m 29 (Las1514_3 b1 b13611 b13636) [(.long q5), (.int (1 : Int32)), (.ref b13636)])) X15695 (fun t k => own_ldJ X15695 hx hZ e15695 A15696 (by decide) rfl (g := (mkF m 28 (Las1514_3 b1 b13611 b13636) [(.int (1 : Int32)), (.ref b13611), (.int (1 : Int32)), (.ref b13636)])) rfl rfl (hb hby d14_28) _ k) ?_
  refine OwnFin.step (g' := (mkF m 30 (Las1514_3 b1 b13611 b13636) [(.ref b1), (.long q5), (.int (1 : Int32)), (.ref b13636)])) X15695 (fun t k => XS.aloadN X15695.here hx rfl (hb hby d14_29) rfl rfl k) ?_
  have F15697 := (F_m_steps_b1.keep K15693 (ninS ne_b1_b13636 nin0))
  obtain ⟨T15698, X15698, e15698, st15698⟩ := getF X15695 hx hZ hown (host := "") (Or.inl (hw _ (wm 41 rfl))) Via.refl e15695 F15697 (g := (mkF m 30 (Las1514_3 b1 b13611 b13636) [(.ref b1), (.long q5), (.int (1 : Int32)), (.ref b13636)])) rfl rfl (hb hby d14_30)
  refine OwnFin.step (g' := (mkF m 33 (Las1514_3 b1 b13611 b13636) [(.ref b3133), (.long q5), (.int (1 : Int32)), (.ref b13636)])) X15698 (fun t k => st15698 _ k) ?_
  refine OwnFin.step (g' := (mkF m 35 (Las1514_3 b1 b13611 b13636) [(.int (4 : Int32)), (.ref b3133), (.long q5), (.int (1 : Int32)), (.ref b13636)])) X15698 (fun t k => XS.iload X15698.here hx rfl (hb hby d14_33) rfl k) ?_
  refine OwnFin.step (g' := (mkF m 37 (Las1514_3 b1 b13611 b13636) [(.int (1 : Int32)), (.int (4 : Int32)), (.ref b3133), (.long q5), (.int (1 : Int32)), (.ref b13636)])) X15698 (fun t k => XS.iload X15698.here hx rfl (hb hby d14_35) rfl k) ?_
  refine OwnFin.step (g' := (mkF m 38 (Las1514_3 b1 b13611 b13636) [(.int (5 : Int32)), (.ref b3133), (.long q5), (.int (1 : Int32)), (.ref b13636)])) X15698 (fun t k => XS.iadd X15698.here hx rfl (hb hby d14_37) rfl k) ?_
  have A15699 := (A_b3133.keep K15693 (ninS ne_b3133_b13636 nin0))
  refine OwnFin.step (g' := (mkF m 39 (Las1514_3 b1 b13611 b13636) [(.long q0), (.long q5), (.int (1 : Int32)), (.ref b13636)])) X15698 (fun t k => own_ldJ X15698 hx hZ e15698 A15699 (by decide) rfl (g := (mkF m 38 (Las1514_3 b1 b13611 b13636) [(.int (5 : Int32)), (.ref b3133), (.long q5), (.int (1 : Int32)), (.ref b13636)])) rfl rfl (hb hby d14_38) _ k) ?_
  refine OwnFin.step (g' := (mkF m 42 (Las1514_3 b1 b13611 b13636) [(.long (-1 : Int64)), (.long q0), (.long q5), (.int (1 : Int32)), (.ref b13636)])) X15698 (fun t k => X15698.ldc2Long hx hown (mvT hZ (hw _ (wm 97 rfl))) (g := (mkF m 39 (Las1514_3 b1 b13611 b13636) [(.long q0), (.long q5), (.int (1 : Int32)), (.ref b13636)])) rfl (hb hby d14_39) _ k) ?_
  refine OwnFin.step (g' := (mkF m 43 (Las1514_3 b1 b13611 b13636) [(.long (q0 ^^^ (-1 : Int64))), (.long q5), (.int (1 : Int32)), (.ref b13636)])) X15698 (fun t k => XT.lxor X15698.here hx rfl (hb hby d14_42) rfl k) ?_
  refine OwnFin.step (g' := (mkF m 44 (Las1514_3 b1 b13611 b13636) [(.long (q5 &&& (q0 ^^^ (-1 : Int64)))), (.int (1 : Int32)), (.ref b13636)])) X15698 (fun t k => XT.land X15698.here hx rfl (hb hby d14_43) rfl k) ?_
  refine OwnFin.step (g' := (mkF m 45 (Las1514_3 b1 b13611 b13636) [(.ref b1), (.long (q5 &&& (q0 ^^^ (-1 : Int64)))), (.int (1 : Int32)), (.ref b13636)])) X15698 (fun t k => XS.aloadN X15698.here hx rfl (hb hby d14_44) rfl rfl k) ?_
  obtain ⟨T15700, X15700, e15700, st15700⟩ := getF X15698 hx hZ hown (host := "") (Or.inl (hw _ (wm 41 rfl))) Via.refl e15698 F15697 (g := (mkF m 45 (Las1514_3 b1 b13611 b13636) [(.ref b1), (.long (q5 &&& (q0 ^^^ (-1 : Int64)))), (.int (1 : Int32)), (.ref b13636)])) rfl rfl (hb hby d14_45)
  refine OwnFin.step (g' := (mkF m 48 (Las1514_3 b1 b13611 b13636) [(.ref b3133), (.long (q5 &&& (q0 ^^^ (-1 : Int64)))), (.int (1 : Int32)), (.ref b13636)])) X15700 (fun t k => st15700 _ k) ?_
  refine OwnFin.step (g' := (mkF m 50 (Las1514_3 b1 b13611 b13636) [(.int (4 : Int32)), (.ref b3133), (.long (q5 &&& (q0 ^^^ (-1 : Int64)))), (.int (1 : Int32)), (.ref b13636)])) X15700 (fun t k => XS.iload X15700.here hx rfl (hb hby d14_48) rfl k) ?_
  refine OwnFin.step (g' := (mkF m 51 (Las1514_3 b1 b13611 b13636) [(.ref b1), (.int (4 : Int32)), (.ref b3133), (.long (q5 &&& (q0 ^^^ (-1 : Int64)))), (.int (1 : Int32)), (.ref b13636)])) X15700 (fun t k => XS.aloadN X15700.here hx rfl (hb hby d14_50) rfl rfl k) ?_
  obtain ⟨T15701, X15701, e15701, st15701⟩ := getF X15700 hx hZ hown (host := "") (Or.inl (hw _ (wm 12 rfl))) Via.refl e15700 F15694 (g := (mkF m 51 (Las1514_3 b1 b13611 b13636) [(.ref b1), (.int (4 : Int32)), (.ref b3133), (.long (q5 &&& (q0 ^^^ (-1 : Int64)))), (.int (1 : Int32)), (.ref b13636)])) rfl rfl (hb hby d14_51)
  refine OwnFin.step (g' := (mkF m 54 (Las1514_3 b1 b13611 b13636) [(.int (2 : Int32)), (.int (4 : Int32)), (.ref b3133), (.long (q5 &&& (q0 ^^^ (-1 : Int64)))), (.int (1 : Int32)), (.ref b13636)])) X15701 (fun t k => st15701 _ k) ?_
  refine OwnFin.step (g' := (mkF m 55 (Las1514_3 b1 b13611 b13636) [(.int (6 : Int32)), (.ref b3133), (.long (q5 &&& (q0 ^^^ (-1 : Int64)))), (.int (1 : Int32)), (.ref b13636)])) X15701 (fun t k => XS.iadd X15701.here hx rfl (hb hby d14_54) rfl k) ?_
  refine OwnFin.step (g' := (mkF m 57 (Las1514_3 b1 b13611 b13636) [(.int (1 : Int32)), (.int (6 : Int32)), (.ref b3133), (.long (q5 &&& (q0 ^^^ (-1 : Int64)))), (.int (1 : Int32)), (.ref b13636)])) X15701 (fun t k => XS.iload X15701.here hx rfl (hb hby d14_55) rfl k) ?_
  refine OwnFin.step (g' := (mkF m 58 (Las1514_3 b1 b13611 b13636) [(.int (7 : Int32)), (.ref b3133), (.long (q5 &&& (q0 ^^^ (-1 : Int64)))), (.int (1 : Int32)), (.ref b13636)])) X15701 (fun t k => XS.iadd X15701.here hx rfl (hb hby d14_57) rfl k) ?_
  refine OwnFin.step (g' := (mkF m 59 (Las1514_3 b1 b13611 b13636) [(.long ((q2 ^^^ q5) &&& q0)), (.long (q5 &&& (q0 ^^^ (-1 : Int64)))), (.int (1 : Int32)), (.ref b13636)])) X15701 (fun t k => own_ldJ X15701 hx hZ e15701 A15699 (by decide) rfl (g := (mkF m 58 (Las1514_3 b1 b13611 b13636) [(.int (7 : Int32)), (.ref b3133), (.long (q5 &&& (q0 ^^^ (-1 : Int64)))), (.int (1 : Int32)), (.ref b13636)])) rfl rfl (hb hby d14_58) _ k) ?_
  refine OwnFin.step (g' := (mkF m 60 (Las1514_3 b1 b13611 b13636) [(.long ((q5 &&& (q0 ^^^ (-1 : Int64))) ||| ((q2 ^^^ q5) &&& q0))), (.int (1 : Int32)), (.ref b13636)])) X15701 (fun t k => XT.lor X15701.here hx rfl (hb hby d14_59) rfl k) ?_
  obtain ⟨T15702, h15702, L15702, X15702, e15702, N15702, K15702, A15702, st15702⟩ := own_stJ X15701 hx hZ e15701 N15693 (G := (Gs1514_60 q4 q5 q1 q3)) B15693 g_b13636 (j := (1 : Int32)) (x := ((q5 &&& (q0 ^^^ (-1 : Int64))) ||| ((q2 ^^^ q5) &&& q0))) (by decide) (g := (mkF m 60 (Las1514_3 b1 b13611 b13636) [(.long ((q5 &&& (q0 ^^^ (-1 : Int64))) ||| ((q2 ^^^ q5) &&& q0))), (.int (1 : Int32)), (.ref b13636)])) rfl rfl (hb hby d14_60)
  have B15702 : Ary Z h15702 b13636 .long 2 (fun i => .long ((Gs1514_60b q4 q5 q1 q3 q0 q2) i)) := A15702
  have Z15702 := Nat.le_trans Z15693 K15702.1
  have S15702 := Nat.le_trans S15693 K15702.1
  refine OwnFin.step (g' := (mkF m 61 (Las1514_3 b1 b13611 b13636) [])) X15702 (fun t k => st15702 _ k) ?_
  refine OwnFin.step (g' := (mkF m 64 (Las1514_4 b1 b13611 b13636) [])) X15702 (fun t k => XS.iinc X15702.here hx rfl (hb hby d14_61) rfl (l' := (Las1514_4 b1 b13611 b13636)) rfl k) ?_
  refine OwnFin.step (g' := (mkF m 13 (Las1514_4 b1 b13611 b13636) [])) X15702 (fun t k => XS.goto X15702.here hx rfl (pc0 := 64) (pc' := 13) rfl (hb hby d14_64) (by decide) (by decide) k) ?_
  refine OwnFin.step (g' := (mkF m 15 (Las1514_4 b1 b13611 b13636) [(.int (2 : Int32))])) X15702 (fun t k => XS.iload X15702.here hx rfl (hb hby d14_13) rfl k) ?_
  refine OwnFin.step (g' := (mkF m 16 (Las1514_4 b1 b13611 b13636) [(.ref b1), (.int (2 : Int32))])) X15702 (fun t k => XS.aloadN X15702.here hx rfl (hb hby d14_15) rfl rfl k) ?_
  have F15703 := (F15694.keep K15702 (ninS ne_b1_b13636 nin0))
  obtain ⟨T15704, X15704, e15704, st15704⟩ := getF X15702 hx hZ hown (host := "") (Or.inl (hw _ (wm 12 rfl))) Via.refl e15702 F15703 (g := (mkF m 16 (Las1514_4 b1 b13611 b13636) [(.ref b1), (.int (2 : Int32))])) rfl rfl (hb hby d14_16)
  refine OwnFin.step (g' := (mkF m 19 (Las1514_4 b1 b13611 b13636) [(.int (2 : Int32)), (.int (2 : Int32))])) X15704 (fun t k => st15704 _ k) ?_
  refine OwnFin.step (g' := (mkF m 67 (Las1514_4 b1 b13611 b13636) [])) X15704 (fun t k => XS.icmpYes X15704.here hx rfl (pc0 := 19) (pc' := 67) rfl (hb hby d14_19) rfl (flt (show ¬ ((2 : Int32) < (2 : Int32)) by first | decide | exact Int32.lt_irrefl _ | exact Int64.lt_irrefl _)).2.1 (by decide) (by decide) k) ?_
  refine OwnFin.retVoid X15704 (hb hby d14_67) (by decide) (by decide) ?_
  rw [e15704]
  exact ⟨rfl, N15702, (Keep.trans (Keep.trans (Keep.refl h0 [b13636]) K15693 (allS (Or.inl (wm 0 rfl)) all0)) K15702 (allS (Or.inl (wm 0 rfl)) all0)), B15702⟩)
def Q14s14 (Z : State) (q0 : Int64) (q2 : Int64) (q1 : Int64) (q3 : Int64) (q5 : Int64) (q4 : Int64) (b1 : Addr) (b3133 : Addr) (b13611 : Addr) (b13622 : Addr) (h0 : Heap) (n0 : Nat) : Option Value → Heap → List Loc → Prop := fun v h L => v = none ∧ Fr n0 L ∧ Keep h0 h [b13622] ∧ Ary Z h b13622 .long 2 (fun i => .long ((Gs1414_60b q4 q5 q0 q2 q1 q3) i))
abbrev Las1414_0 (b1 : Addr) (b13611 : Addr) (b13622 : Addr) : Array Slot := #[.val (.ref b1), .val (.int (0 : Int32)), .val (.ref b13611), .val (.ref b13622), .unset, .unset]
abbrev Las1414_1 (b1 : Addr) (b13611 : Addr) (b13622 : Addr) : Array Slot := #[.val (.ref b1), .val (.int (0 : Int32)), .val (.ref b13611), .val (.ref b13622), .val (.int (0 : Int32)), .unset]
abbrev Las1414_2 (b1 : Addr) (b13611 : Addr) (b13622 : Addr) : Array Slot := #[.val (.ref b1), .val (.int (0 : Int32)), .val (.ref b13611), .val (.ref b13622), .val (.int (0 : Int32)), .val (.int (0 : Int32))]
abbrev Las1414_3 (b1 : Addr) (b13611 : Addr) (b13622 : Addr) : Array Slot := #[.val (.ref b1), .val (.int (0 : Int32)), .val (.ref b13611), .val (.ref b13622), .val (.int (0 : Int32)), .val (.int (1 : Int32))]
abbrev Las1414_4 (b1 : Addr) (b13611 : Addr) (b13622 : Addr) : Array Slot := #[.val (.ref b1), .val (.int (0 : Int32)), .val (.ref b13611), .val (.ref b13622), .val (.int (0 : Int32)), .val (.int (2 : Int32))]
set_option maxRecDepth 65536 in
set_option maxHeartbeats 40000000 in
theorem rm14s14 (l : Launch) (Z : State) (a0 : Array Value) (hw : ∀ d ∈ tables_1, d.before a0 Z = true) (ws : List Jvm.Cond) (q0 : Int64) (q2 : Int64) (q1 : Int64) (q3 : Int64) (q5 : Int64) (q4 : Int64) (b1 : Addr) (b3133 : Addr) (b13611 : Addr) (b13622 : Addr) (h0 : Heap) (n0 : Nat) (Z0 : n0 ≤ h0.size) (F_m_width_b1 : Fld Z h0 b1 "com/example/ken2/ken2/RememberedSteps" "m_width" "I" (.int (2 : Int32))) (F_m_steps_b1 : Fld Z h0 b1 "com/example/ken2/ken2/RememberedSteps" "m_steps" "[J" (.ref b3133)) (A_b3133 : Ary Z h0 b3133 .long 64 (fun i => .long ((Gs1212_98b q0 q2 q1 q3 q5) i))) (A_b13611 : Ary Z h0 b13611 .long 2 (fun i => .long ((G0_119 q4 q5) i))) (A_b13622 : Ary Z h0 b13622 .long 2 (fun i => .long ((G0_142 q4 q5) i))) (g_b13622 : n0 ≤ b13622) (ne_b1_b13622 : b1 ≠ b13622) (ne_b3133_b13622 : b3133 ≠ b13622) (ne_b13611_b13622 : b13611 ≠ b13622) :
    MetFree l (⟨"com/example/ken2/ken2/RememberedSteps", "take", "(I[J[J)V"⟩ : MethodName) (head1 (Jvm.Cond.code (⟨"com/example/ken2/ken2/RememberedSteps", "take", "(I[J[J)V"⟩ : MethodName) prog_109_method_8_code 6 none :: ws) ({ frames := 0, cells := 0, slots := 0, locals := 0 } : Room)) (fun a U => a = #[(.ref b1), (.int (0 : Int32)), (.ref b13611), (.ref b13622)] ∧ Z.Warmed39 U.vm ∧ U.heap = h0) (fun _ _ _ _ _ => True) (fun _ U o U' => ∃ v L, o = .returned v ∧ (Q14s14 Z q0 q2 q1 q3 q5 q4 b1 b3133 b13611 b13622 h0 n0) v U'.heap L ∧ FrameEnd U o U' L ({ frames := 0, cells := 0, slots := 0, locals := 0 } : Room).cells ({ frames := 0, cells := 0, slots := 0, locals := 0 } : Room).slots) :=
  own_met (ret := none) (Q := (Q14s14 Z q0 q2 q1 q3 q5 q4 b1 b3133 b13611 b13622 h0 n0)) (plainFor_of_name pn_14) (fun m => ef_14 m b1 (0 : Int32) b13611 b13622) (fun p e s m below meth c T0 X0 hx hby hml hown hnm hZ e0 => by
  have N0 := Fr.nil n0
  refine OwnFin.step (g' := (mkF m 1 (Las1414_0 b1 b13611 b13622) [(.int (0 : Int32))])) X0 (fun t k => XS.iloadN X0.here hx rfl (hb hby d14_0) rfl k) ?_
  refine OwnFin.step (g' := (mkF m 2 (Las1414_0 b1 b13611 b13622) [(.int (2 : Int32)), (.int (0 : Int32))])) X0 (fun t k => XS.iconst X0.here hx rfl (hb hby d14_1) k) ?_
  refine OwnFin.step (g' := (mkF m 3 (Las1414_0 b1 b13611 b13622) [(.int (0 : Int32))])) X0 (fun t k => XS.imul X0.here hx rfl (hb hby d14_2) rfl k) ?_
  refine OwnFin.step (g' := (mkF m 4 (Las1414_0 b1 b13611 b13622) [(.ref b1), (.int (0 : Int32))])) X0 (fun t k => XS.aloadN X0.here hx rfl (hb hby d14_3) rfl rfl k) ?_
  obtain ⟨T14652, X14652, e14652, st14652⟩ := getF X0 hx hZ hown (host := "") (Or.inl (hw _ (wm 12 rfl))) Via.refl e0 F_m_width_b1 (g := (mkF m 4 (Las1414_0 b1 b13611 b13622) [(.ref b1), (.int (0 : Int32))])) rfl rfl (hb hby d14_4)
  refine OwnFin.step (g' := (mkF m 7 (Las1414_0 b1 b13611 b13622) [(.int (2 : Int32)), (.int (0 : Int32))])) X14652 (fun t k => st14652 _ k) ?_
  refine OwnFin.step (g' := (mkF m 8 (Las1414_0 b1 b13611 b13622) [(.int (0 : Int32))])) X14652 (fun t k => XS.imul X14652.here hx rfl (hb hby d14_7) rfl k) ?_
  refine OwnFin.step (g' := (mkF m 10 (Las1414_1 b1 b13611 b13622) [])) X14652 (fun t k => XS.istore X14652.here hx rfl (hb hby d14_8) rfl (l' := (Las1414_1 b1 b13611 b13622)) rfl k) ?_
  refine OwnFin.step (g' := (mkF m 11 (Las1414_1 b1 b13611 b13622) [(.int (0 : Int32))])) X14652 (fun t k => XS.iconst X14652.here hx rfl (hb hby d14_10) k) ?_
  refine OwnFin.step (g' := (mkF m 13 (Las1414_2 b1 b13611 b13622) [])) X14652 (fun t k => XS.istore X14652.here hx rfl (hb hby d14_11) rfl (l' := (Las1414_2 b1 b13611 b13622)) rfl k) ?_
  refine OwnFin.step (g' := (mkF m 15 (Las1414_2 b1 b13611 b13622) [(.int (0 : Int32))])) X14652 (fun t k => XS.iload X14652.here hx rfl (hb hby d14_13) rfl k) ?_
  refine OwnFin.step (g' := (mkF m 16 (Las1414_2 b1 b13611 b13622) [(.ref b1), (.int (0 : Int32))])) X14652 (fun t k => XS.aloadN X14652.here hx rfl (hb hby d14_15) rfl rfl k) ?_
  obtain ⟨T14653, X14653, e14653, st14653⟩ := getF X14652 hx hZ hown (host := "") (Or.inl (hw _ (wm 12 rfl))) Via.refl e14652 F_m_width_b1 (g := (mkF m 16 (Las1414_2 b1 b13611 b13622) [(.ref b1), (.int (0 : Int32))])) rfl rfl (hb hby d14_16)
  refine OwnFin.step (g' := (mkF m 19 (Las1414_2 b1 b13611 b13622) [(.int (2 : Int32)), (.int (0 : Int32))])) X14653 (fun t k => st14653 _ k) ?_
  refine OwnFin.step (g' := (mkF m 22 (Las1414_2 b1 b13611 b13622) [])) X14653 (fun t k => XS.icmpNo X14653.here hx rfl (hb hby d14_19) rfl (tlt (show (0 : Int32) < (2 : Int32) by first | rfl | decide)).2.1 k) ?_
  refine OwnFin.step (g' := (mkF m 23 (Las1414_2 b1 b13611 b13622) [(.ref b13622)])) X14653 (fun t k => XS.aloadN X14653.here hx rfl (hb hby d14_22) rfl rfl k) ?_
  refine OwnFin.step (g' := (mkF m 25 (Las1414_2 b1 b13611 b13622) [(.int (0 : Int32)), (.ref b13622)])) X14653 (fun t k => XS.iload X14653.here hx rfl (hb hby d14_23) rfl k) ?_
  refine OwnFin.step (g' := (mkF m 26 (Las1414_2 b1 b13611 b13622) [(.ref b13611), (.int (0 : Int32)), (.ref b13622)])) X14653 (fun t k => XS.aloadN X14653.here hx rfl (hb hby d14_25) rfl rfl k) ?_
  refine OwnFin.step (g' := (mkF m 28 (Las1414_2 b1 b13611 b13622) [(.int (0 : Int32)), (.ref b13611), (.int (0 : Int32)), (.ref b13622)])) X14653 (fun t k => XS.iload X14653.here hx rfl (hb hby d14_26) rfl k) ?_
  refine OwnFin.step (g' := (mkF m 29 (Las1414_2 b1 b13611 b13622) [(.long q4), (.int (0 : Int32)), (.ref b13622)])) X14653 (fun t k => own_ldJ X14653 hx hZ e14653 A_b13611 (by decide) rfl (g := (mkF m 28 (Las1414_2 b1 b13611 b13622) [(.int (0 : Int32)), (.ref b13611), (.int (0 : Int32)), (.ref b13622)])) rfl rfl (hb hby d14_28) _ k) ?_
  refine OwnFin.step (g' := (mkF m 30 (Las1414_2 b1 b13611 b13622) [(.ref b1), (.long q4), (.int (0 : Int32)), (.ref b13622)])) X14653 (fun t k => XS.aloadN X14653.here hx rfl (hb hby d14_29) rfl rfl k) ?_
  obtain ⟨T14654, X14654, e14654, st14654⟩ := getF X14653 hx hZ hown (host := "") (Or.inl (hw _ (wm 41 rfl))) Via.refl e14653 F_m_steps_b1 (g := (mkF m 30 (Las1414_2 b1 b13611 b13622) [(.ref b1), (.long q4), (.int (0 : Int32)), (.ref b13622)])) rfl rfl (hb hby d14_30)
  refine OwnFin.step (g' := (mkF m 33 (Las1414_2 b1 b13611 b13622) [(.ref b3133), (.long q4), (.int (0 : Int32)), (.ref b13622)])) X14654 (fun t k => st14654 _ k) ?_
  refine OwnFin.step (g' := (mkF m 35 (Las1414_2 b1 b13611 b13622) [(.int (0 : Int32)), (.ref b3133), (.long q4), (.int (0 : Int32)), (.ref b13622)])) X14654 (fun t k => XS.iload X14654.here hx rfl (hb hby d14_33) rfl k) ?_
  refine OwnFin.step (g' := (mkF m 37 (Las1414_2 b1 b13611 b13622) [(.int (0 : Int32)), (.int (0 : Int32)), (.ref b3133), (.long q4), (.int (0 : Int32)), (.ref b13622)])) X14654 (fun t k => XS.iload X14654.here hx rfl (hb hby d14_35) rfl k) ?_
  refine OwnFin.step (g' := (mkF m 38 (Las1414_2 b1 b13611 b13622) [(.int (0 : Int32)), (.ref b3133), (.long q4), (.int (0 : Int32)), (.ref b13622)])) X14654 (fun t k => XS.iadd X14654.here hx rfl (hb hby d14_37) rfl k) ?_
  refine OwnFin.step (g' := (mkF m 39 (Las1414_2 b1 b13611 b13622) [(.long q0), (.long q4), (.int (0 : Int32)), (.ref b13622)])) X14654 (fun t k => own_ldJ X14654 hx hZ e14654 A_b3133 (by decide) rfl (g := (mkF m 38 (Las1414_2 b1 b13611 b13622) [(.int (0 : Int32)), (.ref b3133), (.long q4), (.int (0 : Int32)), (.ref b13622)])) rfl rfl (hb hby d14_38) _ k) ?_
  refine OwnFin.step (g' := (mkF m 42 (Las1414_2 b1 b13611 b13622) [(.long (-1 : Int64)), (.long q0), (.long q4), (.int (0 : Int32)), (.ref b13622)])) X14654 (fun t k => X14654.ldc2Long hx hown (mvT hZ (hw _ (wm 97 rfl))) (g := (mkF m 39 (Las1414_2 b1 b13611 b13622) [(.long q0), (.long q4), (.int (0 : Int32)), (.ref b13622)])) rfl (hb hby d14_39) _ k) ?_
  refine OwnFin.step (g' := (mkF m 43 (Las1414_2 b1 b13611 b13622) [(.long (q0 ^^^ (-1 : Int64))), (.long q4), (.int (0 : Int32)), (.ref b13622)])) X14654 (fun t k => XT.lxor X14654.here hx rfl (hb hby d14_42) rfl k) ?_
  refine OwnFin.step (g' := (mkF m 44 (Las1414_2 b1 b13611 b13622) [(.long (q4 &&& (q0 ^^^ (-1 : Int64)))), (.int (0 : Int32)), (.ref b13622)])) X14654 (fun t k => XT.land X14654.here hx rfl (hb hby d14_43) rfl k) ?_
  refine OwnFin.step (g' := (mkF m 45 (Las1414_2 b1 b13611 b13622) [(.ref b1), (.long (q4 &&& (q0 ^^^ (-1 : Int64)))), (.int (0 : Int32)), (.ref b13622)])) X14654 (fun t k => XS.aloadN X14654.here hx rfl (hb hby d14_44) rfl rfl k) ?_
  obtain ⟨T14655, X14655, e14655, st14655⟩ := getF X14654 hx hZ hown (host := "") (Or.inl (hw _ (wm 41 rfl))) Via.refl e14654 F_m_steps_b1 (g := (mkF m 45 (Las1414_2 b1 b13611 b13622) [(.ref b1), (.long (q4 &&& (q0 ^^^ (-1 : Int64)))), (.int (0 : Int32)), (.ref b13622)])) rfl rfl (hb hby d14_45)
  refine OwnFin.step (g' := (mkF m 48 (Las1414_2 b1 b13611 b13622) [(.ref b3133), (.long (q4 &&& (q0 ^^^ (-1 : Int64)))), (.int (0 : Int32)), (.ref b13622)])) X14655 (fun t k => st14655 _ k) ?_
  refine OwnFin.step (g' := (mkF m 50 (Las1414_2 b1 b13611 b13622) [(.int (0 : Int32)), (.ref b3133), (.long (q4 &&& (q0 ^^^ (-1 : Int64)))), (.int (0 : Int32)), (.ref b13622)])) X14655 (fun t k => XS.iload X14655.here hx rfl (hb hby d14_48) rfl k) ?_
  refine OwnFin.step (g' := (mkF m 51 (Las1414_2 b1 b13611 b13622) [(.ref b1), (.int (0 : Int32)), (.ref b3133), (.long (q4 &&& (q0 ^^^ (-1 : Int64)))), (.int (0 : Int32)), (.ref b13622)])) X14655 (fun t k => XS.aloadN X14655.here hx rfl (hb hby d14_50) rfl rfl k) ?_
  obtain ⟨T14656, X14656, e14656, st14656⟩ := getF X14655 hx hZ hown (host := "") (Or.inl (hw _ (wm 12 rfl))) Via.refl e14655 F_m_width_b1 (g := (mkF m 51 (Las1414_2 b1 b13611 b13622) [(.ref b1), (.int (0 : Int32)), (.ref b3133), (.long (q4 &&& (q0 ^^^ (-1 : Int64)))), (.int (0 : Int32)), (.ref b13622)])) rfl rfl (hb hby d14_51)
  refine OwnFin.step (g' := (mkF m 54 (Las1414_2 b1 b13611 b13622) [(.int (2 : Int32)), (.int (0 : Int32)), (.ref b3133), (.long (q4 &&& (q0 ^^^ (-1 : Int64)))), (.int (0 : Int32)), (.ref b13622)])) X14656 (fun t k => st14656 _ k) ?_
  refine OwnFin.step (g' := (mkF m 55 (Las1414_2 b1 b13611 b13622) [(.int (2 : Int32)), (.ref b3133), (.long (q4 &&& (q0 ^^^ (-1 : Int64)))), (.int (0 : Int32)), (.ref b13622)])) X14656 (fun t k => XS.iadd X14656.here hx rfl (hb hby d14_54) rfl k) ?_
  refine OwnFin.step (g' := (mkF m 57 (Las1414_2 b1 b13611 b13622) [(.int (0 : Int32)), (.int (2 : Int32)), (.ref b3133), (.long (q4 &&& (q0 ^^^ (-1 : Int64)))), (.int (0 : Int32)), (.ref b13622)])) X14656 (fun t k => XS.iload X14656.here hx rfl (hb hby d14_55) rfl k) ?_
  refine OwnFin.step (g' := (mkF m 58 (Las1414_2 b1 b13611 b13622) [(.int (2 : Int32)), (.ref b3133), (.long (q4 &&& (q0 ^^^ (-1 : Int64)))), (.int (0 : Int32)), (.ref b13622)])) X14656 (fun t k => XS.iadd X14656.here hx rfl (hb hby d14_57) rfl k) ?_
  refine OwnFin.step (g' := (mkF m 59 (Las1414_2 b1 b13611 b13622) [(.long (q2 &&& q0)), (.long (q4 &&& (q0 ^^^ (-1 : Int64)))), (.int (0 : Int32)), (.ref b13622)])) X14656 (fun t k => own_ldJ X14656 hx hZ e14656 A_b3133 (by decide) rfl (g := (mkF m 58 (Las1414_2 b1 b13611 b13622) [(.int (2 : Int32)), (.ref b3133), (.long (q4 &&& (q0 ^^^ (-1 : Int64)))), (.int (0 : Int32)), (.ref b13622)])) rfl rfl (hb hby d14_58) _ k) ?_
  refine OwnFin.step (g' := (mkF m 60 (Las1414_2 b1 b13611 b13622) [(.long ((q4 &&& (q0 ^^^ (-1 : Int64))) ||| (q2 &&& q0))), (.int (0 : Int32)), (.ref b13622)])) X14656 (fun t k => XT.lor X14656.here hx rfl (hb hby d14_59) rfl k) ?_
  obtain ⟨T14657, h14657, L14657, X14657, e14657, N14657, K14657, A14657, st14657⟩ := own_stJ X14656 hx hZ e14656 N0 (G := (G0_142 q4 q5)) A_b13622 g_b13622 (j := (0 : Int32)) (x := ((q4 &&& (q0 ^^^ (-1 : Int64))) ||| (q2 &&& q0))) (by decide) (g := (mkF m 60 (Las1414_2 b1 b13611 b13622) [(.long ((q4 &&& (q0 ^^^ (-1 : Int64))) ||| (q2 &&& q0))), (.int (0 : Int32)), (.ref b13622)])) rfl rfl (hb hby d14_60)
  have B14657 : Ary Z h14657 b13622 .long 2 (fun i => .long ((Gs1414_60 q4 q5 q0 q2) i)) := A14657
  have Z14657 := Nat.le_trans Z0 K14657.1
  have S14657 := Nat.le_trans (Nat.le_refl h0.size) K14657.1
  refine OwnFin.step (g' := (mkF m 61 (Las1414_2 b1 b13611 b13622) [])) X14657 (fun t k => st14657 _ k) ?_
  refine OwnFin.step (g' := (mkF m 64 (Las1414_3 b1 b13611 b13622) [])) X14657 (fun t k => XS.iinc X14657.here hx rfl (hb hby d14_61) rfl (l' := (Las1414_3 b1 b13611 b13622)) rfl k) ?_
  refine OwnFin.step (g' := (mkF m 13 (Las1414_3 b1 b13611 b13622) [])) X14657 (fun t k => XS.goto X14657.here hx rfl (pc0 := 64) (pc' := 13) rfl (hb hby d14_64) (by decide) (by decide) k) ?_
  refine OwnFin.step (g' := (mkF m 15 (Las1414_3 b1 b13611 b13622) [(.int (1 : Int32))])) X14657 (fun t k => XS.iload X14657.here hx rfl (hb hby d14_13) rfl k) ?_
  refine OwnFin.step (g' := (mkF m 16 (Las1414_3 b1 b13611 b13622) [(.ref b1), (.int (1 : Int32))])) X14657 (fun t k => XS.aloadN X14657.here hx rfl (hb hby d14_15) rfl rfl k) ?_
  have F14658 := (F_m_width_b1.keep K14657 (ninS ne_b1_b13622 nin0))
  obtain ⟨T14659, X14659, e14659, st14659⟩ := getF X14657 hx hZ hown (host := "") (Or.inl (hw _ (wm 12 rfl))) Via.refl e14657 F14658 (g := (mkF m 16 (Las1414_3 b1 b13611 b13622) [(.ref b1), (.int (1 : Int32))])) rfl rfl (hb hby d14_16)
  refine OwnFin.step (g' := (mkF m 19 (Las1414_3 b1 b13611 b13622) [(.int (2 : Int32)), (.int (1 : Int32))])) X14659 (fun t k => st14659 _ k) ?_
  refine OwnFin.step (g' := (mkF m 22 (Las1414_3 b1 b13611 b13622) [])) X14659 (fun t k => XS.icmpNo X14659.here hx rfl (hb hby d14_19) rfl (tlt (show (1 : Int32) < (2 : Int32) by first | rfl | decide)).2.1 k) ?_
  refine OwnFin.step (g' := (mkF m 23 (Las1414_3 b1 b13611 b13622) [(.ref b13622)])) X14659 (fun t k => XS.aloadN X14659.here hx rfl (hb hby d14_22) rfl rfl k) ?_
  refine OwnFin.step (g' := (mkF m 25 (Las1414_3 b1 b13611 b13622) [(.int (1 : Int32)), (.ref b13622)])) X14659 (fun t k => XS.iload X14659.here hx rfl (hb hby d14_23) rfl k) ?_
  refine OwnFin.step (g' := (mkF m 26 (Las1414_3 b1 b13611 b13622) [(.ref b13611), (.int (1 : Int32)), (.ref b13622)])) X14659 (fun t k => XS.aloadN X14659.here hx rfl (hb hby d14_25) rfl rfl k) ?_
  refine OwnFin.step (g' := (mkF m 28 (Las1414_3 b1 b13611 b13622) [(.int (1 : Int32)), (.ref b13611), (.int (1 : Int32)), (.ref b13622)])) X14659 (fun t k => XS.iload X14659.here hx rfl (hb hby d14_26) rfl k) ?_
  have A14660 := (A_b13611.keep K14657 (ninS ne_b13611_b13622 nin0))
  refine OwnFin.step (g' := (mkF m 29 (Las1414_3 b1 b13611 b13622) [(.long q5), (.int (1 : Int32)), (.ref b13622)])) X14659 (fun t k => own_ldJ X14659 hx hZ e14659 A14660 (by decide) rfl (g := (mkF m 28 (Las1414_3 b1 b13611 b13622) [(.int (1 : Int32)), (.ref b13611), (.int (1 : Int32)), (.ref b13622)])) rfl rfl (hb hby d14_28) _ k) ?_
  refine OwnFin.step (g' := (mkF m 30 (Las1414_3 b1 b13611 b13622) [(.ref b1), (.long q5), (.int (1 : Int32)), (.ref b13622)])) X14659 (fun t k => XS.aloadN X14659.here hx rfl (hb hby d14_29) rfl rfl k) ?_
  have F14661 := (F_m_steps_b1.keep K14657 (ninS ne_b1_b13622 nin0))
  obtain ⟨T14662, X14662, e14662, st14662⟩ := getF X14659 hx hZ hown (host := "") (Or.inl (hw _ (wm 41 rfl))) Via.refl e14659 F14661 (g := (mkF m 30 (Las1414_3 b1 b13611 b13622) [(.ref b1), (.long q5), (.int (1 : Int32)), (.ref b13622)])) rfl rfl (hb hby d14_30)
  refine OwnFin.step (g' := (mkF m 33 (Las1414_3 b1 b13611 b13622) [(.ref b3133), (.long q5), (.int (1 : Int32)), (.ref b13622)])) X14662 (fun t k => st14662 _ k) ?_
  refine OwnFin.step (g' := (mkF m 35 (Las1414_3 b1 b13611 b13622) [(.int (0 : Int32)), (.ref b3133), (.long q5), (.int (1 : Int32)), (.ref b13622)])) X14662 (fun t k => XS.iload X14662.here hx rfl (hb hby d14_33) rfl k) ?_
  refine OwnFin.step (g' := (mkF m 37 (Las1414_3 b1 b13611 b13622) [(.int (1 : Int32)), (.int (0 : Int32)), (.ref b3133), (.long q5), (.int (1 : Int32)), (.ref b13622)])) X14662 (fun t k => XS.iload X14662.here hx rfl (hb hby d14_35) rfl k) ?_
  refine OwnFin.step (g' := (mkF m 38 (Las1414_3 b1 b13611 b13622) [(.int (1 : Int32)), (.ref b3133), (.long q5), (.int (1 : Int32)), (.ref b13622)])) X14662 (fun t k => XS.iadd X14662.here hx rfl (hb hby d14_37) rfl k) ?_
  have A14663 := (A_b3133.keep K14657 (ninS ne_b3133_b13622 nin0))
  refine OwnFin.step (g' := (mkF m 39 (Las1414_3 b1 b13611 b13622) [(.long q1), (.long q5), (.int (1 : Int32)), (.ref b13622)])) X14662 (fun t k => own_ldJ X14662 hx hZ e14662 A14663 (by decide) rfl (g := (mkF m 38 (Las1414_3 b1 b13611 b13622) [(.int (1 : Int32)), (.ref b3133), (.long q5), (.int (1 : Int32)), (.ref b13622)])) rfl rfl (hb hby d14_38) _ k) ?_
  refine OwnFin.step (g' := (mkF m 42 (Las1414_3 b1 b13611 b13622) [(.long (-1 : Int64)), (.long q1), (.long q5), (.int (1 : Int32)), (.ref b13622)])) X14662 (fun t k => X14662.ldc2Long hx hown (mvT hZ (hw _ (wm 97 rfl))) (g := (mkF m 39 (Las1414_3 b1 b13611 b13622) [(.long q1), (.long q5), (.int (1 : Int32)), (.ref b13622)])) rfl (hb hby d14_39) _ k) ?_
  refine OwnFin.step (g' := (mkF m 43 (Las1414_3 b1 b13611 b13622) [(.long (q1 ^^^ (-1 : Int64))), (.long q5), (.int (1 : Int32)), (.ref b13622)])) X14662 (fun t k => XT.lxor X14662.here hx rfl (hb hby d14_42) rfl k) ?_
  refine OwnFin.step (g' := (mkF m 44 (Las1414_3 b1 b13611 b13622) [(.long (q5 &&& (q1 ^^^ (-1 : Int64)))), (.int (1 : Int32)), (.ref b13622)])) X14662 (fun t k => XT.land X14662.here hx rfl (hb hby d14_43) rfl k) ?_
  refine OwnFin.step (g' := (mkF m 45 (Las1414_3 b1 b13611 b13622) [(.ref b1), (.long (q5 &&& (q1 ^^^ (-1 : Int64)))), (.int (1 : Int32)), (.ref b13622)])) X14662 (fun t k => XS.aloadN X14662.here hx rfl (hb hby d14_44) rfl rfl k) ?_
  obtain ⟨T14664, X14664, e14664, st14664⟩ := getF X14662 hx hZ hown (host := "") (Or.inl (hw _ (wm 41 rfl))) Via.refl e14662 F14661 (g := (mkF m 45 (Las1414_3 b1 b13611 b13622) [(.ref b1), (.long (q5 &&& (q1 ^^^ (-1 : Int64)))), (.int (1 : Int32)), (.ref b13622)])) rfl rfl (hb hby d14_45)
  refine OwnFin.step (g' := (mkF m 48 (Las1414_3 b1 b13611 b13622) [(.ref b3133), (.long (q5 &&& (q1 ^^^ (-1 : Int64)))), (.int (1 : Int32)), (.ref b13622)])) X14664 (fun t k => st14664 _ k) ?_
  refine OwnFin.step (g' := (mkF m 50 (Las1414_3 b1 b13611 b13622) [(.int (0 : Int32)), (.ref b3133), (.long (q5 &&& (q1 ^^^ (-1 : Int64)))), (.int (1 : Int32)), (.ref b13622)])) X14664 (fun t k => XS.iload X14664.here hx rfl (hb hby d14_48) rfl k) ?_
  refine OwnFin.step (g' := (mkF m 51 (Las1414_3 b1 b13611 b13622) [(.ref b1), (.int (0 : Int32)), (.ref b3133), (.long (q5 &&& (q1 ^^^ (-1 : Int64)))), (.int (1 : Int32)), (.ref b13622)])) X14664 (fun t k => XS.aloadN X14664.here hx rfl (hb hby d14_50) rfl rfl k) ?_
  obtain ⟨T14665, X14665, e14665, st14665⟩ := getF X14664 hx hZ hown (host := "") (Or.inl (hw _ (wm 12 rfl))) Via.refl e14664 F14658 (g := (mkF m 51 (Las1414_3 b1 b13611 b13622) [(.ref b1), (.int (0 : Int32)), (.ref b3133), (.long (q5 &&& (q1 ^^^ (-1 : Int64)))), (.int (1 : Int32)), (.ref b13622)])) rfl rfl (hb hby d14_51)
  refine OwnFin.step (g' := (mkF m 54 (Las1414_3 b1 b13611 b13622) [(.int (2 : Int32)), (.int (0 : Int32)), (.ref b3133), (.long (q5 &&& (q1 ^^^ (-1 : Int64)))), (.int (1 : Int32)), (.ref b13622)])) X14665 (fun t k => st14665 _ k) ?_
  refine OwnFin.step (g' := (mkF m 55 (Las1414_3 b1 b13611 b13622) [(.int (2 : Int32)), (.ref b3133), (.long (q5 &&& (q1 ^^^ (-1 : Int64)))), (.int (1 : Int32)), (.ref b13622)])) X14665 (fun t k => XS.iadd X14665.here hx rfl (hb hby d14_54) rfl k) ?_
  refine OwnFin.step (g' := (mkF m 57 (Las1414_3 b1 b13611 b13622) [(.int (1 : Int32)), (.int (2 : Int32)), (.ref b3133), (.long (q5 &&& (q1 ^^^ (-1 : Int64)))), (.int (1 : Int32)), (.ref b13622)])) X14665 (fun t k => XS.iload X14665.here hx rfl (hb hby d14_55) rfl k) ?_
  refine OwnFin.step (g' := (mkF m 58 (Las1414_3 b1 b13611 b13622) [(.int (3 : Int32)), (.ref b3133), (.long (q5 &&& (q1 ^^^ (-1 : Int64)))), (.int (1 : Int32)), (.ref b13622)])) X14665 (fun t k => XS.iadd X14665.here hx rfl (hb hby d14_57) rfl k) ?_
  refine OwnFin.step (g' := (mkF m 59 (Las1414_3 b1 b13611 b13622) [(.long (q3 &&& q1)), (.long (q5 &&& (q1 ^^^ (-1 : Int64)))), (.int (1 : Int32)), (.ref b13622)])) X14665 (fun t k => own_ldJ X14665 hx hZ e14665 A14663 (by decide) rfl (g := (mkF m 58 (Las1414_3 b1 b13611 b13622) [(.int (3 : Int32)), (.ref b3133), (.long (q5 &&& (q1 ^^^ (-1 : Int64)))), (.int (1 : Int32)), (.ref b13622)])) rfl rfl (hb hby d14_58) _ k) ?_
  refine OwnFin.step (g' := (mkF m 60 (Las1414_3 b1 b13611 b13622) [(.long ((q5 &&& (q1 ^^^ (-1 : Int64))) ||| (q3 &&& q1))), (.int (1 : Int32)), (.ref b13622)])) X14665 (fun t k => XT.lor X14665.here hx rfl (hb hby d14_59) rfl k) ?_
  obtain ⟨T14666, h14666, L14666, X14666, e14666, N14666, K14666, A14666, st14666⟩ := own_stJ X14665 hx hZ e14665 N14657 (G := (Gs1414_60 q4 q5 q0 q2)) B14657 g_b13622 (j := (1 : Int32)) (x := ((q5 &&& (q1 ^^^ (-1 : Int64))) ||| (q3 &&& q1))) (by decide) (g := (mkF m 60 (Las1414_3 b1 b13611 b13622) [(.long ((q5 &&& (q1 ^^^ (-1 : Int64))) ||| (q3 &&& q1))), (.int (1 : Int32)), (.ref b13622)])) rfl rfl (hb hby d14_60)
  have B14666 : Ary Z h14666 b13622 .long 2 (fun i => .long ((Gs1414_60b q4 q5 q0 q2 q1 q3) i)) := A14666
  have Z14666 := Nat.le_trans Z14657 K14666.1
  have S14666 := Nat.le_trans S14657 K14666.1
  refine OwnFin.step (g' := (mkF m 61 (Las1414_3 b1 b13611 b13622) [])) X14666 (fun t k => st14666 _ k) ?_
  refine OwnFin.step (g' := (mkF m 64 (Las1414_4 b1 b13611 b13622) [])) X14666 (fun t k => XS.iinc X14666.here hx rfl (hb hby d14_61) rfl (l' := (Las1414_4 b1 b13611 b13622)) rfl k) ?_
  refine OwnFin.step (g' := (mkF m 13 (Las1414_4 b1 b13611 b13622) [])) X14666 (fun t k => XS.goto X14666.here hx rfl (pc0 := 64) (pc' := 13) rfl (hb hby d14_64) (by decide) (by decide) k) ?_
  refine OwnFin.step (g' := (mkF m 15 (Las1414_4 b1 b13611 b13622) [(.int (2 : Int32))])) X14666 (fun t k => XS.iload X14666.here hx rfl (hb hby d14_13) rfl k) ?_
  refine OwnFin.step (g' := (mkF m 16 (Las1414_4 b1 b13611 b13622) [(.ref b1), (.int (2 : Int32))])) X14666 (fun t k => XS.aloadN X14666.here hx rfl (hb hby d14_15) rfl rfl k) ?_
  have F14667 := (F14658.keep K14666 (ninS ne_b1_b13622 nin0))
  obtain ⟨T14668, X14668, e14668, st14668⟩ := getF X14666 hx hZ hown (host := "") (Or.inl (hw _ (wm 12 rfl))) Via.refl e14666 F14667 (g := (mkF m 16 (Las1414_4 b1 b13611 b13622) [(.ref b1), (.int (2 : Int32))])) rfl rfl (hb hby d14_16)
  refine OwnFin.step (g' := (mkF m 19 (Las1414_4 b1 b13611 b13622) [(.int (2 : Int32)), (.int (2 : Int32))])) X14668 (fun t k => st14668 _ k) ?_
  refine OwnFin.step (g' := (mkF m 67 (Las1414_4 b1 b13611 b13622) [])) X14668 (fun t k => XS.icmpYes X14668.here hx rfl (pc0 := 19) (pc' := 67) rfl (hb hby d14_19) rfl (flt (show ¬ ((2 : Int32) < (2 : Int32)) by first | decide | exact Int32.lt_irrefl _ | exact Int64.lt_irrefl _)).2.1 (by decide) (by decide) k) ?_
  refine OwnFin.retVoid X14668 (hb hby d14_67) (by decide) (by decide) ?_
  rw [e14668]
  exact ⟨rfl, N14666, (Keep.trans (Keep.trans (Keep.refl h0 [b13622]) K14657 (allS (Or.inl (wm 0 rfl)) all0)) K14666 (allS (Or.inl (wm 0 rfl)) all0)), B14666⟩)
def Q13s13 (Z : State) (b1023 : Addr) (h0 : Heap) (n0 : Nat) : Option Value → Heap → List Loc → Prop := fun v h L => v = some (.int (1 : Int32)) ∧ Fr n0 L ∧ h = h0
set_option maxRecDepth 65536 in
set_option maxHeartbeats 40000000 in
theorem rm13s13 (l : Launch) (Z : State) (a0 : Array Value) (hw : ∀ d ∈ tables_1, d.before a0 Z = true) (ws : List Jvm.Cond) (b1023 : Addr) (h0 : Heap) (n0 : Nat) (Z0 : n0 ≤ h0.size) (F_m_size_b1023 : Fld Z h0 b1023 "com/example/ken2/ken2/TupleTable" "m_size" "I" (.int (1 : Int32))) :
    MetFree l (⟨"com/example/ken2/ken2/TupleTable", "size", "()I"⟩ : MethodName) (head1 (Jvm.Cond.code (⟨"com/example/ken2/ken2/TupleTable", "size", "()I"⟩ : MethodName) prog_120_method_3_code 1 (some .int) :: ws) ({ frames := 0, cells := 0, slots := 0, locals := 0 } : Room)) (fun a U => a = #[(.ref b1023)] ∧ Z.Warmed39 U.vm ∧ U.heap = h0) (fun _ _ _ _ _ => True) (fun _ U o U' => ∃ v L, o = .returned v ∧ (Q13s13 Z b1023 h0 n0) v U'.heap L ∧ FrameEnd U o U' L ({ frames := 0, cells := 0, slots := 0, locals := 0 } : Room).cells ({ frames := 0, cells := 0, slots := 0, locals := 0 } : Room).slots) :=
  own_met (ret := (some .int)) (Q := (Q13s13 Z b1023 h0 n0)) (plainFor_of_name pn_13) (fun m => ef_13 m b1023) (fun p e s m below meth c T0 X0 hx hby hml hown hnm hZ e0 => by
  have N0 := Fr.nil n0
  refine OwnFin.step (g' := (mkF m 1 #[.val (.ref b1023)] [(.ref b1023)])) X0 (fun t k => XS.aloadN X0.here hx rfl (hb hby d13_0) rfl rfl k) ?_
  obtain ⟨T13564, X13564, e13564, st13564⟩ := getF X0 hx hZ hown (host := "") (Or.inl (hw _ (wm 68 rfl))) Via.refl e0 F_m_size_b1023 (g := (mkF m 1 #[.val (.ref b1023)] [(.ref b1023)])) rfl rfl (hb hby d13_1)
  refine OwnFin.step (g' := (mkF m 4 #[.val (.ref b1023)] [(.int (1 : Int32))])) X13564 (fun t k => st13564 _ k) ?_
  refine OwnFin.retInt X13564 (hb hby d13_4) (by decide) (by decide) ?_
  rw [e13564]
  exact ⟨rfl, N0, rfl⟩)
def Q12s12 (Z : State) (q0 : Int64) (q2 : Int64) (q1 : Int64) (q3 : Int64) (q5 : Int64) (b1 : Addr) (b1004 : Addr) (b1023 : Addr) (b3133 : Addr) (b9394 : Addr) (b9405 : Addr) (h0 : Heap) (n0 : Nat) : Option Value → Heap → List Loc → Prop := fun v h L => v = none ∧ Fr n0 L ∧ Keep h0 h [b1, b1004, b3133] ∧ Exa Z h b1 "com/example/ken2/ken2/RememberedSteps" ∧ Fld Z h b1 "com/example/ken2/ken2/RememberedSteps" "m_firstSteps" "[I" (.ref b1004) ∧ Fld Z h b1 "com/example/ken2/ken2/RememberedSteps" "m_width" "I" (.int (2 : Int32)) ∧ Fld Z h b1 "com/example/ken2/ken2/RememberedSteps" "m_keys" "Lcom/example/ken2/ken2/TupleTable;" (.ref b1023) ∧ Fld Z h b1 "com/example/ken2/ken2/RememberedSteps" "m_steps" "[J" (.ref b3133) ∧ Fld Z h b1 "com/example/ken2/ken2/RememberedSteps" "m_stepCount" "I" (.int (2 : Int32)) ∧ Ary Z h b1004 .int 17 (fun i => .int ((Gs1212_130) i)) ∧ Ary Z h b3133 .long 64 (fun i => .long ((Gs1212_98b q0 q2 q1 q3 q5) i))
abbrev Las1212_0 (b1 : Addr) (b9394 : Addr) (b9405 : Addr) : Array Slot := #[.val (.ref b1), .val (.ref b9394), .val (.ref b9405), .unset, .unset]
abbrev Las1212_1 (b1 : Addr) (b9394 : Addr) (b9405 : Addr) : Array Slot := #[.val (.ref b1), .val (.ref b9394), .val (.ref b9405), .val (.int (4 : Int32)), .unset]
abbrev Las1212_2 (b1 : Addr) (b9394 : Addr) (b9405 : Addr) : Array Slot := #[.val (.ref b1), .val (.ref b9394), .val (.ref b9405), .val (.int (4 : Int32)), .val (.int (0 : Int32))]
abbrev Las1212_3 (b1 : Addr) (b9394 : Addr) (b9405 : Addr) : Array Slot := #[.val (.ref b1), .val (.ref b9394), .val (.ref b9405), .val (.int (4 : Int32)), .val (.int (1 : Int32))]
abbrev Las1212_4 (b1 : Addr) (b9394 : Addr) (b9405 : Addr) : Array Slot := #[.val (.ref b1), .val (.ref b9394), .val (.ref b9405), .val (.int (4 : Int32)), .val (.int (2 : Int32))]
set_option maxRecDepth 65536 in
set_option maxHeartbeats 40000000 in
theorem rm12s12 (l : Launch) (Z : State) (a0 : Array Value) (hw : ∀ d ∈ tables_1, d.before a0 Z = true) (ws : List Jvm.Cond) (q0 : Int64) (q2 : Int64) (q1 : Int64) (q3 : Int64) (q5 : Int64) (b1 : Addr) (b1004 : Addr) (b1023 : Addr) (b3133 : Addr) (b9394 : Addr) (b9405 : Addr) (h0 : Heap) (n0 : Nat) (Z0 : n0 ≤ h0.size) (E_b1 : Exa Z h0 b1 "com/example/ken2/ken2/RememberedSteps") (F_m_firstSteps_b1 : Fld Z h0 b1 "com/example/ken2/ken2/RememberedSteps" "m_firstSteps" "[I" (.ref b1004)) (F_m_width_b1 : Fld Z h0 b1 "com/example/ken2/ken2/RememberedSteps" "m_width" "I" (.int (2 : Int32))) (F_m_keys_b1 : Fld Z h0 b1 "com/example/ken2/ken2/RememberedSteps" "m_keys" "Lcom/example/ken2/ken2/TupleTable;" (.ref b1023)) (F_m_steps_b1 : Fld Z h0 b1 "com/example/ken2/ken2/RememberedSteps" "m_steps" "[J" (.ref b3133)) (F_m_stepCount_b1 : Fld Z h0 b1 "com/example/ken2/ken2/RememberedSteps" "m_stepCount" "I" (.int (1 : Int32))) (g_b1 : n0 ≤ b1) (A_b1004 : Ary Z h0 b1004 .int 17 (fun i => .int ((Gs1012_130) i))) (g_b1004 : n0 ≤ b1004) (E_b1023 : Exa Z h0 b1023 "com/example/ken2/ken2/TupleTable") (F_m_size_b1023 : Fld Z h0 b1023 "com/example/ken2/ken2/TupleTable" "m_size" "I" (.int (1 : Int32))) (A_b3133 : Ary Z h0 b3133 .long 64 (fun i => .long ((Gs1012_98b q0 q2 q1 q3) i))) (g_b3133 : n0 ≤ b3133) (A_b9394 : Ary Z h0 b9394 .long 2 (fun i => .long ((G0_64 q1 q0) i))) (A_b9405 : Ary Z h0 b9405 .long 2 (fun i => .long ((G0_86 q3 q2 q5) i))) (ne_b1_b1004 : b1 ≠ b1004) (ne_b1_b1023 : b1 ≠ b1023) (ne_b1_b3133 : b1 ≠ b3133) (ne_b1004_b3133 : b1004 ≠ b3133) (ne_b1023_b3133 : b1023 ≠ b3133) (ne_b3133_b9394 : b3133 ≠ b9394) (ne_b3133_b9405 : b3133 ≠ b9405) :
    MetFree l (⟨"com/example/ken2/ken2/RememberedSteps", "add", "([J[J)V"⟩ : MethodName) (head1 (Jvm.Cond.code (⟨"com/example/ken2/ken2/RememberedSteps", "add", "([J[J)V"⟩ : MethodName) prog_109_method_5_code 5 none :: ws) ({ frames := 1, cells := 0, slots := 0, locals := 13 } : Room)) (fun a U => a = #[(.ref b1), (.ref b9394), (.ref b9405)] ∧ Z.Warmed39 U.vm ∧ U.heap = h0) (fun _ _ _ _ _ => True) (fun _ U o U' => ∃ v L, o = .returned v ∧ (Q12s12 Z q0 q2 q1 q3 q5 b1 b1004 b1023 b3133 b9394 b9405 h0 n0) v U'.heap L ∧ FrameEnd U o U' L ({ frames := 1, cells := 0, slots := 0, locals := 13 } : Room).cells ({ frames := 1, cells := 0, slots := 0, locals := 13 } : Room).slots) :=
  own_met (ret := none) (Q := (Q12s12 Z q0 q2 q1 q3 q5 b1 b1004 b1023 b3133 b9394 b9405 h0 n0)) (plainFor_of_name pn_12) (fun m => ef_12 m b1 b9394 b9405) (fun p e s m below meth c T0 X0 hx hby hml hown hnm hZ e0 => by
  have N0 := Fr.nil n0
  refine OwnFin.step (g' := (mkF m 1 (Las1212_0 b1 b9394 b9405) [(.ref b1)])) X0 (fun t k => XS.aloadN X0.here hx rfl (hb hby d12_0) rfl rfl k) ?_
  obtain ⟨T12519, X12519, e12519, st12519⟩ := getF X0 hx hZ hown (host := "") (Or.inl (hw _ (wm 79 rfl))) Via.refl e0 F_m_stepCount_b1 (g := (mkF m 1 (Las1212_0 b1 b9394 b9405) [(.ref b1)])) rfl rfl (hb hby d12_1)
  refine OwnFin.step (g' := (mkF m 4 (Las1212_0 b1 b9394 b9405) [(.int (1 : Int32))])) X12519 (fun t k => st12519 _ k) ?_
  refine OwnFin.step (g' := (mkF m 5 (Las1212_0 b1 b9394 b9405) [(.int (1 : Int32)), (.int (1 : Int32))])) X12519 (fun t k => XS.iconst X12519.here hx rfl (hb hby d12_4) k) ?_
  refine OwnFin.step (g' := (mkF m 6 (Las1212_0 b1 b9394 b9405) [(.int (2 : Int32))])) X12519 (fun t k => XS.iadd X12519.here hx rfl (hb hby d12_5) rfl k) ?_
  refine OwnFin.step (g' := (mkF m 7 (Las1212_0 b1 b9394 b9405) [(.int (2 : Int32)), (.int (2 : Int32))])) X12519 (fun t k => XS.iconst X12519.here hx rfl (hb hby d12_6) k) ?_
  refine OwnFin.step (g' := (mkF m 8 (Las1212_0 b1 b9394 b9405) [(.int (4 : Int32))])) X12519 (fun t k => XS.imul X12519.here hx rfl (hb hby d12_7) rfl k) ?_
  refine OwnFin.step (g' := (mkF m 9 (Las1212_0 b1 b9394 b9405) [(.ref b1), (.int (4 : Int32))])) X12519 (fun t k => XS.aloadN X12519.here hx rfl (hb hby d12_8) rfl rfl k) ?_
  obtain ⟨T12520, X12520, e12520, st12520⟩ := getF X12519 hx hZ hown (host := "") (Or.inl (hw _ (wm 12 rfl))) Via.refl e12519 F_m_width_b1 (g := (mkF m 9 (Las1212_0 b1 b9394 b9405) [(.ref b1), (.int (4 : Int32))])) rfl rfl (hb hby d12_9)
  refine OwnFin.step (g' := (mkF m 12 (Las1212_0 b1 b9394 b9405) [(.int (2 : Int32)), (.int (4 : Int32))])) X12520 (fun t k => st12520 _ k) ?_
  refine OwnFin.step (g' := (mkF m 13 (Las1212_0 b1 b9394 b9405) [(.int (8 : Int32))])) X12520 (fun t k => XS.imul X12520.here hx rfl (hb hby d12_12) rfl k) ?_
  refine OwnFin.step (g' := (mkF m 14 (Las1212_0 b1 b9394 b9405) [(.ref b1), (.int (8 : Int32))])) X12520 (fun t k => XS.aloadN X12520.here hx rfl (hb hby d12_13) rfl rfl k) ?_
  obtain ⟨T12521, X12521, e12521, st12521⟩ := getF X12520 hx hZ hown (host := "") (Or.inl (hw _ (wm 41 rfl))) Via.refl e12520 F_m_steps_b1 (g := (mkF m 14 (Las1212_0 b1 b9394 b9405) [(.ref b1), (.int (8 : Int32))])) rfl rfl (hb hby d12_14)
  refine OwnFin.step (g' := (mkF m 17 (Las1212_0 b1 b9394 b9405) [(.ref b3133), (.int (8 : Int32))])) X12521 (fun t k => st12521 _ k) ?_
  refine OwnFin.step (g' := (mkF m 18 (Las1212_0 b1 b9394 b9405) [(.int (64 : Int32)), (.int (8 : Int32))])) X12521 (fun t k => own_len X12521 hx hZ e12521 A_b3133 (g := (mkF m 17 (Las1212_0 b1 b9394 b9405) [(.ref b3133), (.int (8 : Int32))])) rfl rfl (hb hby d12_17) _ k) ?_
  refine OwnFin.step (g' := (mkF m 39 (Las1212_0 b1 b9394 b9405) [])) X12521 (fun t k => XS.icmpYes X12521.here hx rfl (pc0 := 18) (pc' := 39) rfl (hb hby d12_18) rfl (flt (show ¬ ((64 : Int32) < (8 : Int32)) by first | decide | exact Int32.lt_irrefl _ | exact Int64.lt_irrefl _)).2.2.2 (by decide) (by decide) k) ?_
  refine OwnFin.step (g' := (mkF m 40 (Las1212_0 b1 b9394 b9405) [(.ref b1)])) X12521 (fun t k => XS.aloadN X12521.here hx rfl (hb hby d12_39) rfl rfl k) ?_
  obtain ⟨T12522, X12522, e12522, st12522⟩ := getF X12521 hx hZ hown (host := "") (Or.inl (hw _ (wm 79 rfl))) Via.refl e12521 F_m_stepCount_b1 (g := (mkF m 40 (Las1212_0 b1 b9394 b9405) [(.ref b1)])) rfl rfl (hb hby d12_40)
  refine OwnFin.step (g' := (mkF m 43 (Las1212_0 b1 b9394 b9405) [(.int (1 : Int32))])) X12522 (fun t k => st12522 _ k) ?_
  refine OwnFin.step (g' := (mkF m 44 (Las1212_0 b1 b9394 b9405) [(.int (2 : Int32)), (.int (1 : Int32))])) X12522 (fun t k => XS.iconst X12522.here hx rfl (hb hby d12_43) k) ?_
  refine OwnFin.step (g' := (mkF m 45 (Las1212_0 b1 b9394 b9405) [(.int (2 : Int32))])) X12522 (fun t k => XS.imul X12522.here hx rfl (hb hby d12_44) rfl k) ?_
  refine OwnFin.step (g' := (mkF m 46 (Las1212_0 b1 b9394 b9405) [(.ref b1), (.int (2 : Int32))])) X12522 (fun t k => XS.aloadN X12522.here hx rfl (hb hby d12_45) rfl rfl k) ?_
  obtain ⟨T12523, X12523, e12523, st12523⟩ := getF X12522 hx hZ hown (host := "") (Or.inl (hw _ (wm 12 rfl))) Via.refl e12522 F_m_width_b1 (g := (mkF m 46 (Las1212_0 b1 b9394 b9405) [(.ref b1), (.int (2 : Int32))])) rfl rfl (hb hby d12_46)
  refine OwnFin.step (g' := (mkF m 49 (Las1212_0 b1 b9394 b9405) [(.int (2 : Int32)), (.int (2 : Int32))])) X12523 (fun t k => st12523 _ k) ?_
  refine OwnFin.step (g' := (mkF m 50 (Las1212_0 b1 b9394 b9405) [(.int (4 : Int32))])) X12523 (fun t k => XS.imul X12523.here hx rfl (hb hby d12_49) rfl k) ?_
  refine OwnFin.step (g' := (mkF m 51 (Las1212_1 b1 b9394 b9405) [])) X12523 (fun t k => XS.istoreN X12523.here hx rfl (hb hby d12_50) rfl (l' := (Las1212_1 b1 b9394 b9405)) rfl k) ?_
  refine OwnFin.step (g' := (mkF m 52 (Las1212_1 b1 b9394 b9405) [(.int (0 : Int32))])) X12523 (fun t k => XS.iconst X12523.here hx rfl (hb hby d12_51) k) ?_
  refine OwnFin.step (g' := (mkF m 54 (Las1212_2 b1 b9394 b9405) [])) X12523 (fun t k => XS.istore X12523.here hx rfl (hb hby d12_52) rfl (l' := (Las1212_2 b1 b9394 b9405)) rfl k) ?_
  refine OwnFin.step (g' := (mkF m 56 (Las1212_2 b1 b9394 b9405) [(.int (0 : Int32))])) X12523 (fun t k => XS.iload X12523.here hx rfl (hb hby d12_54) rfl k) ?_
  refine OwnFin.step (g' := (mkF m 57 (Las1212_2 b1 b9394 b9405) [(.ref b1), (.int (0 : Int32))])) X12523 (fun t k => XS.aloadN X12523.here hx rfl (hb hby d12_56) rfl rfl k) ?_
  obtain ⟨T12524, X12524, e12524, st12524⟩ := getF X12523 hx hZ hown (host := "") (Or.inl (hw _ (wm 12 rfl))) Via.refl e12523 F_m_width_b1 (g := (mkF m 57 (Las1212_2 b1 b9394 b9405) [(.ref b1), (.int (0 : Int32))])) rfl rfl (hb hby d12_57)
  refine OwnFin.step (g' := (mkF m 60 (Las1212_2 b1 b9394 b9405) [(.int (2 : Int32)), (.int (0 : Int32))])) X12524 (fun t k => st12524 _ k) ?_
  refine OwnFin.step (g' := (mkF m 63 (Las1212_2 b1 b9394 b9405) [])) X12524 (fun t k => XS.icmpNo X12524.here hx rfl (hb hby d12_60) rfl (tlt (show (0 : Int32) < (2 : Int32) by first | rfl | decide)).2.1 k) ?_
  refine OwnFin.step (g' := (mkF m 64 (Las1212_2 b1 b9394 b9405) [(.ref b1)])) X12524 (fun t k => XS.aloadN X12524.here hx rfl (hb hby d12_63) rfl rfl k) ?_
  obtain ⟨T12525, X12525, e12525, st12525⟩ := getF X12524 hx hZ hown (host := "") (Or.inl (hw _ (wm 41 rfl))) Via.refl e12524 F_m_steps_b1 (g := (mkF m 64 (Las1212_2 b1 b9394 b9405) [(.ref b1)])) rfl rfl (hb hby d12_64)
  refine OwnFin.step (g' := (mkF m 67 (Las1212_2 b1 b9394 b9405) [(.ref b3133)])) X12525 (fun t k => st12525 _ k) ?_
  refine OwnFin.step (g' := (mkF m 68 (Las1212_2 b1 b9394 b9405) [(.int (4 : Int32)), (.ref b3133)])) X12525 (fun t k => XS.iloadN X12525.here hx rfl (hb hby d12_67) rfl k) ?_
  refine OwnFin.step (g' := (mkF m 70 (Las1212_2 b1 b9394 b9405) [(.int (0 : Int32)), (.int (4 : Int32)), (.ref b3133)])) X12525 (fun t k => XS.iload X12525.here hx rfl (hb hby d12_68) rfl k) ?_
  refine OwnFin.step (g' := (mkF m 71 (Las1212_2 b1 b9394 b9405) [(.int (4 : Int32)), (.ref b3133)])) X12525 (fun t k => XS.iadd X12525.here hx rfl (hb hby d12_70) rfl k) ?_
  refine OwnFin.step (g' := (mkF m 72 (Las1212_2 b1 b9394 b9405) [(.ref b9394), (.int (4 : Int32)), (.ref b3133)])) X12525 (fun t k => XS.aloadN X12525.here hx rfl (hb hby d12_71) rfl rfl k) ?_
  refine OwnFin.step (g' := (mkF m 74 (Las1212_2 b1 b9394 b9405) [(.int (0 : Int32)), (.ref b9394), (.int (4 : Int32)), (.ref b3133)])) X12525 (fun t k => XS.iload X12525.here hx rfl (hb hby d12_72) rfl k) ?_
  refine OwnFin.step (g' := (mkF m 75 (Las1212_2 b1 b9394 b9405) [(.long q1), (.int (4 : Int32)), (.ref b3133)])) X12525 (fun t k => own_ldJ X12525 hx hZ e12525 A_b9394 (by decide) rfl (g := (mkF m 74 (Las1212_2 b1 b9394 b9405) [(.int (0 : Int32)), (.ref b9394), (.int (4 : Int32)), (.ref b3133)])) rfl rfl (hb hby d12_74) _ k) ?_
  obtain ⟨T12526, h12526, L12526, X12526, e12526, N12526, K12526, A12526, st12526⟩ := own_stJ X12525 hx hZ e12525 N0 (G := (Gs1012_98b q0 q2 q1 q3)) A_b3133 g_b3133 (j := (4 : Int32)) (x := q1) (by decide) (g := (mkF m 75 (Las1212_2 b1 b9394 b9405) [(.long q1), (.int (4 : Int32)), (.ref b3133)])) rfl rfl (hb hby d12_75)
  have B12526 : Ary Z h12526 b3133 .long 64 (fun i => .long ((Gs1212_75 q0 q2 q1 q3) i)) := A12526
  have Z12526 := Nat.le_trans Z0 K12526.1
  have S12526 := Nat.le_trans (Nat.le_refl h0.size) K12526.1
  refine OwnFin.step (g' := (mkF m 76 (Las1212_2 b1 b9394 b9405) [])) X12526 (fun t k => st12526 _ k) ?_
  refine OwnFin.step (g' := (mkF m 77 (Las1212_2 b1 b9394 b9405) [(.ref b1)])) X12526 (fun t k => XS.aloadN X12526.here hx rfl (hb hby d12_76) rfl rfl k) ?_
  have F12527 := (F_m_steps_b1.keep K12526 (ninS ne_b1_b3133 nin0))
  obtain ⟨T12528, X12528, e12528, st12528⟩ := getF X12526 hx hZ hown (host := "") (Or.inl (hw _ (wm 41 rfl))) Via.refl e12526 F12527 (g := (mkF m 77 (Las1212_2 b1 b9394 b9405) [(.ref b1)])) rfl rfl (hb hby d12_77)
  refine OwnFin.step (g' := (mkF m 80 (Las1212_2 b1 b9394 b9405) [(.ref b3133)])) X12528 (fun t k => st12528 _ k) ?_
  refine OwnFin.step (g' := (mkF m 81 (Las1212_2 b1 b9394 b9405) [(.int (4 : Int32)), (.ref b3133)])) X12528 (fun t k => XS.iloadN X12528.here hx rfl (hb hby d12_80) rfl k) ?_
  refine OwnFin.step (g' := (mkF m 82 (Las1212_2 b1 b9394 b9405) [(.ref b1), (.int (4 : Int32)), (.ref b3133)])) X12528 (fun t k => XS.aloadN X12528.here hx rfl (hb hby d12_81) rfl rfl k) ?_
  have F12529 := (F_m_width_b1.keep K12526 (ninS ne_b1_b3133 nin0))
  obtain ⟨T12530, X12530, e12530, st12530⟩ := getF X12528 hx hZ hown (host := "") (Or.inl (hw _ (wm 12 rfl))) Via.refl e12528 F12529 (g := (mkF m 82 (Las1212_2 b1 b9394 b9405) [(.ref b1), (.int (4 : Int32)), (.ref b3133)])) rfl rfl (hb hby d12_82)
  refine OwnFin.step (g' := (mkF m 85 (Las1212_2 b1 b9394 b9405) [(.int (2 : Int32)), (.int (4 : Int32)), (.ref b3133)])) X12530 (fun t k => st12530 _ k) ?_
  refine OwnFin.step (g' := (mkF m 86 (Las1212_2 b1 b9394 b9405) [(.int (6 : Int32)), (.ref b3133)])) X12530 (fun t k => XS.iadd X12530.here hx rfl (hb hby d12_85) rfl k) ?_
  refine OwnFin.step (g' := (mkF m 88 (Las1212_2 b1 b9394 b9405) [(.int (0 : Int32)), (.int (6 : Int32)), (.ref b3133)])) X12530 (fun t k => XS.iload X12530.here hx rfl (hb hby d12_86) rfl k) ?_
  refine OwnFin.step (g' := (mkF m 89 (Las1212_2 b1 b9394 b9405) [(.int (6 : Int32)), (.ref b3133)])) X12530 (fun t k => XS.iadd X12530.here hx rfl (hb hby d12_88) rfl k) ?_
  refine OwnFin.step (g' := (mkF m 90 (Las1212_2 b1 b9394 b9405) [(.ref b9405), (.int (6 : Int32)), (.ref b3133)])) X12530 (fun t k => XS.aloadN X12530.here hx rfl (hb hby d12_89) rfl rfl k) ?_
  refine OwnFin.step (g' := (mkF m 92 (Las1212_2 b1 b9394 b9405) [(.int (0 : Int32)), (.ref b9405), (.int (6 : Int32)), (.ref b3133)])) X12530 (fun t k => XS.iload X12530.here hx rfl (hb hby d12_90) rfl k) ?_
  have A12531 := (A_b9405.keep K12526 (ninS (Ne.symm ne_b3133_b9405) nin0))
  refine OwnFin.step (g' := (mkF m 93 (Las1212_2 b1 b9394 b9405) [(.long (q3 ^^^ (-1 : Int64))), (.int (6 : Int32)), (.ref b3133)])) X12530 (fun t k => own_ldJ X12530 hx hZ e12530 A12531 (by decide) rfl (g := (mkF m 92 (Las1212_2 b1 b9394 b9405) [(.int (0 : Int32)), (.ref b9405), (.int (6 : Int32)), (.ref b3133)])) rfl rfl (hb hby d12_92) _ k) ?_
  refine OwnFin.step (g' := (mkF m 94 (Las1212_2 b1 b9394 b9405) [(.ref b9394), (.long (q3 ^^^ (-1 : Int64))), (.int (6 : Int32)), (.ref b3133)])) X12530 (fun t k => XS.aloadN X12530.here hx rfl (hb hby d12_93) rfl rfl k) ?_
  refine OwnFin.step (g' := (mkF m 96 (Las1212_2 b1 b9394 b9405) [(.int (0 : Int32)), (.ref b9394), (.long (q3 ^^^ (-1 : Int64))), (.int (6 : Int32)), (.ref b3133)])) X12530 (fun t k => XS.iload X12530.here hx rfl (hb hby d12_94) rfl k) ?_
  have A12532 := (A_b9394.keep K12526 (ninS (Ne.symm ne_b3133_b9394) nin0))
  refine OwnFin.step (g' := (mkF m 97 (Las1212_2 b1 b9394 b9405) [(.long q1), (.long (q3 ^^^ (-1 : Int64))), (.int (6 : Int32)), (.ref b3133)])) X12530 (fun t k => own_ldJ X12530 hx hZ e12530 A12532 (by decide) rfl (g := (mkF m 96 (Las1212_2 b1 b9394 b9405) [(.int (0 : Int32)), (.ref b9394), (.long (q3 ^^^ (-1 : Int64))), (.int (6 : Int32)), (.ref b3133)])) rfl rfl (hb hby d12_96) _ k) ?_
  refine OwnFin.step (g' := (mkF m 98 (Las1212_2 b1 b9394 b9405) [(.long ((q3 ^^^ (-1 : Int64)) &&& q1)), (.int (6 : Int32)), (.ref b3133)])) X12530 (fun t k => XT.land X12530.here hx rfl (hb hby d12_97) rfl k) ?_
  obtain ⟨T12533, h12533, L12533, X12533, e12533, N12533, K12533, A12533, st12533⟩ := own_stJ X12530 hx hZ e12530 N12526 (G := (Gs1212_75 q0 q2 q1 q3)) B12526 g_b3133 (j := (6 : Int32)) (x := ((q3 ^^^ (-1 : Int64)) &&& q1)) (by decide) (g := (mkF m 98 (Las1212_2 b1 b9394 b9405) [(.long ((q3 ^^^ (-1 : Int64)) &&& q1)), (.int (6 : Int32)), (.ref b3133)])) rfl rfl (hb hby d12_98)
  have B12533 : Ary Z h12533 b3133 .long 64 (fun i => .long ((Gs1212_98 q0 q2 q1 q3) i)) := A12533
  have Z12533 := Nat.le_trans Z12526 K12533.1
  have S12533 := Nat.le_trans S12526 K12533.1
  refine OwnFin.step (g' := (mkF m 99 (Las1212_2 b1 b9394 b9405) [])) X12533 (fun t k => st12533 _ k) ?_
  refine OwnFin.step (g' := (mkF m 102 (Las1212_3 b1 b9394 b9405) [])) X12533 (fun t k => XS.iinc X12533.here hx rfl (hb hby d12_99) rfl (l' := (Las1212_3 b1 b9394 b9405)) rfl k) ?_
  refine OwnFin.step (g' := (mkF m 54 (Las1212_3 b1 b9394 b9405) [])) X12533 (fun t k => XS.goto X12533.here hx rfl (pc0 := 102) (pc' := 54) rfl (hb hby d12_102) (by decide) (by decide) k) ?_
  refine OwnFin.step (g' := (mkF m 56 (Las1212_3 b1 b9394 b9405) [(.int (1 : Int32))])) X12533 (fun t k => XS.iload X12533.here hx rfl (hb hby d12_54) rfl k) ?_
  refine OwnFin.step (g' := (mkF m 57 (Las1212_3 b1 b9394 b9405) [(.ref b1), (.int (1 : Int32))])) X12533 (fun t k => XS.aloadN X12533.here hx rfl (hb hby d12_56) rfl rfl k) ?_
  have F12534 := (F12529.keep K12533 (ninS ne_b1_b3133 nin0))
  obtain ⟨T12535, X12535, e12535, st12535⟩ := getF X12533 hx hZ hown (host := "") (Or.inl (hw _ (wm 12 rfl))) Via.refl e12533 F12534 (g := (mkF m 57 (Las1212_3 b1 b9394 b9405) [(.ref b1), (.int (1 : Int32))])) rfl rfl (hb hby d12_57)
  refine OwnFin.step (g' := (mkF m 60 (Las1212_3 b1 b9394 b9405) [(.int (2 : Int32)), (.int (1 : Int32))])) X12535 (fun t k => st12535 _ k) ?_
  refine OwnFin.step (g' := (mkF m 63 (Las1212_3 b1 b9394 b9405) [])) X12535 (fun t k => XS.icmpNo X12535.here hx rfl (hb hby d12_60) rfl (tlt (show (1 : Int32) < (2 : Int32) by first | rfl | decide)).2.1 k) ?_
  refine OwnFin.step (g' := (mkF m 64 (Las1212_3 b1 b9394 b9405) [(.ref b1)])) X12535 (fun t k => XS.aloadN X12535.here hx rfl (hb hby d12_63) rfl rfl k) ?_
  have F12536 := (F12527.keep K12533 (ninS ne_b1_b3133 nin0))
  obtain ⟨T12537, X12537, e12537, st12537⟩ := getF X12535 hx hZ hown (host := "") (Or.inl (hw _ (wm 41 rfl))) Via.refl e12535 F12536 (g := (mkF m 64 (Las1212_3 b1 b9394 b9405) [(.ref b1)])) rfl rfl (hb hby d12_64)
  refine OwnFin.step (g' := (mkF m 67 (Las1212_3 b1 b9394 b9405) [(.ref b3133)])) X12537 (fun t k => st12537 _ k) ?_
  refine OwnFin.step (g' := (mkF m 68 (Las1212_3 b1 b9394 b9405) [(.int (4 : Int32)), (.ref b3133)])) X12537 (fun t k => XS.iloadN X12537.here hx rfl (hb hby d12_67) rfl k) ?_
  refine OwnFin.step (g' := (mkF m 70 (Las1212_3 b1 b9394 b9405) [(.int (1 : Int32)), (.int (4 : Int32)), (.ref b3133)])) X12537 (fun t k => XS.iload X12537.here hx rfl (hb hby d12_68) rfl k) ?_
  refine OwnFin.step (g' := (mkF m 71 (Las1212_3 b1 b9394 b9405) [(.int (5 : Int32)), (.ref b3133)])) X12537 (fun t k => XS.iadd X12537.here hx rfl (hb hby d12_70) rfl k) ?_
  refine OwnFin.step (g' := (mkF m 72 (Las1212_3 b1 b9394 b9405) [(.ref b9394), (.int (5 : Int32)), (.ref b3133)])) X12537 (fun t k => XS.aloadN X12537.here hx rfl (hb hby d12_71) rfl rfl k) ?_
  refine OwnFin.step (g' := (mkF m 74 (Las1212_3 b1 b9394 b9405) [(.int (1 : Int32)), (.ref b9394), (.int (5 : Int32)), (.ref b3133)])) X12537 (fun t k => XS.iload X12537.here hx rfl (hb hby d12_72) rfl k) ?_
  have A12538 := (A12532.keep K12533 (ninS (Ne.symm ne_b3133_b9394) nin0))
  refine OwnFin.step (g' := (mkF m 75 (Las1212_3 b1 b9394 b9405) [(.long q0), (.int (5 : Int32)), (.ref b3133)])) X12537 (fun t k => own_ldJ X12537 hx hZ e12537 A12538 (by decide) rfl (g := (mkF m 74 (Las1212_3 b1 b9394 b9405) [(.int (1 : Int32)), (.ref b9394), (.int (5 : Int32)), (.ref b3133)])) rfl rfl (hb hby d12_74) _ k) ?_
  obtain ⟨T12539, h12539, L12539, X12539, e12539, N12539, K12539, A12539, st12539⟩ := own_stJ X12537 hx hZ e12537 N12533 (G := (Gs1212_98 q0 q2 q1 q3)) B12533 g_b3133 (j := (5 : Int32)) (x := q0) (by decide) (g := (mkF m 75 (Las1212_3 b1 b9394 b9405) [(.long q0), (.int (5 : Int32)), (.ref b3133)])) rfl rfl (hb hby d12_75)
  have B12539 : Ary Z h12539 b3133 .long 64 (fun i => .long ((Gs1212_75b q0 q2 q1 q3) i)) := A12539
  have Z12539 := Nat.le_trans Z12533 K12539.1
  have S12539 := Nat.le_trans S12533 K12539.1
  refine OwnFin.step (g' := (mkF m 76 (Las1212_3 b1 b9394 b9405) [])) X12539 (fun t k => st12539 _ k) ?_
  refine OwnFin.step (g' := (mkF m 77 (Las1212_3 b1 b9394 b9405) [(.ref b1)])) X12539 (fun t k => XS.aloadN X12539.here hx rfl (hb hby d12_76) rfl rfl k) ?_
  have F12540 := (F12536.keep K12539 (ninS ne_b1_b3133 nin0))
  obtain ⟨T12541, X12541, e12541, st12541⟩ := getF X12539 hx hZ hown (host := "") (Or.inl (hw _ (wm 41 rfl))) Via.refl e12539 F12540 (g := (mkF m 77 (Las1212_3 b1 b9394 b9405) [(.ref b1)])) rfl rfl (hb hby d12_77)
  refine OwnFin.step (g' := (mkF m 80 (Las1212_3 b1 b9394 b9405) [(.ref b3133)])) X12541 (fun t k => st12541 _ k) ?_
  refine OwnFin.step (g' := (mkF m 81 (Las1212_3 b1 b9394 b9405) [(.int (4 : Int32)), (.ref b3133)])) X12541 (fun t k => XS.iloadN X12541.here hx rfl (hb hby d12_80) rfl k) ?_
  refine OwnFin.step (g' := (mkF m 82 (Las1212_3 b1 b9394 b9405) [(.ref b1), (.int (4 : Int32)), (.ref b3133)])) X12541 (fun t k => XS.aloadN X12541.here hx rfl (hb hby d12_81) rfl rfl k) ?_
  have F12542 := (F12534.keep K12539 (ninS ne_b1_b3133 nin0))
  obtain ⟨T12543, X12543, e12543, st12543⟩ := getF X12541 hx hZ hown (host := "") (Or.inl (hw _ (wm 12 rfl))) Via.refl e12541 F12542 (g := (mkF m 82 (Las1212_3 b1 b9394 b9405) [(.ref b1), (.int (4 : Int32)), (.ref b3133)])) rfl rfl (hb hby d12_82)
  refine OwnFin.step (g' := (mkF m 85 (Las1212_3 b1 b9394 b9405) [(.int (2 : Int32)), (.int (4 : Int32)), (.ref b3133)])) X12543 (fun t k => st12543 _ k) ?_
  refine OwnFin.step (g' := (mkF m 86 (Las1212_3 b1 b9394 b9405) [(.int (6 : Int32)), (.ref b3133)])) X12543 (fun t k => XS.iadd X12543.here hx rfl (hb hby d12_85) rfl k) ?_
  refine OwnFin.step (g' := (mkF m 88 (Las1212_3 b1 b9394 b9405) [(.int (1 : Int32)), (.int (6 : Int32)), (.ref b3133)])) X12543 (fun t k => XS.iload X12543.here hx rfl (hb hby d12_86) rfl k) ?_
  refine OwnFin.step (g' := (mkF m 89 (Las1212_3 b1 b9394 b9405) [(.int (7 : Int32)), (.ref b3133)])) X12543 (fun t k => XS.iadd X12543.here hx rfl (hb hby d12_88) rfl k) ?_
  refine OwnFin.step (g' := (mkF m 90 (Las1212_3 b1 b9394 b9405) [(.ref b9405), (.int (7 : Int32)), (.ref b3133)])) X12543 (fun t k => XS.aloadN X12543.here hx rfl (hb hby d12_89) rfl rfl k) ?_
  refine OwnFin.step (g' := (mkF m 92 (Las1212_3 b1 b9394 b9405) [(.int (1 : Int32)), (.ref b9405), (.int (7 : Int32)), (.ref b3133)])) X12543 (fun t k => XS.iload X12543.here hx rfl (hb hby d12_90) rfl k) ?_
  have A12544 := ((A12531.keep K12533 (ninS (Ne.symm ne_b3133_b9405) nin0)).keep K12539 (ninS (Ne.symm ne_b3133_b9405) nin0))
  refine OwnFin.step (g' := (mkF m 93 (Las1212_3 b1 b9394 b9405) [(.long (q2 ^^^ q5)), (.int (7 : Int32)), (.ref b3133)])) X12543 (fun t k => own_ldJ X12543 hx hZ e12543 A12544 (by decide) rfl (g := (mkF m 92 (Las1212_3 b1 b9394 b9405) [(.int (1 : Int32)), (.ref b9405), (.int (7 : Int32)), (.ref b3133)])) rfl rfl (hb hby d12_92) _ k) ?_
  refine OwnFin.step (g' := (mkF m 94 (Las1212_3 b1 b9394 b9405) [(.ref b9394), (.long (q2 ^^^ q5)), (.int (7 : Int32)), (.ref b3133)])) X12543 (fun t k => XS.aloadN X12543.here hx rfl (hb hby d12_93) rfl rfl k) ?_
  refine OwnFin.step (g' := (mkF m 96 (Las1212_3 b1 b9394 b9405) [(.int (1 : Int32)), (.ref b9394), (.long (q2 ^^^ q5)), (.int (7 : Int32)), (.ref b3133)])) X12543 (fun t k => XS.iload X12543.here hx rfl (hb hby d12_94) rfl k) ?_
  have A12545 := (A12538.keep K12539 (ninS (Ne.symm ne_b3133_b9394) nin0))
  refine OwnFin.step (g' := (mkF m 97 (Las1212_3 b1 b9394 b9405) [(.long q0), (.long (q2 ^^^ q5)), (.int (7 : Int32)), (.ref b3133)])) X12543 (fun t k => own_ldJ X12543 hx hZ e12543 A12545 (by decide) rfl (g := (mkF m 96 (Las1212_3 b1 b9394 b9405) [(.int (1 : Int32)), (.ref b9394), (.long (q2 ^^^ q5)), (.int (7 : Int32)), (.ref b3133)])) rfl rfl (hb hby d12_96) _ k) ?_
  refine OwnFin.step (g' := (mkF m 98 (Las1212_3 b1 b9394 b9405) [(.long ((q2 ^^^ q5) &&& q0)), (.int (7 : Int32)), (.ref b3133)])) X12543 (fun t k => XT.land X12543.here hx rfl (hb hby d12_97) rfl k) ?_
  obtain ⟨T12546, h12546, L12546, X12546, e12546, N12546, K12546, A12546, st12546⟩ := own_stJ X12543 hx hZ e12543 N12539 (G := (Gs1212_75b q0 q2 q1 q3)) B12539 g_b3133 (j := (7 : Int32)) (x := ((q2 ^^^ q5) &&& q0)) (by decide) (g := (mkF m 98 (Las1212_3 b1 b9394 b9405) [(.long ((q2 ^^^ q5) &&& q0)), (.int (7 : Int32)), (.ref b3133)])) rfl rfl (hb hby d12_98)
  have B12546 : Ary Z h12546 b3133 .long 64 (fun i => .long ((Gs1212_98b q0 q2 q1 q3 q5) i)) := A12546
  have Z12546 := Nat.le_trans Z12539 K12546.1
  have S12546 := Nat.le_trans S12539 K12546.1
  refine OwnFin.step (g' := (mkF m 99 (Las1212_3 b1 b9394 b9405) [])) X12546 (fun t k => st12546 _ k) ?_
  refine OwnFin.step (g' := (mkF m 102 (Las1212_4 b1 b9394 b9405) [])) X12546 (fun t k => XS.iinc X12546.here hx rfl (hb hby d12_99) rfl (l' := (Las1212_4 b1 b9394 b9405)) rfl k) ?_
  refine OwnFin.step (g' := (mkF m 54 (Las1212_4 b1 b9394 b9405) [])) X12546 (fun t k => XS.goto X12546.here hx rfl (pc0 := 102) (pc' := 54) rfl (hb hby d12_102) (by decide) (by decide) k) ?_
  refine OwnFin.step (g' := (mkF m 56 (Las1212_4 b1 b9394 b9405) [(.int (2 : Int32))])) X12546 (fun t k => XS.iload X12546.here hx rfl (hb hby d12_54) rfl k) ?_
  refine OwnFin.step (g' := (mkF m 57 (Las1212_4 b1 b9394 b9405) [(.ref b1), (.int (2 : Int32))])) X12546 (fun t k => XS.aloadN X12546.here hx rfl (hb hby d12_56) rfl rfl k) ?_
  have F12547 := (F12542.keep K12546 (ninS ne_b1_b3133 nin0))
  obtain ⟨T12548, X12548, e12548, st12548⟩ := getF X12546 hx hZ hown (host := "") (Or.inl (hw _ (wm 12 rfl))) Via.refl e12546 F12547 (g := (mkF m 57 (Las1212_4 b1 b9394 b9405) [(.ref b1), (.int (2 : Int32))])) rfl rfl (hb hby d12_57)
  refine OwnFin.step (g' := (mkF m 60 (Las1212_4 b1 b9394 b9405) [(.int (2 : Int32)), (.int (2 : Int32))])) X12548 (fun t k => st12548 _ k) ?_
  refine OwnFin.step (g' := (mkF m 105 (Las1212_4 b1 b9394 b9405) [])) X12548 (fun t k => XS.icmpYes X12548.here hx rfl (pc0 := 60) (pc' := 105) rfl (hb hby d12_60) rfl (flt (show ¬ ((2 : Int32) < (2 : Int32)) by first | decide | exact Int32.lt_irrefl _ | exact Int64.lt_irrefl _)).2.1 (by decide) (by decide) k) ?_
  refine OwnFin.step (g' := (mkF m 106 (Las1212_4 b1 b9394 b9405) [(.ref b1)])) X12548 (fun t k => XS.aloadN X12548.here hx rfl (hb hby d12_105) rfl rfl k) ?_
  refine OwnFin.step (g' := (mkF m 107 (Las1212_4 b1 b9394 b9405) [(.ref b1), (.ref b1)])) X12548 (fun t k => XS.dup X12548.here hx rfl (hb hby d12_106) rfl rfl k) ?_
  have F12549 := ((((F_m_stepCount_b1.keep K12526 (ninS ne_b1_b3133 nin0)).keep K12533 (ninS ne_b1_b3133 nin0)).keep K12539 (ninS ne_b1_b3133 nin0)).keep K12546 (ninS ne_b1_b3133 nin0))
  obtain ⟨T12550, X12550, e12550, st12550⟩ := getF X12548 hx hZ hown (host := "") (Or.inl (hw _ (wm 79 rfl))) Via.refl e12548 F12549 (g := (mkF m 107 (Las1212_4 b1 b9394 b9405) [(.ref b1), (.ref b1)])) rfl rfl (hb hby d12_107)
  refine OwnFin.step (g' := (mkF m 110 (Las1212_4 b1 b9394 b9405) [(.int (1 : Int32)), (.ref b1)])) X12550 (fun t k => st12550 _ k) ?_
  refine OwnFin.step (g' := (mkF m 111 (Las1212_4 b1 b9394 b9405) [(.int (1 : Int32)), (.int (1 : Int32)), (.ref b1)])) X12550 (fun t k => XS.iconst X12550.here hx rfl (hb hby d12_110) k) ?_
  refine OwnFin.step (g' := (mkF m 112 (Las1212_4 b1 b9394 b9405) [(.int (2 : Int32)), (.ref b1)])) X12550 (fun t k => XS.iadd X12550.here hx rfl (hb hby d12_111) rfl k) ?_
  have E12551 := (Exa.keep (Exa.keep (Exa.keep (Exa.keep E_b1 K12526) K12533) K12539) K12546)
  have F12552 := ((((F_m_firstSteps_b1.keep K12526 (ninS ne_b1_b3133 nin0)).keep K12533 (ninS ne_b1_b3133 nin0)).keep K12539 (ninS ne_b1_b3133 nin0)).keep K12546 (ninS ne_b1_b3133 nin0))
  have F12553 := ((((F_m_keys_b1.keep K12526 (ninS ne_b1_b3133 nin0)).keep K12533 (ninS ne_b1_b3133 nin0)).keep K12539 (ninS ne_b1_b3133 nin0)).keep K12546 (ninS ne_b1_b3133 nin0))
  have F12554 := (F12540.keep K12546 (ninS ne_b1_b3133 nin0))
  obtain ⟨T12555, h12555, L12555, X12555, e12555, N12555, W12555, F12555, st12555⟩ := own_putF X12550 hx hZ hown (hw _ (wm 79 rfl)) e12550 N12546 F12549 E12551 g_b1 (Or.inl (hw _ (wm 80 rfl))) (hw _ (wm 1 rfl)) (fty := .int) (by decide) rfl rfl (g := (mkF m 112 (Las1212_4 b1 b9394 b9405) [(.int (2 : Int32)), (.ref b1)])) rfl rfl (hb hby d12_112)
  have K12555 := Keep.of_wr W12555
  have Z12555 := Nat.le_trans Z12546 K12555.1
  have S12555 := Nat.le_trans S12546 K12555.1
  have F12556 := Fld.other W12555 F12552 (Or.inr (slot_ne (Or.inl (hw _ (wm 11 rfl))) (Or.inl (hw _ (wm 80 rfl))) (by decide) (t := (.array .int)) (t' := .int) (by decide) (by decide)))
  have F12557 := Fld.other W12555 F12547 (Or.inr (slot_ne (Or.inr (hw _ (wm 13 rfl))) (Or.inl (hw _ (wm 80 rfl))) (by decide) (t := .int) (t' := .int) (by decide) (by decide)))
  have F12558 := Fld.other W12555 F12553 (Or.inr (slot_ne (Or.inr (hw _ (wm 40 rfl))) (Or.inl (hw _ (wm 80 rfl))) (by decide) (t := (.object "com/example/ken2/ken2/TupleTable")) (t' := .int) (by decide) (by decide)))
  have F12559 := Fld.other W12555 F12554 (Or.inr (slot_ne (Or.inl (hw _ (wm 42 rfl))) (Or.inl (hw _ (wm 80 rfl))) (by decide) (t := (.array .long)) (t' := .int) (by decide) (by decide)))
  have E12560 := Exa.wr W12555 E12551
  refine OwnFin.step (g' := (mkF m 115 (Las1212_4 b1 b9394 b9405) [])) X12555 (fun t k => st12555 _ k) ?_
  refine OwnFin.step (g' := (mkF m 116 (Las1212_4 b1 b9394 b9405) [(.ref b1)])) X12555 (fun t k => XS.aloadN X12555.here hx rfl (hb hby d12_115) rfl rfl k) ?_
  obtain ⟨T12561, X12561, e12561, st12561⟩ := getF X12555 hx hZ hown (host := "") (Or.inl (hw _ (wm 10 rfl))) Via.refl e12555 F12556 (g := (mkF m 116 (Las1212_4 b1 b9394 b9405) [(.ref b1)])) rfl rfl (hb hby d12_116)
  refine OwnFin.step (g' := (mkF m 119 (Las1212_4 b1 b9394 b9405) [(.ref b1004)])) X12561 (fun t k => st12561 _ k) ?_
  refine OwnFin.step (g' := (mkF m 120 (Las1212_4 b1 b9394 b9405) [(.ref b1), (.ref b1004)])) X12561 (fun t k => XS.aloadN X12561.here hx rfl (hb hby d12_119) rfl rfl k) ?_
  obtain ⟨T12562, X12562, e12562, st12562⟩ := getF X12561 hx hZ hown (host := "") (Or.inl (hw _ (wm 39 rfl))) Via.refl e12561 F12558 (g := (mkF m 120 (Las1212_4 b1 b9394 b9405) [(.ref b1), (.ref b1004)])) rfl rfl (hb hby d12_120)
  refine OwnFin.step (g' := (mkF m 123 (Las1212_4 b1 b9394 b9405) [(.ref b1023), (.ref b1004)])) X12562 (fun t k => st12562 _ k) ?_
  have F13575 := (((((F_m_size_b1023.keep K12526 (ninS ne_b1023_b3133 nin0)).keep K12533 (ninS ne_b1023_b3133 nin0)).keep K12539 (ninS ne_b1023_b3133 nin0)).keep K12546 (ninS ne_b1023_b3133 nin0)).keep K12555 (ninS (Ne.symm ne_b1_b1023) nin0))
  have E13577 := (Exa.keep (Exa.keep (Exa.keep (Exa.keep (Exa.keep E_b1023 K12526) K12533) K12539) K12546) K12555)
  obtain ⟨_, T12563, L12563, X12563, ⟨rfl, N12563q, u13576⟩, st12563⟩ := own_callV X12562 hx hZ (y := (⟨"com/example/ken2/ken2/TupleTable", "size", "()I"⟩ : MethodName)) (W := 1) (a := b1023) (argsL := []) (rest := [(.ref b1004)]) hown (hw _ (wm 87 rfl)) (hw _ (wm 88 rfl)) (hw _ (wm 90 rfl)) (hw _ (wm 89 rfl)) (hw _ (wm 16 rfl)) (hw _ (wm 91 rfl)) (by decide) E13577 (rm13s13 l Z a0 hw [] b1023 h12555 n0 Z12555 F13575) (by decide) (by decide) (by decide) (by decide) e12562 (g := (mkF m 123 (Las1212_4 b1 b9394 b9405) [(.ref b1023), (.ref b1004)])) rfl (by rw [hml]; rfl) pd_8 rfl rfl (by show 2 * 0 + _ ≤ _; exact Nat.le_of_eq rfl) (hb hby d12_123)
  have N12563 := Fr.app N12555 N12563q
  refine OwnFin.step (g' := (mkF m 126 (Las1212_4 b1 b9394 b9405) [(.int (1 : Int32)), (.ref b1004)])) X12563 (fun t k => st12563 _ k) ?_
  refine OwnFin.step (g' := (mkF m 127 (Las1212_4 b1 b9394 b9405) [(.ref b1), (.int (1 : Int32)), (.ref b1004)])) X12563 (fun t k => XS.aloadN X12563.here hx rfl (hb hby d12_126) rfl rfl k) ?_
  obtain ⟨T13578, X13578, e13578, st13578⟩ := getF X12563 hx hZ hown (host := "") (Or.inl (hw _ (wm 79 rfl))) Via.refl u13576 F12555 (g := (mkF m 127 (Las1212_4 b1 b9394 b9405) [(.ref b1), (.int (1 : Int32)), (.ref b1004)])) rfl rfl (hb hby d12_127)
  refine OwnFin.step (g' := (mkF m 130 (Las1212_4 b1 b9394 b9405) [(.int (2 : Int32)), (.int (1 : Int32)), (.ref b1004)])) X13578 (fun t k => st13578 _ k) ?_
  have A13579 := (((((A_b1004.keep K12526 (ninS ne_b1004_b3133 nin0)).keep K12533 (ninS ne_b1004_b3133 nin0)).keep K12539 (ninS ne_b1004_b3133 nin0)).keep K12546 (ninS ne_b1004_b3133 nin0)).keep K12555 (ninS (Ne.symm ne_b1_b1004) nin0))
  obtain ⟨T13580, h13580, L13580, X13580, e13580, N13580, K13580, A13580, st13580⟩ := own_stI X13578 hx hZ e13578 N12563 (G := (Gs1012_130)) A13579 g_b1004 (j := (1 : Int32)) (x := (2 : Int32)) (by decide) (g := (mkF m 130 (Las1212_4 b1 b9394 b9405) [(.int (2 : Int32)), (.int (1 : Int32)), (.ref b1004)])) rfl rfl (hb hby d12_130)
  have B13580 : Ary Z h13580 b1004 .int 17 (fun i => .int ((Gs1212_130) i)) := A13580
  have Z13580 := Nat.le_trans Z12555 K13580.1
  have S13580 := Nat.le_trans S12555 K13580.1
  refine OwnFin.step (g' := (mkF m 131 (Las1212_4 b1 b9394 b9405) [])) X13580 (fun t k => st13580 _ k) ?_
  have E13581 := (Exa.keep E12560 K13580)
  have F13582 := (F12556.keep K13580 (ninS ne_b1_b1004 nin0))
  have F13583 := (F12557.keep K13580 (ninS ne_b1_b1004 nin0))
  have F13584 := (F12558.keep K13580 (ninS ne_b1_b1004 nin0))
  have F13585 := (F12559.keep K13580 (ninS ne_b1_b1004 nin0))
  have F13586 := (F12555.keep K13580 (ninS ne_b1_b1004 nin0))
  have A13587 := ((B12546.keep K12555 (ninS (Ne.symm ne_b1_b3133) nin0)).keep K13580 (ninS (Ne.symm ne_b1004_b3133) nin0))
  refine OwnFin.retVoid X13580 (hb hby d12_131) (by decide) (by decide) ?_
  rw [e13580]
  exact ⟨rfl, N13580, (Keep.trans (Keep.trans (Keep.trans (Keep.trans (Keep.trans (Keep.trans (Keep.refl h0 [b1, b1004, b3133]) K12526 (allS (Or.inl (wm 2 rfl)) all0)) K12533 (allS (Or.inl (wm 2 rfl)) all0)) K12539 (allS (Or.inl (wm 2 rfl)) all0)) K12546 (allS (Or.inl (wm 2 rfl)) all0)) K12555 (allS (Or.inl (wm 0 rfl)) all0)) K13580 (allS (Or.inl (wm 1 rfl)) all0)), E13581, F13582, F13583, F13584, F13585, F13586, B13580, A13587⟩)
def Q13s11 (Z : State) (b1023 : Addr) (h0 : Heap) (n0 : Nat) : Option Value → Heap → List Loc → Prop := fun v h L => v = some (.int (1 : Int32)) ∧ Fr n0 L ∧ h = h0
set_option maxRecDepth 65536 in
set_option maxHeartbeats 40000000 in
theorem rm13s11 (l : Launch) (Z : State) (a0 : Array Value) (hw : ∀ d ∈ tables_1, d.before a0 Z = true) (ws : List Jvm.Cond) (b1023 : Addr) (h0 : Heap) (n0 : Nat) (Z0 : n0 ≤ h0.size) (F_m_size_b1023 : Fld Z h0 b1023 "com/example/ken2/ken2/TupleTable" "m_size" "I" (.int (1 : Int32))) :
    MetFree l (⟨"com/example/ken2/ken2/TupleTable", "size", "()I"⟩ : MethodName) (head1 (Jvm.Cond.code (⟨"com/example/ken2/ken2/TupleTable", "size", "()I"⟩ : MethodName) prog_120_method_3_code 1 (some .int) :: ws) ({ frames := 0, cells := 0, slots := 0, locals := 0 } : Room)) (fun a U => a = #[(.ref b1023)] ∧ Z.Warmed39 U.vm ∧ U.heap = h0) (fun _ _ _ _ _ => True) (fun _ U o U' => ∃ v L, o = .returned v ∧ (Q13s11 Z b1023 h0 n0) v U'.heap L ∧ FrameEnd U o U' L ({ frames := 0, cells := 0, slots := 0, locals := 0 } : Room).cells ({ frames := 0, cells := 0, slots := 0, locals := 0 } : Room).slots) :=
  own_met (ret := (some .int)) (Q := (Q13s11 Z b1023 h0 n0)) (plainFor_of_name pn_13) (fun m => ef_13 m b1023) (fun p e s m below meth c T0 X0 hx hby hml hown hnm hZ e0 => by
  have N0 := Fr.nil n0
  refine OwnFin.step (g' := (mkF m 1 #[.val (.ref b1023)] [(.ref b1023)])) X0 (fun t k => XS.aloadN X0.here hx rfl (hb hby d13_0) rfl rfl k) ?_
  obtain ⟨T11463, X11463, e11463, st11463⟩ := getF X0 hx hZ hown (host := "") (Or.inl (hw _ (wm 68 rfl))) Via.refl e0 F_m_size_b1023 (g := (mkF m 1 #[.val (.ref b1023)] [(.ref b1023)])) rfl rfl (hb hby d13_1)
  refine OwnFin.step (g' := (mkF m 4 #[.val (.ref b1023)] [(.int (1 : Int32))])) X11463 (fun t k => st11463 _ k) ?_
  refine OwnFin.retInt X11463 (hb hby d13_4) (by decide) (by decide) ?_
  rw [e11463]
  exact ⟨rfl, N0, rfl⟩)
def Q12s10 (Z : State) (q0 : Int64) (q1 : Int64) (q2 : Int64) (q3 : Int64) (b1 : Addr) (b1004 : Addr) (b1023 : Addr) (b3133 : Addr) (b9378 : Addr) (b9384 : Addr) (h0 : Heap) (n0 : Nat) : Option Value → Heap → List Loc → Prop := fun v h L => v = none ∧ Fr n0 L ∧ Keep h0 h [b1, b1004, b3133] ∧ Exa Z h b1 "com/example/ken2/ken2/RememberedSteps" ∧ Fld Z h b1 "com/example/ken2/ken2/RememberedSteps" "m_firstSteps" "[I" (.ref b1004) ∧ Fld Z h b1 "com/example/ken2/ken2/RememberedSteps" "m_width" "I" (.int (2 : Int32)) ∧ Fld Z h b1 "com/example/ken2/ken2/RememberedSteps" "m_keys" "Lcom/example/ken2/ken2/TupleTable;" (.ref b1023) ∧ Fld Z h b1 "com/example/ken2/ken2/RememberedSteps" "m_steps" "[J" (.ref b3133) ∧ Fld Z h b1 "com/example/ken2/ken2/RememberedSteps" "m_stepCount" "I" (.int (1 : Int32)) ∧ Ary Z h b1004 .int 17 (fun i => .int ((Gs1012_130) i)) ∧ Ary Z h b3133 .long 64 (fun i => .long ((Gs1012_98b q0 q2 q1 q3) i))
abbrev Las1012_0 (b1 : Addr) (b9378 : Addr) (b9384 : Addr) : Array Slot := #[.val (.ref b1), .val (.ref b9378), .val (.ref b9384), .unset, .unset]
abbrev Las1012_1 (b1 : Addr) (b9378 : Addr) (b9384 : Addr) : Array Slot := #[.val (.ref b1), .val (.ref b9378), .val (.ref b9384), .val (.int (0 : Int32)), .unset]
abbrev Las1012_2 (b1 : Addr) (b9378 : Addr) (b9384 : Addr) : Array Slot := #[.val (.ref b1), .val (.ref b9378), .val (.ref b9384), .val (.int (0 : Int32)), .val (.int (0 : Int32))]
abbrev Las1012_3 (b1 : Addr) (b9378 : Addr) (b9384 : Addr) : Array Slot := #[.val (.ref b1), .val (.ref b9378), .val (.ref b9384), .val (.int (0 : Int32)), .val (.int (1 : Int32))]
abbrev Las1012_4 (b1 : Addr) (b9378 : Addr) (b9384 : Addr) : Array Slot := #[.val (.ref b1), .val (.ref b9378), .val (.ref b9384), .val (.int (0 : Int32)), .val (.int (2 : Int32))]
set_option maxRecDepth 65536 in
set_option maxHeartbeats 40000000 in
theorem rm12s10 (l : Launch) (Z : State) (a0 : Array Value) (hw : ∀ d ∈ tables_1, d.before a0 Z = true) (ws : List Jvm.Cond) (q0 : Int64) (q1 : Int64) (q2 : Int64) (q3 : Int64) (b1 : Addr) (b1004 : Addr) (b1023 : Addr) (b3133 : Addr) (b9378 : Addr) (b9384 : Addr) (h0 : Heap) (n0 : Nat) (Z0 : n0 ≤ h0.size) (E_b1 : Exa Z h0 b1 "com/example/ken2/ken2/RememberedSteps") (F_m_firstSteps_b1 : Fld Z h0 b1 "com/example/ken2/ken2/RememberedSteps" "m_firstSteps" "[I" (.ref b1004)) (F_m_width_b1 : Fld Z h0 b1 "com/example/ken2/ken2/RememberedSteps" "m_width" "I" (.int (2 : Int32))) (F_m_keys_b1 : Fld Z h0 b1 "com/example/ken2/ken2/RememberedSteps" "m_keys" "Lcom/example/ken2/ken2/TupleTable;" (.ref b1023)) (F_m_steps_b1 : Fld Z h0 b1 "com/example/ken2/ken2/RememberedSteps" "m_steps" "[J" (.ref b3133)) (F_m_stepCount_b1 : Fld Z h0 b1 "com/example/ken2/ken2/RememberedSteps" "m_stepCount" "I" (.int (0 : Int32))) (g_b1 : n0 ≤ b1) (A_b1004 : Ary Z h0 b1004 .int 17 (fun i => .int ((Gs46_59) i))) (g_b1004 : n0 ≤ b1004) (E_b1023 : Exa Z h0 b1023 "com/example/ken2/ken2/TupleTable") (F_m_size_b1023 : Fld Z h0 b1023 "com/example/ken2/ken2/TupleTable" "m_size" "I" (.int (1 : Int32))) (A_b3133 : Ary Z h0 b3133 .long 64 (fun i => .long ((fun _ => (0 : Int64)) i))) (g_b3133 : n0 ≤ b3133) (A_b9378 : Ary Z h0 b9378 .long 2 (fun i => .long ((G0_36 q0 q1) i))) (A_b9384 : Ary Z h0 b9384 .long 2 (fun i => .long ((G0_51 q2 q3) i))) (ne_b1_b1004 : b1 ≠ b1004) (ne_b1_b1023 : b1 ≠ b1023) (ne_b1_b3133 : b1 ≠ b3133) (ne_b1004_b3133 : b1004 ≠ b3133) (ne_b1023_b3133 : b1023 ≠ b3133) (ne_b3133_b9378 : b3133 ≠ b9378) (ne_b3133_b9384 : b3133 ≠ b9384) :
    MetFree l (⟨"com/example/ken2/ken2/RememberedSteps", "add", "([J[J)V"⟩ : MethodName) (head1 (Jvm.Cond.code (⟨"com/example/ken2/ken2/RememberedSteps", "add", "([J[J)V"⟩ : MethodName) prog_109_method_5_code 5 none :: ws) ({ frames := 1, cells := 0, slots := 0, locals := 13 } : Room)) (fun a U => a = #[(.ref b1), (.ref b9378), (.ref b9384)] ∧ Z.Warmed39 U.vm ∧ U.heap = h0) (fun _ _ _ _ _ => True) (fun _ U o U' => ∃ v L, o = .returned v ∧ (Q12s10 Z q0 q1 q2 q3 b1 b1004 b1023 b3133 b9378 b9384 h0 n0) v U'.heap L ∧ FrameEnd U o U' L ({ frames := 1, cells := 0, slots := 0, locals := 13 } : Room).cells ({ frames := 1, cells := 0, slots := 0, locals := 13 } : Room).slots) :=
  own_met (ret := none) (Q := (Q12s10 Z q0 q1 q2 q3 b1 b1004 b1023 b3133 b9378 b9384 h0 n0)) (plainFor_of_name pn_12) (fun m => ef_12 m b1 b9378 b9384) (fun p e s m below meth c T0 X0 hx hby hml hown hnm hZ e0 => by
  have N0 := Fr.nil n0
  refine OwnFin.step (g' := (mkF m 1 (Las1012_0 b1 b9378 b9384) [(.ref b1)])) X0 (fun t k => XS.aloadN X0.here hx rfl (hb hby d12_0) rfl rfl k) ?_
  obtain ⟨T10418, X10418, e10418, st10418⟩ := getF X0 hx hZ hown (host := "") (Or.inl (hw _ (wm 79 rfl))) Via.refl e0 F_m_stepCount_b1 (g := (mkF m 1 (Las1012_0 b1 b9378 b9384) [(.ref b1)])) rfl rfl (hb hby d12_1)
  refine OwnFin.step (g' := (mkF m 4 (Las1012_0 b1 b9378 b9384) [(.int (0 : Int32))])) X10418 (fun t k => st10418 _ k) ?_
  refine OwnFin.step (g' := (mkF m 5 (Las1012_0 b1 b9378 b9384) [(.int (1 : Int32)), (.int (0 : Int32))])) X10418 (fun t k => XS.iconst X10418.here hx rfl (hb hby d12_4) k) ?_
  refine OwnFin.step (g' := (mkF m 6 (Las1012_0 b1 b9378 b9384) [(.int (1 : Int32))])) X10418 (fun t k => XS.iadd X10418.here hx rfl (hb hby d12_5) rfl k) ?_
  refine OwnFin.step (g' := (mkF m 7 (Las1012_0 b1 b9378 b9384) [(.int (2 : Int32)), (.int (1 : Int32))])) X10418 (fun t k => XS.iconst X10418.here hx rfl (hb hby d12_6) k) ?_
  refine OwnFin.step (g' := (mkF m 8 (Las1012_0 b1 b9378 b9384) [(.int (2 : Int32))])) X10418 (fun t k => XS.imul X10418.here hx rfl (hb hby d12_7) rfl k) ?_
  refine OwnFin.step (g' := (mkF m 9 (Las1012_0 b1 b9378 b9384) [(.ref b1), (.int (2 : Int32))])) X10418 (fun t k => XS.aloadN X10418.here hx rfl (hb hby d12_8) rfl rfl k) ?_
  obtain ⟨T10419, X10419, e10419, st10419⟩ := getF X10418 hx hZ hown (host := "") (Or.inl (hw _ (wm 12 rfl))) Via.refl e10418 F_m_width_b1 (g := (mkF m 9 (Las1012_0 b1 b9378 b9384) [(.ref b1), (.int (2 : Int32))])) rfl rfl (hb hby d12_9)
  refine OwnFin.step (g' := (mkF m 12 (Las1012_0 b1 b9378 b9384) [(.int (2 : Int32)), (.int (2 : Int32))])) X10419 (fun t k => st10419 _ k) ?_
  refine OwnFin.step (g' := (mkF m 13 (Las1012_0 b1 b9378 b9384) [(.int (4 : Int32))])) X10419 (fun t k => XS.imul X10419.here hx rfl (hb hby d12_12) rfl k) ?_
  refine OwnFin.step (g' := (mkF m 14 (Las1012_0 b1 b9378 b9384) [(.ref b1), (.int (4 : Int32))])) X10419 (fun t k => XS.aloadN X10419.here hx rfl (hb hby d12_13) rfl rfl k) ?_
  obtain ⟨T10420, X10420, e10420, st10420⟩ := getF X10419 hx hZ hown (host := "") (Or.inl (hw _ (wm 41 rfl))) Via.refl e10419 F_m_steps_b1 (g := (mkF m 14 (Las1012_0 b1 b9378 b9384) [(.ref b1), (.int (4 : Int32))])) rfl rfl (hb hby d12_14)
  refine OwnFin.step (g' := (mkF m 17 (Las1012_0 b1 b9378 b9384) [(.ref b3133), (.int (4 : Int32))])) X10420 (fun t k => st10420 _ k) ?_
  refine OwnFin.step (g' := (mkF m 18 (Las1012_0 b1 b9378 b9384) [(.int (64 : Int32)), (.int (4 : Int32))])) X10420 (fun t k => own_len X10420 hx hZ e10420 A_b3133 (g := (mkF m 17 (Las1012_0 b1 b9378 b9384) [(.ref b3133), (.int (4 : Int32))])) rfl rfl (hb hby d12_17) _ k) ?_
  refine OwnFin.step (g' := (mkF m 39 (Las1012_0 b1 b9378 b9384) [])) X10420 (fun t k => XS.icmpYes X10420.here hx rfl (pc0 := 18) (pc' := 39) rfl (hb hby d12_18) rfl (flt (show ¬ ((64 : Int32) < (4 : Int32)) by first | decide | exact Int32.lt_irrefl _ | exact Int64.lt_irrefl _)).2.2.2 (by decide) (by decide) k) ?_
  refine OwnFin.step (g' := (mkF m 40 (Las1012_0 b1 b9378 b9384) [(.ref b1)])) X10420 (fun t k => XS.aloadN X10420.here hx rfl (hb hby d12_39) rfl rfl k) ?_
  obtain ⟨T10421, X10421, e10421, st10421⟩ := getF X10420 hx hZ hown (host := "") (Or.inl (hw _ (wm 79 rfl))) Via.refl e10420 F_m_stepCount_b1 (g := (mkF m 40 (Las1012_0 b1 b9378 b9384) [(.ref b1)])) rfl rfl (hb hby d12_40)
  refine OwnFin.step (g' := (mkF m 43 (Las1012_0 b1 b9378 b9384) [(.int (0 : Int32))])) X10421 (fun t k => st10421 _ k) ?_
  refine OwnFin.step (g' := (mkF m 44 (Las1012_0 b1 b9378 b9384) [(.int (2 : Int32)), (.int (0 : Int32))])) X10421 (fun t k => XS.iconst X10421.here hx rfl (hb hby d12_43) k) ?_
  refine OwnFin.step (g' := (mkF m 45 (Las1012_0 b1 b9378 b9384) [(.int (0 : Int32))])) X10421 (fun t k => XS.imul X10421.here hx rfl (hb hby d12_44) rfl k) ?_
  refine OwnFin.step (g' := (mkF m 46 (Las1012_0 b1 b9378 b9384) [(.ref b1), (.int (0 : Int32))])) X10421 (fun t k => XS.aloadN X10421.here hx rfl (hb hby d12_45) rfl rfl k) ?_
  obtain ⟨T10422, X10422, e10422, st10422⟩ := getF X10421 hx hZ hown (host := "") (Or.inl (hw _ (wm 12 rfl))) Via.refl e10421 F_m_width_b1 (g := (mkF m 46 (Las1012_0 b1 b9378 b9384) [(.ref b1), (.int (0 : Int32))])) rfl rfl (hb hby d12_46)
  refine OwnFin.step (g' := (mkF m 49 (Las1012_0 b1 b9378 b9384) [(.int (2 : Int32)), (.int (0 : Int32))])) X10422 (fun t k => st10422 _ k) ?_
  refine OwnFin.step (g' := (mkF m 50 (Las1012_0 b1 b9378 b9384) [(.int (0 : Int32))])) X10422 (fun t k => XS.imul X10422.here hx rfl (hb hby d12_49) rfl k) ?_
  refine OwnFin.step (g' := (mkF m 51 (Las1012_1 b1 b9378 b9384) [])) X10422 (fun t k => XS.istoreN X10422.here hx rfl (hb hby d12_50) rfl (l' := (Las1012_1 b1 b9378 b9384)) rfl k) ?_
  refine OwnFin.step (g' := (mkF m 52 (Las1012_1 b1 b9378 b9384) [(.int (0 : Int32))])) X10422 (fun t k => XS.iconst X10422.here hx rfl (hb hby d12_51) k) ?_
  refine OwnFin.step (g' := (mkF m 54 (Las1012_2 b1 b9378 b9384) [])) X10422 (fun t k => XS.istore X10422.here hx rfl (hb hby d12_52) rfl (l' := (Las1012_2 b1 b9378 b9384)) rfl k) ?_
  refine OwnFin.step (g' := (mkF m 56 (Las1012_2 b1 b9378 b9384) [(.int (0 : Int32))])) X10422 (fun t k => XS.iload X10422.here hx rfl (hb hby d12_54) rfl k) ?_
  refine OwnFin.step (g' := (mkF m 57 (Las1012_2 b1 b9378 b9384) [(.ref b1), (.int (0 : Int32))])) X10422 (fun t k => XS.aloadN X10422.here hx rfl (hb hby d12_56) rfl rfl k) ?_
  obtain ⟨T10423, X10423, e10423, st10423⟩ := getF X10422 hx hZ hown (host := "") (Or.inl (hw _ (wm 12 rfl))) Via.refl e10422 F_m_width_b1 (g := (mkF m 57 (Las1012_2 b1 b9378 b9384) [(.ref b1), (.int (0 : Int32))])) rfl rfl (hb hby d12_57)
  refine OwnFin.step (g' := (mkF m 60 (Las1012_2 b1 b9378 b9384) [(.int (2 : Int32)), (.int (0 : Int32))])) X10423 (fun t k => st10423 _ k) ?_
  refine OwnFin.step (g' := (mkF m 63 (Las1012_2 b1 b9378 b9384) [])) X10423 (fun t k => XS.icmpNo X10423.here hx rfl (hb hby d12_60) rfl (tlt (show (0 : Int32) < (2 : Int32) by first | rfl | decide)).2.1 k) ?_
  refine OwnFin.step (g' := (mkF m 64 (Las1012_2 b1 b9378 b9384) [(.ref b1)])) X10423 (fun t k => XS.aloadN X10423.here hx rfl (hb hby d12_63) rfl rfl k) ?_
  obtain ⟨T10424, X10424, e10424, st10424⟩ := getF X10423 hx hZ hown (host := "") (Or.inl (hw _ (wm 41 rfl))) Via.refl e10423 F_m_steps_b1 (g := (mkF m 64 (Las1012_2 b1 b9378 b9384) [(.ref b1)])) rfl rfl (hb hby d12_64)
  refine OwnFin.step (g' := (mkF m 67 (Las1012_2 b1 b9378 b9384) [(.ref b3133)])) X10424 (fun t k => st10424 _ k) ?_
  refine OwnFin.step (g' := (mkF m 68 (Las1012_2 b1 b9378 b9384) [(.int (0 : Int32)), (.ref b3133)])) X10424 (fun t k => XS.iloadN X10424.here hx rfl (hb hby d12_67) rfl k) ?_
  refine OwnFin.step (g' := (mkF m 70 (Las1012_2 b1 b9378 b9384) [(.int (0 : Int32)), (.int (0 : Int32)), (.ref b3133)])) X10424 (fun t k => XS.iload X10424.here hx rfl (hb hby d12_68) rfl k) ?_
  refine OwnFin.step (g' := (mkF m 71 (Las1012_2 b1 b9378 b9384) [(.int (0 : Int32)), (.ref b3133)])) X10424 (fun t k => XS.iadd X10424.here hx rfl (hb hby d12_70) rfl k) ?_
  refine OwnFin.step (g' := (mkF m 72 (Las1012_2 b1 b9378 b9384) [(.ref b9378), (.int (0 : Int32)), (.ref b3133)])) X10424 (fun t k => XS.aloadN X10424.here hx rfl (hb hby d12_71) rfl rfl k) ?_
  refine OwnFin.step (g' := (mkF m 74 (Las1012_2 b1 b9378 b9384) [(.int (0 : Int32)), (.ref b9378), (.int (0 : Int32)), (.ref b3133)])) X10424 (fun t k => XS.iload X10424.here hx rfl (hb hby d12_72) rfl k) ?_
  refine OwnFin.step (g' := (mkF m 75 (Las1012_2 b1 b9378 b9384) [(.long q0), (.int (0 : Int32)), (.ref b3133)])) X10424 (fun t k => own_ldJ X10424 hx hZ e10424 A_b9378 (by decide) rfl (g := (mkF m 74 (Las1012_2 b1 b9378 b9384) [(.int (0 : Int32)), (.ref b9378), (.int (0 : Int32)), (.ref b3133)])) rfl rfl (hb hby d12_74) _ k) ?_
  obtain ⟨T10425, h10425, L10425, X10425, e10425, N10425, K10425, A10425, st10425⟩ := own_stJ X10424 hx hZ e10424 N0 (G := (fun _ => (0 : Int64))) A_b3133 g_b3133 (j := (0 : Int32)) (x := q0) (by decide) (g := (mkF m 75 (Las1012_2 b1 b9378 b9384) [(.long q0), (.int (0 : Int32)), (.ref b3133)])) rfl rfl (hb hby d12_75)
  have B10425 : Ary Z h10425 b3133 .long 64 (fun i => .long ((Gs1012_75 q0) i)) := A10425
  have Z10425 := Nat.le_trans Z0 K10425.1
  have S10425 := Nat.le_trans (Nat.le_refl h0.size) K10425.1
  refine OwnFin.step (g' := (mkF m 76 (Las1012_2 b1 b9378 b9384) [])) X10425 (fun t k => st10425 _ k) ?_
  refine OwnFin.step (g' := (mkF m 77 (Las1012_2 b1 b9378 b9384) [(.ref b1)])) X10425 (fun t k => XS.aloadN X10425.here hx rfl (hb hby d12_76) rfl rfl k) ?_
  have F10426 := (F_m_steps_b1.keep K10425 (ninS ne_b1_b3133 nin0))
  obtain ⟨T10427, X10427, e10427, st10427⟩ := getF X10425 hx hZ hown (host := "") (Or.inl (hw _ (wm 41 rfl))) Via.refl e10425 F10426 (g := (mkF m 77 (Las1012_2 b1 b9378 b9384) [(.ref b1)])) rfl rfl (hb hby d12_77)
  refine OwnFin.step (g' := (mkF m 80 (Las1012_2 b1 b9378 b9384) [(.ref b3133)])) X10427 (fun t k => st10427 _ k) ?_
  refine OwnFin.step (g' := (mkF m 81 (Las1012_2 b1 b9378 b9384) [(.int (0 : Int32)), (.ref b3133)])) X10427 (fun t k => XS.iloadN X10427.here hx rfl (hb hby d12_80) rfl k) ?_
  refine OwnFin.step (g' := (mkF m 82 (Las1012_2 b1 b9378 b9384) [(.ref b1), (.int (0 : Int32)), (.ref b3133)])) X10427 (fun t k => XS.aloadN X10427.here hx rfl (hb hby d12_81) rfl rfl k) ?_
  have F10428 := (F_m_width_b1.keep K10425 (ninS ne_b1_b3133 nin0))
  obtain ⟨T10429, X10429, e10429, st10429⟩ := getF X10427 hx hZ hown (host := "") (Or.inl (hw _ (wm 12 rfl))) Via.refl e10427 F10428 (g := (mkF m 82 (Las1012_2 b1 b9378 b9384) [(.ref b1), (.int (0 : Int32)), (.ref b3133)])) rfl rfl (hb hby d12_82)
  refine OwnFin.step (g' := (mkF m 85 (Las1012_2 b1 b9378 b9384) [(.int (2 : Int32)), (.int (0 : Int32)), (.ref b3133)])) X10429 (fun t k => st10429 _ k) ?_
  refine OwnFin.step (g' := (mkF m 86 (Las1012_2 b1 b9378 b9384) [(.int (2 : Int32)), (.ref b3133)])) X10429 (fun t k => XS.iadd X10429.here hx rfl (hb hby d12_85) rfl k) ?_
  refine OwnFin.step (g' := (mkF m 88 (Las1012_2 b1 b9378 b9384) [(.int (0 : Int32)), (.int (2 : Int32)), (.ref b3133)])) X10429 (fun t k => XS.iload X10429.here hx rfl (hb hby d12_86) rfl k) ?_
  refine OwnFin.step (g' := (mkF m 89 (Las1012_2 b1 b9378 b9384) [(.int (2 : Int32)), (.ref b3133)])) X10429 (fun t k => XS.iadd X10429.here hx rfl (hb hby d12_88) rfl k) ?_
  refine OwnFin.step (g' := (mkF m 90 (Las1012_2 b1 b9378 b9384) [(.ref b9384), (.int (2 : Int32)), (.ref b3133)])) X10429 (fun t k => XS.aloadN X10429.here hx rfl (hb hby d12_89) rfl rfl k) ?_
  refine OwnFin.step (g' := (mkF m 92 (Las1012_2 b1 b9378 b9384) [(.int (0 : Int32)), (.ref b9384), (.int (2 : Int32)), (.ref b3133)])) X10429 (fun t k => XS.iload X10429.here hx rfl (hb hby d12_90) rfl k) ?_
  have A10430 := (A_b9384.keep K10425 (ninS (Ne.symm ne_b3133_b9384) nin0))
  refine OwnFin.step (g' := (mkF m 93 (Las1012_2 b1 b9378 b9384) [(.long q2), (.int (2 : Int32)), (.ref b3133)])) X10429 (fun t k => own_ldJ X10429 hx hZ e10429 A10430 (by decide) rfl (g := (mkF m 92 (Las1012_2 b1 b9378 b9384) [(.int (0 : Int32)), (.ref b9384), (.int (2 : Int32)), (.ref b3133)])) rfl rfl (hb hby d12_92) _ k) ?_
  refine OwnFin.step (g' := (mkF m 94 (Las1012_2 b1 b9378 b9384) [(.ref b9378), (.long q2), (.int (2 : Int32)), (.ref b3133)])) X10429 (fun t k => XS.aloadN X10429.here hx rfl (hb hby d12_93) rfl rfl k) ?_
  refine OwnFin.step (g' := (mkF m 96 (Las1012_2 b1 b9378 b9384) [(.int (0 : Int32)), (.ref b9378), (.long q2), (.int (2 : Int32)), (.ref b3133)])) X10429 (fun t k => XS.iload X10429.here hx rfl (hb hby d12_94) rfl k) ?_
  have A10431 := (A_b9378.keep K10425 (ninS (Ne.symm ne_b3133_b9378) nin0))
  refine OwnFin.step (g' := (mkF m 97 (Las1012_2 b1 b9378 b9384) [(.long q0), (.long q2), (.int (2 : Int32)), (.ref b3133)])) X10429 (fun t k => own_ldJ X10429 hx hZ e10429 A10431 (by decide) rfl (g := (mkF m 96 (Las1012_2 b1 b9378 b9384) [(.int (0 : Int32)), (.ref b9378), (.long q2), (.int (2 : Int32)), (.ref b3133)])) rfl rfl (hb hby d12_96) _ k) ?_
  refine OwnFin.step (g' := (mkF m 98 (Las1012_2 b1 b9378 b9384) [(.long (q2 &&& q0)), (.int (2 : Int32)), (.ref b3133)])) X10429 (fun t k => XT.land X10429.here hx rfl (hb hby d12_97) rfl k) ?_
  obtain ⟨T10432, h10432, L10432, X10432, e10432, N10432, K10432, A10432, st10432⟩ := own_stJ X10429 hx hZ e10429 N10425 (G := (Gs1012_75 q0)) B10425 g_b3133 (j := (2 : Int32)) (x := (q2 &&& q0)) (by decide) (g := (mkF m 98 (Las1012_2 b1 b9378 b9384) [(.long (q2 &&& q0)), (.int (2 : Int32)), (.ref b3133)])) rfl rfl (hb hby d12_98)
  have B10432 : Ary Z h10432 b3133 .long 64 (fun i => .long ((Gs1012_98 q0 q2) i)) := A10432
  have Z10432 := Nat.le_trans Z10425 K10432.1
  have S10432 := Nat.le_trans S10425 K10432.1
  refine OwnFin.step (g' := (mkF m 99 (Las1012_2 b1 b9378 b9384) [])) X10432 (fun t k => st10432 _ k) ?_
  refine OwnFin.step (g' := (mkF m 102 (Las1012_3 b1 b9378 b9384) [])) X10432 (fun t k => XS.iinc X10432.here hx rfl (hb hby d12_99) rfl (l' := (Las1012_3 b1 b9378 b9384)) rfl k) ?_
  refine OwnFin.step (g' := (mkF m 54 (Las1012_3 b1 b9378 b9384) [])) X10432 (fun t k => XS.goto X10432.here hx rfl (pc0 := 102) (pc' := 54) rfl (hb hby d12_102) (by decide) (by decide) k) ?_
  refine OwnFin.step (g' := (mkF m 56 (Las1012_3 b1 b9378 b9384) [(.int (1 : Int32))])) X10432 (fun t k => XS.iload X10432.here hx rfl (hb hby d12_54) rfl k) ?_
  refine OwnFin.step (g' := (mkF m 57 (Las1012_3 b1 b9378 b9384) [(.ref b1), (.int (1 : Int32))])) X10432 (fun t k => XS.aloadN X10432.here hx rfl (hb hby d12_56) rfl rfl k) ?_
  have F10433 := (F10428.keep K10432 (ninS ne_b1_b3133 nin0))
  obtain ⟨T10434, X10434, e10434, st10434⟩ := getF X10432 hx hZ hown (host := "") (Or.inl (hw _ (wm 12 rfl))) Via.refl e10432 F10433 (g := (mkF m 57 (Las1012_3 b1 b9378 b9384) [(.ref b1), (.int (1 : Int32))])) rfl rfl (hb hby d12_57)
  refine OwnFin.step (g' := (mkF m 60 (Las1012_3 b1 b9378 b9384) [(.int (2 : Int32)), (.int (1 : Int32))])) X10434 (fun t k => st10434 _ k) ?_
  refine OwnFin.step (g' := (mkF m 63 (Las1012_3 b1 b9378 b9384) [])) X10434 (fun t k => XS.icmpNo X10434.here hx rfl (hb hby d12_60) rfl (tlt (show (1 : Int32) < (2 : Int32) by first | rfl | decide)).2.1 k) ?_
  refine OwnFin.step (g' := (mkF m 64 (Las1012_3 b1 b9378 b9384) [(.ref b1)])) X10434 (fun t k => XS.aloadN X10434.here hx rfl (hb hby d12_63) rfl rfl k) ?_
  have F10435 := (F10426.keep K10432 (ninS ne_b1_b3133 nin0))
  obtain ⟨T10436, X10436, e10436, st10436⟩ := getF X10434 hx hZ hown (host := "") (Or.inl (hw _ (wm 41 rfl))) Via.refl e10434 F10435 (g := (mkF m 64 (Las1012_3 b1 b9378 b9384) [(.ref b1)])) rfl rfl (hb hby d12_64)
  refine OwnFin.step (g' := (mkF m 67 (Las1012_3 b1 b9378 b9384) [(.ref b3133)])) X10436 (fun t k => st10436 _ k) ?_
  refine OwnFin.step (g' := (mkF m 68 (Las1012_3 b1 b9378 b9384) [(.int (0 : Int32)), (.ref b3133)])) X10436 (fun t k => XS.iloadN X10436.here hx rfl (hb hby d12_67) rfl k) ?_
  refine OwnFin.step (g' := (mkF m 70 (Las1012_3 b1 b9378 b9384) [(.int (1 : Int32)), (.int (0 : Int32)), (.ref b3133)])) X10436 (fun t k => XS.iload X10436.here hx rfl (hb hby d12_68) rfl k) ?_
  refine OwnFin.step (g' := (mkF m 71 (Las1012_3 b1 b9378 b9384) [(.int (1 : Int32)), (.ref b3133)])) X10436 (fun t k => XS.iadd X10436.here hx rfl (hb hby d12_70) rfl k) ?_
  refine OwnFin.step (g' := (mkF m 72 (Las1012_3 b1 b9378 b9384) [(.ref b9378), (.int (1 : Int32)), (.ref b3133)])) X10436 (fun t k => XS.aloadN X10436.here hx rfl (hb hby d12_71) rfl rfl k) ?_
  refine OwnFin.step (g' := (mkF m 74 (Las1012_3 b1 b9378 b9384) [(.int (1 : Int32)), (.ref b9378), (.int (1 : Int32)), (.ref b3133)])) X10436 (fun t k => XS.iload X10436.here hx rfl (hb hby d12_72) rfl k) ?_
  have A10437 := (A10431.keep K10432 (ninS (Ne.symm ne_b3133_b9378) nin0))
  refine OwnFin.step (g' := (mkF m 75 (Las1012_3 b1 b9378 b9384) [(.long q1), (.int (1 : Int32)), (.ref b3133)])) X10436 (fun t k => own_ldJ X10436 hx hZ e10436 A10437 (by decide) rfl (g := (mkF m 74 (Las1012_3 b1 b9378 b9384) [(.int (1 : Int32)), (.ref b9378), (.int (1 : Int32)), (.ref b3133)])) rfl rfl (hb hby d12_74) _ k) ?_
  obtain ⟨T10438, h10438, L10438, X10438, e10438, N10438, K10438, A10438, st10438⟩ := own_stJ X10436 hx hZ e10436 N10432 (G := (Gs1012_98 q0 q2)) B10432 g_b3133 (j := (1 : Int32)) (x := q1) (by decide) (g := (mkF m 75 (Las1012_3 b1 b9378 b9384) [(.long q1), (.int (1 : Int32)), (.ref b3133)])) rfl rfl (hb hby d12_75)
  have B10438 : Ary Z h10438 b3133 .long 64 (fun i => .long ((Gs1012_75b q0 q2 q1) i)) := A10438
  have Z10438 := Nat.le_trans Z10432 K10438.1
  have S10438 := Nat.le_trans S10432 K10438.1
  refine OwnFin.step (g' := (mkF m 76 (Las1012_3 b1 b9378 b9384) [])) X10438 (fun t k => st10438 _ k) ?_
  refine OwnFin.step (g' := (mkF m 77 (Las1012_3 b1 b9378 b9384) [(.ref b1)])) X10438 (fun t k => XS.aloadN X10438.here hx rfl (hb hby d12_76) rfl rfl k) ?_
  have F10439 := (F10435.keep K10438 (ninS ne_b1_b3133 nin0))
  obtain ⟨T10440, X10440, e10440, st10440⟩ := getF X10438 hx hZ hown (host := "") (Or.inl (hw _ (wm 41 rfl))) Via.refl e10438 F10439 (g := (mkF m 77 (Las1012_3 b1 b9378 b9384) [(.ref b1)])) rfl rfl (hb hby d12_77)
  refine OwnFin.step (g' := (mkF m 80 (Las1012_3 b1 b9378 b9384) [(.ref b3133)])) X10440 (fun t k => st10440 _ k) ?_
  refine OwnFin.step (g' := (mkF m 81 (Las1012_3 b1 b9378 b9384) [(.int (0 : Int32)), (.ref b3133)])) X10440 (fun t k => XS.iloadN X10440.here hx rfl (hb hby d12_80) rfl k) ?_
  refine OwnFin.step (g' := (mkF m 82 (Las1012_3 b1 b9378 b9384) [(.ref b1), (.int (0 : Int32)), (.ref b3133)])) X10440 (fun t k => XS.aloadN X10440.here hx rfl (hb hby d12_81) rfl rfl k) ?_
  have F10441 := (F10433.keep K10438 (ninS ne_b1_b3133 nin0))
  obtain ⟨T10442, X10442, e10442, st10442⟩ := getF X10440 hx hZ hown (host := "") (Or.inl (hw _ (wm 12 rfl))) Via.refl e10440 F10441 (g := (mkF m 82 (Las1012_3 b1 b9378 b9384) [(.ref b1), (.int (0 : Int32)), (.ref b3133)])) rfl rfl (hb hby d12_82)
  refine OwnFin.step (g' := (mkF m 85 (Las1012_3 b1 b9378 b9384) [(.int (2 : Int32)), (.int (0 : Int32)), (.ref b3133)])) X10442 (fun t k => st10442 _ k) ?_
  refine OwnFin.step (g' := (mkF m 86 (Las1012_3 b1 b9378 b9384) [(.int (2 : Int32)), (.ref b3133)])) X10442 (fun t k => XS.iadd X10442.here hx rfl (hb hby d12_85) rfl k) ?_
  refine OwnFin.step (g' := (mkF m 88 (Las1012_3 b1 b9378 b9384) [(.int (1 : Int32)), (.int (2 : Int32)), (.ref b3133)])) X10442 (fun t k => XS.iload X10442.here hx rfl (hb hby d12_86) rfl k) ?_
  refine OwnFin.step (g' := (mkF m 89 (Las1012_3 b1 b9378 b9384) [(.int (3 : Int32)), (.ref b3133)])) X10442 (fun t k => XS.iadd X10442.here hx rfl (hb hby d12_88) rfl k) ?_
  refine OwnFin.step (g' := (mkF m 90 (Las1012_3 b1 b9378 b9384) [(.ref b9384), (.int (3 : Int32)), (.ref b3133)])) X10442 (fun t k => XS.aloadN X10442.here hx rfl (hb hby d12_89) rfl rfl k) ?_
  refine OwnFin.step (g' := (mkF m 92 (Las1012_3 b1 b9378 b9384) [(.int (1 : Int32)), (.ref b9384), (.int (3 : Int32)), (.ref b3133)])) X10442 (fun t k => XS.iload X10442.here hx rfl (hb hby d12_90) rfl k) ?_
  have A10443 := ((A10430.keep K10432 (ninS (Ne.symm ne_b3133_b9384) nin0)).keep K10438 (ninS (Ne.symm ne_b3133_b9384) nin0))
  refine OwnFin.step (g' := (mkF m 93 (Las1012_3 b1 b9378 b9384) [(.long q3), (.int (3 : Int32)), (.ref b3133)])) X10442 (fun t k => own_ldJ X10442 hx hZ e10442 A10443 (by decide) rfl (g := (mkF m 92 (Las1012_3 b1 b9378 b9384) [(.int (1 : Int32)), (.ref b9384), (.int (3 : Int32)), (.ref b3133)])) rfl rfl (hb hby d12_92) _ k) ?_
  refine OwnFin.step (g' := (mkF m 94 (Las1012_3 b1 b9378 b9384) [(.ref b9378), (.long q3), (.int (3 : Int32)), (.ref b3133)])) X10442 (fun t k => XS.aloadN X10442.here hx rfl (hb hby d12_93) rfl rfl k) ?_
  refine OwnFin.step (g' := (mkF m 96 (Las1012_3 b1 b9378 b9384) [(.int (1 : Int32)), (.ref b9378), (.long q3), (.int (3 : Int32)), (.ref b3133)])) X10442 (fun t k => XS.iload X10442.here hx rfl (hb hby d12_94) rfl k) ?_
  have A10444 := (A10437.keep K10438 (ninS (Ne.symm ne_b3133_b9378) nin0))
  refine OwnFin.step (g' := (mkF m 97 (Las1012_3 b1 b9378 b9384) [(.long q1), (.long q3), (.int (3 : Int32)), (.ref b3133)])) X10442 (fun t k => own_ldJ X10442 hx hZ e10442 A10444 (by decide) rfl (g := (mkF m 96 (Las1012_3 b1 b9378 b9384) [(.int (1 : Int32)), (.ref b9378), (.long q3), (.int (3 : Int32)), (.ref b3133)])) rfl rfl (hb hby d12_96) _ k) ?_
  refine OwnFin.step (g' := (mkF m 98 (Las1012_3 b1 b9378 b9384) [(.long (q3 &&& q1)), (.int (3 : Int32)), (.ref b3133)])) X10442 (fun t k => XT.land X10442.here hx rfl (hb hby d12_97) rfl k) ?_
  obtain ⟨T10445, h10445, L10445, X10445, e10445, N10445, K10445, A10445, st10445⟩ := own_stJ X10442 hx hZ e10442 N10438 (G := (Gs1012_75b q0 q2 q1)) B10438 g_b3133 (j := (3 : Int32)) (x := (q3 &&& q1)) (by decide) (g := (mkF m 98 (Las1012_3 b1 b9378 b9384) [(.long (q3 &&& q1)), (.int (3 : Int32)), (.ref b3133)])) rfl rfl (hb hby d12_98)
  have B10445 : Ary Z h10445 b3133 .long 64 (fun i => .long ((Gs1012_98b q0 q2 q1 q3) i)) := A10445
  have Z10445 := Nat.le_trans Z10438 K10445.1
  have S10445 := Nat.le_trans S10438 K10445.1
  refine OwnFin.step (g' := (mkF m 99 (Las1012_3 b1 b9378 b9384) [])) X10445 (fun t k => st10445 _ k) ?_
  refine OwnFin.step (g' := (mkF m 102 (Las1012_4 b1 b9378 b9384) [])) X10445 (fun t k => XS.iinc X10445.here hx rfl (hb hby d12_99) rfl (l' := (Las1012_4 b1 b9378 b9384)) rfl k) ?_
  refine OwnFin.step (g' := (mkF m 54 (Las1012_4 b1 b9378 b9384) [])) X10445 (fun t k => XS.goto X10445.here hx rfl (pc0 := 102) (pc' := 54) rfl (hb hby d12_102) (by decide) (by decide) k) ?_
  refine OwnFin.step (g' := (mkF m 56 (Las1012_4 b1 b9378 b9384) [(.int (2 : Int32))])) X10445 (fun t k => XS.iload X10445.here hx rfl (hb hby d12_54) rfl k) ?_
  refine OwnFin.step (g' := (mkF m 57 (Las1012_4 b1 b9378 b9384) [(.ref b1), (.int (2 : Int32))])) X10445 (fun t k => XS.aloadN X10445.here hx rfl (hb hby d12_56) rfl rfl k) ?_
  have F10446 := (F10441.keep K10445 (ninS ne_b1_b3133 nin0))
  obtain ⟨T10447, X10447, e10447, st10447⟩ := getF X10445 hx hZ hown (host := "") (Or.inl (hw _ (wm 12 rfl))) Via.refl e10445 F10446 (g := (mkF m 57 (Las1012_4 b1 b9378 b9384) [(.ref b1), (.int (2 : Int32))])) rfl rfl (hb hby d12_57)
  refine OwnFin.step (g' := (mkF m 60 (Las1012_4 b1 b9378 b9384) [(.int (2 : Int32)), (.int (2 : Int32))])) X10447 (fun t k => st10447 _ k) ?_
  refine OwnFin.step (g' := (mkF m 105 (Las1012_4 b1 b9378 b9384) [])) X10447 (fun t k => XS.icmpYes X10447.here hx rfl (pc0 := 60) (pc' := 105) rfl (hb hby d12_60) rfl (flt (show ¬ ((2 : Int32) < (2 : Int32)) by first | decide | exact Int32.lt_irrefl _ | exact Int64.lt_irrefl _)).2.1 (by decide) (by decide) k) ?_
  refine OwnFin.step (g' := (mkF m 106 (Las1012_4 b1 b9378 b9384) [(.ref b1)])) X10447 (fun t k => XS.aloadN X10447.here hx rfl (hb hby d12_105) rfl rfl k) ?_
  refine OwnFin.step (g' := (mkF m 107 (Las1012_4 b1 b9378 b9384) [(.ref b1), (.ref b1)])) X10447 (fun t k => XS.dup X10447.here hx rfl (hb hby d12_106) rfl rfl k) ?_
  have F10448 := ((((F_m_stepCount_b1.keep K10425 (ninS ne_b1_b3133 nin0)).keep K10432 (ninS ne_b1_b3133 nin0)).keep K10438 (ninS ne_b1_b3133 nin0)).keep K10445 (ninS ne_b1_b3133 nin0))
  obtain ⟨T10449, X10449, e10449, st10449⟩ := getF X10447 hx hZ hown (host := "") (Or.inl (hw _ (wm 79 rfl))) Via.refl e10447 F10448 (g := (mkF m 107 (Las1012_4 b1 b9378 b9384) [(.ref b1), (.ref b1)])) rfl rfl (hb hby d12_107)
  refine OwnFin.step (g' := (mkF m 110 (Las1012_4 b1 b9378 b9384) [(.int (0 : Int32)), (.ref b1)])) X10449 (fun t k => st10449 _ k) ?_
  refine OwnFin.step (g' := (mkF m 111 (Las1012_4 b1 b9378 b9384) [(.int (1 : Int32)), (.int (0 : Int32)), (.ref b1)])) X10449 (fun t k => XS.iconst X10449.here hx rfl (hb hby d12_110) k) ?_
  refine OwnFin.step (g' := (mkF m 112 (Las1012_4 b1 b9378 b9384) [(.int (1 : Int32)), (.ref b1)])) X10449 (fun t k => XS.iadd X10449.here hx rfl (hb hby d12_111) rfl k) ?_
  have E10450 := (Exa.keep (Exa.keep (Exa.keep (Exa.keep E_b1 K10425) K10432) K10438) K10445)
  have F10451 := ((((F_m_firstSteps_b1.keep K10425 (ninS ne_b1_b3133 nin0)).keep K10432 (ninS ne_b1_b3133 nin0)).keep K10438 (ninS ne_b1_b3133 nin0)).keep K10445 (ninS ne_b1_b3133 nin0))
  have F10452 := ((((F_m_keys_b1.keep K10425 (ninS ne_b1_b3133 nin0)).keep K10432 (ninS ne_b1_b3133 nin0)).keep K10438 (ninS ne_b1_b3133 nin0)).keep K10445 (ninS ne_b1_b3133 nin0))
  have F10453 := (F10439.keep K10445 (ninS ne_b1_b3133 nin0))
  obtain ⟨T10454, h10454, L10454, X10454, e10454, N10454, W10454, F10454, st10454⟩ := own_putF X10449 hx hZ hown (hw _ (wm 79 rfl)) e10449 N10445 F10448 E10450 g_b1 (Or.inl (hw _ (wm 80 rfl))) (hw _ (wm 1 rfl)) (fty := .int) (by decide) rfl rfl (g := (mkF m 112 (Las1012_4 b1 b9378 b9384) [(.int (1 : Int32)), (.ref b1)])) rfl rfl (hb hby d12_112)
  have K10454 := Keep.of_wr W10454
  have Z10454 := Nat.le_trans Z10445 K10454.1
  have S10454 := Nat.le_trans S10445 K10454.1
  have F10455 := Fld.other W10454 F10451 (Or.inr (slot_ne (Or.inl (hw _ (wm 11 rfl))) (Or.inl (hw _ (wm 80 rfl))) (by decide) (t := (.array .int)) (t' := .int) (by decide) (by decide)))
  have F10456 := Fld.other W10454 F10446 (Or.inr (slot_ne (Or.inr (hw _ (wm 13 rfl))) (Or.inl (hw _ (wm 80 rfl))) (by decide) (t := .int) (t' := .int) (by decide) (by decide)))
  have F10457 := Fld.other W10454 F10452 (Or.inr (slot_ne (Or.inr (hw _ (wm 40 rfl))) (Or.inl (hw _ (wm 80 rfl))) (by decide) (t := (.object "com/example/ken2/ken2/TupleTable")) (t' := .int) (by decide) (by decide)))
  have F10458 := Fld.other W10454 F10453 (Or.inr (slot_ne (Or.inl (hw _ (wm 42 rfl))) (Or.inl (hw _ (wm 80 rfl))) (by decide) (t := (.array .long)) (t' := .int) (by decide) (by decide)))
  have E10459 := Exa.wr W10454 E10450
  refine OwnFin.step (g' := (mkF m 115 (Las1012_4 b1 b9378 b9384) [])) X10454 (fun t k => st10454 _ k) ?_
  refine OwnFin.step (g' := (mkF m 116 (Las1012_4 b1 b9378 b9384) [(.ref b1)])) X10454 (fun t k => XS.aloadN X10454.here hx rfl (hb hby d12_115) rfl rfl k) ?_
  obtain ⟨T10460, X10460, e10460, st10460⟩ := getF X10454 hx hZ hown (host := "") (Or.inl (hw _ (wm 10 rfl))) Via.refl e10454 F10455 (g := (mkF m 116 (Las1012_4 b1 b9378 b9384) [(.ref b1)])) rfl rfl (hb hby d12_116)
  refine OwnFin.step (g' := (mkF m 119 (Las1012_4 b1 b9378 b9384) [(.ref b1004)])) X10460 (fun t k => st10460 _ k) ?_
  refine OwnFin.step (g' := (mkF m 120 (Las1012_4 b1 b9378 b9384) [(.ref b1), (.ref b1004)])) X10460 (fun t k => XS.aloadN X10460.here hx rfl (hb hby d12_119) rfl rfl k) ?_
  obtain ⟨T10461, X10461, e10461, st10461⟩ := getF X10460 hx hZ hown (host := "") (Or.inl (hw _ (wm 39 rfl))) Via.refl e10460 F10457 (g := (mkF m 120 (Las1012_4 b1 b9378 b9384) [(.ref b1), (.ref b1004)])) rfl rfl (hb hby d12_120)
  refine OwnFin.step (g' := (mkF m 123 (Las1012_4 b1 b9378 b9384) [(.ref b1023), (.ref b1004)])) X10461 (fun t k => st10461 _ k) ?_
  have F11474 := (((((F_m_size_b1023.keep K10425 (ninS ne_b1023_b3133 nin0)).keep K10432 (ninS ne_b1023_b3133 nin0)).keep K10438 (ninS ne_b1023_b3133 nin0)).keep K10445 (ninS ne_b1023_b3133 nin0)).keep K10454 (ninS (Ne.symm ne_b1_b1023) nin0))
  have E11476 := (Exa.keep (Exa.keep (Exa.keep (Exa.keep (Exa.keep E_b1023 K10425) K10432) K10438) K10445) K10454)
  obtain ⟨_, T10462, L10462, X10462, ⟨rfl, N10462q, u11475⟩, st10462⟩ := own_callV X10461 hx hZ (y := (⟨"com/example/ken2/ken2/TupleTable", "size", "()I"⟩ : MethodName)) (W := 1) (a := b1023) (argsL := []) (rest := [(.ref b1004)]) hown (hw _ (wm 87 rfl)) (hw _ (wm 88 rfl)) (hw _ (wm 90 rfl)) (hw _ (wm 89 rfl)) (hw _ (wm 16 rfl)) (hw _ (wm 91 rfl)) (by decide) E11476 (rm13s11 l Z a0 hw [] b1023 h10454 n0 Z10454 F11474) (by decide) (by decide) (by decide) (by decide) e10461 (g := (mkF m 123 (Las1012_4 b1 b9378 b9384) [(.ref b1023), (.ref b1004)])) rfl (by rw [hml]; rfl) pd_8 rfl rfl (by show 2 * 0 + _ ≤ _; exact Nat.le_of_eq rfl) (hb hby d12_123)
  have N10462 := Fr.app N10454 N10462q
  refine OwnFin.step (g' := (mkF m 126 (Las1012_4 b1 b9378 b9384) [(.int (1 : Int32)), (.ref b1004)])) X10462 (fun t k => st10462 _ k) ?_
  refine OwnFin.step (g' := (mkF m 127 (Las1012_4 b1 b9378 b9384) [(.ref b1), (.int (1 : Int32)), (.ref b1004)])) X10462 (fun t k => XS.aloadN X10462.here hx rfl (hb hby d12_126) rfl rfl k) ?_
  obtain ⟨T11477, X11477, e11477, st11477⟩ := getF X10462 hx hZ hown (host := "") (Or.inl (hw _ (wm 79 rfl))) Via.refl u11475 F10454 (g := (mkF m 127 (Las1012_4 b1 b9378 b9384) [(.ref b1), (.int (1 : Int32)), (.ref b1004)])) rfl rfl (hb hby d12_127)
  refine OwnFin.step (g' := (mkF m 130 (Las1012_4 b1 b9378 b9384) [(.int (1 : Int32)), (.int (1 : Int32)), (.ref b1004)])) X11477 (fun t k => st11477 _ k) ?_
  have A11478 := (((((A_b1004.keep K10425 (ninS ne_b1004_b3133 nin0)).keep K10432 (ninS ne_b1004_b3133 nin0)).keep K10438 (ninS ne_b1004_b3133 nin0)).keep K10445 (ninS ne_b1004_b3133 nin0)).keep K10454 (ninS (Ne.symm ne_b1_b1004) nin0))
  obtain ⟨T11479, h11479, L11479, X11479, e11479, N11479, K11479, A11479, st11479⟩ := own_stI X11477 hx hZ e11477 N10462 (G := (Gs46_59)) A11478 g_b1004 (j := (1 : Int32)) (x := (1 : Int32)) (by decide) (g := (mkF m 130 (Las1012_4 b1 b9378 b9384) [(.int (1 : Int32)), (.int (1 : Int32)), (.ref b1004)])) rfl rfl (hb hby d12_130)
  have B11479 : Ary Z h11479 b1004 .int 17 (fun i => .int ((Gs1012_130) i)) := A11479
  have Z11479 := Nat.le_trans Z10454 K11479.1
  have S11479 := Nat.le_trans S10454 K11479.1
  refine OwnFin.step (g' := (mkF m 131 (Las1012_4 b1 b9378 b9384) [])) X11479 (fun t k => st11479 _ k) ?_
  have E11480 := (Exa.keep E10459 K11479)
  have F11481 := (F10455.keep K11479 (ninS ne_b1_b1004 nin0))
  have F11482 := (F10456.keep K11479 (ninS ne_b1_b1004 nin0))
  have F11483 := (F10457.keep K11479 (ninS ne_b1_b1004 nin0))
  have F11484 := (F10458.keep K11479 (ninS ne_b1_b1004 nin0))
  have F11485 := (F10454.keep K11479 (ninS ne_b1_b1004 nin0))
  have A11486 := ((B10445.keep K10454 (ninS (Ne.symm ne_b1_b3133) nin0)).keep K11479 (ninS (Ne.symm ne_b1004_b3133) nin0))
  refine OwnFin.retVoid X11479 (hb hby d12_131) (by decide) (by decide) ?_
  rw [e11479]
  exact ⟨rfl, N11479, (Keep.trans (Keep.trans (Keep.trans (Keep.trans (Keep.trans (Keep.trans (Keep.refl h0 [b1, b1004, b3133]) K10425 (allS (Or.inl (wm 2 rfl)) all0)) K10432 (allS (Or.inl (wm 2 rfl)) all0)) K10438 (allS (Or.inl (wm 2 rfl)) all0)) K10445 (allS (Or.inl (wm 2 rfl)) all0)) K10454 (allS (Or.inl (wm 0 rfl)) all0)) K11479 (allS (Or.inl (wm 1 rfl)) all0)), E11480, F11481, F11482, F11483, F11484, F11485, B11479, A11486⟩)
def Q11s9 (Z : State) (h0 : Heap) (n0 : Nat) : Option Value → Heap → List Loc → Prop := fun v h L => v = some (.long (1 : Int64)) ∧ Fr n0 L ∧ h = h0
set_option maxRecDepth 65536 in
set_option maxHeartbeats 40000000 in
theorem rm11s9 (l : Launch) (Z : State) (a0 : Array Value) (hw : ∀ d ∈ tables_1, d.before a0 Z = true) (ws : List Jvm.Cond) (h0 : Heap) (n0 : Nat) (Z0 : n0 ≤ h0.size) :
    MetFree l (⟨"com/example/ken2/ken2/TupleTable", "slot", "(II)J"⟩ : MethodName) (head1 (Jvm.Cond.code (⟨"com/example/ken2/ken2/TupleTable", "slot", "(II)J"⟩ : MethodName) prog_120_method_12_code 2 (some .long) :: ws) ({ frames := 0, cells := 0, slots := 0, locals := 0 } : Room)) (fun a U => a = #[(.int (0 : Int32)), (.int (0 : Int32))] ∧ Z.Warmed39 U.vm ∧ U.heap = h0) (fun _ _ _ _ _ => True) (fun _ U o U' => ∃ v L, o = .returned v ∧ (Q11s9 Z h0 n0) v U'.heap L ∧ FrameEnd U o U' L ({ frames := 0, cells := 0, slots := 0, locals := 0 } : Room).cells ({ frames := 0, cells := 0, slots := 0, locals := 0 } : Room).slots) :=
  own_met (ret := (some .long)) (Q := (Q11s9 Z h0 n0)) (plainFor_of_name pn_11) (fun m => ef_11 m (0 : Int32) (0 : Int32)) (fun p e s m below meth c T0 X0 hx hby hml hown hnm hZ e0 => by
  have N0 := Fr.nil n0
  refine OwnFin.step (g' := (mkF m 1 #[.val (.int (0 : Int32)), .val (.int (0 : Int32))] [(.int (0 : Int32))])) X0 (fun t k => XS.iloadN X0.here hx rfl (hb hby d11_0) rfl k) ?_
  refine OwnFin.step (g' := (mkF m 2 #[.val (.int (0 : Int32)), .val (.int (0 : Int32))] [(.long (0 : Int64))])) X0 (fun t k => XT.i2l X0.here hx rfl (hb hby d11_1) rfl k) ?_
  refine OwnFin.step (g' := (mkF m 4 #[.val (.int (0 : Int32)), .val (.int (0 : Int32))] [(.int (32 : Int32)), (.long (0 : Int64))])) X0 (fun t k => XS.bipush X0.here hx rfl (hb hby d11_2) k) ?_
  refine OwnFin.step (g' := (mkF m 5 #[.val (.int (0 : Int32)), .val (.int (0 : Int32))] [(.long (0 : Int64))])) X0 (fun t k => XT.lshl X0.here hx rfl (hb hby d11_4) rfl k) ?_
  refine OwnFin.step (g' := (mkF m 6 #[.val (.int (0 : Int32)), .val (.int (0 : Int32))] [(.int (0 : Int32)), (.long (0 : Int64))])) X0 (fun t k => XS.iloadN X0.here hx rfl (hb hby d11_5) rfl k) ?_
  refine OwnFin.step (g' := (mkF m 7 #[.val (.int (0 : Int32)), .val (.int (0 : Int32))] [(.int (1 : Int32)), (.int (0 : Int32)), (.long (0 : Int64))])) X0 (fun t k => XS.iconst X0.here hx rfl (hb hby d11_6) k) ?_
  refine OwnFin.step (g' := (mkF m 8 #[.val (.int (0 : Int32)), .val (.int (0 : Int32))] [(.int (1 : Int32)), (.long (0 : Int64))])) X0 (fun t k => XS.iadd X0.here hx rfl (hb hby d11_7) rfl k) ?_
  refine OwnFin.step (g' := (mkF m 9 #[.val (.int (0 : Int32)), .val (.int (0 : Int32))] [(.long (1 : Int64)), (.long (0 : Int64))])) X0 (fun t k => XT.i2l X0.here hx rfl (hb hby d11_8) rfl k) ?_
  refine OwnFin.step (g' := (mkF m 10 #[.val (.int (0 : Int32)), .val (.int (0 : Int32))] [(.long (1 : Int64))])) X0 (fun t k => XT.lor X0.here hx rfl (hb hby d11_9) rfl k) ?_
  refine OwnFin.retLong X0 (hb hby d11_10) (by decide) (by decide) ?_
  rw [e0]
  exact ⟨rfl, N0, rfl⟩)
def Q10s8 (Z : State) (b1023 : Addr) (b3055 : Addr) (b3207 : Addr) (h0 : Heap) (n0 : Nat) : Option Value → Heap → List Loc → Prop := fun v h L => v = some (.int (0 : Int32)) ∧ Fr n0 L ∧ h = h0
abbrev Las810_0 (b1023 : Addr) (b3207 : Addr) : Array Slot := #[.val (.ref b1023), .val (.ref b3207), .val (.int (0 : Int32)), .val (.int (0 : Int32)), .unset, .unset, .unset]
abbrev Las810_1 (b1023 : Addr) (b3207 : Addr) : Array Slot := #[.val (.ref b1023), .val (.ref b3207), .val (.int (0 : Int32)), .val (.int (0 : Int32)), .val (.int (31 : Int32)), .unset, .unset]
abbrev Las810_2 (b1023 : Addr) (b3207 : Addr) : Array Slot := #[.val (.ref b1023), .val (.ref b3207), .val (.int (0 : Int32)), .val (.int (0 : Int32)), .val (.int (31 : Int32)), .val (.int (0 : Int32)), .unset]
set_option maxRecDepth 65536 in
set_option maxHeartbeats 40000000 in
theorem rm10s8 (l : Launch) (Z : State) (a0 : Array Value) (hw : ∀ d ∈ tables_1, d.before a0 Z = true) (ws : List Jvm.Cond) (b1023 : Addr) (b3055 : Addr) (b3207 : Addr) (h0 : Heap) (n0 : Nat) (Z0 : n0 ≤ h0.size) (F_m_slots_b1023 : Fld Z h0 b1023 "com/example/ken2/ken2/TupleTable" "m_slots" "[J" (.ref b3055)) (A_b3055 : Ary Z h0 b3055 .long 32 (fun i => .long ((fun _ => (0 : Int64)) i))) :
    MetFree l (⟨"com/example/ken2/ken2/TupleTable", "slotOf", "([JII)I"⟩ : MethodName) (head1 (Jvm.Cond.code (⟨"com/example/ken2/ken2/TupleTable", "slotOf", "([JII)I"⟩ : MethodName) prog_120_method_7_code 7 (some .int) :: ws) ({ frames := 0, cells := 0, slots := 0, locals := 0 } : Room)) (fun a U => a = #[(.ref b1023), (.ref b3207), (.int (0 : Int32)), (.int (0 : Int32))] ∧ Z.Warmed39 U.vm ∧ U.heap = h0) (fun _ _ _ _ _ => True) (fun _ U o U' => ∃ v L, o = .returned v ∧ (Q10s8 Z b1023 b3055 b3207 h0 n0) v U'.heap L ∧ FrameEnd U o U' L ({ frames := 0, cells := 0, slots := 0, locals := 0 } : Room).cells ({ frames := 0, cells := 0, slots := 0, locals := 0 } : Room).slots) :=
  own_met (ret := (some .int)) (Q := (Q10s8 Z b1023 b3055 b3207 h0 n0)) (plainFor_of_name pn_10) (fun m => ef_10 m b1023 b3207 (0 : Int32) (0 : Int32)) (fun p e s m below meth c T0 X0 hx hby hml hown hnm hZ e0 => by
  have N0 := Fr.nil n0
  refine OwnFin.step (g' := (mkF m 1 (Las810_0 b1023 b3207) [(.ref b1023)])) X0 (fun t k => XS.aloadN X0.here hx rfl (hb hby d10_0) rfl rfl k) ?_
  obtain ⟨T8230, X8230, e8230, st8230⟩ := getF X0 hx hZ hown (host := "") (Or.inl (hw _ (wm 37 rfl))) Via.refl e0 F_m_slots_b1023 (g := (mkF m 1 (Las810_0 b1023 b3207) [(.ref b1023)])) rfl rfl (hb hby d10_1)
  refine OwnFin.step (g' := (mkF m 4 (Las810_0 b1023 b3207) [(.ref b3055)])) X8230 (fun t k => st8230 _ k) ?_
  refine OwnFin.step (g' := (mkF m 5 (Las810_0 b1023 b3207) [(.int (32 : Int32))])) X8230 (fun t k => own_len X8230 hx hZ e8230 A_b3055 (g := (mkF m 4 (Las810_0 b1023 b3207) [(.ref b3055)])) rfl rfl (hb hby d10_4) _ k) ?_
  refine OwnFin.step (g' := (mkF m 6 (Las810_0 b1023 b3207) [(.int (1 : Int32)), (.int (32 : Int32))])) X8230 (fun t k => XS.iconst X8230.here hx rfl (hb hby d10_5) k) ?_
  refine OwnFin.step (g' := (mkF m 7 (Las810_0 b1023 b3207) [(.int (31 : Int32))])) X8230 (fun t k => XS.isub X8230.here hx rfl (hb hby d10_6) rfl k) ?_
  refine OwnFin.step (g' := (mkF m 9 (Las810_1 b1023 b3207) [])) X8230 (fun t k => XS.istore X8230.here hx rfl (hb hby d10_7) rfl (l' := (Las810_1 b1023 b3207)) rfl k) ?_
  refine OwnFin.step (g' := (mkF m 10 (Las810_1 b1023 b3207) [(.int (0 : Int32))])) X8230 (fun t k => XS.iloadN X8230.here hx rfl (hb hby d10_9) rfl k) ?_
  refine OwnFin.step (g' := (mkF m 12 (Las810_1 b1023 b3207) [(.int (31 : Int32)), (.int (0 : Int32))])) X8230 (fun t k => XS.iload X8230.here hx rfl (hb hby d10_10) rfl k) ?_
  refine OwnFin.step (g' := (mkF m 13 (Las810_1 b1023 b3207) [(.int (0 : Int32))])) X8230 (fun t k => XS.iand X8230.here hx rfl (hb hby d10_12) rfl k) ?_
  refine OwnFin.step (g' := (mkF m 15 (Las810_2 b1023 b3207) [])) X8230 (fun t k => XS.istore X8230.here hx rfl (hb hby d10_13) rfl (l' := (Las810_2 b1023 b3207)) rfl k) ?_
  refine OwnFin.step (g' := (mkF m 16 (Las810_2 b1023 b3207) [(.ref b1023)])) X8230 (fun t k => XS.aloadN X8230.here hx rfl (hb hby d10_15) rfl rfl k) ?_
  obtain ⟨T8231, X8231, e8231, st8231⟩ := getF X8230 hx hZ hown (host := "") (Or.inl (hw _ (wm 37 rfl))) Via.refl e8230 F_m_slots_b1023 (g := (mkF m 16 (Las810_2 b1023 b3207) [(.ref b1023)])) rfl rfl (hb hby d10_16)
  refine OwnFin.step (g' := (mkF m 19 (Las810_2 b1023 b3207) [(.ref b3055)])) X8231 (fun t k => st8231 _ k) ?_
  refine OwnFin.step (g' := (mkF m 21 (Las810_2 b1023 b3207) [(.int (0 : Int32)), (.ref b3055)])) X8231 (fun t k => XS.iload X8231.here hx rfl (hb hby d10_19) rfl k) ?_
  refine OwnFin.step (g' := (mkF m 22 (Las810_2 b1023 b3207) [(.long (0 : Int64))])) X8231 (fun t k => own_ldJ X8231 hx hZ e8231 A_b3055 (by decide) rfl (g := (mkF m 21 (Las810_2 b1023 b3207) [(.int (0 : Int32)), (.ref b3055)])) rfl rfl (hb hby d10_21) _ k) ?_
  refine OwnFin.step (g' := (mkF m 23 (Las810_2 b1023 b3207) [(.long (0 : Int64)), (.long (0 : Int64))])) X8231 (fun t k => XT.lconst X8231.here hx rfl (hb hby d10_22) k) ?_
  refine OwnFin.step (g' := (mkF m 24 (Las810_2 b1023 b3207) [(.int (XT.cmpL (0 : Int64) (0 : Int64)))])) X8231 (fun t k => XT.lcmp X8231.here hx rfl (hb hby d10_23) rfl k) ?_
  refine OwnFin.step (g' := (mkF m 80 (Las810_2 b1023 b3207) [])) X8231 (fun t k => XS.ifYes X8231.here hx rfl (pc0 := 24) (pc' := 80) rfl (hb hby d10_24) rfl ((if0 _ _).trans (teq ((cl_eq _ _).mpr (show (0 : Int64) = (0 : Int64) by first | rfl | decide))).1) (by decide) (by decide) k) ?_
  refine OwnFin.step (g' := (mkF m 82 (Las810_2 b1023 b3207) [(.int (0 : Int32))])) X8231 (fun t k => XS.iload X8231.here hx rfl (hb hby d10_80) rfl k) ?_
  refine OwnFin.retInt X8231 (hb hby d10_82) (by decide) (by decide) ?_
  rw [e8231]
  exact ⟨rfl, N0, rfl⟩)
def Q9s7 (Z : State) (b1023 : Addr) (b3207 : Addr) (h0 : Heap) (n0 : Nat) : Option Value → Heap → List Loc → Prop := fun v h L => v = some (.int (0 : Int32)) ∧ Fr n0 L ∧ h = h0
abbrev Las79_0 (b1023 : Addr) (b3207 : Addr) : Array Slot := #[.val (.ref b1023), .val (.ref b3207), .val (.int (0 : Int32)), .unset, .unset, .unset]
abbrev Las79_1 (b1023 : Addr) (b3207 : Addr) : Array Slot := #[.val (.ref b1023), .val (.ref b3207), .val (.int (0 : Int32)), .val (.long (0 : Int64)), .second, .unset]
abbrev Las79_2 (b1023 : Addr) (b3207 : Addr) : Array Slot := #[.val (.ref b1023), .val (.ref b3207), .val (.int (0 : Int32)), .val (.long (0 : Int64)), .second, .val (.int (0 : Int32))]
abbrev Las79_3 (b1023 : Addr) (b3207 : Addr) : Array Slot := #[.val (.ref b1023), .val (.ref b3207), .val (.int (0 : Int32)), .val (.long (0 : Int64)), .second, .val (.int (1 : Int32))]
abbrev Las79_4 (b1023 : Addr) (b3207 : Addr) : Array Slot := #[.val (.ref b1023), .val (.ref b3207), .val (.int (0 : Int32)), .val (.long (0 : Int64)), .second, .val (.int (2 : Int32))]
set_option maxRecDepth 65536 in
set_option maxHeartbeats 40000000 in
theorem rm9s7 (l : Launch) (Z : State) (a0 : Array Value) (hw : ∀ d ∈ tables_1, d.before a0 Z = true) (ws : List Jvm.Cond) (b1023 : Addr) (b3207 : Addr) (h0 : Heap) (n0 : Nat) (Z0 : n0 ≤ h0.size) (F_m_width_b1023 : Fld Z h0 b1023 "com/example/ken2/ken2/TupleTable" "m_width" "I" (.int (2 : Int32))) (A_b3207 : Ary Z h0 b3207 .long 2 (fun i => .long ((G0_22) i))) :
    MetFree l (⟨"com/example/ken2/ken2/TupleTable", "hash", "([JI)I"⟩ : MethodName) (head1 (Jvm.Cond.code (⟨"com/example/ken2/ken2/TupleTable", "hash", "([JI)I"⟩ : MethodName) prog_120_method_11_code 6 (some .int) :: ws) ({ frames := 0, cells := 0, slots := 0, locals := 0 } : Room)) (fun a U => a = #[(.ref b1023), (.ref b3207), (.int (0 : Int32))] ∧ Z.Warmed39 U.vm ∧ U.heap = h0) (fun _ _ _ _ _ => True) (fun _ U o U' => ∃ v L, o = .returned v ∧ (Q9s7 Z b1023 b3207 h0 n0) v U'.heap L ∧ FrameEnd U o U' L ({ frames := 0, cells := 0, slots := 0, locals := 0 } : Room).cells ({ frames := 0, cells := 0, slots := 0, locals := 0 } : Room).slots) :=
  own_met (ret := (some .int)) (Q := (Q9s7 Z b1023 b3207 h0 n0)) (plainFor_of_name pn_9) (fun m => ef_9 m b1023 b3207 (0 : Int32)) (fun p e s m below meth c T0 X0 hx hby hml hown hnm hZ e0 => by
  have N0 := Fr.nil n0
  refine OwnFin.step (g' := (mkF m 1 (Las79_0 b1023 b3207) [(.long (0 : Int64))])) X0 (fun t k => XT.lconst X0.here hx rfl (hb hby d9_0) k) ?_
  refine OwnFin.step (g' := (mkF m 2 (Las79_1 b1023 b3207) [])) X0 (fun t k => XT.lstoreN X0.here hx rfl (hb hby d9_1) rfl (l' := (Las79_1 b1023 b3207)) rfl k) ?_
  refine OwnFin.step (g' := (mkF m 3 (Las79_1 b1023 b3207) [(.int (0 : Int32))])) X0 (fun t k => XS.iloadN X0.here hx rfl (hb hby d9_2) rfl k) ?_
  refine OwnFin.step (g' := (mkF m 5 (Las79_2 b1023 b3207) [])) X0 (fun t k => XS.istore X0.here hx rfl (hb hby d9_3) rfl (l' := (Las79_2 b1023 b3207)) rfl k) ?_
  refine OwnFin.step (g' := (mkF m 7 (Las79_2 b1023 b3207) [(.int (0 : Int32))])) X0 (fun t k => XS.iload X0.here hx rfl (hb hby d9_5) rfl k) ?_
  refine OwnFin.step (g' := (mkF m 8 (Las79_2 b1023 b3207) [(.int (0 : Int32)), (.int (0 : Int32))])) X0 (fun t k => XS.iloadN X0.here hx rfl (hb hby d9_7) rfl k) ?_
  refine OwnFin.step (g' := (mkF m 9 (Las79_2 b1023 b3207) [(.ref b1023), (.int (0 : Int32)), (.int (0 : Int32))])) X0 (fun t k => XS.aloadN X0.here hx rfl (hb hby d9_8) rfl rfl k) ?_
  obtain ⟨T7215, X7215, e7215, st7215⟩ := getF X0 hx hZ hown (host := "") (Or.inl (hw _ (wm 25 rfl))) Via.refl e0 F_m_width_b1023 (g := (mkF m 9 (Las79_2 b1023 b3207) [(.ref b1023), (.int (0 : Int32)), (.int (0 : Int32))])) rfl rfl (hb hby d9_9)
  refine OwnFin.step (g' := (mkF m 12 (Las79_2 b1023 b3207) [(.int (2 : Int32)), (.int (0 : Int32)), (.int (0 : Int32))])) X7215 (fun t k => st7215 _ k) ?_
  refine OwnFin.step (g' := (mkF m 13 (Las79_2 b1023 b3207) [(.int (2 : Int32)), (.int (0 : Int32))])) X7215 (fun t k => XS.iadd X7215.here hx rfl (hb hby d9_12) rfl k) ?_
  refine OwnFin.step (g' := (mkF m 16 (Las79_2 b1023 b3207) [])) X7215 (fun t k => XS.icmpNo X7215.here hx rfl (hb hby d9_13) rfl (tlt (show (0 : Int32) < (2 : Int32) by first | rfl | decide)).2.1 k) ?_
  refine OwnFin.step (g' := (mkF m 17 (Las79_2 b1023 b3207) [(.long (0 : Int64))])) X7215 (fun t k => XT.lloadN X7215.here hx rfl (hb hby d9_16) rfl k) ?_
  refine OwnFin.step (g' := (mkF m 18 (Las79_2 b1023 b3207) [(.ref b3207), (.long (0 : Int64))])) X7215 (fun t k => XS.aloadN X7215.here hx rfl (hb hby d9_17) rfl rfl k) ?_
  refine OwnFin.step (g' := (mkF m 20 (Las79_2 b1023 b3207) [(.int (0 : Int32)), (.ref b3207), (.long (0 : Int64))])) X7215 (fun t k => XS.iload X7215.here hx rfl (hb hby d9_18) rfl k) ?_
  refine OwnFin.step (g' := (mkF m 21 (Las79_2 b1023 b3207) [(.long (0 : Int64)), (.long (0 : Int64))])) X7215 (fun t k => own_ldJ X7215 hx hZ e7215 A_b3207 (by decide) rfl (g := (mkF m 20 (Las79_2 b1023 b3207) [(.int (0 : Int32)), (.ref b3207), (.long (0 : Int64))])) rfl rfl (hb hby d9_20) _ k) ?_
  refine OwnFin.step (g' := (mkF m 22 (Las79_2 b1023 b3207) [(.long (0 : Int64))])) X7215 (fun t k => XT.lxor X7215.here hx rfl (hb hby d9_21) rfl k) ?_
  refine OwnFin.step (g' := (mkF m 25 (Las79_2 b1023 b3207) [(.long (-7046029254386353131 : Int64)), (.long (0 : Int64))])) X7215 (fun t k => X7215.ldc2Long hx hown (mvT hZ (hw _ (wm 62 rfl))) (g := (mkF m 22 (Las79_2 b1023 b3207) [(.long (0 : Int64))])) rfl (hb hby d9_22) _ k) ?_
  refine OwnFin.step (g' := (mkF m 26 (Las79_2 b1023 b3207) [(.long (0 : Int64))])) X7215 (fun t k => XT.lmul X7215.here hx rfl (hb hby d9_25) rfl k) ?_
  refine OwnFin.step (g' := (mkF m 27 (Las79_2 b1023 b3207) [])) X7215 (fun t k => XT.lstoreN X7215.here hx rfl (hb hby d9_26) rfl (l' := (Las79_2 b1023 b3207)) rfl k) ?_
  refine OwnFin.step (g' := (mkF m 28 (Las79_2 b1023 b3207) [(.long (0 : Int64))])) X7215 (fun t k => XT.lloadN X7215.here hx rfl (hb hby d9_27) rfl k) ?_
  refine OwnFin.step (g' := (mkF m 29 (Las79_2 b1023 b3207) [(.long (0 : Int64)), (.long (0 : Int64))])) X7215 (fun t k => XT.lloadN X7215.here hx rfl (hb hby d9_28) rfl k) ?_
  refine OwnFin.step (g' := (mkF m 31 (Las79_2 b1023 b3207) [(.int (32 : Int32)), (.long (0 : Int64)), (.long (0 : Int64))])) X7215 (fun t k => XS.bipush X7215.here hx rfl (hb hby d9_29) k) ?_
  refine OwnFin.step (g' := (mkF m 32 (Las79_2 b1023 b3207) [(.long (0 : Int64)), (.long (0 : Int64))])) X7215 (fun t k => XT.lushr X7215.here hx rfl (hb hby d9_31) rfl k) ?_
  refine OwnFin.step (g' := (mkF m 33 (Las79_2 b1023 b3207) [(.long (0 : Int64))])) X7215 (fun t k => XT.lxor X7215.here hx rfl (hb hby d9_32) rfl k) ?_
  refine OwnFin.step (g' := (mkF m 34 (Las79_2 b1023 b3207) [])) X7215 (fun t k => XT.lstoreN X7215.here hx rfl (hb hby d9_33) rfl (l' := (Las79_2 b1023 b3207)) rfl k) ?_
  refine OwnFin.step (g' := (mkF m 37 (Las79_3 b1023 b3207) [])) X7215 (fun t k => XS.iinc X7215.here hx rfl (hb hby d9_34) rfl (l' := (Las79_3 b1023 b3207)) rfl k) ?_
  refine OwnFin.step (g' := (mkF m 5 (Las79_3 b1023 b3207) [])) X7215 (fun t k => XS.goto X7215.here hx rfl (pc0 := 37) (pc' := 5) rfl (hb hby d9_37) (by decide) (by decide) k) ?_
  refine OwnFin.step (g' := (mkF m 7 (Las79_3 b1023 b3207) [(.int (1 : Int32))])) X7215 (fun t k => XS.iload X7215.here hx rfl (hb hby d9_5) rfl k) ?_
  refine OwnFin.step (g' := (mkF m 8 (Las79_3 b1023 b3207) [(.int (0 : Int32)), (.int (1 : Int32))])) X7215 (fun t k => XS.iloadN X7215.here hx rfl (hb hby d9_7) rfl k) ?_
  refine OwnFin.step (g' := (mkF m 9 (Las79_3 b1023 b3207) [(.ref b1023), (.int (0 : Int32)), (.int (1 : Int32))])) X7215 (fun t k => XS.aloadN X7215.here hx rfl (hb hby d9_8) rfl rfl k) ?_
  obtain ⟨T7216, X7216, e7216, st7216⟩ := getF X7215 hx hZ hown (host := "") (Or.inl (hw _ (wm 25 rfl))) Via.refl e7215 F_m_width_b1023 (g := (mkF m 9 (Las79_3 b1023 b3207) [(.ref b1023), (.int (0 : Int32)), (.int (1 : Int32))])) rfl rfl (hb hby d9_9)
  refine OwnFin.step (g' := (mkF m 12 (Las79_3 b1023 b3207) [(.int (2 : Int32)), (.int (0 : Int32)), (.int (1 : Int32))])) X7216 (fun t k => st7216 _ k) ?_
  refine OwnFin.step (g' := (mkF m 13 (Las79_3 b1023 b3207) [(.int (2 : Int32)), (.int (1 : Int32))])) X7216 (fun t k => XS.iadd X7216.here hx rfl (hb hby d9_12) rfl k) ?_
  refine OwnFin.step (g' := (mkF m 16 (Las79_3 b1023 b3207) [])) X7216 (fun t k => XS.icmpNo X7216.here hx rfl (hb hby d9_13) rfl (tlt (show (1 : Int32) < (2 : Int32) by first | rfl | decide)).2.1 k) ?_
  refine OwnFin.step (g' := (mkF m 17 (Las79_3 b1023 b3207) [(.long (0 : Int64))])) X7216 (fun t k => XT.lloadN X7216.here hx rfl (hb hby d9_16) rfl k) ?_
  refine OwnFin.step (g' := (mkF m 18 (Las79_3 b1023 b3207) [(.ref b3207), (.long (0 : Int64))])) X7216 (fun t k => XS.aloadN X7216.here hx rfl (hb hby d9_17) rfl rfl k) ?_
  refine OwnFin.step (g' := (mkF m 20 (Las79_3 b1023 b3207) [(.int (1 : Int32)), (.ref b3207), (.long (0 : Int64))])) X7216 (fun t k => XS.iload X7216.here hx rfl (hb hby d9_18) rfl k) ?_
  refine OwnFin.step (g' := (mkF m 21 (Las79_3 b1023 b3207) [(.long (0 : Int64)), (.long (0 : Int64))])) X7216 (fun t k => own_ldJ X7216 hx hZ e7216 A_b3207 (by decide) rfl (g := (mkF m 20 (Las79_3 b1023 b3207) [(.int (1 : Int32)), (.ref b3207), (.long (0 : Int64))])) rfl rfl (hb hby d9_20) _ k) ?_
  refine OwnFin.step (g' := (mkF m 22 (Las79_3 b1023 b3207) [(.long (0 : Int64))])) X7216 (fun t k => XT.lxor X7216.here hx rfl (hb hby d9_21) rfl k) ?_
  refine OwnFin.step (g' := (mkF m 25 (Las79_3 b1023 b3207) [(.long (-7046029254386353131 : Int64)), (.long (0 : Int64))])) X7216 (fun t k => X7216.ldc2Long hx hown (mvT hZ (hw _ (wm 62 rfl))) (g := (mkF m 22 (Las79_3 b1023 b3207) [(.long (0 : Int64))])) rfl (hb hby d9_22) _ k) ?_
  refine OwnFin.step (g' := (mkF m 26 (Las79_3 b1023 b3207) [(.long (0 : Int64))])) X7216 (fun t k => XT.lmul X7216.here hx rfl (hb hby d9_25) rfl k) ?_
  refine OwnFin.step (g' := (mkF m 27 (Las79_3 b1023 b3207) [])) X7216 (fun t k => XT.lstoreN X7216.here hx rfl (hb hby d9_26) rfl (l' := (Las79_3 b1023 b3207)) rfl k) ?_
  refine OwnFin.step (g' := (mkF m 28 (Las79_3 b1023 b3207) [(.long (0 : Int64))])) X7216 (fun t k => XT.lloadN X7216.here hx rfl (hb hby d9_27) rfl k) ?_
  refine OwnFin.step (g' := (mkF m 29 (Las79_3 b1023 b3207) [(.long (0 : Int64)), (.long (0 : Int64))])) X7216 (fun t k => XT.lloadN X7216.here hx rfl (hb hby d9_28) rfl k) ?_
  refine OwnFin.step (g' := (mkF m 31 (Las79_3 b1023 b3207) [(.int (32 : Int32)), (.long (0 : Int64)), (.long (0 : Int64))])) X7216 (fun t k => XS.bipush X7216.here hx rfl (hb hby d9_29) k) ?_
  refine OwnFin.step (g' := (mkF m 32 (Las79_3 b1023 b3207) [(.long (0 : Int64)), (.long (0 : Int64))])) X7216 (fun t k => XT.lushr X7216.here hx rfl (hb hby d9_31) rfl k) ?_
  refine OwnFin.step (g' := (mkF m 33 (Las79_3 b1023 b3207) [(.long (0 : Int64))])) X7216 (fun t k => XT.lxor X7216.here hx rfl (hb hby d9_32) rfl k) ?_
  refine OwnFin.step (g' := (mkF m 34 (Las79_3 b1023 b3207) [])) X7216 (fun t k => XT.lstoreN X7216.here hx rfl (hb hby d9_33) rfl (l' := (Las79_3 b1023 b3207)) rfl k) ?_
  refine OwnFin.step (g' := (mkF m 37 (Las79_4 b1023 b3207) [])) X7216 (fun t k => XS.iinc X7216.here hx rfl (hb hby d9_34) rfl (l' := (Las79_4 b1023 b3207)) rfl k) ?_
  refine OwnFin.step (g' := (mkF m 5 (Las79_4 b1023 b3207) [])) X7216 (fun t k => XS.goto X7216.here hx rfl (pc0 := 37) (pc' := 5) rfl (hb hby d9_37) (by decide) (by decide) k) ?_
  refine OwnFin.step (g' := (mkF m 7 (Las79_4 b1023 b3207) [(.int (2 : Int32))])) X7216 (fun t k => XS.iload X7216.here hx rfl (hb hby d9_5) rfl k) ?_
  refine OwnFin.step (g' := (mkF m 8 (Las79_4 b1023 b3207) [(.int (0 : Int32)), (.int (2 : Int32))])) X7216 (fun t k => XS.iloadN X7216.here hx rfl (hb hby d9_7) rfl k) ?_
  refine OwnFin.step (g' := (mkF m 9 (Las79_4 b1023 b3207) [(.ref b1023), (.int (0 : Int32)), (.int (2 : Int32))])) X7216 (fun t k => XS.aloadN X7216.here hx rfl (hb hby d9_8) rfl rfl k) ?_
  obtain ⟨T7217, X7217, e7217, st7217⟩ := getF X7216 hx hZ hown (host := "") (Or.inl (hw _ (wm 25 rfl))) Via.refl e7216 F_m_width_b1023 (g := (mkF m 9 (Las79_4 b1023 b3207) [(.ref b1023), (.int (0 : Int32)), (.int (2 : Int32))])) rfl rfl (hb hby d9_9)
  refine OwnFin.step (g' := (mkF m 12 (Las79_4 b1023 b3207) [(.int (2 : Int32)), (.int (0 : Int32)), (.int (2 : Int32))])) X7217 (fun t k => st7217 _ k) ?_
  refine OwnFin.step (g' := (mkF m 13 (Las79_4 b1023 b3207) [(.int (2 : Int32)), (.int (2 : Int32))])) X7217 (fun t k => XS.iadd X7217.here hx rfl (hb hby d9_12) rfl k) ?_
  refine OwnFin.step (g' := (mkF m 40 (Las79_4 b1023 b3207) [])) X7217 (fun t k => XS.icmpYes X7217.here hx rfl (pc0 := 13) (pc' := 40) rfl (hb hby d9_13) rfl (flt (show ¬ ((2 : Int32) < (2 : Int32)) by first | decide | exact Int32.lt_irrefl _ | exact Int64.lt_irrefl _)).2.1 (by decide) (by decide) k) ?_
  refine OwnFin.step (g' := (mkF m 41 (Las79_4 b1023 b3207) [(.long (0 : Int64))])) X7217 (fun t k => XT.lloadN X7217.here hx rfl (hb hby d9_40) rfl k) ?_
  refine OwnFin.step (g' := (mkF m 44 (Las79_4 b1023 b3207) [(.long (-2960836687051489901 : Int64)), (.long (0 : Int64))])) X7217 (fun t k => X7217.ldc2Long hx hown (mvT hZ (hw _ (wm 63 rfl))) (g := (mkF m 41 (Las79_4 b1023 b3207) [(.long (0 : Int64))])) rfl (hb hby d9_41) _ k) ?_
  refine OwnFin.step (g' := (mkF m 45 (Las79_4 b1023 b3207) [(.long (0 : Int64))])) X7217 (fun t k => XT.lmul X7217.here hx rfl (hb hby d9_44) rfl k) ?_
  refine OwnFin.step (g' := (mkF m 46 (Las79_4 b1023 b3207) [])) X7217 (fun t k => XT.lstoreN X7217.here hx rfl (hb hby d9_45) rfl (l' := (Las79_4 b1023 b3207)) rfl k) ?_
  refine OwnFin.step (g' := (mkF m 47 (Las79_4 b1023 b3207) [(.long (0 : Int64))])) X7217 (fun t k => XT.lloadN X7217.here hx rfl (hb hby d9_46) rfl k) ?_
  refine OwnFin.step (g' := (mkF m 48 (Las79_4 b1023 b3207) [(.long (0 : Int64)), (.long (0 : Int64))])) X7217 (fun t k => XT.lloadN X7217.here hx rfl (hb hby d9_47) rfl k) ?_
  refine OwnFin.step (g' := (mkF m 50 (Las79_4 b1023 b3207) [(.int (32 : Int32)), (.long (0 : Int64)), (.long (0 : Int64))])) X7217 (fun t k => XS.bipush X7217.here hx rfl (hb hby d9_48) k) ?_
  refine OwnFin.step (g' := (mkF m 51 (Las79_4 b1023 b3207) [(.long (0 : Int64)), (.long (0 : Int64))])) X7217 (fun t k => XT.lushr X7217.here hx rfl (hb hby d9_50) rfl k) ?_
  refine OwnFin.step (g' := (mkF m 52 (Las79_4 b1023 b3207) [(.long (0 : Int64))])) X7217 (fun t k => XT.lxor X7217.here hx rfl (hb hby d9_51) rfl k) ?_
  refine OwnFin.step (g' := (mkF m 53 (Las79_4 b1023 b3207) [(.int (0 : Int32))])) X7217 (fun t k => XT.l2i X7217.here hx rfl (hb hby d9_52) rfl k) ?_
  refine OwnFin.retInt X7217 (hb hby d9_53) (by decide) (by decide) ?_
  rw [e7217]
  exact ⟨rfl, N0, rfl⟩)
def Q8s6 (Z : State) (b1023 : Addr) (b3042 : Addr) (b3055 : Addr) (b3207 : Addr) (h0 : Heap) (n0 : Nat) : Option Value → Heap → List Loc → Prop := fun v h L => v = some (.int (0 : Int32)) ∧ Fr n0 L ∧ Keep h0 h [b1023, b3042, b3055] ∧ Exa Z h b1023 "com/example/ken2/ken2/TupleTable" ∧ Fld Z h b1023 "com/example/ken2/ken2/TupleTable" "m_width" "I" (.int (2 : Int32)) ∧ Fld Z h b1023 "com/example/ken2/ken2/TupleTable" "m_capacity" "I" (.int (536870912 : Int32)) ∧ Fld Z h b1023 "com/example/ken2/ken2/TupleTable" "m_tuples" "[J" (.ref b3042) ∧ Fld Z h b1023 "com/example/ken2/ken2/TupleTable" "m_slots" "[J" (.ref b3055) ∧ Fld Z h b1023 "com/example/ken2/ken2/TupleTable" "m_size" "I" (.int (1 : Int32)) ∧ Ary Z h b3042 .long 32 (fun i => .long ((Gs68_149) i)) ∧ Ary Z h b3055 .long 32 (fun i => .long ((Gs68_164) i))
abbrev Las68_0 (b1023 : Addr) (b3207 : Addr) : Array Slot := #[.val (.ref b1023), .val (.ref b3207), .val (.int (0 : Int32)), .unset, .unset, .unset]
abbrev Las68_1 (b1023 : Addr) (b3207 : Addr) : Array Slot := #[.val (.ref b1023), .val (.ref b3207), .val (.int (0 : Int32)), .val (.int (0 : Int32)), .unset, .unset]
abbrev Las68_2 (b1023 : Addr) (b3207 : Addr) : Array Slot := #[.val (.ref b1023), .val (.ref b3207), .val (.int (0 : Int32)), .val (.int (0 : Int32)), .val (.int (0 : Int32)), .unset]
abbrev Las68_3 (b1023 : Addr) (b3207 : Addr) : Array Slot := #[.val (.ref b1023), .val (.ref b3207), .val (.int (0 : Int32)), .val (.int (0 : Int32)), .val (.int (0 : Int32)), .val (.int (0 : Int32))]
set_option maxRecDepth 65536 in
set_option maxHeartbeats 40000000 in
theorem rm8s6 (l : Launch) (Z : State) (a0 : Array Value) (hw : ∀ d ∈ tables_1, d.before a0 Z = true) (ws : List Jvm.Cond) (b1023 : Addr) (b3042 : Addr) (b3055 : Addr) (b3207 : Addr) (h0 : Heap) (n0 : Nat) (Z0 : n0 ≤ h0.size) (E_b1023 : Exa Z h0 b1023 "com/example/ken2/ken2/TupleTable") (F_m_width_b1023 : Fld Z h0 b1023 "com/example/ken2/ken2/TupleTable" "m_width" "I" (.int (2 : Int32))) (F_m_capacity_b1023 : Fld Z h0 b1023 "com/example/ken2/ken2/TupleTable" "m_capacity" "I" (.int (536870912 : Int32))) (F_m_tuples_b1023 : Fld Z h0 b1023 "com/example/ken2/ken2/TupleTable" "m_tuples" "[J" (.ref b3042)) (F_m_slots_b1023 : Fld Z h0 b1023 "com/example/ken2/ken2/TupleTable" "m_slots" "[J" (.ref b3055)) (F_m_size_b1023 : Fld Z h0 b1023 "com/example/ken2/ken2/TupleTable" "m_size" "I" (.int (0 : Int32))) (g_b1023 : n0 ≤ b1023) (A_b3042 : Ary Z h0 b3042 .long 32 (fun i => .long ((fun _ => (0 : Int64)) i))) (g_b3042 : n0 ≤ b3042) (A_b3055 : Ary Z h0 b3055 .long 32 (fun i => .long ((fun _ => (0 : Int64)) i))) (g_b3055 : n0 ≤ b3055) (A_b3207 : Ary Z h0 b3207 .long 2 (fun i => .long ((G0_22) i))) (ne_b1023_b3042 : b1023 ≠ b3042) (ne_b1023_b3055 : b1023 ≠ b3055) (ne_b3042_b3055 : b3042 ≠ b3055) (ne_b1023_b3207 : b1023 ≠ b3207) :
    MetFree l (⟨"com/example/ken2/ken2/TupleTable", "intern", "([JI)I"⟩ : MethodName) (head1 (Jvm.Cond.code (⟨"com/example/ken2/ken2/TupleTable", "intern", "([JI)I"⟩ : MethodName) prog_120_method_5_code 6 (some .int) :: ws) ({ frames := 1, cells := 0, slots := 0, locals := 40 } : Room)) (fun a U => a = #[(.ref b1023), (.ref b3207), (.int (0 : Int32))] ∧ Z.Warmed39 U.vm ∧ U.heap = h0) (fun _ _ _ _ _ => True) (fun _ U o U' => ∃ v L, o = .returned v ∧ (Q8s6 Z b1023 b3042 b3055 b3207 h0 n0) v U'.heap L ∧ FrameEnd U o U' L ({ frames := 1, cells := 0, slots := 0, locals := 40 } : Room).cells ({ frames := 1, cells := 0, slots := 0, locals := 40 } : Room).slots) :=
  own_met (ret := (some .int)) (Q := (Q8s6 Z b1023 b3042 b3055 b3207 h0 n0)) (plainFor_of_name pn_8) (fun m => ef_8 m b1023 b3207 (0 : Int32)) (fun p e s m below meth c T0 X0 hx hby hml hown hnm hZ e0 => by
  have N0 := Fr.nil n0
  refine OwnFin.step (g' := (mkF m 1 (Las68_0 b1023 b3207) [(.ref b1023)])) X0 (fun t k => XS.aloadN X0.here hx rfl (hb hby d8_0) rfl rfl k) ?_
  refine OwnFin.step (g' := (mkF m 2 (Las68_0 b1023 b3207) [(.ref b3207), (.ref b1023)])) X0 (fun t k => XS.aloadN X0.here hx rfl (hb hby d8_1) rfl rfl k) ?_
  refine OwnFin.step (g' := (mkF m 3 (Las68_0 b1023 b3207) [(.int (0 : Int32)), (.ref b3207), (.ref b1023)])) X0 (fun t k => XS.iloadN X0.here hx rfl (hb hby d8_2) rfl k) ?_
  obtain ⟨_, T6214, L6214, X6214, ⟨rfl, N6214q, u7228⟩, st6214⟩ := own_callP X0 hx hZ (y := (⟨"com/example/ken2/ken2/TupleTable", "hash", "([JI)I"⟩ : MethodName)) (W := 0) (a := b1023) (argsL := [(.ref b3207), (.int (0 : Int32))]) (rest := []) hown (hw _ (wm 58 rfl)) (hw _ (wm 51 rfl)) rfl (hw _ (wm 59 rfl)) (hw _ (wm 60 rfl)) (hw _ (wm 16 rfl)) (hw _ (wm 61 rfl)) (by decide) E_b1023 (rm9s7 l Z a0 hw [] b1023 b3207 h0 n0 Z0 F_m_width_b1023 A_b3207) (by decide) (by decide) (by decide) (by decide) e0 (g := (mkF m 3 (Las68_0 b1023 b3207) [(.int (0 : Int32)), (.ref b3207), (.ref b1023)])) rfl (by rw [hml]; rfl) pd_3 rfl rfl (by show 2 * 0 + _ ≤ _; exact Nat.le_of_eq rfl) (hb hby d8_3)
  have N6214 := Fr.app N0 N6214q
  refine OwnFin.step (g' := (mkF m 6 (Las68_0 b1023 b3207) [(.int (0 : Int32))])) X6214 (fun t k => st6214 _ k) ?_
  refine OwnFin.step (g' := (mkF m 7 (Las68_1 b1023 b3207) [])) X6214 (fun t k => XS.istoreN X6214.here hx rfl (hb hby d8_6) rfl (l' := (Las68_1 b1023 b3207)) rfl k) ?_
  refine OwnFin.step (g' := (mkF m 8 (Las68_1 b1023 b3207) [(.ref b1023)])) X6214 (fun t k => XS.aloadN X6214.here hx rfl (hb hby d8_7) rfl rfl k) ?_
  refine OwnFin.step (g' := (mkF m 9 (Las68_1 b1023 b3207) [(.ref b3207), (.ref b1023)])) X6214 (fun t k => XS.aloadN X6214.here hx rfl (hb hby d8_8) rfl rfl k) ?_
  refine OwnFin.step (g' := (mkF m 10 (Las68_1 b1023 b3207) [(.int (0 : Int32)), (.ref b3207), (.ref b1023)])) X6214 (fun t k => XS.iloadN X6214.here hx rfl (hb hby d8_9) rfl k) ?_
  refine OwnFin.step (g' := (mkF m 11 (Las68_1 b1023 b3207) [(.int (0 : Int32)), (.int (0 : Int32)), (.ref b3207), (.ref b1023)])) X6214 (fun t k => XS.iloadN X6214.here hx rfl (hb hby d8_10) rfl k) ?_
  obtain ⟨_, T7229, L7229, X7229, ⟨rfl, N7229q, u8242⟩, st7229⟩ := own_callP X6214 hx hZ (y := (⟨"com/example/ken2/ken2/TupleTable", "slotOf", "([JII)I"⟩ : MethodName)) (W := 0) (a := b1023) (argsL := [(.ref b3207), (.int (0 : Int32)), (.int (0 : Int32))]) (rest := []) hown (hw _ (wm 64 rfl)) (hw _ (wm 51 rfl)) rfl (hw _ (wm 65 rfl)) (hw _ (wm 66 rfl)) (hw _ (wm 16 rfl)) (hw _ (wm 67 rfl)) (by decide) E_b1023 (rm10s8 l Z a0 hw [] b1023 b3055 b3207 h0 n0 Z0 F_m_slots_b1023 A_b3055) (by decide) (by decide) (by decide) (by decide) u7228 (g := (mkF m 11 (Las68_1 b1023 b3207) [(.int (0 : Int32)), (.int (0 : Int32)), (.ref b3207), (.ref b1023)])) rfl (by rw [hml]; rfl) pd_4 rfl rfl (by show 2 * 0 + _ ≤ _; exact Nat.le_of_eq rfl) (hb hby d8_11)
  have N7229 := Fr.app N6214 N7229q
  refine OwnFin.step (g' := (mkF m 14 (Las68_1 b1023 b3207) [(.int (0 : Int32))])) X7229 (fun t k => st7229 _ k) ?_
  refine OwnFin.step (g' := (mkF m 16 (Las68_2 b1023 b3207) [])) X7229 (fun t k => XS.istore X7229.here hx rfl (hb hby d8_14) rfl (l' := (Las68_2 b1023 b3207)) rfl k) ?_
  refine OwnFin.step (g' := (mkF m 17 (Las68_2 b1023 b3207) [(.ref b1023)])) X7229 (fun t k => XS.aloadN X7229.here hx rfl (hb hby d8_16) rfl rfl k) ?_
  obtain ⟨T8243, X8243, e8243, st8243⟩ := getF X7229 hx hZ hown (host := "") (Or.inl (hw _ (wm 37 rfl))) Via.refl u8242 F_m_slots_b1023 (g := (mkF m 17 (Las68_2 b1023 b3207) [(.ref b1023)])) rfl rfl (hb hby d8_17)
  refine OwnFin.step (g' := (mkF m 20 (Las68_2 b1023 b3207) [(.ref b3055)])) X8243 (fun t k => st8243 _ k) ?_
  refine OwnFin.step (g' := (mkF m 22 (Las68_2 b1023 b3207) [(.int (0 : Int32)), (.ref b3055)])) X8243 (fun t k => XS.iload X8243.here hx rfl (hb hby d8_20) rfl k) ?_
  refine OwnFin.step (g' := (mkF m 23 (Las68_2 b1023 b3207) [(.long (0 : Int64))])) X8243 (fun t k => own_ldJ X8243 hx hZ e8243 A_b3055 (by decide) rfl (g := (mkF m 22 (Las68_2 b1023 b3207) [(.int (0 : Int32)), (.ref b3055)])) rfl rfl (hb hby d8_22) _ k) ?_
  refine OwnFin.step (g' := (mkF m 24 (Las68_2 b1023 b3207) [(.long (0 : Int64)), (.long (0 : Int64))])) X8243 (fun t k => XT.lconst X8243.here hx rfl (hb hby d8_23) k) ?_
  refine OwnFin.step (g' := (mkF m 25 (Las68_2 b1023 b3207) [(.int (XT.cmpL (0 : Int64) (0 : Int64)))])) X8243 (fun t k => XT.lcmp X8243.here hx rfl (hb hby d8_24) rfl k) ?_
  refine OwnFin.step (g' := (mkF m 39 (Las68_2 b1023 b3207) [])) X8243 (fun t k => XS.ifYes X8243.here hx rfl (pc0 := 25) (pc' := 39) rfl (hb hby d8_25) rfl ((if0 _ _).trans (teq ((cl_eq _ _).mpr (show (0 : Int64) = (0 : Int64) by first | rfl | decide))).1) (by decide) (by decide) k) ?_
  refine OwnFin.step (g' := (mkF m 40 (Las68_2 b1023 b3207) [(.ref b1023)])) X8243 (fun t k => XS.aloadN X8243.here hx rfl (hb hby d8_39) rfl rfl k) ?_
  obtain ⟨T8244, X8244, e8244, st8244⟩ := getF X8243 hx hZ hown (host := "") (Or.inl (hw _ (wm 68 rfl))) Via.refl e8243 F_m_size_b1023 (g := (mkF m 40 (Las68_2 b1023 b3207) [(.ref b1023)])) rfl rfl (hb hby d8_40)
  refine OwnFin.step (g' := (mkF m 43 (Las68_2 b1023 b3207) [(.int (0 : Int32))])) X8244 (fun t k => st8244 _ k) ?_
  refine OwnFin.step (g' := (mkF m 44 (Las68_2 b1023 b3207) [(.ref b1023), (.int (0 : Int32))])) X8244 (fun t k => XS.aloadN X8244.here hx rfl (hb hby d8_43) rfl rfl k) ?_
  obtain ⟨T8245, X8245, e8245, st8245⟩ := getF X8244 hx hZ hown (host := "") (Or.inl (hw _ (wm 32 rfl))) Via.refl e8244 F_m_capacity_b1023 (g := (mkF m 44 (Las68_2 b1023 b3207) [(.ref b1023), (.int (0 : Int32))])) rfl rfl (hb hby d8_44)
  refine OwnFin.step (g' := (mkF m 47 (Las68_2 b1023 b3207) [(.int (536870912 : Int32)), (.int (0 : Int32))])) X8245 (fun t k => st8245 _ k) ?_
  refine OwnFin.step (g' := (mkF m 67 (Las68_2 b1023 b3207) [])) X8245 (fun t k => XS.icmpYes X8245.here hx rfl (pc0 := 47) (pc' := 67) rfl (hb hby d8_47) rfl (feq (show ¬ ((0 : Int32) = (536870912 : Int32)) by first | decide | exact Int32.lt_irrefl _ | exact Int64.lt_irrefl _)).2 (by decide) (by decide) k) ?_
  refine OwnFin.step (g' := (mkF m 68 (Las68_2 b1023 b3207) [(.ref b1023)])) X8245 (fun t k => XS.aloadN X8245.here hx rfl (hb hby d8_67) rfl rfl k) ?_
  refine OwnFin.step (g' := (mkF m 69 (Las68_2 b1023 b3207) [(.ref b1023), (.ref b1023)])) X8245 (fun t k => XS.dup X8245.here hx rfl (hb hby d8_68) rfl rfl k) ?_
  obtain ⟨T8246, X8246, e8246, st8246⟩ := getF X8245 hx hZ hown (host := "") (Or.inl (hw _ (wm 68 rfl))) Via.refl e8245 F_m_size_b1023 (g := (mkF m 69 (Las68_2 b1023 b3207) [(.ref b1023), (.ref b1023)])) rfl rfl (hb hby d8_69)
  refine OwnFin.step (g' := (mkF m 72 (Las68_2 b1023 b3207) [(.int (0 : Int32)), (.ref b1023)])) X8246 (fun t k => st8246 _ k) ?_
  refine OwnFin.step (g' := (mkF m 73 (Las68_2 b1023 b3207) [(.int (0 : Int32)), (.ref b1023), (.int (0 : Int32))])) X8246 (fun t k => XT.dupX1 X8246.here hx rfl (hb hby d8_72) rfl rfl rfl k) ?_
  refine OwnFin.step (g' := (mkF m 74 (Las68_2 b1023 b3207) [(.int (1 : Int32)), (.int (0 : Int32)), (.ref b1023), (.int (0 : Int32))])) X8246 (fun t k => XS.iconst X8246.here hx rfl (hb hby d8_73) k) ?_
  refine OwnFin.step (g' := (mkF m 75 (Las68_2 b1023 b3207) [(.int (1 : Int32)), (.ref b1023), (.int (0 : Int32))])) X8246 (fun t k => XS.iadd X8246.here hx rfl (hb hby d8_74) rfl k) ?_
  obtain ⟨T8247, h8247, L8247, X8247, e8247, N8247, W8247, F8247, st8247⟩ := own_putF X8246 hx hZ hown (hw _ (wm 68 rfl)) e8246 N7229 F_m_size_b1023 E_b1023 g_b1023 (Or.inl (hw _ (wm 69 rfl))) (hw _ (wm 15 rfl)) (fty := .int) (by decide) rfl rfl (g := (mkF m 75 (Las68_2 b1023 b3207) [(.int (1 : Int32)), (.ref b1023), (.int (0 : Int32))])) rfl rfl (hb hby d8_75)
  have K8247 := Keep.of_wr W8247
  have Z8247 := Nat.le_trans Z0 K8247.1
  have S8247 := Nat.le_trans (Nat.le_refl h0.size) K8247.1
  have F8248 := Fld.other W8247 F_m_width_b1023 (Or.inr (slot_ne (Or.inr (hw _ (wm 26 rfl))) (Or.inl (hw _ (wm 69 rfl))) (by decide) (t := .int) (t' := .int) (by decide) (by decide)))
  have F8249 := Fld.other W8247 F_m_capacity_b1023 (Or.inr (slot_ne (Or.inr (hw _ (wm 33 rfl))) (Or.inl (hw _ (wm 69 rfl))) (by decide) (t := .int) (t' := .int) (by decide) (by decide)))
  have F8250 := Fld.other W8247 F_m_tuples_b1023 (Or.inr (slot_ne (Or.inl (hw _ (wm 36 rfl))) (Or.inl (hw _ (wm 69 rfl))) (by decide) (t := (.array .long)) (t' := .int) (by decide) (by decide)))
  have F8251 := Fld.other W8247 F_m_slots_b1023 (Or.inr (slot_ne (Or.inl (hw _ (wm 38 rfl))) (Or.inl (hw _ (wm 69 rfl))) (by decide) (t := (.array .long)) (t' := .int) (by decide) (by decide)))
  have E8252 := Exa.wr W8247 E_b1023
  refine OwnFin.step (g' := (mkF m 78 (Las68_2 b1023 b3207) [(.int (0 : Int32))])) X8247 (fun t k => st8247 _ k) ?_
  refine OwnFin.step (g' := (mkF m 80 (Las68_3 b1023 b3207) [])) X8247 (fun t k => XS.istore X8247.here hx rfl (hb hby d8_78) rfl (l' := (Las68_3 b1023 b3207)) rfl k) ?_
  refine OwnFin.step (g' := (mkF m 81 (Las68_3 b1023 b3207) [(.ref b1023)])) X8247 (fun t k => XS.aloadN X8247.here hx rfl (hb hby d8_80) rfl rfl k) ?_
  obtain ⟨T8253, X8253, e8253, st8253⟩ := getF X8247 hx hZ hown (host := "") (Or.inl (hw _ (wm 35 rfl))) Via.refl e8247 F8250 (g := (mkF m 81 (Las68_3 b1023 b3207) [(.ref b1023)])) rfl rfl (hb hby d8_81)
  refine OwnFin.step (g' := (mkF m 84 (Las68_3 b1023 b3207) [(.ref b3042)])) X8253 (fun t k => st8253 _ k) ?_
  have A8254 := (A_b3042.keep K8247 (ninS (Ne.symm ne_b1023_b3042) nin0))
  refine OwnFin.step (g' := (mkF m 85 (Las68_3 b1023 b3207) [(.int (32 : Int32))])) X8253 (fun t k => own_len X8253 hx hZ e8253 A8254 (g := (mkF m 84 (Las68_3 b1023 b3207) [(.ref b3042)])) rfl rfl (hb hby d8_84) _ k) ?_
  refine OwnFin.step (g' := (mkF m 86 (Las68_3 b1023 b3207) [(.ref b1023), (.int (32 : Int32))])) X8253 (fun t k => XS.aloadN X8253.here hx rfl (hb hby d8_85) rfl rfl k) ?_
  obtain ⟨T8255, X8255, e8255, st8255⟩ := getF X8253 hx hZ hown (host := "") (Or.inl (hw _ (wm 68 rfl))) Via.refl e8253 F8247 (g := (mkF m 86 (Las68_3 b1023 b3207) [(.ref b1023), (.int (32 : Int32))])) rfl rfl (hb hby d8_86)
  refine OwnFin.step (g' := (mkF m 89 (Las68_3 b1023 b3207) [(.int (1 : Int32)), (.int (32 : Int32))])) X8255 (fun t k => st8255 _ k) ?_
  refine OwnFin.step (g' := (mkF m 90 (Las68_3 b1023 b3207) [(.ref b1023), (.int (1 : Int32)), (.int (32 : Int32))])) X8255 (fun t k => XS.aloadN X8255.here hx rfl (hb hby d8_89) rfl rfl k) ?_
  obtain ⟨T8256, X8256, e8256, st8256⟩ := getF X8255 hx hZ hown (host := "") (Or.inl (hw _ (wm 25 rfl))) Via.refl e8255 F8248 (g := (mkF m 90 (Las68_3 b1023 b3207) [(.ref b1023), (.int (1 : Int32)), (.int (32 : Int32))])) rfl rfl (hb hby d8_90)
  refine OwnFin.step (g' := (mkF m 93 (Las68_3 b1023 b3207) [(.int (2 : Int32)), (.int (1 : Int32)), (.int (32 : Int32))])) X8256 (fun t k => st8256 _ k) ?_
  refine OwnFin.step (g' := (mkF m 94 (Las68_3 b1023 b3207) [(.int (2 : Int32)), (.int (32 : Int32))])) X8256 (fun t k => XS.imul X8256.here hx rfl (hb hby d8_93) rfl k) ?_
  refine OwnFin.step (g' := (mkF m 132 (Las68_3 b1023 b3207) [])) X8256 (fun t k => XS.icmpYes X8256.here hx rfl (pc0 := 94) (pc' := 132) rfl (hb hby d8_94) rfl (flt (show ¬ ((32 : Int32) < (2 : Int32)) by first | decide | exact Int32.lt_irrefl _ | exact Int64.lt_irrefl _)).2.1 (by decide) (by decide) k) ?_
  refine OwnFin.step (g' := (mkF m 133 (Las68_3 b1023 b3207) [(.ref b3207)])) X8256 (fun t k => XS.aloadN X8256.here hx rfl (hb hby d8_132) rfl rfl k) ?_
  refine OwnFin.step (g' := (mkF m 134 (Las68_3 b1023 b3207) [(.int (0 : Int32)), (.ref b3207)])) X8256 (fun t k => XS.iloadN X8256.here hx rfl (hb hby d8_133) rfl k) ?_
  refine OwnFin.step (g' := (mkF m 135 (Las68_3 b1023 b3207) [(.ref b1023), (.int (0 : Int32)), (.ref b3207)])) X8256 (fun t k => XS.aloadN X8256.here hx rfl (hb hby d8_134) rfl rfl k) ?_
  obtain ⟨T8257, X8257, e8257, st8257⟩ := getF X8256 hx hZ hown (host := "") (Or.inl (hw _ (wm 35 rfl))) Via.refl e8256 F8250 (g := (mkF m 135 (Las68_3 b1023 b3207) [(.ref b1023), (.int (0 : Int32)), (.ref b3207)])) rfl rfl (hb hby d8_135)
  refine OwnFin.step (g' := (mkF m 138 (Las68_3 b1023 b3207) [(.ref b3042), (.int (0 : Int32)), (.ref b3207)])) X8257 (fun t k => st8257 _ k) ?_
  refine OwnFin.step (g' := (mkF m 140 (Las68_3 b1023 b3207) [(.int (0 : Int32)), (.ref b3042), (.int (0 : Int32)), (.ref b3207)])) X8257 (fun t k => XS.iload X8257.here hx rfl (hb hby d8_138) rfl k) ?_
  refine OwnFin.step (g' := (mkF m 141 (Las68_3 b1023 b3207) [(.ref b1023), (.int (0 : Int32)), (.ref b3042), (.int (0 : Int32)), (.ref b3207)])) X8257 (fun t k => XS.aloadN X8257.here hx rfl (hb hby d8_140) rfl rfl k) ?_
  obtain ⟨T8258, X8258, e8258, st8258⟩ := getF X8257 hx hZ hown (host := "") (Or.inl (hw _ (wm 25 rfl))) Via.refl e8257 F8248 (g := (mkF m 141 (Las68_3 b1023 b3207) [(.ref b1023), (.int (0 : Int32)), (.ref b3042), (.int (0 : Int32)), (.ref b3207)])) rfl rfl (hb hby d8_141)
  refine OwnFin.step (g' := (mkF m 144 (Las68_3 b1023 b3207) [(.int (2 : Int32)), (.int (0 : Int32)), (.ref b3042), (.int (0 : Int32)), (.ref b3207)])) X8258 (fun t k => st8258 _ k) ?_
  refine OwnFin.step (g' := (mkF m 145 (Las68_3 b1023 b3207) [(.int (0 : Int32)), (.ref b3042), (.int (0 : Int32)), (.ref b3207)])) X8258 (fun t k => XS.imul X8258.here hx rfl (hb hby d8_144) rfl k) ?_
  refine OwnFin.step (g' := (mkF m 146 (Las68_3 b1023 b3207) [(.ref b1023), (.int (0 : Int32)), (.ref b3042), (.int (0 : Int32)), (.ref b3207)])) X8258 (fun t k => XS.aloadN X8258.here hx rfl (hb hby d8_145) rfl rfl k) ?_
  obtain ⟨T8259, X8259, e8259, st8259⟩ := getF X8258 hx hZ hown (host := "") (Or.inl (hw _ (wm 25 rfl))) Via.refl e8258 F8248 (g := (mkF m 146 (Las68_3 b1023 b3207) [(.ref b1023), (.int (0 : Int32)), (.ref b3042), (.int (0 : Int32)), (.ref b3207)])) rfl rfl (hb hby d8_146)
  refine OwnFin.step (g' := (mkF m 149 (Las68_3 b1023 b3207) [(.int (2 : Int32)), (.int (0 : Int32)), (.ref b3042), (.int (0 : Int32)), (.ref b3207)])) X8259 (fun t k => st8259 _ k) ?_
  have A8261 := (A_b3207.keep K8247 (ninS (Ne.symm ne_b1023_b3207) nin0))
  obtain ⟨T8260, h8260, L8260, X8260, e8260, N8260, K8260, A8260, st8260⟩ := own_copyJ X8259 hx hZ hown (hw _ (wm 70 rfl)) (hw _ (wm 73 rfl)) (hw _ (wm 71 rfl)) (hw _ (wm 72 rfl)) e8259 N8247 (G := (G0_22)) (G' := (fun _ => (0 : Int64))) A8261 A8254 g_b3042 (o := 0) (q := 0) (z := 2) rfl rfl rfl (by decide) (by decide) (g := (mkF m 149 (Las68_3 b1023 b3207) [(.int (2 : Int32)), (.int (0 : Int32)), (.ref b3042), (.int (0 : Int32)), (.ref b3207)])) rfl (by rw [hml]; rfl) rfl (hb hby d8_149) (W := 0) (by show 2 * 0 + _ ≤ _; exact Nat.le_of_eq rfl) (by decide) (by decide)
  have B8260 : Ary Z h8260 b3042 .long 32 (fun i => .long ((Gs68_149) i)) := A8260
  have Z8260 := Nat.le_trans Z8247 K8260.1
  have S8260 := Nat.le_trans S8247 K8260.1
  refine OwnFin.step (g' := (mkF m 152 (Las68_3 b1023 b3207) [])) X8260 (fun t k => st8260 _ k) ?_
  refine OwnFin.step (g' := (mkF m 153 (Las68_3 b1023 b3207) [(.ref b1023)])) X8260 (fun t k => XS.aloadN X8260.here hx rfl (hb hby d8_152) rfl rfl k) ?_
  have F8262 := (F8251.keep K8260 (ninS ne_b1023_b3042 nin0))
  obtain ⟨T8263, X8263, e8263, st8263⟩ := getF X8260 hx hZ hown (host := "") (Or.inl (hw _ (wm 37 rfl))) Via.refl e8260 F8262 (g := (mkF m 153 (Las68_3 b1023 b3207) [(.ref b1023)])) rfl rfl (hb hby d8_153)
  refine OwnFin.step (g' := (mkF m 156 (Las68_3 b1023 b3207) [(.ref b3055)])) X8263 (fun t k => st8263 _ k) ?_
  refine OwnFin.step (g' := (mkF m 158 (Las68_3 b1023 b3207) [(.int (0 : Int32)), (.ref b3055)])) X8263 (fun t k => XS.iload X8263.here hx rfl (hb hby d8_156) rfl k) ?_
  refine OwnFin.step (g' := (mkF m 159 (Las68_3 b1023 b3207) [(.int (0 : Int32)), (.int (0 : Int32)), (.ref b3055)])) X8263 (fun t k => XS.iloadN X8263.here hx rfl (hb hby d8_158) rfl k) ?_
  refine OwnFin.step (g' := (mkF m 161 (Las68_3 b1023 b3207) [(.int (0 : Int32)), (.int (0 : Int32)), (.int (0 : Int32)), (.ref b3055)])) X8263 (fun t k => XS.iload X8263.here hx rfl (hb hby d8_159) rfl k) ?_
  obtain ⟨_, T8264, L8264, X8264, ⟨rfl, N8264q, u9275⟩, st8264⟩ := own_callS X8263 hx hZ (y := (⟨"com/example/ken2/ken2/TupleTable", "slot", "(II)J"⟩ : MethodName)) (W := 2) (argsL := [(.int (0 : Int32)), (.int (0 : Int32))]) (rest := [(.int (0 : Int32)), (.ref b3055)]) hown (hw _ (wm 74 rfl)) (hw _ (wm 75 rfl)) (hw _ (wm 16 rfl)) (hw _ (wm 76 rfl)) (by decide) (rm11s9 l Z a0 hw []  h8260 n0 Z8260 ) (by decide) (by decide) (by decide) (by decide) e8263 (g := (mkF m 161 (Las68_3 b1023 b3207) [(.int (0 : Int32)), (.int (0 : Int32)), (.int (0 : Int32)), (.ref b3055)])) rfl (by rw [hml]; rfl) pd_5 rfl rfl (by show 2 * 0 + _ ≤ _; exact Nat.le_of_eq rfl) (hb hby d8_161)
  have N8264 := Fr.app N8260 N8264q
  refine OwnFin.step (g' := (mkF m 164 (Las68_3 b1023 b3207) [(.long (1 : Int64)), (.int (0 : Int32)), (.ref b3055)])) X8264 (fun t k => st8264 _ k) ?_
  have A9276 := ((A_b3055.keep K8247 (ninS (Ne.symm ne_b1023_b3055) nin0)).keep K8260 (ninS (Ne.symm ne_b3042_b3055) nin0))
  obtain ⟨T9277, h9277, L9277, X9277, e9277, N9277, K9277, A9277, st9277⟩ := own_stJ X8264 hx hZ u9275 N8264 (G := (fun _ => (0 : Int64))) A9276 g_b3055 (j := (0 : Int32)) (x := (1 : Int64)) (by decide) (g := (mkF m 164 (Las68_3 b1023 b3207) [(.long (1 : Int64)), (.int (0 : Int32)), (.ref b3055)])) rfl rfl (hb hby d8_164)
  have B9277 : Ary Z h9277 b3055 .long 32 (fun i => .long ((Gs68_164) i)) := A9277
  have Z9277 := Nat.le_trans Z8260 K9277.1
  have S9277 := Nat.le_trans S8260 K9277.1
  refine OwnFin.step (g' := (mkF m 165 (Las68_3 b1023 b3207) [])) X9277 (fun t k => st9277 _ k) ?_
  refine OwnFin.step (g' := (mkF m 168 (Las68_3 b1023 b3207) [(.long (4 : Int64))])) X9277 (fun t k => X9277.ldc2Long hx hown (mvT hZ (hw _ (wm 77 rfl))) (g := (mkF m 165 (Las68_3 b1023 b3207) [])) rfl (hb hby d8_165) _ k) ?_
  refine OwnFin.step (g' := (mkF m 169 (Las68_3 b1023 b3207) [(.ref b1023), (.long (4 : Int64))])) X9277 (fun t k => XS.aloadN X9277.here hx rfl (hb hby d8_168) rfl rfl k) ?_
  have F9278 := ((F8247.keep K8260 (ninS ne_b1023_b3042 nin0)).keep K9277 (ninS ne_b1023_b3055 nin0))
  obtain ⟨T9279, X9279, e9279, st9279⟩ := getF X9277 hx hZ hown (host := "") (Or.inl (hw _ (wm 68 rfl))) Via.refl e9277 F9278 (g := (mkF m 169 (Las68_3 b1023 b3207) [(.ref b1023), (.long (4 : Int64))])) rfl rfl (hb hby d8_169)
  refine OwnFin.step (g' := (mkF m 172 (Las68_3 b1023 b3207) [(.int (1 : Int32)), (.long (4 : Int64))])) X9279 (fun t k => st9279 _ k) ?_
  refine OwnFin.step (g' := (mkF m 173 (Las68_3 b1023 b3207) [(.long (1 : Int64)), (.long (4 : Int64))])) X9279 (fun t k => XT.i2l X9279.here hx rfl (hb hby d8_172) rfl k) ?_
  refine OwnFin.step (g' := (mkF m 174 (Las68_3 b1023 b3207) [(.long (4 : Int64))])) X9279 (fun t k => XT.lmul X9279.here hx rfl (hb hby d8_173) rfl k) ?_
  refine OwnFin.step (g' := (mkF m 177 (Las68_3 b1023 b3207) [(.long (3 : Int64)), (.long (4 : Int64))])) X9279 (fun t k => X9279.ldc2Long hx hown (mvT hZ (hw _ (wm 78 rfl))) (g := (mkF m 174 (Las68_3 b1023 b3207) [(.long (4 : Int64))])) rfl (hb hby d8_174) _ k) ?_
  refine OwnFin.step (g' := (mkF m 178 (Las68_3 b1023 b3207) [(.ref b1023), (.long (3 : Int64)), (.long (4 : Int64))])) X9279 (fun t k => XS.aloadN X9279.here hx rfl (hb hby d8_177) rfl rfl k) ?_
  have F9280 := (F8262.keep K9277 (ninS ne_b1023_b3055 nin0))
  obtain ⟨T9281, X9281, e9281, st9281⟩ := getF X9279 hx hZ hown (host := "") (Or.inl (hw _ (wm 37 rfl))) Via.refl e9279 F9280 (g := (mkF m 178 (Las68_3 b1023 b3207) [(.ref b1023), (.long (3 : Int64)), (.long (4 : Int64))])) rfl rfl (hb hby d8_178)
  refine OwnFin.step (g' := (mkF m 181 (Las68_3 b1023 b3207) [(.ref b3055), (.long (3 : Int64)), (.long (4 : Int64))])) X9281 (fun t k => st9281 _ k) ?_
  refine OwnFin.step (g' := (mkF m 182 (Las68_3 b1023 b3207) [(.int (32 : Int32)), (.long (3 : Int64)), (.long (4 : Int64))])) X9281 (fun t k => own_len X9281 hx hZ e9281 B9277 (g := (mkF m 181 (Las68_3 b1023 b3207) [(.ref b3055), (.long (3 : Int64)), (.long (4 : Int64))])) rfl rfl (hb hby d8_181) _ k) ?_
  refine OwnFin.step (g' := (mkF m 183 (Las68_3 b1023 b3207) [(.long (32 : Int64)), (.long (3 : Int64)), (.long (4 : Int64))])) X9281 (fun t k => XT.i2l X9281.here hx rfl (hb hby d8_182) rfl k) ?_
  refine OwnFin.step (g' := (mkF m 184 (Las68_3 b1023 b3207) [(.long (96 : Int64)), (.long (4 : Int64))])) X9281 (fun t k => XT.lmul X9281.here hx rfl (hb hby d8_183) rfl k) ?_
  refine OwnFin.step (g' := (mkF m 185 (Las68_3 b1023 b3207) [(.int (XT.cmpL (4 : Int64) (96 : Int64)))])) X9281 (fun t k => XT.lcmp X9281.here hx rfl (hb hby d8_184) rfl k) ?_
  refine OwnFin.step (g' := (mkF m 192 (Las68_3 b1023 b3207) [])) X9281 (fun t k => XS.ifYes X9281.here hx rfl (pc0 := 185) (pc' := 192) rfl (hb hby d8_185) rfl ((if0 _ _).trans (flt (fun q => (show ¬ ((96 : Int64) < (4 : Int64)) by first | decide | exact Int32.lt_irrefl _ | exact Int64.lt_irrefl _) ((cl_gt _ _).mp q))).2.2.2) (by decide) (by decide) k) ?_
  refine OwnFin.step (g' := (mkF m 194 (Las68_3 b1023 b3207) [(.int (0 : Int32))])) X9281 (fun t k => XS.iload X9281.here hx rfl (hb hby d8_192) rfl k) ?_
  have E9282 := (Exa.keep (Exa.keep E8252 K8260) K9277)
  have F9283 := ((F8248.keep K8260 (ninS ne_b1023_b3042 nin0)).keep K9277 (ninS ne_b1023_b3055 nin0))
  have F9284 := ((F8249.keep K8260 (ninS ne_b1023_b3042 nin0)).keep K9277 (ninS ne_b1023_b3055 nin0))
  have F9285 := ((F8250.keep K8260 (ninS ne_b1023_b3042 nin0)).keep K9277 (ninS ne_b1023_b3055 nin0))
  have A9286 := (B8260.keep K9277 (ninS ne_b3042_b3055 nin0))
  refine OwnFin.retInt X9281 (hb hby d8_194) (by decide) (by decide) ?_
  rw [e9281]
  exact ⟨rfl, N9277, (Keep.trans (Keep.trans (Keep.trans (Keep.refl h0 [b1023, b3042, b3055]) K8247 (allS (Or.inl (wm 0 rfl)) all0)) K8260 (allS (Or.inl (wm 1 rfl)) all0)) K9277 (allS (Or.inl (wm 2 rfl)) all0)), E9282, F9283, F9284, F9285, F9280, F9278, A9286, B9277⟩)
def Q7s5 (Z : State) (b1023 : Addr) (b3042 : Addr) (b3055 : Addr) (b3207 : Addr) (h0 : Heap) (n0 : Nat) : Option Value → Heap → List Loc → Prop := fun v h L => v = some (.int (0 : Int32)) ∧ Fr n0 L ∧ Keep h0 h [b1023, b3042, b3055] ∧ Exa Z h b1023 "com/example/ken2/ken2/TupleTable" ∧ Fld Z h b1023 "com/example/ken2/ken2/TupleTable" "m_width" "I" (.int (2 : Int32)) ∧ Fld Z h b1023 "com/example/ken2/ken2/TupleTable" "m_capacity" "I" (.int (536870912 : Int32)) ∧ Fld Z h b1023 "com/example/ken2/ken2/TupleTable" "m_tuples" "[J" (.ref b3042) ∧ Fld Z h b1023 "com/example/ken2/ken2/TupleTable" "m_slots" "[J" (.ref b3055) ∧ Fld Z h b1023 "com/example/ken2/ken2/TupleTable" "m_size" "I" (.int (1 : Int32)) ∧ Ary Z h b3042 .long 32 (fun i => .long ((Gs68_149) i)) ∧ Ary Z h b3055 .long 32 (fun i => .long ((Gs68_164) i))
set_option maxRecDepth 65536 in
set_option maxHeartbeats 40000000 in
theorem rm7s5 (l : Launch) (Z : State) (a0 : Array Value) (hw : ∀ d ∈ tables_1, d.before a0 Z = true) (ws : List Jvm.Cond) (b1023 : Addr) (b3042 : Addr) (b3055 : Addr) (b3207 : Addr) (h0 : Heap) (n0 : Nat) (Z0 : n0 ≤ h0.size) (E_b1023 : Exa Z h0 b1023 "com/example/ken2/ken2/TupleTable") (F_m_width_b1023 : Fld Z h0 b1023 "com/example/ken2/ken2/TupleTable" "m_width" "I" (.int (2 : Int32))) (F_m_capacity_b1023 : Fld Z h0 b1023 "com/example/ken2/ken2/TupleTable" "m_capacity" "I" (.int (536870912 : Int32))) (F_m_tuples_b1023 : Fld Z h0 b1023 "com/example/ken2/ken2/TupleTable" "m_tuples" "[J" (.ref b3042)) (F_m_slots_b1023 : Fld Z h0 b1023 "com/example/ken2/ken2/TupleTable" "m_slots" "[J" (.ref b3055)) (F_m_size_b1023 : Fld Z h0 b1023 "com/example/ken2/ken2/TupleTable" "m_size" "I" (.int (0 : Int32))) (g_b1023 : n0 ≤ b1023) (A_b3042 : Ary Z h0 b3042 .long 32 (fun i => .long ((fun _ => (0 : Int64)) i))) (g_b3042 : n0 ≤ b3042) (A_b3055 : Ary Z h0 b3055 .long 32 (fun i => .long ((fun _ => (0 : Int64)) i))) (g_b3055 : n0 ≤ b3055) (A_b3207 : Ary Z h0 b3207 .long 2 (fun i => .long ((G0_22) i))) (ne_b1023_b3042 : b1023 ≠ b3042) (ne_b1023_b3055 : b1023 ≠ b3055) (ne_b3042_b3055 : b3042 ≠ b3055) (ne_b1023_b3207 : b1023 ≠ b3207) :
    MetFree l (⟨"com/example/ken2/ken2/TupleTable", "intern", "([J)I"⟩ : MethodName) (head1 (Jvm.Cond.code (⟨"com/example/ken2/ken2/TupleTable", "intern", "([J)I"⟩ : MethodName) prog_120_method_4_code 2 (some .int) :: ws) ({ frames := 2, cells := 0, slots := 0, locals := 57 } : Room)) (fun a U => a = #[(.ref b1023), (.ref b3207)] ∧ Z.Warmed39 U.vm ∧ U.heap = h0) (fun _ _ _ _ _ => True) (fun _ U o U' => ∃ v L, o = .returned v ∧ (Q7s5 Z b1023 b3042 b3055 b3207 h0 n0) v U'.heap L ∧ FrameEnd U o U' L ({ frames := 2, cells := 0, slots := 0, locals := 57 } : Room).cells ({ frames := 2, cells := 0, slots := 0, locals := 57 } : Room).slots) :=
  own_met (ret := (some .int)) (Q := (Q7s5 Z b1023 b3042 b3055 b3207 h0 n0)) (plainFor_of_name pn_7) (fun m => ef_7 m b1023 b3207) (fun p e s m below meth c T0 X0 hx hby hml hown hnm hZ e0 => by
  have N0 := Fr.nil n0
  refine OwnFin.step (g' := (mkF m 1 #[.val (.ref b1023), .val (.ref b3207)] [(.ref b1023)])) X0 (fun t k => XS.aloadN X0.here hx rfl (hb hby d7_0) rfl rfl k) ?_
  refine OwnFin.step (g' := (mkF m 2 #[.val (.ref b1023), .val (.ref b3207)] [(.ref b3207), (.ref b1023)])) X0 (fun t k => XS.aloadN X0.here hx rfl (hb hby d7_1) rfl rfl k) ?_
  refine OwnFin.step (g' := (mkF m 3 #[.val (.ref b1023), .val (.ref b3207)] [(.int (0 : Int32)), (.ref b3207), (.ref b1023)])) X0 (fun t k => XS.iconst X0.here hx rfl (hb hby d7_2) k) ?_
  obtain ⟨_, T5213, L5213, X5213, ⟨rfl, N5213q, u9297, u9298, u9299, u9300, u9301, u9302, u9303, u9304, u9305⟩, st5213⟩ := own_callV X0 hx hZ (y := (⟨"com/example/ken2/ken2/TupleTable", "intern", "([JI)I"⟩ : MethodName)) (W := 0) (a := b1023) (argsL := [(.ref b3207), (.int (0 : Int32))]) (rest := []) hown (hw _ (wm 53 rfl)) (hw _ (wm 54 rfl)) (hw _ (wm 56 rfl)) (hw _ (wm 55 rfl)) (hw _ (wm 16 rfl)) (hw _ (wm 57 rfl)) (by decide) E_b1023 (rm8s6 l Z a0 hw [] b1023 b3042 b3055 b3207 h0 n0 Z0 E_b1023 F_m_width_b1023 F_m_capacity_b1023 F_m_tuples_b1023 F_m_slots_b1023 F_m_size_b1023 g_b1023 A_b3042 g_b3042 A_b3055 g_b3055 A_b3207 ne_b1023_b3042 ne_b1023_b3055 ne_b3042_b3055 ne_b1023_b3207) (by decide) (by decide) (by decide) (by decide) e0 (g := (mkF m 3 #[.val (.ref b1023), .val (.ref b3207)] [(.int (0 : Int32)), (.ref b3207), (.ref b1023)])) rfl (by rw [hml]; rfl) pd_3 rfl rfl (by show 2 * 0 + _ ≤ _; exact Nat.le_of_eq rfl) (hb hby d7_3)
  have N5213 := Fr.app N0 N5213q
  obtain ⟨h5213, e5213⟩ : ∃ z, T5213.heap = z := ⟨_, rfl⟩
  rw [e5213] at u9297 u9298 u9299 u9300 u9301 u9302 u9303 u9304 u9305
  have K5213 := u9297
  have Z5213 := Nat.le_trans Z0 K5213.1
  have S5213 := Nat.le_trans (Nat.le_refl h0.size) K5213.1
  refine OwnFin.step (g' := (mkF m 6 #[.val (.ref b1023), .val (.ref b3207)] [(.int (0 : Int32))])) X5213 (fun t k => st5213 _ k) ?_
  refine OwnFin.retInt X5213 (hb hby d7_6) (by decide) (by decide) ?_
  rw [e5213]
  exact ⟨rfl, N5213, (Keep.trans (Keep.refl h0 [b1023, b3042, b3055]) K5213 (allS (Or.inl (wm 0 rfl)) (allS (Or.inl (wm 1 rfl)) (allS (Or.inl (wm 2 rfl)) all0)))), u9298, u9299, u9300, u9301, u9302, u9303, u9304, u9305⟩)
def Q6s4 (Z : State) (b1 : Addr) (b1004 : Addr) (b1023 : Addr) (b3042 : Addr) (b3055 : Addr) (b3207 : Addr) (h0 : Heap) (n0 : Nat) : Option Value → Heap → List Loc → Prop := fun v h L => v = none ∧ Fr n0 L ∧ Keep h0 h [b1004, b1023, b3042, b3055] ∧ Ary Z h b1004 .int 17 (fun i => .int ((Gs46_59) i)) ∧ Exa Z h b1023 "com/example/ken2/ken2/TupleTable" ∧ Fld Z h b1023 "com/example/ken2/ken2/TupleTable" "m_width" "I" (.int (2 : Int32)) ∧ Fld Z h b1023 "com/example/ken2/ken2/TupleTable" "m_capacity" "I" (.int (536870912 : Int32)) ∧ Fld Z h b1023 "com/example/ken2/ken2/TupleTable" "m_tuples" "[J" (.ref b3042) ∧ Fld Z h b1023 "com/example/ken2/ken2/TupleTable" "m_slots" "[J" (.ref b3055) ∧ Fld Z h b1023 "com/example/ken2/ken2/TupleTable" "m_size" "I" (.int (1 : Int32)) ∧ Ary Z h b3042 .long 32 (fun i => .long ((Gs68_149) i)) ∧ Ary Z h b3055 .long 32 (fun i => .long ((Gs68_164) i))
set_option maxRecDepth 65536 in
set_option maxHeartbeats 40000000 in
theorem rm6s4 (l : Launch) (Z : State) (a0 : Array Value) (hw : ∀ d ∈ tables_1, d.before a0 Z = true) (ws : List Jvm.Cond) (b1 : Addr) (b1004 : Addr) (b1023 : Addr) (b3042 : Addr) (b3055 : Addr) (b3207 : Addr) (h0 : Heap) (n0 : Nat) (Z0 : n0 ≤ h0.size) (F_m_firstSteps_b1 : Fld Z h0 b1 "com/example/ken2/ken2/RememberedSteps" "m_firstSteps" "[I" (.ref b1004)) (F_m_keys_b1 : Fld Z h0 b1 "com/example/ken2/ken2/RememberedSteps" "m_keys" "Lcom/example/ken2/ken2/TupleTable;" (.ref b1023)) (F_m_stepCount_b1 : Fld Z h0 b1 "com/example/ken2/ken2/RememberedSteps" "m_stepCount" "I" (.int (0 : Int32))) (A_b1004 : Ary Z h0 b1004 .int 17 (fun i => .int ((fun _ => (0 : Int32)) i))) (g_b1004 : n0 ≤ b1004) (E_b1023 : Exa Z h0 b1023 "com/example/ken2/ken2/TupleTable") (F_m_width_b1023 : Fld Z h0 b1023 "com/example/ken2/ken2/TupleTable" "m_width" "I" (.int (2 : Int32))) (F_m_capacity_b1023 : Fld Z h0 b1023 "com/example/ken2/ken2/TupleTable" "m_capacity" "I" (.int (536870912 : Int32))) (F_m_tuples_b1023 : Fld Z h0 b1023 "com/example/ken2/ken2/TupleTable" "m_tuples" "[J" (.ref b3042)) (F_m_slots_b1023 : Fld Z h0 b1023 "com/example/ken2/ken2/TupleTable" "m_slots" "[J" (.ref b3055)) (F_m_size_b1023 : Fld Z h0 b1023 "com/example/ken2/ken2/TupleTable" "m_size" "I" (.int (0 : Int32))) (g_b1023 : n0 ≤ b1023) (A_b3042 : Ary Z h0 b3042 .long 32 (fun i => .long ((fun _ => (0 : Int64)) i))) (g_b3042 : n0 ≤ b3042) (A_b3055 : Ary Z h0 b3055 .long 32 (fun i => .long ((fun _ => (0 : Int64)) i))) (g_b3055 : n0 ≤ b3055) (A_b3207 : Ary Z h0 b3207 .long 2 (fun i => .long ((G0_22) i))) (ne_b1_b1004 : b1 ≠ b1004) (ne_b1_b1023 : b1 ≠ b1023) (ne_b1_b3042 : b1 ≠ b3042) (ne_b1_b3055 : b1 ≠ b3055) (ne_b1004_b1023 : b1004 ≠ b1023) (ne_b1004_b3042 : b1004 ≠ b3042) (ne_b1004_b3055 : b1004 ≠ b3055) (ne_b1023_b3042 : b1023 ≠ b3042) (ne_b1023_b3055 : b1023 ≠ b3055) (ne_b3042_b3055 : b3042 ≠ b3055) (ne_b1023_b3207 : b1023 ≠ b3207) :
    MetFree l (⟨"com/example/ken2/ken2/RememberedSteps", "open", "([J)V"⟩ : MethodName) (head1 (Jvm.Cond.code (⟨"com/example/ken2/ken2/RememberedSteps", "open", "([J)V"⟩ : MethodName) prog_109_method_4_code 3 none :: ws) ({ frames := 3, cells := 0, slots := 0, locals := 70 } : Room)) (fun a U => a = #[(.ref b1), (.ref b3207)] ∧ Z.Warmed39 U.vm ∧ U.heap = h0) (fun _ _ _ _ _ => True) (fun _ U o U' => ∃ v L, o = .returned v ∧ (Q6s4 Z b1 b1004 b1023 b3042 b3055 b3207 h0 n0) v U'.heap L ∧ FrameEnd U o U' L ({ frames := 3, cells := 0, slots := 0, locals := 70 } : Room).cells ({ frames := 3, cells := 0, slots := 0, locals := 70 } : Room).slots) :=
  own_met (ret := none) (Q := (Q6s4 Z b1 b1004 b1023 b3042 b3055 b3207 h0 n0)) (plainFor_of_name pn_6) (fun m => ef_6 m b1 b3207) (fun p e s m below meth c T0 X0 hx hby hml hown hnm hZ e0 => by
  have N0 := Fr.nil n0
  refine OwnFin.step (g' := (mkF m 1 #[.val (.ref b1), .val (.ref b3207), .unset] [(.ref b1)])) X0 (fun t k => XS.aloadN X0.here hx rfl (hb hby d6_0) rfl rfl k) ?_
  obtain ⟨T4211, X4211, e4211, st4211⟩ := getF X0 hx hZ hown (host := "") (Or.inl (hw _ (wm 39 rfl))) Via.refl e0 F_m_keys_b1 (g := (mkF m 1 #[.val (.ref b1), .val (.ref b3207), .unset] [(.ref b1)])) rfl rfl (hb hby d6_1)
  refine OwnFin.step (g' := (mkF m 4 #[.val (.ref b1), .val (.ref b3207), .unset] [(.ref b1023)])) X4211 (fun t k => st4211 _ k) ?_
  refine OwnFin.step (g' := (mkF m 5 #[.val (.ref b1), .val (.ref b3207), .unset] [(.ref b3207), (.ref b1023)])) X4211 (fun t k => XS.aloadN X4211.here hx rfl (hb hby d6_4) rfl rfl k) ?_
  obtain ⟨_, T4212, L4212, X4212, ⟨rfl, N4212q, u9316, u9317, u9318, u9319, u9320, u9321, u9322, u9323, u9324⟩, st4212⟩ := own_callV X4211 hx hZ (y := (⟨"com/example/ken2/ken2/TupleTable", "intern", "([J)I"⟩ : MethodName)) (W := 0) (a := b1023) (argsL := [(.ref b3207)]) (rest := []) hown (hw _ (wm 48 rfl)) (hw _ (wm 49 rfl)) (hw _ (wm 51 rfl)) (hw _ (wm 50 rfl)) (hw _ (wm 16 rfl)) (hw _ (wm 52 rfl)) (by decide) E_b1023 (rm7s5 l Z a0 hw [] b1023 b3042 b3055 b3207 h0 n0 Z0 E_b1023 F_m_width_b1023 F_m_capacity_b1023 F_m_tuples_b1023 F_m_slots_b1023 F_m_size_b1023 g_b1023 A_b3042 g_b3042 A_b3055 g_b3055 A_b3207 ne_b1023_b3042 ne_b1023_b3055 ne_b3042_b3055 ne_b1023_b3207) (by decide) (by decide) (by decide) (by decide) e4211 (g := (mkF m 5 #[.val (.ref b1), .val (.ref b3207), .unset] [(.ref b3207), (.ref b1023)])) rfl (by rw [hml]; rfl) pd_6 rfl rfl (by show 2 * 0 + _ ≤ _; exact Nat.le_of_eq rfl) (hb hby d6_5)
  have N4212 := Fr.app N0 N4212q
  obtain ⟨h4212, e4212⟩ : ∃ z, T4212.heap = z := ⟨_, rfl⟩
  rw [e4212] at u9316 u9317 u9318 u9319 u9320 u9321 u9322 u9323 u9324
  have K4212 := u9316
  have Z4212 := Nat.le_trans Z0 K4212.1
  have S4212 := Nat.le_trans (Nat.le_refl h0.size) K4212.1
  refine OwnFin.step (g' := (mkF m 8 #[.val (.ref b1), .val (.ref b3207), .unset] [(.int (0 : Int32))])) X4212 (fun t k => st4212 _ k) ?_
  refine OwnFin.step (g' := (mkF m 9 #[.val (.ref b1), .val (.ref b3207), .val (.int (0 : Int32))] [])) X4212 (fun t k => XS.istoreN X4212.here hx rfl (hb hby d6_8) rfl (l' := #[.val (.ref b1), .val (.ref b3207), .val (.int (0 : Int32))]) rfl k) ?_
  refine OwnFin.step (g' := (mkF m 10 #[.val (.ref b1), .val (.ref b3207), .val (.int (0 : Int32))] [(.int (0 : Int32))])) X4212 (fun t k => XS.iloadN X4212.here hx rfl (hb hby d6_9) rfl k) ?_
  refine OwnFin.step (g' := (mkF m 11 #[.val (.ref b1), .val (.ref b3207), .val (.int (0 : Int32))] [(.int (2 : Int32)), (.int (0 : Int32))])) X4212 (fun t k => XS.iconst X4212.here hx rfl (hb hby d6_10) k) ?_
  refine OwnFin.step (g' := (mkF m 12 #[.val (.ref b1), .val (.ref b3207), .val (.int (0 : Int32))] [(.int (2 : Int32))])) X4212 (fun t k => XS.iadd X4212.here hx rfl (hb hby d6_11) rfl k) ?_
  refine OwnFin.step (g' := (mkF m 13 #[.val (.ref b1), .val (.ref b3207), .val (.int (0 : Int32))] [(.ref b1), (.int (2 : Int32))])) X4212 (fun t k => XS.aloadN X4212.here hx rfl (hb hby d6_12) rfl rfl k) ?_
  have F9325 := (F_m_firstSteps_b1.keep K4212 (ninS ne_b1_b1023 (ninS ne_b1_b3042 (ninS ne_b1_b3055 nin0))))
  obtain ⟨T9326, X9326, e9326, st9326⟩ := getF X4212 hx hZ hown (host := "") (Or.inl (hw _ (wm 10 rfl))) Via.refl e4212 F9325 (g := (mkF m 13 #[.val (.ref b1), .val (.ref b3207), .val (.int (0 : Int32))] [(.ref b1), (.int (2 : Int32))])) rfl rfl (hb hby d6_13)
  refine OwnFin.step (g' := (mkF m 16 #[.val (.ref b1), .val (.ref b3207), .val (.int (0 : Int32))] [(.ref b1004), (.int (2 : Int32))])) X9326 (fun t k => st9326 _ k) ?_
  have A9327 := (A_b1004.keep K4212 (ninS ne_b1004_b1023 (ninS ne_b1004_b3042 (ninS ne_b1004_b3055 nin0))))
  refine OwnFin.step (g' := (mkF m 17 #[.val (.ref b1), .val (.ref b3207), .val (.int (0 : Int32))] [(.int (17 : Int32)), (.int (2 : Int32))])) X9326 (fun t k => own_len X9326 hx hZ e9326 A9327 (g := (mkF m 16 #[.val (.ref b1), .val (.ref b3207), .val (.int (0 : Int32))] [(.ref b1004), (.int (2 : Int32))])) rfl rfl (hb hby d6_16) _ k) ?_
  refine OwnFin.step (g' := (mkF m 38 #[.val (.ref b1), .val (.ref b3207), .val (.int (0 : Int32))] [])) X9326 (fun t k => XS.icmpYes X9326.here hx rfl (pc0 := 17) (pc' := 38) rfl (hb hby d6_17) rfl (flt (show ¬ ((17 : Int32) < (2 : Int32)) by first | decide | exact Int32.lt_irrefl _ | exact Int64.lt_irrefl _)).2.2.2 (by decide) (by decide) k) ?_
  refine OwnFin.step (g' := (mkF m 39 #[.val (.ref b1), .val (.ref b3207), .val (.int (0 : Int32))] [(.ref b1)])) X9326 (fun t k => XS.aloadN X9326.here hx rfl (hb hby d6_38) rfl rfl k) ?_
  obtain ⟨T9328, X9328, e9328, st9328⟩ := getF X9326 hx hZ hown (host := "") (Or.inl (hw _ (wm 10 rfl))) Via.refl e9326 F9325 (g := (mkF m 39 #[.val (.ref b1), .val (.ref b3207), .val (.int (0 : Int32))] [(.ref b1)])) rfl rfl (hb hby d6_39)
  refine OwnFin.step (g' := (mkF m 42 #[.val (.ref b1), .val (.ref b3207), .val (.int (0 : Int32))] [(.ref b1004)])) X9328 (fun t k => st9328 _ k) ?_
  refine OwnFin.step (g' := (mkF m 43 #[.val (.ref b1), .val (.ref b3207), .val (.int (0 : Int32))] [(.int (0 : Int32)), (.ref b1004)])) X9328 (fun t k => XS.iloadN X9328.here hx rfl (hb hby d6_42) rfl k) ?_
  refine OwnFin.step (g' := (mkF m 44 #[.val (.ref b1), .val (.ref b3207), .val (.int (0 : Int32))] [(.ref b1), (.int (0 : Int32)), (.ref b1004)])) X9328 (fun t k => XS.aloadN X9328.here hx rfl (hb hby d6_43) rfl rfl k) ?_
  have F9329 := (F_m_stepCount_b1.keep K4212 (ninS ne_b1_b1023 (ninS ne_b1_b3042 (ninS ne_b1_b3055 nin0))))
  obtain ⟨T9330, X9330, e9330, st9330⟩ := getF X9328 hx hZ hown (host := "") (Or.inl (hw _ (wm 79 rfl))) Via.refl e9328 F9329 (g := (mkF m 44 #[.val (.ref b1), .val (.ref b3207), .val (.int (0 : Int32))] [(.ref b1), (.int (0 : Int32)), (.ref b1004)])) rfl rfl (hb hby d6_44)
  refine OwnFin.step (g' := (mkF m 47 #[.val (.ref b1), .val (.ref b3207), .val (.int (0 : Int32))] [(.int (0 : Int32)), (.int (0 : Int32)), (.ref b1004)])) X9330 (fun t k => st9330 _ k) ?_
  obtain ⟨T9331, h9331, L9331, X9331, e9331, N9331, K9331, A9331, st9331⟩ := own_stI X9330 hx hZ e9330 N4212 (G := (fun _ => (0 : Int32))) A9327 g_b1004 (j := (0 : Int32)) (x := (0 : Int32)) (by decide) (g := (mkF m 47 #[.val (.ref b1), .val (.ref b3207), .val (.int (0 : Int32))] [(.int (0 : Int32)), (.int (0 : Int32)), (.ref b1004)])) rfl rfl (hb hby d6_47)
  have B9331 : Ary Z h9331 b1004 .int 17 (fun i => .int ((Gs46_47) i)) := A9331
  have Z9331 := Nat.le_trans Z4212 K9331.1
  have S9331 := Nat.le_trans S4212 K9331.1
  refine OwnFin.step (g' := (mkF m 48 #[.val (.ref b1), .val (.ref b3207), .val (.int (0 : Int32))] [])) X9331 (fun t k => st9331 _ k) ?_
  refine OwnFin.step (g' := (mkF m 49 #[.val (.ref b1), .val (.ref b3207), .val (.int (0 : Int32))] [(.ref b1)])) X9331 (fun t k => XS.aloadN X9331.here hx rfl (hb hby d6_48) rfl rfl k) ?_
  have F9332 := (F9325.keep K9331 (ninS ne_b1_b1004 nin0))
  obtain ⟨T9333, X9333, e9333, st9333⟩ := getF X9331 hx hZ hown (host := "") (Or.inl (hw _ (wm 10 rfl))) Via.refl e9331 F9332 (g := (mkF m 49 #[.val (.ref b1), .val (.ref b3207), .val (.int (0 : Int32))] [(.ref b1)])) rfl rfl (hb hby d6_49)
  refine OwnFin.step (g' := (mkF m 52 #[.val (.ref b1), .val (.ref b3207), .val (.int (0 : Int32))] [(.ref b1004)])) X9333 (fun t k => st9333 _ k) ?_
  refine OwnFin.step (g' := (mkF m 53 #[.val (.ref b1), .val (.ref b3207), .val (.int (0 : Int32))] [(.int (0 : Int32)), (.ref b1004)])) X9333 (fun t k => XS.iloadN X9333.here hx rfl (hb hby d6_52) rfl k) ?_
  refine OwnFin.step (g' := (mkF m 54 #[.val (.ref b1), .val (.ref b3207), .val (.int (0 : Int32))] [(.int (1 : Int32)), (.int (0 : Int32)), (.ref b1004)])) X9333 (fun t k => XS.iconst X9333.here hx rfl (hb hby d6_53) k) ?_
  refine OwnFin.step (g' := (mkF m 55 #[.val (.ref b1), .val (.ref b3207), .val (.int (0 : Int32))] [(.int (1 : Int32)), (.ref b1004)])) X9333 (fun t k => XS.iadd X9333.here hx rfl (hb hby d6_54) rfl k) ?_
  refine OwnFin.step (g' := (mkF m 56 #[.val (.ref b1), .val (.ref b3207), .val (.int (0 : Int32))] [(.ref b1), (.int (1 : Int32)), (.ref b1004)])) X9333 (fun t k => XS.aloadN X9333.here hx rfl (hb hby d6_55) rfl rfl k) ?_
  have F9334 := (F9329.keep K9331 (ninS ne_b1_b1004 nin0))
  obtain ⟨T9335, X9335, e9335, st9335⟩ := getF X9333 hx hZ hown (host := "") (Or.inl (hw _ (wm 79 rfl))) Via.refl e9333 F9334 (g := (mkF m 56 #[.val (.ref b1), .val (.ref b3207), .val (.int (0 : Int32))] [(.ref b1), (.int (1 : Int32)), (.ref b1004)])) rfl rfl (hb hby d6_56)
  refine OwnFin.step (g' := (mkF m 59 #[.val (.ref b1), .val (.ref b3207), .val (.int (0 : Int32))] [(.int (0 : Int32)), (.int (1 : Int32)), (.ref b1004)])) X9335 (fun t k => st9335 _ k) ?_
  obtain ⟨T9336, h9336, L9336, X9336, e9336, N9336, K9336, A9336, st9336⟩ := own_stI X9335 hx hZ e9335 N9331 (G := (Gs46_47)) B9331 g_b1004 (j := (1 : Int32)) (x := (0 : Int32)) (by decide) (g := (mkF m 59 #[.val (.ref b1), .val (.ref b3207), .val (.int (0 : Int32))] [(.int (0 : Int32)), (.int (1 : Int32)), (.ref b1004)])) rfl rfl (hb hby d6_59)
  have B9336 : Ary Z h9336 b1004 .int 17 (fun i => .int ((Gs46_59) i)) := A9336
  have Z9336 := Nat.le_trans Z9331 K9336.1
  have S9336 := Nat.le_trans S9331 K9336.1
  refine OwnFin.step (g' := (mkF m 60 #[.val (.ref b1), .val (.ref b3207), .val (.int (0 : Int32))] [])) X9336 (fun t k => st9336 _ k) ?_
  have E9337 := (Exa.keep (Exa.keep u9317 K9331) K9336)
  have F9338 := ((u9318.keep K9331 (ninS (Ne.symm ne_b1004_b1023) nin0)).keep K9336 (ninS (Ne.symm ne_b1004_b1023) nin0))
  have F9339 := ((u9319.keep K9331 (ninS (Ne.symm ne_b1004_b1023) nin0)).keep K9336 (ninS (Ne.symm ne_b1004_b1023) nin0))
  have F9340 := ((u9320.keep K9331 (ninS (Ne.symm ne_b1004_b1023) nin0)).keep K9336 (ninS (Ne.symm ne_b1004_b1023) nin0))
  have F9341 := ((u9321.keep K9331 (ninS (Ne.symm ne_b1004_b1023) nin0)).keep K9336 (ninS (Ne.symm ne_b1004_b1023) nin0))
  have F9342 := ((u9322.keep K9331 (ninS (Ne.symm ne_b1004_b1023) nin0)).keep K9336 (ninS (Ne.symm ne_b1004_b1023) nin0))
  have A9343 := ((u9323.keep K9331 (ninS (Ne.symm ne_b1004_b3042) nin0)).keep K9336 (ninS (Ne.symm ne_b1004_b3042) nin0))
  have A9344 := ((u9324.keep K9331 (ninS (Ne.symm ne_b1004_b3055) nin0)).keep K9336 (ninS (Ne.symm ne_b1004_b3055) nin0))
  refine OwnFin.retVoid X9336 (hb hby d6_60) (by decide) (by decide) ?_
  rw [e9336]
  exact ⟨rfl, N9336, (Keep.trans (Keep.trans (Keep.trans (Keep.refl h0 [b1004, b1023, b3042, b3055]) K4212 (allS (Or.inl (wm 1 rfl)) (allS (Or.inl (wm 2 rfl)) (allS (Or.inl (wm 3 rfl)) all0)))) K9331 (allS (Or.inl (wm 0 rfl)) all0)) K9336 (allS (Or.inl (wm 0 rfl)) all0)), B9336, E9337, F9338, F9339, F9340, F9341, F9342, A9343, A9344⟩)
def Q4s3 (Z : State) (b1023 : Addr) (h0 : Heap) (n0 : Nat) : Option Value → Heap → List Loc → Prop := fun v h L => ∃ b3042 b3055 : Addr, v = none ∧ Fr n0 L ∧ Keep h0 h [b1023] ∧ Exa Z h b1023 "com/example/ken2/ken2/TupleTable" ∧ Fld Z h b1023 "com/example/ken2/ken2/TupleTable" "m_width" "I" (.int (2 : Int32)) ∧ Fld Z h b1023 "com/example/ken2/ken2/TupleTable" "m_capacity" "I" (.int (536870912 : Int32)) ∧ Fld Z h b1023 "com/example/ken2/ken2/TupleTable" "m_tuples" "[J" (.ref b3042) ∧ Fld Z h b1023 "com/example/ken2/ken2/TupleTable" "m_slots" "[J" (.ref b3055) ∧ Fld Z h b1023 "com/example/ken2/ken2/TupleTable" "m_size" "I" (.int (0 : Int32)) ∧ Ary Z h b3042 .long 32 (fun i => .long ((fun _ => (0 : Int64)) i)) ∧ n0 ≤ b3042 ∧ h0.size ≤ b3042 ∧ Ary Z h b3055 .long 32 (fun i => .long ((fun _ => (0 : Int64)) i)) ∧ n0 ≤ b3055 ∧ h0.size ≤ b3055 ∧ b3042 ≠ b3055
abbrev Las34_0 (b1023 : Addr) : Array Slot := #[.val (.ref b1023), .val (.int (2 : Int32)), .val (.int (536870912 : Int32))]
set_option maxRecDepth 65536 in
set_option maxHeartbeats 40000000 in
theorem rm4s3 (l : Launch) (Z : State) (a0 : Array Value) (hw : ∀ d ∈ tables_1, d.before a0 Z = true) (ws : List Jvm.Cond) (b1023 : Addr) (h0 : Heap) (n0 : Nat) (Z0 : n0 ≤ h0.size) (E_b1023 : Exa Z h0 b1023 "com/example/ken2/ken2/TupleTable") (F_m_width_b1023 : Fld Z h0 b1023 "com/example/ken2/ken2/TupleTable" "m_width" "I" (.int (0 : Int32))) (F_m_capacity_b1023 : Fld Z h0 b1023 "com/example/ken2/ken2/TupleTable" "m_capacity" "I" (.int (0 : Int32))) (F_m_tuples_b1023 : Fld Z h0 b1023 "com/example/ken2/ken2/TupleTable" "m_tuples" "[J" .null) (F_m_slots_b1023 : Fld Z h0 b1023 "com/example/ken2/ken2/TupleTable" "m_slots" "[J" .null) (F_m_size_b1023 : Fld Z h0 b1023 "com/example/ken2/ken2/TupleTable" "m_size" "I" (.int (0 : Int32))) (g_b1023 : n0 ≤ b1023) :
    MetFree l (⟨"com/example/ken2/ken2/TupleTable", "<init>", "(II)V"⟩ : MethodName) (head1 (Jvm.Cond.code (⟨"com/example/ken2/ken2/TupleTable", "<init>", "(II)V"⟩ : MethodName) prog_120_method_2_code 3 none :: ws) ({ frames := 1, cells := 2, slots := 64, locals := 14 } : Room)) (fun a U => a = #[(.ref b1023), (.int (2 : Int32)), (.int (536870912 : Int32))] ∧ Z.Warmed39 U.vm ∧ U.heap = h0) (fun _ _ _ _ _ => True) (fun _ U o U' => ∃ v L, o = .returned v ∧ (Q4s3 Z b1023 h0 n0) v U'.heap L ∧ FrameEnd U o U' L ({ frames := 1, cells := 2, slots := 64, locals := 14 } : Room).cells ({ frames := 1, cells := 2, slots := 64, locals := 14 } : Room).slots) :=
  own_met (ret := none) (Q := (Q4s3 Z b1023 h0 n0)) (plainFor_of_name pn_4) (fun m => ef_4 m b1023 (2 : Int32) (536870912 : Int32)) (fun p e s m below meth c T0 X0 hx hby hml hown hnm hZ e0 => by
  have N0 := Fr.nil n0
  refine OwnFin.step (g' := (mkF m 1 (Las34_0 b1023) [(.ref b1023)])) X0 (fun t k => XS.aloadN X0.here hx rfl (hb hby d4_0) rfl rfl k) ?_
  obtain ⟨T3027, X3027, e3027, st3027⟩ := initO X0 hx hZ hown (hw _ (wm 24 rfl)) (hw _ (wm 7 rfl)) (hw _ (wm 8 rfl)) e0 (g := (mkF m 1 (Las34_0 b1023) [(.ref b1023)])) rfl (by rw [hml]; rfl) rfl (hb hby d4_1) (by decide) (W := 0) (by show 2 * 0 + _ ≤ _; exact Nat.le_of_eq rfl) (by decide)
  refine OwnFin.step (g' := (mkF m 4 (Las34_0 b1023) [])) X3027 (fun t k => st3027 _ k) ?_
  refine OwnFin.step (g' := (mkF m 5 (Las34_0 b1023) [(.ref b1023)])) X3027 (fun t k => XS.aloadN X3027.here hx rfl (hb hby d4_4) rfl rfl k) ?_
  refine OwnFin.step (g' := (mkF m 6 (Las34_0 b1023) [(.int (2 : Int32)), (.ref b1023)])) X3027 (fun t k => XS.iloadN X3027.here hx rfl (hb hby d4_5) rfl k) ?_
  obtain ⟨T3028, h3028, L3028, X3028, e3028, N3028, W3028, F3028, st3028⟩ := own_putF X3027 hx hZ hown (hw _ (wm 25 rfl)) e3027 N0 F_m_width_b1023 E_b1023 g_b1023 (Or.inr ⟨(hw _ (wm 26 rfl)), rfl, hnm⟩) (hw _ (wm 15 rfl)) (fty := .int) (by decide) rfl rfl (g := (mkF m 6 (Las34_0 b1023) [(.int (2 : Int32)), (.ref b1023)])) rfl rfl (hb hby d4_6)
  have K3028 := Keep.of_wr W3028
  have Z3028 := Nat.le_trans Z0 K3028.1
  have S3028 := Nat.le_trans (Nat.le_refl h0.size) K3028.1
  have F3029 := Fld.other W3028 F_m_capacity_b1023 (Or.inr (slot_ne (Or.inr (hw _ (wm 33 rfl))) (Or.inr (hw _ (wm 26 rfl))) (by decide) (t := .int) (t' := .int) (by decide) (by decide)))
  have F3030 := Fld.other W3028 F_m_tuples_b1023 (Or.inr (slot_ne (Or.inl (hw _ (wm 36 rfl))) (Or.inr (hw _ (wm 26 rfl))) (by decide) (t := (.array .long)) (t' := .int) (by decide) (by decide)))
  have F3031 := Fld.other W3028 F_m_slots_b1023 (Or.inr (slot_ne (Or.inl (hw _ (wm 38 rfl))) (Or.inr (hw _ (wm 26 rfl))) (by decide) (t := (.array .long)) (t' := .int) (by decide) (by decide)))
  have F3032 := Fld.other W3028 F_m_size_b1023 (Or.inr (slot_ne (Or.inl (hw _ (wm 69 rfl))) (Or.inr (hw _ (wm 26 rfl))) (by decide) (t := .int) (t' := .int) (by decide) (by decide)))
  have E3033 := Exa.wr W3028 E_b1023
  refine OwnFin.step (g' := (mkF m 9 (Las34_0 b1023) [])) X3028 (fun t k => st3028 _ k) ?_
  refine OwnFin.step (g' := (mkF m 10 (Las34_0 b1023) [(.ref b1023)])) X3028 (fun t k => XS.aloadN X3028.here hx rfl (hb hby d4_9) rfl rfl k) ?_
  refine OwnFin.step (g' := (mkF m 12 (Las34_0 b1023) [(.int (536870912 : Int32)), (.ref b1023)])) X3028 (fun t k => X3028.ldcInt hx hown (mvT hZ (hw _ (wm 20 rfl))) (g := (mkF m 10 (Las34_0 b1023) [(.ref b1023)])) rfl (hb hby d4_10) _ k) ?_
  refine OwnFin.step (g' := (mkF m 13 (Las34_0 b1023) [(.int (536870912 : Int32)), (.int (536870912 : Int32)), (.ref b1023)])) X3028 (fun t k => XS.iloadN X3028.here hx rfl (hb hby d4_12) rfl k) ?_
  obtain ⟨_, T3034, L3034, X3034, ⟨rfl, f3034, N3034q⟩, st3034⟩ := own_callS X3028 hx hZ (y := (⟨"java/lang/Math", "min", "(II)I"⟩ : MethodName)) (W := 1) (argsL := [(.int (536870912 : Int32)), (.int (536870912 : Int32))]) (rest := [(.ref b1023)]) hown (hw _ (wm 27 rfl)) (hw _ (wm 28 rfl)) (hw _ (wm 29 rfl)) (hw _ (wm 30 rfl)) (by decide) (rm5 l Z a0 hw [] (536870912 : Int32) (536870912 : Int32) h3028 n0 Z3028) (by decide) (by decide) (by decide) (by decide) e3028 (g := (mkF m 13 (Las34_0 b1023) [(.int (536870912 : Int32)), (.int (536870912 : Int32)), (.ref b1023)])) rfl (by rw [hml]; rfl) pd_0 rfl rfl (by show 2 * 0 + _ ≤ _; exact Nat.le_of_eq rfl) (hb hby d4_13)
  have N3034 := Fr.app N3028 N3034q
  rw [show (r5 (536870912 : Int32) (536870912 : Int32)) = (536870912 : Int32) from by decide] at st3034
  refine OwnFin.step (g' := (mkF m 16 (Las34_0 b1023) [(.int (536870912 : Int32)), (.ref b1023)])) X3034 (fun t k => st3034 _ k) ?_
  refine OwnFin.step (g' := (mkF m 18 (Las34_0 b1023) [(.int (2147483639 : Int32)), (.int (536870912 : Int32)), (.ref b1023)])) X3034 (fun t k => X3034.ldcInt hx hown (mvT hZ (hw _ (wm 31 rfl))) (g := (mkF m 16 (Las34_0 b1023) [(.int (536870912 : Int32)), (.ref b1023)])) rfl (hb hby d4_16) _ k) ?_
  refine OwnFin.step (g' := (mkF m 19 (Las34_0 b1023) [(.int (2 : Int32)), (.int (2147483639 : Int32)), (.int (536870912 : Int32)), (.ref b1023)])) X3034 (fun t k => XS.iloadN X3034.here hx rfl (hb hby d4_18) rfl k) ?_
  refine OwnFin.step (g' := (mkF m 20 (Las34_0 b1023) [(.int (1073741819 : Int32)), (.int (536870912 : Int32)), (.ref b1023)])) X3034 (fun t k => XS.idiv X3034.here hx rfl (hb hby d4_19) rfl (by decide) k) ?_
  obtain ⟨_, T3035, L3035, X3035, ⟨rfl, f3035, N3035q⟩, st3035⟩ := own_callS X3034 hx hZ (y := (⟨"java/lang/Math", "min", "(II)I"⟩ : MethodName)) (W := 1) (argsL := [(.int (536870912 : Int32)), (.int (1073741819 : Int32))]) (rest := [(.ref b1023)]) hown (hw _ (wm 27 rfl)) (hw _ (wm 28 rfl)) (hw _ (wm 29 rfl)) (hw _ (wm 30 rfl)) (by decide) (rm5 l Z a0 hw [] (536870912 : Int32) (1073741819 : Int32) h3028 n0 Z3028) (by decide) (by decide) (by decide) (by decide) f3034 (g := (mkF m 20 (Las34_0 b1023) [(.int (1073741819 : Int32)), (.int (536870912 : Int32)), (.ref b1023)])) rfl (by rw [hml]; rfl) pd_0 rfl rfl (by show 2 * 0 + _ ≤ _; exact Nat.le_of_eq rfl) (hb hby d4_20)
  have N3035 := Fr.app N3034 N3035q
  rw [show (r5 (536870912 : Int32) (1073741819 : Int32)) = (536870912 : Int32) from by decide] at st3035
  refine OwnFin.step (g' := (mkF m 23 (Las34_0 b1023) [(.int (536870912 : Int32)), (.ref b1023)])) X3035 (fun t k => st3035 _ k) ?_
  obtain ⟨T3036, h3036, L3036, X3036, e3036, N3036, W3036, F3036, st3036⟩ := own_putF X3035 hx hZ hown (hw _ (wm 32 rfl)) f3035 N3035 F3029 E3033 g_b1023 (Or.inr ⟨(hw _ (wm 33 rfl)), rfl, hnm⟩) (hw _ (wm 15 rfl)) (fty := .int) (by decide) rfl rfl (g := (mkF m 23 (Las34_0 b1023) [(.int (536870912 : Int32)), (.ref b1023)])) rfl rfl (hb hby d4_23)
  have K3036 := Keep.of_wr W3036
  have Z3036 := Nat.le_trans Z3028 K3036.1
  have S3036 := Nat.le_trans S3028 K3036.1
  have F3037 := Fld.other W3036 F3028 (Or.inr (slot_ne (Or.inr (hw _ (wm 26 rfl))) (Or.inr (hw _ (wm 33 rfl))) (by decide) (t := .int) (t' := .int) (by decide) (by decide)))
  have F3038 := Fld.other W3036 F3030 (Or.inr (slot_ne (Or.inl (hw _ (wm 36 rfl))) (Or.inr (hw _ (wm 33 rfl))) (by decide) (t := (.array .long)) (t' := .int) (by decide) (by decide)))
  have F3039 := Fld.other W3036 F3031 (Or.inr (slot_ne (Or.inl (hw _ (wm 38 rfl))) (Or.inr (hw _ (wm 33 rfl))) (by decide) (t := (.array .long)) (t' := .int) (by decide) (by decide)))
  have F3040 := Fld.other W3036 F3032 (Or.inr (slot_ne (Or.inl (hw _ (wm 69 rfl))) (Or.inr (hw _ (wm 33 rfl))) (by decide) (t := .int) (t' := .int) (by decide) (by decide)))
  have E3041 := Exa.wr W3036 E3033
  refine OwnFin.step (g' := (mkF m 26 (Las34_0 b1023) [])) X3036 (fun t k => st3036 _ k) ?_
  refine OwnFin.step (g' := (mkF m 27 (Las34_0 b1023) [(.ref b1023)])) X3036 (fun t k => XS.aloadN X3036.here hx rfl (hb hby d4_26) rfl rfl k) ?_
  refine OwnFin.step (g' := (mkF m 29 (Las34_0 b1023) [(.int (16 : Int32)), (.ref b1023)])) X3036 (fun t k => XS.bipush X3036.here hx rfl (hb hby d4_27) k) ?_
  refine OwnFin.step (g' := (mkF m 30 (Las34_0 b1023) [(.int (2 : Int32)), (.int (16 : Int32)), (.ref b1023)])) X3036 (fun t k => XS.iloadN X3036.here hx rfl (hb hby d4_29) rfl k) ?_
  refine OwnFin.step (g' := (mkF m 31 (Las34_0 b1023) [(.int (32 : Int32)), (.ref b1023)])) X3036 (fun t k => XS.imul X3036.here hx rfl (hb hby d4_30) rfl k) ?_
  obtain ⟨T3042, h3042, b3042, X3042, e3042, y3042, K3042, A3042, st3042⟩ := own_new X3036 hx hZ (hw _ (wm 34 rfl)) e3036 (g := (mkF m 31 (Las34_0 b1023) [(.int (32 : Int32)), (.ref b1023)])) rfl (hb hby d4_31) rfl (by decide) (cap := 32) (by decide) (by decide) (by decide) (by decide)
  have B3042 : Ary Z h3042 b3042 .long 32 (fun i => .long ((fun _ => (0 : Int64)) i)) := A3042
  have ne_b1023_b3042 : b1023 ≠ b3042 := Exa.neS E3041 y3042
  have g_b3042 : n0 ≤ b3042 := by rw [y3042]; exact Z3036
  have sz_b3042 : h0.size ≤ b3042 := by rw [y3042]; exact S3036
  have Z3042 := Nat.le_trans Z3036 K3042.1
  have S3042 := Nat.le_trans S3036 K3042.1
  refine OwnFin.step (g' := (mkF m 33 (Las34_0 b1023) [(.ref b3042), (.ref b1023)])) X3042 (fun t k => st3042 _ k) ?_
  have E3043 := (Exa.keep E3041 K3042)
  have F3044 := (F3037.keep K3042 nin0)
  have F3045 := (F3036.keep K3042 nin0)
  have F3046 := (F3038.keep K3042 nin0)
  have F3047 := (F3039.keep K3042 nin0)
  have F3048 := (F3040.keep K3042 nin0)
  obtain ⟨T3049, h3049, L3049, X3049, e3049, N3049, W3049, F3049, st3049⟩ := own_putF X3042 hx hZ hown (hw _ (wm 35 rfl)) e3042 N3036 F3046 E3043 g_b1023 (Or.inl (hw _ (wm 36 rfl))) (hw _ (wm 15 rfl)) (fty := (.array .long)) (by decide) rfl rfl (g := (mkF m 33 (Las34_0 b1023) [(.ref b3042), (.ref b1023)])) rfl rfl (hb hby d4_33)
  have K3049 := Keep.of_wr W3049
  have Z3049 := Nat.le_trans Z3042 K3049.1
  have S3049 := Nat.le_trans S3042 K3049.1
  have F3050 := Fld.other W3049 F3044 (Or.inr (slot_ne (Or.inr (hw _ (wm 26 rfl))) (Or.inl (hw _ (wm 36 rfl))) (by decide) (t := .int) (t' := (.array .long)) (by decide) (by decide)))
  have F3051 := Fld.other W3049 F3045 (Or.inr (slot_ne (Or.inr (hw _ (wm 33 rfl))) (Or.inl (hw _ (wm 36 rfl))) (by decide) (t := .int) (t' := (.array .long)) (by decide) (by decide)))
  have F3052 := Fld.other W3049 F3047 (Or.inr (slot_ne (Or.inl (hw _ (wm 38 rfl))) (Or.inl (hw _ (wm 36 rfl))) (by decide) (t := (.array .long)) (t' := (.array .long)) (by decide) (by decide)))
  have F3053 := Fld.other W3049 F3048 (Or.inr (slot_ne (Or.inl (hw _ (wm 69 rfl))) (Or.inl (hw _ (wm 36 rfl))) (by decide) (t := .int) (t' := (.array .long)) (by decide) (by decide)))
  have E3054 := Exa.wr W3049 E3043
  refine OwnFin.step (g' := (mkF m 36 (Las34_0 b1023) [])) X3049 (fun t k => st3049 _ k) ?_
  refine OwnFin.step (g' := (mkF m 37 (Las34_0 b1023) [(.ref b1023)])) X3049 (fun t k => XS.aloadN X3049.here hx rfl (hb hby d4_36) rfl rfl k) ?_
  refine OwnFin.step (g' := (mkF m 39 (Las34_0 b1023) [(.int (32 : Int32)), (.ref b1023)])) X3049 (fun t k => XS.bipush X3049.here hx rfl (hb hby d4_37) k) ?_
  obtain ⟨T3055, h3055, b3055, X3055, e3055, y3055, K3055, A3055, st3055⟩ := own_new X3049 hx hZ (hw _ (wm 34 rfl)) e3049 (g := (mkF m 39 (Las34_0 b1023) [(.int (32 : Int32)), (.ref b1023)])) rfl (hb hby d4_39) rfl (by decide) (cap := 32) (by decide) (by decide) (by decide) (by decide)
  have B3055 : Ary Z h3055 b3055 .long 32 (fun i => .long ((fun _ => (0 : Int64)) i)) := A3055
  have ne_b1023_b3055 : b1023 ≠ b3055 := Exa.neS E3054 y3055
  have A3056 := (B3042.keep K3049 (ninS (Ne.symm ne_b1023_b3042) nin0))
  have ne_b3042_b3055 : b3042 ≠ b3055 := Ary.neS A3056 y3055
  have g_b3055 : n0 ≤ b3055 := by rw [y3055]; exact Z3049
  have sz_b3055 : h0.size ≤ b3055 := by rw [y3055]; exact S3049
  have Z3055 := Nat.le_trans Z3049 K3055.1
  have S3055 := Nat.le_trans S3049 K3055.1
  refine OwnFin.step (g' := (mkF m 41 (Las34_0 b1023) [(.ref b3055), (.ref b1023)])) X3055 (fun t k => st3055 _ k) ?_
  have E3057 := (Exa.keep E3054 K3055)
  have F3058 := (F3050.keep K3055 nin0)
  have F3059 := (F3051.keep K3055 nin0)
  have F3060 := (F3049.keep K3055 nin0)
  have F3061 := (F3052.keep K3055 nin0)
  have F3062 := (F3053.keep K3055 nin0)
  obtain ⟨T3063, h3063, L3063, X3063, e3063, N3063, W3063, F3063, st3063⟩ := own_putF X3055 hx hZ hown (hw _ (wm 37 rfl)) e3055 N3049 F3061 E3057 g_b1023 (Or.inl (hw _ (wm 38 rfl))) (hw _ (wm 15 rfl)) (fty := (.array .long)) (by decide) rfl rfl (g := (mkF m 41 (Las34_0 b1023) [(.ref b3055), (.ref b1023)])) rfl rfl (hb hby d4_41)
  have K3063 := Keep.of_wr W3063
  have Z3063 := Nat.le_trans Z3055 K3063.1
  have S3063 := Nat.le_trans S3055 K3063.1
  have F3064 := Fld.other W3063 F3058 (Or.inr (slot_ne (Or.inr (hw _ (wm 26 rfl))) (Or.inl (hw _ (wm 38 rfl))) (by decide) (t := .int) (t' := (.array .long)) (by decide) (by decide)))
  have F3065 := Fld.other W3063 F3059 (Or.inr (slot_ne (Or.inr (hw _ (wm 33 rfl))) (Or.inl (hw _ (wm 38 rfl))) (by decide) (t := .int) (t' := (.array .long)) (by decide) (by decide)))
  have F3066 := Fld.other W3063 F3060 (Or.inr (slot_ne (Or.inl (hw _ (wm 36 rfl))) (Or.inl (hw _ (wm 38 rfl))) (by decide) (t := (.array .long)) (t' := (.array .long)) (by decide) (by decide)))
  have F3067 := Fld.other W3063 F3062 (Or.inr (slot_ne (Or.inl (hw _ (wm 69 rfl))) (Or.inl (hw _ (wm 38 rfl))) (by decide) (t := .int) (t' := (.array .long)) (by decide) (by decide)))
  have E3068 := Exa.wr W3063 E3057
  refine OwnFin.step (g' := (mkF m 44 (Las34_0 b1023) [])) X3063 (fun t k => st3063 _ k) ?_
  have A3069 := ((A3056.keep K3055 nin0).keep K3063 (ninS (Ne.symm ne_b1023_b3042) nin0))
  have A3070 := (B3055.keep K3063 (ninS (Ne.symm ne_b1023_b3055) nin0))
  refine OwnFin.retVoid X3063 (hb hby d4_44) (by decide) (by decide) ?_
  rw [e3063]
  exact ⟨b3042, b3055, rfl, N3063, (Keep.trans (Keep.trans (Keep.trans (Keep.trans (Keep.trans (Keep.trans (Keep.refl h0 [b1023]) K3028 (allS (Or.inl (wm 0 rfl)) all0)) K3036 (allS (Or.inl (wm 0 rfl)) all0)) K3042 all0) K3049 (allS (Or.inl (wm 0 rfl)) all0)) K3055 all0) K3063 (allS (Or.inl (wm 0 rfl)) all0)), E3068, F3064, F3065, F3066, F3063, F3067, A3069, g_b3042, sz_b3042, A3070, g_b3055, sz_b3055, ne_b3042_b3055⟩)
def Q3s2 (Z : State) (b1023 : Addr) (h0 : Heap) (n0 : Nat) : Option Value → Heap → List Loc → Prop := fun v h L => ∃ b3042 b3055 : Addr, v = none ∧ Fr n0 L ∧ Keep h0 h [b1023] ∧ Exa Z h b1023 "com/example/ken2/ken2/TupleTable" ∧ Fld Z h b1023 "com/example/ken2/ken2/TupleTable" "m_width" "I" (.int (2 : Int32)) ∧ Fld Z h b1023 "com/example/ken2/ken2/TupleTable" "m_capacity" "I" (.int (536870912 : Int32)) ∧ Fld Z h b1023 "com/example/ken2/ken2/TupleTable" "m_tuples" "[J" (.ref b3042) ∧ Fld Z h b1023 "com/example/ken2/ken2/TupleTable" "m_slots" "[J" (.ref b3055) ∧ Fld Z h b1023 "com/example/ken2/ken2/TupleTable" "m_size" "I" (.int (0 : Int32)) ∧ Ary Z h b3042 .long 32 (fun i => .long ((fun _ => (0 : Int64)) i)) ∧ n0 ≤ b3042 ∧ h0.size ≤ b3042 ∧ Ary Z h b3055 .long 32 (fun i => .long ((fun _ => (0 : Int64)) i)) ∧ n0 ≤ b3055 ∧ h0.size ≤ b3055 ∧ b3042 ≠ b3055
set_option maxRecDepth 65536 in
set_option maxHeartbeats 40000000 in
theorem rm3s2 (l : Launch) (Z : State) (a0 : Array Value) (hw : ∀ d ∈ tables_1, d.before a0 Z = true) (ws : List Jvm.Cond) (b1023 : Addr) (h0 : Heap) (n0 : Nat) (Z0 : n0 ≤ h0.size) (E_b1023 : Exa Z h0 b1023 "com/example/ken2/ken2/TupleTable") (F_m_width_b1023 : Fld Z h0 b1023 "com/example/ken2/ken2/TupleTable" "m_width" "I" (.int (0 : Int32))) (F_m_capacity_b1023 : Fld Z h0 b1023 "com/example/ken2/ken2/TupleTable" "m_capacity" "I" (.int (0 : Int32))) (F_m_tuples_b1023 : Fld Z h0 b1023 "com/example/ken2/ken2/TupleTable" "m_tuples" "[J" .null) (F_m_slots_b1023 : Fld Z h0 b1023 "com/example/ken2/ken2/TupleTable" "m_slots" "[J" .null) (F_m_size_b1023 : Fld Z h0 b1023 "com/example/ken2/ken2/TupleTable" "m_size" "I" (.int (0 : Int32))) (g_b1023 : n0 ≤ b1023) :
    MetFree l (⟨"com/example/ken2/ken2/TupleTable", "<init>", "(I)V"⟩ : MethodName) (head1 (Jvm.Cond.code (⟨"com/example/ken2/ken2/TupleTable", "<init>", "(I)V"⟩ : MethodName) prog_120_method_1_code 2 none :: ws) ({ frames := 2, cells := 2, slots := 64, locals := 28 } : Room)) (fun a U => a = #[(.ref b1023), (.int (2 : Int32))] ∧ Z.Warmed39 U.vm ∧ U.heap = h0) (fun _ _ _ _ _ => True) (fun _ U o U' => ∃ v L, o = .returned v ∧ (Q3s2 Z b1023 h0 n0) v U'.heap L ∧ FrameEnd U o U' L ({ frames := 2, cells := 2, slots := 64, locals := 28 } : Room).cells ({ frames := 2, cells := 2, slots := 64, locals := 28 } : Room).slots) :=
  own_met (ret := none) (Q := (Q3s2 Z b1023 h0 n0)) (plainFor_of_name pn_3) (fun m => ef_3 m b1023 (2 : Int32)) (fun p e s m below meth c T0 X0 hx hby hml hown hnm hZ e0 => by
  have N0 := Fr.nil n0
  refine OwnFin.step (g' := (mkF m 1 #[.val (.ref b1023), .val (.int (2 : Int32))] [(.ref b1023)])) X0 (fun t k => XS.aloadN X0.here hx rfl (hb hby d3_0) rfl rfl k) ?_
  refine OwnFin.step (g' := (mkF m 2 #[.val (.ref b1023), .val (.int (2 : Int32))] [(.int (2 : Int32)), (.ref b1023)])) X0 (fun t k => XS.iloadN X0.here hx rfl (hb hby d3_1) rfl k) ?_
  refine OwnFin.step (g' := (mkF m 4 #[.val (.ref b1023), .val (.int (2 : Int32))] [(.int (536870912 : Int32)), (.int (2 : Int32)), (.ref b1023)])) X0 (fun t k => X0.ldcInt hx hown (mvT hZ (hw _ (wm 20 rfl))) (g := (mkF m 2 #[.val (.ref b1023), .val (.int (2 : Int32))] [(.int (2 : Int32)), (.ref b1023)])) rfl (hb hby d3_2) _ k) ?_
  obtain ⟨_, T2026, L2026, X2026, ⟨b3042, b3055, rfl, N2026q, u3081, u3082, u3083, u3084, u3085, u3086, u3087, u3088, u3089, u3090, u3091, u3092, u3093, u3094⟩, st2026⟩ := own_callI X0 hx hZ (y := (⟨"com/example/ken2/ken2/TupleTable", "<init>", "(II)V"⟩ : MethodName)) (W := 0) (a := b1023) (argsL := [(.int (2 : Int32)), (.int (536870912 : Int32))]) (rest := []) rfl hown (hw _ (wm 21 rfl)) (hw _ (wm 22 rfl)) (hw _ (wm 16 rfl)) (hw _ (wm 23 rfl)) (by decide) (rm4s3 l Z a0 hw [] b1023 h0 n0 Z0 E_b1023 F_m_width_b1023 F_m_capacity_b1023 F_m_tuples_b1023 F_m_slots_b1023 F_m_size_b1023 g_b1023) (by decide) (by decide) (by decide) (by decide) e0 (g := (mkF m 4 #[.val (.ref b1023), .val (.int (2 : Int32))] [(.int (536870912 : Int32)), (.int (2 : Int32)), (.ref b1023)])) rfl (by rw [hml]; rfl) pd_1 rfl rfl (by show 2 * 0 + _ ≤ _; exact Nat.le_of_eq rfl) (hb hby d3_4)
  have N2026 := Fr.app N0 N2026q
  obtain ⟨h2026, e2026⟩ : ∃ z, T2026.heap = z := ⟨_, rfl⟩
  rw [e2026] at u3081 u3082 u3083 u3084 u3085 u3086 u3087 u3088 u3091
  have K2026 := u3081
  have Z2026 := Nat.le_trans Z0 K2026.1
  have S2026 := Nat.le_trans (Nat.le_refl h0.size) K2026.1
  have ne_b1023_b3042 : b1023 ≠ b3042 := Nat.ne_of_lt (Nat.lt_of_lt_of_le (E_b1023).lt u3090)
  have sz_b3042 : h0.size ≤ b3042 := Nat.le_trans (Nat.le_refl h0.size) u3090
  have ne_b1023_b3055 : b1023 ≠ b3055 := Nat.ne_of_lt (Nat.lt_of_lt_of_le (E_b1023).lt u3093)
  have sz_b3055 : h0.size ≤ b3055 := Nat.le_trans (Nat.le_refl h0.size) u3093
  refine OwnFin.step (g' := (mkF m 7 #[.val (.ref b1023), .val (.int (2 : Int32))] [])) X2026 (fun t k => st2026 _ k) ?_
  refine OwnFin.retVoid X2026 (hb hby d3_7) (by decide) (by decide) ?_
  rw [e2026]
  exact ⟨b3042, b3055, rfl, N2026, (Keep.trans (Keep.refl h0 [b1023]) K2026 (allS (Or.inl (wm 0 rfl)) all0)), u3082, u3083, u3084, u3085, u3086, u3087, u3088, u3089, sz_b3042, u3091, u3092, sz_b3055, u3094⟩)
def Q1s1 (Z : State) (b1 : Addr) (h0 : Heap) (n0 : Nat) : Option Value → Heap → List Loc → Prop := fun v h L => ∃ b1004 b1023 b3042 b3055 b3133 : Addr, v = none ∧ Fr n0 L ∧ Keep h0 h [b1] ∧ Exa Z h b1 "com/example/ken2/ken2/RememberedSteps" ∧ Fld Z h b1 "com/example/ken2/ken2/RememberedSteps" "m_firstSteps" "[I" (.ref b1004) ∧ Fld Z h b1 "com/example/ken2/ken2/RememberedSteps" "m_width" "I" (.int (2 : Int32)) ∧ Fld Z h b1 "com/example/ken2/ken2/RememberedSteps" "m_keys" "Lcom/example/ken2/ken2/TupleTable;" (.ref b1023) ∧ Fld Z h b1 "com/example/ken2/ken2/RememberedSteps" "m_steps" "[J" (.ref b3133) ∧ Fld Z h b1 "com/example/ken2/ken2/RememberedSteps" "m_stepCount" "I" (.int (0 : Int32)) ∧ Ary Z h b1004 .int 17 (fun i => .int ((fun _ => (0 : Int32)) i)) ∧ n0 ≤ b1004 ∧ h0.size ≤ b1004 ∧ Exa Z h b1023 "com/example/ken2/ken2/TupleTable" ∧ Fld Z h b1023 "com/example/ken2/ken2/TupleTable" "m_width" "I" (.int (2 : Int32)) ∧ Fld Z h b1023 "com/example/ken2/ken2/TupleTable" "m_capacity" "I" (.int (536870912 : Int32)) ∧ Fld Z h b1023 "com/example/ken2/ken2/TupleTable" "m_tuples" "[J" (.ref b3042) ∧ Fld Z h b1023 "com/example/ken2/ken2/TupleTable" "m_slots" "[J" (.ref b3055) ∧ Fld Z h b1023 "com/example/ken2/ken2/TupleTable" "m_size" "I" (.int (0 : Int32)) ∧ n0 ≤ b1023 ∧ h0.size ≤ b1023 ∧ Ary Z h b3042 .long 32 (fun i => .long ((fun _ => (0 : Int64)) i)) ∧ n0 ≤ b3042 ∧ h0.size ≤ b3042 ∧ Ary Z h b3055 .long 32 (fun i => .long ((fun _ => (0 : Int64)) i)) ∧ n0 ≤ b3055 ∧ h0.size ≤ b3055 ∧ Ary Z h b3133 .long 64 (fun i => .long ((fun _ => (0 : Int64)) i)) ∧ n0 ≤ b3133 ∧ h0.size ≤ b3133 ∧ b1004 ≠ b1023 ∧ b1004 ≠ b3042 ∧ b1004 ≠ b3055 ∧ b1004 ≠ b3133 ∧ b1023 ≠ b3042 ∧ b1023 ≠ b3055 ∧ b1023 ≠ b3133 ∧ b3042 ≠ b3055 ∧ b3042 ≠ b3133 ∧ b3055 ≠ b3133
set_option maxRecDepth 65536 in
set_option maxHeartbeats 40000000 in
theorem rm1s1 (l : Launch) (Z : State) (a0 : Array Value) (hw : ∀ d ∈ tables_1, d.before a0 Z = true) (ws : List Jvm.Cond) (b1 : Addr) (h0 : Heap) (n0 : Nat) (Z0 : n0 ≤ h0.size) (E_b1 : Exa Z h0 b1 "com/example/ken2/ken2/RememberedSteps") (F_m_firstSteps_b1 : Fld Z h0 b1 "com/example/ken2/ken2/RememberedSteps" "m_firstSteps" "[I" .null) (F_m_width_b1 : Fld Z h0 b1 "com/example/ken2/ken2/RememberedSteps" "m_width" "I" (.int (0 : Int32))) (F_m_keys_b1 : Fld Z h0 b1 "com/example/ken2/ken2/RememberedSteps" "m_keys" "Lcom/example/ken2/ken2/TupleTable;" .null) (F_m_steps_b1 : Fld Z h0 b1 "com/example/ken2/ken2/RememberedSteps" "m_steps" "[J" .null) (F_m_stepCount_b1 : Fld Z h0 b1 "com/example/ken2/ken2/RememberedSteps" "m_stepCount" "I" (.int (0 : Int32))) (g_b1 : n0 ≤ b1) :
    MetFree l (⟨"com/example/ken2/ken2/RememberedSteps", "<init>", "(I)V"⟩ : MethodName) (head1 (Jvm.Cond.code (⟨"com/example/ken2/ken2/RememberedSteps", "<init>", "(I)V"⟩ : MethodName) prog_109_method_1_code 2 none :: ws) ({ frames := 3, cells := 5, slots := 150, locals := 43 } : Room)) (fun a U => a = #[(.ref b1), (.int (2 : Int32))] ∧ Z.Warmed39 U.vm ∧ U.heap = h0) (fun _ _ _ _ _ => True) (fun _ U o U' => ∃ v L, o = .returned v ∧ (Q1s1 Z b1 h0 n0) v U'.heap L ∧ FrameEnd U o U' L ({ frames := 3, cells := 5, slots := 150, locals := 43 } : Room).cells ({ frames := 3, cells := 5, slots := 150, locals := 43 } : Room).slots) :=
  own_met (ret := none) (Q := (Q1s1 Z b1 h0 n0)) (plainFor_of_name pn_1) (fun m => ef_1 m b1 (2 : Int32)) (fun p e s m below meth c T0 X0 hx hby hml hown hnm hZ e0 => by
  have N0 := Fr.nil n0
  refine OwnFin.step (g' := (mkF m 1 #[.val (.ref b1), .val (.int (2 : Int32))] [(.ref b1)])) X0 (fun t k => XS.aloadN X0.here hx rfl (hb hby d1_0) rfl rfl k) ?_
  obtain ⟨T1003, X1003, e1003, st1003⟩ := initO X0 hx hZ hown (hw _ (wm 6 rfl)) (hw _ (wm 7 rfl)) (hw _ (wm 8 rfl)) e0 (g := (mkF m 1 #[.val (.ref b1), .val (.int (2 : Int32))] [(.ref b1)])) rfl (by rw [hml]; rfl) rfl (hb hby d1_1) (by decide) (W := 0) (by show 2 * 0 + _ ≤ _; exact Nat.le_of_eq rfl) (by decide)
  refine OwnFin.step (g' := (mkF m 4 #[.val (.ref b1), .val (.int (2 : Int32))] [])) X1003 (fun t k => st1003 _ k) ?_
  refine OwnFin.step (g' := (mkF m 5 #[.val (.ref b1), .val (.int (2 : Int32))] [(.ref b1)])) X1003 (fun t k => XS.aloadN X1003.here hx rfl (hb hby d1_4) rfl rfl k) ?_
  refine OwnFin.step (g' := (mkF m 7 #[.val (.ref b1), .val (.int (2 : Int32))] [(.int (17 : Int32)), (.ref b1)])) X1003 (fun t k => XS.bipush X1003.here hx rfl (hb hby d1_5) k) ?_
  obtain ⟨T1004, h1004, b1004, X1004, e1004, y1004, K1004, A1004, st1004⟩ := own_new X1003 hx hZ (hw _ (wm 9 rfl)) e1003 (g := (mkF m 7 #[.val (.ref b1), .val (.int (2 : Int32))] [(.int (17 : Int32)), (.ref b1)])) rfl (hb hby d1_7) rfl (by decide) (cap := 17) (by decide) (by decide) (by decide) (by decide)
  have B1004 : Ary Z h1004 b1004 .int 17 (fun i => .int ((fun _ => (0 : Int32)) i)) := A1004
  have ne_b1_b1004 : b1 ≠ b1004 := Exa.neS E_b1 y1004
  have g_b1004 : n0 ≤ b1004 := by rw [y1004]; exact Z0
  have sz_b1004 : h0.size ≤ b1004 := by rw [y1004]; exact Nat.le_refl h0.size
  have Z1004 := Nat.le_trans Z0 K1004.1
  have S1004 := Nat.le_trans (Nat.le_refl h0.size) K1004.1
  refine OwnFin.step (g' := (mkF m 9 #[.val (.ref b1), .val (.int (2 : Int32))] [(.ref b1004), (.ref b1)])) X1004 (fun t k => st1004 _ k) ?_
  have E1005 := (Exa.keep E_b1 K1004)
  have F1006 := (F_m_firstSteps_b1.keep K1004 nin0)
  have F1007 := (F_m_width_b1.keep K1004 nin0)
  have F1008 := (F_m_keys_b1.keep K1004 nin0)
  have F1009 := (F_m_steps_b1.keep K1004 nin0)
  have F1010 := (F_m_stepCount_b1.keep K1004 nin0)
  obtain ⟨T1011, h1011, L1011, X1011, e1011, N1011, W1011, F1011, st1011⟩ := own_putF X1004 hx hZ hown (hw _ (wm 10 rfl)) e1004 N0 F1006 E1005 g_b1 (Or.inl (hw _ (wm 11 rfl))) (hw _ (wm 1 rfl)) (fty := (.array .int)) (by decide) rfl rfl (g := (mkF m 9 #[.val (.ref b1), .val (.int (2 : Int32))] [(.ref b1004), (.ref b1)])) rfl rfl (hb hby d1_9)
  have K1011 := Keep.of_wr W1011
  have Z1011 := Nat.le_trans Z1004 K1011.1
  have S1011 := Nat.le_trans S1004 K1011.1
  have F1012 := Fld.other W1011 F1007 (Or.inr (slot_ne (Or.inr (hw _ (wm 13 rfl))) (Or.inl (hw _ (wm 11 rfl))) (by decide) (t := .int) (t' := (.array .int)) (by decide) (by decide)))
  have F1013 := Fld.other W1011 F1008 (Or.inr (slot_ne (Or.inr (hw _ (wm 40 rfl))) (Or.inl (hw _ (wm 11 rfl))) (by decide) (t := (.object "com/example/ken2/ken2/TupleTable")) (t' := (.array .int)) (by decide) (by decide)))
  have F1014 := Fld.other W1011 F1009 (Or.inr (slot_ne (Or.inl (hw _ (wm 42 rfl))) (Or.inl (hw _ (wm 11 rfl))) (by decide) (t := (.array .long)) (t' := (.array .int)) (by decide) (by decide)))
  have F1015 := Fld.other W1011 F1010 (Or.inr (slot_ne (Or.inl (hw _ (wm 80 rfl))) (Or.inl (hw _ (wm 11 rfl))) (by decide) (t := .int) (t' := (.array .int)) (by decide) (by decide)))
  have E1016 := Exa.wr W1011 E1005
  refine OwnFin.step (g' := (mkF m 12 #[.val (.ref b1), .val (.int (2 : Int32))] [])) X1011 (fun t k => st1011 _ k) ?_
  refine OwnFin.step (g' := (mkF m 13 #[.val (.ref b1), .val (.int (2 : Int32))] [(.ref b1)])) X1011 (fun t k => XS.aloadN X1011.here hx rfl (hb hby d1_12) rfl rfl k) ?_
  refine OwnFin.step (g' := (mkF m 14 #[.val (.ref b1), .val (.int (2 : Int32))] [(.int (2 : Int32)), (.ref b1)])) X1011 (fun t k => XS.iloadN X1011.here hx rfl (hb hby d1_13) rfl k) ?_
  obtain ⟨T1017, h1017, L1017, X1017, e1017, N1017, W1017, F1017, st1017⟩ := own_putF X1011 hx hZ hown (hw _ (wm 12 rfl)) e1011 N1011 F1012 E1016 g_b1 (Or.inr ⟨(hw _ (wm 13 rfl)), rfl, hnm⟩) (hw _ (wm 1 rfl)) (fty := .int) (by decide) rfl rfl (g := (mkF m 14 #[.val (.ref b1), .val (.int (2 : Int32))] [(.int (2 : Int32)), (.ref b1)])) rfl rfl (hb hby d1_14)
  have K1017 := Keep.of_wr W1017
  have Z1017 := Nat.le_trans Z1011 K1017.1
  have S1017 := Nat.le_trans S1011 K1017.1
  have F1018 := Fld.other W1017 F1011 (Or.inr (slot_ne (Or.inl (hw _ (wm 11 rfl))) (Or.inr (hw _ (wm 13 rfl))) (by decide) (t := (.array .int)) (t' := .int) (by decide) (by decide)))
  have F1019 := Fld.other W1017 F1013 (Or.inr (slot_ne (Or.inr (hw _ (wm 40 rfl))) (Or.inr (hw _ (wm 13 rfl))) (by decide) (t := (.object "com/example/ken2/ken2/TupleTable")) (t' := .int) (by decide) (by decide)))
  have F1020 := Fld.other W1017 F1014 (Or.inr (slot_ne (Or.inl (hw _ (wm 42 rfl))) (Or.inr (hw _ (wm 13 rfl))) (by decide) (t := (.array .long)) (t' := .int) (by decide) (by decide)))
  have F1021 := Fld.other W1017 F1015 (Or.inr (slot_ne (Or.inl (hw _ (wm 80 rfl))) (Or.inr (hw _ (wm 13 rfl))) (by decide) (t := .int) (t' := .int) (by decide) (by decide)))
  have E1022 := Exa.wr W1017 E1016
  refine OwnFin.step (g' := (mkF m 17 #[.val (.ref b1), .val (.int (2 : Int32))] [])) X1017 (fun t k => st1017 _ k) ?_
  refine OwnFin.step (g' := (mkF m 18 #[.val (.ref b1), .val (.int (2 : Int32))] [(.ref b1)])) X1017 (fun t k => XS.aloadN X1017.here hx rfl (hb hby d1_17) rfl rfl k) ?_
  obtain ⟨T1023, h1023, X1023, e1023, E1023, A1023, D1023, -, st1023⟩ := newO X1017 hx hZ hown (hw _ (wm 14 rfl)) (hw _ (wm 15 rfl)) (hw _ (wm 16 rfl)) e1017 (g := (mkF m 18 #[.val (.ref b1), .val (.int (2 : Int32))] [(.ref b1)])) rfl (hb hby d1_18) (by decide) (by decide)
  obtain ⟨b1023, y1023⟩ : ∃ z, z = h1017.size := ⟨_, rfl⟩
  rw [← y1023] at A1023 D1023 st1023
  have K1023 := keep_ext E1023
  have ne_b1_b1023 : b1 ≠ b1023 := Exa.neS E1022 y1023
  have A1024 := ((B1004.keep K1011 (ninS (Ne.symm ne_b1_b1004) nin0)).keep K1017 (ninS (Ne.symm ne_b1_b1004) nin0))
  have ne_b1004_b1023 : b1004 ≠ b1023 := Ary.neS A1024 y1023
  have g_b1023 : n0 ≤ b1023 := by rw [y1023]; exact Z1017
  have sz_b1023 : h0.size ≤ b1023 := by rw [y1023]; exact S1017
  have Z1023 := Nat.le_trans Z1017 K1023.1
  have S1023 := Nat.le_trans S1017 K1023.1
  have F1023_m_width : Fld Z h1023 b1023 "com/example/ken2/ken2/TupleTable" "m_width" "I" (.int (0 : Int32)) := D1023 (Or.inr (hw _ (wm 26 rfl))) (ty := .int) (by decide)
  have F1023_m_capacity : Fld Z h1023 b1023 "com/example/ken2/ken2/TupleTable" "m_capacity" "I" (.int (0 : Int32)) := D1023 (Or.inr (hw _ (wm 33 rfl))) (ty := .int) (by decide)
  have F1023_m_tuples : Fld Z h1023 b1023 "com/example/ken2/ken2/TupleTable" "m_tuples" "[J" .null := D1023 (Or.inl (hw _ (wm 36 rfl))) (ty := (.array .long)) (by decide)
  have F1023_m_slots : Fld Z h1023 b1023 "com/example/ken2/ken2/TupleTable" "m_slots" "[J" .null := D1023 (Or.inl (hw _ (wm 38 rfl))) (ty := (.array .long)) (by decide)
  have F1023_m_size : Fld Z h1023 b1023 "com/example/ken2/ken2/TupleTable" "m_size" "I" (.int (0 : Int32)) := D1023 (Or.inl (hw _ (wm 69 rfl))) (ty := .int) (by decide)
  refine OwnFin.step (g' := (mkF m 21 #[.val (.ref b1), .val (.int (2 : Int32))] [(.ref b1023), (.ref b1)])) X1023 (fun t k => st1023 _ k) ?_
  refine OwnFin.step (g' := (mkF m 22 #[.val (.ref b1), .val (.int (2 : Int32))] [(.ref b1023), (.ref b1023), (.ref b1)])) X1023 (fun t k => XS.dup X1023.here hx rfl (hb hby d1_21) rfl rfl k) ?_
  refine OwnFin.step (g' := (mkF m 23 #[.val (.ref b1), .val (.int (2 : Int32))] [(.int (2 : Int32)), (.ref b1023), (.ref b1023), (.ref b1)])) X1023 (fun t k => XS.iloadN X1023.here hx rfl (hb hby d1_22) rfl k) ?_
  have E3119 := (Exa.keep E1022 K1023)
  have A3120 := (A1024.keep K1023 nin0)
  obtain ⟨_, T1025, L1025, X1025, ⟨b3042, b3055, rfl, N1025q, u3105, u3106, u3107, u3108, u3109, u3110, u3111, u3112, u3113, u3114, u3115, u3116, u3117, u3118⟩, st1025⟩ := own_callI X1023 hx hZ (y := (⟨"com/example/ken2/ken2/TupleTable", "<init>", "(I)V"⟩ : MethodName)) (W := 2) (a := b1023) (argsL := [(.int (2 : Int32))]) (rest := [(.ref b1023), (.ref b1)]) rfl hown (hw _ (wm 17 rfl)) (hw _ (wm 18 rfl)) (hw _ (wm 16 rfl)) (hw _ (wm 19 rfl)) (by decide) (rm3s2 l Z a0 hw [] b1023 h1023 n0 Z1023 A1023 F1023_m_width F1023_m_capacity F1023_m_tuples F1023_m_slots F1023_m_size g_b1023) (by decide) (by decide) (by decide) (by decide) e1023 (g := (mkF m 23 #[.val (.ref b1), .val (.int (2 : Int32))] [(.int (2 : Int32)), (.ref b1023), (.ref b1023), (.ref b1)])) rfl (by rw [hml]; rfl) pd_2 rfl rfl (by show 2 * 0 + _ ≤ _; exact Nat.le_of_eq rfl) (hb hby d1_23)
  have N1025 := Fr.app N1017 N1025q
  obtain ⟨h1025, e1025⟩ : ∃ z, T1025.heap = z := ⟨_, rfl⟩
  rw [e1025] at u3105 u3106 u3107 u3108 u3109 u3110 u3111 u3112 u3115
  have K1025 := u3105
  have Z1025 := Nat.le_trans Z1023 K1025.1
  have S1025 := Nat.le_trans S1023 K1025.1
  have ne_b1_b3042 : b1 ≠ b3042 := Nat.ne_of_lt (Nat.lt_of_lt_of_le (E3119).lt u3114)
  have ne_b1004_b3042 : b1004 ≠ b3042 := Nat.ne_of_lt (Nat.lt_of_lt_of_le (A3120).lt u3114)
  have ne_b1023_b3042 : b1023 ≠ b3042 := Nat.ne_of_lt (Nat.lt_of_lt_of_le (A1023).lt u3114)
  have sz_b3042 : h0.size ≤ b3042 := Nat.le_trans S1023 u3114
  have ne_b1_b3055 : b1 ≠ b3055 := Nat.ne_of_lt (Nat.lt_of_lt_of_le (E3119).lt u3117)
  have ne_b1004_b3055 : b1004 ≠ b3055 := Nat.ne_of_lt (Nat.lt_of_lt_of_le (A3120).lt u3117)
  have ne_b1023_b3055 : b1023 ≠ b3055 := Nat.ne_of_lt (Nat.lt_of_lt_of_le (A1023).lt u3117)
  have sz_b3055 : h0.size ≤ b3055 := Nat.le_trans S1023 u3117
  refine OwnFin.step (g' := (mkF m 26 #[.val (.ref b1), .val (.int (2 : Int32))] [(.ref b1023), (.ref b1)])) X1025 (fun t k => st1025 _ k) ?_
  have E3121 := (Exa.keep E3119 K1025)
  have F3122 := ((F1018.keep K1023 nin0).keep K1025 (ninS ne_b1_b1023 nin0))
  have F3123 := ((F1017.keep K1023 nin0).keep K1025 (ninS ne_b1_b1023 nin0))
  have F3124 := ((F1019.keep K1023 nin0).keep K1025 (ninS ne_b1_b1023 nin0))
  have F3125 := ((F1020.keep K1023 nin0).keep K1025 (ninS ne_b1_b1023 nin0))
  have F3126 := ((F1021.keep K1023 nin0).keep K1025 (ninS ne_b1_b1023 nin0))
  obtain ⟨T3127, h3127, L3127, X3127, e3127, N3127, W3127, F3127, st3127⟩ := own_putF X1025 hx hZ hown (hw _ (wm 39 rfl)) e1025 N1025 F3124 E3121 g_b1 (Or.inr ⟨(hw _ (wm 40 rfl)), rfl, hnm⟩) (hw _ (wm 1 rfl)) (fty := (.object "com/example/ken2/ken2/TupleTable")) (by decide) rfl rfl (g := (mkF m 26 #[.val (.ref b1), .val (.int (2 : Int32))] [(.ref b1023), (.ref b1)])) rfl rfl (hb hby d1_26)
  have K3127 := Keep.of_wr W3127
  have Z3127 := Nat.le_trans Z1025 K3127.1
  have S3127 := Nat.le_trans S1025 K3127.1
  have F3128 := Fld.other W3127 F3122 (Or.inr (slot_ne (Or.inl (hw _ (wm 11 rfl))) (Or.inr (hw _ (wm 40 rfl))) (by decide) (t := (.array .int)) (t' := (.object "com/example/ken2/ken2/TupleTable")) (by decide) (by decide)))
  have F3129 := Fld.other W3127 F3123 (Or.inr (slot_ne (Or.inr (hw _ (wm 13 rfl))) (Or.inr (hw _ (wm 40 rfl))) (by decide) (t := .int) (t' := (.object "com/example/ken2/ken2/TupleTable")) (by decide) (by decide)))
  have F3130 := Fld.other W3127 F3125 (Or.inr (slot_ne (Or.inl (hw _ (wm 42 rfl))) (Or.inr (hw _ (wm 40 rfl))) (by decide) (t := (.array .long)) (t' := (.object "com/example/ken2/ken2/TupleTable")) (by decide) (by decide)))
  have F3131 := Fld.other W3127 F3126 (Or.inr (slot_ne (Or.inl (hw _ (wm 80 rfl))) (Or.inr (hw _ (wm 40 rfl))) (by decide) (t := .int) (t' := (.object "com/example/ken2/ken2/TupleTable")) (by decide) (by decide)))
  have E3132 := Exa.wr W3127 E3121
  refine OwnFin.step (g' := (mkF m 29 #[.val (.ref b1), .val (.int (2 : Int32))] [])) X3127 (fun t k => st3127 _ k) ?_
  refine OwnFin.step (g' := (mkF m 30 #[.val (.ref b1), .val (.int (2 : Int32))] [(.ref b1)])) X3127 (fun t k => XS.aloadN X3127.here hx rfl (hb hby d1_29) rfl rfl k) ?_
  refine OwnFin.step (g' := (mkF m 32 #[.val (.ref b1), .val (.int (2 : Int32))] [(.int (32 : Int32)), (.ref b1)])) X3127 (fun t k => XS.bipush X3127.here hx rfl (hb hby d1_30) k) ?_
  refine OwnFin.step (g' := (mkF m 33 #[.val (.ref b1), .val (.int (2 : Int32))] [(.int (2 : Int32)), (.int (32 : Int32)), (.ref b1)])) X3127 (fun t k => XS.iloadN X3127.here hx rfl (hb hby d1_32) rfl k) ?_
  refine OwnFin.step (g' := (mkF m 34 #[.val (.ref b1), .val (.int (2 : Int32))] [(.int (64 : Int32)), (.ref b1)])) X3127 (fun t k => XS.imul X3127.here hx rfl (hb hby d1_33) rfl k) ?_
  obtain ⟨T3133, h3133, b3133, X3133, e3133, y3133, K3133, A3133, st3133⟩ := own_new X3127 hx hZ (hw _ (wm 34 rfl)) e3127 (g := (mkF m 34 #[.val (.ref b1), .val (.int (2 : Int32))] [(.int (64 : Int32)), (.ref b1)])) rfl (hb hby d1_34) rfl (by decide) (cap := 64) (by decide) (by decide) (by decide) (by decide)
  have B3133 : Ary Z h3133 b3133 .long 64 (fun i => .long ((fun _ => (0 : Int64)) i)) := A3133
  have ne_b1_b3133 : b1 ≠ b3133 := Exa.neS E3132 y3133
  have A3134 := ((A3120.keep K1025 (ninS ne_b1004_b1023 nin0)).keep K3127 (ninS (Ne.symm ne_b1_b1004) nin0))
  have ne_b1004_b3133 : b1004 ≠ b3133 := Ary.neS A3134 y3133
  have E3135 := (Exa.keep u3106 K3127)
  have ne_b1023_b3133 : b1023 ≠ b3133 := Exa.neS E3135 y3133
  have A3136 := (u3112.keep K3127 (ninS (Ne.symm ne_b1_b3042) nin0))
  have ne_b3042_b3133 : b3042 ≠ b3133 := Ary.neS A3136 y3133
  have A3137 := (u3115.keep K3127 (ninS (Ne.symm ne_b1_b3055) nin0))
  have ne_b3055_b3133 : b3055 ≠ b3133 := Ary.neS A3137 y3133
  have g_b3133 : n0 ≤ b3133 := by rw [y3133]; exact Z3127
  have sz_b3133 : h0.size ≤ b3133 := by rw [y3133]; exact S3127
  have Z3133 := Nat.le_trans Z3127 K3133.1
  have S3133 := Nat.le_trans S3127 K3133.1
  refine OwnFin.step (g' := (mkF m 36 #[.val (.ref b1), .val (.int (2 : Int32))] [(.ref b3133), (.ref b1)])) X3133 (fun t k => st3133 _ k) ?_
  have E3138 := (Exa.keep E3132 K3133)
  have F3139 := (F3128.keep K3133 nin0)
  have F3140 := (F3129.keep K3133 nin0)
  have F3141 := (F3127.keep K3133 nin0)
  have F3142 := (F3130.keep K3133 nin0)
  have F3143 := (F3131.keep K3133 nin0)
  obtain ⟨T3144, h3144, L3144, X3144, e3144, N3144, W3144, F3144, st3144⟩ := own_putF X3133 hx hZ hown (hw _ (wm 41 rfl)) e3133 N3127 F3142 E3138 g_b1 (Or.inl (hw _ (wm 42 rfl))) (hw _ (wm 1 rfl)) (fty := (.array .long)) (by decide) rfl rfl (g := (mkF m 36 #[.val (.ref b1), .val (.int (2 : Int32))] [(.ref b3133), (.ref b1)])) rfl rfl (hb hby d1_36)
  have K3144 := Keep.of_wr W3144
  have Z3144 := Nat.le_trans Z3133 K3144.1
  have S3144 := Nat.le_trans S3133 K3144.1
  have F3145 := Fld.other W3144 F3139 (Or.inr (slot_ne (Or.inl (hw _ (wm 11 rfl))) (Or.inl (hw _ (wm 42 rfl))) (by decide) (t := (.array .int)) (t' := (.array .long)) (by decide) (by decide)))
  have F3146 := Fld.other W3144 F3140 (Or.inr (slot_ne (Or.inr (hw _ (wm 13 rfl))) (Or.inl (hw _ (wm 42 rfl))) (by decide) (t := .int) (t' := (.array .long)) (by decide) (by decide)))
  have F3147 := Fld.other W3144 F3141 (Or.inr (slot_ne (Or.inr (hw _ (wm 40 rfl))) (Or.inl (hw _ (wm 42 rfl))) (by decide) (t := (.object "com/example/ken2/ken2/TupleTable")) (t' := (.array .long)) (by decide) (by decide)))
  have F3148 := Fld.other W3144 F3143 (Or.inr (slot_ne (Or.inl (hw _ (wm 80 rfl))) (Or.inl (hw _ (wm 42 rfl))) (by decide) (t := .int) (t' := (.array .long)) (by decide) (by decide)))
  have E3149 := Exa.wr W3144 E3138
  refine OwnFin.step (g' := (mkF m 39 #[.val (.ref b1), .val (.int (2 : Int32))] [])) X3144 (fun t k => st3144 _ k) ?_
  have A3150 := ((A3134.keep K3133 nin0).keep K3144 (ninS (Ne.symm ne_b1_b1004) nin0))
  have E3151 := (Exa.keep (Exa.keep E3135 K3133) K3144)
  have F3152 := (((u3107.keep K3127 (ninS (Ne.symm ne_b1_b1023) nin0)).keep K3133 nin0).keep K3144 (ninS (Ne.symm ne_b1_b1023) nin0))
  have F3153 := (((u3108.keep K3127 (ninS (Ne.symm ne_b1_b1023) nin0)).keep K3133 nin0).keep K3144 (ninS (Ne.symm ne_b1_b1023) nin0))
  have F3154 := (((u3109.keep K3127 (ninS (Ne.symm ne_b1_b1023) nin0)).keep K3133 nin0).keep K3144 (ninS (Ne.symm ne_b1_b1023) nin0))
  have F3155 := (((u3110.keep K3127 (ninS (Ne.symm ne_b1_b1023) nin0)).keep K3133 nin0).keep K3144 (ninS (Ne.symm ne_b1_b1023) nin0))
  have F3156 := (((u3111.keep K3127 (ninS (Ne.symm ne_b1_b1023) nin0)).keep K3133 nin0).keep K3144 (ninS (Ne.symm ne_b1_b1023) nin0))
  have A3157 := ((A3136.keep K3133 nin0).keep K3144 (ninS (Ne.symm ne_b1_b3042) nin0))
  have A3158 := ((A3137.keep K3133 nin0).keep K3144 (ninS (Ne.symm ne_b1_b3055) nin0))
  have A3159 := (B3133.keep K3144 (ninS (Ne.symm ne_b1_b3133) nin0))
  refine OwnFin.retVoid X3144 (hb hby d1_39) (by decide) (by decide) ?_
  rw [e3144]
  exact ⟨b1004, b1023, b3042, b3055, b3133, rfl, N3144, (Keep.trans (Keep.trans (Keep.trans (Keep.trans (Keep.trans (Keep.trans (Keep.trans (Keep.trans (Keep.refl h0 [b1]) K1004 all0) K1011 (allS (Or.inl (wm 0 rfl)) all0)) K1017 (allS (Or.inl (wm 0 rfl)) all0)) K1023 all0) K1025 (allS (Or.inr sz_b1023) all0)) K3127 (allS (Or.inl (wm 0 rfl)) all0)) K3133 all0) K3144 (allS (Or.inl (wm 0 rfl)) all0)), E3149, F3145, F3146, F3147, F3144, F3148, A3150, g_b1004, sz_b1004, E3151, F3152, F3153, F3154, F3155, F3156, g_b1023, sz_b1023, A3157, u3113, sz_b3042, A3158, u3116, sz_b3055, A3159, g_b3133, sz_b3133, ne_b1004_b1023, ne_b1004_b3042, ne_b1004_b3055, ne_b1004_b3133, ne_b1023_b3042, ne_b1023_b3055, ne_b1023_b3133, u3118, ne_b3042_b3133, ne_b3055_b3133⟩)
abbrev La0_0 (q0 : Int64) (q1 : Int64) (q2 : Int64) (q3 : Int64) (q4 : Int64) (q5 : Int64) : Array Slot := #[.val (.long q0), .second, .val (.long q1), .second, .val (.long q2), .second, .val (.long q3), .second, .val (.long q4), .second, .val (.long q5), .second, .unset, .unset, .unset, .unset, .unset, .unset, .unset, .unset]
abbrev La0_1 (q0 : Int64) (q1 : Int64) (q2 : Int64) (q3 : Int64) (q4 : Int64) (q5 : Int64) (b1 : Addr) : Array Slot := #[.val (.long q0), .second, .val (.long q1), .second, .val (.long q2), .second, .val (.long q3), .second, .val (.long q4), .second, .val (.long q5), .second, .val (.ref b1), .unset, .unset, .unset, .unset, .unset, .unset, .unset]
abbrev La0_2 (q0 : Int64) (q1 : Int64) (q2 : Int64) (q3 : Int64) (q4 : Int64) (q5 : Int64) (b1 : Addr) (b9378 : Addr) : Array Slot := #[.val (.long q0), .second, .val (.long q1), .second, .val (.long q2), .second, .val (.long q3), .second, .val (.long q4), .second, .val (.long q5), .second, .val (.ref b1), .val (.ref b9378), .unset, .unset, .unset, .unset, .unset, .unset]
abbrev La0_3 (q0 : Int64) (q1 : Int64) (q2 : Int64) (q3 : Int64) (q4 : Int64) (q5 : Int64) (b1 : Addr) (b9378 : Addr) (b9384 : Addr) : Array Slot := #[.val (.long q0), .second, .val (.long q1), .second, .val (.long q2), .second, .val (.long q3), .second, .val (.long q4), .second, .val (.long q5), .second, .val (.ref b1), .val (.ref b9378), .val (.ref b9384), .unset, .unset, .unset, .unset, .unset]
abbrev La0_4 (q0 : Int64) (q1 : Int64) (q2 : Int64) (q3 : Int64) (q4 : Int64) (q5 : Int64) (b1 : Addr) (b9378 : Addr) (b9384 : Addr) (b9394 : Addr) : Array Slot := #[.val (.long q0), .second, .val (.long q1), .second, .val (.long q2), .second, .val (.long q3), .second, .val (.long q4), .second, .val (.long q5), .second, .val (.ref b1), .val (.ref b9378), .val (.ref b9384), .val (.ref b9394), .unset, .unset, .unset, .unset]
abbrev La0_5 (q0 : Int64) (q1 : Int64) (q2 : Int64) (q3 : Int64) (q4 : Int64) (q5 : Int64) (b1 : Addr) (b9378 : Addr) (b9384 : Addr) (b9394 : Addr) (b9405 : Addr) : Array Slot := #[.val (.long q0), .second, .val (.long q1), .second, .val (.long q2), .second, .val (.long q3), .second, .val (.long q4), .second, .val (.long q5), .second, .val (.ref b1), .val (.ref b9378), .val (.ref b9384), .val (.ref b9394), .val (.ref b9405), .unset, .unset, .unset]
abbrev La0_6 (q0 : Int64) (q1 : Int64) (q2 : Int64) (q3 : Int64) (q4 : Int64) (q5 : Int64) (b1 : Addr) (b9378 : Addr) (b9384 : Addr) (b9394 : Addr) (b9405 : Addr) (b13611 : Addr) : Array Slot := #[.val (.long q0), .second, .val (.long q1), .second, .val (.long q2), .second, .val (.long q3), .second, .val (.long q4), .second, .val (.long q5), .second, .val (.ref b1), .val (.ref b9378), .val (.ref b9384), .val (.ref b9394), .val (.ref b9405), .val (.ref b13611), .unset, .unset]
abbrev La0_7 (q0 : Int64) (q1 : Int64) (q2 : Int64) (q3 : Int64) (q4 : Int64) (q5 : Int64) (b1 : Addr) (b9378 : Addr) (b9384 : Addr) (b9394 : Addr) (b9405 : Addr) (b13611 : Addr) (b13622 : Addr) : Array Slot := #[.val (.long q0), .second, .val (.long q1), .second, .val (.long q2), .second, .val (.long q3), .second, .val (.long q4), .second, .val (.long q5), .second, .val (.ref b1), .val (.ref b9378), .val (.ref b9384), .val (.ref b9394), .val (.ref b9405), .val (.ref b13611), .val (.ref b13622), .unset]
abbrev La0_8 (q0 : Int64) (q1 : Int64) (q2 : Int64) (q3 : Int64) (q4 : Int64) (q5 : Int64) (b1 : Addr) (b9378 : Addr) (b9384 : Addr) (b9394 : Addr) (b9405 : Addr) (b13611 : Addr) (b13622 : Addr) (b13636 : Addr) : Array Slot := #[.val (.long q0), .second, .val (.long q1), .second, .val (.long q2), .second, .val (.long q3), .second, .val (.long q4), .second, .val (.long q5), .second, .val (.ref b1), .val (.ref b9378), .val (.ref b9384), .val (.ref b9394), .val (.ref b9405), .val (.ref b13611), .val (.ref b13622), .val (.ref b13636)]
set_option maxRecDepth 65536 in
set_option maxHeartbeats 40000000 in
theorem j0 {p : Program} {l : Launch} {e : Env} {s : State} {m : MethodId} {args : Array Value} {below : List Frame} {meth : Method} {c : Code} {T0 : State} {locs : List Loc} {Z : State} {a0 : Array Value} {h0 : Heap} {n0 : Nat}
    (X0 : Stand p l e room_1 s m args below meth c T0 locs 0 0) (hx : p.tables.exec = Jvm.exec) (hZ : Z.Warmed39 s.vm) (hw : ∀ d ∈ tables_1, d.before a0 Z = true) (hby : c.code = code) (hml : c.maxLocals = 20) (hown : s.vm.findClass "com/example/ken2/ken2/RememberedStepsTakePinLaw" = some m.cls) (hnm : meth.name = "law") (e0 : T0.heap = h0) (N0 : Fr n0 locs) (Z0 : n0 ≤ h0.size) (q0 : Int64) (q1 : Int64) (q2 : Int64) (q3 : Int64) (q4 : Int64) (q5 : Int64) :
    OwnFin X0 (some .boolean) (LQ n0) room_1.cells room_1.slots (mkF m 0 #[.val (.long q0), .second, .val (.long q1), .second, .val (.long q2), .second, .val (.long q3), .second, .val (.long q4), .second, .val (.long q5), .second, .unset, .unset, .unset, .unset, .unset, .unset, .unset, .unset] []) := by
  obtain ⟨T1, h1, X1, e1, E1, A1, D1, -, st1⟩ := newO X0 hx hZ hown (hw _ (wm 0 rfl)) (hw _ (wm 1 rfl)) (hw _ (wm 2 rfl)) e0 (g := (mkF m 0 (La0_0 q0 q1 q2 q3 q4 q5) [])) rfl (hb hby at_0) (by decide) (by decide)
  obtain ⟨b1, y1⟩ : ∃ z, z = h0.size := ⟨_, rfl⟩
  rw [← y1] at A1 D1 st1
  have K1 := keep_ext E1
  have g_b1 : n0 ≤ b1 := by rw [y1]; exact Z0
  have Z1 := Nat.le_trans Z0 K1.1
  have F1_m_firstSteps : Fld Z h1 b1 "com/example/ken2/ken2/RememberedSteps" "m_firstSteps" "[I" .null := D1 (Or.inl (hw _ (wm 11 rfl))) (ty := (.array .int)) (by decide)
  have F1_m_width : Fld Z h1 b1 "com/example/ken2/ken2/RememberedSteps" "m_width" "I" (.int (0 : Int32)) := D1 (Or.inr (hw _ (wm 13 rfl))) (ty := .int) (by decide)
  have F1_m_keys : Fld Z h1 b1 "com/example/ken2/ken2/RememberedSteps" "m_keys" "Lcom/example/ken2/ken2/TupleTable;" .null := D1 (Or.inr (hw _ (wm 40 rfl))) (ty := (.object "com/example/ken2/ken2/TupleTable")) (by decide)
  have F1_m_steps : Fld Z h1 b1 "com/example/ken2/ken2/RememberedSteps" "m_steps" "[J" .null := D1 (Or.inl (hw _ (wm 42 rfl))) (ty := (.array .long)) (by decide)
  have F1_m_stepCount : Fld Z h1 b1 "com/example/ken2/ken2/RememberedSteps" "m_stepCount" "I" (.int (0 : Int32)) := D1 (Or.inl (hw _ (wm 80 rfl))) (ty := .int) (by decide)
  refine OwnFin.step (g' := (mkF m 3 (La0_0 q0 q1 q2 q3 q4 q5) [(.ref b1)])) X1 (fun t k => st1 _ k) ?_
  refine OwnFin.step (g' := (mkF m 4 (La0_0 q0 q1 q2 q3 q4 q5) [(.ref b1), (.ref b1)])) X1 (fun t k => XS.dup X1.here hx rfl (hb hby at_3) rfl rfl k) ?_
  refine OwnFin.step (g' := (mkF m 5 (La0_0 q0 q1 q2 q3 q4 q5) [(.int (2 : Int32)), (.ref b1), (.ref b1)])) X1 (fun t k => XS.iconst X1.here hx rfl (hb hby at_4) k) ?_
  obtain ⟨_, T2, L2, X2, ⟨b1004, b1023, b3042, b3055, b3133, rfl, N2q, u3170, u3171, u3172, u3173, u3174, u3175, u3176, u3177, u3178, u3179, u3180, u3181, u3182, u3183, u3184, u3185, u3186, u3187, u3188, u3189, u3190, u3191, u3192, u3193, u3194, u3195, u3196, u3197, u3198, u3199, u3200, u3201, u3202, u3203, u3204, u3205, u3206⟩, st2⟩ := own_callI X1 hx hZ (y := (⟨"com/example/ken2/ken2/RememberedSteps", "<init>", "(I)V"⟩ : MethodName)) (W := 1) (a := b1) (argsL := [(.int (2 : Int32))]) (rest := [(.ref b1)]) rfl hown (hw _ (wm 3 rfl)) (hw _ (wm 4 rfl)) (hw _ (wm 2 rfl)) (hw _ (wm 5 rfl)) (by decide) (rm1s1 l Z a0 hw [] b1 h1 n0 Z1 A1 F1_m_firstSteps F1_m_width F1_m_keys F1_m_steps F1_m_stepCount g_b1) (by decide) (by decide) (by decide) (by decide) e1 (g := (mkF m 5 (La0_0 q0 q1 q2 q3 q4 q5) [(.int (2 : Int32)), (.ref b1), (.ref b1)])) rfl (by rw [hml]; rfl) pd_2 rfl rfl (by show 2 * 0 + _ ≤ _; exact Nat.le_of_eq rfl) (hb hby at_5)
  have N2 := Fr.app N0 N2q
  obtain ⟨h2, e2⟩ : ∃ z, T2.heap = z := ⟨_, rfl⟩
  rw [e2] at u3170 u3171 u3172 u3173 u3174 u3175 u3176 u3177 u3180 u3181 u3182 u3183 u3184 u3185 u3188 u3191 u3194
  have K2 := u3170
  have Z2 := Nat.le_trans Z1 K2.1
  have ne_b1_b1004 : b1 ≠ b1004 := Nat.ne_of_lt (Nat.lt_of_lt_of_le (A1).lt u3179)
  have ne_b1_b1023 : b1 ≠ b1023 := Nat.ne_of_lt (Nat.lt_of_lt_of_le (A1).lt u3187)
  have ne_b1_b3042 : b1 ≠ b3042 := Nat.ne_of_lt (Nat.lt_of_lt_of_le (A1).lt u3190)
  have ne_b1_b3055 : b1 ≠ b3055 := Nat.ne_of_lt (Nat.lt_of_lt_of_le (A1).lt u3193)
  have ne_b1_b3133 : b1 ≠ b3133 := Nat.ne_of_lt (Nat.lt_of_lt_of_le (A1).lt u3196)
  refine OwnFin.step (g' := (mkF m 8 (La0_0 q0 q1 q2 q3 q4 q5) [(.ref b1)])) X2 (fun t k => st2 _ k) ?_
  refine OwnFin.step (g' := (mkF m 10 (La0_1 q0 q1 q2 q3 q4 q5 b1) [])) X2 (fun t k => XS.astore X2.here hx rfl (hb hby at_8) rfl rfl (l' := (La0_1 q0 q1 q2 q3 q4 q5 b1)) rfl k) ?_
  refine OwnFin.step (g' := (mkF m 12 (La0_1 q0 q1 q2 q3 q4 q5 b1) [(.ref b1)])) X2 (fun t k => XS.aload X2.here hx rfl (hb hby at_10) rfl rfl k) ?_
  refine OwnFin.step (g' := (mkF m 13 (La0_1 q0 q1 q2 q3 q4 q5 b1) [(.int (2 : Int32)), (.ref b1)])) X2 (fun t k => XS.iconst X2.here hx rfl (hb hby at_12) k) ?_
  obtain ⟨T3207, h3207, b3207, X3207, e3207, y3207, K3207, A3207, st3207⟩ := own_new X2 hx hZ (hw _ (wm 34 rfl)) e2 (g := (mkF m 13 (La0_1 q0 q1 q2 q3 q4 q5 b1) [(.int (2 : Int32)), (.ref b1)])) rfl (hb hby at_13) rfl (by decide) (cap := 2) (by decide) (by decide) (by decide) (by decide)
  have B3207 : Ary Z h3207 b3207 .long 2 (fun i => .long ((fun _ => (0 : Int64)) i)) := A3207
  have ne_b1_b3207 : b1 ≠ b3207 := Exa.neS u3171 y3207
  have ne_b1004_b3207 : b1004 ≠ b3207 := Ary.neS u3177 y3207
  have ne_b1023_b3207 : b1023 ≠ b3207 := Exa.neS u3180 y3207
  have ne_b3042_b3207 : b3042 ≠ b3207 := Ary.neS u3188 y3207
  have ne_b3055_b3207 : b3055 ≠ b3207 := Ary.neS u3191 y3207
  have ne_b3133_b3207 : b3133 ≠ b3207 := Ary.neS u3194 y3207
  have g_b3207 : n0 ≤ b3207 := by rw [y3207]; exact Z2
  have Z3207 := Nat.le_trans Z2 K3207.1
  refine OwnFin.step (g' := (mkF m 15 (La0_1 q0 q1 q2 q3 q4 q5 b1) [(.ref b3207), (.ref b1)])) X3207 (fun t k => st3207 _ k) ?_
  refine OwnFin.step (g' := (mkF m 16 (La0_1 q0 q1 q2 q3 q4 q5 b1) [(.ref b3207), (.ref b3207), (.ref b1)])) X3207 (fun t k => XS.dup X3207.here hx rfl (hb hby at_15) rfl rfl k) ?_
  refine OwnFin.step (g' := (mkF m 17 (La0_1 q0 q1 q2 q3 q4 q5 b1) [(.int (0 : Int32)), (.ref b3207), (.ref b3207), (.ref b1)])) X3207 (fun t k => XS.iconst X3207.here hx rfl (hb hby at_16) k) ?_
  refine OwnFin.step (g' := (mkF m 18 (La0_1 q0 q1 q2 q3 q4 q5 b1) [(.long (0 : Int64)), (.int (0 : Int32)), (.ref b3207), (.ref b3207), (.ref b1)])) X3207 (fun t k => XT.lconst X3207.here hx rfl (hb hby at_17) k) ?_
  obtain ⟨T3208, h3208, L3208, X3208, e3208, N3208, K3208, A3208, st3208⟩ := own_stJ X3207 hx hZ e3207 N2 (G := (fun _ => (0 : Int64))) B3207 g_b3207 (j := (0 : Int32)) (x := (0 : Int64)) (by decide) (g := (mkF m 18 (La0_1 q0 q1 q2 q3 q4 q5 b1) [(.long (0 : Int64)), (.int (0 : Int32)), (.ref b3207), (.ref b3207), (.ref b1)])) rfl rfl (hb hby at_18)
  have B3208 : Ary Z h3208 b3207 .long 2 (fun i => .long ((G0_18) i)) := A3208
  have Z3208 := Nat.le_trans Z3207 K3208.1
  refine OwnFin.step (g' := (mkF m 19 (La0_1 q0 q1 q2 q3 q4 q5 b1) [(.ref b3207), (.ref b1)])) X3208 (fun t k => st3208 _ k) ?_
  refine OwnFin.step (g' := (mkF m 20 (La0_1 q0 q1 q2 q3 q4 q5 b1) [(.ref b3207), (.ref b3207), (.ref b1)])) X3208 (fun t k => XS.dup X3208.here hx rfl (hb hby at_19) rfl rfl k) ?_
  refine OwnFin.step (g' := (mkF m 21 (La0_1 q0 q1 q2 q3 q4 q5 b1) [(.int (1 : Int32)), (.ref b3207), (.ref b3207), (.ref b1)])) X3208 (fun t k => XS.iconst X3208.here hx rfl (hb hby at_20) k) ?_
  refine OwnFin.step (g' := (mkF m 22 (La0_1 q0 q1 q2 q3 q4 q5 b1) [(.long (0 : Int64)), (.int (1 : Int32)), (.ref b3207), (.ref b3207), (.ref b1)])) X3208 (fun t k => XT.lconst X3208.here hx rfl (hb hby at_21) k) ?_
  obtain ⟨T3209, h3209, L3209, X3209, e3209, N3209, K3209, A3209, st3209⟩ := own_stJ X3208 hx hZ e3208 N3208 (G := (G0_18)) B3208 g_b3207 (j := (1 : Int32)) (x := (0 : Int64)) (by decide) (g := (mkF m 22 (La0_1 q0 q1 q2 q3 q4 q5 b1) [(.long (0 : Int64)), (.int (1 : Int32)), (.ref b3207), (.ref b3207), (.ref b1)])) rfl rfl (hb hby at_22)
  have B3209 : Ary Z h3209 b3207 .long 2 (fun i => .long ((G0_22) i)) := A3209
  have Z3209 := Nat.le_trans Z3208 K3209.1
  refine OwnFin.step (g' := (mkF m 23 (La0_1 q0 q1 q2 q3 q4 q5 b1) [(.ref b3207), (.ref b1)])) X3209 (fun t k => st3209 _ k) ?_
  have F9355 := (((u3172.keep K3207 nin0).keep K3208 (ninS ne_b1_b3207 nin0)).keep K3209 (ninS ne_b1_b3207 nin0))
  have F9356 := (((u3174.keep K3207 nin0).keep K3208 (ninS ne_b1_b3207 nin0)).keep K3209 (ninS ne_b1_b3207 nin0))
  have F9357 := (((u3176.keep K3207 nin0).keep K3208 (ninS ne_b1_b3207 nin0)).keep K3209 (ninS ne_b1_b3207 nin0))
  have A9358 := (((u3177.keep K3207 nin0).keep K3208 (ninS ne_b1004_b3207 nin0)).keep K3209 (ninS ne_b1004_b3207 nin0))
  have E9359 := (Exa.keep (Exa.keep (Exa.keep u3180 K3207) K3208) K3209)
  have F9360 := (((u3181.keep K3207 nin0).keep K3208 (ninS ne_b1023_b3207 nin0)).keep K3209 (ninS ne_b1023_b3207 nin0))
  have F9361 := (((u3182.keep K3207 nin0).keep K3208 (ninS ne_b1023_b3207 nin0)).keep K3209 (ninS ne_b1023_b3207 nin0))
  have F9362 := (((u3183.keep K3207 nin0).keep K3208 (ninS ne_b1023_b3207 nin0)).keep K3209 (ninS ne_b1023_b3207 nin0))
  have F9363 := (((u3184.keep K3207 nin0).keep K3208 (ninS ne_b1023_b3207 nin0)).keep K3209 (ninS ne_b1023_b3207 nin0))
  have F9364 := (((u3185.keep K3207 nin0).keep K3208 (ninS ne_b1023_b3207 nin0)).keep K3209 (ninS ne_b1023_b3207 nin0))
  have A9365 := (((u3188.keep K3207 nin0).keep K3208 (ninS ne_b3042_b3207 nin0)).keep K3209 (ninS ne_b3042_b3207 nin0))
  have A9366 := (((u3191.keep K3207 nin0).keep K3208 (ninS ne_b3055_b3207 nin0)).keep K3209 (ninS ne_b3055_b3207 nin0))
  have E9377 := (Exa.keep (Exa.keep (Exa.keep u3171 K3207) K3208) K3209)
  obtain ⟨_, T3210, L3210, X3210, ⟨rfl, N3210q, u9367, u9368, u9369, u9370, u9371, u9372, u9373, u9374, u9375, u9376⟩, st3210⟩ := own_callV X3209 hx hZ (y := (⟨"com/example/ken2/ken2/RememberedSteps", "open", "([J)V"⟩ : MethodName)) (W := 0) (a := b1) (argsL := [(.ref b3207)]) (rest := []) hown (hw _ (wm 43 rfl)) (hw _ (wm 44 rfl)) (hw _ (wm 46 rfl)) (hw _ (wm 45 rfl)) (hw _ (wm 2 rfl)) (hw _ (wm 47 rfl)) (by decide) E9377 (rm6s4 l Z a0 hw [] b1 b1004 b1023 b3042 b3055 b3207 h3209 n0 Z3209 F9355 F9356 F9357 A9358 u3178 E9359 F9360 F9361 F9362 F9363 F9364 u3186 A9365 u3189 A9366 u3192 B3209 ne_b1_b1004 ne_b1_b1023 ne_b1_b3042 ne_b1_b3055 u3197 u3198 u3199 u3201 u3202 u3204 ne_b1023_b3207) (by decide) (by decide) (by decide) (by decide) e3209 (g := (mkF m 23 (La0_1 q0 q1 q2 q3 q4 q5 b1) [(.ref b3207), (.ref b1)])) rfl (by rw [hml]; rfl) pd_7 rfl rfl (by show 2 * 0 + _ ≤ _; exact Nat.le_of_eq rfl) (hb hby at_23)
  have N3210 := Fr.app N3209 N3210q
  obtain ⟨h3210, e3210⟩ : ∃ z, T3210.heap = z := ⟨_, rfl⟩
  rw [e3210] at u9367 u9368 u9369 u9370 u9371 u9372 u9373 u9374 u9375 u9376
  have K3210 := u9367
  have Z3210 := Nat.le_trans Z3209 K3210.1
  refine OwnFin.step (g' := (mkF m 26 (La0_1 q0 q1 q2 q3 q4 q5 b1) [])) X3210 (fun t k => st3210 _ k) ?_
  refine OwnFin.step (g' := (mkF m 27 (La0_1 q0 q1 q2 q3 q4 q5 b1) [(.int (2 : Int32))])) X3210 (fun t k => XS.iconst X3210.here hx rfl (hb hby at_26) k) ?_
  obtain ⟨T9378, h9378, b9378, X9378, e9378, y9378, K9378, A9378, st9378⟩ := own_new X3210 hx hZ (hw _ (wm 34 rfl)) e3210 (g := (mkF m 27 (La0_1 q0 q1 q2 q3 q4 q5 b1) [(.int (2 : Int32))])) rfl (hb hby at_27) rfl (by decide) (cap := 2) (by decide) (by decide) (by decide) (by decide)
  have B9378 : Ary Z h9378 b9378 .long 2 (fun i => .long ((fun _ => (0 : Int64)) i)) := A9378
  have E9379 := (Exa.keep E9377 K3210)
  have ne_b1_b9378 : b1 ≠ b9378 := Exa.neS E9379 y9378
  have ne_b1004_b9378 : b1004 ≠ b9378 := Ary.neS u9368 y9378
  have ne_b1023_b9378 : b1023 ≠ b9378 := Exa.neS u9369 y9378
  have ne_b3042_b9378 : b3042 ≠ b9378 := Ary.neS u9375 y9378
  have ne_b3055_b9378 : b3055 ≠ b9378 := Ary.neS u9376 y9378
  have A9380 := ((((u3194.keep K3207 nin0).keep K3208 (ninS ne_b3133_b3207 nin0)).keep K3209 (ninS ne_b3133_b3207 nin0)).keep K3210 (ninS (Ne.symm u3200) (ninS (Ne.symm u3203) (ninS (Ne.symm u3205) (ninS (Ne.symm u3206) nin0)))))
  have ne_b3133_b9378 : b3133 ≠ b9378 := Ary.neS A9380 y9378
  have A9381 := (B3209.keep K3210 (ninS (Ne.symm ne_b1004_b3207) (ninS (Ne.symm ne_b1023_b3207) (ninS (Ne.symm ne_b3042_b3207) (ninS (Ne.symm ne_b3055_b3207) nin0)))))
  have ne_b3207_b9378 : b3207 ≠ b9378 := Ary.neS A9381 y9378
  have g_b9378 : n0 ≤ b9378 := by rw [y9378]; exact Z3210
  have Z9378 := Nat.le_trans Z3210 K9378.1
  refine OwnFin.step (g' := (mkF m 29 (La0_1 q0 q1 q2 q3 q4 q5 b1) [(.ref b9378)])) X9378 (fun t k => st9378 _ k) ?_
  refine OwnFin.step (g' := (mkF m 30 (La0_1 q0 q1 q2 q3 q4 q5 b1) [(.ref b9378), (.ref b9378)])) X9378 (fun t k => XS.dup X9378.here hx rfl (hb hby at_29) rfl rfl k) ?_
  refine OwnFin.step (g' := (mkF m 31 (La0_1 q0 q1 q2 q3 q4 q5 b1) [(.int (0 : Int32)), (.ref b9378), (.ref b9378)])) X9378 (fun t k => XS.iconst X9378.here hx rfl (hb hby at_30) k) ?_
  refine OwnFin.step (g' := (mkF m 32 (La0_1 q0 q1 q2 q3 q4 q5 b1) [(.long q0), (.int (0 : Int32)), (.ref b9378), (.ref b9378)])) X9378 (fun t k => XT.lloadN X9378.here hx rfl (hb hby at_31) rfl k) ?_
  obtain ⟨T9382, h9382, L9382, X9382, e9382, N9382, K9382, A9382, st9382⟩ := own_stJ X9378 hx hZ e9378 N3210 (G := (fun _ => (0 : Int64))) B9378 g_b9378 (j := (0 : Int32)) (x := q0) (by decide) (g := (mkF m 32 (La0_1 q0 q1 q2 q3 q4 q5 b1) [(.long q0), (.int (0 : Int32)), (.ref b9378), (.ref b9378)])) rfl rfl (hb hby at_32)
  have B9382 : Ary Z h9382 b9378 .long 2 (fun i => .long ((G0_32 q0) i)) := A9382
  have Z9382 := Nat.le_trans Z9378 K9382.1
  refine OwnFin.step (g' := (mkF m 33 (La0_1 q0 q1 q2 q3 q4 q5 b1) [(.ref b9378)])) X9382 (fun t k => st9382 _ k) ?_
  refine OwnFin.step (g' := (mkF m 34 (La0_1 q0 q1 q2 q3 q4 q5 b1) [(.ref b9378), (.ref b9378)])) X9382 (fun t k => XS.dup X9382.here hx rfl (hb hby at_33) rfl rfl k) ?_
  refine OwnFin.step (g' := (mkF m 35 (La0_1 q0 q1 q2 q3 q4 q5 b1) [(.int (1 : Int32)), (.ref b9378), (.ref b9378)])) X9382 (fun t k => XS.iconst X9382.here hx rfl (hb hby at_34) k) ?_
  refine OwnFin.step (g' := (mkF m 36 (La0_1 q0 q1 q2 q3 q4 q5 b1) [(.long q1), (.int (1 : Int32)), (.ref b9378), (.ref b9378)])) X9382 (fun t k => XT.lloadN X9382.here hx rfl (hb hby at_35) rfl k) ?_
  obtain ⟨T9383, h9383, L9383, X9383, e9383, N9383, K9383, A9383, st9383⟩ := own_stJ X9382 hx hZ e9382 N9382 (G := (G0_32 q0)) B9382 g_b9378 (j := (1 : Int32)) (x := q1) (by decide) (g := (mkF m 36 (La0_1 q0 q1 q2 q3 q4 q5 b1) [(.long q1), (.int (1 : Int32)), (.ref b9378), (.ref b9378)])) rfl rfl (hb hby at_36)
  have B9383 : Ary Z h9383 b9378 .long 2 (fun i => .long ((G0_36 q0 q1) i)) := A9383
  have Z9383 := Nat.le_trans Z9382 K9383.1
  refine OwnFin.step (g' := (mkF m 37 (La0_1 q0 q1 q2 q3 q4 q5 b1) [(.ref b9378)])) X9383 (fun t k => st9383 _ k) ?_
  refine OwnFin.step (g' := (mkF m 39 (La0_2 q0 q1 q2 q3 q4 q5 b1 b9378) [])) X9383 (fun t k => XS.astore X9383.here hx rfl (hb hby at_37) rfl rfl (l' := (La0_2 q0 q1 q2 q3 q4 q5 b1 b9378)) rfl k) ?_
  refine OwnFin.step (g' := (mkF m 40 (La0_2 q0 q1 q2 q3 q4 q5 b1 b9378) [(.int (2 : Int32))])) X9383 (fun t k => XS.iconst X9383.here hx rfl (hb hby at_39) k) ?_
  obtain ⟨T9384, h9384, b9384, X9384, e9384, y9384, K9384, A9384, st9384⟩ := own_new X9383 hx hZ (hw _ (wm 34 rfl)) e9383 (g := (mkF m 40 (La0_2 q0 q1 q2 q3 q4 q5 b1 b9378) [(.int (2 : Int32))])) rfl (hb hby at_40) rfl (by decide) (cap := 2) (by decide) (by decide) (by decide) (by decide)
  have B9384 : Ary Z h9384 b9384 .long 2 (fun i => .long ((fun _ => (0 : Int64)) i)) := A9384
  have E9385 := (Exa.keep (Exa.keep (Exa.keep E9379 K9378) K9382) K9383)
  have ne_b1_b9384 : b1 ≠ b9384 := Exa.neS E9385 y9384
  have A9386 := (((u9368.keep K9378 nin0).keep K9382 (ninS ne_b1004_b9378 nin0)).keep K9383 (ninS ne_b1004_b9378 nin0))
  have ne_b1004_b9384 : b1004 ≠ b9384 := Ary.neS A9386 y9384
  have E9387 := (Exa.keep (Exa.keep (Exa.keep u9369 K9378) K9382) K9383)
  have ne_b1023_b9384 : b1023 ≠ b9384 := Exa.neS E9387 y9384
  have A9388 := (((u9375.keep K9378 nin0).keep K9382 (ninS ne_b3042_b9378 nin0)).keep K9383 (ninS ne_b3042_b9378 nin0))
  have ne_b3042_b9384 : b3042 ≠ b9384 := Ary.neS A9388 y9384
  have A9389 := (((u9376.keep K9378 nin0).keep K9382 (ninS ne_b3055_b9378 nin0)).keep K9383 (ninS ne_b3055_b9378 nin0))
  have ne_b3055_b9384 : b3055 ≠ b9384 := Ary.neS A9389 y9384
  have A9390 := (((A9380.keep K9378 nin0).keep K9382 (ninS ne_b3133_b9378 nin0)).keep K9383 (ninS ne_b3133_b9378 nin0))
  have ne_b3133_b9384 : b3133 ≠ b9384 := Ary.neS A9390 y9384
  have A9391 := (((A9381.keep K9378 nin0).keep K9382 (ninS ne_b3207_b9378 nin0)).keep K9383 (ninS ne_b3207_b9378 nin0))
  have ne_b3207_b9384 : b3207 ≠ b9384 := Ary.neS A9391 y9384
  have ne_b9378_b9384 : b9378 ≠ b9384 := Ary.neS B9383 y9384
  have g_b9384 : n0 ≤ b9384 := by rw [y9384]; exact Z9383
  have Z9384 := Nat.le_trans Z9383 K9384.1
  refine OwnFin.step (g' := (mkF m 42 (La0_2 q0 q1 q2 q3 q4 q5 b1 b9378) [(.ref b9384)])) X9384 (fun t k => st9384 _ k) ?_
  refine OwnFin.step (g' := (mkF m 43 (La0_2 q0 q1 q2 q3 q4 q5 b1 b9378) [(.ref b9384), (.ref b9384)])) X9384 (fun t k => XS.dup X9384.here hx rfl (hb hby at_42) rfl rfl k) ?_
  refine OwnFin.step (g' := (mkF m 44 (La0_2 q0 q1 q2 q3 q4 q5 b1 b9378) [(.int (0 : Int32)), (.ref b9384), (.ref b9384)])) X9384 (fun t k => XS.iconst X9384.here hx rfl (hb hby at_43) k) ?_
  refine OwnFin.step (g' := (mkF m 46 (La0_2 q0 q1 q2 q3 q4 q5 b1 b9378) [(.long q2), (.int (0 : Int32)), (.ref b9384), (.ref b9384)])) X9384 (fun t k => XT.lload X9384.here hx rfl (hb hby at_44) rfl k) ?_
  obtain ⟨T9392, h9392, L9392, X9392, e9392, N9392, K9392, A9392, st9392⟩ := own_stJ X9384 hx hZ e9384 N9383 (G := (fun _ => (0 : Int64))) B9384 g_b9384 (j := (0 : Int32)) (x := q2) (by decide) (g := (mkF m 46 (La0_2 q0 q1 q2 q3 q4 q5 b1 b9378) [(.long q2), (.int (0 : Int32)), (.ref b9384), (.ref b9384)])) rfl rfl (hb hby at_46)
  have B9392 : Ary Z h9392 b9384 .long 2 (fun i => .long ((G0_46 q2) i)) := A9392
  have Z9392 := Nat.le_trans Z9384 K9392.1
  refine OwnFin.step (g' := (mkF m 47 (La0_2 q0 q1 q2 q3 q4 q5 b1 b9378) [(.ref b9384)])) X9392 (fun t k => st9392 _ k) ?_
  refine OwnFin.step (g' := (mkF m 48 (La0_2 q0 q1 q2 q3 q4 q5 b1 b9378) [(.ref b9384), (.ref b9384)])) X9392 (fun t k => XS.dup X9392.here hx rfl (hb hby at_47) rfl rfl k) ?_
  refine OwnFin.step (g' := (mkF m 49 (La0_2 q0 q1 q2 q3 q4 q5 b1 b9378) [(.int (1 : Int32)), (.ref b9384), (.ref b9384)])) X9392 (fun t k => XS.iconst X9392.here hx rfl (hb hby at_48) k) ?_
  refine OwnFin.step (g' := (mkF m 51 (La0_2 q0 q1 q2 q3 q4 q5 b1 b9378) [(.long q3), (.int (1 : Int32)), (.ref b9384), (.ref b9384)])) X9392 (fun t k => XT.lload X9392.here hx rfl (hb hby at_49) rfl k) ?_
  obtain ⟨T9393, h9393, L9393, X9393, e9393, N9393, K9393, A9393, st9393⟩ := own_stJ X9392 hx hZ e9392 N9392 (G := (G0_46 q2)) B9392 g_b9384 (j := (1 : Int32)) (x := q3) (by decide) (g := (mkF m 51 (La0_2 q0 q1 q2 q3 q4 q5 b1 b9378) [(.long q3), (.int (1 : Int32)), (.ref b9384), (.ref b9384)])) rfl rfl (hb hby at_51)
  have B9393 : Ary Z h9393 b9384 .long 2 (fun i => .long ((G0_51 q2 q3) i)) := A9393
  have Z9393 := Nat.le_trans Z9392 K9393.1
  refine OwnFin.step (g' := (mkF m 52 (La0_2 q0 q1 q2 q3 q4 q5 b1 b9378) [(.ref b9384)])) X9393 (fun t k => st9393 _ k) ?_
  refine OwnFin.step (g' := (mkF m 54 (La0_3 q0 q1 q2 q3 q4 q5 b1 b9378 b9384) [])) X9393 (fun t k => XS.astore X9393.here hx rfl (hb hby at_52) rfl rfl (l' := (La0_3 q0 q1 q2 q3 q4 q5 b1 b9378 b9384)) rfl k) ?_
  refine OwnFin.step (g' := (mkF m 55 (La0_3 q0 q1 q2 q3 q4 q5 b1 b9378 b9384) [(.int (2 : Int32))])) X9393 (fun t k => XS.iconst X9393.here hx rfl (hb hby at_54) k) ?_
  obtain ⟨T9394, h9394, b9394, X9394, e9394, y9394, K9394, A9394, st9394⟩ := own_new X9393 hx hZ (hw _ (wm 34 rfl)) e9393 (g := (mkF m 55 (La0_3 q0 q1 q2 q3 q4 q5 b1 b9378 b9384) [(.int (2 : Int32))])) rfl (hb hby at_55) rfl (by decide) (cap := 2) (by decide) (by decide) (by decide) (by decide)
  have B9394 : Ary Z h9394 b9394 .long 2 (fun i => .long ((fun _ => (0 : Int64)) i)) := A9394
  have E9395 := (Exa.keep (Exa.keep (Exa.keep E9385 K9384) K9392) K9393)
  have ne_b1_b9394 : b1 ≠ b9394 := Exa.neS E9395 y9394
  have A9396 := (((A9386.keep K9384 nin0).keep K9392 (ninS ne_b1004_b9384 nin0)).keep K9393 (ninS ne_b1004_b9384 nin0))
  have ne_b1004_b9394 : b1004 ≠ b9394 := Ary.neS A9396 y9394
  have E9397 := (Exa.keep (Exa.keep (Exa.keep E9387 K9384) K9392) K9393)
  have ne_b1023_b9394 : b1023 ≠ b9394 := Exa.neS E9397 y9394
  have A9398 := (((A9388.keep K9384 nin0).keep K9392 (ninS ne_b3042_b9384 nin0)).keep K9393 (ninS ne_b3042_b9384 nin0))
  have ne_b3042_b9394 : b3042 ≠ b9394 := Ary.neS A9398 y9394
  have A9399 := (((A9389.keep K9384 nin0).keep K9392 (ninS ne_b3055_b9384 nin0)).keep K9393 (ninS ne_b3055_b9384 nin0))
  have ne_b3055_b9394 : b3055 ≠ b9394 := Ary.neS A9399 y9394
  have A9400 := (((A9390.keep K9384 nin0).keep K9392 (ninS ne_b3133_b9384 nin0)).keep K9393 (ninS ne_b3133_b9384 nin0))
  have ne_b3133_b9394 : b3133 ≠ b9394 := Ary.neS A9400 y9394
  have A9401 := (((A9391.keep K9384 nin0).keep K9392 (ninS ne_b3207_b9384 nin0)).keep K9393 (ninS ne_b3207_b9384 nin0))
  have ne_b3207_b9394 : b3207 ≠ b9394 := Ary.neS A9401 y9394
  have A9402 := (((B9383.keep K9384 nin0).keep K9392 (ninS ne_b9378_b9384 nin0)).keep K9393 (ninS ne_b9378_b9384 nin0))
  have ne_b9378_b9394 : b9378 ≠ b9394 := Ary.neS A9402 y9394
  have ne_b9384_b9394 : b9384 ≠ b9394 := Ary.neS B9393 y9394
  have g_b9394 : n0 ≤ b9394 := by rw [y9394]; exact Z9393
  have Z9394 := Nat.le_trans Z9393 K9394.1
  refine OwnFin.step (g' := (mkF m 57 (La0_3 q0 q1 q2 q3 q4 q5 b1 b9378 b9384) [(.ref b9394)])) X9394 (fun t k => st9394 _ k) ?_
  refine OwnFin.step (g' := (mkF m 58 (La0_3 q0 q1 q2 q3 q4 q5 b1 b9378 b9384) [(.ref b9394), (.ref b9394)])) X9394 (fun t k => XS.dup X9394.here hx rfl (hb hby at_57) rfl rfl k) ?_
  refine OwnFin.step (g' := (mkF m 59 (La0_3 q0 q1 q2 q3 q4 q5 b1 b9378 b9384) [(.int (0 : Int32)), (.ref b9394), (.ref b9394)])) X9394 (fun t k => XS.iconst X9394.here hx rfl (hb hby at_58) k) ?_
  refine OwnFin.step (g' := (mkF m 60 (La0_3 q0 q1 q2 q3 q4 q5 b1 b9378 b9384) [(.long q1), (.int (0 : Int32)), (.ref b9394), (.ref b9394)])) X9394 (fun t k => XT.lloadN X9394.here hx rfl (hb hby at_59) rfl k) ?_
  obtain ⟨T9403, h9403, L9403, X9403, e9403, N9403, K9403, A9403, st9403⟩ := own_stJ X9394 hx hZ e9394 N9393 (G := (fun _ => (0 : Int64))) B9394 g_b9394 (j := (0 : Int32)) (x := q1) (by decide) (g := (mkF m 60 (La0_3 q0 q1 q2 q3 q4 q5 b1 b9378 b9384) [(.long q1), (.int (0 : Int32)), (.ref b9394), (.ref b9394)])) rfl rfl (hb hby at_60)
  have B9403 : Ary Z h9403 b9394 .long 2 (fun i => .long ((G0_60 q1) i)) := A9403
  have Z9403 := Nat.le_trans Z9394 K9403.1
  refine OwnFin.step (g' := (mkF m 61 (La0_3 q0 q1 q2 q3 q4 q5 b1 b9378 b9384) [(.ref b9394)])) X9403 (fun t k => st9403 _ k) ?_
  refine OwnFin.step (g' := (mkF m 62 (La0_3 q0 q1 q2 q3 q4 q5 b1 b9378 b9384) [(.ref b9394), (.ref b9394)])) X9403 (fun t k => XS.dup X9403.here hx rfl (hb hby at_61) rfl rfl k) ?_
  refine OwnFin.step (g' := (mkF m 63 (La0_3 q0 q1 q2 q3 q4 q5 b1 b9378 b9384) [(.int (1 : Int32)), (.ref b9394), (.ref b9394)])) X9403 (fun t k => XS.iconst X9403.here hx rfl (hb hby at_62) k) ?_
  refine OwnFin.step (g' := (mkF m 64 (La0_3 q0 q1 q2 q3 q4 q5 b1 b9378 b9384) [(.long q0), (.int (1 : Int32)), (.ref b9394), (.ref b9394)])) X9403 (fun t k => XT.lloadN X9403.here hx rfl (hb hby at_63) rfl k) ?_
  obtain ⟨T9404, h9404, L9404, X9404, e9404, N9404, K9404, A9404, st9404⟩ := own_stJ X9403 hx hZ e9403 N9403 (G := (G0_60 q1)) B9403 g_b9394 (j := (1 : Int32)) (x := q0) (by decide) (g := (mkF m 64 (La0_3 q0 q1 q2 q3 q4 q5 b1 b9378 b9384) [(.long q0), (.int (1 : Int32)), (.ref b9394), (.ref b9394)])) rfl rfl (hb hby at_64)
  have B9404 : Ary Z h9404 b9394 .long 2 (fun i => .long ((G0_64 q1 q0) i)) := A9404
  have Z9404 := Nat.le_trans Z9403 K9404.1
  refine OwnFin.step (g' := (mkF m 65 (La0_3 q0 q1 q2 q3 q4 q5 b1 b9378 b9384) [(.ref b9394)])) X9404 (fun t k => st9404 _ k) ?_
  refine OwnFin.step (g' := (mkF m 67 (La0_4 q0 q1 q2 q3 q4 q5 b1 b9378 b9384 b9394) [])) X9404 (fun t k => XS.astore X9404.here hx rfl (hb hby at_65) rfl rfl (l' := (La0_4 q0 q1 q2 q3 q4 q5 b1 b9378 b9384 b9394)) rfl k) ?_
  refine OwnFin.step (g' := (mkF m 68 (La0_4 q0 q1 q2 q3 q4 q5 b1 b9378 b9384 b9394) [(.int (2 : Int32))])) X9404 (fun t k => XS.iconst X9404.here hx rfl (hb hby at_67) k) ?_
  obtain ⟨T9405, h9405, b9405, X9405, e9405, y9405, K9405, A9405, st9405⟩ := own_new X9404 hx hZ (hw _ (wm 34 rfl)) e9404 (g := (mkF m 68 (La0_4 q0 q1 q2 q3 q4 q5 b1 b9378 b9384 b9394) [(.int (2 : Int32))])) rfl (hb hby at_68) rfl (by decide) (cap := 2) (by decide) (by decide) (by decide) (by decide)
  have B9405 : Ary Z h9405 b9405 .long 2 (fun i => .long ((fun _ => (0 : Int64)) i)) := A9405
  have E9406 := (Exa.keep (Exa.keep (Exa.keep E9395 K9394) K9403) K9404)
  have ne_b1_b9405 : b1 ≠ b9405 := Exa.neS E9406 y9405
  have A9407 := (((A9396.keep K9394 nin0).keep K9403 (ninS ne_b1004_b9394 nin0)).keep K9404 (ninS ne_b1004_b9394 nin0))
  have ne_b1004_b9405 : b1004 ≠ b9405 := Ary.neS A9407 y9405
  have E9408 := (Exa.keep (Exa.keep (Exa.keep E9397 K9394) K9403) K9404)
  have ne_b1023_b9405 : b1023 ≠ b9405 := Exa.neS E9408 y9405
  have A9409 := (((A9398.keep K9394 nin0).keep K9403 (ninS ne_b3042_b9394 nin0)).keep K9404 (ninS ne_b3042_b9394 nin0))
  have ne_b3042_b9405 : b3042 ≠ b9405 := Ary.neS A9409 y9405
  have A9410 := (((A9399.keep K9394 nin0).keep K9403 (ninS ne_b3055_b9394 nin0)).keep K9404 (ninS ne_b3055_b9394 nin0))
  have ne_b3055_b9405 : b3055 ≠ b9405 := Ary.neS A9410 y9405
  have A9411 := (((A9400.keep K9394 nin0).keep K9403 (ninS ne_b3133_b9394 nin0)).keep K9404 (ninS ne_b3133_b9394 nin0))
  have ne_b3133_b9405 : b3133 ≠ b9405 := Ary.neS A9411 y9405
  have A9412 := (((A9401.keep K9394 nin0).keep K9403 (ninS ne_b3207_b9394 nin0)).keep K9404 (ninS ne_b3207_b9394 nin0))
  have ne_b3207_b9405 : b3207 ≠ b9405 := Ary.neS A9412 y9405
  have A9413 := (((A9402.keep K9394 nin0).keep K9403 (ninS ne_b9378_b9394 nin0)).keep K9404 (ninS ne_b9378_b9394 nin0))
  have ne_b9378_b9405 : b9378 ≠ b9405 := Ary.neS A9413 y9405
  have A9414 := (((B9393.keep K9394 nin0).keep K9403 (ninS ne_b9384_b9394 nin0)).keep K9404 (ninS ne_b9384_b9394 nin0))
  have ne_b9384_b9405 : b9384 ≠ b9405 := Ary.neS A9414 y9405
  have ne_b9394_b9405 : b9394 ≠ b9405 := Ary.neS B9404 y9405
  have g_b9405 : n0 ≤ b9405 := by rw [y9405]; exact Z9404
  have Z9405 := Nat.le_trans Z9404 K9405.1
  refine OwnFin.step (g' := (mkF m 70 (La0_4 q0 q1 q2 q3 q4 q5 b1 b9378 b9384 b9394) [(.ref b9405)])) X9405 (fun t k => st9405 _ k) ?_
  refine OwnFin.step (g' := (mkF m 71 (La0_4 q0 q1 q2 q3 q4 q5 b1 b9378 b9384 b9394) [(.ref b9405), (.ref b9405)])) X9405 (fun t k => XS.dup X9405.here hx rfl (hb hby at_70) rfl rfl k) ?_
  refine OwnFin.step (g' := (mkF m 72 (La0_4 q0 q1 q2 q3 q4 q5 b1 b9378 b9384 b9394) [(.int (0 : Int32)), (.ref b9405), (.ref b9405)])) X9405 (fun t k => XS.iconst X9405.here hx rfl (hb hby at_71) k) ?_
  refine OwnFin.step (g' := (mkF m 74 (La0_4 q0 q1 q2 q3 q4 q5 b1 b9378 b9384 b9394) [(.long q3), (.int (0 : Int32)), (.ref b9405), (.ref b9405)])) X9405 (fun t k => XT.lload X9405.here hx rfl (hb hby at_72) rfl k) ?_
  refine OwnFin.step (g' := (mkF m 77 (La0_4 q0 q1 q2 q3 q4 q5 b1 b9378 b9384 b9394) [(.long (-1 : Int64)), (.long q3), (.int (0 : Int32)), (.ref b9405), (.ref b9405)])) X9405 (fun t k => X9405.ldc2Long hx hown (mvT hZ (hw _ (wm 81 rfl))) (g := (mkF m 74 (La0_4 q0 q1 q2 q3 q4 q5 b1 b9378 b9384 b9394) [(.long q3), (.int (0 : Int32)), (.ref b9405), (.ref b9405)])) rfl (hb hby at_74) _ k) ?_
  refine OwnFin.step (g' := (mkF m 78 (La0_4 q0 q1 q2 q3 q4 q5 b1 b9378 b9384 b9394) [(.long (q3 ^^^ (-1 : Int64))), (.int (0 : Int32)), (.ref b9405), (.ref b9405)])) X9405 (fun t k => XT.lxor X9405.here hx rfl (hb hby at_77) rfl k) ?_
  obtain ⟨T9415, h9415, L9415, X9415, e9415, N9415, K9415, A9415, st9415⟩ := own_stJ X9405 hx hZ e9405 N9404 (G := (fun _ => (0 : Int64))) B9405 g_b9405 (j := (0 : Int32)) (x := (q3 ^^^ (-1 : Int64))) (by decide) (g := (mkF m 78 (La0_4 q0 q1 q2 q3 q4 q5 b1 b9378 b9384 b9394) [(.long (q3 ^^^ (-1 : Int64))), (.int (0 : Int32)), (.ref b9405), (.ref b9405)])) rfl rfl (hb hby at_78)
  have B9415 : Ary Z h9415 b9405 .long 2 (fun i => .long ((G0_78 q3) i)) := A9415
  have Z9415 := Nat.le_trans Z9405 K9415.1
  refine OwnFin.step (g' := (mkF m 79 (La0_4 q0 q1 q2 q3 q4 q5 b1 b9378 b9384 b9394) [(.ref b9405)])) X9415 (fun t k => st9415 _ k) ?_
  refine OwnFin.step (g' := (mkF m 80 (La0_4 q0 q1 q2 q3 q4 q5 b1 b9378 b9384 b9394) [(.ref b9405), (.ref b9405)])) X9415 (fun t k => XS.dup X9415.here hx rfl (hb hby at_79) rfl rfl k) ?_
  refine OwnFin.step (g' := (mkF m 81 (La0_4 q0 q1 q2 q3 q4 q5 b1 b9378 b9384 b9394) [(.int (1 : Int32)), (.ref b9405), (.ref b9405)])) X9415 (fun t k => XS.iconst X9415.here hx rfl (hb hby at_80) k) ?_
  refine OwnFin.step (g' := (mkF m 83 (La0_4 q0 q1 q2 q3 q4 q5 b1 b9378 b9384 b9394) [(.long q2), (.int (1 : Int32)), (.ref b9405), (.ref b9405)])) X9415 (fun t k => XT.lload X9415.here hx rfl (hb hby at_81) rfl k) ?_
  refine OwnFin.step (g' := (mkF m 85 (La0_4 q0 q1 q2 q3 q4 q5 b1 b9378 b9384 b9394) [(.long q5), (.long q2), (.int (1 : Int32)), (.ref b9405), (.ref b9405)])) X9415 (fun t k => XT.lload X9415.here hx rfl (hb hby at_83) rfl k) ?_
  refine OwnFin.step (g' := (mkF m 86 (La0_4 q0 q1 q2 q3 q4 q5 b1 b9378 b9384 b9394) [(.long (q2 ^^^ q5)), (.int (1 : Int32)), (.ref b9405), (.ref b9405)])) X9415 (fun t k => XT.lxor X9415.here hx rfl (hb hby at_85) rfl k) ?_
  obtain ⟨T9416, h9416, L9416, X9416, e9416, N9416, K9416, A9416, st9416⟩ := own_stJ X9415 hx hZ e9415 N9415 (G := (G0_78 q3)) B9415 g_b9405 (j := (1 : Int32)) (x := (q2 ^^^ q5)) (by decide) (g := (mkF m 86 (La0_4 q0 q1 q2 q3 q4 q5 b1 b9378 b9384 b9394) [(.long (q2 ^^^ q5)), (.int (1 : Int32)), (.ref b9405), (.ref b9405)])) rfl rfl (hb hby at_86)
  have B9416 : Ary Z h9416 b9405 .long 2 (fun i => .long ((G0_86 q3 q2 q5) i)) := A9416
  have Z9416 := Nat.le_trans Z9415 K9416.1
  refine OwnFin.step (g' := (mkF m 87 (La0_4 q0 q1 q2 q3 q4 q5 b1 b9378 b9384 b9394) [(.ref b9405)])) X9416 (fun t k => st9416 _ k) ?_
  refine OwnFin.step (g' := (mkF m 89 (La0_5 q0 q1 q2 q3 q4 q5 b1 b9378 b9384 b9394 b9405) [])) X9416 (fun t k => XS.astore X9416.here hx rfl (hb hby at_87) rfl rfl (l' := (La0_5 q0 q1 q2 q3 q4 q5 b1 b9378 b9384 b9394 b9405)) rfl k) ?_
  refine OwnFin.step (g' := (mkF m 91 (La0_5 q0 q1 q2 q3 q4 q5 b1 b9378 b9384 b9394 b9405) [(.ref b1)])) X9416 (fun t k => XS.aload X9416.here hx rfl (hb hby at_89) rfl rfl k) ?_
  refine OwnFin.step (g' := (mkF m 93 (La0_5 q0 q1 q2 q3 q4 q5 b1 b9378 b9384 b9394 b9405) [(.ref b9378), (.ref b1)])) X9416 (fun t k => XS.aload X9416.here hx rfl (hb hby at_91) rfl rfl k) ?_
  refine OwnFin.step (g' := (mkF m 95 (La0_5 q0 q1 q2 q3 q4 q5 b1 b9378 b9384 b9394 b9405) [(.ref b9384), (.ref b9378), (.ref b1)])) X9416 (fun t k => XS.aload X9416.here hx rfl (hb hby at_93) rfl rfl k) ?_
  have E11497 := (Exa.keep (Exa.keep (Exa.keep E9406 K9405) K9415) K9416)
  have F11498 := (((((((((((((F9355.keep K3210 (ninS ne_b1_b1004 (ninS ne_b1_b1023 (ninS ne_b1_b3042 (ninS ne_b1_b3055 nin0))))).keep K9378 nin0).keep K9382 (ninS ne_b1_b9378 nin0)).keep K9383 (ninS ne_b1_b9378 nin0)).keep K9384 nin0).keep K9392 (ninS ne_b1_b9384 nin0)).keep K9393 (ninS ne_b1_b9384 nin0)).keep K9394 nin0).keep K9403 (ninS ne_b1_b9394 nin0)).keep K9404 (ninS ne_b1_b9394 nin0)).keep K9405 nin0).keep K9415 (ninS ne_b1_b9405 nin0)).keep K9416 (ninS ne_b1_b9405 nin0))
  have F11499 := ((((((((((((((((u3173.keep K3207 nin0).keep K3208 (ninS ne_b1_b3207 nin0)).keep K3209 (ninS ne_b1_b3207 nin0)).keep K3210 (ninS ne_b1_b1004 (ninS ne_b1_b1023 (ninS ne_b1_b3042 (ninS ne_b1_b3055 nin0))))).keep K9378 nin0).keep K9382 (ninS ne_b1_b9378 nin0)).keep K9383 (ninS ne_b1_b9378 nin0)).keep K9384 nin0).keep K9392 (ninS ne_b1_b9384 nin0)).keep K9393 (ninS ne_b1_b9384 nin0)).keep K9394 nin0).keep K9403 (ninS ne_b1_b9394 nin0)).keep K9404 (ninS ne_b1_b9394 nin0)).keep K9405 nin0).keep K9415 (ninS ne_b1_b9405 nin0)).keep K9416 (ninS ne_b1_b9405 nin0))
  have F11500 := (((((((((((((F9356.keep K3210 (ninS ne_b1_b1004 (ninS ne_b1_b1023 (ninS ne_b1_b3042 (ninS ne_b1_b3055 nin0))))).keep K9378 nin0).keep K9382 (ninS ne_b1_b9378 nin0)).keep K9383 (ninS ne_b1_b9378 nin0)).keep K9384 nin0).keep K9392 (ninS ne_b1_b9384 nin0)).keep K9393 (ninS ne_b1_b9384 nin0)).keep K9394 nin0).keep K9403 (ninS ne_b1_b9394 nin0)).keep K9404 (ninS ne_b1_b9394 nin0)).keep K9405 nin0).keep K9415 (ninS ne_b1_b9405 nin0)).keep K9416 (ninS ne_b1_b9405 nin0))
  have F11501 := ((((((((((((((((u3175.keep K3207 nin0).keep K3208 (ninS ne_b1_b3207 nin0)).keep K3209 (ninS ne_b1_b3207 nin0)).keep K3210 (ninS ne_b1_b1004 (ninS ne_b1_b1023 (ninS ne_b1_b3042 (ninS ne_b1_b3055 nin0))))).keep K9378 nin0).keep K9382 (ninS ne_b1_b9378 nin0)).keep K9383 (ninS ne_b1_b9378 nin0)).keep K9384 nin0).keep K9392 (ninS ne_b1_b9384 nin0)).keep K9393 (ninS ne_b1_b9384 nin0)).keep K9394 nin0).keep K9403 (ninS ne_b1_b9394 nin0)).keep K9404 (ninS ne_b1_b9394 nin0)).keep K9405 nin0).keep K9415 (ninS ne_b1_b9405 nin0)).keep K9416 (ninS ne_b1_b9405 nin0))
  have F11502 := (((((((((((((F9357.keep K3210 (ninS ne_b1_b1004 (ninS ne_b1_b1023 (ninS ne_b1_b3042 (ninS ne_b1_b3055 nin0))))).keep K9378 nin0).keep K9382 (ninS ne_b1_b9378 nin0)).keep K9383 (ninS ne_b1_b9378 nin0)).keep K9384 nin0).keep K9392 (ninS ne_b1_b9384 nin0)).keep K9393 (ninS ne_b1_b9384 nin0)).keep K9394 nin0).keep K9403 (ninS ne_b1_b9394 nin0)).keep K9404 (ninS ne_b1_b9394 nin0)).keep K9405 nin0).keep K9415 (ninS ne_b1_b9405 nin0)).keep K9416 (ninS ne_b1_b9405 nin0))
  have A11503 := (((A9407.keep K9405 nin0).keep K9415 (ninS ne_b1004_b9405 nin0)).keep K9416 (ninS ne_b1004_b9405 nin0))
  have E11504 := (Exa.keep (Exa.keep (Exa.keep E9408 K9405) K9415) K9416)
  have F11505 := ((((((((((((u9374.keep K9378 nin0).keep K9382 (ninS ne_b1023_b9378 nin0)).keep K9383 (ninS ne_b1023_b9378 nin0)).keep K9384 nin0).keep K9392 (ninS ne_b1023_b9384 nin0)).keep K9393 (ninS ne_b1023_b9384 nin0)).keep K9394 nin0).keep K9403 (ninS ne_b1023_b9394 nin0)).keep K9404 (ninS ne_b1023_b9394 nin0)).keep K9405 nin0).keep K9415 (ninS ne_b1023_b9405 nin0)).keep K9416 (ninS ne_b1023_b9405 nin0))
  have A11506 := (((A9411.keep K9405 nin0).keep K9415 (ninS ne_b3133_b9405 nin0)).keep K9416 (ninS ne_b3133_b9405 nin0))
  have A11507 := (((A9413.keep K9405 nin0).keep K9415 (ninS ne_b9378_b9405 nin0)).keep K9416 (ninS ne_b9378_b9405 nin0))
  have A11508 := (((A9414.keep K9405 nin0).keep K9415 (ninS ne_b9384_b9405 nin0)).keep K9416 (ninS ne_b9384_b9405 nin0))
  obtain ⟨_, T9417, L9417, X9417, ⟨rfl, N9417q, u11509, u11510, u11511, u11512, u11513, u11514, u11515, u11516, u11517⟩, st9417⟩ := own_callV X9416 hx hZ (y := (⟨"com/example/ken2/ken2/RememberedSteps", "add", "([J[J)V"⟩ : MethodName)) (W := 0) (a := b1) (argsL := [(.ref b9378), (.ref b9384)]) (rest := []) hown (hw _ (wm 82 rfl)) (hw _ (wm 83 rfl)) (hw _ (wm 85 rfl)) (hw _ (wm 84 rfl)) (hw _ (wm 2 rfl)) (hw _ (wm 86 rfl)) (by decide) E11497 (rm12s10 l Z a0 hw [] q0 q1 q2 q3 b1 b1004 b1023 b3133 b9378 b9384 h9416 n0 Z9416 E11497 F11498 F11499 F11500 F11501 F11502 g_b1 A11503 u3178 E11504 F11505 A11506 u3195 A11507 A11508 ne_b1_b1004 ne_b1_b1023 ne_b1_b3133 u3200 u3203 ne_b3133_b9378 ne_b3133_b9384) (by decide) (by decide) (by decide) (by decide) e9416 (g := (mkF m 95 (La0_5 q0 q1 q2 q3 q4 q5 b1 b9378 b9384 b9394 b9405) [(.ref b9384), (.ref b9378), (.ref b1)])) rfl (by rw [hml]; rfl) pd_9 rfl rfl (by show 2 * 0 + _ ≤ _; exact Nat.le_of_eq rfl) (hb hby at_95)
  have N9417 := Fr.app N9416 N9417q
  obtain ⟨h9417, e9417⟩ : ∃ z, T9417.heap = z := ⟨_, rfl⟩
  rw [e9417] at u11509 u11510 u11511 u11512 u11513 u11514 u11515 u11516 u11517
  have K9417 := u11509
  have Z9417 := Nat.le_trans Z9416 K9417.1
  refine OwnFin.step (g' := (mkF m 98 (La0_5 q0 q1 q2 q3 q4 q5 b1 b9378 b9384 b9394 b9405) [])) X9417 (fun t k => st9417 _ k) ?_
  refine OwnFin.step (g' := (mkF m 100 (La0_5 q0 q1 q2 q3 q4 q5 b1 b9378 b9384 b9394 b9405) [(.ref b1)])) X9417 (fun t k => XS.aload X9417.here hx rfl (hb hby at_98) rfl rfl k) ?_
  refine OwnFin.step (g' := (mkF m 102 (La0_5 q0 q1 q2 q3 q4 q5 b1 b9378 b9384 b9394 b9405) [(.ref b9394), (.ref b1)])) X9417 (fun t k => XS.aload X9417.here hx rfl (hb hby at_100) rfl rfl k) ?_
  refine OwnFin.step (g' := (mkF m 104 (La0_5 q0 q1 q2 q3 q4 q5 b1 b9378 b9384 b9394 b9405) [(.ref b9405), (.ref b9394), (.ref b1)])) X9417 (fun t k => XS.aload X9417.here hx rfl (hb hby at_102) rfl rfl k) ?_
  have E13598 := (Exa.keep E11504 K9417)
  have F13599 := (F11505.keep K9417 (ninS (Ne.symm ne_b1_b1023) (ninS (Ne.symm u3197) (ninS u3203 nin0))))
  have A13600 := ((((B9404.keep K9405 nin0).keep K9415 (ninS ne_b9394_b9405 nin0)).keep K9416 (ninS ne_b9394_b9405 nin0)).keep K9417 (ninS (Ne.symm ne_b1_b9394) (ninS (Ne.symm ne_b1004_b9394) (ninS (Ne.symm ne_b3133_b9394) nin0))))
  have A13601 := (B9416.keep K9417 (ninS (Ne.symm ne_b1_b9405) (ninS (Ne.symm ne_b1004_b9405) (ninS (Ne.symm ne_b3133_b9405) nin0))))
  obtain ⟨_, T11518, L11518, X11518, ⟨rfl, N11518q, u13602, u13603, u13604, u13605, u13606, u13607, u13608, u13609, u13610⟩, st11518⟩ := own_callV X9417 hx hZ (y := (⟨"com/example/ken2/ken2/RememberedSteps", "add", "([J[J)V"⟩ : MethodName)) (W := 0) (a := b1) (argsL := [(.ref b9394), (.ref b9405)]) (rest := []) hown (hw _ (wm 82 rfl)) (hw _ (wm 83 rfl)) (hw _ (wm 85 rfl)) (hw _ (wm 84 rfl)) (hw _ (wm 2 rfl)) (hw _ (wm 86 rfl)) (by decide) u11510 (rm12s12 l Z a0 hw [] q0 q2 q1 q3 q5 b1 b1004 b1023 b3133 b9394 b9405 h9417 n0 Z9417 u11510 u11511 u11512 u11513 u11514 u11515 g_b1 u11516 u3178 E13598 F13599 u11517 u3195 A13600 A13601 ne_b1_b1004 ne_b1_b1023 ne_b1_b3133 u3200 u3203 ne_b3133_b9394 ne_b3133_b9405) (by decide) (by decide) (by decide) (by decide) e9417 (g := (mkF m 104 (La0_5 q0 q1 q2 q3 q4 q5 b1 b9378 b9384 b9394 b9405) [(.ref b9405), (.ref b9394), (.ref b1)])) rfl (by rw [hml]; rfl) pd_9 rfl rfl (by show 2 * 0 + _ ≤ _; exact Nat.le_of_eq rfl) (hb hby at_104)
  have N11518 := Fr.app N9417 N11518q
  obtain ⟨h11518, e11518⟩ : ∃ z, T11518.heap = z := ⟨_, rfl⟩
  rw [e11518] at u13602 u13603 u13604 u13605 u13606 u13607 u13608 u13609 u13610
  have K11518 := u13602
  have Z11518 := Nat.le_trans Z9417 K11518.1
  refine OwnFin.step (g' := (mkF m 107 (La0_5 q0 q1 q2 q3 q4 q5 b1 b9378 b9384 b9394 b9405) [])) X11518 (fun t k => st11518 _ k) ?_
  refine OwnFin.step (g' := (mkF m 108 (La0_5 q0 q1 q2 q3 q4 q5 b1 b9378 b9384 b9394 b9405) [(.int (2 : Int32))])) X11518 (fun t k => XS.iconst X11518.here hx rfl (hb hby at_107) k) ?_
  obtain ⟨T13611, h13611, b13611, X13611, e13611, y13611, K13611, A13611, st13611⟩ := own_new X11518 hx hZ (hw _ (wm 34 rfl)) e11518 (g := (mkF m 108 (La0_5 q0 q1 q2 q3 q4 q5 b1 b9378 b9384 b9394 b9405) [(.int (2 : Int32))])) rfl (hb hby at_108) rfl (by decide) (cap := 2) (by decide) (by decide) (by decide) (by decide)
  have B13611 : Ary Z h13611 b13611 .long 2 (fun i => .long ((fun _ => (0 : Int64)) i)) := A13611
  have ne_b1_b13611 : b1 ≠ b13611 := Exa.neS u13603 y13611
  have ne_b1004_b13611 : b1004 ≠ b13611 := Ary.neS u13609 y13611
  have E13612 := (Exa.keep E13598 K11518)
  have ne_b1023_b13611 : b1023 ≠ b13611 := Exa.neS E13612 y13611
  have A13613 := (((((A9409.keep K9405 nin0).keep K9415 (ninS ne_b3042_b9405 nin0)).keep K9416 (ninS ne_b3042_b9405 nin0)).keep K9417 (ninS (Ne.symm ne_b1_b3042) (ninS (Ne.symm u3198) (ninS u3205 nin0)))).keep K11518 (ninS (Ne.symm ne_b1_b3042) (ninS (Ne.symm u3198) (ninS u3205 nin0))))
  have ne_b3042_b13611 : b3042 ≠ b13611 := Ary.neS A13613 y13611
  have A13614 := (((((A9410.keep K9405 nin0).keep K9415 (ninS ne_b3055_b9405 nin0)).keep K9416 (ninS ne_b3055_b9405 nin0)).keep K9417 (ninS (Ne.symm ne_b1_b3055) (ninS (Ne.symm u3199) (ninS u3206 nin0)))).keep K11518 (ninS (Ne.symm ne_b1_b3055) (ninS (Ne.symm u3199) (ninS u3206 nin0))))
  have ne_b3055_b13611 : b3055 ≠ b13611 := Ary.neS A13614 y13611
  have ne_b3133_b13611 : b3133 ≠ b13611 := Ary.neS u13610 y13611
  have A13615 := (((((A9412.keep K9405 nin0).keep K9415 (ninS ne_b3207_b9405 nin0)).keep K9416 (ninS ne_b3207_b9405 nin0)).keep K9417 (ninS (Ne.symm ne_b1_b3207) (ninS (Ne.symm ne_b1004_b3207) (ninS (Ne.symm ne_b3133_b3207) nin0)))).keep K11518 (ninS (Ne.symm ne_b1_b3207) (ninS (Ne.symm ne_b1004_b3207) (ninS (Ne.symm ne_b3133_b3207) nin0))))
  have ne_b3207_b13611 : b3207 ≠ b13611 := Ary.neS A13615 y13611
  have A13616 := ((A11507.keep K9417 (ninS (Ne.symm ne_b1_b9378) (ninS (Ne.symm ne_b1004_b9378) (ninS (Ne.symm ne_b3133_b9378) nin0)))).keep K11518 (ninS (Ne.symm ne_b1_b9378) (ninS (Ne.symm ne_b1004_b9378) (ninS (Ne.symm ne_b3133_b9378) nin0))))
  have ne_b9378_b13611 : b9378 ≠ b13611 := Ary.neS A13616 y13611
  have A13617 := ((A11508.keep K9417 (ninS (Ne.symm ne_b1_b9384) (ninS (Ne.symm ne_b1004_b9384) (ninS (Ne.symm ne_b3133_b9384) nin0)))).keep K11518 (ninS (Ne.symm ne_b1_b9384) (ninS (Ne.symm ne_b1004_b9384) (ninS (Ne.symm ne_b3133_b9384) nin0))))
  have ne_b9384_b13611 : b9384 ≠ b13611 := Ary.neS A13617 y13611
  have A13618 := (A13600.keep K11518 (ninS (Ne.symm ne_b1_b9394) (ninS (Ne.symm ne_b1004_b9394) (ninS (Ne.symm ne_b3133_b9394) nin0))))
  have ne_b9394_b13611 : b9394 ≠ b13611 := Ary.neS A13618 y13611
  have A13619 := (A13601.keep K11518 (ninS (Ne.symm ne_b1_b9405) (ninS (Ne.symm ne_b1004_b9405) (ninS (Ne.symm ne_b3133_b9405) nin0))))
  have ne_b9405_b13611 : b9405 ≠ b13611 := Ary.neS A13619 y13611
  have g_b13611 : n0 ≤ b13611 := by rw [y13611]; exact Z11518
  have Z13611 := Nat.le_trans Z11518 K13611.1
  refine OwnFin.step (g' := (mkF m 110 (La0_5 q0 q1 q2 q3 q4 q5 b1 b9378 b9384 b9394 b9405) [(.ref b13611)])) X13611 (fun t k => st13611 _ k) ?_
  refine OwnFin.step (g' := (mkF m 111 (La0_5 q0 q1 q2 q3 q4 q5 b1 b9378 b9384 b9394 b9405) [(.ref b13611), (.ref b13611)])) X13611 (fun t k => XS.dup X13611.here hx rfl (hb hby at_110) rfl rfl k) ?_
  refine OwnFin.step (g' := (mkF m 112 (La0_5 q0 q1 q2 q3 q4 q5 b1 b9378 b9384 b9394 b9405) [(.int (0 : Int32)), (.ref b13611), (.ref b13611)])) X13611 (fun t k => XS.iconst X13611.here hx rfl (hb hby at_111) k) ?_
  refine OwnFin.step (g' := (mkF m 114 (La0_5 q0 q1 q2 q3 q4 q5 b1 b9378 b9384 b9394 b9405) [(.long q4), (.int (0 : Int32)), (.ref b13611), (.ref b13611)])) X13611 (fun t k => XT.lload X13611.here hx rfl (hb hby at_112) rfl k) ?_
  obtain ⟨T13620, h13620, L13620, X13620, e13620, N13620, K13620, A13620, st13620⟩ := own_stJ X13611 hx hZ e13611 N11518 (G := (fun _ => (0 : Int64))) B13611 g_b13611 (j := (0 : Int32)) (x := q4) (by decide) (g := (mkF m 114 (La0_5 q0 q1 q2 q3 q4 q5 b1 b9378 b9384 b9394 b9405) [(.long q4), (.int (0 : Int32)), (.ref b13611), (.ref b13611)])) rfl rfl (hb hby at_114)
  have B13620 : Ary Z h13620 b13611 .long 2 (fun i => .long ((G0_114 q4) i)) := A13620
  have Z13620 := Nat.le_trans Z13611 K13620.1
  refine OwnFin.step (g' := (mkF m 115 (La0_5 q0 q1 q2 q3 q4 q5 b1 b9378 b9384 b9394 b9405) [(.ref b13611)])) X13620 (fun t k => st13620 _ k) ?_
  refine OwnFin.step (g' := (mkF m 116 (La0_5 q0 q1 q2 q3 q4 q5 b1 b9378 b9384 b9394 b9405) [(.ref b13611), (.ref b13611)])) X13620 (fun t k => XS.dup X13620.here hx rfl (hb hby at_115) rfl rfl k) ?_
  refine OwnFin.step (g' := (mkF m 117 (La0_5 q0 q1 q2 q3 q4 q5 b1 b9378 b9384 b9394 b9405) [(.int (1 : Int32)), (.ref b13611), (.ref b13611)])) X13620 (fun t k => XS.iconst X13620.here hx rfl (hb hby at_116) k) ?_
  refine OwnFin.step (g' := (mkF m 119 (La0_5 q0 q1 q2 q3 q4 q5 b1 b9378 b9384 b9394 b9405) [(.long q5), (.int (1 : Int32)), (.ref b13611), (.ref b13611)])) X13620 (fun t k => XT.lload X13620.here hx rfl (hb hby at_117) rfl k) ?_
  obtain ⟨T13621, h13621, L13621, X13621, e13621, N13621, K13621, A13621, st13621⟩ := own_stJ X13620 hx hZ e13620 N13620 (G := (G0_114 q4)) B13620 g_b13611 (j := (1 : Int32)) (x := q5) (by decide) (g := (mkF m 119 (La0_5 q0 q1 q2 q3 q4 q5 b1 b9378 b9384 b9394 b9405) [(.long q5), (.int (1 : Int32)), (.ref b13611), (.ref b13611)])) rfl rfl (hb hby at_119)
  have B13621 : Ary Z h13621 b13611 .long 2 (fun i => .long ((G0_119 q4 q5) i)) := A13621
  have Z13621 := Nat.le_trans Z13620 K13621.1
  refine OwnFin.step (g' := (mkF m 120 (La0_5 q0 q1 q2 q3 q4 q5 b1 b9378 b9384 b9394 b9405) [(.ref b13611)])) X13621 (fun t k => st13621 _ k) ?_
  refine OwnFin.step (g' := (mkF m 122 (La0_6 q0 q1 q2 q3 q4 q5 b1 b9378 b9384 b9394 b9405 b13611) [])) X13621 (fun t k => XS.astore X13621.here hx rfl (hb hby at_120) rfl rfl (l' := (La0_6 q0 q1 q2 q3 q4 q5 b1 b9378 b9384 b9394 b9405 b13611)) rfl k) ?_
  refine OwnFin.step (g' := (mkF m 123 (La0_6 q0 q1 q2 q3 q4 q5 b1 b9378 b9384 b9394 b9405 b13611) [(.int (2 : Int32))])) X13621 (fun t k => XS.iconst X13621.here hx rfl (hb hby at_122) k) ?_
  obtain ⟨T13622, h13622, b13622, X13622, e13622, y13622, K13622, A13622, st13622⟩ := own_new X13621 hx hZ (hw _ (wm 34 rfl)) e13621 (g := (mkF m 123 (La0_6 q0 q1 q2 q3 q4 q5 b1 b9378 b9384 b9394 b9405 b13611) [(.int (2 : Int32))])) rfl (hb hby at_123) rfl (by decide) (cap := 2) (by decide) (by decide) (by decide) (by decide)
  have B13622 : Ary Z h13622 b13622 .long 2 (fun i => .long ((fun _ => (0 : Int64)) i)) := A13622
  have E13623 := (Exa.keep (Exa.keep (Exa.keep u13603 K13611) K13620) K13621)
  have ne_b1_b13622 : b1 ≠ b13622 := Exa.neS E13623 y13622
  have A13624 := (((u13609.keep K13611 nin0).keep K13620 (ninS ne_b1004_b13611 nin0)).keep K13621 (ninS ne_b1004_b13611 nin0))
  have ne_b1004_b13622 : b1004 ≠ b13622 := Ary.neS A13624 y13622
  have E13625 := (Exa.keep (Exa.keep (Exa.keep E13612 K13611) K13620) K13621)
  have ne_b1023_b13622 : b1023 ≠ b13622 := Exa.neS E13625 y13622
  have A13626 := (((A13613.keep K13611 nin0).keep K13620 (ninS ne_b3042_b13611 nin0)).keep K13621 (ninS ne_b3042_b13611 nin0))
  have ne_b3042_b13622 : b3042 ≠ b13622 := Ary.neS A13626 y13622
  have A13627 := (((A13614.keep K13611 nin0).keep K13620 (ninS ne_b3055_b13611 nin0)).keep K13621 (ninS ne_b3055_b13611 nin0))
  have ne_b3055_b13622 : b3055 ≠ b13622 := Ary.neS A13627 y13622
  have A13628 := (((u13610.keep K13611 nin0).keep K13620 (ninS ne_b3133_b13611 nin0)).keep K13621 (ninS ne_b3133_b13611 nin0))
  have ne_b3133_b13622 : b3133 ≠ b13622 := Ary.neS A13628 y13622
  have A13629 := (((A13615.keep K13611 nin0).keep K13620 (ninS ne_b3207_b13611 nin0)).keep K13621 (ninS ne_b3207_b13611 nin0))
  have ne_b3207_b13622 : b3207 ≠ b13622 := Ary.neS A13629 y13622
  have A13630 := (((A13616.keep K13611 nin0).keep K13620 (ninS ne_b9378_b13611 nin0)).keep K13621 (ninS ne_b9378_b13611 nin0))
  have ne_b9378_b13622 : b9378 ≠ b13622 := Ary.neS A13630 y13622
  have A13631 := (((A13617.keep K13611 nin0).keep K13620 (ninS ne_b9384_b13611 nin0)).keep K13621 (ninS ne_b9384_b13611 nin0))
  have ne_b9384_b13622 : b9384 ≠ b13622 := Ary.neS A13631 y13622
  have A13632 := (((A13618.keep K13611 nin0).keep K13620 (ninS ne_b9394_b13611 nin0)).keep K13621 (ninS ne_b9394_b13611 nin0))
  have ne_b9394_b13622 : b9394 ≠ b13622 := Ary.neS A13632 y13622
  have A13633 := (((A13619.keep K13611 nin0).keep K13620 (ninS ne_b9405_b13611 nin0)).keep K13621 (ninS ne_b9405_b13611 nin0))
  have ne_b9405_b13622 : b9405 ≠ b13622 := Ary.neS A13633 y13622
  have ne_b13611_b13622 : b13611 ≠ b13622 := Ary.neS B13621 y13622
  have g_b13622 : n0 ≤ b13622 := by rw [y13622]; exact Z13621
  have Z13622 := Nat.le_trans Z13621 K13622.1
  refine OwnFin.step (g' := (mkF m 125 (La0_6 q0 q1 q2 q3 q4 q5 b1 b9378 b9384 b9394 b9405 b13611) [(.ref b13622)])) X13622 (fun t k => st13622 _ k) ?_
  refine OwnFin.step (g' := (mkF m 126 (La0_6 q0 q1 q2 q3 q4 q5 b1 b9378 b9384 b9394 b9405 b13611) [(.ref b13622), (.ref b13622)])) X13622 (fun t k => XS.dup X13622.here hx rfl (hb hby at_125) rfl rfl k) ?_
  refine OwnFin.step (g' := (mkF m 127 (La0_6 q0 q1 q2 q3 q4 q5 b1 b9378 b9384 b9394 b9405 b13611) [(.int (0 : Int32)), (.ref b13622), (.ref b13622)])) X13622 (fun t k => XS.iconst X13622.here hx rfl (hb hby at_126) k) ?_
  refine OwnFin.step (g' := (mkF m 129 (La0_6 q0 q1 q2 q3 q4 q5 b1 b9378 b9384 b9394 b9405 b13611) [(.long q4), (.int (0 : Int32)), (.ref b13622), (.ref b13622)])) X13622 (fun t k => XT.lload X13622.here hx rfl (hb hby at_127) rfl k) ?_
  refine OwnFin.step (g' := (mkF m 132 (La0_6 q0 q1 q2 q3 q4 q5 b1 b9378 b9384 b9394 b9405 b13611) [(.long (-1 : Int64)), (.long q4), (.int (0 : Int32)), (.ref b13622), (.ref b13622)])) X13622 (fun t k => X13622.ldc2Long hx hown (mvT hZ (hw _ (wm 81 rfl))) (g := (mkF m 129 (La0_6 q0 q1 q2 q3 q4 q5 b1 b9378 b9384 b9394 b9405 b13611) [(.long q4), (.int (0 : Int32)), (.ref b13622), (.ref b13622)])) rfl (hb hby at_129) _ k) ?_
  refine OwnFin.step (g' := (mkF m 133 (La0_6 q0 q1 q2 q3 q4 q5 b1 b9378 b9384 b9394 b9405 b13611) [(.long (q4 ^^^ (-1 : Int64))), (.int (0 : Int32)), (.ref b13622), (.ref b13622)])) X13622 (fun t k => XT.lxor X13622.here hx rfl (hb hby at_132) rfl k) ?_
  obtain ⟨T13634, h13634, L13634, X13634, e13634, N13634, K13634, A13634, st13634⟩ := own_stJ X13622 hx hZ e13622 N13621 (G := (fun _ => (0 : Int64))) B13622 g_b13622 (j := (0 : Int32)) (x := (q4 ^^^ (-1 : Int64))) (by decide) (g := (mkF m 133 (La0_6 q0 q1 q2 q3 q4 q5 b1 b9378 b9384 b9394 b9405 b13611) [(.long (q4 ^^^ (-1 : Int64))), (.int (0 : Int32)), (.ref b13622), (.ref b13622)])) rfl rfl (hb hby at_133)
  have B13634 : Ary Z h13634 b13622 .long 2 (fun i => .long ((G0_133 q4) i)) := A13634
  have Z13634 := Nat.le_trans Z13622 K13634.1
  refine OwnFin.step (g' := (mkF m 134 (La0_6 q0 q1 q2 q3 q4 q5 b1 b9378 b9384 b9394 b9405 b13611) [(.ref b13622)])) X13634 (fun t k => st13634 _ k) ?_
  refine OwnFin.step (g' := (mkF m 135 (La0_6 q0 q1 q2 q3 q4 q5 b1 b9378 b9384 b9394 b9405 b13611) [(.ref b13622), (.ref b13622)])) X13634 (fun t k => XS.dup X13634.here hx rfl (hb hby at_134) rfl rfl k) ?_
  refine OwnFin.step (g' := (mkF m 136 (La0_6 q0 q1 q2 q3 q4 q5 b1 b9378 b9384 b9394 b9405 b13611) [(.int (1 : Int32)), (.ref b13622), (.ref b13622)])) X13634 (fun t k => XS.iconst X13634.here hx rfl (hb hby at_135) k) ?_
  refine OwnFin.step (g' := (mkF m 138 (La0_6 q0 q1 q2 q3 q4 q5 b1 b9378 b9384 b9394 b9405 b13611) [(.long q5), (.int (1 : Int32)), (.ref b13622), (.ref b13622)])) X13634 (fun t k => XT.lload X13634.here hx rfl (hb hby at_136) rfl k) ?_
  refine OwnFin.step (g' := (mkF m 141 (La0_6 q0 q1 q2 q3 q4 q5 b1 b9378 b9384 b9394 b9405 b13611) [(.long (-1 : Int64)), (.long q5), (.int (1 : Int32)), (.ref b13622), (.ref b13622)])) X13634 (fun t k => X13634.ldc2Long hx hown (mvT hZ (hw _ (wm 81 rfl))) (g := (mkF m 138 (La0_6 q0 q1 q2 q3 q4 q5 b1 b9378 b9384 b9394 b9405 b13611) [(.long q5), (.int (1 : Int32)), (.ref b13622), (.ref b13622)])) rfl (hb hby at_138) _ k) ?_
  refine OwnFin.step (g' := (mkF m 142 (La0_6 q0 q1 q2 q3 q4 q5 b1 b9378 b9384 b9394 b9405 b13611) [(.long (q5 ^^^ (-1 : Int64))), (.int (1 : Int32)), (.ref b13622), (.ref b13622)])) X13634 (fun t k => XT.lxor X13634.here hx rfl (hb hby at_141) rfl k) ?_
  obtain ⟨T13635, h13635, L13635, X13635, e13635, N13635, K13635, A13635, st13635⟩ := own_stJ X13634 hx hZ e13634 N13634 (G := (G0_133 q4)) B13634 g_b13622 (j := (1 : Int32)) (x := (q5 ^^^ (-1 : Int64))) (by decide) (g := (mkF m 142 (La0_6 q0 q1 q2 q3 q4 q5 b1 b9378 b9384 b9394 b9405 b13611) [(.long (q5 ^^^ (-1 : Int64))), (.int (1 : Int32)), (.ref b13622), (.ref b13622)])) rfl rfl (hb hby at_142)
  have B13635 : Ary Z h13635 b13622 .long 2 (fun i => .long ((G0_142 q4 q5) i)) := A13635
  have Z13635 := Nat.le_trans Z13634 K13635.1
  refine OwnFin.step (g' := (mkF m 143 (La0_6 q0 q1 q2 q3 q4 q5 b1 b9378 b9384 b9394 b9405 b13611) [(.ref b13622)])) X13635 (fun t k => st13635 _ k) ?_
  refine OwnFin.step (g' := (mkF m 145 (La0_7 q0 q1 q2 q3 q4 q5 b1 b9378 b9384 b9394 b9405 b13611 b13622) [])) X13635 (fun t k => XS.astore X13635.here hx rfl (hb hby at_143) rfl rfl (l' := (La0_7 q0 q1 q2 q3 q4 q5 b1 b9378 b9384 b9394 b9405 b13611 b13622)) rfl k) ?_
  refine OwnFin.step (g' := (mkF m 146 (La0_7 q0 q1 q2 q3 q4 q5 b1 b9378 b9384 b9394 b9405 b13611 b13622) [(.int (2 : Int32))])) X13635 (fun t k => XS.iconst X13635.here hx rfl (hb hby at_145) k) ?_
  obtain ⟨T13636, h13636, b13636, X13636, e13636, y13636, K13636, A13636, st13636⟩ := own_new X13635 hx hZ (hw _ (wm 34 rfl)) e13635 (g := (mkF m 146 (La0_7 q0 q1 q2 q3 q4 q5 b1 b9378 b9384 b9394 b9405 b13611 b13622) [(.int (2 : Int32))])) rfl (hb hby at_146) rfl (by decide) (cap := 2) (by decide) (by decide) (by decide) (by decide)
  have B13636 : Ary Z h13636 b13636 .long 2 (fun i => .long ((fun _ => (0 : Int64)) i)) := A13636
  have E13637 := (Exa.keep (Exa.keep (Exa.keep E13623 K13622) K13634) K13635)
  have ne_b1_b13636 : b1 ≠ b13636 := Exa.neS E13637 y13636
  have A13638 := (((A13624.keep K13622 nin0).keep K13634 (ninS ne_b1004_b13622 nin0)).keep K13635 (ninS ne_b1004_b13622 nin0))
  have ne_b1004_b13636 : b1004 ≠ b13636 := Ary.neS A13638 y13636
  have E13639 := (Exa.keep (Exa.keep (Exa.keep E13625 K13622) K13634) K13635)
  have ne_b1023_b13636 : b1023 ≠ b13636 := Exa.neS E13639 y13636
  have A13640 := (((A13626.keep K13622 nin0).keep K13634 (ninS ne_b3042_b13622 nin0)).keep K13635 (ninS ne_b3042_b13622 nin0))
  have ne_b3042_b13636 : b3042 ≠ b13636 := Ary.neS A13640 y13636
  have A13641 := (((A13627.keep K13622 nin0).keep K13634 (ninS ne_b3055_b13622 nin0)).keep K13635 (ninS ne_b3055_b13622 nin0))
  have ne_b3055_b13636 : b3055 ≠ b13636 := Ary.neS A13641 y13636
  have A13642 := (((A13628.keep K13622 nin0).keep K13634 (ninS ne_b3133_b13622 nin0)).keep K13635 (ninS ne_b3133_b13622 nin0))
  have ne_b3133_b13636 : b3133 ≠ b13636 := Ary.neS A13642 y13636
  have A13643 := (((A13629.keep K13622 nin0).keep K13634 (ninS ne_b3207_b13622 nin0)).keep K13635 (ninS ne_b3207_b13622 nin0))
  have ne_b3207_b13636 : b3207 ≠ b13636 := Ary.neS A13643 y13636
  have A13644 := (((A13630.keep K13622 nin0).keep K13634 (ninS ne_b9378_b13622 nin0)).keep K13635 (ninS ne_b9378_b13622 nin0))
  have ne_b9378_b13636 : b9378 ≠ b13636 := Ary.neS A13644 y13636
  have A13645 := (((A13631.keep K13622 nin0).keep K13634 (ninS ne_b9384_b13622 nin0)).keep K13635 (ninS ne_b9384_b13622 nin0))
  have ne_b9384_b13636 : b9384 ≠ b13636 := Ary.neS A13645 y13636
  have A13646 := (((A13632.keep K13622 nin0).keep K13634 (ninS ne_b9394_b13622 nin0)).keep K13635 (ninS ne_b9394_b13622 nin0))
  have ne_b9394_b13636 : b9394 ≠ b13636 := Ary.neS A13646 y13636
  have A13647 := (((A13633.keep K13622 nin0).keep K13634 (ninS ne_b9405_b13622 nin0)).keep K13635 (ninS ne_b9405_b13622 nin0))
  have ne_b9405_b13636 : b9405 ≠ b13636 := Ary.neS A13647 y13636
  have A13648 := (((B13621.keep K13622 nin0).keep K13634 (ninS ne_b13611_b13622 nin0)).keep K13635 (ninS ne_b13611_b13622 nin0))
  have ne_b13611_b13636 : b13611 ≠ b13636 := Ary.neS A13648 y13636
  have ne_b13622_b13636 : b13622 ≠ b13636 := Ary.neS B13635 y13636
  have g_b13636 : n0 ≤ b13636 := by rw [y13636]; exact Z13635
  have Z13636 := Nat.le_trans Z13635 K13636.1
  refine OwnFin.step (g' := (mkF m 148 (La0_7 q0 q1 q2 q3 q4 q5 b1 b9378 b9384 b9394 b9405 b13611 b13622) [(.ref b13636)])) X13636 (fun t k => st13636 _ k) ?_
  refine OwnFin.step (g' := (mkF m 149 (La0_7 q0 q1 q2 q3 q4 q5 b1 b9378 b9384 b9394 b9405 b13611 b13622) [(.ref b13636), (.ref b13636)])) X13636 (fun t k => XS.dup X13636.here hx rfl (hb hby at_148) rfl rfl k) ?_
  refine OwnFin.step (g' := (mkF m 150 (La0_7 q0 q1 q2 q3 q4 q5 b1 b9378 b9384 b9394 b9405 b13611 b13622) [(.int (0 : Int32)), (.ref b13636), (.ref b13636)])) X13636 (fun t k => XS.iconst X13636.here hx rfl (hb hby at_149) k) ?_
  refine OwnFin.step (g' := (mkF m 152 (La0_7 q0 q1 q2 q3 q4 q5 b1 b9378 b9384 b9394 b9405 b13611 b13622) [(.long q4), (.int (0 : Int32)), (.ref b13636), (.ref b13636)])) X13636 (fun t k => XT.lload X13636.here hx rfl (hb hby at_150) rfl k) ?_
  refine OwnFin.step (g' := (mkF m 155 (La0_7 q0 q1 q2 q3 q4 q5 b1 b9378 b9384 b9394 b9405 b13611 b13622) [(.long (-1 : Int64)), (.long q4), (.int (0 : Int32)), (.ref b13636), (.ref b13636)])) X13636 (fun t k => X13636.ldc2Long hx hown (mvT hZ (hw _ (wm 81 rfl))) (g := (mkF m 152 (La0_7 q0 q1 q2 q3 q4 q5 b1 b9378 b9384 b9394 b9405 b13611 b13622) [(.long q4), (.int (0 : Int32)), (.ref b13636), (.ref b13636)])) rfl (hb hby at_152) _ k) ?_
  refine OwnFin.step (g' := (mkF m 156 (La0_7 q0 q1 q2 q3 q4 q5 b1 b9378 b9384 b9394 b9405 b13611 b13622) [(.long (q4 ^^^ (-1 : Int64))), (.int (0 : Int32)), (.ref b13636), (.ref b13636)])) X13636 (fun t k => XT.lxor X13636.here hx rfl (hb hby at_155) rfl k) ?_
  obtain ⟨T13649, h13649, L13649, X13649, e13649, N13649, K13649, A13649, st13649⟩ := own_stJ X13636 hx hZ e13636 N13635 (G := (fun _ => (0 : Int64))) B13636 g_b13636 (j := (0 : Int32)) (x := (q4 ^^^ (-1 : Int64))) (by decide) (g := (mkF m 156 (La0_7 q0 q1 q2 q3 q4 q5 b1 b9378 b9384 b9394 b9405 b13611 b13622) [(.long (q4 ^^^ (-1 : Int64))), (.int (0 : Int32)), (.ref b13636), (.ref b13636)])) rfl rfl (hb hby at_156)
  have B13649 : Ary Z h13649 b13636 .long 2 (fun i => .long ((G0_133 q4) i)) := A13649
  have Z13649 := Nat.le_trans Z13636 K13649.1
  refine OwnFin.step (g' := (mkF m 157 (La0_7 q0 q1 q2 q3 q4 q5 b1 b9378 b9384 b9394 b9405 b13611 b13622) [(.ref b13636)])) X13649 (fun t k => st13649 _ k) ?_
  refine OwnFin.step (g' := (mkF m 158 (La0_7 q0 q1 q2 q3 q4 q5 b1 b9378 b9384 b9394 b9405 b13611 b13622) [(.ref b13636), (.ref b13636)])) X13649 (fun t k => XS.dup X13649.here hx rfl (hb hby at_157) rfl rfl k) ?_
  refine OwnFin.step (g' := (mkF m 159 (La0_7 q0 q1 q2 q3 q4 q5 b1 b9378 b9384 b9394 b9405 b13611 b13622) [(.int (1 : Int32)), (.ref b13636), (.ref b13636)])) X13649 (fun t k => XS.iconst X13649.here hx rfl (hb hby at_158) k) ?_
  refine OwnFin.step (g' := (mkF m 161 (La0_7 q0 q1 q2 q3 q4 q5 b1 b9378 b9384 b9394 b9405 b13611 b13622) [(.long q5), (.int (1 : Int32)), (.ref b13636), (.ref b13636)])) X13649 (fun t k => XT.lload X13649.here hx rfl (hb hby at_159) rfl k) ?_
  refine OwnFin.step (g' := (mkF m 164 (La0_7 q0 q1 q2 q3 q4 q5 b1 b9378 b9384 b9394 b9405 b13611 b13622) [(.long (-1 : Int64)), (.long q5), (.int (1 : Int32)), (.ref b13636), (.ref b13636)])) X13649 (fun t k => X13649.ldc2Long hx hown (mvT hZ (hw _ (wm 81 rfl))) (g := (mkF m 161 (La0_7 q0 q1 q2 q3 q4 q5 b1 b9378 b9384 b9394 b9405 b13611 b13622) [(.long q5), (.int (1 : Int32)), (.ref b13636), (.ref b13636)])) rfl (hb hby at_161) _ k) ?_
  refine OwnFin.step (g' := (mkF m 165 (La0_7 q0 q1 q2 q3 q4 q5 b1 b9378 b9384 b9394 b9405 b13611 b13622) [(.long (q5 ^^^ (-1 : Int64))), (.int (1 : Int32)), (.ref b13636), (.ref b13636)])) X13649 (fun t k => XT.lxor X13649.here hx rfl (hb hby at_164) rfl k) ?_
  obtain ⟨T13650, h13650, L13650, X13650, e13650, N13650, K13650, A13650, st13650⟩ := own_stJ X13649 hx hZ e13649 N13649 (G := (G0_133 q4)) B13649 g_b13636 (j := (1 : Int32)) (x := (q5 ^^^ (-1 : Int64))) (by decide) (g := (mkF m 165 (La0_7 q0 q1 q2 q3 q4 q5 b1 b9378 b9384 b9394 b9405 b13611 b13622) [(.long (q5 ^^^ (-1 : Int64))), (.int (1 : Int32)), (.ref b13636), (.ref b13636)])) rfl rfl (hb hby at_165)
  have B13650 : Ary Z h13650 b13636 .long 2 (fun i => .long ((G0_142 q4 q5) i)) := A13650
  have Z13650 := Nat.le_trans Z13649 K13650.1
  refine OwnFin.step (g' := (mkF m 166 (La0_7 q0 q1 q2 q3 q4 q5 b1 b9378 b9384 b9394 b9405 b13611 b13622) [(.ref b13636)])) X13650 (fun t k => st13650 _ k) ?_
  refine OwnFin.step (g' := (mkF m 168 (La0_8 q0 q1 q2 q3 q4 q5 b1 b9378 b9384 b9394 b9405 b13611 b13622 b13636) [])) X13650 (fun t k => XS.astore X13650.here hx rfl (hb hby at_166) rfl rfl (l' := (La0_8 q0 q1 q2 q3 q4 q5 b1 b9378 b9384 b9394 b9405 b13611 b13622 b13636)) rfl k) ?_
  refine OwnFin.step (g' := (mkF m 170 (La0_8 q0 q1 q2 q3 q4 q5 b1 b9378 b9384 b9394 b9405 b13611 b13622 b13636) [(.ref b1)])) X13650 (fun t k => XS.aload X13650.here hx rfl (hb hby at_168) rfl rfl k) ?_
  refine OwnFin.step (g' := (mkF m 171 (La0_8 q0 q1 q2 q3 q4 q5 b1 b9378 b9384 b9394 b9405 b13611 b13622 b13636) [(.int (0 : Int32)), (.ref b1)])) X13650 (fun t k => XS.iconst X13650.here hx rfl (hb hby at_170) k) ?_
  refine OwnFin.step (g' := (mkF m 173 (La0_8 q0 q1 q2 q3 q4 q5 b1 b9378 b9384 b9394 b9405 b13611 b13622 b13636) [(.ref b13611), (.int (0 : Int32)), (.ref b1)])) X13650 (fun t k => XS.aload X13650.here hx rfl (hb hby at_171) rfl rfl k) ?_
  refine OwnFin.step (g' := (mkF m 175 (La0_8 q0 q1 q2 q3 q4 q5 b1 b9378 b9384 b9394 b9405 b13611 b13622 b13636) [(.ref b13622), (.ref b13611), (.int (0 : Int32)), (.ref b1)])) X13650 (fun t k => XS.aload X13650.here hx rfl (hb hby at_173) rfl rfl k) ?_
  have F14679 := (((((((((u13605.keep K13611 nin0).keep K13620 (ninS ne_b1_b13611 nin0)).keep K13621 (ninS ne_b1_b13611 nin0)).keep K13622 nin0).keep K13634 (ninS ne_b1_b13622 nin0)).keep K13635 (ninS ne_b1_b13622 nin0)).keep K13636 nin0).keep K13649 (ninS ne_b1_b13636 nin0)).keep K13650 (ninS ne_b1_b13636 nin0))
  have F14680 := (((((((((u13607.keep K13611 nin0).keep K13620 (ninS ne_b1_b13611 nin0)).keep K13621 (ninS ne_b1_b13611 nin0)).keep K13622 nin0).keep K13634 (ninS ne_b1_b13622 nin0)).keep K13635 (ninS ne_b1_b13622 nin0)).keep K13636 nin0).keep K13649 (ninS ne_b1_b13636 nin0)).keep K13650 (ninS ne_b1_b13636 nin0))
  have A14681 := (((A13642.keep K13636 nin0).keep K13649 (ninS ne_b3133_b13636 nin0)).keep K13650 (ninS ne_b3133_b13636 nin0))
  have A14682 := (((A13648.keep K13636 nin0).keep K13649 (ninS ne_b13611_b13636 nin0)).keep K13650 (ninS ne_b13611_b13636 nin0))
  have A14683 := (((B13635.keep K13636 nin0).keep K13649 (ninS ne_b13622_b13636 nin0)).keep K13650 (ninS ne_b13622_b13636 nin0))
  have E14686 := (Exa.keep (Exa.keep (Exa.keep E13637 K13636) K13649) K13650)
  obtain ⟨_, T13651, L13651, X13651, ⟨rfl, N13651q, u14684, u14685⟩, st13651⟩ := own_callV X13650 hx hZ (y := (⟨"com/example/ken2/ken2/RememberedSteps", "take", "(I[J[J)V"⟩ : MethodName)) (W := 0) (a := b1) (argsL := [(.int (0 : Int32)), (.ref b13611), (.ref b13622)]) (rest := []) hown (hw _ (wm 92 rfl)) (hw _ (wm 93 rfl)) (hw _ (wm 95 rfl)) (hw _ (wm 94 rfl)) (hw _ (wm 2 rfl)) (hw _ (wm 96 rfl)) (by decide) E14686 (rm14s14 l Z a0 hw [] q0 q2 q1 q3 q5 q4 b1 b3133 b13611 b13622 h13650 n0 Z13650 F14679 F14680 A14681 A14682 A14683 g_b13622 ne_b1_b13622 ne_b3133_b13622 ne_b13611_b13622) (by decide) (by decide) (by decide) (by decide) e13650 (g := (mkF m 175 (La0_8 q0 q1 q2 q3 q4 q5 b1 b9378 b9384 b9394 b9405 b13611 b13622 b13636) [(.ref b13622), (.ref b13611), (.int (0 : Int32)), (.ref b1)])) rfl (by rw [hml]; rfl) pd_10 rfl rfl (by show 2 * 0 + _ ≤ _; exact Nat.le_of_eq rfl) (hb hby at_175)
  have N13651 := Fr.app N13650 N13651q
  obtain ⟨h13651, e13651⟩ : ∃ z, T13651.heap = z := ⟨_, rfl⟩
  rw [e13651] at u14684 u14685
  have K13651 := u14684
  have Z13651 := Nat.le_trans Z13650 K13651.1
  refine OwnFin.step (g' := (mkF m 178 (La0_8 q0 q1 q2 q3 q4 q5 b1 b9378 b9384 b9394 b9405 b13611 b13622 b13636) [])) X13651 (fun t k => st13651 _ k) ?_
  refine OwnFin.step (g' := (mkF m 180 (La0_8 q0 q1 q2 q3 q4 q5 b1 b9378 b9384 b9394 b9405 b13611 b13622 b13636) [(.ref b1)])) X13651 (fun t k => XS.aload X13651.here hx rfl (hb hby at_178) rfl rfl k) ?_
  refine OwnFin.step (g' := (mkF m 181 (La0_8 q0 q1 q2 q3 q4 q5 b1 b9378 b9384 b9394 b9405 b13611 b13622 b13636) [(.int (1 : Int32)), (.ref b1)])) X13651 (fun t k => XS.iconst X13651.here hx rfl (hb hby at_180) k) ?_
  refine OwnFin.step (g' := (mkF m 183 (La0_8 q0 q1 q2 q3 q4 q5 b1 b9378 b9384 b9394 b9405 b13611 b13622 b13636) [(.ref b13611), (.int (1 : Int32)), (.ref b1)])) X13651 (fun t k => XS.aload X13651.here hx rfl (hb hby at_181) rfl rfl k) ?_
  refine OwnFin.step (g' := (mkF m 185 (La0_8 q0 q1 q2 q3 q4 q5 b1 b9378 b9384 b9394 b9405 b13611 b13622 b13636) [(.ref b13636), (.ref b13611), (.int (1 : Int32)), (.ref b1)])) X13651 (fun t k => XS.aload X13651.here hx rfl (hb hby at_183) rfl rfl k) ?_
  have F15715 := (F14679.keep K13651 (ninS ne_b1_b13622 nin0))
  have F15716 := (F14680.keep K13651 (ninS ne_b1_b13622 nin0))
  have A15717 := (A14681.keep K13651 (ninS ne_b3133_b13622 nin0))
  have A15718 := (A14682.keep K13651 (ninS ne_b13611_b13622 nin0))
  have A15719 := (B13650.keep K13651 (ninS (Ne.symm ne_b13622_b13636) nin0))
  have E15722 := (Exa.keep E14686 K13651)
  obtain ⟨_, T14687, L14687, X14687, ⟨rfl, N14687q, u15720, u15721⟩, st14687⟩ := own_callV X13651 hx hZ (y := (⟨"com/example/ken2/ken2/RememberedSteps", "take", "(I[J[J)V"⟩ : MethodName)) (W := 0) (a := b1) (argsL := [(.int (1 : Int32)), (.ref b13611), (.ref b13636)]) (rest := []) hown (hw _ (wm 92 rfl)) (hw _ (wm 93 rfl)) (hw _ (wm 95 rfl)) (hw _ (wm 94 rfl)) (hw _ (wm 2 rfl)) (hw _ (wm 96 rfl)) (by decide) E15722 (rm14s15 l Z a0 hw [] q0 q2 q1 q3 q5 q4 b1 b3133 b13611 b13636 h13651 n0 Z13651 F15715 F15716 A15717 A15718 A15719 g_b13636 ne_b1_b13636 ne_b3133_b13636 ne_b13611_b13636) (by decide) (by decide) (by decide) (by decide) e13651 (g := (mkF m 185 (La0_8 q0 q1 q2 q3 q4 q5 b1 b9378 b9384 b9394 b9405 b13611 b13622 b13636) [(.ref b13636), (.ref b13611), (.int (1 : Int32)), (.ref b1)])) rfl (by rw [hml]; rfl) pd_10 rfl rfl (by show 2 * 0 + _ ≤ _; exact Nat.le_of_eq rfl) (hb hby at_185)
  have N14687 := Fr.app N13651 N14687q
  obtain ⟨h14687, e14687⟩ : ∃ z, T14687.heap = z := ⟨_, rfl⟩
  rw [e14687] at u15720 u15721
  have K14687 := u15720
  have Z14687 := Nat.le_trans Z13651 K14687.1
  refine OwnFin.step (g' := (mkF m 188 (La0_8 q0 q1 q2 q3 q4 q5 b1 b9378 b9384 b9394 b9405 b13611 b13622 b13636) [])) X14687 (fun t k => st14687 _ k) ?_
  refine OwnFin.step (g' := (mkF m 190 (La0_8 q0 q1 q2 q3 q4 q5 b1 b9378 b9384 b9394 b9405 b13611 b13622 b13636) [(.ref b13622)])) X14687 (fun t k => XS.aload X14687.here hx rfl (hb hby at_188) rfl rfl k) ?_
  refine OwnFin.step (g' := (mkF m 191 (La0_8 q0 q1 q2 q3 q4 q5 b1 b9378 b9384 b9394 b9405 b13611 b13622 b13636) [(.int (0 : Int32)), (.ref b13622)])) X14687 (fun t k => XS.iconst X14687.here hx rfl (hb hby at_190) k) ?_
  have A15723 := (u14685.keep K14687 (ninS ne_b13622_b13636 nin0))
  refine OwnFin.step (g' := (mkF m 192 (La0_8 q0 q1 q2 q3 q4 q5 b1 b9378 b9384 b9394 b9405 b13611 b13622 b13636) [(.long ((q4 &&& (q0 ^^^ (-1 : Int64))) ||| (q2 &&& q0)))])) X14687 (fun t k => own_ldJ X14687 hx hZ e14687 A15723 (by decide) rfl (g := (mkF m 191 (La0_8 q0 q1 q2 q3 q4 q5 b1 b9378 b9384 b9394 b9405 b13611 b13622 b13636) [(.int (0 : Int32)), (.ref b13622)])) rfl rfl (hb hby at_191) _ k) ?_
  refine OwnFin.step (g' := (mkF m 194 (La0_8 q0 q1 q2 q3 q4 q5 b1 b9378 b9384 b9394 b9405 b13611 b13622 b13636) [(.long q4), (.long ((q4 &&& (q0 ^^^ (-1 : Int64))) ||| (q2 &&& q0)))])) X14687 (fun t k => XT.lload X14687.here hx rfl (hb hby at_192) rfl k) ?_
  refine OwnFin.step (g' := (mkF m 195 (La0_8 q0 q1 q2 q3 q4 q5 b1 b9378 b9384 b9394 b9405 b13611 b13622 b13636) [(.long q0), (.long q4), (.long ((q4 &&& (q0 ^^^ (-1 : Int64))) ||| (q2 &&& q0)))])) X14687 (fun t k => XT.lloadN X14687.here hx rfl (hb hby at_194) rfl k) ?_
  refine OwnFin.step (g' := (mkF m 197 (La0_8 q0 q1 q2 q3 q4 q5 b1 b9378 b9384 b9394 b9405 b13611 b13622 b13636) [(.long q2), (.long q0), (.long q4), (.long ((q4 &&& (q0 ^^^ (-1 : Int64))) ||| (q2 &&& q0)))])) X14687 (fun t k => XT.lload X14687.here hx rfl (hb hby at_195) rfl k) ?_
  obtain ⟨_, T15724, L15724, X15724, ⟨rfl, f15724, N15724q⟩, st15724⟩ := own_callS X14687 hx hZ (y := (⟨"com/example/ken2/ken2/RememberedStepsTakePinLaw", "agrees", "(JJJJ)Z"⟩ : MethodName)) (W := 0) (argsL := [(.long ((q4 &&& (q0 ^^^ (-1 : Int64))) ||| (q2 &&& q0))), (.long q4), (.long q0), (.long q2)]) (rest := []) hown (hw _ (wm 98 rfl)) (hw _ (wm 99 rfl)) (hw _ (wm 100 rfl)) (hw _ (wm 101 rfl)) (by decide) (rm15 l Z a0 hw [] ((q4 &&& (q0 ^^^ (-1 : Int64))) ||| (q2 &&& q0)) q4 q0 q2 h14687 n0 Z14687) (by decide) (by decide) (by decide) (by decide) e14687 (g := (mkF m 197 (La0_8 q0 q1 q2 q3 q4 q5 b1 b9378 b9384 b9394 b9405 b13611 b13622 b13636) [(.long q2), (.long q0), (.long q4), (.long ((q4 &&& (q0 ^^^ (-1 : Int64))) ||| (q2 &&& q0)))])) rfl (by rw [hml]; rfl) pd_11 rfl rfl (by show 2 * 0 + _ ≤ _; exact Nat.le_of_eq rfl) (hb hby at_197)
  have N15724 := Fr.app N14687 N15724q
  refine OwnFin.step (g' := (mkF m 200 (La0_8 q0 q1 q2 q3 q4 q5 b1 b9378 b9384 b9394 b9405 b13611 b13622 b13636) [(.int (r15 ((q4 &&& (q0 ^^^ (-1 : Int64))) ||| (q2 &&& q0)) q4 q0 q2))])) X15724 (fun t k => st15724 _ k) ?_
  refine OwnFin.step (g' := (mkF m 203 (La0_8 q0 q1 q2 q3 q4 q5 b1 b9378 b9384 b9394 b9405 b13611 b13622 b13636) [])) X15724 (fun t k => XS.ifNo X15724.here hx rfl (hb hby at_200) rfl ((if0 _ _).trans (feq (br0_200 q4 q0 q2)).1) k) ?_
  refine OwnFin.step (g' := (mkF m 205 (La0_8 q0 q1 q2 q3 q4 q5 b1 b9378 b9384 b9394 b9405 b13611 b13622 b13636) [(.ref b13622)])) X15724 (fun t k => XS.aload X15724.here hx rfl (hb hby at_203) rfl rfl k) ?_
  refine OwnFin.step (g' := (mkF m 206 (La0_8 q0 q1 q2 q3 q4 q5 b1 b9378 b9384 b9394 b9405 b13611 b13622 b13636) [(.int (1 : Int32)), (.ref b13622)])) X15724 (fun t k => XS.iconst X15724.here hx rfl (hb hby at_205) k) ?_
  refine OwnFin.step (g' := (mkF m 207 (La0_8 q0 q1 q2 q3 q4 q5 b1 b9378 b9384 b9394 b9405 b13611 b13622 b13636) [(.long ((q5 &&& (q1 ^^^ (-1 : Int64))) ||| (q3 &&& q1)))])) X15724 (fun t k => own_ldJ X15724 hx hZ f15724 A15723 (by decide) rfl (g := (mkF m 206 (La0_8 q0 q1 q2 q3 q4 q5 b1 b9378 b9384 b9394 b9405 b13611 b13622 b13636) [(.int (1 : Int32)), (.ref b13622)])) rfl rfl (hb hby at_206) _ k) ?_
  refine OwnFin.step (g' := (mkF m 209 (La0_8 q0 q1 q2 q3 q4 q5 b1 b9378 b9384 b9394 b9405 b13611 b13622 b13636) [(.long q5), (.long ((q5 &&& (q1 ^^^ (-1 : Int64))) ||| (q3 &&& q1)))])) X15724 (fun t k => XT.lload X15724.here hx rfl (hb hby at_207) rfl k) ?_
  refine OwnFin.step (g' := (mkF m 210 (La0_8 q0 q1 q2 q3 q4 q5 b1 b9378 b9384 b9394 b9405 b13611 b13622 b13636) [(.long q1), (.long q5), (.long ((q5 &&& (q1 ^^^ (-1 : Int64))) ||| (q3 &&& q1)))])) X15724 (fun t k => XT.lloadN X15724.here hx rfl (hb hby at_209) rfl k) ?_
  refine OwnFin.step (g' := (mkF m 212 (La0_8 q0 q1 q2 q3 q4 q5 b1 b9378 b9384 b9394 b9405 b13611 b13622 b13636) [(.long q3), (.long q1), (.long q5), (.long ((q5 &&& (q1 ^^^ (-1 : Int64))) ||| (q3 &&& q1)))])) X15724 (fun t k => XT.lload X15724.here hx rfl (hb hby at_210) rfl k) ?_
  obtain ⟨_, T15725, L15725, X15725, ⟨rfl, f15725, N15725q⟩, st15725⟩ := own_callS X15724 hx hZ (y := (⟨"com/example/ken2/ken2/RememberedStepsTakePinLaw", "agrees", "(JJJJ)Z"⟩ : MethodName)) (W := 0) (argsL := [(.long ((q5 &&& (q1 ^^^ (-1 : Int64))) ||| (q3 &&& q1))), (.long q5), (.long q1), (.long q3)]) (rest := []) hown (hw _ (wm 98 rfl)) (hw _ (wm 99 rfl)) (hw _ (wm 100 rfl)) (hw _ (wm 101 rfl)) (by decide) (rm15 l Z a0 hw [] ((q5 &&& (q1 ^^^ (-1 : Int64))) ||| (q3 &&& q1)) q5 q1 q3 h14687 n0 Z14687) (by decide) (by decide) (by decide) (by decide) f15724 (g := (mkF m 212 (La0_8 q0 q1 q2 q3 q4 q5 b1 b9378 b9384 b9394 b9405 b13611 b13622 b13636) [(.long q3), (.long q1), (.long q5), (.long ((q5 &&& (q1 ^^^ (-1 : Int64))) ||| (q3 &&& q1)))])) rfl (by rw [hml]; rfl) pd_11 rfl rfl (by show 2 * 0 + _ ≤ _; exact Nat.le_of_eq rfl) (hb hby at_212)
  have N15725 := Fr.app N15724 N15725q
  refine OwnFin.step (g' := (mkF m 215 (La0_8 q0 q1 q2 q3 q4 q5 b1 b9378 b9384 b9394 b9405 b13611 b13622 b13636) [(.int (r15 ((q5 &&& (q1 ^^^ (-1 : Int64))) ||| (q3 &&& q1)) q5 q1 q3))])) X15725 (fun t k => st15725 _ k) ?_
  refine OwnFin.step (g' := (mkF m 218 (La0_8 q0 q1 q2 q3 q4 q5 b1 b9378 b9384 b9394 b9405 b13611 b13622 b13636) [])) X15725 (fun t k => XS.ifNo X15725.here hx rfl (hb hby at_215) rfl ((if0 _ _).trans (feq (br0_215 q5 q1 q3)).1) k) ?_
  refine OwnFin.step (g' := (mkF m 220 (La0_8 q0 q1 q2 q3 q4 q5 b1 b9378 b9384 b9394 b9405 b13611 b13622 b13636) [(.ref b13636)])) X15725 (fun t k => XS.aload X15725.here hx rfl (hb hby at_218) rfl rfl k) ?_
  refine OwnFin.step (g' := (mkF m 221 (La0_8 q0 q1 q2 q3 q4 q5 b1 b9378 b9384 b9394 b9405 b13611 b13622 b13636) [(.int (0 : Int32)), (.ref b13636)])) X15725 (fun t k => XS.iconst X15725.here hx rfl (hb hby at_220) k) ?_
  refine OwnFin.step (g' := (mkF m 222 (La0_8 q0 q1 q2 q3 q4 q5 b1 b9378 b9384 b9394 b9405 b13611 b13622 b13636) [(.long ((q4 &&& (q1 ^^^ (-1 : Int64))) ||| ((q3 ^^^ (-1 : Int64)) &&& q1)))])) X15725 (fun t k => own_ldJ X15725 hx hZ f15725 u15721 (by decide) rfl (g := (mkF m 221 (La0_8 q0 q1 q2 q3 q4 q5 b1 b9378 b9384 b9394 b9405 b13611 b13622 b13636) [(.int (0 : Int32)), (.ref b13636)])) rfl rfl (hb hby at_221) _ k) ?_
  refine OwnFin.step (g' := (mkF m 224 (La0_8 q0 q1 q2 q3 q4 q5 b1 b9378 b9384 b9394 b9405 b13611 b13622 b13636) [(.long q4), (.long ((q4 &&& (q1 ^^^ (-1 : Int64))) ||| ((q3 ^^^ (-1 : Int64)) &&& q1)))])) X15725 (fun t k => XT.lload X15725.here hx rfl (hb hby at_222) rfl k) ?_
  refine OwnFin.step (g' := (mkF m 225 (La0_8 q0 q1 q2 q3 q4 q5 b1 b9378 b9384 b9394 b9405 b13611 b13622 b13636) [(.long q1), (.long q4), (.long ((q4 &&& (q1 ^^^ (-1 : Int64))) ||| ((q3 ^^^ (-1 : Int64)) &&& q1)))])) X15725 (fun t k => XT.lloadN X15725.here hx rfl (hb hby at_224) rfl k) ?_
  refine OwnFin.step (g' := (mkF m 227 (La0_8 q0 q1 q2 q3 q4 q5 b1 b9378 b9384 b9394 b9405 b13611 b13622 b13636) [(.long q3), (.long q1), (.long q4), (.long ((q4 &&& (q1 ^^^ (-1 : Int64))) ||| ((q3 ^^^ (-1 : Int64)) &&& q1)))])) X15725 (fun t k => XT.lload X15725.here hx rfl (hb hby at_225) rfl k) ?_
  refine OwnFin.step (g' := (mkF m 230 (La0_8 q0 q1 q2 q3 q4 q5 b1 b9378 b9384 b9394 b9405 b13611 b13622 b13636) [(.long (-1 : Int64)), (.long q3), (.long q1), (.long q4), (.long ((q4 &&& (q1 ^^^ (-1 : Int64))) ||| ((q3 ^^^ (-1 : Int64)) &&& q1)))])) X15725 (fun t k => X15725.ldc2Long hx hown (mvT hZ (hw _ (wm 81 rfl))) (g := (mkF m 227 (La0_8 q0 q1 q2 q3 q4 q5 b1 b9378 b9384 b9394 b9405 b13611 b13622 b13636) [(.long q3), (.long q1), (.long q4), (.long ((q4 &&& (q1 ^^^ (-1 : Int64))) ||| ((q3 ^^^ (-1 : Int64)) &&& q1)))])) rfl (hb hby at_227) _ k) ?_
  refine OwnFin.step (g' := (mkF m 231 (La0_8 q0 q1 q2 q3 q4 q5 b1 b9378 b9384 b9394 b9405 b13611 b13622 b13636) [(.long (q3 ^^^ (-1 : Int64))), (.long q1), (.long q4), (.long ((q4 &&& (q1 ^^^ (-1 : Int64))) ||| ((q3 ^^^ (-1 : Int64)) &&& q1)))])) X15725 (fun t k => XT.lxor X15725.here hx rfl (hb hby at_230) rfl k) ?_
  obtain ⟨_, T15726, L15726, X15726, ⟨rfl, f15726, N15726q⟩, st15726⟩ := own_callS X15725 hx hZ (y := (⟨"com/example/ken2/ken2/RememberedStepsTakePinLaw", "agrees", "(JJJJ)Z"⟩ : MethodName)) (W := 0) (argsL := [(.long ((q4 &&& (q1 ^^^ (-1 : Int64))) ||| ((q3 ^^^ (-1 : Int64)) &&& q1))), (.long q4), (.long q1), (.long (q3 ^^^ (-1 : Int64)))]) (rest := []) hown (hw _ (wm 98 rfl)) (hw _ (wm 99 rfl)) (hw _ (wm 100 rfl)) (hw _ (wm 101 rfl)) (by decide) (rm15 l Z a0 hw [] ((q4 &&& (q1 ^^^ (-1 : Int64))) ||| ((q3 ^^^ (-1 : Int64)) &&& q1)) q4 q1 (q3 ^^^ (-1 : Int64)) h14687 n0 Z14687) (by decide) (by decide) (by decide) (by decide) f15725 (g := (mkF m 231 (La0_8 q0 q1 q2 q3 q4 q5 b1 b9378 b9384 b9394 b9405 b13611 b13622 b13636) [(.long (q3 ^^^ (-1 : Int64))), (.long q1), (.long q4), (.long ((q4 &&& (q1 ^^^ (-1 : Int64))) ||| ((q3 ^^^ (-1 : Int64)) &&& q1)))])) rfl (by rw [hml]; rfl) pd_11 rfl rfl (by show 2 * 0 + _ ≤ _; exact Nat.le_of_eq rfl) (hb hby at_231)
  have N15726 := Fr.app N15725 N15726q
  refine OwnFin.step (g' := (mkF m 234 (La0_8 q0 q1 q2 q3 q4 q5 b1 b9378 b9384 b9394 b9405 b13611 b13622 b13636) [(.int (r15 ((q4 &&& (q1 ^^^ (-1 : Int64))) ||| ((q3 ^^^ (-1 : Int64)) &&& q1)) q4 q1 (q3 ^^^ (-1 : Int64))))])) X15726 (fun t k => st15726 _ k) ?_
  refine OwnFin.step (g' := (mkF m 237 (La0_8 q0 q1 q2 q3 q4 q5 b1 b9378 b9384 b9394 b9405 b13611 b13622 b13636) [])) X15726 (fun t k => XS.ifNo X15726.here hx rfl (hb hby at_234) rfl ((if0 _ _).trans (feq (br0_234 q4 q1 q3)).1) k) ?_
  refine OwnFin.step (g' := (mkF m 239 (La0_8 q0 q1 q2 q3 q4 q5 b1 b9378 b9384 b9394 b9405 b13611 b13622 b13636) [(.ref b13636)])) X15726 (fun t k => XS.aload X15726.here hx rfl (hb hby at_237) rfl rfl k) ?_
  refine OwnFin.step (g' := (mkF m 240 (La0_8 q0 q1 q2 q3 q4 q5 b1 b9378 b9384 b9394 b9405 b13611 b13622 b13636) [(.int (1 : Int32)), (.ref b13636)])) X15726 (fun t k => XS.iconst X15726.here hx rfl (hb hby at_239) k) ?_
  refine OwnFin.step (g' := (mkF m 241 (La0_8 q0 q1 q2 q3 q4 q5 b1 b9378 b9384 b9394 b9405 b13611 b13622 b13636) [(.long ((q5 &&& (q0 ^^^ (-1 : Int64))) ||| ((q2 ^^^ q5) &&& q0)))])) X15726 (fun t k => own_ldJ X15726 hx hZ f15726 u15721 (by decide) rfl (g := (mkF m 240 (La0_8 q0 q1 q2 q3 q4 q5 b1 b9378 b9384 b9394 b9405 b13611 b13622 b13636) [(.int (1 : Int32)), (.ref b13636)])) rfl rfl (hb hby at_240) _ k) ?_
  refine OwnFin.step (g' := (mkF m 243 (La0_8 q0 q1 q2 q3 q4 q5 b1 b9378 b9384 b9394 b9405 b13611 b13622 b13636) [(.long q5), (.long ((q5 &&& (q0 ^^^ (-1 : Int64))) ||| ((q2 ^^^ q5) &&& q0)))])) X15726 (fun t k => XT.lload X15726.here hx rfl (hb hby at_241) rfl k) ?_
  refine OwnFin.step (g' := (mkF m 244 (La0_8 q0 q1 q2 q3 q4 q5 b1 b9378 b9384 b9394 b9405 b13611 b13622 b13636) [(.long q0), (.long q5), (.long ((q5 &&& (q0 ^^^ (-1 : Int64))) ||| ((q2 ^^^ q5) &&& q0)))])) X15726 (fun t k => XT.lloadN X15726.here hx rfl (hb hby at_243) rfl k) ?_
  refine OwnFin.step (g' := (mkF m 246 (La0_8 q0 q1 q2 q3 q4 q5 b1 b9378 b9384 b9394 b9405 b13611 b13622 b13636) [(.long q2), (.long q0), (.long q5), (.long ((q5 &&& (q0 ^^^ (-1 : Int64))) ||| ((q2 ^^^ q5) &&& q0)))])) X15726 (fun t k => XT.lload X15726.here hx rfl (hb hby at_244) rfl k) ?_
  refine OwnFin.step (g' := (mkF m 248 (La0_8 q0 q1 q2 q3 q4 q5 b1 b9378 b9384 b9394 b9405 b13611 b13622 b13636) [(.long q5), (.long q2), (.long q0), (.long q5), (.long ((q5 &&& (q0 ^^^ (-1 : Int64))) ||| ((q2 ^^^ q5) &&& q0)))])) X15726 (fun t k => XT.lload X15726.here hx rfl (hb hby at_246) rfl k) ?_
  refine OwnFin.step (g' := (mkF m 249 (La0_8 q0 q1 q2 q3 q4 q5 b1 b9378 b9384 b9394 b9405 b13611 b13622 b13636) [(.long (q2 ^^^ q5)), (.long q0), (.long q5), (.long ((q5 &&& (q0 ^^^ (-1 : Int64))) ||| ((q2 ^^^ q5) &&& q0)))])) X15726 (fun t k => XT.lxor X15726.here hx rfl (hb hby at_248) rfl k) ?_
  obtain ⟨_, T15727, L15727, X15727, ⟨rfl, f15727, N15727q⟩, st15727⟩ := own_callS X15726 hx hZ (y := (⟨"com/example/ken2/ken2/RememberedStepsTakePinLaw", "agrees", "(JJJJ)Z"⟩ : MethodName)) (W := 0) (argsL := [(.long ((q5 &&& (q0 ^^^ (-1 : Int64))) ||| ((q2 ^^^ q5) &&& q0))), (.long q5), (.long q0), (.long (q2 ^^^ q5))]) (rest := []) hown (hw _ (wm 98 rfl)) (hw _ (wm 99 rfl)) (hw _ (wm 100 rfl)) (hw _ (wm 101 rfl)) (by decide) (rm15 l Z a0 hw [] ((q5 &&& (q0 ^^^ (-1 : Int64))) ||| ((q2 ^^^ q5) &&& q0)) q5 q0 (q2 ^^^ q5) h14687 n0 Z14687) (by decide) (by decide) (by decide) (by decide) f15726 (g := (mkF m 249 (La0_8 q0 q1 q2 q3 q4 q5 b1 b9378 b9384 b9394 b9405 b13611 b13622 b13636) [(.long (q2 ^^^ q5)), (.long q0), (.long q5), (.long ((q5 &&& (q0 ^^^ (-1 : Int64))) ||| ((q2 ^^^ q5) &&& q0)))])) rfl (by rw [hml]; rfl) pd_11 rfl rfl (by show 2 * 0 + _ ≤ _; exact Nat.le_of_eq rfl) (hb hby at_249)
  have N15727 := Fr.app N15726 N15727q
  refine OwnFin.step (g' := (mkF m 252 (La0_8 q0 q1 q2 q3 q4 q5 b1 b9378 b9384 b9394 b9405 b13611 b13622 b13636) [(.int (r15 ((q5 &&& (q0 ^^^ (-1 : Int64))) ||| ((q2 ^^^ q5) &&& q0)) q5 q0 (q2 ^^^ q5)))])) X15727 (fun t k => st15727 _ k) ?_
  refine OwnFin.step (g' := (mkF m 255 (La0_8 q0 q1 q2 q3 q4 q5 b1 b9378 b9384 b9394 b9405 b13611 b13622 b13636) [])) X15727 (fun t k => XS.ifNo X15727.here hx rfl (hb hby at_252) rfl ((if0 _ _).trans (feq (br0_252 q5 q0 q2)).1) k) ?_
  refine OwnFin.step (g' := (mkF m 257 (La0_8 q0 q1 q2 q3 q4 q5 b1 b9378 b9384 b9394 b9405 b13611 b13622 b13636) [(.ref b13611)])) X15727 (fun t k => XS.aload X15727.here hx rfl (hb hby at_255) rfl rfl k) ?_
  refine OwnFin.step (g' := (mkF m 258 (La0_8 q0 q1 q2 q3 q4 q5 b1 b9378 b9384 b9394 b9405 b13611 b13622 b13636) [(.int (0 : Int32)), (.ref b13611)])) X15727 (fun t k => XS.iconst X15727.here hx rfl (hb hby at_257) k) ?_
  have A15728 := (A15718.keep K14687 (ninS ne_b13611_b13636 nin0))
  refine OwnFin.step (g' := (mkF m 259 (La0_8 q0 q1 q2 q3 q4 q5 b1 b9378 b9384 b9394 b9405 b13611 b13622 b13636) [(.long q4)])) X15727 (fun t k => own_ldJ X15727 hx hZ f15727 A15728 (by decide) rfl (g := (mkF m 258 (La0_8 q0 q1 q2 q3 q4 q5 b1 b9378 b9384 b9394 b9405 b13611 b13622 b13636) [(.int (0 : Int32)), (.ref b13611)])) rfl rfl (hb hby at_258) _ k) ?_
  refine OwnFin.step (g' := (mkF m 261 (La0_8 q0 q1 q2 q3 q4 q5 b1 b9378 b9384 b9394 b9405 b13611 b13622 b13636) [(.long q4), (.long q4)])) X15727 (fun t k => XT.lload X15727.here hx rfl (hb hby at_259) rfl k) ?_
  refine OwnFin.step (g' := (mkF m 262 (La0_8 q0 q1 q2 q3 q4 q5 b1 b9378 b9384 b9394 b9405 b13611 b13622 b13636) [(.int (XT.cmpL q4 q4))])) X15727 (fun t k => XT.lcmp X15727.here hx rfl (hb hby at_261) rfl k) ?_
  refine OwnFin.step (g' := (mkF m 265 (La0_8 q0 q1 q2 q3 q4 q5 b1 b9378 b9384 b9394 b9405 b13611 b13622 b13636) [])) X15727 (fun t k => XS.ifNo X15727.here hx rfl (hb hby at_262) rfl ((if0 _ _).trans (teq ((cl_eq _ _).mpr (show q4 = q4 by first | rfl | decide))).2) k) ?_
  refine OwnFin.step (g' := (mkF m 267 (La0_8 q0 q1 q2 q3 q4 q5 b1 b9378 b9384 b9394 b9405 b13611 b13622 b13636) [(.ref b13611)])) X15727 (fun t k => XS.aload X15727.here hx rfl (hb hby at_265) rfl rfl k) ?_
  refine OwnFin.step (g' := (mkF m 268 (La0_8 q0 q1 q2 q3 q4 q5 b1 b9378 b9384 b9394 b9405 b13611 b13622 b13636) [(.int (1 : Int32)), (.ref b13611)])) X15727 (fun t k => XS.iconst X15727.here hx rfl (hb hby at_267) k) ?_
  refine OwnFin.step (g' := (mkF m 269 (La0_8 q0 q1 q2 q3 q4 q5 b1 b9378 b9384 b9394 b9405 b13611 b13622 b13636) [(.long q5)])) X15727 (fun t k => own_ldJ X15727 hx hZ f15727 A15728 (by decide) rfl (g := (mkF m 268 (La0_8 q0 q1 q2 q3 q4 q5 b1 b9378 b9384 b9394 b9405 b13611 b13622 b13636) [(.int (1 : Int32)), (.ref b13611)])) rfl rfl (hb hby at_268) _ k) ?_
  refine OwnFin.step (g' := (mkF m 271 (La0_8 q0 q1 q2 q3 q4 q5 b1 b9378 b9384 b9394 b9405 b13611 b13622 b13636) [(.long q5), (.long q5)])) X15727 (fun t k => XT.lload X15727.here hx rfl (hb hby at_269) rfl k) ?_
  refine OwnFin.step (g' := (mkF m 272 (La0_8 q0 q1 q2 q3 q4 q5 b1 b9378 b9384 b9394 b9405 b13611 b13622 b13636) [(.int (XT.cmpL q5 q5))])) X15727 (fun t k => XT.lcmp X15727.here hx rfl (hb hby at_271) rfl k) ?_
  refine OwnFin.step (g' := (mkF m 275 (La0_8 q0 q1 q2 q3 q4 q5 b1 b9378 b9384 b9394 b9405 b13611 b13622 b13636) [])) X15727 (fun t k => XS.ifNo X15727.here hx rfl (hb hby at_272) rfl ((if0 _ _).trans (teq ((cl_eq _ _).mpr (show q5 = q5 by first | rfl | decide))).2) k) ?_
  refine OwnFin.step (g' := (mkF m 276 (La0_8 q0 q1 q2 q3 q4 q5 b1 b9378 b9384 b9394 b9405 b13611 b13622 b13636) [(.int (1 : Int32))])) X15727 (fun t k => XS.iconst X15727.here hx rfl (hb hby at_275) k) ?_
  refine OwnFin.step (g' := (mkF m 280 (La0_8 q0 q1 q2 q3 q4 q5 b1 b9378 b9384 b9394 b9405 b13611 b13622 b13636) [(.int (1 : Int32))])) X15727 (fun t k => XS.goto X15727.here hx rfl (pc0 := 276) (pc' := 280) rfl (hb hby at_276) (by decide) (by decide) k) ?_
  refine OwnFin.retNar X15727 (by simp) (hb hby at_280) (by decide) (by decide) ?_
  exact ⟨rfl, N15727⟩
set_option maxRecDepth 65536 in
set_option maxHeartbeats 40000000 in
theorem rm0 (l : Launch) (Z : State) (a0 : Array Value) (hw : ∀ d ∈ tables_1, d.before a0 Z = true) (ws : List Jvm.Cond) (q0 : Int64) (q1 : Int64) (q2 : Int64) (q3 : Int64) (q4 : Int64) (q5 : Int64) (h0 : Heap) (n0 : Nat) (Z0 : n0 ≤ h0.size) :
    MetFree l x (head1 (Jvm.Cond.code x code maxLocals ret :: ws) room_1) (fun a U => a = #[(.long q0), (.long q1), (.long q2), (.long q3), (.long q4), (.long q5)] ∧ Z.Warmed39 U.vm ∧ U.heap = h0) (fun _ _ _ _ _ => True) (fun _ U o U' => ∃ v L, o = .returned v ∧ (LQ n0) v U'.heap L ∧ FrameEnd U o U' L room_1.cells room_1.slots) :=
  own_met (ret := ret) (Q := (LQ n0)) (plainFor_of_name pn_0) (fun m => ef_0 m q0 q1 q2 q3 q4 q5) (fun p e s m below meth c s₁ X hx hby hml hown hnm hZ e0 => j0 X hx hZ hw hby hml hown hnm e0 (Fr.nil n0) Z0 q0 q1 q2 q3 q4 q5)
set_option maxRecDepth 65536 in
set_option maxHeartbeats 40000000 in
theorem comes_1 {Post : Tables → Env → Array Value → State → Outcome → State → Prop} (hpost : ∀ tb e args s v u, (limb_1_1.after args s (.returned v) u = true ∧ limb_1_2.after args s (.returned v) u = true ∧ True) → FrameEnd s (.returned v) u (Jvm.fieldLocs frame_1_writes args s ++ Jvm.arrayLocs frame_1_arrays args s ++ Jvm.staticLocs frame_1_statics s) 40 448 → Post tb e args s (.returned v) u) :
    ArmFor flags0 classFile x code maxLocals ret World_1 tables_1 room_1 Calls_1 rest_1 Pre_1 Post := by
  intro l hfl _ _ p e ha hc hk s m args below hf hA hF happ hP
  obtain ⟨hcalls, hrest, hpre⟩ := hP
  obtain ⟨-, -, -, hnamed, -, -, -, hat⟩ := (Spec.applies_iff hf).mp happ
  obtain ⟨hg, hn⟩ := and_e (Cond.before_iff.mp (show (Jvm.Cond.and given_1 narrow_1).before args s = true from hpre))
  obtain ⟨g1, g2⟩ := and_e hg
  obtain ⟨g3, g4⟩ := and_e g2
  obtain ⟨g5, g6⟩ := and_e g4
  obtain ⟨g7, g8⟩ := and_e g6
  obtain ⟨g9, g10⟩ := and_e g8
  obtain ⟨g11, g12⟩ := and_e g10
  obtain ⟨w0, w1, w2, w3, w4, w5, rfl⟩ : ∃ w0 w1 w2 w3 w4 w5 : Value, args = #[w0, w1, w2, w3, w4, w5] := by
    have hs : args.size = 6 := by simpa [Cond.value, given_1] using g1
    obtain ⟨L⟩ := args
    match L, hs with
    | [w0, w1, w2, w3, w4, w5], _ => exact ⟨w0, w1, w2, w3, w4, w5, rfl⟩
  have hw := fun d (hd : d ∈ tables_1) => atoms_spec (ws := Jvm.Cond.code x code maxLocals ret :: tables_1) hat d (List.mem_cons_of_mem _ hd)
  obtain ⟨i0, ei0⟩ := isL_v g3
  obtain rfl : w0 = (.long i0) := Option.some.inj ei0
  obtain ⟨i1, ei1⟩ := isL_v g5
  obtain rfl : w1 = (.long i1) := Option.some.inj ei1
  obtain ⟨i2, ei2⟩ := isL_v g7
  obtain rfl : w2 = (.long i2) := Option.some.inj ei2
  obtain ⟨i3, ei3⟩ := isL_v g9
  obtain rfl : w3 = (.long i3) := Option.some.inj ei3
  obtain ⟨i4, ei4⟩ := isL_v g11
  obtain rfl : w4 = (.long i4) := Option.some.inj ei4
  obtain ⟨i5, ei5⟩ := isL_v g12
  obtain rfl : w5 = (.long i5) := Option.some.inj ei5
  obtain ⟨n, o, h1, h2, h3, _, L, rfl, ⟨rfl, N⟩, hq⟩ := rm0 l s _ hw tables_1 i0 i1 i2 i3 i4 i5 s.heap s.heap.size (Nat.le_refl _) p e ha hc hk s m _ below hf ((Spec.applies_iff_loose hf).mp happ).1 ⟨rfl, State.Warmed39.refl s, rfl⟩ trivial
  refine ⟨n, _, h1, h2, h3, hpost _ _ _ _ _ _ ⟨Cond.after_iff.mpr rfl, Cond.after_iff.mpr (eq_i res_at (Term.int_eval (1)) rfl), trivial⟩ ⟨hq.1, hq.2.1, (hq.2.2.sift fun y hy => Or.inr (N y hy)).mono (by decide) (by decide)⟩⟩
theorem main_1_1 : Claimed_1_1 := comes_1 fun _ _ _ _ _ _ h hF => ⟨h.1, hF⟩
theorem main_1_2 : Claimed_1_2 := comes_1 fun _ _ _ _ _ _ h hF => ⟨h.2.1, hF⟩
end Jvm.Pilot.@@N@@
namespace Jvm.Pilot.@@N@@
open Jvm Jvm.ClassFile Sem Op Lib Jvm.Free Jvm.Stand Jvm.Pilot.@@N@@.Jvm.D
/-! MADE BY PROGRAM (witnessworld.py) out of the Statement's table words and the real class files: 14 classes; the members and pool entries that the words name. The judged class is class 1, her method 1. -/
namespace start1
open Jvm.ClassFile
def u (s : String) : CpInfo := .utf8 (stringToUtf16 s)
/-- a pool by its gaps: so many unusable entries, then the entry; so many at the end -/
def gap : Nat → List CpInfo → List CpInfo
  | 0, r => r
  | n + 1, r => .unusable :: gap n r
def poolList (es : List (Nat × CpInfo)) (last : Nat) : List CpInfo := es.foldr (fun e r => gap e.1 (e.2 :: r)) (gap last [])
def pool (es : List (Nat × CpInfo)) (last : Nat) : Array CpInfo := ⟨poolList es last⟩
def fileOf (pool : Array CpInfo) (this : Nat) (attrs : Array Attribute := #[]) (ms : Array MethodInfo := #[]) (fl : Nat := 33) (sup : Nat := 0) (ifs : Array Nat := #[]) (fds : Array FieldInfo := #[]) : ClassFile where
  minorVersion := 0
  majorVersion := 65
  constantPool := pool
  accessFlags := fl
  thisClass := this
  superClass := sup
  interfaces := ifs
  fields := fds
  methods := ms
  attributes := attrs
def plain (name : String) (sup : Option ClassId) : Class where
  name := name
  kind := .ordinary
  loader := none
  accessFlags := 33
  super := sup
  interfaces := #[]
  cf := none
  fields := #[]
  methods := #[]
  instanceTypes := #[]
  staticTypes := #[]
  resolved := #[]
  callSites := []
  init := .initialized
  statics := none
  mirror := none

def pool0 : Array CpInfo := pool [(5, u "<init>"), (0, u "()V"), (1, .class_ 10), (1, u "java/lang/Object")] 113

def k0c0 : Code := { maxStack := 0, maxLocals := 1, code := object_method_1_code, exceptionTable := #[], attributes := #[] }
def k0m0 : Method := { name := "<init>", desc := "()V", sig := { parameters := [], returnType := none }, accessFlags := 1, code := some k0c0 }
/-- java/lang/Object -/
def k0 : Class := { plain "java/lang/Object" none with
  accessFlags := 33
  interfaces := #[]
  cf := some (fileOf pool0 8 #[] #[{ accessFlags := 1, nameIndex := 5, descriptorIndex := 6, attributes := #[] }] 33 0 #[] #[])
  fields := #[]
  methods := #[k0m0]
  instanceTypes := #[]
  staticTypes := #[]
  resolved := Array.replicate 124 none
  statics := none }

def pool1 : Array CpInfo := pool [(2, .class_ 4), (1, u "java/lang/Object"), (0, u "<init>"), (0, u "()V"), (0, .class_ 8), (0, u "com/example/ken2/ken2/RememberedSteps"), (0, .methodref 7 10), (0, .nameAndType 5 11), (0, u "(I)V"), (0, .methodref 7 13), (0, .nameAndType 14 15), (0, u "open"), (0, u "([J)V"), (0, .long 18446744073709551615), (1, .methodref 7 19), (0, .nameAndType 20 21), (0, u "add"), (0, u "([J[J)V"), (0, .methodref 7 23), (0, .nameAndType 24 25), (0, u "take"), (0, u "(I[J[J)V"), (0, .methodref 27 28), (0, .class_ 29), (0, .nameAndType 30 31), (0, u "com/example/ken2/ken2/RememberedStepsTakePinLaw"), (0, u "agrees"), (0, u "(JJJJ)Z"), (2, u "law"), (0, u "(JJJJJJ)Z")] 5

def k1m0 : Method := { name := "<init>", desc := "()V", sig := { parameters := [], returnType := none }, accessFlags := 1, code := none }
def k1c1 : Code := { maxStack := 10, maxLocals := 20, code := code, exceptionTable := #[], attributes := #[] }
def k1m1 : Method := { name := "law", desc := "(JJJJJJ)Z", sig := { parameters := [.long, .long, .long, .long, .long, .long], returnType := some .boolean }, accessFlags := 9, code := some k1c1 }
def k1c2 : Code := { maxStack := 6, maxLocals := 8, code := method_3_code, exceptionTable := #[], attributes := #[] }
def k1m2 : Method := { name := "agrees", desc := "(JJJJ)Z", sig := { parameters := [.long, .long, .long, .long], returnType := some .boolean }, accessFlags := 10, code := some k1c2 }
/-- com/example/ken2/ken2/RememberedStepsTakePinLaw -/
def k1 : Class := { plain "com/example/ken2/ken2/RememberedStepsTakePinLaw" (some 0) with
  accessFlags := 49
  interfaces := #[]
  cf := some (fileOf pool1 27 #[] #[{ accessFlags := 1, nameIndex := 5, descriptorIndex := 6, attributes := #[] }, { accessFlags := 9, nameIndex := 34, descriptorIndex := 35, attributes := #[] }, { accessFlags := 10, nameIndex := 30, descriptorIndex := 31, attributes := #[] }] 49 2 #[] #[])
  fields := #[]
  methods := #[k1m0, k1m1, k1m2]
  instanceTypes := #[]
  staticTypes := #[]
  resolved := Array.replicate 41 none
  statics := none }

def pool2 : Array CpInfo := pool [(1, .methodref 2 3), (0, .class_ 4), (0, .nameAndType 5 6), (0, u "java/lang/Object"), (0, u "<init>"), (0, u "()V"), (0, .fieldref 8 9), (0, .class_ 10), (0, .nameAndType 11 12), (0, u "com/example/ken2/ken2/RememberedSteps"), (0, u "m_firstSteps"), (0, u "[I"), (0, .fieldref 8 14), (0, .nameAndType 15 16), (0, u "m_width"), (0, u "I"), (0, .class_ 18), (0, u "com/example/ken2/ken2/TupleTable"), (0, .methodref 17 20), (0, .nameAndType 5 21), (0, u "(I)V"), (0, .fieldref 8 23), (0, .nameAndType 24 25), (0, u "m_keys"), (0, u "Lcom/example/ken2/ken2/TupleTable;"), (0, .fieldref 8 27), (0, .nameAndType 28 29), (0, u "m_steps"), (0, u "[J"), (3, u "([J)I"), (0, .methodref 17 35), (0, .nameAndType 36 37), (0, u "size"), (0, u "()I"), (0, .fieldref 8 39), (0, .nameAndType 40 16), (0, u "m_stepCount"), (1, .methodref 17 43), (0, .nameAndType 44 33), (0, u "intern"), (9, .long 18446744073709551615), (1, u "MAX_KEYS"), (2, u "MAX_WORDS"), (6, u "open"), (0, u "([J)V"), (0, u "add"), (0, u "([J[J)V"), (3, u "take"), (0, u "(I[J[J)V")] 2

def k2c0 : Code := { maxStack := 4, maxLocals := 2, code := prog_109_method_1_code, exceptionTable := #[], attributes := #[] }
def k2m0 : Method := { name := "<init>", desc := "(I)V", sig := { parameters := [.int], returnType := none }, accessFlags := 0, code := some k2c0 }
def k2c1 : Code := { maxStack := 4, maxLocals := 3, code := prog_109_method_4_code, exceptionTable := #[], attributes := #[] }
def k2m1 : Method := { name := "open", desc := "([J)V", sig := { parameters := [(.array .long)], returnType := none }, accessFlags := 0, code := some k2c1 }
def k2c2 : Code := { maxStack := 6, maxLocals := 5, code := prog_109_method_5_code, exceptionTable := #[], attributes := #[] }
def k2m2 : Method := { name := "add", desc := "([J[J)V", sig := { parameters := [(.array .long), (.array .long)], returnType := none }, accessFlags := 0, code := some k2c2 }
def k2c3 : Code := { maxStack := 8, maxLocals := 6, code := prog_109_method_8_code, exceptionTable := #[], attributes := #[] }
def k2m3 : Method := { name := "take", desc := "(I[J[J)V", sig := { parameters := [.int, (.array .long), (.array .long)], returnType := none }, accessFlags := 0, code := some k2c3 }
/-- com/example/ken2/ken2/RememberedSteps -/
def k2 : Class := { plain "com/example/ken2/ken2/RememberedSteps" (some 0) with
  accessFlags := 48
  interfaces := #[]
  cf := some (fileOf pool2 8 #[] #[{ accessFlags := 0, nameIndex := 5, descriptorIndex := 21, attributes := #[] }, { accessFlags := 0, nameIndex := 66, descriptorIndex := 67, attributes := #[] }, { accessFlags := 0, nameIndex := 68, descriptorIndex := 69, attributes := #[] }, { accessFlags := 0, nameIndex := 73, descriptorIndex := 74, attributes := #[] }] 48 2 #[] #[{ accessFlags := 26, nameIndex := 56, descriptorIndex := 16, attributes := #[] }, { accessFlags := 26, nameIndex := 59, descriptorIndex := 16, attributes := #[] }, { accessFlags := 18, nameIndex := 15, descriptorIndex := 16, attributes := #[] }, { accessFlags := 18, nameIndex := 24, descriptorIndex := 25, attributes := #[] }, { accessFlags := 2, nameIndex := 11, descriptorIndex := 12, attributes := #[] }, { accessFlags := 2, nameIndex := 28, descriptorIndex := 29, attributes := #[] }, { accessFlags := 2, nameIndex := 40, descriptorIndex := 16, attributes := #[] }])
  fields := #[{ name := "MAX_KEYS", type := .int, accessFlags := 26, slot := 0, constantValue := 0 }, { name := "MAX_WORDS", type := .int, accessFlags := 26, slot := 1, constantValue := 0 }, { name := "m_width", type := .int, accessFlags := 18, slot := 0, constantValue := 0 }, { name := "m_keys", type := (.object "com/example/ken2/ken2/TupleTable"), accessFlags := 18, slot := 1, constantValue := 0 }, { name := "m_firstSteps", type := (.array .int), accessFlags := 2, slot := 2, constantValue := 0 }, { name := "m_steps", type := (.array .long), accessFlags := 2, slot := 3, constantValue := 0 }, { name := "m_stepCount", type := .int, accessFlags := 2, slot := 4, constantValue := 0 }]
  methods := #[k2m0, k2m1, k2m2, k2m3]
  instanceTypes := #[.int, (.object "com/example/ken2/ken2/TupleTable"), (.array .int), (.array .long), .int]
  staticTypes := #[.int, .int]
  resolved := Array.replicate 77 none
  statics := none }

def pool3 : Array CpInfo := pool [(1, .class_ 2), (0, u "com/example/ken2/ken2/TupleTable"), (0, .integer 536870912), (0, .methodref 1 5), (0, .nameAndType 6 7), (0, u "<init>"), (0, u "(II)V"), (0, .methodref 9 10), (0, .class_ 11), (0, .nameAndType 6 12), (0, u "java/lang/Object"), (0, u "()V"), (0, .fieldref 1 14), (0, .nameAndType 15 16), (0, u "m_width"), (0, u "I"), (0, .methodref 18 19), (0, .class_ 20), (0, .nameAndType 21 22), (0, u "java/lang/Math"), (0, u "min"), (0, u "(II)I"), (2, .integer 2147483639), (0, .fieldref 1 27), (0, .nameAndType 28 16), (0, u "m_capacity"), (0, .fieldref 1 30), (0, .nameAndType 31 32), (0, u "m_tuples"), (0, u "[J"), (0, .fieldref 1 34), (0, .nameAndType 35 32), (0, u "m_slots"), (0, .fieldref 1 37), (0, .nameAndType 38 16), (0, u "m_size"), (0, .methodref 1 40), (0, .nameAndType 41 42), (0, u "intern"), (0, u "([JI)I"), (0, .methodref 1 44), (0, .nameAndType 45 42), (0, u "hash"), (0, .methodref 1 47), (0, .nameAndType 48 49), (0, u "slotOf"), (0, u "([JII)I"), (9, .long 2), (10, .methodref 71 72), (0, .class_ 73), (0, .nameAndType 74 75), (0, u "java/lang/System"), (0, u "arraycopy"), (0, u "(Ljava/lang/Object;ILjava/lang/Object;II)V"), (0, .methodref 1 77), (0, .nameAndType 78 79), (0, u "slot"), (0, u "(II)J"), (0, .long 4), (1, .long 3), (8, .long 11400714819323198485), (1, .long 15485907386658061715), (1, u "MAX_SIZE"), (1, u "EMPTY"), (0, u "J"), (2, u "(I)V"), (2, u "size"), (0, u "()I"), (0, u "([J)I")] 24

def k3c0 : Code := { maxStack := 3, maxLocals := 2, code := prog_120_method_1_code, exceptionTable := #[], attributes := #[] }
def k3m0 : Method := { name := "<init>", desc := "(I)V", sig := { parameters := [.int], returnType := none }, accessFlags := 0, code := some k3c0 }
def k3c1 : Code := { maxStack := 4, maxLocals := 3, code := prog_120_method_2_code, exceptionTable := #[], attributes := #[] }
def k3m1 : Method := { name := "<init>", desc := "(II)V", sig := { parameters := [.int, .int], returnType := none }, accessFlags := 0, code := some k3c1 }
def k3c2 : Code := { maxStack := 1, maxLocals := 1, code := prog_120_method_3_code, exceptionTable := #[], attributes := #[] }
def k3m2 : Method := { name := "size", desc := "()I", sig := { parameters := [], returnType := some .int }, accessFlags := 0, code := some k3c2 }
def k3c3 : Code := { maxStack := 3, maxLocals := 2, code := prog_120_method_4_code, exceptionTable := #[], attributes := #[] }
def k3m3 : Method := { name := "intern", desc := "([J)I", sig := { parameters := [(.array .long)], returnType := some .int }, accessFlags := 0, code := some k3c3 }
def k3c4 : Code := { maxStack := 6, maxLocals := 6, code := prog_120_method_5_code, exceptionTable := #[], attributes := #[] }
def k3m4 : Method := { name := "intern", desc := "([JI)I", sig := { parameters := [(.array .long), .int], returnType := some .int }, accessFlags := 0, code := some k3c4 }
def k3c5 : Code := { maxStack := 4, maxLocals := 7, code := prog_120_method_7_code, exceptionTable := #[], attributes := #[] }
def k3m5 : Method := { name := "slotOf", desc := "([JII)I", sig := { parameters := [(.array .long), .int, .int], returnType := some .int }, accessFlags := 2, code := some k3c5 }
def k3c6 : Code := { maxStack := 5, maxLocals := 6, code := prog_120_method_11_code, exceptionTable := #[], attributes := #[] }
def k3m6 : Method := { name := "hash", desc := "([JI)I", sig := { parameters := [(.array .long), .int], returnType := some .int }, accessFlags := 2, code := some k3c6 }
def k3c7 : Code := { maxStack := 4, maxLocals := 2, code := prog_120_method_12_code, exceptionTable := #[], attributes := #[] }
def k3m7 : Method := { name := "slot", desc := "(II)J", sig := { parameters := [.int, .int], returnType := some .long }, accessFlags := 10, code := some k3c7 }
/-- com/example/ken2/ken2/TupleTable -/
def k3 : Class := { plain "com/example/ken2/ken2/TupleTable" (some 0) with
  accessFlags := 48
  interfaces := #[]
  cf := some (fileOf pool3 1 #[] #[{ accessFlags := 0, nameIndex := 6, descriptorIndex := 101, attributes := #[] }, { accessFlags := 0, nameIndex := 6, descriptorIndex := 7, attributes := #[] }, { accessFlags := 0, nameIndex := 104, descriptorIndex := 105, attributes := #[] }, { accessFlags := 0, nameIndex := 41, descriptorIndex := 106, attributes := #[] }, { accessFlags := 0, nameIndex := 41, descriptorIndex := 42, attributes := #[] }, { accessFlags := 2, nameIndex := 48, descriptorIndex := 49, attributes := #[] }, { accessFlags := 2, nameIndex := 45, descriptorIndex := 42, attributes := #[] }, { accessFlags := 10, nameIndex := 78, descriptorIndex := 79, attributes := #[] }] 48 9 #[] #[{ accessFlags := 24, nameIndex := 95, descriptorIndex := 16, attributes := #[] }, { accessFlags := 26, nameIndex := 97, descriptorIndex := 98, attributes := #[] }, { accessFlags := 18, nameIndex := 15, descriptorIndex := 16, attributes := #[] }, { accessFlags := 18, nameIndex := 28, descriptorIndex := 16, attributes := #[] }, { accessFlags := 2, nameIndex := 31, descriptorIndex := 32, attributes := #[] }, { accessFlags := 2, nameIndex := 35, descriptorIndex := 32, attributes := #[] }, { accessFlags := 2, nameIndex := 38, descriptorIndex := 16, attributes := #[] }])
  fields := #[{ name := "MAX_SIZE", type := .int, accessFlags := 24, slot := 0, constantValue := 0 }, { name := "EMPTY", type := .long, accessFlags := 26, slot := 1, constantValue := 0 }, { name := "m_width", type := .int, accessFlags := 18, slot := 0, constantValue := 0 }, { name := "m_capacity", type := .int, accessFlags := 18, slot := 1, constantValue := 0 }, { name := "m_tuples", type := (.array .long), accessFlags := 2, slot := 2, constantValue := 0 }, { name := "m_slots", type := (.array .long), accessFlags := 2, slot := 3, constantValue := 0 }, { name := "m_size", type := .int, accessFlags := 2, slot := 4, constantValue := 0 }]
  methods := #[k3m0, k3m1, k3m2, k3m3, k3m4, k3m5, k3m6, k3m7]
  instanceTypes := #[.int, .int, (.array .long), (.array .long), .int]
  staticTypes := #[.int, .long]
  resolved := Array.replicate 131 none
  statics := none }

def pool4 : Array CpInfo := pool [(1, .class_ 2), (0, u "java/lang/Math"), (1, .class_ 6), (1, u "java/lang/Object"), (0, u "<init>"), (0, u "()V"), (89, .class_ 100), (1, u "java/lang/Math$RandomNumberGeneratorHolder"), (71, u "negativeZeroFloatBits"), (0, u "J"), (2, u "negativeZeroDoubleBits"), (24, u "min"), (43, u "$assertionsDisabled"), (0, u "Z"), (88, u "(II)I"), (2, u "twoToTheDoubleScaleDown"), (0, u "D"), (4, u "twoToTheDoubleScaleUp"), (9, u "E"), (3, u "PI"), (2, u "TAU"), (2, u "DEGREES_TO_RADIANS"), (0, u "RADIANS_TO_DEGREES")] 94

def k4m0 : Method := { name := "<init>", desc := "()V", sig := { parameters := [], returnType := none }, accessFlags := 2, code := none }
def k4c1 : Code := { maxStack := 2, maxLocals := 2, code := jdk_29_method_69_code, exceptionTable := #[], attributes := #[] }
def k4m1 : Method := { name := "min", desc := "(II)I", sig := { parameters := [.int, .int], returnType := some .int }, accessFlags := 9, code := some k4c1 }
/-- java/lang/Math -/
def k4 : Class := { plain "java/lang/Math" (some 0) with
  accessFlags := 49
  interfaces := #[]
  cf := some (fileOf pool4 1 #[.nestMembers #[98]] #[{ accessFlags := 2, nameIndex := 7, descriptorIndex := 8, attributes := #[] }, { accessFlags := 9, nameIndex := 201, descriptorIndex := 335, attributes := #[] }] 49 4 #[] #[{ accessFlags := 25, nameIndex := 354, descriptorIndex := 339, attributes := #[] }, { accessFlags := 25, nameIndex := 358, descriptorIndex := 339, attributes := #[] }, { accessFlags := 25, nameIndex := 361, descriptorIndex := 339, attributes := #[] }, { accessFlags := 26, nameIndex := 364, descriptorIndex := 339, attributes := #[] }, { accessFlags := 26, nameIndex := 365, descriptorIndex := 339, attributes := #[] }, { accessFlags := 26, nameIndex := 172, descriptorIndex := 173, attributes := #[] }, { accessFlags := 26, nameIndex := 176, descriptorIndex := 173, attributes := #[] }, { accessFlags := 8, nameIndex := 344, descriptorIndex := 339, attributes := #[] }, { accessFlags := 8, nameIndex := 338, descriptorIndex := 339, attributes := #[] }, { accessFlags := 4120, nameIndex := 245, descriptorIndex := 246, attributes := #[] }])
  fields := #[{ name := "E", type := .double, accessFlags := 25, slot := 0, constantValue := 0 }, { name := "PI", type := .double, accessFlags := 25, slot := 1, constantValue := 0 }, { name := "TAU", type := .double, accessFlags := 25, slot := 2, constantValue := 0 }, { name := "DEGREES_TO_RADIANS", type := .double, accessFlags := 26, slot := 3, constantValue := 0 }, { name := "RADIANS_TO_DEGREES", type := .double, accessFlags := 26, slot := 4, constantValue := 0 }, { name := "negativeZeroFloatBits", type := .long, accessFlags := 26, slot := 5, constantValue := 0 }, { name := "negativeZeroDoubleBits", type := .long, accessFlags := 26, slot := 6, constantValue := 0 }, { name := "twoToTheDoubleScaleUp", type := .double, accessFlags := 8, slot := 7, constantValue := 0 }, { name := "twoToTheDoubleScaleDown", type := .double, accessFlags := 8, slot := 8, constantValue := 0 }, { name := "$assertionsDisabled", type := .boolean, accessFlags := 4120, slot := 9, constantValue := 0 }]
  methods := #[k4m0, k4m1]
  instanceTypes := #[]
  staticTypes := #[.double, .double, .double, .double, .double, .long, .long, .double, .double, .boolean]
  resolved := Array.replicate 460 none
  statics := none }

def pool5 : Array CpInfo := pool [(2, .class_ 4), (1, u "java/lang/Object"), (0, u "<init>"), (0, u "()V"), (1, .class_ 10), (1, u "java/lang/System"), (0, u "allowSecurityManager"), (0, u "I"), (16, u "cons"), (0, u "Ljava/io/Console;"), (77, .class_ 110), (1, u "java/lang/System$CallersHolder"), (43, u "initialErrStream"), (0, u "Ljava/io/PrintStream;"), (19, u "security"), (0, u "Ljava/lang/SecurityManager;"), (31, .class_ 209), (0, u "java/lang/System$1"), (7, u "props"), (0, u "Ljava/util/Properties;"), (2, u "lineSeparator"), (0, u "Ljava/lang/String;"), (96, .class_ 321), (1, u "java/lang/System$LoggerFinder"), (5, .class_ 328), (0, u "java/lang/System$Logger"), (67, u "err"), (2, u "out"), (91, u "notSupportedJnuEncoding"), (15, u "in"), (17, u "initialIn"), (0, u "Ljava/io/InputStream;"), (35, u "bootLayer"), (0, u "Ljava/lang/ModuleLayer;"), (99, .class_ 664), (0, u "java/lang/System$2"), (9, u "NEVER"), (2, u "MAYBE"), (49, u "arraycopy"), (0, u "(Ljava/lang/Object;ILjava/lang/Object;II)V"), (72, .class_ 802), (0, u "java/lang/System$Logger$Level")] 31

def k5m0 : Method := { name := "<init>", desc := "()V", sig := { parameters := [], returnType := none }, accessFlags := 2, code := none }
def k5m1 : Method := { name := "arraycopy", desc := "(Ljava/lang/Object;ILjava/lang/Object;II)V", sig := { parameters := [(.object "java/lang/Object"), .int, (.object "java/lang/Object"), .int, .int], returnType := none }, accessFlags := 265, code := none }
/-- java/lang/System -/
def k5 : Class := { plain "java/lang/System" (some 0) with
  accessFlags := 49
  interfaces := #[]
  cf := some (fileOf pool5 8 #[.nestMembers #[319, 327, 801, 108, 663, 208]] #[{ accessFlags := 2, nameIndex := 5, descriptorIndex := 6, attributes := #[] }, { accessFlags := 265, nameIndex := 727, descriptorIndex := 728, attributes := #[] }] 49 2 #[] #[{ accessFlags := 25, nameIndex := 507, descriptorIndex := 526, attributes := #[] }, { accessFlags := 25, nameIndex := 399, descriptorIndex := 155, attributes := #[] }, { accessFlags := 25, nameIndex := 396, descriptorIndex := 155, attributes := #[] }, { accessFlags := 10, nameIndex := 525, descriptorIndex := 526, attributes := #[] }, { accessFlags := 26, nameIndex := 674, descriptorIndex := 12, attributes := #[] }, { accessFlags := 26, nameIndex := 677, descriptorIndex := 12, attributes := #[] }, { accessFlags := 10, nameIndex := 11, descriptorIndex := 12, attributes := #[] }, { accessFlags := 74, nameIndex := 175, descriptorIndex := 176, attributes := #[] }, { accessFlags := 10, nameIndex := 491, descriptorIndex := 222, attributes := #[] }, { accessFlags := 74, nameIndex := 29, descriptorIndex := 30, attributes := #[] }, { accessFlags := 74, nameIndex := 154, descriptorIndex := 155, attributes := #[] }, { accessFlags := 10, nameIndex := 217, descriptorIndex := 218, attributes := #[] }, { accessFlags := 10, nameIndex := 221, descriptorIndex := 222, attributes := #[] }, { accessFlags := 8, nameIndex := 562, descriptorIndex := 563, attributes := #[] }])
  fields := #[{ name := "in", type := (.object "java/io/InputStream"), accessFlags := 25, slot := 0, constantValue := 0 }, { name := "out", type := (.object "java/io/PrintStream"), accessFlags := 25, slot := 1, constantValue := 0 }, { name := "err", type := (.object "java/io/PrintStream"), accessFlags := 25, slot := 2, constantValue := 0 }, { name := "initialIn", type := (.object "java/io/InputStream"), accessFlags := 10, slot := 3, constantValue := 0 }, { name := "NEVER", type := .int, accessFlags := 26, slot := 4, constantValue := 0 }, { name := "MAYBE", type := .int, accessFlags := 26, slot := 5, constantValue := 0 }, { name := "allowSecurityManager", type := .int, accessFlags := 10, slot := 6, constantValue := 0 }, { name := "security", type := (.object "java/lang/SecurityManager"), accessFlags := 74, slot := 7, constantValue := 0 }, { name := "notSupportedJnuEncoding", type := (.object "java/lang/String"), accessFlags := 10, slot := 8, constantValue := 0 }, { name := "cons", type := (.object "java/io/Console"), accessFlags := 74, slot := 9, constantValue := 0 }, { name := "initialErrStream", type := (.object "java/io/PrintStream"), accessFlags := 74, slot := 10, constantValue := 0 }, { name := "props", type := (.object "java/util/Properties"), accessFlags := 10, slot := 11, constantValue := 0 }, { name := "lineSeparator", type := (.object "java/lang/String"), accessFlags := 10, slot := 12, constantValue := 0 }, { name := "bootLayer", type := (.object "java/lang/ModuleLayer"), accessFlags := 8, slot := 13, constantValue := 0 }]
  methods := #[k5m0, k5m1]
  instanceTypes := #[]
  staticTypes := #[(.object "java/io/InputStream"), (.object "java/io/PrintStream"), (.object "java/io/PrintStream"), (.object "java/io/InputStream"), .int, .int, .int, (.object "java/lang/SecurityManager"), (.object "java/lang/String"), (.object "java/io/Console"), (.object "java/io/PrintStream"), (.object "java/util/Properties"), (.object "java/lang/String"), (.object "java/lang/ModuleLayer")]
  resolved := Array.replicate 834 none
  statics := none }

def pool6 : Array CpInfo := pool [(1, u "java/lang/Cloneable"), (0, .class_ 1), (0, u "java/lang/Object"), (0, .class_ 3)] 3

/-- java/lang/Cloneable -/
def k6 : Class := { plain "java/lang/Cloneable" (some 0) with
  accessFlags := 1537
  interfaces := #[]
  cf := some (fileOf pool6 2 #[] #[] 1537 4 #[] #[])
  fields := #[]
  methods := #[]
  instanceTypes := #[]
  staticTypes := #[]
  resolved := Array.replicate 8 none
  statics := none }

def pool7 : Array CpInfo := pool [(1, u "java/io/Serializable"), (0, .class_ 1), (0, u "java/lang/Object"), (0, .class_ 3)] 3

/-- java/io/Serializable -/
def k7 : Class := { plain "java/io/Serializable" (some 0) with
  accessFlags := 1537
  interfaces := #[]
  cf := some (fileOf pool7 2 #[] #[] 1537 4 #[] #[])
  fields := #[]
  methods := #[]
  instanceTypes := #[]
  staticTypes := #[]
  resolved := Array.replicate 8 none
  statics := none }

/-- the primitive byte -/
def k8 : Class := { plain "byte" none with kind := .primitive 'B', accessFlags := 0x411 }
/-- [B -/
def k9 : Class := { plain "[B" (some 0) with kind := .array 8 .byte, interfaces := #[6, 7], accessFlags := 1041 }

/-- the primitive int -/
def k10 : Class := { plain "int" none with kind := .primitive 'I', accessFlags := 0x411 }
/-- [I -/
def k11 : Class := { plain "[I" (some 0) with kind := .array 10 .int, interfaces := #[6, 7], accessFlags := 1041 }

/-- the primitive long -/
def k12 : Class := { plain "long" none with kind := .primitive 'J', accessFlags := 0x411 }
/-- [J -/
def k13 : Class := { plain "[J" (some 0) with kind := .array 12 .long, interfaces := #[6, 7], accessFlags := 1041 }

def heap : Heap := #[]
def classes : Array Class := #[k0, k1, k2, k3, k4, k5, k6, k7, k8, k9, k10, k11, k12, k13]
def interned : List (Array UInt16 × Addr) := []
def slotsUsed : Nat := 0
def theMethod : MethodId := ⟨1, 1⟩
def args0 : Array Value := #[.long 5, .long 6, .long 7, .long 8, .long 9, .long 10]
def aboutOver (below : List Frame) : State where
  vm := { classes := classes, interned := interned.toArray }
  heap := heap
  slotsUsed := slotsUsed
  threads := #[{ frames := .invoking theMethod args0 :: below }]
def below0 : List Frame := [.native { method := ⟨0, 0⟩, args := #[] }]
def about1 : State := aboutOver below0
def p0 : Program := .bare "" "" ""
def e0 : Env := launch0.env 0 0 0
theorem w_frames : about1.frames = Frame.invoking theMethod args0 :: below0 := rfl
set_option maxRecDepth 65536 in
theorem w_args : argsFit about1.vm theMethod args0 = true := by decide +kernel
set_option maxRecDepth 65536 in
theorem w_heap : heapFits about1 = true := by decide +kernel
set_option maxRecDepth 65536 in
theorem w_runnable : about1.curStatus? = some .runnable := by decide +kernel
set_option maxRecDepth 65536 in
theorem w_alone : about1.alone = true := by decide +kernel
set_option maxRecDepth 65536 in
theorem w_named : about1.methodNamed? x = some theMethod := by decide +kernel
set_option maxRecDepth 65536 in
theorem w_hears : about1.hears theMethod below0 = true := by decide +kernel
set_option maxRecDepth 65536 in
theorem w_ripe : about1.ripe theMethod args0 below0 = true := by decide +kernel
theorem w_running : about1.status = .running := rfl
set_option maxRecDepth 65536 in
theorem w_room : about1.hasRoom e0.platform room_1 = true :=
  launch0.hasRoom_least _ room_1 (by decide +kernel) (by decide +kernel) (by decide +kernel) (by decide +kernel) (by decide +kernel) (by decide +kernel)
theorem allAtoms_all (ts : List Jvm.Cond) (a : Array Jvm.Value) (st : Jvm.State) : (allAtoms ts).before a st = ts.all (fun c => c.before a st) := by
  induction ts with
  | nil => rfl
  | cons c t ih =>
    show (Jvm.Cond.and c (allAtoms t)).before a st = _
    rw [Jvm.Cond.before_and, ih, List.all_cons]
def words1 : List Jvm.Cond := Jvm.Cond.code x code maxLocals ret :: tables_1
/-- a 'code' word, met by the world's own term for the bytes: nothing is compared byte by byte -/
theorem code_word {y : MethodName} {bytes : ByteArray} {mx : Nat} {rt : Option FieldType} {a : Array Value} {s : State} {m : MethodId} {meth : Method} {c : Code} (h1 : s.methodNamed? y = some m) (h2 : s.vm.method? m = some meth) (h3 : meth.code = some c) (h4 : c.code = bytes)
    (h5 : (c.maxLocals == mx && c.exceptionTable.isEmpty && decide (c.maxStack ≤ mostOperands) && decide (meth.sig.returnType = rt) && !meth.locks && decide (parseMethodDescriptor y.desc = some meth.sig)) = true) : (Jvm.Cond.code y bytes mx rt).before a s = true := by
  simp only [Bool.and_eq_true, beq_iff_eq, Bool.not_eq_true', decide_eq_true_eq] at h5
  obtain ⟨⟨⟨⟨⟨g1, g2⟩, g3⟩, g4⟩, g5⟩, g6⟩ := h5
  simp [Cond.before, Cond.holds, Cond.value, h1, h2, h3, h4, g1, g2, g3, g4, g5, g6]
def isCode : Jvm.Cond → Bool
  | .code _ _ _ _ => true
  | _ => false
theorem all_split {L : List Jvm.Cond} {P : Jvm.Cond → Bool} (h1 : L.all (fun c => isCode c || P c) = true) (h2 : ∀ c ∈ L.filter isCode, P c = true) : L.all P = true := by
  refine List.all_eq_true.mpr fun c hc => ?_
  have h := List.all_eq_true.mp h1 c hc
  rcases Bool.eq_false_or_eq_true (isCode c) with hi | hi
  · exact h2 c (List.mem_filter.mpr ⟨hc, hi⟩)
  · simpa [hi] using h
set_option maxRecDepth 65536 in
theorem w_c0 : (Jvm.Cond.code x code maxLocals ret).before args0 about1 = true := code_word (m := ⟨1, 1⟩) (meth := k1m1) (c := k1c1) (by decide +kernel) rfl rfl rfl (by decide +kernel)
set_option maxRecDepth 65536 in
theorem w_c1 : (Jvm.Cond.code ({ cls := "com/example/ken2/ken2/RememberedSteps", name := "<init>", desc := "(I)V" } : Jvm.MethodName) prog_109_method_1_code (2 : Nat) (Option.none : Option Jvm.ClassFile.FieldType)).before args0 about1 = true := code_word (m := ⟨2, 0⟩) (meth := k2m0) (c := k2c0) (by decide +kernel) rfl rfl rfl (by decide +kernel)
set_option maxRecDepth 65536 in
theorem w_c2 : (Jvm.Cond.code ({ cls := "java/lang/Object", name := "<init>", desc := "()V" } : Jvm.MethodName) object_method_1_code (1 : Nat) (Option.none : Option Jvm.ClassFile.FieldType)).before args0 about1 = true := code_word (m := ⟨0, 0⟩) (meth := k0m0) (c := k0c0) (by decide +kernel) rfl rfl rfl (by decide +kernel)
set_option maxRecDepth 65536 in
theorem w_c3 : (Jvm.Cond.code ({ cls := "com/example/ken2/ken2/TupleTable", name := "<init>", desc := "(I)V" } : Jvm.MethodName) prog_120_method_1_code (2 : Nat) (Option.none : Option Jvm.ClassFile.FieldType)).before args0 about1 = true := code_word (m := ⟨3, 0⟩) (meth := k3m0) (c := k3c0) (by decide +kernel) rfl rfl rfl (by decide +kernel)
set_option maxRecDepth 65536 in
theorem w_c4 : (Jvm.Cond.code ({ cls := "com/example/ken2/ken2/TupleTable", name := "<init>", desc := "(II)V" } : Jvm.MethodName) prog_120_method_2_code (3 : Nat) (Option.none : Option Jvm.ClassFile.FieldType)).before args0 about1 = true := code_word (m := ⟨3, 1⟩) (meth := k3m1) (c := k3c1) (by decide +kernel) rfl rfl rfl (by decide +kernel)
set_option maxRecDepth 65536 in
theorem w_c5 : (Jvm.Cond.code ({ cls := "java/lang/Math", name := "min", desc := "(II)I" } : Jvm.MethodName) jdk_29_method_69_code (2 : Nat) (Option.some Jvm.ClassFile.FieldType.int)).before args0 about1 = true := code_word (m := ⟨4, 1⟩) (meth := k4m1) (c := k4c1) (by decide +kernel) rfl rfl rfl (by decide +kernel)
set_option maxRecDepth 65536 in
theorem w_c6 : (Jvm.Cond.code ({ cls := "com/example/ken2/ken2/RememberedSteps", name := "open", desc := "([J)V" } : Jvm.MethodName) prog_109_method_4_code (3 : Nat) (Option.none : Option Jvm.ClassFile.FieldType)).before args0 about1 = true := code_word (m := ⟨2, 1⟩) (meth := k2m1) (c := k2c1) (by decide +kernel) rfl rfl rfl (by decide +kernel)
set_option maxRecDepth 65536 in
theorem w_c7 : (Jvm.Cond.code ({ cls := "com/example/ken2/ken2/TupleTable", name := "intern", desc := "([J)I" } : Jvm.MethodName) prog_120_method_4_code (2 : Nat) (Option.some Jvm.ClassFile.FieldType.int)).before args0 about1 = true := code_word (m := ⟨3, 3⟩) (meth := k3m3) (c := k3c3) (by decide +kernel) rfl rfl rfl (by decide +kernel)
set_option maxRecDepth 65536 in
theorem w_c8 : (Jvm.Cond.code ({ cls := "com/example/ken2/ken2/TupleTable", name := "intern", desc := "([JI)I" } : Jvm.MethodName) prog_120_method_5_code (6 : Nat) (Option.some Jvm.ClassFile.FieldType.int)).before args0 about1 = true := code_word (m := ⟨3, 4⟩) (meth := k3m4) (c := k3c4) (by decide +kernel) rfl rfl rfl (by decide +kernel)
set_option maxRecDepth 65536 in
theorem w_c9 : (Jvm.Cond.code ({ cls := "com/example/ken2/ken2/TupleTable", name := "hash", desc := "([JI)I" } : Jvm.MethodName) prog_120_method_11_code (6 : Nat) (Option.some Jvm.ClassFile.FieldType.int)).before args0 about1 = true := code_word (m := ⟨3, 6⟩) (meth := k3m6) (c := k3c6) (by decide +kernel) rfl rfl rfl (by decide +kernel)
set_option maxRecDepth 65536 in
theorem w_c10 : (Jvm.Cond.code ({ cls := "com/example/ken2/ken2/TupleTable", name := "slotOf", desc := "([JII)I" } : Jvm.MethodName) prog_120_method_7_code (7 : Nat) (Option.some Jvm.ClassFile.FieldType.int)).before args0 about1 = true := code_word (m := ⟨3, 5⟩) (meth := k3m5) (c := k3c5) (by decide +kernel) rfl rfl rfl (by decide +kernel)
set_option maxRecDepth 65536 in
theorem w_c11 : (Jvm.Cond.code ({ cls := "com/example/ken2/ken2/TupleTable", name := "slot", desc := "(II)J" } : Jvm.MethodName) prog_120_method_12_code (2 : Nat) (Option.some Jvm.ClassFile.FieldType.long)).before args0 about1 = true := code_word (m := ⟨3, 7⟩) (meth := k3m7) (c := k3c7) (by decide +kernel) rfl rfl rfl (by decide +kernel)
set_option maxRecDepth 65536 in
theorem w_c12 : (Jvm.Cond.code ({ cls := "com/example/ken2/ken2/RememberedSteps", name := "add", desc := "([J[J)V" } : Jvm.MethodName) prog_109_method_5_code (5 : Nat) (Option.none : Option Jvm.ClassFile.FieldType)).before args0 about1 = true := code_word (m := ⟨2, 2⟩) (meth := k2m2) (c := k2c2) (by decide +kernel) rfl rfl rfl (by decide +kernel)
set_option maxRecDepth 65536 in
theorem w_c13 : (Jvm.Cond.code ({ cls := "com/example/ken2/ken2/TupleTable", name := "size", desc := "()I" } : Jvm.MethodName) prog_120_method_3_code (1 : Nat) (Option.some Jvm.ClassFile.FieldType.int)).before args0 about1 = true := code_word (m := ⟨3, 2⟩) (meth := k3m2) (c := k3c2) (by decide +kernel) rfl rfl rfl (by decide +kernel)
set_option maxRecDepth 65536 in
theorem w_c14 : (Jvm.Cond.code ({ cls := "com/example/ken2/ken2/RememberedSteps", name := "take", desc := "(I[J[J)V" } : Jvm.MethodName) prog_109_method_8_code (6 : Nat) (Option.none : Option Jvm.ClassFile.FieldType)).before args0 about1 = true := code_word (m := ⟨2, 3⟩) (meth := k2m3) (c := k2c3) (by decide +kernel) rfl rfl rfl (by decide +kernel)
set_option maxRecDepth 65536 in
theorem w_c15 : (Jvm.Cond.code ({ cls := "com/example/ken2/ken2/RememberedStepsTakePinLaw", name := "agrees", desc := "(JJJJ)Z" } : Jvm.MethodName) method_3_code (8 : Nat) (Option.some Jvm.ClassFile.FieldType.boolean)).before args0 about1 = true := code_word (m := ⟨1, 2⟩) (meth := k1m2) (c := k1c2) (by decide +kernel) rfl rfl rfl (by decide +kernel)
def codes1 : List Jvm.Cond := [Jvm.Cond.code x code maxLocals ret, Jvm.Cond.code ({ cls := "com/example/ken2/ken2/RememberedSteps", name := "<init>", desc := "(I)V" } : Jvm.MethodName) prog_109_method_1_code (2 : Nat) (Option.none : Option Jvm.ClassFile.FieldType), Jvm.Cond.code ({ cls := "java/lang/Object", name := "<init>", desc := "()V" } : Jvm.MethodName) object_method_1_code (1 : Nat) (Option.none : Option Jvm.ClassFile.FieldType), Jvm.Cond.code ({ cls := "com/example/ken2/ken2/TupleTable", name := "<init>", desc := "(I)V" } : Jvm.MethodName) prog_120_method_1_code (2 : Nat) (Option.none : Option Jvm.ClassFile.FieldType), Jvm.Cond.code ({ cls := "com/example/ken2/ken2/TupleTable", name := "<init>", desc := "(II)V" } : Jvm.MethodName) prog_120_method_2_code (3 : Nat) (Option.none : Option Jvm.ClassFile.FieldType), Jvm.Cond.code ({ cls := "java/lang/Math", name := "min", desc := "(II)I" } : Jvm.MethodName) jdk_29_method_69_code (2 : Nat) (Option.some Jvm.ClassFile.FieldType.int), Jvm.Cond.code ({ cls := "com/example/ken2/ken2/RememberedSteps", name := "open", desc := "([J)V" } : Jvm.MethodName) prog_109_method_4_code (3 : Nat) (Option.none : Option Jvm.ClassFile.FieldType), Jvm.Cond.code ({ cls := "com/example/ken2/ken2/TupleTable", name := "intern", desc := "([J)I" } : Jvm.MethodName) prog_120_method_4_code (2 : Nat) (Option.some Jvm.ClassFile.FieldType.int), Jvm.Cond.code ({ cls := "com/example/ken2/ken2/TupleTable", name := "intern", desc := "([JI)I" } : Jvm.MethodName) prog_120_method_5_code (6 : Nat) (Option.some Jvm.ClassFile.FieldType.int), Jvm.Cond.code ({ cls := "com/example/ken2/ken2/TupleTable", name := "hash", desc := "([JI)I" } : Jvm.MethodName) prog_120_method_11_code (6 : Nat) (Option.some Jvm.ClassFile.FieldType.int), Jvm.Cond.code ({ cls := "com/example/ken2/ken2/TupleTable", name := "slotOf", desc := "([JII)I" } : Jvm.MethodName) prog_120_method_7_code (7 : Nat) (Option.some Jvm.ClassFile.FieldType.int), Jvm.Cond.code ({ cls := "com/example/ken2/ken2/TupleTable", name := "slot", desc := "(II)J" } : Jvm.MethodName) prog_120_method_12_code (2 : Nat) (Option.some Jvm.ClassFile.FieldType.long), Jvm.Cond.code ({ cls := "com/example/ken2/ken2/RememberedSteps", name := "add", desc := "([J[J)V" } : Jvm.MethodName) prog_109_method_5_code (5 : Nat) (Option.none : Option Jvm.ClassFile.FieldType), Jvm.Cond.code ({ cls := "com/example/ken2/ken2/TupleTable", name := "size", desc := "()I" } : Jvm.MethodName) prog_120_method_3_code (1 : Nat) (Option.some Jvm.ClassFile.FieldType.int), Jvm.Cond.code ({ cls := "com/example/ken2/ken2/RememberedSteps", name := "take", desc := "(I[J[J)V" } : Jvm.MethodName) prog_109_method_8_code (6 : Nat) (Option.none : Option Jvm.ClassFile.FieldType), Jvm.Cond.code ({ cls := "com/example/ken2/ken2/RememberedStepsTakePinLaw", name := "agrees", desc := "(JJJJ)Z" } : Jvm.MethodName) method_3_code (8 : Nat) (Option.some Jvm.ClassFile.FieldType.boolean)]
set_option maxRecDepth 65536 in
theorem codes_eq : words1.filter isCode = codes1 := rfl
theorem w_codes : ∀ c ∈ words1.filter isCode, c.before args0 about1 = true := by
  rw [codes_eq]
  intro c hc
  simp only [codes1, List.mem_cons, List.not_mem_nil, or_false] at hc
  rcases hc with rfl | rfl | rfl | rfl | rfl | rfl | rfl | rfl | rfl | rfl | rfl | rfl | rfl | rfl | rfl | rfl
  · exact w_c0
  · exact w_c1
  · exact w_c2
  · exact w_c3
  · exact w_c4
  · exact w_c5
  · exact w_c6
  · exact w_c7
  · exact w_c8
  · exact w_c9
  · exact w_c10
  · exact w_c11
  · exact w_c12
  · exact w_c13
  · exact w_c14
  · exact w_c15
set_option maxRecDepth 65536 in
theorem w_t1 : (words1.take 24).all (fun c => isCode c || c.before args0 about1) = true := by decide +kernel
set_option maxRecDepth 65536 in
theorem w_t2 : ((words1.drop 24).take 24).all (fun c => isCode c || c.before args0 about1) = true := by decide +kernel
set_option maxRecDepth 65536 in
theorem w_t3 : (((words1.drop 24).drop 24).take 24).all (fun c => isCode c || c.before args0 about1) = true := by decide +kernel
set_option maxRecDepth 65536 in
theorem w_t4 : ((((words1.drop 24).drop 24).drop 24).take 24).all (fun c => isCode c || c.before args0 about1) = true := by decide +kernel
set_option maxRecDepth 65536 in
theorem w_t5 : ((((words1.drop 24).drop 24).drop 24).drop 24).all (fun c => isCode c || c.before args0 about1) = true := by decide +kernel
theorem w_tables : (allAtoms (Jvm.Cond.code x code maxLocals ret :: tables_1)).before args0 about1 = true := by
  rw [allAtoms_all]
  show words1.all (fun c => c.before args0 about1) = true
  refine all_split ?_ w_codes
  rw [← List.take_append_drop 24 words1, List.all_append, w_t1, ← List.take_append_drop 24 (words1.drop 24), List.all_append, w_t2, ← List.take_append_drop 24 ((words1.drop 24).drop 24), List.all_append, w_t3, ← List.take_append_drop 24 (((words1.drop 24).drop 24).drop 24), List.all_append, w_t4, w_t5]
  rfl
set_option maxRecDepth 65536 in
theorem w_case : (Jvm.Cond.and given_1 narrow_1).before args0 about1 = true := by decide +kernel
theorem w_applies : (headSpec (Jvm.Cond.code x code maxLocals ret :: tables_1) room_1).applies x e0.platform about1 = true :=
  (Spec.applies_iff w_frames).mpr ⟨w_running, w_runnable, w_alone, w_named, w_hears, w_ripe, w_room, w_tables⟩
theorem atStart : AtStart classFile x code maxLocals ret World_1 tables_1 room_1 Calls_1 rest_1 Pre_1 launch0 p0 e0 about1 theMethod args0 below0 :=
  ⟨lists_1, trivial, launch0.admits_env _ _ _, launch0.least_env, fairChoices_fair.cas, fairChoices_fair.clock, w_frames, w_args, w_heap, w_applies, trivial, trivial, w_case⟩
end start1
theorem witness_1 : WitnessClaimed_1 := ⟨start1.p0, start1.e0, start1.about1, start1.theMethod, start1.args0, start1.below0, start1.atStart⟩
end Jvm.Pilot.@@N@@
