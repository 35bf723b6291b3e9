import JvmDerived
import JvmDerived.Pilot.@@N@@Statement
import JvmDerived.Pilot.@@N@@Code
set_option linter.unusedVariables false
set_option linter.unusedSimpArgs false
@@BLOCK:NumsL.lean.txt@@
namespace Jvm.RoadKit
open Sem ClassFile Op Lib Jvm.Stand Jvm.Free Jvm.LawKit
section OwnKit
theorem wm {α : Type} {l : List α} {a : α} (i : Nat) (h : l[i]? = some a) : a ∈ l := List.mem_of_getElem? h
variable {p : Program} {l : Launch} {e : Env} {R : Room} {s : State} {m : MethodId} {args : Array Value} {below : List Frame} {meth : Method} {c : Code} {T T' : State} {locs locs' : List Loc} {k n k' n' : Nat} {Z : State} {a0 : Array Value} {h h' h0 : Heap}
theorem retI (X : Stand p l e R s m args below meth c T locs k n) (hx : p.tables.exec = Jvm.exec) {pc : Nat} {Ls : Array Slot} {z : Int32} {rest : List Value} (hret : meth.sig.returnType = some .int) (hd : decode c.code pc = .ok (.ireturn, 1)) {fs : List Frame}
    (hl : ∀ (f : JFrame) (acts : List Action), f.method = m → f.locked = none → f.entered = [] → (doReturn e (T.setTop f) acts (some (.int z))).1 = T.setFrames fs) : Steps p.tables e below (T.setTop (mkF m pc Ls (.int z :: rest))) (T.setFrames fs) := by
  have hm' : T.vm.method? m = some meth := X.method'
  have hn : narrow .int (.int z) = .int z := rfl
  show Steps p.tables e below (T.setTop { method := m, pc := pc, locals := Ls, stack := _ :: rest, locked := none }) _
  jvm_step X.here [X.here.top, hx, hd, hm', hret, hn]
  first | (intro acts; rw [hl _ acts rfl rfl rfl]) | rw [hl _ _ rfl rfl rfl]
  exact Steps.refl _
/-- how a body may end: the instruction, the method's return type, what lies on the stack, what is handed back -/
def OwnRet (i : Instr) (ret : Option FieldType) (w v : Option Value) : Prop :=
  (i = .ireturn ∧ ∃ z : Int32, ret = some .int ∧ w = some (.int z) ∧ v = some (.int z)) ∨
  (i = .ireturn ∧ ∃ (t : FieldType) (z : Int32), ret = some t ∧ (t = .boolean ∨ t = .byte ∨ t = .char ∨ t = .short) ∧ w = some (.int z) ∧ v = some (.int (nar t z))) ∨
  (i = .lreturn ∧ ret = some .long ∧ ∃ z : Int64, w = some (.long z) ∧ v = some (.long z)) ∨
  (i = .areturn ∧ ∃ (t : FieldType) (u : Value), ret = some t ∧ t.isReference = true ∧ u.isRef = true ∧ narrow t u = u ∧ w = some u ∧ v = some u) ∨
  (i = .return_ ∧ ret = none ∧ w = none ∧ v = none)
/-- from the frame g the body comes to its return and leaves what Q says -/
def OwnFin (_X : Stand p l e R s m args below meth c T locs k n) (ret : Option FieldType) (Q : Option Value → Heap → List Loc → Prop) (K N : Nat) (g : JFrame) : Prop :=
  ∃ (i : Instr) (w v : Option Value) (T' : State) (locs' : List Loc) (k' n' pcr : Nat) (Ls : Array Slot), OwnRet i ret w v ∧ Stand p l e R s m args below meth c T' locs' k' n' ∧ k' ≤ K ∧ n' ≤ N ∧ Q v T'.heap locs' ∧ decode c.code pcr = .ok (i, 1) ∧
    ∀ t, Steps p.tables e below (T'.setTop (mkF m pcr Ls w.toList)) t → Steps p.tables e below (T.setTop g) t
variable {ret : Option FieldType} {Q : Option Value → Heap → List Loc → Prop} {K N : Nat} {g g' : JFrame}
theorem OwnFin.step {X : Stand p l e R s m args below meth c T locs k n} (X' : Stand p l e R s m args below meth c T' locs' k' n') (hs : ∀ t, Steps p.tables e below (T'.setTop g') t → Steps p.tables e below (T.setTop g) t) (hF : OwnFin X' ret Q K N g') : OwnFin X ret Q K N g := by
  obtain ⟨i, w, v, T2, locs2, k2, n2, pcr, Ls, h1, h2, h3, h4, h5, h6, h7⟩ := hF
  exact ⟨i, w, v, T2, locs2, k2, n2, pcr, Ls, h1, h2, h3, h4, h5, h6, fun t k => hs t (h7 t k)⟩
theorem ost (g' : JFrame) {X : Stand p l e R s m args below meth c T locs k n} (X' : Stand p l e R s m args below meth c T' locs' k' n') (hs : ∀ t, Steps p.tables e below (T'.setTop g') t → Steps p.tables e below (T.setTop g) t) (hF : OwnFin X' ret Q K N g') : OwnFin X ret Q K N g := OwnFin.step X' hs hF
theorem OwnFin.retInt (X : Stand p l e R s m args below meth c T locs k n) {pc : Nat} {Ls : Array Slot} {z : Int32} (hd : decode c.code pc = .ok (.ireturn, 1)) (hk : k ≤ K) (hn : n ≤ N) (hQ : Q (some (.int z)) T.heap locs) : OwnFin X (some .int) Q K N (mkF m pc Ls [.int z]) :=
  ⟨.ireturn, some (.int z), _, T, locs, k, n, pc, Ls, Or.inl ⟨rfl, z, rfl, rfl, rfl⟩, X, hk, hn, hQ, hd, fun _ k => k⟩
theorem OwnFin.retNar (X : Stand p l e R s m args below meth c T locs k n) {t : FieldType} (ht : t = .boolean ∨ t = .byte ∨ t = .char ∨ t = .short) {pc : Nat} {Ls : Array Slot} {z : Int32} (hd : decode c.code pc = .ok (.ireturn, 1)) (hk : k ≤ K) (hn : n ≤ N) (hQ : Q (some (.int (nar t z))) T.heap locs) : OwnFin X (some t) Q K N (mkF m pc Ls [.int z]) :=
  ⟨.ireturn, some (.int z), _, T, locs, k, n, pc, Ls, Or.inr (Or.inl ⟨rfl, t, z, rfl, ht, rfl, rfl⟩), X, hk, hn, hQ, hd, fun _ k => k⟩
theorem OwnFin.retLong (X : Stand p l e R s m args below meth c T locs k n) {pc : Nat} {Ls : Array Slot} {z : Int64} (hd : decode c.code pc = .ok (.lreturn, 1)) (hk : k ≤ K) (hn : n ≤ N) (hQ : Q (some (.long z)) T.heap locs) : OwnFin X (some .long) Q K N (mkF m pc Ls [.long z]) :=
  ⟨.lreturn, some (.long z), _, T, locs, k, n, pc, Ls, Or.inr (Or.inr (Or.inl ⟨rfl, rfl, z, rfl, rfl⟩)), X, hk, hn, hQ, hd, fun _ k => k⟩
theorem OwnFin.retRef (X : Stand p l e R s m args below meth c T locs k n) {t : FieldType} {u : Value} (ht : t.isReference = true) (hu : u.isRef = true) (hnw : narrow t u = u) {pc : Nat} {Ls : Array Slot} (hd : decode c.code pc = .ok (.areturn, 1)) (hk : k ≤ K) (hn : n ≤ N) (hQ : Q (some u) T.heap locs) : OwnFin X (some t) Q K N (mkF m pc Ls [u]) :=
  ⟨.areturn, some u, _, T, locs, k, n, pc, Ls, Or.inr (Or.inr (Or.inr (Or.inl ⟨rfl, t, u, rfl, ht, hu, hnw, rfl, rfl⟩))), X, hk, hn, hQ, hd, fun _ k => k⟩
theorem OwnFin.retVoid (X : Stand p l e R s m args below meth c T locs k n) {pc : Nat} {Ls : Array Slot} (hd : decode c.code pc = .ok (.return_, 1)) (hk : k ≤ K) (hn : n ≤ N) (hQ : Q none T.heap locs) : OwnFin X none Q K N (mkF m pc Ls []) :=
  ⟨.return_, none, _, T, locs, k, n, pc, Ls, Or.inr (Or.inr (Or.inr (Or.inr ⟨rfl, rfl, rfl, rfl⟩))), X, hk, hn, hQ, hd, fun _ k => k⟩
theorem own_met {y : MethodName} {bytes : ByteArray} {maxL : Nat} {rm : Room} {ws : List Jvm.Cond} {as' : Array Value} {Ls : Array Slot} (hpf : plainFor y = true) (hent : ∀ m, entryFrame m as' maxL = mkF m 0 Ls [])
    (H : ∀ p e s m below meth c s₁ (X : Stand p l e rm s m as' below meth c s₁ [] 0 0), p.tables.exec = Jvm.exec → c.code = bytes → c.maxLocals = maxL → s.vm.findClass y.cls = some m.cls → meth.name = y.name → Z.Warmed39 s.vm → s₁.heap = h0 → OwnFin X ret Q rm.cells rm.slots (mkF m 0 Ls [])) :
    MetFree l y (head1 (Jvm.Cond.code y bytes maxL ret :: ws) rm) (fun a U => a = as' ∧ Z.Warmed39 U.vm ∧ U.heap = h0) (fun _ _ _ _ _ => True) (fun _ U o U' => ∃ v L, o = .returned v ∧ Q v U'.heap L ∧ FrameEnd U o U' L rm.cells rm.slots) := by
  refine MetFree.of_bodySF hpf hisR ?_
  intro p e s m args below meth c s₁ Bd hml0 hP hK
  obtain ⟨rfl, hZ, hh⟩ := hP
  have hx := Bd.exec
  have hby := Bd.bytes
  have hown : s.vm.findClass y.cls = some m.cls := findClass_of_methodNamed Bd.named
  have hnm := (name_of_methodNamed Bd.named Bd.method).1
  have X0 : Stand p l e rm s m args below meth c s₁ [] 0 0 := Stand.of_body Bd
  have e0 : s₁.heap = h0 := by rw [← hh, Bd.state]; rfl
  obtain ⟨i, w, v, T2, locs2, k2, n2, pcr, Ls2, h1, X2, h3, h4, h5, h6, h7⟩ := H p e s m below meth c s₁ X0 hx hby hml0 hown hnm hZ e0
  have hret := Bd.returns
  have hv : meth.sig.returnType = none → v = none := by
    intro q
    rw [hret] at q
    rcases h1 with ⟨-, z, hr, -⟩ | ⟨-, t, z, hr, -⟩ | ⟨-, hr, -⟩ | ⟨-, t, u, hr, -⟩ | ⟨-, -, -, hr⟩
    · rw [hr] at q; cases q
    · rw [hr] at q; cases q
    · rw [hr] at q; cases q
    · rw [hr] at q; cases q
    · exact hr
  obtain ⟨fs, hr, hrun, hended, hW, hsame⟩ := X2.leave (v := v) hv
  refine ⟨_, _, ?_, hrun, hended, _, _, rfl, h5, ⟨_, rfl⟩, hW, hsame.mono h3 h4⟩
  rw [hent]
  apply h7
  rcases h1 with ⟨rfl, z, rfl, rfl, rfl⟩ | ⟨rfl, t, z, rfl, ht, rfl, rfl⟩ | ⟨rfl, rfl, z, rfl, rfl⟩ | ⟨rfl, t, u, rfl, ht, hu, hnw, rfl, rfl⟩ | ⟨rfl, rfl, rfl, rfl⟩
  · exact retI X2 hx hret h6 hr
  · exact retN X2 hx hret ht h6 hr
  · exact retOut X2 hx hret rfl (Or.inr (Or.inl ⟨rfl, rfl, z, rfl⟩)) h6 hr
  · exact retOut X2 hx hret hnw (Or.inr (Or.inr (Or.inr (Or.inr ⟨rfl, ht, hu⟩)))) h6 hr
  · exact X2.returnOut hx hret h6 hr
theorem OwnFin.wide {X : Stand p l e R s m args below meth c T locs k n} {K' N' : Nat} (F : OwnFin X ret Q K N g) (h1 : K ≤ K') (h2 : N ≤ N') : OwnFin X ret Q K' N' g := by
  obtain ⟨i, w, v, T2, locs2, k2, n2, pcr, Ls, q1, q2, q3, q4, q5, q6, q7⟩ := F
  exact ⟨i, w, v, T2, locs2, k2, n2, pcr, Ls, q1, q2, Nat.le_trans q3 h1, Nat.le_trans q4 h2, q5, q6, q7⟩
/-- a callee that leaves the heap alone: what it hands back -/
def PQ (w : Option Value) (h0 : Heap) (n0 : Nat) : Option Value → Heap → List Loc → Prop := fun v h L => v = w ∧ h = h0 ∧ Fr n0 L
def LQ (n0 : Nat) : Option Value → Heap → List Loc → Prop := fun v _ L => v = some (.int 1) ∧ Fr n0 L
theorem own_callS (X : Stand p l e R s m args below meth c T locs k n) (hx : p.tables.exec = Jvm.exec) (hZ : Z.Warmed39 s.vm) {own : String} {index : Nat} {y : MethodName} {bytes : ByteArray} {maxL W : Nat} {rt : Option FieldType} {rm : Room} {argsL rest : List Value} {ps : List FieldType} {r : Option FieldType} {Qc : Option Value → Heap → List Loc → Prop}
    (hown : s.vm.findClass own = some m.cls) (w1 : (Jvm.Cond.methodLink own index y).before a0 Z = true) (w2 : (Jvm.Cond.static y).before a0 Z = true) (w3 : (Jvm.Cond.initialized y.cls).before a0 Z = true) (w4 : (Jvm.Cond.code y bytes maxL rt).before a0 Z = true) (hy : y.cls ≠ "java/lang/invoke/MethodHandle" ∧ y.cls ≠ "java/lang/invoke/VarHandle")
    (hM : MetFree l y (head1 [Jvm.Cond.code y bytes maxL rt] rm) (fun a U => a = argsL.toArray ∧ Z.Warmed39 U.vm ∧ U.heap = h) (fun _ _ _ _ _ => True) (fun _ U o U' => ∃ v L, o = .returned v ∧ Qc v U'.heap L ∧ FrameEnd U o U' L rm.cells rm.slots))
    (hf : rm.frames + 1 ≤ R.frames) (hl : W + (maxL + 11) + rm.locals ≤ R.locals) (hc : k + rm.cells ≤ R.cells) (hs : n + rm.slots ≤ R.slots) (eT : T.heap = h)
    (hg : g.method = m) (hsize : g.locals.size = c.maxLocals) (hd : parseMethodDescriptor y.desc = some ⟨ps, r⟩) (hlen : argsL.length = ps.length) (hstack : g.stack = argsL.reverse ++ rest) (hW : 2 * g.monitorRoom + (rest.map fun v => v.category).sum ≤ W) (hdg : decode c.code g.pc = .ok (.invokestatic index, 3)) :
    ∃ v T' L, Stand p l e R s m args below meth c T' (locs ++ L) (k + rm.cells) (n + rm.slots) ∧ Qc v T'.heap L ∧ ∀ t, Steps p.tables e below (T'.setTop { g with pc := g.pc + 3, stack := v.toList ++ rest }) t → Steps p.tables e below (T.setTop g) t := by
  obtain ⟨v, vm1, ⟨T', L', k', n'⟩, -, X', ⟨Lc, hQ, l1, y1, z1⟩, st⟩ := Jvm.LawKit.callS X hx (y := y) hown (mvT hZ w1) (mvT hZ w2) (mvT hZ w3) (mvT hZ w4) hy (backOf (W := W) hM hZ w4 w3 hf hl) hg hsize (argsL := argsL) (rest := rest) (lenOf hd hlen) hstack hW hdg (fun _ _ => ⟨rfl, eT, hc, hs⟩)
  dsimp only [Pt.U, Pt.locs, Pt.cells, Pt.slots] at X' l1 y1 z1 st hQ
  subst l1 y1 z1
  exact ⟨v, T', Lc, X', hQ, st⟩
theorem own_callI (X : Stand p l e R s m args below meth c T locs k n) (hx : p.tables.exec = Jvm.exec) (hZ : Z.Warmed39 s.vm) {own : String} {index : Nat} {y : MethodName} {bytes : ByteArray} {maxL W : Nat} {rm : Room} {a : Addr} {argsL rest : List Value} {ps : List FieldType} {r : Option FieldType} {Qc : Option Value → Heap → List Loc → Prop}
    (hy1 : y.name = "<init>") (hown : s.vm.findClass own = some m.cls) (w1 : (Jvm.Cond.methodLink own index y).before a0 Z = true) (w2 : (Jvm.Cond.instanceMethod y).before a0 Z = true) (w3 : (Jvm.Cond.initialized y.cls).before a0 Z = true) (w4 : (Jvm.Cond.code y bytes maxL none).before a0 Z = true) (hy : y.cls ≠ "java/lang/invoke/MethodHandle" ∧ y.cls ≠ "java/lang/invoke/VarHandle")
    (hM : MetFree l y (head1 [Jvm.Cond.code y bytes maxL none] rm) (fun a' U => a' = (Value.ref a :: argsL).toArray ∧ Z.Warmed39 U.vm ∧ U.heap = h) (fun _ _ _ _ _ => True) (fun _ U o U' => ∃ v L, o = .returned v ∧ Qc v U'.heap L ∧ FrameEnd U o U' L rm.cells rm.slots))
    (hf : rm.frames + 1 ≤ R.frames) (hl : W + (maxL + 11) + rm.locals ≤ R.locals) (hc : k + rm.cells ≤ R.cells) (hs : n + rm.slots ≤ R.slots) (eT : T.heap = h)
    (hg : g.method = m) (hsize : g.locals.size = c.maxLocals) (hd : parseMethodDescriptor y.desc = some ⟨ps, r⟩) (hlen : argsL.length = ps.length) (hstack : g.stack = argsL.reverse ++ .ref a :: rest) (hW : 2 * g.monitorRoom + (rest.map fun v => v.category).sum ≤ W) (hdg : decode c.code g.pc = .ok (.invokespecial index, 3)) :
    ∃ v T' L, Stand p l e R s m args below meth c T' (locs ++ L) (k + rm.cells) (n + rm.slots) ∧ Qc v T'.heap L ∧ ∀ t, Steps p.tables e below (T'.setTop { g with pc := g.pc + 3, stack := v.toList ++ rest }) t → Steps p.tables e below (T.setTop g) t := by
  obtain ⟨v, vm1, ⟨T', L', k', n'⟩, -, X', ⟨Lc, hQ, l1, y1, z1⟩, st⟩ := X.specialBack hx (y := y) hy1 hown (mvT hZ w1) (mvT hZ w2) (mvT hZ w4) hy (backOf (W := W) hM hZ w4 w3 hf hl) hg hsize (Steps.refl _) (a := a) (argsL := argsL) (rest := rest) (lenOf hd hlen) hstack hW hdg (fun _ _ => ⟨rfl, eT, hc, hs⟩)
  dsimp only [Pt.U, Pt.locs, Pt.cells, Pt.slots] at X' l1 y1 z1 st hQ
  subst l1 y1 z1
  exact ⟨v, T', Lc, X', hQ, fun t k => st.trans k⟩
theorem own_callV (X : Stand p l e R s m args below meth c T locs k n) (hx : p.tables.exec = Jvm.exec) (hZ : Z.Warmed39 s.vm) {own C : String} {index : Nat} {y : MethodName} {bytes : ByteArray} {maxL W : Nat} {rt : Option FieldType} {rm : Room} {a : Addr} {argsL rest : List Value} {ps : List FieldType} {r : Option FieldType} {Qc : Option Value → Heap → List Loc → Prop}
    (hown : s.vm.findClass own = some m.cls) (w1 : (Jvm.Cond.methodLink own index y).before a0 Z = true) (w2 : (Jvm.Cond.declares y).before a0 Z = true) (w5 : (Jvm.Cond.selects C y y).before a0 Z = true) (w6 : (Jvm.Cond.instanceMethod y).before a0 Z = true) (w3 : (Jvm.Cond.initialized y.cls).before a0 Z = true) (w4 : (Jvm.Cond.code y bytes maxL rt).before a0 Z = true) (hy : y.cls ≠ "java/lang/invoke/MethodHandle" ∧ y.cls ≠ "java/lang/invoke/VarHandle")
    (E : Exa Z h a C)
    (hM : MetFree l y (head1 [Jvm.Cond.code y bytes maxL rt] rm) (fun a' U => a' = (Value.ref a :: argsL).toArray ∧ Z.Warmed39 U.vm ∧ U.heap = h) (fun _ _ _ _ _ => True) (fun _ U o U' => ∃ v L, o = .returned v ∧ Qc v U'.heap L ∧ FrameEnd U o U' L rm.cells rm.slots))
    (hf : rm.frames + 1 ≤ R.frames) (hl : W + (maxL + 11) + rm.locals ≤ R.locals) (hc : k + rm.cells ≤ R.cells) (hs : n + rm.slots ≤ R.slots) (eT : T.heap = h)
    (hg : g.method = m) (hsize : g.locals.size = c.maxLocals) (hd : parseMethodDescriptor y.desc = some ⟨ps, r⟩) (hlen : argsL.length = ps.length) (hstack : g.stack = argsL.reverse ++ .ref a :: rest) (hW : 2 * g.monitorRoom + (rest.map fun v => v.category).sum ≤ W) (hdg : decode c.code g.pc = .ok (.invokevirtual index, 3)) :
    ∃ v T' L, Stand p l e R s m args below meth c T' (locs ++ L) (k + rm.cells) (n + rm.slots) ∧ Qc v T'.heap L ∧ ∀ t, Steps p.tables e below (T'.setTop { g with pc := g.pc + 3, stack := v.toList ++ rest }) t → Steps p.tables e below (T.setTop g) t := by
  obtain ⟨cq, kq, q1, q2, q3⟩ := isOf hZ eT E
  obtain ⟨v, vm1, ⟨T', L', k', n'⟩, -, X', ⟨Lc, hQ, l1, y1, z1⟩, st⟩ := X.virtualBack hx (y := y) (z := y) hown (mvT hZ w1) (mvT hZ w2) (notFace_of_selects (args := #[]) (mvT hZ w5)) (mvT hZ w5) (mvT hZ w6) hy (backOf (W := W) hM hZ w4 w3 hf hl) q1 q3 hg hsize (Steps.refl _) (argsL := argsL) (rest := rest) (lenOf hd hlen) hstack hW hdg (fun _ _ => ⟨rfl, eT, hc, hs⟩)
  dsimp only [Pt.U, Pt.locs, Pt.cells, Pt.slots] at X' l1 y1 z1 st hQ
  subst l1 y1 z1
  exact ⟨v, T', Lc, X', hQ, fun t k => st.trans k⟩
theorem lrem_eq_mod (x y : Int64) : x - (x / y) * y = x % y := by
  apply Int64.toInt_inj.mp
  have h1 := Int64.le_toInt (x % y)
  have h2 := Int64.toInt_lt (x % y)
  rw [Int64.toInt_sub, Int64.toInt_mul, Int64.toInt_div, Int.bmod_mul_bmod, Int.sub_bmod_bmod, Int.mul_comm (x.toInt.tdiv y.toInt), ← Int.tmod_def, ← Int64.toInt_mod]
  exact Int.bmod_eq_of_le_mul_two (by omega) (by omega)
theorem own_lrem (X : Stand p l e R s m args below meth c T locs k n) (hx : p.tables.exec = Jvm.exec) (hg : g.method = m) {x y : Int64} {rest : List Value} (hd : decode c.code g.pc = .ok (.lrem, 1)) (hs : g.stack = .long y :: .long x :: rest) (hy : y ≠ 0) {target : State}
    (hr : Steps p.tables e below (T.setTop { g with pc := g.pc + 1, stack := .long (x % y) :: rest }) target) : Steps p.tables e below (T.setTop g) target := by
  exact XT.lrem X.here hx hg hd hs hy (by rw [lrem_eq_mod]; exact hr)
theorem cl_lt (x y : Int64) : XT.cmpL x y < 0 ↔ x < y := by
  unfold XT.cmpL
  split
  · rename_i q; simp only [Int64.lt_iff_toInt_lt] at *; constructor <;> intro w <;> first | (exact absurd w (by decide)) | omega
  · split
    · rename_i q r; subst r; constructor <;> intro w
      · exact absurd w (by decide)
      · exact absurd w q
    · rename_i q r; constructor <;> intro w
      · simp only [Int64.lt_iff_toInt_lt, ← Int64.toInt_inj] at *; omega
      · decide
theorem cl_gt (x y : Int64) : 0 < XT.cmpL x y ↔ y < x := by
  unfold XT.cmpL
  split
  · rename_i q; exact ⟨fun _ => q, fun _ => by decide⟩
  · rename_i q
    constructor
    · intro w; split at w <;> exact absurd w (by decide)
    · intro w; exact absurd w q
theorem cl_eq (x y : Int64) : XT.cmpL x y = 0 ↔ x = y := by
  unfold XT.cmpL
  split
  · rename_i q; constructor
    · intro w; exact absurd w (by decide)
    · intro w; subst w; simp only [Int64.lt_iff_toInt_lt] at q; omega
  · split
    · rename_i r; exact ⟨fun _ => r, fun _ => rfl⟩
    · rename_i r; constructor
      · intro w; exact absurd w (by decide)
      · intro w; exact absurd w r
end OwnKit
end Jvm.RoadKit
namespace Jvm.RoadKit
open Sem ClassFile Op Lib Jvm.Stand Jvm.Free Jvm.LawKit
section OwnHeap
variable {p : Program} {l : Launch} {e : Env} {R : Room} {s : State} {m : MethodId} {args : Array Value} {below : List Frame} {meth : Method} {c : Code} {T T' : State} {locs locs' : List Loc} {k n k' n' : Nat} {Z : State} {a0 : Array Value} {h h' h0 : Heap} {g : JFrame} {a b : Addr} {ws ws' : List Addr} {n0 : Nat}
theorem keep_ext (E : Ext h h') : Keep h h' [] := (Keep.refl h []).ext E
theorem nin1 {x y : Addr} (q : x ≠ y) : x ∉ [y] := ninS q nin0
/-- an array: its length and what each place holds -/
def Ary (Z : State) (h : Heap) (a : Addr) (ty : FieldType) (n : Nat) (f : Nat → Value) : Prop := ∃ c : Cell, Arr Z h a c ty ∧ c.slots.size = n ∧ n < 2 ^ 31 ∧ ∀ i, i < n → c.slots[i]? = some (f i)
def updN {α : Type} (f : Nat → α) (j : Nat) (v : α) : Nat → α := fun i => if i = j then v else f i
theorem updN_same {α : Type} (f : Nat → α) (j : Nat) (v : α) : updN f j v j = v := if_pos rfl
theorem updN_ne {α : Type} (f : Nat → α) {i j : Nat} (v : α) (q : i ≠ j) : updN f j v i = f i := if_neg q
def InB (j : Int32) (n : Nat) : Prop := ¬ j < 0 ∧ j.toNatClampNeg < n
instance (j : Int32) (n : Nat) : Decidable (InB j n) := inferInstanceAs (Decidable (¬ j < 0 ∧ j.toNatClampNeg < n))
variable {ty : FieldType} {len : Nat} {f : Nat → Value}
theorem Ary.lt (F : Ary Z h a ty len f) : a < h.size := by obtain ⟨c, A, -⟩ := F; exact A.lt
theorem Ary.keep (F : Ary Z h a ty len f) (K : Keep h h' ws) (q : a ∉ ws) : Ary Z h' a ty len f := by
  obtain ⟨c, A, r⟩ := F; exact ⟨c, ⟨K.2.1 a c A.1 q, A.2⟩, r⟩
theorem Ary.small (F : Ary Z h a ty len f) : len < 2 ^ 31 := by obtain ⟨c, A, r1, r2, -⟩ := F; exact r2
theorem Ary.congr {f' : Nat → Value} (F : Ary Z h a ty len f) (q : ∀ i, i < len → f i = f' i) : Ary Z h a ty len f' := by
  obtain ⟨c, A, r1, r2, r3⟩ := F; exact ⟨c, A, r1, r2, fun i hi => by rw [← q i hi]; exact r3 i hi⟩
theorem Ary.wr {v : Value} {j : Nat} (F : Ary Z h a ty len f) (W : Wr h h' a j v) (hj : j < len) : Ary Z h' a ty len (updN f j v) := by
  obtain ⟨c, A, r1, r2, r3⟩ := F
  refine ⟨_, A.same W, by rw [sz_set]; exact r1, r2, fun i hi => ?_⟩
  by_cases q : i = j
  · subst q; rw [updN_same]; simp [Cell.setSlot, r1, hi]
  · rw [updN_ne _ _ q]; simp only [Cell.setSlot]; rw [Array.getElem?_setIfInBounds_ne (Ne.symm q)]; exact r3 i hi
theorem not_in {j : Int32} {n : Nat} (q : InB j n) {c : Cell} (r : c.slots.size = n) : ¬ (j < 0 ∨ c.slots.size ≤ j.toNatClampNeg) := by
  rw [r]; obtain ⟨q1, q2⟩ := q; intro z; rcases z with z | z
  · exact q1 z
  · omega
theorem own_len (X : Stand p l e R s m args below meth c T locs k n) (hx : p.tables.exec = Jvm.exec) (hZ : Z.Warmed39 s.vm) (eT : T.heap = h) (A : Ary Z h a ty len f) {rest : List Value} (hg : g.method = m) (hs : g.stack = .ref a :: rest) (hd : decode c.code g.pc = .ok (.arraylength, 1)) (t : State)
    (hr : Steps p.tables e below (T.setTop { g with pc := g.pc + 1, stack := .int len.toInt32 :: rest }) t) : Steps p.tables e below (T.setTop g) t := by
  obtain ⟨cl, A1, r1, r2, r3⟩ := A
  refine X.arraylength hx (by rw [eT]; exact A1.1) (State.isArrayOf_alike hZ.alike A1.2.1) hg hs hd t ?_
  rw [r1]; exact hr
theorem own_ldI (X : Stand p l e R s m args below meth c T locs k n) (hx : p.tables.exec = Jvm.exec) (hZ : Z.Warmed39 s.vm) (eT : T.heap = h) (A : Ary Z h a .int len f) {j : Int32} (hj : InB j len) {v : Value} (hv : f j.toNatClampNeg = v) {rest : List Value} (hg : g.method = m) (hs : g.stack = .int j :: .ref a :: rest) (hd : decode c.code g.pc = .ok (.iaload, 1)) (t : State)
    (hr : Steps p.tables e below (T.setTop { g with pc := g.pc + 1, stack := v :: rest }) t) : Steps p.tables e below (T.setTop g) t := by
  obtain ⟨cl, A1, r1, r2, r3⟩ := A
  exact X.iaload hx (by rw [eT]; exact A1.1) (State.isArrayOf_alike hZ.alike A1.2.1) A1.2.2 (not_in hj r1) (by rw [r3 _ hj.2, hv]) hg hs hd t hr
theorem own_ldJ (X : Stand p l e R s m args below meth c T locs k n) (hx : p.tables.exec = Jvm.exec) (hZ : Z.Warmed39 s.vm) (eT : T.heap = h) (A : Ary Z h a .long len f) {j : Int32} (hj : InB j len) {v : Value} (hv : f j.toNatClampNeg = v) {rest : List Value} (hg : g.method = m) (hs : g.stack = .int j :: .ref a :: rest) (hd : decode c.code g.pc = .ok (.laload, 1)) (t : State)
    (hr : Steps p.tables e below (T.setTop { g with pc := g.pc + 1, stack := v :: rest }) t) : Steps p.tables e below (T.setTop g) t := by
  obtain ⟨cl, A1, r1, r2, r3⟩ := A
  exact X.laload hx (by rw [eT]; exact A1.1) (State.isArrayOf_alike hZ.alike A1.2.1) A1.2.2 (not_in hj r1) (by rw [r3 _ hj.2, hv]) hg hs hd t hr
theorem own_ldC (X : Stand p l e R s m args below meth c T locs k n) (hx : p.tables.exec = Jvm.exec) (hZ : Z.Warmed39 s.vm) (eT : T.heap = h) (A : Ary Z h a .char len f) {j : Int32} (hj : InB j len) {v : Value} (hv : f j.toNatClampNeg = v) {rest : List Value} (hg : g.method = m) (hs : g.stack = .int j :: .ref a :: rest) (hd : decode c.code g.pc = .ok (.caload, 1)) (t : State)
    (hr : Steps p.tables e below (T.setTop { g with pc := g.pc + 1, stack := v :: rest }) t) : Steps p.tables e below (T.setTop g) t := by
  obtain ⟨cl, A1, r1, r2, r3⟩ := A
  exact X.caload hx (by rw [eT]; exact A1.1) (State.isArrayOf_alike hZ.alike A1.2.1) A1.2.2 (not_in hj r1) (by rw [r3 _ hj.2, hv]) hg hs hd t hr
theorem own_ldB (X : Stand p l e R s m args below meth c T locs k n) (hx : p.tables.exec = Jvm.exec) (hZ : Z.Warmed39 s.vm) (eT : T.heap = h) (A : Ary Z h a .byte len f) {j : Int32} (hj : InB j len) {v : Value} (hv : f j.toNatClampNeg = v) {rest : List Value} (hg : g.method = m) (hs : g.stack = .int j :: .ref a :: rest) (hd : decode c.code g.pc = .ok (.baload, 1)) (t : State)
    (hr : Steps p.tables e below (T.setTop { g with pc := g.pc + 1, stack := v :: rest }) t) : Steps p.tables e below (T.setTop g) t := by
  obtain ⟨cl, A1, r1, r2, r3⟩ := A
  exact X.baloadBytes hx (by rw [eT]; exact A1.1) (State.isArrayOf_alike hZ.alike A1.2.1) A1.2.2 (not_in hj r1) (by rw [r3 _ hj.2, hv]) hg hs hd t hr
theorem own_ldA (X : Stand p l e R s m args below meth c T locs k n) (hx : p.tables.exec = Jvm.exec) (hZ : Z.Warmed39 s.vm) (eT : T.heap = h) (A : Ary Z h a ty len f) (hty : ty.isReference = true) {j : Int32} (hj : InB j len) {v : Value} (hv : f j.toNatClampNeg = v) {rest : List Value} (hg : g.method = m) (hs : g.stack = .int j :: .ref a :: rest) (hd : decode c.code g.pc = .ok (.aaload, 1)) (t : State)
    (hr : Steps p.tables e below (T.setTop { g with pc := g.pc + 1, stack := v :: rest }) t) : Steps p.tables e below (T.setTop g) t := by
  obtain ⟨cl, A1, r1, r2, r3⟩ := A
  exact X.aaload hx (by rw [eT]; exact A1.1) (State.isArrayOf_alike hZ.alike A1.2.1) hty A1.2.2 (not_in hj r1) (by rw [r3 _ hj.2, hv]) hg hs hd t hr
theorem own_stI (X : Stand p l e R s m args below meth c T locs k n) (hx : p.tables.exec = Jvm.exec) (hZ : Z.Warmed39 s.vm) (eT : T.heap = h) (N : Fr n0 locs) {G : Nat → Int32} (A : Ary Z h a .int len (fun i => .int (G i))) (ga : n0 ≤ a) {j x : Int32} (hj : InB j len) {rest : List Value} (hg : g.method = m) (hs : g.stack = .int x :: .int j :: .ref a :: rest) (hd : decode c.code g.pc = .ok (.iastore, 1)) :
    ∃ (T' : State) (h' : Heap) (locs' : List Loc), Stand p l e R s m args below meth c T' locs' k n ∧ T'.heap = h' ∧ Fr n0 locs' ∧ Keep h h' [a] ∧ Ary Z h' a .int len (fun i => .int (updN G j.toNatClampNeg x i)) ∧ ∀ t, Steps p.tables e below (T'.setTop { g with pc := g.pc + 1, stack := rest }) t → Steps p.tables e below (T.setTop g) t := by
  obtain ⟨cl, A1, r⟩ := A
  obtain ⟨T', h', X', e', W, st⟩ := stI X hx hZ eT A1 (not_in hj r.1) hg hs hd
  exact ⟨T', h', _, X', e', Fr.snoc X' N ga, Keep.of_wr W, (Ary.wr ⟨cl, A1, r⟩ W hj.2).congr (fun i _ => by unfold updN; split <;> rfl), st⟩
theorem own_stJ (X : Stand p l e R s m args below meth c T locs k n) (hx : p.tables.exec = Jvm.exec) (hZ : Z.Warmed39 s.vm) (eT : T.heap = h) (N : Fr n0 locs) {G : Nat → Int64} (A : Ary Z h a .long len (fun i => .long (G i))) (ga : n0 ≤ a) {j : Int32} {x : Int64} (hj : InB j len) {rest : List Value} (hg : g.method = m) (hs : g.stack = .long x :: .int j :: .ref a :: rest) (hd : decode c.code g.pc = .ok (.lastore, 1)) :
    ∃ (T' : State) (h' : Heap) (locs' : List Loc), Stand p l e R s m args below meth c T' locs' k n ∧ T'.heap = h' ∧ Fr n0 locs' ∧ Keep h h' [a] ∧ Ary Z h' a .long len (fun i => .long (updN G j.toNatClampNeg x i)) ∧ ∀ t, Steps p.tables e below (T'.setTop { g with pc := g.pc + 1, stack := rest }) t → Steps p.tables e below (T.setTop g) t := by
  obtain ⟨cl, A1, r⟩ := A
  obtain ⟨T', h', X', e', W, st⟩ := stJ X hx hZ eT A1 (not_in hj r.1) hg hs hd
  exact ⟨T', h', _, X', e', Fr.snoc X' N ga, Keep.of_wr W, (Ary.wr ⟨cl, A1, r⟩ W hj.2).congr (fun i _ => by unfold updN; split <;> rfl), st⟩
theorem own_stC (X : Stand p l e R s m args below meth c T locs k n) (hx : p.tables.exec = Jvm.exec) (hZ : Z.Warmed39 s.vm) (eT : T.heap = h) (N : Fr n0 locs) {G : Nat → Int32} (A : Ary Z h a .char len (fun i => .int (G i))) (ga : n0 ≤ a) {j x : Int32} (hj : InB j len) {rest : List Value} (hg : g.method = m) (hs : g.stack = .int x :: .int j :: .ref a :: rest) (hd : decode c.code g.pc = .ok (.castore, 1)) :
    ∃ (T' : State) (h' : Heap) (locs' : List Loc), Stand p l e R s m args below meth c T' locs' k n ∧ T'.heap = h' ∧ Fr n0 locs' ∧ Keep h h' [a] ∧ Ary Z h' a .char len (fun i => .int (updN G j.toNatClampNeg (nar .char x) i)) ∧ ∀ t, Steps p.tables e below (T'.setTop { g with pc := g.pc + 1, stack := rest }) t → Steps p.tables e below (T.setTop g) t := by
  obtain ⟨cl, A1, r⟩ := A
  obtain ⟨T', h', X', e', W, st⟩ := stC X hx hZ eT A1 (not_in hj r.1) hg hs hd
  exact ⟨T', h', _, X', e', Fr.snoc X' N ga, Keep.of_wr W, (Ary.wr ⟨cl, A1, r⟩ W hj.2).congr (fun i _ => by unfold updN; split <;> rfl), st⟩
theorem own_stB (X : Stand p l e R s m args below meth c T locs k n) (hx : p.tables.exec = Jvm.exec) (hZ : Z.Warmed39 s.vm) (eT : T.heap = h) (N : Fr n0 locs) {G : Nat → Int32} (A : Ary Z h a .byte len (fun i => .int (G i))) (ga : n0 ≤ a) {j x : Int32} (hj : InB j len) {rest : List Value} (hg : g.method = m) (hs : g.stack = .int x :: .int j :: .ref a :: rest) (hd : decode c.code g.pc = .ok (.bastore, 1)) :
    ∃ (T' : State) (h' : Heap) (locs' : List Loc), Stand p l e R s m args below meth c T' locs' k n ∧ T'.heap = h' ∧ Fr n0 locs' ∧ Keep h h' [a] ∧ Ary Z h' a .byte len (fun i => .int (updN G j.toNatClampNeg (nar .byte x) i)) ∧ ∀ t, Steps p.tables e below (T'.setTop { g with pc := g.pc + 1, stack := rest }) t → Steps p.tables e below (T.setTop g) t := by
  obtain ⟨cl, A1, r⟩ := A
  obtain ⟨T', h', X', e', W, st⟩ := stB X hx hZ eT A1 (not_in hj r.1) hg hs hd
  exact ⟨T', h', _, X', e', Fr.snoc X' N ga, Keep.of_wr W, (Ary.wr ⟨cl, A1, r⟩ W hj.2).congr (fun i _ => by unfold updN; split <;> rfl), st⟩
/-- newarray of a length that is not negative and at most cap -/
theorem own_new (X : Stand p l e R s m args below meth c T locs k n) (hx : p.tables.exec = Jvm.exec) (hZ : Z.Warmed39 s.vm) {aty : ArrayType} (w : (Jvm.Cond.arrayClass (newarray.typeOf aty)).before a0 Z = true) (eT : T.heap = h) (hg : g.method = m) (hd : decode c.code g.pc = .ok (.newarray aty, 2)) {z : Int32} {rest : List Value} (hs : g.stack = .int z :: rest)
    (hn : ¬ z < 0) {cap : Nat} (hcap : z.toNatClampNeg ≤ cap) (hb : cap * 8 ≤ 536870912) (hc : k + 1 ≤ R.cells) (hl : n + cap ≤ R.slots) :
    ∃ (T' : State) (h' : Heap) (a : Addr), Stand p l e R s m args below meth c T' locs (k + 1) (n + cap) ∧ T'.heap = h' ∧ a = h.size ∧ Keep h h' [] ∧ Ary Z h' a (newarray.typeOf aty) z.toNatClampNeg (fun _ => defaultValue (newarray.typeOf aty)) ∧
      ∀ t, Steps p.tables e below (T'.setTop { g with pc := g.pc + 2, stack := .ref a :: rest }) t → Steps p.tables e below (T.setTop g) t := by
  obtain ⟨T', h', cA, X', e', E, A, st⟩ := newP X hx hZ w eT hg hd hs hn hcap hb hc hl
  refine ⟨T', h', _, X', e', rfl, keep_ext E, ⟨_, A, sz_new _ _ _, ?_, fun i hi => ?_⟩, st⟩
  · exact (back32 hn).2
  · simp [newA, hi]
/-- an object's field written: the heap, what is kept, the field -/
theorem own_putF (X : Stand p l e R s m args below meth c T locs k n) (hx : p.tables.exec = Jvm.exec) (hZ : Z.Warmed39 s.vm) {own O nm d C : String} {index kk : Nat} {fty : FieldType} (hown : s.vm.findClass own = some m.cls) (w : (Jvm.Cond.fieldLink own index O nm d).before a0 Z = true)
    (eT : T.heap = h) (N : Fr n0 locs) {u v : Value} (F : Fld Z h a O nm d u) (E : Exa Z h a C) (ga : n0 ≤ a) (lw : (Jvm.Cond.lays C O nm d).before a0 Z = true ∨ ((Jvm.Cond.laysFinal C O nm d).before a0 Z = true ∧ own = O ∧ meth.name = "<init>")) (wi : (Jvm.Cond.instantiable C kk).before a0 Z = true)
    (hty : parseFieldDescriptor d = some fty) (hn : narrow fty v = v) (hf : fits fty v = true) {rest : List Value} (hg : g.method = m) (hs : g.stack = v :: .ref a :: rest) (hd : decode c.code g.pc = .ok (.putfield index, 3)) :
    ∃ (T' : State) (h' : Heap) (locs' : List Loc), Stand p l e R s m args below meth c T' locs' k n ∧ T'.heap = h' ∧ Fr n0 locs' ∧ Wr h h' a (slotOf Z O nm d) v ∧ Fld Z h' a O nm d v ∧ ∀ t, Steps p.tables e below (T'.setTop { g with pc := g.pc + 3, stack := rest }) t → Steps p.tables e below (T.setTop g) t := by
  obtain ⟨T', h', X', e', W, st⟩ := putF X hx hZ hown (host := "") (Or.inl w) Via.refl eT F E lw wi (ty := fty) hty hn hf hg hs hd
  exact ⟨T', h', _, X', e', Fr.snoc X' N ga, W, F.same W, st⟩
theorem Exa.neS {C : String} (F : Exa Z h a C) (q : b = h.size) : a ≠ b := by
  have r := Exa.lt F; intro z; rw [z, q] at r; exact Nat.lt_irrefl _ r
theorem Ary.neS (F : Ary Z h a ty len f) (q : b = h.size) : a ≠ b := by
  have r := Ary.lt F; intro z; rw [z, q] at r; exact Nat.lt_irrefl _ r
end OwnHeap
end Jvm.RoadKit
namespace Jvm.RoadKit
open Sem ClassFile Op Lib Jvm.Stand Jvm.Free Jvm.LawKit
section OwnNum
theorem i32lt (x y : Int32) : x < y ↔ x.toInt < y.toInt := Int32.lt_iff_toInt_lt
theorem i32eq (x y : Int32) : x = y ↔ x.toInt = y.toInt := Int32.toInt_inj.symm
theorem i64lt (x y : Int64) : x < y ↔ x.toInt < y.toInt := Int64.lt_iff_toInt_lt
theorem i64eq (x y : Int64) : x = y ↔ x.toInt = y.toInt := Int64.toInt_inj.symm
theorem nar0 : nar .boolean 0 = 0 := by decide
theorem nar1 : nar .boolean 1 = 1 := by decide
theorem narI (P : Prop) [Decidable P] : nar .boolean (if P then 1 else 0) = if P then 1 else 0 := by split <;> decide
theorem ushr_pos {x y : Int32} (hx : 0 ≤ x.toInt) {k : Nat} (hn : (y &&& 31).toUInt32.toNat = k) (hk : k < 32) : (XT.ushr x y).toInt = x.toInt / 2 ^ k :=
  Jvm.Kit.i32_iushr (Jvm.Kit.i32_nonneg.mpr hx) hn hk
theorem ushr_nat (x y : Int32) {k : Nat} (hn : (y &&& 31).toUInt32.toNat = k) (h1 : 0 < k) (hk : k < 32) : (XT.ushr x y).toInt = (x.toBitVec.toNat / 2 ^ k : Nat) := by
  have e1 : (XT.ushr x y).toBitVec.toNat = x.toBitVec.toNat / 2 ^ k := by
    show (x.toUInt32 >>> (y &&& 31).toUInt32).toNat = _
    rw [UInt32.toNat_shiftRight, hn, Nat.mod_eq_of_lt hk, Nat.shiftRight_eq_div_pow]
    rfl
  have e2 := x.toBitVec.isLt
  have e3 : x.toBitVec.toNat / 2 ^ k < 2 ^ 31 := by
    apply Nat.div_lt_of_lt_mul
    calc x.toBitVec.toNat < 2 ^ 32 := e2
      _ ≤ 2 ^ k * 2 ^ 31 := by rw [← Nat.pow_add]; exact Nat.pow_le_pow_right (by omega) (by omega)
  show (XT.ushr x y).toBitVec.toInt = _
  rw [BitVec.toInt_eq_toNat_of_lt (by rw [e1]; omega), e1]
theorem inb_of_toInt {j : Int32} {n : Nat} (h1 : 0 ≤ j.toInt) (h2 : j.toInt < n) : InB j n := by
  refine ⟨?_, ?_⟩
  · rw [i32lt]; show ¬ j.toInt < 0; omega
  · simp only [Int32.toNatClampNeg]; omega
theorem or32_nat (n : Nat) : n ||| 32 = n + (if n % 64 < 32 then 32 else 0) := by
  have h1 : (n ||| 32) % 2 ^ 6 = (n % 2 ^ 6) ||| (32 % 2 ^ 6) := Nat.or_mod_two_pow
  have h2 : (n ||| 32) / 2 ^ 6 = n / 2 ^ 6 := by
    rw [← Nat.shiftRight_eq_div_pow, Nat.shiftRight_or_distrib, ← Nat.shiftRight_eq_div_pow]
    simp
  have h3 : ∀ r : Fin 64, r.val ||| 32 = if r.val < 32 then r.val + 32 else r.val := by decide
  have h4 := h3 ⟨n % 64, Nat.mod_lt _ (by omega)⟩
  simp only at h4
  have h5 : (n % 2 ^ 6) ||| (32 % 2 ^ 6) = (n % 64) ||| 32 := rfl
  rw [h5, h4] at h1
  split at h1 <;> split <;> omega
theorem or32 (c : Int32) : (c ||| 32).toInt = c.toInt + (if c.toInt % 64 < 32 then 32 else 0) := by
  have e1 : (c ||| 32).toBitVec.toNat = c.toBitVec.toNat ||| 32 := by simp [BitVec.toNat_or]
  have e2 : c.toInt = c.toBitVec.toInt := rfl
  have e3 : (c ||| 32).toInt = (c ||| 32).toBitVec.toInt := rfl
  have e4 := c.toBitVec.isLt
  have e5 := (c ||| 32).toBitVec.isLt
  rw [e2, e3, BitVec.toInt_eq_toNat_cond, BitVec.toInt_eq_toNat_cond, e1, or32_nat]
  rw [e1, or32_nat] at e5
  split at e5 <;> split <;> split <;> split <;> omega
theorem i2c_toInt (x : Int32) : (x.toUInt32.toUInt16.toUInt32.toInt32).toInt = x.toInt % 65536 := by
  have e1 : (x.toUInt32.toUInt16.toUInt32.toInt32).toBitVec.toNat = x.toBitVec.toNat % 65536 := by
    show (x.toUInt32.toUInt16.toUInt32).toNat = _
    simp
    rfl
  have e2 := x.toBitVec.isLt
  have e3 : x.toInt = x.toBitVec.toInt := rfl
  have e4 : (x.toUInt32.toUInt16.toUInt32.toInt32).toInt = (x.toUInt32.toUInt16.toUInt32.toInt32).toBitVec.toInt := rfl
  rw [e3, e4, BitVec.toInt_eq_toNat_cond, BitVec.toInt_eq_toNat_cond, e1]
  split <;> split <;> omega
theorem mulbd {a b : Int} (h1 : 0 ≤ a) (h2 : a ≤ 2147483648) (h3 : 0 ≤ b) (h4 : b ≤ 2147483648) : 0 ≤ a * b ∧ a * b ≤ 4611686018427387904 := by
  refine ⟨Int.mul_nonneg h1 h3, ?_⟩
  have h : a * b ≤ 2147483648 * 2147483648 := Int.mul_le_mul h2 h4 h3 (by omega)
  omega
theorem mul64g {x y : Int64} (h1 : 0 ≤ x.toInt) (h2 : x.toInt ≤ 2147483648) (h3 : 0 ≤ y.toInt) (h4 : y.toInt ≤ 2147483648) : (x * y).toInt = x.toInt * y.toInt := by
  obtain ⟨b1, b2⟩ := mulbd h1 h2 h3 h4
  exact Jvm.Kit.i64_mul (by omega) (by omega)
theorem mul64 {x y : Int32} (h1 : 0 ≤ x.toInt) (h3 : 0 ≤ y.toInt) : (x.toInt64 * y.toInt64).toInt = x.toInt * y.toInt := by
  have e1 := Jvm.Kit.i64_of_i32 x
  have e2 := Jvm.Kit.i64_of_i32 y
  have b1 := Int32.toInt_lt x
  have b2 := Int32.toInt_lt y
  rw [mul64g (by omega) (by omega) (by omega) (by omega), e1, e2]
/-- the quotient q of a by b: b * q ≤ a < b * q + b -/
theorem quot {a b : Int} (hb : 0 < b) : b * (a / b) ≤ a ∧ a < b * (a / b) + b := by
  have h1 := Int.emod_def a b
  have h2 := Int.emod_nonneg a (show b ≠ 0 by omega)
  have h3 := Int.emod_lt_of_pos a hb
  omega
theorem div64 {x y : Int64} (h1 : 0 ≤ x.toInt) (h2 : 0 < y.toInt) : (x / y).toInt = x.toInt / y.toInt := by
  rw [Jvm.Kit.i64_div (by omega), Int.tdiv_eq_ediv_of_nonneg h1]
theorem mask31 (x : Int32) : (x &&& 2147483647).toInt = x.toInt % 2147483648 := by
  have := Jvm.Kit.i32_mask x 2147483647 (k := 31) (by decide) (by decide)
  omega
theorem rem32 {x y : Int32} (h : 0 ≤ x.toInt) (h2 : 0 < y.toInt) : 0 ≤ (x % y).toInt ∧ (x % y).toInt < y.toInt := by
  rw [Jvm.Kit.i32_rem_nonneg h]
  exact ⟨Int.emod_nonneg _ (by omega), Int.emod_lt_of_pos _ h2⟩
end OwnNum
end Jvm.RoadKit
namespace Jvm.RoadKit
open Sem ClassFile Op Lib Jvm.Stand Jvm.Free Jvm.LawKit
section OwnBits
theorem byte255 (y : Int32) : (nar .byte (y.toInt8.toInt32) &&& 255).toInt = y.toInt % 256 := by
  have h1 := Jvm.Kit.i32_mask (nar .byte (y.toInt8.toInt32)) 255 (k := 8) (by decide) (by decide)
  have h2 : (nar .byte (y.toInt8.toInt32)).toInt = (y.toInt.bmod 256).bmod 256 := by
    show ((y.toInt8.toInt32).toInt8.toInt32).toInt = _
    rw [Int8.toInt_toInt32, Int32.toInt_toInt8, Int8.toInt_toInt32, Int32.toInt_toInt8]
  rw [h1, h2]
  have h3 : ∀ z : Int, z.bmod 256 % 256 = z % 256 := fun z => Int.bmod_emod
  have h4 : (2 : Int) ^ 8 = 256 := rfl
  rw [h4, h3, h3]
theorem natOfI {x : Int32} (h : 0 ≤ x.toInt) : x.toBitVec.toNat = x.toInt.toNat := by
  have e : x.toInt = x.toBitVec.toInt := rfl
  have e2 := x.toBitVec.isLt
  rw [e, BitVec.toInt_eq_toNat_cond] at h ⊢
  split at h <;> split <;> omega
theorem ofNat31 {x : Int32} {n : Nat} (h : x.toBitVec.toNat = n) (h2 : n < 2 ^ 31) : x.toInt = n := by
  have e : x.toInt = x.toBitVec.toInt := rfl
  rw [e, BitVec.toInt_eq_toNat_of_lt (by rw [h]; omega), h]
theorem or_sum {a b : Int32} {k g : Nat} (ha : 0 ≤ a.toInt) (ha2 : a.toInt < 2 ^ k) (hb : b.toInt = (2 ^ k * g : Nat)) (hs : 2 ^ k * g + a.toInt.toNat < 2 ^ 31) : (a ||| b).toInt = a.toInt + b.toInt ∧ (b ||| a).toInt = a.toInt + b.toInt := by
  have e1 : a.toBitVec.toNat = a.toInt.toNat := natOfI ha
  have e2 : b.toBitVec.toNat = 2 ^ k * g := by rw [natOfI (by omega), hb]; exact Int.toNat_natCast _
  have hlt : a.toInt.toNat < 2 ^ k := by
    have : ((2 ^ k : Nat) : Int) = (2 : Int) ^ k := by simp
    omega
  have e3 := Nat.two_pow_add_eq_or_of_lt hlt g
  constructor
  · have e4 : (a ||| b).toBitVec.toNat = 2 ^ k * g + a.toInt.toNat := by
      show (a.toBitVec ||| b.toBitVec).toNat = _
      rw [BitVec.toNat_or, e1, e2, Nat.or_comm, ← e3]
    rw [ofNat31 e4 hs]; omega
  · have e4 : (b ||| a).toBitVec.toNat = 2 ^ k * g + a.toInt.toNat := by
      show (b.toBitVec ||| a.toBitVec).toNat = _
      rw [BitVec.toNat_or, e1, e2, ← e3]
    rw [ofNat31 e4 hs]; omega
theorem or128 {x : Int32} (h : 0 ≤ x.toInt) (h2 : x.toInt < 128) : (x ||| 128).toInt = x.toInt + 128 ∧ (128 ||| x).toInt = x.toInt + 128 := by
  have a : (128 : Int32).toInt = 128 := rfl
  have := or_sum (a := x) (b := 128) (k := 7) (g := 1) h (by omega) (by rw [a]; rfl) (by omega)
  rw [a] at this; exact this
/-- a group of seven bits laid above what is there -/
theorem acc {a g n : Int32} {k : Nat} (hn : (n.toBitVec.smod 32).toNat = k) (ha : 0 ≤ a.toInt) (ha2 : a.toInt < 2 ^ k) (hg : 0 ≤ g.toInt) (hs : g.toInt * 2 ^ k + a.toInt < 2 ^ 31) : (a ||| (g <<< n)).toInt = a.toInt + g.toInt * 2 ^ k := by
  have p : (0 : Int) < 2 ^ k := Int.pow_pos (by omega)
  have q : 0 ≤ g.toInt * 2 ^ k := Int.mul_nonneg hg (by omega)
  have e1 : (g <<< n).toInt = g.toInt * 2 ^ k := Jvm.Kit.i32_shl g n hn (by omega) (by omega)
  have e2 : (g <<< n).toInt = (2 ^ k * g.toInt.toNat : Nat) := by
    rw [e1, Int.natCast_mul, Int.toNat_of_nonneg hg, Int.mul_comm, Int.natCast_pow]; rfl
  have := (or_sum (a := a) (b := g <<< n) (k := k) (g := g.toInt.toNat) ha ha2 e2 (by have := e1.symm.trans e2; omega)).1
  rw [this, e1]
theorem and_not0 (x : Int64) : x &&& ((0 : Int64) ^^^ (-1)) = x := by
  apply Int64.toBitVec_inj.mp
  apply BitVec.eq_of_getLsbD_eq
  intro i hi
  have : (-1 : Int64).toBitVec = BitVec.allOnes 64 := by decide
  simp [this, hi]
theorem and_not2 (x a b : Int64) : (x &&& (a ^^^ (-1))) &&& (b ^^^ (-1)) = x &&& ((a ||| b) ^^^ (-1)) := by
  apply Int64.toBitVec_inj.mp
  apply BitVec.eq_of_getLsbD_eq
  intro i hi
  have : (-1 : Int64).toBitVec = BitVec.allOnes 64 := by decide
  simp [this, hi]
  exact Bool.and_assoc _ _ _
theorem clamp_eq {a b : Int32} (ha : 0 ≤ a.toInt) (hb : 0 ≤ b.toInt) : a.toNatClampNeg = b.toNatClampNeg ↔ a = b := by
  rw [i32eq]; simp only [Int32.toNatClampNeg]; omega
theorem mask63 (v : Int32) : ((v &&& 63).toInt64 &&& 63) = (v.toInt64 &&& 63) := by
  have h1 := Jvm.Kit.i64_mask (v &&& 63).toInt64 63 (k := 6) (by decide) (by decide)
  have h2 := Jvm.Kit.i64_mask v.toInt64 63 (k := 6) (by decide) (by decide)
  have h3 := Jvm.Kit.i32_mask v 63 (k := 6) (by decide) (by decide)
  rw [Jvm.Kit.i64_of_i32] at h1 h2
  rw [i64eq, h1, h2, h3]; omega
theorem charBack {x : Int32} (h : 0 ≤ x.toInt) (h2 : x.toInt < 65536) : nar .char (x.toUInt32.toUInt16.toUInt32.toInt32) = x := by
  have e1 : (nar .char (x.toUInt32.toUInt16.toUInt32.toInt32)).toInt = (x.toUInt32.toUInt16.toUInt32.toInt32).toInt % 65536 := i2c_toInt _
  rw [i32eq, e1, i2c_toInt]; omega
end OwnBits
end Jvm.RoadKit
namespace Jvm.RoadKit
open Sem ClassFile Op Lib Jvm.Stand Jvm.Free Jvm.LawKit
section OwnMore
variable {p : Program} {l : Launch} {e : Env} {R : Room} {s : State} {m : MethodId} {args : Array Value} {below : List Frame} {meth : Method} {c : Code} {T T' : State} {locs locs' : List Loc} {k n k' n' : Nat} {Z : State} {a0 : Array Value} {h h' h0 : Heap} {g : JFrame} {n0 : Nat} {a b : Addr}
/-- a private method called by invokevirtual; y2 is any method of its class that has a 'selects' word -/
theorem own_callP (X : Stand p l e R s m args below meth c T locs k n) (hx : p.tables.exec = Jvm.exec) (hZ : Z.Warmed39 s.vm) {own C D : String} {index : Nat} {y y2 : MethodName} {bytes : ByteArray} {maxL W : Nat} {rt : Option FieldType} {rm : Room} {a : Addr} {argsL rest : List Value} {ps : List FieldType} {r : Option FieldType} {Qc : Option Value → Heap → List Loc → Prop}
    (hown : s.vm.findClass own = some m.cls) (w1 : (Jvm.Cond.methodLink own index y).before a0 Z = true) (w5 : (Jvm.Cond.selects D y2 y2).before a0 Z = true) (hc2 : y2.cls = y.cls) (w6 : (Jvm.Cond.instanceMethod y).before a0 Z = true) (w7 : (Jvm.Cond.privateMethod y).before a0 Z = true) (w3 : (Jvm.Cond.initialized y.cls).before a0 Z = true) (w4 : (Jvm.Cond.code y bytes maxL rt).before a0 Z = true) (hy : y.cls ≠ "java/lang/invoke/MethodHandle" ∧ y.cls ≠ "java/lang/invoke/VarHandle")
    (E : Exa Z h a C)
    (hM : MetFree l y (head1 [Jvm.Cond.code y bytes maxL rt] rm) (fun a' U => a' = (Value.ref a :: argsL).toArray ∧ Z.Warmed39 U.vm ∧ U.heap = h) (fun _ _ _ _ _ => True) (fun _ U o U' => ∃ v L, o = .returned v ∧ Qc v U'.heap L ∧ FrameEnd U o U' L rm.cells rm.slots))
    (hf : rm.frames + 1 ≤ R.frames) (hl : W + (maxL + 11) + rm.locals ≤ R.locals) (hc : k + rm.cells ≤ R.cells) (hs : n + rm.slots ≤ R.slots) (eT : T.heap = h)
    (hg : g.method = m) (hsize : g.locals.size = c.maxLocals) (hd : parseMethodDescriptor y.desc = some ⟨ps, r⟩) (hlen : argsL.length = ps.length) (hstack : g.stack = argsL.reverse ++ .ref a :: rest) (hW : 2 * g.monitorRoom + (rest.map fun v => v.category).sum ≤ W) (hdg : decode c.code g.pc = .ok (.invokevirtual index, 3)) :
    ∃ v T' L, Stand p l e R s m args below meth c T' (locs ++ L) (k + rm.cells) (n + rm.slots) ∧ Qc v T'.heap L ∧ ∀ t, Steps p.tables e below (T'.setTop { g with pc := g.pc + 3, stack := v.toList ++ rest }) t → Steps p.tables e below (T.setTop g) t := by
  obtain ⟨mk, methM, hnamed, hmethM, hstM, habM⟩ := Cond.instanceMethod_spec (mvT (args := args) hZ w6)
  obtain ⟨methM', cM, hmethM', -, -, -, -, -, -, hsigM⟩ := Cond.code_spec hnamed (mvT (args := args) hZ w4)
  cases hmethM.symm.trans hmethM'
  obtain ⟨c2, r2, m2, -, -, q3, -, kP, hkP, hkPi⟩ := Cond.selects_spec (mvT (args := args) hZ w5)
  have f1 := findClass_of_methodNamed q3
  have f2 := findClass_of_methodNamed hnamed
  rw [hc2] at f1
  have f3 : m2.cls = mk.cls := Option.some.inj (f1.symm.trans f2)
  rw [f3] at hkP
  obtain ⟨cell, hcell, hobj⟩ := E.cell
  have hselP : selectMethod e.platform s.vm cell.cls mk = .method mk := selectMethod_private hmethM ((Cond.privateMethod_at (mvP (args := args) hZ w7)) mk methM hnamed hmethM)
  obtain ⟨vm₁, X₁, hstep₁⟩ := X.invokevirtual hx hown (mvT hZ w1) hnamed hmethM hstM hkP hkPi hy (a := a) (cell := cell) (by rw [eT]; exact hcell) hobj hselP hmethM habM hkP hkPi (g := g) hg (argsL := argsL) (rest := rest) (lenOf hd hlen _ hsigM) hstack hdg
  obtain ⟨v, ⟨T', L', k', n'⟩, X', ⟨Lc, hQ, l1, y1, z1⟩, st⟩ := (backOf (p := p) (e := e) (below := below) (R := R) (s := s) (args := args) (len := 3) (W := W) hM hZ w4 w3 hf hl) m meth c ⟨T.setVm vm₁, locs, k, n⟩ { g with stack := rest } (.invokevirtual index) mk (.ref a :: argsL).toArray X₁ hg hsize hdg hW (X₁.named hnamed) ⟨rfl, eT, hc, hs⟩
  dsimp only [Pt.U, Pt.locs, Pt.cells, Pt.slots] at X' l1 y1 z1 st hQ
  subst l1 y1 z1
  exact ⟨v, T', Lc, X', hQ, fun t k => ((hstep₁ _ (fun acts => by rw [doInvoke_state]; exact Steps.refl _)).trans st).trans k⟩
/-- System.arraycopy between two arrays of longs -/
theorem own_copyJ (X : Stand p l e R s m args below meth c T locs k n) (hx : p.tables.exec = Jvm.exec) (hZ : Z.Warmed39 s.vm) {own : String} {index : Nat} (hown : s.vm.findClass own = some m.cls)
    (w1 : (Jvm.Cond.methodLink own index (⟨"java/lang/System", "arraycopy", "(Ljava/lang/Object;ILjava/lang/Object;II)V"⟩ : MethodName)).before a0 Z = true) (w2 : (Jvm.Cond.native (⟨"java/lang/System", "arraycopy", "(Ljava/lang/Object;ILjava/lang/Object;II)V"⟩ : MethodName)).before a0 Z = true) (w3 : (Jvm.Cond.static (⟨"java/lang/System", "arraycopy", "(Ljava/lang/Object;ILjava/lang/Object;II)V"⟩ : MethodName)).before a0 Z = true) (w4 : (Jvm.Cond.initialized "java/lang/System").before a0 Z = true)
    (eT : T.heap = h) (N : Fr n0 locs) {G G' : Nat → Int64} {la lb : Nat} (A : Ary Z h a .long la (fun i => .long (G i))) (B : Ary Z h b .long lb (fun i => .long (G' i))) (gb : n0 ≤ b) {o q z : Nat} {jo jq jn : Int32} (ho : jo = Int32.ofNat o) (hq : jq = Int32.ofNat q) (hn : jn = Int32.ofNat z) (h4 : o + z ≤ la) (h5 : q + z ≤ lb)
    (hg : g.method = m) (hsize : g.locals.size = c.maxLocals) {rest : List Value} (hstack : g.stack = .int jn :: .int jq :: .ref b :: .int jo :: .ref a :: rest) (hdg : decode c.code g.pc = .ok (.invokestatic index, 3)) {W : Nat} (hW : 2 * g.monitorRoom + (rest.map fun v => v.category).sum ≤ W) (hfr : 1 ≤ R.frames) (hlo : W + 40 ≤ R.locals) :
    ∃ (T' : State) (h' : Heap) (locs' : List Loc), Stand p l e R s m args below meth c T' locs' k n ∧ T'.heap = h' ∧ Fr n0 locs' ∧ Keep h h' [b] ∧ Ary Z h' b .long lb (fun i => .long (if q ≤ i ∧ i < q + z then G (o + (i - q)) else G' i)) ∧ ∀ t, Steps p.tables e below (T'.setTop { g with pc := g.pc + 3, stack := rest }) t → Steps p.tables e below (T.setTop g) t := by
  obtain ⟨cA, hA, sA, lA, fA⟩ := A
  obtain ⟨cB, hB, sB, lB, fB⟩ := B
  have hal : Z.vm.Alike T.vm := (wtrans hZ X.warmed).alike
  have XA : XT.Arr .long a cA T := ⟨by rw [eT]; exact hA.1, State.isArrayOf_alike hal hA.2.1, hA.2.2, by rw [sA]; exact lA⟩
  have XB : XT.Arr .long b cB T := ⟨by rw [eT]; exact hB.1, State.isArrayOf_alike hal hB.2.1, hB.2.2, by rw [sB]; exact lB⟩
  have val : ∀ i, i < la → cA.slots.getD i .null = .long (G i) := fun i hi => by
    rw [Array.getD_eq_getD_getElem?, fA i hi]; rfl
  have hgo : XT.Goes .long cA o z cB T := fun i hi => by
    rw [val (o + i) (by omega)]
    exact ⟨rfl, fun q => by cases q⟩
  obtain ⟨T', B', X', P, c1, c2, c3, c4, st⟩ := X.acopy hx hown (index := index) (fun d hd => by
    simp only [XT.acW, List.mem_cons, List.not_mem_nil, or_false] at hd
    rcases hd with rfl | rfl | rfl | rfl
    · exact mvT hZ w1
    · exact mvT hZ w2
    · exact mvT hZ w3
    · exact mvT hZ w4) XA XB rfl ho hq hn (by rw [sA]; exact h4) (by rw [sB]; exact h5) hgo hg hsize hstack hdg hW hfr hlo
  refine ⟨T', _, _, X', rfl, N.app (fun y hy => by rw [copyLocs_base hy]; exact gb), ?_, ⟨B', ⟨P.1, ?_, by rw [c2]; exact hB.2.2⟩, by rw [c3]; exact sB, lB, ?_⟩, st⟩
  · refine ⟨by rw [P.2.2, eT]; exact Nat.le_refl _, fun x cx hxx nx => ?_, fun x cx hxx => ?_⟩
    · rw [P.2.1 x (fun q => nx (by simp [q])), eT]; exact hxx
    · by_cases q : x = b
      · subst q
        cases hB.1.symm.trans hxx
        exact ⟨B', P.1, c1, c2, c3⟩
      · exact ⟨cx, by rw [P.2.1 x q, eT]; exact hxx, rfl, rfl, rfl⟩
  · obtain ⟨q1, kk, q2, q3⟩ := hB.2.1
    exact ⟨by rw [c2]; exact q1, kk, by rw [c1]; exact q2, q3⟩
  · intro i hi
    show B'.slots[i]? = some (Value.long (if q ≤ i ∧ i < q + z then G (o + (i - q)) else G' i))
    rw [c4 i]
    by_cases qq : q ≤ i ∧ i < q + z
    · rw [if_pos qq, if_pos qq, val _ (by omega)]
    · rw [if_neg qq, if_neg qq]; exact fB i hi
end OwnMore
end Jvm.RoadKit
namespace Jvm.RoadKit
open Sem ClassFile Op Lib Jvm.Stand Jvm.Free Jvm.LawKit
section OwnWide
variable {p : Program} {l : Launch} {e : Env} {R : Room} {s s' s0 : State} {m : MethodId} {args : Array Value} {below : List Frame} {meth : Method} {c : Code} {T T' : State} {locs locs' : List Loc} {k n k' n' : Nat} {Z : State} {a0 : Array Value} {h h' h0 : Heap} {vm : Vm} {n1 : Nat}
variable {ret : Option FieldType} {Q : Option Value → Heap → List Loc → Prop} {K N : Nat} {g g' : JFrame}
/-- OwnFin, over tables that may have grown since s0 -/
def OwnFinW (s0 : State) (_X : Stand p l e R s m args below meth c T locs k n) (ret : Option FieldType) (Q : Option Value → Heap → List Loc → Prop) (K N : Nat) (g : JFrame) : Prop :=
  ∃ (i : Instr) (w v : Option Value) (T' : State) (locs' : List Loc) (k' n' pcr n1 : Nat) (Ls : Array Slot) (vm1 : Vm), OwnRet i ret w v ∧ Stand p l e R (s0.setVm vm1) m args below meth c T' locs' k' n' ∧ s0.Since vm1 n1 ∧ n1 ≤ T'.heap.size ∧ k' ≤ K ∧ n' ≤ N ∧ Q v T'.heap locs' ∧ decode c.code pcr = .ok (i, 1) ∧
    ∀ t, Steps p.tables e below (T'.setTop (mkF m pcr Ls w.toList)) t → Steps p.tables e below (T.setTop g) t
theorem OwnFinW.step {X : Stand p l e R s m args below meth c T locs k n} (X' : Stand p l e R s' m args below meth c T' locs' k' n') (hs : ∀ t, Steps p.tables e below (T'.setTop g') t → Steps p.tables e below (T.setTop g) t) (hF : OwnFinW s0 X' ret Q K N g') : OwnFinW s0 X ret Q K N g := by
  obtain ⟨i, w, v, T2, locs2, k2, n2, pcr, q1, Ls, vm1, h1, h2, h3, h4, h5, h6, h7, h8, h9⟩ := hF
  exact ⟨i, w, v, T2, locs2, k2, n2, pcr, q1, Ls, vm1, h1, h2, h3, h4, h5, h6, h7, h8, fun t k => hs t (h9 t k)⟩
theorem ostW (g' : JFrame) {X : Stand p l e R s m args below meth c T locs k n} (X' : Stand p l e R s' m args below meth c T' locs' k' n') (hs : ∀ t, Steps p.tables e below (T'.setTop g') t → Steps p.tables e below (T.setTop g) t) (hF : OwnFinW s0 X' ret Q K N g') : OwnFinW s0 X ret Q K N g := OwnFinW.step X' hs hF
theorem OwnFinW.retInt (X : Stand p l e R (s0.setVm vm) m args below meth c T locs k n) (hS : s0.Since vm n1) (hz : n1 ≤ T.heap.size) {pc : Nat} {Ls : Array Slot} {z : Int32} (hd : decode c.code pc = .ok (.ireturn, 1)) (hk : k ≤ K) (hn : n ≤ N) (hQ : Q (some (.int z)) T.heap locs) : OwnFinW s0 X (some .int) Q K N (mkF m pc Ls [.int z]) :=
  ⟨.ireturn, some (.int z), _, T, locs, k, n, pc, n1, Ls, vm, Or.inl ⟨rfl, z, rfl, rfl, rfl⟩, X, hS, hz, hk, hn, hQ, hd, fun _ k => k⟩
theorem OwnFinW.retNar (X : Stand p l e R (s0.setVm vm) m args below meth c T locs k n) (hS : s0.Since vm n1) (hz : n1 ≤ T.heap.size) {t : FieldType} (ht : t = .boolean ∨ t = .byte ∨ t = .char ∨ t = .short) {pc : Nat} {Ls : Array Slot} {z : Int32} (hd : decode c.code pc = .ok (.ireturn, 1)) (hk : k ≤ K) (hn : n ≤ N) (hQ : Q (some (.int (nar t z))) T.heap locs) : OwnFinW s0 X (some t) Q K N (mkF m pc Ls [.int z]) :=
  ⟨.ireturn, some (.int z), _, T, locs, k, n, pc, n1, Ls, vm, Or.inr (Or.inl ⟨rfl, t, z, rfl, ht, rfl, rfl⟩), X, hS, hz, hk, hn, hQ, hd, fun _ k => k⟩
theorem OwnFinW.retVoid (X : Stand p l e R (s0.setVm vm) m args below meth c T locs k n) (hS : s0.Since vm n1) (hz : n1 ≤ T.heap.size) {pc : Nat} {Ls : Array Slot} (hd : decode c.code pc = .ok (.return_, 1)) (hk : k ≤ K) (hn : n ≤ N) (hQ : Q none T.heap locs) : OwnFinW s0 X none Q K N (mkF m pc Ls []) :=
  ⟨.return_, none, _, T, locs, k, n, pc, n1, Ls, vm, Or.inr (Or.inr (Or.inr (Or.inr ⟨rfl, rfl, rfl, rfl⟩))), X, hS, hz, hk, hn, hQ, hd, fun _ k => k⟩
theorem own_metW {y : MethodName} {bytes : ByteArray} {maxL : Nat} {rm : Room} {ws : List Jvm.Cond} {as' : Array Value} {Ls : Array Slot} (hpf : plainFor y = true) (hent : ∀ m, entryFrame m as' maxL = mkF m 0 Ls [])
    (H : ∀ p e s m below meth c s₁ (X : Stand p l e rm s m as' below meth c s₁ [] 0 0), p.tables.exec = Jvm.exec → c.code = bytes → c.maxLocals = maxL → s.vm.findClass y.cls = some m.cls → meth.name = y.name → Z.Warmed39 s.vm → s₁.heap = h0 → OwnFinW s X ret Q rm.cells rm.slots (mkF m 0 Ls [])) :
    MetFree l y (head1 (Jvm.Cond.code y bytes maxL ret :: ws) rm) (fun a U => a = as' ∧ Z.Warmed39 U.vm ∧ U.heap = h0) (fun _ _ _ _ _ => True) (fun _ U o U' => ∃ v L, o = .returned v ∧ Q v U'.heap L ∧ ReturnedEndW U o U' L rm.cells rm.slots) := by
  refine MetFree.of_bodySF hpf hisR ?_
  intro p e s m args below meth c s₁ Bd hml0 hP hK
  obtain ⟨rfl, hZ, hh⟩ := hP
  have hx := Bd.exec
  have hby := Bd.bytes
  have hown : s.vm.findClass y.cls = some m.cls := findClass_of_methodNamed Bd.named
  have hnm := (name_of_methodNamed Bd.named Bd.method).1
  have X0 : Stand p l e rm s m args below meth c s₁ [] 0 0 := Stand.of_body Bd
  have e0 : s₁.heap = h0 := by rw [← hh, Bd.state]; rfl
  obtain ⟨i, w, v, T2, locs2, k2, n2, pcr, q1, Ls2, vm1, h1, X2, hS, hz, h3, h4, h5, h6, h7⟩ := H p e s m below meth c s₁ X0 hx hby hml0 hown hnm hZ e0
  have hret := Bd.returns
  have hv : meth.sig.returnType = none → v = none := by
    intro q
    rw [hret] at q
    rcases h1 with ⟨-, z, hr, -⟩ | ⟨-, t, z, hr, -⟩ | ⟨-, hr, -⟩ | ⟨-, t, u, hr, -⟩ | ⟨-, -, -, hr⟩
    · rw [hr] at q; cases q
    · rw [hr] at q; cases q
    · rw [hr] at q; cases q
    · rw [hr] at q; cases q
    · exact hr
  obtain ⟨fs, hr, hrun, hended, hE1, hE2, hE3, hE4⟩ := X2.leaveW hS hz (v := v) hv
  refine ⟨_, _, ?_, hrun, hended, _, _, rfl, h5, ⟨_, rfl⟩, hE2, hE3, hE4.mono h3 h4⟩
  rw [hent]
  apply h7
  rcases h1 with ⟨rfl, z, rfl, rfl, rfl⟩ | ⟨rfl, t, z, rfl, ht, rfl, rfl⟩ | ⟨rfl, rfl, z, rfl, rfl⟩ | ⟨rfl, t, u, rfl, ht, hu, hnw, rfl, rfl⟩ | ⟨rfl, rfl, rfl, rfl⟩
  · exact retI X2 hx hret h6 hr
  · exact retN X2 hx hret ht h6 hr
  · exact retOut X2 hx hret rfl (Or.inr (Or.inl ⟨rfl, rfl, z, rfl⟩)) h6 hr
  · exact retOut X2 hx hret hnw (Or.inr (Or.inr (Or.inr (Or.inr ⟨rfl, ht, hu⟩)))) h6 hr
  · exact X2.returnOut hx hret h6 hr
/-- a constructor called whose walk may have interned -/
theorem own_callIW (X : Stand p l e R s m args below meth c T locs k n) (hx : p.tables.exec = Jvm.exec) (hZ : Z.Warmed39 s.vm) {own : String} {index : Nat} {y : MethodName} {bytes : ByteArray} {maxL W : Nat} {rm : Room} {a : Addr} {argsL rest : List Value} {ps : List FieldType} {r : Option FieldType} {Qc : Option Value → Heap → List Loc → Prop}
    (hy1 : y.name = "<init>") (hown : s.vm.findClass own = some m.cls) (w1 : (Jvm.Cond.methodLink own index y).before a0 Z = true) (w2 : (Jvm.Cond.instanceMethod y).before a0 Z = true) (w3 : (Jvm.Cond.initialized y.cls).before a0 Z = true) (w4 : (Jvm.Cond.code y bytes maxL none).before a0 Z = true) (hy : y.cls ≠ "java/lang/invoke/MethodHandle" ∧ y.cls ≠ "java/lang/invoke/VarHandle")
    (hM : MetFree l y (head1 [Jvm.Cond.code y bytes maxL none] rm) (fun a' U => a' = (Value.ref a :: argsL).toArray ∧ Z.Warmed39 U.vm ∧ U.heap = h) (fun _ _ _ _ _ => True) (fun _ U o U' => ∃ v L, o = .returned v ∧ Qc v U'.heap L ∧ ReturnedEndW U o U' L rm.cells rm.slots))
    (hf : rm.frames + 1 ≤ R.frames) (hl : W + (maxL + 11) + rm.locals ≤ R.locals) (hc : k + rm.cells ≤ R.cells) (hs : n + rm.slots ≤ R.slots) (eT : T.heap = h)
    (hg : g.method = m) (hsize : g.locals.size = c.maxLocals) (hd : parseMethodDescriptor y.desc = some ⟨ps, r⟩) (hlen : argsL.length = ps.length) (hstack : g.stack = argsL.reverse ++ .ref a :: rest) (hW : 2 * g.monitorRoom + (rest.map fun v => v.category).sum ≤ W) (hdg : decode c.code g.pc = .ok (.invokespecial index, 3)) :
    ∃ v T' L, Stand p l e R (s.setVm T'.vm) m args below meth c T' (locs ++ L) (k + rm.cells) (n + rm.slots) ∧ s.Since T'.vm T'.heap.size ∧ T.heap.size ≤ T'.heap.size ∧ Z.Warmed39 (s.setVm T'.vm).vm ∧ (s.setVm T'.vm).vm.findClass own = some m.cls ∧ Qc v T'.heap L ∧ ∀ t, Steps p.tables e below (T'.setTop { g with pc := g.pc + 3, stack := v.toList ++ rest }) t → Steps p.tables e below (T.setTop g) t := by
  obtain ⟨v, vm1, ⟨T', L', k', n'⟩, -, X', hS, hgr, ⟨Lc, hQ, l1, y1, z1⟩, st⟩ := X.specialBackS hx (y := y) hy1 hown (mvT hZ w1) (mvT hZ w2) (mvT hZ w4) hy (backOfS (W := W) hM hZ w4 w3 hf hl) hg hsize (Steps.refl _) (a := a) (argsL := argsL) (rest := rest) (lenOf hd hlen) hstack hW hdg (fun _ _ => ⟨rfl, eT, hc, hs⟩)
  dsimp only [Pt.U, Pt.locs, Pt.cells, Pt.slots] at X' l1 y1 z1 st hQ hS hgr
  subst l1 y1 z1
  exact ⟨v, T', Lc, X', hS, hgr, State.Warmed39.trans (t := s) hZ hS.1, by rw [show (s.setVm T'.vm).vm = T'.vm from rfl, hS.1.alike.findClass]; exact hown, hQ, fun t k => st.trans k⟩
end OwnWide
end Jvm.RoadKit
namespace Jvm.RoadKit
open Sem ClassFile Op Lib Jvm.Stand Jvm.Free Jvm.LawKit
section OwnRefs
variable {p : Program} {l : Launch} {e : Env} {R : Room} {s : State} {m : MethodId} {args : Array Value} {below : List Frame} {meth : Method} {c : Code} {T T' : State} {locs locs' : List Loc} {k n k' n' : Nat} {Z : State} {a0 : Array Value} {h h' h0 : Heap} {g : JFrame} {n0 len : Nat} {a b : Addr} {ws : List Addr} {ty : FieldType} {f : Nat → Value}
/-- an array of references to objects of C that takes objects of C -/
def AryR (Z : State) (h : Heap) (a : Addr) (C : String) (n : Nat) (f : Nat → Value) : Prop := Ary Z h a (.object C) n f ∧ ∃ cl : Cell, h[a]? = some cl ∧ Ovr Z cl.cls C
theorem AryR.keep {C : String} (F : AryR Z h a C len f) (K : Keep h h' ws) (q : a ∉ ws) : AryR Z h' a C len f := by
  obtain ⟨A, cl, h1, h2⟩ := F
  exact ⟨A.keep K q, cl, K.2.1 a cl h1 q, h2⟩
theorem AryR.lt {C : String} (F : AryR Z h a C len f) : a < h.size := F.1.lt
theorem AryR.neS {C : String} (F : AryR Z h a C len f) (q : b = h.size) : a ≠ b := Ary.neS F.1 q
theorem Ary.old (F : Ary Z Z.heap a ty len f) (X : Old Z n0 h) : Ary Z h a ty len f := by
  obtain ⟨c, A, r⟩ := F
  exact ⟨c, A.ext X.2, r⟩
theorem own_newR (X : Stand p l e R s m args below meth c T locs k n) (hx : p.tables.exec = Jvm.exec) (hZ : Z.Warmed39 s.vm) {own C : String} {index : Nat} (hown : s.vm.findClass own = some m.cls) (w1 : (Jvm.Cond.classLink own index C).before a0 Z = true) (w2 : (Jvm.Cond.arrayOver (.object C)).before a0 Z = true) (eT : T.heap = h) (hg : g.method = m) (hd : decode c.code g.pc = .ok (.anewarray index, 3)) {z : Int32} {rest : List Value} (hs : g.stack = .int z :: rest)
    (hn : ¬ z < 0) {cap : Nat} (hcap : z.toNatClampNeg ≤ cap) (hb : cap * 8 ≤ 536870912) (hc : k + 1 ≤ R.cells) (hl : n + cap ≤ R.slots) :
    ∃ (T' : State) (h' : Heap) (a : Addr), Stand p l e R s m args below meth c T' locs (k + 1) (n + cap) ∧ T'.heap = h' ∧ a = h.size ∧ Keep h h' [] ∧ AryR Z h' a C z.toNatClampNeg (fun _ => .null) ∧
      ∀ t, Steps p.tables e below (T'.setTop { g with pc := g.pc + 3, stack := .ref a :: rest }) t → Steps p.tables e below (T.setTop g) t := by
  obtain ⟨T', h', cA, X', e', E, A, O, st⟩ := newR X hx hZ hown w1 w2 eT hg hd hs hn hcap hb hc hl
  refine ⟨T', h', _, X', e', rfl, keep_ext E, ⟨⟨_, A, sz_new _ _ _, (back32 hn).2, fun i hi => ?_⟩, _, A.1, O⟩, st⟩
  simp [newA, hi, defaultValue]
theorem own_sto {C D : String} {y : Addr} (A : AryR Z h a C len f) (E : Exa Z h y D) (w : (Jvm.Cond.castable D C).before a0 Z = true) : Sto Z h a (.ref y) := by
  obtain ⟨⟨cl, A1, r⟩, c2, O1, O2⟩ := A
  have q : cl = c2 := Option.some.inj (A1.1.symm.trans O1)
  subst q
  exact Sto.of A1 O2 (Ins.of_exa E w)
theorem own_stA (X : Stand p l e R s m args below meth c T locs k n) (hx : p.tables.exec = Jvm.exec) (hZ : Z.Warmed39 s.vm) (eT : T.heap = h) (N : Fr n0 locs) {C : String} {G : Nat → Value} (A : AryR Z h a C len G) (ga : n0 ≤ a) {j : Int32} {v : Value} (hj : InB j len) (F : Sto Z h a v) {rest : List Value} (hg : g.method = m) (hs : g.stack = v :: .int j :: .ref a :: rest) (hd : decode c.code g.pc = .ok (.aastore, 1)) :
    ∃ (T' : State) (h' : Heap) (locs' : List Loc), Stand p l e R s m args below meth c T' locs' k n ∧ T'.heap = h' ∧ Fr n0 locs' ∧ Keep h h' [a] ∧ AryR Z h' a C len (updN G j.toNatClampNeg v) ∧ ∀ t, Steps p.tables e below (T'.setTop { g with pc := g.pc + 1, stack := rest }) t → Steps p.tables e below (T.setTop g) t := by
  obtain ⟨⟨cl, A1, r⟩, c2, O1, O2⟩ := A
  obtain ⟨T', h', X', e', W, st⟩ := stR X hx hZ eT A1 (not_in hj r.1) rfl F hg hs hd
  have K := Keep.of_wr W
  obtain ⟨c', q1, q2, -⟩ := K.2.2 a c2 O1
  exact ⟨T', h', _, X', e', Fr.snoc X' N ga, K, ⟨Ary.wr ⟨cl, A1, r⟩ W hj.2, c', q1, by rw [q2]; exact O2⟩, st⟩
theorem own_putFV (X : Stand p l e R s m args below meth c T locs k n) (hx : p.tables.exec = Jvm.exec) (hZ : Z.Warmed39 s.vm) {own R0 O nm d C : String} {index kk : Nat} {fty : FieldType} (hown : s.vm.findClass own = some m.cls) (w : (Jvm.Cond.fieldLink own index R0 nm d).before a0 Z = true) (via : Via Z R0 O nm d)
    (eT : T.heap = h) (N : Fr n0 locs) {u v : Value} (F : Fld Z h a O nm d u) (E : Exa Z h a C) (ga : n0 ≤ a) (lw : (Jvm.Cond.lays C O nm d).before a0 Z = true ∨ ((Jvm.Cond.laysFinal C O nm d).before a0 Z = true ∧ own = O ∧ meth.name = "<init>")) (wi : (Jvm.Cond.instantiable C kk).before a0 Z = true)
    (hty : parseFieldDescriptor d = some fty) (hn : narrow fty v = v) (hf : fits fty v = true) {rest : List Value} (hg : g.method = m) (hs : g.stack = v :: .ref a :: rest) (hd : decode c.code g.pc = .ok (.putfield index, 3)) :
    ∃ (T' : State) (h' : Heap) (locs' : List Loc), Stand p l e R s m args below meth c T' locs' k n ∧ T'.heap = h' ∧ Fr n0 locs' ∧ Wr h h' a (slotOf Z O nm d) v ∧ Fld Z h' a O nm d v ∧ ∀ t, Steps p.tables e below (T'.setTop { g with pc := g.pc + 3, stack := rest }) t → Steps p.tables e below (T.setTop g) t := by
  obtain ⟨T', h', X', e', W, st⟩ := putF X hx hZ hown (host := "") (Or.inl w) via eT F E lw wi (ty := fty) hty hn hf hg hs hd
  exact ⟨T', h', _, X', e', Fr.snoc X' N ga, W, F.same W, st⟩
theorem own_callF (X : Stand p l e R s m args below meth c T locs k n) (hx : p.tables.exec = Jvm.exec) (hZ : Z.Warmed39 s.vm) {own C : String} {index count : Nat} {xi y : MethodName} {bytes : ByteArray} {maxL W : Nat} {rt : Option FieldType} {rm : Room} {a : Addr} {argsL rest : List Value} {ps : List FieldType} {r : Option FieldType} {Qc : Option Value → Heap → List Loc → Prop}
    (hown : s.vm.findClass own = some m.cls) (w1 : (Jvm.Cond.methodLink own index xi).before a0 Z = true) (w2 : (Jvm.Cond.declares xi).before a0 Z = true) (w5 : (Jvm.Cond.interfaceMethod xi.cls xi.cls xi.name xi.desc).before a0 Z = true) (w6 : (Jvm.Cond.selects C xi y).before a0 Z = true) (w7 : (Jvm.Cond.instanceMethod y).before a0 Z = true) (w8 : (Jvm.Cond.publicMethod y).before a0 Z = true) (w9 : (Jvm.Cond.unhidden C xi.name xi.desc).before a0 Z = true) (w10 : (Jvm.Cond.castable C xi.cls).before a0 Z = true) (hfa : ((Jvm.Cond.interfaceMethod xi.cls xi.cls xi.name xi.desc).onTables && (Jvm.Cond.interfaceMethod xi.cls xi.cls xi.name xi.desc).keepsFace) = true) (w3 : (Jvm.Cond.initialized y.cls).before a0 Z = true) (w4 : (Jvm.Cond.code y bytes maxL rt).before a0 Z = true) (hy : xi.cls ≠ "java/lang/invoke/MethodHandle" ∧ xi.cls ≠ "java/lang/invoke/VarHandle")
    (E : Exa Z h a C)
    (hM : MetFree l y (head1 [Jvm.Cond.code y bytes maxL rt] rm) (fun a' U => a' = (Value.ref a :: argsL).toArray ∧ Z.Warmed39 U.vm ∧ U.heap = h) (fun _ _ _ _ _ => True) (fun _ U o U' => ∃ v L, o = .returned v ∧ Qc v U'.heap L ∧ FrameEnd U o U' L rm.cells rm.slots))
    (hf : rm.frames + 1 ≤ R.frames) (hl : W + (maxL + 11) + rm.locals ≤ R.locals) (hc : k + rm.cells ≤ R.cells) (hs : n + rm.slots ≤ R.slots) (eT : T.heap = h)
    (hg : g.method = m) (hsize : g.locals.size = c.maxLocals) (hd : parseMethodDescriptor xi.desc = some ⟨ps, r⟩) (hlen : argsL.length = ps.length) (hstack : g.stack = argsL.reverse ++ .ref a :: rest) (hW : 2 * g.monitorRoom + (rest.map fun v => v.category).sum ≤ W) (hdg : decode c.code g.pc = .ok (.invokeinterface index count, 5)) :
    ∃ v T' L, Stand p l e R s m args below meth c T' (locs ++ L) (k + rm.cells) (n + rm.slots) ∧ Qc v T'.heap L ∧ ∀ t, Steps p.tables e below (T'.setTop { g with pc := g.pc + 5, stack := v.toList ++ rest }) t → Steps p.tables e below (T.setTop g) t := by
  obtain ⟨cq, kq, q1, q2, q3⟩ := isOf hZ eT E
  obtain ⟨v, vm1, ⟨T', L', k', n'⟩, -, X', ⟨Lc, hQ, l1, y1, z1⟩, st⟩ := X.interfaceBack hx (xi := xi) (y := y) (index := index) (count := count) hown (mvT hZ w1) (mvT hZ w2) (mvT hZ w5 hfa) (mvT hZ w6) (mvT hZ w7) (mvT hZ w8) (mvT hZ w9) (mvT hZ w10) hy (backOf (W := W) hM hZ w4 w3 hf hl) q1 q2 q3 hg hsize (Steps.refl _) (argsL := argsL) (rest := rest) (lenOf hd hlen) hstack hW hdg (fun _ _ => ⟨rfl, eT, hc, hs⟩)
  dsimp only [Pt.U, Pt.locs, Pt.cells, Pt.slots] at X' l1 y1 z1 st hQ
  subst l1 y1 z1
  exact ⟨v, T', Lc, X', hQ, fun t k => st.trans k⟩
/-- a static that holds an empty array -/
theorem own_empty {C nm d : String} (w1 : (Jvm.Cond.arrayOf (Term.static C nm d) ty).value args Z none Z [] = some true) (w2 : (Jvm.Cond.eq (Term.length (Term.static C nm d)) (Term.int 0)).value args Z none Z [] = some true) (hi : (Jvm.Cond.initializedFor C nm d).before args Z = true ∨ ((Jvm.Cond.initialized C).before args Z = true ∧ (Jvm.Cond.laysStatic C nm d).before args Z = true)) : ∃ a : Addr, Sta Z Z.heap C nm d (.ref a) ∧ Ary Z Z.heap a ty 0 (fun _ => .null) := by
  obtain ⟨a, ev⟩ := arr_v w1
  obtain ⟨c, A⟩ := Arr.start ev w1
  have hat : Z.arrayAt? a = some c := Arr.fin (State.Warmed39.refl Z).alike A
  have hl : c.slots.size = 0 := by
    cases hlen : (Term.length (Term.static C nm d)).eval args Z none [] Z with
    | none => simp [Cond.value, hlen] at w2
    | some v =>
      by_cases hb : c.slots.size < 2 ^ 31
      · have q := len_f (t := Term.static C nm d) ev hat hb
        have z := gotT (Cond.eq_ints q (Term.int_eval (0))) w2
        have z2 := congrArg Int32.toInt z
        rw [len_toInt hb] at z2
        have z3 : (0 : Int32).toInt = 0 := rfl
        omega
      · have hb' : ¬ c.slots.size < 2147483648 := hb
        simp [Term.eval] at hlen ev
        simp [ev, hat, hb'] at hlen
  exact ⟨a, Sta.start ev hi, c, A, hl, by decide, fun i hi => absurd hi (Nat.not_lt_zero i)⟩
end OwnRefs
end Jvm.RoadKit
namespace Jvm.RoadKit
open Sem ClassFile Op Lib Jvm.Stand Jvm.Free Jvm.LawKit
section OwnBits2
/-- bits of longs, told by getLsbD -/
theorem bitsEq {x y : Int64} (h : ∀ i, i < 64 → x.toBitVec.getLsbD i = y.toBitVec.getLsbD i) : x = y := by
  apply Int64.toBitVec_inj.mp
  exact BitVec.eq_of_getLsbD_eq h
theorem bAnd (x y : Int64) (i : Nat) : (x &&& y).toBitVec.getLsbD i = (x.toBitVec.getLsbD i && y.toBitVec.getLsbD i) := by
  show (x.toBitVec &&& y.toBitVec).getLsbD i = _
  exact BitVec.getLsbD_and
theorem bOr (x y : Int64) (i : Nat) : (x ||| y).toBitVec.getLsbD i = (x.toBitVec.getLsbD i || y.toBitVec.getLsbD i) := by
  show (x.toBitVec ||| y.toBitVec).getLsbD i = _
  exact BitVec.getLsbD_or
theorem bXor (x y : Int64) (i : Nat) : (x ^^^ y).toBitVec.getLsbD i = (x.toBitVec.getLsbD i ^^ y.toBitVec.getLsbD i) := by
  show (x.toBitVec ^^^ y.toBitVec).getLsbD i = _
  exact BitVec.getLsbD_xor
theorem bZero (i : Nat) : (0 : Int64).toBitVec.getLsbD i = false := by
  show (0#64).getLsbD i = false
  simp
theorem bTop {x : Int64} {b : Nat} (h : x.toBitVec.toNat < 2 ^ b) {i : Nat} (hi : b ≤ i) : x.toBitVec.getLsbD i = false :=
  Nat.testBit_lt_two_pow (Nat.lt_of_lt_of_le h (Nat.pow_le_pow_right (by omega) hi))
theorem amt (y : Int32) {k : Nat} (hy : y.toInt = k) (hk : k < 64) : (y.toInt64 &&& 63) = Int64.ofNat k := by
  have h := Jvm.Kit.i64_mask y.toInt64 63 (k := 6) (by decide) (by decide)
  have e : (Int64.ofNat k).toInt = (k : Int) := by first | exact Int64.toInt_ofNat_of_lt (by omega) | exact Int64.toInt_ofNat_small (by omega)
  rw [i64eq, h, Jvm.Kit.i64_of_i32, hy, e]; omega
theorem amtL : ∀ k : Fin 64, ((Int64.ofNat k.val).toBitVec.smod 64).toNat = k.val := by decide
theorem amtR : ∀ k : Fin 64, ((Int64.ofNat k.val).toUInt64.toBitVec % 64).toNat = k.val := by decide
theorem bShl (x : Int64) (y : Int32) {k : Nat} (hy : y.toInt = k) (hk : k < 64) {i : Nat} (hi : i < 64) : (x <<< (y.toInt64 &&& 63)).toBitVec.getLsbD i = (decide (k ≤ i) && x.toBitVec.getLsbD (i - k)) := by
  rw [amt y hy hk, Int64.toBitVec_shiftLeft, BitVec.shiftLeft_eq', amtL ⟨k, hk⟩, BitVec.getLsbD_shiftLeft]
  by_cases q : k ≤ i
  · have q' : ¬ i < k := by omega
    simp [q, q', hi]
  · have q' : i < k := by omega
    simp [q, q', hi]
theorem bShr (x : Int64) (y : Int32) {k : Nat} (hy : y.toInt = k) (hk : k < 64) (i : Nat) : (XT.ushrL x y).toBitVec.getLsbD i = x.toBitVec.getLsbD (k + i) := by
  have e : (y.toInt64.toUInt64 &&& Int64.toUInt64 63) = (Int64.ofNat k).toUInt64 := congrArg Int64.toUInt64 (amt y hy hk)
  unfold XT.ushrL
  rw [e]
  show (x.toUInt64 >>> (Int64.ofNat k).toUInt64).toBitVec.getLsbD i = _
  rw [UInt64.toBitVec_shiftRight, BitVec.ushiftRight_eq', amtR ⟨k, hk⟩, BitVec.getLsbD_ushiftRight]
  rfl
theorem natOfL {x : Int64} (h : 0 ≤ x.toInt) : x.toBitVec.toNat = x.toInt.toNat := by
  have e : x.toInt = x.toBitVec.toInt := rfl
  have e2 := x.toBitVec.isLt
  rw [e, BitVec.toInt_eq_toNat_cond] at h ⊢
  split at h <;> split <;> omega
theorem int64nat {x : Int64} {n : Nat} (h : x.toBitVec.toNat ≤ n) (hn : n < 2 ^ 63) : 0 ≤ x.toInt ∧ x.toInt ≤ n := by
  have e : x.toInt = x.toBitVec.toInt := rfl
  rw [e, BitVec.toInt_eq_toNat_of_lt (by omega)]; omega
theorem nat64lt {x : Int64} {b : Nat} (h : 0 ≤ x.toInt) (h2 : x.toInt < ((2 ^ b : Nat) : Int)) : x.toBitVec.toNat < 2 ^ b := by
  rw [natOfL h]; omega
theorem back32L {x : Int64} (h1 : 0 ≤ x.toInt) (h2 : x.toInt < 2147483648) : (x.toInt32).toInt64 = x := by
  rw [i64eq, Jvm.Kit.i64_of_i32, Jvm.Kit.i32_of_i64 (by omega) (by omega)]
theorem back64I (x : Int32) : (x.toInt64).toInt32 = x := by
  have h1 := Int32.le_toInt x
  have h2 := Int32.toInt_lt x
  have e := Jvm.Kit.i64_of_i32 x
  rw [i32eq, Jvm.Kit.i32_of_i64 (by omega) (by omega), e]
/-- a field of b bits at the place s: written and read back -/
theorem own_field (t v C M : Int64) (y : Int32) (s b : Nat) (hs : s + b ≤ 64) (hs64 : s < 64) (hy : y.toInt = s) (hC : ∀ i : Fin 64, C.toBitVec.getLsbD i.val = !(decide (s ≤ i.val) && decide (i.val < s + b))) (hM : ∀ i : Fin 64, M.toBitVec.getLsbD i.val = decide (i.val < b)) (hv : v.toBitVec.toNat < 2 ^ b) :
    ((((t &&& C) ||| (v <<< (y.toInt64 &&& 63))) ^^^ t) &&& C) = 0 ∧ (XT.ushrL ((t &&& C) ||| (v <<< (y.toInt64 &&& 63))) y &&& M) = v := by
  constructor
  · apply bitsEq
    intro i hi
    rw [bAnd, bXor, bOr, bAnd, bShl v y hy hs64 hi, hC ⟨i, hi⟩, bZero]
    by_cases q1 : s ≤ i
    · by_cases q2 : i < s + b
      · simp [q1, q2]
      · rw [bTop hv (show b ≤ i - s by omega)]
        simp [q2]
    · simp [q1]
  · apply bitsEq
    intro i hi
    rw [bAnd, bShr _ y hy hs64, hM ⟨i, hi⟩]
    by_cases q : i < b
    · rw [bOr, bAnd, bShl v y hy hs64 (show s + i < 64 by omega), hC ⟨s + i, by omega⟩]
      have q1 : s ≤ s + i := by omega
      have q2 : s + i < s + b := by omega
      have q3 : s + i - s = i := by omega
      simp [q, q1, q2, q3]
    · rw [bTop hv (show b ≤ i by omega)]
      simp [q]
end OwnBits2
end Jvm.RoadKit
namespace Jvm.Pilot.@@N@@
open Jvm Jvm.ClassFile Sem Op Lib Jvm.Free Jvm.Stand Jvm.LawKit Jvm.RoadKit Bundle Jvm.Pilot.@@N@@.Jvm.D
abbrev Y0 : MethodName := ⟨"java/util/AbstractCollection", "<init>", "()V"⟩
abbrev Y1 : MethodName := ⟨"java/util/AbstractList", "<init>", "()V"⟩
abbrev Y2 : MethodName := ⟨"java/util/ArrayList", "<init>", "()V"⟩
abbrev Y3 : MethodName := ⟨"java/lang/Record", "<init>", "()V"⟩
abbrev Y4 : MethodName := ⟨"com/example/ken2/ken2/InterpretedSystem$Variable", "<init>", "(Ljava/lang/String;Ljava/lang/String;Ljava/util/List;II)V"⟩
abbrev Y5 : MethodName := ⟨"java/lang/Math", "max", "(II)I"⟩
abbrev Y6 : MethodName := ⟨"java/util/ArrayList", "grow", "(I)[Ljava/lang/Object;"⟩
abbrev Y7 : MethodName := ⟨"java/util/ArrayList", "grow", "()[Ljava/lang/Object;"⟩
abbrev Y8 : MethodName := ⟨"java/util/ArrayList", "add", "(Ljava/lang/Object;[Ljava/lang/Object;I)V"⟩
abbrev Y9 : MethodName := ⟨"java/util/ArrayList", "add", "(Ljava/lang/Object;)Z"⟩
abbrev Y10 : MethodName := ⟨"java/util/List", "size", "()I"⟩
abbrev Y11 : MethodName := ⟨"java/util/ArrayList", "size", "()I"⟩
abbrev Y12 : MethodName := ⟨"jdk/internal/util/Preconditions", "checkIndex", "(IILjava/util/function/BiFunction;)I"⟩
abbrev Y13 : MethodName := ⟨"java/util/Objects", "checkIndex", "(II)I"⟩
abbrev Y14 : MethodName := ⟨"java/util/ArrayList", "elementData", "(I)Ljava/lang/Object;"⟩
abbrev Y15 : MethodName := ⟨"java/util/List", "get", "(I)Ljava/lang/Object;"⟩
abbrev Y16 : MethodName := ⟨"java/util/ArrayList", "get", "(I)Ljava/lang/Object;"⟩
abbrev Y17 : MethodName := ⟨"com/example/ken2/ken2/InterpretedSystem$Variable", "size", "()I"⟩
abbrev Y18 : MethodName := ⟨"java/lang/Integer", "numberOfLeadingZeros", "(I)I"⟩
abbrev Y19 : MethodName := ⟨"com/example/ken2/ken2/StateLayout", "<init>", "(Ljava/util/List;)V"⟩
abbrev Y20 : MethodName := ⟨"com/example/ken2/ken2/StateLayout", "set", "([JIJ)V"⟩
abbrev Y21 : MethodName := ⟨"com/example/ken2/ken2/StateLayout", "valueAt", "([JII)I"⟩
abbrev Y22 : MethodName := ⟨"com/example/ken2/ken2/StateLayout", "value", "([JI)I"⟩
/-! body 11: java/lang/Math.max:(II)I -/
theorem d11_0 : decode jdk_29_method_65_code 0 = .ok (.iload_n 0, 1) := by decide +kernel
theorem d11_1 : decode jdk_29_method_65_code 1 = .ok (.iload_n 1, 1) := by decide +kernel
theorem d11_2 : decode jdk_29_method_65_code 2 = .ok (.if_icmp .lt 7, 3) := by decide +kernel
theorem d11_5 : decode jdk_29_method_65_code 5 = .ok (.iload_n 0, 1) := by decide +kernel
theorem d11_6 : decode jdk_29_method_65_code 6 = .ok (.goto 4, 3) := by decide +kernel
theorem d11_9 : decode jdk_29_method_65_code 9 = .ok (.iload_n 1, 1) := by decide +kernel
theorem d11_10 : decode jdk_29_method_65_code 10 = .ok (.ireturn, 1) := by decide +kernel
theorem ef_11 (m : MethodId) (p0 : Int32) (p1 : Int32) : entryFrame m #[(.int p0), (.int p1)] 2 = mkF m 0 #[.val (.int p0), .val (.int p1)] [] := by first | (simp [entryFrame, mkF, argsToLocals, Value.category]; done) | rfl
def f11_0 (p0 : Int32) (p1 : Int32) : Int32 := (if p0 < p1 then p1 else p0)
set_option maxRecDepth 65536 in
set_option maxHeartbeats 40000000 in
theorem j11_0 {p : Program} {l : Launch} {e : Env} {s : State} {m : MethodId} {args : Array Value} {below : List Frame} {meth : Method} {c : Code} {T0 : State} {locs : List Loc} {Z : State} {a0 : Array Value} {h0 : Heap} {n0 : Nat}
    (X0 : Stand p l e ({ frames := 0, cells := 0, slots := 0, locals := 0 } : Room) s m args below meth c T0 locs 0 0) (hx : p.tables.exec = Jvm.exec) (hZ : Z.Warmed39 s.vm) (hw : ∀ d ∈ tables_1, d.before a0 Z = true) (hby : c.code = jdk_29_method_65_code) (hml : c.maxLocals = 2) (hown : s.vm.findClass "java/lang/Math" = some m.cls) (e0 : T0.heap = h0) (N0 : Fr n0 locs) (Z0 : n0 ≤ h0.size) (p0 : Int32) (p1 : Int32) :
    OwnFin X0 (some .int) (PQ (some (.int (f11_0 p0 p1))) h0 n0) 0 0 (mkF m 0 #[.val (.int p0), .val (.int p1)] []) := by
  show OwnFin X0 (some .int) (PQ (some (.int (if p0 < p1 then p1 else p0))) h0 n0) 0 0 _
  refine ost (mkF m 1 #[.val (.int p0), .val (.int p1)] [(.int p0)]) X0 (fun t k => XS.iloadN X0.here hx rfl (hb hby d11_0) rfl k) ?_
  refine ost (mkF m 2 #[.val (.int p0), .val (.int p1)] [(.int p1), (.int p0)]) X0 (fun t k => XS.iloadN X0.here hx rfl (hb hby d11_1) rfl k) ?_
  by_cases hc1 : p0 < p1
  · rw [if_pos hc1]
    refine ost (mkF m 9 #[.val (.int p0), .val (.int p1)] []) X0 (fun t k => XS.icmpYes X0.here hx rfl (pc0 := 2) (pc' := 9) rfl (hb hby d11_2) rfl (tlt hc1).1 (by decide) (by decide) k) ?_
    refine ost (mkF m 10 #[.val (.int p0), .val (.int p1)] [(.int p1)]) X0 (fun t k => XS.iloadN X0.here hx rfl (hb hby d11_9) rfl k) ?_
    exact OwnFin.retInt X0 (hb hby d11_10) (Nat.le_refl _) (Nat.le_refl _) ⟨rfl, e0, N0⟩
  · rw [if_neg hc1]
    refine ost (mkF m 5 #[.val (.int p0), .val (.int p1)] []) X0 (fun t k => XS.icmpNo X0.here hx rfl (hb hby d11_2) rfl (flt hc1).1 k) ?_
    refine ost (mkF m 6 #[.val (.int p0), .val (.int p1)] [(.int p0)]) X0 (fun t k => XS.iloadN X0.here hx rfl (hb hby d11_5) rfl k) ?_
    refine ost (mkF m 10 #[.val (.int p0), .val (.int p1)] [(.int p0)]) X0 (fun t k => XS.goto X0.here hx rfl (pc0 := 6) (pc' := 10) rfl (hb hby d11_6) (by decide) (by decide) k) ?_
    exact OwnFin.retInt X0 (hb hby d11_10) (Nat.le_refl _) (Nat.le_refl _) ⟨rfl, e0, N0⟩
def r11 (p0 : Int32) (p1 : Int32) : Int32 := f11_0 p0 p1
set_option maxRecDepth 65536 in
set_option maxHeartbeats 40000000 in
theorem rm11 (l : Launch) (Z : State) (a0 : Array Value) (hw : ∀ d ∈ tables_1, d.before a0 Z = true) (ws : List Jvm.Cond) (p0 : Int32) (p1 : Int32) (h0 : Heap) (n0 : Nat) (Z0 : n0 ≤ h0.size) :
    MetFree l Y5 (head1 (Jvm.Cond.code Y5 jdk_29_method_65_code 2 (some .int) :: ws) ({ frames := 0, cells := 0, slots := 0, locals := 0 } : Room)) (fun a U => a = #[(.int p0), (.int p1)] ∧ Z.Warmed39 U.vm ∧ U.heap = h0) (fun _ _ _ _ _ => True) (fun _ U o U' => ∃ v L, o = .returned v ∧ PQ (some (.int (r11 p0 p1))) h0 n0 v U'.heap L ∧ FrameEnd U o U' L ({ frames := 0, cells := 0, slots := 0, locals := 0 } : Room).cells ({ frames := 0, cells := 0, slots := 0, locals := 0 } : Room).slots) :=
  own_met (ret := (some .int)) (Jvm.Free.JP.mathPlain rfl (by decide +kernel)) (fun m => ef_11 m p0 p1) (fun p e s m below meth c s₁ X hx hby hml hown hnm hZ e0 => OwnFin.wide (j11_0 X hx hZ hw hby hml hown e0 (Fr.nil n0) Z0 p0 p1) (Nat.zero_le _) (Nat.zero_le _))
/-! body 19: java/lang/Integer.numberOfLeadingZeros:(I)I -/
theorem d19_0 : decode jdk_33_method_47_code 0 = .ok (.iload_n 0, 1) := by decide +kernel
theorem d19_1 : decode jdk_33_method_47_code 1 = .ok (.ifCond .gt 14, 3) := by decide +kernel
theorem d19_4 : decode jdk_33_method_47_code 4 = .ok (.iload_n 0, 1) := by decide +kernel
theorem d19_5 : decode jdk_33_method_47_code 5 = .ok (.ifCond .ne 8, 3) := by decide +kernel
theorem d19_8 : decode jdk_33_method_47_code 8 = .ok (.bipush 32, 2) := by decide +kernel
theorem d19_10 : decode jdk_33_method_47_code 10 = .ok (.goto 4, 3) := by decide +kernel
theorem d19_13 : decode jdk_33_method_47_code 13 = .ok (.iconst 0, 1) := by decide +kernel
theorem d19_14 : decode jdk_33_method_47_code 14 = .ok (.ireturn, 1) := by decide +kernel
theorem d19_15 : decode jdk_33_method_47_code 15 = .ok (.bipush 31, 2) := by decide +kernel
theorem d19_17 : decode jdk_33_method_47_code 17 = .ok (.istore_n 1, 1) := by decide +kernel
theorem d19_18 : decode jdk_33_method_47_code 18 = .ok (.iload_n 0, 1) := by decide +kernel
theorem d19_19 : decode jdk_33_method_47_code 19 = .ok (.ldc_w 264, 3) := by decide +kernel
theorem d19_22 : decode jdk_33_method_47_code 22 = .ok (.if_icmp .lt 11, 3) := by decide +kernel
theorem d19_25 : decode jdk_33_method_47_code 25 = .ok (.iinc 1 (-16), 3) := by decide +kernel
theorem d19_28 : decode jdk_33_method_47_code 28 = .ok (.iload_n 0, 1) := by decide +kernel
theorem d19_29 : decode jdk_33_method_47_code 29 = .ok (.bipush 16, 2) := by decide +kernel
theorem d19_31 : decode jdk_33_method_47_code 31 = .ok (.iushr, 1) := by decide +kernel
theorem d19_32 : decode jdk_33_method_47_code 32 = .ok (.istore_n 0, 1) := by decide +kernel
theorem d19_33 : decode jdk_33_method_47_code 33 = .ok (.iload_n 0, 1) := by decide +kernel
theorem d19_34 : decode jdk_33_method_47_code 34 = .ok (.sipush 256, 3) := by decide +kernel
theorem d19_37 : decode jdk_33_method_47_code 37 = .ok (.if_icmp .lt 11, 3) := by decide +kernel
theorem d19_40 : decode jdk_33_method_47_code 40 = .ok (.iinc 1 (-8), 3) := by decide +kernel
theorem d19_43 : decode jdk_33_method_47_code 43 = .ok (.iload_n 0, 1) := by decide +kernel
theorem d19_44 : decode jdk_33_method_47_code 44 = .ok (.bipush 8, 2) := by decide +kernel
theorem d19_46 : decode jdk_33_method_47_code 46 = .ok (.iushr, 1) := by decide +kernel
theorem d19_47 : decode jdk_33_method_47_code 47 = .ok (.istore_n 0, 1) := by decide +kernel
theorem d19_48 : decode jdk_33_method_47_code 48 = .ok (.iload_n 0, 1) := by decide +kernel
theorem d19_49 : decode jdk_33_method_47_code 49 = .ok (.bipush 16, 2) := by decide +kernel
theorem d19_51 : decode jdk_33_method_47_code 51 = .ok (.if_icmp .lt 10, 3) := by decide +kernel
theorem d19_54 : decode jdk_33_method_47_code 54 = .ok (.iinc 1 (-4), 3) := by decide +kernel
theorem d19_57 : decode jdk_33_method_47_code 57 = .ok (.iload_n 0, 1) := by decide +kernel
theorem d19_58 : decode jdk_33_method_47_code 58 = .ok (.iconst 4, 1) := by decide +kernel
theorem d19_59 : decode jdk_33_method_47_code 59 = .ok (.iushr, 1) := by decide +kernel
theorem d19_60 : decode jdk_33_method_47_code 60 = .ok (.istore_n 0, 1) := by decide +kernel
theorem d19_61 : decode jdk_33_method_47_code 61 = .ok (.iload_n 0, 1) := by decide +kernel
theorem d19_62 : decode jdk_33_method_47_code 62 = .ok (.iconst 4, 1) := by decide +kernel
theorem d19_63 : decode jdk_33_method_47_code 63 = .ok (.if_icmp .lt 10, 3) := by decide +kernel
theorem d19_66 : decode jdk_33_method_47_code 66 = .ok (.iinc 1 (-2), 3) := by decide +kernel
theorem d19_69 : decode jdk_33_method_47_code 69 = .ok (.iload_n 0, 1) := by decide +kernel
theorem d19_70 : decode jdk_33_method_47_code 70 = .ok (.iconst 2, 1) := by decide +kernel
theorem d19_71 : decode jdk_33_method_47_code 71 = .ok (.iushr, 1) := by decide +kernel
theorem d19_72 : decode jdk_33_method_47_code 72 = .ok (.istore_n 0, 1) := by decide +kernel
theorem d19_73 : decode jdk_33_method_47_code 73 = .ok (.iload_n 1, 1) := by decide +kernel
theorem d19_74 : decode jdk_33_method_47_code 74 = .ok (.iload_n 0, 1) := by decide +kernel
theorem d19_75 : decode jdk_33_method_47_code 75 = .ok (.iconst 1, 1) := by decide +kernel
theorem d19_76 : decode jdk_33_method_47_code 76 = .ok (.iushr, 1) := by decide +kernel
theorem d19_77 : decode jdk_33_method_47_code 77 = .ok (.isub, 1) := by decide +kernel
theorem d19_78 : decode jdk_33_method_47_code 78 = .ok (.ireturn, 1) := by decide +kernel
theorem pn_19 : plainName "java/lang/Integer" = true := by first | (simp [plainName, overriddenIn]; done) | decide +kernel
theorem ef_19 (m : MethodId) (p0 : Int32) : entryFrame m #[(.int p0)] 2 = mkF m 0 #[.val (.int p0), .unset] [] := by first | (simp [entryFrame, mkF, argsToLocals, Value.category]; done) | rfl
def v19_32 (p0 : Int32) : Int32 := (XT.ushr p0 (16 : Int32))
def v19_40 (x33_1 : Int32) : Int32 := (x33_1 + (-8 : Int32))
def v19_47 (x33_0 : Int32) : Int32 := (XT.ushr x33_0 (8 : Int32))
def v19_54 (x48_1 : Int32) : Int32 := (x48_1 + (-4 : Int32))
def v19_60 (x48_0 : Int32) : Int32 := (XT.ushr x48_0 (4 : Int32))
def v19_66 (x61_1 : Int32) : Int32 := (x61_1 + (-2 : Int32))
def v19_72 (x61_0 : Int32) : Int32 := (XT.ushr x61_0 (2 : Int32))
def f19_61 (x61_0 : Int32) (x61_1 : Int32) : Int32 := (if x61_0 < (4 : Int32) then (x61_1 - (XT.ushr x61_0 (1 : Int32))) else ((v19_66 x61_1) - (XT.ushr (v19_72 x61_0) (1 : Int32))))
set_option maxRecDepth 65536 in
set_option maxHeartbeats 40000000 in
theorem j19_61 {p : Program} {l : Launch} {e : Env} {s : State} {m : MethodId} {args : Array Value} {below : List Frame} {meth : Method} {c : Code} {T0 : State} {locs : List Loc} {Z : State} {a0 : Array Value} {h0 : Heap} {n0 : Nat}
    (X0 : Stand p l e ({ frames := 0, cells := 0, slots := 0, locals := 0 } : Room) s m args below meth c T0 locs 0 0) (hx : p.tables.exec = Jvm.exec) (hZ : Z.Warmed39 s.vm) (hw : ∀ d ∈ tables_1, d.before a0 Z = true) (hby : c.code = jdk_33_method_47_code) (hml : c.maxLocals = 2) (hown : s.vm.findClass "java/lang/Integer" = some m.cls) (e0 : T0.heap = h0) (N0 : Fr n0 locs) (Z0 : n0 ≤ h0.size) (x61_0 : Int32) (x61_1 : Int32) :
    OwnFin X0 (some .int) (PQ (some (.int (f19_61 x61_0 x61_1))) h0 n0) 0 0 (mkF m 61 #[.val (.int x61_0), .val (.int x61_1)] []) := by
  show OwnFin X0 (some .int) (PQ (some (.int (if x61_0 < (4 : Int32) then (x61_1 - (XT.ushr x61_0 (1 : Int32))) else ((v19_66 x61_1) - (XT.ushr (v19_72 x61_0) (1 : Int32)))))) h0 n0) 0 0 _
  refine ost (mkF m 62 #[.val (.int x61_0), .val (.int x61_1)] [(.int x61_0)]) X0 (fun t k => XS.iloadN X0.here hx rfl (hb hby d19_61) rfl k) ?_
  refine ost (mkF m 63 #[.val (.int x61_0), .val (.int x61_1)] [(.int (4 : Int32)), (.int x61_0)]) X0 (fun t k => XS.iconst X0.here hx rfl (hb hby d19_62) k) ?_
  by_cases hc6 : x61_0 < (4 : Int32)
  · rw [if_pos hc6]
    refine ost (mkF m 73 #[.val (.int x61_0), .val (.int x61_1)] []) X0 (fun t k => XS.icmpYes X0.here hx rfl (pc0 := 63) (pc' := 73) rfl (hb hby d19_63) rfl (tlt hc6).1 (by decide) (by decide) k) ?_
    refine ost (mkF m 74 #[.val (.int x61_0), .val (.int x61_1)] [(.int x61_1)]) X0 (fun t k => XS.iloadN X0.here hx rfl (hb hby d19_73) rfl k) ?_
    refine ost (mkF m 75 #[.val (.int x61_0), .val (.int x61_1)] [(.int x61_0), (.int x61_1)]) X0 (fun t k => XS.iloadN X0.here hx rfl (hb hby d19_74) rfl k) ?_
    refine ost (mkF m 76 #[.val (.int x61_0), .val (.int x61_1)] [(.int (1 : Int32)), (.int x61_0), (.int x61_1)]) X0 (fun t k => XS.iconst X0.here hx rfl (hb hby d19_75) k) ?_
    refine ost (mkF m 77 #[.val (.int x61_0), .val (.int x61_1)] [(.int (XT.ushr x61_0 (1 : Int32))), (.int x61_1)]) X0 (fun t k => XT.iushr X0.here hx rfl (hb hby d19_76) rfl k) ?_
    refine ost (mkF m 78 #[.val (.int x61_0), .val (.int x61_1)] [(.int (x61_1 - (XT.ushr x61_0 (1 : Int32))))]) X0 (fun t k => XS.isub X0.here hx rfl (hb hby d19_77) rfl k) ?_
    exact OwnFin.retInt X0 (hb hby d19_78) (Nat.le_refl _) (Nat.le_refl _) ⟨rfl, e0, N0⟩
  · rw [if_neg hc6]
    refine ost (mkF m 66 #[.val (.int x61_0), .val (.int x61_1)] []) X0 (fun t k => XS.icmpNo X0.here hx rfl (hb hby d19_63) rfl (flt hc6).1 k) ?_
    refine ost (mkF m 69 #[.val (.int x61_0), .val (.int (v19_66 x61_1))] []) X0 (fun t k => XS.iinc X0.here hx rfl (hb hby d19_66) rfl (l' := #[.val (.int x61_0), .val (.int (v19_66 x61_1))]) rfl k) ?_
    refine ost (mkF m 70 #[.val (.int x61_0), .val (.int (v19_66 x61_1))] [(.int x61_0)]) X0 (fun t k => XS.iloadN X0.here hx rfl (hb hby d19_69) rfl k) ?_
    refine ost (mkF m 71 #[.val (.int x61_0), .val (.int (v19_66 x61_1))] [(.int (2 : Int32)), (.int x61_0)]) X0 (fun t k => XS.iconst X0.here hx rfl (hb hby d19_70) k) ?_
    refine ost (mkF m 72 #[.val (.int x61_0), .val (.int (v19_66 x61_1))] [(.int (XT.ushr x61_0 (2 : Int32)))]) X0 (fun t k => XT.iushr X0.here hx rfl (hb hby d19_71) rfl k) ?_
    refine ost (mkF m 73 #[.val (.int (v19_72 x61_0)), .val (.int (v19_66 x61_1))] []) X0 (fun t k => XS.istoreN X0.here hx rfl (hb hby d19_72) rfl (l' := #[.val (.int (v19_72 x61_0)), .val (.int (v19_66 x61_1))]) rfl k) ?_
    refine ost (mkF m 74 #[.val (.int (v19_72 x61_0)), .val (.int (v19_66 x61_1))] [(.int (v19_66 x61_1))]) X0 (fun t k => XS.iloadN X0.here hx rfl (hb hby d19_73) rfl k) ?_
    refine ost (mkF m 75 #[.val (.int (v19_72 x61_0)), .val (.int (v19_66 x61_1))] [(.int (v19_72 x61_0)), (.int (v19_66 x61_1))]) X0 (fun t k => XS.iloadN X0.here hx rfl (hb hby d19_74) rfl k) ?_
    refine ost (mkF m 76 #[.val (.int (v19_72 x61_0)), .val (.int (v19_66 x61_1))] [(.int (1 : Int32)), (.int (v19_72 x61_0)), (.int (v19_66 x61_1))]) X0 (fun t k => XS.iconst X0.here hx rfl (hb hby d19_75) k) ?_
    refine ost (mkF m 77 #[.val (.int (v19_72 x61_0)), .val (.int (v19_66 x61_1))] [(.int (XT.ushr (v19_72 x61_0) (1 : Int32))), (.int (v19_66 x61_1))]) X0 (fun t k => XT.iushr X0.here hx rfl (hb hby d19_76) rfl k) ?_
    refine ost (mkF m 78 #[.val (.int (v19_72 x61_0)), .val (.int (v19_66 x61_1))] [(.int ((v19_66 x61_1) - (XT.ushr (v19_72 x61_0) (1 : Int32))))]) X0 (fun t k => XS.isub X0.here hx rfl (hb hby d19_77) rfl k) ?_
    exact OwnFin.retInt X0 (hb hby d19_78) (Nat.le_refl _) (Nat.le_refl _) ⟨rfl, e0, N0⟩
def f19_48 (x48_0 : Int32) (x48_1 : Int32) : Int32 := (if x48_0 < (16 : Int32) then (f19_61 x48_0 x48_1) else (f19_61 (v19_60 x48_0) (v19_54 x48_1)))
set_option maxRecDepth 65536 in
set_option maxHeartbeats 40000000 in
theorem j19_48 {p : Program} {l : Launch} {e : Env} {s : State} {m : MethodId} {args : Array Value} {below : List Frame} {meth : Method} {c : Code} {T0 : State} {locs : List Loc} {Z : State} {a0 : Array Value} {h0 : Heap} {n0 : Nat}
    (X0 : Stand p l e ({ frames := 0, cells := 0, slots := 0, locals := 0 } : Room) s m args below meth c T0 locs 0 0) (hx : p.tables.exec = Jvm.exec) (hZ : Z.Warmed39 s.vm) (hw : ∀ d ∈ tables_1, d.before a0 Z = true) (hby : c.code = jdk_33_method_47_code) (hml : c.maxLocals = 2) (hown : s.vm.findClass "java/lang/Integer" = some m.cls) (e0 : T0.heap = h0) (N0 : Fr n0 locs) (Z0 : n0 ≤ h0.size) (x48_0 : Int32) (x48_1 : Int32) :
    OwnFin X0 (some .int) (PQ (some (.int (f19_48 x48_0 x48_1))) h0 n0) 0 0 (mkF m 48 #[.val (.int x48_0), .val (.int x48_1)] []) := by
  show OwnFin X0 (some .int) (PQ (some (.int (if x48_0 < (16 : Int32) then (f19_61 x48_0 x48_1) else (f19_61 (v19_60 x48_0) (v19_54 x48_1))))) h0 n0) 0 0 _
  refine ost (mkF m 49 #[.val (.int x48_0), .val (.int x48_1)] [(.int x48_0)]) X0 (fun t k => XS.iloadN X0.here hx rfl (hb hby d19_48) rfl k) ?_
  refine ost (mkF m 51 #[.val (.int x48_0), .val (.int x48_1)] [(.int (16 : Int32)), (.int x48_0)]) X0 (fun t k => XS.bipush X0.here hx rfl (hb hby d19_49) k) ?_
  by_cases hc5 : x48_0 < (16 : Int32)
  · rw [if_pos hc5]
    refine ost (mkF m 61 #[.val (.int x48_0), .val (.int x48_1)] []) X0 (fun t k => XS.icmpYes X0.here hx rfl (pc0 := 51) (pc' := 61) rfl (hb hby d19_51) rfl (tlt hc5).1 (by decide) (by decide) k) ?_
    exact j19_61 X0 hx hZ hw hby hml hown e0 N0 Z0 x48_0 x48_1
  · rw [if_neg hc5]
    refine ost (mkF m 54 #[.val (.int x48_0), .val (.int x48_1)] []) X0 (fun t k => XS.icmpNo X0.here hx rfl (hb hby d19_51) rfl (flt hc5).1 k) ?_
    refine ost (mkF m 57 #[.val (.int x48_0), .val (.int (v19_54 x48_1))] []) X0 (fun t k => XS.iinc X0.here hx rfl (hb hby d19_54) rfl (l' := #[.val (.int x48_0), .val (.int (v19_54 x48_1))]) rfl k) ?_
    refine ost (mkF m 58 #[.val (.int x48_0), .val (.int (v19_54 x48_1))] [(.int x48_0)]) X0 (fun t k => XS.iloadN X0.here hx rfl (hb hby d19_57) rfl k) ?_
    refine ost (mkF m 59 #[.val (.int x48_0), .val (.int (v19_54 x48_1))] [(.int (4 : Int32)), (.int x48_0)]) X0 (fun t k => XS.iconst X0.here hx rfl (hb hby d19_58) k) ?_
    refine ost (mkF m 60 #[.val (.int x48_0), .val (.int (v19_54 x48_1))] [(.int (XT.ushr x48_0 (4 : Int32)))]) X0 (fun t k => XT.iushr X0.here hx rfl (hb hby d19_59) rfl k) ?_
    refine ost (mkF m 61 #[.val (.int (v19_60 x48_0)), .val (.int (v19_54 x48_1))] []) X0 (fun t k => XS.istoreN X0.here hx rfl (hb hby d19_60) rfl (l' := #[.val (.int (v19_60 x48_0)), .val (.int (v19_54 x48_1))]) rfl k) ?_
    exact j19_61 X0 hx hZ hw hby hml hown e0 N0 Z0 (v19_60 x48_0) (v19_54 x48_1)
def f19_33 (x33_0 : Int32) (x33_1 : Int32) : Int32 := (if x33_0 < (256 : Int32) then (f19_48 x33_0 x33_1) else (f19_48 (v19_47 x33_0) (v19_40 x33_1)))
set_option maxRecDepth 65536 in
set_option maxHeartbeats 40000000 in
theorem j19_33 {p : Program} {l : Launch} {e : Env} {s : State} {m : MethodId} {args : Array Value} {below : List Frame} {meth : Method} {c : Code} {T0 : State} {locs : List Loc} {Z : State} {a0 : Array Value} {h0 : Heap} {n0 : Nat}
    (X0 : Stand p l e ({ frames := 0, cells := 0, slots := 0, locals := 0 } : Room) s m args below meth c T0 locs 0 0) (hx : p.tables.exec = Jvm.exec) (hZ : Z.Warmed39 s.vm) (hw : ∀ d ∈ tables_1, d.before a0 Z = true) (hby : c.code = jdk_33_method_47_code) (hml : c.maxLocals = 2) (hown : s.vm.findClass "java/lang/Integer" = some m.cls) (e0 : T0.heap = h0) (N0 : Fr n0 locs) (Z0 : n0 ≤ h0.size) (x33_0 : Int32) (x33_1 : Int32) :
    OwnFin X0 (some .int) (PQ (some (.int (f19_33 x33_0 x33_1))) h0 n0) 0 0 (mkF m 33 #[.val (.int x33_0), .val (.int x33_1)] []) := by
  show OwnFin X0 (some .int) (PQ (some (.int (if x33_0 < (256 : Int32) then (f19_48 x33_0 x33_1) else (f19_48 (v19_47 x33_0) (v19_40 x33_1))))) h0 n0) 0 0 _
  refine ost (mkF m 34 #[.val (.int x33_0), .val (.int x33_1)] [(.int x33_0)]) X0 (fun t k => XS.iloadN X0.here hx rfl (hb hby d19_33) rfl k) ?_
  refine ost (mkF m 37 #[.val (.int x33_0), .val (.int x33_1)] [(.int (256 : Int32)), (.int x33_0)]) X0 (fun t k => XS.sipush X0.here hx rfl (hb hby d19_34) k) ?_
  by_cases hc4 : x33_0 < (256 : Int32)
  · rw [if_pos hc4]
    refine ost (mkF m 48 #[.val (.int x33_0), .val (.int x33_1)] []) X0 (fun t k => XS.icmpYes X0.here hx rfl (pc0 := 37) (pc' := 48) rfl (hb hby d19_37) rfl (tlt hc4).1 (by decide) (by decide) k) ?_
    exact j19_48 X0 hx hZ hw hby hml hown e0 N0 Z0 x33_0 x33_1
  · rw [if_neg hc4]
    refine ost (mkF m 40 #[.val (.int x33_0), .val (.int x33_1)] []) X0 (fun t k => XS.icmpNo X0.here hx rfl (hb hby d19_37) rfl (flt hc4).1 k) ?_
    refine ost (mkF m 43 #[.val (.int x33_0), .val (.int (v19_40 x33_1))] []) X0 (fun t k => XS.iinc X0.here hx rfl (hb hby d19_40) rfl (l' := #[.val (.int x33_0), .val (.int (v19_40 x33_1))]) rfl k) ?_
    refine ost (mkF m 44 #[.val (.int x33_0), .val (.int (v19_40 x33_1))] [(.int x33_0)]) X0 (fun t k => XS.iloadN X0.here hx rfl (hb hby d19_43) rfl k) ?_
    refine ost (mkF m 46 #[.val (.int x33_0), .val (.int (v19_40 x33_1))] [(.int (8 : Int32)), (.int x33_0)]) X0 (fun t k => XS.bipush X0.here hx rfl (hb hby d19_44) k) ?_
    refine ost (mkF m 47 #[.val (.int x33_0), .val (.int (v19_40 x33_1))] [(.int (XT.ushr x33_0 (8 : Int32)))]) X0 (fun t k => XT.iushr X0.here hx rfl (hb hby d19_46) rfl k) ?_
    refine ost (mkF m 48 #[.val (.int (v19_47 x33_0)), .val (.int (v19_40 x33_1))] []) X0 (fun t k => XS.istoreN X0.here hx rfl (hb hby d19_47) rfl (l' := #[.val (.int (v19_47 x33_0)), .val (.int (v19_40 x33_1))]) rfl k) ?_
    exact j19_48 X0 hx hZ hw hby hml hown e0 N0 Z0 (v19_47 x33_0) (v19_40 x33_1)
def f19_0 (p0 : Int32) : Int32 := (if (0 : Int32) < p0 then (if p0 < (65536 : Int32) then (f19_33 p0 (31 : Int32)) else (f19_33 (v19_32 p0) (15 : Int32))) else (if p0 = (0 : Int32) then (32 : Int32) else (0 : Int32)))
set_option maxRecDepth 65536 in
set_option maxHeartbeats 40000000 in
theorem j19_0 {p : Program} {l : Launch} {e : Env} {s : State} {m : MethodId} {args : Array Value} {below : List Frame} {meth : Method} {c : Code} {T0 : State} {locs : List Loc} {Z : State} {a0 : Array Value} {h0 : Heap} {n0 : Nat}
    (X0 : Stand p l e ({ frames := 0, cells := 0, slots := 0, locals := 0 } : Room) s m args below meth c T0 locs 0 0) (hx : p.tables.exec = Jvm.exec) (hZ : Z.Warmed39 s.vm) (hw : ∀ d ∈ tables_1, d.before a0 Z = true) (hby : c.code = jdk_33_method_47_code) (hml : c.maxLocals = 2) (hown : s.vm.findClass "java/lang/Integer" = some m.cls) (e0 : T0.heap = h0) (N0 : Fr n0 locs) (Z0 : n0 ≤ h0.size) (p0 : Int32) :
    OwnFin X0 (some .int) (PQ (some (.int (f19_0 p0))) h0 n0) 0 0 (mkF m 0 #[.val (.int p0), .unset] []) := by
  show OwnFin X0 (some .int) (PQ (some (.int (if (0 : Int32) < p0 then (if p0 < (65536 : Int32) then (f19_33 p0 (31 : Int32)) else (f19_33 (v19_32 p0) (15 : Int32))) else (if p0 = (0 : Int32) then (32 : Int32) else (0 : Int32))))) h0 n0) 0 0 _
  refine ost (mkF m 1 #[.val (.int p0), .unset] [(.int p0)]) X0 (fun t k => XS.iloadN X0.here hx rfl (hb hby d19_0) rfl k) ?_
  by_cases hc1 : (0 : Int32) < p0
  · rw [if_pos hc1]
    refine ost (mkF m 15 #[.val (.int p0), .unset] []) X0 (fun t k => XS.ifYes X0.here hx rfl (pc0 := 1) (pc' := 15) rfl (hb hby d19_1) rfl ((if0 _ _).trans (tlt hc1).2.2.1) (by decide) (by decide) k) ?_
    refine ost (mkF m 17 #[.val (.int p0), .unset] [(.int (31 : Int32))]) X0 (fun t k => XS.bipush X0.here hx rfl (hb hby d19_15) k) ?_
    refine ost (mkF m 18 #[.val (.int p0), .val (.int (31 : Int32))] []) X0 (fun t k => XS.istoreN X0.here hx rfl (hb hby d19_17) rfl (l' := #[.val (.int p0), .val (.int (31 : Int32))]) rfl k) ?_
    refine ost (mkF m 19 #[.val (.int p0), .val (.int (31 : Int32))] [(.int p0)]) X0 (fun t k => XS.iloadN X0.here hx rfl (hb hby d19_18) rfl k) ?_
    refine ost (mkF m 22 #[.val (.int p0), .val (.int (31 : Int32))] [(.int (65536 : Int32)), (.int p0)]) X0 (fun t k => X0.ldcwInt hx hown (mvT hZ (hw _ (wm 150 rfl))) (g := (mkF m 19 #[.val (.int p0), .val (.int (31 : Int32))] [(.int p0)])) rfl (hb hby d19_19) _ k) ?_
    by_cases hc2 : p0 < (65536 : Int32)
    · rw [if_pos hc2]
      refine ost (mkF m 33 #[.val (.int p0), .val (.int (31 : Int32))] []) X0 (fun t k => XS.icmpYes X0.here hx rfl (pc0 := 22) (pc' := 33) rfl (hb hby d19_22) rfl (tlt hc2).1 (by decide) (by decide) k) ?_
      exact j19_33 X0 hx hZ hw hby hml hown e0 N0 Z0 p0 (31 : Int32)
    · rw [if_neg hc2]
      refine ost (mkF m 25 #[.val (.int p0), .val (.int (31 : Int32))] []) X0 (fun t k => XS.icmpNo X0.here hx rfl (hb hby d19_22) rfl (flt hc2).1 k) ?_
      refine ost (mkF m 28 #[.val (.int p0), .val (.int (15 : Int32))] []) X0 (fun t k => XS.iinc X0.here hx rfl (hb hby d19_25) rfl (l' := #[.val (.int p0), .val (.int (15 : Int32))]) rfl k) ?_
      refine ost (mkF m 29 #[.val (.int p0), .val (.int (15 : Int32))] [(.int p0)]) X0 (fun t k => XS.iloadN X0.here hx rfl (hb hby d19_28) rfl k) ?_
      refine ost (mkF m 31 #[.val (.int p0), .val (.int (15 : Int32))] [(.int (16 : Int32)), (.int p0)]) X0 (fun t k => XS.bipush X0.here hx rfl (hb hby d19_29) k) ?_
      refine ost (mkF m 32 #[.val (.int p0), .val (.int (15 : Int32))] [(.int (XT.ushr p0 (16 : Int32)))]) X0 (fun t k => XT.iushr X0.here hx rfl (hb hby d19_31) rfl k) ?_
      refine ost (mkF m 33 #[.val (.int (v19_32 p0)), .val (.int (15 : Int32))] []) X0 (fun t k => XS.istoreN X0.here hx rfl (hb hby d19_32) rfl (l' := #[.val (.int (v19_32 p0)), .val (.int (15 : Int32))]) rfl k) ?_
      exact j19_33 X0 hx hZ hw hby hml hown e0 N0 Z0 (v19_32 p0) (15 : Int32)
  · rw [if_neg hc1]
    refine ost (mkF m 4 #[.val (.int p0), .unset] []) X0 (fun t k => XS.ifNo X0.here hx rfl (hb hby d19_1) rfl ((if0 _ _).trans (flt hc1).2.2.1) k) ?_
    refine ost (mkF m 5 #[.val (.int p0), .unset] [(.int p0)]) X0 (fun t k => XS.iloadN X0.here hx rfl (hb hby d19_4) rfl k) ?_
    by_cases hc3 : p0 = (0 : Int32)
    · rw [if_pos hc3]
      refine ost (mkF m 8 #[.val (.int p0), .unset] []) X0 (fun t k => XS.ifNo X0.here hx rfl (hb hby d19_5) rfl ((if0 _ _).trans (teq hc3).2) k) ?_
      refine ost (mkF m 10 #[.val (.int p0), .unset] [(.int (32 : Int32))]) X0 (fun t k => XS.bipush X0.here hx rfl (hb hby d19_8) k) ?_
      refine ost (mkF m 14 #[.val (.int p0), .unset] [(.int (32 : Int32))]) X0 (fun t k => XS.goto X0.here hx rfl (pc0 := 10) (pc' := 14) rfl (hb hby d19_10) (by decide) (by decide) k) ?_
      exact OwnFin.retInt X0 (hb hby d19_14) (Nat.le_refl _) (Nat.le_refl _) ⟨rfl, e0, N0⟩
    · rw [if_neg hc3]
      refine ost (mkF m 13 #[.val (.int p0), .unset] []) X0 (fun t k => XS.ifYes X0.here hx rfl (pc0 := 5) (pc' := 13) rfl (hb hby d19_5) rfl ((if0 _ _).trans (feq hc3).2) (by decide) (by decide) k) ?_
      refine ost (mkF m 14 #[.val (.int p0), .unset] [(.int (0 : Int32))]) X0 (fun t k => XS.iconst X0.here hx rfl (hb hby d19_13) k) ?_
      exact OwnFin.retInt X0 (hb hby d19_14) (Nat.le_refl _) (Nat.le_refl _) ⟨rfl, e0, N0⟩
def r19 (p0 : Int32) : Int32 := f19_0 p0
set_option maxRecDepth 65536 in
set_option maxHeartbeats 40000000 in
theorem rm19 (l : Launch) (Z : State) (a0 : Array Value) (hw : ∀ d ∈ tables_1, d.before a0 Z = true) (ws : List Jvm.Cond) (p0 : Int32) (h0 : Heap) (n0 : Nat) (Z0 : n0 ≤ h0.size) :
    MetFree l Y18 (head1 (Jvm.Cond.code Y18 jdk_33_method_47_code 2 (some .int) :: ws) ({ frames := 0, cells := 0, slots := 0, locals := 0 } : Room)) (fun a U => a = #[(.int p0)] ∧ Z.Warmed39 U.vm ∧ U.heap = h0) (fun _ _ _ _ _ => True) (fun _ U o U' => ∃ v L, o = .returned v ∧ PQ (some (.int (r19 p0))) h0 n0 v U'.heap L ∧ FrameEnd U o U' L ({ frames := 0, cells := 0, slots := 0, locals := 0 } : Room).cells ({ frames := 0, cells := 0, slots := 0, locals := 0 } : Room).slots) :=
  own_met (ret := (some .int)) (plainFor_of_name pn_19) (fun m => ef_19 m p0) (fun p e s m below meth c s₁ X hx hby hml hown hnm hZ e0 => OwnFin.wide (j19_0 X hx hZ hw hby hml hown e0 (Fr.nil n0) Z0 p0) (Nat.zero_le _) (Nat.zero_le _))
theorem own_strs {Z : State} {a0 : Array Value} (hw : ∀ d ∈ tables_1, d.before a0 Z = true) : ∀ a ∈ Bundle.stringAtoms, a.before a0 Z = true := by
  intro d hd
  simp only [Bundle.stringAtoms, List.mem_cons, List.not_mem_nil, or_false] at hd
  rcases hd with rfl | rfl | rfl | rfl | rfl | rfl | rfl
  · exact (hw _ (wm 30 rfl))
  · exact (hw _ (wm 31 rfl))
  · exact (hw _ (wm 32 rfl))
  · exact (hw _ (wm 33 rfl))
  · exact (hw _ (wm 34 rfl))
  · exact (hw _ (wm 35 rfl))
  · exact (hw _ (wm 36 rfl))
theorem d3_0 : decode jdk_22_method_1_code 0 = .ok (.aload_n 0, 1) := by decide +kernel
theorem d3_1 : decode jdk_22_method_1_code 1 = .ok (.invokespecial 1, 3) := by decide +kernel
theorem d3_4 : decode jdk_22_method_1_code 4 = .ok (.return_, 1) := by decide +kernel
theorem pn_3 : plainName "java/util/AbstractCollection" = true := by first | (simp [plainName, overriddenIn]; done) | decide +kernel
theorem ef_3 (m : MethodId) (o0 : Addr) : entryFrame m #[(.ref o0)] 1 = mkF m 0 #[.val (.ref o0)] [] := by first | (simp [entryFrame, mkF, argsToLocals, Value.category]; done) | rfl
theorem d2_0 : decode jdk_39_method_1_code 0 = .ok (.aload_n 0, 1) := by decide +kernel
theorem d2_1 : decode jdk_39_method_1_code 1 = .ok (.invokespecial 1, 3) := by decide +kernel
theorem d2_4 : decode jdk_39_method_1_code 4 = .ok (.aload_n 0, 1) := by decide +kernel
theorem d2_5 : decode jdk_39_method_1_code 5 = .ok (.iconst 0, 1) := by decide +kernel
theorem d2_6 : decode jdk_39_method_1_code 6 = .ok (.putfield 7, 3) := by decide +kernel
theorem d2_9 : decode jdk_39_method_1_code 9 = .ok (.return_, 1) := by decide +kernel
theorem pn_2 : plainName "java/util/AbstractList" = true := by first | (simp [plainName, overriddenIn]; done) | decide +kernel
theorem ef_2 (m : MethodId) (o0 : Addr) : entryFrame m #[(.ref o0)] 1 = mkF m 0 #[.val (.ref o0)] [] := by first | (simp [entryFrame, mkF, argsToLocals, Value.category]; done) | rfl
theorem d1_0 : decode jdk_38_method_2_code 0 = .ok (.aload_n 0, 1) := by decide +kernel
theorem d1_1 : decode jdk_38_method_2_code 1 = .ok (.invokespecial 1, 3) := by decide +kernel
theorem d1_4 : decode jdk_38_method_2_code 4 = .ok (.aload_n 0, 1) := by decide +kernel
theorem d1_5 : decode jdk_38_method_2_code 5 = .ok (.getstatic 39, 3) := by decide +kernel
theorem d1_8 : decode jdk_38_method_2_code 8 = .ok (.putfield 9, 3) := by decide +kernel
theorem d1_11 : decode jdk_38_method_2_code 11 = .ok (.return_, 1) := by decide +kernel
theorem pn_1 : plainName "java/util/ArrayList" = true := by first | (simp [plainName, overriddenIn]; done) | decide +kernel
theorem ef_1 (m : MethodId) (o0 : Addr) : entryFrame m #[(.ref o0)] 1 = mkF m 0 #[.val (.ref o0)] [] := by first | (simp [entryFrame, mkF, argsToLocals, Value.category]; done) | rfl
theorem d6_0 : decode jdk_30_method_1_code 0 = .ok (.aload_n 0, 1) := by decide +kernel
theorem d6_1 : decode jdk_30_method_1_code 1 = .ok (.invokespecial 1, 3) := by decide +kernel
theorem d6_4 : decode jdk_30_method_1_code 4 = .ok (.return_, 1) := by decide +kernel
theorem pn_6 : plainName "java/lang/Record" = true := by first | (simp [plainName, overriddenIn]; done) | decide +kernel
theorem ef_6 (m : MethodId) (o0 : Addr) : entryFrame m #[(.ref o0)] 1 = mkF m 0 #[.val (.ref o0)] [] := by first | (simp [entryFrame, mkF, argsToLocals, Value.category]; done) | rfl
theorem d5_0 : decode prog_64_method_1_code 0 = .ok (.aload_n 0, 1) := by decide +kernel
theorem d5_1 : decode prog_64_method_1_code 1 = .ok (.invokespecial 1, 3) := by decide +kernel
theorem d5_4 : decode prog_64_method_1_code 4 = .ok (.aload_n 0, 1) := by decide +kernel
theorem d5_5 : decode prog_64_method_1_code 5 = .ok (.aload_n 1, 1) := by decide +kernel
theorem d5_6 : decode prog_64_method_1_code 6 = .ok (.putfield 7, 3) := by decide +kernel
theorem d5_9 : decode prog_64_method_1_code 9 = .ok (.aload_n 0, 1) := by decide +kernel
theorem d5_10 : decode prog_64_method_1_code 10 = .ok (.aload_n 2, 1) := by decide +kernel
theorem d5_11 : decode prog_64_method_1_code 11 = .ok (.putfield 13, 3) := by decide +kernel
theorem d5_14 : decode prog_64_method_1_code 14 = .ok (.aload_n 0, 1) := by decide +kernel
theorem d5_15 : decode prog_64_method_1_code 15 = .ok (.aload_n 3, 1) := by decide +kernel
theorem d5_16 : decode prog_64_method_1_code 16 = .ok (.putfield 16, 3) := by decide +kernel
theorem d5_19 : decode prog_64_method_1_code 19 = .ok (.aload_n 0, 1) := by decide +kernel
theorem d5_20 : decode prog_64_method_1_code 20 = .ok (.iload 4, 2) := by decide +kernel
theorem d5_22 : decode prog_64_method_1_code 22 = .ok (.putfield 20, 3) := by decide +kernel
theorem d5_25 : decode prog_64_method_1_code 25 = .ok (.aload_n 0, 1) := by decide +kernel
theorem d5_26 : decode prog_64_method_1_code 26 = .ok (.iload 5, 2) := by decide +kernel
theorem d5_28 : decode prog_64_method_1_code 28 = .ok (.putfield 24, 3) := by decide +kernel
theorem d5_31 : decode prog_64_method_1_code 31 = .ok (.return_, 1) := by decide +kernel
theorem pn_5 : plainName "com/example/ken2/ken2/InterpretedSystem$Variable" = true := by first | (simp [plainName, overriddenIn]; done) | decide +kernel
theorem ef_5n3 (m : MethodId) (o0 : Addr) (o1 : Addr) (o2 : Addr) (p4 : Int32) (p5 : Int32) : entryFrame m #[(.ref o0), (.ref o1), (.ref o2), .null, (.int p4), (.int p5)] 6 = mkF m 0 #[.val (.ref o0), .val (.ref o1), .val (.ref o2), .val .null, .val (.int p4), .val (.int p5)] [] := by first | (simp [entryFrame, mkF, argsToLocals, Value.category]; done) | rfl
theorem d10_0 : decode jdk_38_method_6_code 0 = .ok (.aload_n 0, 1) := by decide +kernel
theorem d10_1 : decode jdk_38_method_6_code 1 = .ok (.getfield 9, 3) := by decide +kernel
theorem d10_4 : decode jdk_38_method_6_code 4 = .ok (.arraylength, 1) := by decide +kernel
theorem d10_5 : decode jdk_38_method_6_code 5 = .ok (.istore_n 2, 1) := by decide +kernel
theorem d10_6 : decode jdk_38_method_6_code 6 = .ok (.iload_n 2, 1) := by decide +kernel
theorem d10_7 : decode jdk_38_method_6_code 7 = .ok (.ifCond .gt 13, 3) := by decide +kernel
theorem d10_10 : decode jdk_38_method_6_code 10 = .ok (.aload_n 0, 1) := by decide +kernel
theorem d10_11 : decode jdk_38_method_6_code 11 = .ok (.getfield 9, 3) := by decide +kernel
theorem d10_14 : decode jdk_38_method_6_code 14 = .ok (.getstatic 39, 3) := by decide +kernel
theorem d10_17 : decode jdk_38_method_6_code 17 = .ok (.if_acmp .eq 28, 3) := by decide +kernel
theorem d10_45 : decode jdk_38_method_6_code 45 = .ok (.aload_n 0, 1) := by decide +kernel
theorem d10_46 : decode jdk_38_method_6_code 46 = .ok (.bipush 10, 2) := by decide +kernel
theorem d10_48 : decode jdk_38_method_6_code 48 = .ok (.iload_n 1, 1) := by decide +kernel
theorem d10_49 : decode jdk_38_method_6_code 49 = .ok (.invokestatic 79, 3) := by decide +kernel
theorem d10_52 : decode jdk_38_method_6_code 52 = .ok (.anewarray 7, 3) := by decide +kernel
theorem d10_55 : decode jdk_38_method_6_code 55 = .ok (.dup_x1, 1) := by decide +kernel
theorem d10_56 : decode jdk_38_method_6_code 56 = .ok (.putfield 9, 3) := by decide +kernel
theorem d10_59 : decode jdk_38_method_6_code 59 = .ok (.areturn, 1) := by decide +kernel
theorem pn_10 : plainName "java/util/ArrayList" = true := by first | (simp [plainName, overriddenIn]; done) | decide +kernel
theorem ef_10 (m : MethodId) (o0 : Addr) (p1 : Int32) : entryFrame m #[(.ref o0), (.int p1)] 4 = mkF m 0 #[.val (.ref o0), .val (.int p1), .unset, .unset] [] := by first | (simp [entryFrame, mkF, argsToLocals, Value.category]; done) | rfl
theorem d9_0 : decode jdk_38_method_7_code 0 = .ok (.aload_n 0, 1) := by decide +kernel
theorem d9_1 : decode jdk_38_method_7_code 1 = .ok (.aload_n 0, 1) := by decide +kernel
theorem d9_2 : decode jdk_38_method_7_code 2 = .ok (.getfield 48, 3) := by decide +kernel
theorem d9_5 : decode jdk_38_method_7_code 5 = .ok (.iconst 1, 1) := by decide +kernel
theorem d9_6 : decode jdk_38_method_7_code 6 = .ok (.iadd, 1) := by decide +kernel
theorem d9_7 : decode jdk_38_method_7_code 7 = .ok (.invokevirtual 69, 3) := by decide +kernel
theorem d9_10 : decode jdk_38_method_7_code 10 = .ok (.areturn, 1) := by decide +kernel
theorem pn_9 : plainName "java/util/ArrayList" = true := by first | (simp [plainName, overriddenIn]; done) | decide +kernel
theorem ef_9 (m : MethodId) (o0 : Addr) : entryFrame m #[(.ref o0)] 1 = mkF m 0 #[.val (.ref o0)] [] := by first | (simp [entryFrame, mkF, argsToLocals, Value.category]; done) | rfl
theorem d8_0 : decode jdk_38_method_24_code 0 = .ok (.iload_n 3, 1) := by decide +kernel
theorem d8_1 : decode jdk_38_method_24_code 1 = .ok (.aload_n 2, 1) := by decide +kernel
theorem d8_2 : decode jdk_38_method_24_code 2 = .ok (.arraylength, 1) := by decide +kernel
theorem d8_3 : decode jdk_38_method_24_code 3 = .ok (.if_icmp .ne 8, 3) := by decide +kernel
theorem d8_6 : decode jdk_38_method_24_code 6 = .ok (.aload_n 0, 1) := by decide +kernel
theorem d8_7 : decode jdk_38_method_24_code 7 = .ok (.invokevirtual 129, 3) := by decide +kernel
theorem d8_10 : decode jdk_38_method_24_code 10 = .ok (.astore_n 2, 1) := by decide +kernel
theorem d8_11 : decode jdk_38_method_24_code 11 = .ok (.aload_n 2, 1) := by decide +kernel
theorem d8_12 : decode jdk_38_method_24_code 12 = .ok (.iload_n 3, 1) := by decide +kernel
theorem d8_13 : decode jdk_38_method_24_code 13 = .ok (.aload_n 1, 1) := by decide +kernel
theorem d8_14 : decode jdk_38_method_24_code 14 = .ok (.aastore, 1) := by decide +kernel
theorem d8_15 : decode jdk_38_method_24_code 15 = .ok (.aload_n 0, 1) := by decide +kernel
theorem d8_16 : decode jdk_38_method_24_code 16 = .ok (.iload_n 3, 1) := by decide +kernel
theorem d8_17 : decode jdk_38_method_24_code 17 = .ok (.iconst 1, 1) := by decide +kernel
theorem d8_18 : decode jdk_38_method_24_code 18 = .ok (.iadd, 1) := by decide +kernel
theorem d8_19 : decode jdk_38_method_24_code 19 = .ok (.putfield 48, 3) := by decide +kernel
theorem d8_22 : decode jdk_38_method_24_code 22 = .ok (.return_, 1) := by decide +kernel
theorem pn_8 : plainName "java/util/ArrayList" = true := by first | (simp [plainName, overriddenIn]; done) | decide +kernel
theorem ef_8 (m : MethodId) (o0 : Addr) (o1 : Addr) (o2 : Addr) (p3 : Int32) : entryFrame m #[(.ref o0), (.ref o1), (.ref o2), (.int p3)] 4 = mkF m 0 #[.val (.ref o0), .val (.ref o1), .val (.ref o2), .val (.int p3)] [] := by first | (simp [entryFrame, mkF, argsToLocals, Value.category]; done) | rfl
theorem d7_0 : decode jdk_38_method_25_code 0 = .ok (.aload_n 0, 1) := by decide +kernel
theorem d7_1 : decode jdk_38_method_25_code 1 = .ok (.dup, 1) := by decide +kernel
theorem d7_2 : decode jdk_38_method_25_code 2 = .ok (.getfield 63, 3) := by decide +kernel
theorem d7_5 : decode jdk_38_method_25_code 5 = .ok (.iconst 1, 1) := by decide +kernel
theorem d7_6 : decode jdk_38_method_25_code 6 = .ok (.iadd, 1) := by decide +kernel
theorem d7_7 : decode jdk_38_method_25_code 7 = .ok (.putfield 63, 3) := by decide +kernel
theorem d7_10 : decode jdk_38_method_25_code 10 = .ok (.aload_n 0, 1) := by decide +kernel
theorem d7_11 : decode jdk_38_method_25_code 11 = .ok (.aload_n 1, 1) := by decide +kernel
theorem d7_12 : decode jdk_38_method_25_code 12 = .ok (.aload_n 0, 1) := by decide +kernel
theorem d7_13 : decode jdk_38_method_25_code 13 = .ok (.getfield 9, 3) := by decide +kernel
theorem d7_16 : decode jdk_38_method_25_code 16 = .ok (.aload_n 0, 1) := by decide +kernel
theorem d7_17 : decode jdk_38_method_25_code 17 = .ok (.getfield 48, 3) := by decide +kernel
theorem d7_20 : decode jdk_38_method_25_code 20 = .ok (.invokevirtual 131, 3) := by decide +kernel
theorem d7_23 : decode jdk_38_method_25_code 23 = .ok (.iconst 1, 1) := by decide +kernel
theorem d7_24 : decode jdk_38_method_25_code 24 = .ok (.ireturn, 1) := by decide +kernel
theorem pn_7 : plainName "java/util/ArrayList" = true := by first | (simp [plainName, overriddenIn]; done) | decide +kernel
theorem ef_7 (m : MethodId) (o0 : Addr) (o1 : Addr) : entryFrame m #[(.ref o0), (.ref o1)] 2 = mkF m 0 #[.val (.ref o0), .val (.ref o1)] [] := by first | (simp [entryFrame, mkF, argsToLocals, Value.category]; done) | rfl
theorem d13_0 : decode jdk_38_method_8_code 0 = .ok (.aload_n 0, 1) := by decide +kernel
theorem d13_1 : decode jdk_38_method_8_code 1 = .ok (.getfield 48, 3) := by decide +kernel
theorem d13_4 : decode jdk_38_method_8_code 4 = .ok (.ireturn, 1) := by decide +kernel
theorem pn_13 : plainName "java/util/ArrayList" = true := by first | (simp [plainName, overriddenIn]; done) | decide +kernel
theorem ef_13 (m : MethodId) (o0 : Addr) : entryFrame m #[(.ref o0)] 1 = mkF m 0 #[.val (.ref o0)] [] := by first | (simp [entryFrame, mkF, argsToLocals, Value.category]; done) | rfl
theorem d16_0 : decode jdk_41_method_11_code 0 = .ok (.iload_n 0, 1) := by decide +kernel
theorem d16_1 : decode jdk_41_method_11_code 1 = .ok (.ifCond .lt 8, 3) := by decide +kernel
theorem d16_4 : decode jdk_41_method_11_code 4 = .ok (.iload_n 0, 1) := by decide +kernel
theorem d16_5 : decode jdk_41_method_11_code 5 = .ok (.iload_n 1, 1) := by decide +kernel
theorem d16_6 : decode jdk_41_method_11_code 6 = .ok (.if_icmp .lt 10, 3) := by decide +kernel
theorem d16_16 : decode jdk_41_method_11_code 16 = .ok (.iload_n 0, 1) := by decide +kernel
theorem d16_17 : decode jdk_41_method_11_code 17 = .ok (.ireturn, 1) := by decide +kernel
theorem pn_16 : plainName "jdk/internal/util/Preconditions" = true := by first | (simp [plainName, overriddenIn]; done) | decide +kernel
theorem ef_16n2 (m : MethodId) (p0 : Int32) (p1 : Int32) : entryFrame m #[(.int p0), (.int p1), .null] 3 = mkF m 0 #[.val (.int p0), .val (.int p1), .val .null] [] := by first | (simp [entryFrame, mkF, argsToLocals, Value.category]; done) | rfl
theorem d15_0 : decode jdk_31_method_17_code 0 = .ok (.iload_n 0, 1) := by decide +kernel
theorem d15_1 : decode jdk_31_method_17_code 1 = .ok (.iload_n 1, 1) := by decide +kernel
theorem d15_2 : decode jdk_31_method_17_code 2 = .ok (.aconst_null, 1) := by decide +kernel
theorem d15_3 : decode jdk_31_method_17_code 3 = .ok (.invokestatic 105, 3) := by decide +kernel
theorem d15_6 : decode jdk_31_method_17_code 6 = .ok (.ireturn, 1) := by decide +kernel
theorem pn_15 : plainName "java/util/Objects" = true := by first | (simp [plainName, overriddenIn]; done) | decide +kernel
theorem ef_15 (m : MethodId) (p0 : Int32) (p1 : Int32) : entryFrame m #[(.int p0), (.int p1)] 2 = mkF m 0 #[.val (.int p0), .val (.int p1)] [] := by first | (simp [entryFrame, mkF, argsToLocals, Value.category]; done) | rfl
theorem d17_0 : decode jdk_38_method_18_code 0 = .ok (.aload_n 0, 1) := by decide +kernel
theorem d17_1 : decode jdk_38_method_18_code 1 = .ok (.getfield 9, 3) := by decide +kernel
theorem d17_4 : decode jdk_38_method_18_code 4 = .ok (.iload_n 1, 1) := by decide +kernel
theorem d17_5 : decode jdk_38_method_18_code 5 = .ok (.aaload, 1) := by decide +kernel
theorem d17_6 : decode jdk_38_method_18_code 6 = .ok (.areturn, 1) := by decide +kernel
theorem pn_17 : plainName "java/util/ArrayList" = true := by first | (simp [plainName, overriddenIn]; done) | decide +kernel
theorem ef_17 (m : MethodId) (o0 : Addr) (p1 : Int32) : entryFrame m #[(.ref o0), (.int p1)] 2 = mkF m 0 #[.val (.ref o0), .val (.int p1)] [] := by first | (simp [entryFrame, mkF, argsToLocals, Value.category]; done) | rfl
theorem d14_0 : decode jdk_38_method_20_code 0 = .ok (.iload_n 1, 1) := by decide +kernel
theorem d14_1 : decode jdk_38_method_20_code 1 = .ok (.aload_n 0, 1) := by decide +kernel
theorem d14_2 : decode jdk_38_method_20_code 2 = .ok (.getfield 48, 3) := by decide +kernel
theorem d14_5 : decode jdk_38_method_20_code 5 = .ok (.invokestatic 118, 3) := by decide +kernel
theorem d14_8 : decode jdk_38_method_20_code 8 = .ok (.pop, 1) := by decide +kernel
theorem d14_9 : decode jdk_38_method_20_code 9 = .ok (.aload_n 0, 1) := by decide +kernel
theorem d14_10 : decode jdk_38_method_20_code 10 = .ok (.iload_n 1, 1) := by decide +kernel
theorem d14_11 : decode jdk_38_method_20_code 11 = .ok (.invokevirtual 123, 3) := by decide +kernel
theorem d14_14 : decode jdk_38_method_20_code 14 = .ok (.areturn, 1) := by decide +kernel
theorem pn_14 : plainName "java/util/ArrayList" = true := by first | (simp [plainName, overriddenIn]; done) | decide +kernel
theorem ef_14 (m : MethodId) (o0 : Addr) (p1 : Int32) : entryFrame m #[(.ref o0), (.int p1)] 2 = mkF m 0 #[.val (.ref o0), .val (.int p1)] [] := by first | (simp [entryFrame, mkF, argsToLocals, Value.category]; done) | rfl
theorem d18_0 : decode prog_64_method_15_code 0 = .ok (.aload_n 0, 1) := by decide +kernel
theorem d18_1 : decode prog_64_method_15_code 1 = .ok (.getfield 24, 3) := by decide +kernel
theorem d18_4 : decode prog_64_method_15_code 4 = .ok (.ireturn, 1) := by decide +kernel
theorem pn_18 : plainName "com/example/ken2/ken2/InterpretedSystem$Variable" = true := by first | (simp [plainName, overriddenIn]; done) | decide +kernel
theorem ef_18 (m : MethodId) (o0 : Addr) : entryFrame m #[(.ref o0)] 1 = mkF m 0 #[.val (.ref o0)] [] := by first | (simp [entryFrame, mkF, argsToLocals, Value.category]; done) | rfl
theorem d12_0 : decode prog_112_method_1_code 0 = .ok (.aload_n 0, 1) := by decide +kernel
theorem d12_1 : decode prog_112_method_1_code 1 = .ok (.invokespecial 1, 3) := by decide +kernel
theorem d12_4 : decode prog_112_method_1_code 4 = .ok (.aload_n 0, 1) := by decide +kernel
theorem d12_5 : decode prog_112_method_1_code 5 = .ok (.aload_n 1, 1) := by decide +kernel
theorem d12_6 : decode prog_112_method_1_code 6 = .ok (.invokeinterface 7 1, 5) := by decide +kernel
theorem d12_11 : decode prog_112_method_1_code 11 = .ok (.newarray .int, 2) := by decide +kernel
theorem d12_13 : decode prog_112_method_1_code 13 = .ok (.putfield 13, 3) := by decide +kernel
theorem d12_16 : decode prog_112_method_1_code 16 = .ok (.aload_n 0, 1) := by decide +kernel
theorem d12_17 : decode prog_112_method_1_code 17 = .ok (.aload_n 1, 1) := by decide +kernel
theorem d12_18 : decode prog_112_method_1_code 18 = .ok (.invokeinterface 7 1, 5) := by decide +kernel
theorem d12_23 : decode prog_112_method_1_code 23 = .ok (.newarray .int, 2) := by decide +kernel
theorem d12_25 : decode prog_112_method_1_code 25 = .ok (.putfield 19, 3) := by decide +kernel
theorem d12_28 : decode prog_112_method_1_code 28 = .ok (.aload_n 0, 1) := by decide +kernel
theorem d12_29 : decode prog_112_method_1_code 29 = .ok (.aload_n 1, 1) := by decide +kernel
theorem d12_30 : decode prog_112_method_1_code 30 = .ok (.invokeinterface 7 1, 5) := by decide +kernel
theorem d12_35 : decode prog_112_method_1_code 35 = .ok (.newarray .long, 2) := by decide +kernel
theorem d12_37 : decode prog_112_method_1_code 37 = .ok (.putfield 22, 3) := by decide +kernel
theorem d12_40 : decode prog_112_method_1_code 40 = .ok (.iconst 0, 1) := by decide +kernel
theorem d12_41 : decode prog_112_method_1_code 41 = .ok (.istore_n 2, 1) := by decide +kernel
theorem d12_42 : decode prog_112_method_1_code 42 = .ok (.iconst 0, 1) := by decide +kernel
theorem d12_43 : decode prog_112_method_1_code 43 = .ok (.istore_n 3, 1) := by decide +kernel
theorem d12_44 : decode prog_112_method_1_code 44 = .ok (.iconst 0, 1) := by decide +kernel
theorem d12_45 : decode prog_112_method_1_code 45 = .ok (.istore 4, 2) := by decide +kernel
theorem d12_47 : decode prog_112_method_1_code 47 = .ok (.iload 4, 2) := by decide +kernel
theorem d12_49 : decode prog_112_method_1_code 49 = .ok (.aload_n 1, 1) := by decide +kernel
theorem d12_50 : decode prog_112_method_1_code 50 = .ok (.invokeinterface 7 1, 5) := by decide +kernel
theorem d12_55 : decode prog_112_method_1_code 55 = .ok (.if_icmp .ge 85, 3) := by decide +kernel
theorem d12_58 : decode prog_112_method_1_code 58 = .ok (.aload_n 1, 1) := by decide +kernel
theorem d12_59 : decode prog_112_method_1_code 59 = .ok (.iload 4, 2) := by decide +kernel
theorem d12_61 : decode prog_112_method_1_code 61 = .ok (.invokeinterface 26 2, 5) := by decide +kernel
theorem d12_66 : decode prog_112_method_1_code 66 = .ok (.checkcast 30, 3) := by decide +kernel
theorem d12_69 : decode prog_112_method_1_code 69 = .ok (.invokevirtual 32, 3) := by decide +kernel
theorem d12_72 : decode prog_112_method_1_code 72 = .ok (.istore 5, 2) := by decide +kernel
theorem d12_74 : decode prog_112_method_1_code 74 = .ok (.bipush 32, 2) := by decide +kernel
theorem d12_76 : decode prog_112_method_1_code 76 = .ok (.iload 5, 2) := by decide +kernel
theorem d12_78 : decode prog_112_method_1_code 78 = .ok (.iconst 1, 1) := by decide +kernel
theorem d12_79 : decode prog_112_method_1_code 79 = .ok (.isub, 1) := by decide +kernel
theorem d12_80 : decode prog_112_method_1_code 80 = .ok (.invokestatic 33, 3) := by decide +kernel
theorem d12_83 : decode prog_112_method_1_code 83 = .ok (.isub, 1) := by decide +kernel
theorem d12_84 : decode prog_112_method_1_code 84 = .ok (.istore 6, 2) := by decide +kernel
theorem d12_86 : decode prog_112_method_1_code 86 = .ok (.iload_n 3, 1) := by decide +kernel
theorem d12_87 : decode prog_112_method_1_code 87 = .ok (.iload 6, 2) := by decide +kernel
theorem d12_89 : decode prog_112_method_1_code 89 = .ok (.iadd, 1) := by decide +kernel
theorem d12_90 : decode prog_112_method_1_code 90 = .ok (.bipush 64, 2) := by decide +kernel
theorem d12_92 : decode prog_112_method_1_code 92 = .ok (.if_icmp .le 8, 3) := by decide +kernel
theorem d12_95 : decode prog_112_method_1_code 95 = .ok (.iinc 2 1, 3) := by decide +kernel
theorem d12_98 : decode prog_112_method_1_code 98 = .ok (.iconst 0, 1) := by decide +kernel
theorem d12_99 : decode prog_112_method_1_code 99 = .ok (.istore_n 3, 1) := by decide +kernel
theorem d12_100 : decode prog_112_method_1_code 100 = .ok (.aload_n 0, 1) := by decide +kernel
theorem d12_101 : decode prog_112_method_1_code 101 = .ok (.getfield 13, 3) := by decide +kernel
theorem d12_104 : decode prog_112_method_1_code 104 = .ok (.iload 4, 2) := by decide +kernel
theorem d12_106 : decode prog_112_method_1_code 106 = .ok (.iload_n 2, 1) := by decide +kernel
theorem d12_107 : decode prog_112_method_1_code 107 = .ok (.iastore, 1) := by decide +kernel
theorem d12_108 : decode prog_112_method_1_code 108 = .ok (.aload_n 0, 1) := by decide +kernel
theorem d12_109 : decode prog_112_method_1_code 109 = .ok (.getfield 19, 3) := by decide +kernel
theorem d12_112 : decode prog_112_method_1_code 112 = .ok (.iload 4, 2) := by decide +kernel
theorem d12_114 : decode prog_112_method_1_code 114 = .ok (.iload_n 3, 1) := by decide +kernel
theorem d12_115 : decode prog_112_method_1_code 115 = .ok (.iastore, 1) := by decide +kernel
theorem d12_116 : decode prog_112_method_1_code 116 = .ok (.aload_n 0, 1) := by decide +kernel
theorem d12_117 : decode prog_112_method_1_code 117 = .ok (.getfield 22, 3) := by decide +kernel
theorem d12_120 : decode prog_112_method_1_code 120 = .ok (.iload 4, 2) := by decide +kernel
theorem d12_122 : decode prog_112_method_1_code 122 = .ok (.lconst 1, 1) := by decide +kernel
theorem d12_123 : decode prog_112_method_1_code 123 = .ok (.iload 6, 2) := by decide +kernel
theorem d12_125 : decode prog_112_method_1_code 125 = .ok (.lshl, 1) := by decide +kernel
theorem d12_126 : decode prog_112_method_1_code 126 = .ok (.lconst 1, 1) := by decide +kernel
theorem d12_127 : decode prog_112_method_1_code 127 = .ok (.lsub, 1) := by decide +kernel
theorem d12_128 : decode prog_112_method_1_code 128 = .ok (.lastore, 1) := by decide +kernel
theorem d12_129 : decode prog_112_method_1_code 129 = .ok (.iload_n 3, 1) := by decide +kernel
theorem d12_130 : decode prog_112_method_1_code 130 = .ok (.iload 6, 2) := by decide +kernel
theorem d12_132 : decode prog_112_method_1_code 132 = .ok (.iadd, 1) := by decide +kernel
theorem d12_133 : decode prog_112_method_1_code 133 = .ok (.istore_n 3, 1) := by decide +kernel
theorem d12_134 : decode prog_112_method_1_code 134 = .ok (.iinc 4 1, 3) := by decide +kernel
theorem d12_137 : decode prog_112_method_1_code 137 = .ok (.goto (-90), 3) := by decide +kernel
theorem d12_140 : decode prog_112_method_1_code 140 = .ok (.aload_n 0, 1) := by decide +kernel
theorem d12_141 : decode prog_112_method_1_code 141 = .ok (.iload_n 2, 1) := by decide +kernel
theorem d12_142 : decode prog_112_method_1_code 142 = .ok (.iconst 1, 1) := by decide +kernel
theorem d12_143 : decode prog_112_method_1_code 143 = .ok (.iadd, 1) := by decide +kernel
theorem d12_144 : decode prog_112_method_1_code 144 = .ok (.putfield 41, 3) := by decide +kernel
theorem d12_147 : decode prog_112_method_1_code 147 = .ok (.return_, 1) := by decide +kernel
theorem pn_12 : plainName "com/example/ken2/ken2/StateLayout" = true := by first | (simp [plainName, overriddenIn]; done) | decide +kernel
theorem ef_12 (m : MethodId) (o0 : Addr) (o1 : Addr) : entryFrame m #[(.ref o0), (.ref o1)] 7 = mkF m 0 #[.val (.ref o0), .val (.ref o1), .unset, .unset, .unset, .unset, .unset] [] := by first | (simp [entryFrame, mkF, argsToLocals, Value.category]; done) | rfl
theorem d20_0 : decode prog_112_method_9_code 0 = .ok (.aload_n 0, 1) := by decide +kernel
theorem d20_1 : decode prog_112_method_9_code 1 = .ok (.getfield 13, 3) := by decide +kernel
theorem d20_4 : decode prog_112_method_9_code 4 = .ok (.iload_n 2, 1) := by decide +kernel
theorem d20_5 : decode prog_112_method_9_code 5 = .ok (.iaload, 1) := by decide +kernel
theorem d20_6 : decode prog_112_method_9_code 6 = .ok (.istore 5, 2) := by decide +kernel
theorem d20_8 : decode prog_112_method_9_code 8 = .ok (.aload_n 0, 1) := by decide +kernel
theorem d20_9 : decode prog_112_method_9_code 9 = .ok (.getfield 19, 3) := by decide +kernel
theorem d20_12 : decode prog_112_method_9_code 12 = .ok (.iload_n 2, 1) := by decide +kernel
theorem d20_13 : decode prog_112_method_9_code 13 = .ok (.iaload, 1) := by decide +kernel
theorem d20_14 : decode prog_112_method_9_code 14 = .ok (.istore 6, 2) := by decide +kernel
theorem d20_16 : decode prog_112_method_9_code 16 = .ok (.aload_n 1, 1) := by decide +kernel
theorem d20_17 : decode prog_112_method_9_code 17 = .ok (.iload 5, 2) := by decide +kernel
theorem d20_19 : decode prog_112_method_9_code 19 = .ok (.aload_n 1, 1) := by decide +kernel
theorem d20_20 : decode prog_112_method_9_code 20 = .ok (.iload 5, 2) := by decide +kernel
theorem d20_22 : decode prog_112_method_9_code 22 = .ok (.laload, 1) := by decide +kernel
theorem d20_23 : decode prog_112_method_9_code 23 = .ok (.aload_n 0, 1) := by decide +kernel
theorem d20_24 : decode prog_112_method_9_code 24 = .ok (.getfield 22, 3) := by decide +kernel
theorem d20_27 : decode prog_112_method_9_code 27 = .ok (.iload_n 2, 1) := by decide +kernel
theorem d20_28 : decode prog_112_method_9_code 28 = .ok (.laload, 1) := by decide +kernel
theorem d20_29 : decode prog_112_method_9_code 29 = .ok (.iload 6, 2) := by decide +kernel
theorem d20_31 : decode prog_112_method_9_code 31 = .ok (.lshl, 1) := by decide +kernel
theorem d20_32 : decode prog_112_method_9_code 32 = .ok (.ldc2_w 65, 3) := by decide +kernel
theorem d20_35 : decode prog_112_method_9_code 35 = .ok (.lxor, 1) := by decide +kernel
theorem d20_36 : decode prog_112_method_9_code 36 = .ok (.land, 1) := by decide +kernel
theorem d20_37 : decode prog_112_method_9_code 37 = .ok (.lload_n 3, 1) := by decide +kernel
theorem d20_38 : decode prog_112_method_9_code 38 = .ok (.iload 6, 2) := by decide +kernel
theorem d20_40 : decode prog_112_method_9_code 40 = .ok (.lshl, 1) := by decide +kernel
theorem d20_41 : decode prog_112_method_9_code 41 = .ok (.lor, 1) := by decide +kernel
theorem d20_42 : decode prog_112_method_9_code 42 = .ok (.lastore, 1) := by decide +kernel
theorem d20_43 : decode prog_112_method_9_code 43 = .ok (.return_, 1) := by decide +kernel
theorem pn_20 : plainName "com/example/ken2/ken2/StateLayout" = true := by first | (simp [plainName, overriddenIn]; done) | decide +kernel
theorem ef_20 (m : MethodId) (o0 : Addr) (o1 : Addr) (p2 : Int32) (q3 : Int64) : entryFrame m #[(.ref o0), (.ref o1), (.int p2), (.long q3)] 7 = mkF m 0 #[.val (.ref o0), .val (.ref o1), .val (.int p2), .val (.long q3), .second, .unset, .unset] [] := by first | (simp [entryFrame, mkF, argsToLocals, Value.category]; done) | rfl
theorem d22_0 : decode prog_112_method_6_code 0 = .ok (.aload_n 1, 1) := by decide +kernel
theorem d22_1 : decode prog_112_method_6_code 1 = .ok (.iload_n 2, 1) := by decide +kernel
theorem d22_2 : decode prog_112_method_6_code 2 = .ok (.aload_n 0, 1) := by decide +kernel
theorem d22_3 : decode prog_112_method_6_code 3 = .ok (.getfield 13, 3) := by decide +kernel
theorem d22_6 : decode prog_112_method_6_code 6 = .ok (.iload_n 3, 1) := by decide +kernel
theorem d22_7 : decode prog_112_method_6_code 7 = .ok (.iaload, 1) := by decide +kernel
theorem d22_8 : decode prog_112_method_6_code 8 = .ok (.iadd, 1) := by decide +kernel
theorem d22_9 : decode prog_112_method_6_code 9 = .ok (.laload, 1) := by decide +kernel
theorem d22_10 : decode prog_112_method_6_code 10 = .ok (.aload_n 0, 1) := by decide +kernel
theorem d22_11 : decode prog_112_method_6_code 11 = .ok (.getfield 19, 3) := by decide +kernel
theorem d22_14 : decode prog_112_method_6_code 14 = .ok (.iload_n 3, 1) := by decide +kernel
theorem d22_15 : decode prog_112_method_6_code 15 = .ok (.iaload, 1) := by decide +kernel
theorem d22_16 : decode prog_112_method_6_code 16 = .ok (.lushr, 1) := by decide +kernel
theorem d22_17 : decode prog_112_method_6_code 17 = .ok (.aload_n 0, 1) := by decide +kernel
theorem d22_18 : decode prog_112_method_6_code 18 = .ok (.getfield 22, 3) := by decide +kernel
theorem d22_21 : decode prog_112_method_6_code 21 = .ok (.iload_n 3, 1) := by decide +kernel
theorem d22_22 : decode prog_112_method_6_code 22 = .ok (.laload, 1) := by decide +kernel
theorem d22_23 : decode prog_112_method_6_code 23 = .ok (.land, 1) := by decide +kernel
theorem d22_24 : decode prog_112_method_6_code 24 = .ok (.l2i, 1) := by decide +kernel
theorem d22_25 : decode prog_112_method_6_code 25 = .ok (.ireturn, 1) := by decide +kernel
theorem pn_22 : plainName "com/example/ken2/ken2/StateLayout" = true := by first | (simp [plainName, overriddenIn]; done) | decide +kernel
theorem ef_22 (m : MethodId) (o0 : Addr) (o1 : Addr) (p2 : Int32) (p3 : Int32) : entryFrame m #[(.ref o0), (.ref o1), (.int p2), (.int p3)] 4 = mkF m 0 #[.val (.ref o0), .val (.ref o1), .val (.int p2), .val (.int p3)] [] := by first | (simp [entryFrame, mkF, argsToLocals, Value.category]; done) | rfl
theorem d21_0 : decode prog_112_method_5_code 0 = .ok (.aload_n 0, 1) := by decide +kernel
theorem d21_1 : decode prog_112_method_5_code 1 = .ok (.aload_n 1, 1) := by decide +kernel
theorem d21_2 : decode prog_112_method_5_code 2 = .ok (.iconst 0, 1) := by decide +kernel
theorem d21_3 : decode prog_112_method_5_code 3 = .ok (.iload_n 2, 1) := by decide +kernel
theorem d21_4 : decode prog_112_method_5_code 4 = .ok (.invokevirtual 51, 3) := by decide +kernel
theorem d21_7 : decode prog_112_method_5_code 7 = .ok (.ireturn, 1) := by decide +kernel
theorem pn_21 : plainName "com/example/ken2/ken2/StateLayout" = true := by first | (simp [plainName, overriddenIn]; done) | decide +kernel
theorem ef_21 (m : MethodId) (o0 : Addr) (o1 : Addr) (p2 : Int32) : entryFrame m #[(.ref o0), (.ref o1), (.int p2)] 3 = mkF m 0 #[.val (.ref o0), .val (.ref o1), .val (.int p2)] [] := by first | (simp [entryFrame, mkF, argsToLocals, Value.category]; done) | rfl
theorem pn_0 : plainName "com/example/ken2/ken2/StateLayoutSetPinLaw" = true := by first | (simp [plainName, overriddenIn]; done) | decide +kernel
theorem ef_0 (m : MethodId) (p0 : Int32) (q1 : Int64) (q2 : Int64) (q3 : Int64) : entryFrame m #[(.int p0), (.long q1), (.long q2), (.long q3)] maxLocals = mkF m 0 #[.val (.int p0), .val (.long q1), .second, .val (.long q2), .second, .val (.long q3), .second, .unset, .unset, .unset, .unset, .unset, .unset, .unset, .unset, .unset, .unset, .unset, .unset, .unset, .unset, .unset, .unset, .unset, .unset, .unset, .unset, .unset, .unset, .unset, .unset, .unset] [] := by first | (simp [entryFrame, mkF, argsToLocals, Value.category, maxLocals]; done) | rfl
theorem pd_0 : parseMethodDescriptor "()V" = some ⟨[], none⟩ := by decide +kernel
theorem pd_1 : parseMethodDescriptor "(Ljava/lang/String;Ljava/lang/String;Ljava/util/List;II)V" = some ⟨[(.object "java/lang/String"), (.object "java/lang/String"), (.object "java/util/List"), .int, .int], none⟩ := by decide +kernel
theorem pd_2 : parseMethodDescriptor "(II)I" = some ⟨[.int, .int], some .int⟩ := by decide +kernel
theorem pd_3 : parseMethodDescriptor "(I)[Ljava/lang/Object;" = some ⟨[.int], some (.array (.object "java/lang/Object"))⟩ := by decide +kernel
theorem pd_4 : parseMethodDescriptor "()[Ljava/lang/Object;" = some ⟨[], some (.array (.object "java/lang/Object"))⟩ := by decide +kernel
theorem pd_5 : parseMethodDescriptor "(Ljava/lang/Object;[Ljava/lang/Object;I)V" = some ⟨[(.object "java/lang/Object"), (.array (.object "java/lang/Object")), .int], none⟩ := by decide +kernel
theorem pd_6 : parseMethodDescriptor "(Ljava/lang/Object;)Z" = some ⟨[(.object "java/lang/Object")], some .boolean⟩ := by decide +kernel
theorem pd_7 : parseMethodDescriptor "()I" = some ⟨[], some .int⟩ := by decide +kernel
theorem pd_8 : parseMethodDescriptor "(IILjava/util/function/BiFunction;)I" = some ⟨[.int, .int, (.object "java/util/function/BiFunction")], some .int⟩ := by decide +kernel
theorem pd_9 : parseMethodDescriptor "(I)Ljava/lang/Object;" = some ⟨[.int], some (.object "java/lang/Object")⟩ := by decide +kernel
theorem pd_10 : parseMethodDescriptor "(I)I" = some ⟨[.int], some .int⟩ := by decide +kernel
theorem pd_11 : parseMethodDescriptor "(Ljava/util/List;)V" = some ⟨[(.object "java/util/List")], none⟩ := by decide +kernel
theorem pd_12 : parseMethodDescriptor "([JIJ)V" = some ⟨[(.array .long), .int, .long], none⟩ := by decide +kernel
theorem pd_13 : parseMethodDescriptor "([JII)I" = some ⟨[(.array .long), .int, .int], some .int⟩ := by decide +kernel
theorem pd_14 : parseMethodDescriptor "([JI)I" = some ⟨[(.array .long), .int], some .int⟩ := by decide +kernel
def Gs2612_107  : Nat → Int32 := (updN (fun _ => (0 : Int32)) ((0 : Int32)).toNatClampNeg (0 : Int32))
def Gs2612_128  : Nat → Int64 := (updN (fun _ => (0 : Int64)) ((0 : Int32)).toNatClampNeg (2147483647 : Int64))
def Gs2612_107b  : Nat → Int32 := (updN (Gs2612_107) ((1 : Int32)).toNatClampNeg (0 : Int32))
def Gs2612_115  : Nat → Int32 := (updN (Gs2612_107) ((1 : Int32)).toNatClampNeg (31 : Int32))
def Gs2612_128b  : Nat → Int64 := (updN (Gs2612_128) ((1 : Int32)).toNatClampNeg (2147483647 : Int64))
def Gs2612_107bb  : Nat → Int32 := (updN (Gs2612_107b) ((2 : Int32)).toNatClampNeg (0 : Int32))
def Gs2612_115b  : Nat → Int32 := (updN (Gs2612_115) ((2 : Int32)).toNatClampNeg (62 : Int32))
def Gs2612_128bb  : Nat → Int64 := (updN (Gs2612_128b) ((2 : Int32)).toNatClampNeg (3 : Int64))
def Gs2612_107bbb  : Nat → Int32 := (updN (Gs2612_107bb) ((3 : Int32)).toNatClampNeg (1 : Int32))
def Gs2612_115bb  : Nat → Int32 := (updN (Gs2612_115b) ((3 : Int32)).toNatClampNeg (0 : Int32))
def Gs2612_128bbb  : Nat → Int64 := (updN (Gs2612_128bb) ((3 : Int32)).toNatClampNeg (1048575 : Int64))
def Gs2612_107bbbb  : Nat → Int32 := (updN (Gs2612_107bbb) ((4 : Int32)).toNatClampNeg (1 : Int32))
def Gs2612_115bbb  : Nat → Int32 := (updN (Gs2612_115bb) ((4 : Int32)).toNatClampNeg (20 : Int32))
def Gs2612_128bbbb  : Nat → Int64 := (updN (Gs2612_128bbb) ((4 : Int32)).toNatClampNeg (31 : Int64))
def G0_269 (q2 : Int64) : Nat → Int64 := (updN (fun _ => (0 : Int64)) ((0 : Int32)).toNatClampNeg q2)
def G0_275 (q2 : Int64) (q3 : Int64) : Nat → Int64 := (updN (G0_269 q2) ((1 : Int32)).toNatClampNeg q3)
def v0_258 (q1 : Int64) : Int64 := ((q1 &&& (2147483647 : Int64)) % (2147483647 : Int64))
def Gs5320_42 (q2 : Int64) (q3 : Int64) (q1 : Int64) : Nat → Int64 := (updN (G0_275 q2 q3) ((0 : Int32)).toNatClampNeg ((q2 &&& ((2147483647 : Int64) ^^^ (-1 : Int64))) ||| ((v0_258 q1) <<< ((0 : Int32).toInt64 &&& 63))))
def Gs5620_42 (q2 : Int64) (q3 : Int64) (q1 : Int64) : Nat → Int64 := (updN (G0_275 q2 q3) ((0 : Int32)).toNatClampNeg ((q2 &&& ((4611686016279904256 : Int64) ^^^ (-1 : Int64))) ||| ((v0_258 q1) <<< ((31 : Int32).toInt64 &&& 63))))
def v0_258b (q1 : Int64) : Int64 := ((q1 &&& (2147483647 : Int64)) % (4 : Int64))
def Gs5920_42 (q2 : Int64) (q3 : Int64) (q1 : Int64) : Nat → Int64 := (updN (G0_275 q2 q3) ((0 : Int32)).toNatClampNeg ((q2 &&& ((-4611686018427387904 : Int64) ^^^ (-1 : Int64))) ||| ((v0_258b q1) <<< ((62 : Int32).toInt64 &&& 63))))
def v0_258bb (q1 : Int64) : Int64 := ((q1 &&& (2147483647 : Int64)) % (1048576 : Int64))
def Gs6220_42 (q2 : Int64) (q3 : Int64) (q1 : Int64) : Nat → Int64 := (updN (G0_275 q2 q3) ((1 : Int32)).toNatClampNeg ((q3 &&& ((1048575 : Int64) ^^^ (-1 : Int64))) ||| ((v0_258bb q1) <<< ((0 : Int32).toInt64 &&& 63))))
def v0_258bbb (q1 : Int64) : Int64 := ((q1 &&& (2147483647 : Int64)) % (32 : Int64))
def Gs6520_42 (q2 : Int64) (q3 : Int64) (q1 : Int64) : Nat → Int64 := (updN (G0_275 q2 q3) ((1 : Int32)).toNatClampNeg ((q3 &&& ((32505856 : Int64) ^^^ (-1 : Int64))) ||| ((v0_258bbb q1) <<< ((20 : Int32).toInt64 &&& 63))))
def v0_130 (p0 : Int32) : Int32 := ((p0 &&& (2147483647 : Int32)) % (5 : Int32))
def v0_305 (q2 : Int64) (q1 : Int64) : Int64 := ((q2 &&& ((2147483647 : Int64) ^^^ (-1 : Int64))) ||| ((v0_258 q1) <<< ((0 : Int32).toInt64 &&& 63)))
def v0_375 (q2 : Int64) (q1 : Int64) : Int32 := (if (((v0_305 q2 q1) ^^^ q2) &&& ((2147483647 : Int64) ^^^ (-1 : Int64))) = (0 : Int64) then (1 : Int32) else (0 : Int32))
def v0_396 (q2 : Int64) (q1 : Int64) : Int32 := (if ((XT.ushrL (v0_305 q2 q1) (0 : Int32)) &&& (2147483647 : Int64)) = (v0_258 q1) then (1 : Int32) else (0 : Int32))
def v0_419 (q2 : Int64) (q1 : Int64) : Int32 := (if ((((XT.ushrL ((q2 &&& ((2147483647 : Int64) ^^^ (-1 : Int64))) ||| ((v0_258 q1) <<< ((0 : Int32).toInt64 &&& 63))) (0 : Int32)) &&& (2147483647 : Int64)).toInt32).toInt64) = (v0_258 q1) then (1 : Int32) else (0 : Int32))
def v0_305b (q2 : Int64) (q1 : Int64) : Int64 := ((q2 &&& ((4611686016279904256 : Int64) ^^^ (-1 : Int64))) ||| ((v0_258 q1) <<< ((31 : Int32).toInt64 &&& 63)))
def v0_375b (q2 : Int64) (q1 : Int64) : Int32 := (if (((v0_305b q2 q1) ^^^ q2) &&& ((4611686016279904256 : Int64) ^^^ (-1 : Int64))) = (0 : Int64) then (1 : Int32) else (0 : Int32))
def v0_396b (q2 : Int64) (q1 : Int64) : Int32 := (if ((XT.ushrL (v0_305b q2 q1) (31 : Int32)) &&& (2147483647 : Int64)) = (v0_258 q1) then (1 : Int32) else (0 : Int32))
def v0_419b (q2 : Int64) (q1 : Int64) : Int32 := (if ((((XT.ushrL ((q2 &&& ((4611686016279904256 : Int64) ^^^ (-1 : Int64))) ||| ((v0_258 q1) <<< ((31 : Int32).toInt64 &&& 63))) (31 : Int32)) &&& (2147483647 : Int64)).toInt32).toInt64) = (v0_258 q1) then (1 : Int32) else (0 : Int32))
def v0_305bb (q2 : Int64) (q1 : Int64) : Int64 := ((q2 &&& ((-4611686018427387904 : Int64) ^^^ (-1 : Int64))) ||| ((v0_258b q1) <<< ((62 : Int32).toInt64 &&& 63)))
def v0_375bb (q2 : Int64) (q1 : Int64) : Int32 := (if (((v0_305bb q2 q1) ^^^ q2) &&& ((-4611686018427387904 : Int64) ^^^ (-1 : Int64))) = (0 : Int64) then (1 : Int32) else (0 : Int32))
def v0_396bb (q2 : Int64) (q1 : Int64) : Int32 := (if ((XT.ushrL (v0_305bb q2 q1) (62 : Int32)) &&& (3 : Int64)) = (v0_258b q1) then (1 : Int32) else (0 : Int32))
def v0_419bb (q2 : Int64) (q1 : Int64) : Int32 := (if ((((XT.ushrL ((q2 &&& ((-4611686018427387904 : Int64) ^^^ (-1 : Int64))) ||| ((v0_258b q1) <<< ((62 : Int32).toInt64 &&& 63))) (62 : Int32)) &&& (3 : Int64)).toInt32).toInt64) = (v0_258b q1) then (1 : Int32) else (0 : Int32))
def v0_305bbb (q3 : Int64) (q1 : Int64) : Int64 := ((q3 &&& ((1048575 : Int64) ^^^ (-1 : Int64))) ||| ((v0_258bb q1) <<< ((0 : Int32).toInt64 &&& 63)))
def v0_375bbb (q3 : Int64) (q1 : Int64) : Int32 := (if (((v0_305bbb q3 q1) ^^^ q3) &&& ((1048575 : Int64) ^^^ (-1 : Int64))) = (0 : Int64) then (1 : Int32) else (0 : Int32))
def v0_396bbb (q3 : Int64) (q1 : Int64) : Int32 := (if ((XT.ushrL (v0_305bbb q3 q1) (0 : Int32)) &&& (1048575 : Int64)) = (v0_258bb q1) then (1 : Int32) else (0 : Int32))
def v0_419bbb (q3 : Int64) (q1 : Int64) : Int32 := (if ((((XT.ushrL ((q3 &&& ((1048575 : Int64) ^^^ (-1 : Int64))) ||| ((v0_258bb q1) <<< ((0 : Int32).toInt64 &&& 63))) (0 : Int32)) &&& (1048575 : Int64)).toInt32).toInt64) = (v0_258bb q1) then (1 : Int32) else (0 : Int32))
def v0_305bbbb (q3 : Int64) (q1 : Int64) : Int64 := ((q3 &&& ((32505856 : Int64) ^^^ (-1 : Int64))) ||| ((v0_258bbb q1) <<< ((20 : Int32).toInt64 &&& 63)))
def v0_375bbbb (q3 : Int64) (q1 : Int64) : Int32 := (if (((v0_305bbbb q3 q1) ^^^ q3) &&& ((32505856 : Int64) ^^^ (-1 : Int64))) = (0 : Int64) then (1 : Int32) else (0 : Int32))
def v0_396bbbb (q3 : Int64) (q1 : Int64) : Int32 := (if ((XT.ushrL (v0_305bbbb q3 q1) (20 : Int32)) &&& (31 : Int64)) = (v0_258bbb q1) then (1 : Int32) else (0 : Int32))
def v0_419bbbb (q3 : Int64) (q1 : Int64) : Int32 := (if ((((XT.ushrL ((q3 &&& ((32505856 : Int64) ^^^ (-1 : Int64))) ||| ((v0_258bbb q1) <<< ((20 : Int32).toInt64 &&& 63))) (20 : Int32)) &&& (31 : Int64)).toInt32).toInt64) = (v0_258bbb q1) then (1 : Int32) else (0 : Int32))
theorem own_v4 (p0 : Int32) (h0 : ¬ v0_130 p0 = 0) (h1 : ¬ v0_130 p0 = 1) (h2 : ¬ v0_130 p0 = 2) (h3 : ¬ v0_130 p0 = 3) : v0_130 p0 = 4 := by
  have m := mask31 p0
  have r := rem32 (x := p0 &&& 2147483647) (y := 5) (by omega) (by decide)
  have r' : 0 ≤ (v0_130 p0).toInt ∧ (v0_130 p0).toInt < (5 : Int32).toInt := r
  have c0 : (0 : Int32).toInt = 0 := rfl
  have c1 : (1 : Int32).toInt = 1 := rfl
  have c2 : (2 : Int32).toInt = 2 := rfl
  have c3 : (3 : Int32).toInt = 3 := rfl
  have c4 : (4 : Int32).toInt = 4 := rfl
  have c5 : (5 : Int32).toInt = 5 := rfl
  rw [i32eq] at h0 h1 h2 h3 ⊢
  omega
theorem own_val (q : Int64) (z : Int64) (Z : Int) (hz : z.toInt = Z) (h0 : 0 < Z) (h1 : Z ≤ 2147483647) : 0 ≤ ((q &&& 2147483647) % z).toInt ∧ ((q &&& 2147483647) % z).toInt < Z := by
  have m := Jvm.Kit.i64_mask q 2147483647 (k := 31) (by decide) (by decide)
  have e : ((q &&& 2147483647) % z).toInt = (q &&& 2147483647).toInt.tmod z.toInt := Int64.toInt_mod _ _
  rw [e, Int.tmod_eq_emod_of_nonneg (by omega), hz]
  exact ⟨Int.emod_nonneg _ (by omega), Int.emod_lt_of_pos _ h0⟩
theorem own_w (q z : Int64) (Z : Int) (b : Nat) (hz : z.toInt = Z) (h0 : 0 < Z) (h1 : Z ≤ 2147483647) (hb : Z ≤ ((2 ^ b : Nat) : Int)) : ((q &&& 2147483647) % z).toBitVec.toNat < 2 ^ b := by
  have h := own_val q z Z hz h0 h1
  exact nat64lt h.1 (by omega)
theorem own_k {P : Prop} [Decidable P] (h : P) : ¬ ((if P then (1 : Int32) else 0) = 0) := by rw [if_pos h]; decide
theorem own_f0 (t q : Int64) : ((((t &&& ((2147483647 : Int64) ^^^ (-1 : Int64))) ||| ((v0_258 q) <<< ((0 : Int32).toInt64 &&& 63))) ^^^ t) &&& ((2147483647 : Int64) ^^^ (-1 : Int64))) = 0 ∧ (XT.ushrL ((t &&& ((2147483647 : Int64) ^^^ (-1 : Int64))) ||| ((v0_258 q) <<< ((0 : Int32).toInt64 &&& 63))) (0 : Int32) &&& (2147483647 : Int64)) = v0_258 q := own_field t (v0_258 q) ((2147483647 : Int64) ^^^ (-1 : Int64)) (2147483647) (0) 0 31 (by decide) (by decide) rfl (by decide) (by decide) (own_w q 2147483647 2147483647 31 rfl (by decide) (by decide) (by decide))
theorem br0_423a (q2 : Int64) (q1 : Int64) (p0 : Int32) (hb134 : (v0_130 p0) = (0 : Int32)) : ¬ ((v0_375 q2 q1) = (0 : Int32)) := own_k (own_f0 q2 q1).1
theorem br0_428a (q2 : Int64) (q1 : Int64) (p0 : Int32) (hb134 : (v0_130 p0) = (0 : Int32)) : ¬ ((v0_396 q2 q1) = (0 : Int32)) := own_k (own_f0 q2 q1).2
theorem br0_433a (q2 : Int64) (q1 : Int64) (p0 : Int32) (hb134 : (v0_130 p0) = (0 : Int32)) : ¬ ((v0_419 q2 q1) = (0 : Int32)) := own_k (by rw [(own_f0 q2 q1).2]; exact back32L (own_val q1 2147483647 2147483647 rfl (by decide) (by decide)).1 (Int.lt_of_lt_of_le (own_val q1 2147483647 2147483647 rfl (by decide) (by decide)).2 (by decide)))
theorem own_f1 (t q : Int64) : ((((t &&& ((4611686016279904256 : Int64) ^^^ (-1 : Int64))) ||| ((v0_258 q) <<< ((31 : Int32).toInt64 &&& 63))) ^^^ t) &&& ((4611686016279904256 : Int64) ^^^ (-1 : Int64))) = 0 ∧ (XT.ushrL ((t &&& ((4611686016279904256 : Int64) ^^^ (-1 : Int64))) ||| ((v0_258 q) <<< ((31 : Int32).toInt64 &&& 63))) (31 : Int32) &&& (2147483647 : Int64)) = v0_258 q := own_field t (v0_258 q) ((4611686016279904256 : Int64) ^^^ (-1 : Int64)) (2147483647) (31) 31 31 (by decide) (by decide) rfl (by decide) (by decide) (own_w q 2147483647 2147483647 31 rfl (by decide) (by decide) (by decide))
theorem br0_423ba (q2 : Int64) (q1 : Int64) (p0 : Int32) (hb134 : ¬ ((v0_130 p0) = (0 : Int32))) (hb159 : (v0_130 p0) = (1 : Int32)) : ¬ ((v0_375b q2 q1) = (0 : Int32)) := own_k (own_f1 q2 q1).1
theorem br0_428ba (q2 : Int64) (q1 : Int64) (p0 : Int32) (hb134 : ¬ ((v0_130 p0) = (0 : Int32))) (hb159 : (v0_130 p0) = (1 : Int32)) : ¬ ((v0_396b q2 q1) = (0 : Int32)) := own_k (own_f1 q2 q1).2
theorem br0_433ba (q2 : Int64) (q1 : Int64) (p0 : Int32) (hb134 : ¬ ((v0_130 p0) = (0 : Int32))) (hb159 : (v0_130 p0) = (1 : Int32)) : ¬ ((v0_419b q2 q1) = (0 : Int32)) := own_k (by rw [(own_f1 q2 q1).2]; exact back32L (own_val q1 2147483647 2147483647 rfl (by decide) (by decide)).1 (Int.lt_of_lt_of_le (own_val q1 2147483647 2147483647 rfl (by decide) (by decide)).2 (by decide)))
theorem own_f2 (t q : Int64) : ((((t &&& ((-4611686018427387904 : Int64) ^^^ (-1 : Int64))) ||| ((v0_258b q) <<< ((62 : Int32).toInt64 &&& 63))) ^^^ t) &&& ((-4611686018427387904 : Int64) ^^^ (-1 : Int64))) = 0 ∧ (XT.ushrL ((t &&& ((-4611686018427387904 : Int64) ^^^ (-1 : Int64))) ||| ((v0_258b q) <<< ((62 : Int32).toInt64 &&& 63))) (62 : Int32) &&& (3 : Int64)) = v0_258b q := own_field t (v0_258b q) ((-4611686018427387904 : Int64) ^^^ (-1 : Int64)) (3) (62) 62 2 (by decide) (by decide) rfl (by decide) (by decide) (own_w q 4 4 2 rfl (by decide) (by decide) (by decide))
theorem br0_423bba (q2 : Int64) (q1 : Int64) (p0 : Int32) (hb134 : ¬ ((v0_130 p0) = (0 : Int32))) (hb159 : ¬ ((v0_130 p0) = (1 : Int32))) (hb185 : (v0_130 p0) = (2 : Int32)) : ¬ ((v0_375bb q2 q1) = (0 : Int32)) := own_k (own_f2 q2 q1).1
theorem br0_428bba (q2 : Int64) (q1 : Int64) (p0 : Int32) (hb134 : ¬ ((v0_130 p0) = (0 : Int32))) (hb159 : ¬ ((v0_130 p0) = (1 : Int32))) (hb185 : (v0_130 p0) = (2 : Int32)) : ¬ ((v0_396bb q2 q1) = (0 : Int32)) := own_k (own_f2 q2 q1).2
theorem br0_433bba (q2 : Int64) (q1 : Int64) (p0 : Int32) (hb134 : ¬ ((v0_130 p0) = (0 : Int32))) (hb159 : ¬ ((v0_130 p0) = (1 : Int32))) (hb185 : (v0_130 p0) = (2 : Int32)) : ¬ ((v0_419bb q2 q1) = (0 : Int32)) := own_k (by rw [(own_f2 q2 q1).2]; exact back32L (own_val q1 4 4 rfl (by decide) (by decide)).1 (Int.lt_of_lt_of_le (own_val q1 4 4 rfl (by decide) (by decide)).2 (by decide)))
theorem own_f3 (t q : Int64) : ((((t &&& ((1048575 : Int64) ^^^ (-1 : Int64))) ||| ((v0_258bb q) <<< ((0 : Int32).toInt64 &&& 63))) ^^^ t) &&& ((1048575 : Int64) ^^^ (-1 : Int64))) = 0 ∧ (XT.ushrL ((t &&& ((1048575 : Int64) ^^^ (-1 : Int64))) ||| ((v0_258bb q) <<< ((0 : Int32).toInt64 &&& 63))) (0 : Int32) &&& (1048575 : Int64)) = v0_258bb q := own_field t (v0_258bb q) ((1048575 : Int64) ^^^ (-1 : Int64)) (1048575) (0) 0 20 (by decide) (by decide) rfl (by decide) (by decide) (own_w q 1048576 1048576 20 rfl (by decide) (by decide) (by decide))
theorem br0_423bbba (q3 : Int64) (q1 : Int64) (p0 : Int32) (hb134 : ¬ ((v0_130 p0) = (0 : Int32))) (hb159 : ¬ ((v0_130 p0) = (1 : Int32))) (hb185 : ¬ ((v0_130 p0) = (2 : Int32))) (hb211 : (v0_130 p0) = (3 : Int32)) : ¬ ((v0_375bbb q3 q1) = (0 : Int32)) := own_k (own_f3 q3 q1).1
theorem br0_428bbba (q3 : Int64) (q1 : Int64) (p0 : Int32) (hb134 : ¬ ((v0_130 p0) = (0 : Int32))) (hb159 : ¬ ((v0_130 p0) = (1 : Int32))) (hb185 : ¬ ((v0_130 p0) = (2 : Int32))) (hb211 : (v0_130 p0) = (3 : Int32)) : ¬ ((v0_396bbb q3 q1) = (0 : Int32)) := own_k (own_f3 q3 q1).2
theorem br0_433bbba (q3 : Int64) (q1 : Int64) (p0 : Int32) (hb134 : ¬ ((v0_130 p0) = (0 : Int32))) (hb159 : ¬ ((v0_130 p0) = (1 : Int32))) (hb185 : ¬ ((v0_130 p0) = (2 : Int32))) (hb211 : (v0_130 p0) = (3 : Int32)) : ¬ ((v0_419bbb q3 q1) = (0 : Int32)) := own_k (by rw [(own_f3 q3 q1).2]; exact back32L (own_val q1 1048576 1048576 rfl (by decide) (by decide)).1 (Int.lt_of_lt_of_le (own_val q1 1048576 1048576 rfl (by decide) (by decide)).2 (by decide)))
theorem own_f4 (t q : Int64) : ((((t &&& ((32505856 : Int64) ^^^ (-1 : Int64))) ||| ((v0_258bbb q) <<< ((20 : Int32).toInt64 &&& 63))) ^^^ t) &&& ((32505856 : Int64) ^^^ (-1 : Int64))) = 0 ∧ (XT.ushrL ((t &&& ((32505856 : Int64) ^^^ (-1 : Int64))) ||| ((v0_258bbb q) <<< ((20 : Int32).toInt64 &&& 63))) (20 : Int32) &&& (31 : Int64)) = v0_258bbb q := own_field t (v0_258bbb q) ((32505856 : Int64) ^^^ (-1 : Int64)) (31) (20) 20 5 (by decide) (by decide) rfl (by decide) (by decide) (own_w q 32 32 5 rfl (by decide) (by decide) (by decide))
theorem br0_423bbbb (q3 : Int64) (q1 : Int64) (p0 : Int32) (hb134 : ¬ ((v0_130 p0) = (0 : Int32))) (hb159 : ¬ ((v0_130 p0) = (1 : Int32))) (hb185 : ¬ ((v0_130 p0) = (2 : Int32))) (hb211 : ¬ ((v0_130 p0) = (3 : Int32))) : ¬ ((v0_375bbbb q3 q1) = (0 : Int32)) := own_k (own_f4 q3 q1).1
theorem br0_428bbbb (q3 : Int64) (q1 : Int64) (p0 : Int32) (hb134 : ¬ ((v0_130 p0) = (0 : Int32))) (hb159 : ¬ ((v0_130 p0) = (1 : Int32))) (hb185 : ¬ ((v0_130 p0) = (2 : Int32))) (hb211 : ¬ ((v0_130 p0) = (3 : Int32))) : ¬ ((v0_396bbbb q3 q1) = (0 : Int32)) := own_k (own_f4 q3 q1).2
theorem br0_433bbbb (q3 : Int64) (q1 : Int64) (p0 : Int32) (hb134 : ¬ ((v0_130 p0) = (0 : Int32))) (hb159 : ¬ ((v0_130 p0) = (1 : Int32))) (hb185 : ¬ ((v0_130 p0) = (2 : Int32))) (hb211 : ¬ ((v0_130 p0) = (3 : Int32))) : ¬ ((v0_419bbbb q3 q1) = (0 : Int32)) := own_k (by rw [(own_f4 q3 q1).2]; exact back32L (own_val q1 32 32 rfl (by decide) (by decide)).1 (Int.lt_of_lt_of_le (own_val q1 32 32 rfl (by decide) (by decide)).2 (by decide)))
def Q22s67 (Z : State) (q2 : Int64) (q3 : Int64) (q1 : Int64) (b25766 : Addr) (b27787 : Addr) (b27802 : Addr) (b27824 : Addr) (b65634 : Addr) (h0 : Heap) (n0 : Nat) : Option Value → Heap → List Loc → Prop := fun v h L => v = some (.int (((XT.ushrL ((q3 &&& ((32505856 : Int64) ^^^ (-1 : Int64))) ||| ((v0_258bbb q1) <<< ((20 : Int32).toInt64 &&& 63))) (20 : Int32)) &&& (31 : Int64)).toInt32)) ∧ Fr n0 L ∧ h = h0
abbrev Las6722_0 (b25766 : Addr) (b65634 : Addr) : Array Slot := #[.val (.ref b25766), .val (.ref b65634), .val (.int (0 : Int32)), .val (.int (4 : Int32))]
set_option maxRecDepth 65536 in
set_option maxHeartbeats 40000000 in
theorem rm22s67 (l : Launch) (Z : State) (a0 : Array Value) (hw : ∀ d ∈ tables_1, d.before a0 Z = true) (ws : List Jvm.Cond) (q2 : Int64) (q3 : Int64) (q1 : Int64) (b25766 : Addr) (b27787 : Addr) (b27802 : Addr) (b27824 : Addr) (b65634 : Addr) (h0 : Heap) (n0 : Nat) (Z0 : n0 ≤ h0.size) (F_m_word_b25766 : Fld Z h0 b25766 "com/example/ken2/ken2/StateLayout" "m_word" "[I" (.ref b27787)) (F_m_shift_b25766 : Fld Z h0 b25766 "com/example/ken2/ken2/StateLayout" "m_shift" "[I" (.ref b27802)) (F_m_mask_b25766 : Fld Z h0 b25766 "com/example/ken2/ken2/StateLayout" "m_mask" "[J" (.ref b27824)) (A_b27787 : Ary Z h0 b27787 .int 5 (fun i => .int ((Gs2612_107bbbb) i))) (A_b27802 : Ary Z h0 b27802 .int 5 (fun i => .int ((Gs2612_115bbb) i))) (A_b27824 : Ary Z h0 b27824 .long 5 (fun i => .long ((Gs2612_128bbbb) i))) (A_b65634 : Ary Z h0 b65634 .long 2 (fun i => .long ((Gs6520_42 q2 q3 q1) i))) :
    MetFree l Y21 (head1 (Jvm.Cond.code Y21 prog_112_method_6_code 4 (some .int) :: ws) ({ frames := 0, cells := 0, slots := 0, locals := 0 } : Room)) (fun a U => a = #[(.ref b25766), (.ref b65634), (.int (0 : Int32)), (.int (4 : Int32))] ∧ Z.Warmed39 U.vm ∧ U.heap = h0) (fun _ _ _ _ _ => True) (fun _ U o U' => ∃ v L, o = .returned v ∧ (Q22s67 Z q2 q3 q1 b25766 b27787 b27802 b27824 b65634 h0 n0) v U'.heap L ∧ FrameEnd U o U' L ({ frames := 0, cells := 0, slots := 0, locals := 0 } : Room).cells ({ frames := 0, cells := 0, slots := 0, locals := 0 } : Room).slots) :=
  own_met (ret := (some .int)) (Q := (Q22s67 Z q2 q3 q1 b25766 b27787 b27802 b27824 b65634 h0 n0)) (plainFor_of_name pn_22) (fun m => ef_22 m b25766 b65634 (0 : Int32) (4 : Int32)) (fun p e s m below meth c T0 X0 hx hby hml hown hnm hZ e0 => by
  have N0 := Fr.nil n0
  refine ost (mkF m 1 (Las6722_0 b25766 b65634) [(.ref b65634)]) X0 (fun t k => XS.aloadN X0.here hx rfl (hb hby d22_0) rfl rfl k) ?_
  refine ost (mkF m 2 (Las6722_0 b25766 b65634) [(.int (0 : Int32)), (.ref b65634)]) X0 (fun t k => XS.iloadN X0.here hx rfl (hb hby d22_1) rfl k) ?_
  refine ost (mkF m 3 (Las6722_0 b25766 b65634) [(.ref b25766), (.int (0 : Int32)), (.ref b65634)]) X0 (fun t k => XS.aloadN X0.here hx rfl (hb hby d22_2) rfl rfl k) ?_
  obtain ⟨T68676, X68676, e68676, st68676⟩ := getF X0 hx hZ hown (host := "") (Or.inl (hw _ (wm 111 rfl))) Via.refl e0 F_m_word_b25766 (g := (mkF m 3 (Las6722_0 b25766 b65634) [(.ref b25766), (.int (0 : Int32)), (.ref b65634)])) rfl rfl (hb hby d22_3)
  refine ost (mkF m 6 (Las6722_0 b25766 b65634) [(.ref b27787), (.int (0 : Int32)), (.ref b65634)]) X68676 (fun t k => st68676 _ k) ?_
  refine ost (mkF m 7 (Las6722_0 b25766 b65634) [(.int (4 : Int32)), (.ref b27787), (.int (0 : Int32)), (.ref b65634)]) X68676 (fun t k => XS.iloadN X68676.here hx rfl (hb hby d22_6) rfl k) ?_
  refine ost (mkF m 8 (Las6722_0 b25766 b65634) [(.int (1 : Int32)), (.int (0 : Int32)), (.ref b65634)]) X68676 (fun t k => own_ldI X68676 hx hZ e68676 A_b27787 (by decide) rfl (g := (mkF m 7 (Las6722_0 b25766 b65634) [(.int (4 : Int32)), (.ref b27787), (.int (0 : Int32)), (.ref b65634)])) rfl rfl (hb hby d22_7) _ k) ?_
  refine ost (mkF m 9 (Las6722_0 b25766 b65634) [(.int (1 : Int32)), (.ref b65634)]) X68676 (fun t k => XS.iadd X68676.here hx rfl (hb hby d22_8) rfl k) ?_
  refine ost (mkF m 10 (Las6722_0 b25766 b65634) [(.long ((q3 &&& ((32505856 : Int64) ^^^ (-1 : Int64))) ||| ((v0_258bbb q1) <<< ((20 : Int32).toInt64 &&& 63))))]) X68676 (fun t k => own_ldJ X68676 hx hZ e68676 A_b65634 (by decide) rfl (g := (mkF m 9 (Las6722_0 b25766 b65634) [(.int (1 : Int32)), (.ref b65634)])) rfl rfl (hb hby d22_9) _ k) ?_
  refine ost (mkF m 11 (Las6722_0 b25766 b65634) [(.ref b25766), (.long ((q3 &&& ((32505856 : Int64) ^^^ (-1 : Int64))) ||| ((v0_258bbb q1) <<< ((20 : Int32).toInt64 &&& 63))))]) X68676 (fun t k => XS.aloadN X68676.here hx rfl (hb hby d22_10) rfl rfl k) ?_
  obtain ⟨T68677, X68677, e68677, st68677⟩ := getF X68676 hx hZ hown (host := "") (Or.inl (hw _ (wm 113 rfl))) Via.refl e68676 F_m_shift_b25766 (g := (mkF m 11 (Las6722_0 b25766 b65634) [(.ref b25766), (.long ((q3 &&& ((32505856 : Int64) ^^^ (-1 : Int64))) ||| ((v0_258bbb q1) <<< ((20 : Int32).toInt64 &&& 63))))])) rfl rfl (hb hby d22_11)
  refine ost (mkF m 14 (Las6722_0 b25766 b65634) [(.ref b27802), (.long ((q3 &&& ((32505856 : Int64) ^^^ (-1 : Int64))) ||| ((v0_258bbb q1) <<< ((20 : Int32).toInt64 &&& 63))))]) X68677 (fun t k => st68677 _ k) ?_
  refine ost (mkF m 15 (Las6722_0 b25766 b65634) [(.int (4 : Int32)), (.ref b27802), (.long ((q3 &&& ((32505856 : Int64) ^^^ (-1 : Int64))) ||| ((v0_258bbb q1) <<< ((20 : Int32).toInt64 &&& 63))))]) X68677 (fun t k => XS.iloadN X68677.here hx rfl (hb hby d22_14) rfl k) ?_
  refine ost (mkF m 16 (Las6722_0 b25766 b65634) [(.int (20 : Int32)), (.long ((q3 &&& ((32505856 : Int64) ^^^ (-1 : Int64))) ||| ((v0_258bbb q1) <<< ((20 : Int32).toInt64 &&& 63))))]) X68677 (fun t k => own_ldI X68677 hx hZ e68677 A_b27802 (by decide) rfl (g := (mkF m 15 (Las6722_0 b25766 b65634) [(.int (4 : Int32)), (.ref b27802), (.long ((q3 &&& ((32505856 : Int64) ^^^ (-1 : Int64))) ||| ((v0_258bbb q1) <<< ((20 : Int32).toInt64 &&& 63))))])) rfl rfl (hb hby d22_15) _ k) ?_
  refine ost (mkF m 17 (Las6722_0 b25766 b65634) [(.long (XT.ushrL ((q3 &&& ((32505856 : Int64) ^^^ (-1 : Int64))) ||| ((v0_258bbb q1) <<< ((20 : Int32).toInt64 &&& 63))) (20 : Int32)))]) X68677 (fun t k => XT.lushr X68677.here hx rfl (hb hby d22_16) rfl k) ?_
  refine ost (mkF m 18 (Las6722_0 b25766 b65634) [(.ref b25766), (.long (XT.ushrL ((q3 &&& ((32505856 : Int64) ^^^ (-1 : Int64))) ||| ((v0_258bbb q1) <<< ((20 : Int32).toInt64 &&& 63))) (20 : Int32)))]) X68677 (fun t k => XS.aloadN X68677.here hx rfl (hb hby d22_17) rfl rfl k) ?_
  obtain ⟨T68678, X68678, e68678, st68678⟩ := getF X68677 hx hZ hown (host := "") (Or.inl (hw _ (wm 116 rfl))) Via.refl e68677 F_m_mask_b25766 (g := (mkF m 18 (Las6722_0 b25766 b65634) [(.ref b25766), (.long (XT.ushrL ((q3 &&& ((32505856 : Int64) ^^^ (-1 : Int64))) ||| ((v0_258bbb q1) <<< ((20 : Int32).toInt64 &&& 63))) (20 : Int32)))])) rfl rfl (hb hby d22_18)
  refine ost (mkF m 21 (Las6722_0 b25766 b65634) [(.ref b27824), (.long (XT.ushrL ((q3 &&& ((32505856 : Int64) ^^^ (-1 : Int64))) ||| ((v0_258bbb q1) <<< ((20 : Int32).toInt64 &&& 63))) (20 : Int32)))]) X68678 (fun t k => st68678 _ k) ?_
  refine ost (mkF m 22 (Las6722_0 b25766 b65634) [(.int (4 : Int32)), (.ref b27824), (.long (XT.ushrL ((q3 &&& ((32505856 : Int64) ^^^ (-1 : Int64))) ||| ((v0_258bbb q1) <<< ((20 : Int32).toInt64 &&& 63))) (20 : Int32)))]) X68678 (fun t k => XS.iloadN X68678.here hx rfl (hb hby d22_21) rfl k) ?_
  refine ost (mkF m 23 (Las6722_0 b25766 b65634) [(.long (31 : Int64)), (.long (XT.ushrL ((q3 &&& ((32505856 : Int64) ^^^ (-1 : Int64))) ||| ((v0_258bbb q1) <<< ((20 : Int32).toInt64 &&& 63))) (20 : Int32)))]) X68678 (fun t k => own_ldJ X68678 hx hZ e68678 A_b27824 (by decide) rfl (g := (mkF m 22 (Las6722_0 b25766 b65634) [(.int (4 : Int32)), (.ref b27824), (.long (XT.ushrL ((q3 &&& ((32505856 : Int64) ^^^ (-1 : Int64))) ||| ((v0_258bbb q1) <<< ((20 : Int32).toInt64 &&& 63))) (20 : Int32)))])) rfl rfl (hb hby d22_22) _ k) ?_
  refine ost (mkF m 24 (Las6722_0 b25766 b65634) [(.long ((XT.ushrL ((q3 &&& ((32505856 : Int64) ^^^ (-1 : Int64))) ||| ((v0_258bbb q1) <<< ((20 : Int32).toInt64 &&& 63))) (20 : Int32)) &&& (31 : Int64)))]) X68678 (fun t k => XT.land X68678.here hx rfl (hb hby d22_23) rfl k) ?_
  refine ost (mkF m 25 (Las6722_0 b25766 b65634) [(.int (((XT.ushrL ((q3 &&& ((32505856 : Int64) ^^^ (-1 : Int64))) ||| ((v0_258bbb q1) <<< ((20 : Int32).toInt64 &&& 63))) (20 : Int32)) &&& (31 : Int64)).toInt32))]) X68678 (fun t k => XT.l2i X68678.here hx rfl (hb hby d22_24) rfl k) ?_
  refine OwnFin.retInt X68678 (hb hby d22_25) (by decide) (by decide) ?_
  rw [e68678]
  exact ⟨rfl, N0, rfl⟩)
def Q21s66 (Z : State) (q2 : Int64) (q3 : Int64) (q1 : Int64) (b25766 : Addr) (b27787 : Addr) (b27802 : Addr) (b27824 : Addr) (b65634 : Addr) (h0 : Heap) (n0 : Nat) : Option Value → Heap → List Loc → Prop := fun v h L => v = some (.int (((XT.ushrL ((q3 &&& ((32505856 : Int64) ^^^ (-1 : Int64))) ||| ((v0_258bbb q1) <<< ((20 : Int32).toInt64 &&& 63))) (20 : Int32)) &&& (31 : Int64)).toInt32)) ∧ Fr n0 L ∧ h = h0
set_option maxRecDepth 65536 in
set_option maxHeartbeats 40000000 in
theorem rm21s66 (l : Launch) (Z : State) (a0 : Array Value) (hw : ∀ d ∈ tables_1, d.before a0 Z = true) (ws : List Jvm.Cond) (q2 : Int64) (q3 : Int64) (q1 : Int64) (b25766 : Addr) (b27787 : Addr) (b27802 : Addr) (b27824 : Addr) (b65634 : Addr) (h0 : Heap) (n0 : Nat) (Z0 : n0 ≤ h0.size) (E_b25766 : Exa Z h0 b25766 "com/example/ken2/ken2/StateLayout") (F_m_word_b25766 : Fld Z h0 b25766 "com/example/ken2/ken2/StateLayout" "m_word" "[I" (.ref b27787)) (F_m_shift_b25766 : Fld Z h0 b25766 "com/example/ken2/ken2/StateLayout" "m_shift" "[I" (.ref b27802)) (F_m_mask_b25766 : Fld Z h0 b25766 "com/example/ken2/ken2/StateLayout" "m_mask" "[J" (.ref b27824)) (A_b27787 : Ary Z h0 b27787 .int 5 (fun i => .int ((Gs2612_107bbbb) i))) (A_b27802 : Ary Z h0 b27802 .int 5 (fun i => .int ((Gs2612_115bbb) i))) (A_b27824 : Ary Z h0 b27824 .long 5 (fun i => .long ((Gs2612_128bbbb) i))) (A_b65634 : Ary Z h0 b65634 .long 2 (fun i => .long ((Gs6520_42 q2 q3 q1) i))) :
    MetFree l Y22 (head1 (Jvm.Cond.code Y22 prog_112_method_5_code 3 (some .int) :: ws) ({ frames := 1, cells := 0, slots := 0, locals := 15 } : Room)) (fun a U => a = #[(.ref b25766), (.ref b65634), (.int (4 : Int32))] ∧ Z.Warmed39 U.vm ∧ U.heap = h0) (fun _ _ _ _ _ => True) (fun _ U o U' => ∃ v L, o = .returned v ∧ (Q21s66 Z q2 q3 q1 b25766 b27787 b27802 b27824 b65634 h0 n0) v U'.heap L ∧ FrameEnd U o U' L ({ frames := 1, cells := 0, slots := 0, locals := 15 } : Room).cells ({ frames := 1, cells := 0, slots := 0, locals := 15 } : Room).slots) :=
  own_met (ret := (some .int)) (Q := (Q21s66 Z q2 q3 q1 b25766 b27787 b27802 b27824 b65634 h0 n0)) (plainFor_of_name pn_21) (fun m => ef_21 m b25766 b65634 (4 : Int32)) (fun p e s m below meth c T0 X0 hx hby hml hown hnm hZ e0 => by
  have N0 := Fr.nil n0
  refine ost (mkF m 1 #[.val (.ref b25766), .val (.ref b65634), .val (.int (4 : Int32))] [(.ref b25766)]) X0 (fun t k => XS.aloadN X0.here hx rfl (hb hby d21_0) rfl rfl k) ?_
  refine ost (mkF m 2 #[.val (.ref b25766), .val (.ref b65634), .val (.int (4 : Int32))] [(.ref b65634), (.ref b25766)]) X0 (fun t k => XS.aloadN X0.here hx rfl (hb hby d21_1) rfl rfl k) ?_
  refine ost (mkF m 3 #[.val (.ref b25766), .val (.ref b65634), .val (.int (4 : Int32))] [(.int (0 : Int32)), (.ref b65634), (.ref b25766)]) X0 (fun t k => XS.iconst X0.here hx rfl (hb hby d21_2) k) ?_
  refine ost (mkF m 4 #[.val (.ref b25766), .val (.ref b65634), .val (.int (4 : Int32))] [(.int (4 : Int32)), (.int (0 : Int32)), (.ref b65634), (.ref b25766)]) X0 (fun t k => XS.iloadN X0.here hx rfl (hb hby d21_3) rfl k) ?_
  obtain ⟨_, T67675, L67675, X67675, ⟨rfl, N67675q, u68689⟩, st67675⟩ := own_callP X0 hx hZ (y := Y21) (W := 0) (a := b25766) (argsL := [(.ref b65634), (.int (0 : Int32)), (.int (4 : Int32))]) (rest := []) hown (hw _ (wm 166 rfl)) (hw _ (wm 157 rfl)) rfl (hw _ (wm 167 rfl)) (hw _ (wm 168 rfl)) (hw _ (wm 96 rfl)) (hw _ (wm 169 rfl)) (by decide) E_b25766 (rm22s67 l Z a0 hw [] q2 q3 q1 b25766 b27787 b27802 b27824 b65634 h0 n0 Z0 F_m_word_b25766 F_m_shift_b25766 F_m_mask_b25766 A_b27787 A_b27802 A_b27824 A_b65634) (by decide) (by decide) (by decide) (by decide) e0 (g := (mkF m 4 #[.val (.ref b25766), .val (.ref b65634), .val (.int (4 : Int32))] [(.int (4 : Int32)), (.int (0 : Int32)), (.ref b65634), (.ref b25766)])) rfl (by rw [hml]; rfl) pd_13 rfl rfl (by show 2 * 0 + _ ≤ _; exact Nat.le_of_eq rfl) (hb hby d21_4)
  have N67675 := Fr.app N0 N67675q
  refine ost (mkF m 7 #[.val (.ref b25766), .val (.ref b65634), .val (.int (4 : Int32))] [(.int (((XT.ushrL ((q3 &&& ((32505856 : Int64) ^^^ (-1 : Int64))) ||| ((v0_258bbb q1) <<< ((20 : Int32).toInt64 &&& 63))) (20 : Int32)) &&& (31 : Int64)).toInt32))]) X67675 (fun t k => st67675 _ k) ?_
  refine OwnFin.retInt X67675 (hb hby d21_7) (by decide) (by decide) ?_
  rw [u68689]
  exact ⟨rfl, N67675, rfl⟩)
def Q20s65 (Z : State) (q1 : Int64) (q2 : Int64) (q3 : Int64) (b25766 : Addr) (b27787 : Addr) (b27802 : Addr) (b27824 : Addr) (b65634 : Addr) (h0 : Heap) (n0 : Nat) : Option Value → Heap → List Loc → Prop := fun v h L => v = none ∧ Fr n0 L ∧ Keep h0 h [b65634] ∧ Ary Z h b65634 .long 2 (fun i => .long ((Gs6520_42 q2 q3 q1) i))
abbrev Las6520_0 (b25766 : Addr) (b65634 : Addr) (q1 : Int64) : Array Slot := #[.val (.ref b25766), .val (.ref b65634), .val (.int (4 : Int32)), .val (.long (v0_258bbb q1)), .second, .unset, .unset]
abbrev Las6520_1 (b25766 : Addr) (b65634 : Addr) (q1 : Int64) : Array Slot := #[.val (.ref b25766), .val (.ref b65634), .val (.int (4 : Int32)), .val (.long (v0_258bbb q1)), .second, .val (.int (1 : Int32)), .unset]
abbrev Las6520_2 (b25766 : Addr) (b65634 : Addr) (q1 : Int64) : Array Slot := #[.val (.ref b25766), .val (.ref b65634), .val (.int (4 : Int32)), .val (.long (v0_258bbb q1)), .second, .val (.int (1 : Int32)), .val (.int (20 : Int32))]
set_option maxRecDepth 65536 in
set_option maxHeartbeats 40000000 in
theorem rm20s65 (l : Launch) (Z : State) (a0 : Array Value) (hw : ∀ d ∈ tables_1, d.before a0 Z = true) (ws : List Jvm.Cond) (q1 : Int64) (q2 : Int64) (q3 : Int64) (b25766 : Addr) (b27787 : Addr) (b27802 : Addr) (b27824 : Addr) (b65634 : Addr) (h0 : Heap) (n0 : Nat) (Z0 : n0 ≤ h0.size) (F_m_word_b25766 : Fld Z h0 b25766 "com/example/ken2/ken2/StateLayout" "m_word" "[I" (.ref b27787)) (F_m_shift_b25766 : Fld Z h0 b25766 "com/example/ken2/ken2/StateLayout" "m_shift" "[I" (.ref b27802)) (F_m_mask_b25766 : Fld Z h0 b25766 "com/example/ken2/ken2/StateLayout" "m_mask" "[J" (.ref b27824)) (A_b27787 : Ary Z h0 b27787 .int 5 (fun i => .int ((Gs2612_107bbbb) i))) (A_b27802 : Ary Z h0 b27802 .int 5 (fun i => .int ((Gs2612_115bbb) i))) (A_b27824 : Ary Z h0 b27824 .long 5 (fun i => .long ((Gs2612_128bbbb) i))) (A_b65634 : Ary Z h0 b65634 .long 2 (fun i => .long ((G0_275 q2 q3) i))) (g_b65634 : n0 ≤ b65634) :
    MetFree l Y20 (head1 (Jvm.Cond.code Y20 prog_112_method_9_code 7 none :: ws) ({ frames := 0, cells := 0, slots := 0, locals := 0 } : Room)) (fun a U => a = #[(.ref b25766), (.ref b65634), (.int (4 : Int32)), (.long (v0_258bbb q1))] ∧ Z.Warmed39 U.vm ∧ U.heap = h0) (fun _ _ _ _ _ => True) (fun _ U o U' => ∃ v L, o = .returned v ∧ (Q20s65 Z q1 q2 q3 b25766 b27787 b27802 b27824 b65634 h0 n0) v U'.heap L ∧ FrameEnd U o U' L ({ frames := 0, cells := 0, slots := 0, locals := 0 } : Room).cells ({ frames := 0, cells := 0, slots := 0, locals := 0 } : Room).slots) :=
  own_met (ret := none) (Q := (Q20s65 Z q1 q2 q3 b25766 b27787 b27802 b27824 b65634 h0 n0)) (plainFor_of_name pn_20) (fun m => ef_20 m b25766 b65634 (4 : Int32) (v0_258bbb q1)) (fun p e s m below meth c T0 X0 hx hby hml hown hnm hZ e0 => by
  have N0 := Fr.nil n0
  refine ost (mkF m 1 (Las6520_0 b25766 b65634 q1) [(.ref b25766)]) X0 (fun t k => XS.aloadN X0.here hx rfl (hb hby d20_0) rfl rfl k) ?_
  obtain ⟨T66645, X66645, e66645, st66645⟩ := getF X0 hx hZ hown (host := "") (Or.inl (hw _ (wm 111 rfl))) Via.refl e0 F_m_word_b25766 (g := (mkF m 1 (Las6520_0 b25766 b65634 q1) [(.ref b25766)])) rfl rfl (hb hby d20_1)
  refine ost (mkF m 4 (Las6520_0 b25766 b65634 q1) [(.ref b27787)]) X66645 (fun t k => st66645 _ k) ?_
  refine ost (mkF m 5 (Las6520_0 b25766 b65634 q1) [(.int (4 : Int32)), (.ref b27787)]) X66645 (fun t k => XS.iloadN X66645.here hx rfl (hb hby d20_4) rfl k) ?_
  refine ost (mkF m 6 (Las6520_0 b25766 b65634 q1) [(.int (1 : Int32))]) X66645 (fun t k => own_ldI X66645 hx hZ e66645 A_b27787 (by decide) rfl (g := (mkF m 5 (Las6520_0 b25766 b65634 q1) [(.int (4 : Int32)), (.ref b27787)])) rfl rfl (hb hby d20_5) _ k) ?_
  refine ost (mkF m 8 (Las6520_1 b25766 b65634 q1) []) X66645 (fun t k => XS.istore X66645.here hx rfl (hb hby d20_6) rfl (l' := (Las6520_1 b25766 b65634 q1)) rfl k) ?_
  refine ost (mkF m 9 (Las6520_1 b25766 b65634 q1) [(.ref b25766)]) X66645 (fun t k => XS.aloadN X66645.here hx rfl (hb hby d20_8) rfl rfl k) ?_
  obtain ⟨T66646, X66646, e66646, st66646⟩ := getF X66645 hx hZ hown (host := "") (Or.inl (hw _ (wm 113 rfl))) Via.refl e66645 F_m_shift_b25766 (g := (mkF m 9 (Las6520_1 b25766 b65634 q1) [(.ref b25766)])) rfl rfl (hb hby d20_9)
  refine ost (mkF m 12 (Las6520_1 b25766 b65634 q1) [(.ref b27802)]) X66646 (fun t k => st66646 _ k) ?_
  refine ost (mkF m 13 (Las6520_1 b25766 b65634 q1) [(.int (4 : Int32)), (.ref b27802)]) X66646 (fun t k => XS.iloadN X66646.here hx rfl (hb hby d20_12) rfl k) ?_
  refine ost (mkF m 14 (Las6520_1 b25766 b65634 q1) [(.int (20 : Int32))]) X66646 (fun t k => own_ldI X66646 hx hZ e66646 A_b27802 (by decide) rfl (g := (mkF m 13 (Las6520_1 b25766 b65634 q1) [(.int (4 : Int32)), (.ref b27802)])) rfl rfl (hb hby d20_13) _ k) ?_
  refine ost (mkF m 16 (Las6520_2 b25766 b65634 q1) []) X66646 (fun t k => XS.istore X66646.here hx rfl (hb hby d20_14) rfl (l' := (Las6520_2 b25766 b65634 q1)) rfl k) ?_
  refine ost (mkF m 17 (Las6520_2 b25766 b65634 q1) [(.ref b65634)]) X66646 (fun t k => XS.aloadN X66646.here hx rfl (hb hby d20_16) rfl rfl k) ?_
  refine ost (mkF m 19 (Las6520_2 b25766 b65634 q1) [(.int (1 : Int32)), (.ref b65634)]) X66646 (fun t k => XS.iload X66646.here hx rfl (hb hby d20_17) rfl k) ?_
  refine ost (mkF m 20 (Las6520_2 b25766 b65634 q1) [(.ref b65634), (.int (1 : Int32)), (.ref b65634)]) X66646 (fun t k => XS.aloadN X66646.here hx rfl (hb hby d20_19) rfl rfl k) ?_
  refine ost (mkF m 22 (Las6520_2 b25766 b65634 q1) [(.int (1 : Int32)), (.ref b65634), (.int (1 : Int32)), (.ref b65634)]) X66646 (fun t k => XS.iload X66646.here hx rfl (hb hby d20_20) rfl k) ?_
  refine ost (mkF m 23 (Las6520_2 b25766 b65634 q1) [(.long q3), (.int (1 : Int32)), (.ref b65634)]) X66646 (fun t k => own_ldJ X66646 hx hZ e66646 A_b65634 (by decide) rfl (g := (mkF m 22 (Las6520_2 b25766 b65634 q1) [(.int (1 : Int32)), (.ref b65634), (.int (1 : Int32)), (.ref b65634)])) rfl rfl (hb hby d20_22) _ k) ?_
  refine ost (mkF m 24 (Las6520_2 b25766 b65634 q1) [(.ref b25766), (.long q3), (.int (1 : Int32)), (.ref b65634)]) X66646 (fun t k => XS.aloadN X66646.here hx rfl (hb hby d20_23) rfl rfl k) ?_
  obtain ⟨T66647, X66647, e66647, st66647⟩ := getF X66646 hx hZ hown (host := "") (Or.inl (hw _ (wm 116 rfl))) Via.refl e66646 F_m_mask_b25766 (g := (mkF m 24 (Las6520_2 b25766 b65634 q1) [(.ref b25766), (.long q3), (.int (1 : Int32)), (.ref b65634)])) rfl rfl (hb hby d20_24)
  refine ost (mkF m 27 (Las6520_2 b25766 b65634 q1) [(.ref b27824), (.long q3), (.int (1 : Int32)), (.ref b65634)]) X66647 (fun t k => st66647 _ k) ?_
  refine ost (mkF m 28 (Las6520_2 b25766 b65634 q1) [(.int (4 : Int32)), (.ref b27824), (.long q3), (.int (1 : Int32)), (.ref b65634)]) X66647 (fun t k => XS.iloadN X66647.here hx rfl (hb hby d20_27) rfl k) ?_
  refine ost (mkF m 29 (Las6520_2 b25766 b65634 q1) [(.long (31 : Int64)), (.long q3), (.int (1 : Int32)), (.ref b65634)]) X66647 (fun t k => own_ldJ X66647 hx hZ e66647 A_b27824 (by decide) rfl (g := (mkF m 28 (Las6520_2 b25766 b65634 q1) [(.int (4 : Int32)), (.ref b27824), (.long q3), (.int (1 : Int32)), (.ref b65634)])) rfl rfl (hb hby d20_28) _ k) ?_
  refine ost (mkF m 31 (Las6520_2 b25766 b65634 q1) [(.int (20 : Int32)), (.long (31 : Int64)), (.long q3), (.int (1 : Int32)), (.ref b65634)]) X66647 (fun t k => XS.iload X66647.here hx rfl (hb hby d20_29) rfl k) ?_
  refine ost (mkF m 32 (Las6520_2 b25766 b65634 q1) [(.long (32505856 : Int64)), (.long q3), (.int (1 : Int32)), (.ref b65634)]) X66647 (fun t k => XT.lshl X66647.here hx rfl (hb hby d20_31) rfl k) ?_
  refine ost (mkF m 35 (Las6520_2 b25766 b65634 q1) [(.long (-1 : Int64)), (.long (32505856 : Int64)), (.long q3), (.int (1 : Int32)), (.ref b65634)]) X66647 (fun t k => X66647.ldc2Long hx hown (mvT hZ (hw _ (wm 159 rfl))) (g := (mkF m 32 (Las6520_2 b25766 b65634 q1) [(.long (32505856 : Int64)), (.long q3), (.int (1 : Int32)), (.ref b65634)])) rfl (hb hby d20_32) _ k) ?_
  refine ost (mkF m 36 (Las6520_2 b25766 b65634 q1) [(.long ((32505856 : Int64) ^^^ (-1 : Int64))), (.long q3), (.int (1 : Int32)), (.ref b65634)]) X66647 (fun t k => XT.lxor X66647.here hx rfl (hb hby d20_35) rfl k) ?_
  refine ost (mkF m 37 (Las6520_2 b25766 b65634 q1) [(.long (q3 &&& ((32505856 : Int64) ^^^ (-1 : Int64)))), (.int (1 : Int32)), (.ref b65634)]) X66647 (fun t k => XT.land X66647.here hx rfl (hb hby d20_36) rfl k) ?_
  refine ost (mkF m 38 (Las6520_2 b25766 b65634 q1) [(.long (v0_258bbb q1)), (.long (q3 &&& ((32505856 : Int64) ^^^ (-1 : Int64)))), (.int (1 : Int32)), (.ref b65634)]) X66647 (fun t k => XT.lloadN X66647.here hx rfl (hb hby d20_37) rfl k) ?_
  refine ost (mkF m 40 (Las6520_2 b25766 b65634 q1) [(.int (20 : Int32)), (.long (v0_258bbb q1)), (.long (q3 &&& ((32505856 : Int64) ^^^ (-1 : Int64)))), (.int (1 : Int32)), (.ref b65634)]) X66647 (fun t k => XS.iload X66647.here hx rfl (hb hby d20_38) rfl k) ?_
  refine ost (mkF m 41 (Las6520_2 b25766 b65634 q1) [(.long ((v0_258bbb q1) <<< ((20 : Int32).toInt64 &&& 63))), (.long (q3 &&& ((32505856 : Int64) ^^^ (-1 : Int64)))), (.int (1 : Int32)), (.ref b65634)]) X66647 (fun t k => XT.lshl X66647.here hx rfl (hb hby d20_40) rfl k) ?_
  refine ost (mkF m 42 (Las6520_2 b25766 b65634 q1) [(.long ((q3 &&& ((32505856 : Int64) ^^^ (-1 : Int64))) ||| ((v0_258bbb q1) <<< ((20 : Int32).toInt64 &&& 63)))), (.int (1 : Int32)), (.ref b65634)]) X66647 (fun t k => XT.lor X66647.here hx rfl (hb hby d20_41) rfl k) ?_
  obtain ⟨T66648, h66648, L66648, X66648, e66648, N66648, K66648, A66648, st66648⟩ := own_stJ X66647 hx hZ e66647 N0 (G := (G0_275 q2 q3)) A_b65634 g_b65634 (j := (1 : Int32)) (x := ((q3 &&& ((32505856 : Int64) ^^^ (-1 : Int64))) ||| ((v0_258bbb q1) <<< ((20 : Int32).toInt64 &&& 63)))) (by decide) (g := (mkF m 42 (Las6520_2 b25766 b65634 q1) [(.long ((q3 &&& ((32505856 : Int64) ^^^ (-1 : Int64))) ||| ((v0_258bbb q1) <<< ((20 : Int32).toInt64 &&& 63)))), (.int (1 : Int32)), (.ref b65634)])) rfl rfl (hb hby d20_42)
  have B66648 : Ary Z h66648 b65634 .long 2 (fun i => .long ((Gs6520_42 q2 q3 q1) i)) := A66648
  have Z66648 := Nat.le_trans Z0 K66648.1
  have S66648 := Nat.le_trans (Nat.le_refl h0.size) K66648.1
  refine ost (mkF m 43 (Las6520_2 b25766 b65634 q1) []) X66648 (fun t k => st66648 _ k) ?_
  refine OwnFin.retVoid X66648 (hb hby d20_43) (by decide) (by decide) ?_
  rw [e66648]
  exact ⟨rfl, N66648, (Keep.trans (Keep.refl h0 [b65634]) K66648 (allS (Or.inl (wm 0 rfl)) all0)), B66648⟩)
def Q22s64 (Z : State) (q2 : Int64) (q3 : Int64) (q1 : Int64) (b25766 : Addr) (b27787 : Addr) (b27802 : Addr) (b27824 : Addr) (b62557 : Addr) (h0 : Heap) (n0 : Nat) : Option Value → Heap → List Loc → Prop := fun v h L => v = some (.int (((XT.ushrL ((q3 &&& ((1048575 : Int64) ^^^ (-1 : Int64))) ||| ((v0_258bb q1) <<< ((0 : Int32).toInt64 &&& 63))) (0 : Int32)) &&& (1048575 : Int64)).toInt32)) ∧ Fr n0 L ∧ h = h0
abbrev Las6422_0 (b25766 : Addr) (b62557 : Addr) : Array Slot := #[.val (.ref b25766), .val (.ref b62557), .val (.int (0 : Int32)), .val (.int (3 : Int32))]
set_option maxRecDepth 65536 in
set_option maxHeartbeats 40000000 in
theorem rm22s64 (l : Launch) (Z : State) (a0 : Array Value) (hw : ∀ d ∈ tables_1, d.before a0 Z = true) (ws : List Jvm.Cond) (q2 : Int64) (q3 : Int64) (q1 : Int64) (b25766 : Addr) (b27787 : Addr) (b27802 : Addr) (b27824 : Addr) (b62557 : Addr) (h0 : Heap) (n0 : Nat) (Z0 : n0 ≤ h0.size) (F_m_word_b25766 : Fld Z h0 b25766 "com/example/ken2/ken2/StateLayout" "m_word" "[I" (.ref b27787)) (F_m_shift_b25766 : Fld Z h0 b25766 "com/example/ken2/ken2/StateLayout" "m_shift" "[I" (.ref b27802)) (F_m_mask_b25766 : Fld Z h0 b25766 "com/example/ken2/ken2/StateLayout" "m_mask" "[J" (.ref b27824)) (A_b27787 : Ary Z h0 b27787 .int 5 (fun i => .int ((Gs2612_107bbbb) i))) (A_b27802 : Ary Z h0 b27802 .int 5 (fun i => .int ((Gs2612_115bbb) i))) (A_b27824 : Ary Z h0 b27824 .long 5 (fun i => .long ((Gs2612_128bbbb) i))) (A_b62557 : Ary Z h0 b62557 .long 2 (fun i => .long ((Gs6220_42 q2 q3 q1) i))) :
    MetFree l Y21 (head1 (Jvm.Cond.code Y21 prog_112_method_6_code 4 (some .int) :: ws) ({ frames := 0, cells := 0, slots := 0, locals := 0 } : Room)) (fun a U => a = #[(.ref b25766), (.ref b62557), (.int (0 : Int32)), (.int (3 : Int32))] ∧ Z.Warmed39 U.vm ∧ U.heap = h0) (fun _ _ _ _ _ => True) (fun _ U o U' => ∃ v L, o = .returned v ∧ (Q22s64 Z q2 q3 q1 b25766 b27787 b27802 b27824 b62557 h0 n0) v U'.heap L ∧ FrameEnd U o U' L ({ frames := 0, cells := 0, slots := 0, locals := 0 } : Room).cells ({ frames := 0, cells := 0, slots := 0, locals := 0 } : Room).slots) :=
  own_met (ret := (some .int)) (Q := (Q22s64 Z q2 q3 q1 b25766 b27787 b27802 b27824 b62557 h0 n0)) (plainFor_of_name pn_22) (fun m => ef_22 m b25766 b62557 (0 : Int32) (3 : Int32)) (fun p e s m below meth c T0 X0 hx hby hml hown hnm hZ e0 => by
  have N0 := Fr.nil n0
  refine ost (mkF m 1 (Las6422_0 b25766 b62557) [(.ref b62557)]) X0 (fun t k => XS.aloadN X0.here hx rfl (hb hby d22_0) rfl rfl k) ?_
  refine ost (mkF m 2 (Las6422_0 b25766 b62557) [(.int (0 : Int32)), (.ref b62557)]) X0 (fun t k => XS.iloadN X0.here hx rfl (hb hby d22_1) rfl k) ?_
  refine ost (mkF m 3 (Las6422_0 b25766 b62557) [(.ref b25766), (.int (0 : Int32)), (.ref b62557)]) X0 (fun t k => XS.aloadN X0.here hx rfl (hb hby d22_2) rfl rfl k) ?_
  obtain ⟨T65599, X65599, e65599, st65599⟩ := getF X0 hx hZ hown (host := "") (Or.inl (hw _ (wm 111 rfl))) Via.refl e0 F_m_word_b25766 (g := (mkF m 3 (Las6422_0 b25766 b62557) [(.ref b25766), (.int (0 : Int32)), (.ref b62557)])) rfl rfl (hb hby d22_3)
  refine ost (mkF m 6 (Las6422_0 b25766 b62557) [(.ref b27787), (.int (0 : Int32)), (.ref b62557)]) X65599 (fun t k => st65599 _ k) ?_
  refine ost (mkF m 7 (Las6422_0 b25766 b62557) [(.int (3 : Int32)), (.ref b27787), (.int (0 : Int32)), (.ref b62557)]) X65599 (fun t k => XS.iloadN X65599.here hx rfl (hb hby d22_6) rfl k) ?_
  refine ost (mkF m 8 (Las6422_0 b25766 b62557) [(.int (1 : Int32)), (.int (0 : Int32)), (.ref b62557)]) X65599 (fun t k => own_ldI X65599 hx hZ e65599 A_b27787 (by decide) rfl (g := (mkF m 7 (Las6422_0 b25766 b62557) [(.int (3 : Int32)), (.ref b27787), (.int (0 : Int32)), (.ref b62557)])) rfl rfl (hb hby d22_7) _ k) ?_
  refine ost (mkF m 9 (Las6422_0 b25766 b62557) [(.int (1 : Int32)), (.ref b62557)]) X65599 (fun t k => XS.iadd X65599.here hx rfl (hb hby d22_8) rfl k) ?_
  refine ost (mkF m 10 (Las6422_0 b25766 b62557) [(.long ((q3 &&& ((1048575 : Int64) ^^^ (-1 : Int64))) ||| ((v0_258bb q1) <<< ((0 : Int32).toInt64 &&& 63))))]) X65599 (fun t k => own_ldJ X65599 hx hZ e65599 A_b62557 (by decide) rfl (g := (mkF m 9 (Las6422_0 b25766 b62557) [(.int (1 : Int32)), (.ref b62557)])) rfl rfl (hb hby d22_9) _ k) ?_
  refine ost (mkF m 11 (Las6422_0 b25766 b62557) [(.ref b25766), (.long ((q3 &&& ((1048575 : Int64) ^^^ (-1 : Int64))) ||| ((v0_258bb q1) <<< ((0 : Int32).toInt64 &&& 63))))]) X65599 (fun t k => XS.aloadN X65599.here hx rfl (hb hby d22_10) rfl rfl k) ?_
  obtain ⟨T65600, X65600, e65600, st65600⟩ := getF X65599 hx hZ hown (host := "") (Or.inl (hw _ (wm 113 rfl))) Via.refl e65599 F_m_shift_b25766 (g := (mkF m 11 (Las6422_0 b25766 b62557) [(.ref b25766), (.long ((q3 &&& ((1048575 : Int64) ^^^ (-1 : Int64))) ||| ((v0_258bb q1) <<< ((0 : Int32).toInt64 &&& 63))))])) rfl rfl (hb hby d22_11)
  refine ost (mkF m 14 (Las6422_0 b25766 b62557) [(.ref b27802), (.long ((q3 &&& ((1048575 : Int64) ^^^ (-1 : Int64))) ||| ((v0_258bb q1) <<< ((0 : Int32).toInt64 &&& 63))))]) X65600 (fun t k => st65600 _ k) ?_
  refine ost (mkF m 15 (Las6422_0 b25766 b62557) [(.int (3 : Int32)), (.ref b27802), (.long ((q3 &&& ((1048575 : Int64) ^^^ (-1 : Int64))) ||| ((v0_258bb q1) <<< ((0 : Int32).toInt64 &&& 63))))]) X65600 (fun t k => XS.iloadN X65600.here hx rfl (hb hby d22_14) rfl k) ?_
  refine ost (mkF m 16 (Las6422_0 b25766 b62557) [(.int (0 : Int32)), (.long ((q3 &&& ((1048575 : Int64) ^^^ (-1 : Int64))) ||| ((v0_258bb q1) <<< ((0 : Int32).toInt64 &&& 63))))]) X65600 (fun t k => own_ldI X65600 hx hZ e65600 A_b27802 (by decide) rfl (g := (mkF m 15 (Las6422_0 b25766 b62557) [(.int (3 : Int32)), (.ref b27802), (.long ((q3 &&& ((1048575 : Int64) ^^^ (-1 : Int64))) ||| ((v0_258bb q1) <<< ((0 : Int32).toInt64 &&& 63))))])) rfl rfl (hb hby d22_15) _ k) ?_
  refine ost (mkF m 17 (Las6422_0 b25766 b62557) [(.long (XT.ushrL ((q3 &&& ((1048575 : Int64) ^^^ (-1 : Int64))) ||| ((v0_258bb q1) <<< ((0 : Int32).toInt64 &&& 63))) (0 : Int32)))]) X65600 (fun t k => XT.lushr X65600.here hx rfl (hb hby d22_16) rfl k) ?_
  refine ost (mkF m 18 (Las6422_0 b25766 b62557) [(.ref b25766), (.long (XT.ushrL ((q3 &&& ((1048575 : Int64) ^^^ (-1 : Int64))) ||| ((v0_258bb q1) <<< ((0 : Int32).toInt64 &&& 63))) (0 : Int32)))]) X65600 (fun t k => XS.aloadN X65600.here hx rfl (hb hby d22_17) rfl rfl k) ?_
  obtain ⟨T65601, X65601, e65601, st65601⟩ := getF X65600 hx hZ hown (host := "") (Or.inl (hw _ (wm 116 rfl))) Via.refl e65600 F_m_mask_b25766 (g := (mkF m 18 (Las6422_0 b25766 b62557) [(.ref b25766), (.long (XT.ushrL ((q3 &&& ((1048575 : Int64) ^^^ (-1 : Int64))) ||| ((v0_258bb q1) <<< ((0 : Int32).toInt64 &&& 63))) (0 : Int32)))])) rfl rfl (hb hby d22_18)
  refine ost (mkF m 21 (Las6422_0 b25766 b62557) [(.ref b27824), (.long (XT.ushrL ((q3 &&& ((1048575 : Int64) ^^^ (-1 : Int64))) ||| ((v0_258bb q1) <<< ((0 : Int32).toInt64 &&& 63))) (0 : Int32)))]) X65601 (fun t k => st65601 _ k) ?_
  refine ost (mkF m 22 (Las6422_0 b25766 b62557) [(.int (3 : Int32)), (.ref b27824), (.long (XT.ushrL ((q3 &&& ((1048575 : Int64) ^^^ (-1 : Int64))) ||| ((v0_258bb q1) <<< ((0 : Int32).toInt64 &&& 63))) (0 : Int32)))]) X65601 (fun t k => XS.iloadN X65601.here hx rfl (hb hby d22_21) rfl k) ?_
  refine ost (mkF m 23 (Las6422_0 b25766 b62557) [(.long (1048575 : Int64)), (.long (XT.ushrL ((q3 &&& ((1048575 : Int64) ^^^ (-1 : Int64))) ||| ((v0_258bb q1) <<< ((0 : Int32).toInt64 &&& 63))) (0 : Int32)))]) X65601 (fun t k => own_ldJ X65601 hx hZ e65601 A_b27824 (by decide) rfl (g := (mkF m 22 (Las6422_0 b25766 b62557) [(.int (3 : Int32)), (.ref b27824), (.long (XT.ushrL ((q3 &&& ((1048575 : Int64) ^^^ (-1 : Int64))) ||| ((v0_258bb q1) <<< ((0 : Int32).toInt64 &&& 63))) (0 : Int32)))])) rfl rfl (hb hby d22_22) _ k) ?_
  refine ost (mkF m 24 (Las6422_0 b25766 b62557) [(.long ((XT.ushrL ((q3 &&& ((1048575 : Int64) ^^^ (-1 : Int64))) ||| ((v0_258bb q1) <<< ((0 : Int32).toInt64 &&& 63))) (0 : Int32)) &&& (1048575 : Int64)))]) X65601 (fun t k => XT.land X65601.here hx rfl (hb hby d22_23) rfl k) ?_
  refine ost (mkF m 25 (Las6422_0 b25766 b62557) [(.int (((XT.ushrL ((q3 &&& ((1048575 : Int64) ^^^ (-1 : Int64))) ||| ((v0_258bb q1) <<< ((0 : Int32).toInt64 &&& 63))) (0 : Int32)) &&& (1048575 : Int64)).toInt32))]) X65601 (fun t k => XT.l2i X65601.here hx rfl (hb hby d22_24) rfl k) ?_
  refine OwnFin.retInt X65601 (hb hby d22_25) (by decide) (by decide) ?_
  rw [e65601]
  exact ⟨rfl, N0, rfl⟩)
def Q21s63 (Z : State) (q2 : Int64) (q3 : Int64) (q1 : Int64) (b25766 : Addr) (b27787 : Addr) (b27802 : Addr) (b27824 : Addr) (b62557 : Addr) (h0 : Heap) (n0 : Nat) : Option Value → Heap → List Loc → Prop := fun v h L => v = some (.int (((XT.ushrL ((q3 &&& ((1048575 : Int64) ^^^ (-1 : Int64))) ||| ((v0_258bb q1) <<< ((0 : Int32).toInt64 &&& 63))) (0 : Int32)) &&& (1048575 : Int64)).toInt32)) ∧ Fr n0 L ∧ h = h0
set_option maxRecDepth 65536 in
set_option maxHeartbeats 40000000 in
theorem rm21s63 (l : Launch) (Z : State) (a0 : Array Value) (hw : ∀ d ∈ tables_1, d.before a0 Z = true) (ws : List Jvm.Cond) (q2 : Int64) (q3 : Int64) (q1 : Int64) (b25766 : Addr) (b27787 : Addr) (b27802 : Addr) (b27824 : Addr) (b62557 : Addr) (h0 : Heap) (n0 : Nat) (Z0 : n0 ≤ h0.size) (E_b25766 : Exa Z h0 b25766 "com/example/ken2/ken2/StateLayout") (F_m_word_b25766 : Fld Z h0 b25766 "com/example/ken2/ken2/StateLayout" "m_word" "[I" (.ref b27787)) (F_m_shift_b25766 : Fld Z h0 b25766 "com/example/ken2/ken2/StateLayout" "m_shift" "[I" (.ref b27802)) (F_m_mask_b25766 : Fld Z h0 b25766 "com/example/ken2/ken2/StateLayout" "m_mask" "[J" (.ref b27824)) (A_b27787 : Ary Z h0 b27787 .int 5 (fun i => .int ((Gs2612_107bbbb) i))) (A_b27802 : Ary Z h0 b27802 .int 5 (fun i => .int ((Gs2612_115bbb) i))) (A_b27824 : Ary Z h0 b27824 .long 5 (fun i => .long ((Gs2612_128bbbb) i))) (A_b62557 : Ary Z h0 b62557 .long 2 (fun i => .long ((Gs6220_42 q2 q3 q1) i))) :
    MetFree l Y22 (head1 (Jvm.Cond.code Y22 prog_112_method_5_code 3 (some .int) :: ws) ({ frames := 1, cells := 0, slots := 0, locals := 15 } : Room)) (fun a U => a = #[(.ref b25766), (.ref b62557), (.int (3 : Int32))] ∧ Z.Warmed39 U.vm ∧ U.heap = h0) (fun _ _ _ _ _ => True) (fun _ U o U' => ∃ v L, o = .returned v ∧ (Q21s63 Z q2 q3 q1 b25766 b27787 b27802 b27824 b62557 h0 n0) v U'.heap L ∧ FrameEnd U o U' L ({ frames := 1, cells := 0, slots := 0, locals := 15 } : Room).cells ({ frames := 1, cells := 0, slots := 0, locals := 15 } : Room).slots) :=
  own_met (ret := (some .int)) (Q := (Q21s63 Z q2 q3 q1 b25766 b27787 b27802 b27824 b62557 h0 n0)) (plainFor_of_name pn_21) (fun m => ef_21 m b25766 b62557 (3 : Int32)) (fun p e s m below meth c T0 X0 hx hby hml hown hnm hZ e0 => by
  have N0 := Fr.nil n0
  refine ost (mkF m 1 #[.val (.ref b25766), .val (.ref b62557), .val (.int (3 : Int32))] [(.ref b25766)]) X0 (fun t k => XS.aloadN X0.here hx rfl (hb hby d21_0) rfl rfl k) ?_
  refine ost (mkF m 2 #[.val (.ref b25766), .val (.ref b62557), .val (.int (3 : Int32))] [(.ref b62557), (.ref b25766)]) X0 (fun t k => XS.aloadN X0.here hx rfl (hb hby d21_1) rfl rfl k) ?_
  refine ost (mkF m 3 #[.val (.ref b25766), .val (.ref b62557), .val (.int (3 : Int32))] [(.int (0 : Int32)), (.ref b62557), (.ref b25766)]) X0 (fun t k => XS.iconst X0.here hx rfl (hb hby d21_2) k) ?_
  refine ost (mkF m 4 #[.val (.ref b25766), .val (.ref b62557), .val (.int (3 : Int32))] [(.int (3 : Int32)), (.int (0 : Int32)), (.ref b62557), (.ref b25766)]) X0 (fun t k => XS.iloadN X0.here hx rfl (hb hby d21_3) rfl k) ?_
  obtain ⟨_, T64598, L64598, X64598, ⟨rfl, N64598q, u65612⟩, st64598⟩ := own_callP X0 hx hZ (y := Y21) (W := 0) (a := b25766) (argsL := [(.ref b62557), (.int (0 : Int32)), (.int (3 : Int32))]) (rest := []) hown (hw _ (wm 166 rfl)) (hw _ (wm 157 rfl)) rfl (hw _ (wm 167 rfl)) (hw _ (wm 168 rfl)) (hw _ (wm 96 rfl)) (hw _ (wm 169 rfl)) (by decide) E_b25766 (rm22s64 l Z a0 hw [] q2 q3 q1 b25766 b27787 b27802 b27824 b62557 h0 n0 Z0 F_m_word_b25766 F_m_shift_b25766 F_m_mask_b25766 A_b27787 A_b27802 A_b27824 A_b62557) (by decide) (by decide) (by decide) (by decide) e0 (g := (mkF m 4 #[.val (.ref b25766), .val (.ref b62557), .val (.int (3 : Int32))] [(.int (3 : Int32)), (.int (0 : Int32)), (.ref b62557), (.ref b25766)])) rfl (by rw [hml]; rfl) pd_13 rfl rfl (by show 2 * 0 + _ ≤ _; exact Nat.le_of_eq rfl) (hb hby d21_4)
  have N64598 := Fr.app N0 N64598q
  refine ost (mkF m 7 #[.val (.ref b25766), .val (.ref b62557), .val (.int (3 : Int32))] [(.int (((XT.ushrL ((q3 &&& ((1048575 : Int64) ^^^ (-1 : Int64))) ||| ((v0_258bb q1) <<< ((0 : Int32).toInt64 &&& 63))) (0 : Int32)) &&& (1048575 : Int64)).toInt32))]) X64598 (fun t k => st64598 _ k) ?_
  refine OwnFin.retInt X64598 (hb hby d21_7) (by decide) (by decide) ?_
  rw [u65612]
  exact ⟨rfl, N64598, rfl⟩)
def Q20s62 (Z : State) (q1 : Int64) (q2 : Int64) (q3 : Int64) (b25766 : Addr) (b27787 : Addr) (b27802 : Addr) (b27824 : Addr) (b62557 : Addr) (h0 : Heap) (n0 : Nat) : Option Value → Heap → List Loc → Prop := fun v h L => v = none ∧ Fr n0 L ∧ Keep h0 h [b62557] ∧ Ary Z h b62557 .long 2 (fun i => .long ((Gs6220_42 q2 q3 q1) i))
abbrev Las6220_0 (b25766 : Addr) (b62557 : Addr) (q1 : Int64) : Array Slot := #[.val (.ref b25766), .val (.ref b62557), .val (.int (3 : Int32)), .val (.long (v0_258bb q1)), .second, .unset, .unset]
abbrev Las6220_1 (b25766 : Addr) (b62557 : Addr) (q1 : Int64) : Array Slot := #[.val (.ref b25766), .val (.ref b62557), .val (.int (3 : Int32)), .val (.long (v0_258bb q1)), .second, .val (.int (1 : Int32)), .unset]
abbrev Las6220_2 (b25766 : Addr) (b62557 : Addr) (q1 : Int64) : Array Slot := #[.val (.ref b25766), .val (.ref b62557), .val (.int (3 : Int32)), .val (.long (v0_258bb q1)), .second, .val (.int (1 : Int32)), .val (.int (0 : Int32))]
set_option maxRecDepth 65536 in
set_option maxHeartbeats 40000000 in
theorem rm20s62 (l : Launch) (Z : State) (a0 : Array Value) (hw : ∀ d ∈ tables_1, d.before a0 Z = true) (ws : List Jvm.Cond) (q1 : Int64) (q2 : Int64) (q3 : Int64) (b25766 : Addr) (b27787 : Addr) (b27802 : Addr) (b27824 : Addr) (b62557 : Addr) (h0 : Heap) (n0 : Nat) (Z0 : n0 ≤ h0.size) (F_m_word_b25766 : Fld Z h0 b25766 "com/example/ken2/ken2/StateLayout" "m_word" "[I" (.ref b27787)) (F_m_shift_b25766 : Fld Z h0 b25766 "com/example/ken2/ken2/StateLayout" "m_shift" "[I" (.ref b27802)) (F_m_mask_b25766 : Fld Z h0 b25766 "com/example/ken2/ken2/StateLayout" "m_mask" "[J" (.ref b27824)) (A_b27787 : Ary Z h0 b27787 .int 5 (fun i => .int ((Gs2612_107bbbb) i))) (A_b27802 : Ary Z h0 b27802 .int 5 (fun i => .int ((Gs2612_115bbb) i))) (A_b27824 : Ary Z h0 b27824 .long 5 (fun i => .long ((Gs2612_128bbbb) i))) (A_b62557 : Ary Z h0 b62557 .long 2 (fun i => .long ((G0_275 q2 q3) i))) (g_b62557 : n0 ≤ b62557) :
    MetFree l Y20 (head1 (Jvm.Cond.code Y20 prog_112_method_9_code 7 none :: ws) ({ frames := 0, cells := 0, slots := 0, locals := 0 } : Room)) (fun a U => a = #[(.ref b25766), (.ref b62557), (.int (3 : Int32)), (.long (v0_258bb q1))] ∧ Z.Warmed39 U.vm ∧ U.heap = h0) (fun _ _ _ _ _ => True) (fun _ U o U' => ∃ v L, o = .returned v ∧ (Q20s62 Z q1 q2 q3 b25766 b27787 b27802 b27824 b62557 h0 n0) v U'.heap L ∧ FrameEnd U o U' L ({ frames := 0, cells := 0, slots := 0, locals := 0 } : Room).cells ({ frames := 0, cells := 0, slots := 0, locals := 0 } : Room).slots) :=
  own_met (ret := none) (Q := (Q20s62 Z q1 q2 q3 b25766 b27787 b27802 b27824 b62557 h0 n0)) (plainFor_of_name pn_20) (fun m => ef_20 m b25766 b62557 (3 : Int32) (v0_258bb q1)) (fun p e s m below meth c T0 X0 hx hby hml hown hnm hZ e0 => by
  have N0 := Fr.nil n0
  refine ost (mkF m 1 (Las6220_0 b25766 b62557 q1) [(.ref b25766)]) X0 (fun t k => XS.aloadN X0.here hx rfl (hb hby d20_0) rfl rfl k) ?_
  obtain ⟨T63568, X63568, e63568, st63568⟩ := getF X0 hx hZ hown (host := "") (Or.inl (hw _ (wm 111 rfl))) Via.refl e0 F_m_word_b25766 (g := (mkF m 1 (Las6220_0 b25766 b62557 q1) [(.ref b25766)])) rfl rfl (hb hby d20_1)
  refine ost (mkF m 4 (Las6220_0 b25766 b62557 q1) [(.ref b27787)]) X63568 (fun t k => st63568 _ k) ?_
  refine ost (mkF m 5 (Las6220_0 b25766 b62557 q1) [(.int (3 : Int32)), (.ref b27787)]) X63568 (fun t k => XS.iloadN X63568.here hx rfl (hb hby d20_4) rfl k) ?_
  refine ost (mkF m 6 (Las6220_0 b25766 b62557 q1) [(.int (1 : Int32))]) X63568 (fun t k => own_ldI X63568 hx hZ e63568 A_b27787 (by decide) rfl (g := (mkF m 5 (Las6220_0 b25766 b62557 q1) [(.int (3 : Int32)), (.ref b27787)])) rfl rfl (hb hby d20_5) _ k) ?_
  refine ost (mkF m 8 (Las6220_1 b25766 b62557 q1) []) X63568 (fun t k => XS.istore X63568.here hx rfl (hb hby d20_6) rfl (l' := (Las6220_1 b25766 b62557 q1)) rfl k) ?_
  refine ost (mkF m 9 (Las6220_1 b25766 b62557 q1) [(.ref b25766)]) X63568 (fun t k => XS.aloadN X63568.here hx rfl (hb hby d20_8) rfl rfl k) ?_
  obtain ⟨T63569, X63569, e63569, st63569⟩ := getF X63568 hx hZ hown (host := "") (Or.inl (hw _ (wm 113 rfl))) Via.refl e63568 F_m_shift_b25766 (g := (mkF m 9 (Las6220_1 b25766 b62557 q1) [(.ref b25766)])) rfl rfl (hb hby d20_9)
  refine ost (mkF m 12 (Las6220_1 b25766 b62557 q1) [(.ref b27802)]) X63569 (fun t k => st63569 _ k) ?_
  refine ost (mkF m 13 (Las6220_1 b25766 b62557 q1) [(.int (3 : Int32)), (.ref b27802)]) X63569 (fun t k => XS.iloadN X63569.here hx rfl (hb hby d20_12) rfl k) ?_
  refine ost (mkF m 14 (Las6220_1 b25766 b62557 q1) [(.int (0 : Int32))]) X63569 (fun t k => own_ldI X63569 hx hZ e63569 A_b27802 (by decide) rfl (g := (mkF m 13 (Las6220_1 b25766 b62557 q1) [(.int (3 : Int32)), (.ref b27802)])) rfl rfl (hb hby d20_13) _ k) ?_
  refine ost (mkF m 16 (Las6220_2 b25766 b62557 q1) []) X63569 (fun t k => XS.istore X63569.here hx rfl (hb hby d20_14) rfl (l' := (Las6220_2 b25766 b62557 q1)) rfl k) ?_
  refine ost (mkF m 17 (Las6220_2 b25766 b62557 q1) [(.ref b62557)]) X63569 (fun t k => XS.aloadN X63569.here hx rfl (hb hby d20_16) rfl rfl k) ?_
  refine ost (mkF m 19 (Las6220_2 b25766 b62557 q1) [(.int (1 : Int32)), (.ref b62557)]) X63569 (fun t k => XS.iload X63569.here hx rfl (hb hby d20_17) rfl k) ?_
  refine ost (mkF m 20 (Las6220_2 b25766 b62557 q1) [(.ref b62557), (.int (1 : Int32)), (.ref b62557)]) X63569 (fun t k => XS.aloadN X63569.here hx rfl (hb hby d20_19) rfl rfl k) ?_
  refine ost (mkF m 22 (Las6220_2 b25766 b62557 q1) [(.int (1 : Int32)), (.ref b62557), (.int (1 : Int32)), (.ref b62557)]) X63569 (fun t k => XS.iload X63569.here hx rfl (hb hby d20_20) rfl k) ?_
  refine ost (mkF m 23 (Las6220_2 b25766 b62557 q1) [(.long q3), (.int (1 : Int32)), (.ref b62557)]) X63569 (fun t k => own_ldJ X63569 hx hZ e63569 A_b62557 (by decide) rfl (g := (mkF m 22 (Las6220_2 b25766 b62557 q1) [(.int (1 : Int32)), (.ref b62557), (.int (1 : Int32)), (.ref b62557)])) rfl rfl (hb hby d20_22) _ k) ?_
  refine ost (mkF m 24 (Las6220_2 b25766 b62557 q1) [(.ref b25766), (.long q3), (.int (1 : Int32)), (.ref b62557)]) X63569 (fun t k => XS.aloadN X63569.here hx rfl (hb hby d20_23) rfl rfl k) ?_
  obtain ⟨T63570, X63570, e63570, st63570⟩ := getF X63569 hx hZ hown (host := "") (Or.inl (hw _ (wm 116 rfl))) Via.refl e63569 F_m_mask_b25766 (g := (mkF m 24 (Las6220_2 b25766 b62557 q1) [(.ref b25766), (.long q3), (.int (1 : Int32)), (.ref b62557)])) rfl rfl (hb hby d20_24)
  refine ost (mkF m 27 (Las6220_2 b25766 b62557 q1) [(.ref b27824), (.long q3), (.int (1 : Int32)), (.ref b62557)]) X63570 (fun t k => st63570 _ k) ?_
  refine ost (mkF m 28 (Las6220_2 b25766 b62557 q1) [(.int (3 : Int32)), (.ref b27824), (.long q3), (.int (1 : Int32)), (.ref b62557)]) X63570 (fun t k => XS.iloadN X63570.here hx rfl (hb hby d20_27) rfl k) ?_
  refine ost (mkF m 29 (Las6220_2 b25766 b62557 q1) [(.long (1048575 : Int64)), (.long q3), (.int (1 : Int32)), (.ref b62557)]) X63570 (fun t k => own_ldJ X63570 hx hZ e63570 A_b27824 (by decide) rfl (g := (mkF m 28 (Las6220_2 b25766 b62557 q1) [(.int (3 : Int32)), (.ref b27824), (.long q3), (.int (1 : Int32)), (.ref b62557)])) rfl rfl (hb hby d20_28) _ k) ?_
  refine ost (mkF m 31 (Las6220_2 b25766 b62557 q1) [(.int (0 : Int32)), (.long (1048575 : Int64)), (.long q3), (.int (1 : Int32)), (.ref b62557)]) X63570 (fun t k => XS.iload X63570.here hx rfl (hb hby d20_29) rfl k) ?_
  refine ost (mkF m 32 (Las6220_2 b25766 b62557 q1) [(.long (1048575 : Int64)), (.long q3), (.int (1 : Int32)), (.ref b62557)]) X63570 (fun t k => XT.lshl X63570.here hx rfl (hb hby d20_31) rfl k) ?_
  refine ost (mkF m 35 (Las6220_2 b25766 b62557 q1) [(.long (-1 : Int64)), (.long (1048575 : Int64)), (.long q3), (.int (1 : Int32)), (.ref b62557)]) X63570 (fun t k => X63570.ldc2Long hx hown (mvT hZ (hw _ (wm 159 rfl))) (g := (mkF m 32 (Las6220_2 b25766 b62557 q1) [(.long (1048575 : Int64)), (.long q3), (.int (1 : Int32)), (.ref b62557)])) rfl (hb hby d20_32) _ k) ?_
  refine ost (mkF m 36 (Las6220_2 b25766 b62557 q1) [(.long ((1048575 : Int64) ^^^ (-1 : Int64))), (.long q3), (.int (1 : Int32)), (.ref b62557)]) X63570 (fun t k => XT.lxor X63570.here hx rfl (hb hby d20_35) rfl k) ?_
  refine ost (mkF m 37 (Las6220_2 b25766 b62557 q1) [(.long (q3 &&& ((1048575 : Int64) ^^^ (-1 : Int64)))), (.int (1 : Int32)), (.ref b62557)]) X63570 (fun t k => XT.land X63570.here hx rfl (hb hby d20_36) rfl k) ?_
  refine ost (mkF m 38 (Las6220_2 b25766 b62557 q1) [(.long (v0_258bb q1)), (.long (q3 &&& ((1048575 : Int64) ^^^ (-1 : Int64)))), (.int (1 : Int32)), (.ref b62557)]) X63570 (fun t k => XT.lloadN X63570.here hx rfl (hb hby d20_37) rfl k) ?_
  refine ost (mkF m 40 (Las6220_2 b25766 b62557 q1) [(.int (0 : Int32)), (.long (v0_258bb q1)), (.long (q3 &&& ((1048575 : Int64) ^^^ (-1 : Int64)))), (.int (1 : Int32)), (.ref b62557)]) X63570 (fun t k => XS.iload X63570.here hx rfl (hb hby d20_38) rfl k) ?_
  refine ost (mkF m 41 (Las6220_2 b25766 b62557 q1) [(.long ((v0_258bb q1) <<< ((0 : Int32).toInt64 &&& 63))), (.long (q3 &&& ((1048575 : Int64) ^^^ (-1 : Int64)))), (.int (1 : Int32)), (.ref b62557)]) X63570 (fun t k => XT.lshl X63570.here hx rfl (hb hby d20_40) rfl k) ?_
  refine ost (mkF m 42 (Las6220_2 b25766 b62557 q1) [(.long ((q3 &&& ((1048575 : Int64) ^^^ (-1 : Int64))) ||| ((v0_258bb q1) <<< ((0 : Int32).toInt64 &&& 63)))), (.int (1 : Int32)), (.ref b62557)]) X63570 (fun t k => XT.lor X63570.here hx rfl (hb hby d20_41) rfl k) ?_
  obtain ⟨T63571, h63571, L63571, X63571, e63571, N63571, K63571, A63571, st63571⟩ := own_stJ X63570 hx hZ e63570 N0 (G := (G0_275 q2 q3)) A_b62557 g_b62557 (j := (1 : Int32)) (x := ((q3 &&& ((1048575 : Int64) ^^^ (-1 : Int64))) ||| ((v0_258bb q1) <<< ((0 : Int32).toInt64 &&& 63)))) (by decide) (g := (mkF m 42 (Las6220_2 b25766 b62557 q1) [(.long ((q3 &&& ((1048575 : Int64) ^^^ (-1 : Int64))) ||| ((v0_258bb q1) <<< ((0 : Int32).toInt64 &&& 63)))), (.int (1 : Int32)), (.ref b62557)])) rfl rfl (hb hby d20_42)
  have B63571 : Ary Z h63571 b62557 .long 2 (fun i => .long ((Gs6220_42 q2 q3 q1) i)) := A63571
  have Z63571 := Nat.le_trans Z0 K63571.1
  have S63571 := Nat.le_trans (Nat.le_refl h0.size) K63571.1
  refine ost (mkF m 43 (Las6220_2 b25766 b62557 q1) []) X63571 (fun t k => st63571 _ k) ?_
  refine OwnFin.retVoid X63571 (hb hby d20_43) (by decide) (by decide) ?_
  rw [e63571]
  exact ⟨rfl, N63571, (Keep.trans (Keep.refl h0 [b62557]) K63571 (allS (Or.inl (wm 0 rfl)) all0)), B63571⟩)
def Q22s61 (Z : State) (q2 : Int64) (q3 : Int64) (q1 : Int64) (b25766 : Addr) (b27787 : Addr) (b27802 : Addr) (b27824 : Addr) (b59480 : Addr) (h0 : Heap) (n0 : Nat) : Option Value → Heap → List Loc → Prop := fun v h L => v = some (.int (((XT.ushrL ((q2 &&& ((-4611686018427387904 : Int64) ^^^ (-1 : Int64))) ||| ((v0_258b q1) <<< ((62 : Int32).toInt64 &&& 63))) (62 : Int32)) &&& (3 : Int64)).toInt32)) ∧ Fr n0 L ∧ h = h0
abbrev Las6122_0 (b25766 : Addr) (b59480 : Addr) : Array Slot := #[.val (.ref b25766), .val (.ref b59480), .val (.int (0 : Int32)), .val (.int (2 : Int32))]
set_option maxRecDepth 65536 in
set_option maxHeartbeats 40000000 in
theorem rm22s61 (l : Launch) (Z : State) (a0 : Array Value) (hw : ∀ d ∈ tables_1, d.before a0 Z = true) (ws : List Jvm.Cond) (q2 : Int64) (q3 : Int64) (q1 : Int64) (b25766 : Addr) (b27787 : Addr) (b27802 : Addr) (b27824 : Addr) (b59480 : Addr) (h0 : Heap) (n0 : Nat) (Z0 : n0 ≤ h0.size) (F_m_word_b25766 : Fld Z h0 b25766 "com/example/ken2/ken2/StateLayout" "m_word" "[I" (.ref b27787)) (F_m_shift_b25766 : Fld Z h0 b25766 "com/example/ken2/ken2/StateLayout" "m_shift" "[I" (.ref b27802)) (F_m_mask_b25766 : Fld Z h0 b25766 "com/example/ken2/ken2/StateLayout" "m_mask" "[J" (.ref b27824)) (A_b27787 : Ary Z h0 b27787 .int 5 (fun i => .int ((Gs2612_107bbbb) i))) (A_b27802 : Ary Z h0 b27802 .int 5 (fun i => .int ((Gs2612_115bbb) i))) (A_b27824 : Ary Z h0 b27824 .long 5 (fun i => .long ((Gs2612_128bbbb) i))) (A_b59480 : Ary Z h0 b59480 .long 2 (fun i => .long ((Gs5920_42 q2 q3 q1) i))) :
    MetFree l Y21 (head1 (Jvm.Cond.code Y21 prog_112_method_6_code 4 (some .int) :: ws) ({ frames := 0, cells := 0, slots := 0, locals := 0 } : Room)) (fun a U => a = #[(.ref b25766), (.ref b59480), (.int (0 : Int32)), (.int (2 : Int32))] ∧ Z.Warmed39 U.vm ∧ U.heap = h0) (fun _ _ _ _ _ => True) (fun _ U o U' => ∃ v L, o = .returned v ∧ (Q22s61 Z q2 q3 q1 b25766 b27787 b27802 b27824 b59480 h0 n0) v U'.heap L ∧ FrameEnd U o U' L ({ frames := 0, cells := 0, slots := 0, locals := 0 } : Room).cells ({ frames := 0, cells := 0, slots := 0, locals := 0 } : Room).slots) :=
  own_met (ret := (some .int)) (Q := (Q22s61 Z q2 q3 q1 b25766 b27787 b27802 b27824 b59480 h0 n0)) (plainFor_of_name pn_22) (fun m => ef_22 m b25766 b59480 (0 : Int32) (2 : Int32)) (fun p e s m below meth c T0 X0 hx hby hml hown hnm hZ e0 => by
  have N0 := Fr.nil n0
  refine ost (mkF m 1 (Las6122_0 b25766 b59480) [(.ref b59480)]) X0 (fun t k => XS.aloadN X0.here hx rfl (hb hby d22_0) rfl rfl k) ?_
  refine ost (mkF m 2 (Las6122_0 b25766 b59480) [(.int (0 : Int32)), (.ref b59480)]) X0 (fun t k => XS.iloadN X0.here hx rfl (hb hby d22_1) rfl k) ?_
  refine ost (mkF m 3 (Las6122_0 b25766 b59480) [(.ref b25766), (.int (0 : Int32)), (.ref b59480)]) X0 (fun t k => XS.aloadN X0.here hx rfl (hb hby d22_2) rfl rfl k) ?_
  obtain ⟨T62522, X62522, e62522, st62522⟩ := getF X0 hx hZ hown (host := "") (Or.inl (hw _ (wm 111 rfl))) Via.refl e0 F_m_word_b25766 (g := (mkF m 3 (Las6122_0 b25766 b59480) [(.ref b25766), (.int (0 : Int32)), (.ref b59480)])) rfl rfl (hb hby d22_3)
  refine ost (mkF m 6 (Las6122_0 b25766 b59480) [(.ref b27787), (.int (0 : Int32)), (.ref b59480)]) X62522 (fun t k => st62522 _ k) ?_
  refine ost (mkF m 7 (Las6122_0 b25766 b59480) [(.int (2 : Int32)), (.ref b27787), (.int (0 : Int32)), (.ref b59480)]) X62522 (fun t k => XS.iloadN X62522.here hx rfl (hb hby d22_6) rfl k) ?_
  refine ost (mkF m 8 (Las6122_0 b25766 b59480) [(.int (0 : Int32)), (.int (0 : Int32)), (.ref b59480)]) X62522 (fun t k => own_ldI X62522 hx hZ e62522 A_b27787 (by decide) rfl (g := (mkF m 7 (Las6122_0 b25766 b59480) [(.int (2 : Int32)), (.ref b27787), (.int (0 : Int32)), (.ref b59480)])) rfl rfl (hb hby d22_7) _ k) ?_
  refine ost (mkF m 9 (Las6122_0 b25766 b59480) [(.int (0 : Int32)), (.ref b59480)]) X62522 (fun t k => XS.iadd X62522.here hx rfl (hb hby d22_8) rfl k) ?_
  refine ost (mkF m 10 (Las6122_0 b25766 b59480) [(.long ((q2 &&& ((-4611686018427387904 : Int64) ^^^ (-1 : Int64))) ||| ((v0_258b q1) <<< ((62 : Int32).toInt64 &&& 63))))]) X62522 (fun t k => own_ldJ X62522 hx hZ e62522 A_b59480 (by decide) rfl (g := (mkF m 9 (Las6122_0 b25766 b59480) [(.int (0 : Int32)), (.ref b59480)])) rfl rfl (hb hby d22_9) _ k) ?_
  refine ost (mkF m 11 (Las6122_0 b25766 b59480) [(.ref b25766), (.long ((q2 &&& ((-4611686018427387904 : Int64) ^^^ (-1 : Int64))) ||| ((v0_258b q1) <<< ((62 : Int32).toInt64 &&& 63))))]) X62522 (fun t k => XS.aloadN X62522.here hx rfl (hb hby d22_10) rfl rfl k) ?_
  obtain ⟨T62523, X62523, e62523, st62523⟩ := getF X62522 hx hZ hown (host := "") (Or.inl (hw _ (wm 113 rfl))) Via.refl e62522 F_m_shift_b25766 (g := (mkF m 11 (Las6122_0 b25766 b59480) [(.ref b25766), (.long ((q2 &&& ((-4611686018427387904 : Int64) ^^^ (-1 : Int64))) ||| ((v0_258b q1) <<< ((62 : Int32).toInt64 &&& 63))))])) rfl rfl (hb hby d22_11)
  refine ost (mkF m 14 (Las6122_0 b25766 b59480) [(.ref b27802), (.long ((q2 &&& ((-4611686018427387904 : Int64) ^^^ (-1 : Int64))) ||| ((v0_258b q1) <<< ((62 : Int32).toInt64 &&& 63))))]) X62523 (fun t k => st62523 _ k) ?_
  refine ost (mkF m 15 (Las6122_0 b25766 b59480) [(.int (2 : Int32)), (.ref b27802), (.long ((q2 &&& ((-4611686018427387904 : Int64) ^^^ (-1 : Int64))) ||| ((v0_258b q1) <<< ((62 : Int32).toInt64 &&& 63))))]) X62523 (fun t k => XS.iloadN X62523.here hx rfl (hb hby d22_14) rfl k) ?_
  refine ost (mkF m 16 (Las6122_0 b25766 b59480) [(.int (62 : Int32)), (.long ((q2 &&& ((-4611686018427387904 : Int64) ^^^ (-1 : Int64))) ||| ((v0_258b q1) <<< ((62 : Int32).toInt64 &&& 63))))]) X62523 (fun t k => own_ldI X62523 hx hZ e62523 A_b27802 (by decide) rfl (g := (mkF m 15 (Las6122_0 b25766 b59480) [(.int (2 : Int32)), (.ref b27802), (.long ((q2 &&& ((-4611686018427387904 : Int64) ^^^ (-1 : Int64))) ||| ((v0_258b q1) <<< ((62 : Int32).toInt64 &&& 63))))])) rfl rfl (hb hby d22_15) _ k) ?_
  refine ost (mkF m 17 (Las6122_0 b25766 b59480) [(.long (XT.ushrL ((q2 &&& ((-4611686018427387904 : Int64) ^^^ (-1 : Int64))) ||| ((v0_258b q1) <<< ((62 : Int32).toInt64 &&& 63))) (62 : Int32)))]) X62523 (fun t k => XT.lushr X62523.here hx rfl (hb hby d22_16) rfl k) ?_
  refine ost (mkF m 18 (Las6122_0 b25766 b59480) [(.ref b25766), (.long (XT.ushrL ((q2 &&& ((-4611686018427387904 : Int64) ^^^ (-1 : Int64))) ||| ((v0_258b q1) <<< ((62 : Int32).toInt64 &&& 63))) (62 : Int32)))]) X62523 (fun t k => XS.aloadN X62523.here hx rfl (hb hby d22_17) rfl rfl k) ?_
  obtain ⟨T62524, X62524, e62524, st62524⟩ := getF X62523 hx hZ hown (host := "") (Or.inl (hw _ (wm 116 rfl))) Via.refl e62523 F_m_mask_b25766 (g := (mkF m 18 (Las6122_0 b25766 b59480) [(.ref b25766), (.long (XT.ushrL ((q2 &&& ((-4611686018427387904 : Int64) ^^^ (-1 : Int64))) ||| ((v0_258b q1) <<< ((62 : Int32).toInt64 &&& 63))) (62 : Int32)))])) rfl rfl (hb hby d22_18)
  refine ost (mkF m 21 (Las6122_0 b25766 b59480) [(.ref b27824), (.long (XT.ushrL ((q2 &&& ((-4611686018427387904 : Int64) ^^^ (-1 : Int64))) ||| ((v0_258b q1) <<< ((62 : Int32).toInt64 &&& 63))) (62 : Int32)))]) X62524 (fun t k => st62524 _ k) ?_
  refine ost (mkF m 22 (Las6122_0 b25766 b59480) [(.int (2 : Int32)), (.ref b27824), (.long (XT.ushrL ((q2 &&& ((-4611686018427387904 : Int64) ^^^ (-1 : Int64))) ||| ((v0_258b q1) <<< ((62 : Int32).toInt64 &&& 63))) (62 : Int32)))]) X62524 (fun t k => XS.iloadN X62524.here hx rfl (hb hby d22_21) rfl k) ?_
  refine ost (mkF m 23 (Las6122_0 b25766 b59480) [(.long (3 : Int64)), (.long (XT.ushrL ((q2 &&& ((-4611686018427387904 : Int64) ^^^ (-1 : Int64))) ||| ((v0_258b q1) <<< ((62 : Int32).toInt64 &&& 63))) (62 : Int32)))]) X62524 (fun t k => own_ldJ X62524 hx hZ e62524 A_b27824 (by decide) rfl (g := (mkF m 22 (Las6122_0 b25766 b59480) [(.int (2 : Int32)), (.ref b27824), (.long (XT.ushrL ((q2 &&& ((-4611686018427387904 : Int64) ^^^ (-1 : Int64))) ||| ((v0_258b q1) <<< ((62 : Int32).toInt64 &&& 63))) (62 : Int32)))])) rfl rfl (hb hby d22_22) _ k) ?_
  refine ost (mkF m 24 (Las6122_0 b25766 b59480) [(.long ((XT.ushrL ((q2 &&& ((-4611686018427387904 : Int64) ^^^ (-1 : Int64))) ||| ((v0_258b q1) <<< ((62 : Int32).toInt64 &&& 63))) (62 : Int32)) &&& (3 : Int64)))]) X62524 (fun t k => XT.land X62524.here hx rfl (hb hby d22_23) rfl k) ?_
  refine ost (mkF m 25 (Las6122_0 b25766 b59480) [(.int (((XT.ushrL ((q2 &&& ((-4611686018427387904 : Int64) ^^^ (-1 : Int64))) ||| ((v0_258b q1) <<< ((62 : Int32).toInt64 &&& 63))) (62 : Int32)) &&& (3 : Int64)).toInt32))]) X62524 (fun t k => XT.l2i X62524.here hx rfl (hb hby d22_24) rfl k) ?_
  refine OwnFin.retInt X62524 (hb hby d22_25) (by decide) (by decide) ?_
  rw [e62524]
  exact ⟨rfl, N0, rfl⟩)
def Q21s60 (Z : State) (q2 : Int64) (q3 : Int64) (q1 : Int64) (b25766 : Addr) (b27787 : Addr) (b27802 : Addr) (b27824 : Addr) (b59480 : Addr) (h0 : Heap) (n0 : Nat) : Option Value → Heap → List Loc → Prop := fun v h L => v = some (.int (((XT.ushrL ((q2 &&& ((-4611686018427387904 : Int64) ^^^ (-1 : Int64))) ||| ((v0_258b q1) <<< ((62 : Int32).toInt64 &&& 63))) (62 : Int32)) &&& (3 : Int64)).toInt32)) ∧ Fr n0 L ∧ h = h0
set_option maxRecDepth 65536 in
set_option maxHeartbeats 40000000 in
theorem rm21s60 (l : Launch) (Z : State) (a0 : Array Value) (hw : ∀ d ∈ tables_1, d.before a0 Z = true) (ws : List Jvm.Cond) (q2 : Int64) (q3 : Int64) (q1 : Int64) (b25766 : Addr) (b27787 : Addr) (b27802 : Addr) (b27824 : Addr) (b59480 : Addr) (h0 : Heap) (n0 : Nat) (Z0 : n0 ≤ h0.size) (E_b25766 : Exa Z h0 b25766 "com/example/ken2/ken2/StateLayout") (F_m_word_b25766 : Fld Z h0 b25766 "com/example/ken2/ken2/StateLayout" "m_word" "[I" (.ref b27787)) (F_m_shift_b25766 : Fld Z h0 b25766 "com/example/ken2/ken2/StateLayout" "m_shift" "[I" (.ref b27802)) (F_m_mask_b25766 : Fld Z h0 b25766 "com/example/ken2/ken2/StateLayout" "m_mask" "[J" (.ref b27824)) (A_b27787 : Ary Z h0 b27787 .int 5 (fun i => .int ((Gs2612_107bbbb) i))) (A_b27802 : Ary Z h0 b27802 .int 5 (fun i => .int ((Gs2612_115bbb) i))) (A_b27824 : Ary Z h0 b27824 .long 5 (fun i => .long ((Gs2612_128bbbb) i))) (A_b59480 : Ary Z h0 b59480 .long 2 (fun i => .long ((Gs5920_42 q2 q3 q1) i))) :
    MetFree l Y22 (head1 (Jvm.Cond.code Y22 prog_112_method_5_code 3 (some .int) :: ws) ({ frames := 1, cells := 0, slots := 0, locals := 15 } : Room)) (fun a U => a = #[(.ref b25766), (.ref b59480), (.int (2 : Int32))] ∧ Z.Warmed39 U.vm ∧ U.heap = h0) (fun _ _ _ _ _ => True) (fun _ U o U' => ∃ v L, o = .returned v ∧ (Q21s60 Z q2 q3 q1 b25766 b27787 b27802 b27824 b59480 h0 n0) v U'.heap L ∧ FrameEnd U o U' L ({ frames := 1, cells := 0, slots := 0, locals := 15 } : Room).cells ({ frames := 1, cells := 0, slots := 0, locals := 15 } : Room).slots) :=
  own_met (ret := (some .int)) (Q := (Q21s60 Z q2 q3 q1 b25766 b27787 b27802 b27824 b59480 h0 n0)) (plainFor_of_name pn_21) (fun m => ef_21 m b25766 b59480 (2 : Int32)) (fun p e s m below meth c T0 X0 hx hby hml hown hnm hZ e0 => by
  have N0 := Fr.nil n0
  refine ost (mkF m 1 #[.val (.ref b25766), .val (.ref b59480), .val (.int (2 : Int32))] [(.ref b25766)]) X0 (fun t k => XS.aloadN X0.here hx rfl (hb hby d21_0) rfl rfl k) ?_
  refine ost (mkF m 2 #[.val (.ref b25766), .val (.ref b59480), .val (.int (2 : Int32))] [(.ref b59480), (.ref b25766)]) X0 (fun t k => XS.aloadN X0.here hx rfl (hb hby d21_1) rfl rfl k) ?_
  refine ost (mkF m 3 #[.val (.ref b25766), .val (.ref b59480), .val (.int (2 : Int32))] [(.int (0 : Int32)), (.ref b59480), (.ref b25766)]) X0 (fun t k => XS.iconst X0.here hx rfl (hb hby d21_2) k) ?_
  refine ost (mkF m 4 #[.val (.ref b25766), .val (.ref b59480), .val (.int (2 : Int32))] [(.int (2 : Int32)), (.int (0 : Int32)), (.ref b59480), (.ref b25766)]) X0 (fun t k => XS.iloadN X0.here hx rfl (hb hby d21_3) rfl k) ?_
  obtain ⟨_, T61521, L61521, X61521, ⟨rfl, N61521q, u62535⟩, st61521⟩ := own_callP X0 hx hZ (y := Y21) (W := 0) (a := b25766) (argsL := [(.ref b59480), (.int (0 : Int32)), (.int (2 : Int32))]) (rest := []) hown (hw _ (wm 166 rfl)) (hw _ (wm 157 rfl)) rfl (hw _ (wm 167 rfl)) (hw _ (wm 168 rfl)) (hw _ (wm 96 rfl)) (hw _ (wm 169 rfl)) (by decide) E_b25766 (rm22s61 l Z a0 hw [] q2 q3 q1 b25766 b27787 b27802 b27824 b59480 h0 n0 Z0 F_m_word_b25766 F_m_shift_b25766 F_m_mask_b25766 A_b27787 A_b27802 A_b27824 A_b59480) (by decide) (by decide) (by decide) (by decide) e0 (g := (mkF m 4 #[.val (.ref b25766), .val (.ref b59480), .val (.int (2 : Int32))] [(.int (2 : Int32)), (.int (0 : Int32)), (.ref b59480), (.ref b25766)])) rfl (by rw [hml]; rfl) pd_13 rfl rfl (by show 2 * 0 + _ ≤ _; exact Nat.le_of_eq rfl) (hb hby d21_4)
  have N61521 := Fr.app N0 N61521q
  refine ost (mkF m 7 #[.val (.ref b25766), .val (.ref b59480), .val (.int (2 : Int32))] [(.int (((XT.ushrL ((q2 &&& ((-4611686018427387904 : Int64) ^^^ (-1 : Int64))) ||| ((v0_258b q1) <<< ((62 : Int32).toInt64 &&& 63))) (62 : Int32)) &&& (3 : Int64)).toInt32))]) X61521 (fun t k => st61521 _ k) ?_
  refine OwnFin.retInt X61521 (hb hby d21_7) (by decide) (by decide) ?_
  rw [u62535]
  exact ⟨rfl, N61521, rfl⟩)
def Q20s59 (Z : State) (q1 : Int64) (q2 : Int64) (q3 : Int64) (b25766 : Addr) (b27787 : Addr) (b27802 : Addr) (b27824 : Addr) (b59480 : Addr) (h0 : Heap) (n0 : Nat) : Option Value → Heap → List Loc → Prop := fun v h L => v = none ∧ Fr n0 L ∧ Keep h0 h [b59480] ∧ Ary Z h b59480 .long 2 (fun i => .long ((Gs5920_42 q2 q3 q1) i))
abbrev Las5920_0 (b25766 : Addr) (b59480 : Addr) (q1 : Int64) : Array Slot := #[.val (.ref b25766), .val (.ref b59480), .val (.int (2 : Int32)), .val (.long (v0_258b q1)), .second, .unset, .unset]
abbrev Las5920_1 (b25766 : Addr) (b59480 : Addr) (q1 : Int64) : Array Slot := #[.val (.ref b25766), .val (.ref b59480), .val (.int (2 : Int32)), .val (.long (v0_258b q1)), .second, .val (.int (0 : Int32)), .unset]
abbrev Las5920_2 (b25766 : Addr) (b59480 : Addr) (q1 : Int64) : Array Slot := #[.val (.ref b25766), .val (.ref b59480), .val (.int (2 : Int32)), .val (.long (v0_258b q1)), .second, .val (.int (0 : Int32)), .val (.int (62 : Int32))]
set_option maxRecDepth 65536 in
set_option maxHeartbeats 40000000 in
theorem rm20s59 (l : Launch) (Z : State) (a0 : Array Value) (hw : ∀ d ∈ tables_1, d.before a0 Z = true) (ws : List Jvm.Cond) (q1 : Int64) (q2 : Int64) (q3 : Int64) (b25766 : Addr) (b27787 : Addr) (b27802 : Addr) (b27824 : Addr) (b59480 : Addr) (h0 : Heap) (n0 : Nat) (Z0 : n0 ≤ h0.size) (F_m_word_b25766 : Fld Z h0 b25766 "com/example/ken2/ken2/StateLayout" "m_word" "[I" (.ref b27787)) (F_m_shift_b25766 : Fld Z h0 b25766 "com/example/ken2/ken2/StateLayout" "m_shift" "[I" (.ref b27802)) (F_m_mask_b25766 : Fld Z h0 b25766 "com/example/ken2/ken2/StateLayout" "m_mask" "[J" (.ref b27824)) (A_b27787 : Ary Z h0 b27787 .int 5 (fun i => .int ((Gs2612_107bbbb) i))) (A_b27802 : Ary Z h0 b27802 .int 5 (fun i => .int ((Gs2612_115bbb) i))) (A_b27824 : Ary Z h0 b27824 .long 5 (fun i => .long ((Gs2612_128bbbb) i))) (A_b59480 : Ary Z h0 b59480 .long 2 (fun i => .long ((G0_275 q2 q3) i))) (g_b59480 : n0 ≤ b59480) :
    MetFree l Y20 (head1 (Jvm.Cond.code Y20 prog_112_method_9_code 7 none :: ws) ({ frames := 0, cells := 0, slots := 0, locals := 0 } : Room)) (fun a U => a = #[(.ref b25766), (.ref b59480), (.int (2 : Int32)), (.long (v0_258b q1))] ∧ Z.Warmed39 U.vm ∧ U.heap = h0) (fun _ _ _ _ _ => True) (fun _ U o U' => ∃ v L, o = .returned v ∧ (Q20s59 Z q1 q2 q3 b25766 b27787 b27802 b27824 b59480 h0 n0) v U'.heap L ∧ FrameEnd U o U' L ({ frames := 0, cells := 0, slots := 0, locals := 0 } : Room).cells ({ frames := 0, cells := 0, slots := 0, locals := 0 } : Room).slots) :=
  own_met (ret := none) (Q := (Q20s59 Z q1 q2 q3 b25766 b27787 b27802 b27824 b59480 h0 n0)) (plainFor_of_name pn_20) (fun m => ef_20 m b25766 b59480 (2 : Int32) (v0_258b q1)) (fun p e s m below meth c T0 X0 hx hby hml hown hnm hZ e0 => by
  have N0 := Fr.nil n0
  refine ost (mkF m 1 (Las5920_0 b25766 b59480 q1) [(.ref b25766)]) X0 (fun t k => XS.aloadN X0.here hx rfl (hb hby d20_0) rfl rfl k) ?_
  obtain ⟨T60491, X60491, e60491, st60491⟩ := getF X0 hx hZ hown (host := "") (Or.inl (hw _ (wm 111 rfl))) Via.refl e0 F_m_word_b25766 (g := (mkF m 1 (Las5920_0 b25766 b59480 q1) [(.ref b25766)])) rfl rfl (hb hby d20_1)
  refine ost (mkF m 4 (Las5920_0 b25766 b59480 q1) [(.ref b27787)]) X60491 (fun t k => st60491 _ k) ?_
  refine ost (mkF m 5 (Las5920_0 b25766 b59480 q1) [(.int (2 : Int32)), (.ref b27787)]) X60491 (fun t k => XS.iloadN X60491.here hx rfl (hb hby d20_4) rfl k) ?_
  refine ost (mkF m 6 (Las5920_0 b25766 b59480 q1) [(.int (0 : Int32))]) X60491 (fun t k => own_ldI X60491 hx hZ e60491 A_b27787 (by decide) rfl (g := (mkF m 5 (Las5920_0 b25766 b59480 q1) [(.int (2 : Int32)), (.ref b27787)])) rfl rfl (hb hby d20_5) _ k) ?_
  refine ost (mkF m 8 (Las5920_1 b25766 b59480 q1) []) X60491 (fun t k => XS.istore X60491.here hx rfl (hb hby d20_6) rfl (l' := (Las5920_1 b25766 b59480 q1)) rfl k) ?_
  refine ost (mkF m 9 (Las5920_1 b25766 b59480 q1) [(.ref b25766)]) X60491 (fun t k => XS.aloadN X60491.here hx rfl (hb hby d20_8) rfl rfl k) ?_
  obtain ⟨T60492, X60492, e60492, st60492⟩ := getF X60491 hx hZ hown (host := "") (Or.inl (hw _ (wm 113 rfl))) Via.refl e60491 F_m_shift_b25766 (g := (mkF m 9 (Las5920_1 b25766 b59480 q1) [(.ref b25766)])) rfl rfl (hb hby d20_9)
  refine ost (mkF m 12 (Las5920_1 b25766 b59480 q1) [(.ref b27802)]) X60492 (fun t k => st60492 _ k) ?_
  refine ost (mkF m 13 (Las5920_1 b25766 b59480 q1) [(.int (2 : Int32)), (.ref b27802)]) X60492 (fun t k => XS.iloadN X60492.here hx rfl (hb hby d20_12) rfl k) ?_
  refine ost (mkF m 14 (Las5920_1 b25766 b59480 q1) [(.int (62 : Int32))]) X60492 (fun t k => own_ldI X60492 hx hZ e60492 A_b27802 (by decide) rfl (g := (mkF m 13 (Las5920_1 b25766 b59480 q1) [(.int (2 : Int32)), (.ref b27802)])) rfl rfl (hb hby d20_13) _ k) ?_
  refine ost (mkF m 16 (Las5920_2 b25766 b59480 q1) []) X60492 (fun t k => XS.istore X60492.here hx rfl (hb hby d20_14) rfl (l' := (Las5920_2 b25766 b59480 q1)) rfl k) ?_
  refine ost (mkF m 17 (Las5920_2 b25766 b59480 q1) [(.ref b59480)]) X60492 (fun t k => XS.aloadN X60492.here hx rfl (hb hby d20_16) rfl rfl k) ?_
  refine ost (mkF m 19 (Las5920_2 b25766 b59480 q1) [(.int (0 : Int32)), (.ref b59480)]) X60492 (fun t k => XS.iload X60492.here hx rfl (hb hby d20_17) rfl k) ?_
  refine ost (mkF m 20 (Las5920_2 b25766 b59480 q1) [(.ref b59480), (.int (0 : Int32)), (.ref b59480)]) X60492 (fun t k => XS.aloadN X60492.here hx rfl (hb hby d20_19) rfl rfl k) ?_
  refine ost (mkF m 22 (Las5920_2 b25766 b59480 q1) [(.int (0 : Int32)), (.ref b59480), (.int (0 : Int32)), (.ref b59480)]) X60492 (fun t k => XS.iload X60492.here hx rfl (hb hby d20_20) rfl k) ?_
  refine ost (mkF m 23 (Las5920_2 b25766 b59480 q1) [(.long q2), (.int (0 : Int32)), (.ref b59480)]) X60492 (fun t k => own_ldJ X60492 hx hZ e60492 A_b59480 (by decide) rfl (g := (mkF m 22 (Las5920_2 b25766 b59480 q1) [(.int (0 : Int32)), (.ref b59480), (.int (0 : Int32)), (.ref b59480)])) rfl rfl (hb hby d20_22) _ k) ?_
  refine ost (mkF m 24 (Las5920_2 b25766 b59480 q1) [(.ref b25766), (.long q2), (.int (0 : Int32)), (.ref b59480)]) X60492 (fun t k => XS.aloadN X60492.here hx rfl (hb hby d20_23) rfl rfl k) ?_
  obtain ⟨T60493, X60493, e60493, st60493⟩ := getF X60492 hx hZ hown (host := "") (Or.inl (hw _ (wm 116 rfl))) Via.refl e60492 F_m_mask_b25766 (g := (mkF m 24 (Las5920_2 b25766 b59480 q1) [(.ref b25766), (.long q2), (.int (0 : Int32)), (.ref b59480)])) rfl rfl (hb hby d20_24)
  refine ost (mkF m 27 (Las5920_2 b25766 b59480 q1) [(.ref b27824), (.long q2), (.int (0 : Int32)), (.ref b59480)]) X60493 (fun t k => st60493 _ k) ?_
  refine ost (mkF m 28 (Las5920_2 b25766 b59480 q1) [(.int (2 : Int32)), (.ref b27824), (.long q2), (.int (0 : Int32)), (.ref b59480)]) X60493 (fun t k => XS.iloadN X60493.here hx rfl (hb hby d20_27) rfl k) ?_
  refine ost (mkF m 29 (Las5920_2 b25766 b59480 q1) [(.long (3 : Int64)), (.long q2), (.int (0 : Int32)), (.ref b59480)]) X60493 (fun t k => own_ldJ X60493 hx hZ e60493 A_b27824 (by decide) rfl (g := (mkF m 28 (Las5920_2 b25766 b59480 q1) [(.int (2 : Int32)), (.ref b27824), (.long q2), (.int (0 : Int32)), (.ref b59480)])) rfl rfl (hb hby d20_28) _ k) ?_
  refine ost (mkF m 31 (Las5920_2 b25766 b59480 q1) [(.int (62 : Int32)), (.long (3 : Int64)), (.long q2), (.int (0 : Int32)), (.ref b59480)]) X60493 (fun t k => XS.iload X60493.here hx rfl (hb hby d20_29) rfl k) ?_
  refine ost (mkF m 32 (Las5920_2 b25766 b59480 q1) [(.long (-4611686018427387904 : Int64)), (.long q2), (.int (0 : Int32)), (.ref b59480)]) X60493 (fun t k => XT.lshl X60493.here hx rfl (hb hby d20_31) rfl k) ?_
  refine ost (mkF m 35 (Las5920_2 b25766 b59480 q1) [(.long (-1 : Int64)), (.long (-4611686018427387904 : Int64)), (.long q2), (.int (0 : Int32)), (.ref b59480)]) X60493 (fun t k => X60493.ldc2Long hx hown (mvT hZ (hw _ (wm 159 rfl))) (g := (mkF m 32 (Las5920_2 b25766 b59480 q1) [(.long (-4611686018427387904 : Int64)), (.long q2), (.int (0 : Int32)), (.ref b59480)])) rfl (hb hby d20_32) _ k) ?_
  refine ost (mkF m 36 (Las5920_2 b25766 b59480 q1) [(.long ((-4611686018427387904 : Int64) ^^^ (-1 : Int64))), (.long q2), (.int (0 : Int32)), (.ref b59480)]) X60493 (fun t k => XT.lxor X60493.here hx rfl (hb hby d20_35) rfl k) ?_
  refine ost (mkF m 37 (Las5920_2 b25766 b59480 q1) [(.long (q2 &&& ((-4611686018427387904 : Int64) ^^^ (-1 : Int64)))), (.int (0 : Int32)), (.ref b59480)]) X60493 (fun t k => XT.land X60493.here hx rfl (hb hby d20_36) rfl k) ?_
  refine ost (mkF m 38 (Las5920_2 b25766 b59480 q1) [(.long (v0_258b q1)), (.long (q2 &&& ((-4611686018427387904 : Int64) ^^^ (-1 : Int64)))), (.int (0 : Int32)), (.ref b59480)]) X60493 (fun t k => XT.lloadN X60493.here hx rfl (hb hby d20_37) rfl k) ?_
  refine ost (mkF m 40 (Las5920_2 b25766 b59480 q1) [(.int (62 : Int32)), (.long (v0_258b q1)), (.long (q2 &&& ((-4611686018427387904 : Int64) ^^^ (-1 : Int64)))), (.int (0 : Int32)), (.ref b59480)]) X60493 (fun t k => XS.iload X60493.here hx rfl (hb hby d20_38) rfl k) ?_
  refine ost (mkF m 41 (Las5920_2 b25766 b59480 q1) [(.long ((v0_258b q1) <<< ((62 : Int32).toInt64 &&& 63))), (.long (q2 &&& ((-4611686018427387904 : Int64) ^^^ (-1 : Int64)))), (.int (0 : Int32)), (.ref b59480)]) X60493 (fun t k => XT.lshl X60493.here hx rfl (hb hby d20_40) rfl k) ?_
  refine ost (mkF m 42 (Las5920_2 b25766 b59480 q1) [(.long ((q2 &&& ((-4611686018427387904 : Int64) ^^^ (-1 : Int64))) ||| ((v0_258b q1) <<< ((62 : Int32).toInt64 &&& 63)))), (.int (0 : Int32)), (.ref b59480)]) X60493 (fun t k => XT.lor X60493.here hx rfl (hb hby d20_41) rfl k) ?_
  obtain ⟨T60494, h60494, L60494, X60494, e60494, N60494, K60494, A60494, st60494⟩ := own_stJ X60493 hx hZ e60493 N0 (G := (G0_275 q2 q3)) A_b59480 g_b59480 (j := (0 : Int32)) (x := ((q2 &&& ((-4611686018427387904 : Int64) ^^^ (-1 : Int64))) ||| ((v0_258b q1) <<< ((62 : Int32).toInt64 &&& 63)))) (by decide) (g := (mkF m 42 (Las5920_2 b25766 b59480 q1) [(.long ((q2 &&& ((-4611686018427387904 : Int64) ^^^ (-1 : Int64))) ||| ((v0_258b q1) <<< ((62 : Int32).toInt64 &&& 63)))), (.int (0 : Int32)), (.ref b59480)])) rfl rfl (hb hby d20_42)
  have B60494 : Ary Z h60494 b59480 .long 2 (fun i => .long ((Gs5920_42 q2 q3 q1) i)) := A60494
  have Z60494 := Nat.le_trans Z0 K60494.1
  have S60494 := Nat.le_trans (Nat.le_refl h0.size) K60494.1
  refine ost (mkF m 43 (Las5920_2 b25766 b59480 q1) []) X60494 (fun t k => st60494 _ k) ?_
  refine OwnFin.retVoid X60494 (hb hby d20_43) (by decide) (by decide) ?_
  rw [e60494]
  exact ⟨rfl, N60494, (Keep.trans (Keep.refl h0 [b59480]) K60494 (allS (Or.inl (wm 0 rfl)) all0)), B60494⟩)
def Q22s58 (Z : State) (q2 : Int64) (q3 : Int64) (q1 : Int64) (b25766 : Addr) (b27787 : Addr) (b27802 : Addr) (b27824 : Addr) (b56403 : Addr) (h0 : Heap) (n0 : Nat) : Option Value → Heap → List Loc → Prop := fun v h L => v = some (.int (((XT.ushrL ((q2 &&& ((4611686016279904256 : Int64) ^^^ (-1 : Int64))) ||| ((v0_258 q1) <<< ((31 : Int32).toInt64 &&& 63))) (31 : Int32)) &&& (2147483647 : Int64)).toInt32)) ∧ Fr n0 L ∧ h = h0
abbrev Las5822_0 (b25766 : Addr) (b56403 : Addr) : Array Slot := #[.val (.ref b25766), .val (.ref b56403), .val (.int (0 : Int32)), .val (.int (1 : Int32))]
set_option maxRecDepth 65536 in
set_option maxHeartbeats 40000000 in
theorem rm22s58 (l : Launch) (Z : State) (a0 : Array Value) (hw : ∀ d ∈ tables_1, d.before a0 Z = true) (ws : List Jvm.Cond) (q2 : Int64) (q3 : Int64) (q1 : Int64) (b25766 : Addr) (b27787 : Addr) (b27802 : Addr) (b27824 : Addr) (b56403 : Addr) (h0 : Heap) (n0 : Nat) (Z0 : n0 ≤ h0.size) (F_m_word_b25766 : Fld Z h0 b25766 "com/example/ken2/ken2/StateLayout" "m_word" "[I" (.ref b27787)) (F_m_shift_b25766 : Fld Z h0 b25766 "com/example/ken2/ken2/StateLayout" "m_shift" "[I" (.ref b27802)) (F_m_mask_b25766 : Fld Z h0 b25766 "com/example/ken2/ken2/StateLayout" "m_mask" "[J" (.ref b27824)) (A_b27787 : Ary Z h0 b27787 .int 5 (fun i => .int ((Gs2612_107bbbb) i))) (A_b27802 : Ary Z h0 b27802 .int 5 (fun i => .int ((Gs2612_115bbb) i))) (A_b27824 : Ary Z h0 b27824 .long 5 (fun i => .long ((Gs2612_128bbbb) i))) (A_b56403 : Ary Z h0 b56403 .long 2 (fun i => .long ((Gs5620_42 q2 q3 q1) i))) :
    MetFree l Y21 (head1 (Jvm.Cond.code Y21 prog_112_method_6_code 4 (some .int) :: ws) ({ frames := 0, cells := 0, slots := 0, locals := 0 } : Room)) (fun a U => a = #[(.ref b25766), (.ref b56403), (.int (0 : Int32)), (.int (1 : Int32))] ∧ Z.Warmed39 U.vm ∧ U.heap = h0) (fun _ _ _ _ _ => True) (fun _ U o U' => ∃ v L, o = .returned v ∧ (Q22s58 Z q2 q3 q1 b25766 b27787 b27802 b27824 b56403 h0 n0) v U'.heap L ∧ FrameEnd U o U' L ({ frames := 0, cells := 0, slots := 0, locals := 0 } : Room).cells ({ frames := 0, cells := 0, slots := 0, locals := 0 } : Room).slots) :=
  own_met (ret := (some .int)) (Q := (Q22s58 Z q2 q3 q1 b25766 b27787 b27802 b27824 b56403 h0 n0)) (plainFor_of_name pn_22) (fun m => ef_22 m b25766 b56403 (0 : Int32) (1 : Int32)) (fun p e s m below meth c T0 X0 hx hby hml hown hnm hZ e0 => by
  have N0 := Fr.nil n0
  refine ost (mkF m 1 (Las5822_0 b25766 b56403) [(.ref b56403)]) X0 (fun t k => XS.aloadN X0.here hx rfl (hb hby d22_0) rfl rfl k) ?_
  refine ost (mkF m 2 (Las5822_0 b25766 b56403) [(.int (0 : Int32)), (.ref b56403)]) X0 (fun t k => XS.iloadN X0.here hx rfl (hb hby d22_1) rfl k) ?_
  refine ost (mkF m 3 (Las5822_0 b25766 b56403) [(.ref b25766), (.int (0 : Int32)), (.ref b56403)]) X0 (fun t k => XS.aloadN X0.here hx rfl (hb hby d22_2) rfl rfl k) ?_
  obtain ⟨T59445, X59445, e59445, st59445⟩ := getF X0 hx hZ hown (host := "") (Or.inl (hw _ (wm 111 rfl))) Via.refl e0 F_m_word_b25766 (g := (mkF m 3 (Las5822_0 b25766 b56403) [(.ref b25766), (.int (0 : Int32)), (.ref b56403)])) rfl rfl (hb hby d22_3)
  refine ost (mkF m 6 (Las5822_0 b25766 b56403) [(.ref b27787), (.int (0 : Int32)), (.ref b56403)]) X59445 (fun t k => st59445 _ k) ?_
  refine ost (mkF m 7 (Las5822_0 b25766 b56403) [(.int (1 : Int32)), (.ref b27787), (.int (0 : Int32)), (.ref b56403)]) X59445 (fun t k => XS.iloadN X59445.here hx rfl (hb hby d22_6) rfl k) ?_
  refine ost (mkF m 8 (Las5822_0 b25766 b56403) [(.int (0 : Int32)), (.int (0 : Int32)), (.ref b56403)]) X59445 (fun t k => own_ldI X59445 hx hZ e59445 A_b27787 (by decide) rfl (g := (mkF m 7 (Las5822_0 b25766 b56403) [(.int (1 : Int32)), (.ref b27787), (.int (0 : Int32)), (.ref b56403)])) rfl rfl (hb hby d22_7) _ k) ?_
  refine ost (mkF m 9 (Las5822_0 b25766 b56403) [(.int (0 : Int32)), (.ref b56403)]) X59445 (fun t k => XS.iadd X59445.here hx rfl (hb hby d22_8) rfl k) ?_
  refine ost (mkF m 10 (Las5822_0 b25766 b56403) [(.long ((q2 &&& ((4611686016279904256 : Int64) ^^^ (-1 : Int64))) ||| ((v0_258 q1) <<< ((31 : Int32).toInt64 &&& 63))))]) X59445 (fun t k => own_ldJ X59445 hx hZ e59445 A_b56403 (by decide) rfl (g := (mkF m 9 (Las5822_0 b25766 b56403) [(.int (0 : Int32)), (.ref b56403)])) rfl rfl (hb hby d22_9) _ k) ?_
  refine ost (mkF m 11 (Las5822_0 b25766 b56403) [(.ref b25766), (.long ((q2 &&& ((4611686016279904256 : Int64) ^^^ (-1 : Int64))) ||| ((v0_258 q1) <<< ((31 : Int32).toInt64 &&& 63))))]) X59445 (fun t k => XS.aloadN X59445.here hx rfl (hb hby d22_10) rfl rfl k) ?_
  obtain ⟨T59446, X59446, e59446, st59446⟩ := getF X59445 hx hZ hown (host := "") (Or.inl (hw _ (wm 113 rfl))) Via.refl e59445 F_m_shift_b25766 (g := (mkF m 11 (Las5822_0 b25766 b56403) [(.ref b25766), (.long ((q2 &&& ((4611686016279904256 : Int64) ^^^ (-1 : Int64))) ||| ((v0_258 q1) <<< ((31 : Int32).toInt64 &&& 63))))])) rfl rfl (hb hby d22_11)
  refine ost (mkF m 14 (Las5822_0 b25766 b56403) [(.ref b27802), (.long ((q2 &&& ((4611686016279904256 : Int64) ^^^ (-1 : Int64))) ||| ((v0_258 q1) <<< ((31 : Int32).toInt64 &&& 63))))]) X59446 (fun t k => st59446 _ k) ?_
  refine ost (mkF m 15 (Las5822_0 b25766 b56403) [(.int (1 : Int32)), (.ref b27802), (.long ((q2 &&& ((4611686016279904256 : Int64) ^^^ (-1 : Int64))) ||| ((v0_258 q1) <<< ((31 : Int32).toInt64 &&& 63))))]) X59446 (fun t k => XS.iloadN X59446.here hx rfl (hb hby d22_14) rfl k) ?_
  refine ost (mkF m 16 (Las5822_0 b25766 b56403) [(.int (31 : Int32)), (.long ((q2 &&& ((4611686016279904256 : Int64) ^^^ (-1 : Int64))) ||| ((v0_258 q1) <<< ((31 : Int32).toInt64 &&& 63))))]) X59446 (fun t k => own_ldI X59446 hx hZ e59446 A_b27802 (by decide) rfl (g := (mkF m 15 (Las5822_0 b25766 b56403) [(.int (1 : Int32)), (.ref b27802), (.long ((q2 &&& ((4611686016279904256 : Int64) ^^^ (-1 : Int64))) ||| ((v0_258 q1) <<< ((31 : Int32).toInt64 &&& 63))))])) rfl rfl (hb hby d22_15) _ k) ?_
  refine ost (mkF m 17 (Las5822_0 b25766 b56403) [(.long (XT.ushrL ((q2 &&& ((4611686016279904256 : Int64) ^^^ (-1 : Int64))) ||| ((v0_258 q1) <<< ((31 : Int32).toInt64 &&& 63))) (31 : Int32)))]) X59446 (fun t k => XT.lushr X59446.here hx rfl (hb hby d22_16) rfl k) ?_
  refine ost (mkF m 18 (Las5822_0 b25766 b56403) [(.ref b25766), (.long (XT.ushrL ((q2 &&& ((4611686016279904256 : Int64) ^^^ (-1 : Int64))) ||| ((v0_258 q1) <<< ((31 : Int32).toInt64 &&& 63))) (31 : Int32)))]) X59446 (fun t k => XS.aloadN X59446.here hx rfl (hb hby d22_17) rfl rfl k) ?_
  obtain ⟨T59447, X59447, e59447, st59447⟩ := getF X59446 hx hZ hown (host := "") (Or.inl (hw _ (wm 116 rfl))) Via.refl e59446 F_m_mask_b25766 (g := (mkF m 18 (Las5822_0 b25766 b56403) [(.ref b25766), (.long (XT.ushrL ((q2 &&& ((4611686016279904256 : Int64) ^^^ (-1 : Int64))) ||| ((v0_258 q1) <<< ((31 : Int32).toInt64 &&& 63))) (31 : Int32)))])) rfl rfl (hb hby d22_18)
  refine ost (mkF m 21 (Las5822_0 b25766 b56403) [(.ref b27824), (.long (XT.ushrL ((q2 &&& ((4611686016279904256 : Int64) ^^^ (-1 : Int64))) ||| ((v0_258 q1) <<< ((31 : Int32).toInt64 &&& 63))) (31 : Int32)))]) X59447 (fun t k => st59447 _ k) ?_
  refine ost (mkF m 22 (Las5822_0 b25766 b56403) [(.int (1 : Int32)), (.ref b27824), (.long (XT.ushrL ((q2 &&& ((4611686016279904256 : Int64) ^^^ (-1 : Int64))) ||| ((v0_258 q1) <<< ((31 : Int32).toInt64 &&& 63))) (31 : Int32)))]) X59447 (fun t k => XS.iloadN X59447.here hx rfl (hb hby d22_21) rfl k) ?_
  refine ost (mkF m 23 (Las5822_0 b25766 b56403) [(.long (2147483647 : Int64)), (.long (XT.ushrL ((q2 &&& ((4611686016279904256 : Int64) ^^^ (-1 : Int64))) ||| ((v0_258 q1) <<< ((31 : Int32).toInt64 &&& 63))) (31 : Int32)))]) X59447 (fun t k => own_ldJ X59447 hx hZ e59447 A_b27824 (by decide) rfl (g := (mkF m 22 (Las5822_0 b25766 b56403) [(.int (1 : Int32)), (.ref b27824), (.long (XT.ushrL ((q2 &&& ((4611686016279904256 : Int64) ^^^ (-1 : Int64))) ||| ((v0_258 q1) <<< ((31 : Int32).toInt64 &&& 63))) (31 : Int32)))])) rfl rfl (hb hby d22_22) _ k) ?_
  refine ost (mkF m 24 (Las5822_0 b25766 b56403) [(.long ((XT.ushrL ((q2 &&& ((4611686016279904256 : Int64) ^^^ (-1 : Int64))) ||| ((v0_258 q1) <<< ((31 : Int32).toInt64 &&& 63))) (31 : Int32)) &&& (2147483647 : Int64)))]) X59447 (fun t k => XT.land X59447.here hx rfl (hb hby d22_23) rfl k) ?_
  refine ost (mkF m 25 (Las5822_0 b25766 b56403) [(.int (((XT.ushrL ((q2 &&& ((4611686016279904256 : Int64) ^^^ (-1 : Int64))) ||| ((v0_258 q1) <<< ((31 : Int32).toInt64 &&& 63))) (31 : Int32)) &&& (2147483647 : Int64)).toInt32))]) X59447 (fun t k => XT.l2i X59447.here hx rfl (hb hby d22_24) rfl k) ?_
  refine OwnFin.retInt X59447 (hb hby d22_25) (by decide) (by decide) ?_
  rw [e59447]
  exact ⟨rfl, N0, rfl⟩)
def Q21s57 (Z : State) (q2 : Int64) (q3 : Int64) (q1 : Int64) (b25766 : Addr) (b27787 : Addr) (b27802 : Addr) (b27824 : Addr) (b56403 : Addr) (h0 : Heap) (n0 : Nat) : Option Value → Heap → List Loc → Prop := fun v h L => v = some (.int (((XT.ushrL ((q2 &&& ((4611686016279904256 : Int64) ^^^ (-1 : Int64))) ||| ((v0_258 q1) <<< ((31 : Int32).toInt64 &&& 63))) (31 : Int32)) &&& (2147483647 : Int64)).toInt32)) ∧ Fr n0 L ∧ h = h0
set_option maxRecDepth 65536 in
set_option maxHeartbeats 40000000 in
theorem rm21s57 (l : Launch) (Z : State) (a0 : Array Value) (hw : ∀ d ∈ tables_1, d.before a0 Z = true) (ws : List Jvm.Cond) (q2 : Int64) (q3 : Int64) (q1 : Int64) (b25766 : Addr) (b27787 : Addr) (b27802 : Addr) (b27824 : Addr) (b56403 : Addr) (h0 : Heap) (n0 : Nat) (Z0 : n0 ≤ h0.size) (E_b25766 : Exa Z h0 b25766 "com/example/ken2/ken2/StateLayout") (F_m_word_b25766 : Fld Z h0 b25766 "com/example/ken2/ken2/StateLayout" "m_word" "[I" (.ref b27787)) (F_m_shift_b25766 : Fld Z h0 b25766 "com/example/ken2/ken2/StateLayout" "m_shift" "[I" (.ref b27802)) (F_m_mask_b25766 : Fld Z h0 b25766 "com/example/ken2/ken2/StateLayout" "m_mask" "[J" (.ref b27824)) (A_b27787 : Ary Z h0 b27787 .int 5 (fun i => .int ((Gs2612_107bbbb) i))) (A_b27802 : Ary Z h0 b27802 .int 5 (fun i => .int ((Gs2612_115bbb) i))) (A_b27824 : Ary Z h0 b27824 .long 5 (fun i => .long ((Gs2612_128bbbb) i))) (A_b56403 : Ary Z h0 b56403 .long 2 (fun i => .long ((Gs5620_42 q2 q3 q1) i))) :
    MetFree l Y22 (head1 (Jvm.Cond.code Y22 prog_112_method_5_code 3 (some .int) :: ws) ({ frames := 1, cells := 0, slots := 0, locals := 15 } : Room)) (fun a U => a = #[(.ref b25766), (.ref b56403), (.int (1 : Int32))] ∧ Z.Warmed39 U.vm ∧ U.heap = h0) (fun _ _ _ _ _ => True) (fun _ U o U' => ∃ v L, o = .returned v ∧ (Q21s57 Z q2 q3 q1 b25766 b27787 b27802 b27824 b56403 h0 n0) v U'.heap L ∧ FrameEnd U o U' L ({ frames := 1, cells := 0, slots := 0, locals := 15 } : Room).cells ({ frames := 1, cells := 0, slots := 0, locals := 15 } : Room).slots) :=
  own_met (ret := (some .int)) (Q := (Q21s57 Z q2 q3 q1 b25766 b27787 b27802 b27824 b56403 h0 n0)) (plainFor_of_name pn_21) (fun m => ef_21 m b25766 b56403 (1 : Int32)) (fun p e s m below meth c T0 X0 hx hby hml hown hnm hZ e0 => by
  have N0 := Fr.nil n0
  refine ost (mkF m 1 #[.val (.ref b25766), .val (.ref b56403), .val (.int (1 : Int32))] [(.ref b25766)]) X0 (fun t k => XS.aloadN X0.here hx rfl (hb hby d21_0) rfl rfl k) ?_
  refine ost (mkF m 2 #[.val (.ref b25766), .val (.ref b56403), .val (.int (1 : Int32))] [(.ref b56403), (.ref b25766)]) X0 (fun t k => XS.aloadN X0.here hx rfl (hb hby d21_1) rfl rfl k) ?_
  refine ost (mkF m 3 #[.val (.ref b25766), .val (.ref b56403), .val (.int (1 : Int32))] [(.int (0 : Int32)), (.ref b56403), (.ref b25766)]) X0 (fun t k => XS.iconst X0.here hx rfl (hb hby d21_2) k) ?_
  refine ost (mkF m 4 #[.val (.ref b25766), .val (.ref b56403), .val (.int (1 : Int32))] [(.int (1 : Int32)), (.int (0 : Int32)), (.ref b56403), (.ref b25766)]) X0 (fun t k => XS.iloadN X0.here hx rfl (hb hby d21_3) rfl k) ?_
  obtain ⟨_, T58444, L58444, X58444, ⟨rfl, N58444q, u59458⟩, st58444⟩ := own_callP X0 hx hZ (y := Y21) (W := 0) (a := b25766) (argsL := [(.ref b56403), (.int (0 : Int32)), (.int (1 : Int32))]) (rest := []) hown (hw _ (wm 166 rfl)) (hw _ (wm 157 rfl)) rfl (hw _ (wm 167 rfl)) (hw _ (wm 168 rfl)) (hw _ (wm 96 rfl)) (hw _ (wm 169 rfl)) (by decide) E_b25766 (rm22s58 l Z a0 hw [] q2 q3 q1 b25766 b27787 b27802 b27824 b56403 h0 n0 Z0 F_m_word_b25766 F_m_shift_b25766 F_m_mask_b25766 A_b27787 A_b27802 A_b27824 A_b56403) (by decide) (by decide) (by decide) (by decide) e0 (g := (mkF m 4 #[.val (.ref b25766), .val (.ref b56403), .val (.int (1 : Int32))] [(.int (1 : Int32)), (.int (0 : Int32)), (.ref b56403), (.ref b25766)])) rfl (by rw [hml]; rfl) pd_13 rfl rfl (by show 2 * 0 + _ ≤ _; exact Nat.le_of_eq rfl) (hb hby d21_4)
  have N58444 := Fr.app N0 N58444q
  refine ost (mkF m 7 #[.val (.ref b25766), .val (.ref b56403), .val (.int (1 : Int32))] [(.int (((XT.ushrL ((q2 &&& ((4611686016279904256 : Int64) ^^^ (-1 : Int64))) ||| ((v0_258 q1) <<< ((31 : Int32).toInt64 &&& 63))) (31 : Int32)) &&& (2147483647 : Int64)).toInt32))]) X58444 (fun t k => st58444 _ k) ?_
  refine OwnFin.retInt X58444 (hb hby d21_7) (by decide) (by decide) ?_
  rw [u59458]
  exact ⟨rfl, N58444, rfl⟩)
def Q20s56 (Z : State) (q1 : Int64) (q2 : Int64) (q3 : Int64) (b25766 : Addr) (b27787 : Addr) (b27802 : Addr) (b27824 : Addr) (b56403 : Addr) (h0 : Heap) (n0 : Nat) : Option Value → Heap → List Loc → Prop := fun v h L => v = none ∧ Fr n0 L ∧ Keep h0 h [b56403] ∧ Ary Z h b56403 .long 2 (fun i => .long ((Gs5620_42 q2 q3 q1) i))
abbrev Las5620_0 (b25766 : Addr) (b56403 : Addr) (q1 : Int64) : Array Slot := #[.val (.ref b25766), .val (.ref b56403), .val (.int (1 : Int32)), .val (.long (v0_258 q1)), .second, .unset, .unset]
abbrev Las5620_1 (b25766 : Addr) (b56403 : Addr) (q1 : Int64) : Array Slot := #[.val (.ref b25766), .val (.ref b56403), .val (.int (1 : Int32)), .val (.long (v0_258 q1)), .second, .val (.int (0 : Int32)), .unset]
abbrev Las5620_2 (b25766 : Addr) (b56403 : Addr) (q1 : Int64) : Array Slot := #[.val (.ref b25766), .val (.ref b56403), .val (.int (1 : Int32)), .val (.long (v0_258 q1)), .second, .val (.int (0 : Int32)), .val (.int (31 : Int32))]
set_option maxRecDepth 65536 in
set_option maxHeartbeats 40000000 in
theorem rm20s56 (l : Launch) (Z : State) (a0 : Array Value) (hw : ∀ d ∈ tables_1, d.before a0 Z = true) (ws : List Jvm.Cond) (q1 : Int64) (q2 : Int64) (q3 : Int64) (b25766 : Addr) (b27787 : Addr) (b27802 : Addr) (b27824 : Addr) (b56403 : Addr) (h0 : Heap) (n0 : Nat) (Z0 : n0 ≤ h0.size) (F_m_word_b25766 : Fld Z h0 b25766 "com/example/ken2/ken2/StateLayout" "m_word" "[I" (.ref b27787)) (F_m_shift_b25766 : Fld Z h0 b25766 "com/example/ken2/ken2/StateLayout" "m_shift" "[I" (.ref b27802)) (F_m_mask_b25766 : Fld Z h0 b25766 "com/example/ken2/ken2/StateLayout" "m_mask" "[J" (.ref b27824)) (A_b27787 : Ary Z h0 b27787 .int 5 (fun i => .int ((Gs2612_107bbbb) i))) (A_b27802 : Ary Z h0 b27802 .int 5 (fun i => .int ((Gs2612_115bbb) i))) (A_b27824 : Ary Z h0 b27824 .long 5 (fun i => .long ((Gs2612_128bbbb) i))) (A_b56403 : Ary Z h0 b56403 .long 2 (fun i => .long ((G0_275 q2 q3) i))) (g_b56403 : n0 ≤ b56403) :
    MetFree l Y20 (head1 (Jvm.Cond.code Y20 prog_112_method_9_code 7 none :: ws) ({ frames := 0, cells := 0, slots := 0, locals := 0 } : Room)) (fun a U => a = #[(.ref b25766), (.ref b56403), (.int (1 : Int32)), (.long (v0_258 q1))] ∧ Z.Warmed39 U.vm ∧ U.heap = h0) (fun _ _ _ _ _ => True) (fun _ U o U' => ∃ v L, o = .returned v ∧ (Q20s56 Z q1 q2 q3 b25766 b27787 b27802 b27824 b56403 h0 n0) v U'.heap L ∧ FrameEnd U o U' L ({ frames := 0, cells := 0, slots := 0, locals := 0 } : Room).cells ({ frames := 0, cells := 0, slots := 0, locals := 0 } : Room).slots) :=
  own_met (ret := none) (Q := (Q20s56 Z q1 q2 q3 b25766 b27787 b27802 b27824 b56403 h0 n0)) (plainFor_of_name pn_20) (fun m => ef_20 m b25766 b56403 (1 : Int32) (v0_258 q1)) (fun p e s m below meth c T0 X0 hx hby hml hown hnm hZ e0 => by
  have N0 := Fr.nil n0
  refine ost (mkF m 1 (Las5620_0 b25766 b56403 q1) [(.ref b25766)]) X0 (fun t k => XS.aloadN X0.here hx rfl (hb hby d20_0) rfl rfl k) ?_
  obtain ⟨T57414, X57414, e57414, st57414⟩ := getF X0 hx hZ hown (host := "") (Or.inl (hw _ (wm 111 rfl))) Via.refl e0 F_m_word_b25766 (g := (mkF m 1 (Las5620_0 b25766 b56403 q1) [(.ref b25766)])) rfl rfl (hb hby d20_1)
  refine ost (mkF m 4 (Las5620_0 b25766 b56403 q1) [(.ref b27787)]) X57414 (fun t k => st57414 _ k) ?_
  refine ost (mkF m 5 (Las5620_0 b25766 b56403 q1) [(.int (1 : Int32)), (.ref b27787)]) X57414 (fun t k => XS.iloadN X57414.here hx rfl (hb hby d20_4) rfl k) ?_
  refine ost (mkF m 6 (Las5620_0 b25766 b56403 q1) [(.int (0 : Int32))]) X57414 (fun t k => own_ldI X57414 hx hZ e57414 A_b27787 (by decide) rfl (g := (mkF m 5 (Las5620_0 b25766 b56403 q1) [(.int (1 : Int32)), (.ref b27787)])) rfl rfl (hb hby d20_5) _ k) ?_
  refine ost (mkF m 8 (Las5620_1 b25766 b56403 q1) []) X57414 (fun t k => XS.istore X57414.here hx rfl (hb hby d20_6) rfl (l' := (Las5620_1 b25766 b56403 q1)) rfl k) ?_
  refine ost (mkF m 9 (Las5620_1 b25766 b56403 q1) [(.ref b25766)]) X57414 (fun t k => XS.aloadN X57414.here hx rfl (hb hby d20_8) rfl rfl k) ?_
  obtain ⟨T57415, X57415, e57415, st57415⟩ := getF X57414 hx hZ hown (host := "") (Or.inl (hw _ (wm 113 rfl))) Via.refl e57414 F_m_shift_b25766 (g := (mkF m 9 (Las5620_1 b25766 b56403 q1) [(.ref b25766)])) rfl rfl (hb hby d20_9)
  refine ost (mkF m 12 (Las5620_1 b25766 b56403 q1) [(.ref b27802)]) X57415 (fun t k => st57415 _ k) ?_
  refine ost (mkF m 13 (Las5620_1 b25766 b56403 q1) [(.int (1 : Int32)), (.ref b27802)]) X57415 (fun t k => XS.iloadN X57415.here hx rfl (hb hby d20_12) rfl k) ?_
  refine ost (mkF m 14 (Las5620_1 b25766 b56403 q1) [(.int (31 : Int32))]) X57415 (fun t k => own_ldI X57415 hx hZ e57415 A_b27802 (by decide) rfl (g := (mkF m 13 (Las5620_1 b25766 b56403 q1) [(.int (1 : Int32)), (.ref b27802)])) rfl rfl (hb hby d20_13) _ k) ?_
  refine ost (mkF m 16 (Las5620_2 b25766 b56403 q1) []) X57415 (fun t k => XS.istore X57415.here hx rfl (hb hby d20_14) rfl (l' := (Las5620_2 b25766 b56403 q1)) rfl k) ?_
  refine ost (mkF m 17 (Las5620_2 b25766 b56403 q1) [(.ref b56403)]) X57415 (fun t k => XS.aloadN X57415.here hx rfl (hb hby d20_16) rfl rfl k) ?_
  refine ost (mkF m 19 (Las5620_2 b25766 b56403 q1) [(.int (0 : Int32)), (.ref b56403)]) X57415 (fun t k => XS.iload X57415.here hx rfl (hb hby d20_17) rfl k) ?_
  refine ost (mkF m 20 (Las5620_2 b25766 b56403 q1) [(.ref b56403), (.int (0 : Int32)), (.ref b56403)]) X57415 (fun t k => XS.aloadN X57415.here hx rfl (hb hby d20_19) rfl rfl k) ?_
  refine ost (mkF m 22 (Las5620_2 b25766 b56403 q1) [(.int (0 : Int32)), (.ref b56403), (.int (0 : Int32)), (.ref b56403)]) X57415 (fun t k => XS.iload X57415.here hx rfl (hb hby d20_20) rfl k) ?_
  refine ost (mkF m 23 (Las5620_2 b25766 b56403 q1) [(.long q2), (.int (0 : Int32)), (.ref b56403)]) X57415 (fun t k => own_ldJ X57415 hx hZ e57415 A_b56403 (by decide) rfl (g := (mkF m 22 (Las5620_2 b25766 b56403 q1) [(.int (0 : Int32)), (.ref b56403), (.int (0 : Int32)), (.ref b56403)])) rfl rfl (hb hby d20_22) _ k) ?_
  refine ost (mkF m 24 (Las5620_2 b25766 b56403 q1) [(.ref b25766), (.long q2), (.int (0 : Int32)), (.ref b56403)]) X57415 (fun t k => XS.aloadN X57415.here hx rfl (hb hby d20_23) rfl rfl k) ?_
  obtain ⟨T57416, X57416, e57416, st57416⟩ := getF X57415 hx hZ hown (host := "") (Or.inl (hw _ (wm 116 rfl))) Via.refl e57415 F_m_mask_b25766 (g := (mkF m 24 (Las5620_2 b25766 b56403 q1) [(.ref b25766), (.long q2), (.int (0 : Int32)), (.ref b56403)])) rfl rfl (hb hby d20_24)
  refine ost (mkF m 27 (Las5620_2 b25766 b56403 q1) [(.ref b27824), (.long q2), (.int (0 : Int32)), (.ref b56403)]) X57416 (fun t k => st57416 _ k) ?_
  refine ost (mkF m 28 (Las5620_2 b25766 b56403 q1) [(.int (1 : Int32)), (.ref b27824), (.long q2), (.int (0 : Int32)), (.ref b56403)]) X57416 (fun t k => XS.iloadN X57416.here hx rfl (hb hby d20_27) rfl k) ?_
  refine ost (mkF m 29 (Las5620_2 b25766 b56403 q1) [(.long (2147483647 : Int64)), (.long q2), (.int (0 : Int32)), (.ref b56403)]) X57416 (fun t k => own_ldJ X57416 hx hZ e57416 A_b27824 (by decide) rfl (g := (mkF m 28 (Las5620_2 b25766 b56403 q1) [(.int (1 : Int32)), (.ref b27824), (.long q2), (.int (0 : Int32)), (.ref b56403)])) rfl rfl (hb hby d20_28) _ k) ?_
  refine ost (mkF m 31 (Las5620_2 b25766 b56403 q1) [(.int (31 : Int32)), (.long (2147483647 : Int64)), (.long q2), (.int (0 : Int32)), (.ref b56403)]) X57416 (fun t k => XS.iload X57416.here hx rfl (hb hby d20_29) rfl k) ?_
  refine ost (mkF m 32 (Las5620_2 b25766 b56403 q1) [(.long (4611686016279904256 : Int64)), (.long q2), (.int (0 : Int32)), (.ref b56403)]) X57416 (fun t k => XT.lshl X57416.here hx rfl (hb hby d20_31) rfl k) ?_
  refine ost (mkF m 35 (Las5620_2 b25766 b56403 q1) [(.long (-1 : Int64)), (.long (4611686016279904256 : Int64)), (.long q2), (.int (0 : Int32)), (.ref b56403)]) X57416 (fun t k => X57416.ldc2Long hx hown (mvT hZ (hw _ (wm 159 rfl))) (g := (mkF m 32 (Las5620_2 b25766 b56403 q1) [(.long (4611686016279904256 : Int64)), (.long q2), (.int (0 : Int32)), (.ref b56403)])) rfl (hb hby d20_32) _ k) ?_
  refine ost (mkF m 36 (Las5620_2 b25766 b56403 q1) [(.long ((4611686016279904256 : Int64) ^^^ (-1 : Int64))), (.long q2), (.int (0 : Int32)), (.ref b56403)]) X57416 (fun t k => XT.lxor X57416.here hx rfl (hb hby d20_35) rfl k) ?_
  refine ost (mkF m 37 (Las5620_2 b25766 b56403 q1) [(.long (q2 &&& ((4611686016279904256 : Int64) ^^^ (-1 : Int64)))), (.int (0 : Int32)), (.ref b56403)]) X57416 (fun t k => XT.land X57416.here hx rfl (hb hby d20_36) rfl k) ?_
  refine ost (mkF m 38 (Las5620_2 b25766 b56403 q1) [(.long (v0_258 q1)), (.long (q2 &&& ((4611686016279904256 : Int64) ^^^ (-1 : Int64)))), (.int (0 : Int32)), (.ref b56403)]) X57416 (fun t k => XT.lloadN X57416.here hx rfl (hb hby d20_37) rfl k) ?_
  refine ost (mkF m 40 (Las5620_2 b25766 b56403 q1) [(.int (31 : Int32)), (.long (v0_258 q1)), (.long (q2 &&& ((4611686016279904256 : Int64) ^^^ (-1 : Int64)))), (.int (0 : Int32)), (.ref b56403)]) X57416 (fun t k => XS.iload X57416.here hx rfl (hb hby d20_38) rfl k) ?_
  refine ost (mkF m 41 (Las5620_2 b25766 b56403 q1) [(.long ((v0_258 q1) <<< ((31 : Int32).toInt64 &&& 63))), (.long (q2 &&& ((4611686016279904256 : Int64) ^^^ (-1 : Int64)))), (.int (0 : Int32)), (.ref b56403)]) X57416 (fun t k => XT.lshl X57416.here hx rfl (hb hby d20_40) rfl k) ?_
  refine ost (mkF m 42 (Las5620_2 b25766 b56403 q1) [(.long ((q2 &&& ((4611686016279904256 : Int64) ^^^ (-1 : Int64))) ||| ((v0_258 q1) <<< ((31 : Int32).toInt64 &&& 63)))), (.int (0 : Int32)), (.ref b56403)]) X57416 (fun t k => XT.lor X57416.here hx rfl (hb hby d20_41) rfl k) ?_
  obtain ⟨T57417, h57417, L57417, X57417, e57417, N57417, K57417, A57417, st57417⟩ := own_stJ X57416 hx hZ e57416 N0 (G := (G0_275 q2 q3)) A_b56403 g_b56403 (j := (0 : Int32)) (x := ((q2 &&& ((4611686016279904256 : Int64) ^^^ (-1 : Int64))) ||| ((v0_258 q1) <<< ((31 : Int32).toInt64 &&& 63)))) (by decide) (g := (mkF m 42 (Las5620_2 b25766 b56403 q1) [(.long ((q2 &&& ((4611686016279904256 : Int64) ^^^ (-1 : Int64))) ||| ((v0_258 q1) <<< ((31 : Int32).toInt64 &&& 63)))), (.int (0 : Int32)), (.ref b56403)])) rfl rfl (hb hby d20_42)
  have B57417 : Ary Z h57417 b56403 .long 2 (fun i => .long ((Gs5620_42 q2 q3 q1) i)) := A57417
  have Z57417 := Nat.le_trans Z0 K57417.1
  have S57417 := Nat.le_trans (Nat.le_refl h0.size) K57417.1
  refine ost (mkF m 43 (Las5620_2 b25766 b56403 q1) []) X57417 (fun t k => st57417 _ k) ?_
  refine OwnFin.retVoid X57417 (hb hby d20_43) (by decide) (by decide) ?_
  rw [e57417]
  exact ⟨rfl, N57417, (Keep.trans (Keep.refl h0 [b56403]) K57417 (allS (Or.inl (wm 0 rfl)) all0)), B57417⟩)
def Q22s55 (Z : State) (q2 : Int64) (q3 : Int64) (q1 : Int64) (b25766 : Addr) (b27787 : Addr) (b27802 : Addr) (b27824 : Addr) (b53326 : Addr) (h0 : Heap) (n0 : Nat) : Option Value → Heap → List Loc → Prop := fun v h L => v = some (.int (((XT.ushrL ((q2 &&& ((2147483647 : Int64) ^^^ (-1 : Int64))) ||| ((v0_258 q1) <<< ((0 : Int32).toInt64 &&& 63))) (0 : Int32)) &&& (2147483647 : Int64)).toInt32)) ∧ Fr n0 L ∧ h = h0
abbrev Las5522_0 (b25766 : Addr) (b53326 : Addr) : Array Slot := #[.val (.ref b25766), .val (.ref b53326), .val (.int (0 : Int32)), .val (.int (0 : Int32))]
set_option maxRecDepth 65536 in
set_option maxHeartbeats 40000000 in
theorem rm22s55 (l : Launch) (Z : State) (a0 : Array Value) (hw : ∀ d ∈ tables_1, d.before a0 Z = true) (ws : List Jvm.Cond) (q2 : Int64) (q3 : Int64) (q1 : Int64) (b25766 : Addr) (b27787 : Addr) (b27802 : Addr) (b27824 : Addr) (b53326 : Addr) (h0 : Heap) (n0 : Nat) (Z0 : n0 ≤ h0.size) (F_m_word_b25766 : Fld Z h0 b25766 "com/example/ken2/ken2/StateLayout" "m_word" "[I" (.ref b27787)) (F_m_shift_b25766 : Fld Z h0 b25766 "com/example/ken2/ken2/StateLayout" "m_shift" "[I" (.ref b27802)) (F_m_mask_b25766 : Fld Z h0 b25766 "com/example/ken2/ken2/StateLayout" "m_mask" "[J" (.ref b27824)) (A_b27787 : Ary Z h0 b27787 .int 5 (fun i => .int ((Gs2612_107bbbb) i))) (A_b27802 : Ary Z h0 b27802 .int 5 (fun i => .int ((Gs2612_115bbb) i))) (A_b27824 : Ary Z h0 b27824 .long 5 (fun i => .long ((Gs2612_128bbbb) i))) (A_b53326 : Ary Z h0 b53326 .long 2 (fun i => .long ((Gs5320_42 q2 q3 q1) i))) :
    MetFree l Y21 (head1 (Jvm.Cond.code Y21 prog_112_method_6_code 4 (some .int) :: ws) ({ frames := 0, cells := 0, slots := 0, locals := 0 } : Room)) (fun a U => a = #[(.ref b25766), (.ref b53326), (.int (0 : Int32)), (.int (0 : Int32))] ∧ Z.Warmed39 U.vm ∧ U.heap = h0) (fun _ _ _ _ _ => True) (fun _ U o U' => ∃ v L, o = .returned v ∧ (Q22s55 Z q2 q3 q1 b25766 b27787 b27802 b27824 b53326 h0 n0) v U'.heap L ∧ FrameEnd U o U' L ({ frames := 0, cells := 0, slots := 0, locals := 0 } : Room).cells ({ frames := 0, cells := 0, slots := 0, locals := 0 } : Room).slots) :=
  own_met (ret := (some .int)) (Q := (Q22s55 Z q2 q3 q1 b25766 b27787 b27802 b27824 b53326 h0 n0)) (plainFor_of_name pn_22) (fun m => ef_22 m b25766 b53326 (0 : Int32) (0 : Int32)) (fun p e s m below meth c T0 X0 hx hby hml hown hnm hZ e0 => by
  have N0 := Fr.nil n0
  refine ost (mkF m 1 (Las5522_0 b25766 b53326) [(.ref b53326)]) X0 (fun t k => XS.aloadN X0.here hx rfl (hb hby d22_0) rfl rfl k) ?_
  refine ost (mkF m 2 (Las5522_0 b25766 b53326) [(.int (0 : Int32)), (.ref b53326)]) X0 (fun t k => XS.iloadN X0.here hx rfl (hb hby d22_1) rfl k) ?_
  refine ost (mkF m 3 (Las5522_0 b25766 b53326) [(.ref b25766), (.int (0 : Int32)), (.ref b53326)]) X0 (fun t k => XS.aloadN X0.here hx rfl (hb hby d22_2) rfl rfl k) ?_
  obtain ⟨T56368, X56368, e56368, st56368⟩ := getF X0 hx hZ hown (host := "") (Or.inl (hw _ (wm 111 rfl))) Via.refl e0 F_m_word_b25766 (g := (mkF m 3 (Las5522_0 b25766 b53326) [(.ref b25766), (.int (0 : Int32)), (.ref b53326)])) rfl rfl (hb hby d22_3)
  refine ost (mkF m 6 (Las5522_0 b25766 b53326) [(.ref b27787), (.int (0 : Int32)), (.ref b53326)]) X56368 (fun t k => st56368 _ k) ?_
  refine ost (mkF m 7 (Las5522_0 b25766 b53326) [(.int (0 : Int32)), (.ref b27787), (.int (0 : Int32)), (.ref b53326)]) X56368 (fun t k => XS.iloadN X56368.here hx rfl (hb hby d22_6) rfl k) ?_
  refine ost (mkF m 8 (Las5522_0 b25766 b53326) [(.int (0 : Int32)), (.int (0 : Int32)), (.ref b53326)]) X56368 (fun t k => own_ldI X56368 hx hZ e56368 A_b27787 (by decide) rfl (g := (mkF m 7 (Las5522_0 b25766 b53326) [(.int (0 : Int32)), (.ref b27787), (.int (0 : Int32)), (.ref b53326)])) rfl rfl (hb hby d22_7) _ k) ?_
  refine ost (mkF m 9 (Las5522_0 b25766 b53326) [(.int (0 : Int32)), (.ref b53326)]) X56368 (fun t k => XS.iadd X56368.here hx rfl (hb hby d22_8) rfl k) ?_
  refine ost (mkF m 10 (Las5522_0 b25766 b53326) [(.long ((q2 &&& ((2147483647 : Int64) ^^^ (-1 : Int64))) ||| ((v0_258 q1) <<< ((0 : Int32).toInt64 &&& 63))))]) X56368 (fun t k => own_ldJ X56368 hx hZ e56368 A_b53326 (by decide) rfl (g := (mkF m 9 (Las5522_0 b25766 b53326) [(.int (0 : Int32)), (.ref b53326)])) rfl rfl (hb hby d22_9) _ k) ?_
  refine ost (mkF m 11 (Las5522_0 b25766 b53326) [(.ref b25766), (.long ((q2 &&& ((2147483647 : Int64) ^^^ (-1 : Int64))) ||| ((v0_258 q1) <<< ((0 : Int32).toInt64 &&& 63))))]) X56368 (fun t k => XS.aloadN X56368.here hx rfl (hb hby d22_10) rfl rfl k) ?_
  obtain ⟨T56369, X56369, e56369, st56369⟩ := getF X56368 hx hZ hown (host := "") (Or.inl (hw _ (wm 113 rfl))) Via.refl e56368 F_m_shift_b25766 (g := (mkF m 11 (Las5522_0 b25766 b53326) [(.ref b25766), (.long ((q2 &&& ((2147483647 : Int64) ^^^ (-1 : Int64))) ||| ((v0_258 q1) <<< ((0 : Int32).toInt64 &&& 63))))])) rfl rfl (hb hby d22_11)
  refine ost (mkF m 14 (Las5522_0 b25766 b53326) [(.ref b27802), (.long ((q2 &&& ((2147483647 : Int64) ^^^ (-1 : Int64))) ||| ((v0_258 q1) <<< ((0 : Int32).toInt64 &&& 63))))]) X56369 (fun t k => st56369 _ k) ?_
  refine ost (mkF m 15 (Las5522_0 b25766 b53326) [(.int (0 : Int32)), (.ref b27802), (.long ((q2 &&& ((2147483647 : Int64) ^^^ (-1 : Int64))) ||| ((v0_258 q1) <<< ((0 : Int32).toInt64 &&& 63))))]) X56369 (fun t k => XS.iloadN X56369.here hx rfl (hb hby d22_14) rfl k) ?_
  refine ost (mkF m 16 (Las5522_0 b25766 b53326) [(.int (0 : Int32)), (.long ((q2 &&& ((2147483647 : Int64) ^^^ (-1 : Int64))) ||| ((v0_258 q1) <<< ((0 : Int32).toInt64 &&& 63))))]) X56369 (fun t k => own_ldI X56369 hx hZ e56369 A_b27802 (by decide) rfl (g := (mkF m 15 (Las5522_0 b25766 b53326) [(.int (0 : Int32)), (.ref b27802), (.long ((q2 &&& ((2147483647 : Int64) ^^^ (-1 : Int64))) ||| ((v0_258 q1) <<< ((0 : Int32).toInt64 &&& 63))))])) rfl rfl (hb hby d22_15) _ k) ?_
  refine ost (mkF m 17 (Las5522_0 b25766 b53326) [(.long (XT.ushrL ((q2 &&& ((2147483647 : Int64) ^^^ (-1 : Int64))) ||| ((v0_258 q1) <<< ((0 : Int32).toInt64 &&& 63))) (0 : Int32)))]) X56369 (fun t k => XT.lushr X56369.here hx rfl (hb hby d22_16) rfl k) ?_
  refine ost (mkF m 18 (Las5522_0 b25766 b53326) [(.ref b25766), (.long (XT.ushrL ((q2 &&& ((2147483647 : Int64) ^^^ (-1 : Int64))) ||| ((v0_258 q1) <<< ((0 : Int32).toInt64 &&& 63))) (0 : Int32)))]) X56369 (fun t k => XS.aloadN X56369.here hx rfl (hb hby d22_17) rfl rfl k) ?_
  obtain ⟨T56370, X56370, e56370, st56370⟩ := getF X56369 hx hZ hown (host := "") (Or.inl (hw _ (wm 116 rfl))) Via.refl e56369 F_m_mask_b25766 (g := (mkF m 18 (Las5522_0 b25766 b53326) [(.ref b25766), (.long (XT.ushrL ((q2 &&& ((2147483647 : Int64) ^^^ (-1 : Int64))) ||| ((v0_258 q1) <<< ((0 : Int32).toInt64 &&& 63))) (0 : Int32)))])) rfl rfl (hb hby d22_18)
  refine ost (mkF m 21 (Las5522_0 b25766 b53326) [(.ref b27824), (.long (XT.ushrL ((q2 &&& ((2147483647 : Int64) ^^^ (-1 : Int64))) ||| ((v0_258 q1) <<< ((0 : Int32).toInt64 &&& 63))) (0 : Int32)))]) X56370 (fun t k => st56370 _ k) ?_
  refine ost (mkF m 22 (Las5522_0 b25766 b53326) [(.int (0 : Int32)), (.ref b27824), (.long (XT.ushrL ((q2 &&& ((2147483647 : Int64) ^^^ (-1 : Int64))) ||| ((v0_258 q1) <<< ((0 : Int32).toInt64 &&& 63))) (0 : Int32)))]) X56370 (fun t k => XS.iloadN X56370.here hx rfl (hb hby d22_21) rfl k) ?_
  refine ost (mkF m 23 (Las5522_0 b25766 b53326) [(.long (2147483647 : Int64)), (.long (XT.ushrL ((q2 &&& ((2147483647 : Int64) ^^^ (-1 : Int64))) ||| ((v0_258 q1) <<< ((0 : Int32).toInt64 &&& 63))) (0 : Int32)))]) X56370 (fun t k => own_ldJ X56370 hx hZ e56370 A_b27824 (by decide) rfl (g := (mkF m 22 (Las5522_0 b25766 b53326) [(.int (0 : Int32)), (.ref b27824), (.long (XT.ushrL ((q2 &&& ((2147483647 : Int64) ^^^ (-1 : Int64))) ||| ((v0_258 q1) <<< ((0 : Int32).toInt64 &&& 63))) (0 : Int32)))])) rfl rfl (hb hby d22_22) _ k) ?_
  refine ost (mkF m 24 (Las5522_0 b25766 b53326) [(.long ((XT.ushrL ((q2 &&& ((2147483647 : Int64) ^^^ (-1 : Int64))) ||| ((v0_258 q1) <<< ((0 : Int32).toInt64 &&& 63))) (0 : Int32)) &&& (2147483647 : Int64)))]) X56370 (fun t k => XT.land X56370.here hx rfl (hb hby d22_23) rfl k) ?_
  refine ost (mkF m 25 (Las5522_0 b25766 b53326) [(.int (((XT.ushrL ((q2 &&& ((2147483647 : Int64) ^^^ (-1 : Int64))) ||| ((v0_258 q1) <<< ((0 : Int32).toInt64 &&& 63))) (0 : Int32)) &&& (2147483647 : Int64)).toInt32))]) X56370 (fun t k => XT.l2i X56370.here hx rfl (hb hby d22_24) rfl k) ?_
  refine OwnFin.retInt X56370 (hb hby d22_25) (by decide) (by decide) ?_
  rw [e56370]
  exact ⟨rfl, N0, rfl⟩)
def Q21s54 (Z : State) (q2 : Int64) (q3 : Int64) (q1 : Int64) (b25766 : Addr) (b27787 : Addr) (b27802 : Addr) (b27824 : Addr) (b53326 : Addr) (h0 : Heap) (n0 : Nat) : Option Value → Heap → List Loc → Prop := fun v h L => v = some (.int (((XT.ushrL ((q2 &&& ((2147483647 : Int64) ^^^ (-1 : Int64))) ||| ((v0_258 q1) <<< ((0 : Int32).toInt64 &&& 63))) (0 : Int32)) &&& (2147483647 : Int64)).toInt32)) ∧ Fr n0 L ∧ h = h0
set_option maxRecDepth 65536 in
set_option maxHeartbeats 40000000 in
theorem rm21s54 (l : Launch) (Z : State) (a0 : Array Value) (hw : ∀ d ∈ tables_1, d.before a0 Z = true) (ws : List Jvm.Cond) (q2 : Int64) (q3 : Int64) (q1 : Int64) (b25766 : Addr) (b27787 : Addr) (b27802 : Addr) (b27824 : Addr) (b53326 : Addr) (h0 : Heap) (n0 : Nat) (Z0 : n0 ≤ h0.size) (E_b25766 : Exa Z h0 b25766 "com/example/ken2/ken2/StateLayout") (F_m_word_b25766 : Fld Z h0 b25766 "com/example/ken2/ken2/StateLayout" "m_word" "[I" (.ref b27787)) (F_m_shift_b25766 : Fld Z h0 b25766 "com/example/ken2/ken2/StateLayout" "m_shift" "[I" (.ref b27802)) (F_m_mask_b25766 : Fld Z h0 b25766 "com/example/ken2/ken2/StateLayout" "m_mask" "[J" (.ref b27824)) (A_b27787 : Ary Z h0 b27787 .int 5 (fun i => .int ((Gs2612_107bbbb) i))) (A_b27802 : Ary Z h0 b27802 .int 5 (fun i => .int ((Gs2612_115bbb) i))) (A_b27824 : Ary Z h0 b27824 .long 5 (fun i => .long ((Gs2612_128bbbb) i))) (A_b53326 : Ary Z h0 b53326 .long 2 (fun i => .long ((Gs5320_42 q2 q3 q1) i))) :
    MetFree l Y22 (head1 (Jvm.Cond.code Y22 prog_112_method_5_code 3 (some .int) :: ws) ({ frames := 1, cells := 0, slots := 0, locals := 15 } : Room)) (fun a U => a = #[(.ref b25766), (.ref b53326), (.int (0 : Int32))] ∧ Z.Warmed39 U.vm ∧ U.heap = h0) (fun _ _ _ _ _ => True) (fun _ U o U' => ∃ v L, o = .returned v ∧ (Q21s54 Z q2 q3 q1 b25766 b27787 b27802 b27824 b53326 h0 n0) v U'.heap L ∧ FrameEnd U o U' L ({ frames := 1, cells := 0, slots := 0, locals := 15 } : Room).cells ({ frames := 1, cells := 0, slots := 0, locals := 15 } : Room).slots) :=
  own_met (ret := (some .int)) (Q := (Q21s54 Z q2 q3 q1 b25766 b27787 b27802 b27824 b53326 h0 n0)) (plainFor_of_name pn_21) (fun m => ef_21 m b25766 b53326 (0 : Int32)) (fun p e s m below meth c T0 X0 hx hby hml hown hnm hZ e0 => by
  have N0 := Fr.nil n0
  refine ost (mkF m 1 #[.val (.ref b25766), .val (.ref b53326), .val (.int (0 : Int32))] [(.ref b25766)]) X0 (fun t k => XS.aloadN X0.here hx rfl (hb hby d21_0) rfl rfl k) ?_
  refine ost (mkF m 2 #[.val (.ref b25766), .val (.ref b53326), .val (.int (0 : Int32))] [(.ref b53326), (.ref b25766)]) X0 (fun t k => XS.aloadN X0.here hx rfl (hb hby d21_1) rfl rfl k) ?_
  refine ost (mkF m 3 #[.val (.ref b25766), .val (.ref b53326), .val (.int (0 : Int32))] [(.int (0 : Int32)), (.ref b53326), (.ref b25766)]) X0 (fun t k => XS.iconst X0.here hx rfl (hb hby d21_2) k) ?_
  refine ost (mkF m 4 #[.val (.ref b25766), .val (.ref b53326), .val (.int (0 : Int32))] [(.int (0 : Int32)), (.int (0 : Int32)), (.ref b53326), (.ref b25766)]) X0 (fun t k => XS.iloadN X0.here hx rfl (hb hby d21_3) rfl k) ?_
  obtain ⟨_, T55367, L55367, X55367, ⟨rfl, N55367q, u56381⟩, st55367⟩ := own_callP X0 hx hZ (y := Y21) (W := 0) (a := b25766) (argsL := [(.ref b53326), (.int (0 : Int32)), (.int (0 : Int32))]) (rest := []) hown (hw _ (wm 166 rfl)) (hw _ (wm 157 rfl)) rfl (hw _ (wm 167 rfl)) (hw _ (wm 168 rfl)) (hw _ (wm 96 rfl)) (hw _ (wm 169 rfl)) (by decide) E_b25766 (rm22s55 l Z a0 hw [] q2 q3 q1 b25766 b27787 b27802 b27824 b53326 h0 n0 Z0 F_m_word_b25766 F_m_shift_b25766 F_m_mask_b25766 A_b27787 A_b27802 A_b27824 A_b53326) (by decide) (by decide) (by decide) (by decide) e0 (g := (mkF m 4 #[.val (.ref b25766), .val (.ref b53326), .val (.int (0 : Int32))] [(.int (0 : Int32)), (.int (0 : Int32)), (.ref b53326), (.ref b25766)])) rfl (by rw [hml]; rfl) pd_13 rfl rfl (by show 2 * 0 + _ ≤ _; exact Nat.le_of_eq rfl) (hb hby d21_4)
  have N55367 := Fr.app N0 N55367q
  refine ost (mkF m 7 #[.val (.ref b25766), .val (.ref b53326), .val (.int (0 : Int32))] [(.int (((XT.ushrL ((q2 &&& ((2147483647 : Int64) ^^^ (-1 : Int64))) ||| ((v0_258 q1) <<< ((0 : Int32).toInt64 &&& 63))) (0 : Int32)) &&& (2147483647 : Int64)).toInt32))]) X55367 (fun t k => st55367 _ k) ?_
  refine OwnFin.retInt X55367 (hb hby d21_7) (by decide) (by decide) ?_
  rw [u56381]
  exact ⟨rfl, N55367, rfl⟩)
def Q20s53 (Z : State) (q1 : Int64) (q2 : Int64) (q3 : Int64) (b25766 : Addr) (b27787 : Addr) (b27802 : Addr) (b27824 : Addr) (b53326 : Addr) (h0 : Heap) (n0 : Nat) : Option Value → Heap → List Loc → Prop := fun v h L => v = none ∧ Fr n0 L ∧ Keep h0 h [b53326] ∧ Ary Z h b53326 .long 2 (fun i => .long ((Gs5320_42 q2 q3 q1) i))
abbrev Las5320_0 (b25766 : Addr) (b53326 : Addr) (q1 : Int64) : Array Slot := #[.val (.ref b25766), .val (.ref b53326), .val (.int (0 : Int32)), .val (.long (v0_258 q1)), .second, .unset, .unset]
abbrev Las5320_1 (b25766 : Addr) (b53326 : Addr) (q1 : Int64) : Array Slot := #[.val (.ref b25766), .val (.ref b53326), .val (.int (0 : Int32)), .val (.long (v0_258 q1)), .second, .val (.int (0 : Int32)), .unset]
abbrev Las5320_2 (b25766 : Addr) (b53326 : Addr) (q1 : Int64) : Array Slot := #[.val (.ref b25766), .val (.ref b53326), .val (.int (0 : Int32)), .val (.long (v0_258 q1)), .second, .val (.int (0 : Int32)), .val (.int (0 : Int32))]
set_option maxRecDepth 65536 in
set_option maxHeartbeats 40000000 in
theorem rm20s53 (l : Launch) (Z : State) (a0 : Array Value) (hw : ∀ d ∈ tables_1, d.before a0 Z = true) (ws : List Jvm.Cond) (q1 : Int64) (q2 : Int64) (q3 : Int64) (b25766 : Addr) (b27787 : Addr) (b27802 : Addr) (b27824 : Addr) (b53326 : Addr) (h0 : Heap) (n0 : Nat) (Z0 : n0 ≤ h0.size) (F_m_word_b25766 : Fld Z h0 b25766 "com/example/ken2/ken2/StateLayout" "m_word" "[I" (.ref b27787)) (F_m_shift_b25766 : Fld Z h0 b25766 "com/example/ken2/ken2/StateLayout" "m_shift" "[I" (.ref b27802)) (F_m_mask_b25766 : Fld Z h0 b25766 "com/example/ken2/ken2/StateLayout" "m_mask" "[J" (.ref b27824)) (A_b27787 : Ary Z h0 b27787 .int 5 (fun i => .int ((Gs2612_107bbbb) i))) (A_b27802 : Ary Z h0 b27802 .int 5 (fun i => .int ((Gs2612_115bbb) i))) (A_b27824 : Ary Z h0 b27824 .long 5 (fun i => .long ((Gs2612_128bbbb) i))) (A_b53326 : Ary Z h0 b53326 .long 2 (fun i => .long ((G0_275 q2 q3) i))) (g_b53326 : n0 ≤ b53326) :
    MetFree l Y20 (head1 (Jvm.Cond.code Y20 prog_112_method_9_code 7 none :: ws) ({ frames := 0, cells := 0, slots := 0, locals := 0 } : Room)) (fun a U => a = #[(.ref b25766), (.ref b53326), (.int (0 : Int32)), (.long (v0_258 q1))] ∧ Z.Warmed39 U.vm ∧ U.heap = h0) (fun _ _ _ _ _ => True) (fun _ U o U' => ∃ v L, o = .returned v ∧ (Q20s53 Z q1 q2 q3 b25766 b27787 b27802 b27824 b53326 h0 n0) v U'.heap L ∧ FrameEnd U o U' L ({ frames := 0, cells := 0, slots := 0, locals := 0 } : Room).cells ({ frames := 0, cells := 0, slots := 0, locals := 0 } : Room).slots) :=
  own_met (ret := none) (Q := (Q20s53 Z q1 q2 q3 b25766 b27787 b27802 b27824 b53326 h0 n0)) (plainFor_of_name pn_20) (fun m => ef_20 m b25766 b53326 (0 : Int32) (v0_258 q1)) (fun p e s m below meth c T0 X0 hx hby hml hown hnm hZ e0 => by
  have N0 := Fr.nil n0
  refine ost (mkF m 1 (Las5320_0 b25766 b53326 q1) [(.ref b25766)]) X0 (fun t k => XS.aloadN X0.here hx rfl (hb hby d20_0) rfl rfl k) ?_
  obtain ⟨T54337, X54337, e54337, st54337⟩ := getF X0 hx hZ hown (host := "") (Or.inl (hw _ (wm 111 rfl))) Via.refl e0 F_m_word_b25766 (g := (mkF m 1 (Las5320_0 b25766 b53326 q1) [(.ref b25766)])) rfl rfl (hb hby d20_1)
  refine ost (mkF m 4 (Las5320_0 b25766 b53326 q1) [(.ref b27787)]) X54337 (fun t k => st54337 _ k) ?_
  refine ost (mkF m 5 (Las5320_0 b25766 b53326 q1) [(.int (0 : Int32)), (.ref b27787)]) X54337 (fun t k => XS.iloadN X54337.here hx rfl (hb hby d20_4) rfl k) ?_
  refine ost (mkF m 6 (Las5320_0 b25766 b53326 q1) [(.int (0 : Int32))]) X54337 (fun t k => own_ldI X54337 hx hZ e54337 A_b27787 (by decide) rfl (g := (mkF m 5 (Las5320_0 b25766 b53326 q1) [(.int (0 : Int32)), (.ref b27787)])) rfl rfl (hb hby d20_5) _ k) ?_
  refine ost (mkF m 8 (Las5320_1 b25766 b53326 q1) []) X54337 (fun t k => XS.istore X54337.here hx rfl (hb hby d20_6) rfl (l' := (Las5320_1 b25766 b53326 q1)) rfl k) ?_
  refine ost (mkF m 9 (Las5320_1 b25766 b53326 q1) [(.ref b25766)]) X54337 (fun t k => XS.aloadN X54337.here hx rfl (hb hby d20_8) rfl rfl k) ?_
  obtain ⟨T54338, X54338, e54338, st54338⟩ := getF X54337 hx hZ hown (host := "") (Or.inl (hw _ (wm 113 rfl))) Via.refl e54337 F_m_shift_b25766 (g := (mkF m 9 (Las5320_1 b25766 b53326 q1) [(.ref b25766)])) rfl rfl (hb hby d20_9)
  refine ost (mkF m 12 (Las5320_1 b25766 b53326 q1) [(.ref b27802)]) X54338 (fun t k => st54338 _ k) ?_
  refine ost (mkF m 13 (Las5320_1 b25766 b53326 q1) [(.int (0 : Int32)), (.ref b27802)]) X54338 (fun t k => XS.iloadN X54338.here hx rfl (hb hby d20_12) rfl k) ?_
  refine ost (mkF m 14 (Las5320_1 b25766 b53326 q1) [(.int (0 : Int32))]) X54338 (fun t k => own_ldI X54338 hx hZ e54338 A_b27802 (by decide) rfl (g := (mkF m 13 (Las5320_1 b25766 b53326 q1) [(.int (0 : Int32)), (.ref b27802)])) rfl rfl (hb hby d20_13) _ k) ?_
  refine ost (mkF m 16 (Las5320_2 b25766 b53326 q1) []) X54338 (fun t k => XS.istore X54338.here hx rfl (hb hby d20_14) rfl (l' := (Las5320_2 b25766 b53326 q1)) rfl k) ?_
  refine ost (mkF m 17 (Las5320_2 b25766 b53326 q1) [(.ref b53326)]) X54338 (fun t k => XS.aloadN X54338.here hx rfl (hb hby d20_16) rfl rfl k) ?_
  refine ost (mkF m 19 (Las5320_2 b25766 b53326 q1) [(.int (0 : Int32)), (.ref b53326)]) X54338 (fun t k => XS.iload X54338.here hx rfl (hb hby d20_17) rfl k) ?_
  refine ost (mkF m 20 (Las5320_2 b25766 b53326 q1) [(.ref b53326), (.int (0 : Int32)), (.ref b53326)]) X54338 (fun t k => XS.aloadN X54338.here hx rfl (hb hby d20_19) rfl rfl k) ?_
  refine ost (mkF m 22 (Las5320_2 b25766 b53326 q1) [(.int (0 : Int32)), (.ref b53326), (.int (0 : Int32)), (.ref b53326)]) X54338 (fun t k => XS.iload X54338.here hx rfl (hb hby d20_20) rfl k) ?_
  refine ost (mkF m 23 (Las5320_2 b25766 b53326 q1) [(.long q2), (.int (0 : Int32)), (.ref b53326)]) X54338 (fun t k => own_ldJ X54338 hx hZ e54338 A_b53326 (by decide) rfl (g := (mkF m 22 (Las5320_2 b25766 b53326 q1) [(.int (0 : Int32)), (.ref b53326), (.int (0 : Int32)), (.ref b53326)])) rfl rfl (hb hby d20_22) _ k) ?_
  refine ost (mkF m 24 (Las5320_2 b25766 b53326 q1) [(.ref b25766), (.long q2), (.int (0 : Int32)), (.ref b53326)]) X54338 (fun t k => XS.aloadN X54338.here hx rfl (hb hby d20_23) rfl rfl k) ?_
  obtain ⟨T54339, X54339, e54339, st54339⟩ := getF X54338 hx hZ hown (host := "") (Or.inl (hw _ (wm 116 rfl))) Via.refl e54338 F_m_mask_b25766 (g := (mkF m 24 (Las5320_2 b25766 b53326 q1) [(.ref b25766), (.long q2), (.int (0 : Int32)), (.ref b53326)])) rfl rfl (hb hby d20_24)
  refine ost (mkF m 27 (Las5320_2 b25766 b53326 q1) [(.ref b27824), (.long q2), (.int (0 : Int32)), (.ref b53326)]) X54339 (fun t k => st54339 _ k) ?_
  refine ost (mkF m 28 (Las5320_2 b25766 b53326 q1) [(.int (0 : Int32)), (.ref b27824), (.long q2), (.int (0 : Int32)), (.ref b53326)]) X54339 (fun t k => XS.iloadN X54339.here hx rfl (hb hby d20_27) rfl k) ?_
  refine ost (mkF m 29 (Las5320_2 b25766 b53326 q1) [(.long (2147483647 : Int64)), (.long q2), (.int (0 : Int32)), (.ref b53326)]) X54339 (fun t k => own_ldJ X54339 hx hZ e54339 A_b27824 (by decide) rfl (g := (mkF m 28 (Las5320_2 b25766 b53326 q1) [(.int (0 : Int32)), (.ref b27824), (.long q2), (.int (0 : Int32)), (.ref b53326)])) rfl rfl (hb hby d20_28) _ k) ?_
  refine ost (mkF m 31 (Las5320_2 b25766 b53326 q1) [(.int (0 : Int32)), (.long (2147483647 : Int64)), (.long q2), (.int (0 : Int32)), (.ref b53326)]) X54339 (fun t k => XS.iload X54339.here hx rfl (hb hby d20_29) rfl k) ?_
  refine ost (mkF m 32 (Las5320_2 b25766 b53326 q1) [(.long (2147483647 : Int64)), (.long q2), (.int (0 : Int32)), (.ref b53326)]) X54339 (fun t k => XT.lshl X54339.here hx rfl (hb hby d20_31) rfl k) ?_
  refine ost (mkF m 35 (Las5320_2 b25766 b53326 q1) [(.long (-1 : Int64)), (.long (2147483647 : Int64)), (.long q2), (.int (0 : Int32)), (.ref b53326)]) X54339 (fun t k => X54339.ldc2Long hx hown (mvT hZ (hw _ (wm 159 rfl))) (g := (mkF m 32 (Las5320_2 b25766 b53326 q1) [(.long (2147483647 : Int64)), (.long q2), (.int (0 : Int32)), (.ref b53326)])) rfl (hb hby d20_32) _ k) ?_
  refine ost (mkF m 36 (Las5320_2 b25766 b53326 q1) [(.long ((2147483647 : Int64) ^^^ (-1 : Int64))), (.long q2), (.int (0 : Int32)), (.ref b53326)]) X54339 (fun t k => XT.lxor X54339.here hx rfl (hb hby d20_35) rfl k) ?_
  refine ost (mkF m 37 (Las5320_2 b25766 b53326 q1) [(.long (q2 &&& ((2147483647 : Int64) ^^^ (-1 : Int64)))), (.int (0 : Int32)), (.ref b53326)]) X54339 (fun t k => XT.land X54339.here hx rfl (hb hby d20_36) rfl k) ?_
  refine ost (mkF m 38 (Las5320_2 b25766 b53326 q1) [(.long (v0_258 q1)), (.long (q2 &&& ((2147483647 : Int64) ^^^ (-1 : Int64)))), (.int (0 : Int32)), (.ref b53326)]) X54339 (fun t k => XT.lloadN X54339.here hx rfl (hb hby d20_37) rfl k) ?_
  refine ost (mkF m 40 (Las5320_2 b25766 b53326 q1) [(.int (0 : Int32)), (.long (v0_258 q1)), (.long (q2 &&& ((2147483647 : Int64) ^^^ (-1 : Int64)))), (.int (0 : Int32)), (.ref b53326)]) X54339 (fun t k => XS.iload X54339.here hx rfl (hb hby d20_38) rfl k) ?_
  refine ost (mkF m 41 (Las5320_2 b25766 b53326 q1) [(.long ((v0_258 q1) <<< ((0 : Int32).toInt64 &&& 63))), (.long (q2 &&& ((2147483647 : Int64) ^^^ (-1 : Int64)))), (.int (0 : Int32)), (.ref b53326)]) X54339 (fun t k => XT.lshl X54339.here hx rfl (hb hby d20_40) rfl k) ?_
  refine ost (mkF m 42 (Las5320_2 b25766 b53326 q1) [(.long ((q2 &&& ((2147483647 : Int64) ^^^ (-1 : Int64))) ||| ((v0_258 q1) <<< ((0 : Int32).toInt64 &&& 63)))), (.int (0 : Int32)), (.ref b53326)]) X54339 (fun t k => XT.lor X54339.here hx rfl (hb hby d20_41) rfl k) ?_
  obtain ⟨T54340, h54340, L54340, X54340, e54340, N54340, K54340, A54340, st54340⟩ := own_stJ X54339 hx hZ e54339 N0 (G := (G0_275 q2 q3)) A_b53326 g_b53326 (j := (0 : Int32)) (x := ((q2 &&& ((2147483647 : Int64) ^^^ (-1 : Int64))) ||| ((v0_258 q1) <<< ((0 : Int32).toInt64 &&& 63)))) (by decide) (g := (mkF m 42 (Las5320_2 b25766 b53326 q1) [(.long ((q2 &&& ((2147483647 : Int64) ^^^ (-1 : Int64))) ||| ((v0_258 q1) <<< ((0 : Int32).toInt64 &&& 63)))), (.int (0 : Int32)), (.ref b53326)])) rfl rfl (hb hby d20_42)
  have B54340 : Ary Z h54340 b53326 .long 2 (fun i => .long ((Gs5320_42 q2 q3 q1) i)) := A54340
  have Z54340 := Nat.le_trans Z0 K54340.1
  have S54340 := Nat.le_trans (Nat.le_refl h0.size) K54340.1
  refine ost (mkF m 43 (Las5320_2 b25766 b53326 q1) []) X54340 (fun t k => st54340 _ k) ?_
  refine OwnFin.retVoid X54340 (hb hby d20_43) (by decide) (by decide) ?_
  rw [e54340]
  exact ⟨rfl, N54340, (Keep.trans (Keep.refl h0 [b53326]) K54340 (allS (Or.inl (wm 0 rfl)) all0)), B54340⟩)
def Q18s52 (Z : State) (b21634 : Addr) (h0 : Heap) (n0 : Nat) : Option Value → Heap → List Loc → Prop := fun v h L => v = some (.int (32 : Int32)) ∧ Fr n0 L ∧ h = h0
set_option maxRecDepth 65536 in
set_option maxHeartbeats 40000000 in
theorem rm18s52 (l : Launch) (Z : State) (a0 : Array Value) (hw : ∀ d ∈ tables_1, d.before a0 Z = true) (ws : List Jvm.Cond) (b21634 : Addr) (h0 : Heap) (n0 : Nat) (Z0 : n0 ≤ h0.size) (F_size_b21634 : Fld Z h0 b21634 "com/example/ken2/ken2/InterpretedSystem$Variable" "size" "I" (.int (32 : Int32))) :
    MetFree l Y17 (head1 (Jvm.Cond.code Y17 prog_64_method_15_code 1 (some .int) :: ws) ({ frames := 0, cells := 0, slots := 0, locals := 0 } : Room)) (fun a U => a = #[(.ref b21634)] ∧ Z.Warmed39 U.vm ∧ U.heap = h0) (fun _ _ _ _ _ => True) (fun _ U o U' => ∃ v L, o = .returned v ∧ (Q18s52 Z b21634 h0 n0) v U'.heap L ∧ FrameEnd U o U' L ({ frames := 0, cells := 0, slots := 0, locals := 0 } : Room).cells ({ frames := 0, cells := 0, slots := 0, locals := 0 } : Room).slots) :=
  own_met (ret := (some .int)) (Q := (Q18s52 Z b21634 h0 n0)) (plainFor_of_name pn_18) (fun m => ef_18 m b21634) (fun p e s m below meth c T0 X0 hx hby hml hown hnm hZ e0 => by
  have N0 := Fr.nil n0
  refine ost (mkF m 1 #[.val (.ref b21634)] [(.ref b21634)]) X0 (fun t k => XS.aloadN X0.here hx rfl (hb hby d18_0) rfl rfl k) ?_
  obtain ⟨T53241, X53241, e53241, st53241⟩ := getF X0 hx hZ hown (host := "") (Or.inl (hw _ (wm 56 rfl))) Via.refl e0 F_size_b21634 (g := (mkF m 1 #[.val (.ref b21634)] [(.ref b21634)])) rfl rfl (hb hby d18_1)
  refine ost (mkF m 4 #[.val (.ref b21634)] [(.int (32 : Int32))]) X53241 (fun t k => st53241 _ k) ?_
  refine OwnFin.retInt X53241 (hb hby d18_4) (by decide) (by decide) ?_
  rw [e53241]
  exact ⟨rfl, N0, rfl⟩)
def Q17s51 (Z : State) (b1 : Addr) (b3058 : Addr) (b9144 : Addr) (b9244 : Addr) (b13373 : Addr) (b17503 : Addr) (b21634 : Addr) (h0 : Heap) (n0 : Nat) : Option Value → Heap → List Loc → Prop := fun v h L => v = some (.ref b21634) ∧ Fr n0 L ∧ h = h0
set_option maxRecDepth 65536 in
set_option maxHeartbeats 40000000 in
theorem rm17s51 (l : Launch) (Z : State) (a0 : Array Value) (hw : ∀ d ∈ tables_1, d.before a0 Z = true) (ws : List Jvm.Cond) (b1 : Addr) (b3058 : Addr) (b9144 : Addr) (b9244 : Addr) (b13373 : Addr) (b17503 : Addr) (b21634 : Addr) (h0 : Heap) (n0 : Nat) (Z0 : n0 ≤ h0.size) (F_elementData_b1 : Fld Z h0 b1 "java/util/ArrayList" "elementData" "[Ljava/lang/Object;" (.ref b9144)) (A_b9144 : AryR Z h0 b9144 "java/lang/Object" 10 (updN (updN (updN (updN (updN (fun _ => Value.null) ((0 : Int32)).toNatClampNeg (Value.ref b3058)) ((1 : Int32)).toNatClampNeg (Value.ref b9244)) ((2 : Int32)).toNatClampNeg (Value.ref b13373)) ((3 : Int32)).toNatClampNeg (Value.ref b17503)) ((4 : Int32)).toNatClampNeg (Value.ref b21634))) :
    MetFree l Y14 (head1 (Jvm.Cond.code Y14 jdk_38_method_18_code 2 (some (.object "java/lang/Object")) :: ws) ({ frames := 0, cells := 0, slots := 0, locals := 0 } : Room)) (fun a U => a = #[(.ref b1), (.int (4 : Int32))] ∧ Z.Warmed39 U.vm ∧ U.heap = h0) (fun _ _ _ _ _ => True) (fun _ U o U' => ∃ v L, o = .returned v ∧ (Q17s51 Z b1 b3058 b9144 b9244 b13373 b17503 b21634 h0 n0) v U'.heap L ∧ FrameEnd U o U' L ({ frames := 0, cells := 0, slots := 0, locals := 0 } : Room).cells ({ frames := 0, cells := 0, slots := 0, locals := 0 } : Room).slots) :=
  own_met (ret := (some (.object "java/lang/Object"))) (Q := (Q17s51 Z b1 b3058 b9144 b9244 b13373 b17503 b21634 h0 n0)) (plainFor_of_name pn_17) (fun m => ef_17 m b1 (4 : Int32)) (fun p e s m below meth c T0 X0 hx hby hml hown hnm hZ e0 => by
  have N0 := Fr.nil n0
  refine ost (mkF m 1 #[.val (.ref b1), .val (.int (4 : Int32))] [(.ref b1)]) X0 (fun t k => XS.aloadN X0.here hx rfl (hb hby d17_0) rfl rfl k) ?_
  obtain ⟨T52213, X52213, e52213, st52213⟩ := getF X0 hx hZ hown (host := "") (Or.inl (hw _ (wm 24 rfl))) Via.refl e0 F_elementData_b1 (g := (mkF m 1 #[.val (.ref b1), .val (.int (4 : Int32))] [(.ref b1)])) rfl rfl (hb hby d17_1)
  refine ost (mkF m 4 #[.val (.ref b1), .val (.int (4 : Int32))] [(.ref b9144)]) X52213 (fun t k => st52213 _ k) ?_
  refine ost (mkF m 5 #[.val (.ref b1), .val (.int (4 : Int32))] [(.int (4 : Int32)), (.ref b9144)]) X52213 (fun t k => XS.iloadN X52213.here hx rfl (hb hby d17_4) rfl k) ?_
  refine ost (mkF m 6 #[.val (.ref b1), .val (.int (4 : Int32))] [(.ref b21634)]) X52213 (fun t k => own_ldA X52213 hx hZ e52213 (A_b9144).1 rfl (by decide) rfl (g := (mkF m 5 #[.val (.ref b1), .val (.int (4 : Int32))] [(.int (4 : Int32)), (.ref b9144)])) rfl rfl (hb hby d17_5) _ k) ?_
  refine OwnFin.retRef X52213 rfl rfl rfl (hb hby d17_6) (by decide) (by decide) ?_
  rw [e52213]
  exact ⟨rfl, N0, rfl⟩)
def Q16s50 (Z : State) (h0 : Heap) (n0 : Nat) : Option Value → Heap → List Loc → Prop := fun v h L => v = some (.int (4 : Int32)) ∧ Fr n0 L ∧ h = h0
set_option maxRecDepth 65536 in
set_option maxHeartbeats 40000000 in
theorem rm16s50 (l : Launch) (Z : State) (a0 : Array Value) (hw : ∀ d ∈ tables_1, d.before a0 Z = true) (ws : List Jvm.Cond) (h0 : Heap) (n0 : Nat) (Z0 : n0 ≤ h0.size) :
    MetFree l Y12 (head1 (Jvm.Cond.code Y12 jdk_41_method_11_code 3 (some .int) :: ws) ({ frames := 0, cells := 0, slots := 0, locals := 0 } : Room)) (fun a U => a = #[(.int (4 : Int32)), (.int (5 : Int32)), .null] ∧ Z.Warmed39 U.vm ∧ U.heap = h0) (fun _ _ _ _ _ => True) (fun _ U o U' => ∃ v L, o = .returned v ∧ (Q16s50 Z h0 n0) v U'.heap L ∧ FrameEnd U o U' L ({ frames := 0, cells := 0, slots := 0, locals := 0 } : Room).cells ({ frames := 0, cells := 0, slots := 0, locals := 0 } : Room).slots) :=
  own_met (ret := (some .int)) (Q := (Q16s50 Z h0 n0)) (plainFor_of_name pn_16) (fun m => ef_16n2 m (4 : Int32) (5 : Int32)) (fun p e s m below meth c T0 X0 hx hby hml hown hnm hZ e0 => by
  have N0 := Fr.nil n0
  refine ost (mkF m 1 #[.val (.int (4 : Int32)), .val (.int (5 : Int32)), .val .null] [(.int (4 : Int32))]) X0 (fun t k => XS.iloadN X0.here hx rfl (hb hby d16_0) rfl k) ?_
  refine ost (mkF m 4 #[.val (.int (4 : Int32)), .val (.int (5 : Int32)), .val .null] []) X0 (fun t k => XS.ifNo X0.here hx rfl (hb hby d16_1) rfl ((if0 _ _).trans (flt (show ¬ ((4 : Int32) < (0 : Int32)) by first | decide | exact Int32.lt_irrefl _ | exact Int64.lt_irrefl _)).1) k) ?_
  refine ost (mkF m 5 #[.val (.int (4 : Int32)), .val (.int (5 : Int32)), .val .null] [(.int (4 : Int32))]) X0 (fun t k => XS.iloadN X0.here hx rfl (hb hby d16_4) rfl k) ?_
  refine ost (mkF m 6 #[.val (.int (4 : Int32)), .val (.int (5 : Int32)), .val .null] [(.int (5 : Int32)), (.int (4 : Int32))]) X0 (fun t k => XS.iloadN X0.here hx rfl (hb hby d16_5) rfl k) ?_
  refine ost (mkF m 16 #[.val (.int (4 : Int32)), .val (.int (5 : Int32)), .val .null] []) X0 (fun t k => XS.icmpYes X0.here hx rfl (pc0 := 6) (pc' := 16) rfl (hb hby d16_6) rfl (tlt (show (4 : Int32) < (5 : Int32) by first | rfl | decide)).1 (by decide) (by decide) k) ?_
  refine ost (mkF m 17 #[.val (.int (4 : Int32)), .val (.int (5 : Int32)), .val .null] [(.int (4 : Int32))]) X0 (fun t k => XS.iloadN X0.here hx rfl (hb hby d16_16) rfl k) ?_
  refine OwnFin.retInt X0 (hb hby d16_17) (by decide) (by decide) ?_
  rw [e0]
  exact ⟨rfl, N0, rfl⟩)
def Q15s49 (Z : State) (h0 : Heap) (n0 : Nat) : Option Value → Heap → List Loc → Prop := fun v h L => v = some (.int (4 : Int32)) ∧ Fr n0 L ∧ h = h0
set_option maxRecDepth 65536 in
set_option maxHeartbeats 40000000 in
theorem rm15s49 (l : Launch) (Z : State) (a0 : Array Value) (hw : ∀ d ∈ tables_1, d.before a0 Z = true) (ws : List Jvm.Cond) (h0 : Heap) (n0 : Nat) (Z0 : n0 ≤ h0.size) :
    MetFree l Y13 (head1 (Jvm.Cond.code Y13 jdk_31_method_17_code 2 (some .int) :: ws) ({ frames := 1, cells := 0, slots := 0, locals := 14 } : Room)) (fun a U => a = #[(.int (4 : Int32)), (.int (5 : Int32))] ∧ Z.Warmed39 U.vm ∧ U.heap = h0) (fun _ _ _ _ _ => True) (fun _ U o U' => ∃ v L, o = .returned v ∧ (Q15s49 Z h0 n0) v U'.heap L ∧ FrameEnd U o U' L ({ frames := 1, cells := 0, slots := 0, locals := 14 } : Room).cells ({ frames := 1, cells := 0, slots := 0, locals := 14 } : Room).slots) :=
  own_met (ret := (some .int)) (Q := (Q15s49 Z h0 n0)) (plainFor_of_name pn_15) (fun m => ef_15 m (4 : Int32) (5 : Int32)) (fun p e s m below meth c T0 X0 hx hby hml hown hnm hZ e0 => by
  have N0 := Fr.nil n0
  refine ost (mkF m 1 #[.val (.int (4 : Int32)), .val (.int (5 : Int32))] [(.int (4 : Int32))]) X0 (fun t k => XS.iloadN X0.here hx rfl (hb hby d15_0) rfl k) ?_
  refine ost (mkF m 2 #[.val (.int (4 : Int32)), .val (.int (5 : Int32))] [(.int (5 : Int32)), (.int (4 : Int32))]) X0 (fun t k => XS.iloadN X0.here hx rfl (hb hby d15_1) rfl k) ?_
  refine ost (mkF m 3 #[.val (.int (4 : Int32)), .val (.int (5 : Int32))] [.null, (.int (5 : Int32)), (.int (4 : Int32))]) X0 (fun t k => XS.aconstNull X0.here hx rfl (hb hby d15_2) k) ?_
  obtain ⟨_, T50189, L50189, X50189, ⟨rfl, N50189q, u51200⟩, st50189⟩ := own_callS X0 hx hZ (y := Y12) (W := 0) (argsL := [(.int (4 : Int32)), (.int (5 : Int32)), .null]) (rest := []) hown (hw _ (wm 130 rfl)) (hw _ (wm 131 rfl)) (hw _ (wm 132 rfl)) (hw _ (wm 133 rfl)) (by decide) (rm16s50 l Z a0 hw []  h0 n0 Z0 ) (by decide) (by decide) (by decide) (by decide) e0 (g := (mkF m 3 #[.val (.int (4 : Int32)), .val (.int (5 : Int32))] [.null, (.int (5 : Int32)), (.int (4 : Int32))])) rfl (by rw [hml]; rfl) pd_8 rfl rfl (by show 2 * 0 + _ ≤ _; exact Nat.le_of_eq rfl) (hb hby d15_3)
  have N50189 := Fr.app N0 N50189q
  refine ost (mkF m 6 #[.val (.int (4 : Int32)), .val (.int (5 : Int32))] [(.int (4 : Int32))]) X50189 (fun t k => st50189 _ k) ?_
  refine OwnFin.retInt X50189 (hb hby d15_6) (by decide) (by decide) ?_
  rw [u51200]
  exact ⟨rfl, N50189, rfl⟩)
def Q14s48 (Z : State) (b1 : Addr) (b3058 : Addr) (b9144 : Addr) (b9244 : Addr) (b13373 : Addr) (b17503 : Addr) (b21634 : Addr) (h0 : Heap) (n0 : Nat) : Option Value → Heap → List Loc → Prop := fun v h L => v = some (.ref b21634) ∧ Fr n0 L ∧ h = h0
set_option maxRecDepth 65536 in
set_option maxHeartbeats 40000000 in
theorem rm14s48 (l : Launch) (Z : State) (a0 : Array Value) (hw : ∀ d ∈ tables_1, d.before a0 Z = true) (ws : List Jvm.Cond) (b1 : Addr) (b3058 : Addr) (b9144 : Addr) (b9244 : Addr) (b13373 : Addr) (b17503 : Addr) (b21634 : Addr) (h0 : Heap) (n0 : Nat) (Z0 : n0 ≤ h0.size) (E_b1 : Exa Z h0 b1 "java/util/ArrayList") (F_elementData_b1 : Fld Z h0 b1 "java/util/ArrayList" "elementData" "[Ljava/lang/Object;" (.ref b9144)) (F_size_b1 : Fld Z h0 b1 "java/util/ArrayList" "size" "I" (.int (5 : Int32))) (A_b9144 : AryR Z h0 b9144 "java/lang/Object" 10 (updN (updN (updN (updN (updN (fun _ => Value.null) ((0 : Int32)).toNatClampNeg (Value.ref b3058)) ((1 : Int32)).toNatClampNeg (Value.ref b9244)) ((2 : Int32)).toNatClampNeg (Value.ref b13373)) ((3 : Int32)).toNatClampNeg (Value.ref b17503)) ((4 : Int32)).toNatClampNeg (Value.ref b21634))) :
    MetFree l Y16 (head1 (Jvm.Cond.code Y16 jdk_38_method_20_code 2 (some (.object "java/lang/Object")) :: ws) ({ frames := 2, cells := 0, slots := 0, locals := 27 } : Room)) (fun a U => a = #[(.ref b1), (.int (4 : Int32))] ∧ Z.Warmed39 U.vm ∧ U.heap = h0) (fun _ _ _ _ _ => True) (fun _ U o U' => ∃ v L, o = .returned v ∧ (Q14s48 Z b1 b3058 b9144 b9244 b13373 b17503 b21634 h0 n0) v U'.heap L ∧ FrameEnd U o U' L ({ frames := 2, cells := 0, slots := 0, locals := 27 } : Room).cells ({ frames := 2, cells := 0, slots := 0, locals := 27 } : Room).slots) :=
  own_met (ret := (some (.object "java/lang/Object"))) (Q := (Q14s48 Z b1 b3058 b9144 b9244 b13373 b17503 b21634 h0 n0)) (plainFor_of_name pn_14) (fun m => ef_14 m b1 (4 : Int32)) (fun p e s m below meth c T0 X0 hx hby hml hown hnm hZ e0 => by
  have N0 := Fr.nil n0
  refine ost (mkF m 1 #[.val (.ref b1), .val (.int (4 : Int32))] [(.int (4 : Int32))]) X0 (fun t k => XS.iloadN X0.here hx rfl (hb hby d14_0) rfl k) ?_
  refine ost (mkF m 2 #[.val (.ref b1), .val (.int (4 : Int32))] [(.ref b1), (.int (4 : Int32))]) X0 (fun t k => XS.aloadN X0.here hx rfl (hb hby d14_1) rfl rfl k) ?_
  obtain ⟨T49187, X49187, e49187, st49187⟩ := getF X0 hx hZ hown (host := "") (Or.inl (hw _ (wm 65 rfl))) Via.refl e0 F_size_b1 (g := (mkF m 2 #[.val (.ref b1), .val (.int (4 : Int32))] [(.ref b1), (.int (4 : Int32))])) rfl rfl (hb hby d14_2)
  refine ost (mkF m 5 #[.val (.ref b1), .val (.int (4 : Int32))] [(.int (5 : Int32)), (.int (4 : Int32))]) X49187 (fun t k => st49187 _ k) ?_
  obtain ⟨_, T49188, L49188, X49188, ⟨rfl, N49188q, u51211⟩, st49188⟩ := own_callS X49187 hx hZ (y := Y13) (W := 0) (argsL := [(.int (4 : Int32)), (.int (5 : Int32))]) (rest := []) hown (hw _ (wm 126 rfl)) (hw _ (wm 127 rfl)) (hw _ (wm 128 rfl)) (hw _ (wm 129 rfl)) (by decide) (rm15s49 l Z a0 hw []  h0 n0 Z0 ) (by decide) (by decide) (by decide) (by decide) e49187 (g := (mkF m 5 #[.val (.ref b1), .val (.int (4 : Int32))] [(.int (5 : Int32)), (.int (4 : Int32))])) rfl (by rw [hml]; rfl) pd_2 rfl rfl (by show 2 * 0 + _ ≤ _; exact Nat.le_of_eq rfl) (hb hby d14_5)
  have N49188 := Fr.app N0 N49188q
  refine ost (mkF m 8 #[.val (.ref b1), .val (.int (4 : Int32))] [(.int (4 : Int32))]) X49188 (fun t k => st49188 _ k) ?_
  refine ost (mkF m 9 #[.val (.ref b1), .val (.int (4 : Int32))] []) X49188 (fun t k => XT.pop X49188.here hx rfl (hb hby d14_8) rfl rfl k) ?_
  refine ost (mkF m 10 #[.val (.ref b1), .val (.int (4 : Int32))] [(.ref b1)]) X49188 (fun t k => XS.aloadN X49188.here hx rfl (hb hby d14_9) rfl rfl k) ?_
  refine ost (mkF m 11 #[.val (.ref b1), .val (.int (4 : Int32))] [(.int (4 : Int32)), (.ref b1)]) X49188 (fun t k => XS.iloadN X49188.here hx rfl (hb hby d14_10) rfl k) ?_
  obtain ⟨_, T51212, L51212, X51212, ⟨rfl, N51212q, u52224⟩, st51212⟩ := own_callV X49188 hx hZ (y := Y14) (W := 0) (a := b1) (argsL := [(.int (4 : Int32))]) (rest := []) hown (hw _ (wm 134 rfl)) (hw _ (wm 135 rfl)) (hw _ (wm 137 rfl)) (hw _ (wm 136 rfl)) (hw _ (wm 2 rfl)) (hw _ (wm 138 rfl)) (by decide) E_b1 (rm17s51 l Z a0 hw [] b1 b3058 b9144 b9244 b13373 b17503 b21634 h0 n0 Z0 F_elementData_b1 A_b9144) (by decide) (by decide) (by decide) (by decide) u51211 (g := (mkF m 11 #[.val (.ref b1), .val (.int (4 : Int32))] [(.int (4 : Int32)), (.ref b1)])) rfl (by rw [hml]; rfl) pd_9 rfl rfl (by show 2 * 0 + _ ≤ _; exact Nat.le_of_eq rfl) (hb hby d14_11)
  have N51212 := Fr.app N49188 N51212q
  refine ost (mkF m 14 #[.val (.ref b1), .val (.int (4 : Int32))] [(.ref b21634)]) X51212 (fun t k => st51212 _ k) ?_
  refine OwnFin.retRef X51212 rfl rfl rfl (hb hby d14_14) (by decide) (by decide) ?_
  rw [u52224]
  exact ⟨rfl, N51212, rfl⟩)
def Q18s47 (Z : State) (b17503 : Addr) (h0 : Heap) (n0 : Nat) : Option Value → Heap → List Loc → Prop := fun v h L => v = some (.int (1048576 : Int32)) ∧ Fr n0 L ∧ h = h0
set_option maxRecDepth 65536 in
set_option maxHeartbeats 40000000 in
theorem rm18s47 (l : Launch) (Z : State) (a0 : Array Value) (hw : ∀ d ∈ tables_1, d.before a0 Z = true) (ws : List Jvm.Cond) (b17503 : Addr) (h0 : Heap) (n0 : Nat) (Z0 : n0 ≤ h0.size) (F_size_b17503 : Fld Z h0 b17503 "com/example/ken2/ken2/InterpretedSystem$Variable" "size" "I" (.int (1048576 : Int32))) :
    MetFree l Y17 (head1 (Jvm.Cond.code Y17 prog_64_method_15_code 1 (some .int) :: ws) ({ frames := 0, cells := 0, slots := 0, locals := 0 } : Room)) (fun a U => a = #[(.ref b17503)] ∧ Z.Warmed39 U.vm ∧ U.heap = h0) (fun _ _ _ _ _ => True) (fun _ U o U' => ∃ v L, o = .returned v ∧ (Q18s47 Z b17503 h0 n0) v U'.heap L ∧ FrameEnd U o U' L ({ frames := 0, cells := 0, slots := 0, locals := 0 } : Room).cells ({ frames := 0, cells := 0, slots := 0, locals := 0 } : Room).slots) :=
  own_met (ret := (some .int)) (Q := (Q18s47 Z b17503 h0 n0)) (plainFor_of_name pn_18) (fun m => ef_18 m b17503) (fun p e s m below meth c T0 X0 hx hby hml hown hnm hZ e0 => by
  have N0 := Fr.nil n0
  refine ost (mkF m 1 #[.val (.ref b17503)] [(.ref b17503)]) X0 (fun t k => XS.aloadN X0.here hx rfl (hb hby d18_0) rfl rfl k) ?_
  obtain ⟨T48156, X48156, e48156, st48156⟩ := getF X0 hx hZ hown (host := "") (Or.inl (hw _ (wm 56 rfl))) Via.refl e0 F_size_b17503 (g := (mkF m 1 #[.val (.ref b17503)] [(.ref b17503)])) rfl rfl (hb hby d18_1)
  refine ost (mkF m 4 #[.val (.ref b17503)] [(.int (1048576 : Int32))]) X48156 (fun t k => st48156 _ k) ?_
  refine OwnFin.retInt X48156 (hb hby d18_4) (by decide) (by decide) ?_
  rw [e48156]
  exact ⟨rfl, N0, rfl⟩)
def Q17s46 (Z : State) (b1 : Addr) (b3058 : Addr) (b9144 : Addr) (b9244 : Addr) (b13373 : Addr) (b17503 : Addr) (b21634 : Addr) (h0 : Heap) (n0 : Nat) : Option Value → Heap → List Loc → Prop := fun v h L => v = some (.ref b17503) ∧ Fr n0 L ∧ h = h0
set_option maxRecDepth 65536 in
set_option maxHeartbeats 40000000 in
theorem rm17s46 (l : Launch) (Z : State) (a0 : Array Value) (hw : ∀ d ∈ tables_1, d.before a0 Z = true) (ws : List Jvm.Cond) (b1 : Addr) (b3058 : Addr) (b9144 : Addr) (b9244 : Addr) (b13373 : Addr) (b17503 : Addr) (b21634 : Addr) (h0 : Heap) (n0 : Nat) (Z0 : n0 ≤ h0.size) (F_elementData_b1 : Fld Z h0 b1 "java/util/ArrayList" "elementData" "[Ljava/lang/Object;" (.ref b9144)) (A_b9144 : AryR Z h0 b9144 "java/lang/Object" 10 (updN (updN (updN (updN (updN (fun _ => Value.null) ((0 : Int32)).toNatClampNeg (Value.ref b3058)) ((1 : Int32)).toNatClampNeg (Value.ref b9244)) ((2 : Int32)).toNatClampNeg (Value.ref b13373)) ((3 : Int32)).toNatClampNeg (Value.ref b17503)) ((4 : Int32)).toNatClampNeg (Value.ref b21634))) :
    MetFree l Y14 (head1 (Jvm.Cond.code Y14 jdk_38_method_18_code 2 (some (.object "java/lang/Object")) :: ws) ({ frames := 0, cells := 0, slots := 0, locals := 0 } : Room)) (fun a U => a = #[(.ref b1), (.int (3 : Int32))] ∧ Z.Warmed39 U.vm ∧ U.heap = h0) (fun _ _ _ _ _ => True) (fun _ U o U' => ∃ v L, o = .returned v ∧ (Q17s46 Z b1 b3058 b9144 b9244 b13373 b17503 b21634 h0 n0) v U'.heap L ∧ FrameEnd U o U' L ({ frames := 0, cells := 0, slots := 0, locals := 0 } : Room).cells ({ frames := 0, cells := 0, slots := 0, locals := 0 } : Room).slots) :=
  own_met (ret := (some (.object "java/lang/Object"))) (Q := (Q17s46 Z b1 b3058 b9144 b9244 b13373 b17503 b21634 h0 n0)) (plainFor_of_name pn_17) (fun m => ef_17 m b1 (3 : Int32)) (fun p e s m below meth c T0 X0 hx hby hml hown hnm hZ e0 => by
  have N0 := Fr.nil n0
  refine ost (mkF m 1 #[.val (.ref b1), .val (.int (3 : Int32))] [(.ref b1)]) X0 (fun t k => XS.aloadN X0.here hx rfl (hb hby d17_0) rfl rfl k) ?_
  obtain ⟨T47128, X47128, e47128, st47128⟩ := getF X0 hx hZ hown (host := "") (Or.inl (hw _ (wm 24 rfl))) Via.refl e0 F_elementData_b1 (g := (mkF m 1 #[.val (.ref b1), .val (.int (3 : Int32))] [(.ref b1)])) rfl rfl (hb hby d17_1)
  refine ost (mkF m 4 #[.val (.ref b1), .val (.int (3 : Int32))] [(.ref b9144)]) X47128 (fun t k => st47128 _ k) ?_
  refine ost (mkF m 5 #[.val (.ref b1), .val (.int (3 : Int32))] [(.int (3 : Int32)), (.ref b9144)]) X47128 (fun t k => XS.iloadN X47128.here hx rfl (hb hby d17_4) rfl k) ?_
  refine ost (mkF m 6 #[.val (.ref b1), .val (.int (3 : Int32))] [(.ref b17503)]) X47128 (fun t k => own_ldA X47128 hx hZ e47128 (A_b9144).1 rfl (by decide) rfl (g := (mkF m 5 #[.val (.ref b1), .val (.int (3 : Int32))] [(.int (3 : Int32)), (.ref b9144)])) rfl rfl (hb hby d17_5) _ k) ?_
  refine OwnFin.retRef X47128 rfl rfl rfl (hb hby d17_6) (by decide) (by decide) ?_
  rw [e47128]
  exact ⟨rfl, N0, rfl⟩)
def Q16s45 (Z : State) (h0 : Heap) (n0 : Nat) : Option Value → Heap → List Loc → Prop := fun v h L => v = some (.int (3 : Int32)) ∧ Fr n0 L ∧ h = h0
set_option maxRecDepth 65536 in
set_option maxHeartbeats 40000000 in
theorem rm16s45 (l : Launch) (Z : State) (a0 : Array Value) (hw : ∀ d ∈ tables_1, d.before a0 Z = true) (ws : List Jvm.Cond) (h0 : Heap) (n0 : Nat) (Z0 : n0 ≤ h0.size) :
    MetFree l Y12 (head1 (Jvm.Cond.code Y12 jdk_41_method_11_code 3 (some .int) :: ws) ({ frames := 0, cells := 0, slots := 0, locals := 0 } : Room)) (fun a U => a = #[(.int (3 : Int32)), (.int (5 : Int32)), .null] ∧ Z.Warmed39 U.vm ∧ U.heap = h0) (fun _ _ _ _ _ => True) (fun _ U o U' => ∃ v L, o = .returned v ∧ (Q16s45 Z h0 n0) v U'.heap L ∧ FrameEnd U o U' L ({ frames := 0, cells := 0, slots := 0, locals := 0 } : Room).cells ({ frames := 0, cells := 0, slots := 0, locals := 0 } : Room).slots) :=
  own_met (ret := (some .int)) (Q := (Q16s45 Z h0 n0)) (plainFor_of_name pn_16) (fun m => ef_16n2 m (3 : Int32) (5 : Int32)) (fun p e s m below meth c T0 X0 hx hby hml hown hnm hZ e0 => by
  have N0 := Fr.nil n0
  refine ost (mkF m 1 #[.val (.int (3 : Int32)), .val (.int (5 : Int32)), .val .null] [(.int (3 : Int32))]) X0 (fun t k => XS.iloadN X0.here hx rfl (hb hby d16_0) rfl k) ?_
  refine ost (mkF m 4 #[.val (.int (3 : Int32)), .val (.int (5 : Int32)), .val .null] []) X0 (fun t k => XS.ifNo X0.here hx rfl (hb hby d16_1) rfl ((if0 _ _).trans (flt (show ¬ ((3 : Int32) < (0 : Int32)) by first | decide | exact Int32.lt_irrefl _ | exact Int64.lt_irrefl _)).1) k) ?_
  refine ost (mkF m 5 #[.val (.int (3 : Int32)), .val (.int (5 : Int32)), .val .null] [(.int (3 : Int32))]) X0 (fun t k => XS.iloadN X0.here hx rfl (hb hby d16_4) rfl k) ?_
  refine ost (mkF m 6 #[.val (.int (3 : Int32)), .val (.int (5 : Int32)), .val .null] [(.int (5 : Int32)), (.int (3 : Int32))]) X0 (fun t k => XS.iloadN X0.here hx rfl (hb hby d16_5) rfl k) ?_
  refine ost (mkF m 16 #[.val (.int (3 : Int32)), .val (.int (5 : Int32)), .val .null] []) X0 (fun t k => XS.icmpYes X0.here hx rfl (pc0 := 6) (pc' := 16) rfl (hb hby d16_6) rfl (tlt (show (3 : Int32) < (5 : Int32) by first | rfl | decide)).1 (by decide) (by decide) k) ?_
  refine ost (mkF m 17 #[.val (.int (3 : Int32)), .val (.int (5 : Int32)), .val .null] [(.int (3 : Int32))]) X0 (fun t k => XS.iloadN X0.here hx rfl (hb hby d16_16) rfl k) ?_
  refine OwnFin.retInt X0 (hb hby d16_17) (by decide) (by decide) ?_
  rw [e0]
  exact ⟨rfl, N0, rfl⟩)
def Q15s44 (Z : State) (h0 : Heap) (n0 : Nat) : Option Value → Heap → List Loc → Prop := fun v h L => v = some (.int (3 : Int32)) ∧ Fr n0 L ∧ h = h0
set_option maxRecDepth 65536 in
set_option maxHeartbeats 40000000 in
theorem rm15s44 (l : Launch) (Z : State) (a0 : Array Value) (hw : ∀ d ∈ tables_1, d.before a0 Z = true) (ws : List Jvm.Cond) (h0 : Heap) (n0 : Nat) (Z0 : n0 ≤ h0.size) :
    MetFree l Y13 (head1 (Jvm.Cond.code Y13 jdk_31_method_17_code 2 (some .int) :: ws) ({ frames := 1, cells := 0, slots := 0, locals := 14 } : Room)) (fun a U => a = #[(.int (3 : Int32)), (.int (5 : Int32))] ∧ Z.Warmed39 U.vm ∧ U.heap = h0) (fun _ _ _ _ _ => True) (fun _ U o U' => ∃ v L, o = .returned v ∧ (Q15s44 Z h0 n0) v U'.heap L ∧ FrameEnd U o U' L ({ frames := 1, cells := 0, slots := 0, locals := 14 } : Room).cells ({ frames := 1, cells := 0, slots := 0, locals := 14 } : Room).slots) :=
  own_met (ret := (some .int)) (Q := (Q15s44 Z h0 n0)) (plainFor_of_name pn_15) (fun m => ef_15 m (3 : Int32) (5 : Int32)) (fun p e s m below meth c T0 X0 hx hby hml hown hnm hZ e0 => by
  have N0 := Fr.nil n0
  refine ost (mkF m 1 #[.val (.int (3 : Int32)), .val (.int (5 : Int32))] [(.int (3 : Int32))]) X0 (fun t k => XS.iloadN X0.here hx rfl (hb hby d15_0) rfl k) ?_
  refine ost (mkF m 2 #[.val (.int (3 : Int32)), .val (.int (5 : Int32))] [(.int (5 : Int32)), (.int (3 : Int32))]) X0 (fun t k => XS.iloadN X0.here hx rfl (hb hby d15_1) rfl k) ?_
  refine ost (mkF m 3 #[.val (.int (3 : Int32)), .val (.int (5 : Int32))] [.null, (.int (5 : Int32)), (.int (3 : Int32))]) X0 (fun t k => XS.aconstNull X0.here hx rfl (hb hby d15_2) k) ?_
  obtain ⟨_, T45104, L45104, X45104, ⟨rfl, N45104q, u46115⟩, st45104⟩ := own_callS X0 hx hZ (y := Y12) (W := 0) (argsL := [(.int (3 : Int32)), (.int (5 : Int32)), .null]) (rest := []) hown (hw _ (wm 130 rfl)) (hw _ (wm 131 rfl)) (hw _ (wm 132 rfl)) (hw _ (wm 133 rfl)) (by decide) (rm16s45 l Z a0 hw []  h0 n0 Z0 ) (by decide) (by decide) (by decide) (by decide) e0 (g := (mkF m 3 #[.val (.int (3 : Int32)), .val (.int (5 : Int32))] [.null, (.int (5 : Int32)), (.int (3 : Int32))])) rfl (by rw [hml]; rfl) pd_8 rfl rfl (by show 2 * 0 + _ ≤ _; exact Nat.le_of_eq rfl) (hb hby d15_3)
  have N45104 := Fr.app N0 N45104q
  refine ost (mkF m 6 #[.val (.int (3 : Int32)), .val (.int (5 : Int32))] [(.int (3 : Int32))]) X45104 (fun t k => st45104 _ k) ?_
  refine OwnFin.retInt X45104 (hb hby d15_6) (by decide) (by decide) ?_
  rw [u46115]
  exact ⟨rfl, N45104, rfl⟩)
def Q14s43 (Z : State) (b1 : Addr) (b3058 : Addr) (b9144 : Addr) (b9244 : Addr) (b13373 : Addr) (b17503 : Addr) (b21634 : Addr) (h0 : Heap) (n0 : Nat) : Option Value → Heap → List Loc → Prop := fun v h L => v = some (.ref b17503) ∧ Fr n0 L ∧ h = h0
set_option maxRecDepth 65536 in
set_option maxHeartbeats 40000000 in
theorem rm14s43 (l : Launch) (Z : State) (a0 : Array Value) (hw : ∀ d ∈ tables_1, d.before a0 Z = true) (ws : List Jvm.Cond) (b1 : Addr) (b3058 : Addr) (b9144 : Addr) (b9244 : Addr) (b13373 : Addr) (b17503 : Addr) (b21634 : Addr) (h0 : Heap) (n0 : Nat) (Z0 : n0 ≤ h0.size) (E_b1 : Exa Z h0 b1 "java/util/ArrayList") (F_elementData_b1 : Fld Z h0 b1 "java/util/ArrayList" "elementData" "[Ljava/lang/Object;" (.ref b9144)) (F_size_b1 : Fld Z h0 b1 "java/util/ArrayList" "size" "I" (.int (5 : Int32))) (A_b9144 : AryR Z h0 b9144 "java/lang/Object" 10 (updN (updN (updN (updN (updN (fun _ => Value.null) ((0 : Int32)).toNatClampNeg (Value.ref b3058)) ((1 : Int32)).toNatClampNeg (Value.ref b9244)) ((2 : Int32)).toNatClampNeg (Value.ref b13373)) ((3 : Int32)).toNatClampNeg (Value.ref b17503)) ((4 : Int32)).toNatClampNeg (Value.ref b21634))) :
    MetFree l Y16 (head1 (Jvm.Cond.code Y16 jdk_38_method_20_code 2 (some (.object "java/lang/Object")) :: ws) ({ frames := 2, cells := 0, slots := 0, locals := 27 } : Room)) (fun a U => a = #[(.ref b1), (.int (3 : Int32))] ∧ Z.Warmed39 U.vm ∧ U.heap = h0) (fun _ _ _ _ _ => True) (fun _ U o U' => ∃ v L, o = .returned v ∧ (Q14s43 Z b1 b3058 b9144 b9244 b13373 b17503 b21634 h0 n0) v U'.heap L ∧ FrameEnd U o U' L ({ frames := 2, cells := 0, slots := 0, locals := 27 } : Room).cells ({ frames := 2, cells := 0, slots := 0, locals := 27 } : Room).slots) :=
  own_met (ret := (some (.object "java/lang/Object"))) (Q := (Q14s43 Z b1 b3058 b9144 b9244 b13373 b17503 b21634 h0 n0)) (plainFor_of_name pn_14) (fun m => ef_14 m b1 (3 : Int32)) (fun p e s m below meth c T0 X0 hx hby hml hown hnm hZ e0 => by
  have N0 := Fr.nil n0
  refine ost (mkF m 1 #[.val (.ref b1), .val (.int (3 : Int32))] [(.int (3 : Int32))]) X0 (fun t k => XS.iloadN X0.here hx rfl (hb hby d14_0) rfl k) ?_
  refine ost (mkF m 2 #[.val (.ref b1), .val (.int (3 : Int32))] [(.ref b1), (.int (3 : Int32))]) X0 (fun t k => XS.aloadN X0.here hx rfl (hb hby d14_1) rfl rfl k) ?_
  obtain ⟨T44102, X44102, e44102, st44102⟩ := getF X0 hx hZ hown (host := "") (Or.inl (hw _ (wm 65 rfl))) Via.refl e0 F_size_b1 (g := (mkF m 2 #[.val (.ref b1), .val (.int (3 : Int32))] [(.ref b1), (.int (3 : Int32))])) rfl rfl (hb hby d14_2)
  refine ost (mkF m 5 #[.val (.ref b1), .val (.int (3 : Int32))] [(.int (5 : Int32)), (.int (3 : Int32))]) X44102 (fun t k => st44102 _ k) ?_
  obtain ⟨_, T44103, L44103, X44103, ⟨rfl, N44103q, u46126⟩, st44103⟩ := own_callS X44102 hx hZ (y := Y13) (W := 0) (argsL := [(.int (3 : Int32)), (.int (5 : Int32))]) (rest := []) hown (hw _ (wm 126 rfl)) (hw _ (wm 127 rfl)) (hw _ (wm 128 rfl)) (hw _ (wm 129 rfl)) (by decide) (rm15s44 l Z a0 hw []  h0 n0 Z0 ) (by decide) (by decide) (by decide) (by decide) e44102 (g := (mkF m 5 #[.val (.ref b1), .val (.int (3 : Int32))] [(.int (5 : Int32)), (.int (3 : Int32))])) rfl (by rw [hml]; rfl) pd_2 rfl rfl (by show 2 * 0 + _ ≤ _; exact Nat.le_of_eq rfl) (hb hby d14_5)
  have N44103 := Fr.app N0 N44103q
  refine ost (mkF m 8 #[.val (.ref b1), .val (.int (3 : Int32))] [(.int (3 : Int32))]) X44103 (fun t k => st44103 _ k) ?_
  refine ost (mkF m 9 #[.val (.ref b1), .val (.int (3 : Int32))] []) X44103 (fun t k => XT.pop X44103.here hx rfl (hb hby d14_8) rfl rfl k) ?_
  refine ost (mkF m 10 #[.val (.ref b1), .val (.int (3 : Int32))] [(.ref b1)]) X44103 (fun t k => XS.aloadN X44103.here hx rfl (hb hby d14_9) rfl rfl k) ?_
  refine ost (mkF m 11 #[.val (.ref b1), .val (.int (3 : Int32))] [(.int (3 : Int32)), (.ref b1)]) X44103 (fun t k => XS.iloadN X44103.here hx rfl (hb hby d14_10) rfl k) ?_
  obtain ⟨_, T46127, L46127, X46127, ⟨rfl, N46127q, u47139⟩, st46127⟩ := own_callV X44103 hx hZ (y := Y14) (W := 0) (a := b1) (argsL := [(.int (3 : Int32))]) (rest := []) hown (hw _ (wm 134 rfl)) (hw _ (wm 135 rfl)) (hw _ (wm 137 rfl)) (hw _ (wm 136 rfl)) (hw _ (wm 2 rfl)) (hw _ (wm 138 rfl)) (by decide) E_b1 (rm17s46 l Z a0 hw [] b1 b3058 b9144 b9244 b13373 b17503 b21634 h0 n0 Z0 F_elementData_b1 A_b9144) (by decide) (by decide) (by decide) (by decide) u46126 (g := (mkF m 11 #[.val (.ref b1), .val (.int (3 : Int32))] [(.int (3 : Int32)), (.ref b1)])) rfl (by rw [hml]; rfl) pd_9 rfl rfl (by show 2 * 0 + _ ≤ _; exact Nat.le_of_eq rfl) (hb hby d14_11)
  have N46127 := Fr.app N44103 N46127q
  refine ost (mkF m 14 #[.val (.ref b1), .val (.int (3 : Int32))] [(.ref b17503)]) X46127 (fun t k => st46127 _ k) ?_
  refine OwnFin.retRef X46127 rfl rfl rfl (hb hby d14_14) (by decide) (by decide) ?_
  rw [u47139]
  exact ⟨rfl, N46127, rfl⟩)
def Q18s42 (Z : State) (b13373 : Addr) (h0 : Heap) (n0 : Nat) : Option Value → Heap → List Loc → Prop := fun v h L => v = some (.int (4 : Int32)) ∧ Fr n0 L ∧ h = h0
set_option maxRecDepth 65536 in
set_option maxHeartbeats 40000000 in
theorem rm18s42 (l : Launch) (Z : State) (a0 : Array Value) (hw : ∀ d ∈ tables_1, d.before a0 Z = true) (ws : List Jvm.Cond) (b13373 : Addr) (h0 : Heap) (n0 : Nat) (Z0 : n0 ≤ h0.size) (F_size_b13373 : Fld Z h0 b13373 "com/example/ken2/ken2/InterpretedSystem$Variable" "size" "I" (.int (4 : Int32))) :
    MetFree l Y17 (head1 (Jvm.Cond.code Y17 prog_64_method_15_code 1 (some .int) :: ws) ({ frames := 0, cells := 0, slots := 0, locals := 0 } : Room)) (fun a U => a = #[(.ref b13373)] ∧ Z.Warmed39 U.vm ∧ U.heap = h0) (fun _ _ _ _ _ => True) (fun _ U o U' => ∃ v L, o = .returned v ∧ (Q18s42 Z b13373 h0 n0) v U'.heap L ∧ FrameEnd U o U' L ({ frames := 0, cells := 0, slots := 0, locals := 0 } : Room).cells ({ frames := 0, cells := 0, slots := 0, locals := 0 } : Room).slots) :=
  own_met (ret := (some .int)) (Q := (Q18s42 Z b13373 h0 n0)) (plainFor_of_name pn_18) (fun m => ef_18 m b13373) (fun p e s m below meth c T0 X0 hx hby hml hown hnm hZ e0 => by
  have N0 := Fr.nil n0
  refine ost (mkF m 1 #[.val (.ref b13373)] [(.ref b13373)]) X0 (fun t k => XS.aloadN X0.here hx rfl (hb hby d18_0) rfl rfl k) ?_
  obtain ⟨T43071, X43071, e43071, st43071⟩ := getF X0 hx hZ hown (host := "") (Or.inl (hw _ (wm 56 rfl))) Via.refl e0 F_size_b13373 (g := (mkF m 1 #[.val (.ref b13373)] [(.ref b13373)])) rfl rfl (hb hby d18_1)
  refine ost (mkF m 4 #[.val (.ref b13373)] [(.int (4 : Int32))]) X43071 (fun t k => st43071 _ k) ?_
  refine OwnFin.retInt X43071 (hb hby d18_4) (by decide) (by decide) ?_
  rw [e43071]
  exact ⟨rfl, N0, rfl⟩)
def Q17s41 (Z : State) (b1 : Addr) (b3058 : Addr) (b9144 : Addr) (b9244 : Addr) (b13373 : Addr) (b17503 : Addr) (b21634 : Addr) (h0 : Heap) (n0 : Nat) : Option Value → Heap → List Loc → Prop := fun v h L => v = some (.ref b13373) ∧ Fr n0 L ∧ h = h0
set_option maxRecDepth 65536 in
set_option maxHeartbeats 40000000 in
theorem rm17s41 (l : Launch) (Z : State) (a0 : Array Value) (hw : ∀ d ∈ tables_1, d.before a0 Z = true) (ws : List Jvm.Cond) (b1 : Addr) (b3058 : Addr) (b9144 : Addr) (b9244 : Addr) (b13373 : Addr) (b17503 : Addr) (b21634 : Addr) (h0 : Heap) (n0 : Nat) (Z0 : n0 ≤ h0.size) (F_elementData_b1 : Fld Z h0 b1 "java/util/ArrayList" "elementData" "[Ljava/lang/Object;" (.ref b9144)) (A_b9144 : AryR Z h0 b9144 "java/lang/Object" 10 (updN (updN (updN (updN (updN (fun _ => Value.null) ((0 : Int32)).toNatClampNeg (Value.ref b3058)) ((1 : Int32)).toNatClampNeg (Value.ref b9244)) ((2 : Int32)).toNatClampNeg (Value.ref b13373)) ((3 : Int32)).toNatClampNeg (Value.ref b17503)) ((4 : Int32)).toNatClampNeg (Value.ref b21634))) :
    MetFree l Y14 (head1 (Jvm.Cond.code Y14 jdk_38_method_18_code 2 (some (.object "java/lang/Object")) :: ws) ({ frames := 0, cells := 0, slots := 0, locals := 0 } : Room)) (fun a U => a = #[(.ref b1), (.int (2 : Int32))] ∧ Z.Warmed39 U.vm ∧ U.heap = h0) (fun _ _ _ _ _ => True) (fun _ U o U' => ∃ v L, o = .returned v ∧ (Q17s41 Z b1 b3058 b9144 b9244 b13373 b17503 b21634 h0 n0) v U'.heap L ∧ FrameEnd U o U' L ({ frames := 0, cells := 0, slots := 0, locals := 0 } : Room).cells ({ frames := 0, cells := 0, slots := 0, locals := 0 } : Room).slots) :=
  own_met (ret := (some (.object "java/lang/Object"))) (Q := (Q17s41 Z b1 b3058 b9144 b9244 b13373 b17503 b21634 h0 n0)) (plainFor_of_name pn_17) (fun m => ef_17 m b1 (2 : Int32)) (fun p e s m below meth c T0 X0 hx hby hml hown hnm hZ e0 => by
  have N0 := Fr.nil n0
  refine ost (mkF m 1 #[.val (.ref b1), .val (.int (2 : Int32))] [(.ref b1)]) X0 (fun t k => XS.aloadN X0.here hx rfl (hb hby d17_0) rfl rfl k) ?_
  obtain ⟨T42043, X42043, e42043, st42043⟩ := getF X0 hx hZ hown (host := "") (Or.inl (hw _ (wm 24 rfl))) Via.refl e0 F_elementData_b1 (g := (mkF m 1 #[.val (.ref b1), .val (.int (2 : Int32))] [(.ref b1)])) rfl rfl (hb hby d17_1)
  refine ost (mkF m 4 #[.val (.ref b1), .val (.int (2 : Int32))] [(.ref b9144)]) X42043 (fun t k => st42043 _ k) ?_
  refine ost (mkF m 5 #[.val (.ref b1), .val (.int (2 : Int32))] [(.int (2 : Int32)), (.ref b9144)]) X42043 (fun t k => XS.iloadN X42043.here hx rfl (hb hby d17_4) rfl k) ?_
  refine ost (mkF m 6 #[.val (.ref b1), .val (.int (2 : Int32))] [(.ref b13373)]) X42043 (fun t k => own_ldA X42043 hx hZ e42043 (A_b9144).1 rfl (by decide) rfl (g := (mkF m 5 #[.val (.ref b1), .val (.int (2 : Int32))] [(.int (2 : Int32)), (.ref b9144)])) rfl rfl (hb hby d17_5) _ k) ?_
  refine OwnFin.retRef X42043 rfl rfl rfl (hb hby d17_6) (by decide) (by decide) ?_
  rw [e42043]
  exact ⟨rfl, N0, rfl⟩)
def Q16s40 (Z : State) (h0 : Heap) (n0 : Nat) : Option Value → Heap → List Loc → Prop := fun v h L => v = some (.int (2 : Int32)) ∧ Fr n0 L ∧ h = h0
set_option maxRecDepth 65536 in
set_option maxHeartbeats 40000000 in
theorem rm16s40 (l : Launch) (Z : State) (a0 : Array Value) (hw : ∀ d ∈ tables_1, d.before a0 Z = true) (ws : List Jvm.Cond) (h0 : Heap) (n0 : Nat) (Z0 : n0 ≤ h0.size) :
    MetFree l Y12 (head1 (Jvm.Cond.code Y12 jdk_41_method_11_code 3 (some .int) :: ws) ({ frames := 0, cells := 0, slots := 0, locals := 0 } : Room)) (fun a U => a = #[(.int (2 : Int32)), (.int (5 : Int32)), .null] ∧ Z.Warmed39 U.vm ∧ U.heap = h0) (fun _ _ _ _ _ => True) (fun _ U o U' => ∃ v L, o = .returned v ∧ (Q16s40 Z h0 n0) v U'.heap L ∧ FrameEnd U o U' L ({ frames := 0, cells := 0, slots := 0, locals := 0 } : Room).cells ({ frames := 0, cells := 0, slots := 0, locals := 0 } : Room).slots) :=
  own_met (ret := (some .int)) (Q := (Q16s40 Z h0 n0)) (plainFor_of_name pn_16) (fun m => ef_16n2 m (2 : Int32) (5 : Int32)) (fun p e s m below meth c T0 X0 hx hby hml hown hnm hZ e0 => by
  have N0 := Fr.nil n0
  refine ost (mkF m 1 #[.val (.int (2 : Int32)), .val (.int (5 : Int32)), .val .null] [(.int (2 : Int32))]) X0 (fun t k => XS.iloadN X0.here hx rfl (hb hby d16_0) rfl k) ?_
  refine ost (mkF m 4 #[.val (.int (2 : Int32)), .val (.int (5 : Int32)), .val .null] []) X0 (fun t k => XS.ifNo X0.here hx rfl (hb hby d16_1) rfl ((if0 _ _).trans (flt (show ¬ ((2 : Int32) < (0 : Int32)) by first | decide | exact Int32.lt_irrefl _ | exact Int64.lt_irrefl _)).1) k) ?_
  refine ost (mkF m 5 #[.val (.int (2 : Int32)), .val (.int (5 : Int32)), .val .null] [(.int (2 : Int32))]) X0 (fun t k => XS.iloadN X0.here hx rfl (hb hby d16_4) rfl k) ?_
  refine ost (mkF m 6 #[.val (.int (2 : Int32)), .val (.int (5 : Int32)), .val .null] [(.int (5 : Int32)), (.int (2 : Int32))]) X0 (fun t k => XS.iloadN X0.here hx rfl (hb hby d16_5) rfl k) ?_
  refine ost (mkF m 16 #[.val (.int (2 : Int32)), .val (.int (5 : Int32)), .val .null] []) X0 (fun t k => XS.icmpYes X0.here hx rfl (pc0 := 6) (pc' := 16) rfl (hb hby d16_6) rfl (tlt (show (2 : Int32) < (5 : Int32) by first | rfl | decide)).1 (by decide) (by decide) k) ?_
  refine ost (mkF m 17 #[.val (.int (2 : Int32)), .val (.int (5 : Int32)), .val .null] [(.int (2 : Int32))]) X0 (fun t k => XS.iloadN X0.here hx rfl (hb hby d16_16) rfl k) ?_
  refine OwnFin.retInt X0 (hb hby d16_17) (by decide) (by decide) ?_
  rw [e0]
  exact ⟨rfl, N0, rfl⟩)
def Q15s39 (Z : State) (h0 : Heap) (n0 : Nat) : Option Value → Heap → List Loc → Prop := fun v h L => v = some (.int (2 : Int32)) ∧ Fr n0 L ∧ h = h0
set_option maxRecDepth 65536 in
set_option maxHeartbeats 40000000 in
theorem rm15s39 (l : Launch) (Z : State) (a0 : Array Value) (hw : ∀ d ∈ tables_1, d.before a0 Z = true) (ws : List Jvm.Cond) (h0 : Heap) (n0 : Nat) (Z0 : n0 ≤ h0.size) :
    MetFree l Y13 (head1 (Jvm.Cond.code Y13 jdk_31_method_17_code 2 (some .int) :: ws) ({ frames := 1, cells := 0, slots := 0, locals := 14 } : Room)) (fun a U => a = #[(.int (2 : Int32)), (.int (5 : Int32))] ∧ Z.Warmed39 U.vm ∧ U.heap = h0) (fun _ _ _ _ _ => True) (fun _ U o U' => ∃ v L, o = .returned v ∧ (Q15s39 Z h0 n0) v U'.heap L ∧ FrameEnd U o U' L ({ frames := 1, cells := 0, slots := 0, locals := 14 } : Room).cells ({ frames := 1, cells := 0, slots := 0, locals := 14 } : Room).slots) :=
  own_met (ret := (some .int)) (Q := (Q15s39 Z h0 n0)) (plainFor_of_name pn_15) (fun m => ef_15 m (2 : Int32) (5 : Int32)) (fun p e s m below meth c T0 X0 hx hby hml hown hnm hZ e0 => by
  have N0 := Fr.nil n0
  refine ost (mkF m 1 #[.val (.int (2 : Int32)), .val (.int (5 : Int32))] [(.int (2 : Int32))]) X0 (fun t k => XS.iloadN X0.here hx rfl (hb hby d15_0) rfl k) ?_
  refine ost (mkF m 2 #[.val (.int (2 : Int32)), .val (.int (5 : Int32))] [(.int (5 : Int32)), (.int (2 : Int32))]) X0 (fun t k => XS.iloadN X0.here hx rfl (hb hby d15_1) rfl k) ?_
  refine ost (mkF m 3 #[.val (.int (2 : Int32)), .val (.int (5 : Int32))] [.null, (.int (5 : Int32)), (.int (2 : Int32))]) X0 (fun t k => XS.aconstNull X0.here hx rfl (hb hby d15_2) k) ?_
  obtain ⟨_, T40019, L40019, X40019, ⟨rfl, N40019q, u41030⟩, st40019⟩ := own_callS X0 hx hZ (y := Y12) (W := 0) (argsL := [(.int (2 : Int32)), (.int (5 : Int32)), .null]) (rest := []) hown (hw _ (wm 130 rfl)) (hw _ (wm 131 rfl)) (hw _ (wm 132 rfl)) (hw _ (wm 133 rfl)) (by decide) (rm16s40 l Z a0 hw []  h0 n0 Z0 ) (by decide) (by decide) (by decide) (by decide) e0 (g := (mkF m 3 #[.val (.int (2 : Int32)), .val (.int (5 : Int32))] [.null, (.int (5 : Int32)), (.int (2 : Int32))])) rfl (by rw [hml]; rfl) pd_8 rfl rfl (by show 2 * 0 + _ ≤ _; exact Nat.le_of_eq rfl) (hb hby d15_3)
  have N40019 := Fr.app N0 N40019q
  refine ost (mkF m 6 #[.val (.int (2 : Int32)), .val (.int (5 : Int32))] [(.int (2 : Int32))]) X40019 (fun t k => st40019 _ k) ?_
  refine OwnFin.retInt X40019 (hb hby d15_6) (by decide) (by decide) ?_
  rw [u41030]
  exact ⟨rfl, N40019, rfl⟩)
def Q14s38 (Z : State) (b1 : Addr) (b3058 : Addr) (b9144 : Addr) (b9244 : Addr) (b13373 : Addr) (b17503 : Addr) (b21634 : Addr) (h0 : Heap) (n0 : Nat) : Option Value → Heap → List Loc → Prop := fun v h L => v = some (.ref b13373) ∧ Fr n0 L ∧ h = h0
set_option maxRecDepth 65536 in
set_option maxHeartbeats 40000000 in
theorem rm14s38 (l : Launch) (Z : State) (a0 : Array Value) (hw : ∀ d ∈ tables_1, d.before a0 Z = true) (ws : List Jvm.Cond) (b1 : Addr) (b3058 : Addr) (b9144 : Addr) (b9244 : Addr) (b13373 : Addr) (b17503 : Addr) (b21634 : Addr) (h0 : Heap) (n0 : Nat) (Z0 : n0 ≤ h0.size) (E_b1 : Exa Z h0 b1 "java/util/ArrayList") (F_elementData_b1 : Fld Z h0 b1 "java/util/ArrayList" "elementData" "[Ljava/lang/Object;" (.ref b9144)) (F_size_b1 : Fld Z h0 b1 "java/util/ArrayList" "size" "I" (.int (5 : Int32))) (A_b9144 : AryR Z h0 b9144 "java/lang/Object" 10 (updN (updN (updN (updN (updN (fun _ => Value.null) ((0 : Int32)).toNatClampNeg (Value.ref b3058)) ((1 : Int32)).toNatClampNeg (Value.ref b9244)) ((2 : Int32)).toNatClampNeg (Value.ref b13373)) ((3 : Int32)).toNatClampNeg (Value.ref b17503)) ((4 : Int32)).toNatClampNeg (Value.ref b21634))) :
    MetFree l Y16 (head1 (Jvm.Cond.code Y16 jdk_38_method_20_code 2 (some (.object "java/lang/Object")) :: ws) ({ frames := 2, cells := 0, slots := 0, locals := 27 } : Room)) (fun a U => a = #[(.ref b1), (.int (2 : Int32))] ∧ Z.Warmed39 U.vm ∧ U.heap = h0) (fun _ _ _ _ _ => True) (fun _ U o U' => ∃ v L, o = .returned v ∧ (Q14s38 Z b1 b3058 b9144 b9244 b13373 b17503 b21634 h0 n0) v U'.heap L ∧ FrameEnd U o U' L ({ frames := 2, cells := 0, slots := 0, locals := 27 } : Room).cells ({ frames := 2, cells := 0, slots := 0, locals := 27 } : Room).slots) :=
  own_met (ret := (some (.object "java/lang/Object"))) (Q := (Q14s38 Z b1 b3058 b9144 b9244 b13373 b17503 b21634 h0 n0)) (plainFor_of_name pn_14) (fun m => ef_14 m b1 (2 : Int32)) (fun p e s m below meth c T0 X0 hx hby hml hown hnm hZ e0 => by
  have N0 := Fr.nil n0
  refine ost (mkF m 1 #[.val (.ref b1), .val (.int (2 : Int32))] [(.int (2 : Int32))]) X0 (fun t k => XS.iloadN X0.here hx rfl (hb hby d14_0) rfl k) ?_
  refine ost (mkF m 2 #[.val (.ref b1), .val (.int (2 : Int32))] [(.ref b1), (.int (2 : Int32))]) X0 (fun t k => XS.aloadN X0.here hx rfl (hb hby d14_1) rfl rfl k) ?_
  obtain ⟨T39017, X39017, e39017, st39017⟩ := getF X0 hx hZ hown (host := "") (Or.inl (hw _ (wm 65 rfl))) Via.refl e0 F_size_b1 (g := (mkF m 2 #[.val (.ref b1), .val (.int (2 : Int32))] [(.ref b1), (.int (2 : Int32))])) rfl rfl (hb hby d14_2)
  refine ost (mkF m 5 #[.val (.ref b1), .val (.int (2 : Int32))] [(.int (5 : Int32)), (.int (2 : Int32))]) X39017 (fun t k => st39017 _ k) ?_
  obtain ⟨_, T39018, L39018, X39018, ⟨rfl, N39018q, u41041⟩, st39018⟩ := own_callS X39017 hx hZ (y := Y13) (W := 0) (argsL := [(.int (2 : Int32)), (.int (5 : Int32))]) (rest := []) hown (hw _ (wm 126 rfl)) (hw _ (wm 127 rfl)) (hw _ (wm 128 rfl)) (hw _ (wm 129 rfl)) (by decide) (rm15s39 l Z a0 hw []  h0 n0 Z0 ) (by decide) (by decide) (by decide) (by decide) e39017 (g := (mkF m 5 #[.val (.ref b1), .val (.int (2 : Int32))] [(.int (5 : Int32)), (.int (2 : Int32))])) rfl (by rw [hml]; rfl) pd_2 rfl rfl (by show 2 * 0 + _ ≤ _; exact Nat.le_of_eq rfl) (hb hby d14_5)
  have N39018 := Fr.app N0 N39018q
  refine ost (mkF m 8 #[.val (.ref b1), .val (.int (2 : Int32))] [(.int (2 : Int32))]) X39018 (fun t k => st39018 _ k) ?_
  refine ost (mkF m 9 #[.val (.ref b1), .val (.int (2 : Int32))] []) X39018 (fun t k => XT.pop X39018.here hx rfl (hb hby d14_8) rfl rfl k) ?_
  refine ost (mkF m 10 #[.val (.ref b1), .val (.int (2 : Int32))] [(.ref b1)]) X39018 (fun t k => XS.aloadN X39018.here hx rfl (hb hby d14_9) rfl rfl k) ?_
  refine ost (mkF m 11 #[.val (.ref b1), .val (.int (2 : Int32))] [(.int (2 : Int32)), (.ref b1)]) X39018 (fun t k => XS.iloadN X39018.here hx rfl (hb hby d14_10) rfl k) ?_
  obtain ⟨_, T41042, L41042, X41042, ⟨rfl, N41042q, u42054⟩, st41042⟩ := own_callV X39018 hx hZ (y := Y14) (W := 0) (a := b1) (argsL := [(.int (2 : Int32))]) (rest := []) hown (hw _ (wm 134 rfl)) (hw _ (wm 135 rfl)) (hw _ (wm 137 rfl)) (hw _ (wm 136 rfl)) (hw _ (wm 2 rfl)) (hw _ (wm 138 rfl)) (by decide) E_b1 (rm17s41 l Z a0 hw [] b1 b3058 b9144 b9244 b13373 b17503 b21634 h0 n0 Z0 F_elementData_b1 A_b9144) (by decide) (by decide) (by decide) (by decide) u41041 (g := (mkF m 11 #[.val (.ref b1), .val (.int (2 : Int32))] [(.int (2 : Int32)), (.ref b1)])) rfl (by rw [hml]; rfl) pd_9 rfl rfl (by show 2 * 0 + _ ≤ _; exact Nat.le_of_eq rfl) (hb hby d14_11)
  have N41042 := Fr.app N39018 N41042q
  refine ost (mkF m 14 #[.val (.ref b1), .val (.int (2 : Int32))] [(.ref b13373)]) X41042 (fun t k => st41042 _ k) ?_
  refine OwnFin.retRef X41042 rfl rfl rfl (hb hby d14_14) (by decide) (by decide) ?_
  rw [u42054]
  exact ⟨rfl, N41042, rfl⟩)
def Q18s37 (Z : State) (b9244 : Addr) (h0 : Heap) (n0 : Nat) : Option Value → Heap → List Loc → Prop := fun v h L => v = some (.int (2147483647 : Int32)) ∧ Fr n0 L ∧ h = h0
set_option maxRecDepth 65536 in
set_option maxHeartbeats 40000000 in
theorem rm18s37 (l : Launch) (Z : State) (a0 : Array Value) (hw : ∀ d ∈ tables_1, d.before a0 Z = true) (ws : List Jvm.Cond) (b9244 : Addr) (h0 : Heap) (n0 : Nat) (Z0 : n0 ≤ h0.size) (F_size_b9244 : Fld Z h0 b9244 "com/example/ken2/ken2/InterpretedSystem$Variable" "size" "I" (.int (2147483647 : Int32))) :
    MetFree l Y17 (head1 (Jvm.Cond.code Y17 prog_64_method_15_code 1 (some .int) :: ws) ({ frames := 0, cells := 0, slots := 0, locals := 0 } : Room)) (fun a U => a = #[(.ref b9244)] ∧ Z.Warmed39 U.vm ∧ U.heap = h0) (fun _ _ _ _ _ => True) (fun _ U o U' => ∃ v L, o = .returned v ∧ (Q18s37 Z b9244 h0 n0) v U'.heap L ∧ FrameEnd U o U' L ({ frames := 0, cells := 0, slots := 0, locals := 0 } : Room).cells ({ frames := 0, cells := 0, slots := 0, locals := 0 } : Room).slots) :=
  own_met (ret := (some .int)) (Q := (Q18s37 Z b9244 h0 n0)) (plainFor_of_name pn_18) (fun m => ef_18 m b9244) (fun p e s m below meth c T0 X0 hx hby hml hown hnm hZ e0 => by
  have N0 := Fr.nil n0
  refine ost (mkF m 1 #[.val (.ref b9244)] [(.ref b9244)]) X0 (fun t k => XS.aloadN X0.here hx rfl (hb hby d18_0) rfl rfl k) ?_
  obtain ⟨T37986, X37986, e37986, st37986⟩ := getF X0 hx hZ hown (host := "") (Or.inl (hw _ (wm 56 rfl))) Via.refl e0 F_size_b9244 (g := (mkF m 1 #[.val (.ref b9244)] [(.ref b9244)])) rfl rfl (hb hby d18_1)
  refine ost (mkF m 4 #[.val (.ref b9244)] [(.int (2147483647 : Int32))]) X37986 (fun t k => st37986 _ k) ?_
  refine OwnFin.retInt X37986 (hb hby d18_4) (by decide) (by decide) ?_
  rw [e37986]
  exact ⟨rfl, N0, rfl⟩)
def Q17s36 (Z : State) (b1 : Addr) (b3058 : Addr) (b9144 : Addr) (b9244 : Addr) (b13373 : Addr) (b17503 : Addr) (b21634 : Addr) (h0 : Heap) (n0 : Nat) : Option Value → Heap → List Loc → Prop := fun v h L => v = some (.ref b9244) ∧ Fr n0 L ∧ h = h0
set_option maxRecDepth 65536 in
set_option maxHeartbeats 40000000 in
theorem rm17s36 (l : Launch) (Z : State) (a0 : Array Value) (hw : ∀ d ∈ tables_1, d.before a0 Z = true) (ws : List Jvm.Cond) (b1 : Addr) (b3058 : Addr) (b9144 : Addr) (b9244 : Addr) (b13373 : Addr) (b17503 : Addr) (b21634 : Addr) (h0 : Heap) (n0 : Nat) (Z0 : n0 ≤ h0.size) (F_elementData_b1 : Fld Z h0 b1 "java/util/ArrayList" "elementData" "[Ljava/lang/Object;" (.ref b9144)) (A_b9144 : AryR Z h0 b9144 "java/lang/Object" 10 (updN (updN (updN (updN (updN (fun _ => Value.null) ((0 : Int32)).toNatClampNeg (Value.ref b3058)) ((1 : Int32)).toNatClampNeg (Value.ref b9244)) ((2 : Int32)).toNatClampNeg (Value.ref b13373)) ((3 : Int32)).toNatClampNeg (Value.ref b17503)) ((4 : Int32)).toNatClampNeg (Value.ref b21634))) :
    MetFree l Y14 (head1 (Jvm.Cond.code Y14 jdk_38_method_18_code 2 (some (.object "java/lang/Object")) :: ws) ({ frames := 0, cells := 0, slots := 0, locals := 0 } : Room)) (fun a U => a = #[(.ref b1), (.int (1 : Int32))] ∧ Z.Warmed39 U.vm ∧ U.heap = h0) (fun _ _ _ _ _ => True) (fun _ U o U' => ∃ v L, o = .returned v ∧ (Q17s36 Z b1 b3058 b9144 b9244 b13373 b17503 b21634 h0 n0) v U'.heap L ∧ FrameEnd U o U' L ({ frames := 0, cells := 0, slots := 0, locals := 0 } : Room).cells ({ frames := 0, cells := 0, slots := 0, locals := 0 } : Room).slots) :=
  own_met (ret := (some (.object "java/lang/Object"))) (Q := (Q17s36 Z b1 b3058 b9144 b9244 b13373 b17503 b21634 h0 n0)) (plainFor_of_name pn_17) (fun m => ef_17 m b1 (1 : Int32)) (fun p e s m below meth c T0 X0 hx hby hml hown hnm hZ e0 => by
  have N0 := Fr.nil n0
  refine ost (mkF m 1 #[.val (.ref b1), .val (.int (1 : Int32))] [(.ref b1)]) X0 (fun t k => XS.aloadN X0.here hx rfl (hb hby d17_0) rfl rfl k) ?_
  obtain ⟨T36958, X36958, e36958, st36958⟩ := getF X0 hx hZ hown (host := "") (Or.inl (hw _ (wm 24 rfl))) Via.refl e0 F_elementData_b1 (g := (mkF m 1 #[.val (.ref b1), .val (.int (1 : Int32))] [(.ref b1)])) rfl rfl (hb hby d17_1)
  refine ost (mkF m 4 #[.val (.ref b1), .val (.int (1 : Int32))] [(.ref b9144)]) X36958 (fun t k => st36958 _ k) ?_
  refine ost (mkF m 5 #[.val (.ref b1), .val (.int (1 : Int32))] [(.int (1 : Int32)), (.ref b9144)]) X36958 (fun t k => XS.iloadN X36958.here hx rfl (hb hby d17_4) rfl k) ?_
  refine ost (mkF m 6 #[.val (.ref b1), .val (.int (1 : Int32))] [(.ref b9244)]) X36958 (fun t k => own_ldA X36958 hx hZ e36958 (A_b9144).1 rfl (by decide) rfl (g := (mkF m 5 #[.val (.ref b1), .val (.int (1 : Int32))] [(.int (1 : Int32)), (.ref b9144)])) rfl rfl (hb hby d17_5) _ k) ?_
  refine OwnFin.retRef X36958 rfl rfl rfl (hb hby d17_6) (by decide) (by decide) ?_
  rw [e36958]
  exact ⟨rfl, N0, rfl⟩)
def Q16s35 (Z : State) (h0 : Heap) (n0 : Nat) : Option Value → Heap → List Loc → Prop := fun v h L => v = some (.int (1 : Int32)) ∧ Fr n0 L ∧ h = h0
set_option maxRecDepth 65536 in
set_option maxHeartbeats 40000000 in
theorem rm16s35 (l : Launch) (Z : State) (a0 : Array Value) (hw : ∀ d ∈ tables_1, d.before a0 Z = true) (ws : List Jvm.Cond) (h0 : Heap) (n0 : Nat) (Z0 : n0 ≤ h0.size) :
    MetFree l Y12 (head1 (Jvm.Cond.code Y12 jdk_41_method_11_code 3 (some .int) :: ws) ({ frames := 0, cells := 0, slots := 0, locals := 0 } : Room)) (fun a U => a = #[(.int (1 : Int32)), (.int (5 : Int32)), .null] ∧ Z.Warmed39 U.vm ∧ U.heap = h0) (fun _ _ _ _ _ => True) (fun _ U o U' => ∃ v L, o = .returned v ∧ (Q16s35 Z h0 n0) v U'.heap L ∧ FrameEnd U o U' L ({ frames := 0, cells := 0, slots := 0, locals := 0 } : Room).cells ({ frames := 0, cells := 0, slots := 0, locals := 0 } : Room).slots) :=
  own_met (ret := (some .int)) (Q := (Q16s35 Z h0 n0)) (plainFor_of_name pn_16) (fun m => ef_16n2 m (1 : Int32) (5 : Int32)) (fun p e s m below meth c T0 X0 hx hby hml hown hnm hZ e0 => by
  have N0 := Fr.nil n0
  refine ost (mkF m 1 #[.val (.int (1 : Int32)), .val (.int (5 : Int32)), .val .null] [(.int (1 : Int32))]) X0 (fun t k => XS.iloadN X0.here hx rfl (hb hby d16_0) rfl k) ?_
  refine ost (mkF m 4 #[.val (.int (1 : Int32)), .val (.int (5 : Int32)), .val .null] []) X0 (fun t k => XS.ifNo X0.here hx rfl (hb hby d16_1) rfl ((if0 _ _).trans (flt (show ¬ ((1 : Int32) < (0 : Int32)) by first | decide | exact Int32.lt_irrefl _ | exact Int64.lt_irrefl _)).1) k) ?_
  refine ost (mkF m 5 #[.val (.int (1 : Int32)), .val (.int (5 : Int32)), .val .null] [(.int (1 : Int32))]) X0 (fun t k => XS.iloadN X0.here hx rfl (hb hby d16_4) rfl k) ?_
  refine ost (mkF m 6 #[.val (.int (1 : Int32)), .val (.int (5 : Int32)), .val .null] [(.int (5 : Int32)), (.int (1 : Int32))]) X0 (fun t k => XS.iloadN X0.here hx rfl (hb hby d16_5) rfl k) ?_
  refine ost (mkF m 16 #[.val (.int (1 : Int32)), .val (.int (5 : Int32)), .val .null] []) X0 (fun t k => XS.icmpYes X0.here hx rfl (pc0 := 6) (pc' := 16) rfl (hb hby d16_6) rfl (tlt (show (1 : Int32) < (5 : Int32) by first | rfl | decide)).1 (by decide) (by decide) k) ?_
  refine ost (mkF m 17 #[.val (.int (1 : Int32)), .val (.int (5 : Int32)), .val .null] [(.int (1 : Int32))]) X0 (fun t k => XS.iloadN X0.here hx rfl (hb hby d16_16) rfl k) ?_
  refine OwnFin.retInt X0 (hb hby d16_17) (by decide) (by decide) ?_
  rw [e0]
  exact ⟨rfl, N0, rfl⟩)
def Q15s34 (Z : State) (h0 : Heap) (n0 : Nat) : Option Value → Heap → List Loc → Prop := fun v h L => v = some (.int (1 : Int32)) ∧ Fr n0 L ∧ h = h0
set_option maxRecDepth 65536 in
set_option maxHeartbeats 40000000 in
theorem rm15s34 (l : Launch) (Z : State) (a0 : Array Value) (hw : ∀ d ∈ tables_1, d.before a0 Z = true) (ws : List Jvm.Cond) (h0 : Heap) (n0 : Nat) (Z0 : n0 ≤ h0.size) :
    MetFree l Y13 (head1 (Jvm.Cond.code Y13 jdk_31_method_17_code 2 (some .int) :: ws) ({ frames := 1, cells := 0, slots := 0, locals := 14 } : Room)) (fun a U => a = #[(.int (1 : Int32)), (.int (5 : Int32))] ∧ Z.Warmed39 U.vm ∧ U.heap = h0) (fun _ _ _ _ _ => True) (fun _ U o U' => ∃ v L, o = .returned v ∧ (Q15s34 Z h0 n0) v U'.heap L ∧ FrameEnd U o U' L ({ frames := 1, cells := 0, slots := 0, locals := 14 } : Room).cells ({ frames := 1, cells := 0, slots := 0, locals := 14 } : Room).slots) :=
  own_met (ret := (some .int)) (Q := (Q15s34 Z h0 n0)) (plainFor_of_name pn_15) (fun m => ef_15 m (1 : Int32) (5 : Int32)) (fun p e s m below meth c T0 X0 hx hby hml hown hnm hZ e0 => by
  have N0 := Fr.nil n0
  refine ost (mkF m 1 #[.val (.int (1 : Int32)), .val (.int (5 : Int32))] [(.int (1 : Int32))]) X0 (fun t k => XS.iloadN X0.here hx rfl (hb hby d15_0) rfl k) ?_
  refine ost (mkF m 2 #[.val (.int (1 : Int32)), .val (.int (5 : Int32))] [(.int (5 : Int32)), (.int (1 : Int32))]) X0 (fun t k => XS.iloadN X0.here hx rfl (hb hby d15_1) rfl k) ?_
  refine ost (mkF m 3 #[.val (.int (1 : Int32)), .val (.int (5 : Int32))] [.null, (.int (5 : Int32)), (.int (1 : Int32))]) X0 (fun t k => XS.aconstNull X0.here hx rfl (hb hby d15_2) k) ?_
  obtain ⟨_, T34934, L34934, X34934, ⟨rfl, N34934q, u35945⟩, st34934⟩ := own_callS X0 hx hZ (y := Y12) (W := 0) (argsL := [(.int (1 : Int32)), (.int (5 : Int32)), .null]) (rest := []) hown (hw _ (wm 130 rfl)) (hw _ (wm 131 rfl)) (hw _ (wm 132 rfl)) (hw _ (wm 133 rfl)) (by decide) (rm16s35 l Z a0 hw []  h0 n0 Z0 ) (by decide) (by decide) (by decide) (by decide) e0 (g := (mkF m 3 #[.val (.int (1 : Int32)), .val (.int (5 : Int32))] [.null, (.int (5 : Int32)), (.int (1 : Int32))])) rfl (by rw [hml]; rfl) pd_8 rfl rfl (by show 2 * 0 + _ ≤ _; exact Nat.le_of_eq rfl) (hb hby d15_3)
  have N34934 := Fr.app N0 N34934q
  refine ost (mkF m 6 #[.val (.int (1 : Int32)), .val (.int (5 : Int32))] [(.int (1 : Int32))]) X34934 (fun t k => st34934 _ k) ?_
  refine OwnFin.retInt X34934 (hb hby d15_6) (by decide) (by decide) ?_
  rw [u35945]
  exact ⟨rfl, N34934, rfl⟩)
def Q14s33 (Z : State) (b1 : Addr) (b3058 : Addr) (b9144 : Addr) (b9244 : Addr) (b13373 : Addr) (b17503 : Addr) (b21634 : Addr) (h0 : Heap) (n0 : Nat) : Option Value → Heap → List Loc → Prop := fun v h L => v = some (.ref b9244) ∧ Fr n0 L ∧ h = h0
set_option maxRecDepth 65536 in
set_option maxHeartbeats 40000000 in
theorem rm14s33 (l : Launch) (Z : State) (a0 : Array Value) (hw : ∀ d ∈ tables_1, d.before a0 Z = true) (ws : List Jvm.Cond) (b1 : Addr) (b3058 : Addr) (b9144 : Addr) (b9244 : Addr) (b13373 : Addr) (b17503 : Addr) (b21634 : Addr) (h0 : Heap) (n0 : Nat) (Z0 : n0 ≤ h0.size) (E_b1 : Exa Z h0 b1 "java/util/ArrayList") (F_elementData_b1 : Fld Z h0 b1 "java/util/ArrayList" "elementData" "[Ljava/lang/Object;" (.ref b9144)) (F_size_b1 : Fld Z h0 b1 "java/util/ArrayList" "size" "I" (.int (5 : Int32))) (A_b9144 : AryR Z h0 b9144 "java/lang/Object" 10 (updN (updN (updN (updN (updN (fun _ => Value.null) ((0 : Int32)).toNatClampNeg (Value.ref b3058)) ((1 : Int32)).toNatClampNeg (Value.ref b9244)) ((2 : Int32)).toNatClampNeg (Value.ref b13373)) ((3 : Int32)).toNatClampNeg (Value.ref b17503)) ((4 : Int32)).toNatClampNeg (Value.ref b21634))) :
    MetFree l Y16 (head1 (Jvm.Cond.code Y16 jdk_38_method_20_code 2 (some (.object "java/lang/Object")) :: ws) ({ frames := 2, cells := 0, slots := 0, locals := 27 } : Room)) (fun a U => a = #[(.ref b1), (.int (1 : Int32))] ∧ Z.Warmed39 U.vm ∧ U.heap = h0) (fun _ _ _ _ _ => True) (fun _ U o U' => ∃ v L, o = .returned v ∧ (Q14s33 Z b1 b3058 b9144 b9244 b13373 b17503 b21634 h0 n0) v U'.heap L ∧ FrameEnd U o U' L ({ frames := 2, cells := 0, slots := 0, locals := 27 } : Room).cells ({ frames := 2, cells := 0, slots := 0, locals := 27 } : Room).slots) :=
  own_met (ret := (some (.object "java/lang/Object"))) (Q := (Q14s33 Z b1 b3058 b9144 b9244 b13373 b17503 b21634 h0 n0)) (plainFor_of_name pn_14) (fun m => ef_14 m b1 (1 : Int32)) (fun p e s m below meth c T0 X0 hx hby hml hown hnm hZ e0 => by
  have N0 := Fr.nil n0
  refine ost (mkF m 1 #[.val (.ref b1), .val (.int (1 : Int32))] [(.int (1 : Int32))]) X0 (fun t k => XS.iloadN X0.here hx rfl (hb hby d14_0) rfl k) ?_
  refine ost (mkF m 2 #[.val (.ref b1), .val (.int (1 : Int32))] [(.ref b1), (.int (1 : Int32))]) X0 (fun t k => XS.aloadN X0.here hx rfl (hb hby d14_1) rfl rfl k) ?_
  obtain ⟨T33932, X33932, e33932, st33932⟩ := getF X0 hx hZ hown (host := "") (Or.inl (hw _ (wm 65 rfl))) Via.refl e0 F_size_b1 (g := (mkF m 2 #[.val (.ref b1), .val (.int (1 : Int32))] [(.ref b1), (.int (1 : Int32))])) rfl rfl (hb hby d14_2)
  refine ost (mkF m 5 #[.val (.ref b1), .val (.int (1 : Int32))] [(.int (5 : Int32)), (.int (1 : Int32))]) X33932 (fun t k => st33932 _ k) ?_
  obtain ⟨_, T33933, L33933, X33933, ⟨rfl, N33933q, u35956⟩, st33933⟩ := own_callS X33932 hx hZ (y := Y13) (W := 0) (argsL := [(.int (1 : Int32)), (.int (5 : Int32))]) (rest := []) hown (hw _ (wm 126 rfl)) (hw _ (wm 127 rfl)) (hw _ (wm 128 rfl)) (hw _ (wm 129 rfl)) (by decide) (rm15s34 l Z a0 hw []  h0 n0 Z0 ) (by decide) (by decide) (by decide) (by decide) e33932 (g := (mkF m 5 #[.val (.ref b1), .val (.int (1 : Int32))] [(.int (5 : Int32)), (.int (1 : Int32))])) rfl (by rw [hml]; rfl) pd_2 rfl rfl (by show 2 * 0 + _ ≤ _; exact Nat.le_of_eq rfl) (hb hby d14_5)
  have N33933 := Fr.app N0 N33933q
  refine ost (mkF m 8 #[.val (.ref b1), .val (.int (1 : Int32))] [(.int (1 : Int32))]) X33933 (fun t k => st33933 _ k) ?_
  refine ost (mkF m 9 #[.val (.ref b1), .val (.int (1 : Int32))] []) X33933 (fun t k => XT.pop X33933.here hx rfl (hb hby d14_8) rfl rfl k) ?_
  refine ost (mkF m 10 #[.val (.ref b1), .val (.int (1 : Int32))] [(.ref b1)]) X33933 (fun t k => XS.aloadN X33933.here hx rfl (hb hby d14_9) rfl rfl k) ?_
  refine ost (mkF m 11 #[.val (.ref b1), .val (.int (1 : Int32))] [(.int (1 : Int32)), (.ref b1)]) X33933 (fun t k => XS.iloadN X33933.here hx rfl (hb hby d14_10) rfl k) ?_
  obtain ⟨_, T35957, L35957, X35957, ⟨rfl, N35957q, u36969⟩, st35957⟩ := own_callV X33933 hx hZ (y := Y14) (W := 0) (a := b1) (argsL := [(.int (1 : Int32))]) (rest := []) hown (hw _ (wm 134 rfl)) (hw _ (wm 135 rfl)) (hw _ (wm 137 rfl)) (hw _ (wm 136 rfl)) (hw _ (wm 2 rfl)) (hw _ (wm 138 rfl)) (by decide) E_b1 (rm17s36 l Z a0 hw [] b1 b3058 b9144 b9244 b13373 b17503 b21634 h0 n0 Z0 F_elementData_b1 A_b9144) (by decide) (by decide) (by decide) (by decide) u35956 (g := (mkF m 11 #[.val (.ref b1), .val (.int (1 : Int32))] [(.int (1 : Int32)), (.ref b1)])) rfl (by rw [hml]; rfl) pd_9 rfl rfl (by show 2 * 0 + _ ≤ _; exact Nat.le_of_eq rfl) (hb hby d14_11)
  have N35957 := Fr.app N33933 N35957q
  refine ost (mkF m 14 #[.val (.ref b1), .val (.int (1 : Int32))] [(.ref b9244)]) X35957 (fun t k => st35957 _ k) ?_
  refine OwnFin.retRef X35957 rfl rfl rfl (hb hby d14_14) (by decide) (by decide) ?_
  rw [u36969]
  exact ⟨rfl, N35957, rfl⟩)
def Q18s32 (Z : State) (b3058 : Addr) (h0 : Heap) (n0 : Nat) : Option Value → Heap → List Loc → Prop := fun v h L => v = some (.int (2147483647 : Int32)) ∧ Fr n0 L ∧ h = h0
set_option maxRecDepth 65536 in
set_option maxHeartbeats 40000000 in
theorem rm18s32 (l : Launch) (Z : State) (a0 : Array Value) (hw : ∀ d ∈ tables_1, d.before a0 Z = true) (ws : List Jvm.Cond) (b3058 : Addr) (h0 : Heap) (n0 : Nat) (Z0 : n0 ≤ h0.size) (F_size_b3058 : Fld Z h0 b3058 "com/example/ken2/ken2/InterpretedSystem$Variable" "size" "I" (.int (2147483647 : Int32))) :
    MetFree l Y17 (head1 (Jvm.Cond.code Y17 prog_64_method_15_code 1 (some .int) :: ws) ({ frames := 0, cells := 0, slots := 0, locals := 0 } : Room)) (fun a U => a = #[(.ref b3058)] ∧ Z.Warmed39 U.vm ∧ U.heap = h0) (fun _ _ _ _ _ => True) (fun _ U o U' => ∃ v L, o = .returned v ∧ (Q18s32 Z b3058 h0 n0) v U'.heap L ∧ FrameEnd U o U' L ({ frames := 0, cells := 0, slots := 0, locals := 0 } : Room).cells ({ frames := 0, cells := 0, slots := 0, locals := 0 } : Room).slots) :=
  own_met (ret := (some .int)) (Q := (Q18s32 Z b3058 h0 n0)) (plainFor_of_name pn_18) (fun m => ef_18 m b3058) (fun p e s m below meth c T0 X0 hx hby hml hown hnm hZ e0 => by
  have N0 := Fr.nil n0
  refine ost (mkF m 1 #[.val (.ref b3058)] [(.ref b3058)]) X0 (fun t k => XS.aloadN X0.here hx rfl (hb hby d18_0) rfl rfl k) ?_
  obtain ⟨T32902, X32902, e32902, st32902⟩ := getF X0 hx hZ hown (host := "") (Or.inl (hw _ (wm 56 rfl))) Via.refl e0 F_size_b3058 (g := (mkF m 1 #[.val (.ref b3058)] [(.ref b3058)])) rfl rfl (hb hby d18_1)
  refine ost (mkF m 4 #[.val (.ref b3058)] [(.int (2147483647 : Int32))]) X32902 (fun t k => st32902 _ k) ?_
  refine OwnFin.retInt X32902 (hb hby d18_4) (by decide) (by decide) ?_
  rw [e32902]
  exact ⟨rfl, N0, rfl⟩)
def Q17s31 (Z : State) (b1 : Addr) (b3058 : Addr) (b9144 : Addr) (b9244 : Addr) (b13373 : Addr) (b17503 : Addr) (b21634 : Addr) (h0 : Heap) (n0 : Nat) : Option Value → Heap → List Loc → Prop := fun v h L => v = some (.ref b3058) ∧ Fr n0 L ∧ h = h0
set_option maxRecDepth 65536 in
set_option maxHeartbeats 40000000 in
theorem rm17s31 (l : Launch) (Z : State) (a0 : Array Value) (hw : ∀ d ∈ tables_1, d.before a0 Z = true) (ws : List Jvm.Cond) (b1 : Addr) (b3058 : Addr) (b9144 : Addr) (b9244 : Addr) (b13373 : Addr) (b17503 : Addr) (b21634 : Addr) (h0 : Heap) (n0 : Nat) (Z0 : n0 ≤ h0.size) (F_elementData_b1 : Fld Z h0 b1 "java/util/ArrayList" "elementData" "[Ljava/lang/Object;" (.ref b9144)) (A_b9144 : AryR Z h0 b9144 "java/lang/Object" 10 (updN (updN (updN (updN (updN (fun _ => Value.null) ((0 : Int32)).toNatClampNeg (Value.ref b3058)) ((1 : Int32)).toNatClampNeg (Value.ref b9244)) ((2 : Int32)).toNatClampNeg (Value.ref b13373)) ((3 : Int32)).toNatClampNeg (Value.ref b17503)) ((4 : Int32)).toNatClampNeg (Value.ref b21634))) :
    MetFree l Y14 (head1 (Jvm.Cond.code Y14 jdk_38_method_18_code 2 (some (.object "java/lang/Object")) :: ws) ({ frames := 0, cells := 0, slots := 0, locals := 0 } : Room)) (fun a U => a = #[(.ref b1), (.int (0 : Int32))] ∧ Z.Warmed39 U.vm ∧ U.heap = h0) (fun _ _ _ _ _ => True) (fun _ U o U' => ∃ v L, o = .returned v ∧ (Q17s31 Z b1 b3058 b9144 b9244 b13373 b17503 b21634 h0 n0) v U'.heap L ∧ FrameEnd U o U' L ({ frames := 0, cells := 0, slots := 0, locals := 0 } : Room).cells ({ frames := 0, cells := 0, slots := 0, locals := 0 } : Room).slots) :=
  own_met (ret := (some (.object "java/lang/Object"))) (Q := (Q17s31 Z b1 b3058 b9144 b9244 b13373 b17503 b21634 h0 n0)) (plainFor_of_name pn_17) (fun m => ef_17 m b1 (0 : Int32)) (fun p e s m below meth c T0 X0 hx hby hml hown hnm hZ e0 => by
  have N0 := Fr.nil n0
  refine ost (mkF m 1 #[.val (.ref b1), .val (.int (0 : Int32))] [(.ref b1)]) X0 (fun t k => XS.aloadN X0.here hx rfl (hb hby d17_0) rfl rfl k) ?_
  obtain ⟨T31874, X31874, e31874, st31874⟩ := getF X0 hx hZ hown (host := "") (Or.inl (hw _ (wm 24 rfl))) Via.refl e0 F_elementData_b1 (g := (mkF m 1 #[.val (.ref b1), .val (.int (0 : Int32))] [(.ref b1)])) rfl rfl (hb hby d17_1)
  refine ost (mkF m 4 #[.val (.ref b1), .val (.int (0 : Int32))] [(.ref b9144)]) X31874 (fun t k => st31874 _ k) ?_
  refine ost (mkF m 5 #[.val (.ref b1), .val (.int (0 : Int32))] [(.int (0 : Int32)), (.ref b9144)]) X31874 (fun t k => XS.iloadN X31874.here hx rfl (hb hby d17_4) rfl k) ?_
  refine ost (mkF m 6 #[.val (.ref b1), .val (.int (0 : Int32))] [(.ref b3058)]) X31874 (fun t k => own_ldA X31874 hx hZ e31874 (A_b9144).1 rfl (by decide) rfl (g := (mkF m 5 #[.val (.ref b1), .val (.int (0 : Int32))] [(.int (0 : Int32)), (.ref b9144)])) rfl rfl (hb hby d17_5) _ k) ?_
  refine OwnFin.retRef X31874 rfl rfl rfl (hb hby d17_6) (by decide) (by decide) ?_
  rw [e31874]
  exact ⟨rfl, N0, rfl⟩)
def Q16s30 (Z : State) (h0 : Heap) (n0 : Nat) : Option Value → Heap → List Loc → Prop := fun v h L => v = some (.int (0 : Int32)) ∧ Fr n0 L ∧ h = h0
set_option maxRecDepth 65536 in
set_option maxHeartbeats 40000000 in
theorem rm16s30 (l : Launch) (Z : State) (a0 : Array Value) (hw : ∀ d ∈ tables_1, d.before a0 Z = true) (ws : List Jvm.Cond) (h0 : Heap) (n0 : Nat) (Z0 : n0 ≤ h0.size) :
    MetFree l Y12 (head1 (Jvm.Cond.code Y12 jdk_41_method_11_code 3 (some .int) :: ws) ({ frames := 0, cells := 0, slots := 0, locals := 0 } : Room)) (fun a U => a = #[(.int (0 : Int32)), (.int (5 : Int32)), .null] ∧ Z.Warmed39 U.vm ∧ U.heap = h0) (fun _ _ _ _ _ => True) (fun _ U o U' => ∃ v L, o = .returned v ∧ (Q16s30 Z h0 n0) v U'.heap L ∧ FrameEnd U o U' L ({ frames := 0, cells := 0, slots := 0, locals := 0 } : Room).cells ({ frames := 0, cells := 0, slots := 0, locals := 0 } : Room).slots) :=
  own_met (ret := (some .int)) (Q := (Q16s30 Z h0 n0)) (plainFor_of_name pn_16) (fun m => ef_16n2 m (0 : Int32) (5 : Int32)) (fun p e s m below meth c T0 X0 hx hby hml hown hnm hZ e0 => by
  have N0 := Fr.nil n0
  refine ost (mkF m 1 #[.val (.int (0 : Int32)), .val (.int (5 : Int32)), .val .null] [(.int (0 : Int32))]) X0 (fun t k => XS.iloadN X0.here hx rfl (hb hby d16_0) rfl k) ?_
  refine ost (mkF m 4 #[.val (.int (0 : Int32)), .val (.int (5 : Int32)), .val .null] []) X0 (fun t k => XS.ifNo X0.here hx rfl (hb hby d16_1) rfl ((if0 _ _).trans (flt (show ¬ ((0 : Int32) < (0 : Int32)) by first | decide | exact Int32.lt_irrefl _ | exact Int64.lt_irrefl _)).1) k) ?_
  refine ost (mkF m 5 #[.val (.int (0 : Int32)), .val (.int (5 : Int32)), .val .null] [(.int (0 : Int32))]) X0 (fun t k => XS.iloadN X0.here hx rfl (hb hby d16_4) rfl k) ?_
  refine ost (mkF m 6 #[.val (.int (0 : Int32)), .val (.int (5 : Int32)), .val .null] [(.int (5 : Int32)), (.int (0 : Int32))]) X0 (fun t k => XS.iloadN X0.here hx rfl (hb hby d16_5) rfl k) ?_
  refine ost (mkF m 16 #[.val (.int (0 : Int32)), .val (.int (5 : Int32)), .val .null] []) X0 (fun t k => XS.icmpYes X0.here hx rfl (pc0 := 6) (pc' := 16) rfl (hb hby d16_6) rfl (tlt (show (0 : Int32) < (5 : Int32) by first | rfl | decide)).1 (by decide) (by decide) k) ?_
  refine ost (mkF m 17 #[.val (.int (0 : Int32)), .val (.int (5 : Int32)), .val .null] [(.int (0 : Int32))]) X0 (fun t k => XS.iloadN X0.here hx rfl (hb hby d16_16) rfl k) ?_
  refine OwnFin.retInt X0 (hb hby d16_17) (by decide) (by decide) ?_
  rw [e0]
  exact ⟨rfl, N0, rfl⟩)
def Q15s29 (Z : State) (h0 : Heap) (n0 : Nat) : Option Value → Heap → List Loc → Prop := fun v h L => v = some (.int (0 : Int32)) ∧ Fr n0 L ∧ h = h0
set_option maxRecDepth 65536 in
set_option maxHeartbeats 40000000 in
theorem rm15s29 (l : Launch) (Z : State) (a0 : Array Value) (hw : ∀ d ∈ tables_1, d.before a0 Z = true) (ws : List Jvm.Cond) (h0 : Heap) (n0 : Nat) (Z0 : n0 ≤ h0.size) :
    MetFree l Y13 (head1 (Jvm.Cond.code Y13 jdk_31_method_17_code 2 (some .int) :: ws) ({ frames := 1, cells := 0, slots := 0, locals := 14 } : Room)) (fun a U => a = #[(.int (0 : Int32)), (.int (5 : Int32))] ∧ Z.Warmed39 U.vm ∧ U.heap = h0) (fun _ _ _ _ _ => True) (fun _ U o U' => ∃ v L, o = .returned v ∧ (Q15s29 Z h0 n0) v U'.heap L ∧ FrameEnd U o U' L ({ frames := 1, cells := 0, slots := 0, locals := 14 } : Room).cells ({ frames := 1, cells := 0, slots := 0, locals := 14 } : Room).slots) :=
  own_met (ret := (some .int)) (Q := (Q15s29 Z h0 n0)) (plainFor_of_name pn_15) (fun m => ef_15 m (0 : Int32) (5 : Int32)) (fun p e s m below meth c T0 X0 hx hby hml hown hnm hZ e0 => by
  have N0 := Fr.nil n0
  refine ost (mkF m 1 #[.val (.int (0 : Int32)), .val (.int (5 : Int32))] [(.int (0 : Int32))]) X0 (fun t k => XS.iloadN X0.here hx rfl (hb hby d15_0) rfl k) ?_
  refine ost (mkF m 2 #[.val (.int (0 : Int32)), .val (.int (5 : Int32))] [(.int (5 : Int32)), (.int (0 : Int32))]) X0 (fun t k => XS.iloadN X0.here hx rfl (hb hby d15_1) rfl k) ?_
  refine ost (mkF m 3 #[.val (.int (0 : Int32)), .val (.int (5 : Int32))] [.null, (.int (5 : Int32)), (.int (0 : Int32))]) X0 (fun t k => XS.aconstNull X0.here hx rfl (hb hby d15_2) k) ?_
  obtain ⟨_, T29850, L29850, X29850, ⟨rfl, N29850q, u30861⟩, st29850⟩ := own_callS X0 hx hZ (y := Y12) (W := 0) (argsL := [(.int (0 : Int32)), (.int (5 : Int32)), .null]) (rest := []) hown (hw _ (wm 130 rfl)) (hw _ (wm 131 rfl)) (hw _ (wm 132 rfl)) (hw _ (wm 133 rfl)) (by decide) (rm16s30 l Z a0 hw []  h0 n0 Z0 ) (by decide) (by decide) (by decide) (by decide) e0 (g := (mkF m 3 #[.val (.int (0 : Int32)), .val (.int (5 : Int32))] [.null, (.int (5 : Int32)), (.int (0 : Int32))])) rfl (by rw [hml]; rfl) pd_8 rfl rfl (by show 2 * 0 + _ ≤ _; exact Nat.le_of_eq rfl) (hb hby d15_3)
  have N29850 := Fr.app N0 N29850q
  refine ost (mkF m 6 #[.val (.int (0 : Int32)), .val (.int (5 : Int32))] [(.int (0 : Int32))]) X29850 (fun t k => st29850 _ k) ?_
  refine OwnFin.retInt X29850 (hb hby d15_6) (by decide) (by decide) ?_
  rw [u30861]
  exact ⟨rfl, N29850, rfl⟩)
def Q14s28 (Z : State) (b1 : Addr) (b3058 : Addr) (b9144 : Addr) (b9244 : Addr) (b13373 : Addr) (b17503 : Addr) (b21634 : Addr) (h0 : Heap) (n0 : Nat) : Option Value → Heap → List Loc → Prop := fun v h L => v = some (.ref b3058) ∧ Fr n0 L ∧ h = h0
set_option maxRecDepth 65536 in
set_option maxHeartbeats 40000000 in
theorem rm14s28 (l : Launch) (Z : State) (a0 : Array Value) (hw : ∀ d ∈ tables_1, d.before a0 Z = true) (ws : List Jvm.Cond) (b1 : Addr) (b3058 : Addr) (b9144 : Addr) (b9244 : Addr) (b13373 : Addr) (b17503 : Addr) (b21634 : Addr) (h0 : Heap) (n0 : Nat) (Z0 : n0 ≤ h0.size) (E_b1 : Exa Z h0 b1 "java/util/ArrayList") (F_elementData_b1 : Fld Z h0 b1 "java/util/ArrayList" "elementData" "[Ljava/lang/Object;" (.ref b9144)) (F_size_b1 : Fld Z h0 b1 "java/util/ArrayList" "size" "I" (.int (5 : Int32))) (A_b9144 : AryR Z h0 b9144 "java/lang/Object" 10 (updN (updN (updN (updN (updN (fun _ => Value.null) ((0 : Int32)).toNatClampNeg (Value.ref b3058)) ((1 : Int32)).toNatClampNeg (Value.ref b9244)) ((2 : Int32)).toNatClampNeg (Value.ref b13373)) ((3 : Int32)).toNatClampNeg (Value.ref b17503)) ((4 : Int32)).toNatClampNeg (Value.ref b21634))) :
    MetFree l Y16 (head1 (Jvm.Cond.code Y16 jdk_38_method_20_code 2 (some (.object "java/lang/Object")) :: ws) ({ frames := 2, cells := 0, slots := 0, locals := 27 } : Room)) (fun a U => a = #[(.ref b1), (.int (0 : Int32))] ∧ Z.Warmed39 U.vm ∧ U.heap = h0) (fun _ _ _ _ _ => True) (fun _ U o U' => ∃ v L, o = .returned v ∧ (Q14s28 Z b1 b3058 b9144 b9244 b13373 b17503 b21634 h0 n0) v U'.heap L ∧ FrameEnd U o U' L ({ frames := 2, cells := 0, slots := 0, locals := 27 } : Room).cells ({ frames := 2, cells := 0, slots := 0, locals := 27 } : Room).slots) :=
  own_met (ret := (some (.object "java/lang/Object"))) (Q := (Q14s28 Z b1 b3058 b9144 b9244 b13373 b17503 b21634 h0 n0)) (plainFor_of_name pn_14) (fun m => ef_14 m b1 (0 : Int32)) (fun p e s m below meth c T0 X0 hx hby hml hown hnm hZ e0 => by
  have N0 := Fr.nil n0
  refine ost (mkF m 1 #[.val (.ref b1), .val (.int (0 : Int32))] [(.int (0 : Int32))]) X0 (fun t k => XS.iloadN X0.here hx rfl (hb hby d14_0) rfl k) ?_
  refine ost (mkF m 2 #[.val (.ref b1), .val (.int (0 : Int32))] [(.ref b1), (.int (0 : Int32))]) X0 (fun t k => XS.aloadN X0.here hx rfl (hb hby d14_1) rfl rfl k) ?_
  obtain ⟨T28848, X28848, e28848, st28848⟩ := getF X0 hx hZ hown (host := "") (Or.inl (hw _ (wm 65 rfl))) Via.refl e0 F_size_b1 (g := (mkF m 2 #[.val (.ref b1), .val (.int (0 : Int32))] [(.ref b1), (.int (0 : Int32))])) rfl rfl (hb hby d14_2)
  refine ost (mkF m 5 #[.val (.ref b1), .val (.int (0 : Int32))] [(.int (5 : Int32)), (.int (0 : Int32))]) X28848 (fun t k => st28848 _ k) ?_
  obtain ⟨_, T28849, L28849, X28849, ⟨rfl, N28849q, u30872⟩, st28849⟩ := own_callS X28848 hx hZ (y := Y13) (W := 0) (argsL := [(.int (0 : Int32)), (.int (5 : Int32))]) (rest := []) hown (hw _ (wm 126 rfl)) (hw _ (wm 127 rfl)) (hw _ (wm 128 rfl)) (hw _ (wm 129 rfl)) (by decide) (rm15s29 l Z a0 hw []  h0 n0 Z0 ) (by decide) (by decide) (by decide) (by decide) e28848 (g := (mkF m 5 #[.val (.ref b1), .val (.int (0 : Int32))] [(.int (5 : Int32)), (.int (0 : Int32))])) rfl (by rw [hml]; rfl) pd_2 rfl rfl (by show 2 * 0 + _ ≤ _; exact Nat.le_of_eq rfl) (hb hby d14_5)
  have N28849 := Fr.app N0 N28849q
  refine ost (mkF m 8 #[.val (.ref b1), .val (.int (0 : Int32))] [(.int (0 : Int32))]) X28849 (fun t k => st28849 _ k) ?_
  refine ost (mkF m 9 #[.val (.ref b1), .val (.int (0 : Int32))] []) X28849 (fun t k => XT.pop X28849.here hx rfl (hb hby d14_8) rfl rfl k) ?_
  refine ost (mkF m 10 #[.val (.ref b1), .val (.int (0 : Int32))] [(.ref b1)]) X28849 (fun t k => XS.aloadN X28849.here hx rfl (hb hby d14_9) rfl rfl k) ?_
  refine ost (mkF m 11 #[.val (.ref b1), .val (.int (0 : Int32))] [(.int (0 : Int32)), (.ref b1)]) X28849 (fun t k => XS.iloadN X28849.here hx rfl (hb hby d14_10) rfl k) ?_
  obtain ⟨_, T30873, L30873, X30873, ⟨rfl, N30873q, u31885⟩, st30873⟩ := own_callV X28849 hx hZ (y := Y14) (W := 0) (a := b1) (argsL := [(.int (0 : Int32))]) (rest := []) hown (hw _ (wm 134 rfl)) (hw _ (wm 135 rfl)) (hw _ (wm 137 rfl)) (hw _ (wm 136 rfl)) (hw _ (wm 2 rfl)) (hw _ (wm 138 rfl)) (by decide) E_b1 (rm17s31 l Z a0 hw [] b1 b3058 b9144 b9244 b13373 b17503 b21634 h0 n0 Z0 F_elementData_b1 A_b9144) (by decide) (by decide) (by decide) (by decide) u30872 (g := (mkF m 11 #[.val (.ref b1), .val (.int (0 : Int32))] [(.int (0 : Int32)), (.ref b1)])) rfl (by rw [hml]; rfl) pd_9 rfl rfl (by show 2 * 0 + _ ≤ _; exact Nat.le_of_eq rfl) (hb hby d14_11)
  have N30873 := Fr.app N28849 N30873q
  refine ost (mkF m 14 #[.val (.ref b1), .val (.int (0 : Int32))] [(.ref b3058)]) X30873 (fun t k => st30873 _ k) ?_
  refine OwnFin.retRef X30873 rfl rfl rfl (hb hby d14_14) (by decide) (by decide) ?_
  rw [u31885]
  exact ⟨rfl, N30873, rfl⟩)
def Q13s27 (Z : State) (b1 : Addr) (h0 : Heap) (n0 : Nat) : Option Value → Heap → List Loc → Prop := fun v h L => v = some (.int (5 : Int32)) ∧ Fr n0 L ∧ h = h0
set_option maxRecDepth 65536 in
set_option maxHeartbeats 40000000 in
theorem rm13s27 (l : Launch) (Z : State) (a0 : Array Value) (hw : ∀ d ∈ tables_1, d.before a0 Z = true) (ws : List Jvm.Cond) (b1 : Addr) (h0 : Heap) (n0 : Nat) (Z0 : n0 ≤ h0.size) (F_size_b1 : Fld Z h0 b1 "java/util/ArrayList" "size" "I" (.int (5 : Int32))) :
    MetFree l Y11 (head1 (Jvm.Cond.code Y11 jdk_38_method_8_code 1 (some .int) :: ws) ({ frames := 0, cells := 0, slots := 0, locals := 0 } : Room)) (fun a U => a = #[(.ref b1)] ∧ Z.Warmed39 U.vm ∧ U.heap = h0) (fun _ _ _ _ _ => True) (fun _ U o U' => ∃ v L, o = .returned v ∧ (Q13s27 Z b1 h0 n0) v U'.heap L ∧ FrameEnd U o U' L ({ frames := 0, cells := 0, slots := 0, locals := 0 } : Room).cells ({ frames := 0, cells := 0, slots := 0, locals := 0 } : Room).slots) :=
  own_met (ret := (some .int)) (Q := (Q13s27 Z b1 h0 n0)) (plainFor_of_name pn_13) (fun m => ef_13 m b1) (fun p e s m below meth c T0 X0 hx hby hml hown hnm hZ e0 => by
  have N0 := Fr.nil n0
  refine ost (mkF m 1 #[.val (.ref b1)] [(.ref b1)]) X0 (fun t k => XS.aloadN X0.here hx rfl (hb hby d13_0) rfl rfl k) ?_
  obtain ⟨T27775, X27775, e27775, st27775⟩ := getF X0 hx hZ hown (host := "") (Or.inl (hw _ (wm 65 rfl))) Via.refl e0 F_size_b1 (g := (mkF m 1 #[.val (.ref b1)] [(.ref b1)])) rfl rfl (hb hby d13_1)
  refine ost (mkF m 4 #[.val (.ref b1)] [(.int (5 : Int32))]) X27775 (fun t k => st27775 _ k) ?_
  refine OwnFin.retInt X27775 (hb hby d13_4) (by decide) (by decide) ?_
  rw [e27775]
  exact ⟨rfl, N0, rfl⟩)
def Q12s26 (Z : State) (b1 : Addr) (b3058 : Addr) (b9144 : Addr) (b9244 : Addr) (b13373 : Addr) (b17503 : Addr) (b21634 : Addr) (b25766 : Addr) (h0 : Heap) (n0 : Nat) : Option Value → Heap → List Loc → Prop := fun v h L => ∃ b27787 b27802 b27824 : Addr, v = none ∧ Fr n0 L ∧ Keep h0 h [b25766] ∧ Exa Z h b25766 "com/example/ken2/ken2/StateLayout" ∧ Fld Z h b25766 "com/example/ken2/ken2/StateLayout" "m_word" "[I" (.ref b27787) ∧ Fld Z h b25766 "com/example/ken2/ken2/StateLayout" "m_shift" "[I" (.ref b27802) ∧ Fld Z h b25766 "com/example/ken2/ken2/StateLayout" "m_mask" "[J" (.ref b27824) ∧ Fld Z h b25766 "com/example/ken2/ken2/StateLayout" "m_width" "I" (.int (2 : Int32)) ∧ Ary Z h b27787 .int 5 (fun i => .int ((Gs2612_107bbbb) i)) ∧ n0 ≤ b27787 ∧ h0.size ≤ b27787 ∧ Ary Z h b27802 .int 5 (fun i => .int ((Gs2612_115bbb) i)) ∧ n0 ≤ b27802 ∧ h0.size ≤ b27802 ∧ Ary Z h b27824 .long 5 (fun i => .long ((Gs2612_128bbbb) i)) ∧ n0 ≤ b27824 ∧ h0.size ≤ b27824 ∧ b27787 ≠ b27802 ∧ b27787 ≠ b27824 ∧ b27802 ≠ b27824
abbrev Las2612_0 (b25766 : Addr) (b1 : Addr) : Array Slot := #[.val (.ref b25766), .val (.ref b1), .unset, .unset, .unset, .unset, .unset]
abbrev Las2612_1 (b25766 : Addr) (b1 : Addr) : Array Slot := #[.val (.ref b25766), .val (.ref b1), .val (.int (0 : Int32)), .unset, .unset, .unset, .unset]
abbrev Las2612_2 (b25766 : Addr) (b1 : Addr) : Array Slot := #[.val (.ref b25766), .val (.ref b1), .val (.int (0 : Int32)), .val (.int (0 : Int32)), .unset, .unset, .unset]
abbrev Las2612_3 (b25766 : Addr) (b1 : Addr) : Array Slot := #[.val (.ref b25766), .val (.ref b1), .val (.int (0 : Int32)), .val (.int (0 : Int32)), .val (.int (0 : Int32)), .unset, .unset]
abbrev Las2612_4 (b25766 : Addr) (b1 : Addr) : Array Slot := #[.val (.ref b25766), .val (.ref b1), .val (.int (0 : Int32)), .val (.int (0 : Int32)), .val (.int (0 : Int32)), .val (.int (2147483647 : Int32)), .unset]
abbrev Las2612_5 (b25766 : Addr) (b1 : Addr) : Array Slot := #[.val (.ref b25766), .val (.ref b1), .val (.int (0 : Int32)), .val (.int (0 : Int32)), .val (.int (0 : Int32)), .val (.int (2147483647 : Int32)), .val (.int (31 : Int32))]
abbrev Las2612_6 (b25766 : Addr) (b1 : Addr) : Array Slot := #[.val (.ref b25766), .val (.ref b1), .val (.int (0 : Int32)), .val (.int (31 : Int32)), .val (.int (0 : Int32)), .val (.int (2147483647 : Int32)), .val (.int (31 : Int32))]
abbrev Las2612_7 (b25766 : Addr) (b1 : Addr) : Array Slot := #[.val (.ref b25766), .val (.ref b1), .val (.int (0 : Int32)), .val (.int (31 : Int32)), .val (.int (1 : Int32)), .val (.int (2147483647 : Int32)), .val (.int (31 : Int32))]
abbrev Las2612_8 (b25766 : Addr) (b1 : Addr) : Array Slot := #[.val (.ref b25766), .val (.ref b1), .val (.int (0 : Int32)), .val (.int (62 : Int32)), .val (.int (1 : Int32)), .val (.int (2147483647 : Int32)), .val (.int (31 : Int32))]
abbrev Las2612_9 (b25766 : Addr) (b1 : Addr) : Array Slot := #[.val (.ref b25766), .val (.ref b1), .val (.int (0 : Int32)), .val (.int (62 : Int32)), .val (.int (2 : Int32)), .val (.int (2147483647 : Int32)), .val (.int (31 : Int32))]
abbrev Las2612_10 (b25766 : Addr) (b1 : Addr) : Array Slot := #[.val (.ref b25766), .val (.ref b1), .val (.int (0 : Int32)), .val (.int (62 : Int32)), .val (.int (2 : Int32)), .val (.int (4 : Int32)), .val (.int (31 : Int32))]
abbrev Las2612_11 (b25766 : Addr) (b1 : Addr) : Array Slot := #[.val (.ref b25766), .val (.ref b1), .val (.int (0 : Int32)), .val (.int (62 : Int32)), .val (.int (2 : Int32)), .val (.int (4 : Int32)), .val (.int (2 : Int32))]
abbrev Las2612_12 (b25766 : Addr) (b1 : Addr) : Array Slot := #[.val (.ref b25766), .val (.ref b1), .val (.int (0 : Int32)), .val (.int (64 : Int32)), .val (.int (2 : Int32)), .val (.int (4 : Int32)), .val (.int (2 : Int32))]
abbrev Las2612_13 (b25766 : Addr) (b1 : Addr) : Array Slot := #[.val (.ref b25766), .val (.ref b1), .val (.int (0 : Int32)), .val (.int (64 : Int32)), .val (.int (3 : Int32)), .val (.int (4 : Int32)), .val (.int (2 : Int32))]
abbrev Las2612_14 (b25766 : Addr) (b1 : Addr) : Array Slot := #[.val (.ref b25766), .val (.ref b1), .val (.int (0 : Int32)), .val (.int (64 : Int32)), .val (.int (3 : Int32)), .val (.int (1048576 : Int32)), .val (.int (2 : Int32))]
abbrev Las2612_15 (b25766 : Addr) (b1 : Addr) : Array Slot := #[.val (.ref b25766), .val (.ref b1), .val (.int (0 : Int32)), .val (.int (64 : Int32)), .val (.int (3 : Int32)), .val (.int (1048576 : Int32)), .val (.int (20 : Int32))]
abbrev Las2612_16 (b25766 : Addr) (b1 : Addr) : Array Slot := #[.val (.ref b25766), .val (.ref b1), .val (.int (1 : Int32)), .val (.int (64 : Int32)), .val (.int (3 : Int32)), .val (.int (1048576 : Int32)), .val (.int (20 : Int32))]
abbrev Las2612_17 (b25766 : Addr) (b1 : Addr) : Array Slot := #[.val (.ref b25766), .val (.ref b1), .val (.int (1 : Int32)), .val (.int (0 : Int32)), .val (.int (3 : Int32)), .val (.int (1048576 : Int32)), .val (.int (20 : Int32))]
abbrev Las2612_18 (b25766 : Addr) (b1 : Addr) : Array Slot := #[.val (.ref b25766), .val (.ref b1), .val (.int (1 : Int32)), .val (.int (20 : Int32)), .val (.int (3 : Int32)), .val (.int (1048576 : Int32)), .val (.int (20 : Int32))]
abbrev Las2612_19 (b25766 : Addr) (b1 : Addr) : Array Slot := #[.val (.ref b25766), .val (.ref b1), .val (.int (1 : Int32)), .val (.int (20 : Int32)), .val (.int (4 : Int32)), .val (.int (1048576 : Int32)), .val (.int (20 : Int32))]
abbrev Las2612_20 (b25766 : Addr) (b1 : Addr) : Array Slot := #[.val (.ref b25766), .val (.ref b1), .val (.int (1 : Int32)), .val (.int (20 : Int32)), .val (.int (4 : Int32)), .val (.int (32 : Int32)), .val (.int (20 : Int32))]
abbrev Las2612_21 (b25766 : Addr) (b1 : Addr) : Array Slot := #[.val (.ref b25766), .val (.ref b1), .val (.int (1 : Int32)), .val (.int (20 : Int32)), .val (.int (4 : Int32)), .val (.int (32 : Int32)), .val (.int (5 : Int32))]
abbrev Las2612_22 (b25766 : Addr) (b1 : Addr) : Array Slot := #[.val (.ref b25766), .val (.ref b1), .val (.int (1 : Int32)), .val (.int (25 : Int32)), .val (.int (4 : Int32)), .val (.int (32 : Int32)), .val (.int (5 : Int32))]
abbrev Las2612_23 (b25766 : Addr) (b1 : Addr) : Array Slot := #[.val (.ref b25766), .val (.ref b1), .val (.int (1 : Int32)), .val (.int (25 : Int32)), .val (.int (5 : Int32)), .val (.int (32 : Int32)), .val (.int (5 : Int32))]
set_option maxRecDepth 65536 in
set_option maxHeartbeats 40000000 in
theorem rm12s26 (l : Launch) (Z : State) (a0 : Array Value) (hw : ∀ d ∈ tables_1, d.before a0 Z = true) (ws : List Jvm.Cond) (b1 : Addr) (b3058 : Addr) (b9144 : Addr) (b9244 : Addr) (b13373 : Addr) (b17503 : Addr) (b21634 : Addr) (b25766 : Addr) (h0 : Heap) (n0 : Nat) (Z0 : n0 ≤ h0.size) (E_b1 : Exa Z h0 b1 "java/util/ArrayList") (F_elementData_b1 : Fld Z h0 b1 "java/util/ArrayList" "elementData" "[Ljava/lang/Object;" (.ref b9144)) (F_size_b1 : Fld Z h0 b1 "java/util/ArrayList" "size" "I" (.int (5 : Int32))) (E_b3058 : Exa Z h0 b3058 "com/example/ken2/ken2/InterpretedSystem$Variable") (F_size_b3058 : Fld Z h0 b3058 "com/example/ken2/ken2/InterpretedSystem$Variable" "size" "I" (.int (2147483647 : Int32))) (A_b9144 : AryR Z h0 b9144 "java/lang/Object" 10 (updN (updN (updN (updN (updN (fun _ => Value.null) ((0 : Int32)).toNatClampNeg (Value.ref b3058)) ((1 : Int32)).toNatClampNeg (Value.ref b9244)) ((2 : Int32)).toNatClampNeg (Value.ref b13373)) ((3 : Int32)).toNatClampNeg (Value.ref b17503)) ((4 : Int32)).toNatClampNeg (Value.ref b21634))) (E_b9244 : Exa Z h0 b9244 "com/example/ken2/ken2/InterpretedSystem$Variable") (F_size_b9244 : Fld Z h0 b9244 "com/example/ken2/ken2/InterpretedSystem$Variable" "size" "I" (.int (2147483647 : Int32))) (E_b13373 : Exa Z h0 b13373 "com/example/ken2/ken2/InterpretedSystem$Variable") (F_size_b13373 : Fld Z h0 b13373 "com/example/ken2/ken2/InterpretedSystem$Variable" "size" "I" (.int (4 : Int32))) (E_b17503 : Exa Z h0 b17503 "com/example/ken2/ken2/InterpretedSystem$Variable") (F_size_b17503 : Fld Z h0 b17503 "com/example/ken2/ken2/InterpretedSystem$Variable" "size" "I" (.int (1048576 : Int32))) (E_b21634 : Exa Z h0 b21634 "com/example/ken2/ken2/InterpretedSystem$Variable") (F_size_b21634 : Fld Z h0 b21634 "com/example/ken2/ken2/InterpretedSystem$Variable" "size" "I" (.int (32 : Int32))) (E_b25766 : Exa Z h0 b25766 "com/example/ken2/ken2/StateLayout") (F_m_word_b25766 : Fld Z h0 b25766 "com/example/ken2/ken2/StateLayout" "m_word" "[I" .null) (F_m_shift_b25766 : Fld Z h0 b25766 "com/example/ken2/ken2/StateLayout" "m_shift" "[I" .null) (F_m_mask_b25766 : Fld Z h0 b25766 "com/example/ken2/ken2/StateLayout" "m_mask" "[J" .null) (F_m_width_b25766 : Fld Z h0 b25766 "com/example/ken2/ken2/StateLayout" "m_width" "I" (.int (0 : Int32))) (g_b25766 : n0 ≤ b25766) (ne_b1_b25766 : b1 ≠ b25766) (ne_b3058_b25766 : b3058 ≠ b25766) (ne_b9144_b25766 : b9144 ≠ b25766) (ne_b9244_b25766 : b9244 ≠ b25766) (ne_b13373_b25766 : b13373 ≠ b25766) (ne_b17503_b25766 : b17503 ≠ b25766) (ne_b21634_b25766 : b21634 ≠ b25766) :
    MetFree l Y19 (head1 (Jvm.Cond.code Y19 prog_112_method_1_code 7 none :: ws) ({ frames := 3, cells := 3, slots := 15, locals := 40 } : Room)) (fun a U => a = #[(.ref b25766), (.ref b1)] ∧ Z.Warmed39 U.vm ∧ U.heap = h0) (fun _ _ _ _ _ => True) (fun _ U o U' => ∃ v L, o = .returned v ∧ (Q12s26 Z b1 b3058 b9144 b9244 b13373 b17503 b21634 b25766 h0 n0) v U'.heap L ∧ FrameEnd U o U' L ({ frames := 3, cells := 3, slots := 15, locals := 40 } : Room).cells ({ frames := 3, cells := 3, slots := 15, locals := 40 } : Room).slots) :=
  own_met (ret := none) (Q := (Q12s26 Z b1 b3058 b9144 b9244 b13373 b17503 b21634 b25766 h0 n0)) (plainFor_of_name pn_12) (fun m => ef_12 m b25766 b1) (fun p e s m below meth c T0 X0 hx hby hml hown hnm hZ e0 => by
  have N0 := Fr.nil n0
  refine ost (mkF m 1 (Las2612_0 b25766 b1) [(.ref b25766)]) X0 (fun t k => XS.aloadN X0.here hx rfl (hb hby d12_0) rfl rfl k) ?_
  obtain ⟨T26773, X26773, e26773, st26773⟩ := initO X0 hx hZ hown (hw _ (wm 100 rfl)) (hw _ (wm 19 rfl)) (hw _ (wm 20 rfl)) e0 (g := (mkF m 1 (Las2612_0 b25766 b1) [(.ref b25766)])) rfl (by rw [hml]; rfl) rfl (hb hby d12_1) (by decide) (W := 0) (by show 2 * 0 + _ ≤ _; exact Nat.le_of_eq rfl) (by decide)
  refine ost (mkF m 4 (Las2612_0 b25766 b1) []) X26773 (fun t k => st26773 _ k) ?_
  refine ost (mkF m 5 (Las2612_0 b25766 b1) [(.ref b25766)]) X26773 (fun t k => XS.aloadN X26773.here hx rfl (hb hby d12_4) rfl rfl k) ?_
  refine ost (mkF m 6 (Las2612_0 b25766 b1) [(.ref b1), (.ref b25766)]) X26773 (fun t k => XS.aloadN X26773.here hx rfl (hb hby d12_5) rfl rfl k) ?_
  obtain ⟨_, T26774, L26774, X26774, ⟨rfl, N26774q, u27786⟩, st26774⟩ := own_callF X26773 hx hZ (xi := Y10) (y := Y11) (W := 1) (a := b1) (argsL := []) (rest := [(.ref b25766)]) hown (hw _ (wm 101 rfl)) (hw _ (wm 102 rfl)) (hw _ (wm 103 rfl)) (hw _ (wm 104 rfl)) (hw _ (wm 105 rfl)) (hw _ (wm 106 rfl)) (hw _ (wm 107 rfl)) (hw _ (wm 108 rfl)) (by first | rfl | simp [Cond.onTables, Cond.keepsFace, Cond.keeps, Cond.steady]) (hw _ (wm 2 rfl)) (hw _ (wm 109 rfl)) (by decide) E_b1 (rm13s27 l Z a0 hw [] b1 h0 n0 Z0 F_size_b1) (by decide) (by decide) (by decide) (by decide) e26773 (g := (mkF m 6 (Las2612_0 b25766 b1) [(.ref b1), (.ref b25766)])) rfl (by rw [hml]; rfl) pd_7 rfl rfl (by show 2 * 0 + _ ≤ _; exact Nat.le_of_eq rfl) (hb hby d12_6)
  have N26774 := Fr.app N0 N26774q
  refine ost (mkF m 11 (Las2612_0 b25766 b1) [(.int (5 : Int32)), (.ref b25766)]) X26774 (fun t k => st26774 _ k) ?_
  obtain ⟨T27787, h27787, b27787, X27787, e27787, y27787, K27787, A27787, st27787⟩ := own_new X26774 hx hZ (hw _ (wm 110 rfl)) u27786 (g := (mkF m 11 (Las2612_0 b25766 b1) [(.int (5 : Int32)), (.ref b25766)])) rfl (hb hby d12_11) rfl (by decide) (cap := 5) (by decide) (by decide) (by decide) (by decide)
  have B27787 : Ary Z h27787 b27787 .int 5 (fun i => .int ((fun _ => (0 : Int32)) i)) := A27787
  have ne_b1_b27787 : b1 ≠ b27787 := Exa.neS E_b1 y27787
  have ne_b3058_b27787 : b3058 ≠ b27787 := Exa.neS E_b3058 y27787
  have ne_b9144_b27787 : b9144 ≠ b27787 := AryR.neS A_b9144 y27787
  have ne_b9244_b27787 : b9244 ≠ b27787 := Exa.neS E_b9244 y27787
  have ne_b13373_b27787 : b13373 ≠ b27787 := Exa.neS E_b13373 y27787
  have ne_b17503_b27787 : b17503 ≠ b27787 := Exa.neS E_b17503 y27787
  have ne_b21634_b27787 : b21634 ≠ b27787 := Exa.neS E_b21634 y27787
  have ne_b25766_b27787 : b25766 ≠ b27787 := Exa.neS E_b25766 y27787
  have g_b27787 : n0 ≤ b27787 := by rw [y27787]; exact Z0
  have sz_b27787 : h0.size ≤ b27787 := by rw [y27787]; exact Nat.le_refl h0.size
  have Z27787 := Nat.le_trans Z0 K27787.1
  have S27787 := Nat.le_trans (Nat.le_refl h0.size) K27787.1
  refine ost (mkF m 13 (Las2612_0 b25766 b1) [(.ref b27787), (.ref b25766)]) X27787 (fun t k => st27787 _ k) ?_
  have E27788 := (Exa.keep E_b25766 K27787)
  have F27789 := (F_m_word_b25766.keep K27787 nin0)
  have F27790 := (F_m_shift_b25766.keep K27787 nin0)
  have F27791 := (F_m_mask_b25766.keep K27787 nin0)
  have F27792 := (F_m_width_b25766.keep K27787 nin0)
  obtain ⟨T27793, h27793, L27793, X27793, e27793, N27793, W27793, F27793, st27793⟩ := own_putF X27787 hx hZ hown (hw _ (wm 111 rfl)) e27787 N26774 F27789 E27788 g_b25766 (Or.inr ⟨(hw _ (wm 112 rfl)), rfl, hnm⟩) (hw _ (wm 95 rfl)) (fty := (.array .int)) (by decide) rfl rfl (g := (mkF m 13 (Las2612_0 b25766 b1) [(.ref b27787), (.ref b25766)])) rfl rfl (hb hby d12_13)
  have K27793 := Keep.of_wr W27793
  have Z27793 := Nat.le_trans Z27787 K27793.1
  have S27793 := Nat.le_trans S27787 K27793.1
  have F27794 := Fld.other W27793 F27790 (Or.inr (slot_ne (Or.inr (hw _ (wm 114 rfl))) (Or.inr (hw _ (wm 112 rfl))) (by decide) (t := (.array .int)) (t' := (.array .int)) (by decide) (by decide)))
  have F27795 := Fld.other W27793 F27791 (Or.inr (slot_ne (Or.inr (hw _ (wm 117 rfl))) (Or.inr (hw _ (wm 112 rfl))) (by decide) (t := (.array .long)) (t' := (.array .int)) (by decide) (by decide)))
  have F27796 := Fld.other W27793 F27792 (Or.inr (slot_ne (Or.inr (hw _ (wm 152 rfl))) (Or.inr (hw _ (wm 112 rfl))) (by decide) (t := .int) (t' := (.array .int)) (by decide) (by decide)))
  have E27797 := Exa.wr W27793 E27788
  refine ost (mkF m 16 (Las2612_0 b25766 b1) []) X27793 (fun t k => st27793 _ k) ?_
  refine ost (mkF m 17 (Las2612_0 b25766 b1) [(.ref b25766)]) X27793 (fun t k => XS.aloadN X27793.here hx rfl (hb hby d12_16) rfl rfl k) ?_
  refine ost (mkF m 18 (Las2612_0 b25766 b1) [(.ref b1), (.ref b25766)]) X27793 (fun t k => XS.aloadN X27793.here hx rfl (hb hby d12_17) rfl rfl k) ?_
  have F27799 := ((F_size_b1.keep K27787 nin0).keep K27793 (ninS ne_b1_b25766 nin0))
  have E27801 := (Exa.keep (Exa.keep E_b1 K27787) K27793)
  obtain ⟨_, T27798, L27798, X27798, ⟨rfl, N27798q, u27800⟩, st27798⟩ := own_callF X27793 hx hZ (xi := Y10) (y := Y11) (W := 1) (a := b1) (argsL := []) (rest := [(.ref b25766)]) hown (hw _ (wm 101 rfl)) (hw _ (wm 102 rfl)) (hw _ (wm 103 rfl)) (hw _ (wm 104 rfl)) (hw _ (wm 105 rfl)) (hw _ (wm 106 rfl)) (hw _ (wm 107 rfl)) (hw _ (wm 108 rfl)) (by first | rfl | simp [Cond.onTables, Cond.keepsFace, Cond.keeps, Cond.steady]) (hw _ (wm 2 rfl)) (hw _ (wm 109 rfl)) (by decide) E27801 (rm13s27 l Z a0 hw [] b1 h27793 n0 Z27793 F27799) (by decide) (by decide) (by decide) (by decide) e27793 (g := (mkF m 18 (Las2612_0 b25766 b1) [(.ref b1), (.ref b25766)])) rfl (by rw [hml]; rfl) pd_7 rfl rfl (by show 2 * 0 + _ ≤ _; exact Nat.le_of_eq rfl) (hb hby d12_18)
  have N27798 := Fr.app N27793 N27798q
  refine ost (mkF m 23 (Las2612_0 b25766 b1) [(.int (5 : Int32)), (.ref b25766)]) X27798 (fun t k => st27798 _ k) ?_
  obtain ⟨T27802, h27802, b27802, X27802, e27802, y27802, K27802, A27802, st27802⟩ := own_new X27798 hx hZ (hw _ (wm 110 rfl)) u27800 (g := (mkF m 23 (Las2612_0 b25766 b1) [(.int (5 : Int32)), (.ref b25766)])) rfl (hb hby d12_23) rfl (by decide) (cap := 5) (by decide) (by decide) (by decide) (by decide)
  have B27802 : Ary Z h27802 b27802 .int 5 (fun i => .int ((fun _ => (0 : Int32)) i)) := A27802
  have ne_b1_b27802 : b1 ≠ b27802 := Exa.neS E27801 y27802
  have E27803 := (Exa.keep (Exa.keep E_b3058 K27787) K27793)
  have ne_b3058_b27802 : b3058 ≠ b27802 := Exa.neS E27803 y27802
  have A27804 := ((A_b9144.keep K27787 nin0).keep K27793 (ninS ne_b9144_b25766 nin0))
  have ne_b9144_b27802 : b9144 ≠ b27802 := AryR.neS A27804 y27802
  have E27805 := (Exa.keep (Exa.keep E_b9244 K27787) K27793)
  have ne_b9244_b27802 : b9244 ≠ b27802 := Exa.neS E27805 y27802
  have E27806 := (Exa.keep (Exa.keep E_b13373 K27787) K27793)
  have ne_b13373_b27802 : b13373 ≠ b27802 := Exa.neS E27806 y27802
  have E27807 := (Exa.keep (Exa.keep E_b17503 K27787) K27793)
  have ne_b17503_b27802 : b17503 ≠ b27802 := Exa.neS E27807 y27802
  have E27808 := (Exa.keep (Exa.keep E_b21634 K27787) K27793)
  have ne_b21634_b27802 : b21634 ≠ b27802 := Exa.neS E27808 y27802
  have ne_b25766_b27802 : b25766 ≠ b27802 := Exa.neS E27797 y27802
  have A27809 := (B27787.keep K27793 (ninS (Ne.symm ne_b25766_b27787) nin0))
  have ne_b27787_b27802 : b27787 ≠ b27802 := Ary.neS A27809 y27802
  have g_b27802 : n0 ≤ b27802 := by rw [y27802]; exact Z27793
  have sz_b27802 : h0.size ≤ b27802 := by rw [y27802]; exact S27793
  have Z27802 := Nat.le_trans Z27793 K27802.1
  have S27802 := Nat.le_trans S27793 K27802.1
  refine ost (mkF m 25 (Las2612_0 b25766 b1) [(.ref b27802), (.ref b25766)]) X27802 (fun t k => st27802 _ k) ?_
  have E27810 := (Exa.keep E27797 K27802)
  have F27811 := (F27793.keep K27802 nin0)
  have F27812 := (F27794.keep K27802 nin0)
  have F27813 := (F27795.keep K27802 nin0)
  have F27814 := (F27796.keep K27802 nin0)
  obtain ⟨T27815, h27815, L27815, X27815, e27815, N27815, W27815, F27815, st27815⟩ := own_putF X27802 hx hZ hown (hw _ (wm 113 rfl)) e27802 N27798 F27812 E27810 g_b25766 (Or.inr ⟨(hw _ (wm 114 rfl)), rfl, hnm⟩) (hw _ (wm 95 rfl)) (fty := (.array .int)) (by decide) rfl rfl (g := (mkF m 25 (Las2612_0 b25766 b1) [(.ref b27802), (.ref b25766)])) rfl rfl (hb hby d12_25)
  have K27815 := Keep.of_wr W27815
  have Z27815 := Nat.le_trans Z27802 K27815.1
  have S27815 := Nat.le_trans S27802 K27815.1
  have F27816 := Fld.other W27815 F27811 (Or.inr (slot_ne (Or.inr (hw _ (wm 112 rfl))) (Or.inr (hw _ (wm 114 rfl))) (by decide) (t := (.array .int)) (t' := (.array .int)) (by decide) (by decide)))
  have F27817 := Fld.other W27815 F27813 (Or.inr (slot_ne (Or.inr (hw _ (wm 117 rfl))) (Or.inr (hw _ (wm 114 rfl))) (by decide) (t := (.array .long)) (t' := (.array .int)) (by decide) (by decide)))
  have F27818 := Fld.other W27815 F27814 (Or.inr (slot_ne (Or.inr (hw _ (wm 152 rfl))) (Or.inr (hw _ (wm 114 rfl))) (by decide) (t := .int) (t' := (.array .int)) (by decide) (by decide)))
  have E27819 := Exa.wr W27815 E27810
  refine ost (mkF m 28 (Las2612_0 b25766 b1) []) X27815 (fun t k => st27815 _ k) ?_
  refine ost (mkF m 29 (Las2612_0 b25766 b1) [(.ref b25766)]) X27815 (fun t k => XS.aloadN X27815.here hx rfl (hb hby d12_28) rfl rfl k) ?_
  refine ost (mkF m 30 (Las2612_0 b25766 b1) [(.ref b1), (.ref b25766)]) X27815 (fun t k => XS.aloadN X27815.here hx rfl (hb hby d12_29) rfl rfl k) ?_
  have F27821 := ((F27799.keep K27802 nin0).keep K27815 (ninS ne_b1_b25766 nin0))
  have E27823 := (Exa.keep (Exa.keep E27801 K27802) K27815)
  obtain ⟨_, T27820, L27820, X27820, ⟨rfl, N27820q, u27822⟩, st27820⟩ := own_callF X27815 hx hZ (xi := Y10) (y := Y11) (W := 1) (a := b1) (argsL := []) (rest := [(.ref b25766)]) hown (hw _ (wm 101 rfl)) (hw _ (wm 102 rfl)) (hw _ (wm 103 rfl)) (hw _ (wm 104 rfl)) (hw _ (wm 105 rfl)) (hw _ (wm 106 rfl)) (hw _ (wm 107 rfl)) (hw _ (wm 108 rfl)) (by first | rfl | simp [Cond.onTables, Cond.keepsFace, Cond.keeps, Cond.steady]) (hw _ (wm 2 rfl)) (hw _ (wm 109 rfl)) (by decide) E27823 (rm13s27 l Z a0 hw [] b1 h27815 n0 Z27815 F27821) (by decide) (by decide) (by decide) (by decide) e27815 (g := (mkF m 30 (Las2612_0 b25766 b1) [(.ref b1), (.ref b25766)])) rfl (by rw [hml]; rfl) pd_7 rfl rfl (by show 2 * 0 + _ ≤ _; exact Nat.le_of_eq rfl) (hb hby d12_30)
  have N27820 := Fr.app N27815 N27820q
  refine ost (mkF m 35 (Las2612_0 b25766 b1) [(.int (5 : Int32)), (.ref b25766)]) X27820 (fun t k => st27820 _ k) ?_
  obtain ⟨T27824, h27824, b27824, X27824, e27824, y27824, K27824, A27824, st27824⟩ := own_new X27820 hx hZ (hw _ (wm 115 rfl)) u27822 (g := (mkF m 35 (Las2612_0 b25766 b1) [(.int (5 : Int32)), (.ref b25766)])) rfl (hb hby d12_35) rfl (by decide) (cap := 5) (by decide) (by decide) (by decide) (by decide)
  have B27824 : Ary Z h27824 b27824 .long 5 (fun i => .long ((fun _ => (0 : Int64)) i)) := A27824
  have ne_b1_b27824 : b1 ≠ b27824 := Exa.neS E27823 y27824
  have E27825 := (Exa.keep (Exa.keep E27803 K27802) K27815)
  have ne_b3058_b27824 : b3058 ≠ b27824 := Exa.neS E27825 y27824
  have A27826 := ((A27804.keep K27802 nin0).keep K27815 (ninS ne_b9144_b25766 nin0))
  have ne_b9144_b27824 : b9144 ≠ b27824 := AryR.neS A27826 y27824
  have E27827 := (Exa.keep (Exa.keep E27805 K27802) K27815)
  have ne_b9244_b27824 : b9244 ≠ b27824 := Exa.neS E27827 y27824
  have E27828 := (Exa.keep (Exa.keep E27806 K27802) K27815)
  have ne_b13373_b27824 : b13373 ≠ b27824 := Exa.neS E27828 y27824
  have E27829 := (Exa.keep (Exa.keep E27807 K27802) K27815)
  have ne_b17503_b27824 : b17503 ≠ b27824 := Exa.neS E27829 y27824
  have E27830 := (Exa.keep (Exa.keep E27808 K27802) K27815)
  have ne_b21634_b27824 : b21634 ≠ b27824 := Exa.neS E27830 y27824
  have ne_b25766_b27824 : b25766 ≠ b27824 := Exa.neS E27819 y27824
  have A27831 := ((A27809.keep K27802 nin0).keep K27815 (ninS (Ne.symm ne_b25766_b27787) nin0))
  have ne_b27787_b27824 : b27787 ≠ b27824 := Ary.neS A27831 y27824
  have A27832 := (B27802.keep K27815 (ninS (Ne.symm ne_b25766_b27802) nin0))
  have ne_b27802_b27824 : b27802 ≠ b27824 := Ary.neS A27832 y27824
  have g_b27824 : n0 ≤ b27824 := by rw [y27824]; exact Z27815
  have sz_b27824 : h0.size ≤ b27824 := by rw [y27824]; exact S27815
  have Z27824 := Nat.le_trans Z27815 K27824.1
  have S27824 := Nat.le_trans S27815 K27824.1
  refine ost (mkF m 37 (Las2612_0 b25766 b1) [(.ref b27824), (.ref b25766)]) X27824 (fun t k => st27824 _ k) ?_
  have E27833 := (Exa.keep E27819 K27824)
  have F27834 := (F27816.keep K27824 nin0)
  have F27835 := (F27815.keep K27824 nin0)
  have F27836 := (F27817.keep K27824 nin0)
  have F27837 := (F27818.keep K27824 nin0)
  obtain ⟨T27838, h27838, L27838, X27838, e27838, N27838, W27838, F27838, st27838⟩ := own_putF X27824 hx hZ hown (hw _ (wm 116 rfl)) e27824 N27820 F27836 E27833 g_b25766 (Or.inr ⟨(hw _ (wm 117 rfl)), rfl, hnm⟩) (hw _ (wm 95 rfl)) (fty := (.array .long)) (by decide) rfl rfl (g := (mkF m 37 (Las2612_0 b25766 b1) [(.ref b27824), (.ref b25766)])) rfl rfl (hb hby d12_37)
  have K27838 := Keep.of_wr W27838
  have Z27838 := Nat.le_trans Z27824 K27838.1
  have S27838 := Nat.le_trans S27824 K27838.1
  have F27839 := Fld.other W27838 F27834 (Or.inr (slot_ne (Or.inr (hw _ (wm 112 rfl))) (Or.inr (hw _ (wm 117 rfl))) (by decide) (t := (.array .int)) (t' := (.array .long)) (by decide) (by decide)))
  have F27840 := Fld.other W27838 F27835 (Or.inr (slot_ne (Or.inr (hw _ (wm 114 rfl))) (Or.inr (hw _ (wm 117 rfl))) (by decide) (t := (.array .int)) (t' := (.array .long)) (by decide) (by decide)))
  have F27841 := Fld.other W27838 F27837 (Or.inr (slot_ne (Or.inr (hw _ (wm 152 rfl))) (Or.inr (hw _ (wm 117 rfl))) (by decide) (t := .int) (t' := (.array .long)) (by decide) (by decide)))
  have E27842 := Exa.wr W27838 E27833
  refine ost (mkF m 40 (Las2612_0 b25766 b1) []) X27838 (fun t k => st27838 _ k) ?_
  refine ost (mkF m 41 (Las2612_0 b25766 b1) [(.int (0 : Int32))]) X27838 (fun t k => XS.iconst X27838.here hx rfl (hb hby d12_40) k) ?_
  refine ost (mkF m 42 (Las2612_1 b25766 b1) []) X27838 (fun t k => XS.istoreN X27838.here hx rfl (hb hby d12_41) rfl (l' := (Las2612_1 b25766 b1)) rfl k) ?_
  refine ost (mkF m 43 (Las2612_1 b25766 b1) [(.int (0 : Int32))]) X27838 (fun t k => XS.iconst X27838.here hx rfl (hb hby d12_42) k) ?_
  refine ost (mkF m 44 (Las2612_2 b25766 b1) []) X27838 (fun t k => XS.istoreN X27838.here hx rfl (hb hby d12_43) rfl (l' := (Las2612_2 b25766 b1)) rfl k) ?_
  refine ost (mkF m 45 (Las2612_2 b25766 b1) [(.int (0 : Int32))]) X27838 (fun t k => XS.iconst X27838.here hx rfl (hb hby d12_44) k) ?_
  refine ost (mkF m 47 (Las2612_3 b25766 b1) []) X27838 (fun t k => XS.istore X27838.here hx rfl (hb hby d12_45) rfl (l' := (Las2612_3 b25766 b1)) rfl k) ?_
  refine ost (mkF m 49 (Las2612_3 b25766 b1) [(.int (0 : Int32))]) X27838 (fun t k => XS.iload X27838.here hx rfl (hb hby d12_47) rfl k) ?_
  refine ost (mkF m 50 (Las2612_3 b25766 b1) [(.ref b1), (.int (0 : Int32))]) X27838 (fun t k => XS.aloadN X27838.here hx rfl (hb hby d12_49) rfl rfl k) ?_
  have F27844 := ((F27821.keep K27824 nin0).keep K27838 (ninS ne_b1_b25766 nin0))
  have E27846 := (Exa.keep (Exa.keep E27823 K27824) K27838)
  obtain ⟨_, T27843, L27843, X27843, ⟨rfl, N27843q, u27845⟩, st27843⟩ := own_callF X27838 hx hZ (xi := Y10) (y := Y11) (W := 1) (a := b1) (argsL := []) (rest := [(.int (0 : Int32))]) hown (hw _ (wm 101 rfl)) (hw _ (wm 102 rfl)) (hw _ (wm 103 rfl)) (hw _ (wm 104 rfl)) (hw _ (wm 105 rfl)) (hw _ (wm 106 rfl)) (hw _ (wm 107 rfl)) (hw _ (wm 108 rfl)) (by first | rfl | simp [Cond.onTables, Cond.keepsFace, Cond.keeps, Cond.steady]) (hw _ (wm 2 rfl)) (hw _ (wm 109 rfl)) (by decide) E27846 (rm13s27 l Z a0 hw [] b1 h27838 n0 Z27838 F27844) (by decide) (by decide) (by decide) (by decide) e27838 (g := (mkF m 50 (Las2612_3 b25766 b1) [(.ref b1), (.int (0 : Int32))])) rfl (by rw [hml]; rfl) pd_7 rfl rfl (by show 2 * 0 + _ ≤ _; exact Nat.le_of_eq rfl) (hb hby d12_50)
  have N27843 := Fr.app N27838 N27843q
  refine ost (mkF m 55 (Las2612_3 b25766 b1) [(.int (5 : Int32)), (.int (0 : Int32))]) X27843 (fun t k => st27843 _ k) ?_
  refine ost (mkF m 58 (Las2612_3 b25766 b1) []) X27843 (fun t k => XS.icmpNo X27843.here hx rfl (hb hby d12_55) rfl (tlt (show (0 : Int32) < (5 : Int32) by first | rfl | decide)).2.1 k) ?_
  refine ost (mkF m 59 (Las2612_3 b25766 b1) [(.ref b1)]) X27843 (fun t k => XS.aloadN X27843.here hx rfl (hb hby d12_58) rfl rfl k) ?_
  refine ost (mkF m 61 (Las2612_3 b25766 b1) [(.int (0 : Int32)), (.ref b1)]) X27843 (fun t k => XS.iload X27843.here hx rfl (hb hby d12_59) rfl k) ?_
  have F31896 := ((((((F_elementData_b1.keep K27787 nin0).keep K27793 (ninS ne_b1_b25766 nin0)).keep K27802 nin0).keep K27815 (ninS ne_b1_b25766 nin0)).keep K27824 nin0).keep K27838 (ninS ne_b1_b25766 nin0))
  have A31897 := ((A27826.keep K27824 nin0).keep K27838 (ninS ne_b9144_b25766 nin0))
  obtain ⟨_, T27847, L27847, X27847, ⟨rfl, N27847q, u31898⟩, st27847⟩ := own_callF X27843 hx hZ (xi := Y15) (y := Y16) (W := 0) (a := b1) (argsL := [(.int (0 : Int32))]) (rest := []) hown (hw _ (wm 118 rfl)) (hw _ (wm 119 rfl)) (hw _ (wm 120 rfl)) (hw _ (wm 121 rfl)) (hw _ (wm 122 rfl)) (hw _ (wm 123 rfl)) (hw _ (wm 124 rfl)) (hw _ (wm 108 rfl)) (by first | rfl | simp [Cond.onTables, Cond.keepsFace, Cond.keeps, Cond.steady]) (hw _ (wm 2 rfl)) (hw _ (wm 125 rfl)) (by decide) E27846 (rm14s28 l Z a0 hw [] b1 b3058 b9144 b9244 b13373 b17503 b21634 h27838 n0 Z27838 E27846 F31896 F27844 A31897) (by decide) (by decide) (by decide) (by decide) u27845 (g := (mkF m 61 (Las2612_3 b25766 b1) [(.int (0 : Int32)), (.ref b1)])) rfl (by rw [hml]; rfl) pd_9 rfl rfl (by show 2 * 0 + _ ≤ _; exact Nat.le_of_eq rfl) (hb hby d12_61)
  have N27847 := Fr.app N27843 N27847q
  refine ost (mkF m 66 (Las2612_3 b25766 b1) [(.ref b3058)]) X27847 (fun t k => st27847 _ k) ?_
  have E31900 := (Exa.keep (Exa.keep E27825 K27824) K27838)
  obtain ⟨T31899, X31899, e31899, st31899⟩ := castY X27847 hx hZ hown (hw _ (wm 139 rfl)) u31898 (Ins.of_exa E31900 (hw _ (wm 140 rfl))) (g := (mkF m 66 (Las2612_3 b25766 b1) [(.ref b3058)])) rfl rfl (hb hby d12_66)
  refine ost (mkF m 69 (Las2612_3 b25766 b1) [(.ref b3058)]) X31899 (fun t k => st31899 _ k) ?_
  have F32913 := ((((((F_size_b3058.keep K27787 nin0).keep K27793 (ninS ne_b3058_b25766 nin0)).keep K27802 nin0).keep K27815 (ninS ne_b3058_b25766 nin0)).keep K27824 nin0).keep K27838 (ninS ne_b3058_b25766 nin0))
  obtain ⟨_, T31901, L31901, X31901, ⟨rfl, N31901q, u32914⟩, st31901⟩ := own_callV X31899 hx hZ (y := Y17) (W := 0) (a := b3058) (argsL := []) (rest := []) hown (hw _ (wm 141 rfl)) (hw _ (wm 142 rfl)) (hw _ (wm 144 rfl)) (hw _ (wm 143 rfl)) (hw _ (wm 28 rfl)) (hw _ (wm 145 rfl)) (by decide) E31900 (rm18s32 l Z a0 hw [] b3058 h27838 n0 Z27838 F32913) (by decide) (by decide) (by decide) (by decide) e31899 (g := (mkF m 69 (Las2612_3 b25766 b1) [(.ref b3058)])) rfl (by rw [hml]; rfl) pd_7 rfl rfl (by show 2 * 0 + _ ≤ _; exact Nat.le_of_eq rfl) (hb hby d12_69)
  have N31901 := Fr.app N27847 N31901q
  refine ost (mkF m 72 (Las2612_3 b25766 b1) [(.int (2147483647 : Int32))]) X31901 (fun t k => st31901 _ k) ?_
  refine ost (mkF m 74 (Las2612_4 b25766 b1) []) X31901 (fun t k => XS.istore X31901.here hx rfl (hb hby d12_72) rfl (l' := (Las2612_4 b25766 b1)) rfl k) ?_
  refine ost (mkF m 76 (Las2612_4 b25766 b1) [(.int (32 : Int32))]) X31901 (fun t k => XS.bipush X31901.here hx rfl (hb hby d12_74) k) ?_
  refine ost (mkF m 78 (Las2612_4 b25766 b1) [(.int (2147483647 : Int32)), (.int (32 : Int32))]) X31901 (fun t k => XS.iload X31901.here hx rfl (hb hby d12_76) rfl k) ?_
  refine ost (mkF m 79 (Las2612_4 b25766 b1) [(.int (1 : Int32)), (.int (2147483647 : Int32)), (.int (32 : Int32))]) X31901 (fun t k => XS.iconst X31901.here hx rfl (hb hby d12_78) k) ?_
  refine ost (mkF m 80 (Las2612_4 b25766 b1) [(.int (2147483646 : Int32)), (.int (32 : Int32))]) X31901 (fun t k => XS.isub X31901.here hx rfl (hb hby d12_79) rfl k) ?_
  obtain ⟨_, T32915, L32915, X32915, ⟨rfl, f32915, N32915q⟩, st32915⟩ := own_callS X31901 hx hZ (y := Y18) (W := 1) (argsL := [(.int (2147483646 : Int32))]) (rest := [(.int (32 : Int32))]) hown (hw _ (wm 146 rfl)) (hw _ (wm 147 rfl)) (hw _ (wm 148 rfl)) (hw _ (wm 149 rfl)) (by decide) (rm19 l Z a0 hw [] (2147483646 : Int32) h27838 n0 Z27838) (by decide) (by decide) (by decide) (by decide) u32914 (g := (mkF m 80 (Las2612_4 b25766 b1) [(.int (2147483646 : Int32)), (.int (32 : Int32))])) rfl (by rw [hml]; rfl) pd_10 rfl rfl (by show 2 * 0 + _ ≤ _; exact Nat.le_of_eq rfl) (hb hby d12_80)
  have N32915 := Fr.app N31901 N32915q
  rw [show (r19 (2147483646 : Int32)) = (1 : Int32) from by decide] at st32915
  refine ost (mkF m 83 (Las2612_4 b25766 b1) [(.int (1 : Int32)), (.int (32 : Int32))]) X32915 (fun t k => st32915 _ k) ?_
  refine ost (mkF m 84 (Las2612_4 b25766 b1) [(.int (31 : Int32))]) X32915 (fun t k => XS.isub X32915.here hx rfl (hb hby d12_83) rfl k) ?_
  refine ost (mkF m 86 (Las2612_5 b25766 b1) []) X32915 (fun t k => XS.istore X32915.here hx rfl (hb hby d12_84) rfl (l' := (Las2612_5 b25766 b1)) rfl k) ?_
  refine ost (mkF m 87 (Las2612_5 b25766 b1) [(.int (0 : Int32))]) X32915 (fun t k => XS.iloadN X32915.here hx rfl (hb hby d12_86) rfl k) ?_
  refine ost (mkF m 89 (Las2612_5 b25766 b1) [(.int (31 : Int32)), (.int (0 : Int32))]) X32915 (fun t k => XS.iload X32915.here hx rfl (hb hby d12_87) rfl k) ?_
  refine ost (mkF m 90 (Las2612_5 b25766 b1) [(.int (31 : Int32))]) X32915 (fun t k => XS.iadd X32915.here hx rfl (hb hby d12_89) rfl k) ?_
  refine ost (mkF m 92 (Las2612_5 b25766 b1) [(.int (64 : Int32)), (.int (31 : Int32))]) X32915 (fun t k => XS.bipush X32915.here hx rfl (hb hby d12_90) k) ?_
  refine ost (mkF m 100 (Las2612_5 b25766 b1) []) X32915 (fun t k => XS.icmpYes X32915.here hx rfl (pc0 := 92) (pc' := 100) rfl (hb hby d12_92) rfl (flt (show ¬ ((64 : Int32) < (31 : Int32)) by first | decide | exact Int32.lt_irrefl _ | exact Int64.lt_irrefl _)).2.2.2 (by decide) (by decide) k) ?_
  refine ost (mkF m 101 (Las2612_5 b25766 b1) [(.ref b25766)]) X32915 (fun t k => XS.aloadN X32915.here hx rfl (hb hby d12_100) rfl rfl k) ?_
  obtain ⟨T32916, X32916, e32916, st32916⟩ := getF X32915 hx hZ hown (host := "") (Or.inl (hw _ (wm 111 rfl))) Via.refl f32915 F27839 (g := (mkF m 101 (Las2612_5 b25766 b1) [(.ref b25766)])) rfl rfl (hb hby d12_101)
  refine ost (mkF m 104 (Las2612_5 b25766 b1) [(.ref b27787)]) X32916 (fun t k => st32916 _ k) ?_
  refine ost (mkF m 106 (Las2612_5 b25766 b1) [(.int (0 : Int32)), (.ref b27787)]) X32916 (fun t k => XS.iload X32916.here hx rfl (hb hby d12_104) rfl k) ?_
  refine ost (mkF m 107 (Las2612_5 b25766 b1) [(.int (0 : Int32)), (.int (0 : Int32)), (.ref b27787)]) X32916 (fun t k => XS.iloadN X32916.here hx rfl (hb hby d12_106) rfl k) ?_
  have A32917 := ((A27831.keep K27824 nin0).keep K27838 (ninS (Ne.symm ne_b25766_b27787) nin0))
  obtain ⟨T32918, h32918, L32918, X32918, e32918, N32918, K32918, A32918, st32918⟩ := own_stI X32916 hx hZ e32916 N32915 (G := (fun _ => (0 : Int32))) A32917 g_b27787 (j := (0 : Int32)) (x := (0 : Int32)) (by decide) (g := (mkF m 107 (Las2612_5 b25766 b1) [(.int (0 : Int32)), (.int (0 : Int32)), (.ref b27787)])) rfl rfl (hb hby d12_107)
  have B32918 : Ary Z h32918 b27787 .int 5 (fun i => .int ((Gs2612_107) i)) := A32918
  have Z32918 := Nat.le_trans Z27838 K32918.1
  have S32918 := Nat.le_trans S27838 K32918.1
  refine ost (mkF m 108 (Las2612_5 b25766 b1) []) X32918 (fun t k => st32918 _ k) ?_
  refine ost (mkF m 109 (Las2612_5 b25766 b1) [(.ref b25766)]) X32918 (fun t k => XS.aloadN X32918.here hx rfl (hb hby d12_108) rfl rfl k) ?_
  have F32919 := (F27840.keep K32918 (ninS ne_b25766_b27787 nin0))
  obtain ⟨T32920, X32920, e32920, st32920⟩ := getF X32918 hx hZ hown (host := "") (Or.inl (hw _ (wm 113 rfl))) Via.refl e32918 F32919 (g := (mkF m 109 (Las2612_5 b25766 b1) [(.ref b25766)])) rfl rfl (hb hby d12_109)
  refine ost (mkF m 112 (Las2612_5 b25766 b1) [(.ref b27802)]) X32920 (fun t k => st32920 _ k) ?_
  refine ost (mkF m 114 (Las2612_5 b25766 b1) [(.int (0 : Int32)), (.ref b27802)]) X32920 (fun t k => XS.iload X32920.here hx rfl (hb hby d12_112) rfl k) ?_
  refine ost (mkF m 115 (Las2612_5 b25766 b1) [(.int (0 : Int32)), (.int (0 : Int32)), (.ref b27802)]) X32920 (fun t k => XS.iloadN X32920.here hx rfl (hb hby d12_114) rfl k) ?_
  have A32921 := (((A27832.keep K27824 nin0).keep K27838 (ninS (Ne.symm ne_b25766_b27802) nin0)).keep K32918 (ninS (Ne.symm ne_b27787_b27802) nin0))
  obtain ⟨T32922, h32922, L32922, X32922, e32922, N32922, K32922, A32922, st32922⟩ := own_stI X32920 hx hZ e32920 N32918 (G := (fun _ => (0 : Int32))) A32921 g_b27802 (j := (0 : Int32)) (x := (0 : Int32)) (by decide) (g := (mkF m 115 (Las2612_5 b25766 b1) [(.int (0 : Int32)), (.int (0 : Int32)), (.ref b27802)])) rfl rfl (hb hby d12_115)
  have B32922 : Ary Z h32922 b27802 .int 5 (fun i => .int ((Gs2612_107) i)) := A32922
  have Z32922 := Nat.le_trans Z32918 K32922.1
  have S32922 := Nat.le_trans S32918 K32922.1
  refine ost (mkF m 116 (Las2612_5 b25766 b1) []) X32922 (fun t k => st32922 _ k) ?_
  refine ost (mkF m 117 (Las2612_5 b25766 b1) [(.ref b25766)]) X32922 (fun t k => XS.aloadN X32922.here hx rfl (hb hby d12_116) rfl rfl k) ?_
  have F32923 := ((F27838.keep K32918 (ninS ne_b25766_b27787 nin0)).keep K32922 (ninS ne_b25766_b27802 nin0))
  obtain ⟨T32924, X32924, e32924, st32924⟩ := getF X32922 hx hZ hown (host := "") (Or.inl (hw _ (wm 116 rfl))) Via.refl e32922 F32923 (g := (mkF m 117 (Las2612_5 b25766 b1) [(.ref b25766)])) rfl rfl (hb hby d12_117)
  refine ost (mkF m 120 (Las2612_5 b25766 b1) [(.ref b27824)]) X32924 (fun t k => st32924 _ k) ?_
  refine ost (mkF m 122 (Las2612_5 b25766 b1) [(.int (0 : Int32)), (.ref b27824)]) X32924 (fun t k => XS.iload X32924.here hx rfl (hb hby d12_120) rfl k) ?_
  refine ost (mkF m 123 (Las2612_5 b25766 b1) [(.long (1 : Int64)), (.int (0 : Int32)), (.ref b27824)]) X32924 (fun t k => XT.lconst X32924.here hx rfl (hb hby d12_122) k) ?_
  refine ost (mkF m 125 (Las2612_5 b25766 b1) [(.int (31 : Int32)), (.long (1 : Int64)), (.int (0 : Int32)), (.ref b27824)]) X32924 (fun t k => XS.iload X32924.here hx rfl (hb hby d12_123) rfl k) ?_
  refine ost (mkF m 126 (Las2612_5 b25766 b1) [(.long (2147483648 : Int64)), (.int (0 : Int32)), (.ref b27824)]) X32924 (fun t k => XT.lshl X32924.here hx rfl (hb hby d12_125) rfl k) ?_
  refine ost (mkF m 127 (Las2612_5 b25766 b1) [(.long (1 : Int64)), (.long (2147483648 : Int64)), (.int (0 : Int32)), (.ref b27824)]) X32924 (fun t k => XT.lconst X32924.here hx rfl (hb hby d12_126) k) ?_
  refine ost (mkF m 128 (Las2612_5 b25766 b1) [(.long (2147483647 : Int64)), (.int (0 : Int32)), (.ref b27824)]) X32924 (fun t k => XT.lsub X32924.here hx rfl (hb hby d12_127) rfl k) ?_
  have A32925 := (((B27824.keep K27838 (ninS (Ne.symm ne_b25766_b27824) nin0)).keep K32918 (ninS (Ne.symm ne_b27787_b27824) nin0)).keep K32922 (ninS (Ne.symm ne_b27802_b27824) nin0))
  obtain ⟨T32926, h32926, L32926, X32926, e32926, N32926, K32926, A32926, st32926⟩ := own_stJ X32924 hx hZ e32924 N32922 (G := (fun _ => (0 : Int64))) A32925 g_b27824 (j := (0 : Int32)) (x := (2147483647 : Int64)) (by decide) (g := (mkF m 128 (Las2612_5 b25766 b1) [(.long (2147483647 : Int64)), (.int (0 : Int32)), (.ref b27824)])) rfl rfl (hb hby d12_128)
  have B32926 : Ary Z h32926 b27824 .long 5 (fun i => .long ((Gs2612_128) i)) := A32926
  have Z32926 := Nat.le_trans Z32922 K32926.1
  have S32926 := Nat.le_trans S32922 K32926.1
  refine ost (mkF m 129 (Las2612_5 b25766 b1) []) X32926 (fun t k => st32926 _ k) ?_
  refine ost (mkF m 130 (Las2612_5 b25766 b1) [(.int (0 : Int32))]) X32926 (fun t k => XS.iloadN X32926.here hx rfl (hb hby d12_129) rfl k) ?_
  refine ost (mkF m 132 (Las2612_5 b25766 b1) [(.int (31 : Int32)), (.int (0 : Int32))]) X32926 (fun t k => XS.iload X32926.here hx rfl (hb hby d12_130) rfl k) ?_
  refine ost (mkF m 133 (Las2612_5 b25766 b1) [(.int (31 : Int32))]) X32926 (fun t k => XS.iadd X32926.here hx rfl (hb hby d12_132) rfl k) ?_
  refine ost (mkF m 134 (Las2612_6 b25766 b1) []) X32926 (fun t k => XS.istoreN X32926.here hx rfl (hb hby d12_133) rfl (l' := (Las2612_6 b25766 b1)) rfl k) ?_
  refine ost (mkF m 137 (Las2612_7 b25766 b1) []) X32926 (fun t k => XS.iinc X32926.here hx rfl (hb hby d12_134) rfl (l' := (Las2612_7 b25766 b1)) rfl k) ?_
  refine ost (mkF m 47 (Las2612_7 b25766 b1) []) X32926 (fun t k => XS.goto X32926.here hx rfl (pc0 := 137) (pc' := 47) rfl (hb hby d12_137) (by decide) (by decide) k) ?_
  refine ost (mkF m 49 (Las2612_7 b25766 b1) [(.int (1 : Int32))]) X32926 (fun t k => XS.iload X32926.here hx rfl (hb hby d12_47) rfl k) ?_
  refine ost (mkF m 50 (Las2612_7 b25766 b1) [(.ref b1), (.int (1 : Int32))]) X32926 (fun t k => XS.aloadN X32926.here hx rfl (hb hby d12_49) rfl rfl k) ?_
  have F32928 := (((F27844.keep K32918 (ninS ne_b1_b27787 nin0)).keep K32922 (ninS ne_b1_b27802 nin0)).keep K32926 (ninS ne_b1_b27824 nin0))
  have E32930 := (Exa.keep (Exa.keep (Exa.keep E27846 K32918) K32922) K32926)
  obtain ⟨_, T32927, L32927, X32927, ⟨rfl, N32927q, u32929⟩, st32927⟩ := own_callF X32926 hx hZ (xi := Y10) (y := Y11) (W := 1) (a := b1) (argsL := []) (rest := [(.int (1 : Int32))]) hown (hw _ (wm 101 rfl)) (hw _ (wm 102 rfl)) (hw _ (wm 103 rfl)) (hw _ (wm 104 rfl)) (hw _ (wm 105 rfl)) (hw _ (wm 106 rfl)) (hw _ (wm 107 rfl)) (hw _ (wm 108 rfl)) (by first | rfl | simp [Cond.onTables, Cond.keepsFace, Cond.keeps, Cond.steady]) (hw _ (wm 2 rfl)) (hw _ (wm 109 rfl)) (by decide) E32930 (rm13s27 l Z a0 hw [] b1 h32926 n0 Z32926 F32928) (by decide) (by decide) (by decide) (by decide) e32926 (g := (mkF m 50 (Las2612_7 b25766 b1) [(.ref b1), (.int (1 : Int32))])) rfl (by rw [hml]; rfl) pd_7 rfl rfl (by show 2 * 0 + _ ≤ _; exact Nat.le_of_eq rfl) (hb hby d12_50)
  have N32927 := Fr.app N32926 N32927q
  refine ost (mkF m 55 (Las2612_7 b25766 b1) [(.int (5 : Int32)), (.int (1 : Int32))]) X32927 (fun t k => st32927 _ k) ?_
  refine ost (mkF m 58 (Las2612_7 b25766 b1) []) X32927 (fun t k => XS.icmpNo X32927.here hx rfl (hb hby d12_55) rfl (tlt (show (1 : Int32) < (5 : Int32) by first | rfl | decide)).2.1 k) ?_
  refine ost (mkF m 59 (Las2612_7 b25766 b1) [(.ref b1)]) X32927 (fun t k => XS.aloadN X32927.here hx rfl (hb hby d12_58) rfl rfl k) ?_
  refine ost (mkF m 61 (Las2612_7 b25766 b1) [(.int (1 : Int32)), (.ref b1)]) X32927 (fun t k => XS.iload X32927.here hx rfl (hb hby d12_59) rfl k) ?_
  have F36980 := (((F31896.keep K32918 (ninS ne_b1_b27787 nin0)).keep K32922 (ninS ne_b1_b27802 nin0)).keep K32926 (ninS ne_b1_b27824 nin0))
  have A36981 := (((A31897.keep K32918 (ninS ne_b9144_b27787 nin0)).keep K32922 (ninS ne_b9144_b27802 nin0)).keep K32926 (ninS ne_b9144_b27824 nin0))
  obtain ⟨_, T32931, L32931, X32931, ⟨rfl, N32931q, u36982⟩, st32931⟩ := own_callF X32927 hx hZ (xi := Y15) (y := Y16) (W := 0) (a := b1) (argsL := [(.int (1 : Int32))]) (rest := []) hown (hw _ (wm 118 rfl)) (hw _ (wm 119 rfl)) (hw _ (wm 120 rfl)) (hw _ (wm 121 rfl)) (hw _ (wm 122 rfl)) (hw _ (wm 123 rfl)) (hw _ (wm 124 rfl)) (hw _ (wm 108 rfl)) (by first | rfl | simp [Cond.onTables, Cond.keepsFace, Cond.keeps, Cond.steady]) (hw _ (wm 2 rfl)) (hw _ (wm 125 rfl)) (by decide) E32930 (rm14s33 l Z a0 hw [] b1 b3058 b9144 b9244 b13373 b17503 b21634 h32926 n0 Z32926 E32930 F36980 F32928 A36981) (by decide) (by decide) (by decide) (by decide) u32929 (g := (mkF m 61 (Las2612_7 b25766 b1) [(.int (1 : Int32)), (.ref b1)])) rfl (by rw [hml]; rfl) pd_9 rfl rfl (by show 2 * 0 + _ ≤ _; exact Nat.le_of_eq rfl) (hb hby d12_61)
  have N32931 := Fr.app N32927 N32931q
  refine ost (mkF m 66 (Las2612_7 b25766 b1) [(.ref b9244)]) X32931 (fun t k => st32931 _ k) ?_
  have E36984 := (Exa.keep (Exa.keep (Exa.keep (Exa.keep (Exa.keep E27827 K27824) K27838) K32918) K32922) K32926)
  obtain ⟨T36983, X36983, e36983, st36983⟩ := castY X32931 hx hZ hown (hw _ (wm 139 rfl)) u36982 (Ins.of_exa E36984 (hw _ (wm 140 rfl))) (g := (mkF m 66 (Las2612_7 b25766 b1) [(.ref b9244)])) rfl rfl (hb hby d12_66)
  refine ost (mkF m 69 (Las2612_7 b25766 b1) [(.ref b9244)]) X36983 (fun t k => st36983 _ k) ?_
  have F37997 := (((((((((F_size_b9244.keep K27787 nin0).keep K27793 (ninS ne_b9244_b25766 nin0)).keep K27802 nin0).keep K27815 (ninS ne_b9244_b25766 nin0)).keep K27824 nin0).keep K27838 (ninS ne_b9244_b25766 nin0)).keep K32918 (ninS ne_b9244_b27787 nin0)).keep K32922 (ninS ne_b9244_b27802 nin0)).keep K32926 (ninS ne_b9244_b27824 nin0))
  obtain ⟨_, T36985, L36985, X36985, ⟨rfl, N36985q, u37998⟩, st36985⟩ := own_callV X36983 hx hZ (y := Y17) (W := 0) (a := b9244) (argsL := []) (rest := []) hown (hw _ (wm 141 rfl)) (hw _ (wm 142 rfl)) (hw _ (wm 144 rfl)) (hw _ (wm 143 rfl)) (hw _ (wm 28 rfl)) (hw _ (wm 145 rfl)) (by decide) E36984 (rm18s37 l Z a0 hw [] b9244 h32926 n0 Z32926 F37997) (by decide) (by decide) (by decide) (by decide) e36983 (g := (mkF m 69 (Las2612_7 b25766 b1) [(.ref b9244)])) rfl (by rw [hml]; rfl) pd_7 rfl rfl (by show 2 * 0 + _ ≤ _; exact Nat.le_of_eq rfl) (hb hby d12_69)
  have N36985 := Fr.app N32931 N36985q
  refine ost (mkF m 72 (Las2612_7 b25766 b1) [(.int (2147483647 : Int32))]) X36985 (fun t k => st36985 _ k) ?_
  refine ost (mkF m 74 (Las2612_7 b25766 b1) []) X36985 (fun t k => XS.istore X36985.here hx rfl (hb hby d12_72) rfl (l' := (Las2612_7 b25766 b1)) rfl k) ?_
  refine ost (mkF m 76 (Las2612_7 b25766 b1) [(.int (32 : Int32))]) X36985 (fun t k => XS.bipush X36985.here hx rfl (hb hby d12_74) k) ?_
  refine ost (mkF m 78 (Las2612_7 b25766 b1) [(.int (2147483647 : Int32)), (.int (32 : Int32))]) X36985 (fun t k => XS.iload X36985.here hx rfl (hb hby d12_76) rfl k) ?_
  refine ost (mkF m 79 (Las2612_7 b25766 b1) [(.int (1 : Int32)), (.int (2147483647 : Int32)), (.int (32 : Int32))]) X36985 (fun t k => XS.iconst X36985.here hx rfl (hb hby d12_78) k) ?_
  refine ost (mkF m 80 (Las2612_7 b25766 b1) [(.int (2147483646 : Int32)), (.int (32 : Int32))]) X36985 (fun t k => XS.isub X36985.here hx rfl (hb hby d12_79) rfl k) ?_
  obtain ⟨_, T37999, L37999, X37999, ⟨rfl, f37999, N37999q⟩, st37999⟩ := own_callS X36985 hx hZ (y := Y18) (W := 1) (argsL := [(.int (2147483646 : Int32))]) (rest := [(.int (32 : Int32))]) hown (hw _ (wm 146 rfl)) (hw _ (wm 147 rfl)) (hw _ (wm 148 rfl)) (hw _ (wm 149 rfl)) (by decide) (rm19 l Z a0 hw [] (2147483646 : Int32) h32926 n0 Z32926) (by decide) (by decide) (by decide) (by decide) u37998 (g := (mkF m 80 (Las2612_7 b25766 b1) [(.int (2147483646 : Int32)), (.int (32 : Int32))])) rfl (by rw [hml]; rfl) pd_10 rfl rfl (by show 2 * 0 + _ ≤ _; exact Nat.le_of_eq rfl) (hb hby d12_80)
  have N37999 := Fr.app N36985 N37999q
  rw [show (r19 (2147483646 : Int32)) = (1 : Int32) from by decide] at st37999
  refine ost (mkF m 83 (Las2612_7 b25766 b1) [(.int (1 : Int32)), (.int (32 : Int32))]) X37999 (fun t k => st37999 _ k) ?_
  refine ost (mkF m 84 (Las2612_7 b25766 b1) [(.int (31 : Int32))]) X37999 (fun t k => XS.isub X37999.here hx rfl (hb hby d12_83) rfl k) ?_
  refine ost (mkF m 86 (Las2612_7 b25766 b1) []) X37999 (fun t k => XS.istore X37999.here hx rfl (hb hby d12_84) rfl (l' := (Las2612_7 b25766 b1)) rfl k) ?_
  refine ost (mkF m 87 (Las2612_7 b25766 b1) [(.int (31 : Int32))]) X37999 (fun t k => XS.iloadN X37999.here hx rfl (hb hby d12_86) rfl k) ?_
  refine ost (mkF m 89 (Las2612_7 b25766 b1) [(.int (31 : Int32)), (.int (31 : Int32))]) X37999 (fun t k => XS.iload X37999.here hx rfl (hb hby d12_87) rfl k) ?_
  refine ost (mkF m 90 (Las2612_7 b25766 b1) [(.int (62 : Int32))]) X37999 (fun t k => XS.iadd X37999.here hx rfl (hb hby d12_89) rfl k) ?_
  refine ost (mkF m 92 (Las2612_7 b25766 b1) [(.int (64 : Int32)), (.int (62 : Int32))]) X37999 (fun t k => XS.bipush X37999.here hx rfl (hb hby d12_90) k) ?_
  refine ost (mkF m 100 (Las2612_7 b25766 b1) []) X37999 (fun t k => XS.icmpYes X37999.here hx rfl (pc0 := 92) (pc' := 100) rfl (hb hby d12_92) rfl (flt (show ¬ ((64 : Int32) < (62 : Int32)) by first | decide | exact Int32.lt_irrefl _ | exact Int64.lt_irrefl _)).2.2.2 (by decide) (by decide) k) ?_
  refine ost (mkF m 101 (Las2612_7 b25766 b1) [(.ref b25766)]) X37999 (fun t k => XS.aloadN X37999.here hx rfl (hb hby d12_100) rfl rfl k) ?_
  have F38000 := (((F27839.keep K32918 (ninS ne_b25766_b27787 nin0)).keep K32922 (ninS ne_b25766_b27802 nin0)).keep K32926 (ninS ne_b25766_b27824 nin0))
  obtain ⟨T38001, X38001, e38001, st38001⟩ := getF X37999 hx hZ hown (host := "") (Or.inl (hw _ (wm 111 rfl))) Via.refl f37999 F38000 (g := (mkF m 101 (Las2612_7 b25766 b1) [(.ref b25766)])) rfl rfl (hb hby d12_101)
  refine ost (mkF m 104 (Las2612_7 b25766 b1) [(.ref b27787)]) X38001 (fun t k => st38001 _ k) ?_
  refine ost (mkF m 106 (Las2612_7 b25766 b1) [(.int (1 : Int32)), (.ref b27787)]) X38001 (fun t k => XS.iload X38001.here hx rfl (hb hby d12_104) rfl k) ?_
  refine ost (mkF m 107 (Las2612_7 b25766 b1) [(.int (0 : Int32)), (.int (1 : Int32)), (.ref b27787)]) X38001 (fun t k => XS.iloadN X38001.here hx rfl (hb hby d12_106) rfl k) ?_
  have A38002 := ((B32918.keep K32922 (ninS ne_b27787_b27802 nin0)).keep K32926 (ninS ne_b27787_b27824 nin0))
  obtain ⟨T38003, h38003, L38003, X38003, e38003, N38003, K38003, A38003, st38003⟩ := own_stI X38001 hx hZ e38001 N37999 (G := (Gs2612_107)) A38002 g_b27787 (j := (1 : Int32)) (x := (0 : Int32)) (by decide) (g := (mkF m 107 (Las2612_7 b25766 b1) [(.int (0 : Int32)), (.int (1 : Int32)), (.ref b27787)])) rfl rfl (hb hby d12_107)
  have B38003 : Ary Z h38003 b27787 .int 5 (fun i => .int ((Gs2612_107b) i)) := A38003
  have Z38003 := Nat.le_trans Z32926 K38003.1
  have S38003 := Nat.le_trans S32926 K38003.1
  refine ost (mkF m 108 (Las2612_7 b25766 b1) []) X38003 (fun t k => st38003 _ k) ?_
  refine ost (mkF m 109 (Las2612_7 b25766 b1) [(.ref b25766)]) X38003 (fun t k => XS.aloadN X38003.here hx rfl (hb hby d12_108) rfl rfl k) ?_
  have F38004 := (((F32919.keep K32922 (ninS ne_b25766_b27802 nin0)).keep K32926 (ninS ne_b25766_b27824 nin0)).keep K38003 (ninS ne_b25766_b27787 nin0))
  obtain ⟨T38005, X38005, e38005, st38005⟩ := getF X38003 hx hZ hown (host := "") (Or.inl (hw _ (wm 113 rfl))) Via.refl e38003 F38004 (g := (mkF m 109 (Las2612_7 b25766 b1) [(.ref b25766)])) rfl rfl (hb hby d12_109)
  refine ost (mkF m 112 (Las2612_7 b25766 b1) [(.ref b27802)]) X38005 (fun t k => st38005 _ k) ?_
  refine ost (mkF m 114 (Las2612_7 b25766 b1) [(.int (1 : Int32)), (.ref b27802)]) X38005 (fun t k => XS.iload X38005.here hx rfl (hb hby d12_112) rfl k) ?_
  refine ost (mkF m 115 (Las2612_7 b25766 b1) [(.int (31 : Int32)), (.int (1 : Int32)), (.ref b27802)]) X38005 (fun t k => XS.iloadN X38005.here hx rfl (hb hby d12_114) rfl k) ?_
  have A38006 := ((B32922.keep K32926 (ninS ne_b27802_b27824 nin0)).keep K38003 (ninS (Ne.symm ne_b27787_b27802) nin0))
  obtain ⟨T38007, h38007, L38007, X38007, e38007, N38007, K38007, A38007, st38007⟩ := own_stI X38005 hx hZ e38005 N38003 (G := (Gs2612_107)) A38006 g_b27802 (j := (1 : Int32)) (x := (31 : Int32)) (by decide) (g := (mkF m 115 (Las2612_7 b25766 b1) [(.int (31 : Int32)), (.int (1 : Int32)), (.ref b27802)])) rfl rfl (hb hby d12_115)
  have B38007 : Ary Z h38007 b27802 .int 5 (fun i => .int ((Gs2612_115) i)) := A38007
  have Z38007 := Nat.le_trans Z38003 K38007.1
  have S38007 := Nat.le_trans S38003 K38007.1
  refine ost (mkF m 116 (Las2612_7 b25766 b1) []) X38007 (fun t k => st38007 _ k) ?_
  refine ost (mkF m 117 (Las2612_7 b25766 b1) [(.ref b25766)]) X38007 (fun t k => XS.aloadN X38007.here hx rfl (hb hby d12_116) rfl rfl k) ?_
  have F38008 := (((F32923.keep K32926 (ninS ne_b25766_b27824 nin0)).keep K38003 (ninS ne_b25766_b27787 nin0)).keep K38007 (ninS ne_b25766_b27802 nin0))
  obtain ⟨T38009, X38009, e38009, st38009⟩ := getF X38007 hx hZ hown (host := "") (Or.inl (hw _ (wm 116 rfl))) Via.refl e38007 F38008 (g := (mkF m 117 (Las2612_7 b25766 b1) [(.ref b25766)])) rfl rfl (hb hby d12_117)
  refine ost (mkF m 120 (Las2612_7 b25766 b1) [(.ref b27824)]) X38009 (fun t k => st38009 _ k) ?_
  refine ost (mkF m 122 (Las2612_7 b25766 b1) [(.int (1 : Int32)), (.ref b27824)]) X38009 (fun t k => XS.iload X38009.here hx rfl (hb hby d12_120) rfl k) ?_
  refine ost (mkF m 123 (Las2612_7 b25766 b1) [(.long (1 : Int64)), (.int (1 : Int32)), (.ref b27824)]) X38009 (fun t k => XT.lconst X38009.here hx rfl (hb hby d12_122) k) ?_
  refine ost (mkF m 125 (Las2612_7 b25766 b1) [(.int (31 : Int32)), (.long (1 : Int64)), (.int (1 : Int32)), (.ref b27824)]) X38009 (fun t k => XS.iload X38009.here hx rfl (hb hby d12_123) rfl k) ?_
  refine ost (mkF m 126 (Las2612_7 b25766 b1) [(.long (2147483648 : Int64)), (.int (1 : Int32)), (.ref b27824)]) X38009 (fun t k => XT.lshl X38009.here hx rfl (hb hby d12_125) rfl k) ?_
  refine ost (mkF m 127 (Las2612_7 b25766 b1) [(.long (1 : Int64)), (.long (2147483648 : Int64)), (.int (1 : Int32)), (.ref b27824)]) X38009 (fun t k => XT.lconst X38009.here hx rfl (hb hby d12_126) k) ?_
  refine ost (mkF m 128 (Las2612_7 b25766 b1) [(.long (2147483647 : Int64)), (.int (1 : Int32)), (.ref b27824)]) X38009 (fun t k => XT.lsub X38009.here hx rfl (hb hby d12_127) rfl k) ?_
  have A38010 := ((B32926.keep K38003 (ninS (Ne.symm ne_b27787_b27824) nin0)).keep K38007 (ninS (Ne.symm ne_b27802_b27824) nin0))
  obtain ⟨T38011, h38011, L38011, X38011, e38011, N38011, K38011, A38011, st38011⟩ := own_stJ X38009 hx hZ e38009 N38007 (G := (Gs2612_128)) A38010 g_b27824 (j := (1 : Int32)) (x := (2147483647 : Int64)) (by decide) (g := (mkF m 128 (Las2612_7 b25766 b1) [(.long (2147483647 : Int64)), (.int (1 : Int32)), (.ref b27824)])) rfl rfl (hb hby d12_128)
  have B38011 : Ary Z h38011 b27824 .long 5 (fun i => .long ((Gs2612_128b) i)) := A38011
  have Z38011 := Nat.le_trans Z38007 K38011.1
  have S38011 := Nat.le_trans S38007 K38011.1
  refine ost (mkF m 129 (Las2612_7 b25766 b1) []) X38011 (fun t k => st38011 _ k) ?_
  refine ost (mkF m 130 (Las2612_7 b25766 b1) [(.int (31 : Int32))]) X38011 (fun t k => XS.iloadN X38011.here hx rfl (hb hby d12_129) rfl k) ?_
  refine ost (mkF m 132 (Las2612_7 b25766 b1) [(.int (31 : Int32)), (.int (31 : Int32))]) X38011 (fun t k => XS.iload X38011.here hx rfl (hb hby d12_130) rfl k) ?_
  refine ost (mkF m 133 (Las2612_7 b25766 b1) [(.int (62 : Int32))]) X38011 (fun t k => XS.iadd X38011.here hx rfl (hb hby d12_132) rfl k) ?_
  refine ost (mkF m 134 (Las2612_8 b25766 b1) []) X38011 (fun t k => XS.istoreN X38011.here hx rfl (hb hby d12_133) rfl (l' := (Las2612_8 b25766 b1)) rfl k) ?_
  refine ost (mkF m 137 (Las2612_9 b25766 b1) []) X38011 (fun t k => XS.iinc X38011.here hx rfl (hb hby d12_134) rfl (l' := (Las2612_9 b25766 b1)) rfl k) ?_
  refine ost (mkF m 47 (Las2612_9 b25766 b1) []) X38011 (fun t k => XS.goto X38011.here hx rfl (pc0 := 137) (pc' := 47) rfl (hb hby d12_137) (by decide) (by decide) k) ?_
  refine ost (mkF m 49 (Las2612_9 b25766 b1) [(.int (2 : Int32))]) X38011 (fun t k => XS.iload X38011.here hx rfl (hb hby d12_47) rfl k) ?_
  refine ost (mkF m 50 (Las2612_9 b25766 b1) [(.ref b1), (.int (2 : Int32))]) X38011 (fun t k => XS.aloadN X38011.here hx rfl (hb hby d12_49) rfl rfl k) ?_
  have F38013 := (((F32928.keep K38003 (ninS ne_b1_b27787 nin0)).keep K38007 (ninS ne_b1_b27802 nin0)).keep K38011 (ninS ne_b1_b27824 nin0))
  have E38015 := (Exa.keep (Exa.keep (Exa.keep E32930 K38003) K38007) K38011)
  obtain ⟨_, T38012, L38012, X38012, ⟨rfl, N38012q, u38014⟩, st38012⟩ := own_callF X38011 hx hZ (xi := Y10) (y := Y11) (W := 1) (a := b1) (argsL := []) (rest := [(.int (2 : Int32))]) hown (hw _ (wm 101 rfl)) (hw _ (wm 102 rfl)) (hw _ (wm 103 rfl)) (hw _ (wm 104 rfl)) (hw _ (wm 105 rfl)) (hw _ (wm 106 rfl)) (hw _ (wm 107 rfl)) (hw _ (wm 108 rfl)) (by first | rfl | simp [Cond.onTables, Cond.keepsFace, Cond.keeps, Cond.steady]) (hw _ (wm 2 rfl)) (hw _ (wm 109 rfl)) (by decide) E38015 (rm13s27 l Z a0 hw [] b1 h38011 n0 Z38011 F38013) (by decide) (by decide) (by decide) (by decide) e38011 (g := (mkF m 50 (Las2612_9 b25766 b1) [(.ref b1), (.int (2 : Int32))])) rfl (by rw [hml]; rfl) pd_7 rfl rfl (by show 2 * 0 + _ ≤ _; exact Nat.le_of_eq rfl) (hb hby d12_50)
  have N38012 := Fr.app N38011 N38012q
  refine ost (mkF m 55 (Las2612_9 b25766 b1) [(.int (5 : Int32)), (.int (2 : Int32))]) X38012 (fun t k => st38012 _ k) ?_
  refine ost (mkF m 58 (Las2612_9 b25766 b1) []) X38012 (fun t k => XS.icmpNo X38012.here hx rfl (hb hby d12_55) rfl (tlt (show (2 : Int32) < (5 : Int32) by first | rfl | decide)).2.1 k) ?_
  refine ost (mkF m 59 (Las2612_9 b25766 b1) [(.ref b1)]) X38012 (fun t k => XS.aloadN X38012.here hx rfl (hb hby d12_58) rfl rfl k) ?_
  refine ost (mkF m 61 (Las2612_9 b25766 b1) [(.int (2 : Int32)), (.ref b1)]) X38012 (fun t k => XS.iload X38012.here hx rfl (hb hby d12_59) rfl k) ?_
  have F42065 := (((F36980.keep K38003 (ninS ne_b1_b27787 nin0)).keep K38007 (ninS ne_b1_b27802 nin0)).keep K38011 (ninS ne_b1_b27824 nin0))
  have A42066 := (((A36981.keep K38003 (ninS ne_b9144_b27787 nin0)).keep K38007 (ninS ne_b9144_b27802 nin0)).keep K38011 (ninS ne_b9144_b27824 nin0))
  obtain ⟨_, T38016, L38016, X38016, ⟨rfl, N38016q, u42067⟩, st38016⟩ := own_callF X38012 hx hZ (xi := Y15) (y := Y16) (W := 0) (a := b1) (argsL := [(.int (2 : Int32))]) (rest := []) hown (hw _ (wm 118 rfl)) (hw _ (wm 119 rfl)) (hw _ (wm 120 rfl)) (hw _ (wm 121 rfl)) (hw _ (wm 122 rfl)) (hw _ (wm 123 rfl)) (hw _ (wm 124 rfl)) (hw _ (wm 108 rfl)) (by first | rfl | simp [Cond.onTables, Cond.keepsFace, Cond.keeps, Cond.steady]) (hw _ (wm 2 rfl)) (hw _ (wm 125 rfl)) (by decide) E38015 (rm14s38 l Z a0 hw [] b1 b3058 b9144 b9244 b13373 b17503 b21634 h38011 n0 Z38011 E38015 F42065 F38013 A42066) (by decide) (by decide) (by decide) (by decide) u38014 (g := (mkF m 61 (Las2612_9 b25766 b1) [(.int (2 : Int32)), (.ref b1)])) rfl (by rw [hml]; rfl) pd_9 rfl rfl (by show 2 * 0 + _ ≤ _; exact Nat.le_of_eq rfl) (hb hby d12_61)
  have N38016 := Fr.app N38012 N38016q
  refine ost (mkF m 66 (Las2612_9 b25766 b1) [(.ref b13373)]) X38016 (fun t k => st38016 _ k) ?_
  have E42069 := (Exa.keep (Exa.keep (Exa.keep (Exa.keep (Exa.keep (Exa.keep (Exa.keep (Exa.keep E27828 K27824) K27838) K32918) K32922) K32926) K38003) K38007) K38011)
  obtain ⟨T42068, X42068, e42068, st42068⟩ := castY X38016 hx hZ hown (hw _ (wm 139 rfl)) u42067 (Ins.of_exa E42069 (hw _ (wm 140 rfl))) (g := (mkF m 66 (Las2612_9 b25766 b1) [(.ref b13373)])) rfl rfl (hb hby d12_66)
  refine ost (mkF m 69 (Las2612_9 b25766 b1) [(.ref b13373)]) X42068 (fun t k => st42068 _ k) ?_
  have F43082 := ((((((((((((F_size_b13373.keep K27787 nin0).keep K27793 (ninS ne_b13373_b25766 nin0)).keep K27802 nin0).keep K27815 (ninS ne_b13373_b25766 nin0)).keep K27824 nin0).keep K27838 (ninS ne_b13373_b25766 nin0)).keep K32918 (ninS ne_b13373_b27787 nin0)).keep K32922 (ninS ne_b13373_b27802 nin0)).keep K32926 (ninS ne_b13373_b27824 nin0)).keep K38003 (ninS ne_b13373_b27787 nin0)).keep K38007 (ninS ne_b13373_b27802 nin0)).keep K38011 (ninS ne_b13373_b27824 nin0))
  obtain ⟨_, T42070, L42070, X42070, ⟨rfl, N42070q, u43083⟩, st42070⟩ := own_callV X42068 hx hZ (y := Y17) (W := 0) (a := b13373) (argsL := []) (rest := []) hown (hw _ (wm 141 rfl)) (hw _ (wm 142 rfl)) (hw _ (wm 144 rfl)) (hw _ (wm 143 rfl)) (hw _ (wm 28 rfl)) (hw _ (wm 145 rfl)) (by decide) E42069 (rm18s42 l Z a0 hw [] b13373 h38011 n0 Z38011 F43082) (by decide) (by decide) (by decide) (by decide) e42068 (g := (mkF m 69 (Las2612_9 b25766 b1) [(.ref b13373)])) rfl (by rw [hml]; rfl) pd_7 rfl rfl (by show 2 * 0 + _ ≤ _; exact Nat.le_of_eq rfl) (hb hby d12_69)
  have N42070 := Fr.app N38016 N42070q
  refine ost (mkF m 72 (Las2612_9 b25766 b1) [(.int (4 : Int32))]) X42070 (fun t k => st42070 _ k) ?_
  refine ost (mkF m 74 (Las2612_10 b25766 b1) []) X42070 (fun t k => XS.istore X42070.here hx rfl (hb hby d12_72) rfl (l' := (Las2612_10 b25766 b1)) rfl k) ?_
  refine ost (mkF m 76 (Las2612_10 b25766 b1) [(.int (32 : Int32))]) X42070 (fun t k => XS.bipush X42070.here hx rfl (hb hby d12_74) k) ?_
  refine ost (mkF m 78 (Las2612_10 b25766 b1) [(.int (4 : Int32)), (.int (32 : Int32))]) X42070 (fun t k => XS.iload X42070.here hx rfl (hb hby d12_76) rfl k) ?_
  refine ost (mkF m 79 (Las2612_10 b25766 b1) [(.int (1 : Int32)), (.int (4 : Int32)), (.int (32 : Int32))]) X42070 (fun t k => XS.iconst X42070.here hx rfl (hb hby d12_78) k) ?_
  refine ost (mkF m 80 (Las2612_10 b25766 b1) [(.int (3 : Int32)), (.int (32 : Int32))]) X42070 (fun t k => XS.isub X42070.here hx rfl (hb hby d12_79) rfl k) ?_
  obtain ⟨_, T43084, L43084, X43084, ⟨rfl, f43084, N43084q⟩, st43084⟩ := own_callS X42070 hx hZ (y := Y18) (W := 1) (argsL := [(.int (3 : Int32))]) (rest := [(.int (32 : Int32))]) hown (hw _ (wm 146 rfl)) (hw _ (wm 147 rfl)) (hw _ (wm 148 rfl)) (hw _ (wm 149 rfl)) (by decide) (rm19 l Z a0 hw [] (3 : Int32) h38011 n0 Z38011) (by decide) (by decide) (by decide) (by decide) u43083 (g := (mkF m 80 (Las2612_10 b25766 b1) [(.int (3 : Int32)), (.int (32 : Int32))])) rfl (by rw [hml]; rfl) pd_10 rfl rfl (by show 2 * 0 + _ ≤ _; exact Nat.le_of_eq rfl) (hb hby d12_80)
  have N43084 := Fr.app N42070 N43084q
  rw [show (r19 (3 : Int32)) = (30 : Int32) from by decide] at st43084
  refine ost (mkF m 83 (Las2612_10 b25766 b1) [(.int (30 : Int32)), (.int (32 : Int32))]) X43084 (fun t k => st43084 _ k) ?_
  refine ost (mkF m 84 (Las2612_10 b25766 b1) [(.int (2 : Int32))]) X43084 (fun t k => XS.isub X43084.here hx rfl (hb hby d12_83) rfl k) ?_
  refine ost (mkF m 86 (Las2612_11 b25766 b1) []) X43084 (fun t k => XS.istore X43084.here hx rfl (hb hby d12_84) rfl (l' := (Las2612_11 b25766 b1)) rfl k) ?_
  refine ost (mkF m 87 (Las2612_11 b25766 b1) [(.int (62 : Int32))]) X43084 (fun t k => XS.iloadN X43084.here hx rfl (hb hby d12_86) rfl k) ?_
  refine ost (mkF m 89 (Las2612_11 b25766 b1) [(.int (2 : Int32)), (.int (62 : Int32))]) X43084 (fun t k => XS.iload X43084.here hx rfl (hb hby d12_87) rfl k) ?_
  refine ost (mkF m 90 (Las2612_11 b25766 b1) [(.int (64 : Int32))]) X43084 (fun t k => XS.iadd X43084.here hx rfl (hb hby d12_89) rfl k) ?_
  refine ost (mkF m 92 (Las2612_11 b25766 b1) [(.int (64 : Int32)), (.int (64 : Int32))]) X43084 (fun t k => XS.bipush X43084.here hx rfl (hb hby d12_90) k) ?_
  refine ost (mkF m 100 (Las2612_11 b25766 b1) []) X43084 (fun t k => XS.icmpYes X43084.here hx rfl (pc0 := 92) (pc' := 100) rfl (hb hby d12_92) rfl (flt (show ¬ ((64 : Int32) < (64 : Int32)) by first | decide | exact Int32.lt_irrefl _ | exact Int64.lt_irrefl _)).2.2.2 (by decide) (by decide) k) ?_
  refine ost (mkF m 101 (Las2612_11 b25766 b1) [(.ref b25766)]) X43084 (fun t k => XS.aloadN X43084.here hx rfl (hb hby d12_100) rfl rfl k) ?_
  have F43085 := (((F38000.keep K38003 (ninS ne_b25766_b27787 nin0)).keep K38007 (ninS ne_b25766_b27802 nin0)).keep K38011 (ninS ne_b25766_b27824 nin0))
  obtain ⟨T43086, X43086, e43086, st43086⟩ := getF X43084 hx hZ hown (host := "") (Or.inl (hw _ (wm 111 rfl))) Via.refl f43084 F43085 (g := (mkF m 101 (Las2612_11 b25766 b1) [(.ref b25766)])) rfl rfl (hb hby d12_101)
  refine ost (mkF m 104 (Las2612_11 b25766 b1) [(.ref b27787)]) X43086 (fun t k => st43086 _ k) ?_
  refine ost (mkF m 106 (Las2612_11 b25766 b1) [(.int (2 : Int32)), (.ref b27787)]) X43086 (fun t k => XS.iload X43086.here hx rfl (hb hby d12_104) rfl k) ?_
  refine ost (mkF m 107 (Las2612_11 b25766 b1) [(.int (0 : Int32)), (.int (2 : Int32)), (.ref b27787)]) X43086 (fun t k => XS.iloadN X43086.here hx rfl (hb hby d12_106) rfl k) ?_
  have A43087 := ((B38003.keep K38007 (ninS ne_b27787_b27802 nin0)).keep K38011 (ninS ne_b27787_b27824 nin0))
  obtain ⟨T43088, h43088, L43088, X43088, e43088, N43088, K43088, A43088, st43088⟩ := own_stI X43086 hx hZ e43086 N43084 (G := (Gs2612_107b)) A43087 g_b27787 (j := (2 : Int32)) (x := (0 : Int32)) (by decide) (g := (mkF m 107 (Las2612_11 b25766 b1) [(.int (0 : Int32)), (.int (2 : Int32)), (.ref b27787)])) rfl rfl (hb hby d12_107)
  have B43088 : Ary Z h43088 b27787 .int 5 (fun i => .int ((Gs2612_107bb) i)) := A43088
  have Z43088 := Nat.le_trans Z38011 K43088.1
  have S43088 := Nat.le_trans S38011 K43088.1
  refine ost (mkF m 108 (Las2612_11 b25766 b1) []) X43088 (fun t k => st43088 _ k) ?_
  refine ost (mkF m 109 (Las2612_11 b25766 b1) [(.ref b25766)]) X43088 (fun t k => XS.aloadN X43088.here hx rfl (hb hby d12_108) rfl rfl k) ?_
  have F43089 := (((F38004.keep K38007 (ninS ne_b25766_b27802 nin0)).keep K38011 (ninS ne_b25766_b27824 nin0)).keep K43088 (ninS ne_b25766_b27787 nin0))
  obtain ⟨T43090, X43090, e43090, st43090⟩ := getF X43088 hx hZ hown (host := "") (Or.inl (hw _ (wm 113 rfl))) Via.refl e43088 F43089 (g := (mkF m 109 (Las2612_11 b25766 b1) [(.ref b25766)])) rfl rfl (hb hby d12_109)
  refine ost (mkF m 112 (Las2612_11 b25766 b1) [(.ref b27802)]) X43090 (fun t k => st43090 _ k) ?_
  refine ost (mkF m 114 (Las2612_11 b25766 b1) [(.int (2 : Int32)), (.ref b27802)]) X43090 (fun t k => XS.iload X43090.here hx rfl (hb hby d12_112) rfl k) ?_
  refine ost (mkF m 115 (Las2612_11 b25766 b1) [(.int (62 : Int32)), (.int (2 : Int32)), (.ref b27802)]) X43090 (fun t k => XS.iloadN X43090.here hx rfl (hb hby d12_114) rfl k) ?_
  have A43091 := ((B38007.keep K38011 (ninS ne_b27802_b27824 nin0)).keep K43088 (ninS (Ne.symm ne_b27787_b27802) nin0))
  obtain ⟨T43092, h43092, L43092, X43092, e43092, N43092, K43092, A43092, st43092⟩ := own_stI X43090 hx hZ e43090 N43088 (G := (Gs2612_115)) A43091 g_b27802 (j := (2 : Int32)) (x := (62 : Int32)) (by decide) (g := (mkF m 115 (Las2612_11 b25766 b1) [(.int (62 : Int32)), (.int (2 : Int32)), (.ref b27802)])) rfl rfl (hb hby d12_115)
  have B43092 : Ary Z h43092 b27802 .int 5 (fun i => .int ((Gs2612_115b) i)) := A43092
  have Z43092 := Nat.le_trans Z43088 K43092.1
  have S43092 := Nat.le_trans S43088 K43092.1
  refine ost (mkF m 116 (Las2612_11 b25766 b1) []) X43092 (fun t k => st43092 _ k) ?_
  refine ost (mkF m 117 (Las2612_11 b25766 b1) [(.ref b25766)]) X43092 (fun t k => XS.aloadN X43092.here hx rfl (hb hby d12_116) rfl rfl k) ?_
  have F43093 := (((F38008.keep K38011 (ninS ne_b25766_b27824 nin0)).keep K43088 (ninS ne_b25766_b27787 nin0)).keep K43092 (ninS ne_b25766_b27802 nin0))
  obtain ⟨T43094, X43094, e43094, st43094⟩ := getF X43092 hx hZ hown (host := "") (Or.inl (hw _ (wm 116 rfl))) Via.refl e43092 F43093 (g := (mkF m 117 (Las2612_11 b25766 b1) [(.ref b25766)])) rfl rfl (hb hby d12_117)
  refine ost (mkF m 120 (Las2612_11 b25766 b1) [(.ref b27824)]) X43094 (fun t k => st43094 _ k) ?_
  refine ost (mkF m 122 (Las2612_11 b25766 b1) [(.int (2 : Int32)), (.ref b27824)]) X43094 (fun t k => XS.iload X43094.here hx rfl (hb hby d12_120) rfl k) ?_
  refine ost (mkF m 123 (Las2612_11 b25766 b1) [(.long (1 : Int64)), (.int (2 : Int32)), (.ref b27824)]) X43094 (fun t k => XT.lconst X43094.here hx rfl (hb hby d12_122) k) ?_
  refine ost (mkF m 125 (Las2612_11 b25766 b1) [(.int (2 : Int32)), (.long (1 : Int64)), (.int (2 : Int32)), (.ref b27824)]) X43094 (fun t k => XS.iload X43094.here hx rfl (hb hby d12_123) rfl k) ?_
  refine ost (mkF m 126 (Las2612_11 b25766 b1) [(.long (4 : Int64)), (.int (2 : Int32)), (.ref b27824)]) X43094 (fun t k => XT.lshl X43094.here hx rfl (hb hby d12_125) rfl k) ?_
  refine ost (mkF m 127 (Las2612_11 b25766 b1) [(.long (1 : Int64)), (.long (4 : Int64)), (.int (2 : Int32)), (.ref b27824)]) X43094 (fun t k => XT.lconst X43094.here hx rfl (hb hby d12_126) k) ?_
  refine ost (mkF m 128 (Las2612_11 b25766 b1) [(.long (3 : Int64)), (.int (2 : Int32)), (.ref b27824)]) X43094 (fun t k => XT.lsub X43094.here hx rfl (hb hby d12_127) rfl k) ?_
  have A43095 := ((B38011.keep K43088 (ninS (Ne.symm ne_b27787_b27824) nin0)).keep K43092 (ninS (Ne.symm ne_b27802_b27824) nin0))
  obtain ⟨T43096, h43096, L43096, X43096, e43096, N43096, K43096, A43096, st43096⟩ := own_stJ X43094 hx hZ e43094 N43092 (G := (Gs2612_128b)) A43095 g_b27824 (j := (2 : Int32)) (x := (3 : Int64)) (by decide) (g := (mkF m 128 (Las2612_11 b25766 b1) [(.long (3 : Int64)), (.int (2 : Int32)), (.ref b27824)])) rfl rfl (hb hby d12_128)
  have B43096 : Ary Z h43096 b27824 .long 5 (fun i => .long ((Gs2612_128bb) i)) := A43096
  have Z43096 := Nat.le_trans Z43092 K43096.1
  have S43096 := Nat.le_trans S43092 K43096.1
  refine ost (mkF m 129 (Las2612_11 b25766 b1) []) X43096 (fun t k => st43096 _ k) ?_
  refine ost (mkF m 130 (Las2612_11 b25766 b1) [(.int (62 : Int32))]) X43096 (fun t k => XS.iloadN X43096.here hx rfl (hb hby d12_129) rfl k) ?_
  refine ost (mkF m 132 (Las2612_11 b25766 b1) [(.int (2 : Int32)), (.int (62 : Int32))]) X43096 (fun t k => XS.iload X43096.here hx rfl (hb hby d12_130) rfl k) ?_
  refine ost (mkF m 133 (Las2612_11 b25766 b1) [(.int (64 : Int32))]) X43096 (fun t k => XS.iadd X43096.here hx rfl (hb hby d12_132) rfl k) ?_
  refine ost (mkF m 134 (Las2612_12 b25766 b1) []) X43096 (fun t k => XS.istoreN X43096.here hx rfl (hb hby d12_133) rfl (l' := (Las2612_12 b25766 b1)) rfl k) ?_
  refine ost (mkF m 137 (Las2612_13 b25766 b1) []) X43096 (fun t k => XS.iinc X43096.here hx rfl (hb hby d12_134) rfl (l' := (Las2612_13 b25766 b1)) rfl k) ?_
  refine ost (mkF m 47 (Las2612_13 b25766 b1) []) X43096 (fun t k => XS.goto X43096.here hx rfl (pc0 := 137) (pc' := 47) rfl (hb hby d12_137) (by decide) (by decide) k) ?_
  refine ost (mkF m 49 (Las2612_13 b25766 b1) [(.int (3 : Int32))]) X43096 (fun t k => XS.iload X43096.here hx rfl (hb hby d12_47) rfl k) ?_
  refine ost (mkF m 50 (Las2612_13 b25766 b1) [(.ref b1), (.int (3 : Int32))]) X43096 (fun t k => XS.aloadN X43096.here hx rfl (hb hby d12_49) rfl rfl k) ?_
  have F43098 := (((F38013.keep K43088 (ninS ne_b1_b27787 nin0)).keep K43092 (ninS ne_b1_b27802 nin0)).keep K43096 (ninS ne_b1_b27824 nin0))
  have E43100 := (Exa.keep (Exa.keep (Exa.keep E38015 K43088) K43092) K43096)
  obtain ⟨_, T43097, L43097, X43097, ⟨rfl, N43097q, u43099⟩, st43097⟩ := own_callF X43096 hx hZ (xi := Y10) (y := Y11) (W := 1) (a := b1) (argsL := []) (rest := [(.int (3 : Int32))]) hown (hw _ (wm 101 rfl)) (hw _ (wm 102 rfl)) (hw _ (wm 103 rfl)) (hw _ (wm 104 rfl)) (hw _ (wm 105 rfl)) (hw _ (wm 106 rfl)) (hw _ (wm 107 rfl)) (hw _ (wm 108 rfl)) (by first | rfl | simp [Cond.onTables, Cond.keepsFace, Cond.keeps, Cond.steady]) (hw _ (wm 2 rfl)) (hw _ (wm 109 rfl)) (by decide) E43100 (rm13s27 l Z a0 hw [] b1 h43096 n0 Z43096 F43098) (by decide) (by decide) (by decide) (by decide) e43096 (g := (mkF m 50 (Las2612_13 b25766 b1) [(.ref b1), (.int (3 : Int32))])) rfl (by rw [hml]; rfl) pd_7 rfl rfl (by show 2 * 0 + _ ≤ _; exact Nat.le_of_eq rfl) (hb hby d12_50)
  have N43097 := Fr.app N43096 N43097q
  refine ost (mkF m 55 (Las2612_13 b25766 b1) [(.int (5 : Int32)), (.int (3 : Int32))]) X43097 (fun t k => st43097 _ k) ?_
  refine ost (mkF m 58 (Las2612_13 b25766 b1) []) X43097 (fun t k => XS.icmpNo X43097.here hx rfl (hb hby d12_55) rfl (tlt (show (3 : Int32) < (5 : Int32) by first | rfl | decide)).2.1 k) ?_
  refine ost (mkF m 59 (Las2612_13 b25766 b1) [(.ref b1)]) X43097 (fun t k => XS.aloadN X43097.here hx rfl (hb hby d12_58) rfl rfl k) ?_
  refine ost (mkF m 61 (Las2612_13 b25766 b1) [(.int (3 : Int32)), (.ref b1)]) X43097 (fun t k => XS.iload X43097.here hx rfl (hb hby d12_59) rfl k) ?_
  have F47150 := (((F42065.keep K43088 (ninS ne_b1_b27787 nin0)).keep K43092 (ninS ne_b1_b27802 nin0)).keep K43096 (ninS ne_b1_b27824 nin0))
  have A47151 := (((A42066.keep K43088 (ninS ne_b9144_b27787 nin0)).keep K43092 (ninS ne_b9144_b27802 nin0)).keep K43096 (ninS ne_b9144_b27824 nin0))
  obtain ⟨_, T43101, L43101, X43101, ⟨rfl, N43101q, u47152⟩, st43101⟩ := own_callF X43097 hx hZ (xi := Y15) (y := Y16) (W := 0) (a := b1) (argsL := [(.int (3 : Int32))]) (rest := []) hown (hw _ (wm 118 rfl)) (hw _ (wm 119 rfl)) (hw _ (wm 120 rfl)) (hw _ (wm 121 rfl)) (hw _ (wm 122 rfl)) (hw _ (wm 123 rfl)) (hw _ (wm 124 rfl)) (hw _ (wm 108 rfl)) (by first | rfl | simp [Cond.onTables, Cond.keepsFace, Cond.keeps, Cond.steady]) (hw _ (wm 2 rfl)) (hw _ (wm 125 rfl)) (by decide) E43100 (rm14s43 l Z a0 hw [] b1 b3058 b9144 b9244 b13373 b17503 b21634 h43096 n0 Z43096 E43100 F47150 F43098 A47151) (by decide) (by decide) (by decide) (by decide) u43099 (g := (mkF m 61 (Las2612_13 b25766 b1) [(.int (3 : Int32)), (.ref b1)])) rfl (by rw [hml]; rfl) pd_9 rfl rfl (by show 2 * 0 + _ ≤ _; exact Nat.le_of_eq rfl) (hb hby d12_61)
  have N43101 := Fr.app N43097 N43101q
  refine ost (mkF m 66 (Las2612_13 b25766 b1) [(.ref b17503)]) X43101 (fun t k => st43101 _ k) ?_
  have E47154 := (Exa.keep (Exa.keep (Exa.keep (Exa.keep (Exa.keep (Exa.keep (Exa.keep (Exa.keep (Exa.keep (Exa.keep (Exa.keep E27829 K27824) K27838) K32918) K32922) K32926) K38003) K38007) K38011) K43088) K43092) K43096)
  obtain ⟨T47153, X47153, e47153, st47153⟩ := castY X43101 hx hZ hown (hw _ (wm 139 rfl)) u47152 (Ins.of_exa E47154 (hw _ (wm 140 rfl))) (g := (mkF m 66 (Las2612_13 b25766 b1) [(.ref b17503)])) rfl rfl (hb hby d12_66)
  refine ost (mkF m 69 (Las2612_13 b25766 b1) [(.ref b17503)]) X47153 (fun t k => st47153 _ k) ?_
  have F48167 := (((((((((((((((F_size_b17503.keep K27787 nin0).keep K27793 (ninS ne_b17503_b25766 nin0)).keep K27802 nin0).keep K27815 (ninS ne_b17503_b25766 nin0)).keep K27824 nin0).keep K27838 (ninS ne_b17503_b25766 nin0)).keep K32918 (ninS ne_b17503_b27787 nin0)).keep K32922 (ninS ne_b17503_b27802 nin0)).keep K32926 (ninS ne_b17503_b27824 nin0)).keep K38003 (ninS ne_b17503_b27787 nin0)).keep K38007 (ninS ne_b17503_b27802 nin0)).keep K38011 (ninS ne_b17503_b27824 nin0)).keep K43088 (ninS ne_b17503_b27787 nin0)).keep K43092 (ninS ne_b17503_b27802 nin0)).keep K43096 (ninS ne_b17503_b27824 nin0))
  obtain ⟨_, T47155, L47155, X47155, ⟨rfl, N47155q, u48168⟩, st47155⟩ := own_callV X47153 hx hZ (y := Y17) (W := 0) (a := b17503) (argsL := []) (rest := []) hown (hw _ (wm 141 rfl)) (hw _ (wm 142 rfl)) (hw _ (wm 144 rfl)) (hw _ (wm 143 rfl)) (hw _ (wm 28 rfl)) (hw _ (wm 145 rfl)) (by decide) E47154 (rm18s47 l Z a0 hw [] b17503 h43096 n0 Z43096 F48167) (by decide) (by decide) (by decide) (by decide) e47153 (g := (mkF m 69 (Las2612_13 b25766 b1) [(.ref b17503)])) rfl (by rw [hml]; rfl) pd_7 rfl rfl (by show 2 * 0 + _ ≤ _; exact Nat.le_of_eq rfl) (hb hby d12_69)
  have N47155 := Fr.app N43101 N47155q
  refine ost (mkF m 72 (Las2612_13 b25766 b1) [(.int (1048576 : Int32))]) X47155 (fun t k => st47155 _ k) ?_
  refine ost (mkF m 74 (Las2612_14 b25766 b1) []) X47155 (fun t k => XS.istore X47155.here hx rfl (hb hby d12_72) rfl (l' := (Las2612_14 b25766 b1)) rfl k) ?_
  refine ost (mkF m 76 (Las2612_14 b25766 b1) [(.int (32 : Int32))]) X47155 (fun t k => XS.bipush X47155.here hx rfl (hb hby d12_74) k) ?_
  refine ost (mkF m 78 (Las2612_14 b25766 b1) [(.int (1048576 : Int32)), (.int (32 : Int32))]) X47155 (fun t k => XS.iload X47155.here hx rfl (hb hby d12_76) rfl k) ?_
  refine ost (mkF m 79 (Las2612_14 b25766 b1) [(.int (1 : Int32)), (.int (1048576 : Int32)), (.int (32 : Int32))]) X47155 (fun t k => XS.iconst X47155.here hx rfl (hb hby d12_78) k) ?_
  refine ost (mkF m 80 (Las2612_14 b25766 b1) [(.int (1048575 : Int32)), (.int (32 : Int32))]) X47155 (fun t k => XS.isub X47155.here hx rfl (hb hby d12_79) rfl k) ?_
  obtain ⟨_, T48169, L48169, X48169, ⟨rfl, f48169, N48169q⟩, st48169⟩ := own_callS X47155 hx hZ (y := Y18) (W := 1) (argsL := [(.int (1048575 : Int32))]) (rest := [(.int (32 : Int32))]) hown (hw _ (wm 146 rfl)) (hw _ (wm 147 rfl)) (hw _ (wm 148 rfl)) (hw _ (wm 149 rfl)) (by decide) (rm19 l Z a0 hw [] (1048575 : Int32) h43096 n0 Z43096) (by decide) (by decide) (by decide) (by decide) u48168 (g := (mkF m 80 (Las2612_14 b25766 b1) [(.int (1048575 : Int32)), (.int (32 : Int32))])) rfl (by rw [hml]; rfl) pd_10 rfl rfl (by show 2 * 0 + _ ≤ _; exact Nat.le_of_eq rfl) (hb hby d12_80)
  have N48169 := Fr.app N47155 N48169q
  rw [show (r19 (1048575 : Int32)) = (12 : Int32) from by decide] at st48169
  refine ost (mkF m 83 (Las2612_14 b25766 b1) [(.int (12 : Int32)), (.int (32 : Int32))]) X48169 (fun t k => st48169 _ k) ?_
  refine ost (mkF m 84 (Las2612_14 b25766 b1) [(.int (20 : Int32))]) X48169 (fun t k => XS.isub X48169.here hx rfl (hb hby d12_83) rfl k) ?_
  refine ost (mkF m 86 (Las2612_15 b25766 b1) []) X48169 (fun t k => XS.istore X48169.here hx rfl (hb hby d12_84) rfl (l' := (Las2612_15 b25766 b1)) rfl k) ?_
  refine ost (mkF m 87 (Las2612_15 b25766 b1) [(.int (64 : Int32))]) X48169 (fun t k => XS.iloadN X48169.here hx rfl (hb hby d12_86) rfl k) ?_
  refine ost (mkF m 89 (Las2612_15 b25766 b1) [(.int (20 : Int32)), (.int (64 : Int32))]) X48169 (fun t k => XS.iload X48169.here hx rfl (hb hby d12_87) rfl k) ?_
  refine ost (mkF m 90 (Las2612_15 b25766 b1) [(.int (84 : Int32))]) X48169 (fun t k => XS.iadd X48169.here hx rfl (hb hby d12_89) rfl k) ?_
  refine ost (mkF m 92 (Las2612_15 b25766 b1) [(.int (64 : Int32)), (.int (84 : Int32))]) X48169 (fun t k => XS.bipush X48169.here hx rfl (hb hby d12_90) k) ?_
  refine ost (mkF m 95 (Las2612_15 b25766 b1) []) X48169 (fun t k => XS.icmpNo X48169.here hx rfl (hb hby d12_92) rfl (tlt (show (64 : Int32) < (84 : Int32) by first | rfl | decide)).2.2.2 k) ?_
  refine ost (mkF m 98 (Las2612_16 b25766 b1) []) X48169 (fun t k => XS.iinc X48169.here hx rfl (hb hby d12_95) rfl (l' := (Las2612_16 b25766 b1)) rfl k) ?_
  refine ost (mkF m 99 (Las2612_16 b25766 b1) [(.int (0 : Int32))]) X48169 (fun t k => XS.iconst X48169.here hx rfl (hb hby d12_98) k) ?_
  refine ost (mkF m 100 (Las2612_17 b25766 b1) []) X48169 (fun t k => XS.istoreN X48169.here hx rfl (hb hby d12_99) rfl (l' := (Las2612_17 b25766 b1)) rfl k) ?_
  refine ost (mkF m 101 (Las2612_17 b25766 b1) [(.ref b25766)]) X48169 (fun t k => XS.aloadN X48169.here hx rfl (hb hby d12_100) rfl rfl k) ?_
  have F48170 := (((F43085.keep K43088 (ninS ne_b25766_b27787 nin0)).keep K43092 (ninS ne_b25766_b27802 nin0)).keep K43096 (ninS ne_b25766_b27824 nin0))
  obtain ⟨T48171, X48171, e48171, st48171⟩ := getF X48169 hx hZ hown (host := "") (Or.inl (hw _ (wm 111 rfl))) Via.refl f48169 F48170 (g := (mkF m 101 (Las2612_17 b25766 b1) [(.ref b25766)])) rfl rfl (hb hby d12_101)
  refine ost (mkF m 104 (Las2612_17 b25766 b1) [(.ref b27787)]) X48171 (fun t k => st48171 _ k) ?_
  refine ost (mkF m 106 (Las2612_17 b25766 b1) [(.int (3 : Int32)), (.ref b27787)]) X48171 (fun t k => XS.iload X48171.here hx rfl (hb hby d12_104) rfl k) ?_
  refine ost (mkF m 107 (Las2612_17 b25766 b1) [(.int (1 : Int32)), (.int (3 : Int32)), (.ref b27787)]) X48171 (fun t k => XS.iloadN X48171.here hx rfl (hb hby d12_106) rfl k) ?_
  have A48172 := ((B43088.keep K43092 (ninS ne_b27787_b27802 nin0)).keep K43096 (ninS ne_b27787_b27824 nin0))
  obtain ⟨T48173, h48173, L48173, X48173, e48173, N48173, K48173, A48173, st48173⟩ := own_stI X48171 hx hZ e48171 N48169 (G := (Gs2612_107bb)) A48172 g_b27787 (j := (3 : Int32)) (x := (1 : Int32)) (by decide) (g := (mkF m 107 (Las2612_17 b25766 b1) [(.int (1 : Int32)), (.int (3 : Int32)), (.ref b27787)])) rfl rfl (hb hby d12_107)
  have B48173 : Ary Z h48173 b27787 .int 5 (fun i => .int ((Gs2612_107bbb) i)) := A48173
  have Z48173 := Nat.le_trans Z43096 K48173.1
  have S48173 := Nat.le_trans S43096 K48173.1
  refine ost (mkF m 108 (Las2612_17 b25766 b1) []) X48173 (fun t k => st48173 _ k) ?_
  refine ost (mkF m 109 (Las2612_17 b25766 b1) [(.ref b25766)]) X48173 (fun t k => XS.aloadN X48173.here hx rfl (hb hby d12_108) rfl rfl k) ?_
  have F48174 := (((F43089.keep K43092 (ninS ne_b25766_b27802 nin0)).keep K43096 (ninS ne_b25766_b27824 nin0)).keep K48173 (ninS ne_b25766_b27787 nin0))
  obtain ⟨T48175, X48175, e48175, st48175⟩ := getF X48173 hx hZ hown (host := "") (Or.inl (hw _ (wm 113 rfl))) Via.refl e48173 F48174 (g := (mkF m 109 (Las2612_17 b25766 b1) [(.ref b25766)])) rfl rfl (hb hby d12_109)
  refine ost (mkF m 112 (Las2612_17 b25766 b1) [(.ref b27802)]) X48175 (fun t k => st48175 _ k) ?_
  refine ost (mkF m 114 (Las2612_17 b25766 b1) [(.int (3 : Int32)), (.ref b27802)]) X48175 (fun t k => XS.iload X48175.here hx rfl (hb hby d12_112) rfl k) ?_
  refine ost (mkF m 115 (Las2612_17 b25766 b1) [(.int (0 : Int32)), (.int (3 : Int32)), (.ref b27802)]) X48175 (fun t k => XS.iloadN X48175.here hx rfl (hb hby d12_114) rfl k) ?_
  have A48176 := ((B43092.keep K43096 (ninS ne_b27802_b27824 nin0)).keep K48173 (ninS (Ne.symm ne_b27787_b27802) nin0))
  obtain ⟨T48177, h48177, L48177, X48177, e48177, N48177, K48177, A48177, st48177⟩ := own_stI X48175 hx hZ e48175 N48173 (G := (Gs2612_115b)) A48176 g_b27802 (j := (3 : Int32)) (x := (0 : Int32)) (by decide) (g := (mkF m 115 (Las2612_17 b25766 b1) [(.int (0 : Int32)), (.int (3 : Int32)), (.ref b27802)])) rfl rfl (hb hby d12_115)
  have B48177 : Ary Z h48177 b27802 .int 5 (fun i => .int ((Gs2612_115bb) i)) := A48177
  have Z48177 := Nat.le_trans Z48173 K48177.1
  have S48177 := Nat.le_trans S48173 K48177.1
  refine ost (mkF m 116 (Las2612_17 b25766 b1) []) X48177 (fun t k => st48177 _ k) ?_
  refine ost (mkF m 117 (Las2612_17 b25766 b1) [(.ref b25766)]) X48177 (fun t k => XS.aloadN X48177.here hx rfl (hb hby d12_116) rfl rfl k) ?_
  have F48178 := (((F43093.keep K43096 (ninS ne_b25766_b27824 nin0)).keep K48173 (ninS ne_b25766_b27787 nin0)).keep K48177 (ninS ne_b25766_b27802 nin0))
  obtain ⟨T48179, X48179, e48179, st48179⟩ := getF X48177 hx hZ hown (host := "") (Or.inl (hw _ (wm 116 rfl))) Via.refl e48177 F48178 (g := (mkF m 117 (Las2612_17 b25766 b1) [(.ref b25766)])) rfl rfl (hb hby d12_117)
  refine ost (mkF m 120 (Las2612_17 b25766 b1) [(.ref b27824)]) X48179 (fun t k => st48179 _ k) ?_
  refine ost (mkF m 122 (Las2612_17 b25766 b1) [(.int (3 : Int32)), (.ref b27824)]) X48179 (fun t k => XS.iload X48179.here hx rfl (hb hby d12_120) rfl k) ?_
  refine ost (mkF m 123 (Las2612_17 b25766 b1) [(.long (1 : Int64)), (.int (3 : Int32)), (.ref b27824)]) X48179 (fun t k => XT.lconst X48179.here hx rfl (hb hby d12_122) k) ?_
  refine ost (mkF m 125 (Las2612_17 b25766 b1) [(.int (20 : Int32)), (.long (1 : Int64)), (.int (3 : Int32)), (.ref b27824)]) X48179 (fun t k => XS.iload X48179.here hx rfl (hb hby d12_123) rfl k) ?_
  refine ost (mkF m 126 (Las2612_17 b25766 b1) [(.long (1048576 : Int64)), (.int (3 : Int32)), (.ref b27824)]) X48179 (fun t k => XT.lshl X48179.here hx rfl (hb hby d12_125) rfl k) ?_
  refine ost (mkF m 127 (Las2612_17 b25766 b1) [(.long (1 : Int64)), (.long (1048576 : Int64)), (.int (3 : Int32)), (.ref b27824)]) X48179 (fun t k => XT.lconst X48179.here hx rfl (hb hby d12_126) k) ?_
  refine ost (mkF m 128 (Las2612_17 b25766 b1) [(.long (1048575 : Int64)), (.int (3 : Int32)), (.ref b27824)]) X48179 (fun t k => XT.lsub X48179.here hx rfl (hb hby d12_127) rfl k) ?_
  have A48180 := ((B43096.keep K48173 (ninS (Ne.symm ne_b27787_b27824) nin0)).keep K48177 (ninS (Ne.symm ne_b27802_b27824) nin0))
  obtain ⟨T48181, h48181, L48181, X48181, e48181, N48181, K48181, A48181, st48181⟩ := own_stJ X48179 hx hZ e48179 N48177 (G := (Gs2612_128bb)) A48180 g_b27824 (j := (3 : Int32)) (x := (1048575 : Int64)) (by decide) (g := (mkF m 128 (Las2612_17 b25766 b1) [(.long (1048575 : Int64)), (.int (3 : Int32)), (.ref b27824)])) rfl rfl (hb hby d12_128)
  have B48181 : Ary Z h48181 b27824 .long 5 (fun i => .long ((Gs2612_128bbb) i)) := A48181
  have Z48181 := Nat.le_trans Z48177 K48181.1
  have S48181 := Nat.le_trans S48177 K48181.1
  refine ost (mkF m 129 (Las2612_17 b25766 b1) []) X48181 (fun t k => st48181 _ k) ?_
  refine ost (mkF m 130 (Las2612_17 b25766 b1) [(.int (0 : Int32))]) X48181 (fun t k => XS.iloadN X48181.here hx rfl (hb hby d12_129) rfl k) ?_
  refine ost (mkF m 132 (Las2612_17 b25766 b1) [(.int (20 : Int32)), (.int (0 : Int32))]) X48181 (fun t k => XS.iload X48181.here hx rfl (hb hby d12_130) rfl k) ?_
  refine ost (mkF m 133 (Las2612_17 b25766 b1) [(.int (20 : Int32))]) X48181 (fun t k => XS.iadd X48181.here hx rfl (hb hby d12_132) rfl k) ?_
  refine ost (mkF m 134 (Las2612_18 b25766 b1) []) X48181 (fun t k => XS.istoreN X48181.here hx rfl (hb hby d12_133) rfl (l' := (Las2612_18 b25766 b1)) rfl k) ?_
  refine ost (mkF m 137 (Las2612_19 b25766 b1) []) X48181 (fun t k => XS.iinc X48181.here hx rfl (hb hby d12_134) rfl (l' := (Las2612_19 b25766 b1)) rfl k) ?_
  refine ost (mkF m 47 (Las2612_19 b25766 b1) []) X48181 (fun t k => XS.goto X48181.here hx rfl (pc0 := 137) (pc' := 47) rfl (hb hby d12_137) (by decide) (by decide) k) ?_
  refine ost (mkF m 49 (Las2612_19 b25766 b1) [(.int (4 : Int32))]) X48181 (fun t k => XS.iload X48181.here hx rfl (hb hby d12_47) rfl k) ?_
  refine ost (mkF m 50 (Las2612_19 b25766 b1) [(.ref b1), (.int (4 : Int32))]) X48181 (fun t k => XS.aloadN X48181.here hx rfl (hb hby d12_49) rfl rfl k) ?_
  have F48183 := (((F43098.keep K48173 (ninS ne_b1_b27787 nin0)).keep K48177 (ninS ne_b1_b27802 nin0)).keep K48181 (ninS ne_b1_b27824 nin0))
  have E48185 := (Exa.keep (Exa.keep (Exa.keep E43100 K48173) K48177) K48181)
  obtain ⟨_, T48182, L48182, X48182, ⟨rfl, N48182q, u48184⟩, st48182⟩ := own_callF X48181 hx hZ (xi := Y10) (y := Y11) (W := 1) (a := b1) (argsL := []) (rest := [(.int (4 : Int32))]) hown (hw _ (wm 101 rfl)) (hw _ (wm 102 rfl)) (hw _ (wm 103 rfl)) (hw _ (wm 104 rfl)) (hw _ (wm 105 rfl)) (hw _ (wm 106 rfl)) (hw _ (wm 107 rfl)) (hw _ (wm 108 rfl)) (by first | rfl | simp [Cond.onTables, Cond.keepsFace, Cond.keeps, Cond.steady]) (hw _ (wm 2 rfl)) (hw _ (wm 109 rfl)) (by decide) E48185 (rm13s27 l Z a0 hw [] b1 h48181 n0 Z48181 F48183) (by decide) (by decide) (by decide) (by decide) e48181 (g := (mkF m 50 (Las2612_19 b25766 b1) [(.ref b1), (.int (4 : Int32))])) rfl (by rw [hml]; rfl) pd_7 rfl rfl (by show 2 * 0 + _ ≤ _; exact Nat.le_of_eq rfl) (hb hby d12_50)
  have N48182 := Fr.app N48181 N48182q
  refine ost (mkF m 55 (Las2612_19 b25766 b1) [(.int (5 : Int32)), (.int (4 : Int32))]) X48182 (fun t k => st48182 _ k) ?_
  refine ost (mkF m 58 (Las2612_19 b25766 b1) []) X48182 (fun t k => XS.icmpNo X48182.here hx rfl (hb hby d12_55) rfl (tlt (show (4 : Int32) < (5 : Int32) by first | rfl | decide)).2.1 k) ?_
  refine ost (mkF m 59 (Las2612_19 b25766 b1) [(.ref b1)]) X48182 (fun t k => XS.aloadN X48182.here hx rfl (hb hby d12_58) rfl rfl k) ?_
  refine ost (mkF m 61 (Las2612_19 b25766 b1) [(.int (4 : Int32)), (.ref b1)]) X48182 (fun t k => XS.iload X48182.here hx rfl (hb hby d12_59) rfl k) ?_
  have F52235 := (((F47150.keep K48173 (ninS ne_b1_b27787 nin0)).keep K48177 (ninS ne_b1_b27802 nin0)).keep K48181 (ninS ne_b1_b27824 nin0))
  have A52236 := (((A47151.keep K48173 (ninS ne_b9144_b27787 nin0)).keep K48177 (ninS ne_b9144_b27802 nin0)).keep K48181 (ninS ne_b9144_b27824 nin0))
  obtain ⟨_, T48186, L48186, X48186, ⟨rfl, N48186q, u52237⟩, st48186⟩ := own_callF X48182 hx hZ (xi := Y15) (y := Y16) (W := 0) (a := b1) (argsL := [(.int (4 : Int32))]) (rest := []) hown (hw _ (wm 118 rfl)) (hw _ (wm 119 rfl)) (hw _ (wm 120 rfl)) (hw _ (wm 121 rfl)) (hw _ (wm 122 rfl)) (hw _ (wm 123 rfl)) (hw _ (wm 124 rfl)) (hw _ (wm 108 rfl)) (by first | rfl | simp [Cond.onTables, Cond.keepsFace, Cond.keeps, Cond.steady]) (hw _ (wm 2 rfl)) (hw _ (wm 125 rfl)) (by decide) E48185 (rm14s48 l Z a0 hw [] b1 b3058 b9144 b9244 b13373 b17503 b21634 h48181 n0 Z48181 E48185 F52235 F48183 A52236) (by decide) (by decide) (by decide) (by decide) u48184 (g := (mkF m 61 (Las2612_19 b25766 b1) [(.int (4 : Int32)), (.ref b1)])) rfl (by rw [hml]; rfl) pd_9 rfl rfl (by show 2 * 0 + _ ≤ _; exact Nat.le_of_eq rfl) (hb hby d12_61)
  have N48186 := Fr.app N48182 N48186q
  refine ost (mkF m 66 (Las2612_19 b25766 b1) [(.ref b21634)]) X48186 (fun t k => st48186 _ k) ?_
  have E52239 := (Exa.keep (Exa.keep (Exa.keep (Exa.keep (Exa.keep (Exa.keep (Exa.keep (Exa.keep (Exa.keep (Exa.keep (Exa.keep (Exa.keep (Exa.keep (Exa.keep E27830 K27824) K27838) K32918) K32922) K32926) K38003) K38007) K38011) K43088) K43092) K43096) K48173) K48177) K48181)
  obtain ⟨T52238, X52238, e52238, st52238⟩ := castY X48186 hx hZ hown (hw _ (wm 139 rfl)) u52237 (Ins.of_exa E52239 (hw _ (wm 140 rfl))) (g := (mkF m 66 (Las2612_19 b25766 b1) [(.ref b21634)])) rfl rfl (hb hby d12_66)
  refine ost (mkF m 69 (Las2612_19 b25766 b1) [(.ref b21634)]) X52238 (fun t k => st52238 _ k) ?_
  have F53252 := ((((((((((((((((((F_size_b21634.keep K27787 nin0).keep K27793 (ninS ne_b21634_b25766 nin0)).keep K27802 nin0).keep K27815 (ninS ne_b21634_b25766 nin0)).keep K27824 nin0).keep K27838 (ninS ne_b21634_b25766 nin0)).keep K32918 (ninS ne_b21634_b27787 nin0)).keep K32922 (ninS ne_b21634_b27802 nin0)).keep K32926 (ninS ne_b21634_b27824 nin0)).keep K38003 (ninS ne_b21634_b27787 nin0)).keep K38007 (ninS ne_b21634_b27802 nin0)).keep K38011 (ninS ne_b21634_b27824 nin0)).keep K43088 (ninS ne_b21634_b27787 nin0)).keep K43092 (ninS ne_b21634_b27802 nin0)).keep K43096 (ninS ne_b21634_b27824 nin0)).keep K48173 (ninS ne_b21634_b27787 nin0)).keep K48177 (ninS ne_b21634_b27802 nin0)).keep K48181 (ninS ne_b21634_b27824 nin0))
  obtain ⟨_, T52240, L52240, X52240, ⟨rfl, N52240q, u53253⟩, st52240⟩ := own_callV X52238 hx hZ (y := Y17) (W := 0) (a := b21634) (argsL := []) (rest := []) hown (hw _ (wm 141 rfl)) (hw _ (wm 142 rfl)) (hw _ (wm 144 rfl)) (hw _ (wm 143 rfl)) (hw _ (wm 28 rfl)) (hw _ (wm 145 rfl)) (by decide) E52239 (rm18s52 l Z a0 hw [] b21634 h48181 n0 Z48181 F53252) (by decide) (by decide) (by decide) (by decide) e52238 (g := (mkF m 69 (Las2612_19 b25766 b1) [(.ref b21634)])) rfl (by rw [hml]; rfl) pd_7 rfl rfl (by show 2 * 0 + _ ≤ _; exact Nat.le_of_eq rfl) (hb hby d12_69)
  have N52240 := Fr.app N48186 N52240q
  refine ost (mkF m 72 (Las2612_19 b25766 b1) [(.int (32 : Int32))]) X52240 (fun t k => st52240 _ k) ?_
  refine ost (mkF m 74 (Las2612_20 b25766 b1) []) X52240 (fun t k => XS.istore X52240.here hx rfl (hb hby d12_72) rfl (l' := (Las2612_20 b25766 b1)) rfl k) ?_
  refine ost (mkF m 76 (Las2612_20 b25766 b1) [(.int (32 : Int32))]) X52240 (fun t k => XS.bipush X52240.here hx rfl (hb hby d12_74) k) ?_
  refine ost (mkF m 78 (Las2612_20 b25766 b1) [(.int (32 : Int32)), (.int (32 : Int32))]) X52240 (fun t k => XS.iload X52240.here hx rfl (hb hby d12_76) rfl k) ?_
  refine ost (mkF m 79 (Las2612_20 b25766 b1) [(.int (1 : Int32)), (.int (32 : Int32)), (.int (32 : Int32))]) X52240 (fun t k => XS.iconst X52240.here hx rfl (hb hby d12_78) k) ?_
  refine ost (mkF m 80 (Las2612_20 b25766 b1) [(.int (31 : Int32)), (.int (32 : Int32))]) X52240 (fun t k => XS.isub X52240.here hx rfl (hb hby d12_79) rfl k) ?_
  obtain ⟨_, T53254, L53254, X53254, ⟨rfl, f53254, N53254q⟩, st53254⟩ := own_callS X52240 hx hZ (y := Y18) (W := 1) (argsL := [(.int (31 : Int32))]) (rest := [(.int (32 : Int32))]) hown (hw _ (wm 146 rfl)) (hw _ (wm 147 rfl)) (hw _ (wm 148 rfl)) (hw _ (wm 149 rfl)) (by decide) (rm19 l Z a0 hw [] (31 : Int32) h48181 n0 Z48181) (by decide) (by decide) (by decide) (by decide) u53253 (g := (mkF m 80 (Las2612_20 b25766 b1) [(.int (31 : Int32)), (.int (32 : Int32))])) rfl (by rw [hml]; rfl) pd_10 rfl rfl (by show 2 * 0 + _ ≤ _; exact Nat.le_of_eq rfl) (hb hby d12_80)
  have N53254 := Fr.app N52240 N53254q
  rw [show (r19 (31 : Int32)) = (27 : Int32) from by decide] at st53254
  refine ost (mkF m 83 (Las2612_20 b25766 b1) [(.int (27 : Int32)), (.int (32 : Int32))]) X53254 (fun t k => st53254 _ k) ?_
  refine ost (mkF m 84 (Las2612_20 b25766 b1) [(.int (5 : Int32))]) X53254 (fun t k => XS.isub X53254.here hx rfl (hb hby d12_83) rfl k) ?_
  refine ost (mkF m 86 (Las2612_21 b25766 b1) []) X53254 (fun t k => XS.istore X53254.here hx rfl (hb hby d12_84) rfl (l' := (Las2612_21 b25766 b1)) rfl k) ?_
  refine ost (mkF m 87 (Las2612_21 b25766 b1) [(.int (20 : Int32))]) X53254 (fun t k => XS.iloadN X53254.here hx rfl (hb hby d12_86) rfl k) ?_
  refine ost (mkF m 89 (Las2612_21 b25766 b1) [(.int (5 : Int32)), (.int (20 : Int32))]) X53254 (fun t k => XS.iload X53254.here hx rfl (hb hby d12_87) rfl k) ?_
  refine ost (mkF m 90 (Las2612_21 b25766 b1) [(.int (25 : Int32))]) X53254 (fun t k => XS.iadd X53254.here hx rfl (hb hby d12_89) rfl k) ?_
  refine ost (mkF m 92 (Las2612_21 b25766 b1) [(.int (64 : Int32)), (.int (25 : Int32))]) X53254 (fun t k => XS.bipush X53254.here hx rfl (hb hby d12_90) k) ?_
  refine ost (mkF m 100 (Las2612_21 b25766 b1) []) X53254 (fun t k => XS.icmpYes X53254.here hx rfl (pc0 := 92) (pc' := 100) rfl (hb hby d12_92) rfl (flt (show ¬ ((64 : Int32) < (25 : Int32)) by first | decide | exact Int32.lt_irrefl _ | exact Int64.lt_irrefl _)).2.2.2 (by decide) (by decide) k) ?_
  refine ost (mkF m 101 (Las2612_21 b25766 b1) [(.ref b25766)]) X53254 (fun t k => XS.aloadN X53254.here hx rfl (hb hby d12_100) rfl rfl k) ?_
  have F53255 := (((F48170.keep K48173 (ninS ne_b25766_b27787 nin0)).keep K48177 (ninS ne_b25766_b27802 nin0)).keep K48181 (ninS ne_b25766_b27824 nin0))
  obtain ⟨T53256, X53256, e53256, st53256⟩ := getF X53254 hx hZ hown (host := "") (Or.inl (hw _ (wm 111 rfl))) Via.refl f53254 F53255 (g := (mkF m 101 (Las2612_21 b25766 b1) [(.ref b25766)])) rfl rfl (hb hby d12_101)
  refine ost (mkF m 104 (Las2612_21 b25766 b1) [(.ref b27787)]) X53256 (fun t k => st53256 _ k) ?_
  refine ost (mkF m 106 (Las2612_21 b25766 b1) [(.int (4 : Int32)), (.ref b27787)]) X53256 (fun t k => XS.iload X53256.here hx rfl (hb hby d12_104) rfl k) ?_
  refine ost (mkF m 107 (Las2612_21 b25766 b1) [(.int (1 : Int32)), (.int (4 : Int32)), (.ref b27787)]) X53256 (fun t k => XS.iloadN X53256.here hx rfl (hb hby d12_106) rfl k) ?_
  have A53257 := ((B48173.keep K48177 (ninS ne_b27787_b27802 nin0)).keep K48181 (ninS ne_b27787_b27824 nin0))
  obtain ⟨T53258, h53258, L53258, X53258, e53258, N53258, K53258, A53258, st53258⟩ := own_stI X53256 hx hZ e53256 N53254 (G := (Gs2612_107bbb)) A53257 g_b27787 (j := (4 : Int32)) (x := (1 : Int32)) (by decide) (g := (mkF m 107 (Las2612_21 b25766 b1) [(.int (1 : Int32)), (.int (4 : Int32)), (.ref b27787)])) rfl rfl (hb hby d12_107)
  have B53258 : Ary Z h53258 b27787 .int 5 (fun i => .int ((Gs2612_107bbbb) i)) := A53258
  have Z53258 := Nat.le_trans Z48181 K53258.1
  have S53258 := Nat.le_trans S48181 K53258.1
  refine ost (mkF m 108 (Las2612_21 b25766 b1) []) X53258 (fun t k => st53258 _ k) ?_
  refine ost (mkF m 109 (Las2612_21 b25766 b1) [(.ref b25766)]) X53258 (fun t k => XS.aloadN X53258.here hx rfl (hb hby d12_108) rfl rfl k) ?_
  have F53259 := (((F48174.keep K48177 (ninS ne_b25766_b27802 nin0)).keep K48181 (ninS ne_b25766_b27824 nin0)).keep K53258 (ninS ne_b25766_b27787 nin0))
  obtain ⟨T53260, X53260, e53260, st53260⟩ := getF X53258 hx hZ hown (host := "") (Or.inl (hw _ (wm 113 rfl))) Via.refl e53258 F53259 (g := (mkF m 109 (Las2612_21 b25766 b1) [(.ref b25766)])) rfl rfl (hb hby d12_109)
  refine ost (mkF m 112 (Las2612_21 b25766 b1) [(.ref b27802)]) X53260 (fun t k => st53260 _ k) ?_
  refine ost (mkF m 114 (Las2612_21 b25766 b1) [(.int (4 : Int32)), (.ref b27802)]) X53260 (fun t k => XS.iload X53260.here hx rfl (hb hby d12_112) rfl k) ?_
  refine ost (mkF m 115 (Las2612_21 b25766 b1) [(.int (20 : Int32)), (.int (4 : Int32)), (.ref b27802)]) X53260 (fun t k => XS.iloadN X53260.here hx rfl (hb hby d12_114) rfl k) ?_
  have A53261 := ((B48177.keep K48181 (ninS ne_b27802_b27824 nin0)).keep K53258 (ninS (Ne.symm ne_b27787_b27802) nin0))
  obtain ⟨T53262, h53262, L53262, X53262, e53262, N53262, K53262, A53262, st53262⟩ := own_stI X53260 hx hZ e53260 N53258 (G := (Gs2612_115bb)) A53261 g_b27802 (j := (4 : Int32)) (x := (20 : Int32)) (by decide) (g := (mkF m 115 (Las2612_21 b25766 b1) [(.int (20 : Int32)), (.int (4 : Int32)), (.ref b27802)])) rfl rfl (hb hby d12_115)
  have B53262 : Ary Z h53262 b27802 .int 5 (fun i => .int ((Gs2612_115bbb) i)) := A53262
  have Z53262 := Nat.le_trans Z53258 K53262.1
  have S53262 := Nat.le_trans S53258 K53262.1
  refine ost (mkF m 116 (Las2612_21 b25766 b1) []) X53262 (fun t k => st53262 _ k) ?_
  refine ost (mkF m 117 (Las2612_21 b25766 b1) [(.ref b25766)]) X53262 (fun t k => XS.aloadN X53262.here hx rfl (hb hby d12_116) rfl rfl k) ?_
  have F53263 := (((F48178.keep K48181 (ninS ne_b25766_b27824 nin0)).keep K53258 (ninS ne_b25766_b27787 nin0)).keep K53262 (ninS ne_b25766_b27802 nin0))
  obtain ⟨T53264, X53264, e53264, st53264⟩ := getF X53262 hx hZ hown (host := "") (Or.inl (hw _ (wm 116 rfl))) Via.refl e53262 F53263 (g := (mkF m 117 (Las2612_21 b25766 b1) [(.ref b25766)])) rfl rfl (hb hby d12_117)
  refine ost (mkF m 120 (Las2612_21 b25766 b1) [(.ref b27824)]) X53264 (fun t k => st53264 _ k) ?_
  refine ost (mkF m 122 (Las2612_21 b25766 b1) [(.int (4 : Int32)), (.ref b27824)]) X53264 (fun t k => XS.iload X53264.here hx rfl (hb hby d12_120) rfl k) ?_
  refine ost (mkF m 123 (Las2612_21 b25766 b1) [(.long (1 : Int64)), (.int (4 : Int32)), (.ref b27824)]) X53264 (fun t k => XT.lconst X53264.here hx rfl (hb hby d12_122) k) ?_
  refine ost (mkF m 125 (Las2612_21 b25766 b1) [(.int (5 : Int32)), (.long (1 : Int64)), (.int (4 : Int32)), (.ref b27824)]) X53264 (fun t k => XS.iload X53264.here hx rfl (hb hby d12_123) rfl k) ?_
  refine ost (mkF m 126 (Las2612_21 b25766 b1) [(.long (32 : Int64)), (.int (4 : Int32)), (.ref b27824)]) X53264 (fun t k => XT.lshl X53264.here hx rfl (hb hby d12_125) rfl k) ?_
  refine ost (mkF m 127 (Las2612_21 b25766 b1) [(.long (1 : Int64)), (.long (32 : Int64)), (.int (4 : Int32)), (.ref b27824)]) X53264 (fun t k => XT.lconst X53264.here hx rfl (hb hby d12_126) k) ?_
  refine ost (mkF m 128 (Las2612_21 b25766 b1) [(.long (31 : Int64)), (.int (4 : Int32)), (.ref b27824)]) X53264 (fun t k => XT.lsub X53264.here hx rfl (hb hby d12_127) rfl k) ?_
  have A53265 := ((B48181.keep K53258 (ninS (Ne.symm ne_b27787_b27824) nin0)).keep K53262 (ninS (Ne.symm ne_b27802_b27824) nin0))
  obtain ⟨T53266, h53266, L53266, X53266, e53266, N53266, K53266, A53266, st53266⟩ := own_stJ X53264 hx hZ e53264 N53262 (G := (Gs2612_128bbb)) A53265 g_b27824 (j := (4 : Int32)) (x := (31 : Int64)) (by decide) (g := (mkF m 128 (Las2612_21 b25766 b1) [(.long (31 : Int64)), (.int (4 : Int32)), (.ref b27824)])) rfl rfl (hb hby d12_128)
  have B53266 : Ary Z h53266 b27824 .long 5 (fun i => .long ((Gs2612_128bbbb) i)) := A53266
  have Z53266 := Nat.le_trans Z53262 K53266.1
  have S53266 := Nat.le_trans S53262 K53266.1
  refine ost (mkF m 129 (Las2612_21 b25766 b1) []) X53266 (fun t k => st53266 _ k) ?_
  refine ost (mkF m 130 (Las2612_21 b25766 b1) [(.int (20 : Int32))]) X53266 (fun t k => XS.iloadN X53266.here hx rfl (hb hby d12_129) rfl k) ?_
  refine ost (mkF m 132 (Las2612_21 b25766 b1) [(.int (5 : Int32)), (.int (20 : Int32))]) X53266 (fun t k => XS.iload X53266.here hx rfl (hb hby d12_130) rfl k) ?_
  refine ost (mkF m 133 (Las2612_21 b25766 b1) [(.int (25 : Int32))]) X53266 (fun t k => XS.iadd X53266.here hx rfl (hb hby d12_132) rfl k) ?_
  refine ost (mkF m 134 (Las2612_22 b25766 b1) []) X53266 (fun t k => XS.istoreN X53266.here hx rfl (hb hby d12_133) rfl (l' := (Las2612_22 b25766 b1)) rfl k) ?_
  refine ost (mkF m 137 (Las2612_23 b25766 b1) []) X53266 (fun t k => XS.iinc X53266.here hx rfl (hb hby d12_134) rfl (l' := (Las2612_23 b25766 b1)) rfl k) ?_
  refine ost (mkF m 47 (Las2612_23 b25766 b1) []) X53266 (fun t k => XS.goto X53266.here hx rfl (pc0 := 137) (pc' := 47) rfl (hb hby d12_137) (by decide) (by decide) k) ?_
  refine ost (mkF m 49 (Las2612_23 b25766 b1) [(.int (5 : Int32))]) X53266 (fun t k => XS.iload X53266.here hx rfl (hb hby d12_47) rfl k) ?_
  refine ost (mkF m 50 (Las2612_23 b25766 b1) [(.ref b1), (.int (5 : Int32))]) X53266 (fun t k => XS.aloadN X53266.here hx rfl (hb hby d12_49) rfl rfl k) ?_
  have F53268 := (((F48183.keep K53258 (ninS ne_b1_b27787 nin0)).keep K53262 (ninS ne_b1_b27802 nin0)).keep K53266 (ninS ne_b1_b27824 nin0))
  have E53270 := (Exa.keep (Exa.keep (Exa.keep E48185 K53258) K53262) K53266)
  obtain ⟨_, T53267, L53267, X53267, ⟨rfl, N53267q, u53269⟩, st53267⟩ := own_callF X53266 hx hZ (xi := Y10) (y := Y11) (W := 1) (a := b1) (argsL := []) (rest := [(.int (5 : Int32))]) hown (hw _ (wm 101 rfl)) (hw _ (wm 102 rfl)) (hw _ (wm 103 rfl)) (hw _ (wm 104 rfl)) (hw _ (wm 105 rfl)) (hw _ (wm 106 rfl)) (hw _ (wm 107 rfl)) (hw _ (wm 108 rfl)) (by first | rfl | simp [Cond.onTables, Cond.keepsFace, Cond.keeps, Cond.steady]) (hw _ (wm 2 rfl)) (hw _ (wm 109 rfl)) (by decide) E53270 (rm13s27 l Z a0 hw [] b1 h53266 n0 Z53266 F53268) (by decide) (by decide) (by decide) (by decide) e53266 (g := (mkF m 50 (Las2612_23 b25766 b1) [(.ref b1), (.int (5 : Int32))])) rfl (by rw [hml]; rfl) pd_7 rfl rfl (by show 2 * 0 + _ ≤ _; exact Nat.le_of_eq rfl) (hb hby d12_50)
  have N53267 := Fr.app N53266 N53267q
  refine ost (mkF m 55 (Las2612_23 b25766 b1) [(.int (5 : Int32)), (.int (5 : Int32))]) X53267 (fun t k => st53267 _ k) ?_
  refine ost (mkF m 140 (Las2612_23 b25766 b1) []) X53267 (fun t k => XS.icmpYes X53267.here hx rfl (pc0 := 55) (pc' := 140) rfl (hb hby d12_55) rfl (flt (show ¬ ((5 : Int32) < (5 : Int32)) by first | decide | exact Int32.lt_irrefl _ | exact Int64.lt_irrefl _)).2.1 (by decide) (by decide) k) ?_
  refine ost (mkF m 141 (Las2612_23 b25766 b1) [(.ref b25766)]) X53267 (fun t k => XS.aloadN X53267.here hx rfl (hb hby d12_140) rfl rfl k) ?_
  refine ost (mkF m 142 (Las2612_23 b25766 b1) [(.int (1 : Int32)), (.ref b25766)]) X53267 (fun t k => XS.iloadN X53267.here hx rfl (hb hby d12_141) rfl k) ?_
  refine ost (mkF m 143 (Las2612_23 b25766 b1) [(.int (1 : Int32)), (.int (1 : Int32)), (.ref b25766)]) X53267 (fun t k => XS.iconst X53267.here hx rfl (hb hby d12_142) k) ?_
  refine ost (mkF m 144 (Las2612_23 b25766 b1) [(.int (2 : Int32)), (.ref b25766)]) X53267 (fun t k => XS.iadd X53267.here hx rfl (hb hby d12_143) rfl k) ?_
  have E53271 := (Exa.keep (Exa.keep (Exa.keep (Exa.keep (Exa.keep (Exa.keep (Exa.keep (Exa.keep (Exa.keep (Exa.keep (Exa.keep (Exa.keep (Exa.keep (Exa.keep (Exa.keep E27842 K32918) K32922) K32926) K38003) K38007) K38011) K43088) K43092) K43096) K48173) K48177) K48181) K53258) K53262) K53266)
  have F53272 := (((F53255.keep K53258 (ninS ne_b25766_b27787 nin0)).keep K53262 (ninS ne_b25766_b27802 nin0)).keep K53266 (ninS ne_b25766_b27824 nin0))
  have F53273 := ((F53259.keep K53262 (ninS ne_b25766_b27802 nin0)).keep K53266 (ninS ne_b25766_b27824 nin0))
  have F53274 := (F53263.keep K53266 (ninS ne_b25766_b27824 nin0))
  have F53275 := (((((((((((((((F27841.keep K32918 (ninS ne_b25766_b27787 nin0)).keep K32922 (ninS ne_b25766_b27802 nin0)).keep K32926 (ninS ne_b25766_b27824 nin0)).keep K38003 (ninS ne_b25766_b27787 nin0)).keep K38007 (ninS ne_b25766_b27802 nin0)).keep K38011 (ninS ne_b25766_b27824 nin0)).keep K43088 (ninS ne_b25766_b27787 nin0)).keep K43092 (ninS ne_b25766_b27802 nin0)).keep K43096 (ninS ne_b25766_b27824 nin0)).keep K48173 (ninS ne_b25766_b27787 nin0)).keep K48177 (ninS ne_b25766_b27802 nin0)).keep K48181 (ninS ne_b25766_b27824 nin0)).keep K53258 (ninS ne_b25766_b27787 nin0)).keep K53262 (ninS ne_b25766_b27802 nin0)).keep K53266 (ninS ne_b25766_b27824 nin0))
  obtain ⟨T53276, h53276, L53276, X53276, e53276, N53276, W53276, F53276, st53276⟩ := own_putF X53267 hx hZ hown (hw _ (wm 151 rfl)) u53269 N53267 F53275 E53271 g_b25766 (Or.inr ⟨(hw _ (wm 152 rfl)), rfl, hnm⟩) (hw _ (wm 95 rfl)) (fty := .int) (by decide) rfl rfl (g := (mkF m 144 (Las2612_23 b25766 b1) [(.int (2 : Int32)), (.ref b25766)])) rfl rfl (hb hby d12_144)
  have K53276 := Keep.of_wr W53276
  have Z53276 := Nat.le_trans Z53266 K53276.1
  have S53276 := Nat.le_trans S53266 K53276.1
  have F53277 := Fld.other W53276 F53272 (Or.inr (slot_ne (Or.inr (hw _ (wm 112 rfl))) (Or.inr (hw _ (wm 152 rfl))) (by decide) (t := (.array .int)) (t' := .int) (by decide) (by decide)))
  have F53278 := Fld.other W53276 F53273 (Or.inr (slot_ne (Or.inr (hw _ (wm 114 rfl))) (Or.inr (hw _ (wm 152 rfl))) (by decide) (t := (.array .int)) (t' := .int) (by decide) (by decide)))
  have F53279 := Fld.other W53276 F53274 (Or.inr (slot_ne (Or.inr (hw _ (wm 117 rfl))) (Or.inr (hw _ (wm 152 rfl))) (by decide) (t := (.array .long)) (t' := .int) (by decide) (by decide)))
  have E53280 := Exa.wr W53276 E53271
  refine ost (mkF m 147 (Las2612_23 b25766 b1) []) X53276 (fun t k => st53276 _ k) ?_
  have A53281 := (((B53258.keep K53262 (ninS ne_b27787_b27802 nin0)).keep K53266 (ninS ne_b27787_b27824 nin0)).keep K53276 (ninS (Ne.symm ne_b25766_b27787) nin0))
  have A53282 := ((B53262.keep K53266 (ninS ne_b27802_b27824 nin0)).keep K53276 (ninS (Ne.symm ne_b25766_b27802) nin0))
  have A53283 := (B53266.keep K53276 (ninS (Ne.symm ne_b25766_b27824) nin0))
  refine OwnFin.retVoid X53276 (hb hby d12_147) (by decide) (by decide) ?_
  rw [e53276]
  exact ⟨b27787, b27802, b27824, rfl, N53276, (Keep.trans (Keep.trans (Keep.trans (Keep.trans (Keep.trans (Keep.trans (Keep.trans (Keep.trans (Keep.trans (Keep.trans (Keep.trans (Keep.trans (Keep.trans (Keep.trans (Keep.trans (Keep.trans (Keep.trans (Keep.trans (Keep.trans (Keep.trans (Keep.trans (Keep.trans (Keep.refl h0 [b25766]) K27787 all0) K27793 (allS (Or.inl (wm 0 rfl)) all0)) K27802 all0) K27815 (allS (Or.inl (wm 0 rfl)) all0)) K27824 all0) K27838 (allS (Or.inl (wm 0 rfl)) all0)) K32918 (allS (Or.inr sz_b27787) all0)) K32922 (allS (Or.inr sz_b27802) all0)) K32926 (allS (Or.inr sz_b27824) all0)) K38003 (allS (Or.inr sz_b27787) all0)) K38007 (allS (Or.inr sz_b27802) all0)) K38011 (allS (Or.inr sz_b27824) all0)) K43088 (allS (Or.inr sz_b27787) all0)) K43092 (allS (Or.inr sz_b27802) all0)) K43096 (allS (Or.inr sz_b27824) all0)) K48173 (allS (Or.inr sz_b27787) all0)) K48177 (allS (Or.inr sz_b27802) all0)) K48181 (allS (Or.inr sz_b27824) all0)) K53258 (allS (Or.inr sz_b27787) all0)) K53262 (allS (Or.inr sz_b27802) all0)) K53266 (allS (Or.inr sz_b27824) all0)) K53276 (allS (Or.inl (wm 0 rfl)) all0)), E53280, F53277, F53278, F53279, F53276, A53281, g_b27787, sz_b27787, A53282, g_b27802, sz_b27802, A53283, g_b27824, sz_b27824, ne_b27787_b27802, ne_b27787_b27824, ne_b27802_b27824⟩)
def Q8s25 (Z : State) (b1 : Addr) (b3058 : Addr) (b9144 : Addr) (b9244 : Addr) (b13373 : Addr) (b17503 : Addr) (b21634 : Addr) (h0 : Heap) (n0 : Nat) : Option Value → Heap → List Loc → Prop := fun v h L => v = none ∧ Fr n0 L ∧ Keep h0 h [b1, b9144] ∧ Exa Z h b1 "java/util/ArrayList" ∧ Fld Z h b1 "java/util/AbstractList" "modCount" "I" (.int (5 : Int32)) ∧ Fld Z h b1 "java/util/ArrayList" "elementData" "[Ljava/lang/Object;" (.ref b9144) ∧ Fld Z h b1 "java/util/ArrayList" "size" "I" (.int (5 : Int32)) ∧ AryR Z h b9144 "java/lang/Object" 10 (updN (updN (updN (updN (updN (fun _ => Value.null) ((0 : Int32)).toNatClampNeg (Value.ref b3058)) ((1 : Int32)).toNatClampNeg (Value.ref b9244)) ((2 : Int32)).toNatClampNeg (Value.ref b13373)) ((3 : Int32)).toNatClampNeg (Value.ref b17503)) ((4 : Int32)).toNatClampNeg (Value.ref b21634))
abbrev Las258_0 (b1 : Addr) (b21634 : Addr) (b9144 : Addr) : Array Slot := #[.val (.ref b1), .val (.ref b21634), .val (.ref b9144), .val (.int (4 : Int32))]
set_option maxRecDepth 65536 in
set_option maxHeartbeats 40000000 in
theorem rm8s25 (l : Launch) (Z : State) (a0 : Array Value) (hw : ∀ d ∈ tables_1, d.before a0 Z = true) (ws : List Jvm.Cond) (b1 : Addr) (b3058 : Addr) (b9144 : Addr) (b9244 : Addr) (b13373 : Addr) (b17503 : Addr) (b21634 : Addr) (h0 : Heap) (n0 : Nat) (Z0 : n0 ≤ h0.size) (E_b1 : Exa Z h0 b1 "java/util/ArrayList") (F_modCount_b1 : Fld Z h0 b1 "java/util/AbstractList" "modCount" "I" (.int (5 : Int32))) (F_elementData_b1 : Fld Z h0 b1 "java/util/ArrayList" "elementData" "[Ljava/lang/Object;" (.ref b9144)) (F_size_b1 : Fld Z h0 b1 "java/util/ArrayList" "size" "I" (.int (4 : Int32))) (g_b1 : n0 ≤ b1) (A_b9144 : AryR Z h0 b9144 "java/lang/Object" 10 (updN (updN (updN (updN (fun _ => Value.null) ((0 : Int32)).toNatClampNeg (Value.ref b3058)) ((1 : Int32)).toNatClampNeg (Value.ref b9244)) ((2 : Int32)).toNatClampNeg (Value.ref b13373)) ((3 : Int32)).toNatClampNeg (Value.ref b17503))) (g_b9144 : n0 ≤ b9144) (E_b21634 : Exa Z h0 b21634 "com/example/ken2/ken2/InterpretedSystem$Variable") (ne_b1_b9144 : b1 ≠ b9144) :
    MetFree l Y8 (head1 (Jvm.Cond.code Y8 jdk_38_method_24_code 4 none :: ws) ({ frames := 0, cells := 0, slots := 0, locals := 0 } : Room)) (fun a U => a = #[(.ref b1), (.ref b21634), (.ref b9144), (.int (4 : Int32))] ∧ Z.Warmed39 U.vm ∧ U.heap = h0) (fun _ _ _ _ _ => True) (fun _ U o U' => ∃ v L, o = .returned v ∧ (Q8s25 Z b1 b3058 b9144 b9244 b13373 b17503 b21634 h0 n0) v U'.heap L ∧ FrameEnd U o U' L ({ frames := 0, cells := 0, slots := 0, locals := 0 } : Room).cells ({ frames := 0, cells := 0, slots := 0, locals := 0 } : Room).slots) :=
  own_met (ret := none) (Q := (Q8s25 Z b1 b3058 b9144 b9244 b13373 b17503 b21634 h0 n0)) (plainFor_of_name pn_8) (fun m => ef_8 m b1 b21634 b9144 (4 : Int32)) (fun p e s m below meth c T0 X0 hx hby hml hown hnm hZ e0 => by
  have N0 := Fr.nil n0
  refine ost (mkF m 1 (Las258_0 b1 b21634 b9144) [(.int (4 : Int32))]) X0 (fun t k => XS.iloadN X0.here hx rfl (hb hby d8_0) rfl k) ?_
  refine ost (mkF m 2 (Las258_0 b1 b21634 b9144) [(.ref b9144), (.int (4 : Int32))]) X0 (fun t k => XS.aloadN X0.here hx rfl (hb hby d8_1) rfl rfl k) ?_
  refine ost (mkF m 3 (Las258_0 b1 b21634 b9144) [(.int (10 : Int32)), (.int (4 : Int32))]) X0 (fun t k => own_len X0 hx hZ e0 (A_b9144).1 (g := (mkF m 2 (Las258_0 b1 b21634 b9144) [(.ref b9144), (.int (4 : Int32))])) rfl rfl (hb hby d8_2) _ k) ?_
  refine ost (mkF m 11 (Las258_0 b1 b21634 b9144) []) X0 (fun t k => XS.icmpYes X0.here hx rfl (pc0 := 3) (pc' := 11) rfl (hb hby d8_3) rfl (feq (show ¬ ((4 : Int32) = (10 : Int32)) by first | decide | exact Int32.lt_irrefl _ | exact Int64.lt_irrefl _)).2 (by decide) (by decide) k) ?_
  refine ost (mkF m 12 (Las258_0 b1 b21634 b9144) [(.ref b9144)]) X0 (fun t k => XS.aloadN X0.here hx rfl (hb hby d8_11) rfl rfl k) ?_
  refine ost (mkF m 13 (Las258_0 b1 b21634 b9144) [(.int (4 : Int32)), (.ref b9144)]) X0 (fun t k => XS.iloadN X0.here hx rfl (hb hby d8_12) rfl k) ?_
  refine ost (mkF m 14 (Las258_0 b1 b21634 b9144) [(.ref b21634), (.int (4 : Int32)), (.ref b9144)]) X0 (fun t k => XS.aloadN X0.here hx rfl (hb hby d8_13) rfl rfl k) ?_
  obtain ⟨T25717, h25717, L25717, X25717, e25717, N25717, K25717, A25717, st25717⟩ := own_stA X0 hx hZ e0 N0 (G := (updN (updN (updN (updN (fun _ => Value.null) ((0 : Int32)).toNatClampNeg (Value.ref b3058)) ((1 : Int32)).toNatClampNeg (Value.ref b9244)) ((2 : Int32)).toNatClampNeg (Value.ref b13373)) ((3 : Int32)).toNatClampNeg (Value.ref b17503))) A_b9144 g_b9144 (j := (4 : Int32)) (v := (.ref b21634)) (by decide) (own_sto A_b9144 E_b21634 (hw _ (wm 88 rfl))) (g := (mkF m 14 (Las258_0 b1 b21634 b9144) [(.ref b21634), (.int (4 : Int32)), (.ref b9144)])) rfl rfl (hb hby d8_14)
  have Z25717 := Nat.le_trans Z0 K25717.1
  have S25717 := Nat.le_trans (Nat.le_refl h0.size) K25717.1
  refine ost (mkF m 15 (Las258_0 b1 b21634 b9144) []) X25717 (fun t k => st25717 _ k) ?_
  refine ost (mkF m 16 (Las258_0 b1 b21634 b9144) [(.ref b1)]) X25717 (fun t k => XS.aloadN X25717.here hx rfl (hb hby d8_15) rfl rfl k) ?_
  refine ost (mkF m 17 (Las258_0 b1 b21634 b9144) [(.int (4 : Int32)), (.ref b1)]) X25717 (fun t k => XS.iloadN X25717.here hx rfl (hb hby d8_16) rfl k) ?_
  refine ost (mkF m 18 (Las258_0 b1 b21634 b9144) [(.int (1 : Int32)), (.int (4 : Int32)), (.ref b1)]) X25717 (fun t k => XS.iconst X25717.here hx rfl (hb hby d8_17) k) ?_
  refine ost (mkF m 19 (Las258_0 b1 b21634 b9144) [(.int (5 : Int32)), (.ref b1)]) X25717 (fun t k => XS.iadd X25717.here hx rfl (hb hby d8_18) rfl k) ?_
  have E25718 := (Exa.keep E_b1 K25717)
  have F25719 := (F_modCount_b1.keep K25717 (ninS ne_b1_b9144 nin0))
  have F25720 := (F_elementData_b1.keep K25717 (ninS ne_b1_b9144 nin0))
  have F25721 := (F_size_b1.keep K25717 (ninS ne_b1_b9144 nin0))
  obtain ⟨T25722, h25722, L25722, X25722, e25722, N25722, W25722, F25722, st25722⟩ := own_putF X25717 hx hZ hown (hw _ (wm 65 rfl)) e25717 N25717 F25721 E25718 g_b1 (Or.inl (hw _ (wm 66 rfl))) (hw _ (wm 1 rfl)) (fty := .int) (by decide) rfl rfl (g := (mkF m 19 (Las258_0 b1 b21634 b9144) [(.int (5 : Int32)), (.ref b1)])) rfl rfl (hb hby d8_19)
  have K25722 := Keep.of_wr W25722
  have Z25722 := Nat.le_trans Z25717 K25722.1
  have S25722 := Nat.le_trans S25717 K25722.1
  have F25723 := Fld.other W25722 F25719 (Or.inr (slot_ne (Or.inl (hw _ (wm 22 rfl))) (Or.inl (hw _ (wm 66 rfl))) (by decide) (t := .int) (t' := .int) (by decide) (by decide)))
  have F25724 := Fld.other W25722 F25720 (Or.inr (slot_ne (Or.inl (hw _ (wm 25 rfl))) (Or.inl (hw _ (wm 66 rfl))) (by decide) (t := (.array (.object "java/lang/Object"))) (t' := .int) (by decide) (by decide)))
  have E25725 := Exa.wr W25722 E25718
  refine ost (mkF m 22 (Las258_0 b1 b21634 b9144) []) X25722 (fun t k => st25722 _ k) ?_
  have A25726 := (A25717.keep K25722 (ninS (Ne.symm ne_b1_b9144) nin0))
  refine OwnFin.retVoid X25722 (hb hby d8_22) (by decide) (by decide) ?_
  rw [e25722]
  exact ⟨rfl, N25722, (Keep.trans (Keep.trans (Keep.refl h0 [b1, b9144]) K25717 (allS (Or.inl (wm 1 rfl)) all0)) K25722 (allS (Or.inl (wm 0 rfl)) all0)), E25725, F25723, F25724, F25722, A25726⟩)
def Q7s24 (Z : State) (b1 : Addr) (b3058 : Addr) (b9144 : Addr) (b9244 : Addr) (b13373 : Addr) (b17503 : Addr) (b21634 : Addr) (h0 : Heap) (n0 : Nat) : Option Value → Heap → List Loc → Prop := fun v h L => v = some (.int (nar .boolean (1 : Int32))) ∧ Fr n0 L ∧ Keep h0 h [b1, b9144] ∧ Exa Z h b1 "java/util/ArrayList" ∧ Fld Z h b1 "java/util/AbstractList" "modCount" "I" (.int (5 : Int32)) ∧ Fld Z h b1 "java/util/ArrayList" "elementData" "[Ljava/lang/Object;" (.ref b9144) ∧ Fld Z h b1 "java/util/ArrayList" "size" "I" (.int (5 : Int32)) ∧ AryR Z h b9144 "java/lang/Object" 10 (updN (updN (updN (updN (updN (fun _ => Value.null) ((0 : Int32)).toNatClampNeg (Value.ref b3058)) ((1 : Int32)).toNatClampNeg (Value.ref b9244)) ((2 : Int32)).toNatClampNeg (Value.ref b13373)) ((3 : Int32)).toNatClampNeg (Value.ref b17503)) ((4 : Int32)).toNatClampNeg (Value.ref b21634))
set_option maxRecDepth 65536 in
set_option maxHeartbeats 40000000 in
theorem rm7s24 (l : Launch) (Z : State) (a0 : Array Value) (hw : ∀ d ∈ tables_1, d.before a0 Z = true) (ws : List Jvm.Cond) (b1 : Addr) (b3058 : Addr) (b9144 : Addr) (b9244 : Addr) (b13373 : Addr) (b17503 : Addr) (b21634 : Addr) (h0 : Heap) (n0 : Nat) (Z0 : n0 ≤ h0.size) (E_b1 : Exa Z h0 b1 "java/util/ArrayList") (F_modCount_b1 : Fld Z h0 b1 "java/util/AbstractList" "modCount" "I" (.int (4 : Int32))) (F_elementData_b1 : Fld Z h0 b1 "java/util/ArrayList" "elementData" "[Ljava/lang/Object;" (.ref b9144)) (F_size_b1 : Fld Z h0 b1 "java/util/ArrayList" "size" "I" (.int (4 : Int32))) (g_b1 : n0 ≤ b1) (A_b9144 : AryR Z h0 b9144 "java/lang/Object" 10 (updN (updN (updN (updN (fun _ => Value.null) ((0 : Int32)).toNatClampNeg (Value.ref b3058)) ((1 : Int32)).toNatClampNeg (Value.ref b9244)) ((2 : Int32)).toNatClampNeg (Value.ref b13373)) ((3 : Int32)).toNatClampNeg (Value.ref b17503))) (g_b9144 : n0 ≤ b9144) (E_b21634 : Exa Z h0 b21634 "com/example/ken2/ken2/InterpretedSystem$Variable") (ne_b1_b9144 : b1 ≠ b9144) :
    MetFree l Y9 (head1 (Jvm.Cond.code Y9 jdk_38_method_25_code 2 (some .boolean) :: ws) ({ frames := 1, cells := 0, slots := 0, locals := 15 } : Room)) (fun a U => a = #[(.ref b1), (.ref b21634)] ∧ Z.Warmed39 U.vm ∧ U.heap = h0) (fun _ _ _ _ _ => True) (fun _ U o U' => ∃ v L, o = .returned v ∧ (Q7s24 Z b1 b3058 b9144 b9244 b13373 b17503 b21634 h0 n0) v U'.heap L ∧ FrameEnd U o U' L ({ frames := 1, cells := 0, slots := 0, locals := 15 } : Room).cells ({ frames := 1, cells := 0, slots := 0, locals := 15 } : Room).slots) :=
  own_met (ret := (some .boolean)) (Q := (Q7s24 Z b1 b3058 b9144 b9244 b13373 b17503 b21634 h0 n0)) (plainFor_of_name pn_7) (fun m => ef_7 m b1 b21634) (fun p e s m below meth c T0 X0 hx hby hml hown hnm hZ e0 => by
  have N0 := Fr.nil n0
  refine ost (mkF m 1 #[.val (.ref b1), .val (.ref b21634)] [(.ref b1)]) X0 (fun t k => XS.aloadN X0.here hx rfl (hb hby d7_0) rfl rfl k) ?_
  refine ost (mkF m 2 #[.val (.ref b1), .val (.ref b21634)] [(.ref b1), (.ref b1)]) X0 (fun t k => XS.dup X0.here hx rfl (hb hby d7_1) rfl rfl k) ?_
  obtain ⟨T24709, X24709, e24709, st24709⟩ := getF X0 hx hZ hown (host := "") (Or.inl (hw _ (wm 63 rfl))) (Via.of (hw _ (wm 64 rfl))) e0 F_modCount_b1 (g := (mkF m 2 #[.val (.ref b1), .val (.ref b21634)] [(.ref b1), (.ref b1)])) rfl rfl (hb hby d7_2)
  refine ost (mkF m 5 #[.val (.ref b1), .val (.ref b21634)] [(.int (4 : Int32)), (.ref b1)]) X24709 (fun t k => st24709 _ k) ?_
  refine ost (mkF m 6 #[.val (.ref b1), .val (.ref b21634)] [(.int (1 : Int32)), (.int (4 : Int32)), (.ref b1)]) X24709 (fun t k => XS.iconst X24709.here hx rfl (hb hby d7_5) k) ?_
  refine ost (mkF m 7 #[.val (.ref b1), .val (.ref b21634)] [(.int (5 : Int32)), (.ref b1)]) X24709 (fun t k => XS.iadd X24709.here hx rfl (hb hby d7_6) rfl k) ?_
  obtain ⟨T24710, h24710, L24710, X24710, e24710, N24710, W24710, F24710, st24710⟩ := own_putFV X24709 hx hZ hown (hw _ (wm 63 rfl)) (Via.of (hw _ (wm 64 rfl))) e24709 N0 F_modCount_b1 E_b1 g_b1 (Or.inl (hw _ (wm 22 rfl))) (hw _ (wm 1 rfl)) (fty := .int) (by decide) rfl rfl (g := (mkF m 7 #[.val (.ref b1), .val (.ref b21634)] [(.int (5 : Int32)), (.ref b1)])) rfl rfl (hb hby d7_7)
  have K24710 := Keep.of_wr W24710
  have Z24710 := Nat.le_trans Z0 K24710.1
  have S24710 := Nat.le_trans (Nat.le_refl h0.size) K24710.1
  have F24711 := Fld.other W24710 F_elementData_b1 (Or.inr (slot_ne (Or.inl (hw _ (wm 25 rfl))) (Or.inl (hw _ (wm 22 rfl))) (by decide) (t := (.array (.object "java/lang/Object"))) (t' := .int) (by decide) (by decide)))
  have F24712 := Fld.other W24710 F_size_b1 (Or.inr (slot_ne (Or.inl (hw _ (wm 66 rfl))) (Or.inl (hw _ (wm 22 rfl))) (by decide) (t := .int) (t' := .int) (by decide) (by decide)))
  have E24713 := Exa.wr W24710 E_b1
  refine ost (mkF m 10 #[.val (.ref b1), .val (.ref b21634)] []) X24710 (fun t k => st24710 _ k) ?_
  refine ost (mkF m 11 #[.val (.ref b1), .val (.ref b21634)] [(.ref b1)]) X24710 (fun t k => XS.aloadN X24710.here hx rfl (hb hby d7_10) rfl rfl k) ?_
  refine ost (mkF m 12 #[.val (.ref b1), .val (.ref b21634)] [(.ref b21634), (.ref b1)]) X24710 (fun t k => XS.aloadN X24710.here hx rfl (hb hby d7_11) rfl rfl k) ?_
  refine ost (mkF m 13 #[.val (.ref b1), .val (.ref b21634)] [(.ref b1), (.ref b21634), (.ref b1)]) X24710 (fun t k => XS.aloadN X24710.here hx rfl (hb hby d7_12) rfl rfl k) ?_
  obtain ⟨T24714, X24714, e24714, st24714⟩ := getF X24710 hx hZ hown (host := "") (Or.inl (hw _ (wm 24 rfl))) Via.refl e24710 F24711 (g := (mkF m 13 #[.val (.ref b1), .val (.ref b21634)] [(.ref b1), (.ref b21634), (.ref b1)])) rfl rfl (hb hby d7_13)
  refine ost (mkF m 16 #[.val (.ref b1), .val (.ref b21634)] [(.ref b9144), (.ref b21634), (.ref b1)]) X24714 (fun t k => st24714 _ k) ?_
  refine ost (mkF m 17 #[.val (.ref b1), .val (.ref b21634)] [(.ref b1), (.ref b9144), (.ref b21634), (.ref b1)]) X24714 (fun t k => XS.aloadN X24714.here hx rfl (hb hby d7_16) rfl rfl k) ?_
  obtain ⟨T24715, X24715, e24715, st24715⟩ := getF X24714 hx hZ hown (host := "") (Or.inl (hw _ (wm 65 rfl))) Via.refl e24714 F24712 (g := (mkF m 17 #[.val (.ref b1), .val (.ref b21634)] [(.ref b1), (.ref b9144), (.ref b21634), (.ref b1)])) rfl rfl (hb hby d7_17)
  refine ost (mkF m 20 #[.val (.ref b1), .val (.ref b21634)] [(.int (4 : Int32)), (.ref b9144), (.ref b21634), (.ref b1)]) X24715 (fun t k => st24715 _ k) ?_
  have A25737 := (A_b9144.keep K24710 (ninS (Ne.symm ne_b1_b9144) nin0))
  have E25738 := (Exa.keep E_b21634 K24710)
  obtain ⟨_, T24716, L24716, X24716, ⟨rfl, N24716q, u25739, u25740, u25741, u25742, u25743, u25744⟩, st24716⟩ := own_callP X24715 hx hZ (y := Y8) (W := 0) (a := b1) (argsL := [(.ref b21634), (.ref b9144), (.int (4 : Int32))]) (rest := []) hown (hw _ (wm 67 rfl)) (hw _ (wm 61 rfl)) rfl (hw _ (wm 68 rfl)) (hw _ (wm 69 rfl)) (hw _ (wm 2 rfl)) (hw _ (wm 71 rfl)) (by decide) E24713 (rm8s25 l Z a0 hw [] b1 b3058 b9144 b9244 b13373 b17503 b21634 h24710 n0 Z24710 E24713 F24710 F24711 F24712 g_b1 A25737 g_b9144 E25738 ne_b1_b9144) (by decide) (by decide) (by decide) (by decide) e24715 (g := (mkF m 20 #[.val (.ref b1), .val (.ref b21634)] [(.int (4 : Int32)), (.ref b9144), (.ref b21634), (.ref b1)])) rfl (by rw [hml]; rfl) pd_5 rfl rfl (by show 2 * 0 + _ ≤ _; exact Nat.le_of_eq rfl) (hb hby d7_20)
  have N24716 := Fr.app N24710 N24716q
  obtain ⟨h24716, e24716⟩ : ∃ z, T24716.heap = z := ⟨_, rfl⟩
  rw [e24716] at u25739 u25740 u25741 u25742 u25743 u25744
  have K24716 := u25739
  have Z24716 := Nat.le_trans Z24710 K24716.1
  have S24716 := Nat.le_trans S24710 K24716.1
  refine ost (mkF m 23 #[.val (.ref b1), .val (.ref b21634)] []) X24716 (fun t k => st24716 _ k) ?_
  refine ost (mkF m 24 #[.val (.ref b1), .val (.ref b21634)] [(.int (1 : Int32))]) X24716 (fun t k => XS.iconst X24716.here hx rfl (hb hby d7_23) k) ?_
  refine OwnFin.retNar X24716 (by simp) (hb hby d7_24) (by decide) (by decide) ?_
  rw [e24716]
  exact ⟨rfl, N24716, (Keep.trans (Keep.trans (Keep.refl h0 [b1, b9144]) K24710 (allS (Or.inl (wm 0 rfl)) all0)) K24716 (allS (Or.inl (wm 0 rfl)) (allS (Or.inl (wm 1 rfl)) all0))), u25740, u25741, u25742, u25743, u25744⟩)
def Q6s23 (Z : State) (b21634 : Addr) (h0 : Heap) (n0 : Nat) : Option Value → Heap → List Loc → Prop := fun v h L => v = none ∧ Fr n0 L ∧ h = h0
set_option maxRecDepth 65536 in
set_option maxHeartbeats 40000000 in
theorem rm6s23 (l : Launch) (Z : State) (a0 : Array Value) (hw : ∀ d ∈ tables_1, d.before a0 Z = true) (ws : List Jvm.Cond) (b21634 : Addr) (h0 : Heap) (n0 : Nat) (Z0 : n0 ≤ h0.size) :
    MetFree l Y3 (head1 (Jvm.Cond.code Y3 jdk_30_method_1_code 1 none :: ws) ({ frames := 1, cells := 0, slots := 0, locals := 12 } : Room)) (fun a U => a = #[(.ref b21634)] ∧ Z.Warmed39 U.vm ∧ U.heap = h0) (fun _ _ _ _ _ => True) (fun _ U o U' => ∃ v L, o = .returned v ∧ (Q6s23 Z b21634 h0 n0) v U'.heap L ∧ FrameEnd U o U' L ({ frames := 1, cells := 0, slots := 0, locals := 12 } : Room).cells ({ frames := 1, cells := 0, slots := 0, locals := 12 } : Room).slots) :=
  own_met (ret := none) (Q := (Q6s23 Z b21634 h0 n0)) (plainFor_of_name pn_6) (fun m => ef_6 m b21634) (fun p e s m below meth c T0 X0 hx hby hml hown hnm hZ e0 => by
  have N0 := Fr.nil n0
  refine ost (mkF m 1 #[.val (.ref b21634)] [(.ref b21634)]) X0 (fun t k => XS.aloadN X0.here hx rfl (hb hby d6_0) rfl rfl k) ?_
  obtain ⟨T23643, X23643, e23643, st23643⟩ := initO X0 hx hZ hown (hw _ (wm 47 rfl)) (hw _ (wm 19 rfl)) (hw _ (wm 20 rfl)) e0 (g := (mkF m 1 #[.val (.ref b21634)] [(.ref b21634)])) rfl (by rw [hml]; rfl) rfl (hb hby d6_1) (by decide) (W := 0) (by show 2 * 0 + _ ≤ _; exact Nat.le_of_eq rfl) (by decide)
  refine ost (mkF m 4 #[.val (.ref b21634)] []) X23643 (fun t k => st23643 _ k) ?_
  refine OwnFin.retVoid X23643 (hb hby d6_4) (by decide) (by decide) ?_
  rw [e23643]
  exact ⟨rfl, N0, rfl⟩)
def Q5s22 (Z : State) (b21639 : Addr) (b21640 : Addr) (b21634 : Addr) (h0 : Heap) (n0 : Nat) : Option Value → Heap → List Loc → Prop := fun v h L => v = none ∧ Fr n0 L ∧ Keep h0 h [b21634] ∧ Exa Z h b21634 "com/example/ken2/ken2/InterpretedSystem$Variable" ∧ Fld Z h b21634 "com/example/ken2/ken2/InterpretedSystem$Variable" "agent" "Ljava/lang/String;" (.ref b21639) ∧ Fld Z h b21634 "com/example/ken2/ken2/InterpretedSystem$Variable" "name" "Ljava/lang/String;" (.ref b21640) ∧ Fld Z h b21634 "com/example/ken2/ken2/InterpretedSystem$Variable" "values" "Ljava/util/List;" .null ∧ Fld Z h b21634 "com/example/ken2/ken2/InterpretedSystem$Variable" "low" "I" (.int (0 : Int32)) ∧ Fld Z h b21634 "com/example/ken2/ken2/InterpretedSystem$Variable" "size" "I" (.int (32 : Int32))
abbrev Las225_0 (b21634 : Addr) (b21639 : Addr) (b21640 : Addr) : Array Slot := #[.val (.ref b21634), .val (.ref b21639), .val (.ref b21640), .val .null, .val (.int (0 : Int32)), .val (.int (32 : Int32))]
set_option maxRecDepth 65536 in
set_option maxHeartbeats 40000000 in
theorem rm5s22 (l : Launch) (Z : State) (a0 : Array Value) (hw : ∀ d ∈ tables_1, d.before a0 Z = true) (ws : List Jvm.Cond) (b21639 : Addr) (b21640 : Addr) (b21634 : Addr) (h0 : Heap) (n0 : Nat) (Z0 : n0 ≤ h0.size) (E_b21634 : Exa Z h0 b21634 "com/example/ken2/ken2/InterpretedSystem$Variable") (F_agent_b21634 : Fld Z h0 b21634 "com/example/ken2/ken2/InterpretedSystem$Variable" "agent" "Ljava/lang/String;" .null) (F_name_b21634 : Fld Z h0 b21634 "com/example/ken2/ken2/InterpretedSystem$Variable" "name" "Ljava/lang/String;" .null) (F_values_b21634 : Fld Z h0 b21634 "com/example/ken2/ken2/InterpretedSystem$Variable" "values" "Ljava/util/List;" .null) (F_low_b21634 : Fld Z h0 b21634 "com/example/ken2/ken2/InterpretedSystem$Variable" "low" "I" (.int (0 : Int32))) (F_size_b21634 : Fld Z h0 b21634 "com/example/ken2/ken2/InterpretedSystem$Variable" "size" "I" (.int (0 : Int32))) (g_b21634 : n0 ≤ b21634) :
    MetFree l Y4 (head1 (Jvm.Cond.code Y4 prog_64_method_1_code 6 none :: ws) ({ frames := 2, cells := 0, slots := 0, locals := 24 } : Room)) (fun a U => a = #[(.ref b21634), (.ref b21639), (.ref b21640), .null, (.int (0 : Int32)), (.int (32 : Int32))] ∧ Z.Warmed39 U.vm ∧ U.heap = h0) (fun _ _ _ _ _ => True) (fun _ U o U' => ∃ v L, o = .returned v ∧ (Q5s22 Z b21639 b21640 b21634 h0 n0) v U'.heap L ∧ FrameEnd U o U' L ({ frames := 2, cells := 0, slots := 0, locals := 24 } : Room).cells ({ frames := 2, cells := 0, slots := 0, locals := 24 } : Room).slots) :=
  own_met (ret := none) (Q := (Q5s22 Z b21639 b21640 b21634 h0 n0)) (plainFor_of_name pn_5) (fun m => ef_5n3 m b21634 b21639 b21640 (0 : Int32) (32 : Int32)) (fun p e s m below meth c T0 X0 hx hby hml hown hnm hZ e0 => by
  have N0 := Fr.nil n0
  refine ost (mkF m 1 (Las225_0 b21634 b21639 b21640) [(.ref b21634)]) X0 (fun t k => XS.aloadN X0.here hx rfl (hb hby d5_0) rfl rfl k) ?_
  obtain ⟨_, T22642, L22642, X22642, ⟨rfl, N22642q, u23654⟩, st22642⟩ := own_callI X0 hx hZ (y := Y3) (W := 0) (a := b21634) (argsL := []) (rest := []) rfl hown (hw _ (wm 42 rfl)) (hw _ (wm 43 rfl)) (hw _ (wm 45 rfl)) (hw _ (wm 46 rfl)) (by decide) (rm6s23 l Z a0 hw [] b21634 h0 n0 Z0 ) (by decide) (by decide) (by decide) (by decide) e0 (g := (mkF m 1 (Las225_0 b21634 b21639 b21640) [(.ref b21634)])) rfl (by rw [hml]; rfl) pd_0 rfl rfl (by show 2 * 0 + _ ≤ _; exact Nat.le_of_eq rfl) (hb hby d5_1)
  have N22642 := Fr.app N0 N22642q
  refine ost (mkF m 4 (Las225_0 b21634 b21639 b21640) []) X22642 (fun t k => st22642 _ k) ?_
  refine ost (mkF m 5 (Las225_0 b21634 b21639 b21640) [(.ref b21634)]) X22642 (fun t k => XS.aloadN X22642.here hx rfl (hb hby d5_4) rfl rfl k) ?_
  refine ost (mkF m 6 (Las225_0 b21634 b21639 b21640) [(.ref b21639), (.ref b21634)]) X22642 (fun t k => XS.aloadN X22642.here hx rfl (hb hby d5_5) rfl rfl k) ?_
  obtain ⟨T23655, h23655, L23655, X23655, e23655, N23655, W23655, F23655, st23655⟩ := own_putF X22642 hx hZ hown (hw _ (wm 48 rfl)) u23654 N22642 F_agent_b21634 E_b21634 g_b21634 (Or.inr ⟨(hw _ (wm 49 rfl)), rfl, hnm⟩) (hw _ (wm 27 rfl)) (fty := (.object "java/lang/String")) (by decide) rfl rfl (g := (mkF m 6 (Las225_0 b21634 b21639 b21640) [(.ref b21639), (.ref b21634)])) rfl rfl (hb hby d5_6)
  have K23655 := Keep.of_wr W23655
  have Z23655 := Nat.le_trans Z0 K23655.1
  have S23655 := Nat.le_trans (Nat.le_refl h0.size) K23655.1
  have F23656 := Fld.other W23655 F_name_b21634 (Or.inr (slot_ne (Or.inr (hw _ (wm 51 rfl))) (Or.inr (hw _ (wm 49 rfl))) (by decide) (t := (.object "java/lang/String")) (t' := (.object "java/lang/String")) (by decide) (by decide)))
  have F23657 := Fld.other W23655 F_values_b21634 (Or.inr (slot_ne (Or.inr (hw _ (wm 53 rfl))) (Or.inr (hw _ (wm 49 rfl))) (by decide) (t := (.object "java/util/List")) (t' := (.object "java/lang/String")) (by decide) (by decide)))
  have F23658 := Fld.other W23655 F_low_b21634 (Or.inr (slot_ne (Or.inr (hw _ (wm 55 rfl))) (Or.inr (hw _ (wm 49 rfl))) (by decide) (t := .int) (t' := (.object "java/lang/String")) (by decide) (by decide)))
  have F23659 := Fld.other W23655 F_size_b21634 (Or.inr (slot_ne (Or.inr (hw _ (wm 57 rfl))) (Or.inr (hw _ (wm 49 rfl))) (by decide) (t := .int) (t' := (.object "java/lang/String")) (by decide) (by decide)))
  have E23660 := Exa.wr W23655 E_b21634
  refine ost (mkF m 9 (Las225_0 b21634 b21639 b21640) []) X23655 (fun t k => st23655 _ k) ?_
  refine ost (mkF m 10 (Las225_0 b21634 b21639 b21640) [(.ref b21634)]) X23655 (fun t k => XS.aloadN X23655.here hx rfl (hb hby d5_9) rfl rfl k) ?_
  refine ost (mkF m 11 (Las225_0 b21634 b21639 b21640) [(.ref b21640), (.ref b21634)]) X23655 (fun t k => XS.aloadN X23655.here hx rfl (hb hby d5_10) rfl rfl k) ?_
  obtain ⟨T23661, h23661, L23661, X23661, e23661, N23661, W23661, F23661, st23661⟩ := own_putF X23655 hx hZ hown (hw _ (wm 50 rfl)) e23655 N23655 F23656 E23660 g_b21634 (Or.inr ⟨(hw _ (wm 51 rfl)), rfl, hnm⟩) (hw _ (wm 27 rfl)) (fty := (.object "java/lang/String")) (by decide) rfl rfl (g := (mkF m 11 (Las225_0 b21634 b21639 b21640) [(.ref b21640), (.ref b21634)])) rfl rfl (hb hby d5_11)
  have K23661 := Keep.of_wr W23661
  have Z23661 := Nat.le_trans Z23655 K23661.1
  have S23661 := Nat.le_trans S23655 K23661.1
  have F23662 := Fld.other W23661 F23655 (Or.inr (slot_ne (Or.inr (hw _ (wm 49 rfl))) (Or.inr (hw _ (wm 51 rfl))) (by decide) (t := (.object "java/lang/String")) (t' := (.object "java/lang/String")) (by decide) (by decide)))
  have F23663 := Fld.other W23661 F23657 (Or.inr (slot_ne (Or.inr (hw _ (wm 53 rfl))) (Or.inr (hw _ (wm 51 rfl))) (by decide) (t := (.object "java/util/List")) (t' := (.object "java/lang/String")) (by decide) (by decide)))
  have F23664 := Fld.other W23661 F23658 (Or.inr (slot_ne (Or.inr (hw _ (wm 55 rfl))) (Or.inr (hw _ (wm 51 rfl))) (by decide) (t := .int) (t' := (.object "java/lang/String")) (by decide) (by decide)))
  have F23665 := Fld.other W23661 F23659 (Or.inr (slot_ne (Or.inr (hw _ (wm 57 rfl))) (Or.inr (hw _ (wm 51 rfl))) (by decide) (t := .int) (t' := (.object "java/lang/String")) (by decide) (by decide)))
  have E23666 := Exa.wr W23661 E23660
  refine ost (mkF m 14 (Las225_0 b21634 b21639 b21640) []) X23661 (fun t k => st23661 _ k) ?_
  refine ost (mkF m 15 (Las225_0 b21634 b21639 b21640) [(.ref b21634)]) X23661 (fun t k => XS.aloadN X23661.here hx rfl (hb hby d5_14) rfl rfl k) ?_
  refine ost (mkF m 16 (Las225_0 b21634 b21639 b21640) [.null, (.ref b21634)]) X23661 (fun t k => XS.aloadN X23661.here hx rfl (hb hby d5_15) rfl rfl k) ?_
  obtain ⟨T23667, h23667, L23667, X23667, e23667, N23667, W23667, F23667, st23667⟩ := own_putF X23661 hx hZ hown (hw _ (wm 52 rfl)) e23661 N23661 F23663 E23666 g_b21634 (Or.inr ⟨(hw _ (wm 53 rfl)), rfl, hnm⟩) (hw _ (wm 27 rfl)) (fty := (.object "java/util/List")) (by decide) rfl rfl (g := (mkF m 16 (Las225_0 b21634 b21639 b21640) [.null, (.ref b21634)])) rfl rfl (hb hby d5_16)
  have K23667 := Keep.of_wr W23667
  have Z23667 := Nat.le_trans Z23661 K23667.1
  have S23667 := Nat.le_trans S23661 K23667.1
  have F23668 := Fld.other W23667 F23662 (Or.inr (slot_ne (Or.inr (hw _ (wm 49 rfl))) (Or.inr (hw _ (wm 53 rfl))) (by decide) (t := (.object "java/lang/String")) (t' := (.object "java/util/List")) (by decide) (by decide)))
  have F23669 := Fld.other W23667 F23661 (Or.inr (slot_ne (Or.inr (hw _ (wm 51 rfl))) (Or.inr (hw _ (wm 53 rfl))) (by decide) (t := (.object "java/lang/String")) (t' := (.object "java/util/List")) (by decide) (by decide)))
  have F23670 := Fld.other W23667 F23664 (Or.inr (slot_ne (Or.inr (hw _ (wm 55 rfl))) (Or.inr (hw _ (wm 53 rfl))) (by decide) (t := .int) (t' := (.object "java/util/List")) (by decide) (by decide)))
  have F23671 := Fld.other W23667 F23665 (Or.inr (slot_ne (Or.inr (hw _ (wm 57 rfl))) (Or.inr (hw _ (wm 53 rfl))) (by decide) (t := .int) (t' := (.object "java/util/List")) (by decide) (by decide)))
  have E23672 := Exa.wr W23667 E23666
  refine ost (mkF m 19 (Las225_0 b21634 b21639 b21640) []) X23667 (fun t k => st23667 _ k) ?_
  refine ost (mkF m 20 (Las225_0 b21634 b21639 b21640) [(.ref b21634)]) X23667 (fun t k => XS.aloadN X23667.here hx rfl (hb hby d5_19) rfl rfl k) ?_
  refine ost (mkF m 22 (Las225_0 b21634 b21639 b21640) [(.int (0 : Int32)), (.ref b21634)]) X23667 (fun t k => XS.iload X23667.here hx rfl (hb hby d5_20) rfl k) ?_
  obtain ⟨T23673, h23673, L23673, X23673, e23673, N23673, W23673, F23673, st23673⟩ := own_putF X23667 hx hZ hown (hw _ (wm 54 rfl)) e23667 N23667 F23670 E23672 g_b21634 (Or.inr ⟨(hw _ (wm 55 rfl)), rfl, hnm⟩) (hw _ (wm 27 rfl)) (fty := .int) (by decide) rfl rfl (g := (mkF m 22 (Las225_0 b21634 b21639 b21640) [(.int (0 : Int32)), (.ref b21634)])) rfl rfl (hb hby d5_22)
  have K23673 := Keep.of_wr W23673
  have Z23673 := Nat.le_trans Z23667 K23673.1
  have S23673 := Nat.le_trans S23667 K23673.1
  have F23674 := Fld.other W23673 F23668 (Or.inr (slot_ne (Or.inr (hw _ (wm 49 rfl))) (Or.inr (hw _ (wm 55 rfl))) (by decide) (t := (.object "java/lang/String")) (t' := .int) (by decide) (by decide)))
  have F23675 := Fld.other W23673 F23669 (Or.inr (slot_ne (Or.inr (hw _ (wm 51 rfl))) (Or.inr (hw _ (wm 55 rfl))) (by decide) (t := (.object "java/lang/String")) (t' := .int) (by decide) (by decide)))
  have F23676 := Fld.other W23673 F23667 (Or.inr (slot_ne (Or.inr (hw _ (wm 53 rfl))) (Or.inr (hw _ (wm 55 rfl))) (by decide) (t := (.object "java/util/List")) (t' := .int) (by decide) (by decide)))
  have F23677 := Fld.other W23673 F23671 (Or.inr (slot_ne (Or.inr (hw _ (wm 57 rfl))) (Or.inr (hw _ (wm 55 rfl))) (by decide) (t := .int) (t' := .int) (by decide) (by decide)))
  have E23678 := Exa.wr W23673 E23672
  refine ost (mkF m 25 (Las225_0 b21634 b21639 b21640) []) X23673 (fun t k => st23673 _ k) ?_
  refine ost (mkF m 26 (Las225_0 b21634 b21639 b21640) [(.ref b21634)]) X23673 (fun t k => XS.aloadN X23673.here hx rfl (hb hby d5_25) rfl rfl k) ?_
  refine ost (mkF m 28 (Las225_0 b21634 b21639 b21640) [(.int (32 : Int32)), (.ref b21634)]) X23673 (fun t k => XS.iload X23673.here hx rfl (hb hby d5_26) rfl k) ?_
  obtain ⟨T23679, h23679, L23679, X23679, e23679, N23679, W23679, F23679, st23679⟩ := own_putF X23673 hx hZ hown (hw _ (wm 56 rfl)) e23673 N23673 F23677 E23678 g_b21634 (Or.inr ⟨(hw _ (wm 57 rfl)), rfl, hnm⟩) (hw _ (wm 27 rfl)) (fty := .int) (by decide) rfl rfl (g := (mkF m 28 (Las225_0 b21634 b21639 b21640) [(.int (32 : Int32)), (.ref b21634)])) rfl rfl (hb hby d5_28)
  have K23679 := Keep.of_wr W23679
  have Z23679 := Nat.le_trans Z23673 K23679.1
  have S23679 := Nat.le_trans S23673 K23679.1
  have F23680 := Fld.other W23679 F23674 (Or.inr (slot_ne (Or.inr (hw _ (wm 49 rfl))) (Or.inr (hw _ (wm 57 rfl))) (by decide) (t := (.object "java/lang/String")) (t' := .int) (by decide) (by decide)))
  have F23681 := Fld.other W23679 F23675 (Or.inr (slot_ne (Or.inr (hw _ (wm 51 rfl))) (Or.inr (hw _ (wm 57 rfl))) (by decide) (t := (.object "java/lang/String")) (t' := .int) (by decide) (by decide)))
  have F23682 := Fld.other W23679 F23676 (Or.inr (slot_ne (Or.inr (hw _ (wm 53 rfl))) (Or.inr (hw _ (wm 57 rfl))) (by decide) (t := (.object "java/util/List")) (t' := .int) (by decide) (by decide)))
  have F23683 := Fld.other W23679 F23673 (Or.inr (slot_ne (Or.inr (hw _ (wm 55 rfl))) (Or.inr (hw _ (wm 57 rfl))) (by decide) (t := .int) (t' := .int) (by decide) (by decide)))
  have E23684 := Exa.wr W23679 E23678
  refine ost (mkF m 31 (Las225_0 b21634 b21639 b21640) []) X23679 (fun t k => st23679 _ k) ?_
  refine OwnFin.retVoid X23679 (hb hby d5_31) (by decide) (by decide) ?_
  rw [e23679]
  exact ⟨rfl, N23679, (Keep.trans (Keep.trans (Keep.trans (Keep.trans (Keep.trans (Keep.refl h0 [b21634]) K23655 (allS (Or.inl (wm 0 rfl)) all0)) K23661 (allS (Or.inl (wm 0 rfl)) all0)) K23667 (allS (Or.inl (wm 0 rfl)) all0)) K23673 (allS (Or.inl (wm 0 rfl)) all0)) K23679 (allS (Or.inl (wm 0 rfl)) all0)), E23684, F23680, F23681, F23682, F23683, F23679⟩)
def Q8s21 (Z : State) (b1 : Addr) (b3058 : Addr) (b9144 : Addr) (b9244 : Addr) (b13373 : Addr) (b17503 : Addr) (h0 : Heap) (n0 : Nat) : Option Value → Heap → List Loc → Prop := fun v h L => v = none ∧ Fr n0 L ∧ Keep h0 h [b1, b9144] ∧ Exa Z h b1 "java/util/ArrayList" ∧ Fld Z h b1 "java/util/AbstractList" "modCount" "I" (.int (4 : Int32)) ∧ Fld Z h b1 "java/util/ArrayList" "elementData" "[Ljava/lang/Object;" (.ref b9144) ∧ Fld Z h b1 "java/util/ArrayList" "size" "I" (.int (4 : Int32)) ∧ AryR Z h b9144 "java/lang/Object" 10 (updN (updN (updN (updN (fun _ => Value.null) ((0 : Int32)).toNatClampNeg (Value.ref b3058)) ((1 : Int32)).toNatClampNeg (Value.ref b9244)) ((2 : Int32)).toNatClampNeg (Value.ref b13373)) ((3 : Int32)).toNatClampNeg (Value.ref b17503))
abbrev Las218_0 (b1 : Addr) (b17503 : Addr) (b9144 : Addr) : Array Slot := #[.val (.ref b1), .val (.ref b17503), .val (.ref b9144), .val (.int (3 : Int32))]
set_option maxRecDepth 65536 in
set_option maxHeartbeats 40000000 in
theorem rm8s21 (l : Launch) (Z : State) (a0 : Array Value) (hw : ∀ d ∈ tables_1, d.before a0 Z = true) (ws : List Jvm.Cond) (b1 : Addr) (b3058 : Addr) (b9144 : Addr) (b9244 : Addr) (b13373 : Addr) (b17503 : Addr) (h0 : Heap) (n0 : Nat) (Z0 : n0 ≤ h0.size) (E_b1 : Exa Z h0 b1 "java/util/ArrayList") (F_modCount_b1 : Fld Z h0 b1 "java/util/AbstractList" "modCount" "I" (.int (4 : Int32))) (F_elementData_b1 : Fld Z h0 b1 "java/util/ArrayList" "elementData" "[Ljava/lang/Object;" (.ref b9144)) (F_size_b1 : Fld Z h0 b1 "java/util/ArrayList" "size" "I" (.int (3 : Int32))) (g_b1 : n0 ≤ b1) (A_b9144 : AryR Z h0 b9144 "java/lang/Object" 10 (updN (updN (updN (fun _ => Value.null) ((0 : Int32)).toNatClampNeg (Value.ref b3058)) ((1 : Int32)).toNatClampNeg (Value.ref b9244)) ((2 : Int32)).toNatClampNeg (Value.ref b13373))) (g_b9144 : n0 ≤ b9144) (E_b17503 : Exa Z h0 b17503 "com/example/ken2/ken2/InterpretedSystem$Variable") (ne_b1_b9144 : b1 ≠ b9144) :
    MetFree l Y8 (head1 (Jvm.Cond.code Y8 jdk_38_method_24_code 4 none :: ws) ({ frames := 0, cells := 0, slots := 0, locals := 0 } : Room)) (fun a U => a = #[(.ref b1), (.ref b17503), (.ref b9144), (.int (3 : Int32))] ∧ Z.Warmed39 U.vm ∧ U.heap = h0) (fun _ _ _ _ _ => True) (fun _ U o U' => ∃ v L, o = .returned v ∧ (Q8s21 Z b1 b3058 b9144 b9244 b13373 b17503 h0 n0) v U'.heap L ∧ FrameEnd U o U' L ({ frames := 0, cells := 0, slots := 0, locals := 0 } : Room).cells ({ frames := 0, cells := 0, slots := 0, locals := 0 } : Room).slots) :=
  own_met (ret := none) (Q := (Q8s21 Z b1 b3058 b9144 b9244 b13373 b17503 h0 n0)) (plainFor_of_name pn_8) (fun m => ef_8 m b1 b17503 b9144 (3 : Int32)) (fun p e s m below meth c T0 X0 hx hby hml hown hnm hZ e0 => by
  have N0 := Fr.nil n0
  refine ost (mkF m 1 (Las218_0 b1 b17503 b9144) [(.int (3 : Int32))]) X0 (fun t k => XS.iloadN X0.here hx rfl (hb hby d8_0) rfl k) ?_
  refine ost (mkF m 2 (Las218_0 b1 b17503 b9144) [(.ref b9144), (.int (3 : Int32))]) X0 (fun t k => XS.aloadN X0.here hx rfl (hb hby d8_1) rfl rfl k) ?_
  refine ost (mkF m 3 (Las218_0 b1 b17503 b9144) [(.int (10 : Int32)), (.int (3 : Int32))]) X0 (fun t k => own_len X0 hx hZ e0 (A_b9144).1 (g := (mkF m 2 (Las218_0 b1 b17503 b9144) [(.ref b9144), (.int (3 : Int32))])) rfl rfl (hb hby d8_2) _ k) ?_
  refine ost (mkF m 11 (Las218_0 b1 b17503 b9144) []) X0 (fun t k => XS.icmpYes X0.here hx rfl (pc0 := 3) (pc' := 11) rfl (hb hby d8_3) rfl (feq (show ¬ ((3 : Int32) = (10 : Int32)) by first | decide | exact Int32.lt_irrefl _ | exact Int64.lt_irrefl _)).2 (by decide) (by decide) k) ?_
  refine ost (mkF m 12 (Las218_0 b1 b17503 b9144) [(.ref b9144)]) X0 (fun t k => XS.aloadN X0.here hx rfl (hb hby d8_11) rfl rfl k) ?_
  refine ost (mkF m 13 (Las218_0 b1 b17503 b9144) [(.int (3 : Int32)), (.ref b9144)]) X0 (fun t k => XS.iloadN X0.here hx rfl (hb hby d8_12) rfl k) ?_
  refine ost (mkF m 14 (Las218_0 b1 b17503 b9144) [(.ref b17503), (.int (3 : Int32)), (.ref b9144)]) X0 (fun t k => XS.aloadN X0.here hx rfl (hb hby d8_13) rfl rfl k) ?_
  obtain ⟨T21585, h21585, L21585, X21585, e21585, N21585, K21585, A21585, st21585⟩ := own_stA X0 hx hZ e0 N0 (G := (updN (updN (updN (fun _ => Value.null) ((0 : Int32)).toNatClampNeg (Value.ref b3058)) ((1 : Int32)).toNatClampNeg (Value.ref b9244)) ((2 : Int32)).toNatClampNeg (Value.ref b13373))) A_b9144 g_b9144 (j := (3 : Int32)) (v := (.ref b17503)) (by decide) (own_sto A_b9144 E_b17503 (hw _ (wm 88 rfl))) (g := (mkF m 14 (Las218_0 b1 b17503 b9144) [(.ref b17503), (.int (3 : Int32)), (.ref b9144)])) rfl rfl (hb hby d8_14)
  have Z21585 := Nat.le_trans Z0 K21585.1
  have S21585 := Nat.le_trans (Nat.le_refl h0.size) K21585.1
  refine ost (mkF m 15 (Las218_0 b1 b17503 b9144) []) X21585 (fun t k => st21585 _ k) ?_
  refine ost (mkF m 16 (Las218_0 b1 b17503 b9144) [(.ref b1)]) X21585 (fun t k => XS.aloadN X21585.here hx rfl (hb hby d8_15) rfl rfl k) ?_
  refine ost (mkF m 17 (Las218_0 b1 b17503 b9144) [(.int (3 : Int32)), (.ref b1)]) X21585 (fun t k => XS.iloadN X21585.here hx rfl (hb hby d8_16) rfl k) ?_
  refine ost (mkF m 18 (Las218_0 b1 b17503 b9144) [(.int (1 : Int32)), (.int (3 : Int32)), (.ref b1)]) X21585 (fun t k => XS.iconst X21585.here hx rfl (hb hby d8_17) k) ?_
  refine ost (mkF m 19 (Las218_0 b1 b17503 b9144) [(.int (4 : Int32)), (.ref b1)]) X21585 (fun t k => XS.iadd X21585.here hx rfl (hb hby d8_18) rfl k) ?_
  have E21586 := (Exa.keep E_b1 K21585)
  have F21587 := (F_modCount_b1.keep K21585 (ninS ne_b1_b9144 nin0))
  have F21588 := (F_elementData_b1.keep K21585 (ninS ne_b1_b9144 nin0))
  have F21589 := (F_size_b1.keep K21585 (ninS ne_b1_b9144 nin0))
  obtain ⟨T21590, h21590, L21590, X21590, e21590, N21590, W21590, F21590, st21590⟩ := own_putF X21585 hx hZ hown (hw _ (wm 65 rfl)) e21585 N21585 F21589 E21586 g_b1 (Or.inl (hw _ (wm 66 rfl))) (hw _ (wm 1 rfl)) (fty := .int) (by decide) rfl rfl (g := (mkF m 19 (Las218_0 b1 b17503 b9144) [(.int (4 : Int32)), (.ref b1)])) rfl rfl (hb hby d8_19)
  have K21590 := Keep.of_wr W21590
  have Z21590 := Nat.le_trans Z21585 K21590.1
  have S21590 := Nat.le_trans S21585 K21590.1
  have F21591 := Fld.other W21590 F21587 (Or.inr (slot_ne (Or.inl (hw _ (wm 22 rfl))) (Or.inl (hw _ (wm 66 rfl))) (by decide) (t := .int) (t' := .int) (by decide) (by decide)))
  have F21592 := Fld.other W21590 F21588 (Or.inr (slot_ne (Or.inl (hw _ (wm 25 rfl))) (Or.inl (hw _ (wm 66 rfl))) (by decide) (t := (.array (.object "java/lang/Object"))) (t' := .int) (by decide) (by decide)))
  have E21593 := Exa.wr W21590 E21586
  refine ost (mkF m 22 (Las218_0 b1 b17503 b9144) []) X21590 (fun t k => st21590 _ k) ?_
  have A21594 := (A21585.keep K21590 (ninS (Ne.symm ne_b1_b9144) nin0))
  refine OwnFin.retVoid X21590 (hb hby d8_22) (by decide) (by decide) ?_
  rw [e21590]
  exact ⟨rfl, N21590, (Keep.trans (Keep.trans (Keep.refl h0 [b1, b9144]) K21585 (allS (Or.inl (wm 1 rfl)) all0)) K21590 (allS (Or.inl (wm 0 rfl)) all0)), E21593, F21591, F21592, F21590, A21594⟩)
def Q7s20 (Z : State) (b1 : Addr) (b3058 : Addr) (b9144 : Addr) (b9244 : Addr) (b13373 : Addr) (b17503 : Addr) (h0 : Heap) (n0 : Nat) : Option Value → Heap → List Loc → Prop := fun v h L => v = some (.int (nar .boolean (1 : Int32))) ∧ Fr n0 L ∧ Keep h0 h [b1, b9144] ∧ Exa Z h b1 "java/util/ArrayList" ∧ Fld Z h b1 "java/util/AbstractList" "modCount" "I" (.int (4 : Int32)) ∧ Fld Z h b1 "java/util/ArrayList" "elementData" "[Ljava/lang/Object;" (.ref b9144) ∧ Fld Z h b1 "java/util/ArrayList" "size" "I" (.int (4 : Int32)) ∧ AryR Z h b9144 "java/lang/Object" 10 (updN (updN (updN (updN (fun _ => Value.null) ((0 : Int32)).toNatClampNeg (Value.ref b3058)) ((1 : Int32)).toNatClampNeg (Value.ref b9244)) ((2 : Int32)).toNatClampNeg (Value.ref b13373)) ((3 : Int32)).toNatClampNeg (Value.ref b17503))
set_option maxRecDepth 65536 in
set_option maxHeartbeats 40000000 in
theorem rm7s20 (l : Launch) (Z : State) (a0 : Array Value) (hw : ∀ d ∈ tables_1, d.before a0 Z = true) (ws : List Jvm.Cond) (b1 : Addr) (b3058 : Addr) (b9144 : Addr) (b9244 : Addr) (b13373 : Addr) (b17503 : Addr) (h0 : Heap) (n0 : Nat) (Z0 : n0 ≤ h0.size) (E_b1 : Exa Z h0 b1 "java/util/ArrayList") (F_modCount_b1 : Fld Z h0 b1 "java/util/AbstractList" "modCount" "I" (.int (3 : Int32))) (F_elementData_b1 : Fld Z h0 b1 "java/util/ArrayList" "elementData" "[Ljava/lang/Object;" (.ref b9144)) (F_size_b1 : Fld Z h0 b1 "java/util/ArrayList" "size" "I" (.int (3 : Int32))) (g_b1 : n0 ≤ b1) (A_b9144 : AryR Z h0 b9144 "java/lang/Object" 10 (updN (updN (updN (fun _ => Value.null) ((0 : Int32)).toNatClampNeg (Value.ref b3058)) ((1 : Int32)).toNatClampNeg (Value.ref b9244)) ((2 : Int32)).toNatClampNeg (Value.ref b13373))) (g_b9144 : n0 ≤ b9144) (E_b17503 : Exa Z h0 b17503 "com/example/ken2/ken2/InterpretedSystem$Variable") (ne_b1_b9144 : b1 ≠ b9144) :
    MetFree l Y9 (head1 (Jvm.Cond.code Y9 jdk_38_method_25_code 2 (some .boolean) :: ws) ({ frames := 1, cells := 0, slots := 0, locals := 15 } : Room)) (fun a U => a = #[(.ref b1), (.ref b17503)] ∧ Z.Warmed39 U.vm ∧ U.heap = h0) (fun _ _ _ _ _ => True) (fun _ U o U' => ∃ v L, o = .returned v ∧ (Q7s20 Z b1 b3058 b9144 b9244 b13373 b17503 h0 n0) v U'.heap L ∧ FrameEnd U o U' L ({ frames := 1, cells := 0, slots := 0, locals := 15 } : Room).cells ({ frames := 1, cells := 0, slots := 0, locals := 15 } : Room).slots) :=
  own_met (ret := (some .boolean)) (Q := (Q7s20 Z b1 b3058 b9144 b9244 b13373 b17503 h0 n0)) (plainFor_of_name pn_7) (fun m => ef_7 m b1 b17503) (fun p e s m below meth c T0 X0 hx hby hml hown hnm hZ e0 => by
  have N0 := Fr.nil n0
  refine ost (mkF m 1 #[.val (.ref b1), .val (.ref b17503)] [(.ref b1)]) X0 (fun t k => XS.aloadN X0.here hx rfl (hb hby d7_0) rfl rfl k) ?_
  refine ost (mkF m 2 #[.val (.ref b1), .val (.ref b17503)] [(.ref b1), (.ref b1)]) X0 (fun t k => XS.dup X0.here hx rfl (hb hby d7_1) rfl rfl k) ?_
  obtain ⟨T20577, X20577, e20577, st20577⟩ := getF X0 hx hZ hown (host := "") (Or.inl (hw _ (wm 63 rfl))) (Via.of (hw _ (wm 64 rfl))) e0 F_modCount_b1 (g := (mkF m 2 #[.val (.ref b1), .val (.ref b17503)] [(.ref b1), (.ref b1)])) rfl rfl (hb hby d7_2)
  refine ost (mkF m 5 #[.val (.ref b1), .val (.ref b17503)] [(.int (3 : Int32)), (.ref b1)]) X20577 (fun t k => st20577 _ k) ?_
  refine ost (mkF m 6 #[.val (.ref b1), .val (.ref b17503)] [(.int (1 : Int32)), (.int (3 : Int32)), (.ref b1)]) X20577 (fun t k => XS.iconst X20577.here hx rfl (hb hby d7_5) k) ?_
  refine ost (mkF m 7 #[.val (.ref b1), .val (.ref b17503)] [(.int (4 : Int32)), (.ref b1)]) X20577 (fun t k => XS.iadd X20577.here hx rfl (hb hby d7_6) rfl k) ?_
  obtain ⟨T20578, h20578, L20578, X20578, e20578, N20578, W20578, F20578, st20578⟩ := own_putFV X20577 hx hZ hown (hw _ (wm 63 rfl)) (Via.of (hw _ (wm 64 rfl))) e20577 N0 F_modCount_b1 E_b1 g_b1 (Or.inl (hw _ (wm 22 rfl))) (hw _ (wm 1 rfl)) (fty := .int) (by decide) rfl rfl (g := (mkF m 7 #[.val (.ref b1), .val (.ref b17503)] [(.int (4 : Int32)), (.ref b1)])) rfl rfl (hb hby d7_7)
  have K20578 := Keep.of_wr W20578
  have Z20578 := Nat.le_trans Z0 K20578.1
  have S20578 := Nat.le_trans (Nat.le_refl h0.size) K20578.1
  have F20579 := Fld.other W20578 F_elementData_b1 (Or.inr (slot_ne (Or.inl (hw _ (wm 25 rfl))) (Or.inl (hw _ (wm 22 rfl))) (by decide) (t := (.array (.object "java/lang/Object"))) (t' := .int) (by decide) (by decide)))
  have F20580 := Fld.other W20578 F_size_b1 (Or.inr (slot_ne (Or.inl (hw _ (wm 66 rfl))) (Or.inl (hw _ (wm 22 rfl))) (by decide) (t := .int) (t' := .int) (by decide) (by decide)))
  have E20581 := Exa.wr W20578 E_b1
  refine ost (mkF m 10 #[.val (.ref b1), .val (.ref b17503)] []) X20578 (fun t k => st20578 _ k) ?_
  refine ost (mkF m 11 #[.val (.ref b1), .val (.ref b17503)] [(.ref b1)]) X20578 (fun t k => XS.aloadN X20578.here hx rfl (hb hby d7_10) rfl rfl k) ?_
  refine ost (mkF m 12 #[.val (.ref b1), .val (.ref b17503)] [(.ref b17503), (.ref b1)]) X20578 (fun t k => XS.aloadN X20578.here hx rfl (hb hby d7_11) rfl rfl k) ?_
  refine ost (mkF m 13 #[.val (.ref b1), .val (.ref b17503)] [(.ref b1), (.ref b17503), (.ref b1)]) X20578 (fun t k => XS.aloadN X20578.here hx rfl (hb hby d7_12) rfl rfl k) ?_
  obtain ⟨T20582, X20582, e20582, st20582⟩ := getF X20578 hx hZ hown (host := "") (Or.inl (hw _ (wm 24 rfl))) Via.refl e20578 F20579 (g := (mkF m 13 #[.val (.ref b1), .val (.ref b17503)] [(.ref b1), (.ref b17503), (.ref b1)])) rfl rfl (hb hby d7_13)
  refine ost (mkF m 16 #[.val (.ref b1), .val (.ref b17503)] [(.ref b9144), (.ref b17503), (.ref b1)]) X20582 (fun t k => st20582 _ k) ?_
  refine ost (mkF m 17 #[.val (.ref b1), .val (.ref b17503)] [(.ref b1), (.ref b9144), (.ref b17503), (.ref b1)]) X20582 (fun t k => XS.aloadN X20582.here hx rfl (hb hby d7_16) rfl rfl k) ?_
  obtain ⟨T20583, X20583, e20583, st20583⟩ := getF X20582 hx hZ hown (host := "") (Or.inl (hw _ (wm 65 rfl))) Via.refl e20582 F20580 (g := (mkF m 17 #[.val (.ref b1), .val (.ref b17503)] [(.ref b1), (.ref b9144), (.ref b17503), (.ref b1)])) rfl rfl (hb hby d7_17)
  refine ost (mkF m 20 #[.val (.ref b1), .val (.ref b17503)] [(.int (3 : Int32)), (.ref b9144), (.ref b17503), (.ref b1)]) X20583 (fun t k => st20583 _ k) ?_
  have A21605 := (A_b9144.keep K20578 (ninS (Ne.symm ne_b1_b9144) nin0))
  have E21606 := (Exa.keep E_b17503 K20578)
  obtain ⟨_, T20584, L20584, X20584, ⟨rfl, N20584q, u21607, u21608, u21609, u21610, u21611, u21612⟩, st20584⟩ := own_callP X20583 hx hZ (y := Y8) (W := 0) (a := b1) (argsL := [(.ref b17503), (.ref b9144), (.int (3 : Int32))]) (rest := []) hown (hw _ (wm 67 rfl)) (hw _ (wm 61 rfl)) rfl (hw _ (wm 68 rfl)) (hw _ (wm 69 rfl)) (hw _ (wm 2 rfl)) (hw _ (wm 71 rfl)) (by decide) E20581 (rm8s21 l Z a0 hw [] b1 b3058 b9144 b9244 b13373 b17503 h20578 n0 Z20578 E20581 F20578 F20579 F20580 g_b1 A21605 g_b9144 E21606 ne_b1_b9144) (by decide) (by decide) (by decide) (by decide) e20583 (g := (mkF m 20 #[.val (.ref b1), .val (.ref b17503)] [(.int (3 : Int32)), (.ref b9144), (.ref b17503), (.ref b1)])) rfl (by rw [hml]; rfl) pd_5 rfl rfl (by show 2 * 0 + _ ≤ _; exact Nat.le_of_eq rfl) (hb hby d7_20)
  have N20584 := Fr.app N20578 N20584q
  obtain ⟨h20584, e20584⟩ : ∃ z, T20584.heap = z := ⟨_, rfl⟩
  rw [e20584] at u21607 u21608 u21609 u21610 u21611 u21612
  have K20584 := u21607
  have Z20584 := Nat.le_trans Z20578 K20584.1
  have S20584 := Nat.le_trans S20578 K20584.1
  refine ost (mkF m 23 #[.val (.ref b1), .val (.ref b17503)] []) X20584 (fun t k => st20584 _ k) ?_
  refine ost (mkF m 24 #[.val (.ref b1), .val (.ref b17503)] [(.int (1 : Int32))]) X20584 (fun t k => XS.iconst X20584.here hx rfl (hb hby d7_23) k) ?_
  refine OwnFin.retNar X20584 (by simp) (hb hby d7_24) (by decide) (by decide) ?_
  rw [e20584]
  exact ⟨rfl, N20584, (Keep.trans (Keep.trans (Keep.refl h0 [b1, b9144]) K20578 (allS (Or.inl (wm 0 rfl)) all0)) K20584 (allS (Or.inl (wm 0 rfl)) (allS (Or.inl (wm 1 rfl)) all0))), u21608, u21609, u21610, u21611, u21612⟩)
def Q6s19 (Z : State) (b17503 : Addr) (h0 : Heap) (n0 : Nat) : Option Value → Heap → List Loc → Prop := fun v h L => v = none ∧ Fr n0 L ∧ h = h0
set_option maxRecDepth 65536 in
set_option maxHeartbeats 40000000 in
theorem rm6s19 (l : Launch) (Z : State) (a0 : Array Value) (hw : ∀ d ∈ tables_1, d.before a0 Z = true) (ws : List Jvm.Cond) (b17503 : Addr) (h0 : Heap) (n0 : Nat) (Z0 : n0 ≤ h0.size) :
    MetFree l Y3 (head1 (Jvm.Cond.code Y3 jdk_30_method_1_code 1 none :: ws) ({ frames := 1, cells := 0, slots := 0, locals := 12 } : Room)) (fun a U => a = #[(.ref b17503)] ∧ Z.Warmed39 U.vm ∧ U.heap = h0) (fun _ _ _ _ _ => True) (fun _ U o U' => ∃ v L, o = .returned v ∧ (Q6s19 Z b17503 h0 n0) v U'.heap L ∧ FrameEnd U o U' L ({ frames := 1, cells := 0, slots := 0, locals := 12 } : Room).cells ({ frames := 1, cells := 0, slots := 0, locals := 12 } : Room).slots) :=
  own_met (ret := none) (Q := (Q6s19 Z b17503 h0 n0)) (plainFor_of_name pn_6) (fun m => ef_6 m b17503) (fun p e s m below meth c T0 X0 hx hby hml hown hnm hZ e0 => by
  have N0 := Fr.nil n0
  refine ost (mkF m 1 #[.val (.ref b17503)] [(.ref b17503)]) X0 (fun t k => XS.aloadN X0.here hx rfl (hb hby d6_0) rfl rfl k) ?_
  obtain ⟨T19511, X19511, e19511, st19511⟩ := initO X0 hx hZ hown (hw _ (wm 47 rfl)) (hw _ (wm 19 rfl)) (hw _ (wm 20 rfl)) e0 (g := (mkF m 1 #[.val (.ref b17503)] [(.ref b17503)])) rfl (by rw [hml]; rfl) rfl (hb hby d6_1) (by decide) (W := 0) (by show 2 * 0 + _ ≤ _; exact Nat.le_of_eq rfl) (by decide)
  refine ost (mkF m 4 #[.val (.ref b17503)] []) X19511 (fun t k => st19511 _ k) ?_
  refine OwnFin.retVoid X19511 (hb hby d6_4) (by decide) (by decide) ?_
  rw [e19511]
  exact ⟨rfl, N0, rfl⟩)
def Q5s18 (Z : State) (b17507 : Addr) (b17508 : Addr) (b17503 : Addr) (h0 : Heap) (n0 : Nat) : Option Value → Heap → List Loc → Prop := fun v h L => v = none ∧ Fr n0 L ∧ Keep h0 h [b17503] ∧ Exa Z h b17503 "com/example/ken2/ken2/InterpretedSystem$Variable" ∧ Fld Z h b17503 "com/example/ken2/ken2/InterpretedSystem$Variable" "agent" "Ljava/lang/String;" (.ref b17507) ∧ Fld Z h b17503 "com/example/ken2/ken2/InterpretedSystem$Variable" "name" "Ljava/lang/String;" (.ref b17508) ∧ Fld Z h b17503 "com/example/ken2/ken2/InterpretedSystem$Variable" "values" "Ljava/util/List;" .null ∧ Fld Z h b17503 "com/example/ken2/ken2/InterpretedSystem$Variable" "low" "I" (.int (0 : Int32)) ∧ Fld Z h b17503 "com/example/ken2/ken2/InterpretedSystem$Variable" "size" "I" (.int (1048576 : Int32))
abbrev Las185_0 (b17503 : Addr) (b17507 : Addr) (b17508 : Addr) : Array Slot := #[.val (.ref b17503), .val (.ref b17507), .val (.ref b17508), .val .null, .val (.int (0 : Int32)), .val (.int (1048576 : Int32))]
set_option maxRecDepth 65536 in
set_option maxHeartbeats 40000000 in
theorem rm5s18 (l : Launch) (Z : State) (a0 : Array Value) (hw : ∀ d ∈ tables_1, d.before a0 Z = true) (ws : List Jvm.Cond) (b17507 : Addr) (b17508 : Addr) (b17503 : Addr) (h0 : Heap) (n0 : Nat) (Z0 : n0 ≤ h0.size) (E_b17503 : Exa Z h0 b17503 "com/example/ken2/ken2/InterpretedSystem$Variable") (F_agent_b17503 : Fld Z h0 b17503 "com/example/ken2/ken2/InterpretedSystem$Variable" "agent" "Ljava/lang/String;" .null) (F_name_b17503 : Fld Z h0 b17503 "com/example/ken2/ken2/InterpretedSystem$Variable" "name" "Ljava/lang/String;" .null) (F_values_b17503 : Fld Z h0 b17503 "com/example/ken2/ken2/InterpretedSystem$Variable" "values" "Ljava/util/List;" .null) (F_low_b17503 : Fld Z h0 b17503 "com/example/ken2/ken2/InterpretedSystem$Variable" "low" "I" (.int (0 : Int32))) (F_size_b17503 : Fld Z h0 b17503 "com/example/ken2/ken2/InterpretedSystem$Variable" "size" "I" (.int (0 : Int32))) (g_b17503 : n0 ≤ b17503) :
    MetFree l Y4 (head1 (Jvm.Cond.code Y4 prog_64_method_1_code 6 none :: ws) ({ frames := 2, cells := 0, slots := 0, locals := 24 } : Room)) (fun a U => a = #[(.ref b17503), (.ref b17507), (.ref b17508), .null, (.int (0 : Int32)), (.int (1048576 : Int32))] ∧ Z.Warmed39 U.vm ∧ U.heap = h0) (fun _ _ _ _ _ => True) (fun _ U o U' => ∃ v L, o = .returned v ∧ (Q5s18 Z b17507 b17508 b17503 h0 n0) v U'.heap L ∧ FrameEnd U o U' L ({ frames := 2, cells := 0, slots := 0, locals := 24 } : Room).cells ({ frames := 2, cells := 0, slots := 0, locals := 24 } : Room).slots) :=
  own_met (ret := none) (Q := (Q5s18 Z b17507 b17508 b17503 h0 n0)) (plainFor_of_name pn_5) (fun m => ef_5n3 m b17503 b17507 b17508 (0 : Int32) (1048576 : Int32)) (fun p e s m below meth c T0 X0 hx hby hml hown hnm hZ e0 => by
  have N0 := Fr.nil n0
  refine ost (mkF m 1 (Las185_0 b17503 b17507 b17508) [(.ref b17503)]) X0 (fun t k => XS.aloadN X0.here hx rfl (hb hby d5_0) rfl rfl k) ?_
  obtain ⟨_, T18510, L18510, X18510, ⟨rfl, N18510q, u19522⟩, st18510⟩ := own_callI X0 hx hZ (y := Y3) (W := 0) (a := b17503) (argsL := []) (rest := []) rfl hown (hw _ (wm 42 rfl)) (hw _ (wm 43 rfl)) (hw _ (wm 45 rfl)) (hw _ (wm 46 rfl)) (by decide) (rm6s19 l Z a0 hw [] b17503 h0 n0 Z0 ) (by decide) (by decide) (by decide) (by decide) e0 (g := (mkF m 1 (Las185_0 b17503 b17507 b17508) [(.ref b17503)])) rfl (by rw [hml]; rfl) pd_0 rfl rfl (by show 2 * 0 + _ ≤ _; exact Nat.le_of_eq rfl) (hb hby d5_1)
  have N18510 := Fr.app N0 N18510q
  refine ost (mkF m 4 (Las185_0 b17503 b17507 b17508) []) X18510 (fun t k => st18510 _ k) ?_
  refine ost (mkF m 5 (Las185_0 b17503 b17507 b17508) [(.ref b17503)]) X18510 (fun t k => XS.aloadN X18510.here hx rfl (hb hby d5_4) rfl rfl k) ?_
  refine ost (mkF m 6 (Las185_0 b17503 b17507 b17508) [(.ref b17507), (.ref b17503)]) X18510 (fun t k => XS.aloadN X18510.here hx rfl (hb hby d5_5) rfl rfl k) ?_
  obtain ⟨T19523, h19523, L19523, X19523, e19523, N19523, W19523, F19523, st19523⟩ := own_putF X18510 hx hZ hown (hw _ (wm 48 rfl)) u19522 N18510 F_agent_b17503 E_b17503 g_b17503 (Or.inr ⟨(hw _ (wm 49 rfl)), rfl, hnm⟩) (hw _ (wm 27 rfl)) (fty := (.object "java/lang/String")) (by decide) rfl rfl (g := (mkF m 6 (Las185_0 b17503 b17507 b17508) [(.ref b17507), (.ref b17503)])) rfl rfl (hb hby d5_6)
  have K19523 := Keep.of_wr W19523
  have Z19523 := Nat.le_trans Z0 K19523.1
  have S19523 := Nat.le_trans (Nat.le_refl h0.size) K19523.1
  have F19524 := Fld.other W19523 F_name_b17503 (Or.inr (slot_ne (Or.inr (hw _ (wm 51 rfl))) (Or.inr (hw _ (wm 49 rfl))) (by decide) (t := (.object "java/lang/String")) (t' := (.object "java/lang/String")) (by decide) (by decide)))
  have F19525 := Fld.other W19523 F_values_b17503 (Or.inr (slot_ne (Or.inr (hw _ (wm 53 rfl))) (Or.inr (hw _ (wm 49 rfl))) (by decide) (t := (.object "java/util/List")) (t' := (.object "java/lang/String")) (by decide) (by decide)))
  have F19526 := Fld.other W19523 F_low_b17503 (Or.inr (slot_ne (Or.inr (hw _ (wm 55 rfl))) (Or.inr (hw _ (wm 49 rfl))) (by decide) (t := .int) (t' := (.object "java/lang/String")) (by decide) (by decide)))
  have F19527 := Fld.other W19523 F_size_b17503 (Or.inr (slot_ne (Or.inr (hw _ (wm 57 rfl))) (Or.inr (hw _ (wm 49 rfl))) (by decide) (t := .int) (t' := (.object "java/lang/String")) (by decide) (by decide)))
  have E19528 := Exa.wr W19523 E_b17503
  refine ost (mkF m 9 (Las185_0 b17503 b17507 b17508) []) X19523 (fun t k => st19523 _ k) ?_
  refine ost (mkF m 10 (Las185_0 b17503 b17507 b17508) [(.ref b17503)]) X19523 (fun t k => XS.aloadN X19523.here hx rfl (hb hby d5_9) rfl rfl k) ?_
  refine ost (mkF m 11 (Las185_0 b17503 b17507 b17508) [(.ref b17508), (.ref b17503)]) X19523 (fun t k => XS.aloadN X19523.here hx rfl (hb hby d5_10) rfl rfl k) ?_
  obtain ⟨T19529, h19529, L19529, X19529, e19529, N19529, W19529, F19529, st19529⟩ := own_putF X19523 hx hZ hown (hw _ (wm 50 rfl)) e19523 N19523 F19524 E19528 g_b17503 (Or.inr ⟨(hw _ (wm 51 rfl)), rfl, hnm⟩) (hw _ (wm 27 rfl)) (fty := (.object "java/lang/String")) (by decide) rfl rfl (g := (mkF m 11 (Las185_0 b17503 b17507 b17508) [(.ref b17508), (.ref b17503)])) rfl rfl (hb hby d5_11)
  have K19529 := Keep.of_wr W19529
  have Z19529 := Nat.le_trans Z19523 K19529.1
  have S19529 := Nat.le_trans S19523 K19529.1
  have F19530 := Fld.other W19529 F19523 (Or.inr (slot_ne (Or.inr (hw _ (wm 49 rfl))) (Or.inr (hw _ (wm 51 rfl))) (by decide) (t := (.object "java/lang/String")) (t' := (.object "java/lang/String")) (by decide) (by decide)))
  have F19531 := Fld.other W19529 F19525 (Or.inr (slot_ne (Or.inr (hw _ (wm 53 rfl))) (Or.inr (hw _ (wm 51 rfl))) (by decide) (t := (.object "java/util/List")) (t' := (.object "java/lang/String")) (by decide) (by decide)))
  have F19532 := Fld.other W19529 F19526 (Or.inr (slot_ne (Or.inr (hw _ (wm 55 rfl))) (Or.inr (hw _ (wm 51 rfl))) (by decide) (t := .int) (t' := (.object "java/lang/String")) (by decide) (by decide)))
  have F19533 := Fld.other W19529 F19527 (Or.inr (slot_ne (Or.inr (hw _ (wm 57 rfl))) (Or.inr (hw _ (wm 51 rfl))) (by decide) (t := .int) (t' := (.object "java/lang/String")) (by decide) (by decide)))
  have E19534 := Exa.wr W19529 E19528
  refine ost (mkF m 14 (Las185_0 b17503 b17507 b17508) []) X19529 (fun t k => st19529 _ k) ?_
  refine ost (mkF m 15 (Las185_0 b17503 b17507 b17508) [(.ref b17503)]) X19529 (fun t k => XS.aloadN X19529.here hx rfl (hb hby d5_14) rfl rfl k) ?_
  refine ost (mkF m 16 (Las185_0 b17503 b17507 b17508) [.null, (.ref b17503)]) X19529 (fun t k => XS.aloadN X19529.here hx rfl (hb hby d5_15) rfl rfl k) ?_
  obtain ⟨T19535, h19535, L19535, X19535, e19535, N19535, W19535, F19535, st19535⟩ := own_putF X19529 hx hZ hown (hw _ (wm 52 rfl)) e19529 N19529 F19531 E19534 g_b17503 (Or.inr ⟨(hw _ (wm 53 rfl)), rfl, hnm⟩) (hw _ (wm 27 rfl)) (fty := (.object "java/util/List")) (by decide) rfl rfl (g := (mkF m 16 (Las185_0 b17503 b17507 b17508) [.null, (.ref b17503)])) rfl rfl (hb hby d5_16)
  have K19535 := Keep.of_wr W19535
  have Z19535 := Nat.le_trans Z19529 K19535.1
  have S19535 := Nat.le_trans S19529 K19535.1
  have F19536 := Fld.other W19535 F19530 (Or.inr (slot_ne (Or.inr (hw _ (wm 49 rfl))) (Or.inr (hw _ (wm 53 rfl))) (by decide) (t := (.object "java/lang/String")) (t' := (.object "java/util/List")) (by decide) (by decide)))
  have F19537 := Fld.other W19535 F19529 (Or.inr (slot_ne (Or.inr (hw _ (wm 51 rfl))) (Or.inr (hw _ (wm 53 rfl))) (by decide) (t := (.object "java/lang/String")) (t' := (.object "java/util/List")) (by decide) (by decide)))
  have F19538 := Fld.other W19535 F19532 (Or.inr (slot_ne (Or.inr (hw _ (wm 55 rfl))) (Or.inr (hw _ (wm 53 rfl))) (by decide) (t := .int) (t' := (.object "java/util/List")) (by decide) (by decide)))
  have F19539 := Fld.other W19535 F19533 (Or.inr (slot_ne (Or.inr (hw _ (wm 57 rfl))) (Or.inr (hw _ (wm 53 rfl))) (by decide) (t := .int) (t' := (.object "java/util/List")) (by decide) (by decide)))
  have E19540 := Exa.wr W19535 E19534
  refine ost (mkF m 19 (Las185_0 b17503 b17507 b17508) []) X19535 (fun t k => st19535 _ k) ?_
  refine ost (mkF m 20 (Las185_0 b17503 b17507 b17508) [(.ref b17503)]) X19535 (fun t k => XS.aloadN X19535.here hx rfl (hb hby d5_19) rfl rfl k) ?_
  refine ost (mkF m 22 (Las185_0 b17503 b17507 b17508) [(.int (0 : Int32)), (.ref b17503)]) X19535 (fun t k => XS.iload X19535.here hx rfl (hb hby d5_20) rfl k) ?_
  obtain ⟨T19541, h19541, L19541, X19541, e19541, N19541, W19541, F19541, st19541⟩ := own_putF X19535 hx hZ hown (hw _ (wm 54 rfl)) e19535 N19535 F19538 E19540 g_b17503 (Or.inr ⟨(hw _ (wm 55 rfl)), rfl, hnm⟩) (hw _ (wm 27 rfl)) (fty := .int) (by decide) rfl rfl (g := (mkF m 22 (Las185_0 b17503 b17507 b17508) [(.int (0 : Int32)), (.ref b17503)])) rfl rfl (hb hby d5_22)
  have K19541 := Keep.of_wr W19541
  have Z19541 := Nat.le_trans Z19535 K19541.1
  have S19541 := Nat.le_trans S19535 K19541.1
  have F19542 := Fld.other W19541 F19536 (Or.inr (slot_ne (Or.inr (hw _ (wm 49 rfl))) (Or.inr (hw _ (wm 55 rfl))) (by decide) (t := (.object "java/lang/String")) (t' := .int) (by decide) (by decide)))
  have F19543 := Fld.other W19541 F19537 (Or.inr (slot_ne (Or.inr (hw _ (wm 51 rfl))) (Or.inr (hw _ (wm 55 rfl))) (by decide) (t := (.object "java/lang/String")) (t' := .int) (by decide) (by decide)))
  have F19544 := Fld.other W19541 F19535 (Or.inr (slot_ne (Or.inr (hw _ (wm 53 rfl))) (Or.inr (hw _ (wm 55 rfl))) (by decide) (t := (.object "java/util/List")) (t' := .int) (by decide) (by decide)))
  have F19545 := Fld.other W19541 F19539 (Or.inr (slot_ne (Or.inr (hw _ (wm 57 rfl))) (Or.inr (hw _ (wm 55 rfl))) (by decide) (t := .int) (t' := .int) (by decide) (by decide)))
  have E19546 := Exa.wr W19541 E19540
  refine ost (mkF m 25 (Las185_0 b17503 b17507 b17508) []) X19541 (fun t k => st19541 _ k) ?_
  refine ost (mkF m 26 (Las185_0 b17503 b17507 b17508) [(.ref b17503)]) X19541 (fun t k => XS.aloadN X19541.here hx rfl (hb hby d5_25) rfl rfl k) ?_
  refine ost (mkF m 28 (Las185_0 b17503 b17507 b17508) [(.int (1048576 : Int32)), (.ref b17503)]) X19541 (fun t k => XS.iload X19541.here hx rfl (hb hby d5_26) rfl k) ?_
  obtain ⟨T19547, h19547, L19547, X19547, e19547, N19547, W19547, F19547, st19547⟩ := own_putF X19541 hx hZ hown (hw _ (wm 56 rfl)) e19541 N19541 F19545 E19546 g_b17503 (Or.inr ⟨(hw _ (wm 57 rfl)), rfl, hnm⟩) (hw _ (wm 27 rfl)) (fty := .int) (by decide) rfl rfl (g := (mkF m 28 (Las185_0 b17503 b17507 b17508) [(.int (1048576 : Int32)), (.ref b17503)])) rfl rfl (hb hby d5_28)
  have K19547 := Keep.of_wr W19547
  have Z19547 := Nat.le_trans Z19541 K19547.1
  have S19547 := Nat.le_trans S19541 K19547.1
  have F19548 := Fld.other W19547 F19542 (Or.inr (slot_ne (Or.inr (hw _ (wm 49 rfl))) (Or.inr (hw _ (wm 57 rfl))) (by decide) (t := (.object "java/lang/String")) (t' := .int) (by decide) (by decide)))
  have F19549 := Fld.other W19547 F19543 (Or.inr (slot_ne (Or.inr (hw _ (wm 51 rfl))) (Or.inr (hw _ (wm 57 rfl))) (by decide) (t := (.object "java/lang/String")) (t' := .int) (by decide) (by decide)))
  have F19550 := Fld.other W19547 F19544 (Or.inr (slot_ne (Or.inr (hw _ (wm 53 rfl))) (Or.inr (hw _ (wm 57 rfl))) (by decide) (t := (.object "java/util/List")) (t' := .int) (by decide) (by decide)))
  have F19551 := Fld.other W19547 F19541 (Or.inr (slot_ne (Or.inr (hw _ (wm 55 rfl))) (Or.inr (hw _ (wm 57 rfl))) (by decide) (t := .int) (t' := .int) (by decide) (by decide)))
  have E19552 := Exa.wr W19547 E19546
  refine ost (mkF m 31 (Las185_0 b17503 b17507 b17508) []) X19547 (fun t k => st19547 _ k) ?_
  refine OwnFin.retVoid X19547 (hb hby d5_31) (by decide) (by decide) ?_
  rw [e19547]
  exact ⟨rfl, N19547, (Keep.trans (Keep.trans (Keep.trans (Keep.trans (Keep.trans (Keep.refl h0 [b17503]) K19523 (allS (Or.inl (wm 0 rfl)) all0)) K19529 (allS (Or.inl (wm 0 rfl)) all0)) K19535 (allS (Or.inl (wm 0 rfl)) all0)) K19541 (allS (Or.inl (wm 0 rfl)) all0)) K19547 (allS (Or.inl (wm 0 rfl)) all0)), E19552, F19548, F19549, F19550, F19551, F19547⟩)
def Q8s17 (Z : State) (b1 : Addr) (b3058 : Addr) (b9144 : Addr) (b9244 : Addr) (b13373 : Addr) (h0 : Heap) (n0 : Nat) : Option Value → Heap → List Loc → Prop := fun v h L => v = none ∧ Fr n0 L ∧ Keep h0 h [b1, b9144] ∧ Exa Z h b1 "java/util/ArrayList" ∧ Fld Z h b1 "java/util/AbstractList" "modCount" "I" (.int (3 : Int32)) ∧ Fld Z h b1 "java/util/ArrayList" "elementData" "[Ljava/lang/Object;" (.ref b9144) ∧ Fld Z h b1 "java/util/ArrayList" "size" "I" (.int (3 : Int32)) ∧ AryR Z h b9144 "java/lang/Object" 10 (updN (updN (updN (fun _ => Value.null) ((0 : Int32)).toNatClampNeg (Value.ref b3058)) ((1 : Int32)).toNatClampNeg (Value.ref b9244)) ((2 : Int32)).toNatClampNeg (Value.ref b13373))
abbrev Las178_0 (b1 : Addr) (b13373 : Addr) (b9144 : Addr) : Array Slot := #[.val (.ref b1), .val (.ref b13373), .val (.ref b9144), .val (.int (2 : Int32))]
set_option maxRecDepth 65536 in
set_option maxHeartbeats 40000000 in
theorem rm8s17 (l : Launch) (Z : State) (a0 : Array Value) (hw : ∀ d ∈ tables_1, d.before a0 Z = true) (ws : List Jvm.Cond) (b1 : Addr) (b3058 : Addr) (b9144 : Addr) (b9244 : Addr) (b13373 : Addr) (h0 : Heap) (n0 : Nat) (Z0 : n0 ≤ h0.size) (E_b1 : Exa Z h0 b1 "java/util/ArrayList") (F_modCount_b1 : Fld Z h0 b1 "java/util/AbstractList" "modCount" "I" (.int (3 : Int32))) (F_elementData_b1 : Fld Z h0 b1 "java/util/ArrayList" "elementData" "[Ljava/lang/Object;" (.ref b9144)) (F_size_b1 : Fld Z h0 b1 "java/util/ArrayList" "size" "I" (.int (2 : Int32))) (g_b1 : n0 ≤ b1) (A_b9144 : AryR Z h0 b9144 "java/lang/Object" 10 (updN (updN (fun _ => Value.null) ((0 : Int32)).toNatClampNeg (Value.ref b3058)) ((1 : Int32)).toNatClampNeg (Value.ref b9244))) (g_b9144 : n0 ≤ b9144) (E_b13373 : Exa Z h0 b13373 "com/example/ken2/ken2/InterpretedSystem$Variable") (ne_b1_b9144 : b1 ≠ b9144) :
    MetFree l Y8 (head1 (Jvm.Cond.code Y8 jdk_38_method_24_code 4 none :: ws) ({ frames := 0, cells := 0, slots := 0, locals := 0 } : Room)) (fun a U => a = #[(.ref b1), (.ref b13373), (.ref b9144), (.int (2 : Int32))] ∧ Z.Warmed39 U.vm ∧ U.heap = h0) (fun _ _ _ _ _ => True) (fun _ U o U' => ∃ v L, o = .returned v ∧ (Q8s17 Z b1 b3058 b9144 b9244 b13373 h0 n0) v U'.heap L ∧ FrameEnd U o U' L ({ frames := 0, cells := 0, slots := 0, locals := 0 } : Room).cells ({ frames := 0, cells := 0, slots := 0, locals := 0 } : Room).slots) :=
  own_met (ret := none) (Q := (Q8s17 Z b1 b3058 b9144 b9244 b13373 h0 n0)) (plainFor_of_name pn_8) (fun m => ef_8 m b1 b13373 b9144 (2 : Int32)) (fun p e s m below meth c T0 X0 hx hby hml hown hnm hZ e0 => by
  have N0 := Fr.nil n0
  refine ost (mkF m 1 (Las178_0 b1 b13373 b9144) [(.int (2 : Int32))]) X0 (fun t k => XS.iloadN X0.here hx rfl (hb hby d8_0) rfl k) ?_
  refine ost (mkF m 2 (Las178_0 b1 b13373 b9144) [(.ref b9144), (.int (2 : Int32))]) X0 (fun t k => XS.aloadN X0.here hx rfl (hb hby d8_1) rfl rfl k) ?_
  refine ost (mkF m 3 (Las178_0 b1 b13373 b9144) [(.int (10 : Int32)), (.int (2 : Int32))]) X0 (fun t k => own_len X0 hx hZ e0 (A_b9144).1 (g := (mkF m 2 (Las178_0 b1 b13373 b9144) [(.ref b9144), (.int (2 : Int32))])) rfl rfl (hb hby d8_2) _ k) ?_
  refine ost (mkF m 11 (Las178_0 b1 b13373 b9144) []) X0 (fun t k => XS.icmpYes X0.here hx rfl (pc0 := 3) (pc' := 11) rfl (hb hby d8_3) rfl (feq (show ¬ ((2 : Int32) = (10 : Int32)) by first | decide | exact Int32.lt_irrefl _ | exact Int64.lt_irrefl _)).2 (by decide) (by decide) k) ?_
  refine ost (mkF m 12 (Las178_0 b1 b13373 b9144) [(.ref b9144)]) X0 (fun t k => XS.aloadN X0.here hx rfl (hb hby d8_11) rfl rfl k) ?_
  refine ost (mkF m 13 (Las178_0 b1 b13373 b9144) [(.int (2 : Int32)), (.ref b9144)]) X0 (fun t k => XS.iloadN X0.here hx rfl (hb hby d8_12) rfl k) ?_
  refine ost (mkF m 14 (Las178_0 b1 b13373 b9144) [(.ref b13373), (.int (2 : Int32)), (.ref b9144)]) X0 (fun t k => XS.aloadN X0.here hx rfl (hb hby d8_13) rfl rfl k) ?_
  obtain ⟨T17454, h17454, L17454, X17454, e17454, N17454, K17454, A17454, st17454⟩ := own_stA X0 hx hZ e0 N0 (G := (updN (updN (fun _ => Value.null) ((0 : Int32)).toNatClampNeg (Value.ref b3058)) ((1 : Int32)).toNatClampNeg (Value.ref b9244))) A_b9144 g_b9144 (j := (2 : Int32)) (v := (.ref b13373)) (by decide) (own_sto A_b9144 E_b13373 (hw _ (wm 88 rfl))) (g := (mkF m 14 (Las178_0 b1 b13373 b9144) [(.ref b13373), (.int (2 : Int32)), (.ref b9144)])) rfl rfl (hb hby d8_14)
  have Z17454 := Nat.le_trans Z0 K17454.1
  have S17454 := Nat.le_trans (Nat.le_refl h0.size) K17454.1
  refine ost (mkF m 15 (Las178_0 b1 b13373 b9144) []) X17454 (fun t k => st17454 _ k) ?_
  refine ost (mkF m 16 (Las178_0 b1 b13373 b9144) [(.ref b1)]) X17454 (fun t k => XS.aloadN X17454.here hx rfl (hb hby d8_15) rfl rfl k) ?_
  refine ost (mkF m 17 (Las178_0 b1 b13373 b9144) [(.int (2 : Int32)), (.ref b1)]) X17454 (fun t k => XS.iloadN X17454.here hx rfl (hb hby d8_16) rfl k) ?_
  refine ost (mkF m 18 (Las178_0 b1 b13373 b9144) [(.int (1 : Int32)), (.int (2 : Int32)), (.ref b1)]) X17454 (fun t k => XS.iconst X17454.here hx rfl (hb hby d8_17) k) ?_
  refine ost (mkF m 19 (Las178_0 b1 b13373 b9144) [(.int (3 : Int32)), (.ref b1)]) X17454 (fun t k => XS.iadd X17454.here hx rfl (hb hby d8_18) rfl k) ?_
  have E17455 := (Exa.keep E_b1 K17454)
  have F17456 := (F_modCount_b1.keep K17454 (ninS ne_b1_b9144 nin0))
  have F17457 := (F_elementData_b1.keep K17454 (ninS ne_b1_b9144 nin0))
  have F17458 := (F_size_b1.keep K17454 (ninS ne_b1_b9144 nin0))
  obtain ⟨T17459, h17459, L17459, X17459, e17459, N17459, W17459, F17459, st17459⟩ := own_putF X17454 hx hZ hown (hw _ (wm 65 rfl)) e17454 N17454 F17458 E17455 g_b1 (Or.inl (hw _ (wm 66 rfl))) (hw _ (wm 1 rfl)) (fty := .int) (by decide) rfl rfl (g := (mkF m 19 (Las178_0 b1 b13373 b9144) [(.int (3 : Int32)), (.ref b1)])) rfl rfl (hb hby d8_19)
  have K17459 := Keep.of_wr W17459
  have Z17459 := Nat.le_trans Z17454 K17459.1
  have S17459 := Nat.le_trans S17454 K17459.1
  have F17460 := Fld.other W17459 F17456 (Or.inr (slot_ne (Or.inl (hw _ (wm 22 rfl))) (Or.inl (hw _ (wm 66 rfl))) (by decide) (t := .int) (t' := .int) (by decide) (by decide)))
  have F17461 := Fld.other W17459 F17457 (Or.inr (slot_ne (Or.inl (hw _ (wm 25 rfl))) (Or.inl (hw _ (wm 66 rfl))) (by decide) (t := (.array (.object "java/lang/Object"))) (t' := .int) (by decide) (by decide)))
  have E17462 := Exa.wr W17459 E17455
  refine ost (mkF m 22 (Las178_0 b1 b13373 b9144) []) X17459 (fun t k => st17459 _ k) ?_
  have A17463 := (A17454.keep K17459 (ninS (Ne.symm ne_b1_b9144) nin0))
  refine OwnFin.retVoid X17459 (hb hby d8_22) (by decide) (by decide) ?_
  rw [e17459]
  exact ⟨rfl, N17459, (Keep.trans (Keep.trans (Keep.refl h0 [b1, b9144]) K17454 (allS (Or.inl (wm 1 rfl)) all0)) K17459 (allS (Or.inl (wm 0 rfl)) all0)), E17462, F17460, F17461, F17459, A17463⟩)
def Q7s16 (Z : State) (b1 : Addr) (b3058 : Addr) (b9144 : Addr) (b9244 : Addr) (b13373 : Addr) (h0 : Heap) (n0 : Nat) : Option Value → Heap → List Loc → Prop := fun v h L => v = some (.int (nar .boolean (1 : Int32))) ∧ Fr n0 L ∧ Keep h0 h [b1, b9144] ∧ Exa Z h b1 "java/util/ArrayList" ∧ Fld Z h b1 "java/util/AbstractList" "modCount" "I" (.int (3 : Int32)) ∧ Fld Z h b1 "java/util/ArrayList" "elementData" "[Ljava/lang/Object;" (.ref b9144) ∧ Fld Z h b1 "java/util/ArrayList" "size" "I" (.int (3 : Int32)) ∧ AryR Z h b9144 "java/lang/Object" 10 (updN (updN (updN (fun _ => Value.null) ((0 : Int32)).toNatClampNeg (Value.ref b3058)) ((1 : Int32)).toNatClampNeg (Value.ref b9244)) ((2 : Int32)).toNatClampNeg (Value.ref b13373))
set_option maxRecDepth 65536 in
set_option maxHeartbeats 40000000 in
theorem rm7s16 (l : Launch) (Z : State) (a0 : Array Value) (hw : ∀ d ∈ tables_1, d.before a0 Z = true) (ws : List Jvm.Cond) (b1 : Addr) (b3058 : Addr) (b9144 : Addr) (b9244 : Addr) (b13373 : Addr) (h0 : Heap) (n0 : Nat) (Z0 : n0 ≤ h0.size) (E_b1 : Exa Z h0 b1 "java/util/ArrayList") (F_modCount_b1 : Fld Z h0 b1 "java/util/AbstractList" "modCount" "I" (.int (2 : Int32))) (F_elementData_b1 : Fld Z h0 b1 "java/util/ArrayList" "elementData" "[Ljava/lang/Object;" (.ref b9144)) (F_size_b1 : Fld Z h0 b1 "java/util/ArrayList" "size" "I" (.int (2 : Int32))) (g_b1 : n0 ≤ b1) (A_b9144 : AryR Z h0 b9144 "java/lang/Object" 10 (updN (updN (fun _ => Value.null) ((0 : Int32)).toNatClampNeg (Value.ref b3058)) ((1 : Int32)).toNatClampNeg (Value.ref b9244))) (g_b9144 : n0 ≤ b9144) (E_b13373 : Exa Z h0 b13373 "com/example/ken2/ken2/InterpretedSystem$Variable") (ne_b1_b9144 : b1 ≠ b9144) :
    MetFree l Y9 (head1 (Jvm.Cond.code Y9 jdk_38_method_25_code 2 (some .boolean) :: ws) ({ frames := 1, cells := 0, slots := 0, locals := 15 } : Room)) (fun a U => a = #[(.ref b1), (.ref b13373)] ∧ Z.Warmed39 U.vm ∧ U.heap = h0) (fun _ _ _ _ _ => True) (fun _ U o U' => ∃ v L, o = .returned v ∧ (Q7s16 Z b1 b3058 b9144 b9244 b13373 h0 n0) v U'.heap L ∧ FrameEnd U o U' L ({ frames := 1, cells := 0, slots := 0, locals := 15 } : Room).cells ({ frames := 1, cells := 0, slots := 0, locals := 15 } : Room).slots) :=
  own_met (ret := (some .boolean)) (Q := (Q7s16 Z b1 b3058 b9144 b9244 b13373 h0 n0)) (plainFor_of_name pn_7) (fun m => ef_7 m b1 b13373) (fun p e s m below meth c T0 X0 hx hby hml hown hnm hZ e0 => by
  have N0 := Fr.nil n0
  refine ost (mkF m 1 #[.val (.ref b1), .val (.ref b13373)] [(.ref b1)]) X0 (fun t k => XS.aloadN X0.here hx rfl (hb hby d7_0) rfl rfl k) ?_
  refine ost (mkF m 2 #[.val (.ref b1), .val (.ref b13373)] [(.ref b1), (.ref b1)]) X0 (fun t k => XS.dup X0.here hx rfl (hb hby d7_1) rfl rfl k) ?_
  obtain ⟨T16446, X16446, e16446, st16446⟩ := getF X0 hx hZ hown (host := "") (Or.inl (hw _ (wm 63 rfl))) (Via.of (hw _ (wm 64 rfl))) e0 F_modCount_b1 (g := (mkF m 2 #[.val (.ref b1), .val (.ref b13373)] [(.ref b1), (.ref b1)])) rfl rfl (hb hby d7_2)
  refine ost (mkF m 5 #[.val (.ref b1), .val (.ref b13373)] [(.int (2 : Int32)), (.ref b1)]) X16446 (fun t k => st16446 _ k) ?_
  refine ost (mkF m 6 #[.val (.ref b1), .val (.ref b13373)] [(.int (1 : Int32)), (.int (2 : Int32)), (.ref b1)]) X16446 (fun t k => XS.iconst X16446.here hx rfl (hb hby d7_5) k) ?_
  refine ost (mkF m 7 #[.val (.ref b1), .val (.ref b13373)] [(.int (3 : Int32)), (.ref b1)]) X16446 (fun t k => XS.iadd X16446.here hx rfl (hb hby d7_6) rfl k) ?_
  obtain ⟨T16447, h16447, L16447, X16447, e16447, N16447, W16447, F16447, st16447⟩ := own_putFV X16446 hx hZ hown (hw _ (wm 63 rfl)) (Via.of (hw _ (wm 64 rfl))) e16446 N0 F_modCount_b1 E_b1 g_b1 (Or.inl (hw _ (wm 22 rfl))) (hw _ (wm 1 rfl)) (fty := .int) (by decide) rfl rfl (g := (mkF m 7 #[.val (.ref b1), .val (.ref b13373)] [(.int (3 : Int32)), (.ref b1)])) rfl rfl (hb hby d7_7)
  have K16447 := Keep.of_wr W16447
  have Z16447 := Nat.le_trans Z0 K16447.1
  have S16447 := Nat.le_trans (Nat.le_refl h0.size) K16447.1
  have F16448 := Fld.other W16447 F_elementData_b1 (Or.inr (slot_ne (Or.inl (hw _ (wm 25 rfl))) (Or.inl (hw _ (wm 22 rfl))) (by decide) (t := (.array (.object "java/lang/Object"))) (t' := .int) (by decide) (by decide)))
  have F16449 := Fld.other W16447 F_size_b1 (Or.inr (slot_ne (Or.inl (hw _ (wm 66 rfl))) (Or.inl (hw _ (wm 22 rfl))) (by decide) (t := .int) (t' := .int) (by decide) (by decide)))
  have E16450 := Exa.wr W16447 E_b1
  refine ost (mkF m 10 #[.val (.ref b1), .val (.ref b13373)] []) X16447 (fun t k => st16447 _ k) ?_
  refine ost (mkF m 11 #[.val (.ref b1), .val (.ref b13373)] [(.ref b1)]) X16447 (fun t k => XS.aloadN X16447.here hx rfl (hb hby d7_10) rfl rfl k) ?_
  refine ost (mkF m 12 #[.val (.ref b1), .val (.ref b13373)] [(.ref b13373), (.ref b1)]) X16447 (fun t k => XS.aloadN X16447.here hx rfl (hb hby d7_11) rfl rfl k) ?_
  refine ost (mkF m 13 #[.val (.ref b1), .val (.ref b13373)] [(.ref b1), (.ref b13373), (.ref b1)]) X16447 (fun t k => XS.aloadN X16447.here hx rfl (hb hby d7_12) rfl rfl k) ?_
  obtain ⟨T16451, X16451, e16451, st16451⟩ := getF X16447 hx hZ hown (host := "") (Or.inl (hw _ (wm 24 rfl))) Via.refl e16447 F16448 (g := (mkF m 13 #[.val (.ref b1), .val (.ref b13373)] [(.ref b1), (.ref b13373), (.ref b1)])) rfl rfl (hb hby d7_13)
  refine ost (mkF m 16 #[.val (.ref b1), .val (.ref b13373)] [(.ref b9144), (.ref b13373), (.ref b1)]) X16451 (fun t k => st16451 _ k) ?_
  refine ost (mkF m 17 #[.val (.ref b1), .val (.ref b13373)] [(.ref b1), (.ref b9144), (.ref b13373), (.ref b1)]) X16451 (fun t k => XS.aloadN X16451.here hx rfl (hb hby d7_16) rfl rfl k) ?_
  obtain ⟨T16452, X16452, e16452, st16452⟩ := getF X16451 hx hZ hown (host := "") (Or.inl (hw _ (wm 65 rfl))) Via.refl e16451 F16449 (g := (mkF m 17 #[.val (.ref b1), .val (.ref b13373)] [(.ref b1), (.ref b9144), (.ref b13373), (.ref b1)])) rfl rfl (hb hby d7_17)
  refine ost (mkF m 20 #[.val (.ref b1), .val (.ref b13373)] [(.int (2 : Int32)), (.ref b9144), (.ref b13373), (.ref b1)]) X16452 (fun t k => st16452 _ k) ?_
  have A17474 := (A_b9144.keep K16447 (ninS (Ne.symm ne_b1_b9144) nin0))
  have E17475 := (Exa.keep E_b13373 K16447)
  obtain ⟨_, T16453, L16453, X16453, ⟨rfl, N16453q, u17476, u17477, u17478, u17479, u17480, u17481⟩, st16453⟩ := own_callP X16452 hx hZ (y := Y8) (W := 0) (a := b1) (argsL := [(.ref b13373), (.ref b9144), (.int (2 : Int32))]) (rest := []) hown (hw _ (wm 67 rfl)) (hw _ (wm 61 rfl)) rfl (hw _ (wm 68 rfl)) (hw _ (wm 69 rfl)) (hw _ (wm 2 rfl)) (hw _ (wm 71 rfl)) (by decide) E16450 (rm8s17 l Z a0 hw [] b1 b3058 b9144 b9244 b13373 h16447 n0 Z16447 E16450 F16447 F16448 F16449 g_b1 A17474 g_b9144 E17475 ne_b1_b9144) (by decide) (by decide) (by decide) (by decide) e16452 (g := (mkF m 20 #[.val (.ref b1), .val (.ref b13373)] [(.int (2 : Int32)), (.ref b9144), (.ref b13373), (.ref b1)])) rfl (by rw [hml]; rfl) pd_5 rfl rfl (by show 2 * 0 + _ ≤ _; exact Nat.le_of_eq rfl) (hb hby d7_20)
  have N16453 := Fr.app N16447 N16453q
  obtain ⟨h16453, e16453⟩ : ∃ z, T16453.heap = z := ⟨_, rfl⟩
  rw [e16453] at u17476 u17477 u17478 u17479 u17480 u17481
  have K16453 := u17476
  have Z16453 := Nat.le_trans Z16447 K16453.1
  have S16453 := Nat.le_trans S16447 K16453.1
  refine ost (mkF m 23 #[.val (.ref b1), .val (.ref b13373)] []) X16453 (fun t k => st16453 _ k) ?_
  refine ost (mkF m 24 #[.val (.ref b1), .val (.ref b13373)] [(.int (1 : Int32))]) X16453 (fun t k => XS.iconst X16453.here hx rfl (hb hby d7_23) k) ?_
  refine OwnFin.retNar X16453 (by simp) (hb hby d7_24) (by decide) (by decide) ?_
  rw [e16453]
  exact ⟨rfl, N16453, (Keep.trans (Keep.trans (Keep.refl h0 [b1, b9144]) K16447 (allS (Or.inl (wm 0 rfl)) all0)) K16453 (allS (Or.inl (wm 0 rfl)) (allS (Or.inl (wm 1 rfl)) all0))), u17477, u17478, u17479, u17480, u17481⟩)
def Q6s15 (Z : State) (b13373 : Addr) (h0 : Heap) (n0 : Nat) : Option Value → Heap → List Loc → Prop := fun v h L => v = none ∧ Fr n0 L ∧ h = h0
set_option maxRecDepth 65536 in
set_option maxHeartbeats 40000000 in
theorem rm6s15 (l : Launch) (Z : State) (a0 : Array Value) (hw : ∀ d ∈ tables_1, d.before a0 Z = true) (ws : List Jvm.Cond) (b13373 : Addr) (h0 : Heap) (n0 : Nat) (Z0 : n0 ≤ h0.size) :
    MetFree l Y3 (head1 (Jvm.Cond.code Y3 jdk_30_method_1_code 1 none :: ws) ({ frames := 1, cells := 0, slots := 0, locals := 12 } : Room)) (fun a U => a = #[(.ref b13373)] ∧ Z.Warmed39 U.vm ∧ U.heap = h0) (fun _ _ _ _ _ => True) (fun _ U o U' => ∃ v L, o = .returned v ∧ (Q6s15 Z b13373 h0 n0) v U'.heap L ∧ FrameEnd U o U' L ({ frames := 1, cells := 0, slots := 0, locals := 12 } : Room).cells ({ frames := 1, cells := 0, slots := 0, locals := 12 } : Room).slots) :=
  own_met (ret := none) (Q := (Q6s15 Z b13373 h0 n0)) (plainFor_of_name pn_6) (fun m => ef_6 m b13373) (fun p e s m below meth c T0 X0 hx hby hml hown hnm hZ e0 => by
  have N0 := Fr.nil n0
  refine ost (mkF m 1 #[.val (.ref b13373)] [(.ref b13373)]) X0 (fun t k => XS.aloadN X0.here hx rfl (hb hby d6_0) rfl rfl k) ?_
  obtain ⟨T15380, X15380, e15380, st15380⟩ := initO X0 hx hZ hown (hw _ (wm 47 rfl)) (hw _ (wm 19 rfl)) (hw _ (wm 20 rfl)) e0 (g := (mkF m 1 #[.val (.ref b13373)] [(.ref b13373)])) rfl (by rw [hml]; rfl) rfl (hb hby d6_1) (by decide) (W := 0) (by show 2 * 0 + _ ≤ _; exact Nat.le_of_eq rfl) (by decide)
  refine ost (mkF m 4 #[.val (.ref b13373)] []) X15380 (fun t k => st15380 _ k) ?_
  refine OwnFin.retVoid X15380 (hb hby d6_4) (by decide) (by decide) ?_
  rw [e15380]
  exact ⟨rfl, N0, rfl⟩)
def Q5s14 (Z : State) (b13376 : Addr) (b13377 : Addr) (b13373 : Addr) (h0 : Heap) (n0 : Nat) : Option Value → Heap → List Loc → Prop := fun v h L => v = none ∧ Fr n0 L ∧ Keep h0 h [b13373] ∧ Exa Z h b13373 "com/example/ken2/ken2/InterpretedSystem$Variable" ∧ Fld Z h b13373 "com/example/ken2/ken2/InterpretedSystem$Variable" "agent" "Ljava/lang/String;" (.ref b13376) ∧ Fld Z h b13373 "com/example/ken2/ken2/InterpretedSystem$Variable" "name" "Ljava/lang/String;" (.ref b13377) ∧ Fld Z h b13373 "com/example/ken2/ken2/InterpretedSystem$Variable" "values" "Ljava/util/List;" .null ∧ Fld Z h b13373 "com/example/ken2/ken2/InterpretedSystem$Variable" "low" "I" (.int (0 : Int32)) ∧ Fld Z h b13373 "com/example/ken2/ken2/InterpretedSystem$Variable" "size" "I" (.int (4 : Int32))
abbrev Las145_0 (b13373 : Addr) (b13376 : Addr) (b13377 : Addr) : Array Slot := #[.val (.ref b13373), .val (.ref b13376), .val (.ref b13377), .val .null, .val (.int (0 : Int32)), .val (.int (4 : Int32))]
set_option maxRecDepth 65536 in
set_option maxHeartbeats 40000000 in
theorem rm5s14 (l : Launch) (Z : State) (a0 : Array Value) (hw : ∀ d ∈ tables_1, d.before a0 Z = true) (ws : List Jvm.Cond) (b13376 : Addr) (b13377 : Addr) (b13373 : Addr) (h0 : Heap) (n0 : Nat) (Z0 : n0 ≤ h0.size) (E_b13373 : Exa Z h0 b13373 "com/example/ken2/ken2/InterpretedSystem$Variable") (F_agent_b13373 : Fld Z h0 b13373 "com/example/ken2/ken2/InterpretedSystem$Variable" "agent" "Ljava/lang/String;" .null) (F_name_b13373 : Fld Z h0 b13373 "com/example/ken2/ken2/InterpretedSystem$Variable" "name" "Ljava/lang/String;" .null) (F_values_b13373 : Fld Z h0 b13373 "com/example/ken2/ken2/InterpretedSystem$Variable" "values" "Ljava/util/List;" .null) (F_low_b13373 : Fld Z h0 b13373 "com/example/ken2/ken2/InterpretedSystem$Variable" "low" "I" (.int (0 : Int32))) (F_size_b13373 : Fld Z h0 b13373 "com/example/ken2/ken2/InterpretedSystem$Variable" "size" "I" (.int (0 : Int32))) (g_b13373 : n0 ≤ b13373) :
    MetFree l Y4 (head1 (Jvm.Cond.code Y4 prog_64_method_1_code 6 none :: ws) ({ frames := 2, cells := 0, slots := 0, locals := 24 } : Room)) (fun a U => a = #[(.ref b13373), (.ref b13376), (.ref b13377), .null, (.int (0 : Int32)), (.int (4 : Int32))] ∧ Z.Warmed39 U.vm ∧ U.heap = h0) (fun _ _ _ _ _ => True) (fun _ U o U' => ∃ v L, o = .returned v ∧ (Q5s14 Z b13376 b13377 b13373 h0 n0) v U'.heap L ∧ FrameEnd U o U' L ({ frames := 2, cells := 0, slots := 0, locals := 24 } : Room).cells ({ frames := 2, cells := 0, slots := 0, locals := 24 } : Room).slots) :=
  own_met (ret := none) (Q := (Q5s14 Z b13376 b13377 b13373 h0 n0)) (plainFor_of_name pn_5) (fun m => ef_5n3 m b13373 b13376 b13377 (0 : Int32) (4 : Int32)) (fun p e s m below meth c T0 X0 hx hby hml hown hnm hZ e0 => by
  have N0 := Fr.nil n0
  refine ost (mkF m 1 (Las145_0 b13373 b13376 b13377) [(.ref b13373)]) X0 (fun t k => XS.aloadN X0.here hx rfl (hb hby d5_0) rfl rfl k) ?_
  obtain ⟨_, T14379, L14379, X14379, ⟨rfl, N14379q, u15391⟩, st14379⟩ := own_callI X0 hx hZ (y := Y3) (W := 0) (a := b13373) (argsL := []) (rest := []) rfl hown (hw _ (wm 42 rfl)) (hw _ (wm 43 rfl)) (hw _ (wm 45 rfl)) (hw _ (wm 46 rfl)) (by decide) (rm6s15 l Z a0 hw [] b13373 h0 n0 Z0 ) (by decide) (by decide) (by decide) (by decide) e0 (g := (mkF m 1 (Las145_0 b13373 b13376 b13377) [(.ref b13373)])) rfl (by rw [hml]; rfl) pd_0 rfl rfl (by show 2 * 0 + _ ≤ _; exact Nat.le_of_eq rfl) (hb hby d5_1)
  have N14379 := Fr.app N0 N14379q
  refine ost (mkF m 4 (Las145_0 b13373 b13376 b13377) []) X14379 (fun t k => st14379 _ k) ?_
  refine ost (mkF m 5 (Las145_0 b13373 b13376 b13377) [(.ref b13373)]) X14379 (fun t k => XS.aloadN X14379.here hx rfl (hb hby d5_4) rfl rfl k) ?_
  refine ost (mkF m 6 (Las145_0 b13373 b13376 b13377) [(.ref b13376), (.ref b13373)]) X14379 (fun t k => XS.aloadN X14379.here hx rfl (hb hby d5_5) rfl rfl k) ?_
  obtain ⟨T15392, h15392, L15392, X15392, e15392, N15392, W15392, F15392, st15392⟩ := own_putF X14379 hx hZ hown (hw _ (wm 48 rfl)) u15391 N14379 F_agent_b13373 E_b13373 g_b13373 (Or.inr ⟨(hw _ (wm 49 rfl)), rfl, hnm⟩) (hw _ (wm 27 rfl)) (fty := (.object "java/lang/String")) (by decide) rfl rfl (g := (mkF m 6 (Las145_0 b13373 b13376 b13377) [(.ref b13376), (.ref b13373)])) rfl rfl (hb hby d5_6)
  have K15392 := Keep.of_wr W15392
  have Z15392 := Nat.le_trans Z0 K15392.1
  have S15392 := Nat.le_trans (Nat.le_refl h0.size) K15392.1
  have F15393 := Fld.other W15392 F_name_b13373 (Or.inr (slot_ne (Or.inr (hw _ (wm 51 rfl))) (Or.inr (hw _ (wm 49 rfl))) (by decide) (t := (.object "java/lang/String")) (t' := (.object "java/lang/String")) (by decide) (by decide)))
  have F15394 := Fld.other W15392 F_values_b13373 (Or.inr (slot_ne (Or.inr (hw _ (wm 53 rfl))) (Or.inr (hw _ (wm 49 rfl))) (by decide) (t := (.object "java/util/List")) (t' := (.object "java/lang/String")) (by decide) (by decide)))
  have F15395 := Fld.other W15392 F_low_b13373 (Or.inr (slot_ne (Or.inr (hw _ (wm 55 rfl))) (Or.inr (hw _ (wm 49 rfl))) (by decide) (t := .int) (t' := (.object "java/lang/String")) (by decide) (by decide)))
  have F15396 := Fld.other W15392 F_size_b13373 (Or.inr (slot_ne (Or.inr (hw _ (wm 57 rfl))) (Or.inr (hw _ (wm 49 rfl))) (by decide) (t := .int) (t' := (.object "java/lang/String")) (by decide) (by decide)))
  have E15397 := Exa.wr W15392 E_b13373
  refine ost (mkF m 9 (Las145_0 b13373 b13376 b13377) []) X15392 (fun t k => st15392 _ k) ?_
  refine ost (mkF m 10 (Las145_0 b13373 b13376 b13377) [(.ref b13373)]) X15392 (fun t k => XS.aloadN X15392.here hx rfl (hb hby d5_9) rfl rfl k) ?_
  refine ost (mkF m 11 (Las145_0 b13373 b13376 b13377) [(.ref b13377), (.ref b13373)]) X15392 (fun t k => XS.aloadN X15392.here hx rfl (hb hby d5_10) rfl rfl k) ?_
  obtain ⟨T15398, h15398, L15398, X15398, e15398, N15398, W15398, F15398, st15398⟩ := own_putF X15392 hx hZ hown (hw _ (wm 50 rfl)) e15392 N15392 F15393 E15397 g_b13373 (Or.inr ⟨(hw _ (wm 51 rfl)), rfl, hnm⟩) (hw _ (wm 27 rfl)) (fty := (.object "java/lang/String")) (by decide) rfl rfl (g := (mkF m 11 (Las145_0 b13373 b13376 b13377) [(.ref b13377), (.ref b13373)])) rfl rfl (hb hby d5_11)
  have K15398 := Keep.of_wr W15398
  have Z15398 := Nat.le_trans Z15392 K15398.1
  have S15398 := Nat.le_trans S15392 K15398.1
  have F15399 := Fld.other W15398 F15392 (Or.inr (slot_ne (Or.inr (hw _ (wm 49 rfl))) (Or.inr (hw _ (wm 51 rfl))) (by decide) (t := (.object "java/lang/String")) (t' := (.object "java/lang/String")) (by decide) (by decide)))
  have F15400 := Fld.other W15398 F15394 (Or.inr (slot_ne (Or.inr (hw _ (wm 53 rfl))) (Or.inr (hw _ (wm 51 rfl))) (by decide) (t := (.object "java/util/List")) (t' := (.object "java/lang/String")) (by decide) (by decide)))
  have F15401 := Fld.other W15398 F15395 (Or.inr (slot_ne (Or.inr (hw _ (wm 55 rfl))) (Or.inr (hw _ (wm 51 rfl))) (by decide) (t := .int) (t' := (.object "java/lang/String")) (by decide) (by decide)))
  have F15402 := Fld.other W15398 F15396 (Or.inr (slot_ne (Or.inr (hw _ (wm 57 rfl))) (Or.inr (hw _ (wm 51 rfl))) (by decide) (t := .int) (t' := (.object "java/lang/String")) (by decide) (by decide)))
  have E15403 := Exa.wr W15398 E15397
  refine ost (mkF m 14 (Las145_0 b13373 b13376 b13377) []) X15398 (fun t k => st15398 _ k) ?_
  refine ost (mkF m 15 (Las145_0 b13373 b13376 b13377) [(.ref b13373)]) X15398 (fun t k => XS.aloadN X15398.here hx rfl (hb hby d5_14) rfl rfl k) ?_
  refine ost (mkF m 16 (Las145_0 b13373 b13376 b13377) [.null, (.ref b13373)]) X15398 (fun t k => XS.aloadN X15398.here hx rfl (hb hby d5_15) rfl rfl k) ?_
  obtain ⟨T15404, h15404, L15404, X15404, e15404, N15404, W15404, F15404, st15404⟩ := own_putF X15398 hx hZ hown (hw _ (wm 52 rfl)) e15398 N15398 F15400 E15403 g_b13373 (Or.inr ⟨(hw _ (wm 53 rfl)), rfl, hnm⟩) (hw _ (wm 27 rfl)) (fty := (.object "java/util/List")) (by decide) rfl rfl (g := (mkF m 16 (Las145_0 b13373 b13376 b13377) [.null, (.ref b13373)])) rfl rfl (hb hby d5_16)
  have K15404 := Keep.of_wr W15404
  have Z15404 := Nat.le_trans Z15398 K15404.1
  have S15404 := Nat.le_trans S15398 K15404.1
  have F15405 := Fld.other W15404 F15399 (Or.inr (slot_ne (Or.inr (hw _ (wm 49 rfl))) (Or.inr (hw _ (wm 53 rfl))) (by decide) (t := (.object "java/lang/String")) (t' := (.object "java/util/List")) (by decide) (by decide)))
  have F15406 := Fld.other W15404 F15398 (Or.inr (slot_ne (Or.inr (hw _ (wm 51 rfl))) (Or.inr (hw _ (wm 53 rfl))) (by decide) (t := (.object "java/lang/String")) (t' := (.object "java/util/List")) (by decide) (by decide)))
  have F15407 := Fld.other W15404 F15401 (Or.inr (slot_ne (Or.inr (hw _ (wm 55 rfl))) (Or.inr (hw _ (wm 53 rfl))) (by decide) (t := .int) (t' := (.object "java/util/List")) (by decide) (by decide)))
  have F15408 := Fld.other W15404 F15402 (Or.inr (slot_ne (Or.inr (hw _ (wm 57 rfl))) (Or.inr (hw _ (wm 53 rfl))) (by decide) (t := .int) (t' := (.object "java/util/List")) (by decide) (by decide)))
  have E15409 := Exa.wr W15404 E15403
  refine ost (mkF m 19 (Las145_0 b13373 b13376 b13377) []) X15404 (fun t k => st15404 _ k) ?_
  refine ost (mkF m 20 (Las145_0 b13373 b13376 b13377) [(.ref b13373)]) X15404 (fun t k => XS.aloadN X15404.here hx rfl (hb hby d5_19) rfl rfl k) ?_
  refine ost (mkF m 22 (Las145_0 b13373 b13376 b13377) [(.int (0 : Int32)), (.ref b13373)]) X15404 (fun t k => XS.iload X15404.here hx rfl (hb hby d5_20) rfl k) ?_
  obtain ⟨T15410, h15410, L15410, X15410, e15410, N15410, W15410, F15410, st15410⟩ := own_putF X15404 hx hZ hown (hw _ (wm 54 rfl)) e15404 N15404 F15407 E15409 g_b13373 (Or.inr ⟨(hw _ (wm 55 rfl)), rfl, hnm⟩) (hw _ (wm 27 rfl)) (fty := .int) (by decide) rfl rfl (g := (mkF m 22 (Las145_0 b13373 b13376 b13377) [(.int (0 : Int32)), (.ref b13373)])) rfl rfl (hb hby d5_22)
  have K15410 := Keep.of_wr W15410
  have Z15410 := Nat.le_trans Z15404 K15410.1
  have S15410 := Nat.le_trans S15404 K15410.1
  have F15411 := Fld.other W15410 F15405 (Or.inr (slot_ne (Or.inr (hw _ (wm 49 rfl))) (Or.inr (hw _ (wm 55 rfl))) (by decide) (t := (.object "java/lang/String")) (t' := .int) (by decide) (by decide)))
  have F15412 := Fld.other W15410 F15406 (Or.inr (slot_ne (Or.inr (hw _ (wm 51 rfl))) (Or.inr (hw _ (wm 55 rfl))) (by decide) (t := (.object "java/lang/String")) (t' := .int) (by decide) (by decide)))
  have F15413 := Fld.other W15410 F15404 (Or.inr (slot_ne (Or.inr (hw _ (wm 53 rfl))) (Or.inr (hw _ (wm 55 rfl))) (by decide) (t := (.object "java/util/List")) (t' := .int) (by decide) (by decide)))
  have F15414 := Fld.other W15410 F15408 (Or.inr (slot_ne (Or.inr (hw _ (wm 57 rfl))) (Or.inr (hw _ (wm 55 rfl))) (by decide) (t := .int) (t' := .int) (by decide) (by decide)))
  have E15415 := Exa.wr W15410 E15409
  refine ost (mkF m 25 (Las145_0 b13373 b13376 b13377) []) X15410 (fun t k => st15410 _ k) ?_
  refine ost (mkF m 26 (Las145_0 b13373 b13376 b13377) [(.ref b13373)]) X15410 (fun t k => XS.aloadN X15410.here hx rfl (hb hby d5_25) rfl rfl k) ?_
  refine ost (mkF m 28 (Las145_0 b13373 b13376 b13377) [(.int (4 : Int32)), (.ref b13373)]) X15410 (fun t k => XS.iload X15410.here hx rfl (hb hby d5_26) rfl k) ?_
  obtain ⟨T15416, h15416, L15416, X15416, e15416, N15416, W15416, F15416, st15416⟩ := own_putF X15410 hx hZ hown (hw _ (wm 56 rfl)) e15410 N15410 F15414 E15415 g_b13373 (Or.inr ⟨(hw _ (wm 57 rfl)), rfl, hnm⟩) (hw _ (wm 27 rfl)) (fty := .int) (by decide) rfl rfl (g := (mkF m 28 (Las145_0 b13373 b13376 b13377) [(.int (4 : Int32)), (.ref b13373)])) rfl rfl (hb hby d5_28)
  have K15416 := Keep.of_wr W15416
  have Z15416 := Nat.le_trans Z15410 K15416.1
  have S15416 := Nat.le_trans S15410 K15416.1
  have F15417 := Fld.other W15416 F15411 (Or.inr (slot_ne (Or.inr (hw _ (wm 49 rfl))) (Or.inr (hw _ (wm 57 rfl))) (by decide) (t := (.object "java/lang/String")) (t' := .int) (by decide) (by decide)))
  have F15418 := Fld.other W15416 F15412 (Or.inr (slot_ne (Or.inr (hw _ (wm 51 rfl))) (Or.inr (hw _ (wm 57 rfl))) (by decide) (t := (.object "java/lang/String")) (t' := .int) (by decide) (by decide)))
  have F15419 := Fld.other W15416 F15413 (Or.inr (slot_ne (Or.inr (hw _ (wm 53 rfl))) (Or.inr (hw _ (wm 57 rfl))) (by decide) (t := (.object "java/util/List")) (t' := .int) (by decide) (by decide)))
  have F15420 := Fld.other W15416 F15410 (Or.inr (slot_ne (Or.inr (hw _ (wm 55 rfl))) (Or.inr (hw _ (wm 57 rfl))) (by decide) (t := .int) (t' := .int) (by decide) (by decide)))
  have E15421 := Exa.wr W15416 E15415
  refine ost (mkF m 31 (Las145_0 b13373 b13376 b13377) []) X15416 (fun t k => st15416 _ k) ?_
  refine OwnFin.retVoid X15416 (hb hby d5_31) (by decide) (by decide) ?_
  rw [e15416]
  exact ⟨rfl, N15416, (Keep.trans (Keep.trans (Keep.trans (Keep.trans (Keep.trans (Keep.refl h0 [b13373]) K15392 (allS (Or.inl (wm 0 rfl)) all0)) K15398 (allS (Or.inl (wm 0 rfl)) all0)) K15404 (allS (Or.inl (wm 0 rfl)) all0)) K15410 (allS (Or.inl (wm 0 rfl)) all0)) K15416 (allS (Or.inl (wm 0 rfl)) all0)), E15421, F15417, F15418, F15419, F15420, F15416⟩)
def Q8s13 (Z : State) (b1 : Addr) (b3058 : Addr) (b9144 : Addr) (b9244 : Addr) (h0 : Heap) (n0 : Nat) : Option Value → Heap → List Loc → Prop := fun v h L => v = none ∧ Fr n0 L ∧ Keep h0 h [b1, b9144] ∧ Exa Z h b1 "java/util/ArrayList" ∧ Fld Z h b1 "java/util/AbstractList" "modCount" "I" (.int (2 : Int32)) ∧ Fld Z h b1 "java/util/ArrayList" "elementData" "[Ljava/lang/Object;" (.ref b9144) ∧ Fld Z h b1 "java/util/ArrayList" "size" "I" (.int (2 : Int32)) ∧ AryR Z h b9144 "java/lang/Object" 10 (updN (updN (fun _ => Value.null) ((0 : Int32)).toNatClampNeg (Value.ref b3058)) ((1 : Int32)).toNatClampNeg (Value.ref b9244))
abbrev Las138_0 (b1 : Addr) (b9244 : Addr) (b9144 : Addr) : Array Slot := #[.val (.ref b1), .val (.ref b9244), .val (.ref b9144), .val (.int (1 : Int32))]
set_option maxRecDepth 65536 in
set_option maxHeartbeats 40000000 in
theorem rm8s13 (l : Launch) (Z : State) (a0 : Array Value) (hw : ∀ d ∈ tables_1, d.before a0 Z = true) (ws : List Jvm.Cond) (b1 : Addr) (b3058 : Addr) (b9144 : Addr) (b9244 : Addr) (h0 : Heap) (n0 : Nat) (Z0 : n0 ≤ h0.size) (E_b1 : Exa Z h0 b1 "java/util/ArrayList") (F_modCount_b1 : Fld Z h0 b1 "java/util/AbstractList" "modCount" "I" (.int (2 : Int32))) (F_elementData_b1 : Fld Z h0 b1 "java/util/ArrayList" "elementData" "[Ljava/lang/Object;" (.ref b9144)) (F_size_b1 : Fld Z h0 b1 "java/util/ArrayList" "size" "I" (.int (1 : Int32))) (g_b1 : n0 ≤ b1) (A_b9144 : AryR Z h0 b9144 "java/lang/Object" 10 (updN (fun _ => Value.null) ((0 : Int32)).toNatClampNeg (Value.ref b3058))) (g_b9144 : n0 ≤ b9144) (E_b9244 : Exa Z h0 b9244 "com/example/ken2/ken2/InterpretedSystem$Variable") (ne_b1_b9144 : b1 ≠ b9144) :
    MetFree l Y8 (head1 (Jvm.Cond.code Y8 jdk_38_method_24_code 4 none :: ws) ({ frames := 0, cells := 0, slots := 0, locals := 0 } : Room)) (fun a U => a = #[(.ref b1), (.ref b9244), (.ref b9144), (.int (1 : Int32))] ∧ Z.Warmed39 U.vm ∧ U.heap = h0) (fun _ _ _ _ _ => True) (fun _ U o U' => ∃ v L, o = .returned v ∧ (Q8s13 Z b1 b3058 b9144 b9244 h0 n0) v U'.heap L ∧ FrameEnd U o U' L ({ frames := 0, cells := 0, slots := 0, locals := 0 } : Room).cells ({ frames := 0, cells := 0, slots := 0, locals := 0 } : Room).slots) :=
  own_met (ret := none) (Q := (Q8s13 Z b1 b3058 b9144 b9244 h0 n0)) (plainFor_of_name pn_8) (fun m => ef_8 m b1 b9244 b9144 (1 : Int32)) (fun p e s m below meth c T0 X0 hx hby hml hown hnm hZ e0 => by
  have N0 := Fr.nil n0
  refine ost (mkF m 1 (Las138_0 b1 b9244 b9144) [(.int (1 : Int32))]) X0 (fun t k => XS.iloadN X0.here hx rfl (hb hby d8_0) rfl k) ?_
  refine ost (mkF m 2 (Las138_0 b1 b9244 b9144) [(.ref b9144), (.int (1 : Int32))]) X0 (fun t k => XS.aloadN X0.here hx rfl (hb hby d8_1) rfl rfl k) ?_
  refine ost (mkF m 3 (Las138_0 b1 b9244 b9144) [(.int (10 : Int32)), (.int (1 : Int32))]) X0 (fun t k => own_len X0 hx hZ e0 (A_b9144).1 (g := (mkF m 2 (Las138_0 b1 b9244 b9144) [(.ref b9144), (.int (1 : Int32))])) rfl rfl (hb hby d8_2) _ k) ?_
  refine ost (mkF m 11 (Las138_0 b1 b9244 b9144) []) X0 (fun t k => XS.icmpYes X0.here hx rfl (pc0 := 3) (pc' := 11) rfl (hb hby d8_3) rfl (feq (show ¬ ((1 : Int32) = (10 : Int32)) by first | decide | exact Int32.lt_irrefl _ | exact Int64.lt_irrefl _)).2 (by decide) (by decide) k) ?_
  refine ost (mkF m 12 (Las138_0 b1 b9244 b9144) [(.ref b9144)]) X0 (fun t k => XS.aloadN X0.here hx rfl (hb hby d8_11) rfl rfl k) ?_
  refine ost (mkF m 13 (Las138_0 b1 b9244 b9144) [(.int (1 : Int32)), (.ref b9144)]) X0 (fun t k => XS.iloadN X0.here hx rfl (hb hby d8_12) rfl k) ?_
  refine ost (mkF m 14 (Las138_0 b1 b9244 b9144) [(.ref b9244), (.int (1 : Int32)), (.ref b9144)]) X0 (fun t k => XS.aloadN X0.here hx rfl (hb hby d8_13) rfl rfl k) ?_
  obtain ⟨T13324, h13324, L13324, X13324, e13324, N13324, K13324, A13324, st13324⟩ := own_stA X0 hx hZ e0 N0 (G := (updN (fun _ => Value.null) ((0 : Int32)).toNatClampNeg (Value.ref b3058))) A_b9144 g_b9144 (j := (1 : Int32)) (v := (.ref b9244)) (by decide) (own_sto A_b9144 E_b9244 (hw _ (wm 88 rfl))) (g := (mkF m 14 (Las138_0 b1 b9244 b9144) [(.ref b9244), (.int (1 : Int32)), (.ref b9144)])) rfl rfl (hb hby d8_14)
  have Z13324 := Nat.le_trans Z0 K13324.1
  have S13324 := Nat.le_trans (Nat.le_refl h0.size) K13324.1
  refine ost (mkF m 15 (Las138_0 b1 b9244 b9144) []) X13324 (fun t k => st13324 _ k) ?_
  refine ost (mkF m 16 (Las138_0 b1 b9244 b9144) [(.ref b1)]) X13324 (fun t k => XS.aloadN X13324.here hx rfl (hb hby d8_15) rfl rfl k) ?_
  refine ost (mkF m 17 (Las138_0 b1 b9244 b9144) [(.int (1 : Int32)), (.ref b1)]) X13324 (fun t k => XS.iloadN X13324.here hx rfl (hb hby d8_16) rfl k) ?_
  refine ost (mkF m 18 (Las138_0 b1 b9244 b9144) [(.int (1 : Int32)), (.int (1 : Int32)), (.ref b1)]) X13324 (fun t k => XS.iconst X13324.here hx rfl (hb hby d8_17) k) ?_
  refine ost (mkF m 19 (Las138_0 b1 b9244 b9144) [(.int (2 : Int32)), (.ref b1)]) X13324 (fun t k => XS.iadd X13324.here hx rfl (hb hby d8_18) rfl k) ?_
  have E13325 := (Exa.keep E_b1 K13324)
  have F13326 := (F_modCount_b1.keep K13324 (ninS ne_b1_b9144 nin0))
  have F13327 := (F_elementData_b1.keep K13324 (ninS ne_b1_b9144 nin0))
  have F13328 := (F_size_b1.keep K13324 (ninS ne_b1_b9144 nin0))
  obtain ⟨T13329, h13329, L13329, X13329, e13329, N13329, W13329, F13329, st13329⟩ := own_putF X13324 hx hZ hown (hw _ (wm 65 rfl)) e13324 N13324 F13328 E13325 g_b1 (Or.inl (hw _ (wm 66 rfl))) (hw _ (wm 1 rfl)) (fty := .int) (by decide) rfl rfl (g := (mkF m 19 (Las138_0 b1 b9244 b9144) [(.int (2 : Int32)), (.ref b1)])) rfl rfl (hb hby d8_19)
  have K13329 := Keep.of_wr W13329
  have Z13329 := Nat.le_trans Z13324 K13329.1
  have S13329 := Nat.le_trans S13324 K13329.1
  have F13330 := Fld.other W13329 F13326 (Or.inr (slot_ne (Or.inl (hw _ (wm 22 rfl))) (Or.inl (hw _ (wm 66 rfl))) (by decide) (t := .int) (t' := .int) (by decide) (by decide)))
  have F13331 := Fld.other W13329 F13327 (Or.inr (slot_ne (Or.inl (hw _ (wm 25 rfl))) (Or.inl (hw _ (wm 66 rfl))) (by decide) (t := (.array (.object "java/lang/Object"))) (t' := .int) (by decide) (by decide)))
  have E13332 := Exa.wr W13329 E13325
  refine ost (mkF m 22 (Las138_0 b1 b9244 b9144) []) X13329 (fun t k => st13329 _ k) ?_
  have A13333 := (A13324.keep K13329 (ninS (Ne.symm ne_b1_b9144) nin0))
  refine OwnFin.retVoid X13329 (hb hby d8_22) (by decide) (by decide) ?_
  rw [e13329]
  exact ⟨rfl, N13329, (Keep.trans (Keep.trans (Keep.refl h0 [b1, b9144]) K13324 (allS (Or.inl (wm 1 rfl)) all0)) K13329 (allS (Or.inl (wm 0 rfl)) all0)), E13332, F13330, F13331, F13329, A13333⟩)
def Q7s12 (Z : State) (b1 : Addr) (b3058 : Addr) (b9144 : Addr) (b9244 : Addr) (h0 : Heap) (n0 : Nat) : Option Value → Heap → List Loc → Prop := fun v h L => v = some (.int (nar .boolean (1 : Int32))) ∧ Fr n0 L ∧ Keep h0 h [b1, b9144] ∧ Exa Z h b1 "java/util/ArrayList" ∧ Fld Z h b1 "java/util/AbstractList" "modCount" "I" (.int (2 : Int32)) ∧ Fld Z h b1 "java/util/ArrayList" "elementData" "[Ljava/lang/Object;" (.ref b9144) ∧ Fld Z h b1 "java/util/ArrayList" "size" "I" (.int (2 : Int32)) ∧ AryR Z h b9144 "java/lang/Object" 10 (updN (updN (fun _ => Value.null) ((0 : Int32)).toNatClampNeg (Value.ref b3058)) ((1 : Int32)).toNatClampNeg (Value.ref b9244))
set_option maxRecDepth 65536 in
set_option maxHeartbeats 40000000 in
theorem rm7s12 (l : Launch) (Z : State) (a0 : Array Value) (hw : ∀ d ∈ tables_1, d.before a0 Z = true) (ws : List Jvm.Cond) (b1 : Addr) (b3058 : Addr) (b9144 : Addr) (b9244 : Addr) (h0 : Heap) (n0 : Nat) (Z0 : n0 ≤ h0.size) (E_b1 : Exa Z h0 b1 "java/util/ArrayList") (F_modCount_b1 : Fld Z h0 b1 "java/util/AbstractList" "modCount" "I" (.int (1 : Int32))) (F_elementData_b1 : Fld Z h0 b1 "java/util/ArrayList" "elementData" "[Ljava/lang/Object;" (.ref b9144)) (F_size_b1 : Fld Z h0 b1 "java/util/ArrayList" "size" "I" (.int (1 : Int32))) (g_b1 : n0 ≤ b1) (A_b9144 : AryR Z h0 b9144 "java/lang/Object" 10 (updN (fun _ => Value.null) ((0 : Int32)).toNatClampNeg (Value.ref b3058))) (g_b9144 : n0 ≤ b9144) (E_b9244 : Exa Z h0 b9244 "com/example/ken2/ken2/InterpretedSystem$Variable") (ne_b1_b9144 : b1 ≠ b9144) :
    MetFree l Y9 (head1 (Jvm.Cond.code Y9 jdk_38_method_25_code 2 (some .boolean) :: ws) ({ frames := 1, cells := 0, slots := 0, locals := 15 } : Room)) (fun a U => a = #[(.ref b1), (.ref b9244)] ∧ Z.Warmed39 U.vm ∧ U.heap = h0) (fun _ _ _ _ _ => True) (fun _ U o U' => ∃ v L, o = .returned v ∧ (Q7s12 Z b1 b3058 b9144 b9244 h0 n0) v U'.heap L ∧ FrameEnd U o U' L ({ frames := 1, cells := 0, slots := 0, locals := 15 } : Room).cells ({ frames := 1, cells := 0, slots := 0, locals := 15 } : Room).slots) :=
  own_met (ret := (some .boolean)) (Q := (Q7s12 Z b1 b3058 b9144 b9244 h0 n0)) (plainFor_of_name pn_7) (fun m => ef_7 m b1 b9244) (fun p e s m below meth c T0 X0 hx hby hml hown hnm hZ e0 => by
  have N0 := Fr.nil n0
  refine ost (mkF m 1 #[.val (.ref b1), .val (.ref b9244)] [(.ref b1)]) X0 (fun t k => XS.aloadN X0.here hx rfl (hb hby d7_0) rfl rfl k) ?_
  refine ost (mkF m 2 #[.val (.ref b1), .val (.ref b9244)] [(.ref b1), (.ref b1)]) X0 (fun t k => XS.dup X0.here hx rfl (hb hby d7_1) rfl rfl k) ?_
  obtain ⟨T12316, X12316, e12316, st12316⟩ := getF X0 hx hZ hown (host := "") (Or.inl (hw _ (wm 63 rfl))) (Via.of (hw _ (wm 64 rfl))) e0 F_modCount_b1 (g := (mkF m 2 #[.val (.ref b1), .val (.ref b9244)] [(.ref b1), (.ref b1)])) rfl rfl (hb hby d7_2)
  refine ost (mkF m 5 #[.val (.ref b1), .val (.ref b9244)] [(.int (1 : Int32)), (.ref b1)]) X12316 (fun t k => st12316 _ k) ?_
  refine ost (mkF m 6 #[.val (.ref b1), .val (.ref b9244)] [(.int (1 : Int32)), (.int (1 : Int32)), (.ref b1)]) X12316 (fun t k => XS.iconst X12316.here hx rfl (hb hby d7_5) k) ?_
  refine ost (mkF m 7 #[.val (.ref b1), .val (.ref b9244)] [(.int (2 : Int32)), (.ref b1)]) X12316 (fun t k => XS.iadd X12316.here hx rfl (hb hby d7_6) rfl k) ?_
  obtain ⟨T12317, h12317, L12317, X12317, e12317, N12317, W12317, F12317, st12317⟩ := own_putFV X12316 hx hZ hown (hw _ (wm 63 rfl)) (Via.of (hw _ (wm 64 rfl))) e12316 N0 F_modCount_b1 E_b1 g_b1 (Or.inl (hw _ (wm 22 rfl))) (hw _ (wm 1 rfl)) (fty := .int) (by decide) rfl rfl (g := (mkF m 7 #[.val (.ref b1), .val (.ref b9244)] [(.int (2 : Int32)), (.ref b1)])) rfl rfl (hb hby d7_7)
  have K12317 := Keep.of_wr W12317
  have Z12317 := Nat.le_trans Z0 K12317.1
  have S12317 := Nat.le_trans (Nat.le_refl h0.size) K12317.1
  have F12318 := Fld.other W12317 F_elementData_b1 (Or.inr (slot_ne (Or.inl (hw _ (wm 25 rfl))) (Or.inl (hw _ (wm 22 rfl))) (by decide) (t := (.array (.object "java/lang/Object"))) (t' := .int) (by decide) (by decide)))
  have F12319 := Fld.other W12317 F_size_b1 (Or.inr (slot_ne (Or.inl (hw _ (wm 66 rfl))) (Or.inl (hw _ (wm 22 rfl))) (by decide) (t := .int) (t' := .int) (by decide) (by decide)))
  have E12320 := Exa.wr W12317 E_b1
  refine ost (mkF m 10 #[.val (.ref b1), .val (.ref b9244)] []) X12317 (fun t k => st12317 _ k) ?_
  refine ost (mkF m 11 #[.val (.ref b1), .val (.ref b9244)] [(.ref b1)]) X12317 (fun t k => XS.aloadN X12317.here hx rfl (hb hby d7_10) rfl rfl k) ?_
  refine ost (mkF m 12 #[.val (.ref b1), .val (.ref b9244)] [(.ref b9244), (.ref b1)]) X12317 (fun t k => XS.aloadN X12317.here hx rfl (hb hby d7_11) rfl rfl k) ?_
  refine ost (mkF m 13 #[.val (.ref b1), .val (.ref b9244)] [(.ref b1), (.ref b9244), (.ref b1)]) X12317 (fun t k => XS.aloadN X12317.here hx rfl (hb hby d7_12) rfl rfl k) ?_
  obtain ⟨T12321, X12321, e12321, st12321⟩ := getF X12317 hx hZ hown (host := "") (Or.inl (hw _ (wm 24 rfl))) Via.refl e12317 F12318 (g := (mkF m 13 #[.val (.ref b1), .val (.ref b9244)] [(.ref b1), (.ref b9244), (.ref b1)])) rfl rfl (hb hby d7_13)
  refine ost (mkF m 16 #[.val (.ref b1), .val (.ref b9244)] [(.ref b9144), (.ref b9244), (.ref b1)]) X12321 (fun t k => st12321 _ k) ?_
  refine ost (mkF m 17 #[.val (.ref b1), .val (.ref b9244)] [(.ref b1), (.ref b9144), (.ref b9244), (.ref b1)]) X12321 (fun t k => XS.aloadN X12321.here hx rfl (hb hby d7_16) rfl rfl k) ?_
  obtain ⟨T12322, X12322, e12322, st12322⟩ := getF X12321 hx hZ hown (host := "") (Or.inl (hw _ (wm 65 rfl))) Via.refl e12321 F12319 (g := (mkF m 17 #[.val (.ref b1), .val (.ref b9244)] [(.ref b1), (.ref b9144), (.ref b9244), (.ref b1)])) rfl rfl (hb hby d7_17)
  refine ost (mkF m 20 #[.val (.ref b1), .val (.ref b9244)] [(.int (1 : Int32)), (.ref b9144), (.ref b9244), (.ref b1)]) X12322 (fun t k => st12322 _ k) ?_
  have A13344 := (A_b9144.keep K12317 (ninS (Ne.symm ne_b1_b9144) nin0))
  have E13345 := (Exa.keep E_b9244 K12317)
  obtain ⟨_, T12323, L12323, X12323, ⟨rfl, N12323q, u13346, u13347, u13348, u13349, u13350, u13351⟩, st12323⟩ := own_callP X12322 hx hZ (y := Y8) (W := 0) (a := b1) (argsL := [(.ref b9244), (.ref b9144), (.int (1 : Int32))]) (rest := []) hown (hw _ (wm 67 rfl)) (hw _ (wm 61 rfl)) rfl (hw _ (wm 68 rfl)) (hw _ (wm 69 rfl)) (hw _ (wm 2 rfl)) (hw _ (wm 71 rfl)) (by decide) E12320 (rm8s13 l Z a0 hw [] b1 b3058 b9144 b9244 h12317 n0 Z12317 E12320 F12317 F12318 F12319 g_b1 A13344 g_b9144 E13345 ne_b1_b9144) (by decide) (by decide) (by decide) (by decide) e12322 (g := (mkF m 20 #[.val (.ref b1), .val (.ref b9244)] [(.int (1 : Int32)), (.ref b9144), (.ref b9244), (.ref b1)])) rfl (by rw [hml]; rfl) pd_5 rfl rfl (by show 2 * 0 + _ ≤ _; exact Nat.le_of_eq rfl) (hb hby d7_20)
  have N12323 := Fr.app N12317 N12323q
  obtain ⟨h12323, e12323⟩ : ∃ z, T12323.heap = z := ⟨_, rfl⟩
  rw [e12323] at u13346 u13347 u13348 u13349 u13350 u13351
  have K12323 := u13346
  have Z12323 := Nat.le_trans Z12317 K12323.1
  have S12323 := Nat.le_trans S12317 K12323.1
  refine ost (mkF m 23 #[.val (.ref b1), .val (.ref b9244)] []) X12323 (fun t k => st12323 _ k) ?_
  refine ost (mkF m 24 #[.val (.ref b1), .val (.ref b9244)] [(.int (1 : Int32))]) X12323 (fun t k => XS.iconst X12323.here hx rfl (hb hby d7_23) k) ?_
  refine OwnFin.retNar X12323 (by simp) (hb hby d7_24) (by decide) (by decide) ?_
  rw [e12323]
  exact ⟨rfl, N12323, (Keep.trans (Keep.trans (Keep.refl h0 [b1, b9144]) K12317 (allS (Or.inl (wm 0 rfl)) all0)) K12323 (allS (Or.inl (wm 0 rfl)) (allS (Or.inl (wm 1 rfl)) all0))), u13347, u13348, u13349, u13350, u13351⟩)
def Q6s11 (Z : State) (b9244 : Addr) (h0 : Heap) (n0 : Nat) : Option Value → Heap → List Loc → Prop := fun v h L => v = none ∧ Fr n0 L ∧ h = h0
set_option maxRecDepth 65536 in
set_option maxHeartbeats 40000000 in
theorem rm6s11 (l : Launch) (Z : State) (a0 : Array Value) (hw : ∀ d ∈ tables_1, d.before a0 Z = true) (ws : List Jvm.Cond) (b9244 : Addr) (h0 : Heap) (n0 : Nat) (Z0 : n0 ≤ h0.size) :
    MetFree l Y3 (head1 (Jvm.Cond.code Y3 jdk_30_method_1_code 1 none :: ws) ({ frames := 1, cells := 0, slots := 0, locals := 12 } : Room)) (fun a U => a = #[(.ref b9244)] ∧ Z.Warmed39 U.vm ∧ U.heap = h0) (fun _ _ _ _ _ => True) (fun _ U o U' => ∃ v L, o = .returned v ∧ (Q6s11 Z b9244 h0 n0) v U'.heap L ∧ FrameEnd U o U' L ({ frames := 1, cells := 0, slots := 0, locals := 12 } : Room).cells ({ frames := 1, cells := 0, slots := 0, locals := 12 } : Room).slots) :=
  own_met (ret := none) (Q := (Q6s11 Z b9244 h0 n0)) (plainFor_of_name pn_6) (fun m => ef_6 m b9244) (fun p e s m below meth c T0 X0 hx hby hml hown hnm hZ e0 => by
  have N0 := Fr.nil n0
  refine ost (mkF m 1 #[.val (.ref b9244)] [(.ref b9244)]) X0 (fun t k => XS.aloadN X0.here hx rfl (hb hby d6_0) rfl rfl k) ?_
  obtain ⟨T11250, X11250, e11250, st11250⟩ := initO X0 hx hZ hown (hw _ (wm 47 rfl)) (hw _ (wm 19 rfl)) (hw _ (wm 20 rfl)) e0 (g := (mkF m 1 #[.val (.ref b9244)] [(.ref b9244)])) rfl (by rw [hml]; rfl) rfl (hb hby d6_1) (by decide) (W := 0) (by show 2 * 0 + _ ≤ _; exact Nat.le_of_eq rfl) (by decide)
  refine ost (mkF m 4 #[.val (.ref b9244)] []) X11250 (fun t k => st11250 _ k) ?_
  refine OwnFin.retVoid X11250 (hb hby d6_4) (by decide) (by decide) ?_
  rw [e11250]
  exact ⟨rfl, N0, rfl⟩)
def Q5s10 (Z : State) (b9246 : Addr) (b9247 : Addr) (b9244 : Addr) (h0 : Heap) (n0 : Nat) : Option Value → Heap → List Loc → Prop := fun v h L => v = none ∧ Fr n0 L ∧ Keep h0 h [b9244] ∧ Exa Z h b9244 "com/example/ken2/ken2/InterpretedSystem$Variable" ∧ Fld Z h b9244 "com/example/ken2/ken2/InterpretedSystem$Variable" "agent" "Ljava/lang/String;" (.ref b9246) ∧ Fld Z h b9244 "com/example/ken2/ken2/InterpretedSystem$Variable" "name" "Ljava/lang/String;" (.ref b9247) ∧ Fld Z h b9244 "com/example/ken2/ken2/InterpretedSystem$Variable" "values" "Ljava/util/List;" .null ∧ Fld Z h b9244 "com/example/ken2/ken2/InterpretedSystem$Variable" "low" "I" (.int (0 : Int32)) ∧ Fld Z h b9244 "com/example/ken2/ken2/InterpretedSystem$Variable" "size" "I" (.int (2147483647 : Int32))
abbrev Las105_0 (b9244 : Addr) (b9246 : Addr) (b9247 : Addr) : Array Slot := #[.val (.ref b9244), .val (.ref b9246), .val (.ref b9247), .val .null, .val (.int (0 : Int32)), .val (.int (2147483647 : Int32))]
set_option maxRecDepth 65536 in
set_option maxHeartbeats 40000000 in
theorem rm5s10 (l : Launch) (Z : State) (a0 : Array Value) (hw : ∀ d ∈ tables_1, d.before a0 Z = true) (ws : List Jvm.Cond) (b9246 : Addr) (b9247 : Addr) (b9244 : Addr) (h0 : Heap) (n0 : Nat) (Z0 : n0 ≤ h0.size) (E_b9244 : Exa Z h0 b9244 "com/example/ken2/ken2/InterpretedSystem$Variable") (F_agent_b9244 : Fld Z h0 b9244 "com/example/ken2/ken2/InterpretedSystem$Variable" "agent" "Ljava/lang/String;" .null) (F_name_b9244 : Fld Z h0 b9244 "com/example/ken2/ken2/InterpretedSystem$Variable" "name" "Ljava/lang/String;" .null) (F_values_b9244 : Fld Z h0 b9244 "com/example/ken2/ken2/InterpretedSystem$Variable" "values" "Ljava/util/List;" .null) (F_low_b9244 : Fld Z h0 b9244 "com/example/ken2/ken2/InterpretedSystem$Variable" "low" "I" (.int (0 : Int32))) (F_size_b9244 : Fld Z h0 b9244 "com/example/ken2/ken2/InterpretedSystem$Variable" "size" "I" (.int (0 : Int32))) (g_b9244 : n0 ≤ b9244) :
    MetFree l Y4 (head1 (Jvm.Cond.code Y4 prog_64_method_1_code 6 none :: ws) ({ frames := 2, cells := 0, slots := 0, locals := 24 } : Room)) (fun a U => a = #[(.ref b9244), (.ref b9246), (.ref b9247), .null, (.int (0 : Int32)), (.int (2147483647 : Int32))] ∧ Z.Warmed39 U.vm ∧ U.heap = h0) (fun _ _ _ _ _ => True) (fun _ U o U' => ∃ v L, o = .returned v ∧ (Q5s10 Z b9246 b9247 b9244 h0 n0) v U'.heap L ∧ FrameEnd U o U' L ({ frames := 2, cells := 0, slots := 0, locals := 24 } : Room).cells ({ frames := 2, cells := 0, slots := 0, locals := 24 } : Room).slots) :=
  own_met (ret := none) (Q := (Q5s10 Z b9246 b9247 b9244 h0 n0)) (plainFor_of_name pn_5) (fun m => ef_5n3 m b9244 b9246 b9247 (0 : Int32) (2147483647 : Int32)) (fun p e s m below meth c T0 X0 hx hby hml hown hnm hZ e0 => by
  have N0 := Fr.nil n0
  refine ost (mkF m 1 (Las105_0 b9244 b9246 b9247) [(.ref b9244)]) X0 (fun t k => XS.aloadN X0.here hx rfl (hb hby d5_0) rfl rfl k) ?_
  obtain ⟨_, T10249, L10249, X10249, ⟨rfl, N10249q, u11261⟩, st10249⟩ := own_callI X0 hx hZ (y := Y3) (W := 0) (a := b9244) (argsL := []) (rest := []) rfl hown (hw _ (wm 42 rfl)) (hw _ (wm 43 rfl)) (hw _ (wm 45 rfl)) (hw _ (wm 46 rfl)) (by decide) (rm6s11 l Z a0 hw [] b9244 h0 n0 Z0 ) (by decide) (by decide) (by decide) (by decide) e0 (g := (mkF m 1 (Las105_0 b9244 b9246 b9247) [(.ref b9244)])) rfl (by rw [hml]; rfl) pd_0 rfl rfl (by show 2 * 0 + _ ≤ _; exact Nat.le_of_eq rfl) (hb hby d5_1)
  have N10249 := Fr.app N0 N10249q
  refine ost (mkF m 4 (Las105_0 b9244 b9246 b9247) []) X10249 (fun t k => st10249 _ k) ?_
  refine ost (mkF m 5 (Las105_0 b9244 b9246 b9247) [(.ref b9244)]) X10249 (fun t k => XS.aloadN X10249.here hx rfl (hb hby d5_4) rfl rfl k) ?_
  refine ost (mkF m 6 (Las105_0 b9244 b9246 b9247) [(.ref b9246), (.ref b9244)]) X10249 (fun t k => XS.aloadN X10249.here hx rfl (hb hby d5_5) rfl rfl k) ?_
  obtain ⟨T11262, h11262, L11262, X11262, e11262, N11262, W11262, F11262, st11262⟩ := own_putF X10249 hx hZ hown (hw _ (wm 48 rfl)) u11261 N10249 F_agent_b9244 E_b9244 g_b9244 (Or.inr ⟨(hw _ (wm 49 rfl)), rfl, hnm⟩) (hw _ (wm 27 rfl)) (fty := (.object "java/lang/String")) (by decide) rfl rfl (g := (mkF m 6 (Las105_0 b9244 b9246 b9247) [(.ref b9246), (.ref b9244)])) rfl rfl (hb hby d5_6)
  have K11262 := Keep.of_wr W11262
  have Z11262 := Nat.le_trans Z0 K11262.1
  have S11262 := Nat.le_trans (Nat.le_refl h0.size) K11262.1
  have F11263 := Fld.other W11262 F_name_b9244 (Or.inr (slot_ne (Or.inr (hw _ (wm 51 rfl))) (Or.inr (hw _ (wm 49 rfl))) (by decide) (t := (.object "java/lang/String")) (t' := (.object "java/lang/String")) (by decide) (by decide)))
  have F11264 := Fld.other W11262 F_values_b9244 (Or.inr (slot_ne (Or.inr (hw _ (wm 53 rfl))) (Or.inr (hw _ (wm 49 rfl))) (by decide) (t := (.object "java/util/List")) (t' := (.object "java/lang/String")) (by decide) (by decide)))
  have F11265 := Fld.other W11262 F_low_b9244 (Or.inr (slot_ne (Or.inr (hw _ (wm 55 rfl))) (Or.inr (hw _ (wm 49 rfl))) (by decide) (t := .int) (t' := (.object "java/lang/String")) (by decide) (by decide)))
  have F11266 := Fld.other W11262 F_size_b9244 (Or.inr (slot_ne (Or.inr (hw _ (wm 57 rfl))) (Or.inr (hw _ (wm 49 rfl))) (by decide) (t := .int) (t' := (.object "java/lang/String")) (by decide) (by decide)))
  have E11267 := Exa.wr W11262 E_b9244
  refine ost (mkF m 9 (Las105_0 b9244 b9246 b9247) []) X11262 (fun t k => st11262 _ k) ?_
  refine ost (mkF m 10 (Las105_0 b9244 b9246 b9247) [(.ref b9244)]) X11262 (fun t k => XS.aloadN X11262.here hx rfl (hb hby d5_9) rfl rfl k) ?_
  refine ost (mkF m 11 (Las105_0 b9244 b9246 b9247) [(.ref b9247), (.ref b9244)]) X11262 (fun t k => XS.aloadN X11262.here hx rfl (hb hby d5_10) rfl rfl k) ?_
  obtain ⟨T11268, h11268, L11268, X11268, e11268, N11268, W11268, F11268, st11268⟩ := own_putF X11262 hx hZ hown (hw _ (wm 50 rfl)) e11262 N11262 F11263 E11267 g_b9244 (Or.inr ⟨(hw _ (wm 51 rfl)), rfl, hnm⟩) (hw _ (wm 27 rfl)) (fty := (.object "java/lang/String")) (by decide) rfl rfl (g := (mkF m 11 (Las105_0 b9244 b9246 b9247) [(.ref b9247), (.ref b9244)])) rfl rfl (hb hby d5_11)
  have K11268 := Keep.of_wr W11268
  have Z11268 := Nat.le_trans Z11262 K11268.1
  have S11268 := Nat.le_trans S11262 K11268.1
  have F11269 := Fld.other W11268 F11262 (Or.inr (slot_ne (Or.inr (hw _ (wm 49 rfl))) (Or.inr (hw _ (wm 51 rfl))) (by decide) (t := (.object "java/lang/String")) (t' := (.object "java/lang/String")) (by decide) (by decide)))
  have F11270 := Fld.other W11268 F11264 (Or.inr (slot_ne (Or.inr (hw _ (wm 53 rfl))) (Or.inr (hw _ (wm 51 rfl))) (by decide) (t := (.object "java/util/List")) (t' := (.object "java/lang/String")) (by decide) (by decide)))
  have F11271 := Fld.other W11268 F11265 (Or.inr (slot_ne (Or.inr (hw _ (wm 55 rfl))) (Or.inr (hw _ (wm 51 rfl))) (by decide) (t := .int) (t' := (.object "java/lang/String")) (by decide) (by decide)))
  have F11272 := Fld.other W11268 F11266 (Or.inr (slot_ne (Or.inr (hw _ (wm 57 rfl))) (Or.inr (hw _ (wm 51 rfl))) (by decide) (t := .int) (t' := (.object "java/lang/String")) (by decide) (by decide)))
  have E11273 := Exa.wr W11268 E11267
  refine ost (mkF m 14 (Las105_0 b9244 b9246 b9247) []) X11268 (fun t k => st11268 _ k) ?_
  refine ost (mkF m 15 (Las105_0 b9244 b9246 b9247) [(.ref b9244)]) X11268 (fun t k => XS.aloadN X11268.here hx rfl (hb hby d5_14) rfl rfl k) ?_
  refine ost (mkF m 16 (Las105_0 b9244 b9246 b9247) [.null, (.ref b9244)]) X11268 (fun t k => XS.aloadN X11268.here hx rfl (hb hby d5_15) rfl rfl k) ?_
  obtain ⟨T11274, h11274, L11274, X11274, e11274, N11274, W11274, F11274, st11274⟩ := own_putF X11268 hx hZ hown (hw _ (wm 52 rfl)) e11268 N11268 F11270 E11273 g_b9244 (Or.inr ⟨(hw _ (wm 53 rfl)), rfl, hnm⟩) (hw _ (wm 27 rfl)) (fty := (.object "java/util/List")) (by decide) rfl rfl (g := (mkF m 16 (Las105_0 b9244 b9246 b9247) [.null, (.ref b9244)])) rfl rfl (hb hby d5_16)
  have K11274 := Keep.of_wr W11274
  have Z11274 := Nat.le_trans Z11268 K11274.1
  have S11274 := Nat.le_trans S11268 K11274.1
  have F11275 := Fld.other W11274 F11269 (Or.inr (slot_ne (Or.inr (hw _ (wm 49 rfl))) (Or.inr (hw _ (wm 53 rfl))) (by decide) (t := (.object "java/lang/String")) (t' := (.object "java/util/List")) (by decide) (by decide)))
  have F11276 := Fld.other W11274 F11268 (Or.inr (slot_ne (Or.inr (hw _ (wm 51 rfl))) (Or.inr (hw _ (wm 53 rfl))) (by decide) (t := (.object "java/lang/String")) (t' := (.object "java/util/List")) (by decide) (by decide)))
  have F11277 := Fld.other W11274 F11271 (Or.inr (slot_ne (Or.inr (hw _ (wm 55 rfl))) (Or.inr (hw _ (wm 53 rfl))) (by decide) (t := .int) (t' := (.object "java/util/List")) (by decide) (by decide)))
  have F11278 := Fld.other W11274 F11272 (Or.inr (slot_ne (Or.inr (hw _ (wm 57 rfl))) (Or.inr (hw _ (wm 53 rfl))) (by decide) (t := .int) (t' := (.object "java/util/List")) (by decide) (by decide)))
  have E11279 := Exa.wr W11274 E11273
  refine ost (mkF m 19 (Las105_0 b9244 b9246 b9247) []) X11274 (fun t k => st11274 _ k) ?_
  refine ost (mkF m 20 (Las105_0 b9244 b9246 b9247) [(.ref b9244)]) X11274 (fun t k => XS.aloadN X11274.here hx rfl (hb hby d5_19) rfl rfl k) ?_
  refine ost (mkF m 22 (Las105_0 b9244 b9246 b9247) [(.int (0 : Int32)), (.ref b9244)]) X11274 (fun t k => XS.iload X11274.here hx rfl (hb hby d5_20) rfl k) ?_
  obtain ⟨T11280, h11280, L11280, X11280, e11280, N11280, W11280, F11280, st11280⟩ := own_putF X11274 hx hZ hown (hw _ (wm 54 rfl)) e11274 N11274 F11277 E11279 g_b9244 (Or.inr ⟨(hw _ (wm 55 rfl)), rfl, hnm⟩) (hw _ (wm 27 rfl)) (fty := .int) (by decide) rfl rfl (g := (mkF m 22 (Las105_0 b9244 b9246 b9247) [(.int (0 : Int32)), (.ref b9244)])) rfl rfl (hb hby d5_22)
  have K11280 := Keep.of_wr W11280
  have Z11280 := Nat.le_trans Z11274 K11280.1
  have S11280 := Nat.le_trans S11274 K11280.1
  have F11281 := Fld.other W11280 F11275 (Or.inr (slot_ne (Or.inr (hw _ (wm 49 rfl))) (Or.inr (hw _ (wm 55 rfl))) (by decide) (t := (.object "java/lang/String")) (t' := .int) (by decide) (by decide)))
  have F11282 := Fld.other W11280 F11276 (Or.inr (slot_ne (Or.inr (hw _ (wm 51 rfl))) (Or.inr (hw _ (wm 55 rfl))) (by decide) (t := (.object "java/lang/String")) (t' := .int) (by decide) (by decide)))
  have F11283 := Fld.other W11280 F11274 (Or.inr (slot_ne (Or.inr (hw _ (wm 53 rfl))) (Or.inr (hw _ (wm 55 rfl))) (by decide) (t := (.object "java/util/List")) (t' := .int) (by decide) (by decide)))
  have F11284 := Fld.other W11280 F11278 (Or.inr (slot_ne (Or.inr (hw _ (wm 57 rfl))) (Or.inr (hw _ (wm 55 rfl))) (by decide) (t := .int) (t' := .int) (by decide) (by decide)))
  have E11285 := Exa.wr W11280 E11279
  refine ost (mkF m 25 (Las105_0 b9244 b9246 b9247) []) X11280 (fun t k => st11280 _ k) ?_
  refine ost (mkF m 26 (Las105_0 b9244 b9246 b9247) [(.ref b9244)]) X11280 (fun t k => XS.aloadN X11280.here hx rfl (hb hby d5_25) rfl rfl k) ?_
  refine ost (mkF m 28 (Las105_0 b9244 b9246 b9247) [(.int (2147483647 : Int32)), (.ref b9244)]) X11280 (fun t k => XS.iload X11280.here hx rfl (hb hby d5_26) rfl k) ?_
  obtain ⟨T11286, h11286, L11286, X11286, e11286, N11286, W11286, F11286, st11286⟩ := own_putF X11280 hx hZ hown (hw _ (wm 56 rfl)) e11280 N11280 F11284 E11285 g_b9244 (Or.inr ⟨(hw _ (wm 57 rfl)), rfl, hnm⟩) (hw _ (wm 27 rfl)) (fty := .int) (by decide) rfl rfl (g := (mkF m 28 (Las105_0 b9244 b9246 b9247) [(.int (2147483647 : Int32)), (.ref b9244)])) rfl rfl (hb hby d5_28)
  have K11286 := Keep.of_wr W11286
  have Z11286 := Nat.le_trans Z11280 K11286.1
  have S11286 := Nat.le_trans S11280 K11286.1
  have F11287 := Fld.other W11286 F11281 (Or.inr (slot_ne (Or.inr (hw _ (wm 49 rfl))) (Or.inr (hw _ (wm 57 rfl))) (by decide) (t := (.object "java/lang/String")) (t' := .int) (by decide) (by decide)))
  have F11288 := Fld.other W11286 F11282 (Or.inr (slot_ne (Or.inr (hw _ (wm 51 rfl))) (Or.inr (hw _ (wm 57 rfl))) (by decide) (t := (.object "java/lang/String")) (t' := .int) (by decide) (by decide)))
  have F11289 := Fld.other W11286 F11283 (Or.inr (slot_ne (Or.inr (hw _ (wm 53 rfl))) (Or.inr (hw _ (wm 57 rfl))) (by decide) (t := (.object "java/util/List")) (t' := .int) (by decide) (by decide)))
  have F11290 := Fld.other W11286 F11280 (Or.inr (slot_ne (Or.inr (hw _ (wm 55 rfl))) (Or.inr (hw _ (wm 57 rfl))) (by decide) (t := .int) (t' := .int) (by decide) (by decide)))
  have E11291 := Exa.wr W11286 E11285
  refine ost (mkF m 31 (Las105_0 b9244 b9246 b9247) []) X11286 (fun t k => st11286 _ k) ?_
  refine OwnFin.retVoid X11286 (hb hby d5_31) (by decide) (by decide) ?_
  rw [e11286]
  exact ⟨rfl, N11286, (Keep.trans (Keep.trans (Keep.trans (Keep.trans (Keep.trans (Keep.refl h0 [b9244]) K11262 (allS (Or.inl (wm 0 rfl)) all0)) K11268 (allS (Or.inl (wm 0 rfl)) all0)) K11274 (allS (Or.inl (wm 0 rfl)) all0)) K11280 (allS (Or.inl (wm 0 rfl)) all0)) K11286 (allS (Or.inl (wm 0 rfl)) all0)), E11291, F11287, F11288, F11289, F11290, F11286⟩)
def Q10s9 (Z : State) (eE : Addr) (b1 : Addr) (h0 : Heap) (n0 : Nat) : Option Value → Heap → List Loc → Prop := fun v h L => ∃ b9144 : Addr, v = some (.ref b9144) ∧ Fr n0 L ∧ Keep h0 h [b1] ∧ Exa Z h b1 "java/util/ArrayList" ∧ Fld Z h b1 "java/util/AbstractList" "modCount" "I" (.int (1 : Int32)) ∧ Fld Z h b1 "java/util/ArrayList" "elementData" "[Ljava/lang/Object;" (.ref b9144) ∧ Fld Z h b1 "java/util/ArrayList" "size" "I" (.int (0 : Int32)) ∧ AryR Z h b9144 "java/lang/Object" 10 (fun _ => Value.null) ∧ n0 ≤ b9144 ∧ h0.size ≤ b9144
abbrev Las910_0 (b1 : Addr) : Array Slot := #[.val (.ref b1), .val (.int (1 : Int32)), .val (.int (0 : Int32)), .unset]
set_option maxRecDepth 65536 in
set_option maxHeartbeats 40000000 in
theorem rm10s9 (l : Launch) (Z : State) (a0 : Array Value) (hw : ∀ d ∈ tables_1, d.before a0 Z = true) (ws : List Jvm.Cond) (eE : Addr) (b1 : Addr) (h0 : Heap) (n0 : Nat) (Z0 : n0 ≤ h0.size) (O_E : Sta Z Z.heap "java/util/ArrayList" "DEFAULTCAPACITY_EMPTY_ELEMENTDATA" "[Ljava/lang/Object;" (.ref eE)) (OA_E : Ary Z Z.heap eE (.object "java/lang/Object") 0 (fun _ => .null)) (Old0 : Old Z n0 h0) (E_b1 : Exa Z h0 b1 "java/util/ArrayList") (F_modCount_b1 : Fld Z h0 b1 "java/util/AbstractList" "modCount" "I" (.int (1 : Int32))) (F_elementData_b1 : Fld Z h0 b1 "java/util/ArrayList" "elementData" "[Ljava/lang/Object;" (.ref eE)) (F_size_b1 : Fld Z h0 b1 "java/util/ArrayList" "size" "I" (.int (0 : Int32))) (g_b1 : n0 ≤ b1) :
    MetFree l Y6 (head1 (Jvm.Cond.code Y6 jdk_38_method_6_code 4 (some (.array (.object "java/lang/Object"))) :: ws) ({ frames := 1, cells := 1, slots := 10, locals := 14 } : Room)) (fun a U => a = #[(.ref b1), (.int (1 : Int32))] ∧ Z.Warmed39 U.vm ∧ U.heap = h0) (fun _ _ _ _ _ => True) (fun _ U o U' => ∃ v L, o = .returned v ∧ (Q10s9 Z eE b1 h0 n0) v U'.heap L ∧ FrameEnd U o U' L ({ frames := 1, cells := 1, slots := 10, locals := 14 } : Room).cells ({ frames := 1, cells := 1, slots := 10, locals := 14 } : Room).slots) :=
  own_met (ret := (some (.array (.object "java/lang/Object")))) (Q := (Q10s9 Z eE b1 h0 n0)) (plainFor_of_name pn_10) (fun m => ef_10 m b1 (1 : Int32)) (fun p e s m below meth c T0 X0 hx hby hml hown hnm hZ e0 => by
  have N0 := Fr.nil n0
  refine ost (mkF m 1 #[.val (.ref b1), .val (.int (1 : Int32)), .unset, .unset] [(.ref b1)]) X0 (fun t k => XS.aloadN X0.here hx rfl (hb hby d10_0) rfl rfl k) ?_
  obtain ⟨T9140, X9140, e9140, st9140⟩ := getF X0 hx hZ hown (host := "") (Or.inl (hw _ (wm 24 rfl))) Via.refl e0 F_elementData_b1 (g := (mkF m 1 #[.val (.ref b1), .val (.int (1 : Int32)), .unset, .unset] [(.ref b1)])) rfl rfl (hb hby d10_1)
  refine ost (mkF m 4 #[.val (.ref b1), .val (.int (1 : Int32)), .unset, .unset] [(.ref eE)]) X9140 (fun t k => st9140 _ k) ?_
  refine ost (mkF m 5 #[.val (.ref b1), .val (.int (1 : Int32)), .unset, .unset] [(.int (0 : Int32))]) X9140 (fun t k => own_len X9140 hx hZ e9140 (Ary.old OA_E Old0) (g := (mkF m 4 #[.val (.ref b1), .val (.int (1 : Int32)), .unset, .unset] [(.ref eE)])) rfl rfl (hb hby d10_4) _ k) ?_
  refine ost (mkF m 6 (Las910_0 b1) []) X9140 (fun t k => XS.istoreN X9140.here hx rfl (hb hby d10_5) rfl (l' := (Las910_0 b1)) rfl k) ?_
  refine ost (mkF m 7 (Las910_0 b1) [(.int (0 : Int32))]) X9140 (fun t k => XS.iloadN X9140.here hx rfl (hb hby d10_6) rfl k) ?_
  refine ost (mkF m 10 (Las910_0 b1) []) X9140 (fun t k => XS.ifNo X9140.here hx rfl (hb hby d10_7) rfl ((if0 _ _).trans (flt (show ¬ ((0 : Int32) < (0 : Int32)) by first | decide | exact Int32.lt_irrefl _ | exact Int64.lt_irrefl _)).2.2.1) k) ?_
  refine ost (mkF m 11 (Las910_0 b1) [(.ref b1)]) X9140 (fun t k => XS.aloadN X9140.here hx rfl (hb hby d10_10) rfl rfl k) ?_
  obtain ⟨T9141, X9141, e9141, st9141⟩ := getF X9140 hx hZ hown (host := "") (Or.inl (hw _ (wm 24 rfl))) Via.refl e9140 F_elementData_b1 (g := (mkF m 11 (Las910_0 b1) [(.ref b1)])) rfl rfl (hb hby d10_11)
  refine ost (mkF m 14 (Las910_0 b1) [(.ref eE)]) X9141 (fun t k => st9141 _ k) ?_
  obtain ⟨T9142, X9142, e9142, st9142⟩ := getS2 X9141 hx hZ hown (host := "") (Or.inl (hw _ (wm 23 rfl))) Via.refl e9141 (O_E.ext (Old0).2) (g := (mkF m 14 (Las910_0 b1) [(.ref eE)])) rfl (hb hby d10_14)
  refine ost (mkF m 17 (Las910_0 b1) [(.ref eE), (.ref eE)]) X9142 (fun t k => st9142 _ k) ?_
  refine ost (mkF m 45 (Las910_0 b1) []) X9142 (fun t k => acmp X9142 hx rfl rfl rfl (pc0 := 17) (pc' := 45) (same := true) rfl (hb hby d10_17) rfl (by simp) (by decide) (by decide) k) ?_
  refine ost (mkF m 46 (Las910_0 b1) [(.ref b1)]) X9142 (fun t k => XS.aloadN X9142.here hx rfl (hb hby d10_45) rfl rfl k) ?_
  refine ost (mkF m 48 (Las910_0 b1) [(.int (10 : Int32)), (.ref b1)]) X9142 (fun t k => XS.bipush X9142.here hx rfl (hb hby d10_46) k) ?_
  refine ost (mkF m 49 (Las910_0 b1) [(.int (1 : Int32)), (.int (10 : Int32)), (.ref b1)]) X9142 (fun t k => XS.iloadN X9142.here hx rfl (hb hby d10_48) rfl k) ?_
  obtain ⟨_, T9143, L9143, X9143, ⟨rfl, f9143, N9143q⟩, st9143⟩ := own_callS X9142 hx hZ (y := Y5) (W := 1) (argsL := [(.int (10 : Int32)), (.int (1 : Int32))]) (rest := [(.ref b1)]) hown (hw _ (wm 82 rfl)) (hw _ (wm 83 rfl)) (hw _ (wm 84 rfl)) (hw _ (wm 85 rfl)) (by decide) (rm11 l Z a0 hw [] (10 : Int32) (1 : Int32) h0 n0 Z0) (by decide) (by decide) (by decide) (by decide) e9142 (g := (mkF m 49 (Las910_0 b1) [(.int (1 : Int32)), (.int (10 : Int32)), (.ref b1)])) rfl (by rw [hml]; rfl) pd_2 rfl rfl (by show 2 * 0 + _ ≤ _; exact Nat.le_of_eq rfl) (hb hby d10_49)
  have N9143 := Fr.app N0 N9143q
  rw [show (r11 (10 : Int32) (1 : Int32)) = (10 : Int32) from by decide] at st9143
  refine ost (mkF m 52 (Las910_0 b1) [(.int (10 : Int32)), (.ref b1)]) X9143 (fun t k => st9143 _ k) ?_
  obtain ⟨T9144, h9144, b9144, X9144, e9144, y9144, K9144, A9144, st9144⟩ := own_newR X9143 hx hZ hown (hw _ (wm 86 rfl)) (hw _ (wm 87 rfl)) f9143 (g := (mkF m 52 (Las910_0 b1) [(.int (10 : Int32)), (.ref b1)])) rfl (hb hby d10_52) rfl (by decide) (cap := 10) (by decide) (by decide) (by decide) (by decide)
  have ne_b1_b9144 : b1 ≠ b9144 := Exa.neS E_b1 y9144
  have g_b9144 : n0 ≤ b9144 := by rw [y9144]; exact Z0
  have sz_b9144 : h0.size ≤ b9144 := by rw [y9144]; exact Nat.le_refl h0.size
  have Z9144 := Nat.le_trans Z0 K9144.1
  have S9144 := Nat.le_trans (Nat.le_refl h0.size) K9144.1
  have B9144 : AryR Z h9144 b9144 "java/lang/Object" 10 (fun _ => Value.null) := A9144
  refine ost (mkF m 55 (Las910_0 b1) [(.ref b9144), (.ref b1)]) X9144 (fun t k => st9144 _ k) ?_
  refine ost (mkF m 56 (Las910_0 b1) [(.ref b9144), (.ref b1), (.ref b9144)]) X9144 (fun t k => XT.dupX1 X9144.here hx rfl (hb hby d10_55) rfl rfl rfl k) ?_
  have E9145 := (Exa.keep E_b1 K9144)
  have F9146 := (F_modCount_b1.keep K9144 nin0)
  have F9147 := (F_elementData_b1.keep K9144 nin0)
  have F9148 := (F_size_b1.keep K9144 nin0)
  obtain ⟨T9149, h9149, L9149, X9149, e9149, N9149, W9149, F9149, st9149⟩ := own_putF X9144 hx hZ hown (hw _ (wm 24 rfl)) e9144 N9143 F9147 E9145 g_b1 (Or.inl (hw _ (wm 25 rfl))) (hw _ (wm 1 rfl)) (fty := (.array (.object "java/lang/Object"))) (by decide) rfl rfl (g := (mkF m 56 (Las910_0 b1) [(.ref b9144), (.ref b1), (.ref b9144)])) rfl rfl (hb hby d10_56)
  have K9149 := Keep.of_wr W9149
  have Z9149 := Nat.le_trans Z9144 K9149.1
  have S9149 := Nat.le_trans S9144 K9149.1
  have F9150 := Fld.other W9149 F9146 (Or.inr (slot_ne (Or.inl (hw _ (wm 22 rfl))) (Or.inl (hw _ (wm 25 rfl))) (by decide) (t := .int) (t' := (.array (.object "java/lang/Object"))) (by decide) (by decide)))
  have F9151 := Fld.other W9149 F9148 (Or.inr (slot_ne (Or.inl (hw _ (wm 66 rfl))) (Or.inl (hw _ (wm 25 rfl))) (by decide) (t := .int) (t' := (.array (.object "java/lang/Object"))) (by decide) (by decide)))
  have E9152 := Exa.wr W9149 E9145
  refine ost (mkF m 59 (Las910_0 b1) [(.ref b9144)]) X9149 (fun t k => st9149 _ k) ?_
  have A9153 := (B9144.keep K9149 (ninS (Ne.symm ne_b1_b9144) nin0))
  refine OwnFin.retRef X9149 rfl rfl rfl (hb hby d10_59) (by decide) (by decide) ?_
  rw [e9149]
  exact ⟨b9144, rfl, N9149, (Keep.trans (Keep.trans (Keep.refl h0 [b1]) K9144 all0) K9149 (allS (Or.inl (wm 0 rfl)) all0)), E9152, F9150, F9149, F9151, A9153, g_b9144, sz_b9144⟩)
def Q9s8 (Z : State) (eE : Addr) (b1 : Addr) (h0 : Heap) (n0 : Nat) : Option Value → Heap → List Loc → Prop := fun v h L => ∃ b9144 : Addr, v = some (.ref b9144) ∧ Fr n0 L ∧ Keep h0 h [b1] ∧ Exa Z h b1 "java/util/ArrayList" ∧ Fld Z h b1 "java/util/AbstractList" "modCount" "I" (.int (1 : Int32)) ∧ Fld Z h b1 "java/util/ArrayList" "elementData" "[Ljava/lang/Object;" (.ref b9144) ∧ Fld Z h b1 "java/util/ArrayList" "size" "I" (.int (0 : Int32)) ∧ AryR Z h b9144 "java/lang/Object" 10 (fun _ => Value.null) ∧ n0 ≤ b9144 ∧ h0.size ≤ b9144
set_option maxRecDepth 65536 in
set_option maxHeartbeats 40000000 in
theorem rm9s8 (l : Launch) (Z : State) (a0 : Array Value) (hw : ∀ d ∈ tables_1, d.before a0 Z = true) (ws : List Jvm.Cond) (eE : Addr) (b1 : Addr) (h0 : Heap) (n0 : Nat) (Z0 : n0 ≤ h0.size) (O_E : Sta Z Z.heap "java/util/ArrayList" "DEFAULTCAPACITY_EMPTY_ELEMENTDATA" "[Ljava/lang/Object;" (.ref eE)) (OA_E : Ary Z Z.heap eE (.object "java/lang/Object") 0 (fun _ => .null)) (Old0 : Old Z n0 h0) (E_b1 : Exa Z h0 b1 "java/util/ArrayList") (F_modCount_b1 : Fld Z h0 b1 "java/util/AbstractList" "modCount" "I" (.int (1 : Int32))) (F_elementData_b1 : Fld Z h0 b1 "java/util/ArrayList" "elementData" "[Ljava/lang/Object;" (.ref eE)) (F_size_b1 : Fld Z h0 b1 "java/util/ArrayList" "size" "I" (.int (0 : Int32))) (g_b1 : n0 ≤ b1) :
    MetFree l Y7 (head1 (Jvm.Cond.code Y7 jdk_38_method_7_code 1 (some (.array (.object "java/lang/Object"))) :: ws) ({ frames := 2, cells := 1, slots := 10, locals := 29 } : Room)) (fun a U => a = #[(.ref b1)] ∧ Z.Warmed39 U.vm ∧ U.heap = h0) (fun _ _ _ _ _ => True) (fun _ U o U' => ∃ v L, o = .returned v ∧ (Q9s8 Z eE b1 h0 n0) v U'.heap L ∧ FrameEnd U o U' L ({ frames := 2, cells := 1, slots := 10, locals := 29 } : Room).cells ({ frames := 2, cells := 1, slots := 10, locals := 29 } : Room).slots) :=
  own_met (ret := (some (.array (.object "java/lang/Object")))) (Q := (Q9s8 Z eE b1 h0 n0)) (plainFor_of_name pn_9) (fun m => ef_9 m b1) (fun p e s m below meth c T0 X0 hx hby hml hown hnm hZ e0 => by
  have N0 := Fr.nil n0
  refine ost (mkF m 1 #[.val (.ref b1)] [(.ref b1)]) X0 (fun t k => XS.aloadN X0.here hx rfl (hb hby d9_0) rfl rfl k) ?_
  refine ost (mkF m 2 #[.val (.ref b1)] [(.ref b1), (.ref b1)]) X0 (fun t k => XS.aloadN X0.here hx rfl (hb hby d9_1) rfl rfl k) ?_
  obtain ⟨T8138, X8138, e8138, st8138⟩ := getF X0 hx hZ hown (host := "") (Or.inl (hw _ (wm 65 rfl))) Via.refl e0 F_size_b1 (g := (mkF m 2 #[.val (.ref b1)] [(.ref b1), (.ref b1)])) rfl rfl (hb hby d9_2)
  refine ost (mkF m 5 #[.val (.ref b1)] [(.int (0 : Int32)), (.ref b1)]) X8138 (fun t k => st8138 _ k) ?_
  refine ost (mkF m 6 #[.val (.ref b1)] [(.int (1 : Int32)), (.int (0 : Int32)), (.ref b1)]) X8138 (fun t k => XS.iconst X8138.here hx rfl (hb hby d9_5) k) ?_
  refine ost (mkF m 7 #[.val (.ref b1)] [(.int (1 : Int32)), (.ref b1)]) X8138 (fun t k => XS.iadd X8138.here hx rfl (hb hby d9_6) rfl k) ?_
  obtain ⟨_, T8139, L8139, X8139, ⟨b9144, rfl, N8139q, u9164, u9165, u9166, u9167, u9168, u9169, u9170, u9171⟩, st8139⟩ := own_callP X8138 hx hZ (y := Y6) (W := 0) (a := b1) (argsL := [(.int (1 : Int32))]) (rest := []) hown (hw _ (wm 77 rfl)) (hw _ (wm 61 rfl)) rfl (hw _ (wm 78 rfl)) (hw _ (wm 79 rfl)) (hw _ (wm 2 rfl)) (hw _ (wm 81 rfl)) (by decide) E_b1 (rm10s9 l Z a0 hw [] eE b1 h0 n0 Z0 O_E OA_E Old0 E_b1 F_modCount_b1 F_elementData_b1 F_size_b1 g_b1) (by decide) (by decide) (by decide) (by decide) e8138 (g := (mkF m 7 #[.val (.ref b1)] [(.int (1 : Int32)), (.ref b1)])) rfl (by rw [hml]; rfl) pd_3 rfl rfl (by show 2 * 0 + _ ≤ _; exact Nat.le_of_eq rfl) (hb hby d9_7)
  have N8139 := Fr.app N0 N8139q
  obtain ⟨h8139, e8139⟩ : ∃ z, T8139.heap = z := ⟨_, rfl⟩
  rw [e8139] at u9164 u9165 u9166 u9167 u9168 u9169
  have K8139 := u9164
  have Z8139 := Nat.le_trans Z0 K8139.1
  have S8139 := Nat.le_trans (Nat.le_refl h0.size) K8139.1
  have ne_b1_b9144 : b1 ≠ b9144 := Nat.ne_of_lt (Nat.lt_of_lt_of_le (E_b1).lt u9171)
  have sz_b9144 : h0.size ≤ b9144 := Nat.le_trans (Nat.le_refl h0.size) u9171
  refine ost (mkF m 10 #[.val (.ref b1)] [(.ref b9144)]) X8139 (fun t k => st8139 _ k) ?_
  refine OwnFin.retRef X8139 rfl rfl rfl (hb hby d9_10) (by decide) (by decide) ?_
  rw [e8139]
  exact ⟨b9144, rfl, N8139, (Keep.trans (Keep.refl h0 [b1]) K8139 (allS (Or.inl (wm 0 rfl)) all0)), u9165, u9166, u9167, u9168, u9169, u9170, sz_b9144⟩)
def Q8s7 (Z : State) (eE : Addr) (b1 : Addr) (b3058 : Addr) (h0 : Heap) (n0 : Nat) : Option Value → Heap → List Loc → Prop := fun v h L => ∃ b9144 : Addr, v = none ∧ Fr n0 L ∧ Keep h0 h [b1] ∧ Exa Z h b1 "java/util/ArrayList" ∧ Fld Z h b1 "java/util/AbstractList" "modCount" "I" (.int (1 : Int32)) ∧ Fld Z h b1 "java/util/ArrayList" "elementData" "[Ljava/lang/Object;" (.ref b9144) ∧ Fld Z h b1 "java/util/ArrayList" "size" "I" (.int (1 : Int32)) ∧ AryR Z h b9144 "java/lang/Object" 10 (updN (fun _ => Value.null) ((0 : Int32)).toNatClampNeg (Value.ref b3058)) ∧ n0 ≤ b9144 ∧ h0.size ≤ b9144
abbrev Las78_0 (b1 : Addr) (b3058 : Addr) (eE : Addr) : Array Slot := #[.val (.ref b1), .val (.ref b3058), .val (.ref eE), .val (.int (0 : Int32))]
abbrev Las78_1 (b1 : Addr) (b3058 : Addr) (b9144 : Addr) : Array Slot := #[.val (.ref b1), .val (.ref b3058), .val (.ref b9144), .val (.int (0 : Int32))]
set_option maxRecDepth 65536 in
set_option maxHeartbeats 40000000 in
theorem rm8s7 (l : Launch) (Z : State) (a0 : Array Value) (hw : ∀ d ∈ tables_1, d.before a0 Z = true) (ws : List Jvm.Cond) (eE : Addr) (b1 : Addr) (b3058 : Addr) (h0 : Heap) (n0 : Nat) (Z0 : n0 ≤ h0.size) (O_E : Sta Z Z.heap "java/util/ArrayList" "DEFAULTCAPACITY_EMPTY_ELEMENTDATA" "[Ljava/lang/Object;" (.ref eE)) (OA_E : Ary Z Z.heap eE (.object "java/lang/Object") 0 (fun _ => .null)) (Old0 : Old Z n0 h0) (E_b1 : Exa Z h0 b1 "java/util/ArrayList") (F_modCount_b1 : Fld Z h0 b1 "java/util/AbstractList" "modCount" "I" (.int (1 : Int32))) (F_elementData_b1 : Fld Z h0 b1 "java/util/ArrayList" "elementData" "[Ljava/lang/Object;" (.ref eE)) (F_size_b1 : Fld Z h0 b1 "java/util/ArrayList" "size" "I" (.int (0 : Int32))) (g_b1 : n0 ≤ b1) (E_b3058 : Exa Z h0 b3058 "com/example/ken2/ken2/InterpretedSystem$Variable") :
    MetFree l Y8 (head1 (Jvm.Cond.code Y8 jdk_38_method_24_code 4 none :: ws) ({ frames := 3, cells := 1, slots := 10, locals := 41 } : Room)) (fun a U => a = #[(.ref b1), (.ref b3058), (.ref eE), (.int (0 : Int32))] ∧ Z.Warmed39 U.vm ∧ U.heap = h0) (fun _ _ _ _ _ => True) (fun _ U o U' => ∃ v L, o = .returned v ∧ (Q8s7 Z eE b1 b3058 h0 n0) v U'.heap L ∧ FrameEnd U o U' L ({ frames := 3, cells := 1, slots := 10, locals := 41 } : Room).cells ({ frames := 3, cells := 1, slots := 10, locals := 41 } : Room).slots) :=
  own_met (ret := none) (Q := (Q8s7 Z eE b1 b3058 h0 n0)) (plainFor_of_name pn_8) (fun m => ef_8 m b1 b3058 eE (0 : Int32)) (fun p e s m below meth c T0 X0 hx hby hml hown hnm hZ e0 => by
  have N0 := Fr.nil n0
  refine ost (mkF m 1 (Las78_0 b1 b3058 eE) [(.int (0 : Int32))]) X0 (fun t k => XS.iloadN X0.here hx rfl (hb hby d8_0) rfl k) ?_
  refine ost (mkF m 2 (Las78_0 b1 b3058 eE) [(.ref eE), (.int (0 : Int32))]) X0 (fun t k => XS.aloadN X0.here hx rfl (hb hby d8_1) rfl rfl k) ?_
  refine ost (mkF m 3 (Las78_0 b1 b3058 eE) [(.int (0 : Int32)), (.int (0 : Int32))]) X0 (fun t k => own_len X0 hx hZ e0 (Ary.old OA_E Old0) (g := (mkF m 2 (Las78_0 b1 b3058 eE) [(.ref eE), (.int (0 : Int32))])) rfl rfl (hb hby d8_2) _ k) ?_
  refine ost (mkF m 6 (Las78_0 b1 b3058 eE) []) X0 (fun t k => XS.icmpNo X0.here hx rfl (hb hby d8_3) rfl (teq (show (0 : Int32) = (0 : Int32) by first | rfl | decide)).2 k) ?_
  refine ost (mkF m 7 (Las78_0 b1 b3058 eE) [(.ref b1)]) X0 (fun t k => XS.aloadN X0.here hx rfl (hb hby d8_6) rfl rfl k) ?_
  obtain ⟨_, T7137, L7137, X7137, ⟨b9144, rfl, N7137q, u9182, u9183, u9184, u9185, u9186, u9187, u9188, u9189⟩, st7137⟩ := own_callP X0 hx hZ (y := Y7) (W := 0) (a := b1) (argsL := []) (rest := []) hown (hw _ (wm 72 rfl)) (hw _ (wm 61 rfl)) rfl (hw _ (wm 73 rfl)) (hw _ (wm 74 rfl)) (hw _ (wm 2 rfl)) (hw _ (wm 76 rfl)) (by decide) E_b1 (rm9s8 l Z a0 hw [] eE b1 h0 n0 Z0 O_E OA_E Old0 E_b1 F_modCount_b1 F_elementData_b1 F_size_b1 g_b1) (by decide) (by decide) (by decide) (by decide) e0 (g := (mkF m 7 (Las78_0 b1 b3058 eE) [(.ref b1)])) rfl (by rw [hml]; rfl) pd_4 rfl rfl (by show 2 * 0 + _ ≤ _; exact Nat.le_of_eq rfl) (hb hby d8_7)
  have N7137 := Fr.app N0 N7137q
  obtain ⟨h7137, e7137⟩ : ∃ z, T7137.heap = z := ⟨_, rfl⟩
  rw [e7137] at u9182 u9183 u9184 u9185 u9186 u9187
  have K7137 := u9182
  have Z7137 := Nat.le_trans Z0 K7137.1
  have S7137 := Nat.le_trans (Nat.le_refl h0.size) K7137.1
  have ne_b1_b9144 : b1 ≠ b9144 := Nat.ne_of_lt (Nat.lt_of_lt_of_le (E_b1).lt u9189)
  have ne_b3058_b9144 : b3058 ≠ b9144 := Nat.ne_of_lt (Nat.lt_of_lt_of_le (E_b3058).lt u9189)
  have sz_b9144 : h0.size ≤ b9144 := Nat.le_trans (Nat.le_refl h0.size) u9189
  refine ost (mkF m 10 (Las78_0 b1 b3058 eE) [(.ref b9144)]) X7137 (fun t k => st7137 _ k) ?_
  refine ost (mkF m 11 (Las78_1 b1 b3058 b9144) []) X7137 (fun t k => XS.astoreN X7137.here hx rfl (hb hby d8_10) rfl rfl (l' := (Las78_1 b1 b3058 b9144)) rfl k) ?_
  refine ost (mkF m 12 (Las78_1 b1 b3058 b9144) [(.ref b9144)]) X7137 (fun t k => XS.aloadN X7137.here hx rfl (hb hby d8_11) rfl rfl k) ?_
  refine ost (mkF m 13 (Las78_1 b1 b3058 b9144) [(.int (0 : Int32)), (.ref b9144)]) X7137 (fun t k => XS.iloadN X7137.here hx rfl (hb hby d8_12) rfl k) ?_
  refine ost (mkF m 14 (Las78_1 b1 b3058 b9144) [(.ref b3058), (.int (0 : Int32)), (.ref b9144)]) X7137 (fun t k => XS.aloadN X7137.here hx rfl (hb hby d8_13) rfl rfl k) ?_
  have E9191 := (Exa.keep E_b3058 K7137)
  obtain ⟨T9190, h9190, L9190, X9190, e9190, N9190, K9190, A9190, st9190⟩ := own_stA X7137 hx hZ e7137 N7137 (G := (fun _ => Value.null)) u9187 u9188 (j := (0 : Int32)) (v := (.ref b3058)) (by decide) (own_sto u9187 E9191 (hw _ (wm 88 rfl))) (g := (mkF m 14 (Las78_1 b1 b3058 b9144) [(.ref b3058), (.int (0 : Int32)), (.ref b9144)])) rfl rfl (hb hby d8_14)
  have Z9190 := Nat.le_trans Z7137 K9190.1
  have S9190 := Nat.le_trans S7137 K9190.1
  refine ost (mkF m 15 (Las78_1 b1 b3058 b9144) []) X9190 (fun t k => st9190 _ k) ?_
  refine ost (mkF m 16 (Las78_1 b1 b3058 b9144) [(.ref b1)]) X9190 (fun t k => XS.aloadN X9190.here hx rfl (hb hby d8_15) rfl rfl k) ?_
  refine ost (mkF m 17 (Las78_1 b1 b3058 b9144) [(.int (0 : Int32)), (.ref b1)]) X9190 (fun t k => XS.iloadN X9190.here hx rfl (hb hby d8_16) rfl k) ?_
  refine ost (mkF m 18 (Las78_1 b1 b3058 b9144) [(.int (1 : Int32)), (.int (0 : Int32)), (.ref b1)]) X9190 (fun t k => XS.iconst X9190.here hx rfl (hb hby d8_17) k) ?_
  refine ost (mkF m 19 (Las78_1 b1 b3058 b9144) [(.int (1 : Int32)), (.ref b1)]) X9190 (fun t k => XS.iadd X9190.here hx rfl (hb hby d8_18) rfl k) ?_
  have E9192 := (Exa.keep u9183 K9190)
  have F9193 := (u9184.keep K9190 (ninS ne_b1_b9144 nin0))
  have F9194 := (u9185.keep K9190 (ninS ne_b1_b9144 nin0))
  have F9195 := (u9186.keep K9190 (ninS ne_b1_b9144 nin0))
  obtain ⟨T9196, h9196, L9196, X9196, e9196, N9196, W9196, F9196, st9196⟩ := own_putF X9190 hx hZ hown (hw _ (wm 65 rfl)) e9190 N9190 F9195 E9192 g_b1 (Or.inl (hw _ (wm 66 rfl))) (hw _ (wm 1 rfl)) (fty := .int) (by decide) rfl rfl (g := (mkF m 19 (Las78_1 b1 b3058 b9144) [(.int (1 : Int32)), (.ref b1)])) rfl rfl (hb hby d8_19)
  have K9196 := Keep.of_wr W9196
  have Z9196 := Nat.le_trans Z9190 K9196.1
  have S9196 := Nat.le_trans S9190 K9196.1
  have F9197 := Fld.other W9196 F9193 (Or.inr (slot_ne (Or.inl (hw _ (wm 22 rfl))) (Or.inl (hw _ (wm 66 rfl))) (by decide) (t := .int) (t' := .int) (by decide) (by decide)))
  have F9198 := Fld.other W9196 F9194 (Or.inr (slot_ne (Or.inl (hw _ (wm 25 rfl))) (Or.inl (hw _ (wm 66 rfl))) (by decide) (t := (.array (.object "java/lang/Object"))) (t' := .int) (by decide) (by decide)))
  have E9199 := Exa.wr W9196 E9192
  refine ost (mkF m 22 (Las78_1 b1 b3058 b9144) []) X9196 (fun t k => st9196 _ k) ?_
  have A9200 := (A9190.keep K9196 (ninS (Ne.symm ne_b1_b9144) nin0))
  refine OwnFin.retVoid X9196 (hb hby d8_22) (by decide) (by decide) ?_
  rw [e9196]
  exact ⟨b9144, rfl, N9196, (Keep.trans (Keep.trans (Keep.trans (Keep.refl h0 [b1]) K7137 (allS (Or.inl (wm 0 rfl)) all0)) K9190 (allS (Or.inr sz_b9144) all0)) K9196 (allS (Or.inl (wm 0 rfl)) all0)), E9199, F9197, F9198, F9196, A9200, u9188, sz_b9144⟩)
def Q7s6 (Z : State) (eE : Addr) (b1 : Addr) (b3058 : Addr) (h0 : Heap) (n0 : Nat) : Option Value → Heap → List Loc → Prop := fun v h L => ∃ b9144 : Addr, v = some (.int (nar .boolean (1 : Int32))) ∧ Fr n0 L ∧ Keep h0 h [b1] ∧ Exa Z h b1 "java/util/ArrayList" ∧ Fld Z h b1 "java/util/AbstractList" "modCount" "I" (.int (1 : Int32)) ∧ Fld Z h b1 "java/util/ArrayList" "elementData" "[Ljava/lang/Object;" (.ref b9144) ∧ Fld Z h b1 "java/util/ArrayList" "size" "I" (.int (1 : Int32)) ∧ AryR Z h b9144 "java/lang/Object" 10 (updN (fun _ => Value.null) ((0 : Int32)).toNatClampNeg (Value.ref b3058)) ∧ n0 ≤ b9144 ∧ h0.size ≤ b9144
set_option maxRecDepth 65536 in
set_option maxHeartbeats 40000000 in
theorem rm7s6 (l : Launch) (Z : State) (a0 : Array Value) (hw : ∀ d ∈ tables_1, d.before a0 Z = true) (ws : List Jvm.Cond) (eE : Addr) (b1 : Addr) (b3058 : Addr) (h0 : Heap) (n0 : Nat) (Z0 : n0 ≤ h0.size) (O_E : Sta Z Z.heap "java/util/ArrayList" "DEFAULTCAPACITY_EMPTY_ELEMENTDATA" "[Ljava/lang/Object;" (.ref eE)) (OA_E : Ary Z Z.heap eE (.object "java/lang/Object") 0 (fun _ => .null)) (Old0 : Old Z n0 h0) (E_b1 : Exa Z h0 b1 "java/util/ArrayList") (F_modCount_b1 : Fld Z h0 b1 "java/util/AbstractList" "modCount" "I" (.int (0 : Int32))) (F_elementData_b1 : Fld Z h0 b1 "java/util/ArrayList" "elementData" "[Ljava/lang/Object;" (.ref eE)) (F_size_b1 : Fld Z h0 b1 "java/util/ArrayList" "size" "I" (.int (0 : Int32))) (g_b1 : n0 ≤ b1) (E_b3058 : Exa Z h0 b3058 "com/example/ken2/ken2/InterpretedSystem$Variable") :
    MetFree l Y9 (head1 (Jvm.Cond.code Y9 jdk_38_method_25_code 2 (some .boolean) :: ws) ({ frames := 4, cells := 1, slots := 10, locals := 56 } : Room)) (fun a U => a = #[(.ref b1), (.ref b3058)] ∧ Z.Warmed39 U.vm ∧ U.heap = h0) (fun _ _ _ _ _ => True) (fun _ U o U' => ∃ v L, o = .returned v ∧ (Q7s6 Z eE b1 b3058 h0 n0) v U'.heap L ∧ FrameEnd U o U' L ({ frames := 4, cells := 1, slots := 10, locals := 56 } : Room).cells ({ frames := 4, cells := 1, slots := 10, locals := 56 } : Room).slots) :=
  own_met (ret := (some .boolean)) (Q := (Q7s6 Z eE b1 b3058 h0 n0)) (plainFor_of_name pn_7) (fun m => ef_7 m b1 b3058) (fun p e s m below meth c T0 X0 hx hby hml hown hnm hZ e0 => by
  have N0 := Fr.nil n0
  refine ost (mkF m 1 #[.val (.ref b1), .val (.ref b3058)] [(.ref b1)]) X0 (fun t k => XS.aloadN X0.here hx rfl (hb hby d7_0) rfl rfl k) ?_
  refine ost (mkF m 2 #[.val (.ref b1), .val (.ref b3058)] [(.ref b1), (.ref b1)]) X0 (fun t k => XS.dup X0.here hx rfl (hb hby d7_1) rfl rfl k) ?_
  obtain ⟨T6129, X6129, e6129, st6129⟩ := getF X0 hx hZ hown (host := "") (Or.inl (hw _ (wm 63 rfl))) (Via.of (hw _ (wm 64 rfl))) e0 F_modCount_b1 (g := (mkF m 2 #[.val (.ref b1), .val (.ref b3058)] [(.ref b1), (.ref b1)])) rfl rfl (hb hby d7_2)
  refine ost (mkF m 5 #[.val (.ref b1), .val (.ref b3058)] [(.int (0 : Int32)), (.ref b1)]) X6129 (fun t k => st6129 _ k) ?_
  refine ost (mkF m 6 #[.val (.ref b1), .val (.ref b3058)] [(.int (1 : Int32)), (.int (0 : Int32)), (.ref b1)]) X6129 (fun t k => XS.iconst X6129.here hx rfl (hb hby d7_5) k) ?_
  refine ost (mkF m 7 #[.val (.ref b1), .val (.ref b3058)] [(.int (1 : Int32)), (.ref b1)]) X6129 (fun t k => XS.iadd X6129.here hx rfl (hb hby d7_6) rfl k) ?_
  obtain ⟨T6130, h6130, L6130, X6130, e6130, N6130, W6130, F6130, st6130⟩ := own_putFV X6129 hx hZ hown (hw _ (wm 63 rfl)) (Via.of (hw _ (wm 64 rfl))) e6129 N0 F_modCount_b1 E_b1 g_b1 (Or.inl (hw _ (wm 22 rfl))) (hw _ (wm 1 rfl)) (fty := .int) (by decide) rfl rfl (g := (mkF m 7 #[.val (.ref b1), .val (.ref b3058)] [(.int (1 : Int32)), (.ref b1)])) rfl rfl (hb hby d7_7)
  have K6130 := Keep.of_wr W6130
  have Z6130 := Nat.le_trans Z0 K6130.1
  have S6130 := Nat.le_trans (Nat.le_refl h0.size) K6130.1
  have F6131 := Fld.other W6130 F_elementData_b1 (Or.inr (slot_ne (Or.inl (hw _ (wm 25 rfl))) (Or.inl (hw _ (wm 22 rfl))) (by decide) (t := (.array (.object "java/lang/Object"))) (t' := .int) (by decide) (by decide)))
  have F6132 := Fld.other W6130 F_size_b1 (Or.inr (slot_ne (Or.inl (hw _ (wm 66 rfl))) (Or.inl (hw _ (wm 22 rfl))) (by decide) (t := .int) (t' := .int) (by decide) (by decide)))
  have E6133 := Exa.wr W6130 E_b1
  refine ost (mkF m 10 #[.val (.ref b1), .val (.ref b3058)] []) X6130 (fun t k => st6130 _ k) ?_
  refine ost (mkF m 11 #[.val (.ref b1), .val (.ref b3058)] [(.ref b1)]) X6130 (fun t k => XS.aloadN X6130.here hx rfl (hb hby d7_10) rfl rfl k) ?_
  refine ost (mkF m 12 #[.val (.ref b1), .val (.ref b3058)] [(.ref b3058), (.ref b1)]) X6130 (fun t k => XS.aloadN X6130.here hx rfl (hb hby d7_11) rfl rfl k) ?_
  refine ost (mkF m 13 #[.val (.ref b1), .val (.ref b3058)] [(.ref b1), (.ref b3058), (.ref b1)]) X6130 (fun t k => XS.aloadN X6130.here hx rfl (hb hby d7_12) rfl rfl k) ?_
  obtain ⟨T6134, X6134, e6134, st6134⟩ := getF X6130 hx hZ hown (host := "") (Or.inl (hw _ (wm 24 rfl))) Via.refl e6130 F6131 (g := (mkF m 13 #[.val (.ref b1), .val (.ref b3058)] [(.ref b1), (.ref b3058), (.ref b1)])) rfl rfl (hb hby d7_13)
  refine ost (mkF m 16 #[.val (.ref b1), .val (.ref b3058)] [(.ref eE), (.ref b3058), (.ref b1)]) X6134 (fun t k => st6134 _ k) ?_
  refine ost (mkF m 17 #[.val (.ref b1), .val (.ref b3058)] [(.ref b1), (.ref eE), (.ref b3058), (.ref b1)]) X6134 (fun t k => XS.aloadN X6134.here hx rfl (hb hby d7_16) rfl rfl k) ?_
  obtain ⟨T6135, X6135, e6135, st6135⟩ := getF X6134 hx hZ hown (host := "") (Or.inl (hw _ (wm 65 rfl))) Via.refl e6134 F6132 (g := (mkF m 17 #[.val (.ref b1), .val (.ref b3058)] [(.ref b1), (.ref eE), (.ref b3058), (.ref b1)])) rfl rfl (hb hby d7_17)
  refine ost (mkF m 20 #[.val (.ref b1), .val (.ref b3058)] [(.int (0 : Int32)), (.ref eE), (.ref b3058), (.ref b1)]) X6135 (fun t k => st6135 _ k) ?_
  have Old9211 : Old Z n0 h6130 := (Old.keep Old0 K6130 (allS g_b1 all0))
  have E9212 := (Exa.keep E_b3058 K6130)
  obtain ⟨_, T6136, L6136, X6136, ⟨b9144, rfl, N6136q, u9213, u9214, u9215, u9216, u9217, u9218, u9219, u9220⟩, st6136⟩ := own_callP X6135 hx hZ (y := Y8) (W := 0) (a := b1) (argsL := [(.ref b3058), (.ref eE), (.int (0 : Int32))]) (rest := []) hown (hw _ (wm 67 rfl)) (hw _ (wm 61 rfl)) rfl (hw _ (wm 68 rfl)) (hw _ (wm 69 rfl)) (hw _ (wm 2 rfl)) (hw _ (wm 71 rfl)) (by decide) E6133 (rm8s7 l Z a0 hw [] eE b1 b3058 h6130 n0 Z6130 O_E OA_E Old9211 E6133 F6130 F6131 F6132 g_b1 E9212) (by decide) (by decide) (by decide) (by decide) e6135 (g := (mkF m 20 #[.val (.ref b1), .val (.ref b3058)] [(.int (0 : Int32)), (.ref eE), (.ref b3058), (.ref b1)])) rfl (by rw [hml]; rfl) pd_5 rfl rfl (by show 2 * 0 + _ ≤ _; exact Nat.le_of_eq rfl) (hb hby d7_20)
  have N6136 := Fr.app N6130 N6136q
  obtain ⟨h6136, e6136⟩ : ∃ z, T6136.heap = z := ⟨_, rfl⟩
  rw [e6136] at u9213 u9214 u9215 u9216 u9217 u9218
  have K6136 := u9213
  have Z6136 := Nat.le_trans Z6130 K6136.1
  have S6136 := Nat.le_trans S6130 K6136.1
  have ne_b1_b9144 : b1 ≠ b9144 := Nat.ne_of_lt (Nat.lt_of_lt_of_le (E6133).lt u9220)
  have ne_b3058_b9144 : b3058 ≠ b9144 := Nat.ne_of_lt (Nat.lt_of_lt_of_le (E9212).lt u9220)
  have sz_b9144 : h0.size ≤ b9144 := Nat.le_trans S6130 u9220
  refine ost (mkF m 23 #[.val (.ref b1), .val (.ref b3058)] []) X6136 (fun t k => st6136 _ k) ?_
  refine ost (mkF m 24 #[.val (.ref b1), .val (.ref b3058)] [(.int (1 : Int32))]) X6136 (fun t k => XS.iconst X6136.here hx rfl (hb hby d7_23) k) ?_
  refine OwnFin.retNar X6136 (by simp) (hb hby d7_24) (by decide) (by decide) ?_
  rw [e6136]
  exact ⟨b9144, rfl, N6136, (Keep.trans (Keep.trans (Keep.refl h0 [b1]) K6130 (allS (Or.inl (wm 0 rfl)) all0)) K6136 (allS (Or.inl (wm 0 rfl)) all0)), u9214, u9215, u9216, u9217, u9218, u9219, sz_b9144⟩)
def Q6s5 (Z : State) (b3058 : Addr) (h0 : Heap) (n0 : Nat) : Option Value → Heap → List Loc → Prop := fun v h L => v = none ∧ Fr n0 L ∧ h = h0
set_option maxRecDepth 65536 in
set_option maxHeartbeats 40000000 in
theorem rm6s5 (l : Launch) (Z : State) (a0 : Array Value) (hw : ∀ d ∈ tables_1, d.before a0 Z = true) (ws : List Jvm.Cond) (b3058 : Addr) (h0 : Heap) (n0 : Nat) (Z0 : n0 ≤ h0.size) :
    MetFree l Y3 (head1 (Jvm.Cond.code Y3 jdk_30_method_1_code 1 none :: ws) ({ frames := 1, cells := 0, slots := 0, locals := 12 } : Room)) (fun a U => a = #[(.ref b3058)] ∧ Z.Warmed39 U.vm ∧ U.heap = h0) (fun _ _ _ _ _ => True) (fun _ U o U' => ∃ v L, o = .returned v ∧ (Q6s5 Z b3058 h0 n0) v U'.heap L ∧ FrameEnd U o U' L ({ frames := 1, cells := 0, slots := 0, locals := 12 } : Room).cells ({ frames := 1, cells := 0, slots := 0, locals := 12 } : Room).slots) :=
  own_met (ret := none) (Q := (Q6s5 Z b3058 h0 n0)) (plainFor_of_name pn_6) (fun m => ef_6 m b3058) (fun p e s m below meth c T0 X0 hx hby hml hown hnm hZ e0 => by
  have N0 := Fr.nil n0
  refine ost (mkF m 1 #[.val (.ref b3058)] [(.ref b3058)]) X0 (fun t k => XS.aloadN X0.here hx rfl (hb hby d6_0) rfl rfl k) ?_
  obtain ⟨T5063, X5063, e5063, st5063⟩ := initO X0 hx hZ hown (hw _ (wm 47 rfl)) (hw _ (wm 19 rfl)) (hw _ (wm 20 rfl)) e0 (g := (mkF m 1 #[.val (.ref b3058)] [(.ref b3058)])) rfl (by rw [hml]; rfl) rfl (hb hby d6_1) (by decide) (W := 0) (by show 2 * 0 + _ ≤ _; exact Nat.le_of_eq rfl) (by decide)
  refine ost (mkF m 4 #[.val (.ref b3058)] []) X5063 (fun t k => st5063 _ k) ?_
  refine OwnFin.retVoid X5063 (hb hby d6_4) (by decide) (by decide) ?_
  rw [e5063]
  exact ⟨rfl, N0, rfl⟩)
def Q5s4 (Z : State) (b3059 : Addr) (b3060 : Addr) (b3058 : Addr) (h0 : Heap) (n0 : Nat) : Option Value → Heap → List Loc → Prop := fun v h L => v = none ∧ Fr n0 L ∧ Keep h0 h [b3058] ∧ Exa Z h b3058 "com/example/ken2/ken2/InterpretedSystem$Variable" ∧ Fld Z h b3058 "com/example/ken2/ken2/InterpretedSystem$Variable" "agent" "Ljava/lang/String;" (.ref b3059) ∧ Fld Z h b3058 "com/example/ken2/ken2/InterpretedSystem$Variable" "name" "Ljava/lang/String;" (.ref b3060) ∧ Fld Z h b3058 "com/example/ken2/ken2/InterpretedSystem$Variable" "values" "Ljava/util/List;" .null ∧ Fld Z h b3058 "com/example/ken2/ken2/InterpretedSystem$Variable" "low" "I" (.int (0 : Int32)) ∧ Fld Z h b3058 "com/example/ken2/ken2/InterpretedSystem$Variable" "size" "I" (.int (2147483647 : Int32))
abbrev Las45_0 (b3058 : Addr) (b3059 : Addr) (b3060 : Addr) : Array Slot := #[.val (.ref b3058), .val (.ref b3059), .val (.ref b3060), .val .null, .val (.int (0 : Int32)), .val (.int (2147483647 : Int32))]
set_option maxRecDepth 65536 in
set_option maxHeartbeats 40000000 in
theorem rm5s4 (l : Launch) (Z : State) (a0 : Array Value) (hw : ∀ d ∈ tables_1, d.before a0 Z = true) (ws : List Jvm.Cond) (b3059 : Addr) (b3060 : Addr) (b3058 : Addr) (h0 : Heap) (n0 : Nat) (Z0 : n0 ≤ h0.size) (E_b3058 : Exa Z h0 b3058 "com/example/ken2/ken2/InterpretedSystem$Variable") (F_agent_b3058 : Fld Z h0 b3058 "com/example/ken2/ken2/InterpretedSystem$Variable" "agent" "Ljava/lang/String;" .null) (F_name_b3058 : Fld Z h0 b3058 "com/example/ken2/ken2/InterpretedSystem$Variable" "name" "Ljava/lang/String;" .null) (F_values_b3058 : Fld Z h0 b3058 "com/example/ken2/ken2/InterpretedSystem$Variable" "values" "Ljava/util/List;" .null) (F_low_b3058 : Fld Z h0 b3058 "com/example/ken2/ken2/InterpretedSystem$Variable" "low" "I" (.int (0 : Int32))) (F_size_b3058 : Fld Z h0 b3058 "com/example/ken2/ken2/InterpretedSystem$Variable" "size" "I" (.int (0 : Int32))) (g_b3058 : n0 ≤ b3058) :
    MetFree l Y4 (head1 (Jvm.Cond.code Y4 prog_64_method_1_code 6 none :: ws) ({ frames := 2, cells := 0, slots := 0, locals := 24 } : Room)) (fun a U => a = #[(.ref b3058), (.ref b3059), (.ref b3060), .null, (.int (0 : Int32)), (.int (2147483647 : Int32))] ∧ Z.Warmed39 U.vm ∧ U.heap = h0) (fun _ _ _ _ _ => True) (fun _ U o U' => ∃ v L, o = .returned v ∧ (Q5s4 Z b3059 b3060 b3058 h0 n0) v U'.heap L ∧ FrameEnd U o U' L ({ frames := 2, cells := 0, slots := 0, locals := 24 } : Room).cells ({ frames := 2, cells := 0, slots := 0, locals := 24 } : Room).slots) :=
  own_met (ret := none) (Q := (Q5s4 Z b3059 b3060 b3058 h0 n0)) (plainFor_of_name pn_5) (fun m => ef_5n3 m b3058 b3059 b3060 (0 : Int32) (2147483647 : Int32)) (fun p e s m below meth c T0 X0 hx hby hml hown hnm hZ e0 => by
  have N0 := Fr.nil n0
  refine ost (mkF m 1 (Las45_0 b3058 b3059 b3060) [(.ref b3058)]) X0 (fun t k => XS.aloadN X0.here hx rfl (hb hby d5_0) rfl rfl k) ?_
  obtain ⟨_, T4062, L4062, X4062, ⟨rfl, N4062q, u5074⟩, st4062⟩ := own_callI X0 hx hZ (y := Y3) (W := 0) (a := b3058) (argsL := []) (rest := []) rfl hown (hw _ (wm 42 rfl)) (hw _ (wm 43 rfl)) (hw _ (wm 45 rfl)) (hw _ (wm 46 rfl)) (by decide) (rm6s5 l Z a0 hw [] b3058 h0 n0 Z0 ) (by decide) (by decide) (by decide) (by decide) e0 (g := (mkF m 1 (Las45_0 b3058 b3059 b3060) [(.ref b3058)])) rfl (by rw [hml]; rfl) pd_0 rfl rfl (by show 2 * 0 + _ ≤ _; exact Nat.le_of_eq rfl) (hb hby d5_1)
  have N4062 := Fr.app N0 N4062q
  refine ost (mkF m 4 (Las45_0 b3058 b3059 b3060) []) X4062 (fun t k => st4062 _ k) ?_
  refine ost (mkF m 5 (Las45_0 b3058 b3059 b3060) [(.ref b3058)]) X4062 (fun t k => XS.aloadN X4062.here hx rfl (hb hby d5_4) rfl rfl k) ?_
  refine ost (mkF m 6 (Las45_0 b3058 b3059 b3060) [(.ref b3059), (.ref b3058)]) X4062 (fun t k => XS.aloadN X4062.here hx rfl (hb hby d5_5) rfl rfl k) ?_
  obtain ⟨T5075, h5075, L5075, X5075, e5075, N5075, W5075, F5075, st5075⟩ := own_putF X4062 hx hZ hown (hw _ (wm 48 rfl)) u5074 N4062 F_agent_b3058 E_b3058 g_b3058 (Or.inr ⟨(hw _ (wm 49 rfl)), rfl, hnm⟩) (hw _ (wm 27 rfl)) (fty := (.object "java/lang/String")) (by decide) rfl rfl (g := (mkF m 6 (Las45_0 b3058 b3059 b3060) [(.ref b3059), (.ref b3058)])) rfl rfl (hb hby d5_6)
  have K5075 := Keep.of_wr W5075
  have Z5075 := Nat.le_trans Z0 K5075.1
  have S5075 := Nat.le_trans (Nat.le_refl h0.size) K5075.1
  have F5076 := Fld.other W5075 F_name_b3058 (Or.inr (slot_ne (Or.inr (hw _ (wm 51 rfl))) (Or.inr (hw _ (wm 49 rfl))) (by decide) (t := (.object "java/lang/String")) (t' := (.object "java/lang/String")) (by decide) (by decide)))
  have F5077 := Fld.other W5075 F_values_b3058 (Or.inr (slot_ne (Or.inr (hw _ (wm 53 rfl))) (Or.inr (hw _ (wm 49 rfl))) (by decide) (t := (.object "java/util/List")) (t' := (.object "java/lang/String")) (by decide) (by decide)))
  have F5078 := Fld.other W5075 F_low_b3058 (Or.inr (slot_ne (Or.inr (hw _ (wm 55 rfl))) (Or.inr (hw _ (wm 49 rfl))) (by decide) (t := .int) (t' := (.object "java/lang/String")) (by decide) (by decide)))
  have F5079 := Fld.other W5075 F_size_b3058 (Or.inr (slot_ne (Or.inr (hw _ (wm 57 rfl))) (Or.inr (hw _ (wm 49 rfl))) (by decide) (t := .int) (t' := (.object "java/lang/String")) (by decide) (by decide)))
  have E5080 := Exa.wr W5075 E_b3058
  refine ost (mkF m 9 (Las45_0 b3058 b3059 b3060) []) X5075 (fun t k => st5075 _ k) ?_
  refine ost (mkF m 10 (Las45_0 b3058 b3059 b3060) [(.ref b3058)]) X5075 (fun t k => XS.aloadN X5075.here hx rfl (hb hby d5_9) rfl rfl k) ?_
  refine ost (mkF m 11 (Las45_0 b3058 b3059 b3060) [(.ref b3060), (.ref b3058)]) X5075 (fun t k => XS.aloadN X5075.here hx rfl (hb hby d5_10) rfl rfl k) ?_
  obtain ⟨T5081, h5081, L5081, X5081, e5081, N5081, W5081, F5081, st5081⟩ := own_putF X5075 hx hZ hown (hw _ (wm 50 rfl)) e5075 N5075 F5076 E5080 g_b3058 (Or.inr ⟨(hw _ (wm 51 rfl)), rfl, hnm⟩) (hw _ (wm 27 rfl)) (fty := (.object "java/lang/String")) (by decide) rfl rfl (g := (mkF m 11 (Las45_0 b3058 b3059 b3060) [(.ref b3060), (.ref b3058)])) rfl rfl (hb hby d5_11)
  have K5081 := Keep.of_wr W5081
  have Z5081 := Nat.le_trans Z5075 K5081.1
  have S5081 := Nat.le_trans S5075 K5081.1
  have F5082 := Fld.other W5081 F5075 (Or.inr (slot_ne (Or.inr (hw _ (wm 49 rfl))) (Or.inr (hw _ (wm 51 rfl))) (by decide) (t := (.object "java/lang/String")) (t' := (.object "java/lang/String")) (by decide) (by decide)))
  have F5083 := Fld.other W5081 F5077 (Or.inr (slot_ne (Or.inr (hw _ (wm 53 rfl))) (Or.inr (hw _ (wm 51 rfl))) (by decide) (t := (.object "java/util/List")) (t' := (.object "java/lang/String")) (by decide) (by decide)))
  have F5084 := Fld.other W5081 F5078 (Or.inr (slot_ne (Or.inr (hw _ (wm 55 rfl))) (Or.inr (hw _ (wm 51 rfl))) (by decide) (t := .int) (t' := (.object "java/lang/String")) (by decide) (by decide)))
  have F5085 := Fld.other W5081 F5079 (Or.inr (slot_ne (Or.inr (hw _ (wm 57 rfl))) (Or.inr (hw _ (wm 51 rfl))) (by decide) (t := .int) (t' := (.object "java/lang/String")) (by decide) (by decide)))
  have E5086 := Exa.wr W5081 E5080
  refine ost (mkF m 14 (Las45_0 b3058 b3059 b3060) []) X5081 (fun t k => st5081 _ k) ?_
  refine ost (mkF m 15 (Las45_0 b3058 b3059 b3060) [(.ref b3058)]) X5081 (fun t k => XS.aloadN X5081.here hx rfl (hb hby d5_14) rfl rfl k) ?_
  refine ost (mkF m 16 (Las45_0 b3058 b3059 b3060) [.null, (.ref b3058)]) X5081 (fun t k => XS.aloadN X5081.here hx rfl (hb hby d5_15) rfl rfl k) ?_
  obtain ⟨T5087, h5087, L5087, X5087, e5087, N5087, W5087, F5087, st5087⟩ := own_putF X5081 hx hZ hown (hw _ (wm 52 rfl)) e5081 N5081 F5083 E5086 g_b3058 (Or.inr ⟨(hw _ (wm 53 rfl)), rfl, hnm⟩) (hw _ (wm 27 rfl)) (fty := (.object "java/util/List")) (by decide) rfl rfl (g := (mkF m 16 (Las45_0 b3058 b3059 b3060) [.null, (.ref b3058)])) rfl rfl (hb hby d5_16)
  have K5087 := Keep.of_wr W5087
  have Z5087 := Nat.le_trans Z5081 K5087.1
  have S5087 := Nat.le_trans S5081 K5087.1
  have F5088 := Fld.other W5087 F5082 (Or.inr (slot_ne (Or.inr (hw _ (wm 49 rfl))) (Or.inr (hw _ (wm 53 rfl))) (by decide) (t := (.object "java/lang/String")) (t' := (.object "java/util/List")) (by decide) (by decide)))
  have F5089 := Fld.other W5087 F5081 (Or.inr (slot_ne (Or.inr (hw _ (wm 51 rfl))) (Or.inr (hw _ (wm 53 rfl))) (by decide) (t := (.object "java/lang/String")) (t' := (.object "java/util/List")) (by decide) (by decide)))
  have F5090 := Fld.other W5087 F5084 (Or.inr (slot_ne (Or.inr (hw _ (wm 55 rfl))) (Or.inr (hw _ (wm 53 rfl))) (by decide) (t := .int) (t' := (.object "java/util/List")) (by decide) (by decide)))
  have F5091 := Fld.other W5087 F5085 (Or.inr (slot_ne (Or.inr (hw _ (wm 57 rfl))) (Or.inr (hw _ (wm 53 rfl))) (by decide) (t := .int) (t' := (.object "java/util/List")) (by decide) (by decide)))
  have E5092 := Exa.wr W5087 E5086
  refine ost (mkF m 19 (Las45_0 b3058 b3059 b3060) []) X5087 (fun t k => st5087 _ k) ?_
  refine ost (mkF m 20 (Las45_0 b3058 b3059 b3060) [(.ref b3058)]) X5087 (fun t k => XS.aloadN X5087.here hx rfl (hb hby d5_19) rfl rfl k) ?_
  refine ost (mkF m 22 (Las45_0 b3058 b3059 b3060) [(.int (0 : Int32)), (.ref b3058)]) X5087 (fun t k => XS.iload X5087.here hx rfl (hb hby d5_20) rfl k) ?_
  obtain ⟨T5093, h5093, L5093, X5093, e5093, N5093, W5093, F5093, st5093⟩ := own_putF X5087 hx hZ hown (hw _ (wm 54 rfl)) e5087 N5087 F5090 E5092 g_b3058 (Or.inr ⟨(hw _ (wm 55 rfl)), rfl, hnm⟩) (hw _ (wm 27 rfl)) (fty := .int) (by decide) rfl rfl (g := (mkF m 22 (Las45_0 b3058 b3059 b3060) [(.int (0 : Int32)), (.ref b3058)])) rfl rfl (hb hby d5_22)
  have K5093 := Keep.of_wr W5093
  have Z5093 := Nat.le_trans Z5087 K5093.1
  have S5093 := Nat.le_trans S5087 K5093.1
  have F5094 := Fld.other W5093 F5088 (Or.inr (slot_ne (Or.inr (hw _ (wm 49 rfl))) (Or.inr (hw _ (wm 55 rfl))) (by decide) (t := (.object "java/lang/String")) (t' := .int) (by decide) (by decide)))
  have F5095 := Fld.other W5093 F5089 (Or.inr (slot_ne (Or.inr (hw _ (wm 51 rfl))) (Or.inr (hw _ (wm 55 rfl))) (by decide) (t := (.object "java/lang/String")) (t' := .int) (by decide) (by decide)))
  have F5096 := Fld.other W5093 F5087 (Or.inr (slot_ne (Or.inr (hw _ (wm 53 rfl))) (Or.inr (hw _ (wm 55 rfl))) (by decide) (t := (.object "java/util/List")) (t' := .int) (by decide) (by decide)))
  have F5097 := Fld.other W5093 F5091 (Or.inr (slot_ne (Or.inr (hw _ (wm 57 rfl))) (Or.inr (hw _ (wm 55 rfl))) (by decide) (t := .int) (t' := .int) (by decide) (by decide)))
  have E5098 := Exa.wr W5093 E5092
  refine ost (mkF m 25 (Las45_0 b3058 b3059 b3060) []) X5093 (fun t k => st5093 _ k) ?_
  refine ost (mkF m 26 (Las45_0 b3058 b3059 b3060) [(.ref b3058)]) X5093 (fun t k => XS.aloadN X5093.here hx rfl (hb hby d5_25) rfl rfl k) ?_
  refine ost (mkF m 28 (Las45_0 b3058 b3059 b3060) [(.int (2147483647 : Int32)), (.ref b3058)]) X5093 (fun t k => XS.iload X5093.here hx rfl (hb hby d5_26) rfl k) ?_
  obtain ⟨T5099, h5099, L5099, X5099, e5099, N5099, W5099, F5099, st5099⟩ := own_putF X5093 hx hZ hown (hw _ (wm 56 rfl)) e5093 N5093 F5097 E5098 g_b3058 (Or.inr ⟨(hw _ (wm 57 rfl)), rfl, hnm⟩) (hw _ (wm 27 rfl)) (fty := .int) (by decide) rfl rfl (g := (mkF m 28 (Las45_0 b3058 b3059 b3060) [(.int (2147483647 : Int32)), (.ref b3058)])) rfl rfl (hb hby d5_28)
  have K5099 := Keep.of_wr W5099
  have Z5099 := Nat.le_trans Z5093 K5099.1
  have S5099 := Nat.le_trans S5093 K5099.1
  have F5100 := Fld.other W5099 F5094 (Or.inr (slot_ne (Or.inr (hw _ (wm 49 rfl))) (Or.inr (hw _ (wm 57 rfl))) (by decide) (t := (.object "java/lang/String")) (t' := .int) (by decide) (by decide)))
  have F5101 := Fld.other W5099 F5095 (Or.inr (slot_ne (Or.inr (hw _ (wm 51 rfl))) (Or.inr (hw _ (wm 57 rfl))) (by decide) (t := (.object "java/lang/String")) (t' := .int) (by decide) (by decide)))
  have F5102 := Fld.other W5099 F5096 (Or.inr (slot_ne (Or.inr (hw _ (wm 53 rfl))) (Or.inr (hw _ (wm 57 rfl))) (by decide) (t := (.object "java/util/List")) (t' := .int) (by decide) (by decide)))
  have F5103 := Fld.other W5099 F5093 (Or.inr (slot_ne (Or.inr (hw _ (wm 55 rfl))) (Or.inr (hw _ (wm 57 rfl))) (by decide) (t := .int) (t' := .int) (by decide) (by decide)))
  have E5104 := Exa.wr W5099 E5098
  refine ost (mkF m 31 (Las45_0 b3058 b3059 b3060) []) X5099 (fun t k => st5099 _ k) ?_
  refine OwnFin.retVoid X5099 (hb hby d5_31) (by decide) (by decide) ?_
  rw [e5099]
  exact ⟨rfl, N5099, (Keep.trans (Keep.trans (Keep.trans (Keep.trans (Keep.trans (Keep.refl h0 [b3058]) K5075 (allS (Or.inl (wm 0 rfl)) all0)) K5081 (allS (Or.inl (wm 0 rfl)) all0)) K5087 (allS (Or.inl (wm 0 rfl)) all0)) K5093 (allS (Or.inl (wm 0 rfl)) all0)) K5099 (allS (Or.inl (wm 0 rfl)) all0)), E5104, F5100, F5101, F5102, F5103, F5099⟩)
def Q3s3 (Z : State) (b1 : Addr) (h0 : Heap) (n0 : Nat) : Option Value → Heap → List Loc → Prop := fun v h L => v = none ∧ Fr n0 L ∧ h = h0
set_option maxRecDepth 65536 in
set_option maxHeartbeats 40000000 in
theorem rm3s3 (l : Launch) (Z : State) (a0 : Array Value) (hw : ∀ d ∈ tables_1, d.before a0 Z = true) (ws : List Jvm.Cond) (b1 : Addr) (h0 : Heap) (n0 : Nat) (Z0 : n0 ≤ h0.size) :
    MetFree l Y0 (head1 (Jvm.Cond.code Y0 jdk_22_method_1_code 1 none :: ws) ({ frames := 1, cells := 0, slots := 0, locals := 12 } : Room)) (fun a U => a = #[(.ref b1)] ∧ Z.Warmed39 U.vm ∧ U.heap = h0) (fun _ _ _ _ _ => True) (fun _ U o U' => ∃ v L, o = .returned v ∧ (Q3s3 Z b1 h0 n0) v U'.heap L ∧ FrameEnd U o U' L ({ frames := 1, cells := 0, slots := 0, locals := 12 } : Room).cells ({ frames := 1, cells := 0, slots := 0, locals := 12 } : Room).slots) :=
  own_met (ret := none) (Q := (Q3s3 Z b1 h0 n0)) (plainFor_of_name pn_3) (fun m => ef_3 m b1) (fun p e s m below meth c T0 X0 hx hby hml hown hnm hZ e0 => by
  have N0 := Fr.nil n0
  refine ost (mkF m 1 #[.val (.ref b1)] [(.ref b1)]) X0 (fun t k => XS.aloadN X0.here hx rfl (hb hby d3_0) rfl rfl k) ?_
  obtain ⟨T3005, X3005, e3005, st3005⟩ := initO X0 hx hZ hown (hw _ (wm 18 rfl)) (hw _ (wm 19 rfl)) (hw _ (wm 20 rfl)) e0 (g := (mkF m 1 #[.val (.ref b1)] [(.ref b1)])) rfl (by rw [hml]; rfl) rfl (hb hby d3_1) (by decide) (W := 0) (by show 2 * 0 + _ ≤ _; exact Nat.le_of_eq rfl) (by decide)
  refine ost (mkF m 4 #[.val (.ref b1)] []) X3005 (fun t k => st3005 _ k) ?_
  refine OwnFin.retVoid X3005 (hb hby d3_4) (by decide) (by decide) ?_
  rw [e3005]
  exact ⟨rfl, N0, rfl⟩)
def Q2s2 (Z : State) (b1 : Addr) (h0 : Heap) (n0 : Nat) : Option Value → Heap → List Loc → Prop := fun v h L => v = none ∧ Fr n0 L ∧ Keep h0 h [b1] ∧ Exa Z h b1 "java/util/ArrayList" ∧ Fld Z h b1 "java/util/AbstractList" "modCount" "I" (.int (0 : Int32)) ∧ Fld Z h b1 "java/util/ArrayList" "elementData" "[Ljava/lang/Object;" .null ∧ Fld Z h b1 "java/util/ArrayList" "size" "I" (.int (0 : Int32))
set_option maxRecDepth 65536 in
set_option maxHeartbeats 40000000 in
theorem rm2s2 (l : Launch) (Z : State) (a0 : Array Value) (hw : ∀ d ∈ tables_1, d.before a0 Z = true) (ws : List Jvm.Cond) (b1 : Addr) (h0 : Heap) (n0 : Nat) (Z0 : n0 ≤ h0.size) (E_b1 : Exa Z h0 b1 "java/util/ArrayList") (F_modCount_b1 : Fld Z h0 b1 "java/util/AbstractList" "modCount" "I" (.int (0 : Int32))) (F_elementData_b1 : Fld Z h0 b1 "java/util/ArrayList" "elementData" "[Ljava/lang/Object;" .null) (F_size_b1 : Fld Z h0 b1 "java/util/ArrayList" "size" "I" (.int (0 : Int32))) (g_b1 : n0 ≤ b1) :
    MetFree l Y1 (head1 (Jvm.Cond.code Y1 jdk_39_method_1_code 1 none :: ws) ({ frames := 2, cells := 0, slots := 0, locals := 24 } : Room)) (fun a U => a = #[(.ref b1)] ∧ Z.Warmed39 U.vm ∧ U.heap = h0) (fun _ _ _ _ _ => True) (fun _ U o U' => ∃ v L, o = .returned v ∧ (Q2s2 Z b1 h0 n0) v U'.heap L ∧ FrameEnd U o U' L ({ frames := 2, cells := 0, slots := 0, locals := 24 } : Room).cells ({ frames := 2, cells := 0, slots := 0, locals := 24 } : Room).slots) :=
  own_met (ret := none) (Q := (Q2s2 Z b1 h0 n0)) (plainFor_of_name pn_2) (fun m => ef_2 m b1) (fun p e s m below meth c T0 X0 hx hby hml hown hnm hZ e0 => by
  have N0 := Fr.nil n0
  refine ost (mkF m 1 #[.val (.ref b1)] [(.ref b1)]) X0 (fun t k => XS.aloadN X0.here hx rfl (hb hby d2_0) rfl rfl k) ?_
  obtain ⟨_, T2004, L2004, X2004, ⟨rfl, N2004q, u3016⟩, st2004⟩ := own_callI X0 hx hZ (y := Y0) (W := 0) (a := b1) (argsL := []) (rest := []) rfl hown (hw _ (wm 12 rfl)) (hw _ (wm 13 rfl)) (hw _ (wm 16 rfl)) (hw _ (wm 17 rfl)) (by decide) (rm3s3 l Z a0 hw [] b1 h0 n0 Z0 ) (by decide) (by decide) (by decide) (by decide) e0 (g := (mkF m 1 #[.val (.ref b1)] [(.ref b1)])) rfl (by rw [hml]; rfl) pd_0 rfl rfl (by show 2 * 0 + _ ≤ _; exact Nat.le_of_eq rfl) (hb hby d2_1)
  have N2004 := Fr.app N0 N2004q
  refine ost (mkF m 4 #[.val (.ref b1)] []) X2004 (fun t k => st2004 _ k) ?_
  refine ost (mkF m 5 #[.val (.ref b1)] [(.ref b1)]) X2004 (fun t k => XS.aloadN X2004.here hx rfl (hb hby d2_4) rfl rfl k) ?_
  refine ost (mkF m 6 #[.val (.ref b1)] [(.int (0 : Int32)), (.ref b1)]) X2004 (fun t k => XS.iconst X2004.here hx rfl (hb hby d2_5) k) ?_
  obtain ⟨T3017, h3017, L3017, X3017, e3017, N3017, W3017, F3017, st3017⟩ := own_putF X2004 hx hZ hown (hw _ (wm 21 rfl)) u3016 N2004 F_modCount_b1 E_b1 g_b1 (Or.inl (hw _ (wm 22 rfl))) (hw _ (wm 1 rfl)) (fty := .int) (by decide) rfl rfl (g := (mkF m 6 #[.val (.ref b1)] [(.int (0 : Int32)), (.ref b1)])) rfl rfl (hb hby d2_6)
  have K3017 := Keep.of_wr W3017
  have Z3017 := Nat.le_trans Z0 K3017.1
  have S3017 := Nat.le_trans (Nat.le_refl h0.size) K3017.1
  have F3018 := Fld.other W3017 F_elementData_b1 (Or.inr (slot_ne (Or.inl (hw _ (wm 25 rfl))) (Or.inl (hw _ (wm 22 rfl))) (by decide) (t := (.array (.object "java/lang/Object"))) (t' := .int) (by decide) (by decide)))
  have F3019 := Fld.other W3017 F_size_b1 (Or.inr (slot_ne (Or.inl (hw _ (wm 66 rfl))) (Or.inl (hw _ (wm 22 rfl))) (by decide) (t := .int) (t' := .int) (by decide) (by decide)))
  have E3020 := Exa.wr W3017 E_b1
  refine ost (mkF m 9 #[.val (.ref b1)] []) X3017 (fun t k => st3017 _ k) ?_
  refine OwnFin.retVoid X3017 (hb hby d2_9) (by decide) (by decide) ?_
  rw [e3017]
  exact ⟨rfl, N3017, (Keep.trans (Keep.refl h0 [b1]) K3017 (allS (Or.inl (wm 0 rfl)) all0)), E3020, F3017, F3018, F3019⟩)
def Q1s1 (Z : State) (eE : Addr) (b1 : Addr) (h0 : Heap) (n0 : Nat) : Option Value → Heap → List Loc → Prop := fun v h L => v = none ∧ Fr n0 L ∧ Keep h0 h [b1] ∧ Exa Z h b1 "java/util/ArrayList" ∧ Fld Z h b1 "java/util/AbstractList" "modCount" "I" (.int (0 : Int32)) ∧ Fld Z h b1 "java/util/ArrayList" "elementData" "[Ljava/lang/Object;" (.ref eE) ∧ Fld Z h b1 "java/util/ArrayList" "size" "I" (.int (0 : Int32))
set_option maxRecDepth 65536 in
set_option maxHeartbeats 40000000 in
theorem rm1s1 (l : Launch) (Z : State) (a0 : Array Value) (hw : ∀ d ∈ tables_1, d.before a0 Z = true) (ws : List Jvm.Cond) (eE : Addr) (b1 : Addr) (h0 : Heap) (n0 : Nat) (Z0 : n0 ≤ h0.size) (O_E : Sta Z Z.heap "java/util/ArrayList" "DEFAULTCAPACITY_EMPTY_ELEMENTDATA" "[Ljava/lang/Object;" (.ref eE)) (Old0 : Old Z n0 h0) (E_b1 : Exa Z h0 b1 "java/util/ArrayList") (F_modCount_b1 : Fld Z h0 b1 "java/util/AbstractList" "modCount" "I" (.int (0 : Int32))) (F_elementData_b1 : Fld Z h0 b1 "java/util/ArrayList" "elementData" "[Ljava/lang/Object;" .null) (F_size_b1 : Fld Z h0 b1 "java/util/ArrayList" "size" "I" (.int (0 : Int32))) (g_b1 : n0 ≤ b1) :
    MetFree l Y2 (head1 (Jvm.Cond.code Y2 jdk_38_method_2_code 1 none :: ws) ({ frames := 3, cells := 0, slots := 0, locals := 36 } : Room)) (fun a U => a = #[(.ref b1)] ∧ Z.Warmed39 U.vm ∧ U.heap = h0) (fun _ _ _ _ _ => True) (fun _ U o U' => ∃ v L, o = .returned v ∧ (Q1s1 Z eE b1 h0 n0) v U'.heap L ∧ FrameEnd U o U' L ({ frames := 3, cells := 0, slots := 0, locals := 36 } : Room).cells ({ frames := 3, cells := 0, slots := 0, locals := 36 } : Room).slots) :=
  own_met (ret := none) (Q := (Q1s1 Z eE b1 h0 n0)) (plainFor_of_name pn_1) (fun m => ef_1 m b1) (fun p e s m below meth c T0 X0 hx hby hml hown hnm hZ e0 => by
  have N0 := Fr.nil n0
  refine ost (mkF m 1 #[.val (.ref b1)] [(.ref b1)]) X0 (fun t k => XS.aloadN X0.here hx rfl (hb hby d1_0) rfl rfl k) ?_
  obtain ⟨_, T1003, L1003, X1003, ⟨rfl, N1003q, u3031, u3032, u3033, u3034, u3035⟩, st1003⟩ := own_callI X0 hx hZ (y := Y1) (W := 0) (a := b1) (argsL := []) (rest := []) rfl hown (hw _ (wm 6 rfl)) (hw _ (wm 7 rfl)) (hw _ (wm 10 rfl)) (hw _ (wm 11 rfl)) (by decide) (rm2s2 l Z a0 hw [] b1 h0 n0 Z0 E_b1 F_modCount_b1 F_elementData_b1 F_size_b1 g_b1) (by decide) (by decide) (by decide) (by decide) e0 (g := (mkF m 1 #[.val (.ref b1)] [(.ref b1)])) rfl (by rw [hml]; rfl) pd_0 rfl rfl (by show 2 * 0 + _ ≤ _; exact Nat.le_of_eq rfl) (hb hby d1_1)
  have N1003 := Fr.app N0 N1003q
  obtain ⟨h1003, e1003⟩ : ∃ z, T1003.heap = z := ⟨_, rfl⟩
  rw [e1003] at u3031 u3032 u3033 u3034 u3035
  have K1003 := u3031
  have Z1003 := Nat.le_trans Z0 K1003.1
  have S1003 := Nat.le_trans (Nat.le_refl h0.size) K1003.1
  refine ost (mkF m 4 #[.val (.ref b1)] []) X1003 (fun t k => st1003 _ k) ?_
  refine ost (mkF m 5 #[.val (.ref b1)] [(.ref b1)]) X1003 (fun t k => XS.aloadN X1003.here hx rfl (hb hby d1_4) rfl rfl k) ?_
  have Old3037 : Old Z n0 h1003 := (Old.keep Old0 K1003 (allS g_b1 all0))
  obtain ⟨T3036, X3036, e3036, st3036⟩ := getS2 X1003 hx hZ hown (host := "") (Or.inl (hw _ (wm 23 rfl))) Via.refl e1003 (O_E.ext (Old3037).2) (g := (mkF m 5 #[.val (.ref b1)] [(.ref b1)])) rfl (hb hby d1_5)
  refine ost (mkF m 8 #[.val (.ref b1)] [(.ref eE), (.ref b1)]) X3036 (fun t k => st3036 _ k) ?_
  obtain ⟨T3038, h3038, L3038, X3038, e3038, N3038, W3038, F3038, st3038⟩ := own_putF X3036 hx hZ hown (hw _ (wm 24 rfl)) e3036 N1003 u3034 u3032 g_b1 (Or.inl (hw _ (wm 25 rfl))) (hw _ (wm 1 rfl)) (fty := (.array (.object "java/lang/Object"))) (by decide) rfl rfl (g := (mkF m 8 #[.val (.ref b1)] [(.ref eE), (.ref b1)])) rfl rfl (hb hby d1_8)
  have K3038 := Keep.of_wr W3038
  have Z3038 := Nat.le_trans Z1003 K3038.1
  have S3038 := Nat.le_trans S1003 K3038.1
  have F3039 := Fld.other W3038 u3033 (Or.inr (slot_ne (Or.inl (hw _ (wm 22 rfl))) (Or.inl (hw _ (wm 25 rfl))) (by decide) (t := .int) (t' := (.array (.object "java/lang/Object"))) (by decide) (by decide)))
  have F3040 := Fld.other W3038 u3035 (Or.inr (slot_ne (Or.inl (hw _ (wm 66 rfl))) (Or.inl (hw _ (wm 25 rfl))) (by decide) (t := .int) (t' := (.array (.object "java/lang/Object"))) (by decide) (by decide)))
  have E3041 := Exa.wr W3038 u3032
  refine ost (mkF m 11 #[.val (.ref b1)] []) X3038 (fun t k => st3038 _ k) ?_
  refine OwnFin.retVoid X3038 (hb hby d1_11) (by decide) (by decide) ?_
  rw [e3038]
  exact ⟨rfl, N3038, (Keep.trans (Keep.trans (Keep.refl h0 [b1]) K1003 (allS (Or.inl (wm 0 rfl)) all0)) K3038 (allS (Or.inl (wm 0 rfl)) all0)), E3041, F3039, F3038, F3040⟩)
abbrev La0_0 (p0 : Int32) (q1 : Int64) (q2 : Int64) (q3 : Int64) : Array Slot := #[.val (.int p0), .val (.long q1), .second, .val (.long q2), .second, .val (.long q3), .second, .unset, .unset, .unset, .unset, .unset, .unset, .unset, .unset, .unset, .unset, .unset, .unset, .unset, .unset, .unset, .unset, .unset, .unset, .unset, .unset, .unset, .unset, .unset, .unset, .unset]
abbrev La0_1 (p0 : Int32) (q1 : Int64) (q2 : Int64) (q3 : Int64) (b1 : Addr) : Array Slot := #[.val (.int p0), .val (.long q1), .second, .val (.long q2), .second, .val (.long q3), .second, .val (.ref b1), .unset, .unset, .unset, .unset, .unset, .unset, .unset, .unset, .unset, .unset, .unset, .unset, .unset, .unset, .unset, .unset, .unset, .unset, .unset, .unset, .unset, .unset, .unset, .unset]
abbrev La0_2 (p0 : Int32) (q1 : Int64) (q2 : Int64) (q3 : Int64) (b1 : Addr) (b25766 : Addr) : Array Slot := #[.val (.int p0), .val (.long q1), .second, .val (.long q2), .second, .val (.long q3), .second, .val (.ref b1), .val (.ref b25766), .unset, .unset, .unset, .unset, .unset, .unset, .unset, .unset, .unset, .unset, .unset, .unset, .unset, .unset, .unset, .unset, .unset, .unset, .unset, .unset, .unset, .unset, .unset]
abbrev La0_3 (p0 : Int32) (q1 : Int64) (q2 : Int64) (q3 : Int64) (b1 : Addr) (b25766 : Addr) : Array Slot := #[.val (.int p0), .val (.long q1), .second, .val (.long q2), .second, .val (.long q3), .second, .val (.ref b1), .val (.ref b25766), .val (.int (v0_130 p0)), .unset, .unset, .unset, .unset, .unset, .unset, .unset, .unset, .unset, .unset, .unset, .unset, .unset, .unset, .unset, .unset, .unset, .unset, .unset, .unset, .unset, .unset]
abbrev La0_4 (p0 : Int32) (q1 : Int64) (q2 : Int64) (q3 : Int64) (b1 : Addr) (b25766 : Addr) : Array Slot := #[.val (.int p0), .val (.long q1), .second, .val (.long q2), .second, .val (.long q3), .second, .val (.ref b1), .val (.ref b25766), .val (.int (0 : Int32)), .unset, .unset, .unset, .unset, .unset, .unset, .unset, .unset, .unset, .unset, .unset, .unset, .unset, .unset, .unset, .unset, .unset, .unset, .unset, .unset, .unset, .unset]
abbrev La0_5 (p0 : Int32) (q1 : Int64) (q2 : Int64) (q3 : Int64) (b1 : Addr) (b25766 : Addr) : Array Slot := #[.val (.int p0), .val (.long q1), .second, .val (.long q2), .second, .val (.long q3), .second, .val (.ref b1), .val (.ref b25766), .val (.int (0 : Int32)), .val (.long (2147483647 : Int64)), .second, .unset, .unset, .unset, .unset, .unset, .unset, .unset, .unset, .unset, .unset, .unset, .unset, .unset, .unset, .unset, .unset, .unset, .unset, .unset, .unset]
abbrev La0_6 (p0 : Int32) (q1 : Int64) (q2 : Int64) (q3 : Int64) (b1 : Addr) (b25766 : Addr) : Array Slot := #[.val (.int p0), .val (.long q1), .second, .val (.long q2), .second, .val (.long q3), .second, .val (.ref b1), .val (.ref b25766), .val (.int (0 : Int32)), .val (.long (2147483647 : Int64)), .second, .val (.int (0 : Int32)), .unset, .unset, .unset, .unset, .unset, .unset, .unset, .unset, .unset, .unset, .unset, .unset, .unset, .unset, .unset, .unset, .unset, .unset, .unset]
abbrev La0_7 (p0 : Int32) (q1 : Int64) (q2 : Int64) (q3 : Int64) (b1 : Addr) (b25766 : Addr) : Array Slot := #[.val (.int p0), .val (.long q1), .second, .val (.long q2), .second, .val (.long q3), .second, .val (.ref b1), .val (.ref b25766), .val (.int (0 : Int32)), .val (.long (2147483647 : Int64)), .second, .val (.int (0 : Int32)), .val (.int (0 : Int32)), .unset, .unset, .unset, .unset, .unset, .unset, .unset, .unset, .unset, .unset, .unset, .unset, .unset, .unset, .unset, .unset, .unset, .unset]
abbrev La0_8 (p0 : Int32) (q1 : Int64) (q2 : Int64) (q3 : Int64) (b1 : Addr) (b25766 : Addr) : Array Slot := #[.val (.int p0), .val (.long q1), .second, .val (.long q2), .second, .val (.long q3), .second, .val (.ref b1), .val (.ref b25766), .val (.int (0 : Int32)), .val (.long (2147483647 : Int64)), .second, .val (.int (0 : Int32)), .val (.int (0 : Int32)), .val (.long (2147483647 : Int64)), .second, .unset, .unset, .unset, .unset, .unset, .unset, .unset, .unset, .unset, .unset, .unset, .unset, .unset, .unset, .unset, .unset]
abbrev La0_9 (p0 : Int32) (q1 : Int64) (q2 : Int64) (q3 : Int64) (b1 : Addr) (b25766 : Addr) : Array Slot := #[.val (.int p0), .val (.long q1), .second, .val (.long q2), .second, .val (.long q3), .second, .val (.ref b1), .val (.ref b25766), .val (.int (0 : Int32)), .val (.long (2147483647 : Int64)), .second, .val (.int (0 : Int32)), .val (.int (0 : Int32)), .val (.long (2147483647 : Int64)), .second, .val (.long (v0_258 q1)), .second, .unset, .unset, .unset, .unset, .unset, .unset, .unset, .unset, .unset, .unset, .unset, .unset, .unset, .unset]
abbrev La0_10 (p0 : Int32) (q1 : Int64) (q2 : Int64) (q3 : Int64) (b1 : Addr) (b25766 : Addr) (b53326 : Addr) : Array Slot := #[.val (.int p0), .val (.long q1), .second, .val (.long q2), .second, .val (.long q3), .second, .val (.ref b1), .val (.ref b25766), .val (.int (0 : Int32)), .val (.long (2147483647 : Int64)), .second, .val (.int (0 : Int32)), .val (.int (0 : Int32)), .val (.long (2147483647 : Int64)), .second, .val (.long (v0_258 q1)), .second, .val (.ref b53326), .unset, .unset, .unset, .unset, .unset, .unset, .unset, .unset, .unset, .unset, .unset, .unset, .unset]
abbrev La0_11 (p0 : Int32) (q1 : Int64) (q2 : Int64) (q3 : Int64) (b1 : Addr) (b25766 : Addr) (b53326 : Addr) : Array Slot := #[.val (.int p0), .val (.long q1), .second, .val (.long q2), .second, .val (.long q3), .second, .val (.ref b1), .val (.ref b25766), .val (.int (0 : Int32)), .val (.long (2147483647 : Int64)), .second, .val (.int (0 : Int32)), .val (.int (0 : Int32)), .val (.long (2147483647 : Int64)), .second, .val (.long (v0_258 q1)), .second, .val (.ref b53326), .val (.long q2), .second, .unset, .unset, .unset, .unset, .unset, .unset, .unset, .unset, .unset, .unset, .unset]
abbrev La0_12 (p0 : Int32) (q1 : Int64) (q2 : Int64) (q3 : Int64) (b1 : Addr) (b25766 : Addr) (b53326 : Addr) : Array Slot := #[.val (.int p0), .val (.long q1), .second, .val (.long q2), .second, .val (.long q3), .second, .val (.ref b1), .val (.ref b25766), .val (.int (0 : Int32)), .val (.long (2147483647 : Int64)), .second, .val (.int (0 : Int32)), .val (.int (0 : Int32)), .val (.long (2147483647 : Int64)), .second, .val (.long (v0_258 q1)), .second, .val (.ref b53326), .val (.long q2), .second, .val (.long (v0_305 q2 q1)), .second, .unset, .unset, .unset, .unset, .unset, .unset, .unset, .unset, .unset]
abbrev La0_13 (p0 : Int32) (q1 : Int64) (q2 : Int64) (q3 : Int64) (b1 : Addr) (b25766 : Addr) (b53326 : Addr) : Array Slot := #[.val (.int p0), .val (.long q1), .second, .val (.long q2), .second, .val (.long q3), .second, .val (.ref b1), .val (.ref b25766), .val (.int (0 : Int32)), .val (.long (2147483647 : Int64)), .second, .val (.int (0 : Int32)), .val (.int (0 : Int32)), .val (.long (2147483647 : Int64)), .second, .val (.long (v0_258 q1)), .second, .val (.ref b53326), .val (.long q2), .second, .val (.long (v0_305 q2 q1)), .second, .val (.long q3), .second, .unset, .unset, .unset, .unset, .unset, .unset, .unset]
abbrev La0_14 (p0 : Int32) (q1 : Int64) (q2 : Int64) (q3 : Int64) (b1 : Addr) (b25766 : Addr) (b53326 : Addr) : Array Slot := #[.val (.int p0), .val (.long q1), .second, .val (.long q2), .second, .val (.long q3), .second, .val (.ref b1), .val (.ref b25766), .val (.int (0 : Int32)), .val (.long (2147483647 : Int64)), .second, .val (.int (0 : Int32)), .val (.int (0 : Int32)), .val (.long (2147483647 : Int64)), .second, .val (.long (v0_258 q1)), .second, .val (.ref b53326), .val (.long q2), .second, .val (.long (v0_305 q2 q1)), .second, .val (.long q3), .second, .val (.long q3), .second, .unset, .unset, .unset, .unset, .unset]
abbrev La0_15 (p0 : Int32) (q1 : Int64) (q2 : Int64) (q3 : Int64) (b1 : Addr) (b25766 : Addr) (b53326 : Addr) : Array Slot := #[.val (.int p0), .val (.long q1), .second, .val (.long q2), .second, .val (.long q3), .second, .val (.ref b1), .val (.ref b25766), .val (.int (0 : Int32)), .val (.long (2147483647 : Int64)), .second, .val (.int (0 : Int32)), .val (.int (0 : Int32)), .val (.long (2147483647 : Int64)), .second, .val (.long (v0_258 q1)), .second, .val (.ref b53326), .val (.long q2), .second, .val (.long (v0_305 q2 q1)), .second, .val (.long q3), .second, .val (.long q3), .second, .val (.long (2147483647 : Int64)), .second, .unset, .unset, .unset]
abbrev La0_16 (p0 : Int32) (q1 : Int64) (q2 : Int64) (q3 : Int64) (b1 : Addr) (b25766 : Addr) (b53326 : Addr) : Array Slot := #[.val (.int p0), .val (.long q1), .second, .val (.long q2), .second, .val (.long q3), .second, .val (.ref b1), .val (.ref b25766), .val (.int (0 : Int32)), .val (.long (2147483647 : Int64)), .second, .val (.int (0 : Int32)), .val (.int (0 : Int32)), .val (.long (2147483647 : Int64)), .second, .val (.long (v0_258 q1)), .second, .val (.ref b53326), .val (.long q2), .second, .val (.long (v0_305 q2 q1)), .second, .val (.long q3), .second, .val (.long q3), .second, .val (.long (2147483647 : Int64)), .second, .val (.int (v0_375 q2 q1)), .unset, .unset]
abbrev La0_17 (p0 : Int32) (q1 : Int64) (q2 : Int64) (q3 : Int64) (b1 : Addr) (b25766 : Addr) (b53326 : Addr) : Array Slot := #[.val (.int p0), .val (.long q1), .second, .val (.long q2), .second, .val (.long q3), .second, .val (.ref b1), .val (.ref b25766), .val (.int (0 : Int32)), .val (.long (2147483647 : Int64)), .second, .val (.int (0 : Int32)), .val (.int (0 : Int32)), .val (.long (2147483647 : Int64)), .second, .val (.long (v0_258 q1)), .second, .val (.ref b53326), .val (.long q2), .second, .val (.long (v0_305 q2 q1)), .second, .val (.long q3), .second, .val (.long q3), .second, .val (.long (2147483647 : Int64)), .second, .val (.int (v0_375 q2 q1)), .val (.int (v0_396 q2 q1)), .unset]
abbrev La0_18 (p0 : Int32) (q1 : Int64) (q2 : Int64) (q3 : Int64) (b1 : Addr) (b25766 : Addr) (b53326 : Addr) : Array Slot := #[.val (.int p0), .val (.long q1), .second, .val (.long q2), .second, .val (.long q3), .second, .val (.ref b1), .val (.ref b25766), .val (.int (0 : Int32)), .val (.long (2147483647 : Int64)), .second, .val (.int (0 : Int32)), .val (.int (0 : Int32)), .val (.long (2147483647 : Int64)), .second, .val (.long (v0_258 q1)), .second, .val (.ref b53326), .val (.long q2), .second, .val (.long (v0_305 q2 q1)), .second, .val (.long q3), .second, .val (.long q3), .second, .val (.long (2147483647 : Int64)), .second, .val (.int (v0_375 q2 q1)), .val (.int (v0_396 q2 q1)), .val (.int (v0_419 q2 q1))]
abbrev La0_19 (p0 : Int32) (q1 : Int64) (q2 : Int64) (q3 : Int64) (b1 : Addr) (b25766 : Addr) : Array Slot := #[.val (.int p0), .val (.long q1), .second, .val (.long q2), .second, .val (.long q3), .second, .val (.ref b1), .val (.ref b25766), .val (.int (1 : Int32)), .unset, .unset, .unset, .unset, .unset, .unset, .unset, .unset, .unset, .unset, .unset, .unset, .unset, .unset, .unset, .unset, .unset, .unset, .unset, .unset, .unset, .unset]
abbrev La0_20 (p0 : Int32) (q1 : Int64) (q2 : Int64) (q3 : Int64) (b1 : Addr) (b25766 : Addr) : Array Slot := #[.val (.int p0), .val (.long q1), .second, .val (.long q2), .second, .val (.long q3), .second, .val (.ref b1), .val (.ref b25766), .val (.int (1 : Int32)), .val (.long (2147483647 : Int64)), .second, .unset, .unset, .unset, .unset, .unset, .unset, .unset, .unset, .unset, .unset, .unset, .unset, .unset, .unset, .unset, .unset, .unset, .unset, .unset, .unset]
abbrev La0_21 (p0 : Int32) (q1 : Int64) (q2 : Int64) (q3 : Int64) (b1 : Addr) (b25766 : Addr) : Array Slot := #[.val (.int p0), .val (.long q1), .second, .val (.long q2), .second, .val (.long q3), .second, .val (.ref b1), .val (.ref b25766), .val (.int (1 : Int32)), .val (.long (2147483647 : Int64)), .second, .val (.int (0 : Int32)), .unset, .unset, .unset, .unset, .unset, .unset, .unset, .unset, .unset, .unset, .unset, .unset, .unset, .unset, .unset, .unset, .unset, .unset, .unset]
abbrev La0_22 (p0 : Int32) (q1 : Int64) (q2 : Int64) (q3 : Int64) (b1 : Addr) (b25766 : Addr) : Array Slot := #[.val (.int p0), .val (.long q1), .second, .val (.long q2), .second, .val (.long q3), .second, .val (.ref b1), .val (.ref b25766), .val (.int (1 : Int32)), .val (.long (2147483647 : Int64)), .second, .val (.int (0 : Int32)), .val (.int (31 : Int32)), .unset, .unset, .unset, .unset, .unset, .unset, .unset, .unset, .unset, .unset, .unset, .unset, .unset, .unset, .unset, .unset, .unset, .unset]
abbrev La0_23 (p0 : Int32) (q1 : Int64) (q2 : Int64) (q3 : Int64) (b1 : Addr) (b25766 : Addr) : Array Slot := #[.val (.int p0), .val (.long q1), .second, .val (.long q2), .second, .val (.long q3), .second, .val (.ref b1), .val (.ref b25766), .val (.int (1 : Int32)), .val (.long (2147483647 : Int64)), .second, .val (.int (0 : Int32)), .val (.int (31 : Int32)), .val (.long (2147483647 : Int64)), .second, .unset, .unset, .unset, .unset, .unset, .unset, .unset, .unset, .unset, .unset, .unset, .unset, .unset, .unset, .unset, .unset]
abbrev La0_24 (p0 : Int32) (q1 : Int64) (q2 : Int64) (q3 : Int64) (b1 : Addr) (b25766 : Addr) : Array Slot := #[.val (.int p0), .val (.long q1), .second, .val (.long q2), .second, .val (.long q3), .second, .val (.ref b1), .val (.ref b25766), .val (.int (1 : Int32)), .val (.long (2147483647 : Int64)), .second, .val (.int (0 : Int32)), .val (.int (31 : Int32)), .val (.long (2147483647 : Int64)), .second, .val (.long (v0_258 q1)), .second, .unset, .unset, .unset, .unset, .unset, .unset, .unset, .unset, .unset, .unset, .unset, .unset, .unset, .unset]
abbrev La0_25 (p0 : Int32) (q1 : Int64) (q2 : Int64) (q3 : Int64) (b1 : Addr) (b25766 : Addr) (b56403 : Addr) : Array Slot := #[.val (.int p0), .val (.long q1), .second, .val (.long q2), .second, .val (.long q3), .second, .val (.ref b1), .val (.ref b25766), .val (.int (1 : Int32)), .val (.long (2147483647 : Int64)), .second, .val (.int (0 : Int32)), .val (.int (31 : Int32)), .val (.long (2147483647 : Int64)), .second, .val (.long (v0_258 q1)), .second, .val (.ref b56403), .unset, .unset, .unset, .unset, .unset, .unset, .unset, .unset, .unset, .unset, .unset, .unset, .unset]
abbrev La0_26 (p0 : Int32) (q1 : Int64) (q2 : Int64) (q3 : Int64) (b1 : Addr) (b25766 : Addr) (b56403 : Addr) : Array Slot := #[.val (.int p0), .val (.long q1), .second, .val (.long q2), .second, .val (.long q3), .second, .val (.ref b1), .val (.ref b25766), .val (.int (1 : Int32)), .val (.long (2147483647 : Int64)), .second, .val (.int (0 : Int32)), .val (.int (31 : Int32)), .val (.long (2147483647 : Int64)), .second, .val (.long (v0_258 q1)), .second, .val (.ref b56403), .val (.long q2), .second, .unset, .unset, .unset, .unset, .unset, .unset, .unset, .unset, .unset, .unset, .unset]
abbrev La0_27 (p0 : Int32) (q1 : Int64) (q2 : Int64) (q3 : Int64) (b1 : Addr) (b25766 : Addr) (b56403 : Addr) : Array Slot := #[.val (.int p0), .val (.long q1), .second, .val (.long q2), .second, .val (.long q3), .second, .val (.ref b1), .val (.ref b25766), .val (.int (1 : Int32)), .val (.long (2147483647 : Int64)), .second, .val (.int (0 : Int32)), .val (.int (31 : Int32)), .val (.long (2147483647 : Int64)), .second, .val (.long (v0_258 q1)), .second, .val (.ref b56403), .val (.long q2), .second, .val (.long (v0_305b q2 q1)), .second, .unset, .unset, .unset, .unset, .unset, .unset, .unset, .unset, .unset]
abbrev La0_28 (p0 : Int32) (q1 : Int64) (q2 : Int64) (q3 : Int64) (b1 : Addr) (b25766 : Addr) (b56403 : Addr) : Array Slot := #[.val (.int p0), .val (.long q1), .second, .val (.long q2), .second, .val (.long q3), .second, .val (.ref b1), .val (.ref b25766), .val (.int (1 : Int32)), .val (.long (2147483647 : Int64)), .second, .val (.int (0 : Int32)), .val (.int (31 : Int32)), .val (.long (2147483647 : Int64)), .second, .val (.long (v0_258 q1)), .second, .val (.ref b56403), .val (.long q2), .second, .val (.long (v0_305b q2 q1)), .second, .val (.long q3), .second, .unset, .unset, .unset, .unset, .unset, .unset, .unset]
abbrev La0_29 (p0 : Int32) (q1 : Int64) (q2 : Int64) (q3 : Int64) (b1 : Addr) (b25766 : Addr) (b56403 : Addr) : Array Slot := #[.val (.int p0), .val (.long q1), .second, .val (.long q2), .second, .val (.long q3), .second, .val (.ref b1), .val (.ref b25766), .val (.int (1 : Int32)), .val (.long (2147483647 : Int64)), .second, .val (.int (0 : Int32)), .val (.int (31 : Int32)), .val (.long (2147483647 : Int64)), .second, .val (.long (v0_258 q1)), .second, .val (.ref b56403), .val (.long q2), .second, .val (.long (v0_305b q2 q1)), .second, .val (.long q3), .second, .val (.long q3), .second, .unset, .unset, .unset, .unset, .unset]
abbrev La0_30 (p0 : Int32) (q1 : Int64) (q2 : Int64) (q3 : Int64) (b1 : Addr) (b25766 : Addr) (b56403 : Addr) : Array Slot := #[.val (.int p0), .val (.long q1), .second, .val (.long q2), .second, .val (.long q3), .second, .val (.ref b1), .val (.ref b25766), .val (.int (1 : Int32)), .val (.long (2147483647 : Int64)), .second, .val (.int (0 : Int32)), .val (.int (31 : Int32)), .val (.long (2147483647 : Int64)), .second, .val (.long (v0_258 q1)), .second, .val (.ref b56403), .val (.long q2), .second, .val (.long (v0_305b q2 q1)), .second, .val (.long q3), .second, .val (.long q3), .second, .val (.long (4611686016279904256 : Int64)), .second, .unset, .unset, .unset]
abbrev La0_31 (p0 : Int32) (q1 : Int64) (q2 : Int64) (q3 : Int64) (b1 : Addr) (b25766 : Addr) (b56403 : Addr) : Array Slot := #[.val (.int p0), .val (.long q1), .second, .val (.long q2), .second, .val (.long q3), .second, .val (.ref b1), .val (.ref b25766), .val (.int (1 : Int32)), .val (.long (2147483647 : Int64)), .second, .val (.int (0 : Int32)), .val (.int (31 : Int32)), .val (.long (2147483647 : Int64)), .second, .val (.long (v0_258 q1)), .second, .val (.ref b56403), .val (.long q2), .second, .val (.long (v0_305b q2 q1)), .second, .val (.long q3), .second, .val (.long q3), .second, .val (.long (4611686016279904256 : Int64)), .second, .val (.int (v0_375b q2 q1)), .unset, .unset]
abbrev La0_32 (p0 : Int32) (q1 : Int64) (q2 : Int64) (q3 : Int64) (b1 : Addr) (b25766 : Addr) (b56403 : Addr) : Array Slot := #[.val (.int p0), .val (.long q1), .second, .val (.long q2), .second, .val (.long q3), .second, .val (.ref b1), .val (.ref b25766), .val (.int (1 : Int32)), .val (.long (2147483647 : Int64)), .second, .val (.int (0 : Int32)), .val (.int (31 : Int32)), .val (.long (2147483647 : Int64)), .second, .val (.long (v0_258 q1)), .second, .val (.ref b56403), .val (.long q2), .second, .val (.long (v0_305b q2 q1)), .second, .val (.long q3), .second, .val (.long q3), .second, .val (.long (4611686016279904256 : Int64)), .second, .val (.int (v0_375b q2 q1)), .val (.int (v0_396b q2 q1)), .unset]
abbrev La0_33 (p0 : Int32) (q1 : Int64) (q2 : Int64) (q3 : Int64) (b1 : Addr) (b25766 : Addr) (b56403 : Addr) : Array Slot := #[.val (.int p0), .val (.long q1), .second, .val (.long q2), .second, .val (.long q3), .second, .val (.ref b1), .val (.ref b25766), .val (.int (1 : Int32)), .val (.long (2147483647 : Int64)), .second, .val (.int (0 : Int32)), .val (.int (31 : Int32)), .val (.long (2147483647 : Int64)), .second, .val (.long (v0_258 q1)), .second, .val (.ref b56403), .val (.long q2), .second, .val (.long (v0_305b q2 q1)), .second, .val (.long q3), .second, .val (.long q3), .second, .val (.long (4611686016279904256 : Int64)), .second, .val (.int (v0_375b q2 q1)), .val (.int (v0_396b q2 q1)), .val (.int (v0_419b q2 q1))]
abbrev La0_34 (p0 : Int32) (q1 : Int64) (q2 : Int64) (q3 : Int64) (b1 : Addr) (b25766 : Addr) : Array Slot := #[.val (.int p0), .val (.long q1), .second, .val (.long q2), .second, .val (.long q3), .second, .val (.ref b1), .val (.ref b25766), .val (.int (2 : Int32)), .unset, .unset, .unset, .unset, .unset, .unset, .unset, .unset, .unset, .unset, .unset, .unset, .unset, .unset, .unset, .unset, .unset, .unset, .unset, .unset, .unset, .unset]
abbrev La0_35 (p0 : Int32) (q1 : Int64) (q2 : Int64) (q3 : Int64) (b1 : Addr) (b25766 : Addr) : Array Slot := #[.val (.int p0), .val (.long q1), .second, .val (.long q2), .second, .val (.long q3), .second, .val (.ref b1), .val (.ref b25766), .val (.int (2 : Int32)), .val (.long (4 : Int64)), .second, .unset, .unset, .unset, .unset, .unset, .unset, .unset, .unset, .unset, .unset, .unset, .unset, .unset, .unset, .unset, .unset, .unset, .unset, .unset, .unset]
abbrev La0_36 (p0 : Int32) (q1 : Int64) (q2 : Int64) (q3 : Int64) (b1 : Addr) (b25766 : Addr) : Array Slot := #[.val (.int p0), .val (.long q1), .second, .val (.long q2), .second, .val (.long q3), .second, .val (.ref b1), .val (.ref b25766), .val (.int (2 : Int32)), .val (.long (4 : Int64)), .second, .val (.int (0 : Int32)), .unset, .unset, .unset, .unset, .unset, .unset, .unset, .unset, .unset, .unset, .unset, .unset, .unset, .unset, .unset, .unset, .unset, .unset, .unset]
abbrev La0_37 (p0 : Int32) (q1 : Int64) (q2 : Int64) (q3 : Int64) (b1 : Addr) (b25766 : Addr) : Array Slot := #[.val (.int p0), .val (.long q1), .second, .val (.long q2), .second, .val (.long q3), .second, .val (.ref b1), .val (.ref b25766), .val (.int (2 : Int32)), .val (.long (4 : Int64)), .second, .val (.int (0 : Int32)), .val (.int (62 : Int32)), .unset, .unset, .unset, .unset, .unset, .unset, .unset, .unset, .unset, .unset, .unset, .unset, .unset, .unset, .unset, .unset, .unset, .unset]
abbrev La0_38 (p0 : Int32) (q1 : Int64) (q2 : Int64) (q3 : Int64) (b1 : Addr) (b25766 : Addr) : Array Slot := #[.val (.int p0), .val (.long q1), .second, .val (.long q2), .second, .val (.long q3), .second, .val (.ref b1), .val (.ref b25766), .val (.int (2 : Int32)), .val (.long (4 : Int64)), .second, .val (.int (0 : Int32)), .val (.int (62 : Int32)), .val (.long (3 : Int64)), .second, .unset, .unset, .unset, .unset, .unset, .unset, .unset, .unset, .unset, .unset, .unset, .unset, .unset, .unset, .unset, .unset]
abbrev La0_39 (p0 : Int32) (q1 : Int64) (q2 : Int64) (q3 : Int64) (b1 : Addr) (b25766 : Addr) : Array Slot := #[.val (.int p0), .val (.long q1), .second, .val (.long q2), .second, .val (.long q3), .second, .val (.ref b1), .val (.ref b25766), .val (.int (2 : Int32)), .val (.long (4 : Int64)), .second, .val (.int (0 : Int32)), .val (.int (62 : Int32)), .val (.long (3 : Int64)), .second, .val (.long (v0_258b q1)), .second, .unset, .unset, .unset, .unset, .unset, .unset, .unset, .unset, .unset, .unset, .unset, .unset, .unset, .unset]
abbrev La0_40 (p0 : Int32) (q1 : Int64) (q2 : Int64) (q3 : Int64) (b1 : Addr) (b25766 : Addr) (b59480 : Addr) : Array Slot := #[.val (.int p0), .val (.long q1), .second, .val (.long q2), .second, .val (.long q3), .second, .val (.ref b1), .val (.ref b25766), .val (.int (2 : Int32)), .val (.long (4 : Int64)), .second, .val (.int (0 : Int32)), .val (.int (62 : Int32)), .val (.long (3 : Int64)), .second, .val (.long (v0_258b q1)), .second, .val (.ref b59480), .unset, .unset, .unset, .unset, .unset, .unset, .unset, .unset, .unset, .unset, .unset, .unset, .unset]
abbrev La0_41 (p0 : Int32) (q1 : Int64) (q2 : Int64) (q3 : Int64) (b1 : Addr) (b25766 : Addr) (b59480 : Addr) : Array Slot := #[.val (.int p0), .val (.long q1), .second, .val (.long q2), .second, .val (.long q3), .second, .val (.ref b1), .val (.ref b25766), .val (.int (2 : Int32)), .val (.long (4 : Int64)), .second, .val (.int (0 : Int32)), .val (.int (62 : Int32)), .val (.long (3 : Int64)), .second, .val (.long (v0_258b q1)), .second, .val (.ref b59480), .val (.long q2), .second, .unset, .unset, .unset, .unset, .unset, .unset, .unset, .unset, .unset, .unset, .unset]
abbrev La0_42 (p0 : Int32) (q1 : Int64) (q2 : Int64) (q3 : Int64) (b1 : Addr) (b25766 : Addr) (b59480 : Addr) : Array Slot := #[.val (.int p0), .val (.long q1), .second, .val (.long q2), .second, .val (.long q3), .second, .val (.ref b1), .val (.ref b25766), .val (.int (2 : Int32)), .val (.long (4 : Int64)), .second, .val (.int (0 : Int32)), .val (.int (62 : Int32)), .val (.long (3 : Int64)), .second, .val (.long (v0_258b q1)), .second, .val (.ref b59480), .val (.long q2), .second, .val (.long (v0_305bb q2 q1)), .second, .unset, .unset, .unset, .unset, .unset, .unset, .unset, .unset, .unset]
abbrev La0_43 (p0 : Int32) (q1 : Int64) (q2 : Int64) (q3 : Int64) (b1 : Addr) (b25766 : Addr) (b59480 : Addr) : Array Slot := #[.val (.int p0), .val (.long q1), .second, .val (.long q2), .second, .val (.long q3), .second, .val (.ref b1), .val (.ref b25766), .val (.int (2 : Int32)), .val (.long (4 : Int64)), .second, .val (.int (0 : Int32)), .val (.int (62 : Int32)), .val (.long (3 : Int64)), .second, .val (.long (v0_258b q1)), .second, .val (.ref b59480), .val (.long q2), .second, .val (.long (v0_305bb q2 q1)), .second, .val (.long q3), .second, .unset, .unset, .unset, .unset, .unset, .unset, .unset]
abbrev La0_44 (p0 : Int32) (q1 : Int64) (q2 : Int64) (q3 : Int64) (b1 : Addr) (b25766 : Addr) (b59480 : Addr) : Array Slot := #[.val (.int p0), .val (.long q1), .second, .val (.long q2), .second, .val (.long q3), .second, .val (.ref b1), .val (.ref b25766), .val (.int (2 : Int32)), .val (.long (4 : Int64)), .second, .val (.int (0 : Int32)), .val (.int (62 : Int32)), .val (.long (3 : Int64)), .second, .val (.long (v0_258b q1)), .second, .val (.ref b59480), .val (.long q2), .second, .val (.long (v0_305bb q2 q1)), .second, .val (.long q3), .second, .val (.long q3), .second, .unset, .unset, .unset, .unset, .unset]
abbrev La0_45 (p0 : Int32) (q1 : Int64) (q2 : Int64) (q3 : Int64) (b1 : Addr) (b25766 : Addr) (b59480 : Addr) : Array Slot := #[.val (.int p0), .val (.long q1), .second, .val (.long q2), .second, .val (.long q3), .second, .val (.ref b1), .val (.ref b25766), .val (.int (2 : Int32)), .val (.long (4 : Int64)), .second, .val (.int (0 : Int32)), .val (.int (62 : Int32)), .val (.long (3 : Int64)), .second, .val (.long (v0_258b q1)), .second, .val (.ref b59480), .val (.long q2), .second, .val (.long (v0_305bb q2 q1)), .second, .val (.long q3), .second, .val (.long q3), .second, .val (.long (-4611686018427387904 : Int64)), .second, .unset, .unset, .unset]
abbrev La0_46 (p0 : Int32) (q1 : Int64) (q2 : Int64) (q3 : Int64) (b1 : Addr) (b25766 : Addr) (b59480 : Addr) : Array Slot := #[.val (.int p0), .val (.long q1), .second, .val (.long q2), .second, .val (.long q3), .second, .val (.ref b1), .val (.ref b25766), .val (.int (2 : Int32)), .val (.long (4 : Int64)), .second, .val (.int (0 : Int32)), .val (.int (62 : Int32)), .val (.long (3 : Int64)), .second, .val (.long (v0_258b q1)), .second, .val (.ref b59480), .val (.long q2), .second, .val (.long (v0_305bb q2 q1)), .second, .val (.long q3), .second, .val (.long q3), .second, .val (.long (-4611686018427387904 : Int64)), .second, .val (.int (v0_375bb q2 q1)), .unset, .unset]
abbrev La0_47 (p0 : Int32) (q1 : Int64) (q2 : Int64) (q3 : Int64) (b1 : Addr) (b25766 : Addr) (b59480 : Addr) : Array Slot := #[.val (.int p0), .val (.long q1), .second, .val (.long q2), .second, .val (.long q3), .second, .val (.ref b1), .val (.ref b25766), .val (.int (2 : Int32)), .val (.long (4 : Int64)), .second, .val (.int (0 : Int32)), .val (.int (62 : Int32)), .val (.long (3 : Int64)), .second, .val (.long (v0_258b q1)), .second, .val (.ref b59480), .val (.long q2), .second, .val (.long (v0_305bb q2 q1)), .second, .val (.long q3), .second, .val (.long q3), .second, .val (.long (-4611686018427387904 : Int64)), .second, .val (.int (v0_375bb q2 q1)), .val (.int (v0_396bb q2 q1)), .unset]
abbrev La0_48 (p0 : Int32) (q1 : Int64) (q2 : Int64) (q3 : Int64) (b1 : Addr) (b25766 : Addr) (b59480 : Addr) : Array Slot := #[.val (.int p0), .val (.long q1), .second, .val (.long q2), .second, .val (.long q3), .second, .val (.ref b1), .val (.ref b25766), .val (.int (2 : Int32)), .val (.long (4 : Int64)), .second, .val (.int (0 : Int32)), .val (.int (62 : Int32)), .val (.long (3 : Int64)), .second, .val (.long (v0_258b q1)), .second, .val (.ref b59480), .val (.long q2), .second, .val (.long (v0_305bb q2 q1)), .second, .val (.long q3), .second, .val (.long q3), .second, .val (.long (-4611686018427387904 : Int64)), .second, .val (.int (v0_375bb q2 q1)), .val (.int (v0_396bb q2 q1)), .val (.int (v0_419bb q2 q1))]
abbrev La0_49 (p0 : Int32) (q1 : Int64) (q2 : Int64) (q3 : Int64) (b1 : Addr) (b25766 : Addr) : Array Slot := #[.val (.int p0), .val (.long q1), .second, .val (.long q2), .second, .val (.long q3), .second, .val (.ref b1), .val (.ref b25766), .val (.int (3 : Int32)), .unset, .unset, .unset, .unset, .unset, .unset, .unset, .unset, .unset, .unset, .unset, .unset, .unset, .unset, .unset, .unset, .unset, .unset, .unset, .unset, .unset, .unset]
abbrev La0_50 (p0 : Int32) (q1 : Int64) (q2 : Int64) (q3 : Int64) (b1 : Addr) (b25766 : Addr) : Array Slot := #[.val (.int p0), .val (.long q1), .second, .val (.long q2), .second, .val (.long q3), .second, .val (.ref b1), .val (.ref b25766), .val (.int (3 : Int32)), .val (.long (1048576 : Int64)), .second, .unset, .unset, .unset, .unset, .unset, .unset, .unset, .unset, .unset, .unset, .unset, .unset, .unset, .unset, .unset, .unset, .unset, .unset, .unset, .unset]
abbrev La0_51 (p0 : Int32) (q1 : Int64) (q2 : Int64) (q3 : Int64) (b1 : Addr) (b25766 : Addr) : Array Slot := #[.val (.int p0), .val (.long q1), .second, .val (.long q2), .second, .val (.long q3), .second, .val (.ref b1), .val (.ref b25766), .val (.int (3 : Int32)), .val (.long (1048576 : Int64)), .second, .val (.int (1 : Int32)), .unset, .unset, .unset, .unset, .unset, .unset, .unset, .unset, .unset, .unset, .unset, .unset, .unset, .unset, .unset, .unset, .unset, .unset, .unset]
abbrev La0_52 (p0 : Int32) (q1 : Int64) (q2 : Int64) (q3 : Int64) (b1 : Addr) (b25766 : Addr) : Array Slot := #[.val (.int p0), .val (.long q1), .second, .val (.long q2), .second, .val (.long q3), .second, .val (.ref b1), .val (.ref b25766), .val (.int (3 : Int32)), .val (.long (1048576 : Int64)), .second, .val (.int (1 : Int32)), .val (.int (0 : Int32)), .unset, .unset, .unset, .unset, .unset, .unset, .unset, .unset, .unset, .unset, .unset, .unset, .unset, .unset, .unset, .unset, .unset, .unset]
abbrev La0_53 (p0 : Int32) (q1 : Int64) (q2 : Int64) (q3 : Int64) (b1 : Addr) (b25766 : Addr) : Array Slot := #[.val (.int p0), .val (.long q1), .second, .val (.long q2), .second, .val (.long q3), .second, .val (.ref b1), .val (.ref b25766), .val (.int (3 : Int32)), .val (.long (1048576 : Int64)), .second, .val (.int (1 : Int32)), .val (.int (0 : Int32)), .val (.long (1048575 : Int64)), .second, .unset, .unset, .unset, .unset, .unset, .unset, .unset, .unset, .unset, .unset, .unset, .unset, .unset, .unset, .unset, .unset]
abbrev La0_54 (p0 : Int32) (q1 : Int64) (q2 : Int64) (q3 : Int64) (b1 : Addr) (b25766 : Addr) : Array Slot := #[.val (.int p0), .val (.long q1), .second, .val (.long q2), .second, .val (.long q3), .second, .val (.ref b1), .val (.ref b25766), .val (.int (3 : Int32)), .val (.long (1048576 : Int64)), .second, .val (.int (1 : Int32)), .val (.int (0 : Int32)), .val (.long (1048575 : Int64)), .second, .val (.long (v0_258bb q1)), .second, .unset, .unset, .unset, .unset, .unset, .unset, .unset, .unset, .unset, .unset, .unset, .unset, .unset, .unset]
abbrev La0_55 (p0 : Int32) (q1 : Int64) (q2 : Int64) (q3 : Int64) (b1 : Addr) (b25766 : Addr) (b62557 : Addr) : Array Slot := #[.val (.int p0), .val (.long q1), .second, .val (.long q2), .second, .val (.long q3), .second, .val (.ref b1), .val (.ref b25766), .val (.int (3 : Int32)), .val (.long (1048576 : Int64)), .second, .val (.int (1 : Int32)), .val (.int (0 : Int32)), .val (.long (1048575 : Int64)), .second, .val (.long (v0_258bb q1)), .second, .val (.ref b62557), .unset, .unset, .unset, .unset, .unset, .unset, .unset, .unset, .unset, .unset, .unset, .unset, .unset]
abbrev La0_56 (p0 : Int32) (q1 : Int64) (q2 : Int64) (q3 : Int64) (b1 : Addr) (b25766 : Addr) (b62557 : Addr) : Array Slot := #[.val (.int p0), .val (.long q1), .second, .val (.long q2), .second, .val (.long q3), .second, .val (.ref b1), .val (.ref b25766), .val (.int (3 : Int32)), .val (.long (1048576 : Int64)), .second, .val (.int (1 : Int32)), .val (.int (0 : Int32)), .val (.long (1048575 : Int64)), .second, .val (.long (v0_258bb q1)), .second, .val (.ref b62557), .val (.long q3), .second, .unset, .unset, .unset, .unset, .unset, .unset, .unset, .unset, .unset, .unset, .unset]
abbrev La0_57 (p0 : Int32) (q1 : Int64) (q2 : Int64) (q3 : Int64) (b1 : Addr) (b25766 : Addr) (b62557 : Addr) : Array Slot := #[.val (.int p0), .val (.long q1), .second, .val (.long q2), .second, .val (.long q3), .second, .val (.ref b1), .val (.ref b25766), .val (.int (3 : Int32)), .val (.long (1048576 : Int64)), .second, .val (.int (1 : Int32)), .val (.int (0 : Int32)), .val (.long (1048575 : Int64)), .second, .val (.long (v0_258bb q1)), .second, .val (.ref b62557), .val (.long q3), .second, .val (.long (v0_305bbb q3 q1)), .second, .unset, .unset, .unset, .unset, .unset, .unset, .unset, .unset, .unset]
abbrev La0_58 (p0 : Int32) (q1 : Int64) (q2 : Int64) (q3 : Int64) (b1 : Addr) (b25766 : Addr) (b62557 : Addr) : Array Slot := #[.val (.int p0), .val (.long q1), .second, .val (.long q2), .second, .val (.long q3), .second, .val (.ref b1), .val (.ref b25766), .val (.int (3 : Int32)), .val (.long (1048576 : Int64)), .second, .val (.int (1 : Int32)), .val (.int (0 : Int32)), .val (.long (1048575 : Int64)), .second, .val (.long (v0_258bb q1)), .second, .val (.ref b62557), .val (.long q3), .second, .val (.long (v0_305bbb q3 q1)), .second, .val (.long q2), .second, .unset, .unset, .unset, .unset, .unset, .unset, .unset]
abbrev La0_59 (p0 : Int32) (q1 : Int64) (q2 : Int64) (q3 : Int64) (b1 : Addr) (b25766 : Addr) (b62557 : Addr) : Array Slot := #[.val (.int p0), .val (.long q1), .second, .val (.long q2), .second, .val (.long q3), .second, .val (.ref b1), .val (.ref b25766), .val (.int (3 : Int32)), .val (.long (1048576 : Int64)), .second, .val (.int (1 : Int32)), .val (.int (0 : Int32)), .val (.long (1048575 : Int64)), .second, .val (.long (v0_258bb q1)), .second, .val (.ref b62557), .val (.long q3), .second, .val (.long (v0_305bbb q3 q1)), .second, .val (.long q2), .second, .val (.long q2), .second, .unset, .unset, .unset, .unset, .unset]
abbrev La0_60 (p0 : Int32) (q1 : Int64) (q2 : Int64) (q3 : Int64) (b1 : Addr) (b25766 : Addr) (b62557 : Addr) : Array Slot := #[.val (.int p0), .val (.long q1), .second, .val (.long q2), .second, .val (.long q3), .second, .val (.ref b1), .val (.ref b25766), .val (.int (3 : Int32)), .val (.long (1048576 : Int64)), .second, .val (.int (1 : Int32)), .val (.int (0 : Int32)), .val (.long (1048575 : Int64)), .second, .val (.long (v0_258bb q1)), .second, .val (.ref b62557), .val (.long q3), .second, .val (.long (v0_305bbb q3 q1)), .second, .val (.long q2), .second, .val (.long q2), .second, .val (.long (1048575 : Int64)), .second, .unset, .unset, .unset]
abbrev La0_61 (p0 : Int32) (q1 : Int64) (q2 : Int64) (q3 : Int64) (b1 : Addr) (b25766 : Addr) (b62557 : Addr) : Array Slot := #[.val (.int p0), .val (.long q1), .second, .val (.long q2), .second, .val (.long q3), .second, .val (.ref b1), .val (.ref b25766), .val (.int (3 : Int32)), .val (.long (1048576 : Int64)), .second, .val (.int (1 : Int32)), .val (.int (0 : Int32)), .val (.long (1048575 : Int64)), .second, .val (.long (v0_258bb q1)), .second, .val (.ref b62557), .val (.long q3), .second, .val (.long (v0_305bbb q3 q1)), .second, .val (.long q2), .second, .val (.long q2), .second, .val (.long (1048575 : Int64)), .second, .val (.int (v0_375bbb q3 q1)), .unset, .unset]
abbrev La0_62 (p0 : Int32) (q1 : Int64) (q2 : Int64) (q3 : Int64) (b1 : Addr) (b25766 : Addr) (b62557 : Addr) : Array Slot := #[.val (.int p0), .val (.long q1), .second, .val (.long q2), .second, .val (.long q3), .second, .val (.ref b1), .val (.ref b25766), .val (.int (3 : Int32)), .val (.long (1048576 : Int64)), .second, .val (.int (1 : Int32)), .val (.int (0 : Int32)), .val (.long (1048575 : Int64)), .second, .val (.long (v0_258bb q1)), .second, .val (.ref b62557), .val (.long q3), .second, .val (.long (v0_305bbb q3 q1)), .second, .val (.long q2), .second, .val (.long q2), .second, .val (.long (1048575 : Int64)), .second, .val (.int (v0_375bbb q3 q1)), .val (.int (v0_396bbb q3 q1)), .unset]
abbrev La0_63 (p0 : Int32) (q1 : Int64) (q2 : Int64) (q3 : Int64) (b1 : Addr) (b25766 : Addr) (b62557 : Addr) : Array Slot := #[.val (.int p0), .val (.long q1), .second, .val (.long q2), .second, .val (.long q3), .second, .val (.ref b1), .val (.ref b25766), .val (.int (3 : Int32)), .val (.long (1048576 : Int64)), .second, .val (.int (1 : Int32)), .val (.int (0 : Int32)), .val (.long (1048575 : Int64)), .second, .val (.long (v0_258bb q1)), .second, .val (.ref b62557), .val (.long q3), .second, .val (.long (v0_305bbb q3 q1)), .second, .val (.long q2), .second, .val (.long q2), .second, .val (.long (1048575 : Int64)), .second, .val (.int (v0_375bbb q3 q1)), .val (.int (v0_396bbb q3 q1)), .val (.int (v0_419bbb q3 q1))]
abbrev La0_64 (p0 : Int32) (q1 : Int64) (q2 : Int64) (q3 : Int64) (b1 : Addr) (b25766 : Addr) : Array Slot := #[.val (.int p0), .val (.long q1), .second, .val (.long q2), .second, .val (.long q3), .second, .val (.ref b1), .val (.ref b25766), .val (.int (4 : Int32)), .unset, .unset, .unset, .unset, .unset, .unset, .unset, .unset, .unset, .unset, .unset, .unset, .unset, .unset, .unset, .unset, .unset, .unset, .unset, .unset, .unset, .unset]
abbrev La0_65 (p0 : Int32) (q1 : Int64) (q2 : Int64) (q3 : Int64) (b1 : Addr) (b25766 : Addr) : Array Slot := #[.val (.int p0), .val (.long q1), .second, .val (.long q2), .second, .val (.long q3), .second, .val (.ref b1), .val (.ref b25766), .val (.int (4 : Int32)), .val (.long (32 : Int64)), .second, .unset, .unset, .unset, .unset, .unset, .unset, .unset, .unset, .unset, .unset, .unset, .unset, .unset, .unset, .unset, .unset, .unset, .unset, .unset, .unset]
abbrev La0_66 (p0 : Int32) (q1 : Int64) (q2 : Int64) (q3 : Int64) (b1 : Addr) (b25766 : Addr) : Array Slot := #[.val (.int p0), .val (.long q1), .second, .val (.long q2), .second, .val (.long q3), .second, .val (.ref b1), .val (.ref b25766), .val (.int (4 : Int32)), .val (.long (32 : Int64)), .second, .val (.int (1 : Int32)), .unset, .unset, .unset, .unset, .unset, .unset, .unset, .unset, .unset, .unset, .unset, .unset, .unset, .unset, .unset, .unset, .unset, .unset, .unset]
abbrev La0_67 (p0 : Int32) (q1 : Int64) (q2 : Int64) (q3 : Int64) (b1 : Addr) (b25766 : Addr) : Array Slot := #[.val (.int p0), .val (.long q1), .second, .val (.long q2), .second, .val (.long q3), .second, .val (.ref b1), .val (.ref b25766), .val (.int (4 : Int32)), .val (.long (32 : Int64)), .second, .val (.int (1 : Int32)), .val (.int (20 : Int32)), .unset, .unset, .unset, .unset, .unset, .unset, .unset, .unset, .unset, .unset, .unset, .unset, .unset, .unset, .unset, .unset, .unset, .unset]
abbrev La0_68 (p0 : Int32) (q1 : Int64) (q2 : Int64) (q3 : Int64) (b1 : Addr) (b25766 : Addr) : Array Slot := #[.val (.int p0), .val (.long q1), .second, .val (.long q2), .second, .val (.long q3), .second, .val (.ref b1), .val (.ref b25766), .val (.int (4 : Int32)), .val (.long (32 : Int64)), .second, .val (.int (1 : Int32)), .val (.int (20 : Int32)), .val (.long (31 : Int64)), .second, .unset, .unset, .unset, .unset, .unset, .unset, .unset, .unset, .unset, .unset, .unset, .unset, .unset, .unset, .unset, .unset]
abbrev La0_69 (p0 : Int32) (q1 : Int64) (q2 : Int64) (q3 : Int64) (b1 : Addr) (b25766 : Addr) : Array Slot := #[.val (.int p0), .val (.long q1), .second, .val (.long q2), .second, .val (.long q3), .second, .val (.ref b1), .val (.ref b25766), .val (.int (4 : Int32)), .val (.long (32 : Int64)), .second, .val (.int (1 : Int32)), .val (.int (20 : Int32)), .val (.long (31 : Int64)), .second, .val (.long (v0_258bbb q1)), .second, .unset, .unset, .unset, .unset, .unset, .unset, .unset, .unset, .unset, .unset, .unset, .unset, .unset, .unset]
abbrev La0_70 (p0 : Int32) (q1 : Int64) (q2 : Int64) (q3 : Int64) (b1 : Addr) (b25766 : Addr) (b65634 : Addr) : Array Slot := #[.val (.int p0), .val (.long q1), .second, .val (.long q2), .second, .val (.long q3), .second, .val (.ref b1), .val (.ref b25766), .val (.int (4 : Int32)), .val (.long (32 : Int64)), .second, .val (.int (1 : Int32)), .val (.int (20 : Int32)), .val (.long (31 : Int64)), .second, .val (.long (v0_258bbb q1)), .second, .val (.ref b65634), .unset, .unset, .unset, .unset, .unset, .unset, .unset, .unset, .unset, .unset, .unset, .unset, .unset]
abbrev La0_71 (p0 : Int32) (q1 : Int64) (q2 : Int64) (q3 : Int64) (b1 : Addr) (b25766 : Addr) (b65634 : Addr) : Array Slot := #[.val (.int p0), .val (.long q1), .second, .val (.long q2), .second, .val (.long q3), .second, .val (.ref b1), .val (.ref b25766), .val (.int (4 : Int32)), .val (.long (32 : Int64)), .second, .val (.int (1 : Int32)), .val (.int (20 : Int32)), .val (.long (31 : Int64)), .second, .val (.long (v0_258bbb q1)), .second, .val (.ref b65634), .val (.long q3), .second, .unset, .unset, .unset, .unset, .unset, .unset, .unset, .unset, .unset, .unset, .unset]
abbrev La0_72 (p0 : Int32) (q1 : Int64) (q2 : Int64) (q3 : Int64) (b1 : Addr) (b25766 : Addr) (b65634 : Addr) : Array Slot := #[.val (.int p0), .val (.long q1), .second, .val (.long q2), .second, .val (.long q3), .second, .val (.ref b1), .val (.ref b25766), .val (.int (4 : Int32)), .val (.long (32 : Int64)), .second, .val (.int (1 : Int32)), .val (.int (20 : Int32)), .val (.long (31 : Int64)), .second, .val (.long (v0_258bbb q1)), .second, .val (.ref b65634), .val (.long q3), .second, .val (.long (v0_305bbbb q3 q1)), .second, .unset, .unset, .unset, .unset, .unset, .unset, .unset, .unset, .unset]
abbrev La0_73 (p0 : Int32) (q1 : Int64) (q2 : Int64) (q3 : Int64) (b1 : Addr) (b25766 : Addr) (b65634 : Addr) : Array Slot := #[.val (.int p0), .val (.long q1), .second, .val (.long q2), .second, .val (.long q3), .second, .val (.ref b1), .val (.ref b25766), .val (.int (4 : Int32)), .val (.long (32 : Int64)), .second, .val (.int (1 : Int32)), .val (.int (20 : Int32)), .val (.long (31 : Int64)), .second, .val (.long (v0_258bbb q1)), .second, .val (.ref b65634), .val (.long q3), .second, .val (.long (v0_305bbbb q3 q1)), .second, .val (.long q2), .second, .unset, .unset, .unset, .unset, .unset, .unset, .unset]
abbrev La0_74 (p0 : Int32) (q1 : Int64) (q2 : Int64) (q3 : Int64) (b1 : Addr) (b25766 : Addr) (b65634 : Addr) : Array Slot := #[.val (.int p0), .val (.long q1), .second, .val (.long q2), .second, .val (.long q3), .second, .val (.ref b1), .val (.ref b25766), .val (.int (4 : Int32)), .val (.long (32 : Int64)), .second, .val (.int (1 : Int32)), .val (.int (20 : Int32)), .val (.long (31 : Int64)), .second, .val (.long (v0_258bbb q1)), .second, .val (.ref b65634), .val (.long q3), .second, .val (.long (v0_305bbbb q3 q1)), .second, .val (.long q2), .second, .val (.long q2), .second, .unset, .unset, .unset, .unset, .unset]
abbrev La0_75 (p0 : Int32) (q1 : Int64) (q2 : Int64) (q3 : Int64) (b1 : Addr) (b25766 : Addr) (b65634 : Addr) : Array Slot := #[.val (.int p0), .val (.long q1), .second, .val (.long q2), .second, .val (.long q3), .second, .val (.ref b1), .val (.ref b25766), .val (.int (4 : Int32)), .val (.long (32 : Int64)), .second, .val (.int (1 : Int32)), .val (.int (20 : Int32)), .val (.long (31 : Int64)), .second, .val (.long (v0_258bbb q1)), .second, .val (.ref b65634), .val (.long q3), .second, .val (.long (v0_305bbbb q3 q1)), .second, .val (.long q2), .second, .val (.long q2), .second, .val (.long (32505856 : Int64)), .second, .unset, .unset, .unset]
abbrev La0_76 (p0 : Int32) (q1 : Int64) (q2 : Int64) (q3 : Int64) (b1 : Addr) (b25766 : Addr) (b65634 : Addr) : Array Slot := #[.val (.int p0), .val (.long q1), .second, .val (.long q2), .second, .val (.long q3), .second, .val (.ref b1), .val (.ref b25766), .val (.int (4 : Int32)), .val (.long (32 : Int64)), .second, .val (.int (1 : Int32)), .val (.int (20 : Int32)), .val (.long (31 : Int64)), .second, .val (.long (v0_258bbb q1)), .second, .val (.ref b65634), .val (.long q3), .second, .val (.long (v0_305bbbb q3 q1)), .second, .val (.long q2), .second, .val (.long q2), .second, .val (.long (32505856 : Int64)), .second, .val (.int (v0_375bbbb q3 q1)), .unset, .unset]
abbrev La0_77 (p0 : Int32) (q1 : Int64) (q2 : Int64) (q3 : Int64) (b1 : Addr) (b25766 : Addr) (b65634 : Addr) : Array Slot := #[.val (.int p0), .val (.long q1), .second, .val (.long q2), .second, .val (.long q3), .second, .val (.ref b1), .val (.ref b25766), .val (.int (4 : Int32)), .val (.long (32 : Int64)), .second, .val (.int (1 : Int32)), .val (.int (20 : Int32)), .val (.long (31 : Int64)), .second, .val (.long (v0_258bbb q1)), .second, .val (.ref b65634), .val (.long q3), .second, .val (.long (v0_305bbbb q3 q1)), .second, .val (.long q2), .second, .val (.long q2), .second, .val (.long (32505856 : Int64)), .second, .val (.int (v0_375bbbb q3 q1)), .val (.int (v0_396bbbb q3 q1)), .unset]
abbrev La0_78 (p0 : Int32) (q1 : Int64) (q2 : Int64) (q3 : Int64) (b1 : Addr) (b25766 : Addr) (b65634 : Addr) : Array Slot := #[.val (.int p0), .val (.long q1), .second, .val (.long q2), .second, .val (.long q3), .second, .val (.ref b1), .val (.ref b25766), .val (.int (4 : Int32)), .val (.long (32 : Int64)), .second, .val (.int (1 : Int32)), .val (.int (20 : Int32)), .val (.long (31 : Int64)), .second, .val (.long (v0_258bbb q1)), .second, .val (.ref b65634), .val (.long q3), .second, .val (.long (v0_305bbbb q3 q1)), .second, .val (.long q2), .second, .val (.long q2), .second, .val (.long (32505856 : Int64)), .second, .val (.int (v0_375bbbb q3 q1)), .val (.int (v0_396bbbb q3 q1)), .val (.int (v0_419bbbb q3 q1))]
set_option maxRecDepth 65536 in
set_option maxHeartbeats 40000000 in
theorem j0 {p : Program} {l : Launch} {e : Env} {s : State} {m : MethodId} {args : Array Value} {below : List Frame} {meth : Method} {c : Code} {T0 : State} {locs : List Loc} {Z : State} {a0 : Array Value} {h0 : Heap} {n0 : Nat}
    (X0 : Stand p l e room_1 s m args below meth c T0 locs 0 0) (hx : p.tables.exec = Jvm.exec) (hZ : Z.Warmed39 s.vm) (hw : ∀ d ∈ tables_1, d.before a0 Z = true) (hby : c.code = code) (hml : c.maxLocals = 32) (hown : s.vm.findClass "com/example/ken2/ken2/StateLayoutSetPinLaw" = some m.cls) (hnm : meth.name = "law") (e0 : T0.heap = h0) (N0 : Fr n0 locs) (Z0 : n0 ≤ h0.size) (p0 : Int32) (q1 : Int64) (q2 : Int64) (q3 : Int64) (eE : Addr) (O_E : Sta Z Z.heap "java/util/ArrayList" "DEFAULTCAPACITY_EMPTY_ELEMENTDATA" "[Ljava/lang/Object;" (.ref eE)) (OA_E : Ary Z Z.heap eE (.object "java/lang/Object") 0 (fun _ => .null)) (Old0 : Old Z n0 h0) :
    OwnFinW s X0 (some .boolean) (LQ n0) room_1.cells room_1.slots (mkF m 0 #[.val (.int p0), .val (.long q1), .second, .val (.long q2), .second, .val (.long q3), .second, .unset, .unset, .unset, .unset, .unset, .unset, .unset, .unset, .unset, .unset, .unset, .unset, .unset, .unset, .unset, .unset, .unset, .unset, .unset, .unset, .unset, .unset, .unset, .unset, .unset] []) := by
  obtain ⟨T1, h1, X1, e1, E1, A1, D1, -, st1⟩ := newO X0 hx hZ hown (hw _ (wm 0 rfl)) (hw _ (wm 1 rfl)) (hw _ (wm 2 rfl)) e0 (g := (mkF m 0 (La0_0 p0 q1 q2 q3) [])) rfl (hb hby at_0) (by decide) (by decide)
  obtain ⟨b1, y1⟩ : ∃ z, z = h0.size := ⟨_, rfl⟩
  rw [← y1] at A1 D1 st1
  have K1 := keep_ext E1
  have g_b1 : n0 ≤ b1 := by rw [y1]; exact Z0
  have Z1 := Nat.le_trans Z0 K1.1
  have F1_modCount : Fld Z h1 b1 "java/util/AbstractList" "modCount" "I" (.int (0 : Int32)) := D1 (Or.inl (hw _ (wm 22 rfl))) (ty := .int) (by decide)
  have F1_elementData : Fld Z h1 b1 "java/util/ArrayList" "elementData" "[Ljava/lang/Object;" .null := D1 (Or.inl (hw _ (wm 25 rfl))) (ty := (.array (.object "java/lang/Object"))) (by decide)
  have F1_size : Fld Z h1 b1 "java/util/ArrayList" "size" "I" (.int (0 : Int32)) := D1 (Or.inl (hw _ (wm 66 rfl))) (ty := .int) (by decide)
  refine ostW (mkF m 3 (La0_0 p0 q1 q2 q3) [(.ref b1)]) X1 (fun t k => st1 _ k) ?_
  refine ostW (mkF m 4 (La0_0 p0 q1 q2 q3) [(.ref b1), (.ref b1)]) X1 (fun t k => XS.dup X1.here hx rfl (hb hby at_3) rfl rfl k) ?_
  have Old3052 : Old Z n0 h1 := (Old.keep Old0 K1 all0)
  obtain ⟨_, T2, L2, X2, ⟨rfl, N2q, u3053, u3054, u3055, u3056, u3057⟩, st2⟩ := own_callI X1 hx hZ (y := Y2) (W := 1) (a := b1) (argsL := []) (rest := [(.ref b1)]) rfl hown (hw _ (wm 3 rfl)) (hw _ (wm 4 rfl)) (hw _ (wm 2 rfl)) (hw _ (wm 5 rfl)) (by decide) (rm1s1 l Z a0 hw [] eE b1 h1 n0 Z1 O_E Old3052 A1 F1_modCount F1_elementData F1_size g_b1) (by decide) (by decide) (by decide) (by decide) e1 (g := (mkF m 4 (La0_0 p0 q1 q2 q3) [(.ref b1), (.ref b1)])) rfl (by rw [hml]; rfl) pd_0 rfl rfl (by show 2 * 0 + _ ≤ _; exact Nat.le_of_eq rfl) (hb hby at_4)
  have N2 := Fr.app N0 N2q
  obtain ⟨h2, e2⟩ : ∃ z, T2.heap = z := ⟨_, rfl⟩
  rw [e2] at u3053 u3054 u3055 u3056 u3057
  have K2 := u3053
  have Z2 := Nat.le_trans Z1 K2.1
  refine ostW (mkF m 7 (La0_0 p0 q1 q2 q3) [(.ref b1)]) X2 (fun t k => st2 _ k) ?_
  refine ostW (mkF m 9 (La0_1 p0 q1 q2 q3 b1) []) X2 (fun t k => XS.astore X2.here hx rfl (hb hby at_7) rfl rfl (l' := (La0_1 p0 q1 q2 q3 b1)) rfl k) ?_
  refine ostW (mkF m 11 (La0_1 p0 q1 q2 q3 b1) [(.ref b1)]) X2 (fun t k => XS.aload X2.here hx rfl (hb hby at_9) rfl rfl k) ?_
  obtain ⟨T3058, h3058, X3058, e3058, E3058, A3058, D3058, -, st3058⟩ := newO X2 hx hZ hown (hw _ (wm 26 rfl)) (hw _ (wm 27 rfl)) (hw _ (wm 28 rfl)) e2 (g := (mkF m 11 (La0_1 p0 q1 q2 q3 b1) [(.ref b1)])) rfl (hb hby at_11) (by decide) (by decide)
  obtain ⟨b3058, y3058⟩ : ∃ z, z = h2.size := ⟨_, rfl⟩
  rw [← y3058] at A3058 D3058 st3058
  have K3058 := keep_ext E3058
  have ne_b1_b3058 : b1 ≠ b3058 := Exa.neS u3054 y3058
  have g_b3058 : n0 ≤ b3058 := by rw [y3058]; exact Z2
  have Z3058 := Nat.le_trans Z2 K3058.1
  have F3058_agent : Fld Z h3058 b3058 "com/example/ken2/ken2/InterpretedSystem$Variable" "agent" "Ljava/lang/String;" .null := D3058 (Or.inr (hw _ (wm 49 rfl))) (ty := (.object "java/lang/String")) (by decide)
  have F3058_name : Fld Z h3058 b3058 "com/example/ken2/ken2/InterpretedSystem$Variable" "name" "Ljava/lang/String;" .null := D3058 (Or.inr (hw _ (wm 51 rfl))) (ty := (.object "java/lang/String")) (by decide)
  have F3058_values : Fld Z h3058 b3058 "com/example/ken2/ken2/InterpretedSystem$Variable" "values" "Ljava/util/List;" .null := D3058 (Or.inr (hw _ (wm 53 rfl))) (ty := (.object "java/util/List")) (by decide)
  have F3058_low : Fld Z h3058 b3058 "com/example/ken2/ken2/InterpretedSystem$Variable" "low" "I" (.int (0 : Int32)) := D3058 (Or.inr (hw _ (wm 55 rfl))) (ty := .int) (by decide)
  have F3058_size : Fld Z h3058 b3058 "com/example/ken2/ken2/InterpretedSystem$Variable" "size" "I" (.int (0 : Int32)) := D3058 (Or.inr (hw _ (wm 57 rfl))) (ty := .int) (by decide)
  refine ostW (mkF m 14 (La0_1 p0 q1 q2 q3 b1) [(.ref b3058), (.ref b1)]) X3058 (fun t k => st3058 _ k) ?_
  refine ostW (mkF m 15 (La0_1 p0 q1 q2 q3 b1) [(.ref b3058), (.ref b3058), (.ref b1)]) X3058 (fun t k => XS.dup X3058.here hx rfl (hb hby at_14) rfl rfl k) ?_
  have hSn : s.Since s.vm 0 := State.WarmedH.since (State.WarmedH.refl s) 0
  have hSk : 0 ≤ h3058.size := Nat.zero_le _
  obtain ⟨b3059, T3059, h3059, k3059, X3059, e3059, E3059, hSn, hSk, hZ, hown, st3059⟩ := ldcS (s := s) (vm0 := s.vm) X3058 hx hZ hown (text := "A") (hw _ (wm 29 rfl)) (own_strs hw) e3058 hSn hSk (g := (mkF m 15 (La0_1 p0 q1 q2 q3 b1) [(.ref b3058), (.ref b3058), (.ref b1)])) rfl (hb hby at_15) (n := 4) (by decide) (by decide) (by decide) (by decide)
  have K3059 := keep_ext E3059
  have Z3059 := Nat.le_trans Z3058 K3059.1
  refine ostW (mkF m 17 (La0_1 p0 q1 q2 q3 b1) [(.ref b3059), (.ref b3058), (.ref b3058), (.ref b1)]) X3059 (fun t k => st3059 _ k) ?_
  obtain ⟨b3060, T3060, h3060, k3060, X3060, e3060, E3060, hSn, hSk, hZ, hown, st3060⟩ := ldcS (s := s) (vm0 := T3059.vm) X3059 hx hZ hown (text := "a") (hw _ (wm 37 rfl)) (own_strs hw) e3059 hSn hSk (g := (mkF m 17 (La0_1 p0 q1 q2 q3 b1) [(.ref b3059), (.ref b3058), (.ref b3058), (.ref b1)])) rfl (hb hby at_17) (n := 4) (by decide) (by decide) (by decide) (by decide)
  have K3060 := keep_ext E3060
  have Z3060 := Nat.le_trans Z3059 K3060.1
  refine ostW (mkF m 19 (La0_1 p0 q1 q2 q3 b1) [(.ref b3060), (.ref b3059), (.ref b3058), (.ref b3058), (.ref b1)]) X3060 (fun t k => st3060 _ k) ?_
  refine ostW (mkF m 20 (La0_1 p0 q1 q2 q3 b1) [.null, (.ref b3060), (.ref b3059), (.ref b3058), (.ref b3058), (.ref b1)]) X3060 (fun t k => XS.aconstNull X3060.here hx rfl (hb hby at_19) k) ?_
  refine ostW (mkF m 21 (La0_1 p0 q1 q2 q3 b1) [(.int (0 : Int32)), .null, (.ref b3060), (.ref b3059), (.ref b3058), (.ref b3058), (.ref b1)]) X3060 (fun t k => XS.iconst X3060.here hx rfl (hb hby at_20) k) ?_
  refine ostW (mkF m 23 (La0_1 p0 q1 q2 q3 b1) [(.int (2147483647 : Int32)), (.int (0 : Int32)), .null, (.ref b3060), (.ref b3059), (.ref b3058), (.ref b3058), (.ref b1)]) X3060 (fun t k => X3060.ldcInt hx hown (mvT hZ (hw _ (wm 38 rfl))) (g := (mkF m 21 (La0_1 p0 q1 q2 q3 b1) [(.int (0 : Int32)), .null, (.ref b3060), (.ref b3059), (.ref b3058), (.ref b3058), (.ref b1)])) rfl (hb hby at_21) _ k) ?_
  have E5115 := (Exa.keep (Exa.keep A3058 K3059) K3060)
  have F5116 := ((F3058_agent.keep K3059 nin0).keep K3060 nin0)
  have F5117 := ((F3058_name.keep K3059 nin0).keep K3060 nin0)
  have F5118 := ((F3058_values.keep K3059 nin0).keep K3060 nin0)
  have F5119 := ((F3058_low.keep K3059 nin0).keep K3060 nin0)
  have F5120 := ((F3058_size.keep K3059 nin0).keep K3060 nin0)
  obtain ⟨_, T3061, L3061, X3061, ⟨rfl, N3061q, u5121, u5122, u5123, u5124, u5125, u5126, u5127⟩, st3061⟩ := own_callI X3060 hx hZ (y := Y4) (W := 2) (a := b3058) (argsL := [(.ref b3059), (.ref b3060), .null, (.int (0 : Int32)), (.int (2147483647 : Int32))]) (rest := [(.ref b3058), (.ref b1)]) rfl hown (hw _ (wm 39 rfl)) (hw _ (wm 40 rfl)) (hw _ (wm 28 rfl)) (hw _ (wm 41 rfl)) (by decide) (rm5s4 l Z a0 hw [] b3059 b3060 b3058 h3060 n0 Z3060 E5115 F5116 F5117 F5118 F5119 F5120 g_b3058) (by decide) (by decide) (by decide) (by decide) e3060 (g := (mkF m 23 (La0_1 p0 q1 q2 q3 b1) [(.int (2147483647 : Int32)), (.int (0 : Int32)), .null, (.ref b3060), (.ref b3059), (.ref b3058), (.ref b3058), (.ref b1)])) rfl (by rw [hml]; rfl) pd_1 rfl rfl (by show 2 * 0 + _ ≤ _; exact Nat.le_of_eq rfl) (hb hby at_23)
  have N3061 := Fr.app N2 N3061q
  obtain ⟨h3061, e3061⟩ : ∃ z, T3061.heap = z := ⟨_, rfl⟩
  rw [e3061] at u5121 u5122 u5123 u5124 u5125 u5126 u5127
  have K3061 := u5121
  have Z3061 := Nat.le_trans Z3060 K3061.1
  refine ostW (mkF m 26 (La0_1 p0 q1 q2 q3 b1) [(.ref b3058), (.ref b1)]) X3061 (fun t k => st3061 _ k) ?_
  have Old9231 : Old Z n0 h3061 := (Old.keep (Old.keep (Old.keep (Old.keep (Old.keep Old3052 K2 (allS g_b1 all0)) K3058 all0) K3059 all0) K3060 all0) K3061 (allS g_b3058 all0))
  have E9232 := (Exa.keep (Exa.keep (Exa.keep (Exa.keep u3054 K3058) K3059) K3060) K3061)
  have F9233 := ((((u3055.keep K3058 nin0).keep K3059 nin0).keep K3060 nin0).keep K3061 (ninS ne_b1_b3058 nin0))
  have F9234 := ((((u3056.keep K3058 nin0).keep K3059 nin0).keep K3060 nin0).keep K3061 (ninS ne_b1_b3058 nin0))
  have F9235 := ((((u3057.keep K3058 nin0).keep K3059 nin0).keep K3060 nin0).keep K3061 (ninS ne_b1_b3058 nin0))
  obtain ⟨_, T5128, L5128, X5128, ⟨b9144, rfl, N5128q, u9236, u9237, u9238, u9239, u9240, u9241, u9242, u9243⟩, st5128⟩ := own_callV X3061 hx hZ (y := Y9) (W := 0) (a := b1) (argsL := [(.ref b3058)]) (rest := []) hown (hw _ (wm 58 rfl)) (hw _ (wm 59 rfl)) (hw _ (wm 61 rfl)) (hw _ (wm 60 rfl)) (hw _ (wm 2 rfl)) (hw _ (wm 62 rfl)) (by decide) E9232 (rm7s6 l Z a0 hw [] eE b1 b3058 h3061 n0 Z3061 O_E OA_E Old9231 E9232 F9233 F9234 F9235 g_b1 u5122) (by decide) (by decide) (by decide) (by decide) e3061 (g := (mkF m 26 (La0_1 p0 q1 q2 q3 b1) [(.ref b3058), (.ref b1)])) rfl (by rw [hml]; rfl) pd_6 rfl rfl (by show 2 * 0 + _ ≤ _; exact Nat.le_of_eq rfl) (hb hby at_26)
  have N5128 := Fr.app N3061 N5128q
  obtain ⟨h5128, e5128⟩ : ∃ z, T5128.heap = z := ⟨_, rfl⟩
  rw [e5128] at u9236 u9237 u9238 u9239 u9240 u9241
  have K5128 := u9236
  have Z5128 := Nat.le_trans Z3061 K5128.1
  have ne_b1_b9144 : b1 ≠ b9144 := Nat.ne_of_lt (Nat.lt_of_lt_of_le (E9232).lt u9243)
  have ne_b3058_b9144 : b3058 ≠ b9144 := Nat.ne_of_lt (Nat.lt_of_lt_of_le (u5122).lt u9243)
  refine ostW (mkF m 29 (La0_1 p0 q1 q2 q3 b1) [(.int (1 : Int32))]) X5128 (fun t k => st5128 _ k) ?_
  refine ostW (mkF m 30 (La0_1 p0 q1 q2 q3 b1) []) X5128 (fun t k => XT.pop X5128.here hx rfl (hb hby at_29) rfl rfl k) ?_
  refine ostW (mkF m 32 (La0_1 p0 q1 q2 q3 b1) [(.ref b1)]) X5128 (fun t k => XS.aload X5128.here hx rfl (hb hby at_30) rfl rfl k) ?_
  obtain ⟨T9244, h9244, X9244, e9244, E9244, A9244, D9244, -, st9244⟩ := newO X5128 hx hZ hown (hw _ (wm 26 rfl)) (hw _ (wm 27 rfl)) (hw _ (wm 28 rfl)) e5128 (g := (mkF m 32 (La0_1 p0 q1 q2 q3 b1) [(.ref b1)])) rfl (hb hby at_32) (by decide) (by decide)
  obtain ⟨b9244, y9244⟩ : ∃ z, z = h5128.size := ⟨_, rfl⟩
  rw [← y9244] at A9244 D9244 st9244
  have K9244 := keep_ext E9244
  have ne_b1_b9244 : b1 ≠ b9244 := Exa.neS u9237 y9244
  have E9245 := (Exa.keep u5122 K5128)
  have ne_b3058_b9244 : b3058 ≠ b9244 := Exa.neS E9245 y9244
  have ne_b9144_b9244 : b9144 ≠ b9244 := AryR.neS u9241 y9244
  have g_b9244 : n0 ≤ b9244 := by rw [y9244]; exact Z5128
  have Z9244 := Nat.le_trans Z5128 K9244.1
  have F9244_agent : Fld Z h9244 b9244 "com/example/ken2/ken2/InterpretedSystem$Variable" "agent" "Ljava/lang/String;" .null := D9244 (Or.inr (hw _ (wm 49 rfl))) (ty := (.object "java/lang/String")) (by decide)
  have F9244_name : Fld Z h9244 b9244 "com/example/ken2/ken2/InterpretedSystem$Variable" "name" "Ljava/lang/String;" .null := D9244 (Or.inr (hw _ (wm 51 rfl))) (ty := (.object "java/lang/String")) (by decide)
  have F9244_values : Fld Z h9244 b9244 "com/example/ken2/ken2/InterpretedSystem$Variable" "values" "Ljava/util/List;" .null := D9244 (Or.inr (hw _ (wm 53 rfl))) (ty := (.object "java/util/List")) (by decide)
  have F9244_low : Fld Z h9244 b9244 "com/example/ken2/ken2/InterpretedSystem$Variable" "low" "I" (.int (0 : Int32)) := D9244 (Or.inr (hw _ (wm 55 rfl))) (ty := .int) (by decide)
  have F9244_size : Fld Z h9244 b9244 "com/example/ken2/ken2/InterpretedSystem$Variable" "size" "I" (.int (0 : Int32)) := D9244 (Or.inr (hw _ (wm 57 rfl))) (ty := .int) (by decide)
  refine ostW (mkF m 35 (La0_1 p0 q1 q2 q3 b1) [(.ref b9244), (.ref b1)]) X9244 (fun t k => st9244 _ k) ?_
  refine ostW (mkF m 36 (La0_1 p0 q1 q2 q3 b1) [(.ref b9244), (.ref b9244), (.ref b1)]) X9244 (fun t k => XS.dup X9244.here hx rfl (hb hby at_35) rfl rfl k) ?_
  have hSk := (Nat.le_trans (Nat.le_trans (Nat.le_trans hSk K3061.1) K5128.1) K9244.1)
  obtain ⟨b9246, T9246, h9246, k9246, X9246, e9246, E9246, hSn, hSk, hZ, hown, st9246⟩ := ldcS (s := s) (vm0 := T3060.vm) X9244 hx hZ hown (text := "A") (hw _ (wm 29 rfl)) (own_strs hw) e9244 hSn hSk (g := (mkF m 36 (La0_1 p0 q1 q2 q3 b1) [(.ref b9244), (.ref b9244), (.ref b1)])) rfl (hb hby at_36) (n := 4) (by decide) (by decide) (by decide) (by decide)
  have K9246 := keep_ext E9246
  have Z9246 := Nat.le_trans Z9244 K9246.1
  refine ostW (mkF m 38 (La0_1 p0 q1 q2 q3 b1) [(.ref b9246), (.ref b9244), (.ref b9244), (.ref b1)]) X9246 (fun t k => st9246 _ k) ?_
  obtain ⟨b9247, T9247, h9247, k9247, X9247, e9247, E9247, hSn, hSk, hZ, hown, st9247⟩ := ldcS (s := s) (vm0 := T9246.vm) X9246 hx hZ hown (text := "b") (hw _ (wm 89 rfl)) (own_strs hw) e9246 hSn hSk (g := (mkF m 38 (La0_1 p0 q1 q2 q3 b1) [(.ref b9246), (.ref b9244), (.ref b9244), (.ref b1)])) rfl (hb hby at_38) (n := 4) (by decide) (by decide) (by decide) (by decide)
  have K9247 := keep_ext E9247
  have Z9247 := Nat.le_trans Z9246 K9247.1
  refine ostW (mkF m 40 (La0_1 p0 q1 q2 q3 b1) [(.ref b9247), (.ref b9246), (.ref b9244), (.ref b9244), (.ref b1)]) X9247 (fun t k => st9247 _ k) ?_
  refine ostW (mkF m 41 (La0_1 p0 q1 q2 q3 b1) [.null, (.ref b9247), (.ref b9246), (.ref b9244), (.ref b9244), (.ref b1)]) X9247 (fun t k => XS.aconstNull X9247.here hx rfl (hb hby at_40) k) ?_
  refine ostW (mkF m 42 (La0_1 p0 q1 q2 q3 b1) [(.int (0 : Int32)), .null, (.ref b9247), (.ref b9246), (.ref b9244), (.ref b9244), (.ref b1)]) X9247 (fun t k => XS.iconst X9247.here hx rfl (hb hby at_41) k) ?_
  refine ostW (mkF m 44 (La0_1 p0 q1 q2 q3 b1) [(.int (2147483647 : Int32)), (.int (0 : Int32)), .null, (.ref b9247), (.ref b9246), (.ref b9244), (.ref b9244), (.ref b1)]) X9247 (fun t k => X9247.ldcInt hx hown (mvT hZ (hw _ (wm 38 rfl))) (g := (mkF m 42 (La0_1 p0 q1 q2 q3 b1) [(.int (0 : Int32)), .null, (.ref b9247), (.ref b9246), (.ref b9244), (.ref b9244), (.ref b1)])) rfl (hb hby at_42) _ k) ?_
  have E11302 := (Exa.keep (Exa.keep A9244 K9246) K9247)
  have F11303 := ((F9244_agent.keep K9246 nin0).keep K9247 nin0)
  have F11304 := ((F9244_name.keep K9246 nin0).keep K9247 nin0)
  have F11305 := ((F9244_values.keep K9246 nin0).keep K9247 nin0)
  have F11306 := ((F9244_low.keep K9246 nin0).keep K9247 nin0)
  have F11307 := ((F9244_size.keep K9246 nin0).keep K9247 nin0)
  obtain ⟨_, T9248, L9248, X9248, ⟨rfl, N9248q, u11308, u11309, u11310, u11311, u11312, u11313, u11314⟩, st9248⟩ := own_callI X9247 hx hZ (y := Y4) (W := 2) (a := b9244) (argsL := [(.ref b9246), (.ref b9247), .null, (.int (0 : Int32)), (.int (2147483647 : Int32))]) (rest := [(.ref b9244), (.ref b1)]) rfl hown (hw _ (wm 39 rfl)) (hw _ (wm 40 rfl)) (hw _ (wm 28 rfl)) (hw _ (wm 41 rfl)) (by decide) (rm5s10 l Z a0 hw [] b9246 b9247 b9244 h9247 n0 Z9247 E11302 F11303 F11304 F11305 F11306 F11307 g_b9244) (by decide) (by decide) (by decide) (by decide) e9247 (g := (mkF m 44 (La0_1 p0 q1 q2 q3 b1) [(.int (2147483647 : Int32)), (.int (0 : Int32)), .null, (.ref b9247), (.ref b9246), (.ref b9244), (.ref b9244), (.ref b1)])) rfl (by rw [hml]; rfl) pd_1 rfl rfl (by show 2 * 0 + _ ≤ _; exact Nat.le_of_eq rfl) (hb hby at_44)
  have N9248 := Fr.app N5128 N9248q
  obtain ⟨h9248, e9248⟩ : ∃ z, T9248.heap = z := ⟨_, rfl⟩
  rw [e9248] at u11308 u11309 u11310 u11311 u11312 u11313 u11314
  have K9248 := u11308
  have Z9248 := Nat.le_trans Z9247 K9248.1
  refine ostW (mkF m 47 (La0_1 p0 q1 q2 q3 b1) [(.ref b9244), (.ref b1)]) X9248 (fun t k => st9248 _ k) ?_
  have E13362 := (Exa.keep (Exa.keep (Exa.keep (Exa.keep u9237 K9244) K9246) K9247) K9248)
  have F13363 := ((((u9238.keep K9244 nin0).keep K9246 nin0).keep K9247 nin0).keep K9248 (ninS ne_b1_b9244 nin0))
  have F13364 := ((((u9239.keep K9244 nin0).keep K9246 nin0).keep K9247 nin0).keep K9248 (ninS ne_b1_b9244 nin0))
  have F13365 := ((((u9240.keep K9244 nin0).keep K9246 nin0).keep K9247 nin0).keep K9248 (ninS ne_b1_b9244 nin0))
  have A13366 := ((((u9241.keep K9244 nin0).keep K9246 nin0).keep K9247 nin0).keep K9248 (ninS ne_b9144_b9244 nin0))
  obtain ⟨_, T11315, L11315, X11315, ⟨rfl, N11315q, u13367, u13368, u13369, u13370, u13371, u13372⟩, st11315⟩ := own_callV X9248 hx hZ (y := Y9) (W := 0) (a := b1) (argsL := [(.ref b9244)]) (rest := []) hown (hw _ (wm 58 rfl)) (hw _ (wm 59 rfl)) (hw _ (wm 61 rfl)) (hw _ (wm 60 rfl)) (hw _ (wm 2 rfl)) (hw _ (wm 62 rfl)) (by decide) E13362 (rm7s12 l Z a0 hw [] b1 b3058 b9144 b9244 h9248 n0 Z9248 E13362 F13363 F13364 F13365 g_b1 A13366 u9242 u11309 ne_b1_b9144) (by decide) (by decide) (by decide) (by decide) e9248 (g := (mkF m 47 (La0_1 p0 q1 q2 q3 b1) [(.ref b9244), (.ref b1)])) rfl (by rw [hml]; rfl) pd_6 rfl rfl (by show 2 * 0 + _ ≤ _; exact Nat.le_of_eq rfl) (hb hby at_47)
  have N11315 := Fr.app N9248 N11315q
  obtain ⟨h11315, e11315⟩ : ∃ z, T11315.heap = z := ⟨_, rfl⟩
  rw [e11315] at u13367 u13368 u13369 u13370 u13371 u13372
  have K11315 := u13367
  have Z11315 := Nat.le_trans Z9248 K11315.1
  refine ostW (mkF m 50 (La0_1 p0 q1 q2 q3 b1) [(.int (1 : Int32))]) X11315 (fun t k => st11315 _ k) ?_
  refine ostW (mkF m 51 (La0_1 p0 q1 q2 q3 b1) []) X11315 (fun t k => XT.pop X11315.here hx rfl (hb hby at_50) rfl rfl k) ?_
  refine ostW (mkF m 53 (La0_1 p0 q1 q2 q3 b1) [(.ref b1)]) X11315 (fun t k => XS.aload X11315.here hx rfl (hb hby at_51) rfl rfl k) ?_
  obtain ⟨T13373, h13373, X13373, e13373, E13373, A13373, D13373, -, st13373⟩ := newO X11315 hx hZ hown (hw _ (wm 26 rfl)) (hw _ (wm 27 rfl)) (hw _ (wm 28 rfl)) e11315 (g := (mkF m 53 (La0_1 p0 q1 q2 q3 b1) [(.ref b1)])) rfl (hb hby at_53) (by decide) (by decide)
  obtain ⟨b13373, y13373⟩ : ∃ z, z = h11315.size := ⟨_, rfl⟩
  rw [← y13373] at A13373 D13373 st13373
  have K13373 := keep_ext E13373
  have ne_b1_b13373 : b1 ≠ b13373 := Exa.neS u13368 y13373
  have E13374 := (Exa.keep (Exa.keep (Exa.keep (Exa.keep (Exa.keep E9245 K9244) K9246) K9247) K9248) K11315)
  have ne_b3058_b13373 : b3058 ≠ b13373 := Exa.neS E13374 y13373
  have ne_b9144_b13373 : b9144 ≠ b13373 := AryR.neS u13372 y13373
  have E13375 := (Exa.keep u11309 K11315)
  have ne_b9244_b13373 : b9244 ≠ b13373 := Exa.neS E13375 y13373
  have g_b13373 : n0 ≤ b13373 := by rw [y13373]; exact Z11315
  have Z13373 := Nat.le_trans Z11315 K13373.1
  have F13373_agent : Fld Z h13373 b13373 "com/example/ken2/ken2/InterpretedSystem$Variable" "agent" "Ljava/lang/String;" .null := D13373 (Or.inr (hw _ (wm 49 rfl))) (ty := (.object "java/lang/String")) (by decide)
  have F13373_name : Fld Z h13373 b13373 "com/example/ken2/ken2/InterpretedSystem$Variable" "name" "Ljava/lang/String;" .null := D13373 (Or.inr (hw _ (wm 51 rfl))) (ty := (.object "java/lang/String")) (by decide)
  have F13373_values : Fld Z h13373 b13373 "com/example/ken2/ken2/InterpretedSystem$Variable" "values" "Ljava/util/List;" .null := D13373 (Or.inr (hw _ (wm 53 rfl))) (ty := (.object "java/util/List")) (by decide)
  have F13373_low : Fld Z h13373 b13373 "com/example/ken2/ken2/InterpretedSystem$Variable" "low" "I" (.int (0 : Int32)) := D13373 (Or.inr (hw _ (wm 55 rfl))) (ty := .int) (by decide)
  have F13373_size : Fld Z h13373 b13373 "com/example/ken2/ken2/InterpretedSystem$Variable" "size" "I" (.int (0 : Int32)) := D13373 (Or.inr (hw _ (wm 57 rfl))) (ty := .int) (by decide)
  refine ostW (mkF m 56 (La0_1 p0 q1 q2 q3 b1) [(.ref b13373), (.ref b1)]) X13373 (fun t k => st13373 _ k) ?_
  refine ostW (mkF m 57 (La0_1 p0 q1 q2 q3 b1) [(.ref b13373), (.ref b13373), (.ref b1)]) X13373 (fun t k => XS.dup X13373.here hx rfl (hb hby at_56) rfl rfl k) ?_
  have hSk := (Nat.le_trans (Nat.le_trans (Nat.le_trans hSk K9248.1) K11315.1) K13373.1)
  obtain ⟨b13376, T13376, h13376, k13376, X13376, e13376, E13376, hSn, hSk, hZ, hown, st13376⟩ := ldcS (s := s) (vm0 := T9247.vm) X13373 hx hZ hown (text := "A") (hw _ (wm 29 rfl)) (own_strs hw) e13373 hSn hSk (g := (mkF m 57 (La0_1 p0 q1 q2 q3 b1) [(.ref b13373), (.ref b13373), (.ref b1)])) rfl (hb hby at_57) (n := 4) (by decide) (by decide) (by decide) (by decide)
  have K13376 := keep_ext E13376
  have Z13376 := Nat.le_trans Z13373 K13376.1
  refine ostW (mkF m 59 (La0_1 p0 q1 q2 q3 b1) [(.ref b13376), (.ref b13373), (.ref b13373), (.ref b1)]) X13376 (fun t k => st13376 _ k) ?_
  obtain ⟨b13377, T13377, h13377, k13377, X13377, e13377, E13377, hSn, hSk, hZ, hown, st13377⟩ := ldcS (s := s) (vm0 := T13376.vm) X13376 hx hZ hown (text := "c") (hw _ (wm 90 rfl)) (own_strs hw) e13376 hSn hSk (g := (mkF m 59 (La0_1 p0 q1 q2 q3 b1) [(.ref b13376), (.ref b13373), (.ref b13373), (.ref b1)])) rfl (hb hby at_59) (n := 4) (by decide) (by decide) (by decide) (by decide)
  have K13377 := keep_ext E13377
  have Z13377 := Nat.le_trans Z13376 K13377.1
  refine ostW (mkF m 61 (La0_1 p0 q1 q2 q3 b1) [(.ref b13377), (.ref b13376), (.ref b13373), (.ref b13373), (.ref b1)]) X13377 (fun t k => st13377 _ k) ?_
  refine ostW (mkF m 62 (La0_1 p0 q1 q2 q3 b1) [.null, (.ref b13377), (.ref b13376), (.ref b13373), (.ref b13373), (.ref b1)]) X13377 (fun t k => XS.aconstNull X13377.here hx rfl (hb hby at_61) k) ?_
  refine ostW (mkF m 63 (La0_1 p0 q1 q2 q3 b1) [(.int (0 : Int32)), .null, (.ref b13377), (.ref b13376), (.ref b13373), (.ref b13373), (.ref b1)]) X13377 (fun t k => XS.iconst X13377.here hx rfl (hb hby at_62) k) ?_
  refine ostW (mkF m 64 (La0_1 p0 q1 q2 q3 b1) [(.int (4 : Int32)), (.int (0 : Int32)), .null, (.ref b13377), (.ref b13376), (.ref b13373), (.ref b13373), (.ref b1)]) X13377 (fun t k => XS.iconst X13377.here hx rfl (hb hby at_63) k) ?_
  have E15432 := (Exa.keep (Exa.keep A13373 K13376) K13377)
  have F15433 := ((F13373_agent.keep K13376 nin0).keep K13377 nin0)
  have F15434 := ((F13373_name.keep K13376 nin0).keep K13377 nin0)
  have F15435 := ((F13373_values.keep K13376 nin0).keep K13377 nin0)
  have F15436 := ((F13373_low.keep K13376 nin0).keep K13377 nin0)
  have F15437 := ((F13373_size.keep K13376 nin0).keep K13377 nin0)
  obtain ⟨_, T13378, L13378, X13378, ⟨rfl, N13378q, u15438, u15439, u15440, u15441, u15442, u15443, u15444⟩, st13378⟩ := own_callI X13377 hx hZ (y := Y4) (W := 2) (a := b13373) (argsL := [(.ref b13376), (.ref b13377), .null, (.int (0 : Int32)), (.int (4 : Int32))]) (rest := [(.ref b13373), (.ref b1)]) rfl hown (hw _ (wm 39 rfl)) (hw _ (wm 40 rfl)) (hw _ (wm 28 rfl)) (hw _ (wm 41 rfl)) (by decide) (rm5s14 l Z a0 hw [] b13376 b13377 b13373 h13377 n0 Z13377 E15432 F15433 F15434 F15435 F15436 F15437 g_b13373) (by decide) (by decide) (by decide) (by decide) e13377 (g := (mkF m 64 (La0_1 p0 q1 q2 q3 b1) [(.int (4 : Int32)), (.int (0 : Int32)), .null, (.ref b13377), (.ref b13376), (.ref b13373), (.ref b13373), (.ref b1)])) rfl (by rw [hml]; rfl) pd_1 rfl rfl (by show 2 * 0 + _ ≤ _; exact Nat.le_of_eq rfl) (hb hby at_64)
  have N13378 := Fr.app N11315 N13378q
  obtain ⟨h13378, e13378⟩ : ∃ z, T13378.heap = z := ⟨_, rfl⟩
  rw [e13378] at u15438 u15439 u15440 u15441 u15442 u15443 u15444
  have K13378 := u15438
  have Z13378 := Nat.le_trans Z13377 K13378.1
  refine ostW (mkF m 67 (La0_1 p0 q1 q2 q3 b1) [(.ref b13373), (.ref b1)]) X13378 (fun t k => st13378 _ k) ?_
  have E17492 := (Exa.keep (Exa.keep (Exa.keep (Exa.keep u13368 K13373) K13376) K13377) K13378)
  have F17493 := ((((u13369.keep K13373 nin0).keep K13376 nin0).keep K13377 nin0).keep K13378 (ninS ne_b1_b13373 nin0))
  have F17494 := ((((u13370.keep K13373 nin0).keep K13376 nin0).keep K13377 nin0).keep K13378 (ninS ne_b1_b13373 nin0))
  have F17495 := ((((u13371.keep K13373 nin0).keep K13376 nin0).keep K13377 nin0).keep K13378 (ninS ne_b1_b13373 nin0))
  have A17496 := ((((u13372.keep K13373 nin0).keep K13376 nin0).keep K13377 nin0).keep K13378 (ninS ne_b9144_b13373 nin0))
  obtain ⟨_, T15445, L15445, X15445, ⟨rfl, N15445q, u17497, u17498, u17499, u17500, u17501, u17502⟩, st15445⟩ := own_callV X13378 hx hZ (y := Y9) (W := 0) (a := b1) (argsL := [(.ref b13373)]) (rest := []) hown (hw _ (wm 58 rfl)) (hw _ (wm 59 rfl)) (hw _ (wm 61 rfl)) (hw _ (wm 60 rfl)) (hw _ (wm 2 rfl)) (hw _ (wm 62 rfl)) (by decide) E17492 (rm7s16 l Z a0 hw [] b1 b3058 b9144 b9244 b13373 h13378 n0 Z13378 E17492 F17493 F17494 F17495 g_b1 A17496 u9242 u15439 ne_b1_b9144) (by decide) (by decide) (by decide) (by decide) e13378 (g := (mkF m 67 (La0_1 p0 q1 q2 q3 b1) [(.ref b13373), (.ref b1)])) rfl (by rw [hml]; rfl) pd_6 rfl rfl (by show 2 * 0 + _ ≤ _; exact Nat.le_of_eq rfl) (hb hby at_67)
  have N15445 := Fr.app N13378 N15445q
  obtain ⟨h15445, e15445⟩ : ∃ z, T15445.heap = z := ⟨_, rfl⟩
  rw [e15445] at u17497 u17498 u17499 u17500 u17501 u17502
  have K15445 := u17497
  have Z15445 := Nat.le_trans Z13378 K15445.1
  refine ostW (mkF m 70 (La0_1 p0 q1 q2 q3 b1) [(.int (1 : Int32))]) X15445 (fun t k => st15445 _ k) ?_
  refine ostW (mkF m 71 (La0_1 p0 q1 q2 q3 b1) []) X15445 (fun t k => XT.pop X15445.here hx rfl (hb hby at_70) rfl rfl k) ?_
  refine ostW (mkF m 73 (La0_1 p0 q1 q2 q3 b1) [(.ref b1)]) X15445 (fun t k => XS.aload X15445.here hx rfl (hb hby at_71) rfl rfl k) ?_
  obtain ⟨T17503, h17503, X17503, e17503, E17503, A17503, D17503, -, st17503⟩ := newO X15445 hx hZ hown (hw _ (wm 26 rfl)) (hw _ (wm 27 rfl)) (hw _ (wm 28 rfl)) e15445 (g := (mkF m 73 (La0_1 p0 q1 q2 q3 b1) [(.ref b1)])) rfl (hb hby at_73) (by decide) (by decide)
  obtain ⟨b17503, y17503⟩ : ∃ z, z = h15445.size := ⟨_, rfl⟩
  rw [← y17503] at A17503 D17503 st17503
  have K17503 := keep_ext E17503
  have ne_b1_b17503 : b1 ≠ b17503 := Exa.neS u17498 y17503
  have E17504 := (Exa.keep (Exa.keep (Exa.keep (Exa.keep (Exa.keep E13374 K13373) K13376) K13377) K13378) K15445)
  have ne_b3058_b17503 : b3058 ≠ b17503 := Exa.neS E17504 y17503
  have ne_b9144_b17503 : b9144 ≠ b17503 := AryR.neS u17502 y17503
  have E17505 := (Exa.keep (Exa.keep (Exa.keep (Exa.keep (Exa.keep E13375 K13373) K13376) K13377) K13378) K15445)
  have ne_b9244_b17503 : b9244 ≠ b17503 := Exa.neS E17505 y17503
  have E17506 := (Exa.keep u15439 K15445)
  have ne_b13373_b17503 : b13373 ≠ b17503 := Exa.neS E17506 y17503
  have g_b17503 : n0 ≤ b17503 := by rw [y17503]; exact Z15445
  have Z17503 := Nat.le_trans Z15445 K17503.1
  have F17503_agent : Fld Z h17503 b17503 "com/example/ken2/ken2/InterpretedSystem$Variable" "agent" "Ljava/lang/String;" .null := D17503 (Or.inr (hw _ (wm 49 rfl))) (ty := (.object "java/lang/String")) (by decide)
  have F17503_name : Fld Z h17503 b17503 "com/example/ken2/ken2/InterpretedSystem$Variable" "name" "Ljava/lang/String;" .null := D17503 (Or.inr (hw _ (wm 51 rfl))) (ty := (.object "java/lang/String")) (by decide)
  have F17503_values : Fld Z h17503 b17503 "com/example/ken2/ken2/InterpretedSystem$Variable" "values" "Ljava/util/List;" .null := D17503 (Or.inr (hw _ (wm 53 rfl))) (ty := (.object "java/util/List")) (by decide)
  have F17503_low : Fld Z h17503 b17503 "com/example/ken2/ken2/InterpretedSystem$Variable" "low" "I" (.int (0 : Int32)) := D17503 (Or.inr (hw _ (wm 55 rfl))) (ty := .int) (by decide)
  have F17503_size : Fld Z h17503 b17503 "com/example/ken2/ken2/InterpretedSystem$Variable" "size" "I" (.int (0 : Int32)) := D17503 (Or.inr (hw _ (wm 57 rfl))) (ty := .int) (by decide)
  refine ostW (mkF m 76 (La0_1 p0 q1 q2 q3 b1) [(.ref b17503), (.ref b1)]) X17503 (fun t k => st17503 _ k) ?_
  refine ostW (mkF m 77 (La0_1 p0 q1 q2 q3 b1) [(.ref b17503), (.ref b17503), (.ref b1)]) X17503 (fun t k => XS.dup X17503.here hx rfl (hb hby at_76) rfl rfl k) ?_
  have hSk := (Nat.le_trans (Nat.le_trans (Nat.le_trans hSk K13378.1) K15445.1) K17503.1)
  obtain ⟨b17507, T17507, h17507, k17507, X17507, e17507, E17507, hSn, hSk, hZ, hown, st17507⟩ := ldcS (s := s) (vm0 := T13377.vm) X17503 hx hZ hown (text := "A") (hw _ (wm 29 rfl)) (own_strs hw) e17503 hSn hSk (g := (mkF m 77 (La0_1 p0 q1 q2 q3 b1) [(.ref b17503), (.ref b17503), (.ref b1)])) rfl (hb hby at_77) (n := 4) (by decide) (by decide) (by decide) (by decide)
  have K17507 := keep_ext E17507
  have Z17507 := Nat.le_trans Z17503 K17507.1
  refine ostW (mkF m 79 (La0_1 p0 q1 q2 q3 b1) [(.ref b17507), (.ref b17503), (.ref b17503), (.ref b1)]) X17507 (fun t k => st17507 _ k) ?_
  obtain ⟨b17508, T17508, h17508, k17508, X17508, e17508, E17508, hSn, hSk, hZ, hown, st17508⟩ := ldcS (s := s) (vm0 := T17507.vm) X17507 hx hZ hown (text := "d") (hw _ (wm 91 rfl)) (own_strs hw) e17507 hSn hSk (g := (mkF m 79 (La0_1 p0 q1 q2 q3 b1) [(.ref b17507), (.ref b17503), (.ref b17503), (.ref b1)])) rfl (hb hby at_79) (n := 4) (by decide) (by decide) (by decide) (by decide)
  have K17508 := keep_ext E17508
  have Z17508 := Nat.le_trans Z17507 K17508.1
  refine ostW (mkF m 81 (La0_1 p0 q1 q2 q3 b1) [(.ref b17508), (.ref b17507), (.ref b17503), (.ref b17503), (.ref b1)]) X17508 (fun t k => st17508 _ k) ?_
  refine ostW (mkF m 82 (La0_1 p0 q1 q2 q3 b1) [.null, (.ref b17508), (.ref b17507), (.ref b17503), (.ref b17503), (.ref b1)]) X17508 (fun t k => XS.aconstNull X17508.here hx rfl (hb hby at_81) k) ?_
  refine ostW (mkF m 83 (La0_1 p0 q1 q2 q3 b1) [(.int (0 : Int32)), .null, (.ref b17508), (.ref b17507), (.ref b17503), (.ref b17503), (.ref b1)]) X17508 (fun t k => XS.iconst X17508.here hx rfl (hb hby at_82) k) ?_
  refine ostW (mkF m 85 (La0_1 p0 q1 q2 q3 b1) [(.int (1048576 : Int32)), (.int (0 : Int32)), .null, (.ref b17508), (.ref b17507), (.ref b17503), (.ref b17503), (.ref b1)]) X17508 (fun t k => X17508.ldcInt hx hown (mvT hZ (hw _ (wm 92 rfl))) (g := (mkF m 83 (La0_1 p0 q1 q2 q3 b1) [(.int (0 : Int32)), .null, (.ref b17508), (.ref b17507), (.ref b17503), (.ref b17503), (.ref b1)])) rfl (hb hby at_83) _ k) ?_
  have E19563 := (Exa.keep (Exa.keep A17503 K17507) K17508)
  have F19564 := ((F17503_agent.keep K17507 nin0).keep K17508 nin0)
  have F19565 := ((F17503_name.keep K17507 nin0).keep K17508 nin0)
  have F19566 := ((F17503_values.keep K17507 nin0).keep K17508 nin0)
  have F19567 := ((F17503_low.keep K17507 nin0).keep K17508 nin0)
  have F19568 := ((F17503_size.keep K17507 nin0).keep K17508 nin0)
  obtain ⟨_, T17509, L17509, X17509, ⟨rfl, N17509q, u19569, u19570, u19571, u19572, u19573, u19574, u19575⟩, st17509⟩ := own_callI X17508 hx hZ (y := Y4) (W := 2) (a := b17503) (argsL := [(.ref b17507), (.ref b17508), .null, (.int (0 : Int32)), (.int (1048576 : Int32))]) (rest := [(.ref b17503), (.ref b1)]) rfl hown (hw _ (wm 39 rfl)) (hw _ (wm 40 rfl)) (hw _ (wm 28 rfl)) (hw _ (wm 41 rfl)) (by decide) (rm5s18 l Z a0 hw [] b17507 b17508 b17503 h17508 n0 Z17508 E19563 F19564 F19565 F19566 F19567 F19568 g_b17503) (by decide) (by decide) (by decide) (by decide) e17508 (g := (mkF m 85 (La0_1 p0 q1 q2 q3 b1) [(.int (1048576 : Int32)), (.int (0 : Int32)), .null, (.ref b17508), (.ref b17507), (.ref b17503), (.ref b17503), (.ref b1)])) rfl (by rw [hml]; rfl) pd_1 rfl rfl (by show 2 * 0 + _ ≤ _; exact Nat.le_of_eq rfl) (hb hby at_85)
  have N17509 := Fr.app N15445 N17509q
  obtain ⟨h17509, e17509⟩ : ∃ z, T17509.heap = z := ⟨_, rfl⟩
  rw [e17509] at u19569 u19570 u19571 u19572 u19573 u19574 u19575
  have K17509 := u19569
  have Z17509 := Nat.le_trans Z17508 K17509.1
  refine ostW (mkF m 88 (La0_1 p0 q1 q2 q3 b1) [(.ref b17503), (.ref b1)]) X17509 (fun t k => st17509 _ k) ?_
  have E21623 := (Exa.keep (Exa.keep (Exa.keep (Exa.keep u17498 K17503) K17507) K17508) K17509)
  have F21624 := ((((u17499.keep K17503 nin0).keep K17507 nin0).keep K17508 nin0).keep K17509 (ninS ne_b1_b17503 nin0))
  have F21625 := ((((u17500.keep K17503 nin0).keep K17507 nin0).keep K17508 nin0).keep K17509 (ninS ne_b1_b17503 nin0))
  have F21626 := ((((u17501.keep K17503 nin0).keep K17507 nin0).keep K17508 nin0).keep K17509 (ninS ne_b1_b17503 nin0))
  have A21627 := ((((u17502.keep K17503 nin0).keep K17507 nin0).keep K17508 nin0).keep K17509 (ninS ne_b9144_b17503 nin0))
  obtain ⟨_, T19576, L19576, X19576, ⟨rfl, N19576q, u21628, u21629, u21630, u21631, u21632, u21633⟩, st19576⟩ := own_callV X17509 hx hZ (y := Y9) (W := 0) (a := b1) (argsL := [(.ref b17503)]) (rest := []) hown (hw _ (wm 58 rfl)) (hw _ (wm 59 rfl)) (hw _ (wm 61 rfl)) (hw _ (wm 60 rfl)) (hw _ (wm 2 rfl)) (hw _ (wm 62 rfl)) (by decide) E21623 (rm7s20 l Z a0 hw [] b1 b3058 b9144 b9244 b13373 b17503 h17509 n0 Z17509 E21623 F21624 F21625 F21626 g_b1 A21627 u9242 u19570 ne_b1_b9144) (by decide) (by decide) (by decide) (by decide) e17509 (g := (mkF m 88 (La0_1 p0 q1 q2 q3 b1) [(.ref b17503), (.ref b1)])) rfl (by rw [hml]; rfl) pd_6 rfl rfl (by show 2 * 0 + _ ≤ _; exact Nat.le_of_eq rfl) (hb hby at_88)
  have N19576 := Fr.app N17509 N19576q
  obtain ⟨h19576, e19576⟩ : ∃ z, T19576.heap = z := ⟨_, rfl⟩
  rw [e19576] at u21628 u21629 u21630 u21631 u21632 u21633
  have K19576 := u21628
  have Z19576 := Nat.le_trans Z17509 K19576.1
  refine ostW (mkF m 91 (La0_1 p0 q1 q2 q3 b1) [(.int (1 : Int32))]) X19576 (fun t k => st19576 _ k) ?_
  refine ostW (mkF m 92 (La0_1 p0 q1 q2 q3 b1) []) X19576 (fun t k => XT.pop X19576.here hx rfl (hb hby at_91) rfl rfl k) ?_
  refine ostW (mkF m 94 (La0_1 p0 q1 q2 q3 b1) [(.ref b1)]) X19576 (fun t k => XS.aload X19576.here hx rfl (hb hby at_92) rfl rfl k) ?_
  obtain ⟨T21634, h21634, X21634, e21634, E21634, A21634, D21634, -, st21634⟩ := newO X19576 hx hZ hown (hw _ (wm 26 rfl)) (hw _ (wm 27 rfl)) (hw _ (wm 28 rfl)) e19576 (g := (mkF m 94 (La0_1 p0 q1 q2 q3 b1) [(.ref b1)])) rfl (hb hby at_94) (by decide) (by decide)
  obtain ⟨b21634, y21634⟩ : ∃ z, z = h19576.size := ⟨_, rfl⟩
  rw [← y21634] at A21634 D21634 st21634
  have K21634 := keep_ext E21634
  have ne_b1_b21634 : b1 ≠ b21634 := Exa.neS u21629 y21634
  have E21635 := (Exa.keep (Exa.keep (Exa.keep (Exa.keep (Exa.keep E17504 K17503) K17507) K17508) K17509) K19576)
  have ne_b3058_b21634 : b3058 ≠ b21634 := Exa.neS E21635 y21634
  have ne_b9144_b21634 : b9144 ≠ b21634 := AryR.neS u21633 y21634
  have E21636 := (Exa.keep (Exa.keep (Exa.keep (Exa.keep (Exa.keep E17505 K17503) K17507) K17508) K17509) K19576)
  have ne_b9244_b21634 : b9244 ≠ b21634 := Exa.neS E21636 y21634
  have E21637 := (Exa.keep (Exa.keep (Exa.keep (Exa.keep (Exa.keep E17506 K17503) K17507) K17508) K17509) K19576)
  have ne_b13373_b21634 : b13373 ≠ b21634 := Exa.neS E21637 y21634
  have E21638 := (Exa.keep u19570 K19576)
  have ne_b17503_b21634 : b17503 ≠ b21634 := Exa.neS E21638 y21634
  have g_b21634 : n0 ≤ b21634 := by rw [y21634]; exact Z19576
  have Z21634 := Nat.le_trans Z19576 K21634.1
  have F21634_agent : Fld Z h21634 b21634 "com/example/ken2/ken2/InterpretedSystem$Variable" "agent" "Ljava/lang/String;" .null := D21634 (Or.inr (hw _ (wm 49 rfl))) (ty := (.object "java/lang/String")) (by decide)
  have F21634_name : Fld Z h21634 b21634 "com/example/ken2/ken2/InterpretedSystem$Variable" "name" "Ljava/lang/String;" .null := D21634 (Or.inr (hw _ (wm 51 rfl))) (ty := (.object "java/lang/String")) (by decide)
  have F21634_values : Fld Z h21634 b21634 "com/example/ken2/ken2/InterpretedSystem$Variable" "values" "Ljava/util/List;" .null := D21634 (Or.inr (hw _ (wm 53 rfl))) (ty := (.object "java/util/List")) (by decide)
  have F21634_low : Fld Z h21634 b21634 "com/example/ken2/ken2/InterpretedSystem$Variable" "low" "I" (.int (0 : Int32)) := D21634 (Or.inr (hw _ (wm 55 rfl))) (ty := .int) (by decide)
  have F21634_size : Fld Z h21634 b21634 "com/example/ken2/ken2/InterpretedSystem$Variable" "size" "I" (.int (0 : Int32)) := D21634 (Or.inr (hw _ (wm 57 rfl))) (ty := .int) (by decide)
  refine ostW (mkF m 97 (La0_1 p0 q1 q2 q3 b1) [(.ref b21634), (.ref b1)]) X21634 (fun t k => st21634 _ k) ?_
  refine ostW (mkF m 98 (La0_1 p0 q1 q2 q3 b1) [(.ref b21634), (.ref b21634), (.ref b1)]) X21634 (fun t k => XS.dup X21634.here hx rfl (hb hby at_97) rfl rfl k) ?_
  have hSk := (Nat.le_trans (Nat.le_trans (Nat.le_trans hSk K17509.1) K19576.1) K21634.1)
  obtain ⟨b21639, T21639, h21639, k21639, X21639, e21639, E21639, hSn, hSk, hZ, hown, st21639⟩ := ldcS (s := s) (vm0 := T17508.vm) X21634 hx hZ hown (text := "A") (hw _ (wm 29 rfl)) (own_strs hw) e21634 hSn hSk (g := (mkF m 98 (La0_1 p0 q1 q2 q3 b1) [(.ref b21634), (.ref b21634), (.ref b1)])) rfl (hb hby at_98) (n := 4) (by decide) (by decide) (by decide) (by decide)
  have K21639 := keep_ext E21639
  have Z21639 := Nat.le_trans Z21634 K21639.1
  refine ostW (mkF m 100 (La0_1 p0 q1 q2 q3 b1) [(.ref b21639), (.ref b21634), (.ref b21634), (.ref b1)]) X21639 (fun t k => st21639 _ k) ?_
  obtain ⟨b21640, T21640, h21640, k21640, X21640, e21640, E21640, hSn, hSk, hZ, hown, st21640⟩ := ldcS (s := s) (vm0 := T21639.vm) X21639 hx hZ hown (text := "e") (hw _ (wm 93 rfl)) (own_strs hw) e21639 hSn hSk (g := (mkF m 100 (La0_1 p0 q1 q2 q3 b1) [(.ref b21639), (.ref b21634), (.ref b21634), (.ref b1)])) rfl (hb hby at_100) (n := 4) (by decide) (by decide) (by decide) (by decide)
  have K21640 := keep_ext E21640
  have Z21640 := Nat.le_trans Z21639 K21640.1
  refine ostW (mkF m 102 (La0_1 p0 q1 q2 q3 b1) [(.ref b21640), (.ref b21639), (.ref b21634), (.ref b21634), (.ref b1)]) X21640 (fun t k => st21640 _ k) ?_
  refine ostW (mkF m 103 (La0_1 p0 q1 q2 q3 b1) [.null, (.ref b21640), (.ref b21639), (.ref b21634), (.ref b21634), (.ref b1)]) X21640 (fun t k => XS.aconstNull X21640.here hx rfl (hb hby at_102) k) ?_
  refine ostW (mkF m 104 (La0_1 p0 q1 q2 q3 b1) [(.int (0 : Int32)), .null, (.ref b21640), (.ref b21639), (.ref b21634), (.ref b21634), (.ref b1)]) X21640 (fun t k => XS.iconst X21640.here hx rfl (hb hby at_103) k) ?_
  refine ostW (mkF m 106 (La0_1 p0 q1 q2 q3 b1) [(.int (32 : Int32)), (.int (0 : Int32)), .null, (.ref b21640), (.ref b21639), (.ref b21634), (.ref b21634), (.ref b1)]) X21640 (fun t k => XS.bipush X21640.here hx rfl (hb hby at_104) k) ?_
  have E23695 := (Exa.keep (Exa.keep A21634 K21639) K21640)
  have F23696 := ((F21634_agent.keep K21639 nin0).keep K21640 nin0)
  have F23697 := ((F21634_name.keep K21639 nin0).keep K21640 nin0)
  have F23698 := ((F21634_values.keep K21639 nin0).keep K21640 nin0)
  have F23699 := ((F21634_low.keep K21639 nin0).keep K21640 nin0)
  have F23700 := ((F21634_size.keep K21639 nin0).keep K21640 nin0)
  obtain ⟨_, T21641, L21641, X21641, ⟨rfl, N21641q, u23701, u23702, u23703, u23704, u23705, u23706, u23707⟩, st21641⟩ := own_callI X21640 hx hZ (y := Y4) (W := 2) (a := b21634) (argsL := [(.ref b21639), (.ref b21640), .null, (.int (0 : Int32)), (.int (32 : Int32))]) (rest := [(.ref b21634), (.ref b1)]) rfl hown (hw _ (wm 39 rfl)) (hw _ (wm 40 rfl)) (hw _ (wm 28 rfl)) (hw _ (wm 41 rfl)) (by decide) (rm5s22 l Z a0 hw [] b21639 b21640 b21634 h21640 n0 Z21640 E23695 F23696 F23697 F23698 F23699 F23700 g_b21634) (by decide) (by decide) (by decide) (by decide) e21640 (g := (mkF m 106 (La0_1 p0 q1 q2 q3 b1) [(.int (32 : Int32)), (.int (0 : Int32)), .null, (.ref b21640), (.ref b21639), (.ref b21634), (.ref b21634), (.ref b1)])) rfl (by rw [hml]; rfl) pd_1 rfl rfl (by show 2 * 0 + _ ≤ _; exact Nat.le_of_eq rfl) (hb hby at_106)
  have N21641 := Fr.app N19576 N21641q
  obtain ⟨h21641, e21641⟩ : ∃ z, T21641.heap = z := ⟨_, rfl⟩
  rw [e21641] at u23701 u23702 u23703 u23704 u23705 u23706 u23707
  have K21641 := u23701
  have Z21641 := Nat.le_trans Z21640 K21641.1
  refine ostW (mkF m 109 (La0_1 p0 q1 q2 q3 b1) [(.ref b21634), (.ref b1)]) X21641 (fun t k => st21641 _ k) ?_
  have E25755 := (Exa.keep (Exa.keep (Exa.keep (Exa.keep u21629 K21634) K21639) K21640) K21641)
  have F25756 := ((((u21630.keep K21634 nin0).keep K21639 nin0).keep K21640 nin0).keep K21641 (ninS ne_b1_b21634 nin0))
  have F25757 := ((((u21631.keep K21634 nin0).keep K21639 nin0).keep K21640 nin0).keep K21641 (ninS ne_b1_b21634 nin0))
  have F25758 := ((((u21632.keep K21634 nin0).keep K21639 nin0).keep K21640 nin0).keep K21641 (ninS ne_b1_b21634 nin0))
  have A25759 := ((((u21633.keep K21634 nin0).keep K21639 nin0).keep K21640 nin0).keep K21641 (ninS ne_b9144_b21634 nin0))
  obtain ⟨_, T23708, L23708, X23708, ⟨rfl, N23708q, u25760, u25761, u25762, u25763, u25764, u25765⟩, st23708⟩ := own_callV X21641 hx hZ (y := Y9) (W := 0) (a := b1) (argsL := [(.ref b21634)]) (rest := []) hown (hw _ (wm 58 rfl)) (hw _ (wm 59 rfl)) (hw _ (wm 61 rfl)) (hw _ (wm 60 rfl)) (hw _ (wm 2 rfl)) (hw _ (wm 62 rfl)) (by decide) E25755 (rm7s24 l Z a0 hw [] b1 b3058 b9144 b9244 b13373 b17503 b21634 h21641 n0 Z21641 E25755 F25756 F25757 F25758 g_b1 A25759 u9242 u23702 ne_b1_b9144) (by decide) (by decide) (by decide) (by decide) e21641 (g := (mkF m 109 (La0_1 p0 q1 q2 q3 b1) [(.ref b21634), (.ref b1)])) rfl (by rw [hml]; rfl) pd_6 rfl rfl (by show 2 * 0 + _ ≤ _; exact Nat.le_of_eq rfl) (hb hby at_109)
  have N23708 := Fr.app N21641 N23708q
  obtain ⟨h23708, e23708⟩ : ∃ z, T23708.heap = z := ⟨_, rfl⟩
  rw [e23708] at u25760 u25761 u25762 u25763 u25764 u25765
  have K23708 := u25760
  have Z23708 := Nat.le_trans Z21641 K23708.1
  refine ostW (mkF m 112 (La0_1 p0 q1 q2 q3 b1) [(.int (1 : Int32))]) X23708 (fun t k => st23708 _ k) ?_
  refine ostW (mkF m 113 (La0_1 p0 q1 q2 q3 b1) []) X23708 (fun t k => XT.pop X23708.here hx rfl (hb hby at_112) rfl rfl k) ?_
  obtain ⟨T25766, h25766, X25766, e25766, E25766, A25766, D25766, -, st25766⟩ := newO X23708 hx hZ hown (hw _ (wm 94 rfl)) (hw _ (wm 95 rfl)) (hw _ (wm 96 rfl)) e23708 (g := (mkF m 113 (La0_1 p0 q1 q2 q3 b1) [])) rfl (hb hby at_113) (by decide) (by decide)
  obtain ⟨b25766, y25766⟩ : ∃ z, z = h23708.size := ⟨_, rfl⟩
  rw [← y25766] at A25766 D25766 st25766
  have K25766 := keep_ext E25766
  have ne_b1_b25766 : b1 ≠ b25766 := Exa.neS u25761 y25766
  have E25767 := (Exa.keep (Exa.keep (Exa.keep (Exa.keep (Exa.keep E21635 K21634) K21639) K21640) K21641) K23708)
  have ne_b3058_b25766 : b3058 ≠ b25766 := Exa.neS E25767 y25766
  have ne_b9144_b25766 : b9144 ≠ b25766 := AryR.neS u25765 y25766
  have E25768 := (Exa.keep (Exa.keep (Exa.keep (Exa.keep (Exa.keep E21636 K21634) K21639) K21640) K21641) K23708)
  have ne_b9244_b25766 : b9244 ≠ b25766 := Exa.neS E25768 y25766
  have E25769 := (Exa.keep (Exa.keep (Exa.keep (Exa.keep (Exa.keep E21637 K21634) K21639) K21640) K21641) K23708)
  have ne_b13373_b25766 : b13373 ≠ b25766 := Exa.neS E25769 y25766
  have E25770 := (Exa.keep (Exa.keep (Exa.keep (Exa.keep (Exa.keep E21638 K21634) K21639) K21640) K21641) K23708)
  have ne_b17503_b25766 : b17503 ≠ b25766 := Exa.neS E25770 y25766
  have E25771 := (Exa.keep u23702 K23708)
  have ne_b21634_b25766 : b21634 ≠ b25766 := Exa.neS E25771 y25766
  have g_b25766 : n0 ≤ b25766 := by rw [y25766]; exact Z23708
  have Z25766 := Nat.le_trans Z23708 K25766.1
  have F25766_m_word : Fld Z h25766 b25766 "com/example/ken2/ken2/StateLayout" "m_word" "[I" .null := D25766 (Or.inr (hw _ (wm 112 rfl))) (ty := (.array .int)) (by decide)
  have F25766_m_shift : Fld Z h25766 b25766 "com/example/ken2/ken2/StateLayout" "m_shift" "[I" .null := D25766 (Or.inr (hw _ (wm 114 rfl))) (ty := (.array .int)) (by decide)
  have F25766_m_mask : Fld Z h25766 b25766 "com/example/ken2/ken2/StateLayout" "m_mask" "[J" .null := D25766 (Or.inr (hw _ (wm 117 rfl))) (ty := (.array .long)) (by decide)
  have F25766_m_width : Fld Z h25766 b25766 "com/example/ken2/ken2/StateLayout" "m_width" "I" (.int (0 : Int32)) := D25766 (Or.inr (hw _ (wm 152 rfl))) (ty := .int) (by decide)
  refine ostW (mkF m 116 (La0_1 p0 q1 q2 q3 b1) [(.ref b25766)]) X25766 (fun t k => st25766 _ k) ?_
  refine ostW (mkF m 117 (La0_1 p0 q1 q2 q3 b1) [(.ref b25766), (.ref b25766)]) X25766 (fun t k => XS.dup X25766.here hx rfl (hb hby at_116) rfl rfl k) ?_
  refine ostW (mkF m 119 (La0_1 p0 q1 q2 q3 b1) [(.ref b1), (.ref b25766), (.ref b25766)]) X25766 (fun t k => XS.aload X25766.here hx rfl (hb hby at_117) rfl rfl k) ?_
  have E53294 := (Exa.keep u25761 K25766)
  have F53295 := (u25763.keep K25766 nin0)
  have F53296 := (u25764.keep K25766 nin0)
  have E53297 := (Exa.keep E25767 K25766)
  have F53298 := ((((((((((((((((((((((u5127.keep K5128 (ninS (Ne.symm ne_b1_b3058) nin0)).keep K9244 nin0).keep K9246 nin0).keep K9247 nin0).keep K9248 (ninS ne_b3058_b9244 nin0)).keep K11315 (ninS (Ne.symm ne_b1_b3058) (ninS ne_b3058_b9144 nin0))).keep K13373 nin0).keep K13376 nin0).keep K13377 nin0).keep K13378 (ninS ne_b3058_b13373 nin0)).keep K15445 (ninS (Ne.symm ne_b1_b3058) (ninS ne_b3058_b9144 nin0))).keep K17503 nin0).keep K17507 nin0).keep K17508 nin0).keep K17509 (ninS ne_b3058_b17503 nin0)).keep K19576 (ninS (Ne.symm ne_b1_b3058) (ninS ne_b3058_b9144 nin0))).keep K21634 nin0).keep K21639 nin0).keep K21640 nin0).keep K21641 (ninS ne_b3058_b21634 nin0)).keep K23708 (ninS (Ne.symm ne_b1_b3058) (ninS ne_b3058_b9144 nin0))).keep K25766 nin0)
  have A53299 := (u25765.keep K25766 nin0)
  have E53300 := (Exa.keep E25768 K25766)
  have F53301 := (((((((((((((((((u11314.keep K11315 (ninS (Ne.symm ne_b1_b9244) (ninS (Ne.symm ne_b9144_b9244) nin0))).keep K13373 nin0).keep K13376 nin0).keep K13377 nin0).keep K13378 (ninS ne_b9244_b13373 nin0)).keep K15445 (ninS (Ne.symm ne_b1_b9244) (ninS (Ne.symm ne_b9144_b9244) nin0))).keep K17503 nin0).keep K17507 nin0).keep K17508 nin0).keep K17509 (ninS ne_b9244_b17503 nin0)).keep K19576 (ninS (Ne.symm ne_b1_b9244) (ninS (Ne.symm ne_b9144_b9244) nin0))).keep K21634 nin0).keep K21639 nin0).keep K21640 nin0).keep K21641 (ninS ne_b9244_b21634 nin0)).keep K23708 (ninS (Ne.symm ne_b1_b9244) (ninS (Ne.symm ne_b9144_b9244) nin0))).keep K25766 nin0)
  have E53302 := (Exa.keep E25769 K25766)
  have F53303 := ((((((((((((u15444.keep K15445 (ninS (Ne.symm ne_b1_b13373) (ninS (Ne.symm ne_b9144_b13373) nin0))).keep K17503 nin0).keep K17507 nin0).keep K17508 nin0).keep K17509 (ninS ne_b13373_b17503 nin0)).keep K19576 (ninS (Ne.symm ne_b1_b13373) (ninS (Ne.symm ne_b9144_b13373) nin0))).keep K21634 nin0).keep K21639 nin0).keep K21640 nin0).keep K21641 (ninS ne_b13373_b21634 nin0)).keep K23708 (ninS (Ne.symm ne_b1_b13373) (ninS (Ne.symm ne_b9144_b13373) nin0))).keep K25766 nin0)
  have E53304 := (Exa.keep E25770 K25766)
  have F53305 := (((((((u19575.keep K19576 (ninS (Ne.symm ne_b1_b17503) (ninS (Ne.symm ne_b9144_b17503) nin0))).keep K21634 nin0).keep K21639 nin0).keep K21640 nin0).keep K21641 (ninS ne_b17503_b21634 nin0)).keep K23708 (ninS (Ne.symm ne_b1_b17503) (ninS (Ne.symm ne_b9144_b17503) nin0))).keep K25766 nin0)
  have E53306 := (Exa.keep E25771 K25766)
  have F53307 := ((u23707.keep K23708 (ninS (Ne.symm ne_b1_b21634) (ninS (Ne.symm ne_b9144_b21634) nin0))).keep K25766 nin0)
  obtain ⟨_, T25772, L25772, X25772, ⟨b27787, b27802, b27824, rfl, N25772q, u53308, u53309, u53310, u53311, u53312, u53313, u53314, u53315, u53316, u53317, u53318, u53319, u53320, u53321, u53322, u53323, u53324, u53325⟩, st25772⟩ := own_callI X25766 hx hZ (y := Y19) (W := 1) (a := b25766) (argsL := [(.ref b1)]) (rest := [(.ref b25766)]) rfl hown (hw _ (wm 97 rfl)) (hw _ (wm 98 rfl)) (hw _ (wm 96 rfl)) (hw _ (wm 99 rfl)) (by decide) (rm12s26 l Z a0 hw [] b1 b3058 b9144 b9244 b13373 b17503 b21634 b25766 h25766 n0 Z25766 E53294 F53295 F53296 E53297 F53298 A53299 E53300 F53301 E53302 F53303 E53304 F53305 E53306 F53307 A25766 F25766_m_word F25766_m_shift F25766_m_mask F25766_m_width g_b25766 ne_b1_b25766 ne_b3058_b25766 ne_b9144_b25766 ne_b9244_b25766 ne_b13373_b25766 ne_b17503_b25766 ne_b21634_b25766) (by decide) (by decide) (by decide) (by decide) e25766 (g := (mkF m 119 (La0_1 p0 q1 q2 q3 b1) [(.ref b1), (.ref b25766), (.ref b25766)])) rfl (by rw [hml]; rfl) pd_11 rfl rfl (by show 2 * 0 + _ ≤ _; exact Nat.le_of_eq rfl) (hb hby at_119)
  have N25772 := Fr.app N23708 N25772q
  obtain ⟨h25772, e25772⟩ : ∃ z, T25772.heap = z := ⟨_, rfl⟩
  rw [e25772] at u53308 u53309 u53310 u53311 u53312 u53313 u53314 u53317 u53320
  have K25772 := u53308
  have Z25772 := Nat.le_trans Z25766 K25772.1
  have ne_b1_b27787 : b1 ≠ b27787 := Nat.ne_of_lt (Nat.lt_of_lt_of_le (E53294).lt u53316)
  have ne_b3058_b27787 : b3058 ≠ b27787 := Nat.ne_of_lt (Nat.lt_of_lt_of_le (E53297).lt u53316)
  have ne_b9144_b27787 : b9144 ≠ b27787 := Nat.ne_of_lt (Nat.lt_of_lt_of_le (A53299).lt u53316)
  have ne_b9244_b27787 : b9244 ≠ b27787 := Nat.ne_of_lt (Nat.lt_of_lt_of_le (E53300).lt u53316)
  have ne_b13373_b27787 : b13373 ≠ b27787 := Nat.ne_of_lt (Nat.lt_of_lt_of_le (E53302).lt u53316)
  have ne_b17503_b27787 : b17503 ≠ b27787 := Nat.ne_of_lt (Nat.lt_of_lt_of_le (E53304).lt u53316)
  have ne_b21634_b27787 : b21634 ≠ b27787 := Nat.ne_of_lt (Nat.lt_of_lt_of_le (E53306).lt u53316)
  have ne_b25766_b27787 : b25766 ≠ b27787 := Nat.ne_of_lt (Nat.lt_of_lt_of_le (A25766).lt u53316)
  have ne_b1_b27802 : b1 ≠ b27802 := Nat.ne_of_lt (Nat.lt_of_lt_of_le (E53294).lt u53319)
  have ne_b3058_b27802 : b3058 ≠ b27802 := Nat.ne_of_lt (Nat.lt_of_lt_of_le (E53297).lt u53319)
  have ne_b9144_b27802 : b9144 ≠ b27802 := Nat.ne_of_lt (Nat.lt_of_lt_of_le (A53299).lt u53319)
  have ne_b9244_b27802 : b9244 ≠ b27802 := Nat.ne_of_lt (Nat.lt_of_lt_of_le (E53300).lt u53319)
  have ne_b13373_b27802 : b13373 ≠ b27802 := Nat.ne_of_lt (Nat.lt_of_lt_of_le (E53302).lt u53319)
  have ne_b17503_b27802 : b17503 ≠ b27802 := Nat.ne_of_lt (Nat.lt_of_lt_of_le (E53304).lt u53319)
  have ne_b21634_b27802 : b21634 ≠ b27802 := Nat.ne_of_lt (Nat.lt_of_lt_of_le (E53306).lt u53319)
  have ne_b25766_b27802 : b25766 ≠ b27802 := Nat.ne_of_lt (Nat.lt_of_lt_of_le (A25766).lt u53319)
  have ne_b1_b27824 : b1 ≠ b27824 := Nat.ne_of_lt (Nat.lt_of_lt_of_le (E53294).lt u53322)
  have ne_b3058_b27824 : b3058 ≠ b27824 := Nat.ne_of_lt (Nat.lt_of_lt_of_le (E53297).lt u53322)
  have ne_b9144_b27824 : b9144 ≠ b27824 := Nat.ne_of_lt (Nat.lt_of_lt_of_le (A53299).lt u53322)
  have ne_b9244_b27824 : b9244 ≠ b27824 := Nat.ne_of_lt (Nat.lt_of_lt_of_le (E53300).lt u53322)
  have ne_b13373_b27824 : b13373 ≠ b27824 := Nat.ne_of_lt (Nat.lt_of_lt_of_le (E53302).lt u53322)
  have ne_b17503_b27824 : b17503 ≠ b27824 := Nat.ne_of_lt (Nat.lt_of_lt_of_le (E53304).lt u53322)
  have ne_b21634_b27824 : b21634 ≠ b27824 := Nat.ne_of_lt (Nat.lt_of_lt_of_le (E53306).lt u53322)
  have ne_b25766_b27824 : b25766 ≠ b27824 := Nat.ne_of_lt (Nat.lt_of_lt_of_le (A25766).lt u53322)
  refine ostW (mkF m 122 (La0_1 p0 q1 q2 q3 b1) [(.ref b25766)]) X25772 (fun t k => st25772 _ k) ?_
  refine ostW (mkF m 124 (La0_2 p0 q1 q2 q3 b1 b25766) []) X25772 (fun t k => XS.astore X25772.here hx rfl (hb hby at_122) rfl rfl (l' := (La0_2 p0 q1 q2 q3 b1 b25766)) rfl k) ?_
  refine ostW (mkF m 125 (La0_2 p0 q1 q2 q3 b1 b25766) [(.int p0)]) X25772 (fun t k => XS.iloadN X25772.here hx rfl (hb hby at_124) rfl k) ?_
  refine ostW (mkF m 127 (La0_2 p0 q1 q2 q3 b1 b25766) [(.int (2147483647 : Int32)), (.int p0)]) X25772 (fun t k => X25772.ldcInt hx hown (mvT hZ (hw _ (wm 38 rfl))) (g := (mkF m 125 (La0_2 p0 q1 q2 q3 b1 b25766) [(.int p0)])) rfl (hb hby at_125) _ k) ?_
  refine ostW (mkF m 128 (La0_2 p0 q1 q2 q3 b1 b25766) [(.int (p0 &&& (2147483647 : Int32)))]) X25772 (fun t k => XS.iand X25772.here hx rfl (hb hby at_127) rfl k) ?_
  refine ostW (mkF m 129 (La0_2 p0 q1 q2 q3 b1 b25766) [(.int (5 : Int32)), (.int (p0 &&& (2147483647 : Int32)))]) X25772 (fun t k => XS.iconst X25772.here hx rfl (hb hby at_128) k) ?_
  refine ostW (mkF m 130 (La0_2 p0 q1 q2 q3 b1 b25766) [(.int ((p0 &&& (2147483647 : Int32)) % (5 : Int32)))]) X25772 (fun t k => iremM (g := (mkF m 129 (La0_2 p0 q1 q2 q3 b1 b25766) [(.int (5 : Int32)), (.int (p0 &&& (2147483647 : Int32)))])) X25772 hx rfl (hb hby at_129) rfl (by decide) k) ?_
  refine ostW (mkF m 132 (La0_3 p0 q1 q2 q3 b1 b25766) []) X25772 (fun t k => XS.istore X25772.here hx rfl (hb hby at_130) rfl (l' := (La0_3 p0 q1 q2 q3 b1 b25766)) rfl k) ?_
  refine ostW (mkF m 134 (La0_3 p0 q1 q2 q3 b1 b25766) [(.int (v0_130 p0))]) X25772 (fun t k => XS.iload X25772.here hx rfl (hb hby at_132) rfl k) ?_
  by_cases hb134 : (v0_130 p0) = (0 : Int32)
  · skip
    refine ostW (mkF m 137 #[.val (.int p0), .val (.long q1), .second, .val (.long q2), .second, .val (.long q3), .second, .val (.ref b1), .val (.ref b25766), .val (.int (v0_130 p0)), .unset, .unset, .unset, .unset, .unset, .unset, .unset, .unset, .unset, .unset, .unset, .unset, .unset, .unset, .unset, .unset, .unset, .unset, .unset, .unset, .unset, .unset] []) X25772 (fun t k => XS.ifNo X25772.here hx rfl (hb hby at_134) rfl ((if0 _ _).trans (teq hb134).2) k) ?_
    rw [hb134]
    refine ostW (mkF m 140 (La0_4 p0 q1 q2 q3 b1 b25766) [(.long (2147483647 : Int64))]) X25772 (fun t k => X25772.ldc2Long hx hown (mvT hZ (hw _ (wm 153 rfl))) (g := (mkF m 137 (La0_4 p0 q1 q2 q3 b1 b25766) [])) rfl (hb hby at_137) _ k) ?_
    refine ostW (mkF m 142 (La0_5 p0 q1 q2 q3 b1 b25766) []) X25772 (fun t k => XT.lstore X25772.here hx rfl (hb hby at_140) rfl (l' := (La0_5 p0 q1 q2 q3 b1 b25766)) rfl k) ?_
    refine ostW (mkF m 143 (La0_5 p0 q1 q2 q3 b1 b25766) [(.int (0 : Int32))]) X25772 (fun t k => XS.iconst X25772.here hx rfl (hb hby at_142) k) ?_
    refine ostW (mkF m 145 (La0_6 p0 q1 q2 q3 b1 b25766) []) X25772 (fun t k => XS.istore X25772.here hx rfl (hb hby at_143) rfl (l' := (La0_6 p0 q1 q2 q3 b1 b25766)) rfl k) ?_
    refine ostW (mkF m 146 (La0_6 p0 q1 q2 q3 b1 b25766) [(.int (0 : Int32))]) X25772 (fun t k => XS.iconst X25772.here hx rfl (hb hby at_145) k) ?_
    refine ostW (mkF m 148 (La0_7 p0 q1 q2 q3 b1 b25766) []) X25772 (fun t k => XS.istore X25772.here hx rfl (hb hby at_146) rfl (l' := (La0_7 p0 q1 q2 q3 b1 b25766)) rfl k) ?_
    refine ostW (mkF m 151 (La0_7 p0 q1 q2 q3 b1 b25766) [(.long (2147483647 : Int64))]) X25772 (fun t k => X25772.ldc2Long hx hown (mvT hZ (hw _ (wm 153 rfl))) (g := (mkF m 148 (La0_7 p0 q1 q2 q3 b1 b25766) [])) rfl (hb hby at_148) _ k) ?_
    refine ostW (mkF m 153 (La0_8 p0 q1 q2 q3 b1 b25766) []) X25772 (fun t k => XT.lstore X25772.here hx rfl (hb hby at_151) rfl (l' := (La0_8 p0 q1 q2 q3 b1 b25766)) rfl k) ?_
    refine ostW (mkF m 250 (La0_8 p0 q1 q2 q3 b1 b25766) []) X25772 (fun t k => XS.goto X25772.here hx rfl (pc0 := 153) (pc' := 250) rfl (hb hby at_153) (by decide) (by decide) k) ?_
    refine ostW (mkF m 251 (La0_8 p0 q1 q2 q3 b1 b25766) [(.long q1)]) X25772 (fun t k => XT.lloadN X25772.here hx rfl (hb hby at_250) rfl k) ?_
    refine ostW (mkF m 254 (La0_8 p0 q1 q2 q3 b1 b25766) [(.long (2147483647 : Int64)), (.long q1)]) X25772 (fun t k => X25772.ldc2Long hx hown (mvT hZ (hw _ (wm 153 rfl))) (g := (mkF m 251 (La0_8 p0 q1 q2 q3 b1 b25766) [(.long q1)])) rfl (hb hby at_251) _ k) ?_
    refine ostW (mkF m 255 (La0_8 p0 q1 q2 q3 b1 b25766) [(.long (q1 &&& (2147483647 : Int64)))]) X25772 (fun t k => XT.land X25772.here hx rfl (hb hby at_254) rfl k) ?_
    refine ostW (mkF m 257 (La0_8 p0 q1 q2 q3 b1 b25766) [(.long (2147483647 : Int64)), (.long (q1 &&& (2147483647 : Int64)))]) X25772 (fun t k => XT.lload X25772.here hx rfl (hb hby at_255) rfl k) ?_
    refine ostW (mkF m 258 (La0_8 p0 q1 q2 q3 b1 b25766) [(.long ((q1 &&& (2147483647 : Int64)) % (2147483647 : Int64)))]) X25772 (fun t k => own_lrem (g := (mkF m 257 (La0_8 p0 q1 q2 q3 b1 b25766) [(.long (2147483647 : Int64)), (.long (q1 &&& (2147483647 : Int64)))])) (x := (q1 &&& (2147483647 : Int64))) (y := (2147483647 : Int64)) X25772 hx rfl (hb hby at_257) rfl (by decide) k) ?_
    refine ostW (mkF m 260 (La0_9 p0 q1 q2 q3 b1 b25766) []) X25772 (fun t k => XT.lstore X25772.here hx rfl (hb hby at_258) rfl (l' := (La0_9 p0 q1 q2 q3 b1 b25766)) rfl k) ?_
    refine ostW (mkF m 261 (La0_9 p0 q1 q2 q3 b1 b25766) [(.int (2 : Int32))]) X25772 (fun t k => XS.iconst X25772.here hx rfl (hb hby at_260) k) ?_
    obtain ⟨T53326, h53326, b53326, X53326, e53326, y53326, K53326, A53326, st53326⟩ := own_new X25772 hx hZ (hw _ (wm 115 rfl)) e25772 (g := (mkF m 261 (La0_9 p0 q1 q2 q3 b1 b25766) [(.int (2 : Int32))])) rfl (hb hby at_261) rfl (by decide) (cap := 2) (by decide) (by decide) (by decide) (by decide)
    have B53326 : Ary Z h53326 b53326 .long 2 (fun i => .long ((fun _ => (0 : Int64)) i)) := A53326
    have E53327 := (Exa.keep E53294 K25772)
    have ne_b1_b53326 : b1 ≠ b53326 := Exa.neS E53327 y53326
    have E53328 := (Exa.keep E53297 K25772)
    have ne_b3058_b53326 : b3058 ≠ b53326 := Exa.neS E53328 y53326
    have A53329 := (A53299.keep K25772 (ninS ne_b9144_b25766 nin0))
    have ne_b9144_b53326 : b9144 ≠ b53326 := AryR.neS A53329 y53326
    have E53330 := (Exa.keep E53300 K25772)
    have ne_b9244_b53326 : b9244 ≠ b53326 := Exa.neS E53330 y53326
    have E53331 := (Exa.keep E53302 K25772)
    have ne_b13373_b53326 : b13373 ≠ b53326 := Exa.neS E53331 y53326
    have E53332 := (Exa.keep E53304 K25772)
    have ne_b17503_b53326 : b17503 ≠ b53326 := Exa.neS E53332 y53326
    have E53333 := (Exa.keep E53306 K25772)
    have ne_b21634_b53326 : b21634 ≠ b53326 := Exa.neS E53333 y53326
    have ne_b25766_b53326 : b25766 ≠ b53326 := Exa.neS u53309 y53326
    have ne_b27787_b53326 : b27787 ≠ b53326 := Ary.neS u53314 y53326
    have ne_b27802_b53326 : b27802 ≠ b53326 := Ary.neS u53317 y53326
    have ne_b27824_b53326 : b27824 ≠ b53326 := Ary.neS u53320 y53326
    have g_b53326 : n0 ≤ b53326 := by rw [y53326]; exact Z25772
    have Z53326 := Nat.le_trans Z25772 K53326.1
    refine ostW (mkF m 263 (La0_9 p0 q1 q2 q3 b1 b25766) [(.ref b53326)]) X53326 (fun t k => st53326 _ k) ?_
    refine ostW (mkF m 265 (La0_10 p0 q1 q2 q3 b1 b25766 b53326) []) X53326 (fun t k => XS.astore X53326.here hx rfl (hb hby at_263) rfl rfl (l' := (La0_10 p0 q1 q2 q3 b1 b25766 b53326)) rfl k) ?_
    refine ostW (mkF m 267 (La0_10 p0 q1 q2 q3 b1 b25766 b53326) [(.ref b53326)]) X53326 (fun t k => XS.aload X53326.here hx rfl (hb hby at_265) rfl rfl k) ?_
    refine ostW (mkF m 268 (La0_10 p0 q1 q2 q3 b1 b25766 b53326) [(.int (0 : Int32)), (.ref b53326)]) X53326 (fun t k => XS.iconst X53326.here hx rfl (hb hby at_267) k) ?_
    refine ostW (mkF m 269 (La0_10 p0 q1 q2 q3 b1 b25766 b53326) [(.long q2), (.int (0 : Int32)), (.ref b53326)]) X53326 (fun t k => XT.lloadN X53326.here hx rfl (hb hby at_268) rfl k) ?_
    obtain ⟨T53334, h53334, L53334, X53334, e53334, N53334, K53334, A53334, st53334⟩ := own_stJ X53326 hx hZ e53326 N25772 (G := (fun _ => (0 : Int64))) B53326 g_b53326 (j := (0 : Int32)) (x := q2) (by decide) (g := (mkF m 269 (La0_10 p0 q1 q2 q3 b1 b25766 b53326) [(.long q2), (.int (0 : Int32)), (.ref b53326)])) rfl rfl (hb hby at_269)
    have B53334 : Ary Z h53334 b53326 .long 2 (fun i => .long ((G0_269 q2) i)) := A53334
    have Z53334 := Nat.le_trans Z53326 K53334.1
    refine ostW (mkF m 270 (La0_10 p0 q1 q2 q3 b1 b25766 b53326) []) X53334 (fun t k => st53334 _ k) ?_
    refine ostW (mkF m 272 (La0_10 p0 q1 q2 q3 b1 b25766 b53326) [(.ref b53326)]) X53334 (fun t k => XS.aload X53334.here hx rfl (hb hby at_270) rfl rfl k) ?_
    refine ostW (mkF m 273 (La0_10 p0 q1 q2 q3 b1 b25766 b53326) [(.int (1 : Int32)), (.ref b53326)]) X53334 (fun t k => XS.iconst X53334.here hx rfl (hb hby at_272) k) ?_
    refine ostW (mkF m 275 (La0_10 p0 q1 q2 q3 b1 b25766 b53326) [(.long q3), (.int (1 : Int32)), (.ref b53326)]) X53334 (fun t k => XT.lload X53334.here hx rfl (hb hby at_273) rfl k) ?_
    obtain ⟨T53335, h53335, L53335, X53335, e53335, N53335, K53335, A53335, st53335⟩ := own_stJ X53334 hx hZ e53334 N53334 (G := (G0_269 q2)) B53334 g_b53326 (j := (1 : Int32)) (x := q3) (by decide) (g := (mkF m 275 (La0_10 p0 q1 q2 q3 b1 b25766 b53326) [(.long q3), (.int (1 : Int32)), (.ref b53326)])) rfl rfl (hb hby at_275)
    have B53335 : Ary Z h53335 b53326 .long 2 (fun i => .long ((G0_275 q2 q3) i)) := A53335
    have Z53335 := Nat.le_trans Z53334 K53335.1
    refine ostW (mkF m 276 (La0_10 p0 q1 q2 q3 b1 b25766 b53326) []) X53335 (fun t k => st53335 _ k) ?_
    refine ostW (mkF m 278 (La0_10 p0 q1 q2 q3 b1 b25766 b53326) [(.ref b25766)]) X53335 (fun t k => XS.aload X53335.here hx rfl (hb hby at_276) rfl rfl k) ?_
    refine ostW (mkF m 280 (La0_10 p0 q1 q2 q3 b1 b25766 b53326) [(.ref b53326), (.ref b25766)]) X53335 (fun t k => XS.aload X53335.here hx rfl (hb hby at_278) rfl rfl k) ?_
    refine ostW (mkF m 282 (La0_10 p0 q1 q2 q3 b1 b25766 b53326) [(.int (0 : Int32)), (.ref b53326), (.ref b25766)]) X53335 (fun t k => XS.iload X53335.here hx rfl (hb hby at_280) rfl k) ?_
    refine ostW (mkF m 284 (La0_10 p0 q1 q2 q3 b1 b25766 b53326) [(.long (v0_258 q1)), (.int (0 : Int32)), (.ref b53326), (.ref b25766)]) X53335 (fun t k => XT.lload X53335.here hx rfl (hb hby at_282) rfl k) ?_
    have F54351 := (((u53310.keep K53326 nin0).keep K53334 (ninS ne_b25766_b53326 nin0)).keep K53335 (ninS ne_b25766_b53326 nin0))
    have F54352 := (((u53311.keep K53326 nin0).keep K53334 (ninS ne_b25766_b53326 nin0)).keep K53335 (ninS ne_b25766_b53326 nin0))
    have F54353 := (((u53312.keep K53326 nin0).keep K53334 (ninS ne_b25766_b53326 nin0)).keep K53335 (ninS ne_b25766_b53326 nin0))
    have A54354 := (((u53314.keep K53326 nin0).keep K53334 (ninS ne_b27787_b53326 nin0)).keep K53335 (ninS ne_b27787_b53326 nin0))
    have A54355 := (((u53317.keep K53326 nin0).keep K53334 (ninS ne_b27802_b53326 nin0)).keep K53335 (ninS ne_b27802_b53326 nin0))
    have A54356 := (((u53320.keep K53326 nin0).keep K53334 (ninS ne_b27824_b53326 nin0)).keep K53335 (ninS ne_b27824_b53326 nin0))
    have E54359 := (Exa.keep (Exa.keep (Exa.keep u53309 K53326) K53334) K53335)
    obtain ⟨_, T53336, L53336, X53336, ⟨rfl, N53336q, u54357, u54358⟩, st53336⟩ := own_callV X53335 hx hZ (y := Y20) (W := 0) (a := b25766) (argsL := [(.ref b53326), (.int (0 : Int32)), (.long (v0_258 q1))]) (rest := []) hown (hw _ (wm 154 rfl)) (hw _ (wm 155 rfl)) (hw _ (wm 157 rfl)) (hw _ (wm 156 rfl)) (hw _ (wm 96 rfl)) (hw _ (wm 158 rfl)) (by decide) E54359 (rm20s53 l Z a0 hw [] q1 q2 q3 b25766 b27787 b27802 b27824 b53326 h53335 n0 Z53335 F54351 F54352 F54353 A54354 A54355 A54356 B53335 g_b53326) (by decide) (by decide) (by decide) (by decide) e53335 (g := (mkF m 284 (La0_10 p0 q1 q2 q3 b1 b25766 b53326) [(.long (v0_258 q1)), (.int (0 : Int32)), (.ref b53326), (.ref b25766)])) rfl (by rw [hml]; rfl) pd_12 rfl rfl (by show 2 * 0 + _ ≤ _; exact Nat.le_of_eq rfl) (hb hby at_284)
    have N53336 := Fr.app N53335 N53336q
    obtain ⟨h53336, e53336⟩ : ∃ z, T53336.heap = z := ⟨_, rfl⟩
    rw [e53336] at u54357 u54358
    have K53336 := u54357
    have Z53336 := Nat.le_trans Z53335 K53336.1
    refine ostW (mkF m 287 (La0_10 p0 q1 q2 q3 b1 b25766 b53326) []) X53336 (fun t k => st53336 _ k) ?_
    refine ostW (mkF m 289 (La0_10 p0 q1 q2 q3 b1 b25766 b53326) [(.int (0 : Int32))]) X53336 (fun t k => XS.iload X53336.here hx rfl (hb hby at_287) rfl k) ?_
    refine ostW (mkF m 292 (La0_10 p0 q1 q2 q3 b1 b25766 b53326) []) X53336 (fun t k => XS.ifNo X53336.here hx rfl (hb hby at_289) rfl ((if0 _ _).trans (teq (show (0 : Int32) = (0 : Int32) by first | rfl | decide)).2) k) ?_
    refine ostW (mkF m 293 (La0_10 p0 q1 q2 q3 b1 b25766 b53326) [(.long q2)]) X53336 (fun t k => XT.lloadN X53336.here hx rfl (hb hby at_292) rfl k) ?_
    refine ostW (mkF m 298 (La0_10 p0 q1 q2 q3 b1 b25766 b53326) [(.long q2)]) X53336 (fun t k => XS.goto X53336.here hx rfl (pc0 := 293) (pc' := 298) rfl (hb hby at_293) (by decide) (by decide) k) ?_
    refine ostW (mkF m 300 (La0_11 p0 q1 q2 q3 b1 b25766 b53326) []) X53336 (fun t k => XT.lstore X53336.here hx rfl (hb hby at_298) rfl (l' := (La0_11 p0 q1 q2 q3 b1 b25766 b53326)) rfl k) ?_
    refine ostW (mkF m 302 (La0_11 p0 q1 q2 q3 b1 b25766 b53326) [(.ref b53326)]) X53336 (fun t k => XS.aload X53336.here hx rfl (hb hby at_300) rfl rfl k) ?_
    refine ostW (mkF m 304 (La0_11 p0 q1 q2 q3 b1 b25766 b53326) [(.int (0 : Int32)), (.ref b53326)]) X53336 (fun t k => XS.iload X53336.here hx rfl (hb hby at_302) rfl k) ?_
    refine ostW (mkF m 305 (La0_11 p0 q1 q2 q3 b1 b25766 b53326) [(.long ((q2 &&& ((2147483647 : Int64) ^^^ (-1 : Int64))) ||| ((v0_258 q1) <<< ((0 : Int32).toInt64 &&& 63))))]) X53336 (fun t k => own_ldJ X53336 hx hZ e53336 u54358 (by decide) rfl (g := (mkF m 304 (La0_11 p0 q1 q2 q3 b1 b25766 b53326) [(.int (0 : Int32)), (.ref b53326)])) rfl rfl (hb hby at_304) _ k) ?_
    refine ostW (mkF m 307 (La0_12 p0 q1 q2 q3 b1 b25766 b53326) []) X53336 (fun t k => XT.lstore X53336.here hx rfl (hb hby at_305) rfl (l' := (La0_12 p0 q1 q2 q3 b1 b25766 b53326)) rfl k) ?_
    refine ostW (mkF m 309 (La0_12 p0 q1 q2 q3 b1 b25766 b53326) [(.int (0 : Int32))]) X53336 (fun t k => XS.iload X53336.here hx rfl (hb hby at_307) rfl k) ?_
    refine ostW (mkF m 312 (La0_12 p0 q1 q2 q3 b1 b25766 b53326) []) X53336 (fun t k => XS.ifNo X53336.here hx rfl (hb hby at_309) rfl ((if0 _ _).trans (teq (show (0 : Int32) = (0 : Int32) by first | rfl | decide)).2) k) ?_
    refine ostW (mkF m 314 (La0_12 p0 q1 q2 q3 b1 b25766 b53326) [(.ref b53326)]) X53336 (fun t k => XS.aload X53336.here hx rfl (hb hby at_312) rfl rfl k) ?_
    refine ostW (mkF m 315 (La0_12 p0 q1 q2 q3 b1 b25766 b53326) [(.int (1 : Int32)), (.ref b53326)]) X53336 (fun t k => XS.iconst X53336.here hx rfl (hb hby at_314) k) ?_
    refine ostW (mkF m 316 (La0_12 p0 q1 q2 q3 b1 b25766 b53326) [(.long q3)]) X53336 (fun t k => own_ldJ X53336 hx hZ e53336 u54358 (by decide) rfl (g := (mkF m 315 (La0_12 p0 q1 q2 q3 b1 b25766 b53326) [(.int (1 : Int32)), (.ref b53326)])) rfl rfl (hb hby at_315) _ k) ?_
    refine ostW (mkF m 323 (La0_12 p0 q1 q2 q3 b1 b25766 b53326) [(.long q3)]) X53336 (fun t k => XS.goto X53336.here hx rfl (pc0 := 316) (pc' := 323) rfl (hb hby at_316) (by decide) (by decide) k) ?_
    refine ostW (mkF m 325 (La0_13 p0 q1 q2 q3 b1 b25766 b53326) []) X53336 (fun t k => XT.lstore X53336.here hx rfl (hb hby at_323) rfl (l' := (La0_13 p0 q1 q2 q3 b1 b25766 b53326)) rfl k) ?_
    refine ostW (mkF m 327 (La0_13 p0 q1 q2 q3 b1 b25766 b53326) [(.int (0 : Int32))]) X53336 (fun t k => XS.iload X53336.here hx rfl (hb hby at_325) rfl k) ?_
    refine ostW (mkF m 330 (La0_13 p0 q1 q2 q3 b1 b25766 b53326) []) X53336 (fun t k => XS.ifNo X53336.here hx rfl (hb hby at_327) rfl ((if0 _ _).trans (teq (show (0 : Int32) = (0 : Int32) by first | rfl | decide)).2) k) ?_
    refine ostW (mkF m 332 (La0_13 p0 q1 q2 q3 b1 b25766 b53326) [(.long q3)]) X53336 (fun t k => XT.lload X53336.here hx rfl (hb hby at_330) rfl k) ?_
    refine ostW (mkF m 336 (La0_13 p0 q1 q2 q3 b1 b25766 b53326) [(.long q3)]) X53336 (fun t k => XS.goto X53336.here hx rfl (pc0 := 332) (pc' := 336) rfl (hb hby at_332) (by decide) (by decide) k) ?_
    refine ostW (mkF m 338 (La0_14 p0 q1 q2 q3 b1 b25766 b53326) []) X53336 (fun t k => XT.lstore X53336.here hx rfl (hb hby at_336) rfl (l' := (La0_14 p0 q1 q2 q3 b1 b25766 b53326)) rfl k) ?_
    refine ostW (mkF m 340 (La0_14 p0 q1 q2 q3 b1 b25766 b53326) [(.long (2147483647 : Int64))]) X53336 (fun t k => XT.lload X53336.here hx rfl (hb hby at_338) rfl k) ?_
    refine ostW (mkF m 342 (La0_14 p0 q1 q2 q3 b1 b25766 b53326) [(.int (0 : Int32)), (.long (2147483647 : Int64))]) X53336 (fun t k => XS.iload X53336.here hx rfl (hb hby at_340) rfl k) ?_
    refine ostW (mkF m 343 (La0_14 p0 q1 q2 q3 b1 b25766 b53326) [(.long (2147483647 : Int64))]) X53336 (fun t k => XT.lshl X53336.here hx rfl (hb hby at_342) rfl k) ?_
    refine ostW (mkF m 345 (La0_15 p0 q1 q2 q3 b1 b25766 b53326) []) X53336 (fun t k => XT.lstore X53336.here hx rfl (hb hby at_343) rfl (l' := (La0_15 p0 q1 q2 q3 b1 b25766 b53326)) rfl k) ?_
    refine ostW (mkF m 347 (La0_15 p0 q1 q2 q3 b1 b25766 b53326) [(.long (v0_305 q2 q1))]) X53336 (fun t k => XT.lload X53336.here hx rfl (hb hby at_345) rfl k) ?_
    refine ostW (mkF m 349 (La0_15 p0 q1 q2 q3 b1 b25766 b53326) [(.long q2), (.long (v0_305 q2 q1))]) X53336 (fun t k => XT.lload X53336.here hx rfl (hb hby at_347) rfl k) ?_
    refine ostW (mkF m 350 (La0_15 p0 q1 q2 q3 b1 b25766 b53326) [(.long ((v0_305 q2 q1) ^^^ q2))]) X53336 (fun t k => XT.lxor X53336.here hx rfl (hb hby at_349) rfl k) ?_
    refine ostW (mkF m 352 (La0_15 p0 q1 q2 q3 b1 b25766 b53326) [(.long (2147483647 : Int64)), (.long ((v0_305 q2 q1) ^^^ q2))]) X53336 (fun t k => XT.lload X53336.here hx rfl (hb hby at_350) rfl k) ?_
    refine ostW (mkF m 355 (La0_15 p0 q1 q2 q3 b1 b25766 b53326) [(.long (-1 : Int64)), (.long (2147483647 : Int64)), (.long ((v0_305 q2 q1) ^^^ q2))]) X53336 (fun t k => X53336.ldc2Long hx hown (mvT hZ (hw _ (wm 160 rfl))) (g := (mkF m 352 (La0_15 p0 q1 q2 q3 b1 b25766 b53326) [(.long (2147483647 : Int64)), (.long ((v0_305 q2 q1) ^^^ q2))])) rfl (hb hby at_352) _ k) ?_
    refine ostW (mkF m 356 (La0_15 p0 q1 q2 q3 b1 b25766 b53326) [(.long ((2147483647 : Int64) ^^^ (-1 : Int64))), (.long ((v0_305 q2 q1) ^^^ q2))]) X53336 (fun t k => XT.lxor X53336.here hx rfl (hb hby at_355) rfl k) ?_
    refine ostW (mkF m 357 (La0_15 p0 q1 q2 q3 b1 b25766 b53326) [(.long (((v0_305 q2 q1) ^^^ q2) &&& ((2147483647 : Int64) ^^^ (-1 : Int64))))]) X53336 (fun t k => XT.land X53336.here hx rfl (hb hby at_356) rfl k) ?_
    refine ostW (mkF m 358 (La0_15 p0 q1 q2 q3 b1 b25766 b53326) [(.long (0 : Int64)), (.long (((v0_305 q2 q1) ^^^ q2) &&& ((2147483647 : Int64) ^^^ (-1 : Int64))))]) X53336 (fun t k => XT.lconst X53336.here hx rfl (hb hby at_357) k) ?_
    refine ostW (mkF m 359 (La0_15 p0 q1 q2 q3 b1 b25766 b53326) [(.int (XT.cmpL (((v0_305 q2 q1) ^^^ q2) &&& ((2147483647 : Int64) ^^^ (-1 : Int64))) (0 : Int64)))]) X53336 (fun t k => XT.lcmp X53336.here hx rfl (hb hby at_358) rfl k) ?_
    refine ostW (mkF m 375 #[.val (.int p0), .val (.long q1), .second, .val (.long q2), .second, .val (.long q3), .second, .val (.ref b1), .val (.ref b25766), .val (.int (0 : Int32)), .val (.long (2147483647 : Int64)), .second, .val (.int (0 : Int32)), .val (.int (0 : Int32)), .val (.long (2147483647 : Int64)), .second, .val (.long (v0_258 q1)), .second, .val (.ref b53326), .val (.long q2), .second, .val (.long (v0_305 q2 q1)), .second, .val (.long q3), .second, .val (.long q3), .second, .val (.long (2147483647 : Int64)), .second, .unset, .unset, .unset] [(.int (v0_375 q2 q1))]) X53336 (fun t k => ?_) ?_
    · show Steps p.tables e below (T53336.setTop (mkF m 359 (La0_15 p0 q1 q2 q3 b1 b25766 b53326) [(.int (XT.cmpL (((v0_305 q2 q1) ^^^ q2) &&& ((2147483647 : Int64) ^^^ (-1 : Int64))) (0 : Int64)))])) t
      by_cases hc54360 : (((v0_305 q2 q1) ^^^ q2) &&& ((2147483647 : Int64) ^^^ (-1 : Int64))) = (0 : Int64)
      · skip
        refine XS.ifNo X53336.here hx rfl (hb hby at_359) rfl ((if0 _ _).trans (teq ((cl_eq _ _).mpr hc54360)).2) ?_
        show Steps p.tables e below (T53336.setTop (mkF m 362 (La0_15 p0 q1 q2 q3 b1 b25766 b53326) [])) t
        refine XT.lload X53336.here hx rfl (hb hby at_362) rfl ?_
        show Steps p.tables e below (T53336.setTop (mkF m 364 (La0_15 p0 q1 q2 q3 b1 b25766 b53326) [(.long q3)])) t
        refine XT.lload X53336.here hx rfl (hb hby at_364) rfl ?_
        show Steps p.tables e below (T53336.setTop (mkF m 366 (La0_15 p0 q1 q2 q3 b1 b25766 b53326) [(.long q3), (.long q3)])) t
        refine XT.lcmp X53336.here hx rfl (hb hby at_366) rfl ?_
        show Steps p.tables e below (T53336.setTop (mkF m 367 (La0_15 p0 q1 q2 q3 b1 b25766 b53326) [(.int (XT.cmpL q3 q3))])) t
        refine XS.ifNo X53336.here hx rfl (hb hby at_367) rfl ((if0 _ _).trans (teq ((cl_eq _ _).mpr (show q3 = q3 by first | rfl | decide))).2) ?_
        show Steps p.tables e below (T53336.setTop (mkF m 370 (La0_15 p0 q1 q2 q3 b1 b25766 b53326) [])) t
        refine XS.iconst X53336.here hx rfl (hb hby at_370) ?_
        show Steps p.tables e below (T53336.setTop (mkF m 371 (La0_15 p0 q1 q2 q3 b1 b25766 b53326) [(.int (1 : Int32))])) t
        refine XS.goto X53336.here hx rfl (pc0 := 371) (pc' := 375) rfl (hb hby at_371) (by decide) (by decide) ?_
        show Steps p.tables e below (T53336.setTop (mkF m 375 (La0_15 p0 q1 q2 q3 b1 b25766 b53326) [(.int (1 : Int32))])) t
        have qq54361 : (v0_375 q2 q1) = (1 : Int32) := by
          show (if (((v0_305 q2 q1) ^^^ q2) &&& ((2147483647 : Int64) ^^^ (-1 : Int64))) = (0 : Int64) then (1 : Int32) else (0 : Int32)) = (1 : Int32)
          simp only [if_pos hc54360]
        rw [qq54361] at k
        exact k
      · skip
        refine XS.ifYes X53336.here hx rfl (pc0 := 359) (pc' := 374) rfl (hb hby at_359) rfl ((if0 _ _).trans (feq (fun q => hc54360 ((cl_eq _ _).mp q))).2) (by decide) (by decide) ?_
        show Steps p.tables e below (T53336.setTop (mkF m 374 (La0_15 p0 q1 q2 q3 b1 b25766 b53326) [])) t
        refine XS.iconst X53336.here hx rfl (hb hby at_374) ?_
        show Steps p.tables e below (T53336.setTop (mkF m 375 (La0_15 p0 q1 q2 q3 b1 b25766 b53326) [(.int (0 : Int32))])) t
        have qq54362 : (v0_375 q2 q1) = (0 : Int32) := by
          show (if (((v0_305 q2 q1) ^^^ q2) &&& ((2147483647 : Int64) ^^^ (-1 : Int64))) = (0 : Int64) then (1 : Int32) else (0 : Int32)) = (0 : Int32)
          simp only [if_neg hc54360]
        rw [qq54362] at k
        exact k
    refine ostW (mkF m 377 (La0_16 p0 q1 q2 q3 b1 b25766 b53326) []) X53336 (fun t k => XS.istore X53336.here hx rfl (hb hby at_375) rfl (l' := (La0_16 p0 q1 q2 q3 b1 b25766 b53326)) rfl k) ?_
    refine ostW (mkF m 379 (La0_16 p0 q1 q2 q3 b1 b25766 b53326) [(.long (v0_305 q2 q1))]) X53336 (fun t k => XT.lload X53336.here hx rfl (hb hby at_377) rfl k) ?_
    refine ostW (mkF m 381 (La0_16 p0 q1 q2 q3 b1 b25766 b53326) [(.int (0 : Int32)), (.long (v0_305 q2 q1))]) X53336 (fun t k => XS.iload X53336.here hx rfl (hb hby at_379) rfl k) ?_
    refine ostW (mkF m 382 (La0_16 p0 q1 q2 q3 b1 b25766 b53326) [(.long (XT.ushrL (v0_305 q2 q1) (0 : Int32)))]) X53336 (fun t k => XT.lushr X53336.here hx rfl (hb hby at_381) rfl k) ?_
    refine ostW (mkF m 384 (La0_16 p0 q1 q2 q3 b1 b25766 b53326) [(.long (2147483647 : Int64)), (.long (XT.ushrL (v0_305 q2 q1) (0 : Int32)))]) X53336 (fun t k => XT.lload X53336.here hx rfl (hb hby at_382) rfl k) ?_
    refine ostW (mkF m 385 (La0_16 p0 q1 q2 q3 b1 b25766 b53326) [(.long ((XT.ushrL (v0_305 q2 q1) (0 : Int32)) &&& (2147483647 : Int64)))]) X53336 (fun t k => XT.land X53336.here hx rfl (hb hby at_384) rfl k) ?_
    refine ostW (mkF m 387 (La0_16 p0 q1 q2 q3 b1 b25766 b53326) [(.long (v0_258 q1)), (.long ((XT.ushrL (v0_305 q2 q1) (0 : Int32)) &&& (2147483647 : Int64)))]) X53336 (fun t k => XT.lload X53336.here hx rfl (hb hby at_385) rfl k) ?_
    refine ostW (mkF m 388 (La0_16 p0 q1 q2 q3 b1 b25766 b53326) [(.int (XT.cmpL ((XT.ushrL (v0_305 q2 q1) (0 : Int32)) &&& (2147483647 : Int64)) (v0_258 q1)))]) X53336 (fun t k => XT.lcmp X53336.here hx rfl (hb hby at_387) rfl k) ?_
    refine ostW (mkF m 396 #[.val (.int p0), .val (.long q1), .second, .val (.long q2), .second, .val (.long q3), .second, .val (.ref b1), .val (.ref b25766), .val (.int (0 : Int32)), .val (.long (2147483647 : Int64)), .second, .val (.int (0 : Int32)), .val (.int (0 : Int32)), .val (.long (2147483647 : Int64)), .second, .val (.long (v0_258 q1)), .second, .val (.ref b53326), .val (.long q2), .second, .val (.long (v0_305 q2 q1)), .second, .val (.long q3), .second, .val (.long q3), .second, .val (.long (2147483647 : Int64)), .second, .val (.int (v0_375 q2 q1)), .unset, .unset] [(.int (v0_396 q2 q1))]) X53336 (fun t k => ?_) ?_
    · show Steps p.tables e below (T53336.setTop (mkF m 388 (La0_16 p0 q1 q2 q3 b1 b25766 b53326) [(.int (XT.cmpL ((XT.ushrL (v0_305 q2 q1) (0 : Int32)) &&& (2147483647 : Int64)) (v0_258 q1)))])) t
      by_cases hc54363 : ((XT.ushrL (v0_305 q2 q1) (0 : Int32)) &&& (2147483647 : Int64)) = (v0_258 q1)
      · skip
        refine XS.ifNo X53336.here hx rfl (hb hby at_388) rfl ((if0 _ _).trans (teq ((cl_eq _ _).mpr hc54363)).2) ?_
        show Steps p.tables e below (T53336.setTop (mkF m 391 (La0_16 p0 q1 q2 q3 b1 b25766 b53326) [])) t
        refine XS.iconst X53336.here hx rfl (hb hby at_391) ?_
        show Steps p.tables e below (T53336.setTop (mkF m 392 (La0_16 p0 q1 q2 q3 b1 b25766 b53326) [(.int (1 : Int32))])) t
        refine XS.goto X53336.here hx rfl (pc0 := 392) (pc' := 396) rfl (hb hby at_392) (by decide) (by decide) ?_
        show Steps p.tables e below (T53336.setTop (mkF m 396 (La0_16 p0 q1 q2 q3 b1 b25766 b53326) [(.int (1 : Int32))])) t
        have qq54364 : (v0_396 q2 q1) = (1 : Int32) := by
          show (if ((XT.ushrL (v0_305 q2 q1) (0 : Int32)) &&& (2147483647 : Int64)) = (v0_258 q1) then (1 : Int32) else (0 : Int32)) = (1 : Int32)
          simp only [if_pos hc54363]
        rw [qq54364] at k
        exact k
      · skip
        refine XS.ifYes X53336.here hx rfl (pc0 := 388) (pc' := 395) rfl (hb hby at_388) rfl ((if0 _ _).trans (feq (fun q => hc54363 ((cl_eq _ _).mp q))).2) (by decide) (by decide) ?_
        show Steps p.tables e below (T53336.setTop (mkF m 395 (La0_16 p0 q1 q2 q3 b1 b25766 b53326) [])) t
        refine XS.iconst X53336.here hx rfl (hb hby at_395) ?_
        show Steps p.tables e below (T53336.setTop (mkF m 396 (La0_16 p0 q1 q2 q3 b1 b25766 b53326) [(.int (0 : Int32))])) t
        have qq54365 : (v0_396 q2 q1) = (0 : Int32) := by
          show (if ((XT.ushrL (v0_305 q2 q1) (0 : Int32)) &&& (2147483647 : Int64)) = (v0_258 q1) then (1 : Int32) else (0 : Int32)) = (0 : Int32)
          simp only [if_neg hc54363]
        rw [qq54365] at k
        exact k
    refine ostW (mkF m 398 (La0_17 p0 q1 q2 q3 b1 b25766 b53326) []) X53336 (fun t k => XS.istore X53336.here hx rfl (hb hby at_396) rfl (l' := (La0_17 p0 q1 q2 q3 b1 b25766 b53326)) rfl k) ?_
    refine ostW (mkF m 400 (La0_17 p0 q1 q2 q3 b1 b25766 b53326) [(.ref b25766)]) X53336 (fun t k => XS.aload X53336.here hx rfl (hb hby at_398) rfl rfl k) ?_
    refine ostW (mkF m 402 (La0_17 p0 q1 q2 q3 b1 b25766 b53326) [(.ref b53326), (.ref b25766)]) X53336 (fun t k => XS.aload X53336.here hx rfl (hb hby at_400) rfl rfl k) ?_
    refine ostW (mkF m 404 (La0_17 p0 q1 q2 q3 b1 b25766 b53326) [(.int (0 : Int32)), (.ref b53326), (.ref b25766)]) X53336 (fun t k => XS.iload X53336.here hx rfl (hb hby at_402) rfl k) ?_
    have E56392 := (Exa.keep E54359 K53336)
    have F56393 := (F54351.keep K53336 (ninS ne_b25766_b53326 nin0))
    have F56394 := (F54352.keep K53336 (ninS ne_b25766_b53326 nin0))
    have F56395 := (F54353.keep K53336 (ninS ne_b25766_b53326 nin0))
    have A56396 := (A54354.keep K53336 (ninS ne_b27787_b53326 nin0))
    have A56397 := (A54355.keep K53336 (ninS ne_b27802_b53326 nin0))
    have A56398 := (A54356.keep K53336 (ninS ne_b27824_b53326 nin0))
    obtain ⟨_, T54366, L54366, X54366, ⟨rfl, N54366q, u56399⟩, st54366⟩ := own_callV X53336 hx hZ (y := Y22) (W := 0) (a := b25766) (argsL := [(.ref b53326), (.int (0 : Int32))]) (rest := []) hown (hw _ (wm 161 rfl)) (hw _ (wm 162 rfl)) (hw _ (wm 164 rfl)) (hw _ (wm 163 rfl)) (hw _ (wm 96 rfl)) (hw _ (wm 165 rfl)) (by decide) E56392 (rm21s54 l Z a0 hw [] q2 q3 q1 b25766 b27787 b27802 b27824 b53326 h53336 n0 Z53336 E56392 F56393 F56394 F56395 A56396 A56397 A56398 u54358) (by decide) (by decide) (by decide) (by decide) e53336 (g := (mkF m 404 (La0_17 p0 q1 q2 q3 b1 b25766 b53326) [(.int (0 : Int32)), (.ref b53326), (.ref b25766)])) rfl (by rw [hml]; rfl) pd_14 rfl rfl (by show 2 * 0 + _ ≤ _; exact Nat.le_of_eq rfl) (hb hby at_404)
    have N54366 := Fr.app N53336 N54366q
    refine ostW (mkF m 407 (La0_17 p0 q1 q2 q3 b1 b25766 b53326) [(.int (((XT.ushrL ((q2 &&& ((2147483647 : Int64) ^^^ (-1 : Int64))) ||| ((v0_258 q1) <<< ((0 : Int32).toInt64 &&& 63))) (0 : Int32)) &&& (2147483647 : Int64)).toInt32))]) X54366 (fun t k => st54366 _ k) ?_
    refine ostW (mkF m 408 (La0_17 p0 q1 q2 q3 b1 b25766 b53326) [(.long ((((XT.ushrL ((q2 &&& ((2147483647 : Int64) ^^^ (-1 : Int64))) ||| ((v0_258 q1) <<< ((0 : Int32).toInt64 &&& 63))) (0 : Int32)) &&& (2147483647 : Int64)).toInt32).toInt64))]) X54366 (fun t k => XT.i2l X54366.here hx rfl (hb hby at_407) rfl k) ?_
    refine ostW (mkF m 410 (La0_17 p0 q1 q2 q3 b1 b25766 b53326) [(.long (v0_258 q1)), (.long ((((XT.ushrL ((q2 &&& ((2147483647 : Int64) ^^^ (-1 : Int64))) ||| ((v0_258 q1) <<< ((0 : Int32).toInt64 &&& 63))) (0 : Int32)) &&& (2147483647 : Int64)).toInt32).toInt64))]) X54366 (fun t k => XT.lload X54366.here hx rfl (hb hby at_408) rfl k) ?_
    refine ostW (mkF m 411 (La0_17 p0 q1 q2 q3 b1 b25766 b53326) [(.int (XT.cmpL ((((XT.ushrL ((q2 &&& ((2147483647 : Int64) ^^^ (-1 : Int64))) ||| ((v0_258 q1) <<< ((0 : Int32).toInt64 &&& 63))) (0 : Int32)) &&& (2147483647 : Int64)).toInt32).toInt64) (v0_258 q1)))]) X54366 (fun t k => XT.lcmp X54366.here hx rfl (hb hby at_410) rfl k) ?_
    refine ostW (mkF m 419 #[.val (.int p0), .val (.long q1), .second, .val (.long q2), .second, .val (.long q3), .second, .val (.ref b1), .val (.ref b25766), .val (.int (0 : Int32)), .val (.long (2147483647 : Int64)), .second, .val (.int (0 : Int32)), .val (.int (0 : Int32)), .val (.long (2147483647 : Int64)), .second, .val (.long (v0_258 q1)), .second, .val (.ref b53326), .val (.long q2), .second, .val (.long (v0_305 q2 q1)), .second, .val (.long q3), .second, .val (.long q3), .second, .val (.long (2147483647 : Int64)), .second, .val (.int (v0_375 q2 q1)), .val (.int (v0_396 q2 q1)), .unset] [(.int (v0_419 q2 q1))]) X54366 (fun t k => ?_) ?_
    · show Steps p.tables e below (T54366.setTop (mkF m 411 (La0_17 p0 q1 q2 q3 b1 b25766 b53326) [(.int (XT.cmpL ((((XT.ushrL ((q2 &&& ((2147483647 : Int64) ^^^ (-1 : Int64))) ||| ((v0_258 q1) <<< ((0 : Int32).toInt64 &&& 63))) (0 : Int32)) &&& (2147483647 : Int64)).toInt32).toInt64) (v0_258 q1)))])) t
      by_cases hc56400 : ((((XT.ushrL ((q2 &&& ((2147483647 : Int64) ^^^ (-1 : Int64))) ||| ((v0_258 q1) <<< ((0 : Int32).toInt64 &&& 63))) (0 : Int32)) &&& (2147483647 : Int64)).toInt32).toInt64) = (v0_258 q1)
      · skip
        refine XS.ifNo X54366.here hx rfl (hb hby at_411) rfl ((if0 _ _).trans (teq ((cl_eq _ _).mpr hc56400)).2) ?_
        show Steps p.tables e below (T54366.setTop (mkF m 414 (La0_17 p0 q1 q2 q3 b1 b25766 b53326) [])) t
        refine XS.iconst X54366.here hx rfl (hb hby at_414) ?_
        show Steps p.tables e below (T54366.setTop (mkF m 415 (La0_17 p0 q1 q2 q3 b1 b25766 b53326) [(.int (1 : Int32))])) t
        refine XS.goto X54366.here hx rfl (pc0 := 415) (pc' := 419) rfl (hb hby at_415) (by decide) (by decide) ?_
        show Steps p.tables e below (T54366.setTop (mkF m 419 (La0_17 p0 q1 q2 q3 b1 b25766 b53326) [(.int (1 : Int32))])) t
        have qq56401 : (v0_419 q2 q1) = (1 : Int32) := by
          show (if ((((XT.ushrL ((q2 &&& ((2147483647 : Int64) ^^^ (-1 : Int64))) ||| ((v0_258 q1) <<< ((0 : Int32).toInt64 &&& 63))) (0 : Int32)) &&& (2147483647 : Int64)).toInt32).toInt64) = (v0_258 q1) then (1 : Int32) else (0 : Int32)) = (1 : Int32)
          simp only [if_pos hc56400]
        rw [qq56401] at k
        exact k
      · skip
        refine XS.ifYes X54366.here hx rfl (pc0 := 411) (pc' := 418) rfl (hb hby at_411) rfl ((if0 _ _).trans (feq (fun q => hc56400 ((cl_eq _ _).mp q))).2) (by decide) (by decide) ?_
        show Steps p.tables e below (T54366.setTop (mkF m 418 (La0_17 p0 q1 q2 q3 b1 b25766 b53326) [])) t
        refine XS.iconst X54366.here hx rfl (hb hby at_418) ?_
        show Steps p.tables e below (T54366.setTop (mkF m 419 (La0_17 p0 q1 q2 q3 b1 b25766 b53326) [(.int (0 : Int32))])) t
        have qq56402 : (v0_419 q2 q1) = (0 : Int32) := by
          show (if ((((XT.ushrL ((q2 &&& ((2147483647 : Int64) ^^^ (-1 : Int64))) ||| ((v0_258 q1) <<< ((0 : Int32).toInt64 &&& 63))) (0 : Int32)) &&& (2147483647 : Int64)).toInt32).toInt64) = (v0_258 q1) then (1 : Int32) else (0 : Int32)) = (0 : Int32)
          simp only [if_neg hc56400]
        rw [qq56402] at k
        exact k
    refine ostW (mkF m 421 (La0_18 p0 q1 q2 q3 b1 b25766 b53326) []) X54366 (fun t k => XS.istore X54366.here hx rfl (hb hby at_419) rfl (l' := (La0_18 p0 q1 q2 q3 b1 b25766 b53326)) rfl k) ?_
    refine ostW (mkF m 423 (La0_18 p0 q1 q2 q3 b1 b25766 b53326) [(.int (v0_375 q2 q1))]) X54366 (fun t k => XS.iload X54366.here hx rfl (hb hby at_421) rfl k) ?_
    refine ostW (mkF m 426 (La0_18 p0 q1 q2 q3 b1 b25766 b53326) []) X54366 (fun t k => XS.ifNo X54366.here hx rfl (hb hby at_423) rfl ((if0 _ _).trans (feq (br0_423a q2 q1 p0 hb134)).1) k) ?_
    refine ostW (mkF m 428 (La0_18 p0 q1 q2 q3 b1 b25766 b53326) [(.int (v0_396 q2 q1))]) X54366 (fun t k => XS.iload X54366.here hx rfl (hb hby at_426) rfl k) ?_
    refine ostW (mkF m 431 (La0_18 p0 q1 q2 q3 b1 b25766 b53326) []) X54366 (fun t k => XS.ifNo X54366.here hx rfl (hb hby at_428) rfl ((if0 _ _).trans (feq (br0_428a q2 q1 p0 hb134)).1) k) ?_
    refine ostW (mkF m 433 (La0_18 p0 q1 q2 q3 b1 b25766 b53326) [(.int (v0_419 q2 q1))]) X54366 (fun t k => XS.iload X54366.here hx rfl (hb hby at_431) rfl k) ?_
    refine ostW (mkF m 436 (La0_18 p0 q1 q2 q3 b1 b25766 b53326) []) X54366 (fun t k => XS.ifNo X54366.here hx rfl (hb hby at_433) rfl ((if0 _ _).trans (feq (br0_433a q2 q1 p0 hb134)).1) k) ?_
    refine ostW (mkF m 437 (La0_18 p0 q1 q2 q3 b1 b25766 b53326) [(.int (1 : Int32))]) X54366 (fun t k => XS.iconst X54366.here hx rfl (hb hby at_436) k) ?_
    refine ostW (mkF m 441 (La0_18 p0 q1 q2 q3 b1 b25766 b53326) [(.int (1 : Int32))]) X54366 (fun t k => XS.goto X54366.here hx rfl (pc0 := 437) (pc' := 441) rfl (hb hby at_437) (by decide) (by decide) k) ?_
    have hSk := (Nat.le_trans (Nat.le_trans (Nat.le_trans (Nat.le_trans (Nat.le_trans (Nat.le_trans (Nat.le_trans (Nat.le_trans hSk K21641.1) K23708.1) K25766.1) K25772.1) K53326.1) K53334.1) K53335.1) K53336.1)
    refine OwnFinW.retNar (vm := T21640.vm) X54366 hSn (by rw [u56399]; exact hSk) (by simp) (hb hby at_441) (by decide) (by decide) ?_
    exact ⟨rfl, N54366⟩
  · skip
    refine ostW (mkF m 156 (La0_3 p0 q1 q2 q3 b1 b25766) []) X25772 (fun t k => XS.ifYes X25772.here hx rfl (pc0 := 134) (pc' := 156) rfl (hb hby at_134) rfl ((if0 _ _).trans (feq hb134).2) (by decide) (by decide) k) ?_
    refine ostW (mkF m 158 (La0_3 p0 q1 q2 q3 b1 b25766) [(.int (v0_130 p0))]) X25772 (fun t k => XS.iload X25772.here hx rfl (hb hby at_156) rfl k) ?_
    refine ostW (mkF m 159 (La0_3 p0 q1 q2 q3 b1 b25766) [(.int (1 : Int32)), (.int (v0_130 p0))]) X25772 (fun t k => XS.iconst X25772.here hx rfl (hb hby at_158) k) ?_
    by_cases hb159 : (v0_130 p0) = (1 : Int32)
    · skip
      refine ostW (mkF m 162 #[.val (.int p0), .val (.long q1), .second, .val (.long q2), .second, .val (.long q3), .second, .val (.ref b1), .val (.ref b25766), .val (.int (v0_130 p0)), .unset, .unset, .unset, .unset, .unset, .unset, .unset, .unset, .unset, .unset, .unset, .unset, .unset, .unset, .unset, .unset, .unset, .unset, .unset, .unset, .unset, .unset] []) X25772 (fun t k => XS.icmpNo X25772.here hx rfl (hb hby at_159) rfl (teq hb159).2 k) ?_
      rw [hb159]
      refine ostW (mkF m 165 (La0_19 p0 q1 q2 q3 b1 b25766) [(.long (2147483647 : Int64))]) X25772 (fun t k => X25772.ldc2Long hx hown (mvT hZ (hw _ (wm 153 rfl))) (g := (mkF m 162 (La0_19 p0 q1 q2 q3 b1 b25766) [])) rfl (hb hby at_162) _ k) ?_
      refine ostW (mkF m 167 (La0_20 p0 q1 q2 q3 b1 b25766) []) X25772 (fun t k => XT.lstore X25772.here hx rfl (hb hby at_165) rfl (l' := (La0_20 p0 q1 q2 q3 b1 b25766)) rfl k) ?_
      refine ostW (mkF m 168 (La0_20 p0 q1 q2 q3 b1 b25766) [(.int (0 : Int32))]) X25772 (fun t k => XS.iconst X25772.here hx rfl (hb hby at_167) k) ?_
      refine ostW (mkF m 170 (La0_21 p0 q1 q2 q3 b1 b25766) []) X25772 (fun t k => XS.istore X25772.here hx rfl (hb hby at_168) rfl (l' := (La0_21 p0 q1 q2 q3 b1 b25766)) rfl k) ?_
      refine ostW (mkF m 172 (La0_21 p0 q1 q2 q3 b1 b25766) [(.int (31 : Int32))]) X25772 (fun t k => XS.bipush X25772.here hx rfl (hb hby at_170) k) ?_
      refine ostW (mkF m 174 (La0_22 p0 q1 q2 q3 b1 b25766) []) X25772 (fun t k => XS.istore X25772.here hx rfl (hb hby at_172) rfl (l' := (La0_22 p0 q1 q2 q3 b1 b25766)) rfl k) ?_
      refine ostW (mkF m 177 (La0_22 p0 q1 q2 q3 b1 b25766) [(.long (2147483647 : Int64))]) X25772 (fun t k => X25772.ldc2Long hx hown (mvT hZ (hw _ (wm 153 rfl))) (g := (mkF m 174 (La0_22 p0 q1 q2 q3 b1 b25766) [])) rfl (hb hby at_174) _ k) ?_
      refine ostW (mkF m 179 (La0_23 p0 q1 q2 q3 b1 b25766) []) X25772 (fun t k => XT.lstore X25772.here hx rfl (hb hby at_177) rfl (l' := (La0_23 p0 q1 q2 q3 b1 b25766)) rfl k) ?_
      refine ostW (mkF m 250 (La0_23 p0 q1 q2 q3 b1 b25766) []) X25772 (fun t k => XS.goto X25772.here hx rfl (pc0 := 179) (pc' := 250) rfl (hb hby at_179) (by decide) (by decide) k) ?_
      refine ostW (mkF m 251 (La0_23 p0 q1 q2 q3 b1 b25766) [(.long q1)]) X25772 (fun t k => XT.lloadN X25772.here hx rfl (hb hby at_250) rfl k) ?_
      refine ostW (mkF m 254 (La0_23 p0 q1 q2 q3 b1 b25766) [(.long (2147483647 : Int64)), (.long q1)]) X25772 (fun t k => X25772.ldc2Long hx hown (mvT hZ (hw _ (wm 153 rfl))) (g := (mkF m 251 (La0_23 p0 q1 q2 q3 b1 b25766) [(.long q1)])) rfl (hb hby at_251) _ k) ?_
      refine ostW (mkF m 255 (La0_23 p0 q1 q2 q3 b1 b25766) [(.long (q1 &&& (2147483647 : Int64)))]) X25772 (fun t k => XT.land X25772.here hx rfl (hb hby at_254) rfl k) ?_
      refine ostW (mkF m 257 (La0_23 p0 q1 q2 q3 b1 b25766) [(.long (2147483647 : Int64)), (.long (q1 &&& (2147483647 : Int64)))]) X25772 (fun t k => XT.lload X25772.here hx rfl (hb hby at_255) rfl k) ?_
      refine ostW (mkF m 258 (La0_23 p0 q1 q2 q3 b1 b25766) [(.long ((q1 &&& (2147483647 : Int64)) % (2147483647 : Int64)))]) X25772 (fun t k => own_lrem (g := (mkF m 257 (La0_23 p0 q1 q2 q3 b1 b25766) [(.long (2147483647 : Int64)), (.long (q1 &&& (2147483647 : Int64)))])) (x := (q1 &&& (2147483647 : Int64))) (y := (2147483647 : Int64)) X25772 hx rfl (hb hby at_257) rfl (by decide) k) ?_
      refine ostW (mkF m 260 (La0_24 p0 q1 q2 q3 b1 b25766) []) X25772 (fun t k => XT.lstore X25772.here hx rfl (hb hby at_258) rfl (l' := (La0_24 p0 q1 q2 q3 b1 b25766)) rfl k) ?_
      refine ostW (mkF m 261 (La0_24 p0 q1 q2 q3 b1 b25766) [(.int (2 : Int32))]) X25772 (fun t k => XS.iconst X25772.here hx rfl (hb hby at_260) k) ?_
      obtain ⟨T56403, h56403, b56403, X56403, e56403, y56403, K56403, A56403, st56403⟩ := own_new X25772 hx hZ (hw _ (wm 115 rfl)) e25772 (g := (mkF m 261 (La0_24 p0 q1 q2 q3 b1 b25766) [(.int (2 : Int32))])) rfl (hb hby at_261) rfl (by decide) (cap := 2) (by decide) (by decide) (by decide) (by decide)
      have B56403 : Ary Z h56403 b56403 .long 2 (fun i => .long ((fun _ => (0 : Int64)) i)) := A56403
      have E56404 := (Exa.keep E53294 K25772)
      have ne_b1_b56403 : b1 ≠ b56403 := Exa.neS E56404 y56403
      have E56405 := (Exa.keep E53297 K25772)
      have ne_b3058_b56403 : b3058 ≠ b56403 := Exa.neS E56405 y56403
      have A56406 := (A53299.keep K25772 (ninS ne_b9144_b25766 nin0))
      have ne_b9144_b56403 : b9144 ≠ b56403 := AryR.neS A56406 y56403
      have E56407 := (Exa.keep E53300 K25772)
      have ne_b9244_b56403 : b9244 ≠ b56403 := Exa.neS E56407 y56403
      have E56408 := (Exa.keep E53302 K25772)
      have ne_b13373_b56403 : b13373 ≠ b56403 := Exa.neS E56408 y56403
      have E56409 := (Exa.keep E53304 K25772)
      have ne_b17503_b56403 : b17503 ≠ b56403 := Exa.neS E56409 y56403
      have E56410 := (Exa.keep E53306 K25772)
      have ne_b21634_b56403 : b21634 ≠ b56403 := Exa.neS E56410 y56403
      have ne_b25766_b56403 : b25766 ≠ b56403 := Exa.neS u53309 y56403
      have ne_b27787_b56403 : b27787 ≠ b56403 := Ary.neS u53314 y56403
      have ne_b27802_b56403 : b27802 ≠ b56403 := Ary.neS u53317 y56403
      have ne_b27824_b56403 : b27824 ≠ b56403 := Ary.neS u53320 y56403
      have g_b56403 : n0 ≤ b56403 := by rw [y56403]; exact Z25772
      have Z56403 := Nat.le_trans Z25772 K56403.1
      refine ostW (mkF m 263 (La0_24 p0 q1 q2 q3 b1 b25766) [(.ref b56403)]) X56403 (fun t k => st56403 _ k) ?_
      refine ostW (mkF m 265 (La0_25 p0 q1 q2 q3 b1 b25766 b56403) []) X56403 (fun t k => XS.astore X56403.here hx rfl (hb hby at_263) rfl rfl (l' := (La0_25 p0 q1 q2 q3 b1 b25766 b56403)) rfl k) ?_
      refine ostW (mkF m 267 (La0_25 p0 q1 q2 q3 b1 b25766 b56403) [(.ref b56403)]) X56403 (fun t k => XS.aload X56403.here hx rfl (hb hby at_265) rfl rfl k) ?_
      refine ostW (mkF m 268 (La0_25 p0 q1 q2 q3 b1 b25766 b56403) [(.int (0 : Int32)), (.ref b56403)]) X56403 (fun t k => XS.iconst X56403.here hx rfl (hb hby at_267) k) ?_
      refine ostW (mkF m 269 (La0_25 p0 q1 q2 q3 b1 b25766 b56403) [(.long q2), (.int (0 : Int32)), (.ref b56403)]) X56403 (fun t k => XT.lloadN X56403.here hx rfl (hb hby at_268) rfl k) ?_
      obtain ⟨T56411, h56411, L56411, X56411, e56411, N56411, K56411, A56411, st56411⟩ := own_stJ X56403 hx hZ e56403 N25772 (G := (fun _ => (0 : Int64))) B56403 g_b56403 (j := (0 : Int32)) (x := q2) (by decide) (g := (mkF m 269 (La0_25 p0 q1 q2 q3 b1 b25766 b56403) [(.long q2), (.int (0 : Int32)), (.ref b56403)])) rfl rfl (hb hby at_269)
      have B56411 : Ary Z h56411 b56403 .long 2 (fun i => .long ((G0_269 q2) i)) := A56411
      have Z56411 := Nat.le_trans Z56403 K56411.1
      refine ostW (mkF m 270 (La0_25 p0 q1 q2 q3 b1 b25766 b56403) []) X56411 (fun t k => st56411 _ k) ?_
      refine ostW (mkF m 272 (La0_25 p0 q1 q2 q3 b1 b25766 b56403) [(.ref b56403)]) X56411 (fun t k => XS.aload X56411.here hx rfl (hb hby at_270) rfl rfl k) ?_
      refine ostW (mkF m 273 (La0_25 p0 q1 q2 q3 b1 b25766 b56403) [(.int (1 : Int32)), (.ref b56403)]) X56411 (fun t k => XS.iconst X56411.here hx rfl (hb hby at_272) k) ?_
      refine ostW (mkF m 275 (La0_25 p0 q1 q2 q3 b1 b25766 b56403) [(.long q3), (.int (1 : Int32)), (.ref b56403)]) X56411 (fun t k => XT.lload X56411.here hx rfl (hb hby at_273) rfl k) ?_
      obtain ⟨T56412, h56412, L56412, X56412, e56412, N56412, K56412, A56412, st56412⟩ := own_stJ X56411 hx hZ e56411 N56411 (G := (G0_269 q2)) B56411 g_b56403 (j := (1 : Int32)) (x := q3) (by decide) (g := (mkF m 275 (La0_25 p0 q1 q2 q3 b1 b25766 b56403) [(.long q3), (.int (1 : Int32)), (.ref b56403)])) rfl rfl (hb hby at_275)
      have B56412 : Ary Z h56412 b56403 .long 2 (fun i => .long ((G0_275 q2 q3) i)) := A56412
      have Z56412 := Nat.le_trans Z56411 K56412.1
      refine ostW (mkF m 276 (La0_25 p0 q1 q2 q3 b1 b25766 b56403) []) X56412 (fun t k => st56412 _ k) ?_
      refine ostW (mkF m 278 (La0_25 p0 q1 q2 q3 b1 b25766 b56403) [(.ref b25766)]) X56412 (fun t k => XS.aload X56412.here hx rfl (hb hby at_276) rfl rfl k) ?_
      refine ostW (mkF m 280 (La0_25 p0 q1 q2 q3 b1 b25766 b56403) [(.ref b56403), (.ref b25766)]) X56412 (fun t k => XS.aload X56412.here hx rfl (hb hby at_278) rfl rfl k) ?_
      refine ostW (mkF m 282 (La0_25 p0 q1 q2 q3 b1 b25766 b56403) [(.int (1 : Int32)), (.ref b56403), (.ref b25766)]) X56412 (fun t k => XS.iload X56412.here hx rfl (hb hby at_280) rfl k) ?_
      refine ostW (mkF m 284 (La0_25 p0 q1 q2 q3 b1 b25766 b56403) [(.long (v0_258 q1)), (.int (1 : Int32)), (.ref b56403), (.ref b25766)]) X56412 (fun t k => XT.lload X56412.here hx rfl (hb hby at_282) rfl k) ?_
      have F57428 := (((u53310.keep K56403 nin0).keep K56411 (ninS ne_b25766_b56403 nin0)).keep K56412 (ninS ne_b25766_b56403 nin0))
      have F57429 := (((u53311.keep K56403 nin0).keep K56411 (ninS ne_b25766_b56403 nin0)).keep K56412 (ninS ne_b25766_b56403 nin0))
      have F57430 := (((u53312.keep K56403 nin0).keep K56411 (ninS ne_b25766_b56403 nin0)).keep K56412 (ninS ne_b25766_b56403 nin0))
      have A57431 := (((u53314.keep K56403 nin0).keep K56411 (ninS ne_b27787_b56403 nin0)).keep K56412 (ninS ne_b27787_b56403 nin0))
      have A57432 := (((u53317.keep K56403 nin0).keep K56411 (ninS ne_b27802_b56403 nin0)).keep K56412 (ninS ne_b27802_b56403 nin0))
      have A57433 := (((u53320.keep K56403 nin0).keep K56411 (ninS ne_b27824_b56403 nin0)).keep K56412 (ninS ne_b27824_b56403 nin0))
      have E57436 := (Exa.keep (Exa.keep (Exa.keep u53309 K56403) K56411) K56412)
      obtain ⟨_, T56413, L56413, X56413, ⟨rfl, N56413q, u57434, u57435⟩, st56413⟩ := own_callV X56412 hx hZ (y := Y20) (W := 0) (a := b25766) (argsL := [(.ref b56403), (.int (1 : Int32)), (.long (v0_258 q1))]) (rest := []) hown (hw _ (wm 154 rfl)) (hw _ (wm 155 rfl)) (hw _ (wm 157 rfl)) (hw _ (wm 156 rfl)) (hw _ (wm 96 rfl)) (hw _ (wm 158 rfl)) (by decide) E57436 (rm20s56 l Z a0 hw [] q1 q2 q3 b25766 b27787 b27802 b27824 b56403 h56412 n0 Z56412 F57428 F57429 F57430 A57431 A57432 A57433 B56412 g_b56403) (by decide) (by decide) (by decide) (by decide) e56412 (g := (mkF m 284 (La0_25 p0 q1 q2 q3 b1 b25766 b56403) [(.long (v0_258 q1)), (.int (1 : Int32)), (.ref b56403), (.ref b25766)])) rfl (by rw [hml]; rfl) pd_12 rfl rfl (by show 2 * 0 + _ ≤ _; exact Nat.le_of_eq rfl) (hb hby at_284)
      have N56413 := Fr.app N56412 N56413q
      obtain ⟨h56413, e56413⟩ : ∃ z, T56413.heap = z := ⟨_, rfl⟩
      rw [e56413] at u57434 u57435
      have K56413 := u57434
      have Z56413 := Nat.le_trans Z56412 K56413.1
      refine ostW (mkF m 287 (La0_25 p0 q1 q2 q3 b1 b25766 b56403) []) X56413 (fun t k => st56413 _ k) ?_
      refine ostW (mkF m 289 (La0_25 p0 q1 q2 q3 b1 b25766 b56403) [(.int (0 : Int32))]) X56413 (fun t k => XS.iload X56413.here hx rfl (hb hby at_287) rfl k) ?_
      refine ostW (mkF m 292 (La0_25 p0 q1 q2 q3 b1 b25766 b56403) []) X56413 (fun t k => XS.ifNo X56413.here hx rfl (hb hby at_289) rfl ((if0 _ _).trans (teq (show (0 : Int32) = (0 : Int32) by first | rfl | decide)).2) k) ?_
      refine ostW (mkF m 293 (La0_25 p0 q1 q2 q3 b1 b25766 b56403) [(.long q2)]) X56413 (fun t k => XT.lloadN X56413.here hx rfl (hb hby at_292) rfl k) ?_
      refine ostW (mkF m 298 (La0_25 p0 q1 q2 q3 b1 b25766 b56403) [(.long q2)]) X56413 (fun t k => XS.goto X56413.here hx rfl (pc0 := 293) (pc' := 298) rfl (hb hby at_293) (by decide) (by decide) k) ?_
      refine ostW (mkF m 300 (La0_26 p0 q1 q2 q3 b1 b25766 b56403) []) X56413 (fun t k => XT.lstore X56413.here hx rfl (hb hby at_298) rfl (l' := (La0_26 p0 q1 q2 q3 b1 b25766 b56403)) rfl k) ?_
      refine ostW (mkF m 302 (La0_26 p0 q1 q2 q3 b1 b25766 b56403) [(.ref b56403)]) X56413 (fun t k => XS.aload X56413.here hx rfl (hb hby at_300) rfl rfl k) ?_
      refine ostW (mkF m 304 (La0_26 p0 q1 q2 q3 b1 b25766 b56403) [(.int (0 : Int32)), (.ref b56403)]) X56413 (fun t k => XS.iload X56413.here hx rfl (hb hby at_302) rfl k) ?_
      refine ostW (mkF m 305 (La0_26 p0 q1 q2 q3 b1 b25766 b56403) [(.long ((q2 &&& ((4611686016279904256 : Int64) ^^^ (-1 : Int64))) ||| ((v0_258 q1) <<< ((31 : Int32).toInt64 &&& 63))))]) X56413 (fun t k => own_ldJ X56413 hx hZ e56413 u57435 (by decide) rfl (g := (mkF m 304 (La0_26 p0 q1 q2 q3 b1 b25766 b56403) [(.int (0 : Int32)), (.ref b56403)])) rfl rfl (hb hby at_304) _ k) ?_
      refine ostW (mkF m 307 (La0_27 p0 q1 q2 q3 b1 b25766 b56403) []) X56413 (fun t k => XT.lstore X56413.here hx rfl (hb hby at_305) rfl (l' := (La0_27 p0 q1 q2 q3 b1 b25766 b56403)) rfl k) ?_
      refine ostW (mkF m 309 (La0_27 p0 q1 q2 q3 b1 b25766 b56403) [(.int (0 : Int32))]) X56413 (fun t k => XS.iload X56413.here hx rfl (hb hby at_307) rfl k) ?_
      refine ostW (mkF m 312 (La0_27 p0 q1 q2 q3 b1 b25766 b56403) []) X56413 (fun t k => XS.ifNo X56413.here hx rfl (hb hby at_309) rfl ((if0 _ _).trans (teq (show (0 : Int32) = (0 : Int32) by first | rfl | decide)).2) k) ?_
      refine ostW (mkF m 314 (La0_27 p0 q1 q2 q3 b1 b25766 b56403) [(.ref b56403)]) X56413 (fun t k => XS.aload X56413.here hx rfl (hb hby at_312) rfl rfl k) ?_
      refine ostW (mkF m 315 (La0_27 p0 q1 q2 q3 b1 b25766 b56403) [(.int (1 : Int32)), (.ref b56403)]) X56413 (fun t k => XS.iconst X56413.here hx rfl (hb hby at_314) k) ?_
      refine ostW (mkF m 316 (La0_27 p0 q1 q2 q3 b1 b25766 b56403) [(.long q3)]) X56413 (fun t k => own_ldJ X56413 hx hZ e56413 u57435 (by decide) rfl (g := (mkF m 315 (La0_27 p0 q1 q2 q3 b1 b25766 b56403) [(.int (1 : Int32)), (.ref b56403)])) rfl rfl (hb hby at_315) _ k) ?_
      refine ostW (mkF m 323 (La0_27 p0 q1 q2 q3 b1 b25766 b56403) [(.long q3)]) X56413 (fun t k => XS.goto X56413.here hx rfl (pc0 := 316) (pc' := 323) rfl (hb hby at_316) (by decide) (by decide) k) ?_
      refine ostW (mkF m 325 (La0_28 p0 q1 q2 q3 b1 b25766 b56403) []) X56413 (fun t k => XT.lstore X56413.here hx rfl (hb hby at_323) rfl (l' := (La0_28 p0 q1 q2 q3 b1 b25766 b56403)) rfl k) ?_
      refine ostW (mkF m 327 (La0_28 p0 q1 q2 q3 b1 b25766 b56403) [(.int (0 : Int32))]) X56413 (fun t k => XS.iload X56413.here hx rfl (hb hby at_325) rfl k) ?_
      refine ostW (mkF m 330 (La0_28 p0 q1 q2 q3 b1 b25766 b56403) []) X56413 (fun t k => XS.ifNo X56413.here hx rfl (hb hby at_327) rfl ((if0 _ _).trans (teq (show (0 : Int32) = (0 : Int32) by first | rfl | decide)).2) k) ?_
      refine ostW (mkF m 332 (La0_28 p0 q1 q2 q3 b1 b25766 b56403) [(.long q3)]) X56413 (fun t k => XT.lload X56413.here hx rfl (hb hby at_330) rfl k) ?_
      refine ostW (mkF m 336 (La0_28 p0 q1 q2 q3 b1 b25766 b56403) [(.long q3)]) X56413 (fun t k => XS.goto X56413.here hx rfl (pc0 := 332) (pc' := 336) rfl (hb hby at_332) (by decide) (by decide) k) ?_
      refine ostW (mkF m 338 (La0_29 p0 q1 q2 q3 b1 b25766 b56403) []) X56413 (fun t k => XT.lstore X56413.here hx rfl (hb hby at_336) rfl (l' := (La0_29 p0 q1 q2 q3 b1 b25766 b56403)) rfl k) ?_
      refine ostW (mkF m 340 (La0_29 p0 q1 q2 q3 b1 b25766 b56403) [(.long (2147483647 : Int64))]) X56413 (fun t k => XT.lload X56413.here hx rfl (hb hby at_338) rfl k) ?_
      refine ostW (mkF m 342 (La0_29 p0 q1 q2 q3 b1 b25766 b56403) [(.int (31 : Int32)), (.long (2147483647 : Int64))]) X56413 (fun t k => XS.iload X56413.here hx rfl (hb hby at_340) rfl k) ?_
      refine ostW (mkF m 343 (La0_29 p0 q1 q2 q3 b1 b25766 b56403) [(.long (4611686016279904256 : Int64))]) X56413 (fun t k => XT.lshl X56413.here hx rfl (hb hby at_342) rfl k) ?_
      refine ostW (mkF m 345 (La0_30 p0 q1 q2 q3 b1 b25766 b56403) []) X56413 (fun t k => XT.lstore X56413.here hx rfl (hb hby at_343) rfl (l' := (La0_30 p0 q1 q2 q3 b1 b25766 b56403)) rfl k) ?_
      refine ostW (mkF m 347 (La0_30 p0 q1 q2 q3 b1 b25766 b56403) [(.long (v0_305b q2 q1))]) X56413 (fun t k => XT.lload X56413.here hx rfl (hb hby at_345) rfl k) ?_
      refine ostW (mkF m 349 (La0_30 p0 q1 q2 q3 b1 b25766 b56403) [(.long q2), (.long (v0_305b q2 q1))]) X56413 (fun t k => XT.lload X56413.here hx rfl (hb hby at_347) rfl k) ?_
      refine ostW (mkF m 350 (La0_30 p0 q1 q2 q3 b1 b25766 b56403) [(.long ((v0_305b q2 q1) ^^^ q2))]) X56413 (fun t k => XT.lxor X56413.here hx rfl (hb hby at_349) rfl k) ?_
      refine ostW (mkF m 352 (La0_30 p0 q1 q2 q3 b1 b25766 b56403) [(.long (4611686016279904256 : Int64)), (.long ((v0_305b q2 q1) ^^^ q2))]) X56413 (fun t k => XT.lload X56413.here hx rfl (hb hby at_350) rfl k) ?_
      refine ostW (mkF m 355 (La0_30 p0 q1 q2 q3 b1 b25766 b56403) [(.long (-1 : Int64)), (.long (4611686016279904256 : Int64)), (.long ((v0_305b q2 q1) ^^^ q2))]) X56413 (fun t k => X56413.ldc2Long hx hown (mvT hZ (hw _ (wm 160 rfl))) (g := (mkF m 352 (La0_30 p0 q1 q2 q3 b1 b25766 b56403) [(.long (4611686016279904256 : Int64)), (.long ((v0_305b q2 q1) ^^^ q2))])) rfl (hb hby at_352) _ k) ?_
      refine ostW (mkF m 356 (La0_30 p0 q1 q2 q3 b1 b25766 b56403) [(.long ((4611686016279904256 : Int64) ^^^ (-1 : Int64))), (.long ((v0_305b q2 q1) ^^^ q2))]) X56413 (fun t k => XT.lxor X56413.here hx rfl (hb hby at_355) rfl k) ?_
      refine ostW (mkF m 357 (La0_30 p0 q1 q2 q3 b1 b25766 b56403) [(.long (((v0_305b q2 q1) ^^^ q2) &&& ((4611686016279904256 : Int64) ^^^ (-1 : Int64))))]) X56413 (fun t k => XT.land X56413.here hx rfl (hb hby at_356) rfl k) ?_
      refine ostW (mkF m 358 (La0_30 p0 q1 q2 q3 b1 b25766 b56403) [(.long (0 : Int64)), (.long (((v0_305b q2 q1) ^^^ q2) &&& ((4611686016279904256 : Int64) ^^^ (-1 : Int64))))]) X56413 (fun t k => XT.lconst X56413.here hx rfl (hb hby at_357) k) ?_
      refine ostW (mkF m 359 (La0_30 p0 q1 q2 q3 b1 b25766 b56403) [(.int (XT.cmpL (((v0_305b q2 q1) ^^^ q2) &&& ((4611686016279904256 : Int64) ^^^ (-1 : Int64))) (0 : Int64)))]) X56413 (fun t k => XT.lcmp X56413.here hx rfl (hb hby at_358) rfl k) ?_
      refine ostW (mkF m 375 #[.val (.int p0), .val (.long q1), .second, .val (.long q2), .second, .val (.long q3), .second, .val (.ref b1), .val (.ref b25766), .val (.int (1 : Int32)), .val (.long (2147483647 : Int64)), .second, .val (.int (0 : Int32)), .val (.int (31 : Int32)), .val (.long (2147483647 : Int64)), .second, .val (.long (v0_258 q1)), .second, .val (.ref b56403), .val (.long q2), .second, .val (.long (v0_305b q2 q1)), .second, .val (.long q3), .second, .val (.long q3), .second, .val (.long (4611686016279904256 : Int64)), .second, .unset, .unset, .unset] [(.int (v0_375b q2 q1))]) X56413 (fun t k => ?_) ?_
      · show Steps p.tables e below (T56413.setTop (mkF m 359 (La0_30 p0 q1 q2 q3 b1 b25766 b56403) [(.int (XT.cmpL (((v0_305b q2 q1) ^^^ q2) &&& ((4611686016279904256 : Int64) ^^^ (-1 : Int64))) (0 : Int64)))])) t
        by_cases hc57437 : (((v0_305b q2 q1) ^^^ q2) &&& ((4611686016279904256 : Int64) ^^^ (-1 : Int64))) = (0 : Int64)
        · skip
          refine XS.ifNo X56413.here hx rfl (hb hby at_359) rfl ((if0 _ _).trans (teq ((cl_eq _ _).mpr hc57437)).2) ?_
          show Steps p.tables e below (T56413.setTop (mkF m 362 (La0_30 p0 q1 q2 q3 b1 b25766 b56403) [])) t
          refine XT.lload X56413.here hx rfl (hb hby at_362) rfl ?_
          show Steps p.tables e below (T56413.setTop (mkF m 364 (La0_30 p0 q1 q2 q3 b1 b25766 b56403) [(.long q3)])) t
          refine XT.lload X56413.here hx rfl (hb hby at_364) rfl ?_
          show Steps p.tables e below (T56413.setTop (mkF m 366 (La0_30 p0 q1 q2 q3 b1 b25766 b56403) [(.long q3), (.long q3)])) t
          refine XT.lcmp X56413.here hx rfl (hb hby at_366) rfl ?_
          show Steps p.tables e below (T56413.setTop (mkF m 367 (La0_30 p0 q1 q2 q3 b1 b25766 b56403) [(.int (XT.cmpL q3 q3))])) t
          refine XS.ifNo X56413.here hx rfl (hb hby at_367) rfl ((if0 _ _).trans (teq ((cl_eq _ _).mpr (show q3 = q3 by first | rfl | decide))).2) ?_
          show Steps p.tables e below (T56413.setTop (mkF m 370 (La0_30 p0 q1 q2 q3 b1 b25766 b56403) [])) t
          refine XS.iconst X56413.here hx rfl (hb hby at_370) ?_
          show Steps p.tables e below (T56413.setTop (mkF m 371 (La0_30 p0 q1 q2 q3 b1 b25766 b56403) [(.int (1 : Int32))])) t
          refine XS.goto X56413.here hx rfl (pc0 := 371) (pc' := 375) rfl (hb hby at_371) (by decide) (by decide) ?_
          show Steps p.tables e below (T56413.setTop (mkF m 375 (La0_30 p0 q1 q2 q3 b1 b25766 b56403) [(.int (1 : Int32))])) t
          have qq57438 : (v0_375b q2 q1) = (1 : Int32) := by
            show (if (((v0_305b q2 q1) ^^^ q2) &&& ((4611686016279904256 : Int64) ^^^ (-1 : Int64))) = (0 : Int64) then (1 : Int32) else (0 : Int32)) = (1 : Int32)
            simp only [if_pos hc57437]
          rw [qq57438] at k
          exact k
        · skip
          refine XS.ifYes X56413.here hx rfl (pc0 := 359) (pc' := 374) rfl (hb hby at_359) rfl ((if0 _ _).trans (feq (fun q => hc57437 ((cl_eq _ _).mp q))).2) (by decide) (by decide) ?_
          show Steps p.tables e below (T56413.setTop (mkF m 374 (La0_30 p0 q1 q2 q3 b1 b25766 b56403) [])) t
          refine XS.iconst X56413.here hx rfl (hb hby at_374) ?_
          show Steps p.tables e below (T56413.setTop (mkF m 375 (La0_30 p0 q1 q2 q3 b1 b25766 b56403) [(.int (0 : Int32))])) t
          have qq57439 : (v0_375b q2 q1) = (0 : Int32) := by
            show (if (((v0_305b q2 q1) ^^^ q2) &&& ((4611686016279904256 : Int64) ^^^ (-1 : Int64))) = (0 : Int64) then (1 : Int32) else (0 : Int32)) = (0 : Int32)
            simp only [if_neg hc57437]
          rw [qq57439] at k
          exact k
      refine ostW (mkF m 377 (La0_31 p0 q1 q2 q3 b1 b25766 b56403) []) X56413 (fun t k => XS.istore X56413.here hx rfl (hb hby at_375) rfl (l' := (La0_31 p0 q1 q2 q3 b1 b25766 b56403)) rfl k) ?_
      refine ostW (mkF m 379 (La0_31 p0 q1 q2 q3 b1 b25766 b56403) [(.long (v0_305b q2 q1))]) X56413 (fun t k => XT.lload X56413.here hx rfl (hb hby at_377) rfl k) ?_
      refine ostW (mkF m 381 (La0_31 p0 q1 q2 q3 b1 b25766 b56403) [(.int (31 : Int32)), (.long (v0_305b q2 q1))]) X56413 (fun t k => XS.iload X56413.here hx rfl (hb hby at_379) rfl k) ?_
      refine ostW (mkF m 382 (La0_31 p0 q1 q2 q3 b1 b25766 b56403) [(.long (XT.ushrL (v0_305b q2 q1) (31 : Int32)))]) X56413 (fun t k => XT.lushr X56413.here hx rfl (hb hby at_381) rfl k) ?_
      refine ostW (mkF m 384 (La0_31 p0 q1 q2 q3 b1 b25766 b56403) [(.long (2147483647 : Int64)), (.long (XT.ushrL (v0_305b q2 q1) (31 : Int32)))]) X56413 (fun t k => XT.lload X56413.here hx rfl (hb hby at_382) rfl k) ?_
      refine ostW (mkF m 385 (La0_31 p0 q1 q2 q3 b1 b25766 b56403) [(.long ((XT.ushrL (v0_305b q2 q1) (31 : Int32)) &&& (2147483647 : Int64)))]) X56413 (fun t k => XT.land X56413.here hx rfl (hb hby at_384) rfl k) ?_
      refine ostW (mkF m 387 (La0_31 p0 q1 q2 q3 b1 b25766 b56403) [(.long (v0_258 q1)), (.long ((XT.ushrL (v0_305b q2 q1) (31 : Int32)) &&& (2147483647 : Int64)))]) X56413 (fun t k => XT.lload X56413.here hx rfl (hb hby at_385) rfl k) ?_
      refine ostW (mkF m 388 (La0_31 p0 q1 q2 q3 b1 b25766 b56403) [(.int (XT.cmpL ((XT.ushrL (v0_305b q2 q1) (31 : Int32)) &&& (2147483647 : Int64)) (v0_258 q1)))]) X56413 (fun t k => XT.lcmp X56413.here hx rfl (hb hby at_387) rfl k) ?_
      refine ostW (mkF m 396 #[.val (.int p0), .val (.long q1), .second, .val (.long q2), .second, .val (.long q3), .second, .val (.ref b1), .val (.ref b25766), .val (.int (1 : Int32)), .val (.long (2147483647 : Int64)), .second, .val (.int (0 : Int32)), .val (.int (31 : Int32)), .val (.long (2147483647 : Int64)), .second, .val (.long (v0_258 q1)), .second, .val (.ref b56403), .val (.long q2), .second, .val (.long (v0_305b q2 q1)), .second, .val (.long q3), .second, .val (.long q3), .second, .val (.long (4611686016279904256 : Int64)), .second, .val (.int (v0_375b q2 q1)), .unset, .unset] [(.int (v0_396b q2 q1))]) X56413 (fun t k => ?_) ?_
      · show Steps p.tables e below (T56413.setTop (mkF m 388 (La0_31 p0 q1 q2 q3 b1 b25766 b56403) [(.int (XT.cmpL ((XT.ushrL (v0_305b q2 q1) (31 : Int32)) &&& (2147483647 : Int64)) (v0_258 q1)))])) t
        by_cases hc57440 : ((XT.ushrL (v0_305b q2 q1) (31 : Int32)) &&& (2147483647 : Int64)) = (v0_258 q1)
        · skip
          refine XS.ifNo X56413.here hx rfl (hb hby at_388) rfl ((if0 _ _).trans (teq ((cl_eq _ _).mpr hc57440)).2) ?_
          show Steps p.tables e below (T56413.setTop (mkF m 391 (La0_31 p0 q1 q2 q3 b1 b25766 b56403) [])) t
          refine XS.iconst X56413.here hx rfl (hb hby at_391) ?_
          show Steps p.tables e below (T56413.setTop (mkF m 392 (La0_31 p0 q1 q2 q3 b1 b25766 b56403) [(.int (1 : Int32))])) t
          refine XS.goto X56413.here hx rfl (pc0 := 392) (pc' := 396) rfl (hb hby at_392) (by decide) (by decide) ?_
          show Steps p.tables e below (T56413.setTop (mkF m 396 (La0_31 p0 q1 q2 q3 b1 b25766 b56403) [(.int (1 : Int32))])) t
          have qq57441 : (v0_396b q2 q1) = (1 : Int32) := by
            show (if ((XT.ushrL (v0_305b q2 q1) (31 : Int32)) &&& (2147483647 : Int64)) = (v0_258 q1) then (1 : Int32) else (0 : Int32)) = (1 : Int32)
            simp only [if_pos hc57440]
          rw [qq57441] at k
          exact k
        · skip
          refine XS.ifYes X56413.here hx rfl (pc0 := 388) (pc' := 395) rfl (hb hby at_388) rfl ((if0 _ _).trans (feq (fun q => hc57440 ((cl_eq _ _).mp q))).2) (by decide) (by decide) ?_
          show Steps p.tables e below (T56413.setTop (mkF m 395 (La0_31 p0 q1 q2 q3 b1 b25766 b56403) [])) t
          refine XS.iconst X56413.here hx rfl (hb hby at_395) ?_
          show Steps p.tables e below (T56413.setTop (mkF m 396 (La0_31 p0 q1 q2 q3 b1 b25766 b56403) [(.int (0 : Int32))])) t
          have qq57442 : (v0_396b q2 q1) = (0 : Int32) := by
            show (if ((XT.ushrL (v0_305b q2 q1) (31 : Int32)) &&& (2147483647 : Int64)) = (v0_258 q1) then (1 : Int32) else (0 : Int32)) = (0 : Int32)
            simp only [if_neg hc57440]
          rw [qq57442] at k
          exact k
      refine ostW (mkF m 398 (La0_32 p0 q1 q2 q3 b1 b25766 b56403) []) X56413 (fun t k => XS.istore X56413.here hx rfl (hb hby at_396) rfl (l' := (La0_32 p0 q1 q2 q3 b1 b25766 b56403)) rfl k) ?_
      refine ostW (mkF m 400 (La0_32 p0 q1 q2 q3 b1 b25766 b56403) [(.ref b25766)]) X56413 (fun t k => XS.aload X56413.here hx rfl (hb hby at_398) rfl rfl k) ?_
      refine ostW (mkF m 402 (La0_32 p0 q1 q2 q3 b1 b25766 b56403) [(.ref b56403), (.ref b25766)]) X56413 (fun t k => XS.aload X56413.here hx rfl (hb hby at_400) rfl rfl k) ?_
      refine ostW (mkF m 404 (La0_32 p0 q1 q2 q3 b1 b25766 b56403) [(.int (1 : Int32)), (.ref b56403), (.ref b25766)]) X56413 (fun t k => XS.iload X56413.here hx rfl (hb hby at_402) rfl k) ?_
      have E59469 := (Exa.keep E57436 K56413)
      have F59470 := (F57428.keep K56413 (ninS ne_b25766_b56403 nin0))
      have F59471 := (F57429.keep K56413 (ninS ne_b25766_b56403 nin0))
      have F59472 := (F57430.keep K56413 (ninS ne_b25766_b56403 nin0))
      have A59473 := (A57431.keep K56413 (ninS ne_b27787_b56403 nin0))
      have A59474 := (A57432.keep K56413 (ninS ne_b27802_b56403 nin0))
      have A59475 := (A57433.keep K56413 (ninS ne_b27824_b56403 nin0))
      obtain ⟨_, T57443, L57443, X57443, ⟨rfl, N57443q, u59476⟩, st57443⟩ := own_callV X56413 hx hZ (y := Y22) (W := 0) (a := b25766) (argsL := [(.ref b56403), (.int (1 : Int32))]) (rest := []) hown (hw _ (wm 161 rfl)) (hw _ (wm 162 rfl)) (hw _ (wm 164 rfl)) (hw _ (wm 163 rfl)) (hw _ (wm 96 rfl)) (hw _ (wm 165 rfl)) (by decide) E59469 (rm21s57 l Z a0 hw [] q2 q3 q1 b25766 b27787 b27802 b27824 b56403 h56413 n0 Z56413 E59469 F59470 F59471 F59472 A59473 A59474 A59475 u57435) (by decide) (by decide) (by decide) (by decide) e56413 (g := (mkF m 404 (La0_32 p0 q1 q2 q3 b1 b25766 b56403) [(.int (1 : Int32)), (.ref b56403), (.ref b25766)])) rfl (by rw [hml]; rfl) pd_14 rfl rfl (by show 2 * 0 + _ ≤ _; exact Nat.le_of_eq rfl) (hb hby at_404)
      have N57443 := Fr.app N56413 N57443q
      refine ostW (mkF m 407 (La0_32 p0 q1 q2 q3 b1 b25766 b56403) [(.int (((XT.ushrL ((q2 &&& ((4611686016279904256 : Int64) ^^^ (-1 : Int64))) ||| ((v0_258 q1) <<< ((31 : Int32).toInt64 &&& 63))) (31 : Int32)) &&& (2147483647 : Int64)).toInt32))]) X57443 (fun t k => st57443 _ k) ?_
      refine ostW (mkF m 408 (La0_32 p0 q1 q2 q3 b1 b25766 b56403) [(.long ((((XT.ushrL ((q2 &&& ((4611686016279904256 : Int64) ^^^ (-1 : Int64))) ||| ((v0_258 q1) <<< ((31 : Int32).toInt64 &&& 63))) (31 : Int32)) &&& (2147483647 : Int64)).toInt32).toInt64))]) X57443 (fun t k => XT.i2l X57443.here hx rfl (hb hby at_407) rfl k) ?_
      refine ostW (mkF m 410 (La0_32 p0 q1 q2 q3 b1 b25766 b56403) [(.long (v0_258 q1)), (.long ((((XT.ushrL ((q2 &&& ((4611686016279904256 : Int64) ^^^ (-1 : Int64))) ||| ((v0_258 q1) <<< ((31 : Int32).toInt64 &&& 63))) (31 : Int32)) &&& (2147483647 : Int64)).toInt32).toInt64))]) X57443 (fun t k => XT.lload X57443.here hx rfl (hb hby at_408) rfl k) ?_
      refine ostW (mkF m 411 (La0_32 p0 q1 q2 q3 b1 b25766 b56403) [(.int (XT.cmpL ((((XT.ushrL ((q2 &&& ((4611686016279904256 : Int64) ^^^ (-1 : Int64))) ||| ((v0_258 q1) <<< ((31 : Int32).toInt64 &&& 63))) (31 : Int32)) &&& (2147483647 : Int64)).toInt32).toInt64) (v0_258 q1)))]) X57443 (fun t k => XT.lcmp X57443.here hx rfl (hb hby at_410) rfl k) ?_
      refine ostW (mkF m 419 #[.val (.int p0), .val (.long q1), .second, .val (.long q2), .second, .val (.long q3), .second, .val (.ref b1), .val (.ref b25766), .val (.int (1 : Int32)), .val (.long (2147483647 : Int64)), .second, .val (.int (0 : Int32)), .val (.int (31 : Int32)), .val (.long (2147483647 : Int64)), .second, .val (.long (v0_258 q1)), .second, .val (.ref b56403), .val (.long q2), .second, .val (.long (v0_305b q2 q1)), .second, .val (.long q3), .second, .val (.long q3), .second, .val (.long (4611686016279904256 : Int64)), .second, .val (.int (v0_375b q2 q1)), .val (.int (v0_396b q2 q1)), .unset] [(.int (v0_419b q2 q1))]) X57443 (fun t k => ?_) ?_
      · show Steps p.tables e below (T57443.setTop (mkF m 411 (La0_32 p0 q1 q2 q3 b1 b25766 b56403) [(.int (XT.cmpL ((((XT.ushrL ((q2 &&& ((4611686016279904256 : Int64) ^^^ (-1 : Int64))) ||| ((v0_258 q1) <<< ((31 : Int32).toInt64 &&& 63))) (31 : Int32)) &&& (2147483647 : Int64)).toInt32).toInt64) (v0_258 q1)))])) t
        by_cases hc59477 : ((((XT.ushrL ((q2 &&& ((4611686016279904256 : Int64) ^^^ (-1 : Int64))) ||| ((v0_258 q1) <<< ((31 : Int32).toInt64 &&& 63))) (31 : Int32)) &&& (2147483647 : Int64)).toInt32).toInt64) = (v0_258 q1)
        · skip
          refine XS.ifNo X57443.here hx rfl (hb hby at_411) rfl ((if0 _ _).trans (teq ((cl_eq _ _).mpr hc59477)).2) ?_
          show Steps p.tables e below (T57443.setTop (mkF m 414 (La0_32 p0 q1 q2 q3 b1 b25766 b56403) [])) t
          refine XS.iconst X57443.here hx rfl (hb hby at_414) ?_
          show Steps p.tables e below (T57443.setTop (mkF m 415 (La0_32 p0 q1 q2 q3 b1 b25766 b56403) [(.int (1 : Int32))])) t
          refine XS.goto X57443.here hx rfl (pc0 := 415) (pc' := 419) rfl (hb hby at_415) (by decide) (by decide) ?_
          show Steps p.tables e below (T57443.setTop (mkF m 419 (La0_32 p0 q1 q2 q3 b1 b25766 b56403) [(.int (1 : Int32))])) t
          have qq59478 : (v0_419b q2 q1) = (1 : Int32) := by
            show (if ((((XT.ushrL ((q2 &&& ((4611686016279904256 : Int64) ^^^ (-1 : Int64))) ||| ((v0_258 q1) <<< ((31 : Int32).toInt64 &&& 63))) (31 : Int32)) &&& (2147483647 : Int64)).toInt32).toInt64) = (v0_258 q1) then (1 : Int32) else (0 : Int32)) = (1 : Int32)
            simp only [if_pos hc59477]
          rw [qq59478] at k
          exact k
        · skip
          refine XS.ifYes X57443.here hx rfl (pc0 := 411) (pc' := 418) rfl (hb hby at_411) rfl ((if0 _ _).trans (feq (fun q => hc59477 ((cl_eq _ _).mp q))).2) (by decide) (by decide) ?_
          show Steps p.tables e below (T57443.setTop (mkF m 418 (La0_32 p0 q1 q2 q3 b1 b25766 b56403) [])) t
          refine XS.iconst X57443.here hx rfl (hb hby at_418) ?_
          show Steps p.tables e below (T57443.setTop (mkF m 419 (La0_32 p0 q1 q2 q3 b1 b25766 b56403) [(.int (0 : Int32))])) t
          have qq59479 : (v0_419b q2 q1) = (0 : Int32) := by
            show (if ((((XT.ushrL ((q2 &&& ((4611686016279904256 : Int64) ^^^ (-1 : Int64))) ||| ((v0_258 q1) <<< ((31 : Int32).toInt64 &&& 63))) (31 : Int32)) &&& (2147483647 : Int64)).toInt32).toInt64) = (v0_258 q1) then (1 : Int32) else (0 : Int32)) = (0 : Int32)
            simp only [if_neg hc59477]
          rw [qq59479] at k
          exact k
      refine ostW (mkF m 421 (La0_33 p0 q1 q2 q3 b1 b25766 b56403) []) X57443 (fun t k => XS.istore X57443.here hx rfl (hb hby at_419) rfl (l' := (La0_33 p0 q1 q2 q3 b1 b25766 b56403)) rfl k) ?_
      refine ostW (mkF m 423 (La0_33 p0 q1 q2 q3 b1 b25766 b56403) [(.int (v0_375b q2 q1))]) X57443 (fun t k => XS.iload X57443.here hx rfl (hb hby at_421) rfl k) ?_
      refine ostW (mkF m 426 (La0_33 p0 q1 q2 q3 b1 b25766 b56403) []) X57443 (fun t k => XS.ifNo X57443.here hx rfl (hb hby at_423) rfl ((if0 _ _).trans (feq (br0_423ba q2 q1 p0 hb134 hb159)).1) k) ?_
      refine ostW (mkF m 428 (La0_33 p0 q1 q2 q3 b1 b25766 b56403) [(.int (v0_396b q2 q1))]) X57443 (fun t k => XS.iload X57443.here hx rfl (hb hby at_426) rfl k) ?_
      refine ostW (mkF m 431 (La0_33 p0 q1 q2 q3 b1 b25766 b56403) []) X57443 (fun t k => XS.ifNo X57443.here hx rfl (hb hby at_428) rfl ((if0 _ _).trans (feq (br0_428ba q2 q1 p0 hb134 hb159)).1) k) ?_
      refine ostW (mkF m 433 (La0_33 p0 q1 q2 q3 b1 b25766 b56403) [(.int (v0_419b q2 q1))]) X57443 (fun t k => XS.iload X57443.here hx rfl (hb hby at_431) rfl k) ?_
      refine ostW (mkF m 436 (La0_33 p0 q1 q2 q3 b1 b25766 b56403) []) X57443 (fun t k => XS.ifNo X57443.here hx rfl (hb hby at_433) rfl ((if0 _ _).trans (feq (br0_433ba q2 q1 p0 hb134 hb159)).1) k) ?_
      refine ostW (mkF m 437 (La0_33 p0 q1 q2 q3 b1 b25766 b56403) [(.int (1 : Int32))]) X57443 (fun t k => XS.iconst X57443.here hx rfl (hb hby at_436) k) ?_
      refine ostW (mkF m 441 (La0_33 p0 q1 q2 q3 b1 b25766 b56403) [(.int (1 : Int32))]) X57443 (fun t k => XS.goto X57443.here hx rfl (pc0 := 437) (pc' := 441) rfl (hb hby at_437) (by decide) (by decide) k) ?_
      have hSk := (Nat.le_trans (Nat.le_trans (Nat.le_trans (Nat.le_trans (Nat.le_trans (Nat.le_trans (Nat.le_trans (Nat.le_trans hSk K21641.1) K23708.1) K25766.1) K25772.1) K56403.1) K56411.1) K56412.1) K56413.1)
      refine OwnFinW.retNar (vm := T21640.vm) X57443 hSn (by rw [u59476]; exact hSk) (by simp) (hb hby at_441) (by decide) (by decide) ?_
      exact ⟨rfl, N57443⟩
    · skip
      refine ostW (mkF m 182 (La0_3 p0 q1 q2 q3 b1 b25766) []) X25772 (fun t k => XS.icmpYes X25772.here hx rfl (pc0 := 159) (pc' := 182) rfl (hb hby at_159) rfl (feq hb159).2 (by decide) (by decide) k) ?_
      refine ostW (mkF m 184 (La0_3 p0 q1 q2 q3 b1 b25766) [(.int (v0_130 p0))]) X25772 (fun t k => XS.iload X25772.here hx rfl (hb hby at_182) rfl k) ?_
      refine ostW (mkF m 185 (La0_3 p0 q1 q2 q3 b1 b25766) [(.int (2 : Int32)), (.int (v0_130 p0))]) X25772 (fun t k => XS.iconst X25772.here hx rfl (hb hby at_184) k) ?_
      by_cases hb185 : (v0_130 p0) = (2 : Int32)
      · skip
        refine ostW (mkF m 188 #[.val (.int p0), .val (.long q1), .second, .val (.long q2), .second, .val (.long q3), .second, .val (.ref b1), .val (.ref b25766), .val (.int (v0_130 p0)), .unset, .unset, .unset, .unset, .unset, .unset, .unset, .unset, .unset, .unset, .unset, .unset, .unset, .unset, .unset, .unset, .unset, .unset, .unset, .unset, .unset, .unset] []) X25772 (fun t k => XS.icmpNo X25772.here hx rfl (hb hby at_185) rfl (teq hb185).2 k) ?_
        rw [hb185]
        refine ostW (mkF m 191 (La0_34 p0 q1 q2 q3 b1 b25766) [(.long (4 : Int64))]) X25772 (fun t k => X25772.ldc2Long hx hown (mvT hZ (hw _ (wm 174 rfl))) (g := (mkF m 188 (La0_34 p0 q1 q2 q3 b1 b25766) [])) rfl (hb hby at_188) _ k) ?_
        refine ostW (mkF m 193 (La0_35 p0 q1 q2 q3 b1 b25766) []) X25772 (fun t k => XT.lstore X25772.here hx rfl (hb hby at_191) rfl (l' := (La0_35 p0 q1 q2 q3 b1 b25766)) rfl k) ?_
        refine ostW (mkF m 194 (La0_35 p0 q1 q2 q3 b1 b25766) [(.int (0 : Int32))]) X25772 (fun t k => XS.iconst X25772.here hx rfl (hb hby at_193) k) ?_
        refine ostW (mkF m 196 (La0_36 p0 q1 q2 q3 b1 b25766) []) X25772 (fun t k => XS.istore X25772.here hx rfl (hb hby at_194) rfl (l' := (La0_36 p0 q1 q2 q3 b1 b25766)) rfl k) ?_
        refine ostW (mkF m 198 (La0_36 p0 q1 q2 q3 b1 b25766) [(.int (62 : Int32))]) X25772 (fun t k => XS.bipush X25772.here hx rfl (hb hby at_196) k) ?_
        refine ostW (mkF m 200 (La0_37 p0 q1 q2 q3 b1 b25766) []) X25772 (fun t k => XS.istore X25772.here hx rfl (hb hby at_198) rfl (l' := (La0_37 p0 q1 q2 q3 b1 b25766)) rfl k) ?_
        refine ostW (mkF m 203 (La0_37 p0 q1 q2 q3 b1 b25766) [(.long (3 : Int64))]) X25772 (fun t k => X25772.ldc2Long hx hown (mvT hZ (hw _ (wm 175 rfl))) (g := (mkF m 200 (La0_37 p0 q1 q2 q3 b1 b25766) [])) rfl (hb hby at_200) _ k) ?_
        refine ostW (mkF m 205 (La0_38 p0 q1 q2 q3 b1 b25766) []) X25772 (fun t k => XT.lstore X25772.here hx rfl (hb hby at_203) rfl (l' := (La0_38 p0 q1 q2 q3 b1 b25766)) rfl k) ?_
        refine ostW (mkF m 250 (La0_38 p0 q1 q2 q3 b1 b25766) []) X25772 (fun t k => XS.goto X25772.here hx rfl (pc0 := 205) (pc' := 250) rfl (hb hby at_205) (by decide) (by decide) k) ?_
        refine ostW (mkF m 251 (La0_38 p0 q1 q2 q3 b1 b25766) [(.long q1)]) X25772 (fun t k => XT.lloadN X25772.here hx rfl (hb hby at_250) rfl k) ?_
        refine ostW (mkF m 254 (La0_38 p0 q1 q2 q3 b1 b25766) [(.long (2147483647 : Int64)), (.long q1)]) X25772 (fun t k => X25772.ldc2Long hx hown (mvT hZ (hw _ (wm 153 rfl))) (g := (mkF m 251 (La0_38 p0 q1 q2 q3 b1 b25766) [(.long q1)])) rfl (hb hby at_251) _ k) ?_
        refine ostW (mkF m 255 (La0_38 p0 q1 q2 q3 b1 b25766) [(.long (q1 &&& (2147483647 : Int64)))]) X25772 (fun t k => XT.land X25772.here hx rfl (hb hby at_254) rfl k) ?_
        refine ostW (mkF m 257 (La0_38 p0 q1 q2 q3 b1 b25766) [(.long (4 : Int64)), (.long (q1 &&& (2147483647 : Int64)))]) X25772 (fun t k => XT.lload X25772.here hx rfl (hb hby at_255) rfl k) ?_
        refine ostW (mkF m 258 (La0_38 p0 q1 q2 q3 b1 b25766) [(.long ((q1 &&& (2147483647 : Int64)) % (4 : Int64)))]) X25772 (fun t k => own_lrem (g := (mkF m 257 (La0_38 p0 q1 q2 q3 b1 b25766) [(.long (4 : Int64)), (.long (q1 &&& (2147483647 : Int64)))])) (x := (q1 &&& (2147483647 : Int64))) (y := (4 : Int64)) X25772 hx rfl (hb hby at_257) rfl (by decide) k) ?_
        refine ostW (mkF m 260 (La0_39 p0 q1 q2 q3 b1 b25766) []) X25772 (fun t k => XT.lstore X25772.here hx rfl (hb hby at_258) rfl (l' := (La0_39 p0 q1 q2 q3 b1 b25766)) rfl k) ?_
        refine ostW (mkF m 261 (La0_39 p0 q1 q2 q3 b1 b25766) [(.int (2 : Int32))]) X25772 (fun t k => XS.iconst X25772.here hx rfl (hb hby at_260) k) ?_
        obtain ⟨T59480, h59480, b59480, X59480, e59480, y59480, K59480, A59480, st59480⟩ := own_new X25772 hx hZ (hw _ (wm 115 rfl)) e25772 (g := (mkF m 261 (La0_39 p0 q1 q2 q3 b1 b25766) [(.int (2 : Int32))])) rfl (hb hby at_261) rfl (by decide) (cap := 2) (by decide) (by decide) (by decide) (by decide)
        have B59480 : Ary Z h59480 b59480 .long 2 (fun i => .long ((fun _ => (0 : Int64)) i)) := A59480
        have E59481 := (Exa.keep E53294 K25772)
        have ne_b1_b59480 : b1 ≠ b59480 := Exa.neS E59481 y59480
        have E59482 := (Exa.keep E53297 K25772)
        have ne_b3058_b59480 : b3058 ≠ b59480 := Exa.neS E59482 y59480
        have A59483 := (A53299.keep K25772 (ninS ne_b9144_b25766 nin0))
        have ne_b9144_b59480 : b9144 ≠ b59480 := AryR.neS A59483 y59480
        have E59484 := (Exa.keep E53300 K25772)
        have ne_b9244_b59480 : b9244 ≠ b59480 := Exa.neS E59484 y59480
        have E59485 := (Exa.keep E53302 K25772)
        have ne_b13373_b59480 : b13373 ≠ b59480 := Exa.neS E59485 y59480
        have E59486 := (Exa.keep E53304 K25772)
        have ne_b17503_b59480 : b17503 ≠ b59480 := Exa.neS E59486 y59480
        have E59487 := (Exa.keep E53306 K25772)
        have ne_b21634_b59480 : b21634 ≠ b59480 := Exa.neS E59487 y59480
        have ne_b25766_b59480 : b25766 ≠ b59480 := Exa.neS u53309 y59480
        have ne_b27787_b59480 : b27787 ≠ b59480 := Ary.neS u53314 y59480
        have ne_b27802_b59480 : b27802 ≠ b59480 := Ary.neS u53317 y59480
        have ne_b27824_b59480 : b27824 ≠ b59480 := Ary.neS u53320 y59480
        have g_b59480 : n0 ≤ b59480 := by rw [y59480]; exact Z25772
        have Z59480 := Nat.le_trans Z25772 K59480.1
        refine ostW (mkF m 263 (La0_39 p0 q1 q2 q3 b1 b25766) [(.ref b59480)]) X59480 (fun t k => st59480 _ k) ?_
        refine ostW (mkF m 265 (La0_40 p0 q1 q2 q3 b1 b25766 b59480) []) X59480 (fun t k => XS.astore X59480.here hx rfl (hb hby at_263) rfl rfl (l' := (La0_40 p0 q1 q2 q3 b1 b25766 b59480)) rfl k) ?_
        refine ostW (mkF m 267 (La0_40 p0 q1 q2 q3 b1 b25766 b59480) [(.ref b59480)]) X59480 (fun t k => XS.aload X59480.here hx rfl (hb hby at_265) rfl rfl k) ?_
        refine ostW (mkF m 268 (La0_40 p0 q1 q2 q3 b1 b25766 b59480) [(.int (0 : Int32)), (.ref b59480)]) X59480 (fun t k => XS.iconst X59480.here hx rfl (hb hby at_267) k) ?_
        refine ostW (mkF m 269 (La0_40 p0 q1 q2 q3 b1 b25766 b59480) [(.long q2), (.int (0 : Int32)), (.ref b59480)]) X59480 (fun t k => XT.lloadN X59480.here hx rfl (hb hby at_268) rfl k) ?_
        obtain ⟨T59488, h59488, L59488, X59488, e59488, N59488, K59488, A59488, st59488⟩ := own_stJ X59480 hx hZ e59480 N25772 (G := (fun _ => (0 : Int64))) B59480 g_b59480 (j := (0 : Int32)) (x := q2) (by decide) (g := (mkF m 269 (La0_40 p0 q1 q2 q3 b1 b25766 b59480) [(.long q2), (.int (0 : Int32)), (.ref b59480)])) rfl rfl (hb hby at_269)
        have B59488 : Ary Z h59488 b59480 .long 2 (fun i => .long ((G0_269 q2) i)) := A59488
        have Z59488 := Nat.le_trans Z59480 K59488.1
        refine ostW (mkF m 270 (La0_40 p0 q1 q2 q3 b1 b25766 b59480) []) X59488 (fun t k => st59488 _ k) ?_
        refine ostW (mkF m 272 (La0_40 p0 q1 q2 q3 b1 b25766 b59480) [(.ref b59480)]) X59488 (fun t k => XS.aload X59488.here hx rfl (hb hby at_270) rfl rfl k) ?_
        refine ostW (mkF m 273 (La0_40 p0 q1 q2 q3 b1 b25766 b59480) [(.int (1 : Int32)), (.ref b59480)]) X59488 (fun t k => XS.iconst X59488.here hx rfl (hb hby at_272) k) ?_
        refine ostW (mkF m 275 (La0_40 p0 q1 q2 q3 b1 b25766 b59480) [(.long q3), (.int (1 : Int32)), (.ref b59480)]) X59488 (fun t k => XT.lload X59488.here hx rfl (hb hby at_273) rfl k) ?_
        obtain ⟨T59489, h59489, L59489, X59489, e59489, N59489, K59489, A59489, st59489⟩ := own_stJ X59488 hx hZ e59488 N59488 (G := (G0_269 q2)) B59488 g_b59480 (j := (1 : Int32)) (x := q3) (by decide) (g := (mkF m 275 (La0_40 p0 q1 q2 q3 b1 b25766 b59480) [(.long q3), (.int (1 : Int32)), (.ref b59480)])) rfl rfl (hb hby at_275)
        have B59489 : Ary Z h59489 b59480 .long 2 (fun i => .long ((G0_275 q2 q3) i)) := A59489
        have Z59489 := Nat.le_trans Z59488 K59489.1
        refine ostW (mkF m 276 (La0_40 p0 q1 q2 q3 b1 b25766 b59480) []) X59489 (fun t k => st59489 _ k) ?_
        refine ostW (mkF m 278 (La0_40 p0 q1 q2 q3 b1 b25766 b59480) [(.ref b25766)]) X59489 (fun t k => XS.aload X59489.here hx rfl (hb hby at_276) rfl rfl k) ?_
        refine ostW (mkF m 280 (La0_40 p0 q1 q2 q3 b1 b25766 b59480) [(.ref b59480), (.ref b25766)]) X59489 (fun t k => XS.aload X59489.here hx rfl (hb hby at_278) rfl rfl k) ?_
        refine ostW (mkF m 282 (La0_40 p0 q1 q2 q3 b1 b25766 b59480) [(.int (2 : Int32)), (.ref b59480), (.ref b25766)]) X59489 (fun t k => XS.iload X59489.here hx rfl (hb hby at_280) rfl k) ?_
        refine ostW (mkF m 284 (La0_40 p0 q1 q2 q3 b1 b25766 b59480) [(.long (v0_258b q1)), (.int (2 : Int32)), (.ref b59480), (.ref b25766)]) X59489 (fun t k => XT.lload X59489.here hx rfl (hb hby at_282) rfl k) ?_
        have F60505 := (((u53310.keep K59480 nin0).keep K59488 (ninS ne_b25766_b59480 nin0)).keep K59489 (ninS ne_b25766_b59480 nin0))
        have F60506 := (((u53311.keep K59480 nin0).keep K59488 (ninS ne_b25766_b59480 nin0)).keep K59489 (ninS ne_b25766_b59480 nin0))
        have F60507 := (((u53312.keep K59480 nin0).keep K59488 (ninS ne_b25766_b59480 nin0)).keep K59489 (ninS ne_b25766_b59480 nin0))
        have A60508 := (((u53314.keep K59480 nin0).keep K59488 (ninS ne_b27787_b59480 nin0)).keep K59489 (ninS ne_b27787_b59480 nin0))
        have A60509 := (((u53317.keep K59480 nin0).keep K59488 (ninS ne_b27802_b59480 nin0)).keep K59489 (ninS ne_b27802_b59480 nin0))
        have A60510 := (((u53320.keep K59480 nin0).keep K59488 (ninS ne_b27824_b59480 nin0)).keep K59489 (ninS ne_b27824_b59480 nin0))
        have E60513 := (Exa.keep (Exa.keep (Exa.keep u53309 K59480) K59488) K59489)
        obtain ⟨_, T59490, L59490, X59490, ⟨rfl, N59490q, u60511, u60512⟩, st59490⟩ := own_callV X59489 hx hZ (y := Y20) (W := 0) (a := b25766) (argsL := [(.ref b59480), (.int (2 : Int32)), (.long (v0_258b q1))]) (rest := []) hown (hw _ (wm 154 rfl)) (hw _ (wm 155 rfl)) (hw _ (wm 157 rfl)) (hw _ (wm 156 rfl)) (hw _ (wm 96 rfl)) (hw _ (wm 158 rfl)) (by decide) E60513 (rm20s59 l Z a0 hw [] q1 q2 q3 b25766 b27787 b27802 b27824 b59480 h59489 n0 Z59489 F60505 F60506 F60507 A60508 A60509 A60510 B59489 g_b59480) (by decide) (by decide) (by decide) (by decide) e59489 (g := (mkF m 284 (La0_40 p0 q1 q2 q3 b1 b25766 b59480) [(.long (v0_258b q1)), (.int (2 : Int32)), (.ref b59480), (.ref b25766)])) rfl (by rw [hml]; rfl) pd_12 rfl rfl (by show 2 * 0 + _ ≤ _; exact Nat.le_of_eq rfl) (hb hby at_284)
        have N59490 := Fr.app N59489 N59490q
        obtain ⟨h59490, e59490⟩ : ∃ z, T59490.heap = z := ⟨_, rfl⟩
        rw [e59490] at u60511 u60512
        have K59490 := u60511
        have Z59490 := Nat.le_trans Z59489 K59490.1
        refine ostW (mkF m 287 (La0_40 p0 q1 q2 q3 b1 b25766 b59480) []) X59490 (fun t k => st59490 _ k) ?_
        refine ostW (mkF m 289 (La0_40 p0 q1 q2 q3 b1 b25766 b59480) [(.int (0 : Int32))]) X59490 (fun t k => XS.iload X59490.here hx rfl (hb hby at_287) rfl k) ?_
        refine ostW (mkF m 292 (La0_40 p0 q1 q2 q3 b1 b25766 b59480) []) X59490 (fun t k => XS.ifNo X59490.here hx rfl (hb hby at_289) rfl ((if0 _ _).trans (teq (show (0 : Int32) = (0 : Int32) by first | rfl | decide)).2) k) ?_
        refine ostW (mkF m 293 (La0_40 p0 q1 q2 q3 b1 b25766 b59480) [(.long q2)]) X59490 (fun t k => XT.lloadN X59490.here hx rfl (hb hby at_292) rfl k) ?_
        refine ostW (mkF m 298 (La0_40 p0 q1 q2 q3 b1 b25766 b59480) [(.long q2)]) X59490 (fun t k => XS.goto X59490.here hx rfl (pc0 := 293) (pc' := 298) rfl (hb hby at_293) (by decide) (by decide) k) ?_
        refine ostW (mkF m 300 (La0_41 p0 q1 q2 q3 b1 b25766 b59480) []) X59490 (fun t k => XT.lstore X59490.here hx rfl (hb hby at_298) rfl (l' := (La0_41 p0 q1 q2 q3 b1 b25766 b59480)) rfl k) ?_
        refine ostW (mkF m 302 (La0_41 p0 q1 q2 q3 b1 b25766 b59480) [(.ref b59480)]) X59490 (fun t k => XS.aload X59490.here hx rfl (hb hby at_300) rfl rfl k) ?_
        refine ostW (mkF m 304 (La0_41 p0 q1 q2 q3 b1 b25766 b59480) [(.int (0 : Int32)), (.ref b59480)]) X59490 (fun t k => XS.iload X59490.here hx rfl (hb hby at_302) rfl k) ?_
        refine ostW (mkF m 305 (La0_41 p0 q1 q2 q3 b1 b25766 b59480) [(.long ((q2 &&& ((-4611686018427387904 : Int64) ^^^ (-1 : Int64))) ||| ((v0_258b q1) <<< ((62 : Int32).toInt64 &&& 63))))]) X59490 (fun t k => own_ldJ X59490 hx hZ e59490 u60512 (by decide) rfl (g := (mkF m 304 (La0_41 p0 q1 q2 q3 b1 b25766 b59480) [(.int (0 : Int32)), (.ref b59480)])) rfl rfl (hb hby at_304) _ k) ?_
        refine ostW (mkF m 307 (La0_42 p0 q1 q2 q3 b1 b25766 b59480) []) X59490 (fun t k => XT.lstore X59490.here hx rfl (hb hby at_305) rfl (l' := (La0_42 p0 q1 q2 q3 b1 b25766 b59480)) rfl k) ?_
        refine ostW (mkF m 309 (La0_42 p0 q1 q2 q3 b1 b25766 b59480) [(.int (0 : Int32))]) X59490 (fun t k => XS.iload X59490.here hx rfl (hb hby at_307) rfl k) ?_
        refine ostW (mkF m 312 (La0_42 p0 q1 q2 q3 b1 b25766 b59480) []) X59490 (fun t k => XS.ifNo X59490.here hx rfl (hb hby at_309) rfl ((if0 _ _).trans (teq (show (0 : Int32) = (0 : Int32) by first | rfl | decide)).2) k) ?_
        refine ostW (mkF m 314 (La0_42 p0 q1 q2 q3 b1 b25766 b59480) [(.ref b59480)]) X59490 (fun t k => XS.aload X59490.here hx rfl (hb hby at_312) rfl rfl k) ?_
        refine ostW (mkF m 315 (La0_42 p0 q1 q2 q3 b1 b25766 b59480) [(.int (1 : Int32)), (.ref b59480)]) X59490 (fun t k => XS.iconst X59490.here hx rfl (hb hby at_314) k) ?_
        refine ostW (mkF m 316 (La0_42 p0 q1 q2 q3 b1 b25766 b59480) [(.long q3)]) X59490 (fun t k => own_ldJ X59490 hx hZ e59490 u60512 (by decide) rfl (g := (mkF m 315 (La0_42 p0 q1 q2 q3 b1 b25766 b59480) [(.int (1 : Int32)), (.ref b59480)])) rfl rfl (hb hby at_315) _ k) ?_
        refine ostW (mkF m 323 (La0_42 p0 q1 q2 q3 b1 b25766 b59480) [(.long q3)]) X59490 (fun t k => XS.goto X59490.here hx rfl (pc0 := 316) (pc' := 323) rfl (hb hby at_316) (by decide) (by decide) k) ?_
        refine ostW (mkF m 325 (La0_43 p0 q1 q2 q3 b1 b25766 b59480) []) X59490 (fun t k => XT.lstore X59490.here hx rfl (hb hby at_323) rfl (l' := (La0_43 p0 q1 q2 q3 b1 b25766 b59480)) rfl k) ?_
        refine ostW (mkF m 327 (La0_43 p0 q1 q2 q3 b1 b25766 b59480) [(.int (0 : Int32))]) X59490 (fun t k => XS.iload X59490.here hx rfl (hb hby at_325) rfl k) ?_
        refine ostW (mkF m 330 (La0_43 p0 q1 q2 q3 b1 b25766 b59480) []) X59490 (fun t k => XS.ifNo X59490.here hx rfl (hb hby at_327) rfl ((if0 _ _).trans (teq (show (0 : Int32) = (0 : Int32) by first | rfl | decide)).2) k) ?_
        refine ostW (mkF m 332 (La0_43 p0 q1 q2 q3 b1 b25766 b59480) [(.long q3)]) X59490 (fun t k => XT.lload X59490.here hx rfl (hb hby at_330) rfl k) ?_
        refine ostW (mkF m 336 (La0_43 p0 q1 q2 q3 b1 b25766 b59480) [(.long q3)]) X59490 (fun t k => XS.goto X59490.here hx rfl (pc0 := 332) (pc' := 336) rfl (hb hby at_332) (by decide) (by decide) k) ?_
        refine ostW (mkF m 338 (La0_44 p0 q1 q2 q3 b1 b25766 b59480) []) X59490 (fun t k => XT.lstore X59490.here hx rfl (hb hby at_336) rfl (l' := (La0_44 p0 q1 q2 q3 b1 b25766 b59480)) rfl k) ?_
        refine ostW (mkF m 340 (La0_44 p0 q1 q2 q3 b1 b25766 b59480) [(.long (3 : Int64))]) X59490 (fun t k => XT.lload X59490.here hx rfl (hb hby at_338) rfl k) ?_
        refine ostW (mkF m 342 (La0_44 p0 q1 q2 q3 b1 b25766 b59480) [(.int (62 : Int32)), (.long (3 : Int64))]) X59490 (fun t k => XS.iload X59490.here hx rfl (hb hby at_340) rfl k) ?_
        refine ostW (mkF m 343 (La0_44 p0 q1 q2 q3 b1 b25766 b59480) [(.long (-4611686018427387904 : Int64))]) X59490 (fun t k => XT.lshl X59490.here hx rfl (hb hby at_342) rfl k) ?_
        refine ostW (mkF m 345 (La0_45 p0 q1 q2 q3 b1 b25766 b59480) []) X59490 (fun t k => XT.lstore X59490.here hx rfl (hb hby at_343) rfl (l' := (La0_45 p0 q1 q2 q3 b1 b25766 b59480)) rfl k) ?_
        refine ostW (mkF m 347 (La0_45 p0 q1 q2 q3 b1 b25766 b59480) [(.long (v0_305bb q2 q1))]) X59490 (fun t k => XT.lload X59490.here hx rfl (hb hby at_345) rfl k) ?_
        refine ostW (mkF m 349 (La0_45 p0 q1 q2 q3 b1 b25766 b59480) [(.long q2), (.long (v0_305bb q2 q1))]) X59490 (fun t k => XT.lload X59490.here hx rfl (hb hby at_347) rfl k) ?_
        refine ostW (mkF m 350 (La0_45 p0 q1 q2 q3 b1 b25766 b59480) [(.long ((v0_305bb q2 q1) ^^^ q2))]) X59490 (fun t k => XT.lxor X59490.here hx rfl (hb hby at_349) rfl k) ?_
        refine ostW (mkF m 352 (La0_45 p0 q1 q2 q3 b1 b25766 b59480) [(.long (-4611686018427387904 : Int64)), (.long ((v0_305bb q2 q1) ^^^ q2))]) X59490 (fun t k => XT.lload X59490.here hx rfl (hb hby at_350) rfl k) ?_
        refine ostW (mkF m 355 (La0_45 p0 q1 q2 q3 b1 b25766 b59480) [(.long (-1 : Int64)), (.long (-4611686018427387904 : Int64)), (.long ((v0_305bb q2 q1) ^^^ q2))]) X59490 (fun t k => X59490.ldc2Long hx hown (mvT hZ (hw _ (wm 160 rfl))) (g := (mkF m 352 (La0_45 p0 q1 q2 q3 b1 b25766 b59480) [(.long (-4611686018427387904 : Int64)), (.long ((v0_305bb q2 q1) ^^^ q2))])) rfl (hb hby at_352) _ k) ?_
        refine ostW (mkF m 356 (La0_45 p0 q1 q2 q3 b1 b25766 b59480) [(.long ((-4611686018427387904 : Int64) ^^^ (-1 : Int64))), (.long ((v0_305bb q2 q1) ^^^ q2))]) X59490 (fun t k => XT.lxor X59490.here hx rfl (hb hby at_355) rfl k) ?_
        refine ostW (mkF m 357 (La0_45 p0 q1 q2 q3 b1 b25766 b59480) [(.long (((v0_305bb q2 q1) ^^^ q2) &&& ((-4611686018427387904 : Int64) ^^^ (-1 : Int64))))]) X59490 (fun t k => XT.land X59490.here hx rfl (hb hby at_356) rfl k) ?_
        refine ostW (mkF m 358 (La0_45 p0 q1 q2 q3 b1 b25766 b59480) [(.long (0 : Int64)), (.long (((v0_305bb q2 q1) ^^^ q2) &&& ((-4611686018427387904 : Int64) ^^^ (-1 : Int64))))]) X59490 (fun t k => XT.lconst X59490.here hx rfl (hb hby at_357) k) ?_
        refine ostW (mkF m 359 (La0_45 p0 q1 q2 q3 b1 b25766 b59480) [(.int (XT.cmpL (((v0_305bb q2 q1) ^^^ q2) &&& ((-4611686018427387904 : Int64) ^^^ (-1 : Int64))) (0 : Int64)))]) X59490 (fun t k => XT.lcmp X59490.here hx rfl (hb hby at_358) rfl k) ?_
        refine ostW (mkF m 375 #[.val (.int p0), .val (.long q1), .second, .val (.long q2), .second, .val (.long q3), .second, .val (.ref b1), .val (.ref b25766), .val (.int (2 : Int32)), .val (.long (4 : Int64)), .second, .val (.int (0 : Int32)), .val (.int (62 : Int32)), .val (.long (3 : Int64)), .second, .val (.long (v0_258b q1)), .second, .val (.ref b59480), .val (.long q2), .second, .val (.long (v0_305bb q2 q1)), .second, .val (.long q3), .second, .val (.long q3), .second, .val (.long (-4611686018427387904 : Int64)), .second, .unset, .unset, .unset] [(.int (v0_375bb q2 q1))]) X59490 (fun t k => ?_) ?_
        · show Steps p.tables e below (T59490.setTop (mkF m 359 (La0_45 p0 q1 q2 q3 b1 b25766 b59480) [(.int (XT.cmpL (((v0_305bb q2 q1) ^^^ q2) &&& ((-4611686018427387904 : Int64) ^^^ (-1 : Int64))) (0 : Int64)))])) t
          by_cases hc60514 : (((v0_305bb q2 q1) ^^^ q2) &&& ((-4611686018427387904 : Int64) ^^^ (-1 : Int64))) = (0 : Int64)
          · skip
            refine XS.ifNo X59490.here hx rfl (hb hby at_359) rfl ((if0 _ _).trans (teq ((cl_eq _ _).mpr hc60514)).2) ?_
            show Steps p.tables e below (T59490.setTop (mkF m 362 (La0_45 p0 q1 q2 q3 b1 b25766 b59480) [])) t
            refine XT.lload X59490.here hx rfl (hb hby at_362) rfl ?_
            show Steps p.tables e below (T59490.setTop (mkF m 364 (La0_45 p0 q1 q2 q3 b1 b25766 b59480) [(.long q3)])) t
            refine XT.lload X59490.here hx rfl (hb hby at_364) rfl ?_
            show Steps p.tables e below (T59490.setTop (mkF m 366 (La0_45 p0 q1 q2 q3 b1 b25766 b59480) [(.long q3), (.long q3)])) t
            refine XT.lcmp X59490.here hx rfl (hb hby at_366) rfl ?_
            show Steps p.tables e below (T59490.setTop (mkF m 367 (La0_45 p0 q1 q2 q3 b1 b25766 b59480) [(.int (XT.cmpL q3 q3))])) t
            refine XS.ifNo X59490.here hx rfl (hb hby at_367) rfl ((if0 _ _).trans (teq ((cl_eq _ _).mpr (show q3 = q3 by first | rfl | decide))).2) ?_
            show Steps p.tables e below (T59490.setTop (mkF m 370 (La0_45 p0 q1 q2 q3 b1 b25766 b59480) [])) t
            refine XS.iconst X59490.here hx rfl (hb hby at_370) ?_
            show Steps p.tables e below (T59490.setTop (mkF m 371 (La0_45 p0 q1 q2 q3 b1 b25766 b59480) [(.int (1 : Int32))])) t
            refine XS.goto X59490.here hx rfl (pc0 := 371) (pc' := 375) rfl (hb hby at_371) (by decide) (by decide) ?_
            show Steps p.tables e below (T59490.setTop (mkF m 375 (La0_45 p0 q1 q2 q3 b1 b25766 b59480) [(.int (1 : Int32))])) t
            have qq60515 : (v0_375bb q2 q1) = (1 : Int32) := by
              show (if (((v0_305bb q2 q1) ^^^ q2) &&& ((-4611686018427387904 : Int64) ^^^ (-1 : Int64))) = (0 : Int64) then (1 : Int32) else (0 : Int32)) = (1 : Int32)
              simp only [if_pos hc60514]
            rw [qq60515] at k
            exact k
          · skip
            refine XS.ifYes X59490.here hx rfl (pc0 := 359) (pc' := 374) rfl (hb hby at_359) rfl ((if0 _ _).trans (feq (fun q => hc60514 ((cl_eq _ _).mp q))).2) (by decide) (by decide) ?_
            show Steps p.tables e below (T59490.setTop (mkF m 374 (La0_45 p0 q1 q2 q3 b1 b25766 b59480) [])) t
            refine XS.iconst X59490.here hx rfl (hb hby at_374) ?_
            show Steps p.tables e below (T59490.setTop (mkF m 375 (La0_45 p0 q1 q2 q3 b1 b25766 b59480) [(.int (0 : Int32))])) t
            have qq60516 : (v0_375bb q2 q1) = (0 : Int32) := by
              show (if (((v0_305bb q2 q1) ^^^ q2) &&& ((-4611686018427387904 : Int64) ^^^ (-1 : Int64))) = (0 : Int64) then (1 : Int32) else (0 : Int32)) = (0 : Int32)
              simp only [if_neg hc60514]
            rw [qq60516] at k
            exact k
        refine ostW (mkF m 377 (La0_46 p0 q1 q2 q3 b1 b25766 b59480) []) X59490 (fun t k => XS.istore X59490.here hx rfl (hb hby at_375) rfl (l' := (La0_46 p0 q1 q2 q3 b1 b25766 b59480)) rfl k) ?_
        refine ostW (mkF m 379 (La0_46 p0 q1 q2 q3 b1 b25766 b59480) [(.long (v0_305bb q2 q1))]) X59490 (fun t k => XT.lload X59490.here hx rfl (hb hby at_377) rfl k) ?_
        refine ostW (mkF m 381 (La0_46 p0 q1 q2 q3 b1 b25766 b59480) [(.int (62 : Int32)), (.long (v0_305bb q2 q1))]) X59490 (fun t k => XS.iload X59490.here hx rfl (hb hby at_379) rfl k) ?_
        refine ostW (mkF m 382 (La0_46 p0 q1 q2 q3 b1 b25766 b59480) [(.long (XT.ushrL (v0_305bb q2 q1) (62 : Int32)))]) X59490 (fun t k => XT.lushr X59490.here hx rfl (hb hby at_381) rfl k) ?_
        refine ostW (mkF m 384 (La0_46 p0 q1 q2 q3 b1 b25766 b59480) [(.long (3 : Int64)), (.long (XT.ushrL (v0_305bb q2 q1) (62 : Int32)))]) X59490 (fun t k => XT.lload X59490.here hx rfl (hb hby at_382) rfl k) ?_
        refine ostW (mkF m 385 (La0_46 p0 q1 q2 q3 b1 b25766 b59480) [(.long ((XT.ushrL (v0_305bb q2 q1) (62 : Int32)) &&& (3 : Int64)))]) X59490 (fun t k => XT.land X59490.here hx rfl (hb hby at_384) rfl k) ?_
        refine ostW (mkF m 387 (La0_46 p0 q1 q2 q3 b1 b25766 b59480) [(.long (v0_258b q1)), (.long ((XT.ushrL (v0_305bb q2 q1) (62 : Int32)) &&& (3 : Int64)))]) X59490 (fun t k => XT.lload X59490.here hx rfl (hb hby at_385) rfl k) ?_
        refine ostW (mkF m 388 (La0_46 p0 q1 q2 q3 b1 b25766 b59480) [(.int (XT.cmpL ((XT.ushrL (v0_305bb q2 q1) (62 : Int32)) &&& (3 : Int64)) (v0_258b q1)))]) X59490 (fun t k => XT.lcmp X59490.here hx rfl (hb hby at_387) rfl k) ?_
        refine ostW (mkF m 396 #[.val (.int p0), .val (.long q1), .second, .val (.long q2), .second, .val (.long q3), .second, .val (.ref b1), .val (.ref b25766), .val (.int (2 : Int32)), .val (.long (4 : Int64)), .second, .val (.int (0 : Int32)), .val (.int (62 : Int32)), .val (.long (3 : Int64)), .second, .val (.long (v0_258b q1)), .second, .val (.ref b59480), .val (.long q2), .second, .val (.long (v0_305bb q2 q1)), .second, .val (.long q3), .second, .val (.long q3), .second, .val (.long (-4611686018427387904 : Int64)), .second, .val (.int (v0_375bb q2 q1)), .unset, .unset] [(.int (v0_396bb q2 q1))]) X59490 (fun t k => ?_) ?_
        · show Steps p.tables e below (T59490.setTop (mkF m 388 (La0_46 p0 q1 q2 q3 b1 b25766 b59480) [(.int (XT.cmpL ((XT.ushrL (v0_305bb q2 q1) (62 : Int32)) &&& (3 : Int64)) (v0_258b q1)))])) t
          by_cases hc60517 : ((XT.ushrL (v0_305bb q2 q1) (62 : Int32)) &&& (3 : Int64)) = (v0_258b q1)
          · skip
            refine XS.ifNo X59490.here hx rfl (hb hby at_388) rfl ((if0 _ _).trans (teq ((cl_eq _ _).mpr hc60517)).2) ?_
            show Steps p.tables e below (T59490.setTop (mkF m 391 (La0_46 p0 q1 q2 q3 b1 b25766 b59480) [])) t
            refine XS.iconst X59490.here hx rfl (hb hby at_391) ?_
            show Steps p.tables e below (T59490.setTop (mkF m 392 (La0_46 p0 q1 q2 q3 b1 b25766 b59480) [(.int (1 : Int32))])) t
            refine XS.goto X59490.here hx rfl (pc0 := 392) (pc' := 396) rfl (hb hby at_392) (by decide) (by decide) ?_
            show Steps p.tables e below (T59490.setTop (mkF m 396 (La0_46 p0 q1 q2 q3 b1 b25766 b59480) [(.int (1 : Int32))])) t
            have qq60518 : (v0_396bb q2 q1) = (1 : Int32) := by
              show (if ((XT.ushrL (v0_305bb q2 q1) (62 : Int32)) &&& (3 : Int64)) = (v0_258b q1) then (1 : Int32) else (0 : Int32)) = (1 : Int32)
              simp only [if_pos hc60517]
            rw [qq60518] at k
            exact k
          · skip
            refine XS.ifYes X59490.here hx rfl (pc0 := 388) (pc' := 395) rfl (hb hby at_388) rfl ((if0 _ _).trans (feq (fun q => hc60517 ((cl_eq _ _).mp q))).2) (by decide) (by decide) ?_
            show Steps p.tables e below (T59490.setTop (mkF m 395 (La0_46 p0 q1 q2 q3 b1 b25766 b59480) [])) t
            refine XS.iconst X59490.here hx rfl (hb hby at_395) ?_
            show Steps p.tables e below (T59490.setTop (mkF m 396 (La0_46 p0 q1 q2 q3 b1 b25766 b59480) [(.int (0 : Int32))])) t
            have qq60519 : (v0_396bb q2 q1) = (0 : Int32) := by
              show (if ((XT.ushrL (v0_305bb q2 q1) (62 : Int32)) &&& (3 : Int64)) = (v0_258b q1) then (1 : Int32) else (0 : Int32)) = (0 : Int32)
              simp only [if_neg hc60517]
            rw [qq60519] at k
            exact k
        refine ostW (mkF m 398 (La0_47 p0 q1 q2 q3 b1 b25766 b59480) []) X59490 (fun t k => XS.istore X59490.here hx rfl (hb hby at_396) rfl (l' := (La0_47 p0 q1 q2 q3 b1 b25766 b59480)) rfl k) ?_
        refine ostW (mkF m 400 (La0_47 p0 q1 q2 q3 b1 b25766 b59480) [(.ref b25766)]) X59490 (fun t k => XS.aload X59490.here hx rfl (hb hby at_398) rfl rfl k) ?_
        refine ostW (mkF m 402 (La0_47 p0 q1 q2 q3 b1 b25766 b59480) [(.ref b59480), (.ref b25766)]) X59490 (fun t k => XS.aload X59490.here hx rfl (hb hby at_400) rfl rfl k) ?_
        refine ostW (mkF m 404 (La0_47 p0 q1 q2 q3 b1 b25766 b59480) [(.int (2 : Int32)), (.ref b59480), (.ref b25766)]) X59490 (fun t k => XS.iload X59490.here hx rfl (hb hby at_402) rfl k) ?_
        have E62546 := (Exa.keep E60513 K59490)
        have F62547 := (F60505.keep K59490 (ninS ne_b25766_b59480 nin0))
        have F62548 := (F60506.keep K59490 (ninS ne_b25766_b59480 nin0))
        have F62549 := (F60507.keep K59490 (ninS ne_b25766_b59480 nin0))
        have A62550 := (A60508.keep K59490 (ninS ne_b27787_b59480 nin0))
        have A62551 := (A60509.keep K59490 (ninS ne_b27802_b59480 nin0))
        have A62552 := (A60510.keep K59490 (ninS ne_b27824_b59480 nin0))
        obtain ⟨_, T60520, L60520, X60520, ⟨rfl, N60520q, u62553⟩, st60520⟩ := own_callV X59490 hx hZ (y := Y22) (W := 0) (a := b25766) (argsL := [(.ref b59480), (.int (2 : Int32))]) (rest := []) hown (hw _ (wm 161 rfl)) (hw _ (wm 162 rfl)) (hw _ (wm 164 rfl)) (hw _ (wm 163 rfl)) (hw _ (wm 96 rfl)) (hw _ (wm 165 rfl)) (by decide) E62546 (rm21s60 l Z a0 hw [] q2 q3 q1 b25766 b27787 b27802 b27824 b59480 h59490 n0 Z59490 E62546 F62547 F62548 F62549 A62550 A62551 A62552 u60512) (by decide) (by decide) (by decide) (by decide) e59490 (g := (mkF m 404 (La0_47 p0 q1 q2 q3 b1 b25766 b59480) [(.int (2 : Int32)), (.ref b59480), (.ref b25766)])) rfl (by rw [hml]; rfl) pd_14 rfl rfl (by show 2 * 0 + _ ≤ _; exact Nat.le_of_eq rfl) (hb hby at_404)
        have N60520 := Fr.app N59490 N60520q
        refine ostW (mkF m 407 (La0_47 p0 q1 q2 q3 b1 b25766 b59480) [(.int (((XT.ushrL ((q2 &&& ((-4611686018427387904 : Int64) ^^^ (-1 : Int64))) ||| ((v0_258b q1) <<< ((62 : Int32).toInt64 &&& 63))) (62 : Int32)) &&& (3 : Int64)).toInt32))]) X60520 (fun t k => st60520 _ k) ?_
        refine ostW (mkF m 408 (La0_47 p0 q1 q2 q3 b1 b25766 b59480) [(.long ((((XT.ushrL ((q2 &&& ((-4611686018427387904 : Int64) ^^^ (-1 : Int64))) ||| ((v0_258b q1) <<< ((62 : Int32).toInt64 &&& 63))) (62 : Int32)) &&& (3 : Int64)).toInt32).toInt64))]) X60520 (fun t k => XT.i2l X60520.here hx rfl (hb hby at_407) rfl k) ?_
        refine ostW (mkF m 410 (La0_47 p0 q1 q2 q3 b1 b25766 b59480) [(.long (v0_258b q1)), (.long ((((XT.ushrL ((q2 &&& ((-4611686018427387904 : Int64) ^^^ (-1 : Int64))) ||| ((v0_258b q1) <<< ((62 : Int32).toInt64 &&& 63))) (62 : Int32)) &&& (3 : Int64)).toInt32).toInt64))]) X60520 (fun t k => XT.lload X60520.here hx rfl (hb hby at_408) rfl k) ?_
        refine ostW (mkF m 411 (La0_47 p0 q1 q2 q3 b1 b25766 b59480) [(.int (XT.cmpL ((((XT.ushrL ((q2 &&& ((-4611686018427387904 : Int64) ^^^ (-1 : Int64))) ||| ((v0_258b q1) <<< ((62 : Int32).toInt64 &&& 63))) (62 : Int32)) &&& (3 : Int64)).toInt32).toInt64) (v0_258b q1)))]) X60520 (fun t k => XT.lcmp X60520.here hx rfl (hb hby at_410) rfl k) ?_
        refine ostW (mkF m 419 #[.val (.int p0), .val (.long q1), .second, .val (.long q2), .second, .val (.long q3), .second, .val (.ref b1), .val (.ref b25766), .val (.int (2 : Int32)), .val (.long (4 : Int64)), .second, .val (.int (0 : Int32)), .val (.int (62 : Int32)), .val (.long (3 : Int64)), .second, .val (.long (v0_258b q1)), .second, .val (.ref b59480), .val (.long q2), .second, .val (.long (v0_305bb q2 q1)), .second, .val (.long q3), .second, .val (.long q3), .second, .val (.long (-4611686018427387904 : Int64)), .second, .val (.int (v0_375bb q2 q1)), .val (.int (v0_396bb q2 q1)), .unset] [(.int (v0_419bb q2 q1))]) X60520 (fun t k => ?_) ?_
        · show Steps p.tables e below (T60520.setTop (mkF m 411 (La0_47 p0 q1 q2 q3 b1 b25766 b59480) [(.int (XT.cmpL ((((XT.ushrL ((q2 &&& ((-4611686018427387904 : Int64) ^^^ (-1 : Int64))) ||| ((v0_258b q1) <<< ((62 : Int32).toInt64 &&& 63))) (62 : Int32)) &&& (3 : Int64)).toInt32).toInt64) (v0_258b q1)))])) t
          by_cases hc62554 : ((((XT.ushrL ((q2 &&& ((-4611686018427387904 : Int64) ^^^ (-1 : Int64))) ||| ((v0_258b q1) <<< ((62 : Int32).toInt64 &&& 63))) (62 : Int32)) &&& (3 : Int64)).toInt32).toInt64) = (v0_258b q1)
          · skip
            refine XS.ifNo X60520.here hx rfl (hb hby at_411) rfl ((if0 _ _).trans (teq ((cl_eq _ _).mpr hc62554)).2) ?_
            show Steps p.tables e below (T60520.setTop (mkF m 414 (La0_47 p0 q1 q2 q3 b1 b25766 b59480) [])) t
            refine XS.iconst X60520.here hx rfl (hb hby at_414) ?_
            show Steps p.tables e below (T60520.setTop (mkF m 415 (La0_47 p0 q1 q2 q3 b1 b25766 b59480) [(.int (1 : Int32))])) t
            refine XS.goto X60520.here hx rfl (pc0 := 415) (pc' := 419) rfl (hb hby at_415) (by decide) (by decide) ?_
            show Steps p.tables e below (T60520.setTop (mkF m 419 (La0_47 p0 q1 q2 q3 b1 b25766 b59480) [(.int (1 : Int32))])) t
            have qq62555 : (v0_419bb q2 q1) = (1 : Int32) := by
              show (if ((((XT.ushrL ((q2 &&& ((-4611686018427387904 : Int64) ^^^ (-1 : Int64))) ||| ((v0_258b q1) <<< ((62 : Int32).toInt64 &&& 63))) (62 : Int32)) &&& (3 : Int64)).toInt32).toInt64) = (v0_258b q1) then (1 : Int32) else (0 : Int32)) = (1 : Int32)
              simp only [if_pos hc62554]
            rw [qq62555] at k
            exact k
          · skip
            refine XS.ifYes X60520.here hx rfl (pc0 := 411) (pc' := 418) rfl (hb hby at_411) rfl ((if0 _ _).trans (feq (fun q => hc62554 ((cl_eq _ _).mp q))).2) (by decide) (by decide) ?_
            show Steps p.tables e below (T60520.setTop (mkF m 418 (La0_47 p0 q1 q2 q3 b1 b25766 b59480) [])) t
            refine XS.iconst X60520.here hx rfl (hb hby at_418) ?_
            show Steps p.tables e below (T60520.setTop (mkF m 419 (La0_47 p0 q1 q2 q3 b1 b25766 b59480) [(.int (0 : Int32))])) t
            have qq62556 : (v0_419bb q2 q1) = (0 : Int32) := by
              show (if ((((XT.ushrL ((q2 &&& ((-4611686018427387904 : Int64) ^^^ (-1 : Int64))) ||| ((v0_258b q1) <<< ((62 : Int32).toInt64 &&& 63))) (62 : Int32)) &&& (3 : Int64)).toInt32).toInt64) = (v0_258b q1) then (1 : Int32) else (0 : Int32)) = (0 : Int32)
              simp only [if_neg hc62554]
            rw [qq62556] at k
            exact k
        refine ostW (mkF m 421 (La0_48 p0 q1 q2 q3 b1 b25766 b59480) []) X60520 (fun t k => XS.istore X60520.here hx rfl (hb hby at_419) rfl (l' := (La0_48 p0 q1 q2 q3 b1 b25766 b59480)) rfl k) ?_
        refine ostW (mkF m 423 (La0_48 p0 q1 q2 q3 b1 b25766 b59480) [(.int (v0_375bb q2 q1))]) X60520 (fun t k => XS.iload X60520.here hx rfl (hb hby at_421) rfl k) ?_
        refine ostW (mkF m 426 (La0_48 p0 q1 q2 q3 b1 b25766 b59480) []) X60520 (fun t k => XS.ifNo X60520.here hx rfl (hb hby at_423) rfl ((if0 _ _).trans (feq (br0_423bba q2 q1 p0 hb134 hb159 hb185)).1) k) ?_
        refine ostW (mkF m 428 (La0_48 p0 q1 q2 q3 b1 b25766 b59480) [(.int (v0_396bb q2 q1))]) X60520 (fun t k => XS.iload X60520.here hx rfl (hb hby at_426) rfl k) ?_
        refine ostW (mkF m 431 (La0_48 p0 q1 q2 q3 b1 b25766 b59480) []) X60520 (fun t k => XS.ifNo X60520.here hx rfl (hb hby at_428) rfl ((if0 _ _).trans (feq (br0_428bba q2 q1 p0 hb134 hb159 hb185)).1) k) ?_
        refine ostW (mkF m 433 (La0_48 p0 q1 q2 q3 b1 b25766 b59480) [(.int (v0_419bb q2 q1))]) X60520 (fun t k => XS.iload X60520.here hx rfl (hb hby at_431) rfl k) ?_
        refine ostW (mkF m 436 (La0_48 p0 q1 q2 q3 b1 b25766 b59480) []) X60520 (fun t k => XS.ifNo X60520.here hx rfl (hb hby at_433) rfl ((if0 _ _).trans (feq (br0_433bba q2 q1 p0 hb134 hb159 hb185)).1) k) ?_
        refine ostW (mkF m 437 (La0_48 p0 q1 q2 q3 b1 b25766 b59480) [(.int (1 : Int32))]) X60520 (fun t k => XS.iconst X60520.here hx rfl (hb hby at_436) k) ?_
        refine ostW (mkF m 441 (La0_48 p0 q1 q2 q3 b1 b25766 b59480) [(.int (1 : Int32))]) X60520 (fun t k => XS.goto X60520.here hx rfl (pc0 := 437) (pc' := 441) rfl (hb hby at_437) (by decide) (by decide) k) ?_
        have hSk := (Nat.le_trans (Nat.le_trans (Nat.le_trans (Nat.le_trans (Nat.le_trans (Nat.le_trans (Nat.le_trans (Nat.le_trans hSk K21641.1) K23708.1) K25766.1) K25772.1) K59480.1) K59488.1) K59489.1) K59490.1)
        refine OwnFinW.retNar (vm := T21640.vm) X60520 hSn (by rw [u62553]; exact hSk) (by simp) (hb hby at_441) (by decide) (by decide) ?_
        exact ⟨rfl, N60520⟩
      · skip
        refine ostW (mkF m 208 (La0_3 p0 q1 q2 q3 b1 b25766) []) X25772 (fun t k => XS.icmpYes X25772.here hx rfl (pc0 := 185) (pc' := 208) rfl (hb hby at_185) rfl (feq hb185).2 (by decide) (by decide) k) ?_
        refine ostW (mkF m 210 (La0_3 p0 q1 q2 q3 b1 b25766) [(.int (v0_130 p0))]) X25772 (fun t k => XS.iload X25772.here hx rfl (hb hby at_208) rfl k) ?_
        refine ostW (mkF m 211 (La0_3 p0 q1 q2 q3 b1 b25766) [(.int (3 : Int32)), (.int (v0_130 p0))]) X25772 (fun t k => XS.iconst X25772.here hx rfl (hb hby at_210) k) ?_
        by_cases hb211 : (v0_130 p0) = (3 : Int32)
        · skip
          refine ostW (mkF m 214 #[.val (.int p0), .val (.long q1), .second, .val (.long q2), .second, .val (.long q3), .second, .val (.ref b1), .val (.ref b25766), .val (.int (v0_130 p0)), .unset, .unset, .unset, .unset, .unset, .unset, .unset, .unset, .unset, .unset, .unset, .unset, .unset, .unset, .unset, .unset, .unset, .unset, .unset, .unset, .unset, .unset] []) X25772 (fun t k => XS.icmpNo X25772.here hx rfl (hb hby at_211) rfl (teq hb211).2 k) ?_
          rw [hb211]
          refine ostW (mkF m 217 (La0_49 p0 q1 q2 q3 b1 b25766) [(.long (1048576 : Int64))]) X25772 (fun t k => X25772.ldc2Long hx hown (mvT hZ (hw _ (wm 172 rfl))) (g := (mkF m 214 (La0_49 p0 q1 q2 q3 b1 b25766) [])) rfl (hb hby at_214) _ k) ?_
          refine ostW (mkF m 219 (La0_50 p0 q1 q2 q3 b1 b25766) []) X25772 (fun t k => XT.lstore X25772.here hx rfl (hb hby at_217) rfl (l' := (La0_50 p0 q1 q2 q3 b1 b25766)) rfl k) ?_
          refine ostW (mkF m 220 (La0_50 p0 q1 q2 q3 b1 b25766) [(.int (1 : Int32))]) X25772 (fun t k => XS.iconst X25772.here hx rfl (hb hby at_219) k) ?_
          refine ostW (mkF m 222 (La0_51 p0 q1 q2 q3 b1 b25766) []) X25772 (fun t k => XS.istore X25772.here hx rfl (hb hby at_220) rfl (l' := (La0_51 p0 q1 q2 q3 b1 b25766)) rfl k) ?_
          refine ostW (mkF m 223 (La0_51 p0 q1 q2 q3 b1 b25766) [(.int (0 : Int32))]) X25772 (fun t k => XS.iconst X25772.here hx rfl (hb hby at_222) k) ?_
          refine ostW (mkF m 225 (La0_52 p0 q1 q2 q3 b1 b25766) []) X25772 (fun t k => XS.istore X25772.here hx rfl (hb hby at_223) rfl (l' := (La0_52 p0 q1 q2 q3 b1 b25766)) rfl k) ?_
          refine ostW (mkF m 228 (La0_52 p0 q1 q2 q3 b1 b25766) [(.long (1048575 : Int64))]) X25772 (fun t k => X25772.ldc2Long hx hown (mvT hZ (hw _ (wm 173 rfl))) (g := (mkF m 225 (La0_52 p0 q1 q2 q3 b1 b25766) [])) rfl (hb hby at_225) _ k) ?_
          refine ostW (mkF m 230 (La0_53 p0 q1 q2 q3 b1 b25766) []) X25772 (fun t k => XT.lstore X25772.here hx rfl (hb hby at_228) rfl (l' := (La0_53 p0 q1 q2 q3 b1 b25766)) rfl k) ?_
          refine ostW (mkF m 250 (La0_53 p0 q1 q2 q3 b1 b25766) []) X25772 (fun t k => XS.goto X25772.here hx rfl (pc0 := 230) (pc' := 250) rfl (hb hby at_230) (by decide) (by decide) k) ?_
          refine ostW (mkF m 251 (La0_53 p0 q1 q2 q3 b1 b25766) [(.long q1)]) X25772 (fun t k => XT.lloadN X25772.here hx rfl (hb hby at_250) rfl k) ?_
          refine ostW (mkF m 254 (La0_53 p0 q1 q2 q3 b1 b25766) [(.long (2147483647 : Int64)), (.long q1)]) X25772 (fun t k => X25772.ldc2Long hx hown (mvT hZ (hw _ (wm 153 rfl))) (g := (mkF m 251 (La0_53 p0 q1 q2 q3 b1 b25766) [(.long q1)])) rfl (hb hby at_251) _ k) ?_
          refine ostW (mkF m 255 (La0_53 p0 q1 q2 q3 b1 b25766) [(.long (q1 &&& (2147483647 : Int64)))]) X25772 (fun t k => XT.land X25772.here hx rfl (hb hby at_254) rfl k) ?_
          refine ostW (mkF m 257 (La0_53 p0 q1 q2 q3 b1 b25766) [(.long (1048576 : Int64)), (.long (q1 &&& (2147483647 : Int64)))]) X25772 (fun t k => XT.lload X25772.here hx rfl (hb hby at_255) rfl k) ?_
          refine ostW (mkF m 258 (La0_53 p0 q1 q2 q3 b1 b25766) [(.long ((q1 &&& (2147483647 : Int64)) % (1048576 : Int64)))]) X25772 (fun t k => own_lrem (g := (mkF m 257 (La0_53 p0 q1 q2 q3 b1 b25766) [(.long (1048576 : Int64)), (.long (q1 &&& (2147483647 : Int64)))])) (x := (q1 &&& (2147483647 : Int64))) (y := (1048576 : Int64)) X25772 hx rfl (hb hby at_257) rfl (by decide) k) ?_
          refine ostW (mkF m 260 (La0_54 p0 q1 q2 q3 b1 b25766) []) X25772 (fun t k => XT.lstore X25772.here hx rfl (hb hby at_258) rfl (l' := (La0_54 p0 q1 q2 q3 b1 b25766)) rfl k) ?_
          refine ostW (mkF m 261 (La0_54 p0 q1 q2 q3 b1 b25766) [(.int (2 : Int32))]) X25772 (fun t k => XS.iconst X25772.here hx rfl (hb hby at_260) k) ?_
          obtain ⟨T62557, h62557, b62557, X62557, e62557, y62557, K62557, A62557, st62557⟩ := own_new X25772 hx hZ (hw _ (wm 115 rfl)) e25772 (g := (mkF m 261 (La0_54 p0 q1 q2 q3 b1 b25766) [(.int (2 : Int32))])) rfl (hb hby at_261) rfl (by decide) (cap := 2) (by decide) (by decide) (by decide) (by decide)
          have B62557 : Ary Z h62557 b62557 .long 2 (fun i => .long ((fun _ => (0 : Int64)) i)) := A62557
          have E62558 := (Exa.keep E53294 K25772)
          have ne_b1_b62557 : b1 ≠ b62557 := Exa.neS E62558 y62557
          have E62559 := (Exa.keep E53297 K25772)
          have ne_b3058_b62557 : b3058 ≠ b62557 := Exa.neS E62559 y62557
          have A62560 := (A53299.keep K25772 (ninS ne_b9144_b25766 nin0))
          have ne_b9144_b62557 : b9144 ≠ b62557 := AryR.neS A62560 y62557
          have E62561 := (Exa.keep E53300 K25772)
          have ne_b9244_b62557 : b9244 ≠ b62557 := Exa.neS E62561 y62557
          have E62562 := (Exa.keep E53302 K25772)
          have ne_b13373_b62557 : b13373 ≠ b62557 := Exa.neS E62562 y62557
          have E62563 := (Exa.keep E53304 K25772)
          have ne_b17503_b62557 : b17503 ≠ b62557 := Exa.neS E62563 y62557
          have E62564 := (Exa.keep E53306 K25772)
          have ne_b21634_b62557 : b21634 ≠ b62557 := Exa.neS E62564 y62557
          have ne_b25766_b62557 : b25766 ≠ b62557 := Exa.neS u53309 y62557
          have ne_b27787_b62557 : b27787 ≠ b62557 := Ary.neS u53314 y62557
          have ne_b27802_b62557 : b27802 ≠ b62557 := Ary.neS u53317 y62557
          have ne_b27824_b62557 : b27824 ≠ b62557 := Ary.neS u53320 y62557
          have g_b62557 : n0 ≤ b62557 := by rw [y62557]; exact Z25772
          have Z62557 := Nat.le_trans Z25772 K62557.1
          refine ostW (mkF m 263 (La0_54 p0 q1 q2 q3 b1 b25766) [(.ref b62557)]) X62557 (fun t k => st62557 _ k) ?_
          refine ostW (mkF m 265 (La0_55 p0 q1 q2 q3 b1 b25766 b62557) []) X62557 (fun t k => XS.astore X62557.here hx rfl (hb hby at_263) rfl rfl (l' := (La0_55 p0 q1 q2 q3 b1 b25766 b62557)) rfl k) ?_
          refine ostW (mkF m 267 (La0_55 p0 q1 q2 q3 b1 b25766 b62557) [(.ref b62557)]) X62557 (fun t k => XS.aload X62557.here hx rfl (hb hby at_265) rfl rfl k) ?_
          refine ostW (mkF m 268 (La0_55 p0 q1 q2 q3 b1 b25766 b62557) [(.int (0 : Int32)), (.ref b62557)]) X62557 (fun t k => XS.iconst X62557.here hx rfl (hb hby at_267) k) ?_
          refine ostW (mkF m 269 (La0_55 p0 q1 q2 q3 b1 b25766 b62557) [(.long q2), (.int (0 : Int32)), (.ref b62557)]) X62557 (fun t k => XT.lloadN X62557.here hx rfl (hb hby at_268) rfl k) ?_
          obtain ⟨T62565, h62565, L62565, X62565, e62565, N62565, K62565, A62565, st62565⟩ := own_stJ X62557 hx hZ e62557 N25772 (G := (fun _ => (0 : Int64))) B62557 g_b62557 (j := (0 : Int32)) (x := q2) (by decide) (g := (mkF m 269 (La0_55 p0 q1 q2 q3 b1 b25766 b62557) [(.long q2), (.int (0 : Int32)), (.ref b62557)])) rfl rfl (hb hby at_269)
          have B62565 : Ary Z h62565 b62557 .long 2 (fun i => .long ((G0_269 q2) i)) := A62565
          have Z62565 := Nat.le_trans Z62557 K62565.1
          refine ostW (mkF m 270 (La0_55 p0 q1 q2 q3 b1 b25766 b62557) []) X62565 (fun t k => st62565 _ k) ?_
          refine ostW (mkF m 272 (La0_55 p0 q1 q2 q3 b1 b25766 b62557) [(.ref b62557)]) X62565 (fun t k => XS.aload X62565.here hx rfl (hb hby at_270) rfl rfl k) ?_
          refine ostW (mkF m 273 (La0_55 p0 q1 q2 q3 b1 b25766 b62557) [(.int (1 : Int32)), (.ref b62557)]) X62565 (fun t k => XS.iconst X62565.here hx rfl (hb hby at_272) k) ?_
          refine ostW (mkF m 275 (La0_55 p0 q1 q2 q3 b1 b25766 b62557) [(.long q3), (.int (1 : Int32)), (.ref b62557)]) X62565 (fun t k => XT.lload X62565.here hx rfl (hb hby at_273) rfl k) ?_
          obtain ⟨T62566, h62566, L62566, X62566, e62566, N62566, K62566, A62566, st62566⟩ := own_stJ X62565 hx hZ e62565 N62565 (G := (G0_269 q2)) B62565 g_b62557 (j := (1 : Int32)) (x := q3) (by decide) (g := (mkF m 275 (La0_55 p0 q1 q2 q3 b1 b25766 b62557) [(.long q3), (.int (1 : Int32)), (.ref b62557)])) rfl rfl (hb hby at_275)
          have B62566 : Ary Z h62566 b62557 .long 2 (fun i => .long ((G0_275 q2 q3) i)) := A62566
          have Z62566 := Nat.le_trans Z62565 K62566.1
          refine ostW (mkF m 276 (La0_55 p0 q1 q2 q3 b1 b25766 b62557) []) X62566 (fun t k => st62566 _ k) ?_
          refine ostW (mkF m 278 (La0_55 p0 q1 q2 q3 b1 b25766 b62557) [(.ref b25766)]) X62566 (fun t k => XS.aload X62566.here hx rfl (hb hby at_276) rfl rfl k) ?_
          refine ostW (mkF m 280 (La0_55 p0 q1 q2 q3 b1 b25766 b62557) [(.ref b62557), (.ref b25766)]) X62566 (fun t k => XS.aload X62566.here hx rfl (hb hby at_278) rfl rfl k) ?_
          refine ostW (mkF m 282 (La0_55 p0 q1 q2 q3 b1 b25766 b62557) [(.int (3 : Int32)), (.ref b62557), (.ref b25766)]) X62566 (fun t k => XS.iload X62566.here hx rfl (hb hby at_280) rfl k) ?_
          refine ostW (mkF m 284 (La0_55 p0 q1 q2 q3 b1 b25766 b62557) [(.long (v0_258bb q1)), (.int (3 : Int32)), (.ref b62557), (.ref b25766)]) X62566 (fun t k => XT.lload X62566.here hx rfl (hb hby at_282) rfl k) ?_
          have F63582 := (((u53310.keep K62557 nin0).keep K62565 (ninS ne_b25766_b62557 nin0)).keep K62566 (ninS ne_b25766_b62557 nin0))
          have F63583 := (((u53311.keep K62557 nin0).keep K62565 (ninS ne_b25766_b62557 nin0)).keep K62566 (ninS ne_b25766_b62557 nin0))
          have F63584 := (((u53312.keep K62557 nin0).keep K62565 (ninS ne_b25766_b62557 nin0)).keep K62566 (ninS ne_b25766_b62557 nin0))
          have A63585 := (((u53314.keep K62557 nin0).keep K62565 (ninS ne_b27787_b62557 nin0)).keep K62566 (ninS ne_b27787_b62557 nin0))
          have A63586 := (((u53317.keep K62557 nin0).keep K62565 (ninS ne_b27802_b62557 nin0)).keep K62566 (ninS ne_b27802_b62557 nin0))
          have A63587 := (((u53320.keep K62557 nin0).keep K62565 (ninS ne_b27824_b62557 nin0)).keep K62566 (ninS ne_b27824_b62557 nin0))
          have E63590 := (Exa.keep (Exa.keep (Exa.keep u53309 K62557) K62565) K62566)
          obtain ⟨_, T62567, L62567, X62567, ⟨rfl, N62567q, u63588, u63589⟩, st62567⟩ := own_callV X62566 hx hZ (y := Y20) (W := 0) (a := b25766) (argsL := [(.ref b62557), (.int (3 : Int32)), (.long (v0_258bb q1))]) (rest := []) hown (hw _ (wm 154 rfl)) (hw _ (wm 155 rfl)) (hw _ (wm 157 rfl)) (hw _ (wm 156 rfl)) (hw _ (wm 96 rfl)) (hw _ (wm 158 rfl)) (by decide) E63590 (rm20s62 l Z a0 hw [] q1 q2 q3 b25766 b27787 b27802 b27824 b62557 h62566 n0 Z62566 F63582 F63583 F63584 A63585 A63586 A63587 B62566 g_b62557) (by decide) (by decide) (by decide) (by decide) e62566 (g := (mkF m 284 (La0_55 p0 q1 q2 q3 b1 b25766 b62557) [(.long (v0_258bb q1)), (.int (3 : Int32)), (.ref b62557), (.ref b25766)])) rfl (by rw [hml]; rfl) pd_12 rfl rfl (by show 2 * 0 + _ ≤ _; exact Nat.le_of_eq rfl) (hb hby at_284)
          have N62567 := Fr.app N62566 N62567q
          obtain ⟨h62567, e62567⟩ : ∃ z, T62567.heap = z := ⟨_, rfl⟩
          rw [e62567] at u63588 u63589
          have K62567 := u63588
          have Z62567 := Nat.le_trans Z62566 K62567.1
          refine ostW (mkF m 287 (La0_55 p0 q1 q2 q3 b1 b25766 b62557) []) X62567 (fun t k => st62567 _ k) ?_
          refine ostW (mkF m 289 (La0_55 p0 q1 q2 q3 b1 b25766 b62557) [(.int (1 : Int32))]) X62567 (fun t k => XS.iload X62567.here hx rfl (hb hby at_287) rfl k) ?_
          refine ostW (mkF m 296 (La0_55 p0 q1 q2 q3 b1 b25766 b62557) []) X62567 (fun t k => XS.ifYes X62567.here hx rfl (pc0 := 289) (pc' := 296) rfl (hb hby at_289) rfl ((if0 _ _).trans (feq (show ¬ ((1 : Int32) = (0 : Int32)) by first | decide | exact Int32.lt_irrefl _ | exact Int64.lt_irrefl _)).2) (by decide) (by decide) k) ?_
          refine ostW (mkF m 298 (La0_55 p0 q1 q2 q3 b1 b25766 b62557) [(.long q3)]) X62567 (fun t k => XT.lload X62567.here hx rfl (hb hby at_296) rfl k) ?_
          refine ostW (mkF m 300 (La0_56 p0 q1 q2 q3 b1 b25766 b62557) []) X62567 (fun t k => XT.lstore X62567.here hx rfl (hb hby at_298) rfl (l' := (La0_56 p0 q1 q2 q3 b1 b25766 b62557)) rfl k) ?_
          refine ostW (mkF m 302 (La0_56 p0 q1 q2 q3 b1 b25766 b62557) [(.ref b62557)]) X62567 (fun t k => XS.aload X62567.here hx rfl (hb hby at_300) rfl rfl k) ?_
          refine ostW (mkF m 304 (La0_56 p0 q1 q2 q3 b1 b25766 b62557) [(.int (1 : Int32)), (.ref b62557)]) X62567 (fun t k => XS.iload X62567.here hx rfl (hb hby at_302) rfl k) ?_
          refine ostW (mkF m 305 (La0_56 p0 q1 q2 q3 b1 b25766 b62557) [(.long ((q3 &&& ((1048575 : Int64) ^^^ (-1 : Int64))) ||| ((v0_258bb q1) <<< ((0 : Int32).toInt64 &&& 63))))]) X62567 (fun t k => own_ldJ X62567 hx hZ e62567 u63589 (by decide) rfl (g := (mkF m 304 (La0_56 p0 q1 q2 q3 b1 b25766 b62557) [(.int (1 : Int32)), (.ref b62557)])) rfl rfl (hb hby at_304) _ k) ?_
          refine ostW (mkF m 307 (La0_57 p0 q1 q2 q3 b1 b25766 b62557) []) X62567 (fun t k => XT.lstore X62567.here hx rfl (hb hby at_305) rfl (l' := (La0_57 p0 q1 q2 q3 b1 b25766 b62557)) rfl k) ?_
          refine ostW (mkF m 309 (La0_57 p0 q1 q2 q3 b1 b25766 b62557) [(.int (1 : Int32))]) X62567 (fun t k => XS.iload X62567.here hx rfl (hb hby at_307) rfl k) ?_
          refine ostW (mkF m 319 (La0_57 p0 q1 q2 q3 b1 b25766 b62557) []) X62567 (fun t k => XS.ifYes X62567.here hx rfl (pc0 := 309) (pc' := 319) rfl (hb hby at_309) rfl ((if0 _ _).trans (feq (show ¬ ((1 : Int32) = (0 : Int32)) by first | decide | exact Int32.lt_irrefl _ | exact Int64.lt_irrefl _)).2) (by decide) (by decide) k) ?_
          refine ostW (mkF m 321 (La0_57 p0 q1 q2 q3 b1 b25766 b62557) [(.ref b62557)]) X62567 (fun t k => XS.aload X62567.here hx rfl (hb hby at_319) rfl rfl k) ?_
          refine ostW (mkF m 322 (La0_57 p0 q1 q2 q3 b1 b25766 b62557) [(.int (0 : Int32)), (.ref b62557)]) X62567 (fun t k => XS.iconst X62567.here hx rfl (hb hby at_321) k) ?_
          refine ostW (mkF m 323 (La0_57 p0 q1 q2 q3 b1 b25766 b62557) [(.long q2)]) X62567 (fun t k => own_ldJ X62567 hx hZ e62567 u63589 (by decide) rfl (g := (mkF m 322 (La0_57 p0 q1 q2 q3 b1 b25766 b62557) [(.int (0 : Int32)), (.ref b62557)])) rfl rfl (hb hby at_322) _ k) ?_
          refine ostW (mkF m 325 (La0_58 p0 q1 q2 q3 b1 b25766 b62557) []) X62567 (fun t k => XT.lstore X62567.here hx rfl (hb hby at_323) rfl (l' := (La0_58 p0 q1 q2 q3 b1 b25766 b62557)) rfl k) ?_
          refine ostW (mkF m 327 (La0_58 p0 q1 q2 q3 b1 b25766 b62557) [(.int (1 : Int32))]) X62567 (fun t k => XS.iload X62567.here hx rfl (hb hby at_325) rfl k) ?_
          refine ostW (mkF m 335 (La0_58 p0 q1 q2 q3 b1 b25766 b62557) []) X62567 (fun t k => XS.ifYes X62567.here hx rfl (pc0 := 327) (pc' := 335) rfl (hb hby at_327) rfl ((if0 _ _).trans (feq (show ¬ ((1 : Int32) = (0 : Int32)) by first | decide | exact Int32.lt_irrefl _ | exact Int64.lt_irrefl _)).2) (by decide) (by decide) k) ?_
          refine ostW (mkF m 336 (La0_58 p0 q1 q2 q3 b1 b25766 b62557) [(.long q2)]) X62567 (fun t k => XT.lloadN X62567.here hx rfl (hb hby at_335) rfl k) ?_
          refine ostW (mkF m 338 (La0_59 p0 q1 q2 q3 b1 b25766 b62557) []) X62567 (fun t k => XT.lstore X62567.here hx rfl (hb hby at_336) rfl (l' := (La0_59 p0 q1 q2 q3 b1 b25766 b62557)) rfl k) ?_
          refine ostW (mkF m 340 (La0_59 p0 q1 q2 q3 b1 b25766 b62557) [(.long (1048575 : Int64))]) X62567 (fun t k => XT.lload X62567.here hx rfl (hb hby at_338) rfl k) ?_
          refine ostW (mkF m 342 (La0_59 p0 q1 q2 q3 b1 b25766 b62557) [(.int (0 : Int32)), (.long (1048575 : Int64))]) X62567 (fun t k => XS.iload X62567.here hx rfl (hb hby at_340) rfl k) ?_
          refine ostW (mkF m 343 (La0_59 p0 q1 q2 q3 b1 b25766 b62557) [(.long (1048575 : Int64))]) X62567 (fun t k => XT.lshl X62567.here hx rfl (hb hby at_342) rfl k) ?_
          refine ostW (mkF m 345 (La0_60 p0 q1 q2 q3 b1 b25766 b62557) []) X62567 (fun t k => XT.lstore X62567.here hx rfl (hb hby at_343) rfl (l' := (La0_60 p0 q1 q2 q3 b1 b25766 b62557)) rfl k) ?_
          refine ostW (mkF m 347 (La0_60 p0 q1 q2 q3 b1 b25766 b62557) [(.long (v0_305bbb q3 q1))]) X62567 (fun t k => XT.lload X62567.here hx rfl (hb hby at_345) rfl k) ?_
          refine ostW (mkF m 349 (La0_60 p0 q1 q2 q3 b1 b25766 b62557) [(.long q3), (.long (v0_305bbb q3 q1))]) X62567 (fun t k => XT.lload X62567.here hx rfl (hb hby at_347) rfl k) ?_
          refine ostW (mkF m 350 (La0_60 p0 q1 q2 q3 b1 b25766 b62557) [(.long ((v0_305bbb q3 q1) ^^^ q3))]) X62567 (fun t k => XT.lxor X62567.here hx rfl (hb hby at_349) rfl k) ?_
          refine ostW (mkF m 352 (La0_60 p0 q1 q2 q3 b1 b25766 b62557) [(.long (1048575 : Int64)), (.long ((v0_305bbb q3 q1) ^^^ q3))]) X62567 (fun t k => XT.lload X62567.here hx rfl (hb hby at_350) rfl k) ?_
          refine ostW (mkF m 355 (La0_60 p0 q1 q2 q3 b1 b25766 b62557) [(.long (-1 : Int64)), (.long (1048575 : Int64)), (.long ((v0_305bbb q3 q1) ^^^ q3))]) X62567 (fun t k => X62567.ldc2Long hx hown (mvT hZ (hw _ (wm 160 rfl))) (g := (mkF m 352 (La0_60 p0 q1 q2 q3 b1 b25766 b62557) [(.long (1048575 : Int64)), (.long ((v0_305bbb q3 q1) ^^^ q3))])) rfl (hb hby at_352) _ k) ?_
          refine ostW (mkF m 356 (La0_60 p0 q1 q2 q3 b1 b25766 b62557) [(.long ((1048575 : Int64) ^^^ (-1 : Int64))), (.long ((v0_305bbb q3 q1) ^^^ q3))]) X62567 (fun t k => XT.lxor X62567.here hx rfl (hb hby at_355) rfl k) ?_
          refine ostW (mkF m 357 (La0_60 p0 q1 q2 q3 b1 b25766 b62557) [(.long (((v0_305bbb q3 q1) ^^^ q3) &&& ((1048575 : Int64) ^^^ (-1 : Int64))))]) X62567 (fun t k => XT.land X62567.here hx rfl (hb hby at_356) rfl k) ?_
          refine ostW (mkF m 358 (La0_60 p0 q1 q2 q3 b1 b25766 b62557) [(.long (0 : Int64)), (.long (((v0_305bbb q3 q1) ^^^ q3) &&& ((1048575 : Int64) ^^^ (-1 : Int64))))]) X62567 (fun t k => XT.lconst X62567.here hx rfl (hb hby at_357) k) ?_
          refine ostW (mkF m 359 (La0_60 p0 q1 q2 q3 b1 b25766 b62557) [(.int (XT.cmpL (((v0_305bbb q3 q1) ^^^ q3) &&& ((1048575 : Int64) ^^^ (-1 : Int64))) (0 : Int64)))]) X62567 (fun t k => XT.lcmp X62567.here hx rfl (hb hby at_358) rfl k) ?_
          refine ostW (mkF m 375 #[.val (.int p0), .val (.long q1), .second, .val (.long q2), .second, .val (.long q3), .second, .val (.ref b1), .val (.ref b25766), .val (.int (3 : Int32)), .val (.long (1048576 : Int64)), .second, .val (.int (1 : Int32)), .val (.int (0 : Int32)), .val (.long (1048575 : Int64)), .second, .val (.long (v0_258bb q1)), .second, .val (.ref b62557), .val (.long q3), .second, .val (.long (v0_305bbb q3 q1)), .second, .val (.long q2), .second, .val (.long q2), .second, .val (.long (1048575 : Int64)), .second, .unset, .unset, .unset] [(.int (v0_375bbb q3 q1))]) X62567 (fun t k => ?_) ?_
          · show Steps p.tables e below (T62567.setTop (mkF m 359 (La0_60 p0 q1 q2 q3 b1 b25766 b62557) [(.int (XT.cmpL (((v0_305bbb q3 q1) ^^^ q3) &&& ((1048575 : Int64) ^^^ (-1 : Int64))) (0 : Int64)))])) t
            by_cases hc63591 : (((v0_305bbb q3 q1) ^^^ q3) &&& ((1048575 : Int64) ^^^ (-1 : Int64))) = (0 : Int64)
            · skip
              refine XS.ifNo X62567.here hx rfl (hb hby at_359) rfl ((if0 _ _).trans (teq ((cl_eq _ _).mpr hc63591)).2) ?_
              show Steps p.tables e below (T62567.setTop (mkF m 362 (La0_60 p0 q1 q2 q3 b1 b25766 b62557) [])) t
              refine XT.lload X62567.here hx rfl (hb hby at_362) rfl ?_
              show Steps p.tables e below (T62567.setTop (mkF m 364 (La0_60 p0 q1 q2 q3 b1 b25766 b62557) [(.long q2)])) t
              refine XT.lload X62567.here hx rfl (hb hby at_364) rfl ?_
              show Steps p.tables e below (T62567.setTop (mkF m 366 (La0_60 p0 q1 q2 q3 b1 b25766 b62557) [(.long q2), (.long q2)])) t
              refine XT.lcmp X62567.here hx rfl (hb hby at_366) rfl ?_
              show Steps p.tables e below (T62567.setTop (mkF m 367 (La0_60 p0 q1 q2 q3 b1 b25766 b62557) [(.int (XT.cmpL q2 q2))])) t
              refine XS.ifNo X62567.here hx rfl (hb hby at_367) rfl ((if0 _ _).trans (teq ((cl_eq _ _).mpr (show q2 = q2 by first | rfl | decide))).2) ?_
              show Steps p.tables e below (T62567.setTop (mkF m 370 (La0_60 p0 q1 q2 q3 b1 b25766 b62557) [])) t
              refine XS.iconst X62567.here hx rfl (hb hby at_370) ?_
              show Steps p.tables e below (T62567.setTop (mkF m 371 (La0_60 p0 q1 q2 q3 b1 b25766 b62557) [(.int (1 : Int32))])) t
              refine XS.goto X62567.here hx rfl (pc0 := 371) (pc' := 375) rfl (hb hby at_371) (by decide) (by decide) ?_
              show Steps p.tables e below (T62567.setTop (mkF m 375 (La0_60 p0 q1 q2 q3 b1 b25766 b62557) [(.int (1 : Int32))])) t
              have qq63592 : (v0_375bbb q3 q1) = (1 : Int32) := by
                show (if (((v0_305bbb q3 q1) ^^^ q3) &&& ((1048575 : Int64) ^^^ (-1 : Int64))) = (0 : Int64) then (1 : Int32) else (0 : Int32)) = (1 : Int32)
                simp only [if_pos hc63591]
              rw [qq63592] at k
              exact k
            · skip
              refine XS.ifYes X62567.here hx rfl (pc0 := 359) (pc' := 374) rfl (hb hby at_359) rfl ((if0 _ _).trans (feq (fun q => hc63591 ((cl_eq _ _).mp q))).2) (by decide) (by decide) ?_
              show Steps p.tables e below (T62567.setTop (mkF m 374 (La0_60 p0 q1 q2 q3 b1 b25766 b62557) [])) t
              refine XS.iconst X62567.here hx rfl (hb hby at_374) ?_
              show Steps p.tables e below (T62567.setTop (mkF m 375 (La0_60 p0 q1 q2 q3 b1 b25766 b62557) [(.int (0 : Int32))])) t
              have qq63593 : (v0_375bbb q3 q1) = (0 : Int32) := by
                show (if (((v0_305bbb q3 q1) ^^^ q3) &&& ((1048575 : Int64) ^^^ (-1 : Int64))) = (0 : Int64) then (1 : Int32) else (0 : Int32)) = (0 : Int32)
                simp only [if_neg hc63591]
              rw [qq63593] at k
              exact k
          refine ostW (mkF m 377 (La0_61 p0 q1 q2 q3 b1 b25766 b62557) []) X62567 (fun t k => XS.istore X62567.here hx rfl (hb hby at_375) rfl (l' := (La0_61 p0 q1 q2 q3 b1 b25766 b62557)) rfl k) ?_
          refine ostW (mkF m 379 (La0_61 p0 q1 q2 q3 b1 b25766 b62557) [(.long (v0_305bbb q3 q1))]) X62567 (fun t k => XT.lload X62567.here hx rfl (hb hby at_377) rfl k) ?_
          refine ostW (mkF m 381 (La0_61 p0 q1 q2 q3 b1 b25766 b62557) [(.int (0 : Int32)), (.long (v0_305bbb q3 q1))]) X62567 (fun t k => XS.iload X62567.here hx rfl (hb hby at_379) rfl k) ?_
          refine ostW (mkF m 382 (La0_61 p0 q1 q2 q3 b1 b25766 b62557) [(.long (XT.ushrL (v0_305bbb q3 q1) (0 : Int32)))]) X62567 (fun t k => XT.lushr X62567.here hx rfl (hb hby at_381) rfl k) ?_
          refine ostW (mkF m 384 (La0_61 p0 q1 q2 q3 b1 b25766 b62557) [(.long (1048575 : Int64)), (.long (XT.ushrL (v0_305bbb q3 q1) (0 : Int32)))]) X62567 (fun t k => XT.lload X62567.here hx rfl (hb hby at_382) rfl k) ?_
          refine ostW (mkF m 385 (La0_61 p0 q1 q2 q3 b1 b25766 b62557) [(.long ((XT.ushrL (v0_305bbb q3 q1) (0 : Int32)) &&& (1048575 : Int64)))]) X62567 (fun t k => XT.land X62567.here hx rfl (hb hby at_384) rfl k) ?_
          refine ostW (mkF m 387 (La0_61 p0 q1 q2 q3 b1 b25766 b62557) [(.long (v0_258bb q1)), (.long ((XT.ushrL (v0_305bbb q3 q1) (0 : Int32)) &&& (1048575 : Int64)))]) X62567 (fun t k => XT.lload X62567.here hx rfl (hb hby at_385) rfl k) ?_
          refine ostW (mkF m 388 (La0_61 p0 q1 q2 q3 b1 b25766 b62557) [(.int (XT.cmpL ((XT.ushrL (v0_305bbb q3 q1) (0 : Int32)) &&& (1048575 : Int64)) (v0_258bb q1)))]) X62567 (fun t k => XT.lcmp X62567.here hx rfl (hb hby at_387) rfl k) ?_
          refine ostW (mkF m 396 #[.val (.int p0), .val (.long q1), .second, .val (.long q2), .second, .val (.long q3), .second, .val (.ref b1), .val (.ref b25766), .val (.int (3 : Int32)), .val (.long (1048576 : Int64)), .second, .val (.int (1 : Int32)), .val (.int (0 : Int32)), .val (.long (1048575 : Int64)), .second, .val (.long (v0_258bb q1)), .second, .val (.ref b62557), .val (.long q3), .second, .val (.long (v0_305bbb q3 q1)), .second, .val (.long q2), .second, .val (.long q2), .second, .val (.long (1048575 : Int64)), .second, .val (.int (v0_375bbb q3 q1)), .unset, .unset] [(.int (v0_396bbb q3 q1))]) X62567 (fun t k => ?_) ?_
          · show Steps p.tables e below (T62567.setTop (mkF m 388 (La0_61 p0 q1 q2 q3 b1 b25766 b62557) [(.int (XT.cmpL ((XT.ushrL (v0_305bbb q3 q1) (0 : Int32)) &&& (1048575 : Int64)) (v0_258bb q1)))])) t
            by_cases hc63594 : ((XT.ushrL (v0_305bbb q3 q1) (0 : Int32)) &&& (1048575 : Int64)) = (v0_258bb q1)
            · skip
              refine XS.ifNo X62567.here hx rfl (hb hby at_388) rfl ((if0 _ _).trans (teq ((cl_eq _ _).mpr hc63594)).2) ?_
              show Steps p.tables e below (T62567.setTop (mkF m 391 (La0_61 p0 q1 q2 q3 b1 b25766 b62557) [])) t
              refine XS.iconst X62567.here hx rfl (hb hby at_391) ?_
              show Steps p.tables e below (T62567.setTop (mkF m 392 (La0_61 p0 q1 q2 q3 b1 b25766 b62557) [(.int (1 : Int32))])) t
              refine XS.goto X62567.here hx rfl (pc0 := 392) (pc' := 396) rfl (hb hby at_392) (by decide) (by decide) ?_
              show Steps p.tables e below (T62567.setTop (mkF m 396 (La0_61 p0 q1 q2 q3 b1 b25766 b62557) [(.int (1 : Int32))])) t
              have qq63595 : (v0_396bbb q3 q1) = (1 : Int32) := by
                show (if ((XT.ushrL (v0_305bbb q3 q1) (0 : Int32)) &&& (1048575 : Int64)) = (v0_258bb q1) then (1 : Int32) else (0 : Int32)) = (1 : Int32)
                simp only [if_pos hc63594]
              rw [qq63595] at k
              exact k
            · skip
              refine XS.ifYes X62567.here hx rfl (pc0 := 388) (pc' := 395) rfl (hb hby at_388) rfl ((if0 _ _).trans (feq (fun q => hc63594 ((cl_eq _ _).mp q))).2) (by decide) (by decide) ?_
              show Steps p.tables e below (T62567.setTop (mkF m 395 (La0_61 p0 q1 q2 q3 b1 b25766 b62557) [])) t
              refine XS.iconst X62567.here hx rfl (hb hby at_395) ?_
              show Steps p.tables e below (T62567.setTop (mkF m 396 (La0_61 p0 q1 q2 q3 b1 b25766 b62557) [(.int (0 : Int32))])) t
              have qq63596 : (v0_396bbb q3 q1) = (0 : Int32) := by
                show (if ((XT.ushrL (v0_305bbb q3 q1) (0 : Int32)) &&& (1048575 : Int64)) = (v0_258bb q1) then (1 : Int32) else (0 : Int32)) = (0 : Int32)
                simp only [if_neg hc63594]
              rw [qq63596] at k
              exact k
          refine ostW (mkF m 398 (La0_62 p0 q1 q2 q3 b1 b25766 b62557) []) X62567 (fun t k => XS.istore X62567.here hx rfl (hb hby at_396) rfl (l' := (La0_62 p0 q1 q2 q3 b1 b25766 b62557)) rfl k) ?_
          refine ostW (mkF m 400 (La0_62 p0 q1 q2 q3 b1 b25766 b62557) [(.ref b25766)]) X62567 (fun t k => XS.aload X62567.here hx rfl (hb hby at_398) rfl rfl k) ?_
          refine ostW (mkF m 402 (La0_62 p0 q1 q2 q3 b1 b25766 b62557) [(.ref b62557), (.ref b25766)]) X62567 (fun t k => XS.aload X62567.here hx rfl (hb hby at_400) rfl rfl k) ?_
          refine ostW (mkF m 404 (La0_62 p0 q1 q2 q3 b1 b25766 b62557) [(.int (3 : Int32)), (.ref b62557), (.ref b25766)]) X62567 (fun t k => XS.iload X62567.here hx rfl (hb hby at_402) rfl k) ?_
          have E65623 := (Exa.keep E63590 K62567)
          have F65624 := (F63582.keep K62567 (ninS ne_b25766_b62557 nin0))
          have F65625 := (F63583.keep K62567 (ninS ne_b25766_b62557 nin0))
          have F65626 := (F63584.keep K62567 (ninS ne_b25766_b62557 nin0))
          have A65627 := (A63585.keep K62567 (ninS ne_b27787_b62557 nin0))
          have A65628 := (A63586.keep K62567 (ninS ne_b27802_b62557 nin0))
          have A65629 := (A63587.keep K62567 (ninS ne_b27824_b62557 nin0))
          obtain ⟨_, T63597, L63597, X63597, ⟨rfl, N63597q, u65630⟩, st63597⟩ := own_callV X62567 hx hZ (y := Y22) (W := 0) (a := b25766) (argsL := [(.ref b62557), (.int (3 : Int32))]) (rest := []) hown (hw _ (wm 161 rfl)) (hw _ (wm 162 rfl)) (hw _ (wm 164 rfl)) (hw _ (wm 163 rfl)) (hw _ (wm 96 rfl)) (hw _ (wm 165 rfl)) (by decide) E65623 (rm21s63 l Z a0 hw [] q2 q3 q1 b25766 b27787 b27802 b27824 b62557 h62567 n0 Z62567 E65623 F65624 F65625 F65626 A65627 A65628 A65629 u63589) (by decide) (by decide) (by decide) (by decide) e62567 (g := (mkF m 404 (La0_62 p0 q1 q2 q3 b1 b25766 b62557) [(.int (3 : Int32)), (.ref b62557), (.ref b25766)])) rfl (by rw [hml]; rfl) pd_14 rfl rfl (by show 2 * 0 + _ ≤ _; exact Nat.le_of_eq rfl) (hb hby at_404)
          have N63597 := Fr.app N62567 N63597q
          refine ostW (mkF m 407 (La0_62 p0 q1 q2 q3 b1 b25766 b62557) [(.int (((XT.ushrL ((q3 &&& ((1048575 : Int64) ^^^ (-1 : Int64))) ||| ((v0_258bb q1) <<< ((0 : Int32).toInt64 &&& 63))) (0 : Int32)) &&& (1048575 : Int64)).toInt32))]) X63597 (fun t k => st63597 _ k) ?_
          refine ostW (mkF m 408 (La0_62 p0 q1 q2 q3 b1 b25766 b62557) [(.long ((((XT.ushrL ((q3 &&& ((1048575 : Int64) ^^^ (-1 : Int64))) ||| ((v0_258bb q1) <<< ((0 : Int32).toInt64 &&& 63))) (0 : Int32)) &&& (1048575 : Int64)).toInt32).toInt64))]) X63597 (fun t k => XT.i2l X63597.here hx rfl (hb hby at_407) rfl k) ?_
          refine ostW (mkF m 410 (La0_62 p0 q1 q2 q3 b1 b25766 b62557) [(.long (v0_258bb q1)), (.long ((((XT.ushrL ((q3 &&& ((1048575 : Int64) ^^^ (-1 : Int64))) ||| ((v0_258bb q1) <<< ((0 : Int32).toInt64 &&& 63))) (0 : Int32)) &&& (1048575 : Int64)).toInt32).toInt64))]) X63597 (fun t k => XT.lload X63597.here hx rfl (hb hby at_408) rfl k) ?_
          refine ostW (mkF m 411 (La0_62 p0 q1 q2 q3 b1 b25766 b62557) [(.int (XT.cmpL ((((XT.ushrL ((q3 &&& ((1048575 : Int64) ^^^ (-1 : Int64))) ||| ((v0_258bb q1) <<< ((0 : Int32).toInt64 &&& 63))) (0 : Int32)) &&& (1048575 : Int64)).toInt32).toInt64) (v0_258bb q1)))]) X63597 (fun t k => XT.lcmp X63597.here hx rfl (hb hby at_410) rfl k) ?_
          refine ostW (mkF m 419 #[.val (.int p0), .val (.long q1), .second, .val (.long q2), .second, .val (.long q3), .second, .val (.ref b1), .val (.ref b25766), .val (.int (3 : Int32)), .val (.long (1048576 : Int64)), .second, .val (.int (1 : Int32)), .val (.int (0 : Int32)), .val (.long (1048575 : Int64)), .second, .val (.long (v0_258bb q1)), .second, .val (.ref b62557), .val (.long q3), .second, .val (.long (v0_305bbb q3 q1)), .second, .val (.long q2), .second, .val (.long q2), .second, .val (.long (1048575 : Int64)), .second, .val (.int (v0_375bbb q3 q1)), .val (.int (v0_396bbb q3 q1)), .unset] [(.int (v0_419bbb q3 q1))]) X63597 (fun t k => ?_) ?_
          · show Steps p.tables e below (T63597.setTop (mkF m 411 (La0_62 p0 q1 q2 q3 b1 b25766 b62557) [(.int (XT.cmpL ((((XT.ushrL ((q3 &&& ((1048575 : Int64) ^^^ (-1 : Int64))) ||| ((v0_258bb q1) <<< ((0 : Int32).toInt64 &&& 63))) (0 : Int32)) &&& (1048575 : Int64)).toInt32).toInt64) (v0_258bb q1)))])) t
            by_cases hc65631 : ((((XT.ushrL ((q3 &&& ((1048575 : Int64) ^^^ (-1 : Int64))) ||| ((v0_258bb q1) <<< ((0 : Int32).toInt64 &&& 63))) (0 : Int32)) &&& (1048575 : Int64)).toInt32).toInt64) = (v0_258bb q1)
            · skip
              refine XS.ifNo X63597.here hx rfl (hb hby at_411) rfl ((if0 _ _).trans (teq ((cl_eq _ _).mpr hc65631)).2) ?_
              show Steps p.tables e below (T63597.setTop (mkF m 414 (La0_62 p0 q1 q2 q3 b1 b25766 b62557) [])) t
              refine XS.iconst X63597.here hx rfl (hb hby at_414) ?_
              show Steps p.tables e below (T63597.setTop (mkF m 415 (La0_62 p0 q1 q2 q3 b1 b25766 b62557) [(.int (1 : Int32))])) t
              refine XS.goto X63597.here hx rfl (pc0 := 415) (pc' := 419) rfl (hb hby at_415) (by decide) (by decide) ?_
              show Steps p.tables e below (T63597.setTop (mkF m 419 (La0_62 p0 q1 q2 q3 b1 b25766 b62557) [(.int (1 : Int32))])) t
              have qq65632 : (v0_419bbb q3 q1) = (1 : Int32) := by
                show (if ((((XT.ushrL ((q3 &&& ((1048575 : Int64) ^^^ (-1 : Int64))) ||| ((v0_258bb q1) <<< ((0 : Int32).toInt64 &&& 63))) (0 : Int32)) &&& (1048575 : Int64)).toInt32).toInt64) = (v0_258bb q1) then (1 : Int32) else (0 : Int32)) = (1 : Int32)
                simp only [if_pos hc65631]
              rw [qq65632] at k
              exact k
            · skip
              refine XS.ifYes X63597.here hx rfl (pc0 := 411) (pc' := 418) rfl (hb hby at_411) rfl ((if0 _ _).trans (feq (fun q => hc65631 ((cl_eq _ _).mp q))).2) (by decide) (by decide) ?_
              show Steps p.tables e below (T63597.setTop (mkF m 418 (La0_62 p0 q1 q2 q3 b1 b25766 b62557) [])) t
              refine XS.iconst X63597.here hx rfl (hb hby at_418) ?_
              show Steps p.tables e below (T63597.setTop (mkF m 419 (La0_62 p0 q1 q2 q3 b1 b25766 b62557) [(.int (0 : Int32))])) t
              have qq65633 : (v0_419bbb q3 q1) = (0 : Int32) := by
                show (if ((((XT.ushrL ((q3 &&& ((1048575 : Int64) ^^^ (-1 : Int64))) ||| ((v0_258bb q1) <<< ((0 : Int32).toInt64 &&& 63))) (0 : Int32)) &&& (1048575 : Int64)).toInt32).toInt64) = (v0_258bb q1) then (1 : Int32) else (0 : Int32)) = (0 : Int32)
                simp only [if_neg hc65631]
              rw [qq65633] at k
              exact k
          refine ostW (mkF m 421 (La0_63 p0 q1 q2 q3 b1 b25766 b62557) []) X63597 (fun t k => XS.istore X63597.here hx rfl (hb hby at_419) rfl (l' := (La0_63 p0 q1 q2 q3 b1 b25766 b62557)) rfl k) ?_
          refine ostW (mkF m 423 (La0_63 p0 q1 q2 q3 b1 b25766 b62557) [(.int (v0_375bbb q3 q1))]) X63597 (fun t k => XS.iload X63597.here hx rfl (hb hby at_421) rfl k) ?_
          refine ostW (mkF m 426 (La0_63 p0 q1 q2 q3 b1 b25766 b62557) []) X63597 (fun t k => XS.ifNo X63597.here hx rfl (hb hby at_423) rfl ((if0 _ _).trans (feq (br0_423bbba q3 q1 p0 hb134 hb159 hb185 hb211)).1) k) ?_
          refine ostW (mkF m 428 (La0_63 p0 q1 q2 q3 b1 b25766 b62557) [(.int (v0_396bbb q3 q1))]) X63597 (fun t k => XS.iload X63597.here hx rfl (hb hby at_426) rfl k) ?_
          refine ostW (mkF m 431 (La0_63 p0 q1 q2 q3 b1 b25766 b62557) []) X63597 (fun t k => XS.ifNo X63597.here hx rfl (hb hby at_428) rfl ((if0 _ _).trans (feq (br0_428bbba q3 q1 p0 hb134 hb159 hb185 hb211)).1) k) ?_
          refine ostW (mkF m 433 (La0_63 p0 q1 q2 q3 b1 b25766 b62557) [(.int (v0_419bbb q3 q1))]) X63597 (fun t k => XS.iload X63597.here hx rfl (hb hby at_431) rfl k) ?_
          refine ostW (mkF m 436 (La0_63 p0 q1 q2 q3 b1 b25766 b62557) []) X63597 (fun t k => XS.ifNo X63597.here hx rfl (hb hby at_433) rfl ((if0 _ _).trans (feq (br0_433bbba q3 q1 p0 hb134 hb159 hb185 hb211)).1) k) ?_
          refine ostW (mkF m 437 (La0_63 p0 q1 q2 q3 b1 b25766 b62557) [(.int (1 : Int32))]) X63597 (fun t k => XS.iconst X63597.here hx rfl (hb hby at_436) k) ?_
          refine ostW (mkF m 441 (La0_63 p0 q1 q2 q3 b1 b25766 b62557) [(.int (1 : Int32))]) X63597 (fun t k => XS.goto X63597.here hx rfl (pc0 := 437) (pc' := 441) rfl (hb hby at_437) (by decide) (by decide) k) ?_
          have hSk := (Nat.le_trans (Nat.le_trans (Nat.le_trans (Nat.le_trans (Nat.le_trans (Nat.le_trans (Nat.le_trans (Nat.le_trans hSk K21641.1) K23708.1) K25766.1) K25772.1) K62557.1) K62565.1) K62566.1) K62567.1)
          refine OwnFinW.retNar (vm := T21640.vm) X63597 hSn (by rw [u65630]; exact hSk) (by simp) (hb hby at_441) (by decide) (by decide) ?_
          exact ⟨rfl, N63597⟩
        · skip
          refine ostW (mkF m 233 #[.val (.int p0), .val (.long q1), .second, .val (.long q2), .second, .val (.long q3), .second, .val (.ref b1), .val (.ref b25766), .val (.int (v0_130 p0)), .unset, .unset, .unset, .unset, .unset, .unset, .unset, .unset, .unset, .unset, .unset, .unset, .unset, .unset, .unset, .unset, .unset, .unset, .unset, .unset, .unset, .unset] []) X25772 (fun t k => XS.icmpYes X25772.here hx rfl (pc0 := 211) (pc' := 233) rfl (hb hby at_211) rfl (feq hb211).2 (by decide) (by decide) k) ?_
          rw [own_v4 p0 hb134 hb159 hb185 hb211]
          refine ostW (mkF m 236 (La0_64 p0 q1 q2 q3 b1 b25766) [(.long (32 : Int64))]) X25772 (fun t k => X25772.ldc2Long hx hown (mvT hZ (hw _ (wm 170 rfl))) (g := (mkF m 233 (La0_64 p0 q1 q2 q3 b1 b25766) [])) rfl (hb hby at_233) _ k) ?_
          refine ostW (mkF m 238 (La0_65 p0 q1 q2 q3 b1 b25766) []) X25772 (fun t k => XT.lstore X25772.here hx rfl (hb hby at_236) rfl (l' := (La0_65 p0 q1 q2 q3 b1 b25766)) rfl k) ?_
          refine ostW (mkF m 239 (La0_65 p0 q1 q2 q3 b1 b25766) [(.int (1 : Int32))]) X25772 (fun t k => XS.iconst X25772.here hx rfl (hb hby at_238) k) ?_
          refine ostW (mkF m 241 (La0_66 p0 q1 q2 q3 b1 b25766) []) X25772 (fun t k => XS.istore X25772.here hx rfl (hb hby at_239) rfl (l' := (La0_66 p0 q1 q2 q3 b1 b25766)) rfl k) ?_
          refine ostW (mkF m 243 (La0_66 p0 q1 q2 q3 b1 b25766) [(.int (20 : Int32))]) X25772 (fun t k => XS.bipush X25772.here hx rfl (hb hby at_241) k) ?_
          refine ostW (mkF m 245 (La0_67 p0 q1 q2 q3 b1 b25766) []) X25772 (fun t k => XS.istore X25772.here hx rfl (hb hby at_243) rfl (l' := (La0_67 p0 q1 q2 q3 b1 b25766)) rfl k) ?_
          refine ostW (mkF m 248 (La0_67 p0 q1 q2 q3 b1 b25766) [(.long (31 : Int64))]) X25772 (fun t k => X25772.ldc2Long hx hown (mvT hZ (hw _ (wm 171 rfl))) (g := (mkF m 245 (La0_67 p0 q1 q2 q3 b1 b25766) [])) rfl (hb hby at_245) _ k) ?_
          refine ostW (mkF m 250 (La0_68 p0 q1 q2 q3 b1 b25766) []) X25772 (fun t k => XT.lstore X25772.here hx rfl (hb hby at_248) rfl (l' := (La0_68 p0 q1 q2 q3 b1 b25766)) rfl k) ?_
          refine ostW (mkF m 251 (La0_68 p0 q1 q2 q3 b1 b25766) [(.long q1)]) X25772 (fun t k => XT.lloadN X25772.here hx rfl (hb hby at_250) rfl k) ?_
          refine ostW (mkF m 254 (La0_68 p0 q1 q2 q3 b1 b25766) [(.long (2147483647 : Int64)), (.long q1)]) X25772 (fun t k => X25772.ldc2Long hx hown (mvT hZ (hw _ (wm 153 rfl))) (g := (mkF m 251 (La0_68 p0 q1 q2 q3 b1 b25766) [(.long q1)])) rfl (hb hby at_251) _ k) ?_
          refine ostW (mkF m 255 (La0_68 p0 q1 q2 q3 b1 b25766) [(.long (q1 &&& (2147483647 : Int64)))]) X25772 (fun t k => XT.land X25772.here hx rfl (hb hby at_254) rfl k) ?_
          refine ostW (mkF m 257 (La0_68 p0 q1 q2 q3 b1 b25766) [(.long (32 : Int64)), (.long (q1 &&& (2147483647 : Int64)))]) X25772 (fun t k => XT.lload X25772.here hx rfl (hb hby at_255) rfl k) ?_
          refine ostW (mkF m 258 (La0_68 p0 q1 q2 q3 b1 b25766) [(.long ((q1 &&& (2147483647 : Int64)) % (32 : Int64)))]) X25772 (fun t k => own_lrem (g := (mkF m 257 (La0_68 p0 q1 q2 q3 b1 b25766) [(.long (32 : Int64)), (.long (q1 &&& (2147483647 : Int64)))])) (x := (q1 &&& (2147483647 : Int64))) (y := (32 : Int64)) X25772 hx rfl (hb hby at_257) rfl (by decide) k) ?_
          refine ostW (mkF m 260 (La0_69 p0 q1 q2 q3 b1 b25766) []) X25772 (fun t k => XT.lstore X25772.here hx rfl (hb hby at_258) rfl (l' := (La0_69 p0 q1 q2 q3 b1 b25766)) rfl k) ?_
          refine ostW (mkF m 261 (La0_69 p0 q1 q2 q3 b1 b25766) [(.int (2 : Int32))]) X25772 (fun t k => XS.iconst X25772.here hx rfl (hb hby at_260) k) ?_
          obtain ⟨T65634, h65634, b65634, X65634, e65634, y65634, K65634, A65634, st65634⟩ := own_new X25772 hx hZ (hw _ (wm 115 rfl)) e25772 (g := (mkF m 261 (La0_69 p0 q1 q2 q3 b1 b25766) [(.int (2 : Int32))])) rfl (hb hby at_261) rfl (by decide) (cap := 2) (by decide) (by decide) (by decide) (by decide)
          have B65634 : Ary Z h65634 b65634 .long 2 (fun i => .long ((fun _ => (0 : Int64)) i)) := A65634
          have E65635 := (Exa.keep E53294 K25772)
          have ne_b1_b65634 : b1 ≠ b65634 := Exa.neS E65635 y65634
          have E65636 := (Exa.keep E53297 K25772)
          have ne_b3058_b65634 : b3058 ≠ b65634 := Exa.neS E65636 y65634
          have A65637 := (A53299.keep K25772 (ninS ne_b9144_b25766 nin0))
          have ne_b9144_b65634 : b9144 ≠ b65634 := AryR.neS A65637 y65634
          have E65638 := (Exa.keep E53300 K25772)
          have ne_b9244_b65634 : b9244 ≠ b65634 := Exa.neS E65638 y65634
          have E65639 := (Exa.keep E53302 K25772)
          have ne_b13373_b65634 : b13373 ≠ b65634 := Exa.neS E65639 y65634
          have E65640 := (Exa.keep E53304 K25772)
          have ne_b17503_b65634 : b17503 ≠ b65634 := Exa.neS E65640 y65634
          have E65641 := (Exa.keep E53306 K25772)
          have ne_b21634_b65634 : b21634 ≠ b65634 := Exa.neS E65641 y65634
          have ne_b25766_b65634 : b25766 ≠ b65634 := Exa.neS u53309 y65634
          have ne_b27787_b65634 : b27787 ≠ b65634 := Ary.neS u53314 y65634
          have ne_b27802_b65634 : b27802 ≠ b65634 := Ary.neS u53317 y65634
          have ne_b27824_b65634 : b27824 ≠ b65634 := Ary.neS u53320 y65634
          have g_b65634 : n0 ≤ b65634 := by rw [y65634]; exact Z25772
          have Z65634 := Nat.le_trans Z25772 K65634.1
          refine ostW (mkF m 263 (La0_69 p0 q1 q2 q3 b1 b25766) [(.ref b65634)]) X65634 (fun t k => st65634 _ k) ?_
          refine ostW (mkF m 265 (La0_70 p0 q1 q2 q3 b1 b25766 b65634) []) X65634 (fun t k => XS.astore X65634.here hx rfl (hb hby at_263) rfl rfl (l' := (La0_70 p0 q1 q2 q3 b1 b25766 b65634)) rfl k) ?_
          refine ostW (mkF m 267 (La0_70 p0 q1 q2 q3 b1 b25766 b65634) [(.ref b65634)]) X65634 (fun t k => XS.aload X65634.here hx rfl (hb hby at_265) rfl rfl k) ?_
          refine ostW (mkF m 268 (La0_70 p0 q1 q2 q3 b1 b25766 b65634) [(.int (0 : Int32)), (.ref b65634)]) X65634 (fun t k => XS.iconst X65634.here hx rfl (hb hby at_267) k) ?_
          refine ostW (mkF m 269 (La0_70 p0 q1 q2 q3 b1 b25766 b65634) [(.long q2), (.int (0 : Int32)), (.ref b65634)]) X65634 (fun t k => XT.lloadN X65634.here hx rfl (hb hby at_268) rfl k) ?_
          obtain ⟨T65642, h65642, L65642, X65642, e65642, N65642, K65642, A65642, st65642⟩ := own_stJ X65634 hx hZ e65634 N25772 (G := (fun _ => (0 : Int64))) B65634 g_b65634 (j := (0 : Int32)) (x := q2) (by decide) (g := (mkF m 269 (La0_70 p0 q1 q2 q3 b1 b25766 b65634) [(.long q2), (.int (0 : Int32)), (.ref b65634)])) rfl rfl (hb hby at_269)
          have B65642 : Ary Z h65642 b65634 .long 2 (fun i => .long ((G0_269 q2) i)) := A65642
          have Z65642 := Nat.le_trans Z65634 K65642.1
          refine ostW (mkF m 270 (La0_70 p0 q1 q2 q3 b1 b25766 b65634) []) X65642 (fun t k => st65642 _ k) ?_
          refine ostW (mkF m 272 (La0_70 p0 q1 q2 q3 b1 b25766 b65634) [(.ref b65634)]) X65642 (fun t k => XS.aload X65642.here hx rfl (hb hby at_270) rfl rfl k) ?_
          refine ostW (mkF m 273 (La0_70 p0 q1 q2 q3 b1 b25766 b65634) [(.int (1 : Int32)), (.ref b65634)]) X65642 (fun t k => XS.iconst X65642.here hx rfl (hb hby at_272) k) ?_
          refine ostW (mkF m 275 (La0_70 p0 q1 q2 q3 b1 b25766 b65634) [(.long q3), (.int (1 : Int32)), (.ref b65634)]) X65642 (fun t k => XT.lload X65642.here hx rfl (hb hby at_273) rfl k) ?_
          obtain ⟨T65643, h65643, L65643, X65643, e65643, N65643, K65643, A65643, st65643⟩ := own_stJ X65642 hx hZ e65642 N65642 (G := (G0_269 q2)) B65642 g_b65634 (j := (1 : Int32)) (x := q3) (by decide) (g := (mkF m 275 (La0_70 p0 q1 q2 q3 b1 b25766 b65634) [(.long q3), (.int (1 : Int32)), (.ref b65634)])) rfl rfl (hb hby at_275)
          have B65643 : Ary Z h65643 b65634 .long 2 (fun i => .long ((G0_275 q2 q3) i)) := A65643
          have Z65643 := Nat.le_trans Z65642 K65643.1
          refine ostW (mkF m 276 (La0_70 p0 q1 q2 q3 b1 b25766 b65634) []) X65643 (fun t k => st65643 _ k) ?_
          refine ostW (mkF m 278 (La0_70 p0 q1 q2 q3 b1 b25766 b65634) [(.ref b25766)]) X65643 (fun t k => XS.aload X65643.here hx rfl (hb hby at_276) rfl rfl k) ?_
          refine ostW (mkF m 280 (La0_70 p0 q1 q2 q3 b1 b25766 b65634) [(.ref b65634), (.ref b25766)]) X65643 (fun t k => XS.aload X65643.here hx rfl (hb hby at_278) rfl rfl k) ?_
          refine ostW (mkF m 282 (La0_70 p0 q1 q2 q3 b1 b25766 b65634) [(.int (4 : Int32)), (.ref b65634), (.ref b25766)]) X65643 (fun t k => XS.iload X65643.here hx rfl (hb hby at_280) rfl k) ?_
          refine ostW (mkF m 284 (La0_70 p0 q1 q2 q3 b1 b25766 b65634) [(.long (v0_258bbb q1)), (.int (4 : Int32)), (.ref b65634), (.ref b25766)]) X65643 (fun t k => XT.lload X65643.here hx rfl (hb hby at_282) rfl k) ?_
          have F66659 := (((u53310.keep K65634 nin0).keep K65642 (ninS ne_b25766_b65634 nin0)).keep K65643 (ninS ne_b25766_b65634 nin0))
          have F66660 := (((u53311.keep K65634 nin0).keep K65642 (ninS ne_b25766_b65634 nin0)).keep K65643 (ninS ne_b25766_b65634 nin0))
          have F66661 := (((u53312.keep K65634 nin0).keep K65642 (ninS ne_b25766_b65634 nin0)).keep K65643 (ninS ne_b25766_b65634 nin0))
          have A66662 := (((u53314.keep K65634 nin0).keep K65642 (ninS ne_b27787_b65634 nin0)).keep K65643 (ninS ne_b27787_b65634 nin0))
          have A66663 := (((u53317.keep K65634 nin0).keep K65642 (ninS ne_b27802_b65634 nin0)).keep K65643 (ninS ne_b27802_b65634 nin0))
          have A66664 := (((u53320.keep K65634 nin0).keep K65642 (ninS ne_b27824_b65634 nin0)).keep K65643 (ninS ne_b27824_b65634 nin0))
          have E66667 := (Exa.keep (Exa.keep (Exa.keep u53309 K65634) K65642) K65643)
          obtain ⟨_, T65644, L65644, X65644, ⟨rfl, N65644q, u66665, u66666⟩, st65644⟩ := own_callV X65643 hx hZ (y := Y20) (W := 0) (a := b25766) (argsL := [(.ref b65634), (.int (4 : Int32)), (.long (v0_258bbb q1))]) (rest := []) hown (hw _ (wm 154 rfl)) (hw _ (wm 155 rfl)) (hw _ (wm 157 rfl)) (hw _ (wm 156 rfl)) (hw _ (wm 96 rfl)) (hw _ (wm 158 rfl)) (by decide) E66667 (rm20s65 l Z a0 hw [] q1 q2 q3 b25766 b27787 b27802 b27824 b65634 h65643 n0 Z65643 F66659 F66660 F66661 A66662 A66663 A66664 B65643 g_b65634) (by decide) (by decide) (by decide) (by decide) e65643 (g := (mkF m 284 (La0_70 p0 q1 q2 q3 b1 b25766 b65634) [(.long (v0_258bbb q1)), (.int (4 : Int32)), (.ref b65634), (.ref b25766)])) rfl (by rw [hml]; rfl) pd_12 rfl rfl (by show 2 * 0 + _ ≤ _; exact Nat.le_of_eq rfl) (hb hby at_284)
          have N65644 := Fr.app N65643 N65644q
          obtain ⟨h65644, e65644⟩ : ∃ z, T65644.heap = z := ⟨_, rfl⟩
          rw [e65644] at u66665 u66666
          have K65644 := u66665
          have Z65644 := Nat.le_trans Z65643 K65644.1
          refine ostW (mkF m 287 (La0_70 p0 q1 q2 q3 b1 b25766 b65634) []) X65644 (fun t k => st65644 _ k) ?_
          refine ostW (mkF m 289 (La0_70 p0 q1 q2 q3 b1 b25766 b65634) [(.int (1 : Int32))]) X65644 (fun t k => XS.iload X65644.here hx rfl (hb hby at_287) rfl k) ?_
          refine ostW (mkF m 296 (La0_70 p0 q1 q2 q3 b1 b25766 b65634) []) X65644 (fun t k => XS.ifYes X65644.here hx rfl (pc0 := 289) (pc' := 296) rfl (hb hby at_289) rfl ((if0 _ _).trans (feq (show ¬ ((1 : Int32) = (0 : Int32)) by first | decide | exact Int32.lt_irrefl _ | exact Int64.lt_irrefl _)).2) (by decide) (by decide) k) ?_
          refine ostW (mkF m 298 (La0_70 p0 q1 q2 q3 b1 b25766 b65634) [(.long q3)]) X65644 (fun t k => XT.lload X65644.here hx rfl (hb hby at_296) rfl k) ?_
          refine ostW (mkF m 300 (La0_71 p0 q1 q2 q3 b1 b25766 b65634) []) X65644 (fun t k => XT.lstore X65644.here hx rfl (hb hby at_298) rfl (l' := (La0_71 p0 q1 q2 q3 b1 b25766 b65634)) rfl k) ?_
          refine ostW (mkF m 302 (La0_71 p0 q1 q2 q3 b1 b25766 b65634) [(.ref b65634)]) X65644 (fun t k => XS.aload X65644.here hx rfl (hb hby at_300) rfl rfl k) ?_
          refine ostW (mkF m 304 (La0_71 p0 q1 q2 q3 b1 b25766 b65634) [(.int (1 : Int32)), (.ref b65634)]) X65644 (fun t k => XS.iload X65644.here hx rfl (hb hby at_302) rfl k) ?_
          refine ostW (mkF m 305 (La0_71 p0 q1 q2 q3 b1 b25766 b65634) [(.long ((q3 &&& ((32505856 : Int64) ^^^ (-1 : Int64))) ||| ((v0_258bbb q1) <<< ((20 : Int32).toInt64 &&& 63))))]) X65644 (fun t k => own_ldJ X65644 hx hZ e65644 u66666 (by decide) rfl (g := (mkF m 304 (La0_71 p0 q1 q2 q3 b1 b25766 b65634) [(.int (1 : Int32)), (.ref b65634)])) rfl rfl (hb hby at_304) _ k) ?_
          refine ostW (mkF m 307 (La0_72 p0 q1 q2 q3 b1 b25766 b65634) []) X65644 (fun t k => XT.lstore X65644.here hx rfl (hb hby at_305) rfl (l' := (La0_72 p0 q1 q2 q3 b1 b25766 b65634)) rfl k) ?_
          refine ostW (mkF m 309 (La0_72 p0 q1 q2 q3 b1 b25766 b65634) [(.int (1 : Int32))]) X65644 (fun t k => XS.iload X65644.here hx rfl (hb hby at_307) rfl k) ?_
          refine ostW (mkF m 319 (La0_72 p0 q1 q2 q3 b1 b25766 b65634) []) X65644 (fun t k => XS.ifYes X65644.here hx rfl (pc0 := 309) (pc' := 319) rfl (hb hby at_309) rfl ((if0 _ _).trans (feq (show ¬ ((1 : Int32) = (0 : Int32)) by first | decide | exact Int32.lt_irrefl _ | exact Int64.lt_irrefl _)).2) (by decide) (by decide) k) ?_
          refine ostW (mkF m 321 (La0_72 p0 q1 q2 q3 b1 b25766 b65634) [(.ref b65634)]) X65644 (fun t k => XS.aload X65644.here hx rfl (hb hby at_319) rfl rfl k) ?_
          refine ostW (mkF m 322 (La0_72 p0 q1 q2 q3 b1 b25766 b65634) [(.int (0 : Int32)), (.ref b65634)]) X65644 (fun t k => XS.iconst X65644.here hx rfl (hb hby at_321) k) ?_
          refine ostW (mkF m 323 (La0_72 p0 q1 q2 q3 b1 b25766 b65634) [(.long q2)]) X65644 (fun t k => own_ldJ X65644 hx hZ e65644 u66666 (by decide) rfl (g := (mkF m 322 (La0_72 p0 q1 q2 q3 b1 b25766 b65634) [(.int (0 : Int32)), (.ref b65634)])) rfl rfl (hb hby at_322) _ k) ?_
          refine ostW (mkF m 325 (La0_73 p0 q1 q2 q3 b1 b25766 b65634) []) X65644 (fun t k => XT.lstore X65644.here hx rfl (hb hby at_323) rfl (l' := (La0_73 p0 q1 q2 q3 b1 b25766 b65634)) rfl k) ?_
          refine ostW (mkF m 327 (La0_73 p0 q1 q2 q3 b1 b25766 b65634) [(.int (1 : Int32))]) X65644 (fun t k => XS.iload X65644.here hx rfl (hb hby at_325) rfl k) ?_
          refine ostW (mkF m 335 (La0_73 p0 q1 q2 q3 b1 b25766 b65634) []) X65644 (fun t k => XS.ifYes X65644.here hx rfl (pc0 := 327) (pc' := 335) rfl (hb hby at_327) rfl ((if0 _ _).trans (feq (show ¬ ((1 : Int32) = (0 : Int32)) by first | decide | exact Int32.lt_irrefl _ | exact Int64.lt_irrefl _)).2) (by decide) (by decide) k) ?_
          refine ostW (mkF m 336 (La0_73 p0 q1 q2 q3 b1 b25766 b65634) [(.long q2)]) X65644 (fun t k => XT.lloadN X65644.here hx rfl (hb hby at_335) rfl k) ?_
          refine ostW (mkF m 338 (La0_74 p0 q1 q2 q3 b1 b25766 b65634) []) X65644 (fun t k => XT.lstore X65644.here hx rfl (hb hby at_336) rfl (l' := (La0_74 p0 q1 q2 q3 b1 b25766 b65634)) rfl k) ?_
          refine ostW (mkF m 340 (La0_74 p0 q1 q2 q3 b1 b25766 b65634) [(.long (31 : Int64))]) X65644 (fun t k => XT.lload X65644.here hx rfl (hb hby at_338) rfl k) ?_
          refine ostW (mkF m 342 (La0_74 p0 q1 q2 q3 b1 b25766 b65634) [(.int (20 : Int32)), (.long (31 : Int64))]) X65644 (fun t k => XS.iload X65644.here hx rfl (hb hby at_340) rfl k) ?_
          refine ostW (mkF m 343 (La0_74 p0 q1 q2 q3 b1 b25766 b65634) [(.long (32505856 : Int64))]) X65644 (fun t k => XT.lshl X65644.here hx rfl (hb hby at_342) rfl k) ?_
          refine ostW (mkF m 345 (La0_75 p0 q1 q2 q3 b1 b25766 b65634) []) X65644 (fun t k => XT.lstore X65644.here hx rfl (hb hby at_343) rfl (l' := (La0_75 p0 q1 q2 q3 b1 b25766 b65634)) rfl k) ?_
          refine ostW (mkF m 347 (La0_75 p0 q1 q2 q3 b1 b25766 b65634) [(.long (v0_305bbbb q3 q1))]) X65644 (fun t k => XT.lload X65644.here hx rfl (hb hby at_345) rfl k) ?_
          refine ostW (mkF m 349 (La0_75 p0 q1 q2 q3 b1 b25766 b65634) [(.long q3), (.long (v0_305bbbb q3 q1))]) X65644 (fun t k => XT.lload X65644.here hx rfl (hb hby at_347) rfl k) ?_
          refine ostW (mkF m 350 (La0_75 p0 q1 q2 q3 b1 b25766 b65634) [(.long ((v0_305bbbb q3 q1) ^^^ q3))]) X65644 (fun t k => XT.lxor X65644.here hx rfl (hb hby at_349) rfl k) ?_
          refine ostW (mkF m 352 (La0_75 p0 q1 q2 q3 b1 b25766 b65634) [(.long (32505856 : Int64)), (.long ((v0_305bbbb q3 q1) ^^^ q3))]) X65644 (fun t k => XT.lload X65644.here hx rfl (hb hby at_350) rfl k) ?_
          refine ostW (mkF m 355 (La0_75 p0 q1 q2 q3 b1 b25766 b65634) [(.long (-1 : Int64)), (.long (32505856 : Int64)), (.long ((v0_305bbbb q3 q1) ^^^ q3))]) X65644 (fun t k => X65644.ldc2Long hx hown (mvT hZ (hw _ (wm 160 rfl))) (g := (mkF m 352 (La0_75 p0 q1 q2 q3 b1 b25766 b65634) [(.long (32505856 : Int64)), (.long ((v0_305bbbb q3 q1) ^^^ q3))])) rfl (hb hby at_352) _ k) ?_
          refine ostW (mkF m 356 (La0_75 p0 q1 q2 q3 b1 b25766 b65634) [(.long ((32505856 : Int64) ^^^ (-1 : Int64))), (.long ((v0_305bbbb q3 q1) ^^^ q3))]) X65644 (fun t k => XT.lxor X65644.here hx rfl (hb hby at_355) rfl k) ?_
          refine ostW (mkF m 357 (La0_75 p0 q1 q2 q3 b1 b25766 b65634) [(.long (((v0_305bbbb q3 q1) ^^^ q3) &&& ((32505856 : Int64) ^^^ (-1 : Int64))))]) X65644 (fun t k => XT.land X65644.here hx rfl (hb hby at_356) rfl k) ?_
          refine ostW (mkF m 358 (La0_75 p0 q1 q2 q3 b1 b25766 b65634) [(.long (0 : Int64)), (.long (((v0_305bbbb q3 q1) ^^^ q3) &&& ((32505856 : Int64) ^^^ (-1 : Int64))))]) X65644 (fun t k => XT.lconst X65644.here hx rfl (hb hby at_357) k) ?_
          refine ostW (mkF m 359 (La0_75 p0 q1 q2 q3 b1 b25766 b65634) [(.int (XT.cmpL (((v0_305bbbb q3 q1) ^^^ q3) &&& ((32505856 : Int64) ^^^ (-1 : Int64))) (0 : Int64)))]) X65644 (fun t k => XT.lcmp X65644.here hx rfl (hb hby at_358) rfl k) ?_
          refine ostW (mkF m 375 #[.val (.int p0), .val (.long q1), .second, .val (.long q2), .second, .val (.long q3), .second, .val (.ref b1), .val (.ref b25766), .val (.int (4 : Int32)), .val (.long (32 : Int64)), .second, .val (.int (1 : Int32)), .val (.int (20 : Int32)), .val (.long (31 : Int64)), .second, .val (.long (v0_258bbb q1)), .second, .val (.ref b65634), .val (.long q3), .second, .val (.long (v0_305bbbb q3 q1)), .second, .val (.long q2), .second, .val (.long q2), .second, .val (.long (32505856 : Int64)), .second, .unset, .unset, .unset] [(.int (v0_375bbbb q3 q1))]) X65644 (fun t k => ?_) ?_
          · show Steps p.tables e below (T65644.setTop (mkF m 359 (La0_75 p0 q1 q2 q3 b1 b25766 b65634) [(.int (XT.cmpL (((v0_305bbbb q3 q1) ^^^ q3) &&& ((32505856 : Int64) ^^^ (-1 : Int64))) (0 : Int64)))])) t
            by_cases hc66668 : (((v0_305bbbb q3 q1) ^^^ q3) &&& ((32505856 : Int64) ^^^ (-1 : Int64))) = (0 : Int64)
            · skip
              refine XS.ifNo X65644.here hx rfl (hb hby at_359) rfl ((if0 _ _).trans (teq ((cl_eq _ _).mpr hc66668)).2) ?_
              show Steps p.tables e below (T65644.setTop (mkF m 362 (La0_75 p0 q1 q2 q3 b1 b25766 b65634) [])) t
              refine XT.lload X65644.here hx rfl (hb hby at_362) rfl ?_
              show Steps p.tables e below (T65644.setTop (mkF m 364 (La0_75 p0 q1 q2 q3 b1 b25766 b65634) [(.long q2)])) t
              refine XT.lload X65644.here hx rfl (hb hby at_364) rfl ?_
              show Steps p.tables e below (T65644.setTop (mkF m 366 (La0_75 p0 q1 q2 q3 b1 b25766 b65634) [(.long q2), (.long q2)])) t
              refine XT.lcmp X65644.here hx rfl (hb hby at_366) rfl ?_
              show Steps p.tables e below (T65644.setTop (mkF m 367 (La0_75 p0 q1 q2 q3 b1 b25766 b65634) [(.int (XT.cmpL q2 q2))])) t
              refine XS.ifNo X65644.here hx rfl (hb hby at_367) rfl ((if0 _ _).trans (teq ((cl_eq _ _).mpr (show q2 = q2 by first | rfl | decide))).2) ?_
              show Steps p.tables e below (T65644.setTop (mkF m 370 (La0_75 p0 q1 q2 q3 b1 b25766 b65634) [])) t
              refine XS.iconst X65644.here hx rfl (hb hby at_370) ?_
              show Steps p.tables e below (T65644.setTop (mkF m 371 (La0_75 p0 q1 q2 q3 b1 b25766 b65634) [(.int (1 : Int32))])) t
              refine XS.goto X65644.here hx rfl (pc0 := 371) (pc' := 375) rfl (hb hby at_371) (by decide) (by decide) ?_
              show Steps p.tables e below (T65644.setTop (mkF m 375 (La0_75 p0 q1 q2 q3 b1 b25766 b65634) [(.int (1 : Int32))])) t
              have qq66669 : (v0_375bbbb q3 q1) = (1 : Int32) := by
                show (if (((v0_305bbbb q3 q1) ^^^ q3) &&& ((32505856 : Int64) ^^^ (-1 : Int64))) = (0 : Int64) then (1 : Int32) else (0 : Int32)) = (1 : Int32)
                simp only [if_pos hc66668]
              rw [qq66669] at k
              exact k
            · skip
              refine XS.ifYes X65644.here hx rfl (pc0 := 359) (pc' := 374) rfl (hb hby at_359) rfl ((if0 _ _).trans (feq (fun q => hc66668 ((cl_eq _ _).mp q))).2) (by decide) (by decide) ?_
              show Steps p.tables e below (T65644.setTop (mkF m 374 (La0_75 p0 q1 q2 q3 b1 b25766 b65634) [])) t
              refine XS.iconst X65644.here hx rfl (hb hby at_374) ?_
              show Steps p.tables e below (T65644.setTop (mkF m 375 (La0_75 p0 q1 q2 q3 b1 b25766 b65634) [(.int (0 : Int32))])) t
              have qq66670 : (v0_375bbbb q3 q1) = (0 : Int32) := by
                show (if (((v0_305bbbb q3 q1) ^^^ q3) &&& ((32505856 : Int64) ^^^ (-1 : Int64))) = (0 : Int64) then (1 : Int32) else (0 : Int32)) = (0 : Int32)
                simp only [if_neg hc66668]
              rw [qq66670] at k
              exact k
          refine ostW (mkF m 377 (La0_76 p0 q1 q2 q3 b1 b25766 b65634) []) X65644 (fun t k => XS.istore X65644.here hx rfl (hb hby at_375) rfl (l' := (La0_76 p0 q1 q2 q3 b1 b25766 b65634)) rfl k) ?_
          refine ostW (mkF m 379 (La0_76 p0 q1 q2 q3 b1 b25766 b65634) [(.long (v0_305bbbb q3 q1))]) X65644 (fun t k => XT.lload X65644.here hx rfl (hb hby at_377) rfl k) ?_
          refine ostW (mkF m 381 (La0_76 p0 q1 q2 q3 b1 b25766 b65634) [(.int (20 : Int32)), (.long (v0_305bbbb q3 q1))]) X65644 (fun t k => XS.iload X65644.here hx rfl (hb hby at_379) rfl k) ?_
          refine ostW (mkF m 382 (La0_76 p0 q1 q2 q3 b1 b25766 b65634) [(.long (XT.ushrL (v0_305bbbb q3 q1) (20 : Int32)))]) X65644 (fun t k => XT.lushr X65644.here hx rfl (hb hby at_381) rfl k) ?_
          refine ostW (mkF m 384 (La0_76 p0 q1 q2 q3 b1 b25766 b65634) [(.long (31 : Int64)), (.long (XT.ushrL (v0_305bbbb q3 q1) (20 : Int32)))]) X65644 (fun t k => XT.lload X65644.here hx rfl (hb hby at_382) rfl k) ?_
          refine ostW (mkF m 385 (La0_76 p0 q1 q2 q3 b1 b25766 b65634) [(.long ((XT.ushrL (v0_305bbbb q3 q1) (20 : Int32)) &&& (31 : Int64)))]) X65644 (fun t k => XT.land X65644.here hx rfl (hb hby at_384) rfl k) ?_
          refine ostW (mkF m 387 (La0_76 p0 q1 q2 q3 b1 b25766 b65634) [(.long (v0_258bbb q1)), (.long ((XT.ushrL (v0_305bbbb q3 q1) (20 : Int32)) &&& (31 : Int64)))]) X65644 (fun t k => XT.lload X65644.here hx rfl (hb hby at_385) rfl k) ?_
          refine ostW (mkF m 388 (La0_76 p0 q1 q2 q3 b1 b25766 b65634) [(.int (XT.cmpL ((XT.ushrL (v0_305bbbb q3 q1) (20 : Int32)) &&& (31 : Int64)) (v0_258bbb q1)))]) X65644 (fun t k => XT.lcmp X65644.here hx rfl (hb hby at_387) rfl k) ?_
          refine ostW (mkF m 396 #[.val (.int p0), .val (.long q1), .second, .val (.long q2), .second, .val (.long q3), .second, .val (.ref b1), .val (.ref b25766), .val (.int (4 : Int32)), .val (.long (32 : Int64)), .second, .val (.int (1 : Int32)), .val (.int (20 : Int32)), .val (.long (31 : Int64)), .second, .val (.long (v0_258bbb q1)), .second, .val (.ref b65634), .val (.long q3), .second, .val (.long (v0_305bbbb q3 q1)), .second, .val (.long q2), .second, .val (.long q2), .second, .val (.long (32505856 : Int64)), .second, .val (.int (v0_375bbbb q3 q1)), .unset, .unset] [(.int (v0_396bbbb q3 q1))]) X65644 (fun t k => ?_) ?_
          · show Steps p.tables e below (T65644.setTop (mkF m 388 (La0_76 p0 q1 q2 q3 b1 b25766 b65634) [(.int (XT.cmpL ((XT.ushrL (v0_305bbbb q3 q1) (20 : Int32)) &&& (31 : Int64)) (v0_258bbb q1)))])) t
            by_cases hc66671 : ((XT.ushrL (v0_305bbbb q3 q1) (20 : Int32)) &&& (31 : Int64)) = (v0_258bbb q1)
            · skip
              refine XS.ifNo X65644.here hx rfl (hb hby at_388) rfl ((if0 _ _).trans (teq ((cl_eq _ _).mpr hc66671)).2) ?_
              show Steps p.tables e below (T65644.setTop (mkF m 391 (La0_76 p0 q1 q2 q3 b1 b25766 b65634) [])) t
              refine XS.iconst X65644.here hx rfl (hb hby at_391) ?_
              show Steps p.tables e below (T65644.setTop (mkF m 392 (La0_76 p0 q1 q2 q3 b1 b25766 b65634) [(.int (1 : Int32))])) t
              refine XS.goto X65644.here hx rfl (pc0 := 392) (pc' := 396) rfl (hb hby at_392) (by decide) (by decide) ?_
              show Steps p.tables e below (T65644.setTop (mkF m 396 (La0_76 p0 q1 q2 q3 b1 b25766 b65634) [(.int (1 : Int32))])) t
              have qq66672 : (v0_396bbbb q3 q1) = (1 : Int32) := by
                show (if ((XT.ushrL (v0_305bbbb q3 q1) (20 : Int32)) &&& (31 : Int64)) = (v0_258bbb q1) then (1 : Int32) else (0 : Int32)) = (1 : Int32)
                simp only [if_pos hc66671]
              rw [qq66672] at k
              exact k
            · skip
              refine XS.ifYes X65644.here hx rfl (pc0 := 388) (pc' := 395) rfl (hb hby at_388) rfl ((if0 _ _).trans (feq (fun q => hc66671 ((cl_eq _ _).mp q))).2) (by decide) (by decide) ?_
              show Steps p.tables e below (T65644.setTop (mkF m 395 (La0_76 p0 q1 q2 q3 b1 b25766 b65634) [])) t
              refine XS.iconst X65644.here hx rfl (hb hby at_395) ?_
              show Steps p.tables e below (T65644.setTop (mkF m 396 (La0_76 p0 q1 q2 q3 b1 b25766 b65634) [(.int (0 : Int32))])) t
              have qq66673 : (v0_396bbbb q3 q1) = (0 : Int32) := by
                show (if ((XT.ushrL (v0_305bbbb q3 q1) (20 : Int32)) &&& (31 : Int64)) = (v0_258bbb q1) then (1 : Int32) else (0 : Int32)) = (0 : Int32)
                simp only [if_neg hc66671]
              rw [qq66673] at k
              exact k
          refine ostW (mkF m 398 (La0_77 p0 q1 q2 q3 b1 b25766 b65634) []) X65644 (fun t k => XS.istore X65644.here hx rfl (hb hby at_396) rfl (l' := (La0_77 p0 q1 q2 q3 b1 b25766 b65634)) rfl k) ?_
          refine ostW (mkF m 400 (La0_77 p0 q1 q2 q3 b1 b25766 b65634) [(.ref b25766)]) X65644 (fun t k => XS.aload X65644.here hx rfl (hb hby at_398) rfl rfl k) ?_
          refine ostW (mkF m 402 (La0_77 p0 q1 q2 q3 b1 b25766 b65634) [(.ref b65634), (.ref b25766)]) X65644 (fun t k => XS.aload X65644.here hx rfl (hb hby at_400) rfl rfl k) ?_
          refine ostW (mkF m 404 (La0_77 p0 q1 q2 q3 b1 b25766 b65634) [(.int (4 : Int32)), (.ref b65634), (.ref b25766)]) X65644 (fun t k => XS.iload X65644.here hx rfl (hb hby at_402) rfl k) ?_
          have E68700 := (Exa.keep E66667 K65644)
          have F68701 := (F66659.keep K65644 (ninS ne_b25766_b65634 nin0))
          have F68702 := (F66660.keep K65644 (ninS ne_b25766_b65634 nin0))
          have F68703 := (F66661.keep K65644 (ninS ne_b25766_b65634 nin0))
          have A68704 := (A66662.keep K65644 (ninS ne_b27787_b65634 nin0))
          have A68705 := (A66663.keep K65644 (ninS ne_b27802_b65634 nin0))
          have A68706 := (A66664.keep K65644 (ninS ne_b27824_b65634 nin0))
          obtain ⟨_, T66674, L66674, X66674, ⟨rfl, N66674q, u68707⟩, st66674⟩ := own_callV X65644 hx hZ (y := Y22) (W := 0) (a := b25766) (argsL := [(.ref b65634), (.int (4 : Int32))]) (rest := []) hown (hw _ (wm 161 rfl)) (hw _ (wm 162 rfl)) (hw _ (wm 164 rfl)) (hw _ (wm 163 rfl)) (hw _ (wm 96 rfl)) (hw _ (wm 165 rfl)) (by decide) E68700 (rm21s66 l Z a0 hw [] q2 q3 q1 b25766 b27787 b27802 b27824 b65634 h65644 n0 Z65644 E68700 F68701 F68702 F68703 A68704 A68705 A68706 u66666) (by decide) (by decide) (by decide) (by decide) e65644 (g := (mkF m 404 (La0_77 p0 q1 q2 q3 b1 b25766 b65634) [(.int (4 : Int32)), (.ref b65634), (.ref b25766)])) rfl (by rw [hml]; rfl) pd_14 rfl rfl (by show 2 * 0 + _ ≤ _; exact Nat.le_of_eq rfl) (hb hby at_404)
          have N66674 := Fr.app N65644 N66674q
          refine ostW (mkF m 407 (La0_77 p0 q1 q2 q3 b1 b25766 b65634) [(.int (((XT.ushrL ((q3 &&& ((32505856 : Int64) ^^^ (-1 : Int64))) ||| ((v0_258bbb q1) <<< ((20 : Int32).toInt64 &&& 63))) (20 : Int32)) &&& (31 : Int64)).toInt32))]) X66674 (fun t k => st66674 _ k) ?_
          refine ostW (mkF m 408 (La0_77 p0 q1 q2 q3 b1 b25766 b65634) [(.long ((((XT.ushrL ((q3 &&& ((32505856 : Int64) ^^^ (-1 : Int64))) ||| ((v0_258bbb q1) <<< ((20 : Int32).toInt64 &&& 63))) (20 : Int32)) &&& (31 : Int64)).toInt32).toInt64))]) X66674 (fun t k => XT.i2l X66674.here hx rfl (hb hby at_407) rfl k) ?_
          refine ostW (mkF m 410 (La0_77 p0 q1 q2 q3 b1 b25766 b65634) [(.long (v0_258bbb q1)), (.long ((((XT.ushrL ((q3 &&& ((32505856 : Int64) ^^^ (-1 : Int64))) ||| ((v0_258bbb q1) <<< ((20 : Int32).toInt64 &&& 63))) (20 : Int32)) &&& (31 : Int64)).toInt32).toInt64))]) X66674 (fun t k => XT.lload X66674.here hx rfl (hb hby at_408) rfl k) ?_
          refine ostW (mkF m 411 (La0_77 p0 q1 q2 q3 b1 b25766 b65634) [(.int (XT.cmpL ((((XT.ushrL ((q3 &&& ((32505856 : Int64) ^^^ (-1 : Int64))) ||| ((v0_258bbb q1) <<< ((20 : Int32).toInt64 &&& 63))) (20 : Int32)) &&& (31 : Int64)).toInt32).toInt64) (v0_258bbb q1)))]) X66674 (fun t k => XT.lcmp X66674.here hx rfl (hb hby at_410) rfl k) ?_
          refine ostW (mkF m 419 #[.val (.int p0), .val (.long q1), .second, .val (.long q2), .second, .val (.long q3), .second, .val (.ref b1), .val (.ref b25766), .val (.int (4 : Int32)), .val (.long (32 : Int64)), .second, .val (.int (1 : Int32)), .val (.int (20 : Int32)), .val (.long (31 : Int64)), .second, .val (.long (v0_258bbb q1)), .second, .val (.ref b65634), .val (.long q3), .second, .val (.long (v0_305bbbb q3 q1)), .second, .val (.long q2), .second, .val (.long q2), .second, .val (.long (32505856 : Int64)), .second, .val (.int (v0_375bbbb q3 q1)), .val (.int (v0_396bbbb q3 q1)), .unset] [(.int (v0_419bbbb q3 q1))]) X66674 (fun t k => ?_) ?_
          · show Steps p.tables e below (T66674.setTop (mkF m 411 (La0_77 p0 q1 q2 q3 b1 b25766 b65634) [(.int (XT.cmpL ((((XT.ushrL ((q3 &&& ((32505856 : Int64) ^^^ (-1 : Int64))) ||| ((v0_258bbb q1) <<< ((20 : Int32).toInt64 &&& 63))) (20 : Int32)) &&& (31 : Int64)).toInt32).toInt64) (v0_258bbb q1)))])) t
            by_cases hc68708 : ((((XT.ushrL ((q3 &&& ((32505856 : Int64) ^^^ (-1 : Int64))) ||| ((v0_258bbb q1) <<< ((20 : Int32).toInt64 &&& 63))) (20 : Int32)) &&& (31 : Int64)).toInt32).toInt64) = (v0_258bbb q1)
            · skip
              refine XS.ifNo X66674.here hx rfl (hb hby at_411) rfl ((if0 _ _).trans (teq ((cl_eq _ _).mpr hc68708)).2) ?_
              show Steps p.tables e below (T66674.setTop (mkF m 414 (La0_77 p0 q1 q2 q3 b1 b25766 b65634) [])) t
              refine XS.iconst X66674.here hx rfl (hb hby at_414) ?_
              show Steps p.tables e below (T66674.setTop (mkF m 415 (La0_77 p0 q1 q2 q3 b1 b25766 b65634) [(.int (1 : Int32))])) t
              refine XS.goto X66674.here hx rfl (pc0 := 415) (pc' := 419) rfl (hb hby at_415) (by decide) (by decide) ?_
              show Steps p.tables e below (T66674.setTop (mkF m 419 (La0_77 p0 q1 q2 q3 b1 b25766 b65634) [(.int (1 : Int32))])) t
              have qq68709 : (v0_419bbbb q3 q1) = (1 : Int32) := by
                show (if ((((XT.ushrL ((q3 &&& ((32505856 : Int64) ^^^ (-1 : Int64))) ||| ((v0_258bbb q1) <<< ((20 : Int32).toInt64 &&& 63))) (20 : Int32)) &&& (31 : Int64)).toInt32).toInt64) = (v0_258bbb q1) then (1 : Int32) else (0 : Int32)) = (1 : Int32)
                simp only [if_pos hc68708]
              rw [qq68709] at k
              exact k
            · skip
              refine XS.ifYes X66674.here hx rfl (pc0 := 411) (pc' := 418) rfl (hb hby at_411) rfl ((if0 _ _).trans (feq (fun q => hc68708 ((cl_eq _ _).mp q))).2) (by decide) (by decide) ?_
              show Steps p.tables e below (T66674.setTop (mkF m 418 (La0_77 p0 q1 q2 q3 b1 b25766 b65634) [])) t
              refine XS.iconst X66674.here hx rfl (hb hby at_418) ?_
              show Steps p.tables e below (T66674.setTop (mkF m 419 (La0_77 p0 q1 q2 q3 b1 b25766 b65634) [(.int (0 : Int32))])) t
              have qq68710 : (v0_419bbbb q3 q1) = (0 : Int32) := by
                show (if ((((XT.ushrL ((q3 &&& ((32505856 : Int64) ^^^ (-1 : Int64))) ||| ((v0_258bbb q1) <<< ((20 : Int32).toInt64 &&& 63))) (20 : Int32)) &&& (31 : Int64)).toInt32).toInt64) = (v0_258bbb q1) then (1 : Int32) else (0 : Int32)) = (0 : Int32)
                simp only [if_neg hc68708]
              rw [qq68710] at k
              exact k
          refine ostW (mkF m 421 (La0_78 p0 q1 q2 q3 b1 b25766 b65634) []) X66674 (fun t k => XS.istore X66674.here hx rfl (hb hby at_419) rfl (l' := (La0_78 p0 q1 q2 q3 b1 b25766 b65634)) rfl k) ?_
          refine ostW (mkF m 423 (La0_78 p0 q1 q2 q3 b1 b25766 b65634) [(.int (v0_375bbbb q3 q1))]) X66674 (fun t k => XS.iload X66674.here hx rfl (hb hby at_421) rfl k) ?_
          refine ostW (mkF m 426 (La0_78 p0 q1 q2 q3 b1 b25766 b65634) []) X66674 (fun t k => XS.ifNo X66674.here hx rfl (hb hby at_423) rfl ((if0 _ _).trans (feq (br0_423bbbb q3 q1 p0 hb134 hb159 hb185 hb211)).1) k) ?_
          refine ostW (mkF m 428 (La0_78 p0 q1 q2 q3 b1 b25766 b65634) [(.int (v0_396bbbb q3 q1))]) X66674 (fun t k => XS.iload X66674.here hx rfl (hb hby at_426) rfl k) ?_
          refine ostW (mkF m 431 (La0_78 p0 q1 q2 q3 b1 b25766 b65634) []) X66674 (fun t k => XS.ifNo X66674.here hx rfl (hb hby at_428) rfl ((if0 _ _).trans (feq (br0_428bbbb q3 q1 p0 hb134 hb159 hb185 hb211)).1) k) ?_
          refine ostW (mkF m 433 (La0_78 p0 q1 q2 q3 b1 b25766 b65634) [(.int (v0_419bbbb q3 q1))]) X66674 (fun t k => XS.iload X66674.here hx rfl (hb hby at_431) rfl k) ?_
          refine ostW (mkF m 436 (La0_78 p0 q1 q2 q3 b1 b25766 b65634) []) X66674 (fun t k => XS.ifNo X66674.here hx rfl (hb hby at_433) rfl ((if0 _ _).trans (feq (br0_433bbbb q3 q1 p0 hb134 hb159 hb185 hb211)).1) k) ?_
          refine ostW (mkF m 437 (La0_78 p0 q1 q2 q3 b1 b25766 b65634) [(.int (1 : Int32))]) X66674 (fun t k => XS.iconst X66674.here hx rfl (hb hby at_436) k) ?_
          refine ostW (mkF m 441 (La0_78 p0 q1 q2 q3 b1 b25766 b65634) [(.int (1 : Int32))]) X66674 (fun t k => XS.goto X66674.here hx rfl (pc0 := 437) (pc' := 441) rfl (hb hby at_437) (by decide) (by decide) k) ?_
          have hSk := (Nat.le_trans (Nat.le_trans (Nat.le_trans (Nat.le_trans (Nat.le_trans (Nat.le_trans (Nat.le_trans (Nat.le_trans hSk K21641.1) K23708.1) K25766.1) K25772.1) K65634.1) K65642.1) K65643.1) K65644.1)
          refine OwnFinW.retNar (vm := T21640.vm) X66674 hSn (by rw [u68707]; exact hSk) (by simp) (hb hby at_441) (by decide) (by decide) ?_
          exact ⟨rfl, N66674⟩
set_option maxRecDepth 65536 in
set_option maxHeartbeats 40000000 in
theorem rm0 (l : Launch) (Z : State) (a0 : Array Value) (hw : ∀ d ∈ tables_1, d.before a0 Z = true) (ws : List Jvm.Cond) (p0 : Int32) (q1 : Int64) (q2 : Int64) (q3 : Int64) (eE : Addr) (h0 : Heap) (n0 : Nat) (Z0 : n0 ≤ h0.size) (O_E : Sta Z Z.heap "java/util/ArrayList" "DEFAULTCAPACITY_EMPTY_ELEMENTDATA" "[Ljava/lang/Object;" (.ref eE)) (OA_E : Ary Z Z.heap eE (.object "java/lang/Object") 0 (fun _ => .null)) (Old0 : Old Z n0 h0) :
    MetFree l x (head1 (Jvm.Cond.code x code maxLocals ret :: ws) room_1) (fun a U => a = #[(.int p0), (.long q1), (.long q2), (.long q3)] ∧ Z.Warmed39 U.vm ∧ U.heap = h0) (fun _ _ _ _ _ => True) (fun _ U o U' => ∃ v L, o = .returned v ∧ (LQ n0) v U'.heap L ∧ ReturnedEndW U o U' L room_1.cells room_1.slots) :=
  own_metW (ret := ret) (Q := (LQ n0)) (plainFor_of_name pn_0) (fun m => ef_0 m p0 q1 q2 q3) (fun p e s m below meth c s₁ X hx hby hml hown hnm hZ e0 => j0 X hx hZ hw hby hml hown hnm e0 (Fr.nil n0) Z0 p0 q1 q2 q3 eE O_E OA_E Old0)
set_option maxRecDepth 65536 in
set_option maxHeartbeats 40000000 in
theorem comes_1 {Post : Tables → Env → Array Value → State → Outcome → State → Prop} (hpost : ∀ tb e args s v u, (limb_1_1.after args s (.returned v) u = true ∧ limb_1_2.after args s (.returned v) u = true ∧ True) → ReturnedEndW s (.returned v) u (Jvm.fieldLocs frame_1_writes args s ++ Jvm.arrayLocs frame_1_arrays args s ++ Jvm.staticLocs frame_1_statics s) 48 6400 → Post tb e args s (.returned v) u) :
    ArmFor flags0 classFile x code maxLocals ret World_1 tables_1 room_1 Calls_1 rest_1 Pre_1 Post := by
  intro l hfl _ _ p e ha hc hk s m args below hf hA hF happ hP
  obtain ⟨hcalls, hrest, hpre⟩ := hP
  obtain ⟨-, -, -, hnamed, -, -, -, hat⟩ := (Spec.applies_iff hf).mp happ
  obtain ⟨hg, hn⟩ := and_e (Cond.before_iff.mp (show (Jvm.Cond.and given_1 narrow_1).before args s = true from hpre))
  obtain ⟨g1, g2⟩ := and_e hg
  obtain ⟨g3, g4⟩ := and_e g2
  obtain ⟨g5, g6⟩ := and_e g4
  obtain ⟨g7, g8⟩ := and_e g6
  obtain ⟨w0, w1, w2, w3, rfl⟩ : ∃ w0 w1 w2 w3 : Value, args = #[w0, w1, w2, w3] := by
    have hs : args.size = 4 := by simpa [Cond.value, given_1] using g1
    obtain ⟨L⟩ := args
    match L, hs with
    | [w0, w1, w2, w3], _ => exact ⟨w0, w1, w2, w3, rfl⟩
  have hw := fun d (hd : d ∈ tables_1) => atoms_spec (ws := Jvm.Cond.code x code maxLocals ret :: tables_1) hat d (List.mem_cons_of_mem _ hd)
  obtain ⟨hsets, hown0⟩ := atoms_of _ (rest_1_c_eq ▸ (show rest_1_c.before _ s = true from hrest))
  obtain ⟨i0, ei0⟩ := is_v g3
  obtain rfl : w0 = (.int i0) := Option.some.inj ei0
  obtain ⟨i1, ei1⟩ := isL_v g5
  obtain rfl : w1 = (.long i1) := Option.some.inj ei1
  obtain ⟨i2, ei2⟩ := isL_v g7
  obtain rfl : w2 = (.long i2) := Option.some.inj ei2
  obtain ⟨i3, ei3⟩ := isL_v g8
  obtain rfl : w3 = (.long i3) := Option.some.inj ei3
  obtain ⟨eE, O_E, OA_E⟩ := own_empty (Cond.before_iff.mp (hsets _ (List.mem_of_getElem? (i := 6) rfl))) (Cond.before_iff.mp (hsets _ (List.mem_of_getElem? (i := 8) rfl))) (Or.inr ⟨(hw _ (wm 2 rfl)), (hsets _ (List.mem_of_getElem? (i := 2) rfl))⟩)
  obtain ⟨n, o, h1, h2, h3, _, L, rfl, ⟨rfl, N⟩, hq⟩ := rm0 l s _ hw tables_1 i0 i1 i2 i3 eE s.heap s.heap.size (Nat.le_refl _) O_E OA_E (Old.start s) p e ha hc hk s m _ below hf ((Spec.applies_iff_loose hf).mp happ).1 ⟨rfl, State.Warmed39.refl s, rfl⟩ trivial
  refine ⟨n, _, h1, h2, h3, hpost _ _ _ _ _ _ ⟨Cond.after_iff.mpr rfl, Cond.after_iff.mpr (eq_i res_at (Term.int_eval (1)) rfl), trivial⟩ ⟨hq.1, hq.2.1, hq.2.2.1, (hq.2.2.2.sift fun y hy => Or.inr (N y hy)).mono (by decide) (by decide)⟩⟩
theorem main_1_1 : Claimed_1_1 := comes_1 fun _ _ _ _ _ _ h hF => ⟨h.1, hF⟩
theorem main_1_2 : Claimed_1_2 := comes_1 fun _ _ _ _ _ _ h hF => ⟨h.2.1, hF⟩
end Jvm.Pilot.@@N@@
namespace Jvm.Pilot.@@N@@
open Jvm Jvm.ClassFile Sem Op Lib Jvm.Free Jvm.Stand Jvm.Pilot.@@N@@.Jvm.D
/-! MADE BY PROGRAM (witnessworld.py) out of the Statement's table words and the real class files: 32 classes; the members and pool entries that the words name. The judged class is class 1, her method 1. -/
namespace start1
open Jvm.ClassFile
def u (s : String) : CpInfo := .utf8 (stringToUtf16 s)
/-- a pool by its gaps: so many unusable entries, then the entry; so many at the end -/
def gap : Nat → List CpInfo → List CpInfo
  | 0, r => r
  | n + 1, r => .unusable :: gap n r
def poolList (es : List (Nat × CpInfo)) (last : Nat) : List CpInfo := es.foldr (fun e r => gap e.1 (e.2 :: r)) (gap last [])
def pool (es : List (Nat × CpInfo)) (last : Nat) : Array CpInfo := ⟨poolList es last⟩
def fileOf (pool : Array CpInfo) (this : Nat) (attrs : Array Attribute := #[]) (ms : Array MethodInfo := #[]) (fl : Nat := 33) (sup : Nat := 0) (ifs : Array Nat := #[]) (fds : Array FieldInfo := #[]) : ClassFile where
  minorVersion := 0
  majorVersion := 65
  constantPool := pool
  accessFlags := fl
  thisClass := this
  superClass := sup
  interfaces := ifs
  fields := fds
  methods := ms
  attributes := attrs
def plain (name : String) (sup : Option ClassId) : Class where
  name := name
  kind := .ordinary
  loader := none
  accessFlags := 33
  super := sup
  interfaces := #[]
  cf := none
  fields := #[]
  methods := #[]
  instanceTypes := #[]
  staticTypes := #[]
  resolved := #[]
  callSites := []
  init := .initialized
  statics := none
  mirror := none

def pool0 : Array CpInfo := pool [(5, u "<init>"), (0, u "()V"), (1, .class_ 10), (1, u "java/lang/Object")] 113

def k0c0 : Code := { maxStack := 0, maxLocals := 1, code := object_method_1_code, exceptionTable := #[], attributes := #[] }
def k0m0 : Method := { name := "<init>", desc := "()V", sig := { parameters := [], returnType := none }, accessFlags := 1, code := some k0c0 }
/-- java/lang/Object -/
def k0 : Class := { plain "java/lang/Object" none with
  accessFlags := 33
  interfaces := #[]
  cf := some (fileOf pool0 8 #[] #[{ accessFlags := 1, nameIndex := 5, descriptorIndex := 6, attributes := #[] }] 33 0 #[] #[])
  fields := #[]
  methods := #[k0m0]
  instanceTypes := #[]
  staticTypes := #[]
  resolved := Array.replicate 124 none
  statics := none }

def pool1 : Array CpInfo := pool [(2, .class_ 4), (0, .nameAndType 5 6), (0, u "java/lang/Object"), (0, u "<init>"), (0, u "()V"), (0, .class_ 8), (0, u "java/util/ArrayList"), (0, .methodref 7 3), (0, .class_ 11), (0, u "com/example/ken2/ken2/InterpretedSystem$Variable"), (0, .string 13), (0, u "A"), (0, .string 15), (0, u "a"), (0, .integer 2147483647), (0, .methodref 10 18), (0, .nameAndType 5 19), (0, u "(Ljava/lang/String;Ljava/lang/String;Ljava/util/List;II)V"), (0, .methodref 7 21), (0, .nameAndType 22 23), (0, u "add"), (0, u "(Ljava/lang/Object;)Z"), (0, .string 25), (0, u "b"), (0, .string 27), (0, u "c"), (0, .string 29), (0, u "d"), (0, .integer 1048576), (0, .string 32), (0, u "e"), (0, .class_ 34), (0, u "com/example/ken2/ken2/StateLayout"), (0, .methodref 33 36), (0, .nameAndType 5 37), (0, u "(Ljava/util/List;)V"), (0, .long 2147483647), (1, .long 4), (1, .long 3), (1, .long 1048576), (1, .long 1048575), (1, .long 32), (1, .long 31), (1, .methodref 33 53), (0, .nameAndType 54 55), (0, u "set"), (0, u "([JIJ)V"), (0, .long 18446744073709551615), (1, .methodref 33 59), (0, .nameAndType 60 61), (0, u "value"), (0, u "([JI)I"), (0, .class_ 63), (0, u "com/example/ken2/ken2/StateLayoutSetPinLaw"), (2, u "law"), (0, u "(IJJJ)Z")] 9

def k1m0 : Method := { name := "<init>", desc := "()V", sig := { parameters := [], returnType := none }, accessFlags := 1, code := none }
def k1c1 : Code := { maxStack := 8, maxLocals := 32, code := code, exceptionTable := #[], attributes := #[] }
def k1m1 : Method := { name := "law", desc := "(IJJJ)Z", sig := { parameters := [.int, .long, .long, .long], returnType := some .boolean }, accessFlags := 9, code := some k1c1 }
/-- com/example/ken2/ken2/StateLayoutSetPinLaw -/
def k1 : Class := { plain "com/example/ken2/ken2/StateLayoutSetPinLaw" (some 0) with
  accessFlags := 49
  interfaces := #[]
  cf := some (fileOf pool1 62 #[] #[{ accessFlags := 1, nameIndex := 5, descriptorIndex := 6, attributes := #[] }, { accessFlags := 9, nameIndex := 66, descriptorIndex := 67, attributes := #[] }] 49 2 #[] #[])
  fields := #[]
  methods := #[k1m0, k1m1]
  instanceTypes := #[]
  staticTypes := #[]
  resolved := Array.replicate 77 none
  statics := none }

def pool2 : Array CpInfo := pool [(8, .class_ 10), (1, u "java/lang/Iterable"), (24, .class_ 36), (0, u "java/lang/Object")] 25

/-- java/lang/Iterable -/
def k2 : Class := { plain "java/lang/Iterable" (some 0) with
  accessFlags := 1537
  interfaces := #[]
  cf := some (fileOf pool2 8 #[] #[] 1537 35 #[] #[])
  fields := #[]
  methods := #[]
  instanceTypes := #[]
  staticTypes := #[]
  resolved := Array.replicate 62 none
  statics := none }

def pool3 : Array CpInfo := pool [(10, .class_ 12), (1, u "java/util/Collection"), (47, .class_ 61), (0, u "java/lang/Object"), (0, .class_ 63), (0, u "java/lang/Iterable")] 51

/-- java/util/Collection -/
def k3 : Class := { plain "java/util/Collection" (some 0) with
  accessFlags := 1537
  interfaces := #[2]
  cf := some (fileOf pool3 10 #[] #[] 1537 60 #[62] #[])
  fields := #[]
  methods := #[]
  instanceTypes := #[]
  staticTypes := #[]
  resolved := Array.replicate 115 none
  statics := none }

def pool4 : Array CpInfo := pool [(1, .methodref 2 3), (0, .class_ 4), (0, .nameAndType 5 6), (0, u "java/lang/Object"), (0, u "<init>"), (0, u "()V"), (1, .class_ 10), (1, u "java/util/AbstractCollection"), (66, .class_ 78), (0, u "java/util/Collection")] 81

def k4c0 : Code := { maxStack := 1, maxLocals := 1, code := jdk_22_method_1_code, exceptionTable := #[], attributes := #[] }
def k4m0 : Method := { name := "<init>", desc := "()V", sig := { parameters := [], returnType := none }, accessFlags := 4, code := some k4c0 }
/-- java/util/AbstractCollection -/
def k4 : Class := { plain "java/util/AbstractCollection" (some 0) with
  accessFlags := 1057
  interfaces := #[3]
  cf := some (fileOf pool4 8 #[] #[{ accessFlags := 4, nameIndex := 5, descriptorIndex := 6, attributes := #[] }] 1057 2 #[77] #[])
  fields := #[]
  methods := #[k4m0]
  instanceTypes := #[]
  staticTypes := #[]
  resolved := Array.replicate 160 none
  statics := none }

def pool5 : Array CpInfo := pool [(8, .class_ 10), (1, u "java/util/SequencedCollection"), (15, .class_ 27), (0, u "java/lang/Object"), (0, .class_ 29), (0, u "java/util/Collection")] 27

/-- java/util/SequencedCollection -/
def k5 : Class := { plain "java/util/SequencedCollection" (some 0) with
  accessFlags := 1537
  interfaces := #[3]
  cf := some (fileOf pool5 8 #[] #[] 1537 26 #[28] #[])
  fields := #[]
  methods := #[]
  instanceTypes := #[]
  staticTypes := #[]
  resolved := Array.replicate 57 none
  statics := none }

def pool6 : Array CpInfo := pool [(8, .class_ 10), (1, u "java/util/List"), (64, u "get"), (0, u "(I)Ljava/lang/Object;"), (2, u "size"), (0, u "()I"), (22, .class_ 104), (0, u "java/lang/Object"), (15, .class_ 121), (0, u "java/util/SequencedCollection")] 129

def k6m0 : Method := { name := "size", desc := "()I", sig := { parameters := [], returnType := some .int }, accessFlags := 1025, code := none }
def k6m1 : Method := { name := "get", desc := "(I)Ljava/lang/Object;", sig := { parameters := [.int], returnType := some (.object "java/lang/Object") }, accessFlags := 1025, code := none }
/-- java/util/List -/
def k6 : Class := { plain "java/util/List" (some 0) with
  accessFlags := 1537
  interfaces := #[5]
  cf := some (fileOf pool6 8 #[] #[{ accessFlags := 1025, nameIndex := 79, descriptorIndex := 80, attributes := #[] }, { accessFlags := 1025, nameIndex := 75, descriptorIndex := 76, attributes := #[] }] 1537 103 #[120] #[])
  fields := #[]
  methods := #[k6m0, k6m1]
  instanceTypes := #[]
  staticTypes := #[]
  resolved := Array.replicate 251 none
  statics := none }

def pool7 : Array CpInfo := pool [(1, .methodref 2 3), (0, .class_ 4), (0, .nameAndType 5 6), (0, u "java/util/AbstractCollection"), (0, u "<init>"), (0, u "()V"), (0, .fieldref 8 9), (0, .class_ 10), (0, .nameAndType 11 12), (0, u "java/util/AbstractList"), (0, u "modCount"), (0, u "I"), (64, .class_ 78), (0, u "java/util/AbstractList$Itr"), (3, .class_ 83), (0, u "java/util/AbstractList$ListItr"), (9, .class_ 94), (0, u "java/util/AbstractList$RandomAccessSubList"), (3, .class_ 99), (0, u "java/util/AbstractList$SubList"), (33, .class_ 134), (0, u "java/util/List"), (73, .class_ 209), (0, u "java/util/AbstractList$SubList$1"), (0, .class_ 211), (0, u "java/util/AbstractList$RandomAccessSpliterator")] 6

def k7c0 : Code := { maxStack := 2, maxLocals := 1, code := jdk_39_method_1_code, exceptionTable := #[], attributes := #[] }
def k7m0 : Method := { name := "<init>", desc := "()V", sig := { parameters := [], returnType := none }, accessFlags := 4, code := some k7c0 }
/-- java/util/AbstractList -/
def k7 : Class := { plain "java/util/AbstractList" (some 4) with
  accessFlags := 1057
  interfaces := #[6]
  cf := some (fileOf pool7 8 #[.nestMembers #[93, 98, 208, 210, 82, 77]] #[{ accessFlags := 4, nameIndex := 5, descriptorIndex := 6, attributes := #[] }] 1057 2 #[133] #[{ accessFlags := 132, nameIndex := 11, descriptorIndex := 12, attributes := #[] }])
  fields := #[{ name := "modCount", type := .int, accessFlags := 132, slot := 0, constantValue := 0 }]
  methods := #[k7m0]
  instanceTypes := #[.int]
  staticTypes := #[]
  resolved := Array.replicate 218 none
  statics := none }

def pool8 : Array CpInfo := pool [(1, .class_ 2), (0, u "java/util/RandomAccess"), (0, .class_ 4), (0, u "java/lang/Object")] 2

/-- java/util/RandomAccess -/
def k8 : Class := { plain "java/util/RandomAccess" (some 0) with
  accessFlags := 1537
  interfaces := #[]
  cf := some (fileOf pool8 1 #[] #[] 1537 3 #[] #[])
  fields := #[]
  methods := #[]
  instanceTypes := #[]
  staticTypes := #[]
  resolved := Array.replicate 7 none
  statics := none }

def pool9 : Array CpInfo := pool [(1, .class_ 2), (0, u "java/lang/Cloneable"), (0, .class_ 4), (0, u "java/lang/Object")] 2

/-- java/lang/Cloneable -/
def k9 : Class := { plain "java/lang/Cloneable" (some 0) with
  accessFlags := 1537
  interfaces := #[]
  cf := some (fileOf pool9 1 #[] #[] 1537 3 #[] #[])
  fields := #[]
  methods := #[]
  instanceTypes := #[]
  staticTypes := #[]
  resolved := Array.replicate 7 none
  statics := none }

def pool10 : Array CpInfo := pool [(1, .class_ 2), (0, u "java/io/Serializable"), (0, .class_ 4), (0, u "java/lang/Object")] 2

/-- java/io/Serializable -/
def k10 : Class := { plain "java/io/Serializable" (some 0) with
  accessFlags := 1537
  interfaces := #[]
  cf := some (fileOf pool10 1 #[] #[] 1537 3 #[] #[])
  fields := #[]
  methods := #[]
  instanceTypes := #[]
  staticTypes := #[]
  resolved := Array.replicate 7 none
  statics := none }

def pool11 : Array CpInfo := pool [(1, .methodref 2 3), (0, .class_ 4), (0, .nameAndType 5 6), (0, u "java/util/AbstractList"), (0, u "<init>"), (0, u "()V"), (0, .class_ 8), (0, u "java/lang/Object"), (0, .fieldref 10 11), (0, .class_ 12), (0, .nameAndType 13 14), (0, u "java/util/ArrayList"), (0, u "elementData"), (0, u "[Ljava/lang/Object;"), (2, u "EMPTY_ELEMENTDATA"), (21, .fieldref 10 40), (0, .nameAndType 41 14), (0, u "DEFAULTCAPACITY_EMPTY_ELEMENTDATA"), (5, u "()[Ljava/lang/Object;"), (0, .fieldref 10 49), (0, .nameAndType 50 51), (0, u "size"), (0, u "I"), (11, .fieldref 10 64), (0, .nameAndType 65 51), (0, u "modCount"), (3, .methodref 10 70), (0, .nameAndType 71 72), (0, u "grow"), (0, u "(I)[Ljava/lang/Object;"), (6, .methodref 80 81), (0, .class_ 82), (0, .nameAndType 83 84), (0, u "java/lang/Math"), (0, u "max"), (0, u "(II)I"), (11, u "(Ljava/lang/Object;)Z"), (21, .methodref 119 120), (0, .class_ 121), (0, .nameAndType 122 84), (0, u "java/util/Objects"), (0, u "checkIndex"), (0, .methodref 10 124), (0, .nameAndType 13 125), (0, u "(I)Ljava/lang/Object;"), (3, .methodref 10 130), (0, .nameAndType 71 47), (0, .methodref 10 132), (0, .nameAndType 133 134), (0, u "add"), (0, u "(Ljava/lang/Object;[Ljava/lang/Object;I)V"), (13, .class_ 149), (0, u "java/util/List"), (36, u "()I"), (75, .class_ 263), (0, u "java/util/ArrayList$ListItr"), (3, .class_ 268), (0, u "java/util/ArrayList$Itr"), (7, .class_ 277), (0, u "java/util/ArrayList$SubList"), (12, .class_ 291), (0, u "java/util/ArrayList$ArrayListSpliterator"), (37, .class_ 330), (0, u "java/util/RandomAccess"), (0, .class_ 332), (0, u "java/lang/Cloneable"), (0, .class_ 334), (0, u "java/io/Serializable"), (0, u "serialVersionUID"), (0, u "J"), (3, u "DEFAULT_CAPACITY"), (40, u "get"), (118, .class_ 501), (0, u "java/util/ArrayList$SubList$2"), (0, .class_ 503), (0, u "java/util/ArrayList$SubList$1")] 5

def k11c0 : Code := { maxStack := 2, maxLocals := 1, code := jdk_38_method_2_code, exceptionTable := #[], attributes := #[] }
def k11m0 : Method := { name := "<init>", desc := "()V", sig := { parameters := [], returnType := none }, accessFlags := 1, code := some k11c0 }
def k11c1 : Code := { maxStack := 4, maxLocals := 4, code := jdk_38_method_6_code, exceptionTable := #[], attributes := #[] }
def k11m1 : Method := { name := "grow", desc := "(I)[Ljava/lang/Object;", sig := { parameters := [.int], returnType := some (.array (.object "java/lang/Object")) }, accessFlags := 2, code := some k11c1 }
def k11c2 : Code := { maxStack := 3, maxLocals := 1, code := jdk_38_method_7_code, exceptionTable := #[], attributes := #[] }
def k11m2 : Method := { name := "grow", desc := "()[Ljava/lang/Object;", sig := { parameters := [], returnType := some (.array (.object "java/lang/Object")) }, accessFlags := 2, code := some k11c2 }
def k11c3 : Code := { maxStack := 1, maxLocals := 1, code := jdk_38_method_8_code, exceptionTable := #[], attributes := #[] }
def k11m3 : Method := { name := "size", desc := "()I", sig := { parameters := [], returnType := some .int }, accessFlags := 1, code := some k11c3 }
def k11c4 : Code := { maxStack := 2, maxLocals := 2, code := jdk_38_method_18_code, exceptionTable := #[], attributes := #[] }
def k11m4 : Method := { name := "elementData", desc := "(I)Ljava/lang/Object;", sig := { parameters := [.int], returnType := some (.object "java/lang/Object") }, accessFlags := 0, code := some k11c4 }
def k11c5 : Code := { maxStack := 2, maxLocals := 2, code := jdk_38_method_20_code, exceptionTable := #[], attributes := #[] }
def k11m5 : Method := { name := "get", desc := "(I)Ljava/lang/Object;", sig := { parameters := [.int], returnType := some (.object "java/lang/Object") }, accessFlags := 1, code := some k11c5 }
def k11c6 : Code := { maxStack := 3, maxLocals := 4, code := jdk_38_method_24_code, exceptionTable := #[], attributes := #[] }
def k11m6 : Method := { name := "add", desc := "(Ljava/lang/Object;[Ljava/lang/Object;I)V", sig := { parameters := [(.object "java/lang/Object"), (.array (.object "java/lang/Object")), .int], returnType := none }, accessFlags := 2, code := some k11c6 }
def k11c7 : Code := { maxStack := 4, maxLocals := 2, code := jdk_38_method_25_code, exceptionTable := #[], attributes := #[] }
def k11m7 : Method := { name := "add", desc := "(Ljava/lang/Object;)Z", sig := { parameters := [(.object "java/lang/Object")], returnType := some .boolean }, accessFlags := 1, code := some k11c7 }
/-- java/util/ArrayList -/
def k11 : Class := { plain "java/util/ArrayList" (some 7) with
  accessFlags := 33
  interfaces := #[6, 8, 9, 10]
  cf := some (fileOf pool11 10 #[.nestMembers #[290, 276, 500, 502, 262, 267]] #[{ accessFlags := 1, nameIndex := 5, descriptorIndex := 6, attributes := #[] }, { accessFlags := 2, nameIndex := 71, descriptorIndex := 72, attributes := #[] }, { accessFlags := 2, nameIndex := 71, descriptorIndex := 47, attributes := #[] }, { accessFlags := 1, nameIndex := 50, descriptorIndex := 186, attributes := #[] }, { accessFlags := 0, nameIndex := 13, descriptorIndex := 125, attributes := #[] }, { accessFlags := 1, nameIndex := 381, descriptorIndex := 125, attributes := #[] }, { accessFlags := 2, nameIndex := 133, descriptorIndex := 134, attributes := #[] }, { accessFlags := 1, nameIndex := 133, descriptorIndex := 96, attributes := #[] }] 33 2 #[148, 329, 331, 333] #[{ accessFlags := 26, nameIndex := 335, descriptorIndex := 336, attributes := #[] }, { accessFlags := 26, nameIndex := 340, descriptorIndex := 51, attributes := #[] }, { accessFlags := 26, nameIndex := 17, descriptorIndex := 14, attributes := #[] }, { accessFlags := 26, nameIndex := 41, descriptorIndex := 14, attributes := #[] }, { accessFlags := 128, nameIndex := 13, descriptorIndex := 14, attributes := #[] }, { accessFlags := 2, nameIndex := 50, descriptorIndex := 51, attributes := #[] }])
  fields := #[{ name := "serialVersionUID", type := .long, accessFlags := 26, slot := 0, constantValue := 0 }, { name := "DEFAULT_CAPACITY", type := .int, accessFlags := 26, slot := 1, constantValue := 0 }, { name := "EMPTY_ELEMENTDATA", type := (.array (.object "java/lang/Object")), accessFlags := 26, slot := 2, constantValue := 0 }, { name := "DEFAULTCAPACITY_EMPTY_ELEMENTDATA", type := (.array (.object "java/lang/Object")), accessFlags := 26, slot := 3, constantValue := 0 }, { name := "elementData", type := (.array (.object "java/lang/Object")), accessFlags := 128, slot := 1, constantValue := 0 }, { name := "size", type := .int, accessFlags := 2, slot := 2, constantValue := 0 }]
  methods := #[k11m0, k11m1, k11m2, k11m3, k11m4, k11m5, k11m6, k11m7]
  instanceTypes := #[.int, (.array (.object "java/lang/Object")), .int]
  staticTypes := #[.long, .int, (.array (.object "java/lang/Object")), (.array (.object "java/lang/Object"))]
  resolved := Array.replicate 509 none
  statics := some 0 }

def pool12 : Array CpInfo := pool [(1, .methodref 2 3), (0, .class_ 4), (0, .nameAndType 5 6), (0, u "java/lang/Object"), (0, u "<init>"), (0, u "()V"), (0, .class_ 8), (0, u "java/lang/Record")] 13

def k12c0 : Code := { maxStack := 1, maxLocals := 1, code := jdk_30_method_1_code, exceptionTable := #[], attributes := #[] }
def k12m0 : Method := { name := "<init>", desc := "()V", sig := { parameters := [], returnType := none }, accessFlags := 4, code := some k12c0 }
/-- java/lang/Record -/
def k12 : Class := { plain "java/lang/Record" (some 0) with
  accessFlags := 1057
  interfaces := #[]
  cf := some (fileOf pool12 7 #[] #[{ accessFlags := 4, nameIndex := 5, descriptorIndex := 6, attributes := #[] }] 1057 2 #[] #[])
  fields := #[]
  methods := #[k12m0]
  instanceTypes := #[]
  staticTypes := #[]
  resolved := Array.replicate 22 none
  statics := none }

def pool13 : Array CpInfo := pool [(1, .methodref 2 3), (0, .class_ 4), (0, .nameAndType 5 6), (0, u "java/lang/Record"), (0, u "<init>"), (0, u "()V"), (0, .fieldref 8 9), (0, .class_ 10), (0, .nameAndType 11 12), (0, u "com/example/ken2/ken2/InterpretedSystem$Variable"), (0, u "agent"), (0, u "Ljava/lang/String;"), (0, .fieldref 8 14), (0, .nameAndType 15 12), (0, u "name"), (0, .fieldref 8 17), (0, .nameAndType 18 19), (0, u "values"), (0, u "Ljava/util/List;"), (0, .fieldref 8 21), (0, .nameAndType 22 23), (0, u "low"), (0, u "I"), (0, .fieldref 8 25), (0, .nameAndType 26 23), (0, u "size"), (8, u "()I"), (2, u "(Ljava/lang/String;Ljava/lang/String;Ljava/util/List;II)V"), (58, .class_ 98), (0, u "com/example/ken2/ken2/InterpretedSystem")] 33

def k13c0 : Code := { maxStack := 2, maxLocals := 6, code := prog_64_method_1_code, exceptionTable := #[], attributes := #[] }
def k13m0 : Method := { name := "<init>", desc := "(Ljava/lang/String;Ljava/lang/String;Ljava/util/List;II)V", sig := { parameters := [(.object "java/lang/String"), (.object "java/lang/String"), (.object "java/util/List"), .int, .int], returnType := none }, accessFlags := 0, code := some k13c0 }
def k13c1 : Code := { maxStack := 1, maxLocals := 1, code := prog_64_method_15_code, exceptionTable := #[], attributes := #[] }
def k13m1 : Method := { name := "size", desc := "()I", sig := { parameters := [], returnType := some .int }, accessFlags := 1, code := some k13c1 }
/-- com/example/ken2/ken2/InterpretedSystem$Variable -/
def k13 : Class := { plain "com/example/ken2/ken2/InterpretedSystem$Variable" (some 12) with
  accessFlags := 48
  interfaces := #[]
  cf := some (fileOf pool13 8 #[.nestHost 97] #[{ accessFlags := 0, nameIndex := 5, descriptorIndex := 38, attributes := #[] }, { accessFlags := 1, nameIndex := 26, descriptorIndex := 35, attributes := #[] }] 48 2 #[] #[{ accessFlags := 18, nameIndex := 11, descriptorIndex := 12, attributes := #[] }, { accessFlags := 18, nameIndex := 15, descriptorIndex := 12, attributes := #[] }, { accessFlags := 18, nameIndex := 18, descriptorIndex := 19, attributes := #[] }, { accessFlags := 18, nameIndex := 22, descriptorIndex := 23, attributes := #[] }, { accessFlags := 18, nameIndex := 26, descriptorIndex := 23, attributes := #[] }])
  fields := #[{ name := "agent", type := (.object "java/lang/String"), accessFlags := 18, slot := 0, constantValue := 0 }, { name := "name", type := (.object "java/lang/String"), accessFlags := 18, slot := 1, constantValue := 0 }, { name := "values", type := (.object "java/util/List"), accessFlags := 18, slot := 2, constantValue := 0 }, { name := "low", type := .int, accessFlags := 18, slot := 3, constantValue := 0 }, { name := "size", type := .int, accessFlags := 18, slot := 4, constantValue := 0 }]
  methods := #[k13m0, k13m1]
  instanceTypes := #[(.object "java/lang/String"), (.object "java/lang/String"), (.object "java/util/List"), .int, .int]
  staticTypes := #[]
  resolved := Array.replicate 132 none
  statics := none }

def pool14 : Array CpInfo := pool [(1, .class_ 2), (0, u "java/lang/Comparable"), (0, .class_ 4), (0, u "java/lang/Object")] 7

/-- java/lang/Comparable -/
def k14 : Class := { plain "java/lang/Comparable" (some 0) with
  accessFlags := 1537
  interfaces := #[]
  cf := some (fileOf pool14 1 #[] #[] 1537 3 #[] #[])
  fields := #[]
  methods := #[]
  instanceTypes := #[]
  staticTypes := #[]
  resolved := Array.replicate 12 none
  statics := none }

def pool15 : Array CpInfo := pool [(2, .class_ 4), (1, u "java/lang/CharSequence"), (42, .class_ 48), (0, u "java/lang/CharSequence$1CodePointIterator"), (10, .class_ 60), (0, u "java/lang/CharSequence$1CharIterator"), (5, .class_ 67), (0, u "java/lang/Object")] 63

/-- java/lang/CharSequence -/
def k15 : Class := { plain "java/lang/CharSequence" (some 0) with
  accessFlags := 1537
  interfaces := #[]
  cf := some (fileOf pool15 2 #[.nestMembers #[47, 59]] #[] 1537 66 #[] #[])
  fields := #[]
  methods := #[]
  instanceTypes := #[]
  staticTypes := #[]
  resolved := Array.replicate 131 none
  statics := none }

def pool16 : Array CpInfo := pool [(1, .class_ 2), (0, u "java/lang/constant/Constable"), (0, .class_ 4), (0, u "java/lang/Object")] 6

/-- java/lang/constant/Constable -/
def k16 : Class := { plain "java/lang/constant/Constable" (some 0) with
  accessFlags := 1537
  interfaces := #[]
  cf := some (fileOf pool16 1 #[] #[] 1537 3 #[] #[])
  fields := #[]
  methods := #[]
  instanceTypes := #[]
  staticTypes := #[]
  resolved := Array.replicate 11 none
  statics := none }

def pool17 : Array CpInfo := pool [(1, .class_ 2), (0, u "java/lang/constant/ConstantDesc"), (0, .class_ 4), (0, u "java/lang/Object")] 32

/-- java/lang/constant/ConstantDesc -/
def k17 : Class := { plain "java/lang/constant/ConstantDesc" (some 0) with
  accessFlags := 1537
  interfaces := #[]
  cf := some (fileOf pool17 1 #[] #[] 1537 3 #[] #[])
  fields := #[]
  methods := #[]
  instanceTypes := #[]
  staticTypes := #[]
  resolved := Array.replicate 37 none
  statics := none }

def pool18 : Array CpInfo := pool [(2, .class_ 4), (1, u "java/lang/Object"), (0, u "<init>"), (0, u "()V"), (3, .class_ 12), (1, u "java/lang/String"), (0, u "value"), (0, u "[B"), (2, u "coder"), (0, u "B"), (2, u "hash"), (0, u "I"), (2, u "hashIsZero"), (0, u "Z"), (13, u "COMPACT_STRINGS"), (534, .class_ 576), (0, u "java/lang/CharSequence"), (22, u "CASE_INSENSITIVE_ORDER"), (0, u "Ljava/util/Comparator;"), (500, u "serialPersistentFields"), (0, u "[Ljava/io/ObjectStreamField;"), (0, .class_ 1104), (0, u "java/lang/String$CaseInsensitiveComparator"), (1, .class_ 1107), (0, u "java/io/Serializable"), (0, .class_ 1109), (0, u "java/lang/Comparable"), (0, .class_ 1111), (0, u "java/lang/constant/Constable"), (0, .class_ 1113), (0, u "java/lang/constant/ConstantDesc"), (2, u "serialVersionUID"), (0, u "J"), (3, u "REPL"), (0, u "C"), (2, u "LATIN1"), (1, u "UTF16")] 323

def k18m0 : Method := { name := "<init>", desc := "()V", sig := { parameters := [], returnType := none }, accessFlags := 1, code := none }
/-- java/lang/String -/
def k18 : Class := { plain "java/lang/String" (some 0) with
  accessFlags := 49
  interfaces := #[10, 14, 15, 16, 17]
  cf := some (fileOf pool18 10 #[.nestMembers #[1103]] #[{ accessFlags := 1, nameIndex := 5, descriptorIndex := 6, attributes := #[] }] 49 2 #[1106, 1108, 575, 1110, 1112] #[{ accessFlags := 18, nameIndex := 13, descriptorIndex := 14, attributes := #[] }, { accessFlags := 18, nameIndex := 17, descriptorIndex := 18, attributes := #[] }, { accessFlags := 2, nameIndex := 21, descriptorIndex := 22, attributes := #[] }, { accessFlags := 2, nameIndex := 25, descriptorIndex := 26, attributes := #[] }, { accessFlags := 26, nameIndex := 1116, descriptorIndex := 1117, attributes := #[] }, { accessFlags := 24, nameIndex := 40, descriptorIndex := 26, attributes := #[] }, { accessFlags := 26, nameIndex := 1101, descriptorIndex := 1102, attributes := #[] }, { accessFlags := 26, nameIndex := 1121, descriptorIndex := 1122, attributes := #[] }, { accessFlags := 25, nameIndex := 599, descriptorIndex := 600, attributes := #[] }, { accessFlags := 24, nameIndex := 1125, descriptorIndex := 18, attributes := #[] }, { accessFlags := 24, nameIndex := 1127, descriptorIndex := 18, attributes := #[] }])
  fields := #[{ name := "value", type := (.array .byte), accessFlags := 18, slot := 0, constantValue := 0 }, { name := "coder", type := .byte, accessFlags := 18, slot := 1, constantValue := 0 }, { name := "hash", type := .int, accessFlags := 2, slot := 2, constantValue := 0 }, { name := "hashIsZero", type := .boolean, accessFlags := 2, slot := 3, constantValue := 0 }, { name := "serialVersionUID", type := .long, accessFlags := 26, slot := 0, constantValue := 0 }, { name := "COMPACT_STRINGS", type := .boolean, accessFlags := 24, slot := 1, constantValue := 0 }, { name := "serialPersistentFields", type := (.array (.object "java/io/ObjectStreamField")), accessFlags := 26, slot := 2, constantValue := 0 }, { name := "REPL", type := .char, accessFlags := 26, slot := 3, constantValue := 0 }, { name := "CASE_INSENSITIVE_ORDER", type := (.object "java/util/Comparator"), accessFlags := 25, slot := 4, constantValue := 0 }, { name := "LATIN1", type := .byte, accessFlags := 24, slot := 5, constantValue := 0 }, { name := "UTF16", type := .byte, accessFlags := 24, slot := 6, constantValue := 0 }]
  methods := #[k18m0]
  instanceTypes := #[(.array .byte), .byte, .int, .boolean]
  staticTypes := #[.long, .boolean, (.array (.object "java/io/ObjectStreamField")), .char, (.object "java/util/Comparator"), .byte, .byte]
  resolved := Array.replicate 1451 none
  statics := none }

def pool19 : Array CpInfo := pool [(1, .class_ 2), (0, u "java/lang/Math"), (1, .class_ 6), (1, u "java/lang/Object"), (0, u "<init>"), (0, u "()V"), (89, .class_ 100), (1, u "java/lang/Math$RandomNumberGeneratorHolder"), (71, u "negativeZeroFloatBits"), (0, u "J"), (2, u "negativeZeroDoubleBits"), (21, u "max"), (46, u "$assertionsDisabled"), (0, u "Z"), (88, u "(II)I"), (2, u "twoToTheDoubleScaleDown"), (0, u "D"), (4, u "twoToTheDoubleScaleUp"), (9, u "E"), (3, u "PI"), (2, u "TAU"), (2, u "DEGREES_TO_RADIANS"), (0, u "RADIANS_TO_DEGREES")] 94

def k19m0 : Method := { name := "<init>", desc := "()V", sig := { parameters := [], returnType := none }, accessFlags := 2, code := none }
def k19c1 : Code := { maxStack := 2, maxLocals := 2, code := jdk_29_method_65_code, exceptionTable := #[], attributes := #[] }
def k19m1 : Method := { name := "max", desc := "(II)I", sig := { parameters := [.int, .int], returnType := some .int }, accessFlags := 9, code := some k19c1 }
/-- java/lang/Math -/
def k19 : Class := { plain "java/lang/Math" (some 0) with
  accessFlags := 49
  interfaces := #[]
  cf := some (fileOf pool19 1 #[.nestMembers #[98]] #[{ accessFlags := 2, nameIndex := 7, descriptorIndex := 8, attributes := #[] }, { accessFlags := 9, nameIndex := 198, descriptorIndex := 335, attributes := #[] }] 49 4 #[] #[{ accessFlags := 25, nameIndex := 354, descriptorIndex := 339, attributes := #[] }, { accessFlags := 25, nameIndex := 358, descriptorIndex := 339, attributes := #[] }, { accessFlags := 25, nameIndex := 361, descriptorIndex := 339, attributes := #[] }, { accessFlags := 26, nameIndex := 364, descriptorIndex := 339, attributes := #[] }, { accessFlags := 26, nameIndex := 365, descriptorIndex := 339, attributes := #[] }, { accessFlags := 26, nameIndex := 172, descriptorIndex := 173, attributes := #[] }, { accessFlags := 26, nameIndex := 176, descriptorIndex := 173, attributes := #[] }, { accessFlags := 8, nameIndex := 344, descriptorIndex := 339, attributes := #[] }, { accessFlags := 8, nameIndex := 338, descriptorIndex := 339, attributes := #[] }, { accessFlags := 4120, nameIndex := 245, descriptorIndex := 246, attributes := #[] }])
  fields := #[{ name := "E", type := .double, accessFlags := 25, slot := 0, constantValue := 0 }, { name := "PI", type := .double, accessFlags := 25, slot := 1, constantValue := 0 }, { name := "TAU", type := .double, accessFlags := 25, slot := 2, constantValue := 0 }, { name := "DEGREES_TO_RADIANS", type := .double, accessFlags := 26, slot := 3, constantValue := 0 }, { name := "RADIANS_TO_DEGREES", type := .double, accessFlags := 26, slot := 4, constantValue := 0 }, { name := "negativeZeroFloatBits", type := .long, accessFlags := 26, slot := 5, constantValue := 0 }, { name := "negativeZeroDoubleBits", type := .long, accessFlags := 26, slot := 6, constantValue := 0 }, { name := "twoToTheDoubleScaleUp", type := .double, accessFlags := 8, slot := 7, constantValue := 0 }, { name := "twoToTheDoubleScaleDown", type := .double, accessFlags := 8, slot := 8, constantValue := 0 }, { name := "$assertionsDisabled", type := .boolean, accessFlags := 4120, slot := 9, constantValue := 0 }]
  methods := #[k19m0, k19m1]
  instanceTypes := #[]
  staticTypes := #[.double, .double, .double, .double, .double, .long, .long, .double, .double, .boolean]
  resolved := Array.replicate 460 none
  statics := none }

def pool20 : Array CpInfo := pool [(1, .methodref 2 3), (0, .class_ 4), (0, .nameAndType 5 6), (0, u "java/lang/Object"), (0, u "<init>"), (0, u "()V"), (0, .interfaceMethodref 8 9), (0, .class_ 10), (0, .nameAndType 11 12), (0, u "java/util/List"), (0, u "size"), (0, u "()I"), (0, .fieldref 14 15), (0, .class_ 16), (0, .nameAndType 17 18), (0, u "com/example/ken2/ken2/StateLayout"), (0, u "m_word"), (0, u "[I"), (0, .fieldref 14 20), (0, .nameAndType 21 18), (0, u "m_shift"), (0, .fieldref 14 23), (0, .nameAndType 24 25), (0, u "m_mask"), (0, u "[J"), (0, .interfaceMethodref 8 27), (0, .nameAndType 28 29), (0, u "get"), (0, u "(I)Ljava/lang/Object;"), (0, .class_ 31), (0, u "com/example/ken2/ken2/InterpretedSystem$Variable"), (0, .methodref 30 9), (0, .methodref 34 35), (0, .class_ 36), (0, .nameAndType 37 38), (0, u "java/lang/Integer"), (0, u "numberOfLeadingZeros"), (0, u "(I)I"), (2, .fieldref 14 42), (0, .nameAndType 43 44), (0, u "m_width"), (0, u "I"), (6, .methodref 14 52), (0, .nameAndType 53 54), (0, u "valueAt"), (0, u "([JII)I"), (0, .class_ 56), (0, u "com/example/ken2/ken2/StateLayout$Unpacked"), (3, .class_ 61), (0, u "com/example/ken2/ken2/StateLayout$Columns"), (3, .long 18446744073709551615), (3, u "set"), (0, u "([JIJ)V"), (5, u "(Ljava/util/List;)V"), (10, u "value"), (0, u "([JI)I")] 17

def k20c0 : Code := { maxStack := 6, maxLocals := 7, code := prog_112_method_1_code, exceptionTable := #[], attributes := #[] }
def k20m0 : Method := { name := "<init>", desc := "(Ljava/util/List;)V", sig := { parameters := [(.object "java/util/List")], returnType := none }, accessFlags := 0, code := some k20c0 }
def k20c1 : Code := { maxStack := 4, maxLocals := 3, code := prog_112_method_5_code, exceptionTable := #[], attributes := #[] }
def k20m1 : Method := { name := "value", desc := "([JI)I", sig := { parameters := [(.array .long), .int], returnType := some .int }, accessFlags := 0, code := some k20c1 }
def k20c2 : Code := { maxStack := 4, maxLocals := 4, code := prog_112_method_6_code, exceptionTable := #[], attributes := #[] }
def k20m2 : Method := { name := "valueAt", desc := "([JII)I", sig := { parameters := [(.array .long), .int, .int], returnType := some .int }, accessFlags := 2, code := some k20c2 }
def k20c3 : Code := { maxStack := 8, maxLocals := 7, code := prog_112_method_9_code, exceptionTable := #[], attributes := #[] }
def k20m3 : Method := { name := "set", desc := "([JIJ)V", sig := { parameters := [(.array .long), .int, .long], returnType := none }, accessFlags := 0, code := some k20c3 }
/-- com/example/ken2/ken2/StateLayout -/
def k20 : Class := { plain "com/example/ken2/ken2/StateLayout" (some 0) with
  accessFlags := 48
  interfaces := #[]
  cf := some (fileOf pool20 14 #[.nestMembers #[60, 55]] #[{ accessFlags := 0, nameIndex := 5, descriptorIndex := 76, attributes := #[] }, { accessFlags := 0, nameIndex := 87, descriptorIndex := 88, attributes := #[] }, { accessFlags := 2, nameIndex := 53, descriptorIndex := 54, attributes := #[] }, { accessFlags := 0, nameIndex := 69, descriptorIndex := 70, attributes := #[] }] 48 2 #[] #[{ accessFlags := 18, nameIndex := 17, descriptorIndex := 18, attributes := #[] }, { accessFlags := 18, nameIndex := 21, descriptorIndex := 18, attributes := #[] }, { accessFlags := 18, nameIndex := 24, descriptorIndex := 25, attributes := #[] }, { accessFlags := 18, nameIndex := 43, descriptorIndex := 44, attributes := #[] }])
  fields := #[{ name := "m_word", type := (.array .int), accessFlags := 18, slot := 0, constantValue := 0 }, { name := "m_shift", type := (.array .int), accessFlags := 18, slot := 1, constantValue := 0 }, { name := "m_mask", type := (.array .long), accessFlags := 18, slot := 2, constantValue := 0 }, { name := "m_width", type := .int, accessFlags := 18, slot := 3, constantValue := 0 }]
  methods := #[k20m0, k20m1, k20m2, k20m3]
  instanceTypes := #[(.array .int), (.array .int), (.array .long), .int]
  staticTypes := #[]
  resolved := Array.replicate 106 none
  statics := none }

def pool21 : Array CpInfo := pool [(2, .class_ 4), (1, u "java/lang/Object"), (0, u "<init>"), (0, u "()V"), (35, .class_ 44), (1, u "java/util/Objects"), (60, .methodref 106 107), (0, .class_ 108), (0, .nameAndType 109 110), (0, u "jdk/internal/util/Preconditions"), (0, u "checkIndex"), (0, u "(IILjava/util/function/BiFunction;)I"), (60, u "(II)I")] 12

def k21m0 : Method := { name := "<init>", desc := "()V", sig := { parameters := [], returnType := none }, accessFlags := 2, code := none }
def k21c1 : Code := { maxStack := 3, maxLocals := 2, code := jdk_31_method_17_code, exceptionTable := #[], attributes := #[] }
def k21m1 : Method := { name := "checkIndex", desc := "(II)I", sig := { parameters := [.int, .int], returnType := some .int }, accessFlags := 9, code := some k21c1 }
/-- java/util/Objects -/
def k21 : Class := { plain "java/util/Objects" (some 0) with
  accessFlags := 49
  interfaces := #[]
  cf := some (fileOf pool21 42 #[] #[{ accessFlags := 2, nameIndex := 5, descriptorIndex := 6, attributes := #[] }, { accessFlags := 9, nameIndex := 109, descriptorIndex := 171, attributes := #[] }] 49 2 #[] #[])
  fields := #[]
  methods := #[k21m0, k21m1]
  instanceTypes := #[]
  staticTypes := #[]
  resolved := Array.replicate 184 none
  statics := none }

def pool22 : Array CpInfo := pool [(2, .class_ 4), (1, u "java/lang/Object"), (0, u "<init>"), (0, u "()V"), (17, .class_ 26), (1, u "jdk/internal/util/Preconditions"), (6, u "checkIndex"), (21, .class_ 56), (0, u "jdk/internal/util/Preconditions$4"), (57, .class_ 115), (0, u "jdk/internal/util/Preconditions$1"), (7, u "SIOOBE_FORMATTER"), (0, u "Ljava/util/function/BiFunction;"), (0, .class_ 126), (0, u "jdk/internal/util/Preconditions$2"), (3, u "AIOOBE_FORMATTER"), (0, .class_ 132), (0, u "jdk/internal/util/Preconditions$3"), (3, u "IOOBE_FORMATTER"), (41, u "(IILjava/util/function/BiFunction;)I")] 15

def k22m0 : Method := { name := "<init>", desc := "()V", sig := { parameters := [], returnType := none }, accessFlags := 1, code := none }
def k22c1 : Code := { maxStack := 3, maxLocals := 3, code := jdk_41_method_11_code, exceptionTable := #[], attributes := #[] }
def k22m1 : Method := { name := "checkIndex", desc := "(IILjava/util/function/BiFunction;)I", sig := { parameters := [.int, .int, (.object "java/util/function/BiFunction")], returnType := some .int }, accessFlags := 9, code := some k22c1 }
/-- jdk/internal/util/Preconditions -/
def k22 : Class := { plain "jdk/internal/util/Preconditions" (some 0) with
  accessFlags := 33
  interfaces := #[]
  cf := some (fileOf pool22 24 #[.nestMembers #[55, 131, 125, 114]] #[{ accessFlags := 1, nameIndex := 5, descriptorIndex := 6, attributes := #[] }, { accessFlags := 9, nameIndex := 33, descriptorIndex := 178, attributes := #[] }] 33 2 #[] #[{ accessFlags := 25, nameIndex := 123, descriptorIndex := 124, attributes := #[] }, { accessFlags := 25, nameIndex := 130, descriptorIndex := 124, attributes := #[] }, { accessFlags := 25, nameIndex := 136, descriptorIndex := 124, attributes := #[] }])
  fields := #[{ name := "SIOOBE_FORMATTER", type := (.object "java/util/function/BiFunction"), accessFlags := 25, slot := 0, constantValue := 0 }, { name := "AIOOBE_FORMATTER", type := (.object "java/util/function/BiFunction"), accessFlags := 25, slot := 1, constantValue := 0 }, { name := "IOOBE_FORMATTER", type := (.object "java/util/function/BiFunction"), accessFlags := 25, slot := 2, constantValue := 0 }]
  methods := #[k22m0, k22m1]
  instanceTypes := #[]
  staticTypes := #[(.object "java/util/function/BiFunction"), (.object "java/util/function/BiFunction"), (.object "java/util/function/BiFunction")]
  resolved := Array.replicate 194 none
  statics := none }

def pool23 : Array CpInfo := pool [(2, .class_ 4), (1, u "java/lang/Object"), (0, u "<init>"), (0, u "()V"), (1, .class_ 10), (1, u "java/lang/Number"), (2, .class_ 14), (0, u "java/io/Serializable"), (0, u "serialVersionUID"), (0, u "J")] 20

def k23m0 : Method := { name := "<init>", desc := "()V", sig := { parameters := [], returnType := none }, accessFlags := 1, code := none }
/-- java/lang/Number -/
def k23 : Class := { plain "java/lang/Number" (some 0) with
  accessFlags := 1057
  interfaces := #[10]
  cf := some (fileOf pool23 8 #[] #[{ accessFlags := 1, nameIndex := 5, descriptorIndex := 6, attributes := #[] }] 1057 2 #[13] #[{ accessFlags := 26, nameIndex := 15, descriptorIndex := 16, attributes := #[] }])
  fields := #[{ name := "serialVersionUID", type := .long, accessFlags := 26, slot := 0, constantValue := 0 }]
  methods := #[k23m0]
  instanceTypes := #[]
  staticTypes := #[.long]
  resolved := Array.replicate 37 none
  statics := none }

def pool24 : Array CpInfo := pool [(1, .class_ 2), (0, u "java/lang/Integer"), (16, u "digits"), (0, u "[C"), (32, u "numberOfLeadingZeros"), (0, u "(I)I"), (30, u "DigitOnes"), (0, u "[B"), (2, u "DigitTens"), (99, .class_ 190), (0, u "java/lang/Integer$IntegerCache"), (3, u "I"), (8, .class_ 204), (0, u "java/lang/Number"), (2, u "value"), (56, .integer 65536), (37, u "TYPE"), (0, u "Ljava/lang/Class;"), (0, .class_ 305), (0, u "java/lang/Comparable"), (0, .class_ 307), (0, u "java/lang/constant/Constable"), (0, .class_ 309), (0, u "java/lang/constant/ConstantDesc"), (0, u "MIN_VALUE"), (1, u "MAX_VALUE"), (3, u "SIZE"), (1, u "BYTES"), (1, u "serialVersionUID"), (0, u "J")] 131

def k24c0 : Code := { maxStack := 3, maxLocals := 2, code := jdk_33_method_47_code, exceptionTable := #[], attributes := #[] }
def k24m0 : Method := { name := "numberOfLeadingZeros", desc := "(I)I", sig := { parameters := [.int], returnType := some .int }, accessFlags := 9, code := some k24c0 }
/-- java/lang/Integer -/
def k24 : Class := { plain "java/lang/Integer" (some 23) with
  accessFlags := 49
  interfaces := #[14, 16, 17]
  cf := some (fileOf pool24 1 #[.nestMembers #[189]] #[{ accessFlags := 9, nameIndex := 53, descriptorIndex := 54, attributes := #[] }] 49 203 #[304, 306, 308] #[{ accessFlags := 25, nameIndex := 310, descriptorIndex := 194, attributes := #[] }, { accessFlags := 25, nameIndex := 312, descriptorIndex := 194, attributes := #[] }, { accessFlags := 25, nameIndex := 302, descriptorIndex := 303, attributes := #[] }, { accessFlags := 24, nameIndex := 19, descriptorIndex := 20, attributes := #[] }, { accessFlags := 24, nameIndex := 89, descriptorIndex := 86, attributes := #[] }, { accessFlags := 24, nameIndex := 85, descriptorIndex := 86, attributes := #[] }, { accessFlags := 18, nameIndex := 207, descriptorIndex := 194, attributes := #[] }, { accessFlags := 25, nameIndex := 316, descriptorIndex := 194, attributes := #[] }, { accessFlags := 25, nameIndex := 318, descriptorIndex := 194, attributes := #[] }, { accessFlags := 26, nameIndex := 320, descriptorIndex := 321, attributes := #[] }])
  fields := #[{ name := "MIN_VALUE", type := .int, accessFlags := 25, slot := 0, constantValue := 0 }, { name := "MAX_VALUE", type := .int, accessFlags := 25, slot := 1, constantValue := 0 }, { name := "TYPE", type := (.object "java/lang/Class"), accessFlags := 25, slot := 2, constantValue := 0 }, { name := "digits", type := (.array .char), accessFlags := 24, slot := 3, constantValue := 0 }, { name := "DigitTens", type := (.array .byte), accessFlags := 24, slot := 4, constantValue := 0 }, { name := "DigitOnes", type := (.array .byte), accessFlags := 24, slot := 5, constantValue := 0 }, { name := "value", type := .int, accessFlags := 18, slot := 0, constantValue := 0 }, { name := "SIZE", type := .int, accessFlags := 25, slot := 6, constantValue := 0 }, { name := "BYTES", type := .int, accessFlags := 25, slot := 7, constantValue := 0 }, { name := "serialVersionUID", type := .long, accessFlags := 26, slot := 8, constantValue := 0 }]
  methods := #[k24m0]
  instanceTypes := #[.int]
  staticTypes := #[.int, .int, (.object "java/lang/Class"), (.array .char), (.array .byte), (.array .byte), .int, .int, .long]
  resolved := Array.replicate 453 none
  statics := none }

/-- the primitive byte -/
def k25 : Class := { plain "byte" none with kind := .primitive 'B', accessFlags := 0x411 }
/-- [B -/
def k26 : Class := { plain "[B" (some 0) with kind := .array 25 .byte, interfaces := #[9, 10], accessFlags := 1041 }

/-- the primitive int -/
def k27 : Class := { plain "int" none with kind := .primitive 'I', accessFlags := 0x411 }
/-- [I -/
def k28 : Class := { plain "[I" (some 0) with kind := .array 27 .int, interfaces := #[9, 10], accessFlags := 1041 }

/-- the primitive long -/
def k29 : Class := { plain "long" none with kind := .primitive 'J', accessFlags := 0x411 }
/-- [J -/
def k30 : Class := { plain "[J" (some 0) with kind := .array 29 .long, interfaces := #[9, 10], accessFlags := 1041 }

/-- [Ljava/lang/Object; -/
def k31 : Class := { plain "[Ljava/lang/Object;" (some 0) with kind := .array 0 (.object "java/lang/Object"), interfaces := #[9, 10], accessFlags := 1041 }

def heap : Heap := #[{ cls := 11, slots := #[.long 0, .int 0, .ref 1, .ref 2], vm := .statics 11 },
  { cls := 31, slots := #[], vm := .none },
  { cls := 31, slots := #[], vm := .none }]
def classes : Array Class := #[k0, k1, k2, k3, k4, k5, k6, k7, k8, k9, k10, k11, k12, k13, k14, k15, k16, k17, k18, k19, k20, k21, k22, k23, k24, k25, k26, k27, k28, k29, k30, k31]
def interned : List (Array UInt16 × Addr) := []
def slotsUsed : Nat := 4
def theMethod : MethodId := ⟨1, 1⟩
def args0 : Array Value := #[.int 5, .long 6, .long 7, .long 8]
def aboutOver (below : List Frame) : State where
  vm := { classes := classes, interned := interned.toArray }
  heap := heap
  slotsUsed := slotsUsed
  threads := #[{ frames := .invoking theMethod args0 :: below }]
def below0 : List Frame := [.native { method := ⟨0, 0⟩, args := #[] }]
def about1 : State := aboutOver below0
def p0 : Program := .bare "" "" ""
def e0 : Env := launch0.env 0 0 0
theorem w_frames : about1.frames = Frame.invoking theMethod args0 :: below0 := rfl
set_option maxRecDepth 65536 in
theorem w_args : argsFit about1.vm theMethod args0 = true := by decide +kernel
set_option maxRecDepth 65536 in
theorem w_heap : heapFits about1 = true := by decide +kernel
set_option maxRecDepth 65536 in
theorem w_runnable : about1.curStatus? = some .runnable := by decide +kernel
set_option maxRecDepth 65536 in
theorem w_alone : about1.alone = true := by decide +kernel
set_option maxRecDepth 65536 in
theorem w_named : about1.methodNamed? x = some theMethod := by decide +kernel
set_option maxRecDepth 65536 in
theorem w_hears : about1.hears theMethod below0 = true := by decide +kernel
set_option maxRecDepth 65536 in
theorem w_ripe : about1.ripe theMethod args0 below0 = true := by decide +kernel
theorem w_running : about1.status = .running := rfl
set_option maxRecDepth 65536 in
theorem w_room : about1.hasRoom e0.platform room_1 = true :=
  launch0.hasRoom_least _ room_1 (by decide +kernel) (by decide +kernel) (by decide +kernel) (by decide +kernel) (by decide +kernel) (by decide +kernel)
theorem allAtoms_all (ts : List Jvm.Cond) (a : Array Jvm.Value) (st : Jvm.State) : (allAtoms ts).before a st = ts.all (fun c => c.before a st) := by
  induction ts with
  | nil => rfl
  | cons c t ih =>
    show (Jvm.Cond.and c (allAtoms t)).before a st = _
    rw [Jvm.Cond.before_and, ih, List.all_cons]
def words1 : List Jvm.Cond := Jvm.Cond.code x code maxLocals ret :: tables_1
/-- a 'code' word, met by the world's own term for the bytes: nothing is compared byte by byte -/
theorem code_word {y : MethodName} {bytes : ByteArray} {mx : Nat} {rt : Option FieldType} {a : Array Value} {s : State} {m : MethodId} {meth : Method} {c : Code} (h1 : s.methodNamed? y = some m) (h2 : s.vm.method? m = some meth) (h3 : meth.code = some c) (h4 : c.code = bytes)
    (h5 : (c.maxLocals == mx && c.exceptionTable.isEmpty && decide (c.maxStack ≤ mostOperands) && decide (meth.sig.returnType = rt) && !meth.locks && decide (parseMethodDescriptor y.desc = some meth.sig)) = true) : (Jvm.Cond.code y bytes mx rt).before a s = true := by
  simp only [Bool.and_eq_true, beq_iff_eq, Bool.not_eq_true', decide_eq_true_eq] at h5
  obtain ⟨⟨⟨⟨⟨g1, g2⟩, g3⟩, g4⟩, g5⟩, g6⟩ := h5
  simp [Cond.before, Cond.holds, Cond.value, h1, h2, h3, h4, g1, g2, g3, g4, g5, g6]
def isCode : Jvm.Cond → Bool
  | .code _ _ _ _ => true
  | _ => false
theorem all_split {L : List Jvm.Cond} {P : Jvm.Cond → Bool} (h1 : L.all (fun c => isCode c || P c) = true) (h2 : ∀ c ∈ L.filter isCode, P c = true) : L.all P = true := by
  refine List.all_eq_true.mpr fun c hc => ?_
  have h := List.all_eq_true.mp h1 c hc
  rcases Bool.eq_false_or_eq_true (isCode c) with hi | hi
  · exact h2 c (List.mem_filter.mpr ⟨hc, hi⟩)
  · simpa [hi] using h
set_option maxRecDepth 65536 in
theorem w_c0 : (Jvm.Cond.code x code maxLocals ret).before args0 about1 = true := code_word (m := ⟨1, 1⟩) (meth := k1m1) (c := k1c1) (by decide +kernel) rfl rfl rfl (by decide +kernel)
set_option maxRecDepth 65536 in
theorem w_c1 : (Jvm.Cond.code ({ cls := "java/util/ArrayList", name := "<init>", desc := "()V" } : Jvm.MethodName) jdk_38_method_2_code (1 : Nat) (Option.none : Option Jvm.ClassFile.FieldType)).before args0 about1 = true := code_word (m := ⟨11, 0⟩) (meth := k11m0) (c := k11c0) (by decide +kernel) rfl rfl rfl (by decide +kernel)
set_option maxRecDepth 65536 in
theorem w_c2 : (Jvm.Cond.code ({ cls := "java/util/AbstractList", name := "<init>", desc := "()V" } : Jvm.MethodName) jdk_39_method_1_code (1 : Nat) (Option.none : Option Jvm.ClassFile.FieldType)).before args0 about1 = true := code_word (m := ⟨7, 0⟩) (meth := k7m0) (c := k7c0) (by decide +kernel) rfl rfl rfl (by decide +kernel)
set_option maxRecDepth 65536 in
theorem w_c3 : (Jvm.Cond.code ({ cls := "java/util/AbstractCollection", name := "<init>", desc := "()V" } : Jvm.MethodName) jdk_22_method_1_code (1 : Nat) (Option.none : Option Jvm.ClassFile.FieldType)).before args0 about1 = true := code_word (m := ⟨4, 0⟩) (meth := k4m0) (c := k4c0) (by decide +kernel) rfl rfl rfl (by decide +kernel)
set_option maxRecDepth 65536 in
theorem w_c4 : (Jvm.Cond.code ({ cls := "java/lang/Object", name := "<init>", desc := "()V" } : Jvm.MethodName) object_method_1_code (1 : Nat) (Option.none : Option Jvm.ClassFile.FieldType)).before args0 about1 = true := code_word (m := ⟨0, 0⟩) (meth := k0m0) (c := k0c0) (by decide +kernel) rfl rfl rfl (by decide +kernel)
set_option maxRecDepth 65536 in
theorem w_c5 : (Jvm.Cond.code ({ cls := "com/example/ken2/ken2/InterpretedSystem$Variable", name := "<init>", desc := "(Ljava/lang/String;Ljava/lang/String;Ljava/util/List;II)V" } : Jvm.MethodName) prog_64_method_1_code (6 : Nat) (Option.none : Option Jvm.ClassFile.FieldType)).before args0 about1 = true := code_word (m := ⟨13, 0⟩) (meth := k13m0) (c := k13c0) (by decide +kernel) rfl rfl rfl (by decide +kernel)
set_option maxRecDepth 65536 in
theorem w_c6 : (Jvm.Cond.code ({ cls := "java/lang/Record", name := "<init>", desc := "()V" } : Jvm.MethodName) jdk_30_method_1_code (1 : Nat) (Option.none : Option Jvm.ClassFile.FieldType)).before args0 about1 = true := code_word (m := ⟨12, 0⟩) (meth := k12m0) (c := k12c0) (by decide +kernel) rfl rfl rfl (by decide +kernel)
set_option maxRecDepth 65536 in
theorem w_c7 : (Jvm.Cond.code ({ cls := "java/util/ArrayList", name := "add", desc := "(Ljava/lang/Object;)Z" } : Jvm.MethodName) jdk_38_method_25_code (2 : Nat) (Option.some Jvm.ClassFile.FieldType.boolean)).before args0 about1 = true := code_word (m := ⟨11, 7⟩) (meth := k11m7) (c := k11c7) (by decide +kernel) rfl rfl rfl (by decide +kernel)
set_option maxRecDepth 65536 in
theorem w_c8 : (Jvm.Cond.code ({ cls := "java/util/ArrayList", name := "add", desc := "(Ljava/lang/Object;[Ljava/lang/Object;I)V" } : Jvm.MethodName) jdk_38_method_24_code (4 : Nat) (Option.none : Option Jvm.ClassFile.FieldType)).before args0 about1 = true := code_word (m := ⟨11, 6⟩) (meth := k11m6) (c := k11c6) (by decide +kernel) rfl rfl rfl (by decide +kernel)
set_option maxRecDepth 65536 in
theorem w_c9 : (Jvm.Cond.code ({ cls := "java/util/ArrayList", name := "grow", desc := "()[Ljava/lang/Object;" } : Jvm.MethodName) jdk_38_method_7_code (1 : Nat) (Option.some (Jvm.ClassFile.FieldType.array (Jvm.ClassFile.FieldType.object "java/lang/Object")))).before args0 about1 = true := code_word (m := ⟨11, 2⟩) (meth := k11m2) (c := k11c2) (by decide +kernel) rfl rfl rfl (by decide +kernel)
set_option maxRecDepth 65536 in
theorem w_c10 : (Jvm.Cond.code ({ cls := "java/util/ArrayList", name := "grow", desc := "(I)[Ljava/lang/Object;" } : Jvm.MethodName) jdk_38_method_6_code (4 : Nat) (Option.some (Jvm.ClassFile.FieldType.array (Jvm.ClassFile.FieldType.object "java/lang/Object")))).before args0 about1 = true := code_word (m := ⟨11, 1⟩) (meth := k11m1) (c := k11c1) (by decide +kernel) rfl rfl rfl (by decide +kernel)
set_option maxRecDepth 65536 in
theorem w_c11 : (Jvm.Cond.code ({ cls := "java/lang/Math", name := "max", desc := "(II)I" } : Jvm.MethodName) jdk_29_method_65_code (2 : Nat) (Option.some Jvm.ClassFile.FieldType.int)).before args0 about1 = true := code_word (m := ⟨19, 1⟩) (meth := k19m1) (c := k19c1) (by decide +kernel) rfl rfl rfl (by decide +kernel)
set_option maxRecDepth 65536 in
theorem w_c12 : (Jvm.Cond.code ({ cls := "com/example/ken2/ken2/StateLayout", name := "<init>", desc := "(Ljava/util/List;)V" } : Jvm.MethodName) prog_112_method_1_code (7 : Nat) (Option.none : Option Jvm.ClassFile.FieldType)).before args0 about1 = true := code_word (m := ⟨20, 0⟩) (meth := k20m0) (c := k20c0) (by decide +kernel) rfl rfl rfl (by decide +kernel)
set_option maxRecDepth 65536 in
theorem w_c13 : (Jvm.Cond.code ({ cls := "java/util/ArrayList", name := "size", desc := "()I" } : Jvm.MethodName) jdk_38_method_8_code (1 : Nat) (Option.some Jvm.ClassFile.FieldType.int)).before args0 about1 = true := code_word (m := ⟨11, 3⟩) (meth := k11m3) (c := k11c3) (by decide +kernel) rfl rfl rfl (by decide +kernel)
set_option maxRecDepth 65536 in
theorem w_c14 : (Jvm.Cond.code ({ cls := "java/util/ArrayList", name := "get", desc := "(I)Ljava/lang/Object;" } : Jvm.MethodName) jdk_38_method_20_code (2 : Nat) (Option.some (Jvm.ClassFile.FieldType.object "java/lang/Object"))).before args0 about1 = true := code_word (m := ⟨11, 5⟩) (meth := k11m5) (c := k11c5) (by decide +kernel) rfl rfl rfl (by decide +kernel)
set_option maxRecDepth 65536 in
theorem w_c15 : (Jvm.Cond.code ({ cls := "java/util/Objects", name := "checkIndex", desc := "(II)I" } : Jvm.MethodName) jdk_31_method_17_code (2 : Nat) (Option.some Jvm.ClassFile.FieldType.int)).before args0 about1 = true := code_word (m := ⟨21, 1⟩) (meth := k21m1) (c := k21c1) (by decide +kernel) rfl rfl rfl (by decide +kernel)
set_option maxRecDepth 65536 in
theorem w_c16 : (Jvm.Cond.code ({ cls := "jdk/internal/util/Preconditions", name := "checkIndex", desc := "(IILjava/util/function/BiFunction;)I" } : Jvm.MethodName) jdk_41_method_11_code (3 : Nat) (Option.some Jvm.ClassFile.FieldType.int)).before args0 about1 = true := code_word (m := ⟨22, 1⟩) (meth := k22m1) (c := k22c1) (by decide +kernel) rfl rfl rfl (by decide +kernel)
set_option maxRecDepth 65536 in
theorem w_c17 : (Jvm.Cond.code ({ cls := "java/util/ArrayList", name := "elementData", desc := "(I)Ljava/lang/Object;" } : Jvm.MethodName) jdk_38_method_18_code (2 : Nat) (Option.some (Jvm.ClassFile.FieldType.object "java/lang/Object"))).before args0 about1 = true := code_word (m := ⟨11, 4⟩) (meth := k11m4) (c := k11c4) (by decide +kernel) rfl rfl rfl (by decide +kernel)
set_option maxRecDepth 65536 in
theorem w_c18 : (Jvm.Cond.code ({ cls := "com/example/ken2/ken2/InterpretedSystem$Variable", name := "size", desc := "()I" } : Jvm.MethodName) prog_64_method_15_code (1 : Nat) (Option.some Jvm.ClassFile.FieldType.int)).before args0 about1 = true := code_word (m := ⟨13, 1⟩) (meth := k13m1) (c := k13c1) (by decide +kernel) rfl rfl rfl (by decide +kernel)
set_option maxRecDepth 65536 in
theorem w_c19 : (Jvm.Cond.code ({ cls := "java/lang/Integer", name := "numberOfLeadingZeros", desc := "(I)I" } : Jvm.MethodName) jdk_33_method_47_code (2 : Nat) (Option.some Jvm.ClassFile.FieldType.int)).before args0 about1 = true := code_word (m := ⟨24, 0⟩) (meth := k24m0) (c := k24c0) (by decide +kernel) rfl rfl rfl (by decide +kernel)
set_option maxRecDepth 65536 in
theorem w_c20 : (Jvm.Cond.code ({ cls := "com/example/ken2/ken2/StateLayout", name := "set", desc := "([JIJ)V" } : Jvm.MethodName) prog_112_method_9_code (7 : Nat) (Option.none : Option Jvm.ClassFile.FieldType)).before args0 about1 = true := code_word (m := ⟨20, 3⟩) (meth := k20m3) (c := k20c3) (by decide +kernel) rfl rfl rfl (by decide +kernel)
set_option maxRecDepth 65536 in
theorem w_c21 : (Jvm.Cond.code ({ cls := "com/example/ken2/ken2/StateLayout", name := "value", desc := "([JI)I" } : Jvm.MethodName) prog_112_method_5_code (3 : Nat) (Option.some Jvm.ClassFile.FieldType.int)).before args0 about1 = true := code_word (m := ⟨20, 1⟩) (meth := k20m1) (c := k20c1) (by decide +kernel) rfl rfl rfl (by decide +kernel)
set_option maxRecDepth 65536 in
theorem w_c22 : (Jvm.Cond.code ({ cls := "com/example/ken2/ken2/StateLayout", name := "valueAt", desc := "([JII)I" } : Jvm.MethodName) prog_112_method_6_code (4 : Nat) (Option.some Jvm.ClassFile.FieldType.int)).before args0 about1 = true := code_word (m := ⟨20, 2⟩) (meth := k20m2) (c := k20c2) (by decide +kernel) rfl rfl rfl (by decide +kernel)
def codes1 : List Jvm.Cond := [Jvm.Cond.code x code maxLocals ret, Jvm.Cond.code ({ cls := "java/util/ArrayList", name := "<init>", desc := "()V" } : Jvm.MethodName) jdk_38_method_2_code (1 : Nat) (Option.none : Option Jvm.ClassFile.FieldType), Jvm.Cond.code ({ cls := "java/util/AbstractList", name := "<init>", desc := "()V" } : Jvm.MethodName) jdk_39_method_1_code (1 : Nat) (Option.none : Option Jvm.ClassFile.FieldType), Jvm.Cond.code ({ cls := "java/util/AbstractCollection", name := "<init>", desc := "()V" } : Jvm.MethodName) jdk_22_method_1_code (1 : Nat) (Option.none : Option Jvm.ClassFile.FieldType), Jvm.Cond.code ({ cls := "java/lang/Object", name := "<init>", desc := "()V" } : Jvm.MethodName) object_method_1_code (1 : Nat) (Option.none : Option Jvm.ClassFile.FieldType), Jvm.Cond.code ({ cls := "com/example/ken2/ken2/InterpretedSystem$Variable", name := "<init>", desc := "(Ljava/lang/String;Ljava/lang/String;Ljava/util/List;II)V" } : Jvm.MethodName) prog_64_method_1_code (6 : Nat) (Option.none : Option Jvm.ClassFile.FieldType), Jvm.Cond.code ({ cls := "java/lang/Record", name := "<init>", desc := "()V" } : Jvm.MethodName) jdk_30_method_1_code (1 : Nat) (Option.none : Option Jvm.ClassFile.FieldType), Jvm.Cond.code ({ cls := "java/util/ArrayList", name := "add", desc := "(Ljava/lang/Object;)Z" } : Jvm.MethodName) jdk_38_method_25_code (2 : Nat) (Option.some Jvm.ClassFile.FieldType.boolean), Jvm.Cond.code ({ cls := "java/util/ArrayList", name := "add", desc := "(Ljava/lang/Object;[Ljava/lang/Object;I)V" } : Jvm.MethodName) jdk_38_method_24_code (4 : Nat) (Option.none : Option Jvm.ClassFile.FieldType), Jvm.Cond.code ({ cls := "java/util/ArrayList", name := "grow", desc := "()[Ljava/lang/Object;" } : Jvm.MethodName) jdk_38_method_7_code (1 : Nat) (Option.some (Jvm.ClassFile.FieldType.array (Jvm.ClassFile.FieldType.object "java/lang/Object"))), Jvm.Cond.code ({ cls := "java/util/ArrayList", name := "grow", desc := "(I)[Ljava/lang/Object;" } : Jvm.MethodName) jdk_38_method_6_code (4 : Nat) (Option.some (Jvm.ClassFile.FieldType.array (Jvm.ClassFile.FieldType.object "java/lang/Object"))), Jvm.Cond.code ({ cls := "java/lang/Math", name := "max", desc := "(II)I" } : Jvm.MethodName) jdk_29_method_65_code (2 : Nat) (Option.some Jvm.ClassFile.FieldType.int), Jvm.Cond.code ({ cls := "com/example/ken2/ken2/StateLayout", name := "<init>", desc := "(Ljava/util/List;)V" } : Jvm.MethodName) prog_112_method_1_code (7 : Nat) (Option.none : Option Jvm.ClassFile.FieldType), Jvm.Cond.code ({ cls := "java/util/ArrayList", name := "size", desc := "()I" } : Jvm.MethodName) jdk_38_method_8_code (1 : Nat) (Option.some Jvm.ClassFile.FieldType.int), Jvm.Cond.code ({ cls := "java/util/ArrayList", name := "get", desc := "(I)Ljava/lang/Object;" } : Jvm.MethodName) jdk_38_method_20_code (2 : Nat) (Option.some (Jvm.ClassFile.FieldType.object "java/lang/Object")), Jvm.Cond.code ({ cls := "java/util/Objects", name := "checkIndex", desc := "(II)I" } : Jvm.MethodName) jdk_31_method_17_code (2 : Nat) (Option.some Jvm.ClassFile.FieldType.int), Jvm.Cond.code ({ cls := "jdk/internal/util/Preconditions", name := "checkIndex", desc := "(IILjava/util/function/BiFunction;)I" } : Jvm.MethodName) jdk_41_method_11_code (3 : Nat) (Option.some Jvm.ClassFile.FieldType.int), Jvm.Cond.code ({ cls := "java/util/ArrayList", name := "elementData", desc := "(I)Ljava/lang/Object;" } : Jvm.MethodName) jdk_38_method_18_code (2 : Nat) (Option.some (Jvm.ClassFile.FieldType.object "java/lang/Object")), Jvm.Cond.code ({ cls := "com/example/ken2/ken2/InterpretedSystem$Variable", name := "size", desc := "()I" } : Jvm.MethodName) prog_64_method_15_code (1 : Nat) (Option.some Jvm.ClassFile.FieldType.int), Jvm.Cond.code ({ cls := "java/lang/Integer", name := "numberOfLeadingZeros", desc := "(I)I" } : Jvm.MethodName) jdk_33_method_47_code (2 : Nat) (Option.some Jvm.ClassFile.FieldType.int), Jvm.Cond.code ({ cls := "com/example/ken2/ken2/StateLayout", name := "set", desc := "([JIJ)V" } : Jvm.MethodName) prog_112_method_9_code (7 : Nat) (Option.none : Option Jvm.ClassFile.FieldType), Jvm.Cond.code ({ cls := "com/example/ken2/ken2/StateLayout", name := "value", desc := "([JI)I" } : Jvm.MethodName) prog_112_method_5_code (3 : Nat) (Option.some Jvm.ClassFile.FieldType.int), Jvm.Cond.code ({ cls := "com/example/ken2/ken2/StateLayout", name := "valueAt", desc := "([JII)I" } : Jvm.MethodName) prog_112_method_6_code (4 : Nat) (Option.some Jvm.ClassFile.FieldType.int)]
set_option maxRecDepth 65536 in
theorem codes_eq : words1.filter isCode = codes1 := rfl
theorem w_codes : ∀ c ∈ words1.filter isCode, c.before args0 about1 = true := by
  rw [codes_eq]
  intro c hc
  simp only [codes1, List.mem_cons, List.not_mem_nil, or_false] at hc
  rcases hc with rfl | rfl | rfl | rfl | rfl | rfl | rfl | rfl | rfl | rfl | rfl | rfl | rfl | rfl | rfl | rfl | rfl | rfl | rfl | rfl | rfl | rfl | rfl
  · exact w_c0
  · exact w_c1
  · exact w_c2
  · exact w_c3
  · exact w_c4
  · exact w_c5
  · exact w_c6
  · exact w_c7
  · exact w_c8
  · exact w_c9
  · exact w_c10
  · exact w_c11
  · exact w_c12
  · exact w_c13
  · exact w_c14
  · exact w_c15
  · exact w_c16
  · exact w_c17
  · exact w_c18
  · exact w_c19
  · exact w_c20
  · exact w_c21
  · exact w_c22
set_option maxRecDepth 65536 in
theorem w_t1 : (words1.take 24).all (fun c => isCode c || c.before args0 about1) = true := by decide +kernel
set_option maxRecDepth 65536 in
theorem w_t2 : ((words1.drop 24).take 24).all (fun c => isCode c || c.before args0 about1) = true := by decide +kernel
set_option maxRecDepth 65536 in
theorem w_t3 : (((words1.drop 24).drop 24).take 24).all (fun c => isCode c || c.before args0 about1) = true := by decide +kernel
set_option maxRecDepth 65536 in
theorem w_t4 : ((((words1.drop 24).drop 24).drop 24).take 24).all (fun c => isCode c || c.before args0 about1) = true := by decide +kernel
set_option maxRecDepth 65536 in
theorem w_t5 : (((((words1.drop 24).drop 24).drop 24).drop 24).take 24).all (fun c => isCode c || c.before args0 about1) = true := by decide +kernel
set_option maxRecDepth 65536 in
theorem w_t6 : ((((((words1.drop 24).drop 24).drop 24).drop 24).drop 24).take 24).all (fun c => isCode c || c.before args0 about1) = true := by decide +kernel
set_option maxRecDepth 65536 in
theorem w_t7 : (((((((words1.drop 24).drop 24).drop 24).drop 24).drop 24).drop 24).take 24).all (fun c => isCode c || c.before args0 about1) = true := by decide +kernel
set_option maxRecDepth 65536 in
theorem w_t8 : (((((((words1.drop 24).drop 24).drop 24).drop 24).drop 24).drop 24).drop 24).all (fun c => isCode c || c.before args0 about1) = true := by decide +kernel
theorem w_tables : (allAtoms (Jvm.Cond.code x code maxLocals ret :: tables_1)).before args0 about1 = true := by
  rw [allAtoms_all]
  show words1.all (fun c => c.before args0 about1) = true
  refine all_split ?_ w_codes
  rw [← List.take_append_drop 24 words1, List.all_append, w_t1, ← List.take_append_drop 24 (words1.drop 24), List.all_append, w_t2, ← List.take_append_drop 24 ((words1.drop 24).drop 24), List.all_append, w_t3, ← List.take_append_drop 24 (((words1.drop 24).drop 24).drop 24), List.all_append, w_t4, ← List.take_append_drop 24 ((((words1.drop 24).drop 24).drop 24).drop 24), List.all_append, w_t5, ← List.take_append_drop 24 (((((words1.drop 24).drop 24).drop 24).drop 24).drop 24), List.all_append, w_t6, ← List.take_append_drop 24 ((((((words1.drop 24).drop 24).drop 24).drop 24).drop 24).drop 24), List.all_append, w_t7, w_t8]
  rfl
set_option maxRecDepth 65536 in
theorem w_rest : rest_1_c.before args0 about1 = true := by decide +kernel
set_option maxRecDepth 65536 in
theorem w_case : (Jvm.Cond.and given_1 narrow_1).before args0 about1 = true := by decide +kernel
theorem w_applies : (headSpec (Jvm.Cond.code x code maxLocals ret :: tables_1) room_1).applies x e0.platform about1 = true :=
  (Spec.applies_iff w_frames).mpr ⟨w_running, w_runnable, w_alone, w_named, w_hears, w_ripe, w_room, w_tables⟩
theorem atStart : AtStart classFile x code maxLocals ret World_1 tables_1 room_1 Calls_1 rest_1 Pre_1 launch0 p0 e0 about1 theMethod args0 below0 :=
  ⟨lists_1, trivial, launch0.admits_env _ _ _, launch0.least_env, fairChoices_fair.cas, fairChoices_fair.clock, w_frames, w_args, w_heap, w_applies, trivial, w_rest, w_case⟩
end start1
theorem witness_1 : WitnessClaimed_1 := ⟨start1.p0, start1.e0, start1.about1, start1.theMethod, start1.args0, start1.below0, start1.atStart⟩
end Jvm.Pilot.@@N@@
