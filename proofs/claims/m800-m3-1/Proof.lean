import JvmDerived
import JvmDerived.Pilot.@@N@@Statement
import JvmDerived.Pilot.@@N@@Code
set_option linter.unusedVariables false
set_option linter.unusedSimpArgs false
@@BLOCK:NumsL.lean.txt@@
namespace Jvm.RoadKit
open Sem ClassFile Op Lib Jvm.Stand Jvm.Free Jvm.LawKit
section OwnKit
theorem wm {α : Type} {l : List α} {a : α} (i : Nat) (h : l[i]? = some a) : a ∈ l := List.mem_of_getElem? h
variable {p : Program} {l : Launch} {e : Env} {R : Room} {s : State} {m : MethodId} {args : Array Value} {below : List Frame} {meth : Method} {c : Code} {T T' : State} {locs locs' : List Loc} {k n k' n' : Nat} {Z : State} {a0 : Array Value} {h h' h0 : Heap}
theorem retI (X : Stand p l e R s m args below meth c T locs k n) (hx : p.tables.exec = Jvm.exec) {pc : Nat} {Ls : Array Slot} {z : Int32} {rest : List Value} (hret : meth.sig.returnType = some .int) (hd : decode c.code pc = .ok (.ireturn, 1)) {fs : List Frame}
    (hl : ∀ (f : JFrame) (acts : List Action), f.method = m → f.locked = none → f.entered = [] → (doReturn e (T.setTop f) acts (some (.int z))).1 = T.setFrames fs) : Steps p.tables e below (T.setTop (mkF m pc Ls (.int z :: rest))) (T.setFrames fs) := by
  have hm' : T.vm.method? m = some meth := X.method'
  have hn : narrow .int (.int z) = .int z := rfl
  show Steps p.tables e below (T.setTop { method := m, pc := pc, locals := Ls, stack := _ :: rest, locked := none }) _
  jvm_step X.here [X.here.top, hx, hd, hm', hret, hn]
  first | (intro acts; rw [hl _ acts rfl rfl rfl]) | rw [hl _ _ rfl rfl rfl]
  exact Steps.refl _
/-- how a body may end: the instruction, the method's return type, what lies on the stack, what is handed back -/
def OwnRet (i : Instr) (ret : Option FieldType) (w v : Option Value) : Prop :=
  (i = .ireturn ∧ ∃ z : Int32, ret = some .int ∧ w = some (.int z) ∧ v = some (.int z)) ∨
  (i = .ireturn ∧ ∃ (t : FieldType) (z : Int32), ret = some t ∧ (t = .boolean ∨ t = .byte ∨ t = .char ∨ t = .short) ∧ w = some (.int z) ∧ v = some (.int (nar t z))) ∨
  (i = .lreturn ∧ ret = some .long ∧ ∃ z : Int64, w = some (.long z) ∧ v = some (.long z)) ∨
  (i = .areturn ∧ ∃ (t : FieldType) (u : Value), ret = some t ∧ t.isReference = true ∧ u.isRef = true ∧ narrow t u = u ∧ w = some u ∧ v = some u) ∨
  (i = .return_ ∧ ret = none ∧ w = none ∧ v = none)
/-- from the frame g the body comes to its return and leaves what Q says -/
def OwnFin (_X : Stand p l e R s m args below meth c T locs k n) (ret : Option FieldType) (Q : Option Value → Heap → List Loc → Prop) (K N : Nat) (g : JFrame) : Prop :=
  ∃ (i : Instr) (w v : Option Value) (T' : State) (locs' : List Loc) (k' n' pcr : Nat) (Ls : Array Slot), OwnRet i ret w v ∧ Stand p l e R s m args below meth c T' locs' k' n' ∧ k' ≤ K ∧ n' ≤ N ∧ Q v T'.heap locs' ∧ decode c.code pcr = .ok (i, 1) ∧
    ∀ t, Steps p.tables e below (T'.setTop (mkF m pcr Ls w.toList)) t → Steps p.tables e below (T.setTop g) t
variable {ret : Option FieldType} {Q : Option Value → Heap → List Loc → Prop} {K N : Nat} {g g' : JFrame}
theorem OwnFin.step {X : Stand p l e R s m args below meth c T locs k n} (X' : Stand p l e R s m args below meth c T' locs' k' n') (hs : ∀ t, Steps p.tables e below (T'.setTop g') t → Steps p.tables e below (T.setTop g) t) (hF : OwnFin X' ret Q K N g') : OwnFin X ret Q K N g := by
  obtain ⟨i, w, v, T2, locs2, k2, n2, pcr, Ls, h1, h2, h3, h4, h5, h6, h7⟩ := hF
  exact ⟨i, w, v, T2, locs2, k2, n2, pcr, Ls, h1, h2, h3, h4, h5, h6, fun t k => hs t (h7 t k)⟩
theorem ost (g' : JFrame) {X : Stand p l e R s m args below meth c T locs k n} (X' : Stand p l e R s m args below meth c T' locs' k' n') (hs : ∀ t, Steps p.tables e below (T'.setTop g') t → Steps p.tables e below (T.setTop g) t) (hF : OwnFin X' ret Q K N g') : OwnFin X ret Q K N g := OwnFin.step X' hs hF
theorem OwnFin.retInt (X : Stand p l e R s m args below meth c T locs k n) {pc : Nat} {Ls : Array Slot} {z : Int32} (hd : decode c.code pc = .ok (.ireturn, 1)) (hk : k ≤ K) (hn : n ≤ N) (hQ : Q (some (.int z)) T.heap locs) : OwnFin X (some .int) Q K N (mkF m pc Ls [.int z]) :=
  ⟨.ireturn, some (.int z), _, T, locs, k, n, pc, Ls, Or.inl ⟨rfl, z, rfl, rfl, rfl⟩, X, hk, hn, hQ, hd, fun _ k => k⟩
theorem OwnFin.retNar (X : Stand p l e R s m args below meth c T locs k n) {t : FieldType} (ht : t = .boolean ∨ t = .byte ∨ t = .char ∨ t = .short) {pc : Nat} {Ls : Array Slot} {z : Int32} (hd : decode c.code pc = .ok (.ireturn, 1)) (hk : k ≤ K) (hn : n ≤ N) (hQ : Q (some (.int (nar t z))) T.heap locs) : OwnFin X (some t) Q K N (mkF m pc Ls [.int z]) :=
  ⟨.ireturn, some (.int z), _, T, locs, k, n, pc, Ls, Or.inr (Or.inl ⟨rfl, t, z, rfl, ht, rfl, rfl⟩), X, hk, hn, hQ, hd, fun _ k => k⟩
theorem OwnFin.retLong (X : Stand p l e R s m args below meth c T locs k n) {pc : Nat} {Ls : Array Slot} {z : Int64} (hd : decode c.code pc = .ok (.lreturn, 1)) (hk : k ≤ K) (hn : n ≤ N) (hQ : Q (some (.long z)) T.heap locs) : OwnFin X (some .long) Q K N (mkF m pc Ls [.long z]) :=
  ⟨.lreturn, some (.long z), _, T, locs, k, n, pc, Ls, Or.inr (Or.inr (Or.inl ⟨rfl, rfl, z, rfl, rfl⟩)), X, hk, hn, hQ, hd, fun _ k => k⟩
theorem OwnFin.retRef (X : Stand p l e R s m args below meth c T locs k n) {t : FieldType} {u : Value} (ht : t.isReference = true) (hu : u.isRef = true) (hnw : narrow t u = u) {pc : Nat} {Ls : Array Slot} (hd : decode c.code pc = .ok (.areturn, 1)) (hk : k ≤ K) (hn : n ≤ N) (hQ : Q (some u) T.heap locs) : OwnFin X (some t) Q K N (mkF m pc Ls [u]) :=
  ⟨.areturn, some u, _, T, locs, k, n, pc, Ls, Or.inr (Or.inr (Or.inr (Or.inl ⟨rfl, t, u, rfl, ht, hu, hnw, rfl, rfl⟩))), X, hk, hn, hQ, hd, fun _ k => k⟩
theorem OwnFin.retVoid (X : Stand p l e R s m args below meth c T locs k n) {pc : Nat} {Ls : Array Slot} (hd : decode c.code pc = .ok (.return_, 1)) (hk : k ≤ K) (hn : n ≤ N) (hQ : Q none T.heap locs) : OwnFin X none Q K N (mkF m pc Ls []) :=
  ⟨.return_, none, _, T, locs, k, n, pc, Ls, Or.inr (Or.inr (Or.inr (Or.inr ⟨rfl, rfl, rfl, rfl⟩))), X, hk, hn, hQ, hd, fun _ k => k⟩
theorem own_met {y : MethodName} {bytes : ByteArray} {maxL : Nat} {rm : Room} {ws : List Jvm.Cond} {as' : Array Value} {Ls : Array Slot} (hpf : plainFor y = true) (hent : ∀ m, entryFrame m as' maxL = mkF m 0 Ls [])
    (H : ∀ p e s m below meth c s₁ (X : Stand p l e rm s m as' below meth c s₁ [] 0 0), p.tables.exec = Jvm.exec → c.code = bytes → c.maxLocals = maxL → s.vm.findClass y.cls = some m.cls → meth.name = y.name → Z.Warmed39 s.vm → s₁.heap = h0 → OwnFin X ret Q rm.cells rm.slots (mkF m 0 Ls [])) :
    MetFree l y (head1 (Jvm.Cond.code y bytes maxL ret :: ws) rm) (fun a U => a = as' ∧ Z.Warmed39 U.vm ∧ U.heap = h0) (fun _ _ _ _ _ => True) (fun _ U o U' => ∃ v L, o = .returned v ∧ Q v U'.heap L ∧ FrameEnd U o U' L rm.cells rm.slots) := by
  refine MetFree.of_bodySF hpf hisR ?_
  intro p e s m args below meth c s₁ Bd hml0 hP hK
  obtain ⟨rfl, hZ, hh⟩ := hP
  have hx := Bd.exec
  have hby := Bd.bytes
  have hown : s.vm.findClass y.cls = some m.cls := findClass_of_methodNamed Bd.named
  have hnm := (name_of_methodNamed Bd.named Bd.method).1
  have X0 : Stand p l e rm s m args below meth c s₁ [] 0 0 := Stand.of_body Bd
  have e0 : s₁.heap = h0 := by rw [← hh, Bd.state]; rfl
  obtain ⟨i, w, v, T2, locs2, k2, n2, pcr, Ls2, h1, X2, h3, h4, h5, h6, h7⟩ := H p e s m below meth c s₁ X0 hx hby hml0 hown hnm hZ e0
  have hret := Bd.returns
  have hv : meth.sig.returnType = none → v = none := by
    intro q
    rw [hret] at q
    rcases h1 with ⟨-, z, hr, -⟩ | ⟨-, t, z, hr, -⟩ | ⟨-, hr, -⟩ | ⟨-, t, u, hr, -⟩ | ⟨-, -, -, hr⟩
    · rw [hr] at q; cases q
    · rw [hr] at q; cases q
    · rw [hr] at q; cases q
    · rw [hr] at q; cases q
    · exact hr
  obtain ⟨fs, hr, hrun, hended, hW, hsame⟩ := X2.leave (v := v) hv
  refine ⟨_, _, ?_, hrun, hended, _, _, rfl, h5, ⟨_, rfl⟩, hW, hsame.mono h3 h4⟩
  rw [hent]
  apply h7
  rcases h1 with ⟨rfl, z, rfl, rfl, rfl⟩ | ⟨rfl, t, z, rfl, ht, rfl, rfl⟩ | ⟨rfl, rfl, z, rfl, rfl⟩ | ⟨rfl, t, u, rfl, ht, hu, hnw, rfl, rfl⟩ | ⟨rfl, rfl, rfl, rfl⟩
  · exact retI X2 hx hret h6 hr
  · exact retN X2 hx hret ht h6 hr
  · exact retOut X2 hx hret rfl (Or.inr (Or.inl ⟨rfl, rfl, z, rfl⟩)) h6 hr
  · exact retOut X2 hx hret hnw (Or.inr (Or.inr (Or.inr (Or.inr ⟨rfl, ht, hu⟩)))) h6 hr
  · exact X2.returnOut hx hret h6 hr
theorem OwnFin.wide {X : Stand p l e R s m args below meth c T locs k n} {K' N' : Nat} (F : OwnFin X ret Q K N g) (h1 : K ≤ K') (h2 : N ≤ N') : OwnFin X ret Q K' N' g := by
  obtain ⟨i, w, v, T2, locs2, k2, n2, pcr, Ls, q1, q2, q3, q4, q5, q6, q7⟩ := F
  exact ⟨i, w, v, T2, locs2, k2, n2, pcr, Ls, q1, q2, Nat.le_trans q3 h1, Nat.le_trans q4 h2, q5, q6, q7⟩
/-- a callee that leaves the heap alone: what it hands back -/
def PQ (w : Option Value) (h0 : Heap) (n0 : Nat) : Option Value → Heap → List Loc → Prop := fun v h L => v = w ∧ h = h0 ∧ Fr n0 L
def LQ (n0 : Nat) : Option Value → Heap → List Loc → Prop := fun v _ L => v = some (.int 1) ∧ Fr n0 L
theorem own_callS (X : Stand p l e R s m args below meth c T locs k n) (hx : p.tables.exec = Jvm.exec) (hZ : Z.Warmed39 s.vm) {own : String} {index : Nat} {y : MethodName} {bytes : ByteArray} {maxL W : Nat} {rt : Option FieldType} {rm : Room} {argsL rest : List Value} {ps : List FieldType} {r : Option FieldType} {Qc : Option Value → Heap → List Loc → Prop}
    (hown : s.vm.findClass own = some m.cls) (w1 : (Jvm.Cond.methodLink own index y).before a0 Z = true) (w2 : (Jvm.Cond.static y).before a0 Z = true) (w3 : (Jvm.Cond.initialized y.cls).before a0 Z = true) (w4 : (Jvm.Cond.code y bytes maxL rt).before a0 Z = true) (hy : y.cls ≠ "java/lang/invoke/MethodHandle" ∧ y.cls ≠ "java/lang/invoke/VarHandle")
    (hM : MetFree l y (head1 [Jvm.Cond.code y bytes maxL rt] rm) (fun a U => a = argsL.toArray ∧ Z.Warmed39 U.vm ∧ U.heap = h) (fun _ _ _ _ _ => True) (fun _ U o U' => ∃ v L, o = .returned v ∧ Qc v U'.heap L ∧ FrameEnd U o U' L rm.cells rm.slots))
    (hf : rm.frames + 1 ≤ R.frames) (hl : W + (maxL + 11) + rm.locals ≤ R.locals) (hc : k + rm.cells ≤ R.cells) (hs : n + rm.slots ≤ R.slots) (eT : T.heap = h)
    (hg : g.method = m) (hsize : g.locals.size = c.maxLocals) (hd : parseMethodDescriptor y.desc = some ⟨ps, r⟩) (hlen : argsL.length = ps.length) (hstack : g.stack = argsL.reverse ++ rest) (hW : 2 * g.monitorRoom + (rest.map fun v => v.category).sum ≤ W) (hdg : decode c.code g.pc = .ok (.invokestatic index, 3)) :
    ∃ v T' L, Stand p l e R s m args below meth c T' (locs ++ L) (k + rm.cells) (n + rm.slots) ∧ Qc v T'.heap L ∧ ∀ t, Steps p.tables e below (T'.setTop { g with pc := g.pc + 3, stack := v.toList ++ rest }) t → Steps p.tables e below (T.setTop g) t := by
  obtain ⟨v, vm1, ⟨T', L', k', n'⟩, -, X', ⟨Lc, hQ, l1, y1, z1⟩, st⟩ := Jvm.LawKit.callS X hx (y := y) hown (mvT hZ w1) (mvT hZ w2) (mvT hZ w3) (mvT hZ w4) hy (backOf (W := W) hM hZ w4 w3 hf hl) hg hsize (argsL := argsL) (rest := rest) (lenOf hd hlen) hstack hW hdg (fun _ _ => ⟨rfl, eT, hc, hs⟩)
  dsimp only [Pt.U, Pt.locs, Pt.cells, Pt.slots] at X' l1 y1 z1 st hQ
  subst l1 y1 z1
  exact ⟨v, T', Lc, X', hQ, st⟩
theorem own_callI (X : Stand p l e R s m args below meth c T locs k n) (hx : p.tables.exec = Jvm.exec) (hZ : Z.Warmed39 s.vm) {own : String} {index : Nat} {y : MethodName} {bytes : ByteArray} {maxL W : Nat} {rm : Room} {a : Addr} {argsL rest : List Value} {ps : List FieldType} {r : Option FieldType} {Qc : Option Value → Heap → List Loc → Prop}
    (hy1 : y.name = "<init>") (hown : s.vm.findClass own = some m.cls) (w1 : (Jvm.Cond.methodLink own index y).before a0 Z = true) (w2 : (Jvm.Cond.instanceMethod y).before a0 Z = true) (w3 : (Jvm.Cond.initialized y.cls).before a0 Z = true) (w4 : (Jvm.Cond.code y bytes maxL none).before a0 Z = true) (hy : y.cls ≠ "java/lang/invoke/MethodHandle" ∧ y.cls ≠ "java/lang/invoke/VarHandle")
    (hM : MetFree l y (head1 [Jvm.Cond.code y bytes maxL none] rm) (fun a' U => a' = (Value.ref a :: argsL).toArray ∧ Z.Warmed39 U.vm ∧ U.heap = h) (fun _ _ _ _ _ => True) (fun _ U o U' => ∃ v L, o = .returned v ∧ Qc v U'.heap L ∧ FrameEnd U o U' L rm.cells rm.slots))
    (hf : rm.frames + 1 ≤ R.frames) (hl : W + (maxL + 11) + rm.locals ≤ R.locals) (hc : k + rm.cells ≤ R.cells) (hs : n + rm.slots ≤ R.slots) (eT : T.heap = h)
    (hg : g.method = m) (hsize : g.locals.size = c.maxLocals) (hd : parseMethodDescriptor y.desc = some ⟨ps, r⟩) (hlen : argsL.length = ps.length) (hstack : g.stack = argsL.reverse ++ .ref a :: rest) (hW : 2 * g.monitorRoom + (rest.map fun v => v.category).sum ≤ W) (hdg : decode c.code g.pc = .ok (.invokespecial index, 3)) :
    ∃ v T' L, Stand p l e R s m args below meth c T' (locs ++ L) (k + rm.cells) (n + rm.slots) ∧ Qc v T'.heap L ∧ ∀ t, Steps p.tables e below (T'.setTop { g with pc := g.pc + 3, stack := v.toList ++ rest }) t → Steps p.tables e below (T.setTop g) t := by
  obtain ⟨v, vm1, ⟨T', L', k', n'⟩, -, X', ⟨Lc, hQ, l1, y1, z1⟩, st⟩ := X.specialBack hx (y := y) hy1 hown (mvT hZ w1) (mvT hZ w2) (mvT hZ w4) hy (backOf (W := W) hM hZ w4 w3 hf hl) hg hsize (Steps.refl _) (a := a) (argsL := argsL) (rest := rest) (lenOf hd hlen) hstack hW hdg (fun _ _ => ⟨rfl, eT, hc, hs⟩)
  dsimp only [Pt.U, Pt.locs, Pt.cells, Pt.slots] at X' l1 y1 z1 st hQ
  subst l1 y1 z1
  exact ⟨v, T', Lc, X', hQ, fun t k => st.trans k⟩
theorem own_callV (X : Stand p l e R s m args below meth c T locs k n) (hx : p.tables.exec = Jvm.exec) (hZ : Z.Warmed39 s.vm) {own C : String} {index : Nat} {y : MethodName} {bytes : ByteArray} {maxL W : Nat} {rt : Option FieldType} {rm : Room} {a : Addr} {argsL rest : List Value} {ps : List FieldType} {r : Option FieldType} {Qc : Option Value → Heap → List Loc → Prop}
    (hown : s.vm.findClass own = some m.cls) (w1 : (Jvm.Cond.methodLink own index y).before a0 Z = true) (w2 : (Jvm.Cond.declares y).before a0 Z = true) (w5 : (Jvm.Cond.selects C y y).before a0 Z = true) (w6 : (Jvm.Cond.instanceMethod y).before a0 Z = true) (w3 : (Jvm.Cond.initialized y.cls).before a0 Z = true) (w4 : (Jvm.Cond.code y bytes maxL rt).before a0 Z = true) (hy : y.cls ≠ "java/lang/invoke/MethodHandle" ∧ y.cls ≠ "java/lang/invoke/VarHandle")
    (E : Exa Z h a C)
    (hM : MetFree l y (head1 [Jvm.Cond.code y bytes maxL rt] rm) (fun a' U => a' = (Value.ref a :: argsL).toArray ∧ Z.Warmed39 U.vm ∧ U.heap = h) (fun _ _ _ _ _ => True) (fun _ U o U' => ∃ v L, o = .returned v ∧ Qc v U'.heap L ∧ FrameEnd U o U' L rm.cells rm.slots))
    (hf : rm.frames + 1 ≤ R.frames) (hl : W + (maxL + 11) + rm.locals ≤ R.locals) (hc : k + rm.cells ≤ R.cells) (hs : n + rm.slots ≤ R.slots) (eT : T.heap = h)
    (hg : g.method = m) (hsize : g.locals.size = c.maxLocals) (hd : parseMethodDescriptor y.desc = some ⟨ps, r⟩) (hlen : argsL.length = ps.length) (hstack : g.stack = argsL.reverse ++ .ref a :: rest) (hW : 2 * g.monitorRoom + (rest.map fun v => v.category).sum ≤ W) (hdg : decode c.code g.pc = .ok (.invokevirtual index, 3)) :
    ∃ v T' L, Stand p l e R s m args below meth c T' (locs ++ L) (k + rm.cells) (n + rm.slots) ∧ Qc v T'.heap L ∧ ∀ t, Steps p.tables e below (T'.setTop { g with pc := g.pc + 3, stack := v.toList ++ rest }) t → Steps p.tables e below (T.setTop g) t := by
  obtain ⟨cq, kq, q1, q2, q3⟩ := isOf hZ eT E
  obtain ⟨v, vm1, ⟨T', L', k', n'⟩, -, X', ⟨Lc, hQ, l1, y1, z1⟩, st⟩ := X.virtualBack hx (y := y) (z := y) hown (mvT hZ w1) (mvT hZ w2) (notFace_of_selects (args := #[]) (mvT hZ w5)) (mvT hZ w5) (mvT hZ w6) hy (backOf (W := W) hM hZ w4 w3 hf hl) q1 q3 hg hsize (Steps.refl _) (argsL := argsL) (rest := rest) (lenOf hd hlen) hstack hW hdg (fun _ _ => ⟨rfl, eT, hc, hs⟩)
  dsimp only [Pt.U, Pt.locs, Pt.cells, Pt.slots] at X' l1 y1 z1 st hQ
  subst l1 y1 z1
  exact ⟨v, T', Lc, X', hQ, fun t k => st.trans k⟩
theorem lrem_eq_mod (x y : Int64) : x - (x / y) * y = x % y := by
  apply Int64.toInt_inj.mp
  have h1 := Int64.le_toInt (x % y)
  have h2 := Int64.toInt_lt (x % y)
  rw [Int64.toInt_sub, Int64.toInt_mul, Int64.toInt_div, Int.bmod_mul_bmod, Int.sub_bmod_bmod, Int.mul_comm (x.toInt.tdiv y.toInt), ← Int.tmod_def, ← Int64.toInt_mod]
  exact Int.bmod_eq_of_le_mul_two (by omega) (by omega)
theorem own_lrem (X : Stand p l e R s m args below meth c T locs k n) (hx : p.tables.exec = Jvm.exec) (hg : g.method = m) {x y : Int64} {rest : List Value} (hd : decode c.code g.pc = .ok (.lrem, 1)) (hs : g.stack = .long y :: .long x :: rest) (hy : y ≠ 0) {target : State}
    (hr : Steps p.tables e below (T.setTop { g with pc := g.pc + 1, stack := .long (x % y) :: rest }) target) : Steps p.tables e below (T.setTop g) target := by
  exact XT.lrem X.here hx hg hd hs hy (by rw [lrem_eq_mod]; exact hr)
theorem cl_lt (x y : Int64) : XT.cmpL x y < 0 ↔ x < y := by
  unfold XT.cmpL
  split
  · rename_i q; simp only [Int64.lt_iff_toInt_lt] at *; constructor <;> intro w <;> first | (exact absurd w (by decide)) | omega
  · split
    · rename_i q r; subst r; constructor <;> intro w
      · exact absurd w (by decide)
      · exact absurd w q
    · rename_i q r; constructor <;> intro w
      · simp only [Int64.lt_iff_toInt_lt, ← Int64.toInt_inj] at *; omega
      · decide
theorem cl_gt (x y : Int64) : 0 < XT.cmpL x y ↔ y < x := by
  unfold XT.cmpL
  split
  · rename_i q; exact ⟨fun _ => q, fun _ => by decide⟩
  · rename_i q
    constructor
    · intro w; split at w <;> exact absurd w (by decide)
    · intro w; exact absurd w q
theorem cl_eq (x y : Int64) : XT.cmpL x y = 0 ↔ x = y := by
  unfold XT.cmpL
  split
  · rename_i q; constructor
    · intro w; exact absurd w (by decide)
    · intro w; subst w; simp only [Int64.lt_iff_toInt_lt] at q; omega
  · split
    · rename_i r; exact ⟨fun _ => r, fun _ => rfl⟩
    · rename_i r; constructor
      · intro w; exact absurd w (by decide)
      · intro w; exact absurd w r
end OwnKit
end Jvm.RoadKit
namespace Jvm.RoadKit
open Sem ClassFile Op Lib Jvm.Stand Jvm.Free Jvm.LawKit
section OwnHeap
variable {p : Program} {l : Launch} {e : Env} {R : Room} {s : State} {m : MethodId} {args : Array Value} {below : List Frame} {meth : Method} {c : Code} {T T' : State} {locs locs' : List Loc} {k n k' n' : Nat} {Z : State} {a0 : Array Value} {h h' h0 : Heap} {g : JFrame} {a b : Addr} {ws ws' : List Addr} {n0 : Nat}
theorem keep_ext (E : Ext h h') : Keep h h' [] := (Keep.refl h []).ext E
theorem nin1 {x y : Addr} (q : x ≠ y) : x ∉ [y] := ninS q nin0
/-- an array: its length and what each place holds -/
def Ary (Z : State) (h : Heap) (a : Addr) (ty : FieldType) (n : Nat) (f : Nat → Value) : Prop := ∃ c : Cell, Arr Z h a c ty ∧ c.slots.size = n ∧ n < 2 ^ 31 ∧ ∀ i, i < n → c.slots[i]? = some (f i)
def updN {α : Type} (f : Nat → α) (j : Nat) (v : α) : Nat → α := fun i => if i = j then v else f i
theorem updN_same {α : Type} (f : Nat → α) (j : Nat) (v : α) : updN f j v j = v := if_pos rfl
theorem updN_ne {α : Type} (f : Nat → α) {i j : Nat} (v : α) (q : i ≠ j) : updN f j v i = f i := if_neg q
def InB (j : Int32) (n : Nat) : Prop := ¬ j < 0 ∧ j.toNatClampNeg < n
instance (j : Int32) (n : Nat) : Decidable (InB j n) := inferInstanceAs (Decidable (¬ j < 0 ∧ j.toNatClampNeg < n))
variable {ty : FieldType} {len : Nat} {f : Nat → Value}
theorem updAt {α : Type} {f : Nat → α} {j i : Nat} {v : α} (h : i = j) : updN f j v i = v := if_pos h
theorem updOff {α : Type} {f : Nat → α} {j i : Nat} {v w : α} (h : i ≠ j) (r : f i = w) : updN f j v i = w := (if_neg h).trans r
theorem Ary.lt (F : Ary Z h a ty len f) : a < h.size := by obtain ⟨c, A, -⟩ := F; exact A.lt
theorem Ary.keep (F : Ary Z h a ty len f) (K : Keep h h' ws) (q : a ∉ ws) : Ary Z h' a ty len f := by
  obtain ⟨c, A, r⟩ := F; exact ⟨c, ⟨K.2.1 a c A.1 q, A.2⟩, r⟩
theorem Ary.small (F : Ary Z h a ty len f) : len < 2 ^ 31 := by obtain ⟨c, A, r1, r2, -⟩ := F; exact r2
theorem Ary.congr {f' : Nat → Value} (F : Ary Z h a ty len f) (q : ∀ i, i < len → f i = f' i) : Ary Z h a ty len f' := by
  obtain ⟨c, A, r1, r2, r3⟩ := F; exact ⟨c, A, r1, r2, fun i hi => by rw [← q i hi]; exact r3 i hi⟩
theorem Ary.wr {v : Value} {j : Nat} (F : Ary Z h a ty len f) (W : Wr h h' a j v) (hj : j < len) : Ary Z h' a ty len (updN f j v) := by
  obtain ⟨c, A, r1, r2, r3⟩ := F
  refine ⟨_, A.same W, by rw [sz_set]; exact r1, r2, fun i hi => ?_⟩
  by_cases q : i = j
  · subst q; rw [updN_same]; simp [Cell.setSlot, r1, hi]
  · rw [updN_ne _ _ q]; simp only [Cell.setSlot]; rw [Array.getElem?_setIfInBounds_ne (Ne.symm q)]; exact r3 i hi
theorem not_in {j : Int32} {n : Nat} (q : InB j n) {c : Cell} (r : c.slots.size = n) : ¬ (j < 0 ∨ c.slots.size ≤ j.toNatClampNeg) := by
  rw [r]; obtain ⟨q1, q2⟩ := q; intro z; rcases z with z | z
  · exact q1 z
  · omega
theorem own_len (X : Stand p l e R s m args below meth c T locs k n) (hx : p.tables.exec = Jvm.exec) (hZ : Z.Warmed39 s.vm) (eT : T.heap = h) (A : Ary Z h a ty len f) {rest : List Value} (hg : g.method = m) (hs : g.stack = .ref a :: rest) (hd : decode c.code g.pc = .ok (.arraylength, 1)) (t : State)
    (hr : Steps p.tables e below (T.setTop { g with pc := g.pc + 1, stack := .int len.toInt32 :: rest }) t) : Steps p.tables e below (T.setTop g) t := by
  obtain ⟨cl, A1, r1, r2, r3⟩ := A
  refine X.arraylength hx (by rw [eT]; exact A1.1) (State.isArrayOf_alike hZ.alike A1.2.1) hg hs hd t ?_
  rw [r1]; exact hr
theorem own_ldI (X : Stand p l e R s m args below meth c T locs k n) (hx : p.tables.exec = Jvm.exec) (hZ : Z.Warmed39 s.vm) (eT : T.heap = h) (A : Ary Z h a .int len f) {j : Int32} (hj : InB j len) {v : Value} (hv : f j.toNatClampNeg = v) {rest : List Value} (hg : g.method = m) (hs : g.stack = .int j :: .ref a :: rest) (hd : decode c.code g.pc = .ok (.iaload, 1)) (t : State)
    (hr : Steps p.tables e below (T.setTop { g with pc := g.pc + 1, stack := v :: rest }) t) : Steps p.tables e below (T.setTop g) t := by
  obtain ⟨cl, A1, r1, r2, r3⟩ := A
  exact X.iaload hx (by rw [eT]; exact A1.1) (State.isArrayOf_alike hZ.alike A1.2.1) A1.2.2 (not_in hj r1) (by rw [r3 _ hj.2, hv]) hg hs hd t hr
theorem own_ldJ (X : Stand p l e R s m args below meth c T locs k n) (hx : p.tables.exec = Jvm.exec) (hZ : Z.Warmed39 s.vm) (eT : T.heap = h) (A : Ary Z h a .long len f) {j : Int32} (hj : InB j len) {v : Value} (hv : f j.toNatClampNeg = v) {rest : List Value} (hg : g.method = m) (hs : g.stack = .int j :: .ref a :: rest) (hd : decode c.code g.pc = .ok (.laload, 1)) (t : State)
    (hr : Steps p.tables e below (T.setTop { g with pc := g.pc + 1, stack := v :: rest }) t) : Steps p.tables e below (T.setTop g) t := by
  obtain ⟨cl, A1, r1, r2, r3⟩ := A
  exact X.laload hx (by rw [eT]; exact A1.1) (State.isArrayOf_alike hZ.alike A1.2.1) A1.2.2 (not_in hj r1) (by rw [r3 _ hj.2, hv]) hg hs hd t hr
theorem own_ldC (X : Stand p l e R s m args below meth c T locs k n) (hx : p.tables.exec = Jvm.exec) (hZ : Z.Warmed39 s.vm) (eT : T.heap = h) (A : Ary Z h a .char len f) {j : Int32} (hj : InB j len) {v : Value} (hv : f j.toNatClampNeg = v) {rest : List Value} (hg : g.method = m) (hs : g.stack = .int j :: .ref a :: rest) (hd : decode c.code g.pc = .ok (.caload, 1)) (t : State)
    (hr : Steps p.tables e below (T.setTop { g with pc := g.pc + 1, stack := v :: rest }) t) : Steps p.tables e below (T.setTop g) t := by
  obtain ⟨cl, A1, r1, r2, r3⟩ := A
  exact X.caload hx (by rw [eT]; exact A1.1) (State.isArrayOf_alike hZ.alike A1.2.1) A1.2.2 (not_in hj r1) (by rw [r3 _ hj.2, hv]) hg hs hd t hr
theorem own_ldB (X : Stand p l e R s m args below meth c T locs k n) (hx : p.tables.exec = Jvm.exec) (hZ : Z.Warmed39 s.vm) (eT : T.heap = h) (A : Ary Z h a .byte len f) {j : Int32} (hj : InB j len) {v : Value} (hv : f j.toNatClampNeg = v) {rest : List Value} (hg : g.method = m) (hs : g.stack = .int j :: .ref a :: rest) (hd : decode c.code g.pc = .ok (.baload, 1)) (t : State)
    (hr : Steps p.tables e below (T.setTop { g with pc := g.pc + 1, stack := v :: rest }) t) : Steps p.tables e below (T.setTop g) t := by
  obtain ⟨cl, A1, r1, r2, r3⟩ := A
  exact X.baloadBytes hx (by rw [eT]; exact A1.1) (State.isArrayOf_alike hZ.alike A1.2.1) A1.2.2 (not_in hj r1) (by rw [r3 _ hj.2, hv]) hg hs hd t hr
theorem own_ldA (X : Stand p l e R s m args below meth c T locs k n) (hx : p.tables.exec = Jvm.exec) (hZ : Z.Warmed39 s.vm) (eT : T.heap = h) (A : Ary Z h a ty len f) (hty : ty.isReference = true) {j : Int32} (hj : InB j len) {v : Value} (hv : f j.toNatClampNeg = v) {rest : List Value} (hg : g.method = m) (hs : g.stack = .int j :: .ref a :: rest) (hd : decode c.code g.pc = .ok (.aaload, 1)) (t : State)
    (hr : Steps p.tables e below (T.setTop { g with pc := g.pc + 1, stack := v :: rest }) t) : Steps p.tables e below (T.setTop g) t := by
  obtain ⟨cl, A1, r1, r2, r3⟩ := A
  exact X.aaload hx (by rw [eT]; exact A1.1) (State.isArrayOf_alike hZ.alike A1.2.1) hty A1.2.2 (not_in hj r1) (by rw [r3 _ hj.2, hv]) hg hs hd t hr
theorem own_stI (X : Stand p l e R s m args below meth c T locs k n) (hx : p.tables.exec = Jvm.exec) (hZ : Z.Warmed39 s.vm) (eT : T.heap = h) (N : Fr n0 locs) {G : Nat → Int32} (A : Ary Z h a .int len (fun i => .int (G i))) (ga : n0 ≤ a) {j x : Int32} (hj : InB j len) {rest : List Value} (hg : g.method = m) (hs : g.stack = .int x :: .int j :: .ref a :: rest) (hd : decode c.code g.pc = .ok (.iastore, 1)) :
    ∃ (T' : State) (h' : Heap) (locs' : List Loc), Stand p l e R s m args below meth c T' locs' k n ∧ T'.heap = h' ∧ Fr n0 locs' ∧ Keep h h' [a] ∧ Ary Z h' a .int len (fun i => .int (updN G j.toNatClampNeg x i)) ∧ ∀ t, Steps p.tables e below (T'.setTop { g with pc := g.pc + 1, stack := rest }) t → Steps p.tables e below (T.setTop g) t := by
  obtain ⟨cl, A1, r⟩ := A
  obtain ⟨T', h', X', e', W, st⟩ := stI X hx hZ eT A1 (not_in hj r.1) hg hs hd
  exact ⟨T', h', _, X', e', Fr.snoc X' N ga, Keep.of_wr W, (Ary.wr ⟨cl, A1, r⟩ W hj.2).congr (fun i _ => by unfold updN; split <;> rfl), st⟩
theorem own_stJ (X : Stand p l e R s m args below meth c T locs k n) (hx : p.tables.exec = Jvm.exec) (hZ : Z.Warmed39 s.vm) (eT : T.heap = h) (N : Fr n0 locs) {G : Nat → Int64} (A : Ary Z h a .long len (fun i => .long (G i))) (ga : n0 ≤ a) {j : Int32} {x : Int64} (hj : InB j len) {rest : List Value} (hg : g.method = m) (hs : g.stack = .long x :: .int j :: .ref a :: rest) (hd : decode c.code g.pc = .ok (.lastore, 1)) :
    ∃ (T' : State) (h' : Heap) (locs' : List Loc), Stand p l e R s m args below meth c T' locs' k n ∧ T'.heap = h' ∧ Fr n0 locs' ∧ Keep h h' [a] ∧ Ary Z h' a .long len (fun i => .long (updN G j.toNatClampNeg x i)) ∧ ∀ t, Steps p.tables e below (T'.setTop { g with pc := g.pc + 1, stack := rest }) t → Steps p.tables e below (T.setTop g) t := by
  obtain ⟨cl, A1, r⟩ := A
  obtain ⟨T', h', X', e', W, st⟩ := stJ X hx hZ eT A1 (not_in hj r.1) hg hs hd
  exact ⟨T', h', _, X', e', Fr.snoc X' N ga, Keep.of_wr W, (Ary.wr ⟨cl, A1, r⟩ W hj.2).congr (fun i _ => by unfold updN; split <;> rfl), st⟩
theorem own_stC (X : Stand p l e R s m args below meth c T locs k n) (hx : p.tables.exec = Jvm.exec) (hZ : Z.Warmed39 s.vm) (eT : T.heap = h) (N : Fr n0 locs) {G : Nat → Int32} (A : Ary Z h a .char len (fun i => .int (G i))) (ga : n0 ≤ a) {j x : Int32} (hj : InB j len) {rest : List Value} (hg : g.method = m) (hs : g.stack = .int x :: .int j :: .ref a :: rest) (hd : decode c.code g.pc = .ok (.castore, 1)) :
    ∃ (T' : State) (h' : Heap) (locs' : List Loc), Stand p l e R s m args below meth c T' locs' k n ∧ T'.heap = h' ∧ Fr n0 locs' ∧ Keep h h' [a] ∧ Ary Z h' a .char len (fun i => .int (updN G j.toNatClampNeg (nar .char x) i)) ∧ ∀ t, Steps p.tables e below (T'.setTop { g with pc := g.pc + 1, stack := rest }) t → Steps p.tables e below (T.setTop g) t := by
  obtain ⟨cl, A1, r⟩ := A
  obtain ⟨T', h', X', e', W, st⟩ := stC X hx hZ eT A1 (not_in hj r.1) hg hs hd
  exact ⟨T', h', _, X', e', Fr.snoc X' N ga, Keep.of_wr W, (Ary.wr ⟨cl, A1, r⟩ W hj.2).congr (fun i _ => by unfold updN; split <;> rfl), st⟩
theorem own_stB (X : Stand p l e R s m args below meth c T locs k n) (hx : p.tables.exec = Jvm.exec) (hZ : Z.Warmed39 s.vm) (eT : T.heap = h) (N : Fr n0 locs) {G : Nat → Int32} (A : Ary Z h a .byte len (fun i => .int (G i))) (ga : n0 ≤ a) {j x : Int32} (hj : InB j len) {rest : List Value} (hg : g.method = m) (hs : g.stack = .int x :: .int j :: .ref a :: rest) (hd : decode c.code g.pc = .ok (.bastore, 1)) :
    ∃ (T' : State) (h' : Heap) (locs' : List Loc), Stand p l e R s m args below meth c T' locs' k n ∧ T'.heap = h' ∧ Fr n0 locs' ∧ Keep h h' [a] ∧ Ary Z h' a .byte len (fun i => .int (updN G j.toNatClampNeg (nar .byte x) i)) ∧ ∀ t, Steps p.tables e below (T'.setTop { g with pc := g.pc + 1, stack := rest }) t → Steps p.tables e below (T.setTop g) t := by
  obtain ⟨cl, A1, r⟩ := A
  obtain ⟨T', h', X', e', W, st⟩ := stB X hx hZ eT A1 (not_in hj r.1) hg hs hd
  exact ⟨T', h', _, X', e', Fr.snoc X' N ga, Keep.of_wr W, (Ary.wr ⟨cl, A1, r⟩ W hj.2).congr (fun i _ => by unfold updN; split <;> rfl), st⟩
/-- newarray of a length that is not negative and at most cap -/
theorem own_new (X : Stand p l e R s m args below meth c T locs k n) (hx : p.tables.exec = Jvm.exec) (hZ : Z.Warmed39 s.vm) {aty : ArrayType} (w : (Jvm.Cond.arrayClass (newarray.typeOf aty)).before a0 Z = true) (eT : T.heap = h) (hg : g.method = m) (hd : decode c.code g.pc = .ok (.newarray aty, 2)) {z : Int32} {rest : List Value} (hs : g.stack = .int z :: rest)
    (hn : ¬ z < 0) {cap : Nat} (hcap : z.toNatClampNeg ≤ cap) (hb : cap * 8 ≤ 536870912) (hc : k + 1 ≤ R.cells) (hl : n + cap ≤ R.slots) :
    ∃ (T' : State) (h' : Heap) (a : Addr), Stand p l e R s m args below meth c T' locs (k + 1) (n + cap) ∧ T'.heap = h' ∧ a = h.size ∧ Keep h h' [] ∧ Ary Z h' a (newarray.typeOf aty) z.toNatClampNeg (fun _ => defaultValue (newarray.typeOf aty)) ∧
      ∀ t, Steps p.tables e below (T'.setTop { g with pc := g.pc + 2, stack := .ref a :: rest }) t → Steps p.tables e below (T.setTop g) t := by
  obtain ⟨T', h', cA, X', e', E, A, st⟩ := newP X hx hZ w eT hg hd hs hn hcap hb hc hl
  refine ⟨T', h', _, X', e', rfl, keep_ext E, ⟨_, A, sz_new _ _ _, ?_, fun i hi => ?_⟩, st⟩
  · exact (back32 hn).2
  · simp [newA, hi]
/-- an object's field written: the heap, what is kept, the field -/
theorem own_putF (X : Stand p l e R s m args below meth c T locs k n) (hx : p.tables.exec = Jvm.exec) (hZ : Z.Warmed39 s.vm) {own O nm d C : String} {index kk : Nat} {fty : FieldType} (hown : s.vm.findClass own = some m.cls) (w : (Jvm.Cond.fieldLink own index O nm d).before a0 Z = true)
    (eT : T.heap = h) (N : Fr n0 locs) {u v : Value} (F : Fld Z h a O nm d u) (E : Exa Z h a C) (ga : n0 ≤ a) (lw : (Jvm.Cond.lays C O nm d).before a0 Z = true ∨ ((Jvm.Cond.laysFinal C O nm d).before a0 Z = true ∧ own = O ∧ meth.name = "<init>")) (wi : (Jvm.Cond.instantiable C kk).before a0 Z = true)
    (hty : parseFieldDescriptor d = some fty) (hn : narrow fty v = v) (hf : fits fty v = true) {rest : List Value} (hg : g.method = m) (hs : g.stack = v :: .ref a :: rest) (hd : decode c.code g.pc = .ok (.putfield index, 3)) :
    ∃ (T' : State) (h' : Heap) (locs' : List Loc), Stand p l e R s m args below meth c T' locs' k n ∧ T'.heap = h' ∧ Fr n0 locs' ∧ Wr h h' a (slotOf Z O nm d) v ∧ Fld Z h' a O nm d v ∧ ∀ t, Steps p.tables e below (T'.setTop { g with pc := g.pc + 3, stack := rest }) t → Steps p.tables e below (T.setTop g) t := by
  obtain ⟨T', h', X', e', W, st⟩ := putF X hx hZ hown (host := "") (Or.inl w) Via.refl eT F E lw wi (ty := fty) hty hn hf hg hs hd
  exact ⟨T', h', _, X', e', Fr.snoc X' N ga, W, F.same W, st⟩
theorem Exa.neS {C : String} (F : Exa Z h a C) (q : b = h.size) : a ≠ b := by
  have r := Exa.lt F; intro z; rw [z, q] at r; exact Nat.lt_irrefl _ r
theorem Ary.neS (F : Ary Z h a ty len f) (q : b = h.size) : a ≠ b := by
  have r := Ary.lt F; intro z; rw [z, q] at r; exact Nat.lt_irrefl _ r
end OwnHeap
end Jvm.RoadKit
namespace Jvm.RoadKit
open Sem ClassFile Op Lib Jvm.Stand Jvm.Free Jvm.LawKit
section OwnNum
theorem i32lt (x y : Int32) : x < y ↔ x.toInt < y.toInt := Int32.lt_iff_toInt_lt
theorem i32eq (x y : Int32) : x = y ↔ x.toInt = y.toInt := Int32.toInt_inj.symm
theorem i64lt (x y : Int64) : x < y ↔ x.toInt < y.toInt := Int64.lt_iff_toInt_lt
theorem i64eq (x y : Int64) : x = y ↔ x.toInt = y.toInt := Int64.toInt_inj.symm
theorem nar0 : nar .boolean 0 = 0 := by decide
theorem nar1 : nar .boolean 1 = 1 := by decide
theorem narI (P : Prop) [Decidable P] : nar .boolean (if P then 1 else 0) = if P then 1 else 0 := by split <;> decide
theorem ushr_pos {x y : Int32} (hx : 0 ≤ x.toInt) {k : Nat} (hn : (y &&& 31).toUInt32.toNat = k) (hk : k < 32) : (XT.ushr x y).toInt = x.toInt / 2 ^ k :=
  Jvm.Kit.i32_iushr (Jvm.Kit.i32_nonneg.mpr hx) hn hk
theorem ushr_nat (x y : Int32) {k : Nat} (hn : (y &&& 31).toUInt32.toNat = k) (h1 : 0 < k) (hk : k < 32) : (XT.ushr x y).toInt = (x.toBitVec.toNat / 2 ^ k : Nat) := by
  have e1 : (XT.ushr x y).toBitVec.toNat = x.toBitVec.toNat / 2 ^ k := by
    show (x.toUInt32 >>> (y &&& 31).toUInt32).toNat = _
    rw [UInt32.toNat_shiftRight, hn, Nat.mod_eq_of_lt hk, Nat.shiftRight_eq_div_pow]
    rfl
  have e2 := x.toBitVec.isLt
  have e3 : x.toBitVec.toNat / 2 ^ k < 2 ^ 31 := by
    apply Nat.div_lt_of_lt_mul
    calc x.toBitVec.toNat < 2 ^ 32 := e2
      _ ≤ 2 ^ k * 2 ^ 31 := by rw [← Nat.pow_add]; exact Nat.pow_le_pow_right (by omega) (by omega)
  show (XT.ushr x y).toBitVec.toInt = _
  rw [BitVec.toInt_eq_toNat_of_lt (by rw [e1]; omega), e1]
theorem inb_of_toInt {j : Int32} {n : Nat} (h1 : 0 ≤ j.toInt) (h2 : j.toInt < n) : InB j n := by
  refine ⟨?_, ?_⟩
  · rw [i32lt]; show ¬ j.toInt < 0; omega
  · simp only [Int32.toNatClampNeg]; omega
theorem or32_nat (n : Nat) : n ||| 32 = n + (if n % 64 < 32 then 32 else 0) := by
  have h1 : (n ||| 32) % 2 ^ 6 = (n % 2 ^ 6) ||| (32 % 2 ^ 6) := Nat.or_mod_two_pow
  have h2 : (n ||| 32) / 2 ^ 6 = n / 2 ^ 6 := by
    rw [← Nat.shiftRight_eq_div_pow, Nat.shiftRight_or_distrib, ← Nat.shiftRight_eq_div_pow]
    simp
  have h3 : ∀ r : Fin 64, r.val ||| 32 = if r.val < 32 then r.val + 32 else r.val := by decide
  have h4 := h3 ⟨n % 64, Nat.mod_lt _ (by omega)⟩
  simp only at h4
  have h5 : (n % 2 ^ 6) ||| (32 % 2 ^ 6) = (n % 64) ||| 32 := rfl
  rw [h5, h4] at h1
  split at h1 <;> split <;> omega
theorem or32 (c : Int32) : (c ||| 32).toInt = c.toInt + (if c.toInt % 64 < 32 then 32 else 0) := by
  have e1 : (c ||| 32).toBitVec.toNat = c.toBitVec.toNat ||| 32 := by simp [BitVec.toNat_or]
  have e2 : c.toInt = c.toBitVec.toInt := rfl
  have e3 : (c ||| 32).toInt = (c ||| 32).toBitVec.toInt := rfl
  have e4 := c.toBitVec.isLt
  have e5 := (c ||| 32).toBitVec.isLt
  rw [e2, e3, BitVec.toInt_eq_toNat_cond, BitVec.toInt_eq_toNat_cond, e1, or32_nat]
  rw [e1, or32_nat] at e5
  split at e5 <;> split <;> split <;> split <;> omega
theorem i2c_toInt (x : Int32) : (x.toUInt32.toUInt16.toUInt32.toInt32).toInt = x.toInt % 65536 := by
  have e1 : (x.toUInt32.toUInt16.toUInt32.toInt32).toBitVec.toNat = x.toBitVec.toNat % 65536 := by
    show (x.toUInt32.toUInt16.toUInt32).toNat = _
    simp
    rfl
  have e2 := x.toBitVec.isLt
  have e3 : x.toInt = x.toBitVec.toInt := rfl
  have e4 : (x.toUInt32.toUInt16.toUInt32.toInt32).toInt = (x.toUInt32.toUInt16.toUInt32.toInt32).toBitVec.toInt := rfl
  rw [e3, e4, BitVec.toInt_eq_toNat_cond, BitVec.toInt_eq_toNat_cond, e1]
  split <;> split <;> omega
theorem mulbd {a b : Int} (h1 : 0 ≤ a) (h2 : a ≤ 2147483648) (h3 : 0 ≤ b) (h4 : b ≤ 2147483648) : 0 ≤ a * b ∧ a * b ≤ 4611686018427387904 := by
  refine ⟨Int.mul_nonneg h1 h3, ?_⟩
  have h : a * b ≤ 2147483648 * 2147483648 := Int.mul_le_mul h2 h4 h3 (by omega)
  omega
theorem mul64g {x y : Int64} (h1 : 0 ≤ x.toInt) (h2 : x.toInt ≤ 2147483648) (h3 : 0 ≤ y.toInt) (h4 : y.toInt ≤ 2147483648) : (x * y).toInt = x.toInt * y.toInt := by
  obtain ⟨b1, b2⟩ := mulbd h1 h2 h3 h4
  exact Jvm.Kit.i64_mul (by omega) (by omega)
theorem mul64 {x y : Int32} (h1 : 0 ≤ x.toInt) (h3 : 0 ≤ y.toInt) : (x.toInt64 * y.toInt64).toInt = x.toInt * y.toInt := by
  have e1 := Jvm.Kit.i64_of_i32 x
  have e2 := Jvm.Kit.i64_of_i32 y
  have b1 := Int32.toInt_lt x
  have b2 := Int32.toInt_lt y
  rw [mul64g (by omega) (by omega) (by omega) (by omega), e1, e2]
/-- the quotient q of a by b: b * q ≤ a < b * q + b -/
theorem quot {a b : Int} (hb : 0 < b) : b * (a / b) ≤ a ∧ a < b * (a / b) + b := by
  have h1 := Int.emod_def a b
  have h2 := Int.emod_nonneg a (show b ≠ 0 by omega)
  have h3 := Int.emod_lt_of_pos a hb
  omega
theorem div64 {x y : Int64} (h1 : 0 ≤ x.toInt) (h2 : 0 < y.toInt) : (x / y).toInt = x.toInt / y.toInt := by
  rw [Jvm.Kit.i64_div (by omega), Int.tdiv_eq_ediv_of_nonneg h1]
theorem mask31 (x : Int32) : (x &&& 2147483647).toInt = x.toInt % 2147483648 := by
  have := Jvm.Kit.i32_mask x 2147483647 (k := 31) (by decide) (by decide)
  omega
theorem rem32 {x y : Int32} (h : 0 ≤ x.toInt) (h2 : 0 < y.toInt) : 0 ≤ (x % y).toInt ∧ (x % y).toInt < y.toInt := by
  rw [Jvm.Kit.i32_rem_nonneg h]
  exact ⟨Int.emod_nonneg _ (by omega), Int.emod_lt_of_pos _ h2⟩
end OwnNum
end Jvm.RoadKit
namespace Jvm.RoadKit
open Sem ClassFile Op Lib Jvm.Stand Jvm.Free Jvm.LawKit
section OwnBits
theorem byte255 (y : Int32) : (nar .byte (y.toInt8.toInt32) &&& 255).toInt = y.toInt % 256 := by
  have h1 := Jvm.Kit.i32_mask (nar .byte (y.toInt8.toInt32)) 255 (k := 8) (by decide) (by decide)
  have h2 : (nar .byte (y.toInt8.toInt32)).toInt = (y.toInt.bmod 256).bmod 256 := by
    show ((y.toInt8.toInt32).toInt8.toInt32).toInt = _
    rw [Int8.toInt_toInt32, Int32.toInt_toInt8, Int8.toInt_toInt32, Int32.toInt_toInt8]
  rw [h1, h2]
  have h3 : ∀ z : Int, z.bmod 256 % 256 = z % 256 := fun z => Int.bmod_emod
  have h4 : (2 : Int) ^ 8 = 256 := rfl
  rw [h4, h3, h3]
theorem natOfI {x : Int32} (h : 0 ≤ x.toInt) : x.toBitVec.toNat = x.toInt.toNat := by
  have e : x.toInt = x.toBitVec.toInt := rfl
  have e2 := x.toBitVec.isLt
  rw [e, BitVec.toInt_eq_toNat_cond] at h ⊢
  split at h <;> split <;> omega
theorem ofNat31 {x : Int32} {n : Nat} (h : x.toBitVec.toNat = n) (h2 : n < 2 ^ 31) : x.toInt = n := by
  have e : x.toInt = x.toBitVec.toInt := rfl
  rw [e, BitVec.toInt_eq_toNat_of_lt (by rw [h]; omega), h]
theorem or_sum {a b : Int32} {k g : Nat} (ha : 0 ≤ a.toInt) (ha2 : a.toInt < 2 ^ k) (hb : b.toInt = (2 ^ k * g : Nat)) (hs : 2 ^ k * g + a.toInt.toNat < 2 ^ 31) : (a ||| b).toInt = a.toInt + b.toInt ∧ (b ||| a).toInt = a.toInt + b.toInt := by
  have e1 : a.toBitVec.toNat = a.toInt.toNat := natOfI ha
  have e2 : b.toBitVec.toNat = 2 ^ k * g := by rw [natOfI (by omega), hb]; exact Int.toNat_natCast _
  have hlt : a.toInt.toNat < 2 ^ k := by
    have : ((2 ^ k : Nat) : Int) = (2 : Int) ^ k := by simp
    omega
  have e3 := Nat.two_pow_add_eq_or_of_lt hlt g
  constructor
  · have e4 : (a ||| b).toBitVec.toNat = 2 ^ k * g + a.toInt.toNat := by
      show (a.toBitVec ||| b.toBitVec).toNat = _
      rw [BitVec.toNat_or, e1, e2, Nat.or_comm, ← e3]
    rw [ofNat31 e4 hs]; omega
  · have e4 : (b ||| a).toBitVec.toNat = 2 ^ k * g + a.toInt.toNat := by
      show (b.toBitVec ||| a.toBitVec).toNat = _
      rw [BitVec.toNat_or, e1, e2, ← e3]
    rw [ofNat31 e4 hs]; omega
theorem or128 {x : Int32} (h : 0 ≤ x.toInt) (h2 : x.toInt < 128) : (x ||| 128).toInt = x.toInt + 128 ∧ (128 ||| x).toInt = x.toInt + 128 := by
  have a : (128 : Int32).toInt = 128 := rfl
  have := or_sum (a := x) (b := 128) (k := 7) (g := 1) h (by omega) (by rw [a]; rfl) (by omega)
  rw [a] at this; exact this
/-- a group of seven bits laid above what is there -/
theorem acc {a g n : Int32} {k : Nat} (hn : (n.toBitVec.smod 32).toNat = k) (ha : 0 ≤ a.toInt) (ha2 : a.toInt < 2 ^ k) (hg : 0 ≤ g.toInt) (hs : g.toInt * 2 ^ k + a.toInt < 2 ^ 31) : (a ||| (g <<< n)).toInt = a.toInt + g.toInt * 2 ^ k := by
  have p : (0 : Int) < 2 ^ k := Int.pow_pos (by omega)
  have q : 0 ≤ g.toInt * 2 ^ k := Int.mul_nonneg hg (by omega)
  have e1 : (g <<< n).toInt = g.toInt * 2 ^ k := Jvm.Kit.i32_shl g n hn (by omega) (by omega)
  have e2 : (g <<< n).toInt = (2 ^ k * g.toInt.toNat : Nat) := by
    rw [e1, Int.natCast_mul, Int.toNat_of_nonneg hg, Int.mul_comm, Int.natCast_pow]; rfl
  have := (or_sum (a := a) (b := g <<< n) (k := k) (g := g.toInt.toNat) ha ha2 e2 (by have := e1.symm.trans e2; omega)).1
  rw [this, e1]
theorem and_not0 (x : Int64) : x &&& ((0 : Int64) ^^^ (-1)) = x := by
  apply Int64.toBitVec_inj.mp
  apply BitVec.eq_of_getLsbD_eq
  intro i hi
  have : (-1 : Int64).toBitVec = BitVec.allOnes 64 := by decide
  simp [this, hi]
theorem and_not2 (x a b : Int64) : (x &&& (a ^^^ (-1))) &&& (b ^^^ (-1)) = x &&& ((a ||| b) ^^^ (-1)) := by
  apply Int64.toBitVec_inj.mp
  apply BitVec.eq_of_getLsbD_eq
  intro i hi
  have : (-1 : Int64).toBitVec = BitVec.allOnes 64 := by decide
  simp [this, hi]
  exact Bool.and_assoc _ _ _
theorem clamp_eq {a b : Int32} (ha : 0 ≤ a.toInt) (hb : 0 ≤ b.toInt) : a.toNatClampNeg = b.toNatClampNeg ↔ a = b := by
  rw [i32eq]; simp only [Int32.toNatClampNeg]; omega
theorem mask63 (v : Int32) : ((v &&& 63).toInt64 &&& 63) = (v.toInt64 &&& 63) := by
  have h1 := Jvm.Kit.i64_mask (v &&& 63).toInt64 63 (k := 6) (by decide) (by decide)
  have h2 := Jvm.Kit.i64_mask v.toInt64 63 (k := 6) (by decide) (by decide)
  have h3 := Jvm.Kit.i32_mask v 63 (k := 6) (by decide) (by decide)
  rw [Jvm.Kit.i64_of_i32] at h1 h2
  rw [i64eq, h1, h2, h3]; omega
theorem charBack {x : Int32} (h : 0 ≤ x.toInt) (h2 : x.toInt < 65536) : nar .char (x.toUInt32.toUInt16.toUInt32.toInt32) = x := by
  have e1 : (nar .char (x.toUInt32.toUInt16.toUInt32.toInt32)).toInt = (x.toUInt32.toUInt16.toUInt32.toInt32).toInt % 65536 := i2c_toInt _
  rw [i32eq, e1, i2c_toInt]; omega
end OwnBits
end Jvm.RoadKit
namespace Jvm.RoadKit
open Sem ClassFile Op Lib Jvm.Stand Jvm.Free Jvm.LawKit
section OwnMore
variable {p : Program} {l : Launch} {e : Env} {R : Room} {s : State} {m : MethodId} {args : Array Value} {below : List Frame} {meth : Method} {c : Code} {T T' : State} {locs locs' : List Loc} {k n k' n' : Nat} {Z : State} {a0 : Array Value} {h h' h0 : Heap} {g : JFrame} {n0 : Nat} {a b : Addr}
/-- a private method called by invokevirtual; y2 is any method of its class that has a 'selects' word -/
theorem own_callP (X : Stand p l e R s m args below meth c T locs k n) (hx : p.tables.exec = Jvm.exec) (hZ : Z.Warmed39 s.vm) {own C D : String} {index : Nat} {y y2 : MethodName} {bytes : ByteArray} {maxL W : Nat} {rt : Option FieldType} {rm : Room} {a : Addr} {argsL rest : List Value} {ps : List FieldType} {r : Option FieldType} {Qc : Option Value → Heap → List Loc → Prop}
    (hown : s.vm.findClass own = some m.cls) (w1 : (Jvm.Cond.methodLink own index y).before a0 Z = true) (w5 : (Jvm.Cond.selects D y2 y2).before a0 Z = true) (hc2 : y2.cls = y.cls) (w6 : (Jvm.Cond.instanceMethod y).before a0 Z = true) (w7 : (Jvm.Cond.privateMethod y).before a0 Z = true) (w3 : (Jvm.Cond.initialized y.cls).before a0 Z = true) (w4 : (Jvm.Cond.code y bytes maxL rt).before a0 Z = true) (hy : y.cls ≠ "java/lang/invoke/MethodHandle" ∧ y.cls ≠ "java/lang/invoke/VarHandle")
    (E : Exa Z h a C)
    (hM : MetFree l y (head1 [Jvm.Cond.code y bytes maxL rt] rm) (fun a' U => a' = (Value.ref a :: argsL).toArray ∧ Z.Warmed39 U.vm ∧ U.heap = h) (fun _ _ _ _ _ => True) (fun _ U o U' => ∃ v L, o = .returned v ∧ Qc v U'.heap L ∧ FrameEnd U o U' L rm.cells rm.slots))
    (hf : rm.frames + 1 ≤ R.frames) (hl : W + (maxL + 11) + rm.locals ≤ R.locals) (hc : k + rm.cells ≤ R.cells) (hs : n + rm.slots ≤ R.slots) (eT : T.heap = h)
    (hg : g.method = m) (hsize : g.locals.size = c.maxLocals) (hd : parseMethodDescriptor y.desc = some ⟨ps, r⟩) (hlen : argsL.length = ps.length) (hstack : g.stack = argsL.reverse ++ .ref a :: rest) (hW : 2 * g.monitorRoom + (rest.map fun v => v.category).sum ≤ W) (hdg : decode c.code g.pc = .ok (.invokevirtual index, 3)) :
    ∃ v T' L, Stand p l e R s m args below meth c T' (locs ++ L) (k + rm.cells) (n + rm.slots) ∧ Qc v T'.heap L ∧ ∀ t, Steps p.tables e below (T'.setTop { g with pc := g.pc + 3, stack := v.toList ++ rest }) t → Steps p.tables e below (T.setTop g) t := by
  obtain ⟨mk, methM, hnamed, hmethM, hstM, habM⟩ := Cond.instanceMethod_spec (mvT (args := args) hZ w6)
  obtain ⟨methM', cM, hmethM', -, -, -, -, -, -, hsigM⟩ := Cond.code_spec hnamed (mvT (args := args) hZ w4)
  cases hmethM.symm.trans hmethM'
  obtain ⟨c2, r2, m2, -, -, q3, -, kP, hkP, hkPi⟩ := Cond.selects_spec (mvT (args := args) hZ w5)
  have f1 := findClass_of_methodNamed q3
  have f2 := findClass_of_methodNamed hnamed
  rw [hc2] at f1
  have f3 : m2.cls = mk.cls := Option.some.inj (f1.symm.trans f2)
  rw [f3] at hkP
  obtain ⟨cell, hcell, hobj⟩ := E.cell
  have hselP : selectMethod e.platform s.vm cell.cls mk = .method mk := selectMethod_private hmethM ((Cond.privateMethod_at (mvP (args := args) hZ w7)) mk methM hnamed hmethM)
  obtain ⟨vm₁, X₁, hstep₁⟩ := X.invokevirtual hx hown (mvT hZ w1) hnamed hmethM hstM hkP hkPi hy (a := a) (cell := cell) (by rw [eT]; exact hcell) hobj hselP hmethM habM hkP hkPi (g := g) hg (argsL := argsL) (rest := rest) (lenOf hd hlen _ hsigM) hstack hdg
  obtain ⟨v, ⟨T', L', k', n'⟩, X', ⟨Lc, hQ, l1, y1, z1⟩, st⟩ := (backOf (p := p) (e := e) (below := below) (R := R) (s := s) (args := args) (len := 3) (W := W) hM hZ w4 w3 hf hl) m meth c ⟨T.setVm vm₁, locs, k, n⟩ { g with stack := rest } (.invokevirtual index) mk (.ref a :: argsL).toArray X₁ hg hsize hdg hW (X₁.named hnamed) ⟨rfl, eT, hc, hs⟩
  dsimp only [Pt.U, Pt.locs, Pt.cells, Pt.slots] at X' l1 y1 z1 st hQ
  subst l1 y1 z1
  exact ⟨v, T', Lc, X', hQ, fun t k => ((hstep₁ _ (fun acts => by rw [doInvoke_state]; exact Steps.refl _)).trans st).trans k⟩
/-- System.arraycopy between two arrays of longs -/
theorem own_copyJ (X : Stand p l e R s m args below meth c T locs k n) (hx : p.tables.exec = Jvm.exec) (hZ : Z.Warmed39 s.vm) {own : String} {index : Nat} (hown : s.vm.findClass own = some m.cls)
    (w1 : (Jvm.Cond.methodLink own index (⟨"java/lang/System", "arraycopy", "(Ljava/lang/Object;ILjava/lang/Object;II)V"⟩ : MethodName)).before a0 Z = true) (w2 : (Jvm.Cond.native (⟨"java/lang/System", "arraycopy", "(Ljava/lang/Object;ILjava/lang/Object;II)V"⟩ : MethodName)).before a0 Z = true) (w3 : (Jvm.Cond.static (⟨"java/lang/System", "arraycopy", "(Ljava/lang/Object;ILjava/lang/Object;II)V"⟩ : MethodName)).before a0 Z = true) (w4 : (Jvm.Cond.initialized "java/lang/System").before a0 Z = true)
    (eT : T.heap = h) (N : Fr n0 locs) {G G' : Nat → Int64} {la lb : Nat} (A : Ary Z h a .long la (fun i => .long (G i))) (B : Ary Z h b .long lb (fun i => .long (G' i))) (gb : n0 ≤ b) {o q z : Nat} {jo jq jn : Int32} (ho : jo = Int32.ofNat o) (hq : jq = Int32.ofNat q) (hn : jn = Int32.ofNat z) (h4 : o + z ≤ la) (h5 : q + z ≤ lb)
    (hg : g.method = m) (hsize : g.locals.size = c.maxLocals) {rest : List Value} (hstack : g.stack = .int jn :: .int jq :: .ref b :: .int jo :: .ref a :: rest) (hdg : decode c.code g.pc = .ok (.invokestatic index, 3)) {W : Nat} (hW : 2 * g.monitorRoom + (rest.map fun v => v.category).sum ≤ W) (hfr : 1 ≤ R.frames) (hlo : W + 40 ≤ R.locals) :
    ∃ (T' : State) (h' : Heap) (locs' : List Loc), Stand p l e R s m args below meth c T' locs' k n ∧ T'.heap = h' ∧ Fr n0 locs' ∧ Keep h h' [b] ∧ Ary Z h' b .long lb (fun i => .long (if q ≤ i ∧ i < q + z then G (o + (i - q)) else G' i)) ∧ ∀ t, Steps p.tables e below (T'.setTop { g with pc := g.pc + 3, stack := rest }) t → Steps p.tables e below (T.setTop g) t := by
  obtain ⟨cA, hA, sA, lA, fA⟩ := A
  obtain ⟨cB, hB, sB, lB, fB⟩ := B
  have hal : Z.vm.Alike T.vm := (wtrans hZ X.warmed).alike
  have XA : XT.Arr .long a cA T := ⟨by rw [eT]; exact hA.1, State.isArrayOf_alike hal hA.2.1, hA.2.2, by rw [sA]; exact lA⟩
  have XB : XT.Arr .long b cB T := ⟨by rw [eT]; exact hB.1, State.isArrayOf_alike hal hB.2.1, hB.2.2, by rw [sB]; exact lB⟩
  have val : ∀ i, i < la → cA.slots.getD i .null = .long (G i) := fun i hi => by
    rw [Array.getD_eq_getD_getElem?, fA i hi]; rfl
  have hgo : XT.Goes .long cA o z cB T := fun i hi => by
    rw [val (o + i) (by omega)]
    exact ⟨rfl, fun q => by cases q⟩
  obtain ⟨T', B', X', P, c1, c2, c3, c4, st⟩ := X.acopy hx hown (index := index) (fun d hd => by
    simp only [XT.acW, List.mem_cons, List.not_mem_nil, or_false] at hd
    rcases hd with rfl | rfl | rfl | rfl
    · exact mvT hZ w1
    · exact mvT hZ w2
    · exact mvT hZ w3
    · exact mvT hZ w4) XA XB rfl ho hq hn (by rw [sA]; exact h4) (by rw [sB]; exact h5) hgo hg hsize hstack hdg hW hfr hlo
  refine ⟨T', _, _, X', rfl, N.app (fun y hy => by rw [copyLocs_base hy]; exact gb), ?_, ⟨B', ⟨P.1, ?_, by rw [c2]; exact hB.2.2⟩, by rw [c3]; exact sB, lB, ?_⟩, st⟩
  · refine ⟨by rw [P.2.2, eT]; exact Nat.le_refl _, fun x cx hxx nx => ?_, fun x cx hxx => ?_⟩
    · rw [P.2.1 x (fun q => nx (by simp [q])), eT]; exact hxx
    · by_cases q : x = b
      · subst q
        cases hB.1.symm.trans hxx
        exact ⟨B', P.1, c1, c2, c3⟩
      · exact ⟨cx, by rw [P.2.1 x q, eT]; exact hxx, rfl, rfl, rfl⟩
  · obtain ⟨q1, kk, q2, q3⟩ := hB.2.1
    exact ⟨by rw [c2]; exact q1, kk, by rw [c1]; exact q2, q3⟩
  · intro i hi
    show B'.slots[i]? = some (Value.long (if q ≤ i ∧ i < q + z then G (o + (i - q)) else G' i))
    rw [c4 i]
    by_cases qq : q ≤ i ∧ i < q + z
    · rw [if_pos qq, if_pos qq, val _ (by omega)]
    · rw [if_neg qq, if_neg qq]; exact fB i hi
end OwnMore
end Jvm.RoadKit
namespace Jvm.RoadKit
open Sem ClassFile Op Lib Jvm.Stand Jvm.Free Jvm.LawKit
section OwnWide
variable {p : Program} {l : Launch} {e : Env} {R : Room} {s s' s0 : State} {m : MethodId} {args : Array Value} {below : List Frame} {meth : Method} {c : Code} {T T' : State} {locs locs' : List Loc} {k n k' n' : Nat} {Z : State} {a0 : Array Value} {h h' h0 : Heap} {vm : Vm} {n1 : Nat}
variable {ret : Option FieldType} {Q : Option Value → Heap → List Loc → Prop} {K N : Nat} {g g' : JFrame}
/-- OwnFin, over tables that may have grown since s0 -/
def OwnFinW (s0 : State) (_X : Stand p l e R s m args below meth c T locs k n) (ret : Option FieldType) (Q : Option Value → Heap → List Loc → Prop) (K N : Nat) (g : JFrame) : Prop :=
  ∃ (i : Instr) (w v : Option Value) (T' : State) (locs' : List Loc) (k' n' pcr n1 : Nat) (Ls : Array Slot) (vm1 : Vm), OwnRet i ret w v ∧ Stand p l e R (s0.setVm vm1) m args below meth c T' locs' k' n' ∧ s0.Since vm1 n1 ∧ n1 ≤ T'.heap.size ∧ k' ≤ K ∧ n' ≤ N ∧ Q v T'.heap locs' ∧ decode c.code pcr = .ok (i, 1) ∧
    ∀ t, Steps p.tables e below (T'.setTop (mkF m pcr Ls w.toList)) t → Steps p.tables e below (T.setTop g) t
theorem OwnFinW.step {X : Stand p l e R s m args below meth c T locs k n} (X' : Stand p l e R s' m args below meth c T' locs' k' n') (hs : ∀ t, Steps p.tables e below (T'.setTop g') t → Steps p.tables e below (T.setTop g) t) (hF : OwnFinW s0 X' ret Q K N g') : OwnFinW s0 X ret Q K N g := by
  obtain ⟨i, w, v, T2, locs2, k2, n2, pcr, q1, Ls, vm1, h1, h2, h3, h4, h5, h6, h7, h8, h9⟩ := hF
  exact ⟨i, w, v, T2, locs2, k2, n2, pcr, q1, Ls, vm1, h1, h2, h3, h4, h5, h6, h7, h8, fun t k => hs t (h9 t k)⟩
theorem ostW (g' : JFrame) {X : Stand p l e R s m args below meth c T locs k n} (X' : Stand p l e R s' m args below meth c T' locs' k' n') (hs : ∀ t, Steps p.tables e below (T'.setTop g') t → Steps p.tables e below (T.setTop g) t) (hF : OwnFinW s0 X' ret Q K N g') : OwnFinW s0 X ret Q K N g := OwnFinW.step X' hs hF
theorem OwnFinW.retInt (X : Stand p l e R (s0.setVm vm) m args below meth c T locs k n) (hS : s0.Since vm n1) (hz : n1 ≤ T.heap.size) {pc : Nat} {Ls : Array Slot} {z : Int32} (hd : decode c.code pc = .ok (.ireturn, 1)) (hk : k ≤ K) (hn : n ≤ N) (hQ : Q (some (.int z)) T.heap locs) : OwnFinW s0 X (some .int) Q K N (mkF m pc Ls [.int z]) :=
  ⟨.ireturn, some (.int z), _, T, locs, k, n, pc, n1, Ls, vm, Or.inl ⟨rfl, z, rfl, rfl, rfl⟩, X, hS, hz, hk, hn, hQ, hd, fun _ k => k⟩
theorem OwnFinW.retNar (X : Stand p l e R (s0.setVm vm) m args below meth c T locs k n) (hS : s0.Since vm n1) (hz : n1 ≤ T.heap.size) {t : FieldType} (ht : t = .boolean ∨ t = .byte ∨ t = .char ∨ t = .short) {pc : Nat} {Ls : Array Slot} {z : Int32} (hd : decode c.code pc = .ok (.ireturn, 1)) (hk : k ≤ K) (hn : n ≤ N) (hQ : Q (some (.int (nar t z))) T.heap locs) : OwnFinW s0 X (some t) Q K N (mkF m pc Ls [.int z]) :=
  ⟨.ireturn, some (.int z), _, T, locs, k, n, pc, n1, Ls, vm, Or.inr (Or.inl ⟨rfl, t, z, rfl, ht, rfl, rfl⟩), X, hS, hz, hk, hn, hQ, hd, fun _ k => k⟩
theorem OwnFinW.retVoid (X : Stand p l e R (s0.setVm vm) m args below meth c T locs k n) (hS : s0.Since vm n1) (hz : n1 ≤ T.heap.size) {pc : Nat} {Ls : Array Slot} (hd : decode c.code pc = .ok (.return_, 1)) (hk : k ≤ K) (hn : n ≤ N) (hQ : Q none T.heap locs) : OwnFinW s0 X none Q K N (mkF m pc Ls []) :=
  ⟨.return_, none, _, T, locs, k, n, pc, n1, Ls, vm, Or.inr (Or.inr (Or.inr (Or.inr ⟨rfl, rfl, rfl, rfl⟩))), X, hS, hz, hk, hn, hQ, hd, fun _ k => k⟩
theorem own_metW {y : MethodName} {bytes : ByteArray} {maxL : Nat} {rm : Room} {ws : List Jvm.Cond} {as' : Array Value} {Ls : Array Slot} (hpf : plainFor y = true) (hent : ∀ m, entryFrame m as' maxL = mkF m 0 Ls [])
    (H : ∀ p e s m below meth c s₁ (X : Stand p l e rm s m as' below meth c s₁ [] 0 0), p.tables.exec = Jvm.exec → c.code = bytes → c.maxLocals = maxL → s.vm.findClass y.cls = some m.cls → meth.name = y.name → Z.Warmed39 s.vm → s₁.heap = h0 → OwnFinW s X ret Q rm.cells rm.slots (mkF m 0 Ls [])) :
    MetFree l y (head1 (Jvm.Cond.code y bytes maxL ret :: ws) rm) (fun a U => a = as' ∧ Z.Warmed39 U.vm ∧ U.heap = h0) (fun _ _ _ _ _ => True) (fun _ U o U' => ∃ v L, o = .returned v ∧ Q v U'.heap L ∧ ReturnedEndW U o U' L rm.cells rm.slots) := by
  refine MetFree.of_bodySF hpf hisR ?_
  intro p e s m args below meth c s₁ Bd hml0 hP hK
  obtain ⟨rfl, hZ, hh⟩ := hP
  have hx := Bd.exec
  have hby := Bd.bytes
  have hown : s.vm.findClass y.cls = some m.cls := findClass_of_methodNamed Bd.named
  have hnm := (name_of_methodNamed Bd.named Bd.method).1
  have X0 : Stand p l e rm s m args below meth c s₁ [] 0 0 := Stand.of_body Bd
  have e0 : s₁.heap = h0 := by rw [← hh, Bd.state]; rfl
  obtain ⟨i, w, v, T2, locs2, k2, n2, pcr, q1, Ls2, vm1, h1, X2, hS, hz, h3, h4, h5, h6, h7⟩ := H p e s m below meth c s₁ X0 hx hby hml0 hown hnm hZ e0
  have hret := Bd.returns
  have hv : meth.sig.returnType = none → v = none := by
    intro q
    rw [hret] at q
    rcases h1 with ⟨-, z, hr, -⟩ | ⟨-, t, z, hr, -⟩ | ⟨-, hr, -⟩ | ⟨-, t, u, hr, -⟩ | ⟨-, -, -, hr⟩
    · rw [hr] at q; cases q
    · rw [hr] at q; cases q
    · rw [hr] at q; cases q
    · rw [hr] at q; cases q
    · exact hr
  obtain ⟨fs, hr, hrun, hended, hE1, hE2, hE3, hE4⟩ := X2.leaveW hS hz (v := v) hv
  refine ⟨_, _, ?_, hrun, hended, _, _, rfl, h5, ⟨_, rfl⟩, hE2, hE3, hE4.mono h3 h4⟩
  rw [hent]
  apply h7
  rcases h1 with ⟨rfl, z, rfl, rfl, rfl⟩ | ⟨rfl, t, z, rfl, ht, rfl, rfl⟩ | ⟨rfl, rfl, z, rfl, rfl⟩ | ⟨rfl, t, u, rfl, ht, hu, hnw, rfl, rfl⟩ | ⟨rfl, rfl, rfl, rfl⟩
  · exact retI X2 hx hret h6 hr
  · exact retN X2 hx hret ht h6 hr
  · exact retOut X2 hx hret rfl (Or.inr (Or.inl ⟨rfl, rfl, z, rfl⟩)) h6 hr
  · exact retOut X2 hx hret hnw (Or.inr (Or.inr (Or.inr (Or.inr ⟨rfl, ht, hu⟩)))) h6 hr
  · exact X2.returnOut hx hret h6 hr
/-- a constructor called whose walk may have interned -/
theorem own_callIW (X : Stand p l e R s m args below meth c T locs k n) (hx : p.tables.exec = Jvm.exec) (hZ : Z.Warmed39 s.vm) {own : String} {index : Nat} {y : MethodName} {bytes : ByteArray} {maxL W : Nat} {rm : Room} {a : Addr} {argsL rest : List Value} {ps : List FieldType} {r : Option FieldType} {Qc : Option Value → Heap → List Loc → Prop}
    (hy1 : y.name = "<init>") (hown : s.vm.findClass own = some m.cls) (w1 : (Jvm.Cond.methodLink own index y).before a0 Z = true) (w2 : (Jvm.Cond.instanceMethod y).before a0 Z = true) (w3 : (Jvm.Cond.initialized y.cls).before a0 Z = true) (w4 : (Jvm.Cond.code y bytes maxL none).before a0 Z = true) (hy : y.cls ≠ "java/lang/invoke/MethodHandle" ∧ y.cls ≠ "java/lang/invoke/VarHandle")
    (hM : MetFree l y (head1 [Jvm.Cond.code y bytes maxL none] rm) (fun a' U => a' = (Value.ref a :: argsL).toArray ∧ Z.Warmed39 U.vm ∧ U.heap = h) (fun _ _ _ _ _ => True) (fun _ U o U' => ∃ v L, o = .returned v ∧ Qc v U'.heap L ∧ ReturnedEndW U o U' L rm.cells rm.slots))
    (hf : rm.frames + 1 ≤ R.frames) (hl : W + (maxL + 11) + rm.locals ≤ R.locals) (hc : k + rm.cells ≤ R.cells) (hs : n + rm.slots ≤ R.slots) (eT : T.heap = h)
    (hg : g.method = m) (hsize : g.locals.size = c.maxLocals) (hd : parseMethodDescriptor y.desc = some ⟨ps, r⟩) (hlen : argsL.length = ps.length) (hstack : g.stack = argsL.reverse ++ .ref a :: rest) (hW : 2 * g.monitorRoom + (rest.map fun v => v.category).sum ≤ W) (hdg : decode c.code g.pc = .ok (.invokespecial index, 3)) :
    ∃ v T' L, Stand p l e R (s.setVm T'.vm) m args below meth c T' (locs ++ L) (k + rm.cells) (n + rm.slots) ∧ s.Since T'.vm T'.heap.size ∧ T.heap.size ≤ T'.heap.size ∧ Z.Warmed39 (s.setVm T'.vm).vm ∧ (s.setVm T'.vm).vm.findClass own = some m.cls ∧ Qc v T'.heap L ∧ ∀ t, Steps p.tables e below (T'.setTop { g with pc := g.pc + 3, stack := v.toList ++ rest }) t → Steps p.tables e below (T.setTop g) t := by
  obtain ⟨v, vm1, ⟨T', L', k', n'⟩, -, X', hS, hgr, ⟨Lc, hQ, l1, y1, z1⟩, st⟩ := X.specialBackS hx (y := y) hy1 hown (mvT hZ w1) (mvT hZ w2) (mvT hZ w4) hy (backOfS (W := W) hM hZ w4 w3 hf hl) hg hsize (Steps.refl _) (a := a) (argsL := argsL) (rest := rest) (lenOf hd hlen) hstack hW hdg (fun _ _ => ⟨rfl, eT, hc, hs⟩)
  dsimp only [Pt.U, Pt.locs, Pt.cells, Pt.slots] at X' l1 y1 z1 st hQ hS hgr
  subst l1 y1 z1
  exact ⟨v, T', Lc, X', hS, hgr, State.Warmed39.trans (t := s) hZ hS.1, by rw [show (s.setVm T'.vm).vm = T'.vm from rfl, hS.1.alike.findClass]; exact hown, hQ, fun t k => st.trans k⟩
end OwnWide
end Jvm.RoadKit
namespace Jvm.RoadKit
open Sem ClassFile Op Lib Jvm.Stand Jvm.Free Jvm.LawKit
section OwnRefs
variable {p : Program} {l : Launch} {e : Env} {R : Room} {s : State} {m : MethodId} {args : Array Value} {below : List Frame} {meth : Method} {c : Code} {T T' : State} {locs locs' : List Loc} {k n k' n' : Nat} {Z : State} {a0 : Array Value} {h h' h0 : Heap} {g : JFrame} {n0 len : Nat} {a b : Addr} {ws : List Addr} {ty : FieldType} {f : Nat → Value}
/-- an array of references to objects of C that takes objects of C -/
def AryR (Z : State) (h : Heap) (a : Addr) (C : String) (n : Nat) (f : Nat → Value) : Prop := Ary Z h a (.object C) n f ∧ ∃ cl : Cell, h[a]? = some cl ∧ Ovr Z cl.cls C
theorem AryR.keep {C : String} (F : AryR Z h a C len f) (K : Keep h h' ws) (q : a ∉ ws) : AryR Z h' a C len f := by
  obtain ⟨A, cl, h1, h2⟩ := F
  exact ⟨A.keep K q, cl, K.2.1 a cl h1 q, h2⟩
theorem AryR.lt {C : String} (F : AryR Z h a C len f) : a < h.size := F.1.lt
theorem AryR.neS {C : String} (F : AryR Z h a C len f) (q : b = h.size) : a ≠ b := Ary.neS F.1 q
theorem Ary.old (F : Ary Z Z.heap a ty len f) (X : Old Z n0 h) : Ary Z h a ty len f := by
  obtain ⟨c, A, r⟩ := F
  exact ⟨c, A.ext X.2, r⟩
theorem own_newR (X : Stand p l e R s m args below meth c T locs k n) (hx : p.tables.exec = Jvm.exec) (hZ : Z.Warmed39 s.vm) {own C : String} {index : Nat} (hown : s.vm.findClass own = some m.cls) (w1 : (Jvm.Cond.classLink own index C).before a0 Z = true) (w2 : (Jvm.Cond.arrayOver (.object C)).before a0 Z = true) (eT : T.heap = h) (hg : g.method = m) (hd : decode c.code g.pc = .ok (.anewarray index, 3)) {z : Int32} {rest : List Value} (hs : g.stack = .int z :: rest)
    (hn : ¬ z < 0) {cap : Nat} (hcap : z.toNatClampNeg ≤ cap) (hb : cap * 8 ≤ 536870912) (hc : k + 1 ≤ R.cells) (hl : n + cap ≤ R.slots) :
    ∃ (T' : State) (h' : Heap) (a : Addr), Stand p l e R s m args below meth c T' locs (k + 1) (n + cap) ∧ T'.heap = h' ∧ a = h.size ∧ Keep h h' [] ∧ AryR Z h' a C z.toNatClampNeg (fun _ => .null) ∧
      ∀ t, Steps p.tables e below (T'.setTop { g with pc := g.pc + 3, stack := .ref a :: rest }) t → Steps p.tables e below (T.setTop g) t := by
  obtain ⟨T', h', cA, X', e', E, A, O, st⟩ := newR X hx hZ hown w1 w2 eT hg hd hs hn hcap hb hc hl
  refine ⟨T', h', _, X', e', rfl, keep_ext E, ⟨⟨_, A, sz_new _ _ _, (back32 hn).2, fun i hi => ?_⟩, _, A.1, O⟩, st⟩
  simp [newA, hi, defaultValue]
theorem own_sto {C D : String} {y : Addr} (A : AryR Z h a C len f) (E : Exa Z h y D) (w : (Jvm.Cond.castable D C).before a0 Z = true) : Sto Z h a (.ref y) := by
  obtain ⟨⟨cl, A1, r⟩, c2, O1, O2⟩ := A
  have q : cl = c2 := Option.some.inj (A1.1.symm.trans O1)
  subst q
  exact Sto.of A1 O2 (Ins.of_exa E w)
theorem own_stA (X : Stand p l e R s m args below meth c T locs k n) (hx : p.tables.exec = Jvm.exec) (hZ : Z.Warmed39 s.vm) (eT : T.heap = h) (N : Fr n0 locs) {C : String} {G : Nat → Value} (A : AryR Z h a C len G) (ga : n0 ≤ a) {j : Int32} {v : Value} (hj : InB j len) (F : Sto Z h a v) {rest : List Value} (hg : g.method = m) (hs : g.stack = v :: .int j :: .ref a :: rest) (hd : decode c.code g.pc = .ok (.aastore, 1)) :
    ∃ (T' : State) (h' : Heap) (locs' : List Loc), Stand p l e R s m args below meth c T' locs' k n ∧ T'.heap = h' ∧ Fr n0 locs' ∧ Keep h h' [a] ∧ AryR Z h' a C len (updN G j.toNatClampNeg v) ∧ ∀ t, Steps p.tables e below (T'.setTop { g with pc := g.pc + 1, stack := rest }) t → Steps p.tables e below (T.setTop g) t := by
  obtain ⟨⟨cl, A1, r⟩, c2, O1, O2⟩ := A
  obtain ⟨T', h', X', e', W, st⟩ := stR X hx hZ eT A1 (not_in hj r.1) rfl F hg hs hd
  have K := Keep.of_wr W
  obtain ⟨c', q1, q2, -⟩ := K.2.2 a c2 O1
  exact ⟨T', h', _, X', e', Fr.snoc X' N ga, K, ⟨Ary.wr ⟨cl, A1, r⟩ W hj.2, c', q1, by rw [q2]; exact O2⟩, st⟩
theorem own_putFV (X : Stand p l e R s m args below meth c T locs k n) (hx : p.tables.exec = Jvm.exec) (hZ : Z.Warmed39 s.vm) {own R0 O nm d C : String} {index kk : Nat} {fty : FieldType} (hown : s.vm.findClass own = some m.cls) (w : (Jvm.Cond.fieldLink own index R0 nm d).before a0 Z = true) (via : Via Z R0 O nm d)
    (eT : T.heap = h) (N : Fr n0 locs) {u v : Value} (F : Fld Z h a O nm d u) (E : Exa Z h a C) (ga : n0 ≤ a) (lw : (Jvm.Cond.lays C O nm d).before a0 Z = true ∨ ((Jvm.Cond.laysFinal C O nm d).before a0 Z = true ∧ own = O ∧ meth.name = "<init>")) (wi : (Jvm.Cond.instantiable C kk).before a0 Z = true)
    (hty : parseFieldDescriptor d = some fty) (hn : narrow fty v = v) (hf : fits fty v = true) {rest : List Value} (hg : g.method = m) (hs : g.stack = v :: .ref a :: rest) (hd : decode c.code g.pc = .ok (.putfield index, 3)) :
    ∃ (T' : State) (h' : Heap) (locs' : List Loc), Stand p l e R s m args below meth c T' locs' k n ∧ T'.heap = h' ∧ Fr n0 locs' ∧ Wr h h' a (slotOf Z O nm d) v ∧ Fld Z h' a O nm d v ∧ ∀ t, Steps p.tables e below (T'.setTop { g with pc := g.pc + 3, stack := rest }) t → Steps p.tables e below (T.setTop g) t := by
  obtain ⟨T', h', X', e', W, st⟩ := putF X hx hZ hown (host := "") (Or.inl w) via eT F E lw wi (ty := fty) hty hn hf hg hs hd
  exact ⟨T', h', _, X', e', Fr.snoc X' N ga, W, F.same W, st⟩
theorem own_callF (X : Stand p l e R s m args below meth c T locs k n) (hx : p.tables.exec = Jvm.exec) (hZ : Z.Warmed39 s.vm) {own C : String} {index count : Nat} {xi y : MethodName} {bytes : ByteArray} {maxL W : Nat} {rt : Option FieldType} {rm : Room} {a : Addr} {argsL rest : List Value} {ps : List FieldType} {r : Option FieldType} {Qc : Option Value → Heap → List Loc → Prop}
    (hown : s.vm.findClass own = some m.cls) (w1 : (Jvm.Cond.methodLink own index xi).before a0 Z = true) (w2 : (Jvm.Cond.declares xi).before a0 Z = true) (w5 : (Jvm.Cond.interfaceMethod xi.cls xi.cls xi.name xi.desc).before a0 Z = true) (w6 : (Jvm.Cond.selects C xi y).before a0 Z = true) (w7 : (Jvm.Cond.instanceMethod y).before a0 Z = true) (w8 : (Jvm.Cond.publicMethod y).before a0 Z = true) (w9 : (Jvm.Cond.unhidden C xi.name xi.desc).before a0 Z = true) (w10 : (Jvm.Cond.castable C xi.cls).before a0 Z = true) (hfa : ((Jvm.Cond.interfaceMethod xi.cls xi.cls xi.name xi.desc).onTables && (Jvm.Cond.interfaceMethod xi.cls xi.cls xi.name xi.desc).keepsFace) = true) (w3 : (Jvm.Cond.initialized y.cls).before a0 Z = true) (w4 : (Jvm.Cond.code y bytes maxL rt).before a0 Z = true) (hy : xi.cls ≠ "java/lang/invoke/MethodHandle" ∧ xi.cls ≠ "java/lang/invoke/VarHandle")
    (E : Exa Z h a C)
    (hM : MetFree l y (head1 [Jvm.Cond.code y bytes maxL rt] rm) (fun a' U => a' = (Value.ref a :: argsL).toArray ∧ Z.Warmed39 U.vm ∧ U.heap = h) (fun _ _ _ _ _ => True) (fun _ U o U' => ∃ v L, o = .returned v ∧ Qc v U'.heap L ∧ FrameEnd U o U' L rm.cells rm.slots))
    (hf : rm.frames + 1 ≤ R.frames) (hl : W + (maxL + 11) + rm.locals ≤ R.locals) (hc : k + rm.cells ≤ R.cells) (hs : n + rm.slots ≤ R.slots) (eT : T.heap = h)
    (hg : g.method = m) (hsize : g.locals.size = c.maxLocals) (hd : parseMethodDescriptor xi.desc = some ⟨ps, r⟩) (hlen : argsL.length = ps.length) (hstack : g.stack = argsL.reverse ++ .ref a :: rest) (hW : 2 * g.monitorRoom + (rest.map fun v => v.category).sum ≤ W) (hdg : decode c.code g.pc = .ok (.invokeinterface index count, 5)) :
    ∃ v T' L, Stand p l e R s m args below meth c T' (locs ++ L) (k + rm.cells) (n + rm.slots) ∧ Qc v T'.heap L ∧ ∀ t, Steps p.tables e below (T'.setTop { g with pc := g.pc + 5, stack := v.toList ++ rest }) t → Steps p.tables e below (T.setTop g) t := by
  obtain ⟨cq, kq, q1, q2, q3⟩ := isOf hZ eT E
  obtain ⟨v, vm1, ⟨T', L', k', n'⟩, -, X', ⟨Lc, hQ, l1, y1, z1⟩, st⟩ := X.interfaceBack hx (xi := xi) (y := y) (index := index) (count := count) hown (mvT hZ w1) (mvT hZ w2) (mvT hZ w5 hfa) (mvT hZ w6) (mvT hZ w7) (mvT hZ w8) (mvT hZ w9) (mvT hZ w10) hy (backOf (W := W) hM hZ w4 w3 hf hl) q1 q2 q3 hg hsize (Steps.refl _) (argsL := argsL) (rest := rest) (lenOf hd hlen) hstack hW hdg (fun _ _ => ⟨rfl, eT, hc, hs⟩)
  dsimp only [Pt.U, Pt.locs, Pt.cells, Pt.slots] at X' l1 y1 z1 st hQ
  subst l1 y1 z1
  exact ⟨v, T', Lc, X', hQ, fun t k => st.trans k⟩
/-- a static that holds an empty array -/
theorem own_empty {C nm d : String} (w1 : (Jvm.Cond.arrayOf (Term.static C nm d) ty).value args Z none Z [] = some true) (w2 : (Jvm.Cond.eq (Term.length (Term.static C nm d)) (Term.int 0)).value args Z none Z [] = some true) (hi : (Jvm.Cond.initializedFor C nm d).before args Z = true ∨ ((Jvm.Cond.initialized C).before args Z = true ∧ (Jvm.Cond.laysStatic C nm d).before args Z = true)) : ∃ a : Addr, Sta Z Z.heap C nm d (.ref a) ∧ Ary Z Z.heap a ty 0 (fun _ => .null) := by
  obtain ⟨a, ev⟩ := arr_v w1
  obtain ⟨c, A⟩ := Arr.start ev w1
  have hat : Z.arrayAt? a = some c := Arr.fin (State.Warmed39.refl Z).alike A
  have hl : c.slots.size = 0 := by
    cases hlen : (Term.length (Term.static C nm d)).eval args Z none [] Z with
    | none => simp [Cond.value, hlen] at w2
    | some v =>
      by_cases hb : c.slots.size < 2 ^ 31
      · have q := len_f (t := Term.static C nm d) ev hat hb
        have z := gotT (Cond.eq_ints q (Term.int_eval (0))) w2
        have z2 := congrArg Int32.toInt z
        rw [len_toInt hb] at z2
        have z3 : (0 : Int32).toInt = 0 := rfl
        omega
      · have hb' : ¬ c.slots.size < 2147483648 := hb
        simp [Term.eval] at hlen ev
        simp [ev, hat, hb'] at hlen
  exact ⟨a, Sta.start ev hi, c, A, hl, by decide, fun i hi => absurd hi (Nat.not_lt_zero i)⟩
end OwnRefs
end Jvm.RoadKit
namespace Jvm.RoadKit
open Sem ClassFile Op Lib Jvm.Stand Jvm.Free Jvm.LawKit
section OwnBits2
/-- bits of longs, told by getLsbD -/
theorem bitsEq {x y : Int64} (h : ∀ i, i < 64 → x.toBitVec.getLsbD i = y.toBitVec.getLsbD i) : x = y := by
  apply Int64.toBitVec_inj.mp
  exact BitVec.eq_of_getLsbD_eq h
theorem bAnd (x y : Int64) (i : Nat) : (x &&& y).toBitVec.getLsbD i = (x.toBitVec.getLsbD i && y.toBitVec.getLsbD i) := by
  show (x.toBitVec &&& y.toBitVec).getLsbD i = _
  exact BitVec.getLsbD_and
theorem bOr (x y : Int64) (i : Nat) : (x ||| y).toBitVec.getLsbD i = (x.toBitVec.getLsbD i || y.toBitVec.getLsbD i) := by
  show (x.toBitVec ||| y.toBitVec).getLsbD i = _
  exact BitVec.getLsbD_or
theorem bXor (x y : Int64) (i : Nat) : (x ^^^ y).toBitVec.getLsbD i = (x.toBitVec.getLsbD i ^^ y.toBitVec.getLsbD i) := by
  show (x.toBitVec ^^^ y.toBitVec).getLsbD i = _
  exact BitVec.getLsbD_xor
theorem bZero (i : Nat) : (0 : Int64).toBitVec.getLsbD i = false := by
  show (0#64).getLsbD i = false
  simp
theorem bTop {x : Int64} {b : Nat} (h : x.toBitVec.toNat < 2 ^ b) {i : Nat} (hi : b ≤ i) : x.toBitVec.getLsbD i = false :=
  Nat.testBit_lt_two_pow (Nat.lt_of_lt_of_le h (Nat.pow_le_pow_right (by omega) hi))
theorem amt (y : Int32) {k : Nat} (hy : y.toInt = k) (hk : k < 64) : (y.toInt64 &&& 63) = Int64.ofNat k := by
  have h := Jvm.Kit.i64_mask y.toInt64 63 (k := 6) (by decide) (by decide)
  have e : (Int64.ofNat k).toInt = (k : Int) := by first | exact Int64.toInt_ofNat_of_lt (by omega) | exact Int64.toInt_ofNat_small (by omega)
  rw [i64eq, h, Jvm.Kit.i64_of_i32, hy, e]; omega
theorem amtL : ∀ k : Fin 64, ((Int64.ofNat k.val).toBitVec.smod 64).toNat = k.val := by decide
theorem amtR : ∀ k : Fin 64, ((Int64.ofNat k.val).toUInt64.toBitVec % 64).toNat = k.val := by decide
theorem bShl (x : Int64) (y : Int32) {k : Nat} (hy : y.toInt = k) (hk : k < 64) {i : Nat} (hi : i < 64) : (x <<< (y.toInt64 &&& 63)).toBitVec.getLsbD i = (decide (k ≤ i) && x.toBitVec.getLsbD (i - k)) := by
  rw [amt y hy hk, Int64.toBitVec_shiftLeft, BitVec.shiftLeft_eq', amtL ⟨k, hk⟩, BitVec.getLsbD_shiftLeft]
  by_cases q : k ≤ i
  · have q' : ¬ i < k := by omega
    simp [q, q', hi]
  · have q' : i < k := by omega
    simp [q, q', hi]
theorem bShr (x : Int64) (y : Int32) {k : Nat} (hy : y.toInt = k) (hk : k < 64) (i : Nat) : (XT.ushrL x y).toBitVec.getLsbD i = x.toBitVec.getLsbD (k + i) := by
  have e : (y.toInt64.toUInt64 &&& Int64.toUInt64 63) = (Int64.ofNat k).toUInt64 := congrArg Int64.toUInt64 (amt y hy hk)
  unfold XT.ushrL
  rw [e]
  show (x.toUInt64 >>> (Int64.ofNat k).toUInt64).toBitVec.getLsbD i = _
  rw [UInt64.toBitVec_shiftRight, BitVec.ushiftRight_eq', amtR ⟨k, hk⟩, BitVec.getLsbD_ushiftRight]
  rfl
theorem natOfL {x : Int64} (h : 0 ≤ x.toInt) : x.toBitVec.toNat = x.toInt.toNat := by
  have e : x.toInt = x.toBitVec.toInt := rfl
  have e2 := x.toBitVec.isLt
  rw [e, BitVec.toInt_eq_toNat_cond] at h ⊢
  split at h <;> split <;> omega
theorem int64nat {x : Int64} {n : Nat} (h : x.toBitVec.toNat ≤ n) (hn : n < 2 ^ 63) : 0 ≤ x.toInt ∧ x.toInt ≤ n := by
  have e : x.toInt = x.toBitVec.toInt := rfl
  rw [e, BitVec.toInt_eq_toNat_of_lt (by omega)]; omega
theorem nat64lt {x : Int64} {b : Nat} (h : 0 ≤ x.toInt) (h2 : x.toInt < ((2 ^ b : Nat) : Int)) : x.toBitVec.toNat < 2 ^ b := by
  rw [natOfL h]; omega
theorem back32L {x : Int64} (h1 : 0 ≤ x.toInt) (h2 : x.toInt < 2147483648) : (x.toInt32).toInt64 = x := by
  rw [i64eq, Jvm.Kit.i64_of_i32, Jvm.Kit.i32_of_i64 (by omega) (by omega)]
theorem back64I (x : Int32) : (x.toInt64).toInt32 = x := by
  have h1 := Int32.le_toInt x
  have h2 := Int32.toInt_lt x
  have e := Jvm.Kit.i64_of_i32 x
  rw [i32eq, Jvm.Kit.i32_of_i64 (by omega) (by omega), e]
/-- a field of b bits at the place s: written and read back -/
theorem own_field (t v C M : Int64) (y : Int32) (s b : Nat) (hs : s + b ≤ 64) (hs64 : s < 64) (hy : y.toInt = s) (hC : ∀ i : Fin 64, C.toBitVec.getLsbD i.val = !(decide (s ≤ i.val) && decide (i.val < s + b))) (hM : ∀ i : Fin 64, M.toBitVec.getLsbD i.val = decide (i.val < b)) (hv : v.toBitVec.toNat < 2 ^ b) :
    ((((t &&& C) ||| (v <<< (y.toInt64 &&& 63))) ^^^ t) &&& C) = 0 ∧ (XT.ushrL ((t &&& C) ||| (v <<< (y.toInt64 &&& 63))) y &&& M) = v := by
  constructor
  · apply bitsEq
    intro i hi
    rw [bAnd, bXor, bOr, bAnd, bShl v y hy hs64 hi, hC ⟨i, hi⟩, bZero]
    by_cases q1 : s ≤ i
    · by_cases q2 : i < s + b
      · simp [q1, q2]
      · rw [bTop hv (show b ≤ i - s by omega)]
        simp [q2]
    · simp [q1]
  · apply bitsEq
    intro i hi
    rw [bAnd, bShr _ y hy hs64, hM ⟨i, hi⟩]
    by_cases q : i < b
    · rw [bOr, bAnd, bShl v y hy hs64 (show s + i < 64 by omega), hC ⟨s + i, by omega⟩]
      have q1 : s ≤ s + i := by omega
      have q2 : s + i < s + b := by omega
      have q3 : s + i - s = i := by omega
      simp [q, q1, q2, q3]
    · rw [bTop hv (show b ≤ i by omega)]
      simp [q]
end OwnBits2
end Jvm.RoadKit
namespace Jvm.Pilot.@@N@@
open Jvm Jvm.ClassFile Sem Op Lib Jvm.Free Jvm.Stand Jvm.LawKit Jvm.RoadKit Bundle Jvm.Pilot.@@N@@.Jvm.D
abbrev Y0 : MethodName := ⟨"java/lang/Math", "max", "(II)I"⟩
abbrev Y1 : MethodName := ⟨"com/example/ken2/ken2/StateLayoutUnpackPinLaw", "size", "(I)I"⟩
abbrev Y2 : MethodName := ⟨"java/util/AbstractCollection", "<init>", "()V"⟩
abbrev Y3 : MethodName := ⟨"java/util/AbstractList", "<init>", "()V"⟩
abbrev Y4 : MethodName := ⟨"java/util/ArrayList", "<init>", "()V"⟩
abbrev Y5 : MethodName := ⟨"java/lang/Record", "<init>", "()V"⟩
abbrev Y6 : MethodName := ⟨"com/example/ken2/ken2/InterpretedSystem$Variable", "<init>", "(Ljava/lang/String;Ljava/lang/String;Ljava/util/List;II)V"⟩
abbrev Y7 : MethodName := ⟨"java/util/ArrayList", "grow", "(I)[Ljava/lang/Object;"⟩
abbrev Y8 : MethodName := ⟨"java/util/ArrayList", "grow", "()[Ljava/lang/Object;"⟩
abbrev Y9 : MethodName := ⟨"java/util/ArrayList", "add", "(Ljava/lang/Object;[Ljava/lang/Object;I)V"⟩
abbrev Y10 : MethodName := ⟨"java/util/ArrayList", "add", "(Ljava/lang/Object;)Z"⟩
abbrev Y11 : MethodName := ⟨"java/util/List", "size", "()I"⟩
abbrev Y12 : MethodName := ⟨"java/util/ArrayList", "size", "()I"⟩
abbrev Y13 : MethodName := ⟨"jdk/internal/util/Preconditions", "checkIndex", "(IILjava/util/function/BiFunction;)I"⟩
abbrev Y14 : MethodName := ⟨"java/util/Objects", "checkIndex", "(II)I"⟩
abbrev Y15 : MethodName := ⟨"java/util/ArrayList", "elementData", "(I)Ljava/lang/Object;"⟩
abbrev Y16 : MethodName := ⟨"java/util/List", "get", "(I)Ljava/lang/Object;"⟩
abbrev Y17 : MethodName := ⟨"java/util/ArrayList", "get", "(I)Ljava/lang/Object;"⟩
abbrev Y18 : MethodName := ⟨"com/example/ken2/ken2/InterpretedSystem$Variable", "size", "()I"⟩
abbrev Y19 : MethodName := ⟨"java/lang/Integer", "numberOfLeadingZeros", "(I)I"⟩
abbrev Y20 : MethodName := ⟨"com/example/ken2/ken2/StateLayout", "<init>", "(Ljava/util/List;)V"⟩
abbrev Y21 : MethodName := ⟨"com/example/ken2/ken2/StateLayoutUnpackPinLaw", "val", "(II)I"⟩
abbrev Y22 : MethodName := ⟨"java/util/Arrays", "fill", "([JJ)V"⟩
abbrev Y23 : MethodName := ⟨"com/example/ken2/ken2/StateLayout", "pack", "([I[J)V"⟩
abbrev Y24 : MethodName := ⟨"com/example/ken2/ken2/StateLayout", "unpack", "([J[I)V"⟩
abbrev Y25 : MethodName := ⟨"com/example/ken2/ken2/StateLayoutUnpackPinLaw", "bounded", "(II)Z"⟩
/-! body 2: java/lang/Math.max:(II)I -/
theorem d2_0 : decode jdk_29_method_65_code 0 = .ok (.iload_n 0, 1) := by decide +kernel
theorem d2_1 : decode jdk_29_method_65_code 1 = .ok (.iload_n 1, 1) := by decide +kernel
theorem d2_2 : decode jdk_29_method_65_code 2 = .ok (.if_icmp .lt 7, 3) := by decide +kernel
theorem d2_5 : decode jdk_29_method_65_code 5 = .ok (.iload_n 0, 1) := by decide +kernel
theorem d2_6 : decode jdk_29_method_65_code 6 = .ok (.goto 4, 3) := by decide +kernel
theorem d2_9 : decode jdk_29_method_65_code 9 = .ok (.iload_n 1, 1) := by decide +kernel
theorem d2_10 : decode jdk_29_method_65_code 10 = .ok (.ireturn, 1) := by decide +kernel
theorem ef_2 (m : MethodId) (p0 : Int32) (p1 : Int32) : entryFrame m #[(.int p0), (.int p1)] 2 = mkF m 0 #[.val (.int p0), .val (.int p1)] [] := by first | (simp [entryFrame, mkF, argsToLocals, Value.category]; done) | rfl
def f2_0 (p0 : Int32) (p1 : Int32) : Int32 := (if p0 < p1 then p1 else p0)
set_option maxRecDepth 65536 in
set_option maxHeartbeats 40000000 in
theorem j2_0 {p : Program} {l : Launch} {e : Env} {s : State} {m : MethodId} {args : Array Value} {below : List Frame} {meth : Method} {c : Code} {T0 : State} {locs : List Loc} {Z : State} {a0 : Array Value} {h0 : Heap} {n0 : Nat}
    (X0 : Stand p l e ({ frames := 0, cells := 0, slots := 0, locals := 0 } : Room) s m args below meth c T0 locs 0 0) (hx : p.tables.exec = Jvm.exec) (hZ : Z.Warmed39 s.vm) (hw : ∀ d ∈ tables_1, d.before a0 Z = true) (hby : c.code = jdk_29_method_65_code) (hml : c.maxLocals = 2) (hown : s.vm.findClass "java/lang/Math" = some m.cls) (e0 : T0.heap = h0) (N0 : Fr n0 locs) (Z0 : n0 ≤ h0.size) (p0 : Int32) (p1 : Int32) :
    OwnFin X0 (some .int) (PQ (some (.int (f2_0 p0 p1))) h0 n0) 0 0 (mkF m 0 #[.val (.int p0), .val (.int p1)] []) := by
  show OwnFin X0 (some .int) (PQ (some (.int (if p0 < p1 then p1 else p0))) h0 n0) 0 0 _
  refine ost (mkF m 1 #[.val (.int p0), .val (.int p1)] [(.int p0)]) X0 (fun t k => XS.iloadN X0.here hx rfl (hb hby d2_0) rfl k) ?_
  refine ost (mkF m 2 #[.val (.int p0), .val (.int p1)] [(.int p1), (.int p0)]) X0 (fun t k => XS.iloadN X0.here hx rfl (hb hby d2_1) rfl k) ?_
  by_cases hc1 : p0 < p1
  · rw [if_pos hc1]
    refine ost (mkF m 9 #[.val (.int p0), .val (.int p1)] []) X0 (fun t k => XS.icmpYes X0.here hx rfl (pc0 := 2) (pc' := 9) rfl (hb hby d2_2) rfl (tlt hc1).1 (by decide) (by decide) k) ?_
    refine ost (mkF m 10 #[.val (.int p0), .val (.int p1)] [(.int p1)]) X0 (fun t k => XS.iloadN X0.here hx rfl (hb hby d2_9) rfl k) ?_
    exact OwnFin.retInt X0 (hb hby d2_10) (Nat.le_refl _) (Nat.le_refl _) ⟨rfl, e0, N0⟩
  · rw [if_neg hc1]
    refine ost (mkF m 5 #[.val (.int p0), .val (.int p1)] []) X0 (fun t k => XS.icmpNo X0.here hx rfl (hb hby d2_2) rfl (flt hc1).1 k) ?_
    refine ost (mkF m 6 #[.val (.int p0), .val (.int p1)] [(.int p0)]) X0 (fun t k => XS.iloadN X0.here hx rfl (hb hby d2_5) rfl k) ?_
    refine ost (mkF m 10 #[.val (.int p0), .val (.int p1)] [(.int p0)]) X0 (fun t k => XS.goto X0.here hx rfl (pc0 := 6) (pc' := 10) rfl (hb hby d2_6) (by decide) (by decide) k) ?_
    exact OwnFin.retInt X0 (hb hby d2_10) (Nat.le_refl _) (Nat.le_refl _) ⟨rfl, e0, N0⟩
def r2 (p0 : Int32) (p1 : Int32) : Int32 := f2_0 p0 p1
set_option maxRecDepth 65536 in
set_option maxHeartbeats 40000000 in
theorem rm2 (l : Launch) (Z : State) (a0 : Array Value) (hw : ∀ d ∈ tables_1, d.before a0 Z = true) (ws : List Jvm.Cond) (p0 : Int32) (p1 : Int32) (h0 : Heap) (n0 : Nat) (Z0 : n0 ≤ h0.size) :
    MetFree l Y0 (head1 (Jvm.Cond.code Y0 jdk_29_method_65_code 2 (some .int) :: ws) ({ frames := 0, cells := 0, slots := 0, locals := 0 } : Room)) (fun a U => a = #[(.int p0), (.int p1)] ∧ Z.Warmed39 U.vm ∧ U.heap = h0) (fun _ _ _ _ _ => True) (fun _ U o U' => ∃ v L, o = .returned v ∧ PQ (some (.int (r2 p0 p1))) h0 n0 v U'.heap L ∧ FrameEnd U o U' L ({ frames := 0, cells := 0, slots := 0, locals := 0 } : Room).cells ({ frames := 0, cells := 0, slots := 0, locals := 0 } : Room).slots) :=
  own_met (ret := (some .int)) (Jvm.Free.JP.mathPlain rfl (by decide +kernel)) (fun m => ef_2 m p0 p1) (fun p e s m below meth c s₁ X hx hby hml hown hnm hZ e0 => OwnFin.wide (j2_0 X hx hZ hw hby hml hown e0 (Fr.nil n0) Z0 p0 p1) (Nat.zero_le _) (Nat.zero_le _))
/-! body 1: com/example/ken2/ken2/StateLayoutUnpackPinLaw.size:(I)I -/
theorem d1_0 : decode method_2_code 0 = .ok (.iconst 1, 1) := by decide +kernel
theorem d1_1 : decode method_2_code 1 = .ok (.iload_n 0, 1) := by decide +kernel
theorem d1_2 : decode method_2_code 2 = .ok (.ldc 7, 2) := by decide +kernel
theorem d1_4 : decode method_2_code 4 = .ok (.iand, 1) := by decide +kernel
theorem d1_5 : decode method_2_code 5 = .ok (.invokestatic 8, 3) := by decide +kernel
theorem d1_8 : decode method_2_code 8 = .ok (.ireturn, 1) := by decide +kernel
theorem pn_1 : plainName "com/example/ken2/ken2/StateLayoutUnpackPinLaw" = true := by first | (simp [plainName, overriddenIn]; done) | decide +kernel
theorem ef_1 (m : MethodId) (p0 : Int32) : entryFrame m #[(.int p0)] 1 = mkF m 0 #[.val (.int p0)] [] := by first | (simp [entryFrame, mkF, argsToLocals, Value.category]; done) | rfl
theorem pd_0 : parseMethodDescriptor "(II)I" = some ⟨[.int, .int], some .int⟩ := by decide +kernel
def f1_0 (p0 : Int32) : Int32 := (r2 (1 : Int32) (p0 &&& (2147483647 : Int32)))
set_option maxRecDepth 65536 in
set_option maxHeartbeats 40000000 in
theorem j1_0 {p : Program} {l : Launch} {e : Env} {s : State} {m : MethodId} {args : Array Value} {below : List Frame} {meth : Method} {c : Code} {T0 : State} {locs : List Loc} {Z : State} {a0 : Array Value} {h0 : Heap} {n0 : Nat}
    (X0 : Stand p l e ({ frames := 1, cells := 0, slots := 0, locals := 13 } : Room) s m args below meth c T0 locs 0 0) (hx : p.tables.exec = Jvm.exec) (hZ : Z.Warmed39 s.vm) (hw : ∀ d ∈ tables_1, d.before a0 Z = true) (hby : c.code = method_2_code) (hml : c.maxLocals = 1) (hown : s.vm.findClass "com/example/ken2/ken2/StateLayoutUnpackPinLaw" = some m.cls) (e0 : T0.heap = h0) (N0 : Fr n0 locs) (Z0 : n0 ≤ h0.size) (p0 : Int32) :
    OwnFin X0 (some .int) (PQ (some (.int (f1_0 p0))) h0 n0) 0 0 (mkF m 0 #[.val (.int p0)] []) := by
  show OwnFin X0 (some .int) (PQ (some (.int (r2 (1 : Int32) (p0 &&& (2147483647 : Int32))))) h0 n0) 0 0 _
  refine ost (mkF m 1 #[.val (.int p0)] [(.int (1 : Int32))]) X0 (fun t k => XS.iconst X0.here hx rfl (hb hby d1_0) k) ?_
  refine ost (mkF m 2 #[.val (.int p0)] [(.int p0), (.int (1 : Int32))]) X0 (fun t k => XS.iloadN X0.here hx rfl (hb hby d1_1) rfl k) ?_
  refine ost (mkF m 4 #[.val (.int p0)] [(.int (2147483647 : Int32)), (.int p0), (.int (1 : Int32))]) X0 (fun t k => X0.ldcInt hx hown (mvT hZ (hw _ (wm 4 rfl))) (g := (mkF m 2 #[.val (.int p0)] [(.int p0), (.int (1 : Int32))])) rfl (hb hby d1_2) _ k) ?_
  refine ost (mkF m 5 #[.val (.int p0)] [(.int (p0 &&& (2147483647 : Int32))), (.int (1 : Int32))]) X0 (fun t k => XS.iand X0.here hx rfl (hb hby d1_4) rfl k) ?_
  obtain ⟨_, T1, L1, X1, ⟨rfl, f1, N1q⟩, st1⟩ := own_callS X0 hx hZ (y := Y0) (W := 0) (argsL := [(.int (1 : Int32)), (.int (p0 &&& (2147483647 : Int32)))]) (rest := []) (Qc := PQ _ _ n0) hown (hw _ (wm 5 rfl)) (hw _ (wm 6 rfl)) (hw _ (wm 7 rfl)) (hw _ (wm 8 rfl)) (by decide) (rm2 l Z a0 hw [] (1 : Int32) (p0 &&& (2147483647 : Int32)) h0 n0 Z0) (by decide) (by decide) (by decide) (by decide) e0 (g := (mkF m 5 #[.val (.int p0)] [(.int (p0 &&& (2147483647 : Int32))), (.int (1 : Int32))])) rfl (by rw [hml]; rfl) pd_0 rfl rfl (by show 2 * 0 + _ ≤ _; exact Nat.le_of_eq rfl) (hb hby d1_5)
  have N1 := Fr.app N0 N1q
  refine ost (mkF m 8 #[.val (.int p0)] [(.int (r2 (1 : Int32) (p0 &&& (2147483647 : Int32))))]) X1 (fun t k => st1 _ k) ?_
  exact OwnFin.retInt X1 (hb hby d1_8) (Nat.le_refl _) (Nat.le_refl _) ⟨rfl, f1, N1⟩
def r1 (p0 : Int32) : Int32 := f1_0 p0
set_option maxRecDepth 65536 in
set_option maxHeartbeats 40000000 in
theorem rm1 (l : Launch) (Z : State) (a0 : Array Value) (hw : ∀ d ∈ tables_1, d.before a0 Z = true) (ws : List Jvm.Cond) (p0 : Int32) (h0 : Heap) (n0 : Nat) (Z0 : n0 ≤ h0.size) :
    MetFree l Y1 (head1 (Jvm.Cond.code Y1 method_2_code 1 (some .int) :: ws) ({ frames := 1, cells := 0, slots := 0, locals := 13 } : Room)) (fun a U => a = #[(.int p0)] ∧ Z.Warmed39 U.vm ∧ U.heap = h0) (fun _ _ _ _ _ => True) (fun _ U o U' => ∃ v L, o = .returned v ∧ PQ (some (.int (r1 p0))) h0 n0 v U'.heap L ∧ FrameEnd U o U' L ({ frames := 1, cells := 0, slots := 0, locals := 13 } : Room).cells ({ frames := 1, cells := 0, slots := 0, locals := 13 } : Room).slots) :=
  own_met (ret := (some .int)) (plainFor_of_name pn_1) (fun m => ef_1 m p0) (fun p e s m below meth c s₁ X hx hby hml hown hnm hZ e0 => OwnFin.wide (j1_0 X hx hZ hw hby hml hown e0 (Fr.nil n0) Z0 p0) (Nat.zero_le _) (Nat.zero_le _))
/-! body 20: java/lang/Integer.numberOfLeadingZeros:(I)I -/
theorem d20_0 : decode jdk_33_method_47_code 0 = .ok (.iload_n 0, 1) := by decide +kernel
theorem d20_1 : decode jdk_33_method_47_code 1 = .ok (.ifCond .gt 14, 3) := by decide +kernel
theorem d20_4 : decode jdk_33_method_47_code 4 = .ok (.iload_n 0, 1) := by decide +kernel
theorem d20_5 : decode jdk_33_method_47_code 5 = .ok (.ifCond .ne 8, 3) := by decide +kernel
theorem d20_8 : decode jdk_33_method_47_code 8 = .ok (.bipush 32, 2) := by decide +kernel
theorem d20_10 : decode jdk_33_method_47_code 10 = .ok (.goto 4, 3) := by decide +kernel
theorem d20_13 : decode jdk_33_method_47_code 13 = .ok (.iconst 0, 1) := by decide +kernel
theorem d20_14 : decode jdk_33_method_47_code 14 = .ok (.ireturn, 1) := by decide +kernel
theorem d20_15 : decode jdk_33_method_47_code 15 = .ok (.bipush 31, 2) := by decide +kernel
theorem d20_17 : decode jdk_33_method_47_code 17 = .ok (.istore_n 1, 1) := by decide +kernel
theorem d20_18 : decode jdk_33_method_47_code 18 = .ok (.iload_n 0, 1) := by decide +kernel
theorem d20_19 : decode jdk_33_method_47_code 19 = .ok (.ldc_w 264, 3) := by decide +kernel
theorem d20_22 : decode jdk_33_method_47_code 22 = .ok (.if_icmp .lt 11, 3) := by decide +kernel
theorem d20_25 : decode jdk_33_method_47_code 25 = .ok (.iinc 1 (-16), 3) := by decide +kernel
theorem d20_28 : decode jdk_33_method_47_code 28 = .ok (.iload_n 0, 1) := by decide +kernel
theorem d20_29 : decode jdk_33_method_47_code 29 = .ok (.bipush 16, 2) := by decide +kernel
theorem d20_31 : decode jdk_33_method_47_code 31 = .ok (.iushr, 1) := by decide +kernel
theorem d20_32 : decode jdk_33_method_47_code 32 = .ok (.istore_n 0, 1) := by decide +kernel
theorem d20_33 : decode jdk_33_method_47_code 33 = .ok (.iload_n 0, 1) := by decide +kernel
theorem d20_34 : decode jdk_33_method_47_code 34 = .ok (.sipush 256, 3) := by decide +kernel
theorem d20_37 : decode jdk_33_method_47_code 37 = .ok (.if_icmp .lt 11, 3) := by decide +kernel
theorem d20_40 : decode jdk_33_method_47_code 40 = .ok (.iinc 1 (-8), 3) := by decide +kernel
theorem d20_43 : decode jdk_33_method_47_code 43 = .ok (.iload_n 0, 1) := by decide +kernel
theorem d20_44 : decode jdk_33_method_47_code 44 = .ok (.bipush 8, 2) := by decide +kernel
theorem d20_46 : decode jdk_33_method_47_code 46 = .ok (.iushr, 1) := by decide +kernel
theorem d20_47 : decode jdk_33_method_47_code 47 = .ok (.istore_n 0, 1) := by decide +kernel
theorem d20_48 : decode jdk_33_method_47_code 48 = .ok (.iload_n 0, 1) := by decide +kernel
theorem d20_49 : decode jdk_33_method_47_code 49 = .ok (.bipush 16, 2) := by decide +kernel
theorem d20_51 : decode jdk_33_method_47_code 51 = .ok (.if_icmp .lt 10, 3) := by decide +kernel
theorem d20_54 : decode jdk_33_method_47_code 54 = .ok (.iinc 1 (-4), 3) := by decide +kernel
theorem d20_57 : decode jdk_33_method_47_code 57 = .ok (.iload_n 0, 1) := by decide +kernel
theorem d20_58 : decode jdk_33_method_47_code 58 = .ok (.iconst 4, 1) := by decide +kernel
theorem d20_59 : decode jdk_33_method_47_code 59 = .ok (.iushr, 1) := by decide +kernel
theorem d20_60 : decode jdk_33_method_47_code 60 = .ok (.istore_n 0, 1) := by decide +kernel
theorem d20_61 : decode jdk_33_method_47_code 61 = .ok (.iload_n 0, 1) := by decide +kernel
theorem d20_62 : decode jdk_33_method_47_code 62 = .ok (.iconst 4, 1) := by decide +kernel
theorem d20_63 : decode jdk_33_method_47_code 63 = .ok (.if_icmp .lt 10, 3) := by decide +kernel
theorem d20_66 : decode jdk_33_method_47_code 66 = .ok (.iinc 1 (-2), 3) := by decide +kernel
theorem d20_69 : decode jdk_33_method_47_code 69 = .ok (.iload_n 0, 1) := by decide +kernel
theorem d20_70 : decode jdk_33_method_47_code 70 = .ok (.iconst 2, 1) := by decide +kernel
theorem d20_71 : decode jdk_33_method_47_code 71 = .ok (.iushr, 1) := by decide +kernel
theorem d20_72 : decode jdk_33_method_47_code 72 = .ok (.istore_n 0, 1) := by decide +kernel
theorem d20_73 : decode jdk_33_method_47_code 73 = .ok (.iload_n 1, 1) := by decide +kernel
theorem d20_74 : decode jdk_33_method_47_code 74 = .ok (.iload_n 0, 1) := by decide +kernel
theorem d20_75 : decode jdk_33_method_47_code 75 = .ok (.iconst 1, 1) := by decide +kernel
theorem d20_76 : decode jdk_33_method_47_code 76 = .ok (.iushr, 1) := by decide +kernel
theorem d20_77 : decode jdk_33_method_47_code 77 = .ok (.isub, 1) := by decide +kernel
theorem d20_78 : decode jdk_33_method_47_code 78 = .ok (.ireturn, 1) := by decide +kernel
theorem pn_20 : plainName "java/lang/Integer" = true := by first | (simp [plainName, overriddenIn]; done) | decide +kernel
theorem ef_20 (m : MethodId) (p0 : Int32) : entryFrame m #[(.int p0)] 2 = mkF m 0 #[.val (.int p0), .unset] [] := by first | (simp [entryFrame, mkF, argsToLocals, Value.category]; done) | rfl
def v20_32 (p0 : Int32) : Int32 := (XT.ushr p0 (16 : Int32))
def v20_40 (x33_1 : Int32) : Int32 := (x33_1 + (-8 : Int32))
def v20_47 (x33_0 : Int32) : Int32 := (XT.ushr x33_0 (8 : Int32))
def v20_54 (x48_1 : Int32) : Int32 := (x48_1 + (-4 : Int32))
def v20_60 (x48_0 : Int32) : Int32 := (XT.ushr x48_0 (4 : Int32))
def v20_66 (x61_1 : Int32) : Int32 := (x61_1 + (-2 : Int32))
def v20_72 (x61_0 : Int32) : Int32 := (XT.ushr x61_0 (2 : Int32))
def f20_61 (x61_0 : Int32) (x61_1 : Int32) : Int32 := (if x61_0 < (4 : Int32) then (x61_1 - (XT.ushr x61_0 (1 : Int32))) else ((v20_66 x61_1) - (XT.ushr (v20_72 x61_0) (1 : Int32))))
set_option maxRecDepth 65536 in
set_option maxHeartbeats 40000000 in
theorem j20_61 {p : Program} {l : Launch} {e : Env} {s : State} {m : MethodId} {args : Array Value} {below : List Frame} {meth : Method} {c : Code} {T0 : State} {locs : List Loc} {Z : State} {a0 : Array Value} {h0 : Heap} {n0 : Nat}
    (X0 : Stand p l e ({ frames := 0, cells := 0, slots := 0, locals := 0 } : Room) s m args below meth c T0 locs 0 0) (hx : p.tables.exec = Jvm.exec) (hZ : Z.Warmed39 s.vm) (hw : ∀ d ∈ tables_1, d.before a0 Z = true) (hby : c.code = jdk_33_method_47_code) (hml : c.maxLocals = 2) (hown : s.vm.findClass "java/lang/Integer" = some m.cls) (e0 : T0.heap = h0) (N0 : Fr n0 locs) (Z0 : n0 ≤ h0.size) (x61_0 : Int32) (x61_1 : Int32) :
    OwnFin X0 (some .int) (PQ (some (.int (f20_61 x61_0 x61_1))) h0 n0) 0 0 (mkF m 61 #[.val (.int x61_0), .val (.int x61_1)] []) := by
  show OwnFin X0 (some .int) (PQ (some (.int (if x61_0 < (4 : Int32) then (x61_1 - (XT.ushr x61_0 (1 : Int32))) else ((v20_66 x61_1) - (XT.ushr (v20_72 x61_0) (1 : Int32)))))) h0 n0) 0 0 _
  refine ost (mkF m 62 #[.val (.int x61_0), .val (.int x61_1)] [(.int x61_0)]) X0 (fun t k => XS.iloadN X0.here hx rfl (hb hby d20_61) rfl k) ?_
  refine ost (mkF m 63 #[.val (.int x61_0), .val (.int x61_1)] [(.int (4 : Int32)), (.int x61_0)]) X0 (fun t k => XS.iconst X0.here hx rfl (hb hby d20_62) k) ?_
  by_cases hc6 : x61_0 < (4 : Int32)
  · rw [if_pos hc6]
    refine ost (mkF m 73 #[.val (.int x61_0), .val (.int x61_1)] []) X0 (fun t k => XS.icmpYes X0.here hx rfl (pc0 := 63) (pc' := 73) rfl (hb hby d20_63) rfl (tlt hc6).1 (by decide) (by decide) k) ?_
    refine ost (mkF m 74 #[.val (.int x61_0), .val (.int x61_1)] [(.int x61_1)]) X0 (fun t k => XS.iloadN X0.here hx rfl (hb hby d20_73) rfl k) ?_
    refine ost (mkF m 75 #[.val (.int x61_0), .val (.int x61_1)] [(.int x61_0), (.int x61_1)]) X0 (fun t k => XS.iloadN X0.here hx rfl (hb hby d20_74) rfl k) ?_
    refine ost (mkF m 76 #[.val (.int x61_0), .val (.int x61_1)] [(.int (1 : Int32)), (.int x61_0), (.int x61_1)]) X0 (fun t k => XS.iconst X0.here hx rfl (hb hby d20_75) k) ?_
    refine ost (mkF m 77 #[.val (.int x61_0), .val (.int x61_1)] [(.int (XT.ushr x61_0 (1 : Int32))), (.int x61_1)]) X0 (fun t k => XT.iushr X0.here hx rfl (hb hby d20_76) rfl k) ?_
    refine ost (mkF m 78 #[.val (.int x61_0), .val (.int x61_1)] [(.int (x61_1 - (XT.ushr x61_0 (1 : Int32))))]) X0 (fun t k => XS.isub X0.here hx rfl (hb hby d20_77) rfl k) ?_
    exact OwnFin.retInt X0 (hb hby d20_78) (Nat.le_refl _) (Nat.le_refl _) ⟨rfl, e0, N0⟩
  · rw [if_neg hc6]
    refine ost (mkF m 66 #[.val (.int x61_0), .val (.int x61_1)] []) X0 (fun t k => XS.icmpNo X0.here hx rfl (hb hby d20_63) rfl (flt hc6).1 k) ?_
    refine ost (mkF m 69 #[.val (.int x61_0), .val (.int (v20_66 x61_1))] []) X0 (fun t k => XS.iinc X0.here hx rfl (hb hby d20_66) rfl (l' := #[.val (.int x61_0), .val (.int (v20_66 x61_1))]) rfl k) ?_
    refine ost (mkF m 70 #[.val (.int x61_0), .val (.int (v20_66 x61_1))] [(.int x61_0)]) X0 (fun t k => XS.iloadN X0.here hx rfl (hb hby d20_69) rfl k) ?_
    refine ost (mkF m 71 #[.val (.int x61_0), .val (.int (v20_66 x61_1))] [(.int (2 : Int32)), (.int x61_0)]) X0 (fun t k => XS.iconst X0.here hx rfl (hb hby d20_70) k) ?_
    refine ost (mkF m 72 #[.val (.int x61_0), .val (.int (v20_66 x61_1))] [(.int (XT.ushr x61_0 (2 : Int32)))]) X0 (fun t k => XT.iushr X0.here hx rfl (hb hby d20_71) rfl k) ?_
    refine ost (mkF m 73 #[.val (.int (v20_72 x61_0)), .val (.int (v20_66 x61_1))] []) X0 (fun t k => XS.istoreN X0.here hx rfl (hb hby d20_72) rfl (l' := #[.val (.int (v20_72 x61_0)), .val (.int (v20_66 x61_1))]) rfl k) ?_
    refine ost (mkF m 74 #[.val (.int (v20_72 x61_0)), .val (.int (v20_66 x61_1))] [(.int (v20_66 x61_1))]) X0 (fun t k => XS.iloadN X0.here hx rfl (hb hby d20_73) rfl k) ?_
    refine ost (mkF m 75 #[.val (.int (v20_72 x61_0)), .val (.int (v20_66 x61_1))] [(.int (v20_72 x61_0)), (.int (v20_66 x61_1))]) X0 (fun t k => XS.iloadN X0.here hx rfl (hb hby d20_74) rfl k) ?_
    refine ost (mkF m 76 #[.val (.int (v20_72 x61_0)), .val (.int (v20_66 x61_1))] [(.int (1 : Int32)), (.int (v20_72 x61_0)), (.int (v20_66 x61_1))]) X0 (fun t k => XS.iconst X0.here hx rfl (hb hby d20_75) k) ?_
    refine ost (mkF m 77 #[.val (.int (v20_72 x61_0)), .val (.int (v20_66 x61_1))] [(.int (XT.ushr (v20_72 x61_0) (1 : Int32))), (.int (v20_66 x61_1))]) X0 (fun t k => XT.iushr X0.here hx rfl (hb hby d20_76) rfl k) ?_
    refine ost (mkF m 78 #[.val (.int (v20_72 x61_0)), .val (.int (v20_66 x61_1))] [(.int ((v20_66 x61_1) - (XT.ushr (v20_72 x61_0) (1 : Int32))))]) X0 (fun t k => XS.isub X0.here hx rfl (hb hby d20_77) rfl k) ?_
    exact OwnFin.retInt X0 (hb hby d20_78) (Nat.le_refl _) (Nat.le_refl _) ⟨rfl, e0, N0⟩
def f20_48 (x48_0 : Int32) (x48_1 : Int32) : Int32 := (if x48_0 < (16 : Int32) then (f20_61 x48_0 x48_1) else (f20_61 (v20_60 x48_0) (v20_54 x48_1)))
set_option maxRecDepth 65536 in
set_option maxHeartbeats 40000000 in
theorem j20_48 {p : Program} {l : Launch} {e : Env} {s : State} {m : MethodId} {args : Array Value} {below : List Frame} {meth : Method} {c : Code} {T0 : State} {locs : List Loc} {Z : State} {a0 : Array Value} {h0 : Heap} {n0 : Nat}
    (X0 : Stand p l e ({ frames := 0, cells := 0, slots := 0, locals := 0 } : Room) s m args below meth c T0 locs 0 0) (hx : p.tables.exec = Jvm.exec) (hZ : Z.Warmed39 s.vm) (hw : ∀ d ∈ tables_1, d.before a0 Z = true) (hby : c.code = jdk_33_method_47_code) (hml : c.maxLocals = 2) (hown : s.vm.findClass "java/lang/Integer" = some m.cls) (e0 : T0.heap = h0) (N0 : Fr n0 locs) (Z0 : n0 ≤ h0.size) (x48_0 : Int32) (x48_1 : Int32) :
    OwnFin X0 (some .int) (PQ (some (.int (f20_48 x48_0 x48_1))) h0 n0) 0 0 (mkF m 48 #[.val (.int x48_0), .val (.int x48_1)] []) := by
  show OwnFin X0 (some .int) (PQ (some (.int (if x48_0 < (16 : Int32) then (f20_61 x48_0 x48_1) else (f20_61 (v20_60 x48_0) (v20_54 x48_1))))) h0 n0) 0 0 _
  refine ost (mkF m 49 #[.val (.int x48_0), .val (.int x48_1)] [(.int x48_0)]) X0 (fun t k => XS.iloadN X0.here hx rfl (hb hby d20_48) rfl k) ?_
  refine ost (mkF m 51 #[.val (.int x48_0), .val (.int x48_1)] [(.int (16 : Int32)), (.int x48_0)]) X0 (fun t k => XS.bipush X0.here hx rfl (hb hby d20_49) k) ?_
  by_cases hc5 : x48_0 < (16 : Int32)
  · rw [if_pos hc5]
    refine ost (mkF m 61 #[.val (.int x48_0), .val (.int x48_1)] []) X0 (fun t k => XS.icmpYes X0.here hx rfl (pc0 := 51) (pc' := 61) rfl (hb hby d20_51) rfl (tlt hc5).1 (by decide) (by decide) k) ?_
    exact j20_61 X0 hx hZ hw hby hml hown e0 N0 Z0 x48_0 x48_1
  · rw [if_neg hc5]
    refine ost (mkF m 54 #[.val (.int x48_0), .val (.int x48_1)] []) X0 (fun t k => XS.icmpNo X0.here hx rfl (hb hby d20_51) rfl (flt hc5).1 k) ?_
    refine ost (mkF m 57 #[.val (.int x48_0), .val (.int (v20_54 x48_1))] []) X0 (fun t k => XS.iinc X0.here hx rfl (hb hby d20_54) rfl (l' := #[.val (.int x48_0), .val (.int (v20_54 x48_1))]) rfl k) ?_
    refine ost (mkF m 58 #[.val (.int x48_0), .val (.int (v20_54 x48_1))] [(.int x48_0)]) X0 (fun t k => XS.iloadN X0.here hx rfl (hb hby d20_57) rfl k) ?_
    refine ost (mkF m 59 #[.val (.int x48_0), .val (.int (v20_54 x48_1))] [(.int (4 : Int32)), (.int x48_0)]) X0 (fun t k => XS.iconst X0.here hx rfl (hb hby d20_58) k) ?_
    refine ost (mkF m 60 #[.val (.int x48_0), .val (.int (v20_54 x48_1))] [(.int (XT.ushr x48_0 (4 : Int32)))]) X0 (fun t k => XT.iushr X0.here hx rfl (hb hby d20_59) rfl k) ?_
    refine ost (mkF m 61 #[.val (.int (v20_60 x48_0)), .val (.int (v20_54 x48_1))] []) X0 (fun t k => XS.istoreN X0.here hx rfl (hb hby d20_60) rfl (l' := #[.val (.int (v20_60 x48_0)), .val (.int (v20_54 x48_1))]) rfl k) ?_
    exact j20_61 X0 hx hZ hw hby hml hown e0 N0 Z0 (v20_60 x48_0) (v20_54 x48_1)
def f20_33 (x33_0 : Int32) (x33_1 : Int32) : Int32 := (if x33_0 < (256 : Int32) then (f20_48 x33_0 x33_1) else (f20_48 (v20_47 x33_0) (v20_40 x33_1)))
set_option maxRecDepth 65536 in
set_option maxHeartbeats 40000000 in
theorem j20_33 {p : Program} {l : Launch} {e : Env} {s : State} {m : MethodId} {args : Array Value} {below : List Frame} {meth : Method} {c : Code} {T0 : State} {locs : List Loc} {Z : State} {a0 : Array Value} {h0 : Heap} {n0 : Nat}
    (X0 : Stand p l e ({ frames := 0, cells := 0, slots := 0, locals := 0 } : Room) s m args below meth c T0 locs 0 0) (hx : p.tables.exec = Jvm.exec) (hZ : Z.Warmed39 s.vm) (hw : ∀ d ∈ tables_1, d.before a0 Z = true) (hby : c.code = jdk_33_method_47_code) (hml : c.maxLocals = 2) (hown : s.vm.findClass "java/lang/Integer" = some m.cls) (e0 : T0.heap = h0) (N0 : Fr n0 locs) (Z0 : n0 ≤ h0.size) (x33_0 : Int32) (x33_1 : Int32) :
    OwnFin X0 (some .int) (PQ (some (.int (f20_33 x33_0 x33_1))) h0 n0) 0 0 (mkF m 33 #[.val (.int x33_0), .val (.int x33_1)] []) := by
  show OwnFin X0 (some .int) (PQ (some (.int (if x33_0 < (256 : Int32) then (f20_48 x33_0 x33_1) else (f20_48 (v20_47 x33_0) (v20_40 x33_1))))) h0 n0) 0 0 _
  refine ost (mkF m 34 #[.val (.int x33_0), .val (.int x33_1)] [(.int x33_0)]) X0 (fun t k => XS.iloadN X0.here hx rfl (hb hby d20_33) rfl k) ?_
  refine ost (mkF m 37 #[.val (.int x33_0), .val (.int x33_1)] [(.int (256 : Int32)), (.int x33_0)]) X0 (fun t k => XS.sipush X0.here hx rfl (hb hby d20_34) k) ?_
  by_cases hc4 : x33_0 < (256 : Int32)
  · rw [if_pos hc4]
    refine ost (mkF m 48 #[.val (.int x33_0), .val (.int x33_1)] []) X0 (fun t k => XS.icmpYes X0.here hx rfl (pc0 := 37) (pc' := 48) rfl (hb hby d20_37) rfl (tlt hc4).1 (by decide) (by decide) k) ?_
    exact j20_48 X0 hx hZ hw hby hml hown e0 N0 Z0 x33_0 x33_1
  · rw [if_neg hc4]
    refine ost (mkF m 40 #[.val (.int x33_0), .val (.int x33_1)] []) X0 (fun t k => XS.icmpNo X0.here hx rfl (hb hby d20_37) rfl (flt hc4).1 k) ?_
    refine ost (mkF m 43 #[.val (.int x33_0), .val (.int (v20_40 x33_1))] []) X0 (fun t k => XS.iinc X0.here hx rfl (hb hby d20_40) rfl (l' := #[.val (.int x33_0), .val (.int (v20_40 x33_1))]) rfl k) ?_
    refine ost (mkF m 44 #[.val (.int x33_0), .val (.int (v20_40 x33_1))] [(.int x33_0)]) X0 (fun t k => XS.iloadN X0.here hx rfl (hb hby d20_43) rfl k) ?_
    refine ost (mkF m 46 #[.val (.int x33_0), .val (.int (v20_40 x33_1))] [(.int (8 : Int32)), (.int x33_0)]) X0 (fun t k => XS.bipush X0.here hx rfl (hb hby d20_44) k) ?_
    refine ost (mkF m 47 #[.val (.int x33_0), .val (.int (v20_40 x33_1))] [(.int (XT.ushr x33_0 (8 : Int32)))]) X0 (fun t k => XT.iushr X0.here hx rfl (hb hby d20_46) rfl k) ?_
    refine ost (mkF m 48 #[.val (.int (v20_47 x33_0)), .val (.int (v20_40 x33_1))] []) X0 (fun t k => XS.istoreN X0.here hx rfl (hb hby d20_47) rfl (l' := #[.val (.int (v20_47 x33_0)), .val (.int (v20_40 x33_1))]) rfl k) ?_
    exact j20_48 X0 hx hZ hw hby hml hown e0 N0 Z0 (v20_47 x33_0) (v20_40 x33_1)
def f20_0 (p0 : Int32) : Int32 := (if (0 : Int32) < p0 then (if p0 < (65536 : Int32) then (f20_33 p0 (31 : Int32)) else (f20_33 (v20_32 p0) (15 : Int32))) else (if p0 = (0 : Int32) then (32 : Int32) else (0 : Int32)))
set_option maxRecDepth 65536 in
set_option maxHeartbeats 40000000 in
theorem j20_0 {p : Program} {l : Launch} {e : Env} {s : State} {m : MethodId} {args : Array Value} {below : List Frame} {meth : Method} {c : Code} {T0 : State} {locs : List Loc} {Z : State} {a0 : Array Value} {h0 : Heap} {n0 : Nat}
    (X0 : Stand p l e ({ frames := 0, cells := 0, slots := 0, locals := 0 } : Room) s m args below meth c T0 locs 0 0) (hx : p.tables.exec = Jvm.exec) (hZ : Z.Warmed39 s.vm) (hw : ∀ d ∈ tables_1, d.before a0 Z = true) (hby : c.code = jdk_33_method_47_code) (hml : c.maxLocals = 2) (hown : s.vm.findClass "java/lang/Integer" = some m.cls) (e0 : T0.heap = h0) (N0 : Fr n0 locs) (Z0 : n0 ≤ h0.size) (p0 : Int32) :
    OwnFin X0 (some .int) (PQ (some (.int (f20_0 p0))) h0 n0) 0 0 (mkF m 0 #[.val (.int p0), .unset] []) := by
  show OwnFin X0 (some .int) (PQ (some (.int (if (0 : Int32) < p0 then (if p0 < (65536 : Int32) then (f20_33 p0 (31 : Int32)) else (f20_33 (v20_32 p0) (15 : Int32))) else (if p0 = (0 : Int32) then (32 : Int32) else (0 : Int32))))) h0 n0) 0 0 _
  refine ost (mkF m 1 #[.val (.int p0), .unset] [(.int p0)]) X0 (fun t k => XS.iloadN X0.here hx rfl (hb hby d20_0) rfl k) ?_
  by_cases hc1 : (0 : Int32) < p0
  · rw [if_pos hc1]
    refine ost (mkF m 15 #[.val (.int p0), .unset] []) X0 (fun t k => XS.ifYes X0.here hx rfl (pc0 := 1) (pc' := 15) rfl (hb hby d20_1) rfl ((if0 _ _).trans (tlt hc1).2.2.1) (by decide) (by decide) k) ?_
    refine ost (mkF m 17 #[.val (.int p0), .unset] [(.int (31 : Int32))]) X0 (fun t k => XS.bipush X0.here hx rfl (hb hby d20_15) k) ?_
    refine ost (mkF m 18 #[.val (.int p0), .val (.int (31 : Int32))] []) X0 (fun t k => XS.istoreN X0.here hx rfl (hb hby d20_17) rfl (l' := #[.val (.int p0), .val (.int (31 : Int32))]) rfl k) ?_
    refine ost (mkF m 19 #[.val (.int p0), .val (.int (31 : Int32))] [(.int p0)]) X0 (fun t k => XS.iloadN X0.here hx rfl (hb hby d20_18) rfl k) ?_
    refine ost (mkF m 22 #[.val (.int p0), .val (.int (31 : Int32))] [(.int (65536 : Int32)), (.int p0)]) X0 (fun t k => X0.ldcwInt hx hown (mvT hZ (hw _ (wm 141 rfl))) (g := (mkF m 19 #[.val (.int p0), .val (.int (31 : Int32))] [(.int p0)])) rfl (hb hby d20_19) _ k) ?_
    by_cases hc2 : p0 < (65536 : Int32)
    · rw [if_pos hc2]
      refine ost (mkF m 33 #[.val (.int p0), .val (.int (31 : Int32))] []) X0 (fun t k => XS.icmpYes X0.here hx rfl (pc0 := 22) (pc' := 33) rfl (hb hby d20_22) rfl (tlt hc2).1 (by decide) (by decide) k) ?_
      exact j20_33 X0 hx hZ hw hby hml hown e0 N0 Z0 p0 (31 : Int32)
    · rw [if_neg hc2]
      refine ost (mkF m 25 #[.val (.int p0), .val (.int (31 : Int32))] []) X0 (fun t k => XS.icmpNo X0.here hx rfl (hb hby d20_22) rfl (flt hc2).1 k) ?_
      refine ost (mkF m 28 #[.val (.int p0), .val (.int (15 : Int32))] []) X0 (fun t k => XS.iinc X0.here hx rfl (hb hby d20_25) rfl (l' := #[.val (.int p0), .val (.int (15 : Int32))]) rfl k) ?_
      refine ost (mkF m 29 #[.val (.int p0), .val (.int (15 : Int32))] [(.int p0)]) X0 (fun t k => XS.iloadN X0.here hx rfl (hb hby d20_28) rfl k) ?_
      refine ost (mkF m 31 #[.val (.int p0), .val (.int (15 : Int32))] [(.int (16 : Int32)), (.int p0)]) X0 (fun t k => XS.bipush X0.here hx rfl (hb hby d20_29) k) ?_
      refine ost (mkF m 32 #[.val (.int p0), .val (.int (15 : Int32))] [(.int (XT.ushr p0 (16 : Int32)))]) X0 (fun t k => XT.iushr X0.here hx rfl (hb hby d20_31) rfl k) ?_
      refine ost (mkF m 33 #[.val (.int (v20_32 p0)), .val (.int (15 : Int32))] []) X0 (fun t k => XS.istoreN X0.here hx rfl (hb hby d20_32) rfl (l' := #[.val (.int (v20_32 p0)), .val (.int (15 : Int32))]) rfl k) ?_
      exact j20_33 X0 hx hZ hw hby hml hown e0 N0 Z0 (v20_32 p0) (15 : Int32)
  · rw [if_neg hc1]
    refine ost (mkF m 4 #[.val (.int p0), .unset] []) X0 (fun t k => XS.ifNo X0.here hx rfl (hb hby d20_1) rfl ((if0 _ _).trans (flt hc1).2.2.1) k) ?_
    refine ost (mkF m 5 #[.val (.int p0), .unset] [(.int p0)]) X0 (fun t k => XS.iloadN X0.here hx rfl (hb hby d20_4) rfl k) ?_
    by_cases hc3 : p0 = (0 : Int32)
    · rw [if_pos hc3]
      refine ost (mkF m 8 #[.val (.int p0), .unset] []) X0 (fun t k => XS.ifNo X0.here hx rfl (hb hby d20_5) rfl ((if0 _ _).trans (teq hc3).2) k) ?_
      refine ost (mkF m 10 #[.val (.int p0), .unset] [(.int (32 : Int32))]) X0 (fun t k => XS.bipush X0.here hx rfl (hb hby d20_8) k) ?_
      refine ost (mkF m 14 #[.val (.int p0), .unset] [(.int (32 : Int32))]) X0 (fun t k => XS.goto X0.here hx rfl (pc0 := 10) (pc' := 14) rfl (hb hby d20_10) (by decide) (by decide) k) ?_
      exact OwnFin.retInt X0 (hb hby d20_14) (Nat.le_refl _) (Nat.le_refl _) ⟨rfl, e0, N0⟩
    · rw [if_neg hc3]
      refine ost (mkF m 13 #[.val (.int p0), .unset] []) X0 (fun t k => XS.ifYes X0.here hx rfl (pc0 := 5) (pc' := 13) rfl (hb hby d20_5) rfl ((if0 _ _).trans (feq hc3).2) (by decide) (by decide) k) ?_
      refine ost (mkF m 14 #[.val (.int p0), .unset] [(.int (0 : Int32))]) X0 (fun t k => XS.iconst X0.here hx rfl (hb hby d20_13) k) ?_
      exact OwnFin.retInt X0 (hb hby d20_14) (Nat.le_refl _) (Nat.le_refl _) ⟨rfl, e0, N0⟩
def r20 (p0 : Int32) : Int32 := f20_0 p0
set_option maxRecDepth 65536 in
set_option maxHeartbeats 40000000 in
theorem rm20 (l : Launch) (Z : State) (a0 : Array Value) (hw : ∀ d ∈ tables_1, d.before a0 Z = true) (ws : List Jvm.Cond) (p0 : Int32) (h0 : Heap) (n0 : Nat) (Z0 : n0 ≤ h0.size) :
    MetFree l Y19 (head1 (Jvm.Cond.code Y19 jdk_33_method_47_code 2 (some .int) :: ws) ({ frames := 0, cells := 0, slots := 0, locals := 0 } : Room)) (fun a U => a = #[(.int p0)] ∧ Z.Warmed39 U.vm ∧ U.heap = h0) (fun _ _ _ _ _ => True) (fun _ U o U' => ∃ v L, o = .returned v ∧ PQ (some (.int (r20 p0))) h0 n0 v U'.heap L ∧ FrameEnd U o U' L ({ frames := 0, cells := 0, slots := 0, locals := 0 } : Room).cells ({ frames := 0, cells := 0, slots := 0, locals := 0 } : Room).slots) :=
  own_met (ret := (some .int)) (plainFor_of_name pn_20) (fun m => ef_20 m p0) (fun p e s m below meth c s₁ X hx hby hml hown hnm hZ e0 => OwnFin.wide (j20_0 X hx hZ hw hby hml hown e0 (Fr.nil n0) Z0 p0) (Nat.zero_le _) (Nat.zero_le _))
/-! body 21: com/example/ken2/ken2/StateLayoutUnpackPinLaw.val:(II)I -/
theorem d21_0 : decode method_3_code 0 = .ok (.iload_n 0, 1) := by decide +kernel
theorem d21_1 : decode method_3_code 1 = .ok (.ldc 7, 2) := by decide +kernel
theorem d21_3 : decode method_3_code 3 = .ok (.iand, 1) := by decide +kernel
theorem d21_4 : decode method_3_code 4 = .ok (.iload_n 1, 1) := by decide +kernel
theorem d21_5 : decode method_3_code 5 = .ok (.irem, 1) := by decide +kernel
theorem d21_6 : decode method_3_code 6 = .ok (.ireturn, 1) := by decide +kernel
theorem pn_21 : plainName "com/example/ken2/ken2/StateLayoutUnpackPinLaw" = true := by first | (simp [plainName, overriddenIn]; done) | decide +kernel
theorem ef_21 (m : MethodId) (p0 : Int32) (p1 : Int32) : entryFrame m #[(.int p0), (.int p1)] 2 = mkF m 0 #[.val (.int p0), .val (.int p1)] [] := by first | (simp [entryFrame, mkF, argsToLocals, Value.category]; done) | rfl
def f21_0 (p0 : Int32) (p1 : Int32) : Int32 := ((p0 &&& (2147483647 : Int32)) % p1)
set_option maxRecDepth 65536 in
set_option maxHeartbeats 40000000 in
theorem j21_0 {p : Program} {l : Launch} {e : Env} {s : State} {m : MethodId} {args : Array Value} {below : List Frame} {meth : Method} {c : Code} {T0 : State} {locs : List Loc} {Z : State} {a0 : Array Value} {h0 : Heap} {n0 : Nat}
    (X0 : Stand p l e ({ frames := 0, cells := 0, slots := 0, locals := 0 } : Room) s m args below meth c T0 locs 0 0) (hx : p.tables.exec = Jvm.exec) (hZ : Z.Warmed39 s.vm) (hw : ∀ d ∈ tables_1, d.before a0 Z = true) (hby : c.code = method_3_code) (hml : c.maxLocals = 2) (hown : s.vm.findClass "com/example/ken2/ken2/StateLayoutUnpackPinLaw" = some m.cls) (e0 : T0.heap = h0) (N0 : Fr n0 locs) (Z0 : n0 ≤ h0.size) (p0 : Int32) (p1 : Int32) (hnz : p1 ≠ 0) :
    OwnFin X0 (some .int) (PQ (some (.int (f21_0 p0 p1))) h0 n0) 0 0 (mkF m 0 #[.val (.int p0), .val (.int p1)] []) := by
  show OwnFin X0 (some .int) (PQ (some (.int ((p0 &&& (2147483647 : Int32)) % p1))) h0 n0) 0 0 _
  refine ost (mkF m 1 #[.val (.int p0), .val (.int p1)] [(.int p0)]) X0 (fun t k => XS.iloadN X0.here hx rfl (hb hby d21_0) rfl k) ?_
  refine ost (mkF m 3 #[.val (.int p0), .val (.int p1)] [(.int (2147483647 : Int32)), (.int p0)]) X0 (fun t k => X0.ldcInt hx hown (mvT hZ (hw _ (wm 4 rfl))) (g := (mkF m 1 #[.val (.int p0), .val (.int p1)] [(.int p0)])) rfl (hb hby d21_1) _ k) ?_
  refine ost (mkF m 4 #[.val (.int p0), .val (.int p1)] [(.int (p0 &&& (2147483647 : Int32)))]) X0 (fun t k => XS.iand X0.here hx rfl (hb hby d21_3) rfl k) ?_
  refine ost (mkF m 5 #[.val (.int p0), .val (.int p1)] [(.int p1), (.int (p0 &&& (2147483647 : Int32)))]) X0 (fun t k => XS.iloadN X0.here hx rfl (hb hby d21_4) rfl k) ?_
  refine ost (mkF m 6 #[.val (.int p0), .val (.int p1)] [(.int ((p0 &&& (2147483647 : Int32)) % p1))]) X0 (fun t k => iremM (g := (mkF m 5 #[.val (.int p0), .val (.int p1)] [(.int p1), (.int (p0 &&& (2147483647 : Int32)))])) X0 hx rfl (hb hby d21_5) rfl hnz k) ?_
  exact OwnFin.retInt X0 (hb hby d21_6) (Nat.le_refl _) (Nat.le_refl _) ⟨rfl, e0, N0⟩
def r21 (p0 : Int32) (p1 : Int32) : Int32 := f21_0 p0 p1
set_option maxRecDepth 65536 in
set_option maxHeartbeats 40000000 in
theorem rm21 (l : Launch) (Z : State) (a0 : Array Value) (hw : ∀ d ∈ tables_1, d.before a0 Z = true) (ws : List Jvm.Cond) (p0 : Int32) (p1 : Int32) (h0 : Heap) (n0 : Nat) (Z0 : n0 ≤ h0.size) (hnz : p1 ≠ 0) :
    MetFree l Y21 (head1 (Jvm.Cond.code Y21 method_3_code 2 (some .int) :: ws) ({ frames := 0, cells := 0, slots := 0, locals := 0 } : Room)) (fun a U => a = #[(.int p0), (.int p1)] ∧ Z.Warmed39 U.vm ∧ U.heap = h0) (fun _ _ _ _ _ => True) (fun _ U o U' => ∃ v L, o = .returned v ∧ PQ (some (.int (r21 p0 p1))) h0 n0 v U'.heap L ∧ FrameEnd U o U' L ({ frames := 0, cells := 0, slots := 0, locals := 0 } : Room).cells ({ frames := 0, cells := 0, slots := 0, locals := 0 } : Room).slots) :=
  own_met (ret := (some .int)) (plainFor_of_name pn_21) (fun m => ef_21 m p0 p1) (fun p e s m below meth c s₁ X hx hby hml hown hnm hZ e0 => OwnFin.wide (j21_0 X hx hZ hw hby hml hown e0 (Fr.nil n0) Z0 p0 p1 hnz) (Nat.zero_le _) (Nat.zero_le _))
/-! body 25: com/example/ken2/ken2/StateLayoutUnpackPinLaw.bounded:(II)Z -/
theorem d25_0 : decode method_4_code 0 = .ok (.iload_n 0, 1) := by decide +kernel
theorem d25_1 : decode method_4_code 1 = .ok (.ifCond .lt 21, 3) := by decide +kernel
theorem d25_4 : decode method_4_code 4 = .ok (.iload_n 0, 1) := by decide +kernel
theorem d25_5 : decode method_4_code 5 = .ok (.i2l, 1) := by decide +kernel
theorem d25_6 : decode method_4_code 6 = .ok (.ldc2_w 14, 3) := by decide +kernel
theorem d25_9 : decode method_4_code 9 = .ok (.iload_n 1, 1) := by decide +kernel
theorem d25_10 : decode method_4_code 10 = .ok (.i2l, 1) := by decide +kernel
theorem d25_11 : decode method_4_code 11 = .ok (.lconst 1, 1) := by decide +kernel
theorem d25_12 : decode method_4_code 12 = .ok (.lsub, 1) := by decide +kernel
theorem d25_13 : decode method_4_code 13 = .ok (.lmul, 1) := by decide +kernel
theorem d25_14 : decode method_4_code 14 = .ok (.lcmp, 1) := by decide +kernel
theorem d25_15 : decode method_4_code 15 = .ok (.ifCond .gt 7, 3) := by decide +kernel
theorem d25_18 : decode method_4_code 18 = .ok (.iconst 1, 1) := by decide +kernel
theorem d25_19 : decode method_4_code 19 = .ok (.goto 4, 3) := by decide +kernel
theorem d25_22 : decode method_4_code 22 = .ok (.iconst 0, 1) := by decide +kernel
theorem d25_23 : decode method_4_code 23 = .ok (.ireturn, 1) := by decide +kernel
theorem pn_25 : plainName "com/example/ken2/ken2/StateLayoutUnpackPinLaw" = true := by first | (simp [plainName, overriddenIn]; done) | decide +kernel
theorem ef_25 (m : MethodId) (p0 : Int32) (p1 : Int32) : entryFrame m #[(.int p0), (.int p1)] 2 = mkF m 0 #[.val (.int p0), .val (.int p1)] [] := by first | (simp [entryFrame, mkF, argsToLocals, Value.category]; done) | rfl
def f25_0 (p0 : Int32) (p1 : Int32) : Int32 := (if p0 < (0 : Int32) then (0 : Int32) else (if ((2 : Int64) * ((p1.toInt64) - (1 : Int64))) < (p0.toInt64) then (0 : Int32) else (1 : Int32)))
set_option maxRecDepth 65536 in
set_option maxHeartbeats 40000000 in
theorem j25_0 {p : Program} {l : Launch} {e : Env} {s : State} {m : MethodId} {args : Array Value} {below : List Frame} {meth : Method} {c : Code} {T0 : State} {locs : List Loc} {Z : State} {a0 : Array Value} {h0 : Heap} {n0 : Nat}
    (X0 : Stand p l e ({ frames := 0, cells := 0, slots := 0, locals := 0 } : Room) s m args below meth c T0 locs 0 0) (hx : p.tables.exec = Jvm.exec) (hZ : Z.Warmed39 s.vm) (hw : ∀ d ∈ tables_1, d.before a0 Z = true) (hby : c.code = method_4_code) (hml : c.maxLocals = 2) (hown : s.vm.findClass "com/example/ken2/ken2/StateLayoutUnpackPinLaw" = some m.cls) (e0 : T0.heap = h0) (N0 : Fr n0 locs) (Z0 : n0 ≤ h0.size) (p0 : Int32) (p1 : Int32) :
    OwnFin X0 (some .boolean) (PQ (some (.int (nar .boolean (f25_0 p0 p1)))) h0 n0) 0 0 (mkF m 0 #[.val (.int p0), .val (.int p1)] []) := by
  show OwnFin X0 (some .boolean) (PQ (some (.int (nar .boolean (if p0 < (0 : Int32) then (0 : Int32) else (if ((2 : Int64) * ((p1.toInt64) - (1 : Int64))) < (p0.toInt64) then (0 : Int32) else (1 : Int32)))))) h0 n0) 0 0 _
  refine ost (mkF m 1 #[.val (.int p0), .val (.int p1)] [(.int p0)]) X0 (fun t k => XS.iloadN X0.here hx rfl (hb hby d25_0) rfl k) ?_
  by_cases hc1 : p0 < (0 : Int32)
  · rw [if_pos hc1]
    refine ost (mkF m 22 #[.val (.int p0), .val (.int p1)] []) X0 (fun t k => XS.ifYes X0.here hx rfl (pc0 := 1) (pc' := 22) rfl (hb hby d25_1) rfl ((if0 _ _).trans (tlt hc1).1) (by decide) (by decide) k) ?_
    refine ost (mkF m 23 #[.val (.int p0), .val (.int p1)] [(.int (0 : Int32))]) X0 (fun t k => XS.iconst X0.here hx rfl (hb hby d25_22) k) ?_
    exact OwnFin.retNar X0 (by simp) (hb hby d25_23) (Nat.le_refl _) (Nat.le_refl _) ⟨rfl, e0, N0⟩
  · rw [if_neg hc1]
    refine ost (mkF m 4 #[.val (.int p0), .val (.int p1)] []) X0 (fun t k => XS.ifNo X0.here hx rfl (hb hby d25_1) rfl ((if0 _ _).trans (flt hc1).1) k) ?_
    refine ost (mkF m 5 #[.val (.int p0), .val (.int p1)] [(.int p0)]) X0 (fun t k => XS.iloadN X0.here hx rfl (hb hby d25_4) rfl k) ?_
    refine ost (mkF m 6 #[.val (.int p0), .val (.int p1)] [(.long (p0.toInt64))]) X0 (fun t k => XT.i2l X0.here hx rfl (hb hby d25_5) rfl k) ?_
    refine ost (mkF m 9 #[.val (.int p0), .val (.int p1)] [(.long (2 : Int64)), (.long (p0.toInt64))]) X0 (fun t k => X0.ldc2Long hx hown (mvT hZ (hw _ (wm 164 rfl))) (g := (mkF m 6 #[.val (.int p0), .val (.int p1)] [(.long (p0.toInt64))])) rfl (hb hby d25_6) _ k) ?_
    refine ost (mkF m 10 #[.val (.int p0), .val (.int p1)] [(.int p1), (.long (2 : Int64)), (.long (p0.toInt64))]) X0 (fun t k => XS.iloadN X0.here hx rfl (hb hby d25_9) rfl k) ?_
    refine ost (mkF m 11 #[.val (.int p0), .val (.int p1)] [(.long (p1.toInt64)), (.long (2 : Int64)), (.long (p0.toInt64))]) X0 (fun t k => XT.i2l X0.here hx rfl (hb hby d25_10) rfl k) ?_
    refine ost (mkF m 12 #[.val (.int p0), .val (.int p1)] [(.long (1 : Int64)), (.long (p1.toInt64)), (.long (2 : Int64)), (.long (p0.toInt64))]) X0 (fun t k => XT.lconst X0.here hx rfl (hb hby d25_11) k) ?_
    refine ost (mkF m 13 #[.val (.int p0), .val (.int p1)] [(.long ((p1.toInt64) - (1 : Int64))), (.long (2 : Int64)), (.long (p0.toInt64))]) X0 (fun t k => XT.lsub X0.here hx rfl (hb hby d25_12) rfl k) ?_
    refine ost (mkF m 14 #[.val (.int p0), .val (.int p1)] [(.long ((2 : Int64) * ((p1.toInt64) - (1 : Int64)))), (.long (p0.toInt64))]) X0 (fun t k => XT.lmul X0.here hx rfl (hb hby d25_13) rfl k) ?_
    refine ost (mkF m 15 #[.val (.int p0), .val (.int p1)] [(.int (XT.cmpL (p0.toInt64) ((2 : Int64) * ((p1.toInt64) - (1 : Int64)))))]) X0 (fun t k => XT.lcmp X0.here hx rfl (hb hby d25_14) rfl k) ?_
    by_cases hc2 : ((2 : Int64) * ((p1.toInt64) - (1 : Int64))) < (p0.toInt64)
    · rw [if_pos hc2]
      refine ost (mkF m 22 #[.val (.int p0), .val (.int p1)] []) X0 (fun t k => XS.ifYes X0.here hx rfl (pc0 := 15) (pc' := 22) rfl (hb hby d25_15) rfl ((if0 _ _).trans (tlt ((cl_gt _ _).mpr hc2)).2.2.1) (by decide) (by decide) k) ?_
      refine ost (mkF m 23 #[.val (.int p0), .val (.int p1)] [(.int (0 : Int32))]) X0 (fun t k => XS.iconst X0.here hx rfl (hb hby d25_22) k) ?_
      exact OwnFin.retNar X0 (by simp) (hb hby d25_23) (Nat.le_refl _) (Nat.le_refl _) ⟨rfl, e0, N0⟩
    · rw [if_neg hc2]
      refine ost (mkF m 18 #[.val (.int p0), .val (.int p1)] []) X0 (fun t k => XS.ifNo X0.here hx rfl (hb hby d25_15) rfl ((if0 _ _).trans (flt (fun q => hc2 ((cl_gt _ _).mp q))).2.2.1) k) ?_
      refine ost (mkF m 19 #[.val (.int p0), .val (.int p1)] [(.int (1 : Int32))]) X0 (fun t k => XS.iconst X0.here hx rfl (hb hby d25_18) k) ?_
      refine ost (mkF m 23 #[.val (.int p0), .val (.int p1)] [(.int (1 : Int32))]) X0 (fun t k => XS.goto X0.here hx rfl (pc0 := 19) (pc' := 23) rfl (hb hby d25_19) (by decide) (by decide) k) ?_
      exact OwnFin.retNar X0 (by simp) (hb hby d25_23) (Nat.le_refl _) (Nat.le_refl _) ⟨rfl, e0, N0⟩
def r25 (p0 : Int32) (p1 : Int32) : Int32 := nar .boolean (f25_0 p0 p1)
set_option maxRecDepth 65536 in
set_option maxHeartbeats 40000000 in
theorem rm25 (l : Launch) (Z : State) (a0 : Array Value) (hw : ∀ d ∈ tables_1, d.before a0 Z = true) (ws : List Jvm.Cond) (p0 : Int32) (p1 : Int32) (h0 : Heap) (n0 : Nat) (Z0 : n0 ≤ h0.size) :
    MetFree l Y25 (head1 (Jvm.Cond.code Y25 method_4_code 2 (some .boolean) :: ws) ({ frames := 0, cells := 0, slots := 0, locals := 0 } : Room)) (fun a U => a = #[(.int p0), (.int p1)] ∧ Z.Warmed39 U.vm ∧ U.heap = h0) (fun _ _ _ _ _ => True) (fun _ U o U' => ∃ v L, o = .returned v ∧ PQ (some (.int (r25 p0 p1))) h0 n0 v U'.heap L ∧ FrameEnd U o U' L ({ frames := 0, cells := 0, slots := 0, locals := 0 } : Room).cells ({ frames := 0, cells := 0, slots := 0, locals := 0 } : Room).slots) :=
  own_met (ret := (some .boolean)) (plainFor_of_name pn_25) (fun m => ef_25 m p0 p1) (fun p e s m below meth c s₁ X hx hby hml hown hnm hZ e0 => OwnFin.wide (j25_0 X hx hZ hw hby hml hown e0 (Fr.nil n0) Z0 p0 p1) (Nat.zero_le _) (Nat.zero_le _))
theorem d5_0 : decode jdk_22_method_1_code 0 = .ok (.aload_n 0, 1) := by decide +kernel
theorem d5_1 : decode jdk_22_method_1_code 1 = .ok (.invokespecial 1, 3) := by decide +kernel
theorem d5_4 : decode jdk_22_method_1_code 4 = .ok (.return_, 1) := by decide +kernel
theorem pn_5 : plainName "java/util/AbstractCollection" = true := by first | (simp [plainName, overriddenIn]; done) | decide +kernel
theorem ef_5 (m : MethodId) (o0 : Addr) : entryFrame m #[(.ref o0)] 1 = mkF m 0 #[.val (.ref o0)] [] := by first | (simp [entryFrame, mkF, argsToLocals, Value.category]; done) | rfl
theorem d4_0 : decode jdk_39_method_1_code 0 = .ok (.aload_n 0, 1) := by decide +kernel
theorem d4_1 : decode jdk_39_method_1_code 1 = .ok (.invokespecial 1, 3) := by decide +kernel
theorem d4_4 : decode jdk_39_method_1_code 4 = .ok (.aload_n 0, 1) := by decide +kernel
theorem d4_5 : decode jdk_39_method_1_code 5 = .ok (.iconst 0, 1) := by decide +kernel
theorem d4_6 : decode jdk_39_method_1_code 6 = .ok (.putfield 7, 3) := by decide +kernel
theorem d4_9 : decode jdk_39_method_1_code 9 = .ok (.return_, 1) := by decide +kernel
theorem pn_4 : plainName "java/util/AbstractList" = true := by first | (simp [plainName, overriddenIn]; done) | decide +kernel
theorem ef_4 (m : MethodId) (o0 : Addr) : entryFrame m #[(.ref o0)] 1 = mkF m 0 #[.val (.ref o0)] [] := by first | (simp [entryFrame, mkF, argsToLocals, Value.category]; done) | rfl
theorem d3_0 : decode jdk_38_method_2_code 0 = .ok (.aload_n 0, 1) := by decide +kernel
theorem d3_1 : decode jdk_38_method_2_code 1 = .ok (.invokespecial 1, 3) := by decide +kernel
theorem d3_4 : decode jdk_38_method_2_code 4 = .ok (.aload_n 0, 1) := by decide +kernel
theorem d3_5 : decode jdk_38_method_2_code 5 = .ok (.getstatic 39, 3) := by decide +kernel
theorem d3_8 : decode jdk_38_method_2_code 8 = .ok (.putfield 9, 3) := by decide +kernel
theorem d3_11 : decode jdk_38_method_2_code 11 = .ok (.return_, 1) := by decide +kernel
theorem pn_3 : plainName "java/util/ArrayList" = true := by first | (simp [plainName, overriddenIn]; done) | decide +kernel
theorem ef_3 (m : MethodId) (o0 : Addr) : entryFrame m #[(.ref o0)] 1 = mkF m 0 #[.val (.ref o0)] [] := by first | (simp [entryFrame, mkF, argsToLocals, Value.category]; done) | rfl
theorem d8_0 : decode jdk_30_method_1_code 0 = .ok (.aload_n 0, 1) := by decide +kernel
theorem d8_1 : decode jdk_30_method_1_code 1 = .ok (.invokespecial 1, 3) := by decide +kernel
theorem d8_4 : decode jdk_30_method_1_code 4 = .ok (.return_, 1) := by decide +kernel
theorem pn_8 : plainName "java/lang/Record" = true := by first | (simp [plainName, overriddenIn]; done) | decide +kernel
theorem ef_8 (m : MethodId) (o0 : Addr) : entryFrame m #[(.ref o0)] 1 = mkF m 0 #[.val (.ref o0)] [] := by first | (simp [entryFrame, mkF, argsToLocals, Value.category]; done) | rfl
theorem d7_0 : decode prog_64_method_1_code 0 = .ok (.aload_n 0, 1) := by decide +kernel
theorem d7_1 : decode prog_64_method_1_code 1 = .ok (.invokespecial 1, 3) := by decide +kernel
theorem d7_4 : decode prog_64_method_1_code 4 = .ok (.aload_n 0, 1) := by decide +kernel
theorem d7_5 : decode prog_64_method_1_code 5 = .ok (.aload_n 1, 1) := by decide +kernel
theorem d7_6 : decode prog_64_method_1_code 6 = .ok (.putfield 7, 3) := by decide +kernel
theorem d7_9 : decode prog_64_method_1_code 9 = .ok (.aload_n 0, 1) := by decide +kernel
theorem d7_10 : decode prog_64_method_1_code 10 = .ok (.aload_n 2, 1) := by decide +kernel
theorem d7_11 : decode prog_64_method_1_code 11 = .ok (.putfield 13, 3) := by decide +kernel
theorem d7_14 : decode prog_64_method_1_code 14 = .ok (.aload_n 0, 1) := by decide +kernel
theorem d7_15 : decode prog_64_method_1_code 15 = .ok (.aload_n 3, 1) := by decide +kernel
theorem d7_16 : decode prog_64_method_1_code 16 = .ok (.putfield 16, 3) := by decide +kernel
theorem d7_19 : decode prog_64_method_1_code 19 = .ok (.aload_n 0, 1) := by decide +kernel
theorem d7_20 : decode prog_64_method_1_code 20 = .ok (.iload 4, 2) := by decide +kernel
theorem d7_22 : decode prog_64_method_1_code 22 = .ok (.putfield 20, 3) := by decide +kernel
theorem d7_25 : decode prog_64_method_1_code 25 = .ok (.aload_n 0, 1) := by decide +kernel
theorem d7_26 : decode prog_64_method_1_code 26 = .ok (.iload 5, 2) := by decide +kernel
theorem d7_28 : decode prog_64_method_1_code 28 = .ok (.putfield 24, 3) := by decide +kernel
theorem d7_31 : decode prog_64_method_1_code 31 = .ok (.return_, 1) := by decide +kernel
theorem pn_7 : plainName "com/example/ken2/ken2/InterpretedSystem$Variable" = true := by first | (simp [plainName, overriddenIn]; done) | decide +kernel
theorem ef_7n1n2n3 (m : MethodId) (o0 : Addr) (p4 : Int32) (p5 : Int32) : entryFrame m #[(.ref o0), .null, .null, .null, (.int p4), (.int p5)] 6 = mkF m 0 #[.val (.ref o0), .val .null, .val .null, .val .null, .val (.int p4), .val (.int p5)] [] := by first | (simp [entryFrame, mkF, argsToLocals, Value.category]; done) | rfl
theorem d12_0 : decode jdk_38_method_6_code 0 = .ok (.aload_n 0, 1) := by decide +kernel
theorem d12_1 : decode jdk_38_method_6_code 1 = .ok (.getfield 9, 3) := by decide +kernel
theorem d12_4 : decode jdk_38_method_6_code 4 = .ok (.arraylength, 1) := by decide +kernel
theorem d12_5 : decode jdk_38_method_6_code 5 = .ok (.istore_n 2, 1) := by decide +kernel
theorem d12_6 : decode jdk_38_method_6_code 6 = .ok (.iload_n 2, 1) := by decide +kernel
theorem d12_7 : decode jdk_38_method_6_code 7 = .ok (.ifCond .gt 13, 3) := by decide +kernel
theorem d12_10 : decode jdk_38_method_6_code 10 = .ok (.aload_n 0, 1) := by decide +kernel
theorem d12_11 : decode jdk_38_method_6_code 11 = .ok (.getfield 9, 3) := by decide +kernel
theorem d12_14 : decode jdk_38_method_6_code 14 = .ok (.getstatic 39, 3) := by decide +kernel
theorem d12_17 : decode jdk_38_method_6_code 17 = .ok (.if_acmp .eq 28, 3) := by decide +kernel
theorem d12_45 : decode jdk_38_method_6_code 45 = .ok (.aload_n 0, 1) := by decide +kernel
theorem d12_46 : decode jdk_38_method_6_code 46 = .ok (.bipush 10, 2) := by decide +kernel
theorem d12_48 : decode jdk_38_method_6_code 48 = .ok (.iload_n 1, 1) := by decide +kernel
theorem d12_49 : decode jdk_38_method_6_code 49 = .ok (.invokestatic 79, 3) := by decide +kernel
theorem d12_52 : decode jdk_38_method_6_code 52 = .ok (.anewarray 7, 3) := by decide +kernel
theorem d12_55 : decode jdk_38_method_6_code 55 = .ok (.dup_x1, 1) := by decide +kernel
theorem d12_56 : decode jdk_38_method_6_code 56 = .ok (.putfield 9, 3) := by decide +kernel
theorem d12_59 : decode jdk_38_method_6_code 59 = .ok (.areturn, 1) := by decide +kernel
theorem pn_12 : plainName "java/util/ArrayList" = true := by first | (simp [plainName, overriddenIn]; done) | decide +kernel
theorem ef_12 (m : MethodId) (o0 : Addr) (p1 : Int32) : entryFrame m #[(.ref o0), (.int p1)] 4 = mkF m 0 #[.val (.ref o0), .val (.int p1), .unset, .unset] [] := by first | (simp [entryFrame, mkF, argsToLocals, Value.category]; done) | rfl
theorem d11_0 : decode jdk_38_method_7_code 0 = .ok (.aload_n 0, 1) := by decide +kernel
theorem d11_1 : decode jdk_38_method_7_code 1 = .ok (.aload_n 0, 1) := by decide +kernel
theorem d11_2 : decode jdk_38_method_7_code 2 = .ok (.getfield 48, 3) := by decide +kernel
theorem d11_5 : decode jdk_38_method_7_code 5 = .ok (.iconst 1, 1) := by decide +kernel
theorem d11_6 : decode jdk_38_method_7_code 6 = .ok (.iadd, 1) := by decide +kernel
theorem d11_7 : decode jdk_38_method_7_code 7 = .ok (.invokevirtual 69, 3) := by decide +kernel
theorem d11_10 : decode jdk_38_method_7_code 10 = .ok (.areturn, 1) := by decide +kernel
theorem pn_11 : plainName "java/util/ArrayList" = true := by first | (simp [plainName, overriddenIn]; done) | decide +kernel
theorem ef_11 (m : MethodId) (o0 : Addr) : entryFrame m #[(.ref o0)] 1 = mkF m 0 #[.val (.ref o0)] [] := by first | (simp [entryFrame, mkF, argsToLocals, Value.category]; done) | rfl
theorem d10_0 : decode jdk_38_method_24_code 0 = .ok (.iload_n 3, 1) := by decide +kernel
theorem d10_1 : decode jdk_38_method_24_code 1 = .ok (.aload_n 2, 1) := by decide +kernel
theorem d10_2 : decode jdk_38_method_24_code 2 = .ok (.arraylength, 1) := by decide +kernel
theorem d10_3 : decode jdk_38_method_24_code 3 = .ok (.if_icmp .ne 8, 3) := by decide +kernel
theorem d10_6 : decode jdk_38_method_24_code 6 = .ok (.aload_n 0, 1) := by decide +kernel
theorem d10_7 : decode jdk_38_method_24_code 7 = .ok (.invokevirtual 129, 3) := by decide +kernel
theorem d10_10 : decode jdk_38_method_24_code 10 = .ok (.astore_n 2, 1) := by decide +kernel
theorem d10_11 : decode jdk_38_method_24_code 11 = .ok (.aload_n 2, 1) := by decide +kernel
theorem d10_12 : decode jdk_38_method_24_code 12 = .ok (.iload_n 3, 1) := by decide +kernel
theorem d10_13 : decode jdk_38_method_24_code 13 = .ok (.aload_n 1, 1) := by decide +kernel
theorem d10_14 : decode jdk_38_method_24_code 14 = .ok (.aastore, 1) := by decide +kernel
theorem d10_15 : decode jdk_38_method_24_code 15 = .ok (.aload_n 0, 1) := by decide +kernel
theorem d10_16 : decode jdk_38_method_24_code 16 = .ok (.iload_n 3, 1) := by decide +kernel
theorem d10_17 : decode jdk_38_method_24_code 17 = .ok (.iconst 1, 1) := by decide +kernel
theorem d10_18 : decode jdk_38_method_24_code 18 = .ok (.iadd, 1) := by decide +kernel
theorem d10_19 : decode jdk_38_method_24_code 19 = .ok (.putfield 48, 3) := by decide +kernel
theorem d10_22 : decode jdk_38_method_24_code 22 = .ok (.return_, 1) := by decide +kernel
theorem pn_10 : plainName "java/util/ArrayList" = true := by first | (simp [plainName, overriddenIn]; done) | decide +kernel
theorem ef_10 (m : MethodId) (o0 : Addr) (o1 : Addr) (o2 : Addr) (p3 : Int32) : entryFrame m #[(.ref o0), (.ref o1), (.ref o2), (.int p3)] 4 = mkF m 0 #[.val (.ref o0), .val (.ref o1), .val (.ref o2), .val (.int p3)] [] := by first | (simp [entryFrame, mkF, argsToLocals, Value.category]; done) | rfl
theorem d9_0 : decode jdk_38_method_25_code 0 = .ok (.aload_n 0, 1) := by decide +kernel
theorem d9_1 : decode jdk_38_method_25_code 1 = .ok (.dup, 1) := by decide +kernel
theorem d9_2 : decode jdk_38_method_25_code 2 = .ok (.getfield 63, 3) := by decide +kernel
theorem d9_5 : decode jdk_38_method_25_code 5 = .ok (.iconst 1, 1) := by decide +kernel
theorem d9_6 : decode jdk_38_method_25_code 6 = .ok (.iadd, 1) := by decide +kernel
theorem d9_7 : decode jdk_38_method_25_code 7 = .ok (.putfield 63, 3) := by decide +kernel
theorem d9_10 : decode jdk_38_method_25_code 10 = .ok (.aload_n 0, 1) := by decide +kernel
theorem d9_11 : decode jdk_38_method_25_code 11 = .ok (.aload_n 1, 1) := by decide +kernel
theorem d9_12 : decode jdk_38_method_25_code 12 = .ok (.aload_n 0, 1) := by decide +kernel
theorem d9_13 : decode jdk_38_method_25_code 13 = .ok (.getfield 9, 3) := by decide +kernel
theorem d9_16 : decode jdk_38_method_25_code 16 = .ok (.aload_n 0, 1) := by decide +kernel
theorem d9_17 : decode jdk_38_method_25_code 17 = .ok (.getfield 48, 3) := by decide +kernel
theorem d9_20 : decode jdk_38_method_25_code 20 = .ok (.invokevirtual 131, 3) := by decide +kernel
theorem d9_23 : decode jdk_38_method_25_code 23 = .ok (.iconst 1, 1) := by decide +kernel
theorem d9_24 : decode jdk_38_method_25_code 24 = .ok (.ireturn, 1) := by decide +kernel
theorem pn_9 : plainName "java/util/ArrayList" = true := by first | (simp [plainName, overriddenIn]; done) | decide +kernel
theorem ef_9 (m : MethodId) (o0 : Addr) (o1 : Addr) : entryFrame m #[(.ref o0), (.ref o1)] 2 = mkF m 0 #[.val (.ref o0), .val (.ref o1)] [] := by first | (simp [entryFrame, mkF, argsToLocals, Value.category]; done) | rfl
theorem d14_0 : decode jdk_38_method_8_code 0 = .ok (.aload_n 0, 1) := by decide +kernel
theorem d14_1 : decode jdk_38_method_8_code 1 = .ok (.getfield 48, 3) := by decide +kernel
theorem d14_4 : decode jdk_38_method_8_code 4 = .ok (.ireturn, 1) := by decide +kernel
theorem pn_14 : plainName "java/util/ArrayList" = true := by first | (simp [plainName, overriddenIn]; done) | decide +kernel
theorem ef_14 (m : MethodId) (o0 : Addr) : entryFrame m #[(.ref o0)] 1 = mkF m 0 #[.val (.ref o0)] [] := by first | (simp [entryFrame, mkF, argsToLocals, Value.category]; done) | rfl
theorem d17_0 : decode jdk_41_method_11_code 0 = .ok (.iload_n 0, 1) := by decide +kernel
theorem d17_1 : decode jdk_41_method_11_code 1 = .ok (.ifCond .lt 8, 3) := by decide +kernel
theorem d17_4 : decode jdk_41_method_11_code 4 = .ok (.iload_n 0, 1) := by decide +kernel
theorem d17_5 : decode jdk_41_method_11_code 5 = .ok (.iload_n 1, 1) := by decide +kernel
theorem d17_6 : decode jdk_41_method_11_code 6 = .ok (.if_icmp .lt 10, 3) := by decide +kernel
theorem d17_16 : decode jdk_41_method_11_code 16 = .ok (.iload_n 0, 1) := by decide +kernel
theorem d17_17 : decode jdk_41_method_11_code 17 = .ok (.ireturn, 1) := by decide +kernel
theorem pn_17 : plainName "jdk/internal/util/Preconditions" = true := by first | (simp [plainName, overriddenIn]; done) | decide +kernel
theorem ef_17n2 (m : MethodId) (p0 : Int32) (p1 : Int32) : entryFrame m #[(.int p0), (.int p1), .null] 3 = mkF m 0 #[.val (.int p0), .val (.int p1), .val .null] [] := by first | (simp [entryFrame, mkF, argsToLocals, Value.category]; done) | rfl
theorem d16_0 : decode jdk_31_method_17_code 0 = .ok (.iload_n 0, 1) := by decide +kernel
theorem d16_1 : decode jdk_31_method_17_code 1 = .ok (.iload_n 1, 1) := by decide +kernel
theorem d16_2 : decode jdk_31_method_17_code 2 = .ok (.aconst_null, 1) := by decide +kernel
theorem d16_3 : decode jdk_31_method_17_code 3 = .ok (.invokestatic 105, 3) := by decide +kernel
theorem d16_6 : decode jdk_31_method_17_code 6 = .ok (.ireturn, 1) := by decide +kernel
theorem pn_16 : plainName "java/util/Objects" = true := by first | (simp [plainName, overriddenIn]; done) | decide +kernel
theorem ef_16 (m : MethodId) (p0 : Int32) (p1 : Int32) : entryFrame m #[(.int p0), (.int p1)] 2 = mkF m 0 #[.val (.int p0), .val (.int p1)] [] := by first | (simp [entryFrame, mkF, argsToLocals, Value.category]; done) | rfl
theorem d18_0 : decode jdk_38_method_18_code 0 = .ok (.aload_n 0, 1) := by decide +kernel
theorem d18_1 : decode jdk_38_method_18_code 1 = .ok (.getfield 9, 3) := by decide +kernel
theorem d18_4 : decode jdk_38_method_18_code 4 = .ok (.iload_n 1, 1) := by decide +kernel
theorem d18_5 : decode jdk_38_method_18_code 5 = .ok (.aaload, 1) := by decide +kernel
theorem d18_6 : decode jdk_38_method_18_code 6 = .ok (.areturn, 1) := by decide +kernel
theorem pn_18 : plainName "java/util/ArrayList" = true := by first | (simp [plainName, overriddenIn]; done) | decide +kernel
theorem ef_18 (m : MethodId) (o0 : Addr) (p1 : Int32) : entryFrame m #[(.ref o0), (.int p1)] 2 = mkF m 0 #[.val (.ref o0), .val (.int p1)] [] := by first | (simp [entryFrame, mkF, argsToLocals, Value.category]; done) | rfl
theorem d15_0 : decode jdk_38_method_20_code 0 = .ok (.iload_n 1, 1) := by decide +kernel
theorem d15_1 : decode jdk_38_method_20_code 1 = .ok (.aload_n 0, 1) := by decide +kernel
theorem d15_2 : decode jdk_38_method_20_code 2 = .ok (.getfield 48, 3) := by decide +kernel
theorem d15_5 : decode jdk_38_method_20_code 5 = .ok (.invokestatic 118, 3) := by decide +kernel
theorem d15_8 : decode jdk_38_method_20_code 8 = .ok (.pop, 1) := by decide +kernel
theorem d15_9 : decode jdk_38_method_20_code 9 = .ok (.aload_n 0, 1) := by decide +kernel
theorem d15_10 : decode jdk_38_method_20_code 10 = .ok (.iload_n 1, 1) := by decide +kernel
theorem d15_11 : decode jdk_38_method_20_code 11 = .ok (.invokevirtual 123, 3) := by decide +kernel
theorem d15_14 : decode jdk_38_method_20_code 14 = .ok (.areturn, 1) := by decide +kernel
theorem pn_15 : plainName "java/util/ArrayList" = true := by first | (simp [plainName, overriddenIn]; done) | decide +kernel
theorem ef_15 (m : MethodId) (o0 : Addr) (p1 : Int32) : entryFrame m #[(.ref o0), (.int p1)] 2 = mkF m 0 #[.val (.ref o0), .val (.int p1)] [] := by first | (simp [entryFrame, mkF, argsToLocals, Value.category]; done) | rfl
theorem d19_0 : decode prog_64_method_15_code 0 = .ok (.aload_n 0, 1) := by decide +kernel
theorem d19_1 : decode prog_64_method_15_code 1 = .ok (.getfield 24, 3) := by decide +kernel
theorem d19_4 : decode prog_64_method_15_code 4 = .ok (.ireturn, 1) := by decide +kernel
theorem pn_19 : plainName "com/example/ken2/ken2/InterpretedSystem$Variable" = true := by first | (simp [plainName, overriddenIn]; done) | decide +kernel
theorem ef_19 (m : MethodId) (o0 : Addr) : entryFrame m #[(.ref o0)] 1 = mkF m 0 #[.val (.ref o0)] [] := by first | (simp [entryFrame, mkF, argsToLocals, Value.category]; done) | rfl
theorem d13_0 : decode prog_112_method_1_code 0 = .ok (.aload_n 0, 1) := by decide +kernel
theorem d13_1 : decode prog_112_method_1_code 1 = .ok (.invokespecial 1, 3) := by decide +kernel
theorem d13_4 : decode prog_112_method_1_code 4 = .ok (.aload_n 0, 1) := by decide +kernel
theorem d13_5 : decode prog_112_method_1_code 5 = .ok (.aload_n 1, 1) := by decide +kernel
theorem d13_6 : decode prog_112_method_1_code 6 = .ok (.invokeinterface 7 1, 5) := by decide +kernel
theorem d13_11 : decode prog_112_method_1_code 11 = .ok (.newarray .int, 2) := by decide +kernel
theorem d13_13 : decode prog_112_method_1_code 13 = .ok (.putfield 13, 3) := by decide +kernel
theorem d13_16 : decode prog_112_method_1_code 16 = .ok (.aload_n 0, 1) := by decide +kernel
theorem d13_17 : decode prog_112_method_1_code 17 = .ok (.aload_n 1, 1) := by decide +kernel
theorem d13_18 : decode prog_112_method_1_code 18 = .ok (.invokeinterface 7 1, 5) := by decide +kernel
theorem d13_23 : decode prog_112_method_1_code 23 = .ok (.newarray .int, 2) := by decide +kernel
theorem d13_25 : decode prog_112_method_1_code 25 = .ok (.putfield 19, 3) := by decide +kernel
theorem d13_28 : decode prog_112_method_1_code 28 = .ok (.aload_n 0, 1) := by decide +kernel
theorem d13_29 : decode prog_112_method_1_code 29 = .ok (.aload_n 1, 1) := by decide +kernel
theorem d13_30 : decode prog_112_method_1_code 30 = .ok (.invokeinterface 7 1, 5) := by decide +kernel
theorem d13_35 : decode prog_112_method_1_code 35 = .ok (.newarray .long, 2) := by decide +kernel
theorem d13_37 : decode prog_112_method_1_code 37 = .ok (.putfield 22, 3) := by decide +kernel
theorem d13_40 : decode prog_112_method_1_code 40 = .ok (.iconst 0, 1) := by decide +kernel
theorem d13_41 : decode prog_112_method_1_code 41 = .ok (.istore_n 2, 1) := by decide +kernel
theorem d13_42 : decode prog_112_method_1_code 42 = .ok (.iconst 0, 1) := by decide +kernel
theorem d13_43 : decode prog_112_method_1_code 43 = .ok (.istore_n 3, 1) := by decide +kernel
theorem d13_44 : decode prog_112_method_1_code 44 = .ok (.iconst 0, 1) := by decide +kernel
theorem d13_45 : decode prog_112_method_1_code 45 = .ok (.istore 4, 2) := by decide +kernel
theorem d13_47 : decode prog_112_method_1_code 47 = .ok (.iload 4, 2) := by decide +kernel
theorem d13_49 : decode prog_112_method_1_code 49 = .ok (.aload_n 1, 1) := by decide +kernel
theorem d13_50 : decode prog_112_method_1_code 50 = .ok (.invokeinterface 7 1, 5) := by decide +kernel
theorem d13_55 : decode prog_112_method_1_code 55 = .ok (.if_icmp .ge 85, 3) := by decide +kernel
theorem d13_58 : decode prog_112_method_1_code 58 = .ok (.aload_n 1, 1) := by decide +kernel
theorem d13_59 : decode prog_112_method_1_code 59 = .ok (.iload 4, 2) := by decide +kernel
theorem d13_61 : decode prog_112_method_1_code 61 = .ok (.invokeinterface 26 2, 5) := by decide +kernel
theorem d13_66 : decode prog_112_method_1_code 66 = .ok (.checkcast 30, 3) := by decide +kernel
theorem d13_69 : decode prog_112_method_1_code 69 = .ok (.invokevirtual 32, 3) := by decide +kernel
theorem d13_72 : decode prog_112_method_1_code 72 = .ok (.istore 5, 2) := by decide +kernel
theorem d13_74 : decode prog_112_method_1_code 74 = .ok (.bipush 32, 2) := by decide +kernel
theorem d13_76 : decode prog_112_method_1_code 76 = .ok (.iload 5, 2) := by decide +kernel
theorem d13_78 : decode prog_112_method_1_code 78 = .ok (.iconst 1, 1) := by decide +kernel
theorem d13_79 : decode prog_112_method_1_code 79 = .ok (.isub, 1) := by decide +kernel
theorem d13_80 : decode prog_112_method_1_code 80 = .ok (.invokestatic 33, 3) := by decide +kernel
theorem d13_83 : decode prog_112_method_1_code 83 = .ok (.isub, 1) := by decide +kernel
theorem d13_84 : decode prog_112_method_1_code 84 = .ok (.istore 6, 2) := by decide +kernel
theorem d13_86 : decode prog_112_method_1_code 86 = .ok (.iload_n 3, 1) := by decide +kernel
theorem d13_87 : decode prog_112_method_1_code 87 = .ok (.iload 6, 2) := by decide +kernel
theorem d13_89 : decode prog_112_method_1_code 89 = .ok (.iadd, 1) := by decide +kernel
theorem d13_90 : decode prog_112_method_1_code 90 = .ok (.bipush 64, 2) := by decide +kernel
theorem d13_92 : decode prog_112_method_1_code 92 = .ok (.if_icmp .le 8, 3) := by decide +kernel
theorem d13_95 : decode prog_112_method_1_code 95 = .ok (.iinc 2 1, 3) := by decide +kernel
theorem d13_98 : decode prog_112_method_1_code 98 = .ok (.iconst 0, 1) := by decide +kernel
theorem d13_99 : decode prog_112_method_1_code 99 = .ok (.istore_n 3, 1) := by decide +kernel
theorem d13_100 : decode prog_112_method_1_code 100 = .ok (.aload_n 0, 1) := by decide +kernel
theorem d13_101 : decode prog_112_method_1_code 101 = .ok (.getfield 13, 3) := by decide +kernel
theorem d13_104 : decode prog_112_method_1_code 104 = .ok (.iload 4, 2) := by decide +kernel
theorem d13_106 : decode prog_112_method_1_code 106 = .ok (.iload_n 2, 1) := by decide +kernel
theorem d13_107 : decode prog_112_method_1_code 107 = .ok (.iastore, 1) := by decide +kernel
theorem d13_108 : decode prog_112_method_1_code 108 = .ok (.aload_n 0, 1) := by decide +kernel
theorem d13_109 : decode prog_112_method_1_code 109 = .ok (.getfield 19, 3) := by decide +kernel
theorem d13_112 : decode prog_112_method_1_code 112 = .ok (.iload 4, 2) := by decide +kernel
theorem d13_114 : decode prog_112_method_1_code 114 = .ok (.iload_n 3, 1) := by decide +kernel
theorem d13_115 : decode prog_112_method_1_code 115 = .ok (.iastore, 1) := by decide +kernel
theorem d13_116 : decode prog_112_method_1_code 116 = .ok (.aload_n 0, 1) := by decide +kernel
theorem d13_117 : decode prog_112_method_1_code 117 = .ok (.getfield 22, 3) := by decide +kernel
theorem d13_120 : decode prog_112_method_1_code 120 = .ok (.iload 4, 2) := by decide +kernel
theorem d13_122 : decode prog_112_method_1_code 122 = .ok (.lconst 1, 1) := by decide +kernel
theorem d13_123 : decode prog_112_method_1_code 123 = .ok (.iload 6, 2) := by decide +kernel
theorem d13_125 : decode prog_112_method_1_code 125 = .ok (.lshl, 1) := by decide +kernel
theorem d13_126 : decode prog_112_method_1_code 126 = .ok (.lconst 1, 1) := by decide +kernel
theorem d13_127 : decode prog_112_method_1_code 127 = .ok (.lsub, 1) := by decide +kernel
theorem d13_128 : decode prog_112_method_1_code 128 = .ok (.lastore, 1) := by decide +kernel
theorem d13_129 : decode prog_112_method_1_code 129 = .ok (.iload_n 3, 1) := by decide +kernel
theorem d13_130 : decode prog_112_method_1_code 130 = .ok (.iload 6, 2) := by decide +kernel
theorem d13_132 : decode prog_112_method_1_code 132 = .ok (.iadd, 1) := by decide +kernel
theorem d13_133 : decode prog_112_method_1_code 133 = .ok (.istore_n 3, 1) := by decide +kernel
theorem d13_134 : decode prog_112_method_1_code 134 = .ok (.iinc 4 1, 3) := by decide +kernel
theorem d13_137 : decode prog_112_method_1_code 137 = .ok (.goto (-90), 3) := by decide +kernel
theorem d13_140 : decode prog_112_method_1_code 140 = .ok (.aload_n 0, 1) := by decide +kernel
theorem d13_141 : decode prog_112_method_1_code 141 = .ok (.iload_n 2, 1) := by decide +kernel
theorem d13_142 : decode prog_112_method_1_code 142 = .ok (.iconst 1, 1) := by decide +kernel
theorem d13_143 : decode prog_112_method_1_code 143 = .ok (.iadd, 1) := by decide +kernel
theorem d13_144 : decode prog_112_method_1_code 144 = .ok (.putfield 41, 3) := by decide +kernel
theorem d13_147 : decode prog_112_method_1_code 147 = .ok (.return_, 1) := by decide +kernel
theorem pn_13 : plainName "com/example/ken2/ken2/StateLayout" = true := by first | (simp [plainName, overriddenIn]; done) | decide +kernel
theorem ef_13 (m : MethodId) (o0 : Addr) (o1 : Addr) : entryFrame m #[(.ref o0), (.ref o1)] 7 = mkF m 0 #[.val (.ref o0), .val (.ref o1), .unset, .unset, .unset, .unset, .unset] [] := by first | (simp [entryFrame, mkF, argsToLocals, Value.category]; done) | rfl
theorem d23_0 : decode jdk_65_method_101_code 0 = .ok (.iconst 0, 1) := by decide +kernel
theorem d23_1 : decode jdk_65_method_101_code 1 = .ok (.istore_n 3, 1) := by decide +kernel
theorem d23_2 : decode jdk_65_method_101_code 2 = .ok (.aload_n 0, 1) := by decide +kernel
theorem d23_3 : decode jdk_65_method_101_code 3 = .ok (.arraylength, 1) := by decide +kernel
theorem d23_4 : decode jdk_65_method_101_code 4 = .ok (.istore 4, 2) := by decide +kernel
theorem d23_6 : decode jdk_65_method_101_code 6 = .ok (.iload_n 3, 1) := by decide +kernel
theorem d23_7 : decode jdk_65_method_101_code 7 = .ok (.iload 4, 2) := by decide +kernel
theorem d23_9 : decode jdk_65_method_101_code 9 = .ok (.if_icmp .ge 13, 3) := by decide +kernel
theorem d23_12 : decode jdk_65_method_101_code 12 = .ok (.aload_n 0, 1) := by decide +kernel
theorem d23_13 : decode jdk_65_method_101_code 13 = .ok (.iload_n 3, 1) := by decide +kernel
theorem d23_14 : decode jdk_65_method_101_code 14 = .ok (.lload_n 1, 1) := by decide +kernel
theorem d23_15 : decode jdk_65_method_101_code 15 = .ok (.lastore, 1) := by decide +kernel
theorem d23_16 : decode jdk_65_method_101_code 16 = .ok (.iinc 3 1, 3) := by decide +kernel
theorem d23_19 : decode jdk_65_method_101_code 19 = .ok (.goto (-13), 3) := by decide +kernel
theorem d23_22 : decode jdk_65_method_101_code 22 = .ok (.return_, 1) := by decide +kernel
theorem pn_23 : plainName "java/util/Arrays" = true := by first | (simp [plainName, overriddenIn]; done) | decide +kernel
theorem ef_23 (m : MethodId) (o0 : Addr) (q1 : Int64) : entryFrame m #[(.ref o0), (.long q1)] 5 = mkF m 0 #[.val (.ref o0), .val (.long q1), .second, .unset, .unset] [] := by first | (simp [entryFrame, mkF, argsToLocals, Value.category]; done) | rfl
theorem d22_0 : decode prog_112_method_3_code 0 = .ok (.aload_n 2, 1) := by decide +kernel
theorem d22_1 : decode prog_112_method_3_code 1 = .ok (.lconst 0, 1) := by decide +kernel
theorem d22_2 : decode prog_112_method_3_code 2 = .ok (.invokestatic 45, 3) := by decide +kernel
theorem d22_5 : decode prog_112_method_3_code 5 = .ok (.iconst 0, 1) := by decide +kernel
theorem d22_6 : decode prog_112_method_3_code 6 = .ok (.istore_n 3, 1) := by decide +kernel
theorem d22_7 : decode prog_112_method_3_code 7 = .ok (.iload_n 3, 1) := by decide +kernel
theorem d22_8 : decode prog_112_method_3_code 8 = .ok (.aload_n 1, 1) := by decide +kernel
theorem d22_9 : decode prog_112_method_3_code 9 = .ok (.arraylength, 1) := by decide +kernel
theorem d22_10 : decode prog_112_method_3_code 10 = .ok (.if_icmp .ge 31, 3) := by decide +kernel
theorem d22_13 : decode prog_112_method_3_code 13 = .ok (.aload_n 2, 1) := by decide +kernel
theorem d22_14 : decode prog_112_method_3_code 14 = .ok (.aload_n 0, 1) := by decide +kernel
theorem d22_15 : decode prog_112_method_3_code 15 = .ok (.getfield 13, 3) := by decide +kernel
theorem d22_18 : decode prog_112_method_3_code 18 = .ok (.iload_n 3, 1) := by decide +kernel
theorem d22_19 : decode prog_112_method_3_code 19 = .ok (.iaload, 1) := by decide +kernel
theorem d22_20 : decode prog_112_method_3_code 20 = .ok (.dup2, 1) := by decide +kernel
theorem d22_21 : decode prog_112_method_3_code 21 = .ok (.laload, 1) := by decide +kernel
theorem d22_22 : decode prog_112_method_3_code 22 = .ok (.aload_n 1, 1) := by decide +kernel
theorem d22_23 : decode prog_112_method_3_code 23 = .ok (.iload_n 3, 1) := by decide +kernel
theorem d22_24 : decode prog_112_method_3_code 24 = .ok (.iaload, 1) := by decide +kernel
theorem d22_25 : decode prog_112_method_3_code 25 = .ok (.i2l, 1) := by decide +kernel
theorem d22_26 : decode prog_112_method_3_code 26 = .ok (.aload_n 0, 1) := by decide +kernel
theorem d22_27 : decode prog_112_method_3_code 27 = .ok (.getfield 19, 3) := by decide +kernel
theorem d22_30 : decode prog_112_method_3_code 30 = .ok (.iload_n 3, 1) := by decide +kernel
theorem d22_31 : decode prog_112_method_3_code 31 = .ok (.iaload, 1) := by decide +kernel
theorem d22_32 : decode prog_112_method_3_code 32 = .ok (.lshl, 1) := by decide +kernel
theorem d22_33 : decode prog_112_method_3_code 33 = .ok (.lor, 1) := by decide +kernel
theorem d22_34 : decode prog_112_method_3_code 34 = .ok (.lastore, 1) := by decide +kernel
theorem d22_35 : decode prog_112_method_3_code 35 = .ok (.iinc 3 1, 3) := by decide +kernel
theorem d22_38 : decode prog_112_method_3_code 38 = .ok (.goto (-31), 3) := by decide +kernel
theorem d22_41 : decode prog_112_method_3_code 41 = .ok (.return_, 1) := by decide +kernel
theorem pn_22 : plainName "com/example/ken2/ken2/StateLayout" = true := by first | (simp [plainName, overriddenIn]; done) | decide +kernel
theorem ef_22 (m : MethodId) (o0 : Addr) (o1 : Addr) (o2 : Addr) : entryFrame m #[(.ref o0), (.ref o1), (.ref o2)] 4 = mkF m 0 #[.val (.ref o0), .val (.ref o1), .val (.ref o2), .unset] [] := by first | (simp [entryFrame, mkF, argsToLocals, Value.category]; done) | rfl
theorem d24_0 : decode prog_112_method_4_code 0 = .ok (.iconst 0, 1) := by decide +kernel
theorem d24_1 : decode prog_112_method_4_code 1 = .ok (.istore_n 3, 1) := by decide +kernel
theorem d24_2 : decode prog_112_method_4_code 2 = .ok (.iload_n 3, 1) := by decide +kernel
theorem d24_3 : decode prog_112_method_4_code 3 = .ok (.aload_n 2, 1) := by decide +kernel
theorem d24_4 : decode prog_112_method_4_code 4 = .ok (.arraylength, 1) := by decide +kernel
theorem d24_5 : decode prog_112_method_4_code 5 = .ok (.if_icmp .ge 35, 3) := by decide +kernel
theorem d24_8 : decode prog_112_method_4_code 8 = .ok (.aload_n 2, 1) := by decide +kernel
theorem d24_9 : decode prog_112_method_4_code 9 = .ok (.iload_n 3, 1) := by decide +kernel
theorem d24_10 : decode prog_112_method_4_code 10 = .ok (.aload_n 1, 1) := by decide +kernel
theorem d24_11 : decode prog_112_method_4_code 11 = .ok (.aload_n 0, 1) := by decide +kernel
theorem d24_12 : decode prog_112_method_4_code 12 = .ok (.getfield 13, 3) := by decide +kernel
theorem d24_15 : decode prog_112_method_4_code 15 = .ok (.iload_n 3, 1) := by decide +kernel
theorem d24_16 : decode prog_112_method_4_code 16 = .ok (.iaload, 1) := by decide +kernel
theorem d24_17 : decode prog_112_method_4_code 17 = .ok (.laload, 1) := by decide +kernel
theorem d24_18 : decode prog_112_method_4_code 18 = .ok (.aload_n 0, 1) := by decide +kernel
theorem d24_19 : decode prog_112_method_4_code 19 = .ok (.getfield 19, 3) := by decide +kernel
theorem d24_22 : decode prog_112_method_4_code 22 = .ok (.iload_n 3, 1) := by decide +kernel
theorem d24_23 : decode prog_112_method_4_code 23 = .ok (.iaload, 1) := by decide +kernel
theorem d24_24 : decode prog_112_method_4_code 24 = .ok (.lushr, 1) := by decide +kernel
theorem d24_25 : decode prog_112_method_4_code 25 = .ok (.aload_n 0, 1) := by decide +kernel
theorem d24_26 : decode prog_112_method_4_code 26 = .ok (.getfield 22, 3) := by decide +kernel
theorem d24_29 : decode prog_112_method_4_code 29 = .ok (.iload_n 3, 1) := by decide +kernel
theorem d24_30 : decode prog_112_method_4_code 30 = .ok (.laload, 1) := by decide +kernel
theorem d24_31 : decode prog_112_method_4_code 31 = .ok (.land, 1) := by decide +kernel
theorem d24_32 : decode prog_112_method_4_code 32 = .ok (.l2i, 1) := by decide +kernel
theorem d24_33 : decode prog_112_method_4_code 33 = .ok (.iastore, 1) := by decide +kernel
theorem d24_34 : decode prog_112_method_4_code 34 = .ok (.iinc 3 1, 3) := by decide +kernel
theorem d24_37 : decode prog_112_method_4_code 37 = .ok (.goto (-35), 3) := by decide +kernel
theorem d24_40 : decode prog_112_method_4_code 40 = .ok (.return_, 1) := by decide +kernel
theorem pn_24 : plainName "com/example/ken2/ken2/StateLayout" = true := by first | (simp [plainName, overriddenIn]; done) | decide +kernel
theorem ef_24 (m : MethodId) (o0 : Addr) (o1 : Addr) (o2 : Addr) : entryFrame m #[(.ref o0), (.ref o1), (.ref o2)] 4 = mkF m 0 #[.val (.ref o0), .val (.ref o1), .val (.ref o2), .unset] [] := by first | (simp [entryFrame, mkF, argsToLocals, Value.category]; done) | rfl
theorem pn_0 : plainName "com/example/ken2/ken2/StateLayoutUnpackPinLaw" = true := by first | (simp [plainName, overriddenIn]; done) | decide +kernel
theorem ef_0 (m : MethodId) (q0 : Int64) (q1 : Int64) (p2 : Int32) (p3 : Int32) (p4 : Int32) (p5 : Int32) : entryFrame m #[(.long q0), (.long q1), (.int p2), (.int p3), (.int p4), (.int p5)] maxLocals = mkF m 0 #[.val (.long q0), .second, .val (.long q1), .second, .val (.int p2), .val (.int p3), .val (.int p4), .val (.int p5), .unset, .unset, .unset, .unset, .unset, .unset, .unset, .unset, .unset, .unset, .unset, .unset, .unset] [] := by first | (simp [entryFrame, mkF, argsToLocals, Value.category, maxLocals]; done) | rfl
theorem pd_1 : parseMethodDescriptor "(I)I" = some ⟨[.int], some .int⟩ := by decide +kernel
theorem pd_2 : parseMethodDescriptor "()V" = some ⟨[], none⟩ := by decide +kernel
theorem pd_3 : parseMethodDescriptor "(Ljava/lang/String;Ljava/lang/String;Ljava/util/List;II)V" = some ⟨[(.object "java/lang/String"), (.object "java/lang/String"), (.object "java/util/List"), .int, .int], none⟩ := by decide +kernel
theorem pd_4 : parseMethodDescriptor "(I)[Ljava/lang/Object;" = some ⟨[.int], some (.array (.object "java/lang/Object"))⟩ := by decide +kernel
theorem pd_5 : parseMethodDescriptor "()[Ljava/lang/Object;" = some ⟨[], some (.array (.object "java/lang/Object"))⟩ := by decide +kernel
theorem pd_6 : parseMethodDescriptor "(Ljava/lang/Object;[Ljava/lang/Object;I)V" = some ⟨[(.object "java/lang/Object"), (.array (.object "java/lang/Object")), .int], none⟩ := by decide +kernel
theorem pd_7 : parseMethodDescriptor "(Ljava/lang/Object;)Z" = some ⟨[(.object "java/lang/Object")], some .boolean⟩ := by decide +kernel
theorem pd_8 : parseMethodDescriptor "()I" = some ⟨[], some .int⟩ := by decide +kernel
theorem pd_9 : parseMethodDescriptor "(IILjava/util/function/BiFunction;)I" = some ⟨[.int, .int, (.object "java/util/function/BiFunction")], some .int⟩ := by decide +kernel
theorem pd_10 : parseMethodDescriptor "(I)Ljava/lang/Object;" = some ⟨[.int], some (.object "java/lang/Object")⟩ := by decide +kernel
theorem pd_11 : parseMethodDescriptor "(Ljava/util/List;)V" = some ⟨[(.object "java/util/List")], none⟩ := by decide +kernel
theorem pd_12 : parseMethodDescriptor "([JJ)V" = some ⟨[(.array .long), .long], none⟩ := by decide +kernel
theorem pd_13 : parseMethodDescriptor "([I[J)V" = some ⟨[(.array .int), (.array .long)], none⟩ := by decide +kernel
theorem pd_14 : parseMethodDescriptor "([J[I)V" = some ⟨[(.array .long), (.array .int)], none⟩ := by decide +kernel
theorem pd_15 : parseMethodDescriptor "(II)Z" = some ⟨[.int, .int], some .boolean⟩ := by decide +kernel
def v0_8 (q0 : Int64) : Int32 := (r1 ((XT.ushrL q0 (32 : Int32)).toInt32))
def vs2213_84 (q0 : Int64) : Int32 := ((32 : Int32) - (r20 ((v0_8 q0) - (1 : Int32))))
def vs2213_100 (q0 : Int64) : Int32 := (if (64 : Int32) < ((0 : Int32) + (vs2213_84 q0)) then (1 : Int32) else (0 : Int32))
def Gs2213_107 (q0 : Int64) : Nat → Int32 := (updN (fun _ => (0 : Int32)) ((0 : Int32)).toNatClampNeg (vs2213_100 q0))
def Gs2213_115  : Nat → Int32 := (updN (fun _ => (0 : Int32)) ((0 : Int32)).toNatClampNeg (0 : Int32))
def Gs2213_128 (q0 : Int64) : Nat → Int64 := (updN (fun _ => (0 : Int64)) ((0 : Int32)).toNatClampNeg (((1 : Int64) <<< ((vs2213_84 q0).toInt64 &&& 63)) - (1 : Int64)))
def vs2213_133 (q0 : Int64) : Int32 := ((0 : Int32) + (vs2213_84 q0))
def v0_15 (q0 : Int64) : Int32 := (r1 (q0.toInt32))
def vs2213_84b (q0 : Int64) : Int32 := ((32 : Int32) - (r20 ((v0_15 q0) - (1 : Int32))))
def vs2213_100b (q0 : Int64) : Int32 := (if (64 : Int32) < ((vs2213_133 q0) + (vs2213_84b q0)) then ((vs2213_100 q0) + (1 : Int32)) else (vs2213_100 q0))
def vs2213_100bb (q0 : Int64) : Int32 := (if (64 : Int32) < ((vs2213_133 q0) + (vs2213_84b q0)) then (0 : Int32) else (vs2213_133 q0))
def Gs2213_107b (q0 : Int64) : Nat → Int32 := (updN (Gs2213_107 q0) ((1 : Int32)).toNatClampNeg (vs2213_100b q0))
def Gs2213_115b (q0 : Int64) : Nat → Int32 := (updN (Gs2213_115) ((1 : Int32)).toNatClampNeg (vs2213_100bb q0))
def Gs2213_128b (q0 : Int64) : Nat → Int64 := (updN (Gs2213_128 q0) ((1 : Int32)).toNatClampNeg (((1 : Int64) <<< ((vs2213_84b q0).toInt64 &&& 63)) - (1 : Int64)))
def vs2213_133b (q0 : Int64) : Int32 := ((vs2213_100bb q0) + (vs2213_84b q0))
def v0_25 (q1 : Int64) : Int32 := (r1 ((XT.ushrL q1 (32 : Int32)).toInt32))
def vs2213_84bb (q1 : Int64) : Int32 := ((32 : Int32) - (r20 ((v0_25 q1) - (1 : Int32))))
def vs2213_100bbb (q0 : Int64) (q1 : Int64) : Int32 := (if (64 : Int32) < ((vs2213_133b q0) + (vs2213_84bb q1)) then ((vs2213_100b q0) + (1 : Int32)) else (vs2213_100b q0))
def vs2213_100bbbb (q0 : Int64) (q1 : Int64) : Int32 := (if (64 : Int32) < ((vs2213_133b q0) + (vs2213_84bb q1)) then (0 : Int32) else (vs2213_133b q0))
def Gs2213_107bb (q0 : Int64) (q1 : Int64) : Nat → Int32 := (updN (Gs2213_107b q0) ((2 : Int32)).toNatClampNeg (vs2213_100bbb q0 q1))
def Gs2213_115bb (q0 : Int64) (q1 : Int64) : Nat → Int32 := (updN (Gs2213_115b q0) ((2 : Int32)).toNatClampNeg (vs2213_100bbbb q0 q1))
def Gs2213_128bb (q0 : Int64) (q1 : Int64) : Nat → Int64 := (updN (Gs2213_128b q0) ((2 : Int32)).toNatClampNeg (((1 : Int64) <<< ((vs2213_84bb q1).toInt64 &&& 63)) - (1 : Int64)))
def vs2213_133bb (q0 : Int64) (q1 : Int64) : Int32 := ((vs2213_100bbbb q0 q1) + (vs2213_84bb q1))
def v0_32 (q1 : Int64) : Int32 := (r1 (q1.toInt32))
def vs2213_84bbb (q1 : Int64) : Int32 := ((32 : Int32) - (r20 ((v0_32 q1) - (1 : Int32))))
def vs2213_100bbbbb (q0 : Int64) (q1 : Int64) : Int32 := (if (64 : Int32) < ((vs2213_133bb q0 q1) + (vs2213_84bbb q1)) then ((vs2213_100bbb q0 q1) + (1 : Int32)) else (vs2213_100bbb q0 q1))
def vs2213_100bbbbbb (q0 : Int64) (q1 : Int64) : Int32 := (if (64 : Int32) < ((vs2213_133bb q0 q1) + (vs2213_84bbb q1)) then (0 : Int32) else (vs2213_133bb q0 q1))
def Gs2213_107bbb (q0 : Int64) (q1 : Int64) : Nat → Int32 := (updN (Gs2213_107bb q0 q1) ((3 : Int32)).toNatClampNeg (vs2213_100bbbbb q0 q1))
def Gs2213_115bbb (q0 : Int64) (q1 : Int64) : Nat → Int32 := (updN (Gs2213_115bb q0 q1) ((3 : Int32)).toNatClampNeg (vs2213_100bbbbbb q0 q1))
def Gs2213_128bbb (q0 : Int64) (q1 : Int64) : Nat → Int64 := (updN (Gs2213_128bb q0 q1) ((3 : Int32)).toNatClampNeg (((1 : Int64) <<< ((vs2213_84bbb q1).toInt64 &&& 63)) - (1 : Int64)))
def vs2213_133bbb (q0 : Int64) (q1 : Int64) : Int32 := ((vs2213_100bbbbbb q0 q1) + (vs2213_84bbb q1))
def Gs4523_15  : Nat → Int64 := (updN (fun _ => (0 : Int64)) ((0 : Int32)).toNatClampNeg (0 : Int64))
def Gs4523_15b  : Nat → Int64 := (updN (Gs4523_15) ((1 : Int32)).toNatClampNeg (0 : Int64))
def Gs4422_34 (q0 : Int64) (p2 : Int32) : Nat → Int64 := (updN (Gs4523_15b) ((vs2213_100 q0)).toNatClampNeg (((Gs4523_15b) ((vs2213_100 q0)).toNatClampNeg) ||| (((r21 p2 (v0_8 q0)).toInt64) <<< ((0 : Int32).toInt64 &&& 63))))
def Gs4422_34b (q0 : Int64) (p2 : Int32) (p3 : Int32) : Nat → Int64 := (updN (Gs4422_34 q0 p2) ((vs2213_100b q0)).toNatClampNeg (((Gs4422_34 q0 p2) ((vs2213_100b q0)).toNatClampNeg) ||| (((r21 p3 (v0_15 q0)).toInt64) <<< ((vs2213_100bb q0).toInt64 &&& 63))))
def Gs4422_34bb (q0 : Int64) (p2 : Int32) (p3 : Int32) (q1 : Int64) (p4 : Int32) : Nat → Int64 := (updN (Gs4422_34b q0 p2 p3) ((vs2213_100bbb q0 q1)).toNatClampNeg (((Gs4422_34b q0 p2 p3) ((vs2213_100bbb q0 q1)).toNatClampNeg) ||| (((r21 p4 (v0_25 q1)).toInt64) <<< ((vs2213_100bbbb q0 q1).toInt64 &&& 63))))
def Gs4422_34bbb (q0 : Int64) (p2 : Int32) (p3 : Int32) (q1 : Int64) (p4 : Int32) (p5 : Int32) : Nat → Int64 := (updN (Gs4422_34bb q0 p2 p3 q1 p4) ((vs2213_100bbbbb q0 q1)).toNatClampNeg (((Gs4422_34bb q0 p2 p3 q1 p4) ((vs2213_100bbbbb q0 q1)).toNatClampNeg) ||| (((r21 p5 (v0_32 q1)).toInt64) <<< ((vs2213_100bbbbbb q0 q1).toInt64 &&& 63))))
def Gs4624_33 (q0 : Int64) (p2 : Int32) (p3 : Int32) (q1 : Int64) (p4 : Int32) (p5 : Int32) : Nat → Int32 := (updN (fun _ => (0 : Int32)) ((0 : Int32)).toNatClampNeg (((XT.ushrL ((Gs4422_34bbb q0 p2 p3 q1 p4 p5) ((vs2213_100 q0)).toNatClampNeg) (0 : Int32)) &&& (((1 : Int64) <<< ((vs2213_84 q0).toInt64 &&& 63)) - (1 : Int64))).toInt32))
def Gs4624_33b (q0 : Int64) (p2 : Int32) (p3 : Int32) (q1 : Int64) (p4 : Int32) (p5 : Int32) : Nat → Int32 := (updN (Gs4624_33 q0 p2 p3 q1 p4 p5) ((1 : Int32)).toNatClampNeg (((XT.ushrL ((Gs4422_34bbb q0 p2 p3 q1 p4 p5) ((vs2213_100b q0)).toNatClampNeg) (vs2213_100bb q0)) &&& (((1 : Int64) <<< ((vs2213_84b q0).toInt64 &&& 63)) - (1 : Int64))).toInt32))
def Gs4624_33bb (q0 : Int64) (p2 : Int32) (p3 : Int32) (q1 : Int64) (p4 : Int32) (p5 : Int32) : Nat → Int32 := (updN (Gs4624_33b q0 p2 p3 q1 p4 p5) ((2 : Int32)).toNatClampNeg (((XT.ushrL ((Gs4422_34bbb q0 p2 p3 q1 p4 p5) ((vs2213_100bbb q0 q1)).toNatClampNeg) (vs2213_100bbbb q0 q1)) &&& (((1 : Int64) <<< ((vs2213_84bb q1).toInt64 &&& 63)) - (1 : Int64))).toInt32))
def Gs4624_33bbb (q0 : Int64) (p2 : Int32) (p3 : Int32) (q1 : Int64) (p4 : Int32) (p5 : Int32) : Nat → Int32 := (updN (Gs4624_33bb q0 p2 p3 q1 p4 p5) ((3 : Int32)).toNatClampNeg (((XT.ushrL ((Gs4422_34bbb q0 p2 p3 q1 p4 p5) ((vs2213_100bbbbb q0 q1)).toNatClampNeg) (vs2213_100bbbbbb q0 q1)) &&& (((1 : Int64) <<< ((vs2213_84bbb q1).toInt64 &&& 63)) - (1 : Int64))).toInt32))
def G0_278 (q0 : Int64) (p2 : Int32) (p3 : Int32) : Nat → Int64 := (updN (fun _ => (0 : Int64)) ((0 : Int32)).toNatClampNeg ((q0 ^^^ ((p2.toInt64) <<< ((32 : Int32).toInt64 &&& 63))) ^^^ (p3.toInt64)))
def G0_294 (q0 : Int64) (p2 : Int32) (p3 : Int32) (q1 : Int64) (p4 : Int32) (p5 : Int32) : Nat → Int64 := (updN (G0_278 q0 p2 p3) ((1 : Int32)).toNatClampNeg ((q1 ^^^ ((p4.toInt64) <<< ((32 : Int32).toInt64 &&& 63))) ^^^ (p5.toInt64)))
def Gs4724_33 (q0 : Int64) (p2 : Int32) (p3 : Int32) (q1 : Int64) (p4 : Int32) (p5 : Int32) : Nat → Int32 := (updN (fun _ => (0 : Int32)) ((0 : Int32)).toNatClampNeg (((XT.ushrL ((G0_294 q0 p2 p3 q1 p4 p5) ((vs2213_100 q0)).toNatClampNeg) (0 : Int32)) &&& (((1 : Int64) <<< ((vs2213_84 q0).toInt64 &&& 63)) - (1 : Int64))).toInt32))
def Gs4724_33b (q0 : Int64) (p2 : Int32) (p3 : Int32) (q1 : Int64) (p4 : Int32) (p5 : Int32) : Nat → Int32 := (updN (Gs4724_33 q0 p2 p3 q1 p4 p5) ((1 : Int32)).toNatClampNeg (((XT.ushrL ((G0_294 q0 p2 p3 q1 p4 p5) ((vs2213_100b q0)).toNatClampNeg) (vs2213_100bb q0)) &&& (((1 : Int64) <<< ((vs2213_84b q0).toInt64 &&& 63)) - (1 : Int64))).toInt32))
def Gs4724_33bb (q0 : Int64) (p2 : Int32) (p3 : Int32) (q1 : Int64) (p4 : Int32) (p5 : Int32) : Nat → Int32 := (updN (Gs4724_33b q0 p2 p3 q1 p4 p5) ((2 : Int32)).toNatClampNeg (((XT.ushrL ((G0_294 q0 p2 p3 q1 p4 p5) ((vs2213_100bbb q0 q1)).toNatClampNeg) (vs2213_100bbbb q0 q1)) &&& (((1 : Int64) <<< ((vs2213_84bb q1).toInt64 &&& 63)) - (1 : Int64))).toInt32))
def Gs4724_33bbb (q0 : Int64) (p2 : Int32) (p3 : Int32) (q1 : Int64) (p4 : Int32) (p5 : Int32) : Nat → Int32 := (updN (Gs4724_33bb q0 p2 p3 q1 p4 p5) ((3 : Int32)).toNatClampNeg (((XT.ushrL ((G0_294 q0 p2 p3 q1 p4 p5) ((vs2213_100bbbbb q0 q1)).toNatClampNeg) (vs2213_100bbbbbb q0 q1)) &&& (((1 : Int64) <<< ((vs2213_84bbb q1).toInt64 &&& 63)) - (1 : Int64))).toInt32))
def G0_145 (p2 : Int32) (q0 : Int64) : Nat → Int32 := (updN (fun _ => (0 : Int32)) ((0 : Int32)).toNatClampNeg (r21 p2 (v0_8 q0)))
def G0_156 (p2 : Int32) (q0 : Int64) (p3 : Int32) : Nat → Int32 := (updN (G0_145 p2 q0) ((1 : Int32)).toNatClampNeg (r21 p3 (v0_15 q0)))
def G0_167 (p2 : Int32) (q0 : Int64) (p3 : Int32) (p4 : Int32) (q1 : Int64) : Nat → Int32 := (updN (G0_156 p2 q0 p3) ((2 : Int32)).toNatClampNeg (r21 p4 (v0_25 q1)))
def G0_178 (p2 : Int32) (q0 : Int64) (p3 : Int32) (p4 : Int32) (q1 : Int64) (p5 : Int32) : Nat → Int32 := (updN (G0_167 p2 q0 p3 p4 q1) ((3 : Int32)).toNatClampNeg (r21 p5 (v0_32 q1)))
/-- n less the binary logarithm of x -/
def LogAt (x n r : Int32) (m : Nat) : Prop := ∃ k P : Nat, P = 2 ^ k ∧ k < m ∧ (P : Int) ≤ x.toInt ∧ x.toInt < 2 * (P : Int) ∧ r.toInt = n.toInt - k
theorem LogAt.mk {x n r : Int32} {m : Nat} (k P : Nat) (hP : P = 2 ^ k) (hk : k < m) (h1 : (P : Int) ≤ x.toInt) (h2 : x.toInt < 2 * (P : Int)) (h3 : r.toInt = n.toInt - k) : LogAt x n r m := ⟨k, P, hP, hk, h1, h2, h3⟩
theorem own_61a (x n y : Int32) (hx : 1 ≤ x.toInt ∧ x.toInt < 4) (hn : 3 ≤ n.toInt) (hy : y.toInt = x.toInt / 2) : LogAt x n (n - y) 4 := by
  have hb := Int32.toInt_lt n
  have e5 : (n - y).toInt = n.toInt - y.toInt := Jvm.Kit.i32_sub (by omega) (by omega)
  by_cases q2 : x.toInt < 2
  · exact LogAt.mk 0 1 rfl (by omega) (by omega) (by omega) (by omega)
  · exact LogAt.mk 1 2 rfl (by omega) (by omega) (by omega) (by omega)
theorem own_61b (x n n' y : Int32) (hx : 4 ≤ x.toInt ∧ x.toInt < 16) (hn : 3 ≤ n.toInt) (hn' : n'.toInt = n.toInt - 2) (hy : y.toInt = x.toInt / 4 / 2) : LogAt x n (n' - y) 4 := by
  have hb := Int32.toInt_lt n
  have e5 : (n' - y).toInt = n'.toInt - y.toInt := Jvm.Kit.i32_sub (by omega) (by omega)
  by_cases q2 : x.toInt < 8
  · exact LogAt.mk 2 4 rfl (by omega) (by omega) (by omega) (by omega)
  · exact LogAt.mk 3 8 rfl (by omega) (by omega) (by omega) (by omega)
theorem own_s1 (x : Int32) (h : 0 ≤ x.toInt) : (XT.ushr x 1).toInt = x.toInt / 2 := ushr_pos (k := 1) h (by decide) (by decide)
theorem own_s2 (x : Int32) (h : 0 ≤ x.toInt) : (v20_72 x).toInt = x.toInt / 4 := ushr_pos (y := 2) (k := 2) h (by decide) (by decide)
theorem own_s3 (x : Int32) (h : 0 ≤ x.toInt) : (XT.ushr (v20_72 x) 1).toInt = x.toInt / 4 / 2 := by
  rw [own_s1 _ (by rw [own_s2 x h]; omega), own_s2 x h]
theorem own_n2 (n : Int32) (h : 3 ≤ n.toInt) : (v20_66 n).toInt = n.toInt - 2 := by
  have hb := Int32.toInt_lt n
  have cm : (-2 : Int32).toInt = -2 := rfl
  have e : (n + (-2 : Int32)).toInt = n.toInt + (-2 : Int32).toInt := Jvm.Kit.i32_add (by omega) (by omega)
  show (n + (-2 : Int32)).toInt = _
  omega
theorem own_61 (x n : Int32) (hx : 1 ≤ x.toInt ∧ x.toInt < 16) (hn : 3 ≤ n.toInt) : LogAt x n (f20_61 x n) 4 := by
  have c4 : (4 : Int32).toInt = 4 := rfl
  unfold f20_61
  by_cases q : x.toInt < 4
  · have q' : x < (4 : Int32) := by rw [i32lt, c4]; exact q
    rw [if_pos q']
    exact own_61a x n _ ⟨hx.1, q⟩ hn (own_s1 x (by omega))
  · have q' : ¬ x < (4 : Int32) := by rw [i32lt, c4]; exact q
    rw [if_neg q']
    exact own_61b x n _ _ ⟨by omega, hx.2⟩ hn (own_n2 n hn) (own_s3 x (by omega))
theorem own_up {x x' n n' r : Int32} {m j J : Nat} (hJ : J = 2 ^ j) (hx : x'.toInt = x.toInt / (J : Int)) (h0 : 0 < J) (hn : n'.toInt = n.toInt - j) (L : LogAt x' n' r m) : LogAt x n r (m + j) := by
  obtain ⟨k, P, hP, hk, h1, h2, h3⟩ := L
  have hq := quot (a := x.toInt) (b := (J : Int)) (by omega)
  refine LogAt.mk (k + j) (P * J) (by rw [hP, hJ, Nat.pow_add]) (by omega) ?_ ?_ (by omega)
  · have z : (P : Int) * (J : Int) ≤ x'.toInt * (J : Int) := Int.mul_le_mul_of_nonneg_right h1 (by omega)
    rw [hx, Int.mul_comm (x.toInt / (J : Int))] at z
    rw [Int.natCast_mul]; omega
  · have z : (x'.toInt + 1) * (J : Int) ≤ 2 * (P : Int) * (J : Int) := Int.mul_le_mul_of_nonneg_right (by omega) (by omega)
    rw [Int.add_mul, hx, Int.mul_comm (x.toInt / (J : Int)), Int.mul_assoc] at z
    rw [Int.natCast_mul]; omega
theorem own_more {x n r : Int32} {m m' : Nat} (L : LogAt x n r m) (h : m ≤ m') : LogAt x n r m' := by
  obtain ⟨k, P, hP, hk, h1, h2, h3⟩ := L
  exact LogAt.mk k P hP (by omega) h1 h2 h3
theorem own_48 (x n : Int32) (hx : 1 ≤ x.toInt ∧ x.toInt < 256) (hn : 7 ≤ n.toInt) : LogAt x n (f20_48 x n) 8 := by
  have hb := Int32.toInt_lt n
  have c : (16 : Int32).toInt = 16 := rfl
  unfold f20_48
  by_cases q : x.toInt < 16
  · have q' : x < (16 : Int32) := by rw [i32lt, c]; exact q
    rw [if_pos q']
    exact own_more (own_61 x n (by omega) (by omega)) (by omega)
  · have q' : ¬ x < (16 : Int32) := by rw [i32lt, c]; exact q
    rw [if_neg q']
    have e1 : (v20_60 x).toInt = x.toInt / 2 ^ 4 := ushr_pos (y := 4) (by omega) (by decide) (by decide)
    have cm : (-4 : Int32).toInt = -4 := rfl
    have e2 : (v20_54 n).toInt = n.toInt + (-4 : Int32).toInt := Jvm.Kit.i32_add (by omega) (by omega)
    exact own_up (x := x) (n := n) (j := 4) (J := 16) rfl (by omega) (by omega) (by omega) (own_61 (v20_60 x) (v20_54 n) (by omega) (by omega))
theorem own_33 (x n : Int32) (hx : 1 ≤ x.toInt ∧ x.toInt < 65536) (hn : 15 ≤ n.toInt) : LogAt x n (f20_33 x n) 16 := by
  have hb := Int32.toInt_lt n
  have c : (256 : Int32).toInt = 256 := rfl
  unfold f20_33
  by_cases q : x.toInt < 256
  · have q' : x < (256 : Int32) := by rw [i32lt, c]; exact q
    rw [if_pos q']
    exact own_more (own_48 x n (by omega) (by omega)) (by omega)
  · have q' : ¬ x < (256 : Int32) := by rw [i32lt, c]; exact q
    rw [if_neg q']
    have e1 : (v20_47 x).toInt = x.toInt / 2 ^ 8 := ushr_pos (y := 8) (by omega) (by decide) (by decide)
    have cm : (-8 : Int32).toInt = -8 := rfl
    have e2 : (v20_40 n).toInt = n.toInt + (-8 : Int32).toInt := Jvm.Kit.i32_add (by omega) (by omega)
    exact own_up (x := x) (n := n) (j := 8) (J := 256) rfl (by omega) (by omega) (by omega) (own_48 (v20_47 x) (v20_40 n) (by omega) (by omega))
theorem own_nlz (x : Int32) (hx : 1 ≤ x.toInt) : LogAt x 31 (r20 x) 31 := by
  have hb := Int32.toInt_lt x
  have c : (65536 : Int32).toInt = 65536 := rfl
  have c0 : (0 : Int32).toInt = 0 := rfl
  have c31 : (31 : Int32).toInt = 31 := rfl
  have c15 : (15 : Int32).toInt = 15 := rfl
  unfold r20 f20_0
  have q0 : (0 : Int32) < x := by rw [i32lt, c0]; omega
  rw [if_pos q0]
  by_cases q : x.toInt < 65536
  · have q' : x < (65536 : Int32) := by rw [i32lt, c]; exact q
    rw [if_pos q']
    exact own_more (own_33 x 31 (by omega) (by omega)) (by omega)
  · have q' : ¬ x < (65536 : Int32) := by rw [i32lt, c]; exact q
    rw [if_neg q']
    have e1 : (v20_32 x).toInt = x.toInt / 2 ^ 16 := ushr_pos (y := 16) (by omega) (by decide) (by decide)
    obtain ⟨k, P, hP, hk, h1, h2, h3⟩ := own_up (x := x) (x' := v20_32 x) (n := 31) (n' := 15) (j := 16) (J := 65536) rfl (by omega) (by omega) (by omega) (own_33 (v20_32 x) 15 (by omega) (by omega))
    refine LogAt.mk k P hP ?_ h1 h2 h3
    by_cases z : k < 31
    · exact z
    · have z2 : 2 ^ 31 ≤ 2 ^ k := Nat.pow_le_pow_right (by omega) (by omega)
      rw [← hP] at z2
      omega
/-- the bits that a size wants -/
def Bits (s b : Int32) (β P : Nat) : Prop := P = 2 ^ β ∧ b.toInt = β ∧ β ≤ 31 ∧ s.toInt ≤ (P : Int) ∧ (P : Int) - 1 ≤ 2 * (s.toInt - 1)
theorem own_bits (s : Int32) (h : 1 ≤ s.toInt) : ∃ β P : Nat, Bits s (32 - r20 (s - 1)) β P := by
  have hb := Int32.toInt_lt s
  have c1 : (1 : Int32).toInt = 1 := rfl
  have c32 : (32 : Int32).toInt = 32 := rfl
  have e : (s - 1).toInt = s.toInt - (1 : Int32).toInt := Jvm.Kit.i32_sub (by omega) (by omega)
  by_cases q : s.toInt = 1
  · have z : s - 1 = 0 := by
      rw [i32eq, e, q]; rfl
    have r : r20 0 = 32 := by decide
    refine ⟨0, 1, rfl, ?_, by omega, by omega, by omega⟩
    rw [z, r]; rfl
  · obtain ⟨k, P, hP, hk, h1, h2, h3⟩ := own_nlz (s - 1) (by omega)
    have c31 : (31 : Int32).toInt = 31 := rfl
    have e2 : ((32 : Int32) - r20 (s - 1)).toInt = (32 : Int32).toInt - (r20 (s - 1)).toInt := Jvm.Kit.i32_sub (by omega) (by omega)
    refine ⟨k + 1, P * 2, by rw [hP, Nat.pow_succ], by omega, by omega, by omega, by omega⟩
theorem own_size (x : Int32) : 1 ≤ (r1 x).toInt := by
  have c1 : (1 : Int32).toInt = 1 := rfl
  unfold r1 f1_0 r2 f2_0
  split
  · rename_i q; rw [i32lt] at q; omega
  · omega
theorem own_v (x s : Int32) (h : 1 ≤ s.toInt) : 0 ≤ (r21 x s).toInt ∧ (r21 x s).toInt < s.toInt := by
  unfold r21 f21_0
  have m := mask31 x
  exact rem32 (by omega) (by omega)
/-- where the four fields lie -/
theorem own_lay (q0 q1 : Int64) {β0 β1 β2 β3 : Nat} (h0 : (vs2213_84 q0).toInt = β0) (h1 : (vs2213_84b q0).toInt = β1) (h2 : (vs2213_84bb q1).toInt = β2) (h3 : (vs2213_84bbb q1).toInt = β3) (l0 : β0 ≤ 31) (l1 : β1 ≤ 31) (l2 : β2 ≤ 31) (l3 : β3 ≤ 31) :
    ∃ η2 η3 : Nat, vs2213_100 q0 = 0 ∧ vs2213_100b q0 = 0 ∧ (vs2213_100bb q0).toInt = β0 ∧ (vs2213_100bbbb q0 q1).toInt = η2 ∧ (vs2213_100bbbbbb q0 q1).toInt = η3 ∧ η2 + β2 ≤ 64 ∧ η3 + β3 ≤ 64 ∧
      ((vs2213_100bbb q0 q1 = 0 ∧ vs2213_100bbbbb q0 q1 = 0 ∧ β0 + β1 ≤ η2 ∧ η2 + β2 ≤ η3) ∨ (vs2213_100bbb q0 q1 = 0 ∧ vs2213_100bbbbb q0 q1 = 1 ∧ β0 + β1 ≤ η2) ∨ (vs2213_100bbb q0 q1 = 1 ∧ vs2213_100bbbbb q0 q1 = 1 ∧ η2 + β2 ≤ η3)) := by
  have c0 : (0 : Int32).toInt = 0 := rfl
  have c1 : (1 : Int32).toInt = 1 := rfl
  have c64 : (64 : Int32).toInt = 64 := rfl
  have s0 : ((0 : Int32) + vs2213_84 q0).toInt = (0 : Int32).toInt + (vs2213_84 q0).toInt := Jvm.Kit.i32_add (by omega) (by omega)
  have w0 : vs2213_100 q0 = 0 := by unfold vs2213_100; exact if_neg (by rw [i32lt]; omega)
  have s1 : (vs2213_133 q0).toInt = β0 := by show ((0 : Int32) + vs2213_84 q0).toInt = β0; omega
  have t1 : (vs2213_133 q0 + vs2213_84b q0).toInt = (vs2213_133 q0).toInt + (vs2213_84b q0).toInt := Jvm.Kit.i32_add (by omega) (by omega)
  have n1 : ¬ (64 : Int32) < (vs2213_133 q0 + vs2213_84b q0) := by rw [i32lt]; omega
  have w1 : vs2213_100b q0 = 0 := by unfold vs2213_100b; rw [if_neg n1]; exact w0
  have g1 : vs2213_100bb q0 = vs2213_133 q0 := by unfold vs2213_100bb; exact if_neg n1
  have s2 : (vs2213_133b q0).toInt = ((β0 + β1 : Nat) : Int) := by
    have z : (vs2213_100bb q0 + vs2213_84b q0).toInt = (vs2213_100bb q0).toInt + (vs2213_84b q0).toInt := Jvm.Kit.i32_add (by rw [g1]; omega) (by rw [g1]; omega)
    show (vs2213_100bb q0 + vs2213_84b q0).toInt = _
    rw [z, g1]; omega
  have t2 : (vs2213_133b q0 + vs2213_84bb q1).toInt = (vs2213_133b q0).toInt + (vs2213_84bb q1).toInt := Jvm.Kit.i32_add (by omega) (by omega)
  by_cases c2 : (64 : Int32) < (vs2213_133b q0 + vs2213_84bb q1)
  · have w2 : vs2213_100bbb q0 q1 = 1 := by unfold vs2213_100bbb; rw [if_pos c2, w1]; rfl
    have g2 : vs2213_100bbbb q0 q1 = 0 := by unfold vs2213_100bbbb; exact if_pos c2
    have s3 : (vs2213_133bb q0 q1).toInt = β2 := by
      have z : ((0 : Int32) + vs2213_84bb q1).toInt = (0 : Int32).toInt + (vs2213_84bb q1).toInt := Jvm.Kit.i32_add (by omega) (by omega)
      show (vs2213_100bbbb q0 q1 + vs2213_84bb q1).toInt = _
      rw [g2, z]; omega
    have t3 : (vs2213_133bb q0 q1 + vs2213_84bbb q1).toInt = (vs2213_133bb q0 q1).toInt + (vs2213_84bbb q1).toInt := Jvm.Kit.i32_add (by omega) (by omega)
    have n3 : ¬ (64 : Int32) < (vs2213_133bb q0 q1 + vs2213_84bbb q1) := by rw [i32lt]; omega
    have w3 : vs2213_100bbbbb q0 q1 = 1 := by unfold vs2213_100bbbbb; rw [if_neg n3]; exact w2
    have g3 : vs2213_100bbbbbb q0 q1 = vs2213_133bb q0 q1 := by unfold vs2213_100bbbbbb; exact if_neg n3
    exact ⟨0, β2, w0, w1, by rw [g1]; exact s1, by rw [g2]; rfl, by rw [g3]; exact s3, by omega, by omega, Or.inr (Or.inr ⟨w2, w3, by omega⟩)⟩
  · have c2' := c2
    rw [i32lt] at c2'
    have w2 : vs2213_100bbb q0 q1 = 0 := by unfold vs2213_100bbb; rw [if_neg c2]; exact w1
    have g2 : vs2213_100bbbb q0 q1 = vs2213_133b q0 := by unfold vs2213_100bbbb; exact if_neg c2
    have s3 : (vs2213_133bb q0 q1).toInt = ((β0 + β1 + β2 : Nat) : Int) := by
      have z : (vs2213_100bbbb q0 q1 + vs2213_84bb q1).toInt = (vs2213_100bbbb q0 q1).toInt + (vs2213_84bb q1).toInt := Jvm.Kit.i32_add (by rw [g2]; omega) (by rw [g2]; omega)
      show (vs2213_100bbbb q0 q1 + vs2213_84bb q1).toInt = _
      rw [z, g2]; omega
    have t3 : (vs2213_133bb q0 q1 + vs2213_84bbb q1).toInt = (vs2213_133bb q0 q1).toInt + (vs2213_84bbb q1).toInt := Jvm.Kit.i32_add (by omega) (by omega)
    by_cases c3 : (64 : Int32) < (vs2213_133bb q0 q1 + vs2213_84bbb q1)
    · have w3 : vs2213_100bbbbb q0 q1 = 1 := by unfold vs2213_100bbbbb; rw [if_pos c3, w2]; rfl
      have g3 : vs2213_100bbbbbb q0 q1 = 0 := by unfold vs2213_100bbbbbb; exact if_pos c3
      exact ⟨β0 + β1, 0, w0, w1, by rw [g1]; exact s1, by rw [g2]; exact s2, by rw [g3]; rfl, by omega, by omega, Or.inr (Or.inl ⟨w2, w3, by omega⟩)⟩
    · have c3' := c3
      rw [i32lt] at c3'
      have w3 : vs2213_100bbbbb q0 q1 = 0 := by unfold vs2213_100bbbbb; rw [if_neg c3]; exact w2
      have g3 : vs2213_100bbbbbb q0 q1 = vs2213_133bb q0 q1 := by unfold vs2213_100bbbbbb; exact if_neg c3
      exact ⟨β0 + β1, β0 + β1 + β2, w0, w1, by rw [g1]; exact s1, by rw [g2]; exact s2, by rw [g3]; exact s3, by omega, by omega, Or.inl ⟨w2, w3, by omega, by omega⟩⟩
theorem own_updS {α : Type} (f : Nat → α) (j : Nat) (v : α) : updN f j v j = v := by unfold updN; exact if_pos rfl
theorem own_updO {α : Type} (f : Nat → α) {i j : Nat} (v : α) (h : ¬ i = j) : updN f j v i = f i := by unfold updN; exact if_neg h
theorem own_c0 : (0 : Int32).toNatClampNeg = 0 := by decide
theorem own_c1 : (1 : Int32).toNatClampNeg = 1 := by decide
/-- what a field's word holds at a place -/
def FB (v : Int32) (η β : Nat) (i : Nat) : Bool := decide (η ≤ i) && decide (i < η + β) && v.toInt64.toBitVec.getLsbD (i - η)
theorem own_vn (v : Int32) {β P : Nat} (hP : P = 2 ^ β) (hv : 0 ≤ v.toInt ∧ v.toInt < (P : Int)) : v.toInt64.toBitVec.toNat < 2 ^ β := by
  have e := Jvm.Kit.i64_of_i32 v
  exact nat64lt (by omega) (by rw [← hP]; omega)
theorem own_F (v sh : Int32) {η β P : Nat} (hP : P = 2 ^ β) (hv : 0 ≤ v.toInt ∧ v.toInt < (P : Int)) (hs : sh.toInt = η) (h64 : η + β ≤ 64) {i : Nat} (hi : i < 64) : (v.toInt64 <<< (sh.toInt64 &&& 63)).toBitVec.getLsbD i = FB v η β i := by
  have hn := own_vn v hP hv
  unfold FB
  by_cases q : β = 0
  · subst q
    have z : v = 0 := by
      rw [i32eq]; have c0 : (0 : Int32).toInt = 0 := rfl
      have hp : P = 1 := hP
      omega
    have z2 : ((0 : Int32).toInt64 : Int64) = 0 := by decide
    have z3 : ∀ y : Int64, (0 : Int64) <<< y = 0 := by
      intro y
      apply Int64.toBitVec_inj.mp
      rw [Int64.toBitVec_shiftLeft]
      show (0#64) <<< _ = 0#64
      simp
    rw [z, z2, z3, bZero]
    have q2 : ¬ (η ≤ i ∧ i < η + 0) := by omega
    by_cases q3 : η ≤ i
    · have q4 : ¬ i < η + 0 := by omega
      simp [q4]
    · simp [q3]
  · rw [bShl _ sh hs (by omega) hi]
    by_cases q3 : η ≤ i
    · by_cases q4 : i < η + β
      · simp [q3, q4]
      · rw [bTop hn (show β ≤ i - η by omega)]
        simp
    · simp [q3]
theorem own_M (b : Int32) {β : Nat} (hb : b.toInt = β) (h31 : β ≤ 31) {i : Nat} (hi : i < 64) : (((1 : Int64) <<< (b.toInt64 &&& 63)) - 1).toBitVec.getLsbD i = decide (i < β) := by
  rw [amt b hb (by omega)]
  have h : ∀ (k : Fin 32) (j : Fin 64), (((1 : Int64) <<< Int64.ofNat k.val) - 1).toBitVec.getLsbD j.val = decide (j.val < k.val) := by decide +kernel
  exact h ⟨β, by omega⟩ ⟨i, hi⟩
theorem own_Mn (b : Int32) {β P : Nat} (hP : P = 2 ^ β) (hb : b.toInt = β) (h31 : β ≤ 31) : (((1 : Int64) <<< (b.toInt64 &&& 63)) - 1).toBitVec.toNat = P - 1 := by
  rw [amt b hb (by omega), hP]
  have h : ∀ (k : Fin 32), (((1 : Int64) <<< Int64.ofNat k.val) - 1).toBitVec.toNat = 2 ^ k.val - 1 := by decide +kernel
  exact h ⟨β, by omega⟩
/-- a word that holds the field v at η, and nothing else of its bits, gives v back -/
theorem own_read (T : Int64) (v sh b : Int32) {η β P : Nat} (hP : P = 2 ^ β) (hv : 0 ≤ v.toInt ∧ v.toInt < (P : Int)) (hs : sh.toInt = η) (hb : b.toInt = β) (h31 : β ≤ 31) (h64 : η + β ≤ 64) (hT : ∀ i, η ≤ i → i < η + β → T.toBitVec.getLsbD i = v.toInt64.toBitVec.getLsbD (i - η)) : ((XT.ushrL T sh) &&& (((1 : Int64) <<< (b.toInt64 &&& 63)) - (1 : Int64))).toInt32 = v := by
  have hn := own_vn v hP hv
  have e : ((XT.ushrL T sh) &&& (((1 : Int64) <<< (b.toInt64 &&& 63)) - (1 : Int64))) = v.toInt64 := by
    apply bitsEq
    intro i hi
    rw [bAnd, own_M b hb h31 hi]
    by_cases q : i < β
    · rw [bShr T sh hs (by omega), hT (η + i) (by omega) (by omega)]
      have q3 : η + i - η = i := by omega
      simp [q, q3]
    · rw [bTop hn (show β ≤ i by omega)]
      simp [q]
  rw [e, back64I]
theorem own_bound (T : Int64) (sh b s : Int32) {β P : Nat} (h : Bits s b β P) (hs1 : 1 ≤ s.toInt) : ¬ (r25 (((XT.ushrL T sh) &&& (((1 : Int64) <<< (b.toInt64 &&& 63)) - (1 : Int64))).toInt32) s) = (0 : Int32) := by
  obtain ⟨hP, hb, h31, hle, hge⟩ := h
  have hsb := Int32.toInt_lt s
  have hp31 : P ≤ 2 ^ 31 := by rw [hP]; exact Nat.pow_le_pow_right (by omega) h31
  have hp1 : 1 ≤ P := by rw [hP]; exact Nat.one_le_two_pow
  have e1 := own_Mn b hP hb h31
  have e2 : ((XT.ushrL T sh) &&& (((1 : Int64) <<< (b.toInt64 &&& 63)) - (1 : Int64))).toBitVec.toNat ≤ P - 1 := by
    show ((XT.ushrL T sh).toBitVec &&& (((1 : Int64) <<< (b.toInt64 &&& 63)) - (1 : Int64)).toBitVec).toNat ≤ _
    rw [BitVec.toNat_and, e1]; exact Nat.and_le_right
  generalize ((XT.ushrL T sh) &&& (((1 : Int64) <<< (b.toInt64 &&& 63)) - (1 : Int64))) = X at e2
  have e3 := int64nat e2 (by omega)
  have e4 : (X.toInt32).toInt = X.toInt := Jvm.Kit.i32_of_i64 (by omega) (by omega)
  have c0 : (0 : Int32).toInt = 0 := rfl
  have d1 : (1 : Int64).toInt = 1 := rfl
  have d2 : (2 : Int64).toInt = 2 := rfl
  have f1 := Jvm.Kit.i64_of_i32 s
  have f2 := Jvm.Kit.i64_of_i32 X.toInt32
  have f3 : (s.toInt64 - (1 : Int64)).toInt = s.toInt64.toInt - (1 : Int64).toInt := Jvm.Kit.i64_sub (by omega) (by omega)
  have f4 : ((2 : Int64) * (s.toInt64 - (1 : Int64))).toInt = (2 : Int64).toInt * (s.toInt64 - (1 : Int64)).toInt := Jvm.Kit.i64_mul (by rw [d2]; omega) (by rw [d2]; omega)
  rw [d2] at f4
  unfold r25 f25_0
  rw [if_neg (by rw [i32lt]; omega), if_neg (by rw [i64lt]; omega)]
  decide
/-- the tuple's words behind the four fields: bit by bit -/
theorem own_stepb (f : Nat → Int64) (W n : Nat) (F : Int64) (i : Nat) : (updN f W (f W ||| F) n).toBitVec.getLsbD i = ((f n).toBitVec.getLsbD i || (decide (n = W) && F.toBitVec.getLsbD i)) := by
  by_cases q : n = W
  · subst q; rw [own_updS, bOr]; simp
  · rw [own_updO _ _ q]; simp [q]
theorem own_start (n : Nat) : Gs4523_15b n = 0 := by
  unfold Gs4523_15b Gs4523_15 updN
  split
  · rfl
  · split <;> rfl
section Law
variable (q0 q1 : Int64) (p2 p3 p4 p5 : Int32)
theorem own_all {β0 β1 β2 β3 P0 P1 P2 P3 η2 η3 : Nat} (B0 : Bits (v0_8 q0) (vs2213_84 q0) β0 P0) (B1 : Bits (v0_15 q0) (vs2213_84b q0) β1 P1) (B2 : Bits (v0_25 q1) (vs2213_84bb q1) β2 P2) (B3 : Bits (v0_32 q1) (vs2213_84bbb q1) β3 P3)
    (e1 : (vs2213_100bb q0).toInt = β0) (e2 : (vs2213_100bbbb q0 q1).toInt = η2) (e3 : (vs2213_100bbbbbb q0 q1).toInt = η3) (h2 : η2 + β2 ≤ 64) (h3 : η3 + β3 ≤ 64) (n : Nat) {i : Nat} (hi : i < 64) :
    ((Gs4422_34bbb q0 p2 p3 q1 p4 p5) n).toBitVec.getLsbD i = ((((decide (n = (vs2213_100 q0).toNatClampNeg) && FB (r21 p2 (v0_8 q0)) 0 β0 i) || (decide (n = (vs2213_100b q0).toNatClampNeg) && FB (r21 p3 (v0_15 q0)) β0 β1 i)) || (decide (n = (vs2213_100bbb q0 q1).toNatClampNeg) && FB (r21 p4 (v0_25 q1)) η2 β2 i)) || (decide (n = (vs2213_100bbbbb q0 q1).toNatClampNeg) && FB (r21 p5 (v0_32 q1)) η3 β3 i)) := by
  have v0 := own_v p2 (v0_8 q0) (own_size _)
  have v1 := own_v p3 (v0_15 q0) (own_size _)
  have v2 := own_v p4 (v0_25 q1) (own_size _)
  have v3 := own_v p5 (v0_32 q1) (own_size _)
  have l0 := B0.2.2.2.1
  have l1 := B1.2.2.2.1
  have l2 := B2.2.2.2.1
  have l3 := B3.2.2.2.1
  have k0 := B0.2.2.1
  have k1 := B1.2.2.1
  unfold Gs4422_34bbb
  rw [own_stepb, own_F _ _ B3.1 ⟨v3.1, by omega⟩ e3 h3 hi]
  unfold Gs4422_34bb
  rw [own_stepb, own_F _ _ B2.1 ⟨v2.1, by omega⟩ e2 h2 hi]
  unfold Gs4422_34b
  rw [own_stepb, own_F _ _ B1.1 ⟨v1.1, by omega⟩ e1 (by omega) hi]
  unfold Gs4422_34
  rw [own_stepb, own_F _ (0 : Int32) B0.1 ⟨v0.1, by omega⟩ (η := 0) rfl (by omega) hi, own_start, bZero]
  simp
theorem own_four : ∃ β0 β1 β2 β3 P0 P1 P2 P3 η2 η3 : Nat, Bits (v0_8 q0) (vs2213_84 q0) β0 P0 ∧ Bits (v0_15 q0) (vs2213_84b q0) β1 P1 ∧ Bits (v0_25 q1) (vs2213_84bb q1) β2 P2 ∧ Bits (v0_32 q1) (vs2213_84bbb q1) β3 P3 ∧ vs2213_100 q0 = 0 ∧ vs2213_100b q0 = 0 ∧ (vs2213_100bb q0).toInt = β0 ∧ (vs2213_100bbbb q0 q1).toInt = η2 ∧ (vs2213_100bbbbbb q0 q1).toInt = η3 ∧ η2 + β2 ≤ 64 ∧ η3 + β3 ≤ 64 ∧
      ((vs2213_100bbb q0 q1 = 0 ∧ vs2213_100bbbbb q0 q1 = 0 ∧ β0 + β1 ≤ η2 ∧ η2 + β2 ≤ η3) ∨ (vs2213_100bbb q0 q1 = 0 ∧ vs2213_100bbbbb q0 q1 = 1 ∧ β0 + β1 ≤ η2) ∨ (vs2213_100bbb q0 q1 = 1 ∧ vs2213_100bbbbb q0 q1 = 1 ∧ η2 + β2 ≤ η3)) := by
  obtain ⟨β0, P0, B0⟩ := own_bits (v0_8 q0) (own_size _)
  obtain ⟨β1, P1, B1⟩ := own_bits (v0_15 q0) (own_size _)
  obtain ⟨β2, P2, B2⟩ := own_bits (v0_25 q1) (own_size _)
  obtain ⟨β3, P3, B3⟩ := own_bits (v0_32 q1) (own_size _)
  obtain ⟨η2, η3, r⟩ := own_lay q0 q1 B0.2.1 B1.2.1 B2.2.1 B3.2.1 B0.2.2.1 B1.2.2.1 B2.2.2.1 B3.2.2.1
  exact ⟨β0, β1, β2, β3, P0, P1, P2, P3, η2, η3, B0, B1, B2, B3, r⟩
theorem own_FBoff (v : Int32) {η β i : Nat} (h : i < η ∨ η + β ≤ i) : FB v η β i = false := by
  unfold FB
  rcases h with h | h
  · have q : ¬ η ≤ i := by omega
    simp [q]
  · have q : ¬ i < η + β := by omega
    simp [q]
theorem own_FBon (v : Int32) {η β i : Nat} (h1 : η ≤ i) (h2 : i < η + β) : FB v η β i = v.toInt64.toBitVec.getLsbD (i - η) := by
  unfold FB
  simp [h1, h2]
theorem own_in2 {w : Int32} (h : w = 0 ∨ w = 1) : InB w 2 := by
  rcases h with rfl | rfl <;> decide
theorem own_w2 : vs2213_100bbb q0 q1 = 0 ∨ vs2213_100bbb q0 q1 = 1 := by
  obtain ⟨β0, β1, β2, β3, P0, P1, P2, P3, η2, η3, B0, B1, B2, B3, w0, w1, e1, e2, e3, h2, h3, r⟩ := own_four q0 q1
  rcases r with r | r | r
  · exact Or.inl r.1
  · exact Or.inl r.1
  · exact Or.inr r.1
theorem own_w3 : vs2213_100bbbbb q0 q1 = 0 ∨ vs2213_100bbbbb q0 q1 = 1 := by
  obtain ⟨β0, β1, β2, β3, P0, P1, P2, P3, η2, η3, B0, B1, B2, B3, w0, w1, e1, e2, e3, h2, h3, r⟩ := own_four q0 q1
  rcases r with r | r | r
  · exact Or.inl r.2.1
  · exact Or.inr r.2.1
  · exact Or.inr r.2.1
theorem own_w0 : vs2213_100 q0 = 0 ∧ vs2213_100b q0 = 0 := by
  obtain ⟨β0, β1, β2, β3, P0, P1, P2, P3, η2, η3, B0, B1, B2, B3, w0, w1, -⟩ := own_four q0 q0
  exact ⟨w0, w1⟩
end Law
theorem own_nz {x : Int32} (h : 1 ≤ x.toInt) : x ≠ 0 := by
  intro q; rw [q] at h; exact absurd h (by decide)
theorem ex0_142 (q0 : Int64) : (v0_8 q0) ≠ 0 := own_nz (own_size _)
theorem ex0_153 (q0 : Int64) : (v0_15 q0) ≠ 0 := own_nz (own_size _)
theorem ex0_164 (q1 : Int64) : (v0_25 q1) ≠ 0 := own_nz (own_size _)
theorem ex0_175 (q1 : Int64) : (v0_32 q1) ≠ 0 := own_nz (own_size _)
theorem br0_215 (q0 : Int64) (p2 : Int32) (p3 : Int32) (q1 : Int64) (p4 : Int32) (p5 : Int32) : (((XT.ushrL ((Gs4422_34bbb q0 p2 p3 q1 p4 p5) ((vs2213_100 q0)).toNatClampNeg) (0 : Int32)) &&& (((1 : Int64) <<< ((vs2213_84 q0).toInt64 &&& 63)) - (1 : Int64))).toInt32) = (r21 p2 (v0_8 q0)) := by
  obtain ⟨β0, β1, β2, β3, P0, P1, P2, P3, η2, η3, B0, B1, B2, B3, w0, w1, e1, e2, e3, h2, h3, r⟩ := own_four q0 q1
  have v := own_v p2 (v0_8 q0) (own_size _)
  have k0 := B0.2.2.1
  have k1 := B1.2.2.1
  have l := B0.2.2.2.1
  refine own_read _ _ _ _ B0.1 ⟨v.1, by omega⟩ (η := 0) rfl B0.2.1 B0.2.2.1 (by omega) (fun i i1 i2 => ?_)
  rw [own_all q0 q1 p2 p3 p4 p5 B0 B1 B2 B3 e1 e2 e3 h2 h3 _ (by omega), w0, w1, own_FBon _ i1 i2, own_FBoff _ (Or.inl (by omega : i < β0))]
  rcases r with ⟨a, b, r1, r2⟩ | ⟨a, b, r1⟩ | ⟨a, b, r1⟩
  · rw [a, b, own_FBoff _ (Or.inl (by omega : i < η2)), own_FBoff _ (Or.inl (by omega : i < η3))]; simp
  · rw [a, b, own_FBoff _ (Or.inl (by omega : i < η2)), own_c0, own_c1]; simp
  · rw [a, b, own_c0, own_c1]; simp
theorem br0_226 (q0 : Int64) (p2 : Int32) (p3 : Int32) (q1 : Int64) (p4 : Int32) (p5 : Int32) : (((XT.ushrL ((Gs4422_34bbb q0 p2 p3 q1 p4 p5) ((vs2213_100b q0)).toNatClampNeg) (vs2213_100bb q0)) &&& (((1 : Int64) <<< ((vs2213_84b q0).toInt64 &&& 63)) - (1 : Int64))).toInt32) = (r21 p3 (v0_15 q0)) := by
  obtain ⟨β0, β1, β2, β3, P0, P1, P2, P3, η2, η3, B0, B1, B2, B3, w0, w1, e1, e2, e3, h2, h3, r⟩ := own_four q0 q1
  have v := own_v p3 (v0_15 q0) (own_size _)
  have k0 := B0.2.2.1
  have k1 := B1.2.2.1
  have l := B1.2.2.2.1
  refine own_read _ _ _ _ B1.1 ⟨v.1, by omega⟩ e1 B1.2.1 B1.2.2.1 (by omega) (fun i i1 i2 => ?_)
  rw [own_all q0 q1 p2 p3 p4 p5 B0 B1 B2 B3 e1 e2 e3 h2 h3 _ (by omega), w0, w1, own_FBon _ i1 i2, own_FBoff _ (Or.inr (by omega : 0 + β0 ≤ i))]
  rcases r with ⟨a, b, r1, r2⟩ | ⟨a, b, r1⟩ | ⟨a, b, r1⟩
  · rw [a, b, own_FBoff _ (Or.inl (by omega : i < η2)), own_FBoff _ (Or.inl (by omega : i < η3))]; simp
  · rw [a, b, own_FBoff _ (Or.inl (by omega : i < η2)), own_c0, own_c1]; simp
  · rw [a, b, own_c0, own_c1]; simp
theorem br0_237 (q0 : Int64) (q1 : Int64) (p2 : Int32) (p3 : Int32) (p4 : Int32) (p5 : Int32) : (((XT.ushrL ((Gs4422_34bbb q0 p2 p3 q1 p4 p5) ((vs2213_100bbb q0 q1)).toNatClampNeg) (vs2213_100bbbb q0 q1)) &&& (((1 : Int64) <<< ((vs2213_84bb q1).toInt64 &&& 63)) - (1 : Int64))).toInt32) = (r21 p4 (v0_25 q1)) := by
  obtain ⟨β0, β1, β2, β3, P0, P1, P2, P3, η2, η3, B0, B1, B2, B3, w0, w1, e1, e2, e3, h2, h3, r⟩ := own_four q0 q1
  have v := own_v p4 (v0_25 q1) (own_size _)
  have k2 := B2.2.2.1
  have l := B2.2.2.2.1
  refine own_read _ _ _ _ B2.1 ⟨v.1, by omega⟩ e2 B2.2.1 B2.2.2.1 h2 (fun i i1 i2 => ?_)
  rw [own_all q0 q1 p2 p3 p4 p5 B0 B1 B2 B3 e1 e2 e3 h2 h3 _ (by omega), w0, w1, own_FBon _ i1 i2]
  rcases r with ⟨a, b, r1, r2⟩ | ⟨a, b, r1⟩ | ⟨a, b, r1⟩
  · rw [a, b, own_FBoff _ (Or.inr (by omega : 0 + β0 ≤ i)), own_FBoff _ (Or.inr (by omega : β0 + β1 ≤ i)), own_FBoff _ (Or.inl (by omega : i < η3))]; simp
  · rw [a, b, own_FBoff _ (Or.inr (by omega : 0 + β0 ≤ i)), own_FBoff _ (Or.inr (by omega : β0 + β1 ≤ i)), own_c0, own_c1]; simp
  · rw [a, b, own_FBoff _ (Or.inl (by omega : i < η3)), own_c0, own_c1]; simp
theorem br0_248 (q0 : Int64) (q1 : Int64) (p2 : Int32) (p3 : Int32) (p4 : Int32) (p5 : Int32) : (((XT.ushrL ((Gs4422_34bbb q0 p2 p3 q1 p4 p5) ((vs2213_100bbbbb q0 q1)).toNatClampNeg) (vs2213_100bbbbbb q0 q1)) &&& (((1 : Int64) <<< ((vs2213_84bbb q1).toInt64 &&& 63)) - (1 : Int64))).toInt32) = (r21 p5 (v0_32 q1)) := by
  obtain ⟨β0, β1, β2, β3, P0, P1, P2, P3, η2, η3, B0, B1, B2, B3, w0, w1, e1, e2, e3, h2, h3, r⟩ := own_four q0 q1
  have v := own_v p5 (v0_32 q1) (own_size _)
  have k3 := B3.2.2.1
  have l := B3.2.2.2.1
  refine own_read _ _ _ _ B3.1 ⟨v.1, by omega⟩ e3 B3.2.1 B3.2.2.1 h3 (fun i i1 i2 => ?_)
  rw [own_all q0 q1 p2 p3 p4 p5 B0 B1 B2 B3 e1 e2 e3 h2 h3 _ (by omega), w0, w1, own_FBon _ i1 i2]
  rcases r with ⟨a, b, r1, r2⟩ | ⟨a, b, r1⟩ | ⟨a, b, r1⟩
  · rw [a, b, own_FBoff _ (Or.inr (by omega : 0 + β0 ≤ i)), own_FBoff _ (Or.inr (by omega : β0 + β1 ≤ i)), own_FBoff _ (Or.inr (by omega : η2 + β2 ≤ i))]; simp
  · rw [a, b, own_c0, own_c1]; simp
  · rw [a, b, own_FBoff _ (Or.inr (by omega : η2 + β2 ≤ i)), own_c0, own_c1]; simp
theorem br0_318 (q0 : Int64) (p2 : Int32) (p3 : Int32) (q1 : Int64) (p4 : Int32) (p5 : Int32) : ¬ ((r25 (((XT.ushrL ((G0_294 q0 p2 p3 q1 p4 p5) ((vs2213_100 q0)).toNatClampNeg) (0 : Int32)) &&& (((1 : Int64) <<< ((vs2213_84 q0).toInt64 &&& 63)) - (1 : Int64))).toInt32) (v0_8 q0)) = (0 : Int32)) := by
  obtain ⟨β, P, B⟩ := own_bits (v0_8 q0) (own_size _)
  exact own_bound _ _ _ _ B (own_size _)
theorem br0_330 (q0 : Int64) (p2 : Int32) (p3 : Int32) (q1 : Int64) (p4 : Int32) (p5 : Int32) : ¬ ((r25 (((XT.ushrL ((G0_294 q0 p2 p3 q1 p4 p5) ((vs2213_100b q0)).toNatClampNeg) (vs2213_100bb q0)) &&& (((1 : Int64) <<< ((vs2213_84b q0).toInt64 &&& 63)) - (1 : Int64))).toInt32) (v0_15 q0)) = (0 : Int32)) := by
  obtain ⟨β, P, B⟩ := own_bits (v0_15 q0) (own_size _)
  exact own_bound _ _ _ _ B (own_size _)
theorem br0_342 (q0 : Int64) (q1 : Int64) (p2 : Int32) (p3 : Int32) (p4 : Int32) (p5 : Int32) : ¬ ((r25 (((XT.ushrL ((G0_294 q0 p2 p3 q1 p4 p5) ((vs2213_100bbb q0 q1)).toNatClampNeg) (vs2213_100bbbb q0 q1)) &&& (((1 : Int64) <<< ((vs2213_84bb q1).toInt64 &&& 63)) - (1 : Int64))).toInt32) (v0_25 q1)) = (0 : Int32)) := by
  obtain ⟨β, P, B⟩ := own_bits (v0_25 q1) (own_size _)
  exact own_bound _ _ _ _ B (own_size _)
theorem br0_354 (q0 : Int64) (q1 : Int64) (p2 : Int32) (p3 : Int32) (p4 : Int32) (p5 : Int32) : ¬ ((r25 (((XT.ushrL ((G0_294 q0 p2 p3 q1 p4 p5) ((vs2213_100bbbbb q0 q1)).toNatClampNeg) (vs2213_100bbbbbb q0 q1)) &&& (((1 : Int64) <<< ((vs2213_84bbb q1).toInt64 &&& 63)) - (1 : Int64))).toInt32) (v0_32 q1)) = (0 : Int32)) := by
  obtain ⟨β, P, B⟩ := own_bits (v0_32 q1) (own_size _)
  exact own_bound _ _ _ _ B (own_size _)
theorem ibs4422_21 (q0 : Int64) : InB (vs2213_100 q0) 2 := own_in2 (Or.inl (own_w0 q0).1)
theorem ibs4422_34 (q0 : Int64) : InB (vs2213_100 q0) 2 := own_in2 (Or.inl (own_w0 q0).1)
theorem ibs4422_21z (q0 : Int64) : InB (vs2213_100b q0) 2 := own_in2 (Or.inl (own_w0 q0).2)
theorem ibs4422_34z (q0 : Int64) : InB (vs2213_100b q0) 2 := own_in2 (Or.inl (own_w0 q0).2)
theorem ibs4422_21zz (q0 : Int64) (q1 : Int64) : InB (vs2213_100bbb q0 q1) 2 := own_in2 (own_w2 q0 q1)
theorem ibs4422_34zz (q0 : Int64) (q1 : Int64) : InB (vs2213_100bbb q0 q1) 2 := own_in2 (own_w2 q0 q1)
theorem ibs4422_21zzz (q0 : Int64) (q1 : Int64) : InB (vs2213_100bbbbb q0 q1) 2 := own_in2 (own_w3 q0 q1)
theorem ibs4422_34zzz (q0 : Int64) (q1 : Int64) : InB (vs2213_100bbbbb q0 q1) 2 := own_in2 (own_w3 q0 q1)
theorem ibs4624_17 (q0 : Int64) : InB (vs2213_100 q0) 2 := own_in2 (Or.inl (own_w0 q0).1)
theorem ibs4624_17z (q0 : Int64) : InB (vs2213_100b q0) 2 := own_in2 (Or.inl (own_w0 q0).2)
theorem ibs4624_17zz (q0 : Int64) (q1 : Int64) : InB (vs2213_100bbb q0 q1) 2 := own_in2 (own_w2 q0 q1)
theorem ibs4624_17zzz (q0 : Int64) (q1 : Int64) : InB (vs2213_100bbbbb q0 q1) 2 := own_in2 (own_w3 q0 q1)
theorem ibs4724_17 (q0 : Int64) : InB (vs2213_100 q0) 2 := own_in2 (Or.inl (own_w0 q0).1)
theorem ibs4724_17z (q0 : Int64) : InB (vs2213_100b q0) 2 := own_in2 (Or.inl (own_w0 q0).2)
theorem ibs4724_17zz (q0 : Int64) (q1 : Int64) : InB (vs2213_100bbb q0 q1) 2 := own_in2 (own_w2 q0 q1)
theorem ibs4724_17zzz (q0 : Int64) (q1 : Int64) : InB (vs2213_100bbbbb q0 q1) 2 := own_in2 (own_w3 q0 q1)
def Q24s47 (Z : State) (q0 : Int64) (q1 : Int64) (p2 : Int32) (p3 : Int32) (p4 : Int32) (p5 : Int32) (b21606 : Addr) (b23626 : Addr) (b23641 : Addr) (b23662 : Addr) (b47258 : Addr) (b47272 : Addr) (h0 : Heap) (n0 : Nat) : Option Value → Heap → List Loc → Prop := fun v h L => v = none ∧ Fr n0 L ∧ Keep h0 h [b47272] ∧ Ary Z h b47272 .int 4 (fun i => .int ((Gs4724_33bbb q0 p2 p3 q1 p4 p5) i))
abbrev Las4724_0 (b21606 : Addr) (b47258 : Addr) (b47272 : Addr) : Array Slot := #[.val (.ref b21606), .val (.ref b47258), .val (.ref b47272), .val (.int (0 : Int32))]
abbrev Las4724_1 (b21606 : Addr) (b47258 : Addr) (b47272 : Addr) : Array Slot := #[.val (.ref b21606), .val (.ref b47258), .val (.ref b47272), .val (.int (1 : Int32))]
abbrev Las4724_2 (b21606 : Addr) (b47258 : Addr) (b47272 : Addr) : Array Slot := #[.val (.ref b21606), .val (.ref b47258), .val (.ref b47272), .val (.int (2 : Int32))]
abbrev Las4724_3 (b21606 : Addr) (b47258 : Addr) (b47272 : Addr) : Array Slot := #[.val (.ref b21606), .val (.ref b47258), .val (.ref b47272), .val (.int (3 : Int32))]
abbrev Las4724_4 (b21606 : Addr) (b47258 : Addr) (b47272 : Addr) : Array Slot := #[.val (.ref b21606), .val (.ref b47258), .val (.ref b47272), .val (.int (4 : Int32))]
set_option maxRecDepth 65536 in
set_option maxHeartbeats 40000000 in
theorem rm24s47 (l : Launch) (Z : State) (a0 : Array Value) (hw : ∀ d ∈ tables_1, d.before a0 Z = true) (ws : List Jvm.Cond) (q0 : Int64) (q1 : Int64) (p2 : Int32) (p3 : Int32) (p4 : Int32) (p5 : Int32) (b21606 : Addr) (b23626 : Addr) (b23641 : Addr) (b23662 : Addr) (b47258 : Addr) (b47272 : Addr) (h0 : Heap) (n0 : Nat) (Z0 : n0 ≤ h0.size) (F_m_word_b21606 : Fld Z h0 b21606 "com/example/ken2/ken2/StateLayout" "m_word" "[I" (.ref b23626)) (F_m_shift_b21606 : Fld Z h0 b21606 "com/example/ken2/ken2/StateLayout" "m_shift" "[I" (.ref b23641)) (F_m_mask_b21606 : Fld Z h0 b21606 "com/example/ken2/ken2/StateLayout" "m_mask" "[J" (.ref b23662)) (A_b23626 : Ary Z h0 b23626 .int 4 (fun i => .int ((Gs2213_107bbb q0 q1) i))) (A_b23641 : Ary Z h0 b23641 .int 4 (fun i => .int ((Gs2213_115bbb q0 q1) i))) (A_b23662 : Ary Z h0 b23662 .long 4 (fun i => .long ((Gs2213_128bbb q0 q1) i))) (A_b47258 : Ary Z h0 b47258 .long 2 (fun i => .long ((G0_294 q0 p2 p3 q1 p4 p5) i))) (A_b47272 : Ary Z h0 b47272 .int 4 (fun i => .int ((fun _ => (0 : Int32)) i))) (g_b47272 : n0 ≤ b47272) (ne_b21606_b47272 : b21606 ≠ b47272) (ne_b23626_b47272 : b23626 ≠ b47272) (ne_b23641_b47272 : b23641 ≠ b47272) (ne_b23662_b47272 : b23662 ≠ b47272) (ne_b47258_b47272 : b47258 ≠ b47272) :
    MetFree l Y24 (head1 (Jvm.Cond.code Y24 prog_112_method_4_code 4 none :: ws) ({ frames := 0, cells := 0, slots := 0, locals := 0 } : Room)) (fun a U => a = #[(.ref b21606), (.ref b47258), (.ref b47272)] ∧ Z.Warmed39 U.vm ∧ U.heap = h0) (fun _ _ _ _ _ => True) (fun _ U o U' => ∃ v L, o = .returned v ∧ (Q24s47 Z q0 q1 p2 p3 p4 p5 b21606 b23626 b23641 b23662 b47258 b47272 h0 n0) v U'.heap L ∧ FrameEnd U o U' L ({ frames := 0, cells := 0, slots := 0, locals := 0 } : Room).cells ({ frames := 0, cells := 0, slots := 0, locals := 0 } : Room).slots) :=
  own_met (ret := none) (Q := (Q24s47 Z q0 q1 p2 p3 p4 p5 b21606 b23626 b23641 b23662 b47258 b47272 h0 n0)) (plainFor_of_name pn_24) (fun m => ef_24 m b21606 b47258 b47272) (fun p e s m below meth c T0 X0 hx hby hml hown hnm hZ e0 => by
  have N0 := Fr.nil n0
  refine ost (mkF m 1 #[.val (.ref b21606), .val (.ref b47258), .val (.ref b47272), .unset] [(.int (0 : Int32))]) X0 (fun t k => XS.iconst X0.here hx rfl (hb hby d24_0) k) ?_
  refine ost (mkF m 2 (Las4724_0 b21606 b47258 b47272) []) X0 (fun t k => XS.istoreN X0.here hx rfl (hb hby d24_1) rfl (l' := (Las4724_0 b21606 b47258 b47272)) rfl k) ?_
  refine ost (mkF m 3 (Las4724_0 b21606 b47258 b47272) [(.int (0 : Int32))]) X0 (fun t k => XS.iloadN X0.here hx rfl (hb hby d24_2) rfl k) ?_
  refine ost (mkF m 4 (Las4724_0 b21606 b47258 b47272) [(.ref b47272), (.int (0 : Int32))]) X0 (fun t k => XS.aloadN X0.here hx rfl (hb hby d24_3) rfl rfl k) ?_
  refine ost (mkF m 5 (Las4724_0 b21606 b47258 b47272) [(.int (4 : Int32)), (.int (0 : Int32))]) X0 (fun t k => own_len X0 hx hZ e0 A_b47272 (g := (mkF m 4 (Las4724_0 b21606 b47258 b47272) [(.ref b47272), (.int (0 : Int32))])) rfl rfl (hb hby d24_4) _ k) ?_
  refine ost (mkF m 8 (Las4724_0 b21606 b47258 b47272) []) X0 (fun t k => XS.icmpNo X0.here hx rfl (hb hby d24_5) rfl (tlt (show (0 : Int32) < (4 : Int32) by first | rfl | decide)).2.1 k) ?_
  refine ost (mkF m 9 (Las4724_0 b21606 b47258 b47272) [(.ref b47272)]) X0 (fun t k => XS.aloadN X0.here hx rfl (hb hby d24_8) rfl rfl k) ?_
  refine ost (mkF m 10 (Las4724_0 b21606 b47258 b47272) [(.int (0 : Int32)), (.ref b47272)]) X0 (fun t k => XS.iloadN X0.here hx rfl (hb hby d24_9) rfl k) ?_
  refine ost (mkF m 11 (Las4724_0 b21606 b47258 b47272) [(.ref b47258), (.int (0 : Int32)), (.ref b47272)]) X0 (fun t k => XS.aloadN X0.here hx rfl (hb hby d24_10) rfl rfl k) ?_
  refine ost (mkF m 12 (Las4724_0 b21606 b47258 b47272) [(.ref b21606), (.ref b47258), (.int (0 : Int32)), (.ref b47272)]) X0 (fun t k => XS.aloadN X0.here hx rfl (hb hby d24_11) rfl rfl k) ?_
  obtain ⟨T48287, X48287, e48287, st48287⟩ := getF X0 hx hZ hown (host := "") (Or.inl (hw _ (wm 102 rfl))) Via.refl e0 F_m_word_b21606 (g := (mkF m 12 (Las4724_0 b21606 b47258 b47272) [(.ref b21606), (.ref b47258), (.int (0 : Int32)), (.ref b47272)])) rfl rfl (hb hby d24_12)
  refine ost (mkF m 15 (Las4724_0 b21606 b47258 b47272) [(.ref b23626), (.ref b47258), (.int (0 : Int32)), (.ref b47272)]) X48287 (fun t k => st48287 _ k) ?_
  refine ost (mkF m 16 (Las4724_0 b21606 b47258 b47272) [(.int (0 : Int32)), (.ref b23626), (.ref b47258), (.int (0 : Int32)), (.ref b47272)]) X48287 (fun t k => XS.iloadN X48287.here hx rfl (hb hby d24_15) rfl k) ?_
  refine ost (mkF m 17 (Las4724_0 b21606 b47258 b47272) [(.int (vs2213_100 q0)), (.ref b47258), (.int (0 : Int32)), (.ref b47272)]) X48287 (fun t k => own_ldI X48287 hx hZ e48287 A_b23626 (by decide) (congrArg Value.int (updOff (by decide) (updOff (by decide) (updOff (by decide) (updAt rfl))))) (g := (mkF m 16 (Las4724_0 b21606 b47258 b47272) [(.int (0 : Int32)), (.ref b23626), (.ref b47258), (.int (0 : Int32)), (.ref b47272)])) rfl rfl (hb hby d24_16) _ k) ?_
  refine ost (mkF m 18 (Las4724_0 b21606 b47258 b47272) [(.long ((G0_294 q0 p2 p3 q1 p4 p5) ((vs2213_100 q0)).toNatClampNeg)), (.int (0 : Int32)), (.ref b47272)]) X48287 (fun t k => own_ldJ X48287 hx hZ e48287 A_b47258 (ibs4724_17 q0) rfl (g := (mkF m 17 (Las4724_0 b21606 b47258 b47272) [(.int (vs2213_100 q0)), (.ref b47258), (.int (0 : Int32)), (.ref b47272)])) rfl rfl (hb hby d24_17) _ k) ?_
  refine ost (mkF m 19 (Las4724_0 b21606 b47258 b47272) [(.ref b21606), (.long ((G0_294 q0 p2 p3 q1 p4 p5) ((vs2213_100 q0)).toNatClampNeg)), (.int (0 : Int32)), (.ref b47272)]) X48287 (fun t k => XS.aloadN X48287.here hx rfl (hb hby d24_18) rfl rfl k) ?_
  obtain ⟨T48288, X48288, e48288, st48288⟩ := getF X48287 hx hZ hown (host := "") (Or.inl (hw _ (wm 104 rfl))) Via.refl e48287 F_m_shift_b21606 (g := (mkF m 19 (Las4724_0 b21606 b47258 b47272) [(.ref b21606), (.long ((G0_294 q0 p2 p3 q1 p4 p5) ((vs2213_100 q0)).toNatClampNeg)), (.int (0 : Int32)), (.ref b47272)])) rfl rfl (hb hby d24_19)
  refine ost (mkF m 22 (Las4724_0 b21606 b47258 b47272) [(.ref b23641), (.long ((G0_294 q0 p2 p3 q1 p4 p5) ((vs2213_100 q0)).toNatClampNeg)), (.int (0 : Int32)), (.ref b47272)]) X48288 (fun t k => st48288 _ k) ?_
  refine ost (mkF m 23 (Las4724_0 b21606 b47258 b47272) [(.int (0 : Int32)), (.ref b23641), (.long ((G0_294 q0 p2 p3 q1 p4 p5) ((vs2213_100 q0)).toNatClampNeg)), (.int (0 : Int32)), (.ref b47272)]) X48288 (fun t k => XS.iloadN X48288.here hx rfl (hb hby d24_22) rfl k) ?_
  refine ost (mkF m 24 (Las4724_0 b21606 b47258 b47272) [(.int (0 : Int32)), (.long ((G0_294 q0 p2 p3 q1 p4 p5) ((vs2213_100 q0)).toNatClampNeg)), (.int (0 : Int32)), (.ref b47272)]) X48288 (fun t k => own_ldI X48288 hx hZ e48288 A_b23641 (by decide) (congrArg Value.int (updOff (by decide) (updOff (by decide) (updOff (by decide) (updAt rfl))))) (g := (mkF m 23 (Las4724_0 b21606 b47258 b47272) [(.int (0 : Int32)), (.ref b23641), (.long ((G0_294 q0 p2 p3 q1 p4 p5) ((vs2213_100 q0)).toNatClampNeg)), (.int (0 : Int32)), (.ref b47272)])) rfl rfl (hb hby d24_23) _ k) ?_
  refine ost (mkF m 25 (Las4724_0 b21606 b47258 b47272) [(.long (XT.ushrL ((G0_294 q0 p2 p3 q1 p4 p5) ((vs2213_100 q0)).toNatClampNeg) (0 : Int32))), (.int (0 : Int32)), (.ref b47272)]) X48288 (fun t k => XT.lushr X48288.here hx rfl (hb hby d24_24) rfl k) ?_
  refine ost (mkF m 26 (Las4724_0 b21606 b47258 b47272) [(.ref b21606), (.long (XT.ushrL ((G0_294 q0 p2 p3 q1 p4 p5) ((vs2213_100 q0)).toNatClampNeg) (0 : Int32))), (.int (0 : Int32)), (.ref b47272)]) X48288 (fun t k => XS.aloadN X48288.here hx rfl (hb hby d24_25) rfl rfl k) ?_
  obtain ⟨T48289, X48289, e48289, st48289⟩ := getF X48288 hx hZ hown (host := "") (Or.inl (hw _ (wm 107 rfl))) Via.refl e48288 F_m_mask_b21606 (g := (mkF m 26 (Las4724_0 b21606 b47258 b47272) [(.ref b21606), (.long (XT.ushrL ((G0_294 q0 p2 p3 q1 p4 p5) ((vs2213_100 q0)).toNatClampNeg) (0 : Int32))), (.int (0 : Int32)), (.ref b47272)])) rfl rfl (hb hby d24_26)
  refine ost (mkF m 29 (Las4724_0 b21606 b47258 b47272) [(.ref b23662), (.long (XT.ushrL ((G0_294 q0 p2 p3 q1 p4 p5) ((vs2213_100 q0)).toNatClampNeg) (0 : Int32))), (.int (0 : Int32)), (.ref b47272)]) X48289 (fun t k => st48289 _ k) ?_
  refine ost (mkF m 30 (Las4724_0 b21606 b47258 b47272) [(.int (0 : Int32)), (.ref b23662), (.long (XT.ushrL ((G0_294 q0 p2 p3 q1 p4 p5) ((vs2213_100 q0)).toNatClampNeg) (0 : Int32))), (.int (0 : Int32)), (.ref b47272)]) X48289 (fun t k => XS.iloadN X48289.here hx rfl (hb hby d24_29) rfl k) ?_
  refine ost (mkF m 31 (Las4724_0 b21606 b47258 b47272) [(.long (((1 : Int64) <<< ((vs2213_84 q0).toInt64 &&& 63)) - (1 : Int64))), (.long (XT.ushrL ((G0_294 q0 p2 p3 q1 p4 p5) ((vs2213_100 q0)).toNatClampNeg) (0 : Int32))), (.int (0 : Int32)), (.ref b47272)]) X48289 (fun t k => own_ldJ X48289 hx hZ e48289 A_b23662 (by decide) (congrArg Value.long (updOff (by decide) (updOff (by decide) (updOff (by decide) (updAt rfl))))) (g := (mkF m 30 (Las4724_0 b21606 b47258 b47272) [(.int (0 : Int32)), (.ref b23662), (.long (XT.ushrL ((G0_294 q0 p2 p3 q1 p4 p5) ((vs2213_100 q0)).toNatClampNeg) (0 : Int32))), (.int (0 : Int32)), (.ref b47272)])) rfl rfl (hb hby d24_30) _ k) ?_
  refine ost (mkF m 32 (Las4724_0 b21606 b47258 b47272) [(.long ((XT.ushrL ((G0_294 q0 p2 p3 q1 p4 p5) ((vs2213_100 q0)).toNatClampNeg) (0 : Int32)) &&& (((1 : Int64) <<< ((vs2213_84 q0).toInt64 &&& 63)) - (1 : Int64)))), (.int (0 : Int32)), (.ref b47272)]) X48289 (fun t k => XT.land X48289.here hx rfl (hb hby d24_31) rfl k) ?_
  refine ost (mkF m 33 (Las4724_0 b21606 b47258 b47272) [(.int (((XT.ushrL ((G0_294 q0 p2 p3 q1 p4 p5) ((vs2213_100 q0)).toNatClampNeg) (0 : Int32)) &&& (((1 : Int64) <<< ((vs2213_84 q0).toInt64 &&& 63)) - (1 : Int64))).toInt32)), (.int (0 : Int32)), (.ref b47272)]) X48289 (fun t k => XT.l2i X48289.here hx rfl (hb hby d24_32) rfl k) ?_
  obtain ⟨T48290, h48290, L48290, X48290, e48290, N48290, K48290, A48290, st48290⟩ := own_stI X48289 hx hZ e48289 N0 (G := (fun _ => (0 : Int32))) A_b47272 g_b47272 (j := (0 : Int32)) (x := (((XT.ushrL ((G0_294 q0 p2 p3 q1 p4 p5) ((vs2213_100 q0)).toNatClampNeg) (0 : Int32)) &&& (((1 : Int64) <<< ((vs2213_84 q0).toInt64 &&& 63)) - (1 : Int64))).toInt32)) (by decide) (g := (mkF m 33 (Las4724_0 b21606 b47258 b47272) [(.int (((XT.ushrL ((G0_294 q0 p2 p3 q1 p4 p5) ((vs2213_100 q0)).toNatClampNeg) (0 : Int32)) &&& (((1 : Int64) <<< ((vs2213_84 q0).toInt64 &&& 63)) - (1 : Int64))).toInt32)), (.int (0 : Int32)), (.ref b47272)])) rfl rfl (hb hby d24_33)
  have B48290 : Ary Z h48290 b47272 .int 4 (fun i => .int ((Gs4724_33 q0 p2 p3 q1 p4 p5) i)) := A48290
  have Z48290 := Nat.le_trans Z0 K48290.1
  have S48290 := Nat.le_trans (Nat.le_refl h0.size) K48290.1
  refine ost (mkF m 34 (Las4724_0 b21606 b47258 b47272) []) X48290 (fun t k => st48290 _ k) ?_
  refine ost (mkF m 37 (Las4724_1 b21606 b47258 b47272) []) X48290 (fun t k => XS.iinc X48290.here hx rfl (hb hby d24_34) rfl (l' := (Las4724_1 b21606 b47258 b47272)) rfl k) ?_
  refine ost (mkF m 2 (Las4724_1 b21606 b47258 b47272) []) X48290 (fun t k => XS.goto X48290.here hx rfl (pc0 := 37) (pc' := 2) rfl (hb hby d24_37) (by decide) (by decide) k) ?_
  refine ost (mkF m 3 (Las4724_1 b21606 b47258 b47272) [(.int (1 : Int32))]) X48290 (fun t k => XS.iloadN X48290.here hx rfl (hb hby d24_2) rfl k) ?_
  refine ost (mkF m 4 (Las4724_1 b21606 b47258 b47272) [(.ref b47272), (.int (1 : Int32))]) X48290 (fun t k => XS.aloadN X48290.here hx rfl (hb hby d24_3) rfl rfl k) ?_
  refine ost (mkF m 5 (Las4724_1 b21606 b47258 b47272) [(.int (4 : Int32)), (.int (1 : Int32))]) X48290 (fun t k => own_len X48290 hx hZ e48290 B48290 (g := (mkF m 4 (Las4724_1 b21606 b47258 b47272) [(.ref b47272), (.int (1 : Int32))])) rfl rfl (hb hby d24_4) _ k) ?_
  refine ost (mkF m 8 (Las4724_1 b21606 b47258 b47272) []) X48290 (fun t k => XS.icmpNo X48290.here hx rfl (hb hby d24_5) rfl (tlt (show (1 : Int32) < (4 : Int32) by first | rfl | decide)).2.1 k) ?_
  refine ost (mkF m 9 (Las4724_1 b21606 b47258 b47272) [(.ref b47272)]) X48290 (fun t k => XS.aloadN X48290.here hx rfl (hb hby d24_8) rfl rfl k) ?_
  refine ost (mkF m 10 (Las4724_1 b21606 b47258 b47272) [(.int (1 : Int32)), (.ref b47272)]) X48290 (fun t k => XS.iloadN X48290.here hx rfl (hb hby d24_9) rfl k) ?_
  refine ost (mkF m 11 (Las4724_1 b21606 b47258 b47272) [(.ref b47258), (.int (1 : Int32)), (.ref b47272)]) X48290 (fun t k => XS.aloadN X48290.here hx rfl (hb hby d24_10) rfl rfl k) ?_
  refine ost (mkF m 12 (Las4724_1 b21606 b47258 b47272) [(.ref b21606), (.ref b47258), (.int (1 : Int32)), (.ref b47272)]) X48290 (fun t k => XS.aloadN X48290.here hx rfl (hb hby d24_11) rfl rfl k) ?_
  have F48291 := (F_m_word_b21606.keep K48290 (ninS ne_b21606_b47272 nin0))
  obtain ⟨T48292, X48292, e48292, st48292⟩ := getF X48290 hx hZ hown (host := "") (Or.inl (hw _ (wm 102 rfl))) Via.refl e48290 F48291 (g := (mkF m 12 (Las4724_1 b21606 b47258 b47272) [(.ref b21606), (.ref b47258), (.int (1 : Int32)), (.ref b47272)])) rfl rfl (hb hby d24_12)
  refine ost (mkF m 15 (Las4724_1 b21606 b47258 b47272) [(.ref b23626), (.ref b47258), (.int (1 : Int32)), (.ref b47272)]) X48292 (fun t k => st48292 _ k) ?_
  refine ost (mkF m 16 (Las4724_1 b21606 b47258 b47272) [(.int (1 : Int32)), (.ref b23626), (.ref b47258), (.int (1 : Int32)), (.ref b47272)]) X48292 (fun t k => XS.iloadN X48292.here hx rfl (hb hby d24_15) rfl k) ?_
  have A48293 := (A_b23626.keep K48290 (ninS ne_b23626_b47272 nin0))
  refine ost (mkF m 17 (Las4724_1 b21606 b47258 b47272) [(.int (vs2213_100b q0)), (.ref b47258), (.int (1 : Int32)), (.ref b47272)]) X48292 (fun t k => own_ldI X48292 hx hZ e48292 A48293 (by decide) (congrArg Value.int (updOff (by decide) (updOff (by decide) (updAt rfl)))) (g := (mkF m 16 (Las4724_1 b21606 b47258 b47272) [(.int (1 : Int32)), (.ref b23626), (.ref b47258), (.int (1 : Int32)), (.ref b47272)])) rfl rfl (hb hby d24_16) _ k) ?_
  have A48294 := (A_b47258.keep K48290 (ninS ne_b47258_b47272 nin0))
  refine ost (mkF m 18 (Las4724_1 b21606 b47258 b47272) [(.long ((G0_294 q0 p2 p3 q1 p4 p5) ((vs2213_100b q0)).toNatClampNeg)), (.int (1 : Int32)), (.ref b47272)]) X48292 (fun t k => own_ldJ X48292 hx hZ e48292 A48294 (ibs4724_17z q0) rfl (g := (mkF m 17 (Las4724_1 b21606 b47258 b47272) [(.int (vs2213_100b q0)), (.ref b47258), (.int (1 : Int32)), (.ref b47272)])) rfl rfl (hb hby d24_17) _ k) ?_
  refine ost (mkF m 19 (Las4724_1 b21606 b47258 b47272) [(.ref b21606), (.long ((G0_294 q0 p2 p3 q1 p4 p5) ((vs2213_100b q0)).toNatClampNeg)), (.int (1 : Int32)), (.ref b47272)]) X48292 (fun t k => XS.aloadN X48292.here hx rfl (hb hby d24_18) rfl rfl k) ?_
  have F48295 := (F_m_shift_b21606.keep K48290 (ninS ne_b21606_b47272 nin0))
  obtain ⟨T48296, X48296, e48296, st48296⟩ := getF X48292 hx hZ hown (host := "") (Or.inl (hw _ (wm 104 rfl))) Via.refl e48292 F48295 (g := (mkF m 19 (Las4724_1 b21606 b47258 b47272) [(.ref b21606), (.long ((G0_294 q0 p2 p3 q1 p4 p5) ((vs2213_100b q0)).toNatClampNeg)), (.int (1 : Int32)), (.ref b47272)])) rfl rfl (hb hby d24_19)
  refine ost (mkF m 22 (Las4724_1 b21606 b47258 b47272) [(.ref b23641), (.long ((G0_294 q0 p2 p3 q1 p4 p5) ((vs2213_100b q0)).toNatClampNeg)), (.int (1 : Int32)), (.ref b47272)]) X48296 (fun t k => st48296 _ k) ?_
  refine ost (mkF m 23 (Las4724_1 b21606 b47258 b47272) [(.int (1 : Int32)), (.ref b23641), (.long ((G0_294 q0 p2 p3 q1 p4 p5) ((vs2213_100b q0)).toNatClampNeg)), (.int (1 : Int32)), (.ref b47272)]) X48296 (fun t k => XS.iloadN X48296.here hx rfl (hb hby d24_22) rfl k) ?_
  have A48297 := (A_b23641.keep K48290 (ninS ne_b23641_b47272 nin0))
  refine ost (mkF m 24 (Las4724_1 b21606 b47258 b47272) [(.int (vs2213_100bb q0)), (.long ((G0_294 q0 p2 p3 q1 p4 p5) ((vs2213_100b q0)).toNatClampNeg)), (.int (1 : Int32)), (.ref b47272)]) X48296 (fun t k => own_ldI X48296 hx hZ e48296 A48297 (by decide) (congrArg Value.int (updOff (by decide) (updOff (by decide) (updAt rfl)))) (g := (mkF m 23 (Las4724_1 b21606 b47258 b47272) [(.int (1 : Int32)), (.ref b23641), (.long ((G0_294 q0 p2 p3 q1 p4 p5) ((vs2213_100b q0)).toNatClampNeg)), (.int (1 : Int32)), (.ref b47272)])) rfl rfl (hb hby d24_23) _ k) ?_
  refine ost (mkF m 25 (Las4724_1 b21606 b47258 b47272) [(.long (XT.ushrL ((G0_294 q0 p2 p3 q1 p4 p5) ((vs2213_100b q0)).toNatClampNeg) (vs2213_100bb q0))), (.int (1 : Int32)), (.ref b47272)]) X48296 (fun t k => XT.lushr X48296.here hx rfl (hb hby d24_24) rfl k) ?_
  refine ost (mkF m 26 (Las4724_1 b21606 b47258 b47272) [(.ref b21606), (.long (XT.ushrL ((G0_294 q0 p2 p3 q1 p4 p5) ((vs2213_100b q0)).toNatClampNeg) (vs2213_100bb q0))), (.int (1 : Int32)), (.ref b47272)]) X48296 (fun t k => XS.aloadN X48296.here hx rfl (hb hby d24_25) rfl rfl k) ?_
  have F48298 := (F_m_mask_b21606.keep K48290 (ninS ne_b21606_b47272 nin0))
  obtain ⟨T48299, X48299, e48299, st48299⟩ := getF X48296 hx hZ hown (host := "") (Or.inl (hw _ (wm 107 rfl))) Via.refl e48296 F48298 (g := (mkF m 26 (Las4724_1 b21606 b47258 b47272) [(.ref b21606), (.long (XT.ushrL ((G0_294 q0 p2 p3 q1 p4 p5) ((vs2213_100b q0)).toNatClampNeg) (vs2213_100bb q0))), (.int (1 : Int32)), (.ref b47272)])) rfl rfl (hb hby d24_26)
  refine ost (mkF m 29 (Las4724_1 b21606 b47258 b47272) [(.ref b23662), (.long (XT.ushrL ((G0_294 q0 p2 p3 q1 p4 p5) ((vs2213_100b q0)).toNatClampNeg) (vs2213_100bb q0))), (.int (1 : Int32)), (.ref b47272)]) X48299 (fun t k => st48299 _ k) ?_
  refine ost (mkF m 30 (Las4724_1 b21606 b47258 b47272) [(.int (1 : Int32)), (.ref b23662), (.long (XT.ushrL ((G0_294 q0 p2 p3 q1 p4 p5) ((vs2213_100b q0)).toNatClampNeg) (vs2213_100bb q0))), (.int (1 : Int32)), (.ref b47272)]) X48299 (fun t k => XS.iloadN X48299.here hx rfl (hb hby d24_29) rfl k) ?_
  have A48300 := (A_b23662.keep K48290 (ninS ne_b23662_b47272 nin0))
  refine ost (mkF m 31 (Las4724_1 b21606 b47258 b47272) [(.long (((1 : Int64) <<< ((vs2213_84b q0).toInt64 &&& 63)) - (1 : Int64))), (.long (XT.ushrL ((G0_294 q0 p2 p3 q1 p4 p5) ((vs2213_100b q0)).toNatClampNeg) (vs2213_100bb q0))), (.int (1 : Int32)), (.ref b47272)]) X48299 (fun t k => own_ldJ X48299 hx hZ e48299 A48300 (by decide) (congrArg Value.long (updOff (by decide) (updOff (by decide) (updAt rfl)))) (g := (mkF m 30 (Las4724_1 b21606 b47258 b47272) [(.int (1 : Int32)), (.ref b23662), (.long (XT.ushrL ((G0_294 q0 p2 p3 q1 p4 p5) ((vs2213_100b q0)).toNatClampNeg) (vs2213_100bb q0))), (.int (1 : Int32)), (.ref b47272)])) rfl rfl (hb hby d24_30) _ k) ?_
  refine ost (mkF m 32 (Las4724_1 b21606 b47258 b47272) [(.long ((XT.ushrL ((G0_294 q0 p2 p3 q1 p4 p5) ((vs2213_100b q0)).toNatClampNeg) (vs2213_100bb q0)) &&& (((1 : Int64) <<< ((vs2213_84b q0).toInt64 &&& 63)) - (1 : Int64)))), (.int (1 : Int32)), (.ref b47272)]) X48299 (fun t k => XT.land X48299.here hx rfl (hb hby d24_31) rfl k) ?_
  refine ost (mkF m 33 (Las4724_1 b21606 b47258 b47272) [(.int (((XT.ushrL ((G0_294 q0 p2 p3 q1 p4 p5) ((vs2213_100b q0)).toNatClampNeg) (vs2213_100bb q0)) &&& (((1 : Int64) <<< ((vs2213_84b q0).toInt64 &&& 63)) - (1 : Int64))).toInt32)), (.int (1 : Int32)), (.ref b47272)]) X48299 (fun t k => XT.l2i X48299.here hx rfl (hb hby d24_32) rfl k) ?_
  obtain ⟨T48301, h48301, L48301, X48301, e48301, N48301, K48301, A48301, st48301⟩ := own_stI X48299 hx hZ e48299 N48290 (G := (Gs4724_33 q0 p2 p3 q1 p4 p5)) B48290 g_b47272 (j := (1 : Int32)) (x := (((XT.ushrL ((G0_294 q0 p2 p3 q1 p4 p5) ((vs2213_100b q0)).toNatClampNeg) (vs2213_100bb q0)) &&& (((1 : Int64) <<< ((vs2213_84b q0).toInt64 &&& 63)) - (1 : Int64))).toInt32)) (by decide) (g := (mkF m 33 (Las4724_1 b21606 b47258 b47272) [(.int (((XT.ushrL ((G0_294 q0 p2 p3 q1 p4 p5) ((vs2213_100b q0)).toNatClampNeg) (vs2213_100bb q0)) &&& (((1 : Int64) <<< ((vs2213_84b q0).toInt64 &&& 63)) - (1 : Int64))).toInt32)), (.int (1 : Int32)), (.ref b47272)])) rfl rfl (hb hby d24_33)
  have B48301 : Ary Z h48301 b47272 .int 4 (fun i => .int ((Gs4724_33b q0 p2 p3 q1 p4 p5) i)) := A48301
  have Z48301 := Nat.le_trans Z48290 K48301.1
  have S48301 := Nat.le_trans S48290 K48301.1
  refine ost (mkF m 34 (Las4724_1 b21606 b47258 b47272) []) X48301 (fun t k => st48301 _ k) ?_
  refine ost (mkF m 37 (Las4724_2 b21606 b47258 b47272) []) X48301 (fun t k => XS.iinc X48301.here hx rfl (hb hby d24_34) rfl (l' := (Las4724_2 b21606 b47258 b47272)) rfl k) ?_
  refine ost (mkF m 2 (Las4724_2 b21606 b47258 b47272) []) X48301 (fun t k => XS.goto X48301.here hx rfl (pc0 := 37) (pc' := 2) rfl (hb hby d24_37) (by decide) (by decide) k) ?_
  refine ost (mkF m 3 (Las4724_2 b21606 b47258 b47272) [(.int (2 : Int32))]) X48301 (fun t k => XS.iloadN X48301.here hx rfl (hb hby d24_2) rfl k) ?_
  refine ost (mkF m 4 (Las4724_2 b21606 b47258 b47272) [(.ref b47272), (.int (2 : Int32))]) X48301 (fun t k => XS.aloadN X48301.here hx rfl (hb hby d24_3) rfl rfl k) ?_
  refine ost (mkF m 5 (Las4724_2 b21606 b47258 b47272) [(.int (4 : Int32)), (.int (2 : Int32))]) X48301 (fun t k => own_len X48301 hx hZ e48301 B48301 (g := (mkF m 4 (Las4724_2 b21606 b47258 b47272) [(.ref b47272), (.int (2 : Int32))])) rfl rfl (hb hby d24_4) _ k) ?_
  refine ost (mkF m 8 (Las4724_2 b21606 b47258 b47272) []) X48301 (fun t k => XS.icmpNo X48301.here hx rfl (hb hby d24_5) rfl (tlt (show (2 : Int32) < (4 : Int32) by first | rfl | decide)).2.1 k) ?_
  refine ost (mkF m 9 (Las4724_2 b21606 b47258 b47272) [(.ref b47272)]) X48301 (fun t k => XS.aloadN X48301.here hx rfl (hb hby d24_8) rfl rfl k) ?_
  refine ost (mkF m 10 (Las4724_2 b21606 b47258 b47272) [(.int (2 : Int32)), (.ref b47272)]) X48301 (fun t k => XS.iloadN X48301.here hx rfl (hb hby d24_9) rfl k) ?_
  refine ost (mkF m 11 (Las4724_2 b21606 b47258 b47272) [(.ref b47258), (.int (2 : Int32)), (.ref b47272)]) X48301 (fun t k => XS.aloadN X48301.here hx rfl (hb hby d24_10) rfl rfl k) ?_
  refine ost (mkF m 12 (Las4724_2 b21606 b47258 b47272) [(.ref b21606), (.ref b47258), (.int (2 : Int32)), (.ref b47272)]) X48301 (fun t k => XS.aloadN X48301.here hx rfl (hb hby d24_11) rfl rfl k) ?_
  have F48302 := (F48291.keep K48301 (ninS ne_b21606_b47272 nin0))
  obtain ⟨T48303, X48303, e48303, st48303⟩ := getF X48301 hx hZ hown (host := "") (Or.inl (hw _ (wm 102 rfl))) Via.refl e48301 F48302 (g := (mkF m 12 (Las4724_2 b21606 b47258 b47272) [(.ref b21606), (.ref b47258), (.int (2 : Int32)), (.ref b47272)])) rfl rfl (hb hby d24_12)
  refine ost (mkF m 15 (Las4724_2 b21606 b47258 b47272) [(.ref b23626), (.ref b47258), (.int (2 : Int32)), (.ref b47272)]) X48303 (fun t k => st48303 _ k) ?_
  refine ost (mkF m 16 (Las4724_2 b21606 b47258 b47272) [(.int (2 : Int32)), (.ref b23626), (.ref b47258), (.int (2 : Int32)), (.ref b47272)]) X48303 (fun t k => XS.iloadN X48303.here hx rfl (hb hby d24_15) rfl k) ?_
  have A48304 := (A48293.keep K48301 (ninS ne_b23626_b47272 nin0))
  refine ost (mkF m 17 (Las4724_2 b21606 b47258 b47272) [(.int (vs2213_100bbb q0 q1)), (.ref b47258), (.int (2 : Int32)), (.ref b47272)]) X48303 (fun t k => own_ldI X48303 hx hZ e48303 A48304 (by decide) (congrArg Value.int (updOff (by decide) (updAt rfl))) (g := (mkF m 16 (Las4724_2 b21606 b47258 b47272) [(.int (2 : Int32)), (.ref b23626), (.ref b47258), (.int (2 : Int32)), (.ref b47272)])) rfl rfl (hb hby d24_16) _ k) ?_
  have A48305 := (A48294.keep K48301 (ninS ne_b47258_b47272 nin0))
  refine ost (mkF m 18 (Las4724_2 b21606 b47258 b47272) [(.long ((G0_294 q0 p2 p3 q1 p4 p5) ((vs2213_100bbb q0 q1)).toNatClampNeg)), (.int (2 : Int32)), (.ref b47272)]) X48303 (fun t k => own_ldJ X48303 hx hZ e48303 A48305 (ibs4724_17zz q0 q1) rfl (g := (mkF m 17 (Las4724_2 b21606 b47258 b47272) [(.int (vs2213_100bbb q0 q1)), (.ref b47258), (.int (2 : Int32)), (.ref b47272)])) rfl rfl (hb hby d24_17) _ k) ?_
  refine ost (mkF m 19 (Las4724_2 b21606 b47258 b47272) [(.ref b21606), (.long ((G0_294 q0 p2 p3 q1 p4 p5) ((vs2213_100bbb q0 q1)).toNatClampNeg)), (.int (2 : Int32)), (.ref b47272)]) X48303 (fun t k => XS.aloadN X48303.here hx rfl (hb hby d24_18) rfl rfl k) ?_
  have F48306 := (F48295.keep K48301 (ninS ne_b21606_b47272 nin0))
  obtain ⟨T48307, X48307, e48307, st48307⟩ := getF X48303 hx hZ hown (host := "") (Or.inl (hw _ (wm 104 rfl))) Via.refl e48303 F48306 (g := (mkF m 19 (Las4724_2 b21606 b47258 b47272) [(.ref b21606), (.long ((G0_294 q0 p2 p3 q1 p4 p5) ((vs2213_100bbb q0 q1)).toNatClampNeg)), (.int (2 : Int32)), (.ref b47272)])) rfl rfl (hb hby d24_19)
  refine ost (mkF m 22 (Las4724_2 b21606 b47258 b47272) [(.ref b23641), (.long ((G0_294 q0 p2 p3 q1 p4 p5) ((vs2213_100bbb q0 q1)).toNatClampNeg)), (.int (2 : Int32)), (.ref b47272)]) X48307 (fun t k => st48307 _ k) ?_
  refine ost (mkF m 23 (Las4724_2 b21606 b47258 b47272) [(.int (2 : Int32)), (.ref b23641), (.long ((G0_294 q0 p2 p3 q1 p4 p5) ((vs2213_100bbb q0 q1)).toNatClampNeg)), (.int (2 : Int32)), (.ref b47272)]) X48307 (fun t k => XS.iloadN X48307.here hx rfl (hb hby d24_22) rfl k) ?_
  have A48308 := (A48297.keep K48301 (ninS ne_b23641_b47272 nin0))
  refine ost (mkF m 24 (Las4724_2 b21606 b47258 b47272) [(.int (vs2213_100bbbb q0 q1)), (.long ((G0_294 q0 p2 p3 q1 p4 p5) ((vs2213_100bbb q0 q1)).toNatClampNeg)), (.int (2 : Int32)), (.ref b47272)]) X48307 (fun t k => own_ldI X48307 hx hZ e48307 A48308 (by decide) (congrArg Value.int (updOff (by decide) (updAt rfl))) (g := (mkF m 23 (Las4724_2 b21606 b47258 b47272) [(.int (2 : Int32)), (.ref b23641), (.long ((G0_294 q0 p2 p3 q1 p4 p5) ((vs2213_100bbb q0 q1)).toNatClampNeg)), (.int (2 : Int32)), (.ref b47272)])) rfl rfl (hb hby d24_23) _ k) ?_
  refine ost (mkF m 25 (Las4724_2 b21606 b47258 b47272) [(.long (XT.ushrL ((G0_294 q0 p2 p3 q1 p4 p5) ((vs2213_100bbb q0 q1)).toNatClampNeg) (vs2213_100bbbb q0 q1))), (.int (2 : Int32)), (.ref b47272)]) X48307 (fun t k => XT.lushr X48307.here hx rfl (hb hby d24_24) rfl k) ?_
  refine ost (mkF m 26 (Las4724_2 b21606 b47258 b47272) [(.ref b21606), (.long (XT.ushrL ((G0_294 q0 p2 p3 q1 p4 p5) ((vs2213_100bbb q0 q1)).toNatClampNeg) (vs2213_100bbbb q0 q1))), (.int (2 : Int32)), (.ref b47272)]) X48307 (fun t k => XS.aloadN X48307.here hx rfl (hb hby d24_25) rfl rfl k) ?_
  have F48309 := (F48298.keep K48301 (ninS ne_b21606_b47272 nin0))
  obtain ⟨T48310, X48310, e48310, st48310⟩ := getF X48307 hx hZ hown (host := "") (Or.inl (hw _ (wm 107 rfl))) Via.refl e48307 F48309 (g := (mkF m 26 (Las4724_2 b21606 b47258 b47272) [(.ref b21606), (.long (XT.ushrL ((G0_294 q0 p2 p3 q1 p4 p5) ((vs2213_100bbb q0 q1)).toNatClampNeg) (vs2213_100bbbb q0 q1))), (.int (2 : Int32)), (.ref b47272)])) rfl rfl (hb hby d24_26)
  refine ost (mkF m 29 (Las4724_2 b21606 b47258 b47272) [(.ref b23662), (.long (XT.ushrL ((G0_294 q0 p2 p3 q1 p4 p5) ((vs2213_100bbb q0 q1)).toNatClampNeg) (vs2213_100bbbb q0 q1))), (.int (2 : Int32)), (.ref b47272)]) X48310 (fun t k => st48310 _ k) ?_
  refine ost (mkF m 30 (Las4724_2 b21606 b47258 b47272) [(.int (2 : Int32)), (.ref b23662), (.long (XT.ushrL ((G0_294 q0 p2 p3 q1 p4 p5) ((vs2213_100bbb q0 q1)).toNatClampNeg) (vs2213_100bbbb q0 q1))), (.int (2 : Int32)), (.ref b47272)]) X48310 (fun t k => XS.iloadN X48310.here hx rfl (hb hby d24_29) rfl k) ?_
  have A48311 := (A48300.keep K48301 (ninS ne_b23662_b47272 nin0))
  refine ost (mkF m 31 (Las4724_2 b21606 b47258 b47272) [(.long (((1 : Int64) <<< ((vs2213_84bb q1).toInt64 &&& 63)) - (1 : Int64))), (.long (XT.ushrL ((G0_294 q0 p2 p3 q1 p4 p5) ((vs2213_100bbb q0 q1)).toNatClampNeg) (vs2213_100bbbb q0 q1))), (.int (2 : Int32)), (.ref b47272)]) X48310 (fun t k => own_ldJ X48310 hx hZ e48310 A48311 (by decide) (congrArg Value.long (updOff (by decide) (updAt rfl))) (g := (mkF m 30 (Las4724_2 b21606 b47258 b47272) [(.int (2 : Int32)), (.ref b23662), (.long (XT.ushrL ((G0_294 q0 p2 p3 q1 p4 p5) ((vs2213_100bbb q0 q1)).toNatClampNeg) (vs2213_100bbbb q0 q1))), (.int (2 : Int32)), (.ref b47272)])) rfl rfl (hb hby d24_30) _ k) ?_
  refine ost (mkF m 32 (Las4724_2 b21606 b47258 b47272) [(.long ((XT.ushrL ((G0_294 q0 p2 p3 q1 p4 p5) ((vs2213_100bbb q0 q1)).toNatClampNeg) (vs2213_100bbbb q0 q1)) &&& (((1 : Int64) <<< ((vs2213_84bb q1).toInt64 &&& 63)) - (1 : Int64)))), (.int (2 : Int32)), (.ref b47272)]) X48310 (fun t k => XT.land X48310.here hx rfl (hb hby d24_31) rfl k) ?_
  refine ost (mkF m 33 (Las4724_2 b21606 b47258 b47272) [(.int (((XT.ushrL ((G0_294 q0 p2 p3 q1 p4 p5) ((vs2213_100bbb q0 q1)).toNatClampNeg) (vs2213_100bbbb q0 q1)) &&& (((1 : Int64) <<< ((vs2213_84bb q1).toInt64 &&& 63)) - (1 : Int64))).toInt32)), (.int (2 : Int32)), (.ref b47272)]) X48310 (fun t k => XT.l2i X48310.here hx rfl (hb hby d24_32) rfl k) ?_
  obtain ⟨T48312, h48312, L48312, X48312, e48312, N48312, K48312, A48312, st48312⟩ := own_stI X48310 hx hZ e48310 N48301 (G := (Gs4724_33b q0 p2 p3 q1 p4 p5)) B48301 g_b47272 (j := (2 : Int32)) (x := (((XT.ushrL ((G0_294 q0 p2 p3 q1 p4 p5) ((vs2213_100bbb q0 q1)).toNatClampNeg) (vs2213_100bbbb q0 q1)) &&& (((1 : Int64) <<< ((vs2213_84bb q1).toInt64 &&& 63)) - (1 : Int64))).toInt32)) (by decide) (g := (mkF m 33 (Las4724_2 b21606 b47258 b47272) [(.int (((XT.ushrL ((G0_294 q0 p2 p3 q1 p4 p5) ((vs2213_100bbb q0 q1)).toNatClampNeg) (vs2213_100bbbb q0 q1)) &&& (((1 : Int64) <<< ((vs2213_84bb q1).toInt64 &&& 63)) - (1 : Int64))).toInt32)), (.int (2 : Int32)), (.ref b47272)])) rfl rfl (hb hby d24_33)
  have B48312 : Ary Z h48312 b47272 .int 4 (fun i => .int ((Gs4724_33bb q0 p2 p3 q1 p4 p5) i)) := A48312
  have Z48312 := Nat.le_trans Z48301 K48312.1
  have S48312 := Nat.le_trans S48301 K48312.1
  refine ost (mkF m 34 (Las4724_2 b21606 b47258 b47272) []) X48312 (fun t k => st48312 _ k) ?_
  refine ost (mkF m 37 (Las4724_3 b21606 b47258 b47272) []) X48312 (fun t k => XS.iinc X48312.here hx rfl (hb hby d24_34) rfl (l' := (Las4724_3 b21606 b47258 b47272)) rfl k) ?_
  refine ost (mkF m 2 (Las4724_3 b21606 b47258 b47272) []) X48312 (fun t k => XS.goto X48312.here hx rfl (pc0 := 37) (pc' := 2) rfl (hb hby d24_37) (by decide) (by decide) k) ?_
  refine ost (mkF m 3 (Las4724_3 b21606 b47258 b47272) [(.int (3 : Int32))]) X48312 (fun t k => XS.iloadN X48312.here hx rfl (hb hby d24_2) rfl k) ?_
  refine ost (mkF m 4 (Las4724_3 b21606 b47258 b47272) [(.ref b47272), (.int (3 : Int32))]) X48312 (fun t k => XS.aloadN X48312.here hx rfl (hb hby d24_3) rfl rfl k) ?_
  refine ost (mkF m 5 (Las4724_3 b21606 b47258 b47272) [(.int (4 : Int32)), (.int (3 : Int32))]) X48312 (fun t k => own_len X48312 hx hZ e48312 B48312 (g := (mkF m 4 (Las4724_3 b21606 b47258 b47272) [(.ref b47272), (.int (3 : Int32))])) rfl rfl (hb hby d24_4) _ k) ?_
  refine ost (mkF m 8 (Las4724_3 b21606 b47258 b47272) []) X48312 (fun t k => XS.icmpNo X48312.here hx rfl (hb hby d24_5) rfl (tlt (show (3 : Int32) < (4 : Int32) by first | rfl | decide)).2.1 k) ?_
  refine ost (mkF m 9 (Las4724_3 b21606 b47258 b47272) [(.ref b47272)]) X48312 (fun t k => XS.aloadN X48312.here hx rfl (hb hby d24_8) rfl rfl k) ?_
  refine ost (mkF m 10 (Las4724_3 b21606 b47258 b47272) [(.int (3 : Int32)), (.ref b47272)]) X48312 (fun t k => XS.iloadN X48312.here hx rfl (hb hby d24_9) rfl k) ?_
  refine ost (mkF m 11 (Las4724_3 b21606 b47258 b47272) [(.ref b47258), (.int (3 : Int32)), (.ref b47272)]) X48312 (fun t k => XS.aloadN X48312.here hx rfl (hb hby d24_10) rfl rfl k) ?_
  refine ost (mkF m 12 (Las4724_3 b21606 b47258 b47272) [(.ref b21606), (.ref b47258), (.int (3 : Int32)), (.ref b47272)]) X48312 (fun t k => XS.aloadN X48312.here hx rfl (hb hby d24_11) rfl rfl k) ?_
  have F48313 := (F48302.keep K48312 (ninS ne_b21606_b47272 nin0))
  obtain ⟨T48314, X48314, e48314, st48314⟩ := getF X48312 hx hZ hown (host := "") (Or.inl (hw _ (wm 102 rfl))) Via.refl e48312 F48313 (g := (mkF m 12 (Las4724_3 b21606 b47258 b47272) [(.ref b21606), (.ref b47258), (.int (3 : Int32)), (.ref b47272)])) rfl rfl (hb hby d24_12)
  refine ost (mkF m 15 (Las4724_3 b21606 b47258 b47272) [(.ref b23626), (.ref b47258), (.int (3 : Int32)), (.ref b47272)]) X48314 (fun t k => st48314 _ k) ?_
  refine ost (mkF m 16 (Las4724_3 b21606 b47258 b47272) [(.int (3 : Int32)), (.ref b23626), (.ref b47258), (.int (3 : Int32)), (.ref b47272)]) X48314 (fun t k => XS.iloadN X48314.here hx rfl (hb hby d24_15) rfl k) ?_
  have A48315 := (A48304.keep K48312 (ninS ne_b23626_b47272 nin0))
  refine ost (mkF m 17 (Las4724_3 b21606 b47258 b47272) [(.int (vs2213_100bbbbb q0 q1)), (.ref b47258), (.int (3 : Int32)), (.ref b47272)]) X48314 (fun t k => own_ldI X48314 hx hZ e48314 A48315 (by decide) (congrArg Value.int (updAt rfl)) (g := (mkF m 16 (Las4724_3 b21606 b47258 b47272) [(.int (3 : Int32)), (.ref b23626), (.ref b47258), (.int (3 : Int32)), (.ref b47272)])) rfl rfl (hb hby d24_16) _ k) ?_
  have A48316 := (A48305.keep K48312 (ninS ne_b47258_b47272 nin0))
  refine ost (mkF m 18 (Las4724_3 b21606 b47258 b47272) [(.long ((G0_294 q0 p2 p3 q1 p4 p5) ((vs2213_100bbbbb q0 q1)).toNatClampNeg)), (.int (3 : Int32)), (.ref b47272)]) X48314 (fun t k => own_ldJ X48314 hx hZ e48314 A48316 (ibs4724_17zzz q0 q1) rfl (g := (mkF m 17 (Las4724_3 b21606 b47258 b47272) [(.int (vs2213_100bbbbb q0 q1)), (.ref b47258), (.int (3 : Int32)), (.ref b47272)])) rfl rfl (hb hby d24_17) _ k) ?_
  refine ost (mkF m 19 (Las4724_3 b21606 b47258 b47272) [(.ref b21606), (.long ((G0_294 q0 p2 p3 q1 p4 p5) ((vs2213_100bbbbb q0 q1)).toNatClampNeg)), (.int (3 : Int32)), (.ref b47272)]) X48314 (fun t k => XS.aloadN X48314.here hx rfl (hb hby d24_18) rfl rfl k) ?_
  have F48317 := (F48306.keep K48312 (ninS ne_b21606_b47272 nin0))
  obtain ⟨T48318, X48318, e48318, st48318⟩ := getF X48314 hx hZ hown (host := "") (Or.inl (hw _ (wm 104 rfl))) Via.refl e48314 F48317 (g := (mkF m 19 (Las4724_3 b21606 b47258 b47272) [(.ref b21606), (.long ((G0_294 q0 p2 p3 q1 p4 p5) ((vs2213_100bbbbb q0 q1)).toNatClampNeg)), (.int (3 : Int32)), (.ref b47272)])) rfl rfl (hb hby d24_19)
  refine ost (mkF m 22 (Las4724_3 b21606 b47258 b47272) [(.ref b23641), (.long ((G0_294 q0 p2 p3 q1 p4 p5) ((vs2213_100bbbbb q0 q1)).toNatClampNeg)), (.int (3 : Int32)), (.ref b47272)]) X48318 (fun t k => st48318 _ k) ?_
  refine ost (mkF m 23 (Las4724_3 b21606 b47258 b47272) [(.int (3 : Int32)), (.ref b23641), (.long ((G0_294 q0 p2 p3 q1 p4 p5) ((vs2213_100bbbbb q0 q1)).toNatClampNeg)), (.int (3 : Int32)), (.ref b47272)]) X48318 (fun t k => XS.iloadN X48318.here hx rfl (hb hby d24_22) rfl k) ?_
  have A48319 := (A48308.keep K48312 (ninS ne_b23641_b47272 nin0))
  refine ost (mkF m 24 (Las4724_3 b21606 b47258 b47272) [(.int (vs2213_100bbbbbb q0 q1)), (.long ((G0_294 q0 p2 p3 q1 p4 p5) ((vs2213_100bbbbb q0 q1)).toNatClampNeg)), (.int (3 : Int32)), (.ref b47272)]) X48318 (fun t k => own_ldI X48318 hx hZ e48318 A48319 (by decide) (congrArg Value.int (updAt rfl)) (g := (mkF m 23 (Las4724_3 b21606 b47258 b47272) [(.int (3 : Int32)), (.ref b23641), (.long ((G0_294 q0 p2 p3 q1 p4 p5) ((vs2213_100bbbbb q0 q1)).toNatClampNeg)), (.int (3 : Int32)), (.ref b47272)])) rfl rfl (hb hby d24_23) _ k) ?_
  refine ost (mkF m 25 (Las4724_3 b21606 b47258 b47272) [(.long (XT.ushrL ((G0_294 q0 p2 p3 q1 p4 p5) ((vs2213_100bbbbb q0 q1)).toNatClampNeg) (vs2213_100bbbbbb q0 q1))), (.int (3 : Int32)), (.ref b47272)]) X48318 (fun t k => XT.lushr X48318.here hx rfl (hb hby d24_24) rfl k) ?_
  refine ost (mkF m 26 (Las4724_3 b21606 b47258 b47272) [(.ref b21606), (.long (XT.ushrL ((G0_294 q0 p2 p3 q1 p4 p5) ((vs2213_100bbbbb q0 q1)).toNatClampNeg) (vs2213_100bbbbbb q0 q1))), (.int (3 : Int32)), (.ref b47272)]) X48318 (fun t k => XS.aloadN X48318.here hx rfl (hb hby d24_25) rfl rfl k) ?_
  have F48320 := (F48309.keep K48312 (ninS ne_b21606_b47272 nin0))
  obtain ⟨T48321, X48321, e48321, st48321⟩ := getF X48318 hx hZ hown (host := "") (Or.inl (hw _ (wm 107 rfl))) Via.refl e48318 F48320 (g := (mkF m 26 (Las4724_3 b21606 b47258 b47272) [(.ref b21606), (.long (XT.ushrL ((G0_294 q0 p2 p3 q1 p4 p5) ((vs2213_100bbbbb q0 q1)).toNatClampNeg) (vs2213_100bbbbbb q0 q1))), (.int (3 : Int32)), (.ref b47272)])) rfl rfl (hb hby d24_26)
  refine ost (mkF m 29 (Las4724_3 b21606 b47258 b47272) [(.ref b23662), (.long (XT.ushrL ((G0_294 q0 p2 p3 q1 p4 p5) ((vs2213_100bbbbb q0 q1)).toNatClampNeg) (vs2213_100bbbbbb q0 q1))), (.int (3 : Int32)), (.ref b47272)]) X48321 (fun t k => st48321 _ k) ?_
  refine ost (mkF m 30 (Las4724_3 b21606 b47258 b47272) [(.int (3 : Int32)), (.ref b23662), (.long (XT.ushrL ((G0_294 q0 p2 p3 q1 p4 p5) ((vs2213_100bbbbb q0 q1)).toNatClampNeg) (vs2213_100bbbbbb q0 q1))), (.int (3 : Int32)), (.ref b47272)]) X48321 (fun t k => XS.iloadN X48321.here hx rfl (hb hby d24_29) rfl k) ?_
  have A48322 := (A48311.keep K48312 (ninS ne_b23662_b47272 nin0))
  refine ost (mkF m 31 (Las4724_3 b21606 b47258 b47272) [(.long (((1 : Int64) <<< ((vs2213_84bbb q1).toInt64 &&& 63)) - (1 : Int64))), (.long (XT.ushrL ((G0_294 q0 p2 p3 q1 p4 p5) ((vs2213_100bbbbb q0 q1)).toNatClampNeg) (vs2213_100bbbbbb q0 q1))), (.int (3 : Int32)), (.ref b47272)]) X48321 (fun t k => own_ldJ X48321 hx hZ e48321 A48322 (by decide) (congrArg Value.long (updAt rfl)) (g := (mkF m 30 (Las4724_3 b21606 b47258 b47272) [(.int (3 : Int32)), (.ref b23662), (.long (XT.ushrL ((G0_294 q0 p2 p3 q1 p4 p5) ((vs2213_100bbbbb q0 q1)).toNatClampNeg) (vs2213_100bbbbbb q0 q1))), (.int (3 : Int32)), (.ref b47272)])) rfl rfl (hb hby d24_30) _ k) ?_
  refine ost (mkF m 32 (Las4724_3 b21606 b47258 b47272) [(.long ((XT.ushrL ((G0_294 q0 p2 p3 q1 p4 p5) ((vs2213_100bbbbb q0 q1)).toNatClampNeg) (vs2213_100bbbbbb q0 q1)) &&& (((1 : Int64) <<< ((vs2213_84bbb q1).toInt64 &&& 63)) - (1 : Int64)))), (.int (3 : Int32)), (.ref b47272)]) X48321 (fun t k => XT.land X48321.here hx rfl (hb hby d24_31) rfl k) ?_
  refine ost (mkF m 33 (Las4724_3 b21606 b47258 b47272) [(.int (((XT.ushrL ((G0_294 q0 p2 p3 q1 p4 p5) ((vs2213_100bbbbb q0 q1)).toNatClampNeg) (vs2213_100bbbbbb q0 q1)) &&& (((1 : Int64) <<< ((vs2213_84bbb q1).toInt64 &&& 63)) - (1 : Int64))).toInt32)), (.int (3 : Int32)), (.ref b47272)]) X48321 (fun t k => XT.l2i X48321.here hx rfl (hb hby d24_32) rfl k) ?_
  obtain ⟨T48323, h48323, L48323, X48323, e48323, N48323, K48323, A48323, st48323⟩ := own_stI X48321 hx hZ e48321 N48312 (G := (Gs4724_33bb q0 p2 p3 q1 p4 p5)) B48312 g_b47272 (j := (3 : Int32)) (x := (((XT.ushrL ((G0_294 q0 p2 p3 q1 p4 p5) ((vs2213_100bbbbb q0 q1)).toNatClampNeg) (vs2213_100bbbbbb q0 q1)) &&& (((1 : Int64) <<< ((vs2213_84bbb q1).toInt64 &&& 63)) - (1 : Int64))).toInt32)) (by decide) (g := (mkF m 33 (Las4724_3 b21606 b47258 b47272) [(.int (((XT.ushrL ((G0_294 q0 p2 p3 q1 p4 p5) ((vs2213_100bbbbb q0 q1)).toNatClampNeg) (vs2213_100bbbbbb q0 q1)) &&& (((1 : Int64) <<< ((vs2213_84bbb q1).toInt64 &&& 63)) - (1 : Int64))).toInt32)), (.int (3 : Int32)), (.ref b47272)])) rfl rfl (hb hby d24_33)
  have B48323 : Ary Z h48323 b47272 .int 4 (fun i => .int ((Gs4724_33bbb q0 p2 p3 q1 p4 p5) i)) := A48323
  have Z48323 := Nat.le_trans Z48312 K48323.1
  have S48323 := Nat.le_trans S48312 K48323.1
  refine ost (mkF m 34 (Las4724_3 b21606 b47258 b47272) []) X48323 (fun t k => st48323 _ k) ?_
  refine ost (mkF m 37 (Las4724_4 b21606 b47258 b47272) []) X48323 (fun t k => XS.iinc X48323.here hx rfl (hb hby d24_34) rfl (l' := (Las4724_4 b21606 b47258 b47272)) rfl k) ?_
  refine ost (mkF m 2 (Las4724_4 b21606 b47258 b47272) []) X48323 (fun t k => XS.goto X48323.here hx rfl (pc0 := 37) (pc' := 2) rfl (hb hby d24_37) (by decide) (by decide) k) ?_
  refine ost (mkF m 3 (Las4724_4 b21606 b47258 b47272) [(.int (4 : Int32))]) X48323 (fun t k => XS.iloadN X48323.here hx rfl (hb hby d24_2) rfl k) ?_
  refine ost (mkF m 4 (Las4724_4 b21606 b47258 b47272) [(.ref b47272), (.int (4 : Int32))]) X48323 (fun t k => XS.aloadN X48323.here hx rfl (hb hby d24_3) rfl rfl k) ?_
  refine ost (mkF m 5 (Las4724_4 b21606 b47258 b47272) [(.int (4 : Int32)), (.int (4 : Int32))]) X48323 (fun t k => own_len X48323 hx hZ e48323 B48323 (g := (mkF m 4 (Las4724_4 b21606 b47258 b47272) [(.ref b47272), (.int (4 : Int32))])) rfl rfl (hb hby d24_4) _ k) ?_
  refine ost (mkF m 40 (Las4724_4 b21606 b47258 b47272) []) X48323 (fun t k => XS.icmpYes X48323.here hx rfl (pc0 := 5) (pc' := 40) rfl (hb hby d24_5) rfl (flt (show ¬ ((4 : Int32) < (4 : Int32)) by first | decide | exact Int32.lt_irrefl _ | exact Int64.lt_irrefl _)).2.1 (by decide) (by decide) k) ?_
  refine OwnFin.retVoid X48323 (hb hby d24_40) (by decide) (by decide) ?_
  rw [e48323]
  exact ⟨rfl, N48323, (Keep.trans (Keep.trans (Keep.trans (Keep.trans (Keep.refl h0 [b47272]) K48290 (allS (Or.inl (wm 0 rfl)) all0)) K48301 (allS (Or.inl (wm 0 rfl)) all0)) K48312 (allS (Or.inl (wm 0 rfl)) all0)) K48323 (allS (Or.inl (wm 0 rfl)) all0)), B48323⟩)
def Q24s46 (Z : State) (q0 : Int64) (q1 : Int64) (p2 : Int32) (p3 : Int32) (p4 : Int32) (p5 : Int32) (b21606 : Addr) (b23626 : Addr) (b23641 : Addr) (b23662 : Addr) (b44109 : Addr) (b46187 : Addr) (h0 : Heap) (n0 : Nat) : Option Value → Heap → List Loc → Prop := fun v h L => v = none ∧ Fr n0 L ∧ Keep h0 h [b46187] ∧ Ary Z h b46187 .int 4 (fun i => .int ((Gs4624_33bbb q0 p2 p3 q1 p4 p5) i))
abbrev Las4624_0 (b21606 : Addr) (b44109 : Addr) (b46187 : Addr) : Array Slot := #[.val (.ref b21606), .val (.ref b44109), .val (.ref b46187), .val (.int (0 : Int32))]
abbrev Las4624_1 (b21606 : Addr) (b44109 : Addr) (b46187 : Addr) : Array Slot := #[.val (.ref b21606), .val (.ref b44109), .val (.ref b46187), .val (.int (1 : Int32))]
abbrev Las4624_2 (b21606 : Addr) (b44109 : Addr) (b46187 : Addr) : Array Slot := #[.val (.ref b21606), .val (.ref b44109), .val (.ref b46187), .val (.int (2 : Int32))]
abbrev Las4624_3 (b21606 : Addr) (b44109 : Addr) (b46187 : Addr) : Array Slot := #[.val (.ref b21606), .val (.ref b44109), .val (.ref b46187), .val (.int (3 : Int32))]
abbrev Las4624_4 (b21606 : Addr) (b44109 : Addr) (b46187 : Addr) : Array Slot := #[.val (.ref b21606), .val (.ref b44109), .val (.ref b46187), .val (.int (4 : Int32))]
set_option maxRecDepth 65536 in
set_option maxHeartbeats 40000000 in
theorem rm24s46 (l : Launch) (Z : State) (a0 : Array Value) (hw : ∀ d ∈ tables_1, d.before a0 Z = true) (ws : List Jvm.Cond) (q0 : Int64) (q1 : Int64) (p2 : Int32) (p3 : Int32) (p4 : Int32) (p5 : Int32) (b21606 : Addr) (b23626 : Addr) (b23641 : Addr) (b23662 : Addr) (b44109 : Addr) (b46187 : Addr) (h0 : Heap) (n0 : Nat) (Z0 : n0 ≤ h0.size) (F_m_word_b21606 : Fld Z h0 b21606 "com/example/ken2/ken2/StateLayout" "m_word" "[I" (.ref b23626)) (F_m_shift_b21606 : Fld Z h0 b21606 "com/example/ken2/ken2/StateLayout" "m_shift" "[I" (.ref b23641)) (F_m_mask_b21606 : Fld Z h0 b21606 "com/example/ken2/ken2/StateLayout" "m_mask" "[J" (.ref b23662)) (A_b23626 : Ary Z h0 b23626 .int 4 (fun i => .int ((Gs2213_107bbb q0 q1) i))) (A_b23641 : Ary Z h0 b23641 .int 4 (fun i => .int ((Gs2213_115bbb q0 q1) i))) (A_b23662 : Ary Z h0 b23662 .long 4 (fun i => .long ((Gs2213_128bbb q0 q1) i))) (A_b44109 : Ary Z h0 b44109 .long 2 (fun i => .long ((Gs4422_34bbb q0 p2 p3 q1 p4 p5) i))) (A_b46187 : Ary Z h0 b46187 .int 4 (fun i => .int ((fun _ => (0 : Int32)) i))) (g_b46187 : n0 ≤ b46187) (ne_b21606_b46187 : b21606 ≠ b46187) (ne_b23626_b46187 : b23626 ≠ b46187) (ne_b23641_b46187 : b23641 ≠ b46187) (ne_b23662_b46187 : b23662 ≠ b46187) (ne_b44109_b46187 : b44109 ≠ b46187) :
    MetFree l Y24 (head1 (Jvm.Cond.code Y24 prog_112_method_4_code 4 none :: ws) ({ frames := 0, cells := 0, slots := 0, locals := 0 } : Room)) (fun a U => a = #[(.ref b21606), (.ref b44109), (.ref b46187)] ∧ Z.Warmed39 U.vm ∧ U.heap = h0) (fun _ _ _ _ _ => True) (fun _ U o U' => ∃ v L, o = .returned v ∧ (Q24s46 Z q0 q1 p2 p3 p4 p5 b21606 b23626 b23641 b23662 b44109 b46187 h0 n0) v U'.heap L ∧ FrameEnd U o U' L ({ frames := 0, cells := 0, slots := 0, locals := 0 } : Room).cells ({ frames := 0, cells := 0, slots := 0, locals := 0 } : Room).slots) :=
  own_met (ret := none) (Q := (Q24s46 Z q0 q1 p2 p3 p4 p5 b21606 b23626 b23641 b23662 b44109 b46187 h0 n0)) (plainFor_of_name pn_24) (fun m => ef_24 m b21606 b44109 b46187) (fun p e s m below meth c T0 X0 hx hby hml hown hnm hZ e0 => by
  have N0 := Fr.nil n0
  refine ost (mkF m 1 #[.val (.ref b21606), .val (.ref b44109), .val (.ref b46187), .unset] [(.int (0 : Int32))]) X0 (fun t k => XS.iconst X0.here hx rfl (hb hby d24_0) k) ?_
  refine ost (mkF m 2 (Las4624_0 b21606 b44109 b46187) []) X0 (fun t k => XS.istoreN X0.here hx rfl (hb hby d24_1) rfl (l' := (Las4624_0 b21606 b44109 b46187)) rfl k) ?_
  refine ost (mkF m 3 (Las4624_0 b21606 b44109 b46187) [(.int (0 : Int32))]) X0 (fun t k => XS.iloadN X0.here hx rfl (hb hby d24_2) rfl k) ?_
  refine ost (mkF m 4 (Las4624_0 b21606 b44109 b46187) [(.ref b46187), (.int (0 : Int32))]) X0 (fun t k => XS.aloadN X0.here hx rfl (hb hby d24_3) rfl rfl k) ?_
  refine ost (mkF m 5 (Las4624_0 b21606 b44109 b46187) [(.int (4 : Int32)), (.int (0 : Int32))]) X0 (fun t k => own_len X0 hx hZ e0 A_b46187 (g := (mkF m 4 (Las4624_0 b21606 b44109 b46187) [(.ref b46187), (.int (0 : Int32))])) rfl rfl (hb hby d24_4) _ k) ?_
  refine ost (mkF m 8 (Las4624_0 b21606 b44109 b46187) []) X0 (fun t k => XS.icmpNo X0.here hx rfl (hb hby d24_5) rfl (tlt (show (0 : Int32) < (4 : Int32) by first | rfl | decide)).2.1 k) ?_
  refine ost (mkF m 9 (Las4624_0 b21606 b44109 b46187) [(.ref b46187)]) X0 (fun t k => XS.aloadN X0.here hx rfl (hb hby d24_8) rfl rfl k) ?_
  refine ost (mkF m 10 (Las4624_0 b21606 b44109 b46187) [(.int (0 : Int32)), (.ref b46187)]) X0 (fun t k => XS.iloadN X0.here hx rfl (hb hby d24_9) rfl k) ?_
  refine ost (mkF m 11 (Las4624_0 b21606 b44109 b46187) [(.ref b44109), (.int (0 : Int32)), (.ref b46187)]) X0 (fun t k => XS.aloadN X0.here hx rfl (hb hby d24_10) rfl rfl k) ?_
  refine ost (mkF m 12 (Las4624_0 b21606 b44109 b46187) [(.ref b21606), (.ref b44109), (.int (0 : Int32)), (.ref b46187)]) X0 (fun t k => XS.aloadN X0.here hx rfl (hb hby d24_11) rfl rfl k) ?_
  obtain ⟨T47200, X47200, e47200, st47200⟩ := getF X0 hx hZ hown (host := "") (Or.inl (hw _ (wm 102 rfl))) Via.refl e0 F_m_word_b21606 (g := (mkF m 12 (Las4624_0 b21606 b44109 b46187) [(.ref b21606), (.ref b44109), (.int (0 : Int32)), (.ref b46187)])) rfl rfl (hb hby d24_12)
  refine ost (mkF m 15 (Las4624_0 b21606 b44109 b46187) [(.ref b23626), (.ref b44109), (.int (0 : Int32)), (.ref b46187)]) X47200 (fun t k => st47200 _ k) ?_
  refine ost (mkF m 16 (Las4624_0 b21606 b44109 b46187) [(.int (0 : Int32)), (.ref b23626), (.ref b44109), (.int (0 : Int32)), (.ref b46187)]) X47200 (fun t k => XS.iloadN X47200.here hx rfl (hb hby d24_15) rfl k) ?_
  refine ost (mkF m 17 (Las4624_0 b21606 b44109 b46187) [(.int (vs2213_100 q0)), (.ref b44109), (.int (0 : Int32)), (.ref b46187)]) X47200 (fun t k => own_ldI X47200 hx hZ e47200 A_b23626 (by decide) (congrArg Value.int (updOff (by decide) (updOff (by decide) (updOff (by decide) (updAt rfl))))) (g := (mkF m 16 (Las4624_0 b21606 b44109 b46187) [(.int (0 : Int32)), (.ref b23626), (.ref b44109), (.int (0 : Int32)), (.ref b46187)])) rfl rfl (hb hby d24_16) _ k) ?_
  refine ost (mkF m 18 (Las4624_0 b21606 b44109 b46187) [(.long ((Gs4422_34bbb q0 p2 p3 q1 p4 p5) ((vs2213_100 q0)).toNatClampNeg)), (.int (0 : Int32)), (.ref b46187)]) X47200 (fun t k => own_ldJ X47200 hx hZ e47200 A_b44109 (ibs4624_17 q0) rfl (g := (mkF m 17 (Las4624_0 b21606 b44109 b46187) [(.int (vs2213_100 q0)), (.ref b44109), (.int (0 : Int32)), (.ref b46187)])) rfl rfl (hb hby d24_17) _ k) ?_
  refine ost (mkF m 19 (Las4624_0 b21606 b44109 b46187) [(.ref b21606), (.long ((Gs4422_34bbb q0 p2 p3 q1 p4 p5) ((vs2213_100 q0)).toNatClampNeg)), (.int (0 : Int32)), (.ref b46187)]) X47200 (fun t k => XS.aloadN X47200.here hx rfl (hb hby d24_18) rfl rfl k) ?_
  obtain ⟨T47201, X47201, e47201, st47201⟩ := getF X47200 hx hZ hown (host := "") (Or.inl (hw _ (wm 104 rfl))) Via.refl e47200 F_m_shift_b21606 (g := (mkF m 19 (Las4624_0 b21606 b44109 b46187) [(.ref b21606), (.long ((Gs4422_34bbb q0 p2 p3 q1 p4 p5) ((vs2213_100 q0)).toNatClampNeg)), (.int (0 : Int32)), (.ref b46187)])) rfl rfl (hb hby d24_19)
  refine ost (mkF m 22 (Las4624_0 b21606 b44109 b46187) [(.ref b23641), (.long ((Gs4422_34bbb q0 p2 p3 q1 p4 p5) ((vs2213_100 q0)).toNatClampNeg)), (.int (0 : Int32)), (.ref b46187)]) X47201 (fun t k => st47201 _ k) ?_
  refine ost (mkF m 23 (Las4624_0 b21606 b44109 b46187) [(.int (0 : Int32)), (.ref b23641), (.long ((Gs4422_34bbb q0 p2 p3 q1 p4 p5) ((vs2213_100 q0)).toNatClampNeg)), (.int (0 : Int32)), (.ref b46187)]) X47201 (fun t k => XS.iloadN X47201.here hx rfl (hb hby d24_22) rfl k) ?_
  refine ost (mkF m 24 (Las4624_0 b21606 b44109 b46187) [(.int (0 : Int32)), (.long ((Gs4422_34bbb q0 p2 p3 q1 p4 p5) ((vs2213_100 q0)).toNatClampNeg)), (.int (0 : Int32)), (.ref b46187)]) X47201 (fun t k => own_ldI X47201 hx hZ e47201 A_b23641 (by decide) (congrArg Value.int (updOff (by decide) (updOff (by decide) (updOff (by decide) (updAt rfl))))) (g := (mkF m 23 (Las4624_0 b21606 b44109 b46187) [(.int (0 : Int32)), (.ref b23641), (.long ((Gs4422_34bbb q0 p2 p3 q1 p4 p5) ((vs2213_100 q0)).toNatClampNeg)), (.int (0 : Int32)), (.ref b46187)])) rfl rfl (hb hby d24_23) _ k) ?_
  refine ost (mkF m 25 (Las4624_0 b21606 b44109 b46187) [(.long (XT.ushrL ((Gs4422_34bbb q0 p2 p3 q1 p4 p5) ((vs2213_100 q0)).toNatClampNeg) (0 : Int32))), (.int (0 : Int32)), (.ref b46187)]) X47201 (fun t k => XT.lushr X47201.here hx rfl (hb hby d24_24) rfl k) ?_
  refine ost (mkF m 26 (Las4624_0 b21606 b44109 b46187) [(.ref b21606), (.long (XT.ushrL ((Gs4422_34bbb q0 p2 p3 q1 p4 p5) ((vs2213_100 q0)).toNatClampNeg) (0 : Int32))), (.int (0 : Int32)), (.ref b46187)]) X47201 (fun t k => XS.aloadN X47201.here hx rfl (hb hby d24_25) rfl rfl k) ?_
  obtain ⟨T47202, X47202, e47202, st47202⟩ := getF X47201 hx hZ hown (host := "") (Or.inl (hw _ (wm 107 rfl))) Via.refl e47201 F_m_mask_b21606 (g := (mkF m 26 (Las4624_0 b21606 b44109 b46187) [(.ref b21606), (.long (XT.ushrL ((Gs4422_34bbb q0 p2 p3 q1 p4 p5) ((vs2213_100 q0)).toNatClampNeg) (0 : Int32))), (.int (0 : Int32)), (.ref b46187)])) rfl rfl (hb hby d24_26)
  refine ost (mkF m 29 (Las4624_0 b21606 b44109 b46187) [(.ref b23662), (.long (XT.ushrL ((Gs4422_34bbb q0 p2 p3 q1 p4 p5) ((vs2213_100 q0)).toNatClampNeg) (0 : Int32))), (.int (0 : Int32)), (.ref b46187)]) X47202 (fun t k => st47202 _ k) ?_
  refine ost (mkF m 30 (Las4624_0 b21606 b44109 b46187) [(.int (0 : Int32)), (.ref b23662), (.long (XT.ushrL ((Gs4422_34bbb q0 p2 p3 q1 p4 p5) ((vs2213_100 q0)).toNatClampNeg) (0 : Int32))), (.int (0 : Int32)), (.ref b46187)]) X47202 (fun t k => XS.iloadN X47202.here hx rfl (hb hby d24_29) rfl k) ?_
  refine ost (mkF m 31 (Las4624_0 b21606 b44109 b46187) [(.long (((1 : Int64) <<< ((vs2213_84 q0).toInt64 &&& 63)) - (1 : Int64))), (.long (XT.ushrL ((Gs4422_34bbb q0 p2 p3 q1 p4 p5) ((vs2213_100 q0)).toNatClampNeg) (0 : Int32))), (.int (0 : Int32)), (.ref b46187)]) X47202 (fun t k => own_ldJ X47202 hx hZ e47202 A_b23662 (by decide) (congrArg Value.long (updOff (by decide) (updOff (by decide) (updOff (by decide) (updAt rfl))))) (g := (mkF m 30 (Las4624_0 b21606 b44109 b46187) [(.int (0 : Int32)), (.ref b23662), (.long (XT.ushrL ((Gs4422_34bbb q0 p2 p3 q1 p4 p5) ((vs2213_100 q0)).toNatClampNeg) (0 : Int32))), (.int (0 : Int32)), (.ref b46187)])) rfl rfl (hb hby d24_30) _ k) ?_
  refine ost (mkF m 32 (Las4624_0 b21606 b44109 b46187) [(.long ((XT.ushrL ((Gs4422_34bbb q0 p2 p3 q1 p4 p5) ((vs2213_100 q0)).toNatClampNeg) (0 : Int32)) &&& (((1 : Int64) <<< ((vs2213_84 q0).toInt64 &&& 63)) - (1 : Int64)))), (.int (0 : Int32)), (.ref b46187)]) X47202 (fun t k => XT.land X47202.here hx rfl (hb hby d24_31) rfl k) ?_
  refine ost (mkF m 33 (Las4624_0 b21606 b44109 b46187) [(.int (((XT.ushrL ((Gs4422_34bbb q0 p2 p3 q1 p4 p5) ((vs2213_100 q0)).toNatClampNeg) (0 : Int32)) &&& (((1 : Int64) <<< ((vs2213_84 q0).toInt64 &&& 63)) - (1 : Int64))).toInt32)), (.int (0 : Int32)), (.ref b46187)]) X47202 (fun t k => XT.l2i X47202.here hx rfl (hb hby d24_32) rfl k) ?_
  obtain ⟨T47203, h47203, L47203, X47203, e47203, N47203, K47203, A47203, st47203⟩ := own_stI X47202 hx hZ e47202 N0 (G := (fun _ => (0 : Int32))) A_b46187 g_b46187 (j := (0 : Int32)) (x := (((XT.ushrL ((Gs4422_34bbb q0 p2 p3 q1 p4 p5) ((vs2213_100 q0)).toNatClampNeg) (0 : Int32)) &&& (((1 : Int64) <<< ((vs2213_84 q0).toInt64 &&& 63)) - (1 : Int64))).toInt32)) (by decide) (g := (mkF m 33 (Las4624_0 b21606 b44109 b46187) [(.int (((XT.ushrL ((Gs4422_34bbb q0 p2 p3 q1 p4 p5) ((vs2213_100 q0)).toNatClampNeg) (0 : Int32)) &&& (((1 : Int64) <<< ((vs2213_84 q0).toInt64 &&& 63)) - (1 : Int64))).toInt32)), (.int (0 : Int32)), (.ref b46187)])) rfl rfl (hb hby d24_33)
  have B47203 : Ary Z h47203 b46187 .int 4 (fun i => .int ((Gs4624_33 q0 p2 p3 q1 p4 p5) i)) := A47203
  have Z47203 := Nat.le_trans Z0 K47203.1
  have S47203 := Nat.le_trans (Nat.le_refl h0.size) K47203.1
  refine ost (mkF m 34 (Las4624_0 b21606 b44109 b46187) []) X47203 (fun t k => st47203 _ k) ?_
  refine ost (mkF m 37 (Las4624_1 b21606 b44109 b46187) []) X47203 (fun t k => XS.iinc X47203.here hx rfl (hb hby d24_34) rfl (l' := (Las4624_1 b21606 b44109 b46187)) rfl k) ?_
  refine ost (mkF m 2 (Las4624_1 b21606 b44109 b46187) []) X47203 (fun t k => XS.goto X47203.here hx rfl (pc0 := 37) (pc' := 2) rfl (hb hby d24_37) (by decide) (by decide) k) ?_
  refine ost (mkF m 3 (Las4624_1 b21606 b44109 b46187) [(.int (1 : Int32))]) X47203 (fun t k => XS.iloadN X47203.here hx rfl (hb hby d24_2) rfl k) ?_
  refine ost (mkF m 4 (Las4624_1 b21606 b44109 b46187) [(.ref b46187), (.int (1 : Int32))]) X47203 (fun t k => XS.aloadN X47203.here hx rfl (hb hby d24_3) rfl rfl k) ?_
  refine ost (mkF m 5 (Las4624_1 b21606 b44109 b46187) [(.int (4 : Int32)), (.int (1 : Int32))]) X47203 (fun t k => own_len X47203 hx hZ e47203 B47203 (g := (mkF m 4 (Las4624_1 b21606 b44109 b46187) [(.ref b46187), (.int (1 : Int32))])) rfl rfl (hb hby d24_4) _ k) ?_
  refine ost (mkF m 8 (Las4624_1 b21606 b44109 b46187) []) X47203 (fun t k => XS.icmpNo X47203.here hx rfl (hb hby d24_5) rfl (tlt (show (1 : Int32) < (4 : Int32) by first | rfl | decide)).2.1 k) ?_
  refine ost (mkF m 9 (Las4624_1 b21606 b44109 b46187) [(.ref b46187)]) X47203 (fun t k => XS.aloadN X47203.here hx rfl (hb hby d24_8) rfl rfl k) ?_
  refine ost (mkF m 10 (Las4624_1 b21606 b44109 b46187) [(.int (1 : Int32)), (.ref b46187)]) X47203 (fun t k => XS.iloadN X47203.here hx rfl (hb hby d24_9) rfl k) ?_
  refine ost (mkF m 11 (Las4624_1 b21606 b44109 b46187) [(.ref b44109), (.int (1 : Int32)), (.ref b46187)]) X47203 (fun t k => XS.aloadN X47203.here hx rfl (hb hby d24_10) rfl rfl k) ?_
  refine ost (mkF m 12 (Las4624_1 b21606 b44109 b46187) [(.ref b21606), (.ref b44109), (.int (1 : Int32)), (.ref b46187)]) X47203 (fun t k => XS.aloadN X47203.here hx rfl (hb hby d24_11) rfl rfl k) ?_
  have F47204 := (F_m_word_b21606.keep K47203 (ninS ne_b21606_b46187 nin0))
  obtain ⟨T47205, X47205, e47205, st47205⟩ := getF X47203 hx hZ hown (host := "") (Or.inl (hw _ (wm 102 rfl))) Via.refl e47203 F47204 (g := (mkF m 12 (Las4624_1 b21606 b44109 b46187) [(.ref b21606), (.ref b44109), (.int (1 : Int32)), (.ref b46187)])) rfl rfl (hb hby d24_12)
  refine ost (mkF m 15 (Las4624_1 b21606 b44109 b46187) [(.ref b23626), (.ref b44109), (.int (1 : Int32)), (.ref b46187)]) X47205 (fun t k => st47205 _ k) ?_
  refine ost (mkF m 16 (Las4624_1 b21606 b44109 b46187) [(.int (1 : Int32)), (.ref b23626), (.ref b44109), (.int (1 : Int32)), (.ref b46187)]) X47205 (fun t k => XS.iloadN X47205.here hx rfl (hb hby d24_15) rfl k) ?_
  have A47206 := (A_b23626.keep K47203 (ninS ne_b23626_b46187 nin0))
  refine ost (mkF m 17 (Las4624_1 b21606 b44109 b46187) [(.int (vs2213_100b q0)), (.ref b44109), (.int (1 : Int32)), (.ref b46187)]) X47205 (fun t k => own_ldI X47205 hx hZ e47205 A47206 (by decide) (congrArg Value.int (updOff (by decide) (updOff (by decide) (updAt rfl)))) (g := (mkF m 16 (Las4624_1 b21606 b44109 b46187) [(.int (1 : Int32)), (.ref b23626), (.ref b44109), (.int (1 : Int32)), (.ref b46187)])) rfl rfl (hb hby d24_16) _ k) ?_
  have A47207 := (A_b44109.keep K47203 (ninS ne_b44109_b46187 nin0))
  refine ost (mkF m 18 (Las4624_1 b21606 b44109 b46187) [(.long ((Gs4422_34bbb q0 p2 p3 q1 p4 p5) ((vs2213_100b q0)).toNatClampNeg)), (.int (1 : Int32)), (.ref b46187)]) X47205 (fun t k => own_ldJ X47205 hx hZ e47205 A47207 (ibs4624_17z q0) rfl (g := (mkF m 17 (Las4624_1 b21606 b44109 b46187) [(.int (vs2213_100b q0)), (.ref b44109), (.int (1 : Int32)), (.ref b46187)])) rfl rfl (hb hby d24_17) _ k) ?_
  refine ost (mkF m 19 (Las4624_1 b21606 b44109 b46187) [(.ref b21606), (.long ((Gs4422_34bbb q0 p2 p3 q1 p4 p5) ((vs2213_100b q0)).toNatClampNeg)), (.int (1 : Int32)), (.ref b46187)]) X47205 (fun t k => XS.aloadN X47205.here hx rfl (hb hby d24_18) rfl rfl k) ?_
  have F47208 := (F_m_shift_b21606.keep K47203 (ninS ne_b21606_b46187 nin0))
  obtain ⟨T47209, X47209, e47209, st47209⟩ := getF X47205 hx hZ hown (host := "") (Or.inl (hw _ (wm 104 rfl))) Via.refl e47205 F47208 (g := (mkF m 19 (Las4624_1 b21606 b44109 b46187) [(.ref b21606), (.long ((Gs4422_34bbb q0 p2 p3 q1 p4 p5) ((vs2213_100b q0)).toNatClampNeg)), (.int (1 : Int32)), (.ref b46187)])) rfl rfl (hb hby d24_19)
  refine ost (mkF m 22 (Las4624_1 b21606 b44109 b46187) [(.ref b23641), (.long ((Gs4422_34bbb q0 p2 p3 q1 p4 p5) ((vs2213_100b q0)).toNatClampNeg)), (.int (1 : Int32)), (.ref b46187)]) X47209 (fun t k => st47209 _ k) ?_
  refine ost (mkF m 23 (Las4624_1 b21606 b44109 b46187) [(.int (1 : Int32)), (.ref b23641), (.long ((Gs4422_34bbb q0 p2 p3 q1 p4 p5) ((vs2213_100b q0)).toNatClampNeg)), (.int (1 : Int32)), (.ref b46187)]) X47209 (fun t k => XS.iloadN X47209.here hx rfl (hb hby d24_22) rfl k) ?_
  have A47210 := (A_b23641.keep K47203 (ninS ne_b23641_b46187 nin0))
  refine ost (mkF m 24 (Las4624_1 b21606 b44109 b46187) [(.int (vs2213_100bb q0)), (.long ((Gs4422_34bbb q0 p2 p3 q1 p4 p5) ((vs2213_100b q0)).toNatClampNeg)), (.int (1 : Int32)), (.ref b46187)]) X47209 (fun t k => own_ldI X47209 hx hZ e47209 A47210 (by decide) (congrArg Value.int (updOff (by decide) (updOff (by decide) (updAt rfl)))) (g := (mkF m 23 (Las4624_1 b21606 b44109 b46187) [(.int (1 : Int32)), (.ref b23641), (.long ((Gs4422_34bbb q0 p2 p3 q1 p4 p5) ((vs2213_100b q0)).toNatClampNeg)), (.int (1 : Int32)), (.ref b46187)])) rfl rfl (hb hby d24_23) _ k) ?_
  refine ost (mkF m 25 (Las4624_1 b21606 b44109 b46187) [(.long (XT.ushrL ((Gs4422_34bbb q0 p2 p3 q1 p4 p5) ((vs2213_100b q0)).toNatClampNeg) (vs2213_100bb q0))), (.int (1 : Int32)), (.ref b46187)]) X47209 (fun t k => XT.lushr X47209.here hx rfl (hb hby d24_24) rfl k) ?_
  refine ost (mkF m 26 (Las4624_1 b21606 b44109 b46187) [(.ref b21606), (.long (XT.ushrL ((Gs4422_34bbb q0 p2 p3 q1 p4 p5) ((vs2213_100b q0)).toNatClampNeg) (vs2213_100bb q0))), (.int (1 : Int32)), (.ref b46187)]) X47209 (fun t k => XS.aloadN X47209.here hx rfl (hb hby d24_25) rfl rfl k) ?_
  have F47211 := (F_m_mask_b21606.keep K47203 (ninS ne_b21606_b46187 nin0))
  obtain ⟨T47212, X47212, e47212, st47212⟩ := getF X47209 hx hZ hown (host := "") (Or.inl (hw _ (wm 107 rfl))) Via.refl e47209 F47211 (g := (mkF m 26 (Las4624_1 b21606 b44109 b46187) [(.ref b21606), (.long (XT.ushrL ((Gs4422_34bbb q0 p2 p3 q1 p4 p5) ((vs2213_100b q0)).toNatClampNeg) (vs2213_100bb q0))), (.int (1 : Int32)), (.ref b46187)])) rfl rfl (hb hby d24_26)
  refine ost (mkF m 29 (Las4624_1 b21606 b44109 b46187) [(.ref b23662), (.long (XT.ushrL ((Gs4422_34bbb q0 p2 p3 q1 p4 p5) ((vs2213_100b q0)).toNatClampNeg) (vs2213_100bb q0))), (.int (1 : Int32)), (.ref b46187)]) X47212 (fun t k => st47212 _ k) ?_
  refine ost (mkF m 30 (Las4624_1 b21606 b44109 b46187) [(.int (1 : Int32)), (.ref b23662), (.long (XT.ushrL ((Gs4422_34bbb q0 p2 p3 q1 p4 p5) ((vs2213_100b q0)).toNatClampNeg) (vs2213_100bb q0))), (.int (1 : Int32)), (.ref b46187)]) X47212 (fun t k => XS.iloadN X47212.here hx rfl (hb hby d24_29) rfl k) ?_
  have A47213 := (A_b23662.keep K47203 (ninS ne_b23662_b46187 nin0))
  refine ost (mkF m 31 (Las4624_1 b21606 b44109 b46187) [(.long (((1 : Int64) <<< ((vs2213_84b q0).toInt64 &&& 63)) - (1 : Int64))), (.long (XT.ushrL ((Gs4422_34bbb q0 p2 p3 q1 p4 p5) ((vs2213_100b q0)).toNatClampNeg) (vs2213_100bb q0))), (.int (1 : Int32)), (.ref b46187)]) X47212 (fun t k => own_ldJ X47212 hx hZ e47212 A47213 (by decide) (congrArg Value.long (updOff (by decide) (updOff (by decide) (updAt rfl)))) (g := (mkF m 30 (Las4624_1 b21606 b44109 b46187) [(.int (1 : Int32)), (.ref b23662), (.long (XT.ushrL ((Gs4422_34bbb q0 p2 p3 q1 p4 p5) ((vs2213_100b q0)).toNatClampNeg) (vs2213_100bb q0))), (.int (1 : Int32)), (.ref b46187)])) rfl rfl (hb hby d24_30) _ k) ?_
  refine ost (mkF m 32 (Las4624_1 b21606 b44109 b46187) [(.long ((XT.ushrL ((Gs4422_34bbb q0 p2 p3 q1 p4 p5) ((vs2213_100b q0)).toNatClampNeg) (vs2213_100bb q0)) &&& (((1 : Int64) <<< ((vs2213_84b q0).toInt64 &&& 63)) - (1 : Int64)))), (.int (1 : Int32)), (.ref b46187)]) X47212 (fun t k => XT.land X47212.here hx rfl (hb hby d24_31) rfl k) ?_
  refine ost (mkF m 33 (Las4624_1 b21606 b44109 b46187) [(.int (((XT.ushrL ((Gs4422_34bbb q0 p2 p3 q1 p4 p5) ((vs2213_100b q0)).toNatClampNeg) (vs2213_100bb q0)) &&& (((1 : Int64) <<< ((vs2213_84b q0).toInt64 &&& 63)) - (1 : Int64))).toInt32)), (.int (1 : Int32)), (.ref b46187)]) X47212 (fun t k => XT.l2i X47212.here hx rfl (hb hby d24_32) rfl k) ?_
  obtain ⟨T47214, h47214, L47214, X47214, e47214, N47214, K47214, A47214, st47214⟩ := own_stI X47212 hx hZ e47212 N47203 (G := (Gs4624_33 q0 p2 p3 q1 p4 p5)) B47203 g_b46187 (j := (1 : Int32)) (x := (((XT.ushrL ((Gs4422_34bbb q0 p2 p3 q1 p4 p5) ((vs2213_100b q0)).toNatClampNeg) (vs2213_100bb q0)) &&& (((1 : Int64) <<< ((vs2213_84b q0).toInt64 &&& 63)) - (1 : Int64))).toInt32)) (by decide) (g := (mkF m 33 (Las4624_1 b21606 b44109 b46187) [(.int (((XT.ushrL ((Gs4422_34bbb q0 p2 p3 q1 p4 p5) ((vs2213_100b q0)).toNatClampNeg) (vs2213_100bb q0)) &&& (((1 : Int64) <<< ((vs2213_84b q0).toInt64 &&& 63)) - (1 : Int64))).toInt32)), (.int (1 : Int32)), (.ref b46187)])) rfl rfl (hb hby d24_33)
  have B47214 : Ary Z h47214 b46187 .int 4 (fun i => .int ((Gs4624_33b q0 p2 p3 q1 p4 p5) i)) := A47214
  have Z47214 := Nat.le_trans Z47203 K47214.1
  have S47214 := Nat.le_trans S47203 K47214.1
  refine ost (mkF m 34 (Las4624_1 b21606 b44109 b46187) []) X47214 (fun t k => st47214 _ k) ?_
  refine ost (mkF m 37 (Las4624_2 b21606 b44109 b46187) []) X47214 (fun t k => XS.iinc X47214.here hx rfl (hb hby d24_34) rfl (l' := (Las4624_2 b21606 b44109 b46187)) rfl k) ?_
  refine ost (mkF m 2 (Las4624_2 b21606 b44109 b46187) []) X47214 (fun t k => XS.goto X47214.here hx rfl (pc0 := 37) (pc' := 2) rfl (hb hby d24_37) (by decide) (by decide) k) ?_
  refine ost (mkF m 3 (Las4624_2 b21606 b44109 b46187) [(.int (2 : Int32))]) X47214 (fun t k => XS.iloadN X47214.here hx rfl (hb hby d24_2) rfl k) ?_
  refine ost (mkF m 4 (Las4624_2 b21606 b44109 b46187) [(.ref b46187), (.int (2 : Int32))]) X47214 (fun t k => XS.aloadN X47214.here hx rfl (hb hby d24_3) rfl rfl k) ?_
  refine ost (mkF m 5 (Las4624_2 b21606 b44109 b46187) [(.int (4 : Int32)), (.int (2 : Int32))]) X47214 (fun t k => own_len X47214 hx hZ e47214 B47214 (g := (mkF m 4 (Las4624_2 b21606 b44109 b46187) [(.ref b46187), (.int (2 : Int32))])) rfl rfl (hb hby d24_4) _ k) ?_
  refine ost (mkF m 8 (Las4624_2 b21606 b44109 b46187) []) X47214 (fun t k => XS.icmpNo X47214.here hx rfl (hb hby d24_5) rfl (tlt (show (2 : Int32) < (4 : Int32) by first | rfl | decide)).2.1 k) ?_
  refine ost (mkF m 9 (Las4624_2 b21606 b44109 b46187) [(.ref b46187)]) X47214 (fun t k => XS.aloadN X47214.here hx rfl (hb hby d24_8) rfl rfl k) ?_
  refine ost (mkF m 10 (Las4624_2 b21606 b44109 b46187) [(.int (2 : Int32)), (.ref b46187)]) X47214 (fun t k => XS.iloadN X47214.here hx rfl (hb hby d24_9) rfl k) ?_
  refine ost (mkF m 11 (Las4624_2 b21606 b44109 b46187) [(.ref b44109), (.int (2 : Int32)), (.ref b46187)]) X47214 (fun t k => XS.aloadN X47214.here hx rfl (hb hby d24_10) rfl rfl k) ?_
  refine ost (mkF m 12 (Las4624_2 b21606 b44109 b46187) [(.ref b21606), (.ref b44109), (.int (2 : Int32)), (.ref b46187)]) X47214 (fun t k => XS.aloadN X47214.here hx rfl (hb hby d24_11) rfl rfl k) ?_
  have F47215 := (F47204.keep K47214 (ninS ne_b21606_b46187 nin0))
  obtain ⟨T47216, X47216, e47216, st47216⟩ := getF X47214 hx hZ hown (host := "") (Or.inl (hw _ (wm 102 rfl))) Via.refl e47214 F47215 (g := (mkF m 12 (Las4624_2 b21606 b44109 b46187) [(.ref b21606), (.ref b44109), (.int (2 : Int32)), (.ref b46187)])) rfl rfl (hb hby d24_12)
  refine ost (mkF m 15 (Las4624_2 b21606 b44109 b46187) [(.ref b23626), (.ref b44109), (.int (2 : Int32)), (.ref b46187)]) X47216 (fun t k => st47216 _ k) ?_
  refine ost (mkF m 16 (Las4624_2 b21606 b44109 b46187) [(.int (2 : Int32)), (.ref b23626), (.ref b44109), (.int (2 : Int32)), (.ref b46187)]) X47216 (fun t k => XS.iloadN X47216.here hx rfl (hb hby d24_15) rfl k) ?_
  have A47217 := (A47206.keep K47214 (ninS ne_b23626_b46187 nin0))
  refine ost (mkF m 17 (Las4624_2 b21606 b44109 b46187) [(.int (vs2213_100bbb q0 q1)), (.ref b44109), (.int (2 : Int32)), (.ref b46187)]) X47216 (fun t k => own_ldI X47216 hx hZ e47216 A47217 (by decide) (congrArg Value.int (updOff (by decide) (updAt rfl))) (g := (mkF m 16 (Las4624_2 b21606 b44109 b46187) [(.int (2 : Int32)), (.ref b23626), (.ref b44109), (.int (2 : Int32)), (.ref b46187)])) rfl rfl (hb hby d24_16) _ k) ?_
  have A47218 := (A47207.keep K47214 (ninS ne_b44109_b46187 nin0))
  refine ost (mkF m 18 (Las4624_2 b21606 b44109 b46187) [(.long ((Gs4422_34bbb q0 p2 p3 q1 p4 p5) ((vs2213_100bbb q0 q1)).toNatClampNeg)), (.int (2 : Int32)), (.ref b46187)]) X47216 (fun t k => own_ldJ X47216 hx hZ e47216 A47218 (ibs4624_17zz q0 q1) rfl (g := (mkF m 17 (Las4624_2 b21606 b44109 b46187) [(.int (vs2213_100bbb q0 q1)), (.ref b44109), (.int (2 : Int32)), (.ref b46187)])) rfl rfl (hb hby d24_17) _ k) ?_
  refine ost (mkF m 19 (Las4624_2 b21606 b44109 b46187) [(.ref b21606), (.long ((Gs4422_34bbb q0 p2 p3 q1 p4 p5) ((vs2213_100bbb q0 q1)).toNatClampNeg)), (.int (2 : Int32)), (.ref b46187)]) X47216 (fun t k => XS.aloadN X47216.here hx rfl (hb hby d24_18) rfl rfl k) ?_
  have F47219 := (F47208.keep K47214 (ninS ne_b21606_b46187 nin0))
  obtain ⟨T47220, X47220, e47220, st47220⟩ := getF X47216 hx hZ hown (host := "") (Or.inl (hw _ (wm 104 rfl))) Via.refl e47216 F47219 (g := (mkF m 19 (Las4624_2 b21606 b44109 b46187) [(.ref b21606), (.long ((Gs4422_34bbb q0 p2 p3 q1 p4 p5) ((vs2213_100bbb q0 q1)).toNatClampNeg)), (.int (2 : Int32)), (.ref b46187)])) rfl rfl (hb hby d24_19)
  refine ost (mkF m 22 (Las4624_2 b21606 b44109 b46187) [(.ref b23641), (.long ((Gs4422_34bbb q0 p2 p3 q1 p4 p5) ((vs2213_100bbb q0 q1)).toNatClampNeg)), (.int (2 : Int32)), (.ref b46187)]) X47220 (fun t k => st47220 _ k) ?_
  refine ost (mkF m 23 (Las4624_2 b21606 b44109 b46187) [(.int (2 : Int32)), (.ref b23641), (.long ((Gs4422_34bbb q0 p2 p3 q1 p4 p5) ((vs2213_100bbb q0 q1)).toNatClampNeg)), (.int (2 : Int32)), (.ref b46187)]) X47220 (fun t k => XS.iloadN X47220.here hx rfl (hb hby d24_22) rfl k) ?_
  have A47221 := (A47210.keep K47214 (ninS ne_b23641_b46187 nin0))
  refine ost (mkF m 24 (Las4624_2 b21606 b44109 b46187) [(.int (vs2213_100bbbb q0 q1)), (.long ((Gs4422_34bbb q0 p2 p3 q1 p4 p5) ((vs2213_100bbb q0 q1)).toNatClampNeg)), (.int (2 : Int32)), (.ref b46187)]) X47220 (fun t k => own_ldI X47220 hx hZ e47220 A47221 (by decide) (congrArg Value.int (updOff (by decide) (updAt rfl))) (g := (mkF m 23 (Las4624_2 b21606 b44109 b46187) [(.int (2 : Int32)), (.ref b23641), (.long ((Gs4422_34bbb q0 p2 p3 q1 p4 p5) ((vs2213_100bbb q0 q1)).toNatClampNeg)), (.int (2 : Int32)), (.ref b46187)])) rfl rfl (hb hby d24_23) _ k) ?_
  refine ost (mkF m 25 (Las4624_2 b21606 b44109 b46187) [(.long (XT.ushrL ((Gs4422_34bbb q0 p2 p3 q1 p4 p5) ((vs2213_100bbb q0 q1)).toNatClampNeg) (vs2213_100bbbb q0 q1))), (.int (2 : Int32)), (.ref b46187)]) X47220 (fun t k => XT.lushr X47220.here hx rfl (hb hby d24_24) rfl k) ?_
  refine ost (mkF m 26 (Las4624_2 b21606 b44109 b46187) [(.ref b21606), (.long (XT.ushrL ((Gs4422_34bbb q0 p2 p3 q1 p4 p5) ((vs2213_100bbb q0 q1)).toNatClampNeg) (vs2213_100bbbb q0 q1))), (.int (2 : Int32)), (.ref b46187)]) X47220 (fun t k => XS.aloadN X47220.here hx rfl (hb hby d24_25) rfl rfl k) ?_
  have F47222 := (F47211.keep K47214 (ninS ne_b21606_b46187 nin0))
  obtain ⟨T47223, X47223, e47223, st47223⟩ := getF X47220 hx hZ hown (host := "") (Or.inl (hw _ (wm 107 rfl))) Via.refl e47220 F47222 (g := (mkF m 26 (Las4624_2 b21606 b44109 b46187) [(.ref b21606), (.long (XT.ushrL ((Gs4422_34bbb q0 p2 p3 q1 p4 p5) ((vs2213_100bbb q0 q1)).toNatClampNeg) (vs2213_100bbbb q0 q1))), (.int (2 : Int32)), (.ref b46187)])) rfl rfl (hb hby d24_26)
  refine ost (mkF m 29 (Las4624_2 b21606 b44109 b46187) [(.ref b23662), (.long (XT.ushrL ((Gs4422_34bbb q0 p2 p3 q1 p4 p5) ((vs2213_100bbb q0 q1)).toNatClampNeg) (vs2213_100bbbb q0 q1))), (.int (2 : Int32)), (.ref b46187)]) X47223 (fun t k => st47223 _ k) ?_
  refine ost (mkF m 30 (Las4624_2 b21606 b44109 b46187) [(.int (2 : Int32)), (.ref b23662), (.long (XT.ushrL ((Gs4422_34bbb q0 p2 p3 q1 p4 p5) ((vs2213_100bbb q0 q1)).toNatClampNeg) (vs2213_100bbbb q0 q1))), (.int (2 : Int32)), (.ref b46187)]) X47223 (fun t k => XS.iloadN X47223.here hx rfl (hb hby d24_29) rfl k) ?_
  have A47224 := (A47213.keep K47214 (ninS ne_b23662_b46187 nin0))
  refine ost (mkF m 31 (Las4624_2 b21606 b44109 b46187) [(.long (((1 : Int64) <<< ((vs2213_84bb q1).toInt64 &&& 63)) - (1 : Int64))), (.long (XT.ushrL ((Gs4422_34bbb q0 p2 p3 q1 p4 p5) ((vs2213_100bbb q0 q1)).toNatClampNeg) (vs2213_100bbbb q0 q1))), (.int (2 : Int32)), (.ref b46187)]) X47223 (fun t k => own_ldJ X47223 hx hZ e47223 A47224 (by decide) (congrArg Value.long (updOff (by decide) (updAt rfl))) (g := (mkF m 30 (Las4624_2 b21606 b44109 b46187) [(.int (2 : Int32)), (.ref b23662), (.long (XT.ushrL ((Gs4422_34bbb q0 p2 p3 q1 p4 p5) ((vs2213_100bbb q0 q1)).toNatClampNeg) (vs2213_100bbbb q0 q1))), (.int (2 : Int32)), (.ref b46187)])) rfl rfl (hb hby d24_30) _ k) ?_
  refine ost (mkF m 32 (Las4624_2 b21606 b44109 b46187) [(.long ((XT.ushrL ((Gs4422_34bbb q0 p2 p3 q1 p4 p5) ((vs2213_100bbb q0 q1)).toNatClampNeg) (vs2213_100bbbb q0 q1)) &&& (((1 : Int64) <<< ((vs2213_84bb q1).toInt64 &&& 63)) - (1 : Int64)))), (.int (2 : Int32)), (.ref b46187)]) X47223 (fun t k => XT.land X47223.here hx rfl (hb hby d24_31) rfl k) ?_
  refine ost (mkF m 33 (Las4624_2 b21606 b44109 b46187) [(.int (((XT.ushrL ((Gs4422_34bbb q0 p2 p3 q1 p4 p5) ((vs2213_100bbb q0 q1)).toNatClampNeg) (vs2213_100bbbb q0 q1)) &&& (((1 : Int64) <<< ((vs2213_84bb q1).toInt64 &&& 63)) - (1 : Int64))).toInt32)), (.int (2 : Int32)), (.ref b46187)]) X47223 (fun t k => XT.l2i X47223.here hx rfl (hb hby d24_32) rfl k) ?_
  obtain ⟨T47225, h47225, L47225, X47225, e47225, N47225, K47225, A47225, st47225⟩ := own_stI X47223 hx hZ e47223 N47214 (G := (Gs4624_33b q0 p2 p3 q1 p4 p5)) B47214 g_b46187 (j := (2 : Int32)) (x := (((XT.ushrL ((Gs4422_34bbb q0 p2 p3 q1 p4 p5) ((vs2213_100bbb q0 q1)).toNatClampNeg) (vs2213_100bbbb q0 q1)) &&& (((1 : Int64) <<< ((vs2213_84bb q1).toInt64 &&& 63)) - (1 : Int64))).toInt32)) (by decide) (g := (mkF m 33 (Las4624_2 b21606 b44109 b46187) [(.int (((XT.ushrL ((Gs4422_34bbb q0 p2 p3 q1 p4 p5) ((vs2213_100bbb q0 q1)).toNatClampNeg) (vs2213_100bbbb q0 q1)) &&& (((1 : Int64) <<< ((vs2213_84bb q1).toInt64 &&& 63)) - (1 : Int64))).toInt32)), (.int (2 : Int32)), (.ref b46187)])) rfl rfl (hb hby d24_33)
  have B47225 : Ary Z h47225 b46187 .int 4 (fun i => .int ((Gs4624_33bb q0 p2 p3 q1 p4 p5) i)) := A47225
  have Z47225 := Nat.le_trans Z47214 K47225.1
  have S47225 := Nat.le_trans S47214 K47225.1
  refine ost (mkF m 34 (Las4624_2 b21606 b44109 b46187) []) X47225 (fun t k => st47225 _ k) ?_
  refine ost (mkF m 37 (Las4624_3 b21606 b44109 b46187) []) X47225 (fun t k => XS.iinc X47225.here hx rfl (hb hby d24_34) rfl (l' := (Las4624_3 b21606 b44109 b46187)) rfl k) ?_
  refine ost (mkF m 2 (Las4624_3 b21606 b44109 b46187) []) X47225 (fun t k => XS.goto X47225.here hx rfl (pc0 := 37) (pc' := 2) rfl (hb hby d24_37) (by decide) (by decide) k) ?_
  refine ost (mkF m 3 (Las4624_3 b21606 b44109 b46187) [(.int (3 : Int32))]) X47225 (fun t k => XS.iloadN X47225.here hx rfl (hb hby d24_2) rfl k) ?_
  refine ost (mkF m 4 (Las4624_3 b21606 b44109 b46187) [(.ref b46187), (.int (3 : Int32))]) X47225 (fun t k => XS.aloadN X47225.here hx rfl (hb hby d24_3) rfl rfl k) ?_
  refine ost (mkF m 5 (Las4624_3 b21606 b44109 b46187) [(.int (4 : Int32)), (.int (3 : Int32))]) X47225 (fun t k => own_len X47225 hx hZ e47225 B47225 (g := (mkF m 4 (Las4624_3 b21606 b44109 b46187) [(.ref b46187), (.int (3 : Int32))])) rfl rfl (hb hby d24_4) _ k) ?_
  refine ost (mkF m 8 (Las4624_3 b21606 b44109 b46187) []) X47225 (fun t k => XS.icmpNo X47225.here hx rfl (hb hby d24_5) rfl (tlt (show (3 : Int32) < (4 : Int32) by first | rfl | decide)).2.1 k) ?_
  refine ost (mkF m 9 (Las4624_3 b21606 b44109 b46187) [(.ref b46187)]) X47225 (fun t k => XS.aloadN X47225.here hx rfl (hb hby d24_8) rfl rfl k) ?_
  refine ost (mkF m 10 (Las4624_3 b21606 b44109 b46187) [(.int (3 : Int32)), (.ref b46187)]) X47225 (fun t k => XS.iloadN X47225.here hx rfl (hb hby d24_9) rfl k) ?_
  refine ost (mkF m 11 (Las4624_3 b21606 b44109 b46187) [(.ref b44109), (.int (3 : Int32)), (.ref b46187)]) X47225 (fun t k => XS.aloadN X47225.here hx rfl (hb hby d24_10) rfl rfl k) ?_
  refine ost (mkF m 12 (Las4624_3 b21606 b44109 b46187) [(.ref b21606), (.ref b44109), (.int (3 : Int32)), (.ref b46187)]) X47225 (fun t k => XS.aloadN X47225.here hx rfl (hb hby d24_11) rfl rfl k) ?_
  have F47226 := (F47215.keep K47225 (ninS ne_b21606_b46187 nin0))
  obtain ⟨T47227, X47227, e47227, st47227⟩ := getF X47225 hx hZ hown (host := "") (Or.inl (hw _ (wm 102 rfl))) Via.refl e47225 F47226 (g := (mkF m 12 (Las4624_3 b21606 b44109 b46187) [(.ref b21606), (.ref b44109), (.int (3 : Int32)), (.ref b46187)])) rfl rfl (hb hby d24_12)
  refine ost (mkF m 15 (Las4624_3 b21606 b44109 b46187) [(.ref b23626), (.ref b44109), (.int (3 : Int32)), (.ref b46187)]) X47227 (fun t k => st47227 _ k) ?_
  refine ost (mkF m 16 (Las4624_3 b21606 b44109 b46187) [(.int (3 : Int32)), (.ref b23626), (.ref b44109), (.int (3 : Int32)), (.ref b46187)]) X47227 (fun t k => XS.iloadN X47227.here hx rfl (hb hby d24_15) rfl k) ?_
  have A47228 := (A47217.keep K47225 (ninS ne_b23626_b46187 nin0))
  refine ost (mkF m 17 (Las4624_3 b21606 b44109 b46187) [(.int (vs2213_100bbbbb q0 q1)), (.ref b44109), (.int (3 : Int32)), (.ref b46187)]) X47227 (fun t k => own_ldI X47227 hx hZ e47227 A47228 (by decide) (congrArg Value.int (updAt rfl)) (g := (mkF m 16 (Las4624_3 b21606 b44109 b46187) [(.int (3 : Int32)), (.ref b23626), (.ref b44109), (.int (3 : Int32)), (.ref b46187)])) rfl rfl (hb hby d24_16) _ k) ?_
  have A47229 := (A47218.keep K47225 (ninS ne_b44109_b46187 nin0))
  refine ost (mkF m 18 (Las4624_3 b21606 b44109 b46187) [(.long ((Gs4422_34bbb q0 p2 p3 q1 p4 p5) ((vs2213_100bbbbb q0 q1)).toNatClampNeg)), (.int (3 : Int32)), (.ref b46187)]) X47227 (fun t k => own_ldJ X47227 hx hZ e47227 A47229 (ibs4624_17zzz q0 q1) rfl (g := (mkF m 17 (Las4624_3 b21606 b44109 b46187) [(.int (vs2213_100bbbbb q0 q1)), (.ref b44109), (.int (3 : Int32)), (.ref b46187)])) rfl rfl (hb hby d24_17) _ k) ?_
  refine ost (mkF m 19 (Las4624_3 b21606 b44109 b46187) [(.ref b21606), (.long ((Gs4422_34bbb q0 p2 p3 q1 p4 p5) ((vs2213_100bbbbb q0 q1)).toNatClampNeg)), (.int (3 : Int32)), (.ref b46187)]) X47227 (fun t k => XS.aloadN X47227.here hx rfl (hb hby d24_18) rfl rfl k) ?_
  have F47230 := (F47219.keep K47225 (ninS ne_b21606_b46187 nin0))
  obtain ⟨T47231, X47231, e47231, st47231⟩ := getF X47227 hx hZ hown (host := "") (Or.inl (hw _ (wm 104 rfl))) Via.refl e47227 F47230 (g := (mkF m 19 (Las4624_3 b21606 b44109 b46187) [(.ref b21606), (.long ((Gs4422_34bbb q0 p2 p3 q1 p4 p5) ((vs2213_100bbbbb q0 q1)).toNatClampNeg)), (.int (3 : Int32)), (.ref b46187)])) rfl rfl (hb hby d24_19)
  refine ost (mkF m 22 (Las4624_3 b21606 b44109 b46187) [(.ref b23641), (.long ((Gs4422_34bbb q0 p2 p3 q1 p4 p5) ((vs2213_100bbbbb q0 q1)).toNatClampNeg)), (.int (3 : Int32)), (.ref b46187)]) X47231 (fun t k => st47231 _ k) ?_
  refine ost (mkF m 23 (Las4624_3 b21606 b44109 b46187) [(.int (3 : Int32)), (.ref b23641), (.long ((Gs4422_34bbb q0 p2 p3 q1 p4 p5) ((vs2213_100bbbbb q0 q1)).toNatClampNeg)), (.int (3 : Int32)), (.ref b46187)]) X47231 (fun t k => XS.iloadN X47231.here hx rfl (hb hby d24_22) rfl k) ?_
  have A47232 := (A47221.keep K47225 (ninS ne_b23641_b46187 nin0))
  refine ost (mkF m 24 (Las4624_3 b21606 b44109 b46187) [(.int (vs2213_100bbbbbb q0 q1)), (.long ((Gs4422_34bbb q0 p2 p3 q1 p4 p5) ((vs2213_100bbbbb q0 q1)).toNatClampNeg)), (.int (3 : Int32)), (.ref b46187)]) X47231 (fun t k => own_ldI X47231 hx hZ e47231 A47232 (by decide) (congrArg Value.int (updAt rfl)) (g := (mkF m 23 (Las4624_3 b21606 b44109 b46187) [(.int (3 : Int32)), (.ref b23641), (.long ((Gs4422_34bbb q0 p2 p3 q1 p4 p5) ((vs2213_100bbbbb q0 q1)).toNatClampNeg)), (.int (3 : Int32)), (.ref b46187)])) rfl rfl (hb hby d24_23) _ k) ?_
  refine ost (mkF m 25 (Las4624_3 b21606 b44109 b46187) [(.long (XT.ushrL ((Gs4422_34bbb q0 p2 p3 q1 p4 p5) ((vs2213_100bbbbb q0 q1)).toNatClampNeg) (vs2213_100bbbbbb q0 q1))), (.int (3 : Int32)), (.ref b46187)]) X47231 (fun t k => XT.lushr X47231.here hx rfl (hb hby d24_24) rfl k) ?_
  refine ost (mkF m 26 (Las4624_3 b21606 b44109 b46187) [(.ref b21606), (.long (XT.ushrL ((Gs4422_34bbb q0 p2 p3 q1 p4 p5) ((vs2213_100bbbbb q0 q1)).toNatClampNeg) (vs2213_100bbbbbb q0 q1))), (.int (3 : Int32)), (.ref b46187)]) X47231 (fun t k => XS.aloadN X47231.here hx rfl (hb hby d24_25) rfl rfl k) ?_
  have F47233 := (F47222.keep K47225 (ninS ne_b21606_b46187 nin0))
  obtain ⟨T47234, X47234, e47234, st47234⟩ := getF X47231 hx hZ hown (host := "") (Or.inl (hw _ (wm 107 rfl))) Via.refl e47231 F47233 (g := (mkF m 26 (Las4624_3 b21606 b44109 b46187) [(.ref b21606), (.long (XT.ushrL ((Gs4422_34bbb q0 p2 p3 q1 p4 p5) ((vs2213_100bbbbb q0 q1)).toNatClampNeg) (vs2213_100bbbbbb q0 q1))), (.int (3 : Int32)), (.ref b46187)])) rfl rfl (hb hby d24_26)
  refine ost (mkF m 29 (Las4624_3 b21606 b44109 b46187) [(.ref b23662), (.long (XT.ushrL ((Gs4422_34bbb q0 p2 p3 q1 p4 p5) ((vs2213_100bbbbb q0 q1)).toNatClampNeg) (vs2213_100bbbbbb q0 q1))), (.int (3 : Int32)), (.ref b46187)]) X47234 (fun t k => st47234 _ k) ?_
  refine ost (mkF m 30 (Las4624_3 b21606 b44109 b46187) [(.int (3 : Int32)), (.ref b23662), (.long (XT.ushrL ((Gs4422_34bbb q0 p2 p3 q1 p4 p5) ((vs2213_100bbbbb q0 q1)).toNatClampNeg) (vs2213_100bbbbbb q0 q1))), (.int (3 : Int32)), (.ref b46187)]) X47234 (fun t k => XS.iloadN X47234.here hx rfl (hb hby d24_29) rfl k) ?_
  have A47235 := (A47224.keep K47225 (ninS ne_b23662_b46187 nin0))
  refine ost (mkF m 31 (Las4624_3 b21606 b44109 b46187) [(.long (((1 : Int64) <<< ((vs2213_84bbb q1).toInt64 &&& 63)) - (1 : Int64))), (.long (XT.ushrL ((Gs4422_34bbb q0 p2 p3 q1 p4 p5) ((vs2213_100bbbbb q0 q1)).toNatClampNeg) (vs2213_100bbbbbb q0 q1))), (.int (3 : Int32)), (.ref b46187)]) X47234 (fun t k => own_ldJ X47234 hx hZ e47234 A47235 (by decide) (congrArg Value.long (updAt rfl)) (g := (mkF m 30 (Las4624_3 b21606 b44109 b46187) [(.int (3 : Int32)), (.ref b23662), (.long (XT.ushrL ((Gs4422_34bbb q0 p2 p3 q1 p4 p5) ((vs2213_100bbbbb q0 q1)).toNatClampNeg) (vs2213_100bbbbbb q0 q1))), (.int (3 : Int32)), (.ref b46187)])) rfl rfl (hb hby d24_30) _ k) ?_
  refine ost (mkF m 32 (Las4624_3 b21606 b44109 b46187) [(.long ((XT.ushrL ((Gs4422_34bbb q0 p2 p3 q1 p4 p5) ((vs2213_100bbbbb q0 q1)).toNatClampNeg) (vs2213_100bbbbbb q0 q1)) &&& (((1 : Int64) <<< ((vs2213_84bbb q1).toInt64 &&& 63)) - (1 : Int64)))), (.int (3 : Int32)), (.ref b46187)]) X47234 (fun t k => XT.land X47234.here hx rfl (hb hby d24_31) rfl k) ?_
  refine ost (mkF m 33 (Las4624_3 b21606 b44109 b46187) [(.int (((XT.ushrL ((Gs4422_34bbb q0 p2 p3 q1 p4 p5) ((vs2213_100bbbbb q0 q1)).toNatClampNeg) (vs2213_100bbbbbb q0 q1)) &&& (((1 : Int64) <<< ((vs2213_84bbb q1).toInt64 &&& 63)) - (1 : Int64))).toInt32)), (.int (3 : Int32)), (.ref b46187)]) X47234 (fun t k => XT.l2i X47234.here hx rfl (hb hby d24_32) rfl k) ?_
  obtain ⟨T47236, h47236, L47236, X47236, e47236, N47236, K47236, A47236, st47236⟩ := own_stI X47234 hx hZ e47234 N47225 (G := (Gs4624_33bb q0 p2 p3 q1 p4 p5)) B47225 g_b46187 (j := (3 : Int32)) (x := (((XT.ushrL ((Gs4422_34bbb q0 p2 p3 q1 p4 p5) ((vs2213_100bbbbb q0 q1)).toNatClampNeg) (vs2213_100bbbbbb q0 q1)) &&& (((1 : Int64) <<< ((vs2213_84bbb q1).toInt64 &&& 63)) - (1 : Int64))).toInt32)) (by decide) (g := (mkF m 33 (Las4624_3 b21606 b44109 b46187) [(.int (((XT.ushrL ((Gs4422_34bbb q0 p2 p3 q1 p4 p5) ((vs2213_100bbbbb q0 q1)).toNatClampNeg) (vs2213_100bbbbbb q0 q1)) &&& (((1 : Int64) <<< ((vs2213_84bbb q1).toInt64 &&& 63)) - (1 : Int64))).toInt32)), (.int (3 : Int32)), (.ref b46187)])) rfl rfl (hb hby d24_33)
  have B47236 : Ary Z h47236 b46187 .int 4 (fun i => .int ((Gs4624_33bbb q0 p2 p3 q1 p4 p5) i)) := A47236
  have Z47236 := Nat.le_trans Z47225 K47236.1
  have S47236 := Nat.le_trans S47225 K47236.1
  refine ost (mkF m 34 (Las4624_3 b21606 b44109 b46187) []) X47236 (fun t k => st47236 _ k) ?_
  refine ost (mkF m 37 (Las4624_4 b21606 b44109 b46187) []) X47236 (fun t k => XS.iinc X47236.here hx rfl (hb hby d24_34) rfl (l' := (Las4624_4 b21606 b44109 b46187)) rfl k) ?_
  refine ost (mkF m 2 (Las4624_4 b21606 b44109 b46187) []) X47236 (fun t k => XS.goto X47236.here hx rfl (pc0 := 37) (pc' := 2) rfl (hb hby d24_37) (by decide) (by decide) k) ?_
  refine ost (mkF m 3 (Las4624_4 b21606 b44109 b46187) [(.int (4 : Int32))]) X47236 (fun t k => XS.iloadN X47236.here hx rfl (hb hby d24_2) rfl k) ?_
  refine ost (mkF m 4 (Las4624_4 b21606 b44109 b46187) [(.ref b46187), (.int (4 : Int32))]) X47236 (fun t k => XS.aloadN X47236.here hx rfl (hb hby d24_3) rfl rfl k) ?_
  refine ost (mkF m 5 (Las4624_4 b21606 b44109 b46187) [(.int (4 : Int32)), (.int (4 : Int32))]) X47236 (fun t k => own_len X47236 hx hZ e47236 B47236 (g := (mkF m 4 (Las4624_4 b21606 b44109 b46187) [(.ref b46187), (.int (4 : Int32))])) rfl rfl (hb hby d24_4) _ k) ?_
  refine ost (mkF m 40 (Las4624_4 b21606 b44109 b46187) []) X47236 (fun t k => XS.icmpYes X47236.here hx rfl (pc0 := 5) (pc' := 40) rfl (hb hby d24_5) rfl (flt (show ¬ ((4 : Int32) < (4 : Int32)) by first | decide | exact Int32.lt_irrefl _ | exact Int64.lt_irrefl _)).2.1 (by decide) (by decide) k) ?_
  refine OwnFin.retVoid X47236 (hb hby d24_40) (by decide) (by decide) ?_
  rw [e47236]
  exact ⟨rfl, N47236, (Keep.trans (Keep.trans (Keep.trans (Keep.trans (Keep.refl h0 [b46187]) K47203 (allS (Or.inl (wm 0 rfl)) all0)) K47214 (allS (Or.inl (wm 0 rfl)) all0)) K47225 (allS (Or.inl (wm 0 rfl)) all0)) K47236 (allS (Or.inl (wm 0 rfl)) all0)), B47236⟩)
def Q23s45 (Z : State) (b44109 : Addr) (h0 : Heap) (n0 : Nat) : Option Value → Heap → List Loc → Prop := fun v h L => v = none ∧ Fr n0 L ∧ Keep h0 h [b44109] ∧ Ary Z h b44109 .long 2 (fun i => .long ((Gs4523_15b) i))
abbrev Las4523_0 (b44109 : Addr) : Array Slot := #[.val (.ref b44109), .val (.long (0 : Int64)), .second, .unset, .unset]
abbrev Las4523_1 (b44109 : Addr) : Array Slot := #[.val (.ref b44109), .val (.long (0 : Int64)), .second, .val (.int (0 : Int32)), .unset]
abbrev Las4523_2 (b44109 : Addr) : Array Slot := #[.val (.ref b44109), .val (.long (0 : Int64)), .second, .val (.int (0 : Int32)), .val (.int (2 : Int32))]
abbrev Las4523_3 (b44109 : Addr) : Array Slot := #[.val (.ref b44109), .val (.long (0 : Int64)), .second, .val (.int (1 : Int32)), .val (.int (2 : Int32))]
abbrev Las4523_4 (b44109 : Addr) : Array Slot := #[.val (.ref b44109), .val (.long (0 : Int64)), .second, .val (.int (2 : Int32)), .val (.int (2 : Int32))]
set_option maxRecDepth 65536 in
set_option maxHeartbeats 40000000 in
theorem rm23s45 (l : Launch) (Z : State) (a0 : Array Value) (hw : ∀ d ∈ tables_1, d.before a0 Z = true) (ws : List Jvm.Cond) (b44109 : Addr) (h0 : Heap) (n0 : Nat) (Z0 : n0 ≤ h0.size) (A_b44109 : Ary Z h0 b44109 .long 2 (fun i => .long ((fun _ => (0 : Int64)) i))) (g_b44109 : n0 ≤ b44109) :
    MetFree l Y22 (head1 (Jvm.Cond.code Y22 jdk_65_method_101_code 5 none :: ws) ({ frames := 0, cells := 0, slots := 0, locals := 0 } : Room)) (fun a U => a = #[(.ref b44109), (.long (0 : Int64))] ∧ Z.Warmed39 U.vm ∧ U.heap = h0) (fun _ _ _ _ _ => True) (fun _ U o U' => ∃ v L, o = .returned v ∧ (Q23s45 Z b44109 h0 n0) v U'.heap L ∧ FrameEnd U o U' L ({ frames := 0, cells := 0, slots := 0, locals := 0 } : Room).cells ({ frames := 0, cells := 0, slots := 0, locals := 0 } : Room).slots) :=
  own_met (ret := none) (Q := (Q23s45 Z b44109 h0 n0)) (plainFor_of_name pn_23) (fun m => ef_23 m b44109 (0 : Int64)) (fun p e s m below meth c T0 X0 hx hby hml hown hnm hZ e0 => by
  have N0 := Fr.nil n0
  refine ost (mkF m 1 (Las4523_0 b44109) [(.int (0 : Int32))]) X0 (fun t k => XS.iconst X0.here hx rfl (hb hby d23_0) k) ?_
  refine ost (mkF m 2 (Las4523_1 b44109) []) X0 (fun t k => XS.istoreN X0.here hx rfl (hb hby d23_1) rfl (l' := (Las4523_1 b44109)) rfl k) ?_
  refine ost (mkF m 3 (Las4523_1 b44109) [(.ref b44109)]) X0 (fun t k => XS.aloadN X0.here hx rfl (hb hby d23_2) rfl rfl k) ?_
  refine ost (mkF m 4 (Las4523_1 b44109) [(.int (2 : Int32))]) X0 (fun t k => own_len X0 hx hZ e0 A_b44109 (g := (mkF m 3 (Las4523_1 b44109) [(.ref b44109)])) rfl rfl (hb hby d23_3) _ k) ?_
  refine ost (mkF m 6 (Las4523_2 b44109) []) X0 (fun t k => XS.istore X0.here hx rfl (hb hby d23_4) rfl (l' := (Las4523_2 b44109)) rfl k) ?_
  refine ost (mkF m 7 (Las4523_2 b44109) [(.int (0 : Int32))]) X0 (fun t k => XS.iloadN X0.here hx rfl (hb hby d23_6) rfl k) ?_
  refine ost (mkF m 9 (Las4523_2 b44109) [(.int (2 : Int32)), (.int (0 : Int32))]) X0 (fun t k => XS.iload X0.here hx rfl (hb hby d23_7) rfl k) ?_
  refine ost (mkF m 12 (Las4523_2 b44109) []) X0 (fun t k => XS.icmpNo X0.here hx rfl (hb hby d23_9) rfl (tlt (show (0 : Int32) < (2 : Int32) by first | rfl | decide)).2.1 k) ?_
  refine ost (mkF m 13 (Las4523_2 b44109) [(.ref b44109)]) X0 (fun t k => XS.aloadN X0.here hx rfl (hb hby d23_12) rfl rfl k) ?_
  refine ost (mkF m 14 (Las4523_2 b44109) [(.int (0 : Int32)), (.ref b44109)]) X0 (fun t k => XS.iloadN X0.here hx rfl (hb hby d23_13) rfl k) ?_
  refine ost (mkF m 15 (Las4523_2 b44109) [(.long (0 : Int64)), (.int (0 : Int32)), (.ref b44109)]) X0 (fun t k => XT.lloadN X0.here hx rfl (hb hby d23_14) rfl k) ?_
  obtain ⟨T46122, h46122, L46122, X46122, e46122, N46122, K46122, A46122, st46122⟩ := own_stJ X0 hx hZ e0 N0 (G := (fun _ => (0 : Int64))) A_b44109 g_b44109 (j := (0 : Int32)) (x := (0 : Int64)) (by decide) (g := (mkF m 15 (Las4523_2 b44109) [(.long (0 : Int64)), (.int (0 : Int32)), (.ref b44109)])) rfl rfl (hb hby d23_15)
  have B46122 : Ary Z h46122 b44109 .long 2 (fun i => .long ((Gs4523_15) i)) := A46122
  have Z46122 := Nat.le_trans Z0 K46122.1
  have S46122 := Nat.le_trans (Nat.le_refl h0.size) K46122.1
  refine ost (mkF m 16 (Las4523_2 b44109) []) X46122 (fun t k => st46122 _ k) ?_
  refine ost (mkF m 19 (Las4523_3 b44109) []) X46122 (fun t k => XS.iinc X46122.here hx rfl (hb hby d23_16) rfl (l' := (Las4523_3 b44109)) rfl k) ?_
  refine ost (mkF m 6 (Las4523_3 b44109) []) X46122 (fun t k => XS.goto X46122.here hx rfl (pc0 := 19) (pc' := 6) rfl (hb hby d23_19) (by decide) (by decide) k) ?_
  refine ost (mkF m 7 (Las4523_3 b44109) [(.int (1 : Int32))]) X46122 (fun t k => XS.iloadN X46122.here hx rfl (hb hby d23_6) rfl k) ?_
  refine ost (mkF m 9 (Las4523_3 b44109) [(.int (2 : Int32)), (.int (1 : Int32))]) X46122 (fun t k => XS.iload X46122.here hx rfl (hb hby d23_7) rfl k) ?_
  refine ost (mkF m 12 (Las4523_3 b44109) []) X46122 (fun t k => XS.icmpNo X46122.here hx rfl (hb hby d23_9) rfl (tlt (show (1 : Int32) < (2 : Int32) by first | rfl | decide)).2.1 k) ?_
  refine ost (mkF m 13 (Las4523_3 b44109) [(.ref b44109)]) X46122 (fun t k => XS.aloadN X46122.here hx rfl (hb hby d23_12) rfl rfl k) ?_
  refine ost (mkF m 14 (Las4523_3 b44109) [(.int (1 : Int32)), (.ref b44109)]) X46122 (fun t k => XS.iloadN X46122.here hx rfl (hb hby d23_13) rfl k) ?_
  refine ost (mkF m 15 (Las4523_3 b44109) [(.long (0 : Int64)), (.int (1 : Int32)), (.ref b44109)]) X46122 (fun t k => XT.lloadN X46122.here hx rfl (hb hby d23_14) rfl k) ?_
  obtain ⟨T46123, h46123, L46123, X46123, e46123, N46123, K46123, A46123, st46123⟩ := own_stJ X46122 hx hZ e46122 N46122 (G := (Gs4523_15)) B46122 g_b44109 (j := (1 : Int32)) (x := (0 : Int64)) (by decide) (g := (mkF m 15 (Las4523_3 b44109) [(.long (0 : Int64)), (.int (1 : Int32)), (.ref b44109)])) rfl rfl (hb hby d23_15)
  have B46123 : Ary Z h46123 b44109 .long 2 (fun i => .long ((Gs4523_15b) i)) := A46123
  have Z46123 := Nat.le_trans Z46122 K46123.1
  have S46123 := Nat.le_trans S46122 K46123.1
  refine ost (mkF m 16 (Las4523_3 b44109) []) X46123 (fun t k => st46123 _ k) ?_
  refine ost (mkF m 19 (Las4523_4 b44109) []) X46123 (fun t k => XS.iinc X46123.here hx rfl (hb hby d23_16) rfl (l' := (Las4523_4 b44109)) rfl k) ?_
  refine ost (mkF m 6 (Las4523_4 b44109) []) X46123 (fun t k => XS.goto X46123.here hx rfl (pc0 := 19) (pc' := 6) rfl (hb hby d23_19) (by decide) (by decide) k) ?_
  refine ost (mkF m 7 (Las4523_4 b44109) [(.int (2 : Int32))]) X46123 (fun t k => XS.iloadN X46123.here hx rfl (hb hby d23_6) rfl k) ?_
  refine ost (mkF m 9 (Las4523_4 b44109) [(.int (2 : Int32)), (.int (2 : Int32))]) X46123 (fun t k => XS.iload X46123.here hx rfl (hb hby d23_7) rfl k) ?_
  refine ost (mkF m 22 (Las4523_4 b44109) []) X46123 (fun t k => XS.icmpYes X46123.here hx rfl (pc0 := 9) (pc' := 22) rfl (hb hby d23_9) rfl (flt (show ¬ ((2 : Int32) < (2 : Int32)) by first | decide | exact Int32.lt_irrefl _ | exact Int64.lt_irrefl _)).2.1 (by decide) (by decide) k) ?_
  refine OwnFin.retVoid X46123 (hb hby d23_22) (by decide) (by decide) ?_
  rw [e46123]
  exact ⟨rfl, N46123, (Keep.trans (Keep.trans (Keep.refl h0 [b44109]) K46122 (allS (Or.inl (wm 0 rfl)) all0)) K46123 (allS (Or.inl (wm 0 rfl)) all0)), B46123⟩)
def Q22s44 (Z : State) (q0 : Int64) (q1 : Int64) (p2 : Int32) (p3 : Int32) (p4 : Int32) (p5 : Int32) (b21606 : Addr) (b23626 : Addr) (b23641 : Addr) (b44094 : Addr) (b44109 : Addr) (h0 : Heap) (n0 : Nat) : Option Value → Heap → List Loc → Prop := fun v h L => v = none ∧ Fr n0 L ∧ Keep h0 h [b44109] ∧ Ary Z h b44109 .long 2 (fun i => .long ((Gs4422_34bbb q0 p2 p3 q1 p4 p5) i))
abbrev Las4422_0 (b21606 : Addr) (b44094 : Addr) (b44109 : Addr) : Array Slot := #[.val (.ref b21606), .val (.ref b44094), .val (.ref b44109), .val (.int (0 : Int32))]
abbrev Las4422_1 (b21606 : Addr) (b44094 : Addr) (b44109 : Addr) : Array Slot := #[.val (.ref b21606), .val (.ref b44094), .val (.ref b44109), .val (.int (1 : Int32))]
abbrev Las4422_2 (b21606 : Addr) (b44094 : Addr) (b44109 : Addr) : Array Slot := #[.val (.ref b21606), .val (.ref b44094), .val (.ref b44109), .val (.int (2 : Int32))]
abbrev Las4422_3 (b21606 : Addr) (b44094 : Addr) (b44109 : Addr) : Array Slot := #[.val (.ref b21606), .val (.ref b44094), .val (.ref b44109), .val (.int (3 : Int32))]
abbrev Las4422_4 (b21606 : Addr) (b44094 : Addr) (b44109 : Addr) : Array Slot := #[.val (.ref b21606), .val (.ref b44094), .val (.ref b44109), .val (.int (4 : Int32))]
set_option maxRecDepth 65536 in
set_option maxHeartbeats 40000000 in
theorem rm22s44 (l : Launch) (Z : State) (a0 : Array Value) (hw : ∀ d ∈ tables_1, d.before a0 Z = true) (ws : List Jvm.Cond) (q0 : Int64) (q1 : Int64) (p2 : Int32) (p3 : Int32) (p4 : Int32) (p5 : Int32) (b21606 : Addr) (b23626 : Addr) (b23641 : Addr) (b44094 : Addr) (b44109 : Addr) (h0 : Heap) (n0 : Nat) (Z0 : n0 ≤ h0.size) (F_m_word_b21606 : Fld Z h0 b21606 "com/example/ken2/ken2/StateLayout" "m_word" "[I" (.ref b23626)) (F_m_shift_b21606 : Fld Z h0 b21606 "com/example/ken2/ken2/StateLayout" "m_shift" "[I" (.ref b23641)) (A_b23626 : Ary Z h0 b23626 .int 4 (fun i => .int ((Gs2213_107bbb q0 q1) i))) (A_b23641 : Ary Z h0 b23641 .int 4 (fun i => .int ((Gs2213_115bbb q0 q1) i))) (A_b44094 : Ary Z h0 b44094 .int 4 (fun i => .int ((G0_178 p2 q0 p3 p4 q1 p5) i))) (A_b44109 : Ary Z h0 b44109 .long 2 (fun i => .long ((fun _ => (0 : Int64)) i))) (g_b44109 : n0 ≤ b44109) (ne_b21606_b44109 : b21606 ≠ b44109) (ne_b23626_b44109 : b23626 ≠ b44109) (ne_b23641_b44109 : b23641 ≠ b44109) (ne_b44094_b44109 : b44094 ≠ b44109) :
    MetFree l Y23 (head1 (Jvm.Cond.code Y23 prog_112_method_3_code 4 none :: ws) ({ frames := 1, cells := 0, slots := 0, locals := 16 } : Room)) (fun a U => a = #[(.ref b21606), (.ref b44094), (.ref b44109)] ∧ Z.Warmed39 U.vm ∧ U.heap = h0) (fun _ _ _ _ _ => True) (fun _ U o U' => ∃ v L, o = .returned v ∧ (Q22s44 Z q0 q1 p2 p3 p4 p5 b21606 b23626 b23641 b44094 b44109 h0 n0) v U'.heap L ∧ FrameEnd U o U' L ({ frames := 1, cells := 0, slots := 0, locals := 16 } : Room).cells ({ frames := 1, cells := 0, slots := 0, locals := 16 } : Room).slots) :=
  own_met (ret := none) (Q := (Q22s44 Z q0 q1 p2 p3 p4 p5 b21606 b23626 b23641 b44094 b44109 h0 n0)) (plainFor_of_name pn_22) (fun m => ef_22 m b21606 b44094 b44109) (fun p e s m below meth c T0 X0 hx hby hml hown hnm hZ e0 => by
  have N0 := Fr.nil n0
  refine ost (mkF m 1 #[.val (.ref b21606), .val (.ref b44094), .val (.ref b44109), .unset] [(.ref b44109)]) X0 (fun t k => XS.aloadN X0.here hx rfl (hb hby d22_0) rfl rfl k) ?_
  refine ost (mkF m 2 #[.val (.ref b21606), .val (.ref b44094), .val (.ref b44109), .unset] [(.long (0 : Int64)), (.ref b44109)]) X0 (fun t k => XT.lconst X0.here hx rfl (hb hby d22_1) k) ?_
  obtain ⟨_, T45121, L45121, X45121, ⟨rfl, N45121q, u46134, u46135⟩, st45121⟩ := own_callS X0 hx hZ (y := Y22) (W := 0) (argsL := [(.ref b44109), (.long (0 : Int64))]) (rest := []) hown (hw _ (wm 152 rfl)) (hw _ (wm 153 rfl)) (hw _ (wm 154 rfl)) (hw _ (wm 155 rfl)) (by decide) (rm23s45 l Z a0 hw [] b44109 h0 n0 Z0 A_b44109 g_b44109) (by decide) (by decide) (by decide) (by decide) e0 (g := (mkF m 2 #[.val (.ref b21606), .val (.ref b44094), .val (.ref b44109), .unset] [(.long (0 : Int64)), (.ref b44109)])) rfl (by rw [hml]; rfl) pd_12 rfl rfl (by show 2 * 0 + _ ≤ _; exact Nat.le_of_eq rfl) (hb hby d22_2)
  have N45121 := Fr.app N0 N45121q
  obtain ⟨h45121, e45121⟩ : ∃ z, T45121.heap = z := ⟨_, rfl⟩
  rw [e45121] at u46134 u46135
  have K45121 := u46134
  have Z45121 := Nat.le_trans Z0 K45121.1
  have S45121 := Nat.le_trans (Nat.le_refl h0.size) K45121.1
  refine ost (mkF m 5 #[.val (.ref b21606), .val (.ref b44094), .val (.ref b44109), .unset] []) X45121 (fun t k => st45121 _ k) ?_
  refine ost (mkF m 6 #[.val (.ref b21606), .val (.ref b44094), .val (.ref b44109), .unset] [(.int (0 : Int32))]) X45121 (fun t k => XS.iconst X45121.here hx rfl (hb hby d22_5) k) ?_
  refine ost (mkF m 7 (Las4422_0 b21606 b44094 b44109) []) X45121 (fun t k => XS.istoreN X45121.here hx rfl (hb hby d22_6) rfl (l' := (Las4422_0 b21606 b44094 b44109)) rfl k) ?_
  refine ost (mkF m 8 (Las4422_0 b21606 b44094 b44109) [(.int (0 : Int32))]) X45121 (fun t k => XS.iloadN X45121.here hx rfl (hb hby d22_7) rfl k) ?_
  refine ost (mkF m 9 (Las4422_0 b21606 b44094 b44109) [(.ref b44094), (.int (0 : Int32))]) X45121 (fun t k => XS.aloadN X45121.here hx rfl (hb hby d22_8) rfl rfl k) ?_
  have A46136 := (A_b44094.keep K45121 (ninS ne_b44094_b44109 nin0))
  refine ost (mkF m 10 (Las4422_0 b21606 b44094 b44109) [(.int (4 : Int32)), (.int (0 : Int32))]) X45121 (fun t k => own_len X45121 hx hZ e45121 A46136 (g := (mkF m 9 (Las4422_0 b21606 b44094 b44109) [(.ref b44094), (.int (0 : Int32))])) rfl rfl (hb hby d22_9) _ k) ?_
  refine ost (mkF m 13 (Las4422_0 b21606 b44094 b44109) []) X45121 (fun t k => XS.icmpNo X45121.here hx rfl (hb hby d22_10) rfl (tlt (show (0 : Int32) < (4 : Int32) by first | rfl | decide)).2.1 k) ?_
  refine ost (mkF m 14 (Las4422_0 b21606 b44094 b44109) [(.ref b44109)]) X45121 (fun t k => XS.aloadN X45121.here hx rfl (hb hby d22_13) rfl rfl k) ?_
  refine ost (mkF m 15 (Las4422_0 b21606 b44094 b44109) [(.ref b21606), (.ref b44109)]) X45121 (fun t k => XS.aloadN X45121.here hx rfl (hb hby d22_14) rfl rfl k) ?_
  have F46137 := (F_m_word_b21606.keep K45121 (ninS ne_b21606_b44109 nin0))
  obtain ⟨T46138, X46138, e46138, st46138⟩ := getF X45121 hx hZ hown (host := "") (Or.inl (hw _ (wm 102 rfl))) Via.refl e45121 F46137 (g := (mkF m 15 (Las4422_0 b21606 b44094 b44109) [(.ref b21606), (.ref b44109)])) rfl rfl (hb hby d22_15)
  refine ost (mkF m 18 (Las4422_0 b21606 b44094 b44109) [(.ref b23626), (.ref b44109)]) X46138 (fun t k => st46138 _ k) ?_
  refine ost (mkF m 19 (Las4422_0 b21606 b44094 b44109) [(.int (0 : Int32)), (.ref b23626), (.ref b44109)]) X46138 (fun t k => XS.iloadN X46138.here hx rfl (hb hby d22_18) rfl k) ?_
  have A46139 := (A_b23626.keep K45121 (ninS ne_b23626_b44109 nin0))
  refine ost (mkF m 20 (Las4422_0 b21606 b44094 b44109) [(.int (vs2213_100 q0)), (.ref b44109)]) X46138 (fun t k => own_ldI X46138 hx hZ e46138 A46139 (by decide) (congrArg Value.int (updOff (by decide) (updOff (by decide) (updOff (by decide) (updAt rfl))))) (g := (mkF m 19 (Las4422_0 b21606 b44094 b44109) [(.int (0 : Int32)), (.ref b23626), (.ref b44109)])) rfl rfl (hb hby d22_19) _ k) ?_
  refine ost (mkF m 21 (Las4422_0 b21606 b44094 b44109) [(.int (vs2213_100 q0)), (.ref b44109), (.int (vs2213_100 q0)), (.ref b44109)]) X46138 (fun t k => XT.dup2 X46138.here hx rfl (hb hby d22_20) rfl rfl rfl k) ?_
  refine ost (mkF m 22 (Las4422_0 b21606 b44094 b44109) [(.long ((Gs4523_15b) ((vs2213_100 q0)).toNatClampNeg)), (.int (vs2213_100 q0)), (.ref b44109)]) X46138 (fun t k => own_ldJ X46138 hx hZ e46138 u46135 (ibs4422_21 q0) rfl (g := (mkF m 21 (Las4422_0 b21606 b44094 b44109) [(.int (vs2213_100 q0)), (.ref b44109), (.int (vs2213_100 q0)), (.ref b44109)])) rfl rfl (hb hby d22_21) _ k) ?_
  refine ost (mkF m 23 (Las4422_0 b21606 b44094 b44109) [(.ref b44094), (.long ((Gs4523_15b) ((vs2213_100 q0)).toNatClampNeg)), (.int (vs2213_100 q0)), (.ref b44109)]) X46138 (fun t k => XS.aloadN X46138.here hx rfl (hb hby d22_22) rfl rfl k) ?_
  refine ost (mkF m 24 (Las4422_0 b21606 b44094 b44109) [(.int (0 : Int32)), (.ref b44094), (.long ((Gs4523_15b) ((vs2213_100 q0)).toNatClampNeg)), (.int (vs2213_100 q0)), (.ref b44109)]) X46138 (fun t k => XS.iloadN X46138.here hx rfl (hb hby d22_23) rfl k) ?_
  refine ost (mkF m 25 (Las4422_0 b21606 b44094 b44109) [(.int (r21 p2 (v0_8 q0))), (.long ((Gs4523_15b) ((vs2213_100 q0)).toNatClampNeg)), (.int (vs2213_100 q0)), (.ref b44109)]) X46138 (fun t k => own_ldI X46138 hx hZ e46138 A46136 (by decide) (congrArg Value.int (updOff (by decide) (updOff (by decide) (updOff (by decide) (updAt rfl))))) (g := (mkF m 24 (Las4422_0 b21606 b44094 b44109) [(.int (0 : Int32)), (.ref b44094), (.long ((Gs4523_15b) ((vs2213_100 q0)).toNatClampNeg)), (.int (vs2213_100 q0)), (.ref b44109)])) rfl rfl (hb hby d22_24) _ k) ?_
  refine ost (mkF m 26 (Las4422_0 b21606 b44094 b44109) [(.long ((r21 p2 (v0_8 q0)).toInt64)), (.long ((Gs4523_15b) ((vs2213_100 q0)).toNatClampNeg)), (.int (vs2213_100 q0)), (.ref b44109)]) X46138 (fun t k => XT.i2l X46138.here hx rfl (hb hby d22_25) rfl k) ?_
  refine ost (mkF m 27 (Las4422_0 b21606 b44094 b44109) [(.ref b21606), (.long ((r21 p2 (v0_8 q0)).toInt64)), (.long ((Gs4523_15b) ((vs2213_100 q0)).toNatClampNeg)), (.int (vs2213_100 q0)), (.ref b44109)]) X46138 (fun t k => XS.aloadN X46138.here hx rfl (hb hby d22_26) rfl rfl k) ?_
  have F46140 := (F_m_shift_b21606.keep K45121 (ninS ne_b21606_b44109 nin0))
  obtain ⟨T46141, X46141, e46141, st46141⟩ := getF X46138 hx hZ hown (host := "") (Or.inl (hw _ (wm 104 rfl))) Via.refl e46138 F46140 (g := (mkF m 27 (Las4422_0 b21606 b44094 b44109) [(.ref b21606), (.long ((r21 p2 (v0_8 q0)).toInt64)), (.long ((Gs4523_15b) ((vs2213_100 q0)).toNatClampNeg)), (.int (vs2213_100 q0)), (.ref b44109)])) rfl rfl (hb hby d22_27)
  refine ost (mkF m 30 (Las4422_0 b21606 b44094 b44109) [(.ref b23641), (.long ((r21 p2 (v0_8 q0)).toInt64)), (.long ((Gs4523_15b) ((vs2213_100 q0)).toNatClampNeg)), (.int (vs2213_100 q0)), (.ref b44109)]) X46141 (fun t k => st46141 _ k) ?_
  refine ost (mkF m 31 (Las4422_0 b21606 b44094 b44109) [(.int (0 : Int32)), (.ref b23641), (.long ((r21 p2 (v0_8 q0)).toInt64)), (.long ((Gs4523_15b) ((vs2213_100 q0)).toNatClampNeg)), (.int (vs2213_100 q0)), (.ref b44109)]) X46141 (fun t k => XS.iloadN X46141.here hx rfl (hb hby d22_30) rfl k) ?_
  have A46142 := (A_b23641.keep K45121 (ninS ne_b23641_b44109 nin0))
  refine ost (mkF m 32 (Las4422_0 b21606 b44094 b44109) [(.int (0 : Int32)), (.long ((r21 p2 (v0_8 q0)).toInt64)), (.long ((Gs4523_15b) ((vs2213_100 q0)).toNatClampNeg)), (.int (vs2213_100 q0)), (.ref b44109)]) X46141 (fun t k => own_ldI X46141 hx hZ e46141 A46142 (by decide) (congrArg Value.int (updOff (by decide) (updOff (by decide) (updOff (by decide) (updAt rfl))))) (g := (mkF m 31 (Las4422_0 b21606 b44094 b44109) [(.int (0 : Int32)), (.ref b23641), (.long ((r21 p2 (v0_8 q0)).toInt64)), (.long ((Gs4523_15b) ((vs2213_100 q0)).toNatClampNeg)), (.int (vs2213_100 q0)), (.ref b44109)])) rfl rfl (hb hby d22_31) _ k) ?_
  refine ost (mkF m 33 (Las4422_0 b21606 b44094 b44109) [(.long (((r21 p2 (v0_8 q0)).toInt64) <<< ((0 : Int32).toInt64 &&& 63))), (.long ((Gs4523_15b) ((vs2213_100 q0)).toNatClampNeg)), (.int (vs2213_100 q0)), (.ref b44109)]) X46141 (fun t k => XT.lshl X46141.here hx rfl (hb hby d22_32) rfl k) ?_
  refine ost (mkF m 34 (Las4422_0 b21606 b44094 b44109) [(.long (((Gs4523_15b) ((vs2213_100 q0)).toNatClampNeg) ||| (((r21 p2 (v0_8 q0)).toInt64) <<< ((0 : Int32).toInt64 &&& 63)))), (.int (vs2213_100 q0)), (.ref b44109)]) X46141 (fun t k => XT.lor X46141.here hx rfl (hb hby d22_33) rfl k) ?_
  obtain ⟨T46143, h46143, L46143, X46143, e46143, N46143, K46143, A46143, st46143⟩ := own_stJ X46141 hx hZ e46141 N45121 (G := (Gs4523_15b)) u46135 g_b44109 (j := (vs2213_100 q0)) (x := (((Gs4523_15b) ((vs2213_100 q0)).toNatClampNeg) ||| (((r21 p2 (v0_8 q0)).toInt64) <<< ((0 : Int32).toInt64 &&& 63)))) (ibs4422_34 q0) (g := (mkF m 34 (Las4422_0 b21606 b44094 b44109) [(.long (((Gs4523_15b) ((vs2213_100 q0)).toNatClampNeg) ||| (((r21 p2 (v0_8 q0)).toInt64) <<< ((0 : Int32).toInt64 &&& 63)))), (.int (vs2213_100 q0)), (.ref b44109)])) rfl rfl (hb hby d22_34)
  have B46143 : Ary Z h46143 b44109 .long 2 (fun i => .long ((Gs4422_34 q0 p2) i)) := A46143
  have Z46143 := Nat.le_trans Z45121 K46143.1
  have S46143 := Nat.le_trans S45121 K46143.1
  refine ost (mkF m 35 (Las4422_0 b21606 b44094 b44109) []) X46143 (fun t k => st46143 _ k) ?_
  refine ost (mkF m 38 (Las4422_1 b21606 b44094 b44109) []) X46143 (fun t k => XS.iinc X46143.here hx rfl (hb hby d22_35) rfl (l' := (Las4422_1 b21606 b44094 b44109)) rfl k) ?_
  refine ost (mkF m 7 (Las4422_1 b21606 b44094 b44109) []) X46143 (fun t k => XS.goto X46143.here hx rfl (pc0 := 38) (pc' := 7) rfl (hb hby d22_38) (by decide) (by decide) k) ?_
  refine ost (mkF m 8 (Las4422_1 b21606 b44094 b44109) [(.int (1 : Int32))]) X46143 (fun t k => XS.iloadN X46143.here hx rfl (hb hby d22_7) rfl k) ?_
  refine ost (mkF m 9 (Las4422_1 b21606 b44094 b44109) [(.ref b44094), (.int (1 : Int32))]) X46143 (fun t k => XS.aloadN X46143.here hx rfl (hb hby d22_8) rfl rfl k) ?_
  have A46144 := (A46136.keep K46143 (ninS ne_b44094_b44109 nin0))
  refine ost (mkF m 10 (Las4422_1 b21606 b44094 b44109) [(.int (4 : Int32)), (.int (1 : Int32))]) X46143 (fun t k => own_len X46143 hx hZ e46143 A46144 (g := (mkF m 9 (Las4422_1 b21606 b44094 b44109) [(.ref b44094), (.int (1 : Int32))])) rfl rfl (hb hby d22_9) _ k) ?_
  refine ost (mkF m 13 (Las4422_1 b21606 b44094 b44109) []) X46143 (fun t k => XS.icmpNo X46143.here hx rfl (hb hby d22_10) rfl (tlt (show (1 : Int32) < (4 : Int32) by first | rfl | decide)).2.1 k) ?_
  refine ost (mkF m 14 (Las4422_1 b21606 b44094 b44109) [(.ref b44109)]) X46143 (fun t k => XS.aloadN X46143.here hx rfl (hb hby d22_13) rfl rfl k) ?_
  refine ost (mkF m 15 (Las4422_1 b21606 b44094 b44109) [(.ref b21606), (.ref b44109)]) X46143 (fun t k => XS.aloadN X46143.here hx rfl (hb hby d22_14) rfl rfl k) ?_
  have F46145 := (F46137.keep K46143 (ninS ne_b21606_b44109 nin0))
  obtain ⟨T46146, X46146, e46146, st46146⟩ := getF X46143 hx hZ hown (host := "") (Or.inl (hw _ (wm 102 rfl))) Via.refl e46143 F46145 (g := (mkF m 15 (Las4422_1 b21606 b44094 b44109) [(.ref b21606), (.ref b44109)])) rfl rfl (hb hby d22_15)
  refine ost (mkF m 18 (Las4422_1 b21606 b44094 b44109) [(.ref b23626), (.ref b44109)]) X46146 (fun t k => st46146 _ k) ?_
  refine ost (mkF m 19 (Las4422_1 b21606 b44094 b44109) [(.int (1 : Int32)), (.ref b23626), (.ref b44109)]) X46146 (fun t k => XS.iloadN X46146.here hx rfl (hb hby d22_18) rfl k) ?_
  have A46147 := (A46139.keep K46143 (ninS ne_b23626_b44109 nin0))
  refine ost (mkF m 20 (Las4422_1 b21606 b44094 b44109) [(.int (vs2213_100b q0)), (.ref b44109)]) X46146 (fun t k => own_ldI X46146 hx hZ e46146 A46147 (by decide) (congrArg Value.int (updOff (by decide) (updOff (by decide) (updAt rfl)))) (g := (mkF m 19 (Las4422_1 b21606 b44094 b44109) [(.int (1 : Int32)), (.ref b23626), (.ref b44109)])) rfl rfl (hb hby d22_19) _ k) ?_
  refine ost (mkF m 21 (Las4422_1 b21606 b44094 b44109) [(.int (vs2213_100b q0)), (.ref b44109), (.int (vs2213_100b q0)), (.ref b44109)]) X46146 (fun t k => XT.dup2 X46146.here hx rfl (hb hby d22_20) rfl rfl rfl k) ?_
  refine ost (mkF m 22 (Las4422_1 b21606 b44094 b44109) [(.long ((Gs4422_34 q0 p2) ((vs2213_100b q0)).toNatClampNeg)), (.int (vs2213_100b q0)), (.ref b44109)]) X46146 (fun t k => own_ldJ X46146 hx hZ e46146 B46143 (ibs4422_21z q0) rfl (g := (mkF m 21 (Las4422_1 b21606 b44094 b44109) [(.int (vs2213_100b q0)), (.ref b44109), (.int (vs2213_100b q0)), (.ref b44109)])) rfl rfl (hb hby d22_21) _ k) ?_
  refine ost (mkF m 23 (Las4422_1 b21606 b44094 b44109) [(.ref b44094), (.long ((Gs4422_34 q0 p2) ((vs2213_100b q0)).toNatClampNeg)), (.int (vs2213_100b q0)), (.ref b44109)]) X46146 (fun t k => XS.aloadN X46146.here hx rfl (hb hby d22_22) rfl rfl k) ?_
  refine ost (mkF m 24 (Las4422_1 b21606 b44094 b44109) [(.int (1 : Int32)), (.ref b44094), (.long ((Gs4422_34 q0 p2) ((vs2213_100b q0)).toNatClampNeg)), (.int (vs2213_100b q0)), (.ref b44109)]) X46146 (fun t k => XS.iloadN X46146.here hx rfl (hb hby d22_23) rfl k) ?_
  refine ost (mkF m 25 (Las4422_1 b21606 b44094 b44109) [(.int (r21 p3 (v0_15 q0))), (.long ((Gs4422_34 q0 p2) ((vs2213_100b q0)).toNatClampNeg)), (.int (vs2213_100b q0)), (.ref b44109)]) X46146 (fun t k => own_ldI X46146 hx hZ e46146 A46144 (by decide) (congrArg Value.int (updOff (by decide) (updOff (by decide) (updAt rfl)))) (g := (mkF m 24 (Las4422_1 b21606 b44094 b44109) [(.int (1 : Int32)), (.ref b44094), (.long ((Gs4422_34 q0 p2) ((vs2213_100b q0)).toNatClampNeg)), (.int (vs2213_100b q0)), (.ref b44109)])) rfl rfl (hb hby d22_24) _ k) ?_
  refine ost (mkF m 26 (Las4422_1 b21606 b44094 b44109) [(.long ((r21 p3 (v0_15 q0)).toInt64)), (.long ((Gs4422_34 q0 p2) ((vs2213_100b q0)).toNatClampNeg)), (.int (vs2213_100b q0)), (.ref b44109)]) X46146 (fun t k => XT.i2l X46146.here hx rfl (hb hby d22_25) rfl k) ?_
  refine ost (mkF m 27 (Las4422_1 b21606 b44094 b44109) [(.ref b21606), (.long ((r21 p3 (v0_15 q0)).toInt64)), (.long ((Gs4422_34 q0 p2) ((vs2213_100b q0)).toNatClampNeg)), (.int (vs2213_100b q0)), (.ref b44109)]) X46146 (fun t k => XS.aloadN X46146.here hx rfl (hb hby d22_26) rfl rfl k) ?_
  have F46148 := (F46140.keep K46143 (ninS ne_b21606_b44109 nin0))
  obtain ⟨T46149, X46149, e46149, st46149⟩ := getF X46146 hx hZ hown (host := "") (Or.inl (hw _ (wm 104 rfl))) Via.refl e46146 F46148 (g := (mkF m 27 (Las4422_1 b21606 b44094 b44109) [(.ref b21606), (.long ((r21 p3 (v0_15 q0)).toInt64)), (.long ((Gs4422_34 q0 p2) ((vs2213_100b q0)).toNatClampNeg)), (.int (vs2213_100b q0)), (.ref b44109)])) rfl rfl (hb hby d22_27)
  refine ost (mkF m 30 (Las4422_1 b21606 b44094 b44109) [(.ref b23641), (.long ((r21 p3 (v0_15 q0)).toInt64)), (.long ((Gs4422_34 q0 p2) ((vs2213_100b q0)).toNatClampNeg)), (.int (vs2213_100b q0)), (.ref b44109)]) X46149 (fun t k => st46149 _ k) ?_
  refine ost (mkF m 31 (Las4422_1 b21606 b44094 b44109) [(.int (1 : Int32)), (.ref b23641), (.long ((r21 p3 (v0_15 q0)).toInt64)), (.long ((Gs4422_34 q0 p2) ((vs2213_100b q0)).toNatClampNeg)), (.int (vs2213_100b q0)), (.ref b44109)]) X46149 (fun t k => XS.iloadN X46149.here hx rfl (hb hby d22_30) rfl k) ?_
  have A46150 := (A46142.keep K46143 (ninS ne_b23641_b44109 nin0))
  refine ost (mkF m 32 (Las4422_1 b21606 b44094 b44109) [(.int (vs2213_100bb q0)), (.long ((r21 p3 (v0_15 q0)).toInt64)), (.long ((Gs4422_34 q0 p2) ((vs2213_100b q0)).toNatClampNeg)), (.int (vs2213_100b q0)), (.ref b44109)]) X46149 (fun t k => own_ldI X46149 hx hZ e46149 A46150 (by decide) (congrArg Value.int (updOff (by decide) (updOff (by decide) (updAt rfl)))) (g := (mkF m 31 (Las4422_1 b21606 b44094 b44109) [(.int (1 : Int32)), (.ref b23641), (.long ((r21 p3 (v0_15 q0)).toInt64)), (.long ((Gs4422_34 q0 p2) ((vs2213_100b q0)).toNatClampNeg)), (.int (vs2213_100b q0)), (.ref b44109)])) rfl rfl (hb hby d22_31) _ k) ?_
  refine ost (mkF m 33 (Las4422_1 b21606 b44094 b44109) [(.long (((r21 p3 (v0_15 q0)).toInt64) <<< ((vs2213_100bb q0).toInt64 &&& 63))), (.long ((Gs4422_34 q0 p2) ((vs2213_100b q0)).toNatClampNeg)), (.int (vs2213_100b q0)), (.ref b44109)]) X46149 (fun t k => XT.lshl X46149.here hx rfl (hb hby d22_32) rfl k) ?_
  refine ost (mkF m 34 (Las4422_1 b21606 b44094 b44109) [(.long (((Gs4422_34 q0 p2) ((vs2213_100b q0)).toNatClampNeg) ||| (((r21 p3 (v0_15 q0)).toInt64) <<< ((vs2213_100bb q0).toInt64 &&& 63)))), (.int (vs2213_100b q0)), (.ref b44109)]) X46149 (fun t k => XT.lor X46149.here hx rfl (hb hby d22_33) rfl k) ?_
  obtain ⟨T46151, h46151, L46151, X46151, e46151, N46151, K46151, A46151, st46151⟩ := own_stJ X46149 hx hZ e46149 N46143 (G := (Gs4422_34 q0 p2)) B46143 g_b44109 (j := (vs2213_100b q0)) (x := (((Gs4422_34 q0 p2) ((vs2213_100b q0)).toNatClampNeg) ||| (((r21 p3 (v0_15 q0)).toInt64) <<< ((vs2213_100bb q0).toInt64 &&& 63)))) (ibs4422_34z q0) (g := (mkF m 34 (Las4422_1 b21606 b44094 b44109) [(.long (((Gs4422_34 q0 p2) ((vs2213_100b q0)).toNatClampNeg) ||| (((r21 p3 (v0_15 q0)).toInt64) <<< ((vs2213_100bb q0).toInt64 &&& 63)))), (.int (vs2213_100b q0)), (.ref b44109)])) rfl rfl (hb hby d22_34)
  have B46151 : Ary Z h46151 b44109 .long 2 (fun i => .long ((Gs4422_34b q0 p2 p3) i)) := A46151
  have Z46151 := Nat.le_trans Z46143 K46151.1
  have S46151 := Nat.le_trans S46143 K46151.1
  refine ost (mkF m 35 (Las4422_1 b21606 b44094 b44109) []) X46151 (fun t k => st46151 _ k) ?_
  refine ost (mkF m 38 (Las4422_2 b21606 b44094 b44109) []) X46151 (fun t k => XS.iinc X46151.here hx rfl (hb hby d22_35) rfl (l' := (Las4422_2 b21606 b44094 b44109)) rfl k) ?_
  refine ost (mkF m 7 (Las4422_2 b21606 b44094 b44109) []) X46151 (fun t k => XS.goto X46151.here hx rfl (pc0 := 38) (pc' := 7) rfl (hb hby d22_38) (by decide) (by decide) k) ?_
  refine ost (mkF m 8 (Las4422_2 b21606 b44094 b44109) [(.int (2 : Int32))]) X46151 (fun t k => XS.iloadN X46151.here hx rfl (hb hby d22_7) rfl k) ?_
  refine ost (mkF m 9 (Las4422_2 b21606 b44094 b44109) [(.ref b44094), (.int (2 : Int32))]) X46151 (fun t k => XS.aloadN X46151.here hx rfl (hb hby d22_8) rfl rfl k) ?_
  have A46152 := (A46144.keep K46151 (ninS ne_b44094_b44109 nin0))
  refine ost (mkF m 10 (Las4422_2 b21606 b44094 b44109) [(.int (4 : Int32)), (.int (2 : Int32))]) X46151 (fun t k => own_len X46151 hx hZ e46151 A46152 (g := (mkF m 9 (Las4422_2 b21606 b44094 b44109) [(.ref b44094), (.int (2 : Int32))])) rfl rfl (hb hby d22_9) _ k) ?_
  refine ost (mkF m 13 (Las4422_2 b21606 b44094 b44109) []) X46151 (fun t k => XS.icmpNo X46151.here hx rfl (hb hby d22_10) rfl (tlt (show (2 : Int32) < (4 : Int32) by first | rfl | decide)).2.1 k) ?_
  refine ost (mkF m 14 (Las4422_2 b21606 b44094 b44109) [(.ref b44109)]) X46151 (fun t k => XS.aloadN X46151.here hx rfl (hb hby d22_13) rfl rfl k) ?_
  refine ost (mkF m 15 (Las4422_2 b21606 b44094 b44109) [(.ref b21606), (.ref b44109)]) X46151 (fun t k => XS.aloadN X46151.here hx rfl (hb hby d22_14) rfl rfl k) ?_
  have F46153 := (F46145.keep K46151 (ninS ne_b21606_b44109 nin0))
  obtain ⟨T46154, X46154, e46154, st46154⟩ := getF X46151 hx hZ hown (host := "") (Or.inl (hw _ (wm 102 rfl))) Via.refl e46151 F46153 (g := (mkF m 15 (Las4422_2 b21606 b44094 b44109) [(.ref b21606), (.ref b44109)])) rfl rfl (hb hby d22_15)
  refine ost (mkF m 18 (Las4422_2 b21606 b44094 b44109) [(.ref b23626), (.ref b44109)]) X46154 (fun t k => st46154 _ k) ?_
  refine ost (mkF m 19 (Las4422_2 b21606 b44094 b44109) [(.int (2 : Int32)), (.ref b23626), (.ref b44109)]) X46154 (fun t k => XS.iloadN X46154.here hx rfl (hb hby d22_18) rfl k) ?_
  have A46155 := (A46147.keep K46151 (ninS ne_b23626_b44109 nin0))
  refine ost (mkF m 20 (Las4422_2 b21606 b44094 b44109) [(.int (vs2213_100bbb q0 q1)), (.ref b44109)]) X46154 (fun t k => own_ldI X46154 hx hZ e46154 A46155 (by decide) (congrArg Value.int (updOff (by decide) (updAt rfl))) (g := (mkF m 19 (Las4422_2 b21606 b44094 b44109) [(.int (2 : Int32)), (.ref b23626), (.ref b44109)])) rfl rfl (hb hby d22_19) _ k) ?_
  refine ost (mkF m 21 (Las4422_2 b21606 b44094 b44109) [(.int (vs2213_100bbb q0 q1)), (.ref b44109), (.int (vs2213_100bbb q0 q1)), (.ref b44109)]) X46154 (fun t k => XT.dup2 X46154.here hx rfl (hb hby d22_20) rfl rfl rfl k) ?_
  refine ost (mkF m 22 (Las4422_2 b21606 b44094 b44109) [(.long ((Gs4422_34b q0 p2 p3) ((vs2213_100bbb q0 q1)).toNatClampNeg)), (.int (vs2213_100bbb q0 q1)), (.ref b44109)]) X46154 (fun t k => own_ldJ X46154 hx hZ e46154 B46151 (ibs4422_21zz q0 q1) rfl (g := (mkF m 21 (Las4422_2 b21606 b44094 b44109) [(.int (vs2213_100bbb q0 q1)), (.ref b44109), (.int (vs2213_100bbb q0 q1)), (.ref b44109)])) rfl rfl (hb hby d22_21) _ k) ?_
  refine ost (mkF m 23 (Las4422_2 b21606 b44094 b44109) [(.ref b44094), (.long ((Gs4422_34b q0 p2 p3) ((vs2213_100bbb q0 q1)).toNatClampNeg)), (.int (vs2213_100bbb q0 q1)), (.ref b44109)]) X46154 (fun t k => XS.aloadN X46154.here hx rfl (hb hby d22_22) rfl rfl k) ?_
  refine ost (mkF m 24 (Las4422_2 b21606 b44094 b44109) [(.int (2 : Int32)), (.ref b44094), (.long ((Gs4422_34b q0 p2 p3) ((vs2213_100bbb q0 q1)).toNatClampNeg)), (.int (vs2213_100bbb q0 q1)), (.ref b44109)]) X46154 (fun t k => XS.iloadN X46154.here hx rfl (hb hby d22_23) rfl k) ?_
  refine ost (mkF m 25 (Las4422_2 b21606 b44094 b44109) [(.int (r21 p4 (v0_25 q1))), (.long ((Gs4422_34b q0 p2 p3) ((vs2213_100bbb q0 q1)).toNatClampNeg)), (.int (vs2213_100bbb q0 q1)), (.ref b44109)]) X46154 (fun t k => own_ldI X46154 hx hZ e46154 A46152 (by decide) (congrArg Value.int (updOff (by decide) (updAt rfl))) (g := (mkF m 24 (Las4422_2 b21606 b44094 b44109) [(.int (2 : Int32)), (.ref b44094), (.long ((Gs4422_34b q0 p2 p3) ((vs2213_100bbb q0 q1)).toNatClampNeg)), (.int (vs2213_100bbb q0 q1)), (.ref b44109)])) rfl rfl (hb hby d22_24) _ k) ?_
  refine ost (mkF m 26 (Las4422_2 b21606 b44094 b44109) [(.long ((r21 p4 (v0_25 q1)).toInt64)), (.long ((Gs4422_34b q0 p2 p3) ((vs2213_100bbb q0 q1)).toNatClampNeg)), (.int (vs2213_100bbb q0 q1)), (.ref b44109)]) X46154 (fun t k => XT.i2l X46154.here hx rfl (hb hby d22_25) rfl k) ?_
  refine ost (mkF m 27 (Las4422_2 b21606 b44094 b44109) [(.ref b21606), (.long ((r21 p4 (v0_25 q1)).toInt64)), (.long ((Gs4422_34b q0 p2 p3) ((vs2213_100bbb q0 q1)).toNatClampNeg)), (.int (vs2213_100bbb q0 q1)), (.ref b44109)]) X46154 (fun t k => XS.aloadN X46154.here hx rfl (hb hby d22_26) rfl rfl k) ?_
  have F46156 := (F46148.keep K46151 (ninS ne_b21606_b44109 nin0))
  obtain ⟨T46157, X46157, e46157, st46157⟩ := getF X46154 hx hZ hown (host := "") (Or.inl (hw _ (wm 104 rfl))) Via.refl e46154 F46156 (g := (mkF m 27 (Las4422_2 b21606 b44094 b44109) [(.ref b21606), (.long ((r21 p4 (v0_25 q1)).toInt64)), (.long ((Gs4422_34b q0 p2 p3) ((vs2213_100bbb q0 q1)).toNatClampNeg)), (.int (vs2213_100bbb q0 q1)), (.ref b44109)])) rfl rfl (hb hby d22_27)
  refine ost (mkF m 30 (Las4422_2 b21606 b44094 b44109) [(.ref b23641), (.long ((r21 p4 (v0_25 q1)).toInt64)), (.long ((Gs4422_34b q0 p2 p3) ((vs2213_100bbb q0 q1)).toNatClampNeg)), (.int (vs2213_100bbb q0 q1)), (.ref b44109)]) X46157 (fun t k => st46157 _ k) ?_
  refine ost (mkF m 31 (Las4422_2 b21606 b44094 b44109) [(.int (2 : Int32)), (.ref b23641), (.long ((r21 p4 (v0_25 q1)).toInt64)), (.long ((Gs4422_34b q0 p2 p3) ((vs2213_100bbb q0 q1)).toNatClampNeg)), (.int (vs2213_100bbb q0 q1)), (.ref b44109)]) X46157 (fun t k => XS.iloadN X46157.here hx rfl (hb hby d22_30) rfl k) ?_
  have A46158 := (A46150.keep K46151 (ninS ne_b23641_b44109 nin0))
  refine ost (mkF m 32 (Las4422_2 b21606 b44094 b44109) [(.int (vs2213_100bbbb q0 q1)), (.long ((r21 p4 (v0_25 q1)).toInt64)), (.long ((Gs4422_34b q0 p2 p3) ((vs2213_100bbb q0 q1)).toNatClampNeg)), (.int (vs2213_100bbb q0 q1)), (.ref b44109)]) X46157 (fun t k => own_ldI X46157 hx hZ e46157 A46158 (by decide) (congrArg Value.int (updOff (by decide) (updAt rfl))) (g := (mkF m 31 (Las4422_2 b21606 b44094 b44109) [(.int (2 : Int32)), (.ref b23641), (.long ((r21 p4 (v0_25 q1)).toInt64)), (.long ((Gs4422_34b q0 p2 p3) ((vs2213_100bbb q0 q1)).toNatClampNeg)), (.int (vs2213_100bbb q0 q1)), (.ref b44109)])) rfl rfl (hb hby d22_31) _ k) ?_
  refine ost (mkF m 33 (Las4422_2 b21606 b44094 b44109) [(.long (((r21 p4 (v0_25 q1)).toInt64) <<< ((vs2213_100bbbb q0 q1).toInt64 &&& 63))), (.long ((Gs4422_34b q0 p2 p3) ((vs2213_100bbb q0 q1)).toNatClampNeg)), (.int (vs2213_100bbb q0 q1)), (.ref b44109)]) X46157 (fun t k => XT.lshl X46157.here hx rfl (hb hby d22_32) rfl k) ?_
  refine ost (mkF m 34 (Las4422_2 b21606 b44094 b44109) [(.long (((Gs4422_34b q0 p2 p3) ((vs2213_100bbb q0 q1)).toNatClampNeg) ||| (((r21 p4 (v0_25 q1)).toInt64) <<< ((vs2213_100bbbb q0 q1).toInt64 &&& 63)))), (.int (vs2213_100bbb q0 q1)), (.ref b44109)]) X46157 (fun t k => XT.lor X46157.here hx rfl (hb hby d22_33) rfl k) ?_
  obtain ⟨T46159, h46159, L46159, X46159, e46159, N46159, K46159, A46159, st46159⟩ := own_stJ X46157 hx hZ e46157 N46151 (G := (Gs4422_34b q0 p2 p3)) B46151 g_b44109 (j := (vs2213_100bbb q0 q1)) (x := (((Gs4422_34b q0 p2 p3) ((vs2213_100bbb q0 q1)).toNatClampNeg) ||| (((r21 p4 (v0_25 q1)).toInt64) <<< ((vs2213_100bbbb q0 q1).toInt64 &&& 63)))) (ibs4422_34zz q0 q1) (g := (mkF m 34 (Las4422_2 b21606 b44094 b44109) [(.long (((Gs4422_34b q0 p2 p3) ((vs2213_100bbb q0 q1)).toNatClampNeg) ||| (((r21 p4 (v0_25 q1)).toInt64) <<< ((vs2213_100bbbb q0 q1).toInt64 &&& 63)))), (.int (vs2213_100bbb q0 q1)), (.ref b44109)])) rfl rfl (hb hby d22_34)
  have B46159 : Ary Z h46159 b44109 .long 2 (fun i => .long ((Gs4422_34bb q0 p2 p3 q1 p4) i)) := A46159
  have Z46159 := Nat.le_trans Z46151 K46159.1
  have S46159 := Nat.le_trans S46151 K46159.1
  refine ost (mkF m 35 (Las4422_2 b21606 b44094 b44109) []) X46159 (fun t k => st46159 _ k) ?_
  refine ost (mkF m 38 (Las4422_3 b21606 b44094 b44109) []) X46159 (fun t k => XS.iinc X46159.here hx rfl (hb hby d22_35) rfl (l' := (Las4422_3 b21606 b44094 b44109)) rfl k) ?_
  refine ost (mkF m 7 (Las4422_3 b21606 b44094 b44109) []) X46159 (fun t k => XS.goto X46159.here hx rfl (pc0 := 38) (pc' := 7) rfl (hb hby d22_38) (by decide) (by decide) k) ?_
  refine ost (mkF m 8 (Las4422_3 b21606 b44094 b44109) [(.int (3 : Int32))]) X46159 (fun t k => XS.iloadN X46159.here hx rfl (hb hby d22_7) rfl k) ?_
  refine ost (mkF m 9 (Las4422_3 b21606 b44094 b44109) [(.ref b44094), (.int (3 : Int32))]) X46159 (fun t k => XS.aloadN X46159.here hx rfl (hb hby d22_8) rfl rfl k) ?_
  have A46160 := (A46152.keep K46159 (ninS ne_b44094_b44109 nin0))
  refine ost (mkF m 10 (Las4422_3 b21606 b44094 b44109) [(.int (4 : Int32)), (.int (3 : Int32))]) X46159 (fun t k => own_len X46159 hx hZ e46159 A46160 (g := (mkF m 9 (Las4422_3 b21606 b44094 b44109) [(.ref b44094), (.int (3 : Int32))])) rfl rfl (hb hby d22_9) _ k) ?_
  refine ost (mkF m 13 (Las4422_3 b21606 b44094 b44109) []) X46159 (fun t k => XS.icmpNo X46159.here hx rfl (hb hby d22_10) rfl (tlt (show (3 : Int32) < (4 : Int32) by first | rfl | decide)).2.1 k) ?_
  refine ost (mkF m 14 (Las4422_3 b21606 b44094 b44109) [(.ref b44109)]) X46159 (fun t k => XS.aloadN X46159.here hx rfl (hb hby d22_13) rfl rfl k) ?_
  refine ost (mkF m 15 (Las4422_3 b21606 b44094 b44109) [(.ref b21606), (.ref b44109)]) X46159 (fun t k => XS.aloadN X46159.here hx rfl (hb hby d22_14) rfl rfl k) ?_
  have F46161 := (F46153.keep K46159 (ninS ne_b21606_b44109 nin0))
  obtain ⟨T46162, X46162, e46162, st46162⟩ := getF X46159 hx hZ hown (host := "") (Or.inl (hw _ (wm 102 rfl))) Via.refl e46159 F46161 (g := (mkF m 15 (Las4422_3 b21606 b44094 b44109) [(.ref b21606), (.ref b44109)])) rfl rfl (hb hby d22_15)
  refine ost (mkF m 18 (Las4422_3 b21606 b44094 b44109) [(.ref b23626), (.ref b44109)]) X46162 (fun t k => st46162 _ k) ?_
  refine ost (mkF m 19 (Las4422_3 b21606 b44094 b44109) [(.int (3 : Int32)), (.ref b23626), (.ref b44109)]) X46162 (fun t k => XS.iloadN X46162.here hx rfl (hb hby d22_18) rfl k) ?_
  have A46163 := (A46155.keep K46159 (ninS ne_b23626_b44109 nin0))
  refine ost (mkF m 20 (Las4422_3 b21606 b44094 b44109) [(.int (vs2213_100bbbbb q0 q1)), (.ref b44109)]) X46162 (fun t k => own_ldI X46162 hx hZ e46162 A46163 (by decide) (congrArg Value.int (updAt rfl)) (g := (mkF m 19 (Las4422_3 b21606 b44094 b44109) [(.int (3 : Int32)), (.ref b23626), (.ref b44109)])) rfl rfl (hb hby d22_19) _ k) ?_
  refine ost (mkF m 21 (Las4422_3 b21606 b44094 b44109) [(.int (vs2213_100bbbbb q0 q1)), (.ref b44109), (.int (vs2213_100bbbbb q0 q1)), (.ref b44109)]) X46162 (fun t k => XT.dup2 X46162.here hx rfl (hb hby d22_20) rfl rfl rfl k) ?_
  refine ost (mkF m 22 (Las4422_3 b21606 b44094 b44109) [(.long ((Gs4422_34bb q0 p2 p3 q1 p4) ((vs2213_100bbbbb q0 q1)).toNatClampNeg)), (.int (vs2213_100bbbbb q0 q1)), (.ref b44109)]) X46162 (fun t k => own_ldJ X46162 hx hZ e46162 B46159 (ibs4422_21zzz q0 q1) rfl (g := (mkF m 21 (Las4422_3 b21606 b44094 b44109) [(.int (vs2213_100bbbbb q0 q1)), (.ref b44109), (.int (vs2213_100bbbbb q0 q1)), (.ref b44109)])) rfl rfl (hb hby d22_21) _ k) ?_
  refine ost (mkF m 23 (Las4422_3 b21606 b44094 b44109) [(.ref b44094), (.long ((Gs4422_34bb q0 p2 p3 q1 p4) ((vs2213_100bbbbb q0 q1)).toNatClampNeg)), (.int (vs2213_100bbbbb q0 q1)), (.ref b44109)]) X46162 (fun t k => XS.aloadN X46162.here hx rfl (hb hby d22_22) rfl rfl k) ?_
  refine ost (mkF m 24 (Las4422_3 b21606 b44094 b44109) [(.int (3 : Int32)), (.ref b44094), (.long ((Gs4422_34bb q0 p2 p3 q1 p4) ((vs2213_100bbbbb q0 q1)).toNatClampNeg)), (.int (vs2213_100bbbbb q0 q1)), (.ref b44109)]) X46162 (fun t k => XS.iloadN X46162.here hx rfl (hb hby d22_23) rfl k) ?_
  refine ost (mkF m 25 (Las4422_3 b21606 b44094 b44109) [(.int (r21 p5 (v0_32 q1))), (.long ((Gs4422_34bb q0 p2 p3 q1 p4) ((vs2213_100bbbbb q0 q1)).toNatClampNeg)), (.int (vs2213_100bbbbb q0 q1)), (.ref b44109)]) X46162 (fun t k => own_ldI X46162 hx hZ e46162 A46160 (by decide) (congrArg Value.int (updAt rfl)) (g := (mkF m 24 (Las4422_3 b21606 b44094 b44109) [(.int (3 : Int32)), (.ref b44094), (.long ((Gs4422_34bb q0 p2 p3 q1 p4) ((vs2213_100bbbbb q0 q1)).toNatClampNeg)), (.int (vs2213_100bbbbb q0 q1)), (.ref b44109)])) rfl rfl (hb hby d22_24) _ k) ?_
  refine ost (mkF m 26 (Las4422_3 b21606 b44094 b44109) [(.long ((r21 p5 (v0_32 q1)).toInt64)), (.long ((Gs4422_34bb q0 p2 p3 q1 p4) ((vs2213_100bbbbb q0 q1)).toNatClampNeg)), (.int (vs2213_100bbbbb q0 q1)), (.ref b44109)]) X46162 (fun t k => XT.i2l X46162.here hx rfl (hb hby d22_25) rfl k) ?_
  refine ost (mkF m 27 (Las4422_3 b21606 b44094 b44109) [(.ref b21606), (.long ((r21 p5 (v0_32 q1)).toInt64)), (.long ((Gs4422_34bb q0 p2 p3 q1 p4) ((vs2213_100bbbbb q0 q1)).toNatClampNeg)), (.int (vs2213_100bbbbb q0 q1)), (.ref b44109)]) X46162 (fun t k => XS.aloadN X46162.here hx rfl (hb hby d22_26) rfl rfl k) ?_
  have F46164 := (F46156.keep K46159 (ninS ne_b21606_b44109 nin0))
  obtain ⟨T46165, X46165, e46165, st46165⟩ := getF X46162 hx hZ hown (host := "") (Or.inl (hw _ (wm 104 rfl))) Via.refl e46162 F46164 (g := (mkF m 27 (Las4422_3 b21606 b44094 b44109) [(.ref b21606), (.long ((r21 p5 (v0_32 q1)).toInt64)), (.long ((Gs4422_34bb q0 p2 p3 q1 p4) ((vs2213_100bbbbb q0 q1)).toNatClampNeg)), (.int (vs2213_100bbbbb q0 q1)), (.ref b44109)])) rfl rfl (hb hby d22_27)
  refine ost (mkF m 30 (Las4422_3 b21606 b44094 b44109) [(.ref b23641), (.long ((r21 p5 (v0_32 q1)).toInt64)), (.long ((Gs4422_34bb q0 p2 p3 q1 p4) ((vs2213_100bbbbb q0 q1)).toNatClampNeg)), (.int (vs2213_100bbbbb q0 q1)), (.ref b44109)]) X46165 (fun t k => st46165 _ k) ?_
  refine ost (mkF m 31 (Las4422_3 b21606 b44094 b44109) [(.int (3 : Int32)), (.ref b23641), (.long ((r21 p5 (v0_32 q1)).toInt64)), (.long ((Gs4422_34bb q0 p2 p3 q1 p4) ((vs2213_100bbbbb q0 q1)).toNatClampNeg)), (.int (vs2213_100bbbbb q0 q1)), (.ref b44109)]) X46165 (fun t k => XS.iloadN X46165.here hx rfl (hb hby d22_30) rfl k) ?_
  have A46166 := (A46158.keep K46159 (ninS ne_b23641_b44109 nin0))
  refine ost (mkF m 32 (Las4422_3 b21606 b44094 b44109) [(.int (vs2213_100bbbbbb q0 q1)), (.long ((r21 p5 (v0_32 q1)).toInt64)), (.long ((Gs4422_34bb q0 p2 p3 q1 p4) ((vs2213_100bbbbb q0 q1)).toNatClampNeg)), (.int (vs2213_100bbbbb q0 q1)), (.ref b44109)]) X46165 (fun t k => own_ldI X46165 hx hZ e46165 A46166 (by decide) (congrArg Value.int (updAt rfl)) (g := (mkF m 31 (Las4422_3 b21606 b44094 b44109) [(.int (3 : Int32)), (.ref b23641), (.long ((r21 p5 (v0_32 q1)).toInt64)), (.long ((Gs4422_34bb q0 p2 p3 q1 p4) ((vs2213_100bbbbb q0 q1)).toNatClampNeg)), (.int (vs2213_100bbbbb q0 q1)), (.ref b44109)])) rfl rfl (hb hby d22_31) _ k) ?_
  refine ost (mkF m 33 (Las4422_3 b21606 b44094 b44109) [(.long (((r21 p5 (v0_32 q1)).toInt64) <<< ((vs2213_100bbbbbb q0 q1).toInt64 &&& 63))), (.long ((Gs4422_34bb q0 p2 p3 q1 p4) ((vs2213_100bbbbb q0 q1)).toNatClampNeg)), (.int (vs2213_100bbbbb q0 q1)), (.ref b44109)]) X46165 (fun t k => XT.lshl X46165.here hx rfl (hb hby d22_32) rfl k) ?_
  refine ost (mkF m 34 (Las4422_3 b21606 b44094 b44109) [(.long (((Gs4422_34bb q0 p2 p3 q1 p4) ((vs2213_100bbbbb q0 q1)).toNatClampNeg) ||| (((r21 p5 (v0_32 q1)).toInt64) <<< ((vs2213_100bbbbbb q0 q1).toInt64 &&& 63)))), (.int (vs2213_100bbbbb q0 q1)), (.ref b44109)]) X46165 (fun t k => XT.lor X46165.here hx rfl (hb hby d22_33) rfl k) ?_
  obtain ⟨T46167, h46167, L46167, X46167, e46167, N46167, K46167, A46167, st46167⟩ := own_stJ X46165 hx hZ e46165 N46159 (G := (Gs4422_34bb q0 p2 p3 q1 p4)) B46159 g_b44109 (j := (vs2213_100bbbbb q0 q1)) (x := (((Gs4422_34bb q0 p2 p3 q1 p4) ((vs2213_100bbbbb q0 q1)).toNatClampNeg) ||| (((r21 p5 (v0_32 q1)).toInt64) <<< ((vs2213_100bbbbbb q0 q1).toInt64 &&& 63)))) (ibs4422_34zzz q0 q1) (g := (mkF m 34 (Las4422_3 b21606 b44094 b44109) [(.long (((Gs4422_34bb q0 p2 p3 q1 p4) ((vs2213_100bbbbb q0 q1)).toNatClampNeg) ||| (((r21 p5 (v0_32 q1)).toInt64) <<< ((vs2213_100bbbbbb q0 q1).toInt64 &&& 63)))), (.int (vs2213_100bbbbb q0 q1)), (.ref b44109)])) rfl rfl (hb hby d22_34)
  have B46167 : Ary Z h46167 b44109 .long 2 (fun i => .long ((Gs4422_34bbb q0 p2 p3 q1 p4 p5) i)) := A46167
  have Z46167 := Nat.le_trans Z46159 K46167.1
  have S46167 := Nat.le_trans S46159 K46167.1
  refine ost (mkF m 35 (Las4422_3 b21606 b44094 b44109) []) X46167 (fun t k => st46167 _ k) ?_
  refine ost (mkF m 38 (Las4422_4 b21606 b44094 b44109) []) X46167 (fun t k => XS.iinc X46167.here hx rfl (hb hby d22_35) rfl (l' := (Las4422_4 b21606 b44094 b44109)) rfl k) ?_
  refine ost (mkF m 7 (Las4422_4 b21606 b44094 b44109) []) X46167 (fun t k => XS.goto X46167.here hx rfl (pc0 := 38) (pc' := 7) rfl (hb hby d22_38) (by decide) (by decide) k) ?_
  refine ost (mkF m 8 (Las4422_4 b21606 b44094 b44109) [(.int (4 : Int32))]) X46167 (fun t k => XS.iloadN X46167.here hx rfl (hb hby d22_7) rfl k) ?_
  refine ost (mkF m 9 (Las4422_4 b21606 b44094 b44109) [(.ref b44094), (.int (4 : Int32))]) X46167 (fun t k => XS.aloadN X46167.here hx rfl (hb hby d22_8) rfl rfl k) ?_
  have A46168 := (A46160.keep K46167 (ninS ne_b44094_b44109 nin0))
  refine ost (mkF m 10 (Las4422_4 b21606 b44094 b44109) [(.int (4 : Int32)), (.int (4 : Int32))]) X46167 (fun t k => own_len X46167 hx hZ e46167 A46168 (g := (mkF m 9 (Las4422_4 b21606 b44094 b44109) [(.ref b44094), (.int (4 : Int32))])) rfl rfl (hb hby d22_9) _ k) ?_
  refine ost (mkF m 41 (Las4422_4 b21606 b44094 b44109) []) X46167 (fun t k => XS.icmpYes X46167.here hx rfl (pc0 := 10) (pc' := 41) rfl (hb hby d22_10) rfl (flt (show ¬ ((4 : Int32) < (4 : Int32)) by first | decide | exact Int32.lt_irrefl _ | exact Int64.lt_irrefl _)).2.1 (by decide) (by decide) k) ?_
  refine OwnFin.retVoid X46167 (hb hby d22_41) (by decide) (by decide) ?_
  rw [e46167]
  exact ⟨rfl, N46167, (Keep.trans (Keep.trans (Keep.trans (Keep.trans (Keep.trans (Keep.refl h0 [b44109]) K45121 (allS (Or.inl (wm 0 rfl)) all0)) K46143 (allS (Or.inl (wm 0 rfl)) all0)) K46151 (allS (Or.inl (wm 0 rfl)) all0)) K46159 (allS (Or.inl (wm 0 rfl)) all0)) K46167 (allS (Or.inl (wm 0 rfl)) all0)), B46167⟩)
def Q19s43 (Z : State) (q1 : Int64) (b17483 : Addr) (h0 : Heap) (n0 : Nat) : Option Value → Heap → List Loc → Prop := fun v h L => v = some (.int (v0_32 q1)) ∧ Fr n0 L ∧ h = h0
set_option maxRecDepth 65536 in
set_option maxHeartbeats 40000000 in
theorem rm19s43 (l : Launch) (Z : State) (a0 : Array Value) (hw : ∀ d ∈ tables_1, d.before a0 Z = true) (ws : List Jvm.Cond) (q1 : Int64) (b17483 : Addr) (h0 : Heap) (n0 : Nat) (Z0 : n0 ≤ h0.size) (F_size_b17483 : Fld Z h0 b17483 "com/example/ken2/ken2/InterpretedSystem$Variable" "size" "I" (.int (v0_32 q1))) :
    MetFree l Y18 (head1 (Jvm.Cond.code Y18 prog_64_method_15_code 1 (some .int) :: ws) ({ frames := 0, cells := 0, slots := 0, locals := 0 } : Room)) (fun a U => a = #[(.ref b17483)] ∧ Z.Warmed39 U.vm ∧ U.heap = h0) (fun _ _ _ _ _ => True) (fun _ U o U' => ∃ v L, o = .returned v ∧ (Q19s43 Z q1 b17483 h0 n0) v U'.heap L ∧ FrameEnd U o U' L ({ frames := 0, cells := 0, slots := 0, locals := 0 } : Room).cells ({ frames := 0, cells := 0, slots := 0, locals := 0 } : Room).slots) :=
  own_met (ret := (some .int)) (Q := (Q19s43 Z q1 b17483 h0 n0)) (plainFor_of_name pn_19) (fun m => ef_19 m b17483) (fun p e s m below meth c T0 X0 hx hby hml hown hnm hZ e0 => by
  have N0 := Fr.nil n0
  refine ost (mkF m 1 #[.val (.ref b17483)] [(.ref b17483)]) X0 (fun t k => XS.aloadN X0.here hx rfl (hb hby d19_0) rfl rfl k) ?_
  obtain ⟨T44006, X44006, e44006, st44006⟩ := getF X0 hx hZ hown (host := "") (Or.inl (hw _ (wm 55 rfl))) Via.refl e0 F_size_b17483 (g := (mkF m 1 #[.val (.ref b17483)] [(.ref b17483)])) rfl rfl (hb hby d19_1)
  refine ost (mkF m 4 #[.val (.ref b17483)] [(.int (v0_32 q1))]) X44006 (fun t k => st44006 _ k) ?_
  refine OwnFin.retInt X44006 (hb hby d19_4) (by decide) (by decide) ?_
  rw [e44006]
  exact ⟨rfl, N0, rfl⟩)
def Q18s42 (Z : State) (b5 : Addr) (b3062 : Addr) (b9140 : Addr) (b9240 : Addr) (b13361 : Addr) (b17483 : Addr) (h0 : Heap) (n0 : Nat) : Option Value → Heap → List Loc → Prop := fun v h L => v = some (.ref b17483) ∧ Fr n0 L ∧ h = h0
set_option maxRecDepth 65536 in
set_option maxHeartbeats 40000000 in
theorem rm18s42 (l : Launch) (Z : State) (a0 : Array Value) (hw : ∀ d ∈ tables_1, d.before a0 Z = true) (ws : List Jvm.Cond) (b5 : Addr) (b3062 : Addr) (b9140 : Addr) (b9240 : Addr) (b13361 : Addr) (b17483 : Addr) (h0 : Heap) (n0 : Nat) (Z0 : n0 ≤ h0.size) (F_elementData_b5 : Fld Z h0 b5 "java/util/ArrayList" "elementData" "[Ljava/lang/Object;" (.ref b9140)) (A_b9140 : AryR Z h0 b9140 "java/lang/Object" 10 (updN (updN (updN (updN (fun _ => Value.null) ((0 : Int32)).toNatClampNeg (Value.ref b3062)) ((1 : Int32)).toNatClampNeg (Value.ref b9240)) ((2 : Int32)).toNatClampNeg (Value.ref b13361)) ((3 : Int32)).toNatClampNeg (Value.ref b17483))) :
    MetFree l Y15 (head1 (Jvm.Cond.code Y15 jdk_38_method_18_code 2 (some (.object "java/lang/Object")) :: ws) ({ frames := 0, cells := 0, slots := 0, locals := 0 } : Room)) (fun a U => a = #[(.ref b5), (.int (3 : Int32))] ∧ Z.Warmed39 U.vm ∧ U.heap = h0) (fun _ _ _ _ _ => True) (fun _ U o U' => ∃ v L, o = .returned v ∧ (Q18s42 Z b5 b3062 b9140 b9240 b13361 b17483 h0 n0) v U'.heap L ∧ FrameEnd U o U' L ({ frames := 0, cells := 0, slots := 0, locals := 0 } : Room).cells ({ frames := 0, cells := 0, slots := 0, locals := 0 } : Room).slots) :=
  own_met (ret := (some (.object "java/lang/Object"))) (Q := (Q18s42 Z b5 b3062 b9140 b9240 b13361 b17483 h0 n0)) (plainFor_of_name pn_18) (fun m => ef_18 m b5 (3 : Int32)) (fun p e s m below meth c T0 X0 hx hby hml hown hnm hZ e0 => by
  have N0 := Fr.nil n0
  refine ost (mkF m 1 #[.val (.ref b5), .val (.int (3 : Int32))] [(.ref b5)]) X0 (fun t k => XS.aloadN X0.here hx rfl (hb hby d18_0) rfl rfl k) ?_
  obtain ⟨T42978, X42978, e42978, st42978⟩ := getF X0 hx hZ hown (host := "") (Or.inl (hw _ (wm 33 rfl))) Via.refl e0 F_elementData_b5 (g := (mkF m 1 #[.val (.ref b5), .val (.int (3 : Int32))] [(.ref b5)])) rfl rfl (hb hby d18_1)
  refine ost (mkF m 4 #[.val (.ref b5), .val (.int (3 : Int32))] [(.ref b9140)]) X42978 (fun t k => st42978 _ k) ?_
  refine ost (mkF m 5 #[.val (.ref b5), .val (.int (3 : Int32))] [(.int (3 : Int32)), (.ref b9140)]) X42978 (fun t k => XS.iloadN X42978.here hx rfl (hb hby d18_4) rfl k) ?_
  refine ost (mkF m 6 #[.val (.ref b5), .val (.int (3 : Int32))] [(.ref b17483)]) X42978 (fun t k => own_ldA X42978 hx hZ e42978 (A_b9140).1 rfl (by decide) (updAt rfl) (g := (mkF m 5 #[.val (.ref b5), .val (.int (3 : Int32))] [(.int (3 : Int32)), (.ref b9140)])) rfl rfl (hb hby d18_5) _ k) ?_
  refine OwnFin.retRef X42978 rfl rfl rfl (hb hby d18_6) (by decide) (by decide) ?_
  rw [e42978]
  exact ⟨rfl, N0, rfl⟩)
def Q17s41 (Z : State) (h0 : Heap) (n0 : Nat) : Option Value → Heap → List Loc → Prop := fun v h L => v = some (.int (3 : Int32)) ∧ Fr n0 L ∧ h = h0
set_option maxRecDepth 65536 in
set_option maxHeartbeats 40000000 in
theorem rm17s41 (l : Launch) (Z : State) (a0 : Array Value) (hw : ∀ d ∈ tables_1, d.before a0 Z = true) (ws : List Jvm.Cond) (h0 : Heap) (n0 : Nat) (Z0 : n0 ≤ h0.size) :
    MetFree l Y13 (head1 (Jvm.Cond.code Y13 jdk_41_method_11_code 3 (some .int) :: ws) ({ frames := 0, cells := 0, slots := 0, locals := 0 } : Room)) (fun a U => a = #[(.int (3 : Int32)), (.int (4 : Int32)), .null] ∧ Z.Warmed39 U.vm ∧ U.heap = h0) (fun _ _ _ _ _ => True) (fun _ U o U' => ∃ v L, o = .returned v ∧ (Q17s41 Z h0 n0) v U'.heap L ∧ FrameEnd U o U' L ({ frames := 0, cells := 0, slots := 0, locals := 0 } : Room).cells ({ frames := 0, cells := 0, slots := 0, locals := 0 } : Room).slots) :=
  own_met (ret := (some .int)) (Q := (Q17s41 Z h0 n0)) (plainFor_of_name pn_17) (fun m => ef_17n2 m (3 : Int32) (4 : Int32)) (fun p e s m below meth c T0 X0 hx hby hml hown hnm hZ e0 => by
  have N0 := Fr.nil n0
  refine ost (mkF m 1 #[.val (.int (3 : Int32)), .val (.int (4 : Int32)), .val .null] [(.int (3 : Int32))]) X0 (fun t k => XS.iloadN X0.here hx rfl (hb hby d17_0) rfl k) ?_
  refine ost (mkF m 4 #[.val (.int (3 : Int32)), .val (.int (4 : Int32)), .val .null] []) X0 (fun t k => XS.ifNo X0.here hx rfl (hb hby d17_1) rfl ((if0 _ _).trans (flt (show ¬ ((3 : Int32) < (0 : Int32)) by first | decide | exact Int32.lt_irrefl _ | exact Int64.lt_irrefl _)).1) k) ?_
  refine ost (mkF m 5 #[.val (.int (3 : Int32)), .val (.int (4 : Int32)), .val .null] [(.int (3 : Int32))]) X0 (fun t k => XS.iloadN X0.here hx rfl (hb hby d17_4) rfl k) ?_
  refine ost (mkF m 6 #[.val (.int (3 : Int32)), .val (.int (4 : Int32)), .val .null] [(.int (4 : Int32)), (.int (3 : Int32))]) X0 (fun t k => XS.iloadN X0.here hx rfl (hb hby d17_5) rfl k) ?_
  refine ost (mkF m 16 #[.val (.int (3 : Int32)), .val (.int (4 : Int32)), .val .null] []) X0 (fun t k => XS.icmpYes X0.here hx rfl (pc0 := 6) (pc' := 16) rfl (hb hby d17_6) rfl (tlt (show (3 : Int32) < (4 : Int32) by first | rfl | decide)).1 (by decide) (by decide) k) ?_
  refine ost (mkF m 17 #[.val (.int (3 : Int32)), .val (.int (4 : Int32)), .val .null] [(.int (3 : Int32))]) X0 (fun t k => XS.iloadN X0.here hx rfl (hb hby d17_16) rfl k) ?_
  refine OwnFin.retInt X0 (hb hby d17_17) (by decide) (by decide) ?_
  rw [e0]
  exact ⟨rfl, N0, rfl⟩)
def Q16s40 (Z : State) (h0 : Heap) (n0 : Nat) : Option Value → Heap → List Loc → Prop := fun v h L => v = some (.int (3 : Int32)) ∧ Fr n0 L ∧ h = h0
set_option maxRecDepth 65536 in
set_option maxHeartbeats 40000000 in
theorem rm16s40 (l : Launch) (Z : State) (a0 : Array Value) (hw : ∀ d ∈ tables_1, d.before a0 Z = true) (ws : List Jvm.Cond) (h0 : Heap) (n0 : Nat) (Z0 : n0 ≤ h0.size) :
    MetFree l Y14 (head1 (Jvm.Cond.code Y14 jdk_31_method_17_code 2 (some .int) :: ws) ({ frames := 1, cells := 0, slots := 0, locals := 14 } : Room)) (fun a U => a = #[(.int (3 : Int32)), (.int (4 : Int32))] ∧ Z.Warmed39 U.vm ∧ U.heap = h0) (fun _ _ _ _ _ => True) (fun _ U o U' => ∃ v L, o = .returned v ∧ (Q16s40 Z h0 n0) v U'.heap L ∧ FrameEnd U o U' L ({ frames := 1, cells := 0, slots := 0, locals := 14 } : Room).cells ({ frames := 1, cells := 0, slots := 0, locals := 14 } : Room).slots) :=
  own_met (ret := (some .int)) (Q := (Q16s40 Z h0 n0)) (plainFor_of_name pn_16) (fun m => ef_16 m (3 : Int32) (4 : Int32)) (fun p e s m below meth c T0 X0 hx hby hml hown hnm hZ e0 => by
  have N0 := Fr.nil n0
  refine ost (mkF m 1 #[.val (.int (3 : Int32)), .val (.int (4 : Int32))] [(.int (3 : Int32))]) X0 (fun t k => XS.iloadN X0.here hx rfl (hb hby d16_0) rfl k) ?_
  refine ost (mkF m 2 #[.val (.int (3 : Int32)), .val (.int (4 : Int32))] [(.int (4 : Int32)), (.int (3 : Int32))]) X0 (fun t k => XS.iloadN X0.here hx rfl (hb hby d16_1) rfl k) ?_
  refine ost (mkF m 3 #[.val (.int (3 : Int32)), .val (.int (4 : Int32))] [.null, (.int (4 : Int32)), (.int (3 : Int32))]) X0 (fun t k => XS.aconstNull X0.here hx rfl (hb hby d16_2) k) ?_
  obtain ⟨_, T40954, L40954, X40954, ⟨rfl, N40954q, u41965⟩, st40954⟩ := own_callS X0 hx hZ (y := Y13) (W := 0) (argsL := [(.int (3 : Int32)), (.int (4 : Int32)), .null]) (rest := []) hown (hw _ (wm 121 rfl)) (hw _ (wm 122 rfl)) (hw _ (wm 123 rfl)) (hw _ (wm 124 rfl)) (by decide) (rm17s41 l Z a0 hw []  h0 n0 Z0 ) (by decide) (by decide) (by decide) (by decide) e0 (g := (mkF m 3 #[.val (.int (3 : Int32)), .val (.int (4 : Int32))] [.null, (.int (4 : Int32)), (.int (3 : Int32))])) rfl (by rw [hml]; rfl) pd_9 rfl rfl (by show 2 * 0 + _ ≤ _; exact Nat.le_of_eq rfl) (hb hby d16_3)
  have N40954 := Fr.app N0 N40954q
  refine ost (mkF m 6 #[.val (.int (3 : Int32)), .val (.int (4 : Int32))] [(.int (3 : Int32))]) X40954 (fun t k => st40954 _ k) ?_
  refine OwnFin.retInt X40954 (hb hby d16_6) (by decide) (by decide) ?_
  rw [u41965]
  exact ⟨rfl, N40954, rfl⟩)
def Q15s39 (Z : State) (b5 : Addr) (b3062 : Addr) (b9140 : Addr) (b9240 : Addr) (b13361 : Addr) (b17483 : Addr) (h0 : Heap) (n0 : Nat) : Option Value → Heap → List Loc → Prop := fun v h L => v = some (.ref b17483) ∧ Fr n0 L ∧ h = h0
set_option maxRecDepth 65536 in
set_option maxHeartbeats 40000000 in
theorem rm15s39 (l : Launch) (Z : State) (a0 : Array Value) (hw : ∀ d ∈ tables_1, d.before a0 Z = true) (ws : List Jvm.Cond) (b5 : Addr) (b3062 : Addr) (b9140 : Addr) (b9240 : Addr) (b13361 : Addr) (b17483 : Addr) (h0 : Heap) (n0 : Nat) (Z0 : n0 ≤ h0.size) (E_b5 : Exa Z h0 b5 "java/util/ArrayList") (F_elementData_b5 : Fld Z h0 b5 "java/util/ArrayList" "elementData" "[Ljava/lang/Object;" (.ref b9140)) (F_size_b5 : Fld Z h0 b5 "java/util/ArrayList" "size" "I" (.int (4 : Int32))) (A_b9140 : AryR Z h0 b9140 "java/lang/Object" 10 (updN (updN (updN (updN (fun _ => Value.null) ((0 : Int32)).toNatClampNeg (Value.ref b3062)) ((1 : Int32)).toNatClampNeg (Value.ref b9240)) ((2 : Int32)).toNatClampNeg (Value.ref b13361)) ((3 : Int32)).toNatClampNeg (Value.ref b17483))) :
    MetFree l Y17 (head1 (Jvm.Cond.code Y17 jdk_38_method_20_code 2 (some (.object "java/lang/Object")) :: ws) ({ frames := 2, cells := 0, slots := 0, locals := 27 } : Room)) (fun a U => a = #[(.ref b5), (.int (3 : Int32))] ∧ Z.Warmed39 U.vm ∧ U.heap = h0) (fun _ _ _ _ _ => True) (fun _ U o U' => ∃ v L, o = .returned v ∧ (Q15s39 Z b5 b3062 b9140 b9240 b13361 b17483 h0 n0) v U'.heap L ∧ FrameEnd U o U' L ({ frames := 2, cells := 0, slots := 0, locals := 27 } : Room).cells ({ frames := 2, cells := 0, slots := 0, locals := 27 } : Room).slots) :=
  own_met (ret := (some (.object "java/lang/Object"))) (Q := (Q15s39 Z b5 b3062 b9140 b9240 b13361 b17483 h0 n0)) (plainFor_of_name pn_15) (fun m => ef_15 m b5 (3 : Int32)) (fun p e s m below meth c T0 X0 hx hby hml hown hnm hZ e0 => by
  have N0 := Fr.nil n0
  refine ost (mkF m 1 #[.val (.ref b5), .val (.int (3 : Int32))] [(.int (3 : Int32))]) X0 (fun t k => XS.iloadN X0.here hx rfl (hb hby d15_0) rfl k) ?_
  refine ost (mkF m 2 #[.val (.ref b5), .val (.int (3 : Int32))] [(.ref b5), (.int (3 : Int32))]) X0 (fun t k => XS.aloadN X0.here hx rfl (hb hby d15_1) rfl rfl k) ?_
  obtain ⟨T39952, X39952, e39952, st39952⟩ := getF X0 hx hZ hown (host := "") (Or.inl (hw _ (wm 64 rfl))) Via.refl e0 F_size_b5 (g := (mkF m 2 #[.val (.ref b5), .val (.int (3 : Int32))] [(.ref b5), (.int (3 : Int32))])) rfl rfl (hb hby d15_2)
  refine ost (mkF m 5 #[.val (.ref b5), .val (.int (3 : Int32))] [(.int (4 : Int32)), (.int (3 : Int32))]) X39952 (fun t k => st39952 _ k) ?_
  obtain ⟨_, T39953, L39953, X39953, ⟨rfl, N39953q, u41976⟩, st39953⟩ := own_callS X39952 hx hZ (y := Y14) (W := 0) (argsL := [(.int (3 : Int32)), (.int (4 : Int32))]) (rest := []) hown (hw _ (wm 117 rfl)) (hw _ (wm 118 rfl)) (hw _ (wm 119 rfl)) (hw _ (wm 120 rfl)) (by decide) (rm16s40 l Z a0 hw []  h0 n0 Z0 ) (by decide) (by decide) (by decide) (by decide) e39952 (g := (mkF m 5 #[.val (.ref b5), .val (.int (3 : Int32))] [(.int (4 : Int32)), (.int (3 : Int32))])) rfl (by rw [hml]; rfl) pd_0 rfl rfl (by show 2 * 0 + _ ≤ _; exact Nat.le_of_eq rfl) (hb hby d15_5)
  have N39953 := Fr.app N0 N39953q
  refine ost (mkF m 8 #[.val (.ref b5), .val (.int (3 : Int32))] [(.int (3 : Int32))]) X39953 (fun t k => st39953 _ k) ?_
  refine ost (mkF m 9 #[.val (.ref b5), .val (.int (3 : Int32))] []) X39953 (fun t k => XT.pop X39953.here hx rfl (hb hby d15_8) rfl rfl k) ?_
  refine ost (mkF m 10 #[.val (.ref b5), .val (.int (3 : Int32))] [(.ref b5)]) X39953 (fun t k => XS.aloadN X39953.here hx rfl (hb hby d15_9) rfl rfl k) ?_
  refine ost (mkF m 11 #[.val (.ref b5), .val (.int (3 : Int32))] [(.int (3 : Int32)), (.ref b5)]) X39953 (fun t k => XS.iloadN X39953.here hx rfl (hb hby d15_10) rfl k) ?_
  obtain ⟨_, T41977, L41977, X41977, ⟨rfl, N41977q, u42989⟩, st41977⟩ := own_callV X39953 hx hZ (y := Y15) (W := 0) (a := b5) (argsL := [(.int (3 : Int32))]) (rest := []) hown (hw _ (wm 125 rfl)) (hw _ (wm 126 rfl)) (hw _ (wm 128 rfl)) (hw _ (wm 127 rfl)) (hw _ (wm 11 rfl)) (hw _ (wm 129 rfl)) (by decide) E_b5 (rm18s42 l Z a0 hw [] b5 b3062 b9140 b9240 b13361 b17483 h0 n0 Z0 F_elementData_b5 A_b9140) (by decide) (by decide) (by decide) (by decide) u41976 (g := (mkF m 11 #[.val (.ref b5), .val (.int (3 : Int32))] [(.int (3 : Int32)), (.ref b5)])) rfl (by rw [hml]; rfl) pd_10 rfl rfl (by show 2 * 0 + _ ≤ _; exact Nat.le_of_eq rfl) (hb hby d15_11)
  have N41977 := Fr.app N39953 N41977q
  refine ost (mkF m 14 #[.val (.ref b5), .val (.int (3 : Int32))] [(.ref b17483)]) X41977 (fun t k => st41977 _ k) ?_
  refine OwnFin.retRef X41977 rfl rfl rfl (hb hby d15_14) (by decide) (by decide) ?_
  rw [u42989]
  exact ⟨rfl, N41977, rfl⟩)
def Q19s38 (Z : State) (q1 : Int64) (b13361 : Addr) (h0 : Heap) (n0 : Nat) : Option Value → Heap → List Loc → Prop := fun v h L => v = some (.int (v0_25 q1)) ∧ Fr n0 L ∧ h = h0
set_option maxRecDepth 65536 in
set_option maxHeartbeats 40000000 in
theorem rm19s38 (l : Launch) (Z : State) (a0 : Array Value) (hw : ∀ d ∈ tables_1, d.before a0 Z = true) (ws : List Jvm.Cond) (q1 : Int64) (b13361 : Addr) (h0 : Heap) (n0 : Nat) (Z0 : n0 ≤ h0.size) (F_size_b13361 : Fld Z h0 b13361 "com/example/ken2/ken2/InterpretedSystem$Variable" "size" "I" (.int (v0_25 q1))) :
    MetFree l Y18 (head1 (Jvm.Cond.code Y18 prog_64_method_15_code 1 (some .int) :: ws) ({ frames := 0, cells := 0, slots := 0, locals := 0 } : Room)) (fun a U => a = #[(.ref b13361)] ∧ Z.Warmed39 U.vm ∧ U.heap = h0) (fun _ _ _ _ _ => True) (fun _ U o U' => ∃ v L, o = .returned v ∧ (Q19s38 Z q1 b13361 h0 n0) v U'.heap L ∧ FrameEnd U o U' L ({ frames := 0, cells := 0, slots := 0, locals := 0 } : Room).cells ({ frames := 0, cells := 0, slots := 0, locals := 0 } : Room).slots) :=
  own_met (ret := (some .int)) (Q := (Q19s38 Z q1 b13361 h0 n0)) (plainFor_of_name pn_19) (fun m => ef_19 m b13361) (fun p e s m below meth c T0 X0 hx hby hml hown hnm hZ e0 => by
  have N0 := Fr.nil n0
  refine ost (mkF m 1 #[.val (.ref b13361)] [(.ref b13361)]) X0 (fun t k => XS.aloadN X0.here hx rfl (hb hby d19_0) rfl rfl k) ?_
  obtain ⟨T38916, X38916, e38916, st38916⟩ := getF X0 hx hZ hown (host := "") (Or.inl (hw _ (wm 55 rfl))) Via.refl e0 F_size_b13361 (g := (mkF m 1 #[.val (.ref b13361)] [(.ref b13361)])) rfl rfl (hb hby d19_1)
  refine ost (mkF m 4 #[.val (.ref b13361)] [(.int (v0_25 q1))]) X38916 (fun t k => st38916 _ k) ?_
  refine OwnFin.retInt X38916 (hb hby d19_4) (by decide) (by decide) ?_
  rw [e38916]
  exact ⟨rfl, N0, rfl⟩)
def Q18s37 (Z : State) (b5 : Addr) (b3062 : Addr) (b9140 : Addr) (b9240 : Addr) (b13361 : Addr) (b17483 : Addr) (h0 : Heap) (n0 : Nat) : Option Value → Heap → List Loc → Prop := fun v h L => v = some (.ref b13361) ∧ Fr n0 L ∧ h = h0
set_option maxRecDepth 65536 in
set_option maxHeartbeats 40000000 in
theorem rm18s37 (l : Launch) (Z : State) (a0 : Array Value) (hw : ∀ d ∈ tables_1, d.before a0 Z = true) (ws : List Jvm.Cond) (b5 : Addr) (b3062 : Addr) (b9140 : Addr) (b9240 : Addr) (b13361 : Addr) (b17483 : Addr) (h0 : Heap) (n0 : Nat) (Z0 : n0 ≤ h0.size) (F_elementData_b5 : Fld Z h0 b5 "java/util/ArrayList" "elementData" "[Ljava/lang/Object;" (.ref b9140)) (A_b9140 : AryR Z h0 b9140 "java/lang/Object" 10 (updN (updN (updN (updN (fun _ => Value.null) ((0 : Int32)).toNatClampNeg (Value.ref b3062)) ((1 : Int32)).toNatClampNeg (Value.ref b9240)) ((2 : Int32)).toNatClampNeg (Value.ref b13361)) ((3 : Int32)).toNatClampNeg (Value.ref b17483))) :
    MetFree l Y15 (head1 (Jvm.Cond.code Y15 jdk_38_method_18_code 2 (some (.object "java/lang/Object")) :: ws) ({ frames := 0, cells := 0, slots := 0, locals := 0 } : Room)) (fun a U => a = #[(.ref b5), (.int (2 : Int32))] ∧ Z.Warmed39 U.vm ∧ U.heap = h0) (fun _ _ _ _ _ => True) (fun _ U o U' => ∃ v L, o = .returned v ∧ (Q18s37 Z b5 b3062 b9140 b9240 b13361 b17483 h0 n0) v U'.heap L ∧ FrameEnd U o U' L ({ frames := 0, cells := 0, slots := 0, locals := 0 } : Room).cells ({ frames := 0, cells := 0, slots := 0, locals := 0 } : Room).slots) :=
  own_met (ret := (some (.object "java/lang/Object"))) (Q := (Q18s37 Z b5 b3062 b9140 b9240 b13361 b17483 h0 n0)) (plainFor_of_name pn_18) (fun m => ef_18 m b5 (2 : Int32)) (fun p e s m below meth c T0 X0 hx hby hml hown hnm hZ e0 => by
  have N0 := Fr.nil n0
  refine ost (mkF m 1 #[.val (.ref b5), .val (.int (2 : Int32))] [(.ref b5)]) X0 (fun t k => XS.aloadN X0.here hx rfl (hb hby d18_0) rfl rfl k) ?_
  obtain ⟨T37888, X37888, e37888, st37888⟩ := getF X0 hx hZ hown (host := "") (Or.inl (hw _ (wm 33 rfl))) Via.refl e0 F_elementData_b5 (g := (mkF m 1 #[.val (.ref b5), .val (.int (2 : Int32))] [(.ref b5)])) rfl rfl (hb hby d18_1)
  refine ost (mkF m 4 #[.val (.ref b5), .val (.int (2 : Int32))] [(.ref b9140)]) X37888 (fun t k => st37888 _ k) ?_
  refine ost (mkF m 5 #[.val (.ref b5), .val (.int (2 : Int32))] [(.int (2 : Int32)), (.ref b9140)]) X37888 (fun t k => XS.iloadN X37888.here hx rfl (hb hby d18_4) rfl k) ?_
  refine ost (mkF m 6 #[.val (.ref b5), .val (.int (2 : Int32))] [(.ref b13361)]) X37888 (fun t k => own_ldA X37888 hx hZ e37888 (A_b9140).1 rfl (by decide) (updOff (by decide) (updAt rfl)) (g := (mkF m 5 #[.val (.ref b5), .val (.int (2 : Int32))] [(.int (2 : Int32)), (.ref b9140)])) rfl rfl (hb hby d18_5) _ k) ?_
  refine OwnFin.retRef X37888 rfl rfl rfl (hb hby d18_6) (by decide) (by decide) ?_
  rw [e37888]
  exact ⟨rfl, N0, rfl⟩)
def Q17s36 (Z : State) (h0 : Heap) (n0 : Nat) : Option Value → Heap → List Loc → Prop := fun v h L => v = some (.int (2 : Int32)) ∧ Fr n0 L ∧ h = h0
set_option maxRecDepth 65536 in
set_option maxHeartbeats 40000000 in
theorem rm17s36 (l : Launch) (Z : State) (a0 : Array Value) (hw : ∀ d ∈ tables_1, d.before a0 Z = true) (ws : List Jvm.Cond) (h0 : Heap) (n0 : Nat) (Z0 : n0 ≤ h0.size) :
    MetFree l Y13 (head1 (Jvm.Cond.code Y13 jdk_41_method_11_code 3 (some .int) :: ws) ({ frames := 0, cells := 0, slots := 0, locals := 0 } : Room)) (fun a U => a = #[(.int (2 : Int32)), (.int (4 : Int32)), .null] ∧ Z.Warmed39 U.vm ∧ U.heap = h0) (fun _ _ _ _ _ => True) (fun _ U o U' => ∃ v L, o = .returned v ∧ (Q17s36 Z h0 n0) v U'.heap L ∧ FrameEnd U o U' L ({ frames := 0, cells := 0, slots := 0, locals := 0 } : Room).cells ({ frames := 0, cells := 0, slots := 0, locals := 0 } : Room).slots) :=
  own_met (ret := (some .int)) (Q := (Q17s36 Z h0 n0)) (plainFor_of_name pn_17) (fun m => ef_17n2 m (2 : Int32) (4 : Int32)) (fun p e s m below meth c T0 X0 hx hby hml hown hnm hZ e0 => by
  have N0 := Fr.nil n0
  refine ost (mkF m 1 #[.val (.int (2 : Int32)), .val (.int (4 : Int32)), .val .null] [(.int (2 : Int32))]) X0 (fun t k => XS.iloadN X0.here hx rfl (hb hby d17_0) rfl k) ?_
  refine ost (mkF m 4 #[.val (.int (2 : Int32)), .val (.int (4 : Int32)), .val .null] []) X0 (fun t k => XS.ifNo X0.here hx rfl (hb hby d17_1) rfl ((if0 _ _).trans (flt (show ¬ ((2 : Int32) < (0 : Int32)) by first | decide | exact Int32.lt_irrefl _ | exact Int64.lt_irrefl _)).1) k) ?_
  refine ost (mkF m 5 #[.val (.int (2 : Int32)), .val (.int (4 : Int32)), .val .null] [(.int (2 : Int32))]) X0 (fun t k => XS.iloadN X0.here hx rfl (hb hby d17_4) rfl k) ?_
  refine ost (mkF m 6 #[.val (.int (2 : Int32)), .val (.int (4 : Int32)), .val .null] [(.int (4 : Int32)), (.int (2 : Int32))]) X0 (fun t k => XS.iloadN X0.here hx rfl (hb hby d17_5) rfl k) ?_
  refine ost (mkF m 16 #[.val (.int (2 : Int32)), .val (.int (4 : Int32)), .val .null] []) X0 (fun t k => XS.icmpYes X0.here hx rfl (pc0 := 6) (pc' := 16) rfl (hb hby d17_6) rfl (tlt (show (2 : Int32) < (4 : Int32) by first | rfl | decide)).1 (by decide) (by decide) k) ?_
  refine ost (mkF m 17 #[.val (.int (2 : Int32)), .val (.int (4 : Int32)), .val .null] [(.int (2 : Int32))]) X0 (fun t k => XS.iloadN X0.here hx rfl (hb hby d17_16) rfl k) ?_
  refine OwnFin.retInt X0 (hb hby d17_17) (by decide) (by decide) ?_
  rw [e0]
  exact ⟨rfl, N0, rfl⟩)
def Q16s35 (Z : State) (h0 : Heap) (n0 : Nat) : Option Value → Heap → List Loc → Prop := fun v h L => v = some (.int (2 : Int32)) ∧ Fr n0 L ∧ h = h0
set_option maxRecDepth 65536 in
set_option maxHeartbeats 40000000 in
theorem rm16s35 (l : Launch) (Z : State) (a0 : Array Value) (hw : ∀ d ∈ tables_1, d.before a0 Z = true) (ws : List Jvm.Cond) (h0 : Heap) (n0 : Nat) (Z0 : n0 ≤ h0.size) :
    MetFree l Y14 (head1 (Jvm.Cond.code Y14 jdk_31_method_17_code 2 (some .int) :: ws) ({ frames := 1, cells := 0, slots := 0, locals := 14 } : Room)) (fun a U => a = #[(.int (2 : Int32)), (.int (4 : Int32))] ∧ Z.Warmed39 U.vm ∧ U.heap = h0) (fun _ _ _ _ _ => True) (fun _ U o U' => ∃ v L, o = .returned v ∧ (Q16s35 Z h0 n0) v U'.heap L ∧ FrameEnd U o U' L ({ frames := 1, cells := 0, slots := 0, locals := 14 } : Room).cells ({ frames := 1, cells := 0, slots := 0, locals := 14 } : Room).slots) :=
  own_met (ret := (some .int)) (Q := (Q16s35 Z h0 n0)) (plainFor_of_name pn_16) (fun m => ef_16 m (2 : Int32) (4 : Int32)) (fun p e s m below meth c T0 X0 hx hby hml hown hnm hZ e0 => by
  have N0 := Fr.nil n0
  refine ost (mkF m 1 #[.val (.int (2 : Int32)), .val (.int (4 : Int32))] [(.int (2 : Int32))]) X0 (fun t k => XS.iloadN X0.here hx rfl (hb hby d16_0) rfl k) ?_
  refine ost (mkF m 2 #[.val (.int (2 : Int32)), .val (.int (4 : Int32))] [(.int (4 : Int32)), (.int (2 : Int32))]) X0 (fun t k => XS.iloadN X0.here hx rfl (hb hby d16_1) rfl k) ?_
  refine ost (mkF m 3 #[.val (.int (2 : Int32)), .val (.int (4 : Int32))] [.null, (.int (4 : Int32)), (.int (2 : Int32))]) X0 (fun t k => XS.aconstNull X0.here hx rfl (hb hby d16_2) k) ?_
  obtain ⟨_, T35864, L35864, X35864, ⟨rfl, N35864q, u36875⟩, st35864⟩ := own_callS X0 hx hZ (y := Y13) (W := 0) (argsL := [(.int (2 : Int32)), (.int (4 : Int32)), .null]) (rest := []) hown (hw _ (wm 121 rfl)) (hw _ (wm 122 rfl)) (hw _ (wm 123 rfl)) (hw _ (wm 124 rfl)) (by decide) (rm17s36 l Z a0 hw []  h0 n0 Z0 ) (by decide) (by decide) (by decide) (by decide) e0 (g := (mkF m 3 #[.val (.int (2 : Int32)), .val (.int (4 : Int32))] [.null, (.int (4 : Int32)), (.int (2 : Int32))])) rfl (by rw [hml]; rfl) pd_9 rfl rfl (by show 2 * 0 + _ ≤ _; exact Nat.le_of_eq rfl) (hb hby d16_3)
  have N35864 := Fr.app N0 N35864q
  refine ost (mkF m 6 #[.val (.int (2 : Int32)), .val (.int (4 : Int32))] [(.int (2 : Int32))]) X35864 (fun t k => st35864 _ k) ?_
  refine OwnFin.retInt X35864 (hb hby d16_6) (by decide) (by decide) ?_
  rw [u36875]
  exact ⟨rfl, N35864, rfl⟩)
def Q15s34 (Z : State) (b5 : Addr) (b3062 : Addr) (b9140 : Addr) (b9240 : Addr) (b13361 : Addr) (b17483 : Addr) (h0 : Heap) (n0 : Nat) : Option Value → Heap → List Loc → Prop := fun v h L => v = some (.ref b13361) ∧ Fr n0 L ∧ h = h0
set_option maxRecDepth 65536 in
set_option maxHeartbeats 40000000 in
theorem rm15s34 (l : Launch) (Z : State) (a0 : Array Value) (hw : ∀ d ∈ tables_1, d.before a0 Z = true) (ws : List Jvm.Cond) (b5 : Addr) (b3062 : Addr) (b9140 : Addr) (b9240 : Addr) (b13361 : Addr) (b17483 : Addr) (h0 : Heap) (n0 : Nat) (Z0 : n0 ≤ h0.size) (E_b5 : Exa Z h0 b5 "java/util/ArrayList") (F_elementData_b5 : Fld Z h0 b5 "java/util/ArrayList" "elementData" "[Ljava/lang/Object;" (.ref b9140)) (F_size_b5 : Fld Z h0 b5 "java/util/ArrayList" "size" "I" (.int (4 : Int32))) (A_b9140 : AryR Z h0 b9140 "java/lang/Object" 10 (updN (updN (updN (updN (fun _ => Value.null) ((0 : Int32)).toNatClampNeg (Value.ref b3062)) ((1 : Int32)).toNatClampNeg (Value.ref b9240)) ((2 : Int32)).toNatClampNeg (Value.ref b13361)) ((3 : Int32)).toNatClampNeg (Value.ref b17483))) :
    MetFree l Y17 (head1 (Jvm.Cond.code Y17 jdk_38_method_20_code 2 (some (.object "java/lang/Object")) :: ws) ({ frames := 2, cells := 0, slots := 0, locals := 27 } : Room)) (fun a U => a = #[(.ref b5), (.int (2 : Int32))] ∧ Z.Warmed39 U.vm ∧ U.heap = h0) (fun _ _ _ _ _ => True) (fun _ U o U' => ∃ v L, o = .returned v ∧ (Q15s34 Z b5 b3062 b9140 b9240 b13361 b17483 h0 n0) v U'.heap L ∧ FrameEnd U o U' L ({ frames := 2, cells := 0, slots := 0, locals := 27 } : Room).cells ({ frames := 2, cells := 0, slots := 0, locals := 27 } : Room).slots) :=
  own_met (ret := (some (.object "java/lang/Object"))) (Q := (Q15s34 Z b5 b3062 b9140 b9240 b13361 b17483 h0 n0)) (plainFor_of_name pn_15) (fun m => ef_15 m b5 (2 : Int32)) (fun p e s m below meth c T0 X0 hx hby hml hown hnm hZ e0 => by
  have N0 := Fr.nil n0
  refine ost (mkF m 1 #[.val (.ref b5), .val (.int (2 : Int32))] [(.int (2 : Int32))]) X0 (fun t k => XS.iloadN X0.here hx rfl (hb hby d15_0) rfl k) ?_
  refine ost (mkF m 2 #[.val (.ref b5), .val (.int (2 : Int32))] [(.ref b5), (.int (2 : Int32))]) X0 (fun t k => XS.aloadN X0.here hx rfl (hb hby d15_1) rfl rfl k) ?_
  obtain ⟨T34862, X34862, e34862, st34862⟩ := getF X0 hx hZ hown (host := "") (Or.inl (hw _ (wm 64 rfl))) Via.refl e0 F_size_b5 (g := (mkF m 2 #[.val (.ref b5), .val (.int (2 : Int32))] [(.ref b5), (.int (2 : Int32))])) rfl rfl (hb hby d15_2)
  refine ost (mkF m 5 #[.val (.ref b5), .val (.int (2 : Int32))] [(.int (4 : Int32)), (.int (2 : Int32))]) X34862 (fun t k => st34862 _ k) ?_
  obtain ⟨_, T34863, L34863, X34863, ⟨rfl, N34863q, u36886⟩, st34863⟩ := own_callS X34862 hx hZ (y := Y14) (W := 0) (argsL := [(.int (2 : Int32)), (.int (4 : Int32))]) (rest := []) hown (hw _ (wm 117 rfl)) (hw _ (wm 118 rfl)) (hw _ (wm 119 rfl)) (hw _ (wm 120 rfl)) (by decide) (rm16s35 l Z a0 hw []  h0 n0 Z0 ) (by decide) (by decide) (by decide) (by decide) e34862 (g := (mkF m 5 #[.val (.ref b5), .val (.int (2 : Int32))] [(.int (4 : Int32)), (.int (2 : Int32))])) rfl (by rw [hml]; rfl) pd_0 rfl rfl (by show 2 * 0 + _ ≤ _; exact Nat.le_of_eq rfl) (hb hby d15_5)
  have N34863 := Fr.app N0 N34863q
  refine ost (mkF m 8 #[.val (.ref b5), .val (.int (2 : Int32))] [(.int (2 : Int32))]) X34863 (fun t k => st34863 _ k) ?_
  refine ost (mkF m 9 #[.val (.ref b5), .val (.int (2 : Int32))] []) X34863 (fun t k => XT.pop X34863.here hx rfl (hb hby d15_8) rfl rfl k) ?_
  refine ost (mkF m 10 #[.val (.ref b5), .val (.int (2 : Int32))] [(.ref b5)]) X34863 (fun t k => XS.aloadN X34863.here hx rfl (hb hby d15_9) rfl rfl k) ?_
  refine ost (mkF m 11 #[.val (.ref b5), .val (.int (2 : Int32))] [(.int (2 : Int32)), (.ref b5)]) X34863 (fun t k => XS.iloadN X34863.here hx rfl (hb hby d15_10) rfl k) ?_
  obtain ⟨_, T36887, L36887, X36887, ⟨rfl, N36887q, u37899⟩, st36887⟩ := own_callV X34863 hx hZ (y := Y15) (W := 0) (a := b5) (argsL := [(.int (2 : Int32))]) (rest := []) hown (hw _ (wm 125 rfl)) (hw _ (wm 126 rfl)) (hw _ (wm 128 rfl)) (hw _ (wm 127 rfl)) (hw _ (wm 11 rfl)) (hw _ (wm 129 rfl)) (by decide) E_b5 (rm18s37 l Z a0 hw [] b5 b3062 b9140 b9240 b13361 b17483 h0 n0 Z0 F_elementData_b5 A_b9140) (by decide) (by decide) (by decide) (by decide) u36886 (g := (mkF m 11 #[.val (.ref b5), .val (.int (2 : Int32))] [(.int (2 : Int32)), (.ref b5)])) rfl (by rw [hml]; rfl) pd_10 rfl rfl (by show 2 * 0 + _ ≤ _; exact Nat.le_of_eq rfl) (hb hby d15_11)
  have N36887 := Fr.app N34863 N36887q
  refine ost (mkF m 14 #[.val (.ref b5), .val (.int (2 : Int32))] [(.ref b13361)]) X36887 (fun t k => st36887 _ k) ?_
  refine OwnFin.retRef X36887 rfl rfl rfl (hb hby d15_14) (by decide) (by decide) ?_
  rw [u37899]
  exact ⟨rfl, N36887, rfl⟩)
def Q19s33 (Z : State) (q0 : Int64) (b9240 : Addr) (h0 : Heap) (n0 : Nat) : Option Value → Heap → List Loc → Prop := fun v h L => v = some (.int (v0_15 q0)) ∧ Fr n0 L ∧ h = h0
set_option maxRecDepth 65536 in
set_option maxHeartbeats 40000000 in
theorem rm19s33 (l : Launch) (Z : State) (a0 : Array Value) (hw : ∀ d ∈ tables_1, d.before a0 Z = true) (ws : List Jvm.Cond) (q0 : Int64) (b9240 : Addr) (h0 : Heap) (n0 : Nat) (Z0 : n0 ≤ h0.size) (F_size_b9240 : Fld Z h0 b9240 "com/example/ken2/ken2/InterpretedSystem$Variable" "size" "I" (.int (v0_15 q0))) :
    MetFree l Y18 (head1 (Jvm.Cond.code Y18 prog_64_method_15_code 1 (some .int) :: ws) ({ frames := 0, cells := 0, slots := 0, locals := 0 } : Room)) (fun a U => a = #[(.ref b9240)] ∧ Z.Warmed39 U.vm ∧ U.heap = h0) (fun _ _ _ _ _ => True) (fun _ U o U' => ∃ v L, o = .returned v ∧ (Q19s33 Z q0 b9240 h0 n0) v U'.heap L ∧ FrameEnd U o U' L ({ frames := 0, cells := 0, slots := 0, locals := 0 } : Room).cells ({ frames := 0, cells := 0, slots := 0, locals := 0 } : Room).slots) :=
  own_met (ret := (some .int)) (Q := (Q19s33 Z q0 b9240 h0 n0)) (plainFor_of_name pn_19) (fun m => ef_19 m b9240) (fun p e s m below meth c T0 X0 hx hby hml hown hnm hZ e0 => by
  have N0 := Fr.nil n0
  refine ost (mkF m 1 #[.val (.ref b9240)] [(.ref b9240)]) X0 (fun t k => XS.aloadN X0.here hx rfl (hb hby d19_0) rfl rfl k) ?_
  obtain ⟨T33826, X33826, e33826, st33826⟩ := getF X0 hx hZ hown (host := "") (Or.inl (hw _ (wm 55 rfl))) Via.refl e0 F_size_b9240 (g := (mkF m 1 #[.val (.ref b9240)] [(.ref b9240)])) rfl rfl (hb hby d19_1)
  refine ost (mkF m 4 #[.val (.ref b9240)] [(.int (v0_15 q0))]) X33826 (fun t k => st33826 _ k) ?_
  refine OwnFin.retInt X33826 (hb hby d19_4) (by decide) (by decide) ?_
  rw [e33826]
  exact ⟨rfl, N0, rfl⟩)
def Q18s32 (Z : State) (b5 : Addr) (b3062 : Addr) (b9140 : Addr) (b9240 : Addr) (b13361 : Addr) (b17483 : Addr) (h0 : Heap) (n0 : Nat) : Option Value → Heap → List Loc → Prop := fun v h L => v = some (.ref b9240) ∧ Fr n0 L ∧ h = h0
set_option maxRecDepth 65536 in
set_option maxHeartbeats 40000000 in
theorem rm18s32 (l : Launch) (Z : State) (a0 : Array Value) (hw : ∀ d ∈ tables_1, d.before a0 Z = true) (ws : List Jvm.Cond) (b5 : Addr) (b3062 : Addr) (b9140 : Addr) (b9240 : Addr) (b13361 : Addr) (b17483 : Addr) (h0 : Heap) (n0 : Nat) (Z0 : n0 ≤ h0.size) (F_elementData_b5 : Fld Z h0 b5 "java/util/ArrayList" "elementData" "[Ljava/lang/Object;" (.ref b9140)) (A_b9140 : AryR Z h0 b9140 "java/lang/Object" 10 (updN (updN (updN (updN (fun _ => Value.null) ((0 : Int32)).toNatClampNeg (Value.ref b3062)) ((1 : Int32)).toNatClampNeg (Value.ref b9240)) ((2 : Int32)).toNatClampNeg (Value.ref b13361)) ((3 : Int32)).toNatClampNeg (Value.ref b17483))) :
    MetFree l Y15 (head1 (Jvm.Cond.code Y15 jdk_38_method_18_code 2 (some (.object "java/lang/Object")) :: ws) ({ frames := 0, cells := 0, slots := 0, locals := 0 } : Room)) (fun a U => a = #[(.ref b5), (.int (1 : Int32))] ∧ Z.Warmed39 U.vm ∧ U.heap = h0) (fun _ _ _ _ _ => True) (fun _ U o U' => ∃ v L, o = .returned v ∧ (Q18s32 Z b5 b3062 b9140 b9240 b13361 b17483 h0 n0) v U'.heap L ∧ FrameEnd U o U' L ({ frames := 0, cells := 0, slots := 0, locals := 0 } : Room).cells ({ frames := 0, cells := 0, slots := 0, locals := 0 } : Room).slots) :=
  own_met (ret := (some (.object "java/lang/Object"))) (Q := (Q18s32 Z b5 b3062 b9140 b9240 b13361 b17483 h0 n0)) (plainFor_of_name pn_18) (fun m => ef_18 m b5 (1 : Int32)) (fun p e s m below meth c T0 X0 hx hby hml hown hnm hZ e0 => by
  have N0 := Fr.nil n0
  refine ost (mkF m 1 #[.val (.ref b5), .val (.int (1 : Int32))] [(.ref b5)]) X0 (fun t k => XS.aloadN X0.here hx rfl (hb hby d18_0) rfl rfl k) ?_
  obtain ⟨T32798, X32798, e32798, st32798⟩ := getF X0 hx hZ hown (host := "") (Or.inl (hw _ (wm 33 rfl))) Via.refl e0 F_elementData_b5 (g := (mkF m 1 #[.val (.ref b5), .val (.int (1 : Int32))] [(.ref b5)])) rfl rfl (hb hby d18_1)
  refine ost (mkF m 4 #[.val (.ref b5), .val (.int (1 : Int32))] [(.ref b9140)]) X32798 (fun t k => st32798 _ k) ?_
  refine ost (mkF m 5 #[.val (.ref b5), .val (.int (1 : Int32))] [(.int (1 : Int32)), (.ref b9140)]) X32798 (fun t k => XS.iloadN X32798.here hx rfl (hb hby d18_4) rfl k) ?_
  refine ost (mkF m 6 #[.val (.ref b5), .val (.int (1 : Int32))] [(.ref b9240)]) X32798 (fun t k => own_ldA X32798 hx hZ e32798 (A_b9140).1 rfl (by decide) (updOff (by decide) (updOff (by decide) (updAt rfl))) (g := (mkF m 5 #[.val (.ref b5), .val (.int (1 : Int32))] [(.int (1 : Int32)), (.ref b9140)])) rfl rfl (hb hby d18_5) _ k) ?_
  refine OwnFin.retRef X32798 rfl rfl rfl (hb hby d18_6) (by decide) (by decide) ?_
  rw [e32798]
  exact ⟨rfl, N0, rfl⟩)
def Q17s31 (Z : State) (h0 : Heap) (n0 : Nat) : Option Value → Heap → List Loc → Prop := fun v h L => v = some (.int (1 : Int32)) ∧ Fr n0 L ∧ h = h0
set_option maxRecDepth 65536 in
set_option maxHeartbeats 40000000 in
theorem rm17s31 (l : Launch) (Z : State) (a0 : Array Value) (hw : ∀ d ∈ tables_1, d.before a0 Z = true) (ws : List Jvm.Cond) (h0 : Heap) (n0 : Nat) (Z0 : n0 ≤ h0.size) :
    MetFree l Y13 (head1 (Jvm.Cond.code Y13 jdk_41_method_11_code 3 (some .int) :: ws) ({ frames := 0, cells := 0, slots := 0, locals := 0 } : Room)) (fun a U => a = #[(.int (1 : Int32)), (.int (4 : Int32)), .null] ∧ Z.Warmed39 U.vm ∧ U.heap = h0) (fun _ _ _ _ _ => True) (fun _ U o U' => ∃ v L, o = .returned v ∧ (Q17s31 Z h0 n0) v U'.heap L ∧ FrameEnd U o U' L ({ frames := 0, cells := 0, slots := 0, locals := 0 } : Room).cells ({ frames := 0, cells := 0, slots := 0, locals := 0 } : Room).slots) :=
  own_met (ret := (some .int)) (Q := (Q17s31 Z h0 n0)) (plainFor_of_name pn_17) (fun m => ef_17n2 m (1 : Int32) (4 : Int32)) (fun p e s m below meth c T0 X0 hx hby hml hown hnm hZ e0 => by
  have N0 := Fr.nil n0
  refine ost (mkF m 1 #[.val (.int (1 : Int32)), .val (.int (4 : Int32)), .val .null] [(.int (1 : Int32))]) X0 (fun t k => XS.iloadN X0.here hx rfl (hb hby d17_0) rfl k) ?_
  refine ost (mkF m 4 #[.val (.int (1 : Int32)), .val (.int (4 : Int32)), .val .null] []) X0 (fun t k => XS.ifNo X0.here hx rfl (hb hby d17_1) rfl ((if0 _ _).trans (flt (show ¬ ((1 : Int32) < (0 : Int32)) by first | decide | exact Int32.lt_irrefl _ | exact Int64.lt_irrefl _)).1) k) ?_
  refine ost (mkF m 5 #[.val (.int (1 : Int32)), .val (.int (4 : Int32)), .val .null] [(.int (1 : Int32))]) X0 (fun t k => XS.iloadN X0.here hx rfl (hb hby d17_4) rfl k) ?_
  refine ost (mkF m 6 #[.val (.int (1 : Int32)), .val (.int (4 : Int32)), .val .null] [(.int (4 : Int32)), (.int (1 : Int32))]) X0 (fun t k => XS.iloadN X0.here hx rfl (hb hby d17_5) rfl k) ?_
  refine ost (mkF m 16 #[.val (.int (1 : Int32)), .val (.int (4 : Int32)), .val .null] []) X0 (fun t k => XS.icmpYes X0.here hx rfl (pc0 := 6) (pc' := 16) rfl (hb hby d17_6) rfl (tlt (show (1 : Int32) < (4 : Int32) by first | rfl | decide)).1 (by decide) (by decide) k) ?_
  refine ost (mkF m 17 #[.val (.int (1 : Int32)), .val (.int (4 : Int32)), .val .null] [(.int (1 : Int32))]) X0 (fun t k => XS.iloadN X0.here hx rfl (hb hby d17_16) rfl k) ?_
  refine OwnFin.retInt X0 (hb hby d17_17) (by decide) (by decide) ?_
  rw [e0]
  exact ⟨rfl, N0, rfl⟩)
def Q16s30 (Z : State) (h0 : Heap) (n0 : Nat) : Option Value → Heap → List Loc → Prop := fun v h L => v = some (.int (1 : Int32)) ∧ Fr n0 L ∧ h = h0
set_option maxRecDepth 65536 in
set_option maxHeartbeats 40000000 in
theorem rm16s30 (l : Launch) (Z : State) (a0 : Array Value) (hw : ∀ d ∈ tables_1, d.before a0 Z = true) (ws : List Jvm.Cond) (h0 : Heap) (n0 : Nat) (Z0 : n0 ≤ h0.size) :
    MetFree l Y14 (head1 (Jvm.Cond.code Y14 jdk_31_method_17_code 2 (some .int) :: ws) ({ frames := 1, cells := 0, slots := 0, locals := 14 } : Room)) (fun a U => a = #[(.int (1 : Int32)), (.int (4 : Int32))] ∧ Z.Warmed39 U.vm ∧ U.heap = h0) (fun _ _ _ _ _ => True) (fun _ U o U' => ∃ v L, o = .returned v ∧ (Q16s30 Z h0 n0) v U'.heap L ∧ FrameEnd U o U' L ({ frames := 1, cells := 0, slots := 0, locals := 14 } : Room).cells ({ frames := 1, cells := 0, slots := 0, locals := 14 } : Room).slots) :=
  own_met (ret := (some .int)) (Q := (Q16s30 Z h0 n0)) (plainFor_of_name pn_16) (fun m => ef_16 m (1 : Int32) (4 : Int32)) (fun p e s m below meth c T0 X0 hx hby hml hown hnm hZ e0 => by
  have N0 := Fr.nil n0
  refine ost (mkF m 1 #[.val (.int (1 : Int32)), .val (.int (4 : Int32))] [(.int (1 : Int32))]) X0 (fun t k => XS.iloadN X0.here hx rfl (hb hby d16_0) rfl k) ?_
  refine ost (mkF m 2 #[.val (.int (1 : Int32)), .val (.int (4 : Int32))] [(.int (4 : Int32)), (.int (1 : Int32))]) X0 (fun t k => XS.iloadN X0.here hx rfl (hb hby d16_1) rfl k) ?_
  refine ost (mkF m 3 #[.val (.int (1 : Int32)), .val (.int (4 : Int32))] [.null, (.int (4 : Int32)), (.int (1 : Int32))]) X0 (fun t k => XS.aconstNull X0.here hx rfl (hb hby d16_2) k) ?_
  obtain ⟨_, T30774, L30774, X30774, ⟨rfl, N30774q, u31785⟩, st30774⟩ := own_callS X0 hx hZ (y := Y13) (W := 0) (argsL := [(.int (1 : Int32)), (.int (4 : Int32)), .null]) (rest := []) hown (hw _ (wm 121 rfl)) (hw _ (wm 122 rfl)) (hw _ (wm 123 rfl)) (hw _ (wm 124 rfl)) (by decide) (rm17s31 l Z a0 hw []  h0 n0 Z0 ) (by decide) (by decide) (by decide) (by decide) e0 (g := (mkF m 3 #[.val (.int (1 : Int32)), .val (.int (4 : Int32))] [.null, (.int (4 : Int32)), (.int (1 : Int32))])) rfl (by rw [hml]; rfl) pd_9 rfl rfl (by show 2 * 0 + _ ≤ _; exact Nat.le_of_eq rfl) (hb hby d16_3)
  have N30774 := Fr.app N0 N30774q
  refine ost (mkF m 6 #[.val (.int (1 : Int32)), .val (.int (4 : Int32))] [(.int (1 : Int32))]) X30774 (fun t k => st30774 _ k) ?_
  refine OwnFin.retInt X30774 (hb hby d16_6) (by decide) (by decide) ?_
  rw [u31785]
  exact ⟨rfl, N30774, rfl⟩)
def Q15s29 (Z : State) (b5 : Addr) (b3062 : Addr) (b9140 : Addr) (b9240 : Addr) (b13361 : Addr) (b17483 : Addr) (h0 : Heap) (n0 : Nat) : Option Value → Heap → List Loc → Prop := fun v h L => v = some (.ref b9240) ∧ Fr n0 L ∧ h = h0
set_option maxRecDepth 65536 in
set_option maxHeartbeats 40000000 in
theorem rm15s29 (l : Launch) (Z : State) (a0 : Array Value) (hw : ∀ d ∈ tables_1, d.before a0 Z = true) (ws : List Jvm.Cond) (b5 : Addr) (b3062 : Addr) (b9140 : Addr) (b9240 : Addr) (b13361 : Addr) (b17483 : Addr) (h0 : Heap) (n0 : Nat) (Z0 : n0 ≤ h0.size) (E_b5 : Exa Z h0 b5 "java/util/ArrayList") (F_elementData_b5 : Fld Z h0 b5 "java/util/ArrayList" "elementData" "[Ljava/lang/Object;" (.ref b9140)) (F_size_b5 : Fld Z h0 b5 "java/util/ArrayList" "size" "I" (.int (4 : Int32))) (A_b9140 : AryR Z h0 b9140 "java/lang/Object" 10 (updN (updN (updN (updN (fun _ => Value.null) ((0 : Int32)).toNatClampNeg (Value.ref b3062)) ((1 : Int32)).toNatClampNeg (Value.ref b9240)) ((2 : Int32)).toNatClampNeg (Value.ref b13361)) ((3 : Int32)).toNatClampNeg (Value.ref b17483))) :
    MetFree l Y17 (head1 (Jvm.Cond.code Y17 jdk_38_method_20_code 2 (some (.object "java/lang/Object")) :: ws) ({ frames := 2, cells := 0, slots := 0, locals := 27 } : Room)) (fun a U => a = #[(.ref b5), (.int (1 : Int32))] ∧ Z.Warmed39 U.vm ∧ U.heap = h0) (fun _ _ _ _ _ => True) (fun _ U o U' => ∃ v L, o = .returned v ∧ (Q15s29 Z b5 b3062 b9140 b9240 b13361 b17483 h0 n0) v U'.heap L ∧ FrameEnd U o U' L ({ frames := 2, cells := 0, slots := 0, locals := 27 } : Room).cells ({ frames := 2, cells := 0, slots := 0, locals := 27 } : Room).slots) :=
  own_met (ret := (some (.object "java/lang/Object"))) (Q := (Q15s29 Z b5 b3062 b9140 b9240 b13361 b17483 h0 n0)) (plainFor_of_name pn_15) (fun m => ef_15 m b5 (1 : Int32)) (fun p e s m below meth c T0 X0 hx hby hml hown hnm hZ e0 => by
  have N0 := Fr.nil n0
  refine ost (mkF m 1 #[.val (.ref b5), .val (.int (1 : Int32))] [(.int (1 : Int32))]) X0 (fun t k => XS.iloadN X0.here hx rfl (hb hby d15_0) rfl k) ?_
  refine ost (mkF m 2 #[.val (.ref b5), .val (.int (1 : Int32))] [(.ref b5), (.int (1 : Int32))]) X0 (fun t k => XS.aloadN X0.here hx rfl (hb hby d15_1) rfl rfl k) ?_
  obtain ⟨T29772, X29772, e29772, st29772⟩ := getF X0 hx hZ hown (host := "") (Or.inl (hw _ (wm 64 rfl))) Via.refl e0 F_size_b5 (g := (mkF m 2 #[.val (.ref b5), .val (.int (1 : Int32))] [(.ref b5), (.int (1 : Int32))])) rfl rfl (hb hby d15_2)
  refine ost (mkF m 5 #[.val (.ref b5), .val (.int (1 : Int32))] [(.int (4 : Int32)), (.int (1 : Int32))]) X29772 (fun t k => st29772 _ k) ?_
  obtain ⟨_, T29773, L29773, X29773, ⟨rfl, N29773q, u31796⟩, st29773⟩ := own_callS X29772 hx hZ (y := Y14) (W := 0) (argsL := [(.int (1 : Int32)), (.int (4 : Int32))]) (rest := []) hown (hw _ (wm 117 rfl)) (hw _ (wm 118 rfl)) (hw _ (wm 119 rfl)) (hw _ (wm 120 rfl)) (by decide) (rm16s30 l Z a0 hw []  h0 n0 Z0 ) (by decide) (by decide) (by decide) (by decide) e29772 (g := (mkF m 5 #[.val (.ref b5), .val (.int (1 : Int32))] [(.int (4 : Int32)), (.int (1 : Int32))])) rfl (by rw [hml]; rfl) pd_0 rfl rfl (by show 2 * 0 + _ ≤ _; exact Nat.le_of_eq rfl) (hb hby d15_5)
  have N29773 := Fr.app N0 N29773q
  refine ost (mkF m 8 #[.val (.ref b5), .val (.int (1 : Int32))] [(.int (1 : Int32))]) X29773 (fun t k => st29773 _ k) ?_
  refine ost (mkF m 9 #[.val (.ref b5), .val (.int (1 : Int32))] []) X29773 (fun t k => XT.pop X29773.here hx rfl (hb hby d15_8) rfl rfl k) ?_
  refine ost (mkF m 10 #[.val (.ref b5), .val (.int (1 : Int32))] [(.ref b5)]) X29773 (fun t k => XS.aloadN X29773.here hx rfl (hb hby d15_9) rfl rfl k) ?_
  refine ost (mkF m 11 #[.val (.ref b5), .val (.int (1 : Int32))] [(.int (1 : Int32)), (.ref b5)]) X29773 (fun t k => XS.iloadN X29773.here hx rfl (hb hby d15_10) rfl k) ?_
  obtain ⟨_, T31797, L31797, X31797, ⟨rfl, N31797q, u32809⟩, st31797⟩ := own_callV X29773 hx hZ (y := Y15) (W := 0) (a := b5) (argsL := [(.int (1 : Int32))]) (rest := []) hown (hw _ (wm 125 rfl)) (hw _ (wm 126 rfl)) (hw _ (wm 128 rfl)) (hw _ (wm 127 rfl)) (hw _ (wm 11 rfl)) (hw _ (wm 129 rfl)) (by decide) E_b5 (rm18s32 l Z a0 hw [] b5 b3062 b9140 b9240 b13361 b17483 h0 n0 Z0 F_elementData_b5 A_b9140) (by decide) (by decide) (by decide) (by decide) u31796 (g := (mkF m 11 #[.val (.ref b5), .val (.int (1 : Int32))] [(.int (1 : Int32)), (.ref b5)])) rfl (by rw [hml]; rfl) pd_10 rfl rfl (by show 2 * 0 + _ ≤ _; exact Nat.le_of_eq rfl) (hb hby d15_11)
  have N31797 := Fr.app N29773 N31797q
  refine ost (mkF m 14 #[.val (.ref b5), .val (.int (1 : Int32))] [(.ref b9240)]) X31797 (fun t k => st31797 _ k) ?_
  refine OwnFin.retRef X31797 rfl rfl rfl (hb hby d15_14) (by decide) (by decide) ?_
  rw [u32809]
  exact ⟨rfl, N31797, rfl⟩)
def Q19s28 (Z : State) (q0 : Int64) (b3062 : Addr) (h0 : Heap) (n0 : Nat) : Option Value → Heap → List Loc → Prop := fun v h L => v = some (.int (v0_8 q0)) ∧ Fr n0 L ∧ h = h0
set_option maxRecDepth 65536 in
set_option maxHeartbeats 40000000 in
theorem rm19s28 (l : Launch) (Z : State) (a0 : Array Value) (hw : ∀ d ∈ tables_1, d.before a0 Z = true) (ws : List Jvm.Cond) (q0 : Int64) (b3062 : Addr) (h0 : Heap) (n0 : Nat) (Z0 : n0 ≤ h0.size) (F_size_b3062 : Fld Z h0 b3062 "com/example/ken2/ken2/InterpretedSystem$Variable" "size" "I" (.int (v0_8 q0))) :
    MetFree l Y18 (head1 (Jvm.Cond.code Y18 prog_64_method_15_code 1 (some .int) :: ws) ({ frames := 0, cells := 0, slots := 0, locals := 0 } : Room)) (fun a U => a = #[(.ref b3062)] ∧ Z.Warmed39 U.vm ∧ U.heap = h0) (fun _ _ _ _ _ => True) (fun _ U o U' => ∃ v L, o = .returned v ∧ (Q19s28 Z q0 b3062 h0 n0) v U'.heap L ∧ FrameEnd U o U' L ({ frames := 0, cells := 0, slots := 0, locals := 0 } : Room).cells ({ frames := 0, cells := 0, slots := 0, locals := 0 } : Room).slots) :=
  own_met (ret := (some .int)) (Q := (Q19s28 Z q0 b3062 h0 n0)) (plainFor_of_name pn_19) (fun m => ef_19 m b3062) (fun p e s m below meth c T0 X0 hx hby hml hown hnm hZ e0 => by
  have N0 := Fr.nil n0
  refine ost (mkF m 1 #[.val (.ref b3062)] [(.ref b3062)]) X0 (fun t k => XS.aloadN X0.here hx rfl (hb hby d19_0) rfl rfl k) ?_
  obtain ⟨T28739, X28739, e28739, st28739⟩ := getF X0 hx hZ hown (host := "") (Or.inl (hw _ (wm 55 rfl))) Via.refl e0 F_size_b3062 (g := (mkF m 1 #[.val (.ref b3062)] [(.ref b3062)])) rfl rfl (hb hby d19_1)
  refine ost (mkF m 4 #[.val (.ref b3062)] [(.int (v0_8 q0))]) X28739 (fun t k => st28739 _ k) ?_
  refine OwnFin.retInt X28739 (hb hby d19_4) (by decide) (by decide) ?_
  rw [e28739]
  exact ⟨rfl, N0, rfl⟩)
def Q18s27 (Z : State) (b5 : Addr) (b3062 : Addr) (b9140 : Addr) (b9240 : Addr) (b13361 : Addr) (b17483 : Addr) (h0 : Heap) (n0 : Nat) : Option Value → Heap → List Loc → Prop := fun v h L => v = some (.ref b3062) ∧ Fr n0 L ∧ h = h0
set_option maxRecDepth 65536 in
set_option maxHeartbeats 40000000 in
theorem rm18s27 (l : Launch) (Z : State) (a0 : Array Value) (hw : ∀ d ∈ tables_1, d.before a0 Z = true) (ws : List Jvm.Cond) (b5 : Addr) (b3062 : Addr) (b9140 : Addr) (b9240 : Addr) (b13361 : Addr) (b17483 : Addr) (h0 : Heap) (n0 : Nat) (Z0 : n0 ≤ h0.size) (F_elementData_b5 : Fld Z h0 b5 "java/util/ArrayList" "elementData" "[Ljava/lang/Object;" (.ref b9140)) (A_b9140 : AryR Z h0 b9140 "java/lang/Object" 10 (updN (updN (updN (updN (fun _ => Value.null) ((0 : Int32)).toNatClampNeg (Value.ref b3062)) ((1 : Int32)).toNatClampNeg (Value.ref b9240)) ((2 : Int32)).toNatClampNeg (Value.ref b13361)) ((3 : Int32)).toNatClampNeg (Value.ref b17483))) :
    MetFree l Y15 (head1 (Jvm.Cond.code Y15 jdk_38_method_18_code 2 (some (.object "java/lang/Object")) :: ws) ({ frames := 0, cells := 0, slots := 0, locals := 0 } : Room)) (fun a U => a = #[(.ref b5), (.int (0 : Int32))] ∧ Z.Warmed39 U.vm ∧ U.heap = h0) (fun _ _ _ _ _ => True) (fun _ U o U' => ∃ v L, o = .returned v ∧ (Q18s27 Z b5 b3062 b9140 b9240 b13361 b17483 h0 n0) v U'.heap L ∧ FrameEnd U o U' L ({ frames := 0, cells := 0, slots := 0, locals := 0 } : Room).cells ({ frames := 0, cells := 0, slots := 0, locals := 0 } : Room).slots) :=
  own_met (ret := (some (.object "java/lang/Object"))) (Q := (Q18s27 Z b5 b3062 b9140 b9240 b13361 b17483 h0 n0)) (plainFor_of_name pn_18) (fun m => ef_18 m b5 (0 : Int32)) (fun p e s m below meth c T0 X0 hx hby hml hown hnm hZ e0 => by
  have N0 := Fr.nil n0
  refine ost (mkF m 1 #[.val (.ref b5), .val (.int (0 : Int32))] [(.ref b5)]) X0 (fun t k => XS.aloadN X0.here hx rfl (hb hby d18_0) rfl rfl k) ?_
  obtain ⟨T27711, X27711, e27711, st27711⟩ := getF X0 hx hZ hown (host := "") (Or.inl (hw _ (wm 33 rfl))) Via.refl e0 F_elementData_b5 (g := (mkF m 1 #[.val (.ref b5), .val (.int (0 : Int32))] [(.ref b5)])) rfl rfl (hb hby d18_1)
  refine ost (mkF m 4 #[.val (.ref b5), .val (.int (0 : Int32))] [(.ref b9140)]) X27711 (fun t k => st27711 _ k) ?_
  refine ost (mkF m 5 #[.val (.ref b5), .val (.int (0 : Int32))] [(.int (0 : Int32)), (.ref b9140)]) X27711 (fun t k => XS.iloadN X27711.here hx rfl (hb hby d18_4) rfl k) ?_
  refine ost (mkF m 6 #[.val (.ref b5), .val (.int (0 : Int32))] [(.ref b3062)]) X27711 (fun t k => own_ldA X27711 hx hZ e27711 (A_b9140).1 rfl (by decide) (updOff (by decide) (updOff (by decide) (updOff (by decide) (updAt rfl)))) (g := (mkF m 5 #[.val (.ref b5), .val (.int (0 : Int32))] [(.int (0 : Int32)), (.ref b9140)])) rfl rfl (hb hby d18_5) _ k) ?_
  refine OwnFin.retRef X27711 rfl rfl rfl (hb hby d18_6) (by decide) (by decide) ?_
  rw [e27711]
  exact ⟨rfl, N0, rfl⟩)
def Q17s26 (Z : State) (h0 : Heap) (n0 : Nat) : Option Value → Heap → List Loc → Prop := fun v h L => v = some (.int (0 : Int32)) ∧ Fr n0 L ∧ h = h0
set_option maxRecDepth 65536 in
set_option maxHeartbeats 40000000 in
theorem rm17s26 (l : Launch) (Z : State) (a0 : Array Value) (hw : ∀ d ∈ tables_1, d.before a0 Z = true) (ws : List Jvm.Cond) (h0 : Heap) (n0 : Nat) (Z0 : n0 ≤ h0.size) :
    MetFree l Y13 (head1 (Jvm.Cond.code Y13 jdk_41_method_11_code 3 (some .int) :: ws) ({ frames := 0, cells := 0, slots := 0, locals := 0 } : Room)) (fun a U => a = #[(.int (0 : Int32)), (.int (4 : Int32)), .null] ∧ Z.Warmed39 U.vm ∧ U.heap = h0) (fun _ _ _ _ _ => True) (fun _ U o U' => ∃ v L, o = .returned v ∧ (Q17s26 Z h0 n0) v U'.heap L ∧ FrameEnd U o U' L ({ frames := 0, cells := 0, slots := 0, locals := 0 } : Room).cells ({ frames := 0, cells := 0, slots := 0, locals := 0 } : Room).slots) :=
  own_met (ret := (some .int)) (Q := (Q17s26 Z h0 n0)) (plainFor_of_name pn_17) (fun m => ef_17n2 m (0 : Int32) (4 : Int32)) (fun p e s m below meth c T0 X0 hx hby hml hown hnm hZ e0 => by
  have N0 := Fr.nil n0
  refine ost (mkF m 1 #[.val (.int (0 : Int32)), .val (.int (4 : Int32)), .val .null] [(.int (0 : Int32))]) X0 (fun t k => XS.iloadN X0.here hx rfl (hb hby d17_0) rfl k) ?_
  refine ost (mkF m 4 #[.val (.int (0 : Int32)), .val (.int (4 : Int32)), .val .null] []) X0 (fun t k => XS.ifNo X0.here hx rfl (hb hby d17_1) rfl ((if0 _ _).trans (flt (show ¬ ((0 : Int32) < (0 : Int32)) by first | decide | exact Int32.lt_irrefl _ | exact Int64.lt_irrefl _)).1) k) ?_
  refine ost (mkF m 5 #[.val (.int (0 : Int32)), .val (.int (4 : Int32)), .val .null] [(.int (0 : Int32))]) X0 (fun t k => XS.iloadN X0.here hx rfl (hb hby d17_4) rfl k) ?_
  refine ost (mkF m 6 #[.val (.int (0 : Int32)), .val (.int (4 : Int32)), .val .null] [(.int (4 : Int32)), (.int (0 : Int32))]) X0 (fun t k => XS.iloadN X0.here hx rfl (hb hby d17_5) rfl k) ?_
  refine ost (mkF m 16 #[.val (.int (0 : Int32)), .val (.int (4 : Int32)), .val .null] []) X0 (fun t k => XS.icmpYes X0.here hx rfl (pc0 := 6) (pc' := 16) rfl (hb hby d17_6) rfl (tlt (show (0 : Int32) < (4 : Int32) by first | rfl | decide)).1 (by decide) (by decide) k) ?_
  refine ost (mkF m 17 #[.val (.int (0 : Int32)), .val (.int (4 : Int32)), .val .null] [(.int (0 : Int32))]) X0 (fun t k => XS.iloadN X0.here hx rfl (hb hby d17_16) rfl k) ?_
  refine OwnFin.retInt X0 (hb hby d17_17) (by decide) (by decide) ?_
  rw [e0]
  exact ⟨rfl, N0, rfl⟩)
def Q16s25 (Z : State) (h0 : Heap) (n0 : Nat) : Option Value → Heap → List Loc → Prop := fun v h L => v = some (.int (0 : Int32)) ∧ Fr n0 L ∧ h = h0
set_option maxRecDepth 65536 in
set_option maxHeartbeats 40000000 in
theorem rm16s25 (l : Launch) (Z : State) (a0 : Array Value) (hw : ∀ d ∈ tables_1, d.before a0 Z = true) (ws : List Jvm.Cond) (h0 : Heap) (n0 : Nat) (Z0 : n0 ≤ h0.size) :
    MetFree l Y14 (head1 (Jvm.Cond.code Y14 jdk_31_method_17_code 2 (some .int) :: ws) ({ frames := 1, cells := 0, slots := 0, locals := 14 } : Room)) (fun a U => a = #[(.int (0 : Int32)), (.int (4 : Int32))] ∧ Z.Warmed39 U.vm ∧ U.heap = h0) (fun _ _ _ _ _ => True) (fun _ U o U' => ∃ v L, o = .returned v ∧ (Q16s25 Z h0 n0) v U'.heap L ∧ FrameEnd U o U' L ({ frames := 1, cells := 0, slots := 0, locals := 14 } : Room).cells ({ frames := 1, cells := 0, slots := 0, locals := 14 } : Room).slots) :=
  own_met (ret := (some .int)) (Q := (Q16s25 Z h0 n0)) (plainFor_of_name pn_16) (fun m => ef_16 m (0 : Int32) (4 : Int32)) (fun p e s m below meth c T0 X0 hx hby hml hown hnm hZ e0 => by
  have N0 := Fr.nil n0
  refine ost (mkF m 1 #[.val (.int (0 : Int32)), .val (.int (4 : Int32))] [(.int (0 : Int32))]) X0 (fun t k => XS.iloadN X0.here hx rfl (hb hby d16_0) rfl k) ?_
  refine ost (mkF m 2 #[.val (.int (0 : Int32)), .val (.int (4 : Int32))] [(.int (4 : Int32)), (.int (0 : Int32))]) X0 (fun t k => XS.iloadN X0.here hx rfl (hb hby d16_1) rfl k) ?_
  refine ost (mkF m 3 #[.val (.int (0 : Int32)), .val (.int (4 : Int32))] [.null, (.int (4 : Int32)), (.int (0 : Int32))]) X0 (fun t k => XS.aconstNull X0.here hx rfl (hb hby d16_2) k) ?_
  obtain ⟨_, T25687, L25687, X25687, ⟨rfl, N25687q, u26698⟩, st25687⟩ := own_callS X0 hx hZ (y := Y13) (W := 0) (argsL := [(.int (0 : Int32)), (.int (4 : Int32)), .null]) (rest := []) hown (hw _ (wm 121 rfl)) (hw _ (wm 122 rfl)) (hw _ (wm 123 rfl)) (hw _ (wm 124 rfl)) (by decide) (rm17s26 l Z a0 hw []  h0 n0 Z0 ) (by decide) (by decide) (by decide) (by decide) e0 (g := (mkF m 3 #[.val (.int (0 : Int32)), .val (.int (4 : Int32))] [.null, (.int (4 : Int32)), (.int (0 : Int32))])) rfl (by rw [hml]; rfl) pd_9 rfl rfl (by show 2 * 0 + _ ≤ _; exact Nat.le_of_eq rfl) (hb hby d16_3)
  have N25687 := Fr.app N0 N25687q
  refine ost (mkF m 6 #[.val (.int (0 : Int32)), .val (.int (4 : Int32))] [(.int (0 : Int32))]) X25687 (fun t k => st25687 _ k) ?_
  refine OwnFin.retInt X25687 (hb hby d16_6) (by decide) (by decide) ?_
  rw [u26698]
  exact ⟨rfl, N25687, rfl⟩)
def Q15s24 (Z : State) (b5 : Addr) (b3062 : Addr) (b9140 : Addr) (b9240 : Addr) (b13361 : Addr) (b17483 : Addr) (h0 : Heap) (n0 : Nat) : Option Value → Heap → List Loc → Prop := fun v h L => v = some (.ref b3062) ∧ Fr n0 L ∧ h = h0
set_option maxRecDepth 65536 in
set_option maxHeartbeats 40000000 in
theorem rm15s24 (l : Launch) (Z : State) (a0 : Array Value) (hw : ∀ d ∈ tables_1, d.before a0 Z = true) (ws : List Jvm.Cond) (b5 : Addr) (b3062 : Addr) (b9140 : Addr) (b9240 : Addr) (b13361 : Addr) (b17483 : Addr) (h0 : Heap) (n0 : Nat) (Z0 : n0 ≤ h0.size) (E_b5 : Exa Z h0 b5 "java/util/ArrayList") (F_elementData_b5 : Fld Z h0 b5 "java/util/ArrayList" "elementData" "[Ljava/lang/Object;" (.ref b9140)) (F_size_b5 : Fld Z h0 b5 "java/util/ArrayList" "size" "I" (.int (4 : Int32))) (A_b9140 : AryR Z h0 b9140 "java/lang/Object" 10 (updN (updN (updN (updN (fun _ => Value.null) ((0 : Int32)).toNatClampNeg (Value.ref b3062)) ((1 : Int32)).toNatClampNeg (Value.ref b9240)) ((2 : Int32)).toNatClampNeg (Value.ref b13361)) ((3 : Int32)).toNatClampNeg (Value.ref b17483))) :
    MetFree l Y17 (head1 (Jvm.Cond.code Y17 jdk_38_method_20_code 2 (some (.object "java/lang/Object")) :: ws) ({ frames := 2, cells := 0, slots := 0, locals := 27 } : Room)) (fun a U => a = #[(.ref b5), (.int (0 : Int32))] ∧ Z.Warmed39 U.vm ∧ U.heap = h0) (fun _ _ _ _ _ => True) (fun _ U o U' => ∃ v L, o = .returned v ∧ (Q15s24 Z b5 b3062 b9140 b9240 b13361 b17483 h0 n0) v U'.heap L ∧ FrameEnd U o U' L ({ frames := 2, cells := 0, slots := 0, locals := 27 } : Room).cells ({ frames := 2, cells := 0, slots := 0, locals := 27 } : Room).slots) :=
  own_met (ret := (some (.object "java/lang/Object"))) (Q := (Q15s24 Z b5 b3062 b9140 b9240 b13361 b17483 h0 n0)) (plainFor_of_name pn_15) (fun m => ef_15 m b5 (0 : Int32)) (fun p e s m below meth c T0 X0 hx hby hml hown hnm hZ e0 => by
  have N0 := Fr.nil n0
  refine ost (mkF m 1 #[.val (.ref b5), .val (.int (0 : Int32))] [(.int (0 : Int32))]) X0 (fun t k => XS.iloadN X0.here hx rfl (hb hby d15_0) rfl k) ?_
  refine ost (mkF m 2 #[.val (.ref b5), .val (.int (0 : Int32))] [(.ref b5), (.int (0 : Int32))]) X0 (fun t k => XS.aloadN X0.here hx rfl (hb hby d15_1) rfl rfl k) ?_
  obtain ⟨T24685, X24685, e24685, st24685⟩ := getF X0 hx hZ hown (host := "") (Or.inl (hw _ (wm 64 rfl))) Via.refl e0 F_size_b5 (g := (mkF m 2 #[.val (.ref b5), .val (.int (0 : Int32))] [(.ref b5), (.int (0 : Int32))])) rfl rfl (hb hby d15_2)
  refine ost (mkF m 5 #[.val (.ref b5), .val (.int (0 : Int32))] [(.int (4 : Int32)), (.int (0 : Int32))]) X24685 (fun t k => st24685 _ k) ?_
  obtain ⟨_, T24686, L24686, X24686, ⟨rfl, N24686q, u26709⟩, st24686⟩ := own_callS X24685 hx hZ (y := Y14) (W := 0) (argsL := [(.int (0 : Int32)), (.int (4 : Int32))]) (rest := []) hown (hw _ (wm 117 rfl)) (hw _ (wm 118 rfl)) (hw _ (wm 119 rfl)) (hw _ (wm 120 rfl)) (by decide) (rm16s25 l Z a0 hw []  h0 n0 Z0 ) (by decide) (by decide) (by decide) (by decide) e24685 (g := (mkF m 5 #[.val (.ref b5), .val (.int (0 : Int32))] [(.int (4 : Int32)), (.int (0 : Int32))])) rfl (by rw [hml]; rfl) pd_0 rfl rfl (by show 2 * 0 + _ ≤ _; exact Nat.le_of_eq rfl) (hb hby d15_5)
  have N24686 := Fr.app N0 N24686q
  refine ost (mkF m 8 #[.val (.ref b5), .val (.int (0 : Int32))] [(.int (0 : Int32))]) X24686 (fun t k => st24686 _ k) ?_
  refine ost (mkF m 9 #[.val (.ref b5), .val (.int (0 : Int32))] []) X24686 (fun t k => XT.pop X24686.here hx rfl (hb hby d15_8) rfl rfl k) ?_
  refine ost (mkF m 10 #[.val (.ref b5), .val (.int (0 : Int32))] [(.ref b5)]) X24686 (fun t k => XS.aloadN X24686.here hx rfl (hb hby d15_9) rfl rfl k) ?_
  refine ost (mkF m 11 #[.val (.ref b5), .val (.int (0 : Int32))] [(.int (0 : Int32)), (.ref b5)]) X24686 (fun t k => XS.iloadN X24686.here hx rfl (hb hby d15_10) rfl k) ?_
  obtain ⟨_, T26710, L26710, X26710, ⟨rfl, N26710q, u27722⟩, st26710⟩ := own_callV X24686 hx hZ (y := Y15) (W := 0) (a := b5) (argsL := [(.int (0 : Int32))]) (rest := []) hown (hw _ (wm 125 rfl)) (hw _ (wm 126 rfl)) (hw _ (wm 128 rfl)) (hw _ (wm 127 rfl)) (hw _ (wm 11 rfl)) (hw _ (wm 129 rfl)) (by decide) E_b5 (rm18s27 l Z a0 hw [] b5 b3062 b9140 b9240 b13361 b17483 h0 n0 Z0 F_elementData_b5 A_b9140) (by decide) (by decide) (by decide) (by decide) u26709 (g := (mkF m 11 #[.val (.ref b5), .val (.int (0 : Int32))] [(.int (0 : Int32)), (.ref b5)])) rfl (by rw [hml]; rfl) pd_10 rfl rfl (by show 2 * 0 + _ ≤ _; exact Nat.le_of_eq rfl) (hb hby d15_11)
  have N26710 := Fr.app N24686 N26710q
  refine ost (mkF m 14 #[.val (.ref b5), .val (.int (0 : Int32))] [(.ref b3062)]) X26710 (fun t k => st26710 _ k) ?_
  refine OwnFin.retRef X26710 rfl rfl rfl (hb hby d15_14) (by decide) (by decide) ?_
  rw [u27722]
  exact ⟨rfl, N26710, rfl⟩)
def Q14s23 (Z : State) (b5 : Addr) (h0 : Heap) (n0 : Nat) : Option Value → Heap → List Loc → Prop := fun v h L => v = some (.int (4 : Int32)) ∧ Fr n0 L ∧ h = h0
set_option maxRecDepth 65536 in
set_option maxHeartbeats 40000000 in
theorem rm14s23 (l : Launch) (Z : State) (a0 : Array Value) (hw : ∀ d ∈ tables_1, d.before a0 Z = true) (ws : List Jvm.Cond) (b5 : Addr) (h0 : Heap) (n0 : Nat) (Z0 : n0 ≤ h0.size) (F_size_b5 : Fld Z h0 b5 "java/util/ArrayList" "size" "I" (.int (4 : Int32))) :
    MetFree l Y12 (head1 (Jvm.Cond.code Y12 jdk_38_method_8_code 1 (some .int) :: ws) ({ frames := 0, cells := 0, slots := 0, locals := 0 } : Room)) (fun a U => a = #[(.ref b5)] ∧ Z.Warmed39 U.vm ∧ U.heap = h0) (fun _ _ _ _ _ => True) (fun _ U o U' => ∃ v L, o = .returned v ∧ (Q14s23 Z b5 h0 n0) v U'.heap L ∧ FrameEnd U o U' L ({ frames := 0, cells := 0, slots := 0, locals := 0 } : Room).cells ({ frames := 0, cells := 0, slots := 0, locals := 0 } : Room).slots) :=
  own_met (ret := (some .int)) (Q := (Q14s23 Z b5 h0 n0)) (plainFor_of_name pn_14) (fun m => ef_14 m b5) (fun p e s m below meth c T0 X0 hx hby hml hown hnm hZ e0 => by
  have N0 := Fr.nil n0
  refine ost (mkF m 1 #[.val (.ref b5)] [(.ref b5)]) X0 (fun t k => XS.aloadN X0.here hx rfl (hb hby d14_0) rfl rfl k) ?_
  obtain ⟨T23614, X23614, e23614, st23614⟩ := getF X0 hx hZ hown (host := "") (Or.inl (hw _ (wm 64 rfl))) Via.refl e0 F_size_b5 (g := (mkF m 1 #[.val (.ref b5)] [(.ref b5)])) rfl rfl (hb hby d14_1)
  refine ost (mkF m 4 #[.val (.ref b5)] [(.int (4 : Int32))]) X23614 (fun t k => st23614 _ k) ?_
  refine OwnFin.retInt X23614 (hb hby d14_4) (by decide) (by decide) ?_
  rw [e23614]
  exact ⟨rfl, N0, rfl⟩)
def Q13s22 (Z : State) (q0 : Int64) (q1 : Int64) (b5 : Addr) (b3062 : Addr) (b9140 : Addr) (b9240 : Addr) (b13361 : Addr) (b17483 : Addr) (b21606 : Addr) (h0 : Heap) (n0 : Nat) : Option Value → Heap → List Loc → Prop := fun v h L => ∃ b23626 b23641 b23662 : Addr, v = none ∧ Fr n0 L ∧ Keep h0 h [b21606] ∧ Exa Z h b21606 "com/example/ken2/ken2/StateLayout" ∧ Fld Z h b21606 "com/example/ken2/ken2/StateLayout" "m_word" "[I" (.ref b23626) ∧ Fld Z h b21606 "com/example/ken2/ken2/StateLayout" "m_shift" "[I" (.ref b23641) ∧ Fld Z h b21606 "com/example/ken2/ken2/StateLayout" "m_mask" "[J" (.ref b23662) ∧ Fld Z h b21606 "com/example/ken2/ken2/StateLayout" "m_width" "I" (.int ((vs2213_100bbbbb q0 q1) + (1 : Int32))) ∧ Ary Z h b23626 .int 4 (fun i => .int ((Gs2213_107bbb q0 q1) i)) ∧ n0 ≤ b23626 ∧ h0.size ≤ b23626 ∧ Ary Z h b23641 .int 4 (fun i => .int ((Gs2213_115bbb q0 q1) i)) ∧ n0 ≤ b23641 ∧ h0.size ≤ b23641 ∧ Ary Z h b23662 .long 4 (fun i => .long ((Gs2213_128bbb q0 q1) i)) ∧ n0 ≤ b23662 ∧ h0.size ≤ b23662 ∧ b23626 ≠ b23641 ∧ b23626 ≠ b23662 ∧ b23641 ≠ b23662
abbrev Las2213_0 (b21606 : Addr) (b5 : Addr) : Array Slot := #[.val (.ref b21606), .val (.ref b5), .unset, .unset, .unset, .unset, .unset]
abbrev Las2213_1 (b21606 : Addr) (b5 : Addr) : Array Slot := #[.val (.ref b21606), .val (.ref b5), .val (.int (0 : Int32)), .unset, .unset, .unset, .unset]
abbrev Las2213_2 (b21606 : Addr) (b5 : Addr) : Array Slot := #[.val (.ref b21606), .val (.ref b5), .val (.int (0 : Int32)), .val (.int (0 : Int32)), .unset, .unset, .unset]
abbrev Las2213_3 (b21606 : Addr) (b5 : Addr) : Array Slot := #[.val (.ref b21606), .val (.ref b5), .val (.int (0 : Int32)), .val (.int (0 : Int32)), .val (.int (0 : Int32)), .unset, .unset]
abbrev Las2213_4 (b21606 : Addr) (b5 : Addr) (q0 : Int64) : Array Slot := #[.val (.ref b21606), .val (.ref b5), .val (.int (0 : Int32)), .val (.int (0 : Int32)), .val (.int (0 : Int32)), .val (.int (v0_8 q0)), .unset]
abbrev Las2213_5 (b21606 : Addr) (b5 : Addr) (q0 : Int64) : Array Slot := #[.val (.ref b21606), .val (.ref b5), .val (.int (0 : Int32)), .val (.int (0 : Int32)), .val (.int (0 : Int32)), .val (.int (v0_8 q0)), .val (.int (vs2213_84 q0))]
abbrev Las2213_6 (b21606 : Addr) (b5 : Addr) (q0 : Int64) : Array Slot := #[.val (.ref b21606), .val (.ref b5), .val (.int (1 : Int32)), .val (.int (0 : Int32)), .val (.int (0 : Int32)), .val (.int (v0_8 q0)), .val (.int (vs2213_84 q0))]
abbrev Las2213_7 (b21606 : Addr) (b5 : Addr) (q0 : Int64) : Array Slot := #[.val (.ref b21606), .val (.ref b5), .val (.int (vs2213_100 q0)), .val (.int (0 : Int32)), .val (.int (0 : Int32)), .val (.int (v0_8 q0)), .val (.int (vs2213_84 q0))]
abbrev Las2213_8 (b21606 : Addr) (b5 : Addr) (q0 : Int64) : Array Slot := #[.val (.ref b21606), .val (.ref b5), .val (.int (vs2213_100 q0)), .val (.int (vs2213_133 q0)), .val (.int (0 : Int32)), .val (.int (v0_8 q0)), .val (.int (vs2213_84 q0))]
abbrev Las2213_9 (b21606 : Addr) (b5 : Addr) (q0 : Int64) : Array Slot := #[.val (.ref b21606), .val (.ref b5), .val (.int (vs2213_100 q0)), .val (.int (vs2213_133 q0)), .val (.int (1 : Int32)), .val (.int (v0_8 q0)), .val (.int (vs2213_84 q0))]
abbrev Las2213_10 (b21606 : Addr) (b5 : Addr) (q0 : Int64) : Array Slot := #[.val (.ref b21606), .val (.ref b5), .val (.int (vs2213_100 q0)), .val (.int (vs2213_133 q0)), .val (.int (1 : Int32)), .val (.int (v0_15 q0)), .val (.int (vs2213_84 q0))]
abbrev Las2213_11 (b21606 : Addr) (b5 : Addr) (q0 : Int64) : Array Slot := #[.val (.ref b21606), .val (.ref b5), .val (.int (vs2213_100 q0)), .val (.int (vs2213_133 q0)), .val (.int (1 : Int32)), .val (.int (v0_15 q0)), .val (.int (vs2213_84b q0))]
abbrev Las2213_12 (b21606 : Addr) (b5 : Addr) (q0 : Int64) : Array Slot := #[.val (.ref b21606), .val (.ref b5), .val (.int ((vs2213_100 q0) + (1 : Int32))), .val (.int (vs2213_133 q0)), .val (.int (1 : Int32)), .val (.int (v0_15 q0)), .val (.int (vs2213_84b q0))]
abbrev Las2213_13 (b21606 : Addr) (b5 : Addr) (q0 : Int64) : Array Slot := #[.val (.ref b21606), .val (.ref b5), .val (.int ((vs2213_100 q0) + (1 : Int32))), .val (.int (0 : Int32)), .val (.int (1 : Int32)), .val (.int (v0_15 q0)), .val (.int (vs2213_84b q0))]
abbrev Las2213_14 (b21606 : Addr) (b5 : Addr) (q0 : Int64) : Array Slot := #[.val (.ref b21606), .val (.ref b5), .val (.int (vs2213_100b q0)), .val (.int (vs2213_100bb q0)), .val (.int (1 : Int32)), .val (.int (v0_15 q0)), .val (.int (vs2213_84b q0))]
abbrev Las2213_15 (b21606 : Addr) (b5 : Addr) (q0 : Int64) : Array Slot := #[.val (.ref b21606), .val (.ref b5), .val (.int (vs2213_100b q0)), .val (.int (vs2213_133b q0)), .val (.int (1 : Int32)), .val (.int (v0_15 q0)), .val (.int (vs2213_84b q0))]
abbrev Las2213_16 (b21606 : Addr) (b5 : Addr) (q0 : Int64) : Array Slot := #[.val (.ref b21606), .val (.ref b5), .val (.int (vs2213_100b q0)), .val (.int (vs2213_133b q0)), .val (.int (2 : Int32)), .val (.int (v0_15 q0)), .val (.int (vs2213_84b q0))]
abbrev Las2213_17 (b21606 : Addr) (b5 : Addr) (q0 : Int64) (q1 : Int64) : Array Slot := #[.val (.ref b21606), .val (.ref b5), .val (.int (vs2213_100b q0)), .val (.int (vs2213_133b q0)), .val (.int (2 : Int32)), .val (.int (v0_25 q1)), .val (.int (vs2213_84b q0))]
abbrev Las2213_18 (b21606 : Addr) (b5 : Addr) (q0 : Int64) (q1 : Int64) : Array Slot := #[.val (.ref b21606), .val (.ref b5), .val (.int (vs2213_100b q0)), .val (.int (vs2213_133b q0)), .val (.int (2 : Int32)), .val (.int (v0_25 q1)), .val (.int (vs2213_84bb q1))]
abbrev Las2213_19 (b21606 : Addr) (b5 : Addr) (q0 : Int64) (q1 : Int64) : Array Slot := #[.val (.ref b21606), .val (.ref b5), .val (.int ((vs2213_100b q0) + (1 : Int32))), .val (.int (vs2213_133b q0)), .val (.int (2 : Int32)), .val (.int (v0_25 q1)), .val (.int (vs2213_84bb q1))]
abbrev Las2213_20 (b21606 : Addr) (b5 : Addr) (q0 : Int64) (q1 : Int64) : Array Slot := #[.val (.ref b21606), .val (.ref b5), .val (.int ((vs2213_100b q0) + (1 : Int32))), .val (.int (0 : Int32)), .val (.int (2 : Int32)), .val (.int (v0_25 q1)), .val (.int (vs2213_84bb q1))]
abbrev Las2213_21 (b21606 : Addr) (b5 : Addr) (q0 : Int64) (q1 : Int64) : Array Slot := #[.val (.ref b21606), .val (.ref b5), .val (.int (vs2213_100bbb q0 q1)), .val (.int (vs2213_100bbbb q0 q1)), .val (.int (2 : Int32)), .val (.int (v0_25 q1)), .val (.int (vs2213_84bb q1))]
abbrev Las2213_22 (b21606 : Addr) (b5 : Addr) (q0 : Int64) (q1 : Int64) : Array Slot := #[.val (.ref b21606), .val (.ref b5), .val (.int (vs2213_100bbb q0 q1)), .val (.int (vs2213_133bb q0 q1)), .val (.int (2 : Int32)), .val (.int (v0_25 q1)), .val (.int (vs2213_84bb q1))]
abbrev Las2213_23 (b21606 : Addr) (b5 : Addr) (q0 : Int64) (q1 : Int64) : Array Slot := #[.val (.ref b21606), .val (.ref b5), .val (.int (vs2213_100bbb q0 q1)), .val (.int (vs2213_133bb q0 q1)), .val (.int (3 : Int32)), .val (.int (v0_25 q1)), .val (.int (vs2213_84bb q1))]
abbrev Las2213_24 (b21606 : Addr) (b5 : Addr) (q0 : Int64) (q1 : Int64) : Array Slot := #[.val (.ref b21606), .val (.ref b5), .val (.int (vs2213_100bbb q0 q1)), .val (.int (vs2213_133bb q0 q1)), .val (.int (3 : Int32)), .val (.int (v0_32 q1)), .val (.int (vs2213_84bb q1))]
abbrev Las2213_25 (b21606 : Addr) (b5 : Addr) (q0 : Int64) (q1 : Int64) : Array Slot := #[.val (.ref b21606), .val (.ref b5), .val (.int (vs2213_100bbb q0 q1)), .val (.int (vs2213_133bb q0 q1)), .val (.int (3 : Int32)), .val (.int (v0_32 q1)), .val (.int (vs2213_84bbb q1))]
abbrev Las2213_26 (b21606 : Addr) (b5 : Addr) (q0 : Int64) (q1 : Int64) : Array Slot := #[.val (.ref b21606), .val (.ref b5), .val (.int ((vs2213_100bbb q0 q1) + (1 : Int32))), .val (.int (vs2213_133bb q0 q1)), .val (.int (3 : Int32)), .val (.int (v0_32 q1)), .val (.int (vs2213_84bbb q1))]
abbrev Las2213_27 (b21606 : Addr) (b5 : Addr) (q0 : Int64) (q1 : Int64) : Array Slot := #[.val (.ref b21606), .val (.ref b5), .val (.int ((vs2213_100bbb q0 q1) + (1 : Int32))), .val (.int (0 : Int32)), .val (.int (3 : Int32)), .val (.int (v0_32 q1)), .val (.int (vs2213_84bbb q1))]
abbrev Las2213_28 (b21606 : Addr) (b5 : Addr) (q0 : Int64) (q1 : Int64) : Array Slot := #[.val (.ref b21606), .val (.ref b5), .val (.int (vs2213_100bbbbb q0 q1)), .val (.int (vs2213_100bbbbbb q0 q1)), .val (.int (3 : Int32)), .val (.int (v0_32 q1)), .val (.int (vs2213_84bbb q1))]
abbrev Las2213_29 (b21606 : Addr) (b5 : Addr) (q0 : Int64) (q1 : Int64) : Array Slot := #[.val (.ref b21606), .val (.ref b5), .val (.int (vs2213_100bbbbb q0 q1)), .val (.int (vs2213_133bbb q0 q1)), .val (.int (3 : Int32)), .val (.int (v0_32 q1)), .val (.int (vs2213_84bbb q1))]
abbrev Las2213_30 (b21606 : Addr) (b5 : Addr) (q0 : Int64) (q1 : Int64) : Array Slot := #[.val (.ref b21606), .val (.ref b5), .val (.int (vs2213_100bbbbb q0 q1)), .val (.int (vs2213_133bbb q0 q1)), .val (.int (4 : Int32)), .val (.int (v0_32 q1)), .val (.int (vs2213_84bbb q1))]
set_option maxRecDepth 65536 in
set_option maxHeartbeats 40000000 in
theorem rm13s22 (l : Launch) (Z : State) (a0 : Array Value) (hw : ∀ d ∈ tables_1, d.before a0 Z = true) (ws : List Jvm.Cond) (q0 : Int64) (q1 : Int64) (b5 : Addr) (b3062 : Addr) (b9140 : Addr) (b9240 : Addr) (b13361 : Addr) (b17483 : Addr) (b21606 : Addr) (h0 : Heap) (n0 : Nat) (Z0 : n0 ≤ h0.size) (E_b5 : Exa Z h0 b5 "java/util/ArrayList") (F_elementData_b5 : Fld Z h0 b5 "java/util/ArrayList" "elementData" "[Ljava/lang/Object;" (.ref b9140)) (F_size_b5 : Fld Z h0 b5 "java/util/ArrayList" "size" "I" (.int (4 : Int32))) (E_b3062 : Exa Z h0 b3062 "com/example/ken2/ken2/InterpretedSystem$Variable") (F_size_b3062 : Fld Z h0 b3062 "com/example/ken2/ken2/InterpretedSystem$Variable" "size" "I" (.int (v0_8 q0))) (A_b9140 : AryR Z h0 b9140 "java/lang/Object" 10 (updN (updN (updN (updN (fun _ => Value.null) ((0 : Int32)).toNatClampNeg (Value.ref b3062)) ((1 : Int32)).toNatClampNeg (Value.ref b9240)) ((2 : Int32)).toNatClampNeg (Value.ref b13361)) ((3 : Int32)).toNatClampNeg (Value.ref b17483))) (E_b9240 : Exa Z h0 b9240 "com/example/ken2/ken2/InterpretedSystem$Variable") (F_size_b9240 : Fld Z h0 b9240 "com/example/ken2/ken2/InterpretedSystem$Variable" "size" "I" (.int (v0_15 q0))) (E_b13361 : Exa Z h0 b13361 "com/example/ken2/ken2/InterpretedSystem$Variable") (F_size_b13361 : Fld Z h0 b13361 "com/example/ken2/ken2/InterpretedSystem$Variable" "size" "I" (.int (v0_25 q1))) (E_b17483 : Exa Z h0 b17483 "com/example/ken2/ken2/InterpretedSystem$Variable") (F_size_b17483 : Fld Z h0 b17483 "com/example/ken2/ken2/InterpretedSystem$Variable" "size" "I" (.int (v0_32 q1))) (E_b21606 : Exa Z h0 b21606 "com/example/ken2/ken2/StateLayout") (F_m_word_b21606 : Fld Z h0 b21606 "com/example/ken2/ken2/StateLayout" "m_word" "[I" .null) (F_m_shift_b21606 : Fld Z h0 b21606 "com/example/ken2/ken2/StateLayout" "m_shift" "[I" .null) (F_m_mask_b21606 : Fld Z h0 b21606 "com/example/ken2/ken2/StateLayout" "m_mask" "[J" .null) (F_m_width_b21606 : Fld Z h0 b21606 "com/example/ken2/ken2/StateLayout" "m_width" "I" (.int (0 : Int32))) (g_b21606 : n0 ≤ b21606) (ne_b5_b21606 : b5 ≠ b21606) (ne_b3062_b21606 : b3062 ≠ b21606) (ne_b9140_b21606 : b9140 ≠ b21606) (ne_b9240_b21606 : b9240 ≠ b21606) (ne_b13361_b21606 : b13361 ≠ b21606) (ne_b17483_b21606 : b17483 ≠ b21606) :
    MetFree l Y20 (head1 (Jvm.Cond.code Y20 prog_112_method_1_code 7 none :: ws) ({ frames := 3, cells := 3, slots := 12, locals := 40 } : Room)) (fun a U => a = #[(.ref b21606), (.ref b5)] ∧ Z.Warmed39 U.vm ∧ U.heap = h0) (fun _ _ _ _ _ => True) (fun _ U o U' => ∃ v L, o = .returned v ∧ (Q13s22 Z q0 q1 b5 b3062 b9140 b9240 b13361 b17483 b21606 h0 n0) v U'.heap L ∧ FrameEnd U o U' L ({ frames := 3, cells := 3, slots := 12, locals := 40 } : Room).cells ({ frames := 3, cells := 3, slots := 12, locals := 40 } : Room).slots) :=
  own_met (ret := none) (Q := (Q13s22 Z q0 q1 b5 b3062 b9140 b9240 b13361 b17483 b21606 h0 n0)) (plainFor_of_name pn_13) (fun m => ef_13 m b21606 b5) (fun p e s m below meth c T0 X0 hx hby hml hown hnm hZ e0 => by
  have N0 := Fr.nil n0
  refine ost (mkF m 1 (Las2213_0 b21606 b5) [(.ref b21606)]) X0 (fun t k => XS.aloadN X0.here hx rfl (hb hby d13_0) rfl rfl k) ?_
  obtain ⟨T22612, X22612, e22612, st22612⟩ := initO X0 hx hZ hown (hw _ (wm 91 rfl)) (hw _ (wm 28 rfl)) (hw _ (wm 29 rfl)) e0 (g := (mkF m 1 (Las2213_0 b21606 b5) [(.ref b21606)])) rfl (by rw [hml]; rfl) rfl (hb hby d13_1) (by decide) (W := 0) (by show 2 * 0 + _ ≤ _; exact Nat.le_of_eq rfl) (by decide)
  refine ost (mkF m 4 (Las2213_0 b21606 b5) []) X22612 (fun t k => st22612 _ k) ?_
  refine ost (mkF m 5 (Las2213_0 b21606 b5) [(.ref b21606)]) X22612 (fun t k => XS.aloadN X22612.here hx rfl (hb hby d13_4) rfl rfl k) ?_
  refine ost (mkF m 6 (Las2213_0 b21606 b5) [(.ref b5), (.ref b21606)]) X22612 (fun t k => XS.aloadN X22612.here hx rfl (hb hby d13_5) rfl rfl k) ?_
  obtain ⟨_, T22613, L22613, X22613, ⟨rfl, N22613q, u23625⟩, st22613⟩ := own_callF X22612 hx hZ (xi := Y11) (y := Y12) (W := 1) (a := b5) (argsL := []) (rest := [(.ref b21606)]) hown (hw _ (wm 92 rfl)) (hw _ (wm 93 rfl)) (hw _ (wm 94 rfl)) (hw _ (wm 95 rfl)) (hw _ (wm 96 rfl)) (hw _ (wm 97 rfl)) (hw _ (wm 98 rfl)) (hw _ (wm 99 rfl)) (by first | rfl | simp [Cond.onTables, Cond.keepsFace, Cond.keeps, Cond.steady]) (hw _ (wm 11 rfl)) (hw _ (wm 100 rfl)) (by decide) E_b5 (rm14s23 l Z a0 hw [] b5 h0 n0 Z0 F_size_b5) (by decide) (by decide) (by decide) (by decide) e22612 (g := (mkF m 6 (Las2213_0 b21606 b5) [(.ref b5), (.ref b21606)])) rfl (by rw [hml]; rfl) pd_8 rfl rfl (by show 2 * 0 + _ ≤ _; exact Nat.le_of_eq rfl) (hb hby d13_6)
  have N22613 := Fr.app N0 N22613q
  refine ost (mkF m 11 (Las2213_0 b21606 b5) [(.int (4 : Int32)), (.ref b21606)]) X22613 (fun t k => st22613 _ k) ?_
  obtain ⟨T23626, h23626, b23626, X23626, e23626, y23626, K23626, A23626, st23626⟩ := own_new X22613 hx hZ (hw _ (wm 101 rfl)) u23625 (g := (mkF m 11 (Las2213_0 b21606 b5) [(.int (4 : Int32)), (.ref b21606)])) rfl (hb hby d13_11) rfl (by decide) (cap := 4) (by decide) (by decide) (by decide) (by decide)
  have B23626 : Ary Z h23626 b23626 .int 4 (fun i => .int ((fun _ => (0 : Int32)) i)) := A23626
  have ne_b5_b23626 : b5 ≠ b23626 := Exa.neS E_b5 y23626
  have ne_b3062_b23626 : b3062 ≠ b23626 := Exa.neS E_b3062 y23626
  have ne_b9140_b23626 : b9140 ≠ b23626 := AryR.neS A_b9140 y23626
  have ne_b9240_b23626 : b9240 ≠ b23626 := Exa.neS E_b9240 y23626
  have ne_b13361_b23626 : b13361 ≠ b23626 := Exa.neS E_b13361 y23626
  have ne_b17483_b23626 : b17483 ≠ b23626 := Exa.neS E_b17483 y23626
  have ne_b21606_b23626 : b21606 ≠ b23626 := Exa.neS E_b21606 y23626
  have g_b23626 : n0 ≤ b23626 := by rw [y23626]; exact Z0
  have sz_b23626 : h0.size ≤ b23626 := by rw [y23626]; exact Nat.le_refl h0.size
  have Z23626 := Nat.le_trans Z0 K23626.1
  have S23626 := Nat.le_trans (Nat.le_refl h0.size) K23626.1
  refine ost (mkF m 13 (Las2213_0 b21606 b5) [(.ref b23626), (.ref b21606)]) X23626 (fun t k => st23626 _ k) ?_
  have E23627 := (Exa.keep E_b21606 K23626)
  have F23628 := (F_m_word_b21606.keep K23626 nin0)
  have F23629 := (F_m_shift_b21606.keep K23626 nin0)
  have F23630 := (F_m_mask_b21606.keep K23626 nin0)
  have F23631 := (F_m_width_b21606.keep K23626 nin0)
  obtain ⟨T23632, h23632, L23632, X23632, e23632, N23632, W23632, F23632, st23632⟩ := own_putF X23626 hx hZ hown (hw _ (wm 102 rfl)) e23626 N22613 F23628 E23627 g_b21606 (Or.inr ⟨(hw _ (wm 103 rfl)), rfl, hnm⟩) (hw _ (wm 86 rfl)) (fty := (.array .int)) (by decide) rfl rfl (g := (mkF m 13 (Las2213_0 b21606 b5) [(.ref b23626), (.ref b21606)])) rfl rfl (hb hby d13_13)
  have K23632 := Keep.of_wr W23632
  have Z23632 := Nat.le_trans Z23626 K23632.1
  have S23632 := Nat.le_trans S23626 K23632.1
  have F23633 := Fld.other W23632 F23629 (Or.inr (slot_ne (Or.inr (hw _ (wm 105 rfl))) (Or.inr (hw _ (wm 103 rfl))) (by decide) (t := (.array .int)) (t' := (.array .int)) (by decide) (by decide)))
  have F23634 := Fld.other W23632 F23630 (Or.inr (slot_ne (Or.inr (hw _ (wm 108 rfl))) (Or.inr (hw _ (wm 103 rfl))) (by decide) (t := (.array .long)) (t' := (.array .int)) (by decide) (by decide)))
  have F23635 := Fld.other W23632 F23631 (Or.inr (slot_ne (Or.inr (hw _ (wm 143 rfl))) (Or.inr (hw _ (wm 103 rfl))) (by decide) (t := .int) (t' := (.array .int)) (by decide) (by decide)))
  have E23636 := Exa.wr W23632 E23627
  refine ost (mkF m 16 (Las2213_0 b21606 b5) []) X23632 (fun t k => st23632 _ k) ?_
  refine ost (mkF m 17 (Las2213_0 b21606 b5) [(.ref b21606)]) X23632 (fun t k => XS.aloadN X23632.here hx rfl (hb hby d13_16) rfl rfl k) ?_
  refine ost (mkF m 18 (Las2213_0 b21606 b5) [(.ref b5), (.ref b21606)]) X23632 (fun t k => XS.aloadN X23632.here hx rfl (hb hby d13_17) rfl rfl k) ?_
  have F23638 := ((F_size_b5.keep K23626 nin0).keep K23632 (ninS ne_b5_b21606 nin0))
  have E23640 := (Exa.keep (Exa.keep E_b5 K23626) K23632)
  obtain ⟨_, T23637, L23637, X23637, ⟨rfl, N23637q, u23639⟩, st23637⟩ := own_callF X23632 hx hZ (xi := Y11) (y := Y12) (W := 1) (a := b5) (argsL := []) (rest := [(.ref b21606)]) hown (hw _ (wm 92 rfl)) (hw _ (wm 93 rfl)) (hw _ (wm 94 rfl)) (hw _ (wm 95 rfl)) (hw _ (wm 96 rfl)) (hw _ (wm 97 rfl)) (hw _ (wm 98 rfl)) (hw _ (wm 99 rfl)) (by first | rfl | simp [Cond.onTables, Cond.keepsFace, Cond.keeps, Cond.steady]) (hw _ (wm 11 rfl)) (hw _ (wm 100 rfl)) (by decide) E23640 (rm14s23 l Z a0 hw [] b5 h23632 n0 Z23632 F23638) (by decide) (by decide) (by decide) (by decide) e23632 (g := (mkF m 18 (Las2213_0 b21606 b5) [(.ref b5), (.ref b21606)])) rfl (by rw [hml]; rfl) pd_8 rfl rfl (by show 2 * 0 + _ ≤ _; exact Nat.le_of_eq rfl) (hb hby d13_18)
  have N23637 := Fr.app N23632 N23637q
  refine ost (mkF m 23 (Las2213_0 b21606 b5) [(.int (4 : Int32)), (.ref b21606)]) X23637 (fun t k => st23637 _ k) ?_
  obtain ⟨T23641, h23641, b23641, X23641, e23641, y23641, K23641, A23641, st23641⟩ := own_new X23637 hx hZ (hw _ (wm 101 rfl)) u23639 (g := (mkF m 23 (Las2213_0 b21606 b5) [(.int (4 : Int32)), (.ref b21606)])) rfl (hb hby d13_23) rfl (by decide) (cap := 4) (by decide) (by decide) (by decide) (by decide)
  have B23641 : Ary Z h23641 b23641 .int 4 (fun i => .int ((fun _ => (0 : Int32)) i)) := A23641
  have ne_b5_b23641 : b5 ≠ b23641 := Exa.neS E23640 y23641
  have E23642 := (Exa.keep (Exa.keep E_b3062 K23626) K23632)
  have ne_b3062_b23641 : b3062 ≠ b23641 := Exa.neS E23642 y23641
  have A23643 := ((A_b9140.keep K23626 nin0).keep K23632 (ninS ne_b9140_b21606 nin0))
  have ne_b9140_b23641 : b9140 ≠ b23641 := AryR.neS A23643 y23641
  have E23644 := (Exa.keep (Exa.keep E_b9240 K23626) K23632)
  have ne_b9240_b23641 : b9240 ≠ b23641 := Exa.neS E23644 y23641
  have E23645 := (Exa.keep (Exa.keep E_b13361 K23626) K23632)
  have ne_b13361_b23641 : b13361 ≠ b23641 := Exa.neS E23645 y23641
  have E23646 := (Exa.keep (Exa.keep E_b17483 K23626) K23632)
  have ne_b17483_b23641 : b17483 ≠ b23641 := Exa.neS E23646 y23641
  have ne_b21606_b23641 : b21606 ≠ b23641 := Exa.neS E23636 y23641
  have A23647 := (B23626.keep K23632 (ninS (Ne.symm ne_b21606_b23626) nin0))
  have ne_b23626_b23641 : b23626 ≠ b23641 := Ary.neS A23647 y23641
  have g_b23641 : n0 ≤ b23641 := by rw [y23641]; exact Z23632
  have sz_b23641 : h0.size ≤ b23641 := by rw [y23641]; exact S23632
  have Z23641 := Nat.le_trans Z23632 K23641.1
  have S23641 := Nat.le_trans S23632 K23641.1
  refine ost (mkF m 25 (Las2213_0 b21606 b5) [(.ref b23641), (.ref b21606)]) X23641 (fun t k => st23641 _ k) ?_
  have E23648 := (Exa.keep E23636 K23641)
  have F23649 := (F23632.keep K23641 nin0)
  have F23650 := (F23633.keep K23641 nin0)
  have F23651 := (F23634.keep K23641 nin0)
  have F23652 := (F23635.keep K23641 nin0)
  obtain ⟨T23653, h23653, L23653, X23653, e23653, N23653, W23653, F23653, st23653⟩ := own_putF X23641 hx hZ hown (hw _ (wm 104 rfl)) e23641 N23637 F23650 E23648 g_b21606 (Or.inr ⟨(hw _ (wm 105 rfl)), rfl, hnm⟩) (hw _ (wm 86 rfl)) (fty := (.array .int)) (by decide) rfl rfl (g := (mkF m 25 (Las2213_0 b21606 b5) [(.ref b23641), (.ref b21606)])) rfl rfl (hb hby d13_25)
  have K23653 := Keep.of_wr W23653
  have Z23653 := Nat.le_trans Z23641 K23653.1
  have S23653 := Nat.le_trans S23641 K23653.1
  have F23654 := Fld.other W23653 F23649 (Or.inr (slot_ne (Or.inr (hw _ (wm 103 rfl))) (Or.inr (hw _ (wm 105 rfl))) (by decide) (t := (.array .int)) (t' := (.array .int)) (by decide) (by decide)))
  have F23655 := Fld.other W23653 F23651 (Or.inr (slot_ne (Or.inr (hw _ (wm 108 rfl))) (Or.inr (hw _ (wm 105 rfl))) (by decide) (t := (.array .long)) (t' := (.array .int)) (by decide) (by decide)))
  have F23656 := Fld.other W23653 F23652 (Or.inr (slot_ne (Or.inr (hw _ (wm 143 rfl))) (Or.inr (hw _ (wm 105 rfl))) (by decide) (t := .int) (t' := (.array .int)) (by decide) (by decide)))
  have E23657 := Exa.wr W23653 E23648
  refine ost (mkF m 28 (Las2213_0 b21606 b5) []) X23653 (fun t k => st23653 _ k) ?_
  refine ost (mkF m 29 (Las2213_0 b21606 b5) [(.ref b21606)]) X23653 (fun t k => XS.aloadN X23653.here hx rfl (hb hby d13_28) rfl rfl k) ?_
  refine ost (mkF m 30 (Las2213_0 b21606 b5) [(.ref b5), (.ref b21606)]) X23653 (fun t k => XS.aloadN X23653.here hx rfl (hb hby d13_29) rfl rfl k) ?_
  have F23659 := ((F23638.keep K23641 nin0).keep K23653 (ninS ne_b5_b21606 nin0))
  have E23661 := (Exa.keep (Exa.keep E23640 K23641) K23653)
  obtain ⟨_, T23658, L23658, X23658, ⟨rfl, N23658q, u23660⟩, st23658⟩ := own_callF X23653 hx hZ (xi := Y11) (y := Y12) (W := 1) (a := b5) (argsL := []) (rest := [(.ref b21606)]) hown (hw _ (wm 92 rfl)) (hw _ (wm 93 rfl)) (hw _ (wm 94 rfl)) (hw _ (wm 95 rfl)) (hw _ (wm 96 rfl)) (hw _ (wm 97 rfl)) (hw _ (wm 98 rfl)) (hw _ (wm 99 rfl)) (by first | rfl | simp [Cond.onTables, Cond.keepsFace, Cond.keeps, Cond.steady]) (hw _ (wm 11 rfl)) (hw _ (wm 100 rfl)) (by decide) E23661 (rm14s23 l Z a0 hw [] b5 h23653 n0 Z23653 F23659) (by decide) (by decide) (by decide) (by decide) e23653 (g := (mkF m 30 (Las2213_0 b21606 b5) [(.ref b5), (.ref b21606)])) rfl (by rw [hml]; rfl) pd_8 rfl rfl (by show 2 * 0 + _ ≤ _; exact Nat.le_of_eq rfl) (hb hby d13_30)
  have N23658 := Fr.app N23653 N23658q
  refine ost (mkF m 35 (Las2213_0 b21606 b5) [(.int (4 : Int32)), (.ref b21606)]) X23658 (fun t k => st23658 _ k) ?_
  obtain ⟨T23662, h23662, b23662, X23662, e23662, y23662, K23662, A23662, st23662⟩ := own_new X23658 hx hZ (hw _ (wm 106 rfl)) u23660 (g := (mkF m 35 (Las2213_0 b21606 b5) [(.int (4 : Int32)), (.ref b21606)])) rfl (hb hby d13_35) rfl (by decide) (cap := 4) (by decide) (by decide) (by decide) (by decide)
  have B23662 : Ary Z h23662 b23662 .long 4 (fun i => .long ((fun _ => (0 : Int64)) i)) := A23662
  have ne_b5_b23662 : b5 ≠ b23662 := Exa.neS E23661 y23662
  have E23663 := (Exa.keep (Exa.keep E23642 K23641) K23653)
  have ne_b3062_b23662 : b3062 ≠ b23662 := Exa.neS E23663 y23662
  have A23664 := ((A23643.keep K23641 nin0).keep K23653 (ninS ne_b9140_b21606 nin0))
  have ne_b9140_b23662 : b9140 ≠ b23662 := AryR.neS A23664 y23662
  have E23665 := (Exa.keep (Exa.keep E23644 K23641) K23653)
  have ne_b9240_b23662 : b9240 ≠ b23662 := Exa.neS E23665 y23662
  have E23666 := (Exa.keep (Exa.keep E23645 K23641) K23653)
  have ne_b13361_b23662 : b13361 ≠ b23662 := Exa.neS E23666 y23662
  have E23667 := (Exa.keep (Exa.keep E23646 K23641) K23653)
  have ne_b17483_b23662 : b17483 ≠ b23662 := Exa.neS E23667 y23662
  have ne_b21606_b23662 : b21606 ≠ b23662 := Exa.neS E23657 y23662
  have A23668 := ((A23647.keep K23641 nin0).keep K23653 (ninS (Ne.symm ne_b21606_b23626) nin0))
  have ne_b23626_b23662 : b23626 ≠ b23662 := Ary.neS A23668 y23662
  have A23669 := (B23641.keep K23653 (ninS (Ne.symm ne_b21606_b23641) nin0))
  have ne_b23641_b23662 : b23641 ≠ b23662 := Ary.neS A23669 y23662
  have g_b23662 : n0 ≤ b23662 := by rw [y23662]; exact Z23653
  have sz_b23662 : h0.size ≤ b23662 := by rw [y23662]; exact S23653
  have Z23662 := Nat.le_trans Z23653 K23662.1
  have S23662 := Nat.le_trans S23653 K23662.1
  refine ost (mkF m 37 (Las2213_0 b21606 b5) [(.ref b23662), (.ref b21606)]) X23662 (fun t k => st23662 _ k) ?_
  have E23670 := (Exa.keep E23657 K23662)
  have F23671 := (F23654.keep K23662 nin0)
  have F23672 := (F23653.keep K23662 nin0)
  have F23673 := (F23655.keep K23662 nin0)
  have F23674 := (F23656.keep K23662 nin0)
  obtain ⟨T23675, h23675, L23675, X23675, e23675, N23675, W23675, F23675, st23675⟩ := own_putF X23662 hx hZ hown (hw _ (wm 107 rfl)) e23662 N23658 F23673 E23670 g_b21606 (Or.inr ⟨(hw _ (wm 108 rfl)), rfl, hnm⟩) (hw _ (wm 86 rfl)) (fty := (.array .long)) (by decide) rfl rfl (g := (mkF m 37 (Las2213_0 b21606 b5) [(.ref b23662), (.ref b21606)])) rfl rfl (hb hby d13_37)
  have K23675 := Keep.of_wr W23675
  have Z23675 := Nat.le_trans Z23662 K23675.1
  have S23675 := Nat.le_trans S23662 K23675.1
  have F23676 := Fld.other W23675 F23671 (Or.inr (slot_ne (Or.inr (hw _ (wm 103 rfl))) (Or.inr (hw _ (wm 108 rfl))) (by decide) (t := (.array .int)) (t' := (.array .long)) (by decide) (by decide)))
  have F23677 := Fld.other W23675 F23672 (Or.inr (slot_ne (Or.inr (hw _ (wm 105 rfl))) (Or.inr (hw _ (wm 108 rfl))) (by decide) (t := (.array .int)) (t' := (.array .long)) (by decide) (by decide)))
  have F23678 := Fld.other W23675 F23674 (Or.inr (slot_ne (Or.inr (hw _ (wm 143 rfl))) (Or.inr (hw _ (wm 108 rfl))) (by decide) (t := .int) (t' := (.array .long)) (by decide) (by decide)))
  have E23679 := Exa.wr W23675 E23670
  refine ost (mkF m 40 (Las2213_0 b21606 b5) []) X23675 (fun t k => st23675 _ k) ?_
  refine ost (mkF m 41 (Las2213_0 b21606 b5) [(.int (0 : Int32))]) X23675 (fun t k => XS.iconst X23675.here hx rfl (hb hby d13_40) k) ?_
  refine ost (mkF m 42 (Las2213_1 b21606 b5) []) X23675 (fun t k => XS.istoreN X23675.here hx rfl (hb hby d13_41) rfl (l' := (Las2213_1 b21606 b5)) rfl k) ?_
  refine ost (mkF m 43 (Las2213_1 b21606 b5) [(.int (0 : Int32))]) X23675 (fun t k => XS.iconst X23675.here hx rfl (hb hby d13_42) k) ?_
  refine ost (mkF m 44 (Las2213_2 b21606 b5) []) X23675 (fun t k => XS.istoreN X23675.here hx rfl (hb hby d13_43) rfl (l' := (Las2213_2 b21606 b5)) rfl k) ?_
  refine ost (mkF m 45 (Las2213_2 b21606 b5) [(.int (0 : Int32))]) X23675 (fun t k => XS.iconst X23675.here hx rfl (hb hby d13_44) k) ?_
  refine ost (mkF m 47 (Las2213_3 b21606 b5) []) X23675 (fun t k => XS.istore X23675.here hx rfl (hb hby d13_45) rfl (l' := (Las2213_3 b21606 b5)) rfl k) ?_
  refine ost (mkF m 49 (Las2213_3 b21606 b5) [(.int (0 : Int32))]) X23675 (fun t k => XS.iload X23675.here hx rfl (hb hby d13_47) rfl k) ?_
  refine ost (mkF m 50 (Las2213_3 b21606 b5) [(.ref b5), (.int (0 : Int32))]) X23675 (fun t k => XS.aloadN X23675.here hx rfl (hb hby d13_49) rfl rfl k) ?_
  have F23681 := ((F23659.keep K23662 nin0).keep K23675 (ninS ne_b5_b21606 nin0))
  have E23683 := (Exa.keep (Exa.keep E23661 K23662) K23675)
  obtain ⟨_, T23680, L23680, X23680, ⟨rfl, N23680q, u23682⟩, st23680⟩ := own_callF X23675 hx hZ (xi := Y11) (y := Y12) (W := 1) (a := b5) (argsL := []) (rest := [(.int (0 : Int32))]) hown (hw _ (wm 92 rfl)) (hw _ (wm 93 rfl)) (hw _ (wm 94 rfl)) (hw _ (wm 95 rfl)) (hw _ (wm 96 rfl)) (hw _ (wm 97 rfl)) (hw _ (wm 98 rfl)) (hw _ (wm 99 rfl)) (by first | rfl | simp [Cond.onTables, Cond.keepsFace, Cond.keeps, Cond.steady]) (hw _ (wm 11 rfl)) (hw _ (wm 100 rfl)) (by decide) E23683 (rm14s23 l Z a0 hw [] b5 h23675 n0 Z23675 F23681) (by decide) (by decide) (by decide) (by decide) e23675 (g := (mkF m 50 (Las2213_3 b21606 b5) [(.ref b5), (.int (0 : Int32))])) rfl (by rw [hml]; rfl) pd_8 rfl rfl (by show 2 * 0 + _ ≤ _; exact Nat.le_of_eq rfl) (hb hby d13_50)
  have N23680 := Fr.app N23675 N23680q
  refine ost (mkF m 55 (Las2213_3 b21606 b5) [(.int (4 : Int32)), (.int (0 : Int32))]) X23680 (fun t k => st23680 _ k) ?_
  refine ost (mkF m 58 (Las2213_3 b21606 b5) []) X23680 (fun t k => XS.icmpNo X23680.here hx rfl (hb hby d13_55) rfl (tlt (show (0 : Int32) < (4 : Int32) by first | rfl | decide)).2.1 k) ?_
  refine ost (mkF m 59 (Las2213_3 b21606 b5) [(.ref b5)]) X23680 (fun t k => XS.aloadN X23680.here hx rfl (hb hby d13_58) rfl rfl k) ?_
  refine ost (mkF m 61 (Las2213_3 b21606 b5) [(.int (0 : Int32)), (.ref b5)]) X23680 (fun t k => XS.iload X23680.here hx rfl (hb hby d13_59) rfl k) ?_
  have F27733 := ((((((F_elementData_b5.keep K23626 nin0).keep K23632 (ninS ne_b5_b21606 nin0)).keep K23641 nin0).keep K23653 (ninS ne_b5_b21606 nin0)).keep K23662 nin0).keep K23675 (ninS ne_b5_b21606 nin0))
  have A27734 := ((A23664.keep K23662 nin0).keep K23675 (ninS ne_b9140_b21606 nin0))
  obtain ⟨_, T23684, L23684, X23684, ⟨rfl, N23684q, u27735⟩, st23684⟩ := own_callF X23680 hx hZ (xi := Y16) (y := Y17) (W := 0) (a := b5) (argsL := [(.int (0 : Int32))]) (rest := []) hown (hw _ (wm 109 rfl)) (hw _ (wm 110 rfl)) (hw _ (wm 111 rfl)) (hw _ (wm 112 rfl)) (hw _ (wm 113 rfl)) (hw _ (wm 114 rfl)) (hw _ (wm 115 rfl)) (hw _ (wm 99 rfl)) (by first | rfl | simp [Cond.onTables, Cond.keepsFace, Cond.keeps, Cond.steady]) (hw _ (wm 11 rfl)) (hw _ (wm 116 rfl)) (by decide) E23683 (rm15s24 l Z a0 hw [] b5 b3062 b9140 b9240 b13361 b17483 h23675 n0 Z23675 E23683 F27733 F23681 A27734) (by decide) (by decide) (by decide) (by decide) u23682 (g := (mkF m 61 (Las2213_3 b21606 b5) [(.int (0 : Int32)), (.ref b5)])) rfl (by rw [hml]; rfl) pd_10 rfl rfl (by show 2 * 0 + _ ≤ _; exact Nat.le_of_eq rfl) (hb hby d13_61)
  have N23684 := Fr.app N23680 N23684q
  refine ost (mkF m 66 (Las2213_3 b21606 b5) [(.ref b3062)]) X23684 (fun t k => st23684 _ k) ?_
  have E27737 := (Exa.keep (Exa.keep E23663 K23662) K23675)
  obtain ⟨T27736, X27736, e27736, st27736⟩ := castY X23684 hx hZ hown (hw _ (wm 130 rfl)) u27735 (Ins.of_exa E27737 (hw _ (wm 131 rfl))) (g := (mkF m 66 (Las2213_3 b21606 b5) [(.ref b3062)])) rfl rfl (hb hby d13_66)
  refine ost (mkF m 69 (Las2213_3 b21606 b5) [(.ref b3062)]) X27736 (fun t k => st27736 _ k) ?_
  have F28750 := ((((((F_size_b3062.keep K23626 nin0).keep K23632 (ninS ne_b3062_b21606 nin0)).keep K23641 nin0).keep K23653 (ninS ne_b3062_b21606 nin0)).keep K23662 nin0).keep K23675 (ninS ne_b3062_b21606 nin0))
  obtain ⟨_, T27738, L27738, X27738, ⟨rfl, N27738q, u28751⟩, st27738⟩ := own_callV X27736 hx hZ (y := Y18) (W := 0) (a := b3062) (argsL := []) (rest := []) hown (hw _ (wm 132 rfl)) (hw _ (wm 133 rfl)) (hw _ (wm 135 rfl)) (hw _ (wm 134 rfl)) (hw _ (wm 37 rfl)) (hw _ (wm 136 rfl)) (by decide) E27737 (rm19s28 l Z a0 hw [] q0 b3062 h23675 n0 Z23675 F28750) (by decide) (by decide) (by decide) (by decide) e27736 (g := (mkF m 69 (Las2213_3 b21606 b5) [(.ref b3062)])) rfl (by rw [hml]; rfl) pd_8 rfl rfl (by show 2 * 0 + _ ≤ _; exact Nat.le_of_eq rfl) (hb hby d13_69)
  have N27738 := Fr.app N23684 N27738q
  refine ost (mkF m 72 (Las2213_3 b21606 b5) [(.int (v0_8 q0))]) X27738 (fun t k => st27738 _ k) ?_
  refine ost (mkF m 74 (Las2213_4 b21606 b5 q0) []) X27738 (fun t k => XS.istore X27738.here hx rfl (hb hby d13_72) rfl (l' := (Las2213_4 b21606 b5 q0)) rfl k) ?_
  refine ost (mkF m 76 (Las2213_4 b21606 b5 q0) [(.int (32 : Int32))]) X27738 (fun t k => XS.bipush X27738.here hx rfl (hb hby d13_74) k) ?_
  refine ost (mkF m 78 (Las2213_4 b21606 b5 q0) [(.int (v0_8 q0)), (.int (32 : Int32))]) X27738 (fun t k => XS.iload X27738.here hx rfl (hb hby d13_76) rfl k) ?_
  refine ost (mkF m 79 (Las2213_4 b21606 b5 q0) [(.int (1 : Int32)), (.int (v0_8 q0)), (.int (32 : Int32))]) X27738 (fun t k => XS.iconst X27738.here hx rfl (hb hby d13_78) k) ?_
  refine ost (mkF m 80 (Las2213_4 b21606 b5 q0) [(.int ((v0_8 q0) - (1 : Int32))), (.int (32 : Int32))]) X27738 (fun t k => XS.isub X27738.here hx rfl (hb hby d13_79) rfl k) ?_
  obtain ⟨_, T28752, L28752, X28752, ⟨rfl, f28752, N28752q⟩, st28752⟩ := own_callS X27738 hx hZ (y := Y19) (W := 1) (argsL := [(.int ((v0_8 q0) - (1 : Int32)))]) (rest := [(.int (32 : Int32))]) hown (hw _ (wm 137 rfl)) (hw _ (wm 138 rfl)) (hw _ (wm 139 rfl)) (hw _ (wm 140 rfl)) (by decide) (rm20 l Z a0 hw [] ((v0_8 q0) - (1 : Int32)) h23675 n0 Z23675) (by decide) (by decide) (by decide) (by decide) u28751 (g := (mkF m 80 (Las2213_4 b21606 b5 q0) [(.int ((v0_8 q0) - (1 : Int32))), (.int (32 : Int32))])) rfl (by rw [hml]; rfl) pd_1 rfl rfl (by show 2 * 0 + _ ≤ _; exact Nat.le_of_eq rfl) (hb hby d13_80)
  have N28752 := Fr.app N27738 N28752q
  refine ost (mkF m 83 (Las2213_4 b21606 b5 q0) [(.int (r20 ((v0_8 q0) - (1 : Int32)))), (.int (32 : Int32))]) X28752 (fun t k => st28752 _ k) ?_
  refine ost (mkF m 84 (Las2213_4 b21606 b5 q0) [(.int ((32 : Int32) - (r20 ((v0_8 q0) - (1 : Int32)))))]) X28752 (fun t k => XS.isub X28752.here hx rfl (hb hby d13_83) rfl k) ?_
  refine ost (mkF m 86 (Las2213_5 b21606 b5 q0) []) X28752 (fun t k => XS.istore X28752.here hx rfl (hb hby d13_84) rfl (l' := (Las2213_5 b21606 b5 q0)) rfl k) ?_
  refine ost (mkF m 87 (Las2213_5 b21606 b5 q0) [(.int (0 : Int32))]) X28752 (fun t k => XS.iloadN X28752.here hx rfl (hb hby d13_86) rfl k) ?_
  refine ost (mkF m 89 (Las2213_5 b21606 b5 q0) [(.int (vs2213_84 q0)), (.int (0 : Int32))]) X28752 (fun t k => XS.iload X28752.here hx rfl (hb hby d13_87) rfl k) ?_
  refine ost (mkF m 90 (Las2213_5 b21606 b5 q0) [(.int ((0 : Int32) + (vs2213_84 q0)))]) X28752 (fun t k => XS.iadd X28752.here hx rfl (hb hby d13_89) rfl k) ?_
  refine ost (mkF m 92 (Las2213_5 b21606 b5 q0) [(.int (64 : Int32)), (.int ((0 : Int32) + (vs2213_84 q0)))]) X28752 (fun t k => XS.bipush X28752.here hx rfl (hb hby d13_90) k) ?_
  refine ost (mkF m 100 #[.val (.ref b21606), .val (.ref b5), .val (.int (vs2213_100 q0)), .val (.int (0 : Int32)), .val (.int (0 : Int32)), .val (.int (v0_8 q0)), .val (.int (vs2213_84 q0))] []) X28752 (fun t k => ?_) ?_
  · show Steps p.tables e below (T28752.setTop (mkF m 92 (Las2213_5 b21606 b5 q0) [(.int (64 : Int32)), (.int ((0 : Int32) + (vs2213_84 q0)))])) t
    by_cases hc28753 : (64 : Int32) < ((0 : Int32) + (vs2213_84 q0))
    · skip
      refine XS.icmpNo X28752.here hx rfl (hb hby d13_92) rfl (tlt hc28753).2.2.2 ?_
      show Steps p.tables e below (T28752.setTop (mkF m 95 (Las2213_5 b21606 b5 q0) [])) t
      refine XS.iinc X28752.here hx rfl (hb hby d13_95) rfl (l' := (Las2213_6 b21606 b5 q0)) rfl ?_
      show Steps p.tables e below (T28752.setTop (mkF m 98 (Las2213_6 b21606 b5 q0) [])) t
      refine XS.iconst X28752.here hx rfl (hb hby d13_98) ?_
      show Steps p.tables e below (T28752.setTop (mkF m 99 (Las2213_6 b21606 b5 q0) [(.int (0 : Int32))])) t
      refine XS.istoreN X28752.here hx rfl (hb hby d13_99) rfl (l' := (Las2213_6 b21606 b5 q0)) rfl ?_
      show Steps p.tables e below (T28752.setTop (mkF m 100 (Las2213_6 b21606 b5 q0) [])) t
      have qq28754 : (vs2213_100 q0) = (1 : Int32) := by
        show (if (64 : Int32) < ((0 : Int32) + (vs2213_84 q0)) then (1 : Int32) else (0 : Int32)) = (1 : Int32)
        simp only [if_pos hc28753]
      rw [qq28754] at k
      exact k
    · skip
      refine XS.icmpYes X28752.here hx rfl (pc0 := 92) (pc' := 100) rfl (hb hby d13_92) rfl (flt hc28753).2.2.2 (by decide) (by decide) ?_
      show Steps p.tables e below (T28752.setTop (mkF m 100 (Las2213_5 b21606 b5 q0) [])) t
      have qq28755 : (vs2213_100 q0) = (0 : Int32) := by
        show (if (64 : Int32) < ((0 : Int32) + (vs2213_84 q0)) then (1 : Int32) else (0 : Int32)) = (0 : Int32)
        simp only [if_neg hc28753]
      rw [qq28755] at k
      exact k
  refine ost (mkF m 101 (Las2213_7 b21606 b5 q0) [(.ref b21606)]) X28752 (fun t k => XS.aloadN X28752.here hx rfl (hb hby d13_100) rfl rfl k) ?_
  obtain ⟨T28756, X28756, e28756, st28756⟩ := getF X28752 hx hZ hown (host := "") (Or.inl (hw _ (wm 102 rfl))) Via.refl f28752 F23676 (g := (mkF m 101 (Las2213_7 b21606 b5 q0) [(.ref b21606)])) rfl rfl (hb hby d13_101)
  refine ost (mkF m 104 (Las2213_7 b21606 b5 q0) [(.ref b23626)]) X28756 (fun t k => st28756 _ k) ?_
  refine ost (mkF m 106 (Las2213_7 b21606 b5 q0) [(.int (0 : Int32)), (.ref b23626)]) X28756 (fun t k => XS.iload X28756.here hx rfl (hb hby d13_104) rfl k) ?_
  refine ost (mkF m 107 (Las2213_7 b21606 b5 q0) [(.int (vs2213_100 q0)), (.int (0 : Int32)), (.ref b23626)]) X28756 (fun t k => XS.iloadN X28756.here hx rfl (hb hby d13_106) rfl k) ?_
  have A28757 := ((A23668.keep K23662 nin0).keep K23675 (ninS (Ne.symm ne_b21606_b23626) nin0))
  obtain ⟨T28758, h28758, L28758, X28758, e28758, N28758, K28758, A28758, st28758⟩ := own_stI X28756 hx hZ e28756 N28752 (G := (fun _ => (0 : Int32))) A28757 g_b23626 (j := (0 : Int32)) (x := (vs2213_100 q0)) (by decide) (g := (mkF m 107 (Las2213_7 b21606 b5 q0) [(.int (vs2213_100 q0)), (.int (0 : Int32)), (.ref b23626)])) rfl rfl (hb hby d13_107)
  have B28758 : Ary Z h28758 b23626 .int 4 (fun i => .int ((Gs2213_107 q0) i)) := A28758
  have Z28758 := Nat.le_trans Z23675 K28758.1
  have S28758 := Nat.le_trans S23675 K28758.1
  refine ost (mkF m 108 (Las2213_7 b21606 b5 q0) []) X28758 (fun t k => st28758 _ k) ?_
  refine ost (mkF m 109 (Las2213_7 b21606 b5 q0) [(.ref b21606)]) X28758 (fun t k => XS.aloadN X28758.here hx rfl (hb hby d13_108) rfl rfl k) ?_
  have F28759 := (F23677.keep K28758 (ninS ne_b21606_b23626 nin0))
  obtain ⟨T28760, X28760, e28760, st28760⟩ := getF X28758 hx hZ hown (host := "") (Or.inl (hw _ (wm 104 rfl))) Via.refl e28758 F28759 (g := (mkF m 109 (Las2213_7 b21606 b5 q0) [(.ref b21606)])) rfl rfl (hb hby d13_109)
  refine ost (mkF m 112 (Las2213_7 b21606 b5 q0) [(.ref b23641)]) X28760 (fun t k => st28760 _ k) ?_
  refine ost (mkF m 114 (Las2213_7 b21606 b5 q0) [(.int (0 : Int32)), (.ref b23641)]) X28760 (fun t k => XS.iload X28760.here hx rfl (hb hby d13_112) rfl k) ?_
  refine ost (mkF m 115 (Las2213_7 b21606 b5 q0) [(.int (0 : Int32)), (.int (0 : Int32)), (.ref b23641)]) X28760 (fun t k => XS.iloadN X28760.here hx rfl (hb hby d13_114) rfl k) ?_
  have A28761 := (((A23669.keep K23662 nin0).keep K23675 (ninS (Ne.symm ne_b21606_b23641) nin0)).keep K28758 (ninS (Ne.symm ne_b23626_b23641) nin0))
  obtain ⟨T28762, h28762, L28762, X28762, e28762, N28762, K28762, A28762, st28762⟩ := own_stI X28760 hx hZ e28760 N28758 (G := (fun _ => (0 : Int32))) A28761 g_b23641 (j := (0 : Int32)) (x := (0 : Int32)) (by decide) (g := (mkF m 115 (Las2213_7 b21606 b5 q0) [(.int (0 : Int32)), (.int (0 : Int32)), (.ref b23641)])) rfl rfl (hb hby d13_115)
  have B28762 : Ary Z h28762 b23641 .int 4 (fun i => .int ((Gs2213_115) i)) := A28762
  have Z28762 := Nat.le_trans Z28758 K28762.1
  have S28762 := Nat.le_trans S28758 K28762.1
  refine ost (mkF m 116 (Las2213_7 b21606 b5 q0) []) X28762 (fun t k => st28762 _ k) ?_
  refine ost (mkF m 117 (Las2213_7 b21606 b5 q0) [(.ref b21606)]) X28762 (fun t k => XS.aloadN X28762.here hx rfl (hb hby d13_116) rfl rfl k) ?_
  have F28763 := ((F23675.keep K28758 (ninS ne_b21606_b23626 nin0)).keep K28762 (ninS ne_b21606_b23641 nin0))
  obtain ⟨T28764, X28764, e28764, st28764⟩ := getF X28762 hx hZ hown (host := "") (Or.inl (hw _ (wm 107 rfl))) Via.refl e28762 F28763 (g := (mkF m 117 (Las2213_7 b21606 b5 q0) [(.ref b21606)])) rfl rfl (hb hby d13_117)
  refine ost (mkF m 120 (Las2213_7 b21606 b5 q0) [(.ref b23662)]) X28764 (fun t k => st28764 _ k) ?_
  refine ost (mkF m 122 (Las2213_7 b21606 b5 q0) [(.int (0 : Int32)), (.ref b23662)]) X28764 (fun t k => XS.iload X28764.here hx rfl (hb hby d13_120) rfl k) ?_
  refine ost (mkF m 123 (Las2213_7 b21606 b5 q0) [(.long (1 : Int64)), (.int (0 : Int32)), (.ref b23662)]) X28764 (fun t k => XT.lconst X28764.here hx rfl (hb hby d13_122) k) ?_
  refine ost (mkF m 125 (Las2213_7 b21606 b5 q0) [(.int (vs2213_84 q0)), (.long (1 : Int64)), (.int (0 : Int32)), (.ref b23662)]) X28764 (fun t k => XS.iload X28764.here hx rfl (hb hby d13_123) rfl k) ?_
  refine ost (mkF m 126 (Las2213_7 b21606 b5 q0) [(.long ((1 : Int64) <<< ((vs2213_84 q0).toInt64 &&& 63))), (.int (0 : Int32)), (.ref b23662)]) X28764 (fun t k => XT.lshl X28764.here hx rfl (hb hby d13_125) rfl k) ?_
  refine ost (mkF m 127 (Las2213_7 b21606 b5 q0) [(.long (1 : Int64)), (.long ((1 : Int64) <<< ((vs2213_84 q0).toInt64 &&& 63))), (.int (0 : Int32)), (.ref b23662)]) X28764 (fun t k => XT.lconst X28764.here hx rfl (hb hby d13_126) k) ?_
  refine ost (mkF m 128 (Las2213_7 b21606 b5 q0) [(.long (((1 : Int64) <<< ((vs2213_84 q0).toInt64 &&& 63)) - (1 : Int64))), (.int (0 : Int32)), (.ref b23662)]) X28764 (fun t k => XT.lsub X28764.here hx rfl (hb hby d13_127) rfl k) ?_
  have A28765 := (((B23662.keep K23675 (ninS (Ne.symm ne_b21606_b23662) nin0)).keep K28758 (ninS (Ne.symm ne_b23626_b23662) nin0)).keep K28762 (ninS (Ne.symm ne_b23641_b23662) nin0))
  obtain ⟨T28766, h28766, L28766, X28766, e28766, N28766, K28766, A28766, st28766⟩ := own_stJ X28764 hx hZ e28764 N28762 (G := (fun _ => (0 : Int64))) A28765 g_b23662 (j := (0 : Int32)) (x := (((1 : Int64) <<< ((vs2213_84 q0).toInt64 &&& 63)) - (1 : Int64))) (by decide) (g := (mkF m 128 (Las2213_7 b21606 b5 q0) [(.long (((1 : Int64) <<< ((vs2213_84 q0).toInt64 &&& 63)) - (1 : Int64))), (.int (0 : Int32)), (.ref b23662)])) rfl rfl (hb hby d13_128)
  have B28766 : Ary Z h28766 b23662 .long 4 (fun i => .long ((Gs2213_128 q0) i)) := A28766
  have Z28766 := Nat.le_trans Z28762 K28766.1
  have S28766 := Nat.le_trans S28762 K28766.1
  refine ost (mkF m 129 (Las2213_7 b21606 b5 q0) []) X28766 (fun t k => st28766 _ k) ?_
  refine ost (mkF m 130 (Las2213_7 b21606 b5 q0) [(.int (0 : Int32))]) X28766 (fun t k => XS.iloadN X28766.here hx rfl (hb hby d13_129) rfl k) ?_
  refine ost (mkF m 132 (Las2213_7 b21606 b5 q0) [(.int (vs2213_84 q0)), (.int (0 : Int32))]) X28766 (fun t k => XS.iload X28766.here hx rfl (hb hby d13_130) rfl k) ?_
  refine ost (mkF m 133 (Las2213_7 b21606 b5 q0) [(.int ((0 : Int32) + (vs2213_84 q0)))]) X28766 (fun t k => XS.iadd X28766.here hx rfl (hb hby d13_132) rfl k) ?_
  refine ost (mkF m 134 (Las2213_8 b21606 b5 q0) []) X28766 (fun t k => XS.istoreN X28766.here hx rfl (hb hby d13_133) rfl (l' := (Las2213_8 b21606 b5 q0)) rfl k) ?_
  refine ost (mkF m 137 (Las2213_9 b21606 b5 q0) []) X28766 (fun t k => XS.iinc X28766.here hx rfl (hb hby d13_134) rfl (l' := (Las2213_9 b21606 b5 q0)) rfl k) ?_
  refine ost (mkF m 47 (Las2213_9 b21606 b5 q0) []) X28766 (fun t k => XS.goto X28766.here hx rfl (pc0 := 137) (pc' := 47) rfl (hb hby d13_137) (by decide) (by decide) k) ?_
  refine ost (mkF m 49 (Las2213_9 b21606 b5 q0) [(.int (1 : Int32))]) X28766 (fun t k => XS.iload X28766.here hx rfl (hb hby d13_47) rfl k) ?_
  refine ost (mkF m 50 (Las2213_9 b21606 b5 q0) [(.ref b5), (.int (1 : Int32))]) X28766 (fun t k => XS.aloadN X28766.here hx rfl (hb hby d13_49) rfl rfl k) ?_
  have F28768 := (((F23681.keep K28758 (ninS ne_b5_b23626 nin0)).keep K28762 (ninS ne_b5_b23641 nin0)).keep K28766 (ninS ne_b5_b23662 nin0))
  have E28770 := (Exa.keep (Exa.keep (Exa.keep E23683 K28758) K28762) K28766)
  obtain ⟨_, T28767, L28767, X28767, ⟨rfl, N28767q, u28769⟩, st28767⟩ := own_callF X28766 hx hZ (xi := Y11) (y := Y12) (W := 1) (a := b5) (argsL := []) (rest := [(.int (1 : Int32))]) hown (hw _ (wm 92 rfl)) (hw _ (wm 93 rfl)) (hw _ (wm 94 rfl)) (hw _ (wm 95 rfl)) (hw _ (wm 96 rfl)) (hw _ (wm 97 rfl)) (hw _ (wm 98 rfl)) (hw _ (wm 99 rfl)) (by first | rfl | simp [Cond.onTables, Cond.keepsFace, Cond.keeps, Cond.steady]) (hw _ (wm 11 rfl)) (hw _ (wm 100 rfl)) (by decide) E28770 (rm14s23 l Z a0 hw [] b5 h28766 n0 Z28766 F28768) (by decide) (by decide) (by decide) (by decide) e28766 (g := (mkF m 50 (Las2213_9 b21606 b5 q0) [(.ref b5), (.int (1 : Int32))])) rfl (by rw [hml]; rfl) pd_8 rfl rfl (by show 2 * 0 + _ ≤ _; exact Nat.le_of_eq rfl) (hb hby d13_50)
  have N28767 := Fr.app N28766 N28767q
  refine ost (mkF m 55 (Las2213_9 b21606 b5 q0) [(.int (4 : Int32)), (.int (1 : Int32))]) X28767 (fun t k => st28767 _ k) ?_
  refine ost (mkF m 58 (Las2213_9 b21606 b5 q0) []) X28767 (fun t k => XS.icmpNo X28767.here hx rfl (hb hby d13_55) rfl (tlt (show (1 : Int32) < (4 : Int32) by first | rfl | decide)).2.1 k) ?_
  refine ost (mkF m 59 (Las2213_9 b21606 b5 q0) [(.ref b5)]) X28767 (fun t k => XS.aloadN X28767.here hx rfl (hb hby d13_58) rfl rfl k) ?_
  refine ost (mkF m 61 (Las2213_9 b21606 b5 q0) [(.int (1 : Int32)), (.ref b5)]) X28767 (fun t k => XS.iload X28767.here hx rfl (hb hby d13_59) rfl k) ?_
  have F32820 := (((F27733.keep K28758 (ninS ne_b5_b23626 nin0)).keep K28762 (ninS ne_b5_b23641 nin0)).keep K28766 (ninS ne_b5_b23662 nin0))
  have A32821 := (((A27734.keep K28758 (ninS ne_b9140_b23626 nin0)).keep K28762 (ninS ne_b9140_b23641 nin0)).keep K28766 (ninS ne_b9140_b23662 nin0))
  obtain ⟨_, T28771, L28771, X28771, ⟨rfl, N28771q, u32822⟩, st28771⟩ := own_callF X28767 hx hZ (xi := Y16) (y := Y17) (W := 0) (a := b5) (argsL := [(.int (1 : Int32))]) (rest := []) hown (hw _ (wm 109 rfl)) (hw _ (wm 110 rfl)) (hw _ (wm 111 rfl)) (hw _ (wm 112 rfl)) (hw _ (wm 113 rfl)) (hw _ (wm 114 rfl)) (hw _ (wm 115 rfl)) (hw _ (wm 99 rfl)) (by first | rfl | simp [Cond.onTables, Cond.keepsFace, Cond.keeps, Cond.steady]) (hw _ (wm 11 rfl)) (hw _ (wm 116 rfl)) (by decide) E28770 (rm15s29 l Z a0 hw [] b5 b3062 b9140 b9240 b13361 b17483 h28766 n0 Z28766 E28770 F32820 F28768 A32821) (by decide) (by decide) (by decide) (by decide) u28769 (g := (mkF m 61 (Las2213_9 b21606 b5 q0) [(.int (1 : Int32)), (.ref b5)])) rfl (by rw [hml]; rfl) pd_10 rfl rfl (by show 2 * 0 + _ ≤ _; exact Nat.le_of_eq rfl) (hb hby d13_61)
  have N28771 := Fr.app N28767 N28771q
  refine ost (mkF m 66 (Las2213_9 b21606 b5 q0) [(.ref b9240)]) X28771 (fun t k => st28771 _ k) ?_
  have E32824 := (Exa.keep (Exa.keep (Exa.keep (Exa.keep (Exa.keep E23665 K23662) K23675) K28758) K28762) K28766)
  obtain ⟨T32823, X32823, e32823, st32823⟩ := castY X28771 hx hZ hown (hw _ (wm 130 rfl)) u32822 (Ins.of_exa E32824 (hw _ (wm 131 rfl))) (g := (mkF m 66 (Las2213_9 b21606 b5 q0) [(.ref b9240)])) rfl rfl (hb hby d13_66)
  refine ost (mkF m 69 (Las2213_9 b21606 b5 q0) [(.ref b9240)]) X32823 (fun t k => st32823 _ k) ?_
  have F33837 := (((((((((F_size_b9240.keep K23626 nin0).keep K23632 (ninS ne_b9240_b21606 nin0)).keep K23641 nin0).keep K23653 (ninS ne_b9240_b21606 nin0)).keep K23662 nin0).keep K23675 (ninS ne_b9240_b21606 nin0)).keep K28758 (ninS ne_b9240_b23626 nin0)).keep K28762 (ninS ne_b9240_b23641 nin0)).keep K28766 (ninS ne_b9240_b23662 nin0))
  obtain ⟨_, T32825, L32825, X32825, ⟨rfl, N32825q, u33838⟩, st32825⟩ := own_callV X32823 hx hZ (y := Y18) (W := 0) (a := b9240) (argsL := []) (rest := []) hown (hw _ (wm 132 rfl)) (hw _ (wm 133 rfl)) (hw _ (wm 135 rfl)) (hw _ (wm 134 rfl)) (hw _ (wm 37 rfl)) (hw _ (wm 136 rfl)) (by decide) E32824 (rm19s33 l Z a0 hw [] q0 b9240 h28766 n0 Z28766 F33837) (by decide) (by decide) (by decide) (by decide) e32823 (g := (mkF m 69 (Las2213_9 b21606 b5 q0) [(.ref b9240)])) rfl (by rw [hml]; rfl) pd_8 rfl rfl (by show 2 * 0 + _ ≤ _; exact Nat.le_of_eq rfl) (hb hby d13_69)
  have N32825 := Fr.app N28771 N32825q
  refine ost (mkF m 72 (Las2213_9 b21606 b5 q0) [(.int (v0_15 q0))]) X32825 (fun t k => st32825 _ k) ?_
  refine ost (mkF m 74 (Las2213_10 b21606 b5 q0) []) X32825 (fun t k => XS.istore X32825.here hx rfl (hb hby d13_72) rfl (l' := (Las2213_10 b21606 b5 q0)) rfl k) ?_
  refine ost (mkF m 76 (Las2213_10 b21606 b5 q0) [(.int (32 : Int32))]) X32825 (fun t k => XS.bipush X32825.here hx rfl (hb hby d13_74) k) ?_
  refine ost (mkF m 78 (Las2213_10 b21606 b5 q0) [(.int (v0_15 q0)), (.int (32 : Int32))]) X32825 (fun t k => XS.iload X32825.here hx rfl (hb hby d13_76) rfl k) ?_
  refine ost (mkF m 79 (Las2213_10 b21606 b5 q0) [(.int (1 : Int32)), (.int (v0_15 q0)), (.int (32 : Int32))]) X32825 (fun t k => XS.iconst X32825.here hx rfl (hb hby d13_78) k) ?_
  refine ost (mkF m 80 (Las2213_10 b21606 b5 q0) [(.int ((v0_15 q0) - (1 : Int32))), (.int (32 : Int32))]) X32825 (fun t k => XS.isub X32825.here hx rfl (hb hby d13_79) rfl k) ?_
  obtain ⟨_, T33839, L33839, X33839, ⟨rfl, f33839, N33839q⟩, st33839⟩ := own_callS X32825 hx hZ (y := Y19) (W := 1) (argsL := [(.int ((v0_15 q0) - (1 : Int32)))]) (rest := [(.int (32 : Int32))]) hown (hw _ (wm 137 rfl)) (hw _ (wm 138 rfl)) (hw _ (wm 139 rfl)) (hw _ (wm 140 rfl)) (by decide) (rm20 l Z a0 hw [] ((v0_15 q0) - (1 : Int32)) h28766 n0 Z28766) (by decide) (by decide) (by decide) (by decide) u33838 (g := (mkF m 80 (Las2213_10 b21606 b5 q0) [(.int ((v0_15 q0) - (1 : Int32))), (.int (32 : Int32))])) rfl (by rw [hml]; rfl) pd_1 rfl rfl (by show 2 * 0 + _ ≤ _; exact Nat.le_of_eq rfl) (hb hby d13_80)
  have N33839 := Fr.app N32825 N33839q
  refine ost (mkF m 83 (Las2213_10 b21606 b5 q0) [(.int (r20 ((v0_15 q0) - (1 : Int32)))), (.int (32 : Int32))]) X33839 (fun t k => st33839 _ k) ?_
  refine ost (mkF m 84 (Las2213_10 b21606 b5 q0) [(.int ((32 : Int32) - (r20 ((v0_15 q0) - (1 : Int32)))))]) X33839 (fun t k => XS.isub X33839.here hx rfl (hb hby d13_83) rfl k) ?_
  refine ost (mkF m 86 (Las2213_11 b21606 b5 q0) []) X33839 (fun t k => XS.istore X33839.here hx rfl (hb hby d13_84) rfl (l' := (Las2213_11 b21606 b5 q0)) rfl k) ?_
  refine ost (mkF m 87 (Las2213_11 b21606 b5 q0) [(.int (vs2213_133 q0))]) X33839 (fun t k => XS.iloadN X33839.here hx rfl (hb hby d13_86) rfl k) ?_
  refine ost (mkF m 89 (Las2213_11 b21606 b5 q0) [(.int (vs2213_84b q0)), (.int (vs2213_133 q0))]) X33839 (fun t k => XS.iload X33839.here hx rfl (hb hby d13_87) rfl k) ?_
  refine ost (mkF m 90 (Las2213_11 b21606 b5 q0) [(.int ((vs2213_133 q0) + (vs2213_84b q0)))]) X33839 (fun t k => XS.iadd X33839.here hx rfl (hb hby d13_89) rfl k) ?_
  refine ost (mkF m 92 (Las2213_11 b21606 b5 q0) [(.int (64 : Int32)), (.int ((vs2213_133 q0) + (vs2213_84b q0)))]) X33839 (fun t k => XS.bipush X33839.here hx rfl (hb hby d13_90) k) ?_
  refine ost (mkF m 100 #[.val (.ref b21606), .val (.ref b5), .val (.int (vs2213_100b q0)), .val (.int (vs2213_100bb q0)), .val (.int (1 : Int32)), .val (.int (v0_15 q0)), .val (.int (vs2213_84b q0))] []) X33839 (fun t k => ?_) ?_
  · show Steps p.tables e below (T33839.setTop (mkF m 92 (Las2213_11 b21606 b5 q0) [(.int (64 : Int32)), (.int ((vs2213_133 q0) + (vs2213_84b q0)))])) t
    by_cases hc33840 : (64 : Int32) < ((vs2213_133 q0) + (vs2213_84b q0))
    · skip
      refine XS.icmpNo X33839.here hx rfl (hb hby d13_92) rfl (tlt hc33840).2.2.2 ?_
      show Steps p.tables e below (T33839.setTop (mkF m 95 (Las2213_11 b21606 b5 q0) [])) t
      refine XS.iinc X33839.here hx rfl (hb hby d13_95) rfl (l' := (Las2213_12 b21606 b5 q0)) rfl ?_
      show Steps p.tables e below (T33839.setTop (mkF m 98 (Las2213_12 b21606 b5 q0) [])) t
      refine XS.iconst X33839.here hx rfl (hb hby d13_98) ?_
      show Steps p.tables e below (T33839.setTop (mkF m 99 (Las2213_12 b21606 b5 q0) [(.int (0 : Int32))])) t
      refine XS.istoreN X33839.here hx rfl (hb hby d13_99) rfl (l' := (Las2213_13 b21606 b5 q0)) rfl ?_
      show Steps p.tables e below (T33839.setTop (mkF m 100 (Las2213_13 b21606 b5 q0) [])) t
      have qq33841 : (vs2213_100b q0) = ((vs2213_100 q0) + (1 : Int32)) := by
        show (if (64 : Int32) < ((vs2213_133 q0) + (vs2213_84b q0)) then ((vs2213_100 q0) + (1 : Int32)) else (vs2213_100 q0)) = ((vs2213_100 q0) + (1 : Int32))
        simp only [if_pos hc33840]
      have qq33842 : (vs2213_100bb q0) = (0 : Int32) := by
        show (if (64 : Int32) < ((vs2213_133 q0) + (vs2213_84b q0)) then (0 : Int32) else (vs2213_133 q0)) = (0 : Int32)
        simp only [if_pos hc33840]
      rw [qq33841, qq33842] at k
      exact k
    · skip
      refine XS.icmpYes X33839.here hx rfl (pc0 := 92) (pc' := 100) rfl (hb hby d13_92) rfl (flt hc33840).2.2.2 (by decide) (by decide) ?_
      show Steps p.tables e below (T33839.setTop (mkF m 100 (Las2213_11 b21606 b5 q0) [])) t
      have qq33843 : (vs2213_100b q0) = (vs2213_100 q0) := by
        show (if (64 : Int32) < ((vs2213_133 q0) + (vs2213_84b q0)) then ((vs2213_100 q0) + (1 : Int32)) else (vs2213_100 q0)) = (vs2213_100 q0)
        simp only [if_neg hc33840]
      have qq33844 : (vs2213_100bb q0) = (vs2213_133 q0) := by
        show (if (64 : Int32) < ((vs2213_133 q0) + (vs2213_84b q0)) then (0 : Int32) else (vs2213_133 q0)) = (vs2213_133 q0)
        simp only [if_neg hc33840]
      rw [qq33843, qq33844] at k
      exact k
  refine ost (mkF m 101 (Las2213_14 b21606 b5 q0) [(.ref b21606)]) X33839 (fun t k => XS.aloadN X33839.here hx rfl (hb hby d13_100) rfl rfl k) ?_
  have F33845 := (((F23676.keep K28758 (ninS ne_b21606_b23626 nin0)).keep K28762 (ninS ne_b21606_b23641 nin0)).keep K28766 (ninS ne_b21606_b23662 nin0))
  obtain ⟨T33846, X33846, e33846, st33846⟩ := getF X33839 hx hZ hown (host := "") (Or.inl (hw _ (wm 102 rfl))) Via.refl f33839 F33845 (g := (mkF m 101 (Las2213_14 b21606 b5 q0) [(.ref b21606)])) rfl rfl (hb hby d13_101)
  refine ost (mkF m 104 (Las2213_14 b21606 b5 q0) [(.ref b23626)]) X33846 (fun t k => st33846 _ k) ?_
  refine ost (mkF m 106 (Las2213_14 b21606 b5 q0) [(.int (1 : Int32)), (.ref b23626)]) X33846 (fun t k => XS.iload X33846.here hx rfl (hb hby d13_104) rfl k) ?_
  refine ost (mkF m 107 (Las2213_14 b21606 b5 q0) [(.int (vs2213_100b q0)), (.int (1 : Int32)), (.ref b23626)]) X33846 (fun t k => XS.iloadN X33846.here hx rfl (hb hby d13_106) rfl k) ?_
  have A33847 := ((B28758.keep K28762 (ninS ne_b23626_b23641 nin0)).keep K28766 (ninS ne_b23626_b23662 nin0))
  obtain ⟨T33848, h33848, L33848, X33848, e33848, N33848, K33848, A33848, st33848⟩ := own_stI X33846 hx hZ e33846 N33839 (G := (Gs2213_107 q0)) A33847 g_b23626 (j := (1 : Int32)) (x := (vs2213_100b q0)) (by decide) (g := (mkF m 107 (Las2213_14 b21606 b5 q0) [(.int (vs2213_100b q0)), (.int (1 : Int32)), (.ref b23626)])) rfl rfl (hb hby d13_107)
  have B33848 : Ary Z h33848 b23626 .int 4 (fun i => .int ((Gs2213_107b q0) i)) := A33848
  have Z33848 := Nat.le_trans Z28766 K33848.1
  have S33848 := Nat.le_trans S28766 K33848.1
  refine ost (mkF m 108 (Las2213_14 b21606 b5 q0) []) X33848 (fun t k => st33848 _ k) ?_
  refine ost (mkF m 109 (Las2213_14 b21606 b5 q0) [(.ref b21606)]) X33848 (fun t k => XS.aloadN X33848.here hx rfl (hb hby d13_108) rfl rfl k) ?_
  have F33849 := (((F28759.keep K28762 (ninS ne_b21606_b23641 nin0)).keep K28766 (ninS ne_b21606_b23662 nin0)).keep K33848 (ninS ne_b21606_b23626 nin0))
  obtain ⟨T33850, X33850, e33850, st33850⟩ := getF X33848 hx hZ hown (host := "") (Or.inl (hw _ (wm 104 rfl))) Via.refl e33848 F33849 (g := (mkF m 109 (Las2213_14 b21606 b5 q0) [(.ref b21606)])) rfl rfl (hb hby d13_109)
  refine ost (mkF m 112 (Las2213_14 b21606 b5 q0) [(.ref b23641)]) X33850 (fun t k => st33850 _ k) ?_
  refine ost (mkF m 114 (Las2213_14 b21606 b5 q0) [(.int (1 : Int32)), (.ref b23641)]) X33850 (fun t k => XS.iload X33850.here hx rfl (hb hby d13_112) rfl k) ?_
  refine ost (mkF m 115 (Las2213_14 b21606 b5 q0) [(.int (vs2213_100bb q0)), (.int (1 : Int32)), (.ref b23641)]) X33850 (fun t k => XS.iloadN X33850.here hx rfl (hb hby d13_114) rfl k) ?_
  have A33851 := ((B28762.keep K28766 (ninS ne_b23641_b23662 nin0)).keep K33848 (ninS (Ne.symm ne_b23626_b23641) nin0))
  obtain ⟨T33852, h33852, L33852, X33852, e33852, N33852, K33852, A33852, st33852⟩ := own_stI X33850 hx hZ e33850 N33848 (G := (Gs2213_115)) A33851 g_b23641 (j := (1 : Int32)) (x := (vs2213_100bb q0)) (by decide) (g := (mkF m 115 (Las2213_14 b21606 b5 q0) [(.int (vs2213_100bb q0)), (.int (1 : Int32)), (.ref b23641)])) rfl rfl (hb hby d13_115)
  have B33852 : Ary Z h33852 b23641 .int 4 (fun i => .int ((Gs2213_115b q0) i)) := A33852
  have Z33852 := Nat.le_trans Z33848 K33852.1
  have S33852 := Nat.le_trans S33848 K33852.1
  refine ost (mkF m 116 (Las2213_14 b21606 b5 q0) []) X33852 (fun t k => st33852 _ k) ?_
  refine ost (mkF m 117 (Las2213_14 b21606 b5 q0) [(.ref b21606)]) X33852 (fun t k => XS.aloadN X33852.here hx rfl (hb hby d13_116) rfl rfl k) ?_
  have F33853 := (((F28763.keep K28766 (ninS ne_b21606_b23662 nin0)).keep K33848 (ninS ne_b21606_b23626 nin0)).keep K33852 (ninS ne_b21606_b23641 nin0))
  obtain ⟨T33854, X33854, e33854, st33854⟩ := getF X33852 hx hZ hown (host := "") (Or.inl (hw _ (wm 107 rfl))) Via.refl e33852 F33853 (g := (mkF m 117 (Las2213_14 b21606 b5 q0) [(.ref b21606)])) rfl rfl (hb hby d13_117)
  refine ost (mkF m 120 (Las2213_14 b21606 b5 q0) [(.ref b23662)]) X33854 (fun t k => st33854 _ k) ?_
  refine ost (mkF m 122 (Las2213_14 b21606 b5 q0) [(.int (1 : Int32)), (.ref b23662)]) X33854 (fun t k => XS.iload X33854.here hx rfl (hb hby d13_120) rfl k) ?_
  refine ost (mkF m 123 (Las2213_14 b21606 b5 q0) [(.long (1 : Int64)), (.int (1 : Int32)), (.ref b23662)]) X33854 (fun t k => XT.lconst X33854.here hx rfl (hb hby d13_122) k) ?_
  refine ost (mkF m 125 (Las2213_14 b21606 b5 q0) [(.int (vs2213_84b q0)), (.long (1 : Int64)), (.int (1 : Int32)), (.ref b23662)]) X33854 (fun t k => XS.iload X33854.here hx rfl (hb hby d13_123) rfl k) ?_
  refine ost (mkF m 126 (Las2213_14 b21606 b5 q0) [(.long ((1 : Int64) <<< ((vs2213_84b q0).toInt64 &&& 63))), (.int (1 : Int32)), (.ref b23662)]) X33854 (fun t k => XT.lshl X33854.here hx rfl (hb hby d13_125) rfl k) ?_
  refine ost (mkF m 127 (Las2213_14 b21606 b5 q0) [(.long (1 : Int64)), (.long ((1 : Int64) <<< ((vs2213_84b q0).toInt64 &&& 63))), (.int (1 : Int32)), (.ref b23662)]) X33854 (fun t k => XT.lconst X33854.here hx rfl (hb hby d13_126) k) ?_
  refine ost (mkF m 128 (Las2213_14 b21606 b5 q0) [(.long (((1 : Int64) <<< ((vs2213_84b q0).toInt64 &&& 63)) - (1 : Int64))), (.int (1 : Int32)), (.ref b23662)]) X33854 (fun t k => XT.lsub X33854.here hx rfl (hb hby d13_127) rfl k) ?_
  have A33855 := ((B28766.keep K33848 (ninS (Ne.symm ne_b23626_b23662) nin0)).keep K33852 (ninS (Ne.symm ne_b23641_b23662) nin0))
  obtain ⟨T33856, h33856, L33856, X33856, e33856, N33856, K33856, A33856, st33856⟩ := own_stJ X33854 hx hZ e33854 N33852 (G := (Gs2213_128 q0)) A33855 g_b23662 (j := (1 : Int32)) (x := (((1 : Int64) <<< ((vs2213_84b q0).toInt64 &&& 63)) - (1 : Int64))) (by decide) (g := (mkF m 128 (Las2213_14 b21606 b5 q0) [(.long (((1 : Int64) <<< ((vs2213_84b q0).toInt64 &&& 63)) - (1 : Int64))), (.int (1 : Int32)), (.ref b23662)])) rfl rfl (hb hby d13_128)
  have B33856 : Ary Z h33856 b23662 .long 4 (fun i => .long ((Gs2213_128b q0) i)) := A33856
  have Z33856 := Nat.le_trans Z33852 K33856.1
  have S33856 := Nat.le_trans S33852 K33856.1
  refine ost (mkF m 129 (Las2213_14 b21606 b5 q0) []) X33856 (fun t k => st33856 _ k) ?_
  refine ost (mkF m 130 (Las2213_14 b21606 b5 q0) [(.int (vs2213_100bb q0))]) X33856 (fun t k => XS.iloadN X33856.here hx rfl (hb hby d13_129) rfl k) ?_
  refine ost (mkF m 132 (Las2213_14 b21606 b5 q0) [(.int (vs2213_84b q0)), (.int (vs2213_100bb q0))]) X33856 (fun t k => XS.iload X33856.here hx rfl (hb hby d13_130) rfl k) ?_
  refine ost (mkF m 133 (Las2213_14 b21606 b5 q0) [(.int ((vs2213_100bb q0) + (vs2213_84b q0)))]) X33856 (fun t k => XS.iadd X33856.here hx rfl (hb hby d13_132) rfl k) ?_
  refine ost (mkF m 134 (Las2213_15 b21606 b5 q0) []) X33856 (fun t k => XS.istoreN X33856.here hx rfl (hb hby d13_133) rfl (l' := (Las2213_15 b21606 b5 q0)) rfl k) ?_
  refine ost (mkF m 137 (Las2213_16 b21606 b5 q0) []) X33856 (fun t k => XS.iinc X33856.here hx rfl (hb hby d13_134) rfl (l' := (Las2213_16 b21606 b5 q0)) rfl k) ?_
  refine ost (mkF m 47 (Las2213_16 b21606 b5 q0) []) X33856 (fun t k => XS.goto X33856.here hx rfl (pc0 := 137) (pc' := 47) rfl (hb hby d13_137) (by decide) (by decide) k) ?_
  refine ost (mkF m 49 (Las2213_16 b21606 b5 q0) [(.int (2 : Int32))]) X33856 (fun t k => XS.iload X33856.here hx rfl (hb hby d13_47) rfl k) ?_
  refine ost (mkF m 50 (Las2213_16 b21606 b5 q0) [(.ref b5), (.int (2 : Int32))]) X33856 (fun t k => XS.aloadN X33856.here hx rfl (hb hby d13_49) rfl rfl k) ?_
  have F33858 := (((F28768.keep K33848 (ninS ne_b5_b23626 nin0)).keep K33852 (ninS ne_b5_b23641 nin0)).keep K33856 (ninS ne_b5_b23662 nin0))
  have E33860 := (Exa.keep (Exa.keep (Exa.keep E28770 K33848) K33852) K33856)
  obtain ⟨_, T33857, L33857, X33857, ⟨rfl, N33857q, u33859⟩, st33857⟩ := own_callF X33856 hx hZ (xi := Y11) (y := Y12) (W := 1) (a := b5) (argsL := []) (rest := [(.int (2 : Int32))]) hown (hw _ (wm 92 rfl)) (hw _ (wm 93 rfl)) (hw _ (wm 94 rfl)) (hw _ (wm 95 rfl)) (hw _ (wm 96 rfl)) (hw _ (wm 97 rfl)) (hw _ (wm 98 rfl)) (hw _ (wm 99 rfl)) (by first | rfl | simp [Cond.onTables, Cond.keepsFace, Cond.keeps, Cond.steady]) (hw _ (wm 11 rfl)) (hw _ (wm 100 rfl)) (by decide) E33860 (rm14s23 l Z a0 hw [] b5 h33856 n0 Z33856 F33858) (by decide) (by decide) (by decide) (by decide) e33856 (g := (mkF m 50 (Las2213_16 b21606 b5 q0) [(.ref b5), (.int (2 : Int32))])) rfl (by rw [hml]; rfl) pd_8 rfl rfl (by show 2 * 0 + _ ≤ _; exact Nat.le_of_eq rfl) (hb hby d13_50)
  have N33857 := Fr.app N33856 N33857q
  refine ost (mkF m 55 (Las2213_16 b21606 b5 q0) [(.int (4 : Int32)), (.int (2 : Int32))]) X33857 (fun t k => st33857 _ k) ?_
  refine ost (mkF m 58 (Las2213_16 b21606 b5 q0) []) X33857 (fun t k => XS.icmpNo X33857.here hx rfl (hb hby d13_55) rfl (tlt (show (2 : Int32) < (4 : Int32) by first | rfl | decide)).2.1 k) ?_
  refine ost (mkF m 59 (Las2213_16 b21606 b5 q0) [(.ref b5)]) X33857 (fun t k => XS.aloadN X33857.here hx rfl (hb hby d13_58) rfl rfl k) ?_
  refine ost (mkF m 61 (Las2213_16 b21606 b5 q0) [(.int (2 : Int32)), (.ref b5)]) X33857 (fun t k => XS.iload X33857.here hx rfl (hb hby d13_59) rfl k) ?_
  have F37910 := (((F32820.keep K33848 (ninS ne_b5_b23626 nin0)).keep K33852 (ninS ne_b5_b23641 nin0)).keep K33856 (ninS ne_b5_b23662 nin0))
  have A37911 := (((A32821.keep K33848 (ninS ne_b9140_b23626 nin0)).keep K33852 (ninS ne_b9140_b23641 nin0)).keep K33856 (ninS ne_b9140_b23662 nin0))
  obtain ⟨_, T33861, L33861, X33861, ⟨rfl, N33861q, u37912⟩, st33861⟩ := own_callF X33857 hx hZ (xi := Y16) (y := Y17) (W := 0) (a := b5) (argsL := [(.int (2 : Int32))]) (rest := []) hown (hw _ (wm 109 rfl)) (hw _ (wm 110 rfl)) (hw _ (wm 111 rfl)) (hw _ (wm 112 rfl)) (hw _ (wm 113 rfl)) (hw _ (wm 114 rfl)) (hw _ (wm 115 rfl)) (hw _ (wm 99 rfl)) (by first | rfl | simp [Cond.onTables, Cond.keepsFace, Cond.keeps, Cond.steady]) (hw _ (wm 11 rfl)) (hw _ (wm 116 rfl)) (by decide) E33860 (rm15s34 l Z a0 hw [] b5 b3062 b9140 b9240 b13361 b17483 h33856 n0 Z33856 E33860 F37910 F33858 A37911) (by decide) (by decide) (by decide) (by decide) u33859 (g := (mkF m 61 (Las2213_16 b21606 b5 q0) [(.int (2 : Int32)), (.ref b5)])) rfl (by rw [hml]; rfl) pd_10 rfl rfl (by show 2 * 0 + _ ≤ _; exact Nat.le_of_eq rfl) (hb hby d13_61)
  have N33861 := Fr.app N33857 N33861q
  refine ost (mkF m 66 (Las2213_16 b21606 b5 q0) [(.ref b13361)]) X33861 (fun t k => st33861 _ k) ?_
  have E37914 := (Exa.keep (Exa.keep (Exa.keep (Exa.keep (Exa.keep (Exa.keep (Exa.keep (Exa.keep E23666 K23662) K23675) K28758) K28762) K28766) K33848) K33852) K33856)
  obtain ⟨T37913, X37913, e37913, st37913⟩ := castY X33861 hx hZ hown (hw _ (wm 130 rfl)) u37912 (Ins.of_exa E37914 (hw _ (wm 131 rfl))) (g := (mkF m 66 (Las2213_16 b21606 b5 q0) [(.ref b13361)])) rfl rfl (hb hby d13_66)
  refine ost (mkF m 69 (Las2213_16 b21606 b5 q0) [(.ref b13361)]) X37913 (fun t k => st37913 _ k) ?_
  have F38927 := ((((((((((((F_size_b13361.keep K23626 nin0).keep K23632 (ninS ne_b13361_b21606 nin0)).keep K23641 nin0).keep K23653 (ninS ne_b13361_b21606 nin0)).keep K23662 nin0).keep K23675 (ninS ne_b13361_b21606 nin0)).keep K28758 (ninS ne_b13361_b23626 nin0)).keep K28762 (ninS ne_b13361_b23641 nin0)).keep K28766 (ninS ne_b13361_b23662 nin0)).keep K33848 (ninS ne_b13361_b23626 nin0)).keep K33852 (ninS ne_b13361_b23641 nin0)).keep K33856 (ninS ne_b13361_b23662 nin0))
  obtain ⟨_, T37915, L37915, X37915, ⟨rfl, N37915q, u38928⟩, st37915⟩ := own_callV X37913 hx hZ (y := Y18) (W := 0) (a := b13361) (argsL := []) (rest := []) hown (hw _ (wm 132 rfl)) (hw _ (wm 133 rfl)) (hw _ (wm 135 rfl)) (hw _ (wm 134 rfl)) (hw _ (wm 37 rfl)) (hw _ (wm 136 rfl)) (by decide) E37914 (rm19s38 l Z a0 hw [] q1 b13361 h33856 n0 Z33856 F38927) (by decide) (by decide) (by decide) (by decide) e37913 (g := (mkF m 69 (Las2213_16 b21606 b5 q0) [(.ref b13361)])) rfl (by rw [hml]; rfl) pd_8 rfl rfl (by show 2 * 0 + _ ≤ _; exact Nat.le_of_eq rfl) (hb hby d13_69)
  have N37915 := Fr.app N33861 N37915q
  refine ost (mkF m 72 (Las2213_16 b21606 b5 q0) [(.int (v0_25 q1))]) X37915 (fun t k => st37915 _ k) ?_
  refine ost (mkF m 74 (Las2213_17 b21606 b5 q0 q1) []) X37915 (fun t k => XS.istore X37915.here hx rfl (hb hby d13_72) rfl (l' := (Las2213_17 b21606 b5 q0 q1)) rfl k) ?_
  refine ost (mkF m 76 (Las2213_17 b21606 b5 q0 q1) [(.int (32 : Int32))]) X37915 (fun t k => XS.bipush X37915.here hx rfl (hb hby d13_74) k) ?_
  refine ost (mkF m 78 (Las2213_17 b21606 b5 q0 q1) [(.int (v0_25 q1)), (.int (32 : Int32))]) X37915 (fun t k => XS.iload X37915.here hx rfl (hb hby d13_76) rfl k) ?_
  refine ost (mkF m 79 (Las2213_17 b21606 b5 q0 q1) [(.int (1 : Int32)), (.int (v0_25 q1)), (.int (32 : Int32))]) X37915 (fun t k => XS.iconst X37915.here hx rfl (hb hby d13_78) k) ?_
  refine ost (mkF m 80 (Las2213_17 b21606 b5 q0 q1) [(.int ((v0_25 q1) - (1 : Int32))), (.int (32 : Int32))]) X37915 (fun t k => XS.isub X37915.here hx rfl (hb hby d13_79) rfl k) ?_
  obtain ⟨_, T38929, L38929, X38929, ⟨rfl, f38929, N38929q⟩, st38929⟩ := own_callS X37915 hx hZ (y := Y19) (W := 1) (argsL := [(.int ((v0_25 q1) - (1 : Int32)))]) (rest := [(.int (32 : Int32))]) hown (hw _ (wm 137 rfl)) (hw _ (wm 138 rfl)) (hw _ (wm 139 rfl)) (hw _ (wm 140 rfl)) (by decide) (rm20 l Z a0 hw [] ((v0_25 q1) - (1 : Int32)) h33856 n0 Z33856) (by decide) (by decide) (by decide) (by decide) u38928 (g := (mkF m 80 (Las2213_17 b21606 b5 q0 q1) [(.int ((v0_25 q1) - (1 : Int32))), (.int (32 : Int32))])) rfl (by rw [hml]; rfl) pd_1 rfl rfl (by show 2 * 0 + _ ≤ _; exact Nat.le_of_eq rfl) (hb hby d13_80)
  have N38929 := Fr.app N37915 N38929q
  refine ost (mkF m 83 (Las2213_17 b21606 b5 q0 q1) [(.int (r20 ((v0_25 q1) - (1 : Int32)))), (.int (32 : Int32))]) X38929 (fun t k => st38929 _ k) ?_
  refine ost (mkF m 84 (Las2213_17 b21606 b5 q0 q1) [(.int ((32 : Int32) - (r20 ((v0_25 q1) - (1 : Int32)))))]) X38929 (fun t k => XS.isub X38929.here hx rfl (hb hby d13_83) rfl k) ?_
  refine ost (mkF m 86 (Las2213_18 b21606 b5 q0 q1) []) X38929 (fun t k => XS.istore X38929.here hx rfl (hb hby d13_84) rfl (l' := (Las2213_18 b21606 b5 q0 q1)) rfl k) ?_
  refine ost (mkF m 87 (Las2213_18 b21606 b5 q0 q1) [(.int (vs2213_133b q0))]) X38929 (fun t k => XS.iloadN X38929.here hx rfl (hb hby d13_86) rfl k) ?_
  refine ost (mkF m 89 (Las2213_18 b21606 b5 q0 q1) [(.int (vs2213_84bb q1)), (.int (vs2213_133b q0))]) X38929 (fun t k => XS.iload X38929.here hx rfl (hb hby d13_87) rfl k) ?_
  refine ost (mkF m 90 (Las2213_18 b21606 b5 q0 q1) [(.int ((vs2213_133b q0) + (vs2213_84bb q1)))]) X38929 (fun t k => XS.iadd X38929.here hx rfl (hb hby d13_89) rfl k) ?_
  refine ost (mkF m 92 (Las2213_18 b21606 b5 q0 q1) [(.int (64 : Int32)), (.int ((vs2213_133b q0) + (vs2213_84bb q1)))]) X38929 (fun t k => XS.bipush X38929.here hx rfl (hb hby d13_90) k) ?_
  refine ost (mkF m 100 #[.val (.ref b21606), .val (.ref b5), .val (.int (vs2213_100bbb q0 q1)), .val (.int (vs2213_100bbbb q0 q1)), .val (.int (2 : Int32)), .val (.int (v0_25 q1)), .val (.int (vs2213_84bb q1))] []) X38929 (fun t k => ?_) ?_
  · show Steps p.tables e below (T38929.setTop (mkF m 92 (Las2213_18 b21606 b5 q0 q1) [(.int (64 : Int32)), (.int ((vs2213_133b q0) + (vs2213_84bb q1)))])) t
    by_cases hc38930 : (64 : Int32) < ((vs2213_133b q0) + (vs2213_84bb q1))
    · skip
      refine XS.icmpNo X38929.here hx rfl (hb hby d13_92) rfl (tlt hc38930).2.2.2 ?_
      show Steps p.tables e below (T38929.setTop (mkF m 95 (Las2213_18 b21606 b5 q0 q1) [])) t
      refine XS.iinc X38929.here hx rfl (hb hby d13_95) rfl (l' := (Las2213_19 b21606 b5 q0 q1)) rfl ?_
      show Steps p.tables e below (T38929.setTop (mkF m 98 (Las2213_19 b21606 b5 q0 q1) [])) t
      refine XS.iconst X38929.here hx rfl (hb hby d13_98) ?_
      show Steps p.tables e below (T38929.setTop (mkF m 99 (Las2213_19 b21606 b5 q0 q1) [(.int (0 : Int32))])) t
      refine XS.istoreN X38929.here hx rfl (hb hby d13_99) rfl (l' := (Las2213_20 b21606 b5 q0 q1)) rfl ?_
      show Steps p.tables e below (T38929.setTop (mkF m 100 (Las2213_20 b21606 b5 q0 q1) [])) t
      have qq38931 : (vs2213_100bbb q0 q1) = ((vs2213_100b q0) + (1 : Int32)) := by
        show (if (64 : Int32) < ((vs2213_133b q0) + (vs2213_84bb q1)) then ((vs2213_100b q0) + (1 : Int32)) else (vs2213_100b q0)) = ((vs2213_100b q0) + (1 : Int32))
        simp only [if_pos hc38930]
      have qq38932 : (vs2213_100bbbb q0 q1) = (0 : Int32) := by
        show (if (64 : Int32) < ((vs2213_133b q0) + (vs2213_84bb q1)) then (0 : Int32) else (vs2213_133b q0)) = (0 : Int32)
        simp only [if_pos hc38930]
      rw [qq38931, qq38932] at k
      exact k
    · skip
      refine XS.icmpYes X38929.here hx rfl (pc0 := 92) (pc' := 100) rfl (hb hby d13_92) rfl (flt hc38930).2.2.2 (by decide) (by decide) ?_
      show Steps p.tables e below (T38929.setTop (mkF m 100 (Las2213_18 b21606 b5 q0 q1) [])) t
      have qq38933 : (vs2213_100bbb q0 q1) = (vs2213_100b q0) := by
        show (if (64 : Int32) < ((vs2213_133b q0) + (vs2213_84bb q1)) then ((vs2213_100b q0) + (1 : Int32)) else (vs2213_100b q0)) = (vs2213_100b q0)
        simp only [if_neg hc38930]
      have qq38934 : (vs2213_100bbbb q0 q1) = (vs2213_133b q0) := by
        show (if (64 : Int32) < ((vs2213_133b q0) + (vs2213_84bb q1)) then (0 : Int32) else (vs2213_133b q0)) = (vs2213_133b q0)
        simp only [if_neg hc38930]
      rw [qq38933, qq38934] at k
      exact k
  refine ost (mkF m 101 (Las2213_21 b21606 b5 q0 q1) [(.ref b21606)]) X38929 (fun t k => XS.aloadN X38929.here hx rfl (hb hby d13_100) rfl rfl k) ?_
  have F38935 := (((F33845.keep K33848 (ninS ne_b21606_b23626 nin0)).keep K33852 (ninS ne_b21606_b23641 nin0)).keep K33856 (ninS ne_b21606_b23662 nin0))
  obtain ⟨T38936, X38936, e38936, st38936⟩ := getF X38929 hx hZ hown (host := "") (Or.inl (hw _ (wm 102 rfl))) Via.refl f38929 F38935 (g := (mkF m 101 (Las2213_21 b21606 b5 q0 q1) [(.ref b21606)])) rfl rfl (hb hby d13_101)
  refine ost (mkF m 104 (Las2213_21 b21606 b5 q0 q1) [(.ref b23626)]) X38936 (fun t k => st38936 _ k) ?_
  refine ost (mkF m 106 (Las2213_21 b21606 b5 q0 q1) [(.int (2 : Int32)), (.ref b23626)]) X38936 (fun t k => XS.iload X38936.here hx rfl (hb hby d13_104) rfl k) ?_
  refine ost (mkF m 107 (Las2213_21 b21606 b5 q0 q1) [(.int (vs2213_100bbb q0 q1)), (.int (2 : Int32)), (.ref b23626)]) X38936 (fun t k => XS.iloadN X38936.here hx rfl (hb hby d13_106) rfl k) ?_
  have A38937 := ((B33848.keep K33852 (ninS ne_b23626_b23641 nin0)).keep K33856 (ninS ne_b23626_b23662 nin0))
  obtain ⟨T38938, h38938, L38938, X38938, e38938, N38938, K38938, A38938, st38938⟩ := own_stI X38936 hx hZ e38936 N38929 (G := (Gs2213_107b q0)) A38937 g_b23626 (j := (2 : Int32)) (x := (vs2213_100bbb q0 q1)) (by decide) (g := (mkF m 107 (Las2213_21 b21606 b5 q0 q1) [(.int (vs2213_100bbb q0 q1)), (.int (2 : Int32)), (.ref b23626)])) rfl rfl (hb hby d13_107)
  have B38938 : Ary Z h38938 b23626 .int 4 (fun i => .int ((Gs2213_107bb q0 q1) i)) := A38938
  have Z38938 := Nat.le_trans Z33856 K38938.1
  have S38938 := Nat.le_trans S33856 K38938.1
  refine ost (mkF m 108 (Las2213_21 b21606 b5 q0 q1) []) X38938 (fun t k => st38938 _ k) ?_
  refine ost (mkF m 109 (Las2213_21 b21606 b5 q0 q1) [(.ref b21606)]) X38938 (fun t k => XS.aloadN X38938.here hx rfl (hb hby d13_108) rfl rfl k) ?_
  have F38939 := (((F33849.keep K33852 (ninS ne_b21606_b23641 nin0)).keep K33856 (ninS ne_b21606_b23662 nin0)).keep K38938 (ninS ne_b21606_b23626 nin0))
  obtain ⟨T38940, X38940, e38940, st38940⟩ := getF X38938 hx hZ hown (host := "") (Or.inl (hw _ (wm 104 rfl))) Via.refl e38938 F38939 (g := (mkF m 109 (Las2213_21 b21606 b5 q0 q1) [(.ref b21606)])) rfl rfl (hb hby d13_109)
  refine ost (mkF m 112 (Las2213_21 b21606 b5 q0 q1) [(.ref b23641)]) X38940 (fun t k => st38940 _ k) ?_
  refine ost (mkF m 114 (Las2213_21 b21606 b5 q0 q1) [(.int (2 : Int32)), (.ref b23641)]) X38940 (fun t k => XS.iload X38940.here hx rfl (hb hby d13_112) rfl k) ?_
  refine ost (mkF m 115 (Las2213_21 b21606 b5 q0 q1) [(.int (vs2213_100bbbb q0 q1)), (.int (2 : Int32)), (.ref b23641)]) X38940 (fun t k => XS.iloadN X38940.here hx rfl (hb hby d13_114) rfl k) ?_
  have A38941 := ((B33852.keep K33856 (ninS ne_b23641_b23662 nin0)).keep K38938 (ninS (Ne.symm ne_b23626_b23641) nin0))
  obtain ⟨T38942, h38942, L38942, X38942, e38942, N38942, K38942, A38942, st38942⟩ := own_stI X38940 hx hZ e38940 N38938 (G := (Gs2213_115b q0)) A38941 g_b23641 (j := (2 : Int32)) (x := (vs2213_100bbbb q0 q1)) (by decide) (g := (mkF m 115 (Las2213_21 b21606 b5 q0 q1) [(.int (vs2213_100bbbb q0 q1)), (.int (2 : Int32)), (.ref b23641)])) rfl rfl (hb hby d13_115)
  have B38942 : Ary Z h38942 b23641 .int 4 (fun i => .int ((Gs2213_115bb q0 q1) i)) := A38942
  have Z38942 := Nat.le_trans Z38938 K38942.1
  have S38942 := Nat.le_trans S38938 K38942.1
  refine ost (mkF m 116 (Las2213_21 b21606 b5 q0 q1) []) X38942 (fun t k => st38942 _ k) ?_
  refine ost (mkF m 117 (Las2213_21 b21606 b5 q0 q1) [(.ref b21606)]) X38942 (fun t k => XS.aloadN X38942.here hx rfl (hb hby d13_116) rfl rfl k) ?_
  have F38943 := (((F33853.keep K33856 (ninS ne_b21606_b23662 nin0)).keep K38938 (ninS ne_b21606_b23626 nin0)).keep K38942 (ninS ne_b21606_b23641 nin0))
  obtain ⟨T38944, X38944, e38944, st38944⟩ := getF X38942 hx hZ hown (host := "") (Or.inl (hw _ (wm 107 rfl))) Via.refl e38942 F38943 (g := (mkF m 117 (Las2213_21 b21606 b5 q0 q1) [(.ref b21606)])) rfl rfl (hb hby d13_117)
  refine ost (mkF m 120 (Las2213_21 b21606 b5 q0 q1) [(.ref b23662)]) X38944 (fun t k => st38944 _ k) ?_
  refine ost (mkF m 122 (Las2213_21 b21606 b5 q0 q1) [(.int (2 : Int32)), (.ref b23662)]) X38944 (fun t k => XS.iload X38944.here hx rfl (hb hby d13_120) rfl k) ?_
  refine ost (mkF m 123 (Las2213_21 b21606 b5 q0 q1) [(.long (1 : Int64)), (.int (2 : Int32)), (.ref b23662)]) X38944 (fun t k => XT.lconst X38944.here hx rfl (hb hby d13_122) k) ?_
  refine ost (mkF m 125 (Las2213_21 b21606 b5 q0 q1) [(.int (vs2213_84bb q1)), (.long (1 : Int64)), (.int (2 : Int32)), (.ref b23662)]) X38944 (fun t k => XS.iload X38944.here hx rfl (hb hby d13_123) rfl k) ?_
  refine ost (mkF m 126 (Las2213_21 b21606 b5 q0 q1) [(.long ((1 : Int64) <<< ((vs2213_84bb q1).toInt64 &&& 63))), (.int (2 : Int32)), (.ref b23662)]) X38944 (fun t k => XT.lshl X38944.here hx rfl (hb hby d13_125) rfl k) ?_
  refine ost (mkF m 127 (Las2213_21 b21606 b5 q0 q1) [(.long (1 : Int64)), (.long ((1 : Int64) <<< ((vs2213_84bb q1).toInt64 &&& 63))), (.int (2 : Int32)), (.ref b23662)]) X38944 (fun t k => XT.lconst X38944.here hx rfl (hb hby d13_126) k) ?_
  refine ost (mkF m 128 (Las2213_21 b21606 b5 q0 q1) [(.long (((1 : Int64) <<< ((vs2213_84bb q1).toInt64 &&& 63)) - (1 : Int64))), (.int (2 : Int32)), (.ref b23662)]) X38944 (fun t k => XT.lsub X38944.here hx rfl (hb hby d13_127) rfl k) ?_
  have A38945 := ((B33856.keep K38938 (ninS (Ne.symm ne_b23626_b23662) nin0)).keep K38942 (ninS (Ne.symm ne_b23641_b23662) nin0))
  obtain ⟨T38946, h38946, L38946, X38946, e38946, N38946, K38946, A38946, st38946⟩ := own_stJ X38944 hx hZ e38944 N38942 (G := (Gs2213_128b q0)) A38945 g_b23662 (j := (2 : Int32)) (x := (((1 : Int64) <<< ((vs2213_84bb q1).toInt64 &&& 63)) - (1 : Int64))) (by decide) (g := (mkF m 128 (Las2213_21 b21606 b5 q0 q1) [(.long (((1 : Int64) <<< ((vs2213_84bb q1).toInt64 &&& 63)) - (1 : Int64))), (.int (2 : Int32)), (.ref b23662)])) rfl rfl (hb hby d13_128)
  have B38946 : Ary Z h38946 b23662 .long 4 (fun i => .long ((Gs2213_128bb q0 q1) i)) := A38946
  have Z38946 := Nat.le_trans Z38942 K38946.1
  have S38946 := Nat.le_trans S38942 K38946.1
  refine ost (mkF m 129 (Las2213_21 b21606 b5 q0 q1) []) X38946 (fun t k => st38946 _ k) ?_
  refine ost (mkF m 130 (Las2213_21 b21606 b5 q0 q1) [(.int (vs2213_100bbbb q0 q1))]) X38946 (fun t k => XS.iloadN X38946.here hx rfl (hb hby d13_129) rfl k) ?_
  refine ost (mkF m 132 (Las2213_21 b21606 b5 q0 q1) [(.int (vs2213_84bb q1)), (.int (vs2213_100bbbb q0 q1))]) X38946 (fun t k => XS.iload X38946.here hx rfl (hb hby d13_130) rfl k) ?_
  refine ost (mkF m 133 (Las2213_21 b21606 b5 q0 q1) [(.int ((vs2213_100bbbb q0 q1) + (vs2213_84bb q1)))]) X38946 (fun t k => XS.iadd X38946.here hx rfl (hb hby d13_132) rfl k) ?_
  refine ost (mkF m 134 (Las2213_22 b21606 b5 q0 q1) []) X38946 (fun t k => XS.istoreN X38946.here hx rfl (hb hby d13_133) rfl (l' := (Las2213_22 b21606 b5 q0 q1)) rfl k) ?_
  refine ost (mkF m 137 (Las2213_23 b21606 b5 q0 q1) []) X38946 (fun t k => XS.iinc X38946.here hx rfl (hb hby d13_134) rfl (l' := (Las2213_23 b21606 b5 q0 q1)) rfl k) ?_
  refine ost (mkF m 47 (Las2213_23 b21606 b5 q0 q1) []) X38946 (fun t k => XS.goto X38946.here hx rfl (pc0 := 137) (pc' := 47) rfl (hb hby d13_137) (by decide) (by decide) k) ?_
  refine ost (mkF m 49 (Las2213_23 b21606 b5 q0 q1) [(.int (3 : Int32))]) X38946 (fun t k => XS.iload X38946.here hx rfl (hb hby d13_47) rfl k) ?_
  refine ost (mkF m 50 (Las2213_23 b21606 b5 q0 q1) [(.ref b5), (.int (3 : Int32))]) X38946 (fun t k => XS.aloadN X38946.here hx rfl (hb hby d13_49) rfl rfl k) ?_
  have F38948 := (((F33858.keep K38938 (ninS ne_b5_b23626 nin0)).keep K38942 (ninS ne_b5_b23641 nin0)).keep K38946 (ninS ne_b5_b23662 nin0))
  have E38950 := (Exa.keep (Exa.keep (Exa.keep E33860 K38938) K38942) K38946)
  obtain ⟨_, T38947, L38947, X38947, ⟨rfl, N38947q, u38949⟩, st38947⟩ := own_callF X38946 hx hZ (xi := Y11) (y := Y12) (W := 1) (a := b5) (argsL := []) (rest := [(.int (3 : Int32))]) hown (hw _ (wm 92 rfl)) (hw _ (wm 93 rfl)) (hw _ (wm 94 rfl)) (hw _ (wm 95 rfl)) (hw _ (wm 96 rfl)) (hw _ (wm 97 rfl)) (hw _ (wm 98 rfl)) (hw _ (wm 99 rfl)) (by first | rfl | simp [Cond.onTables, Cond.keepsFace, Cond.keeps, Cond.steady]) (hw _ (wm 11 rfl)) (hw _ (wm 100 rfl)) (by decide) E38950 (rm14s23 l Z a0 hw [] b5 h38946 n0 Z38946 F38948) (by decide) (by decide) (by decide) (by decide) e38946 (g := (mkF m 50 (Las2213_23 b21606 b5 q0 q1) [(.ref b5), (.int (3 : Int32))])) rfl (by rw [hml]; rfl) pd_8 rfl rfl (by show 2 * 0 + _ ≤ _; exact Nat.le_of_eq rfl) (hb hby d13_50)
  have N38947 := Fr.app N38946 N38947q
  refine ost (mkF m 55 (Las2213_23 b21606 b5 q0 q1) [(.int (4 : Int32)), (.int (3 : Int32))]) X38947 (fun t k => st38947 _ k) ?_
  refine ost (mkF m 58 (Las2213_23 b21606 b5 q0 q1) []) X38947 (fun t k => XS.icmpNo X38947.here hx rfl (hb hby d13_55) rfl (tlt (show (3 : Int32) < (4 : Int32) by first | rfl | decide)).2.1 k) ?_
  refine ost (mkF m 59 (Las2213_23 b21606 b5 q0 q1) [(.ref b5)]) X38947 (fun t k => XS.aloadN X38947.here hx rfl (hb hby d13_58) rfl rfl k) ?_
  refine ost (mkF m 61 (Las2213_23 b21606 b5 q0 q1) [(.int (3 : Int32)), (.ref b5)]) X38947 (fun t k => XS.iload X38947.here hx rfl (hb hby d13_59) rfl k) ?_
  have F43000 := (((F37910.keep K38938 (ninS ne_b5_b23626 nin0)).keep K38942 (ninS ne_b5_b23641 nin0)).keep K38946 (ninS ne_b5_b23662 nin0))
  have A43001 := (((A37911.keep K38938 (ninS ne_b9140_b23626 nin0)).keep K38942 (ninS ne_b9140_b23641 nin0)).keep K38946 (ninS ne_b9140_b23662 nin0))
  obtain ⟨_, T38951, L38951, X38951, ⟨rfl, N38951q, u43002⟩, st38951⟩ := own_callF X38947 hx hZ (xi := Y16) (y := Y17) (W := 0) (a := b5) (argsL := [(.int (3 : Int32))]) (rest := []) hown (hw _ (wm 109 rfl)) (hw _ (wm 110 rfl)) (hw _ (wm 111 rfl)) (hw _ (wm 112 rfl)) (hw _ (wm 113 rfl)) (hw _ (wm 114 rfl)) (hw _ (wm 115 rfl)) (hw _ (wm 99 rfl)) (by first | rfl | simp [Cond.onTables, Cond.keepsFace, Cond.keeps, Cond.steady]) (hw _ (wm 11 rfl)) (hw _ (wm 116 rfl)) (by decide) E38950 (rm15s39 l Z a0 hw [] b5 b3062 b9140 b9240 b13361 b17483 h38946 n0 Z38946 E38950 F43000 F38948 A43001) (by decide) (by decide) (by decide) (by decide) u38949 (g := (mkF m 61 (Las2213_23 b21606 b5 q0 q1) [(.int (3 : Int32)), (.ref b5)])) rfl (by rw [hml]; rfl) pd_10 rfl rfl (by show 2 * 0 + _ ≤ _; exact Nat.le_of_eq rfl) (hb hby d13_61)
  have N38951 := Fr.app N38947 N38951q
  refine ost (mkF m 66 (Las2213_23 b21606 b5 q0 q1) [(.ref b17483)]) X38951 (fun t k => st38951 _ k) ?_
  have E43004 := (Exa.keep (Exa.keep (Exa.keep (Exa.keep (Exa.keep (Exa.keep (Exa.keep (Exa.keep (Exa.keep (Exa.keep (Exa.keep E23667 K23662) K23675) K28758) K28762) K28766) K33848) K33852) K33856) K38938) K38942) K38946)
  obtain ⟨T43003, X43003, e43003, st43003⟩ := castY X38951 hx hZ hown (hw _ (wm 130 rfl)) u43002 (Ins.of_exa E43004 (hw _ (wm 131 rfl))) (g := (mkF m 66 (Las2213_23 b21606 b5 q0 q1) [(.ref b17483)])) rfl rfl (hb hby d13_66)
  refine ost (mkF m 69 (Las2213_23 b21606 b5 q0 q1) [(.ref b17483)]) X43003 (fun t k => st43003 _ k) ?_
  have F44017 := (((((((((((((((F_size_b17483.keep K23626 nin0).keep K23632 (ninS ne_b17483_b21606 nin0)).keep K23641 nin0).keep K23653 (ninS ne_b17483_b21606 nin0)).keep K23662 nin0).keep K23675 (ninS ne_b17483_b21606 nin0)).keep K28758 (ninS ne_b17483_b23626 nin0)).keep K28762 (ninS ne_b17483_b23641 nin0)).keep K28766 (ninS ne_b17483_b23662 nin0)).keep K33848 (ninS ne_b17483_b23626 nin0)).keep K33852 (ninS ne_b17483_b23641 nin0)).keep K33856 (ninS ne_b17483_b23662 nin0)).keep K38938 (ninS ne_b17483_b23626 nin0)).keep K38942 (ninS ne_b17483_b23641 nin0)).keep K38946 (ninS ne_b17483_b23662 nin0))
  obtain ⟨_, T43005, L43005, X43005, ⟨rfl, N43005q, u44018⟩, st43005⟩ := own_callV X43003 hx hZ (y := Y18) (W := 0) (a := b17483) (argsL := []) (rest := []) hown (hw _ (wm 132 rfl)) (hw _ (wm 133 rfl)) (hw _ (wm 135 rfl)) (hw _ (wm 134 rfl)) (hw _ (wm 37 rfl)) (hw _ (wm 136 rfl)) (by decide) E43004 (rm19s43 l Z a0 hw [] q1 b17483 h38946 n0 Z38946 F44017) (by decide) (by decide) (by decide) (by decide) e43003 (g := (mkF m 69 (Las2213_23 b21606 b5 q0 q1) [(.ref b17483)])) rfl (by rw [hml]; rfl) pd_8 rfl rfl (by show 2 * 0 + _ ≤ _; exact Nat.le_of_eq rfl) (hb hby d13_69)
  have N43005 := Fr.app N38951 N43005q
  refine ost (mkF m 72 (Las2213_23 b21606 b5 q0 q1) [(.int (v0_32 q1))]) X43005 (fun t k => st43005 _ k) ?_
  refine ost (mkF m 74 (Las2213_24 b21606 b5 q0 q1) []) X43005 (fun t k => XS.istore X43005.here hx rfl (hb hby d13_72) rfl (l' := (Las2213_24 b21606 b5 q0 q1)) rfl k) ?_
  refine ost (mkF m 76 (Las2213_24 b21606 b5 q0 q1) [(.int (32 : Int32))]) X43005 (fun t k => XS.bipush X43005.here hx rfl (hb hby d13_74) k) ?_
  refine ost (mkF m 78 (Las2213_24 b21606 b5 q0 q1) [(.int (v0_32 q1)), (.int (32 : Int32))]) X43005 (fun t k => XS.iload X43005.here hx rfl (hb hby d13_76) rfl k) ?_
  refine ost (mkF m 79 (Las2213_24 b21606 b5 q0 q1) [(.int (1 : Int32)), (.int (v0_32 q1)), (.int (32 : Int32))]) X43005 (fun t k => XS.iconst X43005.here hx rfl (hb hby d13_78) k) ?_
  refine ost (mkF m 80 (Las2213_24 b21606 b5 q0 q1) [(.int ((v0_32 q1) - (1 : Int32))), (.int (32 : Int32))]) X43005 (fun t k => XS.isub X43005.here hx rfl (hb hby d13_79) rfl k) ?_
  obtain ⟨_, T44019, L44019, X44019, ⟨rfl, f44019, N44019q⟩, st44019⟩ := own_callS X43005 hx hZ (y := Y19) (W := 1) (argsL := [(.int ((v0_32 q1) - (1 : Int32)))]) (rest := [(.int (32 : Int32))]) hown (hw _ (wm 137 rfl)) (hw _ (wm 138 rfl)) (hw _ (wm 139 rfl)) (hw _ (wm 140 rfl)) (by decide) (rm20 l Z a0 hw [] ((v0_32 q1) - (1 : Int32)) h38946 n0 Z38946) (by decide) (by decide) (by decide) (by decide) u44018 (g := (mkF m 80 (Las2213_24 b21606 b5 q0 q1) [(.int ((v0_32 q1) - (1 : Int32))), (.int (32 : Int32))])) rfl (by rw [hml]; rfl) pd_1 rfl rfl (by show 2 * 0 + _ ≤ _; exact Nat.le_of_eq rfl) (hb hby d13_80)
  have N44019 := Fr.app N43005 N44019q
  refine ost (mkF m 83 (Las2213_24 b21606 b5 q0 q1) [(.int (r20 ((v0_32 q1) - (1 : Int32)))), (.int (32 : Int32))]) X44019 (fun t k => st44019 _ k) ?_
  refine ost (mkF m 84 (Las2213_24 b21606 b5 q0 q1) [(.int ((32 : Int32) - (r20 ((v0_32 q1) - (1 : Int32)))))]) X44019 (fun t k => XS.isub X44019.here hx rfl (hb hby d13_83) rfl k) ?_
  refine ost (mkF m 86 (Las2213_25 b21606 b5 q0 q1) []) X44019 (fun t k => XS.istore X44019.here hx rfl (hb hby d13_84) rfl (l' := (Las2213_25 b21606 b5 q0 q1)) rfl k) ?_
  refine ost (mkF m 87 (Las2213_25 b21606 b5 q0 q1) [(.int (vs2213_133bb q0 q1))]) X44019 (fun t k => XS.iloadN X44019.here hx rfl (hb hby d13_86) rfl k) ?_
  refine ost (mkF m 89 (Las2213_25 b21606 b5 q0 q1) [(.int (vs2213_84bbb q1)), (.int (vs2213_133bb q0 q1))]) X44019 (fun t k => XS.iload X44019.here hx rfl (hb hby d13_87) rfl k) ?_
  refine ost (mkF m 90 (Las2213_25 b21606 b5 q0 q1) [(.int ((vs2213_133bb q0 q1) + (vs2213_84bbb q1)))]) X44019 (fun t k => XS.iadd X44019.here hx rfl (hb hby d13_89) rfl k) ?_
  refine ost (mkF m 92 (Las2213_25 b21606 b5 q0 q1) [(.int (64 : Int32)), (.int ((vs2213_133bb q0 q1) + (vs2213_84bbb q1)))]) X44019 (fun t k => XS.bipush X44019.here hx rfl (hb hby d13_90) k) ?_
  refine ost (mkF m 100 #[.val (.ref b21606), .val (.ref b5), .val (.int (vs2213_100bbbbb q0 q1)), .val (.int (vs2213_100bbbbbb q0 q1)), .val (.int (3 : Int32)), .val (.int (v0_32 q1)), .val (.int (vs2213_84bbb q1))] []) X44019 (fun t k => ?_) ?_
  · show Steps p.tables e below (T44019.setTop (mkF m 92 (Las2213_25 b21606 b5 q0 q1) [(.int (64 : Int32)), (.int ((vs2213_133bb q0 q1) + (vs2213_84bbb q1)))])) t
    by_cases hc44020 : (64 : Int32) < ((vs2213_133bb q0 q1) + (vs2213_84bbb q1))
    · skip
      refine XS.icmpNo X44019.here hx rfl (hb hby d13_92) rfl (tlt hc44020).2.2.2 ?_
      show Steps p.tables e below (T44019.setTop (mkF m 95 (Las2213_25 b21606 b5 q0 q1) [])) t
      refine XS.iinc X44019.here hx rfl (hb hby d13_95) rfl (l' := (Las2213_26 b21606 b5 q0 q1)) rfl ?_
      show Steps p.tables e below (T44019.setTop (mkF m 98 (Las2213_26 b21606 b5 q0 q1) [])) t
      refine XS.iconst X44019.here hx rfl (hb hby d13_98) ?_
      show Steps p.tables e below (T44019.setTop (mkF m 99 (Las2213_26 b21606 b5 q0 q1) [(.int (0 : Int32))])) t
      refine XS.istoreN X44019.here hx rfl (hb hby d13_99) rfl (l' := (Las2213_27 b21606 b5 q0 q1)) rfl ?_
      show Steps p.tables e below (T44019.setTop (mkF m 100 (Las2213_27 b21606 b5 q0 q1) [])) t
      have qq44021 : (vs2213_100bbbbb q0 q1) = ((vs2213_100bbb q0 q1) + (1 : Int32)) := by
        show (if (64 : Int32) < ((vs2213_133bb q0 q1) + (vs2213_84bbb q1)) then ((vs2213_100bbb q0 q1) + (1 : Int32)) else (vs2213_100bbb q0 q1)) = ((vs2213_100bbb q0 q1) + (1 : Int32))
        simp only [if_pos hc44020]
      have qq44022 : (vs2213_100bbbbbb q0 q1) = (0 : Int32) := by
        show (if (64 : Int32) < ((vs2213_133bb q0 q1) + (vs2213_84bbb q1)) then (0 : Int32) else (vs2213_133bb q0 q1)) = (0 : Int32)
        simp only [if_pos hc44020]
      rw [qq44021, qq44022] at k
      exact k
    · skip
      refine XS.icmpYes X44019.here hx rfl (pc0 := 92) (pc' := 100) rfl (hb hby d13_92) rfl (flt hc44020).2.2.2 (by decide) (by decide) ?_
      show Steps p.tables e below (T44019.setTop (mkF m 100 (Las2213_25 b21606 b5 q0 q1) [])) t
      have qq44023 : (vs2213_100bbbbb q0 q1) = (vs2213_100bbb q0 q1) := by
        show (if (64 : Int32) < ((vs2213_133bb q0 q1) + (vs2213_84bbb q1)) then ((vs2213_100bbb q0 q1) + (1 : Int32)) else (vs2213_100bbb q0 q1)) = (vs2213_100bbb q0 q1)
        simp only [if_neg hc44020]
      have qq44024 : (vs2213_100bbbbbb q0 q1) = (vs2213_133bb q0 q1) := by
        show (if (64 : Int32) < ((vs2213_133bb q0 q1) + (vs2213_84bbb q1)) then (0 : Int32) else (vs2213_133bb q0 q1)) = (vs2213_133bb q0 q1)
        simp only [if_neg hc44020]
      rw [qq44023, qq44024] at k
      exact k
  refine ost (mkF m 101 (Las2213_28 b21606 b5 q0 q1) [(.ref b21606)]) X44019 (fun t k => XS.aloadN X44019.here hx rfl (hb hby d13_100) rfl rfl k) ?_
  have F44025 := (((F38935.keep K38938 (ninS ne_b21606_b23626 nin0)).keep K38942 (ninS ne_b21606_b23641 nin0)).keep K38946 (ninS ne_b21606_b23662 nin0))
  obtain ⟨T44026, X44026, e44026, st44026⟩ := getF X44019 hx hZ hown (host := "") (Or.inl (hw _ (wm 102 rfl))) Via.refl f44019 F44025 (g := (mkF m 101 (Las2213_28 b21606 b5 q0 q1) [(.ref b21606)])) rfl rfl (hb hby d13_101)
  refine ost (mkF m 104 (Las2213_28 b21606 b5 q0 q1) [(.ref b23626)]) X44026 (fun t k => st44026 _ k) ?_
  refine ost (mkF m 106 (Las2213_28 b21606 b5 q0 q1) [(.int (3 : Int32)), (.ref b23626)]) X44026 (fun t k => XS.iload X44026.here hx rfl (hb hby d13_104) rfl k) ?_
  refine ost (mkF m 107 (Las2213_28 b21606 b5 q0 q1) [(.int (vs2213_100bbbbb q0 q1)), (.int (3 : Int32)), (.ref b23626)]) X44026 (fun t k => XS.iloadN X44026.here hx rfl (hb hby d13_106) rfl k) ?_
  have A44027 := ((B38938.keep K38942 (ninS ne_b23626_b23641 nin0)).keep K38946 (ninS ne_b23626_b23662 nin0))
  obtain ⟨T44028, h44028, L44028, X44028, e44028, N44028, K44028, A44028, st44028⟩ := own_stI X44026 hx hZ e44026 N44019 (G := (Gs2213_107bb q0 q1)) A44027 g_b23626 (j := (3 : Int32)) (x := (vs2213_100bbbbb q0 q1)) (by decide) (g := (mkF m 107 (Las2213_28 b21606 b5 q0 q1) [(.int (vs2213_100bbbbb q0 q1)), (.int (3 : Int32)), (.ref b23626)])) rfl rfl (hb hby d13_107)
  have B44028 : Ary Z h44028 b23626 .int 4 (fun i => .int ((Gs2213_107bbb q0 q1) i)) := A44028
  have Z44028 := Nat.le_trans Z38946 K44028.1
  have S44028 := Nat.le_trans S38946 K44028.1
  refine ost (mkF m 108 (Las2213_28 b21606 b5 q0 q1) []) X44028 (fun t k => st44028 _ k) ?_
  refine ost (mkF m 109 (Las2213_28 b21606 b5 q0 q1) [(.ref b21606)]) X44028 (fun t k => XS.aloadN X44028.here hx rfl (hb hby d13_108) rfl rfl k) ?_
  have F44029 := (((F38939.keep K38942 (ninS ne_b21606_b23641 nin0)).keep K38946 (ninS ne_b21606_b23662 nin0)).keep K44028 (ninS ne_b21606_b23626 nin0))
  obtain ⟨T44030, X44030, e44030, st44030⟩ := getF X44028 hx hZ hown (host := "") (Or.inl (hw _ (wm 104 rfl))) Via.refl e44028 F44029 (g := (mkF m 109 (Las2213_28 b21606 b5 q0 q1) [(.ref b21606)])) rfl rfl (hb hby d13_109)
  refine ost (mkF m 112 (Las2213_28 b21606 b5 q0 q1) [(.ref b23641)]) X44030 (fun t k => st44030 _ k) ?_
  refine ost (mkF m 114 (Las2213_28 b21606 b5 q0 q1) [(.int (3 : Int32)), (.ref b23641)]) X44030 (fun t k => XS.iload X44030.here hx rfl (hb hby d13_112) rfl k) ?_
  refine ost (mkF m 115 (Las2213_28 b21606 b5 q0 q1) [(.int (vs2213_100bbbbbb q0 q1)), (.int (3 : Int32)), (.ref b23641)]) X44030 (fun t k => XS.iloadN X44030.here hx rfl (hb hby d13_114) rfl k) ?_
  have A44031 := ((B38942.keep K38946 (ninS ne_b23641_b23662 nin0)).keep K44028 (ninS (Ne.symm ne_b23626_b23641) nin0))
  obtain ⟨T44032, h44032, L44032, X44032, e44032, N44032, K44032, A44032, st44032⟩ := own_stI X44030 hx hZ e44030 N44028 (G := (Gs2213_115bb q0 q1)) A44031 g_b23641 (j := (3 : Int32)) (x := (vs2213_100bbbbbb q0 q1)) (by decide) (g := (mkF m 115 (Las2213_28 b21606 b5 q0 q1) [(.int (vs2213_100bbbbbb q0 q1)), (.int (3 : Int32)), (.ref b23641)])) rfl rfl (hb hby d13_115)
  have B44032 : Ary Z h44032 b23641 .int 4 (fun i => .int ((Gs2213_115bbb q0 q1) i)) := A44032
  have Z44032 := Nat.le_trans Z44028 K44032.1
  have S44032 := Nat.le_trans S44028 K44032.1
  refine ost (mkF m 116 (Las2213_28 b21606 b5 q0 q1) []) X44032 (fun t k => st44032 _ k) ?_
  refine ost (mkF m 117 (Las2213_28 b21606 b5 q0 q1) [(.ref b21606)]) X44032 (fun t k => XS.aloadN X44032.here hx rfl (hb hby d13_116) rfl rfl k) ?_
  have F44033 := (((F38943.keep K38946 (ninS ne_b21606_b23662 nin0)).keep K44028 (ninS ne_b21606_b23626 nin0)).keep K44032 (ninS ne_b21606_b23641 nin0))
  obtain ⟨T44034, X44034, e44034, st44034⟩ := getF X44032 hx hZ hown (host := "") (Or.inl (hw _ (wm 107 rfl))) Via.refl e44032 F44033 (g := (mkF m 117 (Las2213_28 b21606 b5 q0 q1) [(.ref b21606)])) rfl rfl (hb hby d13_117)
  refine ost (mkF m 120 (Las2213_28 b21606 b5 q0 q1) [(.ref b23662)]) X44034 (fun t k => st44034 _ k) ?_
  refine ost (mkF m 122 (Las2213_28 b21606 b5 q0 q1) [(.int (3 : Int32)), (.ref b23662)]) X44034 (fun t k => XS.iload X44034.here hx rfl (hb hby d13_120) rfl k) ?_
  refine ost (mkF m 123 (Las2213_28 b21606 b5 q0 q1) [(.long (1 : Int64)), (.int (3 : Int32)), (.ref b23662)]) X44034 (fun t k => XT.lconst X44034.here hx rfl (hb hby d13_122) k) ?_
  refine ost (mkF m 125 (Las2213_28 b21606 b5 q0 q1) [(.int (vs2213_84bbb q1)), (.long (1 : Int64)), (.int (3 : Int32)), (.ref b23662)]) X44034 (fun t k => XS.iload X44034.here hx rfl (hb hby d13_123) rfl k) ?_
  refine ost (mkF m 126 (Las2213_28 b21606 b5 q0 q1) [(.long ((1 : Int64) <<< ((vs2213_84bbb q1).toInt64 &&& 63))), (.int (3 : Int32)), (.ref b23662)]) X44034 (fun t k => XT.lshl X44034.here hx rfl (hb hby d13_125) rfl k) ?_
  refine ost (mkF m 127 (Las2213_28 b21606 b5 q0 q1) [(.long (1 : Int64)), (.long ((1 : Int64) <<< ((vs2213_84bbb q1).toInt64 &&& 63))), (.int (3 : Int32)), (.ref b23662)]) X44034 (fun t k => XT.lconst X44034.here hx rfl (hb hby d13_126) k) ?_
  refine ost (mkF m 128 (Las2213_28 b21606 b5 q0 q1) [(.long (((1 : Int64) <<< ((vs2213_84bbb q1).toInt64 &&& 63)) - (1 : Int64))), (.int (3 : Int32)), (.ref b23662)]) X44034 (fun t k => XT.lsub X44034.here hx rfl (hb hby d13_127) rfl k) ?_
  have A44035 := ((B38946.keep K44028 (ninS (Ne.symm ne_b23626_b23662) nin0)).keep K44032 (ninS (Ne.symm ne_b23641_b23662) nin0))
  obtain ⟨T44036, h44036, L44036, X44036, e44036, N44036, K44036, A44036, st44036⟩ := own_stJ X44034 hx hZ e44034 N44032 (G := (Gs2213_128bb q0 q1)) A44035 g_b23662 (j := (3 : Int32)) (x := (((1 : Int64) <<< ((vs2213_84bbb q1).toInt64 &&& 63)) - (1 : Int64))) (by decide) (g := (mkF m 128 (Las2213_28 b21606 b5 q0 q1) [(.long (((1 : Int64) <<< ((vs2213_84bbb q1).toInt64 &&& 63)) - (1 : Int64))), (.int (3 : Int32)), (.ref b23662)])) rfl rfl (hb hby d13_128)
  have B44036 : Ary Z h44036 b23662 .long 4 (fun i => .long ((Gs2213_128bbb q0 q1) i)) := A44036
  have Z44036 := Nat.le_trans Z44032 K44036.1
  have S44036 := Nat.le_trans S44032 K44036.1
  refine ost (mkF m 129 (Las2213_28 b21606 b5 q0 q1) []) X44036 (fun t k => st44036 _ k) ?_
  refine ost (mkF m 130 (Las2213_28 b21606 b5 q0 q1) [(.int (vs2213_100bbbbbb q0 q1))]) X44036 (fun t k => XS.iloadN X44036.here hx rfl (hb hby d13_129) rfl k) ?_
  refine ost (mkF m 132 (Las2213_28 b21606 b5 q0 q1) [(.int (vs2213_84bbb q1)), (.int (vs2213_100bbbbbb q0 q1))]) X44036 (fun t k => XS.iload X44036.here hx rfl (hb hby d13_130) rfl k) ?_
  refine ost (mkF m 133 (Las2213_28 b21606 b5 q0 q1) [(.int ((vs2213_100bbbbbb q0 q1) + (vs2213_84bbb q1)))]) X44036 (fun t k => XS.iadd X44036.here hx rfl (hb hby d13_132) rfl k) ?_
  refine ost (mkF m 134 (Las2213_29 b21606 b5 q0 q1) []) X44036 (fun t k => XS.istoreN X44036.here hx rfl (hb hby d13_133) rfl (l' := (Las2213_29 b21606 b5 q0 q1)) rfl k) ?_
  refine ost (mkF m 137 (Las2213_30 b21606 b5 q0 q1) []) X44036 (fun t k => XS.iinc X44036.here hx rfl (hb hby d13_134) rfl (l' := (Las2213_30 b21606 b5 q0 q1)) rfl k) ?_
  refine ost (mkF m 47 (Las2213_30 b21606 b5 q0 q1) []) X44036 (fun t k => XS.goto X44036.here hx rfl (pc0 := 137) (pc' := 47) rfl (hb hby d13_137) (by decide) (by decide) k) ?_
  refine ost (mkF m 49 (Las2213_30 b21606 b5 q0 q1) [(.int (4 : Int32))]) X44036 (fun t k => XS.iload X44036.here hx rfl (hb hby d13_47) rfl k) ?_
  refine ost (mkF m 50 (Las2213_30 b21606 b5 q0 q1) [(.ref b5), (.int (4 : Int32))]) X44036 (fun t k => XS.aloadN X44036.here hx rfl (hb hby d13_49) rfl rfl k) ?_
  have F44038 := (((F38948.keep K44028 (ninS ne_b5_b23626 nin0)).keep K44032 (ninS ne_b5_b23641 nin0)).keep K44036 (ninS ne_b5_b23662 nin0))
  have E44040 := (Exa.keep (Exa.keep (Exa.keep E38950 K44028) K44032) K44036)
  obtain ⟨_, T44037, L44037, X44037, ⟨rfl, N44037q, u44039⟩, st44037⟩ := own_callF X44036 hx hZ (xi := Y11) (y := Y12) (W := 1) (a := b5) (argsL := []) (rest := [(.int (4 : Int32))]) hown (hw _ (wm 92 rfl)) (hw _ (wm 93 rfl)) (hw _ (wm 94 rfl)) (hw _ (wm 95 rfl)) (hw _ (wm 96 rfl)) (hw _ (wm 97 rfl)) (hw _ (wm 98 rfl)) (hw _ (wm 99 rfl)) (by first | rfl | simp [Cond.onTables, Cond.keepsFace, Cond.keeps, Cond.steady]) (hw _ (wm 11 rfl)) (hw _ (wm 100 rfl)) (by decide) E44040 (rm14s23 l Z a0 hw [] b5 h44036 n0 Z44036 F44038) (by decide) (by decide) (by decide) (by decide) e44036 (g := (mkF m 50 (Las2213_30 b21606 b5 q0 q1) [(.ref b5), (.int (4 : Int32))])) rfl (by rw [hml]; rfl) pd_8 rfl rfl (by show 2 * 0 + _ ≤ _; exact Nat.le_of_eq rfl) (hb hby d13_50)
  have N44037 := Fr.app N44036 N44037q
  refine ost (mkF m 55 (Las2213_30 b21606 b5 q0 q1) [(.int (4 : Int32)), (.int (4 : Int32))]) X44037 (fun t k => st44037 _ k) ?_
  refine ost (mkF m 140 (Las2213_30 b21606 b5 q0 q1) []) X44037 (fun t k => XS.icmpYes X44037.here hx rfl (pc0 := 55) (pc' := 140) rfl (hb hby d13_55) rfl (flt (show ¬ ((4 : Int32) < (4 : Int32)) by first | decide | exact Int32.lt_irrefl _ | exact Int64.lt_irrefl _)).2.1 (by decide) (by decide) k) ?_
  refine ost (mkF m 141 (Las2213_30 b21606 b5 q0 q1) [(.ref b21606)]) X44037 (fun t k => XS.aloadN X44037.here hx rfl (hb hby d13_140) rfl rfl k) ?_
  refine ost (mkF m 142 (Las2213_30 b21606 b5 q0 q1) [(.int (vs2213_100bbbbb q0 q1)), (.ref b21606)]) X44037 (fun t k => XS.iloadN X44037.here hx rfl (hb hby d13_141) rfl k) ?_
  refine ost (mkF m 143 (Las2213_30 b21606 b5 q0 q1) [(.int (1 : Int32)), (.int (vs2213_100bbbbb q0 q1)), (.ref b21606)]) X44037 (fun t k => XS.iconst X44037.here hx rfl (hb hby d13_142) k) ?_
  refine ost (mkF m 144 (Las2213_30 b21606 b5 q0 q1) [(.int ((vs2213_100bbbbb q0 q1) + (1 : Int32))), (.ref b21606)]) X44037 (fun t k => XS.iadd X44037.here hx rfl (hb hby d13_143) rfl k) ?_
  have E44041 := (Exa.keep (Exa.keep (Exa.keep (Exa.keep (Exa.keep (Exa.keep (Exa.keep (Exa.keep (Exa.keep (Exa.keep (Exa.keep (Exa.keep E23679 K28758) K28762) K28766) K33848) K33852) K33856) K38938) K38942) K38946) K44028) K44032) K44036)
  have F44042 := (((F44025.keep K44028 (ninS ne_b21606_b23626 nin0)).keep K44032 (ninS ne_b21606_b23641 nin0)).keep K44036 (ninS ne_b21606_b23662 nin0))
  have F44043 := ((F44029.keep K44032 (ninS ne_b21606_b23641 nin0)).keep K44036 (ninS ne_b21606_b23662 nin0))
  have F44044 := (F44033.keep K44036 (ninS ne_b21606_b23662 nin0))
  have F44045 := ((((((((((((F23678.keep K28758 (ninS ne_b21606_b23626 nin0)).keep K28762 (ninS ne_b21606_b23641 nin0)).keep K28766 (ninS ne_b21606_b23662 nin0)).keep K33848 (ninS ne_b21606_b23626 nin0)).keep K33852 (ninS ne_b21606_b23641 nin0)).keep K33856 (ninS ne_b21606_b23662 nin0)).keep K38938 (ninS ne_b21606_b23626 nin0)).keep K38942 (ninS ne_b21606_b23641 nin0)).keep K38946 (ninS ne_b21606_b23662 nin0)).keep K44028 (ninS ne_b21606_b23626 nin0)).keep K44032 (ninS ne_b21606_b23641 nin0)).keep K44036 (ninS ne_b21606_b23662 nin0))
  obtain ⟨T44046, h44046, L44046, X44046, e44046, N44046, W44046, F44046, st44046⟩ := own_putF X44037 hx hZ hown (hw _ (wm 142 rfl)) u44039 N44037 F44045 E44041 g_b21606 (Or.inr ⟨(hw _ (wm 143 rfl)), rfl, hnm⟩) (hw _ (wm 86 rfl)) (fty := .int) (by decide) rfl rfl (g := (mkF m 144 (Las2213_30 b21606 b5 q0 q1) [(.int ((vs2213_100bbbbb q0 q1) + (1 : Int32))), (.ref b21606)])) rfl rfl (hb hby d13_144)
  have K44046 := Keep.of_wr W44046
  have Z44046 := Nat.le_trans Z44036 K44046.1
  have S44046 := Nat.le_trans S44036 K44046.1
  have F44047 := Fld.other W44046 F44042 (Or.inr (slot_ne (Or.inr (hw _ (wm 103 rfl))) (Or.inr (hw _ (wm 143 rfl))) (by decide) (t := (.array .int)) (t' := .int) (by decide) (by decide)))
  have F44048 := Fld.other W44046 F44043 (Or.inr (slot_ne (Or.inr (hw _ (wm 105 rfl))) (Or.inr (hw _ (wm 143 rfl))) (by decide) (t := (.array .int)) (t' := .int) (by decide) (by decide)))
  have F44049 := Fld.other W44046 F44044 (Or.inr (slot_ne (Or.inr (hw _ (wm 108 rfl))) (Or.inr (hw _ (wm 143 rfl))) (by decide) (t := (.array .long)) (t' := .int) (by decide) (by decide)))
  have E44050 := Exa.wr W44046 E44041
  refine ost (mkF m 147 (Las2213_30 b21606 b5 q0 q1) []) X44046 (fun t k => st44046 _ k) ?_
  have A44051 := (((B44028.keep K44032 (ninS ne_b23626_b23641 nin0)).keep K44036 (ninS ne_b23626_b23662 nin0)).keep K44046 (ninS (Ne.symm ne_b21606_b23626) nin0))
  have A44052 := ((B44032.keep K44036 (ninS ne_b23641_b23662 nin0)).keep K44046 (ninS (Ne.symm ne_b21606_b23641) nin0))
  have A44053 := (B44036.keep K44046 (ninS (Ne.symm ne_b21606_b23662) nin0))
  refine OwnFin.retVoid X44046 (hb hby d13_147) (by decide) (by decide) ?_
  rw [e44046]
  exact ⟨b23626, b23641, b23662, rfl, N44046, (Keep.trans (Keep.trans (Keep.trans (Keep.trans (Keep.trans (Keep.trans (Keep.trans (Keep.trans (Keep.trans (Keep.trans (Keep.trans (Keep.trans (Keep.trans (Keep.trans (Keep.trans (Keep.trans (Keep.trans (Keep.trans (Keep.trans (Keep.refl h0 [b21606]) K23626 all0) K23632 (allS (Or.inl (wm 0 rfl)) all0)) K23641 all0) K23653 (allS (Or.inl (wm 0 rfl)) all0)) K23662 all0) K23675 (allS (Or.inl (wm 0 rfl)) all0)) K28758 (allS (Or.inr sz_b23626) all0)) K28762 (allS (Or.inr sz_b23641) all0)) K28766 (allS (Or.inr sz_b23662) all0)) K33848 (allS (Or.inr sz_b23626) all0)) K33852 (allS (Or.inr sz_b23641) all0)) K33856 (allS (Or.inr sz_b23662) all0)) K38938 (allS (Or.inr sz_b23626) all0)) K38942 (allS (Or.inr sz_b23641) all0)) K38946 (allS (Or.inr sz_b23662) all0)) K44028 (allS (Or.inr sz_b23626) all0)) K44032 (allS (Or.inr sz_b23641) all0)) K44036 (allS (Or.inr sz_b23662) all0)) K44046 (allS (Or.inl (wm 0 rfl)) all0)), E44050, F44047, F44048, F44049, F44046, A44051, g_b23626, sz_b23626, A44052, g_b23641, sz_b23641, A44053, g_b23662, sz_b23662, ne_b23626_b23641, ne_b23626_b23662, ne_b23641_b23662⟩)
def Q10s21 (Z : State) (b5 : Addr) (b3062 : Addr) (b9140 : Addr) (b9240 : Addr) (b13361 : Addr) (b17483 : Addr) (h0 : Heap) (n0 : Nat) : Option Value → Heap → List Loc → Prop := fun v h L => v = none ∧ Fr n0 L ∧ Keep h0 h [b5, b9140] ∧ Exa Z h b5 "java/util/ArrayList" ∧ Fld Z h b5 "java/util/AbstractList" "modCount" "I" (.int (4 : Int32)) ∧ Fld Z h b5 "java/util/ArrayList" "elementData" "[Ljava/lang/Object;" (.ref b9140) ∧ Fld Z h b5 "java/util/ArrayList" "size" "I" (.int (4 : Int32)) ∧ AryR Z h b9140 "java/lang/Object" 10 (updN (updN (updN (updN (fun _ => Value.null) ((0 : Int32)).toNatClampNeg (Value.ref b3062)) ((1 : Int32)).toNatClampNeg (Value.ref b9240)) ((2 : Int32)).toNatClampNeg (Value.ref b13361)) ((3 : Int32)).toNatClampNeg (Value.ref b17483))
abbrev Las2110_0 (b5 : Addr) (b17483 : Addr) (b9140 : Addr) : Array Slot := #[.val (.ref b5), .val (.ref b17483), .val (.ref b9140), .val (.int (3 : Int32))]
set_option maxRecDepth 65536 in
set_option maxHeartbeats 40000000 in
theorem rm10s21 (l : Launch) (Z : State) (a0 : Array Value) (hw : ∀ d ∈ tables_1, d.before a0 Z = true) (ws : List Jvm.Cond) (b5 : Addr) (b3062 : Addr) (b9140 : Addr) (b9240 : Addr) (b13361 : Addr) (b17483 : Addr) (h0 : Heap) (n0 : Nat) (Z0 : n0 ≤ h0.size) (E_b5 : Exa Z h0 b5 "java/util/ArrayList") (F_modCount_b5 : Fld Z h0 b5 "java/util/AbstractList" "modCount" "I" (.int (4 : Int32))) (F_elementData_b5 : Fld Z h0 b5 "java/util/ArrayList" "elementData" "[Ljava/lang/Object;" (.ref b9140)) (F_size_b5 : Fld Z h0 b5 "java/util/ArrayList" "size" "I" (.int (3 : Int32))) (g_b5 : n0 ≤ b5) (A_b9140 : AryR Z h0 b9140 "java/lang/Object" 10 (updN (updN (updN (fun _ => Value.null) ((0 : Int32)).toNatClampNeg (Value.ref b3062)) ((1 : Int32)).toNatClampNeg (Value.ref b9240)) ((2 : Int32)).toNatClampNeg (Value.ref b13361))) (g_b9140 : n0 ≤ b9140) (E_b17483 : Exa Z h0 b17483 "com/example/ken2/ken2/InterpretedSystem$Variable") (ne_b5_b9140 : b5 ≠ b9140) :
    MetFree l Y9 (head1 (Jvm.Cond.code Y9 jdk_38_method_24_code 4 none :: ws) ({ frames := 0, cells := 0, slots := 0, locals := 0 } : Room)) (fun a U => a = #[(.ref b5), (.ref b17483), (.ref b9140), (.int (3 : Int32))] ∧ Z.Warmed39 U.vm ∧ U.heap = h0) (fun _ _ _ _ _ => True) (fun _ U o U' => ∃ v L, o = .returned v ∧ (Q10s21 Z b5 b3062 b9140 b9240 b13361 b17483 h0 n0) v U'.heap L ∧ FrameEnd U o U' L ({ frames := 0, cells := 0, slots := 0, locals := 0 } : Room).cells ({ frames := 0, cells := 0, slots := 0, locals := 0 } : Room).slots) :=
  own_met (ret := none) (Q := (Q10s21 Z b5 b3062 b9140 b9240 b13361 b17483 h0 n0)) (plainFor_of_name pn_10) (fun m => ef_10 m b5 b17483 b9140 (3 : Int32)) (fun p e s m below meth c T0 X0 hx hby hml hown hnm hZ e0 => by
  have N0 := Fr.nil n0
  refine ost (mkF m 1 (Las2110_0 b5 b17483 b9140) [(.int (3 : Int32))]) X0 (fun t k => XS.iloadN X0.here hx rfl (hb hby d10_0) rfl k) ?_
  refine ost (mkF m 2 (Las2110_0 b5 b17483 b9140) [(.ref b9140), (.int (3 : Int32))]) X0 (fun t k => XS.aloadN X0.here hx rfl (hb hby d10_1) rfl rfl k) ?_
  refine ost (mkF m 3 (Las2110_0 b5 b17483 b9140) [(.int (10 : Int32)), (.int (3 : Int32))]) X0 (fun t k => own_len X0 hx hZ e0 (A_b9140).1 (g := (mkF m 2 (Las2110_0 b5 b17483 b9140) [(.ref b9140), (.int (3 : Int32))])) rfl rfl (hb hby d10_2) _ k) ?_
  refine ost (mkF m 11 (Las2110_0 b5 b17483 b9140) []) X0 (fun t k => XS.icmpYes X0.here hx rfl (pc0 := 3) (pc' := 11) rfl (hb hby d10_3) rfl (feq (show ¬ ((3 : Int32) = (10 : Int32)) by first | decide | exact Int32.lt_irrefl _ | exact Int64.lt_irrefl _)).2 (by decide) (by decide) k) ?_
  refine ost (mkF m 12 (Las2110_0 b5 b17483 b9140) [(.ref b9140)]) X0 (fun t k => XS.aloadN X0.here hx rfl (hb hby d10_11) rfl rfl k) ?_
  refine ost (mkF m 13 (Las2110_0 b5 b17483 b9140) [(.int (3 : Int32)), (.ref b9140)]) X0 (fun t k => XS.iloadN X0.here hx rfl (hb hby d10_12) rfl k) ?_
  refine ost (mkF m 14 (Las2110_0 b5 b17483 b9140) [(.ref b17483), (.int (3 : Int32)), (.ref b9140)]) X0 (fun t k => XS.aloadN X0.here hx rfl (hb hby d10_13) rfl rfl k) ?_
  obtain ⟨T21557, h21557, L21557, X21557, e21557, N21557, K21557, A21557, st21557⟩ := own_stA X0 hx hZ e0 N0 (G := (updN (updN (updN (fun _ => Value.null) ((0 : Int32)).toNatClampNeg (Value.ref b3062)) ((1 : Int32)).toNatClampNeg (Value.ref b9240)) ((2 : Int32)).toNatClampNeg (Value.ref b13361))) A_b9140 g_b9140 (j := (3 : Int32)) (v := (.ref b17483)) (by decide) (own_sto A_b9140 E_b17483 (hw _ (wm 84 rfl))) (g := (mkF m 14 (Las2110_0 b5 b17483 b9140) [(.ref b17483), (.int (3 : Int32)), (.ref b9140)])) rfl rfl (hb hby d10_14)
  have Z21557 := Nat.le_trans Z0 K21557.1
  have S21557 := Nat.le_trans (Nat.le_refl h0.size) K21557.1
  refine ost (mkF m 15 (Las2110_0 b5 b17483 b9140) []) X21557 (fun t k => st21557 _ k) ?_
  refine ost (mkF m 16 (Las2110_0 b5 b17483 b9140) [(.ref b5)]) X21557 (fun t k => XS.aloadN X21557.here hx rfl (hb hby d10_15) rfl rfl k) ?_
  refine ost (mkF m 17 (Las2110_0 b5 b17483 b9140) [(.int (3 : Int32)), (.ref b5)]) X21557 (fun t k => XS.iloadN X21557.here hx rfl (hb hby d10_16) rfl k) ?_
  refine ost (mkF m 18 (Las2110_0 b5 b17483 b9140) [(.int (1 : Int32)), (.int (3 : Int32)), (.ref b5)]) X21557 (fun t k => XS.iconst X21557.here hx rfl (hb hby d10_17) k) ?_
  refine ost (mkF m 19 (Las2110_0 b5 b17483 b9140) [(.int (4 : Int32)), (.ref b5)]) X21557 (fun t k => XS.iadd X21557.here hx rfl (hb hby d10_18) rfl k) ?_
  have E21558 := (Exa.keep E_b5 K21557)
  have F21559 := (F_modCount_b5.keep K21557 (ninS ne_b5_b9140 nin0))
  have F21560 := (F_elementData_b5.keep K21557 (ninS ne_b5_b9140 nin0))
  have F21561 := (F_size_b5.keep K21557 (ninS ne_b5_b9140 nin0))
  obtain ⟨T21562, h21562, L21562, X21562, e21562, N21562, W21562, F21562, st21562⟩ := own_putF X21557 hx hZ hown (hw _ (wm 64 rfl)) e21557 N21557 F21561 E21558 g_b5 (Or.inl (hw _ (wm 65 rfl))) (hw _ (wm 10 rfl)) (fty := .int) (by decide) rfl rfl (g := (mkF m 19 (Las2110_0 b5 b17483 b9140) [(.int (4 : Int32)), (.ref b5)])) rfl rfl (hb hby d10_19)
  have K21562 := Keep.of_wr W21562
  have Z21562 := Nat.le_trans Z21557 K21562.1
  have S21562 := Nat.le_trans S21557 K21562.1
  have F21563 := Fld.other W21562 F21559 (Or.inr (slot_ne (Or.inl (hw _ (wm 31 rfl))) (Or.inl (hw _ (wm 65 rfl))) (by decide) (t := .int) (t' := .int) (by decide) (by decide)))
  have F21564 := Fld.other W21562 F21560 (Or.inr (slot_ne (Or.inl (hw _ (wm 34 rfl))) (Or.inl (hw _ (wm 65 rfl))) (by decide) (t := (.array (.object "java/lang/Object"))) (t' := .int) (by decide) (by decide)))
  have E21565 := Exa.wr W21562 E21558
  refine ost (mkF m 22 (Las2110_0 b5 b17483 b9140) []) X21562 (fun t k => st21562 _ k) ?_
  have A21566 := (A21557.keep K21562 (ninS (Ne.symm ne_b5_b9140) nin0))
  refine OwnFin.retVoid X21562 (hb hby d10_22) (by decide) (by decide) ?_
  rw [e21562]
  exact ⟨rfl, N21562, (Keep.trans (Keep.trans (Keep.refl h0 [b5, b9140]) K21557 (allS (Or.inl (wm 1 rfl)) all0)) K21562 (allS (Or.inl (wm 0 rfl)) all0)), E21565, F21563, F21564, F21562, A21566⟩)
def Q9s20 (Z : State) (b5 : Addr) (b3062 : Addr) (b9140 : Addr) (b9240 : Addr) (b13361 : Addr) (b17483 : Addr) (h0 : Heap) (n0 : Nat) : Option Value → Heap → List Loc → Prop := fun v h L => v = some (.int (nar .boolean (1 : Int32))) ∧ Fr n0 L ∧ Keep h0 h [b5, b9140] ∧ Exa Z h b5 "java/util/ArrayList" ∧ Fld Z h b5 "java/util/AbstractList" "modCount" "I" (.int (4 : Int32)) ∧ Fld Z h b5 "java/util/ArrayList" "elementData" "[Ljava/lang/Object;" (.ref b9140) ∧ Fld Z h b5 "java/util/ArrayList" "size" "I" (.int (4 : Int32)) ∧ AryR Z h b9140 "java/lang/Object" 10 (updN (updN (updN (updN (fun _ => Value.null) ((0 : Int32)).toNatClampNeg (Value.ref b3062)) ((1 : Int32)).toNatClampNeg (Value.ref b9240)) ((2 : Int32)).toNatClampNeg (Value.ref b13361)) ((3 : Int32)).toNatClampNeg (Value.ref b17483))
set_option maxRecDepth 65536 in
set_option maxHeartbeats 40000000 in
theorem rm9s20 (l : Launch) (Z : State) (a0 : Array Value) (hw : ∀ d ∈ tables_1, d.before a0 Z = true) (ws : List Jvm.Cond) (b5 : Addr) (b3062 : Addr) (b9140 : Addr) (b9240 : Addr) (b13361 : Addr) (b17483 : Addr) (h0 : Heap) (n0 : Nat) (Z0 : n0 ≤ h0.size) (E_b5 : Exa Z h0 b5 "java/util/ArrayList") (F_modCount_b5 : Fld Z h0 b5 "java/util/AbstractList" "modCount" "I" (.int (3 : Int32))) (F_elementData_b5 : Fld Z h0 b5 "java/util/ArrayList" "elementData" "[Ljava/lang/Object;" (.ref b9140)) (F_size_b5 : Fld Z h0 b5 "java/util/ArrayList" "size" "I" (.int (3 : Int32))) (g_b5 : n0 ≤ b5) (A_b9140 : AryR Z h0 b9140 "java/lang/Object" 10 (updN (updN (updN (fun _ => Value.null) ((0 : Int32)).toNatClampNeg (Value.ref b3062)) ((1 : Int32)).toNatClampNeg (Value.ref b9240)) ((2 : Int32)).toNatClampNeg (Value.ref b13361))) (g_b9140 : n0 ≤ b9140) (E_b17483 : Exa Z h0 b17483 "com/example/ken2/ken2/InterpretedSystem$Variable") (ne_b5_b9140 : b5 ≠ b9140) :
    MetFree l Y10 (head1 (Jvm.Cond.code Y10 jdk_38_method_25_code 2 (some .boolean) :: ws) ({ frames := 1, cells := 0, slots := 0, locals := 15 } : Room)) (fun a U => a = #[(.ref b5), (.ref b17483)] ∧ Z.Warmed39 U.vm ∧ U.heap = h0) (fun _ _ _ _ _ => True) (fun _ U o U' => ∃ v L, o = .returned v ∧ (Q9s20 Z b5 b3062 b9140 b9240 b13361 b17483 h0 n0) v U'.heap L ∧ FrameEnd U o U' L ({ frames := 1, cells := 0, slots := 0, locals := 15 } : Room).cells ({ frames := 1, cells := 0, slots := 0, locals := 15 } : Room).slots) :=
  own_met (ret := (some .boolean)) (Q := (Q9s20 Z b5 b3062 b9140 b9240 b13361 b17483 h0 n0)) (plainFor_of_name pn_9) (fun m => ef_9 m b5 b17483) (fun p e s m below meth c T0 X0 hx hby hml hown hnm hZ e0 => by
  have N0 := Fr.nil n0
  refine ost (mkF m 1 #[.val (.ref b5), .val (.ref b17483)] [(.ref b5)]) X0 (fun t k => XS.aloadN X0.here hx rfl (hb hby d9_0) rfl rfl k) ?_
  refine ost (mkF m 2 #[.val (.ref b5), .val (.ref b17483)] [(.ref b5), (.ref b5)]) X0 (fun t k => XS.dup X0.here hx rfl (hb hby d9_1) rfl rfl k) ?_
  obtain ⟨T20549, X20549, e20549, st20549⟩ := getF X0 hx hZ hown (host := "") (Or.inl (hw _ (wm 62 rfl))) (Via.of (hw _ (wm 63 rfl))) e0 F_modCount_b5 (g := (mkF m 2 #[.val (.ref b5), .val (.ref b17483)] [(.ref b5), (.ref b5)])) rfl rfl (hb hby d9_2)
  refine ost (mkF m 5 #[.val (.ref b5), .val (.ref b17483)] [(.int (3 : Int32)), (.ref b5)]) X20549 (fun t k => st20549 _ k) ?_
  refine ost (mkF m 6 #[.val (.ref b5), .val (.ref b17483)] [(.int (1 : Int32)), (.int (3 : Int32)), (.ref b5)]) X20549 (fun t k => XS.iconst X20549.here hx rfl (hb hby d9_5) k) ?_
  refine ost (mkF m 7 #[.val (.ref b5), .val (.ref b17483)] [(.int (4 : Int32)), (.ref b5)]) X20549 (fun t k => XS.iadd X20549.here hx rfl (hb hby d9_6) rfl k) ?_
  obtain ⟨T20550, h20550, L20550, X20550, e20550, N20550, W20550, F20550, st20550⟩ := own_putFV X20549 hx hZ hown (hw _ (wm 62 rfl)) (Via.of (hw _ (wm 63 rfl))) e20549 N0 F_modCount_b5 E_b5 g_b5 (Or.inl (hw _ (wm 31 rfl))) (hw _ (wm 10 rfl)) (fty := .int) (by decide) rfl rfl (g := (mkF m 7 #[.val (.ref b5), .val (.ref b17483)] [(.int (4 : Int32)), (.ref b5)])) rfl rfl (hb hby d9_7)
  have K20550 := Keep.of_wr W20550
  have Z20550 := Nat.le_trans Z0 K20550.1
  have S20550 := Nat.le_trans (Nat.le_refl h0.size) K20550.1
  have F20551 := Fld.other W20550 F_elementData_b5 (Or.inr (slot_ne (Or.inl (hw _ (wm 34 rfl))) (Or.inl (hw _ (wm 31 rfl))) (by decide) (t := (.array (.object "java/lang/Object"))) (t' := .int) (by decide) (by decide)))
  have F20552 := Fld.other W20550 F_size_b5 (Or.inr (slot_ne (Or.inl (hw _ (wm 65 rfl))) (Or.inl (hw _ (wm 31 rfl))) (by decide) (t := .int) (t' := .int) (by decide) (by decide)))
  have E20553 := Exa.wr W20550 E_b5
  refine ost (mkF m 10 #[.val (.ref b5), .val (.ref b17483)] []) X20550 (fun t k => st20550 _ k) ?_
  refine ost (mkF m 11 #[.val (.ref b5), .val (.ref b17483)] [(.ref b5)]) X20550 (fun t k => XS.aloadN X20550.here hx rfl (hb hby d9_10) rfl rfl k) ?_
  refine ost (mkF m 12 #[.val (.ref b5), .val (.ref b17483)] [(.ref b17483), (.ref b5)]) X20550 (fun t k => XS.aloadN X20550.here hx rfl (hb hby d9_11) rfl rfl k) ?_
  refine ost (mkF m 13 #[.val (.ref b5), .val (.ref b17483)] [(.ref b5), (.ref b17483), (.ref b5)]) X20550 (fun t k => XS.aloadN X20550.here hx rfl (hb hby d9_12) rfl rfl k) ?_
  obtain ⟨T20554, X20554, e20554, st20554⟩ := getF X20550 hx hZ hown (host := "") (Or.inl (hw _ (wm 33 rfl))) Via.refl e20550 F20551 (g := (mkF m 13 #[.val (.ref b5), .val (.ref b17483)] [(.ref b5), (.ref b17483), (.ref b5)])) rfl rfl (hb hby d9_13)
  refine ost (mkF m 16 #[.val (.ref b5), .val (.ref b17483)] [(.ref b9140), (.ref b17483), (.ref b5)]) X20554 (fun t k => st20554 _ k) ?_
  refine ost (mkF m 17 #[.val (.ref b5), .val (.ref b17483)] [(.ref b5), (.ref b9140), (.ref b17483), (.ref b5)]) X20554 (fun t k => XS.aloadN X20554.here hx rfl (hb hby d9_16) rfl rfl k) ?_
  obtain ⟨T20555, X20555, e20555, st20555⟩ := getF X20554 hx hZ hown (host := "") (Or.inl (hw _ (wm 64 rfl))) Via.refl e20554 F20552 (g := (mkF m 17 #[.val (.ref b5), .val (.ref b17483)] [(.ref b5), (.ref b9140), (.ref b17483), (.ref b5)])) rfl rfl (hb hby d9_17)
  refine ost (mkF m 20 #[.val (.ref b5), .val (.ref b17483)] [(.int (3 : Int32)), (.ref b9140), (.ref b17483), (.ref b5)]) X20555 (fun t k => st20555 _ k) ?_
  have A21577 := (A_b9140.keep K20550 (ninS (Ne.symm ne_b5_b9140) nin0))
  have E21578 := (Exa.keep E_b17483 K20550)
  obtain ⟨_, T20556, L20556, X20556, ⟨rfl, N20556q, u21579, u21580, u21581, u21582, u21583, u21584⟩, st20556⟩ := own_callP X20555 hx hZ (y := Y9) (W := 0) (a := b5) (argsL := [(.ref b17483), (.ref b9140), (.int (3 : Int32))]) (rest := []) hown (hw _ (wm 66 rfl)) (hw _ (wm 60 rfl)) rfl (hw _ (wm 67 rfl)) (hw _ (wm 68 rfl)) (hw _ (wm 11 rfl)) (hw _ (wm 70 rfl)) (by decide) E20553 (rm10s21 l Z a0 hw [] b5 b3062 b9140 b9240 b13361 b17483 h20550 n0 Z20550 E20553 F20550 F20551 F20552 g_b5 A21577 g_b9140 E21578 ne_b5_b9140) (by decide) (by decide) (by decide) (by decide) e20555 (g := (mkF m 20 #[.val (.ref b5), .val (.ref b17483)] [(.int (3 : Int32)), (.ref b9140), (.ref b17483), (.ref b5)])) rfl (by rw [hml]; rfl) pd_6 rfl rfl (by show 2 * 0 + _ ≤ _; exact Nat.le_of_eq rfl) (hb hby d9_20)
  have N20556 := Fr.app N20550 N20556q
  obtain ⟨h20556, e20556⟩ : ∃ z, T20556.heap = z := ⟨_, rfl⟩
  rw [e20556] at u21579 u21580 u21581 u21582 u21583 u21584
  have K20556 := u21579
  have Z20556 := Nat.le_trans Z20550 K20556.1
  have S20556 := Nat.le_trans S20550 K20556.1
  refine ost (mkF m 23 #[.val (.ref b5), .val (.ref b17483)] []) X20556 (fun t k => st20556 _ k) ?_
  refine ost (mkF m 24 #[.val (.ref b5), .val (.ref b17483)] [(.int (1 : Int32))]) X20556 (fun t k => XS.iconst X20556.here hx rfl (hb hby d9_23) k) ?_
  refine OwnFin.retNar X20556 (by simp) (hb hby d9_24) (by decide) (by decide) ?_
  rw [e20556]
  exact ⟨rfl, N20556, (Keep.trans (Keep.trans (Keep.refl h0 [b5, b9140]) K20550 (allS (Or.inl (wm 0 rfl)) all0)) K20556 (allS (Or.inl (wm 0 rfl)) (allS (Or.inl (wm 1 rfl)) all0))), u21580, u21581, u21582, u21583, u21584⟩)
def Q8s19 (Z : State) (b17483 : Addr) (h0 : Heap) (n0 : Nat) : Option Value → Heap → List Loc → Prop := fun v h L => v = none ∧ Fr n0 L ∧ h = h0
set_option maxRecDepth 65536 in
set_option maxHeartbeats 40000000 in
theorem rm8s19 (l : Launch) (Z : State) (a0 : Array Value) (hw : ∀ d ∈ tables_1, d.before a0 Z = true) (ws : List Jvm.Cond) (b17483 : Addr) (h0 : Heap) (n0 : Nat) (Z0 : n0 ≤ h0.size) :
    MetFree l Y5 (head1 (Jvm.Cond.code Y5 jdk_30_method_1_code 1 none :: ws) ({ frames := 1, cells := 0, slots := 0, locals := 12 } : Room)) (fun a U => a = #[(.ref b17483)] ∧ Z.Warmed39 U.vm ∧ U.heap = h0) (fun _ _ _ _ _ => True) (fun _ U o U' => ∃ v L, o = .returned v ∧ (Q8s19 Z b17483 h0 n0) v U'.heap L ∧ FrameEnd U o U' L ({ frames := 1, cells := 0, slots := 0, locals := 12 } : Room).cells ({ frames := 1, cells := 0, slots := 0, locals := 12 } : Room).slots) :=
  own_met (ret := none) (Q := (Q8s19 Z b17483 h0 n0)) (plainFor_of_name pn_8) (fun m => ef_8 m b17483) (fun p e s m below meth c T0 X0 hx hby hml hown hnm hZ e0 => by
  have N0 := Fr.nil n0
  refine ost (mkF m 1 #[.val (.ref b17483)] [(.ref b17483)]) X0 (fun t k => XS.aloadN X0.here hx rfl (hb hby d8_0) rfl rfl k) ?_
  obtain ⟨T19489, X19489, e19489, st19489⟩ := initO X0 hx hZ hown (hw _ (wm 46 rfl)) (hw _ (wm 28 rfl)) (hw _ (wm 29 rfl)) e0 (g := (mkF m 1 #[.val (.ref b17483)] [(.ref b17483)])) rfl (by rw [hml]; rfl) rfl (hb hby d8_1) (by decide) (W := 0) (by show 2 * 0 + _ ≤ _; exact Nat.le_of_eq rfl) (by decide)
  refine ost (mkF m 4 #[.val (.ref b17483)] []) X19489 (fun t k => st19489 _ k) ?_
  refine OwnFin.retVoid X19489 (hb hby d8_4) (by decide) (by decide) ?_
  rw [e19489]
  exact ⟨rfl, N0, rfl⟩)
def Q7s18 (Z : State) (q1 : Int64) (b17483 : Addr) (h0 : Heap) (n0 : Nat) : Option Value → Heap → List Loc → Prop := fun v h L => v = none ∧ Fr n0 L ∧ Keep h0 h [b17483] ∧ Exa Z h b17483 "com/example/ken2/ken2/InterpretedSystem$Variable" ∧ Fld Z h b17483 "com/example/ken2/ken2/InterpretedSystem$Variable" "agent" "Ljava/lang/String;" .null ∧ Fld Z h b17483 "com/example/ken2/ken2/InterpretedSystem$Variable" "name" "Ljava/lang/String;" .null ∧ Fld Z h b17483 "com/example/ken2/ken2/InterpretedSystem$Variable" "values" "Ljava/util/List;" .null ∧ Fld Z h b17483 "com/example/ken2/ken2/InterpretedSystem$Variable" "low" "I" (.int (0 : Int32)) ∧ Fld Z h b17483 "com/example/ken2/ken2/InterpretedSystem$Variable" "size" "I" (.int (v0_32 q1))
abbrev Las187_0 (b17483 : Addr) (q1 : Int64) : Array Slot := #[.val (.ref b17483), .val .null, .val .null, .val .null, .val (.int (0 : Int32)), .val (.int (v0_32 q1))]
set_option maxRecDepth 65536 in
set_option maxHeartbeats 40000000 in
theorem rm7s18 (l : Launch) (Z : State) (a0 : Array Value) (hw : ∀ d ∈ tables_1, d.before a0 Z = true) (ws : List Jvm.Cond) (q1 : Int64) (b17483 : Addr) (h0 : Heap) (n0 : Nat) (Z0 : n0 ≤ h0.size) (E_b17483 : Exa Z h0 b17483 "com/example/ken2/ken2/InterpretedSystem$Variable") (F_agent_b17483 : Fld Z h0 b17483 "com/example/ken2/ken2/InterpretedSystem$Variable" "agent" "Ljava/lang/String;" .null) (F_name_b17483 : Fld Z h0 b17483 "com/example/ken2/ken2/InterpretedSystem$Variable" "name" "Ljava/lang/String;" .null) (F_values_b17483 : Fld Z h0 b17483 "com/example/ken2/ken2/InterpretedSystem$Variable" "values" "Ljava/util/List;" .null) (F_low_b17483 : Fld Z h0 b17483 "com/example/ken2/ken2/InterpretedSystem$Variable" "low" "I" (.int (0 : Int32))) (F_size_b17483 : Fld Z h0 b17483 "com/example/ken2/ken2/InterpretedSystem$Variable" "size" "I" (.int (0 : Int32))) (g_b17483 : n0 ≤ b17483) :
    MetFree l Y6 (head1 (Jvm.Cond.code Y6 prog_64_method_1_code 6 none :: ws) ({ frames := 2, cells := 0, slots := 0, locals := 24 } : Room)) (fun a U => a = #[(.ref b17483), .null, .null, .null, (.int (0 : Int32)), (.int (v0_32 q1))] ∧ Z.Warmed39 U.vm ∧ U.heap = h0) (fun _ _ _ _ _ => True) (fun _ U o U' => ∃ v L, o = .returned v ∧ (Q7s18 Z q1 b17483 h0 n0) v U'.heap L ∧ FrameEnd U o U' L ({ frames := 2, cells := 0, slots := 0, locals := 24 } : Room).cells ({ frames := 2, cells := 0, slots := 0, locals := 24 } : Room).slots) :=
  own_met (ret := none) (Q := (Q7s18 Z q1 b17483 h0 n0)) (plainFor_of_name pn_7) (fun m => ef_7n1n2n3 m b17483 (0 : Int32) (v0_32 q1)) (fun p e s m below meth c T0 X0 hx hby hml hown hnm hZ e0 => by
  have N0 := Fr.nil n0
  refine ost (mkF m 1 (Las187_0 b17483 q1) [(.ref b17483)]) X0 (fun t k => XS.aloadN X0.here hx rfl (hb hby d7_0) rfl rfl k) ?_
  obtain ⟨_, T18488, L18488, X18488, ⟨rfl, N18488q, u19500⟩, st18488⟩ := own_callI X0 hx hZ (y := Y5) (W := 0) (a := b17483) (argsL := []) (rest := []) rfl hown (hw _ (wm 41 rfl)) (hw _ (wm 42 rfl)) (hw _ (wm 44 rfl)) (hw _ (wm 45 rfl)) (by decide) (rm8s19 l Z a0 hw [] b17483 h0 n0 Z0 ) (by decide) (by decide) (by decide) (by decide) e0 (g := (mkF m 1 (Las187_0 b17483 q1) [(.ref b17483)])) rfl (by rw [hml]; rfl) pd_2 rfl rfl (by show 2 * 0 + _ ≤ _; exact Nat.le_of_eq rfl) (hb hby d7_1)
  have N18488 := Fr.app N0 N18488q
  refine ost (mkF m 4 (Las187_0 b17483 q1) []) X18488 (fun t k => st18488 _ k) ?_
  refine ost (mkF m 5 (Las187_0 b17483 q1) [(.ref b17483)]) X18488 (fun t k => XS.aloadN X18488.here hx rfl (hb hby d7_4) rfl rfl k) ?_
  refine ost (mkF m 6 (Las187_0 b17483 q1) [.null, (.ref b17483)]) X18488 (fun t k => XS.aloadN X18488.here hx rfl (hb hby d7_5) rfl rfl k) ?_
  obtain ⟨T19501, h19501, L19501, X19501, e19501, N19501, W19501, F19501, st19501⟩ := own_putF X18488 hx hZ hown (hw _ (wm 47 rfl)) u19500 N18488 F_agent_b17483 E_b17483 g_b17483 (Or.inr ⟨(hw _ (wm 48 rfl)), rfl, hnm⟩) (hw _ (wm 36 rfl)) (fty := (.object "java/lang/String")) (by decide) rfl rfl (g := (mkF m 6 (Las187_0 b17483 q1) [.null, (.ref b17483)])) rfl rfl (hb hby d7_6)
  have K19501 := Keep.of_wr W19501
  have Z19501 := Nat.le_trans Z0 K19501.1
  have S19501 := Nat.le_trans (Nat.le_refl h0.size) K19501.1
  have F19502 := Fld.other W19501 F_name_b17483 (Or.inr (slot_ne (Or.inr (hw _ (wm 50 rfl))) (Or.inr (hw _ (wm 48 rfl))) (by decide) (t := (.object "java/lang/String")) (t' := (.object "java/lang/String")) (by decide) (by decide)))
  have F19503 := Fld.other W19501 F_values_b17483 (Or.inr (slot_ne (Or.inr (hw _ (wm 52 rfl))) (Or.inr (hw _ (wm 48 rfl))) (by decide) (t := (.object "java/util/List")) (t' := (.object "java/lang/String")) (by decide) (by decide)))
  have F19504 := Fld.other W19501 F_low_b17483 (Or.inr (slot_ne (Or.inr (hw _ (wm 54 rfl))) (Or.inr (hw _ (wm 48 rfl))) (by decide) (t := .int) (t' := (.object "java/lang/String")) (by decide) (by decide)))
  have F19505 := Fld.other W19501 F_size_b17483 (Or.inr (slot_ne (Or.inr (hw _ (wm 56 rfl))) (Or.inr (hw _ (wm 48 rfl))) (by decide) (t := .int) (t' := (.object "java/lang/String")) (by decide) (by decide)))
  have E19506 := Exa.wr W19501 E_b17483
  refine ost (mkF m 9 (Las187_0 b17483 q1) []) X19501 (fun t k => st19501 _ k) ?_
  refine ost (mkF m 10 (Las187_0 b17483 q1) [(.ref b17483)]) X19501 (fun t k => XS.aloadN X19501.here hx rfl (hb hby d7_9) rfl rfl k) ?_
  refine ost (mkF m 11 (Las187_0 b17483 q1) [.null, (.ref b17483)]) X19501 (fun t k => XS.aloadN X19501.here hx rfl (hb hby d7_10) rfl rfl k) ?_
  obtain ⟨T19507, h19507, L19507, X19507, e19507, N19507, W19507, F19507, st19507⟩ := own_putF X19501 hx hZ hown (hw _ (wm 49 rfl)) e19501 N19501 F19502 E19506 g_b17483 (Or.inr ⟨(hw _ (wm 50 rfl)), rfl, hnm⟩) (hw _ (wm 36 rfl)) (fty := (.object "java/lang/String")) (by decide) rfl rfl (g := (mkF m 11 (Las187_0 b17483 q1) [.null, (.ref b17483)])) rfl rfl (hb hby d7_11)
  have K19507 := Keep.of_wr W19507
  have Z19507 := Nat.le_trans Z19501 K19507.1
  have S19507 := Nat.le_trans S19501 K19507.1
  have F19508 := Fld.other W19507 F19501 (Or.inr (slot_ne (Or.inr (hw _ (wm 48 rfl))) (Or.inr (hw _ (wm 50 rfl))) (by decide) (t := (.object "java/lang/String")) (t' := (.object "java/lang/String")) (by decide) (by decide)))
  have F19509 := Fld.other W19507 F19503 (Or.inr (slot_ne (Or.inr (hw _ (wm 52 rfl))) (Or.inr (hw _ (wm 50 rfl))) (by decide) (t := (.object "java/util/List")) (t' := (.object "java/lang/String")) (by decide) (by decide)))
  have F19510 := Fld.other W19507 F19504 (Or.inr (slot_ne (Or.inr (hw _ (wm 54 rfl))) (Or.inr (hw _ (wm 50 rfl))) (by decide) (t := .int) (t' := (.object "java/lang/String")) (by decide) (by decide)))
  have F19511 := Fld.other W19507 F19505 (Or.inr (slot_ne (Or.inr (hw _ (wm 56 rfl))) (Or.inr (hw _ (wm 50 rfl))) (by decide) (t := .int) (t' := (.object "java/lang/String")) (by decide) (by decide)))
  have E19512 := Exa.wr W19507 E19506
  refine ost (mkF m 14 (Las187_0 b17483 q1) []) X19507 (fun t k => st19507 _ k) ?_
  refine ost (mkF m 15 (Las187_0 b17483 q1) [(.ref b17483)]) X19507 (fun t k => XS.aloadN X19507.here hx rfl (hb hby d7_14) rfl rfl k) ?_
  refine ost (mkF m 16 (Las187_0 b17483 q1) [.null, (.ref b17483)]) X19507 (fun t k => XS.aloadN X19507.here hx rfl (hb hby d7_15) rfl rfl k) ?_
  obtain ⟨T19513, h19513, L19513, X19513, e19513, N19513, W19513, F19513, st19513⟩ := own_putF X19507 hx hZ hown (hw _ (wm 51 rfl)) e19507 N19507 F19509 E19512 g_b17483 (Or.inr ⟨(hw _ (wm 52 rfl)), rfl, hnm⟩) (hw _ (wm 36 rfl)) (fty := (.object "java/util/List")) (by decide) rfl rfl (g := (mkF m 16 (Las187_0 b17483 q1) [.null, (.ref b17483)])) rfl rfl (hb hby d7_16)
  have K19513 := Keep.of_wr W19513
  have Z19513 := Nat.le_trans Z19507 K19513.1
  have S19513 := Nat.le_trans S19507 K19513.1
  have F19514 := Fld.other W19513 F19508 (Or.inr (slot_ne (Or.inr (hw _ (wm 48 rfl))) (Or.inr (hw _ (wm 52 rfl))) (by decide) (t := (.object "java/lang/String")) (t' := (.object "java/util/List")) (by decide) (by decide)))
  have F19515 := Fld.other W19513 F19507 (Or.inr (slot_ne (Or.inr (hw _ (wm 50 rfl))) (Or.inr (hw _ (wm 52 rfl))) (by decide) (t := (.object "java/lang/String")) (t' := (.object "java/util/List")) (by decide) (by decide)))
  have F19516 := Fld.other W19513 F19510 (Or.inr (slot_ne (Or.inr (hw _ (wm 54 rfl))) (Or.inr (hw _ (wm 52 rfl))) (by decide) (t := .int) (t' := (.object "java/util/List")) (by decide) (by decide)))
  have F19517 := Fld.other W19513 F19511 (Or.inr (slot_ne (Or.inr (hw _ (wm 56 rfl))) (Or.inr (hw _ (wm 52 rfl))) (by decide) (t := .int) (t' := (.object "java/util/List")) (by decide) (by decide)))
  have E19518 := Exa.wr W19513 E19512
  refine ost (mkF m 19 (Las187_0 b17483 q1) []) X19513 (fun t k => st19513 _ k) ?_
  refine ost (mkF m 20 (Las187_0 b17483 q1) [(.ref b17483)]) X19513 (fun t k => XS.aloadN X19513.here hx rfl (hb hby d7_19) rfl rfl k) ?_
  refine ost (mkF m 22 (Las187_0 b17483 q1) [(.int (0 : Int32)), (.ref b17483)]) X19513 (fun t k => XS.iload X19513.here hx rfl (hb hby d7_20) rfl k) ?_
  obtain ⟨T19519, h19519, L19519, X19519, e19519, N19519, W19519, F19519, st19519⟩ := own_putF X19513 hx hZ hown (hw _ (wm 53 rfl)) e19513 N19513 F19516 E19518 g_b17483 (Or.inr ⟨(hw _ (wm 54 rfl)), rfl, hnm⟩) (hw _ (wm 36 rfl)) (fty := .int) (by decide) rfl rfl (g := (mkF m 22 (Las187_0 b17483 q1) [(.int (0 : Int32)), (.ref b17483)])) rfl rfl (hb hby d7_22)
  have K19519 := Keep.of_wr W19519
  have Z19519 := Nat.le_trans Z19513 K19519.1
  have S19519 := Nat.le_trans S19513 K19519.1
  have F19520 := Fld.other W19519 F19514 (Or.inr (slot_ne (Or.inr (hw _ (wm 48 rfl))) (Or.inr (hw _ (wm 54 rfl))) (by decide) (t := (.object "java/lang/String")) (t' := .int) (by decide) (by decide)))
  have F19521 := Fld.other W19519 F19515 (Or.inr (slot_ne (Or.inr (hw _ (wm 50 rfl))) (Or.inr (hw _ (wm 54 rfl))) (by decide) (t := (.object "java/lang/String")) (t' := .int) (by decide) (by decide)))
  have F19522 := Fld.other W19519 F19513 (Or.inr (slot_ne (Or.inr (hw _ (wm 52 rfl))) (Or.inr (hw _ (wm 54 rfl))) (by decide) (t := (.object "java/util/List")) (t' := .int) (by decide) (by decide)))
  have F19523 := Fld.other W19519 F19517 (Or.inr (slot_ne (Or.inr (hw _ (wm 56 rfl))) (Or.inr (hw _ (wm 54 rfl))) (by decide) (t := .int) (t' := .int) (by decide) (by decide)))
  have E19524 := Exa.wr W19519 E19518
  refine ost (mkF m 25 (Las187_0 b17483 q1) []) X19519 (fun t k => st19519 _ k) ?_
  refine ost (mkF m 26 (Las187_0 b17483 q1) [(.ref b17483)]) X19519 (fun t k => XS.aloadN X19519.here hx rfl (hb hby d7_25) rfl rfl k) ?_
  refine ost (mkF m 28 (Las187_0 b17483 q1) [(.int (v0_32 q1)), (.ref b17483)]) X19519 (fun t k => XS.iload X19519.here hx rfl (hb hby d7_26) rfl k) ?_
  obtain ⟨T19525, h19525, L19525, X19525, e19525, N19525, W19525, F19525, st19525⟩ := own_putF X19519 hx hZ hown (hw _ (wm 55 rfl)) e19519 N19519 F19523 E19524 g_b17483 (Or.inr ⟨(hw _ (wm 56 rfl)), rfl, hnm⟩) (hw _ (wm 36 rfl)) (fty := .int) (by decide) rfl rfl (g := (mkF m 28 (Las187_0 b17483 q1) [(.int (v0_32 q1)), (.ref b17483)])) rfl rfl (hb hby d7_28)
  have K19525 := Keep.of_wr W19525
  have Z19525 := Nat.le_trans Z19519 K19525.1
  have S19525 := Nat.le_trans S19519 K19525.1
  have F19526 := Fld.other W19525 F19520 (Or.inr (slot_ne (Or.inr (hw _ (wm 48 rfl))) (Or.inr (hw _ (wm 56 rfl))) (by decide) (t := (.object "java/lang/String")) (t' := .int) (by decide) (by decide)))
  have F19527 := Fld.other W19525 F19521 (Or.inr (slot_ne (Or.inr (hw _ (wm 50 rfl))) (Or.inr (hw _ (wm 56 rfl))) (by decide) (t := (.object "java/lang/String")) (t' := .int) (by decide) (by decide)))
  have F19528 := Fld.other W19525 F19522 (Or.inr (slot_ne (Or.inr (hw _ (wm 52 rfl))) (Or.inr (hw _ (wm 56 rfl))) (by decide) (t := (.object "java/util/List")) (t' := .int) (by decide) (by decide)))
  have F19529 := Fld.other W19525 F19519 (Or.inr (slot_ne (Or.inr (hw _ (wm 54 rfl))) (Or.inr (hw _ (wm 56 rfl))) (by decide) (t := .int) (t' := .int) (by decide) (by decide)))
  have E19530 := Exa.wr W19525 E19524
  refine ost (mkF m 31 (Las187_0 b17483 q1) []) X19525 (fun t k => st19525 _ k) ?_
  refine OwnFin.retVoid X19525 (hb hby d7_31) (by decide) (by decide) ?_
  rw [e19525]
  exact ⟨rfl, N19525, (Keep.trans (Keep.trans (Keep.trans (Keep.trans (Keep.trans (Keep.refl h0 [b17483]) K19501 (allS (Or.inl (wm 0 rfl)) all0)) K19507 (allS (Or.inl (wm 0 rfl)) all0)) K19513 (allS (Or.inl (wm 0 rfl)) all0)) K19519 (allS (Or.inl (wm 0 rfl)) all0)) K19525 (allS (Or.inl (wm 0 rfl)) all0)), E19530, F19526, F19527, F19528, F19529, F19525⟩)
def Q10s17 (Z : State) (b5 : Addr) (b3062 : Addr) (b9140 : Addr) (b9240 : Addr) (b13361 : Addr) (h0 : Heap) (n0 : Nat) : Option Value → Heap → List Loc → Prop := fun v h L => v = none ∧ Fr n0 L ∧ Keep h0 h [b5, b9140] ∧ Exa Z h b5 "java/util/ArrayList" ∧ Fld Z h b5 "java/util/AbstractList" "modCount" "I" (.int (3 : Int32)) ∧ Fld Z h b5 "java/util/ArrayList" "elementData" "[Ljava/lang/Object;" (.ref b9140) ∧ Fld Z h b5 "java/util/ArrayList" "size" "I" (.int (3 : Int32)) ∧ AryR Z h b9140 "java/lang/Object" 10 (updN (updN (updN (fun _ => Value.null) ((0 : Int32)).toNatClampNeg (Value.ref b3062)) ((1 : Int32)).toNatClampNeg (Value.ref b9240)) ((2 : Int32)).toNatClampNeg (Value.ref b13361))
abbrev Las1710_0 (b5 : Addr) (b13361 : Addr) (b9140 : Addr) : Array Slot := #[.val (.ref b5), .val (.ref b13361), .val (.ref b9140), .val (.int (2 : Int32))]
set_option maxRecDepth 65536 in
set_option maxHeartbeats 40000000 in
theorem rm10s17 (l : Launch) (Z : State) (a0 : Array Value) (hw : ∀ d ∈ tables_1, d.before a0 Z = true) (ws : List Jvm.Cond) (b5 : Addr) (b3062 : Addr) (b9140 : Addr) (b9240 : Addr) (b13361 : Addr) (h0 : Heap) (n0 : Nat) (Z0 : n0 ≤ h0.size) (E_b5 : Exa Z h0 b5 "java/util/ArrayList") (F_modCount_b5 : Fld Z h0 b5 "java/util/AbstractList" "modCount" "I" (.int (3 : Int32))) (F_elementData_b5 : Fld Z h0 b5 "java/util/ArrayList" "elementData" "[Ljava/lang/Object;" (.ref b9140)) (F_size_b5 : Fld Z h0 b5 "java/util/ArrayList" "size" "I" (.int (2 : Int32))) (g_b5 : n0 ≤ b5) (A_b9140 : AryR Z h0 b9140 "java/lang/Object" 10 (updN (updN (fun _ => Value.null) ((0 : Int32)).toNatClampNeg (Value.ref b3062)) ((1 : Int32)).toNatClampNeg (Value.ref b9240))) (g_b9140 : n0 ≤ b9140) (E_b13361 : Exa Z h0 b13361 "com/example/ken2/ken2/InterpretedSystem$Variable") (ne_b5_b9140 : b5 ≠ b9140) :
    MetFree l Y9 (head1 (Jvm.Cond.code Y9 jdk_38_method_24_code 4 none :: ws) ({ frames := 0, cells := 0, slots := 0, locals := 0 } : Room)) (fun a U => a = #[(.ref b5), (.ref b13361), (.ref b9140), (.int (2 : Int32))] ∧ Z.Warmed39 U.vm ∧ U.heap = h0) (fun _ _ _ _ _ => True) (fun _ U o U' => ∃ v L, o = .returned v ∧ (Q10s17 Z b5 b3062 b9140 b9240 b13361 h0 n0) v U'.heap L ∧ FrameEnd U o U' L ({ frames := 0, cells := 0, slots := 0, locals := 0 } : Room).cells ({ frames := 0, cells := 0, slots := 0, locals := 0 } : Room).slots) :=
  own_met (ret := none) (Q := (Q10s17 Z b5 b3062 b9140 b9240 b13361 h0 n0)) (plainFor_of_name pn_10) (fun m => ef_10 m b5 b13361 b9140 (2 : Int32)) (fun p e s m below meth c T0 X0 hx hby hml hown hnm hZ e0 => by
  have N0 := Fr.nil n0
  refine ost (mkF m 1 (Las1710_0 b5 b13361 b9140) [(.int (2 : Int32))]) X0 (fun t k => XS.iloadN X0.here hx rfl (hb hby d10_0) rfl k) ?_
  refine ost (mkF m 2 (Las1710_0 b5 b13361 b9140) [(.ref b9140), (.int (2 : Int32))]) X0 (fun t k => XS.aloadN X0.here hx rfl (hb hby d10_1) rfl rfl k) ?_
  refine ost (mkF m 3 (Las1710_0 b5 b13361 b9140) [(.int (10 : Int32)), (.int (2 : Int32))]) X0 (fun t k => own_len X0 hx hZ e0 (A_b9140).1 (g := (mkF m 2 (Las1710_0 b5 b13361 b9140) [(.ref b9140), (.int (2 : Int32))])) rfl rfl (hb hby d10_2) _ k) ?_
  refine ost (mkF m 11 (Las1710_0 b5 b13361 b9140) []) X0 (fun t k => XS.icmpYes X0.here hx rfl (pc0 := 3) (pc' := 11) rfl (hb hby d10_3) rfl (feq (show ¬ ((2 : Int32) = (10 : Int32)) by first | decide | exact Int32.lt_irrefl _ | exact Int64.lt_irrefl _)).2 (by decide) (by decide) k) ?_
  refine ost (mkF m 12 (Las1710_0 b5 b13361 b9140) [(.ref b9140)]) X0 (fun t k => XS.aloadN X0.here hx rfl (hb hby d10_11) rfl rfl k) ?_
  refine ost (mkF m 13 (Las1710_0 b5 b13361 b9140) [(.int (2 : Int32)), (.ref b9140)]) X0 (fun t k => XS.iloadN X0.here hx rfl (hb hby d10_12) rfl k) ?_
  refine ost (mkF m 14 (Las1710_0 b5 b13361 b9140) [(.ref b13361), (.int (2 : Int32)), (.ref b9140)]) X0 (fun t k => XS.aloadN X0.here hx rfl (hb hby d10_13) rfl rfl k) ?_
  obtain ⟨T17434, h17434, L17434, X17434, e17434, N17434, K17434, A17434, st17434⟩ := own_stA X0 hx hZ e0 N0 (G := (updN (updN (fun _ => Value.null) ((0 : Int32)).toNatClampNeg (Value.ref b3062)) ((1 : Int32)).toNatClampNeg (Value.ref b9240))) A_b9140 g_b9140 (j := (2 : Int32)) (v := (.ref b13361)) (by decide) (own_sto A_b9140 E_b13361 (hw _ (wm 84 rfl))) (g := (mkF m 14 (Las1710_0 b5 b13361 b9140) [(.ref b13361), (.int (2 : Int32)), (.ref b9140)])) rfl rfl (hb hby d10_14)
  have Z17434 := Nat.le_trans Z0 K17434.1
  have S17434 := Nat.le_trans (Nat.le_refl h0.size) K17434.1
  refine ost (mkF m 15 (Las1710_0 b5 b13361 b9140) []) X17434 (fun t k => st17434 _ k) ?_
  refine ost (mkF m 16 (Las1710_0 b5 b13361 b9140) [(.ref b5)]) X17434 (fun t k => XS.aloadN X17434.here hx rfl (hb hby d10_15) rfl rfl k) ?_
  refine ost (mkF m 17 (Las1710_0 b5 b13361 b9140) [(.int (2 : Int32)), (.ref b5)]) X17434 (fun t k => XS.iloadN X17434.here hx rfl (hb hby d10_16) rfl k) ?_
  refine ost (mkF m 18 (Las1710_0 b5 b13361 b9140) [(.int (1 : Int32)), (.int (2 : Int32)), (.ref b5)]) X17434 (fun t k => XS.iconst X17434.here hx rfl (hb hby d10_17) k) ?_
  refine ost (mkF m 19 (Las1710_0 b5 b13361 b9140) [(.int (3 : Int32)), (.ref b5)]) X17434 (fun t k => XS.iadd X17434.here hx rfl (hb hby d10_18) rfl k) ?_
  have E17435 := (Exa.keep E_b5 K17434)
  have F17436 := (F_modCount_b5.keep K17434 (ninS ne_b5_b9140 nin0))
  have F17437 := (F_elementData_b5.keep K17434 (ninS ne_b5_b9140 nin0))
  have F17438 := (F_size_b5.keep K17434 (ninS ne_b5_b9140 nin0))
  obtain ⟨T17439, h17439, L17439, X17439, e17439, N17439, W17439, F17439, st17439⟩ := own_putF X17434 hx hZ hown (hw _ (wm 64 rfl)) e17434 N17434 F17438 E17435 g_b5 (Or.inl (hw _ (wm 65 rfl))) (hw _ (wm 10 rfl)) (fty := .int) (by decide) rfl rfl (g := (mkF m 19 (Las1710_0 b5 b13361 b9140) [(.int (3 : Int32)), (.ref b5)])) rfl rfl (hb hby d10_19)
  have K17439 := Keep.of_wr W17439
  have Z17439 := Nat.le_trans Z17434 K17439.1
  have S17439 := Nat.le_trans S17434 K17439.1
  have F17440 := Fld.other W17439 F17436 (Or.inr (slot_ne (Or.inl (hw _ (wm 31 rfl))) (Or.inl (hw _ (wm 65 rfl))) (by decide) (t := .int) (t' := .int) (by decide) (by decide)))
  have F17441 := Fld.other W17439 F17437 (Or.inr (slot_ne (Or.inl (hw _ (wm 34 rfl))) (Or.inl (hw _ (wm 65 rfl))) (by decide) (t := (.array (.object "java/lang/Object"))) (t' := .int) (by decide) (by decide)))
  have E17442 := Exa.wr W17439 E17435
  refine ost (mkF m 22 (Las1710_0 b5 b13361 b9140) []) X17439 (fun t k => st17439 _ k) ?_
  have A17443 := (A17434.keep K17439 (ninS (Ne.symm ne_b5_b9140) nin0))
  refine OwnFin.retVoid X17439 (hb hby d10_22) (by decide) (by decide) ?_
  rw [e17439]
  exact ⟨rfl, N17439, (Keep.trans (Keep.trans (Keep.refl h0 [b5, b9140]) K17434 (allS (Or.inl (wm 1 rfl)) all0)) K17439 (allS (Or.inl (wm 0 rfl)) all0)), E17442, F17440, F17441, F17439, A17443⟩)
def Q9s16 (Z : State) (b5 : Addr) (b3062 : Addr) (b9140 : Addr) (b9240 : Addr) (b13361 : Addr) (h0 : Heap) (n0 : Nat) : Option Value → Heap → List Loc → Prop := fun v h L => v = some (.int (nar .boolean (1 : Int32))) ∧ Fr n0 L ∧ Keep h0 h [b5, b9140] ∧ Exa Z h b5 "java/util/ArrayList" ∧ Fld Z h b5 "java/util/AbstractList" "modCount" "I" (.int (3 : Int32)) ∧ Fld Z h b5 "java/util/ArrayList" "elementData" "[Ljava/lang/Object;" (.ref b9140) ∧ Fld Z h b5 "java/util/ArrayList" "size" "I" (.int (3 : Int32)) ∧ AryR Z h b9140 "java/lang/Object" 10 (updN (updN (updN (fun _ => Value.null) ((0 : Int32)).toNatClampNeg (Value.ref b3062)) ((1 : Int32)).toNatClampNeg (Value.ref b9240)) ((2 : Int32)).toNatClampNeg (Value.ref b13361))
set_option maxRecDepth 65536 in
set_option maxHeartbeats 40000000 in
theorem rm9s16 (l : Launch) (Z : State) (a0 : Array Value) (hw : ∀ d ∈ tables_1, d.before a0 Z = true) (ws : List Jvm.Cond) (b5 : Addr) (b3062 : Addr) (b9140 : Addr) (b9240 : Addr) (b13361 : Addr) (h0 : Heap) (n0 : Nat) (Z0 : n0 ≤ h0.size) (E_b5 : Exa Z h0 b5 "java/util/ArrayList") (F_modCount_b5 : Fld Z h0 b5 "java/util/AbstractList" "modCount" "I" (.int (2 : Int32))) (F_elementData_b5 : Fld Z h0 b5 "java/util/ArrayList" "elementData" "[Ljava/lang/Object;" (.ref b9140)) (F_size_b5 : Fld Z h0 b5 "java/util/ArrayList" "size" "I" (.int (2 : Int32))) (g_b5 : n0 ≤ b5) (A_b9140 : AryR Z h0 b9140 "java/lang/Object" 10 (updN (updN (fun _ => Value.null) ((0 : Int32)).toNatClampNeg (Value.ref b3062)) ((1 : Int32)).toNatClampNeg (Value.ref b9240))) (g_b9140 : n0 ≤ b9140) (E_b13361 : Exa Z h0 b13361 "com/example/ken2/ken2/InterpretedSystem$Variable") (ne_b5_b9140 : b5 ≠ b9140) :
    MetFree l Y10 (head1 (Jvm.Cond.code Y10 jdk_38_method_25_code 2 (some .boolean) :: ws) ({ frames := 1, cells := 0, slots := 0, locals := 15 } : Room)) (fun a U => a = #[(.ref b5), (.ref b13361)] ∧ Z.Warmed39 U.vm ∧ U.heap = h0) (fun _ _ _ _ _ => True) (fun _ U o U' => ∃ v L, o = .returned v ∧ (Q9s16 Z b5 b3062 b9140 b9240 b13361 h0 n0) v U'.heap L ∧ FrameEnd U o U' L ({ frames := 1, cells := 0, slots := 0, locals := 15 } : Room).cells ({ frames := 1, cells := 0, slots := 0, locals := 15 } : Room).slots) :=
  own_met (ret := (some .boolean)) (Q := (Q9s16 Z b5 b3062 b9140 b9240 b13361 h0 n0)) (plainFor_of_name pn_9) (fun m => ef_9 m b5 b13361) (fun p e s m below meth c T0 X0 hx hby hml hown hnm hZ e0 => by
  have N0 := Fr.nil n0
  refine ost (mkF m 1 #[.val (.ref b5), .val (.ref b13361)] [(.ref b5)]) X0 (fun t k => XS.aloadN X0.here hx rfl (hb hby d9_0) rfl rfl k) ?_
  refine ost (mkF m 2 #[.val (.ref b5), .val (.ref b13361)] [(.ref b5), (.ref b5)]) X0 (fun t k => XS.dup X0.here hx rfl (hb hby d9_1) rfl rfl k) ?_
  obtain ⟨T16426, X16426, e16426, st16426⟩ := getF X0 hx hZ hown (host := "") (Or.inl (hw _ (wm 62 rfl))) (Via.of (hw _ (wm 63 rfl))) e0 F_modCount_b5 (g := (mkF m 2 #[.val (.ref b5), .val (.ref b13361)] [(.ref b5), (.ref b5)])) rfl rfl (hb hby d9_2)
  refine ost (mkF m 5 #[.val (.ref b5), .val (.ref b13361)] [(.int (2 : Int32)), (.ref b5)]) X16426 (fun t k => st16426 _ k) ?_
  refine ost (mkF m 6 #[.val (.ref b5), .val (.ref b13361)] [(.int (1 : Int32)), (.int (2 : Int32)), (.ref b5)]) X16426 (fun t k => XS.iconst X16426.here hx rfl (hb hby d9_5) k) ?_
  refine ost (mkF m 7 #[.val (.ref b5), .val (.ref b13361)] [(.int (3 : Int32)), (.ref b5)]) X16426 (fun t k => XS.iadd X16426.here hx rfl (hb hby d9_6) rfl k) ?_
  obtain ⟨T16427, h16427, L16427, X16427, e16427, N16427, W16427, F16427, st16427⟩ := own_putFV X16426 hx hZ hown (hw _ (wm 62 rfl)) (Via.of (hw _ (wm 63 rfl))) e16426 N0 F_modCount_b5 E_b5 g_b5 (Or.inl (hw _ (wm 31 rfl))) (hw _ (wm 10 rfl)) (fty := .int) (by decide) rfl rfl (g := (mkF m 7 #[.val (.ref b5), .val (.ref b13361)] [(.int (3 : Int32)), (.ref b5)])) rfl rfl (hb hby d9_7)
  have K16427 := Keep.of_wr W16427
  have Z16427 := Nat.le_trans Z0 K16427.1
  have S16427 := Nat.le_trans (Nat.le_refl h0.size) K16427.1
  have F16428 := Fld.other W16427 F_elementData_b5 (Or.inr (slot_ne (Or.inl (hw _ (wm 34 rfl))) (Or.inl (hw _ (wm 31 rfl))) (by decide) (t := (.array (.object "java/lang/Object"))) (t' := .int) (by decide) (by decide)))
  have F16429 := Fld.other W16427 F_size_b5 (Or.inr (slot_ne (Or.inl (hw _ (wm 65 rfl))) (Or.inl (hw _ (wm 31 rfl))) (by decide) (t := .int) (t' := .int) (by decide) (by decide)))
  have E16430 := Exa.wr W16427 E_b5
  refine ost (mkF m 10 #[.val (.ref b5), .val (.ref b13361)] []) X16427 (fun t k => st16427 _ k) ?_
  refine ost (mkF m 11 #[.val (.ref b5), .val (.ref b13361)] [(.ref b5)]) X16427 (fun t k => XS.aloadN X16427.here hx rfl (hb hby d9_10) rfl rfl k) ?_
  refine ost (mkF m 12 #[.val (.ref b5), .val (.ref b13361)] [(.ref b13361), (.ref b5)]) X16427 (fun t k => XS.aloadN X16427.here hx rfl (hb hby d9_11) rfl rfl k) ?_
  refine ost (mkF m 13 #[.val (.ref b5), .val (.ref b13361)] [(.ref b5), (.ref b13361), (.ref b5)]) X16427 (fun t k => XS.aloadN X16427.here hx rfl (hb hby d9_12) rfl rfl k) ?_
  obtain ⟨T16431, X16431, e16431, st16431⟩ := getF X16427 hx hZ hown (host := "") (Or.inl (hw _ (wm 33 rfl))) Via.refl e16427 F16428 (g := (mkF m 13 #[.val (.ref b5), .val (.ref b13361)] [(.ref b5), (.ref b13361), (.ref b5)])) rfl rfl (hb hby d9_13)
  refine ost (mkF m 16 #[.val (.ref b5), .val (.ref b13361)] [(.ref b9140), (.ref b13361), (.ref b5)]) X16431 (fun t k => st16431 _ k) ?_
  refine ost (mkF m 17 #[.val (.ref b5), .val (.ref b13361)] [(.ref b5), (.ref b9140), (.ref b13361), (.ref b5)]) X16431 (fun t k => XS.aloadN X16431.here hx rfl (hb hby d9_16) rfl rfl k) ?_
  obtain ⟨T16432, X16432, e16432, st16432⟩ := getF X16431 hx hZ hown (host := "") (Or.inl (hw _ (wm 64 rfl))) Via.refl e16431 F16429 (g := (mkF m 17 #[.val (.ref b5), .val (.ref b13361)] [(.ref b5), (.ref b9140), (.ref b13361), (.ref b5)])) rfl rfl (hb hby d9_17)
  refine ost (mkF m 20 #[.val (.ref b5), .val (.ref b13361)] [(.int (2 : Int32)), (.ref b9140), (.ref b13361), (.ref b5)]) X16432 (fun t k => st16432 _ k) ?_
  have A17454 := (A_b9140.keep K16427 (ninS (Ne.symm ne_b5_b9140) nin0))
  have E17455 := (Exa.keep E_b13361 K16427)
  obtain ⟨_, T16433, L16433, X16433, ⟨rfl, N16433q, u17456, u17457, u17458, u17459, u17460, u17461⟩, st16433⟩ := own_callP X16432 hx hZ (y := Y9) (W := 0) (a := b5) (argsL := [(.ref b13361), (.ref b9140), (.int (2 : Int32))]) (rest := []) hown (hw _ (wm 66 rfl)) (hw _ (wm 60 rfl)) rfl (hw _ (wm 67 rfl)) (hw _ (wm 68 rfl)) (hw _ (wm 11 rfl)) (hw _ (wm 70 rfl)) (by decide) E16430 (rm10s17 l Z a0 hw [] b5 b3062 b9140 b9240 b13361 h16427 n0 Z16427 E16430 F16427 F16428 F16429 g_b5 A17454 g_b9140 E17455 ne_b5_b9140) (by decide) (by decide) (by decide) (by decide) e16432 (g := (mkF m 20 #[.val (.ref b5), .val (.ref b13361)] [(.int (2 : Int32)), (.ref b9140), (.ref b13361), (.ref b5)])) rfl (by rw [hml]; rfl) pd_6 rfl rfl (by show 2 * 0 + _ ≤ _; exact Nat.le_of_eq rfl) (hb hby d9_20)
  have N16433 := Fr.app N16427 N16433q
  obtain ⟨h16433, e16433⟩ : ∃ z, T16433.heap = z := ⟨_, rfl⟩
  rw [e16433] at u17456 u17457 u17458 u17459 u17460 u17461
  have K16433 := u17456
  have Z16433 := Nat.le_trans Z16427 K16433.1
  have S16433 := Nat.le_trans S16427 K16433.1
  refine ost (mkF m 23 #[.val (.ref b5), .val (.ref b13361)] []) X16433 (fun t k => st16433 _ k) ?_
  refine ost (mkF m 24 #[.val (.ref b5), .val (.ref b13361)] [(.int (1 : Int32))]) X16433 (fun t k => XS.iconst X16433.here hx rfl (hb hby d9_23) k) ?_
  refine OwnFin.retNar X16433 (by simp) (hb hby d9_24) (by decide) (by decide) ?_
  rw [e16433]
  exact ⟨rfl, N16433, (Keep.trans (Keep.trans (Keep.refl h0 [b5, b9140]) K16427 (allS (Or.inl (wm 0 rfl)) all0)) K16433 (allS (Or.inl (wm 0 rfl)) (allS (Or.inl (wm 1 rfl)) all0))), u17457, u17458, u17459, u17460, u17461⟩)
def Q8s15 (Z : State) (b13361 : Addr) (h0 : Heap) (n0 : Nat) : Option Value → Heap → List Loc → Prop := fun v h L => v = none ∧ Fr n0 L ∧ h = h0
set_option maxRecDepth 65536 in
set_option maxHeartbeats 40000000 in
theorem rm8s15 (l : Launch) (Z : State) (a0 : Array Value) (hw : ∀ d ∈ tables_1, d.before a0 Z = true) (ws : List Jvm.Cond) (b13361 : Addr) (h0 : Heap) (n0 : Nat) (Z0 : n0 ≤ h0.size) :
    MetFree l Y5 (head1 (Jvm.Cond.code Y5 jdk_30_method_1_code 1 none :: ws) ({ frames := 1, cells := 0, slots := 0, locals := 12 } : Room)) (fun a U => a = #[(.ref b13361)] ∧ Z.Warmed39 U.vm ∧ U.heap = h0) (fun _ _ _ _ _ => True) (fun _ U o U' => ∃ v L, o = .returned v ∧ (Q8s15 Z b13361 h0 n0) v U'.heap L ∧ FrameEnd U o U' L ({ frames := 1, cells := 0, slots := 0, locals := 12 } : Room).cells ({ frames := 1, cells := 0, slots := 0, locals := 12 } : Room).slots) :=
  own_met (ret := none) (Q := (Q8s15 Z b13361 h0 n0)) (plainFor_of_name pn_8) (fun m => ef_8 m b13361) (fun p e s m below meth c T0 X0 hx hby hml hown hnm hZ e0 => by
  have N0 := Fr.nil n0
  refine ost (mkF m 1 #[.val (.ref b13361)] [(.ref b13361)]) X0 (fun t k => XS.aloadN X0.here hx rfl (hb hby d8_0) rfl rfl k) ?_
  obtain ⟨T15366, X15366, e15366, st15366⟩ := initO X0 hx hZ hown (hw _ (wm 46 rfl)) (hw _ (wm 28 rfl)) (hw _ (wm 29 rfl)) e0 (g := (mkF m 1 #[.val (.ref b13361)] [(.ref b13361)])) rfl (by rw [hml]; rfl) rfl (hb hby d8_1) (by decide) (W := 0) (by show 2 * 0 + _ ≤ _; exact Nat.le_of_eq rfl) (by decide)
  refine ost (mkF m 4 #[.val (.ref b13361)] []) X15366 (fun t k => st15366 _ k) ?_
  refine OwnFin.retVoid X15366 (hb hby d8_4) (by decide) (by decide) ?_
  rw [e15366]
  exact ⟨rfl, N0, rfl⟩)
def Q7s14 (Z : State) (q1 : Int64) (b13361 : Addr) (h0 : Heap) (n0 : Nat) : Option Value → Heap → List Loc → Prop := fun v h L => v = none ∧ Fr n0 L ∧ Keep h0 h [b13361] ∧ Exa Z h b13361 "com/example/ken2/ken2/InterpretedSystem$Variable" ∧ Fld Z h b13361 "com/example/ken2/ken2/InterpretedSystem$Variable" "agent" "Ljava/lang/String;" .null ∧ Fld Z h b13361 "com/example/ken2/ken2/InterpretedSystem$Variable" "name" "Ljava/lang/String;" .null ∧ Fld Z h b13361 "com/example/ken2/ken2/InterpretedSystem$Variable" "values" "Ljava/util/List;" .null ∧ Fld Z h b13361 "com/example/ken2/ken2/InterpretedSystem$Variable" "low" "I" (.int (0 : Int32)) ∧ Fld Z h b13361 "com/example/ken2/ken2/InterpretedSystem$Variable" "size" "I" (.int (v0_25 q1))
abbrev Las147_0 (b13361 : Addr) (q1 : Int64) : Array Slot := #[.val (.ref b13361), .val .null, .val .null, .val .null, .val (.int (0 : Int32)), .val (.int (v0_25 q1))]
set_option maxRecDepth 65536 in
set_option maxHeartbeats 40000000 in
theorem rm7s14 (l : Launch) (Z : State) (a0 : Array Value) (hw : ∀ d ∈ tables_1, d.before a0 Z = true) (ws : List Jvm.Cond) (q1 : Int64) (b13361 : Addr) (h0 : Heap) (n0 : Nat) (Z0 : n0 ≤ h0.size) (E_b13361 : Exa Z h0 b13361 "com/example/ken2/ken2/InterpretedSystem$Variable") (F_agent_b13361 : Fld Z h0 b13361 "com/example/ken2/ken2/InterpretedSystem$Variable" "agent" "Ljava/lang/String;" .null) (F_name_b13361 : Fld Z h0 b13361 "com/example/ken2/ken2/InterpretedSystem$Variable" "name" "Ljava/lang/String;" .null) (F_values_b13361 : Fld Z h0 b13361 "com/example/ken2/ken2/InterpretedSystem$Variable" "values" "Ljava/util/List;" .null) (F_low_b13361 : Fld Z h0 b13361 "com/example/ken2/ken2/InterpretedSystem$Variable" "low" "I" (.int (0 : Int32))) (F_size_b13361 : Fld Z h0 b13361 "com/example/ken2/ken2/InterpretedSystem$Variable" "size" "I" (.int (0 : Int32))) (g_b13361 : n0 ≤ b13361) :
    MetFree l Y6 (head1 (Jvm.Cond.code Y6 prog_64_method_1_code 6 none :: ws) ({ frames := 2, cells := 0, slots := 0, locals := 24 } : Room)) (fun a U => a = #[(.ref b13361), .null, .null, .null, (.int (0 : Int32)), (.int (v0_25 q1))] ∧ Z.Warmed39 U.vm ∧ U.heap = h0) (fun _ _ _ _ _ => True) (fun _ U o U' => ∃ v L, o = .returned v ∧ (Q7s14 Z q1 b13361 h0 n0) v U'.heap L ∧ FrameEnd U o U' L ({ frames := 2, cells := 0, slots := 0, locals := 24 } : Room).cells ({ frames := 2, cells := 0, slots := 0, locals := 24 } : Room).slots) :=
  own_met (ret := none) (Q := (Q7s14 Z q1 b13361 h0 n0)) (plainFor_of_name pn_7) (fun m => ef_7n1n2n3 m b13361 (0 : Int32) (v0_25 q1)) (fun p e s m below meth c T0 X0 hx hby hml hown hnm hZ e0 => by
  have N0 := Fr.nil n0
  refine ost (mkF m 1 (Las147_0 b13361 q1) [(.ref b13361)]) X0 (fun t k => XS.aloadN X0.here hx rfl (hb hby d7_0) rfl rfl k) ?_
  obtain ⟨_, T14365, L14365, X14365, ⟨rfl, N14365q, u15377⟩, st14365⟩ := own_callI X0 hx hZ (y := Y5) (W := 0) (a := b13361) (argsL := []) (rest := []) rfl hown (hw _ (wm 41 rfl)) (hw _ (wm 42 rfl)) (hw _ (wm 44 rfl)) (hw _ (wm 45 rfl)) (by decide) (rm8s15 l Z a0 hw [] b13361 h0 n0 Z0 ) (by decide) (by decide) (by decide) (by decide) e0 (g := (mkF m 1 (Las147_0 b13361 q1) [(.ref b13361)])) rfl (by rw [hml]; rfl) pd_2 rfl rfl (by show 2 * 0 + _ ≤ _; exact Nat.le_of_eq rfl) (hb hby d7_1)
  have N14365 := Fr.app N0 N14365q
  refine ost (mkF m 4 (Las147_0 b13361 q1) []) X14365 (fun t k => st14365 _ k) ?_
  refine ost (mkF m 5 (Las147_0 b13361 q1) [(.ref b13361)]) X14365 (fun t k => XS.aloadN X14365.here hx rfl (hb hby d7_4) rfl rfl k) ?_
  refine ost (mkF m 6 (Las147_0 b13361 q1) [.null, (.ref b13361)]) X14365 (fun t k => XS.aloadN X14365.here hx rfl (hb hby d7_5) rfl rfl k) ?_
  obtain ⟨T15378, h15378, L15378, X15378, e15378, N15378, W15378, F15378, st15378⟩ := own_putF X14365 hx hZ hown (hw _ (wm 47 rfl)) u15377 N14365 F_agent_b13361 E_b13361 g_b13361 (Or.inr ⟨(hw _ (wm 48 rfl)), rfl, hnm⟩) (hw _ (wm 36 rfl)) (fty := (.object "java/lang/String")) (by decide) rfl rfl (g := (mkF m 6 (Las147_0 b13361 q1) [.null, (.ref b13361)])) rfl rfl (hb hby d7_6)
  have K15378 := Keep.of_wr W15378
  have Z15378 := Nat.le_trans Z0 K15378.1
  have S15378 := Nat.le_trans (Nat.le_refl h0.size) K15378.1
  have F15379 := Fld.other W15378 F_name_b13361 (Or.inr (slot_ne (Or.inr (hw _ (wm 50 rfl))) (Or.inr (hw _ (wm 48 rfl))) (by decide) (t := (.object "java/lang/String")) (t' := (.object "java/lang/String")) (by decide) (by decide)))
  have F15380 := Fld.other W15378 F_values_b13361 (Or.inr (slot_ne (Or.inr (hw _ (wm 52 rfl))) (Or.inr (hw _ (wm 48 rfl))) (by decide) (t := (.object "java/util/List")) (t' := (.object "java/lang/String")) (by decide) (by decide)))
  have F15381 := Fld.other W15378 F_low_b13361 (Or.inr (slot_ne (Or.inr (hw _ (wm 54 rfl))) (Or.inr (hw _ (wm 48 rfl))) (by decide) (t := .int) (t' := (.object "java/lang/String")) (by decide) (by decide)))
  have F15382 := Fld.other W15378 F_size_b13361 (Or.inr (slot_ne (Or.inr (hw _ (wm 56 rfl))) (Or.inr (hw _ (wm 48 rfl))) (by decide) (t := .int) (t' := (.object "java/lang/String")) (by decide) (by decide)))
  have E15383 := Exa.wr W15378 E_b13361
  refine ost (mkF m 9 (Las147_0 b13361 q1) []) X15378 (fun t k => st15378 _ k) ?_
  refine ost (mkF m 10 (Las147_0 b13361 q1) [(.ref b13361)]) X15378 (fun t k => XS.aloadN X15378.here hx rfl (hb hby d7_9) rfl rfl k) ?_
  refine ost (mkF m 11 (Las147_0 b13361 q1) [.null, (.ref b13361)]) X15378 (fun t k => XS.aloadN X15378.here hx rfl (hb hby d7_10) rfl rfl k) ?_
  obtain ⟨T15384, h15384, L15384, X15384, e15384, N15384, W15384, F15384, st15384⟩ := own_putF X15378 hx hZ hown (hw _ (wm 49 rfl)) e15378 N15378 F15379 E15383 g_b13361 (Or.inr ⟨(hw _ (wm 50 rfl)), rfl, hnm⟩) (hw _ (wm 36 rfl)) (fty := (.object "java/lang/String")) (by decide) rfl rfl (g := (mkF m 11 (Las147_0 b13361 q1) [.null, (.ref b13361)])) rfl rfl (hb hby d7_11)
  have K15384 := Keep.of_wr W15384
  have Z15384 := Nat.le_trans Z15378 K15384.1
  have S15384 := Nat.le_trans S15378 K15384.1
  have F15385 := Fld.other W15384 F15378 (Or.inr (slot_ne (Or.inr (hw _ (wm 48 rfl))) (Or.inr (hw _ (wm 50 rfl))) (by decide) (t := (.object "java/lang/String")) (t' := (.object "java/lang/String")) (by decide) (by decide)))
  have F15386 := Fld.other W15384 F15380 (Or.inr (slot_ne (Or.inr (hw _ (wm 52 rfl))) (Or.inr (hw _ (wm 50 rfl))) (by decide) (t := (.object "java/util/List")) (t' := (.object "java/lang/String")) (by decide) (by decide)))
  have F15387 := Fld.other W15384 F15381 (Or.inr (slot_ne (Or.inr (hw _ (wm 54 rfl))) (Or.inr (hw _ (wm 50 rfl))) (by decide) (t := .int) (t' := (.object "java/lang/String")) (by decide) (by decide)))
  have F15388 := Fld.other W15384 F15382 (Or.inr (slot_ne (Or.inr (hw _ (wm 56 rfl))) (Or.inr (hw _ (wm 50 rfl))) (by decide) (t := .int) (t' := (.object "java/lang/String")) (by decide) (by decide)))
  have E15389 := Exa.wr W15384 E15383
  refine ost (mkF m 14 (Las147_0 b13361 q1) []) X15384 (fun t k => st15384 _ k) ?_
  refine ost (mkF m 15 (Las147_0 b13361 q1) [(.ref b13361)]) X15384 (fun t k => XS.aloadN X15384.here hx rfl (hb hby d7_14) rfl rfl k) ?_
  refine ost (mkF m 16 (Las147_0 b13361 q1) [.null, (.ref b13361)]) X15384 (fun t k => XS.aloadN X15384.here hx rfl (hb hby d7_15) rfl rfl k) ?_
  obtain ⟨T15390, h15390, L15390, X15390, e15390, N15390, W15390, F15390, st15390⟩ := own_putF X15384 hx hZ hown (hw _ (wm 51 rfl)) e15384 N15384 F15386 E15389 g_b13361 (Or.inr ⟨(hw _ (wm 52 rfl)), rfl, hnm⟩) (hw _ (wm 36 rfl)) (fty := (.object "java/util/List")) (by decide) rfl rfl (g := (mkF m 16 (Las147_0 b13361 q1) [.null, (.ref b13361)])) rfl rfl (hb hby d7_16)
  have K15390 := Keep.of_wr W15390
  have Z15390 := Nat.le_trans Z15384 K15390.1
  have S15390 := Nat.le_trans S15384 K15390.1
  have F15391 := Fld.other W15390 F15385 (Or.inr (slot_ne (Or.inr (hw _ (wm 48 rfl))) (Or.inr (hw _ (wm 52 rfl))) (by decide) (t := (.object "java/lang/String")) (t' := (.object "java/util/List")) (by decide) (by decide)))
  have F15392 := Fld.other W15390 F15384 (Or.inr (slot_ne (Or.inr (hw _ (wm 50 rfl))) (Or.inr (hw _ (wm 52 rfl))) (by decide) (t := (.object "java/lang/String")) (t' := (.object "java/util/List")) (by decide) (by decide)))
  have F15393 := Fld.other W15390 F15387 (Or.inr (slot_ne (Or.inr (hw _ (wm 54 rfl))) (Or.inr (hw _ (wm 52 rfl))) (by decide) (t := .int) (t' := (.object "java/util/List")) (by decide) (by decide)))
  have F15394 := Fld.other W15390 F15388 (Or.inr (slot_ne (Or.inr (hw _ (wm 56 rfl))) (Or.inr (hw _ (wm 52 rfl))) (by decide) (t := .int) (t' := (.object "java/util/List")) (by decide) (by decide)))
  have E15395 := Exa.wr W15390 E15389
  refine ost (mkF m 19 (Las147_0 b13361 q1) []) X15390 (fun t k => st15390 _ k) ?_
  refine ost (mkF m 20 (Las147_0 b13361 q1) [(.ref b13361)]) X15390 (fun t k => XS.aloadN X15390.here hx rfl (hb hby d7_19) rfl rfl k) ?_
  refine ost (mkF m 22 (Las147_0 b13361 q1) [(.int (0 : Int32)), (.ref b13361)]) X15390 (fun t k => XS.iload X15390.here hx rfl (hb hby d7_20) rfl k) ?_
  obtain ⟨T15396, h15396, L15396, X15396, e15396, N15396, W15396, F15396, st15396⟩ := own_putF X15390 hx hZ hown (hw _ (wm 53 rfl)) e15390 N15390 F15393 E15395 g_b13361 (Or.inr ⟨(hw _ (wm 54 rfl)), rfl, hnm⟩) (hw _ (wm 36 rfl)) (fty := .int) (by decide) rfl rfl (g := (mkF m 22 (Las147_0 b13361 q1) [(.int (0 : Int32)), (.ref b13361)])) rfl rfl (hb hby d7_22)
  have K15396 := Keep.of_wr W15396
  have Z15396 := Nat.le_trans Z15390 K15396.1
  have S15396 := Nat.le_trans S15390 K15396.1
  have F15397 := Fld.other W15396 F15391 (Or.inr (slot_ne (Or.inr (hw _ (wm 48 rfl))) (Or.inr (hw _ (wm 54 rfl))) (by decide) (t := (.object "java/lang/String")) (t' := .int) (by decide) (by decide)))
  have F15398 := Fld.other W15396 F15392 (Or.inr (slot_ne (Or.inr (hw _ (wm 50 rfl))) (Or.inr (hw _ (wm 54 rfl))) (by decide) (t := (.object "java/lang/String")) (t' := .int) (by decide) (by decide)))
  have F15399 := Fld.other W15396 F15390 (Or.inr (slot_ne (Or.inr (hw _ (wm 52 rfl))) (Or.inr (hw _ (wm 54 rfl))) (by decide) (t := (.object "java/util/List")) (t' := .int) (by decide) (by decide)))
  have F15400 := Fld.other W15396 F15394 (Or.inr (slot_ne (Or.inr (hw _ (wm 56 rfl))) (Or.inr (hw _ (wm 54 rfl))) (by decide) (t := .int) (t' := .int) (by decide) (by decide)))
  have E15401 := Exa.wr W15396 E15395
  refine ost (mkF m 25 (Las147_0 b13361 q1) []) X15396 (fun t k => st15396 _ k) ?_
  refine ost (mkF m 26 (Las147_0 b13361 q1) [(.ref b13361)]) X15396 (fun t k => XS.aloadN X15396.here hx rfl (hb hby d7_25) rfl rfl k) ?_
  refine ost (mkF m 28 (Las147_0 b13361 q1) [(.int (v0_25 q1)), (.ref b13361)]) X15396 (fun t k => XS.iload X15396.here hx rfl (hb hby d7_26) rfl k) ?_
  obtain ⟨T15402, h15402, L15402, X15402, e15402, N15402, W15402, F15402, st15402⟩ := own_putF X15396 hx hZ hown (hw _ (wm 55 rfl)) e15396 N15396 F15400 E15401 g_b13361 (Or.inr ⟨(hw _ (wm 56 rfl)), rfl, hnm⟩) (hw _ (wm 36 rfl)) (fty := .int) (by decide) rfl rfl (g := (mkF m 28 (Las147_0 b13361 q1) [(.int (v0_25 q1)), (.ref b13361)])) rfl rfl (hb hby d7_28)
  have K15402 := Keep.of_wr W15402
  have Z15402 := Nat.le_trans Z15396 K15402.1
  have S15402 := Nat.le_trans S15396 K15402.1
  have F15403 := Fld.other W15402 F15397 (Or.inr (slot_ne (Or.inr (hw _ (wm 48 rfl))) (Or.inr (hw _ (wm 56 rfl))) (by decide) (t := (.object "java/lang/String")) (t' := .int) (by decide) (by decide)))
  have F15404 := Fld.other W15402 F15398 (Or.inr (slot_ne (Or.inr (hw _ (wm 50 rfl))) (Or.inr (hw _ (wm 56 rfl))) (by decide) (t := (.object "java/lang/String")) (t' := .int) (by decide) (by decide)))
  have F15405 := Fld.other W15402 F15399 (Or.inr (slot_ne (Or.inr (hw _ (wm 52 rfl))) (Or.inr (hw _ (wm 56 rfl))) (by decide) (t := (.object "java/util/List")) (t' := .int) (by decide) (by decide)))
  have F15406 := Fld.other W15402 F15396 (Or.inr (slot_ne (Or.inr (hw _ (wm 54 rfl))) (Or.inr (hw _ (wm 56 rfl))) (by decide) (t := .int) (t' := .int) (by decide) (by decide)))
  have E15407 := Exa.wr W15402 E15401
  refine ost (mkF m 31 (Las147_0 b13361 q1) []) X15402 (fun t k => st15402 _ k) ?_
  refine OwnFin.retVoid X15402 (hb hby d7_31) (by decide) (by decide) ?_
  rw [e15402]
  exact ⟨rfl, N15402, (Keep.trans (Keep.trans (Keep.trans (Keep.trans (Keep.trans (Keep.refl h0 [b13361]) K15378 (allS (Or.inl (wm 0 rfl)) all0)) K15384 (allS (Or.inl (wm 0 rfl)) all0)) K15390 (allS (Or.inl (wm 0 rfl)) all0)) K15396 (allS (Or.inl (wm 0 rfl)) all0)) K15402 (allS (Or.inl (wm 0 rfl)) all0)), E15407, F15403, F15404, F15405, F15406, F15402⟩)
def Q10s13 (Z : State) (b5 : Addr) (b3062 : Addr) (b9140 : Addr) (b9240 : Addr) (h0 : Heap) (n0 : Nat) : Option Value → Heap → List Loc → Prop := fun v h L => v = none ∧ Fr n0 L ∧ Keep h0 h [b5, b9140] ∧ Exa Z h b5 "java/util/ArrayList" ∧ Fld Z h b5 "java/util/AbstractList" "modCount" "I" (.int (2 : Int32)) ∧ Fld Z h b5 "java/util/ArrayList" "elementData" "[Ljava/lang/Object;" (.ref b9140) ∧ Fld Z h b5 "java/util/ArrayList" "size" "I" (.int (2 : Int32)) ∧ AryR Z h b9140 "java/lang/Object" 10 (updN (updN (fun _ => Value.null) ((0 : Int32)).toNatClampNeg (Value.ref b3062)) ((1 : Int32)).toNatClampNeg (Value.ref b9240))
abbrev Las1310_0 (b5 : Addr) (b9240 : Addr) (b9140 : Addr) : Array Slot := #[.val (.ref b5), .val (.ref b9240), .val (.ref b9140), .val (.int (1 : Int32))]
set_option maxRecDepth 65536 in
set_option maxHeartbeats 40000000 in
theorem rm10s13 (l : Launch) (Z : State) (a0 : Array Value) (hw : ∀ d ∈ tables_1, d.before a0 Z = true) (ws : List Jvm.Cond) (b5 : Addr) (b3062 : Addr) (b9140 : Addr) (b9240 : Addr) (h0 : Heap) (n0 : Nat) (Z0 : n0 ≤ h0.size) (E_b5 : Exa Z h0 b5 "java/util/ArrayList") (F_modCount_b5 : Fld Z h0 b5 "java/util/AbstractList" "modCount" "I" (.int (2 : Int32))) (F_elementData_b5 : Fld Z h0 b5 "java/util/ArrayList" "elementData" "[Ljava/lang/Object;" (.ref b9140)) (F_size_b5 : Fld Z h0 b5 "java/util/ArrayList" "size" "I" (.int (1 : Int32))) (g_b5 : n0 ≤ b5) (A_b9140 : AryR Z h0 b9140 "java/lang/Object" 10 (updN (fun _ => Value.null) ((0 : Int32)).toNatClampNeg (Value.ref b3062))) (g_b9140 : n0 ≤ b9140) (E_b9240 : Exa Z h0 b9240 "com/example/ken2/ken2/InterpretedSystem$Variable") (ne_b5_b9140 : b5 ≠ b9140) :
    MetFree l Y9 (head1 (Jvm.Cond.code Y9 jdk_38_method_24_code 4 none :: ws) ({ frames := 0, cells := 0, slots := 0, locals := 0 } : Room)) (fun a U => a = #[(.ref b5), (.ref b9240), (.ref b9140), (.int (1 : Int32))] ∧ Z.Warmed39 U.vm ∧ U.heap = h0) (fun _ _ _ _ _ => True) (fun _ U o U' => ∃ v L, o = .returned v ∧ (Q10s13 Z b5 b3062 b9140 b9240 h0 n0) v U'.heap L ∧ FrameEnd U o U' L ({ frames := 0, cells := 0, slots := 0, locals := 0 } : Room).cells ({ frames := 0, cells := 0, slots := 0, locals := 0 } : Room).slots) :=
  own_met (ret := none) (Q := (Q10s13 Z b5 b3062 b9140 b9240 h0 n0)) (plainFor_of_name pn_10) (fun m => ef_10 m b5 b9240 b9140 (1 : Int32)) (fun p e s m below meth c T0 X0 hx hby hml hown hnm hZ e0 => by
  have N0 := Fr.nil n0
  refine ost (mkF m 1 (Las1310_0 b5 b9240 b9140) [(.int (1 : Int32))]) X0 (fun t k => XS.iloadN X0.here hx rfl (hb hby d10_0) rfl k) ?_
  refine ost (mkF m 2 (Las1310_0 b5 b9240 b9140) [(.ref b9140), (.int (1 : Int32))]) X0 (fun t k => XS.aloadN X0.here hx rfl (hb hby d10_1) rfl rfl k) ?_
  refine ost (mkF m 3 (Las1310_0 b5 b9240 b9140) [(.int (10 : Int32)), (.int (1 : Int32))]) X0 (fun t k => own_len X0 hx hZ e0 (A_b9140).1 (g := (mkF m 2 (Las1310_0 b5 b9240 b9140) [(.ref b9140), (.int (1 : Int32))])) rfl rfl (hb hby d10_2) _ k) ?_
  refine ost (mkF m 11 (Las1310_0 b5 b9240 b9140) []) X0 (fun t k => XS.icmpYes X0.here hx rfl (pc0 := 3) (pc' := 11) rfl (hb hby d10_3) rfl (feq (show ¬ ((1 : Int32) = (10 : Int32)) by first | decide | exact Int32.lt_irrefl _ | exact Int64.lt_irrefl _)).2 (by decide) (by decide) k) ?_
  refine ost (mkF m 12 (Las1310_0 b5 b9240 b9140) [(.ref b9140)]) X0 (fun t k => XS.aloadN X0.here hx rfl (hb hby d10_11) rfl rfl k) ?_
  refine ost (mkF m 13 (Las1310_0 b5 b9240 b9140) [(.int (1 : Int32)), (.ref b9140)]) X0 (fun t k => XS.iloadN X0.here hx rfl (hb hby d10_12) rfl k) ?_
  refine ost (mkF m 14 (Las1310_0 b5 b9240 b9140) [(.ref b9240), (.int (1 : Int32)), (.ref b9140)]) X0 (fun t k => XS.aloadN X0.here hx rfl (hb hby d10_13) rfl rfl k) ?_
  obtain ⟨T13312, h13312, L13312, X13312, e13312, N13312, K13312, A13312, st13312⟩ := own_stA X0 hx hZ e0 N0 (G := (updN (fun _ => Value.null) ((0 : Int32)).toNatClampNeg (Value.ref b3062))) A_b9140 g_b9140 (j := (1 : Int32)) (v := (.ref b9240)) (by decide) (own_sto A_b9140 E_b9240 (hw _ (wm 84 rfl))) (g := (mkF m 14 (Las1310_0 b5 b9240 b9140) [(.ref b9240), (.int (1 : Int32)), (.ref b9140)])) rfl rfl (hb hby d10_14)
  have Z13312 := Nat.le_trans Z0 K13312.1
  have S13312 := Nat.le_trans (Nat.le_refl h0.size) K13312.1
  refine ost (mkF m 15 (Las1310_0 b5 b9240 b9140) []) X13312 (fun t k => st13312 _ k) ?_
  refine ost (mkF m 16 (Las1310_0 b5 b9240 b9140) [(.ref b5)]) X13312 (fun t k => XS.aloadN X13312.here hx rfl (hb hby d10_15) rfl rfl k) ?_
  refine ost (mkF m 17 (Las1310_0 b5 b9240 b9140) [(.int (1 : Int32)), (.ref b5)]) X13312 (fun t k => XS.iloadN X13312.here hx rfl (hb hby d10_16) rfl k) ?_
  refine ost (mkF m 18 (Las1310_0 b5 b9240 b9140) [(.int (1 : Int32)), (.int (1 : Int32)), (.ref b5)]) X13312 (fun t k => XS.iconst X13312.here hx rfl (hb hby d10_17) k) ?_
  refine ost (mkF m 19 (Las1310_0 b5 b9240 b9140) [(.int (2 : Int32)), (.ref b5)]) X13312 (fun t k => XS.iadd X13312.here hx rfl (hb hby d10_18) rfl k) ?_
  have E13313 := (Exa.keep E_b5 K13312)
  have F13314 := (F_modCount_b5.keep K13312 (ninS ne_b5_b9140 nin0))
  have F13315 := (F_elementData_b5.keep K13312 (ninS ne_b5_b9140 nin0))
  have F13316 := (F_size_b5.keep K13312 (ninS ne_b5_b9140 nin0))
  obtain ⟨T13317, h13317, L13317, X13317, e13317, N13317, W13317, F13317, st13317⟩ := own_putF X13312 hx hZ hown (hw _ (wm 64 rfl)) e13312 N13312 F13316 E13313 g_b5 (Or.inl (hw _ (wm 65 rfl))) (hw _ (wm 10 rfl)) (fty := .int) (by decide) rfl rfl (g := (mkF m 19 (Las1310_0 b5 b9240 b9140) [(.int (2 : Int32)), (.ref b5)])) rfl rfl (hb hby d10_19)
  have K13317 := Keep.of_wr W13317
  have Z13317 := Nat.le_trans Z13312 K13317.1
  have S13317 := Nat.le_trans S13312 K13317.1
  have F13318 := Fld.other W13317 F13314 (Or.inr (slot_ne (Or.inl (hw _ (wm 31 rfl))) (Or.inl (hw _ (wm 65 rfl))) (by decide) (t := .int) (t' := .int) (by decide) (by decide)))
  have F13319 := Fld.other W13317 F13315 (Or.inr (slot_ne (Or.inl (hw _ (wm 34 rfl))) (Or.inl (hw _ (wm 65 rfl))) (by decide) (t := (.array (.object "java/lang/Object"))) (t' := .int) (by decide) (by decide)))
  have E13320 := Exa.wr W13317 E13313
  refine ost (mkF m 22 (Las1310_0 b5 b9240 b9140) []) X13317 (fun t k => st13317 _ k) ?_
  have A13321 := (A13312.keep K13317 (ninS (Ne.symm ne_b5_b9140) nin0))
  refine OwnFin.retVoid X13317 (hb hby d10_22) (by decide) (by decide) ?_
  rw [e13317]
  exact ⟨rfl, N13317, (Keep.trans (Keep.trans (Keep.refl h0 [b5, b9140]) K13312 (allS (Or.inl (wm 1 rfl)) all0)) K13317 (allS (Or.inl (wm 0 rfl)) all0)), E13320, F13318, F13319, F13317, A13321⟩)
def Q9s12 (Z : State) (b5 : Addr) (b3062 : Addr) (b9140 : Addr) (b9240 : Addr) (h0 : Heap) (n0 : Nat) : Option Value → Heap → List Loc → Prop := fun v h L => v = some (.int (nar .boolean (1 : Int32))) ∧ Fr n0 L ∧ Keep h0 h [b5, b9140] ∧ Exa Z h b5 "java/util/ArrayList" ∧ Fld Z h b5 "java/util/AbstractList" "modCount" "I" (.int (2 : Int32)) ∧ Fld Z h b5 "java/util/ArrayList" "elementData" "[Ljava/lang/Object;" (.ref b9140) ∧ Fld Z h b5 "java/util/ArrayList" "size" "I" (.int (2 : Int32)) ∧ AryR Z h b9140 "java/lang/Object" 10 (updN (updN (fun _ => Value.null) ((0 : Int32)).toNatClampNeg (Value.ref b3062)) ((1 : Int32)).toNatClampNeg (Value.ref b9240))
set_option maxRecDepth 65536 in
set_option maxHeartbeats 40000000 in
theorem rm9s12 (l : Launch) (Z : State) (a0 : Array Value) (hw : ∀ d ∈ tables_1, d.before a0 Z = true) (ws : List Jvm.Cond) (b5 : Addr) (b3062 : Addr) (b9140 : Addr) (b9240 : Addr) (h0 : Heap) (n0 : Nat) (Z0 : n0 ≤ h0.size) (E_b5 : Exa Z h0 b5 "java/util/ArrayList") (F_modCount_b5 : Fld Z h0 b5 "java/util/AbstractList" "modCount" "I" (.int (1 : Int32))) (F_elementData_b5 : Fld Z h0 b5 "java/util/ArrayList" "elementData" "[Ljava/lang/Object;" (.ref b9140)) (F_size_b5 : Fld Z h0 b5 "java/util/ArrayList" "size" "I" (.int (1 : Int32))) (g_b5 : n0 ≤ b5) (A_b9140 : AryR Z h0 b9140 "java/lang/Object" 10 (updN (fun _ => Value.null) ((0 : Int32)).toNatClampNeg (Value.ref b3062))) (g_b9140 : n0 ≤ b9140) (E_b9240 : Exa Z h0 b9240 "com/example/ken2/ken2/InterpretedSystem$Variable") (ne_b5_b9140 : b5 ≠ b9140) :
    MetFree l Y10 (head1 (Jvm.Cond.code Y10 jdk_38_method_25_code 2 (some .boolean) :: ws) ({ frames := 1, cells := 0, slots := 0, locals := 15 } : Room)) (fun a U => a = #[(.ref b5), (.ref b9240)] ∧ Z.Warmed39 U.vm ∧ U.heap = h0) (fun _ _ _ _ _ => True) (fun _ U o U' => ∃ v L, o = .returned v ∧ (Q9s12 Z b5 b3062 b9140 b9240 h0 n0) v U'.heap L ∧ FrameEnd U o U' L ({ frames := 1, cells := 0, slots := 0, locals := 15 } : Room).cells ({ frames := 1, cells := 0, slots := 0, locals := 15 } : Room).slots) :=
  own_met (ret := (some .boolean)) (Q := (Q9s12 Z b5 b3062 b9140 b9240 h0 n0)) (plainFor_of_name pn_9) (fun m => ef_9 m b5 b9240) (fun p e s m below meth c T0 X0 hx hby hml hown hnm hZ e0 => by
  have N0 := Fr.nil n0
  refine ost (mkF m 1 #[.val (.ref b5), .val (.ref b9240)] [(.ref b5)]) X0 (fun t k => XS.aloadN X0.here hx rfl (hb hby d9_0) rfl rfl k) ?_
  refine ost (mkF m 2 #[.val (.ref b5), .val (.ref b9240)] [(.ref b5), (.ref b5)]) X0 (fun t k => XS.dup X0.here hx rfl (hb hby d9_1) rfl rfl k) ?_
  obtain ⟨T12304, X12304, e12304, st12304⟩ := getF X0 hx hZ hown (host := "") (Or.inl (hw _ (wm 62 rfl))) (Via.of (hw _ (wm 63 rfl))) e0 F_modCount_b5 (g := (mkF m 2 #[.val (.ref b5), .val (.ref b9240)] [(.ref b5), (.ref b5)])) rfl rfl (hb hby d9_2)
  refine ost (mkF m 5 #[.val (.ref b5), .val (.ref b9240)] [(.int (1 : Int32)), (.ref b5)]) X12304 (fun t k => st12304 _ k) ?_
  refine ost (mkF m 6 #[.val (.ref b5), .val (.ref b9240)] [(.int (1 : Int32)), (.int (1 : Int32)), (.ref b5)]) X12304 (fun t k => XS.iconst X12304.here hx rfl (hb hby d9_5) k) ?_
  refine ost (mkF m 7 #[.val (.ref b5), .val (.ref b9240)] [(.int (2 : Int32)), (.ref b5)]) X12304 (fun t k => XS.iadd X12304.here hx rfl (hb hby d9_6) rfl k) ?_
  obtain ⟨T12305, h12305, L12305, X12305, e12305, N12305, W12305, F12305, st12305⟩ := own_putFV X12304 hx hZ hown (hw _ (wm 62 rfl)) (Via.of (hw _ (wm 63 rfl))) e12304 N0 F_modCount_b5 E_b5 g_b5 (Or.inl (hw _ (wm 31 rfl))) (hw _ (wm 10 rfl)) (fty := .int) (by decide) rfl rfl (g := (mkF m 7 #[.val (.ref b5), .val (.ref b9240)] [(.int (2 : Int32)), (.ref b5)])) rfl rfl (hb hby d9_7)
  have K12305 := Keep.of_wr W12305
  have Z12305 := Nat.le_trans Z0 K12305.1
  have S12305 := Nat.le_trans (Nat.le_refl h0.size) K12305.1
  have F12306 := Fld.other W12305 F_elementData_b5 (Or.inr (slot_ne (Or.inl (hw _ (wm 34 rfl))) (Or.inl (hw _ (wm 31 rfl))) (by decide) (t := (.array (.object "java/lang/Object"))) (t' := .int) (by decide) (by decide)))
  have F12307 := Fld.other W12305 F_size_b5 (Or.inr (slot_ne (Or.inl (hw _ (wm 65 rfl))) (Or.inl (hw _ (wm 31 rfl))) (by decide) (t := .int) (t' := .int) (by decide) (by decide)))
  have E12308 := Exa.wr W12305 E_b5
  refine ost (mkF m 10 #[.val (.ref b5), .val (.ref b9240)] []) X12305 (fun t k => st12305 _ k) ?_
  refine ost (mkF m 11 #[.val (.ref b5), .val (.ref b9240)] [(.ref b5)]) X12305 (fun t k => XS.aloadN X12305.here hx rfl (hb hby d9_10) rfl rfl k) ?_
  refine ost (mkF m 12 #[.val (.ref b5), .val (.ref b9240)] [(.ref b9240), (.ref b5)]) X12305 (fun t k => XS.aloadN X12305.here hx rfl (hb hby d9_11) rfl rfl k) ?_
  refine ost (mkF m 13 #[.val (.ref b5), .val (.ref b9240)] [(.ref b5), (.ref b9240), (.ref b5)]) X12305 (fun t k => XS.aloadN X12305.here hx rfl (hb hby d9_12) rfl rfl k) ?_
  obtain ⟨T12309, X12309, e12309, st12309⟩ := getF X12305 hx hZ hown (host := "") (Or.inl (hw _ (wm 33 rfl))) Via.refl e12305 F12306 (g := (mkF m 13 #[.val (.ref b5), .val (.ref b9240)] [(.ref b5), (.ref b9240), (.ref b5)])) rfl rfl (hb hby d9_13)
  refine ost (mkF m 16 #[.val (.ref b5), .val (.ref b9240)] [(.ref b9140), (.ref b9240), (.ref b5)]) X12309 (fun t k => st12309 _ k) ?_
  refine ost (mkF m 17 #[.val (.ref b5), .val (.ref b9240)] [(.ref b5), (.ref b9140), (.ref b9240), (.ref b5)]) X12309 (fun t k => XS.aloadN X12309.here hx rfl (hb hby d9_16) rfl rfl k) ?_
  obtain ⟨T12310, X12310, e12310, st12310⟩ := getF X12309 hx hZ hown (host := "") (Or.inl (hw _ (wm 64 rfl))) Via.refl e12309 F12307 (g := (mkF m 17 #[.val (.ref b5), .val (.ref b9240)] [(.ref b5), (.ref b9140), (.ref b9240), (.ref b5)])) rfl rfl (hb hby d9_17)
  refine ost (mkF m 20 #[.val (.ref b5), .val (.ref b9240)] [(.int (1 : Int32)), (.ref b9140), (.ref b9240), (.ref b5)]) X12310 (fun t k => st12310 _ k) ?_
  have A13332 := (A_b9140.keep K12305 (ninS (Ne.symm ne_b5_b9140) nin0))
  have E13333 := (Exa.keep E_b9240 K12305)
  obtain ⟨_, T12311, L12311, X12311, ⟨rfl, N12311q, u13334, u13335, u13336, u13337, u13338, u13339⟩, st12311⟩ := own_callP X12310 hx hZ (y := Y9) (W := 0) (a := b5) (argsL := [(.ref b9240), (.ref b9140), (.int (1 : Int32))]) (rest := []) hown (hw _ (wm 66 rfl)) (hw _ (wm 60 rfl)) rfl (hw _ (wm 67 rfl)) (hw _ (wm 68 rfl)) (hw _ (wm 11 rfl)) (hw _ (wm 70 rfl)) (by decide) E12308 (rm10s13 l Z a0 hw [] b5 b3062 b9140 b9240 h12305 n0 Z12305 E12308 F12305 F12306 F12307 g_b5 A13332 g_b9140 E13333 ne_b5_b9140) (by decide) (by decide) (by decide) (by decide) e12310 (g := (mkF m 20 #[.val (.ref b5), .val (.ref b9240)] [(.int (1 : Int32)), (.ref b9140), (.ref b9240), (.ref b5)])) rfl (by rw [hml]; rfl) pd_6 rfl rfl (by show 2 * 0 + _ ≤ _; exact Nat.le_of_eq rfl) (hb hby d9_20)
  have N12311 := Fr.app N12305 N12311q
  obtain ⟨h12311, e12311⟩ : ∃ z, T12311.heap = z := ⟨_, rfl⟩
  rw [e12311] at u13334 u13335 u13336 u13337 u13338 u13339
  have K12311 := u13334
  have Z12311 := Nat.le_trans Z12305 K12311.1
  have S12311 := Nat.le_trans S12305 K12311.1
  refine ost (mkF m 23 #[.val (.ref b5), .val (.ref b9240)] []) X12311 (fun t k => st12311 _ k) ?_
  refine ost (mkF m 24 #[.val (.ref b5), .val (.ref b9240)] [(.int (1 : Int32))]) X12311 (fun t k => XS.iconst X12311.here hx rfl (hb hby d9_23) k) ?_
  refine OwnFin.retNar X12311 (by simp) (hb hby d9_24) (by decide) (by decide) ?_
  rw [e12311]
  exact ⟨rfl, N12311, (Keep.trans (Keep.trans (Keep.refl h0 [b5, b9140]) K12305 (allS (Or.inl (wm 0 rfl)) all0)) K12311 (allS (Or.inl (wm 0 rfl)) (allS (Or.inl (wm 1 rfl)) all0))), u13335, u13336, u13337, u13338, u13339⟩)
def Q8s11 (Z : State) (b9240 : Addr) (h0 : Heap) (n0 : Nat) : Option Value → Heap → List Loc → Prop := fun v h L => v = none ∧ Fr n0 L ∧ h = h0
set_option maxRecDepth 65536 in
set_option maxHeartbeats 40000000 in
theorem rm8s11 (l : Launch) (Z : State) (a0 : Array Value) (hw : ∀ d ∈ tables_1, d.before a0 Z = true) (ws : List Jvm.Cond) (b9240 : Addr) (h0 : Heap) (n0 : Nat) (Z0 : n0 ≤ h0.size) :
    MetFree l Y5 (head1 (Jvm.Cond.code Y5 jdk_30_method_1_code 1 none :: ws) ({ frames := 1, cells := 0, slots := 0, locals := 12 } : Room)) (fun a U => a = #[(.ref b9240)] ∧ Z.Warmed39 U.vm ∧ U.heap = h0) (fun _ _ _ _ _ => True) (fun _ U o U' => ∃ v L, o = .returned v ∧ (Q8s11 Z b9240 h0 n0) v U'.heap L ∧ FrameEnd U o U' L ({ frames := 1, cells := 0, slots := 0, locals := 12 } : Room).cells ({ frames := 1, cells := 0, slots := 0, locals := 12 } : Room).slots) :=
  own_met (ret := none) (Q := (Q8s11 Z b9240 h0 n0)) (plainFor_of_name pn_8) (fun m => ef_8 m b9240) (fun p e s m below meth c T0 X0 hx hby hml hown hnm hZ e0 => by
  have N0 := Fr.nil n0
  refine ost (mkF m 1 #[.val (.ref b9240)] [(.ref b9240)]) X0 (fun t k => XS.aloadN X0.here hx rfl (hb hby d8_0) rfl rfl k) ?_
  obtain ⟨T11244, X11244, e11244, st11244⟩ := initO X0 hx hZ hown (hw _ (wm 46 rfl)) (hw _ (wm 28 rfl)) (hw _ (wm 29 rfl)) e0 (g := (mkF m 1 #[.val (.ref b9240)] [(.ref b9240)])) rfl (by rw [hml]; rfl) rfl (hb hby d8_1) (by decide) (W := 0) (by show 2 * 0 + _ ≤ _; exact Nat.le_of_eq rfl) (by decide)
  refine ost (mkF m 4 #[.val (.ref b9240)] []) X11244 (fun t k => st11244 _ k) ?_
  refine OwnFin.retVoid X11244 (hb hby d8_4) (by decide) (by decide) ?_
  rw [e11244]
  exact ⟨rfl, N0, rfl⟩)
def Q7s10 (Z : State) (q0 : Int64) (b9240 : Addr) (h0 : Heap) (n0 : Nat) : Option Value → Heap → List Loc → Prop := fun v h L => v = none ∧ Fr n0 L ∧ Keep h0 h [b9240] ∧ Exa Z h b9240 "com/example/ken2/ken2/InterpretedSystem$Variable" ∧ Fld Z h b9240 "com/example/ken2/ken2/InterpretedSystem$Variable" "agent" "Ljava/lang/String;" .null ∧ Fld Z h b9240 "com/example/ken2/ken2/InterpretedSystem$Variable" "name" "Ljava/lang/String;" .null ∧ Fld Z h b9240 "com/example/ken2/ken2/InterpretedSystem$Variable" "values" "Ljava/util/List;" .null ∧ Fld Z h b9240 "com/example/ken2/ken2/InterpretedSystem$Variable" "low" "I" (.int (0 : Int32)) ∧ Fld Z h b9240 "com/example/ken2/ken2/InterpretedSystem$Variable" "size" "I" (.int (v0_15 q0))
abbrev Las107_0 (b9240 : Addr) (q0 : Int64) : Array Slot := #[.val (.ref b9240), .val .null, .val .null, .val .null, .val (.int (0 : Int32)), .val (.int (v0_15 q0))]
set_option maxRecDepth 65536 in
set_option maxHeartbeats 40000000 in
theorem rm7s10 (l : Launch) (Z : State) (a0 : Array Value) (hw : ∀ d ∈ tables_1, d.before a0 Z = true) (ws : List Jvm.Cond) (q0 : Int64) (b9240 : Addr) (h0 : Heap) (n0 : Nat) (Z0 : n0 ≤ h0.size) (E_b9240 : Exa Z h0 b9240 "com/example/ken2/ken2/InterpretedSystem$Variable") (F_agent_b9240 : Fld Z h0 b9240 "com/example/ken2/ken2/InterpretedSystem$Variable" "agent" "Ljava/lang/String;" .null) (F_name_b9240 : Fld Z h0 b9240 "com/example/ken2/ken2/InterpretedSystem$Variable" "name" "Ljava/lang/String;" .null) (F_values_b9240 : Fld Z h0 b9240 "com/example/ken2/ken2/InterpretedSystem$Variable" "values" "Ljava/util/List;" .null) (F_low_b9240 : Fld Z h0 b9240 "com/example/ken2/ken2/InterpretedSystem$Variable" "low" "I" (.int (0 : Int32))) (F_size_b9240 : Fld Z h0 b9240 "com/example/ken2/ken2/InterpretedSystem$Variable" "size" "I" (.int (0 : Int32))) (g_b9240 : n0 ≤ b9240) :
    MetFree l Y6 (head1 (Jvm.Cond.code Y6 prog_64_method_1_code 6 none :: ws) ({ frames := 2, cells := 0, slots := 0, locals := 24 } : Room)) (fun a U => a = #[(.ref b9240), .null, .null, .null, (.int (0 : Int32)), (.int (v0_15 q0))] ∧ Z.Warmed39 U.vm ∧ U.heap = h0) (fun _ _ _ _ _ => True) (fun _ U o U' => ∃ v L, o = .returned v ∧ (Q7s10 Z q0 b9240 h0 n0) v U'.heap L ∧ FrameEnd U o U' L ({ frames := 2, cells := 0, slots := 0, locals := 24 } : Room).cells ({ frames := 2, cells := 0, slots := 0, locals := 24 } : Room).slots) :=
  own_met (ret := none) (Q := (Q7s10 Z q0 b9240 h0 n0)) (plainFor_of_name pn_7) (fun m => ef_7n1n2n3 m b9240 (0 : Int32) (v0_15 q0)) (fun p e s m below meth c T0 X0 hx hby hml hown hnm hZ e0 => by
  have N0 := Fr.nil n0
  refine ost (mkF m 1 (Las107_0 b9240 q0) [(.ref b9240)]) X0 (fun t k => XS.aloadN X0.here hx rfl (hb hby d7_0) rfl rfl k) ?_
  obtain ⟨_, T10243, L10243, X10243, ⟨rfl, N10243q, u11255⟩, st10243⟩ := own_callI X0 hx hZ (y := Y5) (W := 0) (a := b9240) (argsL := []) (rest := []) rfl hown (hw _ (wm 41 rfl)) (hw _ (wm 42 rfl)) (hw _ (wm 44 rfl)) (hw _ (wm 45 rfl)) (by decide) (rm8s11 l Z a0 hw [] b9240 h0 n0 Z0 ) (by decide) (by decide) (by decide) (by decide) e0 (g := (mkF m 1 (Las107_0 b9240 q0) [(.ref b9240)])) rfl (by rw [hml]; rfl) pd_2 rfl rfl (by show 2 * 0 + _ ≤ _; exact Nat.le_of_eq rfl) (hb hby d7_1)
  have N10243 := Fr.app N0 N10243q
  refine ost (mkF m 4 (Las107_0 b9240 q0) []) X10243 (fun t k => st10243 _ k) ?_
  refine ost (mkF m 5 (Las107_0 b9240 q0) [(.ref b9240)]) X10243 (fun t k => XS.aloadN X10243.here hx rfl (hb hby d7_4) rfl rfl k) ?_
  refine ost (mkF m 6 (Las107_0 b9240 q0) [.null, (.ref b9240)]) X10243 (fun t k => XS.aloadN X10243.here hx rfl (hb hby d7_5) rfl rfl k) ?_
  obtain ⟨T11256, h11256, L11256, X11256, e11256, N11256, W11256, F11256, st11256⟩ := own_putF X10243 hx hZ hown (hw _ (wm 47 rfl)) u11255 N10243 F_agent_b9240 E_b9240 g_b9240 (Or.inr ⟨(hw _ (wm 48 rfl)), rfl, hnm⟩) (hw _ (wm 36 rfl)) (fty := (.object "java/lang/String")) (by decide) rfl rfl (g := (mkF m 6 (Las107_0 b9240 q0) [.null, (.ref b9240)])) rfl rfl (hb hby d7_6)
  have K11256 := Keep.of_wr W11256
  have Z11256 := Nat.le_trans Z0 K11256.1
  have S11256 := Nat.le_trans (Nat.le_refl h0.size) K11256.1
  have F11257 := Fld.other W11256 F_name_b9240 (Or.inr (slot_ne (Or.inr (hw _ (wm 50 rfl))) (Or.inr (hw _ (wm 48 rfl))) (by decide) (t := (.object "java/lang/String")) (t' := (.object "java/lang/String")) (by decide) (by decide)))
  have F11258 := Fld.other W11256 F_values_b9240 (Or.inr (slot_ne (Or.inr (hw _ (wm 52 rfl))) (Or.inr (hw _ (wm 48 rfl))) (by decide) (t := (.object "java/util/List")) (t' := (.object "java/lang/String")) (by decide) (by decide)))
  have F11259 := Fld.other W11256 F_low_b9240 (Or.inr (slot_ne (Or.inr (hw _ (wm 54 rfl))) (Or.inr (hw _ (wm 48 rfl))) (by decide) (t := .int) (t' := (.object "java/lang/String")) (by decide) (by decide)))
  have F11260 := Fld.other W11256 F_size_b9240 (Or.inr (slot_ne (Or.inr (hw _ (wm 56 rfl))) (Or.inr (hw _ (wm 48 rfl))) (by decide) (t := .int) (t' := (.object "java/lang/String")) (by decide) (by decide)))
  have E11261 := Exa.wr W11256 E_b9240
  refine ost (mkF m 9 (Las107_0 b9240 q0) []) X11256 (fun t k => st11256 _ k) ?_
  refine ost (mkF m 10 (Las107_0 b9240 q0) [(.ref b9240)]) X11256 (fun t k => XS.aloadN X11256.here hx rfl (hb hby d7_9) rfl rfl k) ?_
  refine ost (mkF m 11 (Las107_0 b9240 q0) [.null, (.ref b9240)]) X11256 (fun t k => XS.aloadN X11256.here hx rfl (hb hby d7_10) rfl rfl k) ?_
  obtain ⟨T11262, h11262, L11262, X11262, e11262, N11262, W11262, F11262, st11262⟩ := own_putF X11256 hx hZ hown (hw _ (wm 49 rfl)) e11256 N11256 F11257 E11261 g_b9240 (Or.inr ⟨(hw _ (wm 50 rfl)), rfl, hnm⟩) (hw _ (wm 36 rfl)) (fty := (.object "java/lang/String")) (by decide) rfl rfl (g := (mkF m 11 (Las107_0 b9240 q0) [.null, (.ref b9240)])) rfl rfl (hb hby d7_11)
  have K11262 := Keep.of_wr W11262
  have Z11262 := Nat.le_trans Z11256 K11262.1
  have S11262 := Nat.le_trans S11256 K11262.1
  have F11263 := Fld.other W11262 F11256 (Or.inr (slot_ne (Or.inr (hw _ (wm 48 rfl))) (Or.inr (hw _ (wm 50 rfl))) (by decide) (t := (.object "java/lang/String")) (t' := (.object "java/lang/String")) (by decide) (by decide)))
  have F11264 := Fld.other W11262 F11258 (Or.inr (slot_ne (Or.inr (hw _ (wm 52 rfl))) (Or.inr (hw _ (wm 50 rfl))) (by decide) (t := (.object "java/util/List")) (t' := (.object "java/lang/String")) (by decide) (by decide)))
  have F11265 := Fld.other W11262 F11259 (Or.inr (slot_ne (Or.inr (hw _ (wm 54 rfl))) (Or.inr (hw _ (wm 50 rfl))) (by decide) (t := .int) (t' := (.object "java/lang/String")) (by decide) (by decide)))
  have F11266 := Fld.other W11262 F11260 (Or.inr (slot_ne (Or.inr (hw _ (wm 56 rfl))) (Or.inr (hw _ (wm 50 rfl))) (by decide) (t := .int) (t' := (.object "java/lang/String")) (by decide) (by decide)))
  have E11267 := Exa.wr W11262 E11261
  refine ost (mkF m 14 (Las107_0 b9240 q0) []) X11262 (fun t k => st11262 _ k) ?_
  refine ost (mkF m 15 (Las107_0 b9240 q0) [(.ref b9240)]) X11262 (fun t k => XS.aloadN X11262.here hx rfl (hb hby d7_14) rfl rfl k) ?_
  refine ost (mkF m 16 (Las107_0 b9240 q0) [.null, (.ref b9240)]) X11262 (fun t k => XS.aloadN X11262.here hx rfl (hb hby d7_15) rfl rfl k) ?_
  obtain ⟨T11268, h11268, L11268, X11268, e11268, N11268, W11268, F11268, st11268⟩ := own_putF X11262 hx hZ hown (hw _ (wm 51 rfl)) e11262 N11262 F11264 E11267 g_b9240 (Or.inr ⟨(hw _ (wm 52 rfl)), rfl, hnm⟩) (hw _ (wm 36 rfl)) (fty := (.object "java/util/List")) (by decide) rfl rfl (g := (mkF m 16 (Las107_0 b9240 q0) [.null, (.ref b9240)])) rfl rfl (hb hby d7_16)
  have K11268 := Keep.of_wr W11268
  have Z11268 := Nat.le_trans Z11262 K11268.1
  have S11268 := Nat.le_trans S11262 K11268.1
  have F11269 := Fld.other W11268 F11263 (Or.inr (slot_ne (Or.inr (hw _ (wm 48 rfl))) (Or.inr (hw _ (wm 52 rfl))) (by decide) (t := (.object "java/lang/String")) (t' := (.object "java/util/List")) (by decide) (by decide)))
  have F11270 := Fld.other W11268 F11262 (Or.inr (slot_ne (Or.inr (hw _ (wm 50 rfl))) (Or.inr (hw _ (wm 52 rfl))) (by decide) (t := (.object "java/lang/String")) (t' := (.object "java/util/List")) (by decide) (by decide)))
  have F11271 := Fld.other W11268 F11265 (Or.inr (slot_ne (Or.inr (hw _ (wm 54 rfl))) (Or.inr (hw _ (wm 52 rfl))) (by decide) (t := .int) (t' := (.object "java/util/List")) (by decide) (by decide)))
  have F11272 := Fld.other W11268 F11266 (Or.inr (slot_ne (Or.inr (hw _ (wm 56 rfl))) (Or.inr (hw _ (wm 52 rfl))) (by decide) (t := .int) (t' := (.object "java/util/List")) (by decide) (by decide)))
  have E11273 := Exa.wr W11268 E11267
  refine ost (mkF m 19 (Las107_0 b9240 q0) []) X11268 (fun t k => st11268 _ k) ?_
  refine ost (mkF m 20 (Las107_0 b9240 q0) [(.ref b9240)]) X11268 (fun t k => XS.aloadN X11268.here hx rfl (hb hby d7_19) rfl rfl k) ?_
  refine ost (mkF m 22 (Las107_0 b9240 q0) [(.int (0 : Int32)), (.ref b9240)]) X11268 (fun t k => XS.iload X11268.here hx rfl (hb hby d7_20) rfl k) ?_
  obtain ⟨T11274, h11274, L11274, X11274, e11274, N11274, W11274, F11274, st11274⟩ := own_putF X11268 hx hZ hown (hw _ (wm 53 rfl)) e11268 N11268 F11271 E11273 g_b9240 (Or.inr ⟨(hw _ (wm 54 rfl)), rfl, hnm⟩) (hw _ (wm 36 rfl)) (fty := .int) (by decide) rfl rfl (g := (mkF m 22 (Las107_0 b9240 q0) [(.int (0 : Int32)), (.ref b9240)])) rfl rfl (hb hby d7_22)
  have K11274 := Keep.of_wr W11274
  have Z11274 := Nat.le_trans Z11268 K11274.1
  have S11274 := Nat.le_trans S11268 K11274.1
  have F11275 := Fld.other W11274 F11269 (Or.inr (slot_ne (Or.inr (hw _ (wm 48 rfl))) (Or.inr (hw _ (wm 54 rfl))) (by decide) (t := (.object "java/lang/String")) (t' := .int) (by decide) (by decide)))
  have F11276 := Fld.other W11274 F11270 (Or.inr (slot_ne (Or.inr (hw _ (wm 50 rfl))) (Or.inr (hw _ (wm 54 rfl))) (by decide) (t := (.object "java/lang/String")) (t' := .int) (by decide) (by decide)))
  have F11277 := Fld.other W11274 F11268 (Or.inr (slot_ne (Or.inr (hw _ (wm 52 rfl))) (Or.inr (hw _ (wm 54 rfl))) (by decide) (t := (.object "java/util/List")) (t' := .int) (by decide) (by decide)))
  have F11278 := Fld.other W11274 F11272 (Or.inr (slot_ne (Or.inr (hw _ (wm 56 rfl))) (Or.inr (hw _ (wm 54 rfl))) (by decide) (t := .int) (t' := .int) (by decide) (by decide)))
  have E11279 := Exa.wr W11274 E11273
  refine ost (mkF m 25 (Las107_0 b9240 q0) []) X11274 (fun t k => st11274 _ k) ?_
  refine ost (mkF m 26 (Las107_0 b9240 q0) [(.ref b9240)]) X11274 (fun t k => XS.aloadN X11274.here hx rfl (hb hby d7_25) rfl rfl k) ?_
  refine ost (mkF m 28 (Las107_0 b9240 q0) [(.int (v0_15 q0)), (.ref b9240)]) X11274 (fun t k => XS.iload X11274.here hx rfl (hb hby d7_26) rfl k) ?_
  obtain ⟨T11280, h11280, L11280, X11280, e11280, N11280, W11280, F11280, st11280⟩ := own_putF X11274 hx hZ hown (hw _ (wm 55 rfl)) e11274 N11274 F11278 E11279 g_b9240 (Or.inr ⟨(hw _ (wm 56 rfl)), rfl, hnm⟩) (hw _ (wm 36 rfl)) (fty := .int) (by decide) rfl rfl (g := (mkF m 28 (Las107_0 b9240 q0) [(.int (v0_15 q0)), (.ref b9240)])) rfl rfl (hb hby d7_28)
  have K11280 := Keep.of_wr W11280
  have Z11280 := Nat.le_trans Z11274 K11280.1
  have S11280 := Nat.le_trans S11274 K11280.1
  have F11281 := Fld.other W11280 F11275 (Or.inr (slot_ne (Or.inr (hw _ (wm 48 rfl))) (Or.inr (hw _ (wm 56 rfl))) (by decide) (t := (.object "java/lang/String")) (t' := .int) (by decide) (by decide)))
  have F11282 := Fld.other W11280 F11276 (Or.inr (slot_ne (Or.inr (hw _ (wm 50 rfl))) (Or.inr (hw _ (wm 56 rfl))) (by decide) (t := (.object "java/lang/String")) (t' := .int) (by decide) (by decide)))
  have F11283 := Fld.other W11280 F11277 (Or.inr (slot_ne (Or.inr (hw _ (wm 52 rfl))) (Or.inr (hw _ (wm 56 rfl))) (by decide) (t := (.object "java/util/List")) (t' := .int) (by decide) (by decide)))
  have F11284 := Fld.other W11280 F11274 (Or.inr (slot_ne (Or.inr (hw _ (wm 54 rfl))) (Or.inr (hw _ (wm 56 rfl))) (by decide) (t := .int) (t' := .int) (by decide) (by decide)))
  have E11285 := Exa.wr W11280 E11279
  refine ost (mkF m 31 (Las107_0 b9240 q0) []) X11280 (fun t k => st11280 _ k) ?_
  refine OwnFin.retVoid X11280 (hb hby d7_31) (by decide) (by decide) ?_
  rw [e11280]
  exact ⟨rfl, N11280, (Keep.trans (Keep.trans (Keep.trans (Keep.trans (Keep.trans (Keep.refl h0 [b9240]) K11256 (allS (Or.inl (wm 0 rfl)) all0)) K11262 (allS (Or.inl (wm 0 rfl)) all0)) K11268 (allS (Or.inl (wm 0 rfl)) all0)) K11274 (allS (Or.inl (wm 0 rfl)) all0)) K11280 (allS (Or.inl (wm 0 rfl)) all0)), E11285, F11281, F11282, F11283, F11284, F11280⟩)
def Q12s9 (Z : State) (eE : Addr) (b5 : Addr) (h0 : Heap) (n0 : Nat) : Option Value → Heap → List Loc → Prop := fun v h L => ∃ b9140 : Addr, v = some (.ref b9140) ∧ Fr n0 L ∧ Keep h0 h [b5] ∧ Exa Z h b5 "java/util/ArrayList" ∧ Fld Z h b5 "java/util/AbstractList" "modCount" "I" (.int (1 : Int32)) ∧ Fld Z h b5 "java/util/ArrayList" "elementData" "[Ljava/lang/Object;" (.ref b9140) ∧ Fld Z h b5 "java/util/ArrayList" "size" "I" (.int (0 : Int32)) ∧ AryR Z h b9140 "java/lang/Object" 10 (fun _ => Value.null) ∧ n0 ≤ b9140 ∧ h0.size ≤ b9140
abbrev Las912_0 (b5 : Addr) : Array Slot := #[.val (.ref b5), .val (.int (1 : Int32)), .val (.int (0 : Int32)), .unset]
set_option maxRecDepth 65536 in
set_option maxHeartbeats 40000000 in
theorem rm12s9 (l : Launch) (Z : State) (a0 : Array Value) (hw : ∀ d ∈ tables_1, d.before a0 Z = true) (ws : List Jvm.Cond) (eE : Addr) (b5 : Addr) (h0 : Heap) (n0 : Nat) (Z0 : n0 ≤ h0.size) (O_E : Sta Z Z.heap "java/util/ArrayList" "DEFAULTCAPACITY_EMPTY_ELEMENTDATA" "[Ljava/lang/Object;" (.ref eE)) (OA_E : Ary Z Z.heap eE (.object "java/lang/Object") 0 (fun _ => .null)) (Old0 : Old Z n0 h0) (E_b5 : Exa Z h0 b5 "java/util/ArrayList") (F_modCount_b5 : Fld Z h0 b5 "java/util/AbstractList" "modCount" "I" (.int (1 : Int32))) (F_elementData_b5 : Fld Z h0 b5 "java/util/ArrayList" "elementData" "[Ljava/lang/Object;" (.ref eE)) (F_size_b5 : Fld Z h0 b5 "java/util/ArrayList" "size" "I" (.int (0 : Int32))) (g_b5 : n0 ≤ b5) :
    MetFree l Y7 (head1 (Jvm.Cond.code Y7 jdk_38_method_6_code 4 (some (.array (.object "java/lang/Object"))) :: ws) ({ frames := 1, cells := 1, slots := 10, locals := 14 } : Room)) (fun a U => a = #[(.ref b5), (.int (1 : Int32))] ∧ Z.Warmed39 U.vm ∧ U.heap = h0) (fun _ _ _ _ _ => True) (fun _ U o U' => ∃ v L, o = .returned v ∧ (Q12s9 Z eE b5 h0 n0) v U'.heap L ∧ FrameEnd U o U' L ({ frames := 1, cells := 1, slots := 10, locals := 14 } : Room).cells ({ frames := 1, cells := 1, slots := 10, locals := 14 } : Room).slots) :=
  own_met (ret := (some (.array (.object "java/lang/Object")))) (Q := (Q12s9 Z eE b5 h0 n0)) (plainFor_of_name pn_12) (fun m => ef_12 m b5 (1 : Int32)) (fun p e s m below meth c T0 X0 hx hby hml hown hnm hZ e0 => by
  have N0 := Fr.nil n0
  refine ost (mkF m 1 #[.val (.ref b5), .val (.int (1 : Int32)), .unset, .unset] [(.ref b5)]) X0 (fun t k => XS.aloadN X0.here hx rfl (hb hby d12_0) rfl rfl k) ?_
  obtain ⟨T9136, X9136, e9136, st9136⟩ := getF X0 hx hZ hown (host := "") (Or.inl (hw _ (wm 33 rfl))) Via.refl e0 F_elementData_b5 (g := (mkF m 1 #[.val (.ref b5), .val (.int (1 : Int32)), .unset, .unset] [(.ref b5)])) rfl rfl (hb hby d12_1)
  refine ost (mkF m 4 #[.val (.ref b5), .val (.int (1 : Int32)), .unset, .unset] [(.ref eE)]) X9136 (fun t k => st9136 _ k) ?_
  refine ost (mkF m 5 #[.val (.ref b5), .val (.int (1 : Int32)), .unset, .unset] [(.int (0 : Int32))]) X9136 (fun t k => own_len X9136 hx hZ e9136 (Ary.old OA_E Old0) (g := (mkF m 4 #[.val (.ref b5), .val (.int (1 : Int32)), .unset, .unset] [(.ref eE)])) rfl rfl (hb hby d12_4) _ k) ?_
  refine ost (mkF m 6 (Las912_0 b5) []) X9136 (fun t k => XS.istoreN X9136.here hx rfl (hb hby d12_5) rfl (l' := (Las912_0 b5)) rfl k) ?_
  refine ost (mkF m 7 (Las912_0 b5) [(.int (0 : Int32))]) X9136 (fun t k => XS.iloadN X9136.here hx rfl (hb hby d12_6) rfl k) ?_
  refine ost (mkF m 10 (Las912_0 b5) []) X9136 (fun t k => XS.ifNo X9136.here hx rfl (hb hby d12_7) rfl ((if0 _ _).trans (flt (show ¬ ((0 : Int32) < (0 : Int32)) by first | decide | exact Int32.lt_irrefl _ | exact Int64.lt_irrefl _)).2.2.1) k) ?_
  refine ost (mkF m 11 (Las912_0 b5) [(.ref b5)]) X9136 (fun t k => XS.aloadN X9136.here hx rfl (hb hby d12_10) rfl rfl k) ?_
  obtain ⟨T9137, X9137, e9137, st9137⟩ := getF X9136 hx hZ hown (host := "") (Or.inl (hw _ (wm 33 rfl))) Via.refl e9136 F_elementData_b5 (g := (mkF m 11 (Las912_0 b5) [(.ref b5)])) rfl rfl (hb hby d12_11)
  refine ost (mkF m 14 (Las912_0 b5) [(.ref eE)]) X9137 (fun t k => st9137 _ k) ?_
  obtain ⟨T9138, X9138, e9138, st9138⟩ := getS2 X9137 hx hZ hown (host := "") (Or.inl (hw _ (wm 32 rfl))) Via.refl e9137 (O_E.ext (Old0).2) (g := (mkF m 14 (Las912_0 b5) [(.ref eE)])) rfl (hb hby d12_14)
  refine ost (mkF m 17 (Las912_0 b5) [(.ref eE), (.ref eE)]) X9138 (fun t k => st9138 _ k) ?_
  refine ost (mkF m 45 (Las912_0 b5) []) X9138 (fun t k => acmp X9138 hx rfl rfl rfl (pc0 := 17) (pc' := 45) (same := true) rfl (hb hby d12_17) rfl (by simp) (by decide) (by decide) k) ?_
  refine ost (mkF m 46 (Las912_0 b5) [(.ref b5)]) X9138 (fun t k => XS.aloadN X9138.here hx rfl (hb hby d12_45) rfl rfl k) ?_
  refine ost (mkF m 48 (Las912_0 b5) [(.int (10 : Int32)), (.ref b5)]) X9138 (fun t k => XS.bipush X9138.here hx rfl (hb hby d12_46) k) ?_
  refine ost (mkF m 49 (Las912_0 b5) [(.int (1 : Int32)), (.int (10 : Int32)), (.ref b5)]) X9138 (fun t k => XS.iloadN X9138.here hx rfl (hb hby d12_48) rfl k) ?_
  obtain ⟨_, T9139, L9139, X9139, ⟨rfl, f9139, N9139q⟩, st9139⟩ := own_callS X9138 hx hZ (y := Y0) (W := 1) (argsL := [(.int (10 : Int32)), (.int (1 : Int32))]) (rest := [(.ref b5)]) hown (hw _ (wm 81 rfl)) (hw _ (wm 6 rfl)) (hw _ (wm 7 rfl)) (hw _ (wm 8 rfl)) (by decide) (rm2 l Z a0 hw [] (10 : Int32) (1 : Int32) h0 n0 Z0) (by decide) (by decide) (by decide) (by decide) e9138 (g := (mkF m 49 (Las912_0 b5) [(.int (1 : Int32)), (.int (10 : Int32)), (.ref b5)])) rfl (by rw [hml]; rfl) pd_0 rfl rfl (by show 2 * 0 + _ ≤ _; exact Nat.le_of_eq rfl) (hb hby d12_49)
  have N9139 := Fr.app N0 N9139q
  rw [show (r2 (10 : Int32) (1 : Int32)) = (10 : Int32) from by decide] at st9139
  refine ost (mkF m 52 (Las912_0 b5) [(.int (10 : Int32)), (.ref b5)]) X9139 (fun t k => st9139 _ k) ?_
  obtain ⟨T9140, h9140, b9140, X9140, e9140, y9140, K9140, A9140, st9140⟩ := own_newR X9139 hx hZ hown (hw _ (wm 82 rfl)) (hw _ (wm 83 rfl)) f9139 (g := (mkF m 52 (Las912_0 b5) [(.int (10 : Int32)), (.ref b5)])) rfl (hb hby d12_52) rfl (by decide) (cap := 10) (by decide) (by decide) (by decide) (by decide)
  have ne_b5_b9140 : b5 ≠ b9140 := Exa.neS E_b5 y9140
  have g_b9140 : n0 ≤ b9140 := by rw [y9140]; exact Z0
  have sz_b9140 : h0.size ≤ b9140 := by rw [y9140]; exact Nat.le_refl h0.size
  have Z9140 := Nat.le_trans Z0 K9140.1
  have S9140 := Nat.le_trans (Nat.le_refl h0.size) K9140.1
  have B9140 : AryR Z h9140 b9140 "java/lang/Object" 10 (fun _ => Value.null) := A9140
  refine ost (mkF m 55 (Las912_0 b5) [(.ref b9140), (.ref b5)]) X9140 (fun t k => st9140 _ k) ?_
  refine ost (mkF m 56 (Las912_0 b5) [(.ref b9140), (.ref b5), (.ref b9140)]) X9140 (fun t k => XT.dupX1 X9140.here hx rfl (hb hby d12_55) rfl rfl rfl k) ?_
  have E9141 := (Exa.keep E_b5 K9140)
  have F9142 := (F_modCount_b5.keep K9140 nin0)
  have F9143 := (F_elementData_b5.keep K9140 nin0)
  have F9144 := (F_size_b5.keep K9140 nin0)
  obtain ⟨T9145, h9145, L9145, X9145, e9145, N9145, W9145, F9145, st9145⟩ := own_putF X9140 hx hZ hown (hw _ (wm 33 rfl)) e9140 N9139 F9143 E9141 g_b5 (Or.inl (hw _ (wm 34 rfl))) (hw _ (wm 10 rfl)) (fty := (.array (.object "java/lang/Object"))) (by decide) rfl rfl (g := (mkF m 56 (Las912_0 b5) [(.ref b9140), (.ref b5), (.ref b9140)])) rfl rfl (hb hby d12_56)
  have K9145 := Keep.of_wr W9145
  have Z9145 := Nat.le_trans Z9140 K9145.1
  have S9145 := Nat.le_trans S9140 K9145.1
  have F9146 := Fld.other W9145 F9142 (Or.inr (slot_ne (Or.inl (hw _ (wm 31 rfl))) (Or.inl (hw _ (wm 34 rfl))) (by decide) (t := .int) (t' := (.array (.object "java/lang/Object"))) (by decide) (by decide)))
  have F9147 := Fld.other W9145 F9144 (Or.inr (slot_ne (Or.inl (hw _ (wm 65 rfl))) (Or.inl (hw _ (wm 34 rfl))) (by decide) (t := .int) (t' := (.array (.object "java/lang/Object"))) (by decide) (by decide)))
  have E9148 := Exa.wr W9145 E9141
  refine ost (mkF m 59 (Las912_0 b5) [(.ref b9140)]) X9145 (fun t k => st9145 _ k) ?_
  have A9149 := (B9140.keep K9145 (ninS (Ne.symm ne_b5_b9140) nin0))
  refine OwnFin.retRef X9145 rfl rfl rfl (hb hby d12_59) (by decide) (by decide) ?_
  rw [e9145]
  exact ⟨b9140, rfl, N9145, (Keep.trans (Keep.trans (Keep.refl h0 [b5]) K9140 all0) K9145 (allS (Or.inl (wm 0 rfl)) all0)), E9148, F9146, F9145, F9147, A9149, g_b9140, sz_b9140⟩)
def Q11s8 (Z : State) (eE : Addr) (b5 : Addr) (h0 : Heap) (n0 : Nat) : Option Value → Heap → List Loc → Prop := fun v h L => ∃ b9140 : Addr, v = some (.ref b9140) ∧ Fr n0 L ∧ Keep h0 h [b5] ∧ Exa Z h b5 "java/util/ArrayList" ∧ Fld Z h b5 "java/util/AbstractList" "modCount" "I" (.int (1 : Int32)) ∧ Fld Z h b5 "java/util/ArrayList" "elementData" "[Ljava/lang/Object;" (.ref b9140) ∧ Fld Z h b5 "java/util/ArrayList" "size" "I" (.int (0 : Int32)) ∧ AryR Z h b9140 "java/lang/Object" 10 (fun _ => Value.null) ∧ n0 ≤ b9140 ∧ h0.size ≤ b9140
set_option maxRecDepth 65536 in
set_option maxHeartbeats 40000000 in
theorem rm11s8 (l : Launch) (Z : State) (a0 : Array Value) (hw : ∀ d ∈ tables_1, d.before a0 Z = true) (ws : List Jvm.Cond) (eE : Addr) (b5 : Addr) (h0 : Heap) (n0 : Nat) (Z0 : n0 ≤ h0.size) (O_E : Sta Z Z.heap "java/util/ArrayList" "DEFAULTCAPACITY_EMPTY_ELEMENTDATA" "[Ljava/lang/Object;" (.ref eE)) (OA_E : Ary Z Z.heap eE (.object "java/lang/Object") 0 (fun _ => .null)) (Old0 : Old Z n0 h0) (E_b5 : Exa Z h0 b5 "java/util/ArrayList") (F_modCount_b5 : Fld Z h0 b5 "java/util/AbstractList" "modCount" "I" (.int (1 : Int32))) (F_elementData_b5 : Fld Z h0 b5 "java/util/ArrayList" "elementData" "[Ljava/lang/Object;" (.ref eE)) (F_size_b5 : Fld Z h0 b5 "java/util/ArrayList" "size" "I" (.int (0 : Int32))) (g_b5 : n0 ≤ b5) :
    MetFree l Y8 (head1 (Jvm.Cond.code Y8 jdk_38_method_7_code 1 (some (.array (.object "java/lang/Object"))) :: ws) ({ frames := 2, cells := 1, slots := 10, locals := 29 } : Room)) (fun a U => a = #[(.ref b5)] ∧ Z.Warmed39 U.vm ∧ U.heap = h0) (fun _ _ _ _ _ => True) (fun _ U o U' => ∃ v L, o = .returned v ∧ (Q11s8 Z eE b5 h0 n0) v U'.heap L ∧ FrameEnd U o U' L ({ frames := 2, cells := 1, slots := 10, locals := 29 } : Room).cells ({ frames := 2, cells := 1, slots := 10, locals := 29 } : Room).slots) :=
  own_met (ret := (some (.array (.object "java/lang/Object")))) (Q := (Q11s8 Z eE b5 h0 n0)) (plainFor_of_name pn_11) (fun m => ef_11 m b5) (fun p e s m below meth c T0 X0 hx hby hml hown hnm hZ e0 => by
  have N0 := Fr.nil n0
  refine ost (mkF m 1 #[.val (.ref b5)] [(.ref b5)]) X0 (fun t k => XS.aloadN X0.here hx rfl (hb hby d11_0) rfl rfl k) ?_
  refine ost (mkF m 2 #[.val (.ref b5)] [(.ref b5), (.ref b5)]) X0 (fun t k => XS.aloadN X0.here hx rfl (hb hby d11_1) rfl rfl k) ?_
  obtain ⟨T8134, X8134, e8134, st8134⟩ := getF X0 hx hZ hown (host := "") (Or.inl (hw _ (wm 64 rfl))) Via.refl e0 F_size_b5 (g := (mkF m 2 #[.val (.ref b5)] [(.ref b5), (.ref b5)])) rfl rfl (hb hby d11_2)
  refine ost (mkF m 5 #[.val (.ref b5)] [(.int (0 : Int32)), (.ref b5)]) X8134 (fun t k => st8134 _ k) ?_
  refine ost (mkF m 6 #[.val (.ref b5)] [(.int (1 : Int32)), (.int (0 : Int32)), (.ref b5)]) X8134 (fun t k => XS.iconst X8134.here hx rfl (hb hby d11_5) k) ?_
  refine ost (mkF m 7 #[.val (.ref b5)] [(.int (1 : Int32)), (.ref b5)]) X8134 (fun t k => XS.iadd X8134.here hx rfl (hb hby d11_6) rfl k) ?_
  obtain ⟨_, T8135, L8135, X8135, ⟨b9140, rfl, N8135q, u9160, u9161, u9162, u9163, u9164, u9165, u9166, u9167⟩, st8135⟩ := own_callP X8134 hx hZ (y := Y7) (W := 0) (a := b5) (argsL := [(.int (1 : Int32))]) (rest := []) hown (hw _ (wm 76 rfl)) (hw _ (wm 60 rfl)) rfl (hw _ (wm 77 rfl)) (hw _ (wm 78 rfl)) (hw _ (wm 11 rfl)) (hw _ (wm 80 rfl)) (by decide) E_b5 (rm12s9 l Z a0 hw [] eE b5 h0 n0 Z0 O_E OA_E Old0 E_b5 F_modCount_b5 F_elementData_b5 F_size_b5 g_b5) (by decide) (by decide) (by decide) (by decide) e8134 (g := (mkF m 7 #[.val (.ref b5)] [(.int (1 : Int32)), (.ref b5)])) rfl (by rw [hml]; rfl) pd_4 rfl rfl (by show 2 * 0 + _ ≤ _; exact Nat.le_of_eq rfl) (hb hby d11_7)
  have N8135 := Fr.app N0 N8135q
  obtain ⟨h8135, e8135⟩ : ∃ z, T8135.heap = z := ⟨_, rfl⟩
  rw [e8135] at u9160 u9161 u9162 u9163 u9164 u9165
  have K8135 := u9160
  have Z8135 := Nat.le_trans Z0 K8135.1
  have S8135 := Nat.le_trans (Nat.le_refl h0.size) K8135.1
  have ne_b5_b9140 : b5 ≠ b9140 := Nat.ne_of_lt (Nat.lt_of_lt_of_le (E_b5).lt u9167)
  have sz_b9140 : h0.size ≤ b9140 := Nat.le_trans (Nat.le_refl h0.size) u9167
  refine ost (mkF m 10 #[.val (.ref b5)] [(.ref b9140)]) X8135 (fun t k => st8135 _ k) ?_
  refine OwnFin.retRef X8135 rfl rfl rfl (hb hby d11_10) (by decide) (by decide) ?_
  rw [e8135]
  exact ⟨b9140, rfl, N8135, (Keep.trans (Keep.refl h0 [b5]) K8135 (allS (Or.inl (wm 0 rfl)) all0)), u9161, u9162, u9163, u9164, u9165, u9166, sz_b9140⟩)
def Q10s7 (Z : State) (eE : Addr) (b5 : Addr) (b3062 : Addr) (h0 : Heap) (n0 : Nat) : Option Value → Heap → List Loc → Prop := fun v h L => ∃ b9140 : Addr, v = none ∧ Fr n0 L ∧ Keep h0 h [b5] ∧ Exa Z h b5 "java/util/ArrayList" ∧ Fld Z h b5 "java/util/AbstractList" "modCount" "I" (.int (1 : Int32)) ∧ Fld Z h b5 "java/util/ArrayList" "elementData" "[Ljava/lang/Object;" (.ref b9140) ∧ Fld Z h b5 "java/util/ArrayList" "size" "I" (.int (1 : Int32)) ∧ AryR Z h b9140 "java/lang/Object" 10 (updN (fun _ => Value.null) ((0 : Int32)).toNatClampNeg (Value.ref b3062)) ∧ n0 ≤ b9140 ∧ h0.size ≤ b9140
abbrev Las710_0 (b5 : Addr) (b3062 : Addr) (eE : Addr) : Array Slot := #[.val (.ref b5), .val (.ref b3062), .val (.ref eE), .val (.int (0 : Int32))]
abbrev Las710_1 (b5 : Addr) (b3062 : Addr) (b9140 : Addr) : Array Slot := #[.val (.ref b5), .val (.ref b3062), .val (.ref b9140), .val (.int (0 : Int32))]
set_option maxRecDepth 65536 in
set_option maxHeartbeats 40000000 in
theorem rm10s7 (l : Launch) (Z : State) (a0 : Array Value) (hw : ∀ d ∈ tables_1, d.before a0 Z = true) (ws : List Jvm.Cond) (eE : Addr) (b5 : Addr) (b3062 : Addr) (h0 : Heap) (n0 : Nat) (Z0 : n0 ≤ h0.size) (O_E : Sta Z Z.heap "java/util/ArrayList" "DEFAULTCAPACITY_EMPTY_ELEMENTDATA" "[Ljava/lang/Object;" (.ref eE)) (OA_E : Ary Z Z.heap eE (.object "java/lang/Object") 0 (fun _ => .null)) (Old0 : Old Z n0 h0) (E_b5 : Exa Z h0 b5 "java/util/ArrayList") (F_modCount_b5 : Fld Z h0 b5 "java/util/AbstractList" "modCount" "I" (.int (1 : Int32))) (F_elementData_b5 : Fld Z h0 b5 "java/util/ArrayList" "elementData" "[Ljava/lang/Object;" (.ref eE)) (F_size_b5 : Fld Z h0 b5 "java/util/ArrayList" "size" "I" (.int (0 : Int32))) (g_b5 : n0 ≤ b5) (E_b3062 : Exa Z h0 b3062 "com/example/ken2/ken2/InterpretedSystem$Variable") :
    MetFree l Y9 (head1 (Jvm.Cond.code Y9 jdk_38_method_24_code 4 none :: ws) ({ frames := 3, cells := 1, slots := 10, locals := 41 } : Room)) (fun a U => a = #[(.ref b5), (.ref b3062), (.ref eE), (.int (0 : Int32))] ∧ Z.Warmed39 U.vm ∧ U.heap = h0) (fun _ _ _ _ _ => True) (fun _ U o U' => ∃ v L, o = .returned v ∧ (Q10s7 Z eE b5 b3062 h0 n0) v U'.heap L ∧ FrameEnd U o U' L ({ frames := 3, cells := 1, slots := 10, locals := 41 } : Room).cells ({ frames := 3, cells := 1, slots := 10, locals := 41 } : Room).slots) :=
  own_met (ret := none) (Q := (Q10s7 Z eE b5 b3062 h0 n0)) (plainFor_of_name pn_10) (fun m => ef_10 m b5 b3062 eE (0 : Int32)) (fun p e s m below meth c T0 X0 hx hby hml hown hnm hZ e0 => by
  have N0 := Fr.nil n0
  refine ost (mkF m 1 (Las710_0 b5 b3062 eE) [(.int (0 : Int32))]) X0 (fun t k => XS.iloadN X0.here hx rfl (hb hby d10_0) rfl k) ?_
  refine ost (mkF m 2 (Las710_0 b5 b3062 eE) [(.ref eE), (.int (0 : Int32))]) X0 (fun t k => XS.aloadN X0.here hx rfl (hb hby d10_1) rfl rfl k) ?_
  refine ost (mkF m 3 (Las710_0 b5 b3062 eE) [(.int (0 : Int32)), (.int (0 : Int32))]) X0 (fun t k => own_len X0 hx hZ e0 (Ary.old OA_E Old0) (g := (mkF m 2 (Las710_0 b5 b3062 eE) [(.ref eE), (.int (0 : Int32))])) rfl rfl (hb hby d10_2) _ k) ?_
  refine ost (mkF m 6 (Las710_0 b5 b3062 eE) []) X0 (fun t k => XS.icmpNo X0.here hx rfl (hb hby d10_3) rfl (teq (show (0 : Int32) = (0 : Int32) by first | rfl | decide)).2 k) ?_
  refine ost (mkF m 7 (Las710_0 b5 b3062 eE) [(.ref b5)]) X0 (fun t k => XS.aloadN X0.here hx rfl (hb hby d10_6) rfl rfl k) ?_
  obtain ⟨_, T7133, L7133, X7133, ⟨b9140, rfl, N7133q, u9178, u9179, u9180, u9181, u9182, u9183, u9184, u9185⟩, st7133⟩ := own_callP X0 hx hZ (y := Y8) (W := 0) (a := b5) (argsL := []) (rest := []) hown (hw _ (wm 71 rfl)) (hw _ (wm 60 rfl)) rfl (hw _ (wm 72 rfl)) (hw _ (wm 73 rfl)) (hw _ (wm 11 rfl)) (hw _ (wm 75 rfl)) (by decide) E_b5 (rm11s8 l Z a0 hw [] eE b5 h0 n0 Z0 O_E OA_E Old0 E_b5 F_modCount_b5 F_elementData_b5 F_size_b5 g_b5) (by decide) (by decide) (by decide) (by decide) e0 (g := (mkF m 7 (Las710_0 b5 b3062 eE) [(.ref b5)])) rfl (by rw [hml]; rfl) pd_5 rfl rfl (by show 2 * 0 + _ ≤ _; exact Nat.le_of_eq rfl) (hb hby d10_7)
  have N7133 := Fr.app N0 N7133q
  obtain ⟨h7133, e7133⟩ : ∃ z, T7133.heap = z := ⟨_, rfl⟩
  rw [e7133] at u9178 u9179 u9180 u9181 u9182 u9183
  have K7133 := u9178
  have Z7133 := Nat.le_trans Z0 K7133.1
  have S7133 := Nat.le_trans (Nat.le_refl h0.size) K7133.1
  have ne_b5_b9140 : b5 ≠ b9140 := Nat.ne_of_lt (Nat.lt_of_lt_of_le (E_b5).lt u9185)
  have ne_b3062_b9140 : b3062 ≠ b9140 := Nat.ne_of_lt (Nat.lt_of_lt_of_le (E_b3062).lt u9185)
  have sz_b9140 : h0.size ≤ b9140 := Nat.le_trans (Nat.le_refl h0.size) u9185
  refine ost (mkF m 10 (Las710_0 b5 b3062 eE) [(.ref b9140)]) X7133 (fun t k => st7133 _ k) ?_
  refine ost (mkF m 11 (Las710_1 b5 b3062 b9140) []) X7133 (fun t k => XS.astoreN X7133.here hx rfl (hb hby d10_10) rfl rfl (l' := (Las710_1 b5 b3062 b9140)) rfl k) ?_
  refine ost (mkF m 12 (Las710_1 b5 b3062 b9140) [(.ref b9140)]) X7133 (fun t k => XS.aloadN X7133.here hx rfl (hb hby d10_11) rfl rfl k) ?_
  refine ost (mkF m 13 (Las710_1 b5 b3062 b9140) [(.int (0 : Int32)), (.ref b9140)]) X7133 (fun t k => XS.iloadN X7133.here hx rfl (hb hby d10_12) rfl k) ?_
  refine ost (mkF m 14 (Las710_1 b5 b3062 b9140) [(.ref b3062), (.int (0 : Int32)), (.ref b9140)]) X7133 (fun t k => XS.aloadN X7133.here hx rfl (hb hby d10_13) rfl rfl k) ?_
  have E9187 := (Exa.keep E_b3062 K7133)
  obtain ⟨T9186, h9186, L9186, X9186, e9186, N9186, K9186, A9186, st9186⟩ := own_stA X7133 hx hZ e7133 N7133 (G := (fun _ => Value.null)) u9183 u9184 (j := (0 : Int32)) (v := (.ref b3062)) (by decide) (own_sto u9183 E9187 (hw _ (wm 84 rfl))) (g := (mkF m 14 (Las710_1 b5 b3062 b9140) [(.ref b3062), (.int (0 : Int32)), (.ref b9140)])) rfl rfl (hb hby d10_14)
  have Z9186 := Nat.le_trans Z7133 K9186.1
  have S9186 := Nat.le_trans S7133 K9186.1
  refine ost (mkF m 15 (Las710_1 b5 b3062 b9140) []) X9186 (fun t k => st9186 _ k) ?_
  refine ost (mkF m 16 (Las710_1 b5 b3062 b9140) [(.ref b5)]) X9186 (fun t k => XS.aloadN X9186.here hx rfl (hb hby d10_15) rfl rfl k) ?_
  refine ost (mkF m 17 (Las710_1 b5 b3062 b9140) [(.int (0 : Int32)), (.ref b5)]) X9186 (fun t k => XS.iloadN X9186.here hx rfl (hb hby d10_16) rfl k) ?_
  refine ost (mkF m 18 (Las710_1 b5 b3062 b9140) [(.int (1 : Int32)), (.int (0 : Int32)), (.ref b5)]) X9186 (fun t k => XS.iconst X9186.here hx rfl (hb hby d10_17) k) ?_
  refine ost (mkF m 19 (Las710_1 b5 b3062 b9140) [(.int (1 : Int32)), (.ref b5)]) X9186 (fun t k => XS.iadd X9186.here hx rfl (hb hby d10_18) rfl k) ?_
  have E9188 := (Exa.keep u9179 K9186)
  have F9189 := (u9180.keep K9186 (ninS ne_b5_b9140 nin0))
  have F9190 := (u9181.keep K9186 (ninS ne_b5_b9140 nin0))
  have F9191 := (u9182.keep K9186 (ninS ne_b5_b9140 nin0))
  obtain ⟨T9192, h9192, L9192, X9192, e9192, N9192, W9192, F9192, st9192⟩ := own_putF X9186 hx hZ hown (hw _ (wm 64 rfl)) e9186 N9186 F9191 E9188 g_b5 (Or.inl (hw _ (wm 65 rfl))) (hw _ (wm 10 rfl)) (fty := .int) (by decide) rfl rfl (g := (mkF m 19 (Las710_1 b5 b3062 b9140) [(.int (1 : Int32)), (.ref b5)])) rfl rfl (hb hby d10_19)
  have K9192 := Keep.of_wr W9192
  have Z9192 := Nat.le_trans Z9186 K9192.1
  have S9192 := Nat.le_trans S9186 K9192.1
  have F9193 := Fld.other W9192 F9189 (Or.inr (slot_ne (Or.inl (hw _ (wm 31 rfl))) (Or.inl (hw _ (wm 65 rfl))) (by decide) (t := .int) (t' := .int) (by decide) (by decide)))
  have F9194 := Fld.other W9192 F9190 (Or.inr (slot_ne (Or.inl (hw _ (wm 34 rfl))) (Or.inl (hw _ (wm 65 rfl))) (by decide) (t := (.array (.object "java/lang/Object"))) (t' := .int) (by decide) (by decide)))
  have E9195 := Exa.wr W9192 E9188
  refine ost (mkF m 22 (Las710_1 b5 b3062 b9140) []) X9192 (fun t k => st9192 _ k) ?_
  have A9196 := (A9186.keep K9192 (ninS (Ne.symm ne_b5_b9140) nin0))
  refine OwnFin.retVoid X9192 (hb hby d10_22) (by decide) (by decide) ?_
  rw [e9192]
  exact ⟨b9140, rfl, N9192, (Keep.trans (Keep.trans (Keep.trans (Keep.refl h0 [b5]) K7133 (allS (Or.inl (wm 0 rfl)) all0)) K9186 (allS (Or.inr sz_b9140) all0)) K9192 (allS (Or.inl (wm 0 rfl)) all0)), E9195, F9193, F9194, F9192, A9196, u9184, sz_b9140⟩)
def Q9s6 (Z : State) (eE : Addr) (b5 : Addr) (b3062 : Addr) (h0 : Heap) (n0 : Nat) : Option Value → Heap → List Loc → Prop := fun v h L => ∃ b9140 : Addr, v = some (.int (nar .boolean (1 : Int32))) ∧ Fr n0 L ∧ Keep h0 h [b5] ∧ Exa Z h b5 "java/util/ArrayList" ∧ Fld Z h b5 "java/util/AbstractList" "modCount" "I" (.int (1 : Int32)) ∧ Fld Z h b5 "java/util/ArrayList" "elementData" "[Ljava/lang/Object;" (.ref b9140) ∧ Fld Z h b5 "java/util/ArrayList" "size" "I" (.int (1 : Int32)) ∧ AryR Z h b9140 "java/lang/Object" 10 (updN (fun _ => Value.null) ((0 : Int32)).toNatClampNeg (Value.ref b3062)) ∧ n0 ≤ b9140 ∧ h0.size ≤ b9140
set_option maxRecDepth 65536 in
set_option maxHeartbeats 40000000 in
theorem rm9s6 (l : Launch) (Z : State) (a0 : Array Value) (hw : ∀ d ∈ tables_1, d.before a0 Z = true) (ws : List Jvm.Cond) (eE : Addr) (b5 : Addr) (b3062 : Addr) (h0 : Heap) (n0 : Nat) (Z0 : n0 ≤ h0.size) (O_E : Sta Z Z.heap "java/util/ArrayList" "DEFAULTCAPACITY_EMPTY_ELEMENTDATA" "[Ljava/lang/Object;" (.ref eE)) (OA_E : Ary Z Z.heap eE (.object "java/lang/Object") 0 (fun _ => .null)) (Old0 : Old Z n0 h0) (E_b5 : Exa Z h0 b5 "java/util/ArrayList") (F_modCount_b5 : Fld Z h0 b5 "java/util/AbstractList" "modCount" "I" (.int (0 : Int32))) (F_elementData_b5 : Fld Z h0 b5 "java/util/ArrayList" "elementData" "[Ljava/lang/Object;" (.ref eE)) (F_size_b5 : Fld Z h0 b5 "java/util/ArrayList" "size" "I" (.int (0 : Int32))) (g_b5 : n0 ≤ b5) (E_b3062 : Exa Z h0 b3062 "com/example/ken2/ken2/InterpretedSystem$Variable") :
    MetFree l Y10 (head1 (Jvm.Cond.code Y10 jdk_38_method_25_code 2 (some .boolean) :: ws) ({ frames := 4, cells := 1, slots := 10, locals := 56 } : Room)) (fun a U => a = #[(.ref b5), (.ref b3062)] ∧ Z.Warmed39 U.vm ∧ U.heap = h0) (fun _ _ _ _ _ => True) (fun _ U o U' => ∃ v L, o = .returned v ∧ (Q9s6 Z eE b5 b3062 h0 n0) v U'.heap L ∧ FrameEnd U o U' L ({ frames := 4, cells := 1, slots := 10, locals := 56 } : Room).cells ({ frames := 4, cells := 1, slots := 10, locals := 56 } : Room).slots) :=
  own_met (ret := (some .boolean)) (Q := (Q9s6 Z eE b5 b3062 h0 n0)) (plainFor_of_name pn_9) (fun m => ef_9 m b5 b3062) (fun p e s m below meth c T0 X0 hx hby hml hown hnm hZ e0 => by
  have N0 := Fr.nil n0
  refine ost (mkF m 1 #[.val (.ref b5), .val (.ref b3062)] [(.ref b5)]) X0 (fun t k => XS.aloadN X0.here hx rfl (hb hby d9_0) rfl rfl k) ?_
  refine ost (mkF m 2 #[.val (.ref b5), .val (.ref b3062)] [(.ref b5), (.ref b5)]) X0 (fun t k => XS.dup X0.here hx rfl (hb hby d9_1) rfl rfl k) ?_
  obtain ⟨T6125, X6125, e6125, st6125⟩ := getF X0 hx hZ hown (host := "") (Or.inl (hw _ (wm 62 rfl))) (Via.of (hw _ (wm 63 rfl))) e0 F_modCount_b5 (g := (mkF m 2 #[.val (.ref b5), .val (.ref b3062)] [(.ref b5), (.ref b5)])) rfl rfl (hb hby d9_2)
  refine ost (mkF m 5 #[.val (.ref b5), .val (.ref b3062)] [(.int (0 : Int32)), (.ref b5)]) X6125 (fun t k => st6125 _ k) ?_
  refine ost (mkF m 6 #[.val (.ref b5), .val (.ref b3062)] [(.int (1 : Int32)), (.int (0 : Int32)), (.ref b5)]) X6125 (fun t k => XS.iconst X6125.here hx rfl (hb hby d9_5) k) ?_
  refine ost (mkF m 7 #[.val (.ref b5), .val (.ref b3062)] [(.int (1 : Int32)), (.ref b5)]) X6125 (fun t k => XS.iadd X6125.here hx rfl (hb hby d9_6) rfl k) ?_
  obtain ⟨T6126, h6126, L6126, X6126, e6126, N6126, W6126, F6126, st6126⟩ := own_putFV X6125 hx hZ hown (hw _ (wm 62 rfl)) (Via.of (hw _ (wm 63 rfl))) e6125 N0 F_modCount_b5 E_b5 g_b5 (Or.inl (hw _ (wm 31 rfl))) (hw _ (wm 10 rfl)) (fty := .int) (by decide) rfl rfl (g := (mkF m 7 #[.val (.ref b5), .val (.ref b3062)] [(.int (1 : Int32)), (.ref b5)])) rfl rfl (hb hby d9_7)
  have K6126 := Keep.of_wr W6126
  have Z6126 := Nat.le_trans Z0 K6126.1
  have S6126 := Nat.le_trans (Nat.le_refl h0.size) K6126.1
  have F6127 := Fld.other W6126 F_elementData_b5 (Or.inr (slot_ne (Or.inl (hw _ (wm 34 rfl))) (Or.inl (hw _ (wm 31 rfl))) (by decide) (t := (.array (.object "java/lang/Object"))) (t' := .int) (by decide) (by decide)))
  have F6128 := Fld.other W6126 F_size_b5 (Or.inr (slot_ne (Or.inl (hw _ (wm 65 rfl))) (Or.inl (hw _ (wm 31 rfl))) (by decide) (t := .int) (t' := .int) (by decide) (by decide)))
  have E6129 := Exa.wr W6126 E_b5
  refine ost (mkF m 10 #[.val (.ref b5), .val (.ref b3062)] []) X6126 (fun t k => st6126 _ k) ?_
  refine ost (mkF m 11 #[.val (.ref b5), .val (.ref b3062)] [(.ref b5)]) X6126 (fun t k => XS.aloadN X6126.here hx rfl (hb hby d9_10) rfl rfl k) ?_
  refine ost (mkF m 12 #[.val (.ref b5), .val (.ref b3062)] [(.ref b3062), (.ref b5)]) X6126 (fun t k => XS.aloadN X6126.here hx rfl (hb hby d9_11) rfl rfl k) ?_
  refine ost (mkF m 13 #[.val (.ref b5), .val (.ref b3062)] [(.ref b5), (.ref b3062), (.ref b5)]) X6126 (fun t k => XS.aloadN X6126.here hx rfl (hb hby d9_12) rfl rfl k) ?_
  obtain ⟨T6130, X6130, e6130, st6130⟩ := getF X6126 hx hZ hown (host := "") (Or.inl (hw _ (wm 33 rfl))) Via.refl e6126 F6127 (g := (mkF m 13 #[.val (.ref b5), .val (.ref b3062)] [(.ref b5), (.ref b3062), (.ref b5)])) rfl rfl (hb hby d9_13)
  refine ost (mkF m 16 #[.val (.ref b5), .val (.ref b3062)] [(.ref eE), (.ref b3062), (.ref b5)]) X6130 (fun t k => st6130 _ k) ?_
  refine ost (mkF m 17 #[.val (.ref b5), .val (.ref b3062)] [(.ref b5), (.ref eE), (.ref b3062), (.ref b5)]) X6130 (fun t k => XS.aloadN X6130.here hx rfl (hb hby d9_16) rfl rfl k) ?_
  obtain ⟨T6131, X6131, e6131, st6131⟩ := getF X6130 hx hZ hown (host := "") (Or.inl (hw _ (wm 64 rfl))) Via.refl e6130 F6128 (g := (mkF m 17 #[.val (.ref b5), .val (.ref b3062)] [(.ref b5), (.ref eE), (.ref b3062), (.ref b5)])) rfl rfl (hb hby d9_17)
  refine ost (mkF m 20 #[.val (.ref b5), .val (.ref b3062)] [(.int (0 : Int32)), (.ref eE), (.ref b3062), (.ref b5)]) X6131 (fun t k => st6131 _ k) ?_
  have Old9207 : Old Z n0 h6126 := (Old.keep Old0 K6126 (allS g_b5 all0))
  have E9208 := (Exa.keep E_b3062 K6126)
  obtain ⟨_, T6132, L6132, X6132, ⟨b9140, rfl, N6132q, u9209, u9210, u9211, u9212, u9213, u9214, u9215, u9216⟩, st6132⟩ := own_callP X6131 hx hZ (y := Y9) (W := 0) (a := b5) (argsL := [(.ref b3062), (.ref eE), (.int (0 : Int32))]) (rest := []) hown (hw _ (wm 66 rfl)) (hw _ (wm 60 rfl)) rfl (hw _ (wm 67 rfl)) (hw _ (wm 68 rfl)) (hw _ (wm 11 rfl)) (hw _ (wm 70 rfl)) (by decide) E6129 (rm10s7 l Z a0 hw [] eE b5 b3062 h6126 n0 Z6126 O_E OA_E Old9207 E6129 F6126 F6127 F6128 g_b5 E9208) (by decide) (by decide) (by decide) (by decide) e6131 (g := (mkF m 20 #[.val (.ref b5), .val (.ref b3062)] [(.int (0 : Int32)), (.ref eE), (.ref b3062), (.ref b5)])) rfl (by rw [hml]; rfl) pd_6 rfl rfl (by show 2 * 0 + _ ≤ _; exact Nat.le_of_eq rfl) (hb hby d9_20)
  have N6132 := Fr.app N6126 N6132q
  obtain ⟨h6132, e6132⟩ : ∃ z, T6132.heap = z := ⟨_, rfl⟩
  rw [e6132] at u9209 u9210 u9211 u9212 u9213 u9214
  have K6132 := u9209
  have Z6132 := Nat.le_trans Z6126 K6132.1
  have S6132 := Nat.le_trans S6126 K6132.1
  have ne_b5_b9140 : b5 ≠ b9140 := Nat.ne_of_lt (Nat.lt_of_lt_of_le (E6129).lt u9216)
  have ne_b3062_b9140 : b3062 ≠ b9140 := Nat.ne_of_lt (Nat.lt_of_lt_of_le (E9208).lt u9216)
  have sz_b9140 : h0.size ≤ b9140 := Nat.le_trans S6126 u9216
  refine ost (mkF m 23 #[.val (.ref b5), .val (.ref b3062)] []) X6132 (fun t k => st6132 _ k) ?_
  refine ost (mkF m 24 #[.val (.ref b5), .val (.ref b3062)] [(.int (1 : Int32))]) X6132 (fun t k => XS.iconst X6132.here hx rfl (hb hby d9_23) k) ?_
  refine OwnFin.retNar X6132 (by simp) (hb hby d9_24) (by decide) (by decide) ?_
  rw [e6132]
  exact ⟨b9140, rfl, N6132, (Keep.trans (Keep.trans (Keep.refl h0 [b5]) K6126 (allS (Or.inl (wm 0 rfl)) all0)) K6132 (allS (Or.inl (wm 0 rfl)) all0)), u9210, u9211, u9212, u9213, u9214, u9215, sz_b9140⟩)
def Q8s5 (Z : State) (b3062 : Addr) (h0 : Heap) (n0 : Nat) : Option Value → Heap → List Loc → Prop := fun v h L => v = none ∧ Fr n0 L ∧ h = h0
set_option maxRecDepth 65536 in
set_option maxHeartbeats 40000000 in
theorem rm8s5 (l : Launch) (Z : State) (a0 : Array Value) (hw : ∀ d ∈ tables_1, d.before a0 Z = true) (ws : List Jvm.Cond) (b3062 : Addr) (h0 : Heap) (n0 : Nat) (Z0 : n0 ≤ h0.size) :
    MetFree l Y5 (head1 (Jvm.Cond.code Y5 jdk_30_method_1_code 1 none :: ws) ({ frames := 1, cells := 0, slots := 0, locals := 12 } : Room)) (fun a U => a = #[(.ref b3062)] ∧ Z.Warmed39 U.vm ∧ U.heap = h0) (fun _ _ _ _ _ => True) (fun _ U o U' => ∃ v L, o = .returned v ∧ (Q8s5 Z b3062 h0 n0) v U'.heap L ∧ FrameEnd U o U' L ({ frames := 1, cells := 0, slots := 0, locals := 12 } : Room).cells ({ frames := 1, cells := 0, slots := 0, locals := 12 } : Room).slots) :=
  own_met (ret := none) (Q := (Q8s5 Z b3062 h0 n0)) (plainFor_of_name pn_8) (fun m => ef_8 m b3062) (fun p e s m below meth c T0 X0 hx hby hml hown hnm hZ e0 => by
  have N0 := Fr.nil n0
  refine ost (mkF m 1 #[.val (.ref b3062)] [(.ref b3062)]) X0 (fun t k => XS.aloadN X0.here hx rfl (hb hby d8_0) rfl rfl k) ?_
  obtain ⟨T5065, X5065, e5065, st5065⟩ := initO X0 hx hZ hown (hw _ (wm 46 rfl)) (hw _ (wm 28 rfl)) (hw _ (wm 29 rfl)) e0 (g := (mkF m 1 #[.val (.ref b3062)] [(.ref b3062)])) rfl (by rw [hml]; rfl) rfl (hb hby d8_1) (by decide) (W := 0) (by show 2 * 0 + _ ≤ _; exact Nat.le_of_eq rfl) (by decide)
  refine ost (mkF m 4 #[.val (.ref b3062)] []) X5065 (fun t k => st5065 _ k) ?_
  refine OwnFin.retVoid X5065 (hb hby d8_4) (by decide) (by decide) ?_
  rw [e5065]
  exact ⟨rfl, N0, rfl⟩)
def Q7s4 (Z : State) (q0 : Int64) (b3062 : Addr) (h0 : Heap) (n0 : Nat) : Option Value → Heap → List Loc → Prop := fun v h L => v = none ∧ Fr n0 L ∧ Keep h0 h [b3062] ∧ Exa Z h b3062 "com/example/ken2/ken2/InterpretedSystem$Variable" ∧ Fld Z h b3062 "com/example/ken2/ken2/InterpretedSystem$Variable" "agent" "Ljava/lang/String;" .null ∧ Fld Z h b3062 "com/example/ken2/ken2/InterpretedSystem$Variable" "name" "Ljava/lang/String;" .null ∧ Fld Z h b3062 "com/example/ken2/ken2/InterpretedSystem$Variable" "values" "Ljava/util/List;" .null ∧ Fld Z h b3062 "com/example/ken2/ken2/InterpretedSystem$Variable" "low" "I" (.int (0 : Int32)) ∧ Fld Z h b3062 "com/example/ken2/ken2/InterpretedSystem$Variable" "size" "I" (.int (v0_8 q0))
abbrev Las47_0 (b3062 : Addr) (q0 : Int64) : Array Slot := #[.val (.ref b3062), .val .null, .val .null, .val .null, .val (.int (0 : Int32)), .val (.int (v0_8 q0))]
set_option maxRecDepth 65536 in
set_option maxHeartbeats 40000000 in
theorem rm7s4 (l : Launch) (Z : State) (a0 : Array Value) (hw : ∀ d ∈ tables_1, d.before a0 Z = true) (ws : List Jvm.Cond) (q0 : Int64) (b3062 : Addr) (h0 : Heap) (n0 : Nat) (Z0 : n0 ≤ h0.size) (E_b3062 : Exa Z h0 b3062 "com/example/ken2/ken2/InterpretedSystem$Variable") (F_agent_b3062 : Fld Z h0 b3062 "com/example/ken2/ken2/InterpretedSystem$Variable" "agent" "Ljava/lang/String;" .null) (F_name_b3062 : Fld Z h0 b3062 "com/example/ken2/ken2/InterpretedSystem$Variable" "name" "Ljava/lang/String;" .null) (F_values_b3062 : Fld Z h0 b3062 "com/example/ken2/ken2/InterpretedSystem$Variable" "values" "Ljava/util/List;" .null) (F_low_b3062 : Fld Z h0 b3062 "com/example/ken2/ken2/InterpretedSystem$Variable" "low" "I" (.int (0 : Int32))) (F_size_b3062 : Fld Z h0 b3062 "com/example/ken2/ken2/InterpretedSystem$Variable" "size" "I" (.int (0 : Int32))) (g_b3062 : n0 ≤ b3062) :
    MetFree l Y6 (head1 (Jvm.Cond.code Y6 prog_64_method_1_code 6 none :: ws) ({ frames := 2, cells := 0, slots := 0, locals := 24 } : Room)) (fun a U => a = #[(.ref b3062), .null, .null, .null, (.int (0 : Int32)), (.int (v0_8 q0))] ∧ Z.Warmed39 U.vm ∧ U.heap = h0) (fun _ _ _ _ _ => True) (fun _ U o U' => ∃ v L, o = .returned v ∧ (Q7s4 Z q0 b3062 h0 n0) v U'.heap L ∧ FrameEnd U o U' L ({ frames := 2, cells := 0, slots := 0, locals := 24 } : Room).cells ({ frames := 2, cells := 0, slots := 0, locals := 24 } : Room).slots) :=
  own_met (ret := none) (Q := (Q7s4 Z q0 b3062 h0 n0)) (plainFor_of_name pn_7) (fun m => ef_7n1n2n3 m b3062 (0 : Int32) (v0_8 q0)) (fun p e s m below meth c T0 X0 hx hby hml hown hnm hZ e0 => by
  have N0 := Fr.nil n0
  refine ost (mkF m 1 (Las47_0 b3062 q0) [(.ref b3062)]) X0 (fun t k => XS.aloadN X0.here hx rfl (hb hby d7_0) rfl rfl k) ?_
  obtain ⟨_, T4064, L4064, X4064, ⟨rfl, N4064q, u5076⟩, st4064⟩ := own_callI X0 hx hZ (y := Y5) (W := 0) (a := b3062) (argsL := []) (rest := []) rfl hown (hw _ (wm 41 rfl)) (hw _ (wm 42 rfl)) (hw _ (wm 44 rfl)) (hw _ (wm 45 rfl)) (by decide) (rm8s5 l Z a0 hw [] b3062 h0 n0 Z0 ) (by decide) (by decide) (by decide) (by decide) e0 (g := (mkF m 1 (Las47_0 b3062 q0) [(.ref b3062)])) rfl (by rw [hml]; rfl) pd_2 rfl rfl (by show 2 * 0 + _ ≤ _; exact Nat.le_of_eq rfl) (hb hby d7_1)
  have N4064 := Fr.app N0 N4064q
  refine ost (mkF m 4 (Las47_0 b3062 q0) []) X4064 (fun t k => st4064 _ k) ?_
  refine ost (mkF m 5 (Las47_0 b3062 q0) [(.ref b3062)]) X4064 (fun t k => XS.aloadN X4064.here hx rfl (hb hby d7_4) rfl rfl k) ?_
  refine ost (mkF m 6 (Las47_0 b3062 q0) [.null, (.ref b3062)]) X4064 (fun t k => XS.aloadN X4064.here hx rfl (hb hby d7_5) rfl rfl k) ?_
  obtain ⟨T5077, h5077, L5077, X5077, e5077, N5077, W5077, F5077, st5077⟩ := own_putF X4064 hx hZ hown (hw _ (wm 47 rfl)) u5076 N4064 F_agent_b3062 E_b3062 g_b3062 (Or.inr ⟨(hw _ (wm 48 rfl)), rfl, hnm⟩) (hw _ (wm 36 rfl)) (fty := (.object "java/lang/String")) (by decide) rfl rfl (g := (mkF m 6 (Las47_0 b3062 q0) [.null, (.ref b3062)])) rfl rfl (hb hby d7_6)
  have K5077 := Keep.of_wr W5077
  have Z5077 := Nat.le_trans Z0 K5077.1
  have S5077 := Nat.le_trans (Nat.le_refl h0.size) K5077.1
  have F5078 := Fld.other W5077 F_name_b3062 (Or.inr (slot_ne (Or.inr (hw _ (wm 50 rfl))) (Or.inr (hw _ (wm 48 rfl))) (by decide) (t := (.object "java/lang/String")) (t' := (.object "java/lang/String")) (by decide) (by decide)))
  have F5079 := Fld.other W5077 F_values_b3062 (Or.inr (slot_ne (Or.inr (hw _ (wm 52 rfl))) (Or.inr (hw _ (wm 48 rfl))) (by decide) (t := (.object "java/util/List")) (t' := (.object "java/lang/String")) (by decide) (by decide)))
  have F5080 := Fld.other W5077 F_low_b3062 (Or.inr (slot_ne (Or.inr (hw _ (wm 54 rfl))) (Or.inr (hw _ (wm 48 rfl))) (by decide) (t := .int) (t' := (.object "java/lang/String")) (by decide) (by decide)))
  have F5081 := Fld.other W5077 F_size_b3062 (Or.inr (slot_ne (Or.inr (hw _ (wm 56 rfl))) (Or.inr (hw _ (wm 48 rfl))) (by decide) (t := .int) (t' := (.object "java/lang/String")) (by decide) (by decide)))
  have E5082 := Exa.wr W5077 E_b3062
  refine ost (mkF m 9 (Las47_0 b3062 q0) []) X5077 (fun t k => st5077 _ k) ?_
  refine ost (mkF m 10 (Las47_0 b3062 q0) [(.ref b3062)]) X5077 (fun t k => XS.aloadN X5077.here hx rfl (hb hby d7_9) rfl rfl k) ?_
  refine ost (mkF m 11 (Las47_0 b3062 q0) [.null, (.ref b3062)]) X5077 (fun t k => XS.aloadN X5077.here hx rfl (hb hby d7_10) rfl rfl k) ?_
  obtain ⟨T5083, h5083, L5083, X5083, e5083, N5083, W5083, F5083, st5083⟩ := own_putF X5077 hx hZ hown (hw _ (wm 49 rfl)) e5077 N5077 F5078 E5082 g_b3062 (Or.inr ⟨(hw _ (wm 50 rfl)), rfl, hnm⟩) (hw _ (wm 36 rfl)) (fty := (.object "java/lang/String")) (by decide) rfl rfl (g := (mkF m 11 (Las47_0 b3062 q0) [.null, (.ref b3062)])) rfl rfl (hb hby d7_11)
  have K5083 := Keep.of_wr W5083
  have Z5083 := Nat.le_trans Z5077 K5083.1
  have S5083 := Nat.le_trans S5077 K5083.1
  have F5084 := Fld.other W5083 F5077 (Or.inr (slot_ne (Or.inr (hw _ (wm 48 rfl))) (Or.inr (hw _ (wm 50 rfl))) (by decide) (t := (.object "java/lang/String")) (t' := (.object "java/lang/String")) (by decide) (by decide)))
  have F5085 := Fld.other W5083 F5079 (Or.inr (slot_ne (Or.inr (hw _ (wm 52 rfl))) (Or.inr (hw _ (wm 50 rfl))) (by decide) (t := (.object "java/util/List")) (t' := (.object "java/lang/String")) (by decide) (by decide)))
  have F5086 := Fld.other W5083 F5080 (Or.inr (slot_ne (Or.inr (hw _ (wm 54 rfl))) (Or.inr (hw _ (wm 50 rfl))) (by decide) (t := .int) (t' := (.object "java/lang/String")) (by decide) (by decide)))
  have F5087 := Fld.other W5083 F5081 (Or.inr (slot_ne (Or.inr (hw _ (wm 56 rfl))) (Or.inr (hw _ (wm 50 rfl))) (by decide) (t := .int) (t' := (.object "java/lang/String")) (by decide) (by decide)))
  have E5088 := Exa.wr W5083 E5082
  refine ost (mkF m 14 (Las47_0 b3062 q0) []) X5083 (fun t k => st5083 _ k) ?_
  refine ost (mkF m 15 (Las47_0 b3062 q0) [(.ref b3062)]) X5083 (fun t k => XS.aloadN X5083.here hx rfl (hb hby d7_14) rfl rfl k) ?_
  refine ost (mkF m 16 (Las47_0 b3062 q0) [.null, (.ref b3062)]) X5083 (fun t k => XS.aloadN X5083.here hx rfl (hb hby d7_15) rfl rfl k) ?_
  obtain ⟨T5089, h5089, L5089, X5089, e5089, N5089, W5089, F5089, st5089⟩ := own_putF X5083 hx hZ hown (hw _ (wm 51 rfl)) e5083 N5083 F5085 E5088 g_b3062 (Or.inr ⟨(hw _ (wm 52 rfl)), rfl, hnm⟩) (hw _ (wm 36 rfl)) (fty := (.object "java/util/List")) (by decide) rfl rfl (g := (mkF m 16 (Las47_0 b3062 q0) [.null, (.ref b3062)])) rfl rfl (hb hby d7_16)
  have K5089 := Keep.of_wr W5089
  have Z5089 := Nat.le_trans Z5083 K5089.1
  have S5089 := Nat.le_trans S5083 K5089.1
  have F5090 := Fld.other W5089 F5084 (Or.inr (slot_ne (Or.inr (hw _ (wm 48 rfl))) (Or.inr (hw _ (wm 52 rfl))) (by decide) (t := (.object "java/lang/String")) (t' := (.object "java/util/List")) (by decide) (by decide)))
  have F5091 := Fld.other W5089 F5083 (Or.inr (slot_ne (Or.inr (hw _ (wm 50 rfl))) (Or.inr (hw _ (wm 52 rfl))) (by decide) (t := (.object "java/lang/String")) (t' := (.object "java/util/List")) (by decide) (by decide)))
  have F5092 := Fld.other W5089 F5086 (Or.inr (slot_ne (Or.inr (hw _ (wm 54 rfl))) (Or.inr (hw _ (wm 52 rfl))) (by decide) (t := .int) (t' := (.object "java/util/List")) (by decide) (by decide)))
  have F5093 := Fld.other W5089 F5087 (Or.inr (slot_ne (Or.inr (hw _ (wm 56 rfl))) (Or.inr (hw _ (wm 52 rfl))) (by decide) (t := .int) (t' := (.object "java/util/List")) (by decide) (by decide)))
  have E5094 := Exa.wr W5089 E5088
  refine ost (mkF m 19 (Las47_0 b3062 q0) []) X5089 (fun t k => st5089 _ k) ?_
  refine ost (mkF m 20 (Las47_0 b3062 q0) [(.ref b3062)]) X5089 (fun t k => XS.aloadN X5089.here hx rfl (hb hby d7_19) rfl rfl k) ?_
  refine ost (mkF m 22 (Las47_0 b3062 q0) [(.int (0 : Int32)), (.ref b3062)]) X5089 (fun t k => XS.iload X5089.here hx rfl (hb hby d7_20) rfl k) ?_
  obtain ⟨T5095, h5095, L5095, X5095, e5095, N5095, W5095, F5095, st5095⟩ := own_putF X5089 hx hZ hown (hw _ (wm 53 rfl)) e5089 N5089 F5092 E5094 g_b3062 (Or.inr ⟨(hw _ (wm 54 rfl)), rfl, hnm⟩) (hw _ (wm 36 rfl)) (fty := .int) (by decide) rfl rfl (g := (mkF m 22 (Las47_0 b3062 q0) [(.int (0 : Int32)), (.ref b3062)])) rfl rfl (hb hby d7_22)
  have K5095 := Keep.of_wr W5095
  have Z5095 := Nat.le_trans Z5089 K5095.1
  have S5095 := Nat.le_trans S5089 K5095.1
  have F5096 := Fld.other W5095 F5090 (Or.inr (slot_ne (Or.inr (hw _ (wm 48 rfl))) (Or.inr (hw _ (wm 54 rfl))) (by decide) (t := (.object "java/lang/String")) (t' := .int) (by decide) (by decide)))
  have F5097 := Fld.other W5095 F5091 (Or.inr (slot_ne (Or.inr (hw _ (wm 50 rfl))) (Or.inr (hw _ (wm 54 rfl))) (by decide) (t := (.object "java/lang/String")) (t' := .int) (by decide) (by decide)))
  have F5098 := Fld.other W5095 F5089 (Or.inr (slot_ne (Or.inr (hw _ (wm 52 rfl))) (Or.inr (hw _ (wm 54 rfl))) (by decide) (t := (.object "java/util/List")) (t' := .int) (by decide) (by decide)))
  have F5099 := Fld.other W5095 F5093 (Or.inr (slot_ne (Or.inr (hw _ (wm 56 rfl))) (Or.inr (hw _ (wm 54 rfl))) (by decide) (t := .int) (t' := .int) (by decide) (by decide)))
  have E5100 := Exa.wr W5095 E5094
  refine ost (mkF m 25 (Las47_0 b3062 q0) []) X5095 (fun t k => st5095 _ k) ?_
  refine ost (mkF m 26 (Las47_0 b3062 q0) [(.ref b3062)]) X5095 (fun t k => XS.aloadN X5095.here hx rfl (hb hby d7_25) rfl rfl k) ?_
  refine ost (mkF m 28 (Las47_0 b3062 q0) [(.int (v0_8 q0)), (.ref b3062)]) X5095 (fun t k => XS.iload X5095.here hx rfl (hb hby d7_26) rfl k) ?_
  obtain ⟨T5101, h5101, L5101, X5101, e5101, N5101, W5101, F5101, st5101⟩ := own_putF X5095 hx hZ hown (hw _ (wm 55 rfl)) e5095 N5095 F5099 E5100 g_b3062 (Or.inr ⟨(hw _ (wm 56 rfl)), rfl, hnm⟩) (hw _ (wm 36 rfl)) (fty := .int) (by decide) rfl rfl (g := (mkF m 28 (Las47_0 b3062 q0) [(.int (v0_8 q0)), (.ref b3062)])) rfl rfl (hb hby d7_28)
  have K5101 := Keep.of_wr W5101
  have Z5101 := Nat.le_trans Z5095 K5101.1
  have S5101 := Nat.le_trans S5095 K5101.1
  have F5102 := Fld.other W5101 F5096 (Or.inr (slot_ne (Or.inr (hw _ (wm 48 rfl))) (Or.inr (hw _ (wm 56 rfl))) (by decide) (t := (.object "java/lang/String")) (t' := .int) (by decide) (by decide)))
  have F5103 := Fld.other W5101 F5097 (Or.inr (slot_ne (Or.inr (hw _ (wm 50 rfl))) (Or.inr (hw _ (wm 56 rfl))) (by decide) (t := (.object "java/lang/String")) (t' := .int) (by decide) (by decide)))
  have F5104 := Fld.other W5101 F5098 (Or.inr (slot_ne (Or.inr (hw _ (wm 52 rfl))) (Or.inr (hw _ (wm 56 rfl))) (by decide) (t := (.object "java/util/List")) (t' := .int) (by decide) (by decide)))
  have F5105 := Fld.other W5101 F5095 (Or.inr (slot_ne (Or.inr (hw _ (wm 54 rfl))) (Or.inr (hw _ (wm 56 rfl))) (by decide) (t := .int) (t' := .int) (by decide) (by decide)))
  have E5106 := Exa.wr W5101 E5100
  refine ost (mkF m 31 (Las47_0 b3062 q0) []) X5101 (fun t k => st5101 _ k) ?_
  refine OwnFin.retVoid X5101 (hb hby d7_31) (by decide) (by decide) ?_
  rw [e5101]
  exact ⟨rfl, N5101, (Keep.trans (Keep.trans (Keep.trans (Keep.trans (Keep.trans (Keep.refl h0 [b3062]) K5077 (allS (Or.inl (wm 0 rfl)) all0)) K5083 (allS (Or.inl (wm 0 rfl)) all0)) K5089 (allS (Or.inl (wm 0 rfl)) all0)) K5095 (allS (Or.inl (wm 0 rfl)) all0)) K5101 (allS (Or.inl (wm 0 rfl)) all0)), E5106, F5102, F5103, F5104, F5105, F5101⟩)
def Q5s3 (Z : State) (b5 : Addr) (h0 : Heap) (n0 : Nat) : Option Value → Heap → List Loc → Prop := fun v h L => v = none ∧ Fr n0 L ∧ h = h0
set_option maxRecDepth 65536 in
set_option maxHeartbeats 40000000 in
theorem rm5s3 (l : Launch) (Z : State) (a0 : Array Value) (hw : ∀ d ∈ tables_1, d.before a0 Z = true) (ws : List Jvm.Cond) (b5 : Addr) (h0 : Heap) (n0 : Nat) (Z0 : n0 ≤ h0.size) :
    MetFree l Y2 (head1 (Jvm.Cond.code Y2 jdk_22_method_1_code 1 none :: ws) ({ frames := 1, cells := 0, slots := 0, locals := 12 } : Room)) (fun a U => a = #[(.ref b5)] ∧ Z.Warmed39 U.vm ∧ U.heap = h0) (fun _ _ _ _ _ => True) (fun _ U o U' => ∃ v L, o = .returned v ∧ (Q5s3 Z b5 h0 n0) v U'.heap L ∧ FrameEnd U o U' L ({ frames := 1, cells := 0, slots := 0, locals := 12 } : Room).cells ({ frames := 1, cells := 0, slots := 0, locals := 12 } : Room).slots) :=
  own_met (ret := none) (Q := (Q5s3 Z b5 h0 n0)) (plainFor_of_name pn_5) (fun m => ef_5 m b5) (fun p e s m below meth c T0 X0 hx hby hml hown hnm hZ e0 => by
  have N0 := Fr.nil n0
  refine ost (mkF m 1 #[.val (.ref b5)] [(.ref b5)]) X0 (fun t k => XS.aloadN X0.here hx rfl (hb hby d5_0) rfl rfl k) ?_
  obtain ⟨T3009, X3009, e3009, st3009⟩ := initO X0 hx hZ hown (hw _ (wm 27 rfl)) (hw _ (wm 28 rfl)) (hw _ (wm 29 rfl)) e0 (g := (mkF m 1 #[.val (.ref b5)] [(.ref b5)])) rfl (by rw [hml]; rfl) rfl (hb hby d5_1) (by decide) (W := 0) (by show 2 * 0 + _ ≤ _; exact Nat.le_of_eq rfl) (by decide)
  refine ost (mkF m 4 #[.val (.ref b5)] []) X3009 (fun t k => st3009 _ k) ?_
  refine OwnFin.retVoid X3009 (hb hby d5_4) (by decide) (by decide) ?_
  rw [e3009]
  exact ⟨rfl, N0, rfl⟩)
def Q4s2 (Z : State) (b5 : Addr) (h0 : Heap) (n0 : Nat) : Option Value → Heap → List Loc → Prop := fun v h L => v = none ∧ Fr n0 L ∧ Keep h0 h [b5] ∧ Exa Z h b5 "java/util/ArrayList" ∧ Fld Z h b5 "java/util/AbstractList" "modCount" "I" (.int (0 : Int32)) ∧ Fld Z h b5 "java/util/ArrayList" "elementData" "[Ljava/lang/Object;" .null ∧ Fld Z h b5 "java/util/ArrayList" "size" "I" (.int (0 : Int32))
set_option maxRecDepth 65536 in
set_option maxHeartbeats 40000000 in
theorem rm4s2 (l : Launch) (Z : State) (a0 : Array Value) (hw : ∀ d ∈ tables_1, d.before a0 Z = true) (ws : List Jvm.Cond) (b5 : Addr) (h0 : Heap) (n0 : Nat) (Z0 : n0 ≤ h0.size) (E_b5 : Exa Z h0 b5 "java/util/ArrayList") (F_modCount_b5 : Fld Z h0 b5 "java/util/AbstractList" "modCount" "I" (.int (0 : Int32))) (F_elementData_b5 : Fld Z h0 b5 "java/util/ArrayList" "elementData" "[Ljava/lang/Object;" .null) (F_size_b5 : Fld Z h0 b5 "java/util/ArrayList" "size" "I" (.int (0 : Int32))) (g_b5 : n0 ≤ b5) :
    MetFree l Y3 (head1 (Jvm.Cond.code Y3 jdk_39_method_1_code 1 none :: ws) ({ frames := 2, cells := 0, slots := 0, locals := 24 } : Room)) (fun a U => a = #[(.ref b5)] ∧ Z.Warmed39 U.vm ∧ U.heap = h0) (fun _ _ _ _ _ => True) (fun _ U o U' => ∃ v L, o = .returned v ∧ (Q4s2 Z b5 h0 n0) v U'.heap L ∧ FrameEnd U o U' L ({ frames := 2, cells := 0, slots := 0, locals := 24 } : Room).cells ({ frames := 2, cells := 0, slots := 0, locals := 24 } : Room).slots) :=
  own_met (ret := none) (Q := (Q4s2 Z b5 h0 n0)) (plainFor_of_name pn_4) (fun m => ef_4 m b5) (fun p e s m below meth c T0 X0 hx hby hml hown hnm hZ e0 => by
  have N0 := Fr.nil n0
  refine ost (mkF m 1 #[.val (.ref b5)] [(.ref b5)]) X0 (fun t k => XS.aloadN X0.here hx rfl (hb hby d4_0) rfl rfl k) ?_
  obtain ⟨_, T2008, L2008, X2008, ⟨rfl, N2008q, u3020⟩, st2008⟩ := own_callI X0 hx hZ (y := Y2) (W := 0) (a := b5) (argsL := []) (rest := []) rfl hown (hw _ (wm 21 rfl)) (hw _ (wm 22 rfl)) (hw _ (wm 25 rfl)) (hw _ (wm 26 rfl)) (by decide) (rm5s3 l Z a0 hw [] b5 h0 n0 Z0 ) (by decide) (by decide) (by decide) (by decide) e0 (g := (mkF m 1 #[.val (.ref b5)] [(.ref b5)])) rfl (by rw [hml]; rfl) pd_2 rfl rfl (by show 2 * 0 + _ ≤ _; exact Nat.le_of_eq rfl) (hb hby d4_1)
  have N2008 := Fr.app N0 N2008q
  refine ost (mkF m 4 #[.val (.ref b5)] []) X2008 (fun t k => st2008 _ k) ?_
  refine ost (mkF m 5 #[.val (.ref b5)] [(.ref b5)]) X2008 (fun t k => XS.aloadN X2008.here hx rfl (hb hby d4_4) rfl rfl k) ?_
  refine ost (mkF m 6 #[.val (.ref b5)] [(.int (0 : Int32)), (.ref b5)]) X2008 (fun t k => XS.iconst X2008.here hx rfl (hb hby d4_5) k) ?_
  obtain ⟨T3021, h3021, L3021, X3021, e3021, N3021, W3021, F3021, st3021⟩ := own_putF X2008 hx hZ hown (hw _ (wm 30 rfl)) u3020 N2008 F_modCount_b5 E_b5 g_b5 (Or.inl (hw _ (wm 31 rfl))) (hw _ (wm 10 rfl)) (fty := .int) (by decide) rfl rfl (g := (mkF m 6 #[.val (.ref b5)] [(.int (0 : Int32)), (.ref b5)])) rfl rfl (hb hby d4_6)
  have K3021 := Keep.of_wr W3021
  have Z3021 := Nat.le_trans Z0 K3021.1
  have S3021 := Nat.le_trans (Nat.le_refl h0.size) K3021.1
  have F3022 := Fld.other W3021 F_elementData_b5 (Or.inr (slot_ne (Or.inl (hw _ (wm 34 rfl))) (Or.inl (hw _ (wm 31 rfl))) (by decide) (t := (.array (.object "java/lang/Object"))) (t' := .int) (by decide) (by decide)))
  have F3023 := Fld.other W3021 F_size_b5 (Or.inr (slot_ne (Or.inl (hw _ (wm 65 rfl))) (Or.inl (hw _ (wm 31 rfl))) (by decide) (t := .int) (t' := .int) (by decide) (by decide)))
  have E3024 := Exa.wr W3021 E_b5
  refine ost (mkF m 9 #[.val (.ref b5)] []) X3021 (fun t k => st3021 _ k) ?_
  refine OwnFin.retVoid X3021 (hb hby d4_9) (by decide) (by decide) ?_
  rw [e3021]
  exact ⟨rfl, N3021, (Keep.trans (Keep.refl h0 [b5]) K3021 (allS (Or.inl (wm 0 rfl)) all0)), E3024, F3021, F3022, F3023⟩)
def Q3s1 (Z : State) (eE : Addr) (b5 : Addr) (h0 : Heap) (n0 : Nat) : Option Value → Heap → List Loc → Prop := fun v h L => v = none ∧ Fr n0 L ∧ Keep h0 h [b5] ∧ Exa Z h b5 "java/util/ArrayList" ∧ Fld Z h b5 "java/util/AbstractList" "modCount" "I" (.int (0 : Int32)) ∧ Fld Z h b5 "java/util/ArrayList" "elementData" "[Ljava/lang/Object;" (.ref eE) ∧ Fld Z h b5 "java/util/ArrayList" "size" "I" (.int (0 : Int32))
set_option maxRecDepth 65536 in
set_option maxHeartbeats 40000000 in
theorem rm3s1 (l : Launch) (Z : State) (a0 : Array Value) (hw : ∀ d ∈ tables_1, d.before a0 Z = true) (ws : List Jvm.Cond) (eE : Addr) (b5 : Addr) (h0 : Heap) (n0 : Nat) (Z0 : n0 ≤ h0.size) (O_E : Sta Z Z.heap "java/util/ArrayList" "DEFAULTCAPACITY_EMPTY_ELEMENTDATA" "[Ljava/lang/Object;" (.ref eE)) (Old0 : Old Z n0 h0) (E_b5 : Exa Z h0 b5 "java/util/ArrayList") (F_modCount_b5 : Fld Z h0 b5 "java/util/AbstractList" "modCount" "I" (.int (0 : Int32))) (F_elementData_b5 : Fld Z h0 b5 "java/util/ArrayList" "elementData" "[Ljava/lang/Object;" .null) (F_size_b5 : Fld Z h0 b5 "java/util/ArrayList" "size" "I" (.int (0 : Int32))) (g_b5 : n0 ≤ b5) :
    MetFree l Y4 (head1 (Jvm.Cond.code Y4 jdk_38_method_2_code 1 none :: ws) ({ frames := 3, cells := 0, slots := 0, locals := 36 } : Room)) (fun a U => a = #[(.ref b5)] ∧ Z.Warmed39 U.vm ∧ U.heap = h0) (fun _ _ _ _ _ => True) (fun _ U o U' => ∃ v L, o = .returned v ∧ (Q3s1 Z eE b5 h0 n0) v U'.heap L ∧ FrameEnd U o U' L ({ frames := 3, cells := 0, slots := 0, locals := 36 } : Room).cells ({ frames := 3, cells := 0, slots := 0, locals := 36 } : Room).slots) :=
  own_met (ret := none) (Q := (Q3s1 Z eE b5 h0 n0)) (plainFor_of_name pn_3) (fun m => ef_3 m b5) (fun p e s m below meth c T0 X0 hx hby hml hown hnm hZ e0 => by
  have N0 := Fr.nil n0
  refine ost (mkF m 1 #[.val (.ref b5)] [(.ref b5)]) X0 (fun t k => XS.aloadN X0.here hx rfl (hb hby d3_0) rfl rfl k) ?_
  obtain ⟨_, T1007, L1007, X1007, ⟨rfl, N1007q, u3035, u3036, u3037, u3038, u3039⟩, st1007⟩ := own_callI X0 hx hZ (y := Y3) (W := 0) (a := b5) (argsL := []) (rest := []) rfl hown (hw _ (wm 15 rfl)) (hw _ (wm 16 rfl)) (hw _ (wm 19 rfl)) (hw _ (wm 20 rfl)) (by decide) (rm4s2 l Z a0 hw [] b5 h0 n0 Z0 E_b5 F_modCount_b5 F_elementData_b5 F_size_b5 g_b5) (by decide) (by decide) (by decide) (by decide) e0 (g := (mkF m 1 #[.val (.ref b5)] [(.ref b5)])) rfl (by rw [hml]; rfl) pd_2 rfl rfl (by show 2 * 0 + _ ≤ _; exact Nat.le_of_eq rfl) (hb hby d3_1)
  have N1007 := Fr.app N0 N1007q
  obtain ⟨h1007, e1007⟩ : ∃ z, T1007.heap = z := ⟨_, rfl⟩
  rw [e1007] at u3035 u3036 u3037 u3038 u3039
  have K1007 := u3035
  have Z1007 := Nat.le_trans Z0 K1007.1
  have S1007 := Nat.le_trans (Nat.le_refl h0.size) K1007.1
  refine ost (mkF m 4 #[.val (.ref b5)] []) X1007 (fun t k => st1007 _ k) ?_
  refine ost (mkF m 5 #[.val (.ref b5)] [(.ref b5)]) X1007 (fun t k => XS.aloadN X1007.here hx rfl (hb hby d3_4) rfl rfl k) ?_
  have Old3041 : Old Z n0 h1007 := (Old.keep Old0 K1007 (allS g_b5 all0))
  obtain ⟨T3040, X3040, e3040, st3040⟩ := getS2 X1007 hx hZ hown (host := "") (Or.inl (hw _ (wm 32 rfl))) Via.refl e1007 (O_E.ext (Old3041).2) (g := (mkF m 5 #[.val (.ref b5)] [(.ref b5)])) rfl (hb hby d3_5)
  refine ost (mkF m 8 #[.val (.ref b5)] [(.ref eE), (.ref b5)]) X3040 (fun t k => st3040 _ k) ?_
  obtain ⟨T3042, h3042, L3042, X3042, e3042, N3042, W3042, F3042, st3042⟩ := own_putF X3040 hx hZ hown (hw _ (wm 33 rfl)) e3040 N1007 u3038 u3036 g_b5 (Or.inl (hw _ (wm 34 rfl))) (hw _ (wm 10 rfl)) (fty := (.array (.object "java/lang/Object"))) (by decide) rfl rfl (g := (mkF m 8 #[.val (.ref b5)] [(.ref eE), (.ref b5)])) rfl rfl (hb hby d3_8)
  have K3042 := Keep.of_wr W3042
  have Z3042 := Nat.le_trans Z1007 K3042.1
  have S3042 := Nat.le_trans S1007 K3042.1
  have F3043 := Fld.other W3042 u3037 (Or.inr (slot_ne (Or.inl (hw _ (wm 31 rfl))) (Or.inl (hw _ (wm 34 rfl))) (by decide) (t := .int) (t' := (.array (.object "java/lang/Object"))) (by decide) (by decide)))
  have F3044 := Fld.other W3042 u3039 (Or.inr (slot_ne (Or.inl (hw _ (wm 65 rfl))) (Or.inl (hw _ (wm 34 rfl))) (by decide) (t := .int) (t' := (.array (.object "java/lang/Object"))) (by decide) (by decide)))
  have E3045 := Exa.wr W3042 u3036
  refine ost (mkF m 11 #[.val (.ref b5)] []) X3042 (fun t k => st3042 _ k) ?_
  refine OwnFin.retVoid X3042 (hb hby d3_11) (by decide) (by decide) ?_
  rw [e3042]
  exact ⟨rfl, N3042, (Keep.trans (Keep.trans (Keep.refl h0 [b5]) K1007 (allS (Or.inl (wm 0 rfl)) all0)) K3042 (allS (Or.inl (wm 0 rfl)) all0)), E3045, F3043, F3042, F3044⟩)
abbrev La0_0 (q0 : Int64) (q1 : Int64) (p2 : Int32) (p3 : Int32) (p4 : Int32) (p5 : Int32) : Array Slot := #[.val (.long q0), .second, .val (.long q1), .second, .val (.int p2), .val (.int p3), .val (.int p4), .val (.int p5), .unset, .unset, .unset, .unset, .unset, .unset, .unset, .unset, .unset, .unset, .unset, .unset, .unset]
abbrev La0_1 (q0 : Int64) (q1 : Int64) (p2 : Int32) (p3 : Int32) (p4 : Int32) (p5 : Int32) : Array Slot := #[.val (.long q0), .second, .val (.long q1), .second, .val (.int p2), .val (.int p3), .val (.int p4), .val (.int p5), .val (.int (v0_8 q0)), .unset, .unset, .unset, .unset, .unset, .unset, .unset, .unset, .unset, .unset, .unset, .unset]
abbrev La0_2 (q0 : Int64) (q1 : Int64) (p2 : Int32) (p3 : Int32) (p4 : Int32) (p5 : Int32) : Array Slot := #[.val (.long q0), .second, .val (.long q1), .second, .val (.int p2), .val (.int p3), .val (.int p4), .val (.int p5), .val (.int (v0_8 q0)), .val (.int (v0_15 q0)), .unset, .unset, .unset, .unset, .unset, .unset, .unset, .unset, .unset, .unset, .unset]
abbrev La0_3 (q0 : Int64) (q1 : Int64) (p2 : Int32) (p3 : Int32) (p4 : Int32) (p5 : Int32) : Array Slot := #[.val (.long q0), .second, .val (.long q1), .second, .val (.int p2), .val (.int p3), .val (.int p4), .val (.int p5), .val (.int (v0_8 q0)), .val (.int (v0_15 q0)), .val (.int (v0_25 q1)), .unset, .unset, .unset, .unset, .unset, .unset, .unset, .unset, .unset, .unset]
abbrev La0_4 (q0 : Int64) (q1 : Int64) (p2 : Int32) (p3 : Int32) (p4 : Int32) (p5 : Int32) : Array Slot := #[.val (.long q0), .second, .val (.long q1), .second, .val (.int p2), .val (.int p3), .val (.int p4), .val (.int p5), .val (.int (v0_8 q0)), .val (.int (v0_15 q0)), .val (.int (v0_25 q1)), .val (.int (v0_32 q1)), .unset, .unset, .unset, .unset, .unset, .unset, .unset, .unset, .unset]
abbrev La0_5 (q0 : Int64) (q1 : Int64) (p2 : Int32) (p3 : Int32) (p4 : Int32) (p5 : Int32) (b5 : Addr) : Array Slot := #[.val (.long q0), .second, .val (.long q1), .second, .val (.int p2), .val (.int p3), .val (.int p4), .val (.int p5), .val (.int (v0_8 q0)), .val (.int (v0_15 q0)), .val (.int (v0_25 q1)), .val (.int (v0_32 q1)), .val (.ref b5), .unset, .unset, .unset, .unset, .unset, .unset, .unset, .unset]
abbrev La0_6 (q0 : Int64) (q1 : Int64) (p2 : Int32) (p3 : Int32) (p4 : Int32) (p5 : Int32) (b5 : Addr) (b21606 : Addr) : Array Slot := #[.val (.long q0), .second, .val (.long q1), .second, .val (.int p2), .val (.int p3), .val (.int p4), .val (.int p5), .val (.int (v0_8 q0)), .val (.int (v0_15 q0)), .val (.int (v0_25 q1)), .val (.int (v0_32 q1)), .val (.ref b5), .val (.ref b21606), .unset, .unset, .unset, .unset, .unset, .unset, .unset]
abbrev La0_7 (q0 : Int64) (q1 : Int64) (p2 : Int32) (p3 : Int32) (p4 : Int32) (p5 : Int32) (b5 : Addr) (b21606 : Addr) (b44094 : Addr) : Array Slot := #[.val (.long q0), .second, .val (.long q1), .second, .val (.int p2), .val (.int p3), .val (.int p4), .val (.int p5), .val (.int (v0_8 q0)), .val (.int (v0_15 q0)), .val (.int (v0_25 q1)), .val (.int (v0_32 q1)), .val (.ref b5), .val (.ref b21606), .val (.ref b44094), .unset, .unset, .unset, .unset, .unset, .unset]
abbrev La0_8 (q0 : Int64) (q1 : Int64) (p2 : Int32) (p3 : Int32) (p4 : Int32) (p5 : Int32) (b5 : Addr) (b21606 : Addr) (b44094 : Addr) (b44109 : Addr) : Array Slot := #[.val (.long q0), .second, .val (.long q1), .second, .val (.int p2), .val (.int p3), .val (.int p4), .val (.int p5), .val (.int (v0_8 q0)), .val (.int (v0_15 q0)), .val (.int (v0_25 q1)), .val (.int (v0_32 q1)), .val (.ref b5), .val (.ref b21606), .val (.ref b44094), .val (.ref b44109), .unset, .unset, .unset, .unset, .unset]
abbrev La0_9 (q0 : Int64) (q1 : Int64) (p2 : Int32) (p3 : Int32) (p4 : Int32) (p5 : Int32) (b5 : Addr) (b21606 : Addr) (b44094 : Addr) (b44109 : Addr) (b46187 : Addr) : Array Slot := #[.val (.long q0), .second, .val (.long q1), .second, .val (.int p2), .val (.int p3), .val (.int p4), .val (.int p5), .val (.int (v0_8 q0)), .val (.int (v0_15 q0)), .val (.int (v0_25 q1)), .val (.int (v0_32 q1)), .val (.ref b5), .val (.ref b21606), .val (.ref b44094), .val (.ref b44109), .val (.ref b46187), .unset, .unset, .unset, .unset]
abbrev La0_10 (q0 : Int64) (q1 : Int64) (p2 : Int32) (p3 : Int32) (p4 : Int32) (p5 : Int32) (b5 : Addr) (b21606 : Addr) (b44094 : Addr) (b44109 : Addr) (b46187 : Addr) : Array Slot := #[.val (.long q0), .second, .val (.long q1), .second, .val (.int p2), .val (.int p3), .val (.int p4), .val (.int p5), .val (.int (v0_8 q0)), .val (.int (v0_15 q0)), .val (.int (v0_25 q1)), .val (.int (v0_32 q1)), .val (.ref b5), .val (.ref b21606), .val (.ref b44094), .val (.ref b44109), .val (.ref b46187), .val (.int (1 : Int32)), .unset, .unset, .unset]
abbrev La0_11 (q0 : Int64) (q1 : Int64) (p2 : Int32) (p3 : Int32) (p4 : Int32) (p5 : Int32) (b5 : Addr) (b21606 : Addr) (b44094 : Addr) (b44109 : Addr) (b46187 : Addr) (b47258 : Addr) : Array Slot := #[.val (.long q0), .second, .val (.long q1), .second, .val (.int p2), .val (.int p3), .val (.int p4), .val (.int p5), .val (.int (v0_8 q0)), .val (.int (v0_15 q0)), .val (.int (v0_25 q1)), .val (.int (v0_32 q1)), .val (.ref b5), .val (.ref b21606), .val (.ref b44094), .val (.ref b44109), .val (.ref b46187), .val (.int (1 : Int32)), .val (.ref b47258), .unset, .unset]
abbrev La0_12 (q0 : Int64) (q1 : Int64) (p2 : Int32) (p3 : Int32) (p4 : Int32) (p5 : Int32) (b5 : Addr) (b21606 : Addr) (b44094 : Addr) (b44109 : Addr) (b46187 : Addr) (b47258 : Addr) (b47272 : Addr) : Array Slot := #[.val (.long q0), .second, .val (.long q1), .second, .val (.int p2), .val (.int p3), .val (.int p4), .val (.int p5), .val (.int (v0_8 q0)), .val (.int (v0_15 q0)), .val (.int (v0_25 q1)), .val (.int (v0_32 q1)), .val (.ref b5), .val (.ref b21606), .val (.ref b44094), .val (.ref b44109), .val (.ref b46187), .val (.int (1 : Int32)), .val (.ref b47258), .val (.ref b47272), .unset]
abbrev La0_13 (q0 : Int64) (q1 : Int64) (p2 : Int32) (p3 : Int32) (p4 : Int32) (p5 : Int32) (b5 : Addr) (b21606 : Addr) (b44094 : Addr) (b44109 : Addr) (b46187 : Addr) (b47258 : Addr) (b47272 : Addr) : Array Slot := #[.val (.long q0), .second, .val (.long q1), .second, .val (.int p2), .val (.int p3), .val (.int p4), .val (.int p5), .val (.int (v0_8 q0)), .val (.int (v0_15 q0)), .val (.int (v0_25 q1)), .val (.int (v0_32 q1)), .val (.ref b5), .val (.ref b21606), .val (.ref b44094), .val (.ref b44109), .val (.ref b46187), .val (.int (1 : Int32)), .val (.ref b47258), .val (.ref b47272), .val (.int (1 : Int32))]
set_option maxRecDepth 65536 in
set_option maxHeartbeats 40000000 in
theorem j0 {p : Program} {l : Launch} {e : Env} {s : State} {m : MethodId} {args : Array Value} {below : List Frame} {meth : Method} {c : Code} {T0 : State} {locs : List Loc} {Z : State} {a0 : Array Value} {h0 : Heap} {n0 : Nat}
    (X0 : Stand p l e room_1 s m args below meth c T0 locs 0 0) (hx : p.tables.exec = Jvm.exec) (hZ : Z.Warmed39 s.vm) (hw : ∀ d ∈ tables_1, d.before a0 Z = true) (hby : c.code = code) (hml : c.maxLocals = 21) (hown : s.vm.findClass "com/example/ken2/ken2/StateLayoutUnpackPinLaw" = some m.cls) (hnm : meth.name = "law") (e0 : T0.heap = h0) (N0 : Fr n0 locs) (Z0 : n0 ≤ h0.size) (q0 : Int64) (q1 : Int64) (p2 : Int32) (p3 : Int32) (p4 : Int32) (p5 : Int32) (eE : Addr) (O_E : Sta Z Z.heap "java/util/ArrayList" "DEFAULTCAPACITY_EMPTY_ELEMENTDATA" "[Ljava/lang/Object;" (.ref eE)) (OA_E : Ary Z Z.heap eE (.object "java/lang/Object") 0 (fun _ => .null)) (Old0 : Old Z n0 h0) :
    OwnFin X0 (some .boolean) (LQ n0) room_1.cells room_1.slots (mkF m 0 #[.val (.long q0), .second, .val (.long q1), .second, .val (.int p2), .val (.int p3), .val (.int p4), .val (.int p5), .unset, .unset, .unset, .unset, .unset, .unset, .unset, .unset, .unset, .unset, .unset, .unset, .unset] []) := by
  refine ost (mkF m 1 (La0_0 q0 q1 p2 p3 p4 p5) [(.long q0)]) X0 (fun t k => XT.lloadN X0.here hx rfl (hb hby at_0) rfl k) ?_
  refine ost (mkF m 3 (La0_0 q0 q1 p2 p3 p4 p5) [(.int (32 : Int32)), (.long q0)]) X0 (fun t k => XS.bipush X0.here hx rfl (hb hby at_1) k) ?_
  refine ost (mkF m 4 (La0_0 q0 q1 p2 p3 p4 p5) [(.long (XT.ushrL q0 (32 : Int32)))]) X0 (fun t k => XT.lushr X0.here hx rfl (hb hby at_3) rfl k) ?_
  refine ost (mkF m 5 (La0_0 q0 q1 p2 p3 p4 p5) [(.int ((XT.ushrL q0 (32 : Int32)).toInt32))]) X0 (fun t k => XT.l2i X0.here hx rfl (hb hby at_4) rfl k) ?_
  obtain ⟨_, T1, L1, X1, ⟨rfl, f1, N1q⟩, st1⟩ := own_callS X0 hx hZ (y := Y1) (W := 0) (argsL := [(.int ((XT.ushrL q0 (32 : Int32)).toInt32))]) (rest := []) hown (hw _ (wm 0 rfl)) (hw _ (wm 1 rfl)) (hw _ (wm 2 rfl)) (hw _ (wm 3 rfl)) (by decide) (rm1 l Z a0 hw [] ((XT.ushrL q0 (32 : Int32)).toInt32) h0 n0 Z0) (by decide) (by decide) (by decide) (by decide) e0 (g := (mkF m 5 (La0_0 q0 q1 p2 p3 p4 p5) [(.int ((XT.ushrL q0 (32 : Int32)).toInt32))])) rfl (by rw [hml]; rfl) pd_1 rfl rfl (by show 2 * 0 + _ ≤ _; exact Nat.le_of_eq rfl) (hb hby at_5)
  have N1 := Fr.app N0 N1q
  refine ost (mkF m 8 (La0_0 q0 q1 p2 p3 p4 p5) [(.int (r1 ((XT.ushrL q0 (32 : Int32)).toInt32)))]) X1 (fun t k => st1 _ k) ?_
  refine ost (mkF m 10 (La0_1 q0 q1 p2 p3 p4 p5) []) X1 (fun t k => XS.istore X1.here hx rfl (hb hby at_8) rfl (l' := (La0_1 q0 q1 p2 p3 p4 p5)) rfl k) ?_
  refine ost (mkF m 11 (La0_1 q0 q1 p2 p3 p4 p5) [(.long q0)]) X1 (fun t k => XT.lloadN X1.here hx rfl (hb hby at_10) rfl k) ?_
  refine ost (mkF m 12 (La0_1 q0 q1 p2 p3 p4 p5) [(.int (q0.toInt32))]) X1 (fun t k => XT.l2i X1.here hx rfl (hb hby at_11) rfl k) ?_
  obtain ⟨_, T2, L2, X2, ⟨rfl, f2, N2q⟩, st2⟩ := own_callS X1 hx hZ (y := Y1) (W := 0) (argsL := [(.int (q0.toInt32))]) (rest := []) hown (hw _ (wm 0 rfl)) (hw _ (wm 1 rfl)) (hw _ (wm 2 rfl)) (hw _ (wm 3 rfl)) (by decide) (rm1 l Z a0 hw [] (q0.toInt32) h0 n0 Z0) (by decide) (by decide) (by decide) (by decide) f1 (g := (mkF m 12 (La0_1 q0 q1 p2 p3 p4 p5) [(.int (q0.toInt32))])) rfl (by rw [hml]; rfl) pd_1 rfl rfl (by show 2 * 0 + _ ≤ _; exact Nat.le_of_eq rfl) (hb hby at_12)
  have N2 := Fr.app N1 N2q
  refine ost (mkF m 15 (La0_1 q0 q1 p2 p3 p4 p5) [(.int (r1 (q0.toInt32)))]) X2 (fun t k => st2 _ k) ?_
  refine ost (mkF m 17 (La0_2 q0 q1 p2 p3 p4 p5) []) X2 (fun t k => XS.istore X2.here hx rfl (hb hby at_15) rfl (l' := (La0_2 q0 q1 p2 p3 p4 p5)) rfl k) ?_
  refine ost (mkF m 18 (La0_2 q0 q1 p2 p3 p4 p5) [(.long q1)]) X2 (fun t k => XT.lloadN X2.here hx rfl (hb hby at_17) rfl k) ?_
  refine ost (mkF m 20 (La0_2 q0 q1 p2 p3 p4 p5) [(.int (32 : Int32)), (.long q1)]) X2 (fun t k => XS.bipush X2.here hx rfl (hb hby at_18) k) ?_
  refine ost (mkF m 21 (La0_2 q0 q1 p2 p3 p4 p5) [(.long (XT.ushrL q1 (32 : Int32)))]) X2 (fun t k => XT.lushr X2.here hx rfl (hb hby at_20) rfl k) ?_
  refine ost (mkF m 22 (La0_2 q0 q1 p2 p3 p4 p5) [(.int ((XT.ushrL q1 (32 : Int32)).toInt32))]) X2 (fun t k => XT.l2i X2.here hx rfl (hb hby at_21) rfl k) ?_
  obtain ⟨_, T3, L3, X3, ⟨rfl, f3, N3q⟩, st3⟩ := own_callS X2 hx hZ (y := Y1) (W := 0) (argsL := [(.int ((XT.ushrL q1 (32 : Int32)).toInt32))]) (rest := []) hown (hw _ (wm 0 rfl)) (hw _ (wm 1 rfl)) (hw _ (wm 2 rfl)) (hw _ (wm 3 rfl)) (by decide) (rm1 l Z a0 hw [] ((XT.ushrL q1 (32 : Int32)).toInt32) h0 n0 Z0) (by decide) (by decide) (by decide) (by decide) f2 (g := (mkF m 22 (La0_2 q0 q1 p2 p3 p4 p5) [(.int ((XT.ushrL q1 (32 : Int32)).toInt32))])) rfl (by rw [hml]; rfl) pd_1 rfl rfl (by show 2 * 0 + _ ≤ _; exact Nat.le_of_eq rfl) (hb hby at_22)
  have N3 := Fr.app N2 N3q
  refine ost (mkF m 25 (La0_2 q0 q1 p2 p3 p4 p5) [(.int (r1 ((XT.ushrL q1 (32 : Int32)).toInt32)))]) X3 (fun t k => st3 _ k) ?_
  refine ost (mkF m 27 (La0_3 q0 q1 p2 p3 p4 p5) []) X3 (fun t k => XS.istore X3.here hx rfl (hb hby at_25) rfl (l' := (La0_3 q0 q1 p2 p3 p4 p5)) rfl k) ?_
  refine ost (mkF m 28 (La0_3 q0 q1 p2 p3 p4 p5) [(.long q1)]) X3 (fun t k => XT.lloadN X3.here hx rfl (hb hby at_27) rfl k) ?_
  refine ost (mkF m 29 (La0_3 q0 q1 p2 p3 p4 p5) [(.int (q1.toInt32))]) X3 (fun t k => XT.l2i X3.here hx rfl (hb hby at_28) rfl k) ?_
  obtain ⟨_, T4, L4, X4, ⟨rfl, f4, N4q⟩, st4⟩ := own_callS X3 hx hZ (y := Y1) (W := 0) (argsL := [(.int (q1.toInt32))]) (rest := []) hown (hw _ (wm 0 rfl)) (hw _ (wm 1 rfl)) (hw _ (wm 2 rfl)) (hw _ (wm 3 rfl)) (by decide) (rm1 l Z a0 hw [] (q1.toInt32) h0 n0 Z0) (by decide) (by decide) (by decide) (by decide) f3 (g := (mkF m 29 (La0_3 q0 q1 p2 p3 p4 p5) [(.int (q1.toInt32))])) rfl (by rw [hml]; rfl) pd_1 rfl rfl (by show 2 * 0 + _ ≤ _; exact Nat.le_of_eq rfl) (hb hby at_29)
  have N4 := Fr.app N3 N4q
  refine ost (mkF m 32 (La0_3 q0 q1 p2 p3 p4 p5) [(.int (r1 (q1.toInt32)))]) X4 (fun t k => st4 _ k) ?_
  refine ost (mkF m 34 (La0_4 q0 q1 p2 p3 p4 p5) []) X4 (fun t k => XS.istore X4.here hx rfl (hb hby at_32) rfl (l' := (La0_4 q0 q1 p2 p3 p4 p5)) rfl k) ?_
  obtain ⟨T5, h5, X5, e5, E5, A5, D5, -, st5⟩ := newO X4 hx hZ hown (hw _ (wm 9 rfl)) (hw _ (wm 10 rfl)) (hw _ (wm 11 rfl)) f4 (g := (mkF m 34 (La0_4 q0 q1 p2 p3 p4 p5) [])) rfl (hb hby at_34) (by decide) (by decide)
  obtain ⟨b5, y5⟩ : ∃ z, z = h0.size := ⟨_, rfl⟩
  rw [← y5] at A5 D5 st5
  have K5 := keep_ext E5
  have g_b5 : n0 ≤ b5 := by rw [y5]; exact Z0
  have Z5 := Nat.le_trans Z0 K5.1
  have F5_modCount : Fld Z h5 b5 "java/util/AbstractList" "modCount" "I" (.int (0 : Int32)) := D5 (Or.inl (hw _ (wm 31 rfl))) (ty := .int) (by decide)
  have F5_elementData : Fld Z h5 b5 "java/util/ArrayList" "elementData" "[Ljava/lang/Object;" .null := D5 (Or.inl (hw _ (wm 34 rfl))) (ty := (.array (.object "java/lang/Object"))) (by decide)
  have F5_size : Fld Z h5 b5 "java/util/ArrayList" "size" "I" (.int (0 : Int32)) := D5 (Or.inl (hw _ (wm 65 rfl))) (ty := .int) (by decide)
  refine ost (mkF m 37 (La0_4 q0 q1 p2 p3 p4 p5) [(.ref b5)]) X5 (fun t k => st5 _ k) ?_
  refine ost (mkF m 38 (La0_4 q0 q1 p2 p3 p4 p5) [(.ref b5), (.ref b5)]) X5 (fun t k => XS.dup X5.here hx rfl (hb hby at_37) rfl rfl k) ?_
  have Old3056 : Old Z n0 h5 := (Old.keep Old0 K5 all0)
  obtain ⟨_, T6, L6, X6, ⟨rfl, N6q, u3057, u3058, u3059, u3060, u3061⟩, st6⟩ := own_callI X5 hx hZ (y := Y4) (W := 1) (a := b5) (argsL := []) (rest := [(.ref b5)]) rfl hown (hw _ (wm 12 rfl)) (hw _ (wm 13 rfl)) (hw _ (wm 11 rfl)) (hw _ (wm 14 rfl)) (by decide) (rm3s1 l Z a0 hw [] eE b5 h5 n0 Z5 O_E Old3056 A5 F5_modCount F5_elementData F5_size g_b5) (by decide) (by decide) (by decide) (by decide) e5 (g := (mkF m 38 (La0_4 q0 q1 p2 p3 p4 p5) [(.ref b5), (.ref b5)])) rfl (by rw [hml]; rfl) pd_2 rfl rfl (by show 2 * 0 + _ ≤ _; exact Nat.le_of_eq rfl) (hb hby at_38)
  have N6 := Fr.app N4 N6q
  obtain ⟨h6, e6⟩ : ∃ z, T6.heap = z := ⟨_, rfl⟩
  rw [e6] at u3057 u3058 u3059 u3060 u3061
  have K6 := u3057
  have Z6 := Nat.le_trans Z5 K6.1
  refine ost (mkF m 41 (La0_4 q0 q1 p2 p3 p4 p5) [(.ref b5)]) X6 (fun t k => st6 _ k) ?_
  refine ost (mkF m 43 (La0_5 q0 q1 p2 p3 p4 p5 b5) []) X6 (fun t k => XS.astore X6.here hx rfl (hb hby at_41) rfl rfl (l' := (La0_5 q0 q1 p2 p3 p4 p5 b5)) rfl k) ?_
  refine ost (mkF m 45 (La0_5 q0 q1 p2 p3 p4 p5 b5) [(.ref b5)]) X6 (fun t k => XS.aload X6.here hx rfl (hb hby at_43) rfl rfl k) ?_
  obtain ⟨T3062, h3062, X3062, e3062, E3062, A3062, D3062, -, st3062⟩ := newO X6 hx hZ hown (hw _ (wm 35 rfl)) (hw _ (wm 36 rfl)) (hw _ (wm 37 rfl)) e6 (g := (mkF m 45 (La0_5 q0 q1 p2 p3 p4 p5 b5) [(.ref b5)])) rfl (hb hby at_45) (by decide) (by decide)
  obtain ⟨b3062, y3062⟩ : ∃ z, z = h6.size := ⟨_, rfl⟩
  rw [← y3062] at A3062 D3062 st3062
  have K3062 := keep_ext E3062
  have ne_b5_b3062 : b5 ≠ b3062 := Exa.neS u3058 y3062
  have g_b3062 : n0 ≤ b3062 := by rw [y3062]; exact Z6
  have Z3062 := Nat.le_trans Z6 K3062.1
  have F3062_agent : Fld Z h3062 b3062 "com/example/ken2/ken2/InterpretedSystem$Variable" "agent" "Ljava/lang/String;" .null := D3062 (Or.inr (hw _ (wm 48 rfl))) (ty := (.object "java/lang/String")) (by decide)
  have F3062_name : Fld Z h3062 b3062 "com/example/ken2/ken2/InterpretedSystem$Variable" "name" "Ljava/lang/String;" .null := D3062 (Or.inr (hw _ (wm 50 rfl))) (ty := (.object "java/lang/String")) (by decide)
  have F3062_values : Fld Z h3062 b3062 "com/example/ken2/ken2/InterpretedSystem$Variable" "values" "Ljava/util/List;" .null := D3062 (Or.inr (hw _ (wm 52 rfl))) (ty := (.object "java/util/List")) (by decide)
  have F3062_low : Fld Z h3062 b3062 "com/example/ken2/ken2/InterpretedSystem$Variable" "low" "I" (.int (0 : Int32)) := D3062 (Or.inr (hw _ (wm 54 rfl))) (ty := .int) (by decide)
  have F3062_size : Fld Z h3062 b3062 "com/example/ken2/ken2/InterpretedSystem$Variable" "size" "I" (.int (0 : Int32)) := D3062 (Or.inr (hw _ (wm 56 rfl))) (ty := .int) (by decide)
  refine ost (mkF m 48 (La0_5 q0 q1 p2 p3 p4 p5 b5) [(.ref b3062), (.ref b5)]) X3062 (fun t k => st3062 _ k) ?_
  refine ost (mkF m 49 (La0_5 q0 q1 p2 p3 p4 p5 b5) [(.ref b3062), (.ref b3062), (.ref b5)]) X3062 (fun t k => XS.dup X3062.here hx rfl (hb hby at_48) rfl rfl k) ?_
  refine ost (mkF m 50 (La0_5 q0 q1 p2 p3 p4 p5 b5) [.null, (.ref b3062), (.ref b3062), (.ref b5)]) X3062 (fun t k => XS.aconstNull X3062.here hx rfl (hb hby at_49) k) ?_
  refine ost (mkF m 51 (La0_5 q0 q1 p2 p3 p4 p5 b5) [.null, .null, (.ref b3062), (.ref b3062), (.ref b5)]) X3062 (fun t k => XS.aconstNull X3062.here hx rfl (hb hby at_50) k) ?_
  refine ost (mkF m 52 (La0_5 q0 q1 p2 p3 p4 p5 b5) [.null, .null, .null, (.ref b3062), (.ref b3062), (.ref b5)]) X3062 (fun t k => XS.aconstNull X3062.here hx rfl (hb hby at_51) k) ?_
  refine ost (mkF m 53 (La0_5 q0 q1 p2 p3 p4 p5 b5) [(.int (0 : Int32)), .null, .null, .null, (.ref b3062), (.ref b3062), (.ref b5)]) X3062 (fun t k => XS.iconst X3062.here hx rfl (hb hby at_52) k) ?_
  refine ost (mkF m 55 (La0_5 q0 q1 p2 p3 p4 p5 b5) [(.int (v0_8 q0)), (.int (0 : Int32)), .null, .null, .null, (.ref b3062), (.ref b3062), (.ref b5)]) X3062 (fun t k => XS.iload X3062.here hx rfl (hb hby at_53) rfl k) ?_
  obtain ⟨_, T3063, L3063, X3063, ⟨rfl, N3063q, u5117, u5118, u5119, u5120, u5121, u5122, u5123⟩, st3063⟩ := own_callI X3062 hx hZ (y := Y6) (W := 2) (a := b3062) (argsL := [.null, .null, .null, (.int (0 : Int32)), (.int (v0_8 q0))]) (rest := [(.ref b3062), (.ref b5)]) rfl hown (hw _ (wm 38 rfl)) (hw _ (wm 39 rfl)) (hw _ (wm 37 rfl)) (hw _ (wm 40 rfl)) (by decide) (rm7s4 l Z a0 hw [] q0 b3062 h3062 n0 Z3062 A3062 F3062_agent F3062_name F3062_values F3062_low F3062_size g_b3062) (by decide) (by decide) (by decide) (by decide) e3062 (g := (mkF m 55 (La0_5 q0 q1 p2 p3 p4 p5 b5) [(.int (v0_8 q0)), (.int (0 : Int32)), .null, .null, .null, (.ref b3062), (.ref b3062), (.ref b5)])) rfl (by rw [hml]; rfl) pd_3 rfl rfl (by show 2 * 0 + _ ≤ _; exact Nat.le_of_eq rfl) (hb hby at_55)
  have N3063 := Fr.app N6 N3063q
  obtain ⟨h3063, e3063⟩ : ∃ z, T3063.heap = z := ⟨_, rfl⟩
  rw [e3063] at u5117 u5118 u5119 u5120 u5121 u5122 u5123
  have K3063 := u5117
  have Z3063 := Nat.le_trans Z3062 K3063.1
  refine ost (mkF m 58 (La0_5 q0 q1 p2 p3 p4 p5 b5) [(.ref b3062), (.ref b5)]) X3063 (fun t k => st3063 _ k) ?_
  have Old9227 : Old Z n0 h3063 := (Old.keep (Old.keep (Old.keep Old3056 K6 (allS g_b5 all0)) K3062 all0) K3063 (allS g_b3062 all0))
  have E9228 := (Exa.keep (Exa.keep u3058 K3062) K3063)
  have F9229 := ((u3059.keep K3062 nin0).keep K3063 (ninS ne_b5_b3062 nin0))
  have F9230 := ((u3060.keep K3062 nin0).keep K3063 (ninS ne_b5_b3062 nin0))
  have F9231 := ((u3061.keep K3062 nin0).keep K3063 (ninS ne_b5_b3062 nin0))
  obtain ⟨_, T5124, L5124, X5124, ⟨b9140, rfl, N5124q, u9232, u9233, u9234, u9235, u9236, u9237, u9238, u9239⟩, st5124⟩ := own_callV X3063 hx hZ (y := Y10) (W := 0) (a := b5) (argsL := [(.ref b3062)]) (rest := []) hown (hw _ (wm 57 rfl)) (hw _ (wm 58 rfl)) (hw _ (wm 60 rfl)) (hw _ (wm 59 rfl)) (hw _ (wm 11 rfl)) (hw _ (wm 61 rfl)) (by decide) E9228 (rm9s6 l Z a0 hw [] eE b5 b3062 h3063 n0 Z3063 O_E OA_E Old9227 E9228 F9229 F9230 F9231 g_b5 u5118) (by decide) (by decide) (by decide) (by decide) e3063 (g := (mkF m 58 (La0_5 q0 q1 p2 p3 p4 p5 b5) [(.ref b3062), (.ref b5)])) rfl (by rw [hml]; rfl) pd_7 rfl rfl (by show 2 * 0 + _ ≤ _; exact Nat.le_of_eq rfl) (hb hby at_58)
  have N5124 := Fr.app N3063 N5124q
  obtain ⟨h5124, e5124⟩ : ∃ z, T5124.heap = z := ⟨_, rfl⟩
  rw [e5124] at u9232 u9233 u9234 u9235 u9236 u9237
  have K5124 := u9232
  have Z5124 := Nat.le_trans Z3063 K5124.1
  have ne_b5_b9140 : b5 ≠ b9140 := Nat.ne_of_lt (Nat.lt_of_lt_of_le (E9228).lt u9239)
  have ne_b3062_b9140 : b3062 ≠ b9140 := Nat.ne_of_lt (Nat.lt_of_lt_of_le (u5118).lt u9239)
  refine ost (mkF m 61 (La0_5 q0 q1 p2 p3 p4 p5 b5) [(.int (1 : Int32))]) X5124 (fun t k => st5124 _ k) ?_
  refine ost (mkF m 62 (La0_5 q0 q1 p2 p3 p4 p5 b5) []) X5124 (fun t k => XT.pop X5124.here hx rfl (hb hby at_61) rfl rfl k) ?_
  refine ost (mkF m 64 (La0_5 q0 q1 p2 p3 p4 p5 b5) [(.ref b5)]) X5124 (fun t k => XS.aload X5124.here hx rfl (hb hby at_62) rfl rfl k) ?_
  obtain ⟨T9240, h9240, X9240, e9240, E9240, A9240, D9240, -, st9240⟩ := newO X5124 hx hZ hown (hw _ (wm 35 rfl)) (hw _ (wm 36 rfl)) (hw _ (wm 37 rfl)) e5124 (g := (mkF m 64 (La0_5 q0 q1 p2 p3 p4 p5 b5) [(.ref b5)])) rfl (hb hby at_64) (by decide) (by decide)
  obtain ⟨b9240, y9240⟩ : ∃ z, z = h5124.size := ⟨_, rfl⟩
  rw [← y9240] at A9240 D9240 st9240
  have K9240 := keep_ext E9240
  have ne_b5_b9240 : b5 ≠ b9240 := Exa.neS u9233 y9240
  have E9241 := (Exa.keep u5118 K5124)
  have ne_b3062_b9240 : b3062 ≠ b9240 := Exa.neS E9241 y9240
  have ne_b9140_b9240 : b9140 ≠ b9240 := AryR.neS u9237 y9240
  have g_b9240 : n0 ≤ b9240 := by rw [y9240]; exact Z5124
  have Z9240 := Nat.le_trans Z5124 K9240.1
  have F9240_agent : Fld Z h9240 b9240 "com/example/ken2/ken2/InterpretedSystem$Variable" "agent" "Ljava/lang/String;" .null := D9240 (Or.inr (hw _ (wm 48 rfl))) (ty := (.object "java/lang/String")) (by decide)
  have F9240_name : Fld Z h9240 b9240 "com/example/ken2/ken2/InterpretedSystem$Variable" "name" "Ljava/lang/String;" .null := D9240 (Or.inr (hw _ (wm 50 rfl))) (ty := (.object "java/lang/String")) (by decide)
  have F9240_values : Fld Z h9240 b9240 "com/example/ken2/ken2/InterpretedSystem$Variable" "values" "Ljava/util/List;" .null := D9240 (Or.inr (hw _ (wm 52 rfl))) (ty := (.object "java/util/List")) (by decide)
  have F9240_low : Fld Z h9240 b9240 "com/example/ken2/ken2/InterpretedSystem$Variable" "low" "I" (.int (0 : Int32)) := D9240 (Or.inr (hw _ (wm 54 rfl))) (ty := .int) (by decide)
  have F9240_size : Fld Z h9240 b9240 "com/example/ken2/ken2/InterpretedSystem$Variable" "size" "I" (.int (0 : Int32)) := D9240 (Or.inr (hw _ (wm 56 rfl))) (ty := .int) (by decide)
  refine ost (mkF m 67 (La0_5 q0 q1 p2 p3 p4 p5 b5) [(.ref b9240), (.ref b5)]) X9240 (fun t k => st9240 _ k) ?_
  refine ost (mkF m 68 (La0_5 q0 q1 p2 p3 p4 p5 b5) [(.ref b9240), (.ref b9240), (.ref b5)]) X9240 (fun t k => XS.dup X9240.here hx rfl (hb hby at_67) rfl rfl k) ?_
  refine ost (mkF m 69 (La0_5 q0 q1 p2 p3 p4 p5 b5) [.null, (.ref b9240), (.ref b9240), (.ref b5)]) X9240 (fun t k => XS.aconstNull X9240.here hx rfl (hb hby at_68) k) ?_
  refine ost (mkF m 70 (La0_5 q0 q1 p2 p3 p4 p5 b5) [.null, .null, (.ref b9240), (.ref b9240), (.ref b5)]) X9240 (fun t k => XS.aconstNull X9240.here hx rfl (hb hby at_69) k) ?_
  refine ost (mkF m 71 (La0_5 q0 q1 p2 p3 p4 p5 b5) [.null, .null, .null, (.ref b9240), (.ref b9240), (.ref b5)]) X9240 (fun t k => XS.aconstNull X9240.here hx rfl (hb hby at_70) k) ?_
  refine ost (mkF m 72 (La0_5 q0 q1 p2 p3 p4 p5 b5) [(.int (0 : Int32)), .null, .null, .null, (.ref b9240), (.ref b9240), (.ref b5)]) X9240 (fun t k => XS.iconst X9240.here hx rfl (hb hby at_71) k) ?_
  refine ost (mkF m 74 (La0_5 q0 q1 p2 p3 p4 p5 b5) [(.int (v0_15 q0)), (.int (0 : Int32)), .null, .null, .null, (.ref b9240), (.ref b9240), (.ref b5)]) X9240 (fun t k => XS.iload X9240.here hx rfl (hb hby at_72) rfl k) ?_
  obtain ⟨_, T9242, L9242, X9242, ⟨rfl, N9242q, u11296, u11297, u11298, u11299, u11300, u11301, u11302⟩, st9242⟩ := own_callI X9240 hx hZ (y := Y6) (W := 2) (a := b9240) (argsL := [.null, .null, .null, (.int (0 : Int32)), (.int (v0_15 q0))]) (rest := [(.ref b9240), (.ref b5)]) rfl hown (hw _ (wm 38 rfl)) (hw _ (wm 39 rfl)) (hw _ (wm 37 rfl)) (hw _ (wm 40 rfl)) (by decide) (rm7s10 l Z a0 hw [] q0 b9240 h9240 n0 Z9240 A9240 F9240_agent F9240_name F9240_values F9240_low F9240_size g_b9240) (by decide) (by decide) (by decide) (by decide) e9240 (g := (mkF m 74 (La0_5 q0 q1 p2 p3 p4 p5 b5) [(.int (v0_15 q0)), (.int (0 : Int32)), .null, .null, .null, (.ref b9240), (.ref b9240), (.ref b5)])) rfl (by rw [hml]; rfl) pd_3 rfl rfl (by show 2 * 0 + _ ≤ _; exact Nat.le_of_eq rfl) (hb hby at_74)
  have N9242 := Fr.app N5124 N9242q
  obtain ⟨h9242, e9242⟩ : ∃ z, T9242.heap = z := ⟨_, rfl⟩
  rw [e9242] at u11296 u11297 u11298 u11299 u11300 u11301 u11302
  have K9242 := u11296
  have Z9242 := Nat.le_trans Z9240 K9242.1
  refine ost (mkF m 77 (La0_5 q0 q1 p2 p3 p4 p5 b5) [(.ref b9240), (.ref b5)]) X9242 (fun t k => st9242 _ k) ?_
  have E13350 := (Exa.keep (Exa.keep u9233 K9240) K9242)
  have F13351 := ((u9234.keep K9240 nin0).keep K9242 (ninS ne_b5_b9240 nin0))
  have F13352 := ((u9235.keep K9240 nin0).keep K9242 (ninS ne_b5_b9240 nin0))
  have F13353 := ((u9236.keep K9240 nin0).keep K9242 (ninS ne_b5_b9240 nin0))
  have A13354 := ((u9237.keep K9240 nin0).keep K9242 (ninS ne_b9140_b9240 nin0))
  obtain ⟨_, T11303, L11303, X11303, ⟨rfl, N11303q, u13355, u13356, u13357, u13358, u13359, u13360⟩, st11303⟩ := own_callV X9242 hx hZ (y := Y10) (W := 0) (a := b5) (argsL := [(.ref b9240)]) (rest := []) hown (hw _ (wm 57 rfl)) (hw _ (wm 58 rfl)) (hw _ (wm 60 rfl)) (hw _ (wm 59 rfl)) (hw _ (wm 11 rfl)) (hw _ (wm 61 rfl)) (by decide) E13350 (rm9s12 l Z a0 hw [] b5 b3062 b9140 b9240 h9242 n0 Z9242 E13350 F13351 F13352 F13353 g_b5 A13354 u9238 u11297 ne_b5_b9140) (by decide) (by decide) (by decide) (by decide) e9242 (g := (mkF m 77 (La0_5 q0 q1 p2 p3 p4 p5 b5) [(.ref b9240), (.ref b5)])) rfl (by rw [hml]; rfl) pd_7 rfl rfl (by show 2 * 0 + _ ≤ _; exact Nat.le_of_eq rfl) (hb hby at_77)
  have N11303 := Fr.app N9242 N11303q
  obtain ⟨h11303, e11303⟩ : ∃ z, T11303.heap = z := ⟨_, rfl⟩
  rw [e11303] at u13355 u13356 u13357 u13358 u13359 u13360
  have K11303 := u13355
  have Z11303 := Nat.le_trans Z9242 K11303.1
  refine ost (mkF m 80 (La0_5 q0 q1 p2 p3 p4 p5 b5) [(.int (1 : Int32))]) X11303 (fun t k => st11303 _ k) ?_
  refine ost (mkF m 81 (La0_5 q0 q1 p2 p3 p4 p5 b5) []) X11303 (fun t k => XT.pop X11303.here hx rfl (hb hby at_80) rfl rfl k) ?_
  refine ost (mkF m 83 (La0_5 q0 q1 p2 p3 p4 p5 b5) [(.ref b5)]) X11303 (fun t k => XS.aload X11303.here hx rfl (hb hby at_81) rfl rfl k) ?_
  obtain ⟨T13361, h13361, X13361, e13361, E13361, A13361, D13361, -, st13361⟩ := newO X11303 hx hZ hown (hw _ (wm 35 rfl)) (hw _ (wm 36 rfl)) (hw _ (wm 37 rfl)) e11303 (g := (mkF m 83 (La0_5 q0 q1 p2 p3 p4 p5 b5) [(.ref b5)])) rfl (hb hby at_83) (by decide) (by decide)
  obtain ⟨b13361, y13361⟩ : ∃ z, z = h11303.size := ⟨_, rfl⟩
  rw [← y13361] at A13361 D13361 st13361
  have K13361 := keep_ext E13361
  have ne_b5_b13361 : b5 ≠ b13361 := Exa.neS u13356 y13361
  have E13362 := (Exa.keep (Exa.keep (Exa.keep E9241 K9240) K9242) K11303)
  have ne_b3062_b13361 : b3062 ≠ b13361 := Exa.neS E13362 y13361
  have ne_b9140_b13361 : b9140 ≠ b13361 := AryR.neS u13360 y13361
  have E13363 := (Exa.keep u11297 K11303)
  have ne_b9240_b13361 : b9240 ≠ b13361 := Exa.neS E13363 y13361
  have g_b13361 : n0 ≤ b13361 := by rw [y13361]; exact Z11303
  have Z13361 := Nat.le_trans Z11303 K13361.1
  have F13361_agent : Fld Z h13361 b13361 "com/example/ken2/ken2/InterpretedSystem$Variable" "agent" "Ljava/lang/String;" .null := D13361 (Or.inr (hw _ (wm 48 rfl))) (ty := (.object "java/lang/String")) (by decide)
  have F13361_name : Fld Z h13361 b13361 "com/example/ken2/ken2/InterpretedSystem$Variable" "name" "Ljava/lang/String;" .null := D13361 (Or.inr (hw _ (wm 50 rfl))) (ty := (.object "java/lang/String")) (by decide)
  have F13361_values : Fld Z h13361 b13361 "com/example/ken2/ken2/InterpretedSystem$Variable" "values" "Ljava/util/List;" .null := D13361 (Or.inr (hw _ (wm 52 rfl))) (ty := (.object "java/util/List")) (by decide)
  have F13361_low : Fld Z h13361 b13361 "com/example/ken2/ken2/InterpretedSystem$Variable" "low" "I" (.int (0 : Int32)) := D13361 (Or.inr (hw _ (wm 54 rfl))) (ty := .int) (by decide)
  have F13361_size : Fld Z h13361 b13361 "com/example/ken2/ken2/InterpretedSystem$Variable" "size" "I" (.int (0 : Int32)) := D13361 (Or.inr (hw _ (wm 56 rfl))) (ty := .int) (by decide)
  refine ost (mkF m 86 (La0_5 q0 q1 p2 p3 p4 p5 b5) [(.ref b13361), (.ref b5)]) X13361 (fun t k => st13361 _ k) ?_
  refine ost (mkF m 87 (La0_5 q0 q1 p2 p3 p4 p5 b5) [(.ref b13361), (.ref b13361), (.ref b5)]) X13361 (fun t k => XS.dup X13361.here hx rfl (hb hby at_86) rfl rfl k) ?_
  refine ost (mkF m 88 (La0_5 q0 q1 p2 p3 p4 p5 b5) [.null, (.ref b13361), (.ref b13361), (.ref b5)]) X13361 (fun t k => XS.aconstNull X13361.here hx rfl (hb hby at_87) k) ?_
  refine ost (mkF m 89 (La0_5 q0 q1 p2 p3 p4 p5 b5) [.null, .null, (.ref b13361), (.ref b13361), (.ref b5)]) X13361 (fun t k => XS.aconstNull X13361.here hx rfl (hb hby at_88) k) ?_
  refine ost (mkF m 90 (La0_5 q0 q1 p2 p3 p4 p5 b5) [.null, .null, .null, (.ref b13361), (.ref b13361), (.ref b5)]) X13361 (fun t k => XS.aconstNull X13361.here hx rfl (hb hby at_89) k) ?_
  refine ost (mkF m 91 (La0_5 q0 q1 p2 p3 p4 p5 b5) [(.int (0 : Int32)), .null, .null, .null, (.ref b13361), (.ref b13361), (.ref b5)]) X13361 (fun t k => XS.iconst X13361.here hx rfl (hb hby at_90) k) ?_
  refine ost (mkF m 93 (La0_5 q0 q1 p2 p3 p4 p5 b5) [(.int (v0_25 q1)), (.int (0 : Int32)), .null, .null, .null, (.ref b13361), (.ref b13361), (.ref b5)]) X13361 (fun t k => XS.iload X13361.here hx rfl (hb hby at_91) rfl k) ?_
  obtain ⟨_, T13364, L13364, X13364, ⟨rfl, N13364q, u15418, u15419, u15420, u15421, u15422, u15423, u15424⟩, st13364⟩ := own_callI X13361 hx hZ (y := Y6) (W := 2) (a := b13361) (argsL := [.null, .null, .null, (.int (0 : Int32)), (.int (v0_25 q1))]) (rest := [(.ref b13361), (.ref b5)]) rfl hown (hw _ (wm 38 rfl)) (hw _ (wm 39 rfl)) (hw _ (wm 37 rfl)) (hw _ (wm 40 rfl)) (by decide) (rm7s14 l Z a0 hw [] q1 b13361 h13361 n0 Z13361 A13361 F13361_agent F13361_name F13361_values F13361_low F13361_size g_b13361) (by decide) (by decide) (by decide) (by decide) e13361 (g := (mkF m 93 (La0_5 q0 q1 p2 p3 p4 p5 b5) [(.int (v0_25 q1)), (.int (0 : Int32)), .null, .null, .null, (.ref b13361), (.ref b13361), (.ref b5)])) rfl (by rw [hml]; rfl) pd_3 rfl rfl (by show 2 * 0 + _ ≤ _; exact Nat.le_of_eq rfl) (hb hby at_93)
  have N13364 := Fr.app N11303 N13364q
  obtain ⟨h13364, e13364⟩ : ∃ z, T13364.heap = z := ⟨_, rfl⟩
  rw [e13364] at u15418 u15419 u15420 u15421 u15422 u15423 u15424
  have K13364 := u15418
  have Z13364 := Nat.le_trans Z13361 K13364.1
  refine ost (mkF m 96 (La0_5 q0 q1 p2 p3 p4 p5 b5) [(.ref b13361), (.ref b5)]) X13364 (fun t k => st13364 _ k) ?_
  have E17472 := (Exa.keep (Exa.keep u13356 K13361) K13364)
  have F17473 := ((u13357.keep K13361 nin0).keep K13364 (ninS ne_b5_b13361 nin0))
  have F17474 := ((u13358.keep K13361 nin0).keep K13364 (ninS ne_b5_b13361 nin0))
  have F17475 := ((u13359.keep K13361 nin0).keep K13364 (ninS ne_b5_b13361 nin0))
  have A17476 := ((u13360.keep K13361 nin0).keep K13364 (ninS ne_b9140_b13361 nin0))
  obtain ⟨_, T15425, L15425, X15425, ⟨rfl, N15425q, u17477, u17478, u17479, u17480, u17481, u17482⟩, st15425⟩ := own_callV X13364 hx hZ (y := Y10) (W := 0) (a := b5) (argsL := [(.ref b13361)]) (rest := []) hown (hw _ (wm 57 rfl)) (hw _ (wm 58 rfl)) (hw _ (wm 60 rfl)) (hw _ (wm 59 rfl)) (hw _ (wm 11 rfl)) (hw _ (wm 61 rfl)) (by decide) E17472 (rm9s16 l Z a0 hw [] b5 b3062 b9140 b9240 b13361 h13364 n0 Z13364 E17472 F17473 F17474 F17475 g_b5 A17476 u9238 u15419 ne_b5_b9140) (by decide) (by decide) (by decide) (by decide) e13364 (g := (mkF m 96 (La0_5 q0 q1 p2 p3 p4 p5 b5) [(.ref b13361), (.ref b5)])) rfl (by rw [hml]; rfl) pd_7 rfl rfl (by show 2 * 0 + _ ≤ _; exact Nat.le_of_eq rfl) (hb hby at_96)
  have N15425 := Fr.app N13364 N15425q
  obtain ⟨h15425, e15425⟩ : ∃ z, T15425.heap = z := ⟨_, rfl⟩
  rw [e15425] at u17477 u17478 u17479 u17480 u17481 u17482
  have K15425 := u17477
  have Z15425 := Nat.le_trans Z13364 K15425.1
  refine ost (mkF m 99 (La0_5 q0 q1 p2 p3 p4 p5 b5) [(.int (1 : Int32))]) X15425 (fun t k => st15425 _ k) ?_
  refine ost (mkF m 100 (La0_5 q0 q1 p2 p3 p4 p5 b5) []) X15425 (fun t k => XT.pop X15425.here hx rfl (hb hby at_99) rfl rfl k) ?_
  refine ost (mkF m 102 (La0_5 q0 q1 p2 p3 p4 p5 b5) [(.ref b5)]) X15425 (fun t k => XS.aload X15425.here hx rfl (hb hby at_100) rfl rfl k) ?_
  obtain ⟨T17483, h17483, X17483, e17483, E17483, A17483, D17483, -, st17483⟩ := newO X15425 hx hZ hown (hw _ (wm 35 rfl)) (hw _ (wm 36 rfl)) (hw _ (wm 37 rfl)) e15425 (g := (mkF m 102 (La0_5 q0 q1 p2 p3 p4 p5 b5) [(.ref b5)])) rfl (hb hby at_102) (by decide) (by decide)
  obtain ⟨b17483, y17483⟩ : ∃ z, z = h15425.size := ⟨_, rfl⟩
  rw [← y17483] at A17483 D17483 st17483
  have K17483 := keep_ext E17483
  have ne_b5_b17483 : b5 ≠ b17483 := Exa.neS u17478 y17483
  have E17484 := (Exa.keep (Exa.keep (Exa.keep E13362 K13361) K13364) K15425)
  have ne_b3062_b17483 : b3062 ≠ b17483 := Exa.neS E17484 y17483
  have ne_b9140_b17483 : b9140 ≠ b17483 := AryR.neS u17482 y17483
  have E17485 := (Exa.keep (Exa.keep (Exa.keep E13363 K13361) K13364) K15425)
  have ne_b9240_b17483 : b9240 ≠ b17483 := Exa.neS E17485 y17483
  have E17486 := (Exa.keep u15419 K15425)
  have ne_b13361_b17483 : b13361 ≠ b17483 := Exa.neS E17486 y17483
  have g_b17483 : n0 ≤ b17483 := by rw [y17483]; exact Z15425
  have Z17483 := Nat.le_trans Z15425 K17483.1
  have F17483_agent : Fld Z h17483 b17483 "com/example/ken2/ken2/InterpretedSystem$Variable" "agent" "Ljava/lang/String;" .null := D17483 (Or.inr (hw _ (wm 48 rfl))) (ty := (.object "java/lang/String")) (by decide)
  have F17483_name : Fld Z h17483 b17483 "com/example/ken2/ken2/InterpretedSystem$Variable" "name" "Ljava/lang/String;" .null := D17483 (Or.inr (hw _ (wm 50 rfl))) (ty := (.object "java/lang/String")) (by decide)
  have F17483_values : Fld Z h17483 b17483 "com/example/ken2/ken2/InterpretedSystem$Variable" "values" "Ljava/util/List;" .null := D17483 (Or.inr (hw _ (wm 52 rfl))) (ty := (.object "java/util/List")) (by decide)
  have F17483_low : Fld Z h17483 b17483 "com/example/ken2/ken2/InterpretedSystem$Variable" "low" "I" (.int (0 : Int32)) := D17483 (Or.inr (hw _ (wm 54 rfl))) (ty := .int) (by decide)
  have F17483_size : Fld Z h17483 b17483 "com/example/ken2/ken2/InterpretedSystem$Variable" "size" "I" (.int (0 : Int32)) := D17483 (Or.inr (hw _ (wm 56 rfl))) (ty := .int) (by decide)
  refine ost (mkF m 105 (La0_5 q0 q1 p2 p3 p4 p5 b5) [(.ref b17483), (.ref b5)]) X17483 (fun t k => st17483 _ k) ?_
  refine ost (mkF m 106 (La0_5 q0 q1 p2 p3 p4 p5 b5) [(.ref b17483), (.ref b17483), (.ref b5)]) X17483 (fun t k => XS.dup X17483.here hx rfl (hb hby at_105) rfl rfl k) ?_
  refine ost (mkF m 107 (La0_5 q0 q1 p2 p3 p4 p5 b5) [.null, (.ref b17483), (.ref b17483), (.ref b5)]) X17483 (fun t k => XS.aconstNull X17483.here hx rfl (hb hby at_106) k) ?_
  refine ost (mkF m 108 (La0_5 q0 q1 p2 p3 p4 p5 b5) [.null, .null, (.ref b17483), (.ref b17483), (.ref b5)]) X17483 (fun t k => XS.aconstNull X17483.here hx rfl (hb hby at_107) k) ?_
  refine ost (mkF m 109 (La0_5 q0 q1 p2 p3 p4 p5 b5) [.null, .null, .null, (.ref b17483), (.ref b17483), (.ref b5)]) X17483 (fun t k => XS.aconstNull X17483.here hx rfl (hb hby at_108) k) ?_
  refine ost (mkF m 110 (La0_5 q0 q1 p2 p3 p4 p5 b5) [(.int (0 : Int32)), .null, .null, .null, (.ref b17483), (.ref b17483), (.ref b5)]) X17483 (fun t k => XS.iconst X17483.here hx rfl (hb hby at_109) k) ?_
  refine ost (mkF m 112 (La0_5 q0 q1 p2 p3 p4 p5 b5) [(.int (v0_32 q1)), (.int (0 : Int32)), .null, .null, .null, (.ref b17483), (.ref b17483), (.ref b5)]) X17483 (fun t k => XS.iload X17483.here hx rfl (hb hby at_110) rfl k) ?_
  obtain ⟨_, T17487, L17487, X17487, ⟨rfl, N17487q, u19541, u19542, u19543, u19544, u19545, u19546, u19547⟩, st17487⟩ := own_callI X17483 hx hZ (y := Y6) (W := 2) (a := b17483) (argsL := [.null, .null, .null, (.int (0 : Int32)), (.int (v0_32 q1))]) (rest := [(.ref b17483), (.ref b5)]) rfl hown (hw _ (wm 38 rfl)) (hw _ (wm 39 rfl)) (hw _ (wm 37 rfl)) (hw _ (wm 40 rfl)) (by decide) (rm7s18 l Z a0 hw [] q1 b17483 h17483 n0 Z17483 A17483 F17483_agent F17483_name F17483_values F17483_low F17483_size g_b17483) (by decide) (by decide) (by decide) (by decide) e17483 (g := (mkF m 112 (La0_5 q0 q1 p2 p3 p4 p5 b5) [(.int (v0_32 q1)), (.int (0 : Int32)), .null, .null, .null, (.ref b17483), (.ref b17483), (.ref b5)])) rfl (by rw [hml]; rfl) pd_3 rfl rfl (by show 2 * 0 + _ ≤ _; exact Nat.le_of_eq rfl) (hb hby at_112)
  have N17487 := Fr.app N15425 N17487q
  obtain ⟨h17487, e17487⟩ : ∃ z, T17487.heap = z := ⟨_, rfl⟩
  rw [e17487] at u19541 u19542 u19543 u19544 u19545 u19546 u19547
  have K17487 := u19541
  have Z17487 := Nat.le_trans Z17483 K17487.1
  refine ost (mkF m 115 (La0_5 q0 q1 p2 p3 p4 p5 b5) [(.ref b17483), (.ref b5)]) X17487 (fun t k => st17487 _ k) ?_
  have E21595 := (Exa.keep (Exa.keep u17478 K17483) K17487)
  have F21596 := ((u17479.keep K17483 nin0).keep K17487 (ninS ne_b5_b17483 nin0))
  have F21597 := ((u17480.keep K17483 nin0).keep K17487 (ninS ne_b5_b17483 nin0))
  have F21598 := ((u17481.keep K17483 nin0).keep K17487 (ninS ne_b5_b17483 nin0))
  have A21599 := ((u17482.keep K17483 nin0).keep K17487 (ninS ne_b9140_b17483 nin0))
  obtain ⟨_, T19548, L19548, X19548, ⟨rfl, N19548q, u21600, u21601, u21602, u21603, u21604, u21605⟩, st19548⟩ := own_callV X17487 hx hZ (y := Y10) (W := 0) (a := b5) (argsL := [(.ref b17483)]) (rest := []) hown (hw _ (wm 57 rfl)) (hw _ (wm 58 rfl)) (hw _ (wm 60 rfl)) (hw _ (wm 59 rfl)) (hw _ (wm 11 rfl)) (hw _ (wm 61 rfl)) (by decide) E21595 (rm9s20 l Z a0 hw [] b5 b3062 b9140 b9240 b13361 b17483 h17487 n0 Z17487 E21595 F21596 F21597 F21598 g_b5 A21599 u9238 u19542 ne_b5_b9140) (by decide) (by decide) (by decide) (by decide) e17487 (g := (mkF m 115 (La0_5 q0 q1 p2 p3 p4 p5 b5) [(.ref b17483), (.ref b5)])) rfl (by rw [hml]; rfl) pd_7 rfl rfl (by show 2 * 0 + _ ≤ _; exact Nat.le_of_eq rfl) (hb hby at_115)
  have N19548 := Fr.app N17487 N19548q
  obtain ⟨h19548, e19548⟩ : ∃ z, T19548.heap = z := ⟨_, rfl⟩
  rw [e19548] at u21600 u21601 u21602 u21603 u21604 u21605
  have K19548 := u21600
  have Z19548 := Nat.le_trans Z17487 K19548.1
  refine ost (mkF m 118 (La0_5 q0 q1 p2 p3 p4 p5 b5) [(.int (1 : Int32))]) X19548 (fun t k => st19548 _ k) ?_
  refine ost (mkF m 119 (La0_5 q0 q1 p2 p3 p4 p5 b5) []) X19548 (fun t k => XT.pop X19548.here hx rfl (hb hby at_118) rfl rfl k) ?_
  obtain ⟨T21606, h21606, X21606, e21606, E21606, A21606, D21606, -, st21606⟩ := newO X19548 hx hZ hown (hw _ (wm 85 rfl)) (hw _ (wm 86 rfl)) (hw _ (wm 87 rfl)) e19548 (g := (mkF m 119 (La0_5 q0 q1 p2 p3 p4 p5 b5) [])) rfl (hb hby at_119) (by decide) (by decide)
  obtain ⟨b21606, y21606⟩ : ∃ z, z = h19548.size := ⟨_, rfl⟩
  rw [← y21606] at A21606 D21606 st21606
  have K21606 := keep_ext E21606
  have ne_b5_b21606 : b5 ≠ b21606 := Exa.neS u21601 y21606
  have E21607 := (Exa.keep (Exa.keep (Exa.keep E17484 K17483) K17487) K19548)
  have ne_b3062_b21606 : b3062 ≠ b21606 := Exa.neS E21607 y21606
  have ne_b9140_b21606 : b9140 ≠ b21606 := AryR.neS u21605 y21606
  have E21608 := (Exa.keep (Exa.keep (Exa.keep E17485 K17483) K17487) K19548)
  have ne_b9240_b21606 : b9240 ≠ b21606 := Exa.neS E21608 y21606
  have E21609 := (Exa.keep (Exa.keep (Exa.keep E17486 K17483) K17487) K19548)
  have ne_b13361_b21606 : b13361 ≠ b21606 := Exa.neS E21609 y21606
  have E21610 := (Exa.keep u19542 K19548)
  have ne_b17483_b21606 : b17483 ≠ b21606 := Exa.neS E21610 y21606
  have g_b21606 : n0 ≤ b21606 := by rw [y21606]; exact Z19548
  have Z21606 := Nat.le_trans Z19548 K21606.1
  have F21606_m_word : Fld Z h21606 b21606 "com/example/ken2/ken2/StateLayout" "m_word" "[I" .null := D21606 (Or.inr (hw _ (wm 103 rfl))) (ty := (.array .int)) (by decide)
  have F21606_m_shift : Fld Z h21606 b21606 "com/example/ken2/ken2/StateLayout" "m_shift" "[I" .null := D21606 (Or.inr (hw _ (wm 105 rfl))) (ty := (.array .int)) (by decide)
  have F21606_m_mask : Fld Z h21606 b21606 "com/example/ken2/ken2/StateLayout" "m_mask" "[J" .null := D21606 (Or.inr (hw _ (wm 108 rfl))) (ty := (.array .long)) (by decide)
  have F21606_m_width : Fld Z h21606 b21606 "com/example/ken2/ken2/StateLayout" "m_width" "I" (.int (0 : Int32)) := D21606 (Or.inr (hw _ (wm 143 rfl))) (ty := .int) (by decide)
  refine ost (mkF m 122 (La0_5 q0 q1 p2 p3 p4 p5 b5) [(.ref b21606)]) X21606 (fun t k => st21606 _ k) ?_
  refine ost (mkF m 123 (La0_5 q0 q1 p2 p3 p4 p5 b5) [(.ref b21606), (.ref b21606)]) X21606 (fun t k => XS.dup X21606.here hx rfl (hb hby at_122) rfl rfl k) ?_
  refine ost (mkF m 125 (La0_5 q0 q1 p2 p3 p4 p5 b5) [(.ref b5), (.ref b21606), (.ref b21606)]) X21606 (fun t k => XS.aload X21606.here hx rfl (hb hby at_123) rfl rfl k) ?_
  have E44064 := (Exa.keep u21601 K21606)
  have F44065 := (u21603.keep K21606 nin0)
  have F44066 := (u21604.keep K21606 nin0)
  have E44067 := (Exa.keep E21607 K21606)
  have F44068 := (((((((((((u5123.keep K5124 (ninS (Ne.symm ne_b5_b3062) nin0)).keep K9240 nin0).keep K9242 (ninS ne_b3062_b9240 nin0)).keep K11303 (ninS (Ne.symm ne_b5_b3062) (ninS ne_b3062_b9140 nin0))).keep K13361 nin0).keep K13364 (ninS ne_b3062_b13361 nin0)).keep K15425 (ninS (Ne.symm ne_b5_b3062) (ninS ne_b3062_b9140 nin0))).keep K17483 nin0).keep K17487 (ninS ne_b3062_b17483 nin0)).keep K19548 (ninS (Ne.symm ne_b5_b3062) (ninS ne_b3062_b9140 nin0))).keep K21606 nin0)
  have A44069 := (u21605.keep K21606 nin0)
  have E44070 := (Exa.keep E21608 K21606)
  have F44071 := ((((((((u11302.keep K11303 (ninS (Ne.symm ne_b5_b9240) (ninS (Ne.symm ne_b9140_b9240) nin0))).keep K13361 nin0).keep K13364 (ninS ne_b9240_b13361 nin0)).keep K15425 (ninS (Ne.symm ne_b5_b9240) (ninS (Ne.symm ne_b9140_b9240) nin0))).keep K17483 nin0).keep K17487 (ninS ne_b9240_b17483 nin0)).keep K19548 (ninS (Ne.symm ne_b5_b9240) (ninS (Ne.symm ne_b9140_b9240) nin0))).keep K21606 nin0)
  have E44072 := (Exa.keep E21609 K21606)
  have F44073 := (((((u15424.keep K15425 (ninS (Ne.symm ne_b5_b13361) (ninS (Ne.symm ne_b9140_b13361) nin0))).keep K17483 nin0).keep K17487 (ninS ne_b13361_b17483 nin0)).keep K19548 (ninS (Ne.symm ne_b5_b13361) (ninS (Ne.symm ne_b9140_b13361) nin0))).keep K21606 nin0)
  have E44074 := (Exa.keep E21610 K21606)
  have F44075 := ((u19547.keep K19548 (ninS (Ne.symm ne_b5_b17483) (ninS (Ne.symm ne_b9140_b17483) nin0))).keep K21606 nin0)
  obtain ⟨_, T21611, L21611, X21611, ⟨b23626, b23641, b23662, rfl, N21611q, u44076, u44077, u44078, u44079, u44080, u44081, u44082, u44083, u44084, u44085, u44086, u44087, u44088, u44089, u44090, u44091, u44092, u44093⟩, st21611⟩ := own_callI X21606 hx hZ (y := Y20) (W := 1) (a := b21606) (argsL := [(.ref b5)]) (rest := [(.ref b21606)]) rfl hown (hw _ (wm 88 rfl)) (hw _ (wm 89 rfl)) (hw _ (wm 87 rfl)) (hw _ (wm 90 rfl)) (by decide) (rm13s22 l Z a0 hw [] q0 q1 b5 b3062 b9140 b9240 b13361 b17483 b21606 h21606 n0 Z21606 E44064 F44065 F44066 E44067 F44068 A44069 E44070 F44071 E44072 F44073 E44074 F44075 A21606 F21606_m_word F21606_m_shift F21606_m_mask F21606_m_width g_b21606 ne_b5_b21606 ne_b3062_b21606 ne_b9140_b21606 ne_b9240_b21606 ne_b13361_b21606 ne_b17483_b21606) (by decide) (by decide) (by decide) (by decide) e21606 (g := (mkF m 125 (La0_5 q0 q1 p2 p3 p4 p5 b5) [(.ref b5), (.ref b21606), (.ref b21606)])) rfl (by rw [hml]; rfl) pd_11 rfl rfl (by show 2 * 0 + _ ≤ _; exact Nat.le_of_eq rfl) (hb hby at_125)
  have N21611 := Fr.app N19548 N21611q
  obtain ⟨h21611, e21611⟩ : ∃ z, T21611.heap = z := ⟨_, rfl⟩
  rw [e21611] at u44076 u44077 u44078 u44079 u44080 u44081 u44082 u44085 u44088
  have K21611 := u44076
  have Z21611 := Nat.le_trans Z21606 K21611.1
  have ne_b5_b23626 : b5 ≠ b23626 := Nat.ne_of_lt (Nat.lt_of_lt_of_le (E44064).lt u44084)
  have ne_b3062_b23626 : b3062 ≠ b23626 := Nat.ne_of_lt (Nat.lt_of_lt_of_le (E44067).lt u44084)
  have ne_b9140_b23626 : b9140 ≠ b23626 := Nat.ne_of_lt (Nat.lt_of_lt_of_le (A44069).lt u44084)
  have ne_b9240_b23626 : b9240 ≠ b23626 := Nat.ne_of_lt (Nat.lt_of_lt_of_le (E44070).lt u44084)
  have ne_b13361_b23626 : b13361 ≠ b23626 := Nat.ne_of_lt (Nat.lt_of_lt_of_le (E44072).lt u44084)
  have ne_b17483_b23626 : b17483 ≠ b23626 := Nat.ne_of_lt (Nat.lt_of_lt_of_le (E44074).lt u44084)
  have ne_b21606_b23626 : b21606 ≠ b23626 := Nat.ne_of_lt (Nat.lt_of_lt_of_le (A21606).lt u44084)
  have ne_b5_b23641 : b5 ≠ b23641 := Nat.ne_of_lt (Nat.lt_of_lt_of_le (E44064).lt u44087)
  have ne_b3062_b23641 : b3062 ≠ b23641 := Nat.ne_of_lt (Nat.lt_of_lt_of_le (E44067).lt u44087)
  have ne_b9140_b23641 : b9140 ≠ b23641 := Nat.ne_of_lt (Nat.lt_of_lt_of_le (A44069).lt u44087)
  have ne_b9240_b23641 : b9240 ≠ b23641 := Nat.ne_of_lt (Nat.lt_of_lt_of_le (E44070).lt u44087)
  have ne_b13361_b23641 : b13361 ≠ b23641 := Nat.ne_of_lt (Nat.lt_of_lt_of_le (E44072).lt u44087)
  have ne_b17483_b23641 : b17483 ≠ b23641 := Nat.ne_of_lt (Nat.lt_of_lt_of_le (E44074).lt u44087)
  have ne_b21606_b23641 : b21606 ≠ b23641 := Nat.ne_of_lt (Nat.lt_of_lt_of_le (A21606).lt u44087)
  have ne_b5_b23662 : b5 ≠ b23662 := Nat.ne_of_lt (Nat.lt_of_lt_of_le (E44064).lt u44090)
  have ne_b3062_b23662 : b3062 ≠ b23662 := Nat.ne_of_lt (Nat.lt_of_lt_of_le (E44067).lt u44090)
  have ne_b9140_b23662 : b9140 ≠ b23662 := Nat.ne_of_lt (Nat.lt_of_lt_of_le (A44069).lt u44090)
  have ne_b9240_b23662 : b9240 ≠ b23662 := Nat.ne_of_lt (Nat.lt_of_lt_of_le (E44070).lt u44090)
  have ne_b13361_b23662 : b13361 ≠ b23662 := Nat.ne_of_lt (Nat.lt_of_lt_of_le (E44072).lt u44090)
  have ne_b17483_b23662 : b17483 ≠ b23662 := Nat.ne_of_lt (Nat.lt_of_lt_of_le (E44074).lt u44090)
  have ne_b21606_b23662 : b21606 ≠ b23662 := Nat.ne_of_lt (Nat.lt_of_lt_of_le (A21606).lt u44090)
  refine ost (mkF m 128 (La0_5 q0 q1 p2 p3 p4 p5 b5) [(.ref b21606)]) X21611 (fun t k => st21611 _ k) ?_
  refine ost (mkF m 130 (La0_6 q0 q1 p2 p3 p4 p5 b5 b21606) []) X21611 (fun t k => XS.astore X21611.here hx rfl (hb hby at_128) rfl rfl (l' := (La0_6 q0 q1 p2 p3 p4 p5 b5 b21606)) rfl k) ?_
  refine ost (mkF m 131 (La0_6 q0 q1 p2 p3 p4 p5 b5 b21606) [(.int (4 : Int32))]) X21611 (fun t k => XS.iconst X21611.here hx rfl (hb hby at_130) k) ?_
  obtain ⟨T44094, h44094, b44094, X44094, e44094, y44094, K44094, A44094, st44094⟩ := own_new X21611 hx hZ (hw _ (wm 101 rfl)) e21611 (g := (mkF m 131 (La0_6 q0 q1 p2 p3 p4 p5 b5 b21606) [(.int (4 : Int32))])) rfl (hb hby at_131) rfl (by decide) (cap := 4) (by decide) (by decide) (by decide) (by decide)
  have B44094 : Ary Z h44094 b44094 .int 4 (fun i => .int ((fun _ => (0 : Int32)) i)) := A44094
  have E44095 := (Exa.keep E44064 K21611)
  have ne_b5_b44094 : b5 ≠ b44094 := Exa.neS E44095 y44094
  have E44096 := (Exa.keep E44067 K21611)
  have ne_b3062_b44094 : b3062 ≠ b44094 := Exa.neS E44096 y44094
  have A44097 := (A44069.keep K21611 (ninS ne_b9140_b21606 nin0))
  have ne_b9140_b44094 : b9140 ≠ b44094 := AryR.neS A44097 y44094
  have E44098 := (Exa.keep E44070 K21611)
  have ne_b9240_b44094 : b9240 ≠ b44094 := Exa.neS E44098 y44094
  have E44099 := (Exa.keep E44072 K21611)
  have ne_b13361_b44094 : b13361 ≠ b44094 := Exa.neS E44099 y44094
  have E44100 := (Exa.keep E44074 K21611)
  have ne_b17483_b44094 : b17483 ≠ b44094 := Exa.neS E44100 y44094
  have ne_b21606_b44094 : b21606 ≠ b44094 := Exa.neS u44077 y44094
  have ne_b23626_b44094 : b23626 ≠ b44094 := Ary.neS u44082 y44094
  have ne_b23641_b44094 : b23641 ≠ b44094 := Ary.neS u44085 y44094
  have ne_b23662_b44094 : b23662 ≠ b44094 := Ary.neS u44088 y44094
  have g_b44094 : n0 ≤ b44094 := by rw [y44094]; exact Z21611
  have Z44094 := Nat.le_trans Z21611 K44094.1
  refine ost (mkF m 133 (La0_6 q0 q1 p2 p3 p4 p5 b5 b21606) [(.ref b44094)]) X44094 (fun t k => st44094 _ k) ?_
  refine ost (mkF m 135 (La0_7 q0 q1 p2 p3 p4 p5 b5 b21606 b44094) []) X44094 (fun t k => XS.astore X44094.here hx rfl (hb hby at_133) rfl rfl (l' := (La0_7 q0 q1 p2 p3 p4 p5 b5 b21606 b44094)) rfl k) ?_
  refine ost (mkF m 137 (La0_7 q0 q1 p2 p3 p4 p5 b5 b21606 b44094) [(.ref b44094)]) X44094 (fun t k => XS.aload X44094.here hx rfl (hb hby at_135) rfl rfl k) ?_
  refine ost (mkF m 138 (La0_7 q0 q1 p2 p3 p4 p5 b5 b21606 b44094) [(.int (0 : Int32)), (.ref b44094)]) X44094 (fun t k => XS.iconst X44094.here hx rfl (hb hby at_137) k) ?_
  refine ost (mkF m 140 (La0_7 q0 q1 p2 p3 p4 p5 b5 b21606 b44094) [(.int p2), (.int (0 : Int32)), (.ref b44094)]) X44094 (fun t k => XS.iload X44094.here hx rfl (hb hby at_138) rfl k) ?_
  refine ost (mkF m 142 (La0_7 q0 q1 p2 p3 p4 p5 b5 b21606 b44094) [(.int (v0_8 q0)), (.int p2), (.int (0 : Int32)), (.ref b44094)]) X44094 (fun t k => XS.iload X44094.here hx rfl (hb hby at_140) rfl k) ?_
  obtain ⟨_, T44101, L44101, X44101, ⟨rfl, f44101, N44101q⟩, st44101⟩ := own_callS X44094 hx hZ (y := Y21) (W := 2) (argsL := [(.int p2), (.int (v0_8 q0))]) (rest := [(.int (0 : Int32)), (.ref b44094)]) hown (hw _ (wm 144 rfl)) (hw _ (wm 145 rfl)) (hw _ (wm 2 rfl)) (hw _ (wm 146 rfl)) (by decide) (rm21 l Z a0 hw [] p2 (v0_8 q0) h44094 n0 Z44094 (ex0_142 q0)) (by decide) (by decide) (by decide) (by decide) e44094 (g := (mkF m 142 (La0_7 q0 q1 p2 p3 p4 p5 b5 b21606 b44094) [(.int (v0_8 q0)), (.int p2), (.int (0 : Int32)), (.ref b44094)])) rfl (by rw [hml]; rfl) pd_0 rfl rfl (by show 2 * 0 + _ ≤ _; exact Nat.le_of_eq rfl) (hb hby at_142)
  have N44101 := Fr.app N21611 N44101q
  refine ost (mkF m 145 (La0_7 q0 q1 p2 p3 p4 p5 b5 b21606 b44094) [(.int (r21 p2 (v0_8 q0))), (.int (0 : Int32)), (.ref b44094)]) X44101 (fun t k => st44101 _ k) ?_
  obtain ⟨T44102, h44102, L44102, X44102, e44102, N44102, K44102, A44102, st44102⟩ := own_stI X44101 hx hZ f44101 N44101 (G := (fun _ => (0 : Int32))) B44094 g_b44094 (j := (0 : Int32)) (x := (r21 p2 (v0_8 q0))) (by decide) (g := (mkF m 145 (La0_7 q0 q1 p2 p3 p4 p5 b5 b21606 b44094) [(.int (r21 p2 (v0_8 q0))), (.int (0 : Int32)), (.ref b44094)])) rfl rfl (hb hby at_145)
  have B44102 : Ary Z h44102 b44094 .int 4 (fun i => .int ((G0_145 p2 q0) i)) := A44102
  have Z44102 := Nat.le_trans Z44094 K44102.1
  refine ost (mkF m 146 (La0_7 q0 q1 p2 p3 p4 p5 b5 b21606 b44094) []) X44102 (fun t k => st44102 _ k) ?_
  refine ost (mkF m 148 (La0_7 q0 q1 p2 p3 p4 p5 b5 b21606 b44094) [(.ref b44094)]) X44102 (fun t k => XS.aload X44102.here hx rfl (hb hby at_146) rfl rfl k) ?_
  refine ost (mkF m 149 (La0_7 q0 q1 p2 p3 p4 p5 b5 b21606 b44094) [(.int (1 : Int32)), (.ref b44094)]) X44102 (fun t k => XS.iconst X44102.here hx rfl (hb hby at_148) k) ?_
  refine ost (mkF m 151 (La0_7 q0 q1 p2 p3 p4 p5 b5 b21606 b44094) [(.int p3), (.int (1 : Int32)), (.ref b44094)]) X44102 (fun t k => XS.iload X44102.here hx rfl (hb hby at_149) rfl k) ?_
  refine ost (mkF m 153 (La0_7 q0 q1 p2 p3 p4 p5 b5 b21606 b44094) [(.int (v0_15 q0)), (.int p3), (.int (1 : Int32)), (.ref b44094)]) X44102 (fun t k => XS.iload X44102.here hx rfl (hb hby at_151) rfl k) ?_
  obtain ⟨_, T44103, L44103, X44103, ⟨rfl, f44103, N44103q⟩, st44103⟩ := own_callS X44102 hx hZ (y := Y21) (W := 2) (argsL := [(.int p3), (.int (v0_15 q0))]) (rest := [(.int (1 : Int32)), (.ref b44094)]) hown (hw _ (wm 144 rfl)) (hw _ (wm 145 rfl)) (hw _ (wm 2 rfl)) (hw _ (wm 146 rfl)) (by decide) (rm21 l Z a0 hw [] p3 (v0_15 q0) h44102 n0 Z44102 (ex0_153 q0)) (by decide) (by decide) (by decide) (by decide) e44102 (g := (mkF m 153 (La0_7 q0 q1 p2 p3 p4 p5 b5 b21606 b44094) [(.int (v0_15 q0)), (.int p3), (.int (1 : Int32)), (.ref b44094)])) rfl (by rw [hml]; rfl) pd_0 rfl rfl (by show 2 * 0 + _ ≤ _; exact Nat.le_of_eq rfl) (hb hby at_153)
  have N44103 := Fr.app N44102 N44103q
  refine ost (mkF m 156 (La0_7 q0 q1 p2 p3 p4 p5 b5 b21606 b44094) [(.int (r21 p3 (v0_15 q0))), (.int (1 : Int32)), (.ref b44094)]) X44103 (fun t k => st44103 _ k) ?_
  obtain ⟨T44104, h44104, L44104, X44104, e44104, N44104, K44104, A44104, st44104⟩ := own_stI X44103 hx hZ f44103 N44103 (G := (G0_145 p2 q0)) B44102 g_b44094 (j := (1 : Int32)) (x := (r21 p3 (v0_15 q0))) (by decide) (g := (mkF m 156 (La0_7 q0 q1 p2 p3 p4 p5 b5 b21606 b44094) [(.int (r21 p3 (v0_15 q0))), (.int (1 : Int32)), (.ref b44094)])) rfl rfl (hb hby at_156)
  have B44104 : Ary Z h44104 b44094 .int 4 (fun i => .int ((G0_156 p2 q0 p3) i)) := A44104
  have Z44104 := Nat.le_trans Z44102 K44104.1
  refine ost (mkF m 157 (La0_7 q0 q1 p2 p3 p4 p5 b5 b21606 b44094) []) X44104 (fun t k => st44104 _ k) ?_
  refine ost (mkF m 159 (La0_7 q0 q1 p2 p3 p4 p5 b5 b21606 b44094) [(.ref b44094)]) X44104 (fun t k => XS.aload X44104.here hx rfl (hb hby at_157) rfl rfl k) ?_
  refine ost (mkF m 160 (La0_7 q0 q1 p2 p3 p4 p5 b5 b21606 b44094) [(.int (2 : Int32)), (.ref b44094)]) X44104 (fun t k => XS.iconst X44104.here hx rfl (hb hby at_159) k) ?_
  refine ost (mkF m 162 (La0_7 q0 q1 p2 p3 p4 p5 b5 b21606 b44094) [(.int p4), (.int (2 : Int32)), (.ref b44094)]) X44104 (fun t k => XS.iload X44104.here hx rfl (hb hby at_160) rfl k) ?_
  refine ost (mkF m 164 (La0_7 q0 q1 p2 p3 p4 p5 b5 b21606 b44094) [(.int (v0_25 q1)), (.int p4), (.int (2 : Int32)), (.ref b44094)]) X44104 (fun t k => XS.iload X44104.here hx rfl (hb hby at_162) rfl k) ?_
  obtain ⟨_, T44105, L44105, X44105, ⟨rfl, f44105, N44105q⟩, st44105⟩ := own_callS X44104 hx hZ (y := Y21) (W := 2) (argsL := [(.int p4), (.int (v0_25 q1))]) (rest := [(.int (2 : Int32)), (.ref b44094)]) hown (hw _ (wm 144 rfl)) (hw _ (wm 145 rfl)) (hw _ (wm 2 rfl)) (hw _ (wm 146 rfl)) (by decide) (rm21 l Z a0 hw [] p4 (v0_25 q1) h44104 n0 Z44104 (ex0_164 q1)) (by decide) (by decide) (by decide) (by decide) e44104 (g := (mkF m 164 (La0_7 q0 q1 p2 p3 p4 p5 b5 b21606 b44094) [(.int (v0_25 q1)), (.int p4), (.int (2 : Int32)), (.ref b44094)])) rfl (by rw [hml]; rfl) pd_0 rfl rfl (by show 2 * 0 + _ ≤ _; exact Nat.le_of_eq rfl) (hb hby at_164)
  have N44105 := Fr.app N44104 N44105q
  refine ost (mkF m 167 (La0_7 q0 q1 p2 p3 p4 p5 b5 b21606 b44094) [(.int (r21 p4 (v0_25 q1))), (.int (2 : Int32)), (.ref b44094)]) X44105 (fun t k => st44105 _ k) ?_
  obtain ⟨T44106, h44106, L44106, X44106, e44106, N44106, K44106, A44106, st44106⟩ := own_stI X44105 hx hZ f44105 N44105 (G := (G0_156 p2 q0 p3)) B44104 g_b44094 (j := (2 : Int32)) (x := (r21 p4 (v0_25 q1))) (by decide) (g := (mkF m 167 (La0_7 q0 q1 p2 p3 p4 p5 b5 b21606 b44094) [(.int (r21 p4 (v0_25 q1))), (.int (2 : Int32)), (.ref b44094)])) rfl rfl (hb hby at_167)
  have B44106 : Ary Z h44106 b44094 .int 4 (fun i => .int ((G0_167 p2 q0 p3 p4 q1) i)) := A44106
  have Z44106 := Nat.le_trans Z44104 K44106.1
  refine ost (mkF m 168 (La0_7 q0 q1 p2 p3 p4 p5 b5 b21606 b44094) []) X44106 (fun t k => st44106 _ k) ?_
  refine ost (mkF m 170 (La0_7 q0 q1 p2 p3 p4 p5 b5 b21606 b44094) [(.ref b44094)]) X44106 (fun t k => XS.aload X44106.here hx rfl (hb hby at_168) rfl rfl k) ?_
  refine ost (mkF m 171 (La0_7 q0 q1 p2 p3 p4 p5 b5 b21606 b44094) [(.int (3 : Int32)), (.ref b44094)]) X44106 (fun t k => XS.iconst X44106.here hx rfl (hb hby at_170) k) ?_
  refine ost (mkF m 173 (La0_7 q0 q1 p2 p3 p4 p5 b5 b21606 b44094) [(.int p5), (.int (3 : Int32)), (.ref b44094)]) X44106 (fun t k => XS.iload X44106.here hx rfl (hb hby at_171) rfl k) ?_
  refine ost (mkF m 175 (La0_7 q0 q1 p2 p3 p4 p5 b5 b21606 b44094) [(.int (v0_32 q1)), (.int p5), (.int (3 : Int32)), (.ref b44094)]) X44106 (fun t k => XS.iload X44106.here hx rfl (hb hby at_173) rfl k) ?_
  obtain ⟨_, T44107, L44107, X44107, ⟨rfl, f44107, N44107q⟩, st44107⟩ := own_callS X44106 hx hZ (y := Y21) (W := 2) (argsL := [(.int p5), (.int (v0_32 q1))]) (rest := [(.int (3 : Int32)), (.ref b44094)]) hown (hw _ (wm 144 rfl)) (hw _ (wm 145 rfl)) (hw _ (wm 2 rfl)) (hw _ (wm 146 rfl)) (by decide) (rm21 l Z a0 hw [] p5 (v0_32 q1) h44106 n0 Z44106 (ex0_175 q1)) (by decide) (by decide) (by decide) (by decide) e44106 (g := (mkF m 175 (La0_7 q0 q1 p2 p3 p4 p5 b5 b21606 b44094) [(.int (v0_32 q1)), (.int p5), (.int (3 : Int32)), (.ref b44094)])) rfl (by rw [hml]; rfl) pd_0 rfl rfl (by show 2 * 0 + _ ≤ _; exact Nat.le_of_eq rfl) (hb hby at_175)
  have N44107 := Fr.app N44106 N44107q
  refine ost (mkF m 178 (La0_7 q0 q1 p2 p3 p4 p5 b5 b21606 b44094) [(.int (r21 p5 (v0_32 q1))), (.int (3 : Int32)), (.ref b44094)]) X44107 (fun t k => st44107 _ k) ?_
  obtain ⟨T44108, h44108, L44108, X44108, e44108, N44108, K44108, A44108, st44108⟩ := own_stI X44107 hx hZ f44107 N44107 (G := (G0_167 p2 q0 p3 p4 q1)) B44106 g_b44094 (j := (3 : Int32)) (x := (r21 p5 (v0_32 q1))) (by decide) (g := (mkF m 178 (La0_7 q0 q1 p2 p3 p4 p5 b5 b21606 b44094) [(.int (r21 p5 (v0_32 q1))), (.int (3 : Int32)), (.ref b44094)])) rfl rfl (hb hby at_178)
  have B44108 : Ary Z h44108 b44094 .int 4 (fun i => .int ((G0_178 p2 q0 p3 p4 q1 p5) i)) := A44108
  have Z44108 := Nat.le_trans Z44106 K44108.1
  refine ost (mkF m 179 (La0_7 q0 q1 p2 p3 p4 p5 b5 b21606 b44094) []) X44108 (fun t k => st44108 _ k) ?_
  refine ost (mkF m 180 (La0_7 q0 q1 p2 p3 p4 p5 b5 b21606 b44094) [(.int (2 : Int32))]) X44108 (fun t k => XS.iconst X44108.here hx rfl (hb hby at_179) k) ?_
  obtain ⟨T44109, h44109, b44109, X44109, e44109, y44109, K44109, A44109, st44109⟩ := own_new X44108 hx hZ (hw _ (wm 106 rfl)) e44108 (g := (mkF m 180 (La0_7 q0 q1 p2 p3 p4 p5 b5 b21606 b44094) [(.int (2 : Int32))])) rfl (hb hby at_180) rfl (by decide) (cap := 2) (by decide) (by decide) (by decide) (by decide)
  have B44109 : Ary Z h44109 b44109 .long 2 (fun i => .long ((fun _ => (0 : Int64)) i)) := A44109
  have E44110 := (Exa.keep (Exa.keep (Exa.keep (Exa.keep (Exa.keep E44095 K44094) K44102) K44104) K44106) K44108)
  have ne_b5_b44109 : b5 ≠ b44109 := Exa.neS E44110 y44109
  have E44111 := (Exa.keep (Exa.keep (Exa.keep (Exa.keep (Exa.keep E44096 K44094) K44102) K44104) K44106) K44108)
  have ne_b3062_b44109 : b3062 ≠ b44109 := Exa.neS E44111 y44109
  have A44112 := (((((A44097.keep K44094 nin0).keep K44102 (ninS ne_b9140_b44094 nin0)).keep K44104 (ninS ne_b9140_b44094 nin0)).keep K44106 (ninS ne_b9140_b44094 nin0)).keep K44108 (ninS ne_b9140_b44094 nin0))
  have ne_b9140_b44109 : b9140 ≠ b44109 := AryR.neS A44112 y44109
  have E44113 := (Exa.keep (Exa.keep (Exa.keep (Exa.keep (Exa.keep E44098 K44094) K44102) K44104) K44106) K44108)
  have ne_b9240_b44109 : b9240 ≠ b44109 := Exa.neS E44113 y44109
  have E44114 := (Exa.keep (Exa.keep (Exa.keep (Exa.keep (Exa.keep E44099 K44094) K44102) K44104) K44106) K44108)
  have ne_b13361_b44109 : b13361 ≠ b44109 := Exa.neS E44114 y44109
  have E44115 := (Exa.keep (Exa.keep (Exa.keep (Exa.keep (Exa.keep E44100 K44094) K44102) K44104) K44106) K44108)
  have ne_b17483_b44109 : b17483 ≠ b44109 := Exa.neS E44115 y44109
  have E44116 := (Exa.keep (Exa.keep (Exa.keep (Exa.keep (Exa.keep u44077 K44094) K44102) K44104) K44106) K44108)
  have ne_b21606_b44109 : b21606 ≠ b44109 := Exa.neS E44116 y44109
  have A44117 := (((((u44082.keep K44094 nin0).keep K44102 (ninS ne_b23626_b44094 nin0)).keep K44104 (ninS ne_b23626_b44094 nin0)).keep K44106 (ninS ne_b23626_b44094 nin0)).keep K44108 (ninS ne_b23626_b44094 nin0))
  have ne_b23626_b44109 : b23626 ≠ b44109 := Ary.neS A44117 y44109
  have A44118 := (((((u44085.keep K44094 nin0).keep K44102 (ninS ne_b23641_b44094 nin0)).keep K44104 (ninS ne_b23641_b44094 nin0)).keep K44106 (ninS ne_b23641_b44094 nin0)).keep K44108 (ninS ne_b23641_b44094 nin0))
  have ne_b23641_b44109 : b23641 ≠ b44109 := Ary.neS A44118 y44109
  have A44119 := (((((u44088.keep K44094 nin0).keep K44102 (ninS ne_b23662_b44094 nin0)).keep K44104 (ninS ne_b23662_b44094 nin0)).keep K44106 (ninS ne_b23662_b44094 nin0)).keep K44108 (ninS ne_b23662_b44094 nin0))
  have ne_b23662_b44109 : b23662 ≠ b44109 := Ary.neS A44119 y44109
  have ne_b44094_b44109 : b44094 ≠ b44109 := Ary.neS B44108 y44109
  have g_b44109 : n0 ≤ b44109 := by rw [y44109]; exact Z44108
  have Z44109 := Nat.le_trans Z44108 K44109.1
  refine ost (mkF m 182 (La0_7 q0 q1 p2 p3 p4 p5 b5 b21606 b44094) [(.ref b44109)]) X44109 (fun t k => st44109 _ k) ?_
  refine ost (mkF m 184 (La0_8 q0 q1 p2 p3 p4 p5 b5 b21606 b44094 b44109) []) X44109 (fun t k => XS.astore X44109.here hx rfl (hb hby at_182) rfl rfl (l' := (La0_8 q0 q1 p2 p3 p4 p5 b5 b21606 b44094 b44109)) rfl k) ?_
  refine ost (mkF m 186 (La0_8 q0 q1 p2 p3 p4 p5 b5 b21606 b44094 b44109) [(.ref b21606)]) X44109 (fun t k => XS.aload X44109.here hx rfl (hb hby at_184) rfl rfl k) ?_
  refine ost (mkF m 188 (La0_8 q0 q1 p2 p3 p4 p5 b5 b21606 b44094 b44109) [(.ref b44094), (.ref b21606)]) X44109 (fun t k => XS.aload X44109.here hx rfl (hb hby at_186) rfl rfl k) ?_
  refine ost (mkF m 190 (La0_8 q0 q1 p2 p3 p4 p5 b5 b21606 b44094 b44109) [(.ref b44109), (.ref b44094), (.ref b21606)]) X44109 (fun t k => XS.aload X44109.here hx rfl (hb hby at_188) rfl rfl k) ?_
  have F46179 := ((((((u44078.keep K44094 nin0).keep K44102 (ninS ne_b21606_b44094 nin0)).keep K44104 (ninS ne_b21606_b44094 nin0)).keep K44106 (ninS ne_b21606_b44094 nin0)).keep K44108 (ninS ne_b21606_b44094 nin0)).keep K44109 nin0)
  have F46180 := ((((((u44079.keep K44094 nin0).keep K44102 (ninS ne_b21606_b44094 nin0)).keep K44104 (ninS ne_b21606_b44094 nin0)).keep K44106 (ninS ne_b21606_b44094 nin0)).keep K44108 (ninS ne_b21606_b44094 nin0)).keep K44109 nin0)
  have A46181 := (A44117.keep K44109 nin0)
  have A46182 := (A44118.keep K44109 nin0)
  have A46183 := (B44108.keep K44109 nin0)
  have E46186 := (Exa.keep E44116 K44109)
  obtain ⟨_, T44120, L44120, X44120, ⟨rfl, N44120q, u46184, u46185⟩, st44120⟩ := own_callV X44109 hx hZ (y := Y23) (W := 0) (a := b21606) (argsL := [(.ref b44094), (.ref b44109)]) (rest := []) hown (hw _ (wm 147 rfl)) (hw _ (wm 148 rfl)) (hw _ (wm 150 rfl)) (hw _ (wm 149 rfl)) (hw _ (wm 87 rfl)) (hw _ (wm 151 rfl)) (by decide) E46186 (rm22s44 l Z a0 hw [] q0 q1 p2 p3 p4 p5 b21606 b23626 b23641 b44094 b44109 h44109 n0 Z44109 F46179 F46180 A46181 A46182 A46183 B44109 g_b44109 ne_b21606_b44109 ne_b23626_b44109 ne_b23641_b44109 ne_b44094_b44109) (by decide) (by decide) (by decide) (by decide) e44109 (g := (mkF m 190 (La0_8 q0 q1 p2 p3 p4 p5 b5 b21606 b44094 b44109) [(.ref b44109), (.ref b44094), (.ref b21606)])) rfl (by rw [hml]; rfl) pd_13 rfl rfl (by show 2 * 0 + _ ≤ _; exact Nat.le_of_eq rfl) (hb hby at_190)
  have N44120 := Fr.app N44108 N44120q
  obtain ⟨h44120, e44120⟩ : ∃ z, T44120.heap = z := ⟨_, rfl⟩
  rw [e44120] at u46184 u46185
  have K44120 := u46184
  have Z44120 := Nat.le_trans Z44109 K44120.1
  refine ost (mkF m 193 (La0_8 q0 q1 p2 p3 p4 p5 b5 b21606 b44094 b44109) []) X44120 (fun t k => st44120 _ k) ?_
  refine ost (mkF m 194 (La0_8 q0 q1 p2 p3 p4 p5 b5 b21606 b44094 b44109) [(.int (4 : Int32))]) X44120 (fun t k => XS.iconst X44120.here hx rfl (hb hby at_193) k) ?_
  obtain ⟨T46187, h46187, b46187, X46187, e46187, y46187, K46187, A46187, st46187⟩ := own_new X44120 hx hZ (hw _ (wm 101 rfl)) e44120 (g := (mkF m 194 (La0_8 q0 q1 p2 p3 p4 p5 b5 b21606 b44094 b44109) [(.int (4 : Int32))])) rfl (hb hby at_194) rfl (by decide) (cap := 4) (by decide) (by decide) (by decide) (by decide)
  have B46187 : Ary Z h46187 b46187 .int 4 (fun i => .int ((fun _ => (0 : Int32)) i)) := A46187
  have E46188 := (Exa.keep (Exa.keep E44110 K44109) K44120)
  have ne_b5_b46187 : b5 ≠ b46187 := Exa.neS E46188 y46187
  have E46189 := (Exa.keep (Exa.keep E44111 K44109) K44120)
  have ne_b3062_b46187 : b3062 ≠ b46187 := Exa.neS E46189 y46187
  have A46190 := ((A44112.keep K44109 nin0).keep K44120 (ninS ne_b9140_b44109 nin0))
  have ne_b9140_b46187 : b9140 ≠ b46187 := AryR.neS A46190 y46187
  have E46191 := (Exa.keep (Exa.keep E44113 K44109) K44120)
  have ne_b9240_b46187 : b9240 ≠ b46187 := Exa.neS E46191 y46187
  have E46192 := (Exa.keep (Exa.keep E44114 K44109) K44120)
  have ne_b13361_b46187 : b13361 ≠ b46187 := Exa.neS E46192 y46187
  have E46193 := (Exa.keep (Exa.keep E44115 K44109) K44120)
  have ne_b17483_b46187 : b17483 ≠ b46187 := Exa.neS E46193 y46187
  have E46194 := (Exa.keep E46186 K44120)
  have ne_b21606_b46187 : b21606 ≠ b46187 := Exa.neS E46194 y46187
  have A46195 := (A46181.keep K44120 (ninS ne_b23626_b44109 nin0))
  have ne_b23626_b46187 : b23626 ≠ b46187 := Ary.neS A46195 y46187
  have A46196 := (A46182.keep K44120 (ninS ne_b23641_b44109 nin0))
  have ne_b23641_b46187 : b23641 ≠ b46187 := Ary.neS A46196 y46187
  have A46197 := ((A44119.keep K44109 nin0).keep K44120 (ninS ne_b23662_b44109 nin0))
  have ne_b23662_b46187 : b23662 ≠ b46187 := Ary.neS A46197 y46187
  have A46198 := (A46183.keep K44120 (ninS ne_b44094_b44109 nin0))
  have ne_b44094_b46187 : b44094 ≠ b46187 := Ary.neS A46198 y46187
  have ne_b44109_b46187 : b44109 ≠ b46187 := Ary.neS u46185 y46187
  have g_b46187 : n0 ≤ b46187 := by rw [y46187]; exact Z44120
  have Z46187 := Nat.le_trans Z44120 K46187.1
  refine ost (mkF m 196 (La0_8 q0 q1 p2 p3 p4 p5 b5 b21606 b44094 b44109) [(.ref b46187)]) X46187 (fun t k => st46187 _ k) ?_
  refine ost (mkF m 198 (La0_9 q0 q1 p2 p3 p4 p5 b5 b21606 b44094 b44109 b46187) []) X46187 (fun t k => XS.astore X46187.here hx rfl (hb hby at_196) rfl rfl (l' := (La0_9 q0 q1 p2 p3 p4 p5 b5 b21606 b44094 b44109 b46187)) rfl k) ?_
  refine ost (mkF m 200 (La0_9 q0 q1 p2 p3 p4 p5 b5 b21606 b44094 b44109 b46187) [(.ref b21606)]) X46187 (fun t k => XS.aload X46187.here hx rfl (hb hby at_198) rfl rfl k) ?_
  refine ost (mkF m 202 (La0_9 q0 q1 p2 p3 p4 p5 b5 b21606 b44094 b44109 b46187) [(.ref b44109), (.ref b21606)]) X46187 (fun t k => XS.aload X46187.here hx rfl (hb hby at_200) rfl rfl k) ?_
  refine ost (mkF m 204 (La0_9 q0 q1 p2 p3 p4 p5 b5 b21606 b44094 b44109 b46187) [(.ref b46187), (.ref b44109), (.ref b21606)]) X46187 (fun t k => XS.aload X46187.here hx rfl (hb hby at_202) rfl rfl k) ?_
  have F47247 := ((F46179.keep K44120 (ninS ne_b21606_b44109 nin0)).keep K46187 nin0)
  have F47248 := ((F46180.keep K44120 (ninS ne_b21606_b44109 nin0)).keep K46187 nin0)
  have F47249 := ((((((((u44080.keep K44094 nin0).keep K44102 (ninS ne_b21606_b44094 nin0)).keep K44104 (ninS ne_b21606_b44094 nin0)).keep K44106 (ninS ne_b21606_b44094 nin0)).keep K44108 (ninS ne_b21606_b44094 nin0)).keep K44109 nin0).keep K44120 (ninS ne_b21606_b44109 nin0)).keep K46187 nin0)
  have A47250 := (A46195.keep K46187 nin0)
  have A47251 := (A46196.keep K46187 nin0)
  have A47252 := (A46197.keep K46187 nin0)
  have A47253 := (u46185.keep K46187 nin0)
  have E47256 := (Exa.keep E46194 K46187)
  obtain ⟨_, T46199, L46199, X46199, ⟨rfl, N46199q, u47254, u47255⟩, st46199⟩ := own_callV X46187 hx hZ (y := Y24) (W := 0) (a := b21606) (argsL := [(.ref b44109), (.ref b46187)]) (rest := []) hown (hw _ (wm 156 rfl)) (hw _ (wm 157 rfl)) (hw _ (wm 159 rfl)) (hw _ (wm 158 rfl)) (hw _ (wm 87 rfl)) (hw _ (wm 160 rfl)) (by decide) E47256 (rm24s46 l Z a0 hw [] q0 q1 p2 p3 p4 p5 b21606 b23626 b23641 b23662 b44109 b46187 h46187 n0 Z46187 F47247 F47248 F47249 A47250 A47251 A47252 A47253 B46187 g_b46187 ne_b21606_b46187 ne_b23626_b46187 ne_b23641_b46187 ne_b23662_b46187 ne_b44109_b46187) (by decide) (by decide) (by decide) (by decide) e46187 (g := (mkF m 204 (La0_9 q0 q1 p2 p3 p4 p5 b5 b21606 b44094 b44109 b46187) [(.ref b46187), (.ref b44109), (.ref b21606)])) rfl (by rw [hml]; rfl) pd_14 rfl rfl (by show 2 * 0 + _ ≤ _; exact Nat.le_of_eq rfl) (hb hby at_204)
  have N46199 := Fr.app N44120 N46199q
  obtain ⟨h46199, e46199⟩ : ∃ z, T46199.heap = z := ⟨_, rfl⟩
  rw [e46199] at u47254 u47255
  have K46199 := u47254
  have Z46199 := Nat.le_trans Z46187 K46199.1
  refine ost (mkF m 207 (La0_9 q0 q1 p2 p3 p4 p5 b5 b21606 b44094 b44109 b46187) []) X46199 (fun t k => st46199 _ k) ?_
  refine ost (mkF m 209 (La0_9 q0 q1 p2 p3 p4 p5 b5 b21606 b44094 b44109 b46187) [(.ref b46187)]) X46199 (fun t k => XS.aload X46199.here hx rfl (hb hby at_207) rfl rfl k) ?_
  refine ost (mkF m 210 (La0_9 q0 q1 p2 p3 p4 p5 b5 b21606 b44094 b44109 b46187) [(.int (0 : Int32)), (.ref b46187)]) X46199 (fun t k => XS.iconst X46199.here hx rfl (hb hby at_209) k) ?_
  refine ost (mkF m 211 (La0_9 q0 q1 p2 p3 p4 p5 b5 b21606 b44094 b44109 b46187) [(.int (((XT.ushrL ((Gs4422_34bbb q0 p2 p3 q1 p4 p5) ((vs2213_100 q0)).toNatClampNeg) (0 : Int32)) &&& (((1 : Int64) <<< ((vs2213_84 q0).toInt64 &&& 63)) - (1 : Int64))).toInt32))]) X46199 (fun t k => own_ldI X46199 hx hZ e46199 u47255 (by decide) (congrArg Value.int (updOff (by decide) (updOff (by decide) (updOff (by decide) (updAt rfl))))) (g := (mkF m 210 (La0_9 q0 q1 p2 p3 p4 p5 b5 b21606 b44094 b44109 b46187) [(.int (0 : Int32)), (.ref b46187)])) rfl rfl (hb hby at_210) _ k) ?_
  refine ost (mkF m 213 (La0_9 q0 q1 p2 p3 p4 p5 b5 b21606 b44094 b44109 b46187) [(.ref b44094), (.int (((XT.ushrL ((Gs4422_34bbb q0 p2 p3 q1 p4 p5) ((vs2213_100 q0)).toNatClampNeg) (0 : Int32)) &&& (((1 : Int64) <<< ((vs2213_84 q0).toInt64 &&& 63)) - (1 : Int64))).toInt32))]) X46199 (fun t k => XS.aload X46199.here hx rfl (hb hby at_211) rfl rfl k) ?_
  refine ost (mkF m 214 (La0_9 q0 q1 p2 p3 p4 p5 b5 b21606 b44094 b44109 b46187) [(.int (0 : Int32)), (.ref b44094), (.int (((XT.ushrL ((Gs4422_34bbb q0 p2 p3 q1 p4 p5) ((vs2213_100 q0)).toNatClampNeg) (0 : Int32)) &&& (((1 : Int64) <<< ((vs2213_84 q0).toInt64 &&& 63)) - (1 : Int64))).toInt32))]) X46199 (fun t k => XS.iconst X46199.here hx rfl (hb hby at_213) k) ?_
  have A47257 := ((A46198.keep K46187 nin0).keep K46199 (ninS ne_b44094_b46187 nin0))
  refine ost (mkF m 215 (La0_9 q0 q1 p2 p3 p4 p5 b5 b21606 b44094 b44109 b46187) [(.int (r21 p2 (v0_8 q0))), (.int (((XT.ushrL ((Gs4422_34bbb q0 p2 p3 q1 p4 p5) ((vs2213_100 q0)).toNatClampNeg) (0 : Int32)) &&& (((1 : Int64) <<< ((vs2213_84 q0).toInt64 &&& 63)) - (1 : Int64))).toInt32))]) X46199 (fun t k => own_ldI X46199 hx hZ e46199 A47257 (by decide) (congrArg Value.int (updOff (by decide) (updOff (by decide) (updOff (by decide) (updAt rfl))))) (g := (mkF m 214 (La0_9 q0 q1 p2 p3 p4 p5 b5 b21606 b44094 b44109 b46187) [(.int (0 : Int32)), (.ref b44094), (.int (((XT.ushrL ((Gs4422_34bbb q0 p2 p3 q1 p4 p5) ((vs2213_100 q0)).toNatClampNeg) (0 : Int32)) &&& (((1 : Int64) <<< ((vs2213_84 q0).toInt64 &&& 63)) - (1 : Int64))).toInt32))])) rfl rfl (hb hby at_214) _ k) ?_
  refine ost (mkF m 218 (La0_9 q0 q1 p2 p3 p4 p5 b5 b21606 b44094 b44109 b46187) []) X46199 (fun t k => XS.icmpNo X46199.here hx rfl (hb hby at_215) rfl (teq (br0_215 q0 p2 p3 q1 p4 p5)).2 k) ?_
  refine ost (mkF m 220 (La0_9 q0 q1 p2 p3 p4 p5 b5 b21606 b44094 b44109 b46187) [(.ref b46187)]) X46199 (fun t k => XS.aload X46199.here hx rfl (hb hby at_218) rfl rfl k) ?_
  refine ost (mkF m 221 (La0_9 q0 q1 p2 p3 p4 p5 b5 b21606 b44094 b44109 b46187) [(.int (1 : Int32)), (.ref b46187)]) X46199 (fun t k => XS.iconst X46199.here hx rfl (hb hby at_220) k) ?_
  refine ost (mkF m 222 (La0_9 q0 q1 p2 p3 p4 p5 b5 b21606 b44094 b44109 b46187) [(.int (((XT.ushrL ((Gs4422_34bbb q0 p2 p3 q1 p4 p5) ((vs2213_100b q0)).toNatClampNeg) (vs2213_100bb q0)) &&& (((1 : Int64) <<< ((vs2213_84b q0).toInt64 &&& 63)) - (1 : Int64))).toInt32))]) X46199 (fun t k => own_ldI X46199 hx hZ e46199 u47255 (by decide) (congrArg Value.int (updOff (by decide) (updOff (by decide) (updAt rfl)))) (g := (mkF m 221 (La0_9 q0 q1 p2 p3 p4 p5 b5 b21606 b44094 b44109 b46187) [(.int (1 : Int32)), (.ref b46187)])) rfl rfl (hb hby at_221) _ k) ?_
  refine ost (mkF m 224 (La0_9 q0 q1 p2 p3 p4 p5 b5 b21606 b44094 b44109 b46187) [(.ref b44094), (.int (((XT.ushrL ((Gs4422_34bbb q0 p2 p3 q1 p4 p5) ((vs2213_100b q0)).toNatClampNeg) (vs2213_100bb q0)) &&& (((1 : Int64) <<< ((vs2213_84b q0).toInt64 &&& 63)) - (1 : Int64))).toInt32))]) X46199 (fun t k => XS.aload X46199.here hx rfl (hb hby at_222) rfl rfl k) ?_
  refine ost (mkF m 225 (La0_9 q0 q1 p2 p3 p4 p5 b5 b21606 b44094 b44109 b46187) [(.int (1 : Int32)), (.ref b44094), (.int (((XT.ushrL ((Gs4422_34bbb q0 p2 p3 q1 p4 p5) ((vs2213_100b q0)).toNatClampNeg) (vs2213_100bb q0)) &&& (((1 : Int64) <<< ((vs2213_84b q0).toInt64 &&& 63)) - (1 : Int64))).toInt32))]) X46199 (fun t k => XS.iconst X46199.here hx rfl (hb hby at_224) k) ?_
  refine ost (mkF m 226 (La0_9 q0 q1 p2 p3 p4 p5 b5 b21606 b44094 b44109 b46187) [(.int (r21 p3 (v0_15 q0))), (.int (((XT.ushrL ((Gs4422_34bbb q0 p2 p3 q1 p4 p5) ((vs2213_100b q0)).toNatClampNeg) (vs2213_100bb q0)) &&& (((1 : Int64) <<< ((vs2213_84b q0).toInt64 &&& 63)) - (1 : Int64))).toInt32))]) X46199 (fun t k => own_ldI X46199 hx hZ e46199 A47257 (by decide) (congrArg Value.int (updOff (by decide) (updOff (by decide) (updAt rfl)))) (g := (mkF m 225 (La0_9 q0 q1 p2 p3 p4 p5 b5 b21606 b44094 b44109 b46187) [(.int (1 : Int32)), (.ref b44094), (.int (((XT.ushrL ((Gs4422_34bbb q0 p2 p3 q1 p4 p5) ((vs2213_100b q0)).toNatClampNeg) (vs2213_100bb q0)) &&& (((1 : Int64) <<< ((vs2213_84b q0).toInt64 &&& 63)) - (1 : Int64))).toInt32))])) rfl rfl (hb hby at_225) _ k) ?_
  refine ost (mkF m 229 (La0_9 q0 q1 p2 p3 p4 p5 b5 b21606 b44094 b44109 b46187) []) X46199 (fun t k => XS.icmpNo X46199.here hx rfl (hb hby at_226) rfl (teq (br0_226 q0 p2 p3 q1 p4 p5)).2 k) ?_
  refine ost (mkF m 231 (La0_9 q0 q1 p2 p3 p4 p5 b5 b21606 b44094 b44109 b46187) [(.ref b46187)]) X46199 (fun t k => XS.aload X46199.here hx rfl (hb hby at_229) rfl rfl k) ?_
  refine ost (mkF m 232 (La0_9 q0 q1 p2 p3 p4 p5 b5 b21606 b44094 b44109 b46187) [(.int (2 : Int32)), (.ref b46187)]) X46199 (fun t k => XS.iconst X46199.here hx rfl (hb hby at_231) k) ?_
  refine ost (mkF m 233 (La0_9 q0 q1 p2 p3 p4 p5 b5 b21606 b44094 b44109 b46187) [(.int (((XT.ushrL ((Gs4422_34bbb q0 p2 p3 q1 p4 p5) ((vs2213_100bbb q0 q1)).toNatClampNeg) (vs2213_100bbbb q0 q1)) &&& (((1 : Int64) <<< ((vs2213_84bb q1).toInt64 &&& 63)) - (1 : Int64))).toInt32))]) X46199 (fun t k => own_ldI X46199 hx hZ e46199 u47255 (by decide) (congrArg Value.int (updOff (by decide) (updAt rfl))) (g := (mkF m 232 (La0_9 q0 q1 p2 p3 p4 p5 b5 b21606 b44094 b44109 b46187) [(.int (2 : Int32)), (.ref b46187)])) rfl rfl (hb hby at_232) _ k) ?_
  refine ost (mkF m 235 (La0_9 q0 q1 p2 p3 p4 p5 b5 b21606 b44094 b44109 b46187) [(.ref b44094), (.int (((XT.ushrL ((Gs4422_34bbb q0 p2 p3 q1 p4 p5) ((vs2213_100bbb q0 q1)).toNatClampNeg) (vs2213_100bbbb q0 q1)) &&& (((1 : Int64) <<< ((vs2213_84bb q1).toInt64 &&& 63)) - (1 : Int64))).toInt32))]) X46199 (fun t k => XS.aload X46199.here hx rfl (hb hby at_233) rfl rfl k) ?_
  refine ost (mkF m 236 (La0_9 q0 q1 p2 p3 p4 p5 b5 b21606 b44094 b44109 b46187) [(.int (2 : Int32)), (.ref b44094), (.int (((XT.ushrL ((Gs4422_34bbb q0 p2 p3 q1 p4 p5) ((vs2213_100bbb q0 q1)).toNatClampNeg) (vs2213_100bbbb q0 q1)) &&& (((1 : Int64) <<< ((vs2213_84bb q1).toInt64 &&& 63)) - (1 : Int64))).toInt32))]) X46199 (fun t k => XS.iconst X46199.here hx rfl (hb hby at_235) k) ?_
  refine ost (mkF m 237 (La0_9 q0 q1 p2 p3 p4 p5 b5 b21606 b44094 b44109 b46187) [(.int (r21 p4 (v0_25 q1))), (.int (((XT.ushrL ((Gs4422_34bbb q0 p2 p3 q1 p4 p5) ((vs2213_100bbb q0 q1)).toNatClampNeg) (vs2213_100bbbb q0 q1)) &&& (((1 : Int64) <<< ((vs2213_84bb q1).toInt64 &&& 63)) - (1 : Int64))).toInt32))]) X46199 (fun t k => own_ldI X46199 hx hZ e46199 A47257 (by decide) (congrArg Value.int (updOff (by decide) (updAt rfl))) (g := (mkF m 236 (La0_9 q0 q1 p2 p3 p4 p5 b5 b21606 b44094 b44109 b46187) [(.int (2 : Int32)), (.ref b44094), (.int (((XT.ushrL ((Gs4422_34bbb q0 p2 p3 q1 p4 p5) ((vs2213_100bbb q0 q1)).toNatClampNeg) (vs2213_100bbbb q0 q1)) &&& (((1 : Int64) <<< ((vs2213_84bb q1).toInt64 &&& 63)) - (1 : Int64))).toInt32))])) rfl rfl (hb hby at_236) _ k) ?_
  refine ost (mkF m 240 (La0_9 q0 q1 p2 p3 p4 p5 b5 b21606 b44094 b44109 b46187) []) X46199 (fun t k => XS.icmpNo X46199.here hx rfl (hb hby at_237) rfl (teq (br0_237 q0 q1 p2 p3 p4 p5)).2 k) ?_
  refine ost (mkF m 242 (La0_9 q0 q1 p2 p3 p4 p5 b5 b21606 b44094 b44109 b46187) [(.ref b46187)]) X46199 (fun t k => XS.aload X46199.here hx rfl (hb hby at_240) rfl rfl k) ?_
  refine ost (mkF m 243 (La0_9 q0 q1 p2 p3 p4 p5 b5 b21606 b44094 b44109 b46187) [(.int (3 : Int32)), (.ref b46187)]) X46199 (fun t k => XS.iconst X46199.here hx rfl (hb hby at_242) k) ?_
  refine ost (mkF m 244 (La0_9 q0 q1 p2 p3 p4 p5 b5 b21606 b44094 b44109 b46187) [(.int (((XT.ushrL ((Gs4422_34bbb q0 p2 p3 q1 p4 p5) ((vs2213_100bbbbb q0 q1)).toNatClampNeg) (vs2213_100bbbbbb q0 q1)) &&& (((1 : Int64) <<< ((vs2213_84bbb q1).toInt64 &&& 63)) - (1 : Int64))).toInt32))]) X46199 (fun t k => own_ldI X46199 hx hZ e46199 u47255 (by decide) (congrArg Value.int (updAt rfl)) (g := (mkF m 243 (La0_9 q0 q1 p2 p3 p4 p5 b5 b21606 b44094 b44109 b46187) [(.int (3 : Int32)), (.ref b46187)])) rfl rfl (hb hby at_243) _ k) ?_
  refine ost (mkF m 246 (La0_9 q0 q1 p2 p3 p4 p5 b5 b21606 b44094 b44109 b46187) [(.ref b44094), (.int (((XT.ushrL ((Gs4422_34bbb q0 p2 p3 q1 p4 p5) ((vs2213_100bbbbb q0 q1)).toNatClampNeg) (vs2213_100bbbbbb q0 q1)) &&& (((1 : Int64) <<< ((vs2213_84bbb q1).toInt64 &&& 63)) - (1 : Int64))).toInt32))]) X46199 (fun t k => XS.aload X46199.here hx rfl (hb hby at_244) rfl rfl k) ?_
  refine ost (mkF m 247 (La0_9 q0 q1 p2 p3 p4 p5 b5 b21606 b44094 b44109 b46187) [(.int (3 : Int32)), (.ref b44094), (.int (((XT.ushrL ((Gs4422_34bbb q0 p2 p3 q1 p4 p5) ((vs2213_100bbbbb q0 q1)).toNatClampNeg) (vs2213_100bbbbbb q0 q1)) &&& (((1 : Int64) <<< ((vs2213_84bbb q1).toInt64 &&& 63)) - (1 : Int64))).toInt32))]) X46199 (fun t k => XS.iconst X46199.here hx rfl (hb hby at_246) k) ?_
  refine ost (mkF m 248 (La0_9 q0 q1 p2 p3 p4 p5 b5 b21606 b44094 b44109 b46187) [(.int (r21 p5 (v0_32 q1))), (.int (((XT.ushrL ((Gs4422_34bbb q0 p2 p3 q1 p4 p5) ((vs2213_100bbbbb q0 q1)).toNatClampNeg) (vs2213_100bbbbbb q0 q1)) &&& (((1 : Int64) <<< ((vs2213_84bbb q1).toInt64 &&& 63)) - (1 : Int64))).toInt32))]) X46199 (fun t k => own_ldI X46199 hx hZ e46199 A47257 (by decide) (congrArg Value.int (updAt rfl)) (g := (mkF m 247 (La0_9 q0 q1 p2 p3 p4 p5 b5 b21606 b44094 b44109 b46187) [(.int (3 : Int32)), (.ref b44094), (.int (((XT.ushrL ((Gs4422_34bbb q0 p2 p3 q1 p4 p5) ((vs2213_100bbbbb q0 q1)).toNatClampNeg) (vs2213_100bbbbbb q0 q1)) &&& (((1 : Int64) <<< ((vs2213_84bbb q1).toInt64 &&& 63)) - (1 : Int64))).toInt32))])) rfl rfl (hb hby at_247) _ k) ?_
  refine ost (mkF m 251 (La0_9 q0 q1 p2 p3 p4 p5 b5 b21606 b44094 b44109 b46187) []) X46199 (fun t k => XS.icmpNo X46199.here hx rfl (hb hby at_248) rfl (teq (br0_248 q0 q1 p2 p3 p4 p5)).2 k) ?_
  refine ost (mkF m 252 (La0_9 q0 q1 p2 p3 p4 p5 b5 b21606 b44094 b44109 b46187) [(.int (1 : Int32))]) X46199 (fun t k => XS.iconst X46199.here hx rfl (hb hby at_251) k) ?_
  refine ost (mkF m 256 (La0_9 q0 q1 p2 p3 p4 p5 b5 b21606 b44094 b44109 b46187) [(.int (1 : Int32))]) X46199 (fun t k => XS.goto X46199.here hx rfl (pc0 := 252) (pc' := 256) rfl (hb hby at_252) (by decide) (by decide) k) ?_
  refine ost (mkF m 258 (La0_10 q0 q1 p2 p3 p4 p5 b5 b21606 b44094 b44109 b46187) []) X46199 (fun t k => XS.istore X46199.here hx rfl (hb hby at_256) rfl (l' := (La0_10 q0 q1 p2 p3 p4 p5 b5 b21606 b44094 b44109 b46187)) rfl k) ?_
  refine ost (mkF m 259 (La0_10 q0 q1 p2 p3 p4 p5 b5 b21606 b44094 b44109 b46187) [(.int (2 : Int32))]) X46199 (fun t k => XS.iconst X46199.here hx rfl (hb hby at_258) k) ?_
  obtain ⟨T47258, h47258, b47258, X47258, e47258, y47258, K47258, A47258, st47258⟩ := own_new X46199 hx hZ (hw _ (wm 106 rfl)) e46199 (g := (mkF m 259 (La0_10 q0 q1 p2 p3 p4 p5 b5 b21606 b44094 b44109 b46187) [(.int (2 : Int32))])) rfl (hb hby at_259) rfl (by decide) (cap := 2) (by decide) (by decide) (by decide) (by decide)
  have B47258 : Ary Z h47258 b47258 .long 2 (fun i => .long ((fun _ => (0 : Int64)) i)) := A47258
  have E47259 := (Exa.keep (Exa.keep E46188 K46187) K46199)
  have ne_b5_b47258 : b5 ≠ b47258 := Exa.neS E47259 y47258
  have E47260 := (Exa.keep (Exa.keep E46189 K46187) K46199)
  have ne_b3062_b47258 : b3062 ≠ b47258 := Exa.neS E47260 y47258
  have A47261 := ((A46190.keep K46187 nin0).keep K46199 (ninS ne_b9140_b46187 nin0))
  have ne_b9140_b47258 : b9140 ≠ b47258 := AryR.neS A47261 y47258
  have E47262 := (Exa.keep (Exa.keep E46191 K46187) K46199)
  have ne_b9240_b47258 : b9240 ≠ b47258 := Exa.neS E47262 y47258
  have E47263 := (Exa.keep (Exa.keep E46192 K46187) K46199)
  have ne_b13361_b47258 : b13361 ≠ b47258 := Exa.neS E47263 y47258
  have E47264 := (Exa.keep (Exa.keep E46193 K46187) K46199)
  have ne_b17483_b47258 : b17483 ≠ b47258 := Exa.neS E47264 y47258
  have E47265 := (Exa.keep E47256 K46199)
  have ne_b21606_b47258 : b21606 ≠ b47258 := Exa.neS E47265 y47258
  have A47266 := (A47250.keep K46199 (ninS ne_b23626_b46187 nin0))
  have ne_b23626_b47258 : b23626 ≠ b47258 := Ary.neS A47266 y47258
  have A47267 := (A47251.keep K46199 (ninS ne_b23641_b46187 nin0))
  have ne_b23641_b47258 : b23641 ≠ b47258 := Ary.neS A47267 y47258
  have A47268 := (A47252.keep K46199 (ninS ne_b23662_b46187 nin0))
  have ne_b23662_b47258 : b23662 ≠ b47258 := Ary.neS A47268 y47258
  have ne_b44094_b47258 : b44094 ≠ b47258 := Ary.neS A47257 y47258
  have A47269 := (A47253.keep K46199 (ninS ne_b44109_b46187 nin0))
  have ne_b44109_b47258 : b44109 ≠ b47258 := Ary.neS A47269 y47258
  have ne_b46187_b47258 : b46187 ≠ b47258 := Ary.neS u47255 y47258
  have g_b47258 : n0 ≤ b47258 := by rw [y47258]; exact Z46199
  have Z47258 := Nat.le_trans Z46199 K47258.1
  refine ost (mkF m 261 (La0_10 q0 q1 p2 p3 p4 p5 b5 b21606 b44094 b44109 b46187) [(.ref b47258)]) X47258 (fun t k => st47258 _ k) ?_
  refine ost (mkF m 263 (La0_11 q0 q1 p2 p3 p4 p5 b5 b21606 b44094 b44109 b46187 b47258) []) X47258 (fun t k => XS.astore X47258.here hx rfl (hb hby at_261) rfl rfl (l' := (La0_11 q0 q1 p2 p3 p4 p5 b5 b21606 b44094 b44109 b46187 b47258)) rfl k) ?_
  refine ost (mkF m 265 (La0_11 q0 q1 p2 p3 p4 p5 b5 b21606 b44094 b44109 b46187 b47258) [(.ref b47258)]) X47258 (fun t k => XS.aload X47258.here hx rfl (hb hby at_263) rfl rfl k) ?_
  refine ost (mkF m 266 (La0_11 q0 q1 p2 p3 p4 p5 b5 b21606 b44094 b44109 b46187 b47258) [(.int (0 : Int32)), (.ref b47258)]) X47258 (fun t k => XS.iconst X47258.here hx rfl (hb hby at_265) k) ?_
  refine ost (mkF m 267 (La0_11 q0 q1 p2 p3 p4 p5 b5 b21606 b44094 b44109 b46187 b47258) [(.long q0), (.int (0 : Int32)), (.ref b47258)]) X47258 (fun t k => XT.lloadN X47258.here hx rfl (hb hby at_266) rfl k) ?_
  refine ost (mkF m 269 (La0_11 q0 q1 p2 p3 p4 p5 b5 b21606 b44094 b44109 b46187 b47258) [(.int p2), (.long q0), (.int (0 : Int32)), (.ref b47258)]) X47258 (fun t k => XS.iload X47258.here hx rfl (hb hby at_267) rfl k) ?_
  refine ost (mkF m 270 (La0_11 q0 q1 p2 p3 p4 p5 b5 b21606 b44094 b44109 b46187 b47258) [(.long (p2.toInt64)), (.long q0), (.int (0 : Int32)), (.ref b47258)]) X47258 (fun t k => XT.i2l X47258.here hx rfl (hb hby at_269) rfl k) ?_
  refine ost (mkF m 272 (La0_11 q0 q1 p2 p3 p4 p5 b5 b21606 b44094 b44109 b46187 b47258) [(.int (32 : Int32)), (.long (p2.toInt64)), (.long q0), (.int (0 : Int32)), (.ref b47258)]) X47258 (fun t k => XS.bipush X47258.here hx rfl (hb hby at_270) k) ?_
  refine ost (mkF m 273 (La0_11 q0 q1 p2 p3 p4 p5 b5 b21606 b44094 b44109 b46187 b47258) [(.long ((p2.toInt64) <<< ((32 : Int32).toInt64 &&& 63))), (.long q0), (.int (0 : Int32)), (.ref b47258)]) X47258 (fun t k => XT.lshl X47258.here hx rfl (hb hby at_272) rfl k) ?_
  refine ost (mkF m 274 (La0_11 q0 q1 p2 p3 p4 p5 b5 b21606 b44094 b44109 b46187 b47258) [(.long (q0 ^^^ ((p2.toInt64) <<< ((32 : Int32).toInt64 &&& 63)))), (.int (0 : Int32)), (.ref b47258)]) X47258 (fun t k => XT.lxor X47258.here hx rfl (hb hby at_273) rfl k) ?_
  refine ost (mkF m 276 (La0_11 q0 q1 p2 p3 p4 p5 b5 b21606 b44094 b44109 b46187 b47258) [(.int p3), (.long (q0 ^^^ ((p2.toInt64) <<< ((32 : Int32).toInt64 &&& 63)))), (.int (0 : Int32)), (.ref b47258)]) X47258 (fun t k => XS.iload X47258.here hx rfl (hb hby at_274) rfl k) ?_
  refine ost (mkF m 277 (La0_11 q0 q1 p2 p3 p4 p5 b5 b21606 b44094 b44109 b46187 b47258) [(.long (p3.toInt64)), (.long (q0 ^^^ ((p2.toInt64) <<< ((32 : Int32).toInt64 &&& 63)))), (.int (0 : Int32)), (.ref b47258)]) X47258 (fun t k => XT.i2l X47258.here hx rfl (hb hby at_276) rfl k) ?_
  refine ost (mkF m 278 (La0_11 q0 q1 p2 p3 p4 p5 b5 b21606 b44094 b44109 b46187 b47258) [(.long ((q0 ^^^ ((p2.toInt64) <<< ((32 : Int32).toInt64 &&& 63))) ^^^ (p3.toInt64))), (.int (0 : Int32)), (.ref b47258)]) X47258 (fun t k => XT.lxor X47258.here hx rfl (hb hby at_277) rfl k) ?_
  obtain ⟨T47270, h47270, L47270, X47270, e47270, N47270, K47270, A47270, st47270⟩ := own_stJ X47258 hx hZ e47258 N46199 (G := (fun _ => (0 : Int64))) B47258 g_b47258 (j := (0 : Int32)) (x := ((q0 ^^^ ((p2.toInt64) <<< ((32 : Int32).toInt64 &&& 63))) ^^^ (p3.toInt64))) (by decide) (g := (mkF m 278 (La0_11 q0 q1 p2 p3 p4 p5 b5 b21606 b44094 b44109 b46187 b47258) [(.long ((q0 ^^^ ((p2.toInt64) <<< ((32 : Int32).toInt64 &&& 63))) ^^^ (p3.toInt64))), (.int (0 : Int32)), (.ref b47258)])) rfl rfl (hb hby at_278)
  have B47270 : Ary Z h47270 b47258 .long 2 (fun i => .long ((G0_278 q0 p2 p3) i)) := A47270
  have Z47270 := Nat.le_trans Z47258 K47270.1
  refine ost (mkF m 279 (La0_11 q0 q1 p2 p3 p4 p5 b5 b21606 b44094 b44109 b46187 b47258) []) X47270 (fun t k => st47270 _ k) ?_
  refine ost (mkF m 281 (La0_11 q0 q1 p2 p3 p4 p5 b5 b21606 b44094 b44109 b46187 b47258) [(.ref b47258)]) X47270 (fun t k => XS.aload X47270.here hx rfl (hb hby at_279) rfl rfl k) ?_
  refine ost (mkF m 282 (La0_11 q0 q1 p2 p3 p4 p5 b5 b21606 b44094 b44109 b46187 b47258) [(.int (1 : Int32)), (.ref b47258)]) X47270 (fun t k => XS.iconst X47270.here hx rfl (hb hby at_281) k) ?_
  refine ost (mkF m 283 (La0_11 q0 q1 p2 p3 p4 p5 b5 b21606 b44094 b44109 b46187 b47258) [(.long q1), (.int (1 : Int32)), (.ref b47258)]) X47270 (fun t k => XT.lloadN X47270.here hx rfl (hb hby at_282) rfl k) ?_
  refine ost (mkF m 285 (La0_11 q0 q1 p2 p3 p4 p5 b5 b21606 b44094 b44109 b46187 b47258) [(.int p4), (.long q1), (.int (1 : Int32)), (.ref b47258)]) X47270 (fun t k => XS.iload X47270.here hx rfl (hb hby at_283) rfl k) ?_
  refine ost (mkF m 286 (La0_11 q0 q1 p2 p3 p4 p5 b5 b21606 b44094 b44109 b46187 b47258) [(.long (p4.toInt64)), (.long q1), (.int (1 : Int32)), (.ref b47258)]) X47270 (fun t k => XT.i2l X47270.here hx rfl (hb hby at_285) rfl k) ?_
  refine ost (mkF m 288 (La0_11 q0 q1 p2 p3 p4 p5 b5 b21606 b44094 b44109 b46187 b47258) [(.int (32 : Int32)), (.long (p4.toInt64)), (.long q1), (.int (1 : Int32)), (.ref b47258)]) X47270 (fun t k => XS.bipush X47270.here hx rfl (hb hby at_286) k) ?_
  refine ost (mkF m 289 (La0_11 q0 q1 p2 p3 p4 p5 b5 b21606 b44094 b44109 b46187 b47258) [(.long ((p4.toInt64) <<< ((32 : Int32).toInt64 &&& 63))), (.long q1), (.int (1 : Int32)), (.ref b47258)]) X47270 (fun t k => XT.lshl X47270.here hx rfl (hb hby at_288) rfl k) ?_
  refine ost (mkF m 290 (La0_11 q0 q1 p2 p3 p4 p5 b5 b21606 b44094 b44109 b46187 b47258) [(.long (q1 ^^^ ((p4.toInt64) <<< ((32 : Int32).toInt64 &&& 63)))), (.int (1 : Int32)), (.ref b47258)]) X47270 (fun t k => XT.lxor X47270.here hx rfl (hb hby at_289) rfl k) ?_
  refine ost (mkF m 292 (La0_11 q0 q1 p2 p3 p4 p5 b5 b21606 b44094 b44109 b46187 b47258) [(.int p5), (.long (q1 ^^^ ((p4.toInt64) <<< ((32 : Int32).toInt64 &&& 63)))), (.int (1 : Int32)), (.ref b47258)]) X47270 (fun t k => XS.iload X47270.here hx rfl (hb hby at_290) rfl k) ?_
  refine ost (mkF m 293 (La0_11 q0 q1 p2 p3 p4 p5 b5 b21606 b44094 b44109 b46187 b47258) [(.long (p5.toInt64)), (.long (q1 ^^^ ((p4.toInt64) <<< ((32 : Int32).toInt64 &&& 63)))), (.int (1 : Int32)), (.ref b47258)]) X47270 (fun t k => XT.i2l X47270.here hx rfl (hb hby at_292) rfl k) ?_
  refine ost (mkF m 294 (La0_11 q0 q1 p2 p3 p4 p5 b5 b21606 b44094 b44109 b46187 b47258) [(.long ((q1 ^^^ ((p4.toInt64) <<< ((32 : Int32).toInt64 &&& 63))) ^^^ (p5.toInt64))), (.int (1 : Int32)), (.ref b47258)]) X47270 (fun t k => XT.lxor X47270.here hx rfl (hb hby at_293) rfl k) ?_
  obtain ⟨T47271, h47271, L47271, X47271, e47271, N47271, K47271, A47271, st47271⟩ := own_stJ X47270 hx hZ e47270 N47270 (G := (G0_278 q0 p2 p3)) B47270 g_b47258 (j := (1 : Int32)) (x := ((q1 ^^^ ((p4.toInt64) <<< ((32 : Int32).toInt64 &&& 63))) ^^^ (p5.toInt64))) (by decide) (g := (mkF m 294 (La0_11 q0 q1 p2 p3 p4 p5 b5 b21606 b44094 b44109 b46187 b47258) [(.long ((q1 ^^^ ((p4.toInt64) <<< ((32 : Int32).toInt64 &&& 63))) ^^^ (p5.toInt64))), (.int (1 : Int32)), (.ref b47258)])) rfl rfl (hb hby at_294)
  have B47271 : Ary Z h47271 b47258 .long 2 (fun i => .long ((G0_294 q0 p2 p3 q1 p4 p5) i)) := A47271
  have Z47271 := Nat.le_trans Z47270 K47271.1
  refine ost (mkF m 295 (La0_11 q0 q1 p2 p3 p4 p5 b5 b21606 b44094 b44109 b46187 b47258) []) X47271 (fun t k => st47271 _ k) ?_
  refine ost (mkF m 296 (La0_11 q0 q1 p2 p3 p4 p5 b5 b21606 b44094 b44109 b46187 b47258) [(.int (4 : Int32))]) X47271 (fun t k => XS.iconst X47271.here hx rfl (hb hby at_295) k) ?_
  obtain ⟨T47272, h47272, b47272, X47272, e47272, y47272, K47272, A47272, st47272⟩ := own_new X47271 hx hZ (hw _ (wm 101 rfl)) e47271 (g := (mkF m 296 (La0_11 q0 q1 p2 p3 p4 p5 b5 b21606 b44094 b44109 b46187 b47258) [(.int (4 : Int32))])) rfl (hb hby at_296) rfl (by decide) (cap := 4) (by decide) (by decide) (by decide) (by decide)
  have B47272 : Ary Z h47272 b47272 .int 4 (fun i => .int ((fun _ => (0 : Int32)) i)) := A47272
  have E47273 := (Exa.keep (Exa.keep (Exa.keep E47259 K47258) K47270) K47271)
  have ne_b5_b47272 : b5 ≠ b47272 := Exa.neS E47273 y47272
  have E47274 := (Exa.keep (Exa.keep (Exa.keep E47260 K47258) K47270) K47271)
  have ne_b3062_b47272 : b3062 ≠ b47272 := Exa.neS E47274 y47272
  have A47275 := (((A47261.keep K47258 nin0).keep K47270 (ninS ne_b9140_b47258 nin0)).keep K47271 (ninS ne_b9140_b47258 nin0))
  have ne_b9140_b47272 : b9140 ≠ b47272 := AryR.neS A47275 y47272
  have E47276 := (Exa.keep (Exa.keep (Exa.keep E47262 K47258) K47270) K47271)
  have ne_b9240_b47272 : b9240 ≠ b47272 := Exa.neS E47276 y47272
  have E47277 := (Exa.keep (Exa.keep (Exa.keep E47263 K47258) K47270) K47271)
  have ne_b13361_b47272 : b13361 ≠ b47272 := Exa.neS E47277 y47272
  have E47278 := (Exa.keep (Exa.keep (Exa.keep E47264 K47258) K47270) K47271)
  have ne_b17483_b47272 : b17483 ≠ b47272 := Exa.neS E47278 y47272
  have E47279 := (Exa.keep (Exa.keep (Exa.keep E47265 K47258) K47270) K47271)
  have ne_b21606_b47272 : b21606 ≠ b47272 := Exa.neS E47279 y47272
  have A47280 := (((A47266.keep K47258 nin0).keep K47270 (ninS ne_b23626_b47258 nin0)).keep K47271 (ninS ne_b23626_b47258 nin0))
  have ne_b23626_b47272 : b23626 ≠ b47272 := Ary.neS A47280 y47272
  have A47281 := (((A47267.keep K47258 nin0).keep K47270 (ninS ne_b23641_b47258 nin0)).keep K47271 (ninS ne_b23641_b47258 nin0))
  have ne_b23641_b47272 : b23641 ≠ b47272 := Ary.neS A47281 y47272
  have A47282 := (((A47268.keep K47258 nin0).keep K47270 (ninS ne_b23662_b47258 nin0)).keep K47271 (ninS ne_b23662_b47258 nin0))
  have ne_b23662_b47272 : b23662 ≠ b47272 := Ary.neS A47282 y47272
  have A47283 := (((A47257.keep K47258 nin0).keep K47270 (ninS ne_b44094_b47258 nin0)).keep K47271 (ninS ne_b44094_b47258 nin0))
  have ne_b44094_b47272 : b44094 ≠ b47272 := Ary.neS A47283 y47272
  have A47284 := (((A47269.keep K47258 nin0).keep K47270 (ninS ne_b44109_b47258 nin0)).keep K47271 (ninS ne_b44109_b47258 nin0))
  have ne_b44109_b47272 : b44109 ≠ b47272 := Ary.neS A47284 y47272
  have A47285 := (((u47255.keep K47258 nin0).keep K47270 (ninS ne_b46187_b47258 nin0)).keep K47271 (ninS ne_b46187_b47258 nin0))
  have ne_b46187_b47272 : b46187 ≠ b47272 := Ary.neS A47285 y47272
  have ne_b47258_b47272 : b47258 ≠ b47272 := Ary.neS B47271 y47272
  have g_b47272 : n0 ≤ b47272 := by rw [y47272]; exact Z47271
  have Z47272 := Nat.le_trans Z47271 K47272.1
  refine ost (mkF m 298 (La0_11 q0 q1 p2 p3 p4 p5 b5 b21606 b44094 b44109 b46187 b47258) [(.ref b47272)]) X47272 (fun t k => st47272 _ k) ?_
  refine ost (mkF m 300 (La0_12 q0 q1 p2 p3 p4 p5 b5 b21606 b44094 b44109 b46187 b47258 b47272) []) X47272 (fun t k => XS.astore X47272.here hx rfl (hb hby at_298) rfl rfl (l' := (La0_12 q0 q1 p2 p3 p4 p5 b5 b21606 b44094 b44109 b46187 b47258 b47272)) rfl k) ?_
  refine ost (mkF m 302 (La0_12 q0 q1 p2 p3 p4 p5 b5 b21606 b44094 b44109 b46187 b47258 b47272) [(.ref b21606)]) X47272 (fun t k => XS.aload X47272.here hx rfl (hb hby at_300) rfl rfl k) ?_
  refine ost (mkF m 304 (La0_12 q0 q1 p2 p3 p4 p5 b5 b21606 b44094 b44109 b46187 b47258 b47272) [(.ref b47258), (.ref b21606)]) X47272 (fun t k => XS.aload X47272.here hx rfl (hb hby at_302) rfl rfl k) ?_
  refine ost (mkF m 306 (La0_12 q0 q1 p2 p3 p4 p5 b5 b21606 b44094 b44109 b46187 b47258 b47272) [(.ref b47272), (.ref b47258), (.ref b21606)]) X47272 (fun t k => XS.aload X47272.here hx rfl (hb hby at_304) rfl rfl k) ?_
  have F48334 := (((((F47247.keep K46199 (ninS ne_b21606_b46187 nin0)).keep K47258 nin0).keep K47270 (ninS ne_b21606_b47258 nin0)).keep K47271 (ninS ne_b21606_b47258 nin0)).keep K47272 nin0)
  have F48335 := (((((F47248.keep K46199 (ninS ne_b21606_b46187 nin0)).keep K47258 nin0).keep K47270 (ninS ne_b21606_b47258 nin0)).keep K47271 (ninS ne_b21606_b47258 nin0)).keep K47272 nin0)
  have F48336 := (((((F47249.keep K46199 (ninS ne_b21606_b46187 nin0)).keep K47258 nin0).keep K47270 (ninS ne_b21606_b47258 nin0)).keep K47271 (ninS ne_b21606_b47258 nin0)).keep K47272 nin0)
  have A48337 := (A47280.keep K47272 nin0)
  have A48338 := (A47281.keep K47272 nin0)
  have A48339 := (A47282.keep K47272 nin0)
  have A48340 := (B47271.keep K47272 nin0)
  have E48343 := (Exa.keep E47279 K47272)
  obtain ⟨_, T47286, L47286, X47286, ⟨rfl, N47286q, u48341, u48342⟩, st47286⟩ := own_callV X47272 hx hZ (y := Y24) (W := 0) (a := b21606) (argsL := [(.ref b47258), (.ref b47272)]) (rest := []) hown (hw _ (wm 156 rfl)) (hw _ (wm 157 rfl)) (hw _ (wm 159 rfl)) (hw _ (wm 158 rfl)) (hw _ (wm 87 rfl)) (hw _ (wm 160 rfl)) (by decide) E48343 (rm24s47 l Z a0 hw [] q0 q1 p2 p3 p4 p5 b21606 b23626 b23641 b23662 b47258 b47272 h47272 n0 Z47272 F48334 F48335 F48336 A48337 A48338 A48339 A48340 B47272 g_b47272 ne_b21606_b47272 ne_b23626_b47272 ne_b23641_b47272 ne_b23662_b47272 ne_b47258_b47272) (by decide) (by decide) (by decide) (by decide) e47272 (g := (mkF m 306 (La0_12 q0 q1 p2 p3 p4 p5 b5 b21606 b44094 b44109 b46187 b47258 b47272) [(.ref b47272), (.ref b47258), (.ref b21606)])) rfl (by rw [hml]; rfl) pd_14 rfl rfl (by show 2 * 0 + _ ≤ _; exact Nat.le_of_eq rfl) (hb hby at_306)
  have N47286 := Fr.app N47271 N47286q
  obtain ⟨h47286, e47286⟩ : ∃ z, T47286.heap = z := ⟨_, rfl⟩
  rw [e47286] at u48341 u48342
  have K47286 := u48341
  have Z47286 := Nat.le_trans Z47272 K47286.1
  refine ost (mkF m 309 (La0_12 q0 q1 p2 p3 p4 p5 b5 b21606 b44094 b44109 b46187 b47258 b47272) []) X47286 (fun t k => st47286 _ k) ?_
  refine ost (mkF m 311 (La0_12 q0 q1 p2 p3 p4 p5 b5 b21606 b44094 b44109 b46187 b47258 b47272) [(.ref b47272)]) X47286 (fun t k => XS.aload X47286.here hx rfl (hb hby at_309) rfl rfl k) ?_
  refine ost (mkF m 312 (La0_12 q0 q1 p2 p3 p4 p5 b5 b21606 b44094 b44109 b46187 b47258 b47272) [(.int (0 : Int32)), (.ref b47272)]) X47286 (fun t k => XS.iconst X47286.here hx rfl (hb hby at_311) k) ?_
  refine ost (mkF m 313 (La0_12 q0 q1 p2 p3 p4 p5 b5 b21606 b44094 b44109 b46187 b47258 b47272) [(.int (((XT.ushrL ((G0_294 q0 p2 p3 q1 p4 p5) ((vs2213_100 q0)).toNatClampNeg) (0 : Int32)) &&& (((1 : Int64) <<< ((vs2213_84 q0).toInt64 &&& 63)) - (1 : Int64))).toInt32))]) X47286 (fun t k => own_ldI X47286 hx hZ e47286 u48342 (by decide) (congrArg Value.int (updOff (by decide) (updOff (by decide) (updOff (by decide) (updAt rfl))))) (g := (mkF m 312 (La0_12 q0 q1 p2 p3 p4 p5 b5 b21606 b44094 b44109 b46187 b47258 b47272) [(.int (0 : Int32)), (.ref b47272)])) rfl rfl (hb hby at_312) _ k) ?_
  refine ost (mkF m 315 (La0_12 q0 q1 p2 p3 p4 p5 b5 b21606 b44094 b44109 b46187 b47258 b47272) [(.int (v0_8 q0)), (.int (((XT.ushrL ((G0_294 q0 p2 p3 q1 p4 p5) ((vs2213_100 q0)).toNatClampNeg) (0 : Int32)) &&& (((1 : Int64) <<< ((vs2213_84 q0).toInt64 &&& 63)) - (1 : Int64))).toInt32))]) X47286 (fun t k => XS.iload X47286.here hx rfl (hb hby at_313) rfl k) ?_
  obtain ⟨_, T48344, L48344, X48344, ⟨rfl, f48344, N48344q⟩, st48344⟩ := own_callS X47286 hx hZ (y := Y25) (W := 0) (argsL := [(.int (((XT.ushrL ((G0_294 q0 p2 p3 q1 p4 p5) ((vs2213_100 q0)).toNatClampNeg) (0 : Int32)) &&& (((1 : Int64) <<< ((vs2213_84 q0).toInt64 &&& 63)) - (1 : Int64))).toInt32)), (.int (v0_8 q0))]) (rest := []) hown (hw _ (wm 161 rfl)) (hw _ (wm 162 rfl)) (hw _ (wm 2 rfl)) (hw _ (wm 163 rfl)) (by decide) (rm25 l Z a0 hw [] (((XT.ushrL ((G0_294 q0 p2 p3 q1 p4 p5) ((vs2213_100 q0)).toNatClampNeg) (0 : Int32)) &&& (((1 : Int64) <<< ((vs2213_84 q0).toInt64 &&& 63)) - (1 : Int64))).toInt32) (v0_8 q0) h47286 n0 Z47286) (by decide) (by decide) (by decide) (by decide) e47286 (g := (mkF m 315 (La0_12 q0 q1 p2 p3 p4 p5 b5 b21606 b44094 b44109 b46187 b47258 b47272) [(.int (v0_8 q0)), (.int (((XT.ushrL ((G0_294 q0 p2 p3 q1 p4 p5) ((vs2213_100 q0)).toNatClampNeg) (0 : Int32)) &&& (((1 : Int64) <<< ((vs2213_84 q0).toInt64 &&& 63)) - (1 : Int64))).toInt32))])) rfl (by rw [hml]; rfl) pd_15 rfl rfl (by show 2 * 0 + _ ≤ _; exact Nat.le_of_eq rfl) (hb hby at_315)
  have N48344 := Fr.app N47286 N48344q
  refine ost (mkF m 318 (La0_12 q0 q1 p2 p3 p4 p5 b5 b21606 b44094 b44109 b46187 b47258 b47272) [(.int (r25 (((XT.ushrL ((G0_294 q0 p2 p3 q1 p4 p5) ((vs2213_100 q0)).toNatClampNeg) (0 : Int32)) &&& (((1 : Int64) <<< ((vs2213_84 q0).toInt64 &&& 63)) - (1 : Int64))).toInt32) (v0_8 q0)))]) X48344 (fun t k => st48344 _ k) ?_
  refine ost (mkF m 321 (La0_12 q0 q1 p2 p3 p4 p5 b5 b21606 b44094 b44109 b46187 b47258 b47272) []) X48344 (fun t k => XS.ifNo X48344.here hx rfl (hb hby at_318) rfl ((if0 _ _).trans (feq (br0_318 q0 p2 p3 q1 p4 p5)).1) k) ?_
  refine ost (mkF m 323 (La0_12 q0 q1 p2 p3 p4 p5 b5 b21606 b44094 b44109 b46187 b47258 b47272) [(.ref b47272)]) X48344 (fun t k => XS.aload X48344.here hx rfl (hb hby at_321) rfl rfl k) ?_
  refine ost (mkF m 324 (La0_12 q0 q1 p2 p3 p4 p5 b5 b21606 b44094 b44109 b46187 b47258 b47272) [(.int (1 : Int32)), (.ref b47272)]) X48344 (fun t k => XS.iconst X48344.here hx rfl (hb hby at_323) k) ?_
  refine ost (mkF m 325 (La0_12 q0 q1 p2 p3 p4 p5 b5 b21606 b44094 b44109 b46187 b47258 b47272) [(.int (((XT.ushrL ((G0_294 q0 p2 p3 q1 p4 p5) ((vs2213_100b q0)).toNatClampNeg) (vs2213_100bb q0)) &&& (((1 : Int64) <<< ((vs2213_84b q0).toInt64 &&& 63)) - (1 : Int64))).toInt32))]) X48344 (fun t k => own_ldI X48344 hx hZ f48344 u48342 (by decide) (congrArg Value.int (updOff (by decide) (updOff (by decide) (updAt rfl)))) (g := (mkF m 324 (La0_12 q0 q1 p2 p3 p4 p5 b5 b21606 b44094 b44109 b46187 b47258 b47272) [(.int (1 : Int32)), (.ref b47272)])) rfl rfl (hb hby at_324) _ k) ?_
  refine ost (mkF m 327 (La0_12 q0 q1 p2 p3 p4 p5 b5 b21606 b44094 b44109 b46187 b47258 b47272) [(.int (v0_15 q0)), (.int (((XT.ushrL ((G0_294 q0 p2 p3 q1 p4 p5) ((vs2213_100b q0)).toNatClampNeg) (vs2213_100bb q0)) &&& (((1 : Int64) <<< ((vs2213_84b q0).toInt64 &&& 63)) - (1 : Int64))).toInt32))]) X48344 (fun t k => XS.iload X48344.here hx rfl (hb hby at_325) rfl k) ?_
  obtain ⟨_, T48345, L48345, X48345, ⟨rfl, f48345, N48345q⟩, st48345⟩ := own_callS X48344 hx hZ (y := Y25) (W := 0) (argsL := [(.int (((XT.ushrL ((G0_294 q0 p2 p3 q1 p4 p5) ((vs2213_100b q0)).toNatClampNeg) (vs2213_100bb q0)) &&& (((1 : Int64) <<< ((vs2213_84b q0).toInt64 &&& 63)) - (1 : Int64))).toInt32)), (.int (v0_15 q0))]) (rest := []) hown (hw _ (wm 161 rfl)) (hw _ (wm 162 rfl)) (hw _ (wm 2 rfl)) (hw _ (wm 163 rfl)) (by decide) (rm25 l Z a0 hw [] (((XT.ushrL ((G0_294 q0 p2 p3 q1 p4 p5) ((vs2213_100b q0)).toNatClampNeg) (vs2213_100bb q0)) &&& (((1 : Int64) <<< ((vs2213_84b q0).toInt64 &&& 63)) - (1 : Int64))).toInt32) (v0_15 q0) h47286 n0 Z47286) (by decide) (by decide) (by decide) (by decide) f48344 (g := (mkF m 327 (La0_12 q0 q1 p2 p3 p4 p5 b5 b21606 b44094 b44109 b46187 b47258 b47272) [(.int (v0_15 q0)), (.int (((XT.ushrL ((G0_294 q0 p2 p3 q1 p4 p5) ((vs2213_100b q0)).toNatClampNeg) (vs2213_100bb q0)) &&& (((1 : Int64) <<< ((vs2213_84b q0).toInt64 &&& 63)) - (1 : Int64))).toInt32))])) rfl (by rw [hml]; rfl) pd_15 rfl rfl (by show 2 * 0 + _ ≤ _; exact Nat.le_of_eq rfl) (hb hby at_327)
  have N48345 := Fr.app N48344 N48345q
  refine ost (mkF m 330 (La0_12 q0 q1 p2 p3 p4 p5 b5 b21606 b44094 b44109 b46187 b47258 b47272) [(.int (r25 (((XT.ushrL ((G0_294 q0 p2 p3 q1 p4 p5) ((vs2213_100b q0)).toNatClampNeg) (vs2213_100bb q0)) &&& (((1 : Int64) <<< ((vs2213_84b q0).toInt64 &&& 63)) - (1 : Int64))).toInt32) (v0_15 q0)))]) X48345 (fun t k => st48345 _ k) ?_
  refine ost (mkF m 333 (La0_12 q0 q1 p2 p3 p4 p5 b5 b21606 b44094 b44109 b46187 b47258 b47272) []) X48345 (fun t k => XS.ifNo X48345.here hx rfl (hb hby at_330) rfl ((if0 _ _).trans (feq (br0_330 q0 p2 p3 q1 p4 p5)).1) k) ?_
  refine ost (mkF m 335 (La0_12 q0 q1 p2 p3 p4 p5 b5 b21606 b44094 b44109 b46187 b47258 b47272) [(.ref b47272)]) X48345 (fun t k => XS.aload X48345.here hx rfl (hb hby at_333) rfl rfl k) ?_
  refine ost (mkF m 336 (La0_12 q0 q1 p2 p3 p4 p5 b5 b21606 b44094 b44109 b46187 b47258 b47272) [(.int (2 : Int32)), (.ref b47272)]) X48345 (fun t k => XS.iconst X48345.here hx rfl (hb hby at_335) k) ?_
  refine ost (mkF m 337 (La0_12 q0 q1 p2 p3 p4 p5 b5 b21606 b44094 b44109 b46187 b47258 b47272) [(.int (((XT.ushrL ((G0_294 q0 p2 p3 q1 p4 p5) ((vs2213_100bbb q0 q1)).toNatClampNeg) (vs2213_100bbbb q0 q1)) &&& (((1 : Int64) <<< ((vs2213_84bb q1).toInt64 &&& 63)) - (1 : Int64))).toInt32))]) X48345 (fun t k => own_ldI X48345 hx hZ f48345 u48342 (by decide) (congrArg Value.int (updOff (by decide) (updAt rfl))) (g := (mkF m 336 (La0_12 q0 q1 p2 p3 p4 p5 b5 b21606 b44094 b44109 b46187 b47258 b47272) [(.int (2 : Int32)), (.ref b47272)])) rfl rfl (hb hby at_336) _ k) ?_
  refine ost (mkF m 339 (La0_12 q0 q1 p2 p3 p4 p5 b5 b21606 b44094 b44109 b46187 b47258 b47272) [(.int (v0_25 q1)), (.int (((XT.ushrL ((G0_294 q0 p2 p3 q1 p4 p5) ((vs2213_100bbb q0 q1)).toNatClampNeg) (vs2213_100bbbb q0 q1)) &&& (((1 : Int64) <<< ((vs2213_84bb q1).toInt64 &&& 63)) - (1 : Int64))).toInt32))]) X48345 (fun t k => XS.iload X48345.here hx rfl (hb hby at_337) rfl k) ?_
  obtain ⟨_, T48346, L48346, X48346, ⟨rfl, f48346, N48346q⟩, st48346⟩ := own_callS X48345 hx hZ (y := Y25) (W := 0) (argsL := [(.int (((XT.ushrL ((G0_294 q0 p2 p3 q1 p4 p5) ((vs2213_100bbb q0 q1)).toNatClampNeg) (vs2213_100bbbb q0 q1)) &&& (((1 : Int64) <<< ((vs2213_84bb q1).toInt64 &&& 63)) - (1 : Int64))).toInt32)), (.int (v0_25 q1))]) (rest := []) hown (hw _ (wm 161 rfl)) (hw _ (wm 162 rfl)) (hw _ (wm 2 rfl)) (hw _ (wm 163 rfl)) (by decide) (rm25 l Z a0 hw [] (((XT.ushrL ((G0_294 q0 p2 p3 q1 p4 p5) ((vs2213_100bbb q0 q1)).toNatClampNeg) (vs2213_100bbbb q0 q1)) &&& (((1 : Int64) <<< ((vs2213_84bb q1).toInt64 &&& 63)) - (1 : Int64))).toInt32) (v0_25 q1) h47286 n0 Z47286) (by decide) (by decide) (by decide) (by decide) f48345 (g := (mkF m 339 (La0_12 q0 q1 p2 p3 p4 p5 b5 b21606 b44094 b44109 b46187 b47258 b47272) [(.int (v0_25 q1)), (.int (((XT.ushrL ((G0_294 q0 p2 p3 q1 p4 p5) ((vs2213_100bbb q0 q1)).toNatClampNeg) (vs2213_100bbbb q0 q1)) &&& (((1 : Int64) <<< ((vs2213_84bb q1).toInt64 &&& 63)) - (1 : Int64))).toInt32))])) rfl (by rw [hml]; rfl) pd_15 rfl rfl (by show 2 * 0 + _ ≤ _; exact Nat.le_of_eq rfl) (hb hby at_339)
  have N48346 := Fr.app N48345 N48346q
  refine ost (mkF m 342 (La0_12 q0 q1 p2 p3 p4 p5 b5 b21606 b44094 b44109 b46187 b47258 b47272) [(.int (r25 (((XT.ushrL ((G0_294 q0 p2 p3 q1 p4 p5) ((vs2213_100bbb q0 q1)).toNatClampNeg) (vs2213_100bbbb q0 q1)) &&& (((1 : Int64) <<< ((vs2213_84bb q1).toInt64 &&& 63)) - (1 : Int64))).toInt32) (v0_25 q1)))]) X48346 (fun t k => st48346 _ k) ?_
  refine ost (mkF m 345 (La0_12 q0 q1 p2 p3 p4 p5 b5 b21606 b44094 b44109 b46187 b47258 b47272) []) X48346 (fun t k => XS.ifNo X48346.here hx rfl (hb hby at_342) rfl ((if0 _ _).trans (feq (br0_342 q0 q1 p2 p3 p4 p5)).1) k) ?_
  refine ost (mkF m 347 (La0_12 q0 q1 p2 p3 p4 p5 b5 b21606 b44094 b44109 b46187 b47258 b47272) [(.ref b47272)]) X48346 (fun t k => XS.aload X48346.here hx rfl (hb hby at_345) rfl rfl k) ?_
  refine ost (mkF m 348 (La0_12 q0 q1 p2 p3 p4 p5 b5 b21606 b44094 b44109 b46187 b47258 b47272) [(.int (3 : Int32)), (.ref b47272)]) X48346 (fun t k => XS.iconst X48346.here hx rfl (hb hby at_347) k) ?_
  refine ost (mkF m 349 (La0_12 q0 q1 p2 p3 p4 p5 b5 b21606 b44094 b44109 b46187 b47258 b47272) [(.int (((XT.ushrL ((G0_294 q0 p2 p3 q1 p4 p5) ((vs2213_100bbbbb q0 q1)).toNatClampNeg) (vs2213_100bbbbbb q0 q1)) &&& (((1 : Int64) <<< ((vs2213_84bbb q1).toInt64 &&& 63)) - (1 : Int64))).toInt32))]) X48346 (fun t k => own_ldI X48346 hx hZ f48346 u48342 (by decide) (congrArg Value.int (updAt rfl)) (g := (mkF m 348 (La0_12 q0 q1 p2 p3 p4 p5 b5 b21606 b44094 b44109 b46187 b47258 b47272) [(.int (3 : Int32)), (.ref b47272)])) rfl rfl (hb hby at_348) _ k) ?_
  refine ost (mkF m 351 (La0_12 q0 q1 p2 p3 p4 p5 b5 b21606 b44094 b44109 b46187 b47258 b47272) [(.int (v0_32 q1)), (.int (((XT.ushrL ((G0_294 q0 p2 p3 q1 p4 p5) ((vs2213_100bbbbb q0 q1)).toNatClampNeg) (vs2213_100bbbbbb q0 q1)) &&& (((1 : Int64) <<< ((vs2213_84bbb q1).toInt64 &&& 63)) - (1 : Int64))).toInt32))]) X48346 (fun t k => XS.iload X48346.here hx rfl (hb hby at_349) rfl k) ?_
  obtain ⟨_, T48347, L48347, X48347, ⟨rfl, f48347, N48347q⟩, st48347⟩ := own_callS X48346 hx hZ (y := Y25) (W := 0) (argsL := [(.int (((XT.ushrL ((G0_294 q0 p2 p3 q1 p4 p5) ((vs2213_100bbbbb q0 q1)).toNatClampNeg) (vs2213_100bbbbbb q0 q1)) &&& (((1 : Int64) <<< ((vs2213_84bbb q1).toInt64 &&& 63)) - (1 : Int64))).toInt32)), (.int (v0_32 q1))]) (rest := []) hown (hw _ (wm 161 rfl)) (hw _ (wm 162 rfl)) (hw _ (wm 2 rfl)) (hw _ (wm 163 rfl)) (by decide) (rm25 l Z a0 hw [] (((XT.ushrL ((G0_294 q0 p2 p3 q1 p4 p5) ((vs2213_100bbbbb q0 q1)).toNatClampNeg) (vs2213_100bbbbbb q0 q1)) &&& (((1 : Int64) <<< ((vs2213_84bbb q1).toInt64 &&& 63)) - (1 : Int64))).toInt32) (v0_32 q1) h47286 n0 Z47286) (by decide) (by decide) (by decide) (by decide) f48346 (g := (mkF m 351 (La0_12 q0 q1 p2 p3 p4 p5 b5 b21606 b44094 b44109 b46187 b47258 b47272) [(.int (v0_32 q1)), (.int (((XT.ushrL ((G0_294 q0 p2 p3 q1 p4 p5) ((vs2213_100bbbbb q0 q1)).toNatClampNeg) (vs2213_100bbbbbb q0 q1)) &&& (((1 : Int64) <<< ((vs2213_84bbb q1).toInt64 &&& 63)) - (1 : Int64))).toInt32))])) rfl (by rw [hml]; rfl) pd_15 rfl rfl (by show 2 * 0 + _ ≤ _; exact Nat.le_of_eq rfl) (hb hby at_351)
  have N48347 := Fr.app N48346 N48347q
  refine ost (mkF m 354 (La0_12 q0 q1 p2 p3 p4 p5 b5 b21606 b44094 b44109 b46187 b47258 b47272) [(.int (r25 (((XT.ushrL ((G0_294 q0 p2 p3 q1 p4 p5) ((vs2213_100bbbbb q0 q1)).toNatClampNeg) (vs2213_100bbbbbb q0 q1)) &&& (((1 : Int64) <<< ((vs2213_84bbb q1).toInt64 &&& 63)) - (1 : Int64))).toInt32) (v0_32 q1)))]) X48347 (fun t k => st48347 _ k) ?_
  refine ost (mkF m 357 (La0_12 q0 q1 p2 p3 p4 p5 b5 b21606 b44094 b44109 b46187 b47258 b47272) []) X48347 (fun t k => XS.ifNo X48347.here hx rfl (hb hby at_354) rfl ((if0 _ _).trans (feq (br0_354 q0 q1 p2 p3 p4 p5)).1) k) ?_
  refine ost (mkF m 358 (La0_12 q0 q1 p2 p3 p4 p5 b5 b21606 b44094 b44109 b46187 b47258 b47272) [(.int (1 : Int32))]) X48347 (fun t k => XS.iconst X48347.here hx rfl (hb hby at_357) k) ?_
  refine ost (mkF m 362 (La0_12 q0 q1 p2 p3 p4 p5 b5 b21606 b44094 b44109 b46187 b47258 b47272) [(.int (1 : Int32))]) X48347 (fun t k => XS.goto X48347.here hx rfl (pc0 := 358) (pc' := 362) rfl (hb hby at_358) (by decide) (by decide) k) ?_
  refine ost (mkF m 364 (La0_13 q0 q1 p2 p3 p4 p5 b5 b21606 b44094 b44109 b46187 b47258 b47272) []) X48347 (fun t k => XS.istore X48347.here hx rfl (hb hby at_362) rfl (l' := (La0_13 q0 q1 p2 p3 p4 p5 b5 b21606 b44094 b44109 b46187 b47258 b47272)) rfl k) ?_
  refine ost (mkF m 366 (La0_13 q0 q1 p2 p3 p4 p5 b5 b21606 b44094 b44109 b46187 b47258 b47272) [(.int (1 : Int32))]) X48347 (fun t k => XS.iload X48347.here hx rfl (hb hby at_364) rfl k) ?_
  refine ost (mkF m 369 (La0_13 q0 q1 p2 p3 p4 p5 b5 b21606 b44094 b44109 b46187 b47258 b47272) []) X48347 (fun t k => XS.ifNo X48347.here hx rfl (hb hby at_366) rfl ((if0 _ _).trans (feq (show ¬ ((1 : Int32) = (0 : Int32)) by first | decide | exact Int32.lt_irrefl _ | exact Int64.lt_irrefl _)).1) k) ?_
  refine ost (mkF m 371 (La0_13 q0 q1 p2 p3 p4 p5 b5 b21606 b44094 b44109 b46187 b47258 b47272) [(.int (1 : Int32))]) X48347 (fun t k => XS.iload X48347.here hx rfl (hb hby at_369) rfl k) ?_
  refine ost (mkF m 374 (La0_13 q0 q1 p2 p3 p4 p5 b5 b21606 b44094 b44109 b46187 b47258 b47272) []) X48347 (fun t k => XS.ifNo X48347.here hx rfl (hb hby at_371) rfl ((if0 _ _).trans (feq (show ¬ ((1 : Int32) = (0 : Int32)) by first | decide | exact Int32.lt_irrefl _ | exact Int64.lt_irrefl _)).1) k) ?_
  refine ost (mkF m 375 (La0_13 q0 q1 p2 p3 p4 p5 b5 b21606 b44094 b44109 b46187 b47258 b47272) [(.int (1 : Int32))]) X48347 (fun t k => XS.iconst X48347.here hx rfl (hb hby at_374) k) ?_
  refine ost (mkF m 379 (La0_13 q0 q1 p2 p3 p4 p5 b5 b21606 b44094 b44109 b46187 b47258 b47272) [(.int (1 : Int32))]) X48347 (fun t k => XS.goto X48347.here hx rfl (pc0 := 375) (pc' := 379) rfl (hb hby at_375) (by decide) (by decide) k) ?_
  refine OwnFin.retNar X48347 (by simp) (hb hby at_379) (by decide) (by decide) ?_
  exact ⟨rfl, N48347⟩
set_option maxRecDepth 65536 in
set_option maxHeartbeats 40000000 in
theorem rm0 (l : Launch) (Z : State) (a0 : Array Value) (hw : ∀ d ∈ tables_1, d.before a0 Z = true) (ws : List Jvm.Cond) (q0 : Int64) (q1 : Int64) (p2 : Int32) (p3 : Int32) (p4 : Int32) (p5 : Int32) (eE : Addr) (h0 : Heap) (n0 : Nat) (Z0 : n0 ≤ h0.size) (O_E : Sta Z Z.heap "java/util/ArrayList" "DEFAULTCAPACITY_EMPTY_ELEMENTDATA" "[Ljava/lang/Object;" (.ref eE)) (OA_E : Ary Z Z.heap eE (.object "java/lang/Object") 0 (fun _ => .null)) (Old0 : Old Z n0 h0) :
    MetFree l x (head1 (Jvm.Cond.code x code maxLocals ret :: ws) room_1) (fun a U => a = #[(.long q0), (.long q1), (.int p2), (.int p3), (.int p4), (.int p5)] ∧ Z.Warmed39 U.vm ∧ U.heap = h0) (fun _ _ _ _ _ => True) (fun _ U o U' => ∃ v L, o = .returned v ∧ (LQ n0) v U'.heap L ∧ FrameEnd U o U' L room_1.cells room_1.slots) :=
  own_met (ret := ret) (Q := (LQ n0)) (plainFor_of_name pn_0) (fun m => ef_0 m q0 q1 p2 p3 p4 p5) (fun p e s m below meth c s₁ X hx hby hml hown hnm hZ e0 => j0 X hx hZ hw hby hml hown hnm e0 (Fr.nil n0) Z0 q0 q1 p2 p3 p4 p5 eE O_E OA_E Old0)
set_option maxRecDepth 65536 in
set_option maxHeartbeats 40000000 in
theorem comes_1 {Post : Tables → Env → Array Value → State → Outcome → State → Prop} (hpost : ∀ tb e args s v u, (limb_1_1.after args s (.returned v) u = true ∧ limb_1_2.after args s (.returned v) u = true ∧ True) → FrameEnd s (.returned v) u (Jvm.fieldLocs frame_1_writes args s ++ Jvm.arrayLocs frame_1_arrays args s ++ Jvm.staticLocs frame_1_statics s) 40 256 → Post tb e args s (.returned v) u) :
    ArmFor flags0 classFile x code maxLocals ret World_1 tables_1 room_1 Calls_1 rest_1 Pre_1 Post := by
  intro l hfl _ _ p e ha hc hk s m args below hf hA hF happ hP
  obtain ⟨hcalls, hrest, hpre⟩ := hP
  obtain ⟨-, -, -, hnamed, -, -, -, hat⟩ := (Spec.applies_iff hf).mp happ
  obtain ⟨hg, hn⟩ := and_e (Cond.before_iff.mp (show (Jvm.Cond.and given_1 narrow_1).before args s = true from hpre))
  obtain ⟨g1, g2⟩ := and_e hg
  obtain ⟨g3, g4⟩ := and_e g2
  obtain ⟨g5, g6⟩ := and_e g4
  obtain ⟨g7, g8⟩ := and_e g6
  obtain ⟨g9, g10⟩ := and_e g8
  obtain ⟨g11, g12⟩ := and_e g10
  obtain ⟨w0, w1, w2, w3, w4, w5, rfl⟩ : ∃ w0 w1 w2 w3 w4 w5 : Value, args = #[w0, w1, w2, w3, w4, w5] := by
    have hs : args.size = 6 := by simpa [Cond.value, given_1] using g1
    obtain ⟨L⟩ := args
    match L, hs with
    | [w0, w1, w2, w3, w4, w5], _ => exact ⟨w0, w1, w2, w3, w4, w5, rfl⟩
  have hw := fun d (hd : d ∈ tables_1) => atoms_spec (ws := Jvm.Cond.code x code maxLocals ret :: tables_1) hat d (List.mem_cons_of_mem _ hd)
  obtain ⟨hsets, hown0⟩ := atoms_of _ (rest_1_c_eq ▸ (show rest_1_c.before _ s = true from hrest))
  obtain ⟨i0, ei0⟩ := isL_v g3
  obtain rfl : w0 = (.long i0) := Option.some.inj ei0
  obtain ⟨i1, ei1⟩ := isL_v g5
  obtain rfl : w1 = (.long i1) := Option.some.inj ei1
  obtain ⟨i2, ei2⟩ := is_v g7
  obtain rfl : w2 = (.int i2) := Option.some.inj ei2
  obtain ⟨i3, ei3⟩ := is_v g9
  obtain rfl : w3 = (.int i3) := Option.some.inj ei3
  obtain ⟨i4, ei4⟩ := is_v g11
  obtain rfl : w4 = (.int i4) := Option.some.inj ei4
  obtain ⟨i5, ei5⟩ := is_v g12
  obtain rfl : w5 = (.int i5) := Option.some.inj ei5
  obtain ⟨eE, O_E, OA_E⟩ := own_empty (Cond.before_iff.mp (hsets _ (List.mem_of_getElem? (i := 6) rfl))) (Cond.before_iff.mp (hsets _ (List.mem_of_getElem? (i := 8) rfl))) (Or.inr ⟨(hw _ (wm 11 rfl)), (hsets _ (List.mem_of_getElem? (i := 2) rfl))⟩)
  obtain ⟨n, o, h1, h2, h3, _, L, rfl, ⟨rfl, N⟩, hq⟩ := rm0 l s _ hw tables_1 i0 i1 i2 i3 i4 i5 eE s.heap s.heap.size (Nat.le_refl _) O_E OA_E (Old.start s) p e ha hc hk s m _ below hf ((Spec.applies_iff_loose hf).mp happ).1 ⟨rfl, State.Warmed39.refl s, rfl⟩ trivial
  refine ⟨n, _, h1, h2, h3, hpost _ _ _ _ _ _ ⟨Cond.after_iff.mpr rfl, Cond.after_iff.mpr (eq_i res_at (Term.int_eval (1)) rfl), trivial⟩ ⟨hq.1, hq.2.1, (hq.2.2.sift fun y hy => Or.inr (N y hy)).mono (by decide) (by decide)⟩⟩
theorem main_1_1 : Claimed_1_1 := comes_1 fun _ _ _ _ _ _ h hF => ⟨h.1, hF⟩
theorem main_1_2 : Claimed_1_2 := comes_1 fun _ _ _ _ _ _ h hF => ⟨h.2.1, hF⟩
end Jvm.Pilot.@@N@@
namespace Jvm.Pilot.@@N@@
open Jvm Jvm.ClassFile Sem Op Lib Jvm.Free Jvm.Stand Jvm.Pilot.@@N@@.Jvm.D
/-! MADE BY PROGRAM (witnessworld.py) out of the Statement's table words and the real class files: 31 classes; the members and pool entries that the words name. The judged class is class 1, her method 4. -/
namespace start1
open Jvm.ClassFile
def u (s : String) : CpInfo := .utf8 (stringToUtf16 s)
/-- a pool by its gaps: so many unusable entries, then the entry; so many at the end -/
def gap : Nat → List CpInfo → List CpInfo
  | 0, r => r
  | n + 1, r => .unusable :: gap n r
def poolList (es : List (Nat × CpInfo)) (last : Nat) : List CpInfo := es.foldr (fun e r => gap e.1 (e.2 :: r)) (gap last [])
def pool (es : List (Nat × CpInfo)) (last : Nat) : Array CpInfo := ⟨poolList es last⟩
def fileOf (pool : Array CpInfo) (this : Nat) (attrs : Array Attribute := #[]) (ms : Array MethodInfo := #[]) (fl : Nat := 33) (sup : Nat := 0) (ifs : Array Nat := #[]) (fds : Array FieldInfo := #[]) : ClassFile where
  minorVersion := 0
  majorVersion := 65
  constantPool := pool
  accessFlags := fl
  thisClass := this
  superClass := sup
  interfaces := ifs
  fields := fds
  methods := ms
  attributes := attrs
def plain (name : String) (sup : Option ClassId) : Class where
  name := name
  kind := .ordinary
  loader := none
  accessFlags := 33
  super := sup
  interfaces := #[]
  cf := none
  fields := #[]
  methods := #[]
  instanceTypes := #[]
  staticTypes := #[]
  resolved := #[]
  callSites := []
  init := .initialized
  statics := none
  mirror := none

def pool0 : Array CpInfo := pool [(5, u "<init>"), (0, u "()V"), (1, .class_ 10), (1, u "java/lang/Object")] 113

def k0c0 : Code := { maxStack := 0, maxLocals := 1, code := object_method_1_code, exceptionTable := #[], attributes := #[] }
def k0m0 : Method := { name := "<init>", desc := "()V", sig := { parameters := [], returnType := none }, accessFlags := 1, code := some k0c0 }
/-- java/lang/Object -/
def k0 : Class := { plain "java/lang/Object" none with
  accessFlags := 33
  interfaces := #[]
  cf := some (fileOf pool0 8 #[] #[{ accessFlags := 1, nameIndex := 5, descriptorIndex := 6, attributes := #[] }] 33 0 #[] #[])
  fields := #[]
  methods := #[k0m0]
  instanceTypes := #[]
  staticTypes := #[]
  resolved := Array.replicate 124 none
  statics := none }

def pool1 : Array CpInfo := pool [(2, .class_ 4), (0, .nameAndType 5 6), (0, u "java/lang/Object"), (0, u "<init>"), (0, u "()V"), (0, .integer 2147483647), (0, .methodref 9 10), (0, .class_ 11), (0, .nameAndType 12 13), (0, u "java/lang/Math"), (0, u "max"), (0, u "(II)I"), (0, .long 2), (1, .methodref 17 18), (0, .class_ 19), (0, .nameAndType 20 21), (0, u "com/example/ken2/ken2/StateLayoutUnpackPinLaw"), (0, u "size"), (0, u "(I)I"), (0, .class_ 23), (0, u "java/util/ArrayList"), (0, .methodref 22 3), (0, .class_ 26), (0, u "com/example/ken2/ken2/InterpretedSystem$Variable"), (0, .methodref 25 28), (0, .nameAndType 5 29), (0, u "(Ljava/lang/String;Ljava/lang/String;Ljava/util/List;II)V"), (0, .methodref 22 31), (0, .nameAndType 32 33), (0, u "add"), (0, u "(Ljava/lang/Object;)Z"), (0, .class_ 35), (0, u "com/example/ken2/ken2/StateLayout"), (0, .methodref 34 37), (0, .nameAndType 5 38), (0, u "(Ljava/util/List;)V"), (0, .methodref 17 40), (0, .nameAndType 41 13), (0, u "val"), (0, .methodref 34 43), (0, .nameAndType 44 45), (0, u "pack"), (0, u "([I[J)V"), (0, .methodref 34 47), (0, .nameAndType 48 49), (0, u "unpack"), (0, u "([J[I)V"), (0, .methodref 17 51), (0, .nameAndType 52 53), (0, u "bounded"), (0, u "(II)Z"), (3, u "law"), (0, u "(JJIIII)Z")] 10

def k1m0 : Method := { name := "<init>", desc := "()V", sig := { parameters := [], returnType := none }, accessFlags := 1, code := none }
def k1c1 : Code := { maxStack := 3, maxLocals := 1, code := method_2_code, exceptionTable := #[], attributes := #[] }
def k1m1 : Method := { name := "size", desc := "(I)I", sig := { parameters := [.int], returnType := some .int }, accessFlags := 10, code := some k1c1 }
def k1c2 : Code := { maxStack := 2, maxLocals := 2, code := method_3_code, exceptionTable := #[], attributes := #[] }
def k1m2 : Method := { name := "val", desc := "(II)I", sig := { parameters := [.int, .int], returnType := some .int }, accessFlags := 10, code := some k1c2 }
def k1c3 : Code := { maxStack := 8, maxLocals := 2, code := method_4_code, exceptionTable := #[], attributes := #[] }
def k1m3 : Method := { name := "bounded", desc := "(II)Z", sig := { parameters := [.int, .int], returnType := some .boolean }, accessFlags := 10, code := some k1c3 }
def k1c4 : Code := { maxStack := 8, maxLocals := 21, code := code, exceptionTable := #[], attributes := #[] }
def k1m4 : Method := { name := "law", desc := "(JJIIII)Z", sig := { parameters := [.long, .long, .int, .int, .int, .int], returnType := some .boolean }, accessFlags := 9, code := some k1c4 }
/-- com/example/ken2/ken2/StateLayoutUnpackPinLaw -/
def k1 : Class := { plain "com/example/ken2/ken2/StateLayoutUnpackPinLaw" (some 0) with
  accessFlags := 49
  interfaces := #[]
  cf := some (fileOf pool1 17 #[] #[{ accessFlags := 1, nameIndex := 5, descriptorIndex := 6, attributes := #[] }, { accessFlags := 10, nameIndex := 20, descriptorIndex := 21, attributes := #[] }, { accessFlags := 10, nameIndex := 41, descriptorIndex := 13, attributes := #[] }, { accessFlags := 10, nameIndex := 52, descriptorIndex := 53, attributes := #[] }, { accessFlags := 9, nameIndex := 57, descriptorIndex := 58, attributes := #[] }] 49 2 #[] #[])
  fields := #[]
  methods := #[k1m0, k1m1, k1m2, k1m3, k1m4]
  instanceTypes := #[]
  staticTypes := #[]
  resolved := Array.replicate 69 none
  statics := none }

def pool2 : Array CpInfo := pool [(1, .class_ 2), (0, u "java/lang/Math"), (1, .class_ 6), (1, u "java/lang/Object"), (0, u "<init>"), (0, u "()V"), (89, .class_ 100), (1, u "java/lang/Math$RandomNumberGeneratorHolder"), (71, u "negativeZeroFloatBits"), (0, u "J"), (2, u "negativeZeroDoubleBits"), (21, u "max"), (46, u "$assertionsDisabled"), (0, u "Z"), (88, u "(II)I"), (2, u "twoToTheDoubleScaleDown"), (0, u "D"), (4, u "twoToTheDoubleScaleUp"), (9, u "E"), (3, u "PI"), (2, u "TAU"), (2, u "DEGREES_TO_RADIANS"), (0, u "RADIANS_TO_DEGREES")] 94

def k2m0 : Method := { name := "<init>", desc := "()V", sig := { parameters := [], returnType := none }, accessFlags := 2, code := none }
def k2c1 : Code := { maxStack := 2, maxLocals := 2, code := jdk_29_method_65_code, exceptionTable := #[], attributes := #[] }
def k2m1 : Method := { name := "max", desc := "(II)I", sig := { parameters := [.int, .int], returnType := some .int }, accessFlags := 9, code := some k2c1 }
/-- java/lang/Math -/
def k2 : Class := { plain "java/lang/Math" (some 0) with
  accessFlags := 49
  interfaces := #[]
  cf := some (fileOf pool2 1 #[.nestMembers #[98]] #[{ accessFlags := 2, nameIndex := 7, descriptorIndex := 8, attributes := #[] }, { accessFlags := 9, nameIndex := 198, descriptorIndex := 335, attributes := #[] }] 49 4 #[] #[{ accessFlags := 25, nameIndex := 354, descriptorIndex := 339, attributes := #[] }, { accessFlags := 25, nameIndex := 358, descriptorIndex := 339, attributes := #[] }, { accessFlags := 25, nameIndex := 361, descriptorIndex := 339, attributes := #[] }, { accessFlags := 26, nameIndex := 364, descriptorIndex := 339, attributes := #[] }, { accessFlags := 26, nameIndex := 365, descriptorIndex := 339, attributes := #[] }, { accessFlags := 26, nameIndex := 172, descriptorIndex := 173, attributes := #[] }, { accessFlags := 26, nameIndex := 176, descriptorIndex := 173, attributes := #[] }, { accessFlags := 8, nameIndex := 344, descriptorIndex := 339, attributes := #[] }, { accessFlags := 8, nameIndex := 338, descriptorIndex := 339, attributes := #[] }, { accessFlags := 4120, nameIndex := 245, descriptorIndex := 246, attributes := #[] }])
  fields := #[{ name := "E", type := .double, accessFlags := 25, slot := 0, constantValue := 0 }, { name := "PI", type := .double, accessFlags := 25, slot := 1, constantValue := 0 }, { name := "TAU", type := .double, accessFlags := 25, slot := 2, constantValue := 0 }, { name := "DEGREES_TO_RADIANS", type := .double, accessFlags := 26, slot := 3, constantValue := 0 }, { name := "RADIANS_TO_DEGREES", type := .double, accessFlags := 26, slot := 4, constantValue := 0 }, { name := "negativeZeroFloatBits", type := .long, accessFlags := 26, slot := 5, constantValue := 0 }, { name := "negativeZeroDoubleBits", type := .long, accessFlags := 26, slot := 6, constantValue := 0 }, { name := "twoToTheDoubleScaleUp", type := .double, accessFlags := 8, slot := 7, constantValue := 0 }, { name := "twoToTheDoubleScaleDown", type := .double, accessFlags := 8, slot := 8, constantValue := 0 }, { name := "$assertionsDisabled", type := .boolean, accessFlags := 4120, slot := 9, constantValue := 0 }]
  methods := #[k2m0, k2m1]
  instanceTypes := #[]
  staticTypes := #[.double, .double, .double, .double, .double, .long, .long, .double, .double, .boolean]
  resolved := Array.replicate 460 none
  statics := none }

def pool3 : Array CpInfo := pool [(8, .class_ 10), (1, u "java/lang/Iterable"), (24, .class_ 36), (0, u "java/lang/Object")] 25

/-- java/lang/Iterable -/
def k3 : Class := { plain "java/lang/Iterable" (some 0) with
  accessFlags := 1537
  interfaces := #[]
  cf := some (fileOf pool3 8 #[] #[] 1537 35 #[] #[])
  fields := #[]
  methods := #[]
  instanceTypes := #[]
  staticTypes := #[]
  resolved := Array.replicate 62 none
  statics := none }

def pool4 : Array CpInfo := pool [(10, .class_ 12), (1, u "java/util/Collection"), (47, .class_ 61), (0, u "java/lang/Object"), (0, .class_ 63), (0, u "java/lang/Iterable")] 51

/-- java/util/Collection -/
def k4 : Class := { plain "java/util/Collection" (some 0) with
  accessFlags := 1537
  interfaces := #[3]
  cf := some (fileOf pool4 10 #[] #[] 1537 60 #[62] #[])
  fields := #[]
  methods := #[]
  instanceTypes := #[]
  staticTypes := #[]
  resolved := Array.replicate 115 none
  statics := none }

def pool5 : Array CpInfo := pool [(1, .methodref 2 3), (0, .class_ 4), (0, .nameAndType 5 6), (0, u "java/lang/Object"), (0, u "<init>"), (0, u "()V"), (1, .class_ 10), (1, u "java/util/AbstractCollection"), (66, .class_ 78), (0, u "java/util/Collection")] 81

def k5c0 : Code := { maxStack := 1, maxLocals := 1, code := jdk_22_method_1_code, exceptionTable := #[], attributes := #[] }
def k5m0 : Method := { name := "<init>", desc := "()V", sig := { parameters := [], returnType := none }, accessFlags := 4, code := some k5c0 }
/-- java/util/AbstractCollection -/
def k5 : Class := { plain "java/util/AbstractCollection" (some 0) with
  accessFlags := 1057
  interfaces := #[4]
  cf := some (fileOf pool5 8 #[] #[{ accessFlags := 4, nameIndex := 5, descriptorIndex := 6, attributes := #[] }] 1057 2 #[77] #[])
  fields := #[]
  methods := #[k5m0]
  instanceTypes := #[]
  staticTypes := #[]
  resolved := Array.replicate 160 none
  statics := none }

def pool6 : Array CpInfo := pool [(8, .class_ 10), (1, u "java/util/SequencedCollection"), (15, .class_ 27), (0, u "java/lang/Object"), (0, .class_ 29), (0, u "java/util/Collection")] 27

/-- java/util/SequencedCollection -/
def k6 : Class := { plain "java/util/SequencedCollection" (some 0) with
  accessFlags := 1537
  interfaces := #[4]
  cf := some (fileOf pool6 8 #[] #[] 1537 26 #[28] #[])
  fields := #[]
  methods := #[]
  instanceTypes := #[]
  staticTypes := #[]
  resolved := Array.replicate 57 none
  statics := none }

def pool7 : Array CpInfo := pool [(8, .class_ 10), (1, u "java/util/List"), (64, u "get"), (0, u "(I)Ljava/lang/Object;"), (2, u "size"), (0, u "()I"), (22, .class_ 104), (0, u "java/lang/Object"), (15, .class_ 121), (0, u "java/util/SequencedCollection")] 129

def k7m0 : Method := { name := "size", desc := "()I", sig := { parameters := [], returnType := some .int }, accessFlags := 1025, code := none }
def k7m1 : Method := { name := "get", desc := "(I)Ljava/lang/Object;", sig := { parameters := [.int], returnType := some (.object "java/lang/Object") }, accessFlags := 1025, code := none }
/-- java/util/List -/
def k7 : Class := { plain "java/util/List" (some 0) with
  accessFlags := 1537
  interfaces := #[6]
  cf := some (fileOf pool7 8 #[] #[{ accessFlags := 1025, nameIndex := 79, descriptorIndex := 80, attributes := #[] }, { accessFlags := 1025, nameIndex := 75, descriptorIndex := 76, attributes := #[] }] 1537 103 #[120] #[])
  fields := #[]
  methods := #[k7m0, k7m1]
  instanceTypes := #[]
  staticTypes := #[]
  resolved := Array.replicate 251 none
  statics := none }

def pool8 : Array CpInfo := pool [(1, .methodref 2 3), (0, .class_ 4), (0, .nameAndType 5 6), (0, u "java/util/AbstractCollection"), (0, u "<init>"), (0, u "()V"), (0, .fieldref 8 9), (0, .class_ 10), (0, .nameAndType 11 12), (0, u "java/util/AbstractList"), (0, u "modCount"), (0, u "I"), (64, .class_ 78), (0, u "java/util/AbstractList$Itr"), (3, .class_ 83), (0, u "java/util/AbstractList$ListItr"), (9, .class_ 94), (0, u "java/util/AbstractList$RandomAccessSubList"), (3, .class_ 99), (0, u "java/util/AbstractList$SubList"), (33, .class_ 134), (0, u "java/util/List"), (73, .class_ 209), (0, u "java/util/AbstractList$SubList$1"), (0, .class_ 211), (0, u "java/util/AbstractList$RandomAccessSpliterator")] 6

def k8c0 : Code := { maxStack := 2, maxLocals := 1, code := jdk_39_method_1_code, exceptionTable := #[], attributes := #[] }
def k8m0 : Method := { name := "<init>", desc := "()V", sig := { parameters := [], returnType := none }, accessFlags := 4, code := some k8c0 }
/-- java/util/AbstractList -/
def k8 : Class := { plain "java/util/AbstractList" (some 5) with
  accessFlags := 1057
  interfaces := #[7]
  cf := some (fileOf pool8 8 #[.nestMembers #[93, 98, 208, 210, 82, 77]] #[{ accessFlags := 4, nameIndex := 5, descriptorIndex := 6, attributes := #[] }] 1057 2 #[133] #[{ accessFlags := 132, nameIndex := 11, descriptorIndex := 12, attributes := #[] }])
  fields := #[{ name := "modCount", type := .int, accessFlags := 132, slot := 0, constantValue := 0 }]
  methods := #[k8m0]
  instanceTypes := #[.int]
  staticTypes := #[]
  resolved := Array.replicate 218 none
  statics := none }

def pool9 : Array CpInfo := pool [(1, .class_ 2), (0, u "java/util/RandomAccess"), (0, .class_ 4), (0, u "java/lang/Object")] 2

/-- java/util/RandomAccess -/
def k9 : Class := { plain "java/util/RandomAccess" (some 0) with
  accessFlags := 1537
  interfaces := #[]
  cf := some (fileOf pool9 1 #[] #[] 1537 3 #[] #[])
  fields := #[]
  methods := #[]
  instanceTypes := #[]
  staticTypes := #[]
  resolved := Array.replicate 7 none
  statics := none }

def pool10 : Array CpInfo := pool [(1, .class_ 2), (0, u "java/lang/Cloneable"), (0, .class_ 4), (0, u "java/lang/Object")] 2

/-- java/lang/Cloneable -/
def k10 : Class := { plain "java/lang/Cloneable" (some 0) with
  accessFlags := 1537
  interfaces := #[]
  cf := some (fileOf pool10 1 #[] #[] 1537 3 #[] #[])
  fields := #[]
  methods := #[]
  instanceTypes := #[]
  staticTypes := #[]
  resolved := Array.replicate 7 none
  statics := none }

def pool11 : Array CpInfo := pool [(1, .class_ 2), (0, u "java/io/Serializable"), (0, .class_ 4), (0, u "java/lang/Object")] 2

/-- java/io/Serializable -/
def k11 : Class := { plain "java/io/Serializable" (some 0) with
  accessFlags := 1537
  interfaces := #[]
  cf := some (fileOf pool11 1 #[] #[] 1537 3 #[] #[])
  fields := #[]
  methods := #[]
  instanceTypes := #[]
  staticTypes := #[]
  resolved := Array.replicate 7 none
  statics := none }

def pool12 : Array CpInfo := pool [(1, .methodref 2 3), (0, .class_ 4), (0, .nameAndType 5 6), (0, u "java/util/AbstractList"), (0, u "<init>"), (0, u "()V"), (0, .class_ 8), (0, u "java/lang/Object"), (0, .fieldref 10 11), (0, .class_ 12), (0, .nameAndType 13 14), (0, u "java/util/ArrayList"), (0, u "elementData"), (0, u "[Ljava/lang/Object;"), (2, u "EMPTY_ELEMENTDATA"), (21, .fieldref 10 40), (0, .nameAndType 41 14), (0, u "DEFAULTCAPACITY_EMPTY_ELEMENTDATA"), (5, u "()[Ljava/lang/Object;"), (0, .fieldref 10 49), (0, .nameAndType 50 51), (0, u "size"), (0, u "I"), (11, .fieldref 10 64), (0, .nameAndType 65 51), (0, u "modCount"), (3, .methodref 10 70), (0, .nameAndType 71 72), (0, u "grow"), (0, u "(I)[Ljava/lang/Object;"), (6, .methodref 80 81), (0, .class_ 82), (0, .nameAndType 83 84), (0, u "java/lang/Math"), (0, u "max"), (0, u "(II)I"), (11, u "(Ljava/lang/Object;)Z"), (21, .methodref 119 120), (0, .class_ 121), (0, .nameAndType 122 84), (0, u "java/util/Objects"), (0, u "checkIndex"), (0, .methodref 10 124), (0, .nameAndType 13 125), (0, u "(I)Ljava/lang/Object;"), (3, .methodref 10 130), (0, .nameAndType 71 47), (0, .methodref 10 132), (0, .nameAndType 133 134), (0, u "add"), (0, u "(Ljava/lang/Object;[Ljava/lang/Object;I)V"), (13, .class_ 149), (0, u "java/util/List"), (36, u "()I"), (75, .class_ 263), (0, u "java/util/ArrayList$ListItr"), (3, .class_ 268), (0, u "java/util/ArrayList$Itr"), (7, .class_ 277), (0, u "java/util/ArrayList$SubList"), (12, .class_ 291), (0, u "java/util/ArrayList$ArrayListSpliterator"), (37, .class_ 330), (0, u "java/util/RandomAccess"), (0, .class_ 332), (0, u "java/lang/Cloneable"), (0, .class_ 334), (0, u "java/io/Serializable"), (0, u "serialVersionUID"), (0, u "J"), (3, u "DEFAULT_CAPACITY"), (40, u "get"), (118, .class_ 501), (0, u "java/util/ArrayList$SubList$2"), (0, .class_ 503), (0, u "java/util/ArrayList$SubList$1")] 5

def k12c0 : Code := { maxStack := 2, maxLocals := 1, code := jdk_38_method_2_code, exceptionTable := #[], attributes := #[] }
def k12m0 : Method := { name := "<init>", desc := "()V", sig := { parameters := [], returnType := none }, accessFlags := 1, code := some k12c0 }
def k12c1 : Code := { maxStack := 4, maxLocals := 4, code := jdk_38_method_6_code, exceptionTable := #[], attributes := #[] }
def k12m1 : Method := { name := "grow", desc := "(I)[Ljava/lang/Object;", sig := { parameters := [.int], returnType := some (.array (.object "java/lang/Object")) }, accessFlags := 2, code := some k12c1 }
def k12c2 : Code := { maxStack := 3, maxLocals := 1, code := jdk_38_method_7_code, exceptionTable := #[], attributes := #[] }
def k12m2 : Method := { name := "grow", desc := "()[Ljava/lang/Object;", sig := { parameters := [], returnType := some (.array (.object "java/lang/Object")) }, accessFlags := 2, code := some k12c2 }
def k12c3 : Code := { maxStack := 1, maxLocals := 1, code := jdk_38_method_8_code, exceptionTable := #[], attributes := #[] }
def k12m3 : Method := { name := "size", desc := "()I", sig := { parameters := [], returnType := some .int }, accessFlags := 1, code := some k12c3 }
def k12c4 : Code := { maxStack := 2, maxLocals := 2, code := jdk_38_method_18_code, exceptionTable := #[], attributes := #[] }
def k12m4 : Method := { name := "elementData", desc := "(I)Ljava/lang/Object;", sig := { parameters := [.int], returnType := some (.object "java/lang/Object") }, accessFlags := 0, code := some k12c4 }
def k12c5 : Code := { maxStack := 2, maxLocals := 2, code := jdk_38_method_20_code, exceptionTable := #[], attributes := #[] }
def k12m5 : Method := { name := "get", desc := "(I)Ljava/lang/Object;", sig := { parameters := [.int], returnType := some (.object "java/lang/Object") }, accessFlags := 1, code := some k12c5 }
def k12c6 : Code := { maxStack := 3, maxLocals := 4, code := jdk_38_method_24_code, exceptionTable := #[], attributes := #[] }
def k12m6 : Method := { name := "add", desc := "(Ljava/lang/Object;[Ljava/lang/Object;I)V", sig := { parameters := [(.object "java/lang/Object"), (.array (.object "java/lang/Object")), .int], returnType := none }, accessFlags := 2, code := some k12c6 }
def k12c7 : Code := { maxStack := 4, maxLocals := 2, code := jdk_38_method_25_code, exceptionTable := #[], attributes := #[] }
def k12m7 : Method := { name := "add", desc := "(Ljava/lang/Object;)Z", sig := { parameters := [(.object "java/lang/Object")], returnType := some .boolean }, accessFlags := 1, code := some k12c7 }
/-- java/util/ArrayList -/
def k12 : Class := { plain "java/util/ArrayList" (some 8) with
  accessFlags := 33
  interfaces := #[7, 9, 10, 11]
  cf := some (fileOf pool12 10 #[.nestMembers #[290, 276, 500, 502, 262, 267]] #[{ accessFlags := 1, nameIndex := 5, descriptorIndex := 6, attributes := #[] }, { accessFlags := 2, nameIndex := 71, descriptorIndex := 72, attributes := #[] }, { accessFlags := 2, nameIndex := 71, descriptorIndex := 47, attributes := #[] }, { accessFlags := 1, nameIndex := 50, descriptorIndex := 186, attributes := #[] }, { accessFlags := 0, nameIndex := 13, descriptorIndex := 125, attributes := #[] }, { accessFlags := 1, nameIndex := 381, descriptorIndex := 125, attributes := #[] }, { accessFlags := 2, nameIndex := 133, descriptorIndex := 134, attributes := #[] }, { accessFlags := 1, nameIndex := 133, descriptorIndex := 96, attributes := #[] }] 33 2 #[148, 329, 331, 333] #[{ accessFlags := 26, nameIndex := 335, descriptorIndex := 336, attributes := #[] }, { accessFlags := 26, nameIndex := 340, descriptorIndex := 51, attributes := #[] }, { accessFlags := 26, nameIndex := 17, descriptorIndex := 14, attributes := #[] }, { accessFlags := 26, nameIndex := 41, descriptorIndex := 14, attributes := #[] }, { accessFlags := 128, nameIndex := 13, descriptorIndex := 14, attributes := #[] }, { accessFlags := 2, nameIndex := 50, descriptorIndex := 51, attributes := #[] }])
  fields := #[{ name := "serialVersionUID", type := .long, accessFlags := 26, slot := 0, constantValue := 0 }, { name := "DEFAULT_CAPACITY", type := .int, accessFlags := 26, slot := 1, constantValue := 0 }, { name := "EMPTY_ELEMENTDATA", type := (.array (.object "java/lang/Object")), accessFlags := 26, slot := 2, constantValue := 0 }, { name := "DEFAULTCAPACITY_EMPTY_ELEMENTDATA", type := (.array (.object "java/lang/Object")), accessFlags := 26, slot := 3, constantValue := 0 }, { name := "elementData", type := (.array (.object "java/lang/Object")), accessFlags := 128, slot := 1, constantValue := 0 }, { name := "size", type := .int, accessFlags := 2, slot := 2, constantValue := 0 }]
  methods := #[k12m0, k12m1, k12m2, k12m3, k12m4, k12m5, k12m6, k12m7]
  instanceTypes := #[.int, (.array (.object "java/lang/Object")), .int]
  staticTypes := #[.long, .int, (.array (.object "java/lang/Object")), (.array (.object "java/lang/Object"))]
  resolved := Array.replicate 509 none
  statics := some 0 }

def pool13 : Array CpInfo := pool [(1, .methodref 2 3), (0, .class_ 4), (0, .nameAndType 5 6), (0, u "java/lang/Object"), (0, u "<init>"), (0, u "()V"), (0, .class_ 8), (0, u "java/lang/Record")] 13

def k13c0 : Code := { maxStack := 1, maxLocals := 1, code := jdk_30_method_1_code, exceptionTable := #[], attributes := #[] }
def k13m0 : Method := { name := "<init>", desc := "()V", sig := { parameters := [], returnType := none }, accessFlags := 4, code := some k13c0 }
/-- java/lang/Record -/
def k13 : Class := { plain "java/lang/Record" (some 0) with
  accessFlags := 1057
  interfaces := #[]
  cf := some (fileOf pool13 7 #[] #[{ accessFlags := 4, nameIndex := 5, descriptorIndex := 6, attributes := #[] }] 1057 2 #[] #[])
  fields := #[]
  methods := #[k13m0]
  instanceTypes := #[]
  staticTypes := #[]
  resolved := Array.replicate 22 none
  statics := none }

def pool14 : Array CpInfo := pool [(1, .methodref 2 3), (0, .class_ 4), (0, .nameAndType 5 6), (0, u "java/lang/Record"), (0, u "<init>"), (0, u "()V"), (0, .fieldref 8 9), (0, .class_ 10), (0, .nameAndType 11 12), (0, u "com/example/ken2/ken2/InterpretedSystem$Variable"), (0, u "agent"), (0, u "Ljava/lang/String;"), (0, .fieldref 8 14), (0, .nameAndType 15 12), (0, u "name"), (0, .fieldref 8 17), (0, .nameAndType 18 19), (0, u "values"), (0, u "Ljava/util/List;"), (0, .fieldref 8 21), (0, .nameAndType 22 23), (0, u "low"), (0, u "I"), (0, .fieldref 8 25), (0, .nameAndType 26 23), (0, u "size"), (8, u "()I"), (2, u "(Ljava/lang/String;Ljava/lang/String;Ljava/util/List;II)V"), (58, .class_ 98), (0, u "com/example/ken2/ken2/InterpretedSystem")] 33

def k14c0 : Code := { maxStack := 2, maxLocals := 6, code := prog_64_method_1_code, exceptionTable := #[], attributes := #[] }
def k14m0 : Method := { name := "<init>", desc := "(Ljava/lang/String;Ljava/lang/String;Ljava/util/List;II)V", sig := { parameters := [(.object "java/lang/String"), (.object "java/lang/String"), (.object "java/util/List"), .int, .int], returnType := none }, accessFlags := 0, code := some k14c0 }
def k14c1 : Code := { maxStack := 1, maxLocals := 1, code := prog_64_method_15_code, exceptionTable := #[], attributes := #[] }
def k14m1 : Method := { name := "size", desc := "()I", sig := { parameters := [], returnType := some .int }, accessFlags := 1, code := some k14c1 }
/-- com/example/ken2/ken2/InterpretedSystem$Variable -/
def k14 : Class := { plain "com/example/ken2/ken2/InterpretedSystem$Variable" (some 13) with
  accessFlags := 48
  interfaces := #[]
  cf := some (fileOf pool14 8 #[.nestHost 97] #[{ accessFlags := 0, nameIndex := 5, descriptorIndex := 38, attributes := #[] }, { accessFlags := 1, nameIndex := 26, descriptorIndex := 35, attributes := #[] }] 48 2 #[] #[{ accessFlags := 18, nameIndex := 11, descriptorIndex := 12, attributes := #[] }, { accessFlags := 18, nameIndex := 15, descriptorIndex := 12, attributes := #[] }, { accessFlags := 18, nameIndex := 18, descriptorIndex := 19, attributes := #[] }, { accessFlags := 18, nameIndex := 22, descriptorIndex := 23, attributes := #[] }, { accessFlags := 18, nameIndex := 26, descriptorIndex := 23, attributes := #[] }])
  fields := #[{ name := "agent", type := (.object "java/lang/String"), accessFlags := 18, slot := 0, constantValue := 0 }, { name := "name", type := (.object "java/lang/String"), accessFlags := 18, slot := 1, constantValue := 0 }, { name := "values", type := (.object "java/util/List"), accessFlags := 18, slot := 2, constantValue := 0 }, { name := "low", type := .int, accessFlags := 18, slot := 3, constantValue := 0 }, { name := "size", type := .int, accessFlags := 18, slot := 4, constantValue := 0 }]
  methods := #[k14m0, k14m1]
  instanceTypes := #[(.object "java/lang/String"), (.object "java/lang/String"), (.object "java/util/List"), .int, .int]
  staticTypes := #[]
  resolved := Array.replicate 132 none
  statics := none }

def pool15 : Array CpInfo := pool [(1, .methodref 2 3), (0, .class_ 4), (0, .nameAndType 5 6), (0, u "java/lang/Object"), (0, u "<init>"), (0, u "()V"), (0, .interfaceMethodref 8 9), (0, .class_ 10), (0, .nameAndType 11 12), (0, u "java/util/List"), (0, u "size"), (0, u "()I"), (0, .fieldref 14 15), (0, .class_ 16), (0, .nameAndType 17 18), (0, u "com/example/ken2/ken2/StateLayout"), (0, u "m_word"), (0, u "[I"), (0, .fieldref 14 20), (0, .nameAndType 21 18), (0, u "m_shift"), (0, .fieldref 14 23), (0, .nameAndType 24 25), (0, u "m_mask"), (0, u "[J"), (0, .interfaceMethodref 8 27), (0, .nameAndType 28 29), (0, u "get"), (0, u "(I)Ljava/lang/Object;"), (0, .class_ 31), (0, u "com/example/ken2/ken2/InterpretedSystem$Variable"), (0, .methodref 30 9), (0, .methodref 34 35), (0, .class_ 36), (0, .nameAndType 37 38), (0, u "java/lang/Integer"), (0, u "numberOfLeadingZeros"), (0, u "(I)I"), (2, .fieldref 14 42), (0, .nameAndType 43 44), (0, u "m_width"), (0, u "I"), (0, .methodref 46 47), (0, .class_ 48), (0, .nameAndType 49 50), (0, u "java/util/Arrays"), (0, u "fill"), (0, u "([JJ)V"), (4, .class_ 56), (0, u "com/example/ken2/ken2/StateLayout$Unpacked"), (3, .class_ 61), (0, u "com/example/ken2/ken2/StateLayout$Columns"), (14, u "(Ljava/util/List;)V"), (6, u "pack"), (0, u "([I[J)V"), (0, u "unpack"), (0, u "([J[I)V")] 19

def k15c0 : Code := { maxStack := 6, maxLocals := 7, code := prog_112_method_1_code, exceptionTable := #[], attributes := #[] }
def k15m0 : Method := { name := "<init>", desc := "(Ljava/util/List;)V", sig := { parameters := [(.object "java/util/List")], returnType := none }, accessFlags := 0, code := some k15c0 }
def k15c1 : Code := { maxStack := 8, maxLocals := 4, code := prog_112_method_3_code, exceptionTable := #[], attributes := #[] }
def k15m1 : Method := { name := "pack", desc := "([I[J)V", sig := { parameters := [(.array .int), (.array .long)], returnType := none }, accessFlags := 0, code := some k15c1 }
def k15c2 : Code := { maxStack := 6, maxLocals := 4, code := prog_112_method_4_code, exceptionTable := #[], attributes := #[] }
def k15m2 : Method := { name := "unpack", desc := "([J[I)V", sig := { parameters := [(.array .long), (.array .int)], returnType := none }, accessFlags := 0, code := some k15c2 }
/-- com/example/ken2/ken2/StateLayout -/
def k15 : Class := { plain "com/example/ken2/ken2/StateLayout" (some 0) with
  accessFlags := 48
  interfaces := #[]
  cf := some (fileOf pool15 14 #[.nestMembers #[60, 55]] #[{ accessFlags := 0, nameIndex := 5, descriptorIndex := 76, attributes := #[] }, { accessFlags := 0, nameIndex := 83, descriptorIndex := 84, attributes := #[] }, { accessFlags := 0, nameIndex := 85, descriptorIndex := 86, attributes := #[] }] 48 2 #[] #[{ accessFlags := 18, nameIndex := 17, descriptorIndex := 18, attributes := #[] }, { accessFlags := 18, nameIndex := 21, descriptorIndex := 18, attributes := #[] }, { accessFlags := 18, nameIndex := 24, descriptorIndex := 25, attributes := #[] }, { accessFlags := 18, nameIndex := 43, descriptorIndex := 44, attributes := #[] }])
  fields := #[{ name := "m_word", type := (.array .int), accessFlags := 18, slot := 0, constantValue := 0 }, { name := "m_shift", type := (.array .int), accessFlags := 18, slot := 1, constantValue := 0 }, { name := "m_mask", type := (.array .long), accessFlags := 18, slot := 2, constantValue := 0 }, { name := "m_width", type := .int, accessFlags := 18, slot := 3, constantValue := 0 }]
  methods := #[k15m0, k15m1, k15m2]
  instanceTypes := #[(.array .int), (.array .int), (.array .long), .int]
  staticTypes := #[]
  resolved := Array.replicate 106 none
  statics := none }

def pool16 : Array CpInfo := pool [(2, .class_ 4), (1, u "java/lang/Object"), (0, u "<init>"), (0, u "()V"), (35, .class_ 44), (1, u "java/util/Objects"), (60, .methodref 106 107), (0, .class_ 108), (0, .nameAndType 109 110), (0, u "jdk/internal/util/Preconditions"), (0, u "checkIndex"), (0, u "(IILjava/util/function/BiFunction;)I"), (60, u "(II)I")] 12

def k16m0 : Method := { name := "<init>", desc := "()V", sig := { parameters := [], returnType := none }, accessFlags := 2, code := none }
def k16c1 : Code := { maxStack := 3, maxLocals := 2, code := jdk_31_method_17_code, exceptionTable := #[], attributes := #[] }
def k16m1 : Method := { name := "checkIndex", desc := "(II)I", sig := { parameters := [.int, .int], returnType := some .int }, accessFlags := 9, code := some k16c1 }
/-- java/util/Objects -/
def k16 : Class := { plain "java/util/Objects" (some 0) with
  accessFlags := 49
  interfaces := #[]
  cf := some (fileOf pool16 42 #[] #[{ accessFlags := 2, nameIndex := 5, descriptorIndex := 6, attributes := #[] }, { accessFlags := 9, nameIndex := 109, descriptorIndex := 171, attributes := #[] }] 49 2 #[] #[])
  fields := #[]
  methods := #[k16m0, k16m1]
  instanceTypes := #[]
  staticTypes := #[]
  resolved := Array.replicate 184 none
  statics := none }

def pool17 : Array CpInfo := pool [(2, .class_ 4), (1, u "java/lang/Object"), (0, u "<init>"), (0, u "()V"), (17, .class_ 26), (1, u "jdk/internal/util/Preconditions"), (6, u "checkIndex"), (21, .class_ 56), (0, u "jdk/internal/util/Preconditions$4"), (57, .class_ 115), (0, u "jdk/internal/util/Preconditions$1"), (7, u "SIOOBE_FORMATTER"), (0, u "Ljava/util/function/BiFunction;"), (0, .class_ 126), (0, u "jdk/internal/util/Preconditions$2"), (3, u "AIOOBE_FORMATTER"), (0, .class_ 132), (0, u "jdk/internal/util/Preconditions$3"), (3, u "IOOBE_FORMATTER"), (41, u "(IILjava/util/function/BiFunction;)I")] 15

def k17m0 : Method := { name := "<init>", desc := "()V", sig := { parameters := [], returnType := none }, accessFlags := 1, code := none }
def k17c1 : Code := { maxStack := 3, maxLocals := 3, code := jdk_41_method_11_code, exceptionTable := #[], attributes := #[] }
def k17m1 : Method := { name := "checkIndex", desc := "(IILjava/util/function/BiFunction;)I", sig := { parameters := [.int, .int, (.object "java/util/function/BiFunction")], returnType := some .int }, accessFlags := 9, code := some k17c1 }
/-- jdk/internal/util/Preconditions -/
def k17 : Class := { plain "jdk/internal/util/Preconditions" (some 0) with
  accessFlags := 33
  interfaces := #[]
  cf := some (fileOf pool17 24 #[.nestMembers #[55, 131, 125, 114]] #[{ accessFlags := 1, nameIndex := 5, descriptorIndex := 6, attributes := #[] }, { accessFlags := 9, nameIndex := 33, descriptorIndex := 178, attributes := #[] }] 33 2 #[] #[{ accessFlags := 25, nameIndex := 123, descriptorIndex := 124, attributes := #[] }, { accessFlags := 25, nameIndex := 130, descriptorIndex := 124, attributes := #[] }, { accessFlags := 25, nameIndex := 136, descriptorIndex := 124, attributes := #[] }])
  fields := #[{ name := "SIOOBE_FORMATTER", type := (.object "java/util/function/BiFunction"), accessFlags := 25, slot := 0, constantValue := 0 }, { name := "AIOOBE_FORMATTER", type := (.object "java/util/function/BiFunction"), accessFlags := 25, slot := 1, constantValue := 0 }, { name := "IOOBE_FORMATTER", type := (.object "java/util/function/BiFunction"), accessFlags := 25, slot := 2, constantValue := 0 }]
  methods := #[k17m0, k17m1]
  instanceTypes := #[]
  staticTypes := #[(.object "java/util/function/BiFunction"), (.object "java/util/function/BiFunction"), (.object "java/util/function/BiFunction")]
  resolved := Array.replicate 194 none
  statics := none }

def pool18 : Array CpInfo := pool [(2, .class_ 4), (1, u "java/lang/Object"), (0, u "<init>"), (0, u "()V"), (1, .class_ 10), (1, u "java/lang/Number"), (2, .class_ 14), (0, u "java/io/Serializable"), (0, u "serialVersionUID"), (0, u "J")] 20

def k18m0 : Method := { name := "<init>", desc := "()V", sig := { parameters := [], returnType := none }, accessFlags := 1, code := none }
/-- java/lang/Number -/
def k18 : Class := { plain "java/lang/Number" (some 0) with
  accessFlags := 1057
  interfaces := #[11]
  cf := some (fileOf pool18 8 #[] #[{ accessFlags := 1, nameIndex := 5, descriptorIndex := 6, attributes := #[] }] 1057 2 #[13] #[{ accessFlags := 26, nameIndex := 15, descriptorIndex := 16, attributes := #[] }])
  fields := #[{ name := "serialVersionUID", type := .long, accessFlags := 26, slot := 0, constantValue := 0 }]
  methods := #[k18m0]
  instanceTypes := #[]
  staticTypes := #[.long]
  resolved := Array.replicate 37 none
  statics := none }

def pool19 : Array CpInfo := pool [(1, .class_ 2), (0, u "java/lang/Comparable"), (0, .class_ 4), (0, u "java/lang/Object")] 7

/-- java/lang/Comparable -/
def k19 : Class := { plain "java/lang/Comparable" (some 0) with
  accessFlags := 1537
  interfaces := #[]
  cf := some (fileOf pool19 1 #[] #[] 1537 3 #[] #[])
  fields := #[]
  methods := #[]
  instanceTypes := #[]
  staticTypes := #[]
  resolved := Array.replicate 12 none
  statics := none }

def pool20 : Array CpInfo := pool [(1, .class_ 2), (0, u "java/lang/constant/Constable"), (0, .class_ 4), (0, u "java/lang/Object")] 6

/-- java/lang/constant/Constable -/
def k20 : Class := { plain "java/lang/constant/Constable" (some 0) with
  accessFlags := 1537
  interfaces := #[]
  cf := some (fileOf pool20 1 #[] #[] 1537 3 #[] #[])
  fields := #[]
  methods := #[]
  instanceTypes := #[]
  staticTypes := #[]
  resolved := Array.replicate 11 none
  statics := none }

def pool21 : Array CpInfo := pool [(1, .class_ 2), (0, u "java/lang/constant/ConstantDesc"), (0, .class_ 4), (0, u "java/lang/Object")] 32

/-- java/lang/constant/ConstantDesc -/
def k21 : Class := { plain "java/lang/constant/ConstantDesc" (some 0) with
  accessFlags := 1537
  interfaces := #[]
  cf := some (fileOf pool21 1 #[] #[] 1537 3 #[] #[])
  fields := #[]
  methods := #[]
  instanceTypes := #[]
  staticTypes := #[]
  resolved := Array.replicate 37 none
  statics := none }

def pool22 : Array CpInfo := pool [(1, .class_ 2), (0, u "java/lang/Integer"), (16, u "digits"), (0, u "[C"), (32, u "numberOfLeadingZeros"), (0, u "(I)I"), (30, u "DigitOnes"), (0, u "[B"), (2, u "DigitTens"), (99, .class_ 190), (0, u "java/lang/Integer$IntegerCache"), (3, u "I"), (8, .class_ 204), (0, u "java/lang/Number"), (2, u "value"), (56, .integer 65536), (37, u "TYPE"), (0, u "Ljava/lang/Class;"), (0, .class_ 305), (0, u "java/lang/Comparable"), (0, .class_ 307), (0, u "java/lang/constant/Constable"), (0, .class_ 309), (0, u "java/lang/constant/ConstantDesc"), (0, u "MIN_VALUE"), (1, u "MAX_VALUE"), (3, u "SIZE"), (1, u "BYTES"), (1, u "serialVersionUID"), (0, u "J")] 131

def k22c0 : Code := { maxStack := 3, maxLocals := 2, code := jdk_33_method_47_code, exceptionTable := #[], attributes := #[] }
def k22m0 : Method := { name := "numberOfLeadingZeros", desc := "(I)I", sig := { parameters := [.int], returnType := some .int }, accessFlags := 9, code := some k22c0 }
/-- java/lang/Integer -/
def k22 : Class := { plain "java/lang/Integer" (some 18) with
  accessFlags := 49
  interfaces := #[19, 20, 21]
  cf := some (fileOf pool22 1 #[.nestMembers #[189]] #[{ accessFlags := 9, nameIndex := 53, descriptorIndex := 54, attributes := #[] }] 49 203 #[304, 306, 308] #[{ accessFlags := 25, nameIndex := 310, descriptorIndex := 194, attributes := #[] }, { accessFlags := 25, nameIndex := 312, descriptorIndex := 194, attributes := #[] }, { accessFlags := 25, nameIndex := 302, descriptorIndex := 303, attributes := #[] }, { accessFlags := 24, nameIndex := 19, descriptorIndex := 20, attributes := #[] }, { accessFlags := 24, nameIndex := 89, descriptorIndex := 86, attributes := #[] }, { accessFlags := 24, nameIndex := 85, descriptorIndex := 86, attributes := #[] }, { accessFlags := 18, nameIndex := 207, descriptorIndex := 194, attributes := #[] }, { accessFlags := 25, nameIndex := 316, descriptorIndex := 194, attributes := #[] }, { accessFlags := 25, nameIndex := 318, descriptorIndex := 194, attributes := #[] }, { accessFlags := 26, nameIndex := 320, descriptorIndex := 321, attributes := #[] }])
  fields := #[{ name := "MIN_VALUE", type := .int, accessFlags := 25, slot := 0, constantValue := 0 }, { name := "MAX_VALUE", type := .int, accessFlags := 25, slot := 1, constantValue := 0 }, { name := "TYPE", type := (.object "java/lang/Class"), accessFlags := 25, slot := 2, constantValue := 0 }, { name := "digits", type := (.array .char), accessFlags := 24, slot := 3, constantValue := 0 }, { name := "DigitTens", type := (.array .byte), accessFlags := 24, slot := 4, constantValue := 0 }, { name := "DigitOnes", type := (.array .byte), accessFlags := 24, slot := 5, constantValue := 0 }, { name := "value", type := .int, accessFlags := 18, slot := 0, constantValue := 0 }, { name := "SIZE", type := .int, accessFlags := 25, slot := 6, constantValue := 0 }, { name := "BYTES", type := .int, accessFlags := 25, slot := 7, constantValue := 0 }, { name := "serialVersionUID", type := .long, accessFlags := 26, slot := 8, constantValue := 0 }]
  methods := #[k22m0]
  instanceTypes := #[.int]
  staticTypes := #[.int, .int, (.object "java/lang/Class"), (.array .char), (.array .byte), (.array .byte), .int, .int, .long]
  resolved := Array.replicate 453 none
  statics := none }

def pool23 : Array CpInfo := pool [(2, .class_ 4), (1, u "java/lang/Object"), (0, u "<init>"), (0, u "()V"), (7, .class_ 16), (1, u "java/util/Arrays"), (57, .class_ 76), (1, u "java/util/Arrays$NaturalOrder"), (36, .class_ 115), (1, u "java/util/Arrays$LegacyMergeSort"), (1, u "Z"), (257, .class_ 376), (0, u "java/util/Arrays$ArrayList"), (68, u "$assertionsDisabled"), (269, u "MIN_ARRAY_SORT_GRAN"), (0, u "I"), (2, u "INSERTIONSORT_THRESHOLD"), (120, u "fill"), (0, u "([JJ)V"), (133, .class_ 976), (0, u "java/util/Arrays$ArrayItr")] 52

def k23m0 : Method := { name := "<init>", desc := "()V", sig := { parameters := [], returnType := none }, accessFlags := 2, code := none }
def k23c1 : Code := { maxStack := 4, maxLocals := 5, code := jdk_65_method_101_code, exceptionTable := #[], attributes := #[] }
def k23m1 : Method := { name := "fill", desc := "([JJ)V", sig := { parameters := [(.array .long), .long], returnType := none }, accessFlags := 9, code := some k23c1 }
/-- java/util/Arrays -/
def k23 : Class := { plain "java/util/Arrays" (some 0) with
  accessFlags := 49
  interfaces := #[]
  cf := some (fileOf pool23 14 #[.nestMembers #[975, 375, 113, 74]] #[{ accessFlags := 2, nameIndex := 5, descriptorIndex := 6, attributes := #[] }, { accessFlags := 9, nameIndex := 840, descriptorIndex := 841, attributes := #[] }] 49 2 #[] #[{ accessFlags := 26, nameIndex := 715, descriptorIndex := 716, attributes := #[] }, { accessFlags := 26, nameIndex := 719, descriptorIndex := 716, attributes := #[] }, { accessFlags := 4120, nameIndex := 445, descriptorIndex := 117, attributes := #[] }])
  fields := #[{ name := "MIN_ARRAY_SORT_GRAN", type := .int, accessFlags := 26, slot := 0, constantValue := 0 }, { name := "INSERTIONSORT_THRESHOLD", type := .int, accessFlags := 26, slot := 1, constantValue := 0 }, { name := "$assertionsDisabled", type := .boolean, accessFlags := 4120, slot := 2, constantValue := 0 }]
  methods := #[k23m0, k23m1]
  instanceTypes := #[]
  staticTypes := #[.int, .int, .boolean]
  resolved := Array.replicate 1029 none
  statics := none }

/-- the primitive byte -/
def k24 : Class := { plain "byte" none with kind := .primitive 'B', accessFlags := 0x411 }
/-- [B -/
def k25 : Class := { plain "[B" (some 0) with kind := .array 24 .byte, interfaces := #[10, 11], accessFlags := 1041 }

/-- the primitive int -/
def k26 : Class := { plain "int" none with kind := .primitive 'I', accessFlags := 0x411 }
/-- [I -/
def k27 : Class := { plain "[I" (some 0) with kind := .array 26 .int, interfaces := #[10, 11], accessFlags := 1041 }

/-- the primitive long -/
def k28 : Class := { plain "long" none with kind := .primitive 'J', accessFlags := 0x411 }
/-- [J -/
def k29 : Class := { plain "[J" (some 0) with kind := .array 28 .long, interfaces := #[10, 11], accessFlags := 1041 }

/-- [Ljava/lang/Object; -/
def k30 : Class := { plain "[Ljava/lang/Object;" (some 0) with kind := .array 0 (.object "java/lang/Object"), interfaces := #[10, 11], accessFlags := 1041 }

def heap : Heap := #[{ cls := 12, slots := #[.long 0, .int 0, .ref 1, .ref 2], vm := .statics 12 },
  { cls := 30, slots := #[], vm := .none },
  { cls := 30, slots := #[], vm := .none }]
def classes : Array Class := #[k0, k1, k2, k3, k4, k5, k6, k7, k8, k9, k10, k11, k12, k13, k14, k15, k16, k17, k18, k19, k20, k21, k22, k23, k24, k25, k26, k27, k28, k29, k30]
def interned : List (Array UInt16 × Addr) := []
def slotsUsed : Nat := 4
def theMethod : MethodId := ⟨1, 4⟩
def args0 : Array Value := #[.long 5, .long 6, .int 7, .int 8, .int 9, .int 10]
def aboutOver (below : List Frame) : State where
  vm := { classes := classes, interned := interned.toArray }
  heap := heap
  slotsUsed := slotsUsed
  threads := #[{ frames := .invoking theMethod args0 :: below }]
def below0 : List Frame := [.native { method := ⟨0, 0⟩, args := #[] }]
def about1 : State := aboutOver below0
def p0 : Program := .bare "" "" ""
def e0 : Env := launch0.env 0 0 0
theorem w_frames : about1.frames = Frame.invoking theMethod args0 :: below0 := rfl
set_option maxRecDepth 65536 in
theorem w_args : argsFit about1.vm theMethod args0 = true := by decide +kernel
set_option maxRecDepth 65536 in
theorem w_heap : heapFits about1 = true := by decide +kernel
set_option maxRecDepth 65536 in
theorem w_runnable : about1.curStatus? = some .runnable := by decide +kernel
set_option maxRecDepth 65536 in
theorem w_alone : about1.alone = true := by decide +kernel
set_option maxRecDepth 65536 in
theorem w_named : about1.methodNamed? x = some theMethod := by decide +kernel
set_option maxRecDepth 65536 in
theorem w_hears : about1.hears theMethod below0 = true := by decide +kernel
set_option maxRecDepth 65536 in
theorem w_ripe : about1.ripe theMethod args0 below0 = true := by decide +kernel
theorem w_running : about1.status = .running := rfl
set_option maxRecDepth 65536 in
theorem w_room : about1.hasRoom e0.platform room_1 = true :=
  launch0.hasRoom_least _ room_1 (by decide +kernel) (by decide +kernel) (by decide +kernel) (by decide +kernel) (by decide +kernel) (by decide +kernel)
theorem allAtoms_all (ts : List Jvm.Cond) (a : Array Jvm.Value) (st : Jvm.State) : (allAtoms ts).before a st = ts.all (fun c => c.before a st) := by
  induction ts with
  | nil => rfl
  | cons c t ih =>
    show (Jvm.Cond.and c (allAtoms t)).before a st = _
    rw [Jvm.Cond.before_and, ih, List.all_cons]
def words1 : List Jvm.Cond := Jvm.Cond.code x code maxLocals ret :: tables_1
/-- a 'code' word, met by the world's own term for the bytes: nothing is compared byte by byte -/
theorem code_word {y : MethodName} {bytes : ByteArray} {mx : Nat} {rt : Option FieldType} {a : Array Value} {s : State} {m : MethodId} {meth : Method} {c : Code} (h1 : s.methodNamed? y = some m) (h2 : s.vm.method? m = some meth) (h3 : meth.code = some c) (h4 : c.code = bytes)
    (h5 : (c.maxLocals == mx && c.exceptionTable.isEmpty && decide (c.maxStack ≤ mostOperands) && decide (meth.sig.returnType = rt) && !meth.locks && decide (parseMethodDescriptor y.desc = some meth.sig)) = true) : (Jvm.Cond.code y bytes mx rt).before a s = true := by
  simp only [Bool.and_eq_true, beq_iff_eq, Bool.not_eq_true', decide_eq_true_eq] at h5
  obtain ⟨⟨⟨⟨⟨g1, g2⟩, g3⟩, g4⟩, g5⟩, g6⟩ := h5
  simp [Cond.before, Cond.holds, Cond.value, h1, h2, h3, h4, g1, g2, g3, g4, g5, g6]
def isCode : Jvm.Cond → Bool
  | .code _ _ _ _ => true
  | _ => false
theorem all_split {L : List Jvm.Cond} {P : Jvm.Cond → Bool} (h1 : L.all (fun c => isCode c || P c) = true) (h2 : ∀ c ∈ L.filter isCode, P c = true) : L.all P = true := by
  refine List.all_eq_true.mpr fun c hc => ?_
  have h := List.all_eq_true.mp h1 c hc
  rcases Bool.eq_false_or_eq_true (isCode c) with hi | hi
  · exact h2 c (List.mem_filter.mpr ⟨hc, hi⟩)
  · simpa [hi] using h
set_option maxRecDepth 65536 in
theorem w_c0 : (Jvm.Cond.code x code maxLocals ret).before args0 about1 = true := code_word (m := ⟨1, 4⟩) (meth := k1m4) (c := k1c4) (by decide +kernel) rfl rfl rfl (by decide +kernel)
set_option maxRecDepth 65536 in
theorem w_c1 : (Jvm.Cond.code ({ cls := "com/example/ken2/ken2/StateLayoutUnpackPinLaw", name := "size", desc := "(I)I" } : Jvm.MethodName) method_2_code (1 : Nat) (Option.some Jvm.ClassFile.FieldType.int)).before args0 about1 = true := code_word (m := ⟨1, 1⟩) (meth := k1m1) (c := k1c1) (by decide +kernel) rfl rfl rfl (by decide +kernel)
set_option maxRecDepth 65536 in
theorem w_c2 : (Jvm.Cond.code ({ cls := "java/lang/Math", name := "max", desc := "(II)I" } : Jvm.MethodName) jdk_29_method_65_code (2 : Nat) (Option.some Jvm.ClassFile.FieldType.int)).before args0 about1 = true := code_word (m := ⟨2, 1⟩) (meth := k2m1) (c := k2c1) (by decide +kernel) rfl rfl rfl (by decide +kernel)
set_option maxRecDepth 65536 in
theorem w_c3 : (Jvm.Cond.code ({ cls := "java/util/ArrayList", name := "<init>", desc := "()V" } : Jvm.MethodName) jdk_38_method_2_code (1 : Nat) (Option.none : Option Jvm.ClassFile.FieldType)).before args0 about1 = true := code_word (m := ⟨12, 0⟩) (meth := k12m0) (c := k12c0) (by decide +kernel) rfl rfl rfl (by decide +kernel)
set_option maxRecDepth 65536 in
theorem w_c4 : (Jvm.Cond.code ({ cls := "java/util/AbstractList", name := "<init>", desc := "()V" } : Jvm.MethodName) jdk_39_method_1_code (1 : Nat) (Option.none : Option Jvm.ClassFile.FieldType)).before args0 about1 = true := code_word (m := ⟨8, 0⟩) (meth := k8m0) (c := k8c0) (by decide +kernel) rfl rfl rfl (by decide +kernel)
set_option maxRecDepth 65536 in
theorem w_c5 : (Jvm.Cond.code ({ cls := "java/util/AbstractCollection", name := "<init>", desc := "()V" } : Jvm.MethodName) jdk_22_method_1_code (1 : Nat) (Option.none : Option Jvm.ClassFile.FieldType)).before args0 about1 = true := code_word (m := ⟨5, 0⟩) (meth := k5m0) (c := k5c0) (by decide +kernel) rfl rfl rfl (by decide +kernel)
set_option maxRecDepth 65536 in
theorem w_c6 : (Jvm.Cond.code ({ cls := "java/lang/Object", name := "<init>", desc := "()V" } : Jvm.MethodName) object_method_1_code (1 : Nat) (Option.none : Option Jvm.ClassFile.FieldType)).before args0 about1 = true := code_word (m := ⟨0, 0⟩) (meth := k0m0) (c := k0c0) (by decide +kernel) rfl rfl rfl (by decide +kernel)
set_option maxRecDepth 65536 in
theorem w_c7 : (Jvm.Cond.code ({ cls := "com/example/ken2/ken2/InterpretedSystem$Variable", name := "<init>", desc := "(Ljava/lang/String;Ljava/lang/String;Ljava/util/List;II)V" } : Jvm.MethodName) prog_64_method_1_code (6 : Nat) (Option.none : Option Jvm.ClassFile.FieldType)).before args0 about1 = true := code_word (m := ⟨14, 0⟩) (meth := k14m0) (c := k14c0) (by decide +kernel) rfl rfl rfl (by decide +kernel)
set_option maxRecDepth 65536 in
theorem w_c8 : (Jvm.Cond.code ({ cls := "java/lang/Record", name := "<init>", desc := "()V" } : Jvm.MethodName) jdk_30_method_1_code (1 : Nat) (Option.none : Option Jvm.ClassFile.FieldType)).before args0 about1 = true := code_word (m := ⟨13, 0⟩) (meth := k13m0) (c := k13c0) (by decide +kernel) rfl rfl rfl (by decide +kernel)
set_option maxRecDepth 65536 in
theorem w_c9 : (Jvm.Cond.code ({ cls := "java/util/ArrayList", name := "add", desc := "(Ljava/lang/Object;)Z" } : Jvm.MethodName) jdk_38_method_25_code (2 : Nat) (Option.some Jvm.ClassFile.FieldType.boolean)).before args0 about1 = true := code_word (m := ⟨12, 7⟩) (meth := k12m7) (c := k12c7) (by decide +kernel) rfl rfl rfl (by decide +kernel)
set_option maxRecDepth 65536 in
theorem w_c10 : (Jvm.Cond.code ({ cls := "java/util/ArrayList", name := "add", desc := "(Ljava/lang/Object;[Ljava/lang/Object;I)V" } : Jvm.MethodName) jdk_38_method_24_code (4 : Nat) (Option.none : Option Jvm.ClassFile.FieldType)).before args0 about1 = true := code_word (m := ⟨12, 6⟩) (meth := k12m6) (c := k12c6) (by decide +kernel) rfl rfl rfl (by decide +kernel)
set_option maxRecDepth 65536 in
theorem w_c11 : (Jvm.Cond.code ({ cls := "java/util/ArrayList", name := "grow", desc := "()[Ljava/lang/Object;" } : Jvm.MethodName) jdk_38_method_7_code (1 : Nat) (Option.some (Jvm.ClassFile.FieldType.array (Jvm.ClassFile.FieldType.object "java/lang/Object")))).before args0 about1 = true := code_word (m := ⟨12, 2⟩) (meth := k12m2) (c := k12c2) (by decide +kernel) rfl rfl rfl (by decide +kernel)
set_option maxRecDepth 65536 in
theorem w_c12 : (Jvm.Cond.code ({ cls := "java/util/ArrayList", name := "grow", desc := "(I)[Ljava/lang/Object;" } : Jvm.MethodName) jdk_38_method_6_code (4 : Nat) (Option.some (Jvm.ClassFile.FieldType.array (Jvm.ClassFile.FieldType.object "java/lang/Object")))).before args0 about1 = true := code_word (m := ⟨12, 1⟩) (meth := k12m1) (c := k12c1) (by decide +kernel) rfl rfl rfl (by decide +kernel)
set_option maxRecDepth 65536 in
theorem w_c13 : (Jvm.Cond.code ({ cls := "com/example/ken2/ken2/StateLayout", name := "<init>", desc := "(Ljava/util/List;)V" } : Jvm.MethodName) prog_112_method_1_code (7 : Nat) (Option.none : Option Jvm.ClassFile.FieldType)).before args0 about1 = true := code_word (m := ⟨15, 0⟩) (meth := k15m0) (c := k15c0) (by decide +kernel) rfl rfl rfl (by decide +kernel)
set_option maxRecDepth 65536 in
theorem w_c14 : (Jvm.Cond.code ({ cls := "java/util/ArrayList", name := "size", desc := "()I" } : Jvm.MethodName) jdk_38_method_8_code (1 : Nat) (Option.some Jvm.ClassFile.FieldType.int)).before args0 about1 = true := code_word (m := ⟨12, 3⟩) (meth := k12m3) (c := k12c3) (by decide +kernel) rfl rfl rfl (by decide +kernel)
set_option maxRecDepth 65536 in
theorem w_c15 : (Jvm.Cond.code ({ cls := "java/util/ArrayList", name := "get", desc := "(I)Ljava/lang/Object;" } : Jvm.MethodName) jdk_38_method_20_code (2 : Nat) (Option.some (Jvm.ClassFile.FieldType.object "java/lang/Object"))).before args0 about1 = true := code_word (m := ⟨12, 5⟩) (meth := k12m5) (c := k12c5) (by decide +kernel) rfl rfl rfl (by decide +kernel)
set_option maxRecDepth 65536 in
theorem w_c16 : (Jvm.Cond.code ({ cls := "java/util/Objects", name := "checkIndex", desc := "(II)I" } : Jvm.MethodName) jdk_31_method_17_code (2 : Nat) (Option.some Jvm.ClassFile.FieldType.int)).before args0 about1 = true := code_word (m := ⟨16, 1⟩) (meth := k16m1) (c := k16c1) (by decide +kernel) rfl rfl rfl (by decide +kernel)
set_option maxRecDepth 65536 in
theorem w_c17 : (Jvm.Cond.code ({ cls := "jdk/internal/util/Preconditions", name := "checkIndex", desc := "(IILjava/util/function/BiFunction;)I" } : Jvm.MethodName) jdk_41_method_11_code (3 : Nat) (Option.some Jvm.ClassFile.FieldType.int)).before args0 about1 = true := code_word (m := ⟨17, 1⟩) (meth := k17m1) (c := k17c1) (by decide +kernel) rfl rfl rfl (by decide +kernel)
set_option maxRecDepth 65536 in
theorem w_c18 : (Jvm.Cond.code ({ cls := "java/util/ArrayList", name := "elementData", desc := "(I)Ljava/lang/Object;" } : Jvm.MethodName) jdk_38_method_18_code (2 : Nat) (Option.some (Jvm.ClassFile.FieldType.object "java/lang/Object"))).before args0 about1 = true := code_word (m := ⟨12, 4⟩) (meth := k12m4) (c := k12c4) (by decide +kernel) rfl rfl rfl (by decide +kernel)
set_option maxRecDepth 65536 in
theorem w_c19 : (Jvm.Cond.code ({ cls := "com/example/ken2/ken2/InterpretedSystem$Variable", name := "size", desc := "()I" } : Jvm.MethodName) prog_64_method_15_code (1 : Nat) (Option.some Jvm.ClassFile.FieldType.int)).before args0 about1 = true := code_word (m := ⟨14, 1⟩) (meth := k14m1) (c := k14c1) (by decide +kernel) rfl rfl rfl (by decide +kernel)
set_option maxRecDepth 65536 in
theorem w_c20 : (Jvm.Cond.code ({ cls := "java/lang/Integer", name := "numberOfLeadingZeros", desc := "(I)I" } : Jvm.MethodName) jdk_33_method_47_code (2 : Nat) (Option.some Jvm.ClassFile.FieldType.int)).before args0 about1 = true := code_word (m := ⟨22, 0⟩) (meth := k22m0) (c := k22c0) (by decide +kernel) rfl rfl rfl (by decide +kernel)
set_option maxRecDepth 65536 in
theorem w_c21 : (Jvm.Cond.code ({ cls := "com/example/ken2/ken2/StateLayoutUnpackPinLaw", name := "val", desc := "(II)I" } : Jvm.MethodName) method_3_code (2 : Nat) (Option.some Jvm.ClassFile.FieldType.int)).before args0 about1 = true := code_word (m := ⟨1, 2⟩) (meth := k1m2) (c := k1c2) (by decide +kernel) rfl rfl rfl (by decide +kernel)
set_option maxRecDepth 65536 in
theorem w_c22 : (Jvm.Cond.code ({ cls := "com/example/ken2/ken2/StateLayout", name := "pack", desc := "([I[J)V" } : Jvm.MethodName) prog_112_method_3_code (4 : Nat) (Option.none : Option Jvm.ClassFile.FieldType)).before args0 about1 = true := code_word (m := ⟨15, 1⟩) (meth := k15m1) (c := k15c1) (by decide +kernel) rfl rfl rfl (by decide +kernel)
set_option maxRecDepth 65536 in
theorem w_c23 : (Jvm.Cond.code ({ cls := "java/util/Arrays", name := "fill", desc := "([JJ)V" } : Jvm.MethodName) jdk_65_method_101_code (5 : Nat) (Option.none : Option Jvm.ClassFile.FieldType)).before args0 about1 = true := code_word (m := ⟨23, 1⟩) (meth := k23m1) (c := k23c1) (by decide +kernel) rfl rfl rfl (by decide +kernel)
set_option maxRecDepth 65536 in
theorem w_c24 : (Jvm.Cond.code ({ cls := "com/example/ken2/ken2/StateLayout", name := "unpack", desc := "([J[I)V" } : Jvm.MethodName) prog_112_method_4_code (4 : Nat) (Option.none : Option Jvm.ClassFile.FieldType)).before args0 about1 = true := code_word (m := ⟨15, 2⟩) (meth := k15m2) (c := k15c2) (by decide +kernel) rfl rfl rfl (by decide +kernel)
set_option maxRecDepth 65536 in
theorem w_c25 : (Jvm.Cond.code ({ cls := "com/example/ken2/ken2/StateLayoutUnpackPinLaw", name := "bounded", desc := "(II)Z" } : Jvm.MethodName) method_4_code (2 : Nat) (Option.some Jvm.ClassFile.FieldType.boolean)).before args0 about1 = true := code_word (m := ⟨1, 3⟩) (meth := k1m3) (c := k1c3) (by decide +kernel) rfl rfl rfl (by decide +kernel)
def codes1 : List Jvm.Cond := [Jvm.Cond.code x code maxLocals ret, Jvm.Cond.code ({ cls := "com/example/ken2/ken2/StateLayoutUnpackPinLaw", name := "size", desc := "(I)I" } : Jvm.MethodName) method_2_code (1 : Nat) (Option.some Jvm.ClassFile.FieldType.int), Jvm.Cond.code ({ cls := "java/lang/Math", name := "max", desc := "(II)I" } : Jvm.MethodName) jdk_29_method_65_code (2 : Nat) (Option.some Jvm.ClassFile.FieldType.int), Jvm.Cond.code ({ cls := "java/util/ArrayList", name := "<init>", desc := "()V" } : Jvm.MethodName) jdk_38_method_2_code (1 : Nat) (Option.none : Option Jvm.ClassFile.FieldType), Jvm.Cond.code ({ cls := "java/util/AbstractList", name := "<init>", desc := "()V" } : Jvm.MethodName) jdk_39_method_1_code (1 : Nat) (Option.none : Option Jvm.ClassFile.FieldType), Jvm.Cond.code ({ cls := "java/util/AbstractCollection", name := "<init>", desc := "()V" } : Jvm.MethodName) jdk_22_method_1_code (1 : Nat) (Option.none : Option Jvm.ClassFile.FieldType), Jvm.Cond.code ({ cls := "java/lang/Object", name := "<init>", desc := "()V" } : Jvm.MethodName) object_method_1_code (1 : Nat) (Option.none : Option Jvm.ClassFile.FieldType), Jvm.Cond.code ({ cls := "com/example/ken2/ken2/InterpretedSystem$Variable", name := "<init>", desc := "(Ljava/lang/String;Ljava/lang/String;Ljava/util/List;II)V" } : Jvm.MethodName) prog_64_method_1_code (6 : Nat) (Option.none : Option Jvm.ClassFile.FieldType), Jvm.Cond.code ({ cls := "java/lang/Record", name := "<init>", desc := "()V" } : Jvm.MethodName) jdk_30_method_1_code (1 : Nat) (Option.none : Option Jvm.ClassFile.FieldType), Jvm.Cond.code ({ cls := "java/util/ArrayList", name := "add", desc := "(Ljava/lang/Object;)Z" } : Jvm.MethodName) jdk_38_method_25_code (2 : Nat) (Option.some Jvm.ClassFile.FieldType.boolean), Jvm.Cond.code ({ cls := "java/util/ArrayList", name := "add", desc := "(Ljava/lang/Object;[Ljava/lang/Object;I)V" } : Jvm.MethodName) jdk_38_method_24_code (4 : Nat) (Option.none : Option Jvm.ClassFile.FieldType), Jvm.Cond.code ({ cls := "java/util/ArrayList", name := "grow", desc := "()[Ljava/lang/Object;" } : Jvm.MethodName) jdk_38_method_7_code (1 : Nat) (Option.some (Jvm.ClassFile.FieldType.array (Jvm.ClassFile.FieldType.object "java/lang/Object"))), Jvm.Cond.code ({ cls := "java/util/ArrayList", name := "grow", desc := "(I)[Ljava/lang/Object;" } : Jvm.MethodName) jdk_38_method_6_code (4 : Nat) (Option.some (Jvm.ClassFile.FieldType.array (Jvm.ClassFile.FieldType.object "java/lang/Object"))), Jvm.Cond.code ({ cls := "com/example/ken2/ken2/StateLayout", name := "<init>", desc := "(Ljava/util/List;)V" } : Jvm.MethodName) prog_112_method_1_code (7 : Nat) (Option.none : Option Jvm.ClassFile.FieldType), Jvm.Cond.code ({ cls := "java/util/ArrayList", name := "size", desc := "()I" } : Jvm.MethodName) jdk_38_method_8_code (1 : Nat) (Option.some Jvm.ClassFile.FieldType.int), Jvm.Cond.code ({ cls := "java/util/ArrayList", name := "get", desc := "(I)Ljava/lang/Object;" } : Jvm.MethodName) jdk_38_method_20_code (2 : Nat) (Option.some (Jvm.ClassFile.FieldType.object "java/lang/Object")), Jvm.Cond.code ({ cls := "java/util/Objects", name := "checkIndex", desc := "(II)I" } : Jvm.MethodName) jdk_31_method_17_code (2 : Nat) (Option.some Jvm.ClassFile.FieldType.int), Jvm.Cond.code ({ cls := "jdk/internal/util/Preconditions", name := "checkIndex", desc := "(IILjava/util/function/BiFunction;)I" } : Jvm.MethodName) jdk_41_method_11_code (3 : Nat) (Option.some Jvm.ClassFile.FieldType.int), Jvm.Cond.code ({ cls := "java/util/ArrayList", name := "elementData", desc := "(I)Ljava/lang/Object;" } : Jvm.MethodName) jdk_38_method_18_code (2 : Nat) (Option.some (Jvm.ClassFile.FieldType.object "java/lang/Object")), Jvm.Cond.code ({ cls := "com/example/ken2/ken2/InterpretedSystem$Variable", name := "size", desc := "()I" } : Jvm.MethodName) prog_64_method_15_code (1 : Nat) (Option.some Jvm.ClassFile.FieldType.int), Jvm.Cond.code ({ cls := "java/lang/Integer", name := "numberOfLeadingZeros", desc := "(I)I" } : Jvm.MethodName) jdk_33_method_47_code (2 : Nat) (Option.some Jvm.ClassFile.FieldType.int), Jvm.Cond.code ({ cls := "com/example/ken2/ken2/StateLayoutUnpackPinLaw", name := "val", desc := "(II)I" } : Jvm.MethodName) method_3_code (2 : Nat) (Option.some Jvm.ClassFile.FieldType.int), Jvm.Cond.code ({ cls := "com/example/ken2/ken2/StateLayout", name := "pack", desc := "([I[J)V" } : Jvm.MethodName) prog_112_method_3_code (4 : Nat) (Option.none : Option Jvm.ClassFile.FieldType), Jvm.Cond.code ({ cls := "java/util/Arrays", name := "fill", desc := "([JJ)V" } : Jvm.MethodName) jdk_65_method_101_code (5 : Nat) (Option.none : Option Jvm.ClassFile.FieldType), Jvm.Cond.code ({ cls := "com/example/ken2/ken2/StateLayout", name := "unpack", desc := "([J[I)V" } : Jvm.MethodName) prog_112_method_4_code (4 : Nat) (Option.none : Option Jvm.ClassFile.FieldType), Jvm.Cond.code ({ cls := "com/example/ken2/ken2/StateLayoutUnpackPinLaw", name := "bounded", desc := "(II)Z" } : Jvm.MethodName) method_4_code (2 : Nat) (Option.some Jvm.ClassFile.FieldType.boolean)]
set_option maxRecDepth 65536 in
theorem codes_eq : words1.filter isCode = codes1 := rfl
theorem w_codes : ∀ c ∈ words1.filter isCode, c.before args0 about1 = true := by
  rw [codes_eq]
  intro c hc
  simp only [codes1, List.mem_cons, List.not_mem_nil, or_false] at hc
  rcases hc with rfl | rfl | rfl | rfl | rfl | rfl | rfl | rfl | rfl | rfl | rfl | rfl | rfl | rfl | rfl | rfl | rfl | rfl | rfl | rfl | rfl | rfl | rfl | rfl | rfl | rfl
  · exact w_c0
  · exact w_c1
  · exact w_c2
  · exact w_c3
  · exact w_c4
  · exact w_c5
  · exact w_c6
  · exact w_c7
  · exact w_c8
  · exact w_c9
  · exact w_c10
  · exact w_c11
  · exact w_c12
  · exact w_c13
  · exact w_c14
  · exact w_c15
  · exact w_c16
  · exact w_c17
  · exact w_c18
  · exact w_c19
  · exact w_c20
  · exact w_c21
  · exact w_c22
  · exact w_c23
  · exact w_c24
  · exact w_c25
set_option maxRecDepth 65536 in
theorem w_t1 : (words1.take 24).all (fun c => isCode c || c.before args0 about1) = true := by decide +kernel
set_option maxRecDepth 65536 in
theorem w_t2 : ((words1.drop 24).take 24).all (fun c => isCode c || c.before args0 about1) = true := by decide +kernel
set_option maxRecDepth 65536 in
theorem w_t3 : (((words1.drop 24).drop 24).take 24).all (fun c => isCode c || c.before args0 about1) = true := by decide +kernel
set_option maxRecDepth 65536 in
theorem w_t4 : ((((words1.drop 24).drop 24).drop 24).take 24).all (fun c => isCode c || c.before args0 about1) = true := by decide +kernel
set_option maxRecDepth 65536 in
theorem w_t5 : (((((words1.drop 24).drop 24).drop 24).drop 24).take 24).all (fun c => isCode c || c.before args0 about1) = true := by decide +kernel
set_option maxRecDepth 65536 in
theorem w_t6 : ((((((words1.drop 24).drop 24).drop 24).drop 24).drop 24).take 24).all (fun c => isCode c || c.before args0 about1) = true := by decide +kernel
set_option maxRecDepth 65536 in
theorem w_t7 : ((((((words1.drop 24).drop 24).drop 24).drop 24).drop 24).drop 24).all (fun c => isCode c || c.before args0 about1) = true := by decide +kernel
theorem w_tables : (allAtoms (Jvm.Cond.code x code maxLocals ret :: tables_1)).before args0 about1 = true := by
  rw [allAtoms_all]
  show words1.all (fun c => c.before args0 about1) = true
  refine all_split ?_ w_codes
  rw [← List.take_append_drop 24 words1, List.all_append, w_t1, ← List.take_append_drop 24 (words1.drop 24), List.all_append, w_t2, ← List.take_append_drop 24 ((words1.drop 24).drop 24), List.all_append, w_t3, ← List.take_append_drop 24 (((words1.drop 24).drop 24).drop 24), List.all_append, w_t4, ← List.take_append_drop 24 ((((words1.drop 24).drop 24).drop 24).drop 24), List.all_append, w_t5, ← List.take_append_drop 24 (((((words1.drop 24).drop 24).drop 24).drop 24).drop 24), List.all_append, w_t6, w_t7]
  rfl
set_option maxRecDepth 65536 in
theorem w_rest : rest_1_c.before args0 about1 = true := by decide +kernel
set_option maxRecDepth 65536 in
theorem w_case : (Jvm.Cond.and given_1 narrow_1).before args0 about1 = true := by decide +kernel
theorem w_applies : (headSpec (Jvm.Cond.code x code maxLocals ret :: tables_1) room_1).applies x e0.platform about1 = true :=
  (Spec.applies_iff w_frames).mpr ⟨w_running, w_runnable, w_alone, w_named, w_hears, w_ripe, w_room, w_tables⟩
theorem atStart : AtStart classFile x code maxLocals ret World_1 tables_1 room_1 Calls_1 rest_1 Pre_1 launch0 p0 e0 about1 theMethod args0 below0 :=
  ⟨lists_1, trivial, launch0.admits_env _ _ _, launch0.least_env, fairChoices_fair.cas, fairChoices_fair.clock, w_frames, w_args, w_heap, w_applies, trivial, w_rest, w_case⟩
end start1
theorem witness_1 : WitnessClaimed_1 := ⟨start1.p0, start1.e0, start1.about1, start1.theMethod, start1.args0, start1.below0, start1.atStart⟩
end Jvm.Pilot.@@N@@
