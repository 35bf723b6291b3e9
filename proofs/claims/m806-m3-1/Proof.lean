import JvmDerived
import JvmDerived.Pilot.@@N@@Statement
import JvmDerived.Pilot.@@N@@Code
set_option linter.unusedVariables false
set_option linter.unusedSimpArgs false
@@BLOCK:NumsL.lean.txt@@
namespace Jvm.RoadKit
open Sem ClassFile Op Lib Jvm.Stand Jvm.Free Jvm.LawKit
section OwnKit
theorem wm {α : Type} {l : List α} {a : α} (i : Nat) (h : l[i]? = some a) : a ∈ l := List.mem_of_getElem? h
variable {p : Program} {l : Launch} {e : Env} {R : Room} {s : State} {m : MethodId} {args : Array Value} {below : List Frame} {meth : Method} {c : Code} {T T' : State} {locs locs' : List Loc} {k n k' n' : Nat} {Z : State} {a0 : Array Value} {h h' h0 : Heap}
theorem retI (X : Stand p l e R s m args below meth c T locs k n) (hx : p.tables.exec = Jvm.exec) {pc : Nat} {Ls : Array Slot} {z : Int32} {rest : List Value} (hret : meth.sig.returnType = some .int) (hd : decode c.code pc = .ok (.ireturn, 1)) {fs : List Frame}
    (hl : ∀ (f : JFrame) (acts : List Action), f.method = m → f.locked = none → f.entered = [] → (doReturn e (T.setTop f) acts (some (.int z))).1 = T.setFrames fs) : Steps p.tables e below (T.setTop (mkF m pc Ls (.int z :: rest))) (T.setFrames fs) := by
  have hm' : T.vm.method? m = some meth := X.method'
  have hn : narrow .int (.int z) = .int z := rfl
  show Steps p.tables e below (T.setTop { method := m, pc := pc, locals := Ls, stack := _ :: rest, locked := none }) _
  jvm_step X.here [X.here.top, hx, hd, hm', hret, hn]
  first | (intro acts; rw [hl _ acts rfl rfl rfl]) | rw [hl _ _ rfl rfl rfl]
  exact Steps.refl _
/-- how a body may end: the instruction, the method's return type, what lies on the stack, what is handed back -/
def OwnRet (i : Instr) (ret : Option FieldType) (w v : Option Value) : Prop :=
  (i = .ireturn ∧ ∃ z : Int32, ret = some .int ∧ w = some (.int z) ∧ v = some (.int z)) ∨
  (i = .ireturn ∧ ∃ (t : FieldType) (z : Int32), ret = some t ∧ (t = .boolean ∨ t = .byte ∨ t = .char ∨ t = .short) ∧ w = some (.int z) ∧ v = some (.int (nar t z))) ∨
  (i = .lreturn ∧ ret = some .long ∧ ∃ z : Int64, w = some (.long z) ∧ v = some (.long z)) ∨
  (i = .areturn ∧ ∃ (t : FieldType) (u : Value), ret = some t ∧ t.isReference = true ∧ u.isRef = true ∧ narrow t u = u ∧ w = some u ∧ v = some u) ∨
  (i = .return_ ∧ ret = none ∧ w = none ∧ v = none)
/-- from the frame g the body comes to its return and leaves what Q says -/
def OwnFin (_X : Stand p l e R s m args below meth c T locs k n) (ret : Option FieldType) (Q : Option Value → Heap → List Loc → Prop) (K N : Nat) (g : JFrame) : Prop :=
  ∃ (i : Instr) (w v : Option Value) (T' : State) (locs' : List Loc) (k' n' pcr : Nat) (Ls : Array Slot), OwnRet i ret w v ∧ Stand p l e R s m args below meth c T' locs' k' n' ∧ k' ≤ K ∧ n' ≤ N ∧ Q v T'.heap locs' ∧ decode c.code pcr = .ok (i, 1) ∧
    ∀ t, Steps p.tables e below (T'.setTop (mkF m pcr Ls w.toList)) t → Steps p.tables e below (T.setTop g) t
variable {ret : Option FieldType} {Q : Option Value → Heap → List Loc → Prop} {K N : Nat} {g g' : JFrame}
theorem OwnFin.step {X : Stand p l e R s m args below meth c T locs k n} (X' : Stand p l e R s m args below meth c T' locs' k' n') (hs : ∀ t, Steps p.tables e below (T'.setTop g') t → Steps p.tables e below (T.setTop g) t) (hF : OwnFin X' ret Q K N g') : OwnFin X ret Q K N g := by
  obtain ⟨i, w, v, T2, locs2, k2, n2, pcr, Ls, h1, h2, h3, h4, h5, h6, h7⟩ := hF
  exact ⟨i, w, v, T2, locs2, k2, n2, pcr, Ls, h1, h2, h3, h4, h5, h6, fun t k => hs t (h7 t k)⟩
theorem ost (g' : JFrame) {X : Stand p l e R s m args below meth c T locs k n} (X' : Stand p l e R s m args below meth c T' locs' k' n') (hs : ∀ t, Steps p.tables e below (T'.setTop g') t → Steps p.tables e below (T.setTop g) t) (hF : OwnFin X' ret Q K N g') : OwnFin X ret Q K N g := OwnFin.step X' hs hF
theorem OwnFin.retInt (X : Stand p l e R s m args below meth c T locs k n) {pc : Nat} {Ls : Array Slot} {z : Int32} (hd : decode c.code pc = .ok (.ireturn, 1)) (hk : k ≤ K) (hn : n ≤ N) (hQ : Q (some (.int z)) T.heap locs) : OwnFin X (some .int) Q K N (mkF m pc Ls [.int z]) :=
  ⟨.ireturn, some (.int z), _, T, locs, k, n, pc, Ls, Or.inl ⟨rfl, z, rfl, rfl, rfl⟩, X, hk, hn, hQ, hd, fun _ k => k⟩
theorem OwnFin.retNar (X : Stand p l e R s m args below meth c T locs k n) {t : FieldType} (ht : t = .boolean ∨ t = .byte ∨ t = .char ∨ t = .short) {pc : Nat} {Ls : Array Slot} {z : Int32} (hd : decode c.code pc = .ok (.ireturn, 1)) (hk : k ≤ K) (hn : n ≤ N) (hQ : Q (some (.int (nar t z))) T.heap locs) : OwnFin X (some t) Q K N (mkF m pc Ls [.int z]) :=
  ⟨.ireturn, some (.int z), _, T, locs, k, n, pc, Ls, Or.inr (Or.inl ⟨rfl, t, z, rfl, ht, rfl, rfl⟩), X, hk, hn, hQ, hd, fun _ k => k⟩
theorem OwnFin.retLong (X : Stand p l e R s m args below meth c T locs k n) {pc : Nat} {Ls : Array Slot} {z : Int64} (hd : decode c.code pc = .ok (.lreturn, 1)) (hk : k ≤ K) (hn : n ≤ N) (hQ : Q (some (.long z)) T.heap locs) : OwnFin X (some .long) Q K N (mkF m pc Ls [.long z]) :=
  ⟨.lreturn, some (.long z), _, T, locs, k, n, pc, Ls, Or.inr (Or.inr (Or.inl ⟨rfl, rfl, z, rfl, rfl⟩)), X, hk, hn, hQ, hd, fun _ k => k⟩
theorem OwnFin.retRef (X : Stand p l e R s m args below meth c T locs k n) {t : FieldType} {u : Value} (ht : t.isReference = true) (hu : u.isRef = true) (hnw : narrow t u = u) {pc : Nat} {Ls : Array Slot} (hd : decode c.code pc = .ok (.areturn, 1)) (hk : k ≤ K) (hn : n ≤ N) (hQ : Q (some u) T.heap locs) : OwnFin X (some t) Q K N (mkF m pc Ls [u]) :=
  ⟨.areturn, some u, _, T, locs, k, n, pc, Ls, Or.inr (Or.inr (Or.inr (Or.inl ⟨rfl, t, u, rfl, ht, hu, hnw, rfl, rfl⟩))), X, hk, hn, hQ, hd, fun _ k => k⟩
theorem OwnFin.retVoid (X : Stand p l e R s m args below meth c T locs k n) {pc : Nat} {Ls : Array Slot} (hd : decode c.code pc = .ok (.return_, 1)) (hk : k ≤ K) (hn : n ≤ N) (hQ : Q none T.heap locs) : OwnFin X none Q K N (mkF m pc Ls []) :=
  ⟨.return_, none, _, T, locs, k, n, pc, Ls, Or.inr (Or.inr (Or.inr (Or.inr ⟨rfl, rfl, rfl, rfl⟩))), X, hk, hn, hQ, hd, fun _ k => k⟩
theorem own_met {y : MethodName} {bytes : ByteArray} {maxL : Nat} {rm : Room} {ws : List Jvm.Cond} {as' : Array Value} {Ls : Array Slot} (hpf : plainFor y = true) (hent : ∀ m, entryFrame m as' maxL = mkF m 0 Ls [])
    (H : ∀ p e s m below meth c s₁ (X : Stand p l e rm s m as' below meth c s₁ [] 0 0), p.tables.exec = Jvm.exec → c.code = bytes → c.maxLocals = maxL → s.vm.findClass y.cls = some m.cls → meth.name = y.name → Z.Warmed39 s.vm → s₁.heap = h0 → OwnFin X ret Q rm.cells rm.slots (mkF m 0 Ls [])) :
    MetFree l y (head1 (Jvm.Cond.code y bytes maxL ret :: ws) rm) (fun a U => a = as' ∧ Z.Warmed39 U.vm ∧ U.heap = h0) (fun _ _ _ _ _ => True) (fun _ U o U' => ∃ v L, o = .returned v ∧ Q v U'.heap L ∧ FrameEnd U o U' L rm.cells rm.slots) := by
  refine MetFree.of_bodySF hpf hisR ?_
  intro p e s m args below meth c s₁ Bd hml0 hP hK
  obtain ⟨rfl, hZ, hh⟩ := hP
  have hx := Bd.exec
  have hby := Bd.bytes
  have hown : s.vm.findClass y.cls = some m.cls := findClass_of_methodNamed Bd.named
  have hnm := (name_of_methodNamed Bd.named Bd.method).1
  have X0 : Stand p l e rm s m args below meth c s₁ [] 0 0 := Stand.of_body Bd
  have e0 : s₁.heap = h0 := by rw [← hh, Bd.state]; rfl
  obtain ⟨i, w, v, T2, locs2, k2, n2, pcr, Ls2, h1, X2, h3, h4, h5, h6, h7⟩ := H p e s m below meth c s₁ X0 hx hby hml0 hown hnm hZ e0
  have hret := Bd.returns
  have hv : meth.sig.returnType = none → v = none := by
    intro q
    rw [hret] at q
    rcases h1 with ⟨-, z, hr, -⟩ | ⟨-, t, z, hr, -⟩ | ⟨-, hr, -⟩ | ⟨-, t, u, hr, -⟩ | ⟨-, -, -, hr⟩
    · rw [hr] at q; cases q
    · rw [hr] at q; cases q
    · rw [hr] at q; cases q
    · rw [hr] at q; cases q
    · exact hr
  obtain ⟨fs, hr, hrun, hended, hW, hsame⟩ := X2.leave (v := v) hv
  refine ⟨_, _, ?_, hrun, hended, _, _, rfl, h5, ⟨_, rfl⟩, hW, hsame.mono h3 h4⟩
  rw [hent]
  apply h7
  rcases h1 with ⟨rfl, z, rfl, rfl, rfl⟩ | ⟨rfl, t, z, rfl, ht, rfl, rfl⟩ | ⟨rfl, rfl, z, rfl, rfl⟩ | ⟨rfl, t, u, rfl, ht, hu, hnw, rfl, rfl⟩ | ⟨rfl, rfl, rfl, rfl⟩
  · exact retI X2 hx hret h6 hr
  · exact retN X2 hx hret ht h6 hr
  · exact retOut X2 hx hret rfl (Or.inr (Or.inl ⟨rfl, rfl, z, rfl⟩)) h6 hr
  · exact retOut X2 hx hret hnw (Or.inr (Or.inr (Or.inr (Or.inr ⟨rfl, ht, hu⟩)))) h6 hr
  · exact X2.returnOut hx hret h6 hr
theorem OwnFin.wide {X : Stand p l e R s m args below meth c T locs k n} {K' N' : Nat} (F : OwnFin X ret Q K N g) (h1 : K ≤ K') (h2 : N ≤ N') : OwnFin X ret Q K' N' g := by
  obtain ⟨i, w, v, T2, locs2, k2, n2, pcr, Ls, q1, q2, q3, q4, q5, q6, q7⟩ := F
  exact ⟨i, w, v, T2, locs2, k2, n2, pcr, Ls, q1, q2, Nat.le_trans q3 h1, Nat.le_trans q4 h2, q5, q6, q7⟩
/-- a callee that leaves the heap alone: what it hands back -/
def PQ (w : Option Value) (h0 : Heap) (n0 : Nat) : Option Value → Heap → List Loc → Prop := fun v h L => v = w ∧ h = h0 ∧ Fr n0 L
def LQ (n0 : Nat) : Option Value → Heap → List Loc → Prop := fun v _ L => v = some (.int 1) ∧ Fr n0 L
theorem own_callS (X : Stand p l e R s m args below meth c T locs k n) (hx : p.tables.exec = Jvm.exec) (hZ : Z.Warmed39 s.vm) {own : String} {index : Nat} {y : MethodName} {bytes : ByteArray} {maxL W : Nat} {rt : Option FieldType} {rm : Room} {argsL rest : List Value} {ps : List FieldType} {r : Option FieldType} {Qc : Option Value → Heap → List Loc → Prop}
    (hown : s.vm.findClass own = some m.cls) (w1 : (Jvm.Cond.methodLink own index y).before a0 Z = true) (w2 : (Jvm.Cond.static y).before a0 Z = true) (w3 : (Jvm.Cond.initialized y.cls).before a0 Z = true) (w4 : (Jvm.Cond.code y bytes maxL rt).before a0 Z = true) (hy : y.cls ≠ "java/lang/invoke/MethodHandle" ∧ y.cls ≠ "java/lang/invoke/VarHandle")
    (hM : MetFree l y (head1 [Jvm.Cond.code y bytes maxL rt] rm) (fun a U => a = argsL.toArray ∧ Z.Warmed39 U.vm ∧ U.heap = h) (fun _ _ _ _ _ => True) (fun _ U o U' => ∃ v L, o = .returned v ∧ Qc v U'.heap L ∧ FrameEnd U o U' L rm.cells rm.slots))
    (hf : rm.frames + 1 ≤ R.frames) (hl : W + (maxL + 11) + rm.locals ≤ R.locals) (hc : k + rm.cells ≤ R.cells) (hs : n + rm.slots ≤ R.slots) (eT : T.heap = h)
    (hg : g.method = m) (hsize : g.locals.size = c.maxLocals) (hd : parseMethodDescriptor y.desc = some ⟨ps, r⟩) (hlen : argsL.length = ps.length) (hstack : g.stack = argsL.reverse ++ rest) (hW : 2 * g.monitorRoom + (rest.map fun v => v.category).sum ≤ W) (hdg : decode c.code g.pc = .ok (.invokestatic index, 3)) :
    ∃ v T' L, Stand p l e R s m args below meth c T' (locs ++ L) (k + rm.cells) (n + rm.slots) ∧ Qc v T'.heap L ∧ ∀ t, Steps p.tables e below (T'.setTop { g with pc := g.pc + 3, stack := v.toList ++ rest }) t → Steps p.tables e below (T.setTop g) t := by
  obtain ⟨v, vm1, ⟨T', L', k', n'⟩, -, X', ⟨Lc, hQ, l1, y1, z1⟩, st⟩ := Jvm.LawKit.callS X hx (y := y) hown (mvT hZ w1) (mvT hZ w2) (mvT hZ w3) (mvT hZ w4) hy (backOf (W := W) hM hZ w4 w3 hf hl) hg hsize (argsL := argsL) (rest := rest) (lenOf hd hlen) hstack hW hdg (fun _ _ => ⟨rfl, eT, hc, hs⟩)
  dsimp only [Pt.U, Pt.locs, Pt.cells, Pt.slots] at X' l1 y1 z1 st hQ
  subst l1 y1 z1
  exact ⟨v, T', Lc, X', hQ, st⟩
theorem own_callI (X : Stand p l e R s m args below meth c T locs k n) (hx : p.tables.exec = Jvm.exec) (hZ : Z.Warmed39 s.vm) {own : String} {index : Nat} {y : MethodName} {bytes : ByteArray} {maxL W : Nat} {rm : Room} {a : Addr} {argsL rest : List Value} {ps : List FieldType} {r : Option FieldType} {Qc : Option Value → Heap → List Loc → Prop}
    (hy1 : y.name = "<init>") (hown : s.vm.findClass own = some m.cls) (w1 : (Jvm.Cond.methodLink own index y).before a0 Z = true) (w2 : (Jvm.Cond.instanceMethod y).before a0 Z = true) (w3 : (Jvm.Cond.initialized y.cls).before a0 Z = true) (w4 : (Jvm.Cond.code y bytes maxL none).before a0 Z = true) (hy : y.cls ≠ "java/lang/invoke/MethodHandle" ∧ y.cls ≠ "java/lang/invoke/VarHandle")
    (hM : MetFree l y (head1 [Jvm.Cond.code y bytes maxL none] rm) (fun a' U => a' = (Value.ref a :: argsL).toArray ∧ Z.Warmed39 U.vm ∧ U.heap = h) (fun _ _ _ _ _ => True) (fun _ U o U' => ∃ v L, o = .returned v ∧ Qc v U'.heap L ∧ FrameEnd U o U' L rm.cells rm.slots))
    (hf : rm.frames + 1 ≤ R.frames) (hl : W + (maxL + 11) + rm.locals ≤ R.locals) (hc : k + rm.cells ≤ R.cells) (hs : n + rm.slots ≤ R.slots) (eT : T.heap = h)
    (hg : g.method = m) (hsize : g.locals.size = c.maxLocals) (hd : parseMethodDescriptor y.desc = some ⟨ps, r⟩) (hlen : argsL.length = ps.length) (hstack : g.stack = argsL.reverse ++ .ref a :: rest) (hW : 2 * g.monitorRoom + (rest.map fun v => v.category).sum ≤ W) (hdg : decode c.code g.pc = .ok (.invokespecial index, 3)) :
    ∃ v T' L, Stand p l e R s m args below meth c T' (locs ++ L) (k + rm.cells) (n + rm.slots) ∧ Qc v T'.heap L ∧ ∀ t, Steps p.tables e below (T'.setTop { g with pc := g.pc + 3, stack := v.toList ++ rest }) t → Steps p.tables e below (T.setTop g) t := by
  obtain ⟨v, vm1, ⟨T', L', k', n'⟩, -, X', ⟨Lc, hQ, l1, y1, z1⟩, st⟩ := X.specialBack hx (y := y) hy1 hown (mvT hZ w1) (mvT hZ w2) (mvT hZ w4) hy (backOf (W := W) hM hZ w4 w3 hf hl) hg hsize (Steps.refl _) (a := a) (argsL := argsL) (rest := rest) (lenOf hd hlen) hstack hW hdg (fun _ _ => ⟨rfl, eT, hc, hs⟩)
  dsimp only [Pt.U, Pt.locs, Pt.cells, Pt.slots] at X' l1 y1 z1 st hQ
  subst l1 y1 z1
  exact ⟨v, T', Lc, X', hQ, fun t k => st.trans k⟩
theorem own_callV (X : Stand p l e R s m args below meth c T locs k n) (hx : p.tables.exec = Jvm.exec) (hZ : Z.Warmed39 s.vm) {own C : String} {index : Nat} {y : MethodName} {bytes : ByteArray} {maxL W : Nat} {rt : Option FieldType} {rm : Room} {a : Addr} {argsL rest : List Value} {ps : List FieldType} {r : Option FieldType} {Qc : Option Value → Heap → List Loc → Prop}
    (hown : s.vm.findClass own = some m.cls) (w1 : (Jvm.Cond.methodLink own index y).before a0 Z = true) (w2 : (Jvm.Cond.declares y).before a0 Z = true) (w5 : (Jvm.Cond.selects C y y).before a0 Z = true) (w6 : (Jvm.Cond.instanceMethod y).before a0 Z = true) (w3 : (Jvm.Cond.initialized y.cls).before a0 Z = true) (w4 : (Jvm.Cond.code y bytes maxL rt).before a0 Z = true) (hy : y.cls ≠ "java/lang/invoke/MethodHandle" ∧ y.cls ≠ "java/lang/invoke/VarHandle")
    (E : Exa Z h a C)
    (hM : MetFree l y (head1 [Jvm.Cond.code y bytes maxL rt] rm) (fun a' U => a' = (Value.ref a :: argsL).toArray ∧ Z.Warmed39 U.vm ∧ U.heap = h) (fun _ _ _ _ _ => True) (fun _ U o U' => ∃ v L, o = .returned v ∧ Qc v U'.heap L ∧ FrameEnd U o U' L rm.cells rm.slots))
    (hf : rm.frames + 1 ≤ R.frames) (hl : W + (maxL + 11) + rm.locals ≤ R.locals) (hc : k + rm.cells ≤ R.cells) (hs : n + rm.slots ≤ R.slots) (eT : T.heap = h)
    (hg : g.method = m) (hsize : g.locals.size = c.maxLocals) (hd : parseMethodDescriptor y.desc = some ⟨ps, r⟩) (hlen : argsL.length = ps.length) (hstack : g.stack = argsL.reverse ++ .ref a :: rest) (hW : 2 * g.monitorRoom + (rest.map fun v => v.category).sum ≤ W) (hdg : decode c.code g.pc = .ok (.invokevirtual index, 3)) :
    ∃ v T' L, Stand p l e R s m args below meth c T' (locs ++ L) (k + rm.cells) (n + rm.slots) ∧ Qc v T'.heap L ∧ ∀ t, Steps p.tables e below (T'.setTop { g with pc := g.pc + 3, stack := v.toList ++ rest }) t → Steps p.tables e below (T.setTop g) t := by
  obtain ⟨cq, kq, q1, q2, q3⟩ := isOf hZ eT E
  obtain ⟨v, vm1, ⟨T', L', k', n'⟩, -, X', ⟨Lc, hQ, l1, y1, z1⟩, st⟩ := X.virtualBack hx (y := y) (z := y) hown (mvT hZ w1) (mvT hZ w2) (notFace_of_selects (args := #[]) (mvT hZ w5)) (mvT hZ w5) (mvT hZ w6) hy (backOf (W := W) hM hZ w4 w3 hf hl) q1 q3 hg hsize (Steps.refl _) (argsL := argsL) (rest := rest) (lenOf hd hlen) hstack hW hdg (fun _ _ => ⟨rfl, eT, hc, hs⟩)
  dsimp only [Pt.U, Pt.locs, Pt.cells, Pt.slots] at X' l1 y1 z1 st hQ
  subst l1 y1 z1
  exact ⟨v, T', Lc, X', hQ, fun t k => st.trans k⟩
theorem lrem_eq_mod (x y : Int64) : x - (x / y) * y = x % y := by
  apply Int64.toInt_inj.mp
  have h1 := Int64.le_toInt (x % y)
  have h2 := Int64.toInt_lt (x % y)
  rw [Int64.toInt_sub, Int64.toInt_mul, Int64.toInt_div, Int.bmod_mul_bmod, Int.sub_bmod_bmod, Int.mul_comm (x.toInt.tdiv y.toInt), ← Int.tmod_def, ← Int64.toInt_mod]
  exact Int.bmod_eq_of_le_mul_two (by omega) (by omega)
theorem own_lrem (X : Stand p l e R s m args below meth c T locs k n) (hx : p.tables.exec = Jvm.exec) (hg : g.method = m) {x y : Int64} {rest : List Value} (hd : decode c.code g.pc = .ok (.lrem, 1)) (hs : g.stack = .long y :: .long x :: rest) (hy : y ≠ 0) {target : State}
    (hr : Steps p.tables e below (T.setTop { g with pc := g.pc + 1, stack := .long (x % y) :: rest }) target) : Steps p.tables e below (T.setTop g) target := by
  exact XT.lrem X.here hx hg hd hs hy (by rw [lrem_eq_mod]; exact hr)
theorem cl_lt (x y : Int64) : XT.cmpL x y < 0 ↔ x < y := by
  unfold XT.cmpL
  split
  · rename_i q; simp only [Int64.lt_iff_toInt_lt] at *; constructor <;> intro w <;> first | (exact absurd w (by decide)) | omega
  · split
    · rename_i q r; subst r; constructor <;> intro w
      · exact absurd w (by decide)
      · exact absurd w q
    · rename_i q r; constructor <;> intro w
      · simp only [Int64.lt_iff_toInt_lt, ← Int64.toInt_inj] at *; omega
      · decide
theorem cl_gt (x y : Int64) : 0 < XT.cmpL x y ↔ y < x := by
  unfold XT.cmpL
  split
  · rename_i q; exact ⟨fun _ => q, fun _ => by decide⟩
  · rename_i q
    constructor
    · intro w; split at w <;> exact absurd w (by decide)
    · intro w; exact absurd w q
theorem cl_eq (x y : Int64) : XT.cmpL x y = 0 ↔ x = y := by
  unfold XT.cmpL
  split
  · rename_i q; constructor
    · intro w; exact absurd w (by decide)
    · intro w; subst w; simp only [Int64.lt_iff_toInt_lt] at q; omega
  · split
    · rename_i r; exact ⟨fun _ => r, fun _ => rfl⟩
    · rename_i r; constructor
      · intro w; exact absurd w (by decide)
      · intro w; exact absurd w r
end OwnKit
end Jvm.RoadKit
namespace Jvm.RoadKit
open Sem ClassFile Op Lib Jvm.Stand Jvm.Free Jvm.LawKit
section OwnHeap
variable {p : Program} {l : Launch} {e : Env} {R : Room} {s : State} {m : MethodId} {args : Array Value} {below : List Frame} {meth : Method} {c : Code} {T T' : State} {locs locs' : List Loc} {k n k' n' : Nat} {Z : State} {a0 : Array Value} {h h' h0 : Heap} {g : JFrame} {a b : Addr} {ws ws' : List Addr} {n0 : Nat}
theorem keep_ext (E : Ext h h') : Keep h h' [] := (Keep.refl h []).ext E
theorem nin1 {x y : Addr} (q : x ≠ y) : x ∉ [y] := ninS q nin0
/-- an array: its length and what each place holds -/
def Ary (Z : State) (h : Heap) (a : Addr) (ty : FieldType) (n : Nat) (f : Nat → Value) : Prop := ∃ c : Cell, Arr Z h a c ty ∧ c.slots.size = n ∧ n < 2 ^ 31 ∧ ∀ i, i < n → c.slots[i]? = some (f i)
def updN {α : Type} (f : Nat → α) (j : Nat) (v : α) : Nat → α := fun i => if i = j then v else f i
theorem updN_same {α : Type} (f : Nat → α) (j : Nat) (v : α) : updN f j v j = v := if_pos rfl
theorem updN_ne {α : Type} (f : Nat → α) {i j : Nat} (v : α) (q : i ≠ j) : updN f j v i = f i := if_neg q
def InB (j : Int32) (n : Nat) : Prop := ¬ j < 0 ∧ j.toNatClampNeg < n
instance (j : Int32) (n : Nat) : Decidable (InB j n) := inferInstanceAs (Decidable (¬ j < 0 ∧ j.toNatClampNeg < n))
variable {ty : FieldType} {len : Nat} {f : Nat → Value}
theorem Ary.lt (F : Ary Z h a ty len f) : a < h.size := by obtain ⟨c, A, -⟩ := F; exact A.lt
theorem Ary.keep (F : Ary Z h a ty len f) (K : Keep h h' ws) (q : a ∉ ws) : Ary Z h' a ty len f := by
  obtain ⟨c, A, r⟩ := F; exact ⟨c, ⟨K.2.1 a c A.1 q, A.2⟩, r⟩
theorem Ary.small (F : Ary Z h a ty len f) : len < 2 ^ 31 := by obtain ⟨c, A, r1, r2, -⟩ := F; exact r2
theorem Ary.congr {f' : Nat → Value} (F : Ary Z h a ty len f) (q : ∀ i, i < len → f i = f' i) : Ary Z h a ty len f' := by
  obtain ⟨c, A, r1, r2, r3⟩ := F; exact ⟨c, A, r1, r2, fun i hi => by rw [← q i hi]; exact r3 i hi⟩
theorem Ary.wr {v : Value} {j : Nat} (F : Ary Z h a ty len f) (W : Wr h h' a j v) (hj : j < len) : Ary Z h' a ty len (updN f j v) := by
  obtain ⟨c, A, r1, r2, r3⟩ := F
  refine ⟨_, A.same W, by rw [sz_set]; exact r1, r2, fun i hi => ?_⟩
  by_cases q : i = j
  · subst q; rw [updN_same]; simp [Cell.setSlot, r1, hi]
  · rw [updN_ne _ _ q]; simp only [Cell.setSlot]; rw [Array.getElem?_setIfInBounds_ne (Ne.symm q)]; exact r3 i hi
theorem not_in {j : Int32} {n : Nat} (q : InB j n) {c : Cell} (r : c.slots.size = n) : ¬ (j < 0 ∨ c.slots.size ≤ j.toNatClampNeg) := by
  rw [r]; obtain ⟨q1, q2⟩ := q; intro z; rcases z with z | z
  · exact q1 z
  · omega
theorem own_len (X : Stand p l e R s m args below meth c T locs k n) (hx : p.tables.exec = Jvm.exec) (hZ : Z.Warmed39 s.vm) (eT : T.heap = h) (A : Ary Z h a ty len f) {rest : List Value} (hg : g.method = m) (hs : g.stack = .ref a :: rest) (hd : decode c.code g.pc = .ok (.arraylength, 1)) (t : State)
    (hr : Steps p.tables e below (T.setTop { g with pc := g.pc + 1, stack := .int len.toInt32 :: rest }) t) : Steps p.tables e below (T.setTop g) t := by
  obtain ⟨cl, A1, r1, r2, r3⟩ := A
  refine X.arraylength hx (by rw [eT]; exact A1.1) (State.isArrayOf_alike hZ.alike A1.2.1) hg hs hd t ?_
  rw [r1]; exact hr
theorem own_ldI (X : Stand p l e R s m args below meth c T locs k n) (hx : p.tables.exec = Jvm.exec) (hZ : Z.Warmed39 s.vm) (eT : T.heap = h) (A : Ary Z h a .int len f) {j : Int32} (hj : InB j len) {v : Value} (hv : f j.toNatClampNeg = v) {rest : List Value} (hg : g.method = m) (hs : g.stack = .int j :: .ref a :: rest) (hd : decode c.code g.pc = .ok (.iaload, 1)) (t : State)
    (hr : Steps p.tables e below (T.setTop { g with pc := g.pc + 1, stack := v :: rest }) t) : Steps p.tables e below (T.setTop g) t := by
  obtain ⟨cl, A1, r1, r2, r3⟩ := A
  exact X.iaload hx (by rw [eT]; exact A1.1) (State.isArrayOf_alike hZ.alike A1.2.1) A1.2.2 (not_in hj r1) (by rw [r3 _ hj.2, hv]) hg hs hd t hr
theorem own_ldJ (X : Stand p l e R s m args below meth c T locs k n) (hx : p.tables.exec = Jvm.exec) (hZ : Z.Warmed39 s.vm) (eT : T.heap = h) (A : Ary Z h a .long len f) {j : Int32} (hj : InB j len) {v : Value} (hv : f j.toNatClampNeg = v) {rest : List Value} (hg : g.method = m) (hs : g.stack = .int j :: .ref a :: rest) (hd : decode c.code g.pc = .ok (.laload, 1)) (t : State)
    (hr : Steps p.tables e below (T.setTop { g with pc := g.pc + 1, stack := v :: rest }) t) : Steps p.tables e below (T.setTop g) t := by
  obtain ⟨cl, A1, r1, r2, r3⟩ := A
  exact X.laload hx (by rw [eT]; exact A1.1) (State.isArrayOf_alike hZ.alike A1.2.1) A1.2.2 (not_in hj r1) (by rw [r3 _ hj.2, hv]) hg hs hd t hr
theorem own_ldC (X : Stand p l e R s m args below meth c T locs k n) (hx : p.tables.exec = Jvm.exec) (hZ : Z.Warmed39 s.vm) (eT : T.heap = h) (A : Ary Z h a .char len f) {j : Int32} (hj : InB j len) {v : Value} (hv : f j.toNatClampNeg = v) {rest : List Value} (hg : g.method = m) (hs : g.stack = .int j :: .ref a :: rest) (hd : decode c.code g.pc = .ok (.caload, 1)) (t : State)
    (hr : Steps p.tables e below (T.setTop { g with pc := g.pc + 1, stack := v :: rest }) t) : Steps p.tables e below (T.setTop g) t := by
  obtain ⟨cl, A1, r1, r2, r3⟩ := A
  exact X.caload hx (by rw [eT]; exact A1.1) (State.isArrayOf_alike hZ.alike A1.2.1) A1.2.2 (not_in hj r1) (by rw [r3 _ hj.2, hv]) hg hs hd t hr
theorem own_ldB (X : Stand p l e R s m args below meth c T locs k n) (hx : p.tables.exec = Jvm.exec) (hZ : Z.Warmed39 s.vm) (eT : T.heap = h) (A : Ary Z h a .byte len f) {j : Int32} (hj : InB j len) {v : Value} (hv : f j.toNatClampNeg = v) {rest : List Value} (hg : g.method = m) (hs : g.stack = .int j :: .ref a :: rest) (hd : decode c.code g.pc = .ok (.baload, 1)) (t : State)
    (hr : Steps p.tables e below (T.setTop { g with pc := g.pc + 1, stack := v :: rest }) t) : Steps p.tables e below (T.setTop g) t := by
  obtain ⟨cl, A1, r1, r2, r3⟩ := A
  exact X.baloadBytes hx (by rw [eT]; exact A1.1) (State.isArrayOf_alike hZ.alike A1.2.1) A1.2.2 (not_in hj r1) (by rw [r3 _ hj.2, hv]) hg hs hd t hr
theorem own_ldA (X : Stand p l e R s m args below meth c T locs k n) (hx : p.tables.exec = Jvm.exec) (hZ : Z.Warmed39 s.vm) (eT : T.heap = h) (A : Ary Z h a ty len f) (hty : ty.isReference = true) {j : Int32} (hj : InB j len) {v : Value} (hv : f j.toNatClampNeg = v) {rest : List Value} (hg : g.method = m) (hs : g.stack = .int j :: .ref a :: rest) (hd : decode c.code g.pc = .ok (.aaload, 1)) (t : State)
    (hr : Steps p.tables e below (T.setTop { g with pc := g.pc + 1, stack := v :: rest }) t) : Steps p.tables e below (T.setTop g) t := by
  obtain ⟨cl, A1, r1, r2, r3⟩ := A
  exact X.aaload hx (by rw [eT]; exact A1.1) (State.isArrayOf_alike hZ.alike A1.2.1) hty A1.2.2 (not_in hj r1) (by rw [r3 _ hj.2, hv]) hg hs hd t hr
theorem own_stI (X : Stand p l e R s m args below meth c T locs k n) (hx : p.tables.exec = Jvm.exec) (hZ : Z.Warmed39 s.vm) (eT : T.heap = h) (N : Fr n0 locs) {G : Nat → Int32} (A : Ary Z h a .int len (fun i => .int (G i))) (ga : n0 ≤ a) {j x : Int32} (hj : InB j len) {rest : List Value} (hg : g.method = m) (hs : g.stack = .int x :: .int j :: .ref a :: rest) (hd : decode c.code g.pc = .ok (.iastore, 1)) :
    ∃ (T' : State) (h' : Heap) (locs' : List Loc), Stand p l e R s m args below meth c T' locs' k n ∧ T'.heap = h' ∧ Fr n0 locs' ∧ Keep h h' [a] ∧ Ary Z h' a .int len (fun i => .int (updN G j.toNatClampNeg x i)) ∧ ∀ t, Steps p.tables e below (T'.setTop { g with pc := g.pc + 1, stack := rest }) t → Steps p.tables e below (T.setTop g) t := by
  obtain ⟨cl, A1, r⟩ := A
  obtain ⟨T', h', X', e', W, st⟩ := stI X hx hZ eT A1 (not_in hj r.1) hg hs hd
  exact ⟨T', h', _, X', e', Fr.snoc X' N ga, Keep.of_wr W, (Ary.wr ⟨cl, A1, r⟩ W hj.2).congr (fun i _ => by unfold updN; split <;> rfl), st⟩
theorem own_stJ (X : Stand p l e R s m args below meth c T locs k n) (hx : p.tables.exec = Jvm.exec) (hZ : Z.Warmed39 s.vm) (eT : T.heap = h) (N : Fr n0 locs) {G : Nat → Int64} (A : Ary Z h a .long len (fun i => .long (G i))) (ga : n0 ≤ a) {j : Int32} {x : Int64} (hj : InB j len) {rest : List Value} (hg : g.method = m) (hs : g.stack = .long x :: .int j :: .ref a :: rest) (hd : decode c.code g.pc = .ok (.lastore, 1)) :
    ∃ (T' : State) (h' : Heap) (locs' : List Loc), Stand p l e R s m args below meth c T' locs' k n ∧ T'.heap = h' ∧ Fr n0 locs' ∧ Keep h h' [a] ∧ Ary Z h' a .long len (fun i => .long (updN G j.toNatClampNeg x i)) ∧ ∀ t, Steps p.tables e below (T'.setTop { g with pc := g.pc + 1, stack := rest }) t → Steps p.tables e below (T.setTop g) t := by
  obtain ⟨cl, A1, r⟩ := A
  obtain ⟨T', h', X', e', W, st⟩ := stJ X hx hZ eT A1 (not_in hj r.1) hg hs hd
  exact ⟨T', h', _, X', e', Fr.snoc X' N ga, Keep.of_wr W, (Ary.wr ⟨cl, A1, r⟩ W hj.2).congr (fun i _ => by unfold updN; split <;> rfl), st⟩
theorem own_stC (X : Stand p l e R s m args below meth c T locs k n) (hx : p.tables.exec = Jvm.exec) (hZ : Z.Warmed39 s.vm) (eT : T.heap = h) (N : Fr n0 locs) {G : Nat → Int32} (A : Ary Z h a .char len (fun i => .int (G i))) (ga : n0 ≤ a) {j x : Int32} (hj : InB j len) {rest : List Value} (hg : g.method = m) (hs : g.stack = .int x :: .int j :: .ref a :: rest) (hd : decode c.code g.pc = .ok (.castore, 1)) :
    ∃ (T' : State) (h' : Heap) (locs' : List Loc), Stand p l e R s m args below meth c T' locs' k n ∧ T'.heap = h' ∧ Fr n0 locs' ∧ Keep h h' [a] ∧ Ary Z h' a .char len (fun i => .int (updN G j.toNatClampNeg (nar .char x) i)) ∧ ∀ t, Steps p.tables e below (T'.setTop { g with pc := g.pc + 1, stack := rest }) t → Steps p.tables e below (T.setTop g) t := by
  obtain ⟨cl, A1, r⟩ := A
  obtain ⟨T', h', X', e', W, st⟩ := stC X hx hZ eT A1 (not_in hj r.1) hg hs hd
  exact ⟨T', h', _, X', e', Fr.snoc X' N ga, Keep.of_wr W, (Ary.wr ⟨cl, A1, r⟩ W hj.2).congr (fun i _ => by unfold updN; split <;> rfl), st⟩
theorem own_stB (X : Stand p l e R s m args below meth c T locs k n) (hx : p.tables.exec = Jvm.exec) (hZ : Z.Warmed39 s.vm) (eT : T.heap = h) (N : Fr n0 locs) {G : Nat → Int32} (A : Ary Z h a .byte len (fun i => .int (G i))) (ga : n0 ≤ a) {j x : Int32} (hj : InB j len) {rest : List Value} (hg : g.method = m) (hs : g.stack = .int x :: .int j :: .ref a :: rest) (hd : decode c.code g.pc = .ok (.bastore, 1)) :
    ∃ (T' : State) (h' : Heap) (locs' : List Loc), Stand p l e R s m args below meth c T' locs' k n ∧ T'.heap = h' ∧ Fr n0 locs' ∧ Keep h h' [a] ∧ Ary Z h' a .byte len (fun i => .int (updN G j.toNatClampNeg (nar .byte x) i)) ∧ ∀ t, Steps p.tables e below (T'.setTop { g with pc := g.pc + 1, stack := rest }) t → Steps p.tables e below (T.setTop g) t := by
  obtain ⟨cl, A1, r⟩ := A
  obtain ⟨T', h', X', e', W, st⟩ := stB X hx hZ eT A1 (not_in hj r.1) hg hs hd
  exact ⟨T', h', _, X', e', Fr.snoc X' N ga, Keep.of_wr W, (Ary.wr ⟨cl, A1, r⟩ W hj.2).congr (fun i _ => by unfold updN; split <;> rfl), st⟩
/-- newarray of a length that is not negative and at most cap -/
theorem own_new (X : Stand p l e R s m args below meth c T locs k n) (hx : p.tables.exec = Jvm.exec) (hZ : Z.Warmed39 s.vm) {aty : ArrayType} (w : (Jvm.Cond.arrayClass (newarray.typeOf aty)).before a0 Z = true) (eT : T.heap = h) (hg : g.method = m) (hd : decode c.code g.pc = .ok (.newarray aty, 2)) {z : Int32} {rest : List Value} (hs : g.stack = .int z :: rest)
    (hn : ¬ z < 0) {cap : Nat} (hcap : z.toNatClampNeg ≤ cap) (hb : cap * 8 ≤ 536870912) (hc : k + 1 ≤ R.cells) (hl : n + cap ≤ R.slots) :
    ∃ (T' : State) (h' : Heap) (a : Addr), Stand p l e R s m args below meth c T' locs (k + 1) (n + cap) ∧ T'.heap = h' ∧ a = h.size ∧ Keep h h' [] ∧ Ary Z h' a (newarray.typeOf aty) z.toNatClampNeg (fun _ => defaultValue (newarray.typeOf aty)) ∧
      ∀ t, Steps p.tables e below (T'.setTop { g with pc := g.pc + 2, stack := .ref a :: rest }) t → Steps p.tables e below (T.setTop g) t := by
  obtain ⟨T', h', cA, X', e', E, A, st⟩ := newP X hx hZ w eT hg hd hs hn hcap hb hc hl
  refine ⟨T', h', _, X', e', rfl, keep_ext E, ⟨_, A, sz_new _ _ _, ?_, fun i hi => ?_⟩, st⟩
  · exact (back32 hn).2
  · simp [newA, hi]
/-- an object's field written: the heap, what is kept, the field -/
theorem own_putF (X : Stand p l e R s m args below meth c T locs k n) (hx : p.tables.exec = Jvm.exec) (hZ : Z.Warmed39 s.vm) {own O nm d C : String} {index kk : Nat} {fty : FieldType} (hown : s.vm.findClass own = some m.cls) (w : (Jvm.Cond.fieldLink own index O nm d).before a0 Z = true)
    (eT : T.heap = h) (N : Fr n0 locs) {u v : Value} (F : Fld Z h a O nm d u) (E : Exa Z h a C) (ga : n0 ≤ a) (lw : (Jvm.Cond.lays C O nm d).before a0 Z = true ∨ ((Jvm.Cond.laysFinal C O nm d).before a0 Z = true ∧ own = O ∧ meth.name = "<init>")) (wi : (Jvm.Cond.instantiable C kk).before a0 Z = true)
    (hty : parseFieldDescriptor d = some fty) (hn : narrow fty v = v) (hf : fits fty v = true) {rest : List Value} (hg : g.method = m) (hs : g.stack = v :: .ref a :: rest) (hd : decode c.code g.pc = .ok (.putfield index, 3)) :
    ∃ (T' : State) (h' : Heap) (locs' : List Loc), Stand p l e R s m args below meth c T' locs' k n ∧ T'.heap = h' ∧ Fr n0 locs' ∧ Wr h h' a (slotOf Z O nm d) v ∧ Fld Z h' a O nm d v ∧ ∀ t, Steps p.tables e below (T'.setTop { g with pc := g.pc + 3, stack := rest }) t → Steps p.tables e below (T.setTop g) t := by
  obtain ⟨T', h', X', e', W, st⟩ := putF X hx hZ hown (host := "") (Or.inl w) Via.refl eT F E lw wi (ty := fty) hty hn hf hg hs hd
  exact ⟨T', h', _, X', e', Fr.snoc X' N ga, W, F.same W, st⟩
theorem Exa.neS {C : String} (F : Exa Z h a C) (q : b = h.size) : a ≠ b := by
  have r := Exa.lt F; intro z; rw [z, q] at r; exact Nat.lt_irrefl _ r
theorem Ary.neS (F : Ary Z h a ty len f) (q : b = h.size) : a ≠ b := by
  have r := Ary.lt F; intro z; rw [z, q] at r; exact Nat.lt_irrefl _ r
end OwnHeap
end Jvm.RoadKit
namespace Jvm.RoadKit
open Sem ClassFile Op Lib Jvm.Stand Jvm.Free Jvm.LawKit
section OwnNum
theorem i32lt (x y : Int32) : x < y ↔ x.toInt < y.toInt := Int32.lt_iff_toInt_lt
theorem i32eq (x y : Int32) : x = y ↔ x.toInt = y.toInt := Int32.toInt_inj.symm
theorem i64lt (x y : Int64) : x < y ↔ x.toInt < y.toInt := Int64.lt_iff_toInt_lt
theorem i64eq (x y : Int64) : x = y ↔ x.toInt = y.toInt := Int64.toInt_inj.symm
theorem nar0 : nar .boolean 0 = 0 := by decide
theorem nar1 : nar .boolean 1 = 1 := by decide
theorem narI (P : Prop) [Decidable P] : nar .boolean (if P then 1 else 0) = if P then 1 else 0 := by split <;> decide
theorem ushr_pos {x y : Int32} (hx : 0 ≤ x.toInt) {k : Nat} (hn : (y &&& 31).toUInt32.toNat = k) (hk : k < 32) : (XT.ushr x y).toInt = x.toInt / 2 ^ k :=
  Jvm.Kit.i32_iushr (Jvm.Kit.i32_nonneg.mpr hx) hn hk
theorem ushr_nat (x y : Int32) {k : Nat} (hn : (y &&& 31).toUInt32.toNat = k) (h1 : 0 < k) (hk : k < 32) : (XT.ushr x y).toInt = (x.toBitVec.toNat / 2 ^ k : Nat) := by
  have e1 : (XT.ushr x y).toBitVec.toNat = x.toBitVec.toNat / 2 ^ k := by
    show (x.toUInt32 >>> (y &&& 31).toUInt32).toNat = _
    rw [UInt32.toNat_shiftRight, hn, Nat.mod_eq_of_lt hk, Nat.shiftRight_eq_div_pow]
    rfl
  have e2 := x.toBitVec.isLt
  have e3 : x.toBitVec.toNat / 2 ^ k < 2 ^ 31 := by
    apply Nat.div_lt_of_lt_mul
    calc x.toBitVec.toNat < 2 ^ 32 := e2
      _ ≤ 2 ^ k * 2 ^ 31 := by rw [← Nat.pow_add]; exact Nat.pow_le_pow_right (by omega) (by omega)
  show (XT.ushr x y).toBitVec.toInt = _
  rw [BitVec.toInt_eq_toNat_of_lt (by rw [e1]; omega), e1]
theorem inb_of_toInt {j : Int32} {n : Nat} (h1 : 0 ≤ j.toInt) (h2 : j.toInt < n) : InB j n := by
  refine ⟨?_, ?_⟩
  · rw [i32lt]; show ¬ j.toInt < 0; omega
  · simp only [Int32.toNatClampNeg]; omega
theorem or32_nat (n : Nat) : n ||| 32 = n + (if n % 64 < 32 then 32 else 0) := by
  have h1 : (n ||| 32) % 2 ^ 6 = (n % 2 ^ 6) ||| (32 % 2 ^ 6) := Nat.or_mod_two_pow
  have h2 : (n ||| 32) / 2 ^ 6 = n / 2 ^ 6 := by
    rw [← Nat.shiftRight_eq_div_pow, Nat.shiftRight_or_distrib, ← Nat.shiftRight_eq_div_pow]
    simp
  have h3 : ∀ r : Fin 64, r.val ||| 32 = if r.val < 32 then r.val + 32 else r.val := by decide
  have h4 := h3 ⟨n % 64, Nat.mod_lt _ (by omega)⟩
  simp only at h4
  have h5 : (n % 2 ^ 6) ||| (32 % 2 ^ 6) = (n % 64) ||| 32 := rfl
  rw [h5, h4] at h1
  split at h1 <;> split <;> omega
theorem or32 (c : Int32) : (c ||| 32).toInt = c.toInt + (if c.toInt % 64 < 32 then 32 else 0) := by
  have e1 : (c ||| 32).toBitVec.toNat = c.toBitVec.toNat ||| 32 := by simp [BitVec.toNat_or]
  have e2 : c.toInt = c.toBitVec.toInt := rfl
  have e3 : (c ||| 32).toInt = (c ||| 32).toBitVec.toInt := rfl
  have e4 := c.toBitVec.isLt
  have e5 := (c ||| 32).toBitVec.isLt
  rw [e2, e3, BitVec.toInt_eq_toNat_cond, BitVec.toInt_eq_toNat_cond, e1, or32_nat]
  rw [e1, or32_nat] at e5
  split at e5 <;> split <;> split <;> split <;> omega
theorem i2c_toInt (x : Int32) : (x.toUInt32.toUInt16.toUInt32.toInt32).toInt = x.toInt % 65536 := by
  have e1 : (x.toUInt32.toUInt16.toUInt32.toInt32).toBitVec.toNat = x.toBitVec.toNat % 65536 := by
    show (x.toUInt32.toUInt16.toUInt32).toNat = _
    simp
    rfl
  have e2 := x.toBitVec.isLt
  have e3 : x.toInt = x.toBitVec.toInt := rfl
  have e4 : (x.toUInt32.toUInt16.toUInt32.toInt32).toInt = (x.toUInt32.toUInt16.toUInt32.toInt32).toBitVec.toInt := rfl
  rw [e3, e4, BitVec.toInt_eq_toNat_cond, BitVec.toInt_eq_toNat_cond, e1]
  split <;> split <;> omega
theorem mulbd {a b : Int} (h1 : 0 ≤ a) (h2 : a ≤ 2147483648) (h3 : 0 ≤ b) (h4 : b ≤ 2147483648) : 0 ≤ a * b ∧ a * b ≤ 4611686018427387904 := by
  refine ⟨Int.mul_nonneg h1 h3, ?_⟩
  have h : a * b ≤ 2147483648 * 2147483648 := Int.mul_le_mul h2 h4 h3 (by omega)
  omega
theorem mul64g {x y : Int64} (h1 : 0 ≤ x.toInt) (h2 : x.toInt ≤ 2147483648) (h3 : 0 ≤ y.toInt) (h4 : y.toInt ≤ 2147483648) : (x * y).toInt = x.toInt * y.toInt := by
  obtain ⟨b1, b2⟩ := mulbd h1 h2 h3 h4
  exact Jvm.Kit.i64_mul (by omega) (by omega)
theorem mul64 {x y : Int32} (h1 : 0 ≤ x.toInt) (h3 : 0 ≤ y.toInt) : (x.toInt64 * y.toInt64).toInt = x.toInt * y.toInt := by
  have e1 := Jvm.Kit.i64_of_i32 x
  have e2 := Jvm.Kit.i64_of_i32 y
  have b1 := Int32.toInt_lt x
  have b2 := Int32.toInt_lt y
  rw [mul64g (by omega) (by omega) (by omega) (by omega), e1, e2]
/-- the quotient q of a by b: b * q ≤ a < b * q + b -/
theorem quot {a b : Int} (hb : 0 < b) : b * (a / b) ≤ a ∧ a < b * (a / b) + b := by
  have h1 := Int.emod_def a b
  have h2 := Int.emod_nonneg a (show b ≠ 0 by omega)
  have h3 := Int.emod_lt_of_pos a hb
  omega
theorem div64 {x y : Int64} (h1 : 0 ≤ x.toInt) (h2 : 0 < y.toInt) : (x / y).toInt = x.toInt / y.toInt := by
  rw [Jvm.Kit.i64_div (by omega), Int.tdiv_eq_ediv_of_nonneg h1]
theorem mask31 (x : Int32) : (x &&& 2147483647).toInt = x.toInt % 2147483648 := by
  have := Jvm.Kit.i32_mask x 2147483647 (k := 31) (by decide) (by decide)
  omega
theorem rem32 {x y : Int32} (h : 0 ≤ x.toInt) (h2 : 0 < y.toInt) : 0 ≤ (x % y).toInt ∧ (x % y).toInt < y.toInt := by
  rw [Jvm.Kit.i32_rem_nonneg h]
  exact ⟨Int.emod_nonneg _ (by omega), Int.emod_lt_of_pos _ h2⟩
end OwnNum
end Jvm.RoadKit
namespace Jvm.RoadKit
open Sem ClassFile Op Lib Jvm.Stand Jvm.Free Jvm.LawKit
section OwnBits
theorem byte255 (y : Int32) : (nar .byte (y.toInt8.toInt32) &&& 255).toInt = y.toInt % 256 := by
  have h1 := Jvm.Kit.i32_mask (nar .byte (y.toInt8.toInt32)) 255 (k := 8) (by decide) (by decide)
  have h2 : (nar .byte (y.toInt8.toInt32)).toInt = (y.toInt.bmod 256).bmod 256 := by
    show ((y.toInt8.toInt32).toInt8.toInt32).toInt = _
    rw [Int8.toInt_toInt32, Int32.toInt_toInt8, Int8.toInt_toInt32, Int32.toInt_toInt8]
  rw [h1, h2]
  have h3 : ∀ z : Int, z.bmod 256 % 256 = z % 256 := fun z => Int.bmod_emod
  have h4 : (2 : Int) ^ 8 = 256 := rfl
  rw [h4, h3, h3]
theorem natOfI {x : Int32} (h : 0 ≤ x.toInt) : x.toBitVec.toNat = x.toInt.toNat := by
  have e : x.toInt = x.toBitVec.toInt := rfl
  have e2 := x.toBitVec.isLt
  rw [e, BitVec.toInt_eq_toNat_cond] at h ⊢
  split at h <;> split <;> omega
theorem ofNat31 {x : Int32} {n : Nat} (h : x.toBitVec.toNat = n) (h2 : n < 2 ^ 31) : x.toInt = n := by
  have e : x.toInt = x.toBitVec.toInt := rfl
  rw [e, BitVec.toInt_eq_toNat_of_lt (by rw [h]; omega), h]
theorem or_sum {a b : Int32} {k g : Nat} (ha : 0 ≤ a.toInt) (ha2 : a.toInt < 2 ^ k) (hb : b.toInt = (2 ^ k * g : Nat)) (hs : 2 ^ k * g + a.toInt.toNat < 2 ^ 31) : (a ||| b).toInt = a.toInt + b.toInt ∧ (b ||| a).toInt = a.toInt + b.toInt := by
  have e1 : a.toBitVec.toNat = a.toInt.toNat := natOfI ha
  have e2 : b.toBitVec.toNat = 2 ^ k * g := by rw [natOfI (by omega), hb]; exact Int.toNat_natCast _
  have hlt : a.toInt.toNat < 2 ^ k := by
    have : ((2 ^ k : Nat) : Int) = (2 : Int) ^ k := by simp
    omega
  have e3 := Nat.two_pow_add_eq_or_of_lt hlt g
  constructor
  · have e4 : (a ||| b).toBitVec.toNat = 2 ^ k * g + a.toInt.toNat := by
      show (a.toBitVec ||| b.toBitVec).toNat = _
      rw [BitVec.toNat_or, e1, e2, Nat.or_comm, ← e3]
    rw [ofNat31 e4 hs]; omega
  · have e4 : (b ||| a).toBitVec.toNat = 2 ^ k * g + a.toInt.toNat := by
      show (b.toBitVec ||| a.toBitVec).toNat = _
      rw [BitVec.toNat_or, e1, e2, ← e3]
    rw [ofNat31 e4 hs]; omega
theorem or128 {x : Int32} (h : 0 ≤ x.toInt) (h2 : x.toInt < 128) : (x ||| 128).toInt = x.toInt + 128 ∧ (128 ||| x).toInt = x.toInt + 128 := by
  have a : (128 : Int32).toInt = 128 := rfl
  have := or_sum (a := x) (b := 128) (k := 7) (g := 1) h (by omega) (by rw [a]; rfl) (by omega)
  rw [a] at this; exact this
/-- a group of seven bits laid above what is there -/
theorem acc {a g n : Int32} {k : Nat} (hn : (n.toBitVec.smod 32).toNat = k) (ha : 0 ≤ a.toInt) (ha2 : a.toInt < 2 ^ k) (hg : 0 ≤ g.toInt) (hs : g.toInt * 2 ^ k + a.toInt < 2 ^ 31) : (a ||| (g <<< n)).toInt = a.toInt + g.toInt * 2 ^ k := by
  have p : (0 : Int) < 2 ^ k := Int.pow_pos (by omega)
  have q : 0 ≤ g.toInt * 2 ^ k := Int.mul_nonneg hg (by omega)
  have e1 : (g <<< n).toInt = g.toInt * 2 ^ k := Jvm.Kit.i32_shl g n hn (by omega) (by omega)
  have e2 : (g <<< n).toInt = (2 ^ k * g.toInt.toNat : Nat) := by
    rw [e1, Int.natCast_mul, Int.toNat_of_nonneg hg, Int.mul_comm, Int.natCast_pow]; rfl
  have := (or_sum (a := a) (b := g <<< n) (k := k) (g := g.toInt.toNat) ha ha2 e2 (by have := e1.symm.trans e2; omega)).1
  rw [this, e1]
theorem and_not0 (x : Int64) : x &&& ((0 : Int64) ^^^ (-1)) = x := by
  apply Int64.toBitVec_inj.mp
  apply BitVec.eq_of_getLsbD_eq
  intro i hi
  have : (-1 : Int64).toBitVec = BitVec.allOnes 64 := by decide
  simp [this, hi]
theorem and_not2 (x a b : Int64) : (x &&& (a ^^^ (-1))) &&& (b ^^^ (-1)) = x &&& ((a ||| b) ^^^ (-1)) := by
  apply Int64.toBitVec_inj.mp
  apply BitVec.eq_of_getLsbD_eq
  intro i hi
  have : (-1 : Int64).toBitVec = BitVec.allOnes 64 := by decide
  simp [this, hi]
  exact Bool.and_assoc _ _ _
theorem clamp_eq {a b : Int32} (ha : 0 ≤ a.toInt) (hb : 0 ≤ b.toInt) : a.toNatClampNeg = b.toNatClampNeg ↔ a = b := by
  rw [i32eq]; simp only [Int32.toNatClampNeg]; omega
theorem mask63 (v : Int32) : ((v &&& 63).toInt64 &&& 63) = (v.toInt64 &&& 63) := by
  have h1 := Jvm.Kit.i64_mask (v &&& 63).toInt64 63 (k := 6) (by decide) (by decide)
  have h2 := Jvm.Kit.i64_mask v.toInt64 63 (k := 6) (by decide) (by decide)
  have h3 := Jvm.Kit.i32_mask v 63 (k := 6) (by decide) (by decide)
  rw [Jvm.Kit.i64_of_i32] at h1 h2
  rw [i64eq, h1, h2, h3]; omega
theorem charBack {x : Int32} (h : 0 ≤ x.toInt) (h2 : x.toInt < 65536) : nar .char (x.toUInt32.toUInt16.toUInt32.toInt32) = x := by
  have e1 : (nar .char (x.toUInt32.toUInt16.toUInt32.toInt32)).toInt = (x.toUInt32.toUInt16.toUInt32.toInt32).toInt % 65536 := i2c_toInt _
  rw [i32eq, e1, i2c_toInt]; omega
end OwnBits
end Jvm.RoadKit
namespace Jvm.RoadKit
open Sem ClassFile Op Lib Jvm.Stand Jvm.Free Jvm.LawKit
section OwnWide
variable {p : Program} {l : Launch} {e : Env} {R : Room} {s s' s0 : State} {m : MethodId} {args : Array Value} {below : List Frame} {meth : Method} {c : Code} {T T' : State} {locs locs' : List Loc} {k n k' n' : Nat} {Z : State} {a0 : Array Value} {h h' h0 : Heap} {vm : Vm} {n1 : Nat}
variable {ret : Option FieldType} {Q : Option Value → Heap → List Loc → Prop} {K N : Nat} {g g' : JFrame}
/-- OwnFin, over tables that may have grown since s0 -/
def OwnFinW (s0 : State) (_X : Stand p l e R s m args below meth c T locs k n) (ret : Option FieldType) (Q : Option Value → Heap → List Loc → Prop) (K N : Nat) (g : JFrame) : Prop :=
  ∃ (i : Instr) (w v : Option Value) (T' : State) (locs' : List Loc) (k' n' pcr n1 : Nat) (Ls : Array Slot) (vm1 : Vm), OwnRet i ret w v ∧ Stand p l e R (s0.setVm vm1) m args below meth c T' locs' k' n' ∧ s0.Since vm1 n1 ∧ n1 ≤ T'.heap.size ∧ k' ≤ K ∧ n' ≤ N ∧ Q v T'.heap locs' ∧ decode c.code pcr = .ok (i, 1) ∧
    ∀ t, Steps p.tables e below (T'.setTop (mkF m pcr Ls w.toList)) t → Steps p.tables e below (T.setTop g) t
theorem OwnFinW.step {X : Stand p l e R s m args below meth c T locs k n} (X' : Stand p l e R s' m args below meth c T' locs' k' n') (hs : ∀ t, Steps p.tables e below (T'.setTop g') t → Steps p.tables e below (T.setTop g) t) (hF : OwnFinW s0 X' ret Q K N g') : OwnFinW s0 X ret Q K N g := by
  obtain ⟨i, w, v, T2, locs2, k2, n2, pcr, q1, Ls, vm1, h1, h2, h3, h4, h5, h6, h7, h8, h9⟩ := hF
  exact ⟨i, w, v, T2, locs2, k2, n2, pcr, q1, Ls, vm1, h1, h2, h3, h4, h5, h6, h7, h8, fun t k => hs t (h9 t k)⟩
theorem ostW (g' : JFrame) {X : Stand p l e R s m args below meth c T locs k n} (X' : Stand p l e R s' m args below meth c T' locs' k' n') (hs : ∀ t, Steps p.tables e below (T'.setTop g') t → Steps p.tables e below (T.setTop g) t) (hF : OwnFinW s0 X' ret Q K N g') : OwnFinW s0 X ret Q K N g := OwnFinW.step X' hs hF
theorem OwnFinW.retInt (X : Stand p l e R (s0.setVm vm) m args below meth c T locs k n) (hS : s0.Since vm n1) (hz : n1 ≤ T.heap.size) {pc : Nat} {Ls : Array Slot} {z : Int32} (hd : decode c.code pc = .ok (.ireturn, 1)) (hk : k ≤ K) (hn : n ≤ N) (hQ : Q (some (.int z)) T.heap locs) : OwnFinW s0 X (some .int) Q K N (mkF m pc Ls [.int z]) :=
  ⟨.ireturn, some (.int z), _, T, locs, k, n, pc, n1, Ls, vm, Or.inl ⟨rfl, z, rfl, rfl, rfl⟩, X, hS, hz, hk, hn, hQ, hd, fun _ k => k⟩
theorem OwnFinW.retNar (X : Stand p l e R (s0.setVm vm) m args below meth c T locs k n) (hS : s0.Since vm n1) (hz : n1 ≤ T.heap.size) {t : FieldType} (ht : t = .boolean ∨ t = .byte ∨ t = .char ∨ t = .short) {pc : Nat} {Ls : Array Slot} {z : Int32} (hd : decode c.code pc = .ok (.ireturn, 1)) (hk : k ≤ K) (hn : n ≤ N) (hQ : Q (some (.int (nar t z))) T.heap locs) : OwnFinW s0 X (some t) Q K N (mkF m pc Ls [.int z]) :=
  ⟨.ireturn, some (.int z), _, T, locs, k, n, pc, n1, Ls, vm, Or.inr (Or.inl ⟨rfl, t, z, rfl, ht, rfl, rfl⟩), X, hS, hz, hk, hn, hQ, hd, fun _ k => k⟩
theorem OwnFinW.retVoid (X : Stand p l e R (s0.setVm vm) m args below meth c T locs k n) (hS : s0.Since vm n1) (hz : n1 ≤ T.heap.size) {pc : Nat} {Ls : Array Slot} (hd : decode c.code pc = .ok (.return_, 1)) (hk : k ≤ K) (hn : n ≤ N) (hQ : Q none T.heap locs) : OwnFinW s0 X none Q K N (mkF m pc Ls []) :=
  ⟨.return_, none, _, T, locs, k, n, pc, n1, Ls, vm, Or.inr (Or.inr (Or.inr (Or.inr ⟨rfl, rfl, rfl, rfl⟩))), X, hS, hz, hk, hn, hQ, hd, fun _ k => k⟩
theorem own_metW {y : MethodName} {bytes : ByteArray} {maxL : Nat} {rm : Room} {ws : List Jvm.Cond} {as' : Array Value} {Ls : Array Slot} (hpf : plainFor y = true) (hent : ∀ m, entryFrame m as' maxL = mkF m 0 Ls [])
    (H : ∀ p e s m below meth c s₁ (X : Stand p l e rm s m as' below meth c s₁ [] 0 0), p.tables.exec = Jvm.exec → c.code = bytes → c.maxLocals = maxL → s.vm.findClass y.cls = some m.cls → meth.name = y.name → Z.Warmed39 s.vm → s₁.heap = h0 → OwnFinW s X ret Q rm.cells rm.slots (mkF m 0 Ls [])) :
    MetFree l y (head1 (Jvm.Cond.code y bytes maxL ret :: ws) rm) (fun a U => a = as' ∧ Z.Warmed39 U.vm ∧ U.heap = h0) (fun _ _ _ _ _ => True) (fun _ U o U' => ∃ v L, o = .returned v ∧ Q v U'.heap L ∧ ReturnedEndW U o U' L rm.cells rm.slots) := by
  refine MetFree.of_bodySF hpf hisR ?_
  intro p e s m args below meth c s₁ Bd hml0 hP hK
  obtain ⟨rfl, hZ, hh⟩ := hP
  have hx := Bd.exec
  have hby := Bd.bytes
  have hown : s.vm.findClass y.cls = some m.cls := findClass_of_methodNamed Bd.named
  have hnm := (name_of_methodNamed Bd.named Bd.method).1
  have X0 : Stand p l e rm s m args below meth c s₁ [] 0 0 := Stand.of_body Bd
  have e0 : s₁.heap = h0 := by rw [← hh, Bd.state]; rfl
  obtain ⟨i, w, v, T2, locs2, k2, n2, pcr, q1, Ls2, vm1, h1, X2, hS, hz, h3, h4, h5, h6, h7⟩ := H p e s m below meth c s₁ X0 hx hby hml0 hown hnm hZ e0
  have hret := Bd.returns
  have hv : meth.sig.returnType = none → v = none := by
    intro q
    rw [hret] at q
    rcases h1 with ⟨-, z, hr, -⟩ | ⟨-, t, z, hr, -⟩ | ⟨-, hr, -⟩ | ⟨-, t, u, hr, -⟩ | ⟨-, -, -, hr⟩
    · rw [hr] at q; cases q
    · rw [hr] at q; cases q
    · rw [hr] at q; cases q
    · rw [hr] at q; cases q
    · exact hr
  obtain ⟨fs, hr, hrun, hended, hE1, hE2, hE3, hE4⟩ := X2.leaveW hS hz (v := v) hv
  refine ⟨_, _, ?_, hrun, hended, _, _, rfl, h5, ⟨_, rfl⟩, hE2, hE3, hE4.mono h3 h4⟩
  rw [hent]
  apply h7
  rcases h1 with ⟨rfl, z, rfl, rfl, rfl⟩ | ⟨rfl, t, z, rfl, ht, rfl, rfl⟩ | ⟨rfl, rfl, z, rfl, rfl⟩ | ⟨rfl, t, u, rfl, ht, hu, hnw, rfl, rfl⟩ | ⟨rfl, rfl, rfl, rfl⟩
  · exact retI X2 hx hret h6 hr
  · exact retN X2 hx hret ht h6 hr
  · exact retOut X2 hx hret rfl (Or.inr (Or.inl ⟨rfl, rfl, z, rfl⟩)) h6 hr
  · exact retOut X2 hx hret hnw (Or.inr (Or.inr (Or.inr (Or.inr ⟨rfl, ht, hu⟩)))) h6 hr
  · exact X2.returnOut hx hret h6 hr
/-- a constructor called whose walk may have interned -/
theorem own_callIW (X : Stand p l e R s m args below meth c T locs k n) (hx : p.tables.exec = Jvm.exec) (hZ : Z.Warmed39 s.vm) {own : String} {index : Nat} {y : MethodName} {bytes : ByteArray} {maxL W : Nat} {rm : Room} {a : Addr} {argsL rest : List Value} {ps : List FieldType} {r : Option FieldType} {Qc : Option Value → Heap → List Loc → Prop}
    (hy1 : y.name = "<init>") (hown : s.vm.findClass own = some m.cls) (w1 : (Jvm.Cond.methodLink own index y).before a0 Z = true) (w2 : (Jvm.Cond.instanceMethod y).before a0 Z = true) (w3 : (Jvm.Cond.initialized y.cls).before a0 Z = true) (w4 : (Jvm.Cond.code y bytes maxL none).before a0 Z = true) (hy : y.cls ≠ "java/lang/invoke/MethodHandle" ∧ y.cls ≠ "java/lang/invoke/VarHandle")
    (hM : MetFree l y (head1 [Jvm.Cond.code y bytes maxL none] rm) (fun a' U => a' = (Value.ref a :: argsL).toArray ∧ Z.Warmed39 U.vm ∧ U.heap = h) (fun _ _ _ _ _ => True) (fun _ U o U' => ∃ v L, o = .returned v ∧ Qc v U'.heap L ∧ ReturnedEndW U o U' L rm.cells rm.slots))
    (hf : rm.frames + 1 ≤ R.frames) (hl : W + (maxL + 11) + rm.locals ≤ R.locals) (hc : k + rm.cells ≤ R.cells) (hs : n + rm.slots ≤ R.slots) (eT : T.heap = h)
    (hg : g.method = m) (hsize : g.locals.size = c.maxLocals) (hd : parseMethodDescriptor y.desc = some ⟨ps, r⟩) (hlen : argsL.length = ps.length) (hstack : g.stack = argsL.reverse ++ .ref a :: rest) (hW : 2 * g.monitorRoom + (rest.map fun v => v.category).sum ≤ W) (hdg : decode c.code g.pc = .ok (.invokespecial index, 3)) :
    ∃ v T' L, Stand p l e R (s.setVm T'.vm) m args below meth c T' (locs ++ L) (k + rm.cells) (n + rm.slots) ∧ s.Since T'.vm T'.heap.size ∧ T.heap.size ≤ T'.heap.size ∧ Z.Warmed39 (s.setVm T'.vm).vm ∧ (s.setVm T'.vm).vm.findClass own = some m.cls ∧ Qc v T'.heap L ∧ ∀ t, Steps p.tables e below (T'.setTop { g with pc := g.pc + 3, stack := v.toList ++ rest }) t → Steps p.tables e below (T.setTop g) t := by
  obtain ⟨v, vm1, ⟨T', L', k', n'⟩, -, X', hS, hgr, ⟨Lc, hQ, l1, y1, z1⟩, st⟩ := X.specialBackS hx (y := y) hy1 hown (mvT hZ w1) (mvT hZ w2) (mvT hZ w4) hy (backOfS (W := W) hM hZ w4 w3 hf hl) hg hsize (Steps.refl _) (a := a) (argsL := argsL) (rest := rest) (lenOf hd hlen) hstack hW hdg (fun _ _ => ⟨rfl, eT, hc, hs⟩)
  dsimp only [Pt.U, Pt.locs, Pt.cells, Pt.slots] at X' l1 y1 z1 st hQ hS hgr
  subst l1 y1 z1
  exact ⟨v, T', Lc, X', hS, hgr, State.Warmed39.trans (t := s) hZ hS.1, by rw [show (s.setVm T'.vm).vm = T'.vm from rfl, hS.1.alike.findClass]; exact hown, hQ, fun t k => st.trans k⟩
end OwnWide
end Jvm.RoadKit
namespace Jvm.Pilot.@@N@@
open Jvm Jvm.ClassFile Sem Op Lib Jvm.Free Jvm.Stand Jvm.LawKit Jvm.RoadKit Bundle Jvm.Pilot.@@N@@.Jvm.D
/-! body 1: java/lang/Math.min:(II)I -/
theorem d1_0 : decode jdk_29_method_69_code 0 = .ok (.iload_n 0, 1) := by decide +kernel
theorem d1_1 : decode jdk_29_method_69_code 1 = .ok (.iload_n 1, 1) := by decide +kernel
theorem d1_2 : decode jdk_29_method_69_code 2 = .ok (.if_icmp .gt 7, 3) := by decide +kernel
theorem d1_5 : decode jdk_29_method_69_code 5 = .ok (.iload_n 0, 1) := by decide +kernel
theorem d1_6 : decode jdk_29_method_69_code 6 = .ok (.goto 4, 3) := by decide +kernel
theorem d1_9 : decode jdk_29_method_69_code 9 = .ok (.iload_n 1, 1) := by decide +kernel
theorem d1_10 : decode jdk_29_method_69_code 10 = .ok (.ireturn, 1) := by decide +kernel
theorem ef_1 (m : MethodId) (p0 : Int32) (p1 : Int32) : entryFrame m #[(.int p0), (.int p1)] 2 = mkF m 0 #[.val (.int p0), .val (.int p1)] [] := by first | (simp [entryFrame, mkF, argsToLocals, Value.category]; done) | rfl
def f1_0 (p0 : Int32) (p1 : Int32) : Int32 := (if p1 < p0 then p1 else p0)
set_option maxRecDepth 65536 in
set_option maxHeartbeats 40000000 in
theorem j1_0 {p : Program} {l : Launch} {e : Env} {s : State} {m : MethodId} {args : Array Value} {below : List Frame} {meth : Method} {c : Code} {T0 : State} {locs : List Loc} {Z : State} {a0 : Array Value} {h0 : Heap} {n0 : Nat}
    (X0 : Stand p l e ({ frames := 0, cells := 0, slots := 0, locals := 0 } : Room) s m args below meth c T0 locs 0 0) (hx : p.tables.exec = Jvm.exec) (hZ : Z.Warmed39 s.vm) (hw : ∀ d ∈ tables_1, d.before a0 Z = true) (hby : c.code = jdk_29_method_69_code) (hml : c.maxLocals = 2) (hown : s.vm.findClass "java/lang/Math" = some m.cls) (e0 : T0.heap = h0) (N0 : Fr n0 locs) (Z0 : n0 ≤ h0.size) (p0 : Int32) (p1 : Int32) :
    OwnFin X0 (some .int) (PQ (some (.int (f1_0 p0 p1))) h0 n0) 0 0 (mkF m 0 #[.val (.int p0), .val (.int p1)] []) := by
  show OwnFin X0 (some .int) (PQ (some (.int (if p1 < p0 then p1 else p0))) h0 n0) 0 0 _
  refine OwnFin.step (g' := (mkF m 1 #[.val (.int p0), .val (.int p1)] [(.int p0)])) X0 (fun t k => XS.iloadN X0.here hx rfl (hb hby d1_0) rfl k) ?_
  refine OwnFin.step (g' := (mkF m 2 #[.val (.int p0), .val (.int p1)] [(.int p1), (.int p0)])) X0 (fun t k => XS.iloadN X0.here hx rfl (hb hby d1_1) rfl k) ?_
  by_cases hc1 : p1 < p0
  · rw [if_pos hc1]
    refine OwnFin.step (g' := (mkF m 9 #[.val (.int p0), .val (.int p1)] [])) X0 (fun t k => XS.icmpYes X0.here hx rfl (pc0 := 2) (pc' := 9) rfl (hb hby d1_2) rfl (tlt hc1).2.2.1 (by decide) (by decide) k) ?_
    refine OwnFin.step (g' := (mkF m 10 #[.val (.int p0), .val (.int p1)] [(.int p1)])) X0 (fun t k => XS.iloadN X0.here hx rfl (hb hby d1_9) rfl k) ?_
    exact OwnFin.retInt X0 (hb hby d1_10) (Nat.le_refl _) (Nat.le_refl _) ⟨rfl, e0, N0⟩
  · rw [if_neg hc1]
    refine OwnFin.step (g' := (mkF m 5 #[.val (.int p0), .val (.int p1)] [])) X0 (fun t k => XS.icmpNo X0.here hx rfl (hb hby d1_2) rfl (flt hc1).2.2.1 k) ?_
    refine OwnFin.step (g' := (mkF m 6 #[.val (.int p0), .val (.int p1)] [(.int p0)])) X0 (fun t k => XS.iloadN X0.here hx rfl (hb hby d1_5) rfl k) ?_
    refine OwnFin.step (g' := (mkF m 10 #[.val (.int p0), .val (.int p1)] [(.int p0)])) X0 (fun t k => XS.goto X0.here hx rfl (pc0 := 6) (pc' := 10) rfl (hb hby d1_6) (by decide) (by decide) k) ?_
    exact OwnFin.retInt X0 (hb hby d1_10) (Nat.le_refl _) (Nat.le_refl _) ⟨rfl, e0, N0⟩
def r1 (p0 : Int32) (p1 : Int32) : Int32 := f1_0 p0 p1
set_option maxRecDepth 65536 in
set_option maxHeartbeats 40000000 in
theorem rm1 (l : Launch) (Z : State) (a0 : Array Value) (hw : ∀ d ∈ tables_1, d.before a0 Z = true) (ws : List Jvm.Cond) (p0 : Int32) (p1 : Int32) (h0 : Heap) (n0 : Nat) (Z0 : n0 ≤ h0.size) :
    MetFree l (⟨"java/lang/Math", "min", "(II)I"⟩ : MethodName) (head1 (Jvm.Cond.code (⟨"java/lang/Math", "min", "(II)I"⟩ : MethodName) jdk_29_method_69_code 2 (some .int) :: ws) ({ frames := 0, cells := 0, slots := 0, locals := 0 } : Room)) (fun a U => a = #[(.int p0), (.int p1)] ∧ Z.Warmed39 U.vm ∧ U.heap = h0) (fun _ _ _ _ _ => True) (fun _ U o U' => ∃ v L, o = .returned v ∧ PQ (some (.int (r1 p0 p1))) h0 n0 v U'.heap L ∧ FrameEnd U o U' L ({ frames := 0, cells := 0, slots := 0, locals := 0 } : Room).cells ({ frames := 0, cells := 0, slots := 0, locals := 0 } : Room).slots) :=
  own_met (ret := (some .int)) (Jvm.Free.JP.mathPlain rfl (by decide +kernel)) (fun m => ef_1 m p0 p1) (fun p e s m below meth c s₁ X hx hby hml hown hnm hZ e0 => OwnFin.wide (j1_0 X hx hZ hw hby hml hown e0 (Fr.nil n0) Z0 p0 p1) (Nat.zero_le _) (Nat.zero_le _))
/-! body 2: java/lang/Math.max:(II)I -/
theorem d2_0 : decode jdk_29_method_65_code 0 = .ok (.iload_n 0, 1) := by decide +kernel
theorem d2_1 : decode jdk_29_method_65_code 1 = .ok (.iload_n 1, 1) := by decide +kernel
theorem d2_2 : decode jdk_29_method_65_code 2 = .ok (.if_icmp .lt 7, 3) := by decide +kernel
theorem d2_5 : decode jdk_29_method_65_code 5 = .ok (.iload_n 0, 1) := by decide +kernel
theorem d2_6 : decode jdk_29_method_65_code 6 = .ok (.goto 4, 3) := by decide +kernel
theorem d2_9 : decode jdk_29_method_65_code 9 = .ok (.iload_n 1, 1) := by decide +kernel
theorem d2_10 : decode jdk_29_method_65_code 10 = .ok (.ireturn, 1) := by decide +kernel
theorem ef_2 (m : MethodId) (p0 : Int32) (p1 : Int32) : entryFrame m #[(.int p0), (.int p1)] 2 = mkF m 0 #[.val (.int p0), .val (.int p1)] [] := by first | (simp [entryFrame, mkF, argsToLocals, Value.category]; done) | rfl
def f2_0 (p0 : Int32) (p1 : Int32) : Int32 := (if p0 < p1 then p1 else p0)
set_option maxRecDepth 65536 in
set_option maxHeartbeats 40000000 in
theorem j2_0 {p : Program} {l : Launch} {e : Env} {s : State} {m : MethodId} {args : Array Value} {below : List Frame} {meth : Method} {c : Code} {T0 : State} {locs : List Loc} {Z : State} {a0 : Array Value} {h0 : Heap} {n0 : Nat}
    (X0 : Stand p l e ({ frames := 0, cells := 0, slots := 0, locals := 0 } : Room) s m args below meth c T0 locs 0 0) (hx : p.tables.exec = Jvm.exec) (hZ : Z.Warmed39 s.vm) (hw : ∀ d ∈ tables_1, d.before a0 Z = true) (hby : c.code = jdk_29_method_65_code) (hml : c.maxLocals = 2) (hown : s.vm.findClass "java/lang/Math" = some m.cls) (e0 : T0.heap = h0) (N0 : Fr n0 locs) (Z0 : n0 ≤ h0.size) (p0 : Int32) (p1 : Int32) :
    OwnFin X0 (some .int) (PQ (some (.int (f2_0 p0 p1))) h0 n0) 0 0 (mkF m 0 #[.val (.int p0), .val (.int p1)] []) := by
  show OwnFin X0 (some .int) (PQ (some (.int (if p0 < p1 then p1 else p0))) h0 n0) 0 0 _
  refine OwnFin.step (g' := (mkF m 1 #[.val (.int p0), .val (.int p1)] [(.int p0)])) X0 (fun t k => XS.iloadN X0.here hx rfl (hb hby d2_0) rfl k) ?_
  refine OwnFin.step (g' := (mkF m 2 #[.val (.int p0), .val (.int p1)] [(.int p1), (.int p0)])) X0 (fun t k => XS.iloadN X0.here hx rfl (hb hby d2_1) rfl k) ?_
  by_cases hc1 : p0 < p1
  · rw [if_pos hc1]
    refine OwnFin.step (g' := (mkF m 9 #[.val (.int p0), .val (.int p1)] [])) X0 (fun t k => XS.icmpYes X0.here hx rfl (pc0 := 2) (pc' := 9) rfl (hb hby d2_2) rfl (tlt hc1).1 (by decide) (by decide) k) ?_
    refine OwnFin.step (g' := (mkF m 10 #[.val (.int p0), .val (.int p1)] [(.int p1)])) X0 (fun t k => XS.iloadN X0.here hx rfl (hb hby d2_9) rfl k) ?_
    exact OwnFin.retInt X0 (hb hby d2_10) (Nat.le_refl _) (Nat.le_refl _) ⟨rfl, e0, N0⟩
  · rw [if_neg hc1]
    refine OwnFin.step (g' := (mkF m 5 #[.val (.int p0), .val (.int p1)] [])) X0 (fun t k => XS.icmpNo X0.here hx rfl (hb hby d2_2) rfl (flt hc1).1 k) ?_
    refine OwnFin.step (g' := (mkF m 6 #[.val (.int p0), .val (.int p1)] [(.int p0)])) X0 (fun t k => XS.iloadN X0.here hx rfl (hb hby d2_5) rfl k) ?_
    refine OwnFin.step (g' := (mkF m 10 #[.val (.int p0), .val (.int p1)] [(.int p0)])) X0 (fun t k => XS.goto X0.here hx rfl (pc0 := 6) (pc' := 10) rfl (hb hby d2_6) (by decide) (by decide) k) ?_
    exact OwnFin.retInt X0 (hb hby d2_10) (Nat.le_refl _) (Nat.le_refl _) ⟨rfl, e0, N0⟩
def r2 (p0 : Int32) (p1 : Int32) : Int32 := f2_0 p0 p1
set_option maxRecDepth 65536 in
set_option maxHeartbeats 40000000 in
theorem rm2 (l : Launch) (Z : State) (a0 : Array Value) (hw : ∀ d ∈ tables_1, d.before a0 Z = true) (ws : List Jvm.Cond) (p0 : Int32) (p1 : Int32) (h0 : Heap) (n0 : Nat) (Z0 : n0 ≤ h0.size) :
    MetFree l (⟨"java/lang/Math", "max", "(II)I"⟩ : MethodName) (head1 (Jvm.Cond.code (⟨"java/lang/Math", "max", "(II)I"⟩ : MethodName) jdk_29_method_65_code 2 (some .int) :: ws) ({ frames := 0, cells := 0, slots := 0, locals := 0 } : Room)) (fun a U => a = #[(.int p0), (.int p1)] ∧ Z.Warmed39 U.vm ∧ U.heap = h0) (fun _ _ _ _ _ => True) (fun _ U o U' => ∃ v L, o = .returned v ∧ PQ (some (.int (r2 p0 p1))) h0 n0 v U'.heap L ∧ FrameEnd U o U' L ({ frames := 0, cells := 0, slots := 0, locals := 0 } : Room).cells ({ frames := 0, cells := 0, slots := 0, locals := 0 } : Room).slots) :=
  own_met (ret := (some .int)) (Jvm.Free.JP.mathPlain rfl (by decide +kernel)) (fun m => ef_2 m p0 p1) (fun p e s m below meth c s₁ X hx hby hml hown hnm hZ e0 => OwnFin.wide (j2_0 X hx hZ hw hby hml hown e0 (Fr.nil n0) Z0 p0 p1) (Nat.zero_le _) (Nat.zero_le _))
/-! body 4: java/lang/Record.<init>:()V -/
theorem d4_0 : decode jdk_30_method_1_code 0 = .ok (.aload_n 0, 1) := by decide +kernel
theorem d4_1 : decode jdk_30_method_1_code 1 = .ok (.invokespecial 1, 3) := by decide +kernel
theorem d4_4 : decode jdk_30_method_1_code 4 = .ok (.return_, 1) := by decide +kernel
theorem pn_4 : plainName "java/lang/Record" = true := by first | (simp [plainName, overriddenIn]; done) | decide +kernel
theorem ef_4 (m : MethodId) (o0 : Addr) : entryFrame m #[(.ref o0)] 1 = mkF m 0 #[.val (.ref o0)] [] := by first | (simp [entryFrame, mkF, argsToLocals, Value.category]; done) | rfl
set_option maxRecDepth 65536 in
set_option maxHeartbeats 40000000 in
theorem j4_0 {p : Program} {l : Launch} {e : Env} {s : State} {m : MethodId} {args : Array Value} {below : List Frame} {meth : Method} {c : Code} {T0 : State} {locs : List Loc} {Z : State} {a0 : Array Value} {h0 : Heap} {n0 : Nat}
    (X0 : Stand p l e ({ frames := 1, cells := 0, slots := 0, locals := 12 } : Room) s m args below meth c T0 locs 0 0) (hx : p.tables.exec = Jvm.exec) (hZ : Z.Warmed39 s.vm) (hw : ∀ d ∈ tables_1, d.before a0 Z = true) (hby : c.code = jdk_30_method_1_code) (hml : c.maxLocals = 1) (hown : s.vm.findClass "java/lang/Record" = some m.cls) (e0 : T0.heap = h0) (N0 : Fr n0 locs) (Z0 : n0 ≤ h0.size) (o0 : Addr) :
    OwnFin X0 none (PQ none h0 n0) 0 0 (mkF m 0 #[.val (.ref o0)] []) := by
  refine OwnFin.step (g' := (mkF m 1 #[.val (.ref o0)] [(.ref o0)])) X0 (fun t k => XS.aloadN X0.here hx rfl (hb hby d4_0) rfl rfl k) ?_
  obtain ⟨T1, X1, e1, st1⟩ := initO X0 hx hZ hown (hw _ (wm 19 rfl)) (hw _ (wm 20 rfl)) (hw _ (wm 21 rfl)) e0 (g := (mkF m 1 #[.val (.ref o0)] [(.ref o0)])) rfl (by rw [hml]; rfl) rfl (hb hby d4_1) (by decide) (W := 0) (by show 2 * 0 + _ ≤ _; exact Nat.le_of_eq rfl) (by decide)
  refine OwnFin.step (g' := (mkF m 4 #[.val (.ref o0)] [])) X1 (fun t k => st1 _ k) ?_
  exact OwnFin.retVoid X1 (hb hby d4_4) (Nat.le_refl _) (Nat.le_refl _) ⟨rfl, e1, N0⟩
set_option maxRecDepth 65536 in
set_option maxHeartbeats 40000000 in
theorem rm4 (l : Launch) (Z : State) (a0 : Array Value) (hw : ∀ d ∈ tables_1, d.before a0 Z = true) (ws : List Jvm.Cond) (o0 : Addr) (h0 : Heap) (n0 : Nat) (Z0 : n0 ≤ h0.size) :
    MetFree l (⟨"java/lang/Record", "<init>", "()V"⟩ : MethodName) (head1 (Jvm.Cond.code (⟨"java/lang/Record", "<init>", "()V"⟩ : MethodName) jdk_30_method_1_code 1 none :: ws) ({ frames := 1, cells := 0, slots := 0, locals := 12 } : Room)) (fun a U => a = #[(.ref o0)] ∧ Z.Warmed39 U.vm ∧ U.heap = h0) (fun _ _ _ _ _ => True) (fun _ U o U' => ∃ v L, o = .returned v ∧ PQ none h0 n0 v U'.heap L ∧ FrameEnd U o U' L ({ frames := 1, cells := 0, slots := 0, locals := 12 } : Room).cells ({ frames := 1, cells := 0, slots := 0, locals := 12 } : Room).slots) :=
  own_met (ret := none) (plainFor_of_name pn_4) (fun m => ef_4 m o0) (fun p e s m below meth c s₁ X hx hby hml hown hnm hZ e0 => OwnFin.wide (j4_0 X hx hZ hw hby hml hown e0 (Fr.nil n0) Z0 o0) (Nat.zero_le _) (Nat.zero_le _))
theorem own_strs {Z : State} {a0 : Array Value} (hw : ∀ d ∈ tables_1, d.before a0 Z = true) : ∀ a ∈ Bundle.stringAtoms, a.before a0 Z = true := by
  intro d hd
  simp only [Bundle.stringAtoms, List.mem_cons, List.not_mem_nil, or_false] at hd
  rcases hd with rfl | rfl | rfl | rfl | rfl | rfl | rfl
  · exact (hw _ (wm 23 rfl))
  · exact (hw _ (wm 24 rfl))
  · exact (hw _ (wm 25 rfl))
  · exact (hw _ (wm 26 rfl))
  · exact (hw _ (wm 27 rfl))
  · exact (hw _ (wm 28 rfl))
  · exact (hw _ (wm 29 rfl))
theorem d6_0 : decode prog_46_method_7_code 0 = .ok (.iconst 2, 1) := by decide +kernel
theorem d6_1 : decode prog_46_method_7_code 1 = .ok (.newarray .int, 2) := by decide +kernel
theorem d6_3 : decode prog_46_method_7_code 3 = .ok (.dup, 1) := by decide +kernel
theorem d6_4 : decode prog_46_method_7_code 4 = .ok (.iconst 0, 1) := by decide +kernel
theorem d6_5 : decode prog_46_method_7_code 5 = .ok (.iload_n 0, 1) := by decide +kernel
theorem d6_6 : decode prog_46_method_7_code 6 = .ok (.iastore, 1) := by decide +kernel
theorem d6_7 : decode prog_46_method_7_code 7 = .ok (.dup, 1) := by decide +kernel
theorem d6_8 : decode prog_46_method_7_code 8 = .ok (.iconst 1, 1) := by decide +kernel
theorem d6_9 : decode prog_46_method_7_code 9 = .ok (.iload_n 1, 1) := by decide +kernel
theorem d6_10 : decode prog_46_method_7_code 10 = .ok (.iastore, 1) := by decide +kernel
theorem d6_11 : decode prog_46_method_7_code 11 = .ok (.astore 4, 2) := by decide +kernel
theorem d6_13 : decode prog_46_method_7_code 13 = .ok (.aload 4, 2) := by decide +kernel
theorem d6_15 : decode prog_46_method_7_code 15 = .ok (.arraylength, 1) := by decide +kernel
theorem d6_16 : decode prog_46_method_7_code 16 = .ok (.istore 5, 2) := by decide +kernel
theorem d6_18 : decode prog_46_method_7_code 18 = .ok (.iconst 0, 1) := by decide +kernel
theorem d6_19 : decode prog_46_method_7_code 19 = .ok (.istore 6, 2) := by decide +kernel
theorem d6_21 : decode prog_46_method_7_code 21 = .ok (.iload 6, 2) := by decide +kernel
theorem d6_23 : decode prog_46_method_7_code 23 = .ok (.iload 5, 2) := by decide +kernel
theorem d6_25 : decode prog_46_method_7_code 25 = .ok (.if_icmp .ge 46, 3) := by decide +kernel
theorem d6_28 : decode prog_46_method_7_code 28 = .ok (.aload 4, 2) := by decide +kernel
theorem d6_30 : decode prog_46_method_7_code 30 = .ok (.iload 6, 2) := by decide +kernel
theorem d6_32 : decode prog_46_method_7_code 32 = .ok (.iaload, 1) := by decide +kernel
theorem d6_33 : decode prog_46_method_7_code 33 = .ok (.istore 7, 2) := by decide +kernel
theorem d6_35 : decode prog_46_method_7_code 35 = .ok (.iload 7, 2) := by decide +kernel
theorem d6_37 : decode prog_46_method_7_code 37 = .ok (.ifCond .lt 10, 3) := by decide +kernel
theorem d6_40 : decode prog_46_method_7_code 40 = .ok (.iload 7, 2) := by decide +kernel
theorem d6_42 : decode prog_46_method_7_code 42 = .ok (.bipush 24, 2) := by decide +kernel
theorem d6_44 : decode prog_46_method_7_code 44 = .ok (.if_icmp .le 21, 3) := by decide +kernel
theorem d6_65 : decode prog_46_method_7_code 65 = .ok (.iinc 6 1, 3) := by decide +kernel
theorem d6_68 : decode prog_46_method_7_code 68 = .ok (.goto (-47), 3) := by decide +kernel
theorem d6_71 : decode prog_46_method_7_code 71 = .ok (.iload_n 0, 1) := by decide +kernel
theorem d6_72 : decode prog_46_method_7_code 72 = .ok (.iload_n 1, 1) := by decide +kernel
theorem d6_73 : decode prog_46_method_7_code 73 = .ok (.if_icmp .le 20, 3) := by decide +kernel
theorem d6_93 : decode prog_46_method_7_code 93 = .ok (.return_, 1) := by decide +kernel
theorem pn_6 : plainName "com/example/tilewright/tilewright/ZoomRange" = true := by first | (simp [plainName, overriddenIn]; done) | decide +kernel
theorem ef_6 (m : MethodId) (p0 : Int32) (p1 : Int32) (o2 : Addr) (o3 : Addr) : entryFrame m #[(.int p0), (.int p1), (.ref o2), (.ref o3)] 8 = mkF m 0 #[.val (.int p0), .val (.int p1), .val (.ref o2), .val (.ref o3), .unset, .unset, .unset, .unset] [] := by first | (simp [entryFrame, mkF, argsToLocals, Value.category]; done) | rfl
def G6_6 (p0 : Int32) : Nat → Int32 := (updN (fun _ => (0 : Int32)) ((0 : Int32)).toNatClampNeg p0)
def G6_10 (p0 : Int32) (p1 : Int32) : Nat → Int32 := (updN (G6_6 p0) ((1 : Int32)).toNatClampNeg p1)
theorem own_z0 : (0 : Int32).toInt = 0 := rfl
theorem own_z24 : (24 : Int32).toInt = 24 := rfl
theorem br6_37 (p0 : Int32) (p1 : Int32) (hp0 : 0 ≤ p0.toInt ∧ p0.toInt ≤ 24) (hp1 : 0 ≤ p1.toInt ∧ p1.toInt ≤ 24) (hle : p0.toInt ≤ p1.toInt) : ¬ (p0 < (0 : Int32)) := by rw [i32lt, own_z0]; omega
theorem br6_44 (p0 : Int32) (p1 : Int32) (hp0 : 0 ≤ p0.toInt ∧ p0.toInt ≤ 24) (hp1 : 0 ≤ p1.toInt ∧ p1.toInt ≤ 24) (hle : p0.toInt ≤ p1.toInt) : ¬ ((24 : Int32) < p0) := by rw [i32lt, own_z24]; omega
theorem br6_37z (p1 : Int32) (p0 : Int32) (hp0 : 0 ≤ p0.toInt ∧ p0.toInt ≤ 24) (hp1 : 0 ≤ p1.toInt ∧ p1.toInt ≤ 24) (hle : p0.toInt ≤ p1.toInt) : ¬ (p1 < (0 : Int32)) := by rw [i32lt, own_z0]; omega
theorem br6_44z (p1 : Int32) (p0 : Int32) (hp0 : 0 ≤ p0.toInt ∧ p0.toInt ≤ 24) (hp1 : 0 ≤ p1.toInt ∧ p1.toInt ≤ 24) (hle : p0.toInt ≤ p1.toInt) : ¬ ((24 : Int32) < p1) := by rw [i32lt, own_z24]; omega
theorem br6_73 (p0 : Int32) (p1 : Int32) (hp0 : 0 ≤ p0.toInt ∧ p0.toInt ≤ 24) (hp1 : 0 ≤ p1.toInt ∧ p1.toInt ≤ 24) (hle : p0.toInt ≤ p1.toInt) : ¬ (p1 < p0) := by rw [i32lt]; omega
def Q6 (Z : State) (p0 : Int32) (p1 : Int32) (o2 : Addr) (o3 : Addr) (h0 : Heap) (n0 : Nat) : Option Value → Heap → List Loc → Prop := fun v h L => v = none ∧ Fr n0 L ∧ Keep h0 h []
set_option maxRecDepth 65536 in
set_option maxHeartbeats 40000000 in
theorem j6 {p : Program} {l : Launch} {e : Env} {s : State} {m : MethodId} {args : Array Value} {below : List Frame} {meth : Method} {c : Code} {T0 : State} {locs : List Loc} {Z : State} {a0 : Array Value} {h0 : Heap} {n0 : Nat}
    (X0 : Stand p l e ({ frames := 0, cells := 1, slots := 2, locals := 0 } : Room) s m args below meth c T0 locs 0 0) (hx : p.tables.exec = Jvm.exec) (hZ : Z.Warmed39 s.vm) (hw : ∀ d ∈ tables_1, d.before a0 Z = true) (hby : c.code = prog_46_method_7_code) (hml : c.maxLocals = 8) (hown : s.vm.findClass "com/example/tilewright/tilewright/ZoomRange" = some m.cls) (hnm : meth.name = "check") (e0 : T0.heap = h0) (N0 : Fr n0 locs) (Z0 : n0 ≤ h0.size) (p0 : Int32) (p1 : Int32) (o2 : Addr) (o3 : Addr) (hp0 : 0 ≤ p0.toInt ∧ p0.toInt ≤ 24) (hp1 : 0 ≤ p1.toInt ∧ p1.toInt ≤ 24) (hle : p0.toInt ≤ p1.toInt) :
    OwnFin X0 none (Q6 Z p0 p1 o2 o3 h0 n0) ({ frames := 0, cells := 1, slots := 2, locals := 0 } : Room).cells ({ frames := 0, cells := 1, slots := 2, locals := 0 } : Room).slots (mkF m 0 #[.val (.int p0), .val (.int p1), .val (.ref o2), .val (.ref o3), .unset, .unset, .unset, .unset] []) := by
  refine OwnFin.step (g' := (mkF m 1 #[.val (.int p0), .val (.int p1), .val (.ref o2), .val (.ref o3), .unset, .unset, .unset, .unset] [(.int (2 : Int32))])) X0 (fun t k => XS.iconst X0.here hx rfl (hb hby d6_0) k) ?_
  obtain ⟨T1, h1, b1, X1, e1, y1, K1, A1, st1⟩ := own_new X0 hx hZ (hw _ (wm 34 rfl)) e0 (g := (mkF m 1 #[.val (.int p0), .val (.int p1), .val (.ref o2), .val (.ref o3), .unset, .unset, .unset, .unset] [(.int (2 : Int32))])) rfl (hb hby d6_1) rfl (by decide) (cap := 2) (by decide) (by decide) (by decide) (by decide)
  have B1 : Ary Z h1 b1 .int 2 (fun i => .int ((fun _ => (0 : Int32)) i)) := A1
  have g_b1 : n0 ≤ b1 := by rw [y1]; exact Z0
  have sz_b1 : h0.size ≤ b1 := by rw [y1]; exact Nat.le_refl h0.size
  have Z1 := Nat.le_trans Z0 K1.1
  have S1 := Nat.le_trans (Nat.le_refl h0.size) K1.1
  refine OwnFin.step (g' := (mkF m 3 #[.val (.int p0), .val (.int p1), .val (.ref o2), .val (.ref o3), .unset, .unset, .unset, .unset] [(.ref b1)])) X1 (fun t k => st1 _ k) ?_
  refine OwnFin.step (g' := (mkF m 4 #[.val (.int p0), .val (.int p1), .val (.ref o2), .val (.ref o3), .unset, .unset, .unset, .unset] [(.ref b1), (.ref b1)])) X1 (fun t k => XS.dup X1.here hx rfl (hb hby d6_3) rfl rfl k) ?_
  refine OwnFin.step (g' := (mkF m 5 #[.val (.int p0), .val (.int p1), .val (.ref o2), .val (.ref o3), .unset, .unset, .unset, .unset] [(.int (0 : Int32)), (.ref b1), (.ref b1)])) X1 (fun t k => XS.iconst X1.here hx rfl (hb hby d6_4) k) ?_
  refine OwnFin.step (g' := (mkF m 6 #[.val (.int p0), .val (.int p1), .val (.ref o2), .val (.ref o3), .unset, .unset, .unset, .unset] [(.int p0), (.int (0 : Int32)), (.ref b1), (.ref b1)])) X1 (fun t k => XS.iloadN X1.here hx rfl (hb hby d6_5) rfl k) ?_
  obtain ⟨T2, h2, L2, X2, e2, N2, K2, A2, st2⟩ := own_stI X1 hx hZ e1 N0 (G := (fun _ => (0 : Int32))) B1 g_b1 (j := (0 : Int32)) (x := p0) (by decide) (g := (mkF m 6 #[.val (.int p0), .val (.int p1), .val (.ref o2), .val (.ref o3), .unset, .unset, .unset, .unset] [(.int p0), (.int (0 : Int32)), (.ref b1), (.ref b1)])) rfl rfl (hb hby d6_6)
  have B2 : Ary Z h2 b1 .int 2 (fun i => .int ((G6_6 p0) i)) := A2
  have Z2 := Nat.le_trans Z1 K2.1
  have S2 := Nat.le_trans S1 K2.1
  refine OwnFin.step (g' := (mkF m 7 #[.val (.int p0), .val (.int p1), .val (.ref o2), .val (.ref o3), .unset, .unset, .unset, .unset] [(.ref b1)])) X2 (fun t k => st2 _ k) ?_
  refine OwnFin.step (g' := (mkF m 8 #[.val (.int p0), .val (.int p1), .val (.ref o2), .val (.ref o3), .unset, .unset, .unset, .unset] [(.ref b1), (.ref b1)])) X2 (fun t k => XS.dup X2.here hx rfl (hb hby d6_7) rfl rfl k) ?_
  refine OwnFin.step (g' := (mkF m 9 #[.val (.int p0), .val (.int p1), .val (.ref o2), .val (.ref o3), .unset, .unset, .unset, .unset] [(.int (1 : Int32)), (.ref b1), (.ref b1)])) X2 (fun t k => XS.iconst X2.here hx rfl (hb hby d6_8) k) ?_
  refine OwnFin.step (g' := (mkF m 10 #[.val (.int p0), .val (.int p1), .val (.ref o2), .val (.ref o3), .unset, .unset, .unset, .unset] [(.int p1), (.int (1 : Int32)), (.ref b1), (.ref b1)])) X2 (fun t k => XS.iloadN X2.here hx rfl (hb hby d6_9) rfl k) ?_
  obtain ⟨T3, h3, L3, X3, e3, N3, K3, A3, st3⟩ := own_stI X2 hx hZ e2 N2 (G := (G6_6 p0)) B2 g_b1 (j := (1 : Int32)) (x := p1) (by decide) (g := (mkF m 10 #[.val (.int p0), .val (.int p1), .val (.ref o2), .val (.ref o3), .unset, .unset, .unset, .unset] [(.int p1), (.int (1 : Int32)), (.ref b1), (.ref b1)])) rfl rfl (hb hby d6_10)
  have B3 : Ary Z h3 b1 .int 2 (fun i => .int ((G6_10 p0 p1) i)) := A3
  have Z3 := Nat.le_trans Z2 K3.1
  have S3 := Nat.le_trans S2 K3.1
  refine OwnFin.step (g' := (mkF m 11 #[.val (.int p0), .val (.int p1), .val (.ref o2), .val (.ref o3), .unset, .unset, .unset, .unset] [(.ref b1)])) X3 (fun t k => st3 _ k) ?_
  refine OwnFin.step (g' := (mkF m 13 #[.val (.int p0), .val (.int p1), .val (.ref o2), .val (.ref o3), .val (.ref b1), .unset, .unset, .unset] [])) X3 (fun t k => XS.astore X3.here hx rfl (hb hby d6_11) rfl rfl (l' := #[.val (.int p0), .val (.int p1), .val (.ref o2), .val (.ref o3), .val (.ref b1), .unset, .unset, .unset]) rfl k) ?_
  refine OwnFin.step (g' := (mkF m 15 #[.val (.int p0), .val (.int p1), .val (.ref o2), .val (.ref o3), .val (.ref b1), .unset, .unset, .unset] [(.ref b1)])) X3 (fun t k => XS.aload X3.here hx rfl (hb hby d6_13) rfl rfl k) ?_
  refine OwnFin.step (g' := (mkF m 16 #[.val (.int p0), .val (.int p1), .val (.ref o2), .val (.ref o3), .val (.ref b1), .unset, .unset, .unset] [(.int (2 : Int32))])) X3 (fun t k => own_len X3 hx hZ e3 B3 (g := (mkF m 15 #[.val (.int p0), .val (.int p1), .val (.ref o2), .val (.ref o3), .val (.ref b1), .unset, .unset, .unset] [(.ref b1)])) rfl rfl (hb hby d6_15) _ k) ?_
  refine OwnFin.step (g' := (mkF m 18 #[.val (.int p0), .val (.int p1), .val (.ref o2), .val (.ref o3), .val (.ref b1), .val (.int (2 : Int32)), .unset, .unset] [])) X3 (fun t k => XS.istore X3.here hx rfl (hb hby d6_16) rfl (l' := #[.val (.int p0), .val (.int p1), .val (.ref o2), .val (.ref o3), .val (.ref b1), .val (.int (2 : Int32)), .unset, .unset]) rfl k) ?_
  refine OwnFin.step (g' := (mkF m 19 #[.val (.int p0), .val (.int p1), .val (.ref o2), .val (.ref o3), .val (.ref b1), .val (.int (2 : Int32)), .unset, .unset] [(.int (0 : Int32))])) X3 (fun t k => XS.iconst X3.here hx rfl (hb hby d6_18) k) ?_
  refine OwnFin.step (g' := (mkF m 21 #[.val (.int p0), .val (.int p1), .val (.ref o2), .val (.ref o3), .val (.ref b1), .val (.int (2 : Int32)), .val (.int (0 : Int32)), .unset] [])) X3 (fun t k => XS.istore X3.here hx rfl (hb hby d6_19) rfl (l' := #[.val (.int p0), .val (.int p1), .val (.ref o2), .val (.ref o3), .val (.ref b1), .val (.int (2 : Int32)), .val (.int (0 : Int32)), .unset]) rfl k) ?_
  refine OwnFin.step (g' := (mkF m 23 #[.val (.int p0), .val (.int p1), .val (.ref o2), .val (.ref o3), .val (.ref b1), .val (.int (2 : Int32)), .val (.int (0 : Int32)), .unset] [(.int (0 : Int32))])) X3 (fun t k => XS.iload X3.here hx rfl (hb hby d6_21) rfl k) ?_
  refine OwnFin.step (g' := (mkF m 25 #[.val (.int p0), .val (.int p1), .val (.ref o2), .val (.ref o3), .val (.ref b1), .val (.int (2 : Int32)), .val (.int (0 : Int32)), .unset] [(.int (2 : Int32)), (.int (0 : Int32))])) X3 (fun t k => XS.iload X3.here hx rfl (hb hby d6_23) rfl k) ?_
  refine OwnFin.step (g' := (mkF m 28 #[.val (.int p0), .val (.int p1), .val (.ref o2), .val (.ref o3), .val (.ref b1), .val (.int (2 : Int32)), .val (.int (0 : Int32)), .unset] [])) X3 (fun t k => XS.icmpNo X3.here hx rfl (hb hby d6_25) rfl (tlt (by decide)).2.1 k) ?_
  refine OwnFin.step (g' := (mkF m 30 #[.val (.int p0), .val (.int p1), .val (.ref o2), .val (.ref o3), .val (.ref b1), .val (.int (2 : Int32)), .val (.int (0 : Int32)), .unset] [(.ref b1)])) X3 (fun t k => XS.aload X3.here hx rfl (hb hby d6_28) rfl rfl k) ?_
  refine OwnFin.step (g' := (mkF m 32 #[.val (.int p0), .val (.int p1), .val (.ref o2), .val (.ref o3), .val (.ref b1), .val (.int (2 : Int32)), .val (.int (0 : Int32)), .unset] [(.int (0 : Int32)), (.ref b1)])) X3 (fun t k => XS.iload X3.here hx rfl (hb hby d6_30) rfl k) ?_
  refine OwnFin.step (g' := (mkF m 33 #[.val (.int p0), .val (.int p1), .val (.ref o2), .val (.ref o3), .val (.ref b1), .val (.int (2 : Int32)), .val (.int (0 : Int32)), .unset] [(.int p0)])) X3 (fun t k => own_ldI X3 hx hZ e3 B3 (by decide) rfl (g := (mkF m 32 #[.val (.int p0), .val (.int p1), .val (.ref o2), .val (.ref o3), .val (.ref b1), .val (.int (2 : Int32)), .val (.int (0 : Int32)), .unset] [(.int (0 : Int32)), (.ref b1)])) rfl rfl (hb hby d6_32) _ k) ?_
  refine OwnFin.step (g' := (mkF m 35 #[.val (.int p0), .val (.int p1), .val (.ref o2), .val (.ref o3), .val (.ref b1), .val (.int (2 : Int32)), .val (.int (0 : Int32)), .val (.int p0)] [])) X3 (fun t k => XS.istore X3.here hx rfl (hb hby d6_33) rfl (l' := #[.val (.int p0), .val (.int p1), .val (.ref o2), .val (.ref o3), .val (.ref b1), .val (.int (2 : Int32)), .val (.int (0 : Int32)), .val (.int p0)]) rfl k) ?_
  refine OwnFin.step (g' := (mkF m 37 #[.val (.int p0), .val (.int p1), .val (.ref o2), .val (.ref o3), .val (.ref b1), .val (.int (2 : Int32)), .val (.int (0 : Int32)), .val (.int p0)] [(.int p0)])) X3 (fun t k => XS.iload X3.here hx rfl (hb hby d6_35) rfl k) ?_
  refine OwnFin.step (g' := (mkF m 40 #[.val (.int p0), .val (.int p1), .val (.ref o2), .val (.ref o3), .val (.ref b1), .val (.int (2 : Int32)), .val (.int (0 : Int32)), .val (.int p0)] [])) X3 (fun t k => XS.ifNo X3.here hx rfl (hb hby d6_37) rfl ((if0 _ _).trans (flt (br6_37 p0 p1 hp0 hp1 hle)).1) k) ?_
  refine OwnFin.step (g' := (mkF m 42 #[.val (.int p0), .val (.int p1), .val (.ref o2), .val (.ref o3), .val (.ref b1), .val (.int (2 : Int32)), .val (.int (0 : Int32)), .val (.int p0)] [(.int p0)])) X3 (fun t k => XS.iload X3.here hx rfl (hb hby d6_40) rfl k) ?_
  refine OwnFin.step (g' := (mkF m 44 #[.val (.int p0), .val (.int p1), .val (.ref o2), .val (.ref o3), .val (.ref b1), .val (.int (2 : Int32)), .val (.int (0 : Int32)), .val (.int p0)] [(.int (24 : Int32)), (.int p0)])) X3 (fun t k => XS.bipush X3.here hx rfl (hb hby d6_42) k) ?_
  refine OwnFin.step (g' := (mkF m 65 #[.val (.int p0), .val (.int p1), .val (.ref o2), .val (.ref o3), .val (.ref b1), .val (.int (2 : Int32)), .val (.int (0 : Int32)), .val (.int p0)] [])) X3 (fun t k => XS.icmpYes X3.here hx rfl (pc0 := 44) (pc' := 65) rfl (hb hby d6_44) rfl (flt (br6_44 p0 p1 hp0 hp1 hle)).2.2.2 (by decide) (by decide) k) ?_
  refine OwnFin.step (g' := (mkF m 68 #[.val (.int p0), .val (.int p1), .val (.ref o2), .val (.ref o3), .val (.ref b1), .val (.int (2 : Int32)), .val (.int (1 : Int32)), .val (.int p0)] [])) X3 (fun t k => XS.iinc X3.here hx rfl (hb hby d6_65) rfl (l' := #[.val (.int p0), .val (.int p1), .val (.ref o2), .val (.ref o3), .val (.ref b1), .val (.int (2 : Int32)), .val (.int (1 : Int32)), .val (.int p0)]) rfl k) ?_
  refine OwnFin.step (g' := (mkF m 21 #[.val (.int p0), .val (.int p1), .val (.ref o2), .val (.ref o3), .val (.ref b1), .val (.int (2 : Int32)), .val (.int (1 : Int32)), .val (.int p0)] [])) X3 (fun t k => XS.goto X3.here hx rfl (pc0 := 68) (pc' := 21) rfl (hb hby d6_68) (by decide) (by decide) k) ?_
  refine OwnFin.step (g' := (mkF m 23 #[.val (.int p0), .val (.int p1), .val (.ref o2), .val (.ref o3), .val (.ref b1), .val (.int (2 : Int32)), .val (.int (1 : Int32)), .val (.int p0)] [(.int (1 : Int32))])) X3 (fun t k => XS.iload X3.here hx rfl (hb hby d6_21) rfl k) ?_
  refine OwnFin.step (g' := (mkF m 25 #[.val (.int p0), .val (.int p1), .val (.ref o2), .val (.ref o3), .val (.ref b1), .val (.int (2 : Int32)), .val (.int (1 : Int32)), .val (.int p0)] [(.int (2 : Int32)), (.int (1 : Int32))])) X3 (fun t k => XS.iload X3.here hx rfl (hb hby d6_23) rfl k) ?_
  refine OwnFin.step (g' := (mkF m 28 #[.val (.int p0), .val (.int p1), .val (.ref o2), .val (.ref o3), .val (.ref b1), .val (.int (2 : Int32)), .val (.int (1 : Int32)), .val (.int p0)] [])) X3 (fun t k => XS.icmpNo X3.here hx rfl (hb hby d6_25) rfl (tlt (by decide)).2.1 k) ?_
  refine OwnFin.step (g' := (mkF m 30 #[.val (.int p0), .val (.int p1), .val (.ref o2), .val (.ref o3), .val (.ref b1), .val (.int (2 : Int32)), .val (.int (1 : Int32)), .val (.int p0)] [(.ref b1)])) X3 (fun t k => XS.aload X3.here hx rfl (hb hby d6_28) rfl rfl k) ?_
  refine OwnFin.step (g' := (mkF m 32 #[.val (.int p0), .val (.int p1), .val (.ref o2), .val (.ref o3), .val (.ref b1), .val (.int (2 : Int32)), .val (.int (1 : Int32)), .val (.int p0)] [(.int (1 : Int32)), (.ref b1)])) X3 (fun t k => XS.iload X3.here hx rfl (hb hby d6_30) rfl k) ?_
  refine OwnFin.step (g' := (mkF m 33 #[.val (.int p0), .val (.int p1), .val (.ref o2), .val (.ref o3), .val (.ref b1), .val (.int (2 : Int32)), .val (.int (1 : Int32)), .val (.int p0)] [(.int p1)])) X3 (fun t k => own_ldI X3 hx hZ e3 B3 (by decide) rfl (g := (mkF m 32 #[.val (.int p0), .val (.int p1), .val (.ref o2), .val (.ref o3), .val (.ref b1), .val (.int (2 : Int32)), .val (.int (1 : Int32)), .val (.int p0)] [(.int (1 : Int32)), (.ref b1)])) rfl rfl (hb hby d6_32) _ k) ?_
  refine OwnFin.step (g' := (mkF m 35 #[.val (.int p0), .val (.int p1), .val (.ref o2), .val (.ref o3), .val (.ref b1), .val (.int (2 : Int32)), .val (.int (1 : Int32)), .val (.int p1)] [])) X3 (fun t k => XS.istore X3.here hx rfl (hb hby d6_33) rfl (l' := #[.val (.int p0), .val (.int p1), .val (.ref o2), .val (.ref o3), .val (.ref b1), .val (.int (2 : Int32)), .val (.int (1 : Int32)), .val (.int p1)]) rfl k) ?_
  refine OwnFin.step (g' := (mkF m 37 #[.val (.int p0), .val (.int p1), .val (.ref o2), .val (.ref o3), .val (.ref b1), .val (.int (2 : Int32)), .val (.int (1 : Int32)), .val (.int p1)] [(.int p1)])) X3 (fun t k => XS.iload X3.here hx rfl (hb hby d6_35) rfl k) ?_
  refine OwnFin.step (g' := (mkF m 40 #[.val (.int p0), .val (.int p1), .val (.ref o2), .val (.ref o3), .val (.ref b1), .val (.int (2 : Int32)), .val (.int (1 : Int32)), .val (.int p1)] [])) X3 (fun t k => XS.ifNo X3.here hx rfl (hb hby d6_37) rfl ((if0 _ _).trans (flt (br6_37z p1 p0 hp0 hp1 hle)).1) k) ?_
  refine OwnFin.step (g' := (mkF m 42 #[.val (.int p0), .val (.int p1), .val (.ref o2), .val (.ref o3), .val (.ref b1), .val (.int (2 : Int32)), .val (.int (1 : Int32)), .val (.int p1)] [(.int p1)])) X3 (fun t k => XS.iload X3.here hx rfl (hb hby d6_40) rfl k) ?_
  refine OwnFin.step (g' := (mkF m 44 #[.val (.int p0), .val (.int p1), .val (.ref o2), .val (.ref o3), .val (.ref b1), .val (.int (2 : Int32)), .val (.int (1 : Int32)), .val (.int p1)] [(.int (24 : Int32)), (.int p1)])) X3 (fun t k => XS.bipush X3.here hx rfl (hb hby d6_42) k) ?_
  refine OwnFin.step (g' := (mkF m 65 #[.val (.int p0), .val (.int p1), .val (.ref o2), .val (.ref o3), .val (.ref b1), .val (.int (2 : Int32)), .val (.int (1 : Int32)), .val (.int p1)] [])) X3 (fun t k => XS.icmpYes X3.here hx rfl (pc0 := 44) (pc' := 65) rfl (hb hby d6_44) rfl (flt (br6_44z p1 p0 hp0 hp1 hle)).2.2.2 (by decide) (by decide) k) ?_
  refine OwnFin.step (g' := (mkF m 68 #[.val (.int p0), .val (.int p1), .val (.ref o2), .val (.ref o3), .val (.ref b1), .val (.int (2 : Int32)), .val (.int (2 : Int32)), .val (.int p1)] [])) X3 (fun t k => XS.iinc X3.here hx rfl (hb hby d6_65) rfl (l' := #[.val (.int p0), .val (.int p1), .val (.ref o2), .val (.ref o3), .val (.ref b1), .val (.int (2 : Int32)), .val (.int (2 : Int32)), .val (.int p1)]) rfl k) ?_
  refine OwnFin.step (g' := (mkF m 21 #[.val (.int p0), .val (.int p1), .val (.ref o2), .val (.ref o3), .val (.ref b1), .val (.int (2 : Int32)), .val (.int (2 : Int32)), .val (.int p1)] [])) X3 (fun t k => XS.goto X3.here hx rfl (pc0 := 68) (pc' := 21) rfl (hb hby d6_68) (by decide) (by decide) k) ?_
  refine OwnFin.step (g' := (mkF m 23 #[.val (.int p0), .val (.int p1), .val (.ref o2), .val (.ref o3), .val (.ref b1), .val (.int (2 : Int32)), .val (.int (2 : Int32)), .val (.int p1)] [(.int (2 : Int32))])) X3 (fun t k => XS.iload X3.here hx rfl (hb hby d6_21) rfl k) ?_
  refine OwnFin.step (g' := (mkF m 25 #[.val (.int p0), .val (.int p1), .val (.ref o2), .val (.ref o3), .val (.ref b1), .val (.int (2 : Int32)), .val (.int (2 : Int32)), .val (.int p1)] [(.int (2 : Int32)), (.int (2 : Int32))])) X3 (fun t k => XS.iload X3.here hx rfl (hb hby d6_23) rfl k) ?_
  refine OwnFin.step (g' := (mkF m 71 #[.val (.int p0), .val (.int p1), .val (.ref o2), .val (.ref o3), .val (.ref b1), .val (.int (2 : Int32)), .val (.int (2 : Int32)), .val (.int p1)] [])) X3 (fun t k => XS.icmpYes X3.here hx rfl (pc0 := 25) (pc' := 71) rfl (hb hby d6_25) rfl (flt (by decide)).2.1 (by decide) (by decide) k) ?_
  refine OwnFin.step (g' := (mkF m 72 #[.val (.int p0), .val (.int p1), .val (.ref o2), .val (.ref o3), .val (.ref b1), .val (.int (2 : Int32)), .val (.int (2 : Int32)), .val (.int p1)] [(.int p0)])) X3 (fun t k => XS.iloadN X3.here hx rfl (hb hby d6_71) rfl k) ?_
  refine OwnFin.step (g' := (mkF m 73 #[.val (.int p0), .val (.int p1), .val (.ref o2), .val (.ref o3), .val (.ref b1), .val (.int (2 : Int32)), .val (.int (2 : Int32)), .val (.int p1)] [(.int p1), (.int p0)])) X3 (fun t k => XS.iloadN X3.here hx rfl (hb hby d6_72) rfl k) ?_
  refine OwnFin.step (g' := (mkF m 93 #[.val (.int p0), .val (.int p1), .val (.ref o2), .val (.ref o3), .val (.ref b1), .val (.int (2 : Int32)), .val (.int (2 : Int32)), .val (.int p1)] [])) X3 (fun t k => XS.icmpYes X3.here hx rfl (pc0 := 73) (pc' := 93) rfl (hb hby d6_73) rfl (flt (br6_73 p0 p1 hp0 hp1 hle)).2.2.2 (by decide) (by decide) k) ?_
  refine OwnFin.retVoid X3 (hb hby d6_93) (by decide) (by decide) ?_
  rw [e3]
  exact ⟨rfl, N3, (Keep.trans (Keep.trans (Keep.trans (Keep.refl h0 []) K1 all0) K2 (allS (Or.inr sz_b1) all0)) K3 (allS (Or.inr sz_b1) all0))⟩
set_option maxRecDepth 65536 in
set_option maxHeartbeats 40000000 in
theorem rm6 (l : Launch) (Z : State) (a0 : Array Value) (hw : ∀ d ∈ tables_1, d.before a0 Z = true) (ws : List Jvm.Cond) (p0 : Int32) (p1 : Int32) (o2 : Addr) (o3 : Addr) (h0 : Heap) (n0 : Nat) (Z0 : n0 ≤ h0.size) (hp0 : 0 ≤ p0.toInt ∧ p0.toInt ≤ 24) (hp1 : 0 ≤ p1.toInt ∧ p1.toInt ≤ 24) (hle : p0.toInt ≤ p1.toInt) :
    MetFree l (⟨"com/example/tilewright/tilewright/ZoomRange", "check", "(IILjava/lang/String;Ljava/lang/String;)V"⟩ : MethodName) (head1 (Jvm.Cond.code (⟨"com/example/tilewright/tilewright/ZoomRange", "check", "(IILjava/lang/String;Ljava/lang/String;)V"⟩ : MethodName) prog_46_method_7_code 8 none :: ws) ({ frames := 0, cells := 1, slots := 2, locals := 0 } : Room)) (fun a U => a = #[(.int p0), (.int p1), (.ref o2), (.ref o3)] ∧ Z.Warmed39 U.vm ∧ U.heap = h0) (fun _ _ _ _ _ => True) (fun _ U o U' => ∃ v L, o = .returned v ∧ (Q6 Z p0 p1 o2 o3 h0 n0) v U'.heap L ∧ FrameEnd U o U' L ({ frames := 0, cells := 1, slots := 2, locals := 0 } : Room).cells ({ frames := 0, cells := 1, slots := 2, locals := 0 } : Room).slots) :=
  own_met (ret := none) (Q := (Q6 Z p0 p1 o2 o3 h0 n0)) (plainFor_of_name pn_6) (fun m => ef_6 m p0 p1 o2 o3) (fun p e s m below meth c s₁ X hx hby hml hown hnm hZ e0 => j6 X hx hZ hw hby hml hown hnm e0 (Fr.nil n0) Z0 p0 p1 o2 o3 hp0 hp1 hle)
theorem d3_0 : decode prog_46_method_1_code 0 = .ok (.aload_n 0, 1) := by decide +kernel
theorem d3_1 : decode prog_46_method_1_code 1 = .ok (.invokespecial 1, 3) := by decide +kernel
theorem d3_4 : decode prog_46_method_1_code 4 = .ok (.iload_n 1, 1) := by decide +kernel
theorem d3_5 : decode prog_46_method_1_code 5 = .ok (.iload_n 2, 1) := by decide +kernel
theorem d3_6 : decode prog_46_method_1_code 6 = .ok (.ldc 7, 2) := by decide +kernel
theorem d3_8 : decode prog_46_method_1_code 8 = .ok (.ldc 9, 2) := by decide +kernel
theorem d3_10 : decode prog_46_method_1_code 10 = .ok (.invokestatic 11, 3) := by decide +kernel
theorem d3_13 : decode prog_46_method_1_code 13 = .ok (.aload_n 0, 1) := by decide +kernel
theorem d3_14 : decode prog_46_method_1_code 14 = .ok (.iload_n 1, 1) := by decide +kernel
theorem d3_15 : decode prog_46_method_1_code 15 = .ok (.putfield 17, 3) := by decide +kernel
theorem d3_18 : decode prog_46_method_1_code 18 = .ok (.aload_n 0, 1) := by decide +kernel
theorem d3_19 : decode prog_46_method_1_code 19 = .ok (.iload_n 2, 1) := by decide +kernel
theorem d3_20 : decode prog_46_method_1_code 20 = .ok (.putfield 21, 3) := by decide +kernel
theorem d3_23 : decode prog_46_method_1_code 23 = .ok (.return_, 1) := by decide +kernel
theorem pn_3 : plainName "com/example/tilewright/tilewright/ZoomRange" = true := by first | (simp [plainName, overriddenIn]; done) | decide +kernel
theorem ef_3 (m : MethodId) (o0 : Addr) (p1 : Int32) (p2 : Int32) : entryFrame m #[(.ref o0), (.int p1), (.int p2)] 3 = mkF m 0 #[.val (.ref o0), .val (.int p1), .val (.int p2)] [] := by first | (simp [entryFrame, mkF, argsToLocals, Value.category]; done) | rfl
theorem pd_0 : parseMethodDescriptor "()V" = some ⟨[], none⟩ := by decide +kernel
theorem pd_1 : parseMethodDescriptor "(IILjava/lang/String;Ljava/lang/String;)V" = some ⟨[.int, .int, (.object "java/lang/String"), (.object "java/lang/String")], none⟩ := by decide +kernel
theorem exhp03_10 (p1 : Int32) (p2 : Int32) (hp0 : 0 ≤ p1.toInt ∧ p1.toInt ≤ 24) (hp1 : 0 ≤ p2.toInt ∧ p2.toInt ≤ 24) (hle : p1.toInt ≤ p2.toInt) : 0 ≤ p1.toInt ∧ p1.toInt ≤ 24 := hp0
theorem exhp13_10 (p2 : Int32) (p1 : Int32) (hp0 : 0 ≤ p1.toInt ∧ p1.toInt ≤ 24) (hp1 : 0 ≤ p2.toInt ∧ p2.toInt ≤ 24) (hle : p1.toInt ≤ p2.toInt) : 0 ≤ p2.toInt ∧ p2.toInt ≤ 24 := hp1
theorem exhle3_10 (p1 : Int32) (p2 : Int32) (hp0 : 0 ≤ p1.toInt ∧ p1.toInt ≤ 24) (hp1 : 0 ≤ p2.toInt ∧ p2.toInt ≤ 24) (hle : p1.toInt ≤ p2.toInt) : p1.toInt ≤ p2.toInt := hle
def Q3 (Z : State) (o0 : Addr) (p1 : Int32) (p2 : Int32) (h0 : Heap) (n0 : Nat) : Option Value → Heap → List Loc → Prop := fun v h L => v = none ∧ Fr n0 L ∧ Keep h0 h [o0] ∧ Exa Z h o0 "com/example/tilewright/tilewright/ZoomRange" ∧ Fld Z h o0 "com/example/tilewright/tilewright/ZoomRange" "min" "I" (.int p1) ∧ Fld Z h o0 "com/example/tilewright/tilewright/ZoomRange" "max" "I" (.int p2)
set_option maxRecDepth 65536 in
set_option maxHeartbeats 40000000 in
theorem j3 {p : Program} {l : Launch} {e : Env} {s : State} {m : MethodId} {args : Array Value} {below : List Frame} {meth : Method} {c : Code} {T0 : State} {locs : List Loc} {Z : State} {a0 : Array Value} {h0 : Heap} {n0 : Nat}
    (X0 : Stand p l e ({ frames := 2, cells := 5, slots := 66, locals := 24 } : Room) s m args below meth c T0 locs 0 0) (hx : p.tables.exec = Jvm.exec) (hZ : Z.Warmed39 s.vm) (hw : ∀ d ∈ tables_1, d.before a0 Z = true) (hby : c.code = prog_46_method_1_code) (hml : c.maxLocals = 3) (hown : s.vm.findClass "com/example/tilewright/tilewright/ZoomRange" = some m.cls) (hnm : meth.name = "<init>") (e0 : T0.heap = h0) (N0 : Fr n0 locs) (Z0 : n0 ≤ h0.size) (o0 : Addr) (p1 : Int32) (p2 : Int32) (E_o0 : Exa Z h0 o0 "com/example/tilewright/tilewright/ZoomRange") (g_o0 : n0 ≤ o0) (F_min_o0 : Fld Z h0 o0 "com/example/tilewright/tilewright/ZoomRange" "min" "I" (.int (0 : Int32))) (F_max_o0 : Fld Z h0 o0 "com/example/tilewright/tilewright/ZoomRange" "max" "I" (.int (0 : Int32))) (hp0 : 0 ≤ p1.toInt ∧ p1.toInt ≤ 24) (hp1 : 0 ≤ p2.toInt ∧ p2.toInt ≤ 24) (hle : p1.toInt ≤ p2.toInt) :
    OwnFinW s X0 none (Q3 Z o0 p1 p2 h0 n0) ({ frames := 2, cells := 5, slots := 66, locals := 24 } : Room).cells ({ frames := 2, cells := 5, slots := 66, locals := 24 } : Room).slots (mkF m 0 #[.val (.ref o0), .val (.int p1), .val (.int p2)] []) := by
  refine OwnFinW.step (g' := (mkF m 1 #[.val (.ref o0), .val (.int p1), .val (.int p2)] [(.ref o0)])) X0 (fun t k => XS.aloadN X0.here hx rfl (hb hby d3_0) rfl rfl k) ?_
  obtain ⟨_, T1, L1, X1, ⟨rfl, f1, N1q⟩, st1⟩ := own_callI X0 hx hZ (y := (⟨"java/lang/Record", "<init>", "()V"⟩ : MethodName)) (W := 0) (a := o0) (argsL := []) (rest := []) rfl hown (hw _ (wm 14 rfl)) (hw _ (wm 15 rfl)) (hw _ (wm 17 rfl)) (hw _ (wm 18 rfl)) (by decide) (rm4 l Z a0 hw [] o0 h0 n0 Z0) (by decide) (by decide) (by decide) (by decide) e0 (g := (mkF m 1 #[.val (.ref o0), .val (.int p1), .val (.int p2)] [(.ref o0)])) rfl (by rw [hml]; rfl) pd_0 rfl rfl (by show 2 * 0 + _ ≤ _; exact Nat.le_of_eq rfl) (hb hby d3_1)
  have N1 := Fr.app N0 N1q
  refine OwnFinW.step (g' := (mkF m 4 #[.val (.ref o0), .val (.int p1), .val (.int p2)] [])) X1 (fun t k => st1 _ k) ?_
  refine OwnFinW.step (g' := (mkF m 5 #[.val (.ref o0), .val (.int p1), .val (.int p2)] [(.int p1)])) X1 (fun t k => XS.iloadN X1.here hx rfl (hb hby d3_4) rfl k) ?_
  refine OwnFinW.step (g' := (mkF m 6 #[.val (.ref o0), .val (.int p1), .val (.int p2)] [(.int p2), (.int p1)])) X1 (fun t k => XS.iloadN X1.here hx rfl (hb hby d3_5) rfl k) ?_
  have hSn : s.Since s.vm 0 := State.WarmedH.since (State.WarmedH.refl s) 0
  have hSk : 0 ≤ h0.size := Nat.zero_le _
  obtain ⟨b2, T2, h2, k2, X2, e2, E2, hSn, hSk, hZ, hown, st2⟩ := ldcS (s := s) (vm0 := s.vm) X1 hx hZ hown (text := "minzoom") (hw _ (wm 22 rfl)) (own_strs hw) f1 hSn hSk (g := (mkF m 6 #[.val (.ref o0), .val (.int p1), .val (.int p2)] [(.int p2), (.int p1)])) rfl (hb hby d3_6) (n := 28) (by decide) (by decide) (by decide) (by decide)
  have K2 := keep_ext E2
  have Z2 := Nat.le_trans Z0 K2.1
  have S2 := Nat.le_trans (Nat.le_refl h0.size) K2.1
  refine OwnFinW.step (g' := (mkF m 8 #[.val (.ref o0), .val (.int p1), .val (.int p2)] [(.ref b2), (.int p2), (.int p1)])) X2 (fun t k => st2 _ k) ?_
  obtain ⟨b3, T3, h3, k3, X3, e3, E3, hSn, hSk, hZ, hown, st3⟩ := ldcS (s := s) (vm0 := T2.vm) X2 hx hZ hown (text := "maxzoom") (hw _ (wm 30 rfl)) (own_strs hw) e2 hSn hSk (g := (mkF m 8 #[.val (.ref o0), .val (.int p1), .val (.int p2)] [(.ref b2), (.int p2), (.int p1)])) rfl (hb hby d3_8) (n := 28) (by decide) (by decide) (by decide) (by decide)
  have K3 := keep_ext E3
  have Z3 := Nat.le_trans Z2 K3.1
  have S3 := Nat.le_trans S2 K3.1
  refine OwnFinW.step (g' := (mkF m 10 #[.val (.ref o0), .val (.int p1), .val (.int p2)] [(.ref b3), (.ref b2), (.int p2), (.int p1)])) X3 (fun t k => st3 _ k) ?_
  obtain ⟨_, T4, L4, X4, ⟨rfl, N4q, u5⟩, st4⟩ := own_callS X3 hx hZ (y := (⟨"com/example/tilewright/tilewright/ZoomRange", "check", "(IILjava/lang/String;Ljava/lang/String;)V"⟩ : MethodName)) (W := 0) (argsL := [(.int p1), (.int p2), (.ref b2), (.ref b3)]) (rest := []) hown (hw _ (wm 31 rfl)) (hw _ (wm 32 rfl)) (hw _ (wm 10 rfl)) (hw _ (wm 33 rfl)) (by decide) (rm6 l Z a0 hw [] p1 p2 b2 b3 h3 n0 Z3 (exhp03_10 p1 p2 hp0 hp1 hle) (exhp13_10 p2 p1 hp0 hp1 hle) (exhle3_10 p1 p2 hp0 hp1 hle)) (by decide) (by decide) (by decide) (by decide) e3 (g := (mkF m 10 #[.val (.ref o0), .val (.int p1), .val (.int p2)] [(.ref b3), (.ref b2), (.int p2), (.int p1)])) rfl (by rw [hml]; rfl) pd_1 rfl rfl (by show 2 * 0 + _ ≤ _; exact Nat.le_of_eq rfl) (hb hby d3_10)
  have N4 := Fr.app N1 N4q
  obtain ⟨h4, e4⟩ : ∃ z, T4.heap = z := ⟨_, rfl⟩
  rw [e4] at u5
  have K4 := u5
  have Z4 := Nat.le_trans Z3 K4.1
  have S4 := Nat.le_trans S3 K4.1
  refine OwnFinW.step (g' := (mkF m 13 #[.val (.ref o0), .val (.int p1), .val (.int p2)] [])) X4 (fun t k => st4 _ k) ?_
  refine OwnFinW.step (g' := (mkF m 14 #[.val (.ref o0), .val (.int p1), .val (.int p2)] [(.ref o0)])) X4 (fun t k => XS.aloadN X4.here hx rfl (hb hby d3_13) rfl rfl k) ?_
  refine OwnFinW.step (g' := (mkF m 15 #[.val (.ref o0), .val (.int p1), .val (.int p2)] [(.int p1), (.ref o0)])) X4 (fun t k => XS.iloadN X4.here hx rfl (hb hby d3_14) rfl k) ?_
  have E6 := (Exa.keep (Exa.keep (Exa.keep E_o0 K2) K3) K4)
  have F7 := (((F_min_o0.keep K2 nin0).keep K3 nin0).keep K4 nin0)
  have F8 := (((F_max_o0.keep K2 nin0).keep K3 nin0).keep K4 nin0)
  obtain ⟨T9, h9, L9, X9, e9, N9, W9, F9, st9⟩ := own_putF X4 hx hZ hown (hw _ (wm 35 rfl)) e4 N4 F7 E6 g_o0 (Or.inr ⟨(hw _ (wm 36 rfl)), rfl, hnm⟩) (hw _ (wm 9 rfl)) (fty := .int) (by decide) rfl rfl (g := (mkF m 15 #[.val (.ref o0), .val (.int p1), .val (.int p2)] [(.int p1), (.ref o0)])) rfl rfl (hb hby d3_15)
  have K9 := Keep.of_wr W9
  have Z9 := Nat.le_trans Z4 K9.1
  have S9 := Nat.le_trans S4 K9.1
  have F10 := Fld.other W9 F8 (Or.inr (slot_ne (Or.inr (hw _ (wm 38 rfl))) (Or.inr (hw _ (wm 36 rfl))) (by decide) (t := .int) (t' := .int) (by decide) (by decide)))
  have E11 := Exa.wr W9 E6
  refine OwnFinW.step (g' := (mkF m 18 #[.val (.ref o0), .val (.int p1), .val (.int p2)] [])) X9 (fun t k => st9 _ k) ?_
  refine OwnFinW.step (g' := (mkF m 19 #[.val (.ref o0), .val (.int p1), .val (.int p2)] [(.ref o0)])) X9 (fun t k => XS.aloadN X9.here hx rfl (hb hby d3_18) rfl rfl k) ?_
  refine OwnFinW.step (g' := (mkF m 20 #[.val (.ref o0), .val (.int p1), .val (.int p2)] [(.int p2), (.ref o0)])) X9 (fun t k => XS.iloadN X9.here hx rfl (hb hby d3_19) rfl k) ?_
  obtain ⟨T12, h12, L12, X12, e12, N12, W12, F12, st12⟩ := own_putF X9 hx hZ hown (hw _ (wm 37 rfl)) e9 N9 F10 E11 g_o0 (Or.inr ⟨(hw _ (wm 38 rfl)), rfl, hnm⟩) (hw _ (wm 9 rfl)) (fty := .int) (by decide) rfl rfl (g := (mkF m 20 #[.val (.ref o0), .val (.int p1), .val (.int p2)] [(.int p2), (.ref o0)])) rfl rfl (hb hby d3_20)
  have K12 := Keep.of_wr W12
  have Z12 := Nat.le_trans Z9 K12.1
  have S12 := Nat.le_trans S9 K12.1
  have F13 := Fld.other W12 F9 (Or.inr (slot_ne (Or.inr (hw _ (wm 36 rfl))) (Or.inr (hw _ (wm 38 rfl))) (by decide) (t := .int) (t' := .int) (by decide) (by decide)))
  have E14 := Exa.wr W12 E11
  refine OwnFinW.step (g' := (mkF m 23 #[.val (.ref o0), .val (.int p1), .val (.int p2)] [])) X12 (fun t k => st12 _ k) ?_
  have hSk := (Nat.le_trans (Nat.le_trans (Nat.le_trans hSk K4.1) K9.1) K12.1)
  refine OwnFinW.retVoid (vm := T3.vm) X12 hSn (by rw [e12]; exact hSk) (hb hby d3_23) (by decide) (by decide) ?_
  rw [e12]
  exact ⟨rfl, N12, (Keep.trans (Keep.trans (Keep.trans (Keep.trans (Keep.trans (Keep.refl h0 [o0]) K2 all0) K3 all0) K4 all0) K9 (allS (Or.inl (List.mem_of_getElem? (i := 0) rfl)) all0)) K12 (allS (Or.inl (List.mem_of_getElem? (i := 0) rfl)) all0)), E14, F13, F12⟩
set_option maxRecDepth 65536 in
set_option maxHeartbeats 40000000 in
theorem rm3 (l : Launch) (Z : State) (a0 : Array Value) (hw : ∀ d ∈ tables_1, d.before a0 Z = true) (ws : List Jvm.Cond) (o0 : Addr) (p1 : Int32) (p2 : Int32) (h0 : Heap) (n0 : Nat) (Z0 : n0 ≤ h0.size) (E_o0 : Exa Z h0 o0 "com/example/tilewright/tilewright/ZoomRange") (g_o0 : n0 ≤ o0) (F_min_o0 : Fld Z h0 o0 "com/example/tilewright/tilewright/ZoomRange" "min" "I" (.int (0 : Int32))) (F_max_o0 : Fld Z h0 o0 "com/example/tilewright/tilewright/ZoomRange" "max" "I" (.int (0 : Int32))) (hp0 : 0 ≤ p1.toInt ∧ p1.toInt ≤ 24) (hp1 : 0 ≤ p2.toInt ∧ p2.toInt ≤ 24) (hle : p1.toInt ≤ p2.toInt) :
    MetFree l (⟨"com/example/tilewright/tilewright/ZoomRange", "<init>", "(II)V"⟩ : MethodName) (head1 (Jvm.Cond.code (⟨"com/example/tilewright/tilewright/ZoomRange", "<init>", "(II)V"⟩ : MethodName) prog_46_method_1_code 3 none :: ws) ({ frames := 2, cells := 5, slots := 66, locals := 24 } : Room)) (fun a U => a = #[(.ref o0), (.int p1), (.int p2)] ∧ Z.Warmed39 U.vm ∧ U.heap = h0) (fun _ _ _ _ _ => True) (fun _ U o U' => ∃ v L, o = .returned v ∧ (Q3 Z o0 p1 p2 h0 n0) v U'.heap L ∧ ReturnedEndW U o U' L ({ frames := 2, cells := 5, slots := 66, locals := 24 } : Room).cells ({ frames := 2, cells := 5, slots := 66, locals := 24 } : Room).slots) :=
  own_metW (ret := none) (Q := (Q3 Z o0 p1 p2 h0 n0)) (plainFor_of_name pn_3) (fun m => ef_3 m o0 p1 p2) (fun p e s m below meth c s₁ X hx hby hml hown hnm hZ e0 => j3 X hx hZ hw hby hml hown hnm e0 (Fr.nil n0) Z0 o0 p1 p2 E_o0 g_o0 F_min_o0 F_max_o0 hp0 hp1 hle)
/-! body 7: com/example/tilewright/tilewright/ZoomRange.contains:(I)Z -/
theorem d7_0 : decode prog_46_method_3_code 0 = .ok (.iload_n 1, 1) := by decide +kernel
theorem d7_1 : decode prog_46_method_3_code 1 = .ok (.aload_n 0, 1) := by decide +kernel
theorem d7_2 : decode prog_46_method_3_code 2 = .ok (.getfield 17, 3) := by decide +kernel
theorem d7_5 : decode prog_46_method_3_code 5 = .ok (.if_icmp .lt 15, 3) := by decide +kernel
theorem d7_8 : decode prog_46_method_3_code 8 = .ok (.iload_n 1, 1) := by decide +kernel
theorem d7_9 : decode prog_46_method_3_code 9 = .ok (.aload_n 0, 1) := by decide +kernel
theorem d7_10 : decode prog_46_method_3_code 10 = .ok (.getfield 21, 3) := by decide +kernel
theorem d7_13 : decode prog_46_method_3_code 13 = .ok (.if_icmp .gt 7, 3) := by decide +kernel
theorem d7_16 : decode prog_46_method_3_code 16 = .ok (.iconst 1, 1) := by decide +kernel
theorem d7_17 : decode prog_46_method_3_code 17 = .ok (.goto 4, 3) := by decide +kernel
theorem d7_20 : decode prog_46_method_3_code 20 = .ok (.iconst 0, 1) := by decide +kernel
theorem d7_21 : decode prog_46_method_3_code 21 = .ok (.ireturn, 1) := by decide +kernel
theorem pn_7 : plainName "com/example/tilewright/tilewright/ZoomRange" = true := by first | (simp [plainName, overriddenIn]; done) | decide +kernel
theorem ef_7 (m : MethodId) (o0 : Addr) (p1 : Int32) : entryFrame m #[(.ref o0), (.int p1)] 2 = mkF m 0 #[.val (.ref o0), .val (.int p1)] [] := by first | (simp [entryFrame, mkF, argsToLocals, Value.category]; done) | rfl
def f7_0 (p1 : Int32) (w_min : Int32) (w_max : Int32) : Int32 := (if p1 < w_min then (0 : Int32) else (if w_max < p1 then (0 : Int32) else (1 : Int32)))
set_option maxRecDepth 65536 in
set_option maxHeartbeats 40000000 in
theorem j7_0 {p : Program} {l : Launch} {e : Env} {s : State} {m : MethodId} {args : Array Value} {below : List Frame} {meth : Method} {c : Code} {T0 : State} {locs : List Loc} {Z : State} {a0 : Array Value} {h0 : Heap} {n0 : Nat}
    (X0 : Stand p l e ({ frames := 0, cells := 0, slots := 0, locals := 0 } : Room) s m args below meth c T0 locs 0 0) (hx : p.tables.exec = Jvm.exec) (hZ : Z.Warmed39 s.vm) (hw : ∀ d ∈ tables_1, d.before a0 Z = true) (hby : c.code = prog_46_method_3_code) (hml : c.maxLocals = 2) (hown : s.vm.findClass "com/example/tilewright/tilewright/ZoomRange" = some m.cls) (e0 : T0.heap = h0) (N0 : Fr n0 locs) (Z0 : n0 ≤ h0.size) (o0 : Addr) (p1 : Int32) (w_min : Int32) (w_max : Int32) (F_min : Fld Z h0 o0 "com/example/tilewright/tilewright/ZoomRange" "min" "I" (.int w_min)) (F_max : Fld Z h0 o0 "com/example/tilewright/tilewright/ZoomRange" "max" "I" (.int w_max)) :
    OwnFin X0 (some .boolean) (PQ (some (.int (nar .boolean (f7_0 p1 w_min w_max)))) h0 n0) 0 0 (mkF m 0 #[.val (.ref o0), .val (.int p1)] []) := by
  show OwnFin X0 (some .boolean) (PQ (some (.int (nar .boolean (if p1 < w_min then (0 : Int32) else (if w_max < p1 then (0 : Int32) else (1 : Int32)))))) h0 n0) 0 0 _
  refine OwnFin.step (g' := (mkF m 1 #[.val (.ref o0), .val (.int p1)] [(.int p1)])) X0 (fun t k => XS.iloadN X0.here hx rfl (hb hby d7_0) rfl k) ?_
  refine OwnFin.step (g' := (mkF m 2 #[.val (.ref o0), .val (.int p1)] [(.ref o0), (.int p1)])) X0 (fun t k => XS.aloadN X0.here hx rfl (hb hby d7_1) rfl rfl k) ?_
  obtain ⟨T1, X1, e1, st1⟩ := getF X0 hx hZ hown (host := "") (Or.inl (hw _ (wm 35 rfl))) Via.refl e0 F_min (g := (mkF m 2 #[.val (.ref o0), .val (.int p1)] [(.ref o0), (.int p1)])) rfl rfl (hb hby d7_2)
  refine OwnFin.step (g' := (mkF m 5 #[.val (.ref o0), .val (.int p1)] [(.int w_min), (.int p1)])) X1 (fun t k => st1 _ k) ?_
  by_cases hc2 : p1 < w_min
  · rw [if_pos hc2]
    refine OwnFin.step (g' := (mkF m 20 #[.val (.ref o0), .val (.int p1)] [])) X1 (fun t k => XS.icmpYes X1.here hx rfl (pc0 := 5) (pc' := 20) rfl (hb hby d7_5) rfl (tlt hc2).1 (by decide) (by decide) k) ?_
    refine OwnFin.step (g' := (mkF m 21 #[.val (.ref o0), .val (.int p1)] [(.int (0 : Int32))])) X1 (fun t k => XS.iconst X1.here hx rfl (hb hby d7_20) k) ?_
    exact OwnFin.retNar X1 (by simp) (hb hby d7_21) (Nat.le_refl _) (Nat.le_refl _) ⟨rfl, e1, N0⟩
  · rw [if_neg hc2]
    refine OwnFin.step (g' := (mkF m 8 #[.val (.ref o0), .val (.int p1)] [])) X1 (fun t k => XS.icmpNo X1.here hx rfl (hb hby d7_5) rfl (flt hc2).1 k) ?_
    refine OwnFin.step (g' := (mkF m 9 #[.val (.ref o0), .val (.int p1)] [(.int p1)])) X1 (fun t k => XS.iloadN X1.here hx rfl (hb hby d7_8) rfl k) ?_
    refine OwnFin.step (g' := (mkF m 10 #[.val (.ref o0), .val (.int p1)] [(.ref o0), (.int p1)])) X1 (fun t k => XS.aloadN X1.here hx rfl (hb hby d7_9) rfl rfl k) ?_
    obtain ⟨T3, X3, e3, st3⟩ := getF X1 hx hZ hown (host := "") (Or.inl (hw _ (wm 37 rfl))) Via.refl e1 F_max (g := (mkF m 10 #[.val (.ref o0), .val (.int p1)] [(.ref o0), (.int p1)])) rfl rfl (hb hby d7_10)
    refine OwnFin.step (g' := (mkF m 13 #[.val (.ref o0), .val (.int p1)] [(.int w_max), (.int p1)])) X3 (fun t k => st3 _ k) ?_
    by_cases hc4 : w_max < p1
    · rw [if_pos hc4]
      refine OwnFin.step (g' := (mkF m 20 #[.val (.ref o0), .val (.int p1)] [])) X3 (fun t k => XS.icmpYes X3.here hx rfl (pc0 := 13) (pc' := 20) rfl (hb hby d7_13) rfl (tlt hc4).2.2.1 (by decide) (by decide) k) ?_
      refine OwnFin.step (g' := (mkF m 21 #[.val (.ref o0), .val (.int p1)] [(.int (0 : Int32))])) X3 (fun t k => XS.iconst X3.here hx rfl (hb hby d7_20) k) ?_
      exact OwnFin.retNar X3 (by simp) (hb hby d7_21) (Nat.le_refl _) (Nat.le_refl _) ⟨rfl, e3, N0⟩
    · rw [if_neg hc4]
      refine OwnFin.step (g' := (mkF m 16 #[.val (.ref o0), .val (.int p1)] [])) X3 (fun t k => XS.icmpNo X3.here hx rfl (hb hby d7_13) rfl (flt hc4).2.2.1 k) ?_
      refine OwnFin.step (g' := (mkF m 17 #[.val (.ref o0), .val (.int p1)] [(.int (1 : Int32))])) X3 (fun t k => XS.iconst X3.here hx rfl (hb hby d7_16) k) ?_
      refine OwnFin.step (g' := (mkF m 21 #[.val (.ref o0), .val (.int p1)] [(.int (1 : Int32))])) X3 (fun t k => XS.goto X3.here hx rfl (pc0 := 17) (pc' := 21) rfl (hb hby d7_17) (by decide) (by decide) k) ?_
      exact OwnFin.retNar X3 (by simp) (hb hby d7_21) (Nat.le_refl _) (Nat.le_refl _) ⟨rfl, e3, N0⟩
def r7 (p1 : Int32) (w_min : Int32) (w_max : Int32) : Int32 := nar .boolean (f7_0 p1 w_min w_max)
set_option maxRecDepth 65536 in
set_option maxHeartbeats 40000000 in
theorem rm7 (l : Launch) (Z : State) (a0 : Array Value) (hw : ∀ d ∈ tables_1, d.before a0 Z = true) (ws : List Jvm.Cond) (o0 : Addr) (p1 : Int32) (w_min : Int32) (w_max : Int32) (h0 : Heap) (n0 : Nat) (Z0 : n0 ≤ h0.size) (F_min : Fld Z h0 o0 "com/example/tilewright/tilewright/ZoomRange" "min" "I" (.int w_min)) (F_max : Fld Z h0 o0 "com/example/tilewright/tilewright/ZoomRange" "max" "I" (.int w_max)) :
    MetFree l (⟨"com/example/tilewright/tilewright/ZoomRange", "contains", "(I)Z"⟩ : MethodName) (head1 (Jvm.Cond.code (⟨"com/example/tilewright/tilewright/ZoomRange", "contains", "(I)Z"⟩ : MethodName) prog_46_method_3_code 2 (some .boolean) :: ws) ({ frames := 0, cells := 0, slots := 0, locals := 0 } : Room)) (fun a U => a = #[(.ref o0), (.int p1)] ∧ Z.Warmed39 U.vm ∧ U.heap = h0) (fun _ _ _ _ _ => True) (fun _ U o U' => ∃ v L, o = .returned v ∧ PQ (some (.int (r7 p1 w_min w_max))) h0 n0 v U'.heap L ∧ FrameEnd U o U' L ({ frames := 0, cells := 0, slots := 0, locals := 0 } : Room).cells ({ frames := 0, cells := 0, slots := 0, locals := 0 } : Room).slots) :=
  own_met (ret := (some .boolean)) (plainFor_of_name pn_7) (fun m => ef_7 m o0 p1) (fun p e s m below meth c s₁ X hx hby hml hown hnm hZ e0 => OwnFin.wide (j7_0 X hx hZ hw hby hml hown e0 (Fr.nil n0) Z0 o0 p1 w_min w_max F_min F_max) (Nat.zero_le _) (Nat.zero_le _))
/-! body 8: com/example/tilewright/tilewright/ZoomRangeContainsPinLaw.clampedIsSelf:(III)Z -/
theorem d8_0 : decode method_2_code 0 = .ok (.iload_n 0, 1) := by decide +kernel
theorem d8_1 : decode method_2_code 1 = .ok (.iload_n 2, 1) := by decide +kernel
theorem d8_2 : decode method_2_code 2 = .ok (.iload_n 1, 1) := by decide +kernel
theorem d8_3 : decode method_2_code 3 = .ok (.invokestatic 7, 3) := by decide +kernel
theorem d8_6 : decode method_2_code 6 = .ok (.invokestatic 13, 3) := by decide +kernel
theorem d8_9 : decode method_2_code 9 = .ok (.iload_n 2, 1) := by decide +kernel
theorem d8_10 : decode method_2_code 10 = .ok (.if_icmp .ne 7, 3) := by decide +kernel
theorem d8_13 : decode method_2_code 13 = .ok (.iconst 1, 1) := by decide +kernel
theorem d8_14 : decode method_2_code 14 = .ok (.goto 4, 3) := by decide +kernel
theorem d8_17 : decode method_2_code 17 = .ok (.iconst 0, 1) := by decide +kernel
theorem d8_18 : decode method_2_code 18 = .ok (.ireturn, 1) := by decide +kernel
theorem pn_8 : plainName "com/example/tilewright/tilewright/ZoomRangeContainsPinLaw" = true := by first | (simp [plainName, overriddenIn]; done) | decide +kernel
theorem ef_8 (m : MethodId) (p0 : Int32) (p1 : Int32) (p2 : Int32) : entryFrame m #[(.int p0), (.int p1), (.int p2)] 3 = mkF m 0 #[.val (.int p0), .val (.int p1), .val (.int p2)] [] := by first | (simp [entryFrame, mkF, argsToLocals, Value.category]; done) | rfl
theorem pd_2 : parseMethodDescriptor "(II)I" = some ⟨[.int, .int], some .int⟩ := by decide +kernel
def f8_0 (p0 : Int32) (p1 : Int32) (p2 : Int32) : Int32 := (if (r2 p0 (r1 p2 p1)) = p2 then (1 : Int32) else (0 : Int32))
set_option maxRecDepth 65536 in
set_option maxHeartbeats 40000000 in
theorem j8_0 {p : Program} {l : Launch} {e : Env} {s : State} {m : MethodId} {args : Array Value} {below : List Frame} {meth : Method} {c : Code} {T0 : State} {locs : List Loc} {Z : State} {a0 : Array Value} {h0 : Heap} {n0 : Nat}
    (X0 : Stand p l e ({ frames := 1, cells := 0, slots := 0, locals := 14 } : Room) s m args below meth c T0 locs 0 0) (hx : p.tables.exec = Jvm.exec) (hZ : Z.Warmed39 s.vm) (hw : ∀ d ∈ tables_1, d.before a0 Z = true) (hby : c.code = method_2_code) (hml : c.maxLocals = 3) (hown : s.vm.findClass "com/example/tilewright/tilewright/ZoomRangeContainsPinLaw" = some m.cls) (e0 : T0.heap = h0) (N0 : Fr n0 locs) (Z0 : n0 ≤ h0.size) (p0 : Int32) (p1 : Int32) (p2 : Int32) :
    OwnFin X0 (some .boolean) (PQ (some (.int (nar .boolean (f8_0 p0 p1 p2)))) h0 n0) 0 0 (mkF m 0 #[.val (.int p0), .val (.int p1), .val (.int p2)] []) := by
  show OwnFin X0 (some .boolean) (PQ (some (.int (nar .boolean (if (r2 p0 (r1 p2 p1)) = p2 then (1 : Int32) else (0 : Int32))))) h0 n0) 0 0 _
  refine OwnFin.step (g' := (mkF m 1 #[.val (.int p0), .val (.int p1), .val (.int p2)] [(.int p0)])) X0 (fun t k => XS.iloadN X0.here hx rfl (hb hby d8_0) rfl k) ?_
  refine OwnFin.step (g' := (mkF m 2 #[.val (.int p0), .val (.int p1), .val (.int p2)] [(.int p2), (.int p0)])) X0 (fun t k => XS.iloadN X0.here hx rfl (hb hby d8_1) rfl k) ?_
  refine OwnFin.step (g' := (mkF m 3 #[.val (.int p0), .val (.int p1), .val (.int p2)] [(.int p1), (.int p2), (.int p0)])) X0 (fun t k => XS.iloadN X0.here hx rfl (hb hby d8_2) rfl k) ?_
  obtain ⟨_, T1, L1, X1, ⟨rfl, f1, N1q⟩, st1⟩ := own_callS X0 hx hZ (y := (⟨"java/lang/Math", "min", "(II)I"⟩ : MethodName)) (W := 1) (argsL := [(.int p2), (.int p1)]) (rest := [(.int p0)]) (Qc := PQ _ _ n0) hown (hw _ (wm 1 rfl)) (hw _ (wm 2 rfl)) (hw _ (wm 3 rfl)) (hw _ (wm 4 rfl)) (by decide) (rm1 l Z a0 hw [] p2 p1 h0 n0 Z0) (by decide) (by decide) (by decide) (by decide) e0 (g := (mkF m 3 #[.val (.int p0), .val (.int p1), .val (.int p2)] [(.int p1), (.int p2), (.int p0)])) rfl (by rw [hml]; rfl) pd_2 rfl rfl (by show 2 * 0 + _ ≤ _; exact Nat.le_of_eq rfl) (hb hby d8_3)
  have N1 := Fr.app N0 N1q
  refine OwnFin.step (g' := (mkF m 6 #[.val (.int p0), .val (.int p1), .val (.int p2)] [(.int (r1 p2 p1)), (.int p0)])) X1 (fun t k => st1 _ k) ?_
  obtain ⟨_, T2, L2, X2, ⟨rfl, f2, N2q⟩, st2⟩ := own_callS X1 hx hZ (y := (⟨"java/lang/Math", "max", "(II)I"⟩ : MethodName)) (W := 0) (argsL := [(.int p0), (.int (r1 p2 p1))]) (rest := []) (Qc := PQ _ _ n0) hown (hw _ (wm 5 rfl)) (hw _ (wm 6 rfl)) (hw _ (wm 3 rfl)) (hw _ (wm 7 rfl)) (by decide) (rm2 l Z a0 hw [] p0 (r1 p2 p1) h0 n0 Z0) (by decide) (by decide) (by decide) (by decide) f1 (g := (mkF m 6 #[.val (.int p0), .val (.int p1), .val (.int p2)] [(.int (r1 p2 p1)), (.int p0)])) rfl (by rw [hml]; rfl) pd_2 rfl rfl (by show 2 * 0 + _ ≤ _; exact Nat.le_of_eq rfl) (hb hby d8_6)
  have N2 := Fr.app N1 N2q
  refine OwnFin.step (g' := (mkF m 9 #[.val (.int p0), .val (.int p1), .val (.int p2)] [(.int (r2 p0 (r1 p2 p1)))])) X2 (fun t k => st2 _ k) ?_
  refine OwnFin.step (g' := (mkF m 10 #[.val (.int p0), .val (.int p1), .val (.int p2)] [(.int p2), (.int (r2 p0 (r1 p2 p1)))])) X2 (fun t k => XS.iloadN X2.here hx rfl (hb hby d8_9) rfl k) ?_
  by_cases hc3 : (r2 p0 (r1 p2 p1)) = p2
  · rw [if_pos hc3]
    refine OwnFin.step (g' := (mkF m 13 #[.val (.int p0), .val (.int p1), .val (.int p2)] [])) X2 (fun t k => XS.icmpNo X2.here hx rfl (hb hby d8_10) rfl (teq hc3).2 k) ?_
    refine OwnFin.step (g' := (mkF m 14 #[.val (.int p0), .val (.int p1), .val (.int p2)] [(.int (1 : Int32))])) X2 (fun t k => XS.iconst X2.here hx rfl (hb hby d8_13) k) ?_
    refine OwnFin.step (g' := (mkF m 18 #[.val (.int p0), .val (.int p1), .val (.int p2)] [(.int (1 : Int32))])) X2 (fun t k => XS.goto X2.here hx rfl (pc0 := 14) (pc' := 18) rfl (hb hby d8_14) (by decide) (by decide) k) ?_
    exact OwnFin.retNar X2 (by simp) (hb hby d8_18) (Nat.le_refl _) (Nat.le_refl _) ⟨rfl, f2, N2⟩
  · rw [if_neg hc3]
    refine OwnFin.step (g' := (mkF m 17 #[.val (.int p0), .val (.int p1), .val (.int p2)] [])) X2 (fun t k => XS.icmpYes X2.here hx rfl (pc0 := 10) (pc' := 17) rfl (hb hby d8_10) rfl (feq hc3).2 (by decide) (by decide) k) ?_
    refine OwnFin.step (g' := (mkF m 18 #[.val (.int p0), .val (.int p1), .val (.int p2)] [(.int (0 : Int32))])) X2 (fun t k => XS.iconst X2.here hx rfl (hb hby d8_17) k) ?_
    exact OwnFin.retNar X2 (by simp) (hb hby d8_18) (Nat.le_refl _) (Nat.le_refl _) ⟨rfl, f2, N2⟩
def r8 (p0 : Int32) (p1 : Int32) (p2 : Int32) : Int32 := nar .boolean (f8_0 p0 p1 p2)
set_option maxRecDepth 65536 in
set_option maxHeartbeats 40000000 in
theorem rm8 (l : Launch) (Z : State) (a0 : Array Value) (hw : ∀ d ∈ tables_1, d.before a0 Z = true) (ws : List Jvm.Cond) (p0 : Int32) (p1 : Int32) (p2 : Int32) (h0 : Heap) (n0 : Nat) (Z0 : n0 ≤ h0.size) :
    MetFree l (⟨"com/example/tilewright/tilewright/ZoomRangeContainsPinLaw", "clampedIsSelf", "(III)Z"⟩ : MethodName) (head1 (Jvm.Cond.code (⟨"com/example/tilewright/tilewright/ZoomRangeContainsPinLaw", "clampedIsSelf", "(III)Z"⟩ : MethodName) method_2_code 3 (some .boolean) :: ws) ({ frames := 1, cells := 0, slots := 0, locals := 14 } : Room)) (fun a U => a = #[(.int p0), (.int p1), (.int p2)] ∧ Z.Warmed39 U.vm ∧ U.heap = h0) (fun _ _ _ _ _ => True) (fun _ U o U' => ∃ v L, o = .returned v ∧ PQ (some (.int (r8 p0 p1 p2))) h0 n0 v U'.heap L ∧ FrameEnd U o U' L ({ frames := 1, cells := 0, slots := 0, locals := 14 } : Room).cells ({ frames := 1, cells := 0, slots := 0, locals := 14 } : Room).slots) :=
  own_met (ret := (some .boolean)) (plainFor_of_name pn_8) (fun m => ef_8 m p0 p1 p2) (fun p e s m below meth c s₁ X hx hby hml hown hnm hZ e0 => OwnFin.wide (j8_0 X hx hZ hw hby hml hown e0 (Fr.nil n0) Z0 p0 p1 p2) (Nat.zero_le _) (Nat.zero_le _))
theorem pn_0 : plainName "com/example/tilewright/tilewright/ZoomRangeContainsPinLaw" = true := by first | (simp [plainName, overriddenIn]; done) | decide +kernel
theorem ef_0 (m : MethodId) (p0 : Int32) (p1 : Int32) (p2 : Int32) (p3 : Int32) : entryFrame m #[(.int p0), (.int p1), (.int p2), (.int p3)] maxLocals = mkF m 0 #[.val (.int p0), .val (.int p1), .val (.int p2), .val (.int p3), .unset, .unset, .unset, .unset, .unset, .unset, .unset, .unset, .unset] [] := by first | (simp [entryFrame, mkF, argsToLocals, Value.category, maxLocals]; done) | rfl
theorem pd_3 : parseMethodDescriptor "(II)V" = some ⟨[.int, .int], none⟩ := by decide +kernel
theorem pd_4 : parseMethodDescriptor "(I)Z" = some ⟨[.int], some .boolean⟩ := by decide +kernel
theorem pd_5 : parseMethodDescriptor "(III)Z" = some ⟨[.int, .int, .int], some .boolean⟩ := by decide +kernel
def v0_7 (p0 : Int32) : Int32 := ((p0 &&& (2147483647 : Int32)) % (25 : Int32))
def v0_16 (p1 : Int32) : Int32 := ((p1 &&& (2147483647 : Int32)) % (25 : Int32))
def v0_25 (p0 : Int32) (p1 : Int32) : Int32 := (r1 (v0_7 p0) (v0_16 p1))
def v0_34 (p0 : Int32) (p1 : Int32) : Int32 := (r2 (v0_7 p0) (v0_16 p1))
def v0_53 (p0 : Int32) (p1 : Int32) (p3 : Int32) : Int32 := (((v0_25 p0 p1) - (2 : Int32)) + ((p3 &&& (2147483647 : Int32)) % (((v0_34 p0 p1) - (v0_25 p0 p1)) + (5 : Int32))))
def v0_141 (p2 : Int32) (p0 : Int32) (p1 : Int32) : Int32 := (if (r7 p2 (v0_25 p0 p1) (v0_34 p0 p1)) = (r8 (v0_25 p0 p1) (v0_34 p0 p1) p2) then (1 : Int32) else (0 : Int32))
def v0_167 (p0 : Int32) (p1 : Int32) (p3 : Int32) : Int32 := (if (r7 (v0_53 p0 p1 p3) (v0_25 p0 p1) (v0_34 p0 p1)) = (r8 (v0_25 p0 p1) (v0_34 p0 p1) (v0_53 p0 p1 p3)) then (1 : Int32) else (0 : Int32))
theorem own_mod (x : Int32) : 0 ≤ ((x &&& 2147483647) % 25).toInt ∧ ((x &&& 2147483647) % 25).toInt ≤ 24 := by
  have h := mask31 x
  have c : (25 : Int32).toInt = 25 := rfl
  have r := rem32 (x := x &&& 2147483647) (y := 25) (by omega) (by decide)
  omega
theorem own_b (p0 p1 : Int32) : (0 ≤ (v0_25 p0 p1).toInt ∧ (v0_25 p0 p1).toInt ≤ 24) ∧ (0 ≤ (v0_34 p0 p1).toInt ∧ (v0_34 p0 p1).toInt ≤ 24) ∧ (v0_25 p0 p1).toInt ≤ (v0_34 p0 p1).toInt := by
  have a : 0 ≤ (v0_7 p0).toInt ∧ (v0_7 p0).toInt ≤ 24 := own_mod p0
  have b : 0 ≤ (v0_16 p1).toInt ∧ (v0_16 p1).toInt ≤ 24 := own_mod p1
  by_cases q1 : (v0_16 p1).toInt < (v0_7 p0).toInt
  · have e1 : v0_25 p0 p1 = v0_16 p1 := by unfold v0_25 r1 f1_0; exact if_pos (by rw [i32lt]; exact q1)
    have e2 : v0_34 p0 p1 = v0_7 p0 := by unfold v0_34 r2 f2_0; exact if_neg (by rw [i32lt]; omega)
    rw [e1, e2]; omega
  · have e1 : v0_25 p0 p1 = v0_7 p0 := by unfold v0_25 r1 f1_0; exact if_neg (by rw [i32lt]; exact q1)
    by_cases q2 : (v0_7 p0).toInt < (v0_16 p1).toInt
    · have e2 : v0_34 p0 p1 = v0_16 p1 := by unfold v0_34 r2 f2_0; exact if_pos (by rw [i32lt]; exact q2)
      rw [e1, e2]; omega
    · have e2 : v0_34 p0 p1 = v0_7 p0 := by unfold v0_34 r2 f2_0; exact if_neg (by rw [i32lt]; exact q2)
      rw [e1, e2]; omega
theorem r7_s (z lo hi : Int32) : r7 z lo hi = if lo.toInt ≤ z.toInt ∧ z.toInt ≤ hi.toInt then 1 else 0 := by
  unfold r7 f7_0
  simp only [i32lt]
  repeat' split
  all_goals first | exact nar0 | exact nar1 | (exfalso; omega)
theorem r8_s (lo hi z : Int32) (h : lo.toInt ≤ hi.toInt) : r8 lo hi z = if lo.toInt ≤ z.toInt ∧ z.toInt ≤ hi.toInt then 1 else 0 := by
  unfold r8 f8_0
  by_cases a : hi.toInt < z.toInt
  · have e1 : r1 z hi = hi := by unfold r1 f1_0; exact if_pos (by rw [i32lt]; exact a)
    have e2 : (r2 lo hi).toInt ≤ hi.toInt := by
      unfold r2 f2_0
      split <;> omega
    have e3 : ¬ r2 lo hi = z := by rw [i32eq]; omega
    rw [e1, if_neg e3, if_neg (by omega)]; exact nar0
  · have e1 : r1 z hi = z := by unfold r1 f1_0; exact if_neg (by rw [i32lt]; exact a)
    rw [e1]
    by_cases b : lo.toInt < z.toInt
    · have e2 : r2 lo z = z := by unfold r2 f2_0; exact if_pos (by rw [i32lt]; exact b)
      rw [if_pos e2, if_pos (show lo.toInt ≤ z.toInt ∧ z.toInt ≤ hi.toInt by omega)]; exact nar1
    · have e2 : r2 lo z = lo := by unfold r2 f2_0; exact if_neg (by rw [i32lt]; exact b)
      rw [e2]
      by_cases q : lo = z
      · have q' : lo.toInt = z.toInt := by rw [q]
        rw [if_pos q, if_pos (show lo.toInt ≤ z.toInt ∧ z.toInt ≤ hi.toInt by omega)]; exact nar1
      · have q' : ¬ lo.toInt = z.toInt := by rw [i32eq] at q; exact q
        rw [if_neg q, if_neg (show ¬ (lo.toInt ≤ z.toInt ∧ z.toInt ≤ hi.toInt) by omega)]; exact nar0
theorem nz0_51 (p0 : Int32) (p1 : Int32) : (((v0_34 p0 p1) - (v0_25 p0 p1)) + (5 : Int32)) ≠ (0 : Int32) := by
  obtain ⟨h1, h2, h3⟩ := own_b p0 p1
  have c : (5 : Int32).toInt = 5 := rfl
  have s : ((v0_34 p0 p1) - (v0_25 p0 p1)).toInt = (v0_34 p0 p1).toInt - (v0_25 p0 p1).toInt := Jvm.Kit.i32_sub (by omega) (by omega)
  have t : (((v0_34 p0 p1) - (v0_25 p0 p1)) + (5 : Int32)).toInt = ((v0_34 p0 p1) - (v0_25 p0 p1)).toInt + (5 : Int32).toInt := Jvm.Kit.i32_add (by omega) (by omega)
  intro q
  have z : (0 : Int32).toInt = 0 := rfl
  rw [i32eq, t, s] at q
  omega
theorem exhp00_63 (p0 : Int32) (p1 : Int32) : 0 ≤ (v0_25 p0 p1).toInt ∧ (v0_25 p0 p1).toInt ≤ 24 := (own_b p0 p1).1
theorem exhp10_63 (p0 : Int32) (p1 : Int32) : 0 ≤ (v0_34 p0 p1).toInt ∧ (v0_34 p0 p1).toInt ≤ 24 := (own_b p0 p1).2.1
theorem exhle0_63 (p0 : Int32) (p1 : Int32) : (v0_25 p0 p1).toInt ≤ (v0_34 p0 p1).toInt := (own_b p0 p1).2.2
theorem br0_75 (p0 : Int32) (p1 : Int32) : ¬ ((r7 (v0_25 p0 p1) (v0_25 p0 p1) (v0_34 p0 p1)) = (0 : Int32)) := by
  obtain ⟨h1, h2, h3⟩ := own_b p0 p1
  rw [r7_s, if_pos (by omega)]; decide
theorem br0_85 (p0 : Int32) (p1 : Int32) : ¬ ((r7 (v0_34 p0 p1) (v0_25 p0 p1) (v0_34 p0 p1)) = (0 : Int32)) := by
  obtain ⟨h1, h2, h3⟩ := own_b p0 p1
  rw [r7_s, if_pos (by omega)]; decide
theorem br0_97 (p0 : Int32) (p1 : Int32) : (r7 ((v0_25 p0 p1) - (1 : Int32)) (v0_25 p0 p1) (v0_34 p0 p1)) = (0 : Int32) := by
  obtain ⟨h1, h2, h3⟩ := own_b p0 p1
  have c : (1 : Int32).toInt = 1 := rfl
  have s : ((v0_25 p0 p1) - (1 : Int32)).toInt = (v0_25 p0 p1).toInt - (1 : Int32).toInt := Jvm.Kit.i32_sub (by omega) (by omega)
  rw [r7_s]; exact if_neg (by omega)
theorem br0_109 (p0 : Int32) (p1 : Int32) : (r7 ((v0_34 p0 p1) + (1 : Int32)) (v0_25 p0 p1) (v0_34 p0 p1)) = (0 : Int32) := by
  obtain ⟨h1, h2, h3⟩ := own_b p0 p1
  have c : (1 : Int32).toInt = 1 := rfl
  have s : ((v0_34 p0 p1) + (1 : Int32)).toInt = (v0_34 p0 p1).toInt + (1 : Int32).toInt := Jvm.Kit.i32_add (by omega) (by omega)
  rw [r7_s]; exact if_neg (by omega)
theorem br0_176 (p2 : Int32) (p0 : Int32) (p1 : Int32) : ¬ ((v0_141 p2 p0 p1) = (0 : Int32)) := by
  obtain ⟨h1, h2, h3⟩ := own_b p0 p1
  have q : (r7 p2 (v0_25 p0 p1) (v0_34 p0 p1)) = (r8 (v0_25 p0 p1) (v0_34 p0 p1) p2) := by rw [r7_s, r8_s _ _ _ h3]
  unfold v0_141; rw [if_pos q]; decide
theorem br0_181 (p0 : Int32) (p1 : Int32) (p3 : Int32) : ¬ ((v0_167 p0 p1 p3) = (0 : Int32)) := by
  obtain ⟨h1, h2, h3⟩ := own_b p0 p1
  have q : (r7 (v0_53 p0 p1 p3) (v0_25 p0 p1) (v0_34 p0 p1)) = (r8 (v0_25 p0 p1) (v0_34 p0 p1) (v0_53 p0 p1 p3)) := by rw [r7_s, r8_s _ _ _ h3]
  unfold v0_167; rw [if_pos q]; decide
set_option maxRecDepth 65536 in
set_option maxHeartbeats 40000000 in
theorem j0 {p : Program} {l : Launch} {e : Env} {s : State} {m : MethodId} {args : Array Value} {below : List Frame} {meth : Method} {c : Code} {T0 : State} {locs : List Loc} {Z : State} {a0 : Array Value} {h0 : Heap} {n0 : Nat}
    (X0 : Stand p l e room_1 s m args below meth c T0 locs 0 0) (hx : p.tables.exec = Jvm.exec) (hZ : Z.Warmed39 s.vm) (hw : ∀ d ∈ tables_1, d.before a0 Z = true) (hby : c.code = code) (hml : c.maxLocals = 13) (hown : s.vm.findClass "com/example/tilewright/tilewright/ZoomRangeContainsPinLaw" = some m.cls) (hnm : meth.name = "law") (e0 : T0.heap = h0) (N0 : Fr n0 locs) (Z0 : n0 ≤ h0.size) (p0 : Int32) (p1 : Int32) (p2 : Int32) (p3 : Int32) :
    OwnFinW s X0 (some .boolean) (LQ n0) room_1.cells room_1.slots (mkF m 0 #[.val (.int p0), .val (.int p1), .val (.int p2), .val (.int p3), .unset, .unset, .unset, .unset, .unset, .unset, .unset, .unset, .unset] []) := by
  refine OwnFinW.step (g' := (mkF m 1 #[.val (.int p0), .val (.int p1), .val (.int p2), .val (.int p3), .unset, .unset, .unset, .unset, .unset, .unset, .unset, .unset, .unset] [(.int p0)])) X0 (fun t k => XS.iloadN X0.here hx rfl (hb hby at_0) rfl k) ?_
  refine OwnFinW.step (g' := (mkF m 3 #[.val (.int p0), .val (.int p1), .val (.int p2), .val (.int p3), .unset, .unset, .unset, .unset, .unset, .unset, .unset, .unset, .unset] [(.int (2147483647 : Int32)), (.int p0)])) X0 (fun t k => X0.ldcInt hx hown (mvT hZ (hw _ (wm 0 rfl))) (g := (mkF m 1 #[.val (.int p0), .val (.int p1), .val (.int p2), .val (.int p3), .unset, .unset, .unset, .unset, .unset, .unset, .unset, .unset, .unset] [(.int p0)])) rfl (hb hby at_1) _ k) ?_
  refine OwnFinW.step (g' := (mkF m 4 #[.val (.int p0), .val (.int p1), .val (.int p2), .val (.int p3), .unset, .unset, .unset, .unset, .unset, .unset, .unset, .unset, .unset] [(.int (p0 &&& (2147483647 : Int32)))])) X0 (fun t k => XS.iand X0.here hx rfl (hb hby at_3) rfl k) ?_
  refine OwnFinW.step (g' := (mkF m 6 #[.val (.int p0), .val (.int p1), .val (.int p2), .val (.int p3), .unset, .unset, .unset, .unset, .unset, .unset, .unset, .unset, .unset] [(.int (25 : Int32)), (.int (p0 &&& (2147483647 : Int32)))])) X0 (fun t k => XS.bipush X0.here hx rfl (hb hby at_4) k) ?_
  refine OwnFinW.step (g' := (mkF m 7 #[.val (.int p0), .val (.int p1), .val (.int p2), .val (.int p3), .unset, .unset, .unset, .unset, .unset, .unset, .unset, .unset, .unset] [(.int ((p0 &&& (2147483647 : Int32)) % (25 : Int32)))])) X0 (fun t k => iremM (g := (mkF m 6 #[.val (.int p0), .val (.int p1), .val (.int p2), .val (.int p3), .unset, .unset, .unset, .unset, .unset, .unset, .unset, .unset, .unset] [(.int (25 : Int32)), (.int (p0 &&& (2147483647 : Int32)))])) X0 hx rfl (hb hby at_6) rfl (by decide) k) ?_
  refine OwnFinW.step (g' := (mkF m 9 #[.val (.int p0), .val (.int p1), .val (.int p2), .val (.int p3), .val (.int (v0_7 p0)), .unset, .unset, .unset, .unset, .unset, .unset, .unset, .unset] [])) X0 (fun t k => XS.istore X0.here hx rfl (hb hby at_7) rfl (l' := #[.val (.int p0), .val (.int p1), .val (.int p2), .val (.int p3), .val (.int (v0_7 p0)), .unset, .unset, .unset, .unset, .unset, .unset, .unset, .unset]) rfl k) ?_
  refine OwnFinW.step (g' := (mkF m 10 #[.val (.int p0), .val (.int p1), .val (.int p2), .val (.int p3), .val (.int (v0_7 p0)), .unset, .unset, .unset, .unset, .unset, .unset, .unset, .unset] [(.int p1)])) X0 (fun t k => XS.iloadN X0.here hx rfl (hb hby at_9) rfl k) ?_
  refine OwnFinW.step (g' := (mkF m 12 #[.val (.int p0), .val (.int p1), .val (.int p2), .val (.int p3), .val (.int (v0_7 p0)), .unset, .unset, .unset, .unset, .unset, .unset, .unset, .unset] [(.int (2147483647 : Int32)), (.int p1)])) X0 (fun t k => X0.ldcInt hx hown (mvT hZ (hw _ (wm 0 rfl))) (g := (mkF m 10 #[.val (.int p0), .val (.int p1), .val (.int p2), .val (.int p3), .val (.int (v0_7 p0)), .unset, .unset, .unset, .unset, .unset, .unset, .unset, .unset] [(.int p1)])) rfl (hb hby at_10) _ k) ?_
  refine OwnFinW.step (g' := (mkF m 13 #[.val (.int p0), .val (.int p1), .val (.int p2), .val (.int p3), .val (.int (v0_7 p0)), .unset, .unset, .unset, .unset, .unset, .unset, .unset, .unset] [(.int (p1 &&& (2147483647 : Int32)))])) X0 (fun t k => XS.iand X0.here hx rfl (hb hby at_12) rfl k) ?_
  refine OwnFinW.step (g' := (mkF m 15 #[.val (.int p0), .val (.int p1), .val (.int p2), .val (.int p3), .val (.int (v0_7 p0)), .unset, .unset, .unset, .unset, .unset, .unset, .unset, .unset] [(.int (25 : Int32)), (.int (p1 &&& (2147483647 : Int32)))])) X0 (fun t k => XS.bipush X0.here hx rfl (hb hby at_13) k) ?_
  refine OwnFinW.step (g' := (mkF m 16 #[.val (.int p0), .val (.int p1), .val (.int p2), .val (.int p3), .val (.int (v0_7 p0)), .unset, .unset, .unset, .unset, .unset, .unset, .unset, .unset] [(.int ((p1 &&& (2147483647 : Int32)) % (25 : Int32)))])) X0 (fun t k => iremM (g := (mkF m 15 #[.val (.int p0), .val (.int p1), .val (.int p2), .val (.int p3), .val (.int (v0_7 p0)), .unset, .unset, .unset, .unset, .unset, .unset, .unset, .unset] [(.int (25 : Int32)), (.int (p1 &&& (2147483647 : Int32)))])) X0 hx rfl (hb hby at_15) rfl (by decide) k) ?_
  refine OwnFinW.step (g' := (mkF m 18 #[.val (.int p0), .val (.int p1), .val (.int p2), .val (.int p3), .val (.int (v0_7 p0)), .val (.int (v0_16 p1)), .unset, .unset, .unset, .unset, .unset, .unset, .unset] [])) X0 (fun t k => XS.istore X0.here hx rfl (hb hby at_16) rfl (l' := #[.val (.int p0), .val (.int p1), .val (.int p2), .val (.int p3), .val (.int (v0_7 p0)), .val (.int (v0_16 p1)), .unset, .unset, .unset, .unset, .unset, .unset, .unset]) rfl k) ?_
  refine OwnFinW.step (g' := (mkF m 20 #[.val (.int p0), .val (.int p1), .val (.int p2), .val (.int p3), .val (.int (v0_7 p0)), .val (.int (v0_16 p1)), .unset, .unset, .unset, .unset, .unset, .unset, .unset] [(.int (v0_7 p0))])) X0 (fun t k => XS.iload X0.here hx rfl (hb hby at_18) rfl k) ?_
  refine OwnFinW.step (g' := (mkF m 22 #[.val (.int p0), .val (.int p1), .val (.int p2), .val (.int p3), .val (.int (v0_7 p0)), .val (.int (v0_16 p1)), .unset, .unset, .unset, .unset, .unset, .unset, .unset] [(.int (v0_16 p1)), (.int (v0_7 p0))])) X0 (fun t k => XS.iload X0.here hx rfl (hb hby at_20) rfl k) ?_
  obtain ⟨_, T1, L1, X1, ⟨rfl, f1, N1q⟩, st1⟩ := own_callS X0 hx hZ (y := (⟨"java/lang/Math", "min", "(II)I"⟩ : MethodName)) (W := 0) (argsL := [(.int (v0_7 p0)), (.int (v0_16 p1))]) (rest := []) hown (hw _ (wm 1 rfl)) (hw _ (wm 2 rfl)) (hw _ (wm 3 rfl)) (hw _ (wm 4 rfl)) (by decide) (rm1 l Z a0 hw [] (v0_7 p0) (v0_16 p1) h0 n0 Z0) (by decide) (by decide) (by decide) (by decide) e0 (g := (mkF m 22 #[.val (.int p0), .val (.int p1), .val (.int p2), .val (.int p3), .val (.int (v0_7 p0)), .val (.int (v0_16 p1)), .unset, .unset, .unset, .unset, .unset, .unset, .unset] [(.int (v0_16 p1)), (.int (v0_7 p0))])) rfl (by rw [hml]; rfl) pd_2 rfl rfl (by show 2 * 0 + _ ≤ _; exact Nat.le_of_eq rfl) (hb hby at_22)
  have N1 := Fr.app N0 N1q
  refine OwnFinW.step (g' := (mkF m 25 #[.val (.int p0), .val (.int p1), .val (.int p2), .val (.int p3), .val (.int (v0_7 p0)), .val (.int (v0_16 p1)), .unset, .unset, .unset, .unset, .unset, .unset, .unset] [(.int (r1 (v0_7 p0) (v0_16 p1)))])) X1 (fun t k => st1 _ k) ?_
  refine OwnFinW.step (g' := (mkF m 27 #[.val (.int p0), .val (.int p1), .val (.int p2), .val (.int p3), .val (.int (v0_7 p0)), .val (.int (v0_16 p1)), .val (.int (v0_25 p0 p1)), .unset, .unset, .unset, .unset, .unset, .unset] [])) X1 (fun t k => XS.istore X1.here hx rfl (hb hby at_25) rfl (l' := #[.val (.int p0), .val (.int p1), .val (.int p2), .val (.int p3), .val (.int (v0_7 p0)), .val (.int (v0_16 p1)), .val (.int (v0_25 p0 p1)), .unset, .unset, .unset, .unset, .unset, .unset]) rfl k) ?_
  refine OwnFinW.step (g' := (mkF m 29 #[.val (.int p0), .val (.int p1), .val (.int p2), .val (.int p3), .val (.int (v0_7 p0)), .val (.int (v0_16 p1)), .val (.int (v0_25 p0 p1)), .unset, .unset, .unset, .unset, .unset, .unset] [(.int (v0_7 p0))])) X1 (fun t k => XS.iload X1.here hx rfl (hb hby at_27) rfl k) ?_
  refine OwnFinW.step (g' := (mkF m 31 #[.val (.int p0), .val (.int p1), .val (.int p2), .val (.int p3), .val (.int (v0_7 p0)), .val (.int (v0_16 p1)), .val (.int (v0_25 p0 p1)), .unset, .unset, .unset, .unset, .unset, .unset] [(.int (v0_16 p1)), (.int (v0_7 p0))])) X1 (fun t k => XS.iload X1.here hx rfl (hb hby at_29) rfl k) ?_
  obtain ⟨_, T2, L2, X2, ⟨rfl, f2, N2q⟩, st2⟩ := own_callS X1 hx hZ (y := (⟨"java/lang/Math", "max", "(II)I"⟩ : MethodName)) (W := 0) (argsL := [(.int (v0_7 p0)), (.int (v0_16 p1))]) (rest := []) hown (hw _ (wm 5 rfl)) (hw _ (wm 6 rfl)) (hw _ (wm 3 rfl)) (hw _ (wm 7 rfl)) (by decide) (rm2 l Z a0 hw [] (v0_7 p0) (v0_16 p1) h0 n0 Z0) (by decide) (by decide) (by decide) (by decide) f1 (g := (mkF m 31 #[.val (.int p0), .val (.int p1), .val (.int p2), .val (.int p3), .val (.int (v0_7 p0)), .val (.int (v0_16 p1)), .val (.int (v0_25 p0 p1)), .unset, .unset, .unset, .unset, .unset, .unset] [(.int (v0_16 p1)), (.int (v0_7 p0))])) rfl (by rw [hml]; rfl) pd_2 rfl rfl (by show 2 * 0 + _ ≤ _; exact Nat.le_of_eq rfl) (hb hby at_31)
  have N2 := Fr.app N1 N2q
  refine OwnFinW.step (g' := (mkF m 34 #[.val (.int p0), .val (.int p1), .val (.int p2), .val (.int p3), .val (.int (v0_7 p0)), .val (.int (v0_16 p1)), .val (.int (v0_25 p0 p1)), .unset, .unset, .unset, .unset, .unset, .unset] [(.int (r2 (v0_7 p0) (v0_16 p1)))])) X2 (fun t k => st2 _ k) ?_
  refine OwnFinW.step (g' := (mkF m 36 #[.val (.int p0), .val (.int p1), .val (.int p2), .val (.int p3), .val (.int (v0_7 p0)), .val (.int (v0_16 p1)), .val (.int (v0_25 p0 p1)), .val (.int (v0_34 p0 p1)), .unset, .unset, .unset, .unset, .unset] [])) X2 (fun t k => XS.istore X2.here hx rfl (hb hby at_34) rfl (l' := #[.val (.int p0), .val (.int p1), .val (.int p2), .val (.int p3), .val (.int (v0_7 p0)), .val (.int (v0_16 p1)), .val (.int (v0_25 p0 p1)), .val (.int (v0_34 p0 p1)), .unset, .unset, .unset, .unset, .unset]) rfl k) ?_
  refine OwnFinW.step (g' := (mkF m 38 #[.val (.int p0), .val (.int p1), .val (.int p2), .val (.int p3), .val (.int (v0_7 p0)), .val (.int (v0_16 p1)), .val (.int (v0_25 p0 p1)), .val (.int (v0_34 p0 p1)), .unset, .unset, .unset, .unset, .unset] [(.int (v0_25 p0 p1))])) X2 (fun t k => XS.iload X2.here hx rfl (hb hby at_36) rfl k) ?_
  refine OwnFinW.step (g' := (mkF m 39 #[.val (.int p0), .val (.int p1), .val (.int p2), .val (.int p3), .val (.int (v0_7 p0)), .val (.int (v0_16 p1)), .val (.int (v0_25 p0 p1)), .val (.int (v0_34 p0 p1)), .unset, .unset, .unset, .unset, .unset] [(.int (2 : Int32)), (.int (v0_25 p0 p1))])) X2 (fun t k => XS.iconst X2.here hx rfl (hb hby at_38) k) ?_
  refine OwnFinW.step (g' := (mkF m 40 #[.val (.int p0), .val (.int p1), .val (.int p2), .val (.int p3), .val (.int (v0_7 p0)), .val (.int (v0_16 p1)), .val (.int (v0_25 p0 p1)), .val (.int (v0_34 p0 p1)), .unset, .unset, .unset, .unset, .unset] [(.int ((v0_25 p0 p1) - (2 : Int32)))])) X2 (fun t k => XS.isub X2.here hx rfl (hb hby at_39) rfl k) ?_
  refine OwnFinW.step (g' := (mkF m 41 #[.val (.int p0), .val (.int p1), .val (.int p2), .val (.int p3), .val (.int (v0_7 p0)), .val (.int (v0_16 p1)), .val (.int (v0_25 p0 p1)), .val (.int (v0_34 p0 p1)), .unset, .unset, .unset, .unset, .unset] [(.int p3), (.int ((v0_25 p0 p1) - (2 : Int32)))])) X2 (fun t k => XS.iloadN X2.here hx rfl (hb hby at_40) rfl k) ?_
  refine OwnFinW.step (g' := (mkF m 43 #[.val (.int p0), .val (.int p1), .val (.int p2), .val (.int p3), .val (.int (v0_7 p0)), .val (.int (v0_16 p1)), .val (.int (v0_25 p0 p1)), .val (.int (v0_34 p0 p1)), .unset, .unset, .unset, .unset, .unset] [(.int (2147483647 : Int32)), (.int p3), (.int ((v0_25 p0 p1) - (2 : Int32)))])) X2 (fun t k => X2.ldcInt hx hown (mvT hZ (hw _ (wm 0 rfl))) (g := (mkF m 41 #[.val (.int p0), .val (.int p1), .val (.int p2), .val (.int p3), .val (.int (v0_7 p0)), .val (.int (v0_16 p1)), .val (.int (v0_25 p0 p1)), .val (.int (v0_34 p0 p1)), .unset, .unset, .unset, .unset, .unset] [(.int p3), (.int ((v0_25 p0 p1) - (2 : Int32)))])) rfl (hb hby at_41) _ k) ?_
  refine OwnFinW.step (g' := (mkF m 44 #[.val (.int p0), .val (.int p1), .val (.int p2), .val (.int p3), .val (.int (v0_7 p0)), .val (.int (v0_16 p1)), .val (.int (v0_25 p0 p1)), .val (.int (v0_34 p0 p1)), .unset, .unset, .unset, .unset, .unset] [(.int (p3 &&& (2147483647 : Int32))), (.int ((v0_25 p0 p1) - (2 : Int32)))])) X2 (fun t k => XS.iand X2.here hx rfl (hb hby at_43) rfl k) ?_
  refine OwnFinW.step (g' := (mkF m 46 #[.val (.int p0), .val (.int p1), .val (.int p2), .val (.int p3), .val (.int (v0_7 p0)), .val (.int (v0_16 p1)), .val (.int (v0_25 p0 p1)), .val (.int (v0_34 p0 p1)), .unset, .unset, .unset, .unset, .unset] [(.int (v0_34 p0 p1)), (.int (p3 &&& (2147483647 : Int32))), (.int ((v0_25 p0 p1) - (2 : Int32)))])) X2 (fun t k => XS.iload X2.here hx rfl (hb hby at_44) rfl k) ?_
  refine OwnFinW.step (g' := (mkF m 48 #[.val (.int p0), .val (.int p1), .val (.int p2), .val (.int p3), .val (.int (v0_7 p0)), .val (.int (v0_16 p1)), .val (.int (v0_25 p0 p1)), .val (.int (v0_34 p0 p1)), .unset, .unset, .unset, .unset, .unset] [(.int (v0_25 p0 p1)), (.int (v0_34 p0 p1)), (.int (p3 &&& (2147483647 : Int32))), (.int ((v0_25 p0 p1) - (2 : Int32)))])) X2 (fun t k => XS.iload X2.here hx rfl (hb hby at_46) rfl k) ?_
  refine OwnFinW.step (g' := (mkF m 49 #[.val (.int p0), .val (.int p1), .val (.int p2), .val (.int p3), .val (.int (v0_7 p0)), .val (.int (v0_16 p1)), .val (.int (v0_25 p0 p1)), .val (.int (v0_34 p0 p1)), .unset, .unset, .unset, .unset, .unset] [(.int ((v0_34 p0 p1) - (v0_25 p0 p1))), (.int (p3 &&& (2147483647 : Int32))), (.int ((v0_25 p0 p1) - (2 : Int32)))])) X2 (fun t k => XS.isub X2.here hx rfl (hb hby at_48) rfl k) ?_
  refine OwnFinW.step (g' := (mkF m 50 #[.val (.int p0), .val (.int p1), .val (.int p2), .val (.int p3), .val (.int (v0_7 p0)), .val (.int (v0_16 p1)), .val (.int (v0_25 p0 p1)), .val (.int (v0_34 p0 p1)), .unset, .unset, .unset, .unset, .unset] [(.int (5 : Int32)), (.int ((v0_34 p0 p1) - (v0_25 p0 p1))), (.int (p3 &&& (2147483647 : Int32))), (.int ((v0_25 p0 p1) - (2 : Int32)))])) X2 (fun t k => XS.iconst X2.here hx rfl (hb hby at_49) k) ?_
  refine OwnFinW.step (g' := (mkF m 51 #[.val (.int p0), .val (.int p1), .val (.int p2), .val (.int p3), .val (.int (v0_7 p0)), .val (.int (v0_16 p1)), .val (.int (v0_25 p0 p1)), .val (.int (v0_34 p0 p1)), .unset, .unset, .unset, .unset, .unset] [(.int (((v0_34 p0 p1) - (v0_25 p0 p1)) + (5 : Int32))), (.int (p3 &&& (2147483647 : Int32))), (.int ((v0_25 p0 p1) - (2 : Int32)))])) X2 (fun t k => XS.iadd X2.here hx rfl (hb hby at_50) rfl k) ?_
  refine OwnFinW.step (g' := (mkF m 52 #[.val (.int p0), .val (.int p1), .val (.int p2), .val (.int p3), .val (.int (v0_7 p0)), .val (.int (v0_16 p1)), .val (.int (v0_25 p0 p1)), .val (.int (v0_34 p0 p1)), .unset, .unset, .unset, .unset, .unset] [(.int ((p3 &&& (2147483647 : Int32)) % (((v0_34 p0 p1) - (v0_25 p0 p1)) + (5 : Int32)))), (.int ((v0_25 p0 p1) - (2 : Int32)))])) X2 (fun t k => iremM (g := (mkF m 51 #[.val (.int p0), .val (.int p1), .val (.int p2), .val (.int p3), .val (.int (v0_7 p0)), .val (.int (v0_16 p1)), .val (.int (v0_25 p0 p1)), .val (.int (v0_34 p0 p1)), .unset, .unset, .unset, .unset, .unset] [(.int (((v0_34 p0 p1) - (v0_25 p0 p1)) + (5 : Int32))), (.int (p3 &&& (2147483647 : Int32))), (.int ((v0_25 p0 p1) - (2 : Int32)))])) X2 hx rfl (hb hby at_51) rfl (nz0_51 p0 p1) k) ?_
  refine OwnFinW.step (g' := (mkF m 53 #[.val (.int p0), .val (.int p1), .val (.int p2), .val (.int p3), .val (.int (v0_7 p0)), .val (.int (v0_16 p1)), .val (.int (v0_25 p0 p1)), .val (.int (v0_34 p0 p1)), .unset, .unset, .unset, .unset, .unset] [(.int (((v0_25 p0 p1) - (2 : Int32)) + ((p3 &&& (2147483647 : Int32)) % (((v0_34 p0 p1) - (v0_25 p0 p1)) + (5 : Int32)))))])) X2 (fun t k => XS.iadd X2.here hx rfl (hb hby at_52) rfl k) ?_
  refine OwnFinW.step (g' := (mkF m 55 #[.val (.int p0), .val (.int p1), .val (.int p2), .val (.int p3), .val (.int (v0_7 p0)), .val (.int (v0_16 p1)), .val (.int (v0_25 p0 p1)), .val (.int (v0_34 p0 p1)), .val (.int (v0_53 p0 p1 p3)), .unset, .unset, .unset, .unset] [])) X2 (fun t k => XS.istore X2.here hx rfl (hb hby at_53) rfl (l' := #[.val (.int p0), .val (.int p1), .val (.int p2), .val (.int p3), .val (.int (v0_7 p0)), .val (.int (v0_16 p1)), .val (.int (v0_25 p0 p1)), .val (.int (v0_34 p0 p1)), .val (.int (v0_53 p0 p1 p3)), .unset, .unset, .unset, .unset]) rfl k) ?_
  obtain ⟨T3, h3, X3, e3, E3, A3, D3, -, st3⟩ := newO X2 hx hZ hown (hw _ (wm 8 rfl)) (hw _ (wm 9 rfl)) (hw _ (wm 10 rfl)) f2 (g := (mkF m 55 #[.val (.int p0), .val (.int p1), .val (.int p2), .val (.int p3), .val (.int (v0_7 p0)), .val (.int (v0_16 p1)), .val (.int (v0_25 p0 p1)), .val (.int (v0_34 p0 p1)), .val (.int (v0_53 p0 p1 p3)), .unset, .unset, .unset, .unset] [])) rfl (hb hby at_55) (by decide) (by decide)
  obtain ⟨b3, y3⟩ : ∃ z, z = h0.size := ⟨_, rfl⟩
  rw [← y3] at A3 D3 st3
  have K3 := keep_ext E3
  have g_b3 : n0 ≤ b3 := by rw [y3]; exact Z0
  have Z3 := Nat.le_trans Z0 K3.1
  have F3_min : Fld Z h3 b3 "com/example/tilewright/tilewright/ZoomRange" "min" "I" (.int (0 : Int32)) := D3 (Or.inr (hw _ (wm 36 rfl))) (ty := .int) (by decide)
  have F3_max : Fld Z h3 b3 "com/example/tilewright/tilewright/ZoomRange" "max" "I" (.int (0 : Int32)) := D3 (Or.inr (hw _ (wm 38 rfl))) (ty := .int) (by decide)
  refine OwnFinW.step (g' := (mkF m 58 #[.val (.int p0), .val (.int p1), .val (.int p2), .val (.int p3), .val (.int (v0_7 p0)), .val (.int (v0_16 p1)), .val (.int (v0_25 p0 p1)), .val (.int (v0_34 p0 p1)), .val (.int (v0_53 p0 p1 p3)), .unset, .unset, .unset, .unset] [(.ref b3)])) X3 (fun t k => st3 _ k) ?_
  refine OwnFinW.step (g' := (mkF m 59 #[.val (.int p0), .val (.int p1), .val (.int p2), .val (.int p3), .val (.int (v0_7 p0)), .val (.int (v0_16 p1)), .val (.int (v0_25 p0 p1)), .val (.int (v0_34 p0 p1)), .val (.int (v0_53 p0 p1 p3)), .unset, .unset, .unset, .unset] [(.ref b3), (.ref b3)])) X3 (fun t k => XS.dup X3.here hx rfl (hb hby at_58) rfl rfl k) ?_
  refine OwnFinW.step (g' := (mkF m 61 #[.val (.int p0), .val (.int p1), .val (.int p2), .val (.int p3), .val (.int (v0_7 p0)), .val (.int (v0_16 p1)), .val (.int (v0_25 p0 p1)), .val (.int (v0_34 p0 p1)), .val (.int (v0_53 p0 p1 p3)), .unset, .unset, .unset, .unset] [(.int (v0_25 p0 p1)), (.ref b3), (.ref b3)])) X3 (fun t k => XS.iload X3.here hx rfl (hb hby at_59) rfl k) ?_
  refine OwnFinW.step (g' := (mkF m 63 #[.val (.int p0), .val (.int p1), .val (.int p2), .val (.int p3), .val (.int (v0_7 p0)), .val (.int (v0_16 p1)), .val (.int (v0_25 p0 p1)), .val (.int (v0_34 p0 p1)), .val (.int (v0_53 p0 p1 p3)), .unset, .unset, .unset, .unset] [(.int (v0_34 p0 p1)), (.int (v0_25 p0 p1)), (.ref b3), (.ref b3)])) X3 (fun t k => XS.iload X3.here hx rfl (hb hby at_61) rfl k) ?_
  have hSn : s.Since s.vm 0 := State.WarmedH.since (State.WarmedH.refl s) 0
  have hSk : 0 ≤ h3.size := Nat.zero_le _
  obtain ⟨_, T4, L4, X4, hSq4, hgr4, hZ, hown, ⟨rfl, N4q, u5, u6, u7, u8⟩, st4⟩ := own_callIW X3 hx hZ (y := (⟨"com/example/tilewright/tilewright/ZoomRange", "<init>", "(II)V"⟩ : MethodName)) (W := 1) (a := b3) (argsL := [(.int (v0_25 p0 p1)), (.int (v0_34 p0 p1))]) (rest := [(.ref b3)]) rfl hown (hw _ (wm 11 rfl)) (hw _ (wm 12 rfl)) (hw _ (wm 10 rfl)) (hw _ (wm 13 rfl)) (by decide) (rm3 l Z a0 hw [] b3 (v0_25 p0 p1) (v0_34 p0 p1) h3 n0 Z3 A3 g_b3 F3_min F3_max (exhp00_63 p0 p1) (exhp10_63 p0 p1) (exhle0_63 p0 p1)) (by decide) (by decide) (by decide) (by decide) e3 (g := (mkF m 63 #[.val (.int p0), .val (.int p1), .val (.int p2), .val (.int p3), .val (.int (v0_7 p0)), .val (.int (v0_16 p1)), .val (.int (v0_25 p0 p1)), .val (.int (v0_34 p0 p1)), .val (.int (v0_53 p0 p1 p3)), .unset, .unset, .unset, .unset] [(.int (v0_34 p0 p1)), (.int (v0_25 p0 p1)), (.ref b3), (.ref b3)])) rfl (by rw [hml]; rfl) pd_3 rfl rfl (by show 2 * 0 + _ ≤ _; exact Nat.le_of_eq rfl) (hb hby at_63)
  have hSn := State.Since.trans (s := s) (vm₁ := s.vm) hSn hSq4 (Nat.le_trans hSk (by rw [← e3]; exact hgr4))
  have N4 := Fr.app N2 N4q
  obtain ⟨h4, e4⟩ : ∃ z, T4.heap = z := ⟨_, rfl⟩
  rw [e4] at u5 u6 u7 u8
  have K4 := u5
  have Z4 := Nat.le_trans Z3 K4.1
  have hSk : T4.heap.size ≤ h4.size := by rw [e4]; exact Nat.le_refl _
  refine OwnFinW.step (g' := (mkF m 66 #[.val (.int p0), .val (.int p1), .val (.int p2), .val (.int p3), .val (.int (v0_7 p0)), .val (.int (v0_16 p1)), .val (.int (v0_25 p0 p1)), .val (.int (v0_34 p0 p1)), .val (.int (v0_53 p0 p1 p3)), .unset, .unset, .unset, .unset] [(.ref b3)])) X4 (fun t k => st4 _ k) ?_
  refine OwnFinW.step (g' := (mkF m 68 #[.val (.int p0), .val (.int p1), .val (.int p2), .val (.int p3), .val (.int (v0_7 p0)), .val (.int (v0_16 p1)), .val (.int (v0_25 p0 p1)), .val (.int (v0_34 p0 p1)), .val (.int (v0_53 p0 p1 p3)), .val (.ref b3), .unset, .unset, .unset] [])) X4 (fun t k => XS.astore X4.here hx rfl (hb hby at_66) rfl rfl (l' := #[.val (.int p0), .val (.int p1), .val (.int p2), .val (.int p3), .val (.int (v0_7 p0)), .val (.int (v0_16 p1)), .val (.int (v0_25 p0 p1)), .val (.int (v0_34 p0 p1)), .val (.int (v0_53 p0 p1 p3)), .val (.ref b3), .unset, .unset, .unset]) rfl k) ?_
  refine OwnFinW.step (g' := (mkF m 70 #[.val (.int p0), .val (.int p1), .val (.int p2), .val (.int p3), .val (.int (v0_7 p0)), .val (.int (v0_16 p1)), .val (.int (v0_25 p0 p1)), .val (.int (v0_34 p0 p1)), .val (.int (v0_53 p0 p1 p3)), .val (.ref b3), .unset, .unset, .unset] [(.ref b3)])) X4 (fun t k => XS.aload X4.here hx rfl (hb hby at_68) rfl rfl k) ?_
  refine OwnFinW.step (g' := (mkF m 72 #[.val (.int p0), .val (.int p1), .val (.int p2), .val (.int p3), .val (.int (v0_7 p0)), .val (.int (v0_16 p1)), .val (.int (v0_25 p0 p1)), .val (.int (v0_34 p0 p1)), .val (.int (v0_53 p0 p1 p3)), .val (.ref b3), .unset, .unset, .unset] [(.int (v0_25 p0 p1)), (.ref b3)])) X4 (fun t k => XS.iload X4.here hx rfl (hb hby at_70) rfl k) ?_
  obtain ⟨_, T9, L9, X9, ⟨rfl, f9, N9q⟩, st9⟩ := own_callV X4 hx hZ (y := (⟨"com/example/tilewright/tilewright/ZoomRange", "contains", "(I)Z"⟩ : MethodName)) (W := 0) (a := b3) (argsL := [(.int (v0_25 p0 p1))]) (rest := []) hown (hw _ (wm 39 rfl)) (hw _ (wm 40 rfl)) (hw _ (wm 42 rfl)) (hw _ (wm 41 rfl)) (hw _ (wm 10 rfl)) (hw _ (wm 43 rfl)) (by decide) u6 (rm7 l Z a0 hw [] b3 (v0_25 p0 p1) (v0_25 p0 p1) (v0_34 p0 p1) h4 n0 Z4 u7 u8) (by decide) (by decide) (by decide) (by decide) e4 (g := (mkF m 72 #[.val (.int p0), .val (.int p1), .val (.int p2), .val (.int p3), .val (.int (v0_7 p0)), .val (.int (v0_16 p1)), .val (.int (v0_25 p0 p1)), .val (.int (v0_34 p0 p1)), .val (.int (v0_53 p0 p1 p3)), .val (.ref b3), .unset, .unset, .unset] [(.int (v0_25 p0 p1)), (.ref b3)])) rfl (by rw [hml]; rfl) pd_4 rfl rfl (by show 2 * 0 + _ ≤ _; exact Nat.le_of_eq rfl) (hb hby at_72)
  have N9 := Fr.app N4 N9q
  refine OwnFinW.step (g' := (mkF m 75 #[.val (.int p0), .val (.int p1), .val (.int p2), .val (.int p3), .val (.int (v0_7 p0)), .val (.int (v0_16 p1)), .val (.int (v0_25 p0 p1)), .val (.int (v0_34 p0 p1)), .val (.int (v0_53 p0 p1 p3)), .val (.ref b3), .unset, .unset, .unset] [(.int (r7 (v0_25 p0 p1) (v0_25 p0 p1) (v0_34 p0 p1)))])) X9 (fun t k => st9 _ k) ?_
  refine OwnFinW.step (g' := (mkF m 78 #[.val (.int p0), .val (.int p1), .val (.int p2), .val (.int p3), .val (.int (v0_7 p0)), .val (.int (v0_16 p1)), .val (.int (v0_25 p0 p1)), .val (.int (v0_34 p0 p1)), .val (.int (v0_53 p0 p1 p3)), .val (.ref b3), .unset, .unset, .unset] [])) X9 (fun t k => XS.ifNo X9.here hx rfl (hb hby at_75) rfl ((if0 _ _).trans (feq (br0_75 p0 p1)).1) k) ?_
  refine OwnFinW.step (g' := (mkF m 80 #[.val (.int p0), .val (.int p1), .val (.int p2), .val (.int p3), .val (.int (v0_7 p0)), .val (.int (v0_16 p1)), .val (.int (v0_25 p0 p1)), .val (.int (v0_34 p0 p1)), .val (.int (v0_53 p0 p1 p3)), .val (.ref b3), .unset, .unset, .unset] [(.ref b3)])) X9 (fun t k => XS.aload X9.here hx rfl (hb hby at_78) rfl rfl k) ?_
  refine OwnFinW.step (g' := (mkF m 82 #[.val (.int p0), .val (.int p1), .val (.int p2), .val (.int p3), .val (.int (v0_7 p0)), .val (.int (v0_16 p1)), .val (.int (v0_25 p0 p1)), .val (.int (v0_34 p0 p1)), .val (.int (v0_53 p0 p1 p3)), .val (.ref b3), .unset, .unset, .unset] [(.int (v0_34 p0 p1)), (.ref b3)])) X9 (fun t k => XS.iload X9.here hx rfl (hb hby at_80) rfl k) ?_
  obtain ⟨_, T10, L10, X10, ⟨rfl, f10, N10q⟩, st10⟩ := own_callV X9 hx hZ (y := (⟨"com/example/tilewright/tilewright/ZoomRange", "contains", "(I)Z"⟩ : MethodName)) (W := 0) (a := b3) (argsL := [(.int (v0_34 p0 p1))]) (rest := []) hown (hw _ (wm 39 rfl)) (hw _ (wm 40 rfl)) (hw _ (wm 42 rfl)) (hw _ (wm 41 rfl)) (hw _ (wm 10 rfl)) (hw _ (wm 43 rfl)) (by decide) u6 (rm7 l Z a0 hw [] b3 (v0_34 p0 p1) (v0_25 p0 p1) (v0_34 p0 p1) h4 n0 Z4 u7 u8) (by decide) (by decide) (by decide) (by decide) f9 (g := (mkF m 82 #[.val (.int p0), .val (.int p1), .val (.int p2), .val (.int p3), .val (.int (v0_7 p0)), .val (.int (v0_16 p1)), .val (.int (v0_25 p0 p1)), .val (.int (v0_34 p0 p1)), .val (.int (v0_53 p0 p1 p3)), .val (.ref b3), .unset, .unset, .unset] [(.int (v0_34 p0 p1)), (.ref b3)])) rfl (by rw [hml]; rfl) pd_4 rfl rfl (by show 2 * 0 + _ ≤ _; exact Nat.le_of_eq rfl) (hb hby at_82)
  have N10 := Fr.app N9 N10q
  refine OwnFinW.step (g' := (mkF m 85 #[.val (.int p0), .val (.int p1), .val (.int p2), .val (.int p3), .val (.int (v0_7 p0)), .val (.int (v0_16 p1)), .val (.int (v0_25 p0 p1)), .val (.int (v0_34 p0 p1)), .val (.int (v0_53 p0 p1 p3)), .val (.ref b3), .unset, .unset, .unset] [(.int (r7 (v0_34 p0 p1) (v0_25 p0 p1) (v0_34 p0 p1)))])) X10 (fun t k => st10 _ k) ?_
  refine OwnFinW.step (g' := (mkF m 88 #[.val (.int p0), .val (.int p1), .val (.int p2), .val (.int p3), .val (.int (v0_7 p0)), .val (.int (v0_16 p1)), .val (.int (v0_25 p0 p1)), .val (.int (v0_34 p0 p1)), .val (.int (v0_53 p0 p1 p3)), .val (.ref b3), .unset, .unset, .unset] [])) X10 (fun t k => XS.ifNo X10.here hx rfl (hb hby at_85) rfl ((if0 _ _).trans (feq (br0_85 p0 p1)).1) k) ?_
  refine OwnFinW.step (g' := (mkF m 90 #[.val (.int p0), .val (.int p1), .val (.int p2), .val (.int p3), .val (.int (v0_7 p0)), .val (.int (v0_16 p1)), .val (.int (v0_25 p0 p1)), .val (.int (v0_34 p0 p1)), .val (.int (v0_53 p0 p1 p3)), .val (.ref b3), .unset, .unset, .unset] [(.ref b3)])) X10 (fun t k => XS.aload X10.here hx rfl (hb hby at_88) rfl rfl k) ?_
  refine OwnFinW.step (g' := (mkF m 92 #[.val (.int p0), .val (.int p1), .val (.int p2), .val (.int p3), .val (.int (v0_7 p0)), .val (.int (v0_16 p1)), .val (.int (v0_25 p0 p1)), .val (.int (v0_34 p0 p1)), .val (.int (v0_53 p0 p1 p3)), .val (.ref b3), .unset, .unset, .unset] [(.int (v0_25 p0 p1)), (.ref b3)])) X10 (fun t k => XS.iload X10.here hx rfl (hb hby at_90) rfl k) ?_
  refine OwnFinW.step (g' := (mkF m 93 #[.val (.int p0), .val (.int p1), .val (.int p2), .val (.int p3), .val (.int (v0_7 p0)), .val (.int (v0_16 p1)), .val (.int (v0_25 p0 p1)), .val (.int (v0_34 p0 p1)), .val (.int (v0_53 p0 p1 p3)), .val (.ref b3), .unset, .unset, .unset] [(.int (1 : Int32)), (.int (v0_25 p0 p1)), (.ref b3)])) X10 (fun t k => XS.iconst X10.here hx rfl (hb hby at_92) k) ?_
  refine OwnFinW.step (g' := (mkF m 94 #[.val (.int p0), .val (.int p1), .val (.int p2), .val (.int p3), .val (.int (v0_7 p0)), .val (.int (v0_16 p1)), .val (.int (v0_25 p0 p1)), .val (.int (v0_34 p0 p1)), .val (.int (v0_53 p0 p1 p3)), .val (.ref b3), .unset, .unset, .unset] [(.int ((v0_25 p0 p1) - (1 : Int32))), (.ref b3)])) X10 (fun t k => XS.isub X10.here hx rfl (hb hby at_93) rfl k) ?_
  obtain ⟨_, T11, L11, X11, ⟨rfl, f11, N11q⟩, st11⟩ := own_callV X10 hx hZ (y := (⟨"com/example/tilewright/tilewright/ZoomRange", "contains", "(I)Z"⟩ : MethodName)) (W := 0) (a := b3) (argsL := [(.int ((v0_25 p0 p1) - (1 : Int32)))]) (rest := []) hown (hw _ (wm 39 rfl)) (hw _ (wm 40 rfl)) (hw _ (wm 42 rfl)) (hw _ (wm 41 rfl)) (hw _ (wm 10 rfl)) (hw _ (wm 43 rfl)) (by decide) u6 (rm7 l Z a0 hw [] b3 ((v0_25 p0 p1) - (1 : Int32)) (v0_25 p0 p1) (v0_34 p0 p1) h4 n0 Z4 u7 u8) (by decide) (by decide) (by decide) (by decide) f10 (g := (mkF m 94 #[.val (.int p0), .val (.int p1), .val (.int p2), .val (.int p3), .val (.int (v0_7 p0)), .val (.int (v0_16 p1)), .val (.int (v0_25 p0 p1)), .val (.int (v0_34 p0 p1)), .val (.int (v0_53 p0 p1 p3)), .val (.ref b3), .unset, .unset, .unset] [(.int ((v0_25 p0 p1) - (1 : Int32))), (.ref b3)])) rfl (by rw [hml]; rfl) pd_4 rfl rfl (by show 2 * 0 + _ ≤ _; exact Nat.le_of_eq rfl) (hb hby at_94)
  have N11 := Fr.app N10 N11q
  refine OwnFinW.step (g' := (mkF m 97 #[.val (.int p0), .val (.int p1), .val (.int p2), .val (.int p3), .val (.int (v0_7 p0)), .val (.int (v0_16 p1)), .val (.int (v0_25 p0 p1)), .val (.int (v0_34 p0 p1)), .val (.int (v0_53 p0 p1 p3)), .val (.ref b3), .unset, .unset, .unset] [(.int (r7 ((v0_25 p0 p1) - (1 : Int32)) (v0_25 p0 p1) (v0_34 p0 p1)))])) X11 (fun t k => st11 _ k) ?_
  refine OwnFinW.step (g' := (mkF m 100 #[.val (.int p0), .val (.int p1), .val (.int p2), .val (.int p3), .val (.int (v0_7 p0)), .val (.int (v0_16 p1)), .val (.int (v0_25 p0 p1)), .val (.int (v0_34 p0 p1)), .val (.int (v0_53 p0 p1 p3)), .val (.ref b3), .unset, .unset, .unset] [])) X11 (fun t k => XS.ifNo X11.here hx rfl (hb hby at_97) rfl ((if0 _ _).trans (teq (br0_97 p0 p1)).2) k) ?_
  refine OwnFinW.step (g' := (mkF m 102 #[.val (.int p0), .val (.int p1), .val (.int p2), .val (.int p3), .val (.int (v0_7 p0)), .val (.int (v0_16 p1)), .val (.int (v0_25 p0 p1)), .val (.int (v0_34 p0 p1)), .val (.int (v0_53 p0 p1 p3)), .val (.ref b3), .unset, .unset, .unset] [(.ref b3)])) X11 (fun t k => XS.aload X11.here hx rfl (hb hby at_100) rfl rfl k) ?_
  refine OwnFinW.step (g' := (mkF m 104 #[.val (.int p0), .val (.int p1), .val (.int p2), .val (.int p3), .val (.int (v0_7 p0)), .val (.int (v0_16 p1)), .val (.int (v0_25 p0 p1)), .val (.int (v0_34 p0 p1)), .val (.int (v0_53 p0 p1 p3)), .val (.ref b3), .unset, .unset, .unset] [(.int (v0_34 p0 p1)), (.ref b3)])) X11 (fun t k => XS.iload X11.here hx rfl (hb hby at_102) rfl k) ?_
  refine OwnFinW.step (g' := (mkF m 105 #[.val (.int p0), .val (.int p1), .val (.int p2), .val (.int p3), .val (.int (v0_7 p0)), .val (.int (v0_16 p1)), .val (.int (v0_25 p0 p1)), .val (.int (v0_34 p0 p1)), .val (.int (v0_53 p0 p1 p3)), .val (.ref b3), .unset, .unset, .unset] [(.int (1 : Int32)), (.int (v0_34 p0 p1)), (.ref b3)])) X11 (fun t k => XS.iconst X11.here hx rfl (hb hby at_104) k) ?_
  refine OwnFinW.step (g' := (mkF m 106 #[.val (.int p0), .val (.int p1), .val (.int p2), .val (.int p3), .val (.int (v0_7 p0)), .val (.int (v0_16 p1)), .val (.int (v0_25 p0 p1)), .val (.int (v0_34 p0 p1)), .val (.int (v0_53 p0 p1 p3)), .val (.ref b3), .unset, .unset, .unset] [(.int ((v0_34 p0 p1) + (1 : Int32))), (.ref b3)])) X11 (fun t k => XS.iadd X11.here hx rfl (hb hby at_105) rfl k) ?_
  obtain ⟨_, T12, L12, X12, ⟨rfl, f12, N12q⟩, st12⟩ := own_callV X11 hx hZ (y := (⟨"com/example/tilewright/tilewright/ZoomRange", "contains", "(I)Z"⟩ : MethodName)) (W := 0) (a := b3) (argsL := [(.int ((v0_34 p0 p1) + (1 : Int32)))]) (rest := []) hown (hw _ (wm 39 rfl)) (hw _ (wm 40 rfl)) (hw _ (wm 42 rfl)) (hw _ (wm 41 rfl)) (hw _ (wm 10 rfl)) (hw _ (wm 43 rfl)) (by decide) u6 (rm7 l Z a0 hw [] b3 ((v0_34 p0 p1) + (1 : Int32)) (v0_25 p0 p1) (v0_34 p0 p1) h4 n0 Z4 u7 u8) (by decide) (by decide) (by decide) (by decide) f11 (g := (mkF m 106 #[.val (.int p0), .val (.int p1), .val (.int p2), .val (.int p3), .val (.int (v0_7 p0)), .val (.int (v0_16 p1)), .val (.int (v0_25 p0 p1)), .val (.int (v0_34 p0 p1)), .val (.int (v0_53 p0 p1 p3)), .val (.ref b3), .unset, .unset, .unset] [(.int ((v0_34 p0 p1) + (1 : Int32))), (.ref b3)])) rfl (by rw [hml]; rfl) pd_4 rfl rfl (by show 2 * 0 + _ ≤ _; exact Nat.le_of_eq rfl) (hb hby at_106)
  have N12 := Fr.app N11 N12q
  refine OwnFinW.step (g' := (mkF m 109 #[.val (.int p0), .val (.int p1), .val (.int p2), .val (.int p3), .val (.int (v0_7 p0)), .val (.int (v0_16 p1)), .val (.int (v0_25 p0 p1)), .val (.int (v0_34 p0 p1)), .val (.int (v0_53 p0 p1 p3)), .val (.ref b3), .unset, .unset, .unset] [(.int (r7 ((v0_34 p0 p1) + (1 : Int32)) (v0_25 p0 p1) (v0_34 p0 p1)))])) X12 (fun t k => st12 _ k) ?_
  refine OwnFinW.step (g' := (mkF m 112 #[.val (.int p0), .val (.int p1), .val (.int p2), .val (.int p3), .val (.int (v0_7 p0)), .val (.int (v0_16 p1)), .val (.int (v0_25 p0 p1)), .val (.int (v0_34 p0 p1)), .val (.int (v0_53 p0 p1 p3)), .val (.ref b3), .unset, .unset, .unset] [])) X12 (fun t k => XS.ifNo X12.here hx rfl (hb hby at_109) rfl ((if0 _ _).trans (teq (br0_109 p0 p1)).2) k) ?_
  refine OwnFinW.step (g' := (mkF m 113 #[.val (.int p0), .val (.int p1), .val (.int p2), .val (.int p3), .val (.int (v0_7 p0)), .val (.int (v0_16 p1)), .val (.int (v0_25 p0 p1)), .val (.int (v0_34 p0 p1)), .val (.int (v0_53 p0 p1 p3)), .val (.ref b3), .unset, .unset, .unset] [(.int (1 : Int32))])) X12 (fun t k => XS.iconst X12.here hx rfl (hb hby at_112) k) ?_
  refine OwnFinW.step (g' := (mkF m 117 #[.val (.int p0), .val (.int p1), .val (.int p2), .val (.int p3), .val (.int (v0_7 p0)), .val (.int (v0_16 p1)), .val (.int (v0_25 p0 p1)), .val (.int (v0_34 p0 p1)), .val (.int (v0_53 p0 p1 p3)), .val (.ref b3), .unset, .unset, .unset] [(.int (1 : Int32))])) X12 (fun t k => XS.goto X12.here hx rfl (pc0 := 113) (pc' := 117) rfl (hb hby at_113) (by decide) (by decide) k) ?_
  refine OwnFinW.step (g' := (mkF m 119 #[.val (.int p0), .val (.int p1), .val (.int p2), .val (.int p3), .val (.int (v0_7 p0)), .val (.int (v0_16 p1)), .val (.int (v0_25 p0 p1)), .val (.int (v0_34 p0 p1)), .val (.int (v0_53 p0 p1 p3)), .val (.ref b3), .val (.int (1 : Int32)), .unset, .unset] [])) X12 (fun t k => XS.istore X12.here hx rfl (hb hby at_117) rfl (l' := #[.val (.int p0), .val (.int p1), .val (.int p2), .val (.int p3), .val (.int (v0_7 p0)), .val (.int (v0_16 p1)), .val (.int (v0_25 p0 p1)), .val (.int (v0_34 p0 p1)), .val (.int (v0_53 p0 p1 p3)), .val (.ref b3), .val (.int (1 : Int32)), .unset, .unset]) rfl k) ?_
  refine OwnFinW.step (g' := (mkF m 121 #[.val (.int p0), .val (.int p1), .val (.int p2), .val (.int p3), .val (.int (v0_7 p0)), .val (.int (v0_16 p1)), .val (.int (v0_25 p0 p1)), .val (.int (v0_34 p0 p1)), .val (.int (v0_53 p0 p1 p3)), .val (.ref b3), .val (.int (1 : Int32)), .unset, .unset] [(.ref b3)])) X12 (fun t k => XS.aload X12.here hx rfl (hb hby at_119) rfl rfl k) ?_
  refine OwnFinW.step (g' := (mkF m 122 #[.val (.int p0), .val (.int p1), .val (.int p2), .val (.int p3), .val (.int (v0_7 p0)), .val (.int (v0_16 p1)), .val (.int (v0_25 p0 p1)), .val (.int (v0_34 p0 p1)), .val (.int (v0_53 p0 p1 p3)), .val (.ref b3), .val (.int (1 : Int32)), .unset, .unset] [(.int p2), (.ref b3)])) X12 (fun t k => XS.iloadN X12.here hx rfl (hb hby at_121) rfl k) ?_
  obtain ⟨_, T13, L13, X13, ⟨rfl, f13, N13q⟩, st13⟩ := own_callV X12 hx hZ (y := (⟨"com/example/tilewright/tilewright/ZoomRange", "contains", "(I)Z"⟩ : MethodName)) (W := 0) (a := b3) (argsL := [(.int p2)]) (rest := []) hown (hw _ (wm 39 rfl)) (hw _ (wm 40 rfl)) (hw _ (wm 42 rfl)) (hw _ (wm 41 rfl)) (hw _ (wm 10 rfl)) (hw _ (wm 43 rfl)) (by decide) u6 (rm7 l Z a0 hw [] b3 p2 (v0_25 p0 p1) (v0_34 p0 p1) h4 n0 Z4 u7 u8) (by decide) (by decide) (by decide) (by decide) f12 (g := (mkF m 122 #[.val (.int p0), .val (.int p1), .val (.int p2), .val (.int p3), .val (.int (v0_7 p0)), .val (.int (v0_16 p1)), .val (.int (v0_25 p0 p1)), .val (.int (v0_34 p0 p1)), .val (.int (v0_53 p0 p1 p3)), .val (.ref b3), .val (.int (1 : Int32)), .unset, .unset] [(.int p2), (.ref b3)])) rfl (by rw [hml]; rfl) pd_4 rfl rfl (by show 2 * 0 + _ ≤ _; exact Nat.le_of_eq rfl) (hb hby at_122)
  have N13 := Fr.app N12 N13q
  refine OwnFinW.step (g' := (mkF m 125 #[.val (.int p0), .val (.int p1), .val (.int p2), .val (.int p3), .val (.int (v0_7 p0)), .val (.int (v0_16 p1)), .val (.int (v0_25 p0 p1)), .val (.int (v0_34 p0 p1)), .val (.int (v0_53 p0 p1 p3)), .val (.ref b3), .val (.int (1 : Int32)), .unset, .unset] [(.int (r7 p2 (v0_25 p0 p1) (v0_34 p0 p1)))])) X13 (fun t k => st13 _ k) ?_
  refine OwnFinW.step (g' := (mkF m 127 #[.val (.int p0), .val (.int p1), .val (.int p2), .val (.int p3), .val (.int (v0_7 p0)), .val (.int (v0_16 p1)), .val (.int (v0_25 p0 p1)), .val (.int (v0_34 p0 p1)), .val (.int (v0_53 p0 p1 p3)), .val (.ref b3), .val (.int (1 : Int32)), .unset, .unset] [(.int (v0_25 p0 p1)), (.int (r7 p2 (v0_25 p0 p1) (v0_34 p0 p1)))])) X13 (fun t k => XS.iload X13.here hx rfl (hb hby at_125) rfl k) ?_
  refine OwnFinW.step (g' := (mkF m 129 #[.val (.int p0), .val (.int p1), .val (.int p2), .val (.int p3), .val (.int (v0_7 p0)), .val (.int (v0_16 p1)), .val (.int (v0_25 p0 p1)), .val (.int (v0_34 p0 p1)), .val (.int (v0_53 p0 p1 p3)), .val (.ref b3), .val (.int (1 : Int32)), .unset, .unset] [(.int (v0_34 p0 p1)), (.int (v0_25 p0 p1)), (.int (r7 p2 (v0_25 p0 p1) (v0_34 p0 p1)))])) X13 (fun t k => XS.iload X13.here hx rfl (hb hby at_127) rfl k) ?_
  refine OwnFinW.step (g' := (mkF m 130 #[.val (.int p0), .val (.int p1), .val (.int p2), .val (.int p3), .val (.int (v0_7 p0)), .val (.int (v0_16 p1)), .val (.int (v0_25 p0 p1)), .val (.int (v0_34 p0 p1)), .val (.int (v0_53 p0 p1 p3)), .val (.ref b3), .val (.int (1 : Int32)), .unset, .unset] [(.int p2), (.int (v0_34 p0 p1)), (.int (v0_25 p0 p1)), (.int (r7 p2 (v0_25 p0 p1) (v0_34 p0 p1)))])) X13 (fun t k => XS.iloadN X13.here hx rfl (hb hby at_129) rfl k) ?_
  obtain ⟨_, T14, L14, X14, ⟨rfl, f14, N14q⟩, st14⟩ := own_callS X13 hx hZ (y := (⟨"com/example/tilewright/tilewright/ZoomRangeContainsPinLaw", "clampedIsSelf", "(III)Z"⟩ : MethodName)) (W := 1) (argsL := [(.int (v0_25 p0 p1)), (.int (v0_34 p0 p1)), (.int p2)]) (rest := [(.int (r7 p2 (v0_25 p0 p1) (v0_34 p0 p1)))]) hown (hw _ (wm 44 rfl)) (hw _ (wm 45 rfl)) (hw _ (wm 46 rfl)) (hw _ (wm 47 rfl)) (by decide) (rm8 l Z a0 hw [] (v0_25 p0 p1) (v0_34 p0 p1) p2 h4 n0 Z4) (by decide) (by decide) (by decide) (by decide) f13 (g := (mkF m 130 #[.val (.int p0), .val (.int p1), .val (.int p2), .val (.int p3), .val (.int (v0_7 p0)), .val (.int (v0_16 p1)), .val (.int (v0_25 p0 p1)), .val (.int (v0_34 p0 p1)), .val (.int (v0_53 p0 p1 p3)), .val (.ref b3), .val (.int (1 : Int32)), .unset, .unset] [(.int p2), (.int (v0_34 p0 p1)), (.int (v0_25 p0 p1)), (.int (r7 p2 (v0_25 p0 p1) (v0_34 p0 p1)))])) rfl (by rw [hml]; rfl) pd_5 rfl rfl (by show 2 * 0 + _ ≤ _; exact Nat.le_of_eq rfl) (hb hby at_130)
  have N14 := Fr.app N13 N14q
  refine OwnFinW.step (g' := (mkF m 133 #[.val (.int p0), .val (.int p1), .val (.int p2), .val (.int p3), .val (.int (v0_7 p0)), .val (.int (v0_16 p1)), .val (.int (v0_25 p0 p1)), .val (.int (v0_34 p0 p1)), .val (.int (v0_53 p0 p1 p3)), .val (.ref b3), .val (.int (1 : Int32)), .unset, .unset] [(.int (r8 (v0_25 p0 p1) (v0_34 p0 p1) p2)), (.int (r7 p2 (v0_25 p0 p1) (v0_34 p0 p1)))])) X14 (fun t k => st14 _ k) ?_
  refine OwnFinW.step (g' := (mkF m 141 #[.val (.int p0), .val (.int p1), .val (.int p2), .val (.int p3), .val (.int (v0_7 p0)), .val (.int (v0_16 p1)), .val (.int (v0_25 p0 p1)), .val (.int (v0_34 p0 p1)), .val (.int (v0_53 p0 p1 p3)), .val (.ref b3), .val (.int (1 : Int32)), .unset, .unset] [(.int (v0_141 p2 p0 p1))])) X14 (fun t k => ?_) ?_
  · show Steps p.tables e below (T14.setTop (mkF m 133 #[.val (.int p0), .val (.int p1), .val (.int p2), .val (.int p3), .val (.int (v0_7 p0)), .val (.int (v0_16 p1)), .val (.int (v0_25 p0 p1)), .val (.int (v0_34 p0 p1)), .val (.int (v0_53 p0 p1 p3)), .val (.ref b3), .val (.int (1 : Int32)), .unset, .unset] [(.int (r8 (v0_25 p0 p1) (v0_34 p0 p1) p2)), (.int (r7 p2 (v0_25 p0 p1) (v0_34 p0 p1)))])) t
    by_cases hc15 : (r7 p2 (v0_25 p0 p1) (v0_34 p0 p1)) = (r8 (v0_25 p0 p1) (v0_34 p0 p1) p2)
    · skip
      refine XS.icmpNo X14.here hx rfl (hb hby at_133) rfl (teq hc15).2 ?_
      show Steps p.tables e below (T14.setTop (mkF m 136 #[.val (.int p0), .val (.int p1), .val (.int p2), .val (.int p3), .val (.int (v0_7 p0)), .val (.int (v0_16 p1)), .val (.int (v0_25 p0 p1)), .val (.int (v0_34 p0 p1)), .val (.int (v0_53 p0 p1 p3)), .val (.ref b3), .val (.int (1 : Int32)), .unset, .unset] [])) t
      refine XS.iconst X14.here hx rfl (hb hby at_136) ?_
      show Steps p.tables e below (T14.setTop (mkF m 137 #[.val (.int p0), .val (.int p1), .val (.int p2), .val (.int p3), .val (.int (v0_7 p0)), .val (.int (v0_16 p1)), .val (.int (v0_25 p0 p1)), .val (.int (v0_34 p0 p1)), .val (.int (v0_53 p0 p1 p3)), .val (.ref b3), .val (.int (1 : Int32)), .unset, .unset] [(.int (1 : Int32))])) t
      refine XS.goto X14.here hx rfl (pc0 := 137) (pc' := 141) rfl (hb hby at_137) (by decide) (by decide) ?_
      show Steps p.tables e below (T14.setTop (mkF m 141 #[.val (.int p0), .val (.int p1), .val (.int p2), .val (.int p3), .val (.int (v0_7 p0)), .val (.int (v0_16 p1)), .val (.int (v0_25 p0 p1)), .val (.int (v0_34 p0 p1)), .val (.int (v0_53 p0 p1 p3)), .val (.ref b3), .val (.int (1 : Int32)), .unset, .unset] [(.int (1 : Int32))])) t
      have q16 : (v0_141 p2 p0 p1) = (1 : Int32) := by
        show (if (r7 p2 (v0_25 p0 p1) (v0_34 p0 p1)) = (r8 (v0_25 p0 p1) (v0_34 p0 p1) p2) then (1 : Int32) else (0 : Int32)) = (1 : Int32)
        simp only [if_pos hc15]
      rw [q16] at k
      exact k
    · skip
      refine XS.icmpYes X14.here hx rfl (pc0 := 133) (pc' := 140) rfl (hb hby at_133) rfl (feq hc15).2 (by decide) (by decide) ?_
      show Steps p.tables e below (T14.setTop (mkF m 140 #[.val (.int p0), .val (.int p1), .val (.int p2), .val (.int p3), .val (.int (v0_7 p0)), .val (.int (v0_16 p1)), .val (.int (v0_25 p0 p1)), .val (.int (v0_34 p0 p1)), .val (.int (v0_53 p0 p1 p3)), .val (.ref b3), .val (.int (1 : Int32)), .unset, .unset] [])) t
      refine XS.iconst X14.here hx rfl (hb hby at_140) ?_
      show Steps p.tables e below (T14.setTop (mkF m 141 #[.val (.int p0), .val (.int p1), .val (.int p2), .val (.int p3), .val (.int (v0_7 p0)), .val (.int (v0_16 p1)), .val (.int (v0_25 p0 p1)), .val (.int (v0_34 p0 p1)), .val (.int (v0_53 p0 p1 p3)), .val (.ref b3), .val (.int (1 : Int32)), .unset, .unset] [(.int (0 : Int32))])) t
      have q17 : (v0_141 p2 p0 p1) = (0 : Int32) := by
        show (if (r7 p2 (v0_25 p0 p1) (v0_34 p0 p1)) = (r8 (v0_25 p0 p1) (v0_34 p0 p1) p2) then (1 : Int32) else (0 : Int32)) = (0 : Int32)
        simp only [if_neg hc15]
      rw [q17] at k
      exact k
  refine OwnFinW.step (g' := (mkF m 143 #[.val (.int p0), .val (.int p1), .val (.int p2), .val (.int p3), .val (.int (v0_7 p0)), .val (.int (v0_16 p1)), .val (.int (v0_25 p0 p1)), .val (.int (v0_34 p0 p1)), .val (.int (v0_53 p0 p1 p3)), .val (.ref b3), .val (.int (1 : Int32)), .val (.int (v0_141 p2 p0 p1)), .unset] [])) X14 (fun t k => XS.istore X14.here hx rfl (hb hby at_141) rfl (l' := #[.val (.int p0), .val (.int p1), .val (.int p2), .val (.int p3), .val (.int (v0_7 p0)), .val (.int (v0_16 p1)), .val (.int (v0_25 p0 p1)), .val (.int (v0_34 p0 p1)), .val (.int (v0_53 p0 p1 p3)), .val (.ref b3), .val (.int (1 : Int32)), .val (.int (v0_141 p2 p0 p1)), .unset]) rfl k) ?_
  refine OwnFinW.step (g' := (mkF m 145 #[.val (.int p0), .val (.int p1), .val (.int p2), .val (.int p3), .val (.int (v0_7 p0)), .val (.int (v0_16 p1)), .val (.int (v0_25 p0 p1)), .val (.int (v0_34 p0 p1)), .val (.int (v0_53 p0 p1 p3)), .val (.ref b3), .val (.int (1 : Int32)), .val (.int (v0_141 p2 p0 p1)), .unset] [(.ref b3)])) X14 (fun t k => XS.aload X14.here hx rfl (hb hby at_143) rfl rfl k) ?_
  refine OwnFinW.step (g' := (mkF m 147 #[.val (.int p0), .val (.int p1), .val (.int p2), .val (.int p3), .val (.int (v0_7 p0)), .val (.int (v0_16 p1)), .val (.int (v0_25 p0 p1)), .val (.int (v0_34 p0 p1)), .val (.int (v0_53 p0 p1 p3)), .val (.ref b3), .val (.int (1 : Int32)), .val (.int (v0_141 p2 p0 p1)), .unset] [(.int (v0_53 p0 p1 p3)), (.ref b3)])) X14 (fun t k => XS.iload X14.here hx rfl (hb hby at_145) rfl k) ?_
  obtain ⟨_, T18, L18, X18, ⟨rfl, f18, N18q⟩, st18⟩ := own_callV X14 hx hZ (y := (⟨"com/example/tilewright/tilewright/ZoomRange", "contains", "(I)Z"⟩ : MethodName)) (W := 0) (a := b3) (argsL := [(.int (v0_53 p0 p1 p3))]) (rest := []) hown (hw _ (wm 39 rfl)) (hw _ (wm 40 rfl)) (hw _ (wm 42 rfl)) (hw _ (wm 41 rfl)) (hw _ (wm 10 rfl)) (hw _ (wm 43 rfl)) (by decide) u6 (rm7 l Z a0 hw [] b3 (v0_53 p0 p1 p3) (v0_25 p0 p1) (v0_34 p0 p1) h4 n0 Z4 u7 u8) (by decide) (by decide) (by decide) (by decide) f14 (g := (mkF m 147 #[.val (.int p0), .val (.int p1), .val (.int p2), .val (.int p3), .val (.int (v0_7 p0)), .val (.int (v0_16 p1)), .val (.int (v0_25 p0 p1)), .val (.int (v0_34 p0 p1)), .val (.int (v0_53 p0 p1 p3)), .val (.ref b3), .val (.int (1 : Int32)), .val (.int (v0_141 p2 p0 p1)), .unset] [(.int (v0_53 p0 p1 p3)), (.ref b3)])) rfl (by rw [hml]; rfl) pd_4 rfl rfl (by show 2 * 0 + _ ≤ _; exact Nat.le_of_eq rfl) (hb hby at_147)
  have N18 := Fr.app N14 N18q
  refine OwnFinW.step (g' := (mkF m 150 #[.val (.int p0), .val (.int p1), .val (.int p2), .val (.int p3), .val (.int (v0_7 p0)), .val (.int (v0_16 p1)), .val (.int (v0_25 p0 p1)), .val (.int (v0_34 p0 p1)), .val (.int (v0_53 p0 p1 p3)), .val (.ref b3), .val (.int (1 : Int32)), .val (.int (v0_141 p2 p0 p1)), .unset] [(.int (r7 (v0_53 p0 p1 p3) (v0_25 p0 p1) (v0_34 p0 p1)))])) X18 (fun t k => st18 _ k) ?_
  refine OwnFinW.step (g' := (mkF m 152 #[.val (.int p0), .val (.int p1), .val (.int p2), .val (.int p3), .val (.int (v0_7 p0)), .val (.int (v0_16 p1)), .val (.int (v0_25 p0 p1)), .val (.int (v0_34 p0 p1)), .val (.int (v0_53 p0 p1 p3)), .val (.ref b3), .val (.int (1 : Int32)), .val (.int (v0_141 p2 p0 p1)), .unset] [(.int (v0_25 p0 p1)), (.int (r7 (v0_53 p0 p1 p3) (v0_25 p0 p1) (v0_34 p0 p1)))])) X18 (fun t k => XS.iload X18.here hx rfl (hb hby at_150) rfl k) ?_
  refine OwnFinW.step (g' := (mkF m 154 #[.val (.int p0), .val (.int p1), .val (.int p2), .val (.int p3), .val (.int (v0_7 p0)), .val (.int (v0_16 p1)), .val (.int (v0_25 p0 p1)), .val (.int (v0_34 p0 p1)), .val (.int (v0_53 p0 p1 p3)), .val (.ref b3), .val (.int (1 : Int32)), .val (.int (v0_141 p2 p0 p1)), .unset] [(.int (v0_34 p0 p1)), (.int (v0_25 p0 p1)), (.int (r7 (v0_53 p0 p1 p3) (v0_25 p0 p1) (v0_34 p0 p1)))])) X18 (fun t k => XS.iload X18.here hx rfl (hb hby at_152) rfl k) ?_
  refine OwnFinW.step (g' := (mkF m 156 #[.val (.int p0), .val (.int p1), .val (.int p2), .val (.int p3), .val (.int (v0_7 p0)), .val (.int (v0_16 p1)), .val (.int (v0_25 p0 p1)), .val (.int (v0_34 p0 p1)), .val (.int (v0_53 p0 p1 p3)), .val (.ref b3), .val (.int (1 : Int32)), .val (.int (v0_141 p2 p0 p1)), .unset] [(.int (v0_53 p0 p1 p3)), (.int (v0_34 p0 p1)), (.int (v0_25 p0 p1)), (.int (r7 (v0_53 p0 p1 p3) (v0_25 p0 p1) (v0_34 p0 p1)))])) X18 (fun t k => XS.iload X18.here hx rfl (hb hby at_154) rfl k) ?_
  obtain ⟨_, T19, L19, X19, ⟨rfl, f19, N19q⟩, st19⟩ := own_callS X18 hx hZ (y := (⟨"com/example/tilewright/tilewright/ZoomRangeContainsPinLaw", "clampedIsSelf", "(III)Z"⟩ : MethodName)) (W := 1) (argsL := [(.int (v0_25 p0 p1)), (.int (v0_34 p0 p1)), (.int (v0_53 p0 p1 p3))]) (rest := [(.int (r7 (v0_53 p0 p1 p3) (v0_25 p0 p1) (v0_34 p0 p1)))]) hown (hw _ (wm 44 rfl)) (hw _ (wm 45 rfl)) (hw _ (wm 46 rfl)) (hw _ (wm 47 rfl)) (by decide) (rm8 l Z a0 hw [] (v0_25 p0 p1) (v0_34 p0 p1) (v0_53 p0 p1 p3) h4 n0 Z4) (by decide) (by decide) (by decide) (by decide) f18 (g := (mkF m 156 #[.val (.int p0), .val (.int p1), .val (.int p2), .val (.int p3), .val (.int (v0_7 p0)), .val (.int (v0_16 p1)), .val (.int (v0_25 p0 p1)), .val (.int (v0_34 p0 p1)), .val (.int (v0_53 p0 p1 p3)), .val (.ref b3), .val (.int (1 : Int32)), .val (.int (v0_141 p2 p0 p1)), .unset] [(.int (v0_53 p0 p1 p3)), (.int (v0_34 p0 p1)), (.int (v0_25 p0 p1)), (.int (r7 (v0_53 p0 p1 p3) (v0_25 p0 p1) (v0_34 p0 p1)))])) rfl (by rw [hml]; rfl) pd_5 rfl rfl (by show 2 * 0 + _ ≤ _; exact Nat.le_of_eq rfl) (hb hby at_156)
  have N19 := Fr.app N18 N19q
  refine OwnFinW.step (g' := (mkF m 159 #[.val (.int p0), .val (.int p1), .val (.int p2), .val (.int p3), .val (.int (v0_7 p0)), .val (.int (v0_16 p1)), .val (.int (v0_25 p0 p1)), .val (.int (v0_34 p0 p1)), .val (.int (v0_53 p0 p1 p3)), .val (.ref b3), .val (.int (1 : Int32)), .val (.int (v0_141 p2 p0 p1)), .unset] [(.int (r8 (v0_25 p0 p1) (v0_34 p0 p1) (v0_53 p0 p1 p3))), (.int (r7 (v0_53 p0 p1 p3) (v0_25 p0 p1) (v0_34 p0 p1)))])) X19 (fun t k => st19 _ k) ?_
  refine OwnFinW.step (g' := (mkF m 167 #[.val (.int p0), .val (.int p1), .val (.int p2), .val (.int p3), .val (.int (v0_7 p0)), .val (.int (v0_16 p1)), .val (.int (v0_25 p0 p1)), .val (.int (v0_34 p0 p1)), .val (.int (v0_53 p0 p1 p3)), .val (.ref b3), .val (.int (1 : Int32)), .val (.int (v0_141 p2 p0 p1)), .unset] [(.int (v0_167 p0 p1 p3))])) X19 (fun t k => ?_) ?_
  · show Steps p.tables e below (T19.setTop (mkF m 159 #[.val (.int p0), .val (.int p1), .val (.int p2), .val (.int p3), .val (.int (v0_7 p0)), .val (.int (v0_16 p1)), .val (.int (v0_25 p0 p1)), .val (.int (v0_34 p0 p1)), .val (.int (v0_53 p0 p1 p3)), .val (.ref b3), .val (.int (1 : Int32)), .val (.int (v0_141 p2 p0 p1)), .unset] [(.int (r8 (v0_25 p0 p1) (v0_34 p0 p1) (v0_53 p0 p1 p3))), (.int (r7 (v0_53 p0 p1 p3) (v0_25 p0 p1) (v0_34 p0 p1)))])) t
    by_cases hc20 : (r7 (v0_53 p0 p1 p3) (v0_25 p0 p1) (v0_34 p0 p1)) = (r8 (v0_25 p0 p1) (v0_34 p0 p1) (v0_53 p0 p1 p3))
    · skip
      refine XS.icmpNo X19.here hx rfl (hb hby at_159) rfl (teq hc20).2 ?_
      show Steps p.tables e below (T19.setTop (mkF m 162 #[.val (.int p0), .val (.int p1), .val (.int p2), .val (.int p3), .val (.int (v0_7 p0)), .val (.int (v0_16 p1)), .val (.int (v0_25 p0 p1)), .val (.int (v0_34 p0 p1)), .val (.int (v0_53 p0 p1 p3)), .val (.ref b3), .val (.int (1 : Int32)), .val (.int (v0_141 p2 p0 p1)), .unset] [])) t
      refine XS.iconst X19.here hx rfl (hb hby at_162) ?_
      show Steps p.tables e below (T19.setTop (mkF m 163 #[.val (.int p0), .val (.int p1), .val (.int p2), .val (.int p3), .val (.int (v0_7 p0)), .val (.int (v0_16 p1)), .val (.int (v0_25 p0 p1)), .val (.int (v0_34 p0 p1)), .val (.int (v0_53 p0 p1 p3)), .val (.ref b3), .val (.int (1 : Int32)), .val (.int (v0_141 p2 p0 p1)), .unset] [(.int (1 : Int32))])) t
      refine XS.goto X19.here hx rfl (pc0 := 163) (pc' := 167) rfl (hb hby at_163) (by decide) (by decide) ?_
      show Steps p.tables e below (T19.setTop (mkF m 167 #[.val (.int p0), .val (.int p1), .val (.int p2), .val (.int p3), .val (.int (v0_7 p0)), .val (.int (v0_16 p1)), .val (.int (v0_25 p0 p1)), .val (.int (v0_34 p0 p1)), .val (.int (v0_53 p0 p1 p3)), .val (.ref b3), .val (.int (1 : Int32)), .val (.int (v0_141 p2 p0 p1)), .unset] [(.int (1 : Int32))])) t
      have q21 : (v0_167 p0 p1 p3) = (1 : Int32) := by
        show (if (r7 (v0_53 p0 p1 p3) (v0_25 p0 p1) (v0_34 p0 p1)) = (r8 (v0_25 p0 p1) (v0_34 p0 p1) (v0_53 p0 p1 p3)) then (1 : Int32) else (0 : Int32)) = (1 : Int32)
        simp only [if_pos hc20]
      rw [q21] at k
      exact k
    · skip
      refine XS.icmpYes X19.here hx rfl (pc0 := 159) (pc' := 166) rfl (hb hby at_159) rfl (feq hc20).2 (by decide) (by decide) ?_
      show Steps p.tables e below (T19.setTop (mkF m 166 #[.val (.int p0), .val (.int p1), .val (.int p2), .val (.int p3), .val (.int (v0_7 p0)), .val (.int (v0_16 p1)), .val (.int (v0_25 p0 p1)), .val (.int (v0_34 p0 p1)), .val (.int (v0_53 p0 p1 p3)), .val (.ref b3), .val (.int (1 : Int32)), .val (.int (v0_141 p2 p0 p1)), .unset] [])) t
      refine XS.iconst X19.here hx rfl (hb hby at_166) ?_
      show Steps p.tables e below (T19.setTop (mkF m 167 #[.val (.int p0), .val (.int p1), .val (.int p2), .val (.int p3), .val (.int (v0_7 p0)), .val (.int (v0_16 p1)), .val (.int (v0_25 p0 p1)), .val (.int (v0_34 p0 p1)), .val (.int (v0_53 p0 p1 p3)), .val (.ref b3), .val (.int (1 : Int32)), .val (.int (v0_141 p2 p0 p1)), .unset] [(.int (0 : Int32))])) t
      have q22 : (v0_167 p0 p1 p3) = (0 : Int32) := by
        show (if (r7 (v0_53 p0 p1 p3) (v0_25 p0 p1) (v0_34 p0 p1)) = (r8 (v0_25 p0 p1) (v0_34 p0 p1) (v0_53 p0 p1 p3)) then (1 : Int32) else (0 : Int32)) = (0 : Int32)
        simp only [if_neg hc20]
      rw [q22] at k
      exact k
  refine OwnFinW.step (g' := (mkF m 169 #[.val (.int p0), .val (.int p1), .val (.int p2), .val (.int p3), .val (.int (v0_7 p0)), .val (.int (v0_16 p1)), .val (.int (v0_25 p0 p1)), .val (.int (v0_34 p0 p1)), .val (.int (v0_53 p0 p1 p3)), .val (.ref b3), .val (.int (1 : Int32)), .val (.int (v0_141 p2 p0 p1)), .val (.int (v0_167 p0 p1 p3))] [])) X19 (fun t k => XS.istore X19.here hx rfl (hb hby at_167) rfl (l' := #[.val (.int p0), .val (.int p1), .val (.int p2), .val (.int p3), .val (.int (v0_7 p0)), .val (.int (v0_16 p1)), .val (.int (v0_25 p0 p1)), .val (.int (v0_34 p0 p1)), .val (.int (v0_53 p0 p1 p3)), .val (.ref b3), .val (.int (1 : Int32)), .val (.int (v0_141 p2 p0 p1)), .val (.int (v0_167 p0 p1 p3))]) rfl k) ?_
  refine OwnFinW.step (g' := (mkF m 171 #[.val (.int p0), .val (.int p1), .val (.int p2), .val (.int p3), .val (.int (v0_7 p0)), .val (.int (v0_16 p1)), .val (.int (v0_25 p0 p1)), .val (.int (v0_34 p0 p1)), .val (.int (v0_53 p0 p1 p3)), .val (.ref b3), .val (.int (1 : Int32)), .val (.int (v0_141 p2 p0 p1)), .val (.int (v0_167 p0 p1 p3))] [(.int (1 : Int32))])) X19 (fun t k => XS.iload X19.here hx rfl (hb hby at_169) rfl k) ?_
  refine OwnFinW.step (g' := (mkF m 174 #[.val (.int p0), .val (.int p1), .val (.int p2), .val (.int p3), .val (.int (v0_7 p0)), .val (.int (v0_16 p1)), .val (.int (v0_25 p0 p1)), .val (.int (v0_34 p0 p1)), .val (.int (v0_53 p0 p1 p3)), .val (.ref b3), .val (.int (1 : Int32)), .val (.int (v0_141 p2 p0 p1)), .val (.int (v0_167 p0 p1 p3))] [])) X19 (fun t k => XS.ifNo X19.here hx rfl (hb hby at_171) rfl ((if0 _ _).trans (feq (by decide)).1) k) ?_
  refine OwnFinW.step (g' := (mkF m 176 #[.val (.int p0), .val (.int p1), .val (.int p2), .val (.int p3), .val (.int (v0_7 p0)), .val (.int (v0_16 p1)), .val (.int (v0_25 p0 p1)), .val (.int (v0_34 p0 p1)), .val (.int (v0_53 p0 p1 p3)), .val (.ref b3), .val (.int (1 : Int32)), .val (.int (v0_141 p2 p0 p1)), .val (.int (v0_167 p0 p1 p3))] [(.int (v0_141 p2 p0 p1))])) X19 (fun t k => XS.iload X19.here hx rfl (hb hby at_174) rfl k) ?_
  refine OwnFinW.step (g' := (mkF m 179 #[.val (.int p0), .val (.int p1), .val (.int p2), .val (.int p3), .val (.int (v0_7 p0)), .val (.int (v0_16 p1)), .val (.int (v0_25 p0 p1)), .val (.int (v0_34 p0 p1)), .val (.int (v0_53 p0 p1 p3)), .val (.ref b3), .val (.int (1 : Int32)), .val (.int (v0_141 p2 p0 p1)), .val (.int (v0_167 p0 p1 p3))] [])) X19 (fun t k => XS.ifNo X19.here hx rfl (hb hby at_176) rfl ((if0 _ _).trans (feq (br0_176 p2 p0 p1)).1) k) ?_
  refine OwnFinW.step (g' := (mkF m 181 #[.val (.int p0), .val (.int p1), .val (.int p2), .val (.int p3), .val (.int (v0_7 p0)), .val (.int (v0_16 p1)), .val (.int (v0_25 p0 p1)), .val (.int (v0_34 p0 p1)), .val (.int (v0_53 p0 p1 p3)), .val (.ref b3), .val (.int (1 : Int32)), .val (.int (v0_141 p2 p0 p1)), .val (.int (v0_167 p0 p1 p3))] [(.int (v0_167 p0 p1 p3))])) X19 (fun t k => XS.iload X19.here hx rfl (hb hby at_179) rfl k) ?_
  refine OwnFinW.step (g' := (mkF m 184 #[.val (.int p0), .val (.int p1), .val (.int p2), .val (.int p3), .val (.int (v0_7 p0)), .val (.int (v0_16 p1)), .val (.int (v0_25 p0 p1)), .val (.int (v0_34 p0 p1)), .val (.int (v0_53 p0 p1 p3)), .val (.ref b3), .val (.int (1 : Int32)), .val (.int (v0_141 p2 p0 p1)), .val (.int (v0_167 p0 p1 p3))] [])) X19 (fun t k => XS.ifNo X19.here hx rfl (hb hby at_181) rfl ((if0 _ _).trans (feq (br0_181 p0 p1 p3)).1) k) ?_
  refine OwnFinW.step (g' := (mkF m 185 #[.val (.int p0), .val (.int p1), .val (.int p2), .val (.int p3), .val (.int (v0_7 p0)), .val (.int (v0_16 p1)), .val (.int (v0_25 p0 p1)), .val (.int (v0_34 p0 p1)), .val (.int (v0_53 p0 p1 p3)), .val (.ref b3), .val (.int (1 : Int32)), .val (.int (v0_141 p2 p0 p1)), .val (.int (v0_167 p0 p1 p3))] [(.int (1 : Int32))])) X19 (fun t k => XS.iconst X19.here hx rfl (hb hby at_184) k) ?_
  refine OwnFinW.step (g' := (mkF m 189 #[.val (.int p0), .val (.int p1), .val (.int p2), .val (.int p3), .val (.int (v0_7 p0)), .val (.int (v0_16 p1)), .val (.int (v0_25 p0 p1)), .val (.int (v0_34 p0 p1)), .val (.int (v0_53 p0 p1 p3)), .val (.ref b3), .val (.int (1 : Int32)), .val (.int (v0_141 p2 p0 p1)), .val (.int (v0_167 p0 p1 p3))] [(.int (1 : Int32))])) X19 (fun t k => XS.goto X19.here hx rfl (pc0 := 185) (pc' := 189) rfl (hb hby at_185) (by decide) (by decide) k) ?_
  refine OwnFinW.retNar (vm := T4.vm) X19 hSn (by rw [f19]; exact hSk) (by simp) (hb hby at_189) (by decide) (by decide) ?_
  exact ⟨rfl, N19⟩
set_option maxRecDepth 65536 in
set_option maxHeartbeats 40000000 in
theorem rm0 (l : Launch) (Z : State) (a0 : Array Value) (hw : ∀ d ∈ tables_1, d.before a0 Z = true) (ws : List Jvm.Cond) (p0 : Int32) (p1 : Int32) (p2 : Int32) (p3 : Int32) (h0 : Heap) (n0 : Nat) (Z0 : n0 ≤ h0.size) :
    MetFree l x (head1 (Jvm.Cond.code x code maxLocals ret :: ws) room_1) (fun a U => a = #[(.int p0), (.int p1), (.int p2), (.int p3)] ∧ Z.Warmed39 U.vm ∧ U.heap = h0) (fun _ _ _ _ _ => True) (fun _ U o U' => ∃ v L, o = .returned v ∧ (LQ n0) v U'.heap L ∧ ReturnedEndW U o U' L room_1.cells room_1.slots) :=
  own_metW (ret := ret) (Q := (LQ n0)) (plainFor_of_name pn_0) (fun m => ef_0 m p0 p1 p2 p3) (fun p e s m below meth c s₁ X hx hby hml hown hnm hZ e0 => j0 X hx hZ hw hby hml hown hnm e0 (Fr.nil n0) Z0 p0 p1 p2 p3)
set_option maxRecDepth 65536 in
set_option maxHeartbeats 40000000 in
theorem comes_1 {Post : Tables → Env → Array Value → State → Outcome → State → Prop} (hpost : ∀ tb e args s v u, (limb_1_1.after args s (.returned v) u = true ∧ limb_1_2.after args s (.returned v) u = true ∧ True) → ReturnedEndW s (.returned v) u (Jvm.fieldLocs frame_1_writes args s ++ Jvm.arrayLocs frame_1_arrays args s ++ Jvm.staticLocs frame_1_statics s) 16 2176 → Post tb e args s (.returned v) u) :
    ArmFor flags0 classFile x code maxLocals ret World_1 tables_1 room_1 Calls_1 rest_1 Pre_1 Post := by
  intro l hfl _ _ p e ha hc hk s m args below hf hA hF happ hP
  obtain ⟨hcalls, hrest, hpre⟩ := hP
  obtain ⟨-, -, -, hnamed, -, -, -, hat⟩ := (Spec.applies_iff hf).mp happ
  obtain ⟨hg, hn⟩ := and_e (Cond.before_iff.mp (show (Jvm.Cond.and given_1 narrow_1).before args s = true from hpre))
  obtain ⟨g1, g2⟩ := and_e hg
  obtain ⟨g3, g4⟩ := and_e g2
  obtain ⟨g5, g6⟩ := and_e g4
  obtain ⟨g7, g8⟩ := and_e g6
  obtain ⟨w0, w1, w2, w3, rfl⟩ : ∃ w0 w1 w2 w3 : Value, args = #[w0, w1, w2, w3] := by
    have hs : args.size = 4 := by simpa [Cond.value, given_1] using g1
    obtain ⟨L⟩ := args
    match L, hs with
    | [w0, w1, w2, w3], _ => exact ⟨w0, w1, w2, w3, rfl⟩
  have hw := fun d (hd : d ∈ tables_1) => atoms_spec (ws := Jvm.Cond.code x code maxLocals ret :: tables_1) hat d (List.mem_cons_of_mem _ hd)
  obtain ⟨i0, ei0⟩ := is_v g3
  obtain rfl : w0 = (.int i0) := Option.some.inj ei0
  obtain ⟨i1, ei1⟩ := is_v g5
  obtain rfl : w1 = (.int i1) := Option.some.inj ei1
  obtain ⟨i2, ei2⟩ := is_v g7
  obtain rfl : w2 = (.int i2) := Option.some.inj ei2
  obtain ⟨i3, ei3⟩ := is_v g8
  obtain rfl : w3 = (.int i3) := Option.some.inj ei3
  obtain ⟨n, o, h1, h2, h3, _, L, rfl, ⟨rfl, N⟩, hq⟩ := rm0 l s _ hw tables_1 i0 i1 i2 i3 s.heap s.heap.size (Nat.le_refl _) p e ha hc hk s m _ below hf ((Spec.applies_iff_loose hf).mp happ).1 ⟨rfl, State.Warmed39.refl s, rfl⟩ trivial
  refine ⟨n, _, h1, h2, h3, hpost _ _ _ _ _ _ ⟨Cond.after_iff.mpr rfl, Cond.after_iff.mpr (eq_i res_at (Term.int_eval (1)) rfl), trivial⟩ ⟨hq.1, hq.2.1, hq.2.2.1, (hq.2.2.2.sift fun y hy => Or.inr (N y hy)).mono (by decide) (by decide)⟩⟩
theorem main_1_1 : Claimed_1_1 := comes_1 fun _ _ _ _ _ _ h hF => ⟨h.1, hF⟩
theorem main_1_2 : Claimed_1_2 := comes_1 fun _ _ _ _ _ _ h hF => ⟨h.2.1, hF⟩
end Jvm.Pilot.@@N@@
namespace Jvm.Pilot.@@N@@
open Jvm Jvm.ClassFile Sem Op Lib Jvm.Free Jvm.Stand Jvm.Pilot.@@N@@.Jvm.D
/-! MADE BY PROGRAM (witnessworld.py) out of the Statement's table words and the real class files: 16 classes; the members and pool entries that the words name. The judged class is class 1, her method 2. -/
namespace start1
open Jvm.ClassFile
def u (s : String) : CpInfo := .utf8 (stringToUtf16 s)
/-- a pool by its gaps: so many unusable entries, then the entry; so many at the end -/
def gap : Nat → List CpInfo → List CpInfo
  | 0, r => r
  | n + 1, r => .unusable :: gap n r
def poolList (es : List (Nat × CpInfo)) (last : Nat) : List CpInfo := es.foldr (fun e r => gap e.1 (e.2 :: r)) (gap last [])
def pool (es : List (Nat × CpInfo)) (last : Nat) : Array CpInfo := ⟨poolList es last⟩
def fileOf (pool : Array CpInfo) (this : Nat) (attrs : Array Attribute := #[]) (ms : Array MethodInfo := #[]) (fl : Nat := 33) (sup : Nat := 0) (ifs : Array Nat := #[]) (fds : Array FieldInfo := #[]) : ClassFile where
  minorVersion := 0
  majorVersion := 65
  constantPool := pool
  accessFlags := fl
  thisClass := this
  superClass := sup
  interfaces := ifs
  fields := fds
  methods := ms
  attributes := attrs
def plain (name : String) (sup : Option ClassId) : Class where
  name := name
  kind := .ordinary
  loader := none
  accessFlags := 33
  super := sup
  interfaces := #[]
  cf := none
  fields := #[]
  methods := #[]
  instanceTypes := #[]
  staticTypes := #[]
  resolved := #[]
  callSites := []
  init := .initialized
  statics := none
  mirror := none

def pool0 : Array CpInfo := pool [(5, u "<init>"), (0, u "()V"), (1, .class_ 10), (1, u "java/lang/Object")] 113

def k0c0 : Code := { maxStack := 0, maxLocals := 1, code := object_method_1_code, exceptionTable := #[], attributes := #[] }
def k0m0 : Method := { name := "<init>", desc := "()V", sig := { parameters := [], returnType := none }, accessFlags := 1, code := some k0c0 }
/-- java/lang/Object -/
def k0 : Class := { plain "java/lang/Object" none with
  accessFlags := 33
  interfaces := #[]
  cf := some (fileOf pool0 8 #[] #[{ accessFlags := 1, nameIndex := 5, descriptorIndex := 6, attributes := #[] }] 33 0 #[] #[])
  fields := #[]
  methods := #[k0m0]
  instanceTypes := #[]
  staticTypes := #[]
  resolved := Array.replicate 124 none
  statics := none }

def pool1 : Array CpInfo := pool [(2, .class_ 4), (1, u "java/lang/Object"), (0, u "<init>"), (0, u "()V"), (0, .methodref 8 9), (0, .class_ 10), (0, .nameAndType 11 12), (0, u "java/lang/Math"), (0, u "min"), (0, u "(II)I"), (0, .methodref 8 14), (0, .nameAndType 15 12), (0, u "max"), (0, .integer 2147483647), (0, .class_ 18), (0, u "com/example/tilewright/tilewright/ZoomRange"), (0, .methodref 17 20), (0, .nameAndType 5 21), (0, u "(II)V"), (0, .methodref 17 23), (0, .nameAndType 24 25), (0, u "contains"), (0, u "(I)Z"), (0, .methodref 27 28), (0, .class_ 29), (0, .nameAndType 30 31), (0, u "com/example/tilewright/tilewright/ZoomRangeContainsPinLaw"), (0, u "clampedIsSelf"), (0, u "(III)Z"), (3, u "law"), (0, u "(IIII)Z")] 2

def k1m0 : Method := { name := "<init>", desc := "()V", sig := { parameters := [], returnType := none }, accessFlags := 1, code := none }
def k1c1 : Code := { maxStack := 3, maxLocals := 3, code := method_2_code, exceptionTable := #[], attributes := #[] }
def k1m1 : Method := { name := "clampedIsSelf", desc := "(III)Z", sig := { parameters := [.int, .int, .int], returnType := some .boolean }, accessFlags := 10, code := some k1c1 }
def k1c2 : Code := { maxStack := 4, maxLocals := 13, code := code, exceptionTable := #[], attributes := #[] }
def k1m2 : Method := { name := "law", desc := "(IIII)Z", sig := { parameters := [.int, .int, .int, .int], returnType := some .boolean }, accessFlags := 9, code := some k1c2 }
/-- com/example/tilewright/tilewright/ZoomRangeContainsPinLaw -/
def k1 : Class := { plain "com/example/tilewright/tilewright/ZoomRangeContainsPinLaw" (some 0) with
  accessFlags := 49
  interfaces := #[]
  cf := some (fileOf pool1 27 #[] #[{ accessFlags := 1, nameIndex := 5, descriptorIndex := 6, attributes := #[] }, { accessFlags := 10, nameIndex := 30, descriptorIndex := 31, attributes := #[] }, { accessFlags := 9, nameIndex := 35, descriptorIndex := 36, attributes := #[] }] 49 2 #[] #[])
  fields := #[]
  methods := #[k1m0, k1m1, k1m2]
  instanceTypes := #[]
  staticTypes := #[]
  resolved := Array.replicate 39 none
  statics := none }

def pool2 : Array CpInfo := pool [(1, .class_ 2), (0, u "java/lang/Math"), (1, .class_ 6), (1, u "java/lang/Object"), (0, u "<init>"), (0, u "()V"), (89, .class_ 100), (1, u "java/lang/Math$RandomNumberGeneratorHolder"), (71, u "negativeZeroFloatBits"), (0, u "J"), (2, u "negativeZeroDoubleBits"), (21, u "max"), (2, u "min"), (43, u "$assertionsDisabled"), (0, u "Z"), (88, u "(II)I"), (2, u "twoToTheDoubleScaleDown"), (0, u "D"), (4, u "twoToTheDoubleScaleUp"), (9, u "E"), (3, u "PI"), (2, u "TAU"), (2, u "DEGREES_TO_RADIANS"), (0, u "RADIANS_TO_DEGREES")] 94

def k2m0 : Method := { name := "<init>", desc := "()V", sig := { parameters := [], returnType := none }, accessFlags := 2, code := none }
def k2c1 : Code := { maxStack := 2, maxLocals := 2, code := jdk_29_method_65_code, exceptionTable := #[], attributes := #[] }
def k2m1 : Method := { name := "max", desc := "(II)I", sig := { parameters := [.int, .int], returnType := some .int }, accessFlags := 9, code := some k2c1 }
def k2c2 : Code := { maxStack := 2, maxLocals := 2, code := jdk_29_method_69_code, exceptionTable := #[], attributes := #[] }
def k2m2 : Method := { name := "min", desc := "(II)I", sig := { parameters := [.int, .int], returnType := some .int }, accessFlags := 9, code := some k2c2 }
/-- java/lang/Math -/
def k2 : Class := { plain "java/lang/Math" (some 0) with
  accessFlags := 49
  interfaces := #[]
  cf := some (fileOf pool2 1 #[.nestMembers #[98]] #[{ accessFlags := 2, nameIndex := 7, descriptorIndex := 8, attributes := #[] }, { accessFlags := 9, nameIndex := 198, descriptorIndex := 335, attributes := #[] }, { accessFlags := 9, nameIndex := 201, descriptorIndex := 335, attributes := #[] }] 49 4 #[] #[{ accessFlags := 25, nameIndex := 354, descriptorIndex := 339, attributes := #[] }, { accessFlags := 25, nameIndex := 358, descriptorIndex := 339, attributes := #[] }, { accessFlags := 25, nameIndex := 361, descriptorIndex := 339, attributes := #[] }, { accessFlags := 26, nameIndex := 364, descriptorIndex := 339, attributes := #[] }, { accessFlags := 26, nameIndex := 365, descriptorIndex := 339, attributes := #[] }, { accessFlags := 26, nameIndex := 172, descriptorIndex := 173, attributes := #[] }, { accessFlags := 26, nameIndex := 176, descriptorIndex := 173, attributes := #[] }, { accessFlags := 8, nameIndex := 344, descriptorIndex := 339, attributes := #[] }, { accessFlags := 8, nameIndex := 338, descriptorIndex := 339, attributes := #[] }, { accessFlags := 4120, nameIndex := 245, descriptorIndex := 246, attributes := #[] }])
  fields := #[{ name := "E", type := .double, accessFlags := 25, slot := 0, constantValue := 0 }, { name := "PI", type := .double, accessFlags := 25, slot := 1, constantValue := 0 }, { name := "TAU", type := .double, accessFlags := 25, slot := 2, constantValue := 0 }, { name := "DEGREES_TO_RADIANS", type := .double, accessFlags := 26, slot := 3, constantValue := 0 }, { name := "RADIANS_TO_DEGREES", type := .double, accessFlags := 26, slot := 4, constantValue := 0 }, { name := "negativeZeroFloatBits", type := .long, accessFlags := 26, slot := 5, constantValue := 0 }, { name := "negativeZeroDoubleBits", type := .long, accessFlags := 26, slot := 6, constantValue := 0 }, { name := "twoToTheDoubleScaleUp", type := .double, accessFlags := 8, slot := 7, constantValue := 0 }, { name := "twoToTheDoubleScaleDown", type := .double, accessFlags := 8, slot := 8, constantValue := 0 }, { name := "$assertionsDisabled", type := .boolean, accessFlags := 4120, slot := 9, constantValue := 0 }]
  methods := #[k2m0, k2m1, k2m2]
  instanceTypes := #[]
  staticTypes := #[.double, .double, .double, .double, .double, .long, .long, .double, .double, .boolean]
  resolved := Array.replicate 460 none
  statics := none }

def pool3 : Array CpInfo := pool [(1, .methodref 2 3), (0, .class_ 4), (0, .nameAndType 5 6), (0, u "java/lang/Object"), (0, u "<init>"), (0, u "()V"), (0, .class_ 8), (0, u "java/lang/Record")] 13

def k3c0 : Code := { maxStack := 1, maxLocals := 1, code := jdk_30_method_1_code, exceptionTable := #[], attributes := #[] }
def k3m0 : Method := { name := "<init>", desc := "()V", sig := { parameters := [], returnType := none }, accessFlags := 4, code := some k3c0 }
/-- java/lang/Record -/
def k3 : Class := { plain "java/lang/Record" (some 0) with
  accessFlags := 1057
  interfaces := #[]
  cf := some (fileOf pool3 7 #[] #[{ accessFlags := 4, nameIndex := 5, descriptorIndex := 6, attributes := #[] }] 1057 2 #[] #[])
  fields := #[]
  methods := #[k3m0]
  instanceTypes := #[]
  staticTypes := #[]
  resolved := Array.replicate 22 none
  statics := none }

def pool4 : Array CpInfo := pool [(1, .methodref 2 3), (0, .class_ 4), (0, .nameAndType 5 6), (0, u "java/lang/Record"), (0, u "<init>"), (0, u "()V"), (0, .string 8), (0, u "minzoom"), (0, .string 10), (0, u "maxzoom"), (0, .methodref 12 13), (0, .class_ 14), (0, .nameAndType 15 16), (0, u "com/example/tilewright/tilewright/ZoomRange"), (0, u "check"), (0, u "(IILjava/lang/String;Ljava/lang/String;)V"), (0, .fieldref 12 18), (0, .nameAndType 19 20), (0, u "min"), (0, u "I"), (0, .fieldref 12 22), (0, .nameAndType 23 20), (0, u "max"), (2, u "(II)V"), (50, u "ALL"), (0, u "Lcom/example/tilewright/tilewright/ZoomRange;"), (2, u "DEFAULT"), (4, u "contains"), (0, u "(I)Z")] 47

def k4c0 : Code := { maxStack := 4, maxLocals := 3, code := prog_46_method_1_code, exceptionTable := #[], attributes := #[] }
def k4m0 : Method := { name := "<init>", desc := "(II)V", sig := { parameters := [.int, .int], returnType := none }, accessFlags := 0, code := some k4c0 }
def k4c1 : Code := { maxStack := 2, maxLocals := 2, code := prog_46_method_3_code, exceptionTable := #[], attributes := #[] }
def k4m1 : Method := { name := "contains", desc := "(I)Z", sig := { parameters := [.int], returnType := some .boolean }, accessFlags := 0, code := some k4c1 }
def k4c2 : Code := { maxStack := 6, maxLocals := 8, code := prog_46_method_7_code, exceptionTable := #[], attributes := #[] }
def k4m2 : Method := { name := "check", desc := "(IILjava/lang/String;Ljava/lang/String;)V", sig := { parameters := [.int, .int, (.object "java/lang/String"), (.object "java/lang/String")], returnType := none }, accessFlags := 10, code := some k4c2 }
/-- com/example/tilewright/tilewright/ZoomRange -/
def k4 : Class := { plain "com/example/tilewright/tilewright/ZoomRange" (some 3) with
  accessFlags := 48
  interfaces := #[]
  cf := some (fileOf pool4 12 #[] #[{ accessFlags := 0, nameIndex := 5, descriptorIndex := 26, attributes := #[] }, { accessFlags := 0, nameIndex := 86, descriptorIndex := 87, attributes := #[] }, { accessFlags := 10, nameIndex := 15, descriptorIndex := 16, attributes := #[] }] 48 2 #[] #[{ accessFlags := 18, nameIndex := 19, descriptorIndex := 20, attributes := #[] }, { accessFlags := 18, nameIndex := 23, descriptorIndex := 20, attributes := #[] }, { accessFlags := 24, nameIndex := 77, descriptorIndex := 78, attributes := #[] }, { accessFlags := 24, nameIndex := 81, descriptorIndex := 78, attributes := #[] }])
  fields := #[{ name := "min", type := .int, accessFlags := 18, slot := 0, constantValue := 0 }, { name := "max", type := .int, accessFlags := 18, slot := 1, constantValue := 0 }, { name := "ALL", type := (.object "com/example/tilewright/tilewright/ZoomRange"), accessFlags := 24, slot := 0, constantValue := 0 }, { name := "DEFAULT", type := (.object "com/example/tilewright/tilewright/ZoomRange"), accessFlags := 24, slot := 1, constantValue := 0 }]
  methods := #[k4m0, k4m1, k4m2]
  instanceTypes := #[.int, .int]
  staticTypes := #[(.object "com/example/tilewright/tilewright/ZoomRange"), (.object "com/example/tilewright/tilewright/ZoomRange")]
  resolved := Array.replicate 135 none
  statics := none }

def pool5 : Array CpInfo := pool [(1, .class_ 2), (0, u "java/io/Serializable"), (0, .class_ 4), (0, u "java/lang/Object")] 2

/-- java/io/Serializable -/
def k5 : Class := { plain "java/io/Serializable" (some 0) with
  accessFlags := 1537
  interfaces := #[]
  cf := some (fileOf pool5 1 #[] #[] 1537 3 #[] #[])
  fields := #[]
  methods := #[]
  instanceTypes := #[]
  staticTypes := #[]
  resolved := Array.replicate 7 none
  statics := none }

def pool6 : Array CpInfo := pool [(1, .class_ 2), (0, u "java/lang/Comparable"), (0, .class_ 4), (0, u "java/lang/Object")] 7

/-- java/lang/Comparable -/
def k6 : Class := { plain "java/lang/Comparable" (some 0) with
  accessFlags := 1537
  interfaces := #[]
  cf := some (fileOf pool6 1 #[] #[] 1537 3 #[] #[])
  fields := #[]
  methods := #[]
  instanceTypes := #[]
  staticTypes := #[]
  resolved := Array.replicate 12 none
  statics := none }

def pool7 : Array CpInfo := pool [(2, .class_ 4), (1, u "java/lang/CharSequence"), (42, .class_ 48), (0, u "java/lang/CharSequence$1CodePointIterator"), (10, .class_ 60), (0, u "java/lang/CharSequence$1CharIterator"), (5, .class_ 67), (0, u "java/lang/Object")] 63

/-- java/lang/CharSequence -/
def k7 : Class := { plain "java/lang/CharSequence" (some 0) with
  accessFlags := 1537
  interfaces := #[]
  cf := some (fileOf pool7 2 #[.nestMembers #[47, 59]] #[] 1537 66 #[] #[])
  fields := #[]
  methods := #[]
  instanceTypes := #[]
  staticTypes := #[]
  resolved := Array.replicate 131 none
  statics := none }

def pool8 : Array CpInfo := pool [(1, .class_ 2), (0, u "java/lang/constant/Constable"), (0, .class_ 4), (0, u "java/lang/Object")] 6

/-- java/lang/constant/Constable -/
def k8 : Class := { plain "java/lang/constant/Constable" (some 0) with
  accessFlags := 1537
  interfaces := #[]
  cf := some (fileOf pool8 1 #[] #[] 1537 3 #[] #[])
  fields := #[]
  methods := #[]
  instanceTypes := #[]
  staticTypes := #[]
  resolved := Array.replicate 11 none
  statics := none }

def pool9 : Array CpInfo := pool [(1, .class_ 2), (0, u "java/lang/constant/ConstantDesc"), (0, .class_ 4), (0, u "java/lang/Object")] 32

/-- java/lang/constant/ConstantDesc -/
def k9 : Class := { plain "java/lang/constant/ConstantDesc" (some 0) with
  accessFlags := 1537
  interfaces := #[]
  cf := some (fileOf pool9 1 #[] #[] 1537 3 #[] #[])
  fields := #[]
  methods := #[]
  instanceTypes := #[]
  staticTypes := #[]
  resolved := Array.replicate 37 none
  statics := none }

def pool10 : Array CpInfo := pool [(2, .class_ 4), (1, u "java/lang/Object"), (0, u "<init>"), (0, u "()V"), (3, .class_ 12), (1, u "java/lang/String"), (0, u "value"), (0, u "[B"), (2, u "coder"), (0, u "B"), (2, u "hash"), (0, u "I"), (2, u "hashIsZero"), (0, u "Z"), (13, u "COMPACT_STRINGS"), (534, .class_ 576), (0, u "java/lang/CharSequence"), (22, u "CASE_INSENSITIVE_ORDER"), (0, u "Ljava/util/Comparator;"), (500, u "serialPersistentFields"), (0, u "[Ljava/io/ObjectStreamField;"), (0, .class_ 1104), (0, u "java/lang/String$CaseInsensitiveComparator"), (1, .class_ 1107), (0, u "java/io/Serializable"), (0, .class_ 1109), (0, u "java/lang/Comparable"), (0, .class_ 1111), (0, u "java/lang/constant/Constable"), (0, .class_ 1113), (0, u "java/lang/constant/ConstantDesc"), (2, u "serialVersionUID"), (0, u "J"), (3, u "REPL"), (0, u "C"), (2, u "LATIN1"), (1, u "UTF16")] 323

def k10m0 : Method := { name := "<init>", desc := "()V", sig := { parameters := [], returnType := none }, accessFlags := 1, code := none }
/-- java/lang/String -/
def k10 : Class := { plain "java/lang/String" (some 0) with
  accessFlags := 49
  interfaces := #[5, 6, 7, 8, 9]
  cf := some (fileOf pool10 10 #[.nestMembers #[1103]] #[{ accessFlags := 1, nameIndex := 5, descriptorIndex := 6, attributes := #[] }] 49 2 #[1106, 1108, 575, 1110, 1112] #[{ accessFlags := 18, nameIndex := 13, descriptorIndex := 14, attributes := #[] }, { accessFlags := 18, nameIndex := 17, descriptorIndex := 18, attributes := #[] }, { accessFlags := 2, nameIndex := 21, descriptorIndex := 22, attributes := #[] }, { accessFlags := 2, nameIndex := 25, descriptorIndex := 26, attributes := #[] }, { accessFlags := 26, nameIndex := 1116, descriptorIndex := 1117, attributes := #[] }, { accessFlags := 24, nameIndex := 40, descriptorIndex := 26, attributes := #[] }, { accessFlags := 26, nameIndex := 1101, descriptorIndex := 1102, attributes := #[] }, { accessFlags := 26, nameIndex := 1121, descriptorIndex := 1122, attributes := #[] }, { accessFlags := 25, nameIndex := 599, descriptorIndex := 600, attributes := #[] }, { accessFlags := 24, nameIndex := 1125, descriptorIndex := 18, attributes := #[] }, { accessFlags := 24, nameIndex := 1127, descriptorIndex := 18, attributes := #[] }])
  fields := #[{ name := "value", type := (.array .byte), accessFlags := 18, slot := 0, constantValue := 0 }, { name := "coder", type := .byte, accessFlags := 18, slot := 1, constantValue := 0 }, { name := "hash", type := .int, accessFlags := 2, slot := 2, constantValue := 0 }, { name := "hashIsZero", type := .boolean, accessFlags := 2, slot := 3, constantValue := 0 }, { name := "serialVersionUID", type := .long, accessFlags := 26, slot := 0, constantValue := 0 }, { name := "COMPACT_STRINGS", type := .boolean, accessFlags := 24, slot := 1, constantValue := 0 }, { name := "serialPersistentFields", type := (.array (.object "java/io/ObjectStreamField")), accessFlags := 26, slot := 2, constantValue := 0 }, { name := "REPL", type := .char, accessFlags := 26, slot := 3, constantValue := 0 }, { name := "CASE_INSENSITIVE_ORDER", type := (.object "java/util/Comparator"), accessFlags := 25, slot := 4, constantValue := 0 }, { name := "LATIN1", type := .byte, accessFlags := 24, slot := 5, constantValue := 0 }, { name := "UTF16", type := .byte, accessFlags := 24, slot := 6, constantValue := 0 }]
  methods := #[k10m0]
  instanceTypes := #[(.array .byte), .byte, .int, .boolean]
  staticTypes := #[.long, .boolean, (.array (.object "java/io/ObjectStreamField")), .char, (.object "java/util/Comparator"), .byte, .byte]
  resolved := Array.replicate 1451 none
  statics := none }

def pool11 : Array CpInfo := pool [(1, u "java/lang/Cloneable"), (0, .class_ 1), (0, u "java/lang/Object"), (0, .class_ 3)] 3

/-- java/lang/Cloneable -/
def k11 : Class := { plain "java/lang/Cloneable" (some 0) with
  accessFlags := 1537
  interfaces := #[]
  cf := some (fileOf pool11 2 #[] #[] 1537 4 #[] #[])
  fields := #[]
  methods := #[]
  instanceTypes := #[]
  staticTypes := #[]
  resolved := Array.replicate 8 none
  statics := none }

/-- the primitive byte -/
def k12 : Class := { plain "byte" none with kind := .primitive 'B', accessFlags := 0x411 }
/-- [B -/
def k13 : Class := { plain "[B" (some 0) with kind := .array 12 .byte, interfaces := #[11, 5], accessFlags := 1041 }

/-- the primitive int -/
def k14 : Class := { plain "int" none with kind := .primitive 'I', accessFlags := 0x411 }
/-- [I -/
def k15 : Class := { plain "[I" (some 0) with kind := .array 14 .int, interfaces := #[11, 5], accessFlags := 1041 }

def heap : Heap := #[]
def classes : Array Class := #[k0, k1, k2, k3, k4, k5, k6, k7, k8, k9, k10, k11, k12, k13, k14, k15]
def interned : List (Array UInt16 × Addr) := []
def slotsUsed : Nat := 0
def theMethod : MethodId := ⟨1, 2⟩
def args0 : Array Value := #[.int 5, .int 6, .int 7, .int 8]
def aboutOver (below : List Frame) : State where
  vm := { classes := classes, interned := interned.toArray }
  heap := heap
  slotsUsed := slotsUsed
  threads := #[{ frames := .invoking theMethod args0 :: below }]
def below0 : List Frame := [.native { method := ⟨0, 0⟩, args := #[] }]
def about1 : State := aboutOver below0
def p0 : Program := .bare "" "" ""
def e0 : Env := launch0.env 0 0 0
theorem w_frames : about1.frames = Frame.invoking theMethod args0 :: below0 := rfl
set_option maxRecDepth 65536 in
theorem w_args : argsFit about1.vm theMethod args0 = true := by decide +kernel
set_option maxRecDepth 65536 in
theorem w_heap : heapFits about1 = true := by decide +kernel
set_option maxRecDepth 65536 in
theorem w_runnable : about1.curStatus? = some .runnable := by decide +kernel
set_option maxRecDepth 65536 in
theorem w_alone : about1.alone = true := by decide +kernel
set_option maxRecDepth 65536 in
theorem w_named : about1.methodNamed? x = some theMethod := by decide +kernel
set_option maxRecDepth 65536 in
theorem w_hears : about1.hears theMethod below0 = true := by decide +kernel
set_option maxRecDepth 65536 in
theorem w_ripe : about1.ripe theMethod args0 below0 = true := by decide +kernel
theorem w_running : about1.status = .running := rfl
set_option maxRecDepth 65536 in
theorem w_room : about1.hasRoom e0.platform room_1 = true :=
  launch0.hasRoom_least _ room_1 (by decide +kernel) (by decide +kernel) (by decide +kernel) (by decide +kernel) (by decide +kernel) (by decide +kernel)
theorem allAtoms_all (ts : List Jvm.Cond) (a : Array Jvm.Value) (st : Jvm.State) : (allAtoms ts).before a st = ts.all (fun c => c.before a st) := by
  induction ts with
  | nil => rfl
  | cons c t ih =>
    show (Jvm.Cond.and c (allAtoms t)).before a st = _
    rw [Jvm.Cond.before_and, ih, List.all_cons]
def words1 : List Jvm.Cond := Jvm.Cond.code x code maxLocals ret :: tables_1
/-- a 'code' word, met by the world's own term for the bytes: nothing is compared byte by byte -/
theorem code_word {y : MethodName} {bytes : ByteArray} {mx : Nat} {rt : Option FieldType} {a : Array Value} {s : State} {m : MethodId} {meth : Method} {c : Code} (h1 : s.methodNamed? y = some m) (h2 : s.vm.method? m = some meth) (h3 : meth.code = some c) (h4 : c.code = bytes)
    (h5 : (c.maxLocals == mx && c.exceptionTable.isEmpty && decide (c.maxStack ≤ mostOperands) && decide (meth.sig.returnType = rt) && !meth.locks && decide (parseMethodDescriptor y.desc = some meth.sig)) = true) : (Jvm.Cond.code y bytes mx rt).before a s = true := by
  simp only [Bool.and_eq_true, beq_iff_eq, Bool.not_eq_true', decide_eq_true_eq] at h5
  obtain ⟨⟨⟨⟨⟨g1, g2⟩, g3⟩, g4⟩, g5⟩, g6⟩ := h5
  simp [Cond.before, Cond.holds, Cond.value, h1, h2, h3, h4, g1, g2, g3, g4, g5, g6]
def isCode : Jvm.Cond → Bool
  | .code _ _ _ _ => true
  | _ => false
theorem all_split {L : List Jvm.Cond} {P : Jvm.Cond → Bool} (h1 : L.all (fun c => isCode c || P c) = true) (h2 : ∀ c ∈ L.filter isCode, P c = true) : L.all P = true := by
  refine List.all_eq_true.mpr fun c hc => ?_
  have h := List.all_eq_true.mp h1 c hc
  rcases Bool.eq_false_or_eq_true (isCode c) with hi | hi
  · exact h2 c (List.mem_filter.mpr ⟨hc, hi⟩)
  · simpa [hi] using h
set_option maxRecDepth 65536 in
theorem w_c0 : (Jvm.Cond.code x code maxLocals ret).before args0 about1 = true := code_word (m := ⟨1, 2⟩) (meth := k1m2) (c := k1c2) (by decide +kernel) rfl rfl rfl (by decide +kernel)
set_option maxRecDepth 65536 in
theorem w_c1 : (Jvm.Cond.code ({ cls := "java/lang/Math", name := "min", desc := "(II)I" } : Jvm.MethodName) jdk_29_method_69_code (2 : Nat) (Option.some Jvm.ClassFile.FieldType.int)).before args0 about1 = true := code_word (m := ⟨2, 2⟩) (meth := k2m2) (c := k2c2) (by decide +kernel) rfl rfl rfl (by decide +kernel)
set_option maxRecDepth 65536 in
theorem w_c2 : (Jvm.Cond.code ({ cls := "java/lang/Math", name := "max", desc := "(II)I" } : Jvm.MethodName) jdk_29_method_65_code (2 : Nat) (Option.some Jvm.ClassFile.FieldType.int)).before args0 about1 = true := code_word (m := ⟨2, 1⟩) (meth := k2m1) (c := k2c1) (by decide +kernel) rfl rfl rfl (by decide +kernel)
set_option maxRecDepth 65536 in
theorem w_c3 : (Jvm.Cond.code ({ cls := "com/example/tilewright/tilewright/ZoomRange", name := "<init>", desc := "(II)V" } : Jvm.MethodName) prog_46_method_1_code (3 : Nat) (Option.none : Option Jvm.ClassFile.FieldType)).before args0 about1 = true := code_word (m := ⟨4, 0⟩) (meth := k4m0) (c := k4c0) (by decide +kernel) rfl rfl rfl (by decide +kernel)
set_option maxRecDepth 65536 in
theorem w_c4 : (Jvm.Cond.code ({ cls := "java/lang/Record", name := "<init>", desc := "()V" } : Jvm.MethodName) jdk_30_method_1_code (1 : Nat) (Option.none : Option Jvm.ClassFile.FieldType)).before args0 about1 = true := code_word (m := ⟨3, 0⟩) (meth := k3m0) (c := k3c0) (by decide +kernel) rfl rfl rfl (by decide +kernel)
set_option maxRecDepth 65536 in
theorem w_c5 : (Jvm.Cond.code ({ cls := "java/lang/Object", name := "<init>", desc := "()V" } : Jvm.MethodName) object_method_1_code (1 : Nat) (Option.none : Option Jvm.ClassFile.FieldType)).before args0 about1 = true := code_word (m := ⟨0, 0⟩) (meth := k0m0) (c := k0c0) (by decide +kernel) rfl rfl rfl (by decide +kernel)
set_option maxRecDepth 65536 in
theorem w_c6 : (Jvm.Cond.code ({ cls := "com/example/tilewright/tilewright/ZoomRange", name := "check", desc := "(IILjava/lang/String;Ljava/lang/String;)V" } : Jvm.MethodName) prog_46_method_7_code (8 : Nat) (Option.none : Option Jvm.ClassFile.FieldType)).before args0 about1 = true := code_word (m := ⟨4, 2⟩) (meth := k4m2) (c := k4c2) (by decide +kernel) rfl rfl rfl (by decide +kernel)
set_option maxRecDepth 65536 in
theorem w_c7 : (Jvm.Cond.code ({ cls := "com/example/tilewright/tilewright/ZoomRange", name := "contains", desc := "(I)Z" } : Jvm.MethodName) prog_46_method_3_code (2 : Nat) (Option.some Jvm.ClassFile.FieldType.boolean)).before args0 about1 = true := code_word (m := ⟨4, 1⟩) (meth := k4m1) (c := k4c1) (by decide +kernel) rfl rfl rfl (by decide +kernel)
set_option maxRecDepth 65536 in
theorem w_c8 : (Jvm.Cond.code ({ cls := "com/example/tilewright/tilewright/ZoomRangeContainsPinLaw", name := "clampedIsSelf", desc := "(III)Z" } : Jvm.MethodName) method_2_code (3 : Nat) (Option.some Jvm.ClassFile.FieldType.boolean)).before args0 about1 = true := code_word (m := ⟨1, 1⟩) (meth := k1m1) (c := k1c1) (by decide +kernel) rfl rfl rfl (by decide +kernel)
def codes1 : List Jvm.Cond := [Jvm.Cond.code x code maxLocals ret, Jvm.Cond.code ({ cls := "java/lang/Math", name := "min", desc := "(II)I" } : Jvm.MethodName) jdk_29_method_69_code (2 : Nat) (Option.some Jvm.ClassFile.FieldType.int), Jvm.Cond.code ({ cls := "java/lang/Math", name := "max", desc := "(II)I" } : Jvm.MethodName) jdk_29_method_65_code (2 : Nat) (Option.some Jvm.ClassFile.FieldType.int), Jvm.Cond.code ({ cls := "com/example/tilewright/tilewright/ZoomRange", name := "<init>", desc := "(II)V" } : Jvm.MethodName) prog_46_method_1_code (3 : Nat) (Option.none : Option Jvm.ClassFile.FieldType), Jvm.Cond.code ({ cls := "java/lang/Record", name := "<init>", desc := "()V" } : Jvm.MethodName) jdk_30_method_1_code (1 : Nat) (Option.none : Option Jvm.ClassFile.FieldType), Jvm.Cond.code ({ cls := "java/lang/Object", name := "<init>", desc := "()V" } : Jvm.MethodName) object_method_1_code (1 : Nat) (Option.none : Option Jvm.ClassFile.FieldType), Jvm.Cond.code ({ cls := "com/example/tilewright/tilewright/ZoomRange", name := "check", desc := "(IILjava/lang/String;Ljava/lang/String;)V" } : Jvm.MethodName) prog_46_method_7_code (8 : Nat) (Option.none : Option Jvm.ClassFile.FieldType), Jvm.Cond.code ({ cls := "com/example/tilewright/tilewright/ZoomRange", name := "contains", desc := "(I)Z" } : Jvm.MethodName) prog_46_method_3_code (2 : Nat) (Option.some Jvm.ClassFile.FieldType.boolean), Jvm.Cond.code ({ cls := "com/example/tilewright/tilewright/ZoomRangeContainsPinLaw", name := "clampedIsSelf", desc := "(III)Z" } : Jvm.MethodName) method_2_code (3 : Nat) (Option.some Jvm.ClassFile.FieldType.boolean)]
set_option maxRecDepth 65536 in
theorem codes_eq : words1.filter isCode = codes1 := rfl
theorem w_codes : ∀ c ∈ words1.filter isCode, c.before args0 about1 = true := by
  rw [codes_eq]
  intro c hc
  simp only [codes1, List.mem_cons, List.not_mem_nil, or_false] at hc
  rcases hc with rfl | rfl | rfl | rfl | rfl | rfl | rfl | rfl | rfl
  · exact w_c0
  · exact w_c1
  · exact w_c2
  · exact w_c3
  · exact w_c4
  · exact w_c5
  · exact w_c6
  · exact w_c7
  · exact w_c8
set_option maxRecDepth 65536 in
theorem w_t1 : (words1.take 24).all (fun c => isCode c || c.before args0 about1) = true := by decide +kernel
set_option maxRecDepth 65536 in
theorem w_t2 : ((words1.drop 24).take 24).all (fun c => isCode c || c.before args0 about1) = true := by decide +kernel
set_option maxRecDepth 65536 in
theorem w_t3 : ((words1.drop 24).drop 24).all (fun c => isCode c || c.before args0 about1) = true := by decide +kernel
theorem w_tables : (allAtoms (Jvm.Cond.code x code maxLocals ret :: tables_1)).before args0 about1 = true := by
  rw [allAtoms_all]
  show words1.all (fun c => c.before args0 about1) = true
  refine all_split ?_ w_codes
  rw [← List.take_append_drop 24 words1, List.all_append, w_t1, ← List.take_append_drop 24 (words1.drop 24), List.all_append, w_t2, w_t3]
  rfl
set_option maxRecDepth 65536 in
theorem w_case : (Jvm.Cond.and given_1 narrow_1).before args0 about1 = true := by decide +kernel
theorem w_applies : (headSpec (Jvm.Cond.code x code maxLocals ret :: tables_1) room_1).applies x e0.platform about1 = true :=
  (Spec.applies_iff w_frames).mpr ⟨w_running, w_runnable, w_alone, w_named, w_hears, w_ripe, w_room, w_tables⟩
theorem atStart : AtStart classFile x code maxLocals ret World_1 tables_1 room_1 Calls_1 rest_1 Pre_1 launch0 p0 e0 about1 theMethod args0 below0 :=
  ⟨lists_1, trivial, launch0.admits_env _ _ _, launch0.least_env, fairChoices_fair.cas, fairChoices_fair.clock, w_frames, w_args, w_heap, w_applies, trivial, trivial, w_case⟩
end start1
theorem witness_1 : WitnessClaimed_1 := ⟨start1.p0, start1.e0, start1.about1, start1.theMethod, start1.args0, start1.below0, start1.atStart⟩
end Jvm.Pilot.@@N@@
