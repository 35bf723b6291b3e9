import JvmDerived
import JvmDerived.Pilot.@@N@@Statement
import JvmDerived.Pilot.@@N@@Code
set_option linter.unusedVariables false
set_option linter.unusedSimpArgs false
@@BLOCK:NumsL.lean.txt@@
namespace Jvm.RoadKit
open Sem ClassFile Op Lib Jvm.Stand Jvm.Free Jvm.LawKit
section OwnKit
theorem wm {α : Type} {l : List α} {a : α} (i : Nat) (h : l[i]? = some a) : a ∈ l := List.mem_of_getElem? h
variable {p : Program} {l : Launch} {e : Env} {R : Room} {s : State} {m : MethodId} {args : Array Value} {below : List Frame} {meth : Method} {c : Code} {T T' : State} {locs locs' : List Loc} {k n k' n' : Nat} {Z : State} {a0 : Array Value} {h h' h0 : Heap}
theorem retI (X : Stand p l e R s m args below meth c T locs k n) (hx : p.tables.exec = Jvm.exec) {pc : Nat} {Ls : Array Slot} {z : Int32} {rest : List Value} (hret : meth.sig.returnType = some .int) (hd : decode c.code pc = .ok (.ireturn, 1)) {fs : List Frame}
    (hl : ∀ (f : JFrame) (acts : List Action), f.method = m → f.locked = none → f.entered = [] → (doReturn e (T.setTop f) acts (some (.int z))).1 = T.setFrames fs) : Steps p.tables e below (T.setTop (mkF m pc Ls (.int z :: rest))) (T.setFrames fs) := by
  have hm' : T.vm.method? m = some meth := X.method'
  have hn : narrow .int (.int z) = .int z := rfl
  show Steps p.tables e below (T.setTop { method := m, pc := pc, locals := Ls, stack := _ :: rest, locked := none }) _
  jvm_step X.here [X.here.top, hx, hd, hm', hret, hn]
  first | (intro acts; rw [hl _ acts rfl rfl rfl]) | rw [hl _ _ rfl rfl rfl]
  exact Steps.refl _
/-- how a body may end: the instruction, the method's return type, what lies on the stack, what is handed back -/
def OwnRet (i : Instr) (ret : Option FieldType) (w v : Option Value) : Prop :=
  (i = .ireturn ∧ ∃ z : Int32, ret = some .int ∧ w = some (.int z) ∧ v = some (.int z)) ∨
  (i = .ireturn ∧ ∃ (t : FieldType) (z : Int32), ret = some t ∧ (t = .boolean ∨ t = .byte ∨ t = .char ∨ t = .short) ∧ w = some (.int z) ∧ v = some (.int (nar t z))) ∨
  (i = .lreturn ∧ ret = some .long ∧ ∃ z : Int64, w = some (.long z) ∧ v = some (.long z)) ∨
  (i = .areturn ∧ ∃ (t : FieldType) (u : Value), ret = some t ∧ t.isReference = true ∧ u.isRef = true ∧ narrow t u = u ∧ w = some u ∧ v = some u) ∨
  (i = .return_ ∧ ret = none ∧ w = none ∧ v = none)
/-- from the frame g the body comes to its return and leaves what Q says -/
def OwnFin (_X : Stand p l e R s m args below meth c T locs k n) (ret : Option FieldType) (Q : Option Value → Heap → List Loc → Prop) (K N : Nat) (g : JFrame) : Prop :=
  ∃ (i : Instr) (w v : Option Value) (T' : State) (locs' : List Loc) (k' n' pcr : Nat) (Ls : Array Slot), OwnRet i ret w v ∧ Stand p l e R s m args below meth c T' locs' k' n' ∧ k' ≤ K ∧ n' ≤ N ∧ Q v T'.heap locs' ∧ decode c.code pcr = .ok (i, 1) ∧
    ∀ t, Steps p.tables e below (T'.setTop (mkF m pcr Ls w.toList)) t → Steps p.tables e below (T.setTop g) t
variable {ret : Option FieldType} {Q : Option Value → Heap → List Loc → Prop} {K N : Nat} {g g' : JFrame}
theorem OwnFin.step {X : Stand p l e R s m args below meth c T locs k n} (X' : Stand p l e R s m args below meth c T' locs' k' n') (hs : ∀ t, Steps p.tables e below (T'.setTop g') t → Steps p.tables e below (T.setTop g) t) (hF : OwnFin X' ret Q K N g') : OwnFin X ret Q K N g := by
  obtain ⟨i, w, v, T2, locs2, k2, n2, pcr, Ls, h1, h2, h3, h4, h5, h6, h7⟩ := hF
  exact ⟨i, w, v, T2, locs2, k2, n2, pcr, Ls, h1, h2, h3, h4, h5, h6, fun t k => hs t (h7 t k)⟩
theorem ost (g' : JFrame) {X : Stand p l e R s m args below meth c T locs k n} (X' : Stand p l e R s m args below meth c T' locs' k' n') (hs : ∀ t, Steps p.tables e below (T'.setTop g') t → Steps p.tables e below (T.setTop g) t) (hF : OwnFin X' ret Q K N g') : OwnFin X ret Q K N g := OwnFin.step X' hs hF
theorem OwnFin.retInt (X : Stand p l e R s m args below meth c T locs k n) {pc : Nat} {Ls : Array Slot} {z : Int32} (hd : decode c.code pc = .ok (.ireturn, 1)) (hk : k ≤ K) (hn : n ≤ N) (hQ : Q (some (.int z)) T.heap locs) : OwnFin X (some .int) Q K N (mkF m pc Ls [.int z]) :=
  ⟨.ireturn, some (.int z), _, T, locs, k, n, pc, Ls, Or.inl ⟨rfl, z, rfl, rfl, rfl⟩, X, hk, hn, hQ, hd, fun _ k => k⟩
theorem OwnFin.retNar (X : Stand p l e R s m args below meth c T locs k n) {t : FieldType} (ht : t = .boolean ∨ t = .byte ∨ t = .char ∨ t = .short) {pc : Nat} {Ls : Array Slot} {z : Int32} (hd : decode c.code pc = .ok (.ireturn, 1)) (hk : k ≤ K) (hn : n ≤ N) (hQ : Q (some (.int (nar t z))) T.heap locs) : OwnFin X (some t) Q K N (mkF m pc Ls [.int z]) :=
  ⟨.ireturn, some (.int z), _, T, locs, k, n, pc, Ls, Or.inr (Or.inl ⟨rfl, t, z, rfl, ht, rfl, rfl⟩), X, hk, hn, hQ, hd, fun _ k => k⟩
theorem OwnFin.retLong (X : Stand p l e R s m args below meth c T locs k n) {pc : Nat} {Ls : Array Slot} {z : Int64} (hd : decode c.code pc = .ok (.lreturn, 1)) (hk : k ≤ K) (hn : n ≤ N) (hQ : Q (some (.long z)) T.heap locs) : OwnFin X (some .long) Q K N (mkF m pc Ls [.long z]) :=
  ⟨.lreturn, some (.long z), _, T, locs, k, n, pc, Ls, Or.inr (Or.inr (Or.inl ⟨rfl, rfl, z, rfl, rfl⟩)), X, hk, hn, hQ, hd, fun _ k => k⟩
theorem OwnFin.retRef (X : Stand p l e R s m args below meth c T locs k n) {t : FieldType} {u : Value} (ht : t.isReference = true) (hu : u.isRef = true) (hnw : narrow t u = u) {pc : Nat} {Ls : Array Slot} (hd : decode c.code pc = .ok (.areturn, 1)) (hk : k ≤ K) (hn : n ≤ N) (hQ : Q (some u) T.heap locs) : OwnFin X (some t) Q K N (mkF m pc Ls [u]) :=
  ⟨.areturn, some u, _, T, locs, k, n, pc, Ls, Or.inr (Or.inr (Or.inr (Or.inl ⟨rfl, t, u, rfl, ht, hu, hnw, rfl, rfl⟩))), X, hk, hn, hQ, hd, fun _ k => k⟩
theorem OwnFin.retVoid (X : Stand p l e R s m args below meth c T locs k n) {pc : Nat} {Ls : Array Slot} (hd : decode c.code pc = .ok (.return_, 1)) (hk : k ≤ K) (hn : n ≤ N) (hQ : Q none T.heap locs) : OwnFin X none Q K N (mkF m pc Ls []) :=
  ⟨.return_, none, _, T, locs, k, n, pc, Ls, Or.inr (Or.inr (Or.inr (Or.inr ⟨rfl, rfl, rfl, rfl⟩))), X, hk, hn, hQ, hd, fun _ k => k⟩
theorem own_met {y : MethodName} {bytes : ByteArray} {maxL : Nat} {rm : Room} {ws : List Jvm.Cond} {as' : Array Value} {Ls : Array Slot} (hpf : plainFor y = true) (hent : ∀ m, entryFrame m as' maxL = mkF m 0 Ls [])
    (H : ∀ p e s m below meth c s₁ (X : Stand p l e rm s m as' below meth c s₁ [] 0 0), p.tables.exec = Jvm.exec → c.code = bytes → c.maxLocals = maxL → s.vm.findClass y.cls = some m.cls → meth.name = y.name → Z.Warmed39 s.vm → s₁.heap = h0 → OwnFin X ret Q rm.cells rm.slots (mkF m 0 Ls [])) :
    MetFree l y (head1 (Jvm.Cond.code y bytes maxL ret :: ws) rm) (fun a U => a = as' ∧ Z.Warmed39 U.vm ∧ U.heap = h0) (fun _ _ _ _ _ => True) (fun _ U o U' => ∃ v L, o = .returned v ∧ Q v U'.heap L ∧ FrameEnd U o U' L rm.cells rm.slots) := by
  refine MetFree.of_bodySF hpf hisR ?_
  intro p e s m args below meth c s₁ Bd hml0 hP hK
  obtain ⟨rfl, hZ, hh⟩ := hP
  have hx := Bd.exec
  have hby := Bd.bytes
  have hown : s.vm.findClass y.cls = some m.cls := findClass_of_methodNamed Bd.named
  have hnm := (name_of_methodNamed Bd.named Bd.method).1
  have X0 : Stand p l e rm s m args below meth c s₁ [] 0 0 := Stand.of_body Bd
  have e0 : s₁.heap = h0 := by rw [← hh, Bd.state]; rfl
  obtain ⟨i, w, v, T2, locs2, k2, n2, pcr, Ls2, h1, X2, h3, h4, h5, h6, h7⟩ := H p e s m below meth c s₁ X0 hx hby hml0 hown hnm hZ e0
  have hret := Bd.returns
  have hv : meth.sig.returnType = none → v = none := by
    intro q
    rw [hret] at q
    rcases h1 with ⟨-, z, hr, -⟩ | ⟨-, t, z, hr, -⟩ | ⟨-, hr, -⟩ | ⟨-, t, u, hr, -⟩ | ⟨-, -, -, hr⟩
    · rw [hr] at q; cases q
    · rw [hr] at q; cases q
    · rw [hr] at q; cases q
    · rw [hr] at q; cases q
    · exact hr
  obtain ⟨fs, hr, hrun, hended, hW, hsame⟩ := X2.leave (v := v) hv
  refine ⟨_, _, ?_, hrun, hended, _, _, rfl, h5, ⟨_, rfl⟩, hW, hsame.mono h3 h4⟩
  rw [hent]
  apply h7
  rcases h1 with ⟨rfl, z, rfl, rfl, rfl⟩ | ⟨rfl, t, z, rfl, ht, rfl, rfl⟩ | ⟨rfl, rfl, z, rfl, rfl⟩ | ⟨rfl, t, u, rfl, ht, hu, hnw, rfl, rfl⟩ | ⟨rfl, rfl, rfl, rfl⟩
  · exact retI X2 hx hret h6 hr
  · exact retN X2 hx hret ht h6 hr
  · exact retOut X2 hx hret rfl (Or.inr (Or.inl ⟨rfl, rfl, z, rfl⟩)) h6 hr
  · exact retOut X2 hx hret hnw (Or.inr (Or.inr (Or.inr (Or.inr ⟨rfl, ht, hu⟩)))) h6 hr
  · exact X2.returnOut hx hret h6 hr
theorem OwnFin.wide {X : Stand p l e R s m args below meth c T locs k n} {K' N' : Nat} (F : OwnFin X ret Q K N g) (h1 : K ≤ K') (h2 : N ≤ N') : OwnFin X ret Q K' N' g := by
  obtain ⟨i, w, v, T2, locs2, k2, n2, pcr, Ls, q1, q2, q3, q4, q5, q6, q7⟩ := F
  exact ⟨i, w, v, T2, locs2, k2, n2, pcr, Ls, q1, q2, Nat.le_trans q3 h1, Nat.le_trans q4 h2, q5, q6, q7⟩
/-- a callee that leaves the heap alone: what it hands back -/
def PQ (w : Option Value) (h0 : Heap) (n0 : Nat) : Option Value → Heap → List Loc → Prop := fun v h L => v = w ∧ h = h0 ∧ Fr n0 L
def LQ (n0 : Nat) : Option Value → Heap → List Loc → Prop := fun v _ L => v = some (.int 1) ∧ Fr n0 L
theorem own_callS (X : Stand p l e R s m args below meth c T locs k n) (hx : p.tables.exec = Jvm.exec) (hZ : Z.Warmed39 s.vm) {own : String} {index : Nat} {y : MethodName} {bytes : ByteArray} {maxL W : Nat} {rt : Option FieldType} {rm : Room} {argsL rest : List Value} {ps : List FieldType} {r : Option FieldType} {Qc : Option Value → Heap → List Loc → Prop}
    (hown : s.vm.findClass own = some m.cls) (w1 : (Jvm.Cond.methodLink own index y).before a0 Z = true) (w2 : (Jvm.Cond.static y).before a0 Z = true) (w3 : (Jvm.Cond.initialized y.cls).before a0 Z = true) (w4 : (Jvm.Cond.code y bytes maxL rt).before a0 Z = true) (hy : y.cls ≠ "java/lang/invoke/MethodHandle" ∧ y.cls ≠ "java/lang/invoke/VarHandle")
    (hM : MetFree l y (head1 [Jvm.Cond.code y bytes maxL rt] rm) (fun a U => a = argsL.toArray ∧ Z.Warmed39 U.vm ∧ U.heap = h) (fun _ _ _ _ _ => True) (fun _ U o U' => ∃ v L, o = .returned v ∧ Qc v U'.heap L ∧ FrameEnd U o U' L rm.cells rm.slots))
    (hf : rm.frames + 1 ≤ R.frames) (hl : W + (maxL + 11) + rm.locals ≤ R.locals) (hc : k + rm.cells ≤ R.cells) (hs : n + rm.slots ≤ R.slots) (eT : T.heap = h)
    (hg : g.method = m) (hsize : g.locals.size = c.maxLocals) (hd : parseMethodDescriptor y.desc = some ⟨ps, r⟩) (hlen : argsL.length = ps.length) (hstack : g.stack = argsL.reverse ++ rest) (hW : 2 * g.monitorRoom + (rest.map fun v => v.category).sum ≤ W) (hdg : decode c.code g.pc = .ok (.invokestatic index, 3)) :
    ∃ v T' L, Stand p l e R s m args below meth c T' (locs ++ L) (k + rm.cells) (n + rm.slots) ∧ Qc v T'.heap L ∧ ∀ t, Steps p.tables e below (T'.setTop { g with pc := g.pc + 3, stack := v.toList ++ rest }) t → Steps p.tables e below (T.setTop g) t := by
  obtain ⟨v, vm1, ⟨T', L', k', n'⟩, -, X', ⟨Lc, hQ, l1, y1, z1⟩, st⟩ := Jvm.LawKit.callS X hx (y := y) hown (mvT hZ w1) (mvT hZ w2) (mvT hZ w3) (mvT hZ w4) hy (backOf (W := W) hM hZ w4 w3 hf hl) hg hsize (argsL := argsL) (rest := rest) (lenOf hd hlen) hstack hW hdg (fun _ _ => ⟨rfl, eT, hc, hs⟩)
  dsimp only [Pt.U, Pt.locs, Pt.cells, Pt.slots] at X' l1 y1 z1 st hQ
  subst l1 y1 z1
  exact ⟨v, T', Lc, X', hQ, st⟩
theorem own_callI (X : Stand p l e R s m args below meth c T locs k n) (hx : p.tables.exec = Jvm.exec) (hZ : Z.Warmed39 s.vm) {own : String} {index : Nat} {y : MethodName} {bytes : ByteArray} {maxL W : Nat} {rm : Room} {a : Addr} {argsL rest : List Value} {ps : List FieldType} {r : Option FieldType} {Qc : Option Value → Heap → List Loc → Prop}
    (hy1 : y.name = "<init>") (hown : s.vm.findClass own = some m.cls) (w1 : (Jvm.Cond.methodLink own index y).before a0 Z = true) (w2 : (Jvm.Cond.instanceMethod y).before a0 Z = true) (w3 : (Jvm.Cond.initialized y.cls).before a0 Z = true) (w4 : (Jvm.Cond.code y bytes maxL none).before a0 Z = true) (hy : y.cls ≠ "java/lang/invoke/MethodHandle" ∧ y.cls ≠ "java/lang/invoke/VarHandle")
    (hM : MetFree l y (head1 [Jvm.Cond.code y bytes maxL none] rm) (fun a' U => a' = (Value.ref a :: argsL).toArray ∧ Z.Warmed39 U.vm ∧ U.heap = h) (fun _ _ _ _ _ => True) (fun _ U o U' => ∃ v L, o = .returned v ∧ Qc v U'.heap L ∧ FrameEnd U o U' L rm.cells rm.slots))
    (hf : rm.frames + 1 ≤ R.frames) (hl : W + (maxL + 11) + rm.locals ≤ R.locals) (hc : k + rm.cells ≤ R.cells) (hs : n + rm.slots ≤ R.slots) (eT : T.heap = h)
    (hg : g.method = m) (hsize : g.locals.size = c.maxLocals) (hd : parseMethodDescriptor y.desc = some ⟨ps, r⟩) (hlen : argsL.length = ps.length) (hstack : g.stack = argsL.reverse ++ .ref a :: rest) (hW : 2 * g.monitorRoom + (rest.map fun v => v.category).sum ≤ W) (hdg : decode c.code g.pc = .ok (.invokespecial index, 3)) :
    ∃ v T' L, Stand p l e R s m args below meth c T' (locs ++ L) (k + rm.cells) (n + rm.slots) ∧ Qc v T'.heap L ∧ ∀ t, Steps p.tables e below (T'.setTop { g with pc := g.pc + 3, stack := v.toList ++ rest }) t → Steps p.tables e below (T.setTop g) t := by
  obtain ⟨v, vm1, ⟨T', L', k', n'⟩, -, X', ⟨Lc, hQ, l1, y1, z1⟩, st⟩ := X.specialBack hx (y := y) hy1 hown (mvT hZ w1) (mvT hZ w2) (mvT hZ w4) hy (backOf (W := W) hM hZ w4 w3 hf hl) hg hsize (Steps.refl _) (a := a) (argsL := argsL) (rest := rest) (lenOf hd hlen) hstack hW hdg (fun _ _ => ⟨rfl, eT, hc, hs⟩)
  dsimp only [Pt.U, Pt.locs, Pt.cells, Pt.slots] at X' l1 y1 z1 st hQ
  subst l1 y1 z1
  exact ⟨v, T', Lc, X', hQ, fun t k => st.trans k⟩
theorem own_callV (X : Stand p l e R s m args below meth c T locs k n) (hx : p.tables.exec = Jvm.exec) (hZ : Z.Warmed39 s.vm) {own C : String} {index : Nat} {y : MethodName} {bytes : ByteArray} {maxL W : Nat} {rt : Option FieldType} {rm : Room} {a : Addr} {argsL rest : List Value} {ps : List FieldType} {r : Option FieldType} {Qc : Option Value → Heap → List Loc → Prop}
    (hown : s.vm.findClass own = some m.cls) (w1 : (Jvm.Cond.methodLink own index y).before a0 Z = true) (w2 : (Jvm.Cond.declares y).before a0 Z = true) (w5 : (Jvm.Cond.selects C y y).before a0 Z = true) (w6 : (Jvm.Cond.instanceMethod y).before a0 Z = true) (w3 : (Jvm.Cond.initialized y.cls).before a0 Z = true) (w4 : (Jvm.Cond.code y bytes maxL rt).before a0 Z = true) (hy : y.cls ≠ "java/lang/invoke/MethodHandle" ∧ y.cls ≠ "java/lang/invoke/VarHandle")
    (E : Exa Z h a C)
    (hM : MetFree l y (head1 [Jvm.Cond.code y bytes maxL rt] rm) (fun a' U => a' = (Value.ref a :: argsL).toArray ∧ Z.Warmed39 U.vm ∧ U.heap = h) (fun _ _ _ _ _ => True) (fun _ U o U' => ∃ v L, o = .returned v ∧ Qc v U'.heap L ∧ FrameEnd U o U' L rm.cells rm.slots))
    (hf : rm.frames + 1 ≤ R.frames) (hl : W + (maxL + 11) + rm.locals ≤ R.locals) (hc : k + rm.cells ≤ R.cells) (hs : n + rm.slots ≤ R.slots) (eT : T.heap = h)
    (hg : g.method = m) (hsize : g.locals.size = c.maxLocals) (hd : parseMethodDescriptor y.desc = some ⟨ps, r⟩) (hlen : argsL.length = ps.length) (hstack : g.stack = argsL.reverse ++ .ref a :: rest) (hW : 2 * g.monitorRoom + (rest.map fun v => v.category).sum ≤ W) (hdg : decode c.code g.pc = .ok (.invokevirtual index, 3)) :
    ∃ v T' L, Stand p l e R s m args below meth c T' (locs ++ L) (k + rm.cells) (n + rm.slots) ∧ Qc v T'.heap L ∧ ∀ t, Steps p.tables e below (T'.setTop { g with pc := g.pc + 3, stack := v.toList ++ rest }) t → Steps p.tables e below (T.setTop g) t := by
  obtain ⟨cq, kq, q1, q2, q3⟩ := isOf hZ eT E
  obtain ⟨v, vm1, ⟨T', L', k', n'⟩, -, X', ⟨Lc, hQ, l1, y1, z1⟩, st⟩ := X.virtualBack hx (y := y) (z := y) hown (mvT hZ w1) (mvT hZ w2) (notFace_of_selects (args := #[]) (mvT hZ w5)) (mvT hZ w5) (mvT hZ w6) hy (backOf (W := W) hM hZ w4 w3 hf hl) q1 q3 hg hsize (Steps.refl _) (argsL := argsL) (rest := rest) (lenOf hd hlen) hstack hW hdg (fun _ _ => ⟨rfl, eT, hc, hs⟩)
  dsimp only [Pt.U, Pt.locs, Pt.cells, Pt.slots] at X' l1 y1 z1 st hQ
  subst l1 y1 z1
  exact ⟨v, T', Lc, X', hQ, fun t k => st.trans k⟩
theorem lrem_eq_mod (x y : Int64) : x - (x / y) * y = x % y := by
  apply Int64.toInt_inj.mp
  have h1 := Int64.le_toInt (x % y)
  have h2 := Int64.toInt_lt (x % y)
  rw [Int64.toInt_sub, Int64.toInt_mul, Int64.toInt_div, Int.bmod_mul_bmod, Int.sub_bmod_bmod, Int.mul_comm (x.toInt.tdiv y.toInt), ← Int.tmod_def, ← Int64.toInt_mod]
  exact Int.bmod_eq_of_le_mul_two (by omega) (by omega)
theorem own_lrem (X : Stand p l e R s m args below meth c T locs k n) (hx : p.tables.exec = Jvm.exec) (hg : g.method = m) {x y : Int64} {rest : List Value} (hd : decode c.code g.pc = .ok (.lrem, 1)) (hs : g.stack = .long y :: .long x :: rest) (hy : y ≠ 0) {target : State}
    (hr : Steps p.tables e below (T.setTop { g with pc := g.pc + 1, stack := .long (x % y) :: rest }) target) : Steps p.tables e below (T.setTop g) target := by
  exact XT.lrem X.here hx hg hd hs hy (by rw [lrem_eq_mod]; exact hr)
theorem cl_lt (x y : Int64) : XT.cmpL x y < 0 ↔ x < y := by
  unfold XT.cmpL
  split
  · rename_i q; simp only [Int64.lt_iff_toInt_lt] at *; constructor <;> intro w <;> first | (exact absurd w (by decide)) | omega
  · split
    · rename_i q r; subst r; constructor <;> intro w
      · exact absurd w (by decide)
      · exact absurd w q
    · rename_i q r; constructor <;> intro w
      · simp only [Int64.lt_iff_toInt_lt, ← Int64.toInt_inj] at *; omega
      · decide
theorem cl_gt (x y : Int64) : 0 < XT.cmpL x y ↔ y < x := by
  unfold XT.cmpL
  split
  · rename_i q; exact ⟨fun _ => q, fun _ => by decide⟩
  · rename_i q
    constructor
    · intro w; split at w <;> exact absurd w (by decide)
    · intro w; exact absurd w q
theorem cl_eq (x y : Int64) : XT.cmpL x y = 0 ↔ x = y := by
  unfold XT.cmpL
  split
  · rename_i q; constructor
    · intro w; exact absurd w (by decide)
    · intro w; subst w; simp only [Int64.lt_iff_toInt_lt] at q; omega
  · split
    · rename_i r; exact ⟨fun _ => r, fun _ => rfl⟩
    · rename_i r; constructor
      · intro w; exact absurd w (by decide)
      · intro w; exact absurd w r
end OwnKit
end Jvm.RoadKit
namespace Jvm.RoadKit
open Sem ClassFile Op Lib Jvm.Stand Jvm.Free Jvm.LawKit
section OwnHeap
variable {p : Program} {l : Launch} {e : Env} {R : Room} {s : State} {m : MethodId} {args : Array Value} {below : List Frame} {meth : Method} {c : Code} {T T' : State} {locs locs' : List Loc} {k n k' n' : Nat} {Z : State} {a0 : Array Value} {h h' h0 : Heap} {g : JFrame} {a b : Addr} {ws ws' : List Addr} {n0 : Nat}
theorem keep_ext (E : Ext h h') : Keep h h' [] := (Keep.refl h []).ext E
theorem nin1 {x y : Addr} (q : x ≠ y) : x ∉ [y] := ninS q nin0
/-- an array: its length and what each place holds -/
def Ary (Z : State) (h : Heap) (a : Addr) (ty : FieldType) (n : Nat) (f : Nat → Value) : Prop := ∃ c : Cell, Arr Z h a c ty ∧ c.slots.size = n ∧ n < 2 ^ 31 ∧ ∀ i, i < n → c.slots[i]? = some (f i)
def updN {α : Type} (f : Nat → α) (j : Nat) (v : α) : Nat → α := fun i => if i = j then v else f i
theorem updN_same {α : Type} (f : Nat → α) (j : Nat) (v : α) : updN f j v j = v := if_pos rfl
theorem updN_ne {α : Type} (f : Nat → α) {i j : Nat} (v : α) (q : i ≠ j) : updN f j v i = f i := if_neg q
def InB (j : Int32) (n : Nat) : Prop := ¬ j < 0 ∧ j.toNatClampNeg < n
instance (j : Int32) (n : Nat) : Decidable (InB j n) := inferInstanceAs (Decidable (¬ j < 0 ∧ j.toNatClampNeg < n))
variable {ty : FieldType} {len : Nat} {f : Nat → Value}
theorem Ary.lt (F : Ary Z h a ty len f) : a < h.size := by obtain ⟨c, A, -⟩ := F; exact A.lt
theorem Ary.keep (F : Ary Z h a ty len f) (K : Keep h h' ws) (q : a ∉ ws) : Ary Z h' a ty len f := by
  obtain ⟨c, A, r⟩ := F; exact ⟨c, ⟨K.2.1 a c A.1 q, A.2⟩, r⟩
theorem Ary.small (F : Ary Z h a ty len f) : len < 2 ^ 31 := by obtain ⟨c, A, r1, r2, -⟩ := F; exact r2
theorem Ary.congr {f' : Nat → Value} (F : Ary Z h a ty len f) (q : ∀ i, i < len → f i = f' i) : Ary Z h a ty len f' := by
  obtain ⟨c, A, r1, r2, r3⟩ := F; exact ⟨c, A, r1, r2, fun i hi => by rw [← q i hi]; exact r3 i hi⟩
theorem Ary.wr {v : Value} {j : Nat} (F : Ary Z h a ty len f) (W : Wr h h' a j v) (hj : j < len) : Ary Z h' a ty len (updN f j v) := by
  obtain ⟨c, A, r1, r2, r3⟩ := F
  refine ⟨_, A.same W, by rw [sz_set]; exact r1, r2, fun i hi => ?_⟩
  by_cases q : i = j
  · subst q; rw [updN_same]; simp [Cell.setSlot, r1, hi]
  · rw [updN_ne _ _ q]; simp only [Cell.setSlot]; rw [Array.getElem?_setIfInBounds_ne (Ne.symm q)]; exact r3 i hi
theorem not_in {j : Int32} {n : Nat} (q : InB j n) {c : Cell} (r : c.slots.size = n) : ¬ (j < 0 ∨ c.slots.size ≤ j.toNatClampNeg) := by
  rw [r]; obtain ⟨q1, q2⟩ := q; intro z; rcases z with z | z
  · exact q1 z
  · omega
theorem own_len (X : Stand p l e R s m args below meth c T locs k n) (hx : p.tables.exec = Jvm.exec) (hZ : Z.Warmed39 s.vm) (eT : T.heap = h) (A : Ary Z h a ty len f) {rest : List Value} (hg : g.method = m) (hs : g.stack = .ref a :: rest) (hd : decode c.code g.pc = .ok (.arraylength, 1)) (t : State)
    (hr : Steps p.tables e below (T.setTop { g with pc := g.pc + 1, stack := .int len.toInt32 :: rest }) t) : Steps p.tables e below (T.setTop g) t := by
  obtain ⟨cl, A1, r1, r2, r3⟩ := A
  refine X.arraylength hx (by rw [eT]; exact A1.1) (State.isArrayOf_alike hZ.alike A1.2.1) hg hs hd t ?_
  rw [r1]; exact hr
theorem own_ldI (X : Stand p l e R s m args below meth c T locs k n) (hx : p.tables.exec = Jvm.exec) (hZ : Z.Warmed39 s.vm) (eT : T.heap = h) (A : Ary Z h a .int len f) {j : Int32} (hj : InB j len) {v : Value} (hv : f j.toNatClampNeg = v) {rest : List Value} (hg : g.method = m) (hs : g.stack = .int j :: .ref a :: rest) (hd : decode c.code g.pc = .ok (.iaload, 1)) (t : State)
    (hr : Steps p.tables e below (T.setTop { g with pc := g.pc + 1, stack := v :: rest }) t) : Steps p.tables e below (T.setTop g) t := by
  obtain ⟨cl, A1, r1, r2, r3⟩ := A
  exact X.iaload hx (by rw [eT]; exact A1.1) (State.isArrayOf_alike hZ.alike A1.2.1) A1.2.2 (not_in hj r1) (by rw [r3 _ hj.2, hv]) hg hs hd t hr
theorem own_ldJ (X : Stand p l e R s m args below meth c T locs k n) (hx : p.tables.exec = Jvm.exec) (hZ : Z.Warmed39 s.vm) (eT : T.heap = h) (A : Ary Z h a .long len f) {j : Int32} (hj : InB j len) {v : Value} (hv : f j.toNatClampNeg = v) {rest : List Value} (hg : g.method = m) (hs : g.stack = .int j :: .ref a :: rest) (hd : decode c.code g.pc = .ok (.laload, 1)) (t : State)
    (hr : Steps p.tables e below (T.setTop { g with pc := g.pc + 1, stack := v :: rest }) t) : Steps p.tables e below (T.setTop g) t := by
  obtain ⟨cl, A1, r1, r2, r3⟩ := A
  exact X.laload hx (by rw [eT]; exact A1.1) (State.isArrayOf_alike hZ.alike A1.2.1) A1.2.2 (not_in hj r1) (by rw [r3 _ hj.2, hv]) hg hs hd t hr
theorem own_ldC (X : Stand p l e R s m args below meth c T locs k n) (hx : p.tables.exec = Jvm.exec) (hZ : Z.Warmed39 s.vm) (eT : T.heap = h) (A : Ary Z h a .char len f) {j : Int32} (hj : InB j len) {v : Value} (hv : f j.toNatClampNeg = v) {rest : List Value} (hg : g.method = m) (hs : g.stack = .int j :: .ref a :: rest) (hd : decode c.code g.pc = .ok (.caload, 1)) (t : State)
    (hr : Steps p.tables e below (T.setTop { g with pc := g.pc + 1, stack := v :: rest }) t) : Steps p.tables e below (T.setTop g) t := by
  obtain ⟨cl, A1, r1, r2, r3⟩ := A
  exact X.caload hx (by rw [eT]; exact A1.1) (State.isArrayOf_alike hZ.alike A1.2.1) A1.2.2 (not_in hj r1) (by rw [r3 _ hj.2, hv]) hg hs hd t hr
theorem own_ldB (X : Stand p l e R s m args below meth c T locs k n) (hx : p.tables.exec = Jvm.exec) (hZ : Z.Warmed39 s.vm) (eT : T.heap = h) (A : Ary Z h a .byte len f) {j : Int32} (hj : InB j len) {v : Value} (hv : f j.toNatClampNeg = v) {rest : List Value} (hg : g.method = m) (hs : g.stack = .int j :: .ref a :: rest) (hd : decode c.code g.pc = .ok (.baload, 1)) (t : State)
    (hr : Steps p.tables e below (T.setTop { g with pc := g.pc + 1, stack := v :: rest }) t) : Steps p.tables e below (T.setTop g) t := by
  obtain ⟨cl, A1, r1, r2, r3⟩ := A
  exact X.baloadBytes hx (by rw [eT]; exact A1.1) (State.isArrayOf_alike hZ.alike A1.2.1) A1.2.2 (not_in hj r1) (by rw [r3 _ hj.2, hv]) hg hs hd t hr
theorem own_ldA (X : Stand p l e R s m args below meth c T locs k n) (hx : p.tables.exec = Jvm.exec) (hZ : Z.Warmed39 s.vm) (eT : T.heap = h) (A : Ary Z h a ty len f) (hty : ty.isReference = true) {j : Int32} (hj : InB j len) {v : Value} (hv : f j.toNatClampNeg = v) {rest : List Value} (hg : g.method = m) (hs : g.stack = .int j :: .ref a :: rest) (hd : decode c.code g.pc = .ok (.aaload, 1)) (t : State)
    (hr : Steps p.tables e below (T.setTop { g with pc := g.pc + 1, stack := v :: rest }) t) : Steps p.tables e below (T.setTop g) t := by
  obtain ⟨cl, A1, r1, r2, r3⟩ := A
  exact X.aaload hx (by rw [eT]; exact A1.1) (State.isArrayOf_alike hZ.alike A1.2.1) hty A1.2.2 (not_in hj r1) (by rw [r3 _ hj.2, hv]) hg hs hd t hr
theorem own_stI (X : Stand p l e R s m args below meth c T locs k n) (hx : p.tables.exec = Jvm.exec) (hZ : Z.Warmed39 s.vm) (eT : T.heap = h) (N : Fr n0 locs) {G : Nat → Int32} (A : Ary Z h a .int len (fun i => .int (G i))) (ga : n0 ≤ a) {j x : Int32} (hj : InB j len) {rest : List Value} (hg : g.method = m) (hs : g.stack = .int x :: .int j :: .ref a :: rest) (hd : decode c.code g.pc = .ok (.iastore, 1)) :
    ∃ (T' : State) (h' : Heap) (locs' : List Loc), Stand p l e R s m args below meth c T' locs' k n ∧ T'.heap = h' ∧ Fr n0 locs' ∧ Keep h h' [a] ∧ Ary Z h' a .int len (fun i => .int (updN G j.toNatClampNeg x i)) ∧ ∀ t, Steps p.tables e below (T'.setTop { g with pc := g.pc + 1, stack := rest }) t → Steps p.tables e below (T.setTop g) t := by
  obtain ⟨cl, A1, r⟩ := A
  obtain ⟨T', h', X', e', W, st⟩ := stI X hx hZ eT A1 (not_in hj r.1) hg hs hd
  exact ⟨T', h', _, X', e', Fr.snoc X' N ga, Keep.of_wr W, (Ary.wr ⟨cl, A1, r⟩ W hj.2).congr (fun i _ => by unfold updN; split <;> rfl), st⟩
theorem own_stJ (X : Stand p l e R s m args below meth c T locs k n) (hx : p.tables.exec = Jvm.exec) (hZ : Z.Warmed39 s.vm) (eT : T.heap = h) (N : Fr n0 locs) {G : Nat → Int64} (A : Ary Z h a .long len (fun i => .long (G i))) (ga : n0 ≤ a) {j : Int32} {x : Int64} (hj : InB j len) {rest : List Value} (hg : g.method = m) (hs : g.stack = .long x :: .int j :: .ref a :: rest) (hd : decode c.code g.pc = .ok (.lastore, 1)) :
    ∃ (T' : State) (h' : Heap) (locs' : List Loc), Stand p l e R s m args below meth c T' locs' k n ∧ T'.heap = h' ∧ Fr n0 locs' ∧ Keep h h' [a] ∧ Ary Z h' a .long len (fun i => .long (updN G j.toNatClampNeg x i)) ∧ ∀ t, Steps p.tables e below (T'.setTop { g with pc := g.pc + 1, stack := rest }) t → Steps p.tables e below (T.setTop g) t := by
  obtain ⟨cl, A1, r⟩ := A
  obtain ⟨T', h', X', e', W, st⟩ := stJ X hx hZ eT A1 (not_in hj r.1) hg hs hd
  exact ⟨T', h', _, X', e', Fr.snoc X' N ga, Keep.of_wr W, (Ary.wr ⟨cl, A1, r⟩ W hj.2).congr (fun i _ => by unfold updN; split <;> rfl), st⟩
theorem own_stC (X : Stand p l e R s m args below meth c T locs k n) (hx : p.tables.exec = Jvm.exec) (hZ : Z.Warmed39 s.vm) (eT : T.heap = h) (N : Fr n0 locs) {G : Nat → Int32} (A : Ary Z h a .char len (fun i => .int (G i))) (ga : n0 ≤ a) {j x : Int32} (hj : InB j len) {rest : List Value} (hg : g.method = m) (hs : g.stack = .int x :: .int j :: .ref a :: rest) (hd : decode c.code g.pc = .ok (.castore, 1)) :
    ∃ (T' : State) (h' : Heap) (locs' : List Loc), Stand p l e R s m args below meth c T' locs' k n ∧ T'.heap = h' ∧ Fr n0 locs' ∧ Keep h h' [a] ∧ Ary Z h' a .char len (fun i => .int (updN G j.toNatClampNeg (nar .char x) i)) ∧ ∀ t, Steps p.tables e below (T'.setTop { g with pc := g.pc + 1, stack := rest }) t → Steps p.tables e below (T.setTop g) t := by
  obtain ⟨cl, A1, r⟩ := A
  obtain ⟨T', h', X', e', W, st⟩ := stC X hx hZ eT A1 (not_in hj r.1) hg hs hd
  exact ⟨T', h', _, X', e', Fr.snoc X' N ga, Keep.of_wr W, (Ary.wr ⟨cl, A1, r⟩ W hj.2).congr (fun i _ => by unfold updN; split <;> rfl), st⟩
theorem own_stB (X : Stand p l e R s m args below meth c T locs k n) (hx : p.tables.exec = Jvm.exec) (hZ : Z.Warmed39 s.vm) (eT : T.heap = h) (N : Fr n0 locs) {G : Nat → Int32} (A : Ary Z h a .byte len (fun i => .int (G i))) (ga : n0 ≤ a) {j x : Int32} (hj : InB j len) {rest : List Value} (hg : g.method = m) (hs : g.stack = .int x :: .int j :: .ref a :: rest) (hd : decode c.code g.pc = .ok (.bastore, 1)) :
    ∃ (T' : State) (h' : Heap) (locs' : List Loc), Stand p l e R s m args below meth c T' locs' k n ∧ T'.heap = h' ∧ Fr n0 locs' ∧ Keep h h' [a] ∧ Ary Z h' a .byte len (fun i => .int (updN G j.toNatClampNeg (nar .byte x) i)) ∧ ∀ t, Steps p.tables e below (T'.setTop { g with pc := g.pc + 1, stack := rest }) t → Steps p.tables e below (T.setTop g) t := by
  obtain ⟨cl, A1, r⟩ := A
  obtain ⟨T', h', X', e', W, st⟩ := stB X hx hZ eT A1 (not_in hj r.1) hg hs hd
  exact ⟨T', h', _, X', e', Fr.snoc X' N ga, Keep.of_wr W, (Ary.wr ⟨cl, A1, r⟩ W hj.2).congr (fun i _ => by unfold updN; split <;> rfl), st⟩
/-- newarray of a length that is not negative and at most cap -/
theorem own_new (X : Stand p l e R s m args below meth c T locs k n) (hx : p.tables.exec = Jvm.exec) (hZ : Z.Warmed39 s.vm) {aty : ArrayType} (w : (Jvm.Cond.arrayClass (newarray.typeOf aty)).before a0 Z = true) (eT : T.heap = h) (hg : g.method = m) (hd : decode c.code g.pc = .ok (.newarray aty, 2)) {z : Int32} {rest : List Value} (hs : g.stack = .int z :: rest)
    (hn : ¬ z < 0) {cap : Nat} (hcap : z.toNatClampNeg ≤ cap) (hb : cap * 8 ≤ 536870912) (hc : k + 1 ≤ R.cells) (hl : n + cap ≤ R.slots) :
    ∃ (T' : State) (h' : Heap) (a : Addr), Stand p l e R s m args below meth c T' locs (k + 1) (n + cap) ∧ T'.heap = h' ∧ a = h.size ∧ Keep h h' [] ∧ Ary Z h' a (newarray.typeOf aty) z.toNatClampNeg (fun _ => defaultValue (newarray.typeOf aty)) ∧
      ∀ t, Steps p.tables e below (T'.setTop { g with pc := g.pc + 2, stack := .ref a :: rest }) t → Steps p.tables e below (T.setTop g) t := by
  obtain ⟨T', h', cA, X', e', E, A, st⟩ := newP X hx hZ w eT hg hd hs hn hcap hb hc hl
  refine ⟨T', h', _, X', e', rfl, keep_ext E, ⟨_, A, sz_new _ _ _, ?_, fun i hi => ?_⟩, st⟩
  · exact (back32 hn).2
  · simp [newA, hi]
/-- an object's field written: the heap, what is kept, the field -/
theorem own_putF (X : Stand p l e R s m args below meth c T locs k n) (hx : p.tables.exec = Jvm.exec) (hZ : Z.Warmed39 s.vm) {own O nm d C : String} {index kk : Nat} {fty : FieldType} (hown : s.vm.findClass own = some m.cls) (w : (Jvm.Cond.fieldLink own index O nm d).before a0 Z = true)
    (eT : T.heap = h) (N : Fr n0 locs) {u v : Value} (F : Fld Z h a O nm d u) (E : Exa Z h a C) (ga : n0 ≤ a) (lw : (Jvm.Cond.lays C O nm d).before a0 Z = true ∨ ((Jvm.Cond.laysFinal C O nm d).before a0 Z = true ∧ own = O ∧ meth.name = "<init>")) (wi : (Jvm.Cond.instantiable C kk).before a0 Z = true)
    (hty : parseFieldDescriptor d = some fty) (hn : narrow fty v = v) (hf : fits fty v = true) {rest : List Value} (hg : g.method = m) (hs : g.stack = v :: .ref a :: rest) (hd : decode c.code g.pc = .ok (.putfield index, 3)) :
    ∃ (T' : State) (h' : Heap) (locs' : List Loc), Stand p l e R s m args below meth c T' locs' k n ∧ T'.heap = h' ∧ Fr n0 locs' ∧ Wr h h' a (slotOf Z O nm d) v ∧ Fld Z h' a O nm d v ∧ ∀ t, Steps p.tables e below (T'.setTop { g with pc := g.pc + 3, stack := rest }) t → Steps p.tables e below (T.setTop g) t := by
  obtain ⟨T', h', X', e', W, st⟩ := putF X hx hZ hown (host := "") (Or.inl w) Via.refl eT F E lw wi (ty := fty) hty hn hf hg hs hd
  exact ⟨T', h', _, X', e', Fr.snoc X' N ga, W, F.same W, st⟩
theorem Exa.neS {C : String} (F : Exa Z h a C) (q : b = h.size) : a ≠ b := by
  have r := Exa.lt F; intro z; rw [z, q] at r; exact Nat.lt_irrefl _ r
theorem Ary.neS (F : Ary Z h a ty len f) (q : b = h.size) : a ≠ b := by
  have r := Ary.lt F; intro z; rw [z, q] at r; exact Nat.lt_irrefl _ r
end OwnHeap
end Jvm.RoadKit
namespace Jvm.RoadKit
open Sem ClassFile Op Lib Jvm.Stand Jvm.Free Jvm.LawKit
section OwnNum
theorem i32lt (x y : Int32) : x < y ↔ x.toInt < y.toInt := Int32.lt_iff_toInt_lt
theorem i32eq (x y : Int32) : x = y ↔ x.toInt = y.toInt := Int32.toInt_inj.symm
theorem i64lt (x y : Int64) : x < y ↔ x.toInt < y.toInt := Int64.lt_iff_toInt_lt
theorem i64eq (x y : Int64) : x = y ↔ x.toInt = y.toInt := Int64.toInt_inj.symm
theorem nar0 : nar .boolean 0 = 0 := by decide
theorem nar1 : nar .boolean 1 = 1 := by decide
theorem narI (P : Prop) [Decidable P] : nar .boolean (if P then 1 else 0) = if P then 1 else 0 := by split <;> decide
theorem ushr_pos {x y : Int32} (hx : 0 ≤ x.toInt) {k : Nat} (hn : (y &&& 31).toUInt32.toNat = k) (hk : k < 32) : (XT.ushr x y).toInt = x.toInt / 2 ^ k :=
  Jvm.Kit.i32_iushr (Jvm.Kit.i32_nonneg.mpr hx) hn hk
theorem ushr_nat (x y : Int32) {k : Nat} (hn : (y &&& 31).toUInt32.toNat = k) (h1 : 0 < k) (hk : k < 32) : (XT.ushr x y).toInt = (x.toBitVec.toNat / 2 ^ k : Nat) := by
  have e1 : (XT.ushr x y).toBitVec.toNat = x.toBitVec.toNat / 2 ^ k := by
    show (x.toUInt32 >>> (y &&& 31).toUInt32).toNat = _
    rw [UInt32.toNat_shiftRight, hn, Nat.mod_eq_of_lt hk, Nat.shiftRight_eq_div_pow]
    rfl
  have e2 := x.toBitVec.isLt
  have e3 : x.toBitVec.toNat / 2 ^ k < 2 ^ 31 := by
    apply Nat.div_lt_of_lt_mul
    calc x.toBitVec.toNat < 2 ^ 32 := e2
      _ ≤ 2 ^ k * 2 ^ 31 := by rw [← Nat.pow_add]; exact Nat.pow_le_pow_right (by omega) (by omega)
  show (XT.ushr x y).toBitVec.toInt = _
  rw [BitVec.toInt_eq_toNat_of_lt (by rw [e1]; omega), e1]
theorem inb_of_toInt {j : Int32} {n : Nat} (h1 : 0 ≤ j.toInt) (h2 : j.toInt < n) : InB j n := by
  refine ⟨?_, ?_⟩
  · rw [i32lt]; show ¬ j.toInt < 0; omega
  · simp only [Int32.toNatClampNeg]; omega
theorem or32_nat (n : Nat) : n ||| 32 = n + (if n % 64 < 32 then 32 else 0) := by
  have h1 : (n ||| 32) % 2 ^ 6 = (n % 2 ^ 6) ||| (32 % 2 ^ 6) := Nat.or_mod_two_pow
  have h2 : (n ||| 32) / 2 ^ 6 = n / 2 ^ 6 := by
    rw [← Nat.shiftRight_eq_div_pow, Nat.shiftRight_or_distrib, ← Nat.shiftRight_eq_div_pow]
    simp
  have h3 : ∀ r : Fin 64, r.val ||| 32 = if r.val < 32 then r.val + 32 else r.val := by decide
  have h4 := h3 ⟨n % 64, Nat.mod_lt _ (by omega)⟩
  simp only at h4
  have h5 : (n % 2 ^ 6) ||| (32 % 2 ^ 6) = (n % 64) ||| 32 := rfl
  rw [h5, h4] at h1
  split at h1 <;> split <;> omega
theorem or32 (c : Int32) : (c ||| 32).toInt = c.toInt + (if c.toInt % 64 < 32 then 32 else 0) := by
  have e1 : (c ||| 32).toBitVec.toNat = c.toBitVec.toNat ||| 32 := by simp [BitVec.toNat_or]
  have e2 : c.toInt = c.toBitVec.toInt := rfl
  have e3 : (c ||| 32).toInt = (c ||| 32).toBitVec.toInt := rfl
  have e4 := c.toBitVec.isLt
  have e5 := (c ||| 32).toBitVec.isLt
  rw [e2, e3, BitVec.toInt_eq_toNat_cond, BitVec.toInt_eq_toNat_cond, e1, or32_nat]
  rw [e1, or32_nat] at e5
  split at e5 <;> split <;> split <;> split <;> omega
theorem i2c_toInt (x : Int32) : (x.toUInt32.toUInt16.toUInt32.toInt32).toInt = x.toInt % 65536 := by
  have e1 : (x.toUInt32.toUInt16.toUInt32.toInt32).toBitVec.toNat = x.toBitVec.toNat % 65536 := by
    show (x.toUInt32.toUInt16.toUInt32).toNat = _
    simp
    rfl
  have e2 := x.toBitVec.isLt
  have e3 : x.toInt = x.toBitVec.toInt := rfl
  have e4 : (x.toUInt32.toUInt16.toUInt32.toInt32).toInt = (x.toUInt32.toUInt16.toUInt32.toInt32).toBitVec.toInt := rfl
  rw [e3, e4, BitVec.toInt_eq_toNat_cond, BitVec.toInt_eq_toNat_cond, e1]
  split <;> split <;> omega
theorem mulbd {a b : Int} (h1 : 0 ≤ a) (h2 : a ≤ 2147483648) (h3 : 0 ≤ b) (h4 : b ≤ 2147483648) : 0 ≤ a * b ∧ a * b ≤ 4611686018427387904 := by
  refine ⟨Int.mul_nonneg h1 h3, ?_⟩
  have h : a * b ≤ 2147483648 * 2147483648 := Int.mul_le_mul h2 h4 h3 (by omega)
  omega
theorem mul64g {x y : Int64} (h1 : 0 ≤ x.toInt) (h2 : x.toInt ≤ 2147483648) (h3 : 0 ≤ y.toInt) (h4 : y.toInt ≤ 2147483648) : (x * y).toInt = x.toInt * y.toInt := by
  obtain ⟨b1, b2⟩ := mulbd h1 h2 h3 h4
  exact Jvm.Kit.i64_mul (by omega) (by omega)
theorem mul64 {x y : Int32} (h1 : 0 ≤ x.toInt) (h3 : 0 ≤ y.toInt) : (x.toInt64 * y.toInt64).toInt = x.toInt * y.toInt := by
  have e1 := Jvm.Kit.i64_of_i32 x
  have e2 := Jvm.Kit.i64_of_i32 y
  have b1 := Int32.toInt_lt x
  have b2 := Int32.toInt_lt y
  rw [mul64g (by omega) (by omega) (by omega) (by omega), e1, e2]
/-- the quotient q of a by b: b * q ≤ a < b * q + b -/
theorem quot {a b : Int} (hb : 0 < b) : b * (a / b) ≤ a ∧ a < b * (a / b) + b := by
  have h1 := Int.emod_def a b
  have h2 := Int.emod_nonneg a (show b ≠ 0 by omega)
  have h3 := Int.emod_lt_of_pos a hb
  omega
theorem div64 {x y : Int64} (h1 : 0 ≤ x.toInt) (h2 : 0 < y.toInt) : (x / y).toInt = x.toInt / y.toInt := by
  rw [Jvm.Kit.i64_div (by omega), Int.tdiv_eq_ediv_of_nonneg h1]
theorem mask31 (x : Int32) : (x &&& 2147483647).toInt = x.toInt % 2147483648 := by
  have := Jvm.Kit.i32_mask x 2147483647 (k := 31) (by decide) (by decide)
  omega
theorem rem32 {x y : Int32} (h : 0 ≤ x.toInt) (h2 : 0 < y.toInt) : 0 ≤ (x % y).toInt ∧ (x % y).toInt < y.toInt := by
  rw [Jvm.Kit.i32_rem_nonneg h]
  exact ⟨Int.emod_nonneg _ (by omega), Int.emod_lt_of_pos _ h2⟩
end OwnNum
end Jvm.RoadKit
namespace Jvm.RoadKit
open Sem ClassFile Op Lib Jvm.Stand Jvm.Free Jvm.LawKit
section OwnBits
theorem byte255 (y : Int32) : (nar .byte (y.toInt8.toInt32) &&& 255).toInt = y.toInt % 256 := by
  have h1 := Jvm.Kit.i32_mask (nar .byte (y.toInt8.toInt32)) 255 (k := 8) (by decide) (by decide)
  have h2 : (nar .byte (y.toInt8.toInt32)).toInt = (y.toInt.bmod 256).bmod 256 := by
    show ((y.toInt8.toInt32).toInt8.toInt32).toInt = _
    rw [Int8.toInt_toInt32, Int32.toInt_toInt8, Int8.toInt_toInt32, Int32.toInt_toInt8]
  rw [h1, h2]
  have h3 : ∀ z : Int, z.bmod 256 % 256 = z % 256 := fun z => Int.bmod_emod
  have h4 : (2 : Int) ^ 8 = 256 := rfl
  rw [h4, h3, h3]
theorem natOfI {x : Int32} (h : 0 ≤ x.toInt) : x.toBitVec.toNat = x.toInt.toNat := by
  have e : x.toInt = x.toBitVec.toInt := rfl
  have e2 := x.toBitVec.isLt
  rw [e, BitVec.toInt_eq_toNat_cond] at h ⊢
  split at h <;> split <;> omega
theorem ofNat31 {x : Int32} {n : Nat} (h : x.toBitVec.toNat = n) (h2 : n < 2 ^ 31) : x.toInt = n := by
  have e : x.toInt = x.toBitVec.toInt := rfl
  rw [e, BitVec.toInt_eq_toNat_of_lt (by rw [h]; omega), h]
theorem or_sum {a b : Int32} {k g : Nat} (ha : 0 ≤ a.toInt) (ha2 : a.toInt < 2 ^ k) (hb : b.toInt = (2 ^ k * g : Nat)) (hs : 2 ^ k * g + a.toInt.toNat < 2 ^ 31) : (a ||| b).toInt = a.toInt + b.toInt ∧ (b ||| a).toInt = a.toInt + b.toInt := by
  have e1 : a.toBitVec.toNat = a.toInt.toNat := natOfI ha
  have e2 : b.toBitVec.toNat = 2 ^ k * g := by rw [natOfI (by omega), hb]; exact Int.toNat_natCast _
  have hlt : a.toInt.toNat < 2 ^ k := by
    have : ((2 ^ k : Nat) : Int) = (2 : Int) ^ k := by simp
    omega
  have e3 := Nat.two_pow_add_eq_or_of_lt hlt g
  constructor
  · have e4 : (a ||| b).toBitVec.toNat = 2 ^ k * g + a.toInt.toNat := by
      show (a.toBitVec ||| b.toBitVec).toNat = _
      rw [BitVec.toNat_or, e1, e2, Nat.or_comm, ← e3]
    rw [ofNat31 e4 hs]; omega
  · have e4 : (b ||| a).toBitVec.toNat = 2 ^ k * g + a.toInt.toNat := by
      show (b.toBitVec ||| a.toBitVec).toNat = _
      rw [BitVec.toNat_or, e1, e2, ← e3]
    rw [ofNat31 e4 hs]; omega
theorem or128 {x : Int32} (h : 0 ≤ x.toInt) (h2 : x.toInt < 128) : (x ||| 128).toInt = x.toInt + 128 ∧ (128 ||| x).toInt = x.toInt + 128 := by
  have a : (128 : Int32).toInt = 128 := rfl
  have := or_sum (a := x) (b := 128) (k := 7) (g := 1) h (by omega) (by rw [a]; rfl) (by omega)
  rw [a] at this; exact this
/-- a group of seven bits laid above what is there -/
theorem acc {a g n : Int32} {k : Nat} (hn : (n.toBitVec.smod 32).toNat = k) (ha : 0 ≤ a.toInt) (ha2 : a.toInt < 2 ^ k) (hg : 0 ≤ g.toInt) (hs : g.toInt * 2 ^ k + a.toInt < 2 ^ 31) : (a ||| (g <<< n)).toInt = a.toInt + g.toInt * 2 ^ k := by
  have p : (0 : Int) < 2 ^ k := Int.pow_pos (by omega)
  have q : 0 ≤ g.toInt * 2 ^ k := Int.mul_nonneg hg (by omega)
  have e1 : (g <<< n).toInt = g.toInt * 2 ^ k := Jvm.Kit.i32_shl g n hn (by omega) (by omega)
  have e2 : (g <<< n).toInt = (2 ^ k * g.toInt.toNat : Nat) := by
    rw [e1, Int.natCast_mul, Int.toNat_of_nonneg hg, Int.mul_comm, Int.natCast_pow]; rfl
  have := (or_sum (a := a) (b := g <<< n) (k := k) (g := g.toInt.toNat) ha ha2 e2 (by have := e1.symm.trans e2; omega)).1
  rw [this, e1]
theorem and_not0 (x : Int64) : x &&& ((0 : Int64) ^^^ (-1)) = x := by
  apply Int64.toBitVec_inj.mp
  apply BitVec.eq_of_getLsbD_eq
  intro i hi
  have : (-1 : Int64).toBitVec = BitVec.allOnes 64 := by decide
  simp [this, hi]
theorem and_not2 (x a b : Int64) : (x &&& (a ^^^ (-1))) &&& (b ^^^ (-1)) = x &&& ((a ||| b) ^^^ (-1)) := by
  apply Int64.toBitVec_inj.mp
  apply BitVec.eq_of_getLsbD_eq
  intro i hi
  have : (-1 : Int64).toBitVec = BitVec.allOnes 64 := by decide
  simp [this, hi]
  exact Bool.and_assoc _ _ _
theorem clamp_eq {a b : Int32} (ha : 0 ≤ a.toInt) (hb : 0 ≤ b.toInt) : a.toNatClampNeg = b.toNatClampNeg ↔ a = b := by
  rw [i32eq]; simp only [Int32.toNatClampNeg]; omega
theorem mask63 (v : Int32) : ((v &&& 63).toInt64 &&& 63) = (v.toInt64 &&& 63) := by
  have h1 := Jvm.Kit.i64_mask (v &&& 63).toInt64 63 (k := 6) (by decide) (by decide)
  have h2 := Jvm.Kit.i64_mask v.toInt64 63 (k := 6) (by decide) (by decide)
  have h3 := Jvm.Kit.i32_mask v 63 (k := 6) (by decide) (by decide)
  rw [Jvm.Kit.i64_of_i32] at h1 h2
  rw [i64eq, h1, h2, h3]; omega
theorem charBack {x : Int32} (h : 0 ≤ x.toInt) (h2 : x.toInt < 65536) : nar .char (x.toUInt32.toUInt16.toUInt32.toInt32) = x := by
  have e1 : (nar .char (x.toUInt32.toUInt16.toUInt32.toInt32)).toInt = (x.toUInt32.toUInt16.toUInt32.toInt32).toInt % 65536 := i2c_toInt _
  rw [i32eq, e1, i2c_toInt]; omega
end OwnBits
end Jvm.RoadKit
namespace Jvm.Pilot.@@N@@
open Jvm Jvm.ClassFile Sem Op Lib Jvm.Free Jvm.Stand Jvm.LawKit Jvm.RoadKit Bundle Jvm.Pilot.@@N@@.Jvm.D
/-! body 2: com/example/stria/stria/container/Container.<init>:()V -/
theorem d2_0 : decode prog_28_method_1_code 0 = .ok (.aload_n 0, 1) := by decide +kernel
theorem d2_1 : decode prog_28_method_1_code 1 = .ok (.invokespecial 5, 3) := by decide +kernel
theorem d2_4 : decode prog_28_method_1_code 4 = .ok (.return_, 1) := by decide +kernel
theorem pn_2 : plainName "com/example/stria/stria/container/Container" = true := by first | (simp [plainName, overriddenIn]; done) | decide +kernel
theorem ef_2 (m : MethodId) (o0 : Addr) : entryFrame m #[(.ref o0)] 1 = mkF m 0 #[.val (.ref o0)] [] := by first | (simp [entryFrame, mkF, argsToLocals, Value.category]; done) | rfl
set_option maxRecDepth 65536 in
set_option maxHeartbeats 40000000 in
theorem j2_0 {p : Program} {l : Launch} {e : Env} {s : State} {m : MethodId} {args : Array Value} {below : List Frame} {meth : Method} {c : Code} {T0 : State} {locs : List Loc} {Z : State} {a0 : Array Value} {h0 : Heap} {n0 : Nat}
    (X0 : Stand p l e ({ frames := 1, cells := 0, slots := 0, locals := 12 } : Room) s m args below meth c T0 locs 0 0) (hx : p.tables.exec = Jvm.exec) (hZ : Z.Warmed39 s.vm) (hw : ∀ d ∈ tables_1, d.before a0 Z = true) (hby : c.code = prog_28_method_1_code) (hml : c.maxLocals = 1) (hown : s.vm.findClass "com/example/stria/stria/container/Container" = some m.cls) (e0 : T0.heap = h0) (N0 : Fr n0 locs) (Z0 : n0 ≤ h0.size) (o0 : Addr) :
    OwnFin X0 none (PQ none h0 n0) 0 0 (mkF m 0 #[.val (.ref o0)] []) := by
  refine OwnFin.step (g' := (mkF m 1 #[.val (.ref o0)] [(.ref o0)])) X0 (fun t k => XS.aloadN X0.here hx rfl (hb hby d2_0) rfl rfl k) ?_
  obtain ⟨T1, X1, e1, st1⟩ := initO X0 hx hZ hown (hw _ (wm 12 rfl)) (hw _ (wm 13 rfl)) (hw _ (wm 14 rfl)) e0 (g := (mkF m 1 #[.val (.ref o0)] [(.ref o0)])) rfl (by rw [hml]; rfl) rfl (hb hby d2_1) (by decide) (W := 0) (by show 2 * 0 + _ ≤ _; exact Nat.le_of_eq rfl) (by decide)
  refine OwnFin.step (g' := (mkF m 4 #[.val (.ref o0)] [])) X1 (fun t k => st1 _ k) ?_
  exact OwnFin.retVoid X1 (hb hby d2_4) (Nat.le_refl _) (Nat.le_refl _) ⟨rfl, e1, N0⟩
set_option maxRecDepth 65536 in
set_option maxHeartbeats 40000000 in
theorem rm2 (l : Launch) (Z : State) (a0 : Array Value) (hw : ∀ d ∈ tables_1, d.before a0 Z = true) (ws : List Jvm.Cond) (o0 : Addr) (h0 : Heap) (n0 : Nat) (Z0 : n0 ≤ h0.size) :
    MetFree l (⟨"com/example/stria/stria/container/Container", "<init>", "()V"⟩ : MethodName) (head1 (Jvm.Cond.code (⟨"com/example/stria/stria/container/Container", "<init>", "()V"⟩ : MethodName) prog_28_method_1_code 1 none :: ws) ({ frames := 1, cells := 0, slots := 0, locals := 12 } : Room)) (fun a U => a = #[(.ref o0)] ∧ Z.Warmed39 U.vm ∧ U.heap = h0) (fun _ _ _ _ _ => True) (fun _ U o U' => ∃ v L, o = .returned v ∧ PQ none h0 n0 v U'.heap L ∧ FrameEnd U o U' L ({ frames := 1, cells := 0, slots := 0, locals := 12 } : Room).cells ({ frames := 1, cells := 0, slots := 0, locals := 12 } : Room).slots) :=
  own_met (ret := none) (plainFor_of_name pn_2) (fun m => ef_2 m o0) (fun p e s m below meth c s₁ X hx hby hml hown hnm hZ e0 => OwnFin.wide (j2_0 X hx hZ hw hby hml hown e0 (Fr.nil n0) Z0 o0) (Nat.zero_le _) (Nat.zero_le _))
theorem d1_0 : decode prog_25_method_1_code 0 = .ok (.aload_n 0, 1) := by decide +kernel
theorem d1_1 : decode prog_25_method_1_code 1 = .ok (.invokespecial 1, 3) := by decide +kernel
theorem d1_4 : decode prog_25_method_1_code 4 = .ok (.aload_n 0, 1) := by decide +kernel
theorem d1_5 : decode prog_25_method_1_code 5 = .ok (.aload_n 1, 1) := by decide +kernel
theorem d1_6 : decode prog_25_method_1_code 6 = .ok (.putfield 7, 3) := by decide +kernel
theorem d1_9 : decode prog_25_method_1_code 9 = .ok (.aload_n 0, 1) := by decide +kernel
theorem d1_10 : decode prog_25_method_1_code 10 = .ok (.iload_n 2, 1) := by decide +kernel
theorem d1_11 : decode prog_25_method_1_code 11 = .ok (.putfield 13, 3) := by decide +kernel
theorem d1_14 : decode prog_25_method_1_code 14 = .ok (.return_, 1) := by decide +kernel
theorem pn_1 : plainName "com/example/stria/stria/container/BitmapContainer" = true := by first | (simp [plainName, overriddenIn]; done) | decide +kernel
theorem ef_1 (m : MethodId) (o0 : Addr) (o1 : Addr) (p2 : Int32) : entryFrame m #[(.ref o0), (.ref o1), (.int p2)] 3 = mkF m 0 #[.val (.ref o0), .val (.ref o1), .val (.int p2)] [] := by first | (simp [entryFrame, mkF, argsToLocals, Value.category]; done) | rfl
theorem pd_0 : parseMethodDescriptor "()V" = some ⟨[], none⟩ := by decide +kernel
def Q1 (Z : State) (o0 : Addr) (o1 : Addr) (p2 : Int32) (h0 : Heap) (n0 : Nat) : Option Value → Heap → List Loc → Prop := fun v h L => v = none ∧ Fr n0 L ∧ Keep h0 h [o0] ∧ Exa Z h o0 "com/example/stria/stria/container/BitmapContainer" ∧ Fld Z h o0 "com/example/stria/stria/container/BitmapContainer" "words" "[J" (.ref o1) ∧ Fld Z h o0 "com/example/stria/stria/container/BitmapContainer" "cardinality" "I" (.int p2)
set_option maxRecDepth 65536 in
set_option maxHeartbeats 40000000 in
theorem j1 {p : Program} {l : Launch} {e : Env} {s : State} {m : MethodId} {args : Array Value} {below : List Frame} {meth : Method} {c : Code} {T0 : State} {locs : List Loc} {Z : State} {a0 : Array Value} {h0 : Heap} {n0 : Nat}
    (X0 : Stand p l e ({ frames := 2, cells := 0, slots := 0, locals := 24 } : Room) s m args below meth c T0 locs 0 0) (hx : p.tables.exec = Jvm.exec) (hZ : Z.Warmed39 s.vm) (hw : ∀ d ∈ tables_1, d.before a0 Z = true) (hby : c.code = prog_25_method_1_code) (hml : c.maxLocals = 3) (hown : s.vm.findClass "com/example/stria/stria/container/BitmapContainer" = some m.cls) (hnm : meth.name = "<init>") (e0 : T0.heap = h0) (N0 : Fr n0 locs) (Z0 : n0 ≤ h0.size) (o0 : Addr) (o1 : Addr) (p2 : Int32) (E_o0 : Exa Z h0 o0 "com/example/stria/stria/container/BitmapContainer") (g_o0 : n0 ≤ o0) (F_words_o0 : Fld Z h0 o0 "com/example/stria/stria/container/BitmapContainer" "words" "[J" .null) (F_cardinality_o0 : Fld Z h0 o0 "com/example/stria/stria/container/BitmapContainer" "cardinality" "I" (.int (0 : Int32))) :
    OwnFin X0 none (Q1 Z o0 o1 p2 h0 n0) ({ frames := 2, cells := 0, slots := 0, locals := 24 } : Room).cells ({ frames := 2, cells := 0, slots := 0, locals := 24 } : Room).slots (mkF m 0 #[.val (.ref o0), .val (.ref o1), .val (.int p2)] []) := by
  refine OwnFin.step (g' := (mkF m 1 #[.val (.ref o0), .val (.ref o1), .val (.int p2)] [(.ref o0)])) X0 (fun t k => XS.aloadN X0.here hx rfl (hb hby d1_0) rfl rfl k) ?_
  obtain ⟨_, T1, L1, X1, ⟨rfl, f1, N1q⟩, st1⟩ := own_callI X0 hx hZ (y := (⟨"com/example/stria/stria/container/Container", "<init>", "()V"⟩ : MethodName)) (W := 0) (a := o0) (argsL := []) (rest := []) rfl hown (hw _ (wm 7 rfl)) (hw _ (wm 8 rfl)) (hw _ (wm 10 rfl)) (hw _ (wm 11 rfl)) (by decide) (rm2 l Z a0 hw [] o0 h0 n0 Z0) (by decide) (by decide) (by decide) (by decide) e0 (g := (mkF m 1 #[.val (.ref o0), .val (.ref o1), .val (.int p2)] [(.ref o0)])) rfl (by rw [hml]; rfl) pd_0 rfl rfl (by show 2 * 0 + _ ≤ _; exact Nat.le_of_eq rfl) (hb hby d1_1)
  have N1 := Fr.app N0 N1q
  refine OwnFin.step (g' := (mkF m 4 #[.val (.ref o0), .val (.ref o1), .val (.int p2)] [])) X1 (fun t k => st1 _ k) ?_
  refine OwnFin.step (g' := (mkF m 5 #[.val (.ref o0), .val (.ref o1), .val (.int p2)] [(.ref o0)])) X1 (fun t k => XS.aloadN X1.here hx rfl (hb hby d1_4) rfl rfl k) ?_
  refine OwnFin.step (g' := (mkF m 6 #[.val (.ref o0), .val (.ref o1), .val (.int p2)] [(.ref o1), (.ref o0)])) X1 (fun t k => XS.aloadN X1.here hx rfl (hb hby d1_5) rfl rfl k) ?_
  obtain ⟨T2, h2, L2, X2, e2, N2, W2, F2, st2⟩ := own_putF X1 hx hZ hown (hw _ (wm 15 rfl)) f1 N1 F_words_o0 E_o0 g_o0 (Or.inr ⟨(hw _ (wm 16 rfl)), rfl, hnm⟩) (hw _ (wm 2 rfl)) (fty := (.array .long)) (by decide) rfl rfl (g := (mkF m 6 #[.val (.ref o0), .val (.ref o1), .val (.int p2)] [(.ref o1), (.ref o0)])) rfl rfl (hb hby d1_6)
  have K2 := Keep.of_wr W2
  have Z2 := Nat.le_trans Z0 K2.1
  have S2 := Nat.le_trans (Nat.le_refl h0.size) K2.1
  have F3 := Fld.other W2 F_cardinality_o0 (Or.inr (slot_ne (Or.inr (hw _ (wm 18 rfl))) (Or.inr (hw _ (wm 16 rfl))) (by decide) (t := .int) (t' := (.array .long)) (by decide) (by decide)))
  have E4 := Exa.wr W2 E_o0
  refine OwnFin.step (g' := (mkF m 9 #[.val (.ref o0), .val (.ref o1), .val (.int p2)] [])) X2 (fun t k => st2 _ k) ?_
  refine OwnFin.step (g' := (mkF m 10 #[.val (.ref o0), .val (.ref o1), .val (.int p2)] [(.ref o0)])) X2 (fun t k => XS.aloadN X2.here hx rfl (hb hby d1_9) rfl rfl k) ?_
  refine OwnFin.step (g' := (mkF m 11 #[.val (.ref o0), .val (.ref o1), .val (.int p2)] [(.int p2), (.ref o0)])) X2 (fun t k => XS.iloadN X2.here hx rfl (hb hby d1_10) rfl k) ?_
  obtain ⟨T5, h5, L5, X5, e5, N5, W5, F5, st5⟩ := own_putF X2 hx hZ hown (hw _ (wm 17 rfl)) e2 N2 F3 E4 g_o0 (Or.inr ⟨(hw _ (wm 18 rfl)), rfl, hnm⟩) (hw _ (wm 2 rfl)) (fty := .int) (by decide) rfl rfl (g := (mkF m 11 #[.val (.ref o0), .val (.ref o1), .val (.int p2)] [(.int p2), (.ref o0)])) rfl rfl (hb hby d1_11)
  have K5 := Keep.of_wr W5
  have Z5 := Nat.le_trans Z2 K5.1
  have S5 := Nat.le_trans S2 K5.1
  have F6 := Fld.other W5 F2 (Or.inr (slot_ne (Or.inr (hw _ (wm 16 rfl))) (Or.inr (hw _ (wm 18 rfl))) (by decide) (t := (.array .long)) (t' := .int) (by decide) (by decide)))
  have E7 := Exa.wr W5 E4
  refine OwnFin.step (g' := (mkF m 14 #[.val (.ref o0), .val (.ref o1), .val (.int p2)] [])) X5 (fun t k => st5 _ k) ?_
  refine OwnFin.retVoid X5 (hb hby d1_14) (by decide) (by decide) ?_
  rw [e5]
  exact ⟨rfl, N5, (Keep.trans (Keep.trans (Keep.refl h0 [o0]) K2 (allS (Or.inl (List.mem_of_getElem? (i := 0) rfl)) all0)) K5 (allS (Or.inl (List.mem_of_getElem? (i := 0) rfl)) all0)), E7, F6, F5⟩
set_option maxRecDepth 65536 in
set_option maxHeartbeats 40000000 in
theorem rm1 (l : Launch) (Z : State) (a0 : Array Value) (hw : ∀ d ∈ tables_1, d.before a0 Z = true) (ws : List Jvm.Cond) (o0 : Addr) (o1 : Addr) (p2 : Int32) (h0 : Heap) (n0 : Nat) (Z0 : n0 ≤ h0.size) (E_o0 : Exa Z h0 o0 "com/example/stria/stria/container/BitmapContainer") (g_o0 : n0 ≤ o0) (F_words_o0 : Fld Z h0 o0 "com/example/stria/stria/container/BitmapContainer" "words" "[J" .null) (F_cardinality_o0 : Fld Z h0 o0 "com/example/stria/stria/container/BitmapContainer" "cardinality" "I" (.int (0 : Int32))) :
    MetFree l (⟨"com/example/stria/stria/container/BitmapContainer", "<init>", "([JI)V"⟩ : MethodName) (head1 (Jvm.Cond.code (⟨"com/example/stria/stria/container/BitmapContainer", "<init>", "([JI)V"⟩ : MethodName) prog_25_method_1_code 3 none :: ws) ({ frames := 2, cells := 0, slots := 0, locals := 24 } : Room)) (fun a U => a = #[(.ref o0), (.ref o1), (.int p2)] ∧ Z.Warmed39 U.vm ∧ U.heap = h0) (fun _ _ _ _ _ => True) (fun _ U o U' => ∃ v L, o = .returned v ∧ (Q1 Z o0 o1 p2 h0 n0) v U'.heap L ∧ FrameEnd U o U' L ({ frames := 2, cells := 0, slots := 0, locals := 24 } : Room).cells ({ frames := 2, cells := 0, slots := 0, locals := 24 } : Room).slots) :=
  own_met (ret := none) (Q := (Q1 Z o0 o1 p2 h0 n0)) (plainFor_of_name pn_1) (fun m => ef_1 m o0 o1 p2) (fun p e s m below meth c s₁ X hx hby hml hown hnm hZ e0 => j1 X hx hZ hw hby hml hown hnm e0 (Fr.nil n0) Z0 o0 o1 p2 E_o0 g_o0 F_words_o0 F_cardinality_o0)
def Lp (Gt Gw : Nat → Int64) (ii : Nat) : Nat → Int64 := fun i => if i < ii then Gt i &&& (Gw i ^^^ (-1 : Int64)) else Gt i
theorem d4_0 : decode prog_25_method_12_code 0 = .ok (.iconst 0, 1) := by decide +kernel
theorem d4_1 : decode prog_25_method_12_code 1 = .ok (.istore_n 2, 1) := by decide +kernel
theorem d4_2 : decode prog_25_method_12_code 2 = .ok (.iload_n 2, 1) := by decide +kernel
theorem d4_3 : decode prog_25_method_12_code 3 = .ok (.sipush 1024, 3) := by decide +kernel
theorem d4_6 : decode prog_25_method_12_code 6 = .ok (.if_icmp .ge 25, 3) := by decide +kernel
theorem d4_9 : decode prog_25_method_12_code 9 = .ok (.aload_n 1, 1) := by decide +kernel
theorem d4_10 : decode prog_25_method_12_code 10 = .ok (.iload_n 2, 1) := by decide +kernel
theorem d4_11 : decode prog_25_method_12_code 11 = .ok (.dup2, 1) := by decide +kernel
theorem d4_12 : decode prog_25_method_12_code 12 = .ok (.laload, 1) := by decide +kernel
theorem d4_13 : decode prog_25_method_12_code 13 = .ok (.aload_n 0, 1) := by decide +kernel
theorem d4_14 : decode prog_25_method_12_code 14 = .ok (.getfield 7, 3) := by decide +kernel
theorem d4_17 : decode prog_25_method_12_code 17 = .ok (.iload_n 2, 1) := by decide +kernel
theorem d4_18 : decode prog_25_method_12_code 18 = .ok (.laload, 1) := by decide +kernel
theorem d4_19 : decode prog_25_method_12_code 19 = .ok (.ldc2_w 38, 3) := by decide +kernel
theorem d4_22 : decode prog_25_method_12_code 22 = .ok (.lxor, 1) := by decide +kernel
theorem d4_23 : decode prog_25_method_12_code 23 = .ok (.land, 1) := by decide +kernel
theorem d4_24 : decode prog_25_method_12_code 24 = .ok (.lastore, 1) := by decide +kernel
theorem d4_25 : decode prog_25_method_12_code 25 = .ok (.iinc 2 1, 3) := by decide +kernel
theorem d4_28 : decode prog_25_method_12_code 28 = .ok (.goto (-26), 3) := by decide +kernel
theorem d4_31 : decode prog_25_method_12_code 31 = .ok (.return_, 1) := by decide +kernel
theorem pn_4 : plainName "com/example/stria/stria/container/BitmapContainer" = true := by first | (simp [plainName, overriddenIn]; done) | decide +kernel
theorem ef_4 (m : MethodId) (o0 : Addr) (o1 : Addr) : entryFrame m #[(.ref o0), (.ref o1)] 3 = mkF m 0 #[.val (.ref o0), .val (.ref o1), .unset] [] := by first | (simp [entryFrame, mkF, argsToLocals, Value.category]; done) | rfl
def Gt4_24 (Gt : Nat → Int64) (Gw : Nat → Int64) (ii : Nat) : Nat → Int64 := (updN (Lp Gt Gw ii) ((Int32.ofNat ii)).toNatClampNeg (((Lp Gt Gw ii) ((Int32.ofNat ii)).toNatClampNeg) &&& ((Gw ((Int32.ofNat ii)).toNatClampNeg) ^^^ (-1 : Int64))))
def vt4_25 (ii : Nat) : Int32 := ((Int32.ofNat ii) + (1 : Int32))
theorem Lp_lt {Gt Gw : Nat → Int64} {ii i : Nat} (h : i < ii) : Lp Gt Gw ii i = Gt i &&& (Gw i ^^^ (-1 : Int64)) := if_pos h
theorem Lp_ge {Gt Gw : Nat → Int64} {ii i : Nat} (h : ¬ i < ii) : Lp Gt Gw ii i = Gt i := if_neg h
theorem own_updS {α : Type} (f : Nat → α) (j : Nat) (v : α) : updN f j v j = v := by unfold updN; exact if_pos rfl
theorem own_updO {α : Type} (f : Nat → α) {i j : Nat} (v : α) (h : ¬ i = j) : updN f j v i = f i := by unfold updN; exact if_neg h
theorem own_int (ii : Nat) (hi : ii < 2147483648) : (Int32.ofNat ii).toInt = (ii : Int) := by
  first | exact Int32.toInt_ofNat_of_lt (by omega) | exact Int32.toInt_ofNat_small (by omega)
theorem own_idx (ii : Nat) (hi : ii < 1024) : (Int32.ofNat ii).toNatClampNeg = ii := by
  have e := own_int ii (by omega)
  simp only [Int32.toNatClampNeg]; omega
theorem own_inc (ii : Nat) (hi : ii < 1024) : vt4_25 ii = Int32.ofNat (ii + 1) := by
  unfold vt4_25
  have e1 := own_int ii (by omega)
  have e2 := own_int (ii + 1) (by omega)
  have c1 : (1 : Int32).toInt = 1 := rfl
  have h : (Int32.ofNat ii + 1).toInt = (Int32.ofNat ii).toInt + (1 : Int32).toInt := Jvm.Kit.i32_add (by omega) (by omega)
  rw [i32eq, h]
  omega
theorem own_lp (Gt Gw : Nat → Int64) (ii : Nat) (hi : ii < 1024) (i : Nat) : Gt4_24 Gt Gw ii i = Lp Gt Gw (ii + 1) i := by
  unfold Gt4_24
  rw [own_idx ii hi]
  by_cases q : i = ii
  · rw [q, own_updS, Lp_ge (Nat.lt_irrefl ii), Lp_lt (Nat.lt_succ_self ii)]
  · rw [own_updO _ _ q]
    by_cases r : i < ii
    · rw [Lp_lt r, Lp_lt (show i < ii + 1 by omega)]
    · rw [Lp_ge r, Lp_ge (show ¬ i < ii + 1 by omega)]
theorem brt4_6 (ii : Nat) (hi : ii < 1024) : (Int32.ofNat ii) < (1024 : Int32) := by
  have e1 := own_int ii (by omega)
  have c1 : (1024 : Int32).toInt = 1024 := rfl
  rw [i32lt, e1, c1]; omega
theorem own_inb (ii : Nat) (hi : ii < 1024) : InB (Int32.ofNat ii) 1024 := by
  have e1 := own_int ii (by omega)
  exact inb_of_toInt (by omega) (by omega)
theorem ibt4_12 (ii : Nat) (hi : ii < 1024) : InB (Int32.ofNat ii) 1024 := own_inb ii hi
theorem ibt4_18 (ii : Nat) (hi : ii < 1024) : InB (Int32.ofNat ii) 1024 := own_inb ii hi
theorem ibt4_24 (ii : Nat) (hi : ii < 1024) : InB (Int32.ofNat ii) 1024 := own_inb ii hi
def Q4 (Z : State) (o0 : Addr) (o1 : Addr) (Gw : Nat → Int64) (Gt : Nat → Int64) (w_words : Addr) (w_cardinality : Int32) (h0 : Heap) (n0 : Nat) : Option Value → Heap → List Loc → Prop := fun v h L => v = none ∧ Fr n0 L ∧ Keep h0 h [o1] ∧ Ary Z h o1 .long 1024 (fun i => .long ((Lp Gt Gw 1024) i))
set_option maxRecDepth 65536 in
set_option maxHeartbeats 40000000 in
theorem j4t {p : Program} {l : Launch} {e : Env} {s : State} {m : MethodId} {args : Array Value} {below : List Frame} {meth : Method} {c : Code} {T0 : State} {locs : List Loc} {Z : State} {a0 : Array Value} {h0 : Heap} {n0 : Nat}
    (X0 : Stand p l e ({ frames := 0, cells := 0, slots := 0, locals := 0 } : Room) s m args below meth c T0 locs 0 0) (hx : p.tables.exec = Jvm.exec) (hZ : Z.Warmed39 s.vm) (hw : ∀ d ∈ tables_1, d.before a0 Z = true) (hby : c.code = prog_25_method_12_code) (hml : c.maxLocals = 3) (hown : s.vm.findClass "com/example/stria/stria/container/BitmapContainer" = some m.cls) (hnm : meth.name = "andNotInto") (e0 : T0.heap = h0) (N0 : Fr n0 locs) (Z0 : n0 ≤ h0.size) (o0 : Addr) (o1 : Addr) (Gw : Nat → Int64) (Gt : Nat → Int64) (hS : Heap) (wc : Int32) (ii : Nat) (ww : Addr) (KS : Keep hS h0 [o1]) (ih : ∀ (T : State) (locs' : List Loc) (h : Heap) (X : Stand p l e ({ frames := 0, cells := 0, slots := 0, locals := 0 } : Room) s m args below meth c T locs' 0 0), T.heap = h → Fr n0 locs' → Keep hS h [o1] → Ary Z h o1 .long 1024 (fun i => .long ((Lp Gt Gw (ii + 1)) i)) → OwnFin X none (Q4 Z o0 o1 Gw Gt ww wc hS n0) ({ frames := 0, cells := 0, slots := 0, locals := 0 } : Room).cells ({ frames := 0, cells := 0, slots := 0, locals := 0 } : Room).slots (mkF m 2 #[.val (.ref o0), .val (.ref o1), .val (.int (Int32.ofNat (ii + 1)))] [])) (E_o0 : Exa Z h0 o0 "com/example/stria/stria/container/BitmapContainer") (F_words_o0 : Fld Z h0 o0 "com/example/stria/stria/container/BitmapContainer" "words" "[J" (.ref ww)) (g_o0 : n0 ≤ o0) (A_ww : Ary Z h0 ww .long 1024 (fun i => .long (Gw i))) (g_ww : n0 ≤ ww) (A_o1 : Ary Z h0 o1 .long 1024 (fun i => .long ((Lp Gt Gw ii) i))) (g_o1 : n0 ≤ o1) (ne_o0_ww : o0 ≠ ww) (ne_o0_o1 : o0 ≠ o1) (ne_ww_o1 : ww ≠ o1) (hi : ii < 1024) :
    OwnFin X0 none (Q4 Z o0 o1 Gw Gt ww wc hS n0) ({ frames := 0, cells := 0, slots := 0, locals := 0 } : Room).cells ({ frames := 0, cells := 0, slots := 0, locals := 0 } : Room).slots (mkF m 2 #[.val (.ref o0), .val (.ref o1), .val (.int (Int32.ofNat ii))] []) := by
  refine OwnFin.step (g' := (mkF m 3 #[.val (.ref o0), .val (.ref o1), .val (.int (Int32.ofNat ii))] [(.int (Int32.ofNat ii))])) X0 (fun t k => XS.iloadN X0.here hx rfl (hb hby d4_2) rfl k) ?_
  refine OwnFin.step (g' := (mkF m 6 #[.val (.ref o0), .val (.ref o1), .val (.int (Int32.ofNat ii))] [(.int (1024 : Int32)), (.int (Int32.ofNat ii))])) X0 (fun t k => XS.sipush X0.here hx rfl (hb hby d4_3) k) ?_
  refine OwnFin.step (g' := (mkF m 9 #[.val (.ref o0), .val (.ref o1), .val (.int (Int32.ofNat ii))] [])) X0 (fun t k => XS.icmpNo X0.here hx rfl (hb hby d4_6) rfl (tlt (brt4_6 ii hi)).2.1 k) ?_
  refine OwnFin.step (g' := (mkF m 10 #[.val (.ref o0), .val (.ref o1), .val (.int (Int32.ofNat ii))] [(.ref o1)])) X0 (fun t k => XS.aloadN X0.here hx rfl (hb hby d4_9) rfl rfl k) ?_
  refine OwnFin.step (g' := (mkF m 11 #[.val (.ref o0), .val (.ref o1), .val (.int (Int32.ofNat ii))] [(.int (Int32.ofNat ii)), (.ref o1)])) X0 (fun t k => XS.iloadN X0.here hx rfl (hb hby d4_10) rfl k) ?_
  refine OwnFin.step (g' := (mkF m 12 #[.val (.ref o0), .val (.ref o1), .val (.int (Int32.ofNat ii))] [(.int (Int32.ofNat ii)), (.ref o1), (.int (Int32.ofNat ii)), (.ref o1)])) X0 (fun t k => XT.dup2 X0.here hx rfl (hb hby d4_11) rfl rfl rfl k) ?_
  refine OwnFin.step (g' := (mkF m 13 #[.val (.ref o0), .val (.ref o1), .val (.int (Int32.ofNat ii))] [(.long ((Lp Gt Gw ii) ((Int32.ofNat ii)).toNatClampNeg)), (.int (Int32.ofNat ii)), (.ref o1)])) X0 (fun t k => own_ldJ X0 hx hZ e0 A_o1 (ibt4_12 ii hi) rfl (g := (mkF m 12 #[.val (.ref o0), .val (.ref o1), .val (.int (Int32.ofNat ii))] [(.int (Int32.ofNat ii)), (.ref o1), (.int (Int32.ofNat ii)), (.ref o1)])) rfl rfl (hb hby d4_12) _ k) ?_
  refine OwnFin.step (g' := (mkF m 14 #[.val (.ref o0), .val (.ref o1), .val (.int (Int32.ofNat ii))] [(.ref o0), (.long ((Lp Gt Gw ii) ((Int32.ofNat ii)).toNatClampNeg)), (.int (Int32.ofNat ii)), (.ref o1)])) X0 (fun t k => XS.aloadN X0.here hx rfl (hb hby d4_13) rfl rfl k) ?_
  obtain ⟨T1001, X1001, e1001, st1001⟩ := getF X0 hx hZ hown (host := "") (Or.inl (hw _ (wm 15 rfl))) Via.refl e0 F_words_o0 (g := (mkF m 14 #[.val (.ref o0), .val (.ref o1), .val (.int (Int32.ofNat ii))] [(.ref o0), (.long ((Lp Gt Gw ii) ((Int32.ofNat ii)).toNatClampNeg)), (.int (Int32.ofNat ii)), (.ref o1)])) rfl rfl (hb hby d4_14)
  refine OwnFin.step (g' := (mkF m 17 #[.val (.ref o0), .val (.ref o1), .val (.int (Int32.ofNat ii))] [(.ref ww), (.long ((Lp Gt Gw ii) ((Int32.ofNat ii)).toNatClampNeg)), (.int (Int32.ofNat ii)), (.ref o1)])) X1001 (fun t k => st1001 _ k) ?_
  refine OwnFin.step (g' := (mkF m 18 #[.val (.ref o0), .val (.ref o1), .val (.int (Int32.ofNat ii))] [(.int (Int32.ofNat ii)), (.ref ww), (.long ((Lp Gt Gw ii) ((Int32.ofNat ii)).toNatClampNeg)), (.int (Int32.ofNat ii)), (.ref o1)])) X1001 (fun t k => XS.iloadN X1001.here hx rfl (hb hby d4_17) rfl k) ?_
  refine OwnFin.step (g' := (mkF m 19 #[.val (.ref o0), .val (.ref o1), .val (.int (Int32.ofNat ii))] [(.long (Gw ((Int32.ofNat ii)).toNatClampNeg)), (.long ((Lp Gt Gw ii) ((Int32.ofNat ii)).toNatClampNeg)), (.int (Int32.ofNat ii)), (.ref o1)])) X1001 (fun t k => own_ldJ X1001 hx hZ e1001 A_ww (ibt4_18 ii hi) rfl (g := (mkF m 18 #[.val (.ref o0), .val (.ref o1), .val (.int (Int32.ofNat ii))] [(.int (Int32.ofNat ii)), (.ref ww), (.long ((Lp Gt Gw ii) ((Int32.ofNat ii)).toNatClampNeg)), (.int (Int32.ofNat ii)), (.ref o1)])) rfl rfl (hb hby d4_18) _ k) ?_
  refine OwnFin.step (g' := (mkF m 22 #[.val (.ref o0), .val (.ref o1), .val (.int (Int32.ofNat ii))] [(.long (-1 : Int64)), (.long (Gw ((Int32.ofNat ii)).toNatClampNeg)), (.long ((Lp Gt Gw ii) ((Int32.ofNat ii)).toNatClampNeg)), (.int (Int32.ofNat ii)), (.ref o1)])) X1001 (fun t k => X1001.ldc2Long hx hown (mvT hZ (hw _ (wm 24 rfl))) (g := (mkF m 19 #[.val (.ref o0), .val (.ref o1), .val (.int (Int32.ofNat ii))] [(.long (Gw ((Int32.ofNat ii)).toNatClampNeg)), (.long ((Lp Gt Gw ii) ((Int32.ofNat ii)).toNatClampNeg)), (.int (Int32.ofNat ii)), (.ref o1)])) rfl (hb hby d4_19) _ k) ?_
  refine OwnFin.step (g' := (mkF m 23 #[.val (.ref o0), .val (.ref o1), .val (.int (Int32.ofNat ii))] [(.long ((Gw ((Int32.ofNat ii)).toNatClampNeg) ^^^ (-1 : Int64))), (.long ((Lp Gt Gw ii) ((Int32.ofNat ii)).toNatClampNeg)), (.int (Int32.ofNat ii)), (.ref o1)])) X1001 (fun t k => XT.lxor X1001.here hx rfl (hb hby d4_22) rfl k) ?_
  refine OwnFin.step (g' := (mkF m 24 #[.val (.ref o0), .val (.ref o1), .val (.int (Int32.ofNat ii))] [(.long (((Lp Gt Gw ii) ((Int32.ofNat ii)).toNatClampNeg) &&& ((Gw ((Int32.ofNat ii)).toNatClampNeg) ^^^ (-1 : Int64)))), (.int (Int32.ofNat ii)), (.ref o1)])) X1001 (fun t k => XT.land X1001.here hx rfl (hb hby d4_23) rfl k) ?_
  obtain ⟨T1002, h1002, L1002, X1002, e1002, N1002, K1002, A1002, st1002⟩ := own_stJ X1001 hx hZ e1001 N0 (G := (Lp Gt Gw ii)) A_o1 g_o1 (j := (Int32.ofNat ii)) (x := (((Lp Gt Gw ii) ((Int32.ofNat ii)).toNatClampNeg) &&& ((Gw ((Int32.ofNat ii)).toNatClampNeg) ^^^ (-1 : Int64)))) (ibt4_24 ii hi) (g := (mkF m 24 #[.val (.ref o0), .val (.ref o1), .val (.int (Int32.ofNat ii))] [(.long (((Lp Gt Gw ii) ((Int32.ofNat ii)).toNatClampNeg) &&& ((Gw ((Int32.ofNat ii)).toNatClampNeg) ^^^ (-1 : Int64)))), (.int (Int32.ofNat ii)), (.ref o1)])) rfl rfl (hb hby d4_24)
  have B1002 : Ary Z h1002 o1 .long 1024 (fun i => .long ((Gt4_24 Gt Gw ii) i)) := A1002
  have Z1002 := Nat.le_trans Z0 K1002.1
  have S1002 := Nat.le_trans (Nat.le_refl h0.size) K1002.1
  refine OwnFin.step (g' := (mkF m 25 #[.val (.ref o0), .val (.ref o1), .val (.int (Int32.ofNat ii))] [])) X1002 (fun t k => st1002 _ k) ?_
  refine OwnFin.step (g' := (mkF m 28 #[.val (.ref o0), .val (.ref o1), .val (.int (vt4_25 ii))] [])) X1002 (fun t k => XS.iinc X1002.here hx rfl (hb hby d4_25) rfl (l' := #[.val (.ref o0), .val (.ref o1), .val (.int (vt4_25 ii))]) rfl k) ?_
  refine OwnFin.step (g' := (mkF m 2 #[.val (.ref o0), .val (.ref o1), .val (.int (vt4_25 ii))] [])) X1002 (fun t k => XS.goto X1002.here hx rfl (pc0 := 28) (pc' := 2) rfl (hb hby d4_28) (by decide) (by decide) k) ?_
  rw [own_inc ii hi]
  exact ih _ _ _ X1002 e1002 N1002 (Keep.trans KS K1002 (allS (Or.inl (List.mem_of_getElem? (i := 0) rfl)) all0)) (B1002.congr (fun i _ => congrArg Value.long (own_lp Gt Gw ii hi i)))
set_option maxRecDepth 65536 in
set_option maxHeartbeats 40000000 in
theorem j4e {p : Program} {l : Launch} {e : Env} {s : State} {m : MethodId} {args : Array Value} {below : List Frame} {meth : Method} {c : Code} {T0 : State} {locs : List Loc} {Z : State} {a0 : Array Value} {h0 : Heap} {n0 : Nat}
    (X0 : Stand p l e ({ frames := 0, cells := 0, slots := 0, locals := 0 } : Room) s m args below meth c T0 locs 0 0) (hx : p.tables.exec = Jvm.exec) (hZ : Z.Warmed39 s.vm) (hw : ∀ d ∈ tables_1, d.before a0 Z = true) (hby : c.code = prog_25_method_12_code) (hml : c.maxLocals = 3) (hown : s.vm.findClass "com/example/stria/stria/container/BitmapContainer" = some m.cls) (hnm : meth.name = "andNotInto") (e0 : T0.heap = h0) (N0 : Fr n0 locs) (Z0 : n0 ≤ h0.size) (o0 : Addr) (o1 : Addr) (Gw : Nat → Int64) (Gt : Nat → Int64) (hS : Heap) (wc : Int32) (ww : Addr) (KS : Keep hS h0 [o1]) (E_o0 : Exa Z h0 o0 "com/example/stria/stria/container/BitmapContainer") (F_words_o0 : Fld Z h0 o0 "com/example/stria/stria/container/BitmapContainer" "words" "[J" (.ref ww)) (g_o0 : n0 ≤ o0) (A_ww : Ary Z h0 ww .long 1024 (fun i => .long (Gw i))) (g_ww : n0 ≤ ww) (A_o1 : Ary Z h0 o1 .long 1024 (fun i => .long ((Lp Gt Gw 1024) i))) (g_o1 : n0 ≤ o1) (ne_o0_ww : o0 ≠ ww) (ne_o0_o1 : o0 ≠ o1) (ne_ww_o1 : ww ≠ o1) :
    OwnFin X0 none (Q4 Z o0 o1 Gw Gt ww wc hS n0) ({ frames := 0, cells := 0, slots := 0, locals := 0 } : Room).cells ({ frames := 0, cells := 0, slots := 0, locals := 0 } : Room).slots (mkF m 2 #[.val (.ref o0), .val (.ref o1), .val (.int (1024 : Int32))] []) := by
  refine OwnFin.step (g' := (mkF m 3 #[.val (.ref o0), .val (.ref o1), .val (.int (1024 : Int32))] [(.int (1024 : Int32))])) X0 (fun t k => XS.iloadN X0.here hx rfl (hb hby d4_2) rfl k) ?_
  refine OwnFin.step (g' := (mkF m 6 #[.val (.ref o0), .val (.ref o1), .val (.int (1024 : Int32))] [(.int (1024 : Int32)), (.int (1024 : Int32))])) X0 (fun t k => XS.sipush X0.here hx rfl (hb hby d4_3) k) ?_
  refine OwnFin.step (g' := (mkF m 31 #[.val (.ref o0), .val (.ref o1), .val (.int (1024 : Int32))] [])) X0 (fun t k => XS.icmpYes X0.here hx rfl (pc0 := 6) (pc' := 31) rfl (hb hby d4_6) rfl (flt (by decide)).2.1 (by decide) (by decide) k) ?_
  refine OwnFin.retVoid X0 (hb hby d4_31) (by decide) (by decide) ?_
  rw [e0]
  exact ⟨rfl, N0, KS, A_o1⟩
set_option maxRecDepth 65536 in
set_option maxHeartbeats 40000000 in
theorem j4l {p : Program} {l : Launch} {e : Env} {s : State} {m : MethodId} {args : Array Value} {below : List Frame} {meth : Method} {c : Code} {Z : State} {a0 : Array Value} {hS : Heap} {n0 : Nat} (hx : p.tables.exec = Jvm.exec) (hZ : Z.Warmed39 s.vm) (hw : ∀ d ∈ tables_1, d.before a0 Z = true) (hby : c.code = prog_25_method_12_code) (hml : c.maxLocals = 3) (hown : s.vm.findClass "com/example/stria/stria/container/BitmapContainer" = some m.cls) (hnm : meth.name = "andNotInto") (Zs : n0 ≤ hS.size) (o0 o1 ww : Addr) (Gw Gt : Nat → Int64) (wc : Int32) (E_o0 : Exa Z hS o0 "com/example/stria/stria/container/BitmapContainer") (F_words_o0 : Fld Z hS o0 "com/example/stria/stria/container/BitmapContainer" "words" "[J" (.ref ww)) (A_ww : Ary Z hS ww .long 1024 (fun i => .long (Gw i))) (g_o0 : n0 ≤ o0) (g_ww : n0 ≤ ww) (g_o1 : n0 ≤ o1) (ne_o0_ww : o0 ≠ ww) (ne_o0_o1 : o0 ≠ o1) (ne_ww_o1 : ww ≠ o1) :
    ∀ (d ii : Nat), ii + d = 1024 → ∀ (T : State) (locs' : List Loc) (h : Heap) (X : Stand p l e ({ frames := 0, cells := 0, slots := 0, locals := 0 } : Room) s m args below meth c T locs' 0 0), T.heap = h → Fr n0 locs' → Keep hS h [o1] → Ary Z h o1 .long 1024 (fun i => .long ((Lp Gt Gw ii) i)) → OwnFin X none (Q4 Z o0 o1 Gw Gt ww wc hS n0) ({ frames := 0, cells := 0, slots := 0, locals := 0 } : Room).cells ({ frames := 0, cells := 0, slots := 0, locals := 0 } : Room).slots (mkF m 2 #[.val (.ref o0), .val (.ref o1), .val (.int (Int32.ofNat ii))] []) := by
  intro d
  induction d with
  | zero =>
    intro ii hd T locs' h X eT NF K A
    obtain rfl : ii = 1024 := by omega
    exact j4e X hx hZ hw hby hml hown hnm eT NF (Nat.le_trans Zs K.1) o0 o1 Gw Gt hS wc ww K (Exa.keep E_o0 K) (F_words_o0.keep K (ninS ne_o0_o1 nin0)) g_o0 (A_ww.keep K (ninS ne_ww_o1 nin0)) g_ww A g_o1 ne_o0_ww ne_o0_o1 ne_ww_o1
  | succ d ih =>
    intro ii hd T locs' h X eT NF K A
    exact j4t X hx hZ hw hby hml hown hnm eT NF (Nat.le_trans Zs K.1) o0 o1 Gw Gt hS wc ii ww K (fun T2 l2 h2 X2 e2 N2 K2 A2 => ih (ii + 1) (by omega) T2 l2 h2 X2 e2 N2 K2 A2) (Exa.keep E_o0 K) (F_words_o0.keep K (ninS ne_o0_o1 nin0)) g_o0 (A_ww.keep K (ninS ne_ww_o1 nin0)) g_ww A g_o1 ne_o0_ww ne_o0_o1 ne_ww_o1 (by omega)
set_option maxRecDepth 65536 in
set_option maxHeartbeats 40000000 in
theorem j4 {p : Program} {l : Launch} {e : Env} {s : State} {m : MethodId} {args : Array Value} {below : List Frame} {meth : Method} {c : Code} {T0 : State} {locs : List Loc} {Z : State} {a0 : Array Value} {h0 : Heap} {n0 : Nat}
    (X0 : Stand p l e ({ frames := 0, cells := 0, slots := 0, locals := 0 } : Room) s m args below meth c T0 locs 0 0) (hx : p.tables.exec = Jvm.exec) (hZ : Z.Warmed39 s.vm) (hw : ∀ d ∈ tables_1, d.before a0 Z = true) (hby : c.code = prog_25_method_12_code) (hml : c.maxLocals = 3) (hown : s.vm.findClass "com/example/stria/stria/container/BitmapContainer" = some m.cls) (hnm : meth.name = "andNotInto") (e0 : T0.heap = h0) (N0 : Fr n0 locs) (Z0 : n0 ≤ h0.size) (o0 : Addr) (o1 : Addr) (Gw : Nat → Int64) (Gt : Nat → Int64) (w_words : Addr) (w_cardinality : Int32) (g_w_words : n0 ≤ w_words) (E_o0 : Exa Z h0 o0 "com/example/stria/stria/container/BitmapContainer") (g_o0 : n0 ≤ o0) (F_words_o0 : Fld Z h0 o0 "com/example/stria/stria/container/BitmapContainer" "words" "[J" (.ref w_words)) (F_cardinality_o0 : Fld Z h0 o0 "com/example/stria/stria/container/BitmapContainer" "cardinality" "I" (.int w_cardinality)) (A_w_words : Ary Z h0 w_words .long 1024 (fun i => .long (Gw i))) (A_o1 : Ary Z h0 o1 .long 1024 (fun i => .long (Gt i))) (g_o1 : n0 ≤ o1) (ne_o0__w_words : o0 ≠ w_words) (ne_o0__o1 : o0 ≠ o1) (ne_w_words__o1 : w_words ≠ o1) :
    OwnFin X0 none (Q4 Z o0 o1 Gw Gt w_words w_cardinality h0 n0) ({ frames := 0, cells := 0, slots := 0, locals := 0 } : Room).cells ({ frames := 0, cells := 0, slots := 0, locals := 0 } : Room).slots (mkF m 0 #[.val (.ref o0), .val (.ref o1), .unset] []) := by
  refine OwnFin.step (g' := (mkF m 1 #[.val (.ref o0), .val (.ref o1), .unset] [(.int (0 : Int32))])) X0 (fun t k => XS.iconst X0.here hx rfl (hb hby d4_0) k) ?_
  refine OwnFin.step (g' := (mkF m 2 #[.val (.ref o0), .val (.ref o1), .val (.int (0 : Int32))] [])) X0 (fun t k => XS.istoreN X0.here hx rfl (hb hby d4_1) rfl (l' := #[.val (.ref o0), .val (.ref o1), .val (.int (0 : Int32))]) rfl k) ?_
  exact j4l hx hZ hw hby hml hown hnm Z0 o0 o1 w_words Gw Gt w_cardinality E_o0 F_words_o0 A_w_words g_o0 g_w_words g_o1 ne_o0__w_words ne_o0__o1 ne_w_words__o1 1024 0 rfl _ _ _ X0 e0 N0 (Keep.refl h0 [o1]) (A_o1.congr (fun i _ => by simp [Lp]))
set_option maxRecDepth 65536 in
set_option maxHeartbeats 40000000 in
theorem rm4 (l : Launch) (Z : State) (a0 : Array Value) (hw : ∀ d ∈ tables_1, d.before a0 Z = true) (ws : List Jvm.Cond) (o0 : Addr) (o1 : Addr) (Gw : Nat → Int64) (Gt : Nat → Int64) (w_words : Addr) (w_cardinality : Int32) (h0 : Heap) (n0 : Nat) (Z0 : n0 ≤ h0.size) (g_w_words : n0 ≤ w_words) (E_o0 : Exa Z h0 o0 "com/example/stria/stria/container/BitmapContainer") (g_o0 : n0 ≤ o0) (F_words_o0 : Fld Z h0 o0 "com/example/stria/stria/container/BitmapContainer" "words" "[J" (.ref w_words)) (F_cardinality_o0 : Fld Z h0 o0 "com/example/stria/stria/container/BitmapContainer" "cardinality" "I" (.int w_cardinality)) (A_w_words : Ary Z h0 w_words .long 1024 (fun i => .long (Gw i))) (A_o1 : Ary Z h0 o1 .long 1024 (fun i => .long (Gt i))) (g_o1 : n0 ≤ o1) (ne_o0__w_words : o0 ≠ w_words) (ne_o0__o1 : o0 ≠ o1) (ne_w_words__o1 : w_words ≠ o1) :
    MetFree l (⟨"com/example/stria/stria/container/BitmapContainer", "andNotInto", "([J)V"⟩ : MethodName) (head1 (Jvm.Cond.code (⟨"com/example/stria/stria/container/BitmapContainer", "andNotInto", "([J)V"⟩ : MethodName) prog_25_method_12_code 3 none :: ws) ({ frames := 0, cells := 0, slots := 0, locals := 0 } : Room)) (fun a U => a = #[(.ref o0), (.ref o1)] ∧ Z.Warmed39 U.vm ∧ U.heap = h0) (fun _ _ _ _ _ => True) (fun _ U o U' => ∃ v L, o = .returned v ∧ (Q4 Z o0 o1 Gw Gt w_words w_cardinality h0 n0) v U'.heap L ∧ FrameEnd U o U' L ({ frames := 0, cells := 0, slots := 0, locals := 0 } : Room).cells ({ frames := 0, cells := 0, slots := 0, locals := 0 } : Room).slots) :=
  own_met (ret := none) (Q := (Q4 Z o0 o1 Gw Gt w_words w_cardinality h0 n0)) (plainFor_of_name pn_4) (fun m => ef_4 m o0 o1) (fun p e s m below meth c s₁ X hx hby hml hown hnm hZ e0 => j4 X hx hZ hw hby hml hown hnm e0 (Fr.nil n0) Z0 o0 o1 Gw Gt w_words w_cardinality g_w_words E_o0 g_o0 F_words_o0 F_cardinality_o0 A_w_words A_o1 g_o1 ne_o0__w_words ne_o0__o1 ne_w_words__o1)
theorem pn_0 : plainName "com/example/stria/stria/container/BitmapContainerAndNotIntoPinLaw" = true := by first | (simp [plainName, overriddenIn]; done) | decide +kernel
theorem ef_0 (m : MethodId) (q0 : Int64) (q1 : Int64) (p2 : Int32) (q3 : Int64) (q4 : Int64) (p5 : Int32) : entryFrame m #[(.long q0), (.long q1), (.int p2), (.long q3), (.long q4), (.int p5)] maxLocals = mkF m 0 #[.val (.long q0), .second, .val (.long q1), .second, .val (.int p2), .val (.long q3), .second, .val (.long q4), .second, .val (.int p5), .unset, .unset, .unset, .unset, .unset, .unset, .unset, .unset, .unset, .unset, .unset, .unset, .unset, .unset, .unset, .unset] [] := by first | (simp [entryFrame, mkF, argsToLocals, Value.category, maxLocals]; done) | rfl
theorem pd_1 : parseMethodDescriptor "([JI)V" = some ⟨[(.array .long), .int], none⟩ := by decide +kernel
theorem pd_2 : parseMethodDescriptor "([J)V" = some ⟨[(.array .long)], none⟩ := by decide +kernel
def v0_20 (p2 : Int32) : Int32 := (p2 &&& (1023 : Int32))
def v0_28 (p5 : Int32) : Int32 := (p5 &&& (1023 : Int32))
def G0_35 (p2 : Int32) (q0 : Int64) : Nat → Int64 := (updN (fun _ => (0 : Int64)) ((v0_20 p2)).toNatClampNeg q0)
def G0_41 (p2 : Int32) (q1 : Int64) : Nat → Int64 := (updN (fun _ => (0 : Int64)) ((v0_20 p2)).toNatClampNeg q1)
def G0_48 (p2 : Int32) (q0 : Int64) (p5 : Int32) (q3 : Int64) : Nat → Int64 := (updN (G0_35 p2 q0) ((v0_28 p5)).toNatClampNeg q3)
def G0_55 (p2 : Int32) (q1 : Int64) (p5 : Int32) (q4 : Int64) : Nat → Int64 := (updN (G0_41 p2 q1) ((v0_28 p5)).toNatClampNeg q4)
def v0_61 (p2 : Int32) (q0 : Int64) (p5 : Int32) (q3 : Int64) : Int64 := ((G0_48 p2 q0 p5 q3) ((v0_20 p2)).toNatClampNeg)
def v0_68 (p2 : Int32) (q1 : Int64) (p5 : Int32) (q4 : Int64) : Int64 := ((G0_55 p2 q1 p5 q4) ((v0_20 p2)).toNatClampNeg)
def v0_75 (p5 : Int32) (p2 : Int32) (q0 : Int64) (q3 : Int64) : Int64 := ((G0_48 p2 q0 p5 q3) ((v0_28 p5)).toNatClampNeg)
def v0_82 (p5 : Int32) (p2 : Int32) (q1 : Int64) (q4 : Int64) : Int64 := ((G0_55 p2 q1 p5 q4) ((v0_28 p5)).toNatClampNeg)
def v0_126 (p2 : Int32) (q1 : Int64) (p5 : Int32) (q4 : Int64) (q0 : Int64) (q3 : Int64) : Int32 := (if ((Lp (G0_55 p2 q1 p5 q4) (G0_48 p2 q0 p5 q3) 1024) ((v0_20 p2)).toNatClampNeg) = ((v0_68 p2 q1 p5 q4) &&& ((v0_61 p2 q0 p5 q3) ^^^ (-1 : Int64))) then (1 : Int32) else (0 : Int32))
def v0_151 (p5 : Int32) (p2 : Int32) (q1 : Int64) (q4 : Int64) (q0 : Int64) (q3 : Int64) : Int32 := (if ((Lp (G0_55 p2 q1 p5 q4) (G0_48 p2 q0 p5 q3) 1024) ((v0_28 p5)).toNatClampNeg) = ((v0_82 p5 p2 q1 q4) &&& ((v0_75 p5 p2 q0 q3) ^^^ (-1 : Int64))) then (1 : Int32) else (0 : Int32))
theorem own_m10 (x : Int32) : InB (x &&& 1023) 1024 := by
  have h := Jvm.Kit.i32_mask x 1023 (k := 10) (by decide) (by decide)
  exact inb_of_toInt (by omega) (by omega)
theorem ib0_35 (p2 : Int32) : InB (v0_20 p2) 1024 := own_m10 p2
theorem ib0_41 (p2 : Int32) : InB (v0_20 p2) 1024 := own_m10 p2
theorem ib0_48 (p5 : Int32) : InB (v0_28 p5) 1024 := own_m10 p5
theorem ib0_55 (p5 : Int32) : InB (v0_28 p5) 1024 := own_m10 p5
theorem ib0_60 (p2 : Int32) : InB (v0_20 p2) 1024 := own_m10 p2
theorem ib0_67 (p2 : Int32) : InB (v0_20 p2) 1024 := own_m10 p2
theorem ib0_74 (p5 : Int32) : InB (v0_28 p5) 1024 := own_m10 p5
theorem ib0_81 (p5 : Int32) : InB (v0_28 p5) 1024 := own_m10 p5
theorem ib0_107 (p2 : Int32) : InB (v0_20 p2) 1024 := own_m10 p2
theorem ib0_132 (p5 : Int32) : InB (v0_28 p5) 1024 := own_m10 p5
theorem ib0_157 (p2 : Int32) : InB (v0_20 p2) 1024 := own_m10 p2
theorem ib0_168 (p5 : Int32) : InB (v0_28 p5) 1024 := own_m10 p5
theorem br0_161 (p2 : Int32) (q0 : Int64) (p5 : Int32) (q3 : Int64) : ((G0_48 p2 q0 p5 q3) ((v0_20 p2)).toNatClampNeg) = (v0_61 p2 q0 p5 q3) := rfl
theorem br0_172 (p5 : Int32) (p2 : Int32) (q0 : Int64) (q3 : Int64) : ((G0_48 p2 q0 p5 q3) ((v0_28 p5)).toNatClampNeg) = (v0_75 p5 p2 q0 q3) := rfl
theorem br0_184 (p2 : Int32) (q1 : Int64) (p5 : Int32) (q4 : Int64) (q0 : Int64) (q3 : Int64) : ¬ ((v0_126 p2 q1 p5 q4 q0 q3) = (0 : Int32)) := by
  have e : (Lp (G0_55 p2 q1 p5 q4) (G0_48 p2 q0 p5 q3) 1024) ((v0_20 p2)).toNatClampNeg = ((v0_68 p2 q1 p5 q4) &&& ((v0_61 p2 q0 p5 q3) ^^^ (-1 : Int64))) := Lp_lt (ib0_35 p2).2
  unfold v0_126; rw [if_pos e]; decide
theorem br0_189 (p5 : Int32) (p2 : Int32) (q1 : Int64) (q4 : Int64) (q0 : Int64) (q3 : Int64) : ¬ ((v0_151 p5 p2 q1 q4 q0 q3) = (0 : Int32)) := by
  have e : (Lp (G0_55 p2 q1 p5 q4) (G0_48 p2 q0 p5 q3) 1024) ((v0_28 p5)).toNatClampNeg = ((v0_82 p5 p2 q1 q4) &&& ((v0_75 p5 p2 q0 q3) ^^^ (-1 : Int64))) := Lp_lt (ib0_48 p5).2
  unfold v0_151; rw [if_pos e]; decide
set_option maxRecDepth 65536 in
set_option maxHeartbeats 40000000 in
theorem j0 {p : Program} {l : Launch} {e : Env} {s : State} {m : MethodId} {args : Array Value} {below : List Frame} {meth : Method} {c : Code} {T0 : State} {locs : List Loc} {Z : State} {a0 : Array Value} {h0 : Heap} {n0 : Nat}
    (X0 : Stand p l e room_1 s m args below meth c T0 locs 0 0) (hx : p.tables.exec = Jvm.exec) (hZ : Z.Warmed39 s.vm) (hw : ∀ d ∈ tables_1, d.before a0 Z = true) (hby : c.code = code) (hml : c.maxLocals = 26) (hown : s.vm.findClass "com/example/stria/stria/container/BitmapContainerAndNotIntoPinLaw" = some m.cls) (hnm : meth.name = "law") (e0 : T0.heap = h0) (N0 : Fr n0 locs) (Z0 : n0 ≤ h0.size) (q0 : Int64) (q1 : Int64) (p2 : Int32) (q3 : Int64) (q4 : Int64) (p5 : Int32) :
    OwnFin X0 (some .boolean) (LQ n0) room_1.cells room_1.slots (mkF m 0 #[.val (.long q0), .second, .val (.long q1), .second, .val (.int p2), .val (.long q3), .second, .val (.long q4), .second, .val (.int p5), .unset, .unset, .unset, .unset, .unset, .unset, .unset, .unset, .unset, .unset, .unset, .unset, .unset, .unset, .unset, .unset] []) := by
  refine OwnFin.step (g' := (mkF m 3 #[.val (.long q0), .second, .val (.long q1), .second, .val (.int p2), .val (.long q3), .second, .val (.long q4), .second, .val (.int p5), .unset, .unset, .unset, .unset, .unset, .unset, .unset, .unset, .unset, .unset, .unset, .unset, .unset, .unset, .unset, .unset] [(.int (1024 : Int32))])) X0 (fun t k => XS.sipush X0.here hx rfl (hb hby at_0) k) ?_
  obtain ⟨T1, h1, b1, X1, e1, y1, K1, A1, st1⟩ := own_new X0 hx hZ (hw _ (wm 0 rfl)) e0 (g := (mkF m 3 #[.val (.long q0), .second, .val (.long q1), .second, .val (.int p2), .val (.long q3), .second, .val (.long q4), .second, .val (.int p5), .unset, .unset, .unset, .unset, .unset, .unset, .unset, .unset, .unset, .unset, .unset, .unset, .unset, .unset, .unset, .unset] [(.int (1024 : Int32))])) rfl (hb hby at_3) rfl (by decide) (cap := 1024) (by decide) (by decide) (by decide) (by decide)
  have B1 : Ary Z h1 b1 .long 1024 (fun i => .long ((fun _ => (0 : Int64)) i)) := A1
  have g_b1 : n0 ≤ b1 := by rw [y1]; exact Z0
  have Z1 := Nat.le_trans Z0 K1.1
  refine OwnFin.step (g' := (mkF m 5 #[.val (.long q0), .second, .val (.long q1), .second, .val (.int p2), .val (.long q3), .second, .val (.long q4), .second, .val (.int p5), .unset, .unset, .unset, .unset, .unset, .unset, .unset, .unset, .unset, .unset, .unset, .unset, .unset, .unset, .unset, .unset] [(.ref b1)])) X1 (fun t k => st1 _ k) ?_
  refine OwnFin.step (g' := (mkF m 7 #[.val (.long q0), .second, .val (.long q1), .second, .val (.int p2), .val (.long q3), .second, .val (.long q4), .second, .val (.int p5), .val (.ref b1), .unset, .unset, .unset, .unset, .unset, .unset, .unset, .unset, .unset, .unset, .unset, .unset, .unset, .unset, .unset] [])) X1 (fun t k => XS.astore X1.here hx rfl (hb hby at_5) rfl rfl (l' := #[.val (.long q0), .second, .val (.long q1), .second, .val (.int p2), .val (.long q3), .second, .val (.long q4), .second, .val (.int p5), .val (.ref b1), .unset, .unset, .unset, .unset, .unset, .unset, .unset, .unset, .unset, .unset, .unset, .unset, .unset, .unset, .unset]) rfl k) ?_
  refine OwnFin.step (g' := (mkF m 10 #[.val (.long q0), .second, .val (.long q1), .second, .val (.int p2), .val (.long q3), .second, .val (.long q4), .second, .val (.int p5), .val (.ref b1), .unset, .unset, .unset, .unset, .unset, .unset, .unset, .unset, .unset, .unset, .unset, .unset, .unset, .unset, .unset] [(.int (1024 : Int32))])) X1 (fun t k => XS.sipush X1.here hx rfl (hb hby at_7) k) ?_
  obtain ⟨T2, h2, b2, X2, e2, y2, K2, A2, st2⟩ := own_new X1 hx hZ (hw _ (wm 0 rfl)) e1 (g := (mkF m 10 #[.val (.long q0), .second, .val (.long q1), .second, .val (.int p2), .val (.long q3), .second, .val (.long q4), .second, .val (.int p5), .val (.ref b1), .unset, .unset, .unset, .unset, .unset, .unset, .unset, .unset, .unset, .unset, .unset, .unset, .unset, .unset, .unset] [(.int (1024 : Int32))])) rfl (hb hby at_10) rfl (by decide) (cap := 1024) (by decide) (by decide) (by decide) (by decide)
  have B2 : Ary Z h2 b2 .long 1024 (fun i => .long ((fun _ => (0 : Int64)) i)) := A2
  have ne_b1_b2 : b1 ≠ b2 := Ary.neS B1 y2
  have g_b2 : n0 ≤ b2 := by rw [y2]; exact Z1
  have Z2 := Nat.le_trans Z1 K2.1
  refine OwnFin.step (g' := (mkF m 12 #[.val (.long q0), .second, .val (.long q1), .second, .val (.int p2), .val (.long q3), .second, .val (.long q4), .second, .val (.int p5), .val (.ref b1), .unset, .unset, .unset, .unset, .unset, .unset, .unset, .unset, .unset, .unset, .unset, .unset, .unset, .unset, .unset] [(.ref b2)])) X2 (fun t k => st2 _ k) ?_
  refine OwnFin.step (g' := (mkF m 14 #[.val (.long q0), .second, .val (.long q1), .second, .val (.int p2), .val (.long q3), .second, .val (.long q4), .second, .val (.int p5), .val (.ref b1), .val (.ref b2), .unset, .unset, .unset, .unset, .unset, .unset, .unset, .unset, .unset, .unset, .unset, .unset, .unset, .unset] [])) X2 (fun t k => XS.astore X2.here hx rfl (hb hby at_12) rfl rfl (l' := #[.val (.long q0), .second, .val (.long q1), .second, .val (.int p2), .val (.long q3), .second, .val (.long q4), .second, .val (.int p5), .val (.ref b1), .val (.ref b2), .unset, .unset, .unset, .unset, .unset, .unset, .unset, .unset, .unset, .unset, .unset, .unset, .unset, .unset]) rfl k) ?_
  refine OwnFin.step (g' := (mkF m 16 #[.val (.long q0), .second, .val (.long q1), .second, .val (.int p2), .val (.long q3), .second, .val (.long q4), .second, .val (.int p5), .val (.ref b1), .val (.ref b2), .unset, .unset, .unset, .unset, .unset, .unset, .unset, .unset, .unset, .unset, .unset, .unset, .unset, .unset] [(.int p2)])) X2 (fun t k => XS.iload X2.here hx rfl (hb hby at_14) rfl k) ?_
  refine OwnFin.step (g' := (mkF m 19 #[.val (.long q0), .second, .val (.long q1), .second, .val (.int p2), .val (.long q3), .second, .val (.long q4), .second, .val (.int p5), .val (.ref b1), .val (.ref b2), .unset, .unset, .unset, .unset, .unset, .unset, .unset, .unset, .unset, .unset, .unset, .unset, .unset, .unset] [(.int (1023 : Int32)), (.int p2)])) X2 (fun t k => XS.sipush X2.here hx rfl (hb hby at_16) k) ?_
  refine OwnFin.step (g' := (mkF m 20 #[.val (.long q0), .second, .val (.long q1), .second, .val (.int p2), .val (.long q3), .second, .val (.long q4), .second, .val (.int p5), .val (.ref b1), .val (.ref b2), .unset, .unset, .unset, .unset, .unset, .unset, .unset, .unset, .unset, .unset, .unset, .unset, .unset, .unset] [(.int (p2 &&& (1023 : Int32)))])) X2 (fun t k => XS.iand X2.here hx rfl (hb hby at_19) rfl k) ?_
  refine OwnFin.step (g' := (mkF m 22 #[.val (.long q0), .second, .val (.long q1), .second, .val (.int p2), .val (.long q3), .second, .val (.long q4), .second, .val (.int p5), .val (.ref b1), .val (.ref b2), .val (.int (v0_20 p2)), .unset, .unset, .unset, .unset, .unset, .unset, .unset, .unset, .unset, .unset, .unset, .unset, .unset] [])) X2 (fun t k => XS.istore X2.here hx rfl (hb hby at_20) rfl (l' := #[.val (.long q0), .second, .val (.long q1), .second, .val (.int p2), .val (.long q3), .second, .val (.long q4), .second, .val (.int p5), .val (.ref b1), .val (.ref b2), .val (.int (v0_20 p2)), .unset, .unset, .unset, .unset, .unset, .unset, .unset, .unset, .unset, .unset, .unset, .unset, .unset]) rfl k) ?_
  refine OwnFin.step (g' := (mkF m 24 #[.val (.long q0), .second, .val (.long q1), .second, .val (.int p2), .val (.long q3), .second, .val (.long q4), .second, .val (.int p5), .val (.ref b1), .val (.ref b2), .val (.int (v0_20 p2)), .unset, .unset, .unset, .unset, .unset, .unset, .unset, .unset, .unset, .unset, .unset, .unset, .unset] [(.int p5)])) X2 (fun t k => XS.iload X2.here hx rfl (hb hby at_22) rfl k) ?_
  refine OwnFin.step (g' := (mkF m 27 #[.val (.long q0), .second, .val (.long q1), .second, .val (.int p2), .val (.long q3), .second, .val (.long q4), .second, .val (.int p5), .val (.ref b1), .val (.ref b2), .val (.int (v0_20 p2)), .unset, .unset, .unset, .unset, .unset, .unset, .unset, .unset, .unset, .unset, .unset, .unset, .unset] [(.int (1023 : Int32)), (.int p5)])) X2 (fun t k => XS.sipush X2.here hx rfl (hb hby at_24) k) ?_
  refine OwnFin.step (g' := (mkF m 28 #[.val (.long q0), .second, .val (.long q1), .second, .val (.int p2), .val (.long q3), .second, .val (.long q4), .second, .val (.int p5), .val (.ref b1), .val (.ref b2), .val (.int (v0_20 p2)), .unset, .unset, .unset, .unset, .unset, .unset, .unset, .unset, .unset, .unset, .unset, .unset, .unset] [(.int (p5 &&& (1023 : Int32)))])) X2 (fun t k => XS.iand X2.here hx rfl (hb hby at_27) rfl k) ?_
  refine OwnFin.step (g' := (mkF m 30 #[.val (.long q0), .second, .val (.long q1), .second, .val (.int p2), .val (.long q3), .second, .val (.long q4), .second, .val (.int p5), .val (.ref b1), .val (.ref b2), .val (.int (v0_20 p2)), .val (.int (v0_28 p5)), .unset, .unset, .unset, .unset, .unset, .unset, .unset, .unset, .unset, .unset, .unset, .unset] [])) X2 (fun t k => XS.istore X2.here hx rfl (hb hby at_28) rfl (l' := #[.val (.long q0), .second, .val (.long q1), .second, .val (.int p2), .val (.long q3), .second, .val (.long q4), .second, .val (.int p5), .val (.ref b1), .val (.ref b2), .val (.int (v0_20 p2)), .val (.int (v0_28 p5)), .unset, .unset, .unset, .unset, .unset, .unset, .unset, .unset, .unset, .unset, .unset, .unset]) rfl k) ?_
  refine OwnFin.step (g' := (mkF m 32 #[.val (.long q0), .second, .val (.long q1), .second, .val (.int p2), .val (.long q3), .second, .val (.long q4), .second, .val (.int p5), .val (.ref b1), .val (.ref b2), .val (.int (v0_20 p2)), .val (.int (v0_28 p5)), .unset, .unset, .unset, .unset, .unset, .unset, .unset, .unset, .unset, .unset, .unset, .unset] [(.ref b1)])) X2 (fun t k => XS.aload X2.here hx rfl (hb hby at_30) rfl rfl k) ?_
  refine OwnFin.step (g' := (mkF m 34 #[.val (.long q0), .second, .val (.long q1), .second, .val (.int p2), .val (.long q3), .second, .val (.long q4), .second, .val (.int p5), .val (.ref b1), .val (.ref b2), .val (.int (v0_20 p2)), .val (.int (v0_28 p5)), .unset, .unset, .unset, .unset, .unset, .unset, .unset, .unset, .unset, .unset, .unset, .unset] [(.int (v0_20 p2)), (.ref b1)])) X2 (fun t k => XS.iload X2.here hx rfl (hb hby at_32) rfl k) ?_
  refine OwnFin.step (g' := (mkF m 35 #[.val (.long q0), .second, .val (.long q1), .second, .val (.int p2), .val (.long q3), .second, .val (.long q4), .second, .val (.int p5), .val (.ref b1), .val (.ref b2), .val (.int (v0_20 p2)), .val (.int (v0_28 p5)), .unset, .unset, .unset, .unset, .unset, .unset, .unset, .unset, .unset, .unset, .unset, .unset] [(.long q0), (.int (v0_20 p2)), (.ref b1)])) X2 (fun t k => XT.lloadN X2.here hx rfl (hb hby at_34) rfl k) ?_
  have A3 := (B1.keep K2 nin0)
  obtain ⟨T4, h4, L4, X4, e4, N4, K4, A4, st4⟩ := own_stJ X2 hx hZ e2 N0 (G := (fun _ => (0 : Int64))) A3 g_b1 (j := (v0_20 p2)) (x := q0) (ib0_35 p2) (g := (mkF m 35 #[.val (.long q0), .second, .val (.long q1), .second, .val (.int p2), .val (.long q3), .second, .val (.long q4), .second, .val (.int p5), .val (.ref b1), .val (.ref b2), .val (.int (v0_20 p2)), .val (.int (v0_28 p5)), .unset, .unset, .unset, .unset, .unset, .unset, .unset, .unset, .unset, .unset, .unset, .unset] [(.long q0), (.int (v0_20 p2)), (.ref b1)])) rfl rfl (hb hby at_35)
  have B4 : Ary Z h4 b1 .long 1024 (fun i => .long ((G0_35 p2 q0) i)) := A4
  have Z4 := Nat.le_trans Z2 K4.1
  refine OwnFin.step (g' := (mkF m 36 #[.val (.long q0), .second, .val (.long q1), .second, .val (.int p2), .val (.long q3), .second, .val (.long q4), .second, .val (.int p5), .val (.ref b1), .val (.ref b2), .val (.int (v0_20 p2)), .val (.int (v0_28 p5)), .unset, .unset, .unset, .unset, .unset, .unset, .unset, .unset, .unset, .unset, .unset, .unset] [])) X4 (fun t k => st4 _ k) ?_
  refine OwnFin.step (g' := (mkF m 38 #[.val (.long q0), .second, .val (.long q1), .second, .val (.int p2), .val (.long q3), .second, .val (.long q4), .second, .val (.int p5), .val (.ref b1), .val (.ref b2), .val (.int (v0_20 p2)), .val (.int (v0_28 p5)), .unset, .unset, .unset, .unset, .unset, .unset, .unset, .unset, .unset, .unset, .unset, .unset] [(.ref b2)])) X4 (fun t k => XS.aload X4.here hx rfl (hb hby at_36) rfl rfl k) ?_
  refine OwnFin.step (g' := (mkF m 40 #[.val (.long q0), .second, .val (.long q1), .second, .val (.int p2), .val (.long q3), .second, .val (.long q4), .second, .val (.int p5), .val (.ref b1), .val (.ref b2), .val (.int (v0_20 p2)), .val (.int (v0_28 p5)), .unset, .unset, .unset, .unset, .unset, .unset, .unset, .unset, .unset, .unset, .unset, .unset] [(.int (v0_20 p2)), (.ref b2)])) X4 (fun t k => XS.iload X4.here hx rfl (hb hby at_38) rfl k) ?_
  refine OwnFin.step (g' := (mkF m 41 #[.val (.long q0), .second, .val (.long q1), .second, .val (.int p2), .val (.long q3), .second, .val (.long q4), .second, .val (.int p5), .val (.ref b1), .val (.ref b2), .val (.int (v0_20 p2)), .val (.int (v0_28 p5)), .unset, .unset, .unset, .unset, .unset, .unset, .unset, .unset, .unset, .unset, .unset, .unset] [(.long q1), (.int (v0_20 p2)), (.ref b2)])) X4 (fun t k => XT.lloadN X4.here hx rfl (hb hby at_40) rfl k) ?_
  have A5 := (B2.keep K4 (ninS (Ne.symm ne_b1_b2) nin0))
  obtain ⟨T6, h6, L6, X6, e6, N6, K6, A6, st6⟩ := own_stJ X4 hx hZ e4 N4 (G := (fun _ => (0 : Int64))) A5 g_b2 (j := (v0_20 p2)) (x := q1) (ib0_41 p2) (g := (mkF m 41 #[.val (.long q0), .second, .val (.long q1), .second, .val (.int p2), .val (.long q3), .second, .val (.long q4), .second, .val (.int p5), .val (.ref b1), .val (.ref b2), .val (.int (v0_20 p2)), .val (.int (v0_28 p5)), .unset, .unset, .unset, .unset, .unset, .unset, .unset, .unset, .unset, .unset, .unset, .unset] [(.long q1), (.int (v0_20 p2)), (.ref b2)])) rfl rfl (hb hby at_41)
  have B6 : Ary Z h6 b2 .long 1024 (fun i => .long ((G0_41 p2 q1) i)) := A6
  have Z6 := Nat.le_trans Z4 K6.1
  refine OwnFin.step (g' := (mkF m 42 #[.val (.long q0), .second, .val (.long q1), .second, .val (.int p2), .val (.long q3), .second, .val (.long q4), .second, .val (.int p5), .val (.ref b1), .val (.ref b2), .val (.int (v0_20 p2)), .val (.int (v0_28 p5)), .unset, .unset, .unset, .unset, .unset, .unset, .unset, .unset, .unset, .unset, .unset, .unset] [])) X6 (fun t k => st6 _ k) ?_
  refine OwnFin.step (g' := (mkF m 44 #[.val (.long q0), .second, .val (.long q1), .second, .val (.int p2), .val (.long q3), .second, .val (.long q4), .second, .val (.int p5), .val (.ref b1), .val (.ref b2), .val (.int (v0_20 p2)), .val (.int (v0_28 p5)), .unset, .unset, .unset, .unset, .unset, .unset, .unset, .unset, .unset, .unset, .unset, .unset] [(.ref b1)])) X6 (fun t k => XS.aload X6.here hx rfl (hb hby at_42) rfl rfl k) ?_
  refine OwnFin.step (g' := (mkF m 46 #[.val (.long q0), .second, .val (.long q1), .second, .val (.int p2), .val (.long q3), .second, .val (.long q4), .second, .val (.int p5), .val (.ref b1), .val (.ref b2), .val (.int (v0_20 p2)), .val (.int (v0_28 p5)), .unset, .unset, .unset, .unset, .unset, .unset, .unset, .unset, .unset, .unset, .unset, .unset] [(.int (v0_28 p5)), (.ref b1)])) X6 (fun t k => XS.iload X6.here hx rfl (hb hby at_44) rfl k) ?_
  refine OwnFin.step (g' := (mkF m 48 #[.val (.long q0), .second, .val (.long q1), .second, .val (.int p2), .val (.long q3), .second, .val (.long q4), .second, .val (.int p5), .val (.ref b1), .val (.ref b2), .val (.int (v0_20 p2)), .val (.int (v0_28 p5)), .unset, .unset, .unset, .unset, .unset, .unset, .unset, .unset, .unset, .unset, .unset, .unset] [(.long q3), (.int (v0_28 p5)), (.ref b1)])) X6 (fun t k => XT.lload X6.here hx rfl (hb hby at_46) rfl k) ?_
  have A7 := (B4.keep K6 (ninS ne_b1_b2 nin0))
  obtain ⟨T8, h8, L8, X8, e8, N8, K8, A8, st8⟩ := own_stJ X6 hx hZ e6 N6 (G := (G0_35 p2 q0)) A7 g_b1 (j := (v0_28 p5)) (x := q3) (ib0_48 p5) (g := (mkF m 48 #[.val (.long q0), .second, .val (.long q1), .second, .val (.int p2), .val (.long q3), .second, .val (.long q4), .second, .val (.int p5), .val (.ref b1), .val (.ref b2), .val (.int (v0_20 p2)), .val (.int (v0_28 p5)), .unset, .unset, .unset, .unset, .unset, .unset, .unset, .unset, .unset, .unset, .unset, .unset] [(.long q3), (.int (v0_28 p5)), (.ref b1)])) rfl rfl (hb hby at_48)
  have B8 : Ary Z h8 b1 .long 1024 (fun i => .long ((G0_48 p2 q0 p5 q3) i)) := A8
  have Z8 := Nat.le_trans Z6 K8.1
  refine OwnFin.step (g' := (mkF m 49 #[.val (.long q0), .second, .val (.long q1), .second, .val (.int p2), .val (.long q3), .second, .val (.long q4), .second, .val (.int p5), .val (.ref b1), .val (.ref b2), .val (.int (v0_20 p2)), .val (.int (v0_28 p5)), .unset, .unset, .unset, .unset, .unset, .unset, .unset, .unset, .unset, .unset, .unset, .unset] [])) X8 (fun t k => st8 _ k) ?_
  refine OwnFin.step (g' := (mkF m 51 #[.val (.long q0), .second, .val (.long q1), .second, .val (.int p2), .val (.long q3), .second, .val (.long q4), .second, .val (.int p5), .val (.ref b1), .val (.ref b2), .val (.int (v0_20 p2)), .val (.int (v0_28 p5)), .unset, .unset, .unset, .unset, .unset, .unset, .unset, .unset, .unset, .unset, .unset, .unset] [(.ref b2)])) X8 (fun t k => XS.aload X8.here hx rfl (hb hby at_49) rfl rfl k) ?_
  refine OwnFin.step (g' := (mkF m 53 #[.val (.long q0), .second, .val (.long q1), .second, .val (.int p2), .val (.long q3), .second, .val (.long q4), .second, .val (.int p5), .val (.ref b1), .val (.ref b2), .val (.int (v0_20 p2)), .val (.int (v0_28 p5)), .unset, .unset, .unset, .unset, .unset, .unset, .unset, .unset, .unset, .unset, .unset, .unset] [(.int (v0_28 p5)), (.ref b2)])) X8 (fun t k => XS.iload X8.here hx rfl (hb hby at_51) rfl k) ?_
  refine OwnFin.step (g' := (mkF m 55 #[.val (.long q0), .second, .val (.long q1), .second, .val (.int p2), .val (.long q3), .second, .val (.long q4), .second, .val (.int p5), .val (.ref b1), .val (.ref b2), .val (.int (v0_20 p2)), .val (.int (v0_28 p5)), .unset, .unset, .unset, .unset, .unset, .unset, .unset, .unset, .unset, .unset, .unset, .unset] [(.long q4), (.int (v0_28 p5)), (.ref b2)])) X8 (fun t k => XT.lload X8.here hx rfl (hb hby at_53) rfl k) ?_
  have A9 := (B6.keep K8 (ninS (Ne.symm ne_b1_b2) nin0))
  obtain ⟨T10, h10, L10, X10, e10, N10, K10, A10, st10⟩ := own_stJ X8 hx hZ e8 N8 (G := (G0_41 p2 q1)) A9 g_b2 (j := (v0_28 p5)) (x := q4) (ib0_55 p5) (g := (mkF m 55 #[.val (.long q0), .second, .val (.long q1), .second, .val (.int p2), .val (.long q3), .second, .val (.long q4), .second, .val (.int p5), .val (.ref b1), .val (.ref b2), .val (.int (v0_20 p2)), .val (.int (v0_28 p5)), .unset, .unset, .unset, .unset, .unset, .unset, .unset, .unset, .unset, .unset, .unset, .unset] [(.long q4), (.int (v0_28 p5)), (.ref b2)])) rfl rfl (hb hby at_55)
  have B10 : Ary Z h10 b2 .long 1024 (fun i => .long ((G0_55 p2 q1 p5 q4) i)) := A10
  have Z10 := Nat.le_trans Z8 K10.1
  refine OwnFin.step (g' := (mkF m 56 #[.val (.long q0), .second, .val (.long q1), .second, .val (.int p2), .val (.long q3), .second, .val (.long q4), .second, .val (.int p5), .val (.ref b1), .val (.ref b2), .val (.int (v0_20 p2)), .val (.int (v0_28 p5)), .unset, .unset, .unset, .unset, .unset, .unset, .unset, .unset, .unset, .unset, .unset, .unset] [])) X10 (fun t k => st10 _ k) ?_
  refine OwnFin.step (g' := (mkF m 58 #[.val (.long q0), .second, .val (.long q1), .second, .val (.int p2), .val (.long q3), .second, .val (.long q4), .second, .val (.int p5), .val (.ref b1), .val (.ref b2), .val (.int (v0_20 p2)), .val (.int (v0_28 p5)), .unset, .unset, .unset, .unset, .unset, .unset, .unset, .unset, .unset, .unset, .unset, .unset] [(.ref b1)])) X10 (fun t k => XS.aload X10.here hx rfl (hb hby at_56) rfl rfl k) ?_
  refine OwnFin.step (g' := (mkF m 60 #[.val (.long q0), .second, .val (.long q1), .second, .val (.int p2), .val (.long q3), .second, .val (.long q4), .second, .val (.int p5), .val (.ref b1), .val (.ref b2), .val (.int (v0_20 p2)), .val (.int (v0_28 p5)), .unset, .unset, .unset, .unset, .unset, .unset, .unset, .unset, .unset, .unset, .unset, .unset] [(.int (v0_20 p2)), (.ref b1)])) X10 (fun t k => XS.iload X10.here hx rfl (hb hby at_58) rfl k) ?_
  have A11 := (B8.keep K10 (ninS ne_b1_b2 nin0))
  refine OwnFin.step (g' := (mkF m 61 #[.val (.long q0), .second, .val (.long q1), .second, .val (.int p2), .val (.long q3), .second, .val (.long q4), .second, .val (.int p5), .val (.ref b1), .val (.ref b2), .val (.int (v0_20 p2)), .val (.int (v0_28 p5)), .unset, .unset, .unset, .unset, .unset, .unset, .unset, .unset, .unset, .unset, .unset, .unset] [(.long ((G0_48 p2 q0 p5 q3) ((v0_20 p2)).toNatClampNeg))])) X10 (fun t k => own_ldJ X10 hx hZ e10 A11 (ib0_60 p2) rfl (g := (mkF m 60 #[.val (.long q0), .second, .val (.long q1), .second, .val (.int p2), .val (.long q3), .second, .val (.long q4), .second, .val (.int p5), .val (.ref b1), .val (.ref b2), .val (.int (v0_20 p2)), .val (.int (v0_28 p5)), .unset, .unset, .unset, .unset, .unset, .unset, .unset, .unset, .unset, .unset, .unset, .unset] [(.int (v0_20 p2)), (.ref b1)])) rfl rfl (hb hby at_60) _ k) ?_
  refine OwnFin.step (g' := (mkF m 63 #[.val (.long q0), .second, .val (.long q1), .second, .val (.int p2), .val (.long q3), .second, .val (.long q4), .second, .val (.int p5), .val (.ref b1), .val (.ref b2), .val (.int (v0_20 p2)), .val (.int (v0_28 p5)), .val (.long (v0_61 p2 q0 p5 q3)), .second, .unset, .unset, .unset, .unset, .unset, .unset, .unset, .unset, .unset, .unset] [])) X10 (fun t k => XT.lstore X10.here hx rfl (hb hby at_61) rfl (l' := #[.val (.long q0), .second, .val (.long q1), .second, .val (.int p2), .val (.long q3), .second, .val (.long q4), .second, .val (.int p5), .val (.ref b1), .val (.ref b2), .val (.int (v0_20 p2)), .val (.int (v0_28 p5)), .val (.long (v0_61 p2 q0 p5 q3)), .second, .unset, .unset, .unset, .unset, .unset, .unset, .unset, .unset, .unset, .unset]) rfl k) ?_
  refine OwnFin.step (g' := (mkF m 65 #[.val (.long q0), .second, .val (.long q1), .second, .val (.int p2), .val (.long q3), .second, .val (.long q4), .second, .val (.int p5), .val (.ref b1), .val (.ref b2), .val (.int (v0_20 p2)), .val (.int (v0_28 p5)), .val (.long (v0_61 p2 q0 p5 q3)), .second, .unset, .unset, .unset, .unset, .unset, .unset, .unset, .unset, .unset, .unset] [(.ref b2)])) X10 (fun t k => XS.aload X10.here hx rfl (hb hby at_63) rfl rfl k) ?_
  refine OwnFin.step (g' := (mkF m 67 #[.val (.long q0), .second, .val (.long q1), .second, .val (.int p2), .val (.long q3), .second, .val (.long q4), .second, .val (.int p5), .val (.ref b1), .val (.ref b2), .val (.int (v0_20 p2)), .val (.int (v0_28 p5)), .val (.long (v0_61 p2 q0 p5 q3)), .second, .unset, .unset, .unset, .unset, .unset, .unset, .unset, .unset, .unset, .unset] [(.int (v0_20 p2)), (.ref b2)])) X10 (fun t k => XS.iload X10.here hx rfl (hb hby at_65) rfl k) ?_
  refine OwnFin.step (g' := (mkF m 68 #[.val (.long q0), .second, .val (.long q1), .second, .val (.int p2), .val (.long q3), .second, .val (.long q4), .second, .val (.int p5), .val (.ref b1), .val (.ref b2), .val (.int (v0_20 p2)), .val (.int (v0_28 p5)), .val (.long (v0_61 p2 q0 p5 q3)), .second, .unset, .unset, .unset, .unset, .unset, .unset, .unset, .unset, .unset, .unset] [(.long ((G0_55 p2 q1 p5 q4) ((v0_20 p2)).toNatClampNeg))])) X10 (fun t k => own_ldJ X10 hx hZ e10 B10 (ib0_67 p2) rfl (g := (mkF m 67 #[.val (.long q0), .second, .val (.long q1), .second, .val (.int p2), .val (.long q3), .second, .val (.long q4), .second, .val (.int p5), .val (.ref b1), .val (.ref b2), .val (.int (v0_20 p2)), .val (.int (v0_28 p5)), .val (.long (v0_61 p2 q0 p5 q3)), .second, .unset, .unset, .unset, .unset, .unset, .unset, .unset, .unset, .unset, .unset] [(.int (v0_20 p2)), (.ref b2)])) rfl rfl (hb hby at_67) _ k) ?_
  refine OwnFin.step (g' := (mkF m 70 #[.val (.long q0), .second, .val (.long q1), .second, .val (.int p2), .val (.long q3), .second, .val (.long q4), .second, .val (.int p5), .val (.ref b1), .val (.ref b2), .val (.int (v0_20 p2)), .val (.int (v0_28 p5)), .val (.long (v0_61 p2 q0 p5 q3)), .second, .val (.long (v0_68 p2 q1 p5 q4)), .second, .unset, .unset, .unset, .unset, .unset, .unset, .unset, .unset] [])) X10 (fun t k => XT.lstore X10.here hx rfl (hb hby at_68) rfl (l' := #[.val (.long q0), .second, .val (.long q1), .second, .val (.int p2), .val (.long q3), .second, .val (.long q4), .second, .val (.int p5), .val (.ref b1), .val (.ref b2), .val (.int (v0_20 p2)), .val (.int (v0_28 p5)), .val (.long (v0_61 p2 q0 p5 q3)), .second, .val (.long (v0_68 p2 q1 p5 q4)), .second, .unset, .unset, .unset, .unset, .unset, .unset, .unset, .unset]) rfl k) ?_
  refine OwnFin.step (g' := (mkF m 72 #[.val (.long q0), .second, .val (.long q1), .second, .val (.int p2), .val (.long q3), .second, .val (.long q4), .second, .val (.int p5), .val (.ref b1), .val (.ref b2), .val (.int (v0_20 p2)), .val (.int (v0_28 p5)), .val (.long (v0_61 p2 q0 p5 q3)), .second, .val (.long (v0_68 p2 q1 p5 q4)), .second, .unset, .unset, .unset, .unset, .unset, .unset, .unset, .unset] [(.ref b1)])) X10 (fun t k => XS.aload X10.here hx rfl (hb hby at_70) rfl rfl k) ?_
  refine OwnFin.step (g' := (mkF m 74 #[.val (.long q0), .second, .val (.long q1), .second, .val (.int p2), .val (.long q3), .second, .val (.long q4), .second, .val (.int p5), .val (.ref b1), .val (.ref b2), .val (.int (v0_20 p2)), .val (.int (v0_28 p5)), .val (.long (v0_61 p2 q0 p5 q3)), .second, .val (.long (v0_68 p2 q1 p5 q4)), .second, .unset, .unset, .unset, .unset, .unset, .unset, .unset, .unset] [(.int (v0_28 p5)), (.ref b1)])) X10 (fun t k => XS.iload X10.here hx rfl (hb hby at_72) rfl k) ?_
  refine OwnFin.step (g' := (mkF m 75 #[.val (.long q0), .second, .val (.long q1), .second, .val (.int p2), .val (.long q3), .second, .val (.long q4), .second, .val (.int p5), .val (.ref b1), .val (.ref b2), .val (.int (v0_20 p2)), .val (.int (v0_28 p5)), .val (.long (v0_61 p2 q0 p5 q3)), .second, .val (.long (v0_68 p2 q1 p5 q4)), .second, .unset, .unset, .unset, .unset, .unset, .unset, .unset, .unset] [(.long ((G0_48 p2 q0 p5 q3) ((v0_28 p5)).toNatClampNeg))])) X10 (fun t k => own_ldJ X10 hx hZ e10 A11 (ib0_74 p5) rfl (g := (mkF m 74 #[.val (.long q0), .second, .val (.long q1), .second, .val (.int p2), .val (.long q3), .second, .val (.long q4), .second, .val (.int p5), .val (.ref b1), .val (.ref b2), .val (.int (v0_20 p2)), .val (.int (v0_28 p5)), .val (.long (v0_61 p2 q0 p5 q3)), .second, .val (.long (v0_68 p2 q1 p5 q4)), .second, .unset, .unset, .unset, .unset, .unset, .unset, .unset, .unset] [(.int (v0_28 p5)), (.ref b1)])) rfl rfl (hb hby at_74) _ k) ?_
  refine OwnFin.step (g' := (mkF m 77 #[.val (.long q0), .second, .val (.long q1), .second, .val (.int p2), .val (.long q3), .second, .val (.long q4), .second, .val (.int p5), .val (.ref b1), .val (.ref b2), .val (.int (v0_20 p2)), .val (.int (v0_28 p5)), .val (.long (v0_61 p2 q0 p5 q3)), .second, .val (.long (v0_68 p2 q1 p5 q4)), .second, .val (.long (v0_75 p5 p2 q0 q3)), .second, .unset, .unset, .unset, .unset, .unset, .unset] [])) X10 (fun t k => XT.lstore X10.here hx rfl (hb hby at_75) rfl (l' := #[.val (.long q0), .second, .val (.long q1), .second, .val (.int p2), .val (.long q3), .second, .val (.long q4), .second, .val (.int p5), .val (.ref b1), .val (.ref b2), .val (.int (v0_20 p2)), .val (.int (v0_28 p5)), .val (.long (v0_61 p2 q0 p5 q3)), .second, .val (.long (v0_68 p2 q1 p5 q4)), .second, .val (.long (v0_75 p5 p2 q0 q3)), .second, .unset, .unset, .unset, .unset, .unset, .unset]) rfl k) ?_
  refine OwnFin.step (g' := (mkF m 79 #[.val (.long q0), .second, .val (.long q1), .second, .val (.int p2), .val (.long q3), .second, .val (.long q4), .second, .val (.int p5), .val (.ref b1), .val (.ref b2), .val (.int (v0_20 p2)), .val (.int (v0_28 p5)), .val (.long (v0_61 p2 q0 p5 q3)), .second, .val (.long (v0_68 p2 q1 p5 q4)), .second, .val (.long (v0_75 p5 p2 q0 q3)), .second, .unset, .unset, .unset, .unset, .unset, .unset] [(.ref b2)])) X10 (fun t k => XS.aload X10.here hx rfl (hb hby at_77) rfl rfl k) ?_
  refine OwnFin.step (g' := (mkF m 81 #[.val (.long q0), .second, .val (.long q1), .second, .val (.int p2), .val (.long q3), .second, .val (.long q4), .second, .val (.int p5), .val (.ref b1), .val (.ref b2), .val (.int (v0_20 p2)), .val (.int (v0_28 p5)), .val (.long (v0_61 p2 q0 p5 q3)), .second, .val (.long (v0_68 p2 q1 p5 q4)), .second, .val (.long (v0_75 p5 p2 q0 q3)), .second, .unset, .unset, .unset, .unset, .unset, .unset] [(.int (v0_28 p5)), (.ref b2)])) X10 (fun t k => XS.iload X10.here hx rfl (hb hby at_79) rfl k) ?_
  refine OwnFin.step (g' := (mkF m 82 #[.val (.long q0), .second, .val (.long q1), .second, .val (.int p2), .val (.long q3), .second, .val (.long q4), .second, .val (.int p5), .val (.ref b1), .val (.ref b2), .val (.int (v0_20 p2)), .val (.int (v0_28 p5)), .val (.long (v0_61 p2 q0 p5 q3)), .second, .val (.long (v0_68 p2 q1 p5 q4)), .second, .val (.long (v0_75 p5 p2 q0 q3)), .second, .unset, .unset, .unset, .unset, .unset, .unset] [(.long ((G0_55 p2 q1 p5 q4) ((v0_28 p5)).toNatClampNeg))])) X10 (fun t k => own_ldJ X10 hx hZ e10 B10 (ib0_81 p5) rfl (g := (mkF m 81 #[.val (.long q0), .second, .val (.long q1), .second, .val (.int p2), .val (.long q3), .second, .val (.long q4), .second, .val (.int p5), .val (.ref b1), .val (.ref b2), .val (.int (v0_20 p2)), .val (.int (v0_28 p5)), .val (.long (v0_61 p2 q0 p5 q3)), .second, .val (.long (v0_68 p2 q1 p5 q4)), .second, .val (.long (v0_75 p5 p2 q0 q3)), .second, .unset, .unset, .unset, .unset, .unset, .unset] [(.int (v0_28 p5)), (.ref b2)])) rfl rfl (hb hby at_81) _ k) ?_
  refine OwnFin.step (g' := (mkF m 84 #[.val (.long q0), .second, .val (.long q1), .second, .val (.int p2), .val (.long q3), .second, .val (.long q4), .second, .val (.int p5), .val (.ref b1), .val (.ref b2), .val (.int (v0_20 p2)), .val (.int (v0_28 p5)), .val (.long (v0_61 p2 q0 p5 q3)), .second, .val (.long (v0_68 p2 q1 p5 q4)), .second, .val (.long (v0_75 p5 p2 q0 q3)), .second, .val (.long (v0_82 p5 p2 q1 q4)), .second, .unset, .unset, .unset, .unset] [])) X10 (fun t k => XT.lstore X10.here hx rfl (hb hby at_82) rfl (l' := #[.val (.long q0), .second, .val (.long q1), .second, .val (.int p2), .val (.long q3), .second, .val (.long q4), .second, .val (.int p5), .val (.ref b1), .val (.ref b2), .val (.int (v0_20 p2)), .val (.int (v0_28 p5)), .val (.long (v0_61 p2 q0 p5 q3)), .second, .val (.long (v0_68 p2 q1 p5 q4)), .second, .val (.long (v0_75 p5 p2 q0 q3)), .second, .val (.long (v0_82 p5 p2 q1 q4)), .second, .unset, .unset, .unset, .unset]) rfl k) ?_
  obtain ⟨T12, h12, X12, e12, E12, A12, D12, -, st12⟩ := newO X10 hx hZ hown (hw _ (wm 1 rfl)) (hw _ (wm 2 rfl)) (hw _ (wm 3 rfl)) e10 (g := (mkF m 84 #[.val (.long q0), .second, .val (.long q1), .second, .val (.int p2), .val (.long q3), .second, .val (.long q4), .second, .val (.int p5), .val (.ref b1), .val (.ref b2), .val (.int (v0_20 p2)), .val (.int (v0_28 p5)), .val (.long (v0_61 p2 q0 p5 q3)), .second, .val (.long (v0_68 p2 q1 p5 q4)), .second, .val (.long (v0_75 p5 p2 q0 q3)), .second, .val (.long (v0_82 p5 p2 q1 q4)), .second, .unset, .unset, .unset, .unset] [])) rfl (hb hby at_84) (by decide) (by decide)
  obtain ⟨b12, y12⟩ : ∃ z, z = h10.size := ⟨_, rfl⟩
  rw [← y12] at A12 D12 st12
  have K12 := keep_ext E12
  have ne_b1_b12 : b1 ≠ b12 := Ary.neS A11 y12
  have ne_b2_b12 : b2 ≠ b12 := Ary.neS B10 y12
  have g_b12 : n0 ≤ b12 := by rw [y12]; exact Z10
  have Z12 := Nat.le_trans Z10 K12.1
  have F12_words : Fld Z h12 b12 "com/example/stria/stria/container/BitmapContainer" "words" "[J" .null := D12 (Or.inr (hw _ (wm 16 rfl))) (ty := (.array .long)) (by decide)
  have F12_cardinality : Fld Z h12 b12 "com/example/stria/stria/container/BitmapContainer" "cardinality" "I" (.int (0 : Int32)) := D12 (Or.inr (hw _ (wm 18 rfl))) (ty := .int) (by decide)
  refine OwnFin.step (g' := (mkF m 87 #[.val (.long q0), .second, .val (.long q1), .second, .val (.int p2), .val (.long q3), .second, .val (.long q4), .second, .val (.int p5), .val (.ref b1), .val (.ref b2), .val (.int (v0_20 p2)), .val (.int (v0_28 p5)), .val (.long (v0_61 p2 q0 p5 q3)), .second, .val (.long (v0_68 p2 q1 p5 q4)), .second, .val (.long (v0_75 p5 p2 q0 q3)), .second, .val (.long (v0_82 p5 p2 q1 q4)), .second, .unset, .unset, .unset, .unset] [(.ref b12)])) X12 (fun t k => st12 _ k) ?_
  refine OwnFin.step (g' := (mkF m 88 #[.val (.long q0), .second, .val (.long q1), .second, .val (.int p2), .val (.long q3), .second, .val (.long q4), .second, .val (.int p5), .val (.ref b1), .val (.ref b2), .val (.int (v0_20 p2)), .val (.int (v0_28 p5)), .val (.long (v0_61 p2 q0 p5 q3)), .second, .val (.long (v0_68 p2 q1 p5 q4)), .second, .val (.long (v0_75 p5 p2 q0 q3)), .second, .val (.long (v0_82 p5 p2 q1 q4)), .second, .unset, .unset, .unset, .unset] [(.ref b12), (.ref b12)])) X12 (fun t k => XS.dup X12.here hx rfl (hb hby at_87) rfl rfl k) ?_
  refine OwnFin.step (g' := (mkF m 90 #[.val (.long q0), .second, .val (.long q1), .second, .val (.int p2), .val (.long q3), .second, .val (.long q4), .second, .val (.int p5), .val (.ref b1), .val (.ref b2), .val (.int (v0_20 p2)), .val (.int (v0_28 p5)), .val (.long (v0_61 p2 q0 p5 q3)), .second, .val (.long (v0_68 p2 q1 p5 q4)), .second, .val (.long (v0_75 p5 p2 q0 q3)), .second, .val (.long (v0_82 p5 p2 q1 q4)), .second, .unset, .unset, .unset, .unset] [(.ref b1), (.ref b12), (.ref b12)])) X12 (fun t k => XS.aload X12.here hx rfl (hb hby at_88) rfl rfl k) ?_
  refine OwnFin.step (g' := (mkF m 91 #[.val (.long q0), .second, .val (.long q1), .second, .val (.int p2), .val (.long q3), .second, .val (.long q4), .second, .val (.int p5), .val (.ref b1), .val (.ref b2), .val (.int (v0_20 p2)), .val (.int (v0_28 p5)), .val (.long (v0_61 p2 q0 p5 q3)), .second, .val (.long (v0_68 p2 q1 p5 q4)), .second, .val (.long (v0_75 p5 p2 q0 q3)), .second, .val (.long (v0_82 p5 p2 q1 q4)), .second, .unset, .unset, .unset, .unset] [(.int (1 : Int32)), (.ref b1), (.ref b12), (.ref b12)])) X12 (fun t k => XS.iconst X12.here hx rfl (hb hby at_90) k) ?_
  obtain ⟨_, T13, L13, X13, ⟨rfl, N13q, u14, u15, u16, u17⟩, st13⟩ := own_callI X12 hx hZ (y := (⟨"com/example/stria/stria/container/BitmapContainer", "<init>", "([JI)V"⟩ : MethodName)) (W := 1) (a := b12) (argsL := [(.ref b1), (.int (1 : Int32))]) (rest := [(.ref b12)]) rfl hown (hw _ (wm 4 rfl)) (hw _ (wm 5 rfl)) (hw _ (wm 3 rfl)) (hw _ (wm 6 rfl)) (by decide) (rm1 l Z a0 hw [] b12 b1 (1 : Int32) h12 n0 Z12 A12 g_b12 F12_words F12_cardinality) (by decide) (by decide) (by decide) (by decide) e12 (g := (mkF m 91 #[.val (.long q0), .second, .val (.long q1), .second, .val (.int p2), .val (.long q3), .second, .val (.long q4), .second, .val (.int p5), .val (.ref b1), .val (.ref b2), .val (.int (v0_20 p2)), .val (.int (v0_28 p5)), .val (.long (v0_61 p2 q0 p5 q3)), .second, .val (.long (v0_68 p2 q1 p5 q4)), .second, .val (.long (v0_75 p5 p2 q0 q3)), .second, .val (.long (v0_82 p5 p2 q1 q4)), .second, .unset, .unset, .unset, .unset] [(.int (1 : Int32)), (.ref b1), (.ref b12), (.ref b12)])) rfl (by rw [hml]; rfl) pd_1 rfl rfl (by show 2 * 0 + _ ≤ _; exact Nat.le_of_eq rfl) (hb hby at_91)
  have N13 := Fr.app N10 N13q
  obtain ⟨h13, e13⟩ : ∃ z, T13.heap = z := ⟨_, rfl⟩
  rw [e13] at u14 u15 u16 u17
  have K13 := u14
  have Z13 := Nat.le_trans Z12 K13.1
  refine OwnFin.step (g' := (mkF m 94 #[.val (.long q0), .second, .val (.long q1), .second, .val (.int p2), .val (.long q3), .second, .val (.long q4), .second, .val (.int p5), .val (.ref b1), .val (.ref b2), .val (.int (v0_20 p2)), .val (.int (v0_28 p5)), .val (.long (v0_61 p2 q0 p5 q3)), .second, .val (.long (v0_68 p2 q1 p5 q4)), .second, .val (.long (v0_75 p5 p2 q0 q3)), .second, .val (.long (v0_82 p5 p2 q1 q4)), .second, .unset, .unset, .unset, .unset] [(.ref b12)])) X13 (fun t k => st13 _ k) ?_
  refine OwnFin.step (g' := (mkF m 96 #[.val (.long q0), .second, .val (.long q1), .second, .val (.int p2), .val (.long q3), .second, .val (.long q4), .second, .val (.int p5), .val (.ref b1), .val (.ref b2), .val (.int (v0_20 p2)), .val (.int (v0_28 p5)), .val (.long (v0_61 p2 q0 p5 q3)), .second, .val (.long (v0_68 p2 q1 p5 q4)), .second, .val (.long (v0_75 p5 p2 q0 q3)), .second, .val (.long (v0_82 p5 p2 q1 q4)), .second, .val (.ref b12), .unset, .unset, .unset] [])) X13 (fun t k => XS.astore X13.here hx rfl (hb hby at_94) rfl rfl (l' := #[.val (.long q0), .second, .val (.long q1), .second, .val (.int p2), .val (.long q3), .second, .val (.long q4), .second, .val (.int p5), .val (.ref b1), .val (.ref b2), .val (.int (v0_20 p2)), .val (.int (v0_28 p5)), .val (.long (v0_61 p2 q0 p5 q3)), .second, .val (.long (v0_68 p2 q1 p5 q4)), .second, .val (.long (v0_75 p5 p2 q0 q3)), .second, .val (.long (v0_82 p5 p2 q1 q4)), .second, .val (.ref b12), .unset, .unset, .unset]) rfl k) ?_
  refine OwnFin.step (g' := (mkF m 98 #[.val (.long q0), .second, .val (.long q1), .second, .val (.int p2), .val (.long q3), .second, .val (.long q4), .second, .val (.int p5), .val (.ref b1), .val (.ref b2), .val (.int (v0_20 p2)), .val (.int (v0_28 p5)), .val (.long (v0_61 p2 q0 p5 q3)), .second, .val (.long (v0_68 p2 q1 p5 q4)), .second, .val (.long (v0_75 p5 p2 q0 q3)), .second, .val (.long (v0_82 p5 p2 q1 q4)), .second, .val (.ref b12), .unset, .unset, .unset] [(.ref b12)])) X13 (fun t k => XS.aload X13.here hx rfl (hb hby at_96) rfl rfl k) ?_
  refine OwnFin.step (g' := (mkF m 100 #[.val (.long q0), .second, .val (.long q1), .second, .val (.int p2), .val (.long q3), .second, .val (.long q4), .second, .val (.int p5), .val (.ref b1), .val (.ref b2), .val (.int (v0_20 p2)), .val (.int (v0_28 p5)), .val (.long (v0_61 p2 q0 p5 q3)), .second, .val (.long (v0_68 p2 q1 p5 q4)), .second, .val (.long (v0_75 p5 p2 q0 q3)), .second, .val (.long (v0_82 p5 p2 q1 q4)), .second, .val (.ref b12), .unset, .unset, .unset] [(.ref b2), (.ref b12)])) X13 (fun t k => XS.aload X13.here hx rfl (hb hby at_98) rfl rfl k) ?_
  have A19 := ((A11.keep K12 nin0).keep K13 (ninS ne_b1_b12 nin0))
  have A20 := ((B10.keep K12 nin0).keep K13 (ninS ne_b2_b12 nin0))
  obtain ⟨_, T18, L18, X18, ⟨rfl, N18q, u21, u22⟩, st18⟩ := own_callV X13 hx hZ (y := (⟨"com/example/stria/stria/container/BitmapContainer", "andNotInto", "([J)V"⟩ : MethodName)) (W := 0) (a := b12) (argsL := [(.ref b2)]) (rest := []) hown (hw _ (wm 19 rfl)) (hw _ (wm 20 rfl)) (hw _ (wm 22 rfl)) (hw _ (wm 21 rfl)) (hw _ (wm 3 rfl)) (hw _ (wm 23 rfl)) (by decide) u15 (rm4 l Z a0 hw [] b12 b2 (G0_48 p2 q0 p5 q3) (G0_55 p2 q1 p5 q4) b1 (1 : Int32) h13 n0 Z13 g_b1 u15 g_b12 u16 u17 A19 A20 g_b2 (Ne.symm ne_b1_b12) (Ne.symm ne_b2_b12) ne_b1_b2) (by decide) (by decide) (by decide) (by decide) e13 (g := (mkF m 100 #[.val (.long q0), .second, .val (.long q1), .second, .val (.int p2), .val (.long q3), .second, .val (.long q4), .second, .val (.int p5), .val (.ref b1), .val (.ref b2), .val (.int (v0_20 p2)), .val (.int (v0_28 p5)), .val (.long (v0_61 p2 q0 p5 q3)), .second, .val (.long (v0_68 p2 q1 p5 q4)), .second, .val (.long (v0_75 p5 p2 q0 q3)), .second, .val (.long (v0_82 p5 p2 q1 q4)), .second, .val (.ref b12), .unset, .unset, .unset] [(.ref b2), (.ref b12)])) rfl (by rw [hml]; rfl) pd_2 rfl rfl (by show 2 * 0 + _ ≤ _; exact Nat.le_of_eq rfl) (hb hby at_100)
  have N18 := Fr.app N13 N18q
  obtain ⟨h18, e18⟩ : ∃ z, T18.heap = z := ⟨_, rfl⟩
  rw [e18] at u21 u22
  have K18 := u21
  have Z18 := Nat.le_trans Z13 K18.1
  refine OwnFin.step (g' := (mkF m 103 #[.val (.long q0), .second, .val (.long q1), .second, .val (.int p2), .val (.long q3), .second, .val (.long q4), .second, .val (.int p5), .val (.ref b1), .val (.ref b2), .val (.int (v0_20 p2)), .val (.int (v0_28 p5)), .val (.long (v0_61 p2 q0 p5 q3)), .second, .val (.long (v0_68 p2 q1 p5 q4)), .second, .val (.long (v0_75 p5 p2 q0 q3)), .second, .val (.long (v0_82 p5 p2 q1 q4)), .second, .val (.ref b12), .unset, .unset, .unset] [])) X18 (fun t k => st18 _ k) ?_
  refine OwnFin.step (g' := (mkF m 105 #[.val (.long q0), .second, .val (.long q1), .second, .val (.int p2), .val (.long q3), .second, .val (.long q4), .second, .val (.int p5), .val (.ref b1), .val (.ref b2), .val (.int (v0_20 p2)), .val (.int (v0_28 p5)), .val (.long (v0_61 p2 q0 p5 q3)), .second, .val (.long (v0_68 p2 q1 p5 q4)), .second, .val (.long (v0_75 p5 p2 q0 q3)), .second, .val (.long (v0_82 p5 p2 q1 q4)), .second, .val (.ref b12), .unset, .unset, .unset] [(.ref b2)])) X18 (fun t k => XS.aload X18.here hx rfl (hb hby at_103) rfl rfl k) ?_
  refine OwnFin.step (g' := (mkF m 107 #[.val (.long q0), .second, .val (.long q1), .second, .val (.int p2), .val (.long q3), .second, .val (.long q4), .second, .val (.int p5), .val (.ref b1), .val (.ref b2), .val (.int (v0_20 p2)), .val (.int (v0_28 p5)), .val (.long (v0_61 p2 q0 p5 q3)), .second, .val (.long (v0_68 p2 q1 p5 q4)), .second, .val (.long (v0_75 p5 p2 q0 q3)), .second, .val (.long (v0_82 p5 p2 q1 q4)), .second, .val (.ref b12), .unset, .unset, .unset] [(.int (v0_20 p2)), (.ref b2)])) X18 (fun t k => XS.iload X18.here hx rfl (hb hby at_105) rfl k) ?_
  refine OwnFin.step (g' := (mkF m 108 #[.val (.long q0), .second, .val (.long q1), .second, .val (.int p2), .val (.long q3), .second, .val (.long q4), .second, .val (.int p5), .val (.ref b1), .val (.ref b2), .val (.int (v0_20 p2)), .val (.int (v0_28 p5)), .val (.long (v0_61 p2 q0 p5 q3)), .second, .val (.long (v0_68 p2 q1 p5 q4)), .second, .val (.long (v0_75 p5 p2 q0 q3)), .second, .val (.long (v0_82 p5 p2 q1 q4)), .second, .val (.ref b12), .unset, .unset, .unset] [(.long ((Lp (G0_55 p2 q1 p5 q4) (G0_48 p2 q0 p5 q3) 1024) ((v0_20 p2)).toNatClampNeg))])) X18 (fun t k => own_ldJ X18 hx hZ e18 u22 (ib0_107 p2) rfl (g := (mkF m 107 #[.val (.long q0), .second, .val (.long q1), .second, .val (.int p2), .val (.long q3), .second, .val (.long q4), .second, .val (.int p5), .val (.ref b1), .val (.ref b2), .val (.int (v0_20 p2)), .val (.int (v0_28 p5)), .val (.long (v0_61 p2 q0 p5 q3)), .second, .val (.long (v0_68 p2 q1 p5 q4)), .second, .val (.long (v0_75 p5 p2 q0 q3)), .second, .val (.long (v0_82 p5 p2 q1 q4)), .second, .val (.ref b12), .unset, .unset, .unset] [(.int (v0_20 p2)), (.ref b2)])) rfl rfl (hb hby at_107) _ k) ?_
  refine OwnFin.step (g' := (mkF m 110 #[.val (.long q0), .second, .val (.long q1), .second, .val (.int p2), .val (.long q3), .second, .val (.long q4), .second, .val (.int p5), .val (.ref b1), .val (.ref b2), .val (.int (v0_20 p2)), .val (.int (v0_28 p5)), .val (.long (v0_61 p2 q0 p5 q3)), .second, .val (.long (v0_68 p2 q1 p5 q4)), .second, .val (.long (v0_75 p5 p2 q0 q3)), .second, .val (.long (v0_82 p5 p2 q1 q4)), .second, .val (.ref b12), .unset, .unset, .unset] [(.long (v0_68 p2 q1 p5 q4)), (.long ((Lp (G0_55 p2 q1 p5 q4) (G0_48 p2 q0 p5 q3) 1024) ((v0_20 p2)).toNatClampNeg))])) X18 (fun t k => XT.lload X18.here hx rfl (hb hby at_108) rfl k) ?_
  refine OwnFin.step (g' := (mkF m 112 #[.val (.long q0), .second, .val (.long q1), .second, .val (.int p2), .val (.long q3), .second, .val (.long q4), .second, .val (.int p5), .val (.ref b1), .val (.ref b2), .val (.int (v0_20 p2)), .val (.int (v0_28 p5)), .val (.long (v0_61 p2 q0 p5 q3)), .second, .val (.long (v0_68 p2 q1 p5 q4)), .second, .val (.long (v0_75 p5 p2 q0 q3)), .second, .val (.long (v0_82 p5 p2 q1 q4)), .second, .val (.ref b12), .unset, .unset, .unset] [(.long (v0_61 p2 q0 p5 q3)), (.long (v0_68 p2 q1 p5 q4)), (.long ((Lp (G0_55 p2 q1 p5 q4) (G0_48 p2 q0 p5 q3) 1024) ((v0_20 p2)).toNatClampNeg))])) X18 (fun t k => XT.lload X18.here hx rfl (hb hby at_110) rfl k) ?_
  refine OwnFin.step (g' := (mkF m 115 #[.val (.long q0), .second, .val (.long q1), .second, .val (.int p2), .val (.long q3), .second, .val (.long q4), .second, .val (.int p5), .val (.ref b1), .val (.ref b2), .val (.int (v0_20 p2)), .val (.int (v0_28 p5)), .val (.long (v0_61 p2 q0 p5 q3)), .second, .val (.long (v0_68 p2 q1 p5 q4)), .second, .val (.long (v0_75 p5 p2 q0 q3)), .second, .val (.long (v0_82 p5 p2 q1 q4)), .second, .val (.ref b12), .unset, .unset, .unset] [(.long (-1 : Int64)), (.long (v0_61 p2 q0 p5 q3)), (.long (v0_68 p2 q1 p5 q4)), (.long ((Lp (G0_55 p2 q1 p5 q4) (G0_48 p2 q0 p5 q3) 1024) ((v0_20 p2)).toNatClampNeg))])) X18 (fun t k => X18.ldc2Long hx hown (mvT hZ (hw _ (wm 25 rfl))) (g := (mkF m 112 #[.val (.long q0), .second, .val (.long q1), .second, .val (.int p2), .val (.long q3), .second, .val (.long q4), .second, .val (.int p5), .val (.ref b1), .val (.ref b2), .val (.int (v0_20 p2)), .val (.int (v0_28 p5)), .val (.long (v0_61 p2 q0 p5 q3)), .second, .val (.long (v0_68 p2 q1 p5 q4)), .second, .val (.long (v0_75 p5 p2 q0 q3)), .second, .val (.long (v0_82 p5 p2 q1 q4)), .second, .val (.ref b12), .unset, .unset, .unset] [(.long (v0_61 p2 q0 p5 q3)), (.long (v0_68 p2 q1 p5 q4)), (.long ((Lp (G0_55 p2 q1 p5 q4) (G0_48 p2 q0 p5 q3) 1024) ((v0_20 p2)).toNatClampNeg))])) rfl (hb hby at_112) _ k) ?_
  refine OwnFin.step (g' := (mkF m 116 #[.val (.long q0), .second, .val (.long q1), .second, .val (.int p2), .val (.long q3), .second, .val (.long q4), .second, .val (.int p5), .val (.ref b1), .val (.ref b2), .val (.int (v0_20 p2)), .val (.int (v0_28 p5)), .val (.long (v0_61 p2 q0 p5 q3)), .second, .val (.long (v0_68 p2 q1 p5 q4)), .second, .val (.long (v0_75 p5 p2 q0 q3)), .second, .val (.long (v0_82 p5 p2 q1 q4)), .second, .val (.ref b12), .unset, .unset, .unset] [(.long ((v0_61 p2 q0 p5 q3) ^^^ (-1 : Int64))), (.long (v0_68 p2 q1 p5 q4)), (.long ((Lp (G0_55 p2 q1 p5 q4) (G0_48 p2 q0 p5 q3) 1024) ((v0_20 p2)).toNatClampNeg))])) X18 (fun t k => XT.lxor X18.here hx rfl (hb hby at_115) rfl k) ?_
  refine OwnFin.step (g' := (mkF m 117 #[.val (.long q0), .second, .val (.long q1), .second, .val (.int p2), .val (.long q3), .second, .val (.long q4), .second, .val (.int p5), .val (.ref b1), .val (.ref b2), .val (.int (v0_20 p2)), .val (.int (v0_28 p5)), .val (.long (v0_61 p2 q0 p5 q3)), .second, .val (.long (v0_68 p2 q1 p5 q4)), .second, .val (.long (v0_75 p5 p2 q0 q3)), .second, .val (.long (v0_82 p5 p2 q1 q4)), .second, .val (.ref b12), .unset, .unset, .unset] [(.long ((v0_68 p2 q1 p5 q4) &&& ((v0_61 p2 q0 p5 q3) ^^^ (-1 : Int64)))), (.long ((Lp (G0_55 p2 q1 p5 q4) (G0_48 p2 q0 p5 q3) 1024) ((v0_20 p2)).toNatClampNeg))])) X18 (fun t k => XT.land X18.here hx rfl (hb hby at_116) rfl k) ?_
  refine OwnFin.step (g' := (mkF m 118 #[.val (.long q0), .second, .val (.long q1), .second, .val (.int p2), .val (.long q3), .second, .val (.long q4), .second, .val (.int p5), .val (.ref b1), .val (.ref b2), .val (.int (v0_20 p2)), .val (.int (v0_28 p5)), .val (.long (v0_61 p2 q0 p5 q3)), .second, .val (.long (v0_68 p2 q1 p5 q4)), .second, .val (.long (v0_75 p5 p2 q0 q3)), .second, .val (.long (v0_82 p5 p2 q1 q4)), .second, .val (.ref b12), .unset, .unset, .unset] [(.int (XT.cmpL ((Lp (G0_55 p2 q1 p5 q4) (G0_48 p2 q0 p5 q3) 1024) ((v0_20 p2)).toNatClampNeg) ((v0_68 p2 q1 p5 q4) &&& ((v0_61 p2 q0 p5 q3) ^^^ (-1 : Int64)))))])) X18 (fun t k => XT.lcmp X18.here hx rfl (hb hby at_117) rfl k) ?_
  refine OwnFin.step (g' := (mkF m 126 #[.val (.long q0), .second, .val (.long q1), .second, .val (.int p2), .val (.long q3), .second, .val (.long q4), .second, .val (.int p5), .val (.ref b1), .val (.ref b2), .val (.int (v0_20 p2)), .val (.int (v0_28 p5)), .val (.long (v0_61 p2 q0 p5 q3)), .second, .val (.long (v0_68 p2 q1 p5 q4)), .second, .val (.long (v0_75 p5 p2 q0 q3)), .second, .val (.long (v0_82 p5 p2 q1 q4)), .second, .val (.ref b12), .unset, .unset, .unset] [(.int (v0_126 p2 q1 p5 q4 q0 q3))])) X18 (fun t k => ?_) ?_
  · show Steps p.tables e below (T18.setTop (mkF m 118 #[.val (.long q0), .second, .val (.long q1), .second, .val (.int p2), .val (.long q3), .second, .val (.long q4), .second, .val (.int p5), .val (.ref b1), .val (.ref b2), .val (.int (v0_20 p2)), .val (.int (v0_28 p5)), .val (.long (v0_61 p2 q0 p5 q3)), .second, .val (.long (v0_68 p2 q1 p5 q4)), .second, .val (.long (v0_75 p5 p2 q0 q3)), .second, .val (.long (v0_82 p5 p2 q1 q4)), .second, .val (.ref b12), .unset, .unset, .unset] [(.int (XT.cmpL ((Lp (G0_55 p2 q1 p5 q4) (G0_48 p2 q0 p5 q3) 1024) ((v0_20 p2)).toNatClampNeg) ((v0_68 p2 q1 p5 q4) &&& ((v0_61 p2 q0 p5 q3) ^^^ (-1 : Int64)))))])) t
    by_cases hc23 : ((Lp (G0_55 p2 q1 p5 q4) (G0_48 p2 q0 p5 q3) 1024) ((v0_20 p2)).toNatClampNeg) = ((v0_68 p2 q1 p5 q4) &&& ((v0_61 p2 q0 p5 q3) ^^^ (-1 : Int64)))
    · skip
      refine XS.ifNo X18.here hx rfl (hb hby at_118) rfl ((if0 _ _).trans (teq ((cl_eq _ _).mpr hc23)).2) ?_
      show Steps p.tables e below (T18.setTop (mkF m 121 #[.val (.long q0), .second, .val (.long q1), .second, .val (.int p2), .val (.long q3), .second, .val (.long q4), .second, .val (.int p5), .val (.ref b1), .val (.ref b2), .val (.int (v0_20 p2)), .val (.int (v0_28 p5)), .val (.long (v0_61 p2 q0 p5 q3)), .second, .val (.long (v0_68 p2 q1 p5 q4)), .second, .val (.long (v0_75 p5 p2 q0 q3)), .second, .val (.long (v0_82 p5 p2 q1 q4)), .second, .val (.ref b12), .unset, .unset, .unset] [])) t
      refine XS.iconst X18.here hx rfl (hb hby at_121) ?_
      show Steps p.tables e below (T18.setTop (mkF m 122 #[.val (.long q0), .second, .val (.long q1), .second, .val (.int p2), .val (.long q3), .second, .val (.long q4), .second, .val (.int p5), .val (.ref b1), .val (.ref b2), .val (.int (v0_20 p2)), .val (.int (v0_28 p5)), .val (.long (v0_61 p2 q0 p5 q3)), .second, .val (.long (v0_68 p2 q1 p5 q4)), .second, .val (.long (v0_75 p5 p2 q0 q3)), .second, .val (.long (v0_82 p5 p2 q1 q4)), .second, .val (.ref b12), .unset, .unset, .unset] [(.int (1 : Int32))])) t
      refine XS.goto X18.here hx rfl (pc0 := 122) (pc' := 126) rfl (hb hby at_122) (by decide) (by decide) ?_
      show Steps p.tables e below (T18.setTop (mkF m 126 #[.val (.long q0), .second, .val (.long q1), .second, .val (.int p2), .val (.long q3), .second, .val (.long q4), .second, .val (.int p5), .val (.ref b1), .val (.ref b2), .val (.int (v0_20 p2)), .val (.int (v0_28 p5)), .val (.long (v0_61 p2 q0 p5 q3)), .second, .val (.long (v0_68 p2 q1 p5 q4)), .second, .val (.long (v0_75 p5 p2 q0 q3)), .second, .val (.long (v0_82 p5 p2 q1 q4)), .second, .val (.ref b12), .unset, .unset, .unset] [(.int (1 : Int32))])) t
      have q24 : (v0_126 p2 q1 p5 q4 q0 q3) = (1 : Int32) := by
        show (if ((Lp (G0_55 p2 q1 p5 q4) (G0_48 p2 q0 p5 q3) 1024) ((v0_20 p2)).toNatClampNeg) = ((v0_68 p2 q1 p5 q4) &&& ((v0_61 p2 q0 p5 q3) ^^^ (-1 : Int64))) then (1 : Int32) else (0 : Int32)) = (1 : Int32)
        simp only [if_pos hc23]
      rw [q24] at k
      exact k
    · skip
      refine XS.ifYes X18.here hx rfl (pc0 := 118) (pc' := 125) rfl (hb hby at_118) rfl ((if0 _ _).trans (feq (fun q => hc23 ((cl_eq _ _).mp q))).2) (by decide) (by decide) ?_
      show Steps p.tables e below (T18.setTop (mkF m 125 #[.val (.long q0), .second, .val (.long q1), .second, .val (.int p2), .val (.long q3), .second, .val (.long q4), .second, .val (.int p5), .val (.ref b1), .val (.ref b2), .val (.int (v0_20 p2)), .val (.int (v0_28 p5)), .val (.long (v0_61 p2 q0 p5 q3)), .second, .val (.long (v0_68 p2 q1 p5 q4)), .second, .val (.long (v0_75 p5 p2 q0 q3)), .second, .val (.long (v0_82 p5 p2 q1 q4)), .second, .val (.ref b12), .unset, .unset, .unset] [])) t
      refine XS.iconst X18.here hx rfl (hb hby at_125) ?_
      show Steps p.tables e below (T18.setTop (mkF m 126 #[.val (.long q0), .second, .val (.long q1), .second, .val (.int p2), .val (.long q3), .second, .val (.long q4), .second, .val (.int p5), .val (.ref b1), .val (.ref b2), .val (.int (v0_20 p2)), .val (.int (v0_28 p5)), .val (.long (v0_61 p2 q0 p5 q3)), .second, .val (.long (v0_68 p2 q1 p5 q4)), .second, .val (.long (v0_75 p5 p2 q0 q3)), .second, .val (.long (v0_82 p5 p2 q1 q4)), .second, .val (.ref b12), .unset, .unset, .unset] [(.int (0 : Int32))])) t
      have q25 : (v0_126 p2 q1 p5 q4 q0 q3) = (0 : Int32) := by
        show (if ((Lp (G0_55 p2 q1 p5 q4) (G0_48 p2 q0 p5 q3) 1024) ((v0_20 p2)).toNatClampNeg) = ((v0_68 p2 q1 p5 q4) &&& ((v0_61 p2 q0 p5 q3) ^^^ (-1 : Int64))) then (1 : Int32) else (0 : Int32)) = (0 : Int32)
        simp only [if_neg hc23]
      rw [q25] at k
      exact k
  refine OwnFin.step (g' := (mkF m 128 #[.val (.long q0), .second, .val (.long q1), .second, .val (.int p2), .val (.long q3), .second, .val (.long q4), .second, .val (.int p5), .val (.ref b1), .val (.ref b2), .val (.int (v0_20 p2)), .val (.int (v0_28 p5)), .val (.long (v0_61 p2 q0 p5 q3)), .second, .val (.long (v0_68 p2 q1 p5 q4)), .second, .val (.long (v0_75 p5 p2 q0 q3)), .second, .val (.long (v0_82 p5 p2 q1 q4)), .second, .val (.ref b12), .val (.int (v0_126 p2 q1 p5 q4 q0 q3)), .unset, .unset] [])) X18 (fun t k => XS.istore X18.here hx rfl (hb hby at_126) rfl (l' := #[.val (.long q0), .second, .val (.long q1), .second, .val (.int p2), .val (.long q3), .second, .val (.long q4), .second, .val (.int p5), .val (.ref b1), .val (.ref b2), .val (.int (v0_20 p2)), .val (.int (v0_28 p5)), .val (.long (v0_61 p2 q0 p5 q3)), .second, .val (.long (v0_68 p2 q1 p5 q4)), .second, .val (.long (v0_75 p5 p2 q0 q3)), .second, .val (.long (v0_82 p5 p2 q1 q4)), .second, .val (.ref b12), .val (.int (v0_126 p2 q1 p5 q4 q0 q3)), .unset, .unset]) rfl k) ?_
  refine OwnFin.step (g' := (mkF m 130 #[.val (.long q0), .second, .val (.long q1), .second, .val (.int p2), .val (.long q3), .second, .val (.long q4), .second, .val (.int p5), .val (.ref b1), .val (.ref b2), .val (.int (v0_20 p2)), .val (.int (v0_28 p5)), .val (.long (v0_61 p2 q0 p5 q3)), .second, .val (.long (v0_68 p2 q1 p5 q4)), .second, .val (.long (v0_75 p5 p2 q0 q3)), .second, .val (.long (v0_82 p5 p2 q1 q4)), .second, .val (.ref b12), .val (.int (v0_126 p2 q1 p5 q4 q0 q3)), .unset, .unset] [(.ref b2)])) X18 (fun t k => XS.aload X18.here hx rfl (hb hby at_128) rfl rfl k) ?_
  refine OwnFin.step (g' := (mkF m 132 #[.val (.long q0), .second, .val (.long q1), .second, .val (.int p2), .val (.long q3), .second, .val (.long q4), .second, .val (.int p5), .val (.ref b1), .val (.ref b2), .val (.int (v0_20 p2)), .val (.int (v0_28 p5)), .val (.long (v0_61 p2 q0 p5 q3)), .second, .val (.long (v0_68 p2 q1 p5 q4)), .second, .val (.long (v0_75 p5 p2 q0 q3)), .second, .val (.long (v0_82 p5 p2 q1 q4)), .second, .val (.ref b12), .val (.int (v0_126 p2 q1 p5 q4 q0 q3)), .unset, .unset] [(.int (v0_28 p5)), (.ref b2)])) X18 (fun t k => XS.iload X18.here hx rfl (hb hby at_130) rfl k) ?_
  refine OwnFin.step (g' := (mkF m 133 #[.val (.long q0), .second, .val (.long q1), .second, .val (.int p2), .val (.long q3), .second, .val (.long q4), .second, .val (.int p5), .val (.ref b1), .val (.ref b2), .val (.int (v0_20 p2)), .val (.int (v0_28 p5)), .val (.long (v0_61 p2 q0 p5 q3)), .second, .val (.long (v0_68 p2 q1 p5 q4)), .second, .val (.long (v0_75 p5 p2 q0 q3)), .second, .val (.long (v0_82 p5 p2 q1 q4)), .second, .val (.ref b12), .val (.int (v0_126 p2 q1 p5 q4 q0 q3)), .unset, .unset] [(.long ((Lp (G0_55 p2 q1 p5 q4) (G0_48 p2 q0 p5 q3) 1024) ((v0_28 p5)).toNatClampNeg))])) X18 (fun t k => own_ldJ X18 hx hZ e18 u22 (ib0_132 p5) rfl (g := (mkF m 132 #[.val (.long q0), .second, .val (.long q1), .second, .val (.int p2), .val (.long q3), .second, .val (.long q4), .second, .val (.int p5), .val (.ref b1), .val (.ref b2), .val (.int (v0_20 p2)), .val (.int (v0_28 p5)), .val (.long (v0_61 p2 q0 p5 q3)), .second, .val (.long (v0_68 p2 q1 p5 q4)), .second, .val (.long (v0_75 p5 p2 q0 q3)), .second, .val (.long (v0_82 p5 p2 q1 q4)), .second, .val (.ref b12), .val (.int (v0_126 p2 q1 p5 q4 q0 q3)), .unset, .unset] [(.int (v0_28 p5)), (.ref b2)])) rfl rfl (hb hby at_132) _ k) ?_
  refine OwnFin.step (g' := (mkF m 135 #[.val (.long q0), .second, .val (.long q1), .second, .val (.int p2), .val (.long q3), .second, .val (.long q4), .second, .val (.int p5), .val (.ref b1), .val (.ref b2), .val (.int (v0_20 p2)), .val (.int (v0_28 p5)), .val (.long (v0_61 p2 q0 p5 q3)), .second, .val (.long (v0_68 p2 q1 p5 q4)), .second, .val (.long (v0_75 p5 p2 q0 q3)), .second, .val (.long (v0_82 p5 p2 q1 q4)), .second, .val (.ref b12), .val (.int (v0_126 p2 q1 p5 q4 q0 q3)), .unset, .unset] [(.long (v0_82 p5 p2 q1 q4)), (.long ((Lp (G0_55 p2 q1 p5 q4) (G0_48 p2 q0 p5 q3) 1024) ((v0_28 p5)).toNatClampNeg))])) X18 (fun t k => XT.lload X18.here hx rfl (hb hby at_133) rfl k) ?_
  refine OwnFin.step (g' := (mkF m 137 #[.val (.long q0), .second, .val (.long q1), .second, .val (.int p2), .val (.long q3), .second, .val (.long q4), .second, .val (.int p5), .val (.ref b1), .val (.ref b2), .val (.int (v0_20 p2)), .val (.int (v0_28 p5)), .val (.long (v0_61 p2 q0 p5 q3)), .second, .val (.long (v0_68 p2 q1 p5 q4)), .second, .val (.long (v0_75 p5 p2 q0 q3)), .second, .val (.long (v0_82 p5 p2 q1 q4)), .second, .val (.ref b12), .val (.int (v0_126 p2 q1 p5 q4 q0 q3)), .unset, .unset] [(.long (v0_75 p5 p2 q0 q3)), (.long (v0_82 p5 p2 q1 q4)), (.long ((Lp (G0_55 p2 q1 p5 q4) (G0_48 p2 q0 p5 q3) 1024) ((v0_28 p5)).toNatClampNeg))])) X18 (fun t k => XT.lload X18.here hx rfl (hb hby at_135) rfl k) ?_
  refine OwnFin.step (g' := (mkF m 140 #[.val (.long q0), .second, .val (.long q1), .second, .val (.int p2), .val (.long q3), .second, .val (.long q4), .second, .val (.int p5), .val (.ref b1), .val (.ref b2), .val (.int (v0_20 p2)), .val (.int (v0_28 p5)), .val (.long (v0_61 p2 q0 p5 q3)), .second, .val (.long (v0_68 p2 q1 p5 q4)), .second, .val (.long (v0_75 p5 p2 q0 q3)), .second, .val (.long (v0_82 p5 p2 q1 q4)), .second, .val (.ref b12), .val (.int (v0_126 p2 q1 p5 q4 q0 q3)), .unset, .unset] [(.long (-1 : Int64)), (.long (v0_75 p5 p2 q0 q3)), (.long (v0_82 p5 p2 q1 q4)), (.long ((Lp (G0_55 p2 q1 p5 q4) (G0_48 p2 q0 p5 q3) 1024) ((v0_28 p5)).toNatClampNeg))])) X18 (fun t k => X18.ldc2Long hx hown (mvT hZ (hw _ (wm 25 rfl))) (g := (mkF m 137 #[.val (.long q0), .second, .val (.long q1), .second, .val (.int p2), .val (.long q3), .second, .val (.long q4), .second, .val (.int p5), .val (.ref b1), .val (.ref b2), .val (.int (v0_20 p2)), .val (.int (v0_28 p5)), .val (.long (v0_61 p2 q0 p5 q3)), .second, .val (.long (v0_68 p2 q1 p5 q4)), .second, .val (.long (v0_75 p5 p2 q0 q3)), .second, .val (.long (v0_82 p5 p2 q1 q4)), .second, .val (.ref b12), .val (.int (v0_126 p2 q1 p5 q4 q0 q3)), .unset, .unset] [(.long (v0_75 p5 p2 q0 q3)), (.long (v0_82 p5 p2 q1 q4)), (.long ((Lp (G0_55 p2 q1 p5 q4) (G0_48 p2 q0 p5 q3) 1024) ((v0_28 p5)).toNatClampNeg))])) rfl (hb hby at_137) _ k) ?_
  refine OwnFin.step (g' := (mkF m 141 #[.val (.long q0), .second, .val (.long q1), .second, .val (.int p2), .val (.long q3), .second, .val (.long q4), .second, .val (.int p5), .val (.ref b1), .val (.ref b2), .val (.int (v0_20 p2)), .val (.int (v0_28 p5)), .val (.long (v0_61 p2 q0 p5 q3)), .second, .val (.long (v0_68 p2 q1 p5 q4)), .second, .val (.long (v0_75 p5 p2 q0 q3)), .second, .val (.long (v0_82 p5 p2 q1 q4)), .second, .val (.ref b12), .val (.int (v0_126 p2 q1 p5 q4 q0 q3)), .unset, .unset] [(.long ((v0_75 p5 p2 q0 q3) ^^^ (-1 : Int64))), (.long (v0_82 p5 p2 q1 q4)), (.long ((Lp (G0_55 p2 q1 p5 q4) (G0_48 p2 q0 p5 q3) 1024) ((v0_28 p5)).toNatClampNeg))])) X18 (fun t k => XT.lxor X18.here hx rfl (hb hby at_140) rfl k) ?_
  refine OwnFin.step (g' := (mkF m 142 #[.val (.long q0), .second, .val (.long q1), .second, .val (.int p2), .val (.long q3), .second, .val (.long q4), .second, .val (.int p5), .val (.ref b1), .val (.ref b2), .val (.int (v0_20 p2)), .val (.int (v0_28 p5)), .val (.long (v0_61 p2 q0 p5 q3)), .second, .val (.long (v0_68 p2 q1 p5 q4)), .second, .val (.long (v0_75 p5 p2 q0 q3)), .second, .val (.long (v0_82 p5 p2 q1 q4)), .second, .val (.ref b12), .val (.int (v0_126 p2 q1 p5 q4 q0 q3)), .unset, .unset] [(.long ((v0_82 p5 p2 q1 q4) &&& ((v0_75 p5 p2 q0 q3) ^^^ (-1 : Int64)))), (.long ((Lp (G0_55 p2 q1 p5 q4) (G0_48 p2 q0 p5 q3) 1024) ((v0_28 p5)).toNatClampNeg))])) X18 (fun t k => XT.land X18.here hx rfl (hb hby at_141) rfl k) ?_
  refine OwnFin.step (g' := (mkF m 143 #[.val (.long q0), .second, .val (.long q1), .second, .val (.int p2), .val (.long q3), .second, .val (.long q4), .second, .val (.int p5), .val (.ref b1), .val (.ref b2), .val (.int (v0_20 p2)), .val (.int (v0_28 p5)), .val (.long (v0_61 p2 q0 p5 q3)), .second, .val (.long (v0_68 p2 q1 p5 q4)), .second, .val (.long (v0_75 p5 p2 q0 q3)), .second, .val (.long (v0_82 p5 p2 q1 q4)), .second, .val (.ref b12), .val (.int (v0_126 p2 q1 p5 q4 q0 q3)), .unset, .unset] [(.int (XT.cmpL ((Lp (G0_55 p2 q1 p5 q4) (G0_48 p2 q0 p5 q3) 1024) ((v0_28 p5)).toNatClampNeg) ((v0_82 p5 p2 q1 q4) &&& ((v0_75 p5 p2 q0 q3) ^^^ (-1 : Int64)))))])) X18 (fun t k => XT.lcmp X18.here hx rfl (hb hby at_142) rfl k) ?_
  refine OwnFin.step (g' := (mkF m 151 #[.val (.long q0), .second, .val (.long q1), .second, .val (.int p2), .val (.long q3), .second, .val (.long q4), .second, .val (.int p5), .val (.ref b1), .val (.ref b2), .val (.int (v0_20 p2)), .val (.int (v0_28 p5)), .val (.long (v0_61 p2 q0 p5 q3)), .second, .val (.long (v0_68 p2 q1 p5 q4)), .second, .val (.long (v0_75 p5 p2 q0 q3)), .second, .val (.long (v0_82 p5 p2 q1 q4)), .second, .val (.ref b12), .val (.int (v0_126 p2 q1 p5 q4 q0 q3)), .unset, .unset] [(.int (v0_151 p5 p2 q1 q4 q0 q3))])) X18 (fun t k => ?_) ?_
  · show Steps p.tables e below (T18.setTop (mkF m 143 #[.val (.long q0), .second, .val (.long q1), .second, .val (.int p2), .val (.long q3), .second, .val (.long q4), .second, .val (.int p5), .val (.ref b1), .val (.ref b2), .val (.int (v0_20 p2)), .val (.int (v0_28 p5)), .val (.long (v0_61 p2 q0 p5 q3)), .second, .val (.long (v0_68 p2 q1 p5 q4)), .second, .val (.long (v0_75 p5 p2 q0 q3)), .second, .val (.long (v0_82 p5 p2 q1 q4)), .second, .val (.ref b12), .val (.int (v0_126 p2 q1 p5 q4 q0 q3)), .unset, .unset] [(.int (XT.cmpL ((Lp (G0_55 p2 q1 p5 q4) (G0_48 p2 q0 p5 q3) 1024) ((v0_28 p5)).toNatClampNeg) ((v0_82 p5 p2 q1 q4) &&& ((v0_75 p5 p2 q0 q3) ^^^ (-1 : Int64)))))])) t
    by_cases hc26 : ((Lp (G0_55 p2 q1 p5 q4) (G0_48 p2 q0 p5 q3) 1024) ((v0_28 p5)).toNatClampNeg) = ((v0_82 p5 p2 q1 q4) &&& ((v0_75 p5 p2 q0 q3) ^^^ (-1 : Int64)))
    · skip
      refine XS.ifNo X18.here hx rfl (hb hby at_143) rfl ((if0 _ _).trans (teq ((cl_eq _ _).mpr hc26)).2) ?_
      show Steps p.tables e below (T18.setTop (mkF m 146 #[.val (.long q0), .second, .val (.long q1), .second, .val (.int p2), .val (.long q3), .second, .val (.long q4), .second, .val (.int p5), .val (.ref b1), .val (.ref b2), .val (.int (v0_20 p2)), .val (.int (v0_28 p5)), .val (.long (v0_61 p2 q0 p5 q3)), .second, .val (.long (v0_68 p2 q1 p5 q4)), .second, .val (.long (v0_75 p5 p2 q0 q3)), .second, .val (.long (v0_82 p5 p2 q1 q4)), .second, .val (.ref b12), .val (.int (v0_126 p2 q1 p5 q4 q0 q3)), .unset, .unset] [])) t
      refine XS.iconst X18.here hx rfl (hb hby at_146) ?_
      show Steps p.tables e below (T18.setTop (mkF m 147 #[.val (.long q0), .second, .val (.long q1), .second, .val (.int p2), .val (.long q3), .second, .val (.long q4), .second, .val (.int p5), .val (.ref b1), .val (.ref b2), .val (.int (v0_20 p2)), .val (.int (v0_28 p5)), .val (.long (v0_61 p2 q0 p5 q3)), .second, .val (.long (v0_68 p2 q1 p5 q4)), .second, .val (.long (v0_75 p5 p2 q0 q3)), .second, .val (.long (v0_82 p5 p2 q1 q4)), .second, .val (.ref b12), .val (.int (v0_126 p2 q1 p5 q4 q0 q3)), .unset, .unset] [(.int (1 : Int32))])) t
      refine XS.goto X18.here hx rfl (pc0 := 147) (pc' := 151) rfl (hb hby at_147) (by decide) (by decide) ?_
      show Steps p.tables e below (T18.setTop (mkF m 151 #[.val (.long q0), .second, .val (.long q1), .second, .val (.int p2), .val (.long q3), .second, .val (.long q4), .second, .val (.int p5), .val (.ref b1), .val (.ref b2), .val (.int (v0_20 p2)), .val (.int (v0_28 p5)), .val (.long (v0_61 p2 q0 p5 q3)), .second, .val (.long (v0_68 p2 q1 p5 q4)), .second, .val (.long (v0_75 p5 p2 q0 q3)), .second, .val (.long (v0_82 p5 p2 q1 q4)), .second, .val (.ref b12), .val (.int (v0_126 p2 q1 p5 q4 q0 q3)), .unset, .unset] [(.int (1 : Int32))])) t
      have q27 : (v0_151 p5 p2 q1 q4 q0 q3) = (1 : Int32) := by
        show (if ((Lp (G0_55 p2 q1 p5 q4) (G0_48 p2 q0 p5 q3) 1024) ((v0_28 p5)).toNatClampNeg) = ((v0_82 p5 p2 q1 q4) &&& ((v0_75 p5 p2 q0 q3) ^^^ (-1 : Int64))) then (1 : Int32) else (0 : Int32)) = (1 : Int32)
        simp only [if_pos hc26]
      rw [q27] at k
      exact k
    · skip
      refine XS.ifYes X18.here hx rfl (pc0 := 143) (pc' := 150) rfl (hb hby at_143) rfl ((if0 _ _).trans (feq (fun q => hc26 ((cl_eq _ _).mp q))).2) (by decide) (by decide) ?_
      show Steps p.tables e below (T18.setTop (mkF m 150 #[.val (.long q0), .second, .val (.long q1), .second, .val (.int p2), .val (.long q3), .second, .val (.long q4), .second, .val (.int p5), .val (.ref b1), .val (.ref b2), .val (.int (v0_20 p2)), .val (.int (v0_28 p5)), .val (.long (v0_61 p2 q0 p5 q3)), .second, .val (.long (v0_68 p2 q1 p5 q4)), .second, .val (.long (v0_75 p5 p2 q0 q3)), .second, .val (.long (v0_82 p5 p2 q1 q4)), .second, .val (.ref b12), .val (.int (v0_126 p2 q1 p5 q4 q0 q3)), .unset, .unset] [])) t
      refine XS.iconst X18.here hx rfl (hb hby at_150) ?_
      show Steps p.tables e below (T18.setTop (mkF m 151 #[.val (.long q0), .second, .val (.long q1), .second, .val (.int p2), .val (.long q3), .second, .val (.long q4), .second, .val (.int p5), .val (.ref b1), .val (.ref b2), .val (.int (v0_20 p2)), .val (.int (v0_28 p5)), .val (.long (v0_61 p2 q0 p5 q3)), .second, .val (.long (v0_68 p2 q1 p5 q4)), .second, .val (.long (v0_75 p5 p2 q0 q3)), .second, .val (.long (v0_82 p5 p2 q1 q4)), .second, .val (.ref b12), .val (.int (v0_126 p2 q1 p5 q4 q0 q3)), .unset, .unset] [(.int (0 : Int32))])) t
      have q28 : (v0_151 p5 p2 q1 q4 q0 q3) = (0 : Int32) := by
        show (if ((Lp (G0_55 p2 q1 p5 q4) (G0_48 p2 q0 p5 q3) 1024) ((v0_28 p5)).toNatClampNeg) = ((v0_82 p5 p2 q1 q4) &&& ((v0_75 p5 p2 q0 q3) ^^^ (-1 : Int64))) then (1 : Int32) else (0 : Int32)) = (0 : Int32)
        simp only [if_neg hc26]
      rw [q28] at k
      exact k
  refine OwnFin.step (g' := (mkF m 153 #[.val (.long q0), .second, .val (.long q1), .second, .val (.int p2), .val (.long q3), .second, .val (.long q4), .second, .val (.int p5), .val (.ref b1), .val (.ref b2), .val (.int (v0_20 p2)), .val (.int (v0_28 p5)), .val (.long (v0_61 p2 q0 p5 q3)), .second, .val (.long (v0_68 p2 q1 p5 q4)), .second, .val (.long (v0_75 p5 p2 q0 q3)), .second, .val (.long (v0_82 p5 p2 q1 q4)), .second, .val (.ref b12), .val (.int (v0_126 p2 q1 p5 q4 q0 q3)), .val (.int (v0_151 p5 p2 q1 q4 q0 q3)), .unset] [])) X18 (fun t k => XS.istore X18.here hx rfl (hb hby at_151) rfl (l' := #[.val (.long q0), .second, .val (.long q1), .second, .val (.int p2), .val (.long q3), .second, .val (.long q4), .second, .val (.int p5), .val (.ref b1), .val (.ref b2), .val (.int (v0_20 p2)), .val (.int (v0_28 p5)), .val (.long (v0_61 p2 q0 p5 q3)), .second, .val (.long (v0_68 p2 q1 p5 q4)), .second, .val (.long (v0_75 p5 p2 q0 q3)), .second, .val (.long (v0_82 p5 p2 q1 q4)), .second, .val (.ref b12), .val (.int (v0_126 p2 q1 p5 q4 q0 q3)), .val (.int (v0_151 p5 p2 q1 q4 q0 q3)), .unset]) rfl k) ?_
  refine OwnFin.step (g' := (mkF m 155 #[.val (.long q0), .second, .val (.long q1), .second, .val (.int p2), .val (.long q3), .second, .val (.long q4), .second, .val (.int p5), .val (.ref b1), .val (.ref b2), .val (.int (v0_20 p2)), .val (.int (v0_28 p5)), .val (.long (v0_61 p2 q0 p5 q3)), .second, .val (.long (v0_68 p2 q1 p5 q4)), .second, .val (.long (v0_75 p5 p2 q0 q3)), .second, .val (.long (v0_82 p5 p2 q1 q4)), .second, .val (.ref b12), .val (.int (v0_126 p2 q1 p5 q4 q0 q3)), .val (.int (v0_151 p5 p2 q1 q4 q0 q3)), .unset] [(.ref b1)])) X18 (fun t k => XS.aload X18.here hx rfl (hb hby at_153) rfl rfl k) ?_
  refine OwnFin.step (g' := (mkF m 157 #[.val (.long q0), .second, .val (.long q1), .second, .val (.int p2), .val (.long q3), .second, .val (.long q4), .second, .val (.int p5), .val (.ref b1), .val (.ref b2), .val (.int (v0_20 p2)), .val (.int (v0_28 p5)), .val (.long (v0_61 p2 q0 p5 q3)), .second, .val (.long (v0_68 p2 q1 p5 q4)), .second, .val (.long (v0_75 p5 p2 q0 q3)), .second, .val (.long (v0_82 p5 p2 q1 q4)), .second, .val (.ref b12), .val (.int (v0_126 p2 q1 p5 q4 q0 q3)), .val (.int (v0_151 p5 p2 q1 q4 q0 q3)), .unset] [(.int (v0_20 p2)), (.ref b1)])) X18 (fun t k => XS.iload X18.here hx rfl (hb hby at_155) rfl k) ?_
  have A29 := (A19.keep K18 (ninS ne_b1_b2 nin0))
  refine OwnFin.step (g' := (mkF m 158 #[.val (.long q0), .second, .val (.long q1), .second, .val (.int p2), .val (.long q3), .second, .val (.long q4), .second, .val (.int p5), .val (.ref b1), .val (.ref b2), .val (.int (v0_20 p2)), .val (.int (v0_28 p5)), .val (.long (v0_61 p2 q0 p5 q3)), .second, .val (.long (v0_68 p2 q1 p5 q4)), .second, .val (.long (v0_75 p5 p2 q0 q3)), .second, .val (.long (v0_82 p5 p2 q1 q4)), .second, .val (.ref b12), .val (.int (v0_126 p2 q1 p5 q4 q0 q3)), .val (.int (v0_151 p5 p2 q1 q4 q0 q3)), .unset] [(.long ((G0_48 p2 q0 p5 q3) ((v0_20 p2)).toNatClampNeg))])) X18 (fun t k => own_ldJ X18 hx hZ e18 A29 (ib0_157 p2) rfl (g := (mkF m 157 #[.val (.long q0), .second, .val (.long q1), .second, .val (.int p2), .val (.long q3), .second, .val (.long q4), .second, .val (.int p5), .val (.ref b1), .val (.ref b2), .val (.int (v0_20 p2)), .val (.int (v0_28 p5)), .val (.long (v0_61 p2 q0 p5 q3)), .second, .val (.long (v0_68 p2 q1 p5 q4)), .second, .val (.long (v0_75 p5 p2 q0 q3)), .second, .val (.long (v0_82 p5 p2 q1 q4)), .second, .val (.ref b12), .val (.int (v0_126 p2 q1 p5 q4 q0 q3)), .val (.int (v0_151 p5 p2 q1 q4 q0 q3)), .unset] [(.int (v0_20 p2)), (.ref b1)])) rfl rfl (hb hby at_157) _ k) ?_
  refine OwnFin.step (g' := (mkF m 160 #[.val (.long q0), .second, .val (.long q1), .second, .val (.int p2), .val (.long q3), .second, .val (.long q4), .second, .val (.int p5), .val (.ref b1), .val (.ref b2), .val (.int (v0_20 p2)), .val (.int (v0_28 p5)), .val (.long (v0_61 p2 q0 p5 q3)), .second, .val (.long (v0_68 p2 q1 p5 q4)), .second, .val (.long (v0_75 p5 p2 q0 q3)), .second, .val (.long (v0_82 p5 p2 q1 q4)), .second, .val (.ref b12), .val (.int (v0_126 p2 q1 p5 q4 q0 q3)), .val (.int (v0_151 p5 p2 q1 q4 q0 q3)), .unset] [(.long (v0_61 p2 q0 p5 q3)), (.long ((G0_48 p2 q0 p5 q3) ((v0_20 p2)).toNatClampNeg))])) X18 (fun t k => XT.lload X18.here hx rfl (hb hby at_158) rfl k) ?_
  refine OwnFin.step (g' := (mkF m 161 #[.val (.long q0), .second, .val (.long q1), .second, .val (.int p2), .val (.long q3), .second, .val (.long q4), .second, .val (.int p5), .val (.ref b1), .val (.ref b2), .val (.int (v0_20 p2)), .val (.int (v0_28 p5)), .val (.long (v0_61 p2 q0 p5 q3)), .second, .val (.long (v0_68 p2 q1 p5 q4)), .second, .val (.long (v0_75 p5 p2 q0 q3)), .second, .val (.long (v0_82 p5 p2 q1 q4)), .second, .val (.ref b12), .val (.int (v0_126 p2 q1 p5 q4 q0 q3)), .val (.int (v0_151 p5 p2 q1 q4 q0 q3)), .unset] [(.int (XT.cmpL ((G0_48 p2 q0 p5 q3) ((v0_20 p2)).toNatClampNeg) (v0_61 p2 q0 p5 q3)))])) X18 (fun t k => XT.lcmp X18.here hx rfl (hb hby at_160) rfl k) ?_
  refine OwnFin.step (g' := (mkF m 164 #[.val (.long q0), .second, .val (.long q1), .second, .val (.int p2), .val (.long q3), .second, .val (.long q4), .second, .val (.int p5), .val (.ref b1), .val (.ref b2), .val (.int (v0_20 p2)), .val (.int (v0_28 p5)), .val (.long (v0_61 p2 q0 p5 q3)), .second, .val (.long (v0_68 p2 q1 p5 q4)), .second, .val (.long (v0_75 p5 p2 q0 q3)), .second, .val (.long (v0_82 p5 p2 q1 q4)), .second, .val (.ref b12), .val (.int (v0_126 p2 q1 p5 q4 q0 q3)), .val (.int (v0_151 p5 p2 q1 q4 q0 q3)), .unset] [])) X18 (fun t k => XS.ifNo X18.here hx rfl (hb hby at_161) rfl ((if0 _ _).trans (teq ((cl_eq _ _).mpr (br0_161 p2 q0 p5 q3))).2) k) ?_
  refine OwnFin.step (g' := (mkF m 166 #[.val (.long q0), .second, .val (.long q1), .second, .val (.int p2), .val (.long q3), .second, .val (.long q4), .second, .val (.int p5), .val (.ref b1), .val (.ref b2), .val (.int (v0_20 p2)), .val (.int (v0_28 p5)), .val (.long (v0_61 p2 q0 p5 q3)), .second, .val (.long (v0_68 p2 q1 p5 q4)), .second, .val (.long (v0_75 p5 p2 q0 q3)), .second, .val (.long (v0_82 p5 p2 q1 q4)), .second, .val (.ref b12), .val (.int (v0_126 p2 q1 p5 q4 q0 q3)), .val (.int (v0_151 p5 p2 q1 q4 q0 q3)), .unset] [(.ref b1)])) X18 (fun t k => XS.aload X18.here hx rfl (hb hby at_164) rfl rfl k) ?_
  refine OwnFin.step (g' := (mkF m 168 #[.val (.long q0), .second, .val (.long q1), .second, .val (.int p2), .val (.long q3), .second, .val (.long q4), .second, .val (.int p5), .val (.ref b1), .val (.ref b2), .val (.int (v0_20 p2)), .val (.int (v0_28 p5)), .val (.long (v0_61 p2 q0 p5 q3)), .second, .val (.long (v0_68 p2 q1 p5 q4)), .second, .val (.long (v0_75 p5 p2 q0 q3)), .second, .val (.long (v0_82 p5 p2 q1 q4)), .second, .val (.ref b12), .val (.int (v0_126 p2 q1 p5 q4 q0 q3)), .val (.int (v0_151 p5 p2 q1 q4 q0 q3)), .unset] [(.int (v0_28 p5)), (.ref b1)])) X18 (fun t k => XS.iload X18.here hx rfl (hb hby at_166) rfl k) ?_
  refine OwnFin.step (g' := (mkF m 169 #[.val (.long q0), .second, .val (.long q1), .second, .val (.int p2), .val (.long q3), .second, .val (.long q4), .second, .val (.int p5), .val (.ref b1), .val (.ref b2), .val (.int (v0_20 p2)), .val (.int (v0_28 p5)), .val (.long (v0_61 p2 q0 p5 q3)), .second, .val (.long (v0_68 p2 q1 p5 q4)), .second, .val (.long (v0_75 p5 p2 q0 q3)), .second, .val (.long (v0_82 p5 p2 q1 q4)), .second, .val (.ref b12), .val (.int (v0_126 p2 q1 p5 q4 q0 q3)), .val (.int (v0_151 p5 p2 q1 q4 q0 q3)), .unset] [(.long ((G0_48 p2 q0 p5 q3) ((v0_28 p5)).toNatClampNeg))])) X18 (fun t k => own_ldJ X18 hx hZ e18 A29 (ib0_168 p5) rfl (g := (mkF m 168 #[.val (.long q0), .second, .val (.long q1), .second, .val (.int p2), .val (.long q3), .second, .val (.long q4), .second, .val (.int p5), .val (.ref b1), .val (.ref b2), .val (.int (v0_20 p2)), .val (.int (v0_28 p5)), .val (.long (v0_61 p2 q0 p5 q3)), .second, .val (.long (v0_68 p2 q1 p5 q4)), .second, .val (.long (v0_75 p5 p2 q0 q3)), .second, .val (.long (v0_82 p5 p2 q1 q4)), .second, .val (.ref b12), .val (.int (v0_126 p2 q1 p5 q4 q0 q3)), .val (.int (v0_151 p5 p2 q1 q4 q0 q3)), .unset] [(.int (v0_28 p5)), (.ref b1)])) rfl rfl (hb hby at_168) _ k) ?_
  refine OwnFin.step (g' := (mkF m 171 #[.val (.long q0), .second, .val (.long q1), .second, .val (.int p2), .val (.long q3), .second, .val (.long q4), .second, .val (.int p5), .val (.ref b1), .val (.ref b2), .val (.int (v0_20 p2)), .val (.int (v0_28 p5)), .val (.long (v0_61 p2 q0 p5 q3)), .second, .val (.long (v0_68 p2 q1 p5 q4)), .second, .val (.long (v0_75 p5 p2 q0 q3)), .second, .val (.long (v0_82 p5 p2 q1 q4)), .second, .val (.ref b12), .val (.int (v0_126 p2 q1 p5 q4 q0 q3)), .val (.int (v0_151 p5 p2 q1 q4 q0 q3)), .unset] [(.long (v0_75 p5 p2 q0 q3)), (.long ((G0_48 p2 q0 p5 q3) ((v0_28 p5)).toNatClampNeg))])) X18 (fun t k => XT.lload X18.here hx rfl (hb hby at_169) rfl k) ?_
  refine OwnFin.step (g' := (mkF m 172 #[.val (.long q0), .second, .val (.long q1), .second, .val (.int p2), .val (.long q3), .second, .val (.long q4), .second, .val (.int p5), .val (.ref b1), .val (.ref b2), .val (.int (v0_20 p2)), .val (.int (v0_28 p5)), .val (.long (v0_61 p2 q0 p5 q3)), .second, .val (.long (v0_68 p2 q1 p5 q4)), .second, .val (.long (v0_75 p5 p2 q0 q3)), .second, .val (.long (v0_82 p5 p2 q1 q4)), .second, .val (.ref b12), .val (.int (v0_126 p2 q1 p5 q4 q0 q3)), .val (.int (v0_151 p5 p2 q1 q4 q0 q3)), .unset] [(.int (XT.cmpL ((G0_48 p2 q0 p5 q3) ((v0_28 p5)).toNatClampNeg) (v0_75 p5 p2 q0 q3)))])) X18 (fun t k => XT.lcmp X18.here hx rfl (hb hby at_171) rfl k) ?_
  refine OwnFin.step (g' := (mkF m 175 #[.val (.long q0), .second, .val (.long q1), .second, .val (.int p2), .val (.long q3), .second, .val (.long q4), .second, .val (.int p5), .val (.ref b1), .val (.ref b2), .val (.int (v0_20 p2)), .val (.int (v0_28 p5)), .val (.long (v0_61 p2 q0 p5 q3)), .second, .val (.long (v0_68 p2 q1 p5 q4)), .second, .val (.long (v0_75 p5 p2 q0 q3)), .second, .val (.long (v0_82 p5 p2 q1 q4)), .second, .val (.ref b12), .val (.int (v0_126 p2 q1 p5 q4 q0 q3)), .val (.int (v0_151 p5 p2 q1 q4 q0 q3)), .unset] [])) X18 (fun t k => XS.ifNo X18.here hx rfl (hb hby at_172) rfl ((if0 _ _).trans (teq ((cl_eq _ _).mpr (br0_172 p5 p2 q0 q3))).2) k) ?_
  refine OwnFin.step (g' := (mkF m 176 #[.val (.long q0), .second, .val (.long q1), .second, .val (.int p2), .val (.long q3), .second, .val (.long q4), .second, .val (.int p5), .val (.ref b1), .val (.ref b2), .val (.int (v0_20 p2)), .val (.int (v0_28 p5)), .val (.long (v0_61 p2 q0 p5 q3)), .second, .val (.long (v0_68 p2 q1 p5 q4)), .second, .val (.long (v0_75 p5 p2 q0 q3)), .second, .val (.long (v0_82 p5 p2 q1 q4)), .second, .val (.ref b12), .val (.int (v0_126 p2 q1 p5 q4 q0 q3)), .val (.int (v0_151 p5 p2 q1 q4 q0 q3)), .unset] [(.int (1 : Int32))])) X18 (fun t k => XS.iconst X18.here hx rfl (hb hby at_175) k) ?_
  refine OwnFin.step (g' := (mkF m 180 #[.val (.long q0), .second, .val (.long q1), .second, .val (.int p2), .val (.long q3), .second, .val (.long q4), .second, .val (.int p5), .val (.ref b1), .val (.ref b2), .val (.int (v0_20 p2)), .val (.int (v0_28 p5)), .val (.long (v0_61 p2 q0 p5 q3)), .second, .val (.long (v0_68 p2 q1 p5 q4)), .second, .val (.long (v0_75 p5 p2 q0 q3)), .second, .val (.long (v0_82 p5 p2 q1 q4)), .second, .val (.ref b12), .val (.int (v0_126 p2 q1 p5 q4 q0 q3)), .val (.int (v0_151 p5 p2 q1 q4 q0 q3)), .unset] [(.int (1 : Int32))])) X18 (fun t k => XS.goto X18.here hx rfl (pc0 := 176) (pc' := 180) rfl (hb hby at_176) (by decide) (by decide) k) ?_
  refine OwnFin.step (g' := (mkF m 182 #[.val (.long q0), .second, .val (.long q1), .second, .val (.int p2), .val (.long q3), .second, .val (.long q4), .second, .val (.int p5), .val (.ref b1), .val (.ref b2), .val (.int (v0_20 p2)), .val (.int (v0_28 p5)), .val (.long (v0_61 p2 q0 p5 q3)), .second, .val (.long (v0_68 p2 q1 p5 q4)), .second, .val (.long (v0_75 p5 p2 q0 q3)), .second, .val (.long (v0_82 p5 p2 q1 q4)), .second, .val (.ref b12), .val (.int (v0_126 p2 q1 p5 q4 q0 q3)), .val (.int (v0_151 p5 p2 q1 q4 q0 q3)), .val (.int (1 : Int32))] [])) X18 (fun t k => XS.istore X18.here hx rfl (hb hby at_180) rfl (l' := #[.val (.long q0), .second, .val (.long q1), .second, .val (.int p2), .val (.long q3), .second, .val (.long q4), .second, .val (.int p5), .val (.ref b1), .val (.ref b2), .val (.int (v0_20 p2)), .val (.int (v0_28 p5)), .val (.long (v0_61 p2 q0 p5 q3)), .second, .val (.long (v0_68 p2 q1 p5 q4)), .second, .val (.long (v0_75 p5 p2 q0 q3)), .second, .val (.long (v0_82 p5 p2 q1 q4)), .second, .val (.ref b12), .val (.int (v0_126 p2 q1 p5 q4 q0 q3)), .val (.int (v0_151 p5 p2 q1 q4 q0 q3)), .val (.int (1 : Int32))]) rfl k) ?_
  refine OwnFin.step (g' := (mkF m 184 #[.val (.long q0), .second, .val (.long q1), .second, .val (.int p2), .val (.long q3), .second, .val (.long q4), .second, .val (.int p5), .val (.ref b1), .val (.ref b2), .val (.int (v0_20 p2)), .val (.int (v0_28 p5)), .val (.long (v0_61 p2 q0 p5 q3)), .second, .val (.long (v0_68 p2 q1 p5 q4)), .second, .val (.long (v0_75 p5 p2 q0 q3)), .second, .val (.long (v0_82 p5 p2 q1 q4)), .second, .val (.ref b12), .val (.int (v0_126 p2 q1 p5 q4 q0 q3)), .val (.int (v0_151 p5 p2 q1 q4 q0 q3)), .val (.int (1 : Int32))] [(.int (v0_126 p2 q1 p5 q4 q0 q3))])) X18 (fun t k => XS.iload X18.here hx rfl (hb hby at_182) rfl k) ?_
  refine OwnFin.step (g' := (mkF m 187 #[.val (.long q0), .second, .val (.long q1), .second, .val (.int p2), .val (.long q3), .second, .val (.long q4), .second, .val (.int p5), .val (.ref b1), .val (.ref b2), .val (.int (v0_20 p2)), .val (.int (v0_28 p5)), .val (.long (v0_61 p2 q0 p5 q3)), .second, .val (.long (v0_68 p2 q1 p5 q4)), .second, .val (.long (v0_75 p5 p2 q0 q3)), .second, .val (.long (v0_82 p5 p2 q1 q4)), .second, .val (.ref b12), .val (.int (v0_126 p2 q1 p5 q4 q0 q3)), .val (.int (v0_151 p5 p2 q1 q4 q0 q3)), .val (.int (1 : Int32))] [])) X18 (fun t k => XS.ifNo X18.here hx rfl (hb hby at_184) rfl ((if0 _ _).trans (feq (br0_184 p2 q1 p5 q4 q0 q3)).1) k) ?_
  refine OwnFin.step (g' := (mkF m 189 #[.val (.long q0), .second, .val (.long q1), .second, .val (.int p2), .val (.long q3), .second, .val (.long q4), .second, .val (.int p5), .val (.ref b1), .val (.ref b2), .val (.int (v0_20 p2)), .val (.int (v0_28 p5)), .val (.long (v0_61 p2 q0 p5 q3)), .second, .val (.long (v0_68 p2 q1 p5 q4)), .second, .val (.long (v0_75 p5 p2 q0 q3)), .second, .val (.long (v0_82 p5 p2 q1 q4)), .second, .val (.ref b12), .val (.int (v0_126 p2 q1 p5 q4 q0 q3)), .val (.int (v0_151 p5 p2 q1 q4 q0 q3)), .val (.int (1 : Int32))] [(.int (v0_151 p5 p2 q1 q4 q0 q3))])) X18 (fun t k => XS.iload X18.here hx rfl (hb hby at_187) rfl k) ?_
  refine OwnFin.step (g' := (mkF m 192 #[.val (.long q0), .second, .val (.long q1), .second, .val (.int p2), .val (.long q3), .second, .val (.long q4), .second, .val (.int p5), .val (.ref b1), .val (.ref b2), .val (.int (v0_20 p2)), .val (.int (v0_28 p5)), .val (.long (v0_61 p2 q0 p5 q3)), .second, .val (.long (v0_68 p2 q1 p5 q4)), .second, .val (.long (v0_75 p5 p2 q0 q3)), .second, .val (.long (v0_82 p5 p2 q1 q4)), .second, .val (.ref b12), .val (.int (v0_126 p2 q1 p5 q4 q0 q3)), .val (.int (v0_151 p5 p2 q1 q4 q0 q3)), .val (.int (1 : Int32))] [])) X18 (fun t k => XS.ifNo X18.here hx rfl (hb hby at_189) rfl ((if0 _ _).trans (feq (br0_189 p5 p2 q1 q4 q0 q3)).1) k) ?_
  refine OwnFin.step (g' := (mkF m 194 #[.val (.long q0), .second, .val (.long q1), .second, .val (.int p2), .val (.long q3), .second, .val (.long q4), .second, .val (.int p5), .val (.ref b1), .val (.ref b2), .val (.int (v0_20 p2)), .val (.int (v0_28 p5)), .val (.long (v0_61 p2 q0 p5 q3)), .second, .val (.long (v0_68 p2 q1 p5 q4)), .second, .val (.long (v0_75 p5 p2 q0 q3)), .second, .val (.long (v0_82 p5 p2 q1 q4)), .second, .val (.ref b12), .val (.int (v0_126 p2 q1 p5 q4 q0 q3)), .val (.int (v0_151 p5 p2 q1 q4 q0 q3)), .val (.int (1 : Int32))] [(.int (1 : Int32))])) X18 (fun t k => XS.iload X18.here hx rfl (hb hby at_192) rfl k) ?_
  refine OwnFin.step (g' := (mkF m 197 #[.val (.long q0), .second, .val (.long q1), .second, .val (.int p2), .val (.long q3), .second, .val (.long q4), .second, .val (.int p5), .val (.ref b1), .val (.ref b2), .val (.int (v0_20 p2)), .val (.int (v0_28 p5)), .val (.long (v0_61 p2 q0 p5 q3)), .second, .val (.long (v0_68 p2 q1 p5 q4)), .second, .val (.long (v0_75 p5 p2 q0 q3)), .second, .val (.long (v0_82 p5 p2 q1 q4)), .second, .val (.ref b12), .val (.int (v0_126 p2 q1 p5 q4 q0 q3)), .val (.int (v0_151 p5 p2 q1 q4 q0 q3)), .val (.int (1 : Int32))] [])) X18 (fun t k => XS.ifNo X18.here hx rfl (hb hby at_194) rfl ((if0 _ _).trans (feq (by decide)).1) k) ?_
  refine OwnFin.step (g' := (mkF m 198 #[.val (.long q0), .second, .val (.long q1), .second, .val (.int p2), .val (.long q3), .second, .val (.long q4), .second, .val (.int p5), .val (.ref b1), .val (.ref b2), .val (.int (v0_20 p2)), .val (.int (v0_28 p5)), .val (.long (v0_61 p2 q0 p5 q3)), .second, .val (.long (v0_68 p2 q1 p5 q4)), .second, .val (.long (v0_75 p5 p2 q0 q3)), .second, .val (.long (v0_82 p5 p2 q1 q4)), .second, .val (.ref b12), .val (.int (v0_126 p2 q1 p5 q4 q0 q3)), .val (.int (v0_151 p5 p2 q1 q4 q0 q3)), .val (.int (1 : Int32))] [(.int (1 : Int32))])) X18 (fun t k => XS.iconst X18.here hx rfl (hb hby at_197) k) ?_
  refine OwnFin.step (g' := (mkF m 202 #[.val (.long q0), .second, .val (.long q1), .second, .val (.int p2), .val (.long q3), .second, .val (.long q4), .second, .val (.int p5), .val (.ref b1), .val (.ref b2), .val (.int (v0_20 p2)), .val (.int (v0_28 p5)), .val (.long (v0_61 p2 q0 p5 q3)), .second, .val (.long (v0_68 p2 q1 p5 q4)), .second, .val (.long (v0_75 p5 p2 q0 q3)), .second, .val (.long (v0_82 p5 p2 q1 q4)), .second, .val (.ref b12), .val (.int (v0_126 p2 q1 p5 q4 q0 q3)), .val (.int (v0_151 p5 p2 q1 q4 q0 q3)), .val (.int (1 : Int32))] [(.int (1 : Int32))])) X18 (fun t k => XS.goto X18.here hx rfl (pc0 := 198) (pc' := 202) rfl (hb hby at_198) (by decide) (by decide) k) ?_
  refine OwnFin.retNar X18 (by simp) (hb hby at_202) (by decide) (by decide) ?_
  exact ⟨rfl, N18⟩
set_option maxRecDepth 65536 in
set_option maxHeartbeats 40000000 in
theorem rm0 (l : Launch) (Z : State) (a0 : Array Value) (hw : ∀ d ∈ tables_1, d.before a0 Z = true) (ws : List Jvm.Cond) (q0 : Int64) (q1 : Int64) (p2 : Int32) (q3 : Int64) (q4 : Int64) (p5 : Int32) (h0 : Heap) (n0 : Nat) (Z0 : n0 ≤ h0.size) :
    MetFree l x (head1 (Jvm.Cond.code x code maxLocals ret :: ws) room_1) (fun a U => a = #[(.long q0), (.long q1), (.int p2), (.long q3), (.long q4), (.int p5)] ∧ Z.Warmed39 U.vm ∧ U.heap = h0) (fun _ _ _ _ _ => True) (fun _ U o U' => ∃ v L, o = .returned v ∧ (LQ n0) v U'.heap L ∧ FrameEnd U o U' L room_1.cells room_1.slots) :=
  own_met (ret := ret) (Q := (LQ n0)) (plainFor_of_name pn_0) (fun m => ef_0 m q0 q1 p2 q3 q4 p5) (fun p e s m below meth c s₁ X hx hby hml hown hnm hZ e0 => j0 X hx hZ hw hby hml hown hnm e0 (Fr.nil n0) Z0 q0 q1 p2 q3 q4 p5)
set_option maxRecDepth 65536 in
set_option maxHeartbeats 40000000 in
theorem comes_1 {Post : Tables → Env → Array Value → State → Outcome → State → Prop} (hpost : ∀ tb e args s v u, (limb_1_1.after args s (.returned v) u = true ∧ limb_1_2.after args s (.returned v) u = true ∧ True) → FrameEnd s (.returned v) u (Jvm.fieldLocs frame_1_writes args s ++ Jvm.arrayLocs frame_1_arrays args s ++ Jvm.staticLocs frame_1_statics s) 16 4224 → Post tb e args s (.returned v) u) :
    ArmFor flags0 classFile x code maxLocals ret World_1 tables_1 room_1 Calls_1 rest_1 Pre_1 Post := by
  intro l hfl _ _ p e ha hc hk s m args below hf hA hF happ hP
  obtain ⟨hcalls, hrest, hpre⟩ := hP
  obtain ⟨-, -, -, hnamed, -, -, -, hat⟩ := (Spec.applies_iff hf).mp happ
  obtain ⟨hg, hn⟩ := and_e (Cond.before_iff.mp (show (Jvm.Cond.and given_1 narrow_1).before args s = true from hpre))
  obtain ⟨g1, g2⟩ := and_e hg
  obtain ⟨g3, g4⟩ := and_e g2
  obtain ⟨g5, g6⟩ := and_e g4
  obtain ⟨g7, g8⟩ := and_e g6
  obtain ⟨g9, g10⟩ := and_e g8
  obtain ⟨g11, g12⟩ := and_e g10
  obtain ⟨w0, w1, w2, w3, w4, w5, rfl⟩ : ∃ w0 w1 w2 w3 w4 w5 : Value, args = #[w0, w1, w2, w3, w4, w5] := by
    have hs : args.size = 6 := by simpa [Cond.value, given_1] using g1
    obtain ⟨L⟩ := args
    match L, hs with
    | [w0, w1, w2, w3, w4, w5], _ => exact ⟨w0, w1, w2, w3, w4, w5, rfl⟩
  have hw := fun d (hd : d ∈ tables_1) => atoms_spec (ws := Jvm.Cond.code x code maxLocals ret :: tables_1) hat d (List.mem_cons_of_mem _ hd)
  obtain ⟨i0, ei0⟩ := isL_v g3
  obtain rfl : w0 = (.long i0) := Option.some.inj ei0
  obtain ⟨i1, ei1⟩ := isL_v g5
  obtain rfl : w1 = (.long i1) := Option.some.inj ei1
  obtain ⟨i2, ei2⟩ := is_v g7
  obtain rfl : w2 = (.int i2) := Option.some.inj ei2
  obtain ⟨i3, ei3⟩ := isL_v g9
  obtain rfl : w3 = (.long i3) := Option.some.inj ei3
  obtain ⟨i4, ei4⟩ := isL_v g11
  obtain rfl : w4 = (.long i4) := Option.some.inj ei4
  obtain ⟨i5, ei5⟩ := is_v g12
  obtain rfl : w5 = (.int i5) := Option.some.inj ei5
  obtain ⟨n, o, h1, h2, h3, _, L, rfl, ⟨rfl, N⟩, hq⟩ := rm0 l s _ hw tables_1 i0 i1 i2 i3 i4 i5 s.heap s.heap.size (Nat.le_refl _) p e ha hc hk s m _ below hf ((Spec.applies_iff_loose hf).mp happ).1 ⟨rfl, State.Warmed39.refl s, rfl⟩ trivial
  refine ⟨n, _, h1, h2, h3, hpost _ _ _ _ _ _ ⟨Cond.after_iff.mpr rfl, Cond.after_iff.mpr (eq_i res_at (Term.int_eval (1)) rfl), trivial⟩ ⟨hq.1, hq.2.1, (hq.2.2.sift fun y hy => Or.inr (N y hy)).mono (by decide) (by decide)⟩⟩
theorem main_1_1 : Claimed_1_1 := comes_1 fun _ _ _ _ _ _ h hF => ⟨h.1, hF⟩
theorem main_1_2 : Claimed_1_2 := comes_1 fun _ _ _ _ _ _ h hF => ⟨h.2.1, hF⟩
end Jvm.Pilot.@@N@@
namespace Jvm.Pilot.@@N@@
open Jvm Jvm.ClassFile Sem Op Lib Jvm.Free Jvm.Stand Jvm.Pilot.@@N@@.Jvm.D
/-! MADE BY PROGRAM (witnessworld.py) out of the Statement's table words and the real class files: 12 classes; the members and pool entries that the words name. The judged class is class 1, her method 1. -/
namespace start1
open Jvm.ClassFile
def u (s : String) : CpInfo := .utf8 (stringToUtf16 s)
/-- a pool by its gaps: so many unusable entries, then the entry; so many at the end -/
def gap : Nat → List CpInfo → List CpInfo
  | 0, r => r
  | n + 1, r => .unusable :: gap n r
def poolList (es : List (Nat × CpInfo)) (last : Nat) : List CpInfo := es.foldr (fun e r => gap e.1 (e.2 :: r)) (gap last [])
def pool (es : List (Nat × CpInfo)) (last : Nat) : Array CpInfo := ⟨poolList es last⟩
def fileOf (pool : Array CpInfo) (this : Nat) (attrs : Array Attribute := #[]) (ms : Array MethodInfo := #[]) (fl : Nat := 33) (sup : Nat := 0) (ifs : Array Nat := #[]) (fds : Array FieldInfo := #[]) : ClassFile where
  minorVersion := 0
  majorVersion := 65
  constantPool := pool
  accessFlags := fl
  thisClass := this
  superClass := sup
  interfaces := ifs
  fields := fds
  methods := ms
  attributes := attrs
def plain (name : String) (sup : Option ClassId) : Class where
  name := name
  kind := .ordinary
  loader := none
  accessFlags := 33
  super := sup
  interfaces := #[]
  cf := none
  fields := #[]
  methods := #[]
  instanceTypes := #[]
  staticTypes := #[]
  resolved := #[]
  callSites := []
  init := .initialized
  statics := none
  mirror := none

def pool0 : Array CpInfo := pool [(5, u "<init>"), (0, u "()V"), (1, .class_ 10), (1, u "java/lang/Object")] 113

def k0c0 : Code := { maxStack := 0, maxLocals := 1, code := object_method_1_code, exceptionTable := #[], attributes := #[] }
def k0m0 : Method := { name := "<init>", desc := "()V", sig := { parameters := [], returnType := none }, accessFlags := 1, code := some k0c0 }
/-- java/lang/Object -/
def k0 : Class := { plain "java/lang/Object" none with
  accessFlags := 33
  interfaces := #[]
  cf := some (fileOf pool0 8 #[] #[{ accessFlags := 1, nameIndex := 5, descriptorIndex := 6, attributes := #[] }] 33 0 #[] #[])
  fields := #[]
  methods := #[k0m0]
  instanceTypes := #[]
  staticTypes := #[]
  resolved := Array.replicate 124 none
  statics := none }

def pool1 : Array CpInfo := pool [(2, .class_ 4), (1, u "java/lang/Object"), (0, u "<init>"), (0, u "()V"), (0, .class_ 8), (0, u "com/example/stria/stria/container/BitmapContainer"), (0, .methodref 7 10), (0, .nameAndType 5 11), (0, u "([JI)V"), (0, .methodref 7 13), (0, .nameAndType 14 15), (0, u "andNotInto"), (0, u "([J)V"), (0, .long 18446744073709551615), (1, .class_ 19), (0, u "com/example/stria/stria/container/BitmapContainerAndNotIntoPinLaw"), (2, u "law"), (0, u "(JJIJJI)Z")] 5

def k1m0 : Method := { name := "<init>", desc := "()V", sig := { parameters := [], returnType := none }, accessFlags := 1, code := none }
def k1c1 : Code := { maxStack := 8, maxLocals := 26, code := code, exceptionTable := #[], attributes := #[] }
def k1m1 : Method := { name := "law", desc := "(JJIJJI)Z", sig := { parameters := [.long, .long, .int, .long, .long, .int], returnType := some .boolean }, accessFlags := 9, code := some k1c1 }
/-- com/example/stria/stria/container/BitmapContainerAndNotIntoPinLaw -/
def k1 : Class := { plain "com/example/stria/stria/container/BitmapContainerAndNotIntoPinLaw" (some 0) with
  accessFlags := 49
  interfaces := #[]
  cf := some (fileOf pool1 18 #[] #[{ accessFlags := 1, nameIndex := 5, descriptorIndex := 6, attributes := #[] }, { accessFlags := 9, nameIndex := 22, descriptorIndex := 23, attributes := #[] }] 49 2 #[] #[])
  fields := #[]
  methods := #[k1m0, k1m1]
  instanceTypes := #[]
  staticTypes := #[]
  resolved := Array.replicate 29 none
  statics := none }

def pool2 : Array CpInfo := pool [(1, .class_ 2), (0, u "com/example/stria/stria/container/Container"), (2, .methodref 6 7), (0, .class_ 8), (0, .nameAndType 9 10), (0, u "java/lang/Object"), (0, u "<init>"), (0, u "()V"), (2, u "EMPTY"), (0, u "Lcom/example/stria/stria/container/Container;"), (14, u "EVERY_WORD"), (0, u "[I"), (128, u "CAPACITY"), (0, u "I"), (1, u "WORDS"), (1, u "ARRAY_MAX"), (1, u "BITMAP_BYTES")] 58

def k2c0 : Code := { maxStack := 1, maxLocals := 1, code := prog_28_method_1_code, exceptionTable := #[], attributes := #[] }
def k2m0 : Method := { name := "<init>", desc := "()V", sig := { parameters := [], returnType := none }, accessFlags := 0, code := some k2c0 }
/-- com/example/stria/stria/container/Container -/
def k2 : Class := { plain "com/example/stria/stria/container/Container" (some 0) with
  accessFlags := 1057
  interfaces := #[]
  cf := some (fileOf pool2 1 #[] #[{ accessFlags := 0, nameIndex := 9, descriptorIndex := 10, attributes := #[] }] 1057 6 #[] #[{ accessFlags := 25, nameIndex := 159, descriptorIndex := 160, attributes := #[] }, { accessFlags := 25, nameIndex := 162, descriptorIndex := 160, attributes := #[] }, { accessFlags := 25, nameIndex := 164, descriptorIndex := 160, attributes := #[] }, { accessFlags := 24, nameIndex := 166, descriptorIndex := 160, attributes := #[] }, { accessFlags := 26, nameIndex := 13, descriptorIndex := 14, attributes := #[] }, { accessFlags := 26, nameIndex := 29, descriptorIndex := 30, attributes := #[] }])
  fields := #[{ name := "CAPACITY", type := .int, accessFlags := 25, slot := 0, constantValue := 0 }, { name := "WORDS", type := .int, accessFlags := 25, slot := 1, constantValue := 0 }, { name := "ARRAY_MAX", type := .int, accessFlags := 25, slot := 2, constantValue := 0 }, { name := "BITMAP_BYTES", type := .int, accessFlags := 24, slot := 3, constantValue := 0 }, { name := "EMPTY", type := (.object "com/example/stria/stria/container/Container"), accessFlags := 26, slot := 4, constantValue := 0 }, { name := "EVERY_WORD", type := (.array .int), accessFlags := 26, slot := 5, constantValue := 0 }]
  methods := #[k2m0]
  instanceTypes := #[]
  staticTypes := #[.int, .int, .int, .int, (.object "com/example/stria/stria/container/Container"), (.array .int)]
  resolved := Array.replicate 225 none
  statics := none }

def pool3 : Array CpInfo := pool [(1, .methodref 2 3), (0, .class_ 4), (0, .nameAndType 5 6), (0, u "com/example/stria/stria/container/Container"), (0, u "<init>"), (0, u "()V"), (0, .fieldref 8 9), (0, .class_ 10), (0, .nameAndType 11 12), (0, u "com/example/stria/stria/container/BitmapContainer"), (0, u "words"), (0, u "[J"), (0, .fieldref 8 14), (0, .nameAndType 15 16), (0, u "cardinality"), (0, u "I"), (16, .class_ 34), (0, u "com/example/stria/stria/container/BitmapContainer$1"), (3, .long 18446744073709551615), (17, u "([JI)V"), (17, u "([J)V"), (1, u "andNotInto")] 11

def k3c0 : Code := { maxStack := 2, maxLocals := 3, code := prog_25_method_1_code, exceptionTable := #[], attributes := #[] }
def k3m0 : Method := { name := "<init>", desc := "([JI)V", sig := { parameters := [(.array .long), .int], returnType := none }, accessFlags := 0, code := some k3c0 }
def k3c1 : Code := { maxStack := 8, maxLocals := 3, code := prog_25_method_12_code, exceptionTable := #[], attributes := #[] }
def k3m1 : Method := { name := "andNotInto", desc := "([J)V", sig := { parameters := [(.array .long)], returnType := none }, accessFlags := 1, code := some k3c1 }
/-- com/example/stria/stria/container/BitmapContainer -/
def k3 : Class := { plain "com/example/stria/stria/container/BitmapContainer" (some 2) with
  accessFlags := 48
  interfaces := #[]
  cf := some (fileOf pool3 8 #[.nestMembers #[33]] #[{ accessFlags := 0, nameIndex := 5, descriptorIndex := 56, attributes := #[] }, { accessFlags := 1, nameIndex := 76, descriptorIndex := 74, attributes := #[] }] 48 2 #[] #[{ accessFlags := 18, nameIndex := 11, descriptorIndex := 12, attributes := #[] }, { accessFlags := 18, nameIndex := 15, descriptorIndex := 16, attributes := #[] }])
  fields := #[{ name := "words", type := (.array .long), accessFlags := 18, slot := 0, constantValue := 0 }, { name := "cardinality", type := .int, accessFlags := 18, slot := 1, constantValue := 0 }]
  methods := #[k3m0, k3m1]
  instanceTypes := #[(.array .long), .int]
  staticTypes := #[]
  resolved := Array.replicate 88 none
  statics := none }

def pool4 : Array CpInfo := pool [(1, u "java/lang/Cloneable"), (0, .class_ 1), (0, u "java/lang/Object"), (0, .class_ 3)] 3

/-- java/lang/Cloneable -/
def k4 : Class := { plain "java/lang/Cloneable" (some 0) with
  accessFlags := 1537
  interfaces := #[]
  cf := some (fileOf pool4 2 #[] #[] 1537 4 #[] #[])
  fields := #[]
  methods := #[]
  instanceTypes := #[]
  staticTypes := #[]
  resolved := Array.replicate 8 none
  statics := none }

def pool5 : Array CpInfo := pool [(1, u "java/io/Serializable"), (0, .class_ 1), (0, u "java/lang/Object"), (0, .class_ 3)] 3

/-- java/io/Serializable -/
def k5 : Class := { plain "java/io/Serializable" (some 0) with
  accessFlags := 1537
  interfaces := #[]
  cf := some (fileOf pool5 2 #[] #[] 1537 4 #[] #[])
  fields := #[]
  methods := #[]
  instanceTypes := #[]
  staticTypes := #[]
  resolved := Array.replicate 8 none
  statics := none }

/-- the primitive byte -/
def k6 : Class := { plain "byte" none with kind := .primitive 'B', accessFlags := 0x411 }
/-- [B -/
def k7 : Class := { plain "[B" (some 0) with kind := .array 6 .byte, interfaces := #[4, 5], accessFlags := 1041 }

/-- the primitive int -/
def k8 : Class := { plain "int" none with kind := .primitive 'I', accessFlags := 0x411 }
/-- [I -/
def k9 : Class := { plain "[I" (some 0) with kind := .array 8 .int, interfaces := #[4, 5], accessFlags := 1041 }

/-- the primitive long -/
def k10 : Class := { plain "long" none with kind := .primitive 'J', accessFlags := 0x411 }
/-- [J -/
def k11 : Class := { plain "[J" (some 0) with kind := .array 10 .long, interfaces := #[4, 5], accessFlags := 1041 }

def heap : Heap := #[]
def classes : Array Class := #[k0, k1, k2, k3, k4, k5, k6, k7, k8, k9, k10, k11]
def interned : List (Array UInt16 × Addr) := []
def slotsUsed : Nat := 0
def theMethod : MethodId := ⟨1, 1⟩
def args0 : Array Value := #[.long 5, .long 6, .int 7, .long 8, .long 9, .int 10]
def aboutOver (below : List Frame) : State where
  vm := { classes := classes, interned := interned.toArray }
  heap := heap
  slotsUsed := slotsUsed
  threads := #[{ frames := .invoking theMethod args0 :: below }]
def below0 : List Frame := [.native { method := ⟨0, 0⟩, args := #[] }]
def about1 : State := aboutOver below0
def p0 : Program := .bare "" "" ""
def e0 : Env := launch0.env 0 0 0
theorem w_frames : about1.frames = Frame.invoking theMethod args0 :: below0 := rfl
set_option maxRecDepth 65536 in
theorem w_args : argsFit about1.vm theMethod args0 = true := by decide +kernel
set_option maxRecDepth 65536 in
theorem w_heap : heapFits about1 = true := by decide +kernel
set_option maxRecDepth 65536 in
theorem w_runnable : about1.curStatus? = some .runnable := by decide +kernel
set_option maxRecDepth 65536 in
theorem w_alone : about1.alone = true := by decide +kernel
set_option maxRecDepth 65536 in
theorem w_named : about1.methodNamed? x = some theMethod := by decide +kernel
set_option maxRecDepth 65536 in
theorem w_hears : about1.hears theMethod below0 = true := by decide +kernel
set_option maxRecDepth 65536 in
theorem w_ripe : about1.ripe theMethod args0 below0 = true := by decide +kernel
theorem w_running : about1.status = .running := rfl
set_option maxRecDepth 65536 in
theorem w_room : about1.hasRoom e0.platform room_1 = true :=
  launch0.hasRoom_least _ room_1 (by decide +kernel) (by decide +kernel) (by decide +kernel) (by decide +kernel) (by decide +kernel) (by decide +kernel)
theorem allAtoms_all (ts : List Jvm.Cond) (a : Array Jvm.Value) (st : Jvm.State) : (allAtoms ts).before a st = ts.all (fun c => c.before a st) := by
  induction ts with
  | nil => rfl
  | cons c t ih =>
    show (Jvm.Cond.and c (allAtoms t)).before a st = _
    rw [Jvm.Cond.before_and, ih, List.all_cons]
def words1 : List Jvm.Cond := Jvm.Cond.code x code maxLocals ret :: tables_1
/-- a 'code' word, met by the world's own term for the bytes: nothing is compared byte by byte -/
theorem code_word {y : MethodName} {bytes : ByteArray} {mx : Nat} {rt : Option FieldType} {a : Array Value} {s : State} {m : MethodId} {meth : Method} {c : Code} (h1 : s.methodNamed? y = some m) (h2 : s.vm.method? m = some meth) (h3 : meth.code = some c) (h4 : c.code = bytes)
    (h5 : (c.maxLocals == mx && c.exceptionTable.isEmpty && decide (c.maxStack ≤ mostOperands) && decide (meth.sig.returnType = rt) && !meth.locks && decide (parseMethodDescriptor y.desc = some meth.sig)) = true) : (Jvm.Cond.code y bytes mx rt).before a s = true := by
  simp only [Bool.and_eq_true, beq_iff_eq, Bool.not_eq_true', decide_eq_true_eq] at h5
  obtain ⟨⟨⟨⟨⟨g1, g2⟩, g3⟩, g4⟩, g5⟩, g6⟩ := h5
  simp [Cond.before, Cond.holds, Cond.value, h1, h2, h3, h4, g1, g2, g3, g4, g5, g6]
def isCode : Jvm.Cond → Bool
  | .code _ _ _ _ => true
  | _ => false
theorem all_split {L : List Jvm.Cond} {P : Jvm.Cond → Bool} (h1 : L.all (fun c => isCode c || P c) = true) (h2 : ∀ c ∈ L.filter isCode, P c = true) : L.all P = true := by
  refine List.all_eq_true.mpr fun c hc => ?_
  have h := List.all_eq_true.mp h1 c hc
  rcases Bool.eq_false_or_eq_true (isCode c) with hi | hi
  · exact h2 c (List.mem_filter.mpr ⟨hc, hi⟩)
  · simpa [hi] using h
set_option maxRecDepth 65536 in
theorem w_c0 : (Jvm.Cond.code x code maxLocals ret).before args0 about1 = true := code_word (m := ⟨1, 1⟩) (meth := k1m1) (c := k1c1) (by decide +kernel) rfl rfl rfl (by decide +kernel)
set_option maxRecDepth 65536 in
theorem w_c1 : (Jvm.Cond.code ({ cls := "com/example/stria/stria/container/BitmapContainer", name := "<init>", desc := "([JI)V" } : Jvm.MethodName) prog_25_method_1_code (3 : Nat) (Option.none : Option Jvm.ClassFile.FieldType)).before args0 about1 = true := code_word (m := ⟨3, 0⟩) (meth := k3m0) (c := k3c0) (by decide +kernel) rfl rfl rfl (by decide +kernel)
set_option maxRecDepth 65536 in
theorem w_c2 : (Jvm.Cond.code ({ cls := "com/example/stria/stria/container/Container", name := "<init>", desc := "()V" } : Jvm.MethodName) prog_28_method_1_code (1 : Nat) (Option.none : Option Jvm.ClassFile.FieldType)).before args0 about1 = true := code_word (m := ⟨2, 0⟩) (meth := k2m0) (c := k2c0) (by decide +kernel) rfl rfl rfl (by decide +kernel)
set_option maxRecDepth 65536 in
theorem w_c3 : (Jvm.Cond.code ({ cls := "java/lang/Object", name := "<init>", desc := "()V" } : Jvm.MethodName) object_method_1_code (1 : Nat) (Option.none : Option Jvm.ClassFile.FieldType)).before args0 about1 = true := code_word (m := ⟨0, 0⟩) (meth := k0m0) (c := k0c0) (by decide +kernel) rfl rfl rfl (by decide +kernel)
set_option maxRecDepth 65536 in
theorem w_c4 : (Jvm.Cond.code ({ cls := "com/example/stria/stria/container/BitmapContainer", name := "andNotInto", desc := "([J)V" } : Jvm.MethodName) prog_25_method_12_code (3 : Nat) (Option.none : Option Jvm.ClassFile.FieldType)).before args0 about1 = true := code_word (m := ⟨3, 1⟩) (meth := k3m1) (c := k3c1) (by decide +kernel) rfl rfl rfl (by decide +kernel)
def codes1 : List Jvm.Cond := [Jvm.Cond.code x code maxLocals ret, Jvm.Cond.code ({ cls := "com/example/stria/stria/container/BitmapContainer", name := "<init>", desc := "([JI)V" } : Jvm.MethodName) prog_25_method_1_code (3 : Nat) (Option.none : Option Jvm.ClassFile.FieldType), Jvm.Cond.code ({ cls := "com/example/stria/stria/container/Container", name := "<init>", desc := "()V" } : Jvm.MethodName) prog_28_method_1_code (1 : Nat) (Option.none : Option Jvm.ClassFile.FieldType), Jvm.Cond.code ({ cls := "java/lang/Object", name := "<init>", desc := "()V" } : Jvm.MethodName) object_method_1_code (1 : Nat) (Option.none : Option Jvm.ClassFile.FieldType), Jvm.Cond.code ({ cls := "com/example/stria/stria/container/BitmapContainer", name := "andNotInto", desc := "([J)V" } : Jvm.MethodName) prog_25_method_12_code (3 : Nat) (Option.none : Option Jvm.ClassFile.FieldType)]
set_option maxRecDepth 65536 in
theorem codes_eq : words1.filter isCode = codes1 := rfl
theorem w_codes : ∀ c ∈ words1.filter isCode, c.before args0 about1 = true := by
  rw [codes_eq]
  intro c hc
  simp only [codes1, List.mem_cons, List.not_mem_nil, or_false] at hc
  rcases hc with rfl | rfl | rfl | rfl | rfl
  · exact w_c0
  · exact w_c1
  · exact w_c2
  · exact w_c3
  · exact w_c4
set_option maxRecDepth 65536 in
theorem w_t1 : (words1.take 24).all (fun c => isCode c || c.before args0 about1) = true := by decide +kernel
set_option maxRecDepth 65536 in
theorem w_t2 : (words1.drop 24).all (fun c => isCode c || c.before args0 about1) = true := by decide +kernel
theorem w_tables : (allAtoms (Jvm.Cond.code x code maxLocals ret :: tables_1)).before args0 about1 = true := by
  rw [allAtoms_all]
  show words1.all (fun c => c.before args0 about1) = true
  refine all_split ?_ w_codes
  rw [← List.take_append_drop 24 words1, List.all_append, w_t1, w_t2]
  rfl
set_option maxRecDepth 65536 in
theorem w_case : (Jvm.Cond.and given_1 narrow_1).before args0 about1 = true := by decide +kernel
theorem w_applies : (headSpec (Jvm.Cond.code x code maxLocals ret :: tables_1) room_1).applies x e0.platform about1 = true :=
  (Spec.applies_iff w_frames).mpr ⟨w_running, w_runnable, w_alone, w_named, w_hears, w_ripe, w_room, w_tables⟩
theorem atStart : AtStart classFile x code maxLocals ret World_1 tables_1 room_1 Calls_1 rest_1 Pre_1 launch0 p0 e0 about1 theMethod args0 below0 :=
  ⟨lists_1, trivial, launch0.admits_env _ _ _, launch0.least_env, fairChoices_fair.cas, fairChoices_fair.clock, w_frames, w_args, w_heap, w_applies, trivial, trivial, w_case⟩
end start1
theorem witness_1 : WitnessClaimed_1 := ⟨start1.p0, start1.e0, start1.about1, start1.theMethod, start1.args0, start1.below0, start1.atStart⟩
end Jvm.Pilot.@@N@@
