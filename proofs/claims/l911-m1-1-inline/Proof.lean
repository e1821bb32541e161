import JvmDerived
import JvmDerived.Pilot.@@N@@Statement
import JvmDerived.Pilot.@@N@@Code
set_option linter.unusedVariables false
set_option linter.unusedSimpArgs false
set_option maxRecDepth 65536
set_option maxHeartbeats 40000000
namespace Jvm.RoadKit
open Sem ClassFile Op Lib Jvm.Stand Jvm.Free Jvm.LawKit
section New
variable {p : Program} {l : Launch} {e : Env} {R : Room} {s : State} {m : MethodId} {args : Array Value} {below : List Frame} {meth : Method} {c : Code} {T : State} {locs : List Loc} {cells slots : Nat}
theorem retI (X : Stand p l e R s m args below meth c T locs cells slots) (hx : p.tables.exec = Jvm.exec) {pc : Nat} {Ls : Array Slot} {z : Int32} {rest : List Value} (hret : meth.sig.returnType = some .int) (hd : decode c.code pc = .ok (.ireturn, 1)) {fs : List Frame}
    (hl : ∀ (f : JFrame) (acts : List Action), f.method = m → f.locked = none → f.entered = [] → (doReturn e (T.setTop f) acts (some (.int z))).1 = T.setFrames fs) : Steps p.tables e below (T.setTop (mkF m pc Ls (.int z :: rest))) (T.setFrames fs) := by
  have hm' : T.vm.method? m = some meth := X.method'
  have hn : narrow .int (.int z) = .int z := rfl
  show Steps p.tables e below (T.setTop { method := m, pc := pc, locals := Ls, stack := _ :: rest, locked := none }) _
  jvm_step X.here [X.here.top, hx, hd, hm', hret, hn]
  first | (intro acts; rw [hl _ acts rfl rfl rfl]) | rw [hl _ _ rfl rfl rfl]
  exact Steps.refl _
end New
end Jvm.RoadKit
namespace Jvm.Pilot.@@N@@
open Jvm Jvm.ClassFile Sem Op Lib Jvm.Free Jvm.Stand Jvm.LawKit Jvm.RoadKit Bundle Jvm.Pilot.@@N@@.Jvm.D
theorem own_eqI {a : Array Value} {s : State} {t : Term} {n : Int32} (h : (Jvm.Cond.eq t (.int n)).value a s none s [] = some true) : t.eval a s none [] s = some (.int n) := by
  simp only [Cond.value, Term.eval] at h
  cases ht : t.eval a s none [] s with
  | none => simp [ht] at h
  | some x => cases x <;> simp [ht] at h; rw [h]
abbrev o0 : Value := .int (0 : Int32)
abbrev HW (Z : State) (a0 : Array Value) : Prop := ∀ d ∈ tables_1, d.before a0 Z = true
theorem own_W {Z : State} {a0 : Array Value} (hw : HW Z a0) (i : Nat) {c : Jvm.Cond} (q : tables_1[i]? = some c) : c.before a0 Z = true := hw c (List.mem_of_getElem? q)
abbrev Met (l : Launch) (Z : State) (ws : List Jvm.Cond) (y : MethodName) (bytes : ByteArray) (maxL : Nat) (ret : Option FieldType) (rm : Room) (as' : Array Value) (h0 : Heap) (Q : Option Value → Heap → List Loc → Prop) : Prop :=
  MetFree l y (head1 (Jvm.Cond.code y bytes maxL ret :: ws) rm) (fun a U => a = as' ∧ Z.Warmed39 U.vm ∧ U.heap = h0) (fun _ _ _ _ _ => True) (fun _ U o U' => ∃ v L, o = .returned v ∧ Q v U'.heap L ∧ FrameEnd U o U' L rm.cells rm.slots)
abbrev MetW (l : Launch) (Z : State) (ws : List Jvm.Cond) (y : MethodName) (bytes : ByteArray) (maxL : Nat) (ret : Option FieldType) (rm : Room) (as' : Array Value) (h0 : Heap) (Q : Option Value → Heap → List Loc → Prop) : Prop :=
  MetFree l y (head1 (Jvm.Cond.code y bytes maxL ret :: ws) rm) (fun a U => a = as' ∧ Z.Warmed39 U.vm ∧ U.heap = h0) (fun _ _ _ _ _ => True) (fun _ U o U' => ∃ v L, o = .returned v ∧ Q v U'.heap L ∧ ReturnedEndW U o U' L rm.cells rm.slots)
abbrev MetH (l : Launch) (Z : State) (ws : List Jvm.Cond) (y : MethodName) (bytes : ByteArray) (maxL : Nat) (ret : Option FieldType) (rm : Room) (as' : Array Value) (h0 : Heap) (EL : List (String × Nat)) (sf : List Addr) (Q : Option Value → Heap → List Loc → Prop) : Prop :=
  MetFree l y (head1 (Jvm.Cond.code y bytes maxL ret :: ws) rm) (fun a U => a = as' ∧ Z.Warmed39 U.vm ∧ U.heap = h0 ∧ CHv Z EL U.vm h0 ∧ ∀ x ∈ sf, Safe Z EL U.vm h0 x) (fun _ _ _ _ _ => True) (fun _ U o U' => ∃ v L, o = .returned v ∧ Q v U'.heap L ∧ CHr Z EL U.vm U.heap U'.vm U'.heap ∧ ReturnedEndW U o U' L rm.cells rm.slots)
section Own
variable {l : Launch} {Z : State} {ws : List Jvm.Cond} {y : MethodName} {bytes : ByteArray} {maxL : Nat} {ret : Option FieldType} {rm : Room} {as' : Array Value} {h0 : Heap} {EL : List (String × Nat)} {sf : List Addr} {Q : Option Value → Heap → List Loc → Prop}
theorem own_mk (hp : plainFor y = true)
    (body : ∀ (p : Program) (e : Env) (s : State) (m : MethodId) (below : List Frame) (meth : Method) (c : Code) (s₁ : State), Z.Warmed39 s.vm → p.tables.exec = Jvm.exec → c.code = bytes → c.maxLocals = maxL → s.vm.findClass y.cls = some m.cls → meth.name = y.name → meth.sig.returnType = ret → meth.locks = false → Stand p l e rm s m as' below meth c s₁ [] 0 0 → s₁.heap = h0 →
      ∃ (T : State) (v : Option Value) (L : List Loc) (k n : Nat), Stand p l e rm s m as' below meth c T L k n ∧ k ≤ rm.cells ∧ n ≤ rm.slots ∧ (ret = none → v = none) ∧ Q v T.heap L ∧ ∀ fs, (∀ (f : JFrame) (acts : List Action), f.method = m → f.locked = none → f.entered = [] → (doReturn e (T.setTop f) acts v).1 = T.setFrames fs) → Steps p.tables e below (s₁.setTop (entryFrame m as' maxL)) (T.setFrames fs)) : Met l Z ws y bytes maxL ret rm as' h0 Q := by
  refine MetFree.of_bodySF hp hisR ?_
  intro p e s m args below meth c s₁ Bd hml hP hK
  obtain ⟨rfl, hZ, hh⟩ := hP
  have e0 : s₁.heap = h0 := by rw [← hh, Bd.state]; rfl
  obtain ⟨T, v, L, k, n, X, hk, hn, hv, hQ, st⟩ := body p e s m below meth c s₁ hZ Bd.exec Bd.bytes hml (findClass_of_methodNamed Bd.named) (name_of_methodNamed Bd.named Bd.method).1 Bd.returns Bd.notSynchronized (Stand.of_body Bd) e0
  obtain ⟨fs, hr, hrun, hended, hW, hsame⟩ := X.leave (v := v) (fun q => hv (Bd.returns.symm.trans q))
  exact ⟨_, _, st fs hr, hrun, hended, _, _, rfl, hQ, ⟨_, rfl⟩, hW, hsame.mono hk hn⟩
theorem own_mkW (hp : plainFor y = true)
    (body : ∀ (p : Program) (e : Env) (s : State) (m : MethodId) (below : List Frame) (meth : Method) (c : Code) (s₁ : State), Z.Warmed39 s.vm → p.tables.exec = Jvm.exec → c.code = bytes → c.maxLocals = maxL → s.vm.findClass y.cls = some m.cls → meth.name = y.name → meth.sig.returnType = ret → meth.locks = false → Stand p l e rm s m as' below meth c s₁ [] 0 0 → s₁.heap = h0 →
      ∃ (T : State) (v : Option Value) (L : List Loc) (k n : Nat) (vm1 : Vm) (n1 : Nat), Stand p l e rm (s.setVm vm1) m as' below meth c T L k n ∧ s.Since vm1 n1 ∧ n1 ≤ T.heap.size ∧ k ≤ rm.cells ∧ n ≤ rm.slots ∧ (ret = none → v = none) ∧ Q v T.heap L ∧ ∀ fs, (∀ (f : JFrame) (acts : List Action), f.method = m → f.locked = none → f.entered = [] → (doReturn e (T.setTop f) acts v).1 = T.setFrames fs) → Steps p.tables e below (s₁.setTop (entryFrame m as' maxL)) (T.setFrames fs)) : MetW l Z ws y bytes maxL ret rm as' h0 Q := by
  refine MetFree.of_bodySF hp hisR ?_
  intro p e s m args below meth c s₁ Bd hml hP hK
  obtain ⟨rfl, hZ, hh⟩ := hP
  have e0 : s₁.heap = h0 := by rw [← hh, Bd.state]; rfl
  obtain ⟨T, v, L, k, n, vm1, n1, X, hS, hn1, hk, hn, hv, hQ, st⟩ := body p e s m below meth c s₁ hZ Bd.exec Bd.bytes hml (findClass_of_methodNamed Bd.named) (name_of_methodNamed Bd.named Bd.method).1 Bd.returns Bd.notSynchronized (Stand.of_body Bd) e0
  obtain ⟨fs, hr, hrun, hended, hW⟩ := Stand.leaveW X hS hn1 (v := v) (fun q => hv (Bd.returns.symm.trans q))
  exact ⟨_, _, st fs hr, hrun, hended, _, _, rfl, hQ, hW.1, hW.2.1, hW.2.2.1, hW.2.2.2.mono hk hn⟩
theorem own_mkH (hp : plainFor y = true)
    (body : ∀ (p : Program) (e : Env) (s : State) (m : MethodId) (below : List Frame) (meth : Method) (c : Code) (s₁ : State), Z.Warmed39 s.vm → p.tables.exec = Jvm.exec → c.code = bytes → c.maxLocals = maxL → s.vm.findClass y.cls = some m.cls → meth.name = y.name → meth.sig.returnType = ret → meth.locks = false → Stand p l e rm s m as' below meth c s₁ [] 0 0 → s₁.heap = h0 → CHv Z EL s.vm h0 → (∀ x ∈ sf, Safe Z EL s.vm h0 x) →
      ∃ (T : State) (v : Option Value) (L : List Loc) (k n : Nat) (vm1 : Vm) (n1 : Nat), Stand p l e rm (s.setVm vm1) m as' below meth c T L k n ∧ s.Since vm1 n1 ∧ n1 ≤ T.heap.size ∧ k ≤ rm.cells ∧ n ≤ rm.slots ∧ (ret = none → v = none) ∧ Q v T.heap L ∧ CHr Z EL s.vm h0 T.vm T.heap ∧ ∀ fs, (∀ (f : JFrame) (acts : List Action), f.method = m → f.locked = none → f.entered = [] → (doReturn e (T.setTop f) acts v).1 = T.setFrames fs) → Steps p.tables e below (s₁.setTop (entryFrame m as' maxL)) (T.setFrames fs)) : MetH l Z ws y bytes maxL ret rm as' h0 EL sf Q := by
  refine MetFree.of_bodySF hp hisR ?_
  intro p e s m args below meth c s₁ Bd hml hP hK
  obtain ⟨rfl, hZ, hh, H0, hsf⟩ := hP
  have e0 : s₁.heap = h0 := by rw [← hh, Bd.state]; rfl
  obtain ⟨T, v, L, k, n, vm1, n1, X, hS, hn1, hk, hn, hv, hQ, hC, st⟩ := body p e s m below meth c s₁ hZ Bd.exec Bd.bytes hml (findClass_of_methodNamed Bd.named) (name_of_methodNamed Bd.named Bd.method).1 Bd.returns Bd.notSynchronized (Stand.of_body Bd) e0 H0 hsf
  obtain ⟨fs, hr, hrun, hended, hW⟩ := Stand.leaveW X hS hn1 (v := v) (fun q => hv (Bd.returns.symm.trans q))
  have hC' : CHr Z EL s.vm s.heap (T.setFrames fs).vm (T.setFrames fs).heap := by
    have a : (T.setFrames fs).vm = T.vm := rfl
    have b : (T.setFrames fs).heap = T.heap := rfl
    rw [a, b, hh]; exact hC
  exact ⟨_, _, st fs hr, hrun, hended, _, _, rfl, hQ, hC', hW.1, hW.2.1, hW.2.2.1, hW.2.2.2.mono hk hn⟩
end Own
abbrev SS (p : Program) (e : Env) (b : List Frame) (T : State) (m : MethodId) (pc : Nat) (L : Array Slot) (S : List Value) (t : State) : Prop := Steps p.tables e b (T.setTop (mkF m pc L S)) t
section OwnC
variable {p : Program} {l : Launch} {e : Env} {R : Room} {s : State} {m : MethodId} {args : Array Value} {below : List Frame} {meth : Method} {c : Code} {T : State} {locs : List Loc} {cells slots : Nat} {Z : State} {a0 : Array Value} {h : Heap} {own : String} {index ml pc maxL : Nat} {y z : MethodName} {bytes : ByteArray} {ret : Option FieldType} {rm : Room} {as' : Array Value} {Q : Option Value → Heap → List Loc → Prop} {ps : List FieldType} {r : Option FieldType} {b : Addr} {C : String}
/-- what a call asks of the room -/
abbrev Rok (R rm : Room) (cells slots maxL W : Nat) (y : MethodName) : Prop := (y.cls ≠ "java/lang/invoke/MethodHandle" ∧ y.cls ≠ "java/lang/invoke/VarHandle") ∧ rm.frames + 1 ≤ R.frames ∧ W + (maxL + 11) + rm.locals ≤ R.locals ∧ cells + rm.cells ≤ R.cells ∧ slots + rm.slots ≤ R.slots
theorem own_cs (X : Stand p l e R s m args below meth c T locs cells slots) (hx : p.tables.exec = Jvm.exec) (hZ : Z.Warmed39 s.vm) (hown : s.vm.findClass own = some m.cls) (hml : c.maxLocals = ml) (w1 : (Jvm.Cond.methodLink own index y).before a0 Z = true) (w2 : (Jvm.Cond.static y).before a0 Z = true) (w3 : (Jvm.Cond.initialized y.cls).before a0 Z = true) (w4 : (Jvm.Cond.code y bytes maxL ret).before a0 Z = true)
    (hM : Met l Z [] y bytes maxL ret rm as' h Q) (eT : T.heap = h) (hd : decode c.code pc = .ok (.invokestatic index, 3)) (W : Nat) (Ls : Array Slot) (argsL rest : List Value) (pd : parseMethodDescriptor y.desc = some ⟨ps, r⟩) (ok : Rok R rm cells slots maxL W y := by decide) (hsz : Ls.size = ml := by rfl) (hln : argsL.length = ps.length := by rfl) (has : argsL.toArray = as' := by rfl) (hW : 2 * 0 + (rest.map fun v => v.category).sum ≤ W := by exact Nat.le_of_eq rfl) :
    ∃ v T' L', Stand p l e R s m args below meth c T' (locs ++ L') (cells + rm.cells) (slots + rm.slots) ∧ Q v T'.heap L' ∧ ∀ t, SS p e below T' m (pc + 3) Ls (v.toList ++ rest) t → SS p e below T m pc Ls (argsL.reverse ++ rest) t := by
  obtain ⟨v, _, ⟨T', L, k, n⟩, -, X', ⟨Lc, hQ, rfl, rfl, rfl⟩, st⟩ := Jvm.LawKit.callS X hx (y := y) hown (mvT hZ w1) (mvT hZ w2) (mvT hZ w3) (mvT hZ w4) ok.1 (backOf (W := W) hM hZ w4 w3 ok.2.1 ok.2.2.1) (g := mkF m pc Ls (argsL.reverse ++ rest)) rfl (hsz.trans hml.symm) (argsL := argsL) (rest := rest) (lenOf pd hln) rfl hW hd (fun _ _ => ⟨has, eT, ok.2.2.2.1, ok.2.2.2.2⟩)
  exact ⟨v, T', Lc, X', hQ, st⟩
theorem own_cp (X : Stand p l e R s m args below meth c T locs cells slots) (hx : p.tables.exec = Jvm.exec) (hZ : Z.Warmed39 s.vm) (hown : s.vm.findClass own = some m.cls) (hml : c.maxLocals = ml) (hy : y.name = "<init>") (w1 : (Jvm.Cond.methodLink own index y).before a0 Z = true) (w2 : (Jvm.Cond.instanceMethod y).before a0 Z = true) (w3 : (Jvm.Cond.initialized y.cls).before a0 Z = true) (w4 : (Jvm.Cond.code y bytes maxL none).before a0 Z = true)
    (hM : Met l Z [] y bytes maxL none rm as' h Q) (eT : T.heap = h) (hd : decode c.code pc = .ok (.invokespecial index, 3)) (W : Nat) (Ls : Array Slot) (b : Addr) (argsL rest : List Value) (pd : parseMethodDescriptor y.desc = some ⟨ps, r⟩) (ok : Rok R rm cells slots maxL W y := by decide) (hsz : Ls.size = ml := by rfl) (hln : argsL.length = ps.length := by rfl) (has : (.ref b :: argsL).toArray = as' := by rfl) (hW : 2 * 0 + (rest.map fun v => v.category).sum ≤ W := by exact Nat.le_of_eq rfl) :
    ∃ v T' L', Stand p l e R s m args below meth c T' (locs ++ L') (cells + rm.cells) (slots + rm.slots) ∧ Q v T'.heap L' ∧ ∀ t, SS p e below T' m (pc + 3) Ls (v.toList ++ rest) t → SS p e below T m pc Ls (argsL.reverse ++ .ref b :: rest) t := by
  obtain ⟨v, _, ⟨T', L, k, n⟩, -, X', ⟨Lc, hQ, rfl, rfl, rfl⟩, st⟩ := X.specialBack hx (y := y) hy hown (mvT hZ w1) (mvT hZ w2) (mvT hZ w4) ok.1 (backOf (W := W) hM hZ w4 w3 ok.2.1 ok.2.2.1) (g := mkF m pc Ls (argsL.reverse ++ .ref b :: rest)) rfl (hsz.trans hml.symm) (Steps.refl _) (a := b) (argsL := argsL) (rest := rest) (lenOf pd hln) rfl hW hd (fun _ _ => ⟨has, eT, ok.2.2.2.1, ok.2.2.2.2⟩)
  exact ⟨v, T', Lc, X', hQ, fun t q => st.trans q⟩
theorem own_cv (X : Stand p l e R s m args below meth c T locs cells slots) (hx : p.tables.exec = Jvm.exec) (hZ : Z.Warmed39 s.vm) (hown : s.vm.findClass own = some m.cls) (hml : c.maxLocals = ml) (w1 : (Jvm.Cond.methodLink own index y).before a0 Z = true) (w2 : (Jvm.Cond.declares y).before a0 Z = true) (nf : NotFace Z y) (ws : (Jvm.Cond.selects C y z).before a0 Z = true) (wi : (Jvm.Cond.instanceMethod z).before a0 Z = true) (w3 : (Jvm.Cond.initialized z.cls).before a0 Z = true) (w4 : (Jvm.Cond.code z bytes maxL ret).before a0 Z = true)
    (hM : Met l Z [] z bytes maxL ret rm as' h Q) (eT : T.heap = h) (E : Exa Z h b C) (hd : decode c.code pc = .ok (.invokevirtual index, 3)) (W : Nat) (Ls : Array Slot) (argsL rest : List Value) (pd : parseMethodDescriptor y.desc = some ⟨ps, r⟩) (ok : Rok R rm cells slots maxL W y := by decide) (hsz : Ls.size = ml := by rfl) (hln : argsL.length = ps.length := by rfl) (has : (.ref b :: argsL).toArray = as' := by rfl) (hW : 2 * 0 + (rest.map fun v => v.category).sum ≤ W := by exact Nat.le_of_eq rfl) :
    ∃ v T' L', Stand p l e R s m args below meth c T' (locs ++ L') (cells + rm.cells) (slots + rm.slots) ∧ Q v T'.heap L' ∧ ∀ t, SS p e below T' m (pc + 3) Ls (v.toList ++ rest) t → SS p e below T m pc Ls (argsL.reverse ++ .ref b :: rest) t := by
  obtain ⟨cB, kB, qa, qb, qc⟩ := isOf hZ eT E
  obtain ⟨v, _, ⟨T', L, k, n⟩, -, X', ⟨Lc, hQ, rfl, rfl, rfl⟩, st⟩ := X.virtualBack hx (y := y) (z := z) hown (mvT hZ w1) (mvT hZ w2) (nf.move hZ.alike) (mvT hZ ws) (mvT hZ wi) ok.1 (backOf (W := W) hM hZ w4 w3 ok.2.1 ok.2.2.1) qa qc (g := mkF m pc Ls (argsL.reverse ++ .ref b :: rest)) rfl (hsz.trans hml.symm) (Steps.refl _) (argsL := argsL) (rest := rest) (lenOf pd hln) rfl hW hd (fun _ _ => ⟨has, eT, ok.2.2.2.1, ok.2.2.2.2⟩)
  exact ⟨v, T', Lc, X', hQ, fun t q => st.trans q⟩
end OwnC
theorem own_che {Z T : State} {EL : List (String × Nat)} {vm : Vm} {h0 h : Heap} (e : T.heap = h) (C : CHr Z EL vm h0 T.vm h) : CHr Z EL vm h0 T.vm T.heap := by rw [e]; exact C
theorem own_sf0 {Z : State} {EL : List (String × Nat)} {vm : Vm} {h : Heap} : ∀ x ∈ ([] : List Addr), Safe Z EL vm h x ∧ x < h.size := fun _ q => nomatch q
theorem own_sfS {Z : State} {EL : List (String × Nat)} {vm : Vm} {h : Heap} {x : Addr} {ws : List Addr} (n : Safe Z EL vm h x) (lt : x < h.size) (r : ∀ y ∈ ws, Safe Z EL vm h y ∧ y < h.size) : ∀ y ∈ x :: ws, Safe Z EL vm h y ∧ y < h.size := fun y q => by
  rcases List.mem_cons.mp q with rfl | q
  · exact ⟨n, lt⟩
  · exact r y q
theorem own_backH {l : Launch} {R : Room} {p : Program} {e : Env} {below : List Frame} {Z s : State} {a0 args : Array Value} {EL : List (String × Nat)} {h : Heap} {vm0 : Vm} {y : MethodName} {bytes : ByteArray} {maxL : Nat} {ret : Option FieldType} {rm : Room} {len W : Nat} {as' : Array Value} {sf : List Addr} {Q : Option Value → Heap → List Loc → Prop}
    (hM : MetFree l y (head1 [Jvm.Cond.code y bytes maxL ret] rm) (fun a U => a = as' ∧ Z.Warmed39 U.vm ∧ U.heap = h ∧ CHv Z EL U.vm h ∧ ∀ x ∈ sf, Safe Z EL U.vm h x) (fun _ _ _ _ _ => True) (fun _ U o U' => ∃ v L, o = .returned v ∧ Q v U'.heap L ∧ CHr Z EL U.vm U.heap U'.vm U'.heap ∧ ReturnedEndW U o U' L rm.cells rm.slots))
    (hZ : Z.Warmed39 vm0) (wc : (Jvm.Cond.code y bytes maxL ret).before a0 Z = true) (wz : (Jvm.Cond.initialized y.cls).before a0 Z = true) (hf : rm.frames + 1 ≤ R.frames) (hl : W + (maxL + 11) + rm.locals ≤ R.locals) (hEL : EW Z a0 EL) (H : CHv Z EL vm0 h) (hs : ∀ x ∈ sf, Safe Z EL vm0 h x ∧ x < h.size) :
    BackS l R p e below (s.setVm vm0) args y len W (fun A a => a = as' ∧ A.U.heap = h ∧ A.cells + rm.cells ≤ R.cells ∧ A.slots + rm.slots ≤ R.slots)
      (fun A _ v B => ∃ L, Q v B.U.heap L ∧ B.locs = A.locs ++ L ∧ B.cells = A.cells + rm.cells ∧ B.slots = A.slots + rm.slots ∧ CHr Z EL vm0 h B.U.vm B.U.heap) := by
  refine BackS.of_freeW (bytes := bytes) (maxL := maxL) (ret := ret) (E := fun _ first o t L k n => (k = rm.cells ∧ n = rm.slots) ∧ (∃ v, o = .returned v ∧ Q v t.heap L) ∧ CHr Z EL first.vm first.heap t.vm t.heap) hM hf hl ?_ ?_ ?_ ?_ ?_
  · intro m meth c A a Y hp
    have hU : Z.Warmed39 A.U.vm := wtrans (s := s.setVm vm0) hZ Y.warmed
    refine ⟨?_, mv hU wc, mv hU wz, hp.2.2.1, hp.2.2.2⟩
    show (Jvm.Cond.and _ .tt).before a A.U = true
    rw [Cond.before_and, mv hU wc]; rfl
  · intro m meth c A a g mk Y hp
    have q := CHv.at Y hZ hEL H
    exact ⟨hp.1, wtrans (s := s.setVm vm0) hZ Y.warmed, hp.2.1, q.1, fun x hx => q.safe (hs x hx).2 (hs x hx).1⟩
  · intros; trivial
  · rintro _ _ _ _ ⟨v, L, h1, h2, h3, h4⟩
    exact ⟨L, _, _, h4, ⟨rfl, rfl⟩, ⟨v, h1, h2⟩, h3⟩
  · rintro m meth c A a g mk v t L k n Y hp - - ⟨⟨rfl, rfl⟩, ⟨v', e3, e4⟩, e5⟩
    cases e3
    refine ⟨L, e4, rfl, rfl, rfl, (CHv.at Y hZ hEL H).trans ?_⟩
    have e6 : (A.U.calling g mk a).heap = h := hp.2.1
    rw [e6] at e5
    exact e5
def Elt (Z : State) (h : Heap) (a : Addr) (ty : FieldType) (j : Int32) (v : Value) : Prop := ∃ c : Cell, Arr Z h a c ty ∧ ¬ (j < 0 ∨ c.slots.size ≤ j.toNatClampNeg) ∧ c.slots[j.toNatClampNeg]? = some v
theorem Elt.ext {Z : State} {h h' : Heap} {a : Addr} {ty : FieldType} {j : Int32} {v : Value} (F : Elt Z h a ty j v) (E : Ext h h') : Elt Z h' a ty j v := by obtain ⟨c, A, r⟩ := F; exact ⟨c, A.ext E, r⟩
theorem Elt.lt {Z : State} {h : Heap} {a : Addr} {ty : FieldType} {j : Int32} {v : Value} (F : Elt Z h a ty j v) : a < h.size := by obtain ⟨c, A, -⟩ := F; exact A.lt
theorem own_arvty {Z : State} {h : Heap} {a b : Addr} {k1 k2 : ClassId} {t1 t2 : FieldType} {z1 z2 : Int32} {v1 v2 : List Value} {d1 d2 : Value} (A : Arv Z h a k1 t1 z1 v1 d1) (B : Arv Z h b k2 t2 z2 v2 d2) (hn : t1 ≠ t2) : a ≠ b := fun e => by
  subst e
  obtain ⟨c1, ⟨a1, ⟨-, q1, r1, m1, w1⟩, -⟩, -⟩ := A
  obtain ⟨c2, ⟨a2, ⟨-, q2, r2, m2, w2⟩, -⟩, -⟩ := B
  cases a1.symm.trans a2
  cases r1.symm.trans r2
  rw [w1] at w2
  injection w2 with _ e2
  exact hn e2
theorem own_decl {args : Array Value} {s : State} {y : MethodName} {bytes : ByteArray} {maxL : Nat} {ret : Option FieldType} (hi : (Jvm.Cond.instanceMethod y).before args s = true) (hc : (Jvm.Cond.code y bytes maxL ret).before args s = true) : (Jvm.Cond.declares y).before args s = true := by
  obtain ⟨mk, methM, hnamed, hmethM, hst, hab⟩ := Cond.instanceMethod_spec hi
  obtain ⟨m2, cM, q1, -, -, -, -, -, -, hsig⟩ := Cond.code_spec hnamed hc
  cases hmethM.symm.trans q1
  simp [Cond.before, Cond.holds, Cond.value, hnamed, hmethM, hst, hsig]
theorem own_char (x : Int32) (h1 : ¬ ((255 : Int32) < x)) (h2 : ¬ (x < (0 : Int32))) : x.toUInt32.toUInt16.toUInt32.toInt32 = x ∧ (x.toInt8.toInt32 &&& (255 : Int32)) = x := by
  have e1 := c_i2c x
  have e2 := c_mask x.toInt8.toInt32 255 8 (by decide) (by decide)
  have e3 := c_i2b x
  simp only [Int32.lt_iff_toInt_lt, Int32.reduceToInt] at h1 h2
  constructor
  · rw [← Int32.toInt_inj]; omega
  · rw [← Int32.toInt_inj, e2]; omega
theorem own_c255 (x : Int32) : ¬ ((255 : Int32) < (x &&& (255 : Int32))) ∧ ¬ ((x &&& (255 : Int32)) < (0 : Int32)) := by
  have e2 := c_mask x 255 8 (by decide) (by decide)
  simp only [Int32.lt_iff_toInt_lt, Int32.reduceToInt, e2]
  omega
theorem own_narB (x : Int32) : nar .byte (x.toInt8.toInt32) = x.toInt8.toInt32 := by
  show x.toInt8.toInt32.toInt8.toInt32 = x.toInt8.toInt32
  simp
theorem own_narC (x : Int32) : nar .char (x.toUInt32.toUInt16.toUInt32.toInt32) = x.toUInt32.toUInt16.toUInt32.toInt32 := by
  show x.toUInt32.toUInt16.toUInt32.toInt32.toUInt32.toUInt16.toUInt32.toInt32 = _
  have e1 := c_i2c x
  have e2 := c_i2c (x.toUInt32.toUInt16.toUInt32.toInt32)
  rw [← Int32.toInt_inj]; omega
theorem own_nput {t : FieldType} {x : Int32} (ht : t = .boolean ∨ t = .byte ∨ t = .char ∨ t = .short) (h : nar t x = x) : narrow t (.int x) = .int x := by
  have q : narrow t (.int x) = .int (nar t x) := by rcases ht with rfl | rfl | rfl | rfl <;> rfl
  rw [q, h]
theorem own_fput {t : FieldType} {x : Int32} (ht : t = .boolean ∨ t = .byte ∨ t = .char ∨ t = .short) (h : nar t x = x) : fits t (.int x) = true := by
  rw [← h]
  rcases ht with rfl | rfl | rfl | rfl
  · exact fits_nar_bool x
  · exact fits_nar_byte x
  · exact fits_nar_char x
  · exact fits_nar_short x
theorem own_nf {args : Array Value} {s : State} {C : String} {x y z : MethodName} (e : z.cls = y.cls) (hsel : (Jvm.Cond.selects C x y).before args s = true) : NotFace s z := fun r0 h0 => by
  obtain ⟨c2, r2, m2, q1, q2, q3, q4, kP, hkP, hkPi⟩ := Cond.selects_spec hsel
  have a := findClass_of_methodNamed h0
  have b := findClass_of_methodNamed q3
  rw [e] at a
  have q : r0.cls = m2.cls := Option.some.inj (a.symm.trans b)
  exact ⟨kP, by rw [q]; exact hkP, hkPi⟩
theorem own_same {args : Array Value} {s : State} {y : MethodName} (hm : y.cls ≠ "java/lang/invoke/MethodHandle" ∧ y.cls ≠ "java/lang/invoke/VarHandle") (hd : (Jvm.Cond.instanceMethod y).before args s = true) (nf : NotFace s y) : (Jvm.Cond.sameMethod y.cls y.cls y.name y.desc).before args s = true := by
  obtain ⟨mk, methM, hnamed, hmethM, hstM, habM⟩ := Cond.instanceMethod_spec hd
  obtain ⟨k, hk, hni⟩ := nf mk hnamed
  have a := findClass_of_methodNamed hnamed
  have f := State.methodFound?_of_named hnamed hm
  have hnamed' : s.methodNamed? ⟨y.cls, y.name, y.desc⟩ = some mk := hnamed
  simp [Cond.before, Cond.holds, Cond.value, a, f, hnamed', hk, hni]
theorem own_neI {a : Array Value} {s : State} {t : Term} {n x : Int32} (e : t.eval a s none [] s = some (.int x)) (h : (Jvm.Cond.not (.eq t (.int n))).value a s none s [] = some true) : ¬ (x = n) := by
  have h := not_v h
  simp only [Cond.value, Term.eval, e] at h
  simpa using h
theorem own_eqR {a : Array Value} {s : State} {t u : Term} {b : Addr} (hu : u.eval a s none [] s = some (.ref b)) (h : (Jvm.Cond.eq t u).value a s none s [] = some true) : t.eval a s none [] s = some (.ref b) := by
  simp only [Cond.value, hu] at h
  cases ht : t.eval a s none [] s with
  | none => simp [ht] at h
  | some x => cases x <;> simp [ht] at h; rw [h]
abbrev MY0 : MethodName := ⟨"java/lang/String", "<init>", "([CIILjava/lang/Void;)V"⟩
abbrev MY1 : MethodName := ⟨"java/lang/String", "<init>", "([C)V"⟩
abbrev MY2 : MethodName := ⟨"com/example/bylaw/bylaw/PolicyProblemToStringPinLaw", "mk", "(ICC)Ljava/lang/String;"⟩
abbrev MY3 : MethodName := ⟨"java/lang/Record", "<init>", "()V"⟩
abbrev MY4 : MethodName := ⟨"com/example/bylaw/bylaw/PolicyProblem", "<init>", "(Ljava/lang/String;Ljava/lang/String;)V"⟩
abbrev MY5 : MethodName := ⟨"java/lang/String", "isEmpty", "()Z"⟩
abbrev MY6 : MethodName := ⟨"com/example/bylaw/bylaw/PolicyProblem", "toString", "()Ljava/lang/String;"⟩
abbrev MY7 : MethodName := ⟨"java/lang/String", "equals", "(Ljava/lang/Object;)Z"⟩
abbrev MY8 : MethodName := ⟨"java/lang/StringUTF16", "compress", "([CI[BII)I"⟩
abbrev MY9 : MethodName := ⟨"java/lang/StringUTF16", "compress", "([CII)[B"⟩
abbrev MY10 : MethodName := ⟨"java/lang/StringUTF16", "coderFromArrayLen", "([BI)B"⟩
abbrev MY11 : MethodName := ⟨"java/lang/AbstractStringBuilder", "<init>", "(I)V"⟩
abbrev MY12 : MethodName := ⟨"java/lang/StringBuilder", "<init>", "()V"⟩
abbrev MY13 : MethodName := ⟨"java/lang/String", "coder", "()B"⟩
abbrev MY14 : MethodName := ⟨"java/lang/String", "length", "()I"⟩
abbrev MY15 : MethodName := ⟨"java/lang/AbstractStringBuilder", "ensureCapacityInternal", "(I)V"⟩
abbrev MY16 : MethodName := ⟨"java/lang/AbstractStringBuilder", "inflateIfNeededFor", "(Ljava/lang/String;)V"⟩
abbrev MY17 : MethodName := ⟨"java/lang/String", "getBytes", "([BIB)V"⟩
abbrev MY18 : MethodName := ⟨"java/lang/AbstractStringBuilder", "putStringAt", "(ILjava/lang/String;)V"⟩
abbrev MY19 : MethodName := ⟨"java/lang/AbstractStringBuilder", "append", "(Ljava/lang/String;)Ljava/lang/AbstractStringBuilder;"⟩
abbrev MY20 : MethodName := ⟨"java/lang/StringBuilder", "append", "(Ljava/lang/String;)Ljava/lang/StringBuilder;"⟩
abbrev MY21 : MethodName := ⟨"java/lang/AbstractStringBuilder", "getValue", "()[B"⟩
abbrev MY22 : MethodName := ⟨"java/lang/AbstractStringBuilder", "length", "()I"⟩
abbrev MY23 : MethodName := ⟨"java/lang/StringBuilder", "length", "()I"⟩
abbrev MY24 : MethodName := ⟨"java/lang/AbstractStringBuilder", "isLatin1", "()Z"⟩
abbrev MY25 : MethodName := ⟨"java/util/Arrays", "checkLength", "(II)V"⟩
abbrev MY26 : MethodName := ⟨"java/lang/Math", "min", "(II)I"⟩
abbrev MY27 : MethodName := ⟨"java/util/Arrays", "copyOfRangeByte", "([BII)[B"⟩
abbrev MY28 : MethodName := ⟨"java/util/Arrays", "copyOfRange", "([BII)[B"⟩
abbrev MY29 : MethodName := ⟨"java/lang/String", "<init>", "(Ljava/lang/AbstractStringBuilder;Ljava/lang/Void;)V"⟩
abbrev MY30 : MethodName := ⟨"java/lang/String", "<init>", "(Ljava/lang/StringBuilder;)V"⟩
abbrev MY31 : MethodName := ⟨"java/lang/StringBuilder", "toString", "()Ljava/lang/String;"⟩
abbrev MY32 : MethodName := ⟨"java/lang/String", "isLatin1", "()Z"⟩
abbrev MY33 : MethodName := ⟨"jdk/internal/util/Preconditions", "checkIndex", "(IILjava/util/function/BiFunction;)I"⟩
abbrev MY34 : MethodName := ⟨"java/lang/String", "checkIndex", "(II)V"⟩
abbrev MY35 : MethodName := ⟨"java/lang/StringLatin1", "charAt", "([BI)C"⟩
abbrev MY36 : MethodName := ⟨"java/lang/String", "charAt", "(I)C"⟩
abbrev FA37 (Z : State) (h : Heap) (a : Addr) (v : Value) : Prop := Fld Z h a "java/lang/String" "value" "[B" v
abbrev FA38 (Z : State) (h : Heap) (a : Addr) (v : Value) : Prop := Fld Z h a "java/lang/String" "coder" "B" v
abbrev FA39 (Z : State) (h : Heap) (a : Addr) (v : Value) : Prop := Fld Z h a "com/example/bylaw/bylaw/PolicyProblem" "pointer" "Ljava/lang/String;" v
abbrev FA40 (Z : State) (h : Heap) (a : Addr) (v : Value) : Prop := Fld Z h a "com/example/bylaw/bylaw/PolicyProblem" "message" "Ljava/lang/String;" v
abbrev FA41 (Z : State) (h : Heap) (a : Addr) (v : Value) : Prop := Fld Z h a "java/lang/AbstractStringBuilder" "value" "[B" v
abbrev FA42 (Z : State) (h : Heap) (a : Addr) (v : Value) : Prop := Fld Z h a "java/lang/AbstractStringBuilder" "coder" "B" v
abbrev FA43 (Z : State) (h : Heap) (a : Addr) (v : Value) : Prop := Fld Z h a "java/lang/AbstractStringBuilder" "count" "I" v
abbrev EA44 (Z : State) (h : Heap) (a : Addr) : Prop := Exa Z h a "java/lang/String"
abbrev EA45 (Z : State) (h : Heap) (a : Addr) : Prop := Exa Z h a "com/example/bylaw/bylaw/PolicyProblem"
abbrev EA46 (Z : State) (h : Heap) (a : Addr) : Prop := Exa Z h a "[B"
abbrev EA47 (Z : State) (h : Heap) (a : Addr) : Prop := Exa Z h a "java/lang/StringBuilder"
abbrev SA48 (Z : State) (h : Heap) (v : Value) : Prop := Sta Z h "java/lang/String" "COMPACT_STRINGS" "Z" v
abbrev SA49 (Z : State) (h : Heap) (v : Value) : Prop := Sta Z h "jdk/internal/util/Preconditions" "SIOOBE_FORMATTER" "Ljava/util/function/BiFunction;" v
def Q0 (n0 : Nat) (v : Option Value) (L : List Loc) : Prop := v = some (.int (1 : Int32)) ∧ Fr n0 L
theorem d_0 : decode method_2_code 0 = .ok (.iload_n 0, 1) := by decide +kernel
theorem d_1 : decode method_2_code 1 = .ok (.ifCond .ne 14, 3) := by decide +kernel
theorem d_2 : decode method_2_code 4 = .ok (.new 7, 3) := by decide +kernel
theorem d_3 : decode method_2_code 7 = .ok (.dup, 1) := by decide +kernel
theorem d_4 : decode method_2_code 8 = .ok (.iconst 0, 1) := by decide +kernel
theorem d_5 : decode method_2_code 9 = .ok (.newarray .char, 2) := by decide +kernel
theorem d_6 : decode method_2_code 11 = .ok (.invokespecial 9, 3) := by decide +kernel
theorem d_7 : decode jdk_42_method_3_code 0 = .ok (.aload_n 0, 1) := by decide +kernel
theorem d_8 : decode jdk_42_method_3_code 1 = .ok (.aload_n 1, 1) := by decide +kernel
theorem d_9 : decode jdk_42_method_3_code 2 = .ok (.iconst 0, 1) := by decide +kernel
theorem d_10 : decode jdk_42_method_3_code 3 = .ok (.aload_n 1, 1) := by decide +kernel
theorem d_11 : decode jdk_42_method_3_code 4 = .ok (.arraylength, 1) := by decide +kernel
theorem d_12 : decode jdk_42_method_3_code 5 = .ok (.aconst_null, 1) := by decide +kernel
theorem d_13 : decode jdk_42_method_3_code 6 = .ok (.invokespecial 27, 3) := by decide +kernel
theorem d_14 : decode jdk_42_method_149_code 0 = .ok (.aload_n 0, 1) := by decide +kernel
theorem d_15 : decode jdk_42_method_149_code 1 = .ok (.invokespecial 1, 3) := by decide +kernel
theorem d_16 : decode jdk_42_method_149_code 4 = .ok (.iload_n 3, 1) := by decide +kernel
theorem d_17 : decode jdk_42_method_149_code 5 = .ok (.ifCond .ne 22, 3) := by decide +kernel
theorem d_18 : decode jdk_42_method_149_code 8 = .ok (.aload_n 0, 1) := by decide +kernel
theorem d_19 : decode jdk_42_method_149_code 9 = .ok (.ldc 7, 2) := by decide +kernel
theorem own_str_20 {Z : State} {a0 : Array Value} (hw : HW Z a0) : ∀ a ∈ Bundle.stringAtoms, a.before a0 Z = true := by
  have W := @own_W _ _ hw
  intro a ha
  simp only [Bundle.stringAtoms, List.mem_cons, List.not_mem_nil, or_false] at ha
  rcases ha with rfl | rfl | rfl | rfl | rfl | rfl | rfl
  · exact (W 7 rfl)
  · exact (W 6 rfl)
  · exact (W 20 rfl)
  · exact (W 21 rfl)
  · exact (W 22 rfl)
  · exact (W 23 rfl)
  · exact (W 24 rfl)
theorem own_ew_21 {Z : State} {a0 : Array Value} (hw : HW Z a0) : EW Z a0 consts_1 := by
  have W := @own_W _ _ hw
  exact (EW.cons (W 134 rfl) (by decide) (EW.cons (W 19 rfl) (by decide) EW.nil))
theorem d_22 : decode jdk_42_method_149_code 11 = .ok (.getfield 9, 3) := by decide +kernel
theorem d_23 : decode jdk_42_method_149_code 14 = .ok (.putfield 9, 3) := by decide +kernel
theorem d_24 : decode jdk_42_method_149_code 17 = .ok (.aload_n 0, 1) := by decide +kernel
theorem d_25 : decode jdk_42_method_149_code 18 = .ok (.ldc 7, 2) := by decide +kernel
theorem d_26 : decode jdk_42_method_149_code 20 = .ok (.getfield 15, 3) := by decide +kernel
theorem d_27 : decode jdk_42_method_149_code 23 = .ok (.putfield 15, 3) := by decide +kernel
theorem d_28 : decode jdk_42_method_149_code 26 = .ok (.return_, 1) := by decide +kernel
theorem ef_29 (m : MethodId) (a1 : Addr) (a2 : Addr) : entryFrame m #[(.ref a1), (.ref a2), o0, o0, .null] 6 = mkF m 0 #[rv a1, rv a2, .val o0, .val o0, .val .null, .unset] [] := by first | (simp [entryFrame, mkF, argsToLocals, Value.category]; done) | rfl
theorem pn_30 : plainName "java/lang/String" = true := by first | (simp [plainName, overriddenIn]; done) | decide +kernel
def Q1_init (Z : State) (a1 : Addr) (a2 : Addr) (h0 : Heap) (n0 : Nat) (v : Option Value) (h : Heap) (L : List Loc) : Prop := ∃ (b3v : Addr) (kc3 : ClassId), v = none ∧ Fr n0 L ∧ Keep h0 h [a1] ∧ Arv Z h b3v kc3 .byte (0 : Int32) [] o0 ∧ FA37 Z h a1 (.ref b3v) ∧ FA38 Z h a1 o0
theorem rm1_init (l : Launch) (Z : State) (a0 : Array Value) (hw : HW Z a0) (a1 : Addr) (a2 : Addr) (h0 : Heap) (n0 : Nat) (O0 : Old Z n0 h0) (F_0 : EA44 Z h0 a1) (F_1 : FA37 Z h0 a1 .null) (lt_2 : a1 < h0.size) (g_3 : n0 ≤ a1) (F_4 : FA38 Z h0 a1 o0) :
    MetH l Z [] MY0 jdk_42_method_149_code 6 none ({ frames := 1, cells := 4, slots := 8, locals := 12 } : Room) #[(.ref a1), (.ref a2), o0, o0, .null] h0 consts_1 [a1] (Q1_init Z a1 a2 h0 n0) := by
  have W := @own_W _ _ hw
  refine own_mkH (plainFor_of_name pn_30) ?_
  intro p e s m below meth c s₁ hZ hx hby hml hown hnm hret hlk X0 e0 H0 hsf
  have N0 := Fr.nil n0
  have C0 := CHr.refl H0
  have X1 := (show Stand p l e _ (s.setVm s.vm) m _ below meth c _ _ _ _ from X0)
  obtain ⟨T2, X2, e2, st2⟩ := initO X1 hx hZ hown (W 16 rfl) (W 17 rfl) (W 18 rfl) e0 (g := (mkF m 1 #[rv a1, rv a2, .val o0, .val o0, .val .null, .unset] [(.ref a1)])) rfl (by rw [hml]; rfl) rfl (hb hby d_15) (by decide) (W := 0) (by show 2 * 0 + _ ≤ _; exact Nat.le_of_eq rfl) (by decide)
  obtain ⟨b3, T3, h3, k3, b3v, kc3, X3, e3, E3, hS3, hk3, hZ3, hown3, Le3, Lc3, Lv3, La3, Lx3, Lb3, c3, -, Ln3, st3⟩ := ldcCH (s := s) (vm0 := s.vm) (EL := consts_1) X2 hx hZ hown (W 19 rfl) (own_str_20 hw) e2 ((State.WarmedH.refl s).since 0) (Nat.zero_le _) (own_ew_21 hw) (List.mem_of_getElem? (i := 1) rfl) H0 (vs := []) (z := (0 : Int32)) ⟨by decide, by decide⟩ (by decide) rfl (g := (mkF m 9 #[rv a1, rv a2, .val o0, .val o0, .val .null, .unset] [(.ref a1)])) rfl (hb hby d_19) (n := 0) (by decide) (by decide) (by decide) (by decide)
  have C4 := CHr.trans C0 c3
  have O5 := O0.ext E3
  have K6 : Keep h0 h3 [a1] := Keep.ext (Keep.refl h0 [a1]) E3
  obtain ⟨T7, X7, e7, st7⟩ := getF X3 hx hZ3 hown3 (host := "") (Or.inl (W 25 rfl)) Via.refl e3 Lv3 (g := (mkF m 11 #[rv a1, rv a2, .val o0, .val o0, .val .null, .unset] [(.ref b3), (.ref a1)])) rfl rfl (hb hby d_22)
  have f9 := (F_1.ext E3)
  have f10 := (F_0.ext E3)
  obtain ⟨T8, h8, X8, e8, W8, st8⟩ := putF X7 hx hZ3 hown3 (host := "") (Or.inl (W 25 rfl)) Via.refl e7 f9 f10 (Or.inr ⟨(W 21 rfl), rfl, hnm⟩) (W 6 rfl) (ty := (.array .byte)) (by decide) rfl rfl (g := (mkF m 14 #[rv a1, rv a2, .val o0, .val o0, .val .null, .unset] [(.ref b3v), (.ref a1)])) rfl rfl (hb hby d_23)
  have f11 := (CHr.safe c3 lt_2 (hsf _ (List.mem_of_getElem? (i := 0) rfl)))
  have c12 := CHr.wr W8 f11 c3.1
  have C13 := CHr.trans C4 c12
  have O14 := O5.wr W8 g_3
  have K15 : Keep h0 h8 [a1] := Keep.wr K6 W8 (Or.inl (List.mem_of_getElem? (i := 0) rfl))
  have f16 : FA37 Z h8 a1 (.ref b3v) := (f9.same W8)
  have N17 := Fr.snoc X8 N0 g_3
  have z19 : h3.size ≤ h8.size := (Nat.le_of_eq W8.size.symm)
  obtain ⟨b18, T18, h18, k18, b18v, kc18, X18, e18, E18, hS18, hk18, hZ18, hown18, Le18, Lc18, Lv18, La18, Lx18, Lb18, c18, -, Ln18, st18⟩ := ldcCH (s := s) (vm0 := T3.vm) (EL := consts_1) X8 hx hZ3 hown3 (W 19 rfl) (own_str_20 hw) e8 hS3 (Nat.le_trans hk3 z19) (own_ew_21 hw) (List.mem_of_getElem? (i := 1) rfl) c12.1 (vs := []) (z := (0 : Int32)) ⟨by decide, by decide⟩ (by decide) rfl (g := (mkF m 18 #[rv a1, rv a2, .val o0, .val o0, .val .null, .unset] [(.ref a1)])) rfl (hb hby d_25) (n := 0) (by decide) (by decide) (by decide) (by decide)
  have C20 := CHr.trans C13 c18
  have O21 := O14.ext E18
  have K22 : Keep h0 h18 [a1] := Keep.ext K15 E18
  obtain ⟨T23, X23, e23, st23⟩ := getF X18 hx hZ18 hown18 (host := "") (Or.inl (W 26 rfl)) Via.refl e18 Lc18 (g := (mkF m 20 #[rv a1, rv a2, .val o0, .val o0, .val .null, .unset] [(.ref b18), (.ref a1)])) rfl rfl (hb hby d_26)
  have f25 := (((F_4.ext E3).other W8 (Or.inr (slot_ne (Or.inr (W 22 rfl)) (Or.inr (W 21 rfl)) (by decide) (t := .byte) (t' := (.array .byte)) (by decide) (by decide)))).ext E18)
  have f26 := ((f10.wr W8).ext E18)
  obtain ⟨T24, h24, X24, e24, W24, st24⟩ := putFN X23 hx hZ18 hown18 (W 26 rfl) Via.refl e23 f25 f26 (Or.inr ⟨(W 22 rfl), rfl, hnm⟩) (W 6 rfl) (ty := .byte) (v' := o0) (by decide) rfl rfl (g := (mkF m 23 #[rv a1, rv a2, .val o0, .val o0, .val .null, .unset] [o0, (.ref a1)])) rfl rfl (hb hby d_27)
  have z27 : h0.size ≤ h3.size := E3.1
  have z28 : h0.size ≤ h8.size := (Nat.le_trans z27 (Nat.le_of_eq W8.size.symm))
  have f29 := (CHr.safe c18 (Nat.lt_of_lt_of_le lt_2 z28) (Safe.wr W8 f11 c3.1 f11))
  have c30 := CHr.wr W24 f29 c18.1
  have C31 := CHr.trans C20 c30
  have O32 := O21.wr W24 g_3
  have K33 : Keep h0 h24 [a1] := Keep.wr K22 W24 (Or.inl (List.mem_of_getElem? (i := 0) rfl))
  have f34 : FA38 Z h24 a1 o0 := (f25.same W24)
  have N35 := Fr.snoc X24 N17 g_3
  have z36 : h18.size ≤ h24.size := (Nat.le_of_eq W24.size.symm)
  have f37 := (((La3.other W8 (Ne.symm ((Ln3 a1 (CHr.safe c3 lt_2 (hsf _ (List.mem_of_getElem? (i := 0) rfl)))).2))).ext E18).other W24 (Ne.symm ((Ln3 a1 (CHr.safe c3 lt_2 (hsf _ (List.mem_of_getElem? (i := 0) rfl)))).2)))
  have f38 := ((f16.ext E18).other W24 (Or.inr (slot_ne (Or.inr (W 21 rfl)) (Or.inr (W 22 rfl)) (by decide) (t := (.array .byte)) (t' := .byte) (by decide) (by decide))))
  refine ⟨T24, none, _, _, _, T18.vm, _, X24, hS18, (by rw [e24]; exact (Nat.le_trans hk18 z36)), by decide, by decide, (fun _ => rfl), ?_, own_che e24 (CHr.trans C31 (CHv.at (s := s) X24 hZ18 (own_ew_21 hw) c30.1)), fun fs hr => castTop (ef_29 m a1 a2) ?_⟩
  · show Q1_init Z a1 a2 h0 n0 _ T24.heap _
    rw [e24]
    exact ⟨b3v, kc3, rfl, N35, K33, f37, f38, f34⟩
  · show SS p e below s₁ m 0 #[rv a1, rv a2, .val o0, .val o0, .val .null, .unset] [] _
    refine XS.aloadN X1.here hx rfl (hb hby d_14) rfl rfl ?_
    refine st2 _ ?_
    refine XS.iloadN X2.here hx rfl (hb hby d_16) rfl ?_
    refine XS.ifNo X2.here hx rfl (hb hby d_17) rfl ((if0 _ _).trans (teq (by decide : (0 : Int32) = (0 : Int32))).2) ?_
    refine XS.aloadN X2.here hx rfl (hb hby d_18) rfl rfl ?_
    refine st3 _ ?_
    refine st7 _ ?_
    refine st8 _ ?_
    refine XS.aloadN X8.here hx rfl (hb hby d_24) rfl rfl ?_
    refine st18 _ ?_
    show SS p e below T18 m 20 #[rv a1, rv a2, .val o0, .val o0, .val .null, .unset] [(.ref b18), (.ref a1)] _
    refine st23 _ ?_
    refine st24 _ ?_
    exact X24.returnOut hx hret (hb hby d_28) hr
theorem pd_31 : parseMethodDescriptor "([CIILjava/lang/Void;)V" = some ⟨[(.array .char), .int, .int, (.object "java/lang/Void")], none⟩ := by decide +kernel
theorem d_32 : decode jdk_42_method_3_code 9 = .ok (.return_, 1) := by decide +kernel
theorem ef_33 (m : MethodId) (a1 : Addr) (a2 : Addr) : entryFrame m #[(.ref a1), (.ref a2)] 2 = mkF m 0 #[rv a1, rv a2] [] := by first | (simp [entryFrame, mkF, argsToLocals, Value.category]; done) | rfl
def Q2_init (Z : State) (a1 : Addr) (a2 : Addr) (k3 : ClassId) (h0 : Heap) (n0 : Nat) (v : Option Value) (h : Heap) (L : List Loc) : Prop := ∃ (b3_0 : Addr) (k3_0 : ClassId), v = none ∧ Fr n0 L ∧ Keep h0 h [a1] ∧ Arv Z h b3_0 k3_0 .byte (0 : Int32) [] o0 ∧ FA37 Z h a1 (.ref b3_0) ∧ FA38 Z h a1 o0
theorem rm2_init (l : Launch) (Z : State) (a0 : Array Value) (hw : HW Z a0) (a1 : Addr) (a2 : Addr) (k3 : ClassId) (h0 : Heap) (n0 : Nat) (O0 : Old Z n0 h0) (F_0 : Arv Z h0 a2 k3 .char (0 : Int32) [] o0) (F_1 : EA44 Z h0 a1) (F_2 : FA37 Z h0 a1 .null) (F_3 : FA38 Z h0 a1 o0) (lt_4 : a1 < h0.size) (g_5 : n0 ≤ a1) :
    MetH l Z [] MY1 jdk_42_method_3_code 2 none ({ frames := 2, cells := 4, slots := 8, locals := 29 } : Room) #[(.ref a1), (.ref a2)] h0 consts_1 [a1] (Q2_init Z a1 a2 k3 h0 n0) := by
  have W := @own_W _ _ hw
  refine own_mkH (plainFor_of_name pn_30) ?_
  intro p e s m below meth c s₁ hZ hx hby hml hown hnm hret hlk X0 e0 H0 hsf
  have N0 := Fr.nil n0
  have C0 := CHr.refl H0
  have X1 := (show Stand p l e _ (s.setVm s.vm) m _ below meth c _ _ _ _ from X0)
  obtain ⟨c2, A2, q2, S2, N2, H2, G2⟩ := id F_0
  obtain ⟨_, _, ⟨T3, L3, k3, n3⟩, -, Y3, hs3, hg3, ⟨Lc3, hQ3, l3, y3, z3, c3⟩, st3⟩ := X1.specialBackS hx (y := MY0) rfl hown (mvT hZ (W 12 rfl)) (mvT hZ (W 13 rfl)) (mvT hZ (W 15 rfl)) (by decide) (own_backH (s := s) (vm0 := s.vm) (W := 0) (rm1_init l Z a0 hw a1 a2 h0 n0 O0 (F_1) (F_2) (lt_4) (g_5) (F_3)) hZ (W 15 rfl) (W 7 rfl) (by decide) (by decide) (own_ew_21 hw) H0 (own_sfS (hsf _ (List.mem_of_getElem? (i := 0) rfl)) lt_4 own_sf0)) (g := (mkF m 6 #[rv a1, rv a2] [.null, o0, o0, (.ref a2), (.ref a1)])) rfl (by rw [hml]; rfl) (Steps.refl _) (a := a1) (argsL := [(.ref a2), o0, o0, .null]) (rest := []) (lenOf pd_31 rfl) rfl (by show 2 * 0 + _ ≤ _; exact Nat.le_of_eq rfl) (hb hby d_13) (fun _ _ => ⟨rfl, e0, (by decide : 0 + 4 ≤ _), (by decide : 0 + 8 ≤ _)⟩)
  dsimp only [Pt.U, Pt.locs, Pt.cells, Pt.slots] at Y3 l3 y3 z3 st3 hQ3 hs3 hg3 c3
  subst l3 y3 z3
  obtain ⟨X3, hS3, hZ3, hown3⟩ := rebS (s := s) (vm0 := s.vm) ((State.WarmedH.refl s).since 0) (Nat.zero_le _) Y3 hs3 hg3 hZ hown
  obtain ⟨b3_0, k3_0, rfl, N3q, K3, F3_0, F3_1, F3_2⟩ := hQ3
  have N4 := Fr.app N0 N3q
  have C5 := CHr.trans C0 c3
  have O6 := O0.keep K3 (allS g_5 all0)
  have K7 : Keep h0 T3.heap [a1] := Keep.trans (Keep.refl h0 [a1]) K3 (allS (Or.inl (List.mem_of_getElem? (i := 0) rfl)) all0)
  refine ⟨T3, none, _, _, _, T3.vm, _, X3, hS3, (Nat.le_refl _), by decide, by decide, (fun _ => rfl), ?_, own_che rfl (CHr.trans C5 (CHv.at (s := s) X3 hZ3 (own_ew_21 hw) c3.1)), fun fs hr => castTop (ef_33 m a1 a2) ?_⟩
  · show Q2_init Z a1 a2 k3 h0 n0 _ T3.heap _
    exact ⟨b3_0, k3_0, rfl, N4, K7, F3_0, F3_1, F3_2⟩
  · show SS p e below s₁ m 0 #[rv a1, rv a2] [] _
    refine XS.aloadN X1.here hx rfl (hb hby d_7) rfl rfl ?_
    refine XS.aloadN X1.here hx rfl (hb hby d_8) rfl rfl ?_
    refine XS.iconst X1.here hx rfl (hb hby d_9) ?_
    refine XS.aloadN X1.here hx rfl (hb hby d_10) rfl rfl ?_
    refine X1.arraylength hx (by rw [e0]; exact A2.1) (State.isArrayOf_alike hZ.alike A2.2.1) (g := (mkF m 4 #[rv a1, rv a2] [(.ref a2), o0, (.ref a2), (.ref a1)])) rfl rfl (hb hby d_11) _ ?_
    rw [len_of S2 N2]
    refine XS.aconstNull X1.here hx rfl (hb hby d_12) ?_
    refine st3.trans ?_
    exact X3.returnOut hx hret (hb hby d_32) hr
theorem pd_34 : parseMethodDescriptor "([C)V" = some ⟨[(.array .char)], none⟩ := by decide +kernel
theorem d_35 : decode method_2_code 14 = .ok (.areturn, 1) := by decide +kernel
theorem ef_36 (m : MethodId) (p1 : Int32) (p2 : Int32) : entryFrame m #[o0, (.int p1), (.int p2)] 3 = mkF m 0 #[.val o0, iv p1, iv p2] [] := by first | (simp [entryFrame, mkF, argsToLocals, Value.category]; done) | rfl
theorem pn_37 : plainName "com/example/bylaw/bylaw/PolicyProblemToStringPinLaw" = true := by first | (simp [plainName, overriddenIn]; done) | decide +kernel
def Q3_mk (Z : State) (p1 : Int32) (p2 : Int32) (h0 : Heap) (n0 : Nat) (v : Option Value) (h : Heap) (L : List Loc) : Prop := ∃ (b2 : Addr) (b13_0 : Addr) (k13_0 : ClassId), v = some (.ref b2) ∧ Fr n0 L ∧ Keep h0 h [] ∧ h0.size ≤ b2 ∧ EA44 Z h b2 ∧ FA37 Z h b2 (.ref b13_0) ∧ FA38 Z h b2 o0 ∧ Arv Z h b13_0 k13_0 .byte (0 : Int32) [] o0
theorem rm3_mk (l : Launch) (Z : State) (a0 : Array Value) (hw : HW Z a0) (p1 : Int32) (p2 : Int32) (h0 : Heap) (n0 : Nat) (O0 : Old Z n0 h0)  :
    MetH l Z [] MY2 method_2_code 3 (some (.object "java/lang/String")) ({ frames := 3, cells := 6, slots := 12, locals := 43 } : Room) #[o0, (.int p1), (.int p2)] h0 consts_1 [] (Q3_mk Z p1 p2 h0 n0) := by
  have W := @own_W _ _ hw
  refine own_mkH (plainFor_of_name pn_37) ?_
  intro p e s m below meth c s₁ hZ hx hby hml hown hnm hret hlk X0 e0 H0 hsf
  have N0 := Fr.nil n0
  have C0 := CHr.refl H0
  have X1 := (show Stand p l e _ (s.setVm s.vm) m _ below meth c _ _ _ _ from X0)
  obtain ⟨T2, h2, X2, e2, E2, A2, D2, -, st2⟩ := newO X1 hx hZ hown (W 5 rfl) (W 6 rfl) (W 7 rfl) e0 (g := (mkF m 4 #[.val o0, iv p1, iv p2] [])) rfl (hb hby d_2) (by decide) (by decide)
  obtain ⟨b2, g2⟩ : ∃ z, z = h0.size := ⟨_, rfl⟩
  rw [← g2] at A2 D2 st2
  have c3 := CHr.ext E2 H0
  have C4 := CHr.trans C0 c3
  have O5 := O0.ext E2
  have K6 : Keep h0 h2 [] := Keep.ext (Keep.refl h0 []) E2
  obtain ⟨T7, h7, k7, X7, e7, E7, A7, B7, st7⟩ := newPE X2 hx hZ (W 8 rfl) e2 (g := (mkF m 9 #[.val o0, iv p1, iv p2] [o0, (.ref b2), (.ref b2)])) rfl (hb hby d_5) rfl (by decide) (cap := 0) (by decide) (by decide) (by decide) (by decide) (ad := "[C") rfl
  obtain ⟨b7, g7⟩ : ∃ z, z = h2.size := ⟨_, rfl⟩
  rw [← g7] at A7 B7 st7
  have c8 := CHr.ext E7 c3.1
  have C9 := CHr.trans C4 c8
  have O10 := O5.ext E7
  have K11 : Keep h0 h7 [] := Keep.ext K6 E7
  have v12 : Arv Z h7 b7 k7 .char (0 : Int32) [] o0 := (Arv.new A7 (by decide)).pad (pad_rep [] o0 0)
  have f14 := (A2.ext E7)
  have f15 := ((D2 (Or.inr (W 21 rfl)) (ty := (.array .byte)) (by decide) : FA37 Z h2 b2 .null).ext E7)
  have f16 := ((D2 (Or.inr (W 22 rfl)) (ty := .byte) (by decide) : FA38 Z h2 b2 o0).ext E7)
  have z17 : h2.size ≤ h7.size := E7.1
  have g18 : n0 ≤ b2 := Nat.le_trans (Nat.le_trans (Nat.le_of_eq O0.1.symm) O0.2.1) (Nat.le_of_eq g2.symm)
  have f19 := (Safe.ext E7 c3.1 (Safe.ext E2 H0 (Safe.new (Nat.le_of_eq g2.symm))))
  obtain ⟨_, _, ⟨T13, L13, k13, n13⟩, -, Y13, hs13, hg13, ⟨Lc13, hQ13, l13, y13, z13, c13⟩, st13⟩ := X7.specialBackS hx (y := MY1) rfl hown (mvT hZ (W 9 rfl)) (mvT hZ (W 10 rfl)) (mvT hZ (W 11 rfl)) (by decide) (own_backH (s := s) (vm0 := s.vm) (W := 1) (rm2_init l Z a0 hw b2 b7 k7 h7 n0 O10 (v12) (f14) (f15) (f16) ((Nat.lt_of_lt_of_le A2.lt z17)) (g18)) hZ (W 11 rfl) (W 7 rfl) (by decide) (by decide) (own_ew_21 hw) c8.1 (own_sfS f19 (Nat.lt_of_lt_of_le A2.lt z17) own_sf0)) (g := (mkF m 11 #[.val o0, iv p1, iv p2] [(.ref b7), (.ref b2), (.ref b2)])) rfl (by rw [hml]; rfl) (Steps.refl _) (a := b2) (argsL := [(.ref b7)]) (rest := [(.ref b2)]) (lenOf pd_34 rfl) rfl (by show 2 * 0 + _ ≤ _; exact Nat.le_of_eq rfl) (hb hby d_6) (fun _ _ => ⟨rfl, e7, (by decide : 2 + 4 ≤ _), (by decide : 4 + 8 ≤ _)⟩)
  dsimp only [Pt.U, Pt.locs, Pt.cells, Pt.slots] at Y13 l13 y13 z13 st13 hQ13 hs13 hg13 c13
  subst l13 y13 z13
  obtain ⟨X13, hS13, hZ13, hown13⟩ := rebS (s := s) (vm0 := s.vm) ((State.WarmedH.refl s).since 0) (Nat.zero_le _) Y13 hs13 hg13 hZ hown
  obtain ⟨b13_0, k13_0, rfl, N13q, K13, F13_0, F13_1, F13_2⟩ := hQ13
  have N20 := Fr.app N0 N13q
  have C21 := CHr.trans C9 c13
  have O22 := O10.keep K13 (allS g18 all0)
  have K23 : Keep h0 T13.heap [] := Keep.trans K11 K13 (allS (Or.inr (Nat.le_of_eq g2.symm)) all0)
  have f24 := (f14.keep K13)
  refine ⟨T13, some (.ref b2), _, _, _, T13.vm, _, X13, hS13, (Nat.le_refl _), by decide, by decide, nofun, ?_, own_che rfl (CHr.trans C21 (CHv.at (s := s) X13 hZ13 (own_ew_21 hw) c13.1)), fun fs hr => castTop (ef_36 m p1 p2) ?_⟩
  · show Q3_mk Z p1 p2 h0 n0 _ T13.heap _
    exact ⟨b2, b13_0, k13_0, rfl, N20, K23, (Nat.le_of_eq g2.symm), f24, F13_1, F13_2, F13_0⟩
  · show SS p e below s₁ m 0 #[.val o0, iv p1, iv p2] [] _
    refine XS.iloadN X1.here hx rfl (hb hby d_0) rfl ?_
    refine XS.ifNo X1.here hx rfl (hb hby d_1) rfl ((if0 _ _).trans (teq (by decide : (0 : Int32) = (0 : Int32))).2) ?_
    refine st2 _ ?_
    refine XS.dup X2.here hx rfl (hb hby d_3) rfl rfl ?_
    refine XS.iconst X2.here hx rfl (hb hby d_4) ?_
    refine st7 _ ?_
    refine st13.trans ?_
    exact retOut X13 hx hret rfl (Or.inr (Or.inr (Or.inr (Or.inr ⟨rfl, rfl, rfl⟩)))) (hb hby d_35) hr
theorem pd_38 : parseMethodDescriptor "(ICC)Ljava/lang/String;" = some ⟨[.int, .char, .char], some (.object "java/lang/String")⟩ := by decide +kernel
theorem d_39 : decode prog_7_method_1_code 0 = .ok (.aload_n 0, 1) := by decide +kernel
theorem d_40 : decode prog_7_method_1_code 1 = .ok (.invokespecial 1, 3) := by decide +kernel
theorem d_41 : decode jdk_30_method_1_code 0 = .ok (.aload_n 0, 1) := by decide +kernel
theorem d_42 : decode jdk_30_method_1_code 1 = .ok (.invokespecial 1, 3) := by decide +kernel
theorem d_43 : decode jdk_30_method_1_code 4 = .ok (.return_, 1) := by decide +kernel
theorem ef_44 (m : MethodId) (a1 : Addr) : entryFrame m #[(.ref a1)] 1 = mkF m 0 #[rv a1] [] := by first | (simp [entryFrame, mkF, argsToLocals, Value.category]; done) | rfl
theorem pn_45 : plainName "java/lang/Record" = true := by first | (simp [plainName, overriddenIn]; done) | decide +kernel
def Q4_init (Z : State) (a1 : Addr) (h0 : Heap) (n0 : Nat) (v : Option Value) (h : Heap) (L : List Loc) : Prop := v = none ∧ Fr n0 L ∧ h = h0
theorem rm4_init (l : Launch) (Z : State) (a0 : Array Value) (hw : HW Z a0) (a1 : Addr) (h0 : Heap) (n0 : Nat) (O0 : Old Z n0 h0)  :
    Met l Z [] MY3 jdk_30_method_1_code 1 none ({ frames := 1, cells := 0, slots := 0, locals := 12 } : Room) #[(.ref a1)] h0 (Q4_init Z a1 h0 n0) := by
  have W := @own_W _ _ hw
  refine own_mk (plainFor_of_name pn_45) ?_
  intro p e s m below meth c s₁ hZ hx hby hml hown hnm hret hlk X0 e0
  have N0 := Fr.nil n0
  obtain ⟨T1, X1, e1, st1⟩ := initO X0 hx hZ hown (W 38 rfl) (W 17 rfl) (W 18 rfl) e0 (g := (mkF m 1 #[rv a1] [(.ref a1)])) rfl (by rw [hml]; rfl) rfl (hb hby d_42) (by decide) (W := 0) (by show 2 * 0 + _ ≤ _; exact Nat.le_of_eq rfl) (by decide)
  refine ⟨T1, none, _, _, _, X1, by decide, by decide, (fun _ => rfl), ?_, fun fs hr => castTop (ef_44 m a1) ?_⟩
  · show Q4_init Z a1 h0 n0 _ T1.heap _
    rw [e1]
    exact ⟨rfl, N0, rfl⟩
  · show SS p e below s₁ m 0 #[rv a1] [] _
    refine XS.aloadN X0.here hx rfl (hb hby d_41) rfl rfl ?_
    refine st1 _ ?_
    exact X1.returnOut hx hret (hb hby d_43) hr
theorem pd_46 : parseMethodDescriptor "()V" = some ⟨[], none⟩ := by decide +kernel
theorem d_47 : decode prog_7_method_1_code 4 = .ok (.aload_n 0, 1) := by decide +kernel
theorem d_48 : decode prog_7_method_1_code 5 = .ok (.aload_n 1, 1) := by decide +kernel
theorem d_49 : decode prog_7_method_1_code 6 = .ok (.putfield 7, 3) := by decide +kernel
theorem d_50 : decode prog_7_method_1_code 9 = .ok (.aload_n 0, 1) := by decide +kernel
theorem d_51 : decode prog_7_method_1_code 10 = .ok (.aload_n 2, 1) := by decide +kernel
theorem d_52 : decode prog_7_method_1_code 11 = .ok (.putfield 13, 3) := by decide +kernel
theorem d_53 : decode prog_7_method_1_code 14 = .ok (.return_, 1) := by decide +kernel
theorem ef_54 (m : MethodId) (a1 : Addr) (a2 : Addr) (a3 : Addr) : entryFrame m #[(.ref a1), (.ref a2), (.ref a3)] 3 = mkF m 0 #[rv a1, rv a2, rv a3] [] := by first | (simp [entryFrame, mkF, argsToLocals, Value.category]; done) | rfl
theorem pn_55 : plainName "com/example/bylaw/bylaw/PolicyProblem" = true := by first | (simp [plainName, overriddenIn]; done) | decide +kernel
def Q5_init (Z : State) (a1 : Addr) (a2 : Addr) (a3 : Addr) (h0 : Heap) (n0 : Nat) (v : Option Value) (h : Heap) (L : List Loc) : Prop := v = none ∧ Fr n0 L ∧ Keep h0 h [a1] ∧ FA39 Z h a1 (.ref a2) ∧ FA40 Z h a1 (.ref a3)
theorem rm5_init (l : Launch) (Z : State) (a0 : Array Value) (hw : HW Z a0) (a1 : Addr) (a2 : Addr) (a3 : Addr) (h0 : Heap) (n0 : Nat) (O0 : Old Z n0 h0) (F_0 : EA45 Z h0 a1) (F_1 : FA39 Z h0 a1 .null) (g_2 : n0 ≤ a1) (F_3 : FA40 Z h0 a1 .null) :
    Met l Z [] MY4 prog_7_method_1_code 3 none ({ frames := 2, cells := 0, slots := 0, locals := 24 } : Room) #[(.ref a1), (.ref a2), (.ref a3)] h0 (Q5_init Z a1 a2 a3 h0 n0) := by
  have W := @own_W _ _ hw
  refine own_mk (plainFor_of_name pn_55) ?_
  intro p e s m below meth c s₁ hZ hx hby hml hown hnm hret hlk X0 e0
  have N0 := Fr.nil n0
  obtain ⟨_, T1, L1, X1, hQ1, st1⟩ := own_cp X0 hx hZ hown hml rfl (W 33 rfl) (W 34 rfl) (W 36 rfl) (W 37 rfl) (rm4_init l Z a0 hw a1 h0 n0 O0 ) e0 (hb hby d_40) 0 #[rv a1, rv a2, rv a3] a1 [] [] pd_46
  obtain ⟨rfl, N1q, K1⟩ := hQ1
  have N2 := Fr.app N0 N1q
  obtain ⟨T3, h3, X3, e3, W3, st3⟩ := putF X1 hx hZ hown (host := "") (Or.inl (W 39 rfl)) Via.refl K1 F_1 F_0 (Or.inr ⟨(W 40 rfl), rfl, hnm⟩) (W 28 rfl) (ty := (.object "java/lang/String")) (by decide) rfl rfl (g := (mkF m 6 #[rv a1, rv a2, rv a3] [(.ref a2), (.ref a1)])) rfl rfl (hb hby d_49)
  have O4 := O0.wr W3 g_2
  have K5 : Keep h0 h3 [a1] := Keep.wr (Keep.refl h0 [a1]) W3 (Or.inl (List.mem_of_getElem? (i := 0) rfl))
  have f6 : FA39 Z h3 a1 (.ref a2) := (F_1.same W3)
  have N7 := Fr.snoc X3 N2 g_2
  have f9 := (F_3.other W3 (Or.inr (slot_ne (Or.inr (W 42 rfl)) (Or.inr (W 40 rfl)) (by decide) (t := (.object "java/lang/String")) (t' := (.object "java/lang/String")) (by decide) (by decide))))
  have f10 := (F_0.wr W3)
  obtain ⟨T8, h8, X8, e8, W8, st8⟩ := putF X3 hx hZ hown (host := "") (Or.inl (W 41 rfl)) Via.refl e3 f9 f10 (Or.inr ⟨(W 42 rfl), rfl, hnm⟩) (W 28 rfl) (ty := (.object "java/lang/String")) (by decide) rfl rfl (g := (mkF m 11 #[rv a1, rv a2, rv a3] [(.ref a3), (.ref a1)])) rfl rfl (hb hby d_52)
  have O11 := O4.wr W8 g_2
  have K12 : Keep h0 h8 [a1] := Keep.wr K5 W8 (Or.inl (List.mem_of_getElem? (i := 0) rfl))
  have f13 : FA40 Z h8 a1 (.ref a3) := (f9.same W8)
  have N14 := Fr.snoc X8 N7 g_2
  have f15 := (f6.other W8 (Or.inr (slot_ne (Or.inr (W 40 rfl)) (Or.inr (W 42 rfl)) (by decide) (t := (.object "java/lang/String")) (t' := (.object "java/lang/String")) (by decide) (by decide))))
  refine ⟨T8, none, _, _, _, X8, by decide, by decide, (fun _ => rfl), ?_, fun fs hr => castTop (ef_54 m a1 a2 a3) ?_⟩
  · show Q5_init Z a1 a2 a3 h0 n0 _ T8.heap _
    rw [e8]
    exact ⟨rfl, N14, K12, f15, f13⟩
  · show SS p e below s₁ m 0 #[rv a1, rv a2, rv a3] [] _
    refine XS.aloadN X0.here hx rfl (hb hby d_39) rfl rfl ?_
    refine st1 _ ?_
    refine XS.aloadN X1.here hx rfl (hb hby d_47) rfl rfl ?_
    refine XS.aloadN X1.here hx rfl (hb hby d_48) rfl rfl ?_
    refine st3 _ ?_
    refine XS.aloadN X3.here hx rfl (hb hby d_50) rfl rfl ?_
    refine XS.aloadN X3.here hx rfl (hb hby d_51) rfl rfl ?_
    refine st8 _ ?_
    exact X8.returnOut hx hret (hb hby d_53) hr
theorem pd_56 : parseMethodDescriptor "(Ljava/lang/String;Ljava/lang/String;)V" = some ⟨[(.object "java/lang/String"), (.object "java/lang/String")], none⟩ := by decide +kernel
theorem d_57 : decode prog_7_method_2_code 0 = .ok (.aload_n 0, 1) := by decide +kernel
theorem d_58 : decode prog_7_method_2_code 1 = .ok (.getfield 7, 3) := by decide +kernel
theorem d_59 : decode prog_7_method_2_code 4 = .ok (.invokevirtual 16, 3) := by decide +kernel
theorem d_60 : decode jdk_42_method_55_code 0 = .ok (.aload_n 0, 1) := by decide +kernel
theorem d_61 : decode jdk_42_method_55_code 1 = .ok (.getfield 9, 3) := by decide +kernel
theorem d_62 : decode jdk_42_method_55_code 4 = .ok (.arraylength, 1) := by decide +kernel
theorem d_63 : decode jdk_42_method_55_code 5 = .ok (.ifCond .ne 7, 3) := by decide +kernel
theorem d_64 : decode jdk_42_method_55_code 8 = .ok (.iconst 1, 1) := by decide +kernel
theorem d_65 : decode jdk_42_method_55_code 9 = .ok (.goto 4, 3) := by decide +kernel
theorem d_66 : decode jdk_42_method_55_code 13 = .ok (.ireturn, 1) := by decide +kernel
def Q6_isEmpty (Z : State) (a1 : Addr) (a2 : Addr) (k3 : ClassId) (h0 : Heap) (n0 : Nat) (v : Option Value) (h : Heap) (L : List Loc) : Prop := v = some (.int (1 : Int32)) ∧ Fr n0 L ∧ h = h0
theorem rm6_isEmpty (l : Launch) (Z : State) (a0 : Array Value) (hw : HW Z a0) (a1 : Addr) (a2 : Addr) (k3 : ClassId) (h0 : Heap) (n0 : Nat) (O0 : Old Z n0 h0) (F_0 : FA37 Z h0 a1 (.ref a2)) (F_1 : Arv Z h0 a2 k3 .byte (0 : Int32) [] o0) :
    Met l Z [] MY5 jdk_42_method_55_code 1 (some .boolean) ({ frames := 0, cells := 0, slots := 0, locals := 0 } : Room) #[(.ref a1)] h0 (Q6_isEmpty Z a1 a2 k3 h0 n0) := by
  have W := @own_W _ _ hw
  refine own_mk (plainFor_of_name pn_30) ?_
  intro p e s m below meth c s₁ hZ hx hby hml hown hnm hret hlk X0 e0
  have N0 := Fr.nil n0
  obtain ⟨T1, X1, e1, st1⟩ := getF X0 hx hZ hown (host := "") (Or.inl (W 25 rfl)) Via.refl e0 F_0 (g := (mkF m 1 #[rv a1] [(.ref a1)])) rfl rfl (hb hby d_61)
  obtain ⟨c2, A2, q2, S2, N2, H2, G2⟩ := id F_1
  refine ⟨T1, some (.int (1 : Int32)), _, _, _, X1, by decide, by decide, nofun, ?_, fun fs hr => castTop (ef_44 m a1) ?_⟩
  · show Q6_isEmpty Z a1 a2 k3 h0 n0 _ T1.heap _
    rw [e1]
    exact ⟨rfl, N0, rfl⟩
  · show SS p e below s₁ m 0 #[rv a1] [] _
    refine XS.aloadN X0.here hx rfl (hb hby d_60) rfl rfl ?_
    refine st1 _ ?_
    refine X1.arraylength hx (by rw [e1]; exact A2.1) (State.isArrayOf_alike hZ.alike A2.2.1) (g := (mkF m 4 #[rv a1] [(.ref a2)])) rfl rfl (hb hby d_62) _ ?_
    rw [len_of S2 N2]
    refine XS.ifNo X1.here hx rfl (hb hby d_63) rfl ((if0 _ _).trans (teq (by decide : (0 : Int32) = (0 : Int32))).2) ?_
    refine XS.iconst X1.here hx rfl (hb hby d_64) ?_
    refine XS.goto X1.here hx rfl (pc0 := 9) (pc' := 13) rfl (hb hby d_65) (by decide) (by decide) ?_
    exact retN X1 hx (t := .boolean) hret (by simp) (hb hby d_66) hr
theorem pd_67 : parseMethodDescriptor "()Z" = some ⟨[], some .boolean⟩ := by decide +kernel
theorem d_68 : decode prog_7_method_2_code 7 = .ok (.ifCond .eq 10, 3) := by decide +kernel
theorem d_69 : decode prog_7_method_2_code 10 = .ok (.aload_n 0, 1) := by decide +kernel
theorem d_70 : decode prog_7_method_2_code 11 = .ok (.getfield 13, 3) := by decide +kernel
theorem d_71 : decode prog_7_method_2_code 14 = .ok (.goto 32, 3) := by decide +kernel
theorem d_72 : decode prog_7_method_2_code 46 = .ok (.areturn, 1) := by decide +kernel
def Q7_toString (Z : State) (a1 : Addr) (a2 : Addr) (a3 : Addr) (k4 : ClassId) (a5 : Addr) (h0 : Heap) (n0 : Nat) (v : Option Value) (h : Heap) (L : List Loc) : Prop := v = some (.ref a5) ∧ Fr n0 L ∧ h = h0
theorem rm7_toString (l : Launch) (Z : State) (a0 : Array Value) (hw : HW Z a0) (a1 : Addr) (a2 : Addr) (a3 : Addr) (k4 : ClassId) (a5 : Addr) (h0 : Heap) (n0 : Nat) (O0 : Old Z n0 h0) (F_0 : FA39 Z h0 a1 (.ref a2)) (F_1 : EA44 Z h0 a2) (F_2 : FA37 Z h0 a2 (.ref a3)) (F_3 : Arv Z h0 a3 k4 .byte (0 : Int32) [] o0) (F_4 : FA40 Z h0 a1 (.ref a5)) :
    Met l Z [] MY6 prog_7_method_2_code 1 (some (.object "java/lang/String")) ({ frames := 1, cells := 0, slots := 0, locals := 12 } : Room) #[(.ref a1)] h0 (Q7_toString Z a1 a2 a3 k4 a5 h0 n0) := by
  have W := @own_W _ _ hw
  refine own_mk (plainFor_of_name pn_55) ?_
  intro p e s m below meth c s₁ hZ hx hby hml hown hnm hret hlk X0 e0
  have N0 := Fr.nil n0
  obtain ⟨T1, X1, e1, st1⟩ := getF X0 hx hZ hown (host := "") (Or.inl (W 39 rfl)) Via.refl e0 F_0 (g := (mkF m 1 #[rv a1] [(.ref a1)])) rfl rfl (hb hby d_58)
  obtain ⟨_, T2, L2, X2, hQ2, st2⟩ := own_cv X1 hx hZ hown hml (W 48 rfl) (W 49 rfl) (notFace_of_selects (W 51 rfl)) (W 51 rfl) (W 50 rfl) (W 7 rfl) (W 52 rfl) (rm6_isEmpty l Z a0 hw a2 a3 k4 h0 n0 O0 (F_2) (F_3)) e1 F_1 (hb hby d_59) 0 #[rv a1] [] [] pd_67
  obtain ⟨rfl, N2q, K2⟩ := hQ2
  have N3 := Fr.app N0 N2q
  obtain ⟨T4, X4, e4, st4⟩ := getF X2 hx hZ hown (host := "") (Or.inl (W 41 rfl)) Via.refl K2 F_4 (g := (mkF m 11 #[rv a1] [(.ref a1)])) rfl rfl (hb hby d_70)
  refine ⟨T4, some (.ref a5), _, _, _, X4, by decide, by decide, nofun, ?_, fun fs hr => castTop (ef_44 m a1) ?_⟩
  · show Q7_toString Z a1 a2 a3 k4 a5 h0 n0 _ T4.heap _
    rw [e4]
    exact ⟨rfl, N3, rfl⟩
  · show SS p e below s₁ m 0 #[rv a1] [] _
    refine XS.aloadN X0.here hx rfl (hb hby d_57) rfl rfl ?_
    refine st1 _ ?_
    refine st2 _ ?_
    refine XS.ifNo X2.here hx rfl (hb hby d_68) rfl ((if0 _ _).trans (feq (by decide : ¬ ((1 : Int32) = (0 : Int32)))).1) ?_
    refine XS.aloadN X2.here hx rfl (hb hby d_69) rfl rfl ?_
    refine st4 _ ?_
    refine XS.goto X4.here hx rfl (pc0 := 14) (pc' := 46) rfl (hb hby d_71) (by decide) (by decide) ?_
    exact retOut X4 hx hret rfl (Or.inr (Or.inr (Or.inr (Or.inr ⟨rfl, rfl, rfl⟩)))) (hb hby d_72) hr
theorem pd_73 : parseMethodDescriptor "()Ljava/lang/String;" = some ⟨[], some (.object "java/lang/String")⟩ := by decide +kernel
theorem d_74 : decode jdk_42_method_66_code 0 = .ok (.aload_n 0, 1) := by decide +kernel
theorem d_75 : decode jdk_42_method_66_code 1 = .ok (.aload_n 1, 1) := by decide +kernel
theorem d_76 : decode jdk_42_method_66_code 2 = .ok (.if_acmp .ne 5, 3) := by decide +kernel
theorem d_77 : decode jdk_42_method_66_code 5 = .ok (.iconst 1, 1) := by decide +kernel
theorem d_78 : decode jdk_42_method_66_code 6 = .ok (.ireturn, 1) := by decide +kernel
theorem ef_79 (m : MethodId) (a1 : Addr) : entryFrame m #[(.ref a1), (.ref a1)] 3 = mkF m 0 #[rv a1, rv a1, .unset] [] := by first | (simp [entryFrame, mkF, argsToLocals, Value.category]; done) | rfl
def Q8_equals (Z : State) (a1 : Addr) (h0 : Heap) (n0 : Nat) (v : Option Value) (h : Heap) (L : List Loc) : Prop := v = some (.int (1 : Int32)) ∧ Fr n0 L ∧ h = h0
theorem rm8_equals (l : Launch) (Z : State) (a0 : Array Value) (hw : HW Z a0) (a1 : Addr) (h0 : Heap) (n0 : Nat) (O0 : Old Z n0 h0)  :
    Met l Z [] MY7 jdk_42_method_66_code 3 (some .boolean) ({ frames := 0, cells := 0, slots := 0, locals := 0 } : Room) #[(.ref a1), (.ref a1)] h0 (Q8_equals Z a1 h0 n0) := by
  have W := @own_W _ _ hw
  refine own_mk (plainFor_of_name pn_30) ?_
  intro p e s m below meth c s₁ hZ hx hby hml hown hnm hret hlk X0 e0
  have N0 := Fr.nil n0
  refine ⟨s₁, some (.int (1 : Int32)), _, _, _, X0, by decide, by decide, nofun, ?_, fun fs hr => castTop (ef_79 m a1) ?_⟩
  · show Q8_equals Z a1 h0 n0 _ s₁.heap _
    rw [e0]
    exact ⟨rfl, N0, rfl⟩
  · show SS p e below s₁ m 0 #[rv a1, rv a1, .unset] [] _
    refine XS.aloadN X0.here hx rfl (hb hby d_74) rfl rfl ?_
    refine XS.aloadN X0.here hx rfl (hb hby d_75) rfl rfl ?_
    refine Jvm.RoadKit.acmp (g := (mkF m 2 #[rv a1, rv a1, .unset] [(.ref a1), (.ref a1)])) X0 hx rfl rfl rfl (pc0 := 2) (pc' := 5) (same := true) rfl (hb hby d_76) rfl (decide_eq_true rfl) (by decide) (by decide) ?_
    refine XS.iconst X0.here hx rfl (hb hby d_77) ?_
    exact retN X0 hx (t := .boolean) hret (by simp) (hb hby d_78) hr
theorem pd_80 : parseMethodDescriptor "(Ljava/lang/Object;)Z" = some ⟨[(.object "java/lang/Object")], some .boolean⟩ := by decide +kernel
theorem ef_81 (m : MethodId) (p1 : Int32) (p2 : Int32) (p3 : Int32) (p4 : Int32) (p5 : Int32) : entryFrame m #[(.int p1), (.int p2), (.int p3), (.int p4), (.int p5)] maxLocals = mkF m 0 #[iv p1, iv p2, iv p3, iv p4, iv p5, .unset, .unset, .unset, .unset, .unset, .unset, .unset, .unset, .unset] [] := by first | (simp [entryFrame, mkF, argsToLocals, Value.category, maxLocals]; done) | rfl
theorem rm0_0_0 (l : Launch) (Z : State) (a0 : Array Value) (hw : HW Z a0) (ws : List Jvm.Cond) (p1 : Int32) (p2 : Int32) (p3 : Int32) (p4 : Int32) (p5 : Int32) (c0 : Int32) (c1 : Int32) (d0 : Int32) (d1 : Int32) (o_COMPACT_STRINGS : Int32) (o_SIOOBE_FORMATTER : Value) (h0 : Heap) (n0 : Nat) (O0 : Old Z n0 h0) (S_o_COMPACT_STRINGS : SA48 Z Z.heap (.int o_COMPACT_STRINGS)) (S_o_SIOOBE_FORMATTER : SA49 Z Z.heap o_SIOOBE_FORMATTER) (nz_o_COMPACT_STRINGS : ¬ (o_COMPACT_STRINGS = (0 : Int32))) (ir_o_SIOOBE_FORMATTER : o_SIOOBE_FORMATTER.isRef = true) (hpl : ((p1 &&& (2147483647 : Int32)) % (3 : Int32)) = (0 : Int32)) (hml_ : ((((p1.toUInt32 >>> ((8 : Int32) &&& 31).toUInt32).toInt32) &&& (2147483647 : Int32)) % (3 : Int32)) = (0 : Int32)) (h_c0 : ((p2 &&& (255 : Int32)).toUInt32.toUInt16.toUInt32.toInt32) = c0) (r_c0 : ¬ ((255 : Int32) < c0)) (n_c0 : ¬ (c0 < (0 : Int32))) (i_c0 : (c0.toUInt32.toUInt16.toUInt32.toInt32) = c0) (b_c0 : ((c0.toInt8.toInt32) &&& (255 : Int32)) = c0) (h_c1 : ((p3 &&& (255 : Int32)).toUInt32.toUInt16.toUInt32.toInt32) = c1) (r_c1 : ¬ ((255 : Int32) < c1)) (n_c1 : ¬ (c1 < (0 : Int32))) (i_c1 : (c1.toUInt32.toUInt16.toUInt32.toInt32) = c1) (b_c1 : ((c1.toInt8.toInt32) &&& (255 : Int32)) = c1) (h_d0 : ((p4 &&& (255 : Int32)).toUInt32.toUInt16.toUInt32.toInt32) = d0) (r_d0 : ¬ ((255 : Int32) < d0)) (n_d0 : ¬ (d0 < (0 : Int32))) (i_d0 : (d0.toUInt32.toUInt16.toUInt32.toInt32) = d0) (b_d0 : ((d0.toInt8.toInt32) &&& (255 : Int32)) = d0) (h_d1 : ((p5 &&& (255 : Int32)).toUInt32.toUInt16.toUInt32.toInt32) = d1) (r_d1 : ¬ ((255 : Int32) < d1)) (n_d1 : ¬ (d1 < (0 : Int32))) (i_d1 : (d1.toUInt32.toUInt16.toUInt32.toInt32) = d1) (b_d1 : ((d1.toInt8.toInt32) &&& (255 : Int32)) = d1) :
    MetH l Z ws x code maxLocals ret room_1 #[(.int p1), (.int p2), (.int p3), (.int p4), (.int p5)] h0 consts_1 [] (fun v _ L => Q0 n0 v L) := by
  have W := @own_W _ _ hw
  refine own_mkH (plainFor_of_name pn_37) ?_
  intro p e s m below meth c s₁ hZ hx hby hml hown hnm hret hlk X0 e0 H0 hsf
  have N0 := Fr.nil n0
  have C0 := CHr.refl H0
  have X1 := (show Stand p l e _ (s.setVm s.vm) m _ below meth c _ _ _ _ from X0)
  obtain ⟨_, _, ⟨T2, L2, k2, n2⟩, -, Y2, hs2, hg2, ⟨Lc2, hQ2, l2, y2, z2, c2⟩, st2⟩ := callSS (s := s.setVm s.vm) X1 hx (y := MY2) hown (mvT hZ (W 1 rfl)) (mvT hZ (W 2 rfl)) (mvT hZ (W 3 rfl)) (mvT hZ (W 4 rfl)) (by decide) (own_backH (s := s) (vm0 := s.vm) (W := 0) (rm3_mk l Z a0 hw c0 c1 h0 n0 O0 ) hZ (W 4 rfl) (W 3 rfl) (by decide) (by decide) (own_ew_21 hw) H0 own_sf0) (g := (mkF m 58 #[iv p1, iv p2, iv p3, iv p4, iv p5, .val o0, .val o0, iv c0, iv c1, iv d0, iv d1, .unset, .unset, .unset] [(.int c1), (.int c0), o0])) rfl (by rw [hml]; rfl) (argsL := [o0, (.int c0), (.int c1)]) (rest := []) (lenOf pd_38 rfl) rfl (by show 2 * 0 + _ ≤ _; exact Nat.le_of_eq rfl) (hb hby at_58) (fun _ _ => ⟨rfl, e0, (by decide : 0 + 6 ≤ _), (by decide : 0 + 12 ≤ _)⟩)
  dsimp only [Pt.U, Pt.locs, Pt.cells, Pt.slots] at Y2 l2 y2 z2 st2 hQ2 hs2 hg2 c2
  subst l2 y2 z2
  obtain ⟨X2, hS2, hZ2, hown2⟩ := rebS (s := s) (vm0 := s.vm) ((State.WarmedH.refl s).since 0) (Nat.zero_le _) Y2 hs2 hg2 hZ hown
  obtain ⟨b2_0, b2_1, k2_0, rfl, N2q, K2, gb2_0, F2_0, F2_1, F2_2, F2_3⟩ := hQ2
  have N3 := Fr.app N0 N2q
  have C4 := CHr.trans C0 c2
  have O5 := O0.keep K2 all0
  have K6 : Keep h0 T2.heap [] := Keep.trans (Keep.refl h0 []) K2 all0
  obtain ⟨_, _, ⟨T7, L7, k7, n7⟩, -, Y7, hs7, hg7, ⟨Lc7, hQ7, l7, y7, z7, c7⟩, st7⟩ := callSS (s := s.setVm T2.vm) X2 hx (y := MY2) hown2 (mvT hZ2 (W 1 rfl)) (mvT hZ2 (W 2 rfl)) (mvT hZ2 (W 3 rfl)) (mvT hZ2 (W 4 rfl)) (by decide) (own_backH (s := s) (vm0 := T2.vm) (W := 0) (rm3_mk l Z a0 hw d0 d1 T2.heap n0 O5 ) hZ2 (W 4 rfl) (W 3 rfl) (by decide) (by decide) (own_ew_21 hw) c2.1 own_sf0) (g := (mkF m 69 #[iv p1, iv p2, iv p3, iv p4, iv p5, .val o0, .val o0, iv c0, iv c1, iv d0, iv d1, rv b2_0, .unset, .unset] [(.int d1), (.int d0), o0])) rfl (by rw [hml]; rfl) (argsL := [o0, (.int d0), (.int d1)]) (rest := []) (lenOf pd_38 rfl) rfl (by show 2 * 0 + _ ≤ _; exact Nat.le_of_eq rfl) (hb hby at_69) (fun _ _ => ⟨rfl, rfl, (by decide : 6 + 6 ≤ _), (by decide : 12 + 12 ≤ _)⟩)
  dsimp only [Pt.U, Pt.locs, Pt.cells, Pt.slots] at Y7 l7 y7 z7 st7 hQ7 hs7 hg7 c7
  subst l7 y7 z7
  obtain ⟨X7, hS7, hZ7, hown7⟩ := rebS (s := s) (vm0 := T2.vm) hS2 (Nat.le_refl _) Y7 hs7 hg7 hZ2 hown2
  obtain ⟨b7_0, b7_1, k7_0, rfl, N7q, K7, gb7_0, F7_0, F7_1, F7_2, F7_3⟩ := hQ7
  have N8 := Fr.app N3 N7q
  have C9 := CHr.trans C4 c7
  have O10 := O5.keep K7 all0
  have K11 : Keep h0 T7.heap [] := Keep.trans K6 K7 all0
  obtain ⟨T12, h12, X12, e12, E12, A12, D12, -, st12⟩ := newO X7 hx hZ7 hown7 (W 27 rfl) (W 28 rfl) (W 29 rfl) rfl (g := (mkF m 74 #[iv p1, iv p2, iv p3, iv p4, iv p5, .val o0, .val o0, iv c0, iv c1, iv d0, iv d1, rv b2_0, rv b7_0, .unset] [])) rfl (hb hby at_74) (by decide) (by decide)
  obtain ⟨b12, g12⟩ : ∃ z, z = T7.heap.size := ⟨_, rfl⟩
  rw [← g12] at A12 D12 st12
  have c13 := CHr.ext E12 c7.1
  have C14 := CHr.trans C9 c13
  have O15 := O10.ext E12
  have K16 : Keep h0 h12 [] := Keep.ext K11 E12
  have z18 : h0.size ≤ T2.heap.size := K2.1
  have z19 : h0.size ≤ T7.heap.size := (Nat.le_trans z18 K7.1)
  have g20 : n0 ≤ b12 := Nat.le_trans (Nat.le_trans (Nat.le_trans (Nat.le_of_eq O0.1.symm) O0.2.1) z19) (Nat.le_of_eq g12.symm)
  obtain ⟨_, T17, L17, X17, hQ17, st17⟩ := own_cp X12 hx hZ7 hown7 hml rfl (W 30 rfl) (W 31 rfl) (W 29 rfl) (W 32 rfl) (rm5_init l Z a0 hw b12 b2_0 b7_0 h12 n0 O15 (A12) ((D12 (Or.inr (W 40 rfl)) (ty := (.object "java/lang/String")) (by decide) : FA39 Z h12 b12 .null)) (g20) ((D12 (Or.inr (W 42 rfl)) (ty := (.object "java/lang/String")) (by decide) : FA40 Z h12 b12 .null))) e12 (hb hby at_82) 1 #[iv p1, iv p2, iv p3, iv p4, iv p5, .val o0, .val o0, iv c0, iv c1, iv d0, iv d1, rv b2_0, rv b7_0, .unset] b12 [(.ref b2_0), (.ref b7_0)] [(.ref b12)] pd_56
  obtain ⟨rfl, N17q, K17, F17_0, F17_1⟩ := hQ17
  have N21 := Fr.app N8 N17q
  have s22 := Safe.exa (EL := consts_1) hZ7.alike A12 (by decide) (by decide)
  have c23 := CHr.keep K17 (sfS s22 sf0) c13.1
  have C24 := CHr.trans C14 c23
  have O25 := O15.keep K17 (allS g20 all0)
  have K26 : Keep h0 T17.heap [] := Keep.trans K16 K17 (allS (Or.inr (Nat.le_trans z19 (Nat.le_of_eq g12.symm))) all0)
  have f28 := (((F2_0.keep K7).ext E12).keep K17)
  have z29 : T2.heap.size ≤ T7.heap.size := K7.1
  have f30 := (((F2_1.keep K7 nin0).ext E12).keep K17 (ninS (Nat.ne_of_lt (Nat.lt_of_lt_of_le (Nat.lt_of_lt_of_le F2_0.lt z29) (Nat.le_of_eq g12.symm))) nin0))
  have f31 := (((F2_3.keep K7 nin0).ext E12).keep K17 (ninS (Nat.ne_of_lt (Nat.lt_of_lt_of_le (Nat.lt_of_lt_of_le F2_3.lt z29) (Nat.le_of_eq g12.symm))) nin0))
  have f32 := (A12.keep K17)
  obtain ⟨_, T27, L27, X27, hQ27, st27⟩ := own_cv X17 hx hZ7 hown7 hml (W 43 rfl) (W 44 rfl) (notFace_of_selects (W 46 rfl)) (W 46 rfl) (W 45 rfl) (W 29 rfl) (W 47 rfl) (rm7_toString l Z a0 hw b12 b2_0 b2_1 k2_0 b7_0 T17.heap n0 O25 (F17_0) (f28) (f30) (f31) (F17_1)) rfl f32 (hb hby at_85) 0 #[iv p1, iv p2, iv p3, iv p4, iv p5, .val o0, .val o0, iv c0, iv c1, iv d0, iv d1, rv b2_0, rv b7_0, .unset] [] [] pd_73
  obtain ⟨rfl, N27q, K27⟩ := hQ27
  have N33 := Fr.app N21 N27q
  have f35 := ((F7_0.ext E12).keep K17)
  obtain ⟨_, T34, L34, X34, hQ34, st34⟩ := own_cv X27 hx hZ7 hown7 hml (W 53 rfl) (W 54 rfl) (notFace_of_selects (W 56 rfl)) (W 56 rfl) (W 55 rfl) (W 7 rfl) (W 57 rfl) (rm8_equals l Z a0 hw b7_0 T17.heap n0 O25 ) K27 f35 (hb hby at_106) 0 #[iv p1, iv p2, iv p3, iv p4, iv p5, .val o0, .val o0, iv c0, iv c1, iv d0, iv d1, rv b2_0, rv b7_0, rv b7_0] [(.ref b7_0)] [] pd_80
  obtain ⟨rfl, N34q, K34⟩ := hQ34
  have N36 := Fr.app N33 N34q
  have z37 : T7.heap.size ≤ h12.size := E12.1
  have z38 : T7.heap.size ≤ T17.heap.size := (Nat.le_trans z37 K17.1)
  refine ⟨T34, some (.int (1 : Int32)), _, _, _, T7.vm, _, X34, hS7, (by rw [K34]; exact (Nat.le_trans (Nat.le_refl _) z38)), by decide, by decide, nofun, ?_, own_che K34 (CHr.trans C24 (CHv.at (s := s) X34 hZ7 (own_ew_21 hw) c23.1)), fun fs hr => castTop (ef_81 m p1 p2 p3 p4 p5) ?_⟩
  · exact ⟨rfl, N36⟩
  · show SS p e below s₁ m 0 #[iv p1, iv p2, iv p3, iv p4, iv p5, .unset, .unset, .unset, .unset, .unset, .unset, .unset, .unset, .unset] [] _
    refine XS.iloadN X1.here hx rfl (hb hby at_0) rfl ?_
    refine X1.ldcInt hx hown (mvT hZ (W 0 rfl)) (g := (mkF m 1 #[iv p1, iv p2, iv p3, iv p4, iv p5, .unset, .unset, .unset, .unset, .unset, .unset, .unset, .unset, .unset] [(.int p1)])) rfl (hb hby at_1) _ ?_
    show SS p e below s₁ m 3 #[iv p1, iv p2, iv p3, iv p4, iv p5, .unset, .unset, .unset, .unset, .unset, .unset, .unset, .unset, .unset] [(.int (2147483647 : Int32)), (.int p1)] _
    refine XS.iand X1.here hx rfl (hb hby at_3) rfl ?_
    show SS p e below s₁ m 4 #[iv p1, iv p2, iv p3, iv p4, iv p5, .unset, .unset, .unset, .unset, .unset, .unset, .unset, .unset, .unset] [(.int (p1 &&& (2147483647 : Int32)))] _
    refine XS.iconst X1.here hx rfl (hb hby at_4) ?_
    refine iremM (g := (mkF m 5 #[iv p1, iv p2, iv p3, iv p4, iv p5, .unset, .unset, .unset, .unset, .unset, .unset, .unset, .unset, .unset] [(.int (3 : Int32)), (.int (p1 &&& (2147483647 : Int32)))])) X1 hx rfl (hb hby at_5) rfl (by decide : ¬ ((3 : Int32) = (0 : Int32))) ?_
    rw [hpl]
    show SS p e below s₁ m 6 #[iv p1, iv p2, iv p3, iv p4, iv p5, .unset, .unset, .unset, .unset, .unset, .unset, .unset, .unset, .unset] [o0] _
    refine XS.istore X1.here hx rfl (hb hby at_6) rfl (l' := #[iv p1, iv p2, iv p3, iv p4, iv p5, .val o0, .unset, .unset, .unset, .unset, .unset, .unset, .unset, .unset]) rfl ?_
    refine XS.iloadN X1.here hx rfl (hb hby at_8) rfl ?_
    refine XS.bipush X1.here hx rfl (hb hby at_9) ?_
    show SS p e below s₁ m 11 #[iv p1, iv p2, iv p3, iv p4, iv p5, .val o0, .unset, .unset, .unset, .unset, .unset, .unset, .unset, .unset] [(.int (8 : Int32)), (.int p1)] _
    refine XS.iushr X1.here hx rfl (hb hby at_11) rfl ?_
    show SS p e below s₁ m 12 #[iv p1, iv p2, iv p3, iv p4, iv p5, .val o0, .unset, .unset, .unset, .unset, .unset, .unset, .unset, .unset] [(.int ((p1.toUInt32 >>> ((8 : Int32) &&& 31).toUInt32).toInt32))] _
    refine X1.ldcInt hx hown (mvT hZ (W 0 rfl)) (g := (mkF m 12 #[iv p1, iv p2, iv p3, iv p4, iv p5, .val o0, .unset, .unset, .unset, .unset, .unset, .unset, .unset, .unset] [(.int ((p1.toUInt32 >>> ((8 : Int32) &&& 31).toUInt32).toInt32))])) rfl (hb hby at_12) _ ?_
    refine XS.iand X1.here hx rfl (hb hby at_14) rfl ?_
    show SS p e below s₁ m 15 #[iv p1, iv p2, iv p3, iv p4, iv p5, .val o0, .unset, .unset, .unset, .unset, .unset, .unset, .unset, .unset] [(.int (((p1.toUInt32 >>> ((8 : Int32) &&& 31).toUInt32).toInt32) &&& (2147483647 : Int32)))] _
    refine XS.iconst X1.here hx rfl (hb hby at_15) ?_
    refine iremM (g := (mkF m 16 #[iv p1, iv p2, iv p3, iv p4, iv p5, .val o0, .unset, .unset, .unset, .unset, .unset, .unset, .unset, .unset] [(.int (3 : Int32)), (.int (((p1.toUInt32 >>> ((8 : Int32) &&& 31).toUInt32).toInt32) &&& (2147483647 : Int32)))])) X1 hx rfl (hb hby at_16) rfl (by decide : ¬ ((3 : Int32) = (0 : Int32))) ?_
    rw [hml_]
    show SS p e below s₁ m 17 #[iv p1, iv p2, iv p3, iv p4, iv p5, .val o0, .unset, .unset, .unset, .unset, .unset, .unset, .unset, .unset] [o0] _
    refine XS.istore X1.here hx rfl (hb hby at_17) rfl (l' := #[iv p1, iv p2, iv p3, iv p4, iv p5, .val o0, .val o0, .unset, .unset, .unset, .unset, .unset, .unset, .unset]) rfl ?_
    refine XS.iloadN X1.here hx rfl (hb hby at_19) rfl ?_
    refine XS.sipush X1.here hx rfl (hb hby at_20) ?_
    show SS p e below s₁ m 23 #[iv p1, iv p2, iv p3, iv p4, iv p5, .val o0, .val o0, .unset, .unset, .unset, .unset, .unset, .unset, .unset] [(.int (255 : Int32)), (.int p2)] _
    refine XS.iand X1.here hx rfl (hb hby at_23) rfl ?_
    show SS p e below s₁ m 24 #[iv p1, iv p2, iv p3, iv p4, iv p5, .val o0, .val o0, .unset, .unset, .unset, .unset, .unset, .unset, .unset] [(.int (p2 &&& (255 : Int32)))] _
    refine XS.i2c X1.here hx rfl (hb hby at_24) rfl ?_
    rw [h_c0]
    show SS p e below s₁ m 25 #[iv p1, iv p2, iv p3, iv p4, iv p5, .val o0, .val o0, .unset, .unset, .unset, .unset, .unset, .unset, .unset] [(.int c0)] _
    refine XS.istore X1.here hx rfl (hb hby at_25) rfl (l' := #[iv p1, iv p2, iv p3, iv p4, iv p5, .val o0, .val o0, iv c0, .unset, .unset, .unset, .unset, .unset, .unset]) rfl ?_
    refine XS.iloadN X1.here hx rfl (hb hby at_27) rfl ?_
    refine XS.sipush X1.here hx rfl (hb hby at_28) ?_
    show SS p e below s₁ m 31 #[iv p1, iv p2, iv p3, iv p4, iv p5, .val o0, .val o0, iv c0, .unset, .unset, .unset, .unset, .unset, .unset] [(.int (255 : Int32)), (.int p3)] _
    refine XS.iand X1.here hx rfl (hb hby at_31) rfl ?_
    show SS p e below s₁ m 32 #[iv p1, iv p2, iv p3, iv p4, iv p5, .val o0, .val o0, iv c0, .unset, .unset, .unset, .unset, .unset, .unset] [(.int (p3 &&& (255 : Int32)))] _
    refine XS.i2c X1.here hx rfl (hb hby at_32) rfl ?_
    rw [h_c1]
    show SS p e below s₁ m 33 #[iv p1, iv p2, iv p3, iv p4, iv p5, .val o0, .val o0, iv c0, .unset, .unset, .unset, .unset, .unset, .unset] [(.int c1)] _
    refine XS.istore X1.here hx rfl (hb hby at_33) rfl (l' := #[iv p1, iv p2, iv p3, iv p4, iv p5, .val o0, .val o0, iv c0, iv c1, .unset, .unset, .unset, .unset, .unset]) rfl ?_
    refine XS.iloadN X1.here hx rfl (hb hby at_35) rfl ?_
    refine XS.sipush X1.here hx rfl (hb hby at_36) ?_
    show SS p e below s₁ m 39 #[iv p1, iv p2, iv p3, iv p4, iv p5, .val o0, .val o0, iv c0, iv c1, .unset, .unset, .unset, .unset, .unset] [(.int (255 : Int32)), (.int p4)] _
    refine XS.iand X1.here hx rfl (hb hby at_39) rfl ?_
    show SS p e below s₁ m 40 #[iv p1, iv p2, iv p3, iv p4, iv p5, .val o0, .val o0, iv c0, iv c1, .unset, .unset, .unset, .unset, .unset] [(.int (p4 &&& (255 : Int32)))] _
    refine XS.i2c X1.here hx rfl (hb hby at_40) rfl ?_
    rw [h_d0]
    show SS p e below s₁ m 41 #[iv p1, iv p2, iv p3, iv p4, iv p5, .val o0, .val o0, iv c0, iv c1, .unset, .unset, .unset, .unset, .unset] [(.int d0)] _
    refine XS.istore X1.here hx rfl (hb hby at_41) rfl (l' := #[iv p1, iv p2, iv p3, iv p4, iv p5, .val o0, .val o0, iv c0, iv c1, iv d0, .unset, .unset, .unset, .unset]) rfl ?_
    refine XS.iload X1.here hx rfl (hb hby at_43) rfl ?_
    refine XS.sipush X1.here hx rfl (hb hby at_45) ?_
    show SS p e below s₁ m 48 #[iv p1, iv p2, iv p3, iv p4, iv p5, .val o0, .val o0, iv c0, iv c1, iv d0, .unset, .unset, .unset, .unset] [(.int (255 : Int32)), (.int p5)] _
    refine XS.iand X1.here hx rfl (hb hby at_48) rfl ?_
    show SS p e below s₁ m 49 #[iv p1, iv p2, iv p3, iv p4, iv p5, .val o0, .val o0, iv c0, iv c1, iv d0, .unset, .unset, .unset, .unset] [(.int (p5 &&& (255 : Int32)))] _
    refine XS.i2c X1.here hx rfl (hb hby at_49) rfl ?_
    rw [h_d1]
    show SS p e below s₁ m 50 #[iv p1, iv p2, iv p3, iv p4, iv p5, .val o0, .val o0, iv c0, iv c1, iv d0, .unset, .unset, .unset, .unset] [(.int d1)] _
    refine XS.istore X1.here hx rfl (hb hby at_50) rfl (l' := #[iv p1, iv p2, iv p3, iv p4, iv p5, .val o0, .val o0, iv c0, iv c1, iv d0, iv d1, .unset, .unset, .unset]) rfl ?_
    refine XS.iload X1.here hx rfl (hb hby at_52) rfl ?_
    refine XS.iload X1.here hx rfl (hb hby at_54) rfl ?_
    refine XS.iload X1.here hx rfl (hb hby at_56) rfl ?_
    refine st2.trans ?_
    refine XS.astore X2.here hx rfl (hb hby at_61) rfl rfl (l' := #[iv p1, iv p2, iv p3, iv p4, iv p5, .val o0, .val o0, iv c0, iv c1, iv d0, iv d1, rv b2_0, .unset, .unset]) rfl ?_
    refine XS.iload X2.here hx rfl (hb hby at_63) rfl ?_
    refine XS.iload X2.here hx rfl (hb hby at_65) rfl ?_
    refine XS.iload X2.here hx rfl (hb hby at_67) rfl ?_
    refine st7.trans ?_
    show SS p e below T7 m 72 #[iv p1, iv p2, iv p3, iv p4, iv p5, .val o0, .val o0, iv c0, iv c1, iv d0, iv d1, rv b2_0, .unset, .unset] [(.ref b7_0)] _
    refine XS.astore X7.here hx rfl (hb hby at_72) rfl rfl (l' := #[iv p1, iv p2, iv p3, iv p4, iv p5, .val o0, .val o0, iv c0, iv c1, iv d0, iv d1, rv b2_0, rv b7_0, .unset]) rfl ?_
    refine st12 _ ?_
    refine XS.dup X12.here hx rfl (hb hby at_77) rfl rfl ?_
    refine XS.aload X12.here hx rfl (hb hby at_78) rfl rfl ?_
    refine XS.aload X12.here hx rfl (hb hby at_80) rfl rfl ?_
    refine st17 _ ?_
    refine st27 _ ?_
    refine XS.astore X27.here hx rfl (hb hby at_88) rfl rfl (l' := #[iv p1, iv p2, iv p3, iv p4, iv p5, .val o0, .val o0, iv c0, iv c1, iv d0, iv d1, rv b2_0, rv b7_0, rv b7_0]) rfl ?_
    refine XS.aload X27.here hx rfl (hb hby at_90) rfl rfl ?_
    refine XS.ifnonnullYes X27.here hx rfl (pc0 := 92) (pc' := 97) rfl (hb hby at_92) rfl (by decide) (by decide) ?_
    show SS p e below T27 m 97 #[iv p1, iv p2, iv p3, iv p4, iv p5, .val o0, .val o0, iv c0, iv c1, iv d0, iv d1, rv b2_0, rv b7_0, rv b7_0] [] _
    refine XS.iload X27.here hx rfl (hb hby at_97) rfl ?_
    refine XS.ifNo X27.here hx rfl (hb hby at_99) rfl ((if0 _ _).trans (teq (by decide : (0 : Int32) = (0 : Int32))).2) ?_
    refine XS.aload X27.here hx rfl (hb hby at_102) rfl rfl ?_
    refine XS.aload X27.here hx rfl (hb hby at_104) rfl rfl ?_
    refine st34 _ ?_
    exact retN X34 hx (t := .boolean) hret (by simp) (hb hby at_109) hr
theorem d_82 : decode method_2_code 15 = .ok (.iload_n 0, 1) := by decide +kernel
theorem d_83 : decode method_2_code 16 = .ok (.iconst 1, 1) := by decide +kernel
theorem d_84 : decode method_2_code 17 = .ok (.if_icmp .ne 18, 3) := by decide +kernel
theorem d_85 : decode method_2_code 20 = .ok (.new 7, 3) := by decide +kernel
theorem d_86 : decode method_2_code 23 = .ok (.dup, 1) := by decide +kernel
theorem d_87 : decode method_2_code 24 = .ok (.iconst 1, 1) := by decide +kernel
theorem d_88 : decode method_2_code 25 = .ok (.newarray .char, 2) := by decide +kernel
theorem d_89 : decode method_2_code 27 = .ok (.dup, 1) := by decide +kernel
theorem d_90 : decode method_2_code 28 = .ok (.iconst 0, 1) := by decide +kernel
theorem d_91 : decode method_2_code 29 = .ok (.iload_n 1, 1) := by decide +kernel
theorem d_92 : decode method_2_code 30 = .ok (.castore, 1) := by decide +kernel
theorem d_93 : decode method_2_code 31 = .ok (.invokespecial 9, 3) := by decide +kernel
theorem d_94 : decode jdk_42_method_149_code 27 = .ok (.getstatic 38, 3) := by decide +kernel
theorem d_95 : decode jdk_42_method_149_code 30 = .ok (.ifCond .eq 28, 3) := by decide +kernel
theorem d_96 : decode jdk_42_method_149_code 33 = .ok (.aload_n 1, 1) := by decide +kernel
theorem d_97 : decode jdk_42_method_149_code 34 = .ok (.iload_n 2, 1) := by decide +kernel
theorem d_98 : decode jdk_42_method_149_code 35 = .ok (.iload_n 3, 1) := by decide +kernel
theorem d_99 : decode jdk_42_method_149_code 36 = .ok (.invokestatic 177, 3) := by decide +kernel
theorem d_100 : decode jdk_52_method_16_code 0 = .ok (.iload_n 2, 1) := by decide +kernel
theorem d_101 : decode jdk_52_method_16_code 1 = .ok (.newarray .byte, 2) := by decide +kernel
theorem d_102 : decode jdk_52_method_16_code 3 = .ok (.astore_n 3, 1) := by decide +kernel
theorem d_103 : decode jdk_52_method_16_code 4 = .ok (.aload_n 0, 1) := by decide +kernel
theorem d_104 : decode jdk_52_method_16_code 5 = .ok (.iload_n 1, 1) := by decide +kernel
theorem d_105 : decode jdk_52_method_16_code 6 = .ok (.aload_n 3, 1) := by decide +kernel
theorem d_106 : decode jdk_52_method_16_code 7 = .ok (.iconst 0, 1) := by decide +kernel
theorem d_107 : decode jdk_52_method_16_code 8 = .ok (.iload_n 2, 1) := by decide +kernel
theorem d_108 : decode jdk_52_method_16_code 9 = .ok (.invokestatic 115, 3) := by decide +kernel
theorem d_109 : decode jdk_52_method_21_code 0 = .ok (.iconst 0, 1) := by decide +kernel
theorem d_110 : decode jdk_52_method_21_code 1 = .ok (.istore 5, 2) := by decide +kernel
theorem d_111 : decode jdk_52_method_21_code 3 = .ok (.iload 5, 2) := by decide +kernel
theorem d_112 : decode jdk_52_method_21_code 5 = .ok (.iload 4, 2) := by decide +kernel
theorem d_113 : decode jdk_52_method_21_code 7 = .ok (.if_icmp .ge 37, 3) := by decide +kernel
theorem d_114 : decode jdk_52_method_21_code 10 = .ok (.aload_n 0, 1) := by decide +kernel
theorem d_115 : decode jdk_52_method_21_code 11 = .ok (.iload_n 1, 1) := by decide +kernel
theorem d_116 : decode jdk_52_method_21_code 12 = .ok (.caload, 1) := by decide +kernel
theorem d_117 : decode jdk_52_method_21_code 13 = .ok (.istore 6, 2) := by decide +kernel
theorem d_118 : decode jdk_52_method_21_code 15 = .ok (.iload 6, 2) := by decide +kernel
theorem d_119 : decode jdk_52_method_21_code 17 = .ok (.sipush 255, 3) := by decide +kernel
theorem d_120 : decode jdk_52_method_21_code 20 = .ok (.if_icmp .le 6, 3) := by decide +kernel
theorem d_121 : decode jdk_52_method_21_code 26 = .ok (.aload_n 2, 1) := by decide +kernel
theorem d_122 : decode jdk_52_method_21_code 27 = .ok (.iload_n 3, 1) := by decide +kernel
theorem d_123 : decode jdk_52_method_21_code 28 = .ok (.iload 6, 2) := by decide +kernel
theorem d_124 : decode jdk_52_method_21_code 30 = .ok (.i2b, 1) := by decide +kernel
theorem d_125 : decode jdk_52_method_21_code 31 = .ok (.bastore, 1) := by decide +kernel
theorem d_126 : decode jdk_52_method_21_code 32 = .ok (.iinc 1 1, 3) := by decide +kernel
theorem d_127 : decode jdk_52_method_21_code 35 = .ok (.iinc 3 1, 3) := by decide +kernel
theorem d_128 : decode jdk_52_method_21_code 38 = .ok (.iinc 5 1, 3) := by decide +kernel
theorem d_129 : decode jdk_52_method_21_code 41 = .ok (.goto (-38), 3) := by decide +kernel
theorem d_130 : decode jdk_52_method_21_code 44 = .ok (.iload 4, 2) := by decide +kernel
theorem d_131 : decode jdk_52_method_21_code 46 = .ok (.ireturn, 1) := by decide +kernel
theorem ef_132 (m : MethodId) (a1 : Addr) (a2 : Addr) : entryFrame m #[(.ref a1), o0, (.ref a2), o0, (.int (1 : Int32))] 7 = mkF m 0 #[rv a1, .val o0, rv a2, .val o0, iv (1 : Int32), .unset, .unset] [] := by first | (simp [entryFrame, mkF, argsToLocals, Value.category]; done) | rfl
theorem pn_133 : plainName "java/lang/StringUTF16" = true := by first | (simp [plainName, overriddenIn]; done) | decide +kernel
def Q9_compress (Z : State) (a1 : Addr) (a2 : Addr) (k3 : ClassId) (p4 : Int32) (k5 : ClassId) (h0 : Heap) (n0 : Nat) (v : Option Value) (h : Heap) (L : List Loc) : Prop := v = some (.int (1 : Int32)) ∧ Fr n0 L ∧ Keep h0 h [a2] ∧ Arv Z h a2 k5 .byte (1 : Int32) [(.int (p4.toInt8.toInt32))] o0
theorem rm9_compress (l : Launch) (Z : State) (a0 : Array Value) (hw : HW Z a0) (a1 : Addr) (a2 : Addr) (k3 : ClassId) (p4 : Int32) (k5 : ClassId) (h0 : Heap) (n0 : Nat) (O0 : Old Z n0 h0) (F_0 : Arv Z h0 a1 k3 .char (1 : Int32) [(.int p4)] o0) (hc_1 : ¬ ((255 : Int32) < p4)) (F_2 : Arv Z h0 a2 k5 .byte (1 : Int32) [o0] o0) (g_3 : n0 ≤ a2) :
    Met l Z [] MY8 jdk_52_method_21_code 7 (some .int) ({ frames := 0, cells := 0, slots := 0, locals := 0 } : Room) #[(.ref a1), o0, (.ref a2), o0, (.int (1 : Int32))] h0 (Q9_compress Z a1 a2 k3 p4 k5 h0 n0) := by
  have W := @own_W _ _ hw
  refine own_mk (plainFor_of_name pn_133) ?_
  intro p e s m below meth c s₁ hZ hx hby hml hown hnm hret hlk X0 e0
  have N0 := Fr.nil n0
  obtain ⟨c1, A1, q1, S1, N1, H1, G1⟩ := id F_0
  have i2 : ¬ ((0 : Int32) < 0 ∨ c1.slots.size ≤ ((0 : Int32)).toNatClampNeg) := inb_of S1 ⟨by decide, by decide⟩
  obtain ⟨c3, A3, q3, S3, N3, H3, G3⟩ := id F_2
  have i4 : ¬ ((0 : Int32) < 0 ∨ c3.slots.size ≤ ((0 : Int32)).toNatClampNeg) := inb_of S3 ⟨by decide, by decide⟩
  obtain ⟨T4, h4, X4, e4, W4, st4⟩ := stB X0 hx hZ e0 A3 (j := (0 : Int32)) i4 (g := (mkF m 31 #[rv a1, .val o0, rv a2, .val o0, iv (1 : Int32), .val o0, iv p4] [(.int (p4.toInt8.toInt32)), o0, (.ref a2)])) rfl rfl (hb hby d_125)
  rw [(own_narB _)] at W4
  have O5 := O0.wr W4 g_3
  have K6 : Keep h0 h4 [a2] := Keep.wr (Keep.refl h0 [a2]) W4 (Or.inl (List.mem_of_getElem? (i := 0) rfl))
  have v7 : Arv Z h4 a2 k5 .byte (1 : Int32) [(.int (p4.toInt8.toInt32))] o0 := Arv.set A3 q3 S3 N3 H3 G3 (own_fput (by simp) (own_narB _)) W4 0 rfl (Nat.le_of_ble_eq_true rfl)
  have N8 := Fr.snoc X4 N0 g_3
  refine ⟨T4, some (.int (1 : Int32)), _, _, _, X4, by decide, by decide, nofun, ?_, fun fs hr => castTop (ef_132 m a1 a2) ?_⟩
  · show Q9_compress Z a1 a2 k3 p4 k5 h0 n0 _ T4.heap _
    rw [e4]
    exact ⟨rfl, N8, K6, v7⟩
  · show SS p e below s₁ m 0 #[rv a1, .val o0, rv a2, .val o0, iv (1 : Int32), .unset, .unset] [] _
    refine XS.iconst X0.here hx rfl (hb hby d_109) ?_
    refine XS.istore X0.here hx rfl (hb hby d_110) rfl (l' := #[rv a1, .val o0, rv a2, .val o0, iv (1 : Int32), .val o0, .unset]) rfl ?_
    refine XS.iload X0.here hx rfl (hb hby d_111) rfl ?_
    refine XS.iload X0.here hx rfl (hb hby d_112) rfl ?_
    refine XS.icmpNo X0.here hx rfl (hb hby d_113) rfl (tlt (by decide : (0 : Int32) < (1 : Int32))).2.1 ?_
    refine XS.aloadN X0.here hx rfl (hb hby d_114) rfl rfl ?_
    refine XS.iloadN X0.here hx rfl (hb hby d_115) rfl ?_
    refine X0.caload hx (j := (0 : Int32)) (v := (.int p4)) (by rw [e0]; exact A1.1) (State.isArrayOf_alike hZ.alike A1.2.1) A1.2.2 i2 (H1.at i2 rfl) (g := (mkF m 12 #[rv a1, .val o0, rv a2, .val o0, iv (1 : Int32), .val o0, .unset] [o0, (.ref a1)])) rfl rfl (hb hby d_116) _ ?_
    refine XS.istore X0.here hx rfl (hb hby d_117) rfl (l' := #[rv a1, .val o0, rv a2, .val o0, iv (1 : Int32), .val o0, iv p4]) rfl ?_
    refine XS.iload X0.here hx rfl (hb hby d_118) rfl ?_
    show SS p e below s₁ m 17 #[rv a1, .val o0, rv a2, .val o0, iv (1 : Int32), .val o0, iv p4] [(.int p4)] _
    refine XS.sipush X0.here hx rfl (hb hby d_119) ?_
    refine XS.icmpYes X0.here hx rfl (pc0 := 20) (pc' := 26) rfl (hb hby d_120) rfl (flt hc_1).2.2.2 (by decide) (by decide) ?_
    refine XS.aloadN X0.here hx rfl (hb hby d_121) rfl rfl ?_
    refine XS.iloadN X0.here hx rfl (hb hby d_122) rfl ?_
    refine XS.iload X0.here hx rfl (hb hby d_123) rfl ?_
    show SS p e below s₁ m 30 #[rv a1, .val o0, rv a2, .val o0, iv (1 : Int32), .val o0, iv p4] [(.int p4), o0, (.ref a2)] _
    refine XS.i2b X0.here hx rfl (hb hby d_124) rfl ?_
    show SS p e below s₁ m 31 #[rv a1, .val o0, rv a2, .val o0, iv (1 : Int32), .val o0, iv p4] [(.int (p4.toInt8.toInt32)), o0, (.ref a2)] _
    refine st4 _ ?_
    refine XS.iinc X4.here hx rfl (hb hby d_126) rfl (l' := #[rv a1, iv (1 : Int32), rv a2, .val o0, iv (1 : Int32), .val o0, iv p4]) rfl ?_
    show SS p e below T4 m 35 #[rv a1, iv (1 : Int32), rv a2, .val o0, iv (1 : Int32), .val o0, iv p4] [] _
    refine XS.iinc X4.here hx rfl (hb hby d_127) rfl (l' := #[rv a1, iv (1 : Int32), rv a2, iv (1 : Int32), iv (1 : Int32), .val o0, iv p4]) rfl ?_
    show SS p e below T4 m 38 #[rv a1, iv (1 : Int32), rv a2, iv (1 : Int32), iv (1 : Int32), .val o0, iv p4] [] _
    refine XS.iinc X4.here hx rfl (hb hby d_128) rfl (l' := #[rv a1, iv (1 : Int32), rv a2, iv (1 : Int32), iv (1 : Int32), iv (1 : Int32), iv p4]) rfl ?_
    show SS p e below T4 m 41 #[rv a1, iv (1 : Int32), rv a2, iv (1 : Int32), iv (1 : Int32), iv (1 : Int32), iv p4] [] _
    refine XS.goto X4.here hx rfl (pc0 := 41) (pc' := 3) rfl (hb hby d_129) (by decide) (by decide) ?_
    refine XS.iload X4.here hx rfl (hb hby d_111) rfl ?_
    refine XS.iload X4.here hx rfl (hb hby d_112) rfl ?_
    refine XS.icmpYes X4.here hx rfl (pc0 := 7) (pc' := 44) rfl (hb hby d_113) rfl (flt (by decide : ¬ ((1 : Int32) < (1 : Int32)))).2.1 (by decide) (by decide) ?_
    refine XS.iload X4.here hx rfl (hb hby d_130) rfl ?_
    exact retI X4 hx hret (hb hby d_131) hr
theorem pd_134 : parseMethodDescriptor "([CI[BII)I" = some ⟨[(.array .char), .int, (.array .byte), .int, .int], some .int⟩ := by decide +kernel
theorem d_135 : decode jdk_52_method_16_code 12 = .ok (.istore 4, 2) := by decide +kernel
theorem d_136 : decode jdk_52_method_16_code 14 = .ok (.iload 4, 2) := by decide +kernel
theorem d_137 : decode jdk_52_method_16_code 16 = .ok (.iload_n 2, 1) := by decide +kernel
theorem d_138 : decode jdk_52_method_16_code 17 = .ok (.if_icmp .eq 40, 3) := by decide +kernel
theorem d_139 : decode jdk_52_method_16_code 57 = .ok (.aload_n 3, 1) := by decide +kernel
theorem d_140 : decode jdk_52_method_16_code 58 = .ok (.areturn, 1) := by decide +kernel
theorem ef_141 (m : MethodId) (a1 : Addr) : entryFrame m #[(.ref a1), o0, (.int (1 : Int32))] 6 = mkF m 0 #[rv a1, .val o0, iv (1 : Int32), .unset, .unset, .unset] [] := by first | (simp [entryFrame, mkF, argsToLocals, Value.category]; done) | rfl
def Q10_compress (Z : State) (a1 : Addr) (k2 : ClassId) (p3 : Int32) (h0 : Heap) (n0 : Nat) (v : Option Value) (h : Heap) (L : List Loc) : Prop := ∃ (b1 : Addr) (k1 : ClassId), v = some (.ref b1) ∧ Fr n0 L ∧ Keep h0 h [] ∧ h0.size ≤ b1 ∧ Arv Z h b1 k1 .byte (1 : Int32) [(.int (p3.toInt8.toInt32))] o0 ∧ EA46 Z h b1
theorem rm10_compress (l : Launch) (Z : State) (a0 : Array Value) (hw : HW Z a0) (a1 : Addr) (k2 : ClassId) (p3 : Int32) (h0 : Heap) (n0 : Nat) (O0 : Old Z n0 h0) (F_0 : Arv Z h0 a1 k2 .char (1 : Int32) [(.int p3)] o0) (hc_1 : ¬ ((255 : Int32) < p3)) :
    Met l Z [] MY9 jdk_52_method_16_code 6 (some (.array .byte)) ({ frames := 1, cells := 1, slots := 1, locals := 18 } : Room) #[(.ref a1), o0, (.int (1 : Int32))] h0 (Q10_compress Z a1 k2 p3 h0 n0) := by
  have W := @own_W _ _ hw
  refine own_mk (plainFor_of_name pn_133) ?_
  intro p e s m below meth c s₁ hZ hx hby hml hown hnm hret hlk X0 e0
  have N0 := Fr.nil n0
  obtain ⟨T1, h1, k1, X1, e1, E1, A1, B1, st1⟩ := newPE X0 hx hZ (W 20 rfl) e0 (g := (mkF m 1 #[rv a1, .val o0, iv (1 : Int32), .unset, .unset, .unset] [(.int (1 : Int32))])) rfl (hb hby d_101) rfl (by decide) (cap := 1) (by decide) (by decide) (by decide) (by decide) (ad := "[B") rfl
  obtain ⟨b1, g1⟩ : ∃ z, z = h0.size := ⟨_, rfl⟩
  rw [← g1] at A1 B1 st1
  have O2 := O0.ext E1
  have K3 : Keep h0 h1 [] := Keep.ext (Keep.refl h0 []) E1
  have v4 : Arv Z h1 b1 k1 .byte (1 : Int32) [o0] o0 := (Arv.new A1 (by decide)).pad (pad_rep [] o0 1)
  have f6 := (F_0.ext E1)
  have g7 : n0 ≤ b1 := Nat.le_trans (Nat.le_trans (Nat.le_of_eq O0.1.symm) O0.2.1) (Nat.le_of_eq g1.symm)
  obtain ⟨_, T5, L5, X5, hQ5, st5⟩ := own_cs X1 hx hZ hown hml (W 63 rfl) (W 64 rfl) (W 61 rfl) (W 65 rfl) (rm9_compress l Z a0 hw a1 b1 k2 p3 k1 h1 n0 O2 (f6) (hc_1) (v4) (g7)) e1 (hb hby d_108) 0 #[rv a1, .val o0, iv (1 : Int32), rv b1, .unset, .unset] [(.ref a1), o0, (.ref b1), o0, (.int (1 : Int32))] [] pd_134
  obtain ⟨rfl, N5q, K5, F5_0⟩ := hQ5
  have N8 := Fr.app N0 N5q
  have O9 := O2.keep K5 (allS g7 all0)
  have K10 : Keep h0 T5.heap [] := Keep.trans K3 K5 (allS (Or.inr (Nat.le_of_eq g1.symm)) all0)
  have f11 := (B1.keep K5)
  refine ⟨T5, some (.ref b1), _, _, _, X5, by decide, by decide, nofun, ?_, fun fs hr => castTop (ef_141 m a1) ?_⟩
  · show Q10_compress Z a1 k2 p3 h0 n0 _ T5.heap _
    exact ⟨b1, k1, rfl, N8, K10, (Nat.le_of_eq g1.symm), F5_0, f11⟩
  · show SS p e below s₁ m 0 #[rv a1, .val o0, iv (1 : Int32), .unset, .unset, .unset] [] _
    refine XS.iloadN X0.here hx rfl (hb hby d_100) rfl ?_
    refine st1 _ ?_
    refine XS.astoreN X1.here hx rfl (hb hby d_102) rfl rfl (l' := #[rv a1, .val o0, iv (1 : Int32), rv b1, .unset, .unset]) rfl ?_
    refine XS.aloadN X1.here hx rfl (hb hby d_103) rfl rfl ?_
    refine XS.iloadN X1.here hx rfl (hb hby d_104) rfl ?_
    refine XS.aloadN X1.here hx rfl (hb hby d_105) rfl rfl ?_
    refine XS.iconst X1.here hx rfl (hb hby d_106) ?_
    refine XS.iloadN X1.here hx rfl (hb hby d_107) rfl ?_
    refine st5 _ ?_
    refine XS.istore X5.here hx rfl (hb hby d_135) rfl (l' := #[rv a1, .val o0, iv (1 : Int32), rv b1, iv (1 : Int32), .unset]) rfl ?_
    show SS p e below T5 m 14 #[rv a1, .val o0, iv (1 : Int32), rv b1, iv (1 : Int32), .unset] [] _
    refine XS.iload X5.here hx rfl (hb hby d_136) rfl ?_
    refine XS.iloadN X5.here hx rfl (hb hby d_137) rfl ?_
    refine XS.icmpYes X5.here hx rfl (pc0 := 17) (pc' := 57) rfl (hb hby d_138) rfl (teq (by decide : (1 : Int32) = (1 : Int32))).1 (by decide) (by decide) ?_
    refine XS.aloadN X5.here hx rfl (hb hby d_139) rfl rfl ?_
    exact retOut X5 hx hret rfl (Or.inr (Or.inr (Or.inr (Or.inr ⟨rfl, rfl, rfl⟩)))) (hb hby d_140) hr
theorem pd_142 : parseMethodDescriptor "([CII)[B" = some ⟨[(.array .char), .int, .int], some (.array .byte)⟩ := by decide +kernel
theorem d_143 : decode jdk_42_method_149_code 39 = .ok (.astore 5, 2) := by decide +kernel
theorem d_144 : decode jdk_42_method_149_code 41 = .ok (.aload_n 0, 1) := by decide +kernel
theorem d_145 : decode jdk_42_method_149_code 42 = .ok (.aload 5, 2) := by decide +kernel
theorem d_146 : decode jdk_42_method_149_code 44 = .ok (.iload_n 3, 1) := by decide +kernel
theorem d_147 : decode jdk_42_method_149_code 45 = .ok (.invokestatic 47, 3) := by decide +kernel
theorem d_148 : decode jdk_52_method_15_code 0 = .ok (.iload_n 1, 1) := by decide +kernel
theorem d_149 : decode jdk_52_method_15_code 1 = .ok (.aload_n 0, 1) := by decide +kernel
theorem d_150 : decode jdk_52_method_15_code 2 = .ok (.arraylength, 1) := by decide +kernel
theorem d_151 : decode jdk_52_method_15_code 3 = .ok (.isub, 1) := by decide +kernel
theorem d_152 : decode jdk_52_method_15_code 4 = .ok (.bipush 31, 2) := by decide +kernel
theorem d_153 : decode jdk_52_method_15_code 6 = .ok (.iushr, 1) := by decide +kernel
theorem d_154 : decode jdk_52_method_15_code 7 = .ok (.i2b, 1) := by decide +kernel
theorem d_155 : decode jdk_52_method_15_code 8 = .ok (.ireturn, 1) := by decide +kernel
theorem ef_156 (m : MethodId) (a1 : Addr) : entryFrame m #[(.ref a1), (.int (1 : Int32))] 2 = mkF m 0 #[rv a1, iv (1 : Int32)] [] := by first | (simp [entryFrame, mkF, argsToLocals, Value.category]; done) | rfl
def Q11_coderFromArrayLen (Z : State) (a1 : Addr) (k2 : ClassId) (p3 : Int32) (h0 : Heap) (n0 : Nat) (v : Option Value) (h : Heap) (L : List Loc) : Prop := v = some o0 ∧ Fr n0 L ∧ h = h0
theorem rm11_coderFromArrayLen (l : Launch) (Z : State) (a0 : Array Value) (hw : HW Z a0) (a1 : Addr) (k2 : ClassId) (p3 : Int32) (h0 : Heap) (n0 : Nat) (O0 : Old Z n0 h0) (F_0 : Arv Z h0 a1 k2 .byte (1 : Int32) [(.int p3)] o0) :
    Met l Z [] MY10 jdk_52_method_15_code 2 (some .byte) ({ frames := 0, cells := 0, slots := 0, locals := 0 } : Room) #[(.ref a1), (.int (1 : Int32))] h0 (Q11_coderFromArrayLen Z a1 k2 p3 h0 n0) := by
  have W := @own_W _ _ hw
  refine own_mk (plainFor_of_name pn_133) ?_
  intro p e s m below meth c s₁ hZ hx hby hml hown hnm hret hlk X0 e0
  have N0 := Fr.nil n0
  obtain ⟨c1, A1, q1, S1, N1, H1, G1⟩ := id F_0
  refine ⟨s₁, some o0, _, _, _, X0, by decide, by decide, nofun, ?_, fun fs hr => castTop (ef_156 m a1) ?_⟩
  · show Q11_coderFromArrayLen Z a1 k2 p3 h0 n0 _ s₁.heap _
    rw [e0]
    exact ⟨rfl, N0, rfl⟩
  · show SS p e below s₁ m 0 #[rv a1, iv (1 : Int32)] [] _
    refine XS.iloadN X0.here hx rfl (hb hby d_148) rfl ?_
    refine XS.aloadN X0.here hx rfl (hb hby d_149) rfl rfl ?_
    refine X0.arraylength hx (by rw [e0]; exact A1.1) (State.isArrayOf_alike hZ.alike A1.2.1) (g := (mkF m 2 #[rv a1, iv (1 : Int32)] [(.ref a1), (.int (1 : Int32))])) rfl rfl (hb hby d_150) _ ?_
    rw [len_of S1 N1]
    refine XS.isub X0.here hx rfl (hb hby d_151) rfl ?_
    show SS p e below s₁ m 4 #[rv a1, iv (1 : Int32)] [o0] _
    refine XS.bipush X0.here hx rfl (hb hby d_152) ?_
    refine XS.iushr X0.here hx rfl (hb hby d_153) rfl ?_
    show SS p e below s₁ m 7 #[rv a1, iv (1 : Int32)] [o0] _
    refine XS.i2b X0.here hx rfl (hb hby d_154) rfl ?_
    show SS p e below s₁ m 8 #[rv a1, iv (1 : Int32)] [o0] _
    exact retN X0 hx (t := .byte) hret (by simp) (hb hby d_155) hr
theorem pd_157 : parseMethodDescriptor "([BI)B" = some ⟨[(.array .byte), .int], some .byte⟩ := by decide +kernel
theorem d_158 : decode jdk_42_method_149_code 48 = .ok (.putfield 15, 3) := by decide +kernel
theorem d_159 : decode jdk_42_method_149_code 51 = .ok (.aload_n 0, 1) := by decide +kernel
theorem d_160 : decode jdk_42_method_149_code 52 = .ok (.aload 5, 2) := by decide +kernel
theorem d_161 : decode jdk_42_method_149_code 54 = .ok (.putfield 9, 3) := by decide +kernel
theorem d_162 : decode jdk_42_method_149_code 57 = .ok (.return_, 1) := by decide +kernel
theorem ef_163 (m : MethodId) (a1 : Addr) (a2 : Addr) : entryFrame m #[(.ref a1), (.ref a2), o0, (.int (1 : Int32)), .null] 6 = mkF m 0 #[rv a1, rv a2, .val o0, iv (1 : Int32), .val .null, .unset] [] := by first | (simp [entryFrame, mkF, argsToLocals, Value.category]; done) | rfl
def Q12_init (Z : State) (a1 : Addr) (a2 : Addr) (p3 : Int32) (k4 : ClassId) (p5 : Int32) (h0 : Heap) (n0 : Nat) (v : Option Value) (h : Heap) (L : List Loc) : Prop := ∃ (b3_0 : Addr) (k3_0 : ClassId), v = none ∧ Fr n0 L ∧ Keep h0 h [a1] ∧ h0.size ≤ b3_0 ∧ Arv Z h b3_0 k3_0 .byte (1 : Int32) [(.int (p5.toInt8.toInt32))] o0 ∧ EA46 Z h b3_0 ∧ FA38 Z h a1 o0 ∧ FA37 Z h a1 (.ref b3_0)
theorem rm12_init (l : Launch) (Z : State) (a0 : Array Value) (hw : HW Z a0) (a1 : Addr) (a2 : Addr) (p3 : Int32) (k4 : ClassId) (p5 : Int32) (h0 : Heap) (n0 : Nat) (O0 : Old Z n0 h0) (S_0 : SA48 Z Z.heap (.int p3)) (hc_1 : ¬ (p3 = (0 : Int32))) (F_2 : Arv Z h0 a2 k4 .char (1 : Int32) [(.int p5)] o0) (hc_3 : ¬ ((255 : Int32) < p5)) (F_4 : EA44 Z h0 a1) (F_5 : FA38 Z h0 a1 o0) (g_6 : n0 ≤ a1) (F_7 : FA37 Z h0 a1 .null) (lt_8 : a1 < h0.size) :
    Met l Z [] MY0 jdk_42_method_149_code 6 none ({ frames := 2, cells := 1, slots := 1, locals := 35 } : Room) #[(.ref a1), (.ref a2), o0, (.int (1 : Int32)), .null] h0 (Q12_init Z a1 a2 p3 k4 p5 h0 n0) := by
  have W := @own_W _ _ hw
  refine own_mk (plainFor_of_name pn_30) ?_
  intro p e s m below meth c s₁ hZ hx hby hml hown hnm hret hlk X0 e0
  have N0 := Fr.nil n0
  obtain ⟨T1, X1, e1, st1⟩ := initO X0 hx hZ hown (W 16 rfl) (W 17 rfl) (W 18 rfl) e0 (g := (mkF m 1 #[rv a1, rv a2, .val o0, iv (1 : Int32), .val .null, .unset] [(.ref a1)])) rfl (by rw [hml]; rfl) rfl (hb hby d_15) (by decide) (W := 0) (by show 2 * 0 + _ ≤ _; exact Nat.le_of_eq rfl) (by decide)
  obtain ⟨T2, X2, e2, st2⟩ := getS2 X1 hx hZ hown (host := "") (Or.inl (W 58 rfl)) Via.refl e1 (S_0.ext O0.2) (g := (mkF m 27 #[rv a1, rv a2, .val o0, iv (1 : Int32), .val .null, .unset] [])) rfl (hb hby d_94)
  obtain ⟨_, T3, L3, X3, hQ3, st3⟩ := own_cs X2 hx hZ hown hml (W 59 rfl) (W 60 rfl) (W 61 rfl) (W 62 rfl) (rm10_compress l Z a0 hw a2 k4 p5 h0 n0 O0 (F_2) (hc_3)) e2 (hb hby d_99) 0 #[rv a1, rv a2, .val o0, iv (1 : Int32), .val .null, .unset] [(.ref a2), o0, (.int (1 : Int32))] [] pd_142
  obtain ⟨b3_0, k3_0, rfl, N3q, K3, gb3_0, F3_0, F3_1⟩ := hQ3
  have N4 := Fr.app N0 N3q
  have O5 := O0.keep K3 all0
  have K6 : Keep h0 T3.heap [a1] := Keep.trans (Keep.refl h0 [a1]) K3 all0
  obtain ⟨_, T7, L7, X7, hQ7, st7⟩ := own_cs X3 hx hZ hown hml (W 66 rfl) (W 67 rfl) (W 61 rfl) (W 68 rfl) (rm11_coderFromArrayLen l Z a0 hw b3_0 k3_0 (p5.toInt8.toInt32) T3.heap n0 O5 (F3_0)) rfl (hb hby d_147) 1 #[rv a1, rv a2, .val o0, iv (1 : Int32), .val .null, rv b3_0] [(.ref b3_0), (.int (1 : Int32))] [(.ref a1)] pd_157
  obtain ⟨rfl, N7q, K7⟩ := hQ7
  have N8 := Fr.app N4 N7q
  have f10 := (F_5.keep K3 nin0)
  have f11 := (F_4.keep K3)
  obtain ⟨T9, h9, X9, e9, W9, st9⟩ := putFN X7 hx hZ hown (W 26 rfl) Via.refl K7 f10 f11 (Or.inr ⟨(W 22 rfl), rfl, hnm⟩) (W 6 rfl) (ty := .byte) (v' := o0) (by decide) rfl rfl (g := (mkF m 48 #[rv a1, rv a2, .val o0, iv (1 : Int32), .val .null, rv b3_0] [o0, (.ref a1)])) rfl rfl (hb hby d_158)
  have O12 := O5.wr W9 g_6
  have K13 : Keep h0 h9 [a1] := Keep.wr K6 W9 (Or.inl (List.mem_of_getElem? (i := 0) rfl))
  have f14 : FA38 Z h9 a1 o0 := (f10.same W9)
  have N15 := Fr.snoc X9 N8 g_6
  have f17 := ((F_7.keep K3 nin0).other W9 (Or.inr (slot_ne (Or.inr (W 21 rfl)) (Or.inr (W 22 rfl)) (by decide) (t := (.array .byte)) (t' := .byte) (by decide) (by decide))))
  have f18 := (f11.wr W9)
  obtain ⟨T16, h16, X16, e16, W16, st16⟩ := putF X9 hx hZ hown (host := "") (Or.inl (W 25 rfl)) Via.refl e9 f17 f18 (Or.inr ⟨(W 21 rfl), rfl, hnm⟩) (W 6 rfl) (ty := (.array .byte)) (by decide) rfl rfl (g := (mkF m 54 #[rv a1, rv a2, .val o0, iv (1 : Int32), .val .null, rv b3_0] [(.ref b3_0), (.ref a1)])) rfl rfl (hb hby d_161)
  have O19 := O12.wr W16 g_6
  have K20 : Keep h0 h16 [a1] := Keep.wr K13 W16 (Or.inl (List.mem_of_getElem? (i := 0) rfl))
  have f21 : FA37 Z h16 a1 (.ref b3_0) := (f17.same W16)
  have N22 := Fr.snoc X16 N15 g_6
  have f23 := ((F3_0.other W9 (Ne.symm (Nat.ne_of_lt (Nat.lt_of_lt_of_le lt_8 gb3_0)))).other W16 (Ne.symm (Nat.ne_of_lt (Nat.lt_of_lt_of_le lt_8 gb3_0))))
  have f24 := ((F3_1.wr W9).wr W16)
  have f25 := (f14.other W16 (Or.inr (slot_ne (Or.inr (W 22 rfl)) (Or.inr (W 21 rfl)) (by decide) (t := .byte) (t' := (.array .byte)) (by decide) (by decide))))
  refine ⟨T16, none, _, _, _, X16, by decide, by decide, (fun _ => rfl), ?_, fun fs hr => castTop (ef_163 m a1 a2) ?_⟩
  · show Q12_init Z a1 a2 p3 k4 p5 h0 n0 _ T16.heap _
    rw [e16]
    exact ⟨b3_0, k3_0, rfl, N22, K20, gb3_0, f23, f24, f25, f21⟩
  · show SS p e below s₁ m 0 #[rv a1, rv a2, .val o0, iv (1 : Int32), .val .null, .unset] [] _
    refine XS.aloadN X0.here hx rfl (hb hby d_14) rfl rfl ?_
    refine st1 _ ?_
    refine XS.iloadN X1.here hx rfl (hb hby d_16) rfl ?_
    refine XS.ifYes X1.here hx rfl (pc0 := 5) (pc' := 27) rfl (hb hby d_17) rfl ((if0 _ _).trans (feq (by decide : ¬ ((1 : Int32) = (0 : Int32)))).2) (by decide) (by decide) ?_
    refine st2 _ ?_
    refine XS.ifNo X2.here hx rfl (hb hby d_95) rfl ((if0 _ _).trans (feq hc_1).1) ?_
    refine XS.aloadN X2.here hx rfl (hb hby d_96) rfl rfl ?_
    refine XS.iloadN X2.here hx rfl (hb hby d_97) rfl ?_
    refine XS.iloadN X2.here hx rfl (hb hby d_98) rfl ?_
    refine st3 _ ?_
    show SS p e below T3 m 39 #[rv a1, rv a2, .val o0, iv (1 : Int32), .val .null, .unset] [(.ref b3_0)] _
    refine XS.astore X3.here hx rfl (hb hby d_143) rfl rfl (l' := #[rv a1, rv a2, .val o0, iv (1 : Int32), .val .null, rv b3_0]) rfl ?_
    refine XS.aloadN X3.here hx rfl (hb hby d_144) rfl rfl ?_
    refine XS.aload X3.here hx rfl (hb hby d_145) rfl rfl ?_
    refine XS.iloadN X3.here hx rfl (hb hby d_146) rfl ?_
    refine st7 _ ?_
    refine st9 _ ?_
    refine XS.aloadN X9.here hx rfl (hb hby d_159) rfl rfl ?_
    refine XS.aload X9.here hx rfl (hb hby d_160) rfl rfl ?_
    refine st16 _ ?_
    exact X16.returnOut hx hret (hb hby d_162) hr
def Q13_init (Z : State) (a1 : Addr) (a2 : Addr) (k3 : ClassId) (p4 : Int32) (p5 : Int32) (h0 : Heap) (n0 : Nat) (v : Option Value) (h : Heap) (L : List Loc) : Prop := ∃ (b2_0 : Addr) (k2_0 : ClassId), v = none ∧ Fr n0 L ∧ Keep h0 h [a1] ∧ h0.size ≤ b2_0 ∧ Arv Z h b2_0 k2_0 .byte (1 : Int32) [(.int (p4.toInt8.toInt32))] o0 ∧ EA46 Z h b2_0 ∧ FA38 Z h a1 o0 ∧ FA37 Z h a1 (.ref b2_0)
theorem rm13_init (l : Launch) (Z : State) (a0 : Array Value) (hw : HW Z a0) (a1 : Addr) (a2 : Addr) (k3 : ClassId) (p4 : Int32) (p5 : Int32) (h0 : Heap) (n0 : Nat) (O0 : Old Z n0 h0) (F_0 : Arv Z h0 a2 k3 .char (1 : Int32) [(.int p4)] o0) (S_1 : SA48 Z Z.heap (.int p5)) (hc_2 : ¬ (p5 = (0 : Int32))) (hc_3 : ¬ ((255 : Int32) < p4)) (F_4 : EA44 Z h0 a1) (F_5 : FA38 Z h0 a1 o0) (F_6 : FA37 Z h0 a1 .null) (g_7 : n0 ≤ a1) (lt_8 : a1 < h0.size) :
    Met l Z [] MY1 jdk_42_method_3_code 2 none ({ frames := 3, cells := 1, slots := 1, locals := 52 } : Room) #[(.ref a1), (.ref a2)] h0 (Q13_init Z a1 a2 k3 p4 p5 h0 n0) := by
  have W := @own_W _ _ hw
  refine own_mk (plainFor_of_name pn_30) ?_
  intro p e s m below meth c s₁ hZ hx hby hml hown hnm hret hlk X0 e0
  have N0 := Fr.nil n0
  obtain ⟨c1, A1, q1, S1, N1, H1, G1⟩ := id F_0
  obtain ⟨_, T2, L2, X2, hQ2, st2⟩ := own_cp X0 hx hZ hown hml rfl (W 12 rfl) (W 13 rfl) (W 7 rfl) (W 15 rfl) (rm12_init l Z a0 hw a1 a2 p5 k3 p4 h0 n0 O0 (S_1) (hc_2) (F_0) (hc_3) (F_4) (F_5) (g_7) (F_6) (lt_8)) e0 (hb hby d_13) 0 #[rv a1, rv a2] a1 [(.ref a2), o0, (.int (1 : Int32)), .null] [] pd_31
  obtain ⟨b2_0, k2_0, rfl, N2q, K2, gb2_0, F2_0, F2_1, F2_2, F2_3⟩ := hQ2
  have N3 := Fr.app N0 N2q
  have O4 := O0.keep K2 (allS g_7 all0)
  have K5 : Keep h0 T2.heap [a1] := Keep.trans (Keep.refl h0 [a1]) K2 (allS (Or.inl (List.mem_of_getElem? (i := 0) rfl)) all0)
  refine ⟨T2, none, _, _, _, X2, by decide, by decide, (fun _ => rfl), ?_, fun fs hr => castTop (ef_33 m a1 a2) ?_⟩
  · show Q13_init Z a1 a2 k3 p4 p5 h0 n0 _ T2.heap _
    exact ⟨b2_0, k2_0, rfl, N3, K5, gb2_0, F2_0, F2_1, F2_2, F2_3⟩
  · show SS p e below s₁ m 0 #[rv a1, rv a2] [] _
    refine XS.aloadN X0.here hx rfl (hb hby d_7) rfl rfl ?_
    refine XS.aloadN X0.here hx rfl (hb hby d_8) rfl rfl ?_
    refine XS.iconst X0.here hx rfl (hb hby d_9) ?_
    refine XS.aloadN X0.here hx rfl (hb hby d_10) rfl rfl ?_
    refine X0.arraylength hx (by rw [e0]; exact A1.1) (State.isArrayOf_alike hZ.alike A1.2.1) (g := (mkF m 4 #[rv a1, rv a2] [(.ref a2), o0, (.ref a2), (.ref a1)])) rfl rfl (hb hby d_11) _ ?_
    rw [len_of S1 N1]
    refine XS.aconstNull X0.here hx rfl (hb hby d_12) ?_
    refine st2 _ ?_
    exact X2.returnOut hx hret (hb hby d_32) hr
theorem d_164 : decode method_2_code 34 = .ok (.areturn, 1) := by decide +kernel
theorem ef_165 (m : MethodId) (p1 : Int32) (p2 : Int32) : entryFrame m #[(.int (1 : Int32)), (.int p1), (.int p2)] 3 = mkF m 0 #[iv (1 : Int32), iv p1, iv p2] [] := by first | (simp [entryFrame, mkF, argsToLocals, Value.category]; done) | rfl
def Q14_mk (Z : State) (p1 : Int32) (p2 : Int32) (p3 : Int32) (h0 : Heap) (n0 : Nat) (v : Option Value) (h : Heap) (L : List Loc) : Prop := ∃ (b1 : Addr) (b16_0 : Addr) (k16_0 : ClassId), v = some (.ref b1) ∧ Fr n0 L ∧ Keep h0 h [] ∧ h0.size ≤ b1 ∧ h0.size ≤ b16_0 ∧ EA44 Z h b1 ∧ FA37 Z h b1 (.ref b16_0) ∧ FA38 Z h b1 o0 ∧ Arv Z h b16_0 k16_0 .byte (1 : Int32) [(.int (p1.toInt8.toInt32))] o0 ∧ EA46 Z h b16_0
theorem rm14_mk (l : Launch) (Z : State) (a0 : Array Value) (hw : HW Z a0) (p1 : Int32) (p2 : Int32) (p3 : Int32) (h0 : Heap) (n0 : Nat) (O0 : Old Z n0 h0) (nr_0 : nar .char p1 = p1) (S_1 : SA48 Z Z.heap (.int p3)) (hc_2 : ¬ (p3 = (0 : Int32))) (hc_3 : ¬ ((255 : Int32) < p1)) :
    Met l Z [] MY2 method_2_code 3 (some (.object "java/lang/String")) ({ frames := 4, cells := 3, slots := 6, locals := 66 } : Room) #[(.int (1 : Int32)), (.int p1), (.int p2)] h0 (Q14_mk Z p1 p2 p3 h0 n0) := by
  have W := @own_W _ _ hw
  refine own_mk (plainFor_of_name pn_37) ?_
  intro p e s m below meth c s₁ hZ hx hby hml hown hnm hret hlk X0 e0
  have N0 := Fr.nil n0
  obtain ⟨T1, h1, X1, e1, E1, A1, D1, -, st1⟩ := newO X0 hx hZ hown (W 5 rfl) (W 6 rfl) (W 7 rfl) e0 (g := (mkF m 20 #[iv (1 : Int32), iv p1, iv p2] [])) rfl (hb hby d_85) (by decide) (by decide)
  obtain ⟨b1, g1⟩ : ∃ z, z = h0.size := ⟨_, rfl⟩
  rw [← g1] at A1 D1 st1
  have O2 := O0.ext E1
  have K3 : Keep h0 h1 [] := Keep.ext (Keep.refl h0 []) E1
  obtain ⟨T4, h4, k4, X4, e4, E4, A4, B4, st4⟩ := newPE X1 hx hZ (W 8 rfl) e1 (g := (mkF m 25 #[iv (1 : Int32), iv p1, iv p2] [(.int (1 : Int32)), (.ref b1), (.ref b1)])) rfl (hb hby d_88) rfl (by decide) (cap := 1) (by decide) (by decide) (by decide) (by decide) (ad := "[C") rfl
  obtain ⟨b4, g4⟩ : ∃ z, z = h1.size := ⟨_, rfl⟩
  rw [← g4] at A4 B4 st4
  have O5 := O2.ext E4
  have K6 : Keep h0 h4 [] := Keep.ext K3 E4
  have v7 : Arv Z h4 b4 k4 .char (1 : Int32) [o0] o0 := (Arv.new A4 (by decide)).pad (pad_rep [] o0 1)
  obtain ⟨c8, A8, q8, S8, N8, H8, G8⟩ := id v7
  have i9 : ¬ ((0 : Int32) < 0 ∨ c8.slots.size ≤ ((0 : Int32)).toNatClampNeg) := inb_of S8 ⟨by decide, by decide⟩
  obtain ⟨T9, h9, X9, e9, W9, st9⟩ := stC X4 hx hZ e4 A8 (j := (0 : Int32)) i9 (g := (mkF m 30 #[iv (1 : Int32), iv p1, iv p2] [(.int p1), o0, (.ref b4), (.ref b4), (.ref b1), (.ref b1)])) rfl rfl (hb hby d_92)
  rw [nr_0] at W9
  have z10 : h0.size ≤ h1.size := E1.1
  have g11 : n0 ≤ b4 := Nat.le_trans (Nat.le_trans (Nat.le_trans (Nat.le_of_eq O0.1.symm) O0.2.1) z10) (Nat.le_of_eq g4.symm)
  have O12 := O5.wr W9 g11
  have K13 : Keep h0 h9 [] := Keep.wr K6 W9 (Or.inr (Nat.le_trans z10 (Nat.le_of_eq g4.symm)))
  have v14 : Arv Z h9 b4 k4 .char (1 : Int32) [(.int p1)] o0 := Arv.set A8 q8 S8 N8 H8 G8 (own_fput (by simp) nr_0) W9 0 rfl (Nat.le_of_ble_eq_true rfl)
  have N15 := Fr.snoc X9 N0 g11
  have f17 := ((A1.ext E4).wr W9)
  have f18 := (((D1 (Or.inr (W 22 rfl)) (ty := .byte) (by decide) : FA38 Z h1 b1 o0).ext E4).other W9 (Or.inl (Nat.ne_of_lt (Nat.lt_of_lt_of_le A1.lt (Nat.le_of_eq g4.symm)))))
  have f19 := (((D1 (Or.inr (W 21 rfl)) (ty := (.array .byte)) (by decide) : FA37 Z h1 b1 .null).ext E4).other W9 (Or.inl (Nat.ne_of_lt (Nat.lt_of_lt_of_le A1.lt (Nat.le_of_eq g4.symm)))))
  have g20 : n0 ≤ b1 := Nat.le_trans (Nat.le_trans (Nat.le_of_eq O0.1.symm) O0.2.1) (Nat.le_of_eq g1.symm)
  have z21 : h1.size ≤ h4.size := E4.1
  have z22 : h1.size ≤ h9.size := (Nat.le_trans z21 (Nat.le_of_eq W9.size.symm))
  obtain ⟨_, T16, L16, X16, hQ16, st16⟩ := own_cp X9 hx hZ hown hml rfl (W 9 rfl) (W 10 rfl) (W 7 rfl) (W 11 rfl) (rm13_init l Z a0 hw b1 b4 k4 p1 p3 h9 n0 O12 (v14) (S_1) (hc_2) (hc_3) (f17) (f18) (f19) (g20) ((Nat.lt_of_lt_of_le A1.lt z22))) e9 (hb hby d_93) 1 #[iv (1 : Int32), iv p1, iv p2] b1 [(.ref b4)] [(.ref b1)] pd_34
  obtain ⟨b16_0, k16_0, rfl, N16q, K16, gb16_0, F16_0, F16_1, F16_2, F16_3⟩ := hQ16
  have N23 := Fr.app N15 N16q
  have O24 := O12.keep K16 (allS g20 all0)
  have K25 : Keep h0 T16.heap [] := Keep.trans K13 K16 (allS (Or.inr (Nat.le_of_eq g1.symm)) all0)
  have f26 := (f17.keep K16)
  have z27 : h0.size ≤ h4.size := (Nat.le_trans z10 E4.1)
  have z28 : h0.size ≤ h9.size := (Nat.le_trans z27 (Nat.le_of_eq W9.size.symm))
  refine ⟨T16, some (.ref b1), _, _, _, X16, by decide, by decide, nofun, ?_, fun fs hr => castTop (ef_165 m p1 p2) ?_⟩
  · show Q14_mk Z p1 p2 p3 h0 n0 _ T16.heap _
    exact ⟨b1, b16_0, k16_0, rfl, N23, K25, (Nat.le_of_eq g1.symm), (Nat.le_trans z28 gb16_0), f26, F16_3, F16_2, F16_0, F16_1⟩
  · show SS p e below s₁ m 0 #[iv (1 : Int32), iv p1, iv p2] [] _
    refine XS.iloadN X0.here hx rfl (hb hby d_0) rfl ?_
    refine XS.ifYes X0.here hx rfl (pc0 := 1) (pc' := 15) rfl (hb hby d_1) rfl ((if0 _ _).trans (feq (by decide : ¬ ((1 : Int32) = (0 : Int32)))).2) (by decide) (by decide) ?_
    refine XS.iloadN X0.here hx rfl (hb hby d_82) rfl ?_
    refine XS.iconst X0.here hx rfl (hb hby d_83) ?_
    refine XS.icmpNo X0.here hx rfl (hb hby d_84) rfl (teq (by decide : (1 : Int32) = (1 : Int32))).2 ?_
    refine st1 _ ?_
    refine XS.dup X1.here hx rfl (hb hby d_86) rfl rfl ?_
    refine XS.iconst X1.here hx rfl (hb hby d_87) ?_
    refine st4 _ ?_
    refine XS.dup X4.here hx rfl (hb hby d_89) rfl rfl ?_
    show SS p e below T4 m 28 #[iv (1 : Int32), iv p1, iv p2] [(.ref b4), (.ref b4), (.ref b1), (.ref b1)] _
    refine XS.iconst X4.here hx rfl (hb hby d_90) ?_
    refine XS.iloadN X4.here hx rfl (hb hby d_91) rfl ?_
    refine st9 _ ?_
    refine st16 _ ?_
    exact retOut X16 hx hret rfl (Or.inr (Or.inr (Or.inr (Or.inr ⟨rfl, rfl, rfl⟩)))) (hb hby d_164) hr
theorem rm0_0_1 (l : Launch) (Z : State) (a0 : Array Value) (hw : HW Z a0) (ws : List Jvm.Cond) (p1 : Int32) (p2 : Int32) (p3 : Int32) (p4 : Int32) (p5 : Int32) (c0 : Int32) (c1 : Int32) (d0 : Int32) (d1 : Int32) (o_COMPACT_STRINGS : Int32) (o_SIOOBE_FORMATTER : Value) (h0 : Heap) (n0 : Nat) (O0 : Old Z n0 h0) (S_o_COMPACT_STRINGS : SA48 Z Z.heap (.int o_COMPACT_STRINGS)) (S_o_SIOOBE_FORMATTER : SA49 Z Z.heap o_SIOOBE_FORMATTER) (nz_o_COMPACT_STRINGS : ¬ (o_COMPACT_STRINGS = (0 : Int32))) (ir_o_SIOOBE_FORMATTER : o_SIOOBE_FORMATTER.isRef = true) (hpl : ((p1 &&& (2147483647 : Int32)) % (3 : Int32)) = (0 : Int32)) (hml_ : ((((p1.toUInt32 >>> ((8 : Int32) &&& 31).toUInt32).toInt32) &&& (2147483647 : Int32)) % (3 : Int32)) = (1 : Int32)) (h_c0 : ((p2 &&& (255 : Int32)).toUInt32.toUInt16.toUInt32.toInt32) = c0) (r_c0 : ¬ ((255 : Int32) < c0)) (n_c0 : ¬ (c0 < (0 : Int32))) (i_c0 : (c0.toUInt32.toUInt16.toUInt32.toInt32) = c0) (b_c0 : ((c0.toInt8.toInt32) &&& (255 : Int32)) = c0) (h_c1 : ((p3 &&& (255 : Int32)).toUInt32.toUInt16.toUInt32.toInt32) = c1) (r_c1 : ¬ ((255 : Int32) < c1)) (n_c1 : ¬ (c1 < (0 : Int32))) (i_c1 : (c1.toUInt32.toUInt16.toUInt32.toInt32) = c1) (b_c1 : ((c1.toInt8.toInt32) &&& (255 : Int32)) = c1) (h_d0 : ((p4 &&& (255 : Int32)).toUInt32.toUInt16.toUInt32.toInt32) = d0) (r_d0 : ¬ ((255 : Int32) < d0)) (n_d0 : ¬ (d0 < (0 : Int32))) (i_d0 : (d0.toUInt32.toUInt16.toUInt32.toInt32) = d0) (b_d0 : ((d0.toInt8.toInt32) &&& (255 : Int32)) = d0) (h_d1 : ((p5 &&& (255 : Int32)).toUInt32.toUInt16.toUInt32.toInt32) = d1) (r_d1 : ¬ ((255 : Int32) < d1)) (n_d1 : ¬ (d1 < (0 : Int32))) (i_d1 : (d1.toUInt32.toUInt16.toUInt32.toInt32) = d1) (b_d1 : ((d1.toInt8.toInt32) &&& (255 : Int32)) = d1) :
    MetH l Z ws x code maxLocals ret room_1 #[(.int p1), (.int p2), (.int p3), (.int p4), (.int p5)] h0 consts_1 [] (fun v _ L => Q0 n0 v L) := by
  have W := @own_W _ _ hw
  refine own_mkH (plainFor_of_name pn_37) ?_
  intro p e s m below meth c s₁ hZ hx hby hml hown hnm hret hlk X0 e0 H0 hsf
  have N0 := Fr.nil n0
  have C0 := CHr.refl H0
  have X1 := (show Stand p l e _ (s.setVm s.vm) m _ below meth c _ _ _ _ from X0)
  obtain ⟨_, _, ⟨T2, L2, k2, n2⟩, -, Y2, hs2, hg2, ⟨Lc2, hQ2, l2, y2, z2, c2⟩, st2⟩ := callSS (s := s.setVm s.vm) X1 hx (y := MY2) hown (mvT hZ (W 1 rfl)) (mvT hZ (W 2 rfl)) (mvT hZ (W 3 rfl)) (mvT hZ (W 4 rfl)) (by decide) (own_backH (s := s) (vm0 := s.vm) (W := 0) (rm3_mk l Z a0 hw c0 c1 h0 n0 O0 ) hZ (W 4 rfl) (W 3 rfl) (by decide) (by decide) (own_ew_21 hw) H0 own_sf0) (g := (mkF m 58 #[iv p1, iv p2, iv p3, iv p4, iv p5, .val o0, iv (1 : Int32), iv c0, iv c1, iv d0, iv d1, .unset, .unset, .unset] [(.int c1), (.int c0), o0])) rfl (by rw [hml]; rfl) (argsL := [o0, (.int c0), (.int c1)]) (rest := []) (lenOf pd_38 rfl) rfl (by show 2 * 0 + _ ≤ _; exact Nat.le_of_eq rfl) (hb hby at_58) (fun _ _ => ⟨rfl, e0, (by decide : 0 + 6 ≤ _), (by decide : 0 + 12 ≤ _)⟩)
  dsimp only [Pt.U, Pt.locs, Pt.cells, Pt.slots] at Y2 l2 y2 z2 st2 hQ2 hs2 hg2 c2
  subst l2 y2 z2
  obtain ⟨X2, hS2, hZ2, hown2⟩ := rebS (s := s) (vm0 := s.vm) ((State.WarmedH.refl s).since 0) (Nat.zero_le _) Y2 hs2 hg2 hZ hown
  obtain ⟨b2_0, b2_1, k2_0, rfl, N2q, K2, gb2_0, F2_0, F2_1, F2_2, F2_3⟩ := hQ2
  have N3 := Fr.app N0 N2q
  have C4 := CHr.trans C0 c2
  have O5 := O0.keep K2 all0
  have K6 : Keep h0 T2.heap [] := Keep.trans (Keep.refl h0 []) K2 all0
  obtain ⟨_, T7, L7, X7, hQ7, st7⟩ := own_cs X2 hx hZ2 hown2 hml (W 1 rfl) (W 2 rfl) (W 3 rfl) (W 4 rfl) (rm14_mk l Z a0 hw d0 d1 o_COMPACT_STRINGS T2.heap n0 O5 (i_d0) (S_o_COMPACT_STRINGS) (nz_o_COMPACT_STRINGS) (r_d0)) rfl (hb hby at_69) 0 #[iv p1, iv p2, iv p3, iv p4, iv p5, .val o0, iv (1 : Int32), iv c0, iv c1, iv d0, iv d1, rv b2_0, .unset, .unset] [(.int (1 : Int32)), (.int d0), (.int d1)] [] pd_38
  obtain ⟨b7_0, b7_1, k7_0, rfl, N7q, K7, gb7_0, gb7_1, F7_0, F7_1, F7_2, F7_3, F7_4⟩ := hQ7
  have N8 := Fr.app N3 N7q
  have c9 := CHr.keep K7 sf0 c2.1
  have C10 := CHr.trans C4 c9
  have O11 := O5.keep K7 all0
  have K12 : Keep h0 T7.heap [] := Keep.trans K6 K7 all0
  obtain ⟨T13, h13, X13, e13, E13, A13, D13, -, st13⟩ := newO X7 hx hZ2 hown2 (W 27 rfl) (W 28 rfl) (W 29 rfl) rfl (g := (mkF m 74 #[iv p1, iv p2, iv p3, iv p4, iv p5, .val o0, iv (1 : Int32), iv c0, iv c1, iv d0, iv d1, rv b2_0, rv b7_0, .unset] [])) rfl (hb hby at_74) (by decide) (by decide)
  obtain ⟨b13, g13⟩ : ∃ z, z = T7.heap.size := ⟨_, rfl⟩
  rw [← g13] at A13 D13 st13
  have c14 := CHr.ext E13 c9.1
  have C15 := CHr.trans C10 c14
  have O16 := O11.ext E13
  have K17 : Keep h0 h13 [] := Keep.ext K12 E13
  have z19 : h0.size ≤ T2.heap.size := K2.1
  have z20 : h0.size ≤ T7.heap.size := (Nat.le_trans z19 K7.1)
  have g21 : n0 ≤ b13 := Nat.le_trans (Nat.le_trans (Nat.le_trans (Nat.le_of_eq O0.1.symm) O0.2.1) z20) (Nat.le_of_eq g13.symm)
  obtain ⟨_, T18, L18, X18, hQ18, st18⟩ := own_cp X13 hx hZ2 hown2 hml rfl (W 30 rfl) (W 31 rfl) (W 29 rfl) (W 32 rfl) (rm5_init l Z a0 hw b13 b2_0 b7_0 h13 n0 O16 (A13) ((D13 (Or.inr (W 40 rfl)) (ty := (.object "java/lang/String")) (by decide) : FA39 Z h13 b13 .null)) (g21) ((D13 (Or.inr (W 42 rfl)) (ty := (.object "java/lang/String")) (by decide) : FA40 Z h13 b13 .null))) e13 (hb hby at_82) 1 #[iv p1, iv p2, iv p3, iv p4, iv p5, .val o0, iv (1 : Int32), iv c0, iv c1, iv d0, iv d1, rv b2_0, rv b7_0, .unset] b13 [(.ref b2_0), (.ref b7_0)] [(.ref b13)] pd_56
  obtain ⟨rfl, N18q, K18, F18_0, F18_1⟩ := hQ18
  have N22 := Fr.app N8 N18q
  have s23 := Safe.exa (EL := consts_1) hZ2.alike A13 (by decide) (by decide)
  have c24 := CHr.keep K18 (sfS s23 sf0) c14.1
  have C25 := CHr.trans C15 c24
  have O26 := O16.keep K18 (allS g21 all0)
  have K27 : Keep h0 T18.heap [] := Keep.trans K17 K18 (allS (Or.inr (Nat.le_trans z20 (Nat.le_of_eq g13.symm))) all0)
  have f29 := (((F2_0.keep K7).ext E13).keep K18)
  have z30 : T2.heap.size ≤ T7.heap.size := K7.1
  have f31 := (((F2_1.keep K7 nin0).ext E13).keep K18 (ninS (Nat.ne_of_lt (Nat.lt_of_lt_of_le (Nat.lt_of_lt_of_le F2_0.lt z30) (Nat.le_of_eq g13.symm))) nin0))
  have f32 := (((F2_3.keep K7 nin0).ext E13).keep K18 (ninS (Nat.ne_of_lt (Nat.lt_of_lt_of_le (Nat.lt_of_lt_of_le F2_3.lt z30) (Nat.le_of_eq g13.symm))) nin0))
  have f33 := (A13.keep K18)
  obtain ⟨_, T28, L28, X28, hQ28, st28⟩ := own_cv X18 hx hZ2 hown2 hml (W 43 rfl) (W 44 rfl) (notFace_of_selects (W 46 rfl)) (W 46 rfl) (W 45 rfl) (W 29 rfl) (W 47 rfl) (rm7_toString l Z a0 hw b13 b2_0 b2_1 k2_0 b7_0 T18.heap n0 O26 (F18_0) (f29) (f31) (f32) (F18_1)) rfl f33 (hb hby at_85) 0 #[iv p1, iv p2, iv p3, iv p4, iv p5, .val o0, iv (1 : Int32), iv c0, iv c1, iv d0, iv d1, rv b2_0, rv b7_0, .unset] [] [] pd_73
  obtain ⟨rfl, N28q, K28⟩ := hQ28
  have N34 := Fr.app N22 N28q
  have f36 := ((F7_0.ext E13).keep K18)
  obtain ⟨_, T35, L35, X35, hQ35, st35⟩ := own_cv X28 hx hZ2 hown2 hml (W 53 rfl) (W 54 rfl) (notFace_of_selects (W 56 rfl)) (W 56 rfl) (W 55 rfl) (W 7 rfl) (W 57 rfl) (rm8_equals l Z a0 hw b7_0 T18.heap n0 O26 ) K28 f36 (hb hby at_106) 0 #[iv p1, iv p2, iv p3, iv p4, iv p5, .val o0, iv (1 : Int32), iv c0, iv c1, iv d0, iv d1, rv b2_0, rv b7_0, rv b7_0] [(.ref b7_0)] [] pd_80
  obtain ⟨rfl, N35q, K35⟩ := hQ35
  have N37 := Fr.app N34 N35q
  have z38 : T2.heap.size ≤ h13.size := (Nat.le_trans z30 E13.1)
  have z39 : T2.heap.size ≤ T18.heap.size := (Nat.le_trans z38 K18.1)
  refine ⟨T35, some (.int (1 : Int32)), _, _, _, T2.vm, _, X35, hS2, (by rw [K35]; exact (Nat.le_trans (Nat.le_refl _) z39)), by decide, by decide, nofun, ?_, own_che K35 (CHr.trans C25 (CHv.at (s := s) X35 hZ2 (own_ew_21 hw) c24.1)), fun fs hr => castTop (ef_81 m p1 p2 p3 p4 p5) ?_⟩
  · exact ⟨rfl, N37⟩
  · show SS p e below s₁ m 0 #[iv p1, iv p2, iv p3, iv p4, iv p5, .unset, .unset, .unset, .unset, .unset, .unset, .unset, .unset, .unset] [] _
    refine XS.iloadN X1.here hx rfl (hb hby at_0) rfl ?_
    refine X1.ldcInt hx hown (mvT hZ (W 0 rfl)) (g := (mkF m 1 #[iv p1, iv p2, iv p3, iv p4, iv p5, .unset, .unset, .unset, .unset, .unset, .unset, .unset, .unset, .unset] [(.int p1)])) rfl (hb hby at_1) _ ?_
    show SS p e below s₁ m 3 #[iv p1, iv p2, iv p3, iv p4, iv p5, .unset, .unset, .unset, .unset, .unset, .unset, .unset, .unset, .unset] [(.int (2147483647 : Int32)), (.int p1)] _
    refine XS.iand X1.here hx rfl (hb hby at_3) rfl ?_
    show SS p e below s₁ m 4 #[iv p1, iv p2, iv p3, iv p4, iv p5, .unset, .unset, .unset, .unset, .unset, .unset, .unset, .unset, .unset] [(.int (p1 &&& (2147483647 : Int32)))] _
    refine XS.iconst X1.here hx rfl (hb hby at_4) ?_
    refine iremM (g := (mkF m 5 #[iv p1, iv p2, iv p3, iv p4, iv p5, .unset, .unset, .unset, .unset, .unset, .unset, .unset, .unset, .unset] [(.int (3 : Int32)), (.int (p1 &&& (2147483647 : Int32)))])) X1 hx rfl (hb hby at_5) rfl (by decide : ¬ ((3 : Int32) = (0 : Int32))) ?_
    rw [hpl]
    show SS p e below s₁ m 6 #[iv p1, iv p2, iv p3, iv p4, iv p5, .unset, .unset, .unset, .unset, .unset, .unset, .unset, .unset, .unset] [o0] _
    refine XS.istore X1.here hx rfl (hb hby at_6) rfl (l' := #[iv p1, iv p2, iv p3, iv p4, iv p5, .val o0, .unset, .unset, .unset, .unset, .unset, .unset, .unset, .unset]) rfl ?_
    refine XS.iloadN X1.here hx rfl (hb hby at_8) rfl ?_
    refine XS.bipush X1.here hx rfl (hb hby at_9) ?_
    show SS p e below s₁ m 11 #[iv p1, iv p2, iv p3, iv p4, iv p5, .val o0, .unset, .unset, .unset, .unset, .unset, .unset, .unset, .unset] [(.int (8 : Int32)), (.int p1)] _
    refine XS.iushr X1.here hx rfl (hb hby at_11) rfl ?_
    show SS p e below s₁ m 12 #[iv p1, iv p2, iv p3, iv p4, iv p5, .val o0, .unset, .unset, .unset, .unset, .unset, .unset, .unset, .unset] [(.int ((p1.toUInt32 >>> ((8 : Int32) &&& 31).toUInt32).toInt32))] _
    refine X1.ldcInt hx hown (mvT hZ (W 0 rfl)) (g := (mkF m 12 #[iv p1, iv p2, iv p3, iv p4, iv p5, .val o0, .unset, .unset, .unset, .unset, .unset, .unset, .unset, .unset] [(.int ((p1.toUInt32 >>> ((8 : Int32) &&& 31).toUInt32).toInt32))])) rfl (hb hby at_12) _ ?_
    refine XS.iand X1.here hx rfl (hb hby at_14) rfl ?_
    show SS p e below s₁ m 15 #[iv p1, iv p2, iv p3, iv p4, iv p5, .val o0, .unset, .unset, .unset, .unset, .unset, .unset, .unset, .unset] [(.int (((p1.toUInt32 >>> ((8 : Int32) &&& 31).toUInt32).toInt32) &&& (2147483647 : Int32)))] _
    refine XS.iconst X1.here hx rfl (hb hby at_15) ?_
    refine iremM (g := (mkF m 16 #[iv p1, iv p2, iv p3, iv p4, iv p5, .val o0, .unset, .unset, .unset, .unset, .unset, .unset, .unset, .unset] [(.int (3 : Int32)), (.int (((p1.toUInt32 >>> ((8 : Int32) &&& 31).toUInt32).toInt32) &&& (2147483647 : Int32)))])) X1 hx rfl (hb hby at_16) rfl (by decide : ¬ ((3 : Int32) = (0 : Int32))) ?_
    rw [hml_]
    show SS p e below s₁ m 17 #[iv p1, iv p2, iv p3, iv p4, iv p5, .val o0, .unset, .unset, .unset, .unset, .unset, .unset, .unset, .unset] [(.int (1 : Int32))] _
    refine XS.istore X1.here hx rfl (hb hby at_17) rfl (l' := #[iv p1, iv p2, iv p3, iv p4, iv p5, .val o0, iv (1 : Int32), .unset, .unset, .unset, .unset, .unset, .unset, .unset]) rfl ?_
    refine XS.iloadN X1.here hx rfl (hb hby at_19) rfl ?_
    refine XS.sipush X1.here hx rfl (hb hby at_20) ?_
    show SS p e below s₁ m 23 #[iv p1, iv p2, iv p3, iv p4, iv p5, .val o0, iv (1 : Int32), .unset, .unset, .unset, .unset, .unset, .unset, .unset] [(.int (255 : Int32)), (.int p2)] _
    refine XS.iand X1.here hx rfl (hb hby at_23) rfl ?_
    show SS p e below s₁ m 24 #[iv p1, iv p2, iv p3, iv p4, iv p5, .val o0, iv (1 : Int32), .unset, .unset, .unset, .unset, .unset, .unset, .unset] [(.int (p2 &&& (255 : Int32)))] _
    refine XS.i2c X1.here hx rfl (hb hby at_24) rfl ?_
    rw [h_c0]
    show SS p e below s₁ m 25 #[iv p1, iv p2, iv p3, iv p4, iv p5, .val o0, iv (1 : Int32), .unset, .unset, .unset, .unset, .unset, .unset, .unset] [(.int c0)] _
    refine XS.istore X1.here hx rfl (hb hby at_25) rfl (l' := #[iv p1, iv p2, iv p3, iv p4, iv p5, .val o0, iv (1 : Int32), iv c0, .unset, .unset, .unset, .unset, .unset, .unset]) rfl ?_
    refine XS.iloadN X1.here hx rfl (hb hby at_27) rfl ?_
    refine XS.sipush X1.here hx rfl (hb hby at_28) ?_
    show SS p e below s₁ m 31 #[iv p1, iv p2, iv p3, iv p4, iv p5, .val o0, iv (1 : Int32), iv c0, .unset, .unset, .unset, .unset, .unset, .unset] [(.int (255 : Int32)), (.int p3)] _
    refine XS.iand X1.here hx rfl (hb hby at_31) rfl ?_
    show SS p e below s₁ m 32 #[iv p1, iv p2, iv p3, iv p4, iv p5, .val o0, iv (1 : Int32), iv c0, .unset, .unset, .unset, .unset, .unset, .unset] [(.int (p3 &&& (255 : Int32)))] _
    refine XS.i2c X1.here hx rfl (hb hby at_32) rfl ?_
    rw [h_c1]
    show SS p e below s₁ m 33 #[iv p1, iv p2, iv p3, iv p4, iv p5, .val o0, iv (1 : Int32), iv c0, .unset, .unset, .unset, .unset, .unset, .unset] [(.int c1)] _
    refine XS.istore X1.here hx rfl (hb hby at_33) rfl (l' := #[iv p1, iv p2, iv p3, iv p4, iv p5, .val o0, iv (1 : Int32), iv c0, iv c1, .unset, .unset, .unset, .unset, .unset]) rfl ?_
    refine XS.iloadN X1.here hx rfl (hb hby at_35) rfl ?_
    refine XS.sipush X1.here hx rfl (hb hby at_36) ?_
    show SS p e below s₁ m 39 #[iv p1, iv p2, iv p3, iv p4, iv p5, .val o0, iv (1 : Int32), iv c0, iv c1, .unset, .unset, .unset, .unset, .unset] [(.int (255 : Int32)), (.int p4)] _
    refine XS.iand X1.here hx rfl (hb hby at_39) rfl ?_
    show SS p e below s₁ m 40 #[iv p1, iv p2, iv p3, iv p4, iv p5, .val o0, iv (1 : Int32), iv c0, iv c1, .unset, .unset, .unset, .unset, .unset] [(.int (p4 &&& (255 : Int32)))] _
    refine XS.i2c X1.here hx rfl (hb hby at_40) rfl ?_
    rw [h_d0]
    show SS p e below s₁ m 41 #[iv p1, iv p2, iv p3, iv p4, iv p5, .val o0, iv (1 : Int32), iv c0, iv c1, .unset, .unset, .unset, .unset, .unset] [(.int d0)] _
    refine XS.istore X1.here hx rfl (hb hby at_41) rfl (l' := #[iv p1, iv p2, iv p3, iv p4, iv p5, .val o0, iv (1 : Int32), iv c0, iv c1, iv d0, .unset, .unset, .unset, .unset]) rfl ?_
    refine XS.iload X1.here hx rfl (hb hby at_43) rfl ?_
    refine XS.sipush X1.here hx rfl (hb hby at_45) ?_
    show SS p e below s₁ m 48 #[iv p1, iv p2, iv p3, iv p4, iv p5, .val o0, iv (1 : Int32), iv c0, iv c1, iv d0, .unset, .unset, .unset, .unset] [(.int (255 : Int32)), (.int p5)] _
    refine XS.iand X1.here hx rfl (hb hby at_48) rfl ?_
    show SS p e below s₁ m 49 #[iv p1, iv p2, iv p3, iv p4, iv p5, .val o0, iv (1 : Int32), iv c0, iv c1, iv d0, .unset, .unset, .unset, .unset] [(.int (p5 &&& (255 : Int32)))] _
    refine XS.i2c X1.here hx rfl (hb hby at_49) rfl ?_
    rw [h_d1]
    show SS p e below s₁ m 50 #[iv p1, iv p2, iv p3, iv p4, iv p5, .val o0, iv (1 : Int32), iv c0, iv c1, iv d0, .unset, .unset, .unset, .unset] [(.int d1)] _
    refine XS.istore X1.here hx rfl (hb hby at_50) rfl (l' := #[iv p1, iv p2, iv p3, iv p4, iv p5, .val o0, iv (1 : Int32), iv c0, iv c1, iv d0, iv d1, .unset, .unset, .unset]) rfl ?_
    refine XS.iload X1.here hx rfl (hb hby at_52) rfl ?_
    refine XS.iload X1.here hx rfl (hb hby at_54) rfl ?_
    refine XS.iload X1.here hx rfl (hb hby at_56) rfl ?_
    refine st2.trans ?_
    refine XS.astore X2.here hx rfl (hb hby at_61) rfl rfl (l' := #[iv p1, iv p2, iv p3, iv p4, iv p5, .val o0, iv (1 : Int32), iv c0, iv c1, iv d0, iv d1, rv b2_0, .unset, .unset]) rfl ?_
    refine XS.iload X2.here hx rfl (hb hby at_63) rfl ?_
    refine XS.iload X2.here hx rfl (hb hby at_65) rfl ?_
    refine XS.iload X2.here hx rfl (hb hby at_67) rfl ?_
    refine st7 _ ?_
    show SS p e below T7 m 72 #[iv p1, iv p2, iv p3, iv p4, iv p5, .val o0, iv (1 : Int32), iv c0, iv c1, iv d0, iv d1, rv b2_0, .unset, .unset] [(.ref b7_0)] _
    refine XS.astore X7.here hx rfl (hb hby at_72) rfl rfl (l' := #[iv p1, iv p2, iv p3, iv p4, iv p5, .val o0, iv (1 : Int32), iv c0, iv c1, iv d0, iv d1, rv b2_0, rv b7_0, .unset]) rfl ?_
    refine st13 _ ?_
    refine XS.dup X13.here hx rfl (hb hby at_77) rfl rfl ?_
    refine XS.aload X13.here hx rfl (hb hby at_78) rfl rfl ?_
    refine XS.aload X13.here hx rfl (hb hby at_80) rfl rfl ?_
    refine st18 _ ?_
    refine st28 _ ?_
    refine XS.astore X28.here hx rfl (hb hby at_88) rfl rfl (l' := #[iv p1, iv p2, iv p3, iv p4, iv p5, .val o0, iv (1 : Int32), iv c0, iv c1, iv d0, iv d1, rv b2_0, rv b7_0, rv b7_0]) rfl ?_
    refine XS.aload X28.here hx rfl (hb hby at_90) rfl rfl ?_
    refine XS.ifnonnullYes X28.here hx rfl (pc0 := 92) (pc' := 97) rfl (hb hby at_92) rfl (by decide) (by decide) ?_
    show SS p e below T28 m 97 #[iv p1, iv p2, iv p3, iv p4, iv p5, .val o0, iv (1 : Int32), iv c0, iv c1, iv d0, iv d1, rv b2_0, rv b7_0, rv b7_0] [] _
    refine XS.iload X28.here hx rfl (hb hby at_97) rfl ?_
    refine XS.ifNo X28.here hx rfl (hb hby at_99) rfl ((if0 _ _).trans (teq (by decide : (0 : Int32) = (0 : Int32))).2) ?_
    refine XS.aload X28.here hx rfl (hb hby at_102) rfl rfl ?_
    refine XS.aload X28.here hx rfl (hb hby at_104) rfl rfl ?_
    refine st35 _ ?_
    exact retN X35 hx (t := .boolean) hret (by simp) (hb hby at_109) hr
theorem d_166 : decode method_2_code 35 = .ok (.new 7, 3) := by decide +kernel
theorem d_167 : decode method_2_code 38 = .ok (.dup, 1) := by decide +kernel
theorem d_168 : decode method_2_code 39 = .ok (.iconst 2, 1) := by decide +kernel
theorem d_169 : decode method_2_code 40 = .ok (.newarray .char, 2) := by decide +kernel
theorem d_170 : decode method_2_code 42 = .ok (.dup, 1) := by decide +kernel
theorem d_171 : decode method_2_code 43 = .ok (.iconst 0, 1) := by decide +kernel
theorem d_172 : decode method_2_code 44 = .ok (.iload_n 1, 1) := by decide +kernel
theorem d_173 : decode method_2_code 45 = .ok (.castore, 1) := by decide +kernel
theorem d_174 : decode method_2_code 46 = .ok (.dup, 1) := by decide +kernel
theorem d_175 : decode method_2_code 47 = .ok (.iconst 1, 1) := by decide +kernel
theorem d_176 : decode method_2_code 48 = .ok (.iload_n 2, 1) := by decide +kernel
theorem d_177 : decode method_2_code 49 = .ok (.castore, 1) := by decide +kernel
theorem d_178 : decode method_2_code 50 = .ok (.invokespecial 9, 3) := by decide +kernel
theorem ef_179 (m : MethodId) (a1 : Addr) (a2 : Addr) : entryFrame m #[(.ref a1), o0, (.ref a2), o0, (.int (2 : Int32))] 7 = mkF m 0 #[rv a1, .val o0, rv a2, .val o0, iv (2 : Int32), .unset, .unset] [] := by first | (simp [entryFrame, mkF, argsToLocals, Value.category]; done) | rfl
def Q15_compress (Z : State) (a1 : Addr) (a2 : Addr) (k3 : ClassId) (p4 : Int32) (p5 : Int32) (k6 : ClassId) (h0 : Heap) (n0 : Nat) (v : Option Value) (h : Heap) (L : List Loc) : Prop := v = some (.int (2 : Int32)) ∧ Fr n0 L ∧ Keep h0 h [a2] ∧ Arv Z h a2 k6 .byte (2 : Int32) [(.int (p4.toInt8.toInt32)), (.int (p5.toInt8.toInt32))] o0
theorem rm15_compress (l : Launch) (Z : State) (a0 : Array Value) (hw : HW Z a0) (a1 : Addr) (a2 : Addr) (k3 : ClassId) (p4 : Int32) (p5 : Int32) (k6 : ClassId) (h0 : Heap) (n0 : Nat) (O0 : Old Z n0 h0) (F_0 : Arv Z h0 a1 k3 .char (2 : Int32) [(.int p4), (.int p5)] o0) (hc_1 : ¬ ((255 : Int32) < p4)) (F_2 : Arv Z h0 a2 k6 .byte (2 : Int32) [o0, o0] o0) (g_3 : n0 ≤ a2) (ne_4 : a1 ≠ a2) (hc_5 : ¬ ((255 : Int32) < p5)) :
    Met l Z [] MY8 jdk_52_method_21_code 7 (some .int) ({ frames := 0, cells := 0, slots := 0, locals := 0 } : Room) #[(.ref a1), o0, (.ref a2), o0, (.int (2 : Int32))] h0 (Q15_compress Z a1 a2 k3 p4 p5 k6 h0 n0) := by
  have W := @own_W _ _ hw
  refine own_mk (plainFor_of_name pn_133) ?_
  intro p e s m below meth c s₁ hZ hx hby hml hown hnm hret hlk X0 e0
  have N0 := Fr.nil n0
  obtain ⟨c1, A1, q1, S1, N1, H1, G1⟩ := id F_0
  have i2 : ¬ ((0 : Int32) < 0 ∨ c1.slots.size ≤ ((0 : Int32)).toNatClampNeg) := inb_of S1 ⟨by decide, by decide⟩
  obtain ⟨c3, A3, q3, S3, N3, H3, G3⟩ := id F_2
  have i4 : ¬ ((0 : Int32) < 0 ∨ c3.slots.size ≤ ((0 : Int32)).toNatClampNeg) := inb_of S3 ⟨by decide, by decide⟩
  obtain ⟨T4, h4, X4, e4, W4, st4⟩ := stB X0 hx hZ e0 A3 (j := (0 : Int32)) i4 (g := (mkF m 31 #[rv a1, .val o0, rv a2, .val o0, iv (2 : Int32), .val o0, iv p4] [(.int (p4.toInt8.toInt32)), o0, (.ref a2)])) rfl rfl (hb hby d_125)
  rw [(own_narB _)] at W4
  have O5 := O0.wr W4 g_3
  have K6 : Keep h0 h4 [a2] := Keep.wr (Keep.refl h0 [a2]) W4 (Or.inl (List.mem_of_getElem? (i := 0) rfl))
  have v7 : Arv Z h4 a2 k6 .byte (2 : Int32) [(.int (p4.toInt8.toInt32)), o0] o0 := Arv.set A3 q3 S3 N3 H3 G3 (own_fput (by simp) (own_narB _)) W4 0 rfl (Nat.le_of_ble_eq_true rfl)
  have N8 := Fr.snoc X4 N0 g_3
  have f10 := (F_0.other W4 ne_4)
  obtain ⟨c9, A9, q9, S9, N9, H9, G9⟩ := id f10
  have i11 : ¬ ((1 : Int32) < 0 ∨ c9.slots.size ≤ ((1 : Int32)).toNatClampNeg) := inb_of S9 ⟨by decide, by decide⟩
  obtain ⟨c12, A12, q12, S12, N12, H12, G12⟩ := id v7
  have i13 : ¬ ((1 : Int32) < 0 ∨ c12.slots.size ≤ ((1 : Int32)).toNatClampNeg) := inb_of S12 ⟨by decide, by decide⟩
  obtain ⟨T13, h13, X13, e13, W13, st13⟩ := stB X4 hx hZ e4 A12 (j := (1 : Int32)) i13 (g := (mkF m 31 #[rv a1, iv (1 : Int32), rv a2, iv (1 : Int32), iv (2 : Int32), iv (1 : Int32), iv p5] [(.int (p5.toInt8.toInt32)), (.int (1 : Int32)), (.ref a2)])) rfl rfl (hb hby d_125)
  rw [(own_narB _)] at W13
  have O14 := O5.wr W13 g_3
  have K15 : Keep h0 h13 [a2] := Keep.wr K6 W13 (Or.inl (List.mem_of_getElem? (i := 0) rfl))
  have v16 : Arv Z h13 a2 k6 .byte (2 : Int32) [(.int (p4.toInt8.toInt32)), (.int (p5.toInt8.toInt32))] o0 := Arv.set A12 q12 S12 N12 H12 G12 (own_fput (by simp) (own_narB _)) W13 1 rfl (Nat.le_of_ble_eq_true rfl)
  have N17 := Fr.snoc X13 N8 g_3
  refine ⟨T13, some (.int (2 : Int32)), _, _, _, X13, by decide, by decide, nofun, ?_, fun fs hr => castTop (ef_179 m a1 a2) ?_⟩
  · show Q15_compress Z a1 a2 k3 p4 p5 k6 h0 n0 _ T13.heap _
    rw [e13]
    exact ⟨rfl, N17, K15, v16⟩
  · show SS p e below s₁ m 0 #[rv a1, .val o0, rv a2, .val o0, iv (2 : Int32), .unset, .unset] [] _
    refine XS.iconst X0.here hx rfl (hb hby d_109) ?_
    refine XS.istore X0.here hx rfl (hb hby d_110) rfl (l' := #[rv a1, .val o0, rv a2, .val o0, iv (2 : Int32), .val o0, .unset]) rfl ?_
    refine XS.iload X0.here hx rfl (hb hby d_111) rfl ?_
    refine XS.iload X0.here hx rfl (hb hby d_112) rfl ?_
    refine XS.icmpNo X0.here hx rfl (hb hby d_113) rfl (tlt (by decide : (0 : Int32) < (2 : Int32))).2.1 ?_
    refine XS.aloadN X0.here hx rfl (hb hby d_114) rfl rfl ?_
    refine XS.iloadN X0.here hx rfl (hb hby d_115) rfl ?_
    refine X0.caload hx (j := (0 : Int32)) (v := (.int p4)) (by rw [e0]; exact A1.1) (State.isArrayOf_alike hZ.alike A1.2.1) A1.2.2 i2 (H1.at i2 rfl) (g := (mkF m 12 #[rv a1, .val o0, rv a2, .val o0, iv (2 : Int32), .val o0, .unset] [o0, (.ref a1)])) rfl rfl (hb hby d_116) _ ?_
    refine XS.istore X0.here hx rfl (hb hby d_117) rfl (l' := #[rv a1, .val o0, rv a2, .val o0, iv (2 : Int32), .val o0, iv p4]) rfl ?_
    refine XS.iload X0.here hx rfl (hb hby d_118) rfl ?_
    show SS p e below s₁ m 17 #[rv a1, .val o0, rv a2, .val o0, iv (2 : Int32), .val o0, iv p4] [(.int p4)] _
    refine XS.sipush X0.here hx rfl (hb hby d_119) ?_
    refine XS.icmpYes X0.here hx rfl (pc0 := 20) (pc' := 26) rfl (hb hby d_120) rfl (flt hc_1).2.2.2 (by decide) (by decide) ?_
    refine XS.aloadN X0.here hx rfl (hb hby d_121) rfl rfl ?_
    refine XS.iloadN X0.here hx rfl (hb hby d_122) rfl ?_
    refine XS.iload X0.here hx rfl (hb hby d_123) rfl ?_
    show SS p e below s₁ m 30 #[rv a1, .val o0, rv a2, .val o0, iv (2 : Int32), .val o0, iv p4] [(.int p4), o0, (.ref a2)] _
    refine XS.i2b X0.here hx rfl (hb hby d_124) rfl ?_
    show SS p e below s₁ m 31 #[rv a1, .val o0, rv a2, .val o0, iv (2 : Int32), .val o0, iv p4] [(.int (p4.toInt8.toInt32)), o0, (.ref a2)] _
    refine st4 _ ?_
    refine XS.iinc X4.here hx rfl (hb hby d_126) rfl (l' := #[rv a1, iv (1 : Int32), rv a2, .val o0, iv (2 : Int32), .val o0, iv p4]) rfl ?_
    show SS p e below T4 m 35 #[rv a1, iv (1 : Int32), rv a2, .val o0, iv (2 : Int32), .val o0, iv p4] [] _
    refine XS.iinc X4.here hx rfl (hb hby d_127) rfl (l' := #[rv a1, iv (1 : Int32), rv a2, iv (1 : Int32), iv (2 : Int32), .val o0, iv p4]) rfl ?_
    show SS p e below T4 m 38 #[rv a1, iv (1 : Int32), rv a2, iv (1 : Int32), iv (2 : Int32), .val o0, iv p4] [] _
    refine XS.iinc X4.here hx rfl (hb hby d_128) rfl (l' := #[rv a1, iv (1 : Int32), rv a2, iv (1 : Int32), iv (2 : Int32), iv (1 : Int32), iv p4]) rfl ?_
    show SS p e below T4 m 41 #[rv a1, iv (1 : Int32), rv a2, iv (1 : Int32), iv (2 : Int32), iv (1 : Int32), iv p4] [] _
    refine XS.goto X4.here hx rfl (pc0 := 41) (pc' := 3) rfl (hb hby d_129) (by decide) (by decide) ?_
    refine XS.iload X4.here hx rfl (hb hby d_111) rfl ?_
    refine XS.iload X4.here hx rfl (hb hby d_112) rfl ?_
    refine XS.icmpNo X4.here hx rfl (hb hby d_113) rfl (tlt (by decide : (1 : Int32) < (2 : Int32))).2.1 ?_
    refine XS.aloadN X4.here hx rfl (hb hby d_114) rfl rfl ?_
    refine XS.iloadN X4.here hx rfl (hb hby d_115) rfl ?_
    refine X4.caload hx (j := (1 : Int32)) (v := (.int p5)) (by rw [e4]; exact A9.1) (State.isArrayOf_alike hZ.alike A9.2.1) A9.2.2 i11 (H9.at i11 rfl) (g := (mkF m 12 #[rv a1, iv (1 : Int32), rv a2, iv (1 : Int32), iv (2 : Int32), iv (1 : Int32), iv p4] [(.int (1 : Int32)), (.ref a1)])) rfl rfl (hb hby d_116) _ ?_
    refine XS.istore X4.here hx rfl (hb hby d_117) rfl (l' := #[rv a1, iv (1 : Int32), rv a2, iv (1 : Int32), iv (2 : Int32), iv (1 : Int32), iv p5]) rfl ?_
    refine XS.iload X4.here hx rfl (hb hby d_118) rfl ?_
    refine XS.sipush X4.here hx rfl (hb hby d_119) ?_
    show SS p e below T4 m 20 #[rv a1, iv (1 : Int32), rv a2, iv (1 : Int32), iv (2 : Int32), iv (1 : Int32), iv p5] [(.int (255 : Int32)), (.int p5)] _
    refine XS.icmpYes X4.here hx rfl (pc0 := 20) (pc' := 26) rfl (hb hby d_120) rfl (flt hc_5).2.2.2 (by decide) (by decide) ?_
    refine XS.aloadN X4.here hx rfl (hb hby d_121) rfl rfl ?_
    refine XS.iloadN X4.here hx rfl (hb hby d_122) rfl ?_
    refine XS.iload X4.here hx rfl (hb hby d_123) rfl ?_
    show SS p e below T4 m 30 #[rv a1, iv (1 : Int32), rv a2, iv (1 : Int32), iv (2 : Int32), iv (1 : Int32), iv p5] [(.int p5), (.int (1 : Int32)), (.ref a2)] _
    refine XS.i2b X4.here hx rfl (hb hby d_124) rfl ?_
    show SS p e below T4 m 31 #[rv a1, iv (1 : Int32), rv a2, iv (1 : Int32), iv (2 : Int32), iv (1 : Int32), iv p5] [(.int (p5.toInt8.toInt32)), (.int (1 : Int32)), (.ref a2)] _
    refine st13 _ ?_
    refine XS.iinc X13.here hx rfl (hb hby d_126) rfl (l' := #[rv a1, iv (2 : Int32), rv a2, iv (1 : Int32), iv (2 : Int32), iv (1 : Int32), iv p5]) rfl ?_
    show SS p e below T13 m 35 #[rv a1, iv (2 : Int32), rv a2, iv (1 : Int32), iv (2 : Int32), iv (1 : Int32), iv p5] [] _
    refine XS.iinc X13.here hx rfl (hb hby d_127) rfl (l' := #[rv a1, iv (2 : Int32), rv a2, iv (2 : Int32), iv (2 : Int32), iv (1 : Int32), iv p5]) rfl ?_
    show SS p e below T13 m 38 #[rv a1, iv (2 : Int32), rv a2, iv (2 : Int32), iv (2 : Int32), iv (1 : Int32), iv p5] [] _
    refine XS.iinc X13.here hx rfl (hb hby d_128) rfl (l' := #[rv a1, iv (2 : Int32), rv a2, iv (2 : Int32), iv (2 : Int32), iv (2 : Int32), iv p5]) rfl ?_
    show SS p e below T13 m 41 #[rv a1, iv (2 : Int32), rv a2, iv (2 : Int32), iv (2 : Int32), iv (2 : Int32), iv p5] [] _
    refine XS.goto X13.here hx rfl (pc0 := 41) (pc' := 3) rfl (hb hby d_129) (by decide) (by decide) ?_
    refine XS.iload X13.here hx rfl (hb hby d_111) rfl ?_
    refine XS.iload X13.here hx rfl (hb hby d_112) rfl ?_
    refine XS.icmpYes X13.here hx rfl (pc0 := 7) (pc' := 44) rfl (hb hby d_113) rfl (flt (by decide : ¬ ((2 : Int32) < (2 : Int32)))).2.1 (by decide) (by decide) ?_
    refine XS.iload X13.here hx rfl (hb hby d_130) rfl ?_
    exact retI X13 hx hret (hb hby d_131) hr
theorem ef_180 (m : MethodId) (a1 : Addr) : entryFrame m #[(.ref a1), o0, (.int (2 : Int32))] 6 = mkF m 0 #[rv a1, .val o0, iv (2 : Int32), .unset, .unset, .unset] [] := by first | (simp [entryFrame, mkF, argsToLocals, Value.category]; done) | rfl
def Q16_compress (Z : State) (a1 : Addr) (k2 : ClassId) (p3 : Int32) (p4 : Int32) (h0 : Heap) (n0 : Nat) (v : Option Value) (h : Heap) (L : List Loc) : Prop := ∃ (b1 : Addr) (k1 : ClassId), v = some (.ref b1) ∧ Fr n0 L ∧ Keep h0 h [] ∧ h0.size ≤ b1 ∧ Arv Z h b1 k1 .byte (2 : Int32) [(.int (p3.toInt8.toInt32)), (.int (p4.toInt8.toInt32))] o0 ∧ EA46 Z h b1
theorem rm16_compress (l : Launch) (Z : State) (a0 : Array Value) (hw : HW Z a0) (a1 : Addr) (k2 : ClassId) (p3 : Int32) (p4 : Int32) (h0 : Heap) (n0 : Nat) (O0 : Old Z n0 h0) (F_0 : Arv Z h0 a1 k2 .char (2 : Int32) [(.int p3), (.int p4)] o0) (hc_1 : ¬ ((255 : Int32) < p3)) (hc_2 : ¬ ((255 : Int32) < p4)) (lt_3 : a1 < h0.size) :
    Met l Z [] MY9 jdk_52_method_16_code 6 (some (.array .byte)) ({ frames := 1, cells := 1, slots := 2, locals := 18 } : Room) #[(.ref a1), o0, (.int (2 : Int32))] h0 (Q16_compress Z a1 k2 p3 p4 h0 n0) := by
  have W := @own_W _ _ hw
  refine own_mk (plainFor_of_name pn_133) ?_
  intro p e s m below meth c s₁ hZ hx hby hml hown hnm hret hlk X0 e0
  have N0 := Fr.nil n0
  obtain ⟨T1, h1, k1, X1, e1, E1, A1, B1, st1⟩ := newPE X0 hx hZ (W 20 rfl) e0 (g := (mkF m 1 #[rv a1, .val o0, iv (2 : Int32), .unset, .unset, .unset] [(.int (2 : Int32))])) rfl (hb hby d_101) rfl (by decide) (cap := 2) (by decide) (by decide) (by decide) (by decide) (ad := "[B") rfl
  obtain ⟨b1, g1⟩ : ∃ z, z = h0.size := ⟨_, rfl⟩
  rw [← g1] at A1 B1 st1
  have O2 := O0.ext E1
  have K3 : Keep h0 h1 [] := Keep.ext (Keep.refl h0 []) E1
  have v4 : Arv Z h1 b1 k1 .byte (2 : Int32) [o0, o0] o0 := (Arv.new A1 (by decide)).pad (pad_rep [] o0 2)
  have f6 := (F_0.ext E1)
  have g7 : n0 ≤ b1 := Nat.le_trans (Nat.le_trans (Nat.le_of_eq O0.1.symm) O0.2.1) (Nat.le_of_eq g1.symm)
  obtain ⟨_, T5, L5, X5, hQ5, st5⟩ := own_cs X1 hx hZ hown hml (W 63 rfl) (W 64 rfl) (W 61 rfl) (W 65 rfl) (rm15_compress l Z a0 hw a1 b1 k2 p3 p4 k1 h1 n0 O2 (f6) (hc_1) (v4) (g7) ((Nat.ne_of_lt (Nat.lt_of_lt_of_le lt_3 (Nat.le_of_eq g1.symm)))) (hc_2)) e1 (hb hby d_108) 0 #[rv a1, .val o0, iv (2 : Int32), rv b1, .unset, .unset] [(.ref a1), o0, (.ref b1), o0, (.int (2 : Int32))] [] pd_134
  obtain ⟨rfl, N5q, K5, F5_0⟩ := hQ5
  have N8 := Fr.app N0 N5q
  have O9 := O2.keep K5 (allS g7 all0)
  have K10 : Keep h0 T5.heap [] := Keep.trans K3 K5 (allS (Or.inr (Nat.le_of_eq g1.symm)) all0)
  have f11 := (B1.keep K5)
  refine ⟨T5, some (.ref b1), _, _, _, X5, by decide, by decide, nofun, ?_, fun fs hr => castTop (ef_180 m a1) ?_⟩
  · show Q16_compress Z a1 k2 p3 p4 h0 n0 _ T5.heap _
    exact ⟨b1, k1, rfl, N8, K10, (Nat.le_of_eq g1.symm), F5_0, f11⟩
  · show SS p e below s₁ m 0 #[rv a1, .val o0, iv (2 : Int32), .unset, .unset, .unset] [] _
    refine XS.iloadN X0.here hx rfl (hb hby d_100) rfl ?_
    refine st1 _ ?_
    refine XS.astoreN X1.here hx rfl (hb hby d_102) rfl rfl (l' := #[rv a1, .val o0, iv (2 : Int32), rv b1, .unset, .unset]) rfl ?_
    refine XS.aloadN X1.here hx rfl (hb hby d_103) rfl rfl ?_
    refine XS.iloadN X1.here hx rfl (hb hby d_104) rfl ?_
    refine XS.aloadN X1.here hx rfl (hb hby d_105) rfl rfl ?_
    refine XS.iconst X1.here hx rfl (hb hby d_106) ?_
    refine XS.iloadN X1.here hx rfl (hb hby d_107) rfl ?_
    refine st5 _ ?_
    refine XS.istore X5.here hx rfl (hb hby d_135) rfl (l' := #[rv a1, .val o0, iv (2 : Int32), rv b1, iv (2 : Int32), .unset]) rfl ?_
    show SS p e below T5 m 14 #[rv a1, .val o0, iv (2 : Int32), rv b1, iv (2 : Int32), .unset] [] _
    refine XS.iload X5.here hx rfl (hb hby d_136) rfl ?_
    refine XS.iloadN X5.here hx rfl (hb hby d_137) rfl ?_
    refine XS.icmpYes X5.here hx rfl (pc0 := 17) (pc' := 57) rfl (hb hby d_138) rfl (teq (by decide : (2 : Int32) = (2 : Int32))).1 (by decide) (by decide) ?_
    refine XS.aloadN X5.here hx rfl (hb hby d_139) rfl rfl ?_
    exact retOut X5 hx hret rfl (Or.inr (Or.inr (Or.inr (Or.inr ⟨rfl, rfl, rfl⟩)))) (hb hby d_140) hr
theorem ef_181 (m : MethodId) (a1 : Addr) : entryFrame m #[(.ref a1), (.int (2 : Int32))] 2 = mkF m 0 #[rv a1, iv (2 : Int32)] [] := by first | (simp [entryFrame, mkF, argsToLocals, Value.category]; done) | rfl
def Q17_coderFromArrayLen (Z : State) (a1 : Addr) (k2 : ClassId) (p3 : Int32) (p4 : Int32) (h0 : Heap) (n0 : Nat) (v : Option Value) (h : Heap) (L : List Loc) : Prop := v = some o0 ∧ Fr n0 L ∧ h = h0
theorem rm17_coderFromArrayLen (l : Launch) (Z : State) (a0 : Array Value) (hw : HW Z a0) (a1 : Addr) (k2 : ClassId) (p3 : Int32) (p4 : Int32) (h0 : Heap) (n0 : Nat) (O0 : Old Z n0 h0) (F_0 : Arv Z h0 a1 k2 .byte (2 : Int32) [(.int p3), (.int p4)] o0) :
    Met l Z [] MY10 jdk_52_method_15_code 2 (some .byte) ({ frames := 0, cells := 0, slots := 0, locals := 0 } : Room) #[(.ref a1), (.int (2 : Int32))] h0 (Q17_coderFromArrayLen Z a1 k2 p3 p4 h0 n0) := by
  have W := @own_W _ _ hw
  refine own_mk (plainFor_of_name pn_133) ?_
  intro p e s m below meth c s₁ hZ hx hby hml hown hnm hret hlk X0 e0
  have N0 := Fr.nil n0
  obtain ⟨c1, A1, q1, S1, N1, H1, G1⟩ := id F_0
  refine ⟨s₁, some o0, _, _, _, X0, by decide, by decide, nofun, ?_, fun fs hr => castTop (ef_181 m a1) ?_⟩
  · show Q17_coderFromArrayLen Z a1 k2 p3 p4 h0 n0 _ s₁.heap _
    rw [e0]
    exact ⟨rfl, N0, rfl⟩
  · show SS p e below s₁ m 0 #[rv a1, iv (2 : Int32)] [] _
    refine XS.iloadN X0.here hx rfl (hb hby d_148) rfl ?_
    refine XS.aloadN X0.here hx rfl (hb hby d_149) rfl rfl ?_
    refine X0.arraylength hx (by rw [e0]; exact A1.1) (State.isArrayOf_alike hZ.alike A1.2.1) (g := (mkF m 2 #[rv a1, iv (2 : Int32)] [(.ref a1), (.int (2 : Int32))])) rfl rfl (hb hby d_150) _ ?_
    rw [len_of S1 N1]
    refine XS.isub X0.here hx rfl (hb hby d_151) rfl ?_
    show SS p e below s₁ m 4 #[rv a1, iv (2 : Int32)] [o0] _
    refine XS.bipush X0.here hx rfl (hb hby d_152) ?_
    refine XS.iushr X0.here hx rfl (hb hby d_153) rfl ?_
    show SS p e below s₁ m 7 #[rv a1, iv (2 : Int32)] [o0] _
    refine XS.i2b X0.here hx rfl (hb hby d_154) rfl ?_
    show SS p e below s₁ m 8 #[rv a1, iv (2 : Int32)] [o0] _
    exact retN X0 hx (t := .byte) hret (by simp) (hb hby d_155) hr
theorem ef_182 (m : MethodId) (a1 : Addr) (a2 : Addr) : entryFrame m #[(.ref a1), (.ref a2), o0, (.int (2 : Int32)), .null] 6 = mkF m 0 #[rv a1, rv a2, .val o0, iv (2 : Int32), .val .null, .unset] [] := by first | (simp [entryFrame, mkF, argsToLocals, Value.category]; done) | rfl
def Q18_init (Z : State) (a1 : Addr) (a2 : Addr) (p3 : Int32) (k4 : ClassId) (p5 : Int32) (p6 : Int32) (h0 : Heap) (n0 : Nat) (v : Option Value) (h : Heap) (L : List Loc) : Prop := ∃ (b3_0 : Addr) (k3_0 : ClassId), v = none ∧ Fr n0 L ∧ Keep h0 h [a1] ∧ h0.size ≤ b3_0 ∧ Arv Z h b3_0 k3_0 .byte (2 : Int32) [(.int (p5.toInt8.toInt32)), (.int (p6.toInt8.toInt32))] o0 ∧ EA46 Z h b3_0 ∧ FA38 Z h a1 o0 ∧ FA37 Z h a1 (.ref b3_0)
theorem rm18_init (l : Launch) (Z : State) (a0 : Array Value) (hw : HW Z a0) (a1 : Addr) (a2 : Addr) (p3 : Int32) (k4 : ClassId) (p5 : Int32) (p6 : Int32) (h0 : Heap) (n0 : Nat) (O0 : Old Z n0 h0) (S_0 : SA48 Z Z.heap (.int p3)) (hc_1 : ¬ (p3 = (0 : Int32))) (F_2 : Arv Z h0 a2 k4 .char (2 : Int32) [(.int p5), (.int p6)] o0) (hc_3 : ¬ ((255 : Int32) < p5)) (hc_4 : ¬ ((255 : Int32) < p6)) (lt_5 : a2 < h0.size) (F_6 : EA44 Z h0 a1) (F_7 : FA38 Z h0 a1 o0) (g_8 : n0 ≤ a1) (F_9 : FA37 Z h0 a1 .null) (lt_10 : a1 < h0.size) :
    Met l Z [] MY0 jdk_42_method_149_code 6 none ({ frames := 2, cells := 1, slots := 2, locals := 35 } : Room) #[(.ref a1), (.ref a2), o0, (.int (2 : Int32)), .null] h0 (Q18_init Z a1 a2 p3 k4 p5 p6 h0 n0) := by
  have W := @own_W _ _ hw
  refine own_mk (plainFor_of_name pn_30) ?_
  intro p e s m below meth c s₁ hZ hx hby hml hown hnm hret hlk X0 e0
  have N0 := Fr.nil n0
  obtain ⟨T1, X1, e1, st1⟩ := initO X0 hx hZ hown (W 16 rfl) (W 17 rfl) (W 18 rfl) e0 (g := (mkF m 1 #[rv a1, rv a2, .val o0, iv (2 : Int32), .val .null, .unset] [(.ref a1)])) rfl (by rw [hml]; rfl) rfl (hb hby d_15) (by decide) (W := 0) (by show 2 * 0 + _ ≤ _; exact Nat.le_of_eq rfl) (by decide)
  obtain ⟨T2, X2, e2, st2⟩ := getS2 X1 hx hZ hown (host := "") (Or.inl (W 58 rfl)) Via.refl e1 (S_0.ext O0.2) (g := (mkF m 27 #[rv a1, rv a2, .val o0, iv (2 : Int32), .val .null, .unset] [])) rfl (hb hby d_94)
  obtain ⟨_, T3, L3, X3, hQ3, st3⟩ := own_cs X2 hx hZ hown hml (W 59 rfl) (W 60 rfl) (W 61 rfl) (W 62 rfl) (rm16_compress l Z a0 hw a2 k4 p5 p6 h0 n0 O0 (F_2) (hc_3) (hc_4) (lt_5)) e2 (hb hby d_99) 0 #[rv a1, rv a2, .val o0, iv (2 : Int32), .val .null, .unset] [(.ref a2), o0, (.int (2 : Int32))] [] pd_142
  obtain ⟨b3_0, k3_0, rfl, N3q, K3, gb3_0, F3_0, F3_1⟩ := hQ3
  have N4 := Fr.app N0 N3q
  have O5 := O0.keep K3 all0
  have K6 : Keep h0 T3.heap [a1] := Keep.trans (Keep.refl h0 [a1]) K3 all0
  obtain ⟨_, T7, L7, X7, hQ7, st7⟩ := own_cs X3 hx hZ hown hml (W 66 rfl) (W 67 rfl) (W 61 rfl) (W 68 rfl) (rm17_coderFromArrayLen l Z a0 hw b3_0 k3_0 (p5.toInt8.toInt32) (p6.toInt8.toInt32) T3.heap n0 O5 (F3_0)) rfl (hb hby d_147) 1 #[rv a1, rv a2, .val o0, iv (2 : Int32), .val .null, rv b3_0] [(.ref b3_0), (.int (2 : Int32))] [(.ref a1)] pd_157
  obtain ⟨rfl, N7q, K7⟩ := hQ7
  have N8 := Fr.app N4 N7q
  have f10 := (F_7.keep K3 nin0)
  have f11 := (F_6.keep K3)
  obtain ⟨T9, h9, X9, e9, W9, st9⟩ := putFN X7 hx hZ hown (W 26 rfl) Via.refl K7 f10 f11 (Or.inr ⟨(W 22 rfl), rfl, hnm⟩) (W 6 rfl) (ty := .byte) (v' := o0) (by decide) rfl rfl (g := (mkF m 48 #[rv a1, rv a2, .val o0, iv (2 : Int32), .val .null, rv b3_0] [o0, (.ref a1)])) rfl rfl (hb hby d_158)
  have O12 := O5.wr W9 g_8
  have K13 : Keep h0 h9 [a1] := Keep.wr K6 W9 (Or.inl (List.mem_of_getElem? (i := 0) rfl))
  have f14 : FA38 Z h9 a1 o0 := (f10.same W9)
  have N15 := Fr.snoc X9 N8 g_8
  have f17 := ((F_9.keep K3 nin0).other W9 (Or.inr (slot_ne (Or.inr (W 21 rfl)) (Or.inr (W 22 rfl)) (by decide) (t := (.array .byte)) (t' := .byte) (by decide) (by decide))))
  have f18 := (f11.wr W9)
  obtain ⟨T16, h16, X16, e16, W16, st16⟩ := putF X9 hx hZ hown (host := "") (Or.inl (W 25 rfl)) Via.refl e9 f17 f18 (Or.inr ⟨(W 21 rfl), rfl, hnm⟩) (W 6 rfl) (ty := (.array .byte)) (by decide) rfl rfl (g := (mkF m 54 #[rv a1, rv a2, .val o0, iv (2 : Int32), .val .null, rv b3_0] [(.ref b3_0), (.ref a1)])) rfl rfl (hb hby d_161)
  have O19 := O12.wr W16 g_8
  have K20 : Keep h0 h16 [a1] := Keep.wr K13 W16 (Or.inl (List.mem_of_getElem? (i := 0) rfl))
  have f21 : FA37 Z h16 a1 (.ref b3_0) := (f17.same W16)
  have N22 := Fr.snoc X16 N15 g_8
  have f23 := ((F3_0.other W9 (Ne.symm (Nat.ne_of_lt (Nat.lt_of_lt_of_le lt_10 gb3_0)))).other W16 (Ne.symm (Nat.ne_of_lt (Nat.lt_of_lt_of_le lt_10 gb3_0))))
  have f24 := ((F3_1.wr W9).wr W16)
  have f25 := (f14.other W16 (Or.inr (slot_ne (Or.inr (W 22 rfl)) (Or.inr (W 21 rfl)) (by decide) (t := .byte) (t' := (.array .byte)) (by decide) (by decide))))
  refine ⟨T16, none, _, _, _, X16, by decide, by decide, (fun _ => rfl), ?_, fun fs hr => castTop (ef_182 m a1 a2) ?_⟩
  · show Q18_init Z a1 a2 p3 k4 p5 p6 h0 n0 _ T16.heap _
    rw [e16]
    exact ⟨b3_0, k3_0, rfl, N22, K20, gb3_0, f23, f24, f25, f21⟩
  · show SS p e below s₁ m 0 #[rv a1, rv a2, .val o0, iv (2 : Int32), .val .null, .unset] [] _
    refine XS.aloadN X0.here hx rfl (hb hby d_14) rfl rfl ?_
    refine st1 _ ?_
    refine XS.iloadN X1.here hx rfl (hb hby d_16) rfl ?_
    refine XS.ifYes X1.here hx rfl (pc0 := 5) (pc' := 27) rfl (hb hby d_17) rfl ((if0 _ _).trans (feq (by decide : ¬ ((2 : Int32) = (0 : Int32)))).2) (by decide) (by decide) ?_
    refine st2 _ ?_
    refine XS.ifNo X2.here hx rfl (hb hby d_95) rfl ((if0 _ _).trans (feq hc_1).1) ?_
    refine XS.aloadN X2.here hx rfl (hb hby d_96) rfl rfl ?_
    refine XS.iloadN X2.here hx rfl (hb hby d_97) rfl ?_
    refine XS.iloadN X2.here hx rfl (hb hby d_98) rfl ?_
    refine st3 _ ?_
    show SS p e below T3 m 39 #[rv a1, rv a2, .val o0, iv (2 : Int32), .val .null, .unset] [(.ref b3_0)] _
    refine XS.astore X3.here hx rfl (hb hby d_143) rfl rfl (l' := #[rv a1, rv a2, .val o0, iv (2 : Int32), .val .null, rv b3_0]) rfl ?_
    refine XS.aloadN X3.here hx rfl (hb hby d_144) rfl rfl ?_
    refine XS.aload X3.here hx rfl (hb hby d_145) rfl rfl ?_
    refine XS.iloadN X3.here hx rfl (hb hby d_146) rfl ?_
    refine st7 _ ?_
    refine st9 _ ?_
    refine XS.aloadN X9.here hx rfl (hb hby d_159) rfl rfl ?_
    refine XS.aload X9.here hx rfl (hb hby d_160) rfl rfl ?_
    refine st16 _ ?_
    exact X16.returnOut hx hret (hb hby d_162) hr
def Q19_init (Z : State) (a1 : Addr) (a2 : Addr) (k3 : ClassId) (p4 : Int32) (p5 : Int32) (p6 : Int32) (h0 : Heap) (n0 : Nat) (v : Option Value) (h : Heap) (L : List Loc) : Prop := ∃ (b2_0 : Addr) (k2_0 : ClassId), v = none ∧ Fr n0 L ∧ Keep h0 h [a1] ∧ h0.size ≤ b2_0 ∧ Arv Z h b2_0 k2_0 .byte (2 : Int32) [(.int (p4.toInt8.toInt32)), (.int (p5.toInt8.toInt32))] o0 ∧ EA46 Z h b2_0 ∧ FA38 Z h a1 o0 ∧ FA37 Z h a1 (.ref b2_0)
theorem rm19_init (l : Launch) (Z : State) (a0 : Array Value) (hw : HW Z a0) (a1 : Addr) (a2 : Addr) (k3 : ClassId) (p4 : Int32) (p5 : Int32) (p6 : Int32) (h0 : Heap) (n0 : Nat) (O0 : Old Z n0 h0) (F_0 : Arv Z h0 a2 k3 .char (2 : Int32) [(.int p4), (.int p5)] o0) (S_1 : SA48 Z Z.heap (.int p6)) (hc_2 : ¬ (p6 = (0 : Int32))) (hc_3 : ¬ ((255 : Int32) < p4)) (hc_4 : ¬ ((255 : Int32) < p5)) (F_5 : EA44 Z h0 a1) (F_6 : FA38 Z h0 a1 o0) (F_7 : FA37 Z h0 a1 .null) (lt_8 : a2 < h0.size) (g_9 : n0 ≤ a1) (lt_10 : a1 < h0.size) :
    Met l Z [] MY1 jdk_42_method_3_code 2 none ({ frames := 3, cells := 1, slots := 2, locals := 52 } : Room) #[(.ref a1), (.ref a2)] h0 (Q19_init Z a1 a2 k3 p4 p5 p6 h0 n0) := by
  have W := @own_W _ _ hw
  refine own_mk (plainFor_of_name pn_30) ?_
  intro p e s m below meth c s₁ hZ hx hby hml hown hnm hret hlk X0 e0
  have N0 := Fr.nil n0
  obtain ⟨c1, A1, q1, S1, N1, H1, G1⟩ := id F_0
  obtain ⟨_, T2, L2, X2, hQ2, st2⟩ := own_cp X0 hx hZ hown hml rfl (W 12 rfl) (W 13 rfl) (W 7 rfl) (W 15 rfl) (rm18_init l Z a0 hw a1 a2 p6 k3 p4 p5 h0 n0 O0 (S_1) (hc_2) (F_0) (hc_3) (hc_4) (lt_8) (F_5) (F_6) (g_9) (F_7) (lt_10)) e0 (hb hby d_13) 0 #[rv a1, rv a2] a1 [(.ref a2), o0, (.int (2 : Int32)), .null] [] pd_31
  obtain ⟨b2_0, k2_0, rfl, N2q, K2, gb2_0, F2_0, F2_1, F2_2, F2_3⟩ := hQ2
  have N3 := Fr.app N0 N2q
  have O4 := O0.keep K2 (allS g_9 all0)
  have K5 : Keep h0 T2.heap [a1] := Keep.trans (Keep.refl h0 [a1]) K2 (allS (Or.inl (List.mem_of_getElem? (i := 0) rfl)) all0)
  refine ⟨T2, none, _, _, _, X2, by decide, by decide, (fun _ => rfl), ?_, fun fs hr => castTop (ef_33 m a1 a2) ?_⟩
  · show Q19_init Z a1 a2 k3 p4 p5 p6 h0 n0 _ T2.heap _
    exact ⟨b2_0, k2_0, rfl, N3, K5, gb2_0, F2_0, F2_1, F2_2, F2_3⟩
  · show SS p e below s₁ m 0 #[rv a1, rv a2] [] _
    refine XS.aloadN X0.here hx rfl (hb hby d_7) rfl rfl ?_
    refine XS.aloadN X0.here hx rfl (hb hby d_8) rfl rfl ?_
    refine XS.iconst X0.here hx rfl (hb hby d_9) ?_
    refine XS.aloadN X0.here hx rfl (hb hby d_10) rfl rfl ?_
    refine X0.arraylength hx (by rw [e0]; exact A1.1) (State.isArrayOf_alike hZ.alike A1.2.1) (g := (mkF m 4 #[rv a1, rv a2] [(.ref a2), o0, (.ref a2), (.ref a1)])) rfl rfl (hb hby d_11) _ ?_
    rw [len_of S1 N1]
    refine XS.aconstNull X0.here hx rfl (hb hby d_12) ?_
    refine st2 _ ?_
    exact X2.returnOut hx hret (hb hby d_32) hr
theorem d_183 : decode method_2_code 53 = .ok (.areturn, 1) := by decide +kernel
theorem ef_184 (m : MethodId) (p1 : Int32) (p2 : Int32) : entryFrame m #[(.int (2 : Int32)), (.int p1), (.int p2)] 3 = mkF m 0 #[iv (2 : Int32), iv p1, iv p2] [] := by first | (simp [entryFrame, mkF, argsToLocals, Value.category]; done) | rfl
def Q20_mk (Z : State) (p1 : Int32) (p2 : Int32) (p3 : Int32) (h0 : Heap) (n0 : Nat) (v : Option Value) (h : Heap) (L : List Loc) : Prop := ∃ (b1 : Addr) (b22_0 : Addr) (k22_0 : ClassId), v = some (.ref b1) ∧ Fr n0 L ∧ Keep h0 h [] ∧ h0.size ≤ b1 ∧ h0.size ≤ b22_0 ∧ EA44 Z h b1 ∧ FA37 Z h b1 (.ref b22_0) ∧ FA38 Z h b1 o0 ∧ Arv Z h b22_0 k22_0 .byte (2 : Int32) [(.int (p1.toInt8.toInt32)), (.int (p2.toInt8.toInt32))] o0 ∧ EA46 Z h b22_0
theorem rm20_mk (l : Launch) (Z : State) (a0 : Array Value) (hw : HW Z a0) (p1 : Int32) (p2 : Int32) (p3 : Int32) (h0 : Heap) (n0 : Nat) (O0 : Old Z n0 h0) (nr_0 : nar .char p1 = p1) (nr_1 : nar .char p2 = p2) (S_2 : SA48 Z Z.heap (.int p3)) (hc_3 : ¬ (p3 = (0 : Int32))) (hc_4 : ¬ ((255 : Int32) < p1)) (hc_5 : ¬ ((255 : Int32) < p2)) :
    Met l Z [] MY2 method_2_code 3 (some (.object "java/lang/String")) ({ frames := 4, cells := 3, slots := 8, locals := 66 } : Room) #[(.int (2 : Int32)), (.int p1), (.int p2)] h0 (Q20_mk Z p1 p2 p3 h0 n0) := by
  have W := @own_W _ _ hw
  refine own_mk (plainFor_of_name pn_37) ?_
  intro p e s m below meth c s₁ hZ hx hby hml hown hnm hret hlk X0 e0
  have N0 := Fr.nil n0
  obtain ⟨T1, h1, X1, e1, E1, A1, D1, -, st1⟩ := newO X0 hx hZ hown (W 5 rfl) (W 6 rfl) (W 7 rfl) e0 (g := (mkF m 35 #[iv (2 : Int32), iv p1, iv p2] [])) rfl (hb hby d_166) (by decide) (by decide)
  obtain ⟨b1, g1⟩ : ∃ z, z = h0.size := ⟨_, rfl⟩
  rw [← g1] at A1 D1 st1
  have O2 := O0.ext E1
  have K3 : Keep h0 h1 [] := Keep.ext (Keep.refl h0 []) E1
  obtain ⟨T4, h4, k4, X4, e4, E4, A4, B4, st4⟩ := newPE X1 hx hZ (W 8 rfl) e1 (g := (mkF m 40 #[iv (2 : Int32), iv p1, iv p2] [(.int (2 : Int32)), (.ref b1), (.ref b1)])) rfl (hb hby d_169) rfl (by decide) (cap := 2) (by decide) (by decide) (by decide) (by decide) (ad := "[C") rfl
  obtain ⟨b4, g4⟩ : ∃ z, z = h1.size := ⟨_, rfl⟩
  rw [← g4] at A4 B4 st4
  have O5 := O2.ext E4
  have K6 : Keep h0 h4 [] := Keep.ext K3 E4
  have v7 : Arv Z h4 b4 k4 .char (2 : Int32) [o0, o0] o0 := (Arv.new A4 (by decide)).pad (pad_rep [] o0 2)
  obtain ⟨c8, A8, q8, S8, N8, H8, G8⟩ := id v7
  have i9 : ¬ ((0 : Int32) < 0 ∨ c8.slots.size ≤ ((0 : Int32)).toNatClampNeg) := inb_of S8 ⟨by decide, by decide⟩
  obtain ⟨T9, h9, X9, e9, W9, st9⟩ := stC X4 hx hZ e4 A8 (j := (0 : Int32)) i9 (g := (mkF m 45 #[iv (2 : Int32), iv p1, iv p2] [(.int p1), o0, (.ref b4), (.ref b4), (.ref b1), (.ref b1)])) rfl rfl (hb hby d_173)
  rw [nr_0] at W9
  have z10 : h0.size ≤ h1.size := E1.1
  have g11 : n0 ≤ b4 := Nat.le_trans (Nat.le_trans (Nat.le_trans (Nat.le_of_eq O0.1.symm) O0.2.1) z10) (Nat.le_of_eq g4.symm)
  have O12 := O5.wr W9 g11
  have K13 : Keep h0 h9 [] := Keep.wr K6 W9 (Or.inr (Nat.le_trans z10 (Nat.le_of_eq g4.symm)))
  have v14 : Arv Z h9 b4 k4 .char (2 : Int32) [(.int p1), o0] o0 := Arv.set A8 q8 S8 N8 H8 G8 (own_fput (by simp) nr_0) W9 0 rfl (Nat.le_of_ble_eq_true rfl)
  have N15 := Fr.snoc X9 N0 g11
  obtain ⟨c16, A16, q16, S16, N16, H16, G16⟩ := id v14
  have i17 : ¬ ((1 : Int32) < 0 ∨ c16.slots.size ≤ ((1 : Int32)).toNatClampNeg) := inb_of S16 ⟨by decide, by decide⟩
  obtain ⟨T17, h17, X17, e17, W17, st17⟩ := stC X9 hx hZ e9 A16 (j := (1 : Int32)) i17 (g := (mkF m 49 #[iv (2 : Int32), iv p1, iv p2] [(.int p2), (.int (1 : Int32)), (.ref b4), (.ref b4), (.ref b1), (.ref b1)])) rfl rfl (hb hby d_177)
  rw [nr_1] at W17
  have O18 := O12.wr W17 g11
  have K19 : Keep h0 h17 [] := Keep.wr K13 W17 (Or.inr (Nat.le_trans z10 (Nat.le_of_eq g4.symm)))
  have v20 : Arv Z h17 b4 k4 .char (2 : Int32) [(.int p1), (.int p2)] o0 := Arv.set A16 q16 S16 N16 H16 G16 (own_fput (by simp) nr_1) W17 1 rfl (Nat.le_of_ble_eq_true rfl)
  have N21 := Fr.snoc X17 N15 g11
  have f23 := (((A1.ext E4).wr W9).wr W17)
  have f24 := ((((D1 (Or.inr (W 22 rfl)) (ty := .byte) (by decide) : FA38 Z h1 b1 o0).ext E4).other W9 (Or.inl (Nat.ne_of_lt (Nat.lt_of_lt_of_le A1.lt (Nat.le_of_eq g4.symm))))).other W17 (Or.inl (Nat.ne_of_lt (Nat.lt_of_lt_of_le A1.lt (Nat.le_of_eq g4.symm)))))
  have f25 := ((((D1 (Or.inr (W 21 rfl)) (ty := (.array .byte)) (by decide) : FA37 Z h1 b1 .null).ext E4).other W9 (Or.inl (Nat.ne_of_lt (Nat.lt_of_lt_of_le A1.lt (Nat.le_of_eq g4.symm))))).other W17 (Or.inl (Nat.ne_of_lt (Nat.lt_of_lt_of_le A1.lt (Nat.le_of_eq g4.symm)))))
  have z26 : h4.size ≤ h9.size := (Nat.le_of_eq W9.size.symm)
  have z27 : h4.size ≤ h17.size := (Nat.le_trans z26 (Nat.le_of_eq W17.size.symm))
  have g28 : n0 ≤ b1 := Nat.le_trans (Nat.le_trans (Nat.le_of_eq O0.1.symm) O0.2.1) (Nat.le_of_eq g1.symm)
  have z29 : h1.size ≤ h4.size := E4.1
  have z30 : h1.size ≤ h9.size := (Nat.le_trans z29 (Nat.le_of_eq W9.size.symm))
  have z31 : h1.size ≤ h17.size := (Nat.le_trans z30 (Nat.le_of_eq W17.size.symm))
  obtain ⟨_, T22, L22, X22, hQ22, st22⟩ := own_cp X17 hx hZ hown hml rfl (W 9 rfl) (W 10 rfl) (W 7 rfl) (W 11 rfl) (rm19_init l Z a0 hw b1 b4 k4 p1 p2 p3 h17 n0 O18 (v20) (S_2) (hc_3) (hc_4) (hc_5) (f23) (f24) (f25) ((Nat.lt_of_lt_of_le A4.lt z27)) (g28) ((Nat.lt_of_lt_of_le A1.lt z31))) e17 (hb hby d_178) 1 #[iv (2 : Int32), iv p1, iv p2] b1 [(.ref b4)] [(.ref b1)] pd_34
  obtain ⟨b22_0, k22_0, rfl, N22q, K22, gb22_0, F22_0, F22_1, F22_2, F22_3⟩ := hQ22
  have N32 := Fr.app N21 N22q
  have O33 := O18.keep K22 (allS g28 all0)
  have K34 : Keep h0 T22.heap [] := Keep.trans K19 K22 (allS (Or.inr (Nat.le_of_eq g1.symm)) all0)
  have f35 := (f23.keep K22)
  have z36 : h0.size ≤ h4.size := (Nat.le_trans z10 E4.1)
  have z37 : h0.size ≤ h9.size := (Nat.le_trans z36 (Nat.le_of_eq W9.size.symm))
  have z38 : h0.size ≤ h17.size := (Nat.le_trans z37 (Nat.le_of_eq W17.size.symm))
  refine ⟨T22, some (.ref b1), _, _, _, X22, by decide, by decide, nofun, ?_, fun fs hr => castTop (ef_184 m p1 p2) ?_⟩
  · show Q20_mk Z p1 p2 p3 h0 n0 _ T22.heap _
    exact ⟨b1, b22_0, k22_0, rfl, N32, K34, (Nat.le_of_eq g1.symm), (Nat.le_trans z38 gb22_0), f35, F22_3, F22_2, F22_0, F22_1⟩
  · show SS p e below s₁ m 0 #[iv (2 : Int32), iv p1, iv p2] [] _
    refine XS.iloadN X0.here hx rfl (hb hby d_0) rfl ?_
    refine XS.ifYes X0.here hx rfl (pc0 := 1) (pc' := 15) rfl (hb hby d_1) rfl ((if0 _ _).trans (feq (by decide : ¬ ((2 : Int32) = (0 : Int32)))).2) (by decide) (by decide) ?_
    refine XS.iloadN X0.here hx rfl (hb hby d_82) rfl ?_
    refine XS.iconst X0.here hx rfl (hb hby d_83) ?_
    refine XS.icmpYes X0.here hx rfl (pc0 := 17) (pc' := 35) rfl (hb hby d_84) rfl (feq (by decide : ¬ ((2 : Int32) = (1 : Int32)))).2 (by decide) (by decide) ?_
    refine st1 _ ?_
    refine XS.dup X1.here hx rfl (hb hby d_167) rfl rfl ?_
    refine XS.iconst X1.here hx rfl (hb hby d_168) ?_
    refine st4 _ ?_
    refine XS.dup X4.here hx rfl (hb hby d_170) rfl rfl ?_
    show SS p e below T4 m 43 #[iv (2 : Int32), iv p1, iv p2] [(.ref b4), (.ref b4), (.ref b1), (.ref b1)] _
    refine XS.iconst X4.here hx rfl (hb hby d_171) ?_
    refine XS.iloadN X4.here hx rfl (hb hby d_172) rfl ?_
    refine st9 _ ?_
    refine XS.dup X9.here hx rfl (hb hby d_174) rfl rfl ?_
    refine XS.iconst X9.here hx rfl (hb hby d_175) ?_
    refine XS.iloadN X9.here hx rfl (hb hby d_176) rfl ?_
    refine st17 _ ?_
    refine st22 _ ?_
    exact retOut X22 hx hret rfl (Or.inr (Or.inr (Or.inr (Or.inr ⟨rfl, rfl, rfl⟩)))) (hb hby d_183) hr
theorem rm0_0_2 (l : Launch) (Z : State) (a0 : Array Value) (hw : HW Z a0) (ws : List Jvm.Cond) (p1 : Int32) (p2 : Int32) (p3 : Int32) (p4 : Int32) (p5 : Int32) (c0 : Int32) (c1 : Int32) (d0 : Int32) (d1 : Int32) (o_COMPACT_STRINGS : Int32) (o_SIOOBE_FORMATTER : Value) (h0 : Heap) (n0 : Nat) (O0 : Old Z n0 h0) (S_o_COMPACT_STRINGS : SA48 Z Z.heap (.int o_COMPACT_STRINGS)) (S_o_SIOOBE_FORMATTER : SA49 Z Z.heap o_SIOOBE_FORMATTER) (nz_o_COMPACT_STRINGS : ¬ (o_COMPACT_STRINGS = (0 : Int32))) (ir_o_SIOOBE_FORMATTER : o_SIOOBE_FORMATTER.isRef = true) (hpl : ((p1 &&& (2147483647 : Int32)) % (3 : Int32)) = (0 : Int32)) (hml_ : ((((p1.toUInt32 >>> ((8 : Int32) &&& 31).toUInt32).toInt32) &&& (2147483647 : Int32)) % (3 : Int32)) = (2 : Int32)) (h_c0 : ((p2 &&& (255 : Int32)).toUInt32.toUInt16.toUInt32.toInt32) = c0) (r_c0 : ¬ ((255 : Int32) < c0)) (n_c0 : ¬ (c0 < (0 : Int32))) (i_c0 : (c0.toUInt32.toUInt16.toUInt32.toInt32) = c0) (b_c0 : ((c0.toInt8.toInt32) &&& (255 : Int32)) = c0) (h_c1 : ((p3 &&& (255 : Int32)).toUInt32.toUInt16.toUInt32.toInt32) = c1) (r_c1 : ¬ ((255 : Int32) < c1)) (n_c1 : ¬ (c1 < (0 : Int32))) (i_c1 : (c1.toUInt32.toUInt16.toUInt32.toInt32) = c1) (b_c1 : ((c1.toInt8.toInt32) &&& (255 : Int32)) = c1) (h_d0 : ((p4 &&& (255 : Int32)).toUInt32.toUInt16.toUInt32.toInt32) = d0) (r_d0 : ¬ ((255 : Int32) < d0)) (n_d0 : ¬ (d0 < (0 : Int32))) (i_d0 : (d0.toUInt32.toUInt16.toUInt32.toInt32) = d0) (b_d0 : ((d0.toInt8.toInt32) &&& (255 : Int32)) = d0) (h_d1 : ((p5 &&& (255 : Int32)).toUInt32.toUInt16.toUInt32.toInt32) = d1) (r_d1 : ¬ ((255 : Int32) < d1)) (n_d1 : ¬ (d1 < (0 : Int32))) (i_d1 : (d1.toUInt32.toUInt16.toUInt32.toInt32) = d1) (b_d1 : ((d1.toInt8.toInt32) &&& (255 : Int32)) = d1) :
    MetH l Z ws x code maxLocals ret room_1 #[(.int p1), (.int p2), (.int p3), (.int p4), (.int p5)] h0 consts_1 [] (fun v _ L => Q0 n0 v L) := by
  have W := @own_W _ _ hw
  refine own_mkH (plainFor_of_name pn_37) ?_
  intro p e s m below meth c s₁ hZ hx hby hml hown hnm hret hlk X0 e0 H0 hsf
  have N0 := Fr.nil n0
  have C0 := CHr.refl H0
  have X1 := (show Stand p l e _ (s.setVm s.vm) m _ below meth c _ _ _ _ from X0)
  obtain ⟨_, _, ⟨T2, L2, k2, n2⟩, -, Y2, hs2, hg2, ⟨Lc2, hQ2, l2, y2, z2, c2⟩, st2⟩ := callSS (s := s.setVm s.vm) X1 hx (y := MY2) hown (mvT hZ (W 1 rfl)) (mvT hZ (W 2 rfl)) (mvT hZ (W 3 rfl)) (mvT hZ (W 4 rfl)) (by decide) (own_backH (s := s) (vm0 := s.vm) (W := 0) (rm3_mk l Z a0 hw c0 c1 h0 n0 O0 ) hZ (W 4 rfl) (W 3 rfl) (by decide) (by decide) (own_ew_21 hw) H0 own_sf0) (g := (mkF m 58 #[iv p1, iv p2, iv p3, iv p4, iv p5, .val o0, iv (2 : Int32), iv c0, iv c1, iv d0, iv d1, .unset, .unset, .unset] [(.int c1), (.int c0), o0])) rfl (by rw [hml]; rfl) (argsL := [o0, (.int c0), (.int c1)]) (rest := []) (lenOf pd_38 rfl) rfl (by show 2 * 0 + _ ≤ _; exact Nat.le_of_eq rfl) (hb hby at_58) (fun _ _ => ⟨rfl, e0, (by decide : 0 + 6 ≤ _), (by decide : 0 + 12 ≤ _)⟩)
  dsimp only [Pt.U, Pt.locs, Pt.cells, Pt.slots] at Y2 l2 y2 z2 st2 hQ2 hs2 hg2 c2
  subst l2 y2 z2
  obtain ⟨X2, hS2, hZ2, hown2⟩ := rebS (s := s) (vm0 := s.vm) ((State.WarmedH.refl s).since 0) (Nat.zero_le _) Y2 hs2 hg2 hZ hown
  obtain ⟨b2_0, b2_1, k2_0, rfl, N2q, K2, gb2_0, F2_0, F2_1, F2_2, F2_3⟩ := hQ2
  have N3 := Fr.app N0 N2q
  have C4 := CHr.trans C0 c2
  have O5 := O0.keep K2 all0
  have K6 : Keep h0 T2.heap [] := Keep.trans (Keep.refl h0 []) K2 all0
  obtain ⟨_, T7, L7, X7, hQ7, st7⟩ := own_cs X2 hx hZ2 hown2 hml (W 1 rfl) (W 2 rfl) (W 3 rfl) (W 4 rfl) (rm20_mk l Z a0 hw d0 d1 o_COMPACT_STRINGS T2.heap n0 O5 (i_d0) (i_d1) (S_o_COMPACT_STRINGS) (nz_o_COMPACT_STRINGS) (r_d0) (r_d1)) rfl (hb hby at_69) 0 #[iv p1, iv p2, iv p3, iv p4, iv p5, .val o0, iv (2 : Int32), iv c0, iv c1, iv d0, iv d1, rv b2_0, .unset, .unset] [(.int (2 : Int32)), (.int d0), (.int d1)] [] pd_38
  obtain ⟨b7_0, b7_1, k7_0, rfl, N7q, K7, gb7_0, gb7_1, F7_0, F7_1, F7_2, F7_3, F7_4⟩ := hQ7
  have N8 := Fr.app N3 N7q
  have c9 := CHr.keep K7 sf0 c2.1
  have C10 := CHr.trans C4 c9
  have O11 := O5.keep K7 all0
  have K12 : Keep h0 T7.heap [] := Keep.trans K6 K7 all0
  obtain ⟨T13, h13, X13, e13, E13, A13, D13, -, st13⟩ := newO X7 hx hZ2 hown2 (W 27 rfl) (W 28 rfl) (W 29 rfl) rfl (g := (mkF m 74 #[iv p1, iv p2, iv p3, iv p4, iv p5, .val o0, iv (2 : Int32), iv c0, iv c1, iv d0, iv d1, rv b2_0, rv b7_0, .unset] [])) rfl (hb hby at_74) (by decide) (by decide)
  obtain ⟨b13, g13⟩ : ∃ z, z = T7.heap.size := ⟨_, rfl⟩
  rw [← g13] at A13 D13 st13
  have c14 := CHr.ext E13 c9.1
  have C15 := CHr.trans C10 c14
  have O16 := O11.ext E13
  have K17 : Keep h0 h13 [] := Keep.ext K12 E13
  have z19 : h0.size ≤ T2.heap.size := K2.1
  have z20 : h0.size ≤ T7.heap.size := (Nat.le_trans z19 K7.1)
  have g21 : n0 ≤ b13 := Nat.le_trans (Nat.le_trans (Nat.le_trans (Nat.le_of_eq O0.1.symm) O0.2.1) z20) (Nat.le_of_eq g13.symm)
  obtain ⟨_, T18, L18, X18, hQ18, st18⟩ := own_cp X13 hx hZ2 hown2 hml rfl (W 30 rfl) (W 31 rfl) (W 29 rfl) (W 32 rfl) (rm5_init l Z a0 hw b13 b2_0 b7_0 h13 n0 O16 (A13) ((D13 (Or.inr (W 40 rfl)) (ty := (.object "java/lang/String")) (by decide) : FA39 Z h13 b13 .null)) (g21) ((D13 (Or.inr (W 42 rfl)) (ty := (.object "java/lang/String")) (by decide) : FA40 Z h13 b13 .null))) e13 (hb hby at_82) 1 #[iv p1, iv p2, iv p3, iv p4, iv p5, .val o0, iv (2 : Int32), iv c0, iv c1, iv d0, iv d1, rv b2_0, rv b7_0, .unset] b13 [(.ref b2_0), (.ref b7_0)] [(.ref b13)] pd_56
  obtain ⟨rfl, N18q, K18, F18_0, F18_1⟩ := hQ18
  have N22 := Fr.app N8 N18q
  have s23 := Safe.exa (EL := consts_1) hZ2.alike A13 (by decide) (by decide)
  have c24 := CHr.keep K18 (sfS s23 sf0) c14.1
  have C25 := CHr.trans C15 c24
  have O26 := O16.keep K18 (allS g21 all0)
  have K27 : Keep h0 T18.heap [] := Keep.trans K17 K18 (allS (Or.inr (Nat.le_trans z20 (Nat.le_of_eq g13.symm))) all0)
  have f29 := (((F2_0.keep K7).ext E13).keep K18)
  have z30 : T2.heap.size ≤ T7.heap.size := K7.1
  have f31 := (((F2_1.keep K7 nin0).ext E13).keep K18 (ninS (Nat.ne_of_lt (Nat.lt_of_lt_of_le (Nat.lt_of_lt_of_le F2_0.lt z30) (Nat.le_of_eq g13.symm))) nin0))
  have f32 := (((F2_3.keep K7 nin0).ext E13).keep K18 (ninS (Nat.ne_of_lt (Nat.lt_of_lt_of_le (Nat.lt_of_lt_of_le F2_3.lt z30) (Nat.le_of_eq g13.symm))) nin0))
  have f33 := (A13.keep K18)
  obtain ⟨_, T28, L28, X28, hQ28, st28⟩ := own_cv X18 hx hZ2 hown2 hml (W 43 rfl) (W 44 rfl) (notFace_of_selects (W 46 rfl)) (W 46 rfl) (W 45 rfl) (W 29 rfl) (W 47 rfl) (rm7_toString l Z a0 hw b13 b2_0 b2_1 k2_0 b7_0 T18.heap n0 O26 (F18_0) (f29) (f31) (f32) (F18_1)) rfl f33 (hb hby at_85) 0 #[iv p1, iv p2, iv p3, iv p4, iv p5, .val o0, iv (2 : Int32), iv c0, iv c1, iv d0, iv d1, rv b2_0, rv b7_0, .unset] [] [] pd_73
  obtain ⟨rfl, N28q, K28⟩ := hQ28
  have N34 := Fr.app N22 N28q
  have f36 := ((F7_0.ext E13).keep K18)
  obtain ⟨_, T35, L35, X35, hQ35, st35⟩ := own_cv X28 hx hZ2 hown2 hml (W 53 rfl) (W 54 rfl) (notFace_of_selects (W 56 rfl)) (W 56 rfl) (W 55 rfl) (W 7 rfl) (W 57 rfl) (rm8_equals l Z a0 hw b7_0 T18.heap n0 O26 ) K28 f36 (hb hby at_106) 0 #[iv p1, iv p2, iv p3, iv p4, iv p5, .val o0, iv (2 : Int32), iv c0, iv c1, iv d0, iv d1, rv b2_0, rv b7_0, rv b7_0] [(.ref b7_0)] [] pd_80
  obtain ⟨rfl, N35q, K35⟩ := hQ35
  have N37 := Fr.app N34 N35q
  have z38 : T2.heap.size ≤ h13.size := (Nat.le_trans z30 E13.1)
  have z39 : T2.heap.size ≤ T18.heap.size := (Nat.le_trans z38 K18.1)
  refine ⟨T35, some (.int (1 : Int32)), _, _, _, T2.vm, _, X35, hS2, (by rw [K35]; exact (Nat.le_trans (Nat.le_refl _) z39)), by decide, by decide, nofun, ?_, own_che K35 (CHr.trans C25 (CHv.at (s := s) X35 hZ2 (own_ew_21 hw) c24.1)), fun fs hr => castTop (ef_81 m p1 p2 p3 p4 p5) ?_⟩
  · exact ⟨rfl, N37⟩
  · show SS p e below s₁ m 0 #[iv p1, iv p2, iv p3, iv p4, iv p5, .unset, .unset, .unset, .unset, .unset, .unset, .unset, .unset, .unset] [] _
    refine XS.iloadN X1.here hx rfl (hb hby at_0) rfl ?_
    refine X1.ldcInt hx hown (mvT hZ (W 0 rfl)) (g := (mkF m 1 #[iv p1, iv p2, iv p3, iv p4, iv p5, .unset, .unset, .unset, .unset, .unset, .unset, .unset, .unset, .unset] [(.int p1)])) rfl (hb hby at_1) _ ?_
    show SS p e below s₁ m 3 #[iv p1, iv p2, iv p3, iv p4, iv p5, .unset, .unset, .unset, .unset, .unset, .unset, .unset, .unset, .unset] [(.int (2147483647 : Int32)), (.int p1)] _
    refine XS.iand X1.here hx rfl (hb hby at_3) rfl ?_
    show SS p e below s₁ m 4 #[iv p1, iv p2, iv p3, iv p4, iv p5, .unset, .unset, .unset, .unset, .unset, .unset, .unset, .unset, .unset] [(.int (p1 &&& (2147483647 : Int32)))] _
    refine XS.iconst X1.here hx rfl (hb hby at_4) ?_
    refine iremM (g := (mkF m 5 #[iv p1, iv p2, iv p3, iv p4, iv p5, .unset, .unset, .unset, .unset, .unset, .unset, .unset, .unset, .unset] [(.int (3 : Int32)), (.int (p1 &&& (2147483647 : Int32)))])) X1 hx rfl (hb hby at_5) rfl (by decide : ¬ ((3 : Int32) = (0 : Int32))) ?_
    rw [hpl]
    show SS p e below s₁ m 6 #[iv p1, iv p2, iv p3, iv p4, iv p5, .unset, .unset, .unset, .unset, .unset, .unset, .unset, .unset, .unset] [o0] _
    refine XS.istore X1.here hx rfl (hb hby at_6) rfl (l' := #[iv p1, iv p2, iv p3, iv p4, iv p5, .val o0, .unset, .unset, .unset, .unset, .unset, .unset, .unset, .unset]) rfl ?_
    refine XS.iloadN X1.here hx rfl (hb hby at_8) rfl ?_
    refine XS.bipush X1.here hx rfl (hb hby at_9) ?_
    show SS p e below s₁ m 11 #[iv p1, iv p2, iv p3, iv p4, iv p5, .val o0, .unset, .unset, .unset, .unset, .unset, .unset, .unset, .unset] [(.int (8 : Int32)), (.int p1)] _
    refine XS.iushr X1.here hx rfl (hb hby at_11) rfl ?_
    show SS p e below s₁ m 12 #[iv p1, iv p2, iv p3, iv p4, iv p5, .val o0, .unset, .unset, .unset, .unset, .unset, .unset, .unset, .unset] [(.int ((p1.toUInt32 >>> ((8 : Int32) &&& 31).toUInt32).toInt32))] _
    refine X1.ldcInt hx hown (mvT hZ (W 0 rfl)) (g := (mkF m 12 #[iv p1, iv p2, iv p3, iv p4, iv p5, .val o0, .unset, .unset, .unset, .unset, .unset, .unset, .unset, .unset] [(.int ((p1.toUInt32 >>> ((8 : Int32) &&& 31).toUInt32).toInt32))])) rfl (hb hby at_12) _ ?_
    refine XS.iand X1.here hx rfl (hb hby at_14) rfl ?_
    show SS p e below s₁ m 15 #[iv p1, iv p2, iv p3, iv p4, iv p5, .val o0, .unset, .unset, .unset, .unset, .unset, .unset, .unset, .unset] [(.int (((p1.toUInt32 >>> ((8 : Int32) &&& 31).toUInt32).toInt32) &&& (2147483647 : Int32)))] _
    refine XS.iconst X1.here hx rfl (hb hby at_15) ?_
    refine iremM (g := (mkF m 16 #[iv p1, iv p2, iv p3, iv p4, iv p5, .val o0, .unset, .unset, .unset, .unset, .unset, .unset, .unset, .unset] [(.int (3 : Int32)), (.int (((p1.toUInt32 >>> ((8 : Int32) &&& 31).toUInt32).toInt32) &&& (2147483647 : Int32)))])) X1 hx rfl (hb hby at_16) rfl (by decide : ¬ ((3 : Int32) = (0 : Int32))) ?_
    rw [hml_]
    show SS p e below s₁ m 17 #[iv p1, iv p2, iv p3, iv p4, iv p5, .val o0, .unset, .unset, .unset, .unset, .unset, .unset, .unset, .unset] [(.int (2 : Int32))] _
    refine XS.istore X1.here hx rfl (hb hby at_17) rfl (l' := #[iv p1, iv p2, iv p3, iv p4, iv p5, .val o0, iv (2 : Int32), .unset, .unset, .unset, .unset, .unset, .unset, .unset]) rfl ?_
    refine XS.iloadN X1.here hx rfl (hb hby at_19) rfl ?_
    refine XS.sipush X1.here hx rfl (hb hby at_20) ?_
    show SS p e below s₁ m 23 #[iv p1, iv p2, iv p3, iv p4, iv p5, .val o0, iv (2 : Int32), .unset, .unset, .unset, .unset, .unset, .unset, .unset] [(.int (255 : Int32)), (.int p2)] _
    refine XS.iand X1.here hx rfl (hb hby at_23) rfl ?_
    show SS p e below s₁ m 24 #[iv p1, iv p2, iv p3, iv p4, iv p5, .val o0, iv (2 : Int32), .unset, .unset, .unset, .unset, .unset, .unset, .unset] [(.int (p2 &&& (255 : Int32)))] _
    refine XS.i2c X1.here hx rfl (hb hby at_24) rfl ?_
    rw [h_c0]
    show SS p e below s₁ m 25 #[iv p1, iv p2, iv p3, iv p4, iv p5, .val o0, iv (2 : Int32), .unset, .unset, .unset, .unset, .unset, .unset, .unset] [(.int c0)] _
    refine XS.istore X1.here hx rfl (hb hby at_25) rfl (l' := #[iv p1, iv p2, iv p3, iv p4, iv p5, .val o0, iv (2 : Int32), iv c0, .unset, .unset, .unset, .unset, .unset, .unset]) rfl ?_
    refine XS.iloadN X1.here hx rfl (hb hby at_27) rfl ?_
    refine XS.sipush X1.here hx rfl (hb hby at_28) ?_
    show SS p e below s₁ m 31 #[iv p1, iv p2, iv p3, iv p4, iv p5, .val o0, iv (2 : Int32), iv c0, .unset, .unset, .unset, .unset, .unset, .unset] [(.int (255 : Int32)), (.int p3)] _
    refine XS.iand X1.here hx rfl (hb hby at_31) rfl ?_
    show SS p e below s₁ m 32 #[iv p1, iv p2, iv p3, iv p4, iv p5, .val o0, iv (2 : Int32), iv c0, .unset, .unset, .unset, .unset, .unset, .unset] [(.int (p3 &&& (255 : Int32)))] _
    refine XS.i2c X1.here hx rfl (hb hby at_32) rfl ?_
    rw [h_c1]
    show SS p e below s₁ m 33 #[iv p1, iv p2, iv p3, iv p4, iv p5, .val o0, iv (2 : Int32), iv c0, .unset, .unset, .unset, .unset, .unset, .unset] [(.int c1)] _
    refine XS.istore X1.here hx rfl (hb hby at_33) rfl (l' := #[iv p1, iv p2, iv p3, iv p4, iv p5, .val o0, iv (2 : Int32), iv c0, iv c1, .unset, .unset, .unset, .unset, .unset]) rfl ?_
    refine XS.iloadN X1.here hx rfl (hb hby at_35) rfl ?_
    refine XS.sipush X1.here hx rfl (hb hby at_36) ?_
    show SS p e below s₁ m 39 #[iv p1, iv p2, iv p3, iv p4, iv p5, .val o0, iv (2 : Int32), iv c0, iv c1, .unset, .unset, .unset, .unset, .unset] [(.int (255 : Int32)), (.int p4)] _
    refine XS.iand X1.here hx rfl (hb hby at_39) rfl ?_
    show SS p e below s₁ m 40 #[iv p1, iv p2, iv p3, iv p4, iv p5, .val o0, iv (2 : Int32), iv c0, iv c1, .unset, .unset, .unset, .unset, .unset] [(.int (p4 &&& (255 : Int32)))] _
    refine XS.i2c X1.here hx rfl (hb hby at_40) rfl ?_
    rw [h_d0]
    show SS p e below s₁ m 41 #[iv p1, iv p2, iv p3, iv p4, iv p5, .val o0, iv (2 : Int32), iv c0, iv c1, .unset, .unset, .unset, .unset, .unset] [(.int d0)] _
    refine XS.istore X1.here hx rfl (hb hby at_41) rfl (l' := #[iv p1, iv p2, iv p3, iv p4, iv p5, .val o0, iv (2 : Int32), iv c0, iv c1, iv d0, .unset, .unset, .unset, .unset]) rfl ?_
    refine XS.iload X1.here hx rfl (hb hby at_43) rfl ?_
    refine XS.sipush X1.here hx rfl (hb hby at_45) ?_
    show SS p e below s₁ m 48 #[iv p1, iv p2, iv p3, iv p4, iv p5, .val o0, iv (2 : Int32), iv c0, iv c1, iv d0, .unset, .unset, .unset, .unset] [(.int (255 : Int32)), (.int p5)] _
    refine XS.iand X1.here hx rfl (hb hby at_48) rfl ?_
    show SS p e below s₁ m 49 #[iv p1, iv p2, iv p3, iv p4, iv p5, .val o0, iv (2 : Int32), iv c0, iv c1, iv d0, .unset, .unset, .unset, .unset] [(.int (p5 &&& (255 : Int32)))] _
    refine XS.i2c X1.here hx rfl (hb hby at_49) rfl ?_
    rw [h_d1]
    show SS p e below s₁ m 50 #[iv p1, iv p2, iv p3, iv p4, iv p5, .val o0, iv (2 : Int32), iv c0, iv c1, iv d0, .unset, .unset, .unset, .unset] [(.int d1)] _
    refine XS.istore X1.here hx rfl (hb hby at_50) rfl (l' := #[iv p1, iv p2, iv p3, iv p4, iv p5, .val o0, iv (2 : Int32), iv c0, iv c1, iv d0, iv d1, .unset, .unset, .unset]) rfl ?_
    refine XS.iload X1.here hx rfl (hb hby at_52) rfl ?_
    refine XS.iload X1.here hx rfl (hb hby at_54) rfl ?_
    refine XS.iload X1.here hx rfl (hb hby at_56) rfl ?_
    refine st2.trans ?_
    refine XS.astore X2.here hx rfl (hb hby at_61) rfl rfl (l' := #[iv p1, iv p2, iv p3, iv p4, iv p5, .val o0, iv (2 : Int32), iv c0, iv c1, iv d0, iv d1, rv b2_0, .unset, .unset]) rfl ?_
    refine XS.iload X2.here hx rfl (hb hby at_63) rfl ?_
    refine XS.iload X2.here hx rfl (hb hby at_65) rfl ?_
    refine XS.iload X2.here hx rfl (hb hby at_67) rfl ?_
    refine st7 _ ?_
    show SS p e below T7 m 72 #[iv p1, iv p2, iv p3, iv p4, iv p5, .val o0, iv (2 : Int32), iv c0, iv c1, iv d0, iv d1, rv b2_0, .unset, .unset] [(.ref b7_0)] _
    refine XS.astore X7.here hx rfl (hb hby at_72) rfl rfl (l' := #[iv p1, iv p2, iv p3, iv p4, iv p5, .val o0, iv (2 : Int32), iv c0, iv c1, iv d0, iv d1, rv b2_0, rv b7_0, .unset]) rfl ?_
    refine st13 _ ?_
    refine XS.dup X13.here hx rfl (hb hby at_77) rfl rfl ?_
    refine XS.aload X13.here hx rfl (hb hby at_78) rfl rfl ?_
    refine XS.aload X13.here hx rfl (hb hby at_80) rfl rfl ?_
    refine st18 _ ?_
    refine st28 _ ?_
    refine XS.astore X28.here hx rfl (hb hby at_88) rfl rfl (l' := #[iv p1, iv p2, iv p3, iv p4, iv p5, .val o0, iv (2 : Int32), iv c0, iv c1, iv d0, iv d1, rv b2_0, rv b7_0, rv b7_0]) rfl ?_
    refine XS.aload X28.here hx rfl (hb hby at_90) rfl rfl ?_
    refine XS.ifnonnullYes X28.here hx rfl (pc0 := 92) (pc' := 97) rfl (hb hby at_92) rfl (by decide) (by decide) ?_
    show SS p e below T28 m 97 #[iv p1, iv p2, iv p3, iv p4, iv p5, .val o0, iv (2 : Int32), iv c0, iv c1, iv d0, iv d1, rv b2_0, rv b7_0, rv b7_0] [] _
    refine XS.iload X28.here hx rfl (hb hby at_97) rfl ?_
    refine XS.ifNo X28.here hx rfl (hb hby at_99) rfl ((if0 _ _).trans (teq (by decide : (0 : Int32) = (0 : Int32))).2) ?_
    refine XS.aload X28.here hx rfl (hb hby at_102) rfl rfl ?_
    refine XS.aload X28.here hx rfl (hb hby at_104) rfl rfl ?_
    refine st35 _ ?_
    exact retN X35 hx (t := .boolean) hret (by simp) (hb hby at_109) hr
theorem d_185 : decode jdk_42_method_55_code 12 = .ok (.iconst 0, 1) := by decide +kernel
def Q21_isEmpty (Z : State) (a1 : Addr) (a2 : Addr) (k3 : ClassId) (p4 : Int32) (h0 : Heap) (n0 : Nat) (v : Option Value) (h : Heap) (L : List Loc) : Prop := v = some o0 ∧ Fr n0 L ∧ h = h0
theorem rm21_isEmpty (l : Launch) (Z : State) (a0 : Array Value) (hw : HW Z a0) (a1 : Addr) (a2 : Addr) (k3 : ClassId) (p4 : Int32) (h0 : Heap) (n0 : Nat) (O0 : Old Z n0 h0) (F_0 : FA37 Z h0 a1 (.ref a2)) (F_1 : Arv Z h0 a2 k3 .byte (1 : Int32) [(.int p4)] o0) :
    Met l Z [] MY5 jdk_42_method_55_code 1 (some .boolean) ({ frames := 0, cells := 0, slots := 0, locals := 0 } : Room) #[(.ref a1)] h0 (Q21_isEmpty Z a1 a2 k3 p4 h0 n0) := by
  have W := @own_W _ _ hw
  refine own_mk (plainFor_of_name pn_30) ?_
  intro p e s m below meth c s₁ hZ hx hby hml hown hnm hret hlk X0 e0
  have N0 := Fr.nil n0
  obtain ⟨T1, X1, e1, st1⟩ := getF X0 hx hZ hown (host := "") (Or.inl (W 25 rfl)) Via.refl e0 F_0 (g := (mkF m 1 #[rv a1] [(.ref a1)])) rfl rfl (hb hby d_61)
  obtain ⟨c2, A2, q2, S2, N2, H2, G2⟩ := id F_1
  refine ⟨T1, some o0, _, _, _, X1, by decide, by decide, nofun, ?_, fun fs hr => castTop (ef_44 m a1) ?_⟩
  · show Q21_isEmpty Z a1 a2 k3 p4 h0 n0 _ T1.heap _
    rw [e1]
    exact ⟨rfl, N0, rfl⟩
  · show SS p e below s₁ m 0 #[rv a1] [] _
    refine XS.aloadN X0.here hx rfl (hb hby d_60) rfl rfl ?_
    refine st1 _ ?_
    refine X1.arraylength hx (by rw [e1]; exact A2.1) (State.isArrayOf_alike hZ.alike A2.2.1) (g := (mkF m 4 #[rv a1] [(.ref a2)])) rfl rfl (hb hby d_62) _ ?_
    rw [len_of S2 N2]
    refine XS.ifYes X1.here hx rfl (pc0 := 5) (pc' := 12) rfl (hb hby d_63) rfl ((if0 _ _).trans (feq (by decide : ¬ ((1 : Int32) = (0 : Int32)))).2) (by decide) (by decide) ?_
    refine XS.iconst X1.here hx rfl (hb hby d_185) ?_
    exact retN X1 hx (t := .boolean) hret (by simp) (hb hby d_66) hr
theorem d_186 : decode prog_7_method_2_code 17 = .ok (.new 22, 3) := by decide +kernel
theorem d_187 : decode prog_7_method_2_code 20 = .ok (.dup, 1) := by decide +kernel
theorem d_188 : decode prog_7_method_2_code 21 = .ok (.invokespecial 24, 3) := by decide +kernel
theorem d_189 : decode jdk_67_method_1_code 0 = .ok (.aload_n 0, 1) := by decide +kernel
theorem d_190 : decode jdk_67_method_1_code 1 = .ok (.bipush 16, 2) := by decide +kernel
theorem d_191 : decode jdk_67_method_1_code 3 = .ok (.invokespecial 1, 3) := by decide +kernel
theorem d_192 : decode jdk_68_method_2_code 0 = .ok (.aload_n 0, 1) := by decide +kernel
theorem d_193 : decode jdk_68_method_2_code 1 = .ok (.invokespecial 3, 3) := by decide +kernel
theorem d_194 : decode jdk_68_method_2_code 4 = .ok (.getstatic 18, 3) := by decide +kernel
theorem d_195 : decode jdk_68_method_2_code 7 = .ok (.ifCond .eq 18, 3) := by decide +kernel
theorem d_196 : decode jdk_68_method_2_code 10 = .ok (.aload_n 0, 1) := by decide +kernel
theorem d_197 : decode jdk_68_method_2_code 11 = .ok (.iload_n 1, 1) := by decide +kernel
theorem d_198 : decode jdk_68_method_2_code 12 = .ok (.newarray .byte, 2) := by decide +kernel
theorem d_199 : decode jdk_68_method_2_code 14 = .ok (.putfield 15, 3) := by decide +kernel
theorem d_200 : decode jdk_68_method_2_code 17 = .ok (.aload_n 0, 1) := by decide +kernel
theorem d_201 : decode jdk_68_method_2_code 18 = .ok (.iconst 0, 1) := by decide +kernel
theorem d_202 : decode jdk_68_method_2_code 19 = .ok (.putfield 22, 3) := by decide +kernel
theorem d_203 : decode jdk_68_method_2_code 22 = .ok (.goto 16, 3) := by decide +kernel
theorem d_204 : decode jdk_68_method_2_code 38 = .ok (.return_, 1) := by decide +kernel
theorem ef_205 (m : MethodId) (a1 : Addr) : entryFrame m #[(.ref a1), (.int (16 : Int32))] 2 = mkF m 0 #[rv a1, iv (16 : Int32)] [] := by first | (simp [entryFrame, mkF, argsToLocals, Value.category]; done) | rfl
theorem pn_206 : plainName "java/lang/AbstractStringBuilder" = true := by first | (simp [plainName, overriddenIn]; done) | decide +kernel
def Q22_init (Z : State) (a1 : Addr) (p2 : Int32) (h0 : Heap) (n0 : Nat) (v : Option Value) (h : Heap) (L : List Loc) : Prop := ∃ (b3 : Addr) (k3 : ClassId), v = none ∧ Fr n0 L ∧ Keep h0 h [a1] ∧ h0.size ≤ b3 ∧ Arv Z h b3 k3 .byte (16 : Int32) [o0, o0, o0, o0, o0, o0, o0, o0, o0, o0, o0, o0, o0, o0, o0, o0] o0 ∧ EA46 Z h b3 ∧ FA41 Z h a1 (.ref b3) ∧ FA42 Z h a1 o0 ∧ FA43 Z h a1 o0
theorem rm22_init (l : Launch) (Z : State) (a0 : Array Value) (hw : HW Z a0) (a1 : Addr) (p2 : Int32) (h0 : Heap) (n0 : Nat) (O0 : Old Z n0 h0) (S_0 : SA48 Z Z.heap (.int p2)) (hc_1 : ¬ (p2 = (0 : Int32))) (F_2 : EA47 Z h0 a1) (F_3 : FA41 Z h0 a1 .null) (g_4 : n0 ≤ a1) (F_5 : FA42 Z h0 a1 o0) (F_6 : FA43 Z h0 a1 o0) (lt_7 : a1 < h0.size) :
    Met l Z [] MY11 jdk_68_method_2_code 2 none ({ frames := 1, cells := 1, slots := 16, locals := 12 } : Room) #[(.ref a1), (.int (16 : Int32))] h0 (Q22_init Z a1 p2 h0 n0) := by
  have W := @own_W _ _ hw
  refine own_mk (plainFor_of_name pn_206) ?_
  intro p e s m below meth c s₁ hZ hx hby hml hown hnm hret hlk X0 e0
  have N0 := Fr.nil n0
  obtain ⟨T1, X1, e1, st1⟩ := initO X0 hx hZ hown (W 81 rfl) (W 17 rfl) (W 18 rfl) e0 (g := (mkF m 1 #[rv a1, iv (16 : Int32)] [(.ref a1)])) rfl (by rw [hml]; rfl) rfl (hb hby d_193) (by decide) (W := 0) (by show 2 * 0 + _ ≤ _; exact Nat.le_of_eq rfl) (by decide)
  obtain ⟨T2, X2, e2, st2⟩ := getS2 X1 hx hZ hown (host := "") (Or.inl (W 82 rfl)) Via.refl e1 (S_0.ext O0.2) (g := (mkF m 4 #[rv a1, iv (16 : Int32)] [])) rfl (hb hby d_194)
  obtain ⟨T3, h3, k3, X3, e3, E3, A3, B3, st3⟩ := newPE X2 hx hZ (W 20 rfl) e2 (g := (mkF m 12 #[rv a1, iv (16 : Int32)] [(.int (16 : Int32)), (.ref a1)])) rfl (hb hby d_198) rfl (by decide) (cap := 16) (by decide) (by decide) (by decide) (by decide) (ad := "[B") rfl
  obtain ⟨b3, g3⟩ : ∃ z, z = h0.size := ⟨_, rfl⟩
  rw [← g3] at A3 B3 st3
  have O4 := O0.ext E3
  have K5 : Keep h0 h3 [a1] := Keep.ext (Keep.refl h0 [a1]) E3
  have v6 : Arv Z h3 b3 k3 .byte (16 : Int32) [o0, o0, o0, o0, o0, o0, o0, o0, o0, o0, o0, o0, o0, o0, o0, o0] o0 := (Arv.new A3 (by decide)).pad (pad_rep [] o0 16)
  have f8 := (F_3.ext E3)
  have f9 := (F_2.ext E3)
  obtain ⟨T7, h7, X7, e7, W7, st7⟩ := putF X3 hx hZ hown (host := "") (Or.inl (W 83 rfl)) Via.refl e3 f8 f9 (Or.inl (W 84 rfl)) (W 70 rfl) (ty := (.array .byte)) (by decide) rfl rfl (g := (mkF m 14 #[rv a1, iv (16 : Int32)] [(.ref b3), (.ref a1)])) rfl rfl (hb hby d_199)
  have O10 := O4.wr W7 g_4
  have K11 : Keep h0 h7 [a1] := Keep.wr K5 W7 (Or.inl (List.mem_of_getElem? (i := 0) rfl))
  have f12 : FA41 Z h7 a1 (.ref b3) := (f8.same W7)
  have N13 := Fr.snoc X7 N0 g_4
  have f15 := ((F_5.ext E3).other W7 (Or.inr (slot_ne (Or.inl (W 86 rfl)) (Or.inl (W 84 rfl)) (by decide) (t := .byte) (t' := (.array .byte)) (by decide) (by decide))))
  have f16 := (f9.wr W7)
  obtain ⟨T14, h14, X14, e14, W14, st14⟩ := putFN X7 hx hZ hown (W 85 rfl) Via.refl e7 f15 f16 (Or.inl (W 86 rfl)) (W 70 rfl) (ty := .byte) (v' := o0) (by decide) rfl rfl (g := (mkF m 19 #[rv a1, iv (16 : Int32)] [o0, (.ref a1)])) rfl rfl (hb hby d_202)
  have O17 := O10.wr W14 g_4
  have K18 : Keep h0 h14 [a1] := Keep.wr K11 W14 (Or.inl (List.mem_of_getElem? (i := 0) rfl))
  have f19 : FA42 Z h14 a1 o0 := (f15.same W14)
  have N20 := Fr.snoc X14 N13 g_4
  have f21 := ((v6.other W7 (Ne.symm (Nat.ne_of_lt (Nat.lt_of_lt_of_le lt_7 (Nat.le_of_eq g3.symm))))).other W14 (Ne.symm (Nat.ne_of_lt (Nat.lt_of_lt_of_le lt_7 (Nat.le_of_eq g3.symm)))))
  have f22 := ((B3.wr W7).wr W14)
  have f23 := (f12.other W14 (Or.inr (slot_ne (Or.inl (W 84 rfl)) (Or.inl (W 86 rfl)) (by decide) (t := (.array .byte)) (t' := .byte) (by decide) (by decide))))
  have f24 := (((F_6.ext E3).other W7 (Or.inr (slot_ne (Or.inl (W 108 rfl)) (Or.inl (W 84 rfl)) (by decide) (t := .int) (t' := (.array .byte)) (by decide) (by decide)))).other W14 (Or.inr (slot_ne (Or.inl (W 108 rfl)) (Or.inl (W 86 rfl)) (by decide) (t := .int) (t' := .byte) (by decide) (by decide))))
  refine ⟨T14, none, _, _, _, X14, by decide, by decide, (fun _ => rfl), ?_, fun fs hr => castTop (ef_205 m a1) ?_⟩
  · show Q22_init Z a1 p2 h0 n0 _ T14.heap _
    rw [e14]
    exact ⟨b3, k3, rfl, N20, K18, (Nat.le_of_eq g3.symm), f21, f22, f23, f19, f24⟩
  · show SS p e below s₁ m 0 #[rv a1, iv (16 : Int32)] [] _
    refine XS.aloadN X0.here hx rfl (hb hby d_192) rfl rfl ?_
    refine st1 _ ?_
    refine st2 _ ?_
    refine XS.ifNo X2.here hx rfl (hb hby d_195) rfl ((if0 _ _).trans (feq hc_1).1) ?_
    refine XS.aloadN X2.here hx rfl (hb hby d_196) rfl rfl ?_
    refine XS.iloadN X2.here hx rfl (hb hby d_197) rfl ?_
    refine st3 _ ?_
    refine st7 _ ?_
    refine XS.aloadN X7.here hx rfl (hb hby d_200) rfl rfl ?_
    refine XS.iconst X7.here hx rfl (hb hby d_201) ?_
    show SS p e below T7 m 19 #[rv a1, iv (16 : Int32)] [o0, (.ref a1)] _
    refine st14 _ ?_
    refine XS.goto X14.here hx rfl (pc0 := 22) (pc' := 38) rfl (hb hby d_203) (by decide) (by decide) ?_
    exact X14.returnOut hx hret (hb hby d_204) hr
theorem pd_207 : parseMethodDescriptor "(I)V" = some ⟨[.int], none⟩ := by decide +kernel
theorem d_208 : decode jdk_67_method_1_code 6 = .ok (.return_, 1) := by decide +kernel
theorem pn_209 : plainName "java/lang/StringBuilder" = true := by first | (simp [plainName, overriddenIn]; done) | decide +kernel
def Q23_init (Z : State) (a1 : Addr) (p2 : Int32) (h0 : Heap) (n0 : Nat) (v : Option Value) (h : Heap) (L : List Loc) : Prop := ∃ (b1_0 : Addr) (k1_0 : ClassId), v = none ∧ Fr n0 L ∧ Keep h0 h [a1] ∧ h0.size ≤ b1_0 ∧ Arv Z h b1_0 k1_0 .byte (16 : Int32) [o0, o0, o0, o0, o0, o0, o0, o0, o0, o0, o0, o0, o0, o0, o0, o0] o0 ∧ EA46 Z h b1_0 ∧ FA41 Z h a1 (.ref b1_0) ∧ FA42 Z h a1 o0 ∧ FA43 Z h a1 o0
theorem rm23_init (l : Launch) (Z : State) (a0 : Array Value) (hw : HW Z a0) (a1 : Addr) (p2 : Int32) (h0 : Heap) (n0 : Nat) (O0 : Old Z n0 h0) (S_0 : SA48 Z Z.heap (.int p2)) (hc_1 : ¬ (p2 = (0 : Int32))) (F_2 : EA47 Z h0 a1) (F_3 : FA41 Z h0 a1 .null) (F_4 : FA42 Z h0 a1 o0) (F_5 : FA43 Z h0 a1 o0) (g_6 : n0 ≤ a1) (lt_7 : a1 < h0.size) :
    Met l Z [] MY12 jdk_67_method_1_code 1 none ({ frames := 2, cells := 1, slots := 16, locals := 25 } : Room) #[(.ref a1)] h0 (Q23_init Z a1 p2 h0 n0) := by
  have W := @own_W _ _ hw
  refine own_mk (plainFor_of_name pn_209) ?_
  intro p e s m below meth c s₁ hZ hx hby hml hown hnm hret hlk X0 e0
  have N0 := Fr.nil n0
  obtain ⟨_, T1, L1, X1, hQ1, st1⟩ := own_cp X0 hx hZ hown hml rfl (W 75 rfl) (W 76 rfl) (W 79 rfl) (W 80 rfl) (rm22_init l Z a0 hw a1 p2 h0 n0 O0 (S_0) (hc_1) (F_2) (F_3) (g_6) (F_4) (F_5) (lt_7)) e0 (hb hby d_191) 0 #[rv a1] a1 [(.int (16 : Int32))] [] pd_207
  obtain ⟨b1_0, k1_0, rfl, N1q, K1, gb1_0, F1_0, F1_1, F1_2, F1_3, F1_4⟩ := hQ1
  have N2 := Fr.app N0 N1q
  have O3 := O0.keep K1 (allS g_6 all0)
  have K4 : Keep h0 T1.heap [a1] := Keep.trans (Keep.refl h0 [a1]) K1 (allS (Or.inl (List.mem_of_getElem? (i := 0) rfl)) all0)
  refine ⟨T1, none, _, _, _, X1, by decide, by decide, (fun _ => rfl), ?_, fun fs hr => castTop (ef_44 m a1) ?_⟩
  · show Q23_init Z a1 p2 h0 n0 _ T1.heap _
    exact ⟨b1_0, k1_0, rfl, N2, K4, gb1_0, F1_0, F1_1, F1_2, F1_3, F1_4⟩
  · show SS p e below s₁ m 0 #[rv a1] [] _
    refine XS.aloadN X0.here hx rfl (hb hby d_189) rfl rfl ?_
    refine XS.bipush X0.here hx rfl (hb hby d_190) ?_
    refine st1 _ ?_
    exact X1.returnOut hx hret (hb hby d_208) hr
theorem d_210 : decode prog_7_method_2_code 24 = .ok (.aload_n 0, 1) := by decide +kernel
theorem d_211 : decode prog_7_method_2_code 25 = .ok (.getfield 7, 3) := by decide +kernel
theorem d_212 : decode prog_7_method_2_code 28 = .ok (.invokevirtual 25, 3) := by decide +kernel
theorem d_213 : decode jdk_67_method_7_code 0 = .ok (.aload_n 0, 1) := by decide +kernel
theorem d_214 : decode jdk_67_method_7_code 1 = .ok (.aload_n 1, 1) := by decide +kernel
theorem d_215 : decode jdk_67_method_7_code 2 = .ok (.invokespecial 29, 3) := by decide +kernel
theorem d_216 : decode jdk_68_method_22_code 0 = .ok (.aload_n 1, 1) := by decide +kernel
theorem d_217 : decode jdk_68_method_22_code 1 = .ok (.ifnonnull 8, 3) := by decide +kernel
theorem d_218 : decode jdk_68_method_22_code 9 = .ok (.aload_n 1, 1) := by decide +kernel
theorem d_219 : decode jdk_68_method_22_code 10 = .ok (.invokevirtual 32, 3) := by decide +kernel
theorem d_220 : decode jdk_42_method_54_code 0 = .ok (.aload_n 0, 1) := by decide +kernel
theorem d_221 : decode jdk_42_method_54_code 1 = .ok (.getfield 9, 3) := by decide +kernel
theorem d_222 : decode jdk_42_method_54_code 4 = .ok (.arraylength, 1) := by decide +kernel
theorem d_223 : decode jdk_42_method_54_code 5 = .ok (.aload_n 0, 1) := by decide +kernel
theorem d_224 : decode jdk_42_method_54_code 6 = .ok (.invokevirtual 335, 3) := by decide +kernel
theorem d_225 : decode jdk_42_method_152_code 0 = .ok (.getstatic 38, 3) := by decide +kernel
theorem d_226 : decode jdk_42_method_152_code 3 = .ok (.ifCond .eq 10, 3) := by decide +kernel
theorem d_227 : decode jdk_42_method_152_code 6 = .ok (.aload_n 0, 1) := by decide +kernel
theorem d_228 : decode jdk_42_method_152_code 7 = .ok (.getfield 15, 3) := by decide +kernel
theorem d_229 : decode jdk_42_method_152_code 10 = .ok (.goto 4, 3) := by decide +kernel
theorem d_230 : decode jdk_42_method_152_code 14 = .ok (.ireturn, 1) := by decide +kernel
def Q24_coder (Z : State) (a1 : Addr) (p2 : Int32) (h0 : Heap) (n0 : Nat) (v : Option Value) (h : Heap) (L : List Loc) : Prop := v = some o0 ∧ Fr n0 L ∧ h = h0
theorem rm24_coder (l : Launch) (Z : State) (a0 : Array Value) (hw : HW Z a0) (a1 : Addr) (p2 : Int32) (h0 : Heap) (n0 : Nat) (O0 : Old Z n0 h0) (S_0 : SA48 Z Z.heap (.int p2)) (hc_1 : ¬ (p2 = (0 : Int32))) (F_2 : FA38 Z h0 a1 o0) :
    Met l Z [] MY13 jdk_42_method_152_code 1 (some .byte) ({ frames := 0, cells := 0, slots := 0, locals := 0 } : Room) #[(.ref a1)] h0 (Q24_coder Z a1 p2 h0 n0) := by
  have W := @own_W _ _ hw
  refine own_mk (plainFor_of_name pn_30) ?_
  intro p e s m below meth c s₁ hZ hx hby hml hown hnm hret hlk X0 e0
  have N0 := Fr.nil n0
  obtain ⟨T1, X1, e1, st1⟩ := getS2 X0 hx hZ hown (host := "") (Or.inl (W 58 rfl)) Via.refl e0 (S_0.ext O0.2) (g := (mkF m 0 #[rv a1] [])) rfl (hb hby d_225)
  obtain ⟨T2, X2, e2, st2⟩ := getF X1 hx hZ hown (host := "") (Or.inl (W 26 rfl)) Via.refl e1 F_2 (g := (mkF m 7 #[rv a1] [(.ref a1)])) rfl rfl (hb hby d_228)
  refine ⟨T2, some o0, _, _, _, X2, by decide, by decide, nofun, ?_, fun fs hr => castTop (ef_44 m a1) ?_⟩
  · show Q24_coder Z a1 p2 h0 n0 _ T2.heap _
    rw [e2]
    exact ⟨rfl, N0, rfl⟩
  · show SS p e below s₁ m 0 #[rv a1] [] _
    refine st1 _ ?_
    refine XS.ifNo X1.here hx rfl (hb hby d_226) rfl ((if0 _ _).trans (feq hc_1).1) ?_
    refine XS.aloadN X1.here hx rfl (hb hby d_227) rfl rfl ?_
    refine st2 _ ?_
    refine XS.goto X2.here hx rfl (pc0 := 10) (pc' := 14) rfl (hb hby d_229) (by decide) (by decide) ?_
    exact retN X2 hx (t := .byte) hret (by simp) (hb hby d_230) hr
theorem pd_231 : parseMethodDescriptor "()B" = some ⟨[], some .byte⟩ := by decide +kernel
theorem d_232 : decode jdk_42_method_54_code 9 = .ok (.ishr, 1) := by decide +kernel
theorem d_233 : decode jdk_42_method_54_code 10 = .ok (.ireturn, 1) := by decide +kernel
def Q25_length (Z : State) (a1 : Addr) (a2 : Addr) (k3 : ClassId) (p4 : Int32) (vs5 : List Value) (p6 : Int32) (h0 : Heap) (n0 : Nat) (v : Option Value) (h : Heap) (L : List Loc) : Prop := v = some (.int p4) ∧ Fr n0 L ∧ h = h0
theorem rm25_length (l : Launch) (Z : State) (a0 : Array Value) (hw : HW Z a0) (a1 : Addr) (a2 : Addr) (k3 : ClassId) (p4 : Int32) (vs5 : List Value) (p6 : Int32) (h0 : Heap) (n0 : Nat) (O0 : Old Z n0 h0) (F_0 : FA37 Z h0 a1 (.ref a2)) (F_1 : Arv Z h0 a2 k3 .byte p4 vs5 o0) (F_2 : EA44 Z h0 a1) (S_3 : SA48 Z Z.heap (.int p6)) (hc_4 : ¬ (p6 = (0 : Int32))) (F_5 : FA38 Z h0 a1 o0) (eq_6 : (p4 >>> ((0 : Int32) &&& 31)) = p4) :
    Met l Z [] MY14 jdk_42_method_54_code 1 (some .int) ({ frames := 1, cells := 0, slots := 0, locals := 13 } : Room) #[(.ref a1)] h0 (Q25_length Z a1 a2 k3 p4 vs5 p6 h0 n0) := by
  have W := @own_W _ _ hw
  refine own_mk (plainFor_of_name pn_30) ?_
  intro p e s m below meth c s₁ hZ hx hby hml hown hnm hret hlk X0 e0
  have N0 := Fr.nil n0
  obtain ⟨T1, X1, e1, st1⟩ := getF X0 hx hZ hown (host := "") (Or.inl (W 25 rfl)) Via.refl e0 F_0 (g := (mkF m 1 #[rv a1] [(.ref a1)])) rfl rfl (hb hby d_221)
  obtain ⟨c2, A2, q2, S2, N2, H2, G2⟩ := id F_1
  obtain ⟨_, T3, L3, X3, hQ3, st3⟩ := own_cv X1 hx hZ hown hml (W 102 rfl) (W 103 rfl) (notFace_of_selects (W 105 rfl)) (W 105 rfl) (W 104 rfl) (W 7 rfl) (W 106 rfl) (rm24_coder l Z a0 hw a1 p6 h0 n0 O0 (S_3) (hc_4) (F_5)) e1 F_2 (hb hby d_224) 1 #[rv a1] [] [(.int p4)] pd_231
  obtain ⟨rfl, N3q, K3⟩ := hQ3
  have N4 := Fr.app N0 N3q
  refine ⟨T3, some (.int p4), _, _, _, X3, by decide, by decide, nofun, ?_, fun fs hr => castTop (ef_44 m a1) ?_⟩
  · show Q25_length Z a1 a2 k3 p4 vs5 p6 h0 n0 _ T3.heap _
    rw [K3]
    exact ⟨rfl, N4, rfl⟩
  · show SS p e below s₁ m 0 #[rv a1] [] _
    refine XS.aloadN X0.here hx rfl (hb hby d_220) rfl rfl ?_
    refine st1 _ ?_
    refine X1.arraylength hx (by rw [e1]; exact A2.1) (State.isArrayOf_alike hZ.alike A2.2.1) (g := (mkF m 4 #[rv a1] [(.ref a2)])) rfl rfl (hb hby d_222) _ ?_
    rw [len_of S2 N2]
    refine XS.aloadN X1.here hx rfl (hb hby d_223) rfl rfl ?_
    refine st3 _ ?_
    show SS p e below T3 m 9 #[rv a1] [o0, (.int p4)] _
    refine XS.ishr X3.here hx rfl (hb hby d_232) rfl ?_
    rw [eq_6]
    show SS p e below T3 m 10 #[rv a1] [(.int p4)] _
    exact retI X3 hx hret (hb hby d_233) hr
theorem pd_234 : parseMethodDescriptor "()I" = some ⟨[], some .int⟩ := by decide +kernel
theorem d_235 : decode jdk_68_method_22_code 13 = .ok (.istore_n 2, 1) := by decide +kernel
theorem d_236 : decode jdk_68_method_22_code 14 = .ok (.aload_n 0, 1) := by decide +kernel
theorem d_237 : decode jdk_68_method_22_code 15 = .ok (.aload_n 0, 1) := by decide +kernel
theorem d_238 : decode jdk_68_method_22_code 16 = .ok (.getfield 79, 3) := by decide +kernel
theorem d_239 : decode jdk_68_method_22_code 19 = .ok (.iload_n 2, 1) := by decide +kernel
theorem d_240 : decode jdk_68_method_22_code 20 = .ok (.iadd, 1) := by decide +kernel
theorem d_241 : decode jdk_68_method_22_code 21 = .ok (.invokevirtual 100, 3) := by decide +kernel
theorem d_242 : decode jdk_68_method_9_code 0 = .ok (.aload_n 0, 1) := by decide +kernel
theorem d_243 : decode jdk_68_method_9_code 1 = .ok (.getfield 15, 3) := by decide +kernel
theorem d_244 : decode jdk_68_method_9_code 4 = .ok (.arraylength, 1) := by decide +kernel
theorem d_245 : decode jdk_68_method_9_code 5 = .ok (.aload_n 0, 1) := by decide +kernel
theorem d_246 : decode jdk_68_method_9_code 6 = .ok (.getfield 22, 3) := by decide +kernel
theorem d_247 : decode jdk_68_method_9_code 9 = .ok (.ishr, 1) := by decide +kernel
theorem d_248 : decode jdk_68_method_9_code 10 = .ok (.istore_n 2, 1) := by decide +kernel
theorem d_249 : decode jdk_68_method_9_code 11 = .ok (.iload_n 1, 1) := by decide +kernel
theorem d_250 : decode jdk_68_method_9_code 12 = .ok (.iload_n 2, 1) := by decide +kernel
theorem d_251 : decode jdk_68_method_9_code 13 = .ok (.isub, 1) := by decide +kernel
theorem d_252 : decode jdk_68_method_9_code 14 = .ok (.ifCond .le 24, 3) := by decide +kernel
theorem d_253 : decode jdk_68_method_9_code 38 = .ok (.return_, 1) := by decide +kernel
theorem ef_254 (m : MethodId) (a1 : Addr) : entryFrame m #[(.ref a1), (.int (1 : Int32))] 3 = mkF m 0 #[rv a1, iv (1 : Int32), .unset] [] := by first | (simp [entryFrame, mkF, argsToLocals, Value.category]; done) | rfl
def Q26_ensureCapacityInternal (Z : State) (a1 : Addr) (a2 : Addr) (k3 : ClassId) (h0 : Heap) (n0 : Nat) (v : Option Value) (h : Heap) (L : List Loc) : Prop := v = none ∧ Fr n0 L ∧ h = h0
theorem rm26_ensureCapacityInternal (l : Launch) (Z : State) (a0 : Array Value) (hw : HW Z a0) (a1 : Addr) (a2 : Addr) (k3 : ClassId) (h0 : Heap) (n0 : Nat) (O0 : Old Z n0 h0) (F_0 : FA41 Z h0 a1 (.ref a2)) (F_1 : Arv Z h0 a2 k3 .byte (16 : Int32) [o0, o0, o0, o0, o0, o0, o0, o0, o0, o0, o0, o0, o0, o0, o0, o0] o0) (F_2 : FA42 Z h0 a1 o0) :
    Met l Z [] MY15 jdk_68_method_9_code 3 none ({ frames := 0, cells := 0, slots := 0, locals := 0 } : Room) #[(.ref a1), (.int (1 : Int32))] h0 (Q26_ensureCapacityInternal Z a1 a2 k3 h0 n0) := by
  have W := @own_W _ _ hw
  refine own_mk (plainFor_of_name pn_206) ?_
  intro p e s m below meth c s₁ hZ hx hby hml hown hnm hret hlk X0 e0
  have N0 := Fr.nil n0
  obtain ⟨T1, X1, e1, st1⟩ := getF X0 hx hZ hown (host := "") (Or.inl (W 83 rfl)) Via.refl e0 F_0 (g := (mkF m 1 #[rv a1, iv (1 : Int32), .unset] [(.ref a1)])) rfl rfl (hb hby d_243)
  obtain ⟨c2, A2, q2, S2, N2, H2, G2⟩ := id F_1
  obtain ⟨T3, X3, e3, st3⟩ := getF X1 hx hZ hown (host := "") (Or.inl (W 85 rfl)) Via.refl e1 F_2 (g := (mkF m 6 #[rv a1, iv (1 : Int32), .unset] [(.ref a1), (.int (16 : Int32))])) rfl rfl (hb hby d_246)
  refine ⟨T3, none, _, _, _, X3, by decide, by decide, (fun _ => rfl), ?_, fun fs hr => castTop (ef_254 m a1) ?_⟩
  · show Q26_ensureCapacityInternal Z a1 a2 k3 h0 n0 _ T3.heap _
    rw [e3]
    exact ⟨rfl, N0, rfl⟩
  · show SS p e below s₁ m 0 #[rv a1, iv (1 : Int32), .unset] [] _
    refine XS.aloadN X0.here hx rfl (hb hby d_242) rfl rfl ?_
    refine st1 _ ?_
    refine X1.arraylength hx (by rw [e1]; exact A2.1) (State.isArrayOf_alike hZ.alike A2.2.1) (g := (mkF m 4 #[rv a1, iv (1 : Int32), .unset] [(.ref a2)])) rfl rfl (hb hby d_244) _ ?_
    rw [len_of S2 N2]
    refine XS.aloadN X1.here hx rfl (hb hby d_245) rfl rfl ?_
    refine st3 _ ?_
    refine XS.ishr X3.here hx rfl (hb hby d_247) rfl ?_
    show SS p e below T3 m 10 #[rv a1, iv (1 : Int32), .unset] [(.int (16 : Int32))] _
    refine XS.istoreN X3.here hx rfl (hb hby d_248) rfl (l' := #[rv a1, iv (1 : Int32), iv (16 : Int32)]) rfl ?_
    refine XS.iloadN X3.here hx rfl (hb hby d_249) rfl ?_
    refine XS.iloadN X3.here hx rfl (hb hby d_250) rfl ?_
    refine XS.isub X3.here hx rfl (hb hby d_251) rfl ?_
    show SS p e below T3 m 14 #[rv a1, iv (1 : Int32), iv (16 : Int32)] [(.int (-15 : Int32))] _
    refine XS.ifYes X3.here hx rfl (pc0 := 14) (pc' := 38) rfl (hb hby d_252) rfl ((if0 _ _).trans (flt (by decide : ¬ ((0 : Int32) < (-15 : Int32)))).2.2.2) (by decide) (by decide) ?_
    exact X3.returnOut hx hret (hb hby d_253) hr
theorem d_255 : decode jdk_68_method_22_code 24 = .ok (.aload_n 0, 1) := by decide +kernel
theorem d_256 : decode jdk_68_method_22_code 25 = .ok (.aload_n 0, 1) := by decide +kernel
theorem d_257 : decode jdk_68_method_22_code 26 = .ok (.getfield 79, 3) := by decide +kernel
theorem d_258 : decode jdk_68_method_22_code 29 = .ok (.aload_n 1, 1) := by decide +kernel
theorem d_259 : decode jdk_68_method_22_code 30 = .ok (.invokevirtual 208, 3) := by decide +kernel
theorem d_260 : decode jdk_68_method_73_code 0 = .ok (.aload_n 0, 1) := by decide +kernel
theorem d_261 : decode jdk_68_method_73_code 1 = .ok (.aload_n 2, 1) := by decide +kernel
theorem d_262 : decode jdk_68_method_73_code 2 = .ok (.invokevirtual 397, 3) := by decide +kernel
theorem d_263 : decode jdk_68_method_71_code 0 = .ok (.getstatic 18, 3) := by decide +kernel
theorem d_264 : decode jdk_68_method_71_code 3 = .ok (.ifCond .eq 18, 3) := by decide +kernel
theorem d_265 : decode jdk_68_method_71_code 6 = .ok (.aload_n 0, 1) := by decide +kernel
theorem d_266 : decode jdk_68_method_71_code 7 = .ok (.getfield 22, 3) := by decide +kernel
theorem d_267 : decode jdk_68_method_71_code 10 = .ok (.aload_n 1, 1) := by decide +kernel
theorem d_268 : decode jdk_68_method_71_code 11 = .ok (.invokevirtual 40, 3) := by decide +kernel
theorem d_269 : decode jdk_68_method_71_code 14 = .ok (.if_icmp .eq 7, 3) := by decide +kernel
theorem d_270 : decode jdk_68_method_71_code 21 = .ok (.return_, 1) := by decide +kernel
def Q27_inflateIfNeededFor (Z : State) (a1 : Addr) (a2 : Addr) (p3 : Int32) (h0 : Heap) (n0 : Nat) (v : Option Value) (h : Heap) (L : List Loc) : Prop := v = none ∧ Fr n0 L ∧ h = h0
theorem rm27_inflateIfNeededFor (l : Launch) (Z : State) (a0 : Array Value) (hw : HW Z a0) (a1 : Addr) (a2 : Addr) (p3 : Int32) (h0 : Heap) (n0 : Nat) (O0 : Old Z n0 h0) (S_0 : SA48 Z Z.heap (.int p3)) (hc_1 : ¬ (p3 = (0 : Int32))) (F_2 : FA42 Z h0 a1 o0) (F_3 : EA44 Z h0 a2) (F_4 : FA38 Z h0 a2 o0) :
    Met l Z [] MY16 jdk_68_method_71_code 2 none ({ frames := 1, cells := 0, slots := 0, locals := 13 } : Room) #[(.ref a1), (.ref a2)] h0 (Q27_inflateIfNeededFor Z a1 a2 p3 h0 n0) := by
  have W := @own_W _ _ hw
  refine own_mk (plainFor_of_name pn_206) ?_
  intro p e s m below meth c s₁ hZ hx hby hml hown hnm hret hlk X0 e0
  have N0 := Fr.nil n0
  obtain ⟨T1, X1, e1, st1⟩ := getS2 X0 hx hZ hown (host := "") (Or.inl (W 82 rfl)) Via.refl e0 (S_0.ext O0.2) (g := (mkF m 0 #[rv a1, rv a2] [])) rfl (hb hby d_263)
  obtain ⟨T2, X2, e2, st2⟩ := getF X1 hx hZ hown (host := "") (Or.inl (W 85 rfl)) Via.refl e1 F_2 (g := (mkF m 7 #[rv a1, rv a2] [(.ref a1)])) rfl rfl (hb hby d_266)
  obtain ⟨_, T3, L3, X3, hQ3, st3⟩ := own_cv X2 hx hZ hown hml (W 124 rfl) (W 103 rfl) (notFace_of_selects (W 105 rfl)) (W 105 rfl) (W 104 rfl) (W 7 rfl) (W 106 rfl) (rm24_coder l Z a0 hw a2 p3 h0 n0 O0 (S_0) (hc_1) (F_4)) e2 F_3 (hb hby d_268) 1 #[rv a1, rv a2] [] [o0] pd_231
  obtain ⟨rfl, N3q, K3⟩ := hQ3
  have N4 := Fr.app N0 N3q
  refine ⟨T3, none, _, _, _, X3, by decide, by decide, (fun _ => rfl), ?_, fun fs hr => castTop (ef_33 m a1 a2) ?_⟩
  · show Q27_inflateIfNeededFor Z a1 a2 p3 h0 n0 _ T3.heap _
    rw [K3]
    exact ⟨rfl, N4, rfl⟩
  · show SS p e below s₁ m 0 #[rv a1, rv a2] [] _
    refine st1 _ ?_
    refine XS.ifNo X1.here hx rfl (hb hby d_264) rfl ((if0 _ _).trans (feq hc_1).1) ?_
    refine XS.aloadN X1.here hx rfl (hb hby d_265) rfl rfl ?_
    refine st2 _ ?_
    refine XS.aloadN X2.here hx rfl (hb hby d_267) rfl rfl ?_
    refine st3 _ ?_
    refine XS.icmpYes X3.here hx rfl (pc0 := 14) (pc' := 21) rfl (hb hby d_269) rfl (teq (by decide : (0 : Int32) = (0 : Int32))).1 (by decide) (by decide) ?_
    exact X3.returnOut hx hret (hb hby d_270) hr
theorem pd_271 : parseMethodDescriptor "(Ljava/lang/String;)V" = some ⟨[(.object "java/lang/String")], none⟩ := by decide +kernel
theorem d_272 : decode jdk_68_method_73_code 5 = .ok (.aload_n 2, 1) := by decide +kernel
theorem d_273 : decode jdk_68_method_73_code 6 = .ok (.aload_n 0, 1) := by decide +kernel
theorem d_274 : decode jdk_68_method_73_code 7 = .ok (.getfield 15, 3) := by decide +kernel
theorem d_275 : decode jdk_68_method_73_code 10 = .ok (.iload_n 1, 1) := by decide +kernel
theorem d_276 : decode jdk_68_method_73_code 11 = .ok (.aload_n 0, 1) := by decide +kernel
theorem d_277 : decode jdk_68_method_73_code 12 = .ok (.getfield 22, 3) := by decide +kernel
theorem d_278 : decode jdk_68_method_73_code 15 = .ok (.invokevirtual 399, 3) := by decide +kernel
theorem d_279 : decode jdk_42_method_147_code 0 = .ok (.aload_n 0, 1) := by decide +kernel
theorem d_280 : decode jdk_42_method_147_code 1 = .ok (.invokevirtual 335, 3) := by decide +kernel
theorem d_281 : decode jdk_42_method_147_code 4 = .ok (.iload_n 3, 1) := by decide +kernel
theorem d_282 : decode jdk_42_method_147_code 5 = .ok (.if_icmp .ne 23, 3) := by decide +kernel
theorem d_283 : decode jdk_42_method_147_code 8 = .ok (.aload_n 0, 1) := by decide +kernel
theorem d_284 : decode jdk_42_method_147_code 9 = .ok (.getfield 9, 3) := by decide +kernel
theorem d_285 : decode jdk_42_method_147_code 12 = .ok (.iconst 0, 1) := by decide +kernel
theorem d_286 : decode jdk_42_method_147_code 13 = .ok (.aload_n 1, 1) := by decide +kernel
theorem d_287 : decode jdk_42_method_147_code 14 = .ok (.iload_n 2, 1) := by decide +kernel
theorem d_288 : decode jdk_42_method_147_code 15 = .ok (.iload_n 3, 1) := by decide +kernel
theorem d_289 : decode jdk_42_method_147_code 16 = .ok (.ishl, 1) := by decide +kernel
theorem d_290 : decode jdk_42_method_147_code 17 = .ok (.aload_n 0, 1) := by decide +kernel
theorem d_291 : decode jdk_42_method_147_code 18 = .ok (.getfield 9, 3) := by decide +kernel
theorem d_292 : decode jdk_42_method_147_code 21 = .ok (.arraylength, 1) := by decide +kernel
theorem d_293 : decode jdk_42_method_147_code 22 = .ok (.invokestatic 212, 3) := by decide +kernel
theorem d_294 : decode jdk_42_method_147_code 25 = .ok (.goto 18, 3) := by decide +kernel
theorem d_295 : decode jdk_42_method_147_code 43 = .ok (.return_, 1) := by decide +kernel
theorem ef_296 (m : MethodId) (a1 : Addr) (a2 : Addr) : entryFrame m #[(.ref a1), (.ref a2), o0, o0] 4 = mkF m 0 #[rv a1, rv a2, .val o0, .val o0] [] := by first | (simp [entryFrame, mkF, argsToLocals, Value.category]; done) | rfl
def Q28_getBytes (Z : State) (a1 : Addr) (a2 : Addr) (p3 : Int32) (a4 : Addr) (k5 : ClassId) (p6 : Int32) (k7 : ClassId) (h0 : Heap) (n0 : Nat) (v : Option Value) (h : Heap) (L : List Loc) : Prop := v = none ∧ Fr n0 L ∧ Keep h0 h [a2] ∧ Arv Z h a2 k7 .byte (16 : Int32) [(.int p6), o0, o0, o0, o0, o0, o0, o0, o0, o0, o0, o0, o0, o0, o0, o0] o0
theorem rm28_getBytes (l : Launch) (Z : State) (a0 : Array Value) (hw : HW Z a0) (a1 : Addr) (a2 : Addr) (p3 : Int32) (a4 : Addr) (k5 : ClassId) (p6 : Int32) (k7 : ClassId) (h0 : Heap) (n0 : Nat) (O0 : Old Z n0 h0) (F_0 : EA44 Z h0 a1) (S_1 : SA48 Z Z.heap (.int p3)) (hc_2 : ¬ (p3 = (0 : Int32))) (F_3 : FA38 Z h0 a1 o0) (F_4 : FA37 Z h0 a1 (.ref a4)) (F_5 : Arv Z h0 a4 k5 .byte (1 : Int32) [(.int p6)] o0) (F_6 : Arv Z h0 a2 k7 .byte (16 : Int32) [o0, o0, o0, o0, o0, o0, o0, o0, o0, o0, o0, o0, o0, o0, o0, o0] o0) (g_7 : n0 ≤ a2) :
    Met l Z [] MY17 jdk_42_method_147_code 4 none ({ frames := 1, cells := 0, slots := 0, locals := 27 } : Room) #[(.ref a1), (.ref a2), o0, o0] h0 (Q28_getBytes Z a1 a2 p3 a4 k5 p6 k7 h0 n0) := by
  have W := @own_W _ _ hw
  refine own_mk (plainFor_of_name pn_30) ?_
  intro p e s m below meth c s₁ hZ hx hby hml hown hnm hret hlk X0 e0
  have N0 := Fr.nil n0
  obtain ⟨_, T1, L1, X1, hQ1, st1⟩ := own_cv X0 hx hZ hown hml (W 102 rfl) (W 103 rfl) (notFace_of_selects (W 105 rfl)) (W 105 rfl) (W 104 rfl) (W 7 rfl) (W 106 rfl) (rm24_coder l Z a0 hw a1 p3 h0 n0 O0 (S_1) (hc_2) (F_3)) e0 F_0 (hb hby d_280) 0 #[rv a1, rv a2, .val o0, .val o0] [] [] pd_231
  obtain ⟨rfl, N1q, K1⟩ := hQ1
  have N2 := Fr.app N0 N1q
  obtain ⟨T3, X3, e3, st3⟩ := getF X1 hx hZ hown (host := "") (Or.inl (W 25 rfl)) Via.refl K1 F_4 (g := (mkF m 9 #[rv a1, rv a2, .val o0, .val o0] [(.ref a1)])) rfl rfl (hb hby d_284)
  obtain ⟨T4, X4, e4, st4⟩ := getF X3 hx hZ hown (host := "") (Or.inl (W 25 rfl)) Via.refl e3 F_4 (g := (mkF m 18 #[rv a1, rv a2, .val o0, .val o0] [(.ref a1), o0, (.ref a2), o0, (.ref a4)])) rfl rfl (hb hby d_291)
  obtain ⟨c5, A5, q5, S5, N5, H5, G5⟩ := id F_5
  obtain ⟨T6, h6, Lc6, X6, e6, N6, K6, V6, st6⟩ := cpA X4 hx hZ hown (W 130 rfl) (W 133 rfl) (W 131 rfl) (W 132 rfl) e4 F_5 F_6 (Or.inl ⟨rfl, rfl⟩) (sp := (0 : Int32)) (dp := (0 : Int32)) (nn := (1 : Int32)) (by decide) (by decide) (by decide) (by decide) (by decide) (us := [(.int p6)]) rfl (Nat.le_of_ble_eq_true rfl) N2 g_7 (g := (mkF m 22 #[rv a1, rv a2, .val o0, .val o0] [(.int (1 : Int32)), o0, (.ref a2), o0, (.ref a4)])) rfl (by rw [hml]; rfl) rfl (hb hby d_293) (by decide) (W := 0) (by show 2 * 0 + _ ≤ _; exact Nat.le_of_eq rfl) (by decide)
  have O7 := O0.keep K6 (allS g_7 all0)
  have K8 : Keep h0 h6 [a2] := Keep.trans (Keep.refl h0 [a2]) K6 (allS (Or.inl (List.mem_of_getElem? (i := 0) rfl)) all0)
  have v9 : Arv Z h6 a2 k7 .byte (16 : Int32) [(.int p6), o0, o0, o0, o0, o0, o0, o0, o0, o0, o0, o0, o0, o0, o0, o0] o0 := V6
  refine ⟨T6, none, _, _, _, X6, by decide, by decide, (fun _ => rfl), ?_, fun fs hr => castTop (ef_296 m a1 a2) ?_⟩
  · show Q28_getBytes Z a1 a2 p3 a4 k5 p6 k7 h0 n0 _ T6.heap _
    rw [e6]
    exact ⟨rfl, N6, K8, v9⟩
  · show SS p e below s₁ m 0 #[rv a1, rv a2, .val o0, .val o0] [] _
    refine XS.aloadN X0.here hx rfl (hb hby d_279) rfl rfl ?_
    refine st1 _ ?_
    refine XS.iloadN X1.here hx rfl (hb hby d_281) rfl ?_
    refine XS.icmpNo X1.here hx rfl (hb hby d_282) rfl (teq (by decide : (0 : Int32) = (0 : Int32))).2 ?_
    refine XS.aloadN X1.here hx rfl (hb hby d_283) rfl rfl ?_
    refine st3 _ ?_
    refine XS.iconst X3.here hx rfl (hb hby d_285) ?_
    refine XS.aloadN X3.here hx rfl (hb hby d_286) rfl rfl ?_
    refine XS.iloadN X3.here hx rfl (hb hby d_287) rfl ?_
    refine XS.iloadN X3.here hx rfl (hb hby d_288) rfl ?_
    show SS p e below T3 m 16 #[rv a1, rv a2, .val o0, .val o0] [o0, o0, (.ref a2), o0, (.ref a4)] _
    refine XS.ishl X3.here hx rfl (hb hby d_289) rfl ?_
    show SS p e below T3 m 17 #[rv a1, rv a2, .val o0, .val o0] [o0, (.ref a2), o0, (.ref a4)] _
    refine XS.aloadN X3.here hx rfl (hb hby d_290) rfl rfl ?_
    refine st4 _ ?_
    refine X4.arraylength hx (by rw [e4]; exact A5.1) (State.isArrayOf_alike hZ.alike A5.2.1) (g := (mkF m 21 #[rv a1, rv a2, .val o0, .val o0] [(.ref a4), o0, (.ref a2), o0, (.ref a4)])) rfl rfl (hb hby d_292) _ ?_
    rw [len_of S5 N5]
    refine st6 _ ?_
    refine XS.goto X6.here hx rfl (pc0 := 25) (pc' := 43) rfl (hb hby d_294) (by decide) (by decide) ?_
    exact X6.returnOut hx hret (hb hby d_295) hr
theorem pd_297 : parseMethodDescriptor "([BIB)V" = some ⟨[(.array .byte), .int, .byte], none⟩ := by decide +kernel
theorem d_298 : decode jdk_68_method_73_code 18 = .ok (.return_, 1) := by decide +kernel
theorem ef_299 (m : MethodId) (a1 : Addr) (a2 : Addr) : entryFrame m #[(.ref a1), o0, (.ref a2)] 3 = mkF m 0 #[rv a1, .val o0, rv a2] [] := by first | (simp [entryFrame, mkF, argsToLocals, Value.category]; done) | rfl
def Q29_putStringAt (Z : State) (a1 : Addr) (a2 : Addr) (p3 : Int32) (a4 : Addr) (a5 : Addr) (k6 : ClassId) (p7 : Int32) (k8 : ClassId) (h0 : Heap) (n0 : Nat) (v : Option Value) (h : Heap) (L : List Loc) : Prop := v = none ∧ Fr n0 L ∧ Keep h0 h [a4] ∧ Arv Z h a4 k8 .byte (16 : Int32) [(.int p7), o0, o0, o0, o0, o0, o0, o0, o0, o0, o0, o0, o0, o0, o0, o0] o0
theorem rm29_putStringAt (l : Launch) (Z : State) (a0 : Array Value) (hw : HW Z a0) (a1 : Addr) (a2 : Addr) (p3 : Int32) (a4 : Addr) (a5 : Addr) (k6 : ClassId) (p7 : Int32) (k8 : ClassId) (h0 : Heap) (n0 : Nat) (O0 : Old Z n0 h0) (F_0 : EA47 Z h0 a1) (S_1 : SA48 Z Z.heap (.int p3)) (hc_2 : ¬ (p3 = (0 : Int32))) (F_3 : FA42 Z h0 a1 o0) (F_4 : EA44 Z h0 a2) (F_5 : FA38 Z h0 a2 o0) (F_6 : FA41 Z h0 a1 (.ref a4)) (F_7 : FA37 Z h0 a2 (.ref a5)) (F_8 : Arv Z h0 a5 k6 .byte (1 : Int32) [(.int p7)] o0) (F_9 : Arv Z h0 a4 k8 .byte (16 : Int32) [o0, o0, o0, o0, o0, o0, o0, o0, o0, o0, o0, o0, o0, o0, o0, o0] o0) (g_10 : n0 ≤ a4) :
    Met l Z [] MY18 jdk_68_method_73_code 3 none ({ frames := 2, cells := 0, slots := 0, locals := 42 } : Room) #[(.ref a1), o0, (.ref a2)] h0 (Q29_putStringAt Z a1 a2 p3 a4 a5 k6 p7 k8 h0 n0) := by
  have W := @own_W _ _ hw
  refine own_mk (plainFor_of_name pn_206) ?_
  intro p e s m below meth c s₁ hZ hx hby hml hown hnm hret hlk X0 e0
  have N0 := Fr.nil n0
  obtain ⟨_, T1, L1, X1, hQ1, st1⟩ := own_cv X0 hx hZ hown hml (W 119 rfl) (own_decl (y := MY16) (W 120 rfl) (W 123 rfl)) (notFace_of_selects (W 122 rfl)) (W 122 rfl) (W 120 rfl) (W 79 rfl) (W 123 rfl) (rm27_inflateIfNeededFor l Z a0 hw a1 a2 p3 h0 n0 O0 (S_1) (hc_2) (F_3) (F_4) (F_5)) e0 F_0 (hb hby d_262) 0 #[rv a1, .val o0, rv a2] [(.ref a2)] [] pd_271
  obtain ⟨rfl, N1q, K1⟩ := hQ1
  have N2 := Fr.app N0 N1q
  obtain ⟨T3, X3, e3, st3⟩ := getF X1 hx hZ hown (host := "") (Or.inl (W 83 rfl)) Via.refl K1 F_6 (g := (mkF m 7 #[rv a1, .val o0, rv a2] [(.ref a1), (.ref a2)])) rfl rfl (hb hby d_274)
  obtain ⟨T4, X4, e4, st4⟩ := getF X3 hx hZ hown (host := "") (Or.inl (W 85 rfl)) Via.refl e3 F_3 (g := (mkF m 12 #[rv a1, .val o0, rv a2] [(.ref a1), o0, (.ref a4), (.ref a2)])) rfl rfl (hb hby d_277)
  obtain ⟨_, T5, L5, X5, hQ5, st5⟩ := own_cv X4 hx hZ hown hml (W 125 rfl) (W 126 rfl) (notFace_of_selects (W 128 rfl)) (W 128 rfl) (W 127 rfl) (W 7 rfl) (W 129 rfl) (rm28_getBytes l Z a0 hw a2 a4 p3 a5 k6 p7 k8 h0 n0 O0 (F_4) (S_1) (hc_2) (F_5) (F_7) (F_8) (F_9) (g_10)) e4 F_4 (hb hby d_278) 0 #[rv a1, .val o0, rv a2] [(.ref a4), o0, o0] [] pd_297
  obtain ⟨rfl, N5q, K5, F5_0⟩ := hQ5
  have N6 := Fr.app N2 N5q
  have O7 := O0.keep K5 (allS g_10 all0)
  have K8 : Keep h0 T5.heap [a4] := Keep.trans (Keep.refl h0 [a4]) K5 (allS (Or.inl (List.mem_of_getElem? (i := 0) rfl)) all0)
  refine ⟨T5, none, _, _, _, X5, by decide, by decide, (fun _ => rfl), ?_, fun fs hr => castTop (ef_299 m a1 a2) ?_⟩
  · show Q29_putStringAt Z a1 a2 p3 a4 a5 k6 p7 k8 h0 n0 _ T5.heap _
    exact ⟨rfl, N6, K8, F5_0⟩
  · show SS p e below s₁ m 0 #[rv a1, .val o0, rv a2] [] _
    refine XS.aloadN X0.here hx rfl (hb hby d_260) rfl rfl ?_
    refine XS.aloadN X0.here hx rfl (hb hby d_261) rfl rfl ?_
    refine st1 _ ?_
    refine XS.aloadN X1.here hx rfl (hb hby d_272) rfl rfl ?_
    refine XS.aloadN X1.here hx rfl (hb hby d_273) rfl rfl ?_
    refine st3 _ ?_
    refine XS.iloadN X3.here hx rfl (hb hby d_275) rfl ?_
    refine XS.aloadN X3.here hx rfl (hb hby d_276) rfl rfl ?_
    refine st4 _ ?_
    refine st5 _ ?_
    show SS p e below T5 m 18 #[rv a1, .val o0, rv a2] [] _
    exact X5.returnOut hx hret (hb hby d_298) hr
theorem pd_300 : parseMethodDescriptor "(ILjava/lang/String;)V" = some ⟨[.int, (.object "java/lang/String")], none⟩ := by decide +kernel
theorem d_301 : decode jdk_68_method_22_code 33 = .ok (.aload_n 0, 1) := by decide +kernel
theorem d_302 : decode jdk_68_method_22_code 34 = .ok (.dup, 1) := by decide +kernel
theorem d_303 : decode jdk_68_method_22_code 35 = .ok (.getfield 79, 3) := by decide +kernel
theorem d_304 : decode jdk_68_method_22_code 38 = .ok (.iload_n 2, 1) := by decide +kernel
theorem d_305 : decode jdk_68_method_22_code 39 = .ok (.iadd, 1) := by decide +kernel
theorem d_306 : decode jdk_68_method_22_code 40 = .ok (.putfield 79, 3) := by decide +kernel
theorem d_307 : decode jdk_68_method_22_code 43 = .ok (.aload_n 0, 1) := by decide +kernel
theorem d_308 : decode jdk_68_method_22_code 44 = .ok (.areturn, 1) := by decide +kernel
theorem ef_309 (m : MethodId) (a1 : Addr) (a2 : Addr) : entryFrame m #[(.ref a1), (.ref a2)] 3 = mkF m 0 #[rv a1, rv a2, .unset] [] := by first | (simp [entryFrame, mkF, argsToLocals, Value.category]; done) | rfl
def Q30_append (Z : State) (a1 : Addr) (a2 : Addr) (a3 : Addr) (k4 : ClassId) (p5 : Int32) (p6 : Int32) (a7 : Addr) (k8 : ClassId) (h0 : Heap) (n0 : Nat) (v : Option Value) (h : Heap) (L : List Loc) : Prop := v = some (.ref a1) ∧ Fr n0 L ∧ Keep h0 h [a7, a1] ∧ FA43 Z h a1 (.int (1 : Int32)) ∧ FA41 Z h a1 (.ref a7) ∧ Arv Z h a7 k8 .byte (16 : Int32) [(.int p5), o0, o0, o0, o0, o0, o0, o0, o0, o0, o0, o0, o0, o0, o0, o0] o0 ∧ FA42 Z h a1 o0
theorem rm30_append (l : Launch) (Z : State) (a0 : Array Value) (hw : HW Z a0) (a1 : Addr) (a2 : Addr) (a3 : Addr) (k4 : ClassId) (p5 : Int32) (p6 : Int32) (a7 : Addr) (k8 : ClassId) (h0 : Heap) (n0 : Nat) (O0 : Old Z n0 h0) (F_0 : EA44 Z h0 a2) (F_1 : FA37 Z h0 a2 (.ref a3)) (F_2 : Arv Z h0 a3 k4 .byte (1 : Int32) [(.int p5)] o0) (S_3 : SA48 Z Z.heap (.int p6)) (hc_4 : ¬ (p6 = (0 : Int32))) (F_5 : FA38 Z h0 a2 o0) (F_6 : FA43 Z h0 a1 o0) (F_7 : EA47 Z h0 a1) (F_8 : FA41 Z h0 a1 (.ref a7)) (F_9 : Arv Z h0 a7 k8 .byte (16 : Int32) [o0, o0, o0, o0, o0, o0, o0, o0, o0, o0, o0, o0, o0, o0, o0, o0] o0) (F_10 : FA42 Z h0 a1 o0) (g_11 : n0 ≤ a7) (ne_12 : a1 ≠ a7) (g_13 : n0 ≤ a1) :
    Met l Z [] MY19 jdk_68_method_22_code 3 (some (.object "java/lang/AbstractStringBuilder")) ({ frames := 3, cells := 0, slots := 0, locals := 56 } : Room) #[(.ref a1), (.ref a2)] h0 (Q30_append Z a1 a2 a3 k4 p5 p6 a7 k8 h0 n0) := by
  have W := @own_W _ _ hw
  refine own_mk (plainFor_of_name pn_206) ?_
  intro p e s m below meth c s₁ hZ hx hby hml hown hnm hret hlk X0 e0
  have N0 := Fr.nil n0
  obtain ⟨_, T1, L1, X1, hQ1, st1⟩ := own_cv X0 hx hZ hown hml (W 97 rfl) (W 98 rfl) (notFace_of_selects (W 100 rfl)) (W 100 rfl) (W 99 rfl) (W 7 rfl) (W 101 rfl) (rm25_length l Z a0 hw a2 a3 k4 (1 : Int32) [(.int p5)] p6 h0 n0 O0 (F_1) (F_2) (F_0) (S_3) (hc_4) (F_5) ((by decide))) e0 F_0 (hb hby d_219) 0 #[rv a1, rv a2, .unset] [] [] pd_234
  obtain ⟨rfl, N1q, K1⟩ := hQ1
  have N2 := Fr.app N0 N1q
  obtain ⟨T3, X3, e3, st3⟩ := getF X1 hx hZ hown (host := "") (Or.inl (W 107 rfl)) Via.refl K1 F_6 (g := (mkF m 16 #[rv a1, rv a2, iv (1 : Int32)] [(.ref a1), (.ref a1)])) rfl rfl (hb hby d_238)
  obtain ⟨_, T4, L4, X4, hQ4, st4⟩ := own_cv X3 hx hZ hown hml (W 109 rfl) (own_decl (y := MY15) (W 110 rfl) (W 113 rfl)) (notFace_of_selects (W 112 rfl)) (W 112 rfl) (W 110 rfl) (W 79 rfl) (W 113 rfl) (rm26_ensureCapacityInternal l Z a0 hw a1 a7 k8 h0 n0 O0 (F_8) (F_9) (F_10)) e3 F_7 (hb hby d_241) 0 #[rv a1, rv a2, iv (1 : Int32)] [(.int (1 : Int32))] [] pd_207
  obtain ⟨rfl, N4q, K4⟩ := hQ4
  have N5 := Fr.app N2 N4q
  obtain ⟨T6, X6, e6, st6⟩ := getF X4 hx hZ hown (host := "") (Or.inl (W 107 rfl)) Via.refl K4 F_6 (g := (mkF m 26 #[rv a1, rv a2, iv (1 : Int32)] [(.ref a1), (.ref a1)])) rfl rfl (hb hby d_257)
  obtain ⟨_, T7, L7, X7, hQ7, st7⟩ := own_cv X6 hx hZ hown hml (W 114 rfl) (own_decl (y := MY18) (W 115 rfl) (W 118 rfl)) (notFace_of_selects (W 117 rfl)) (W 117 rfl) (W 115 rfl) (W 79 rfl) (W 118 rfl) (rm29_putStringAt l Z a0 hw a1 a2 p6 a7 a3 k4 p5 k8 h0 n0 O0 (F_7) (S_3) (hc_4) (F_10) (F_0) (F_5) (F_8) (F_1) (F_2) (F_9) (g_11)) e6 F_7 (hb hby d_259) 0 #[rv a1, rv a2, iv (1 : Int32)] [o0, (.ref a2)] [] pd_300
  obtain ⟨rfl, N7q, K7, F7_0⟩ := hQ7
  have N8 := Fr.app N5 N7q
  have O9 := O0.keep K7 (allS g_11 all0)
  have K10 : Keep h0 T7.heap [a7, a1] := Keep.trans (Keep.refl h0 [a7, a1]) K7 (allS (Or.inl (List.mem_of_getElem? (i := 0) rfl)) all0)
  have f12 := (F_6.keep K7 (ninS ne_12 nin0))
  obtain ⟨T11, X11, e11, st11⟩ := getF X7 hx hZ hown (host := "") (Or.inl (W 107 rfl)) Via.refl rfl f12 (g := (mkF m 35 #[rv a1, rv a2, iv (1 : Int32)] [(.ref a1), (.ref a1)])) rfl rfl (hb hby d_303)
  have f14 := (F_7.keep K7)
  obtain ⟨T13, h13, X13, e13, W13, st13⟩ := putF X11 hx hZ hown (host := "") (Or.inl (W 107 rfl)) Via.refl e11 f12 f14 (Or.inl (W 108 rfl)) (W 70 rfl) (ty := .int) (by decide) rfl rfl (g := (mkF m 40 #[rv a1, rv a2, iv (1 : Int32)] [(.int (1 : Int32)), (.ref a1)])) rfl rfl (hb hby d_306)
  have O15 := O9.wr W13 g_13
  have K16 : Keep h0 h13 [a7, a1] := Keep.wr K10 W13 (Or.inl (List.mem_of_getElem? (i := 1) rfl))
  have f17 : FA43 Z h13 a1 (.int (1 : Int32)) := (f12.same W13)
  have N18 := Fr.snoc X13 N8 g_13
  have f19 := ((F_8.keep K7 (ninS ne_12 nin0)).other W13 (Or.inr (slot_ne (Or.inl (W 84 rfl)) (Or.inl (W 108 rfl)) (by decide) (t := (.array .byte)) (t' := .int) (by decide) (by decide))))
  have f20 := (F7_0.other W13 (Ne.symm ne_12))
  have f21 := ((F_10.keep K7 (ninS ne_12 nin0)).other W13 (Or.inr (slot_ne (Or.inl (W 86 rfl)) (Or.inl (W 108 rfl)) (by decide) (t := .byte) (t' := .int) (by decide) (by decide))))
  refine ⟨T13, some (.ref a1), _, _, _, X13, by decide, by decide, nofun, ?_, fun fs hr => castTop (ef_309 m a1 a2) ?_⟩
  · show Q30_append Z a1 a2 a3 k4 p5 p6 a7 k8 h0 n0 _ T13.heap _
    rw [e13]
    exact ⟨rfl, N18, K16, f17, f19, f20, f21⟩
  · show SS p e below s₁ m 0 #[rv a1, rv a2, .unset] [] _
    refine XS.aloadN X0.here hx rfl (hb hby d_216) rfl rfl ?_
    refine XS.ifnonnullYes X0.here hx rfl (pc0 := 1) (pc' := 9) rfl (hb hby d_217) rfl (by decide) (by decide) ?_
    refine XS.aloadN X0.here hx rfl (hb hby d_218) rfl rfl ?_
    refine st1 _ ?_
    refine XS.istoreN X1.here hx rfl (hb hby d_235) rfl (l' := #[rv a1, rv a2, iv (1 : Int32)]) rfl ?_
    refine XS.aloadN X1.here hx rfl (hb hby d_236) rfl rfl ?_
    refine XS.aloadN X1.here hx rfl (hb hby d_237) rfl rfl ?_
    refine st3 _ ?_
    refine XS.iloadN X3.here hx rfl (hb hby d_239) rfl ?_
    refine XS.iadd X3.here hx rfl (hb hby d_240) rfl ?_
    show SS p e below T3 m 21 #[rv a1, rv a2, iv (1 : Int32)] [(.int (1 : Int32)), (.ref a1)] _
    refine st4 _ ?_
    refine XS.aloadN X4.here hx rfl (hb hby d_255) rfl rfl ?_
    refine XS.aloadN X4.here hx rfl (hb hby d_256) rfl rfl ?_
    refine st6 _ ?_
    refine XS.aloadN X6.here hx rfl (hb hby d_258) rfl rfl ?_
    refine st7 _ ?_
    refine XS.aloadN X7.here hx rfl (hb hby d_301) rfl rfl ?_
    refine XS.dup X7.here hx rfl (hb hby d_302) rfl rfl ?_
    refine st11 _ ?_
    refine XS.iloadN X11.here hx rfl (hb hby d_304) rfl ?_
    show SS p e below T11 m 39 #[rv a1, rv a2, iv (1 : Int32)] [(.int (1 : Int32)), o0, (.ref a1)] _
    refine XS.iadd X11.here hx rfl (hb hby d_305) rfl ?_
    show SS p e below T11 m 40 #[rv a1, rv a2, iv (1 : Int32)] [(.int (1 : Int32)), (.ref a1)] _
    refine st13 _ ?_
    refine XS.aloadN X13.here hx rfl (hb hby d_307) rfl rfl ?_
    exact retOut X13 hx hret rfl (Or.inr (Or.inr (Or.inr (Or.inr ⟨rfl, rfl, rfl⟩)))) (hb hby d_308) hr
theorem pd_310 : parseMethodDescriptor "(Ljava/lang/String;)Ljava/lang/AbstractStringBuilder;" = some ⟨[(.object "java/lang/String")], some (.object "java/lang/AbstractStringBuilder")⟩ := by decide +kernel
theorem d_311 : decode jdk_67_method_7_code 5 = .ok (.pop, 1) := by decide +kernel
theorem d_312 : decode jdk_67_method_7_code 6 = .ok (.aload_n 0, 1) := by decide +kernel
theorem d_313 : decode jdk_67_method_7_code 7 = .ok (.areturn, 1) := by decide +kernel
def Q31_append (Z : State) (a1 : Addr) (a2 : Addr) (a3 : Addr) (k4 : ClassId) (p5 : Int32) (p6 : Int32) (a7 : Addr) (k8 : ClassId) (h0 : Heap) (n0 : Nat) (v : Option Value) (h : Heap) (L : List Loc) : Prop := v = some (.ref a1) ∧ Fr n0 L ∧ Keep h0 h [a1, a7] ∧ FA43 Z h a1 (.int (1 : Int32)) ∧ FA41 Z h a1 (.ref a7) ∧ Arv Z h a7 k8 .byte (16 : Int32) [(.int p5), o0, o0, o0, o0, o0, o0, o0, o0, o0, o0, o0, o0, o0, o0, o0] o0 ∧ FA42 Z h a1 o0
theorem rm31_append (l : Launch) (Z : State) (a0 : Array Value) (hw : HW Z a0) (a1 : Addr) (a2 : Addr) (a3 : Addr) (k4 : ClassId) (p5 : Int32) (p6 : Int32) (a7 : Addr) (k8 : ClassId) (h0 : Heap) (n0 : Nat) (O0 : Old Z n0 h0) (F_0 : EA44 Z h0 a2) (F_1 : FA37 Z h0 a2 (.ref a3)) (F_2 : Arv Z h0 a3 k4 .byte (1 : Int32) [(.int p5)] o0) (S_3 : SA48 Z Z.heap (.int p6)) (hc_4 : ¬ (p6 = (0 : Int32))) (F_5 : FA38 Z h0 a2 o0) (F_6 : FA43 Z h0 a1 o0) (F_7 : EA47 Z h0 a1) (F_8 : FA41 Z h0 a1 (.ref a7)) (F_9 : Arv Z h0 a7 k8 .byte (16 : Int32) [o0, o0, o0, o0, o0, o0, o0, o0, o0, o0, o0, o0, o0, o0, o0, o0] o0) (F_10 : FA42 Z h0 a1 o0) (g_11 : n0 ≤ a7) (ne_12 : a1 ≠ a7) (g_13 : n0 ≤ a1) :
    Met l Z [] MY20 jdk_67_method_7_code 2 (some (.object "java/lang/StringBuilder")) ({ frames := 4, cells := 0, slots := 0, locals := 70 } : Room) #[(.ref a1), (.ref a2)] h0 (Q31_append Z a1 a2 a3 k4 p5 p6 a7 k8 h0 n0) := by
  have W := @own_W _ _ hw
  refine own_mk (plainFor_of_name pn_209) ?_
  intro p e s m below meth c s₁ hZ hx hby hml hown hnm hret hlk X0 e0
  have N0 := Fr.nil n0
  obtain ⟨_, _, ⟨T1, L1, k1, n1⟩, -, X1, ⟨Lc1, hQ1, l1, y1, z1⟩, st1⟩ := superBack X0 hx hZ (y := MY19) hown (W 92 rfl) (own_same (y := MY19) (by decide) (W 93 rfl) (own_nf (args := a0) (y := MY15) rfl (W 112 rfl))) (W 93 rfl) (W 94 rfl) (by decide) (backOf (W := 0) (rm30_append l Z a0 hw a1 a2 a3 k4 p5 p6 a7 k8 h0 n0 O0 (F_0) (F_1) (F_2) (S_3) (hc_4) (F_5) (F_6) (F_7) (F_8) (F_9) (F_10) (g_11) (ne_12) (g_13)) hZ (W 96 rfl) (W 79 rfl) (by decide) (by decide)) e0 (Ins.self F_7) (g := (mkF m 2 #[rv a1, rv a2] [(.ref a2), (.ref a1)])) rfl (by rw [hml]; rfl) (W 96 rfl) (argsL := [(.ref a2)]) (rest := []) (lenOf pd_310 rfl) rfl (by show 2 * 0 + _ ≤ _; exact Nat.le_of_eq rfl) (hb hby d_215) (fun _ _ => ⟨rfl, e0, (by decide : 0 + 0 ≤ _), (by decide : 0 + 0 ≤ _)⟩)
  dsimp only [Pt.U, Pt.locs, Pt.cells, Pt.slots] at X1 l1 y1 z1 st1 hQ1
  subst l1 y1 z1
  obtain ⟨rfl, N1q, K1, F1_0, F1_1, F1_2, F1_3⟩ := hQ1
  have N2 := Fr.app N0 N1q
  have O3 := O0.keep K1 (allS g_11 (allS g_13 all0))
  have K4 : Keep h0 T1.heap [a1, a7] := Keep.trans (Keep.refl h0 [a1, a7]) K1 (allS (Or.inl (List.mem_of_getElem? (i := 1) rfl)) (allS (Or.inl (List.mem_of_getElem? (i := 0) rfl)) all0))
  refine ⟨T1, some (.ref a1), _, _, _, X1, by decide, by decide, nofun, ?_, fun fs hr => castTop (ef_33 m a1 a2) ?_⟩
  · show Q31_append Z a1 a2 a3 k4 p5 p6 a7 k8 h0 n0 _ T1.heap _
    exact ⟨rfl, N2, K4, F1_0, F1_1, F1_2, F1_3⟩
  · show SS p e below s₁ m 0 #[rv a1, rv a2] [] _
    refine XS.aloadN X0.here hx rfl (hb hby d_213) rfl rfl ?_
    refine XS.aloadN X0.here hx rfl (hb hby d_214) rfl rfl ?_
    refine st1.trans ?_
    refine XS.pop X1.here hx rfl (hb hby d_311) rfl rfl ?_
    refine XS.aloadN X1.here hx rfl (hb hby d_312) rfl rfl ?_
    exact retOut X1 hx hret rfl (Or.inr (Or.inr (Or.inr (Or.inr ⟨rfl, rfl, rfl⟩)))) (hb hby d_313) hr
theorem pd_314 : parseMethodDescriptor "(Ljava/lang/String;)Ljava/lang/StringBuilder;" = some ⟨[(.object "java/lang/String")], some (.object "java/lang/StringBuilder")⟩ := by decide +kernel
theorem d_315 : decode prog_7_method_2_code 31 = .ok (.ldc 29, 2) := by decide +kernel
theorem d_316 : decode prog_7_method_2_code 33 = .ok (.invokevirtual 25, 3) := by decide +kernel
theorem ef_317 (m : MethodId) (a1 : Addr) : entryFrame m #[(.ref a1), (.int (3 : Int32))] 3 = mkF m 0 #[rv a1, iv (3 : Int32), .unset] [] := by first | (simp [entryFrame, mkF, argsToLocals, Value.category]; done) | rfl
def Q32_ensureCapacityInternal (Z : State) (a1 : Addr) (a2 : Addr) (k3 : ClassId) (p4 : Int32) (h0 : Heap) (n0 : Nat) (v : Option Value) (h : Heap) (L : List Loc) : Prop := v = none ∧ Fr n0 L ∧ h = h0
theorem rm32_ensureCapacityInternal (l : Launch) (Z : State) (a0 : Array Value) (hw : HW Z a0) (a1 : Addr) (a2 : Addr) (k3 : ClassId) (p4 : Int32) (h0 : Heap) (n0 : Nat) (O0 : Old Z n0 h0) (F_0 : FA41 Z h0 a1 (.ref a2)) (F_1 : Arv Z h0 a2 k3 .byte (16 : Int32) [(.int p4), o0, o0, o0, o0, o0, o0, o0, o0, o0, o0, o0, o0, o0, o0, o0] o0) (F_2 : FA42 Z h0 a1 o0) :
    Met l Z [] MY15 jdk_68_method_9_code 3 none ({ frames := 0, cells := 0, slots := 0, locals := 0 } : Room) #[(.ref a1), (.int (3 : Int32))] h0 (Q32_ensureCapacityInternal Z a1 a2 k3 p4 h0 n0) := by
  have W := @own_W _ _ hw
  refine own_mk (plainFor_of_name pn_206) ?_
  intro p e s m below meth c s₁ hZ hx hby hml hown hnm hret hlk X0 e0
  have N0 := Fr.nil n0
  obtain ⟨T1, X1, e1, st1⟩ := getF X0 hx hZ hown (host := "") (Or.inl (W 83 rfl)) Via.refl e0 F_0 (g := (mkF m 1 #[rv a1, iv (3 : Int32), .unset] [(.ref a1)])) rfl rfl (hb hby d_243)
  obtain ⟨c2, A2, q2, S2, N2, H2, G2⟩ := id F_1
  obtain ⟨T3, X3, e3, st3⟩ := getF X1 hx hZ hown (host := "") (Or.inl (W 85 rfl)) Via.refl e1 F_2 (g := (mkF m 6 #[rv a1, iv (3 : Int32), .unset] [(.ref a1), (.int (16 : Int32))])) rfl rfl (hb hby d_246)
  refine ⟨T3, none, _, _, _, X3, by decide, by decide, (fun _ => rfl), ?_, fun fs hr => castTop (ef_317 m a1) ?_⟩
  · show Q32_ensureCapacityInternal Z a1 a2 k3 p4 h0 n0 _ T3.heap _
    rw [e3]
    exact ⟨rfl, N0, rfl⟩
  · show SS p e below s₁ m 0 #[rv a1, iv (3 : Int32), .unset] [] _
    refine XS.aloadN X0.here hx rfl (hb hby d_242) rfl rfl ?_
    refine st1 _ ?_
    refine X1.arraylength hx (by rw [e1]; exact A2.1) (State.isArrayOf_alike hZ.alike A2.2.1) (g := (mkF m 4 #[rv a1, iv (3 : Int32), .unset] [(.ref a2)])) rfl rfl (hb hby d_244) _ ?_
    rw [len_of S2 N2]
    refine XS.aloadN X1.here hx rfl (hb hby d_245) rfl rfl ?_
    refine st3 _ ?_
    refine XS.ishr X3.here hx rfl (hb hby d_247) rfl ?_
    show SS p e below T3 m 10 #[rv a1, iv (3 : Int32), .unset] [(.int (16 : Int32))] _
    refine XS.istoreN X3.here hx rfl (hb hby d_248) rfl (l' := #[rv a1, iv (3 : Int32), iv (16 : Int32)]) rfl ?_
    refine XS.iloadN X3.here hx rfl (hb hby d_249) rfl ?_
    refine XS.iloadN X3.here hx rfl (hb hby d_250) rfl ?_
    refine XS.isub X3.here hx rfl (hb hby d_251) rfl ?_
    show SS p e below T3 m 14 #[rv a1, iv (3 : Int32), iv (16 : Int32)] [(.int (-13 : Int32))] _
    refine XS.ifYes X3.here hx rfl (pc0 := 14) (pc' := 38) rfl (hb hby d_252) rfl ((if0 _ _).trans (flt (by decide : ¬ ((0 : Int32) < (-13 : Int32)))).2.2.2) (by decide) (by decide) ?_
    exact X3.returnOut hx hret (hb hby d_253) hr
theorem ef_318 (m : MethodId) (a1 : Addr) (a2 : Addr) : entryFrame m #[(.ref a1), (.ref a2), (.int (1 : Int32)), o0] 4 = mkF m 0 #[rv a1, rv a2, iv (1 : Int32), .val o0] [] := by first | (simp [entryFrame, mkF, argsToLocals, Value.category]; done) | rfl
def Q33_getBytes (Z : State) (a1 : Addr) (a2 : Addr) (p3 : Int32) (a4 : Addr) (k5 : ClassId) (k6 : ClassId) (p7 : Int32) (h0 : Heap) (n0 : Nat) (v : Option Value) (h : Heap) (L : List Loc) : Prop := v = none ∧ Fr n0 L ∧ Keep h0 h [a2] ∧ Arv Z h a2 k6 .byte (16 : Int32) [(.int p7), (.int (58 : Int32)), (.int (32 : Int32)), o0, o0, o0, o0, o0, o0, o0, o0, o0, o0, o0, o0, o0] o0
theorem rm33_getBytes (l : Launch) (Z : State) (a0 : Array Value) (hw : HW Z a0) (a1 : Addr) (a2 : Addr) (p3 : Int32) (a4 : Addr) (k5 : ClassId) (k6 : ClassId) (p7 : Int32) (h0 : Heap) (n0 : Nat) (O0 : Old Z n0 h0) (F_0 : EA44 Z h0 a1) (S_1 : SA48 Z Z.heap (.int p3)) (hc_2 : ¬ (p3 = (0 : Int32))) (F_3 : FA38 Z h0 a1 o0) (F_4 : FA37 Z h0 a1 (.ref a4)) (F_5 : Arv Z h0 a4 k5 .byte (2 : Int32) [(.int (58 : Int32)), (.int (32 : Int32))] o0) (F_6 : Arv Z h0 a2 k6 .byte (16 : Int32) [(.int p7), o0, o0, o0, o0, o0, o0, o0, o0, o0, o0, o0, o0, o0, o0, o0] o0) (g_7 : n0 ≤ a2) :
    Met l Z [] MY17 jdk_42_method_147_code 4 none ({ frames := 1, cells := 0, slots := 0, locals := 27 } : Room) #[(.ref a1), (.ref a2), (.int (1 : Int32)), o0] h0 (Q33_getBytes Z a1 a2 p3 a4 k5 k6 p7 h0 n0) := by
  have W := @own_W _ _ hw
  refine own_mk (plainFor_of_name pn_30) ?_
  intro p e s m below meth c s₁ hZ hx hby hml hown hnm hret hlk X0 e0
  have N0 := Fr.nil n0
  obtain ⟨_, T1, L1, X1, hQ1, st1⟩ := own_cv X0 hx hZ hown hml (W 102 rfl) (W 103 rfl) (notFace_of_selects (W 105 rfl)) (W 105 rfl) (W 104 rfl) (W 7 rfl) (W 106 rfl) (rm24_coder l Z a0 hw a1 p3 h0 n0 O0 (S_1) (hc_2) (F_3)) e0 F_0 (hb hby d_280) 0 #[rv a1, rv a2, iv (1 : Int32), .val o0] [] [] pd_231
  obtain ⟨rfl, N1q, K1⟩ := hQ1
  have N2 := Fr.app N0 N1q
  obtain ⟨T3, X3, e3, st3⟩ := getF X1 hx hZ hown (host := "") (Or.inl (W 25 rfl)) Via.refl K1 F_4 (g := (mkF m 9 #[rv a1, rv a2, iv (1 : Int32), .val o0] [(.ref a1)])) rfl rfl (hb hby d_284)
  obtain ⟨T4, X4, e4, st4⟩ := getF X3 hx hZ hown (host := "") (Or.inl (W 25 rfl)) Via.refl e3 F_4 (g := (mkF m 18 #[rv a1, rv a2, iv (1 : Int32), .val o0] [(.ref a1), (.int (1 : Int32)), (.ref a2), o0, (.ref a4)])) rfl rfl (hb hby d_291)
  obtain ⟨c5, A5, q5, S5, N5, H5, G5⟩ := id F_5
  obtain ⟨T6, h6, Lc6, X6, e6, N6, K6, V6, st6⟩ := cpA X4 hx hZ hown (W 130 rfl) (W 133 rfl) (W 131 rfl) (W 132 rfl) e4 F_5 F_6 (Or.inl ⟨rfl, rfl⟩) (sp := (0 : Int32)) (dp := (1 : Int32)) (nn := (2 : Int32)) (by decide) (by decide) (by decide) (by decide) (by decide) (us := [(.int (58 : Int32)), (.int (32 : Int32))]) rfl (Nat.le_of_ble_eq_true rfl) N2 g_7 (g := (mkF m 22 #[rv a1, rv a2, iv (1 : Int32), .val o0] [(.int (2 : Int32)), (.int (1 : Int32)), (.ref a2), o0, (.ref a4)])) rfl (by rw [hml]; rfl) rfl (hb hby d_293) (by decide) (W := 0) (by show 2 * 0 + _ ≤ _; exact Nat.le_of_eq rfl) (by decide)
  have O7 := O0.keep K6 (allS g_7 all0)
  have K8 : Keep h0 h6 [a2] := Keep.trans (Keep.refl h0 [a2]) K6 (allS (Or.inl (List.mem_of_getElem? (i := 0) rfl)) all0)
  have v9 : Arv Z h6 a2 k6 .byte (16 : Int32) [(.int p7), (.int (58 : Int32)), (.int (32 : Int32)), o0, o0, o0, o0, o0, o0, o0, o0, o0, o0, o0, o0, o0] o0 := V6
  refine ⟨T6, none, _, _, _, X6, by decide, by decide, (fun _ => rfl), ?_, fun fs hr => castTop (ef_318 m a1 a2) ?_⟩
  · show Q33_getBytes Z a1 a2 p3 a4 k5 k6 p7 h0 n0 _ T6.heap _
    rw [e6]
    exact ⟨rfl, N6, K8, v9⟩
  · show SS p e below s₁ m 0 #[rv a1, rv a2, iv (1 : Int32), .val o0] [] _
    refine XS.aloadN X0.here hx rfl (hb hby d_279) rfl rfl ?_
    refine st1 _ ?_
    refine XS.iloadN X1.here hx rfl (hb hby d_281) rfl ?_
    refine XS.icmpNo X1.here hx rfl (hb hby d_282) rfl (teq (by decide : (0 : Int32) = (0 : Int32))).2 ?_
    refine XS.aloadN X1.here hx rfl (hb hby d_283) rfl rfl ?_
    refine st3 _ ?_
    refine XS.iconst X3.here hx rfl (hb hby d_285) ?_
    refine XS.aloadN X3.here hx rfl (hb hby d_286) rfl rfl ?_
    refine XS.iloadN X3.here hx rfl (hb hby d_287) rfl ?_
    refine XS.iloadN X3.here hx rfl (hb hby d_288) rfl ?_
    show SS p e below T3 m 16 #[rv a1, rv a2, iv (1 : Int32), .val o0] [o0, (.int (1 : Int32)), (.ref a2), o0, (.ref a4)] _
    refine XS.ishl X3.here hx rfl (hb hby d_289) rfl ?_
    show SS p e below T3 m 17 #[rv a1, rv a2, iv (1 : Int32), .val o0] [(.int (1 : Int32)), (.ref a2), o0, (.ref a4)] _
    refine XS.aloadN X3.here hx rfl (hb hby d_290) rfl rfl ?_
    refine st4 _ ?_
    refine X4.arraylength hx (by rw [e4]; exact A5.1) (State.isArrayOf_alike hZ.alike A5.2.1) (g := (mkF m 21 #[rv a1, rv a2, iv (1 : Int32), .val o0] [(.ref a4), (.int (1 : Int32)), (.ref a2), o0, (.ref a4)])) rfl rfl (hb hby d_292) _ ?_
    rw [len_of S5 N5]
    refine st6 _ ?_
    refine XS.goto X6.here hx rfl (pc0 := 25) (pc' := 43) rfl (hb hby d_294) (by decide) (by decide) ?_
    exact X6.returnOut hx hret (hb hby d_295) hr
theorem ef_319 (m : MethodId) (a1 : Addr) (a2 : Addr) : entryFrame m #[(.ref a1), (.int (1 : Int32)), (.ref a2)] 3 = mkF m 0 #[rv a1, iv (1 : Int32), rv a2] [] := by first | (simp [entryFrame, mkF, argsToLocals, Value.category]; done) | rfl
def Q34_putStringAt (Z : State) (a1 : Addr) (a2 : Addr) (p3 : Int32) (a4 : Addr) (a5 : Addr) (k6 : ClassId) (k7 : ClassId) (p8 : Int32) (h0 : Heap) (n0 : Nat) (v : Option Value) (h : Heap) (L : List Loc) : Prop := v = none ∧ Fr n0 L ∧ Keep h0 h [a4] ∧ Arv Z h a4 k7 .byte (16 : Int32) [(.int p8), (.int (58 : Int32)), (.int (32 : Int32)), o0, o0, o0, o0, o0, o0, o0, o0, o0, o0, o0, o0, o0] o0
theorem rm34_putStringAt (l : Launch) (Z : State) (a0 : Array Value) (hw : HW Z a0) (a1 : Addr) (a2 : Addr) (p3 : Int32) (a4 : Addr) (a5 : Addr) (k6 : ClassId) (k7 : ClassId) (p8 : Int32) (h0 : Heap) (n0 : Nat) (O0 : Old Z n0 h0) (F_0 : EA47 Z h0 a1) (S_1 : SA48 Z Z.heap (.int p3)) (hc_2 : ¬ (p3 = (0 : Int32))) (F_3 : FA42 Z h0 a1 o0) (F_4 : EA44 Z h0 a2) (F_5 : FA38 Z h0 a2 o0) (F_6 : FA41 Z h0 a1 (.ref a4)) (F_7 : FA37 Z h0 a2 (.ref a5)) (F_8 : Arv Z h0 a5 k6 .byte (2 : Int32) [(.int (58 : Int32)), (.int (32 : Int32))] o0) (F_9 : Arv Z h0 a4 k7 .byte (16 : Int32) [(.int p8), o0, o0, o0, o0, o0, o0, o0, o0, o0, o0, o0, o0, o0, o0, o0] o0) (g_10 : n0 ≤ a4) :
    Met l Z [] MY18 jdk_68_method_73_code 3 none ({ frames := 2, cells := 0, slots := 0, locals := 42 } : Room) #[(.ref a1), (.int (1 : Int32)), (.ref a2)] h0 (Q34_putStringAt Z a1 a2 p3 a4 a5 k6 k7 p8 h0 n0) := by
  have W := @own_W _ _ hw
  refine own_mk (plainFor_of_name pn_206) ?_
  intro p e s m below meth c s₁ hZ hx hby hml hown hnm hret hlk X0 e0
  have N0 := Fr.nil n0
  obtain ⟨_, T1, L1, X1, hQ1, st1⟩ := own_cv X0 hx hZ hown hml (W 119 rfl) (own_decl (y := MY16) (W 120 rfl) (W 123 rfl)) (notFace_of_selects (W 122 rfl)) (W 122 rfl) (W 120 rfl) (W 79 rfl) (W 123 rfl) (rm27_inflateIfNeededFor l Z a0 hw a1 a2 p3 h0 n0 O0 (S_1) (hc_2) (F_3) (F_4) (F_5)) e0 F_0 (hb hby d_262) 0 #[rv a1, iv (1 : Int32), rv a2] [(.ref a2)] [] pd_271
  obtain ⟨rfl, N1q, K1⟩ := hQ1
  have N2 := Fr.app N0 N1q
  obtain ⟨T3, X3, e3, st3⟩ := getF X1 hx hZ hown (host := "") (Or.inl (W 83 rfl)) Via.refl K1 F_6 (g := (mkF m 7 #[rv a1, iv (1 : Int32), rv a2] [(.ref a1), (.ref a2)])) rfl rfl (hb hby d_274)
  obtain ⟨T4, X4, e4, st4⟩ := getF X3 hx hZ hown (host := "") (Or.inl (W 85 rfl)) Via.refl e3 F_3 (g := (mkF m 12 #[rv a1, iv (1 : Int32), rv a2] [(.ref a1), (.int (1 : Int32)), (.ref a4), (.ref a2)])) rfl rfl (hb hby d_277)
  obtain ⟨_, T5, L5, X5, hQ5, st5⟩ := own_cv X4 hx hZ hown hml (W 125 rfl) (W 126 rfl) (notFace_of_selects (W 128 rfl)) (W 128 rfl) (W 127 rfl) (W 7 rfl) (W 129 rfl) (rm33_getBytes l Z a0 hw a2 a4 p3 a5 k6 k7 p8 h0 n0 O0 (F_4) (S_1) (hc_2) (F_5) (F_7) (F_8) (F_9) (g_10)) e4 F_4 (hb hby d_278) 0 #[rv a1, iv (1 : Int32), rv a2] [(.ref a4), (.int (1 : Int32)), o0] [] pd_297
  obtain ⟨rfl, N5q, K5, F5_0⟩ := hQ5
  have N6 := Fr.app N2 N5q
  have O7 := O0.keep K5 (allS g_10 all0)
  have K8 : Keep h0 T5.heap [a4] := Keep.trans (Keep.refl h0 [a4]) K5 (allS (Or.inl (List.mem_of_getElem? (i := 0) rfl)) all0)
  refine ⟨T5, none, _, _, _, X5, by decide, by decide, (fun _ => rfl), ?_, fun fs hr => castTop (ef_319 m a1 a2) ?_⟩
  · show Q34_putStringAt Z a1 a2 p3 a4 a5 k6 k7 p8 h0 n0 _ T5.heap _
    exact ⟨rfl, N6, K8, F5_0⟩
  · show SS p e below s₁ m 0 #[rv a1, iv (1 : Int32), rv a2] [] _
    refine XS.aloadN X0.here hx rfl (hb hby d_260) rfl rfl ?_
    refine XS.aloadN X0.here hx rfl (hb hby d_261) rfl rfl ?_
    refine st1 _ ?_
    refine XS.aloadN X1.here hx rfl (hb hby d_272) rfl rfl ?_
    refine XS.aloadN X1.here hx rfl (hb hby d_273) rfl rfl ?_
    refine st3 _ ?_
    refine XS.iloadN X3.here hx rfl (hb hby d_275) rfl ?_
    refine XS.aloadN X3.here hx rfl (hb hby d_276) rfl rfl ?_
    refine st4 _ ?_
    refine st5 _ ?_
    show SS p e below T5 m 18 #[rv a1, iv (1 : Int32), rv a2] [] _
    exact X5.returnOut hx hret (hb hby d_298) hr
def Q35_append (Z : State) (a1 : Addr) (a2 : Addr) (a3 : Addr) (k4 : ClassId) (p5 : Int32) (a6 : Addr) (k7 : ClassId) (p8 : Int32) (h0 : Heap) (n0 : Nat) (v : Option Value) (h : Heap) (L : List Loc) : Prop := v = some (.ref a1) ∧ Fr n0 L ∧ Keep h0 h [a6, a1] ∧ FA43 Z h a1 (.int (3 : Int32)) ∧ FA41 Z h a1 (.ref a6) ∧ Arv Z h a6 k7 .byte (16 : Int32) [(.int p8), (.int (58 : Int32)), (.int (32 : Int32)), o0, o0, o0, o0, o0, o0, o0, o0, o0, o0, o0, o0, o0] o0 ∧ FA42 Z h a1 o0
theorem rm35_append (l : Launch) (Z : State) (a0 : Array Value) (hw : HW Z a0) (a1 : Addr) (a2 : Addr) (a3 : Addr) (k4 : ClassId) (p5 : Int32) (a6 : Addr) (k7 : ClassId) (p8 : Int32) (h0 : Heap) (n0 : Nat) (O0 : Old Z n0 h0) (F_0 : EA44 Z h0 a2) (F_1 : FA37 Z h0 a2 (.ref a3)) (F_2 : Arv Z h0 a3 k4 .byte (2 : Int32) [(.int (58 : Int32)), (.int (32 : Int32))] o0) (S_3 : SA48 Z Z.heap (.int p5)) (hc_4 : ¬ (p5 = (0 : Int32))) (F_5 : FA38 Z h0 a2 o0) (F_6 : FA43 Z h0 a1 (.int (1 : Int32))) (F_7 : EA47 Z h0 a1) (F_8 : FA41 Z h0 a1 (.ref a6)) (F_9 : Arv Z h0 a6 k7 .byte (16 : Int32) [(.int p8), o0, o0, o0, o0, o0, o0, o0, o0, o0, o0, o0, o0, o0, o0, o0] o0) (F_10 : FA42 Z h0 a1 o0) (g_11 : n0 ≤ a6) (ne_12 : a1 ≠ a6) (g_13 : n0 ≤ a1) :
    Met l Z [] MY19 jdk_68_method_22_code 3 (some (.object "java/lang/AbstractStringBuilder")) ({ frames := 3, cells := 0, slots := 0, locals := 56 } : Room) #[(.ref a1), (.ref a2)] h0 (Q35_append Z a1 a2 a3 k4 p5 a6 k7 p8 h0 n0) := by
  have W := @own_W _ _ hw
  refine own_mk (plainFor_of_name pn_206) ?_
  intro p e s m below meth c s₁ hZ hx hby hml hown hnm hret hlk X0 e0
  have N0 := Fr.nil n0
  obtain ⟨_, T1, L1, X1, hQ1, st1⟩ := own_cv X0 hx hZ hown hml (W 97 rfl) (W 98 rfl) (notFace_of_selects (W 100 rfl)) (W 100 rfl) (W 99 rfl) (W 7 rfl) (W 101 rfl) (rm25_length l Z a0 hw a2 a3 k4 (2 : Int32) [(.int (58 : Int32)), (.int (32 : Int32))] p5 h0 n0 O0 (F_1) (F_2) (F_0) (S_3) (hc_4) (F_5) ((by decide))) e0 F_0 (hb hby d_219) 0 #[rv a1, rv a2, .unset] [] [] pd_234
  obtain ⟨rfl, N1q, K1⟩ := hQ1
  have N2 := Fr.app N0 N1q
  obtain ⟨T3, X3, e3, st3⟩ := getF X1 hx hZ hown (host := "") (Or.inl (W 107 rfl)) Via.refl K1 F_6 (g := (mkF m 16 #[rv a1, rv a2, iv (2 : Int32)] [(.ref a1), (.ref a1)])) rfl rfl (hb hby d_238)
  obtain ⟨_, T4, L4, X4, hQ4, st4⟩ := own_cv X3 hx hZ hown hml (W 109 rfl) (own_decl (y := MY15) (W 110 rfl) (W 113 rfl)) (notFace_of_selects (W 112 rfl)) (W 112 rfl) (W 110 rfl) (W 79 rfl) (W 113 rfl) (rm32_ensureCapacityInternal l Z a0 hw a1 a6 k7 p8 h0 n0 O0 (F_8) (F_9) (F_10)) e3 F_7 (hb hby d_241) 0 #[rv a1, rv a2, iv (2 : Int32)] [(.int (3 : Int32))] [] pd_207
  obtain ⟨rfl, N4q, K4⟩ := hQ4
  have N5 := Fr.app N2 N4q
  obtain ⟨T6, X6, e6, st6⟩ := getF X4 hx hZ hown (host := "") (Or.inl (W 107 rfl)) Via.refl K4 F_6 (g := (mkF m 26 #[rv a1, rv a2, iv (2 : Int32)] [(.ref a1), (.ref a1)])) rfl rfl (hb hby d_257)
  obtain ⟨_, T7, L7, X7, hQ7, st7⟩ := own_cv X6 hx hZ hown hml (W 114 rfl) (own_decl (y := MY18) (W 115 rfl) (W 118 rfl)) (notFace_of_selects (W 117 rfl)) (W 117 rfl) (W 115 rfl) (W 79 rfl) (W 118 rfl) (rm34_putStringAt l Z a0 hw a1 a2 p5 a6 a3 k4 k7 p8 h0 n0 O0 (F_7) (S_3) (hc_4) (F_10) (F_0) (F_5) (F_8) (F_1) (F_2) (F_9) (g_11)) e6 F_7 (hb hby d_259) 0 #[rv a1, rv a2, iv (2 : Int32)] [(.int (1 : Int32)), (.ref a2)] [] pd_300
  obtain ⟨rfl, N7q, K7, F7_0⟩ := hQ7
  have N8 := Fr.app N5 N7q
  have O9 := O0.keep K7 (allS g_11 all0)
  have K10 : Keep h0 T7.heap [a6, a1] := Keep.trans (Keep.refl h0 [a6, a1]) K7 (allS (Or.inl (List.mem_of_getElem? (i := 0) rfl)) all0)
  have f12 := (F_6.keep K7 (ninS ne_12 nin0))
  obtain ⟨T11, X11, e11, st11⟩ := getF X7 hx hZ hown (host := "") (Or.inl (W 107 rfl)) Via.refl rfl f12 (g := (mkF m 35 #[rv a1, rv a2, iv (2 : Int32)] [(.ref a1), (.ref a1)])) rfl rfl (hb hby d_303)
  have f14 := (F_7.keep K7)
  obtain ⟨T13, h13, X13, e13, W13, st13⟩ := putF X11 hx hZ hown (host := "") (Or.inl (W 107 rfl)) Via.refl e11 f12 f14 (Or.inl (W 108 rfl)) (W 70 rfl) (ty := .int) (by decide) rfl rfl (g := (mkF m 40 #[rv a1, rv a2, iv (2 : Int32)] [(.int (3 : Int32)), (.ref a1)])) rfl rfl (hb hby d_306)
  have O15 := O9.wr W13 g_13
  have K16 : Keep h0 h13 [a6, a1] := Keep.wr K10 W13 (Or.inl (List.mem_of_getElem? (i := 1) rfl))
  have f17 : FA43 Z h13 a1 (.int (3 : Int32)) := (f12.same W13)
  have N18 := Fr.snoc X13 N8 g_13
  have f19 := ((F_8.keep K7 (ninS ne_12 nin0)).other W13 (Or.inr (slot_ne (Or.inl (W 84 rfl)) (Or.inl (W 108 rfl)) (by decide) (t := (.array .byte)) (t' := .int) (by decide) (by decide))))
  have f20 := (F7_0.other W13 (Ne.symm ne_12))
  have f21 := ((F_10.keep K7 (ninS ne_12 nin0)).other W13 (Or.inr (slot_ne (Or.inl (W 86 rfl)) (Or.inl (W 108 rfl)) (by decide) (t := .byte) (t' := .int) (by decide) (by decide))))
  refine ⟨T13, some (.ref a1), _, _, _, X13, by decide, by decide, nofun, ?_, fun fs hr => castTop (ef_309 m a1 a2) ?_⟩
  · show Q35_append Z a1 a2 a3 k4 p5 a6 k7 p8 h0 n0 _ T13.heap _
    rw [e13]
    exact ⟨rfl, N18, K16, f17, f19, f20, f21⟩
  · show SS p e below s₁ m 0 #[rv a1, rv a2, .unset] [] _
    refine XS.aloadN X0.here hx rfl (hb hby d_216) rfl rfl ?_
    refine XS.ifnonnullYes X0.here hx rfl (pc0 := 1) (pc' := 9) rfl (hb hby d_217) rfl (by decide) (by decide) ?_
    refine XS.aloadN X0.here hx rfl (hb hby d_218) rfl rfl ?_
    refine st1 _ ?_
    refine XS.istoreN X1.here hx rfl (hb hby d_235) rfl (l' := #[rv a1, rv a2, iv (2 : Int32)]) rfl ?_
    refine XS.aloadN X1.here hx rfl (hb hby d_236) rfl rfl ?_
    refine XS.aloadN X1.here hx rfl (hb hby d_237) rfl rfl ?_
    refine st3 _ ?_
    refine XS.iloadN X3.here hx rfl (hb hby d_239) rfl ?_
    refine XS.iadd X3.here hx rfl (hb hby d_240) rfl ?_
    show SS p e below T3 m 21 #[rv a1, rv a2, iv (2 : Int32)] [(.int (3 : Int32)), (.ref a1)] _
    refine st4 _ ?_
    refine XS.aloadN X4.here hx rfl (hb hby d_255) rfl rfl ?_
    refine XS.aloadN X4.here hx rfl (hb hby d_256) rfl rfl ?_
    refine st6 _ ?_
    refine XS.aloadN X6.here hx rfl (hb hby d_258) rfl rfl ?_
    refine st7 _ ?_
    refine XS.aloadN X7.here hx rfl (hb hby d_301) rfl rfl ?_
    refine XS.dup X7.here hx rfl (hb hby d_302) rfl rfl ?_
    refine st11 _ ?_
    refine XS.iloadN X11.here hx rfl (hb hby d_304) rfl ?_
    show SS p e below T11 m 39 #[rv a1, rv a2, iv (2 : Int32)] [(.int (2 : Int32)), (.int (1 : Int32)), (.ref a1)] _
    refine XS.iadd X11.here hx rfl (hb hby d_305) rfl ?_
    show SS p e below T11 m 40 #[rv a1, rv a2, iv (2 : Int32)] [(.int (3 : Int32)), (.ref a1)] _
    refine st13 _ ?_
    refine XS.aloadN X13.here hx rfl (hb hby d_307) rfl rfl ?_
    exact retOut X13 hx hret rfl (Or.inr (Or.inr (Or.inr (Or.inr ⟨rfl, rfl, rfl⟩)))) (hb hby d_308) hr
def Q36_append (Z : State) (a1 : Addr) (a2 : Addr) (a3 : Addr) (k4 : ClassId) (p5 : Int32) (a6 : Addr) (k7 : ClassId) (p8 : Int32) (h0 : Heap) (n0 : Nat) (v : Option Value) (h : Heap) (L : List Loc) : Prop := v = some (.ref a1) ∧ Fr n0 L ∧ Keep h0 h [a1, a6] ∧ FA43 Z h a1 (.int (3 : Int32)) ∧ FA41 Z h a1 (.ref a6) ∧ Arv Z h a6 k7 .byte (16 : Int32) [(.int p8), (.int (58 : Int32)), (.int (32 : Int32)), o0, o0, o0, o0, o0, o0, o0, o0, o0, o0, o0, o0, o0] o0 ∧ FA42 Z h a1 o0
theorem rm36_append (l : Launch) (Z : State) (a0 : Array Value) (hw : HW Z a0) (a1 : Addr) (a2 : Addr) (a3 : Addr) (k4 : ClassId) (p5 : Int32) (a6 : Addr) (k7 : ClassId) (p8 : Int32) (h0 : Heap) (n0 : Nat) (O0 : Old Z n0 h0) (F_0 : EA44 Z h0 a2) (F_1 : FA37 Z h0 a2 (.ref a3)) (F_2 : Arv Z h0 a3 k4 .byte (2 : Int32) [(.int (58 : Int32)), (.int (32 : Int32))] o0) (S_3 : SA48 Z Z.heap (.int p5)) (hc_4 : ¬ (p5 = (0 : Int32))) (F_5 : FA38 Z h0 a2 o0) (F_6 : FA43 Z h0 a1 (.int (1 : Int32))) (F_7 : EA47 Z h0 a1) (F_8 : FA41 Z h0 a1 (.ref a6)) (F_9 : Arv Z h0 a6 k7 .byte (16 : Int32) [(.int p8), o0, o0, o0, o0, o0, o0, o0, o0, o0, o0, o0, o0, o0, o0, o0] o0) (F_10 : FA42 Z h0 a1 o0) (g_11 : n0 ≤ a6) (ne_12 : a1 ≠ a6) (g_13 : n0 ≤ a1) :
    Met l Z [] MY20 jdk_67_method_7_code 2 (some (.object "java/lang/StringBuilder")) ({ frames := 4, cells := 0, slots := 0, locals := 70 } : Room) #[(.ref a1), (.ref a2)] h0 (Q36_append Z a1 a2 a3 k4 p5 a6 k7 p8 h0 n0) := by
  have W := @own_W _ _ hw
  refine own_mk (plainFor_of_name pn_209) ?_
  intro p e s m below meth c s₁ hZ hx hby hml hown hnm hret hlk X0 e0
  have N0 := Fr.nil n0
  obtain ⟨_, _, ⟨T1, L1, k1, n1⟩, -, X1, ⟨Lc1, hQ1, l1, y1, z1⟩, st1⟩ := superBack X0 hx hZ (y := MY19) hown (W 92 rfl) (own_same (y := MY19) (by decide) (W 93 rfl) (own_nf (args := a0) (y := MY15) rfl (W 112 rfl))) (W 93 rfl) (W 94 rfl) (by decide) (backOf (W := 0) (rm35_append l Z a0 hw a1 a2 a3 k4 p5 a6 k7 p8 h0 n0 O0 (F_0) (F_1) (F_2) (S_3) (hc_4) (F_5) (F_6) (F_7) (F_8) (F_9) (F_10) (g_11) (ne_12) (g_13)) hZ (W 96 rfl) (W 79 rfl) (by decide) (by decide)) e0 (Ins.self F_7) (g := (mkF m 2 #[rv a1, rv a2] [(.ref a2), (.ref a1)])) rfl (by rw [hml]; rfl) (W 96 rfl) (argsL := [(.ref a2)]) (rest := []) (lenOf pd_310 rfl) rfl (by show 2 * 0 + _ ≤ _; exact Nat.le_of_eq rfl) (hb hby d_215) (fun _ _ => ⟨rfl, e0, (by decide : 0 + 0 ≤ _), (by decide : 0 + 0 ≤ _)⟩)
  dsimp only [Pt.U, Pt.locs, Pt.cells, Pt.slots] at X1 l1 y1 z1 st1 hQ1
  subst l1 y1 z1
  obtain ⟨rfl, N1q, K1, F1_0, F1_1, F1_2, F1_3⟩ := hQ1
  have N2 := Fr.app N0 N1q
  have O3 := O0.keep K1 (allS g_11 (allS g_13 all0))
  have K4 : Keep h0 T1.heap [a1, a6] := Keep.trans (Keep.refl h0 [a1, a6]) K1 (allS (Or.inl (List.mem_of_getElem? (i := 1) rfl)) (allS (Or.inl (List.mem_of_getElem? (i := 0) rfl)) all0))
  refine ⟨T1, some (.ref a1), _, _, _, X1, by decide, by decide, nofun, ?_, fun fs hr => castTop (ef_33 m a1 a2) ?_⟩
  · show Q36_append Z a1 a2 a3 k4 p5 a6 k7 p8 h0 n0 _ T1.heap _
    exact ⟨rfl, N2, K4, F1_0, F1_1, F1_2, F1_3⟩
  · show SS p e below s₁ m 0 #[rv a1, rv a2] [] _
    refine XS.aloadN X0.here hx rfl (hb hby d_213) rfl rfl ?_
    refine XS.aloadN X0.here hx rfl (hb hby d_214) rfl rfl ?_
    refine st1.trans ?_
    refine XS.pop X1.here hx rfl (hb hby d_311) rfl rfl ?_
    refine XS.aloadN X1.here hx rfl (hb hby d_312) rfl rfl ?_
    exact retOut X1 hx hret rfl (Or.inr (Or.inr (Or.inr (Or.inr ⟨rfl, rfl, rfl⟩)))) (hb hby d_313) hr
theorem d_320 : decode prog_7_method_2_code 36 = .ok (.aload_n 0, 1) := by decide +kernel
theorem d_321 : decode prog_7_method_2_code 37 = .ok (.getfield 13, 3) := by decide +kernel
theorem d_322 : decode prog_7_method_2_code 40 = .ok (.invokevirtual 25, 3) := by decide +kernel
def Q37_ensureCapacityInternal (Z : State) (a1 : Addr) (a2 : Addr) (k3 : ClassId) (p4 : Int32) (h0 : Heap) (n0 : Nat) (v : Option Value) (h : Heap) (L : List Loc) : Prop := v = none ∧ Fr n0 L ∧ h = h0
theorem rm37_ensureCapacityInternal (l : Launch) (Z : State) (a0 : Array Value) (hw : HW Z a0) (a1 : Addr) (a2 : Addr) (k3 : ClassId) (p4 : Int32) (h0 : Heap) (n0 : Nat) (O0 : Old Z n0 h0) (F_0 : FA41 Z h0 a1 (.ref a2)) (F_1 : Arv Z h0 a2 k3 .byte (16 : Int32) [(.int p4), (.int (58 : Int32)), (.int (32 : Int32)), o0, o0, o0, o0, o0, o0, o0, o0, o0, o0, o0, o0, o0] o0) (F_2 : FA42 Z h0 a1 o0) :
    Met l Z [] MY15 jdk_68_method_9_code 3 none ({ frames := 0, cells := 0, slots := 0, locals := 0 } : Room) #[(.ref a1), (.int (3 : Int32))] h0 (Q37_ensureCapacityInternal Z a1 a2 k3 p4 h0 n0) := by
  have W := @own_W _ _ hw
  refine own_mk (plainFor_of_name pn_206) ?_
  intro p e s m below meth c s₁ hZ hx hby hml hown hnm hret hlk X0 e0
  have N0 := Fr.nil n0
  obtain ⟨T1, X1, e1, st1⟩ := getF X0 hx hZ hown (host := "") (Or.inl (W 83 rfl)) Via.refl e0 F_0 (g := (mkF m 1 #[rv a1, iv (3 : Int32), .unset] [(.ref a1)])) rfl rfl (hb hby d_243)
  obtain ⟨c2, A2, q2, S2, N2, H2, G2⟩ := id F_1
  obtain ⟨T3, X3, e3, st3⟩ := getF X1 hx hZ hown (host := "") (Or.inl (W 85 rfl)) Via.refl e1 F_2 (g := (mkF m 6 #[rv a1, iv (3 : Int32), .unset] [(.ref a1), (.int (16 : Int32))])) rfl rfl (hb hby d_246)
  refine ⟨T3, none, _, _, _, X3, by decide, by decide, (fun _ => rfl), ?_, fun fs hr => castTop (ef_317 m a1) ?_⟩
  · show Q37_ensureCapacityInternal Z a1 a2 k3 p4 h0 n0 _ T3.heap _
    rw [e3]
    exact ⟨rfl, N0, rfl⟩
  · show SS p e below s₁ m 0 #[rv a1, iv (3 : Int32), .unset] [] _
    refine XS.aloadN X0.here hx rfl (hb hby d_242) rfl rfl ?_
    refine st1 _ ?_
    refine X1.arraylength hx (by rw [e1]; exact A2.1) (State.isArrayOf_alike hZ.alike A2.2.1) (g := (mkF m 4 #[rv a1, iv (3 : Int32), .unset] [(.ref a2)])) rfl rfl (hb hby d_244) _ ?_
    rw [len_of S2 N2]
    refine XS.aloadN X1.here hx rfl (hb hby d_245) rfl rfl ?_
    refine st3 _ ?_
    refine XS.ishr X3.here hx rfl (hb hby d_247) rfl ?_
    show SS p e below T3 m 10 #[rv a1, iv (3 : Int32), .unset] [(.int (16 : Int32))] _
    refine XS.istoreN X3.here hx rfl (hb hby d_248) rfl (l' := #[rv a1, iv (3 : Int32), iv (16 : Int32)]) rfl ?_
    refine XS.iloadN X3.here hx rfl (hb hby d_249) rfl ?_
    refine XS.iloadN X3.here hx rfl (hb hby d_250) rfl ?_
    refine XS.isub X3.here hx rfl (hb hby d_251) rfl ?_
    show SS p e below T3 m 14 #[rv a1, iv (3 : Int32), iv (16 : Int32)] [(.int (-13 : Int32))] _
    refine XS.ifYes X3.here hx rfl (pc0 := 14) (pc' := 38) rfl (hb hby d_252) rfl ((if0 _ _).trans (flt (by decide : ¬ ((0 : Int32) < (-13 : Int32)))).2.2.2) (by decide) (by decide) ?_
    exact X3.returnOut hx hret (hb hby d_253) hr
theorem ef_323 (m : MethodId) (a1 : Addr) (a2 : Addr) : entryFrame m #[(.ref a1), (.ref a2), (.int (3 : Int32)), o0] 4 = mkF m 0 #[rv a1, rv a2, iv (3 : Int32), .val o0] [] := by first | (simp [entryFrame, mkF, argsToLocals, Value.category]; done) | rfl
def Q38_getBytes (Z : State) (a1 : Addr) (a2 : Addr) (p3 : Int32) (a4 : Addr) (k5 : ClassId) (k6 : ClassId) (p7 : Int32) (h0 : Heap) (n0 : Nat) (v : Option Value) (h : Heap) (L : List Loc) : Prop := v = none ∧ Fr n0 L ∧ Keep h0 h [a2] ∧ Arv Z h a2 k6 .byte (16 : Int32) [(.int p7), (.int (58 : Int32)), (.int (32 : Int32)), o0, o0, o0, o0, o0, o0, o0, o0, o0, o0, o0, o0, o0] o0
theorem rm38_getBytes (l : Launch) (Z : State) (a0 : Array Value) (hw : HW Z a0) (a1 : Addr) (a2 : Addr) (p3 : Int32) (a4 : Addr) (k5 : ClassId) (k6 : ClassId) (p7 : Int32) (h0 : Heap) (n0 : Nat) (O0 : Old Z n0 h0) (F_0 : EA44 Z h0 a1) (S_1 : SA48 Z Z.heap (.int p3)) (hc_2 : ¬ (p3 = (0 : Int32))) (F_3 : FA38 Z h0 a1 o0) (F_4 : FA37 Z h0 a1 (.ref a4)) (F_5 : Arv Z h0 a4 k5 .byte (0 : Int32) [] o0) (F_6 : Arv Z h0 a2 k6 .byte (16 : Int32) [(.int p7), (.int (58 : Int32)), (.int (32 : Int32)), o0, o0, o0, o0, o0, o0, o0, o0, o0, o0, o0, o0, o0] o0) (g_7 : n0 ≤ a2) :
    Met l Z [] MY17 jdk_42_method_147_code 4 none ({ frames := 1, cells := 0, slots := 0, locals := 27 } : Room) #[(.ref a1), (.ref a2), (.int (3 : Int32)), o0] h0 (Q38_getBytes Z a1 a2 p3 a4 k5 k6 p7 h0 n0) := by
  have W := @own_W _ _ hw
  refine own_mk (plainFor_of_name pn_30) ?_
  intro p e s m below meth c s₁ hZ hx hby hml hown hnm hret hlk X0 e0
  have N0 := Fr.nil n0
  obtain ⟨_, T1, L1, X1, hQ1, st1⟩ := own_cv X0 hx hZ hown hml (W 102 rfl) (W 103 rfl) (notFace_of_selects (W 105 rfl)) (W 105 rfl) (W 104 rfl) (W 7 rfl) (W 106 rfl) (rm24_coder l Z a0 hw a1 p3 h0 n0 O0 (S_1) (hc_2) (F_3)) e0 F_0 (hb hby d_280) 0 #[rv a1, rv a2, iv (3 : Int32), .val o0] [] [] pd_231
  obtain ⟨rfl, N1q, K1⟩ := hQ1
  have N2 := Fr.app N0 N1q
  obtain ⟨T3, X3, e3, st3⟩ := getF X1 hx hZ hown (host := "") (Or.inl (W 25 rfl)) Via.refl K1 F_4 (g := (mkF m 9 #[rv a1, rv a2, iv (3 : Int32), .val o0] [(.ref a1)])) rfl rfl (hb hby d_284)
  obtain ⟨T4, X4, e4, st4⟩ := getF X3 hx hZ hown (host := "") (Or.inl (W 25 rfl)) Via.refl e3 F_4 (g := (mkF m 18 #[rv a1, rv a2, iv (3 : Int32), .val o0] [(.ref a1), (.int (3 : Int32)), (.ref a2), o0, (.ref a4)])) rfl rfl (hb hby d_291)
  obtain ⟨c5, A5, q5, S5, N5, H5, G5⟩ := id F_5
  obtain ⟨T6, h6, Lc6, X6, e6, N6, K6, V6, st6⟩ := cpA X4 hx hZ hown (W 130 rfl) (W 133 rfl) (W 131 rfl) (W 132 rfl) e4 F_5 F_6 (Or.inl ⟨rfl, rfl⟩) (sp := (0 : Int32)) (dp := (3 : Int32)) (nn := (0 : Int32)) (by decide) (by decide) (by decide) (by decide) (by decide) (us := []) rfl (Nat.le_of_ble_eq_true rfl) N2 g_7 (g := (mkF m 22 #[rv a1, rv a2, iv (3 : Int32), .val o0] [o0, (.int (3 : Int32)), (.ref a2), o0, (.ref a4)])) rfl (by rw [hml]; rfl) rfl (hb hby d_293) (by decide) (W := 0) (by show 2 * 0 + _ ≤ _; exact Nat.le_of_eq rfl) (by decide)
  have O7 := O0.keep K6 (allS g_7 all0)
  have K8 : Keep h0 h6 [a2] := Keep.trans (Keep.refl h0 [a2]) K6 (allS (Or.inl (List.mem_of_getElem? (i := 0) rfl)) all0)
  have v9 : Arv Z h6 a2 k6 .byte (16 : Int32) [(.int p7), (.int (58 : Int32)), (.int (32 : Int32)), o0, o0, o0, o0, o0, o0, o0, o0, o0, o0, o0, o0, o0] o0 := V6
  refine ⟨T6, none, _, _, _, X6, by decide, by decide, (fun _ => rfl), ?_, fun fs hr => castTop (ef_323 m a1 a2) ?_⟩
  · show Q38_getBytes Z a1 a2 p3 a4 k5 k6 p7 h0 n0 _ T6.heap _
    rw [e6]
    exact ⟨rfl, N6, K8, v9⟩
  · show SS p e below s₁ m 0 #[rv a1, rv a2, iv (3 : Int32), .val o0] [] _
    refine XS.aloadN X0.here hx rfl (hb hby d_279) rfl rfl ?_
    refine st1 _ ?_
    refine XS.iloadN X1.here hx rfl (hb hby d_281) rfl ?_
    refine XS.icmpNo X1.here hx rfl (hb hby d_282) rfl (teq (by decide : (0 : Int32) = (0 : Int32))).2 ?_
    refine XS.aloadN X1.here hx rfl (hb hby d_283) rfl rfl ?_
    refine st3 _ ?_
    refine XS.iconst X3.here hx rfl (hb hby d_285) ?_
    refine XS.aloadN X3.here hx rfl (hb hby d_286) rfl rfl ?_
    refine XS.iloadN X3.here hx rfl (hb hby d_287) rfl ?_
    refine XS.iloadN X3.here hx rfl (hb hby d_288) rfl ?_
    show SS p e below T3 m 16 #[rv a1, rv a2, iv (3 : Int32), .val o0] [o0, (.int (3 : Int32)), (.ref a2), o0, (.ref a4)] _
    refine XS.ishl X3.here hx rfl (hb hby d_289) rfl ?_
    show SS p e below T3 m 17 #[rv a1, rv a2, iv (3 : Int32), .val o0] [(.int (3 : Int32)), (.ref a2), o0, (.ref a4)] _
    refine XS.aloadN X3.here hx rfl (hb hby d_290) rfl rfl ?_
    refine st4 _ ?_
    refine X4.arraylength hx (by rw [e4]; exact A5.1) (State.isArrayOf_alike hZ.alike A5.2.1) (g := (mkF m 21 #[rv a1, rv a2, iv (3 : Int32), .val o0] [(.ref a4), (.int (3 : Int32)), (.ref a2), o0, (.ref a4)])) rfl rfl (hb hby d_292) _ ?_
    rw [len_of S5 N5]
    refine st6 _ ?_
    refine XS.goto X6.here hx rfl (pc0 := 25) (pc' := 43) rfl (hb hby d_294) (by decide) (by decide) ?_
    exact X6.returnOut hx hret (hb hby d_295) hr
theorem ef_324 (m : MethodId) (a1 : Addr) (a2 : Addr) : entryFrame m #[(.ref a1), (.int (3 : Int32)), (.ref a2)] 3 = mkF m 0 #[rv a1, iv (3 : Int32), rv a2] [] := by first | (simp [entryFrame, mkF, argsToLocals, Value.category]; done) | rfl
def Q39_putStringAt (Z : State) (a1 : Addr) (a2 : Addr) (p3 : Int32) (a4 : Addr) (a5 : Addr) (k6 : ClassId) (k7 : ClassId) (p8 : Int32) (h0 : Heap) (n0 : Nat) (v : Option Value) (h : Heap) (L : List Loc) : Prop := v = none ∧ Fr n0 L ∧ Keep h0 h [a4] ∧ Arv Z h a4 k7 .byte (16 : Int32) [(.int p8), (.int (58 : Int32)), (.int (32 : Int32)), o0, o0, o0, o0, o0, o0, o0, o0, o0, o0, o0, o0, o0] o0
theorem rm39_putStringAt (l : Launch) (Z : State) (a0 : Array Value) (hw : HW Z a0) (a1 : Addr) (a2 : Addr) (p3 : Int32) (a4 : Addr) (a5 : Addr) (k6 : ClassId) (k7 : ClassId) (p8 : Int32) (h0 : Heap) (n0 : Nat) (O0 : Old Z n0 h0) (F_0 : EA47 Z h0 a1) (S_1 : SA48 Z Z.heap (.int p3)) (hc_2 : ¬ (p3 = (0 : Int32))) (F_3 : FA42 Z h0 a1 o0) (F_4 : EA44 Z h0 a2) (F_5 : FA38 Z h0 a2 o0) (F_6 : FA41 Z h0 a1 (.ref a4)) (F_7 : FA37 Z h0 a2 (.ref a5)) (F_8 : Arv Z h0 a5 k6 .byte (0 : Int32) [] o0) (F_9 : Arv Z h0 a4 k7 .byte (16 : Int32) [(.int p8), (.int (58 : Int32)), (.int (32 : Int32)), o0, o0, o0, o0, o0, o0, o0, o0, o0, o0, o0, o0, o0] o0) (g_10 : n0 ≤ a4) :
    Met l Z [] MY18 jdk_68_method_73_code 3 none ({ frames := 2, cells := 0, slots := 0, locals := 42 } : Room) #[(.ref a1), (.int (3 : Int32)), (.ref a2)] h0 (Q39_putStringAt Z a1 a2 p3 a4 a5 k6 k7 p8 h0 n0) := by
  have W := @own_W _ _ hw
  refine own_mk (plainFor_of_name pn_206) ?_
  intro p e s m below meth c s₁ hZ hx hby hml hown hnm hret hlk X0 e0
  have N0 := Fr.nil n0
  obtain ⟨_, T1, L1, X1, hQ1, st1⟩ := own_cv X0 hx hZ hown hml (W 119 rfl) (own_decl (y := MY16) (W 120 rfl) (W 123 rfl)) (notFace_of_selects (W 122 rfl)) (W 122 rfl) (W 120 rfl) (W 79 rfl) (W 123 rfl) (rm27_inflateIfNeededFor l Z a0 hw a1 a2 p3 h0 n0 O0 (S_1) (hc_2) (F_3) (F_4) (F_5)) e0 F_0 (hb hby d_262) 0 #[rv a1, iv (3 : Int32), rv a2] [(.ref a2)] [] pd_271
  obtain ⟨rfl, N1q, K1⟩ := hQ1
  have N2 := Fr.app N0 N1q
  obtain ⟨T3, X3, e3, st3⟩ := getF X1 hx hZ hown (host := "") (Or.inl (W 83 rfl)) Via.refl K1 F_6 (g := (mkF m 7 #[rv a1, iv (3 : Int32), rv a2] [(.ref a1), (.ref a2)])) rfl rfl (hb hby d_274)
  obtain ⟨T4, X4, e4, st4⟩ := getF X3 hx hZ hown (host := "") (Or.inl (W 85 rfl)) Via.refl e3 F_3 (g := (mkF m 12 #[rv a1, iv (3 : Int32), rv a2] [(.ref a1), (.int (3 : Int32)), (.ref a4), (.ref a2)])) rfl rfl (hb hby d_277)
  obtain ⟨_, T5, L5, X5, hQ5, st5⟩ := own_cv X4 hx hZ hown hml (W 125 rfl) (W 126 rfl) (notFace_of_selects (W 128 rfl)) (W 128 rfl) (W 127 rfl) (W 7 rfl) (W 129 rfl) (rm38_getBytes l Z a0 hw a2 a4 p3 a5 k6 k7 p8 h0 n0 O0 (F_4) (S_1) (hc_2) (F_5) (F_7) (F_8) (F_9) (g_10)) e4 F_4 (hb hby d_278) 0 #[rv a1, iv (3 : Int32), rv a2] [(.ref a4), (.int (3 : Int32)), o0] [] pd_297
  obtain ⟨rfl, N5q, K5, F5_0⟩ := hQ5
  have N6 := Fr.app N2 N5q
  have O7 := O0.keep K5 (allS g_10 all0)
  have K8 : Keep h0 T5.heap [a4] := Keep.trans (Keep.refl h0 [a4]) K5 (allS (Or.inl (List.mem_of_getElem? (i := 0) rfl)) all0)
  refine ⟨T5, none, _, _, _, X5, by decide, by decide, (fun _ => rfl), ?_, fun fs hr => castTop (ef_324 m a1 a2) ?_⟩
  · show Q39_putStringAt Z a1 a2 p3 a4 a5 k6 k7 p8 h0 n0 _ T5.heap _
    exact ⟨rfl, N6, K8, F5_0⟩
  · show SS p e below s₁ m 0 #[rv a1, iv (3 : Int32), rv a2] [] _
    refine XS.aloadN X0.here hx rfl (hb hby d_260) rfl rfl ?_
    refine XS.aloadN X0.here hx rfl (hb hby d_261) rfl rfl ?_
    refine st1 _ ?_
    refine XS.aloadN X1.here hx rfl (hb hby d_272) rfl rfl ?_
    refine XS.aloadN X1.here hx rfl (hb hby d_273) rfl rfl ?_
    refine st3 _ ?_
    refine XS.iloadN X3.here hx rfl (hb hby d_275) rfl ?_
    refine XS.aloadN X3.here hx rfl (hb hby d_276) rfl rfl ?_
    refine st4 _ ?_
    refine st5 _ ?_
    show SS p e below T5 m 18 #[rv a1, iv (3 : Int32), rv a2] [] _
    exact X5.returnOut hx hret (hb hby d_298) hr
def Q40_append (Z : State) (a1 : Addr) (a2 : Addr) (a3 : Addr) (k4 : ClassId) (p5 : Int32) (a6 : Addr) (k7 : ClassId) (p8 : Int32) (h0 : Heap) (n0 : Nat) (v : Option Value) (h : Heap) (L : List Loc) : Prop := v = some (.ref a1) ∧ Fr n0 L ∧ Keep h0 h [a6, a1] ∧ FA43 Z h a1 (.int (3 : Int32)) ∧ FA41 Z h a1 (.ref a6) ∧ Arv Z h a6 k7 .byte (16 : Int32) [(.int p8), (.int (58 : Int32)), (.int (32 : Int32)), o0, o0, o0, o0, o0, o0, o0, o0, o0, o0, o0, o0, o0] o0 ∧ FA42 Z h a1 o0
theorem rm40_append (l : Launch) (Z : State) (a0 : Array Value) (hw : HW Z a0) (a1 : Addr) (a2 : Addr) (a3 : Addr) (k4 : ClassId) (p5 : Int32) (a6 : Addr) (k7 : ClassId) (p8 : Int32) (h0 : Heap) (n0 : Nat) (O0 : Old Z n0 h0) (F_0 : EA44 Z h0 a2) (F_1 : FA37 Z h0 a2 (.ref a3)) (F_2 : Arv Z h0 a3 k4 .byte (0 : Int32) [] o0) (S_3 : SA48 Z Z.heap (.int p5)) (hc_4 : ¬ (p5 = (0 : Int32))) (F_5 : FA38 Z h0 a2 o0) (F_6 : FA43 Z h0 a1 (.int (3 : Int32))) (F_7 : EA47 Z h0 a1) (F_8 : FA41 Z h0 a1 (.ref a6)) (F_9 : Arv Z h0 a6 k7 .byte (16 : Int32) [(.int p8), (.int (58 : Int32)), (.int (32 : Int32)), o0, o0, o0, o0, o0, o0, o0, o0, o0, o0, o0, o0, o0] o0) (F_10 : FA42 Z h0 a1 o0) (g_11 : n0 ≤ a6) (ne_12 : a1 ≠ a6) (g_13 : n0 ≤ a1) :
    Met l Z [] MY19 jdk_68_method_22_code 3 (some (.object "java/lang/AbstractStringBuilder")) ({ frames := 3, cells := 0, slots := 0, locals := 56 } : Room) #[(.ref a1), (.ref a2)] h0 (Q40_append Z a1 a2 a3 k4 p5 a6 k7 p8 h0 n0) := by
  have W := @own_W _ _ hw
  refine own_mk (plainFor_of_name pn_206) ?_
  intro p e s m below meth c s₁ hZ hx hby hml hown hnm hret hlk X0 e0
  have N0 := Fr.nil n0
  obtain ⟨_, T1, L1, X1, hQ1, st1⟩ := own_cv X0 hx hZ hown hml (W 97 rfl) (W 98 rfl) (notFace_of_selects (W 100 rfl)) (W 100 rfl) (W 99 rfl) (W 7 rfl) (W 101 rfl) (rm25_length l Z a0 hw a2 a3 k4 (0 : Int32) [] p5 h0 n0 O0 (F_1) (F_2) (F_0) (S_3) (hc_4) (F_5) ((by decide))) e0 F_0 (hb hby d_219) 0 #[rv a1, rv a2, .unset] [] [] pd_234
  obtain ⟨rfl, N1q, K1⟩ := hQ1
  have N2 := Fr.app N0 N1q
  obtain ⟨T3, X3, e3, st3⟩ := getF X1 hx hZ hown (host := "") (Or.inl (W 107 rfl)) Via.refl K1 F_6 (g := (mkF m 16 #[rv a1, rv a2, .val o0] [(.ref a1), (.ref a1)])) rfl rfl (hb hby d_238)
  obtain ⟨_, T4, L4, X4, hQ4, st4⟩ := own_cv X3 hx hZ hown hml (W 109 rfl) (own_decl (y := MY15) (W 110 rfl) (W 113 rfl)) (notFace_of_selects (W 112 rfl)) (W 112 rfl) (W 110 rfl) (W 79 rfl) (W 113 rfl) (rm37_ensureCapacityInternal l Z a0 hw a1 a6 k7 p8 h0 n0 O0 (F_8) (F_9) (F_10)) e3 F_7 (hb hby d_241) 0 #[rv a1, rv a2, .val o0] [(.int (3 : Int32))] [] pd_207
  obtain ⟨rfl, N4q, K4⟩ := hQ4
  have N5 := Fr.app N2 N4q
  obtain ⟨T6, X6, e6, st6⟩ := getF X4 hx hZ hown (host := "") (Or.inl (W 107 rfl)) Via.refl K4 F_6 (g := (mkF m 26 #[rv a1, rv a2, .val o0] [(.ref a1), (.ref a1)])) rfl rfl (hb hby d_257)
  obtain ⟨_, T7, L7, X7, hQ7, st7⟩ := own_cv X6 hx hZ hown hml (W 114 rfl) (own_decl (y := MY18) (W 115 rfl) (W 118 rfl)) (notFace_of_selects (W 117 rfl)) (W 117 rfl) (W 115 rfl) (W 79 rfl) (W 118 rfl) (rm39_putStringAt l Z a0 hw a1 a2 p5 a6 a3 k4 k7 p8 h0 n0 O0 (F_7) (S_3) (hc_4) (F_10) (F_0) (F_5) (F_8) (F_1) (F_2) (F_9) (g_11)) e6 F_7 (hb hby d_259) 0 #[rv a1, rv a2, .val o0] [(.int (3 : Int32)), (.ref a2)] [] pd_300
  obtain ⟨rfl, N7q, K7, F7_0⟩ := hQ7
  have N8 := Fr.app N5 N7q
  have O9 := O0.keep K7 (allS g_11 all0)
  have K10 : Keep h0 T7.heap [a6, a1] := Keep.trans (Keep.refl h0 [a6, a1]) K7 (allS (Or.inl (List.mem_of_getElem? (i := 0) rfl)) all0)
  have f12 := (F_6.keep K7 (ninS ne_12 nin0))
  obtain ⟨T11, X11, e11, st11⟩ := getF X7 hx hZ hown (host := "") (Or.inl (W 107 rfl)) Via.refl rfl f12 (g := (mkF m 35 #[rv a1, rv a2, .val o0] [(.ref a1), (.ref a1)])) rfl rfl (hb hby d_303)
  have f14 := (F_7.keep K7)
  obtain ⟨T13, h13, X13, e13, W13, st13⟩ := putF X11 hx hZ hown (host := "") (Or.inl (W 107 rfl)) Via.refl e11 f12 f14 (Or.inl (W 108 rfl)) (W 70 rfl) (ty := .int) (by decide) rfl rfl (g := (mkF m 40 #[rv a1, rv a2, .val o0] [(.int (3 : Int32)), (.ref a1)])) rfl rfl (hb hby d_306)
  have O15 := O9.wr W13 g_13
  have K16 : Keep h0 h13 [a6, a1] := Keep.wr K10 W13 (Or.inl (List.mem_of_getElem? (i := 1) rfl))
  have f17 : FA43 Z h13 a1 (.int (3 : Int32)) := (f12.same W13)
  have N18 := Fr.snoc X13 N8 g_13
  have f19 := ((F_8.keep K7 (ninS ne_12 nin0)).other W13 (Or.inr (slot_ne (Or.inl (W 84 rfl)) (Or.inl (W 108 rfl)) (by decide) (t := (.array .byte)) (t' := .int) (by decide) (by decide))))
  have f20 := (F7_0.other W13 (Ne.symm ne_12))
  have f21 := ((F_10.keep K7 (ninS ne_12 nin0)).other W13 (Or.inr (slot_ne (Or.inl (W 86 rfl)) (Or.inl (W 108 rfl)) (by decide) (t := .byte) (t' := .int) (by decide) (by decide))))
  refine ⟨T13, some (.ref a1), _, _, _, X13, by decide, by decide, nofun, ?_, fun fs hr => castTop (ef_309 m a1 a2) ?_⟩
  · show Q40_append Z a1 a2 a3 k4 p5 a6 k7 p8 h0 n0 _ T13.heap _
    rw [e13]
    exact ⟨rfl, N18, K16, f17, f19, f20, f21⟩
  · show SS p e below s₁ m 0 #[rv a1, rv a2, .unset] [] _
    refine XS.aloadN X0.here hx rfl (hb hby d_216) rfl rfl ?_
    refine XS.ifnonnullYes X0.here hx rfl (pc0 := 1) (pc' := 9) rfl (hb hby d_217) rfl (by decide) (by decide) ?_
    refine XS.aloadN X0.here hx rfl (hb hby d_218) rfl rfl ?_
    refine st1 _ ?_
    refine XS.istoreN X1.here hx rfl (hb hby d_235) rfl (l' := #[rv a1, rv a2, .val o0]) rfl ?_
    refine XS.aloadN X1.here hx rfl (hb hby d_236) rfl rfl ?_
    refine XS.aloadN X1.here hx rfl (hb hby d_237) rfl rfl ?_
    refine st3 _ ?_
    refine XS.iloadN X3.here hx rfl (hb hby d_239) rfl ?_
    refine XS.iadd X3.here hx rfl (hb hby d_240) rfl ?_
    show SS p e below T3 m 21 #[rv a1, rv a2, .val o0] [(.int (3 : Int32)), (.ref a1)] _
    refine st4 _ ?_
    refine XS.aloadN X4.here hx rfl (hb hby d_255) rfl rfl ?_
    refine XS.aloadN X4.here hx rfl (hb hby d_256) rfl rfl ?_
    refine st6 _ ?_
    refine XS.aloadN X6.here hx rfl (hb hby d_258) rfl rfl ?_
    refine st7 _ ?_
    refine XS.aloadN X7.here hx rfl (hb hby d_301) rfl rfl ?_
    refine XS.dup X7.here hx rfl (hb hby d_302) rfl rfl ?_
    refine st11 _ ?_
    refine XS.iloadN X11.here hx rfl (hb hby d_304) rfl ?_
    show SS p e below T11 m 39 #[rv a1, rv a2, .val o0] [o0, (.int (3 : Int32)), (.ref a1)] _
    refine XS.iadd X11.here hx rfl (hb hby d_305) rfl ?_
    show SS p e below T11 m 40 #[rv a1, rv a2, .val o0] [(.int (3 : Int32)), (.ref a1)] _
    refine st13 _ ?_
    refine XS.aloadN X13.here hx rfl (hb hby d_307) rfl rfl ?_
    exact retOut X13 hx hret rfl (Or.inr (Or.inr (Or.inr (Or.inr ⟨rfl, rfl, rfl⟩)))) (hb hby d_308) hr
def Q41_append (Z : State) (a1 : Addr) (a2 : Addr) (a3 : Addr) (k4 : ClassId) (p5 : Int32) (a6 : Addr) (k7 : ClassId) (p8 : Int32) (h0 : Heap) (n0 : Nat) (v : Option Value) (h : Heap) (L : List Loc) : Prop := v = some (.ref a1) ∧ Fr n0 L ∧ Keep h0 h [a1, a6] ∧ FA43 Z h a1 (.int (3 : Int32)) ∧ FA41 Z h a1 (.ref a6) ∧ Arv Z h a6 k7 .byte (16 : Int32) [(.int p8), (.int (58 : Int32)), (.int (32 : Int32)), o0, o0, o0, o0, o0, o0, o0, o0, o0, o0, o0, o0, o0] o0 ∧ FA42 Z h a1 o0
theorem rm41_append (l : Launch) (Z : State) (a0 : Array Value) (hw : HW Z a0) (a1 : Addr) (a2 : Addr) (a3 : Addr) (k4 : ClassId) (p5 : Int32) (a6 : Addr) (k7 : ClassId) (p8 : Int32) (h0 : Heap) (n0 : Nat) (O0 : Old Z n0 h0) (F_0 : EA44 Z h0 a2) (F_1 : FA37 Z h0 a2 (.ref a3)) (F_2 : Arv Z h0 a3 k4 .byte (0 : Int32) [] o0) (S_3 : SA48 Z Z.heap (.int p5)) (hc_4 : ¬ (p5 = (0 : Int32))) (F_5 : FA38 Z h0 a2 o0) (F_6 : FA43 Z h0 a1 (.int (3 : Int32))) (F_7 : EA47 Z h0 a1) (F_8 : FA41 Z h0 a1 (.ref a6)) (F_9 : Arv Z h0 a6 k7 .byte (16 : Int32) [(.int p8), (.int (58 : Int32)), (.int (32 : Int32)), o0, o0, o0, o0, o0, o0, o0, o0, o0, o0, o0, o0, o0] o0) (F_10 : FA42 Z h0 a1 o0) (g_11 : n0 ≤ a6) (ne_12 : a1 ≠ a6) (g_13 : n0 ≤ a1) :
    Met l Z [] MY20 jdk_67_method_7_code 2 (some (.object "java/lang/StringBuilder")) ({ frames := 4, cells := 0, slots := 0, locals := 70 } : Room) #[(.ref a1), (.ref a2)] h0 (Q41_append Z a1 a2 a3 k4 p5 a6 k7 p8 h0 n0) := by
  have W := @own_W _ _ hw
  refine own_mk (plainFor_of_name pn_209) ?_
  intro p e s m below meth c s₁ hZ hx hby hml hown hnm hret hlk X0 e0
  have N0 := Fr.nil n0
  obtain ⟨_, _, ⟨T1, L1, k1, n1⟩, -, X1, ⟨Lc1, hQ1, l1, y1, z1⟩, st1⟩ := superBack X0 hx hZ (y := MY19) hown (W 92 rfl) (own_same (y := MY19) (by decide) (W 93 rfl) (own_nf (args := a0) (y := MY15) rfl (W 112 rfl))) (W 93 rfl) (W 94 rfl) (by decide) (backOf (W := 0) (rm40_append l Z a0 hw a1 a2 a3 k4 p5 a6 k7 p8 h0 n0 O0 (F_0) (F_1) (F_2) (S_3) (hc_4) (F_5) (F_6) (F_7) (F_8) (F_9) (F_10) (g_11) (ne_12) (g_13)) hZ (W 96 rfl) (W 79 rfl) (by decide) (by decide)) e0 (Ins.self F_7) (g := (mkF m 2 #[rv a1, rv a2] [(.ref a2), (.ref a1)])) rfl (by rw [hml]; rfl) (W 96 rfl) (argsL := [(.ref a2)]) (rest := []) (lenOf pd_310 rfl) rfl (by show 2 * 0 + _ ≤ _; exact Nat.le_of_eq rfl) (hb hby d_215) (fun _ _ => ⟨rfl, e0, (by decide : 0 + 0 ≤ _), (by decide : 0 + 0 ≤ _)⟩)
  dsimp only [Pt.U, Pt.locs, Pt.cells, Pt.slots] at X1 l1 y1 z1 st1 hQ1
  subst l1 y1 z1
  obtain ⟨rfl, N1q, K1, F1_0, F1_1, F1_2, F1_3⟩ := hQ1
  have N2 := Fr.app N0 N1q
  have O3 := O0.keep K1 (allS g_11 (allS g_13 all0))
  have K4 : Keep h0 T1.heap [a1, a6] := Keep.trans (Keep.refl h0 [a1, a6]) K1 (allS (Or.inl (List.mem_of_getElem? (i := 1) rfl)) (allS (Or.inl (List.mem_of_getElem? (i := 0) rfl)) all0))
  refine ⟨T1, some (.ref a1), _, _, _, X1, by decide, by decide, nofun, ?_, fun fs hr => castTop (ef_33 m a1 a2) ?_⟩
  · show Q41_append Z a1 a2 a3 k4 p5 a6 k7 p8 h0 n0 _ T1.heap _
    exact ⟨rfl, N2, K4, F1_0, F1_1, F1_2, F1_3⟩
  · show SS p e below s₁ m 0 #[rv a1, rv a2] [] _
    refine XS.aloadN X0.here hx rfl (hb hby d_213) rfl rfl ?_
    refine XS.aloadN X0.here hx rfl (hb hby d_214) rfl rfl ?_
    refine st1.trans ?_
    refine XS.pop X1.here hx rfl (hb hby d_311) rfl rfl ?_
    refine XS.aloadN X1.here hx rfl (hb hby d_312) rfl rfl ?_
    exact retOut X1 hx hret rfl (Or.inr (Or.inr (Or.inr (Or.inr ⟨rfl, rfl, rfl⟩)))) (hb hby d_313) hr
theorem d_325 : decode prog_7_method_2_code 43 = .ok (.invokevirtual 31, 3) := by decide +kernel
theorem d_326 : decode jdk_67_method_42_code 0 = .ok (.new 18, 3) := by decide +kernel
theorem d_327 : decode jdk_67_method_42_code 3 = .ok (.dup, 1) := by decide +kernel
theorem d_328 : decode jdk_67_method_42_code 4 = .ok (.aload_n 0, 1) := by decide +kernel
theorem d_329 : decode jdk_67_method_42_code 5 = .ok (.invokespecial 137, 3) := by decide +kernel
theorem d_330 : decode jdk_42_method_53_code 0 = .ok (.aload_n 0, 1) := by decide +kernel
theorem d_331 : decode jdk_42_method_53_code 1 = .ok (.aload_n 1, 1) := by decide +kernel
theorem d_332 : decode jdk_42_method_53_code 2 = .ok (.aconst_null, 1) := by decide +kernel
theorem d_333 : decode jdk_42_method_53_code 3 = .ok (.invokespecial 489, 3) := by decide +kernel
theorem d_334 : decode jdk_42_method_150_code 0 = .ok (.aload_n 0, 1) := by decide +kernel
theorem d_335 : decode jdk_42_method_150_code 1 = .ok (.invokespecial 1, 3) := by decide +kernel
theorem d_336 : decode jdk_42_method_150_code 4 = .ok (.aload_n 1, 1) := by decide +kernel
theorem d_337 : decode jdk_42_method_150_code 5 = .ok (.invokevirtual 552, 3) := by decide +kernel
theorem d_338 : decode jdk_68_method_64_code 0 = .ok (.aload_n 0, 1) := by decide +kernel
theorem d_339 : decode jdk_68_method_64_code 1 = .ok (.getfield 15, 3) := by decide +kernel
theorem d_340 : decode jdk_68_method_64_code 4 = .ok (.areturn, 1) := by decide +kernel
def Q42_getValue (Z : State) (a1 : Addr) (a2 : Addr) (h0 : Heap) (n0 : Nat) (v : Option Value) (h : Heap) (L : List Loc) : Prop := v = some (.ref a2) ∧ Fr n0 L ∧ h = h0
theorem rm42_getValue (l : Launch) (Z : State) (a0 : Array Value) (hw : HW Z a0) (a1 : Addr) (a2 : Addr) (h0 : Heap) (n0 : Nat) (O0 : Old Z n0 h0) (F_0 : FA41 Z h0 a1 (.ref a2)) :
    Met l Z [] MY21 jdk_68_method_64_code 1 (some (.array .byte)) ({ frames := 0, cells := 0, slots := 0, locals := 0 } : Room) #[(.ref a1)] h0 (Q42_getValue Z a1 a2 h0 n0) := by
  have W := @own_W _ _ hw
  refine own_mk (plainFor_of_name pn_206) ?_
  intro p e s m below meth c s₁ hZ hx hby hml hown hnm hret hlk X0 e0
  have N0 := Fr.nil n0
  obtain ⟨T1, X1, e1, st1⟩ := getF X0 hx hZ hown (host := "") (Or.inl (W 83 rfl)) Via.refl e0 F_0 (g := (mkF m 1 #[rv a1] [(.ref a1)])) rfl rfl (hb hby d_339)
  refine ⟨T1, some (.ref a2), _, _, _, X1, by decide, by decide, nofun, ?_, fun fs hr => castTop (ef_44 m a1) ?_⟩
  · show Q42_getValue Z a1 a2 h0 n0 _ T1.heap _
    rw [e1]
    exact ⟨rfl, N0, rfl⟩
  · show SS p e below s₁ m 0 #[rv a1] [] _
    refine XS.aloadN X0.here hx rfl (hb hby d_338) rfl rfl ?_
    refine st1 _ ?_
    exact retOut X1 hx hret rfl (Or.inr (Or.inr (Or.inr (Or.inr ⟨rfl, rfl, rfl⟩)))) (hb hby d_340) hr
theorem pd_341 : parseMethodDescriptor "()[B" = some ⟨[], some (.array .byte)⟩ := by decide +kernel
theorem d_342 : decode jdk_42_method_150_code 8 = .ok (.astore_n 3, 1) := by decide +kernel
theorem d_343 : decode jdk_42_method_150_code 9 = .ok (.aload_n 1, 1) := by decide +kernel
theorem d_344 : decode jdk_42_method_150_code 10 = .ok (.invokevirtual 549, 3) := by decide +kernel
theorem d_345 : decode jdk_67_method_93_code 0 = .ok (.aload_n 0, 1) := by decide +kernel
theorem d_346 : decode jdk_67_method_93_code 1 = .ok (.invokespecial 343, 3) := by decide +kernel
theorem d_347 : decode jdk_68_method_6_code 0 = .ok (.aload_n 0, 1) := by decide +kernel
theorem d_348 : decode jdk_68_method_6_code 1 = .ok (.getfield 79, 3) := by decide +kernel
theorem d_349 : decode jdk_68_method_6_code 4 = .ok (.ireturn, 1) := by decide +kernel
def Q43_length (Z : State) (a1 : Addr) (h0 : Heap) (n0 : Nat) (v : Option Value) (h : Heap) (L : List Loc) : Prop := v = some (.int (3 : Int32)) ∧ Fr n0 L ∧ h = h0
theorem rm43_length (l : Launch) (Z : State) (a0 : Array Value) (hw : HW Z a0) (a1 : Addr) (h0 : Heap) (n0 : Nat) (O0 : Old Z n0 h0) (F_0 : FA43 Z h0 a1 (.int (3 : Int32))) :
    Met l Z [] MY22 jdk_68_method_6_code 1 (some .int) ({ frames := 0, cells := 0, slots := 0, locals := 0 } : Room) #[(.ref a1)] h0 (Q43_length Z a1 h0 n0) := by
  have W := @own_W _ _ hw
  refine own_mk (plainFor_of_name pn_206) ?_
  intro p e s m below meth c s₁ hZ hx hby hml hown hnm hret hlk X0 e0
  have N0 := Fr.nil n0
  obtain ⟨T1, X1, e1, st1⟩ := getF X0 hx hZ hown (host := "") (Or.inl (W 107 rfl)) Via.refl e0 F_0 (g := (mkF m 1 #[rv a1] [(.ref a1)])) rfl rfl (hb hby d_348)
  refine ⟨T1, some (.int (3 : Int32)), _, _, _, X1, by decide, by decide, nofun, ?_, fun fs hr => castTop (ef_44 m a1) ?_⟩
  · show Q43_length Z a1 h0 n0 _ T1.heap _
    rw [e1]
    exact ⟨rfl, N0, rfl⟩
  · show SS p e below s₁ m 0 #[rv a1] [] _
    refine XS.aloadN X0.here hx rfl (hb hby d_347) rfl rfl ?_
    refine st1 _ ?_
    exact retI X1 hx hret (hb hby d_349) hr
theorem d_350 : decode jdk_67_method_93_code 4 = .ok (.ireturn, 1) := by decide +kernel
def Q44_length (Z : State) (a1 : Addr) (h0 : Heap) (n0 : Nat) (v : Option Value) (h : Heap) (L : List Loc) : Prop := v = some (.int (3 : Int32)) ∧ Fr n0 L ∧ h = h0
theorem rm44_length (l : Launch) (Z : State) (a0 : Array Value) (hw : HW Z a0) (a1 : Addr) (h0 : Heap) (n0 : Nat) (O0 : Old Z n0 h0) (F_0 : FA43 Z h0 a1 (.int (3 : Int32))) (F_1 : EA47 Z h0 a1) :
    Met l Z [] MY23 jdk_67_method_93_code 1 (some .int) ({ frames := 1, cells := 0, slots := 0, locals := 12 } : Room) #[(.ref a1)] h0 (Q44_length Z a1 h0 n0) := by
  have W := @own_W _ _ hw
  refine own_mk (plainFor_of_name pn_209) ?_
  intro p e s m below meth c s₁ hZ hx hby hml hown hnm hret hlk X0 e0
  have N0 := Fr.nil n0
  obtain ⟨_, _, ⟨T1, L1, k1, n1⟩, -, X1, ⟨Lc1, hQ1, l1, y1, z1⟩, st1⟩ := superBack X0 hx hZ (y := MY22) hown (W 158 rfl) (own_same (y := MY22) (by decide) (W 154 rfl) (own_nf (args := a0) (y := MY15) rfl (W 112 rfl))) (W 154 rfl) (W 94 rfl) (by decide) (backOf (W := 0) (rm43_length l Z a0 hw a1 h0 n0 O0 (F_0)) hZ (W 159 rfl) (W 79 rfl) (by decide) (by decide)) e0 (Ins.self F_1) (g := (mkF m 1 #[rv a1] [(.ref a1)])) rfl (by rw [hml]; rfl) (W 159 rfl) (argsL := []) (rest := []) (lenOf pd_234 rfl) rfl (by show 2 * 0 + _ ≤ _; exact Nat.le_of_eq rfl) (hb hby d_346) (fun _ _ => ⟨rfl, e0, (by decide : 0 + 0 ≤ _), (by decide : 0 + 0 ≤ _)⟩)
  dsimp only [Pt.U, Pt.locs, Pt.cells, Pt.slots] at X1 l1 y1 z1 st1 hQ1
  subst l1 y1 z1
  obtain ⟨rfl, N1q, K1⟩ := hQ1
  have N2 := Fr.app N0 N1q
  refine ⟨T1, some (.int (3 : Int32)), _, _, _, X1, by decide, by decide, nofun, ?_, fun fs hr => castTop (ef_44 m a1) ?_⟩
  · show Q44_length Z a1 h0 n0 _ T1.heap _
    rw [K1]
    exact ⟨rfl, N2, rfl⟩
  · show SS p e below s₁ m 0 #[rv a1] [] _
    refine XS.aloadN X0.here hx rfl (hb hby d_345) rfl rfl ?_
    refine st1.trans ?_
    exact retI X1 hx hret (hb hby d_350) hr
theorem d_351 : decode jdk_42_method_150_code 13 = .ok (.istore 4, 2) := by decide +kernel
theorem d_352 : decode jdk_42_method_150_code 15 = .ok (.aload_n 1, 1) := by decide +kernel
theorem d_353 : decode jdk_42_method_150_code 16 = .ok (.invokevirtual 1047, 3) := by decide +kernel
theorem d_354 : decode jdk_68_method_68_code 0 = .ok (.getstatic 18, 3) := by decide +kernel
theorem d_355 : decode jdk_68_method_68_code 3 = .ok (.ifCond .eq 14, 3) := by decide +kernel
theorem d_356 : decode jdk_68_method_68_code 6 = .ok (.aload_n 0, 1) := by decide +kernel
theorem d_357 : decode jdk_68_method_68_code 7 = .ok (.getfield 22, 3) := by decide +kernel
theorem d_358 : decode jdk_68_method_68_code 10 = .ok (.ifCond .ne 7, 3) := by decide +kernel
theorem d_359 : decode jdk_68_method_68_code 13 = .ok (.iconst 1, 1) := by decide +kernel
theorem d_360 : decode jdk_68_method_68_code 14 = .ok (.goto 4, 3) := by decide +kernel
theorem d_361 : decode jdk_68_method_68_code 18 = .ok (.ireturn, 1) := by decide +kernel
def Q45_isLatin1 (Z : State) (a1 : Addr) (p2 : Int32) (h0 : Heap) (n0 : Nat) (v : Option Value) (h : Heap) (L : List Loc) : Prop := v = some (.int (1 : Int32)) ∧ Fr n0 L ∧ h = h0
theorem rm45_isLatin1 (l : Launch) (Z : State) (a0 : Array Value) (hw : HW Z a0) (a1 : Addr) (p2 : Int32) (h0 : Heap) (n0 : Nat) (O0 : Old Z n0 h0) (S_0 : SA48 Z Z.heap (.int p2)) (hc_1 : ¬ (p2 = (0 : Int32))) (F_2 : FA42 Z h0 a1 o0) :
    Met l Z [] MY24 jdk_68_method_68_code 1 (some .boolean) ({ frames := 0, cells := 0, slots := 0, locals := 0 } : Room) #[(.ref a1)] h0 (Q45_isLatin1 Z a1 p2 h0 n0) := by
  have W := @own_W _ _ hw
  refine own_mk (plainFor_of_name pn_206) ?_
  intro p e s m below meth c s₁ hZ hx hby hml hown hnm hret hlk X0 e0
  have N0 := Fr.nil n0
  obtain ⟨T1, X1, e1, st1⟩ := getS2 X0 hx hZ hown (host := "") (Or.inl (W 82 rfl)) Via.refl e0 (S_0.ext O0.2) (g := (mkF m 0 #[rv a1] [])) rfl (hb hby d_354)
  obtain ⟨T2, X2, e2, st2⟩ := getF X1 hx hZ hown (host := "") (Or.inl (W 85 rfl)) Via.refl e1 F_2 (g := (mkF m 7 #[rv a1] [(.ref a1)])) rfl rfl (hb hby d_357)
  refine ⟨T2, some (.int (1 : Int32)), _, _, _, X2, by decide, by decide, nofun, ?_, fun fs hr => castTop (ef_44 m a1) ?_⟩
  · show Q45_isLatin1 Z a1 p2 h0 n0 _ T2.heap _
    rw [e2]
    exact ⟨rfl, N0, rfl⟩
  · show SS p e below s₁ m 0 #[rv a1] [] _
    refine st1 _ ?_
    refine XS.ifNo X1.here hx rfl (hb hby d_355) rfl ((if0 _ _).trans (feq hc_1).1) ?_
    refine XS.aloadN X1.here hx rfl (hb hby d_356) rfl rfl ?_
    refine st2 _ ?_
    refine XS.ifNo X2.here hx rfl (hb hby d_358) rfl ((if0 _ _).trans (teq (by decide : (0 : Int32) = (0 : Int32))).2) ?_
    refine XS.iconst X2.here hx rfl (hb hby d_359) ?_
    refine XS.goto X2.here hx rfl (pc0 := 14) (pc' := 18) rfl (hb hby d_360) (by decide) (by decide) ?_
    exact retN X2 hx (t := .boolean) hret (by simp) (hb hby d_361) hr
theorem d_362 : decode jdk_42_method_150_code 19 = .ok (.ifCond .eq 22, 3) := by decide +kernel
theorem d_363 : decode jdk_42_method_150_code 22 = .ok (.aload_n 0, 1) := by decide +kernel
theorem d_364 : decode jdk_42_method_150_code 23 = .ok (.iconst 0, 1) := by decide +kernel
theorem d_365 : decode jdk_42_method_150_code 24 = .ok (.putfield 15, 3) := by decide +kernel
theorem d_366 : decode jdk_42_method_150_code 27 = .ok (.aload_n 0, 1) := by decide +kernel
theorem d_367 : decode jdk_42_method_150_code 28 = .ok (.aload_n 3, 1) := by decide +kernel
theorem d_368 : decode jdk_42_method_150_code 29 = .ok (.iconst 0, 1) := by decide +kernel
theorem d_369 : decode jdk_42_method_150_code 30 = .ok (.iload 4, 2) := by decide +kernel
theorem d_370 : decode jdk_42_method_150_code 32 = .ok (.invokestatic 54, 3) := by decide +kernel
theorem d_371 : decode jdk_65_method_132_code 0 = .ok (.iload_n 1, 1) := by decide +kernel
theorem d_372 : decode jdk_65_method_132_code 1 = .ok (.ifCond .ne 9, 3) := by decide +kernel
theorem d_373 : decode jdk_65_method_132_code 4 = .ok (.iload_n 2, 1) := by decide +kernel
theorem d_374 : decode jdk_65_method_132_code 5 = .ok (.aload_n 0, 1) := by decide +kernel
theorem d_375 : decode jdk_65_method_132_code 6 = .ok (.arraylength, 1) := by decide +kernel
theorem d_376 : decode jdk_65_method_132_code 7 = .ok (.if_icmp .eq 10, 3) := by decide +kernel
theorem d_377 : decode jdk_65_method_132_code 10 = .ok (.aload_n 0, 1) := by decide +kernel
theorem d_378 : decode jdk_65_method_132_code 11 = .ok (.iload_n 1, 1) := by decide +kernel
theorem d_379 : decode jdk_65_method_132_code 12 = .ok (.iload_n 2, 1) := by decide +kernel
theorem d_380 : decode jdk_65_method_132_code 13 = .ok (.invokestatic 339, 3) := by decide +kernel
theorem d_381 : decode jdk_65_method_133_code 0 = .ok (.iload_n 1, 1) := by decide +kernel
theorem d_382 : decode jdk_65_method_133_code 1 = .ok (.iload_n 2, 1) := by decide +kernel
theorem d_383 : decode jdk_65_method_133_code 2 = .ok (.invokestatic 343, 3) := by decide +kernel
theorem d_384 : decode jdk_65_method_131_code 0 = .ok (.iload_n 1, 1) := by decide +kernel
theorem d_385 : decode jdk_65_method_131_code 1 = .ok (.iload_n 0, 1) := by decide +kernel
theorem d_386 : decode jdk_65_method_131_code 2 = .ok (.if_icmp .ge 35, 3) := by decide +kernel
theorem d_387 : decode jdk_65_method_131_code 37 = .ok (.return_, 1) := by decide +kernel
theorem ef_388 (m : MethodId) (p1 : Int32) (p2 : Int32) : entryFrame m #[(.int p1), (.int p2)] 2 = mkF m 0 #[iv p1, iv p2] [] := by first | (simp [entryFrame, mkF, argsToLocals, Value.category]; done) | rfl
theorem pn_389 : plainName "java/util/Arrays" = true := by first | (simp [plainName, overriddenIn]; done) | decide +kernel
def Q46_checkLength (Z : State) (p1 : Int32) (p2 : Int32) (h0 : Heap) (n0 : Nat) (v : Option Value) (h : Heap) (L : List Loc) : Prop := v = none ∧ Fr n0 L ∧ h = h0
theorem rm46_checkLength (l : Launch) (Z : State) (a0 : Array Value) (hw : HW Z a0) (p1 : Int32) (p2 : Int32) (h0 : Heap) (n0 : Nat) (O0 : Old Z n0 h0) (hc_0 : ¬ (p2 < p1)) :
    Met l Z [] MY25 jdk_65_method_131_code 2 none ({ frames := 0, cells := 0, slots := 0, locals := 0 } : Room) #[(.int p1), (.int p2)] h0 (Q46_checkLength Z p1 p2 h0 n0) := by
  have W := @own_W _ _ hw
  refine own_mk (plainFor_of_name pn_389) ?_
  intro p e s m below meth c s₁ hZ hx hby hml hown hnm hret hlk X0 e0
  have N0 := Fr.nil n0
  refine ⟨s₁, none, _, _, _, X0, by decide, by decide, (fun _ => rfl), ?_, fun fs hr => castTop (ef_388 m p1 p2) ?_⟩
  · show Q46_checkLength Z p1 p2 h0 n0 _ s₁.heap _
    rw [e0]
    exact ⟨rfl, N0, rfl⟩
  · show SS p e below s₁ m 0 #[iv p1, iv p2] [] _
    refine XS.iloadN X0.here hx rfl (hb hby d_384) rfl ?_
    refine XS.iloadN X0.here hx rfl (hb hby d_385) rfl ?_
    refine XS.icmpYes X0.here hx rfl (pc0 := 2) (pc' := 37) rfl (hb hby d_386) rfl (flt hc_0).2.1 (by decide) (by decide) ?_
    exact X0.returnOut hx hret (hb hby d_387) hr
theorem pd_390 : parseMethodDescriptor "(II)V" = some ⟨[.int, .int], none⟩ := by decide +kernel
theorem d_391 : decode jdk_65_method_133_code 5 = .ok (.iload_n 2, 1) := by decide +kernel
theorem d_392 : decode jdk_65_method_133_code 6 = .ok (.iload_n 1, 1) := by decide +kernel
theorem d_393 : decode jdk_65_method_133_code 7 = .ok (.isub, 1) := by decide +kernel
theorem d_394 : decode jdk_65_method_133_code 8 = .ok (.istore_n 3, 1) := by decide +kernel
theorem d_395 : decode jdk_65_method_133_code 9 = .ok (.iload_n 3, 1) := by decide +kernel
theorem d_396 : decode jdk_65_method_133_code 10 = .ok (.newarray .byte, 2) := by decide +kernel
theorem d_397 : decode jdk_65_method_133_code 12 = .ok (.astore 4, 2) := by decide +kernel
theorem d_398 : decode jdk_65_method_133_code 14 = .ok (.aload_n 0, 1) := by decide +kernel
theorem d_399 : decode jdk_65_method_133_code 15 = .ok (.iload_n 1, 1) := by decide +kernel
theorem d_400 : decode jdk_65_method_133_code 16 = .ok (.aload 4, 2) := by decide +kernel
theorem d_401 : decode jdk_65_method_133_code 18 = .ok (.iconst 0, 1) := by decide +kernel
theorem d_402 : decode jdk_65_method_133_code 19 = .ok (.aload_n 0, 1) := by decide +kernel
theorem d_403 : decode jdk_65_method_133_code 20 = .ok (.arraylength, 1) := by decide +kernel
theorem d_404 : decode jdk_65_method_133_code 21 = .ok (.iload_n 1, 1) := by decide +kernel
theorem d_405 : decode jdk_65_method_133_code 22 = .ok (.isub, 1) := by decide +kernel
theorem d_406 : decode jdk_65_method_133_code 23 = .ok (.iload_n 3, 1) := by decide +kernel
theorem d_407 : decode jdk_65_method_133_code 24 = .ok (.invokestatic 304, 3) := by decide +kernel
theorem d_408 : decode jdk_29_method_69_code 0 = .ok (.iload_n 0, 1) := by decide +kernel
theorem d_409 : decode jdk_29_method_69_code 1 = .ok (.iload_n 1, 1) := by decide +kernel
theorem d_410 : decode jdk_29_method_69_code 2 = .ok (.if_icmp .gt 7, 3) := by decide +kernel
theorem d_411 : decode jdk_29_method_69_code 9 = .ok (.iload_n 1, 1) := by decide +kernel
theorem d_412 : decode jdk_29_method_69_code 10 = .ok (.ireturn, 1) := by decide +kernel
theorem ef_413 (m : MethodId)  : entryFrame m #[(.int (16 : Int32)), (.int (3 : Int32))] 2 = mkF m 0 #[iv (16 : Int32), iv (3 : Int32)] [] := by first | (simp [entryFrame, mkF, argsToLocals, Value.category]; done) | rfl
def Q47_min (Z : State)  (h0 : Heap) (n0 : Nat) (v : Option Value) (h : Heap) (L : List Loc) : Prop := v = some (.int (3 : Int32)) ∧ Fr n0 L ∧ h = h0
theorem rm47_min (l : Launch) (Z : State) (a0 : Array Value) (hw : HW Z a0)  (h0 : Heap) (n0 : Nat) (O0 : Old Z n0 h0)  :
    Met l Z [] MY26 jdk_29_method_69_code 2 (some .int) ({ frames := 0, cells := 0, slots := 0, locals := 0 } : Room) #[(.int (16 : Int32)), (.int (3 : Int32))] h0 (Q47_min Z  h0 n0) := by
  have W := @own_W _ _ hw
  refine own_mk (Jvm.Free.JP.mathPlain rfl (by decide +kernel)) ?_
  intro p e s m below meth c s₁ hZ hx hby hml hown hnm hret hlk X0 e0
  have N0 := Fr.nil n0
  refine ⟨s₁, some (.int (3 : Int32)), _, _, _, X0, by decide, by decide, nofun, ?_, fun fs hr => castTop (ef_413 m ) ?_⟩
  · show Q47_min Z  h0 n0 _ s₁.heap _
    rw [e0]
    exact ⟨rfl, N0, rfl⟩
  · show SS p e below s₁ m 0 #[iv (16 : Int32), iv (3 : Int32)] [] _
    refine XS.iloadN X0.here hx rfl (hb hby d_408) rfl ?_
    refine XS.iloadN X0.here hx rfl (hb hby d_409) rfl ?_
    refine XS.icmpYes X0.here hx rfl (pc0 := 2) (pc' := 9) rfl (hb hby d_410) rfl (tlt (by decide : (3 : Int32) < (16 : Int32))).2.2.1 (by decide) (by decide) ?_
    refine XS.iloadN X0.here hx rfl (hb hby d_411) rfl ?_
    exact retI X0 hx hret (hb hby d_412) hr
theorem pd_414 : parseMethodDescriptor "(II)I" = some ⟨[.int, .int], some .int⟩ := by decide +kernel
theorem d_415 : decode jdk_65_method_133_code 27 = .ok (.invokestatic 150, 3) := by decide +kernel
theorem d_416 : decode jdk_65_method_133_code 30 = .ok (.aload 4, 2) := by decide +kernel
theorem d_417 : decode jdk_65_method_133_code 32 = .ok (.areturn, 1) := by decide +kernel
theorem ef_418 (m : MethodId) (a1 : Addr) : entryFrame m #[(.ref a1), o0, (.int (3 : Int32))] 5 = mkF m 0 #[rv a1, .val o0, iv (3 : Int32), .unset, .unset] [] := by first | (simp [entryFrame, mkF, argsToLocals, Value.category]; done) | rfl
def Q48_copyOfRangeByte (Z : State) (a1 : Addr) (k2 : ClassId) (p3 : Int32) (h0 : Heap) (n0 : Nat) (v : Option Value) (h : Heap) (L : List Loc) : Prop := ∃ (b3 : Addr) (k3 : ClassId), v = some (.ref b3) ∧ Fr n0 L ∧ Keep h0 h [] ∧ h0.size ≤ b3 ∧ Arv Z h b3 k3 .byte (3 : Int32) [(.int p3), (.int (58 : Int32)), (.int (32 : Int32))] o0 ∧ EA46 Z h b3
theorem rm48_copyOfRangeByte (l : Launch) (Z : State) (a0 : Array Value) (hw : HW Z a0) (a1 : Addr) (k2 : ClassId) (p3 : Int32) (h0 : Heap) (n0 : Nat) (O0 : Old Z n0 h0) (F_0 : Arv Z h0 a1 k2 .byte (16 : Int32) [(.int p3), (.int (58 : Int32)), (.int (32 : Int32)), o0, o0, o0, o0, o0, o0, o0, o0, o0, o0, o0, o0, o0] o0) :
    Met l Z [] MY27 jdk_65_method_133_code 5 (some (.array .byte)) ({ frames := 1, cells := 1, slots := 3, locals := 27 } : Room) #[(.ref a1), o0, (.int (3 : Int32))] h0 (Q48_copyOfRangeByte Z a1 k2 p3 h0 n0) := by
  have W := @own_W _ _ hw
  refine own_mk (plainFor_of_name pn_389) ?_
  intro p e s m below meth c s₁ hZ hx hby hml hown hnm hret hlk X0 e0
  have N0 := Fr.nil n0
  obtain ⟨_, T1, L1, X1, hQ1, st1⟩ := own_cs X0 hx hZ hown hml (W 172 rfl) (W 173 rfl) (W 167 rfl) (W 174 rfl) (rm46_checkLength l Z a0 hw (0 : Int32) (3 : Int32) h0 n0 O0 ((by decide : ¬ ((3 : Int32) < (0 : Int32))))) e0 (hb hby d_383) 0 #[rv a1, .val o0, iv (3 : Int32), .unset, .unset] [o0, (.int (3 : Int32))] [] pd_390
  obtain ⟨rfl, N1q, K1⟩ := hQ1
  have N2 := Fr.app N0 N1q
  obtain ⟨T3, h3, k3, X3, e3, E3, A3, B3, st3⟩ := newPE X1 hx hZ (W 20 rfl) K1 (g := (mkF m 10 #[rv a1, .val o0, iv (3 : Int32), iv (3 : Int32), .unset] [(.int (3 : Int32))])) rfl (hb hby d_396) rfl (by decide) (cap := 3) (by decide) (by decide) (by decide) (by decide) (ad := "[B") rfl
  obtain ⟨b3, g3⟩ : ∃ z, z = h0.size := ⟨_, rfl⟩
  rw [← g3] at A3 B3 st3
  have O4 := O0.ext E3
  have K5 : Keep h0 h3 [] := Keep.ext (Keep.refl h0 []) E3
  have v6 : Arv Z h3 b3 k3 .byte (3 : Int32) [o0, o0, o0] o0 := (Arv.new A3 (by decide)).pad (pad_rep [] o0 3)
  have f8 := (F_0.ext E3)
  obtain ⟨c7, A7, q7, S7, N7, H7, G7⟩ := id f8
  obtain ⟨_, T9, L9, X9, hQ9, st9⟩ := own_cs X3 hx hZ hown hml (W 175 rfl) (W 176 rfl) (W 177 rfl) (W 178 rfl) (rm47_min l Z a0 hw  h3 n0 O4 ) e3 (hb hby d_407) 4 #[rv a1, .val o0, iv (3 : Int32), iv (3 : Int32), rv b3] [(.int (16 : Int32)), (.int (3 : Int32))] [o0, (.ref b3), o0, (.ref a1)] pd_414
  obtain ⟨rfl, N9q, K9⟩ := hQ9
  have N10 := Fr.app N2 N9q
  have g12 : n0 ≤ b3 := Nat.le_trans (Nat.le_trans (Nat.le_of_eq O0.1.symm) O0.2.1) (Nat.le_of_eq g3.symm)
  obtain ⟨T11, h11, Lc11, X11, e11, N11, K11, V11, st11⟩ := cpA X9 hx hZ hown (W 179 rfl) (W 133 rfl) (W 131 rfl) (W 132 rfl) K9 f8 v6 (Or.inl ⟨rfl, rfl⟩) (sp := (0 : Int32)) (dp := (0 : Int32)) (nn := (3 : Int32)) (by decide) (by decide) (by decide) (by decide) (by decide) (us := [(.int p3), (.int (58 : Int32)), (.int (32 : Int32))]) rfl (Nat.le_of_ble_eq_true rfl) N10 g12 (g := (mkF m 27 #[rv a1, .val o0, iv (3 : Int32), iv (3 : Int32), rv b3] [(.int (3 : Int32)), o0, (.ref b3), o0, (.ref a1)])) rfl (by rw [hml]; rfl) rfl (hb hby d_415) (by decide) (W := 0) (by show 2 * 0 + _ ≤ _; exact Nat.le_of_eq rfl) (by decide)
  have O13 := O4.keep K11 (allS g12 all0)
  have K14 : Keep h0 h11 [] := Keep.trans K5 K11 (allS (Or.inr (Nat.le_of_eq g3.symm)) all0)
  have v15 : Arv Z h11 b3 k3 .byte (3 : Int32) [(.int p3), (.int (58 : Int32)), (.int (32 : Int32))] o0 := V11
  have f16 := (B3.keep K11)
  refine ⟨T11, some (.ref b3), _, _, _, X11, by decide, by decide, nofun, ?_, fun fs hr => castTop (ef_418 m a1) ?_⟩
  · show Q48_copyOfRangeByte Z a1 k2 p3 h0 n0 _ T11.heap _
    rw [e11]
    exact ⟨b3, k3, rfl, N11, K14, (Nat.le_of_eq g3.symm), v15, f16⟩
  · show SS p e below s₁ m 0 #[rv a1, .val o0, iv (3 : Int32), .unset, .unset] [] _
    refine XS.iloadN X0.here hx rfl (hb hby d_381) rfl ?_
    refine XS.iloadN X0.here hx rfl (hb hby d_382) rfl ?_
    refine st1 _ ?_
    refine XS.iloadN X1.here hx rfl (hb hby d_391) rfl ?_
    refine XS.iloadN X1.here hx rfl (hb hby d_392) rfl ?_
    refine XS.isub X1.here hx rfl (hb hby d_393) rfl ?_
    show SS p e below T1 m 8 #[rv a1, .val o0, iv (3 : Int32), .unset, .unset] [(.int (3 : Int32))] _
    refine XS.istoreN X1.here hx rfl (hb hby d_394) rfl (l' := #[rv a1, .val o0, iv (3 : Int32), iv (3 : Int32), .unset]) rfl ?_
    refine XS.iloadN X1.here hx rfl (hb hby d_395) rfl ?_
    refine st3 _ ?_
    refine XS.astore X3.here hx rfl (hb hby d_397) rfl rfl (l' := #[rv a1, .val o0, iv (3 : Int32), iv (3 : Int32), rv b3]) rfl ?_
    refine XS.aloadN X3.here hx rfl (hb hby d_398) rfl rfl ?_
    refine XS.iloadN X3.here hx rfl (hb hby d_399) rfl ?_
    refine XS.aload X3.here hx rfl (hb hby d_400) rfl rfl ?_
    refine XS.iconst X3.here hx rfl (hb hby d_401) ?_
    refine XS.aloadN X3.here hx rfl (hb hby d_402) rfl rfl ?_
    refine X3.arraylength hx (by rw [e3]; exact A7.1) (State.isArrayOf_alike hZ.alike A7.2.1) (g := (mkF m 20 #[rv a1, .val o0, iv (3 : Int32), iv (3 : Int32), rv b3] [(.ref a1), o0, (.ref b3), o0, (.ref a1)])) rfl rfl (hb hby d_403) _ ?_
    rw [len_of S7 N7]
    show SS p e below T3 m 21 #[rv a1, .val o0, iv (3 : Int32), iv (3 : Int32), rv b3] [(.int (16 : Int32)), o0, (.ref b3), o0, (.ref a1)] _
    refine XS.iloadN X3.here hx rfl (hb hby d_404) rfl ?_
    refine XS.isub X3.here hx rfl (hb hby d_405) rfl ?_
    show SS p e below T3 m 23 #[rv a1, .val o0, iv (3 : Int32), iv (3 : Int32), rv b3] [(.int (16 : Int32)), o0, (.ref b3), o0, (.ref a1)] _
    refine XS.iloadN X3.here hx rfl (hb hby d_406) rfl ?_
    refine st9 _ ?_
    refine st11 _ ?_
    refine XS.aload X11.here hx rfl (hb hby d_416) rfl rfl ?_
    exact retOut X11 hx hret rfl (Or.inr (Or.inr (Or.inr (Or.inr ⟨rfl, rfl, rfl⟩)))) (hb hby d_417) hr
theorem pd_419 : parseMethodDescriptor "([BII)[B" = some ⟨[(.array .byte), .int, .int], some (.array .byte)⟩ := by decide +kernel
theorem d_420 : decode jdk_65_method_132_code 16 = .ok (.areturn, 1) := by decide +kernel
theorem ef_421 (m : MethodId) (a1 : Addr) : entryFrame m #[(.ref a1), o0, (.int (3 : Int32))] 3 = mkF m 0 #[rv a1, .val o0, iv (3 : Int32)] [] := by first | (simp [entryFrame, mkF, argsToLocals, Value.category]; done) | rfl
def Q49_copyOfRange (Z : State) (a1 : Addr) (k2 : ClassId) (p3 : Int32) (h0 : Heap) (n0 : Nat) (v : Option Value) (h : Heap) (L : List Loc) : Prop := ∃ (b2_0 : Addr) (k2_0 : ClassId), v = some (.ref b2_0) ∧ Fr n0 L ∧ Keep h0 h [] ∧ h0.size ≤ b2_0 ∧ Arv Z h b2_0 k2_0 .byte (3 : Int32) [(.int p3), (.int (58 : Int32)), (.int (32 : Int32))] o0 ∧ EA46 Z h b2_0
theorem rm49_copyOfRange (l : Launch) (Z : State) (a0 : Array Value) (hw : HW Z a0) (a1 : Addr) (k2 : ClassId) (p3 : Int32) (h0 : Heap) (n0 : Nat) (O0 : Old Z n0 h0) (F_0 : Arv Z h0 a1 k2 .byte (16 : Int32) [(.int p3), (.int (58 : Int32)), (.int (32 : Int32)), o0, o0, o0, o0, o0, o0, o0, o0, o0, o0, o0, o0, o0] o0) :
    Met l Z [] MY28 jdk_65_method_132_code 3 (some (.array .byte)) ({ frames := 2, cells := 1, slots := 3, locals := 43 } : Room) #[(.ref a1), o0, (.int (3 : Int32))] h0 (Q49_copyOfRange Z a1 k2 p3 h0 n0) := by
  have W := @own_W _ _ hw
  refine own_mk (plainFor_of_name pn_389) ?_
  intro p e s m below meth c s₁ hZ hx hby hml hown hnm hret hlk X0 e0
  have N0 := Fr.nil n0
  obtain ⟨c1, A1, q1, S1, N1, H1, G1⟩ := id F_0
  obtain ⟨_, T2, L2, X2, hQ2, st2⟩ := own_cs X0 hx hZ hown hml (W 169 rfl) (W 170 rfl) (W 167 rfl) (W 171 rfl) (rm48_copyOfRangeByte l Z a0 hw a1 k2 p3 h0 n0 O0 (F_0)) e0 (hb hby d_380) 0 #[rv a1, .val o0, iv (3 : Int32)] [(.ref a1), o0, (.int (3 : Int32))] [] pd_419
  obtain ⟨b2_0, k2_0, rfl, N2q, K2, gb2_0, F2_0, F2_1⟩ := hQ2
  have N3 := Fr.app N0 N2q
  have O4 := O0.keep K2 all0
  have K5 : Keep h0 T2.heap [] := Keep.trans (Keep.refl h0 []) K2 all0
  refine ⟨T2, some (.ref b2_0), _, _, _, X2, by decide, by decide, nofun, ?_, fun fs hr => castTop (ef_421 m a1) ?_⟩
  · show Q49_copyOfRange Z a1 k2 p3 h0 n0 _ T2.heap _
    exact ⟨b2_0, k2_0, rfl, N3, K5, gb2_0, F2_0, F2_1⟩
  · show SS p e below s₁ m 0 #[rv a1, .val o0, iv (3 : Int32)] [] _
    refine XS.iloadN X0.here hx rfl (hb hby d_371) rfl ?_
    refine XS.ifNo X0.here hx rfl (hb hby d_372) rfl ((if0 _ _).trans (teq (by decide : (0 : Int32) = (0 : Int32))).2) ?_
    refine XS.iloadN X0.here hx rfl (hb hby d_373) rfl ?_
    refine XS.aloadN X0.here hx rfl (hb hby d_374) rfl rfl ?_
    refine X0.arraylength hx (by rw [e0]; exact A1.1) (State.isArrayOf_alike hZ.alike A1.2.1) (g := (mkF m 6 #[rv a1, .val o0, iv (3 : Int32)] [(.ref a1), (.int (3 : Int32))])) rfl rfl (hb hby d_375) _ ?_
    rw [len_of S1 N1]
    refine XS.icmpNo X0.here hx rfl (hb hby d_376) rfl (feq (by decide : ¬ ((3 : Int32) = (16 : Int32)))).1 ?_
    refine XS.aloadN X0.here hx rfl (hb hby d_377) rfl rfl ?_
    refine XS.iloadN X0.here hx rfl (hb hby d_378) rfl ?_
    refine XS.iloadN X0.here hx rfl (hb hby d_379) rfl ?_
    refine st2 _ ?_
    show SS p e below T2 m 16 #[rv a1, .val o0, iv (3 : Int32)] [(.ref b2_0)] _
    exact retOut X2 hx hret rfl (Or.inr (Or.inr (Or.inr (Or.inr ⟨rfl, rfl, rfl⟩)))) (hb hby d_420) hr
theorem d_422 : decode jdk_42_method_150_code 35 = .ok (.putfield 9, 3) := by decide +kernel
theorem d_423 : decode jdk_42_method_150_code 38 = .ok (.goto 59, 3) := by decide +kernel
theorem d_424 : decode jdk_42_method_150_code 97 = .ok (.return_, 1) := by decide +kernel
theorem ef_425 (m : MethodId) (a1 : Addr) (a2 : Addr) : entryFrame m #[(.ref a1), (.ref a2), .null] 5 = mkF m 0 #[rv a1, rv a2, .val .null, .unset, .unset] [] := by first | (simp [entryFrame, mkF, argsToLocals, Value.category]; done) | rfl
def Q50_init (Z : State) (a1 : Addr) (a2 : Addr) (a3 : Addr) (p4 : Int32) (k5 : ClassId) (p6 : Int32) (h0 : Heap) (n0 : Nat) (v : Option Value) (h : Heap) (L : List Loc) : Prop := ∃ (b13_0 : Addr) (k13_0 : ClassId), v = none ∧ Fr n0 L ∧ Keep h0 h [a1] ∧ h0.size ≤ b13_0 ∧ Arv Z h b13_0 k13_0 .byte (3 : Int32) [(.int p6), (.int (58 : Int32)), (.int (32 : Int32))] o0 ∧ EA46 Z h b13_0 ∧ FA38 Z h a1 o0 ∧ FA37 Z h a1 (.ref b13_0)
theorem rm50_init (l : Launch) (Z : State) (a0 : Array Value) (hw : HW Z a0) (a1 : Addr) (a2 : Addr) (a3 : Addr) (p4 : Int32) (k5 : ClassId) (p6 : Int32) (h0 : Heap) (n0 : Nat) (O0 : Old Z n0 h0) (F_0 : EA47 Z h0 a2) (F_1 : FA41 Z h0 a2 (.ref a3)) (F_2 : FA43 Z h0 a2 (.int (3 : Int32))) (S_3 : SA48 Z Z.heap (.int p4)) (hc_4 : ¬ (p4 = (0 : Int32))) (F_5 : FA42 Z h0 a2 o0) (F_6 : EA44 Z h0 a1) (F_7 : FA38 Z h0 a1 o0) (g_8 : n0 ≤ a1) (F_9 : Arv Z h0 a3 k5 .byte (16 : Int32) [(.int p6), (.int (58 : Int32)), (.int (32 : Int32)), o0, o0, o0, o0, o0, o0, o0, o0, o0, o0, o0, o0, o0] o0) (ne_10 : a1 ≠ a3) (F_11 : FA37 Z h0 a1 .null) (lt_12 : a1 < h0.size) :
    Met l Z [] MY29 jdk_42_method_150_code 5 none ({ frames := 3, cells := 1, slots := 3, locals := 58 } : Room) #[(.ref a1), (.ref a2), .null] h0 (Q50_init Z a1 a2 a3 p4 k5 p6 h0 n0) := by
  have W := @own_W _ _ hw
  refine own_mk (plainFor_of_name pn_30) ?_
  intro p e s m below meth c s₁ hZ hx hby hml hown hnm hret hlk X0 e0
  have N0 := Fr.nil n0
  obtain ⟨T1, X1, e1, st1⟩ := initO X0 hx hZ hown (W 16 rfl) (W 17 rfl) (W 18 rfl) e0 (g := (mkF m 1 #[rv a1, rv a2, .val .null, .unset, .unset] [(.ref a1)])) rfl (by rw [hml]; rfl) rfl (hb hby d_335) (by decide) (W := 0) (by show 2 * 0 + _ ≤ _; exact Nat.le_of_eq rfl) (by decide)
  obtain ⟨_, T2, L2, X2, hQ2, st2⟩ := own_cv X1 hx hZ hown hml (W 147 rfl) (W 148 rfl) (notFace_of_selects (W 150 rfl)) (W 150 rfl) (W 149 rfl) (W 79 rfl) (W 151 rfl) (rm42_getValue l Z a0 hw a2 a3 h0 n0 O0 (F_1)) e1 F_0 (hb hby d_337) 0 #[rv a1, rv a2, .val .null, .unset, .unset] [] [] pd_341
  obtain ⟨rfl, N2q, K2⟩ := hQ2
  have N3 := Fr.app N0 N2q
  obtain ⟨_, T4, L4, X4, hQ4, st4⟩ := own_cv X2 hx hZ hown hml (W 152 rfl) (W 153 rfl) (own_nf (args := a0) (y := MY15) rfl (id (W 112 rfl))) (W 155 rfl) (W 156 rfl) (W 71 rfl) (W 157 rfl) (rm44_length l Z a0 hw a2 h0 n0 O0 (F_2) (F_0)) K2 F_0 (hb hby d_344) 0 #[rv a1, rv a2, .val .null, rv a3, .unset] [] [] pd_234
  obtain ⟨rfl, N4q, K4⟩ := hQ4
  have N5 := Fr.app N3 N4q
  obtain ⟨_, T6, L6, X6, hQ6, st6⟩ := own_cv X4 hx hZ hown hml (W 160 rfl) (W 161 rfl) (notFace_of_selects (W 163 rfl)) (W 163 rfl) (W 162 rfl) (W 79 rfl) (W 164 rfl) (rm45_isLatin1 l Z a0 hw a2 p4 h0 n0 O0 (S_3) (hc_4) (F_5)) K4 F_0 (hb hby d_353) 0 #[rv a1, rv a2, .val .null, rv a3, iv (3 : Int32)] [] [] pd_67
  obtain ⟨rfl, N6q, K6⟩ := hQ6
  have N7 := Fr.app N5 N6q
  obtain ⟨T8, h8, X8, e8, W8, st8⟩ := putFN X6 hx hZ hown (W 26 rfl) Via.refl K6 F_7 F_6 (Or.inr ⟨(W 22 rfl), rfl, hnm⟩) (W 6 rfl) (ty := .byte) (v' := o0) (by decide) rfl rfl (g := (mkF m 24 #[rv a1, rv a2, .val .null, rv a3, iv (3 : Int32)] [o0, (.ref a1)])) rfl rfl (hb hby d_365)
  have O9 := O0.wr W8 g_8
  have K10 : Keep h0 h8 [a1] := Keep.wr (Keep.refl h0 [a1]) W8 (Or.inl (List.mem_of_getElem? (i := 0) rfl))
  have f11 : FA38 Z h8 a1 o0 := (F_7.same W8)
  have N12 := Fr.snoc X8 N7 g_8
  have f14 := (F_9.other W8 (Ne.symm ne_10))
  obtain ⟨_, T13, L13, X13, hQ13, st13⟩ := own_cs X8 hx hZ hown hml (W 165 rfl) (W 166 rfl) (W 167 rfl) (W 168 rfl) (rm49_copyOfRange l Z a0 hw a3 k5 p6 h8 n0 O9 (f14)) e8 (hb hby d_370) 1 #[rv a1, rv a2, .val .null, rv a3, iv (3 : Int32)] [(.ref a3), o0, (.int (3 : Int32))] [(.ref a1)] pd_419
  obtain ⟨b13_0, k13_0, rfl, N13q, K13, gb13_0, F13_0, F13_1⟩ := hQ13
  have N15 := Fr.app N12 N13q
  have O16 := O9.keep K13 all0
  have K17 : Keep h0 T13.heap [a1] := Keep.trans K10 K13 all0
  have f19 := ((F_11.other W8 (Or.inr (slot_ne (Or.inr (W 21 rfl)) (Or.inr (W 22 rfl)) (by decide) (t := (.array .byte)) (t' := .byte) (by decide) (by decide)))).keep K13 nin0)
  have f20 := ((F_6.wr W8).keep K13)
  obtain ⟨T18, h18, X18, e18, W18, st18⟩ := putF X13 hx hZ hown (host := "") (Or.inl (W 25 rfl)) Via.refl rfl f19 f20 (Or.inr ⟨(W 21 rfl), rfl, hnm⟩) (W 6 rfl) (ty := (.array .byte)) (by decide) rfl rfl (g := (mkF m 35 #[rv a1, rv a2, .val .null, rv a3, iv (3 : Int32)] [(.ref b13_0), (.ref a1)])) rfl rfl (hb hby d_422)
  have O21 := O16.wr W18 g_8
  have K22 : Keep h0 h18 [a1] := Keep.wr K17 W18 (Or.inl (List.mem_of_getElem? (i := 0) rfl))
  have f23 : FA37 Z h18 a1 (.ref b13_0) := (f19.same W18)
  have N24 := Fr.snoc X18 N15 g_8
  have z25 : h0.size ≤ h8.size := (Nat.le_of_eq W8.size.symm)
  have f26 := (F13_0.other W18 (Ne.symm (Nat.ne_of_lt (Nat.lt_of_lt_of_le (Nat.lt_of_lt_of_le lt_12 z25) gb13_0))))
  have f27 := (F13_1.wr W18)
  have f28 := ((f11.keep K13 nin0).other W18 (Or.inr (slot_ne (Or.inr (W 22 rfl)) (Or.inr (W 21 rfl)) (by decide) (t := .byte) (t' := (.array .byte)) (by decide) (by decide))))
  refine ⟨T18, none, _, _, _, X18, by decide, by decide, (fun _ => rfl), ?_, fun fs hr => castTop (ef_425 m a1 a2) ?_⟩
  · show Q50_init Z a1 a2 a3 p4 k5 p6 h0 n0 _ T18.heap _
    rw [e18]
    exact ⟨b13_0, k13_0, rfl, N24, K22, (Nat.le_trans z25 gb13_0), f26, f27, f28, f23⟩
  · show SS p e below s₁ m 0 #[rv a1, rv a2, .val .null, .unset, .unset] [] _
    refine XS.aloadN X0.here hx rfl (hb hby d_334) rfl rfl ?_
    refine st1 _ ?_
    refine XS.aloadN X1.here hx rfl (hb hby d_336) rfl rfl ?_
    refine st2 _ ?_
    refine XS.astoreN X2.here hx rfl (hb hby d_342) rfl rfl (l' := #[rv a1, rv a2, .val .null, rv a3, .unset]) rfl ?_
    refine XS.aloadN X2.here hx rfl (hb hby d_343) rfl rfl ?_
    refine st4 _ ?_
    refine XS.istore X4.here hx rfl (hb hby d_351) rfl (l' := #[rv a1, rv a2, .val .null, rv a3, iv (3 : Int32)]) rfl ?_
    refine XS.aloadN X4.here hx rfl (hb hby d_352) rfl rfl ?_
    refine st6 _ ?_
    show SS p e below T6 m 19 #[rv a1, rv a2, .val .null, rv a3, iv (3 : Int32)] [(.int (1 : Int32))] _
    refine XS.ifNo X6.here hx rfl (hb hby d_362) rfl ((if0 _ _).trans (feq (by decide : ¬ ((1 : Int32) = (0 : Int32)))).1) ?_
    refine XS.aloadN X6.here hx rfl (hb hby d_363) rfl rfl ?_
    refine XS.iconst X6.here hx rfl (hb hby d_364) ?_
    refine st8 _ ?_
    refine XS.aloadN X8.here hx rfl (hb hby d_366) rfl rfl ?_
    refine XS.aloadN X8.here hx rfl (hb hby d_367) rfl rfl ?_
    refine XS.iconst X8.here hx rfl (hb hby d_368) ?_
    refine XS.iload X8.here hx rfl (hb hby d_369) rfl ?_
    refine st13 _ ?_
    refine st18 _ ?_
    show SS p e below T18 m 38 #[rv a1, rv a2, .val .null, rv a3, iv (3 : Int32)] [] _
    refine XS.goto X18.here hx rfl (pc0 := 38) (pc' := 97) rfl (hb hby d_423) (by decide) (by decide) ?_
    exact X18.returnOut hx hret (hb hby d_424) hr
theorem pd_426 : parseMethodDescriptor "(Ljava/lang/AbstractStringBuilder;Ljava/lang/Void;)V" = some ⟨[(.object "java/lang/AbstractStringBuilder"), (.object "java/lang/Void")], none⟩ := by decide +kernel
theorem d_427 : decode jdk_42_method_53_code 6 = .ok (.return_, 1) := by decide +kernel
def Q51_init (Z : State) (a1 : Addr) (a2 : Addr) (a3 : Addr) (p4 : Int32) (k5 : ClassId) (p6 : Int32) (h0 : Heap) (n0 : Nat) (v : Option Value) (h : Heap) (L : List Loc) : Prop := ∃ (b1_0 : Addr) (k1_0 : ClassId), v = none ∧ Fr n0 L ∧ Keep h0 h [a1] ∧ h0.size ≤ b1_0 ∧ Arv Z h b1_0 k1_0 .byte (3 : Int32) [(.int p6), (.int (58 : Int32)), (.int (32 : Int32))] o0 ∧ EA46 Z h b1_0 ∧ FA38 Z h a1 o0 ∧ FA37 Z h a1 (.ref b1_0)
theorem rm51_init (l : Launch) (Z : State) (a0 : Array Value) (hw : HW Z a0) (a1 : Addr) (a2 : Addr) (a3 : Addr) (p4 : Int32) (k5 : ClassId) (p6 : Int32) (h0 : Heap) (n0 : Nat) (O0 : Old Z n0 h0) (F_0 : EA47 Z h0 a2) (F_1 : FA41 Z h0 a2 (.ref a3)) (F_2 : FA43 Z h0 a2 (.int (3 : Int32))) (S_3 : SA48 Z Z.heap (.int p4)) (hc_4 : ¬ (p4 = (0 : Int32))) (F_5 : FA42 Z h0 a2 o0) (F_6 : EA44 Z h0 a1) (F_7 : FA38 Z h0 a1 o0) (F_8 : Arv Z h0 a3 k5 .byte (16 : Int32) [(.int p6), (.int (58 : Int32)), (.int (32 : Int32)), o0, o0, o0, o0, o0, o0, o0, o0, o0, o0, o0, o0, o0] o0) (F_9 : FA37 Z h0 a1 .null) (g_10 : n0 ≤ a1) (ne_11 : a1 ≠ a3) (lt_12 : a1 < h0.size) :
    Met l Z [] MY30 jdk_42_method_53_code 2 none ({ frames := 4, cells := 1, slots := 3, locals := 74 } : Room) #[(.ref a1), (.ref a2)] h0 (Q51_init Z a1 a2 a3 p4 k5 p6 h0 n0) := by
  have W := @own_W _ _ hw
  refine own_mk (plainFor_of_name pn_30) ?_
  intro p e s m below meth c s₁ hZ hx hby hml hown hnm hret hlk X0 e0
  have N0 := Fr.nil n0
  obtain ⟨_, T1, L1, X1, hQ1, st1⟩ := own_cp X0 hx hZ hown hml rfl (W 144 rfl) (W 145 rfl) (W 7 rfl) (W 146 rfl) (rm50_init l Z a0 hw a1 a2 a3 p4 k5 p6 h0 n0 O0 (F_0) (F_1) (F_2) (S_3) (hc_4) (F_5) (F_6) (F_7) (g_10) (F_8) (ne_11) (F_9) (lt_12)) e0 (hb hby d_333) 0 #[rv a1, rv a2] a1 [(.ref a2), .null] [] pd_426
  obtain ⟨b1_0, k1_0, rfl, N1q, K1, gb1_0, F1_0, F1_1, F1_2, F1_3⟩ := hQ1
  have N2 := Fr.app N0 N1q
  have O3 := O0.keep K1 (allS g_10 all0)
  have K4 : Keep h0 T1.heap [a1] := Keep.trans (Keep.refl h0 [a1]) K1 (allS (Or.inl (List.mem_of_getElem? (i := 0) rfl)) all0)
  refine ⟨T1, none, _, _, _, X1, by decide, by decide, (fun _ => rfl), ?_, fun fs hr => castTop (ef_33 m a1 a2) ?_⟩
  · show Q51_init Z a1 a2 a3 p4 k5 p6 h0 n0 _ T1.heap _
    exact ⟨b1_0, k1_0, rfl, N2, K4, gb1_0, F1_0, F1_1, F1_2, F1_3⟩
  · show SS p e below s₁ m 0 #[rv a1, rv a2] [] _
    refine XS.aloadN X0.here hx rfl (hb hby d_330) rfl rfl ?_
    refine XS.aloadN X0.here hx rfl (hb hby d_331) rfl rfl ?_
    refine XS.aconstNull X0.here hx rfl (hb hby d_332) ?_
    refine st1 _ ?_
    exact X1.returnOut hx hret (hb hby d_427) hr
theorem pd_428 : parseMethodDescriptor "(Ljava/lang/StringBuilder;)V" = some ⟨[(.object "java/lang/StringBuilder")], none⟩ := by decide +kernel
theorem d_429 : decode jdk_67_method_42_code 8 = .ok (.areturn, 1) := by decide +kernel
def Q52_toString (Z : State) (a1 : Addr) (a2 : Addr) (p3 : Int32) (k4 : ClassId) (p5 : Int32) (h0 : Heap) (n0 : Nat) (v : Option Value) (h : Heap) (L : List Loc) : Prop := ∃ (b1 : Addr) (b4_0 : Addr) (k4_0 : ClassId), v = some (.ref b1) ∧ Fr n0 L ∧ Keep h0 h [] ∧ h0.size ≤ b1 ∧ h0.size ≤ b4_0 ∧ EA44 Z h b1 ∧ FA37 Z h b1 (.ref b4_0) ∧ FA38 Z h b1 o0 ∧ Arv Z h b4_0 k4_0 .byte (3 : Int32) [(.int p5), (.int (58 : Int32)), (.int (32 : Int32))] o0 ∧ EA46 Z h b4_0
theorem rm52_toString (l : Launch) (Z : State) (a0 : Array Value) (hw : HW Z a0) (a1 : Addr) (a2 : Addr) (p3 : Int32) (k4 : ClassId) (p5 : Int32) (h0 : Heap) (n0 : Nat) (O0 : Old Z n0 h0) (F_0 : EA47 Z h0 a1) (F_1 : FA41 Z h0 a1 (.ref a2)) (F_2 : FA43 Z h0 a1 (.int (3 : Int32))) (S_3 : SA48 Z Z.heap (.int p3)) (hc_4 : ¬ (p3 = (0 : Int32))) (F_5 : FA42 Z h0 a1 o0) (F_6 : Arv Z h0 a2 k4 .byte (16 : Int32) [(.int p5), (.int (58 : Int32)), (.int (32 : Int32)), o0, o0, o0, o0, o0, o0, o0, o0, o0, o0, o0, o0, o0] o0) (lt_7 : a2 < h0.size) :
    Met l Z [] MY31 jdk_67_method_42_code 1 (some (.object "java/lang/String")) ({ frames := 5, cells := 2, slots := 7, locals := 88 } : Room) #[(.ref a1)] h0 (Q52_toString Z a1 a2 p3 k4 p5 h0 n0) := by
  have W := @own_W _ _ hw
  refine own_mk (plainFor_of_name pn_209) ?_
  intro p e s m below meth c s₁ hZ hx hby hml hown hnm hret hlk X0 e0
  have N0 := Fr.nil n0
  obtain ⟨T1, h1, X1, e1, E1, A1, D1, -, st1⟩ := newO X0 hx hZ hown (W 140 rfl) (W 6 rfl) (W 7 rfl) e0 (g := (mkF m 0 #[rv a1] [])) rfl (hb hby d_326) (by decide) (by decide)
  obtain ⟨b1, g1⟩ : ∃ z, z = h0.size := ⟨_, rfl⟩
  rw [← g1] at A1 D1 st1
  have O2 := O0.ext E1
  have K3 : Keep h0 h1 [] := Keep.ext (Keep.refl h0 []) E1
  have f5 := (F_0.ext E1)
  have f6 := (F_1.ext E1)
  have f7 := (F_2.ext E1)
  have f8 := (F_5.ext E1)
  have f9 := (F_6.ext E1)
  have g10 : n0 ≤ b1 := Nat.le_trans (Nat.le_trans (Nat.le_of_eq O0.1.symm) O0.2.1) (Nat.le_of_eq g1.symm)
  obtain ⟨_, T4, L4, X4, hQ4, st4⟩ := own_cp X1 hx hZ hown hml rfl (W 141 rfl) (W 142 rfl) (W 7 rfl) (W 143 rfl) (rm51_init l Z a0 hw b1 a1 a2 p3 k4 p5 h1 n0 O2 (f5) (f6) (f7) (S_3) (hc_4) (f8) (A1) ((D1 (Or.inr (W 22 rfl)) (ty := .byte) (by decide) : FA38 Z h1 b1 o0)) (f9) ((D1 (Or.inr (W 21 rfl)) (ty := (.array .byte)) (by decide) : FA37 Z h1 b1 .null)) (g10) ((Ne.symm (Nat.ne_of_lt (Nat.lt_of_lt_of_le lt_7 (Nat.le_of_eq g1.symm))))) (A1.lt)) e1 (hb hby d_329) 1 #[rv a1] b1 [(.ref a1)] [(.ref b1)] pd_428
  obtain ⟨b4_0, k4_0, rfl, N4q, K4, gb4_0, F4_0, F4_1, F4_2, F4_3⟩ := hQ4
  have N11 := Fr.app N0 N4q
  have O12 := O2.keep K4 (allS g10 all0)
  have K13 : Keep h0 T4.heap [] := Keep.trans K3 K4 (allS (Or.inr (Nat.le_of_eq g1.symm)) all0)
  have f14 := (A1.keep K4)
  have z15 : h0.size ≤ h1.size := E1.1
  refine ⟨T4, some (.ref b1), _, _, _, X4, by decide, by decide, nofun, ?_, fun fs hr => castTop (ef_44 m a1) ?_⟩
  · show Q52_toString Z a1 a2 p3 k4 p5 h0 n0 _ T4.heap _
    exact ⟨b1, b4_0, k4_0, rfl, N11, K13, (Nat.le_of_eq g1.symm), (Nat.le_trans z15 gb4_0), f14, F4_3, F4_2, F4_0, F4_1⟩
  · show SS p e below s₁ m 0 #[rv a1] [] _
    refine st1 _ ?_
    refine XS.dup X1.here hx rfl (hb hby d_327) rfl rfl ?_
    refine XS.aloadN X1.here hx rfl (hb hby d_328) rfl rfl ?_
    refine st4 _ ?_
    exact retOut X4 hx hret rfl (Or.inr (Or.inr (Or.inr (Or.inr ⟨rfl, rfl, rfl⟩)))) (hb hby d_429) hr
def Q53_toString (Z : State) (a1 : Addr) (a2 : Addr) (a3 : Addr) (k4 : ClassId) (p5 : Int32) (p6 : Int32) (a7 : Addr) (a8 : Addr) (k9 : ClassId) (h0 : Heap) (n0 : Nat) (v : Option Value) (h : Heap) (L : List Loc) : Prop := ∃ (b68_0 : Addr) (b68_1 : Addr) (k68_0 : ClassId), v = some (.ref b68_0) ∧ Fr n0 L ∧ Keep h0 h [] ∧ h0.size ≤ b68_0 ∧ h0.size ≤ b68_1 ∧ EA44 Z h b68_0 ∧ FA37 Z h b68_0 (.ref b68_1) ∧ FA38 Z h b68_0 o0 ∧ Arv Z h b68_1 k68_0 .byte (3 : Int32) [(.int p5), (.int (58 : Int32)), (.int (32 : Int32))] o0 ∧ EA46 Z h b68_1
theorem rm53_toString (l : Launch) (Z : State) (a0 : Array Value) (hw : HW Z a0) (a1 : Addr) (a2 : Addr) (a3 : Addr) (k4 : ClassId) (p5 : Int32) (p6 : Int32) (a7 : Addr) (a8 : Addr) (k9 : ClassId) (h0 : Heap) (n0 : Nat) (O0 : Old Z n0 h0) (F_0 : FA39 Z h0 a1 (.ref a2)) (F_1 : EA44 Z h0 a2) (F_2 : FA37 Z h0 a2 (.ref a3)) (F_3 : Arv Z h0 a3 k4 .byte (1 : Int32) [(.int p5)] o0) (S_4 : SA48 Z Z.heap (.int p6)) (hc_5 : ¬ (p6 = (0 : Int32))) (lt_6 : a1 < h0.size) (F_7 : FA38 Z h0 a2 o0) (lt_8 : a2 < h0.size) (lt_9 : a3 < h0.size) (F_10 : FA40 Z h0 a1 (.ref a7)) (F_11 : EA44 Z h0 a7) (F_12 : FA37 Z h0 a7 (.ref a8)) (F_13 : Arv Z h0 a8 k9 .byte (0 : Int32) [] o0) (F_14 : FA38 Z h0 a7 o0) (lt_15 : a7 < h0.size) (lt_16 : a8 < h0.size) :
    MetH l Z [] MY6 prog_7_method_2_code 1 (some (.object "java/lang/String")) ({ frames := 6, cells := 6, slots := 39, locals := 100 } : Room) #[(.ref a1)] h0 consts_1 [] (Q53_toString Z a1 a2 a3 k4 p5 p6 a7 a8 k9 h0 n0) := by
  have W := @own_W _ _ hw
  refine own_mkH (plainFor_of_name pn_55) ?_
  intro p e s m below meth c s₁ hZ hx hby hml hown hnm hret hlk X0 e0 H0 hsf
  have N0 := Fr.nil n0
  have C0 := CHr.refl H0
  have X1 := (show Stand p l e _ (s.setVm s.vm) m _ below meth c _ _ _ _ from X0)
  obtain ⟨T2, X2, e2, st2⟩ := getF X1 hx hZ hown (host := "") (Or.inl (W 39 rfl)) Via.refl e0 F_0 (g := (mkF m 1 #[rv a1] [(.ref a1)])) rfl rfl (hb hby d_58)
  obtain ⟨_, T3, L3, X3, hQ3, st3⟩ := own_cv X2 hx hZ hown hml (W 48 rfl) (W 49 rfl) (notFace_of_selects (W 51 rfl)) (W 51 rfl) (W 50 rfl) (W 7 rfl) (W 52 rfl) (rm21_isEmpty l Z a0 hw a2 a3 k4 p5 h0 n0 O0 (F_2) (F_3)) e2 F_1 (hb hby d_59) 0 #[rv a1] [] [] pd_67
  obtain ⟨rfl, N3q, K3⟩ := hQ3
  have N4 := Fr.app N0 N3q
  obtain ⟨T5, h5, X5, e5, E5, A5, D5, -, st5⟩ := newO X3 hx hZ hown (W 69 rfl) (W 70 rfl) (W 71 rfl) K3 (g := (mkF m 17 #[rv a1] [])) rfl (hb hby d_186) (by decide) (by decide)
  obtain ⟨b5, g5⟩ : ∃ z, z = h0.size := ⟨_, rfl⟩
  rw [← g5] at A5 D5 st5
  have c6 := CHr.ext E5 H0
  have C7 := CHr.trans C0 c6
  have O8 := O0.ext E5
  have K9 : Keep h0 h5 [] := Keep.ext (Keep.refl h0 []) E5
  have g11 : n0 ≤ b5 := Nat.le_trans (Nat.le_trans (Nat.le_of_eq O0.1.symm) O0.2.1) (Nat.le_of_eq g5.symm)
  obtain ⟨_, T10, L10, X10, hQ10, st10⟩ := own_cp X5 hx hZ hown hml rfl (W 72 rfl) (W 73 rfl) (W 71 rfl) (W 74 rfl) (rm23_init l Z a0 hw b5 p6 h5 n0 O8 (S_4) (hc_5) (A5) ((D5 (Or.inl (W 84 rfl)) (ty := (.array .byte)) (by decide) : FA41 Z h5 b5 .null)) ((D5 (Or.inl (W 86 rfl)) (ty := .byte) (by decide) : FA42 Z h5 b5 o0)) ((D5 (Or.inl (W 108 rfl)) (ty := .int) (by decide) : FA43 Z h5 b5 o0)) (g11) (A5.lt)) e5 (hb hby d_188) 1 #[rv a1] b5 [] [(.ref b5)] pd_46
  obtain ⟨b10_0, k10_0, rfl, N10q, K10, gb10_0, F10_0, F10_1, F10_2, F10_3, F10_4⟩ := hQ10
  have N12 := Fr.app N4 N10q
  have s13 := Safe.exa (EL := consts_1) hZ.alike A5 (by decide) (by decide)
  have c14 := CHr.keep K10 (sfS s13 sf0) c6.1
  have C15 := CHr.trans C7 c14
  have O16 := O8.keep K10 (allS g11 all0)
  have K17 : Keep h0 T10.heap [] := Keep.trans K9 K10 (allS (Or.inr (Nat.le_of_eq g5.symm)) all0)
  have f19 := ((F_0.ext E5).keep K10 (ninS (Nat.ne_of_lt (Nat.lt_of_lt_of_le lt_6 (Nat.le_of_eq g5.symm))) nin0))
  obtain ⟨T18, X18, e18, st18⟩ := getF X10 hx hZ hown (host := "") (Or.inl (W 39 rfl)) Via.refl rfl f19 (g := (mkF m 25 #[rv a1] [(.ref a1), (.ref b5)])) rfl rfl (hb hby d_211)
  have f21 := ((F_1.ext E5).keep K10)
  have f22 := ((F_2.ext E5).keep K10 (ninS (Nat.ne_of_lt (Nat.lt_of_lt_of_le lt_8 (Nat.le_of_eq g5.symm))) nin0))
  have f23 := ((F_3.ext E5).keep K10 (ninS (Nat.ne_of_lt (Nat.lt_of_lt_of_le lt_9 (Nat.le_of_eq g5.symm))) nin0))
  have f24 := ((F_7.ext E5).keep K10 (ninS (Nat.ne_of_lt (Nat.lt_of_lt_of_le lt_8 (Nat.le_of_eq g5.symm))) nin0))
  have f25 := (A5.keep K10)
  have z26 : h0.size ≤ h5.size := E5.1
  have g27 : n0 ≤ b10_0 := Nat.le_trans (Nat.le_trans (Nat.le_trans (Nat.le_of_eq O0.1.symm) O0.2.1) z26) gb10_0
  obtain ⟨_, T20, L20, X20, hQ20, st20⟩ := own_cv X18 hx hZ hown hml (W 87 rfl) (W 88 rfl) (notFace_of_selects (W 90 rfl)) (W 90 rfl) (W 89 rfl) (W 71 rfl) (W 91 rfl) (rm31_append l Z a0 hw b5 a2 a3 k4 p5 p6 b10_0 k10_0 T10.heap n0 O16 (f21) (f22) (f23) (S_4) (hc_5) (f24) (F10_4) (f25) (F10_2) (F10_0) (F10_3) (g27) ((Nat.ne_of_lt (Nat.lt_of_lt_of_le A5.lt gb10_0))) (g11)) e18 f25 (hb hby d_212) 0 #[rv a1] [(.ref a2)] [] pd_314
  obtain ⟨rfl, N20q, K20, F20_0, F20_1, F20_2, F20_3⟩ := hQ20
  have N28 := Fr.app N12 N20q
  have f29 := (Safe.keep K10 (sfS s13 sf0) c6.1 (Safe.new gb10_0))
  have s30 := Safe.exa (EL := consts_1) hZ.alike f25 (by decide) (by decide)
  have c31 := CHr.keep K20 (sfS s30 (sfS f29 sf0)) c14.1
  have C32 := CHr.trans C15 c31
  have O33 := O16.keep K20 (allS g11 (allS g27 all0))
  have K34 : Keep h0 T20.heap [] := Keep.trans K17 K20 (allS (Or.inr (Nat.le_of_eq g5.symm)) (allS (Or.inr (Nat.le_trans z26 gb10_0)) all0))
  obtain ⟨b35, T35, h35, k35, b35v, kc35, X35, e35, E35, hS35, hk35, hZ35, hown35, Le35, Lc35, Lv35, La35, Lx35, Lb35, c35, -, Ln35, st35⟩ := ldcCH (s := s) (vm0 := s.vm) (EL := consts_1) X20 hx hZ hown (W 134 rfl) (own_str_20 hw) rfl ((State.WarmedH.refl s).since 0) (Nat.zero_le _) (own_ew_21 hw) (List.mem_of_getElem? (i := 0) rfl) c31.1 (vs := [(.int (58 : Int32)), (.int (32 : Int32))]) (z := (2 : Int32)) ⟨by decide, by decide⟩ (by decide) rfl (g := (mkF m 31 #[rv a1] [(.ref b5)])) rfl (hb hby d_315) (n := 8) (by decide) (by decide) (by decide) (by decide)
  have C36 := CHr.trans C32 c35
  have O37 := O33.ext E35
  have K38 : Keep h0 h35 [] := Keep.ext K34 E35
  have f40 := (F20_0.ext E35)
  have f41 := ((f25.keep K20).ext E35)
  have f42 := (F20_1.ext E35)
  have f43 := (F20_2.ext E35)
  have f44 := (F20_3.ext E35)
  obtain ⟨_, T39, L39, X39, hQ39, st39⟩ := own_cv X35 hx hZ35 hown35 hml (W 87 rfl) (W 88 rfl) (notFace_of_selects (W 90 rfl)) (W 90 rfl) (W 89 rfl) (W 71 rfl) (W 91 rfl) (rm36_append l Z a0 hw b5 b35 b35v kc35 p6 b10_0 k10_0 p5 h35 n0 O37 (Le35) (Lv35) (La35) (S_4) (hc_5) (Lc35) (f40) (f41) (f42) (f43) (f44) (g27) ((Nat.ne_of_lt (Nat.lt_of_lt_of_le A5.lt gb10_0))) (g11)) e35 f41 (hb hby d_316) 0 #[rv a1] [(.ref b35)] [] pd_314
  obtain ⟨rfl, N39q, K39, F39_0, F39_1, F39_2, F39_3⟩ := hQ39
  have N45 := Fr.app N28 N39q
  have z46 : T10.heap.size ≤ T20.heap.size := K20.1
  have f47 := (CHr.safe c35 (Nat.lt_of_lt_of_le F10_0.lt z46) (Safe.keep K20 (sfS s30 (sfS f29 sf0)) c14.1 f29))
  have s48 := Safe.exa (EL := consts_1) hZ35.alike f41 (by decide) (by decide)
  have c49 := CHr.keep K39 (sfS s48 (sfS f47 sf0)) c35.1
  have C50 := CHr.trans C36 c49
  have O51 := O37.keep K39 (allS g11 (allS g27 all0))
  have K52 : Keep h0 T39.heap [] := Keep.trans K38 K39 (allS (Or.inr (Nat.le_of_eq g5.symm)) (allS (Or.inr (Nat.le_trans z26 gb10_0)) all0))
  have f54 := (((((F_10.ext E5).keep K10 (ninS (Nat.ne_of_lt (Nat.lt_of_lt_of_le lt_6 (Nat.le_of_eq g5.symm))) nin0)).keep K20 (ninS (Nat.ne_of_lt (Nat.lt_of_lt_of_le lt_6 (Nat.le_of_eq g5.symm))) (ninS (Nat.ne_of_lt (Nat.lt_of_lt_of_le (Nat.lt_of_lt_of_le lt_6 z26) gb10_0)) nin0))).ext E35).keep K39 (ninS (Nat.ne_of_lt (Nat.lt_of_lt_of_le lt_6 (Nat.le_of_eq g5.symm))) (ninS (Nat.ne_of_lt (Nat.lt_of_lt_of_le (Nat.lt_of_lt_of_le lt_6 z26) gb10_0)) nin0)))
  obtain ⟨T53, X53, e53, st53⟩ := getF X39 hx hZ35 hown35 (host := "") (Or.inl (W 41 rfl)) Via.refl rfl f54 (g := (mkF m 37 #[rv a1] [(.ref a1), (.ref b5)])) rfl rfl (hb hby d_321)
  have f56 := (((((F_11.ext E5).keep K10).keep K20).ext E35).keep K39)
  have f57 := (((((F_12.ext E5).keep K10 (ninS (Nat.ne_of_lt (Nat.lt_of_lt_of_le lt_15 (Nat.le_of_eq g5.symm))) nin0)).keep K20 (ninS (Nat.ne_of_lt (Nat.lt_of_lt_of_le lt_15 (Nat.le_of_eq g5.symm))) (ninS (Nat.ne_of_lt (Nat.lt_of_lt_of_le (Nat.lt_of_lt_of_le lt_15 z26) gb10_0)) nin0))).ext E35).keep K39 (ninS (Nat.ne_of_lt (Nat.lt_of_lt_of_le lt_15 (Nat.le_of_eq g5.symm))) (ninS (Nat.ne_of_lt (Nat.lt_of_lt_of_le (Nat.lt_of_lt_of_le lt_15 z26) gb10_0)) nin0)))
  have f58 := (((((F_13.ext E5).keep K10 (ninS (Nat.ne_of_lt (Nat.lt_of_lt_of_le lt_16 (Nat.le_of_eq g5.symm))) nin0)).keep K20 (ninS (Nat.ne_of_lt (Nat.lt_of_lt_of_le lt_16 (Nat.le_of_eq g5.symm))) (ninS (Nat.ne_of_lt (Nat.lt_of_lt_of_le (Nat.lt_of_lt_of_le lt_16 z26) gb10_0)) nin0))).ext E35).keep K39 (ninS (Nat.ne_of_lt (Nat.lt_of_lt_of_le lt_16 (Nat.le_of_eq g5.symm))) (ninS (Nat.ne_of_lt (Nat.lt_of_lt_of_le (Nat.lt_of_lt_of_le lt_16 z26) gb10_0)) nin0)))
  have f59 := (((((F_14.ext E5).keep K10 (ninS (Nat.ne_of_lt (Nat.lt_of_lt_of_le lt_15 (Nat.le_of_eq g5.symm))) nin0)).keep K20 (ninS (Nat.ne_of_lt (Nat.lt_of_lt_of_le lt_15 (Nat.le_of_eq g5.symm))) (ninS (Nat.ne_of_lt (Nat.lt_of_lt_of_le (Nat.lt_of_lt_of_le lt_15 z26) gb10_0)) nin0))).ext E35).keep K39 (ninS (Nat.ne_of_lt (Nat.lt_of_lt_of_le lt_15 (Nat.le_of_eq g5.symm))) (ninS (Nat.ne_of_lt (Nat.lt_of_lt_of_le (Nat.lt_of_lt_of_le lt_15 z26) gb10_0)) nin0)))
  have f60 := (f41.keep K39)
  obtain ⟨_, T55, L55, X55, hQ55, st55⟩ := own_cv X53 hx hZ35 hown35 hml (W 87 rfl) (W 88 rfl) (notFace_of_selects (W 90 rfl)) (W 90 rfl) (W 89 rfl) (W 71 rfl) (W 91 rfl) (rm41_append l Z a0 hw b5 a7 a8 k9 p6 b10_0 k10_0 p5 T39.heap n0 O51 (f56) (f57) (f58) (S_4) (hc_5) (f59) (F39_0) (f60) (F39_1) (F39_2) (F39_3) (g27) ((Nat.ne_of_lt (Nat.lt_of_lt_of_le A5.lt gb10_0))) (g11)) e53 f60 (hb hby d_322) 0 #[rv a1] [(.ref a7)] [] pd_314
  obtain ⟨rfl, N55q, K55, F55_0, F55_1, F55_2, F55_3⟩ := hQ55
  have N61 := Fr.app N45 N55q
  have f62 := (Safe.keep K39 (sfS s48 (sfS f47 sf0)) c35.1 f47)
  have s63 := Safe.exa (EL := consts_1) hZ35.alike f60 (by decide) (by decide)
  have c64 := CHr.keep K55 (sfS s63 (sfS f62 sf0)) c49.1
  have C65 := CHr.trans C50 c64
  have O66 := O51.keep K55 (allS g11 (allS g27 all0))
  have K67 : Keep h0 T55.heap [] := Keep.trans K52 K55 (allS (Or.inr (Nat.le_of_eq g5.symm)) (allS (Or.inr (Nat.le_trans z26 gb10_0)) all0))
  have f69 := (f60.keep K55)
  have z70 : T10.heap.size ≤ h35.size := (Nat.le_trans z46 E35.1)
  have z71 : T10.heap.size ≤ T39.heap.size := (Nat.le_trans z70 K39.1)
  have z72 : T10.heap.size ≤ T55.heap.size := (Nat.le_trans z71 K55.1)
  obtain ⟨_, T68, L68, X68, hQ68, st68⟩ := own_cv X55 hx hZ35 hown35 hml (W 135 rfl) (W 136 rfl) (notFace_of_selects (W 138 rfl)) (W 138 rfl) (W 137 rfl) (W 71 rfl) (W 139 rfl) (rm52_toString l Z a0 hw b5 b10_0 p6 k10_0 p5 T55.heap n0 O66 (f69) (F55_1) (F55_0) (S_4) (hc_5) (F55_3) (F55_2) ((Nat.lt_of_lt_of_le F10_0.lt z72))) rfl f69 (hb hby d_325) 0 #[rv a1] [] [] pd_73
  obtain ⟨b68_0, b68_1, k68_0, rfl, N68q, K68, gb68_0, gb68_1, F68_0, F68_1, F68_2, F68_3, F68_4⟩ := hQ68
  have N73 := Fr.app N61 N68q
  have c74 := CHr.keep K68 sf0 c64.1
  have C75 := CHr.trans C65 c74
  have O76 := O66.keep K68 all0
  have K77 : Keep h0 T68.heap [] := Keep.trans K67 K68 all0
  have z78 : h35.size ≤ T39.heap.size := K39.1
  have z79 : h35.size ≤ T55.heap.size := (Nat.le_trans z78 K55.1)
  have z80 : h35.size ≤ T68.heap.size := (Nat.le_trans z79 K68.1)
  have z81 : h0.size ≤ T10.heap.size := (Nat.le_trans z26 K10.1)
  have z82 : h0.size ≤ T20.heap.size := (Nat.le_trans z81 K20.1)
  have z83 : h0.size ≤ h35.size := (Nat.le_trans z82 E35.1)
  have z84 : h0.size ≤ T39.heap.size := (Nat.le_trans z83 K39.1)
  have z85 : h0.size ≤ T55.heap.size := (Nat.le_trans z84 K55.1)
  refine ⟨T68, some (.ref b68_0), _, _, _, T35.vm, _, X68, hS35, (Nat.le_trans hk35 z80), by decide, by decide, nofun, ?_, own_che rfl (CHr.trans C75 (CHv.at (s := s) X68 hZ35 (own_ew_21 hw) c74.1)), fun fs hr => castTop (ef_44 m a1) ?_⟩
  · show Q53_toString Z a1 a2 a3 k4 p5 p6 a7 a8 k9 h0 n0 _ T68.heap _
    exact ⟨b68_0, b68_1, k68_0, rfl, N73, K77, (Nat.le_trans z85 gb68_0), (Nat.le_trans z85 gb68_1), F68_0, F68_1, F68_2, F68_3, F68_4⟩
  · show SS p e below s₁ m 0 #[rv a1] [] _
    refine XS.aloadN X1.here hx rfl (hb hby d_57) rfl rfl ?_
    refine st2 _ ?_
    refine st3 _ ?_
    refine XS.ifYes X3.here hx rfl (pc0 := 7) (pc' := 17) rfl (hb hby d_68) rfl ((if0 _ _).trans (teq (by decide : (0 : Int32) = (0 : Int32))).1) (by decide) (by decide) ?_
    refine st5 _ ?_
    refine XS.dup X5.here hx rfl (hb hby d_187) rfl rfl ?_
    refine st10 _ ?_
    refine XS.aloadN X10.here hx rfl (hb hby d_210) rfl rfl ?_
    refine st18 _ ?_
    refine st20 _ ?_
    show SS p e below T20 m 31 #[rv a1] [(.ref b5)] _
    refine st35 _ ?_
    refine st39 _ ?_
    refine XS.aloadN X39.here hx rfl (hb hby d_320) rfl rfl ?_
    refine st53 _ ?_
    refine st55 _ ?_
    refine st68 _ ?_
    exact retOut X68 hx hret rfl (Or.inr (Or.inr (Or.inr (Or.inr ⟨rfl, rfl, rfl⟩)))) (hb hby d_72) hr
theorem d_430 : decode jdk_42_method_56_code 0 = .ok (.aload_n 0, 1) := by decide +kernel
theorem d_431 : decode jdk_42_method_56_code 1 = .ok (.invokevirtual 492, 3) := by decide +kernel
theorem d_432 : decode jdk_42_method_154_code 0 = .ok (.getstatic 38, 3) := by decide +kernel
theorem d_433 : decode jdk_42_method_154_code 3 = .ok (.ifCond .eq 14, 3) := by decide +kernel
theorem d_434 : decode jdk_42_method_154_code 6 = .ok (.aload_n 0, 1) := by decide +kernel
theorem d_435 : decode jdk_42_method_154_code 7 = .ok (.getfield 15, 3) := by decide +kernel
theorem d_436 : decode jdk_42_method_154_code 10 = .ok (.ifCond .ne 7, 3) := by decide +kernel
theorem d_437 : decode jdk_42_method_154_code 13 = .ok (.iconst 1, 1) := by decide +kernel
theorem d_438 : decode jdk_42_method_154_code 14 = .ok (.goto 4, 3) := by decide +kernel
theorem d_439 : decode jdk_42_method_154_code 18 = .ok (.ireturn, 1) := by decide +kernel
def Q54_isLatin1 (Z : State) (a1 : Addr) (p2 : Int32) (h0 : Heap) (n0 : Nat) (v : Option Value) (h : Heap) (L : List Loc) : Prop := v = some (.int (1 : Int32)) ∧ Fr n0 L ∧ h = h0
theorem rm54_isLatin1 (l : Launch) (Z : State) (a0 : Array Value) (hw : HW Z a0) (a1 : Addr) (p2 : Int32) (h0 : Heap) (n0 : Nat) (O0 : Old Z n0 h0) (S_0 : SA48 Z Z.heap (.int p2)) (hc_1 : ¬ (p2 = (0 : Int32))) (F_2 : FA38 Z h0 a1 o0) :
    Met l Z [] MY32 jdk_42_method_154_code 1 (some .boolean) ({ frames := 0, cells := 0, slots := 0, locals := 0 } : Room) #[(.ref a1)] h0 (Q54_isLatin1 Z a1 p2 h0 n0) := by
  have W := @own_W _ _ hw
  refine own_mk (plainFor_of_name pn_30) ?_
  intro p e s m below meth c s₁ hZ hx hby hml hown hnm hret hlk X0 e0
  have N0 := Fr.nil n0
  obtain ⟨T1, X1, e1, st1⟩ := getS2 X0 hx hZ hown (host := "") (Or.inl (W 58 rfl)) Via.refl e0 (S_0.ext O0.2) (g := (mkF m 0 #[rv a1] [])) rfl (hb hby d_432)
  obtain ⟨T2, X2, e2, st2⟩ := getF X1 hx hZ hown (host := "") (Or.inl (W 26 rfl)) Via.refl e1 F_2 (g := (mkF m 7 #[rv a1] [(.ref a1)])) rfl rfl (hb hby d_435)
  refine ⟨T2, some (.int (1 : Int32)), _, _, _, X2, by decide, by decide, nofun, ?_, fun fs hr => castTop (ef_44 m a1) ?_⟩
  · show Q54_isLatin1 Z a1 p2 h0 n0 _ T2.heap _
    rw [e2]
    exact ⟨rfl, N0, rfl⟩
  · show SS p e below s₁ m 0 #[rv a1] [] _
    refine st1 _ ?_
    refine XS.ifNo X1.here hx rfl (hb hby d_433) rfl ((if0 _ _).trans (feq hc_1).1) ?_
    refine XS.aloadN X1.here hx rfl (hb hby d_434) rfl rfl ?_
    refine st2 _ ?_
    refine XS.ifNo X2.here hx rfl (hb hby d_436) rfl ((if0 _ _).trans (teq (by decide : (0 : Int32) = (0 : Int32))).2) ?_
    refine XS.iconst X2.here hx rfl (hb hby d_437) ?_
    refine XS.goto X2.here hx rfl (pc0 := 14) (pc' := 18) rfl (hb hby d_438) (by decide) (by decide) ?_
    exact retN X2 hx (t := .boolean) hret (by simp) (hb hby d_439) hr
theorem d_440 : decode jdk_42_method_56_code 4 = .ok (.ifCond .eq 12, 3) := by decide +kernel
theorem d_441 : decode jdk_42_method_56_code 7 = .ok (.aload_n 0, 1) := by decide +kernel
theorem d_442 : decode jdk_42_method_56_code 8 = .ok (.getfield 9, 3) := by decide +kernel
theorem d_443 : decode jdk_42_method_56_code 11 = .ok (.iload_n 1, 1) := by decide +kernel
theorem d_444 : decode jdk_42_method_56_code 12 = .ok (.invokestatic 495, 3) := by decide +kernel
theorem d_445 : decode jdk_43_method_2_code 0 = .ok (.iload_n 1, 1) := by decide +kernel
theorem d_446 : decode jdk_43_method_2_code 1 = .ok (.aload_n 0, 1) := by decide +kernel
theorem d_447 : decode jdk_43_method_2_code 2 = .ok (.arraylength, 1) := by decide +kernel
theorem d_448 : decode jdk_43_method_2_code 3 = .ok (.invokestatic 9, 3) := by decide +kernel
theorem d_449 : decode jdk_42_method_155_code 0 = .ok (.iload_n 0, 1) := by decide +kernel
theorem d_450 : decode jdk_42_method_155_code 1 = .ok (.iload_n 1, 1) := by decide +kernel
theorem d_451 : decode jdk_42_method_155_code 2 = .ok (.getstatic 1053, 3) := by decide +kernel
theorem d_452 : decode jdk_42_method_155_code 5 = .ok (.invokestatic 1059, 3) := by decide +kernel
theorem d_453 : decode jdk_41_method_11_code 0 = .ok (.iload_n 0, 1) := by decide +kernel
theorem d_454 : decode jdk_41_method_11_code 1 = .ok (.ifCond .lt 8, 3) := by decide +kernel
theorem d_455 : decode jdk_41_method_11_code 4 = .ok (.iload_n 0, 1) := by decide +kernel
theorem d_456 : decode jdk_41_method_11_code 5 = .ok (.iload_n 1, 1) := by decide +kernel
theorem d_457 : decode jdk_41_method_11_code 6 = .ok (.if_icmp .lt 10, 3) := by decide +kernel
theorem d_458 : decode jdk_41_method_11_code 16 = .ok (.iload_n 0, 1) := by decide +kernel
theorem d_459 : decode jdk_41_method_11_code 17 = .ok (.ireturn, 1) := by decide +kernel
theorem ef_460 (m : MethodId) (p1 : Int32) (p2 : Int32) (u3 : Value) (ir_u3 : u3.isRef = true) : entryFrame m #[(.int p1), (.int p2), u3] 3 = mkF m 0 #[iv p1, iv p2, .val u3] [] := by
  rcases ref_cases ir_u3 with rfl | ⟨_, rfl⟩ <;> first | (simp [entryFrame, mkF, argsToLocals, Value.category]; done) | rfl
theorem pn_461 : plainName "jdk/internal/util/Preconditions" = true := by first | (simp [plainName, overriddenIn]; done) | decide +kernel
def Q55_checkIndex (Z : State) (p1 : Int32) (p2 : Int32) (u3 : Value) (h0 : Heap) (n0 : Nat) (v : Option Value) (h : Heap) (L : List Loc) : Prop := v = some (.int p1) ∧ Fr n0 L ∧ h = h0
theorem rm55_checkIndex (l : Launch) (Z : State) (a0 : Array Value) (hw : HW Z a0) (p1 : Int32) (p2 : Int32) (u3 : Value) (h0 : Heap) (n0 : Nat) (O0 : Old Z n0 h0) (hc_0 : ¬ (p1 < (0 : Int32))) (hc_1 : p1 < p2) (ir_2 : u3.isRef = true) :
    Met l Z [] MY33 jdk_41_method_11_code 3 (some .int) ({ frames := 0, cells := 0, slots := 0, locals := 0 } : Room) #[(.int p1), (.int p2), u3] h0 (Q55_checkIndex Z p1 p2 u3 h0 n0) := by
  have W := @own_W _ _ hw
  refine own_mk (plainFor_of_name pn_461) ?_
  intro p e s m below meth c s₁ hZ hx hby hml hown hnm hret hlk X0 e0
  have N0 := Fr.nil n0
  refine ⟨s₁, some (.int p1), _, _, _, X0, by decide, by decide, nofun, ?_, fun fs hr => castTop (ef_460 m p1 p2 u3 ir_2) ?_⟩
  · show Q55_checkIndex Z p1 p2 u3 h0 n0 _ s₁.heap _
    rw [e0]
    exact ⟨rfl, N0, rfl⟩
  · show SS p e below s₁ m 0 #[iv p1, iv p2, .val u3] [] _
    refine XS.iloadN X0.here hx rfl (hb hby d_453) rfl ?_
    refine XS.ifNo X0.here hx rfl (hb hby d_454) rfl ((if0 _ _).trans (flt hc_0).1) ?_
    refine XS.iloadN X0.here hx rfl (hb hby d_455) rfl ?_
    refine XS.iloadN X0.here hx rfl (hb hby d_456) rfl ?_
    refine XS.icmpYes X0.here hx rfl (pc0 := 6) (pc' := 16) rfl (hb hby d_457) rfl (tlt hc_1).1 (by decide) (by decide) ?_
    refine XS.iloadN X0.here hx rfl (hb hby d_458) rfl ?_
    exact retI X0 hx hret (hb hby d_459) hr
theorem pd_462 : parseMethodDescriptor "(IILjava/util/function/BiFunction;)I" = some ⟨[.int, .int, (.object "java/util/function/BiFunction")], some .int⟩ := by decide +kernel
theorem d_463 : decode jdk_42_method_155_code 8 = .ok (.pop, 1) := by decide +kernel
theorem d_464 : decode jdk_42_method_155_code 9 = .ok (.return_, 1) := by decide +kernel
def Q56_checkIndex (Z : State) (p1 : Int32) (p2 : Int32) (u3 : Value) (h0 : Heap) (n0 : Nat) (v : Option Value) (h : Heap) (L : List Loc) : Prop := v = none ∧ Fr n0 L ∧ h = h0
theorem rm56_checkIndex (l : Launch) (Z : State) (a0 : Array Value) (hw : HW Z a0) (p1 : Int32) (p2 : Int32) (u3 : Value) (h0 : Heap) (n0 : Nat) (O0 : Old Z n0 h0) (S_0 : SA49 Z Z.heap u3) (hc_1 : ¬ (p1 < (0 : Int32))) (hc_2 : p1 < p2) (ir_3 : u3.isRef = true) :
    Met l Z [] MY34 jdk_42_method_155_code 2 none ({ frames := 1, cells := 0, slots := 0, locals := 14 } : Room) #[(.int p1), (.int p2)] h0 (Q56_checkIndex Z p1 p2 u3 h0 n0) := by
  have W := @own_W _ _ hw
  refine own_mk (plainFor_of_name pn_30) ?_
  intro p e s m below meth c s₁ hZ hx hby hml hown hnm hret hlk X0 e0
  have N0 := Fr.nil n0
  obtain ⟨T1, X1, e1, st1⟩ := getS2 X0 hx hZ hown (host := "") (Or.inl (W 198 rfl)) Via.refl e0 (S_0.ext O0.2) (g := (mkF m 2 #[iv p1, iv p2] [(.int p2), (.int p1)])) rfl (hb hby d_451)
  obtain ⟨_, T2, L2, X2, hQ2, st2⟩ := own_cs X1 hx hZ hown hml (W 200 rfl) (W 201 rfl) (W 199 rfl) (W 202 rfl) (rm55_checkIndex l Z a0 hw p1 p2 u3 h0 n0 O0 (hc_1) (hc_2) (ir_3)) e1 (hb hby d_452) 0 #[iv p1, iv p2] [(.int p1), (.int p2), u3] [] pd_462
  obtain ⟨rfl, N2q, K2⟩ := hQ2
  have N3 := Fr.app N0 N2q
  refine ⟨T2, none, _, _, _, X2, by decide, by decide, (fun _ => rfl), ?_, fun fs hr => castTop (ef_388 m p1 p2) ?_⟩
  · show Q56_checkIndex Z p1 p2 u3 h0 n0 _ T2.heap _
    rw [K2]
    exact ⟨rfl, N3, rfl⟩
  · show SS p e below s₁ m 0 #[iv p1, iv p2] [] _
    refine XS.iloadN X0.here hx rfl (hb hby d_449) rfl ?_
    refine XS.iloadN X0.here hx rfl (hb hby d_450) rfl ?_
    refine st1 _ ?_
    refine st2 _ ?_
    refine XS.pop X2.here hx rfl (hb hby d_463) rfl rfl ?_
    exact X2.returnOut hx hret (hb hby d_464) hr
theorem d_465 : decode jdk_43_method_2_code 6 = .ok (.aload_n 0, 1) := by decide +kernel
theorem d_466 : decode jdk_43_method_2_code 7 = .ok (.iload_n 1, 1) := by decide +kernel
theorem d_467 : decode jdk_43_method_2_code 8 = .ok (.baload, 1) := by decide +kernel
theorem d_468 : decode jdk_43_method_2_code 9 = .ok (.sipush 255, 3) := by decide +kernel
theorem d_469 : decode jdk_43_method_2_code 12 = .ok (.iand, 1) := by decide +kernel
theorem d_470 : decode jdk_43_method_2_code 13 = .ok (.i2c, 1) := by decide +kernel
theorem d_471 : decode jdk_43_method_2_code 14 = .ok (.ireturn, 1) := by decide +kernel
theorem ef_472 (m : MethodId) (a1 : Addr) (p2 : Int32) : entryFrame m #[(.ref a1), (.int p2)] 2 = mkF m 0 #[rv a1, iv p2] [] := by first | (simp [entryFrame, mkF, argsToLocals, Value.category]; done) | rfl
theorem pn_473 : plainName "java/lang/StringLatin1" = true := by first | (simp [plainName, overriddenIn]; done) | decide +kernel
def Q57_charAt (Z : State) (a1 : Addr) (p2 : Int32) (k3 : ClassId) (p4 : Int32) (vs5 : List Value) (u6 : Value) (p7 : Int32) (p8 : Int32) (h0 : Heap) (n0 : Nat) (v : Option Value) (h : Heap) (L : List Loc) : Prop := v = some (.int p8) ∧ Fr n0 L ∧ h = h0
theorem rm57_charAt (l : Launch) (Z : State) (a0 : Array Value) (hw : HW Z a0) (a1 : Addr) (p2 : Int32) (k3 : ClassId) (p4 : Int32) (vs5 : List Value) (u6 : Value) (p7 : Int32) (p8 : Int32) (h0 : Heap) (n0 : Nat) (O0 : Old Z n0 h0) (F_0 : Arv Z h0 a1 k3 .byte p4 vs5 o0) (S_1 : SA49 Z Z.heap u6) (hc_2 : ¬ (p2 < (0 : Int32))) (hc_3 : p2 < p4) (ir_4 : u6.isRef = true) (gd_5 : vs5.getD (p2).toNatClampNeg o0 = (.int p7)) (eq_6 : (p7 &&& (255 : Int32)) = p8) (eq_7 : (p8.toUInt32.toUInt16.toUInt32.toInt32) = p8) (nr_8 : nar .char p8 = p8) :
    Met l Z [] MY35 jdk_43_method_2_code 2 (some .char) ({ frames := 2, cells := 0, slots := 0, locals := 27 } : Room) #[(.ref a1), (.int p2)] h0 (Q57_charAt Z a1 p2 k3 p4 vs5 u6 p7 p8 h0 n0) := by
  have W := @own_W _ _ hw
  refine own_mk (plainFor_of_name pn_473) ?_
  intro p e s m below meth c s₁ hZ hx hby hml hown hnm hret hlk X0 e0
  have N0 := Fr.nil n0
  obtain ⟨c1, A1, q1, S1, N1, H1, G1⟩ := id F_0
  obtain ⟨_, T2, L2, X2, hQ2, st2⟩ := own_cs X0 hx hZ hown hml (W 195 rfl) (W 196 rfl) (W 7 rfl) (W 197 rfl) (rm56_checkIndex l Z a0 hw p2 p4 u6 h0 n0 O0 (S_1) (hc_2) (hc_3) (ir_4)) e0 (hb hby d_448) 0 #[rv a1, iv p2] [(.int p2), (.int p4)] [] pd_390
  obtain ⟨rfl, N2q, K2⟩ := hQ2
  have N3 := Fr.app N0 N2q
  obtain ⟨c4, A4, q4, S4, N4, H4, G4⟩ := id F_0
  have i5 : ¬ (p2 < 0 ∨ c4.slots.size ≤ (p2).toNatClampNeg) := inb_of S4 ⟨hc_2, hc_3⟩
  refine ⟨T2, some (.int p8), _, _, _, X2, by decide, by decide, nofun, ?_, fun fs hr => castTop (ef_472 m a1 p2) ?_⟩
  · show Q57_charAt Z a1 p2 k3 p4 vs5 u6 p7 p8 h0 n0 _ T2.heap _
    rw [K2]
    exact ⟨rfl, N3, rfl⟩
  · show SS p e below s₁ m 0 #[rv a1, iv p2] [] _
    refine XS.iloadN X0.here hx rfl (hb hby d_445) rfl ?_
    refine XS.aloadN X0.here hx rfl (hb hby d_446) rfl rfl ?_
    refine X0.arraylength hx (by rw [e0]; exact A1.1) (State.isArrayOf_alike hZ.alike A1.2.1) (g := (mkF m 2 #[rv a1, iv p2] [(.ref a1), (.int p2)])) rfl rfl (hb hby d_447) _ ?_
    rw [len_of S1 N1]
    refine st2 _ ?_
    refine XS.aloadN X2.here hx rfl (hb hby d_465) rfl rfl ?_
    refine XS.iloadN X2.here hx rfl (hb hby d_466) rfl ?_
    refine X2.baloadBytes hx (j := p2) (v := (.int p7)) (by rw [K2]; exact A4.1) (State.isArrayOf_alike hZ.alike A4.2.1) A4.2.2 i5 (H4.at i5 gd_5) (g := (mkF m 8 #[rv a1, iv p2] [(.int p2), (.ref a1)])) rfl rfl (hb hby d_467) _ ?_
    refine XS.sipush X2.here hx rfl (hb hby d_468) ?_
    show SS p e below T2 m 12 #[rv a1, iv p2] [(.int (255 : Int32)), (.int p7)] _
    refine XS.iand X2.here hx rfl (hb hby d_469) rfl ?_
    rw [eq_6]
    show SS p e below T2 m 13 #[rv a1, iv p2] [(.int p8)] _
    refine XS.i2c X2.here hx rfl (hb hby d_470) rfl ?_
    rw [eq_7]
    show SS p e below T2 m 14 #[rv a1, iv p2] [(.int p8)] _
    exact retN X2 hx (t := .char) hret (by simp) (hb hby d_471) (by rw [nr_8]; exact hr)
theorem pd_474 : parseMethodDescriptor "([BI)C" = some ⟨[(.array .byte), .int], some .char⟩ := by decide +kernel
theorem d_475 : decode jdk_42_method_56_code 15 = .ok (.ireturn, 1) := by decide +kernel
def Q58_charAt (Z : State) (a1 : Addr) (p2 : Int32) (p3 : Int32) (a4 : Addr) (k5 : ClassId) (p6 : Int32) (vs7 : List Value) (u8 : Value) (p9 : Int32) (p10 : Int32) (h0 : Heap) (n0 : Nat) (v : Option Value) (h : Heap) (L : List Loc) : Prop := v = some (.int p10) ∧ Fr n0 L ∧ h = h0
theorem rm58_charAt (l : Launch) (Z : State) (a0 : Array Value) (hw : HW Z a0) (a1 : Addr) (p2 : Int32) (p3 : Int32) (a4 : Addr) (k5 : ClassId) (p6 : Int32) (vs7 : List Value) (u8 : Value) (p9 : Int32) (p10 : Int32) (h0 : Heap) (n0 : Nat) (O0 : Old Z n0 h0) (F_0 : EA44 Z h0 a1) (S_1 : SA48 Z Z.heap (.int p3)) (hc_2 : ¬ (p3 = (0 : Int32))) (F_3 : FA38 Z h0 a1 o0) (F_4 : FA37 Z h0 a1 (.ref a4)) (F_5 : Arv Z h0 a4 k5 .byte p6 vs7 o0) (S_6 : SA49 Z Z.heap u8) (hc_7 : ¬ (p2 < (0 : Int32))) (hc_8 : p2 < p6) (gd_9 : vs7.getD (p2).toNatClampNeg o0 = (.int p9)) (eq_10 : (p9 &&& (255 : Int32)) = p10) (eq_11 : (p10.toUInt32.toUInt16.toUInt32.toInt32) = p10) (ir_12 : u8.isRef = true) (nr_13 : nar .char p10 = p10) :
    Met l Z [] MY36 jdk_42_method_56_code 2 (some .char) ({ frames := 3, cells := 0, slots := 0, locals := 40 } : Room) #[(.ref a1), (.int p2)] h0 (Q58_charAt Z a1 p2 p3 a4 k5 p6 vs7 u8 p9 p10 h0 n0) := by
  have W := @own_W _ _ hw
  refine own_mk (plainFor_of_name pn_30) ?_
  intro p e s m below meth c s₁ hZ hx hby hml hown hnm hret hlk X0 e0
  have N0 := Fr.nil n0
  obtain ⟨_, T1, L1, X1, hQ1, st1⟩ := own_cv X0 hx hZ hown hml (W 186 rfl) (W 187 rfl) (notFace_of_selects (W 189 rfl)) (W 189 rfl) (W 188 rfl) (W 7 rfl) (W 190 rfl) (rm54_isLatin1 l Z a0 hw a1 p3 h0 n0 O0 (S_1) (hc_2) (F_3)) e0 F_0 (hb hby d_431) 0 #[rv a1, iv p2] [] [] pd_67
  obtain ⟨rfl, N1q, K1⟩ := hQ1
  have N2 := Fr.app N0 N1q
  obtain ⟨T3, X3, e3, st3⟩ := getF X1 hx hZ hown (host := "") (Or.inl (W 25 rfl)) Via.refl K1 F_4 (g := (mkF m 8 #[rv a1, iv p2] [(.ref a1)])) rfl rfl (hb hby d_442)
  obtain ⟨_, T4, L4, X4, hQ4, st4⟩ := own_cs X3 hx hZ hown hml (W 191 rfl) (W 192 rfl) (W 193 rfl) (W 194 rfl) (rm57_charAt l Z a0 hw a4 p2 k5 p6 vs7 u8 p9 p10 h0 n0 O0 (F_5) (S_6) (hc_7) (hc_8) (ir_12) (gd_9) (eq_10) (eq_11) (nr_13)) e3 (hb hby d_444) 0 #[rv a1, iv p2] [(.ref a4), (.int p2)] [] pd_474
  obtain ⟨rfl, N4q, K4⟩ := hQ4
  have N5 := Fr.app N2 N4q
  refine ⟨T4, some (.int p10), _, _, _, X4, by decide, by decide, nofun, ?_, fun fs hr => castTop (ef_472 m a1 p2) ?_⟩
  · show Q58_charAt Z a1 p2 p3 a4 k5 p6 vs7 u8 p9 p10 h0 n0 _ T4.heap _
    rw [K4]
    exact ⟨rfl, N5, rfl⟩
  · show SS p e below s₁ m 0 #[rv a1, iv p2] [] _
    refine XS.aloadN X0.here hx rfl (hb hby d_430) rfl rfl ?_
    refine st1 _ ?_
    refine XS.ifNo X1.here hx rfl (hb hby d_440) rfl ((if0 _ _).trans (feq (by decide : ¬ ((1 : Int32) = (0 : Int32)))).1) ?_
    refine XS.aloadN X1.here hx rfl (hb hby d_441) rfl rfl ?_
    refine st3 _ ?_
    refine XS.iloadN X3.here hx rfl (hb hby d_443) rfl ?_
    refine st4 _ ?_
    exact retN X4 hx (t := .char) hret (by simp) (hb hby d_475) (by rw [nr_13]; exact hr)
theorem pd_476 : parseMethodDescriptor "(I)C" = some ⟨[.int], some .char⟩ := by decide +kernel
def Q59_charAt (Z : State) (a1 : Addr) (p2 : Int32) (k3 : ClassId) (p4 : Int32) (vs5 : List Value) (u6 : Value) (p7 : Int32) (h0 : Heap) (n0 : Nat) (v : Option Value) (h : Heap) (L : List Loc) : Prop := v = some (.int p7) ∧ Fr n0 L ∧ h = h0
theorem rm59_charAt (l : Launch) (Z : State) (a0 : Array Value) (hw : HW Z a0) (a1 : Addr) (p2 : Int32) (k3 : ClassId) (p4 : Int32) (vs5 : List Value) (u6 : Value) (p7 : Int32) (h0 : Heap) (n0 : Nat) (O0 : Old Z n0 h0) (F_0 : Arv Z h0 a1 k3 .byte p4 vs5 o0) (S_1 : SA49 Z Z.heap u6) (hc_2 : ¬ (p2 < (0 : Int32))) (hc_3 : p2 < p4) (ir_4 : u6.isRef = true) (gd_5 : vs5.getD (p2).toNatClampNeg o0 = (.int p7)) (eq_6 : (p7 &&& (255 : Int32)) = p7) (eq_7 : (p7.toUInt32.toUInt16.toUInt32.toInt32) = p7) (nr_8 : nar .char p7 = p7) :
    Met l Z [] MY35 jdk_43_method_2_code 2 (some .char) ({ frames := 2, cells := 0, slots := 0, locals := 27 } : Room) #[(.ref a1), (.int p2)] h0 (Q59_charAt Z a1 p2 k3 p4 vs5 u6 p7 h0 n0) := by
  have W := @own_W _ _ hw
  refine own_mk (plainFor_of_name pn_473) ?_
  intro p e s m below meth c s₁ hZ hx hby hml hown hnm hret hlk X0 e0
  have N0 := Fr.nil n0
  obtain ⟨c1, A1, q1, S1, N1, H1, G1⟩ := id F_0
  obtain ⟨_, T2, L2, X2, hQ2, st2⟩ := own_cs X0 hx hZ hown hml (W 195 rfl) (W 196 rfl) (W 7 rfl) (W 197 rfl) (rm56_checkIndex l Z a0 hw p2 p4 u6 h0 n0 O0 (S_1) (hc_2) (hc_3) (ir_4)) e0 (hb hby d_448) 0 #[rv a1, iv p2] [(.int p2), (.int p4)] [] pd_390
  obtain ⟨rfl, N2q, K2⟩ := hQ2
  have N3 := Fr.app N0 N2q
  obtain ⟨c4, A4, q4, S4, N4, H4, G4⟩ := id F_0
  have i5 : ¬ (p2 < 0 ∨ c4.slots.size ≤ (p2).toNatClampNeg) := inb_of S4 ⟨hc_2, hc_3⟩
  refine ⟨T2, some (.int p7), _, _, _, X2, by decide, by decide, nofun, ?_, fun fs hr => castTop (ef_472 m a1 p2) ?_⟩
  · show Q59_charAt Z a1 p2 k3 p4 vs5 u6 p7 h0 n0 _ T2.heap _
    rw [K2]
    exact ⟨rfl, N3, rfl⟩
  · show SS p e below s₁ m 0 #[rv a1, iv p2] [] _
    refine XS.iloadN X0.here hx rfl (hb hby d_445) rfl ?_
    refine XS.aloadN X0.here hx rfl (hb hby d_446) rfl rfl ?_
    refine X0.arraylength hx (by rw [e0]; exact A1.1) (State.isArrayOf_alike hZ.alike A1.2.1) (g := (mkF m 2 #[rv a1, iv p2] [(.ref a1), (.int p2)])) rfl rfl (hb hby d_447) _ ?_
    rw [len_of S1 N1]
    refine st2 _ ?_
    refine XS.aloadN X2.here hx rfl (hb hby d_465) rfl rfl ?_
    refine XS.iloadN X2.here hx rfl (hb hby d_466) rfl ?_
    refine X2.baloadBytes hx (j := p2) (v := (.int p7)) (by rw [K2]; exact A4.1) (State.isArrayOf_alike hZ.alike A4.2.1) A4.2.2 i5 (H4.at i5 gd_5) (g := (mkF m 8 #[rv a1, iv p2] [(.int p2), (.ref a1)])) rfl rfl (hb hby d_467) _ ?_
    refine XS.sipush X2.here hx rfl (hb hby d_468) ?_
    show SS p e below T2 m 12 #[rv a1, iv p2] [(.int (255 : Int32)), (.int p7)] _
    refine XS.iand X2.here hx rfl (hb hby d_469) rfl ?_
    rw [eq_6]
    show SS p e below T2 m 13 #[rv a1, iv p2] [(.int p7)] _
    refine XS.i2c X2.here hx rfl (hb hby d_470) rfl ?_
    rw [eq_7]
    show SS p e below T2 m 14 #[rv a1, iv p2] [(.int p7)] _
    exact retN X2 hx (t := .char) hret (by simp) (hb hby d_471) (by rw [nr_8]; exact hr)
def Q60_charAt (Z : State) (a1 : Addr) (p2 : Int32) (p3 : Int32) (a4 : Addr) (k5 : ClassId) (p6 : Int32) (vs7 : List Value) (u8 : Value) (p9 : Int32) (h0 : Heap) (n0 : Nat) (v : Option Value) (h : Heap) (L : List Loc) : Prop := v = some (.int p9) ∧ Fr n0 L ∧ h = h0
theorem rm60_charAt (l : Launch) (Z : State) (a0 : Array Value) (hw : HW Z a0) (a1 : Addr) (p2 : Int32) (p3 : Int32) (a4 : Addr) (k5 : ClassId) (p6 : Int32) (vs7 : List Value) (u8 : Value) (p9 : Int32) (h0 : Heap) (n0 : Nat) (O0 : Old Z n0 h0) (F_0 : EA44 Z h0 a1) (S_1 : SA48 Z Z.heap (.int p3)) (hc_2 : ¬ (p3 = (0 : Int32))) (F_3 : FA38 Z h0 a1 o0) (F_4 : FA37 Z h0 a1 (.ref a4)) (F_5 : Arv Z h0 a4 k5 .byte p6 vs7 o0) (S_6 : SA49 Z Z.heap u8) (hc_7 : ¬ (p2 < (0 : Int32))) (hc_8 : p2 < p6) (gd_9 : vs7.getD (p2).toNatClampNeg o0 = (.int p9)) (eq_10 : (p9 &&& (255 : Int32)) = p9) (eq_11 : (p9.toUInt32.toUInt16.toUInt32.toInt32) = p9) (ir_12 : u8.isRef = true) (nr_13 : nar .char p9 = p9) :
    Met l Z [] MY36 jdk_42_method_56_code 2 (some .char) ({ frames := 3, cells := 0, slots := 0, locals := 40 } : Room) #[(.ref a1), (.int p2)] h0 (Q60_charAt Z a1 p2 p3 a4 k5 p6 vs7 u8 p9 h0 n0) := by
  have W := @own_W _ _ hw
  refine own_mk (plainFor_of_name pn_30) ?_
  intro p e s m below meth c s₁ hZ hx hby hml hown hnm hret hlk X0 e0
  have N0 := Fr.nil n0
  obtain ⟨_, T1, L1, X1, hQ1, st1⟩ := own_cv X0 hx hZ hown hml (W 186 rfl) (W 187 rfl) (notFace_of_selects (W 189 rfl)) (W 189 rfl) (W 188 rfl) (W 7 rfl) (W 190 rfl) (rm54_isLatin1 l Z a0 hw a1 p3 h0 n0 O0 (S_1) (hc_2) (F_3)) e0 F_0 (hb hby d_431) 0 #[rv a1, iv p2] [] [] pd_67
  obtain ⟨rfl, N1q, K1⟩ := hQ1
  have N2 := Fr.app N0 N1q
  obtain ⟨T3, X3, e3, st3⟩ := getF X1 hx hZ hown (host := "") (Or.inl (W 25 rfl)) Via.refl K1 F_4 (g := (mkF m 8 #[rv a1, iv p2] [(.ref a1)])) rfl rfl (hb hby d_442)
  obtain ⟨_, T4, L4, X4, hQ4, st4⟩ := own_cs X3 hx hZ hown hml (W 191 rfl) (W 192 rfl) (W 193 rfl) (W 194 rfl) (rm59_charAt l Z a0 hw a4 p2 k5 p6 vs7 u8 p9 h0 n0 O0 (F_5) (S_6) (hc_7) (hc_8) (ir_12) (gd_9) (eq_10) (eq_11) (nr_13)) e3 (hb hby d_444) 0 #[rv a1, iv p2] [(.ref a4), (.int p2)] [] pd_474
  obtain ⟨rfl, N4q, K4⟩ := hQ4
  have N5 := Fr.app N2 N4q
  refine ⟨T4, some (.int p9), _, _, _, X4, by decide, by decide, nofun, ?_, fun fs hr => castTop (ef_472 m a1 p2) ?_⟩
  · show Q60_charAt Z a1 p2 p3 a4 k5 p6 vs7 u8 p9 h0 n0 _ T4.heap _
    rw [K4]
    exact ⟨rfl, N5, rfl⟩
  · show SS p e below s₁ m 0 #[rv a1, iv p2] [] _
    refine XS.aloadN X0.here hx rfl (hb hby d_430) rfl rfl ?_
    refine st1 _ ?_
    refine XS.ifNo X1.here hx rfl (hb hby d_440) rfl ((if0 _ _).trans (feq (by decide : ¬ ((1 : Int32) = (0 : Int32)))).1) ?_
    refine XS.aloadN X1.here hx rfl (hb hby d_441) rfl rfl ?_
    refine st3 _ ?_
    refine XS.iloadN X3.here hx rfl (hb hby d_443) rfl ?_
    refine st4 _ ?_
    exact retN X4 hx (t := .char) hret (by simp) (hb hby d_475) (by rw [nr_13]; exact hr)
theorem rm0_1_0 (l : Launch) (Z : State) (a0 : Array Value) (hw : HW Z a0) (ws : List Jvm.Cond) (p1 : Int32) (p2 : Int32) (p3 : Int32) (p4 : Int32) (p5 : Int32) (c0 : Int32) (c1 : Int32) (d0 : Int32) (d1 : Int32) (o_COMPACT_STRINGS : Int32) (o_SIOOBE_FORMATTER : Value) (h0 : Heap) (n0 : Nat) (O0 : Old Z n0 h0) (S_o_COMPACT_STRINGS : SA48 Z Z.heap (.int o_COMPACT_STRINGS)) (S_o_SIOOBE_FORMATTER : SA49 Z Z.heap o_SIOOBE_FORMATTER) (nz_o_COMPACT_STRINGS : ¬ (o_COMPACT_STRINGS = (0 : Int32))) (ir_o_SIOOBE_FORMATTER : o_SIOOBE_FORMATTER.isRef = true) (hpl : ((p1 &&& (2147483647 : Int32)) % (3 : Int32)) = (1 : Int32)) (hml_ : ((((p1.toUInt32 >>> ((8 : Int32) &&& 31).toUInt32).toInt32) &&& (2147483647 : Int32)) % (3 : Int32)) = (0 : Int32)) (h_c0 : ((p2 &&& (255 : Int32)).toUInt32.toUInt16.toUInt32.toInt32) = c0) (r_c0 : ¬ ((255 : Int32) < c0)) (n_c0 : ¬ (c0 < (0 : Int32))) (i_c0 : (c0.toUInt32.toUInt16.toUInt32.toInt32) = c0) (b_c0 : ((c0.toInt8.toInt32) &&& (255 : Int32)) = c0) (h_c1 : ((p3 &&& (255 : Int32)).toUInt32.toUInt16.toUInt32.toInt32) = c1) (r_c1 : ¬ ((255 : Int32) < c1)) (n_c1 : ¬ (c1 < (0 : Int32))) (i_c1 : (c1.toUInt32.toUInt16.toUInt32.toInt32) = c1) (b_c1 : ((c1.toInt8.toInt32) &&& (255 : Int32)) = c1) (h_d0 : ((p4 &&& (255 : Int32)).toUInt32.toUInt16.toUInt32.toInt32) = d0) (r_d0 : ¬ ((255 : Int32) < d0)) (n_d0 : ¬ (d0 < (0 : Int32))) (i_d0 : (d0.toUInt32.toUInt16.toUInt32.toInt32) = d0) (b_d0 : ((d0.toInt8.toInt32) &&& (255 : Int32)) = d0) (h_d1 : ((p5 &&& (255 : Int32)).toUInt32.toUInt16.toUInt32.toInt32) = d1) (r_d1 : ¬ ((255 : Int32) < d1)) (n_d1 : ¬ (d1 < (0 : Int32))) (i_d1 : (d1.toUInt32.toUInt16.toUInt32.toInt32) = d1) (b_d1 : ((d1.toInt8.toInt32) &&& (255 : Int32)) = d1) :
    MetH l Z ws x code maxLocals ret room_1 #[(.int p1), (.int p2), (.int p3), (.int p4), (.int p5)] h0 consts_1 [] (fun v _ L => Q0 n0 v L) := by
  have W := @own_W _ _ hw
  refine own_mkH (plainFor_of_name pn_37) ?_
  intro p e s m below meth c s₁ hZ hx hby hml hown hnm hret hlk X0 e0 H0 hsf
  have N0 := Fr.nil n0
  have C0 := CHr.refl H0
  have X1 := (show Stand p l e _ (s.setVm s.vm) m _ below meth c _ _ _ _ from X0)
  obtain ⟨_, T2, L2, X2, hQ2, st2⟩ := own_cs X1 hx hZ hown hml (W 1 rfl) (W 2 rfl) (W 3 rfl) (W 4 rfl) (rm14_mk l Z a0 hw c0 c1 o_COMPACT_STRINGS h0 n0 O0 (i_c0) (S_o_COMPACT_STRINGS) (nz_o_COMPACT_STRINGS) (r_c0)) e0 (hb hby at_58) 0 #[iv p1, iv p2, iv p3, iv p4, iv p5, iv (1 : Int32), .val o0, iv c0, iv c1, iv d0, iv d1, .unset, .unset, .unset] [(.int (1 : Int32)), (.int c0), (.int c1)] [] pd_38
  obtain ⟨b2_0, b2_1, k2_0, rfl, N2q, K2, gb2_0, gb2_1, F2_0, F2_1, F2_2, F2_3, F2_4⟩ := hQ2
  have N3 := Fr.app N0 N2q
  have c4 := CHr.keep K2 sf0 H0
  have C5 := CHr.trans C0 c4
  have O6 := O0.keep K2 all0
  have K7 : Keep h0 T2.heap [] := Keep.trans (Keep.refl h0 []) K2 all0
  obtain ⟨_, _, ⟨T8, L8, k8, n8⟩, -, Y8, hs8, hg8, ⟨Lc8, hQ8, l8, y8, z8, c8⟩, st8⟩ := callSS (s := s.setVm s.vm) X2 hx (y := MY2) hown (mvT hZ (W 1 rfl)) (mvT hZ (W 2 rfl)) (mvT hZ (W 3 rfl)) (mvT hZ (W 4 rfl)) (by decide) (own_backH (s := s) (vm0 := s.vm) (W := 0) (rm3_mk l Z a0 hw d0 d1 T2.heap n0 O6 ) hZ (W 4 rfl) (W 3 rfl) (by decide) (by decide) (own_ew_21 hw) c4.1 own_sf0) (g := (mkF m 69 #[iv p1, iv p2, iv p3, iv p4, iv p5, iv (1 : Int32), .val o0, iv c0, iv c1, iv d0, iv d1, rv b2_0, .unset, .unset] [(.int d1), (.int d0), o0])) rfl (by rw [hml]; rfl) (argsL := [o0, (.int d0), (.int d1)]) (rest := []) (lenOf pd_38 rfl) rfl (by show 2 * 0 + _ ≤ _; exact Nat.le_of_eq rfl) (hb hby at_69) (fun _ _ => ⟨rfl, rfl, (by decide : 3 + 6 ≤ _), (by decide : 6 + 12 ≤ _)⟩)
  dsimp only [Pt.U, Pt.locs, Pt.cells, Pt.slots] at Y8 l8 y8 z8 st8 hQ8 hs8 hg8 c8
  subst l8 y8 z8
  obtain ⟨X8, hS8, hZ8, hown8⟩ := rebS (s := s) (vm0 := s.vm) ((State.WarmedH.refl s).since 0) (Nat.zero_le _) Y8 hs8 hg8 hZ hown
  obtain ⟨b8_0, b8_1, k8_0, rfl, N8q, K8, gb8_0, F8_0, F8_1, F8_2, F8_3⟩ := hQ8
  have N9 := Fr.app N3 N8q
  have C10 := CHr.trans C5 c8
  have O11 := O6.keep K8 all0
  have K12 : Keep h0 T8.heap [] := Keep.trans K7 K8 all0
  obtain ⟨T13, h13, X13, e13, E13, A13, D13, -, st13⟩ := newO X8 hx hZ8 hown8 (W 27 rfl) (W 28 rfl) (W 29 rfl) rfl (g := (mkF m 74 #[iv p1, iv p2, iv p3, iv p4, iv p5, iv (1 : Int32), .val o0, iv c0, iv c1, iv d0, iv d1, rv b2_0, rv b8_0, .unset] [])) rfl (hb hby at_74) (by decide) (by decide)
  obtain ⟨b13, g13⟩ : ∃ z, z = T8.heap.size := ⟨_, rfl⟩
  rw [← g13] at A13 D13 st13
  have c14 := CHr.ext E13 c8.1
  have C15 := CHr.trans C10 c14
  have O16 := O11.ext E13
  have K17 : Keep h0 h13 [] := Keep.ext K12 E13
  have z19 : h0.size ≤ T2.heap.size := K2.1
  have z20 : h0.size ≤ T8.heap.size := (Nat.le_trans z19 K8.1)
  have g21 : n0 ≤ b13 := Nat.le_trans (Nat.le_trans (Nat.le_trans (Nat.le_of_eq O0.1.symm) O0.2.1) z20) (Nat.le_of_eq g13.symm)
  obtain ⟨_, T18, L18, X18, hQ18, st18⟩ := own_cp X13 hx hZ8 hown8 hml rfl (W 30 rfl) (W 31 rfl) (W 29 rfl) (W 32 rfl) (rm5_init l Z a0 hw b13 b2_0 b8_0 h13 n0 O16 (A13) ((D13 (Or.inr (W 40 rfl)) (ty := (.object "java/lang/String")) (by decide) : FA39 Z h13 b13 .null)) (g21) ((D13 (Or.inr (W 42 rfl)) (ty := (.object "java/lang/String")) (by decide) : FA40 Z h13 b13 .null))) e13 (hb hby at_82) 1 #[iv p1, iv p2, iv p3, iv p4, iv p5, iv (1 : Int32), .val o0, iv c0, iv c1, iv d0, iv d1, rv b2_0, rv b8_0, .unset] b13 [(.ref b2_0), (.ref b8_0)] [(.ref b13)] pd_56
  obtain ⟨rfl, N18q, K18, F18_0, F18_1⟩ := hQ18
  have N22 := Fr.app N9 N18q
  have s23 := Safe.exa (EL := consts_1) hZ8.alike A13 (by decide) (by decide)
  have c24 := CHr.keep K18 (sfS s23 sf0) c14.1
  have C25 := CHr.trans C15 c24
  have O26 := O16.keep K18 (allS g21 all0)
  have K27 : Keep h0 T18.heap [] := Keep.trans K17 K18 (allS (Or.inr (Nat.le_trans z20 (Nat.le_of_eq g13.symm))) all0)
  have f29 := (((F2_0.keep K8).ext E13).keep K18)
  have z30 : T2.heap.size ≤ T8.heap.size := K8.1
  have f31 := (((F2_1.keep K8 nin0).ext E13).keep K18 (ninS (Nat.ne_of_lt (Nat.lt_of_lt_of_le (Nat.lt_of_lt_of_le F2_0.lt z30) (Nat.le_of_eq g13.symm))) nin0))
  have f32 := (((F2_3.keep K8 nin0).ext E13).keep K18 (ninS (Nat.ne_of_lt (Nat.lt_of_lt_of_le (Nat.lt_of_lt_of_le F2_3.lt z30) (Nat.le_of_eq g13.symm))) nin0))
  have z33 : h13.size ≤ T18.heap.size := K18.1
  have f34 := (((F2_2.keep K8 nin0).ext E13).keep K18 (ninS (Nat.ne_of_lt (Nat.lt_of_lt_of_le (Nat.lt_of_lt_of_le F2_0.lt z30) (Nat.le_of_eq g13.symm))) nin0))
  have z35 : T2.heap.size ≤ h13.size := (Nat.le_trans z30 E13.1)
  have z36 : T2.heap.size ≤ T18.heap.size := (Nat.le_trans z35 K18.1)
  have f37 := ((F8_0.ext E13).keep K18)
  have f38 := ((F8_1.ext E13).keep K18 (ninS (Nat.ne_of_lt (Nat.lt_of_lt_of_le F8_0.lt (Nat.le_of_eq g13.symm))) nin0))
  have f39 := ((F8_3.ext E13).keep K18 (ninS (Nat.ne_of_lt (Nat.lt_of_lt_of_le F8_3.lt (Nat.le_of_eq g13.symm))) nin0))
  have f40 := ((F8_2.ext E13).keep K18 (ninS (Nat.ne_of_lt (Nat.lt_of_lt_of_le F8_0.lt (Nat.le_of_eq g13.symm))) nin0))
  have z41 : T8.heap.size ≤ h13.size := E13.1
  have z42 : T8.heap.size ≤ T18.heap.size := (Nat.le_trans z41 K18.1)
  have f43 := (A13.keep K18)
  obtain ⟨cq28, kq28, q28a, q28b, q28c⟩ := isOf hZ8 rfl f43
  obtain ⟨_, _, ⟨T28, L28, k28, n28⟩, -, Y28, hs28, hg28, ⟨Lc28, hQ28, l28, y28, z28, c28⟩, st28⟩ := X18.virtualBackS hx (y := MY6) (z := MY6) hown8 (mvT hZ8 (W 43 rfl)) (mvT hZ8 (W 44 rfl)) (notFace_of_selects (args := #[]) (mvT hZ8 (W 46 rfl))) (mvT hZ8 (W 46 rfl)) (mvT hZ8 (W 45 rfl)) (by decide) (own_backH (s := s) (vm0 := T8.vm) (W := 0) (rm53_toString l Z a0 hw b13 b2_0 b2_1 k2_0 (c0.toInt8.toInt32) o_COMPACT_STRINGS b8_0 b8_1 k8_0 T18.heap n0 O26 (F18_0) (f29) (f31) (f32) (S_o_COMPACT_STRINGS) (nz_o_COMPACT_STRINGS) ((Nat.lt_of_lt_of_le A13.lt z33)) (f34) ((Nat.lt_of_lt_of_le F2_0.lt z36)) ((Nat.lt_of_lt_of_le F2_3.lt z36)) (F18_1) (f37) (f38) (f39) (f40) ((Nat.lt_of_lt_of_le F8_0.lt z42)) ((Nat.lt_of_lt_of_le F8_3.lt z42))) hZ8 (W 47 rfl) (W 29 rfl) (by decide) (by decide) (own_ew_21 hw) c24.1 own_sf0) q28a q28c (g := (mkF m 85 #[iv p1, iv p2, iv p3, iv p4, iv p5, iv (1 : Int32), .val o0, iv c0, iv c1, iv d0, iv d1, rv b2_0, rv b8_0, .unset] [(.ref b13)])) rfl (by rw [hml]; rfl) (Steps.refl _) (argsL := []) (rest := []) (lenOf pd_73 rfl) rfl (by show 2 * 0 + _ ≤ _; exact Nat.le_of_eq rfl) (hb hby at_85) (fun _ _ => ⟨rfl, rfl, (by decide : 10 + 6 ≤ _), (by decide : 20 + 39 ≤ _)⟩)
  dsimp only [Pt.U, Pt.locs, Pt.cells, Pt.slots] at Y28 l28 y28 z28 st28 hQ28 hs28 hg28 c28
  subst l28 y28 z28
  obtain ⟨X28, hS28, hZ28, hown28⟩ := rebS (s := s) (vm0 := T8.vm) hS8 (Nat.le_trans (Nat.le_refl _) z42) Y28 hs28 hg28 hZ8 hown8
  obtain ⟨b28_0, b28_1, k28_0, rfl, N28q, K28, gb28_0, gb28_1, F28_0, F28_1, F28_2, F28_3, F28_4⟩ := hQ28
  have N44 := Fr.app N22 N28q
  have C45 := CHr.trans C25 c28
  have O46 := O26.keep K28 all0
  have K47 : Keep h0 T28.heap [] := Keep.trans K27 K28 all0
  obtain ⟨_, T48, L48, X48, hQ48, st48⟩ := own_cv X28 hx hZ28 hown28 hml (W 180 rfl) (W 98 rfl) (notFace_of_selects (W 100 rfl)) (W 100 rfl) (W 99 rfl) (W 7 rfl) (W 101 rfl) (rm25_length l Z a0 hw b28_0 b28_1 k28_0 (3 : Int32) [(.int (c0.toInt8.toInt32)), (.int (58 : Int32)), (.int (32 : Int32))] o_COMPACT_STRINGS T28.heap n0 O46 (F28_1) (F28_3) (F28_0) (S_o_COMPACT_STRINGS) (nz_o_COMPACT_STRINGS) (F28_2) ((by decide))) rfl F28_0 (hb hby at_112) 0 #[iv p1, iv p2, iv p3, iv p4, iv p5, iv (1 : Int32), .val o0, iv c0, iv c1, iv d0, iv d1, rv b2_0, rv b8_0, rv b28_0] [] [] pd_234
  obtain ⟨rfl, N48q, K48⟩ := hQ48
  have N49 := Fr.app N44 N48q
  obtain ⟨_, T50, L50, X50, hQ50, st50⟩ := own_cv X48 hx hZ28 hown28 hml (W 181 rfl) (W 182 rfl) (notFace_of_selects (W 184 rfl)) (W 184 rfl) (W 183 rfl) (W 7 rfl) (W 185 rfl) (rm58_charAt l Z a0 hw b28_0 (0 : Int32) o_COMPACT_STRINGS b28_1 k28_0 (3 : Int32) [(.int (c0.toInt8.toInt32)), (.int (58 : Int32)), (.int (32 : Int32))] o_SIOOBE_FORMATTER (c0.toInt8.toInt32) c0 T28.heap n0 O46 (F28_0) (S_o_COMPACT_STRINGS) (nz_o_COMPACT_STRINGS) (F28_2) (F28_1) (F28_3) (S_o_SIOOBE_FORMATTER) ((by decide : ¬ ((0 : Int32) < (0 : Int32)))) ((by decide : (0 : Int32) < (3 : Int32))) (rfl) (b_c0) (i_c0) (ir_o_SIOOBE_FORMATTER) (i_c0)) K48 F28_0 (hb hby at_130) 0 #[iv p1, iv p2, iv p3, iv p4, iv p5, iv (1 : Int32), .val o0, iv c0, iv c1, iv d0, iv d1, rv b2_0, rv b8_0, rv b28_0] [o0] [] pd_476
  obtain ⟨rfl, N50q, K50⟩ := hQ50
  have N51 := Fr.app N49 N50q
  obtain ⟨_, T52, L52, X52, hQ52, st52⟩ := own_cv X50 hx hZ28 hown28 hml (W 181 rfl) (W 182 rfl) (notFace_of_selects (W 184 rfl)) (W 184 rfl) (W 183 rfl) (W 7 rfl) (W 185 rfl) (rm60_charAt l Z a0 hw b28_0 (1 : Int32) o_COMPACT_STRINGS b28_1 k28_0 (3 : Int32) [(.int (c0.toInt8.toInt32)), (.int (58 : Int32)), (.int (32 : Int32))] o_SIOOBE_FORMATTER (58 : Int32) T28.heap n0 O46 (F28_0) (S_o_COMPACT_STRINGS) (nz_o_COMPACT_STRINGS) (F28_2) (F28_1) (F28_3) (S_o_SIOOBE_FORMATTER) ((by decide : ¬ ((1 : Int32) < (0 : Int32)))) ((by decide : (1 : Int32) < (3 : Int32))) (rfl) ((by decide)) ((by decide)) (ir_o_SIOOBE_FORMATTER) ((by decide))) K50 F28_0 (hb hby at_163) 0 #[iv p1, iv p2, iv p3, iv p4, iv p5, iv (1 : Int32), .val o0, iv c0, iv c1, iv d0, iv d1, rv b2_0, rv b8_0, rv b28_0] [(.int (1 : Int32))] [] pd_476
  obtain ⟨rfl, N52q, K52⟩ := hQ52
  have N53 := Fr.app N51 N52q
  obtain ⟨_, T54, L54, X54, hQ54, st54⟩ := own_cv X52 hx hZ28 hown28 hml (W 181 rfl) (W 182 rfl) (notFace_of_selects (W 184 rfl)) (W 184 rfl) (W 183 rfl) (W 7 rfl) (W 185 rfl) (rm60_charAt l Z a0 hw b28_0 (2 : Int32) o_COMPACT_STRINGS b28_1 k28_0 (3 : Int32) [(.int (c0.toInt8.toInt32)), (.int (58 : Int32)), (.int (32 : Int32))] o_SIOOBE_FORMATTER (32 : Int32) T28.heap n0 O46 (F28_0) (S_o_COMPACT_STRINGS) (nz_o_COMPACT_STRINGS) (F28_2) (F28_1) (F28_3) (S_o_SIOOBE_FORMATTER) ((by decide : ¬ ((2 : Int32) < (0 : Int32)))) ((by decide : (2 : Int32) < (3 : Int32))) (rfl) ((by decide)) ((by decide)) (ir_o_SIOOBE_FORMATTER) ((by decide))) K52 F28_0 (hb hby at_179) 0 #[iv p1, iv p2, iv p3, iv p4, iv p5, iv (1 : Int32), .val o0, iv c0, iv c1, iv d0, iv d1, rv b2_0, rv b8_0, rv b28_0] [(.int (2 : Int32))] [] pd_476
  obtain ⟨rfl, N54q, K54⟩ := hQ54
  have N55 := Fr.app N53 N54q
  refine ⟨T54, some (.int (1 : Int32)), _, _, _, T28.vm, _, X54, hS28, (by rw [K54]; exact (Nat.le_refl _)), by decide, by decide, nofun, ?_, own_che K54 (CHr.trans C45 (CHv.at (s := s) X54 hZ28 (own_ew_21 hw) c28.1)), fun fs hr => castTop (ef_81 m p1 p2 p3 p4 p5) ?_⟩
  · exact ⟨rfl, N55⟩
  · show SS p e below s₁ m 0 #[iv p1, iv p2, iv p3, iv p4, iv p5, .unset, .unset, .unset, .unset, .unset, .unset, .unset, .unset, .unset] [] _
    refine XS.iloadN X1.here hx rfl (hb hby at_0) rfl ?_
    refine X1.ldcInt hx hown (mvT hZ (W 0 rfl)) (g := (mkF m 1 #[iv p1, iv p2, iv p3, iv p4, iv p5, .unset, .unset, .unset, .unset, .unset, .unset, .unset, .unset, .unset] [(.int p1)])) rfl (hb hby at_1) _ ?_
    show SS p e below s₁ m 3 #[iv p1, iv p2, iv p3, iv p4, iv p5, .unset, .unset, .unset, .unset, .unset, .unset, .unset, .unset, .unset] [(.int (2147483647 : Int32)), (.int p1)] _
    refine XS.iand X1.here hx rfl (hb hby at_3) rfl ?_
    show SS p e below s₁ m 4 #[iv p1, iv p2, iv p3, iv p4, iv p5, .unset, .unset, .unset, .unset, .unset, .unset, .unset, .unset, .unset] [(.int (p1 &&& (2147483647 : Int32)))] _
    refine XS.iconst X1.here hx rfl (hb hby at_4) ?_
    refine iremM (g := (mkF m 5 #[iv p1, iv p2, iv p3, iv p4, iv p5, .unset, .unset, .unset, .unset, .unset, .unset, .unset, .unset, .unset] [(.int (3 : Int32)), (.int (p1 &&& (2147483647 : Int32)))])) X1 hx rfl (hb hby at_5) rfl (by decide : ¬ ((3 : Int32) = (0 : Int32))) ?_
    rw [hpl]
    show SS p e below s₁ m 6 #[iv p1, iv p2, iv p3, iv p4, iv p5, .unset, .unset, .unset, .unset, .unset, .unset, .unset, .unset, .unset] [(.int (1 : Int32))] _
    refine XS.istore X1.here hx rfl (hb hby at_6) rfl (l' := #[iv p1, iv p2, iv p3, iv p4, iv p5, iv (1 : Int32), .unset, .unset, .unset, .unset, .unset, .unset, .unset, .unset]) rfl ?_
    refine XS.iloadN X1.here hx rfl (hb hby at_8) rfl ?_
    refine XS.bipush X1.here hx rfl (hb hby at_9) ?_
    show SS p e below s₁ m 11 #[iv p1, iv p2, iv p3, iv p4, iv p5, iv (1 : Int32), .unset, .unset, .unset, .unset, .unset, .unset, .unset, .unset] [(.int (8 : Int32)), (.int p1)] _
    refine XS.iushr X1.here hx rfl (hb hby at_11) rfl ?_
    show SS p e below s₁ m 12 #[iv p1, iv p2, iv p3, iv p4, iv p5, iv (1 : Int32), .unset, .unset, .unset, .unset, .unset, .unset, .unset, .unset] [(.int ((p1.toUInt32 >>> ((8 : Int32) &&& 31).toUInt32).toInt32))] _
    refine X1.ldcInt hx hown (mvT hZ (W 0 rfl)) (g := (mkF m 12 #[iv p1, iv p2, iv p3, iv p4, iv p5, iv (1 : Int32), .unset, .unset, .unset, .unset, .unset, .unset, .unset, .unset] [(.int ((p1.toUInt32 >>> ((8 : Int32) &&& 31).toUInt32).toInt32))])) rfl (hb hby at_12) _ ?_
    refine XS.iand X1.here hx rfl (hb hby at_14) rfl ?_
    show SS p e below s₁ m 15 #[iv p1, iv p2, iv p3, iv p4, iv p5, iv (1 : Int32), .unset, .unset, .unset, .unset, .unset, .unset, .unset, .unset] [(.int (((p1.toUInt32 >>> ((8 : Int32) &&& 31).toUInt32).toInt32) &&& (2147483647 : Int32)))] _
    refine XS.iconst X1.here hx rfl (hb hby at_15) ?_
    refine iremM (g := (mkF m 16 #[iv p1, iv p2, iv p3, iv p4, iv p5, iv (1 : Int32), .unset, .unset, .unset, .unset, .unset, .unset, .unset, .unset] [(.int (3 : Int32)), (.int (((p1.toUInt32 >>> ((8 : Int32) &&& 31).toUInt32).toInt32) &&& (2147483647 : Int32)))])) X1 hx rfl (hb hby at_16) rfl (by decide : ¬ ((3 : Int32) = (0 : Int32))) ?_
    rw [hml_]
    show SS p e below s₁ m 17 #[iv p1, iv p2, iv p3, iv p4, iv p5, iv (1 : Int32), .unset, .unset, .unset, .unset, .unset, .unset, .unset, .unset] [o0] _
    refine XS.istore X1.here hx rfl (hb hby at_17) rfl (l' := #[iv p1, iv p2, iv p3, iv p4, iv p5, iv (1 : Int32), .val o0, .unset, .unset, .unset, .unset, .unset, .unset, .unset]) rfl ?_
    refine XS.iloadN X1.here hx rfl (hb hby at_19) rfl ?_
    refine XS.sipush X1.here hx rfl (hb hby at_20) ?_
    show SS p e below s₁ m 23 #[iv p1, iv p2, iv p3, iv p4, iv p5, iv (1 : Int32), .val o0, .unset, .unset, .unset, .unset, .unset, .unset, .unset] [(.int (255 : Int32)), (.int p2)] _
    refine XS.iand X1.here hx rfl (hb hby at_23) rfl ?_
    show SS p e below s₁ m 24 #[iv p1, iv p2, iv p3, iv p4, iv p5, iv (1 : Int32), .val o0, .unset, .unset, .unset, .unset, .unset, .unset, .unset] [(.int (p2 &&& (255 : Int32)))] _
    refine XS.i2c X1.here hx rfl (hb hby at_24) rfl ?_
    rw [h_c0]
    show SS p e below s₁ m 25 #[iv p1, iv p2, iv p3, iv p4, iv p5, iv (1 : Int32), .val o0, .unset, .unset, .unset, .unset, .unset, .unset, .unset] [(.int c0)] _
    refine XS.istore X1.here hx rfl (hb hby at_25) rfl (l' := #[iv p1, iv p2, iv p3, iv p4, iv p5, iv (1 : Int32), .val o0, iv c0, .unset, .unset, .unset, .unset, .unset, .unset]) rfl ?_
    refine XS.iloadN X1.here hx rfl (hb hby at_27) rfl ?_
    refine XS.sipush X1.here hx rfl (hb hby at_28) ?_
    show SS p e below s₁ m 31 #[iv p1, iv p2, iv p3, iv p4, iv p5, iv (1 : Int32), .val o0, iv c0, .unset, .unset, .unset, .unset, .unset, .unset] [(.int (255 : Int32)), (.int p3)] _
    refine XS.iand X1.here hx rfl (hb hby at_31) rfl ?_
    show SS p e below s₁ m 32 #[iv p1, iv p2, iv p3, iv p4, iv p5, iv (1 : Int32), .val o0, iv c0, .unset, .unset, .unset, .unset, .unset, .unset] [(.int (p3 &&& (255 : Int32)))] _
    refine XS.i2c X1.here hx rfl (hb hby at_32) rfl ?_
    rw [h_c1]
    show SS p e below s₁ m 33 #[iv p1, iv p2, iv p3, iv p4, iv p5, iv (1 : Int32), .val o0, iv c0, .unset, .unset, .unset, .unset, .unset, .unset] [(.int c1)] _
    refine XS.istore X1.here hx rfl (hb hby at_33) rfl (l' := #[iv p1, iv p2, iv p3, iv p4, iv p5, iv (1 : Int32), .val o0, iv c0, iv c1, .unset, .unset, .unset, .unset, .unset]) rfl ?_
    refine XS.iloadN X1.here hx rfl (hb hby at_35) rfl ?_
    refine XS.sipush X1.here hx rfl (hb hby at_36) ?_
    show SS p e below s₁ m 39 #[iv p1, iv p2, iv p3, iv p4, iv p5, iv (1 : Int32), .val o0, iv c0, iv c1, .unset, .unset, .unset, .unset, .unset] [(.int (255 : Int32)), (.int p4)] _
    refine XS.iand X1.here hx rfl (hb hby at_39) rfl ?_
    show SS p e below s₁ m 40 #[iv p1, iv p2, iv p3, iv p4, iv p5, iv (1 : Int32), .val o0, iv c0, iv c1, .unset, .unset, .unset, .unset, .unset] [(.int (p4 &&& (255 : Int32)))] _
    refine XS.i2c X1.here hx rfl (hb hby at_40) rfl ?_
    rw [h_d0]
    show SS p e below s₁ m 41 #[iv p1, iv p2, iv p3, iv p4, iv p5, iv (1 : Int32), .val o0, iv c0, iv c1, .unset, .unset, .unset, .unset, .unset] [(.int d0)] _
    refine XS.istore X1.here hx rfl (hb hby at_41) rfl (l' := #[iv p1, iv p2, iv p3, iv p4, iv p5, iv (1 : Int32), .val o0, iv c0, iv c1, iv d0, .unset, .unset, .unset, .unset]) rfl ?_
    refine XS.iload X1.here hx rfl (hb hby at_43) rfl ?_
    refine XS.sipush X1.here hx rfl (hb hby at_45) ?_
    show SS p e below s₁ m 48 #[iv p1, iv p2, iv p3, iv p4, iv p5, iv (1 : Int32), .val o0, iv c0, iv c1, iv d0, .unset, .unset, .unset, .unset] [(.int (255 : Int32)), (.int p5)] _
    refine XS.iand X1.here hx rfl (hb hby at_48) rfl ?_
    show SS p e below s₁ m 49 #[iv p1, iv p2, iv p3, iv p4, iv p5, iv (1 : Int32), .val o0, iv c0, iv c1, iv d0, .unset, .unset, .unset, .unset] [(.int (p5 &&& (255 : Int32)))] _
    refine XS.i2c X1.here hx rfl (hb hby at_49) rfl ?_
    rw [h_d1]
    show SS p e below s₁ m 50 #[iv p1, iv p2, iv p3, iv p4, iv p5, iv (1 : Int32), .val o0, iv c0, iv c1, iv d0, .unset, .unset, .unset, .unset] [(.int d1)] _
    refine XS.istore X1.here hx rfl (hb hby at_50) rfl (l' := #[iv p1, iv p2, iv p3, iv p4, iv p5, iv (1 : Int32), .val o0, iv c0, iv c1, iv d0, iv d1, .unset, .unset, .unset]) rfl ?_
    refine XS.iload X1.here hx rfl (hb hby at_52) rfl ?_
    refine XS.iload X1.here hx rfl (hb hby at_54) rfl ?_
    refine XS.iload X1.here hx rfl (hb hby at_56) rfl ?_
    refine st2 _ ?_
    refine XS.astore X2.here hx rfl (hb hby at_61) rfl rfl (l' := #[iv p1, iv p2, iv p3, iv p4, iv p5, iv (1 : Int32), .val o0, iv c0, iv c1, iv d0, iv d1, rv b2_0, .unset, .unset]) rfl ?_
    refine XS.iload X2.here hx rfl (hb hby at_63) rfl ?_
    refine XS.iload X2.here hx rfl (hb hby at_65) rfl ?_
    refine XS.iload X2.here hx rfl (hb hby at_67) rfl ?_
    refine st8.trans ?_
    show SS p e below T8 m 72 #[iv p1, iv p2, iv p3, iv p4, iv p5, iv (1 : Int32), .val o0, iv c0, iv c1, iv d0, iv d1, rv b2_0, .unset, .unset] [(.ref b8_0)] _
    refine XS.astore X8.here hx rfl (hb hby at_72) rfl rfl (l' := #[iv p1, iv p2, iv p3, iv p4, iv p5, iv (1 : Int32), .val o0, iv c0, iv c1, iv d0, iv d1, rv b2_0, rv b8_0, .unset]) rfl ?_
    refine st13 _ ?_
    refine XS.dup X13.here hx rfl (hb hby at_77) rfl rfl ?_
    refine XS.aload X13.here hx rfl (hb hby at_78) rfl rfl ?_
    refine XS.aload X13.here hx rfl (hb hby at_80) rfl rfl ?_
    refine st18 _ ?_
    refine st28.trans ?_
    refine XS.astore X28.here hx rfl (hb hby at_88) rfl rfl (l' := #[iv p1, iv p2, iv p3, iv p4, iv p5, iv (1 : Int32), .val o0, iv c0, iv c1, iv d0, iv d1, rv b2_0, rv b8_0, rv b28_0]) rfl ?_
    refine XS.aload X28.here hx rfl (hb hby at_90) rfl rfl ?_
    refine XS.ifnonnullYes X28.here hx rfl (pc0 := 92) (pc' := 97) rfl (hb hby at_92) rfl (by decide) (by decide) ?_
    show SS p e below T28 m 97 #[iv p1, iv p2, iv p3, iv p4, iv p5, iv (1 : Int32), .val o0, iv c0, iv c1, iv d0, iv d1, rv b2_0, rv b8_0, rv b28_0] [] _
    refine XS.iload X28.here hx rfl (hb hby at_97) rfl ?_
    refine XS.ifYes X28.here hx rfl (pc0 := 99) (pc' := 110) rfl (hb hby at_99) rfl ((if0 _ _).trans (feq (by decide : ¬ ((1 : Int32) = (0 : Int32)))).2) (by decide) (by decide) ?_
    refine XS.aload X28.here hx rfl (hb hby at_110) rfl rfl ?_
    refine st48 _ ?_
    refine XS.iload X48.here hx rfl (hb hby at_115) rfl ?_
    refine XS.iconst X48.here hx rfl (hb hby at_117) ?_
    refine XS.iadd X48.here hx rfl (hb hby at_118) rfl ?_
    show SS p e below T48 m 119 #[iv p1, iv p2, iv p3, iv p4, iv p5, iv (1 : Int32), .val o0, iv c0, iv c1, iv d0, iv d1, rv b2_0, rv b8_0, rv b28_0] [(.int (3 : Int32)), (.int (3 : Int32))] _
    refine XS.iload X48.here hx rfl (hb hby at_119) rfl ?_
    refine XS.iadd X48.here hx rfl (hb hby at_121) rfl ?_
    show SS p e below T48 m 122 #[iv p1, iv p2, iv p3, iv p4, iv p5, iv (1 : Int32), .val o0, iv c0, iv c1, iv d0, iv d1, rv b2_0, rv b8_0, rv b28_0] [(.int (3 : Int32)), (.int (3 : Int32))] _
    refine XS.icmpYes X48.here hx rfl (pc0 := 122) (pc' := 127) rfl (hb hby at_122) rfl (teq (by decide : (3 : Int32) = (3 : Int32))).1 (by decide) (by decide) ?_
    refine XS.aload X48.here hx rfl (hb hby at_127) rfl rfl ?_
    refine XS.iconst X48.here hx rfl (hb hby at_129) ?_
    refine st50 _ ?_
    refine XS.iload X50.here hx rfl (hb hby at_133) rfl ?_
    refine XS.icmpYes X50.here hx rfl (pc0 := 135) (pc' := 140) rfl (hb hby at_135) rfl (teq (rfl : c0 = c0)).1 (by decide) (by decide) ?_
    refine XS.iload X50.here hx rfl (hb hby at_140) rfl ?_
    refine XS.iconst X50.here hx rfl (hb hby at_142) ?_
    refine XS.icmpYes X50.here hx rfl (pc0 := 143) (pc' := 159) rfl (hb hby at_143) rfl (feq (by decide : ¬ ((1 : Int32) = (2 : Int32)))).2 (by decide) (by decide) ?_
    refine XS.aload X50.here hx rfl (hb hby at_159) rfl rfl ?_
    show SS p e below T50 m 161 #[iv p1, iv p2, iv p3, iv p4, iv p5, iv (1 : Int32), .val o0, iv c0, iv c1, iv d0, iv d1, rv b2_0, rv b8_0, rv b28_0] [(.ref b28_0)] _
    refine XS.iload X50.here hx rfl (hb hby at_161) rfl ?_
    refine st52 _ ?_
    refine XS.bipush X52.here hx rfl (hb hby at_166) ?_
    refine XS.icmpYes X52.here hx rfl (pc0 := 168) (pc' := 173) rfl (hb hby at_168) rfl (teq (by decide : (58 : Int32) = (58 : Int32))).1 (by decide) (by decide) ?_
    refine XS.aload X52.here hx rfl (hb hby at_173) rfl rfl ?_
    refine XS.iload X52.here hx rfl (hb hby at_175) rfl ?_
    refine XS.iconst X52.here hx rfl (hb hby at_177) ?_
    refine XS.iadd X52.here hx rfl (hb hby at_178) rfl ?_
    show SS p e below T52 m 179 #[iv p1, iv p2, iv p3, iv p4, iv p5, iv (1 : Int32), .val o0, iv c0, iv c1, iv d0, iv d1, rv b2_0, rv b8_0, rv b28_0] [(.int (2 : Int32)), (.ref b28_0)] _
    refine st54 _ ?_
    refine XS.bipush X54.here hx rfl (hb hby at_182) ?_
    refine XS.icmpYes X54.here hx rfl (pc0 := 184) (pc' := 189) rfl (hb hby at_184) rfl (teq (by decide : (32 : Int32) = (32 : Int32))).1 (by decide) (by decide) ?_
    refine XS.iload X54.here hx rfl (hb hby at_189) rfl ?_
    refine XS.iconst X54.here hx rfl (hb hby at_191) ?_
    refine XS.icmpYes X54.here hx rfl (pc0 := 192) (pc' := 211) rfl (hb hby at_192) rfl (tlt (by decide : (0 : Int32) < (1 : Int32))).1 (by decide) (by decide) ?_
    refine XS.iload X54.here hx rfl (hb hby at_211) rfl ?_
    refine XS.iconst X54.here hx rfl (hb hby at_213) ?_
    refine XS.icmpYes X54.here hx rfl (pc0 := 214) (pc' := 233) rfl (hb hby at_214) rfl (feq (by decide : ¬ ((0 : Int32) = (2 : Int32)))).2 (by decide) (by decide) ?_
    refine XS.iconst X54.here hx rfl (hb hby at_233) ?_
    show SS p e below T54 m 234 #[iv p1, iv p2, iv p3, iv p4, iv p5, iv (1 : Int32), .val o0, iv c0, iv c1, iv d0, iv d1, rv b2_0, rv b8_0, rv b28_0] [(.int (1 : Int32))] _
    exact retN X54 hx (t := .boolean) hret (by simp) (hb hby at_234) hr
theorem ef_477 (m : MethodId) (a1 : Addr) : entryFrame m #[(.ref a1), (.int (4 : Int32))] 3 = mkF m 0 #[rv a1, iv (4 : Int32), .unset] [] := by first | (simp [entryFrame, mkF, argsToLocals, Value.category]; done) | rfl
def Q61_ensureCapacityInternal (Z : State) (a1 : Addr) (a2 : Addr) (k3 : ClassId) (p4 : Int32) (h0 : Heap) (n0 : Nat) (v : Option Value) (h : Heap) (L : List Loc) : Prop := v = none ∧ Fr n0 L ∧ h = h0
theorem rm61_ensureCapacityInternal (l : Launch) (Z : State) (a0 : Array Value) (hw : HW Z a0) (a1 : Addr) (a2 : Addr) (k3 : ClassId) (p4 : Int32) (h0 : Heap) (n0 : Nat) (O0 : Old Z n0 h0) (F_0 : FA41 Z h0 a1 (.ref a2)) (F_1 : Arv Z h0 a2 k3 .byte (16 : Int32) [(.int p4), (.int (58 : Int32)), (.int (32 : Int32)), o0, o0, o0, o0, o0, o0, o0, o0, o0, o0, o0, o0, o0] o0) (F_2 : FA42 Z h0 a1 o0) :
    Met l Z [] MY15 jdk_68_method_9_code 3 none ({ frames := 0, cells := 0, slots := 0, locals := 0 } : Room) #[(.ref a1), (.int (4 : Int32))] h0 (Q61_ensureCapacityInternal Z a1 a2 k3 p4 h0 n0) := by
  have W := @own_W _ _ hw
  refine own_mk (plainFor_of_name pn_206) ?_
  intro p e s m below meth c s₁ hZ hx hby hml hown hnm hret hlk X0 e0
  have N0 := Fr.nil n0
  obtain ⟨T1, X1, e1, st1⟩ := getF X0 hx hZ hown (host := "") (Or.inl (W 83 rfl)) Via.refl e0 F_0 (g := (mkF m 1 #[rv a1, iv (4 : Int32), .unset] [(.ref a1)])) rfl rfl (hb hby d_243)
  obtain ⟨c2, A2, q2, S2, N2, H2, G2⟩ := id F_1
  obtain ⟨T3, X3, e3, st3⟩ := getF X1 hx hZ hown (host := "") (Or.inl (W 85 rfl)) Via.refl e1 F_2 (g := (mkF m 6 #[rv a1, iv (4 : Int32), .unset] [(.ref a1), (.int (16 : Int32))])) rfl rfl (hb hby d_246)
  refine ⟨T3, none, _, _, _, X3, by decide, by decide, (fun _ => rfl), ?_, fun fs hr => castTop (ef_477 m a1) ?_⟩
  · show Q61_ensureCapacityInternal Z a1 a2 k3 p4 h0 n0 _ T3.heap _
    rw [e3]
    exact ⟨rfl, N0, rfl⟩
  · show SS p e below s₁ m 0 #[rv a1, iv (4 : Int32), .unset] [] _
    refine XS.aloadN X0.here hx rfl (hb hby d_242) rfl rfl ?_
    refine st1 _ ?_
    refine X1.arraylength hx (by rw [e1]; exact A2.1) (State.isArrayOf_alike hZ.alike A2.2.1) (g := (mkF m 4 #[rv a1, iv (4 : Int32), .unset] [(.ref a2)])) rfl rfl (hb hby d_244) _ ?_
    rw [len_of S2 N2]
    refine XS.aloadN X1.here hx rfl (hb hby d_245) rfl rfl ?_
    refine st3 _ ?_
    refine XS.ishr X3.here hx rfl (hb hby d_247) rfl ?_
    show SS p e below T3 m 10 #[rv a1, iv (4 : Int32), .unset] [(.int (16 : Int32))] _
    refine XS.istoreN X3.here hx rfl (hb hby d_248) rfl (l' := #[rv a1, iv (4 : Int32), iv (16 : Int32)]) rfl ?_
    refine XS.iloadN X3.here hx rfl (hb hby d_249) rfl ?_
    refine XS.iloadN X3.here hx rfl (hb hby d_250) rfl ?_
    refine XS.isub X3.here hx rfl (hb hby d_251) rfl ?_
    show SS p e below T3 m 14 #[rv a1, iv (4 : Int32), iv (16 : Int32)] [(.int (-12 : Int32))] _
    refine XS.ifYes X3.here hx rfl (pc0 := 14) (pc' := 38) rfl (hb hby d_252) rfl ((if0 _ _).trans (flt (by decide : ¬ ((0 : Int32) < (-12 : Int32)))).2.2.2) (by decide) (by decide) ?_
    exact X3.returnOut hx hret (hb hby d_253) hr
def Q62_getBytes (Z : State) (a1 : Addr) (a2 : Addr) (p3 : Int32) (a4 : Addr) (k5 : ClassId) (p6 : Int32) (k7 : ClassId) (p8 : Int32) (h0 : Heap) (n0 : Nat) (v : Option Value) (h : Heap) (L : List Loc) : Prop := v = none ∧ Fr n0 L ∧ Keep h0 h [a2] ∧ Arv Z h a2 k7 .byte (16 : Int32) [(.int p8), (.int (58 : Int32)), (.int (32 : Int32)), (.int p6), o0, o0, o0, o0, o0, o0, o0, o0, o0, o0, o0, o0] o0
theorem rm62_getBytes (l : Launch) (Z : State) (a0 : Array Value) (hw : HW Z a0) (a1 : Addr) (a2 : Addr) (p3 : Int32) (a4 : Addr) (k5 : ClassId) (p6 : Int32) (k7 : ClassId) (p8 : Int32) (h0 : Heap) (n0 : Nat) (O0 : Old Z n0 h0) (F_0 : EA44 Z h0 a1) (S_1 : SA48 Z Z.heap (.int p3)) (hc_2 : ¬ (p3 = (0 : Int32))) (F_3 : FA38 Z h0 a1 o0) (F_4 : FA37 Z h0 a1 (.ref a4)) (F_5 : Arv Z h0 a4 k5 .byte (1 : Int32) [(.int p6)] o0) (F_6 : Arv Z h0 a2 k7 .byte (16 : Int32) [(.int p8), (.int (58 : Int32)), (.int (32 : Int32)), o0, o0, o0, o0, o0, o0, o0, o0, o0, o0, o0, o0, o0] o0) (g_7 : n0 ≤ a2) :
    Met l Z [] MY17 jdk_42_method_147_code 4 none ({ frames := 1, cells := 0, slots := 0, locals := 27 } : Room) #[(.ref a1), (.ref a2), (.int (3 : Int32)), o0] h0 (Q62_getBytes Z a1 a2 p3 a4 k5 p6 k7 p8 h0 n0) := by
  have W := @own_W _ _ hw
  refine own_mk (plainFor_of_name pn_30) ?_
  intro p e s m below meth c s₁ hZ hx hby hml hown hnm hret hlk X0 e0
  have N0 := Fr.nil n0
  obtain ⟨_, T1, L1, X1, hQ1, st1⟩ := own_cv X0 hx hZ hown hml (W 102 rfl) (W 103 rfl) (notFace_of_selects (W 105 rfl)) (W 105 rfl) (W 104 rfl) (W 7 rfl) (W 106 rfl) (rm24_coder l Z a0 hw a1 p3 h0 n0 O0 (S_1) (hc_2) (F_3)) e0 F_0 (hb hby d_280) 0 #[rv a1, rv a2, iv (3 : Int32), .val o0] [] [] pd_231
  obtain ⟨rfl, N1q, K1⟩ := hQ1
  have N2 := Fr.app N0 N1q
  obtain ⟨T3, X3, e3, st3⟩ := getF X1 hx hZ hown (host := "") (Or.inl (W 25 rfl)) Via.refl K1 F_4 (g := (mkF m 9 #[rv a1, rv a2, iv (3 : Int32), .val o0] [(.ref a1)])) rfl rfl (hb hby d_284)
  obtain ⟨T4, X4, e4, st4⟩ := getF X3 hx hZ hown (host := "") (Or.inl (W 25 rfl)) Via.refl e3 F_4 (g := (mkF m 18 #[rv a1, rv a2, iv (3 : Int32), .val o0] [(.ref a1), (.int (3 : Int32)), (.ref a2), o0, (.ref a4)])) rfl rfl (hb hby d_291)
  obtain ⟨c5, A5, q5, S5, N5, H5, G5⟩ := id F_5
  obtain ⟨T6, h6, Lc6, X6, e6, N6, K6, V6, st6⟩ := cpA X4 hx hZ hown (W 130 rfl) (W 133 rfl) (W 131 rfl) (W 132 rfl) e4 F_5 F_6 (Or.inl ⟨rfl, rfl⟩) (sp := (0 : Int32)) (dp := (3 : Int32)) (nn := (1 : Int32)) (by decide) (by decide) (by decide) (by decide) (by decide) (us := [(.int p6)]) rfl (Nat.le_of_ble_eq_true rfl) N2 g_7 (g := (mkF m 22 #[rv a1, rv a2, iv (3 : Int32), .val o0] [(.int (1 : Int32)), (.int (3 : Int32)), (.ref a2), o0, (.ref a4)])) rfl (by rw [hml]; rfl) rfl (hb hby d_293) (by decide) (W := 0) (by show 2 * 0 + _ ≤ _; exact Nat.le_of_eq rfl) (by decide)
  have O7 := O0.keep K6 (allS g_7 all0)
  have K8 : Keep h0 h6 [a2] := Keep.trans (Keep.refl h0 [a2]) K6 (allS (Or.inl (List.mem_of_getElem? (i := 0) rfl)) all0)
  have v9 : Arv Z h6 a2 k7 .byte (16 : Int32) [(.int p8), (.int (58 : Int32)), (.int (32 : Int32)), (.int p6), o0, o0, o0, o0, o0, o0, o0, o0, o0, o0, o0, o0] o0 := V6
  refine ⟨T6, none, _, _, _, X6, by decide, by decide, (fun _ => rfl), ?_, fun fs hr => castTop (ef_323 m a1 a2) ?_⟩
  · show Q62_getBytes Z a1 a2 p3 a4 k5 p6 k7 p8 h0 n0 _ T6.heap _
    rw [e6]
    exact ⟨rfl, N6, K8, v9⟩
  · show SS p e below s₁ m 0 #[rv a1, rv a2, iv (3 : Int32), .val o0] [] _
    refine XS.aloadN X0.here hx rfl (hb hby d_279) rfl rfl ?_
    refine st1 _ ?_
    refine XS.iloadN X1.here hx rfl (hb hby d_281) rfl ?_
    refine XS.icmpNo X1.here hx rfl (hb hby d_282) rfl (teq (by decide : (0 : Int32) = (0 : Int32))).2 ?_
    refine XS.aloadN X1.here hx rfl (hb hby d_283) rfl rfl ?_
    refine st3 _ ?_
    refine XS.iconst X3.here hx rfl (hb hby d_285) ?_
    refine XS.aloadN X3.here hx rfl (hb hby d_286) rfl rfl ?_
    refine XS.iloadN X3.here hx rfl (hb hby d_287) rfl ?_
    refine XS.iloadN X3.here hx rfl (hb hby d_288) rfl ?_
    show SS p e below T3 m 16 #[rv a1, rv a2, iv (3 : Int32), .val o0] [o0, (.int (3 : Int32)), (.ref a2), o0, (.ref a4)] _
    refine XS.ishl X3.here hx rfl (hb hby d_289) rfl ?_
    show SS p e below T3 m 17 #[rv a1, rv a2, iv (3 : Int32), .val o0] [(.int (3 : Int32)), (.ref a2), o0, (.ref a4)] _
    refine XS.aloadN X3.here hx rfl (hb hby d_290) rfl rfl ?_
    refine st4 _ ?_
    refine X4.arraylength hx (by rw [e4]; exact A5.1) (State.isArrayOf_alike hZ.alike A5.2.1) (g := (mkF m 21 #[rv a1, rv a2, iv (3 : Int32), .val o0] [(.ref a4), (.int (3 : Int32)), (.ref a2), o0, (.ref a4)])) rfl rfl (hb hby d_292) _ ?_
    rw [len_of S5 N5]
    refine st6 _ ?_
    refine XS.goto X6.here hx rfl (pc0 := 25) (pc' := 43) rfl (hb hby d_294) (by decide) (by decide) ?_
    exact X6.returnOut hx hret (hb hby d_295) hr
def Q63_putStringAt (Z : State) (a1 : Addr) (a2 : Addr) (p3 : Int32) (a4 : Addr) (a5 : Addr) (k6 : ClassId) (p7 : Int32) (k8 : ClassId) (p9 : Int32) (h0 : Heap) (n0 : Nat) (v : Option Value) (h : Heap) (L : List Loc) : Prop := v = none ∧ Fr n0 L ∧ Keep h0 h [a4] ∧ Arv Z h a4 k8 .byte (16 : Int32) [(.int p9), (.int (58 : Int32)), (.int (32 : Int32)), (.int p7), o0, o0, o0, o0, o0, o0, o0, o0, o0, o0, o0, o0] o0
theorem rm63_putStringAt (l : Launch) (Z : State) (a0 : Array Value) (hw : HW Z a0) (a1 : Addr) (a2 : Addr) (p3 : Int32) (a4 : Addr) (a5 : Addr) (k6 : ClassId) (p7 : Int32) (k8 : ClassId) (p9 : Int32) (h0 : Heap) (n0 : Nat) (O0 : Old Z n0 h0) (F_0 : EA47 Z h0 a1) (S_1 : SA48 Z Z.heap (.int p3)) (hc_2 : ¬ (p3 = (0 : Int32))) (F_3 : FA42 Z h0 a1 o0) (F_4 : EA44 Z h0 a2) (F_5 : FA38 Z h0 a2 o0) (F_6 : FA41 Z h0 a1 (.ref a4)) (F_7 : FA37 Z h0 a2 (.ref a5)) (F_8 : Arv Z h0 a5 k6 .byte (1 : Int32) [(.int p7)] o0) (F_9 : Arv Z h0 a4 k8 .byte (16 : Int32) [(.int p9), (.int (58 : Int32)), (.int (32 : Int32)), o0, o0, o0, o0, o0, o0, o0, o0, o0, o0, o0, o0, o0] o0) (g_10 : n0 ≤ a4) :
    Met l Z [] MY18 jdk_68_method_73_code 3 none ({ frames := 2, cells := 0, slots := 0, locals := 42 } : Room) #[(.ref a1), (.int (3 : Int32)), (.ref a2)] h0 (Q63_putStringAt Z a1 a2 p3 a4 a5 k6 p7 k8 p9 h0 n0) := by
  have W := @own_W _ _ hw
  refine own_mk (plainFor_of_name pn_206) ?_
  intro p e s m below meth c s₁ hZ hx hby hml hown hnm hret hlk X0 e0
  have N0 := Fr.nil n0
  obtain ⟨_, T1, L1, X1, hQ1, st1⟩ := own_cv X0 hx hZ hown hml (W 119 rfl) (own_decl (y := MY16) (W 120 rfl) (W 123 rfl)) (notFace_of_selects (W 122 rfl)) (W 122 rfl) (W 120 rfl) (W 79 rfl) (W 123 rfl) (rm27_inflateIfNeededFor l Z a0 hw a1 a2 p3 h0 n0 O0 (S_1) (hc_2) (F_3) (F_4) (F_5)) e0 F_0 (hb hby d_262) 0 #[rv a1, iv (3 : Int32), rv a2] [(.ref a2)] [] pd_271
  obtain ⟨rfl, N1q, K1⟩ := hQ1
  have N2 := Fr.app N0 N1q
  obtain ⟨T3, X3, e3, st3⟩ := getF X1 hx hZ hown (host := "") (Or.inl (W 83 rfl)) Via.refl K1 F_6 (g := (mkF m 7 #[rv a1, iv (3 : Int32), rv a2] [(.ref a1), (.ref a2)])) rfl rfl (hb hby d_274)
  obtain ⟨T4, X4, e4, st4⟩ := getF X3 hx hZ hown (host := "") (Or.inl (W 85 rfl)) Via.refl e3 F_3 (g := (mkF m 12 #[rv a1, iv (3 : Int32), rv a2] [(.ref a1), (.int (3 : Int32)), (.ref a4), (.ref a2)])) rfl rfl (hb hby d_277)
  obtain ⟨_, T5, L5, X5, hQ5, st5⟩ := own_cv X4 hx hZ hown hml (W 125 rfl) (W 126 rfl) (notFace_of_selects (W 128 rfl)) (W 128 rfl) (W 127 rfl) (W 7 rfl) (W 129 rfl) (rm62_getBytes l Z a0 hw a2 a4 p3 a5 k6 p7 k8 p9 h0 n0 O0 (F_4) (S_1) (hc_2) (F_5) (F_7) (F_8) (F_9) (g_10)) e4 F_4 (hb hby d_278) 0 #[rv a1, iv (3 : Int32), rv a2] [(.ref a4), (.int (3 : Int32)), o0] [] pd_297
  obtain ⟨rfl, N5q, K5, F5_0⟩ := hQ5
  have N6 := Fr.app N2 N5q
  have O7 := O0.keep K5 (allS g_10 all0)
  have K8 : Keep h0 T5.heap [a4] := Keep.trans (Keep.refl h0 [a4]) K5 (allS (Or.inl (List.mem_of_getElem? (i := 0) rfl)) all0)
  refine ⟨T5, none, _, _, _, X5, by decide, by decide, (fun _ => rfl), ?_, fun fs hr => castTop (ef_324 m a1 a2) ?_⟩
  · show Q63_putStringAt Z a1 a2 p3 a4 a5 k6 p7 k8 p9 h0 n0 _ T5.heap _
    exact ⟨rfl, N6, K8, F5_0⟩
  · show SS p e below s₁ m 0 #[rv a1, iv (3 : Int32), rv a2] [] _
    refine XS.aloadN X0.here hx rfl (hb hby d_260) rfl rfl ?_
    refine XS.aloadN X0.here hx rfl (hb hby d_261) rfl rfl ?_
    refine st1 _ ?_
    refine XS.aloadN X1.here hx rfl (hb hby d_272) rfl rfl ?_
    refine XS.aloadN X1.here hx rfl (hb hby d_273) rfl rfl ?_
    refine st3 _ ?_
    refine XS.iloadN X3.here hx rfl (hb hby d_275) rfl ?_
    refine XS.aloadN X3.here hx rfl (hb hby d_276) rfl rfl ?_
    refine st4 _ ?_
    refine st5 _ ?_
    show SS p e below T5 m 18 #[rv a1, iv (3 : Int32), rv a2] [] _
    exact X5.returnOut hx hret (hb hby d_298) hr
def Q64_append (Z : State) (a1 : Addr) (a2 : Addr) (a3 : Addr) (k4 : ClassId) (p5 : Int32) (p6 : Int32) (a7 : Addr) (k8 : ClassId) (p9 : Int32) (h0 : Heap) (n0 : Nat) (v : Option Value) (h : Heap) (L : List Loc) : Prop := v = some (.ref a1) ∧ Fr n0 L ∧ Keep h0 h [a7, a1] ∧ FA43 Z h a1 (.int (4 : Int32)) ∧ FA41 Z h a1 (.ref a7) ∧ Arv Z h a7 k8 .byte (16 : Int32) [(.int p9), (.int (58 : Int32)), (.int (32 : Int32)), (.int p5), o0, o0, o0, o0, o0, o0, o0, o0, o0, o0, o0, o0] o0 ∧ FA42 Z h a1 o0
theorem rm64_append (l : Launch) (Z : State) (a0 : Array Value) (hw : HW Z a0) (a1 : Addr) (a2 : Addr) (a3 : Addr) (k4 : ClassId) (p5 : Int32) (p6 : Int32) (a7 : Addr) (k8 : ClassId) (p9 : Int32) (h0 : Heap) (n0 : Nat) (O0 : Old Z n0 h0) (F_0 : EA44 Z h0 a2) (F_1 : FA37 Z h0 a2 (.ref a3)) (F_2 : Arv Z h0 a3 k4 .byte (1 : Int32) [(.int p5)] o0) (S_3 : SA48 Z Z.heap (.int p6)) (hc_4 : ¬ (p6 = (0 : Int32))) (F_5 : FA38 Z h0 a2 o0) (F_6 : FA43 Z h0 a1 (.int (3 : Int32))) (F_7 : EA47 Z h0 a1) (F_8 : FA41 Z h0 a1 (.ref a7)) (F_9 : Arv Z h0 a7 k8 .byte (16 : Int32) [(.int p9), (.int (58 : Int32)), (.int (32 : Int32)), o0, o0, o0, o0, o0, o0, o0, o0, o0, o0, o0, o0, o0] o0) (F_10 : FA42 Z h0 a1 o0) (g_11 : n0 ≤ a7) (ne_12 : a1 ≠ a7) (g_13 : n0 ≤ a1) :
    Met l Z [] MY19 jdk_68_method_22_code 3 (some (.object "java/lang/AbstractStringBuilder")) ({ frames := 3, cells := 0, slots := 0, locals := 56 } : Room) #[(.ref a1), (.ref a2)] h0 (Q64_append Z a1 a2 a3 k4 p5 p6 a7 k8 p9 h0 n0) := by
  have W := @own_W _ _ hw
  refine own_mk (plainFor_of_name pn_206) ?_
  intro p e s m below meth c s₁ hZ hx hby hml hown hnm hret hlk X0 e0
  have N0 := Fr.nil n0
  obtain ⟨_, T1, L1, X1, hQ1, st1⟩ := own_cv X0 hx hZ hown hml (W 97 rfl) (W 98 rfl) (notFace_of_selects (W 100 rfl)) (W 100 rfl) (W 99 rfl) (W 7 rfl) (W 101 rfl) (rm25_length l Z a0 hw a2 a3 k4 (1 : Int32) [(.int p5)] p6 h0 n0 O0 (F_1) (F_2) (F_0) (S_3) (hc_4) (F_5) ((by decide))) e0 F_0 (hb hby d_219) 0 #[rv a1, rv a2, .unset] [] [] pd_234
  obtain ⟨rfl, N1q, K1⟩ := hQ1
  have N2 := Fr.app N0 N1q
  obtain ⟨T3, X3, e3, st3⟩ := getF X1 hx hZ hown (host := "") (Or.inl (W 107 rfl)) Via.refl K1 F_6 (g := (mkF m 16 #[rv a1, rv a2, iv (1 : Int32)] [(.ref a1), (.ref a1)])) rfl rfl (hb hby d_238)
  obtain ⟨_, T4, L4, X4, hQ4, st4⟩ := own_cv X3 hx hZ hown hml (W 109 rfl) (own_decl (y := MY15) (W 110 rfl) (W 113 rfl)) (notFace_of_selects (W 112 rfl)) (W 112 rfl) (W 110 rfl) (W 79 rfl) (W 113 rfl) (rm61_ensureCapacityInternal l Z a0 hw a1 a7 k8 p9 h0 n0 O0 (F_8) (F_9) (F_10)) e3 F_7 (hb hby d_241) 0 #[rv a1, rv a2, iv (1 : Int32)] [(.int (4 : Int32))] [] pd_207
  obtain ⟨rfl, N4q, K4⟩ := hQ4
  have N5 := Fr.app N2 N4q
  obtain ⟨T6, X6, e6, st6⟩ := getF X4 hx hZ hown (host := "") (Or.inl (W 107 rfl)) Via.refl K4 F_6 (g := (mkF m 26 #[rv a1, rv a2, iv (1 : Int32)] [(.ref a1), (.ref a1)])) rfl rfl (hb hby d_257)
  obtain ⟨_, T7, L7, X7, hQ7, st7⟩ := own_cv X6 hx hZ hown hml (W 114 rfl) (own_decl (y := MY18) (W 115 rfl) (W 118 rfl)) (notFace_of_selects (W 117 rfl)) (W 117 rfl) (W 115 rfl) (W 79 rfl) (W 118 rfl) (rm63_putStringAt l Z a0 hw a1 a2 p6 a7 a3 k4 p5 k8 p9 h0 n0 O0 (F_7) (S_3) (hc_4) (F_10) (F_0) (F_5) (F_8) (F_1) (F_2) (F_9) (g_11)) e6 F_7 (hb hby d_259) 0 #[rv a1, rv a2, iv (1 : Int32)] [(.int (3 : Int32)), (.ref a2)] [] pd_300
  obtain ⟨rfl, N7q, K7, F7_0⟩ := hQ7
  have N8 := Fr.app N5 N7q
  have O9 := O0.keep K7 (allS g_11 all0)
  have K10 : Keep h0 T7.heap [a7, a1] := Keep.trans (Keep.refl h0 [a7, a1]) K7 (allS (Or.inl (List.mem_of_getElem? (i := 0) rfl)) all0)
  have f12 := (F_6.keep K7 (ninS ne_12 nin0))
  obtain ⟨T11, X11, e11, st11⟩ := getF X7 hx hZ hown (host := "") (Or.inl (W 107 rfl)) Via.refl rfl f12 (g := (mkF m 35 #[rv a1, rv a2, iv (1 : Int32)] [(.ref a1), (.ref a1)])) rfl rfl (hb hby d_303)
  have f14 := (F_7.keep K7)
  obtain ⟨T13, h13, X13, e13, W13, st13⟩ := putF X11 hx hZ hown (host := "") (Or.inl (W 107 rfl)) Via.refl e11 f12 f14 (Or.inl (W 108 rfl)) (W 70 rfl) (ty := .int) (by decide) rfl rfl (g := (mkF m 40 #[rv a1, rv a2, iv (1 : Int32)] [(.int (4 : Int32)), (.ref a1)])) rfl rfl (hb hby d_306)
  have O15 := O9.wr W13 g_13
  have K16 : Keep h0 h13 [a7, a1] := Keep.wr K10 W13 (Or.inl (List.mem_of_getElem? (i := 1) rfl))
  have f17 : FA43 Z h13 a1 (.int (4 : Int32)) := (f12.same W13)
  have N18 := Fr.snoc X13 N8 g_13
  have f19 := ((F_8.keep K7 (ninS ne_12 nin0)).other W13 (Or.inr (slot_ne (Or.inl (W 84 rfl)) (Or.inl (W 108 rfl)) (by decide) (t := (.array .byte)) (t' := .int) (by decide) (by decide))))
  have f20 := (F7_0.other W13 (Ne.symm ne_12))
  have f21 := ((F_10.keep K7 (ninS ne_12 nin0)).other W13 (Or.inr (slot_ne (Or.inl (W 86 rfl)) (Or.inl (W 108 rfl)) (by decide) (t := .byte) (t' := .int) (by decide) (by decide))))
  refine ⟨T13, some (.ref a1), _, _, _, X13, by decide, by decide, nofun, ?_, fun fs hr => castTop (ef_309 m a1 a2) ?_⟩
  · show Q64_append Z a1 a2 a3 k4 p5 p6 a7 k8 p9 h0 n0 _ T13.heap _
    rw [e13]
    exact ⟨rfl, N18, K16, f17, f19, f20, f21⟩
  · show SS p e below s₁ m 0 #[rv a1, rv a2, .unset] [] _
    refine XS.aloadN X0.here hx rfl (hb hby d_216) rfl rfl ?_
    refine XS.ifnonnullYes X0.here hx rfl (pc0 := 1) (pc' := 9) rfl (hb hby d_217) rfl (by decide) (by decide) ?_
    refine XS.aloadN X0.here hx rfl (hb hby d_218) rfl rfl ?_
    refine st1 _ ?_
    refine XS.istoreN X1.here hx rfl (hb hby d_235) rfl (l' := #[rv a1, rv a2, iv (1 : Int32)]) rfl ?_
    refine XS.aloadN X1.here hx rfl (hb hby d_236) rfl rfl ?_
    refine XS.aloadN X1.here hx rfl (hb hby d_237) rfl rfl ?_
    refine st3 _ ?_
    refine XS.iloadN X3.here hx rfl (hb hby d_239) rfl ?_
    refine XS.iadd X3.here hx rfl (hb hby d_240) rfl ?_
    show SS p e below T3 m 21 #[rv a1, rv a2, iv (1 : Int32)] [(.int (4 : Int32)), (.ref a1)] _
    refine st4 _ ?_
    refine XS.aloadN X4.here hx rfl (hb hby d_255) rfl rfl ?_
    refine XS.aloadN X4.here hx rfl (hb hby d_256) rfl rfl ?_
    refine st6 _ ?_
    refine XS.aloadN X6.here hx rfl (hb hby d_258) rfl rfl ?_
    refine st7 _ ?_
    refine XS.aloadN X7.here hx rfl (hb hby d_301) rfl rfl ?_
    refine XS.dup X7.here hx rfl (hb hby d_302) rfl rfl ?_
    refine st11 _ ?_
    refine XS.iloadN X11.here hx rfl (hb hby d_304) rfl ?_
    show SS p e below T11 m 39 #[rv a1, rv a2, iv (1 : Int32)] [(.int (1 : Int32)), (.int (3 : Int32)), (.ref a1)] _
    refine XS.iadd X11.here hx rfl (hb hby d_305) rfl ?_
    show SS p e below T11 m 40 #[rv a1, rv a2, iv (1 : Int32)] [(.int (4 : Int32)), (.ref a1)] _
    refine st13 _ ?_
    refine XS.aloadN X13.here hx rfl (hb hby d_307) rfl rfl ?_
    exact retOut X13 hx hret rfl (Or.inr (Or.inr (Or.inr (Or.inr ⟨rfl, rfl, rfl⟩)))) (hb hby d_308) hr
def Q65_append (Z : State) (a1 : Addr) (a2 : Addr) (a3 : Addr) (k4 : ClassId) (p5 : Int32) (p6 : Int32) (a7 : Addr) (k8 : ClassId) (p9 : Int32) (h0 : Heap) (n0 : Nat) (v : Option Value) (h : Heap) (L : List Loc) : Prop := v = some (.ref a1) ∧ Fr n0 L ∧ Keep h0 h [a1, a7] ∧ FA43 Z h a1 (.int (4 : Int32)) ∧ FA41 Z h a1 (.ref a7) ∧ Arv Z h a7 k8 .byte (16 : Int32) [(.int p9), (.int (58 : Int32)), (.int (32 : Int32)), (.int p5), o0, o0, o0, o0, o0, o0, o0, o0, o0, o0, o0, o0] o0 ∧ FA42 Z h a1 o0
theorem rm65_append (l : Launch) (Z : State) (a0 : Array Value) (hw : HW Z a0) (a1 : Addr) (a2 : Addr) (a3 : Addr) (k4 : ClassId) (p5 : Int32) (p6 : Int32) (a7 : Addr) (k8 : ClassId) (p9 : Int32) (h0 : Heap) (n0 : Nat) (O0 : Old Z n0 h0) (F_0 : EA44 Z h0 a2) (F_1 : FA37 Z h0 a2 (.ref a3)) (F_2 : Arv Z h0 a3 k4 .byte (1 : Int32) [(.int p5)] o0) (S_3 : SA48 Z Z.heap (.int p6)) (hc_4 : ¬ (p6 = (0 : Int32))) (F_5 : FA38 Z h0 a2 o0) (F_6 : FA43 Z h0 a1 (.int (3 : Int32))) (F_7 : EA47 Z h0 a1) (F_8 : FA41 Z h0 a1 (.ref a7)) (F_9 : Arv Z h0 a7 k8 .byte (16 : Int32) [(.int p9), (.int (58 : Int32)), (.int (32 : Int32)), o0, o0, o0, o0, o0, o0, o0, o0, o0, o0, o0, o0, o0] o0) (F_10 : FA42 Z h0 a1 o0) (g_11 : n0 ≤ a7) (ne_12 : a1 ≠ a7) (g_13 : n0 ≤ a1) :
    Met l Z [] MY20 jdk_67_method_7_code 2 (some (.object "java/lang/StringBuilder")) ({ frames := 4, cells := 0, slots := 0, locals := 70 } : Room) #[(.ref a1), (.ref a2)] h0 (Q65_append Z a1 a2 a3 k4 p5 p6 a7 k8 p9 h0 n0) := by
  have W := @own_W _ _ hw
  refine own_mk (plainFor_of_name pn_209) ?_
  intro p e s m below meth c s₁ hZ hx hby hml hown hnm hret hlk X0 e0
  have N0 := Fr.nil n0
  obtain ⟨_, _, ⟨T1, L1, k1, n1⟩, -, X1, ⟨Lc1, hQ1, l1, y1, z1⟩, st1⟩ := superBack X0 hx hZ (y := MY19) hown (W 92 rfl) (own_same (y := MY19) (by decide) (W 93 rfl) (own_nf (args := a0) (y := MY15) rfl (W 112 rfl))) (W 93 rfl) (W 94 rfl) (by decide) (backOf (W := 0) (rm64_append l Z a0 hw a1 a2 a3 k4 p5 p6 a7 k8 p9 h0 n0 O0 (F_0) (F_1) (F_2) (S_3) (hc_4) (F_5) (F_6) (F_7) (F_8) (F_9) (F_10) (g_11) (ne_12) (g_13)) hZ (W 96 rfl) (W 79 rfl) (by decide) (by decide)) e0 (Ins.self F_7) (g := (mkF m 2 #[rv a1, rv a2] [(.ref a2), (.ref a1)])) rfl (by rw [hml]; rfl) (W 96 rfl) (argsL := [(.ref a2)]) (rest := []) (lenOf pd_310 rfl) rfl (by show 2 * 0 + _ ≤ _; exact Nat.le_of_eq rfl) (hb hby d_215) (fun _ _ => ⟨rfl, e0, (by decide : 0 + 0 ≤ _), (by decide : 0 + 0 ≤ _)⟩)
  dsimp only [Pt.U, Pt.locs, Pt.cells, Pt.slots] at X1 l1 y1 z1 st1 hQ1
  subst l1 y1 z1
  obtain ⟨rfl, N1q, K1, F1_0, F1_1, F1_2, F1_3⟩ := hQ1
  have N2 := Fr.app N0 N1q
  have O3 := O0.keep K1 (allS g_11 (allS g_13 all0))
  have K4 : Keep h0 T1.heap [a1, a7] := Keep.trans (Keep.refl h0 [a1, a7]) K1 (allS (Or.inl (List.mem_of_getElem? (i := 1) rfl)) (allS (Or.inl (List.mem_of_getElem? (i := 0) rfl)) all0))
  refine ⟨T1, some (.ref a1), _, _, _, X1, by decide, by decide, nofun, ?_, fun fs hr => castTop (ef_33 m a1 a2) ?_⟩
  · show Q65_append Z a1 a2 a3 k4 p5 p6 a7 k8 p9 h0 n0 _ T1.heap _
    exact ⟨rfl, N2, K4, F1_0, F1_1, F1_2, F1_3⟩
  · show SS p e below s₁ m 0 #[rv a1, rv a2] [] _
    refine XS.aloadN X0.here hx rfl (hb hby d_213) rfl rfl ?_
    refine XS.aloadN X0.here hx rfl (hb hby d_214) rfl rfl ?_
    refine st1.trans ?_
    refine XS.pop X1.here hx rfl (hb hby d_311) rfl rfl ?_
    refine XS.aloadN X1.here hx rfl (hb hby d_312) rfl rfl ?_
    exact retOut X1 hx hret rfl (Or.inr (Or.inr (Or.inr (Or.inr ⟨rfl, rfl, rfl⟩)))) (hb hby d_313) hr
def Q66_length (Z : State) (a1 : Addr) (h0 : Heap) (n0 : Nat) (v : Option Value) (h : Heap) (L : List Loc) : Prop := v = some (.int (4 : Int32)) ∧ Fr n0 L ∧ h = h0
theorem rm66_length (l : Launch) (Z : State) (a0 : Array Value) (hw : HW Z a0) (a1 : Addr) (h0 : Heap) (n0 : Nat) (O0 : Old Z n0 h0) (F_0 : FA43 Z h0 a1 (.int (4 : Int32))) :
    Met l Z [] MY22 jdk_68_method_6_code 1 (some .int) ({ frames := 0, cells := 0, slots := 0, locals := 0 } : Room) #[(.ref a1)] h0 (Q66_length Z a1 h0 n0) := by
  have W := @own_W _ _ hw
  refine own_mk (plainFor_of_name pn_206) ?_
  intro p e s m below meth c s₁ hZ hx hby hml hown hnm hret hlk X0 e0
  have N0 := Fr.nil n0
  obtain ⟨T1, X1, e1, st1⟩ := getF X0 hx hZ hown (host := "") (Or.inl (W 107 rfl)) Via.refl e0 F_0 (g := (mkF m 1 #[rv a1] [(.ref a1)])) rfl rfl (hb hby d_348)
  refine ⟨T1, some (.int (4 : Int32)), _, _, _, X1, by decide, by decide, nofun, ?_, fun fs hr => castTop (ef_44 m a1) ?_⟩
  · show Q66_length Z a1 h0 n0 _ T1.heap _
    rw [e1]
    exact ⟨rfl, N0, rfl⟩
  · show SS p e below s₁ m 0 #[rv a1] [] _
    refine XS.aloadN X0.here hx rfl (hb hby d_347) rfl rfl ?_
    refine st1 _ ?_
    exact retI X1 hx hret (hb hby d_349) hr
def Q67_length (Z : State) (a1 : Addr) (h0 : Heap) (n0 : Nat) (v : Option Value) (h : Heap) (L : List Loc) : Prop := v = some (.int (4 : Int32)) ∧ Fr n0 L ∧ h = h0
theorem rm67_length (l : Launch) (Z : State) (a0 : Array Value) (hw : HW Z a0) (a1 : Addr) (h0 : Heap) (n0 : Nat) (O0 : Old Z n0 h0) (F_0 : FA43 Z h0 a1 (.int (4 : Int32))) (F_1 : EA47 Z h0 a1) :
    Met l Z [] MY23 jdk_67_method_93_code 1 (some .int) ({ frames := 1, cells := 0, slots := 0, locals := 12 } : Room) #[(.ref a1)] h0 (Q67_length Z a1 h0 n0) := by
  have W := @own_W _ _ hw
  refine own_mk (plainFor_of_name pn_209) ?_
  intro p e s m below meth c s₁ hZ hx hby hml hown hnm hret hlk X0 e0
  have N0 := Fr.nil n0
  obtain ⟨_, _, ⟨T1, L1, k1, n1⟩, -, X1, ⟨Lc1, hQ1, l1, y1, z1⟩, st1⟩ := superBack X0 hx hZ (y := MY22) hown (W 158 rfl) (own_same (y := MY22) (by decide) (W 154 rfl) (own_nf (args := a0) (y := MY15) rfl (W 112 rfl))) (W 154 rfl) (W 94 rfl) (by decide) (backOf (W := 0) (rm66_length l Z a0 hw a1 h0 n0 O0 (F_0)) hZ (W 159 rfl) (W 79 rfl) (by decide) (by decide)) e0 (Ins.self F_1) (g := (mkF m 1 #[rv a1] [(.ref a1)])) rfl (by rw [hml]; rfl) (W 159 rfl) (argsL := []) (rest := []) (lenOf pd_234 rfl) rfl (by show 2 * 0 + _ ≤ _; exact Nat.le_of_eq rfl) (hb hby d_346) (fun _ _ => ⟨rfl, e0, (by decide : 0 + 0 ≤ _), (by decide : 0 + 0 ≤ _)⟩)
  dsimp only [Pt.U, Pt.locs, Pt.cells, Pt.slots] at X1 l1 y1 z1 st1 hQ1
  subst l1 y1 z1
  obtain ⟨rfl, N1q, K1⟩ := hQ1
  have N2 := Fr.app N0 N1q
  refine ⟨T1, some (.int (4 : Int32)), _, _, _, X1, by decide, by decide, nofun, ?_, fun fs hr => castTop (ef_44 m a1) ?_⟩
  · show Q67_length Z a1 h0 n0 _ T1.heap _
    rw [K1]
    exact ⟨rfl, N2, rfl⟩
  · show SS p e below s₁ m 0 #[rv a1] [] _
    refine XS.aloadN X0.here hx rfl (hb hby d_345) rfl rfl ?_
    refine st1.trans ?_
    exact retI X1 hx hret (hb hby d_350) hr
theorem ef_478 (m : MethodId)  : entryFrame m #[(.int (16 : Int32)), (.int (4 : Int32))] 2 = mkF m 0 #[iv (16 : Int32), iv (4 : Int32)] [] := by first | (simp [entryFrame, mkF, argsToLocals, Value.category]; done) | rfl
def Q68_min (Z : State)  (h0 : Heap) (n0 : Nat) (v : Option Value) (h : Heap) (L : List Loc) : Prop := v = some (.int (4 : Int32)) ∧ Fr n0 L ∧ h = h0
theorem rm68_min (l : Launch) (Z : State) (a0 : Array Value) (hw : HW Z a0)  (h0 : Heap) (n0 : Nat) (O0 : Old Z n0 h0)  :
    Met l Z [] MY26 jdk_29_method_69_code 2 (some .int) ({ frames := 0, cells := 0, slots := 0, locals := 0 } : Room) #[(.int (16 : Int32)), (.int (4 : Int32))] h0 (Q68_min Z  h0 n0) := by
  have W := @own_W _ _ hw
  refine own_mk (Jvm.Free.JP.mathPlain rfl (by decide +kernel)) ?_
  intro p e s m below meth c s₁ hZ hx hby hml hown hnm hret hlk X0 e0
  have N0 := Fr.nil n0
  refine ⟨s₁, some (.int (4 : Int32)), _, _, _, X0, by decide, by decide, nofun, ?_, fun fs hr => castTop (ef_478 m ) ?_⟩
  · show Q68_min Z  h0 n0 _ s₁.heap _
    rw [e0]
    exact ⟨rfl, N0, rfl⟩
  · show SS p e below s₁ m 0 #[iv (16 : Int32), iv (4 : Int32)] [] _
    refine XS.iloadN X0.here hx rfl (hb hby d_408) rfl ?_
    refine XS.iloadN X0.here hx rfl (hb hby d_409) rfl ?_
    refine XS.icmpYes X0.here hx rfl (pc0 := 2) (pc' := 9) rfl (hb hby d_410) rfl (tlt (by decide : (4 : Int32) < (16 : Int32))).2.2.1 (by decide) (by decide) ?_
    refine XS.iloadN X0.here hx rfl (hb hby d_411) rfl ?_
    exact retI X0 hx hret (hb hby d_412) hr
theorem ef_479 (m : MethodId) (a1 : Addr) : entryFrame m #[(.ref a1), o0, (.int (4 : Int32))] 5 = mkF m 0 #[rv a1, .val o0, iv (4 : Int32), .unset, .unset] [] := by first | (simp [entryFrame, mkF, argsToLocals, Value.category]; done) | rfl
def Q69_copyOfRangeByte (Z : State) (a1 : Addr) (k2 : ClassId) (p3 : Int32) (p4 : Int32) (h0 : Heap) (n0 : Nat) (v : Option Value) (h : Heap) (L : List Loc) : Prop := ∃ (b3 : Addr) (k3 : ClassId), v = some (.ref b3) ∧ Fr n0 L ∧ Keep h0 h [] ∧ h0.size ≤ b3 ∧ Arv Z h b3 k3 .byte (4 : Int32) [(.int p3), (.int (58 : Int32)), (.int (32 : Int32)), (.int p4)] o0 ∧ EA46 Z h b3
theorem rm69_copyOfRangeByte (l : Launch) (Z : State) (a0 : Array Value) (hw : HW Z a0) (a1 : Addr) (k2 : ClassId) (p3 : Int32) (p4 : Int32) (h0 : Heap) (n0 : Nat) (O0 : Old Z n0 h0) (F_0 : Arv Z h0 a1 k2 .byte (16 : Int32) [(.int p3), (.int (58 : Int32)), (.int (32 : Int32)), (.int p4), o0, o0, o0, o0, o0, o0, o0, o0, o0, o0, o0, o0] o0) :
    Met l Z [] MY27 jdk_65_method_133_code 5 (some (.array .byte)) ({ frames := 1, cells := 1, slots := 4, locals := 27 } : Room) #[(.ref a1), o0, (.int (4 : Int32))] h0 (Q69_copyOfRangeByte Z a1 k2 p3 p4 h0 n0) := by
  have W := @own_W _ _ hw
  refine own_mk (plainFor_of_name pn_389) ?_
  intro p e s m below meth c s₁ hZ hx hby hml hown hnm hret hlk X0 e0
  have N0 := Fr.nil n0
  obtain ⟨_, T1, L1, X1, hQ1, st1⟩ := own_cs X0 hx hZ hown hml (W 172 rfl) (W 173 rfl) (W 167 rfl) (W 174 rfl) (rm46_checkLength l Z a0 hw (0 : Int32) (4 : Int32) h0 n0 O0 ((by decide : ¬ ((4 : Int32) < (0 : Int32))))) e0 (hb hby d_383) 0 #[rv a1, .val o0, iv (4 : Int32), .unset, .unset] [o0, (.int (4 : Int32))] [] pd_390
  obtain ⟨rfl, N1q, K1⟩ := hQ1
  have N2 := Fr.app N0 N1q
  obtain ⟨T3, h3, k3, X3, e3, E3, A3, B3, st3⟩ := newPE X1 hx hZ (W 20 rfl) K1 (g := (mkF m 10 #[rv a1, .val o0, iv (4 : Int32), iv (4 : Int32), .unset] [(.int (4 : Int32))])) rfl (hb hby d_396) rfl (by decide) (cap := 4) (by decide) (by decide) (by decide) (by decide) (ad := "[B") rfl
  obtain ⟨b3, g3⟩ : ∃ z, z = h0.size := ⟨_, rfl⟩
  rw [← g3] at A3 B3 st3
  have O4 := O0.ext E3
  have K5 : Keep h0 h3 [] := Keep.ext (Keep.refl h0 []) E3
  have v6 : Arv Z h3 b3 k3 .byte (4 : Int32) [o0, o0, o0, o0] o0 := (Arv.new A3 (by decide)).pad (pad_rep [] o0 4)
  have f8 := (F_0.ext E3)
  obtain ⟨c7, A7, q7, S7, N7, H7, G7⟩ := id f8
  obtain ⟨_, T9, L9, X9, hQ9, st9⟩ := own_cs X3 hx hZ hown hml (W 175 rfl) (W 176 rfl) (W 177 rfl) (W 178 rfl) (rm68_min l Z a0 hw  h3 n0 O4 ) e3 (hb hby d_407) 4 #[rv a1, .val o0, iv (4 : Int32), iv (4 : Int32), rv b3] [(.int (16 : Int32)), (.int (4 : Int32))] [o0, (.ref b3), o0, (.ref a1)] pd_414
  obtain ⟨rfl, N9q, K9⟩ := hQ9
  have N10 := Fr.app N2 N9q
  have g12 : n0 ≤ b3 := Nat.le_trans (Nat.le_trans (Nat.le_of_eq O0.1.symm) O0.2.1) (Nat.le_of_eq g3.symm)
  obtain ⟨T11, h11, Lc11, X11, e11, N11, K11, V11, st11⟩ := cpA X9 hx hZ hown (W 179 rfl) (W 133 rfl) (W 131 rfl) (W 132 rfl) K9 f8 v6 (Or.inl ⟨rfl, rfl⟩) (sp := (0 : Int32)) (dp := (0 : Int32)) (nn := (4 : Int32)) (by decide) (by decide) (by decide) (by decide) (by decide) (us := [(.int p3), (.int (58 : Int32)), (.int (32 : Int32)), (.int p4)]) rfl (Nat.le_of_ble_eq_true rfl) N10 g12 (g := (mkF m 27 #[rv a1, .val o0, iv (4 : Int32), iv (4 : Int32), rv b3] [(.int (4 : Int32)), o0, (.ref b3), o0, (.ref a1)])) rfl (by rw [hml]; rfl) rfl (hb hby d_415) (by decide) (W := 0) (by show 2 * 0 + _ ≤ _; exact Nat.le_of_eq rfl) (by decide)
  have O13 := O4.keep K11 (allS g12 all0)
  have K14 : Keep h0 h11 [] := Keep.trans K5 K11 (allS (Or.inr (Nat.le_of_eq g3.symm)) all0)
  have v15 : Arv Z h11 b3 k3 .byte (4 : Int32) [(.int p3), (.int (58 : Int32)), (.int (32 : Int32)), (.int p4)] o0 := V11
  have f16 := (B3.keep K11)
  refine ⟨T11, some (.ref b3), _, _, _, X11, by decide, by decide, nofun, ?_, fun fs hr => castTop (ef_479 m a1) ?_⟩
  · show Q69_copyOfRangeByte Z a1 k2 p3 p4 h0 n0 _ T11.heap _
    rw [e11]
    exact ⟨b3, k3, rfl, N11, K14, (Nat.le_of_eq g3.symm), v15, f16⟩
  · show SS p e below s₁ m 0 #[rv a1, .val o0, iv (4 : Int32), .unset, .unset] [] _
    refine XS.iloadN X0.here hx rfl (hb hby d_381) rfl ?_
    refine XS.iloadN X0.here hx rfl (hb hby d_382) rfl ?_
    refine st1 _ ?_
    refine XS.iloadN X1.here hx rfl (hb hby d_391) rfl ?_
    refine XS.iloadN X1.here hx rfl (hb hby d_392) rfl ?_
    refine XS.isub X1.here hx rfl (hb hby d_393) rfl ?_
    show SS p e below T1 m 8 #[rv a1, .val o0, iv (4 : Int32), .unset, .unset] [(.int (4 : Int32))] _
    refine XS.istoreN X1.here hx rfl (hb hby d_394) rfl (l' := #[rv a1, .val o0, iv (4 : Int32), iv (4 : Int32), .unset]) rfl ?_
    refine XS.iloadN X1.here hx rfl (hb hby d_395) rfl ?_
    refine st3 _ ?_
    refine XS.astore X3.here hx rfl (hb hby d_397) rfl rfl (l' := #[rv a1, .val o0, iv (4 : Int32), iv (4 : Int32), rv b3]) rfl ?_
    refine XS.aloadN X3.here hx rfl (hb hby d_398) rfl rfl ?_
    refine XS.iloadN X3.here hx rfl (hb hby d_399) rfl ?_
    refine XS.aload X3.here hx rfl (hb hby d_400) rfl rfl ?_
    refine XS.iconst X3.here hx rfl (hb hby d_401) ?_
    refine XS.aloadN X3.here hx rfl (hb hby d_402) rfl rfl ?_
    refine X3.arraylength hx (by rw [e3]; exact A7.1) (State.isArrayOf_alike hZ.alike A7.2.1) (g := (mkF m 20 #[rv a1, .val o0, iv (4 : Int32), iv (4 : Int32), rv b3] [(.ref a1), o0, (.ref b3), o0, (.ref a1)])) rfl rfl (hb hby d_403) _ ?_
    rw [len_of S7 N7]
    show SS p e below T3 m 21 #[rv a1, .val o0, iv (4 : Int32), iv (4 : Int32), rv b3] [(.int (16 : Int32)), o0, (.ref b3), o0, (.ref a1)] _
    refine XS.iloadN X3.here hx rfl (hb hby d_404) rfl ?_
    refine XS.isub X3.here hx rfl (hb hby d_405) rfl ?_
    show SS p e below T3 m 23 #[rv a1, .val o0, iv (4 : Int32), iv (4 : Int32), rv b3] [(.int (16 : Int32)), o0, (.ref b3), o0, (.ref a1)] _
    refine XS.iloadN X3.here hx rfl (hb hby d_406) rfl ?_
    refine st9 _ ?_
    refine st11 _ ?_
    refine XS.aload X11.here hx rfl (hb hby d_416) rfl rfl ?_
    exact retOut X11 hx hret rfl (Or.inr (Or.inr (Or.inr (Or.inr ⟨rfl, rfl, rfl⟩)))) (hb hby d_417) hr
theorem ef_480 (m : MethodId) (a1 : Addr) : entryFrame m #[(.ref a1), o0, (.int (4 : Int32))] 3 = mkF m 0 #[rv a1, .val o0, iv (4 : Int32)] [] := by first | (simp [entryFrame, mkF, argsToLocals, Value.category]; done) | rfl
def Q70_copyOfRange (Z : State) (a1 : Addr) (k2 : ClassId) (p3 : Int32) (p4 : Int32) (h0 : Heap) (n0 : Nat) (v : Option Value) (h : Heap) (L : List Loc) : Prop := ∃ (b2_0 : Addr) (k2_0 : ClassId), v = some (.ref b2_0) ∧ Fr n0 L ∧ Keep h0 h [] ∧ h0.size ≤ b2_0 ∧ Arv Z h b2_0 k2_0 .byte (4 : Int32) [(.int p3), (.int (58 : Int32)), (.int (32 : Int32)), (.int p4)] o0 ∧ EA46 Z h b2_0
theorem rm70_copyOfRange (l : Launch) (Z : State) (a0 : Array Value) (hw : HW Z a0) (a1 : Addr) (k2 : ClassId) (p3 : Int32) (p4 : Int32) (h0 : Heap) (n0 : Nat) (O0 : Old Z n0 h0) (F_0 : Arv Z h0 a1 k2 .byte (16 : Int32) [(.int p3), (.int (58 : Int32)), (.int (32 : Int32)), (.int p4), o0, o0, o0, o0, o0, o0, o0, o0, o0, o0, o0, o0] o0) :
    Met l Z [] MY28 jdk_65_method_132_code 3 (some (.array .byte)) ({ frames := 2, cells := 1, slots := 4, locals := 43 } : Room) #[(.ref a1), o0, (.int (4 : Int32))] h0 (Q70_copyOfRange Z a1 k2 p3 p4 h0 n0) := by
  have W := @own_W _ _ hw
  refine own_mk (plainFor_of_name pn_389) ?_
  intro p e s m below meth c s₁ hZ hx hby hml hown hnm hret hlk X0 e0
  have N0 := Fr.nil n0
  obtain ⟨c1, A1, q1, S1, N1, H1, G1⟩ := id F_0
  obtain ⟨_, T2, L2, X2, hQ2, st2⟩ := own_cs X0 hx hZ hown hml (W 169 rfl) (W 170 rfl) (W 167 rfl) (W 171 rfl) (rm69_copyOfRangeByte l Z a0 hw a1 k2 p3 p4 h0 n0 O0 (F_0)) e0 (hb hby d_380) 0 #[rv a1, .val o0, iv (4 : Int32)] [(.ref a1), o0, (.int (4 : Int32))] [] pd_419
  obtain ⟨b2_0, k2_0, rfl, N2q, K2, gb2_0, F2_0, F2_1⟩ := hQ2
  have N3 := Fr.app N0 N2q
  have O4 := O0.keep K2 all0
  have K5 : Keep h0 T2.heap [] := Keep.trans (Keep.refl h0 []) K2 all0
  refine ⟨T2, some (.ref b2_0), _, _, _, X2, by decide, by decide, nofun, ?_, fun fs hr => castTop (ef_480 m a1) ?_⟩
  · show Q70_copyOfRange Z a1 k2 p3 p4 h0 n0 _ T2.heap _
    exact ⟨b2_0, k2_0, rfl, N3, K5, gb2_0, F2_0, F2_1⟩
  · show SS p e below s₁ m 0 #[rv a1, .val o0, iv (4 : Int32)] [] _
    refine XS.iloadN X0.here hx rfl (hb hby d_371) rfl ?_
    refine XS.ifNo X0.here hx rfl (hb hby d_372) rfl ((if0 _ _).trans (teq (by decide : (0 : Int32) = (0 : Int32))).2) ?_
    refine XS.iloadN X0.here hx rfl (hb hby d_373) rfl ?_
    refine XS.aloadN X0.here hx rfl (hb hby d_374) rfl rfl ?_
    refine X0.arraylength hx (by rw [e0]; exact A1.1) (State.isArrayOf_alike hZ.alike A1.2.1) (g := (mkF m 6 #[rv a1, .val o0, iv (4 : Int32)] [(.ref a1), (.int (4 : Int32))])) rfl rfl (hb hby d_375) _ ?_
    rw [len_of S1 N1]
    refine XS.icmpNo X0.here hx rfl (hb hby d_376) rfl (feq (by decide : ¬ ((4 : Int32) = (16 : Int32)))).1 ?_
    refine XS.aloadN X0.here hx rfl (hb hby d_377) rfl rfl ?_
    refine XS.iloadN X0.here hx rfl (hb hby d_378) rfl ?_
    refine XS.iloadN X0.here hx rfl (hb hby d_379) rfl ?_
    refine st2 _ ?_
    show SS p e below T2 m 16 #[rv a1, .val o0, iv (4 : Int32)] [(.ref b2_0)] _
    exact retOut X2 hx hret rfl (Or.inr (Or.inr (Or.inr (Or.inr ⟨rfl, rfl, rfl⟩)))) (hb hby d_420) hr
def Q71_init (Z : State) (a1 : Addr) (a2 : Addr) (a3 : Addr) (p4 : Int32) (k5 : ClassId) (p6 : Int32) (p7 : Int32) (h0 : Heap) (n0 : Nat) (v : Option Value) (h : Heap) (L : List Loc) : Prop := ∃ (b13_0 : Addr) (k13_0 : ClassId), v = none ∧ Fr n0 L ∧ Keep h0 h [a1] ∧ h0.size ≤ b13_0 ∧ Arv Z h b13_0 k13_0 .byte (4 : Int32) [(.int p6), (.int (58 : Int32)), (.int (32 : Int32)), (.int p7)] o0 ∧ EA46 Z h b13_0 ∧ FA38 Z h a1 o0 ∧ FA37 Z h a1 (.ref b13_0)
theorem rm71_init (l : Launch) (Z : State) (a0 : Array Value) (hw : HW Z a0) (a1 : Addr) (a2 : Addr) (a3 : Addr) (p4 : Int32) (k5 : ClassId) (p6 : Int32) (p7 : Int32) (h0 : Heap) (n0 : Nat) (O0 : Old Z n0 h0) (F_0 : EA47 Z h0 a2) (F_1 : FA41 Z h0 a2 (.ref a3)) (F_2 : FA43 Z h0 a2 (.int (4 : Int32))) (S_3 : SA48 Z Z.heap (.int p4)) (hc_4 : ¬ (p4 = (0 : Int32))) (F_5 : FA42 Z h0 a2 o0) (F_6 : EA44 Z h0 a1) (F_7 : FA38 Z h0 a1 o0) (g_8 : n0 ≤ a1) (F_9 : Arv Z h0 a3 k5 .byte (16 : Int32) [(.int p6), (.int (58 : Int32)), (.int (32 : Int32)), (.int p7), o0, o0, o0, o0, o0, o0, o0, o0, o0, o0, o0, o0] o0) (ne_10 : a1 ≠ a3) (F_11 : FA37 Z h0 a1 .null) (lt_12 : a1 < h0.size) :
    Met l Z [] MY29 jdk_42_method_150_code 5 none ({ frames := 3, cells := 1, slots := 4, locals := 58 } : Room) #[(.ref a1), (.ref a2), .null] h0 (Q71_init Z a1 a2 a3 p4 k5 p6 p7 h0 n0) := by
  have W := @own_W _ _ hw
  refine own_mk (plainFor_of_name pn_30) ?_
  intro p e s m below meth c s₁ hZ hx hby hml hown hnm hret hlk X0 e0
  have N0 := Fr.nil n0
  obtain ⟨T1, X1, e1, st1⟩ := initO X0 hx hZ hown (W 16 rfl) (W 17 rfl) (W 18 rfl) e0 (g := (mkF m 1 #[rv a1, rv a2, .val .null, .unset, .unset] [(.ref a1)])) rfl (by rw [hml]; rfl) rfl (hb hby d_335) (by decide) (W := 0) (by show 2 * 0 + _ ≤ _; exact Nat.le_of_eq rfl) (by decide)
  obtain ⟨_, T2, L2, X2, hQ2, st2⟩ := own_cv X1 hx hZ hown hml (W 147 rfl) (W 148 rfl) (notFace_of_selects (W 150 rfl)) (W 150 rfl) (W 149 rfl) (W 79 rfl) (W 151 rfl) (rm42_getValue l Z a0 hw a2 a3 h0 n0 O0 (F_1)) e1 F_0 (hb hby d_337) 0 #[rv a1, rv a2, .val .null, .unset, .unset] [] [] pd_341
  obtain ⟨rfl, N2q, K2⟩ := hQ2
  have N3 := Fr.app N0 N2q
  obtain ⟨_, T4, L4, X4, hQ4, st4⟩ := own_cv X2 hx hZ hown hml (W 152 rfl) (W 153 rfl) (own_nf (args := a0) (y := MY15) rfl (id (W 112 rfl))) (W 155 rfl) (W 156 rfl) (W 71 rfl) (W 157 rfl) (rm67_length l Z a0 hw a2 h0 n0 O0 (F_2) (F_0)) K2 F_0 (hb hby d_344) 0 #[rv a1, rv a2, .val .null, rv a3, .unset] [] [] pd_234
  obtain ⟨rfl, N4q, K4⟩ := hQ4
  have N5 := Fr.app N3 N4q
  obtain ⟨_, T6, L6, X6, hQ6, st6⟩ := own_cv X4 hx hZ hown hml (W 160 rfl) (W 161 rfl) (notFace_of_selects (W 163 rfl)) (W 163 rfl) (W 162 rfl) (W 79 rfl) (W 164 rfl) (rm45_isLatin1 l Z a0 hw a2 p4 h0 n0 O0 (S_3) (hc_4) (F_5)) K4 F_0 (hb hby d_353) 0 #[rv a1, rv a2, .val .null, rv a3, iv (4 : Int32)] [] [] pd_67
  obtain ⟨rfl, N6q, K6⟩ := hQ6
  have N7 := Fr.app N5 N6q
  obtain ⟨T8, h8, X8, e8, W8, st8⟩ := putFN X6 hx hZ hown (W 26 rfl) Via.refl K6 F_7 F_6 (Or.inr ⟨(W 22 rfl), rfl, hnm⟩) (W 6 rfl) (ty := .byte) (v' := o0) (by decide) rfl rfl (g := (mkF m 24 #[rv a1, rv a2, .val .null, rv a3, iv (4 : Int32)] [o0, (.ref a1)])) rfl rfl (hb hby d_365)
  have O9 := O0.wr W8 g_8
  have K10 : Keep h0 h8 [a1] := Keep.wr (Keep.refl h0 [a1]) W8 (Or.inl (List.mem_of_getElem? (i := 0) rfl))
  have f11 : FA38 Z h8 a1 o0 := (F_7.same W8)
  have N12 := Fr.snoc X8 N7 g_8
  have f14 := (F_9.other W8 (Ne.symm ne_10))
  obtain ⟨_, T13, L13, X13, hQ13, st13⟩ := own_cs X8 hx hZ hown hml (W 165 rfl) (W 166 rfl) (W 167 rfl) (W 168 rfl) (rm70_copyOfRange l Z a0 hw a3 k5 p6 p7 h8 n0 O9 (f14)) e8 (hb hby d_370) 1 #[rv a1, rv a2, .val .null, rv a3, iv (4 : Int32)] [(.ref a3), o0, (.int (4 : Int32))] [(.ref a1)] pd_419
  obtain ⟨b13_0, k13_0, rfl, N13q, K13, gb13_0, F13_0, F13_1⟩ := hQ13
  have N15 := Fr.app N12 N13q
  have O16 := O9.keep K13 all0
  have K17 : Keep h0 T13.heap [a1] := Keep.trans K10 K13 all0
  have f19 := ((F_11.other W8 (Or.inr (slot_ne (Or.inr (W 21 rfl)) (Or.inr (W 22 rfl)) (by decide) (t := (.array .byte)) (t' := .byte) (by decide) (by decide)))).keep K13 nin0)
  have f20 := ((F_6.wr W8).keep K13)
  obtain ⟨T18, h18, X18, e18, W18, st18⟩ := putF X13 hx hZ hown (host := "") (Or.inl (W 25 rfl)) Via.refl rfl f19 f20 (Or.inr ⟨(W 21 rfl), rfl, hnm⟩) (W 6 rfl) (ty := (.array .byte)) (by decide) rfl rfl (g := (mkF m 35 #[rv a1, rv a2, .val .null, rv a3, iv (4 : Int32)] [(.ref b13_0), (.ref a1)])) rfl rfl (hb hby d_422)
  have O21 := O16.wr W18 g_8
  have K22 : Keep h0 h18 [a1] := Keep.wr K17 W18 (Or.inl (List.mem_of_getElem? (i := 0) rfl))
  have f23 : FA37 Z h18 a1 (.ref b13_0) := (f19.same W18)
  have N24 := Fr.snoc X18 N15 g_8
  have z25 : h0.size ≤ h8.size := (Nat.le_of_eq W8.size.symm)
  have f26 := (F13_0.other W18 (Ne.symm (Nat.ne_of_lt (Nat.lt_of_lt_of_le (Nat.lt_of_lt_of_le lt_12 z25) gb13_0))))
  have f27 := (F13_1.wr W18)
  have f28 := ((f11.keep K13 nin0).other W18 (Or.inr (slot_ne (Or.inr (W 22 rfl)) (Or.inr (W 21 rfl)) (by decide) (t := .byte) (t' := (.array .byte)) (by decide) (by decide))))
  refine ⟨T18, none, _, _, _, X18, by decide, by decide, (fun _ => rfl), ?_, fun fs hr => castTop (ef_425 m a1 a2) ?_⟩
  · show Q71_init Z a1 a2 a3 p4 k5 p6 p7 h0 n0 _ T18.heap _
    rw [e18]
    exact ⟨b13_0, k13_0, rfl, N24, K22, (Nat.le_trans z25 gb13_0), f26, f27, f28, f23⟩
  · show SS p e below s₁ m 0 #[rv a1, rv a2, .val .null, .unset, .unset] [] _
    refine XS.aloadN X0.here hx rfl (hb hby d_334) rfl rfl ?_
    refine st1 _ ?_
    refine XS.aloadN X1.here hx rfl (hb hby d_336) rfl rfl ?_
    refine st2 _ ?_
    refine XS.astoreN X2.here hx rfl (hb hby d_342) rfl rfl (l' := #[rv a1, rv a2, .val .null, rv a3, .unset]) rfl ?_
    refine XS.aloadN X2.here hx rfl (hb hby d_343) rfl rfl ?_
    refine st4 _ ?_
    refine XS.istore X4.here hx rfl (hb hby d_351) rfl (l' := #[rv a1, rv a2, .val .null, rv a3, iv (4 : Int32)]) rfl ?_
    refine XS.aloadN X4.here hx rfl (hb hby d_352) rfl rfl ?_
    refine st6 _ ?_
    show SS p e below T6 m 19 #[rv a1, rv a2, .val .null, rv a3, iv (4 : Int32)] [(.int (1 : Int32))] _
    refine XS.ifNo X6.here hx rfl (hb hby d_362) rfl ((if0 _ _).trans (feq (by decide : ¬ ((1 : Int32) = (0 : Int32)))).1) ?_
    refine XS.aloadN X6.here hx rfl (hb hby d_363) rfl rfl ?_
    refine XS.iconst X6.here hx rfl (hb hby d_364) ?_
    refine st8 _ ?_
    refine XS.aloadN X8.here hx rfl (hb hby d_366) rfl rfl ?_
    refine XS.aloadN X8.here hx rfl (hb hby d_367) rfl rfl ?_
    refine XS.iconst X8.here hx rfl (hb hby d_368) ?_
    refine XS.iload X8.here hx rfl (hb hby d_369) rfl ?_
    refine st13 _ ?_
    refine st18 _ ?_
    show SS p e below T18 m 38 #[rv a1, rv a2, .val .null, rv a3, iv (4 : Int32)] [] _
    refine XS.goto X18.here hx rfl (pc0 := 38) (pc' := 97) rfl (hb hby d_423) (by decide) (by decide) ?_
    exact X18.returnOut hx hret (hb hby d_424) hr
def Q72_init (Z : State) (a1 : Addr) (a2 : Addr) (a3 : Addr) (p4 : Int32) (k5 : ClassId) (p6 : Int32) (p7 : Int32) (h0 : Heap) (n0 : Nat) (v : Option Value) (h : Heap) (L : List Loc) : Prop := ∃ (b1_0 : Addr) (k1_0 : ClassId), v = none ∧ Fr n0 L ∧ Keep h0 h [a1] ∧ h0.size ≤ b1_0 ∧ Arv Z h b1_0 k1_0 .byte (4 : Int32) [(.int p6), (.int (58 : Int32)), (.int (32 : Int32)), (.int p7)] o0 ∧ EA46 Z h b1_0 ∧ FA38 Z h a1 o0 ∧ FA37 Z h a1 (.ref b1_0)
theorem rm72_init (l : Launch) (Z : State) (a0 : Array Value) (hw : HW Z a0) (a1 : Addr) (a2 : Addr) (a3 : Addr) (p4 : Int32) (k5 : ClassId) (p6 : Int32) (p7 : Int32) (h0 : Heap) (n0 : Nat) (O0 : Old Z n0 h0) (F_0 : EA47 Z h0 a2) (F_1 : FA41 Z h0 a2 (.ref a3)) (F_2 : FA43 Z h0 a2 (.int (4 : Int32))) (S_3 : SA48 Z Z.heap (.int p4)) (hc_4 : ¬ (p4 = (0 : Int32))) (F_5 : FA42 Z h0 a2 o0) (F_6 : EA44 Z h0 a1) (F_7 : FA38 Z h0 a1 o0) (F_8 : Arv Z h0 a3 k5 .byte (16 : Int32) [(.int p6), (.int (58 : Int32)), (.int (32 : Int32)), (.int p7), o0, o0, o0, o0, o0, o0, o0, o0, o0, o0, o0, o0] o0) (F_9 : FA37 Z h0 a1 .null) (g_10 : n0 ≤ a1) (ne_11 : a1 ≠ a3) (lt_12 : a1 < h0.size) :
    Met l Z [] MY30 jdk_42_method_53_code 2 none ({ frames := 4, cells := 1, slots := 4, locals := 74 } : Room) #[(.ref a1), (.ref a2)] h0 (Q72_init Z a1 a2 a3 p4 k5 p6 p7 h0 n0) := by
  have W := @own_W _ _ hw
  refine own_mk (plainFor_of_name pn_30) ?_
  intro p e s m below meth c s₁ hZ hx hby hml hown hnm hret hlk X0 e0
  have N0 := Fr.nil n0
  obtain ⟨_, T1, L1, X1, hQ1, st1⟩ := own_cp X0 hx hZ hown hml rfl (W 144 rfl) (W 145 rfl) (W 7 rfl) (W 146 rfl) (rm71_init l Z a0 hw a1 a2 a3 p4 k5 p6 p7 h0 n0 O0 (F_0) (F_1) (F_2) (S_3) (hc_4) (F_5) (F_6) (F_7) (g_10) (F_8) (ne_11) (F_9) (lt_12)) e0 (hb hby d_333) 0 #[rv a1, rv a2] a1 [(.ref a2), .null] [] pd_426
  obtain ⟨b1_0, k1_0, rfl, N1q, K1, gb1_0, F1_0, F1_1, F1_2, F1_3⟩ := hQ1
  have N2 := Fr.app N0 N1q
  have O3 := O0.keep K1 (allS g_10 all0)
  have K4 : Keep h0 T1.heap [a1] := Keep.trans (Keep.refl h0 [a1]) K1 (allS (Or.inl (List.mem_of_getElem? (i := 0) rfl)) all0)
  refine ⟨T1, none, _, _, _, X1, by decide, by decide, (fun _ => rfl), ?_, fun fs hr => castTop (ef_33 m a1 a2) ?_⟩
  · show Q72_init Z a1 a2 a3 p4 k5 p6 p7 h0 n0 _ T1.heap _
    exact ⟨b1_0, k1_0, rfl, N2, K4, gb1_0, F1_0, F1_1, F1_2, F1_3⟩
  · show SS p e below s₁ m 0 #[rv a1, rv a2] [] _
    refine XS.aloadN X0.here hx rfl (hb hby d_330) rfl rfl ?_
    refine XS.aloadN X0.here hx rfl (hb hby d_331) rfl rfl ?_
    refine XS.aconstNull X0.here hx rfl (hb hby d_332) ?_
    refine st1 _ ?_
    exact X1.returnOut hx hret (hb hby d_427) hr
def Q73_toString (Z : State) (a1 : Addr) (a2 : Addr) (p3 : Int32) (k4 : ClassId) (p5 : Int32) (p6 : Int32) (h0 : Heap) (n0 : Nat) (v : Option Value) (h : Heap) (L : List Loc) : Prop := ∃ (b1 : Addr) (b4_0 : Addr) (k4_0 : ClassId), v = some (.ref b1) ∧ Fr n0 L ∧ Keep h0 h [] ∧ h0.size ≤ b1 ∧ h0.size ≤ b4_0 ∧ EA44 Z h b1 ∧ FA37 Z h b1 (.ref b4_0) ∧ FA38 Z h b1 o0 ∧ Arv Z h b4_0 k4_0 .byte (4 : Int32) [(.int p5), (.int (58 : Int32)), (.int (32 : Int32)), (.int p6)] o0 ∧ EA46 Z h b4_0
theorem rm73_toString (l : Launch) (Z : State) (a0 : Array Value) (hw : HW Z a0) (a1 : Addr) (a2 : Addr) (p3 : Int32) (k4 : ClassId) (p5 : Int32) (p6 : Int32) (h0 : Heap) (n0 : Nat) (O0 : Old Z n0 h0) (F_0 : EA47 Z h0 a1) (F_1 : FA41 Z h0 a1 (.ref a2)) (F_2 : FA43 Z h0 a1 (.int (4 : Int32))) (S_3 : SA48 Z Z.heap (.int p3)) (hc_4 : ¬ (p3 = (0 : Int32))) (F_5 : FA42 Z h0 a1 o0) (F_6 : Arv Z h0 a2 k4 .byte (16 : Int32) [(.int p5), (.int (58 : Int32)), (.int (32 : Int32)), (.int p6), o0, o0, o0, o0, o0, o0, o0, o0, o0, o0, o0, o0] o0) (lt_7 : a2 < h0.size) :
    Met l Z [] MY31 jdk_67_method_42_code 1 (some (.object "java/lang/String")) ({ frames := 5, cells := 2, slots := 8, locals := 88 } : Room) #[(.ref a1)] h0 (Q73_toString Z a1 a2 p3 k4 p5 p6 h0 n0) := by
  have W := @own_W _ _ hw
  refine own_mk (plainFor_of_name pn_209) ?_
  intro p e s m below meth c s₁ hZ hx hby hml hown hnm hret hlk X0 e0
  have N0 := Fr.nil n0
  obtain ⟨T1, h1, X1, e1, E1, A1, D1, -, st1⟩ := newO X0 hx hZ hown (W 140 rfl) (W 6 rfl) (W 7 rfl) e0 (g := (mkF m 0 #[rv a1] [])) rfl (hb hby d_326) (by decide) (by decide)
  obtain ⟨b1, g1⟩ : ∃ z, z = h0.size := ⟨_, rfl⟩
  rw [← g1] at A1 D1 st1
  have O2 := O0.ext E1
  have K3 : Keep h0 h1 [] := Keep.ext (Keep.refl h0 []) E1
  have f5 := (F_0.ext E1)
  have f6 := (F_1.ext E1)
  have f7 := (F_2.ext E1)
  have f8 := (F_5.ext E1)
  have f9 := (F_6.ext E1)
  have g10 : n0 ≤ b1 := Nat.le_trans (Nat.le_trans (Nat.le_of_eq O0.1.symm) O0.2.1) (Nat.le_of_eq g1.symm)
  obtain ⟨_, T4, L4, X4, hQ4, st4⟩ := own_cp X1 hx hZ hown hml rfl (W 141 rfl) (W 142 rfl) (W 7 rfl) (W 143 rfl) (rm72_init l Z a0 hw b1 a1 a2 p3 k4 p5 p6 h1 n0 O2 (f5) (f6) (f7) (S_3) (hc_4) (f8) (A1) ((D1 (Or.inr (W 22 rfl)) (ty := .byte) (by decide) : FA38 Z h1 b1 o0)) (f9) ((D1 (Or.inr (W 21 rfl)) (ty := (.array .byte)) (by decide) : FA37 Z h1 b1 .null)) (g10) ((Ne.symm (Nat.ne_of_lt (Nat.lt_of_lt_of_le lt_7 (Nat.le_of_eq g1.symm))))) (A1.lt)) e1 (hb hby d_329) 1 #[rv a1] b1 [(.ref a1)] [(.ref b1)] pd_428
  obtain ⟨b4_0, k4_0, rfl, N4q, K4, gb4_0, F4_0, F4_1, F4_2, F4_3⟩ := hQ4
  have N11 := Fr.app N0 N4q
  have O12 := O2.keep K4 (allS g10 all0)
  have K13 : Keep h0 T4.heap [] := Keep.trans K3 K4 (allS (Or.inr (Nat.le_of_eq g1.symm)) all0)
  have f14 := (A1.keep K4)
  have z15 : h0.size ≤ h1.size := E1.1
  refine ⟨T4, some (.ref b1), _, _, _, X4, by decide, by decide, nofun, ?_, fun fs hr => castTop (ef_44 m a1) ?_⟩
  · show Q73_toString Z a1 a2 p3 k4 p5 p6 h0 n0 _ T4.heap _
    exact ⟨b1, b4_0, k4_0, rfl, N11, K13, (Nat.le_of_eq g1.symm), (Nat.le_trans z15 gb4_0), f14, F4_3, F4_2, F4_0, F4_1⟩
  · show SS p e below s₁ m 0 #[rv a1] [] _
    refine st1 _ ?_
    refine XS.dup X1.here hx rfl (hb hby d_327) rfl rfl ?_
    refine XS.aloadN X1.here hx rfl (hb hby d_328) rfl rfl ?_
    refine st4 _ ?_
    exact retOut X4 hx hret rfl (Or.inr (Or.inr (Or.inr (Or.inr ⟨rfl, rfl, rfl⟩)))) (hb hby d_429) hr
def Q74_toString (Z : State) (a1 : Addr) (a2 : Addr) (a3 : Addr) (k4 : ClassId) (p5 : Int32) (p6 : Int32) (a7 : Addr) (a8 : Addr) (k9 : ClassId) (p10 : Int32) (h0 : Heap) (n0 : Nat) (v : Option Value) (h : Heap) (L : List Loc) : Prop := ∃ (b68_0 : Addr) (b68_1 : Addr) (k68_0 : ClassId), v = some (.ref b68_0) ∧ Fr n0 L ∧ Keep h0 h [] ∧ h0.size ≤ b68_0 ∧ h0.size ≤ b68_1 ∧ EA44 Z h b68_0 ∧ FA37 Z h b68_0 (.ref b68_1) ∧ FA38 Z h b68_0 o0 ∧ Arv Z h b68_1 k68_0 .byte (4 : Int32) [(.int p5), (.int (58 : Int32)), (.int (32 : Int32)), (.int p10)] o0 ∧ EA46 Z h b68_1
theorem rm74_toString (l : Launch) (Z : State) (a0 : Array Value) (hw : HW Z a0) (a1 : Addr) (a2 : Addr) (a3 : Addr) (k4 : ClassId) (p5 : Int32) (p6 : Int32) (a7 : Addr) (a8 : Addr) (k9 : ClassId) (p10 : Int32) (h0 : Heap) (n0 : Nat) (O0 : Old Z n0 h0) (F_0 : FA39 Z h0 a1 (.ref a2)) (F_1 : EA44 Z h0 a2) (F_2 : FA37 Z h0 a2 (.ref a3)) (F_3 : Arv Z h0 a3 k4 .byte (1 : Int32) [(.int p5)] o0) (S_4 : SA48 Z Z.heap (.int p6)) (hc_5 : ¬ (p6 = (0 : Int32))) (lt_6 : a1 < h0.size) (F_7 : FA38 Z h0 a2 o0) (lt_8 : a2 < h0.size) (lt_9 : a3 < h0.size) (F_10 : FA40 Z h0 a1 (.ref a7)) (F_11 : EA44 Z h0 a7) (F_12 : FA37 Z h0 a7 (.ref a8)) (F_13 : Arv Z h0 a8 k9 .byte (1 : Int32) [(.int p10)] o0) (F_14 : FA38 Z h0 a7 o0) (lt_15 : a7 < h0.size) (lt_16 : a8 < h0.size) :
    MetH l Z [] MY6 prog_7_method_2_code 1 (some (.object "java/lang/String")) ({ frames := 6, cells := 6, slots := 40, locals := 100 } : Room) #[(.ref a1)] h0 consts_1 [] (Q74_toString Z a1 a2 a3 k4 p5 p6 a7 a8 k9 p10 h0 n0) := by
  have W := @own_W _ _ hw
  refine own_mkH (plainFor_of_name pn_55) ?_
  intro p e s m below meth c s₁ hZ hx hby hml hown hnm hret hlk X0 e0 H0 hsf
  have N0 := Fr.nil n0
  have C0 := CHr.refl H0
  have X1 := (show Stand p l e _ (s.setVm s.vm) m _ below meth c _ _ _ _ from X0)
  obtain ⟨T2, X2, e2, st2⟩ := getF X1 hx hZ hown (host := "") (Or.inl (W 39 rfl)) Via.refl e0 F_0 (g := (mkF m 1 #[rv a1] [(.ref a1)])) rfl rfl (hb hby d_58)
  obtain ⟨_, T3, L3, X3, hQ3, st3⟩ := own_cv X2 hx hZ hown hml (W 48 rfl) (W 49 rfl) (notFace_of_selects (W 51 rfl)) (W 51 rfl) (W 50 rfl) (W 7 rfl) (W 52 rfl) (rm21_isEmpty l Z a0 hw a2 a3 k4 p5 h0 n0 O0 (F_2) (F_3)) e2 F_1 (hb hby d_59) 0 #[rv a1] [] [] pd_67
  obtain ⟨rfl, N3q, K3⟩ := hQ3
  have N4 := Fr.app N0 N3q
  obtain ⟨T5, h5, X5, e5, E5, A5, D5, -, st5⟩ := newO X3 hx hZ hown (W 69 rfl) (W 70 rfl) (W 71 rfl) K3 (g := (mkF m 17 #[rv a1] [])) rfl (hb hby d_186) (by decide) (by decide)
  obtain ⟨b5, g5⟩ : ∃ z, z = h0.size := ⟨_, rfl⟩
  rw [← g5] at A5 D5 st5
  have c6 := CHr.ext E5 H0
  have C7 := CHr.trans C0 c6
  have O8 := O0.ext E5
  have K9 : Keep h0 h5 [] := Keep.ext (Keep.refl h0 []) E5
  have g11 : n0 ≤ b5 := Nat.le_trans (Nat.le_trans (Nat.le_of_eq O0.1.symm) O0.2.1) (Nat.le_of_eq g5.symm)
  obtain ⟨_, T10, L10, X10, hQ10, st10⟩ := own_cp X5 hx hZ hown hml rfl (W 72 rfl) (W 73 rfl) (W 71 rfl) (W 74 rfl) (rm23_init l Z a0 hw b5 p6 h5 n0 O8 (S_4) (hc_5) (A5) ((D5 (Or.inl (W 84 rfl)) (ty := (.array .byte)) (by decide) : FA41 Z h5 b5 .null)) ((D5 (Or.inl (W 86 rfl)) (ty := .byte) (by decide) : FA42 Z h5 b5 o0)) ((D5 (Or.inl (W 108 rfl)) (ty := .int) (by decide) : FA43 Z h5 b5 o0)) (g11) (A5.lt)) e5 (hb hby d_188) 1 #[rv a1] b5 [] [(.ref b5)] pd_46
  obtain ⟨b10_0, k10_0, rfl, N10q, K10, gb10_0, F10_0, F10_1, F10_2, F10_3, F10_4⟩ := hQ10
  have N12 := Fr.app N4 N10q
  have s13 := Safe.exa (EL := consts_1) hZ.alike A5 (by decide) (by decide)
  have c14 := CHr.keep K10 (sfS s13 sf0) c6.1
  have C15 := CHr.trans C7 c14
  have O16 := O8.keep K10 (allS g11 all0)
  have K17 : Keep h0 T10.heap [] := Keep.trans K9 K10 (allS (Or.inr (Nat.le_of_eq g5.symm)) all0)
  have f19 := ((F_0.ext E5).keep K10 (ninS (Nat.ne_of_lt (Nat.lt_of_lt_of_le lt_6 (Nat.le_of_eq g5.symm))) nin0))
  obtain ⟨T18, X18, e18, st18⟩ := getF X10 hx hZ hown (host := "") (Or.inl (W 39 rfl)) Via.refl rfl f19 (g := (mkF m 25 #[rv a1] [(.ref a1), (.ref b5)])) rfl rfl (hb hby d_211)
  have f21 := ((F_1.ext E5).keep K10)
  have f22 := ((F_2.ext E5).keep K10 (ninS (Nat.ne_of_lt (Nat.lt_of_lt_of_le lt_8 (Nat.le_of_eq g5.symm))) nin0))
  have f23 := ((F_3.ext E5).keep K10 (ninS (Nat.ne_of_lt (Nat.lt_of_lt_of_le lt_9 (Nat.le_of_eq g5.symm))) nin0))
  have f24 := ((F_7.ext E5).keep K10 (ninS (Nat.ne_of_lt (Nat.lt_of_lt_of_le lt_8 (Nat.le_of_eq g5.symm))) nin0))
  have f25 := (A5.keep K10)
  have z26 : h0.size ≤ h5.size := E5.1
  have g27 : n0 ≤ b10_0 := Nat.le_trans (Nat.le_trans (Nat.le_trans (Nat.le_of_eq O0.1.symm) O0.2.1) z26) gb10_0
  obtain ⟨_, T20, L20, X20, hQ20, st20⟩ := own_cv X18 hx hZ hown hml (W 87 rfl) (W 88 rfl) (notFace_of_selects (W 90 rfl)) (W 90 rfl) (W 89 rfl) (W 71 rfl) (W 91 rfl) (rm31_append l Z a0 hw b5 a2 a3 k4 p5 p6 b10_0 k10_0 T10.heap n0 O16 (f21) (f22) (f23) (S_4) (hc_5) (f24) (F10_4) (f25) (F10_2) (F10_0) (F10_3) (g27) ((Nat.ne_of_lt (Nat.lt_of_lt_of_le A5.lt gb10_0))) (g11)) e18 f25 (hb hby d_212) 0 #[rv a1] [(.ref a2)] [] pd_314
  obtain ⟨rfl, N20q, K20, F20_0, F20_1, F20_2, F20_3⟩ := hQ20
  have N28 := Fr.app N12 N20q
  have f29 := (Safe.keep K10 (sfS s13 sf0) c6.1 (Safe.new gb10_0))
  have s30 := Safe.exa (EL := consts_1) hZ.alike f25 (by decide) (by decide)
  have c31 := CHr.keep K20 (sfS s30 (sfS f29 sf0)) c14.1
  have C32 := CHr.trans C15 c31
  have O33 := O16.keep K20 (allS g11 (allS g27 all0))
  have K34 : Keep h0 T20.heap [] := Keep.trans K17 K20 (allS (Or.inr (Nat.le_of_eq g5.symm)) (allS (Or.inr (Nat.le_trans z26 gb10_0)) all0))
  obtain ⟨b35, T35, h35, k35, b35v, kc35, X35, e35, E35, hS35, hk35, hZ35, hown35, Le35, Lc35, Lv35, La35, Lx35, Lb35, c35, -, Ln35, st35⟩ := ldcCH (s := s) (vm0 := s.vm) (EL := consts_1) X20 hx hZ hown (W 134 rfl) (own_str_20 hw) rfl ((State.WarmedH.refl s).since 0) (Nat.zero_le _) (own_ew_21 hw) (List.mem_of_getElem? (i := 0) rfl) c31.1 (vs := [(.int (58 : Int32)), (.int (32 : Int32))]) (z := (2 : Int32)) ⟨by decide, by decide⟩ (by decide) rfl (g := (mkF m 31 #[rv a1] [(.ref b5)])) rfl (hb hby d_315) (n := 8) (by decide) (by decide) (by decide) (by decide)
  have C36 := CHr.trans C32 c35
  have O37 := O33.ext E35
  have K38 : Keep h0 h35 [] := Keep.ext K34 E35
  have f40 := (F20_0.ext E35)
  have f41 := ((f25.keep K20).ext E35)
  have f42 := (F20_1.ext E35)
  have f43 := (F20_2.ext E35)
  have f44 := (F20_3.ext E35)
  obtain ⟨_, T39, L39, X39, hQ39, st39⟩ := own_cv X35 hx hZ35 hown35 hml (W 87 rfl) (W 88 rfl) (notFace_of_selects (W 90 rfl)) (W 90 rfl) (W 89 rfl) (W 71 rfl) (W 91 rfl) (rm36_append l Z a0 hw b5 b35 b35v kc35 p6 b10_0 k10_0 p5 h35 n0 O37 (Le35) (Lv35) (La35) (S_4) (hc_5) (Lc35) (f40) (f41) (f42) (f43) (f44) (g27) ((Nat.ne_of_lt (Nat.lt_of_lt_of_le A5.lt gb10_0))) (g11)) e35 f41 (hb hby d_316) 0 #[rv a1] [(.ref b35)] [] pd_314
  obtain ⟨rfl, N39q, K39, F39_0, F39_1, F39_2, F39_3⟩ := hQ39
  have N45 := Fr.app N28 N39q
  have z46 : T10.heap.size ≤ T20.heap.size := K20.1
  have f47 := (CHr.safe c35 (Nat.lt_of_lt_of_le F10_0.lt z46) (Safe.keep K20 (sfS s30 (sfS f29 sf0)) c14.1 f29))
  have s48 := Safe.exa (EL := consts_1) hZ35.alike f41 (by decide) (by decide)
  have c49 := CHr.keep K39 (sfS s48 (sfS f47 sf0)) c35.1
  have C50 := CHr.trans C36 c49
  have O51 := O37.keep K39 (allS g11 (allS g27 all0))
  have K52 : Keep h0 T39.heap [] := Keep.trans K38 K39 (allS (Or.inr (Nat.le_of_eq g5.symm)) (allS (Or.inr (Nat.le_trans z26 gb10_0)) all0))
  have f54 := (((((F_10.ext E5).keep K10 (ninS (Nat.ne_of_lt (Nat.lt_of_lt_of_le lt_6 (Nat.le_of_eq g5.symm))) nin0)).keep K20 (ninS (Nat.ne_of_lt (Nat.lt_of_lt_of_le lt_6 (Nat.le_of_eq g5.symm))) (ninS (Nat.ne_of_lt (Nat.lt_of_lt_of_le (Nat.lt_of_lt_of_le lt_6 z26) gb10_0)) nin0))).ext E35).keep K39 (ninS (Nat.ne_of_lt (Nat.lt_of_lt_of_le lt_6 (Nat.le_of_eq g5.symm))) (ninS (Nat.ne_of_lt (Nat.lt_of_lt_of_le (Nat.lt_of_lt_of_le lt_6 z26) gb10_0)) nin0)))
  obtain ⟨T53, X53, e53, st53⟩ := getF X39 hx hZ35 hown35 (host := "") (Or.inl (W 41 rfl)) Via.refl rfl f54 (g := (mkF m 37 #[rv a1] [(.ref a1), (.ref b5)])) rfl rfl (hb hby d_321)
  have f56 := (((((F_11.ext E5).keep K10).keep K20).ext E35).keep K39)
  have f57 := (((((F_12.ext E5).keep K10 (ninS (Nat.ne_of_lt (Nat.lt_of_lt_of_le lt_15 (Nat.le_of_eq g5.symm))) nin0)).keep K20 (ninS (Nat.ne_of_lt (Nat.lt_of_lt_of_le lt_15 (Nat.le_of_eq g5.symm))) (ninS (Nat.ne_of_lt (Nat.lt_of_lt_of_le (Nat.lt_of_lt_of_le lt_15 z26) gb10_0)) nin0))).ext E35).keep K39 (ninS (Nat.ne_of_lt (Nat.lt_of_lt_of_le lt_15 (Nat.le_of_eq g5.symm))) (ninS (Nat.ne_of_lt (Nat.lt_of_lt_of_le (Nat.lt_of_lt_of_le lt_15 z26) gb10_0)) nin0)))
  have f58 := (((((F_13.ext E5).keep K10 (ninS (Nat.ne_of_lt (Nat.lt_of_lt_of_le lt_16 (Nat.le_of_eq g5.symm))) nin0)).keep K20 (ninS (Nat.ne_of_lt (Nat.lt_of_lt_of_le lt_16 (Nat.le_of_eq g5.symm))) (ninS (Nat.ne_of_lt (Nat.lt_of_lt_of_le (Nat.lt_of_lt_of_le lt_16 z26) gb10_0)) nin0))).ext E35).keep K39 (ninS (Nat.ne_of_lt (Nat.lt_of_lt_of_le lt_16 (Nat.le_of_eq g5.symm))) (ninS (Nat.ne_of_lt (Nat.lt_of_lt_of_le (Nat.lt_of_lt_of_le lt_16 z26) gb10_0)) nin0)))
  have f59 := (((((F_14.ext E5).keep K10 (ninS (Nat.ne_of_lt (Nat.lt_of_lt_of_le lt_15 (Nat.le_of_eq g5.symm))) nin0)).keep K20 (ninS (Nat.ne_of_lt (Nat.lt_of_lt_of_le lt_15 (Nat.le_of_eq g5.symm))) (ninS (Nat.ne_of_lt (Nat.lt_of_lt_of_le (Nat.lt_of_lt_of_le lt_15 z26) gb10_0)) nin0))).ext E35).keep K39 (ninS (Nat.ne_of_lt (Nat.lt_of_lt_of_le lt_15 (Nat.le_of_eq g5.symm))) (ninS (Nat.ne_of_lt (Nat.lt_of_lt_of_le (Nat.lt_of_lt_of_le lt_15 z26) gb10_0)) nin0)))
  have f60 := (f41.keep K39)
  obtain ⟨_, T55, L55, X55, hQ55, st55⟩ := own_cv X53 hx hZ35 hown35 hml (W 87 rfl) (W 88 rfl) (notFace_of_selects (W 90 rfl)) (W 90 rfl) (W 89 rfl) (W 71 rfl) (W 91 rfl) (rm65_append l Z a0 hw b5 a7 a8 k9 p10 p6 b10_0 k10_0 p5 T39.heap n0 O51 (f56) (f57) (f58) (S_4) (hc_5) (f59) (F39_0) (f60) (F39_1) (F39_2) (F39_3) (g27) ((Nat.ne_of_lt (Nat.lt_of_lt_of_le A5.lt gb10_0))) (g11)) e53 f60 (hb hby d_322) 0 #[rv a1] [(.ref a7)] [] pd_314
  obtain ⟨rfl, N55q, K55, F55_0, F55_1, F55_2, F55_3⟩ := hQ55
  have N61 := Fr.app N45 N55q
  have f62 := (Safe.keep K39 (sfS s48 (sfS f47 sf0)) c35.1 f47)
  have s63 := Safe.exa (EL := consts_1) hZ35.alike f60 (by decide) (by decide)
  have c64 := CHr.keep K55 (sfS s63 (sfS f62 sf0)) c49.1
  have C65 := CHr.trans C50 c64
  have O66 := O51.keep K55 (allS g11 (allS g27 all0))
  have K67 : Keep h0 T55.heap [] := Keep.trans K52 K55 (allS (Or.inr (Nat.le_of_eq g5.symm)) (allS (Or.inr (Nat.le_trans z26 gb10_0)) all0))
  have f69 := (f60.keep K55)
  have z70 : T10.heap.size ≤ h35.size := (Nat.le_trans z46 E35.1)
  have z71 : T10.heap.size ≤ T39.heap.size := (Nat.le_trans z70 K39.1)
  have z72 : T10.heap.size ≤ T55.heap.size := (Nat.le_trans z71 K55.1)
  obtain ⟨_, T68, L68, X68, hQ68, st68⟩ := own_cv X55 hx hZ35 hown35 hml (W 135 rfl) (W 136 rfl) (notFace_of_selects (W 138 rfl)) (W 138 rfl) (W 137 rfl) (W 71 rfl) (W 139 rfl) (rm73_toString l Z a0 hw b5 b10_0 p6 k10_0 p5 p10 T55.heap n0 O66 (f69) (F55_1) (F55_0) (S_4) (hc_5) (F55_3) (F55_2) ((Nat.lt_of_lt_of_le F10_0.lt z72))) rfl f69 (hb hby d_325) 0 #[rv a1] [] [] pd_73
  obtain ⟨b68_0, b68_1, k68_0, rfl, N68q, K68, gb68_0, gb68_1, F68_0, F68_1, F68_2, F68_3, F68_4⟩ := hQ68
  have N73 := Fr.app N61 N68q
  have c74 := CHr.keep K68 sf0 c64.1
  have C75 := CHr.trans C65 c74
  have O76 := O66.keep K68 all0
  have K77 : Keep h0 T68.heap [] := Keep.trans K67 K68 all0
  have z78 : h35.size ≤ T39.heap.size := K39.1
  have z79 : h35.size ≤ T55.heap.size := (Nat.le_trans z78 K55.1)
  have z80 : h35.size ≤ T68.heap.size := (Nat.le_trans z79 K68.1)
  have z81 : h0.size ≤ T10.heap.size := (Nat.le_trans z26 K10.1)
  have z82 : h0.size ≤ T20.heap.size := (Nat.le_trans z81 K20.1)
  have z83 : h0.size ≤ h35.size := (Nat.le_trans z82 E35.1)
  have z84 : h0.size ≤ T39.heap.size := (Nat.le_trans z83 K39.1)
  have z85 : h0.size ≤ T55.heap.size := (Nat.le_trans z84 K55.1)
  refine ⟨T68, some (.ref b68_0), _, _, _, T35.vm, _, X68, hS35, (Nat.le_trans hk35 z80), by decide, by decide, nofun, ?_, own_che rfl (CHr.trans C75 (CHv.at (s := s) X68 hZ35 (own_ew_21 hw) c74.1)), fun fs hr => castTop (ef_44 m a1) ?_⟩
  · show Q74_toString Z a1 a2 a3 k4 p5 p6 a7 a8 k9 p10 h0 n0 _ T68.heap _
    exact ⟨b68_0, b68_1, k68_0, rfl, N73, K77, (Nat.le_trans z85 gb68_0), (Nat.le_trans z85 gb68_1), F68_0, F68_1, F68_2, F68_3, F68_4⟩
  · show SS p e below s₁ m 0 #[rv a1] [] _
    refine XS.aloadN X1.here hx rfl (hb hby d_57) rfl rfl ?_
    refine st2 _ ?_
    refine st3 _ ?_
    refine XS.ifYes X3.here hx rfl (pc0 := 7) (pc' := 17) rfl (hb hby d_68) rfl ((if0 _ _).trans (teq (by decide : (0 : Int32) = (0 : Int32))).1) (by decide) (by decide) ?_
    refine st5 _ ?_
    refine XS.dup X5.here hx rfl (hb hby d_187) rfl rfl ?_
    refine st10 _ ?_
    refine XS.aloadN X10.here hx rfl (hb hby d_210) rfl rfl ?_
    refine st18 _ ?_
    refine st20 _ ?_
    show SS p e below T20 m 31 #[rv a1] [(.ref b5)] _
    refine st35 _ ?_
    refine st39 _ ?_
    refine XS.aloadN X39.here hx rfl (hb hby d_320) rfl rfl ?_
    refine st53 _ ?_
    refine st55 _ ?_
    refine st68 _ ?_
    exact retOut X68 hx hret rfl (Or.inr (Or.inr (Or.inr (Or.inr ⟨rfl, rfl, rfl⟩)))) (hb hby d_72) hr
theorem rm0_1_1 (l : Launch) (Z : State) (a0 : Array Value) (hw : HW Z a0) (ws : List Jvm.Cond) (p1 : Int32) (p2 : Int32) (p3 : Int32) (p4 : Int32) (p5 : Int32) (c0 : Int32) (c1 : Int32) (d0 : Int32) (d1 : Int32) (o_COMPACT_STRINGS : Int32) (o_SIOOBE_FORMATTER : Value) (h0 : Heap) (n0 : Nat) (O0 : Old Z n0 h0) (S_o_COMPACT_STRINGS : SA48 Z Z.heap (.int o_COMPACT_STRINGS)) (S_o_SIOOBE_FORMATTER : SA49 Z Z.heap o_SIOOBE_FORMATTER) (nz_o_COMPACT_STRINGS : ¬ (o_COMPACT_STRINGS = (0 : Int32))) (ir_o_SIOOBE_FORMATTER : o_SIOOBE_FORMATTER.isRef = true) (hpl : ((p1 &&& (2147483647 : Int32)) % (3 : Int32)) = (1 : Int32)) (hml_ : ((((p1.toUInt32 >>> ((8 : Int32) &&& 31).toUInt32).toInt32) &&& (2147483647 : Int32)) % (3 : Int32)) = (1 : Int32)) (h_c0 : ((p2 &&& (255 : Int32)).toUInt32.toUInt16.toUInt32.toInt32) = c0) (r_c0 : ¬ ((255 : Int32) < c0)) (n_c0 : ¬ (c0 < (0 : Int32))) (i_c0 : (c0.toUInt32.toUInt16.toUInt32.toInt32) = c0) (b_c0 : ((c0.toInt8.toInt32) &&& (255 : Int32)) = c0) (h_c1 : ((p3 &&& (255 : Int32)).toUInt32.toUInt16.toUInt32.toInt32) = c1) (r_c1 : ¬ ((255 : Int32) < c1)) (n_c1 : ¬ (c1 < (0 : Int32))) (i_c1 : (c1.toUInt32.toUInt16.toUInt32.toInt32) = c1) (b_c1 : ((c1.toInt8.toInt32) &&& (255 : Int32)) = c1) (h_d0 : ((p4 &&& (255 : Int32)).toUInt32.toUInt16.toUInt32.toInt32) = d0) (r_d0 : ¬ ((255 : Int32) < d0)) (n_d0 : ¬ (d0 < (0 : Int32))) (i_d0 : (d0.toUInt32.toUInt16.toUInt32.toInt32) = d0) (b_d0 : ((d0.toInt8.toInt32) &&& (255 : Int32)) = d0) (h_d1 : ((p5 &&& (255 : Int32)).toUInt32.toUInt16.toUInt32.toInt32) = d1) (r_d1 : ¬ ((255 : Int32) < d1)) (n_d1 : ¬ (d1 < (0 : Int32))) (i_d1 : (d1.toUInt32.toUInt16.toUInt32.toInt32) = d1) (b_d1 : ((d1.toInt8.toInt32) &&& (255 : Int32)) = d1) :
    MetH l Z ws x code maxLocals ret room_1 #[(.int p1), (.int p2), (.int p3), (.int p4), (.int p5)] h0 consts_1 [] (fun v _ L => Q0 n0 v L) := by
  have W := @own_W _ _ hw
  refine own_mkH (plainFor_of_name pn_37) ?_
  intro p e s m below meth c s₁ hZ hx hby hml hown hnm hret hlk X0 e0 H0 hsf
  have N0 := Fr.nil n0
  have C0 := CHr.refl H0
  have X1 := (show Stand p l e _ (s.setVm s.vm) m _ below meth c _ _ _ _ from X0)
  obtain ⟨_, T2, L2, X2, hQ2, st2⟩ := own_cs X1 hx hZ hown hml (W 1 rfl) (W 2 rfl) (W 3 rfl) (W 4 rfl) (rm14_mk l Z a0 hw c0 c1 o_COMPACT_STRINGS h0 n0 O0 (i_c0) (S_o_COMPACT_STRINGS) (nz_o_COMPACT_STRINGS) (r_c0)) e0 (hb hby at_58) 0 #[iv p1, iv p2, iv p3, iv p4, iv p5, iv (1 : Int32), iv (1 : Int32), iv c0, iv c1, iv d0, iv d1, .unset, .unset, .unset] [(.int (1 : Int32)), (.int c0), (.int c1)] [] pd_38
  obtain ⟨b2_0, b2_1, k2_0, rfl, N2q, K2, gb2_0, gb2_1, F2_0, F2_1, F2_2, F2_3, F2_4⟩ := hQ2
  have N3 := Fr.app N0 N2q
  have c4 := CHr.keep K2 sf0 H0
  have C5 := CHr.trans C0 c4
  have O6 := O0.keep K2 all0
  have K7 : Keep h0 T2.heap [] := Keep.trans (Keep.refl h0 []) K2 all0
  obtain ⟨_, T8, L8, X8, hQ8, st8⟩ := own_cs X2 hx hZ hown hml (W 1 rfl) (W 2 rfl) (W 3 rfl) (W 4 rfl) (rm14_mk l Z a0 hw d0 d1 o_COMPACT_STRINGS T2.heap n0 O6 (i_d0) (S_o_COMPACT_STRINGS) (nz_o_COMPACT_STRINGS) (r_d0)) rfl (hb hby at_69) 0 #[iv p1, iv p2, iv p3, iv p4, iv p5, iv (1 : Int32), iv (1 : Int32), iv c0, iv c1, iv d0, iv d1, rv b2_0, .unset, .unset] [(.int (1 : Int32)), (.int d0), (.int d1)] [] pd_38
  obtain ⟨b8_0, b8_1, k8_0, rfl, N8q, K8, gb8_0, gb8_1, F8_0, F8_1, F8_2, F8_3, F8_4⟩ := hQ8
  have N9 := Fr.app N3 N8q
  have c10 := CHr.keep K8 sf0 c4.1
  have C11 := CHr.trans C5 c10
  have O12 := O6.keep K8 all0
  have K13 : Keep h0 T8.heap [] := Keep.trans K7 K8 all0
  obtain ⟨T14, h14, X14, e14, E14, A14, D14, -, st14⟩ := newO X8 hx hZ hown (W 27 rfl) (W 28 rfl) (W 29 rfl) rfl (g := (mkF m 74 #[iv p1, iv p2, iv p3, iv p4, iv p5, iv (1 : Int32), iv (1 : Int32), iv c0, iv c1, iv d0, iv d1, rv b2_0, rv b8_0, .unset] [])) rfl (hb hby at_74) (by decide) (by decide)
  obtain ⟨b14, g14⟩ : ∃ z, z = T8.heap.size := ⟨_, rfl⟩
  rw [← g14] at A14 D14 st14
  have c15 := CHr.ext E14 c10.1
  have C16 := CHr.trans C11 c15
  have O17 := O12.ext E14
  have K18 : Keep h0 h14 [] := Keep.ext K13 E14
  have z20 : h0.size ≤ T2.heap.size := K2.1
  have z21 : h0.size ≤ T8.heap.size := (Nat.le_trans z20 K8.1)
  have g22 : n0 ≤ b14 := Nat.le_trans (Nat.le_trans (Nat.le_trans (Nat.le_of_eq O0.1.symm) O0.2.1) z21) (Nat.le_of_eq g14.symm)
  obtain ⟨_, T19, L19, X19, hQ19, st19⟩ := own_cp X14 hx hZ hown hml rfl (W 30 rfl) (W 31 rfl) (W 29 rfl) (W 32 rfl) (rm5_init l Z a0 hw b14 b2_0 b8_0 h14 n0 O17 (A14) ((D14 (Or.inr (W 40 rfl)) (ty := (.object "java/lang/String")) (by decide) : FA39 Z h14 b14 .null)) (g22) ((D14 (Or.inr (W 42 rfl)) (ty := (.object "java/lang/String")) (by decide) : FA40 Z h14 b14 .null))) e14 (hb hby at_82) 1 #[iv p1, iv p2, iv p3, iv p4, iv p5, iv (1 : Int32), iv (1 : Int32), iv c0, iv c1, iv d0, iv d1, rv b2_0, rv b8_0, .unset] b14 [(.ref b2_0), (.ref b8_0)] [(.ref b14)] pd_56
  obtain ⟨rfl, N19q, K19, F19_0, F19_1⟩ := hQ19
  have N23 := Fr.app N9 N19q
  have s24 := Safe.exa (EL := consts_1) hZ.alike A14 (by decide) (by decide)
  have c25 := CHr.keep K19 (sfS s24 sf0) c15.1
  have C26 := CHr.trans C16 c25
  have O27 := O17.keep K19 (allS g22 all0)
  have K28 : Keep h0 T19.heap [] := Keep.trans K18 K19 (allS (Or.inr (Nat.le_trans z21 (Nat.le_of_eq g14.symm))) all0)
  have f30 := (((F2_0.keep K8).ext E14).keep K19)
  have z31 : T2.heap.size ≤ T8.heap.size := K8.1
  have f32 := (((F2_1.keep K8 nin0).ext E14).keep K19 (ninS (Nat.ne_of_lt (Nat.lt_of_lt_of_le (Nat.lt_of_lt_of_le F2_0.lt z31) (Nat.le_of_eq g14.symm))) nin0))
  have f33 := (((F2_3.keep K8 nin0).ext E14).keep K19 (ninS (Nat.ne_of_lt (Nat.lt_of_lt_of_le (Nat.lt_of_lt_of_le F2_3.lt z31) (Nat.le_of_eq g14.symm))) nin0))
  have z34 : h14.size ≤ T19.heap.size := K19.1
  have f35 := (((F2_2.keep K8 nin0).ext E14).keep K19 (ninS (Nat.ne_of_lt (Nat.lt_of_lt_of_le (Nat.lt_of_lt_of_le F2_0.lt z31) (Nat.le_of_eq g14.symm))) nin0))
  have z36 : T2.heap.size ≤ h14.size := (Nat.le_trans z31 E14.1)
  have z37 : T2.heap.size ≤ T19.heap.size := (Nat.le_trans z36 K19.1)
  have f38 := ((F8_0.ext E14).keep K19)
  have f39 := ((F8_1.ext E14).keep K19 (ninS (Nat.ne_of_lt (Nat.lt_of_lt_of_le F8_0.lt (Nat.le_of_eq g14.symm))) nin0))
  have f40 := ((F8_3.ext E14).keep K19 (ninS (Nat.ne_of_lt (Nat.lt_of_lt_of_le F8_3.lt (Nat.le_of_eq g14.symm))) nin0))
  have f41 := ((F8_2.ext E14).keep K19 (ninS (Nat.ne_of_lt (Nat.lt_of_lt_of_le F8_0.lt (Nat.le_of_eq g14.symm))) nin0))
  have z42 : T8.heap.size ≤ h14.size := E14.1
  have z43 : T8.heap.size ≤ T19.heap.size := (Nat.le_trans z42 K19.1)
  have f44 := (A14.keep K19)
  obtain ⟨cq29, kq29, q29a, q29b, q29c⟩ := isOf hZ rfl f44
  obtain ⟨_, _, ⟨T29, L29, k29, n29⟩, -, Y29, hs29, hg29, ⟨Lc29, hQ29, l29, y29, z29, c29⟩, st29⟩ := X19.virtualBackS hx (y := MY6) (z := MY6) hown (mvT hZ (W 43 rfl)) (mvT hZ (W 44 rfl)) (notFace_of_selects (args := #[]) (mvT hZ (W 46 rfl))) (mvT hZ (W 46 rfl)) (mvT hZ (W 45 rfl)) (by decide) (own_backH (s := s) (vm0 := s.vm) (W := 0) (rm74_toString l Z a0 hw b14 b2_0 b2_1 k2_0 (c0.toInt8.toInt32) o_COMPACT_STRINGS b8_0 b8_1 k8_0 (d0.toInt8.toInt32) T19.heap n0 O27 (F19_0) (f30) (f32) (f33) (S_o_COMPACT_STRINGS) (nz_o_COMPACT_STRINGS) ((Nat.lt_of_lt_of_le A14.lt z34)) (f35) ((Nat.lt_of_lt_of_le F2_0.lt z37)) ((Nat.lt_of_lt_of_le F2_3.lt z37)) (F19_1) (f38) (f39) (f40) (f41) ((Nat.lt_of_lt_of_le F8_0.lt z43)) ((Nat.lt_of_lt_of_le F8_3.lt z43))) hZ (W 47 rfl) (W 29 rfl) (by decide) (by decide) (own_ew_21 hw) c25.1 own_sf0) q29a q29c (g := (mkF m 85 #[iv p1, iv p2, iv p3, iv p4, iv p5, iv (1 : Int32), iv (1 : Int32), iv c0, iv c1, iv d0, iv d1, rv b2_0, rv b8_0, .unset] [(.ref b14)])) rfl (by rw [hml]; rfl) (Steps.refl _) (argsL := []) (rest := []) (lenOf pd_73 rfl) rfl (by show 2 * 0 + _ ≤ _; exact Nat.le_of_eq rfl) (hb hby at_85) (fun _ _ => ⟨rfl, rfl, (by decide : 7 + 6 ≤ _), (by decide : 14 + 40 ≤ _)⟩)
  dsimp only [Pt.U, Pt.locs, Pt.cells, Pt.slots] at Y29 l29 y29 z29 st29 hQ29 hs29 hg29 c29
  subst l29 y29 z29
  obtain ⟨X29, hS29, hZ29, hown29⟩ := rebS (s := s) (vm0 := s.vm) ((State.WarmedH.refl s).since 0) (Nat.zero_le _) Y29 hs29 hg29 hZ hown
  obtain ⟨b29_0, b29_1, k29_0, rfl, N29q, K29, gb29_0, gb29_1, F29_0, F29_1, F29_2, F29_3, F29_4⟩ := hQ29
  have N45 := Fr.app N23 N29q
  have C46 := CHr.trans C26 c29
  have O47 := O27.keep K29 all0
  have K48 : Keep h0 T29.heap [] := Keep.trans K28 K29 all0
  obtain ⟨_, T49, L49, X49, hQ49, st49⟩ := own_cv X29 hx hZ29 hown29 hml (W 180 rfl) (W 98 rfl) (notFace_of_selects (W 100 rfl)) (W 100 rfl) (W 99 rfl) (W 7 rfl) (W 101 rfl) (rm25_length l Z a0 hw b29_0 b29_1 k29_0 (4 : Int32) [(.int (c0.toInt8.toInt32)), (.int (58 : Int32)), (.int (32 : Int32)), (.int (d0.toInt8.toInt32))] o_COMPACT_STRINGS T29.heap n0 O47 (F29_1) (F29_3) (F29_0) (S_o_COMPACT_STRINGS) (nz_o_COMPACT_STRINGS) (F29_2) ((by decide))) rfl F29_0 (hb hby at_112) 0 #[iv p1, iv p2, iv p3, iv p4, iv p5, iv (1 : Int32), iv (1 : Int32), iv c0, iv c1, iv d0, iv d1, rv b2_0, rv b8_0, rv b29_0] [] [] pd_234
  obtain ⟨rfl, N49q, K49⟩ := hQ49
  have N50 := Fr.app N45 N49q
  obtain ⟨_, T51, L51, X51, hQ51, st51⟩ := own_cv X49 hx hZ29 hown29 hml (W 181 rfl) (W 182 rfl) (notFace_of_selects (W 184 rfl)) (W 184 rfl) (W 183 rfl) (W 7 rfl) (W 185 rfl) (rm58_charAt l Z a0 hw b29_0 (0 : Int32) o_COMPACT_STRINGS b29_1 k29_0 (4 : Int32) [(.int (c0.toInt8.toInt32)), (.int (58 : Int32)), (.int (32 : Int32)), (.int (d0.toInt8.toInt32))] o_SIOOBE_FORMATTER (c0.toInt8.toInt32) c0 T29.heap n0 O47 (F29_0) (S_o_COMPACT_STRINGS) (nz_o_COMPACT_STRINGS) (F29_2) (F29_1) (F29_3) (S_o_SIOOBE_FORMATTER) ((by decide : ¬ ((0 : Int32) < (0 : Int32)))) ((by decide : (0 : Int32) < (4 : Int32))) (rfl) (b_c0) (i_c0) (ir_o_SIOOBE_FORMATTER) (i_c0)) K49 F29_0 (hb hby at_130) 0 #[iv p1, iv p2, iv p3, iv p4, iv p5, iv (1 : Int32), iv (1 : Int32), iv c0, iv c1, iv d0, iv d1, rv b2_0, rv b8_0, rv b29_0] [o0] [] pd_476
  obtain ⟨rfl, N51q, K51⟩ := hQ51
  have N52 := Fr.app N50 N51q
  obtain ⟨_, T53, L53, X53, hQ53, st53⟩ := own_cv X51 hx hZ29 hown29 hml (W 181 rfl) (W 182 rfl) (notFace_of_selects (W 184 rfl)) (W 184 rfl) (W 183 rfl) (W 7 rfl) (W 185 rfl) (rm60_charAt l Z a0 hw b29_0 (1 : Int32) o_COMPACT_STRINGS b29_1 k29_0 (4 : Int32) [(.int (c0.toInt8.toInt32)), (.int (58 : Int32)), (.int (32 : Int32)), (.int (d0.toInt8.toInt32))] o_SIOOBE_FORMATTER (58 : Int32) T29.heap n0 O47 (F29_0) (S_o_COMPACT_STRINGS) (nz_o_COMPACT_STRINGS) (F29_2) (F29_1) (F29_3) (S_o_SIOOBE_FORMATTER) ((by decide : ¬ ((1 : Int32) < (0 : Int32)))) ((by decide : (1 : Int32) < (4 : Int32))) (rfl) ((by decide)) ((by decide)) (ir_o_SIOOBE_FORMATTER) ((by decide))) K51 F29_0 (hb hby at_163) 0 #[iv p1, iv p2, iv p3, iv p4, iv p5, iv (1 : Int32), iv (1 : Int32), iv c0, iv c1, iv d0, iv d1, rv b2_0, rv b8_0, rv b29_0] [(.int (1 : Int32))] [] pd_476
  obtain ⟨rfl, N53q, K53⟩ := hQ53
  have N54 := Fr.app N52 N53q
  obtain ⟨_, T55, L55, X55, hQ55, st55⟩ := own_cv X53 hx hZ29 hown29 hml (W 181 rfl) (W 182 rfl) (notFace_of_selects (W 184 rfl)) (W 184 rfl) (W 183 rfl) (W 7 rfl) (W 185 rfl) (rm60_charAt l Z a0 hw b29_0 (2 : Int32) o_COMPACT_STRINGS b29_1 k29_0 (4 : Int32) [(.int (c0.toInt8.toInt32)), (.int (58 : Int32)), (.int (32 : Int32)), (.int (d0.toInt8.toInt32))] o_SIOOBE_FORMATTER (32 : Int32) T29.heap n0 O47 (F29_0) (S_o_COMPACT_STRINGS) (nz_o_COMPACT_STRINGS) (F29_2) (F29_1) (F29_3) (S_o_SIOOBE_FORMATTER) ((by decide : ¬ ((2 : Int32) < (0 : Int32)))) ((by decide : (2 : Int32) < (4 : Int32))) (rfl) ((by decide)) ((by decide)) (ir_o_SIOOBE_FORMATTER) ((by decide))) K53 F29_0 (hb hby at_179) 0 #[iv p1, iv p2, iv p3, iv p4, iv p5, iv (1 : Int32), iv (1 : Int32), iv c0, iv c1, iv d0, iv d1, rv b2_0, rv b8_0, rv b29_0] [(.int (2 : Int32))] [] pd_476
  obtain ⟨rfl, N55q, K55⟩ := hQ55
  have N56 := Fr.app N54 N55q
  obtain ⟨_, T57, L57, X57, hQ57, st57⟩ := own_cv X55 hx hZ29 hown29 hml (W 181 rfl) (W 182 rfl) (notFace_of_selects (W 184 rfl)) (W 184 rfl) (W 183 rfl) (W 7 rfl) (W 185 rfl) (rm58_charAt l Z a0 hw b29_0 (3 : Int32) o_COMPACT_STRINGS b29_1 k29_0 (4 : Int32) [(.int (c0.toInt8.toInt32)), (.int (58 : Int32)), (.int (32 : Int32)), (.int (d0.toInt8.toInt32))] o_SIOOBE_FORMATTER (d0.toInt8.toInt32) d0 T29.heap n0 O47 (F29_0) (S_o_COMPACT_STRINGS) (nz_o_COMPACT_STRINGS) (F29_2) (F29_1) (F29_3) (S_o_SIOOBE_FORMATTER) ((by decide : ¬ ((3 : Int32) < (0 : Int32)))) ((by decide : (3 : Int32) < (4 : Int32))) (rfl) (b_d0) (i_d0) (ir_o_SIOOBE_FORMATTER) (i_d0)) K55 F29_0 (hb hby at_201) 0 #[iv p1, iv p2, iv p3, iv p4, iv p5, iv (1 : Int32), iv (1 : Int32), iv c0, iv c1, iv d0, iv d1, rv b2_0, rv b8_0, rv b29_0] [(.int (3 : Int32))] [] pd_476
  obtain ⟨rfl, N57q, K57⟩ := hQ57
  have N58 := Fr.app N56 N57q
  refine ⟨T57, some (.int (1 : Int32)), _, _, _, T29.vm, _, X57, hS29, (by rw [K57]; exact (Nat.le_refl _)), by decide, by decide, nofun, ?_, own_che K57 (CHr.trans C46 (CHv.at (s := s) X57 hZ29 (own_ew_21 hw) c29.1)), fun fs hr => castTop (ef_81 m p1 p2 p3 p4 p5) ?_⟩
  · exact ⟨rfl, N58⟩
  · show SS p e below s₁ m 0 #[iv p1, iv p2, iv p3, iv p4, iv p5, .unset, .unset, .unset, .unset, .unset, .unset, .unset, .unset, .unset] [] _
    refine XS.iloadN X1.here hx rfl (hb hby at_0) rfl ?_
    refine X1.ldcInt hx hown (mvT hZ (W 0 rfl)) (g := (mkF m 1 #[iv p1, iv p2, iv p3, iv p4, iv p5, .unset, .unset, .unset, .unset, .unset, .unset, .unset, .unset, .unset] [(.int p1)])) rfl (hb hby at_1) _ ?_
    show SS p e below s₁ m 3 #[iv p1, iv p2, iv p3, iv p4, iv p5, .unset, .unset, .unset, .unset, .unset, .unset, .unset, .unset, .unset] [(.int (2147483647 : Int32)), (.int p1)] _
    refine XS.iand X1.here hx rfl (hb hby at_3) rfl ?_
    show SS p e below s₁ m 4 #[iv p1, iv p2, iv p3, iv p4, iv p5, .unset, .unset, .unset, .unset, .unset, .unset, .unset, .unset, .unset] [(.int (p1 &&& (2147483647 : Int32)))] _
    refine XS.iconst X1.here hx rfl (hb hby at_4) ?_
    refine iremM (g := (mkF m 5 #[iv p1, iv p2, iv p3, iv p4, iv p5, .unset, .unset, .unset, .unset, .unset, .unset, .unset, .unset, .unset] [(.int (3 : Int32)), (.int (p1 &&& (2147483647 : Int32)))])) X1 hx rfl (hb hby at_5) rfl (by decide : ¬ ((3 : Int32) = (0 : Int32))) ?_
    rw [hpl]
    show SS p e below s₁ m 6 #[iv p1, iv p2, iv p3, iv p4, iv p5, .unset, .unset, .unset, .unset, .unset, .unset, .unset, .unset, .unset] [(.int (1 : Int32))] _
    refine XS.istore X1.here hx rfl (hb hby at_6) rfl (l' := #[iv p1, iv p2, iv p3, iv p4, iv p5, iv (1 : Int32), .unset, .unset, .unset, .unset, .unset, .unset, .unset, .unset]) rfl ?_
    refine XS.iloadN X1.here hx rfl (hb hby at_8) rfl ?_
    refine XS.bipush X1.here hx rfl (hb hby at_9) ?_
    show SS p e below s₁ m 11 #[iv p1, iv p2, iv p3, iv p4, iv p5, iv (1 : Int32), .unset, .unset, .unset, .unset, .unset, .unset, .unset, .unset] [(.int (8 : Int32)), (.int p1)] _
    refine XS.iushr X1.here hx rfl (hb hby at_11) rfl ?_
    show SS p e below s₁ m 12 #[iv p1, iv p2, iv p3, iv p4, iv p5, iv (1 : Int32), .unset, .unset, .unset, .unset, .unset, .unset, .unset, .unset] [(.int ((p1.toUInt32 >>> ((8 : Int32) &&& 31).toUInt32).toInt32))] _
    refine X1.ldcInt hx hown (mvT hZ (W 0 rfl)) (g := (mkF m 12 #[iv p1, iv p2, iv p3, iv p4, iv p5, iv (1 : Int32), .unset, .unset, .unset, .unset, .unset, .unset, .unset, .unset] [(.int ((p1.toUInt32 >>> ((8 : Int32) &&& 31).toUInt32).toInt32))])) rfl (hb hby at_12) _ ?_
    refine XS.iand X1.here hx rfl (hb hby at_14) rfl ?_
    show SS p e below s₁ m 15 #[iv p1, iv p2, iv p3, iv p4, iv p5, iv (1 : Int32), .unset, .unset, .unset, .unset, .unset, .unset, .unset, .unset] [(.int (((p1.toUInt32 >>> ((8 : Int32) &&& 31).toUInt32).toInt32) &&& (2147483647 : Int32)))] _
    refine XS.iconst X1.here hx rfl (hb hby at_15) ?_
    refine iremM (g := (mkF m 16 #[iv p1, iv p2, iv p3, iv p4, iv p5, iv (1 : Int32), .unset, .unset, .unset, .unset, .unset, .unset, .unset, .unset] [(.int (3 : Int32)), (.int (((p1.toUInt32 >>> ((8 : Int32) &&& 31).toUInt32).toInt32) &&& (2147483647 : Int32)))])) X1 hx rfl (hb hby at_16) rfl (by decide : ¬ ((3 : Int32) = (0 : Int32))) ?_
    rw [hml_]
    show SS p e below s₁ m 17 #[iv p1, iv p2, iv p3, iv p4, iv p5, iv (1 : Int32), .unset, .unset, .unset, .unset, .unset, .unset, .unset, .unset] [(.int (1 : Int32))] _
    refine XS.istore X1.here hx rfl (hb hby at_17) rfl (l' := #[iv p1, iv p2, iv p3, iv p4, iv p5, iv (1 : Int32), iv (1 : Int32), .unset, .unset, .unset, .unset, .unset, .unset, .unset]) rfl ?_
    refine XS.iloadN X1.here hx rfl (hb hby at_19) rfl ?_
    refine XS.sipush X1.here hx rfl (hb hby at_20) ?_
    show SS p e below s₁ m 23 #[iv p1, iv p2, iv p3, iv p4, iv p5, iv (1 : Int32), iv (1 : Int32), .unset, .unset, .unset, .unset, .unset, .unset, .unset] [(.int (255 : Int32)), (.int p2)] _
    refine XS.iand X1.here hx rfl (hb hby at_23) rfl ?_
    show SS p e below s₁ m 24 #[iv p1, iv p2, iv p3, iv p4, iv p5, iv (1 : Int32), iv (1 : Int32), .unset, .unset, .unset, .unset, .unset, .unset, .unset] [(.int (p2 &&& (255 : Int32)))] _
    refine XS.i2c X1.here hx rfl (hb hby at_24) rfl ?_
    rw [h_c0]
    show SS p e below s₁ m 25 #[iv p1, iv p2, iv p3, iv p4, iv p5, iv (1 : Int32), iv (1 : Int32), .unset, .unset, .unset, .unset, .unset, .unset, .unset] [(.int c0)] _
    refine XS.istore X1.here hx rfl (hb hby at_25) rfl (l' := #[iv p1, iv p2, iv p3, iv p4, iv p5, iv (1 : Int32), iv (1 : Int32), iv c0, .unset, .unset, .unset, .unset, .unset, .unset]) rfl ?_
    refine XS.iloadN X1.here hx rfl (hb hby at_27) rfl ?_
    refine XS.sipush X1.here hx rfl (hb hby at_28) ?_
    show SS p e below s₁ m 31 #[iv p1, iv p2, iv p3, iv p4, iv p5, iv (1 : Int32), iv (1 : Int32), iv c0, .unset, .unset, .unset, .unset, .unset, .unset] [(.int (255 : Int32)), (.int p3)] _
    refine XS.iand X1.here hx rfl (hb hby at_31) rfl ?_
    show SS p e below s₁ m 32 #[iv p1, iv p2, iv p3, iv p4, iv p5, iv (1 : Int32), iv (1 : Int32), iv c0, .unset, .unset, .unset, .unset, .unset, .unset] [(.int (p3 &&& (255 : Int32)))] _
    refine XS.i2c X1.here hx rfl (hb hby at_32) rfl ?_
    rw [h_c1]
    show SS p e below s₁ m 33 #[iv p1, iv p2, iv p3, iv p4, iv p5, iv (1 : Int32), iv (1 : Int32), iv c0, .unset, .unset, .unset, .unset, .unset, .unset] [(.int c1)] _
    refine XS.istore X1.here hx rfl (hb hby at_33) rfl (l' := #[iv p1, iv p2, iv p3, iv p4, iv p5, iv (1 : Int32), iv (1 : Int32), iv c0, iv c1, .unset, .unset, .unset, .unset, .unset]) rfl ?_
    refine XS.iloadN X1.here hx rfl (hb hby at_35) rfl ?_
    refine XS.sipush X1.here hx rfl (hb hby at_36) ?_
    show SS p e below s₁ m 39 #[iv p1, iv p2, iv p3, iv p4, iv p5, iv (1 : Int32), iv (1 : Int32), iv c0, iv c1, .unset, .unset, .unset, .unset, .unset] [(.int (255 : Int32)), (.int p4)] _
    refine XS.iand X1.here hx rfl (hb hby at_39) rfl ?_
    show SS p e below s₁ m 40 #[iv p1, iv p2, iv p3, iv p4, iv p5, iv (1 : Int32), iv (1 : Int32), iv c0, iv c1, .unset, .unset, .unset, .unset, .unset] [(.int (p4 &&& (255 : Int32)))] _
    refine XS.i2c X1.here hx rfl (hb hby at_40) rfl ?_
    rw [h_d0]
    show SS p e below s₁ m 41 #[iv p1, iv p2, iv p3, iv p4, iv p5, iv (1 : Int32), iv (1 : Int32), iv c0, iv c1, .unset, .unset, .unset, .unset, .unset] [(.int d0)] _
    refine XS.istore X1.here hx rfl (hb hby at_41) rfl (l' := #[iv p1, iv p2, iv p3, iv p4, iv p5, iv (1 : Int32), iv (1 : Int32), iv c0, iv c1, iv d0, .unset, .unset, .unset, .unset]) rfl ?_
    refine XS.iload X1.here hx rfl (hb hby at_43) rfl ?_
    refine XS.sipush X1.here hx rfl (hb hby at_45) ?_
    show SS p e below s₁ m 48 #[iv p1, iv p2, iv p3, iv p4, iv p5, iv (1 : Int32), iv (1 : Int32), iv c0, iv c1, iv d0, .unset, .unset, .unset, .unset] [(.int (255 : Int32)), (.int p5)] _
    refine XS.iand X1.here hx rfl (hb hby at_48) rfl ?_
    show SS p e below s₁ m 49 #[iv p1, iv p2, iv p3, iv p4, iv p5, iv (1 : Int32), iv (1 : Int32), iv c0, iv c1, iv d0, .unset, .unset, .unset, .unset] [(.int (p5 &&& (255 : Int32)))] _
    refine XS.i2c X1.here hx rfl (hb hby at_49) rfl ?_
    rw [h_d1]
    show SS p e below s₁ m 50 #[iv p1, iv p2, iv p3, iv p4, iv p5, iv (1 : Int32), iv (1 : Int32), iv c0, iv c1, iv d0, .unset, .unset, .unset, .unset] [(.int d1)] _
    refine XS.istore X1.here hx rfl (hb hby at_50) rfl (l' := #[iv p1, iv p2, iv p3, iv p4, iv p5, iv (1 : Int32), iv (1 : Int32), iv c0, iv c1, iv d0, iv d1, .unset, .unset, .unset]) rfl ?_
    refine XS.iload X1.here hx rfl (hb hby at_52) rfl ?_
    refine XS.iload X1.here hx rfl (hb hby at_54) rfl ?_
    refine XS.iload X1.here hx rfl (hb hby at_56) rfl ?_
    refine st2 _ ?_
    refine XS.astore X2.here hx rfl (hb hby at_61) rfl rfl (l' := #[iv p1, iv p2, iv p3, iv p4, iv p5, iv (1 : Int32), iv (1 : Int32), iv c0, iv c1, iv d0, iv d1, rv b2_0, .unset, .unset]) rfl ?_
    refine XS.iload X2.here hx rfl (hb hby at_63) rfl ?_
    refine XS.iload X2.here hx rfl (hb hby at_65) rfl ?_
    refine XS.iload X2.here hx rfl (hb hby at_67) rfl ?_
    refine st8 _ ?_
    show SS p e below T8 m 72 #[iv p1, iv p2, iv p3, iv p4, iv p5, iv (1 : Int32), iv (1 : Int32), iv c0, iv c1, iv d0, iv d1, rv b2_0, .unset, .unset] [(.ref b8_0)] _
    refine XS.astore X8.here hx rfl (hb hby at_72) rfl rfl (l' := #[iv p1, iv p2, iv p3, iv p4, iv p5, iv (1 : Int32), iv (1 : Int32), iv c0, iv c1, iv d0, iv d1, rv b2_0, rv b8_0, .unset]) rfl ?_
    refine st14 _ ?_
    refine XS.dup X14.here hx rfl (hb hby at_77) rfl rfl ?_
    refine XS.aload X14.here hx rfl (hb hby at_78) rfl rfl ?_
    refine XS.aload X14.here hx rfl (hb hby at_80) rfl rfl ?_
    refine st19 _ ?_
    refine st29.trans ?_
    refine XS.astore X29.here hx rfl (hb hby at_88) rfl rfl (l' := #[iv p1, iv p2, iv p3, iv p4, iv p5, iv (1 : Int32), iv (1 : Int32), iv c0, iv c1, iv d0, iv d1, rv b2_0, rv b8_0, rv b29_0]) rfl ?_
    refine XS.aload X29.here hx rfl (hb hby at_90) rfl rfl ?_
    refine XS.ifnonnullYes X29.here hx rfl (pc0 := 92) (pc' := 97) rfl (hb hby at_92) rfl (by decide) (by decide) ?_
    show SS p e below T29 m 97 #[iv p1, iv p2, iv p3, iv p4, iv p5, iv (1 : Int32), iv (1 : Int32), iv c0, iv c1, iv d0, iv d1, rv b2_0, rv b8_0, rv b29_0] [] _
    refine XS.iload X29.here hx rfl (hb hby at_97) rfl ?_
    refine XS.ifYes X29.here hx rfl (pc0 := 99) (pc' := 110) rfl (hb hby at_99) rfl ((if0 _ _).trans (feq (by decide : ¬ ((1 : Int32) = (0 : Int32)))).2) (by decide) (by decide) ?_
    refine XS.aload X29.here hx rfl (hb hby at_110) rfl rfl ?_
    refine st49 _ ?_
    refine XS.iload X49.here hx rfl (hb hby at_115) rfl ?_
    refine XS.iconst X49.here hx rfl (hb hby at_117) ?_
    refine XS.iadd X49.here hx rfl (hb hby at_118) rfl ?_
    show SS p e below T49 m 119 #[iv p1, iv p2, iv p3, iv p4, iv p5, iv (1 : Int32), iv (1 : Int32), iv c0, iv c1, iv d0, iv d1, rv b2_0, rv b8_0, rv b29_0] [(.int (3 : Int32)), (.int (4 : Int32))] _
    refine XS.iload X49.here hx rfl (hb hby at_119) rfl ?_
    refine XS.iadd X49.here hx rfl (hb hby at_121) rfl ?_
    show SS p e below T49 m 122 #[iv p1, iv p2, iv p3, iv p4, iv p5, iv (1 : Int32), iv (1 : Int32), iv c0, iv c1, iv d0, iv d1, rv b2_0, rv b8_0, rv b29_0] [(.int (4 : Int32)), (.int (4 : Int32))] _
    refine XS.icmpYes X49.here hx rfl (pc0 := 122) (pc' := 127) rfl (hb hby at_122) rfl (teq (by decide : (4 : Int32) = (4 : Int32))).1 (by decide) (by decide) ?_
    refine XS.aload X49.here hx rfl (hb hby at_127) rfl rfl ?_
    refine XS.iconst X49.here hx rfl (hb hby at_129) ?_
    refine st51 _ ?_
    refine XS.iload X51.here hx rfl (hb hby at_133) rfl ?_
    refine XS.icmpYes X51.here hx rfl (pc0 := 135) (pc' := 140) rfl (hb hby at_135) rfl (teq (rfl : c0 = c0)).1 (by decide) (by decide) ?_
    refine XS.iload X51.here hx rfl (hb hby at_140) rfl ?_
    refine XS.iconst X51.here hx rfl (hb hby at_142) ?_
    refine XS.icmpYes X51.here hx rfl (pc0 := 143) (pc' := 159) rfl (hb hby at_143) rfl (feq (by decide : ¬ ((1 : Int32) = (2 : Int32)))).2 (by decide) (by decide) ?_
    refine XS.aload X51.here hx rfl (hb hby at_159) rfl rfl ?_
    show SS p e below T51 m 161 #[iv p1, iv p2, iv p3, iv p4, iv p5, iv (1 : Int32), iv (1 : Int32), iv c0, iv c1, iv d0, iv d1, rv b2_0, rv b8_0, rv b29_0] [(.ref b29_0)] _
    refine XS.iload X51.here hx rfl (hb hby at_161) rfl ?_
    refine st53 _ ?_
    refine XS.bipush X53.here hx rfl (hb hby at_166) ?_
    refine XS.icmpYes X53.here hx rfl (pc0 := 168) (pc' := 173) rfl (hb hby at_168) rfl (teq (by decide : (58 : Int32) = (58 : Int32))).1 (by decide) (by decide) ?_
    refine XS.aload X53.here hx rfl (hb hby at_173) rfl rfl ?_
    refine XS.iload X53.here hx rfl (hb hby at_175) rfl ?_
    refine XS.iconst X53.here hx rfl (hb hby at_177) ?_
    refine XS.iadd X53.here hx rfl (hb hby at_178) rfl ?_
    show SS p e below T53 m 179 #[iv p1, iv p2, iv p3, iv p4, iv p5, iv (1 : Int32), iv (1 : Int32), iv c0, iv c1, iv d0, iv d1, rv b2_0, rv b8_0, rv b29_0] [(.int (2 : Int32)), (.ref b29_0)] _
    refine st55 _ ?_
    refine XS.bipush X55.here hx rfl (hb hby at_182) ?_
    refine XS.icmpYes X55.here hx rfl (pc0 := 184) (pc' := 189) rfl (hb hby at_184) rfl (teq (by decide : (32 : Int32) = (32 : Int32))).1 (by decide) (by decide) ?_
    refine XS.iload X55.here hx rfl (hb hby at_189) rfl ?_
    refine XS.iconst X55.here hx rfl (hb hby at_191) ?_
    refine XS.icmpNo X55.here hx rfl (hb hby at_192) rfl (flt (by decide : ¬ ((1 : Int32) < (1 : Int32)))).1 ?_
    refine XS.aload X55.here hx rfl (hb hby at_195) rfl rfl ?_
    refine XS.iload X55.here hx rfl (hb hby at_197) rfl ?_
    refine XS.iconst X55.here hx rfl (hb hby at_199) ?_
    refine XS.iadd X55.here hx rfl (hb hby at_200) rfl ?_
    show SS p e below T55 m 201 #[iv p1, iv p2, iv p3, iv p4, iv p5, iv (1 : Int32), iv (1 : Int32), iv c0, iv c1, iv d0, iv d1, rv b2_0, rv b8_0, rv b29_0] [(.int (3 : Int32)), (.ref b29_0)] _
    refine st57 _ ?_
    refine XS.iload X57.here hx rfl (hb hby at_204) rfl ?_
    refine XS.icmpYes X57.here hx rfl (pc0 := 206) (pc' := 211) rfl (hb hby at_206) rfl (teq (rfl : d0 = d0)).1 (by decide) (by decide) ?_
    refine XS.iload X57.here hx rfl (hb hby at_211) rfl ?_
    refine XS.iconst X57.here hx rfl (hb hby at_213) ?_
    refine XS.icmpYes X57.here hx rfl (pc0 := 214) (pc' := 233) rfl (hb hby at_214) rfl (feq (by decide : ¬ ((1 : Int32) = (2 : Int32)))).2 (by decide) (by decide) ?_
    refine XS.iconst X57.here hx rfl (hb hby at_233) ?_
    exact retN X57 hx (t := .boolean) hret (by simp) (hb hby at_234) hr
theorem ef_481 (m : MethodId) (a1 : Addr) : entryFrame m #[(.ref a1), (.int (5 : Int32))] 3 = mkF m 0 #[rv a1, iv (5 : Int32), .unset] [] := by first | (simp [entryFrame, mkF, argsToLocals, Value.category]; done) | rfl
def Q75_ensureCapacityInternal (Z : State) (a1 : Addr) (a2 : Addr) (k3 : ClassId) (p4 : Int32) (h0 : Heap) (n0 : Nat) (v : Option Value) (h : Heap) (L : List Loc) : Prop := v = none ∧ Fr n0 L ∧ h = h0
theorem rm75_ensureCapacityInternal (l : Launch) (Z : State) (a0 : Array Value) (hw : HW Z a0) (a1 : Addr) (a2 : Addr) (k3 : ClassId) (p4 : Int32) (h0 : Heap) (n0 : Nat) (O0 : Old Z n0 h0) (F_0 : FA41 Z h0 a1 (.ref a2)) (F_1 : Arv Z h0 a2 k3 .byte (16 : Int32) [(.int p4), (.int (58 : Int32)), (.int (32 : Int32)), o0, o0, o0, o0, o0, o0, o0, o0, o0, o0, o0, o0, o0] o0) (F_2 : FA42 Z h0 a1 o0) :
    Met l Z [] MY15 jdk_68_method_9_code 3 none ({ frames := 0, cells := 0, slots := 0, locals := 0 } : Room) #[(.ref a1), (.int (5 : Int32))] h0 (Q75_ensureCapacityInternal Z a1 a2 k3 p4 h0 n0) := by
  have W := @own_W _ _ hw
  refine own_mk (plainFor_of_name pn_206) ?_
  intro p e s m below meth c s₁ hZ hx hby hml hown hnm hret hlk X0 e0
  have N0 := Fr.nil n0
  obtain ⟨T1, X1, e1, st1⟩ := getF X0 hx hZ hown (host := "") (Or.inl (W 83 rfl)) Via.refl e0 F_0 (g := (mkF m 1 #[rv a1, iv (5 : Int32), .unset] [(.ref a1)])) rfl rfl (hb hby d_243)
  obtain ⟨c2, A2, q2, S2, N2, H2, G2⟩ := id F_1
  obtain ⟨T3, X3, e3, st3⟩ := getF X1 hx hZ hown (host := "") (Or.inl (W 85 rfl)) Via.refl e1 F_2 (g := (mkF m 6 #[rv a1, iv (5 : Int32), .unset] [(.ref a1), (.int (16 : Int32))])) rfl rfl (hb hby d_246)
  refine ⟨T3, none, _, _, _, X3, by decide, by decide, (fun _ => rfl), ?_, fun fs hr => castTop (ef_481 m a1) ?_⟩
  · show Q75_ensureCapacityInternal Z a1 a2 k3 p4 h0 n0 _ T3.heap _
    rw [e3]
    exact ⟨rfl, N0, rfl⟩
  · show SS p e below s₁ m 0 #[rv a1, iv (5 : Int32), .unset] [] _
    refine XS.aloadN X0.here hx rfl (hb hby d_242) rfl rfl ?_
    refine st1 _ ?_
    refine X1.arraylength hx (by rw [e1]; exact A2.1) (State.isArrayOf_alike hZ.alike A2.2.1) (g := (mkF m 4 #[rv a1, iv (5 : Int32), .unset] [(.ref a2)])) rfl rfl (hb hby d_244) _ ?_
    rw [len_of S2 N2]
    refine XS.aloadN X1.here hx rfl (hb hby d_245) rfl rfl ?_
    refine st3 _ ?_
    refine XS.ishr X3.here hx rfl (hb hby d_247) rfl ?_
    show SS p e below T3 m 10 #[rv a1, iv (5 : Int32), .unset] [(.int (16 : Int32))] _
    refine XS.istoreN X3.here hx rfl (hb hby d_248) rfl (l' := #[rv a1, iv (5 : Int32), iv (16 : Int32)]) rfl ?_
    refine XS.iloadN X3.here hx rfl (hb hby d_249) rfl ?_
    refine XS.iloadN X3.here hx rfl (hb hby d_250) rfl ?_
    refine XS.isub X3.here hx rfl (hb hby d_251) rfl ?_
    show SS p e below T3 m 14 #[rv a1, iv (5 : Int32), iv (16 : Int32)] [(.int (-11 : Int32))] _
    refine XS.ifYes X3.here hx rfl (pc0 := 14) (pc' := 38) rfl (hb hby d_252) rfl ((if0 _ _).trans (flt (by decide : ¬ ((0 : Int32) < (-11 : Int32)))).2.2.2) (by decide) (by decide) ?_
    exact X3.returnOut hx hret (hb hby d_253) hr
def Q76_getBytes (Z : State) (a1 : Addr) (a2 : Addr) (p3 : Int32) (a4 : Addr) (k5 : ClassId) (p6 : Int32) (p7 : Int32) (k8 : ClassId) (p9 : Int32) (h0 : Heap) (n0 : Nat) (v : Option Value) (h : Heap) (L : List Loc) : Prop := v = none ∧ Fr n0 L ∧ Keep h0 h [a2] ∧ Arv Z h a2 k8 .byte (16 : Int32) [(.int p9), (.int (58 : Int32)), (.int (32 : Int32)), (.int p6), (.int p7), o0, o0, o0, o0, o0, o0, o0, o0, o0, o0, o0] o0
theorem rm76_getBytes (l : Launch) (Z : State) (a0 : Array Value) (hw : HW Z a0) (a1 : Addr) (a2 : Addr) (p3 : Int32) (a4 : Addr) (k5 : ClassId) (p6 : Int32) (p7 : Int32) (k8 : ClassId) (p9 : Int32) (h0 : Heap) (n0 : Nat) (O0 : Old Z n0 h0) (F_0 : EA44 Z h0 a1) (S_1 : SA48 Z Z.heap (.int p3)) (hc_2 : ¬ (p3 = (0 : Int32))) (F_3 : FA38 Z h0 a1 o0) (F_4 : FA37 Z h0 a1 (.ref a4)) (F_5 : Arv Z h0 a4 k5 .byte (2 : Int32) [(.int p6), (.int p7)] o0) (F_6 : Arv Z h0 a2 k8 .byte (16 : Int32) [(.int p9), (.int (58 : Int32)), (.int (32 : Int32)), o0, o0, o0, o0, o0, o0, o0, o0, o0, o0, o0, o0, o0] o0) (g_7 : n0 ≤ a2) :
    Met l Z [] MY17 jdk_42_method_147_code 4 none ({ frames := 1, cells := 0, slots := 0, locals := 27 } : Room) #[(.ref a1), (.ref a2), (.int (3 : Int32)), o0] h0 (Q76_getBytes Z a1 a2 p3 a4 k5 p6 p7 k8 p9 h0 n0) := by
  have W := @own_W _ _ hw
  refine own_mk (plainFor_of_name pn_30) ?_
  intro p e s m below meth c s₁ hZ hx hby hml hown hnm hret hlk X0 e0
  have N0 := Fr.nil n0
  obtain ⟨_, T1, L1, X1, hQ1, st1⟩ := own_cv X0 hx hZ hown hml (W 102 rfl) (W 103 rfl) (notFace_of_selects (W 105 rfl)) (W 105 rfl) (W 104 rfl) (W 7 rfl) (W 106 rfl) (rm24_coder l Z a0 hw a1 p3 h0 n0 O0 (S_1) (hc_2) (F_3)) e0 F_0 (hb hby d_280) 0 #[rv a1, rv a2, iv (3 : Int32), .val o0] [] [] pd_231
  obtain ⟨rfl, N1q, K1⟩ := hQ1
  have N2 := Fr.app N0 N1q
  obtain ⟨T3, X3, e3, st3⟩ := getF X1 hx hZ hown (host := "") (Or.inl (W 25 rfl)) Via.refl K1 F_4 (g := (mkF m 9 #[rv a1, rv a2, iv (3 : Int32), .val o0] [(.ref a1)])) rfl rfl (hb hby d_284)
  obtain ⟨T4, X4, e4, st4⟩ := getF X3 hx hZ hown (host := "") (Or.inl (W 25 rfl)) Via.refl e3 F_4 (g := (mkF m 18 #[rv a1, rv a2, iv (3 : Int32), .val o0] [(.ref a1), (.int (3 : Int32)), (.ref a2), o0, (.ref a4)])) rfl rfl (hb hby d_291)
  obtain ⟨c5, A5, q5, S5, N5, H5, G5⟩ := id F_5
  obtain ⟨T6, h6, Lc6, X6, e6, N6, K6, V6, st6⟩ := cpA X4 hx hZ hown (W 130 rfl) (W 133 rfl) (W 131 rfl) (W 132 rfl) e4 F_5 F_6 (Or.inl ⟨rfl, rfl⟩) (sp := (0 : Int32)) (dp := (3 : Int32)) (nn := (2 : Int32)) (by decide) (by decide) (by decide) (by decide) (by decide) (us := [(.int p6), (.int p7)]) rfl (Nat.le_of_ble_eq_true rfl) N2 g_7 (g := (mkF m 22 #[rv a1, rv a2, iv (3 : Int32), .val o0] [(.int (2 : Int32)), (.int (3 : Int32)), (.ref a2), o0, (.ref a4)])) rfl (by rw [hml]; rfl) rfl (hb hby d_293) (by decide) (W := 0) (by show 2 * 0 + _ ≤ _; exact Nat.le_of_eq rfl) (by decide)
  have O7 := O0.keep K6 (allS g_7 all0)
  have K8 : Keep h0 h6 [a2] := Keep.trans (Keep.refl h0 [a2]) K6 (allS (Or.inl (List.mem_of_getElem? (i := 0) rfl)) all0)
  have v9 : Arv Z h6 a2 k8 .byte (16 : Int32) [(.int p9), (.int (58 : Int32)), (.int (32 : Int32)), (.int p6), (.int p7), o0, o0, o0, o0, o0, o0, o0, o0, o0, o0, o0] o0 := V6
  refine ⟨T6, none, _, _, _, X6, by decide, by decide, (fun _ => rfl), ?_, fun fs hr => castTop (ef_323 m a1 a2) ?_⟩
  · show Q76_getBytes Z a1 a2 p3 a4 k5 p6 p7 k8 p9 h0 n0 _ T6.heap _
    rw [e6]
    exact ⟨rfl, N6, K8, v9⟩
  · show SS p e below s₁ m 0 #[rv a1, rv a2, iv (3 : Int32), .val o0] [] _
    refine XS.aloadN X0.here hx rfl (hb hby d_279) rfl rfl ?_
    refine st1 _ ?_
    refine XS.iloadN X1.here hx rfl (hb hby d_281) rfl ?_
    refine XS.icmpNo X1.here hx rfl (hb hby d_282) rfl (teq (by decide : (0 : Int32) = (0 : Int32))).2 ?_
    refine XS.aloadN X1.here hx rfl (hb hby d_283) rfl rfl ?_
    refine st3 _ ?_
    refine XS.iconst X3.here hx rfl (hb hby d_285) ?_
    refine XS.aloadN X3.here hx rfl (hb hby d_286) rfl rfl ?_
    refine XS.iloadN X3.here hx rfl (hb hby d_287) rfl ?_
    refine XS.iloadN X3.here hx rfl (hb hby d_288) rfl ?_
    show SS p e below T3 m 16 #[rv a1, rv a2, iv (3 : Int32), .val o0] [o0, (.int (3 : Int32)), (.ref a2), o0, (.ref a4)] _
    refine XS.ishl X3.here hx rfl (hb hby d_289) rfl ?_
    show SS p e below T3 m 17 #[rv a1, rv a2, iv (3 : Int32), .val o0] [(.int (3 : Int32)), (.ref a2), o0, (.ref a4)] _
    refine XS.aloadN X3.here hx rfl (hb hby d_290) rfl rfl ?_
    refine st4 _ ?_
    refine X4.arraylength hx (by rw [e4]; exact A5.1) (State.isArrayOf_alike hZ.alike A5.2.1) (g := (mkF m 21 #[rv a1, rv a2, iv (3 : Int32), .val o0] [(.ref a4), (.int (3 : Int32)), (.ref a2), o0, (.ref a4)])) rfl rfl (hb hby d_292) _ ?_
    rw [len_of S5 N5]
    refine st6 _ ?_
    refine XS.goto X6.here hx rfl (pc0 := 25) (pc' := 43) rfl (hb hby d_294) (by decide) (by decide) ?_
    exact X6.returnOut hx hret (hb hby d_295) hr
def Q77_putStringAt (Z : State) (a1 : Addr) (a2 : Addr) (p3 : Int32) (a4 : Addr) (a5 : Addr) (k6 : ClassId) (p7 : Int32) (p8 : Int32) (k9 : ClassId) (p10 : Int32) (h0 : Heap) (n0 : Nat) (v : Option Value) (h : Heap) (L : List Loc) : Prop := v = none ∧ Fr n0 L ∧ Keep h0 h [a4] ∧ Arv Z h a4 k9 .byte (16 : Int32) [(.int p10), (.int (58 : Int32)), (.int (32 : Int32)), (.int p7), (.int p8), o0, o0, o0, o0, o0, o0, o0, o0, o0, o0, o0] o0
theorem rm77_putStringAt (l : Launch) (Z : State) (a0 : Array Value) (hw : HW Z a0) (a1 : Addr) (a2 : Addr) (p3 : Int32) (a4 : Addr) (a5 : Addr) (k6 : ClassId) (p7 : Int32) (p8 : Int32) (k9 : ClassId) (p10 : Int32) (h0 : Heap) (n0 : Nat) (O0 : Old Z n0 h0) (F_0 : EA47 Z h0 a1) (S_1 : SA48 Z Z.heap (.int p3)) (hc_2 : ¬ (p3 = (0 : Int32))) (F_3 : FA42 Z h0 a1 o0) (F_4 : EA44 Z h0 a2) (F_5 : FA38 Z h0 a2 o0) (F_6 : FA41 Z h0 a1 (.ref a4)) (F_7 : FA37 Z h0 a2 (.ref a5)) (F_8 : Arv Z h0 a5 k6 .byte (2 : Int32) [(.int p7), (.int p8)] o0) (F_9 : Arv Z h0 a4 k9 .byte (16 : Int32) [(.int p10), (.int (58 : Int32)), (.int (32 : Int32)), o0, o0, o0, o0, o0, o0, o0, o0, o0, o0, o0, o0, o0] o0) (g_10 : n0 ≤ a4) :
    Met l Z [] MY18 jdk_68_method_73_code 3 none ({ frames := 2, cells := 0, slots := 0, locals := 42 } : Room) #[(.ref a1), (.int (3 : Int32)), (.ref a2)] h0 (Q77_putStringAt Z a1 a2 p3 a4 a5 k6 p7 p8 k9 p10 h0 n0) := by
  have W := @own_W _ _ hw
  refine own_mk (plainFor_of_name pn_206) ?_
  intro p e s m below meth c s₁ hZ hx hby hml hown hnm hret hlk X0 e0
  have N0 := Fr.nil n0
  obtain ⟨_, T1, L1, X1, hQ1, st1⟩ := own_cv X0 hx hZ hown hml (W 119 rfl) (own_decl (y := MY16) (W 120 rfl) (W 123 rfl)) (notFace_of_selects (W 122 rfl)) (W 122 rfl) (W 120 rfl) (W 79 rfl) (W 123 rfl) (rm27_inflateIfNeededFor l Z a0 hw a1 a2 p3 h0 n0 O0 (S_1) (hc_2) (F_3) (F_4) (F_5)) e0 F_0 (hb hby d_262) 0 #[rv a1, iv (3 : Int32), rv a2] [(.ref a2)] [] pd_271
  obtain ⟨rfl, N1q, K1⟩ := hQ1
  have N2 := Fr.app N0 N1q
  obtain ⟨T3, X3, e3, st3⟩ := getF X1 hx hZ hown (host := "") (Or.inl (W 83 rfl)) Via.refl K1 F_6 (g := (mkF m 7 #[rv a1, iv (3 : Int32), rv a2] [(.ref a1), (.ref a2)])) rfl rfl (hb hby d_274)
  obtain ⟨T4, X4, e4, st4⟩ := getF X3 hx hZ hown (host := "") (Or.inl (W 85 rfl)) Via.refl e3 F_3 (g := (mkF m 12 #[rv a1, iv (3 : Int32), rv a2] [(.ref a1), (.int (3 : Int32)), (.ref a4), (.ref a2)])) rfl rfl (hb hby d_277)
  obtain ⟨_, T5, L5, X5, hQ5, st5⟩ := own_cv X4 hx hZ hown hml (W 125 rfl) (W 126 rfl) (notFace_of_selects (W 128 rfl)) (W 128 rfl) (W 127 rfl) (W 7 rfl) (W 129 rfl) (rm76_getBytes l Z a0 hw a2 a4 p3 a5 k6 p7 p8 k9 p10 h0 n0 O0 (F_4) (S_1) (hc_2) (F_5) (F_7) (F_8) (F_9) (g_10)) e4 F_4 (hb hby d_278) 0 #[rv a1, iv (3 : Int32), rv a2] [(.ref a4), (.int (3 : Int32)), o0] [] pd_297
  obtain ⟨rfl, N5q, K5, F5_0⟩ := hQ5
  have N6 := Fr.app N2 N5q
  have O7 := O0.keep K5 (allS g_10 all0)
  have K8 : Keep h0 T5.heap [a4] := Keep.trans (Keep.refl h0 [a4]) K5 (allS (Or.inl (List.mem_of_getElem? (i := 0) rfl)) all0)
  refine ⟨T5, none, _, _, _, X5, by decide, by decide, (fun _ => rfl), ?_, fun fs hr => castTop (ef_324 m a1 a2) ?_⟩
  · show Q77_putStringAt Z a1 a2 p3 a4 a5 k6 p7 p8 k9 p10 h0 n0 _ T5.heap _
    exact ⟨rfl, N6, K8, F5_0⟩
  · show SS p e below s₁ m 0 #[rv a1, iv (3 : Int32), rv a2] [] _
    refine XS.aloadN X0.here hx rfl (hb hby d_260) rfl rfl ?_
    refine XS.aloadN X0.here hx rfl (hb hby d_261) rfl rfl ?_
    refine st1 _ ?_
    refine XS.aloadN X1.here hx rfl (hb hby d_272) rfl rfl ?_
    refine XS.aloadN X1.here hx rfl (hb hby d_273) rfl rfl ?_
    refine st3 _ ?_
    refine XS.iloadN X3.here hx rfl (hb hby d_275) rfl ?_
    refine XS.aloadN X3.here hx rfl (hb hby d_276) rfl rfl ?_
    refine st4 _ ?_
    refine st5 _ ?_
    show SS p e below T5 m 18 #[rv a1, iv (3 : Int32), rv a2] [] _
    exact X5.returnOut hx hret (hb hby d_298) hr
def Q78_append (Z : State) (a1 : Addr) (a2 : Addr) (a3 : Addr) (k4 : ClassId) (p5 : Int32) (p6 : Int32) (p7 : Int32) (a8 : Addr) (k9 : ClassId) (p10 : Int32) (h0 : Heap) (n0 : Nat) (v : Option Value) (h : Heap) (L : List Loc) : Prop := v = some (.ref a1) ∧ Fr n0 L ∧ Keep h0 h [a8, a1] ∧ FA43 Z h a1 (.int (5 : Int32)) ∧ FA41 Z h a1 (.ref a8) ∧ Arv Z h a8 k9 .byte (16 : Int32) [(.int p10), (.int (58 : Int32)), (.int (32 : Int32)), (.int p5), (.int p6), o0, o0, o0, o0, o0, o0, o0, o0, o0, o0, o0] o0 ∧ FA42 Z h a1 o0
theorem rm78_append (l : Launch) (Z : State) (a0 : Array Value) (hw : HW Z a0) (a1 : Addr) (a2 : Addr) (a3 : Addr) (k4 : ClassId) (p5 : Int32) (p6 : Int32) (p7 : Int32) (a8 : Addr) (k9 : ClassId) (p10 : Int32) (h0 : Heap) (n0 : Nat) (O0 : Old Z n0 h0) (F_0 : EA44 Z h0 a2) (F_1 : FA37 Z h0 a2 (.ref a3)) (F_2 : Arv Z h0 a3 k4 .byte (2 : Int32) [(.int p5), (.int p6)] o0) (S_3 : SA48 Z Z.heap (.int p7)) (hc_4 : ¬ (p7 = (0 : Int32))) (F_5 : FA38 Z h0 a2 o0) (F_6 : FA43 Z h0 a1 (.int (3 : Int32))) (F_7 : EA47 Z h0 a1) (F_8 : FA41 Z h0 a1 (.ref a8)) (F_9 : Arv Z h0 a8 k9 .byte (16 : Int32) [(.int p10), (.int (58 : Int32)), (.int (32 : Int32)), o0, o0, o0, o0, o0, o0, o0, o0, o0, o0, o0, o0, o0] o0) (F_10 : FA42 Z h0 a1 o0) (g_11 : n0 ≤ a8) (ne_12 : a1 ≠ a8) (g_13 : n0 ≤ a1) :
    Met l Z [] MY19 jdk_68_method_22_code 3 (some (.object "java/lang/AbstractStringBuilder")) ({ frames := 3, cells := 0, slots := 0, locals := 56 } : Room) #[(.ref a1), (.ref a2)] h0 (Q78_append Z a1 a2 a3 k4 p5 p6 p7 a8 k9 p10 h0 n0) := by
  have W := @own_W _ _ hw
  refine own_mk (plainFor_of_name pn_206) ?_
  intro p e s m below meth c s₁ hZ hx hby hml hown hnm hret hlk X0 e0
  have N0 := Fr.nil n0
  obtain ⟨_, T1, L1, X1, hQ1, st1⟩ := own_cv X0 hx hZ hown hml (W 97 rfl) (W 98 rfl) (notFace_of_selects (W 100 rfl)) (W 100 rfl) (W 99 rfl) (W 7 rfl) (W 101 rfl) (rm25_length l Z a0 hw a2 a3 k4 (2 : Int32) [(.int p5), (.int p6)] p7 h0 n0 O0 (F_1) (F_2) (F_0) (S_3) (hc_4) (F_5) ((by decide))) e0 F_0 (hb hby d_219) 0 #[rv a1, rv a2, .unset] [] [] pd_234
  obtain ⟨rfl, N1q, K1⟩ := hQ1
  have N2 := Fr.app N0 N1q
  obtain ⟨T3, X3, e3, st3⟩ := getF X1 hx hZ hown (host := "") (Or.inl (W 107 rfl)) Via.refl K1 F_6 (g := (mkF m 16 #[rv a1, rv a2, iv (2 : Int32)] [(.ref a1), (.ref a1)])) rfl rfl (hb hby d_238)
  obtain ⟨_, T4, L4, X4, hQ4, st4⟩ := own_cv X3 hx hZ hown hml (W 109 rfl) (own_decl (y := MY15) (W 110 rfl) (W 113 rfl)) (notFace_of_selects (W 112 rfl)) (W 112 rfl) (W 110 rfl) (W 79 rfl) (W 113 rfl) (rm75_ensureCapacityInternal l Z a0 hw a1 a8 k9 p10 h0 n0 O0 (F_8) (F_9) (F_10)) e3 F_7 (hb hby d_241) 0 #[rv a1, rv a2, iv (2 : Int32)] [(.int (5 : Int32))] [] pd_207
  obtain ⟨rfl, N4q, K4⟩ := hQ4
  have N5 := Fr.app N2 N4q
  obtain ⟨T6, X6, e6, st6⟩ := getF X4 hx hZ hown (host := "") (Or.inl (W 107 rfl)) Via.refl K4 F_6 (g := (mkF m 26 #[rv a1, rv a2, iv (2 : Int32)] [(.ref a1), (.ref a1)])) rfl rfl (hb hby d_257)
  obtain ⟨_, T7, L7, X7, hQ7, st7⟩ := own_cv X6 hx hZ hown hml (W 114 rfl) (own_decl (y := MY18) (W 115 rfl) (W 118 rfl)) (notFace_of_selects (W 117 rfl)) (W 117 rfl) (W 115 rfl) (W 79 rfl) (W 118 rfl) (rm77_putStringAt l Z a0 hw a1 a2 p7 a8 a3 k4 p5 p6 k9 p10 h0 n0 O0 (F_7) (S_3) (hc_4) (F_10) (F_0) (F_5) (F_8) (F_1) (F_2) (F_9) (g_11)) e6 F_7 (hb hby d_259) 0 #[rv a1, rv a2, iv (2 : Int32)] [(.int (3 : Int32)), (.ref a2)] [] pd_300
  obtain ⟨rfl, N7q, K7, F7_0⟩ := hQ7
  have N8 := Fr.app N5 N7q
  have O9 := O0.keep K7 (allS g_11 all0)
  have K10 : Keep h0 T7.heap [a8, a1] := Keep.trans (Keep.refl h0 [a8, a1]) K7 (allS (Or.inl (List.mem_of_getElem? (i := 0) rfl)) all0)
  have f12 := (F_6.keep K7 (ninS ne_12 nin0))
  obtain ⟨T11, X11, e11, st11⟩ := getF X7 hx hZ hown (host := "") (Or.inl (W 107 rfl)) Via.refl rfl f12 (g := (mkF m 35 #[rv a1, rv a2, iv (2 : Int32)] [(.ref a1), (.ref a1)])) rfl rfl (hb hby d_303)
  have f14 := (F_7.keep K7)
  obtain ⟨T13, h13, X13, e13, W13, st13⟩ := putF X11 hx hZ hown (host := "") (Or.inl (W 107 rfl)) Via.refl e11 f12 f14 (Or.inl (W 108 rfl)) (W 70 rfl) (ty := .int) (by decide) rfl rfl (g := (mkF m 40 #[rv a1, rv a2, iv (2 : Int32)] [(.int (5 : Int32)), (.ref a1)])) rfl rfl (hb hby d_306)
  have O15 := O9.wr W13 g_13
  have K16 : Keep h0 h13 [a8, a1] := Keep.wr K10 W13 (Or.inl (List.mem_of_getElem? (i := 1) rfl))
  have f17 : FA43 Z h13 a1 (.int (5 : Int32)) := (f12.same W13)
  have N18 := Fr.snoc X13 N8 g_13
  have f19 := ((F_8.keep K7 (ninS ne_12 nin0)).other W13 (Or.inr (slot_ne (Or.inl (W 84 rfl)) (Or.inl (W 108 rfl)) (by decide) (t := (.array .byte)) (t' := .int) (by decide) (by decide))))
  have f20 := (F7_0.other W13 (Ne.symm ne_12))
  have f21 := ((F_10.keep K7 (ninS ne_12 nin0)).other W13 (Or.inr (slot_ne (Or.inl (W 86 rfl)) (Or.inl (W 108 rfl)) (by decide) (t := .byte) (t' := .int) (by decide) (by decide))))
  refine ⟨T13, some (.ref a1), _, _, _, X13, by decide, by decide, nofun, ?_, fun fs hr => castTop (ef_309 m a1 a2) ?_⟩
  · show Q78_append Z a1 a2 a3 k4 p5 p6 p7 a8 k9 p10 h0 n0 _ T13.heap _
    rw [e13]
    exact ⟨rfl, N18, K16, f17, f19, f20, f21⟩
  · show SS p e below s₁ m 0 #[rv a1, rv a2, .unset] [] _
    refine XS.aloadN X0.here hx rfl (hb hby d_216) rfl rfl ?_
    refine XS.ifnonnullYes X0.here hx rfl (pc0 := 1) (pc' := 9) rfl (hb hby d_217) rfl (by decide) (by decide) ?_
    refine XS.aloadN X0.here hx rfl (hb hby d_218) rfl rfl ?_
    refine st1 _ ?_
    refine XS.istoreN X1.here hx rfl (hb hby d_235) rfl (l' := #[rv a1, rv a2, iv (2 : Int32)]) rfl ?_
    refine XS.aloadN X1.here hx rfl (hb hby d_236) rfl rfl ?_
    refine XS.aloadN X1.here hx rfl (hb hby d_237) rfl rfl ?_
    refine st3 _ ?_
    refine XS.iloadN X3.here hx rfl (hb hby d_239) rfl ?_
    refine XS.iadd X3.here hx rfl (hb hby d_240) rfl ?_
    show SS p e below T3 m 21 #[rv a1, rv a2, iv (2 : Int32)] [(.int (5 : Int32)), (.ref a1)] _
    refine st4 _ ?_
    refine XS.aloadN X4.here hx rfl (hb hby d_255) rfl rfl ?_
    refine XS.aloadN X4.here hx rfl (hb hby d_256) rfl rfl ?_
    refine st6 _ ?_
    refine XS.aloadN X6.here hx rfl (hb hby d_258) rfl rfl ?_
    refine st7 _ ?_
    refine XS.aloadN X7.here hx rfl (hb hby d_301) rfl rfl ?_
    refine XS.dup X7.here hx rfl (hb hby d_302) rfl rfl ?_
    refine st11 _ ?_
    refine XS.iloadN X11.here hx rfl (hb hby d_304) rfl ?_
    show SS p e below T11 m 39 #[rv a1, rv a2, iv (2 : Int32)] [(.int (2 : Int32)), (.int (3 : Int32)), (.ref a1)] _
    refine XS.iadd X11.here hx rfl (hb hby d_305) rfl ?_
    show SS p e below T11 m 40 #[rv a1, rv a2, iv (2 : Int32)] [(.int (5 : Int32)), (.ref a1)] _
    refine st13 _ ?_
    refine XS.aloadN X13.here hx rfl (hb hby d_307) rfl rfl ?_
    exact retOut X13 hx hret rfl (Or.inr (Or.inr (Or.inr (Or.inr ⟨rfl, rfl, rfl⟩)))) (hb hby d_308) hr
def Q79_append (Z : State) (a1 : Addr) (a2 : Addr) (a3 : Addr) (k4 : ClassId) (p5 : Int32) (p6 : Int32) (p7 : Int32) (a8 : Addr) (k9 : ClassId) (p10 : Int32) (h0 : Heap) (n0 : Nat) (v : Option Value) (h : Heap) (L : List Loc) : Prop := v = some (.ref a1) ∧ Fr n0 L ∧ Keep h0 h [a1, a8] ∧ FA43 Z h a1 (.int (5 : Int32)) ∧ FA41 Z h a1 (.ref a8) ∧ Arv Z h a8 k9 .byte (16 : Int32) [(.int p10), (.int (58 : Int32)), (.int (32 : Int32)), (.int p5), (.int p6), o0, o0, o0, o0, o0, o0, o0, o0, o0, o0, o0] o0 ∧ FA42 Z h a1 o0
theorem rm79_append (l : Launch) (Z : State) (a0 : Array Value) (hw : HW Z a0) (a1 : Addr) (a2 : Addr) (a3 : Addr) (k4 : ClassId) (p5 : Int32) (p6 : Int32) (p7 : Int32) (a8 : Addr) (k9 : ClassId) (p10 : Int32) (h0 : Heap) (n0 : Nat) (O0 : Old Z n0 h0) (F_0 : EA44 Z h0 a2) (F_1 : FA37 Z h0 a2 (.ref a3)) (F_2 : Arv Z h0 a3 k4 .byte (2 : Int32) [(.int p5), (.int p6)] o0) (S_3 : SA48 Z Z.heap (.int p7)) (hc_4 : ¬ (p7 = (0 : Int32))) (F_5 : FA38 Z h0 a2 o0) (F_6 : FA43 Z h0 a1 (.int (3 : Int32))) (F_7 : EA47 Z h0 a1) (F_8 : FA41 Z h0 a1 (.ref a8)) (F_9 : Arv Z h0 a8 k9 .byte (16 : Int32) [(.int p10), (.int (58 : Int32)), (.int (32 : Int32)), o0, o0, o0, o0, o0, o0, o0, o0, o0, o0, o0, o0, o0] o0) (F_10 : FA42 Z h0 a1 o0) (g_11 : n0 ≤ a8) (ne_12 : a1 ≠ a8) (g_13 : n0 ≤ a1) :
    Met l Z [] MY20 jdk_67_method_7_code 2 (some (.object "java/lang/StringBuilder")) ({ frames := 4, cells := 0, slots := 0, locals := 70 } : Room) #[(.ref a1), (.ref a2)] h0 (Q79_append Z a1 a2 a3 k4 p5 p6 p7 a8 k9 p10 h0 n0) := by
  have W := @own_W _ _ hw
  refine own_mk (plainFor_of_name pn_209) ?_
  intro p e s m below meth c s₁ hZ hx hby hml hown hnm hret hlk X0 e0
  have N0 := Fr.nil n0
  obtain ⟨_, _, ⟨T1, L1, k1, n1⟩, -, X1, ⟨Lc1, hQ1, l1, y1, z1⟩, st1⟩ := superBack X0 hx hZ (y := MY19) hown (W 92 rfl) (own_same (y := MY19) (by decide) (W 93 rfl) (own_nf (args := a0) (y := MY15) rfl (W 112 rfl))) (W 93 rfl) (W 94 rfl) (by decide) (backOf (W := 0) (rm78_append l Z a0 hw a1 a2 a3 k4 p5 p6 p7 a8 k9 p10 h0 n0 O0 (F_0) (F_1) (F_2) (S_3) (hc_4) (F_5) (F_6) (F_7) (F_8) (F_9) (F_10) (g_11) (ne_12) (g_13)) hZ (W 96 rfl) (W 79 rfl) (by decide) (by decide)) e0 (Ins.self F_7) (g := (mkF m 2 #[rv a1, rv a2] [(.ref a2), (.ref a1)])) rfl (by rw [hml]; rfl) (W 96 rfl) (argsL := [(.ref a2)]) (rest := []) (lenOf pd_310 rfl) rfl (by show 2 * 0 + _ ≤ _; exact Nat.le_of_eq rfl) (hb hby d_215) (fun _ _ => ⟨rfl, e0, (by decide : 0 + 0 ≤ _), (by decide : 0 + 0 ≤ _)⟩)
  dsimp only [Pt.U, Pt.locs, Pt.cells, Pt.slots] at X1 l1 y1 z1 st1 hQ1
  subst l1 y1 z1
  obtain ⟨rfl, N1q, K1, F1_0, F1_1, F1_2, F1_3⟩ := hQ1
  have N2 := Fr.app N0 N1q
  have O3 := O0.keep K1 (allS g_11 (allS g_13 all0))
  have K4 : Keep h0 T1.heap [a1, a8] := Keep.trans (Keep.refl h0 [a1, a8]) K1 (allS (Or.inl (List.mem_of_getElem? (i := 1) rfl)) (allS (Or.inl (List.mem_of_getElem? (i := 0) rfl)) all0))
  refine ⟨T1, some (.ref a1), _, _, _, X1, by decide, by decide, nofun, ?_, fun fs hr => castTop (ef_33 m a1 a2) ?_⟩
  · show Q79_append Z a1 a2 a3 k4 p5 p6 p7 a8 k9 p10 h0 n0 _ T1.heap _
    exact ⟨rfl, N2, K4, F1_0, F1_1, F1_2, F1_3⟩
  · show SS p e below s₁ m 0 #[rv a1, rv a2] [] _
    refine XS.aloadN X0.here hx rfl (hb hby d_213) rfl rfl ?_
    refine XS.aloadN X0.here hx rfl (hb hby d_214) rfl rfl ?_
    refine st1.trans ?_
    refine XS.pop X1.here hx rfl (hb hby d_311) rfl rfl ?_
    refine XS.aloadN X1.here hx rfl (hb hby d_312) rfl rfl ?_
    exact retOut X1 hx hret rfl (Or.inr (Or.inr (Or.inr (Or.inr ⟨rfl, rfl, rfl⟩)))) (hb hby d_313) hr
def Q80_length (Z : State) (a1 : Addr) (h0 : Heap) (n0 : Nat) (v : Option Value) (h : Heap) (L : List Loc) : Prop := v = some (.int (5 : Int32)) ∧ Fr n0 L ∧ h = h0
theorem rm80_length (l : Launch) (Z : State) (a0 : Array Value) (hw : HW Z a0) (a1 : Addr) (h0 : Heap) (n0 : Nat) (O0 : Old Z n0 h0) (F_0 : FA43 Z h0 a1 (.int (5 : Int32))) :
    Met l Z [] MY22 jdk_68_method_6_code 1 (some .int) ({ frames := 0, cells := 0, slots := 0, locals := 0 } : Room) #[(.ref a1)] h0 (Q80_length Z a1 h0 n0) := by
  have W := @own_W _ _ hw
  refine own_mk (plainFor_of_name pn_206) ?_
  intro p e s m below meth c s₁ hZ hx hby hml hown hnm hret hlk X0 e0
  have N0 := Fr.nil n0
  obtain ⟨T1, X1, e1, st1⟩ := getF X0 hx hZ hown (host := "") (Or.inl (W 107 rfl)) Via.refl e0 F_0 (g := (mkF m 1 #[rv a1] [(.ref a1)])) rfl rfl (hb hby d_348)
  refine ⟨T1, some (.int (5 : Int32)), _, _, _, X1, by decide, by decide, nofun, ?_, fun fs hr => castTop (ef_44 m a1) ?_⟩
  · show Q80_length Z a1 h0 n0 _ T1.heap _
    rw [e1]
    exact ⟨rfl, N0, rfl⟩
  · show SS p e below s₁ m 0 #[rv a1] [] _
    refine XS.aloadN X0.here hx rfl (hb hby d_347) rfl rfl ?_
    refine st1 _ ?_
    exact retI X1 hx hret (hb hby d_349) hr
def Q81_length (Z : State) (a1 : Addr) (h0 : Heap) (n0 : Nat) (v : Option Value) (h : Heap) (L : List Loc) : Prop := v = some (.int (5 : Int32)) ∧ Fr n0 L ∧ h = h0
theorem rm81_length (l : Launch) (Z : State) (a0 : Array Value) (hw : HW Z a0) (a1 : Addr) (h0 : Heap) (n0 : Nat) (O0 : Old Z n0 h0) (F_0 : FA43 Z h0 a1 (.int (5 : Int32))) (F_1 : EA47 Z h0 a1) :
    Met l Z [] MY23 jdk_67_method_93_code 1 (some .int) ({ frames := 1, cells := 0, slots := 0, locals := 12 } : Room) #[(.ref a1)] h0 (Q81_length Z a1 h0 n0) := by
  have W := @own_W _ _ hw
  refine own_mk (plainFor_of_name pn_209) ?_
  intro p e s m below meth c s₁ hZ hx hby hml hown hnm hret hlk X0 e0
  have N0 := Fr.nil n0
  obtain ⟨_, _, ⟨T1, L1, k1, n1⟩, -, X1, ⟨Lc1, hQ1, l1, y1, z1⟩, st1⟩ := superBack X0 hx hZ (y := MY22) hown (W 158 rfl) (own_same (y := MY22) (by decide) (W 154 rfl) (own_nf (args := a0) (y := MY15) rfl (W 112 rfl))) (W 154 rfl) (W 94 rfl) (by decide) (backOf (W := 0) (rm80_length l Z a0 hw a1 h0 n0 O0 (F_0)) hZ (W 159 rfl) (W 79 rfl) (by decide) (by decide)) e0 (Ins.self F_1) (g := (mkF m 1 #[rv a1] [(.ref a1)])) rfl (by rw [hml]; rfl) (W 159 rfl) (argsL := []) (rest := []) (lenOf pd_234 rfl) rfl (by show 2 * 0 + _ ≤ _; exact Nat.le_of_eq rfl) (hb hby d_346) (fun _ _ => ⟨rfl, e0, (by decide : 0 + 0 ≤ _), (by decide : 0 + 0 ≤ _)⟩)
  dsimp only [Pt.U, Pt.locs, Pt.cells, Pt.slots] at X1 l1 y1 z1 st1 hQ1
  subst l1 y1 z1
  obtain ⟨rfl, N1q, K1⟩ := hQ1
  have N2 := Fr.app N0 N1q
  refine ⟨T1, some (.int (5 : Int32)), _, _, _, X1, by decide, by decide, nofun, ?_, fun fs hr => castTop (ef_44 m a1) ?_⟩
  · show Q81_length Z a1 h0 n0 _ T1.heap _
    rw [K1]
    exact ⟨rfl, N2, rfl⟩
  · show SS p e below s₁ m 0 #[rv a1] [] _
    refine XS.aloadN X0.here hx rfl (hb hby d_345) rfl rfl ?_
    refine st1.trans ?_
    exact retI X1 hx hret (hb hby d_350) hr
theorem ef_482 (m : MethodId)  : entryFrame m #[(.int (16 : Int32)), (.int (5 : Int32))] 2 = mkF m 0 #[iv (16 : Int32), iv (5 : Int32)] [] := by first | (simp [entryFrame, mkF, argsToLocals, Value.category]; done) | rfl
def Q82_min (Z : State)  (h0 : Heap) (n0 : Nat) (v : Option Value) (h : Heap) (L : List Loc) : Prop := v = some (.int (5 : Int32)) ∧ Fr n0 L ∧ h = h0
theorem rm82_min (l : Launch) (Z : State) (a0 : Array Value) (hw : HW Z a0)  (h0 : Heap) (n0 : Nat) (O0 : Old Z n0 h0)  :
    Met l Z [] MY26 jdk_29_method_69_code 2 (some .int) ({ frames := 0, cells := 0, slots := 0, locals := 0 } : Room) #[(.int (16 : Int32)), (.int (5 : Int32))] h0 (Q82_min Z  h0 n0) := by
  have W := @own_W _ _ hw
  refine own_mk (Jvm.Free.JP.mathPlain rfl (by decide +kernel)) ?_
  intro p e s m below meth c s₁ hZ hx hby hml hown hnm hret hlk X0 e0
  have N0 := Fr.nil n0
  refine ⟨s₁, some (.int (5 : Int32)), _, _, _, X0, by decide, by decide, nofun, ?_, fun fs hr => castTop (ef_482 m ) ?_⟩
  · show Q82_min Z  h0 n0 _ s₁.heap _
    rw [e0]
    exact ⟨rfl, N0, rfl⟩
  · show SS p e below s₁ m 0 #[iv (16 : Int32), iv (5 : Int32)] [] _
    refine XS.iloadN X0.here hx rfl (hb hby d_408) rfl ?_
    refine XS.iloadN X0.here hx rfl (hb hby d_409) rfl ?_
    refine XS.icmpYes X0.here hx rfl (pc0 := 2) (pc' := 9) rfl (hb hby d_410) rfl (tlt (by decide : (5 : Int32) < (16 : Int32))).2.2.1 (by decide) (by decide) ?_
    refine XS.iloadN X0.here hx rfl (hb hby d_411) rfl ?_
    exact retI X0 hx hret (hb hby d_412) hr
theorem ef_483 (m : MethodId) (a1 : Addr) : entryFrame m #[(.ref a1), o0, (.int (5 : Int32))] 5 = mkF m 0 #[rv a1, .val o0, iv (5 : Int32), .unset, .unset] [] := by first | (simp [entryFrame, mkF, argsToLocals, Value.category]; done) | rfl
def Q83_copyOfRangeByte (Z : State) (a1 : Addr) (k2 : ClassId) (p3 : Int32) (p4 : Int32) (p5 : Int32) (h0 : Heap) (n0 : Nat) (v : Option Value) (h : Heap) (L : List Loc) : Prop := ∃ (b3 : Addr) (k3 : ClassId), v = some (.ref b3) ∧ Fr n0 L ∧ Keep h0 h [] ∧ h0.size ≤ b3 ∧ Arv Z h b3 k3 .byte (5 : Int32) [(.int p3), (.int (58 : Int32)), (.int (32 : Int32)), (.int p4), (.int p5)] o0 ∧ EA46 Z h b3
theorem rm83_copyOfRangeByte (l : Launch) (Z : State) (a0 : Array Value) (hw : HW Z a0) (a1 : Addr) (k2 : ClassId) (p3 : Int32) (p4 : Int32) (p5 : Int32) (h0 : Heap) (n0 : Nat) (O0 : Old Z n0 h0) (F_0 : Arv Z h0 a1 k2 .byte (16 : Int32) [(.int p3), (.int (58 : Int32)), (.int (32 : Int32)), (.int p4), (.int p5), o0, o0, o0, o0, o0, o0, o0, o0, o0, o0, o0] o0) :
    Met l Z [] MY27 jdk_65_method_133_code 5 (some (.array .byte)) ({ frames := 1, cells := 1, slots := 5, locals := 27 } : Room) #[(.ref a1), o0, (.int (5 : Int32))] h0 (Q83_copyOfRangeByte Z a1 k2 p3 p4 p5 h0 n0) := by
  have W := @own_W _ _ hw
  refine own_mk (plainFor_of_name pn_389) ?_
  intro p e s m below meth c s₁ hZ hx hby hml hown hnm hret hlk X0 e0
  have N0 := Fr.nil n0
  obtain ⟨_, T1, L1, X1, hQ1, st1⟩ := own_cs X0 hx hZ hown hml (W 172 rfl) (W 173 rfl) (W 167 rfl) (W 174 rfl) (rm46_checkLength l Z a0 hw (0 : Int32) (5 : Int32) h0 n0 O0 ((by decide : ¬ ((5 : Int32) < (0 : Int32))))) e0 (hb hby d_383) 0 #[rv a1, .val o0, iv (5 : Int32), .unset, .unset] [o0, (.int (5 : Int32))] [] pd_390
  obtain ⟨rfl, N1q, K1⟩ := hQ1
  have N2 := Fr.app N0 N1q
  obtain ⟨T3, h3, k3, X3, e3, E3, A3, B3, st3⟩ := newPE X1 hx hZ (W 20 rfl) K1 (g := (mkF m 10 #[rv a1, .val o0, iv (5 : Int32), iv (5 : Int32), .unset] [(.int (5 : Int32))])) rfl (hb hby d_396) rfl (by decide) (cap := 5) (by decide) (by decide) (by decide) (by decide) (ad := "[B") rfl
  obtain ⟨b3, g3⟩ : ∃ z, z = h0.size := ⟨_, rfl⟩
  rw [← g3] at A3 B3 st3
  have O4 := O0.ext E3
  have K5 : Keep h0 h3 [] := Keep.ext (Keep.refl h0 []) E3
  have v6 : Arv Z h3 b3 k3 .byte (5 : Int32) [o0, o0, o0, o0, o0] o0 := (Arv.new A3 (by decide)).pad (pad_rep [] o0 5)
  have f8 := (F_0.ext E3)
  obtain ⟨c7, A7, q7, S7, N7, H7, G7⟩ := id f8
  obtain ⟨_, T9, L9, X9, hQ9, st9⟩ := own_cs X3 hx hZ hown hml (W 175 rfl) (W 176 rfl) (W 177 rfl) (W 178 rfl) (rm82_min l Z a0 hw  h3 n0 O4 ) e3 (hb hby d_407) 4 #[rv a1, .val o0, iv (5 : Int32), iv (5 : Int32), rv b3] [(.int (16 : Int32)), (.int (5 : Int32))] [o0, (.ref b3), o0, (.ref a1)] pd_414
  obtain ⟨rfl, N9q, K9⟩ := hQ9
  have N10 := Fr.app N2 N9q
  have g12 : n0 ≤ b3 := Nat.le_trans (Nat.le_trans (Nat.le_of_eq O0.1.symm) O0.2.1) (Nat.le_of_eq g3.symm)
  obtain ⟨T11, h11, Lc11, X11, e11, N11, K11, V11, st11⟩ := cpA X9 hx hZ hown (W 179 rfl) (W 133 rfl) (W 131 rfl) (W 132 rfl) K9 f8 v6 (Or.inl ⟨rfl, rfl⟩) (sp := (0 : Int32)) (dp := (0 : Int32)) (nn := (5 : Int32)) (by decide) (by decide) (by decide) (by decide) (by decide) (us := [(.int p3), (.int (58 : Int32)), (.int (32 : Int32)), (.int p4), (.int p5)]) rfl (Nat.le_of_ble_eq_true rfl) N10 g12 (g := (mkF m 27 #[rv a1, .val o0, iv (5 : Int32), iv (5 : Int32), rv b3] [(.int (5 : Int32)), o0, (.ref b3), o0, (.ref a1)])) rfl (by rw [hml]; rfl) rfl (hb hby d_415) (by decide) (W := 0) (by show 2 * 0 + _ ≤ _; exact Nat.le_of_eq rfl) (by decide)
  have O13 := O4.keep K11 (allS g12 all0)
  have K14 : Keep h0 h11 [] := Keep.trans K5 K11 (allS (Or.inr (Nat.le_of_eq g3.symm)) all0)
  have v15 : Arv Z h11 b3 k3 .byte (5 : Int32) [(.int p3), (.int (58 : Int32)), (.int (32 : Int32)), (.int p4), (.int p5)] o0 := V11
  have f16 := (B3.keep K11)
  refine ⟨T11, some (.ref b3), _, _, _, X11, by decide, by decide, nofun, ?_, fun fs hr => castTop (ef_483 m a1) ?_⟩
  · show Q83_copyOfRangeByte Z a1 k2 p3 p4 p5 h0 n0 _ T11.heap _
    rw [e11]
    exact ⟨b3, k3, rfl, N11, K14, (Nat.le_of_eq g3.symm), v15, f16⟩
  · show SS p e below s₁ m 0 #[rv a1, .val o0, iv (5 : Int32), .unset, .unset] [] _
    refine XS.iloadN X0.here hx rfl (hb hby d_381) rfl ?_
    refine XS.iloadN X0.here hx rfl (hb hby d_382) rfl ?_
    refine st1 _ ?_
    refine XS.iloadN X1.here hx rfl (hb hby d_391) rfl ?_
    refine XS.iloadN X1.here hx rfl (hb hby d_392) rfl ?_
    refine XS.isub X1.here hx rfl (hb hby d_393) rfl ?_
    show SS p e below T1 m 8 #[rv a1, .val o0, iv (5 : Int32), .unset, .unset] [(.int (5 : Int32))] _
    refine XS.istoreN X1.here hx rfl (hb hby d_394) rfl (l' := #[rv a1, .val o0, iv (5 : Int32), iv (5 : Int32), .unset]) rfl ?_
    refine XS.iloadN X1.here hx rfl (hb hby d_395) rfl ?_
    refine st3 _ ?_
    refine XS.astore X3.here hx rfl (hb hby d_397) rfl rfl (l' := #[rv a1, .val o0, iv (5 : Int32), iv (5 : Int32), rv b3]) rfl ?_
    refine XS.aloadN X3.here hx rfl (hb hby d_398) rfl rfl ?_
    refine XS.iloadN X3.here hx rfl (hb hby d_399) rfl ?_
    refine XS.aload X3.here hx rfl (hb hby d_400) rfl rfl ?_
    refine XS.iconst X3.here hx rfl (hb hby d_401) ?_
    refine XS.aloadN X3.here hx rfl (hb hby d_402) rfl rfl ?_
    refine X3.arraylength hx (by rw [e3]; exact A7.1) (State.isArrayOf_alike hZ.alike A7.2.1) (g := (mkF m 20 #[rv a1, .val o0, iv (5 : Int32), iv (5 : Int32), rv b3] [(.ref a1), o0, (.ref b3), o0, (.ref a1)])) rfl rfl (hb hby d_403) _ ?_
    rw [len_of S7 N7]
    show SS p e below T3 m 21 #[rv a1, .val o0, iv (5 : Int32), iv (5 : Int32), rv b3] [(.int (16 : Int32)), o0, (.ref b3), o0, (.ref a1)] _
    refine XS.iloadN X3.here hx rfl (hb hby d_404) rfl ?_
    refine XS.isub X3.here hx rfl (hb hby d_405) rfl ?_
    show SS p e below T3 m 23 #[rv a1, .val o0, iv (5 : Int32), iv (5 : Int32), rv b3] [(.int (16 : Int32)), o0, (.ref b3), o0, (.ref a1)] _
    refine XS.iloadN X3.here hx rfl (hb hby d_406) rfl ?_
    refine st9 _ ?_
    refine st11 _ ?_
    refine XS.aload X11.here hx rfl (hb hby d_416) rfl rfl ?_
    exact retOut X11 hx hret rfl (Or.inr (Or.inr (Or.inr (Or.inr ⟨rfl, rfl, rfl⟩)))) (hb hby d_417) hr
theorem ef_484 (m : MethodId) (a1 : Addr) : entryFrame m #[(.ref a1), o0, (.int (5 : Int32))] 3 = mkF m 0 #[rv a1, .val o0, iv (5 : Int32)] [] := by first | (simp [entryFrame, mkF, argsToLocals, Value.category]; done) | rfl
def Q84_copyOfRange (Z : State) (a1 : Addr) (k2 : ClassId) (p3 : Int32) (p4 : Int32) (p5 : Int32) (h0 : Heap) (n0 : Nat) (v : Option Value) (h : Heap) (L : List Loc) : Prop := ∃ (b2_0 : Addr) (k2_0 : ClassId), v = some (.ref b2_0) ∧ Fr n0 L ∧ Keep h0 h [] ∧ h0.size ≤ b2_0 ∧ Arv Z h b2_0 k2_0 .byte (5 : Int32) [(.int p3), (.int (58 : Int32)), (.int (32 : Int32)), (.int p4), (.int p5)] o0 ∧ EA46 Z h b2_0
theorem rm84_copyOfRange (l : Launch) (Z : State) (a0 : Array Value) (hw : HW Z a0) (a1 : Addr) (k2 : ClassId) (p3 : Int32) (p4 : Int32) (p5 : Int32) (h0 : Heap) (n0 : Nat) (O0 : Old Z n0 h0) (F_0 : Arv Z h0 a1 k2 .byte (16 : Int32) [(.int p3), (.int (58 : Int32)), (.int (32 : Int32)), (.int p4), (.int p5), o0, o0, o0, o0, o0, o0, o0, o0, o0, o0, o0] o0) :
    Met l Z [] MY28 jdk_65_method_132_code 3 (some (.array .byte)) ({ frames := 2, cells := 1, slots := 5, locals := 43 } : Room) #[(.ref a1), o0, (.int (5 : Int32))] h0 (Q84_copyOfRange Z a1 k2 p3 p4 p5 h0 n0) := by
  have W := @own_W _ _ hw
  refine own_mk (plainFor_of_name pn_389) ?_
  intro p e s m below meth c s₁ hZ hx hby hml hown hnm hret hlk X0 e0
  have N0 := Fr.nil n0
  obtain ⟨c1, A1, q1, S1, N1, H1, G1⟩ := id F_0
  obtain ⟨_, T2, L2, X2, hQ2, st2⟩ := own_cs X0 hx hZ hown hml (W 169 rfl) (W 170 rfl) (W 167 rfl) (W 171 rfl) (rm83_copyOfRangeByte l Z a0 hw a1 k2 p3 p4 p5 h0 n0 O0 (F_0)) e0 (hb hby d_380) 0 #[rv a1, .val o0, iv (5 : Int32)] [(.ref a1), o0, (.int (5 : Int32))] [] pd_419
  obtain ⟨b2_0, k2_0, rfl, N2q, K2, gb2_0, F2_0, F2_1⟩ := hQ2
  have N3 := Fr.app N0 N2q
  have O4 := O0.keep K2 all0
  have K5 : Keep h0 T2.heap [] := Keep.trans (Keep.refl h0 []) K2 all0
  refine ⟨T2, some (.ref b2_0), _, _, _, X2, by decide, by decide, nofun, ?_, fun fs hr => castTop (ef_484 m a1) ?_⟩
  · show Q84_copyOfRange Z a1 k2 p3 p4 p5 h0 n0 _ T2.heap _
    exact ⟨b2_0, k2_0, rfl, N3, K5, gb2_0, F2_0, F2_1⟩
  · show SS p e below s₁ m 0 #[rv a1, .val o0, iv (5 : Int32)] [] _
    refine XS.iloadN X0.here hx rfl (hb hby d_371) rfl ?_
    refine XS.ifNo X0.here hx rfl (hb hby d_372) rfl ((if0 _ _).trans (teq (by decide : (0 : Int32) = (0 : Int32))).2) ?_
    refine XS.iloadN X0.here hx rfl (hb hby d_373) rfl ?_
    refine XS.aloadN X0.here hx rfl (hb hby d_374) rfl rfl ?_
    refine X0.arraylength hx (by rw [e0]; exact A1.1) (State.isArrayOf_alike hZ.alike A1.2.1) (g := (mkF m 6 #[rv a1, .val o0, iv (5 : Int32)] [(.ref a1), (.int (5 : Int32))])) rfl rfl (hb hby d_375) _ ?_
    rw [len_of S1 N1]
    refine XS.icmpNo X0.here hx rfl (hb hby d_376) rfl (feq (by decide : ¬ ((5 : Int32) = (16 : Int32)))).1 ?_
    refine XS.aloadN X0.here hx rfl (hb hby d_377) rfl rfl ?_
    refine XS.iloadN X0.here hx rfl (hb hby d_378) rfl ?_
    refine XS.iloadN X0.here hx rfl (hb hby d_379) rfl ?_
    refine st2 _ ?_
    show SS p e below T2 m 16 #[rv a1, .val o0, iv (5 : Int32)] [(.ref b2_0)] _
    exact retOut X2 hx hret rfl (Or.inr (Or.inr (Or.inr (Or.inr ⟨rfl, rfl, rfl⟩)))) (hb hby d_420) hr
def Q85_init (Z : State) (a1 : Addr) (a2 : Addr) (a3 : Addr) (p4 : Int32) (k5 : ClassId) (p6 : Int32) (p7 : Int32) (p8 : Int32) (h0 : Heap) (n0 : Nat) (v : Option Value) (h : Heap) (L : List Loc) : Prop := ∃ (b13_0 : Addr) (k13_0 : ClassId), v = none ∧ Fr n0 L ∧ Keep h0 h [a1] ∧ h0.size ≤ b13_0 ∧ Arv Z h b13_0 k13_0 .byte (5 : Int32) [(.int p6), (.int (58 : Int32)), (.int (32 : Int32)), (.int p7), (.int p8)] o0 ∧ EA46 Z h b13_0 ∧ FA38 Z h a1 o0 ∧ FA37 Z h a1 (.ref b13_0)
theorem rm85_init (l : Launch) (Z : State) (a0 : Array Value) (hw : HW Z a0) (a1 : Addr) (a2 : Addr) (a3 : Addr) (p4 : Int32) (k5 : ClassId) (p6 : Int32) (p7 : Int32) (p8 : Int32) (h0 : Heap) (n0 : Nat) (O0 : Old Z n0 h0) (F_0 : EA47 Z h0 a2) (F_1 : FA41 Z h0 a2 (.ref a3)) (F_2 : FA43 Z h0 a2 (.int (5 : Int32))) (S_3 : SA48 Z Z.heap (.int p4)) (hc_4 : ¬ (p4 = (0 : Int32))) (F_5 : FA42 Z h0 a2 o0) (F_6 : EA44 Z h0 a1) (F_7 : FA38 Z h0 a1 o0) (g_8 : n0 ≤ a1) (F_9 : Arv Z h0 a3 k5 .byte (16 : Int32) [(.int p6), (.int (58 : Int32)), (.int (32 : Int32)), (.int p7), (.int p8), o0, o0, o0, o0, o0, o0, o0, o0, o0, o0, o0] o0) (ne_10 : a1 ≠ a3) (F_11 : FA37 Z h0 a1 .null) (lt_12 : a1 < h0.size) :
    Met l Z [] MY29 jdk_42_method_150_code 5 none ({ frames := 3, cells := 1, slots := 5, locals := 58 } : Room) #[(.ref a1), (.ref a2), .null] h0 (Q85_init Z a1 a2 a3 p4 k5 p6 p7 p8 h0 n0) := by
  have W := @own_W _ _ hw
  refine own_mk (plainFor_of_name pn_30) ?_
  intro p e s m below meth c s₁ hZ hx hby hml hown hnm hret hlk X0 e0
  have N0 := Fr.nil n0
  obtain ⟨T1, X1, e1, st1⟩ := initO X0 hx hZ hown (W 16 rfl) (W 17 rfl) (W 18 rfl) e0 (g := (mkF m 1 #[rv a1, rv a2, .val .null, .unset, .unset] [(.ref a1)])) rfl (by rw [hml]; rfl) rfl (hb hby d_335) (by decide) (W := 0) (by show 2 * 0 + _ ≤ _; exact Nat.le_of_eq rfl) (by decide)
  obtain ⟨_, T2, L2, X2, hQ2, st2⟩ := own_cv X1 hx hZ hown hml (W 147 rfl) (W 148 rfl) (notFace_of_selects (W 150 rfl)) (W 150 rfl) (W 149 rfl) (W 79 rfl) (W 151 rfl) (rm42_getValue l Z a0 hw a2 a3 h0 n0 O0 (F_1)) e1 F_0 (hb hby d_337) 0 #[rv a1, rv a2, .val .null, .unset, .unset] [] [] pd_341
  obtain ⟨rfl, N2q, K2⟩ := hQ2
  have N3 := Fr.app N0 N2q
  obtain ⟨_, T4, L4, X4, hQ4, st4⟩ := own_cv X2 hx hZ hown hml (W 152 rfl) (W 153 rfl) (own_nf (args := a0) (y := MY15) rfl (id (W 112 rfl))) (W 155 rfl) (W 156 rfl) (W 71 rfl) (W 157 rfl) (rm81_length l Z a0 hw a2 h0 n0 O0 (F_2) (F_0)) K2 F_0 (hb hby d_344) 0 #[rv a1, rv a2, .val .null, rv a3, .unset] [] [] pd_234
  obtain ⟨rfl, N4q, K4⟩ := hQ4
  have N5 := Fr.app N3 N4q
  obtain ⟨_, T6, L6, X6, hQ6, st6⟩ := own_cv X4 hx hZ hown hml (W 160 rfl) (W 161 rfl) (notFace_of_selects (W 163 rfl)) (W 163 rfl) (W 162 rfl) (W 79 rfl) (W 164 rfl) (rm45_isLatin1 l Z a0 hw a2 p4 h0 n0 O0 (S_3) (hc_4) (F_5)) K4 F_0 (hb hby d_353) 0 #[rv a1, rv a2, .val .null, rv a3, iv (5 : Int32)] [] [] pd_67
  obtain ⟨rfl, N6q, K6⟩ := hQ6
  have N7 := Fr.app N5 N6q
  obtain ⟨T8, h8, X8, e8, W8, st8⟩ := putFN X6 hx hZ hown (W 26 rfl) Via.refl K6 F_7 F_6 (Or.inr ⟨(W 22 rfl), rfl, hnm⟩) (W 6 rfl) (ty := .byte) (v' := o0) (by decide) rfl rfl (g := (mkF m 24 #[rv a1, rv a2, .val .null, rv a3, iv (5 : Int32)] [o0, (.ref a1)])) rfl rfl (hb hby d_365)
  have O9 := O0.wr W8 g_8
  have K10 : Keep h0 h8 [a1] := Keep.wr (Keep.refl h0 [a1]) W8 (Or.inl (List.mem_of_getElem? (i := 0) rfl))
  have f11 : FA38 Z h8 a1 o0 := (F_7.same W8)
  have N12 := Fr.snoc X8 N7 g_8
  have f14 := (F_9.other W8 (Ne.symm ne_10))
  obtain ⟨_, T13, L13, X13, hQ13, st13⟩ := own_cs X8 hx hZ hown hml (W 165 rfl) (W 166 rfl) (W 167 rfl) (W 168 rfl) (rm84_copyOfRange l Z a0 hw a3 k5 p6 p7 p8 h8 n0 O9 (f14)) e8 (hb hby d_370) 1 #[rv a1, rv a2, .val .null, rv a3, iv (5 : Int32)] [(.ref a3), o0, (.int (5 : Int32))] [(.ref a1)] pd_419
  obtain ⟨b13_0, k13_0, rfl, N13q, K13, gb13_0, F13_0, F13_1⟩ := hQ13
  have N15 := Fr.app N12 N13q
  have O16 := O9.keep K13 all0
  have K17 : Keep h0 T13.heap [a1] := Keep.trans K10 K13 all0
  have f19 := ((F_11.other W8 (Or.inr (slot_ne (Or.inr (W 21 rfl)) (Or.inr (W 22 rfl)) (by decide) (t := (.array .byte)) (t' := .byte) (by decide) (by decide)))).keep K13 nin0)
  have f20 := ((F_6.wr W8).keep K13)
  obtain ⟨T18, h18, X18, e18, W18, st18⟩ := putF X13 hx hZ hown (host := "") (Or.inl (W 25 rfl)) Via.refl rfl f19 f20 (Or.inr ⟨(W 21 rfl), rfl, hnm⟩) (W 6 rfl) (ty := (.array .byte)) (by decide) rfl rfl (g := (mkF m 35 #[rv a1, rv a2, .val .null, rv a3, iv (5 : Int32)] [(.ref b13_0), (.ref a1)])) rfl rfl (hb hby d_422)
  have O21 := O16.wr W18 g_8
  have K22 : Keep h0 h18 [a1] := Keep.wr K17 W18 (Or.inl (List.mem_of_getElem? (i := 0) rfl))
  have f23 : FA37 Z h18 a1 (.ref b13_0) := (f19.same W18)
  have N24 := Fr.snoc X18 N15 g_8
  have z25 : h0.size ≤ h8.size := (Nat.le_of_eq W8.size.symm)
  have f26 := (F13_0.other W18 (Ne.symm (Nat.ne_of_lt (Nat.lt_of_lt_of_le (Nat.lt_of_lt_of_le lt_12 z25) gb13_0))))
  have f27 := (F13_1.wr W18)
  have f28 := ((f11.keep K13 nin0).other W18 (Or.inr (slot_ne (Or.inr (W 22 rfl)) (Or.inr (W 21 rfl)) (by decide) (t := .byte) (t' := (.array .byte)) (by decide) (by decide))))
  refine ⟨T18, none, _, _, _, X18, by decide, by decide, (fun _ => rfl), ?_, fun fs hr => castTop (ef_425 m a1 a2) ?_⟩
  · show Q85_init Z a1 a2 a3 p4 k5 p6 p7 p8 h0 n0 _ T18.heap _
    rw [e18]
    exact ⟨b13_0, k13_0, rfl, N24, K22, (Nat.le_trans z25 gb13_0), f26, f27, f28, f23⟩
  · show SS p e below s₁ m 0 #[rv a1, rv a2, .val .null, .unset, .unset] [] _
    refine XS.aloadN X0.here hx rfl (hb hby d_334) rfl rfl ?_
    refine st1 _ ?_
    refine XS.aloadN X1.here hx rfl (hb hby d_336) rfl rfl ?_
    refine st2 _ ?_
    refine XS.astoreN X2.here hx rfl (hb hby d_342) rfl rfl (l' := #[rv a1, rv a2, .val .null, rv a3, .unset]) rfl ?_
    refine XS.aloadN X2.here hx rfl (hb hby d_343) rfl rfl ?_
    refine st4 _ ?_
    refine XS.istore X4.here hx rfl (hb hby d_351) rfl (l' := #[rv a1, rv a2, .val .null, rv a3, iv (5 : Int32)]) rfl ?_
    refine XS.aloadN X4.here hx rfl (hb hby d_352) rfl rfl ?_
    refine st6 _ ?_
    show SS p e below T6 m 19 #[rv a1, rv a2, .val .null, rv a3, iv (5 : Int32)] [(.int (1 : Int32))] _
    refine XS.ifNo X6.here hx rfl (hb hby d_362) rfl ((if0 _ _).trans (feq (by decide : ¬ ((1 : Int32) = (0 : Int32)))).1) ?_
    refine XS.aloadN X6.here hx rfl (hb hby d_363) rfl rfl ?_
    refine XS.iconst X6.here hx rfl (hb hby d_364) ?_
    refine st8 _ ?_
    refine XS.aloadN X8.here hx rfl (hb hby d_366) rfl rfl ?_
    refine XS.aloadN X8.here hx rfl (hb hby d_367) rfl rfl ?_
    refine XS.iconst X8.here hx rfl (hb hby d_368) ?_
    refine XS.iload X8.here hx rfl (hb hby d_369) rfl ?_
    refine st13 _ ?_
    refine st18 _ ?_
    show SS p e below T18 m 38 #[rv a1, rv a2, .val .null, rv a3, iv (5 : Int32)] [] _
    refine XS.goto X18.here hx rfl (pc0 := 38) (pc' := 97) rfl (hb hby d_423) (by decide) (by decide) ?_
    exact X18.returnOut hx hret (hb hby d_424) hr
def Q86_init (Z : State) (a1 : Addr) (a2 : Addr) (a3 : Addr) (p4 : Int32) (k5 : ClassId) (p6 : Int32) (p7 : Int32) (p8 : Int32) (h0 : Heap) (n0 : Nat) (v : Option Value) (h : Heap) (L : List Loc) : Prop := ∃ (b1_0 : Addr) (k1_0 : ClassId), v = none ∧ Fr n0 L ∧ Keep h0 h [a1] ∧ h0.size ≤ b1_0 ∧ Arv Z h b1_0 k1_0 .byte (5 : Int32) [(.int p6), (.int (58 : Int32)), (.int (32 : Int32)), (.int p7), (.int p8)] o0 ∧ EA46 Z h b1_0 ∧ FA38 Z h a1 o0 ∧ FA37 Z h a1 (.ref b1_0)
theorem rm86_init (l : Launch) (Z : State) (a0 : Array Value) (hw : HW Z a0) (a1 : Addr) (a2 : Addr) (a3 : Addr) (p4 : Int32) (k5 : ClassId) (p6 : Int32) (p7 : Int32) (p8 : Int32) (h0 : Heap) (n0 : Nat) (O0 : Old Z n0 h0) (F_0 : EA47 Z h0 a2) (F_1 : FA41 Z h0 a2 (.ref a3)) (F_2 : FA43 Z h0 a2 (.int (5 : Int32))) (S_3 : SA48 Z Z.heap (.int p4)) (hc_4 : ¬ (p4 = (0 : Int32))) (F_5 : FA42 Z h0 a2 o0) (F_6 : EA44 Z h0 a1) (F_7 : FA38 Z h0 a1 o0) (F_8 : Arv Z h0 a3 k5 .byte (16 : Int32) [(.int p6), (.int (58 : Int32)), (.int (32 : Int32)), (.int p7), (.int p8), o0, o0, o0, o0, o0, o0, o0, o0, o0, o0, o0] o0) (F_9 : FA37 Z h0 a1 .null) (g_10 : n0 ≤ a1) (ne_11 : a1 ≠ a3) (lt_12 : a1 < h0.size) :
    Met l Z [] MY30 jdk_42_method_53_code 2 none ({ frames := 4, cells := 1, slots := 5, locals := 74 } : Room) #[(.ref a1), (.ref a2)] h0 (Q86_init Z a1 a2 a3 p4 k5 p6 p7 p8 h0 n0) := by
  have W := @own_W _ _ hw
  refine own_mk (plainFor_of_name pn_30) ?_
  intro p e s m below meth c s₁ hZ hx hby hml hown hnm hret hlk X0 e0
  have N0 := Fr.nil n0
  obtain ⟨_, T1, L1, X1, hQ1, st1⟩ := own_cp X0 hx hZ hown hml rfl (W 144 rfl) (W 145 rfl) (W 7 rfl) (W 146 rfl) (rm85_init l Z a0 hw a1 a2 a3 p4 k5 p6 p7 p8 h0 n0 O0 (F_0) (F_1) (F_2) (S_3) (hc_4) (F_5) (F_6) (F_7) (g_10) (F_8) (ne_11) (F_9) (lt_12)) e0 (hb hby d_333) 0 #[rv a1, rv a2] a1 [(.ref a2), .null] [] pd_426
  obtain ⟨b1_0, k1_0, rfl, N1q, K1, gb1_0, F1_0, F1_1, F1_2, F1_3⟩ := hQ1
  have N2 := Fr.app N0 N1q
  have O3 := O0.keep K1 (allS g_10 all0)
  have K4 : Keep h0 T1.heap [a1] := Keep.trans (Keep.refl h0 [a1]) K1 (allS (Or.inl (List.mem_of_getElem? (i := 0) rfl)) all0)
  refine ⟨T1, none, _, _, _, X1, by decide, by decide, (fun _ => rfl), ?_, fun fs hr => castTop (ef_33 m a1 a2) ?_⟩
  · show Q86_init Z a1 a2 a3 p4 k5 p6 p7 p8 h0 n0 _ T1.heap _
    exact ⟨b1_0, k1_0, rfl, N2, K4, gb1_0, F1_0, F1_1, F1_2, F1_3⟩
  · show SS p e below s₁ m 0 #[rv a1, rv a2] [] _
    refine XS.aloadN X0.here hx rfl (hb hby d_330) rfl rfl ?_
    refine XS.aloadN X0.here hx rfl (hb hby d_331) rfl rfl ?_
    refine XS.aconstNull X0.here hx rfl (hb hby d_332) ?_
    refine st1 _ ?_
    exact X1.returnOut hx hret (hb hby d_427) hr
def Q87_toString (Z : State) (a1 : Addr) (a2 : Addr) (p3 : Int32) (k4 : ClassId) (p5 : Int32) (p6 : Int32) (p7 : Int32) (h0 : Heap) (n0 : Nat) (v : Option Value) (h : Heap) (L : List Loc) : Prop := ∃ (b1 : Addr) (b4_0 : Addr) (k4_0 : ClassId), v = some (.ref b1) ∧ Fr n0 L ∧ Keep h0 h [] ∧ h0.size ≤ b1 ∧ h0.size ≤ b4_0 ∧ EA44 Z h b1 ∧ FA37 Z h b1 (.ref b4_0) ∧ FA38 Z h b1 o0 ∧ Arv Z h b4_0 k4_0 .byte (5 : Int32) [(.int p5), (.int (58 : Int32)), (.int (32 : Int32)), (.int p6), (.int p7)] o0 ∧ EA46 Z h b4_0
theorem rm87_toString (l : Launch) (Z : State) (a0 : Array Value) (hw : HW Z a0) (a1 : Addr) (a2 : Addr) (p3 : Int32) (k4 : ClassId) (p5 : Int32) (p6 : Int32) (p7 : Int32) (h0 : Heap) (n0 : Nat) (O0 : Old Z n0 h0) (F_0 : EA47 Z h0 a1) (F_1 : FA41 Z h0 a1 (.ref a2)) (F_2 : FA43 Z h0 a1 (.int (5 : Int32))) (S_3 : SA48 Z Z.heap (.int p3)) (hc_4 : ¬ (p3 = (0 : Int32))) (F_5 : FA42 Z h0 a1 o0) (F_6 : Arv Z h0 a2 k4 .byte (16 : Int32) [(.int p5), (.int (58 : Int32)), (.int (32 : Int32)), (.int p6), (.int p7), o0, o0, o0, o0, o0, o0, o0, o0, o0, o0, o0] o0) (lt_7 : a2 < h0.size) :
    Met l Z [] MY31 jdk_67_method_42_code 1 (some (.object "java/lang/String")) ({ frames := 5, cells := 2, slots := 9, locals := 88 } : Room) #[(.ref a1)] h0 (Q87_toString Z a1 a2 p3 k4 p5 p6 p7 h0 n0) := by
  have W := @own_W _ _ hw
  refine own_mk (plainFor_of_name pn_209) ?_
  intro p e s m below meth c s₁ hZ hx hby hml hown hnm hret hlk X0 e0
  have N0 := Fr.nil n0
  obtain ⟨T1, h1, X1, e1, E1, A1, D1, -, st1⟩ := newO X0 hx hZ hown (W 140 rfl) (W 6 rfl) (W 7 rfl) e0 (g := (mkF m 0 #[rv a1] [])) rfl (hb hby d_326) (by decide) (by decide)
  obtain ⟨b1, g1⟩ : ∃ z, z = h0.size := ⟨_, rfl⟩
  rw [← g1] at A1 D1 st1
  have O2 := O0.ext E1
  have K3 : Keep h0 h1 [] := Keep.ext (Keep.refl h0 []) E1
  have f5 := (F_0.ext E1)
  have f6 := (F_1.ext E1)
  have f7 := (F_2.ext E1)
  have f8 := (F_5.ext E1)
  have f9 := (F_6.ext E1)
  have g10 : n0 ≤ b1 := Nat.le_trans (Nat.le_trans (Nat.le_of_eq O0.1.symm) O0.2.1) (Nat.le_of_eq g1.symm)
  obtain ⟨_, T4, L4, X4, hQ4, st4⟩ := own_cp X1 hx hZ hown hml rfl (W 141 rfl) (W 142 rfl) (W 7 rfl) (W 143 rfl) (rm86_init l Z a0 hw b1 a1 a2 p3 k4 p5 p6 p7 h1 n0 O2 (f5) (f6) (f7) (S_3) (hc_4) (f8) (A1) ((D1 (Or.inr (W 22 rfl)) (ty := .byte) (by decide) : FA38 Z h1 b1 o0)) (f9) ((D1 (Or.inr (W 21 rfl)) (ty := (.array .byte)) (by decide) : FA37 Z h1 b1 .null)) (g10) ((Ne.symm (Nat.ne_of_lt (Nat.lt_of_lt_of_le lt_7 (Nat.le_of_eq g1.symm))))) (A1.lt)) e1 (hb hby d_329) 1 #[rv a1] b1 [(.ref a1)] [(.ref b1)] pd_428
  obtain ⟨b4_0, k4_0, rfl, N4q, K4, gb4_0, F4_0, F4_1, F4_2, F4_3⟩ := hQ4
  have N11 := Fr.app N0 N4q
  have O12 := O2.keep K4 (allS g10 all0)
  have K13 : Keep h0 T4.heap [] := Keep.trans K3 K4 (allS (Or.inr (Nat.le_of_eq g1.symm)) all0)
  have f14 := (A1.keep K4)
  have z15 : h0.size ≤ h1.size := E1.1
  refine ⟨T4, some (.ref b1), _, _, _, X4, by decide, by decide, nofun, ?_, fun fs hr => castTop (ef_44 m a1) ?_⟩
  · show Q87_toString Z a1 a2 p3 k4 p5 p6 p7 h0 n0 _ T4.heap _
    exact ⟨b1, b4_0, k4_0, rfl, N11, K13, (Nat.le_of_eq g1.symm), (Nat.le_trans z15 gb4_0), f14, F4_3, F4_2, F4_0, F4_1⟩
  · show SS p e below s₁ m 0 #[rv a1] [] _
    refine st1 _ ?_
    refine XS.dup X1.here hx rfl (hb hby d_327) rfl rfl ?_
    refine XS.aloadN X1.here hx rfl (hb hby d_328) rfl rfl ?_
    refine st4 _ ?_
    exact retOut X4 hx hret rfl (Or.inr (Or.inr (Or.inr (Or.inr ⟨rfl, rfl, rfl⟩)))) (hb hby d_429) hr
def Q88_toString (Z : State) (a1 : Addr) (a2 : Addr) (a3 : Addr) (k4 : ClassId) (p5 : Int32) (p6 : Int32) (a7 : Addr) (a8 : Addr) (k9 : ClassId) (p10 : Int32) (p11 : Int32) (h0 : Heap) (n0 : Nat) (v : Option Value) (h : Heap) (L : List Loc) : Prop := ∃ (b68_0 : Addr) (b68_1 : Addr) (k68_0 : ClassId), v = some (.ref b68_0) ∧ Fr n0 L ∧ Keep h0 h [] ∧ h0.size ≤ b68_0 ∧ h0.size ≤ b68_1 ∧ EA44 Z h b68_0 ∧ FA37 Z h b68_0 (.ref b68_1) ∧ FA38 Z h b68_0 o0 ∧ Arv Z h b68_1 k68_0 .byte (5 : Int32) [(.int p5), (.int (58 : Int32)), (.int (32 : Int32)), (.int p10), (.int p11)] o0 ∧ EA46 Z h b68_1
theorem rm88_toString (l : Launch) (Z : State) (a0 : Array Value) (hw : HW Z a0) (a1 : Addr) (a2 : Addr) (a3 : Addr) (k4 : ClassId) (p5 : Int32) (p6 : Int32) (a7 : Addr) (a8 : Addr) (k9 : ClassId) (p10 : Int32) (p11 : Int32) (h0 : Heap) (n0 : Nat) (O0 : Old Z n0 h0) (F_0 : FA39 Z h0 a1 (.ref a2)) (F_1 : EA44 Z h0 a2) (F_2 : FA37 Z h0 a2 (.ref a3)) (F_3 : Arv Z h0 a3 k4 .byte (1 : Int32) [(.int p5)] o0) (S_4 : SA48 Z Z.heap (.int p6)) (hc_5 : ¬ (p6 = (0 : Int32))) (lt_6 : a1 < h0.size) (F_7 : FA38 Z h0 a2 o0) (lt_8 : a2 < h0.size) (lt_9 : a3 < h0.size) (F_10 : FA40 Z h0 a1 (.ref a7)) (F_11 : EA44 Z h0 a7) (F_12 : FA37 Z h0 a7 (.ref a8)) (F_13 : Arv Z h0 a8 k9 .byte (2 : Int32) [(.int p10), (.int p11)] o0) (F_14 : FA38 Z h0 a7 o0) (lt_15 : a7 < h0.size) (lt_16 : a8 < h0.size) :
    MetH l Z [] MY6 prog_7_method_2_code 1 (some (.object "java/lang/String")) ({ frames := 6, cells := 6, slots := 41, locals := 100 } : Room) #[(.ref a1)] h0 consts_1 [] (Q88_toString Z a1 a2 a3 k4 p5 p6 a7 a8 k9 p10 p11 h0 n0) := by
  have W := @own_W _ _ hw
  refine own_mkH (plainFor_of_name pn_55) ?_
  intro p e s m below meth c s₁ hZ hx hby hml hown hnm hret hlk X0 e0 H0 hsf
  have N0 := Fr.nil n0
  have C0 := CHr.refl H0
  have X1 := (show Stand p l e _ (s.setVm s.vm) m _ below meth c _ _ _ _ from X0)
  obtain ⟨T2, X2, e2, st2⟩ := getF X1 hx hZ hown (host := "") (Or.inl (W 39 rfl)) Via.refl e0 F_0 (g := (mkF m 1 #[rv a1] [(.ref a1)])) rfl rfl (hb hby d_58)
  obtain ⟨_, T3, L3, X3, hQ3, st3⟩ := own_cv X2 hx hZ hown hml (W 48 rfl) (W 49 rfl) (notFace_of_selects (W 51 rfl)) (W 51 rfl) (W 50 rfl) (W 7 rfl) (W 52 rfl) (rm21_isEmpty l Z a0 hw a2 a3 k4 p5 h0 n0 O0 (F_2) (F_3)) e2 F_1 (hb hby d_59) 0 #[rv a1] [] [] pd_67
  obtain ⟨rfl, N3q, K3⟩ := hQ3
  have N4 := Fr.app N0 N3q
  obtain ⟨T5, h5, X5, e5, E5, A5, D5, -, st5⟩ := newO X3 hx hZ hown (W 69 rfl) (W 70 rfl) (W 71 rfl) K3 (g := (mkF m 17 #[rv a1] [])) rfl (hb hby d_186) (by decide) (by decide)
  obtain ⟨b5, g5⟩ : ∃ z, z = h0.size := ⟨_, rfl⟩
  rw [← g5] at A5 D5 st5
  have c6 := CHr.ext E5 H0
  have C7 := CHr.trans C0 c6
  have O8 := O0.ext E5
  have K9 : Keep h0 h5 [] := Keep.ext (Keep.refl h0 []) E5
  have g11 : n0 ≤ b5 := Nat.le_trans (Nat.le_trans (Nat.le_of_eq O0.1.symm) O0.2.1) (Nat.le_of_eq g5.symm)
  obtain ⟨_, T10, L10, X10, hQ10, st10⟩ := own_cp X5 hx hZ hown hml rfl (W 72 rfl) (W 73 rfl) (W 71 rfl) (W 74 rfl) (rm23_init l Z a0 hw b5 p6 h5 n0 O8 (S_4) (hc_5) (A5) ((D5 (Or.inl (W 84 rfl)) (ty := (.array .byte)) (by decide) : FA41 Z h5 b5 .null)) ((D5 (Or.inl (W 86 rfl)) (ty := .byte) (by decide) : FA42 Z h5 b5 o0)) ((D5 (Or.inl (W 108 rfl)) (ty := .int) (by decide) : FA43 Z h5 b5 o0)) (g11) (A5.lt)) e5 (hb hby d_188) 1 #[rv a1] b5 [] [(.ref b5)] pd_46
  obtain ⟨b10_0, k10_0, rfl, N10q, K10, gb10_0, F10_0, F10_1, F10_2, F10_3, F10_4⟩ := hQ10
  have N12 := Fr.app N4 N10q
  have s13 := Safe.exa (EL := consts_1) hZ.alike A5 (by decide) (by decide)
  have c14 := CHr.keep K10 (sfS s13 sf0) c6.1
  have C15 := CHr.trans C7 c14
  have O16 := O8.keep K10 (allS g11 all0)
  have K17 : Keep h0 T10.heap [] := Keep.trans K9 K10 (allS (Or.inr (Nat.le_of_eq g5.symm)) all0)
  have f19 := ((F_0.ext E5).keep K10 (ninS (Nat.ne_of_lt (Nat.lt_of_lt_of_le lt_6 (Nat.le_of_eq g5.symm))) nin0))
  obtain ⟨T18, X18, e18, st18⟩ := getF X10 hx hZ hown (host := "") (Or.inl (W 39 rfl)) Via.refl rfl f19 (g := (mkF m 25 #[rv a1] [(.ref a1), (.ref b5)])) rfl rfl (hb hby d_211)
  have f21 := ((F_1.ext E5).keep K10)
  have f22 := ((F_2.ext E5).keep K10 (ninS (Nat.ne_of_lt (Nat.lt_of_lt_of_le lt_8 (Nat.le_of_eq g5.symm))) nin0))
  have f23 := ((F_3.ext E5).keep K10 (ninS (Nat.ne_of_lt (Nat.lt_of_lt_of_le lt_9 (Nat.le_of_eq g5.symm))) nin0))
  have f24 := ((F_7.ext E5).keep K10 (ninS (Nat.ne_of_lt (Nat.lt_of_lt_of_le lt_8 (Nat.le_of_eq g5.symm))) nin0))
  have f25 := (A5.keep K10)
  have z26 : h0.size ≤ h5.size := E5.1
  have g27 : n0 ≤ b10_0 := Nat.le_trans (Nat.le_trans (Nat.le_trans (Nat.le_of_eq O0.1.symm) O0.2.1) z26) gb10_0
  obtain ⟨_, T20, L20, X20, hQ20, st20⟩ := own_cv X18 hx hZ hown hml (W 87 rfl) (W 88 rfl) (notFace_of_selects (W 90 rfl)) (W 90 rfl) (W 89 rfl) (W 71 rfl) (W 91 rfl) (rm31_append l Z a0 hw b5 a2 a3 k4 p5 p6 b10_0 k10_0 T10.heap n0 O16 (f21) (f22) (f23) (S_4) (hc_5) (f24) (F10_4) (f25) (F10_2) (F10_0) (F10_3) (g27) ((Nat.ne_of_lt (Nat.lt_of_lt_of_le A5.lt gb10_0))) (g11)) e18 f25 (hb hby d_212) 0 #[rv a1] [(.ref a2)] [] pd_314
  obtain ⟨rfl, N20q, K20, F20_0, F20_1, F20_2, F20_3⟩ := hQ20
  have N28 := Fr.app N12 N20q
  have f29 := (Safe.keep K10 (sfS s13 sf0) c6.1 (Safe.new gb10_0))
  have s30 := Safe.exa (EL := consts_1) hZ.alike f25 (by decide) (by decide)
  have c31 := CHr.keep K20 (sfS s30 (sfS f29 sf0)) c14.1
  have C32 := CHr.trans C15 c31
  have O33 := O16.keep K20 (allS g11 (allS g27 all0))
  have K34 : Keep h0 T20.heap [] := Keep.trans K17 K20 (allS (Or.inr (Nat.le_of_eq g5.symm)) (allS (Or.inr (Nat.le_trans z26 gb10_0)) all0))
  obtain ⟨b35, T35, h35, k35, b35v, kc35, X35, e35, E35, hS35, hk35, hZ35, hown35, Le35, Lc35, Lv35, La35, Lx35, Lb35, c35, -, Ln35, st35⟩ := ldcCH (s := s) (vm0 := s.vm) (EL := consts_1) X20 hx hZ hown (W 134 rfl) (own_str_20 hw) rfl ((State.WarmedH.refl s).since 0) (Nat.zero_le _) (own_ew_21 hw) (List.mem_of_getElem? (i := 0) rfl) c31.1 (vs := [(.int (58 : Int32)), (.int (32 : Int32))]) (z := (2 : Int32)) ⟨by decide, by decide⟩ (by decide) rfl (g := (mkF m 31 #[rv a1] [(.ref b5)])) rfl (hb hby d_315) (n := 8) (by decide) (by decide) (by decide) (by decide)
  have C36 := CHr.trans C32 c35
  have O37 := O33.ext E35
  have K38 : Keep h0 h35 [] := Keep.ext K34 E35
  have f40 := (F20_0.ext E35)
  have f41 := ((f25.keep K20).ext E35)
  have f42 := (F20_1.ext E35)
  have f43 := (F20_2.ext E35)
  have f44 := (F20_3.ext E35)
  obtain ⟨_, T39, L39, X39, hQ39, st39⟩ := own_cv X35 hx hZ35 hown35 hml (W 87 rfl) (W 88 rfl) (notFace_of_selects (W 90 rfl)) (W 90 rfl) (W 89 rfl) (W 71 rfl) (W 91 rfl) (rm36_append l Z a0 hw b5 b35 b35v kc35 p6 b10_0 k10_0 p5 h35 n0 O37 (Le35) (Lv35) (La35) (S_4) (hc_5) (Lc35) (f40) (f41) (f42) (f43) (f44) (g27) ((Nat.ne_of_lt (Nat.lt_of_lt_of_le A5.lt gb10_0))) (g11)) e35 f41 (hb hby d_316) 0 #[rv a1] [(.ref b35)] [] pd_314
  obtain ⟨rfl, N39q, K39, F39_0, F39_1, F39_2, F39_3⟩ := hQ39
  have N45 := Fr.app N28 N39q
  have z46 : T10.heap.size ≤ T20.heap.size := K20.1
  have f47 := (CHr.safe c35 (Nat.lt_of_lt_of_le F10_0.lt z46) (Safe.keep K20 (sfS s30 (sfS f29 sf0)) c14.1 f29))
  have s48 := Safe.exa (EL := consts_1) hZ35.alike f41 (by decide) (by decide)
  have c49 := CHr.keep K39 (sfS s48 (sfS f47 sf0)) c35.1
  have C50 := CHr.trans C36 c49
  have O51 := O37.keep K39 (allS g11 (allS g27 all0))
  have K52 : Keep h0 T39.heap [] := Keep.trans K38 K39 (allS (Or.inr (Nat.le_of_eq g5.symm)) (allS (Or.inr (Nat.le_trans z26 gb10_0)) all0))
  have f54 := (((((F_10.ext E5).keep K10 (ninS (Nat.ne_of_lt (Nat.lt_of_lt_of_le lt_6 (Nat.le_of_eq g5.symm))) nin0)).keep K20 (ninS (Nat.ne_of_lt (Nat.lt_of_lt_of_le lt_6 (Nat.le_of_eq g5.symm))) (ninS (Nat.ne_of_lt (Nat.lt_of_lt_of_le (Nat.lt_of_lt_of_le lt_6 z26) gb10_0)) nin0))).ext E35).keep K39 (ninS (Nat.ne_of_lt (Nat.lt_of_lt_of_le lt_6 (Nat.le_of_eq g5.symm))) (ninS (Nat.ne_of_lt (Nat.lt_of_lt_of_le (Nat.lt_of_lt_of_le lt_6 z26) gb10_0)) nin0)))
  obtain ⟨T53, X53, e53, st53⟩ := getF X39 hx hZ35 hown35 (host := "") (Or.inl (W 41 rfl)) Via.refl rfl f54 (g := (mkF m 37 #[rv a1] [(.ref a1), (.ref b5)])) rfl rfl (hb hby d_321)
  have f56 := (((((F_11.ext E5).keep K10).keep K20).ext E35).keep K39)
  have f57 := (((((F_12.ext E5).keep K10 (ninS (Nat.ne_of_lt (Nat.lt_of_lt_of_le lt_15 (Nat.le_of_eq g5.symm))) nin0)).keep K20 (ninS (Nat.ne_of_lt (Nat.lt_of_lt_of_le lt_15 (Nat.le_of_eq g5.symm))) (ninS (Nat.ne_of_lt (Nat.lt_of_lt_of_le (Nat.lt_of_lt_of_le lt_15 z26) gb10_0)) nin0))).ext E35).keep K39 (ninS (Nat.ne_of_lt (Nat.lt_of_lt_of_le lt_15 (Nat.le_of_eq g5.symm))) (ninS (Nat.ne_of_lt (Nat.lt_of_lt_of_le (Nat.lt_of_lt_of_le lt_15 z26) gb10_0)) nin0)))
  have f58 := (((((F_13.ext E5).keep K10 (ninS (Nat.ne_of_lt (Nat.lt_of_lt_of_le lt_16 (Nat.le_of_eq g5.symm))) nin0)).keep K20 (ninS (Nat.ne_of_lt (Nat.lt_of_lt_of_le lt_16 (Nat.le_of_eq g5.symm))) (ninS (Nat.ne_of_lt (Nat.lt_of_lt_of_le (Nat.lt_of_lt_of_le lt_16 z26) gb10_0)) nin0))).ext E35).keep K39 (ninS (Nat.ne_of_lt (Nat.lt_of_lt_of_le lt_16 (Nat.le_of_eq g5.symm))) (ninS (Nat.ne_of_lt (Nat.lt_of_lt_of_le (Nat.lt_of_lt_of_le lt_16 z26) gb10_0)) nin0)))
  have f59 := (((((F_14.ext E5).keep K10 (ninS (Nat.ne_of_lt (Nat.lt_of_lt_of_le lt_15 (Nat.le_of_eq g5.symm))) nin0)).keep K20 (ninS (Nat.ne_of_lt (Nat.lt_of_lt_of_le lt_15 (Nat.le_of_eq g5.symm))) (ninS (Nat.ne_of_lt (Nat.lt_of_lt_of_le (Nat.lt_of_lt_of_le lt_15 z26) gb10_0)) nin0))).ext E35).keep K39 (ninS (Nat.ne_of_lt (Nat.lt_of_lt_of_le lt_15 (Nat.le_of_eq g5.symm))) (ninS (Nat.ne_of_lt (Nat.lt_of_lt_of_le (Nat.lt_of_lt_of_le lt_15 z26) gb10_0)) nin0)))
  have f60 := (f41.keep K39)
  obtain ⟨_, T55, L55, X55, hQ55, st55⟩ := own_cv X53 hx hZ35 hown35 hml (W 87 rfl) (W 88 rfl) (notFace_of_selects (W 90 rfl)) (W 90 rfl) (W 89 rfl) (W 71 rfl) (W 91 rfl) (rm79_append l Z a0 hw b5 a7 a8 k9 p10 p11 p6 b10_0 k10_0 p5 T39.heap n0 O51 (f56) (f57) (f58) (S_4) (hc_5) (f59) (F39_0) (f60) (F39_1) (F39_2) (F39_3) (g27) ((Nat.ne_of_lt (Nat.lt_of_lt_of_le A5.lt gb10_0))) (g11)) e53 f60 (hb hby d_322) 0 #[rv a1] [(.ref a7)] [] pd_314
  obtain ⟨rfl, N55q, K55, F55_0, F55_1, F55_2, F55_3⟩ := hQ55
  have N61 := Fr.app N45 N55q
  have f62 := (Safe.keep K39 (sfS s48 (sfS f47 sf0)) c35.1 f47)
  have s63 := Safe.exa (EL := consts_1) hZ35.alike f60 (by decide) (by decide)
  have c64 := CHr.keep K55 (sfS s63 (sfS f62 sf0)) c49.1
  have C65 := CHr.trans C50 c64
  have O66 := O51.keep K55 (allS g11 (allS g27 all0))
  have K67 : Keep h0 T55.heap [] := Keep.trans K52 K55 (allS (Or.inr (Nat.le_of_eq g5.symm)) (allS (Or.inr (Nat.le_trans z26 gb10_0)) all0))
  have f69 := (f60.keep K55)
  have z70 : T10.heap.size ≤ h35.size := (Nat.le_trans z46 E35.1)
  have z71 : T10.heap.size ≤ T39.heap.size := (Nat.le_trans z70 K39.1)
  have z72 : T10.heap.size ≤ T55.heap.size := (Nat.le_trans z71 K55.1)
  obtain ⟨_, T68, L68, X68, hQ68, st68⟩ := own_cv X55 hx hZ35 hown35 hml (W 135 rfl) (W 136 rfl) (notFace_of_selects (W 138 rfl)) (W 138 rfl) (W 137 rfl) (W 71 rfl) (W 139 rfl) (rm87_toString l Z a0 hw b5 b10_0 p6 k10_0 p5 p10 p11 T55.heap n0 O66 (f69) (F55_1) (F55_0) (S_4) (hc_5) (F55_3) (F55_2) ((Nat.lt_of_lt_of_le F10_0.lt z72))) rfl f69 (hb hby d_325) 0 #[rv a1] [] [] pd_73
  obtain ⟨b68_0, b68_1, k68_0, rfl, N68q, K68, gb68_0, gb68_1, F68_0, F68_1, F68_2, F68_3, F68_4⟩ := hQ68
  have N73 := Fr.app N61 N68q
  have c74 := CHr.keep K68 sf0 c64.1
  have C75 := CHr.trans C65 c74
  have O76 := O66.keep K68 all0
  have K77 : Keep h0 T68.heap [] := Keep.trans K67 K68 all0
  have z78 : h35.size ≤ T39.heap.size := K39.1
  have z79 : h35.size ≤ T55.heap.size := (Nat.le_trans z78 K55.1)
  have z80 : h35.size ≤ T68.heap.size := (Nat.le_trans z79 K68.1)
  have z81 : h0.size ≤ T10.heap.size := (Nat.le_trans z26 K10.1)
  have z82 : h0.size ≤ T20.heap.size := (Nat.le_trans z81 K20.1)
  have z83 : h0.size ≤ h35.size := (Nat.le_trans z82 E35.1)
  have z84 : h0.size ≤ T39.heap.size := (Nat.le_trans z83 K39.1)
  have z85 : h0.size ≤ T55.heap.size := (Nat.le_trans z84 K55.1)
  refine ⟨T68, some (.ref b68_0), _, _, _, T35.vm, _, X68, hS35, (Nat.le_trans hk35 z80), by decide, by decide, nofun, ?_, own_che rfl (CHr.trans C75 (CHv.at (s := s) X68 hZ35 (own_ew_21 hw) c74.1)), fun fs hr => castTop (ef_44 m a1) ?_⟩
  · show Q88_toString Z a1 a2 a3 k4 p5 p6 a7 a8 k9 p10 p11 h0 n0 _ T68.heap _
    exact ⟨b68_0, b68_1, k68_0, rfl, N73, K77, (Nat.le_trans z85 gb68_0), (Nat.le_trans z85 gb68_1), F68_0, F68_1, F68_2, F68_3, F68_4⟩
  · show SS p e below s₁ m 0 #[rv a1] [] _
    refine XS.aloadN X1.here hx rfl (hb hby d_57) rfl rfl ?_
    refine st2 _ ?_
    refine st3 _ ?_
    refine XS.ifYes X3.here hx rfl (pc0 := 7) (pc' := 17) rfl (hb hby d_68) rfl ((if0 _ _).trans (teq (by decide : (0 : Int32) = (0 : Int32))).1) (by decide) (by decide) ?_
    refine st5 _ ?_
    refine XS.dup X5.here hx rfl (hb hby d_187) rfl rfl ?_
    refine st10 _ ?_
    refine XS.aloadN X10.here hx rfl (hb hby d_210) rfl rfl ?_
    refine st18 _ ?_
    refine st20 _ ?_
    show SS p e below T20 m 31 #[rv a1] [(.ref b5)] _
    refine st35 _ ?_
    refine st39 _ ?_
    refine XS.aloadN X39.here hx rfl (hb hby d_320) rfl rfl ?_
    refine st53 _ ?_
    refine st55 _ ?_
    refine st68 _ ?_
    exact retOut X68 hx hret rfl (Or.inr (Or.inr (Or.inr (Or.inr ⟨rfl, rfl, rfl⟩)))) (hb hby d_72) hr
theorem rm0_1_2 (l : Launch) (Z : State) (a0 : Array Value) (hw : HW Z a0) (ws : List Jvm.Cond) (p1 : Int32) (p2 : Int32) (p3 : Int32) (p4 : Int32) (p5 : Int32) (c0 : Int32) (c1 : Int32) (d0 : Int32) (d1 : Int32) (o_COMPACT_STRINGS : Int32) (o_SIOOBE_FORMATTER : Value) (h0 : Heap) (n0 : Nat) (O0 : Old Z n0 h0) (S_o_COMPACT_STRINGS : SA48 Z Z.heap (.int o_COMPACT_STRINGS)) (S_o_SIOOBE_FORMATTER : SA49 Z Z.heap o_SIOOBE_FORMATTER) (nz_o_COMPACT_STRINGS : ¬ (o_COMPACT_STRINGS = (0 : Int32))) (ir_o_SIOOBE_FORMATTER : o_SIOOBE_FORMATTER.isRef = true) (hpl : ((p1 &&& (2147483647 : Int32)) % (3 : Int32)) = (1 : Int32)) (hml_ : ((((p1.toUInt32 >>> ((8 : Int32) &&& 31).toUInt32).toInt32) &&& (2147483647 : Int32)) % (3 : Int32)) = (2 : Int32)) (h_c0 : ((p2 &&& (255 : Int32)).toUInt32.toUInt16.toUInt32.toInt32) = c0) (r_c0 : ¬ ((255 : Int32) < c0)) (n_c0 : ¬ (c0 < (0 : Int32))) (i_c0 : (c0.toUInt32.toUInt16.toUInt32.toInt32) = c0) (b_c0 : ((c0.toInt8.toInt32) &&& (255 : Int32)) = c0) (h_c1 : ((p3 &&& (255 : Int32)).toUInt32.toUInt16.toUInt32.toInt32) = c1) (r_c1 : ¬ ((255 : Int32) < c1)) (n_c1 : ¬ (c1 < (0 : Int32))) (i_c1 : (c1.toUInt32.toUInt16.toUInt32.toInt32) = c1) (b_c1 : ((c1.toInt8.toInt32) &&& (255 : Int32)) = c1) (h_d0 : ((p4 &&& (255 : Int32)).toUInt32.toUInt16.toUInt32.toInt32) = d0) (r_d0 : ¬ ((255 : Int32) < d0)) (n_d0 : ¬ (d0 < (0 : Int32))) (i_d0 : (d0.toUInt32.toUInt16.toUInt32.toInt32) = d0) (b_d0 : ((d0.toInt8.toInt32) &&& (255 : Int32)) = d0) (h_d1 : ((p5 &&& (255 : Int32)).toUInt32.toUInt16.toUInt32.toInt32) = d1) (r_d1 : ¬ ((255 : Int32) < d1)) (n_d1 : ¬ (d1 < (0 : Int32))) (i_d1 : (d1.toUInt32.toUInt16.toUInt32.toInt32) = d1) (b_d1 : ((d1.toInt8.toInt32) &&& (255 : Int32)) = d1) :
    MetH l Z ws x code maxLocals ret room_1 #[(.int p1), (.int p2), (.int p3), (.int p4), (.int p5)] h0 consts_1 [] (fun v _ L => Q0 n0 v L) := by
  have W := @own_W _ _ hw
  refine own_mkH (plainFor_of_name pn_37) ?_
  intro p e s m below meth c s₁ hZ hx hby hml hown hnm hret hlk X0 e0 H0 hsf
  have N0 := Fr.nil n0
  have C0 := CHr.refl H0
  have X1 := (show Stand p l e _ (s.setVm s.vm) m _ below meth c _ _ _ _ from X0)
  obtain ⟨_, T2, L2, X2, hQ2, st2⟩ := own_cs X1 hx hZ hown hml (W 1 rfl) (W 2 rfl) (W 3 rfl) (W 4 rfl) (rm14_mk l Z a0 hw c0 c1 o_COMPACT_STRINGS h0 n0 O0 (i_c0) (S_o_COMPACT_STRINGS) (nz_o_COMPACT_STRINGS) (r_c0)) e0 (hb hby at_58) 0 #[iv p1, iv p2, iv p3, iv p4, iv p5, iv (1 : Int32), iv (2 : Int32), iv c0, iv c1, iv d0, iv d1, .unset, .unset, .unset] [(.int (1 : Int32)), (.int c0), (.int c1)] [] pd_38
  obtain ⟨b2_0, b2_1, k2_0, rfl, N2q, K2, gb2_0, gb2_1, F2_0, F2_1, F2_2, F2_3, F2_4⟩ := hQ2
  have N3 := Fr.app N0 N2q
  have c4 := CHr.keep K2 sf0 H0
  have C5 := CHr.trans C0 c4
  have O6 := O0.keep K2 all0
  have K7 : Keep h0 T2.heap [] := Keep.trans (Keep.refl h0 []) K2 all0
  obtain ⟨_, T8, L8, X8, hQ8, st8⟩ := own_cs X2 hx hZ hown hml (W 1 rfl) (W 2 rfl) (W 3 rfl) (W 4 rfl) (rm20_mk l Z a0 hw d0 d1 o_COMPACT_STRINGS T2.heap n0 O6 (i_d0) (i_d1) (S_o_COMPACT_STRINGS) (nz_o_COMPACT_STRINGS) (r_d0) (r_d1)) rfl (hb hby at_69) 0 #[iv p1, iv p2, iv p3, iv p4, iv p5, iv (1 : Int32), iv (2 : Int32), iv c0, iv c1, iv d0, iv d1, rv b2_0, .unset, .unset] [(.int (2 : Int32)), (.int d0), (.int d1)] [] pd_38
  obtain ⟨b8_0, b8_1, k8_0, rfl, N8q, K8, gb8_0, gb8_1, F8_0, F8_1, F8_2, F8_3, F8_4⟩ := hQ8
  have N9 := Fr.app N3 N8q
  have c10 := CHr.keep K8 sf0 c4.1
  have C11 := CHr.trans C5 c10
  have O12 := O6.keep K8 all0
  have K13 : Keep h0 T8.heap [] := Keep.trans K7 K8 all0
  obtain ⟨T14, h14, X14, e14, E14, A14, D14, -, st14⟩ := newO X8 hx hZ hown (W 27 rfl) (W 28 rfl) (W 29 rfl) rfl (g := (mkF m 74 #[iv p1, iv p2, iv p3, iv p4, iv p5, iv (1 : Int32), iv (2 : Int32), iv c0, iv c1, iv d0, iv d1, rv b2_0, rv b8_0, .unset] [])) rfl (hb hby at_74) (by decide) (by decide)
  obtain ⟨b14, g14⟩ : ∃ z, z = T8.heap.size := ⟨_, rfl⟩
  rw [← g14] at A14 D14 st14
  have c15 := CHr.ext E14 c10.1
  have C16 := CHr.trans C11 c15
  have O17 := O12.ext E14
  have K18 : Keep h0 h14 [] := Keep.ext K13 E14
  have z20 : h0.size ≤ T2.heap.size := K2.1
  have z21 : h0.size ≤ T8.heap.size := (Nat.le_trans z20 K8.1)
  have g22 : n0 ≤ b14 := Nat.le_trans (Nat.le_trans (Nat.le_trans (Nat.le_of_eq O0.1.symm) O0.2.1) z21) (Nat.le_of_eq g14.symm)
  obtain ⟨_, T19, L19, X19, hQ19, st19⟩ := own_cp X14 hx hZ hown hml rfl (W 30 rfl) (W 31 rfl) (W 29 rfl) (W 32 rfl) (rm5_init l Z a0 hw b14 b2_0 b8_0 h14 n0 O17 (A14) ((D14 (Or.inr (W 40 rfl)) (ty := (.object "java/lang/String")) (by decide) : FA39 Z h14 b14 .null)) (g22) ((D14 (Or.inr (W 42 rfl)) (ty := (.object "java/lang/String")) (by decide) : FA40 Z h14 b14 .null))) e14 (hb hby at_82) 1 #[iv p1, iv p2, iv p3, iv p4, iv p5, iv (1 : Int32), iv (2 : Int32), iv c0, iv c1, iv d0, iv d1, rv b2_0, rv b8_0, .unset] b14 [(.ref b2_0), (.ref b8_0)] [(.ref b14)] pd_56
  obtain ⟨rfl, N19q, K19, F19_0, F19_1⟩ := hQ19
  have N23 := Fr.app N9 N19q
  have s24 := Safe.exa (EL := consts_1) hZ.alike A14 (by decide) (by decide)
  have c25 := CHr.keep K19 (sfS s24 sf0) c15.1
  have C26 := CHr.trans C16 c25
  have O27 := O17.keep K19 (allS g22 all0)
  have K28 : Keep h0 T19.heap [] := Keep.trans K18 K19 (allS (Or.inr (Nat.le_trans z21 (Nat.le_of_eq g14.symm))) all0)
  have f30 := (((F2_0.keep K8).ext E14).keep K19)
  have z31 : T2.heap.size ≤ T8.heap.size := K8.1
  have f32 := (((F2_1.keep K8 nin0).ext E14).keep K19 (ninS (Nat.ne_of_lt (Nat.lt_of_lt_of_le (Nat.lt_of_lt_of_le F2_0.lt z31) (Nat.le_of_eq g14.symm))) nin0))
  have f33 := (((F2_3.keep K8 nin0).ext E14).keep K19 (ninS (Nat.ne_of_lt (Nat.lt_of_lt_of_le (Nat.lt_of_lt_of_le F2_3.lt z31) (Nat.le_of_eq g14.symm))) nin0))
  have z34 : h14.size ≤ T19.heap.size := K19.1
  have f35 := (((F2_2.keep K8 nin0).ext E14).keep K19 (ninS (Nat.ne_of_lt (Nat.lt_of_lt_of_le (Nat.lt_of_lt_of_le F2_0.lt z31) (Nat.le_of_eq g14.symm))) nin0))
  have z36 : T2.heap.size ≤ h14.size := (Nat.le_trans z31 E14.1)
  have z37 : T2.heap.size ≤ T19.heap.size := (Nat.le_trans z36 K19.1)
  have f38 := ((F8_0.ext E14).keep K19)
  have f39 := ((F8_1.ext E14).keep K19 (ninS (Nat.ne_of_lt (Nat.lt_of_lt_of_le F8_0.lt (Nat.le_of_eq g14.symm))) nin0))
  have f40 := ((F8_3.ext E14).keep K19 (ninS (Nat.ne_of_lt (Nat.lt_of_lt_of_le F8_3.lt (Nat.le_of_eq g14.symm))) nin0))
  have f41 := ((F8_2.ext E14).keep K19 (ninS (Nat.ne_of_lt (Nat.lt_of_lt_of_le F8_0.lt (Nat.le_of_eq g14.symm))) nin0))
  have z42 : T8.heap.size ≤ h14.size := E14.1
  have z43 : T8.heap.size ≤ T19.heap.size := (Nat.le_trans z42 K19.1)
  have f44 := (A14.keep K19)
  obtain ⟨cq29, kq29, q29a, q29b, q29c⟩ := isOf hZ rfl f44
  obtain ⟨_, _, ⟨T29, L29, k29, n29⟩, -, Y29, hs29, hg29, ⟨Lc29, hQ29, l29, y29, z29, c29⟩, st29⟩ := X19.virtualBackS hx (y := MY6) (z := MY6) hown (mvT hZ (W 43 rfl)) (mvT hZ (W 44 rfl)) (notFace_of_selects (args := #[]) (mvT hZ (W 46 rfl))) (mvT hZ (W 46 rfl)) (mvT hZ (W 45 rfl)) (by decide) (own_backH (s := s) (vm0 := s.vm) (W := 0) (rm88_toString l Z a0 hw b14 b2_0 b2_1 k2_0 (c0.toInt8.toInt32) o_COMPACT_STRINGS b8_0 b8_1 k8_0 (d0.toInt8.toInt32) (d1.toInt8.toInt32) T19.heap n0 O27 (F19_0) (f30) (f32) (f33) (S_o_COMPACT_STRINGS) (nz_o_COMPACT_STRINGS) ((Nat.lt_of_lt_of_le A14.lt z34)) (f35) ((Nat.lt_of_lt_of_le F2_0.lt z37)) ((Nat.lt_of_lt_of_le F2_3.lt z37)) (F19_1) (f38) (f39) (f40) (f41) ((Nat.lt_of_lt_of_le F8_0.lt z43)) ((Nat.lt_of_lt_of_le F8_3.lt z43))) hZ (W 47 rfl) (W 29 rfl) (by decide) (by decide) (own_ew_21 hw) c25.1 own_sf0) q29a q29c (g := (mkF m 85 #[iv p1, iv p2, iv p3, iv p4, iv p5, iv (1 : Int32), iv (2 : Int32), iv c0, iv c1, iv d0, iv d1, rv b2_0, rv b8_0, .unset] [(.ref b14)])) rfl (by rw [hml]; rfl) (Steps.refl _) (argsL := []) (rest := []) (lenOf pd_73 rfl) rfl (by show 2 * 0 + _ ≤ _; exact Nat.le_of_eq rfl) (hb hby at_85) (fun _ _ => ⟨rfl, rfl, (by decide : 7 + 6 ≤ _), (by decide : 16 + 41 ≤ _)⟩)
  dsimp only [Pt.U, Pt.locs, Pt.cells, Pt.slots] at Y29 l29 y29 z29 st29 hQ29 hs29 hg29 c29
  subst l29 y29 z29
  obtain ⟨X29, hS29, hZ29, hown29⟩ := rebS (s := s) (vm0 := s.vm) ((State.WarmedH.refl s).since 0) (Nat.zero_le _) Y29 hs29 hg29 hZ hown
  obtain ⟨b29_0, b29_1, k29_0, rfl, N29q, K29, gb29_0, gb29_1, F29_0, F29_1, F29_2, F29_3, F29_4⟩ := hQ29
  have N45 := Fr.app N23 N29q
  have C46 := CHr.trans C26 c29
  have O47 := O27.keep K29 all0
  have K48 : Keep h0 T29.heap [] := Keep.trans K28 K29 all0
  obtain ⟨_, T49, L49, X49, hQ49, st49⟩ := own_cv X29 hx hZ29 hown29 hml (W 180 rfl) (W 98 rfl) (notFace_of_selects (W 100 rfl)) (W 100 rfl) (W 99 rfl) (W 7 rfl) (W 101 rfl) (rm25_length l Z a0 hw b29_0 b29_1 k29_0 (5 : Int32) [(.int (c0.toInt8.toInt32)), (.int (58 : Int32)), (.int (32 : Int32)), (.int (d0.toInt8.toInt32)), (.int (d1.toInt8.toInt32))] o_COMPACT_STRINGS T29.heap n0 O47 (F29_1) (F29_3) (F29_0) (S_o_COMPACT_STRINGS) (nz_o_COMPACT_STRINGS) (F29_2) ((by decide))) rfl F29_0 (hb hby at_112) 0 #[iv p1, iv p2, iv p3, iv p4, iv p5, iv (1 : Int32), iv (2 : Int32), iv c0, iv c1, iv d0, iv d1, rv b2_0, rv b8_0, rv b29_0] [] [] pd_234
  obtain ⟨rfl, N49q, K49⟩ := hQ49
  have N50 := Fr.app N45 N49q
  obtain ⟨_, T51, L51, X51, hQ51, st51⟩ := own_cv X49 hx hZ29 hown29 hml (W 181 rfl) (W 182 rfl) (notFace_of_selects (W 184 rfl)) (W 184 rfl) (W 183 rfl) (W 7 rfl) (W 185 rfl) (rm58_charAt l Z a0 hw b29_0 (0 : Int32) o_COMPACT_STRINGS b29_1 k29_0 (5 : Int32) [(.int (c0.toInt8.toInt32)), (.int (58 : Int32)), (.int (32 : Int32)), (.int (d0.toInt8.toInt32)), (.int (d1.toInt8.toInt32))] o_SIOOBE_FORMATTER (c0.toInt8.toInt32) c0 T29.heap n0 O47 (F29_0) (S_o_COMPACT_STRINGS) (nz_o_COMPACT_STRINGS) (F29_2) (F29_1) (F29_3) (S_o_SIOOBE_FORMATTER) ((by decide : ¬ ((0 : Int32) < (0 : Int32)))) ((by decide : (0 : Int32) < (5 : Int32))) (rfl) (b_c0) (i_c0) (ir_o_SIOOBE_FORMATTER) (i_c0)) K49 F29_0 (hb hby at_130) 0 #[iv p1, iv p2, iv p3, iv p4, iv p5, iv (1 : Int32), iv (2 : Int32), iv c0, iv c1, iv d0, iv d1, rv b2_0, rv b8_0, rv b29_0] [o0] [] pd_476
  obtain ⟨rfl, N51q, K51⟩ := hQ51
  have N52 := Fr.app N50 N51q
  obtain ⟨_, T53, L53, X53, hQ53, st53⟩ := own_cv X51 hx hZ29 hown29 hml (W 181 rfl) (W 182 rfl) (notFace_of_selects (W 184 rfl)) (W 184 rfl) (W 183 rfl) (W 7 rfl) (W 185 rfl) (rm60_charAt l Z a0 hw b29_0 (1 : Int32) o_COMPACT_STRINGS b29_1 k29_0 (5 : Int32) [(.int (c0.toInt8.toInt32)), (.int (58 : Int32)), (.int (32 : Int32)), (.int (d0.toInt8.toInt32)), (.int (d1.toInt8.toInt32))] o_SIOOBE_FORMATTER (58 : Int32) T29.heap n0 O47 (F29_0) (S_o_COMPACT_STRINGS) (nz_o_COMPACT_STRINGS) (F29_2) (F29_1) (F29_3) (S_o_SIOOBE_FORMATTER) ((by decide : ¬ ((1 : Int32) < (0 : Int32)))) ((by decide : (1 : Int32) < (5 : Int32))) (rfl) ((by decide)) ((by decide)) (ir_o_SIOOBE_FORMATTER) ((by decide))) K51 F29_0 (hb hby at_163) 0 #[iv p1, iv p2, iv p3, iv p4, iv p5, iv (1 : Int32), iv (2 : Int32), iv c0, iv c1, iv d0, iv d1, rv b2_0, rv b8_0, rv b29_0] [(.int (1 : Int32))] [] pd_476
  obtain ⟨rfl, N53q, K53⟩ := hQ53
  have N54 := Fr.app N52 N53q
  obtain ⟨_, T55, L55, X55, hQ55, st55⟩ := own_cv X53 hx hZ29 hown29 hml (W 181 rfl) (W 182 rfl) (notFace_of_selects (W 184 rfl)) (W 184 rfl) (W 183 rfl) (W 7 rfl) (W 185 rfl) (rm60_charAt l Z a0 hw b29_0 (2 : Int32) o_COMPACT_STRINGS b29_1 k29_0 (5 : Int32) [(.int (c0.toInt8.toInt32)), (.int (58 : Int32)), (.int (32 : Int32)), (.int (d0.toInt8.toInt32)), (.int (d1.toInt8.toInt32))] o_SIOOBE_FORMATTER (32 : Int32) T29.heap n0 O47 (F29_0) (S_o_COMPACT_STRINGS) (nz_o_COMPACT_STRINGS) (F29_2) (F29_1) (F29_3) (S_o_SIOOBE_FORMATTER) ((by decide : ¬ ((2 : Int32) < (0 : Int32)))) ((by decide : (2 : Int32) < (5 : Int32))) (rfl) ((by decide)) ((by decide)) (ir_o_SIOOBE_FORMATTER) ((by decide))) K53 F29_0 (hb hby at_179) 0 #[iv p1, iv p2, iv p3, iv p4, iv p5, iv (1 : Int32), iv (2 : Int32), iv c0, iv c1, iv d0, iv d1, rv b2_0, rv b8_0, rv b29_0] [(.int (2 : Int32))] [] pd_476
  obtain ⟨rfl, N55q, K55⟩ := hQ55
  have N56 := Fr.app N54 N55q
  obtain ⟨_, T57, L57, X57, hQ57, st57⟩ := own_cv X55 hx hZ29 hown29 hml (W 181 rfl) (W 182 rfl) (notFace_of_selects (W 184 rfl)) (W 184 rfl) (W 183 rfl) (W 7 rfl) (W 185 rfl) (rm58_charAt l Z a0 hw b29_0 (3 : Int32) o_COMPACT_STRINGS b29_1 k29_0 (5 : Int32) [(.int (c0.toInt8.toInt32)), (.int (58 : Int32)), (.int (32 : Int32)), (.int (d0.toInt8.toInt32)), (.int (d1.toInt8.toInt32))] o_SIOOBE_FORMATTER (d0.toInt8.toInt32) d0 T29.heap n0 O47 (F29_0) (S_o_COMPACT_STRINGS) (nz_o_COMPACT_STRINGS) (F29_2) (F29_1) (F29_3) (S_o_SIOOBE_FORMATTER) ((by decide : ¬ ((3 : Int32) < (0 : Int32)))) ((by decide : (3 : Int32) < (5 : Int32))) (rfl) (b_d0) (i_d0) (ir_o_SIOOBE_FORMATTER) (i_d0)) K55 F29_0 (hb hby at_201) 0 #[iv p1, iv p2, iv p3, iv p4, iv p5, iv (1 : Int32), iv (2 : Int32), iv c0, iv c1, iv d0, iv d1, rv b2_0, rv b8_0, rv b29_0] [(.int (3 : Int32))] [] pd_476
  obtain ⟨rfl, N57q, K57⟩ := hQ57
  have N58 := Fr.app N56 N57q
  obtain ⟨_, T59, L59, X59, hQ59, st59⟩ := own_cv X57 hx hZ29 hown29 hml (W 181 rfl) (W 182 rfl) (notFace_of_selects (W 184 rfl)) (W 184 rfl) (W 183 rfl) (W 7 rfl) (W 185 rfl) (rm58_charAt l Z a0 hw b29_0 (4 : Int32) o_COMPACT_STRINGS b29_1 k29_0 (5 : Int32) [(.int (c0.toInt8.toInt32)), (.int (58 : Int32)), (.int (32 : Int32)), (.int (d0.toInt8.toInt32)), (.int (d1.toInt8.toInt32))] o_SIOOBE_FORMATTER (d1.toInt8.toInt32) d1 T29.heap n0 O47 (F29_0) (S_o_COMPACT_STRINGS) (nz_o_COMPACT_STRINGS) (F29_2) (F29_1) (F29_3) (S_o_SIOOBE_FORMATTER) ((by decide : ¬ ((4 : Int32) < (0 : Int32)))) ((by decide : (4 : Int32) < (5 : Int32))) (rfl) (b_d1) (i_d1) (ir_o_SIOOBE_FORMATTER) (i_d1)) K57 F29_0 (hb hby at_223) 0 #[iv p1, iv p2, iv p3, iv p4, iv p5, iv (1 : Int32), iv (2 : Int32), iv c0, iv c1, iv d0, iv d1, rv b2_0, rv b8_0, rv b29_0] [(.int (4 : Int32))] [] pd_476
  obtain ⟨rfl, N59q, K59⟩ := hQ59
  have N60 := Fr.app N58 N59q
  refine ⟨T59, some (.int (1 : Int32)), _, _, _, T29.vm, _, X59, hS29, (by rw [K59]; exact (Nat.le_refl _)), by decide, by decide, nofun, ?_, own_che K59 (CHr.trans C46 (CHv.at (s := s) X59 hZ29 (own_ew_21 hw) c29.1)), fun fs hr => castTop (ef_81 m p1 p2 p3 p4 p5) ?_⟩
  · exact ⟨rfl, N60⟩
  · show SS p e below s₁ m 0 #[iv p1, iv p2, iv p3, iv p4, iv p5, .unset, .unset, .unset, .unset, .unset, .unset, .unset, .unset, .unset] [] _
    refine XS.iloadN X1.here hx rfl (hb hby at_0) rfl ?_
    refine X1.ldcInt hx hown (mvT hZ (W 0 rfl)) (g := (mkF m 1 #[iv p1, iv p2, iv p3, iv p4, iv p5, .unset, .unset, .unset, .unset, .unset, .unset, .unset, .unset, .unset] [(.int p1)])) rfl (hb hby at_1) _ ?_
    show SS p e below s₁ m 3 #[iv p1, iv p2, iv p3, iv p4, iv p5, .unset, .unset, .unset, .unset, .unset, .unset, .unset, .unset, .unset] [(.int (2147483647 : Int32)), (.int p1)] _
    refine XS.iand X1.here hx rfl (hb hby at_3) rfl ?_
    show SS p e below s₁ m 4 #[iv p1, iv p2, iv p3, iv p4, iv p5, .unset, .unset, .unset, .unset, .unset, .unset, .unset, .unset, .unset] [(.int (p1 &&& (2147483647 : Int32)))] _
    refine XS.iconst X1.here hx rfl (hb hby at_4) ?_
    refine iremM (g := (mkF m 5 #[iv p1, iv p2, iv p3, iv p4, iv p5, .unset, .unset, .unset, .unset, .unset, .unset, .unset, .unset, .unset] [(.int (3 : Int32)), (.int (p1 &&& (2147483647 : Int32)))])) X1 hx rfl (hb hby at_5) rfl (by decide : ¬ ((3 : Int32) = (0 : Int32))) ?_
    rw [hpl]
    show SS p e below s₁ m 6 #[iv p1, iv p2, iv p3, iv p4, iv p5, .unset, .unset, .unset, .unset, .unset, .unset, .unset, .unset, .unset] [(.int (1 : Int32))] _
    refine XS.istore X1.here hx rfl (hb hby at_6) rfl (l' := #[iv p1, iv p2, iv p3, iv p4, iv p5, iv (1 : Int32), .unset, .unset, .unset, .unset, .unset, .unset, .unset, .unset]) rfl ?_
    refine XS.iloadN X1.here hx rfl (hb hby at_8) rfl ?_
    refine XS.bipush X1.here hx rfl (hb hby at_9) ?_
    show SS p e below s₁ m 11 #[iv p1, iv p2, iv p3, iv p4, iv p5, iv (1 : Int32), .unset, .unset, .unset, .unset, .unset, .unset, .unset, .unset] [(.int (8 : Int32)), (.int p1)] _
    refine XS.iushr X1.here hx rfl (hb hby at_11) rfl ?_
    show SS p e below s₁ m 12 #[iv p1, iv p2, iv p3, iv p4, iv p5, iv (1 : Int32), .unset, .unset, .unset, .unset, .unset, .unset, .unset, .unset] [(.int ((p1.toUInt32 >>> ((8 : Int32) &&& 31).toUInt32).toInt32))] _
    refine X1.ldcInt hx hown (mvT hZ (W 0 rfl)) (g := (mkF m 12 #[iv p1, iv p2, iv p3, iv p4, iv p5, iv (1 : Int32), .unset, .unset, .unset, .unset, .unset, .unset, .unset, .unset] [(.int ((p1.toUInt32 >>> ((8 : Int32) &&& 31).toUInt32).toInt32))])) rfl (hb hby at_12) _ ?_
    refine XS.iand X1.here hx rfl (hb hby at_14) rfl ?_
    show SS p e below s₁ m 15 #[iv p1, iv p2, iv p3, iv p4, iv p5, iv (1 : Int32), .unset, .unset, .unset, .unset, .unset, .unset, .unset, .unset] [(.int (((p1.toUInt32 >>> ((8 : Int32) &&& 31).toUInt32).toInt32) &&& (2147483647 : Int32)))] _
    refine XS.iconst X1.here hx rfl (hb hby at_15) ?_
    refine iremM (g := (mkF m 16 #[iv p1, iv p2, iv p3, iv p4, iv p5, iv (1 : Int32), .unset, .unset, .unset, .unset, .unset, .unset, .unset, .unset] [(.int (3 : Int32)), (.int (((p1.toUInt32 >>> ((8 : Int32) &&& 31).toUInt32).toInt32) &&& (2147483647 : Int32)))])) X1 hx rfl (hb hby at_16) rfl (by decide : ¬ ((3 : Int32) = (0 : Int32))) ?_
    rw [hml_]
    show SS p e below s₁ m 17 #[iv p1, iv p2, iv p3, iv p4, iv p5, iv (1 : Int32), .unset, .unset, .unset, .unset, .unset, .unset, .unset, .unset] [(.int (2 : Int32))] _
    refine XS.istore X1.here hx rfl (hb hby at_17) rfl (l' := #[iv p1, iv p2, iv p3, iv p4, iv p5, iv (1 : Int32), iv (2 : Int32), .unset, .unset, .unset, .unset, .unset, .unset, .unset]) rfl ?_
    refine XS.iloadN X1.here hx rfl (hb hby at_19) rfl ?_
    refine XS.sipush X1.here hx rfl (hb hby at_20) ?_
    show SS p e below s₁ m 23 #[iv p1, iv p2, iv p3, iv p4, iv p5, iv (1 : Int32), iv (2 : Int32), .unset, .unset, .unset, .unset, .unset, .unset, .unset] [(.int (255 : Int32)), (.int p2)] _
    refine XS.iand X1.here hx rfl (hb hby at_23) rfl ?_
    show SS p e below s₁ m 24 #[iv p1, iv p2, iv p3, iv p4, iv p5, iv (1 : Int32), iv (2 : Int32), .unset, .unset, .unset, .unset, .unset, .unset, .unset] [(.int (p2 &&& (255 : Int32)))] _
    refine XS.i2c X1.here hx rfl (hb hby at_24) rfl ?_
    rw [h_c0]
    show SS p e below s₁ m 25 #[iv p1, iv p2, iv p3, iv p4, iv p5, iv (1 : Int32), iv (2 : Int32), .unset, .unset, .unset, .unset, .unset, .unset, .unset] [(.int c0)] _
    refine XS.istore X1.here hx rfl (hb hby at_25) rfl (l' := #[iv p1, iv p2, iv p3, iv p4, iv p5, iv (1 : Int32), iv (2 : Int32), iv c0, .unset, .unset, .unset, .unset, .unset, .unset]) rfl ?_
    refine XS.iloadN X1.here hx rfl (hb hby at_27) rfl ?_
    refine XS.sipush X1.here hx rfl (hb hby at_28) ?_
    show SS p e below s₁ m 31 #[iv p1, iv p2, iv p3, iv p4, iv p5, iv (1 : Int32), iv (2 : Int32), iv c0, .unset, .unset, .unset, .unset, .unset, .unset] [(.int (255 : Int32)), (.int p3)] _
    refine XS.iand X1.here hx rfl (hb hby at_31) rfl ?_
    show SS p e below s₁ m 32 #[iv p1, iv p2, iv p3, iv p4, iv p5, iv (1 : Int32), iv (2 : Int32), iv c0, .unset, .unset, .unset, .unset, .unset, .unset] [(.int (p3 &&& (255 : Int32)))] _
    refine XS.i2c X1.here hx rfl (hb hby at_32) rfl ?_
    rw [h_c1]
    show SS p e below s₁ m 33 #[iv p1, iv p2, iv p3, iv p4, iv p5, iv (1 : Int32), iv (2 : Int32), iv c0, .unset, .unset, .unset, .unset, .unset, .unset] [(.int c1)] _
    refine XS.istore X1.here hx rfl (hb hby at_33) rfl (l' := #[iv p1, iv p2, iv p3, iv p4, iv p5, iv (1 : Int32), iv (2 : Int32), iv c0, iv c1, .unset, .unset, .unset, .unset, .unset]) rfl ?_
    refine XS.iloadN X1.here hx rfl (hb hby at_35) rfl ?_
    refine XS.sipush X1.here hx rfl (hb hby at_36) ?_
    show SS p e below s₁ m 39 #[iv p1, iv p2, iv p3, iv p4, iv p5, iv (1 : Int32), iv (2 : Int32), iv c0, iv c1, .unset, .unset, .unset, .unset, .unset] [(.int (255 : Int32)), (.int p4)] _
    refine XS.iand X1.here hx rfl (hb hby at_39) rfl ?_
    show SS p e below s₁ m 40 #[iv p1, iv p2, iv p3, iv p4, iv p5, iv (1 : Int32), iv (2 : Int32), iv c0, iv c1, .unset, .unset, .unset, .unset, .unset] [(.int (p4 &&& (255 : Int32)))] _
    refine XS.i2c X1.here hx rfl (hb hby at_40) rfl ?_
    rw [h_d0]
    show SS p e below s₁ m 41 #[iv p1, iv p2, iv p3, iv p4, iv p5, iv (1 : Int32), iv (2 : Int32), iv c0, iv c1, .unset, .unset, .unset, .unset, .unset] [(.int d0)] _
    refine XS.istore X1.here hx rfl (hb hby at_41) rfl (l' := #[iv p1, iv p2, iv p3, iv p4, iv p5, iv (1 : Int32), iv (2 : Int32), iv c0, iv c1, iv d0, .unset, .unset, .unset, .unset]) rfl ?_
    refine XS.iload X1.here hx rfl (hb hby at_43) rfl ?_
    refine XS.sipush X1.here hx rfl (hb hby at_45) ?_
    show SS p e below s₁ m 48 #[iv p1, iv p2, iv p3, iv p4, iv p5, iv (1 : Int32), iv (2 : Int32), iv c0, iv c1, iv d0, .unset, .unset, .unset, .unset] [(.int (255 : Int32)), (.int p5)] _
    refine XS.iand X1.here hx rfl (hb hby at_48) rfl ?_
    show SS p e below s₁ m 49 #[iv p1, iv p2, iv p3, iv p4, iv p5, iv (1 : Int32), iv (2 : Int32), iv c0, iv c1, iv d0, .unset, .unset, .unset, .unset] [(.int (p5 &&& (255 : Int32)))] _
    refine XS.i2c X1.here hx rfl (hb hby at_49) rfl ?_
    rw [h_d1]
    show SS p e below s₁ m 50 #[iv p1, iv p2, iv p3, iv p4, iv p5, iv (1 : Int32), iv (2 : Int32), iv c0, iv c1, iv d0, .unset, .unset, .unset, .unset] [(.int d1)] _
    refine XS.istore X1.here hx rfl (hb hby at_50) rfl (l' := #[iv p1, iv p2, iv p3, iv p4, iv p5, iv (1 : Int32), iv (2 : Int32), iv c0, iv c1, iv d0, iv d1, .unset, .unset, .unset]) rfl ?_
    refine XS.iload X1.here hx rfl (hb hby at_52) rfl ?_
    refine XS.iload X1.here hx rfl (hb hby at_54) rfl ?_
    refine XS.iload X1.here hx rfl (hb hby at_56) rfl ?_
    refine st2 _ ?_
    refine XS.astore X2.here hx rfl (hb hby at_61) rfl rfl (l' := #[iv p1, iv p2, iv p3, iv p4, iv p5, iv (1 : Int32), iv (2 : Int32), iv c0, iv c1, iv d0, iv d1, rv b2_0, .unset, .unset]) rfl ?_
    refine XS.iload X2.here hx rfl (hb hby at_63) rfl ?_
    refine XS.iload X2.here hx rfl (hb hby at_65) rfl ?_
    refine XS.iload X2.here hx rfl (hb hby at_67) rfl ?_
    refine st8 _ ?_
    show SS p e below T8 m 72 #[iv p1, iv p2, iv p3, iv p4, iv p5, iv (1 : Int32), iv (2 : Int32), iv c0, iv c1, iv d0, iv d1, rv b2_0, .unset, .unset] [(.ref b8_0)] _
    refine XS.astore X8.here hx rfl (hb hby at_72) rfl rfl (l' := #[iv p1, iv p2, iv p3, iv p4, iv p5, iv (1 : Int32), iv (2 : Int32), iv c0, iv c1, iv d0, iv d1, rv b2_0, rv b8_0, .unset]) rfl ?_
    refine st14 _ ?_
    refine XS.dup X14.here hx rfl (hb hby at_77) rfl rfl ?_
    refine XS.aload X14.here hx rfl (hb hby at_78) rfl rfl ?_
    refine XS.aload X14.here hx rfl (hb hby at_80) rfl rfl ?_
    refine st19 _ ?_
    refine st29.trans ?_
    refine XS.astore X29.here hx rfl (hb hby at_88) rfl rfl (l' := #[iv p1, iv p2, iv p3, iv p4, iv p5, iv (1 : Int32), iv (2 : Int32), iv c0, iv c1, iv d0, iv d1, rv b2_0, rv b8_0, rv b29_0]) rfl ?_
    refine XS.aload X29.here hx rfl (hb hby at_90) rfl rfl ?_
    refine XS.ifnonnullYes X29.here hx rfl (pc0 := 92) (pc' := 97) rfl (hb hby at_92) rfl (by decide) (by decide) ?_
    show SS p e below T29 m 97 #[iv p1, iv p2, iv p3, iv p4, iv p5, iv (1 : Int32), iv (2 : Int32), iv c0, iv c1, iv d0, iv d1, rv b2_0, rv b8_0, rv b29_0] [] _
    refine XS.iload X29.here hx rfl (hb hby at_97) rfl ?_
    refine XS.ifYes X29.here hx rfl (pc0 := 99) (pc' := 110) rfl (hb hby at_99) rfl ((if0 _ _).trans (feq (by decide : ¬ ((1 : Int32) = (0 : Int32)))).2) (by decide) (by decide) ?_
    refine XS.aload X29.here hx rfl (hb hby at_110) rfl rfl ?_
    refine st49 _ ?_
    refine XS.iload X49.here hx rfl (hb hby at_115) rfl ?_
    refine XS.iconst X49.here hx rfl (hb hby at_117) ?_
    refine XS.iadd X49.here hx rfl (hb hby at_118) rfl ?_
    show SS p e below T49 m 119 #[iv p1, iv p2, iv p3, iv p4, iv p5, iv (1 : Int32), iv (2 : Int32), iv c0, iv c1, iv d0, iv d1, rv b2_0, rv b8_0, rv b29_0] [(.int (3 : Int32)), (.int (5 : Int32))] _
    refine XS.iload X49.here hx rfl (hb hby at_119) rfl ?_
    refine XS.iadd X49.here hx rfl (hb hby at_121) rfl ?_
    show SS p e below T49 m 122 #[iv p1, iv p2, iv p3, iv p4, iv p5, iv (1 : Int32), iv (2 : Int32), iv c0, iv c1, iv d0, iv d1, rv b2_0, rv b8_0, rv b29_0] [(.int (5 : Int32)), (.int (5 : Int32))] _
    refine XS.icmpYes X49.here hx rfl (pc0 := 122) (pc' := 127) rfl (hb hby at_122) rfl (teq (by decide : (5 : Int32) = (5 : Int32))).1 (by decide) (by decide) ?_
    refine XS.aload X49.here hx rfl (hb hby at_127) rfl rfl ?_
    refine XS.iconst X49.here hx rfl (hb hby at_129) ?_
    refine st51 _ ?_
    refine XS.iload X51.here hx rfl (hb hby at_133) rfl ?_
    refine XS.icmpYes X51.here hx rfl (pc0 := 135) (pc' := 140) rfl (hb hby at_135) rfl (teq (rfl : c0 = c0)).1 (by decide) (by decide) ?_
    refine XS.iload X51.here hx rfl (hb hby at_140) rfl ?_
    refine XS.iconst X51.here hx rfl (hb hby at_142) ?_
    refine XS.icmpYes X51.here hx rfl (pc0 := 143) (pc' := 159) rfl (hb hby at_143) rfl (feq (by decide : ¬ ((1 : Int32) = (2 : Int32)))).2 (by decide) (by decide) ?_
    refine XS.aload X51.here hx rfl (hb hby at_159) rfl rfl ?_
    show SS p e below T51 m 161 #[iv p1, iv p2, iv p3, iv p4, iv p5, iv (1 : Int32), iv (2 : Int32), iv c0, iv c1, iv d0, iv d1, rv b2_0, rv b8_0, rv b29_0] [(.ref b29_0)] _
    refine XS.iload X51.here hx rfl (hb hby at_161) rfl ?_
    refine st53 _ ?_
    refine XS.bipush X53.here hx rfl (hb hby at_166) ?_
    refine XS.icmpYes X53.here hx rfl (pc0 := 168) (pc' := 173) rfl (hb hby at_168) rfl (teq (by decide : (58 : Int32) = (58 : Int32))).1 (by decide) (by decide) ?_
    refine XS.aload X53.here hx rfl (hb hby at_173) rfl rfl ?_
    refine XS.iload X53.here hx rfl (hb hby at_175) rfl ?_
    refine XS.iconst X53.here hx rfl (hb hby at_177) ?_
    refine XS.iadd X53.here hx rfl (hb hby at_178) rfl ?_
    show SS p e below T53 m 179 #[iv p1, iv p2, iv p3, iv p4, iv p5, iv (1 : Int32), iv (2 : Int32), iv c0, iv c1, iv d0, iv d1, rv b2_0, rv b8_0, rv b29_0] [(.int (2 : Int32)), (.ref b29_0)] _
    refine st55 _ ?_
    refine XS.bipush X55.here hx rfl (hb hby at_182) ?_
    refine XS.icmpYes X55.here hx rfl (pc0 := 184) (pc' := 189) rfl (hb hby at_184) rfl (teq (by decide : (32 : Int32) = (32 : Int32))).1 (by decide) (by decide) ?_
    refine XS.iload X55.here hx rfl (hb hby at_189) rfl ?_
    refine XS.iconst X55.here hx rfl (hb hby at_191) ?_
    refine XS.icmpNo X55.here hx rfl (hb hby at_192) rfl (flt (by decide : ¬ ((2 : Int32) < (1 : Int32)))).1 ?_
    refine XS.aload X55.here hx rfl (hb hby at_195) rfl rfl ?_
    refine XS.iload X55.here hx rfl (hb hby at_197) rfl ?_
    refine XS.iconst X55.here hx rfl (hb hby at_199) ?_
    refine XS.iadd X55.here hx rfl (hb hby at_200) rfl ?_
    show SS p e below T55 m 201 #[iv p1, iv p2, iv p3, iv p4, iv p5, iv (1 : Int32), iv (2 : Int32), iv c0, iv c1, iv d0, iv d1, rv b2_0, rv b8_0, rv b29_0] [(.int (3 : Int32)), (.ref b29_0)] _
    refine st57 _ ?_
    refine XS.iload X57.here hx rfl (hb hby at_204) rfl ?_
    refine XS.icmpYes X57.here hx rfl (pc0 := 206) (pc' := 211) rfl (hb hby at_206) rfl (teq (rfl : d0 = d0)).1 (by decide) (by decide) ?_
    refine XS.iload X57.here hx rfl (hb hby at_211) rfl ?_
    refine XS.iconst X57.here hx rfl (hb hby at_213) ?_
    refine XS.icmpNo X57.here hx rfl (hb hby at_214) rfl (teq (by decide : (2 : Int32) = (2 : Int32))).2 ?_
    refine XS.aload X57.here hx rfl (hb hby at_217) rfl rfl ?_
    refine XS.iload X57.here hx rfl (hb hby at_219) rfl ?_
    refine XS.iconst X57.here hx rfl (hb hby at_221) ?_
    refine XS.iadd X57.here hx rfl (hb hby at_222) rfl ?_
    show SS p e below T57 m 223 #[iv p1, iv p2, iv p3, iv p4, iv p5, iv (1 : Int32), iv (2 : Int32), iv c0, iv c1, iv d0, iv d1, rv b2_0, rv b8_0, rv b29_0] [(.int (4 : Int32)), (.ref b29_0)] _
    refine st59 _ ?_
    refine XS.iload X59.here hx rfl (hb hby at_226) rfl ?_
    refine XS.icmpYes X59.here hx rfl (pc0 := 228) (pc' := 233) rfl (hb hby at_228) rfl (teq (rfl : d1 = d1)).1 (by decide) (by decide) ?_
    refine XS.iconst X59.here hx rfl (hb hby at_233) ?_
    exact retN X59 hx (t := .boolean) hret (by simp) (hb hby at_234) hr
def Q89_isEmpty (Z : State) (a1 : Addr) (a2 : Addr) (k3 : ClassId) (p4 : Int32) (p5 : Int32) (h0 : Heap) (n0 : Nat) (v : Option Value) (h : Heap) (L : List Loc) : Prop := v = some o0 ∧ Fr n0 L ∧ h = h0
theorem rm89_isEmpty (l : Launch) (Z : State) (a0 : Array Value) (hw : HW Z a0) (a1 : Addr) (a2 : Addr) (k3 : ClassId) (p4 : Int32) (p5 : Int32) (h0 : Heap) (n0 : Nat) (O0 : Old Z n0 h0) (F_0 : FA37 Z h0 a1 (.ref a2)) (F_1 : Arv Z h0 a2 k3 .byte (2 : Int32) [(.int p4), (.int p5)] o0) :
    Met l Z [] MY5 jdk_42_method_55_code 1 (some .boolean) ({ frames := 0, cells := 0, slots := 0, locals := 0 } : Room) #[(.ref a1)] h0 (Q89_isEmpty Z a1 a2 k3 p4 p5 h0 n0) := by
  have W := @own_W _ _ hw
  refine own_mk (plainFor_of_name pn_30) ?_
  intro p e s m below meth c s₁ hZ hx hby hml hown hnm hret hlk X0 e0
  have N0 := Fr.nil n0
  obtain ⟨T1, X1, e1, st1⟩ := getF X0 hx hZ hown (host := "") (Or.inl (W 25 rfl)) Via.refl e0 F_0 (g := (mkF m 1 #[rv a1] [(.ref a1)])) rfl rfl (hb hby d_61)
  obtain ⟨c2, A2, q2, S2, N2, H2, G2⟩ := id F_1
  refine ⟨T1, some o0, _, _, _, X1, by decide, by decide, nofun, ?_, fun fs hr => castTop (ef_44 m a1) ?_⟩
  · show Q89_isEmpty Z a1 a2 k3 p4 p5 h0 n0 _ T1.heap _
    rw [e1]
    exact ⟨rfl, N0, rfl⟩
  · show SS p e below s₁ m 0 #[rv a1] [] _
    refine XS.aloadN X0.here hx rfl (hb hby d_60) rfl rfl ?_
    refine st1 _ ?_
    refine X1.arraylength hx (by rw [e1]; exact A2.1) (State.isArrayOf_alike hZ.alike A2.2.1) (g := (mkF m 4 #[rv a1] [(.ref a2)])) rfl rfl (hb hby d_62) _ ?_
    rw [len_of S2 N2]
    refine XS.ifYes X1.here hx rfl (pc0 := 5) (pc' := 12) rfl (hb hby d_63) rfl ((if0 _ _).trans (feq (by decide : ¬ ((2 : Int32) = (0 : Int32)))).2) (by decide) (by decide) ?_
    refine XS.iconst X1.here hx rfl (hb hby d_185) ?_
    exact retN X1 hx (t := .boolean) hret (by simp) (hb hby d_66) hr
theorem ef_485 (m : MethodId) (a1 : Addr) : entryFrame m #[(.ref a1), (.int (2 : Int32))] 3 = mkF m 0 #[rv a1, iv (2 : Int32), .unset] [] := by first | (simp [entryFrame, mkF, argsToLocals, Value.category]; done) | rfl
def Q90_ensureCapacityInternal (Z : State) (a1 : Addr) (a2 : Addr) (k3 : ClassId) (h0 : Heap) (n0 : Nat) (v : Option Value) (h : Heap) (L : List Loc) : Prop := v = none ∧ Fr n0 L ∧ h = h0
theorem rm90_ensureCapacityInternal (l : Launch) (Z : State) (a0 : Array Value) (hw : HW Z a0) (a1 : Addr) (a2 : Addr) (k3 : ClassId) (h0 : Heap) (n0 : Nat) (O0 : Old Z n0 h0) (F_0 : FA41 Z h0 a1 (.ref a2)) (F_1 : Arv Z h0 a2 k3 .byte (16 : Int32) [o0, o0, o0, o0, o0, o0, o0, o0, o0, o0, o0, o0, o0, o0, o0, o0] o0) (F_2 : FA42 Z h0 a1 o0) :
    Met l Z [] MY15 jdk_68_method_9_code 3 none ({ frames := 0, cells := 0, slots := 0, locals := 0 } : Room) #[(.ref a1), (.int (2 : Int32))] h0 (Q90_ensureCapacityInternal Z a1 a2 k3 h0 n0) := by
  have W := @own_W _ _ hw
  refine own_mk (plainFor_of_name pn_206) ?_
  intro p e s m below meth c s₁ hZ hx hby hml hown hnm hret hlk X0 e0
  have N0 := Fr.nil n0
  obtain ⟨T1, X1, e1, st1⟩ := getF X0 hx hZ hown (host := "") (Or.inl (W 83 rfl)) Via.refl e0 F_0 (g := (mkF m 1 #[rv a1, iv (2 : Int32), .unset] [(.ref a1)])) rfl rfl (hb hby d_243)
  obtain ⟨c2, A2, q2, S2, N2, H2, G2⟩ := id F_1
  obtain ⟨T3, X3, e3, st3⟩ := getF X1 hx hZ hown (host := "") (Or.inl (W 85 rfl)) Via.refl e1 F_2 (g := (mkF m 6 #[rv a1, iv (2 : Int32), .unset] [(.ref a1), (.int (16 : Int32))])) rfl rfl (hb hby d_246)
  refine ⟨T3, none, _, _, _, X3, by decide, by decide, (fun _ => rfl), ?_, fun fs hr => castTop (ef_485 m a1) ?_⟩
  · show Q90_ensureCapacityInternal Z a1 a2 k3 h0 n0 _ T3.heap _
    rw [e3]
    exact ⟨rfl, N0, rfl⟩
  · show SS p e below s₁ m 0 #[rv a1, iv (2 : Int32), .unset] [] _
    refine XS.aloadN X0.here hx rfl (hb hby d_242) rfl rfl ?_
    refine st1 _ ?_
    refine X1.arraylength hx (by rw [e1]; exact A2.1) (State.isArrayOf_alike hZ.alike A2.2.1) (g := (mkF m 4 #[rv a1, iv (2 : Int32), .unset] [(.ref a2)])) rfl rfl (hb hby d_244) _ ?_
    rw [len_of S2 N2]
    refine XS.aloadN X1.here hx rfl (hb hby d_245) rfl rfl ?_
    refine st3 _ ?_
    refine XS.ishr X3.here hx rfl (hb hby d_247) rfl ?_
    show SS p e below T3 m 10 #[rv a1, iv (2 : Int32), .unset] [(.int (16 : Int32))] _
    refine XS.istoreN X3.here hx rfl (hb hby d_248) rfl (l' := #[rv a1, iv (2 : Int32), iv (16 : Int32)]) rfl ?_
    refine XS.iloadN X3.here hx rfl (hb hby d_249) rfl ?_
    refine XS.iloadN X3.here hx rfl (hb hby d_250) rfl ?_
    refine XS.isub X3.here hx rfl (hb hby d_251) rfl ?_
    show SS p e below T3 m 14 #[rv a1, iv (2 : Int32), iv (16 : Int32)] [(.int (-14 : Int32))] _
    refine XS.ifYes X3.here hx rfl (pc0 := 14) (pc' := 38) rfl (hb hby d_252) rfl ((if0 _ _).trans (flt (by decide : ¬ ((0 : Int32) < (-14 : Int32)))).2.2.2) (by decide) (by decide) ?_
    exact X3.returnOut hx hret (hb hby d_253) hr
def Q91_getBytes (Z : State) (a1 : Addr) (a2 : Addr) (p3 : Int32) (a4 : Addr) (k5 : ClassId) (p6 : Int32) (p7 : Int32) (k8 : ClassId) (h0 : Heap) (n0 : Nat) (v : Option Value) (h : Heap) (L : List Loc) : Prop := v = none ∧ Fr n0 L ∧ Keep h0 h [a2] ∧ Arv Z h a2 k8 .byte (16 : Int32) [(.int p6), (.int p7), o0, o0, o0, o0, o0, o0, o0, o0, o0, o0, o0, o0, o0, o0] o0
theorem rm91_getBytes (l : Launch) (Z : State) (a0 : Array Value) (hw : HW Z a0) (a1 : Addr) (a2 : Addr) (p3 : Int32) (a4 : Addr) (k5 : ClassId) (p6 : Int32) (p7 : Int32) (k8 : ClassId) (h0 : Heap) (n0 : Nat) (O0 : Old Z n0 h0) (F_0 : EA44 Z h0 a1) (S_1 : SA48 Z Z.heap (.int p3)) (hc_2 : ¬ (p3 = (0 : Int32))) (F_3 : FA38 Z h0 a1 o0) (F_4 : FA37 Z h0 a1 (.ref a4)) (F_5 : Arv Z h0 a4 k5 .byte (2 : Int32) [(.int p6), (.int p7)] o0) (F_6 : Arv Z h0 a2 k8 .byte (16 : Int32) [o0, o0, o0, o0, o0, o0, o0, o0, o0, o0, o0, o0, o0, o0, o0, o0] o0) (g_7 : n0 ≤ a2) :
    Met l Z [] MY17 jdk_42_method_147_code 4 none ({ frames := 1, cells := 0, slots := 0, locals := 27 } : Room) #[(.ref a1), (.ref a2), o0, o0] h0 (Q91_getBytes Z a1 a2 p3 a4 k5 p6 p7 k8 h0 n0) := by
  have W := @own_W _ _ hw
  refine own_mk (plainFor_of_name pn_30) ?_
  intro p e s m below meth c s₁ hZ hx hby hml hown hnm hret hlk X0 e0
  have N0 := Fr.nil n0
  obtain ⟨_, T1, L1, X1, hQ1, st1⟩ := own_cv X0 hx hZ hown hml (W 102 rfl) (W 103 rfl) (notFace_of_selects (W 105 rfl)) (W 105 rfl) (W 104 rfl) (W 7 rfl) (W 106 rfl) (rm24_coder l Z a0 hw a1 p3 h0 n0 O0 (S_1) (hc_2) (F_3)) e0 F_0 (hb hby d_280) 0 #[rv a1, rv a2, .val o0, .val o0] [] [] pd_231
  obtain ⟨rfl, N1q, K1⟩ := hQ1
  have N2 := Fr.app N0 N1q
  obtain ⟨T3, X3, e3, st3⟩ := getF X1 hx hZ hown (host := "") (Or.inl (W 25 rfl)) Via.refl K1 F_4 (g := (mkF m 9 #[rv a1, rv a2, .val o0, .val o0] [(.ref a1)])) rfl rfl (hb hby d_284)
  obtain ⟨T4, X4, e4, st4⟩ := getF X3 hx hZ hown (host := "") (Or.inl (W 25 rfl)) Via.refl e3 F_4 (g := (mkF m 18 #[rv a1, rv a2, .val o0, .val o0] [(.ref a1), o0, (.ref a2), o0, (.ref a4)])) rfl rfl (hb hby d_291)
  obtain ⟨c5, A5, q5, S5, N5, H5, G5⟩ := id F_5
  obtain ⟨T6, h6, Lc6, X6, e6, N6, K6, V6, st6⟩ := cpA X4 hx hZ hown (W 130 rfl) (W 133 rfl) (W 131 rfl) (W 132 rfl) e4 F_5 F_6 (Or.inl ⟨rfl, rfl⟩) (sp := (0 : Int32)) (dp := (0 : Int32)) (nn := (2 : Int32)) (by decide) (by decide) (by decide) (by decide) (by decide) (us := [(.int p6), (.int p7)]) rfl (Nat.le_of_ble_eq_true rfl) N2 g_7 (g := (mkF m 22 #[rv a1, rv a2, .val o0, .val o0] [(.int (2 : Int32)), o0, (.ref a2), o0, (.ref a4)])) rfl (by rw [hml]; rfl) rfl (hb hby d_293) (by decide) (W := 0) (by show 2 * 0 + _ ≤ _; exact Nat.le_of_eq rfl) (by decide)
  have O7 := O0.keep K6 (allS g_7 all0)
  have K8 : Keep h0 h6 [a2] := Keep.trans (Keep.refl h0 [a2]) K6 (allS (Or.inl (List.mem_of_getElem? (i := 0) rfl)) all0)
  have v9 : Arv Z h6 a2 k8 .byte (16 : Int32) [(.int p6), (.int p7), o0, o0, o0, o0, o0, o0, o0, o0, o0, o0, o0, o0, o0, o0] o0 := V6
  refine ⟨T6, none, _, _, _, X6, by decide, by decide, (fun _ => rfl), ?_, fun fs hr => castTop (ef_296 m a1 a2) ?_⟩
  · show Q91_getBytes Z a1 a2 p3 a4 k5 p6 p7 k8 h0 n0 _ T6.heap _
    rw [e6]
    exact ⟨rfl, N6, K8, v9⟩
  · show SS p e below s₁ m 0 #[rv a1, rv a2, .val o0, .val o0] [] _
    refine XS.aloadN X0.here hx rfl (hb hby d_279) rfl rfl ?_
    refine st1 _ ?_
    refine XS.iloadN X1.here hx rfl (hb hby d_281) rfl ?_
    refine XS.icmpNo X1.here hx rfl (hb hby d_282) rfl (teq (by decide : (0 : Int32) = (0 : Int32))).2 ?_
    refine XS.aloadN X1.here hx rfl (hb hby d_283) rfl rfl ?_
    refine st3 _ ?_
    refine XS.iconst X3.here hx rfl (hb hby d_285) ?_
    refine XS.aloadN X3.here hx rfl (hb hby d_286) rfl rfl ?_
    refine XS.iloadN X3.here hx rfl (hb hby d_287) rfl ?_
    refine XS.iloadN X3.here hx rfl (hb hby d_288) rfl ?_
    show SS p e below T3 m 16 #[rv a1, rv a2, .val o0, .val o0] [o0, o0, (.ref a2), o0, (.ref a4)] _
    refine XS.ishl X3.here hx rfl (hb hby d_289) rfl ?_
    show SS p e below T3 m 17 #[rv a1, rv a2, .val o0, .val o0] [o0, (.ref a2), o0, (.ref a4)] _
    refine XS.aloadN X3.here hx rfl (hb hby d_290) rfl rfl ?_
    refine st4 _ ?_
    refine X4.arraylength hx (by rw [e4]; exact A5.1) (State.isArrayOf_alike hZ.alike A5.2.1) (g := (mkF m 21 #[rv a1, rv a2, .val o0, .val o0] [(.ref a4), o0, (.ref a2), o0, (.ref a4)])) rfl rfl (hb hby d_292) _ ?_
    rw [len_of S5 N5]
    refine st6 _ ?_
    refine XS.goto X6.here hx rfl (pc0 := 25) (pc' := 43) rfl (hb hby d_294) (by decide) (by decide) ?_
    exact X6.returnOut hx hret (hb hby d_295) hr
def Q92_putStringAt (Z : State) (a1 : Addr) (a2 : Addr) (p3 : Int32) (a4 : Addr) (a5 : Addr) (k6 : ClassId) (p7 : Int32) (p8 : Int32) (k9 : ClassId) (h0 : Heap) (n0 : Nat) (v : Option Value) (h : Heap) (L : List Loc) : Prop := v = none ∧ Fr n0 L ∧ Keep h0 h [a4] ∧ Arv Z h a4 k9 .byte (16 : Int32) [(.int p7), (.int p8), o0, o0, o0, o0, o0, o0, o0, o0, o0, o0, o0, o0, o0, o0] o0
theorem rm92_putStringAt (l : Launch) (Z : State) (a0 : Array Value) (hw : HW Z a0) (a1 : Addr) (a2 : Addr) (p3 : Int32) (a4 : Addr) (a5 : Addr) (k6 : ClassId) (p7 : Int32) (p8 : Int32) (k9 : ClassId) (h0 : Heap) (n0 : Nat) (O0 : Old Z n0 h0) (F_0 : EA47 Z h0 a1) (S_1 : SA48 Z Z.heap (.int p3)) (hc_2 : ¬ (p3 = (0 : Int32))) (F_3 : FA42 Z h0 a1 o0) (F_4 : EA44 Z h0 a2) (F_5 : FA38 Z h0 a2 o0) (F_6 : FA41 Z h0 a1 (.ref a4)) (F_7 : FA37 Z h0 a2 (.ref a5)) (F_8 : Arv Z h0 a5 k6 .byte (2 : Int32) [(.int p7), (.int p8)] o0) (F_9 : Arv Z h0 a4 k9 .byte (16 : Int32) [o0, o0, o0, o0, o0, o0, o0, o0, o0, o0, o0, o0, o0, o0, o0, o0] o0) (g_10 : n0 ≤ a4) :
    Met l Z [] MY18 jdk_68_method_73_code 3 none ({ frames := 2, cells := 0, slots := 0, locals := 42 } : Room) #[(.ref a1), o0, (.ref a2)] h0 (Q92_putStringAt Z a1 a2 p3 a4 a5 k6 p7 p8 k9 h0 n0) := by
  have W := @own_W _ _ hw
  refine own_mk (plainFor_of_name pn_206) ?_
  intro p e s m below meth c s₁ hZ hx hby hml hown hnm hret hlk X0 e0
  have N0 := Fr.nil n0
  obtain ⟨_, T1, L1, X1, hQ1, st1⟩ := own_cv X0 hx hZ hown hml (W 119 rfl) (own_decl (y := MY16) (W 120 rfl) (W 123 rfl)) (notFace_of_selects (W 122 rfl)) (W 122 rfl) (W 120 rfl) (W 79 rfl) (W 123 rfl) (rm27_inflateIfNeededFor l Z a0 hw a1 a2 p3 h0 n0 O0 (S_1) (hc_2) (F_3) (F_4) (F_5)) e0 F_0 (hb hby d_262) 0 #[rv a1, .val o0, rv a2] [(.ref a2)] [] pd_271
  obtain ⟨rfl, N1q, K1⟩ := hQ1
  have N2 := Fr.app N0 N1q
  obtain ⟨T3, X3, e3, st3⟩ := getF X1 hx hZ hown (host := "") (Or.inl (W 83 rfl)) Via.refl K1 F_6 (g := (mkF m 7 #[rv a1, .val o0, rv a2] [(.ref a1), (.ref a2)])) rfl rfl (hb hby d_274)
  obtain ⟨T4, X4, e4, st4⟩ := getF X3 hx hZ hown (host := "") (Or.inl (W 85 rfl)) Via.refl e3 F_3 (g := (mkF m 12 #[rv a1, .val o0, rv a2] [(.ref a1), o0, (.ref a4), (.ref a2)])) rfl rfl (hb hby d_277)
  obtain ⟨_, T5, L5, X5, hQ5, st5⟩ := own_cv X4 hx hZ hown hml (W 125 rfl) (W 126 rfl) (notFace_of_selects (W 128 rfl)) (W 128 rfl) (W 127 rfl) (W 7 rfl) (W 129 rfl) (rm91_getBytes l Z a0 hw a2 a4 p3 a5 k6 p7 p8 k9 h0 n0 O0 (F_4) (S_1) (hc_2) (F_5) (F_7) (F_8) (F_9) (g_10)) e4 F_4 (hb hby d_278) 0 #[rv a1, .val o0, rv a2] [(.ref a4), o0, o0] [] pd_297
  obtain ⟨rfl, N5q, K5, F5_0⟩ := hQ5
  have N6 := Fr.app N2 N5q
  have O7 := O0.keep K5 (allS g_10 all0)
  have K8 : Keep h0 T5.heap [a4] := Keep.trans (Keep.refl h0 [a4]) K5 (allS (Or.inl (List.mem_of_getElem? (i := 0) rfl)) all0)
  refine ⟨T5, none, _, _, _, X5, by decide, by decide, (fun _ => rfl), ?_, fun fs hr => castTop (ef_299 m a1 a2) ?_⟩
  · show Q92_putStringAt Z a1 a2 p3 a4 a5 k6 p7 p8 k9 h0 n0 _ T5.heap _
    exact ⟨rfl, N6, K8, F5_0⟩
  · show SS p e below s₁ m 0 #[rv a1, .val o0, rv a2] [] _
    refine XS.aloadN X0.here hx rfl (hb hby d_260) rfl rfl ?_
    refine XS.aloadN X0.here hx rfl (hb hby d_261) rfl rfl ?_
    refine st1 _ ?_
    refine XS.aloadN X1.here hx rfl (hb hby d_272) rfl rfl ?_
    refine XS.aloadN X1.here hx rfl (hb hby d_273) rfl rfl ?_
    refine st3 _ ?_
    refine XS.iloadN X3.here hx rfl (hb hby d_275) rfl ?_
    refine XS.aloadN X3.here hx rfl (hb hby d_276) rfl rfl ?_
    refine st4 _ ?_
    refine st5 _ ?_
    show SS p e below T5 m 18 #[rv a1, .val o0, rv a2] [] _
    exact X5.returnOut hx hret (hb hby d_298) hr
def Q93_append (Z : State) (a1 : Addr) (a2 : Addr) (a3 : Addr) (k4 : ClassId) (p5 : Int32) (p6 : Int32) (p7 : Int32) (a8 : Addr) (k9 : ClassId) (h0 : Heap) (n0 : Nat) (v : Option Value) (h : Heap) (L : List Loc) : Prop := v = some (.ref a1) ∧ Fr n0 L ∧ Keep h0 h [a8, a1] ∧ FA43 Z h a1 (.int (2 : Int32)) ∧ FA41 Z h a1 (.ref a8) ∧ Arv Z h a8 k9 .byte (16 : Int32) [(.int p5), (.int p6), o0, o0, o0, o0, o0, o0, o0, o0, o0, o0, o0, o0, o0, o0] o0 ∧ FA42 Z h a1 o0
theorem rm93_append (l : Launch) (Z : State) (a0 : Array Value) (hw : HW Z a0) (a1 : Addr) (a2 : Addr) (a3 : Addr) (k4 : ClassId) (p5 : Int32) (p6 : Int32) (p7 : Int32) (a8 : Addr) (k9 : ClassId) (h0 : Heap) (n0 : Nat) (O0 : Old Z n0 h0) (F_0 : EA44 Z h0 a2) (F_1 : FA37 Z h0 a2 (.ref a3)) (F_2 : Arv Z h0 a3 k4 .byte (2 : Int32) [(.int p5), (.int p6)] o0) (S_3 : SA48 Z Z.heap (.int p7)) (hc_4 : ¬ (p7 = (0 : Int32))) (F_5 : FA38 Z h0 a2 o0) (F_6 : FA43 Z h0 a1 o0) (F_7 : EA47 Z h0 a1) (F_8 : FA41 Z h0 a1 (.ref a8)) (F_9 : Arv Z h0 a8 k9 .byte (16 : Int32) [o0, o0, o0, o0, o0, o0, o0, o0, o0, o0, o0, o0, o0, o0, o0, o0] o0) (F_10 : FA42 Z h0 a1 o0) (g_11 : n0 ≤ a8) (ne_12 : a1 ≠ a8) (g_13 : n0 ≤ a1) :
    Met l Z [] MY19 jdk_68_method_22_code 3 (some (.object "java/lang/AbstractStringBuilder")) ({ frames := 3, cells := 0, slots := 0, locals := 56 } : Room) #[(.ref a1), (.ref a2)] h0 (Q93_append Z a1 a2 a3 k4 p5 p6 p7 a8 k9 h0 n0) := by
  have W := @own_W _ _ hw
  refine own_mk (plainFor_of_name pn_206) ?_
  intro p e s m below meth c s₁ hZ hx hby hml hown hnm hret hlk X0 e0
  have N0 := Fr.nil n0
  obtain ⟨_, T1, L1, X1, hQ1, st1⟩ := own_cv X0 hx hZ hown hml (W 97 rfl) (W 98 rfl) (notFace_of_selects (W 100 rfl)) (W 100 rfl) (W 99 rfl) (W 7 rfl) (W 101 rfl) (rm25_length l Z a0 hw a2 a3 k4 (2 : Int32) [(.int p5), (.int p6)] p7 h0 n0 O0 (F_1) (F_2) (F_0) (S_3) (hc_4) (F_5) ((by decide))) e0 F_0 (hb hby d_219) 0 #[rv a1, rv a2, .unset] [] [] pd_234
  obtain ⟨rfl, N1q, K1⟩ := hQ1
  have N2 := Fr.app N0 N1q
  obtain ⟨T3, X3, e3, st3⟩ := getF X1 hx hZ hown (host := "") (Or.inl (W 107 rfl)) Via.refl K1 F_6 (g := (mkF m 16 #[rv a1, rv a2, iv (2 : Int32)] [(.ref a1), (.ref a1)])) rfl rfl (hb hby d_238)
  obtain ⟨_, T4, L4, X4, hQ4, st4⟩ := own_cv X3 hx hZ hown hml (W 109 rfl) (own_decl (y := MY15) (W 110 rfl) (W 113 rfl)) (notFace_of_selects (W 112 rfl)) (W 112 rfl) (W 110 rfl) (W 79 rfl) (W 113 rfl) (rm90_ensureCapacityInternal l Z a0 hw a1 a8 k9 h0 n0 O0 (F_8) (F_9) (F_10)) e3 F_7 (hb hby d_241) 0 #[rv a1, rv a2, iv (2 : Int32)] [(.int (2 : Int32))] [] pd_207
  obtain ⟨rfl, N4q, K4⟩ := hQ4
  have N5 := Fr.app N2 N4q
  obtain ⟨T6, X6, e6, st6⟩ := getF X4 hx hZ hown (host := "") (Or.inl (W 107 rfl)) Via.refl K4 F_6 (g := (mkF m 26 #[rv a1, rv a2, iv (2 : Int32)] [(.ref a1), (.ref a1)])) rfl rfl (hb hby d_257)
  obtain ⟨_, T7, L7, X7, hQ7, st7⟩ := own_cv X6 hx hZ hown hml (W 114 rfl) (own_decl (y := MY18) (W 115 rfl) (W 118 rfl)) (notFace_of_selects (W 117 rfl)) (W 117 rfl) (W 115 rfl) (W 79 rfl) (W 118 rfl) (rm92_putStringAt l Z a0 hw a1 a2 p7 a8 a3 k4 p5 p6 k9 h0 n0 O0 (F_7) (S_3) (hc_4) (F_10) (F_0) (F_5) (F_8) (F_1) (F_2) (F_9) (g_11)) e6 F_7 (hb hby d_259) 0 #[rv a1, rv a2, iv (2 : Int32)] [o0, (.ref a2)] [] pd_300
  obtain ⟨rfl, N7q, K7, F7_0⟩ := hQ7
  have N8 := Fr.app N5 N7q
  have O9 := O0.keep K7 (allS g_11 all0)
  have K10 : Keep h0 T7.heap [a8, a1] := Keep.trans (Keep.refl h0 [a8, a1]) K7 (allS (Or.inl (List.mem_of_getElem? (i := 0) rfl)) all0)
  have f12 := (F_6.keep K7 (ninS ne_12 nin0))
  obtain ⟨T11, X11, e11, st11⟩ := getF X7 hx hZ hown (host := "") (Or.inl (W 107 rfl)) Via.refl rfl f12 (g := (mkF m 35 #[rv a1, rv a2, iv (2 : Int32)] [(.ref a1), (.ref a1)])) rfl rfl (hb hby d_303)
  have f14 := (F_7.keep K7)
  obtain ⟨T13, h13, X13, e13, W13, st13⟩ := putF X11 hx hZ hown (host := "") (Or.inl (W 107 rfl)) Via.refl e11 f12 f14 (Or.inl (W 108 rfl)) (W 70 rfl) (ty := .int) (by decide) rfl rfl (g := (mkF m 40 #[rv a1, rv a2, iv (2 : Int32)] [(.int (2 : Int32)), (.ref a1)])) rfl rfl (hb hby d_306)
  have O15 := O9.wr W13 g_13
  have K16 : Keep h0 h13 [a8, a1] := Keep.wr K10 W13 (Or.inl (List.mem_of_getElem? (i := 1) rfl))
  have f17 : FA43 Z h13 a1 (.int (2 : Int32)) := (f12.same W13)
  have N18 := Fr.snoc X13 N8 g_13
  have f19 := ((F_8.keep K7 (ninS ne_12 nin0)).other W13 (Or.inr (slot_ne (Or.inl (W 84 rfl)) (Or.inl (W 108 rfl)) (by decide) (t := (.array .byte)) (t' := .int) (by decide) (by decide))))
  have f20 := (F7_0.other W13 (Ne.symm ne_12))
  have f21 := ((F_10.keep K7 (ninS ne_12 nin0)).other W13 (Or.inr (slot_ne (Or.inl (W 86 rfl)) (Or.inl (W 108 rfl)) (by decide) (t := .byte) (t' := .int) (by decide) (by decide))))
  refine ⟨T13, some (.ref a1), _, _, _, X13, by decide, by decide, nofun, ?_, fun fs hr => castTop (ef_309 m a1 a2) ?_⟩
  · show Q93_append Z a1 a2 a3 k4 p5 p6 p7 a8 k9 h0 n0 _ T13.heap _
    rw [e13]
    exact ⟨rfl, N18, K16, f17, f19, f20, f21⟩
  · show SS p e below s₁ m 0 #[rv a1, rv a2, .unset] [] _
    refine XS.aloadN X0.here hx rfl (hb hby d_216) rfl rfl ?_
    refine XS.ifnonnullYes X0.here hx rfl (pc0 := 1) (pc' := 9) rfl (hb hby d_217) rfl (by decide) (by decide) ?_
    refine XS.aloadN X0.here hx rfl (hb hby d_218) rfl rfl ?_
    refine st1 _ ?_
    refine XS.istoreN X1.here hx rfl (hb hby d_235) rfl (l' := #[rv a1, rv a2, iv (2 : Int32)]) rfl ?_
    refine XS.aloadN X1.here hx rfl (hb hby d_236) rfl rfl ?_
    refine XS.aloadN X1.here hx rfl (hb hby d_237) rfl rfl ?_
    refine st3 _ ?_
    refine XS.iloadN X3.here hx rfl (hb hby d_239) rfl ?_
    refine XS.iadd X3.here hx rfl (hb hby d_240) rfl ?_
    show SS p e below T3 m 21 #[rv a1, rv a2, iv (2 : Int32)] [(.int (2 : Int32)), (.ref a1)] _
    refine st4 _ ?_
    refine XS.aloadN X4.here hx rfl (hb hby d_255) rfl rfl ?_
    refine XS.aloadN X4.here hx rfl (hb hby d_256) rfl rfl ?_
    refine st6 _ ?_
    refine XS.aloadN X6.here hx rfl (hb hby d_258) rfl rfl ?_
    refine st7 _ ?_
    refine XS.aloadN X7.here hx rfl (hb hby d_301) rfl rfl ?_
    refine XS.dup X7.here hx rfl (hb hby d_302) rfl rfl ?_
    refine st11 _ ?_
    refine XS.iloadN X11.here hx rfl (hb hby d_304) rfl ?_
    show SS p e below T11 m 39 #[rv a1, rv a2, iv (2 : Int32)] [(.int (2 : Int32)), o0, (.ref a1)] _
    refine XS.iadd X11.here hx rfl (hb hby d_305) rfl ?_
    show SS p e below T11 m 40 #[rv a1, rv a2, iv (2 : Int32)] [(.int (2 : Int32)), (.ref a1)] _
    refine st13 _ ?_
    refine XS.aloadN X13.here hx rfl (hb hby d_307) rfl rfl ?_
    exact retOut X13 hx hret rfl (Or.inr (Or.inr (Or.inr (Or.inr ⟨rfl, rfl, rfl⟩)))) (hb hby d_308) hr
def Q94_append (Z : State) (a1 : Addr) (a2 : Addr) (a3 : Addr) (k4 : ClassId) (p5 : Int32) (p6 : Int32) (p7 : Int32) (a8 : Addr) (k9 : ClassId) (h0 : Heap) (n0 : Nat) (v : Option Value) (h : Heap) (L : List Loc) : Prop := v = some (.ref a1) ∧ Fr n0 L ∧ Keep h0 h [a1, a8] ∧ FA43 Z h a1 (.int (2 : Int32)) ∧ FA41 Z h a1 (.ref a8) ∧ Arv Z h a8 k9 .byte (16 : Int32) [(.int p5), (.int p6), o0, o0, o0, o0, o0, o0, o0, o0, o0, o0, o0, o0, o0, o0] o0 ∧ FA42 Z h a1 o0
theorem rm94_append (l : Launch) (Z : State) (a0 : Array Value) (hw : HW Z a0) (a1 : Addr) (a2 : Addr) (a3 : Addr) (k4 : ClassId) (p5 : Int32) (p6 : Int32) (p7 : Int32) (a8 : Addr) (k9 : ClassId) (h0 : Heap) (n0 : Nat) (O0 : Old Z n0 h0) (F_0 : EA44 Z h0 a2) (F_1 : FA37 Z h0 a2 (.ref a3)) (F_2 : Arv Z h0 a3 k4 .byte (2 : Int32) [(.int p5), (.int p6)] o0) (S_3 : SA48 Z Z.heap (.int p7)) (hc_4 : ¬ (p7 = (0 : Int32))) (F_5 : FA38 Z h0 a2 o0) (F_6 : FA43 Z h0 a1 o0) (F_7 : EA47 Z h0 a1) (F_8 : FA41 Z h0 a1 (.ref a8)) (F_9 : Arv Z h0 a8 k9 .byte (16 : Int32) [o0, o0, o0, o0, o0, o0, o0, o0, o0, o0, o0, o0, o0, o0, o0, o0] o0) (F_10 : FA42 Z h0 a1 o0) (g_11 : n0 ≤ a8) (ne_12 : a1 ≠ a8) (g_13 : n0 ≤ a1) :
    Met l Z [] MY20 jdk_67_method_7_code 2 (some (.object "java/lang/StringBuilder")) ({ frames := 4, cells := 0, slots := 0, locals := 70 } : Room) #[(.ref a1), (.ref a2)] h0 (Q94_append Z a1 a2 a3 k4 p5 p6 p7 a8 k9 h0 n0) := by
  have W := @own_W _ _ hw
  refine own_mk (plainFor_of_name pn_209) ?_
  intro p e s m below meth c s₁ hZ hx hby hml hown hnm hret hlk X0 e0
  have N0 := Fr.nil n0
  obtain ⟨_, _, ⟨T1, L1, k1, n1⟩, -, X1, ⟨Lc1, hQ1, l1, y1, z1⟩, st1⟩ := superBack X0 hx hZ (y := MY19) hown (W 92 rfl) (own_same (y := MY19) (by decide) (W 93 rfl) (own_nf (args := a0) (y := MY15) rfl (W 112 rfl))) (W 93 rfl) (W 94 rfl) (by decide) (backOf (W := 0) (rm93_append l Z a0 hw a1 a2 a3 k4 p5 p6 p7 a8 k9 h0 n0 O0 (F_0) (F_1) (F_2) (S_3) (hc_4) (F_5) (F_6) (F_7) (F_8) (F_9) (F_10) (g_11) (ne_12) (g_13)) hZ (W 96 rfl) (W 79 rfl) (by decide) (by decide)) e0 (Ins.self F_7) (g := (mkF m 2 #[rv a1, rv a2] [(.ref a2), (.ref a1)])) rfl (by rw [hml]; rfl) (W 96 rfl) (argsL := [(.ref a2)]) (rest := []) (lenOf pd_310 rfl) rfl (by show 2 * 0 + _ ≤ _; exact Nat.le_of_eq rfl) (hb hby d_215) (fun _ _ => ⟨rfl, e0, (by decide : 0 + 0 ≤ _), (by decide : 0 + 0 ≤ _)⟩)
  dsimp only [Pt.U, Pt.locs, Pt.cells, Pt.slots] at X1 l1 y1 z1 st1 hQ1
  subst l1 y1 z1
  obtain ⟨rfl, N1q, K1, F1_0, F1_1, F1_2, F1_3⟩ := hQ1
  have N2 := Fr.app N0 N1q
  have O3 := O0.keep K1 (allS g_11 (allS g_13 all0))
  have K4 : Keep h0 T1.heap [a1, a8] := Keep.trans (Keep.refl h0 [a1, a8]) K1 (allS (Or.inl (List.mem_of_getElem? (i := 1) rfl)) (allS (Or.inl (List.mem_of_getElem? (i := 0) rfl)) all0))
  refine ⟨T1, some (.ref a1), _, _, _, X1, by decide, by decide, nofun, ?_, fun fs hr => castTop (ef_33 m a1 a2) ?_⟩
  · show Q94_append Z a1 a2 a3 k4 p5 p6 p7 a8 k9 h0 n0 _ T1.heap _
    exact ⟨rfl, N2, K4, F1_0, F1_1, F1_2, F1_3⟩
  · show SS p e below s₁ m 0 #[rv a1, rv a2] [] _
    refine XS.aloadN X0.here hx rfl (hb hby d_213) rfl rfl ?_
    refine XS.aloadN X0.here hx rfl (hb hby d_214) rfl rfl ?_
    refine st1.trans ?_
    refine XS.pop X1.here hx rfl (hb hby d_311) rfl rfl ?_
    refine XS.aloadN X1.here hx rfl (hb hby d_312) rfl rfl ?_
    exact retOut X1 hx hret rfl (Or.inr (Or.inr (Or.inr (Or.inr ⟨rfl, rfl, rfl⟩)))) (hb hby d_313) hr
def Q95_ensureCapacityInternal (Z : State) (a1 : Addr) (a2 : Addr) (k3 : ClassId) (p4 : Int32) (p5 : Int32) (h0 : Heap) (n0 : Nat) (v : Option Value) (h : Heap) (L : List Loc) : Prop := v = none ∧ Fr n0 L ∧ h = h0
theorem rm95_ensureCapacityInternal (l : Launch) (Z : State) (a0 : Array Value) (hw : HW Z a0) (a1 : Addr) (a2 : Addr) (k3 : ClassId) (p4 : Int32) (p5 : Int32) (h0 : Heap) (n0 : Nat) (O0 : Old Z n0 h0) (F_0 : FA41 Z h0 a1 (.ref a2)) (F_1 : Arv Z h0 a2 k3 .byte (16 : Int32) [(.int p4), (.int p5), o0, o0, o0, o0, o0, o0, o0, o0, o0, o0, o0, o0, o0, o0] o0) (F_2 : FA42 Z h0 a1 o0) :
    Met l Z [] MY15 jdk_68_method_9_code 3 none ({ frames := 0, cells := 0, slots := 0, locals := 0 } : Room) #[(.ref a1), (.int (4 : Int32))] h0 (Q95_ensureCapacityInternal Z a1 a2 k3 p4 p5 h0 n0) := by
  have W := @own_W _ _ hw
  refine own_mk (plainFor_of_name pn_206) ?_
  intro p e s m below meth c s₁ hZ hx hby hml hown hnm hret hlk X0 e0
  have N0 := Fr.nil n0
  obtain ⟨T1, X1, e1, st1⟩ := getF X0 hx hZ hown (host := "") (Or.inl (W 83 rfl)) Via.refl e0 F_0 (g := (mkF m 1 #[rv a1, iv (4 : Int32), .unset] [(.ref a1)])) rfl rfl (hb hby d_243)
  obtain ⟨c2, A2, q2, S2, N2, H2, G2⟩ := id F_1
  obtain ⟨T3, X3, e3, st3⟩ := getF X1 hx hZ hown (host := "") (Or.inl (W 85 rfl)) Via.refl e1 F_2 (g := (mkF m 6 #[rv a1, iv (4 : Int32), .unset] [(.ref a1), (.int (16 : Int32))])) rfl rfl (hb hby d_246)
  refine ⟨T3, none, _, _, _, X3, by decide, by decide, (fun _ => rfl), ?_, fun fs hr => castTop (ef_477 m a1) ?_⟩
  · show Q95_ensureCapacityInternal Z a1 a2 k3 p4 p5 h0 n0 _ T3.heap _
    rw [e3]
    exact ⟨rfl, N0, rfl⟩
  · show SS p e below s₁ m 0 #[rv a1, iv (4 : Int32), .unset] [] _
    refine XS.aloadN X0.here hx rfl (hb hby d_242) rfl rfl ?_
    refine st1 _ ?_
    refine X1.arraylength hx (by rw [e1]; exact A2.1) (State.isArrayOf_alike hZ.alike A2.2.1) (g := (mkF m 4 #[rv a1, iv (4 : Int32), .unset] [(.ref a2)])) rfl rfl (hb hby d_244) _ ?_
    rw [len_of S2 N2]
    refine XS.aloadN X1.here hx rfl (hb hby d_245) rfl rfl ?_
    refine st3 _ ?_
    refine XS.ishr X3.here hx rfl (hb hby d_247) rfl ?_
    show SS p e below T3 m 10 #[rv a1, iv (4 : Int32), .unset] [(.int (16 : Int32))] _
    refine XS.istoreN X3.here hx rfl (hb hby d_248) rfl (l' := #[rv a1, iv (4 : Int32), iv (16 : Int32)]) rfl ?_
    refine XS.iloadN X3.here hx rfl (hb hby d_249) rfl ?_
    refine XS.iloadN X3.here hx rfl (hb hby d_250) rfl ?_
    refine XS.isub X3.here hx rfl (hb hby d_251) rfl ?_
    show SS p e below T3 m 14 #[rv a1, iv (4 : Int32), iv (16 : Int32)] [(.int (-12 : Int32))] _
    refine XS.ifYes X3.here hx rfl (pc0 := 14) (pc' := 38) rfl (hb hby d_252) rfl ((if0 _ _).trans (flt (by decide : ¬ ((0 : Int32) < (-12 : Int32)))).2.2.2) (by decide) (by decide) ?_
    exact X3.returnOut hx hret (hb hby d_253) hr
theorem ef_486 (m : MethodId) (a1 : Addr) (a2 : Addr) : entryFrame m #[(.ref a1), (.ref a2), (.int (2 : Int32)), o0] 4 = mkF m 0 #[rv a1, rv a2, iv (2 : Int32), .val o0] [] := by first | (simp [entryFrame, mkF, argsToLocals, Value.category]; done) | rfl
def Q96_getBytes (Z : State) (a1 : Addr) (a2 : Addr) (p3 : Int32) (a4 : Addr) (k5 : ClassId) (k6 : ClassId) (p7 : Int32) (p8 : Int32) (h0 : Heap) (n0 : Nat) (v : Option Value) (h : Heap) (L : List Loc) : Prop := v = none ∧ Fr n0 L ∧ Keep h0 h [a2] ∧ Arv Z h a2 k6 .byte (16 : Int32) [(.int p7), (.int p8), (.int (58 : Int32)), (.int (32 : Int32)), o0, o0, o0, o0, o0, o0, o0, o0, o0, o0, o0, o0] o0
theorem rm96_getBytes (l : Launch) (Z : State) (a0 : Array Value) (hw : HW Z a0) (a1 : Addr) (a2 : Addr) (p3 : Int32) (a4 : Addr) (k5 : ClassId) (k6 : ClassId) (p7 : Int32) (p8 : Int32) (h0 : Heap) (n0 : Nat) (O0 : Old Z n0 h0) (F_0 : EA44 Z h0 a1) (S_1 : SA48 Z Z.heap (.int p3)) (hc_2 : ¬ (p3 = (0 : Int32))) (F_3 : FA38 Z h0 a1 o0) (F_4 : FA37 Z h0 a1 (.ref a4)) (F_5 : Arv Z h0 a4 k5 .byte (2 : Int32) [(.int (58 : Int32)), (.int (32 : Int32))] o0) (F_6 : Arv Z h0 a2 k6 .byte (16 : Int32) [(.int p7), (.int p8), o0, o0, o0, o0, o0, o0, o0, o0, o0, o0, o0, o0, o0, o0] o0) (g_7 : n0 ≤ a2) :
    Met l Z [] MY17 jdk_42_method_147_code 4 none ({ frames := 1, cells := 0, slots := 0, locals := 27 } : Room) #[(.ref a1), (.ref a2), (.int (2 : Int32)), o0] h0 (Q96_getBytes Z a1 a2 p3 a4 k5 k6 p7 p8 h0 n0) := by
  have W := @own_W _ _ hw
  refine own_mk (plainFor_of_name pn_30) ?_
  intro p e s m below meth c s₁ hZ hx hby hml hown hnm hret hlk X0 e0
  have N0 := Fr.nil n0
  obtain ⟨_, T1, L1, X1, hQ1, st1⟩ := own_cv X0 hx hZ hown hml (W 102 rfl) (W 103 rfl) (notFace_of_selects (W 105 rfl)) (W 105 rfl) (W 104 rfl) (W 7 rfl) (W 106 rfl) (rm24_coder l Z a0 hw a1 p3 h0 n0 O0 (S_1) (hc_2) (F_3)) e0 F_0 (hb hby d_280) 0 #[rv a1, rv a2, iv (2 : Int32), .val o0] [] [] pd_231
  obtain ⟨rfl, N1q, K1⟩ := hQ1
  have N2 := Fr.app N0 N1q
  obtain ⟨T3, X3, e3, st3⟩ := getF X1 hx hZ hown (host := "") (Or.inl (W 25 rfl)) Via.refl K1 F_4 (g := (mkF m 9 #[rv a1, rv a2, iv (2 : Int32), .val o0] [(.ref a1)])) rfl rfl (hb hby d_284)
  obtain ⟨T4, X4, e4, st4⟩ := getF X3 hx hZ hown (host := "") (Or.inl (W 25 rfl)) Via.refl e3 F_4 (g := (mkF m 18 #[rv a1, rv a2, iv (2 : Int32), .val o0] [(.ref a1), (.int (2 : Int32)), (.ref a2), o0, (.ref a4)])) rfl rfl (hb hby d_291)
  obtain ⟨c5, A5, q5, S5, N5, H5, G5⟩ := id F_5
  obtain ⟨T6, h6, Lc6, X6, e6, N6, K6, V6, st6⟩ := cpA X4 hx hZ hown (W 130 rfl) (W 133 rfl) (W 131 rfl) (W 132 rfl) e4 F_5 F_6 (Or.inl ⟨rfl, rfl⟩) (sp := (0 : Int32)) (dp := (2 : Int32)) (nn := (2 : Int32)) (by decide) (by decide) (by decide) (by decide) (by decide) (us := [(.int (58 : Int32)), (.int (32 : Int32))]) rfl (Nat.le_of_ble_eq_true rfl) N2 g_7 (g := (mkF m 22 #[rv a1, rv a2, iv (2 : Int32), .val o0] [(.int (2 : Int32)), (.int (2 : Int32)), (.ref a2), o0, (.ref a4)])) rfl (by rw [hml]; rfl) rfl (hb hby d_293) (by decide) (W := 0) (by show 2 * 0 + _ ≤ _; exact Nat.le_of_eq rfl) (by decide)
  have O7 := O0.keep K6 (allS g_7 all0)
  have K8 : Keep h0 h6 [a2] := Keep.trans (Keep.refl h0 [a2]) K6 (allS (Or.inl (List.mem_of_getElem? (i := 0) rfl)) all0)
  have v9 : Arv Z h6 a2 k6 .byte (16 : Int32) [(.int p7), (.int p8), (.int (58 : Int32)), (.int (32 : Int32)), o0, o0, o0, o0, o0, o0, o0, o0, o0, o0, o0, o0] o0 := V6
  refine ⟨T6, none, _, _, _, X6, by decide, by decide, (fun _ => rfl), ?_, fun fs hr => castTop (ef_486 m a1 a2) ?_⟩
  · show Q96_getBytes Z a1 a2 p3 a4 k5 k6 p7 p8 h0 n0 _ T6.heap _
    rw [e6]
    exact ⟨rfl, N6, K8, v9⟩
  · show SS p e below s₁ m 0 #[rv a1, rv a2, iv (2 : Int32), .val o0] [] _
    refine XS.aloadN X0.here hx rfl (hb hby d_279) rfl rfl ?_
    refine st1 _ ?_
    refine XS.iloadN X1.here hx rfl (hb hby d_281) rfl ?_
    refine XS.icmpNo X1.here hx rfl (hb hby d_282) rfl (teq (by decide : (0 : Int32) = (0 : Int32))).2 ?_
    refine XS.aloadN X1.here hx rfl (hb hby d_283) rfl rfl ?_
    refine st3 _ ?_
    refine XS.iconst X3.here hx rfl (hb hby d_285) ?_
    refine XS.aloadN X3.here hx rfl (hb hby d_286) rfl rfl ?_
    refine XS.iloadN X3.here hx rfl (hb hby d_287) rfl ?_
    refine XS.iloadN X3.here hx rfl (hb hby d_288) rfl ?_
    show SS p e below T3 m 16 #[rv a1, rv a2, iv (2 : Int32), .val o0] [o0, (.int (2 : Int32)), (.ref a2), o0, (.ref a4)] _
    refine XS.ishl X3.here hx rfl (hb hby d_289) rfl ?_
    show SS p e below T3 m 17 #[rv a1, rv a2, iv (2 : Int32), .val o0] [(.int (2 : Int32)), (.ref a2), o0, (.ref a4)] _
    refine XS.aloadN X3.here hx rfl (hb hby d_290) rfl rfl ?_
    refine st4 _ ?_
    refine X4.arraylength hx (by rw [e4]; exact A5.1) (State.isArrayOf_alike hZ.alike A5.2.1) (g := (mkF m 21 #[rv a1, rv a2, iv (2 : Int32), .val o0] [(.ref a4), (.int (2 : Int32)), (.ref a2), o0, (.ref a4)])) rfl rfl (hb hby d_292) _ ?_
    rw [len_of S5 N5]
    refine st6 _ ?_
    refine XS.goto X6.here hx rfl (pc0 := 25) (pc' := 43) rfl (hb hby d_294) (by decide) (by decide) ?_
    exact X6.returnOut hx hret (hb hby d_295) hr
theorem ef_487 (m : MethodId) (a1 : Addr) (a2 : Addr) : entryFrame m #[(.ref a1), (.int (2 : Int32)), (.ref a2)] 3 = mkF m 0 #[rv a1, iv (2 : Int32), rv a2] [] := by first | (simp [entryFrame, mkF, argsToLocals, Value.category]; done) | rfl
def Q97_putStringAt (Z : State) (a1 : Addr) (a2 : Addr) (p3 : Int32) (a4 : Addr) (a5 : Addr) (k6 : ClassId) (k7 : ClassId) (p8 : Int32) (p9 : Int32) (h0 : Heap) (n0 : Nat) (v : Option Value) (h : Heap) (L : List Loc) : Prop := v = none ∧ Fr n0 L ∧ Keep h0 h [a4] ∧ Arv Z h a4 k7 .byte (16 : Int32) [(.int p8), (.int p9), (.int (58 : Int32)), (.int (32 : Int32)), o0, o0, o0, o0, o0, o0, o0, o0, o0, o0, o0, o0] o0
theorem rm97_putStringAt (l : Launch) (Z : State) (a0 : Array Value) (hw : HW Z a0) (a1 : Addr) (a2 : Addr) (p3 : Int32) (a4 : Addr) (a5 : Addr) (k6 : ClassId) (k7 : ClassId) (p8 : Int32) (p9 : Int32) (h0 : Heap) (n0 : Nat) (O0 : Old Z n0 h0) (F_0 : EA47 Z h0 a1) (S_1 : SA48 Z Z.heap (.int p3)) (hc_2 : ¬ (p3 = (0 : Int32))) (F_3 : FA42 Z h0 a1 o0) (F_4 : EA44 Z h0 a2) (F_5 : FA38 Z h0 a2 o0) (F_6 : FA41 Z h0 a1 (.ref a4)) (F_7 : FA37 Z h0 a2 (.ref a5)) (F_8 : Arv Z h0 a5 k6 .byte (2 : Int32) [(.int (58 : Int32)), (.int (32 : Int32))] o0) (F_9 : Arv Z h0 a4 k7 .byte (16 : Int32) [(.int p8), (.int p9), o0, o0, o0, o0, o0, o0, o0, o0, o0, o0, o0, o0, o0, o0] o0) (g_10 : n0 ≤ a4) :
    Met l Z [] MY18 jdk_68_method_73_code 3 none ({ frames := 2, cells := 0, slots := 0, locals := 42 } : Room) #[(.ref a1), (.int (2 : Int32)), (.ref a2)] h0 (Q97_putStringAt Z a1 a2 p3 a4 a5 k6 k7 p8 p9 h0 n0) := by
  have W := @own_W _ _ hw
  refine own_mk (plainFor_of_name pn_206) ?_
  intro p e s m below meth c s₁ hZ hx hby hml hown hnm hret hlk X0 e0
  have N0 := Fr.nil n0
  obtain ⟨_, T1, L1, X1, hQ1, st1⟩ := own_cv X0 hx hZ hown hml (W 119 rfl) (own_decl (y := MY16) (W 120 rfl) (W 123 rfl)) (notFace_of_selects (W 122 rfl)) (W 122 rfl) (W 120 rfl) (W 79 rfl) (W 123 rfl) (rm27_inflateIfNeededFor l Z a0 hw a1 a2 p3 h0 n0 O0 (S_1) (hc_2) (F_3) (F_4) (F_5)) e0 F_0 (hb hby d_262) 0 #[rv a1, iv (2 : Int32), rv a2] [(.ref a2)] [] pd_271
  obtain ⟨rfl, N1q, K1⟩ := hQ1
  have N2 := Fr.app N0 N1q
  obtain ⟨T3, X3, e3, st3⟩ := getF X1 hx hZ hown (host := "") (Or.inl (W 83 rfl)) Via.refl K1 F_6 (g := (mkF m 7 #[rv a1, iv (2 : Int32), rv a2] [(.ref a1), (.ref a2)])) rfl rfl (hb hby d_274)
  obtain ⟨T4, X4, e4, st4⟩ := getF X3 hx hZ hown (host := "") (Or.inl (W 85 rfl)) Via.refl e3 F_3 (g := (mkF m 12 #[rv a1, iv (2 : Int32), rv a2] [(.ref a1), (.int (2 : Int32)), (.ref a4), (.ref a2)])) rfl rfl (hb hby d_277)
  obtain ⟨_, T5, L5, X5, hQ5, st5⟩ := own_cv X4 hx hZ hown hml (W 125 rfl) (W 126 rfl) (notFace_of_selects (W 128 rfl)) (W 128 rfl) (W 127 rfl) (W 7 rfl) (W 129 rfl) (rm96_getBytes l Z a0 hw a2 a4 p3 a5 k6 k7 p8 p9 h0 n0 O0 (F_4) (S_1) (hc_2) (F_5) (F_7) (F_8) (F_9) (g_10)) e4 F_4 (hb hby d_278) 0 #[rv a1, iv (2 : Int32), rv a2] [(.ref a4), (.int (2 : Int32)), o0] [] pd_297
  obtain ⟨rfl, N5q, K5, F5_0⟩ := hQ5
  have N6 := Fr.app N2 N5q
  have O7 := O0.keep K5 (allS g_10 all0)
  have K8 : Keep h0 T5.heap [a4] := Keep.trans (Keep.refl h0 [a4]) K5 (allS (Or.inl (List.mem_of_getElem? (i := 0) rfl)) all0)
  refine ⟨T5, none, _, _, _, X5, by decide, by decide, (fun _ => rfl), ?_, fun fs hr => castTop (ef_487 m a1 a2) ?_⟩
  · show Q97_putStringAt Z a1 a2 p3 a4 a5 k6 k7 p8 p9 h0 n0 _ T5.heap _
    exact ⟨rfl, N6, K8, F5_0⟩
  · show SS p e below s₁ m 0 #[rv a1, iv (2 : Int32), rv a2] [] _
    refine XS.aloadN X0.here hx rfl (hb hby d_260) rfl rfl ?_
    refine XS.aloadN X0.here hx rfl (hb hby d_261) rfl rfl ?_
    refine st1 _ ?_
    refine XS.aloadN X1.here hx rfl (hb hby d_272) rfl rfl ?_
    refine XS.aloadN X1.here hx rfl (hb hby d_273) rfl rfl ?_
    refine st3 _ ?_
    refine XS.iloadN X3.here hx rfl (hb hby d_275) rfl ?_
    refine XS.aloadN X3.here hx rfl (hb hby d_276) rfl rfl ?_
    refine st4 _ ?_
    refine st5 _ ?_
    show SS p e below T5 m 18 #[rv a1, iv (2 : Int32), rv a2] [] _
    exact X5.returnOut hx hret (hb hby d_298) hr
def Q98_append (Z : State) (a1 : Addr) (a2 : Addr) (a3 : Addr) (k4 : ClassId) (p5 : Int32) (a6 : Addr) (k7 : ClassId) (p8 : Int32) (p9 : Int32) (h0 : Heap) (n0 : Nat) (v : Option Value) (h : Heap) (L : List Loc) : Prop := v = some (.ref a1) ∧ Fr n0 L ∧ Keep h0 h [a6, a1] ∧ FA43 Z h a1 (.int (4 : Int32)) ∧ FA41 Z h a1 (.ref a6) ∧ Arv Z h a6 k7 .byte (16 : Int32) [(.int p8), (.int p9), (.int (58 : Int32)), (.int (32 : Int32)), o0, o0, o0, o0, o0, o0, o0, o0, o0, o0, o0, o0] o0 ∧ FA42 Z h a1 o0
theorem rm98_append (l : Launch) (Z : State) (a0 : Array Value) (hw : HW Z a0) (a1 : Addr) (a2 : Addr) (a3 : Addr) (k4 : ClassId) (p5 : Int32) (a6 : Addr) (k7 : ClassId) (p8 : Int32) (p9 : Int32) (h0 : Heap) (n0 : Nat) (O0 : Old Z n0 h0) (F_0 : EA44 Z h0 a2) (F_1 : FA37 Z h0 a2 (.ref a3)) (F_2 : Arv Z h0 a3 k4 .byte (2 : Int32) [(.int (58 : Int32)), (.int (32 : Int32))] o0) (S_3 : SA48 Z Z.heap (.int p5)) (hc_4 : ¬ (p5 = (0 : Int32))) (F_5 : FA38 Z h0 a2 o0) (F_6 : FA43 Z h0 a1 (.int (2 : Int32))) (F_7 : EA47 Z h0 a1) (F_8 : FA41 Z h0 a1 (.ref a6)) (F_9 : Arv Z h0 a6 k7 .byte (16 : Int32) [(.int p8), (.int p9), o0, o0, o0, o0, o0, o0, o0, o0, o0, o0, o0, o0, o0, o0] o0) (F_10 : FA42 Z h0 a1 o0) (g_11 : n0 ≤ a6) (ne_12 : a1 ≠ a6) (g_13 : n0 ≤ a1) :
    Met l Z [] MY19 jdk_68_method_22_code 3 (some (.object "java/lang/AbstractStringBuilder")) ({ frames := 3, cells := 0, slots := 0, locals := 56 } : Room) #[(.ref a1), (.ref a2)] h0 (Q98_append Z a1 a2 a3 k4 p5 a6 k7 p8 p9 h0 n0) := by
  have W := @own_W _ _ hw
  refine own_mk (plainFor_of_name pn_206) ?_
  intro p e s m below meth c s₁ hZ hx hby hml hown hnm hret hlk X0 e0
  have N0 := Fr.nil n0
  obtain ⟨_, T1, L1, X1, hQ1, st1⟩ := own_cv X0 hx hZ hown hml (W 97 rfl) (W 98 rfl) (notFace_of_selects (W 100 rfl)) (W 100 rfl) (W 99 rfl) (W 7 rfl) (W 101 rfl) (rm25_length l Z a0 hw a2 a3 k4 (2 : Int32) [(.int (58 : Int32)), (.int (32 : Int32))] p5 h0 n0 O0 (F_1) (F_2) (F_0) (S_3) (hc_4) (F_5) ((by decide))) e0 F_0 (hb hby d_219) 0 #[rv a1, rv a2, .unset] [] [] pd_234
  obtain ⟨rfl, N1q, K1⟩ := hQ1
  have N2 := Fr.app N0 N1q
  obtain ⟨T3, X3, e3, st3⟩ := getF X1 hx hZ hown (host := "") (Or.inl (W 107 rfl)) Via.refl K1 F_6 (g := (mkF m 16 #[rv a1, rv a2, iv (2 : Int32)] [(.ref a1), (.ref a1)])) rfl rfl (hb hby d_238)
  obtain ⟨_, T4, L4, X4, hQ4, st4⟩ := own_cv X3 hx hZ hown hml (W 109 rfl) (own_decl (y := MY15) (W 110 rfl) (W 113 rfl)) (notFace_of_selects (W 112 rfl)) (W 112 rfl) (W 110 rfl) (W 79 rfl) (W 113 rfl) (rm95_ensureCapacityInternal l Z a0 hw a1 a6 k7 p8 p9 h0 n0 O0 (F_8) (F_9) (F_10)) e3 F_7 (hb hby d_241) 0 #[rv a1, rv a2, iv (2 : Int32)] [(.int (4 : Int32))] [] pd_207
  obtain ⟨rfl, N4q, K4⟩ := hQ4
  have N5 := Fr.app N2 N4q
  obtain ⟨T6, X6, e6, st6⟩ := getF X4 hx hZ hown (host := "") (Or.inl (W 107 rfl)) Via.refl K4 F_6 (g := (mkF m 26 #[rv a1, rv a2, iv (2 : Int32)] [(.ref a1), (.ref a1)])) rfl rfl (hb hby d_257)
  obtain ⟨_, T7, L7, X7, hQ7, st7⟩ := own_cv X6 hx hZ hown hml (W 114 rfl) (own_decl (y := MY18) (W 115 rfl) (W 118 rfl)) (notFace_of_selects (W 117 rfl)) (W 117 rfl) (W 115 rfl) (W 79 rfl) (W 118 rfl) (rm97_putStringAt l Z a0 hw a1 a2 p5 a6 a3 k4 k7 p8 p9 h0 n0 O0 (F_7) (S_3) (hc_4) (F_10) (F_0) (F_5) (F_8) (F_1) (F_2) (F_9) (g_11)) e6 F_7 (hb hby d_259) 0 #[rv a1, rv a2, iv (2 : Int32)] [(.int (2 : Int32)), (.ref a2)] [] pd_300
  obtain ⟨rfl, N7q, K7, F7_0⟩ := hQ7
  have N8 := Fr.app N5 N7q
  have O9 := O0.keep K7 (allS g_11 all0)
  have K10 : Keep h0 T7.heap [a6, a1] := Keep.trans (Keep.refl h0 [a6, a1]) K7 (allS (Or.inl (List.mem_of_getElem? (i := 0) rfl)) all0)
  have f12 := (F_6.keep K7 (ninS ne_12 nin0))
  obtain ⟨T11, X11, e11, st11⟩ := getF X7 hx hZ hown (host := "") (Or.inl (W 107 rfl)) Via.refl rfl f12 (g := (mkF m 35 #[rv a1, rv a2, iv (2 : Int32)] [(.ref a1), (.ref a1)])) rfl rfl (hb hby d_303)
  have f14 := (F_7.keep K7)
  obtain ⟨T13, h13, X13, e13, W13, st13⟩ := putF X11 hx hZ hown (host := "") (Or.inl (W 107 rfl)) Via.refl e11 f12 f14 (Or.inl (W 108 rfl)) (W 70 rfl) (ty := .int) (by decide) rfl rfl (g := (mkF m 40 #[rv a1, rv a2, iv (2 : Int32)] [(.int (4 : Int32)), (.ref a1)])) rfl rfl (hb hby d_306)
  have O15 := O9.wr W13 g_13
  have K16 : Keep h0 h13 [a6, a1] := Keep.wr K10 W13 (Or.inl (List.mem_of_getElem? (i := 1) rfl))
  have f17 : FA43 Z h13 a1 (.int (4 : Int32)) := (f12.same W13)
  have N18 := Fr.snoc X13 N8 g_13
  have f19 := ((F_8.keep K7 (ninS ne_12 nin0)).other W13 (Or.inr (slot_ne (Or.inl (W 84 rfl)) (Or.inl (W 108 rfl)) (by decide) (t := (.array .byte)) (t' := .int) (by decide) (by decide))))
  have f20 := (F7_0.other W13 (Ne.symm ne_12))
  have f21 := ((F_10.keep K7 (ninS ne_12 nin0)).other W13 (Or.inr (slot_ne (Or.inl (W 86 rfl)) (Or.inl (W 108 rfl)) (by decide) (t := .byte) (t' := .int) (by decide) (by decide))))
  refine ⟨T13, some (.ref a1), _, _, _, X13, by decide, by decide, nofun, ?_, fun fs hr => castTop (ef_309 m a1 a2) ?_⟩
  · show Q98_append Z a1 a2 a3 k4 p5 a6 k7 p8 p9 h0 n0 _ T13.heap _
    rw [e13]
    exact ⟨rfl, N18, K16, f17, f19, f20, f21⟩
  · show SS p e below s₁ m 0 #[rv a1, rv a2, .unset] [] _
    refine XS.aloadN X0.here hx rfl (hb hby d_216) rfl rfl ?_
    refine XS.ifnonnullYes X0.here hx rfl (pc0 := 1) (pc' := 9) rfl (hb hby d_217) rfl (by decide) (by decide) ?_
    refine XS.aloadN X0.here hx rfl (hb hby d_218) rfl rfl ?_
    refine st1 _ ?_
    refine XS.istoreN X1.here hx rfl (hb hby d_235) rfl (l' := #[rv a1, rv a2, iv (2 : Int32)]) rfl ?_
    refine XS.aloadN X1.here hx rfl (hb hby d_236) rfl rfl ?_
    refine XS.aloadN X1.here hx rfl (hb hby d_237) rfl rfl ?_
    refine st3 _ ?_
    refine XS.iloadN X3.here hx rfl (hb hby d_239) rfl ?_
    refine XS.iadd X3.here hx rfl (hb hby d_240) rfl ?_
    show SS p e below T3 m 21 #[rv a1, rv a2, iv (2 : Int32)] [(.int (4 : Int32)), (.ref a1)] _
    refine st4 _ ?_
    refine XS.aloadN X4.here hx rfl (hb hby d_255) rfl rfl ?_
    refine XS.aloadN X4.here hx rfl (hb hby d_256) rfl rfl ?_
    refine st6 _ ?_
    refine XS.aloadN X6.here hx rfl (hb hby d_258) rfl rfl ?_
    refine st7 _ ?_
    refine XS.aloadN X7.here hx rfl (hb hby d_301) rfl rfl ?_
    refine XS.dup X7.here hx rfl (hb hby d_302) rfl rfl ?_
    refine st11 _ ?_
    refine XS.iloadN X11.here hx rfl (hb hby d_304) rfl ?_
    show SS p e below T11 m 39 #[rv a1, rv a2, iv (2 : Int32)] [(.int (2 : Int32)), (.int (2 : Int32)), (.ref a1)] _
    refine XS.iadd X11.here hx rfl (hb hby d_305) rfl ?_
    show SS p e below T11 m 40 #[rv a1, rv a2, iv (2 : Int32)] [(.int (4 : Int32)), (.ref a1)] _
    refine st13 _ ?_
    refine XS.aloadN X13.here hx rfl (hb hby d_307) rfl rfl ?_
    exact retOut X13 hx hret rfl (Or.inr (Or.inr (Or.inr (Or.inr ⟨rfl, rfl, rfl⟩)))) (hb hby d_308) hr
def Q99_append (Z : State) (a1 : Addr) (a2 : Addr) (a3 : Addr) (k4 : ClassId) (p5 : Int32) (a6 : Addr) (k7 : ClassId) (p8 : Int32) (p9 : Int32) (h0 : Heap) (n0 : Nat) (v : Option Value) (h : Heap) (L : List Loc) : Prop := v = some (.ref a1) ∧ Fr n0 L ∧ Keep h0 h [a1, a6] ∧ FA43 Z h a1 (.int (4 : Int32)) ∧ FA41 Z h a1 (.ref a6) ∧ Arv Z h a6 k7 .byte (16 : Int32) [(.int p8), (.int p9), (.int (58 : Int32)), (.int (32 : Int32)), o0, o0, o0, o0, o0, o0, o0, o0, o0, o0, o0, o0] o0 ∧ FA42 Z h a1 o0
theorem rm99_append (l : Launch) (Z : State) (a0 : Array Value) (hw : HW Z a0) (a1 : Addr) (a2 : Addr) (a3 : Addr) (k4 : ClassId) (p5 : Int32) (a6 : Addr) (k7 : ClassId) (p8 : Int32) (p9 : Int32) (h0 : Heap) (n0 : Nat) (O0 : Old Z n0 h0) (F_0 : EA44 Z h0 a2) (F_1 : FA37 Z h0 a2 (.ref a3)) (F_2 : Arv Z h0 a3 k4 .byte (2 : Int32) [(.int (58 : Int32)), (.int (32 : Int32))] o0) (S_3 : SA48 Z Z.heap (.int p5)) (hc_4 : ¬ (p5 = (0 : Int32))) (F_5 : FA38 Z h0 a2 o0) (F_6 : FA43 Z h0 a1 (.int (2 : Int32))) (F_7 : EA47 Z h0 a1) (F_8 : FA41 Z h0 a1 (.ref a6)) (F_9 : Arv Z h0 a6 k7 .byte (16 : Int32) [(.int p8), (.int p9), o0, o0, o0, o0, o0, o0, o0, o0, o0, o0, o0, o0, o0, o0] o0) (F_10 : FA42 Z h0 a1 o0) (g_11 : n0 ≤ a6) (ne_12 : a1 ≠ a6) (g_13 : n0 ≤ a1) :
    Met l Z [] MY20 jdk_67_method_7_code 2 (some (.object "java/lang/StringBuilder")) ({ frames := 4, cells := 0, slots := 0, locals := 70 } : Room) #[(.ref a1), (.ref a2)] h0 (Q99_append Z a1 a2 a3 k4 p5 a6 k7 p8 p9 h0 n0) := by
  have W := @own_W _ _ hw
  refine own_mk (plainFor_of_name pn_209) ?_
  intro p e s m below meth c s₁ hZ hx hby hml hown hnm hret hlk X0 e0
  have N0 := Fr.nil n0
  obtain ⟨_, _, ⟨T1, L1, k1, n1⟩, -, X1, ⟨Lc1, hQ1, l1, y1, z1⟩, st1⟩ := superBack X0 hx hZ (y := MY19) hown (W 92 rfl) (own_same (y := MY19) (by decide) (W 93 rfl) (own_nf (args := a0) (y := MY15) rfl (W 112 rfl))) (W 93 rfl) (W 94 rfl) (by decide) (backOf (W := 0) (rm98_append l Z a0 hw a1 a2 a3 k4 p5 a6 k7 p8 p9 h0 n0 O0 (F_0) (F_1) (F_2) (S_3) (hc_4) (F_5) (F_6) (F_7) (F_8) (F_9) (F_10) (g_11) (ne_12) (g_13)) hZ (W 96 rfl) (W 79 rfl) (by decide) (by decide)) e0 (Ins.self F_7) (g := (mkF m 2 #[rv a1, rv a2] [(.ref a2), (.ref a1)])) rfl (by rw [hml]; rfl) (W 96 rfl) (argsL := [(.ref a2)]) (rest := []) (lenOf pd_310 rfl) rfl (by show 2 * 0 + _ ≤ _; exact Nat.le_of_eq rfl) (hb hby d_215) (fun _ _ => ⟨rfl, e0, (by decide : 0 + 0 ≤ _), (by decide : 0 + 0 ≤ _)⟩)
  dsimp only [Pt.U, Pt.locs, Pt.cells, Pt.slots] at X1 l1 y1 z1 st1 hQ1
  subst l1 y1 z1
  obtain ⟨rfl, N1q, K1, F1_0, F1_1, F1_2, F1_3⟩ := hQ1
  have N2 := Fr.app N0 N1q
  have O3 := O0.keep K1 (allS g_11 (allS g_13 all0))
  have K4 : Keep h0 T1.heap [a1, a6] := Keep.trans (Keep.refl h0 [a1, a6]) K1 (allS (Or.inl (List.mem_of_getElem? (i := 1) rfl)) (allS (Or.inl (List.mem_of_getElem? (i := 0) rfl)) all0))
  refine ⟨T1, some (.ref a1), _, _, _, X1, by decide, by decide, nofun, ?_, fun fs hr => castTop (ef_33 m a1 a2) ?_⟩
  · show Q99_append Z a1 a2 a3 k4 p5 a6 k7 p8 p9 h0 n0 _ T1.heap _
    exact ⟨rfl, N2, K4, F1_0, F1_1, F1_2, F1_3⟩
  · show SS p e below s₁ m 0 #[rv a1, rv a2] [] _
    refine XS.aloadN X0.here hx rfl (hb hby d_213) rfl rfl ?_
    refine XS.aloadN X0.here hx rfl (hb hby d_214) rfl rfl ?_
    refine st1.trans ?_
    refine XS.pop X1.here hx rfl (hb hby d_311) rfl rfl ?_
    refine XS.aloadN X1.here hx rfl (hb hby d_312) rfl rfl ?_
    exact retOut X1 hx hret rfl (Or.inr (Or.inr (Or.inr (Or.inr ⟨rfl, rfl, rfl⟩)))) (hb hby d_313) hr
def Q100_ensureCapacityInternal (Z : State) (a1 : Addr) (a2 : Addr) (k3 : ClassId) (p4 : Int32) (p5 : Int32) (h0 : Heap) (n0 : Nat) (v : Option Value) (h : Heap) (L : List Loc) : Prop := v = none ∧ Fr n0 L ∧ h = h0
theorem rm100_ensureCapacityInternal (l : Launch) (Z : State) (a0 : Array Value) (hw : HW Z a0) (a1 : Addr) (a2 : Addr) (k3 : ClassId) (p4 : Int32) (p5 : Int32) (h0 : Heap) (n0 : Nat) (O0 : Old Z n0 h0) (F_0 : FA41 Z h0 a1 (.ref a2)) (F_1 : Arv Z h0 a2 k3 .byte (16 : Int32) [(.int p4), (.int p5), (.int (58 : Int32)), (.int (32 : Int32)), o0, o0, o0, o0, o0, o0, o0, o0, o0, o0, o0, o0] o0) (F_2 : FA42 Z h0 a1 o0) :
    Met l Z [] MY15 jdk_68_method_9_code 3 none ({ frames := 0, cells := 0, slots := 0, locals := 0 } : Room) #[(.ref a1), (.int (4 : Int32))] h0 (Q100_ensureCapacityInternal Z a1 a2 k3 p4 p5 h0 n0) := by
  have W := @own_W _ _ hw
  refine own_mk (plainFor_of_name pn_206) ?_
  intro p e s m below meth c s₁ hZ hx hby hml hown hnm hret hlk X0 e0
  have N0 := Fr.nil n0
  obtain ⟨T1, X1, e1, st1⟩ := getF X0 hx hZ hown (host := "") (Or.inl (W 83 rfl)) Via.refl e0 F_0 (g := (mkF m 1 #[rv a1, iv (4 : Int32), .unset] [(.ref a1)])) rfl rfl (hb hby d_243)
  obtain ⟨c2, A2, q2, S2, N2, H2, G2⟩ := id F_1
  obtain ⟨T3, X3, e3, st3⟩ := getF X1 hx hZ hown (host := "") (Or.inl (W 85 rfl)) Via.refl e1 F_2 (g := (mkF m 6 #[rv a1, iv (4 : Int32), .unset] [(.ref a1), (.int (16 : Int32))])) rfl rfl (hb hby d_246)
  refine ⟨T3, none, _, _, _, X3, by decide, by decide, (fun _ => rfl), ?_, fun fs hr => castTop (ef_477 m a1) ?_⟩
  · show Q100_ensureCapacityInternal Z a1 a2 k3 p4 p5 h0 n0 _ T3.heap _
    rw [e3]
    exact ⟨rfl, N0, rfl⟩
  · show SS p e below s₁ m 0 #[rv a1, iv (4 : Int32), .unset] [] _
    refine XS.aloadN X0.here hx rfl (hb hby d_242) rfl rfl ?_
    refine st1 _ ?_
    refine X1.arraylength hx (by rw [e1]; exact A2.1) (State.isArrayOf_alike hZ.alike A2.2.1) (g := (mkF m 4 #[rv a1, iv (4 : Int32), .unset] [(.ref a2)])) rfl rfl (hb hby d_244) _ ?_
    rw [len_of S2 N2]
    refine XS.aloadN X1.here hx rfl (hb hby d_245) rfl rfl ?_
    refine st3 _ ?_
    refine XS.ishr X3.here hx rfl (hb hby d_247) rfl ?_
    show SS p e below T3 m 10 #[rv a1, iv (4 : Int32), .unset] [(.int (16 : Int32))] _
    refine XS.istoreN X3.here hx rfl (hb hby d_248) rfl (l' := #[rv a1, iv (4 : Int32), iv (16 : Int32)]) rfl ?_
    refine XS.iloadN X3.here hx rfl (hb hby d_249) rfl ?_
    refine XS.iloadN X3.here hx rfl (hb hby d_250) rfl ?_
    refine XS.isub X3.here hx rfl (hb hby d_251) rfl ?_
    show SS p e below T3 m 14 #[rv a1, iv (4 : Int32), iv (16 : Int32)] [(.int (-12 : Int32))] _
    refine XS.ifYes X3.here hx rfl (pc0 := 14) (pc' := 38) rfl (hb hby d_252) rfl ((if0 _ _).trans (flt (by decide : ¬ ((0 : Int32) < (-12 : Int32)))).2.2.2) (by decide) (by decide) ?_
    exact X3.returnOut hx hret (hb hby d_253) hr
theorem ef_488 (m : MethodId) (a1 : Addr) (a2 : Addr) : entryFrame m #[(.ref a1), (.ref a2), (.int (4 : Int32)), o0] 4 = mkF m 0 #[rv a1, rv a2, iv (4 : Int32), .val o0] [] := by first | (simp [entryFrame, mkF, argsToLocals, Value.category]; done) | rfl
def Q101_getBytes (Z : State) (a1 : Addr) (a2 : Addr) (p3 : Int32) (a4 : Addr) (k5 : ClassId) (k6 : ClassId) (p7 : Int32) (p8 : Int32) (h0 : Heap) (n0 : Nat) (v : Option Value) (h : Heap) (L : List Loc) : Prop := v = none ∧ Fr n0 L ∧ Keep h0 h [a2] ∧ Arv Z h a2 k6 .byte (16 : Int32) [(.int p7), (.int p8), (.int (58 : Int32)), (.int (32 : Int32)), o0, o0, o0, o0, o0, o0, o0, o0, o0, o0, o0, o0] o0
theorem rm101_getBytes (l : Launch) (Z : State) (a0 : Array Value) (hw : HW Z a0) (a1 : Addr) (a2 : Addr) (p3 : Int32) (a4 : Addr) (k5 : ClassId) (k6 : ClassId) (p7 : Int32) (p8 : Int32) (h0 : Heap) (n0 : Nat) (O0 : Old Z n0 h0) (F_0 : EA44 Z h0 a1) (S_1 : SA48 Z Z.heap (.int p3)) (hc_2 : ¬ (p3 = (0 : Int32))) (F_3 : FA38 Z h0 a1 o0) (F_4 : FA37 Z h0 a1 (.ref a4)) (F_5 : Arv Z h0 a4 k5 .byte (0 : Int32) [] o0) (F_6 : Arv Z h0 a2 k6 .byte (16 : Int32) [(.int p7), (.int p8), (.int (58 : Int32)), (.int (32 : Int32)), o0, o0, o0, o0, o0, o0, o0, o0, o0, o0, o0, o0] o0) (g_7 : n0 ≤ a2) :
    Met l Z [] MY17 jdk_42_method_147_code 4 none ({ frames := 1, cells := 0, slots := 0, locals := 27 } : Room) #[(.ref a1), (.ref a2), (.int (4 : Int32)), o0] h0 (Q101_getBytes Z a1 a2 p3 a4 k5 k6 p7 p8 h0 n0) := by
  have W := @own_W _ _ hw
  refine own_mk (plainFor_of_name pn_30) ?_
  intro p e s m below meth c s₁ hZ hx hby hml hown hnm hret hlk X0 e0
  have N0 := Fr.nil n0
  obtain ⟨_, T1, L1, X1, hQ1, st1⟩ := own_cv X0 hx hZ hown hml (W 102 rfl) (W 103 rfl) (notFace_of_selects (W 105 rfl)) (W 105 rfl) (W 104 rfl) (W 7 rfl) (W 106 rfl) (rm24_coder l Z a0 hw a1 p3 h0 n0 O0 (S_1) (hc_2) (F_3)) e0 F_0 (hb hby d_280) 0 #[rv a1, rv a2, iv (4 : Int32), .val o0] [] [] pd_231
  obtain ⟨rfl, N1q, K1⟩ := hQ1
  have N2 := Fr.app N0 N1q
  obtain ⟨T3, X3, e3, st3⟩ := getF X1 hx hZ hown (host := "") (Or.inl (W 25 rfl)) Via.refl K1 F_4 (g := (mkF m 9 #[rv a1, rv a2, iv (4 : Int32), .val o0] [(.ref a1)])) rfl rfl (hb hby d_284)
  obtain ⟨T4, X4, e4, st4⟩ := getF X3 hx hZ hown (host := "") (Or.inl (W 25 rfl)) Via.refl e3 F_4 (g := (mkF m 18 #[rv a1, rv a2, iv (4 : Int32), .val o0] [(.ref a1), (.int (4 : Int32)), (.ref a2), o0, (.ref a4)])) rfl rfl (hb hby d_291)
  obtain ⟨c5, A5, q5, S5, N5, H5, G5⟩ := id F_5
  obtain ⟨T6, h6, Lc6, X6, e6, N6, K6, V6, st6⟩ := cpA X4 hx hZ hown (W 130 rfl) (W 133 rfl) (W 131 rfl) (W 132 rfl) e4 F_5 F_6 (Or.inl ⟨rfl, rfl⟩) (sp := (0 : Int32)) (dp := (4 : Int32)) (nn := (0 : Int32)) (by decide) (by decide) (by decide) (by decide) (by decide) (us := []) rfl (Nat.le_of_ble_eq_true rfl) N2 g_7 (g := (mkF m 22 #[rv a1, rv a2, iv (4 : Int32), .val o0] [o0, (.int (4 : Int32)), (.ref a2), o0, (.ref a4)])) rfl (by rw [hml]; rfl) rfl (hb hby d_293) (by decide) (W := 0) (by show 2 * 0 + _ ≤ _; exact Nat.le_of_eq rfl) (by decide)
  have O7 := O0.keep K6 (allS g_7 all0)
  have K8 : Keep h0 h6 [a2] := Keep.trans (Keep.refl h0 [a2]) K6 (allS (Or.inl (List.mem_of_getElem? (i := 0) rfl)) all0)
  have v9 : Arv Z h6 a2 k6 .byte (16 : Int32) [(.int p7), (.int p8), (.int (58 : Int32)), (.int (32 : Int32)), o0, o0, o0, o0, o0, o0, o0, o0, o0, o0, o0, o0] o0 := V6
  refine ⟨T6, none, _, _, _, X6, by decide, by decide, (fun _ => rfl), ?_, fun fs hr => castTop (ef_488 m a1 a2) ?_⟩
  · show Q101_getBytes Z a1 a2 p3 a4 k5 k6 p7 p8 h0 n0 _ T6.heap _
    rw [e6]
    exact ⟨rfl, N6, K8, v9⟩
  · show SS p e below s₁ m 0 #[rv a1, rv a2, iv (4 : Int32), .val o0] [] _
    refine XS.aloadN X0.here hx rfl (hb hby d_279) rfl rfl ?_
    refine st1 _ ?_
    refine XS.iloadN X1.here hx rfl (hb hby d_281) rfl ?_
    refine XS.icmpNo X1.here hx rfl (hb hby d_282) rfl (teq (by decide : (0 : Int32) = (0 : Int32))).2 ?_
    refine XS.aloadN X1.here hx rfl (hb hby d_283) rfl rfl ?_
    refine st3 _ ?_
    refine XS.iconst X3.here hx rfl (hb hby d_285) ?_
    refine XS.aloadN X3.here hx rfl (hb hby d_286) rfl rfl ?_
    refine XS.iloadN X3.here hx rfl (hb hby d_287) rfl ?_
    refine XS.iloadN X3.here hx rfl (hb hby d_288) rfl ?_
    show SS p e below T3 m 16 #[rv a1, rv a2, iv (4 : Int32), .val o0] [o0, (.int (4 : Int32)), (.ref a2), o0, (.ref a4)] _
    refine XS.ishl X3.here hx rfl (hb hby d_289) rfl ?_
    show SS p e below T3 m 17 #[rv a1, rv a2, iv (4 : Int32), .val o0] [(.int (4 : Int32)), (.ref a2), o0, (.ref a4)] _
    refine XS.aloadN X3.here hx rfl (hb hby d_290) rfl rfl ?_
    refine st4 _ ?_
    refine X4.arraylength hx (by rw [e4]; exact A5.1) (State.isArrayOf_alike hZ.alike A5.2.1) (g := (mkF m 21 #[rv a1, rv a2, iv (4 : Int32), .val o0] [(.ref a4), (.int (4 : Int32)), (.ref a2), o0, (.ref a4)])) rfl rfl (hb hby d_292) _ ?_
    rw [len_of S5 N5]
    refine st6 _ ?_
    refine XS.goto X6.here hx rfl (pc0 := 25) (pc' := 43) rfl (hb hby d_294) (by decide) (by decide) ?_
    exact X6.returnOut hx hret (hb hby d_295) hr
theorem ef_489 (m : MethodId) (a1 : Addr) (a2 : Addr) : entryFrame m #[(.ref a1), (.int (4 : Int32)), (.ref a2)] 3 = mkF m 0 #[rv a1, iv (4 : Int32), rv a2] [] := by first | (simp [entryFrame, mkF, argsToLocals, Value.category]; done) | rfl
def Q102_putStringAt (Z : State) (a1 : Addr) (a2 : Addr) (p3 : Int32) (a4 : Addr) (a5 : Addr) (k6 : ClassId) (k7 : ClassId) (p8 : Int32) (p9 : Int32) (h0 : Heap) (n0 : Nat) (v : Option Value) (h : Heap) (L : List Loc) : Prop := v = none ∧ Fr n0 L ∧ Keep h0 h [a4] ∧ Arv Z h a4 k7 .byte (16 : Int32) [(.int p8), (.int p9), (.int (58 : Int32)), (.int (32 : Int32)), o0, o0, o0, o0, o0, o0, o0, o0, o0, o0, o0, o0] o0
theorem rm102_putStringAt (l : Launch) (Z : State) (a0 : Array Value) (hw : HW Z a0) (a1 : Addr) (a2 : Addr) (p3 : Int32) (a4 : Addr) (a5 : Addr) (k6 : ClassId) (k7 : ClassId) (p8 : Int32) (p9 : Int32) (h0 : Heap) (n0 : Nat) (O0 : Old Z n0 h0) (F_0 : EA47 Z h0 a1) (S_1 : SA48 Z Z.heap (.int p3)) (hc_2 : ¬ (p3 = (0 : Int32))) (F_3 : FA42 Z h0 a1 o0) (F_4 : EA44 Z h0 a2) (F_5 : FA38 Z h0 a2 o0) (F_6 : FA41 Z h0 a1 (.ref a4)) (F_7 : FA37 Z h0 a2 (.ref a5)) (F_8 : Arv Z h0 a5 k6 .byte (0 : Int32) [] o0) (F_9 : Arv Z h0 a4 k7 .byte (16 : Int32) [(.int p8), (.int p9), (.int (58 : Int32)), (.int (32 : Int32)), o0, o0, o0, o0, o0, o0, o0, o0, o0, o0, o0, o0] o0) (g_10 : n0 ≤ a4) :
    Met l Z [] MY18 jdk_68_method_73_code 3 none ({ frames := 2, cells := 0, slots := 0, locals := 42 } : Room) #[(.ref a1), (.int (4 : Int32)), (.ref a2)] h0 (Q102_putStringAt Z a1 a2 p3 a4 a5 k6 k7 p8 p9 h0 n0) := by
  have W := @own_W _ _ hw
  refine own_mk (plainFor_of_name pn_206) ?_
  intro p e s m below meth c s₁ hZ hx hby hml hown hnm hret hlk X0 e0
  have N0 := Fr.nil n0
  obtain ⟨_, T1, L1, X1, hQ1, st1⟩ := own_cv X0 hx hZ hown hml (W 119 rfl) (own_decl (y := MY16) (W 120 rfl) (W 123 rfl)) (notFace_of_selects (W 122 rfl)) (W 122 rfl) (W 120 rfl) (W 79 rfl) (W 123 rfl) (rm27_inflateIfNeededFor l Z a0 hw a1 a2 p3 h0 n0 O0 (S_1) (hc_2) (F_3) (F_4) (F_5)) e0 F_0 (hb hby d_262) 0 #[rv a1, iv (4 : Int32), rv a2] [(.ref a2)] [] pd_271
  obtain ⟨rfl, N1q, K1⟩ := hQ1
  have N2 := Fr.app N0 N1q
  obtain ⟨T3, X3, e3, st3⟩ := getF X1 hx hZ hown (host := "") (Or.inl (W 83 rfl)) Via.refl K1 F_6 (g := (mkF m 7 #[rv a1, iv (4 : Int32), rv a2] [(.ref a1), (.ref a2)])) rfl rfl (hb hby d_274)
  obtain ⟨T4, X4, e4, st4⟩ := getF X3 hx hZ hown (host := "") (Or.inl (W 85 rfl)) Via.refl e3 F_3 (g := (mkF m 12 #[rv a1, iv (4 : Int32), rv a2] [(.ref a1), (.int (4 : Int32)), (.ref a4), (.ref a2)])) rfl rfl (hb hby d_277)
  obtain ⟨_, T5, L5, X5, hQ5, st5⟩ := own_cv X4 hx hZ hown hml (W 125 rfl) (W 126 rfl) (notFace_of_selects (W 128 rfl)) (W 128 rfl) (W 127 rfl) (W 7 rfl) (W 129 rfl) (rm101_getBytes l Z a0 hw a2 a4 p3 a5 k6 k7 p8 p9 h0 n0 O0 (F_4) (S_1) (hc_2) (F_5) (F_7) (F_8) (F_9) (g_10)) e4 F_4 (hb hby d_278) 0 #[rv a1, iv (4 : Int32), rv a2] [(.ref a4), (.int (4 : Int32)), o0] [] pd_297
  obtain ⟨rfl, N5q, K5, F5_0⟩ := hQ5
  have N6 := Fr.app N2 N5q
  have O7 := O0.keep K5 (allS g_10 all0)
  have K8 : Keep h0 T5.heap [a4] := Keep.trans (Keep.refl h0 [a4]) K5 (allS (Or.inl (List.mem_of_getElem? (i := 0) rfl)) all0)
  refine ⟨T5, none, _, _, _, X5, by decide, by decide, (fun _ => rfl), ?_, fun fs hr => castTop (ef_489 m a1 a2) ?_⟩
  · show Q102_putStringAt Z a1 a2 p3 a4 a5 k6 k7 p8 p9 h0 n0 _ T5.heap _
    exact ⟨rfl, N6, K8, F5_0⟩
  · show SS p e below s₁ m 0 #[rv a1, iv (4 : Int32), rv a2] [] _
    refine XS.aloadN X0.here hx rfl (hb hby d_260) rfl rfl ?_
    refine XS.aloadN X0.here hx rfl (hb hby d_261) rfl rfl ?_
    refine st1 _ ?_
    refine XS.aloadN X1.here hx rfl (hb hby d_272) rfl rfl ?_
    refine XS.aloadN X1.here hx rfl (hb hby d_273) rfl rfl ?_
    refine st3 _ ?_
    refine XS.iloadN X3.here hx rfl (hb hby d_275) rfl ?_
    refine XS.aloadN X3.here hx rfl (hb hby d_276) rfl rfl ?_
    refine st4 _ ?_
    refine st5 _ ?_
    show SS p e below T5 m 18 #[rv a1, iv (4 : Int32), rv a2] [] _
    exact X5.returnOut hx hret (hb hby d_298) hr
def Q103_append (Z : State) (a1 : Addr) (a2 : Addr) (a3 : Addr) (k4 : ClassId) (p5 : Int32) (a6 : Addr) (k7 : ClassId) (p8 : Int32) (p9 : Int32) (h0 : Heap) (n0 : Nat) (v : Option Value) (h : Heap) (L : List Loc) : Prop := v = some (.ref a1) ∧ Fr n0 L ∧ Keep h0 h [a6, a1] ∧ FA43 Z h a1 (.int (4 : Int32)) ∧ FA41 Z h a1 (.ref a6) ∧ Arv Z h a6 k7 .byte (16 : Int32) [(.int p8), (.int p9), (.int (58 : Int32)), (.int (32 : Int32)), o0, o0, o0, o0, o0, o0, o0, o0, o0, o0, o0, o0] o0 ∧ FA42 Z h a1 o0
theorem rm103_append (l : Launch) (Z : State) (a0 : Array Value) (hw : HW Z a0) (a1 : Addr) (a2 : Addr) (a3 : Addr) (k4 : ClassId) (p5 : Int32) (a6 : Addr) (k7 : ClassId) (p8 : Int32) (p9 : Int32) (h0 : Heap) (n0 : Nat) (O0 : Old Z n0 h0) (F_0 : EA44 Z h0 a2) (F_1 : FA37 Z h0 a2 (.ref a3)) (F_2 : Arv Z h0 a3 k4 .byte (0 : Int32) [] o0) (S_3 : SA48 Z Z.heap (.int p5)) (hc_4 : ¬ (p5 = (0 : Int32))) (F_5 : FA38 Z h0 a2 o0) (F_6 : FA43 Z h0 a1 (.int (4 : Int32))) (F_7 : EA47 Z h0 a1) (F_8 : FA41 Z h0 a1 (.ref a6)) (F_9 : Arv Z h0 a6 k7 .byte (16 : Int32) [(.int p8), (.int p9), (.int (58 : Int32)), (.int (32 : Int32)), o0, o0, o0, o0, o0, o0, o0, o0, o0, o0, o0, o0] o0) (F_10 : FA42 Z h0 a1 o0) (g_11 : n0 ≤ a6) (ne_12 : a1 ≠ a6) (g_13 : n0 ≤ a1) :
    Met l Z [] MY19 jdk_68_method_22_code 3 (some (.object "java/lang/AbstractStringBuilder")) ({ frames := 3, cells := 0, slots := 0, locals := 56 } : Room) #[(.ref a1), (.ref a2)] h0 (Q103_append Z a1 a2 a3 k4 p5 a6 k7 p8 p9 h0 n0) := by
  have W := @own_W _ _ hw
  refine own_mk (plainFor_of_name pn_206) ?_
  intro p e s m below meth c s₁ hZ hx hby hml hown hnm hret hlk X0 e0
  have N0 := Fr.nil n0
  obtain ⟨_, T1, L1, X1, hQ1, st1⟩ := own_cv X0 hx hZ hown hml (W 97 rfl) (W 98 rfl) (notFace_of_selects (W 100 rfl)) (W 100 rfl) (W 99 rfl) (W 7 rfl) (W 101 rfl) (rm25_length l Z a0 hw a2 a3 k4 (0 : Int32) [] p5 h0 n0 O0 (F_1) (F_2) (F_0) (S_3) (hc_4) (F_5) ((by decide))) e0 F_0 (hb hby d_219) 0 #[rv a1, rv a2, .unset] [] [] pd_234
  obtain ⟨rfl, N1q, K1⟩ := hQ1
  have N2 := Fr.app N0 N1q
  obtain ⟨T3, X3, e3, st3⟩ := getF X1 hx hZ hown (host := "") (Or.inl (W 107 rfl)) Via.refl K1 F_6 (g := (mkF m 16 #[rv a1, rv a2, .val o0] [(.ref a1), (.ref a1)])) rfl rfl (hb hby d_238)
  obtain ⟨_, T4, L4, X4, hQ4, st4⟩ := own_cv X3 hx hZ hown hml (W 109 rfl) (own_decl (y := MY15) (W 110 rfl) (W 113 rfl)) (notFace_of_selects (W 112 rfl)) (W 112 rfl) (W 110 rfl) (W 79 rfl) (W 113 rfl) (rm100_ensureCapacityInternal l Z a0 hw a1 a6 k7 p8 p9 h0 n0 O0 (F_8) (F_9) (F_10)) e3 F_7 (hb hby d_241) 0 #[rv a1, rv a2, .val o0] [(.int (4 : Int32))] [] pd_207
  obtain ⟨rfl, N4q, K4⟩ := hQ4
  have N5 := Fr.app N2 N4q
  obtain ⟨T6, X6, e6, st6⟩ := getF X4 hx hZ hown (host := "") (Or.inl (W 107 rfl)) Via.refl K4 F_6 (g := (mkF m 26 #[rv a1, rv a2, .val o0] [(.ref a1), (.ref a1)])) rfl rfl (hb hby d_257)
  obtain ⟨_, T7, L7, X7, hQ7, st7⟩ := own_cv X6 hx hZ hown hml (W 114 rfl) (own_decl (y := MY18) (W 115 rfl) (W 118 rfl)) (notFace_of_selects (W 117 rfl)) (W 117 rfl) (W 115 rfl) (W 79 rfl) (W 118 rfl) (rm102_putStringAt l Z a0 hw a1 a2 p5 a6 a3 k4 k7 p8 p9 h0 n0 O0 (F_7) (S_3) (hc_4) (F_10) (F_0) (F_5) (F_8) (F_1) (F_2) (F_9) (g_11)) e6 F_7 (hb hby d_259) 0 #[rv a1, rv a2, .val o0] [(.int (4 : Int32)), (.ref a2)] [] pd_300
  obtain ⟨rfl, N7q, K7, F7_0⟩ := hQ7
  have N8 := Fr.app N5 N7q
  have O9 := O0.keep K7 (allS g_11 all0)
  have K10 : Keep h0 T7.heap [a6, a1] := Keep.trans (Keep.refl h0 [a6, a1]) K7 (allS (Or.inl (List.mem_of_getElem? (i := 0) rfl)) all0)
  have f12 := (F_6.keep K7 (ninS ne_12 nin0))
  obtain ⟨T11, X11, e11, st11⟩ := getF X7 hx hZ hown (host := "") (Or.inl (W 107 rfl)) Via.refl rfl f12 (g := (mkF m 35 #[rv a1, rv a2, .val o0] [(.ref a1), (.ref a1)])) rfl rfl (hb hby d_303)
  have f14 := (F_7.keep K7)
  obtain ⟨T13, h13, X13, e13, W13, st13⟩ := putF X11 hx hZ hown (host := "") (Or.inl (W 107 rfl)) Via.refl e11 f12 f14 (Or.inl (W 108 rfl)) (W 70 rfl) (ty := .int) (by decide) rfl rfl (g := (mkF m 40 #[rv a1, rv a2, .val o0] [(.int (4 : Int32)), (.ref a1)])) rfl rfl (hb hby d_306)
  have O15 := O9.wr W13 g_13
  have K16 : Keep h0 h13 [a6, a1] := Keep.wr K10 W13 (Or.inl (List.mem_of_getElem? (i := 1) rfl))
  have f17 : FA43 Z h13 a1 (.int (4 : Int32)) := (f12.same W13)
  have N18 := Fr.snoc X13 N8 g_13
  have f19 := ((F_8.keep K7 (ninS ne_12 nin0)).other W13 (Or.inr (slot_ne (Or.inl (W 84 rfl)) (Or.inl (W 108 rfl)) (by decide) (t := (.array .byte)) (t' := .int) (by decide) (by decide))))
  have f20 := (F7_0.other W13 (Ne.symm ne_12))
  have f21 := ((F_10.keep K7 (ninS ne_12 nin0)).other W13 (Or.inr (slot_ne (Or.inl (W 86 rfl)) (Or.inl (W 108 rfl)) (by decide) (t := .byte) (t' := .int) (by decide) (by decide))))
  refine ⟨T13, some (.ref a1), _, _, _, X13, by decide, by decide, nofun, ?_, fun fs hr => castTop (ef_309 m a1 a2) ?_⟩
  · show Q103_append Z a1 a2 a3 k4 p5 a6 k7 p8 p9 h0 n0 _ T13.heap _
    rw [e13]
    exact ⟨rfl, N18, K16, f17, f19, f20, f21⟩
  · show SS p e below s₁ m 0 #[rv a1, rv a2, .unset] [] _
    refine XS.aloadN X0.here hx rfl (hb hby d_216) rfl rfl ?_
    refine XS.ifnonnullYes X0.here hx rfl (pc0 := 1) (pc' := 9) rfl (hb hby d_217) rfl (by decide) (by decide) ?_
    refine XS.aloadN X0.here hx rfl (hb hby d_218) rfl rfl ?_
    refine st1 _ ?_
    refine XS.istoreN X1.here hx rfl (hb hby d_235) rfl (l' := #[rv a1, rv a2, .val o0]) rfl ?_
    refine XS.aloadN X1.here hx rfl (hb hby d_236) rfl rfl ?_
    refine XS.aloadN X1.here hx rfl (hb hby d_237) rfl rfl ?_
    refine st3 _ ?_
    refine XS.iloadN X3.here hx rfl (hb hby d_239) rfl ?_
    refine XS.iadd X3.here hx rfl (hb hby d_240) rfl ?_
    show SS p e below T3 m 21 #[rv a1, rv a2, .val o0] [(.int (4 : Int32)), (.ref a1)] _
    refine st4 _ ?_
    refine XS.aloadN X4.here hx rfl (hb hby d_255) rfl rfl ?_
    refine XS.aloadN X4.here hx rfl (hb hby d_256) rfl rfl ?_
    refine st6 _ ?_
    refine XS.aloadN X6.here hx rfl (hb hby d_258) rfl rfl ?_
    refine st7 _ ?_
    refine XS.aloadN X7.here hx rfl (hb hby d_301) rfl rfl ?_
    refine XS.dup X7.here hx rfl (hb hby d_302) rfl rfl ?_
    refine st11 _ ?_
    refine XS.iloadN X11.here hx rfl (hb hby d_304) rfl ?_
    show SS p e below T11 m 39 #[rv a1, rv a2, .val o0] [o0, (.int (4 : Int32)), (.ref a1)] _
    refine XS.iadd X11.here hx rfl (hb hby d_305) rfl ?_
    show SS p e below T11 m 40 #[rv a1, rv a2, .val o0] [(.int (4 : Int32)), (.ref a1)] _
    refine st13 _ ?_
    refine XS.aloadN X13.here hx rfl (hb hby d_307) rfl rfl ?_
    exact retOut X13 hx hret rfl (Or.inr (Or.inr (Or.inr (Or.inr ⟨rfl, rfl, rfl⟩)))) (hb hby d_308) hr
def Q104_append (Z : State) (a1 : Addr) (a2 : Addr) (a3 : Addr) (k4 : ClassId) (p5 : Int32) (a6 : Addr) (k7 : ClassId) (p8 : Int32) (p9 : Int32) (h0 : Heap) (n0 : Nat) (v : Option Value) (h : Heap) (L : List Loc) : Prop := v = some (.ref a1) ∧ Fr n0 L ∧ Keep h0 h [a1, a6] ∧ FA43 Z h a1 (.int (4 : Int32)) ∧ FA41 Z h a1 (.ref a6) ∧ Arv Z h a6 k7 .byte (16 : Int32) [(.int p8), (.int p9), (.int (58 : Int32)), (.int (32 : Int32)), o0, o0, o0, o0, o0, o0, o0, o0, o0, o0, o0, o0] o0 ∧ FA42 Z h a1 o0
theorem rm104_append (l : Launch) (Z : State) (a0 : Array Value) (hw : HW Z a0) (a1 : Addr) (a2 : Addr) (a3 : Addr) (k4 : ClassId) (p5 : Int32) (a6 : Addr) (k7 : ClassId) (p8 : Int32) (p9 : Int32) (h0 : Heap) (n0 : Nat) (O0 : Old Z n0 h0) (F_0 : EA44 Z h0 a2) (F_1 : FA37 Z h0 a2 (.ref a3)) (F_2 : Arv Z h0 a3 k4 .byte (0 : Int32) [] o0) (S_3 : SA48 Z Z.heap (.int p5)) (hc_4 : ¬ (p5 = (0 : Int32))) (F_5 : FA38 Z h0 a2 o0) (F_6 : FA43 Z h0 a1 (.int (4 : Int32))) (F_7 : EA47 Z h0 a1) (F_8 : FA41 Z h0 a1 (.ref a6)) (F_9 : Arv Z h0 a6 k7 .byte (16 : Int32) [(.int p8), (.int p9), (.int (58 : Int32)), (.int (32 : Int32)), o0, o0, o0, o0, o0, o0, o0, o0, o0, o0, o0, o0] o0) (F_10 : FA42 Z h0 a1 o0) (g_11 : n0 ≤ a6) (ne_12 : a1 ≠ a6) (g_13 : n0 ≤ a1) :
    Met l Z [] MY20 jdk_67_method_7_code 2 (some (.object "java/lang/StringBuilder")) ({ frames := 4, cells := 0, slots := 0, locals := 70 } : Room) #[(.ref a1), (.ref a2)] h0 (Q104_append Z a1 a2 a3 k4 p5 a6 k7 p8 p9 h0 n0) := by
  have W := @own_W _ _ hw
  refine own_mk (plainFor_of_name pn_209) ?_
  intro p e s m below meth c s₁ hZ hx hby hml hown hnm hret hlk X0 e0
  have N0 := Fr.nil n0
  obtain ⟨_, _, ⟨T1, L1, k1, n1⟩, -, X1, ⟨Lc1, hQ1, l1, y1, z1⟩, st1⟩ := superBack X0 hx hZ (y := MY19) hown (W 92 rfl) (own_same (y := MY19) (by decide) (W 93 rfl) (own_nf (args := a0) (y := MY15) rfl (W 112 rfl))) (W 93 rfl) (W 94 rfl) (by decide) (backOf (W := 0) (rm103_append l Z a0 hw a1 a2 a3 k4 p5 a6 k7 p8 p9 h0 n0 O0 (F_0) (F_1) (F_2) (S_3) (hc_4) (F_5) (F_6) (F_7) (F_8) (F_9) (F_10) (g_11) (ne_12) (g_13)) hZ (W 96 rfl) (W 79 rfl) (by decide) (by decide)) e0 (Ins.self F_7) (g := (mkF m 2 #[rv a1, rv a2] [(.ref a2), (.ref a1)])) rfl (by rw [hml]; rfl) (W 96 rfl) (argsL := [(.ref a2)]) (rest := []) (lenOf pd_310 rfl) rfl (by show 2 * 0 + _ ≤ _; exact Nat.le_of_eq rfl) (hb hby d_215) (fun _ _ => ⟨rfl, e0, (by decide : 0 + 0 ≤ _), (by decide : 0 + 0 ≤ _)⟩)
  dsimp only [Pt.U, Pt.locs, Pt.cells, Pt.slots] at X1 l1 y1 z1 st1 hQ1
  subst l1 y1 z1
  obtain ⟨rfl, N1q, K1, F1_0, F1_1, F1_2, F1_3⟩ := hQ1
  have N2 := Fr.app N0 N1q
  have O3 := O0.keep K1 (allS g_11 (allS g_13 all0))
  have K4 : Keep h0 T1.heap [a1, a6] := Keep.trans (Keep.refl h0 [a1, a6]) K1 (allS (Or.inl (List.mem_of_getElem? (i := 1) rfl)) (allS (Or.inl (List.mem_of_getElem? (i := 0) rfl)) all0))
  refine ⟨T1, some (.ref a1), _, _, _, X1, by decide, by decide, nofun, ?_, fun fs hr => castTop (ef_33 m a1 a2) ?_⟩
  · show Q104_append Z a1 a2 a3 k4 p5 a6 k7 p8 p9 h0 n0 _ T1.heap _
    exact ⟨rfl, N2, K4, F1_0, F1_1, F1_2, F1_3⟩
  · show SS p e below s₁ m 0 #[rv a1, rv a2] [] _
    refine XS.aloadN X0.here hx rfl (hb hby d_213) rfl rfl ?_
    refine XS.aloadN X0.here hx rfl (hb hby d_214) rfl rfl ?_
    refine st1.trans ?_
    refine XS.pop X1.here hx rfl (hb hby d_311) rfl rfl ?_
    refine XS.aloadN X1.here hx rfl (hb hby d_312) rfl rfl ?_
    exact retOut X1 hx hret rfl (Or.inr (Or.inr (Or.inr (Or.inr ⟨rfl, rfl, rfl⟩)))) (hb hby d_313) hr
def Q105_copyOfRangeByte (Z : State) (a1 : Addr) (k2 : ClassId) (p3 : Int32) (p4 : Int32) (h0 : Heap) (n0 : Nat) (v : Option Value) (h : Heap) (L : List Loc) : Prop := ∃ (b3 : Addr) (k3 : ClassId), v = some (.ref b3) ∧ Fr n0 L ∧ Keep h0 h [] ∧ h0.size ≤ b3 ∧ Arv Z h b3 k3 .byte (4 : Int32) [(.int p3), (.int p4), (.int (58 : Int32)), (.int (32 : Int32))] o0 ∧ EA46 Z h b3
theorem rm105_copyOfRangeByte (l : Launch) (Z : State) (a0 : Array Value) (hw : HW Z a0) (a1 : Addr) (k2 : ClassId) (p3 : Int32) (p4 : Int32) (h0 : Heap) (n0 : Nat) (O0 : Old Z n0 h0) (F_0 : Arv Z h0 a1 k2 .byte (16 : Int32) [(.int p3), (.int p4), (.int (58 : Int32)), (.int (32 : Int32)), o0, o0, o0, o0, o0, o0, o0, o0, o0, o0, o0, o0] o0) :
    Met l Z [] MY27 jdk_65_method_133_code 5 (some (.array .byte)) ({ frames := 1, cells := 1, slots := 4, locals := 27 } : Room) #[(.ref a1), o0, (.int (4 : Int32))] h0 (Q105_copyOfRangeByte Z a1 k2 p3 p4 h0 n0) := by
  have W := @own_W _ _ hw
  refine own_mk (plainFor_of_name pn_389) ?_
  intro p e s m below meth c s₁ hZ hx hby hml hown hnm hret hlk X0 e0
  have N0 := Fr.nil n0
  obtain ⟨_, T1, L1, X1, hQ1, st1⟩ := own_cs X0 hx hZ hown hml (W 172 rfl) (W 173 rfl) (W 167 rfl) (W 174 rfl) (rm46_checkLength l Z a0 hw (0 : Int32) (4 : Int32) h0 n0 O0 ((by decide : ¬ ((4 : Int32) < (0 : Int32))))) e0 (hb hby d_383) 0 #[rv a1, .val o0, iv (4 : Int32), .unset, .unset] [o0, (.int (4 : Int32))] [] pd_390
  obtain ⟨rfl, N1q, K1⟩ := hQ1
  have N2 := Fr.app N0 N1q
  obtain ⟨T3, h3, k3, X3, e3, E3, A3, B3, st3⟩ := newPE X1 hx hZ (W 20 rfl) K1 (g := (mkF m 10 #[rv a1, .val o0, iv (4 : Int32), iv (4 : Int32), .unset] [(.int (4 : Int32))])) rfl (hb hby d_396) rfl (by decide) (cap := 4) (by decide) (by decide) (by decide) (by decide) (ad := "[B") rfl
  obtain ⟨b3, g3⟩ : ∃ z, z = h0.size := ⟨_, rfl⟩
  rw [← g3] at A3 B3 st3
  have O4 := O0.ext E3
  have K5 : Keep h0 h3 [] := Keep.ext (Keep.refl h0 []) E3
  have v6 : Arv Z h3 b3 k3 .byte (4 : Int32) [o0, o0, o0, o0] o0 := (Arv.new A3 (by decide)).pad (pad_rep [] o0 4)
  have f8 := (F_0.ext E3)
  obtain ⟨c7, A7, q7, S7, N7, H7, G7⟩ := id f8
  obtain ⟨_, T9, L9, X9, hQ9, st9⟩ := own_cs X3 hx hZ hown hml (W 175 rfl) (W 176 rfl) (W 177 rfl) (W 178 rfl) (rm68_min l Z a0 hw  h3 n0 O4 ) e3 (hb hby d_407) 4 #[rv a1, .val o0, iv (4 : Int32), iv (4 : Int32), rv b3] [(.int (16 : Int32)), (.int (4 : Int32))] [o0, (.ref b3), o0, (.ref a1)] pd_414
  obtain ⟨rfl, N9q, K9⟩ := hQ9
  have N10 := Fr.app N2 N9q
  have g12 : n0 ≤ b3 := Nat.le_trans (Nat.le_trans (Nat.le_of_eq O0.1.symm) O0.2.1) (Nat.le_of_eq g3.symm)
  obtain ⟨T11, h11, Lc11, X11, e11, N11, K11, V11, st11⟩ := cpA X9 hx hZ hown (W 179 rfl) (W 133 rfl) (W 131 rfl) (W 132 rfl) K9 f8 v6 (Or.inl ⟨rfl, rfl⟩) (sp := (0 : Int32)) (dp := (0 : Int32)) (nn := (4 : Int32)) (by decide) (by decide) (by decide) (by decide) (by decide) (us := [(.int p3), (.int p4), (.int (58 : Int32)), (.int (32 : Int32))]) rfl (Nat.le_of_ble_eq_true rfl) N10 g12 (g := (mkF m 27 #[rv a1, .val o0, iv (4 : Int32), iv (4 : Int32), rv b3] [(.int (4 : Int32)), o0, (.ref b3), o0, (.ref a1)])) rfl (by rw [hml]; rfl) rfl (hb hby d_415) (by decide) (W := 0) (by show 2 * 0 + _ ≤ _; exact Nat.le_of_eq rfl) (by decide)
  have O13 := O4.keep K11 (allS g12 all0)
  have K14 : Keep h0 h11 [] := Keep.trans K5 K11 (allS (Or.inr (Nat.le_of_eq g3.symm)) all0)
  have v15 : Arv Z h11 b3 k3 .byte (4 : Int32) [(.int p3), (.int p4), (.int (58 : Int32)), (.int (32 : Int32))] o0 := V11
  have f16 := (B3.keep K11)
  refine ⟨T11, some (.ref b3), _, _, _, X11, by decide, by decide, nofun, ?_, fun fs hr => castTop (ef_479 m a1) ?_⟩
  · show Q105_copyOfRangeByte Z a1 k2 p3 p4 h0 n0 _ T11.heap _
    rw [e11]
    exact ⟨b3, k3, rfl, N11, K14, (Nat.le_of_eq g3.symm), v15, f16⟩
  · show SS p e below s₁ m 0 #[rv a1, .val o0, iv (4 : Int32), .unset, .unset] [] _
    refine XS.iloadN X0.here hx rfl (hb hby d_381) rfl ?_
    refine XS.iloadN X0.here hx rfl (hb hby d_382) rfl ?_
    refine st1 _ ?_
    refine XS.iloadN X1.here hx rfl (hb hby d_391) rfl ?_
    refine XS.iloadN X1.here hx rfl (hb hby d_392) rfl ?_
    refine XS.isub X1.here hx rfl (hb hby d_393) rfl ?_
    show SS p e below T1 m 8 #[rv a1, .val o0, iv (4 : Int32), .unset, .unset] [(.int (4 : Int32))] _
    refine XS.istoreN X1.here hx rfl (hb hby d_394) rfl (l' := #[rv a1, .val o0, iv (4 : Int32), iv (4 : Int32), .unset]) rfl ?_
    refine XS.iloadN X1.here hx rfl (hb hby d_395) rfl ?_
    refine st3 _ ?_
    refine XS.astore X3.here hx rfl (hb hby d_397) rfl rfl (l' := #[rv a1, .val o0, iv (4 : Int32), iv (4 : Int32), rv b3]) rfl ?_
    refine XS.aloadN X3.here hx rfl (hb hby d_398) rfl rfl ?_
    refine XS.iloadN X3.here hx rfl (hb hby d_399) rfl ?_
    refine XS.aload X3.here hx rfl (hb hby d_400) rfl rfl ?_
    refine XS.iconst X3.here hx rfl (hb hby d_401) ?_
    refine XS.aloadN X3.here hx rfl (hb hby d_402) rfl rfl ?_
    refine X3.arraylength hx (by rw [e3]; exact A7.1) (State.isArrayOf_alike hZ.alike A7.2.1) (g := (mkF m 20 #[rv a1, .val o0, iv (4 : Int32), iv (4 : Int32), rv b3] [(.ref a1), o0, (.ref b3), o0, (.ref a1)])) rfl rfl (hb hby d_403) _ ?_
    rw [len_of S7 N7]
    show SS p e below T3 m 21 #[rv a1, .val o0, iv (4 : Int32), iv (4 : Int32), rv b3] [(.int (16 : Int32)), o0, (.ref b3), o0, (.ref a1)] _
    refine XS.iloadN X3.here hx rfl (hb hby d_404) rfl ?_
    refine XS.isub X3.here hx rfl (hb hby d_405) rfl ?_
    show SS p e below T3 m 23 #[rv a1, .val o0, iv (4 : Int32), iv (4 : Int32), rv b3] [(.int (16 : Int32)), o0, (.ref b3), o0, (.ref a1)] _
    refine XS.iloadN X3.here hx rfl (hb hby d_406) rfl ?_
    refine st9 _ ?_
    refine st11 _ ?_
    refine XS.aload X11.here hx rfl (hb hby d_416) rfl rfl ?_
    exact retOut X11 hx hret rfl (Or.inr (Or.inr (Or.inr (Or.inr ⟨rfl, rfl, rfl⟩)))) (hb hby d_417) hr
def Q106_copyOfRange (Z : State) (a1 : Addr) (k2 : ClassId) (p3 : Int32) (p4 : Int32) (h0 : Heap) (n0 : Nat) (v : Option Value) (h : Heap) (L : List Loc) : Prop := ∃ (b2_0 : Addr) (k2_0 : ClassId), v = some (.ref b2_0) ∧ Fr n0 L ∧ Keep h0 h [] ∧ h0.size ≤ b2_0 ∧ Arv Z h b2_0 k2_0 .byte (4 : Int32) [(.int p3), (.int p4), (.int (58 : Int32)), (.int (32 : Int32))] o0 ∧ EA46 Z h b2_0
theorem rm106_copyOfRange (l : Launch) (Z : State) (a0 : Array Value) (hw : HW Z a0) (a1 : Addr) (k2 : ClassId) (p3 : Int32) (p4 : Int32) (h0 : Heap) (n0 : Nat) (O0 : Old Z n0 h0) (F_0 : Arv Z h0 a1 k2 .byte (16 : Int32) [(.int p3), (.int p4), (.int (58 : Int32)), (.int (32 : Int32)), o0, o0, o0, o0, o0, o0, o0, o0, o0, o0, o0, o0] o0) :
    Met l Z [] MY28 jdk_65_method_132_code 3 (some (.array .byte)) ({ frames := 2, cells := 1, slots := 4, locals := 43 } : Room) #[(.ref a1), o0, (.int (4 : Int32))] h0 (Q106_copyOfRange Z a1 k2 p3 p4 h0 n0) := by
  have W := @own_W _ _ hw
  refine own_mk (plainFor_of_name pn_389) ?_
  intro p e s m below meth c s₁ hZ hx hby hml hown hnm hret hlk X0 e0
  have N0 := Fr.nil n0
  obtain ⟨c1, A1, q1, S1, N1, H1, G1⟩ := id F_0
  obtain ⟨_, T2, L2, X2, hQ2, st2⟩ := own_cs X0 hx hZ hown hml (W 169 rfl) (W 170 rfl) (W 167 rfl) (W 171 rfl) (rm105_copyOfRangeByte l Z a0 hw a1 k2 p3 p4 h0 n0 O0 (F_0)) e0 (hb hby d_380) 0 #[rv a1, .val o0, iv (4 : Int32)] [(.ref a1), o0, (.int (4 : Int32))] [] pd_419
  obtain ⟨b2_0, k2_0, rfl, N2q, K2, gb2_0, F2_0, F2_1⟩ := hQ2
  have N3 := Fr.app N0 N2q
  have O4 := O0.keep K2 all0
  have K5 : Keep h0 T2.heap [] := Keep.trans (Keep.refl h0 []) K2 all0
  refine ⟨T2, some (.ref b2_0), _, _, _, X2, by decide, by decide, nofun, ?_, fun fs hr => castTop (ef_480 m a1) ?_⟩
  · show Q106_copyOfRange Z a1 k2 p3 p4 h0 n0 _ T2.heap _
    exact ⟨b2_0, k2_0, rfl, N3, K5, gb2_0, F2_0, F2_1⟩
  · show SS p e below s₁ m 0 #[rv a1, .val o0, iv (4 : Int32)] [] _
    refine XS.iloadN X0.here hx rfl (hb hby d_371) rfl ?_
    refine XS.ifNo X0.here hx rfl (hb hby d_372) rfl ((if0 _ _).trans (teq (by decide : (0 : Int32) = (0 : Int32))).2) ?_
    refine XS.iloadN X0.here hx rfl (hb hby d_373) rfl ?_
    refine XS.aloadN X0.here hx rfl (hb hby d_374) rfl rfl ?_
    refine X0.arraylength hx (by rw [e0]; exact A1.1) (State.isArrayOf_alike hZ.alike A1.2.1) (g := (mkF m 6 #[rv a1, .val o0, iv (4 : Int32)] [(.ref a1), (.int (4 : Int32))])) rfl rfl (hb hby d_375) _ ?_
    rw [len_of S1 N1]
    refine XS.icmpNo X0.here hx rfl (hb hby d_376) rfl (feq (by decide : ¬ ((4 : Int32) = (16 : Int32)))).1 ?_
    refine XS.aloadN X0.here hx rfl (hb hby d_377) rfl rfl ?_
    refine XS.iloadN X0.here hx rfl (hb hby d_378) rfl ?_
    refine XS.iloadN X0.here hx rfl (hb hby d_379) rfl ?_
    refine st2 _ ?_
    show SS p e below T2 m 16 #[rv a1, .val o0, iv (4 : Int32)] [(.ref b2_0)] _
    exact retOut X2 hx hret rfl (Or.inr (Or.inr (Or.inr (Or.inr ⟨rfl, rfl, rfl⟩)))) (hb hby d_420) hr
def Q107_init (Z : State) (a1 : Addr) (a2 : Addr) (a3 : Addr) (p4 : Int32) (k5 : ClassId) (p6 : Int32) (p7 : Int32) (h0 : Heap) (n0 : Nat) (v : Option Value) (h : Heap) (L : List Loc) : Prop := ∃ (b13_0 : Addr) (k13_0 : ClassId), v = none ∧ Fr n0 L ∧ Keep h0 h [a1] ∧ h0.size ≤ b13_0 ∧ Arv Z h b13_0 k13_0 .byte (4 : Int32) [(.int p6), (.int p7), (.int (58 : Int32)), (.int (32 : Int32))] o0 ∧ EA46 Z h b13_0 ∧ FA38 Z h a1 o0 ∧ FA37 Z h a1 (.ref b13_0)
theorem rm107_init (l : Launch) (Z : State) (a0 : Array Value) (hw : HW Z a0) (a1 : Addr) (a2 : Addr) (a3 : Addr) (p4 : Int32) (k5 : ClassId) (p6 : Int32) (p7 : Int32) (h0 : Heap) (n0 : Nat) (O0 : Old Z n0 h0) (F_0 : EA47 Z h0 a2) (F_1 : FA41 Z h0 a2 (.ref a3)) (F_2 : FA43 Z h0 a2 (.int (4 : Int32))) (S_3 : SA48 Z Z.heap (.int p4)) (hc_4 : ¬ (p4 = (0 : Int32))) (F_5 : FA42 Z h0 a2 o0) (F_6 : EA44 Z h0 a1) (F_7 : FA38 Z h0 a1 o0) (g_8 : n0 ≤ a1) (F_9 : Arv Z h0 a3 k5 .byte (16 : Int32) [(.int p6), (.int p7), (.int (58 : Int32)), (.int (32 : Int32)), o0, o0, o0, o0, o0, o0, o0, o0, o0, o0, o0, o0] o0) (ne_10 : a1 ≠ a3) (F_11 : FA37 Z h0 a1 .null) (lt_12 : a1 < h0.size) :
    Met l Z [] MY29 jdk_42_method_150_code 5 none ({ frames := 3, cells := 1, slots := 4, locals := 58 } : Room) #[(.ref a1), (.ref a2), .null] h0 (Q107_init Z a1 a2 a3 p4 k5 p6 p7 h0 n0) := by
  have W := @own_W _ _ hw
  refine own_mk (plainFor_of_name pn_30) ?_
  intro p e s m below meth c s₁ hZ hx hby hml hown hnm hret hlk X0 e0
  have N0 := Fr.nil n0
  obtain ⟨T1, X1, e1, st1⟩ := initO X0 hx hZ hown (W 16 rfl) (W 17 rfl) (W 18 rfl) e0 (g := (mkF m 1 #[rv a1, rv a2, .val .null, .unset, .unset] [(.ref a1)])) rfl (by rw [hml]; rfl) rfl (hb hby d_335) (by decide) (W := 0) (by show 2 * 0 + _ ≤ _; exact Nat.le_of_eq rfl) (by decide)
  obtain ⟨_, T2, L2, X2, hQ2, st2⟩ := own_cv X1 hx hZ hown hml (W 147 rfl) (W 148 rfl) (notFace_of_selects (W 150 rfl)) (W 150 rfl) (W 149 rfl) (W 79 rfl) (W 151 rfl) (rm42_getValue l Z a0 hw a2 a3 h0 n0 O0 (F_1)) e1 F_0 (hb hby d_337) 0 #[rv a1, rv a2, .val .null, .unset, .unset] [] [] pd_341
  obtain ⟨rfl, N2q, K2⟩ := hQ2
  have N3 := Fr.app N0 N2q
  obtain ⟨_, T4, L4, X4, hQ4, st4⟩ := own_cv X2 hx hZ hown hml (W 152 rfl) (W 153 rfl) (own_nf (args := a0) (y := MY15) rfl (id (W 112 rfl))) (W 155 rfl) (W 156 rfl) (W 71 rfl) (W 157 rfl) (rm67_length l Z a0 hw a2 h0 n0 O0 (F_2) (F_0)) K2 F_0 (hb hby d_344) 0 #[rv a1, rv a2, .val .null, rv a3, .unset] [] [] pd_234
  obtain ⟨rfl, N4q, K4⟩ := hQ4
  have N5 := Fr.app N3 N4q
  obtain ⟨_, T6, L6, X6, hQ6, st6⟩ := own_cv X4 hx hZ hown hml (W 160 rfl) (W 161 rfl) (notFace_of_selects (W 163 rfl)) (W 163 rfl) (W 162 rfl) (W 79 rfl) (W 164 rfl) (rm45_isLatin1 l Z a0 hw a2 p4 h0 n0 O0 (S_3) (hc_4) (F_5)) K4 F_0 (hb hby d_353) 0 #[rv a1, rv a2, .val .null, rv a3, iv (4 : Int32)] [] [] pd_67
  obtain ⟨rfl, N6q, K6⟩ := hQ6
  have N7 := Fr.app N5 N6q
  obtain ⟨T8, h8, X8, e8, W8, st8⟩ := putFN X6 hx hZ hown (W 26 rfl) Via.refl K6 F_7 F_6 (Or.inr ⟨(W 22 rfl), rfl, hnm⟩) (W 6 rfl) (ty := .byte) (v' := o0) (by decide) rfl rfl (g := (mkF m 24 #[rv a1, rv a2, .val .null, rv a3, iv (4 : Int32)] [o0, (.ref a1)])) rfl rfl (hb hby d_365)
  have O9 := O0.wr W8 g_8
  have K10 : Keep h0 h8 [a1] := Keep.wr (Keep.refl h0 [a1]) W8 (Or.inl (List.mem_of_getElem? (i := 0) rfl))
  have f11 : FA38 Z h8 a1 o0 := (F_7.same W8)
  have N12 := Fr.snoc X8 N7 g_8
  have f14 := (F_9.other W8 (Ne.symm ne_10))
  obtain ⟨_, T13, L13, X13, hQ13, st13⟩ := own_cs X8 hx hZ hown hml (W 165 rfl) (W 166 rfl) (W 167 rfl) (W 168 rfl) (rm106_copyOfRange l Z a0 hw a3 k5 p6 p7 h8 n0 O9 (f14)) e8 (hb hby d_370) 1 #[rv a1, rv a2, .val .null, rv a3, iv (4 : Int32)] [(.ref a3), o0, (.int (4 : Int32))] [(.ref a1)] pd_419
  obtain ⟨b13_0, k13_0, rfl, N13q, K13, gb13_0, F13_0, F13_1⟩ := hQ13
  have N15 := Fr.app N12 N13q
  have O16 := O9.keep K13 all0
  have K17 : Keep h0 T13.heap [a1] := Keep.trans K10 K13 all0
  have f19 := ((F_11.other W8 (Or.inr (slot_ne (Or.inr (W 21 rfl)) (Or.inr (W 22 rfl)) (by decide) (t := (.array .byte)) (t' := .byte) (by decide) (by decide)))).keep K13 nin0)
  have f20 := ((F_6.wr W8).keep K13)
  obtain ⟨T18, h18, X18, e18, W18, st18⟩ := putF X13 hx hZ hown (host := "") (Or.inl (W 25 rfl)) Via.refl rfl f19 f20 (Or.inr ⟨(W 21 rfl), rfl, hnm⟩) (W 6 rfl) (ty := (.array .byte)) (by decide) rfl rfl (g := (mkF m 35 #[rv a1, rv a2, .val .null, rv a3, iv (4 : Int32)] [(.ref b13_0), (.ref a1)])) rfl rfl (hb hby d_422)
  have O21 := O16.wr W18 g_8
  have K22 : Keep h0 h18 [a1] := Keep.wr K17 W18 (Or.inl (List.mem_of_getElem? (i := 0) rfl))
  have f23 : FA37 Z h18 a1 (.ref b13_0) := (f19.same W18)
  have N24 := Fr.snoc X18 N15 g_8
  have z25 : h0.size ≤ h8.size := (Nat.le_of_eq W8.size.symm)
  have f26 := (F13_0.other W18 (Ne.symm (Nat.ne_of_lt (Nat.lt_of_lt_of_le (Nat.lt_of_lt_of_le lt_12 z25) gb13_0))))
  have f27 := (F13_1.wr W18)
  have f28 := ((f11.keep K13 nin0).other W18 (Or.inr (slot_ne (Or.inr (W 22 rfl)) (Or.inr (W 21 rfl)) (by decide) (t := .byte) (t' := (.array .byte)) (by decide) (by decide))))
  refine ⟨T18, none, _, _, _, X18, by decide, by decide, (fun _ => rfl), ?_, fun fs hr => castTop (ef_425 m a1 a2) ?_⟩
  · show Q107_init Z a1 a2 a3 p4 k5 p6 p7 h0 n0 _ T18.heap _
    rw [e18]
    exact ⟨b13_0, k13_0, rfl, N24, K22, (Nat.le_trans z25 gb13_0), f26, f27, f28, f23⟩
  · show SS p e below s₁ m 0 #[rv a1, rv a2, .val .null, .unset, .unset] [] _
    refine XS.aloadN X0.here hx rfl (hb hby d_334) rfl rfl ?_
    refine st1 _ ?_
    refine XS.aloadN X1.here hx rfl (hb hby d_336) rfl rfl ?_
    refine st2 _ ?_
    refine XS.astoreN X2.here hx rfl (hb hby d_342) rfl rfl (l' := #[rv a1, rv a2, .val .null, rv a3, .unset]) rfl ?_
    refine XS.aloadN X2.here hx rfl (hb hby d_343) rfl rfl ?_
    refine st4 _ ?_
    refine XS.istore X4.here hx rfl (hb hby d_351) rfl (l' := #[rv a1, rv a2, .val .null, rv a3, iv (4 : Int32)]) rfl ?_
    refine XS.aloadN X4.here hx rfl (hb hby d_352) rfl rfl ?_
    refine st6 _ ?_
    show SS p e below T6 m 19 #[rv a1, rv a2, .val .null, rv a3, iv (4 : Int32)] [(.int (1 : Int32))] _
    refine XS.ifNo X6.here hx rfl (hb hby d_362) rfl ((if0 _ _).trans (feq (by decide : ¬ ((1 : Int32) = (0 : Int32)))).1) ?_
    refine XS.aloadN X6.here hx rfl (hb hby d_363) rfl rfl ?_
    refine XS.iconst X6.here hx rfl (hb hby d_364) ?_
    refine st8 _ ?_
    refine XS.aloadN X8.here hx rfl (hb hby d_366) rfl rfl ?_
    refine XS.aloadN X8.here hx rfl (hb hby d_367) rfl rfl ?_
    refine XS.iconst X8.here hx rfl (hb hby d_368) ?_
    refine XS.iload X8.here hx rfl (hb hby d_369) rfl ?_
    refine st13 _ ?_
    refine st18 _ ?_
    show SS p e below T18 m 38 #[rv a1, rv a2, .val .null, rv a3, iv (4 : Int32)] [] _
    refine XS.goto X18.here hx rfl (pc0 := 38) (pc' := 97) rfl (hb hby d_423) (by decide) (by decide) ?_
    exact X18.returnOut hx hret (hb hby d_424) hr
def Q108_init (Z : State) (a1 : Addr) (a2 : Addr) (a3 : Addr) (p4 : Int32) (k5 : ClassId) (p6 : Int32) (p7 : Int32) (h0 : Heap) (n0 : Nat) (v : Option Value) (h : Heap) (L : List Loc) : Prop := ∃ (b1_0 : Addr) (k1_0 : ClassId), v = none ∧ Fr n0 L ∧ Keep h0 h [a1] ∧ h0.size ≤ b1_0 ∧ Arv Z h b1_0 k1_0 .byte (4 : Int32) [(.int p6), (.int p7), (.int (58 : Int32)), (.int (32 : Int32))] o0 ∧ EA46 Z h b1_0 ∧ FA38 Z h a1 o0 ∧ FA37 Z h a1 (.ref b1_0)
theorem rm108_init (l : Launch) (Z : State) (a0 : Array Value) (hw : HW Z a0) (a1 : Addr) (a2 : Addr) (a3 : Addr) (p4 : Int32) (k5 : ClassId) (p6 : Int32) (p7 : Int32) (h0 : Heap) (n0 : Nat) (O0 : Old Z n0 h0) (F_0 : EA47 Z h0 a2) (F_1 : FA41 Z h0 a2 (.ref a3)) (F_2 : FA43 Z h0 a2 (.int (4 : Int32))) (S_3 : SA48 Z Z.heap (.int p4)) (hc_4 : ¬ (p4 = (0 : Int32))) (F_5 : FA42 Z h0 a2 o0) (F_6 : EA44 Z h0 a1) (F_7 : FA38 Z h0 a1 o0) (F_8 : Arv Z h0 a3 k5 .byte (16 : Int32) [(.int p6), (.int p7), (.int (58 : Int32)), (.int (32 : Int32)), o0, o0, o0, o0, o0, o0, o0, o0, o0, o0, o0, o0] o0) (F_9 : FA37 Z h0 a1 .null) (g_10 : n0 ≤ a1) (ne_11 : a1 ≠ a3) (lt_12 : a1 < h0.size) :
    Met l Z [] MY30 jdk_42_method_53_code 2 none ({ frames := 4, cells := 1, slots := 4, locals := 74 } : Room) #[(.ref a1), (.ref a2)] h0 (Q108_init Z a1 a2 a3 p4 k5 p6 p7 h0 n0) := by
  have W := @own_W _ _ hw
  refine own_mk (plainFor_of_name pn_30) ?_
  intro p e s m below meth c s₁ hZ hx hby hml hown hnm hret hlk X0 e0
  have N0 := Fr.nil n0
  obtain ⟨_, T1, L1, X1, hQ1, st1⟩ := own_cp X0 hx hZ hown hml rfl (W 144 rfl) (W 145 rfl) (W 7 rfl) (W 146 rfl) (rm107_init l Z a0 hw a1 a2 a3 p4 k5 p6 p7 h0 n0 O0 (F_0) (F_1) (F_2) (S_3) (hc_4) (F_5) (F_6) (F_7) (g_10) (F_8) (ne_11) (F_9) (lt_12)) e0 (hb hby d_333) 0 #[rv a1, rv a2] a1 [(.ref a2), .null] [] pd_426
  obtain ⟨b1_0, k1_0, rfl, N1q, K1, gb1_0, F1_0, F1_1, F1_2, F1_3⟩ := hQ1
  have N2 := Fr.app N0 N1q
  have O3 := O0.keep K1 (allS g_10 all0)
  have K4 : Keep h0 T1.heap [a1] := Keep.trans (Keep.refl h0 [a1]) K1 (allS (Or.inl (List.mem_of_getElem? (i := 0) rfl)) all0)
  refine ⟨T1, none, _, _, _, X1, by decide, by decide, (fun _ => rfl), ?_, fun fs hr => castTop (ef_33 m a1 a2) ?_⟩
  · show Q108_init Z a1 a2 a3 p4 k5 p6 p7 h0 n0 _ T1.heap _
    exact ⟨b1_0, k1_0, rfl, N2, K4, gb1_0, F1_0, F1_1, F1_2, F1_3⟩
  · show SS p e below s₁ m 0 #[rv a1, rv a2] [] _
    refine XS.aloadN X0.here hx rfl (hb hby d_330) rfl rfl ?_
    refine XS.aloadN X0.here hx rfl (hb hby d_331) rfl rfl ?_
    refine XS.aconstNull X0.here hx rfl (hb hby d_332) ?_
    refine st1 _ ?_
    exact X1.returnOut hx hret (hb hby d_427) hr
def Q109_toString (Z : State) (a1 : Addr) (a2 : Addr) (p3 : Int32) (k4 : ClassId) (p5 : Int32) (p6 : Int32) (h0 : Heap) (n0 : Nat) (v : Option Value) (h : Heap) (L : List Loc) : Prop := ∃ (b1 : Addr) (b4_0 : Addr) (k4_0 : ClassId), v = some (.ref b1) ∧ Fr n0 L ∧ Keep h0 h [] ∧ h0.size ≤ b1 ∧ h0.size ≤ b4_0 ∧ EA44 Z h b1 ∧ FA37 Z h b1 (.ref b4_0) ∧ FA38 Z h b1 o0 ∧ Arv Z h b4_0 k4_0 .byte (4 : Int32) [(.int p5), (.int p6), (.int (58 : Int32)), (.int (32 : Int32))] o0 ∧ EA46 Z h b4_0
theorem rm109_toString (l : Launch) (Z : State) (a0 : Array Value) (hw : HW Z a0) (a1 : Addr) (a2 : Addr) (p3 : Int32) (k4 : ClassId) (p5 : Int32) (p6 : Int32) (h0 : Heap) (n0 : Nat) (O0 : Old Z n0 h0) (F_0 : EA47 Z h0 a1) (F_1 : FA41 Z h0 a1 (.ref a2)) (F_2 : FA43 Z h0 a1 (.int (4 : Int32))) (S_3 : SA48 Z Z.heap (.int p3)) (hc_4 : ¬ (p3 = (0 : Int32))) (F_5 : FA42 Z h0 a1 o0) (F_6 : Arv Z h0 a2 k4 .byte (16 : Int32) [(.int p5), (.int p6), (.int (58 : Int32)), (.int (32 : Int32)), o0, o0, o0, o0, o0, o0, o0, o0, o0, o0, o0, o0] o0) (lt_7 : a2 < h0.size) :
    Met l Z [] MY31 jdk_67_method_42_code 1 (some (.object "java/lang/String")) ({ frames := 5, cells := 2, slots := 8, locals := 88 } : Room) #[(.ref a1)] h0 (Q109_toString Z a1 a2 p3 k4 p5 p6 h0 n0) := by
  have W := @own_W _ _ hw
  refine own_mk (plainFor_of_name pn_209) ?_
  intro p e s m below meth c s₁ hZ hx hby hml hown hnm hret hlk X0 e0
  have N0 := Fr.nil n0
  obtain ⟨T1, h1, X1, e1, E1, A1, D1, -, st1⟩ := newO X0 hx hZ hown (W 140 rfl) (W 6 rfl) (W 7 rfl) e0 (g := (mkF m 0 #[rv a1] [])) rfl (hb hby d_326) (by decide) (by decide)
  obtain ⟨b1, g1⟩ : ∃ z, z = h0.size := ⟨_, rfl⟩
  rw [← g1] at A1 D1 st1
  have O2 := O0.ext E1
  have K3 : Keep h0 h1 [] := Keep.ext (Keep.refl h0 []) E1
  have f5 := (F_0.ext E1)
  have f6 := (F_1.ext E1)
  have f7 := (F_2.ext E1)
  have f8 := (F_5.ext E1)
  have f9 := (F_6.ext E1)
  have g10 : n0 ≤ b1 := Nat.le_trans (Nat.le_trans (Nat.le_of_eq O0.1.symm) O0.2.1) (Nat.le_of_eq g1.symm)
  obtain ⟨_, T4, L4, X4, hQ4, st4⟩ := own_cp X1 hx hZ hown hml rfl (W 141 rfl) (W 142 rfl) (W 7 rfl) (W 143 rfl) (rm108_init l Z a0 hw b1 a1 a2 p3 k4 p5 p6 h1 n0 O2 (f5) (f6) (f7) (S_3) (hc_4) (f8) (A1) ((D1 (Or.inr (W 22 rfl)) (ty := .byte) (by decide) : FA38 Z h1 b1 o0)) (f9) ((D1 (Or.inr (W 21 rfl)) (ty := (.array .byte)) (by decide) : FA37 Z h1 b1 .null)) (g10) ((Ne.symm (Nat.ne_of_lt (Nat.lt_of_lt_of_le lt_7 (Nat.le_of_eq g1.symm))))) (A1.lt)) e1 (hb hby d_329) 1 #[rv a1] b1 [(.ref a1)] [(.ref b1)] pd_428
  obtain ⟨b4_0, k4_0, rfl, N4q, K4, gb4_0, F4_0, F4_1, F4_2, F4_3⟩ := hQ4
  have N11 := Fr.app N0 N4q
  have O12 := O2.keep K4 (allS g10 all0)
  have K13 : Keep h0 T4.heap [] := Keep.trans K3 K4 (allS (Or.inr (Nat.le_of_eq g1.symm)) all0)
  have f14 := (A1.keep K4)
  have z15 : h0.size ≤ h1.size := E1.1
  refine ⟨T4, some (.ref b1), _, _, _, X4, by decide, by decide, nofun, ?_, fun fs hr => castTop (ef_44 m a1) ?_⟩
  · show Q109_toString Z a1 a2 p3 k4 p5 p6 h0 n0 _ T4.heap _
    exact ⟨b1, b4_0, k4_0, rfl, N11, K13, (Nat.le_of_eq g1.symm), (Nat.le_trans z15 gb4_0), f14, F4_3, F4_2, F4_0, F4_1⟩
  · show SS p e below s₁ m 0 #[rv a1] [] _
    refine st1 _ ?_
    refine XS.dup X1.here hx rfl (hb hby d_327) rfl rfl ?_
    refine XS.aloadN X1.here hx rfl (hb hby d_328) rfl rfl ?_
    refine st4 _ ?_
    exact retOut X4 hx hret rfl (Or.inr (Or.inr (Or.inr (Or.inr ⟨rfl, rfl, rfl⟩)))) (hb hby d_429) hr
def Q110_toString (Z : State) (a1 : Addr) (a2 : Addr) (a3 : Addr) (k4 : ClassId) (p5 : Int32) (p6 : Int32) (p7 : Int32) (a8 : Addr) (a9 : Addr) (k10 : ClassId) (h0 : Heap) (n0 : Nat) (v : Option Value) (h : Heap) (L : List Loc) : Prop := ∃ (b68_0 : Addr) (b68_1 : Addr) (k68_0 : ClassId), v = some (.ref b68_0) ∧ Fr n0 L ∧ Keep h0 h [] ∧ h0.size ≤ b68_0 ∧ h0.size ≤ b68_1 ∧ EA44 Z h b68_0 ∧ FA37 Z h b68_0 (.ref b68_1) ∧ FA38 Z h b68_0 o0 ∧ Arv Z h b68_1 k68_0 .byte (4 : Int32) [(.int p5), (.int p6), (.int (58 : Int32)), (.int (32 : Int32))] o0 ∧ EA46 Z h b68_1
theorem rm110_toString (l : Launch) (Z : State) (a0 : Array Value) (hw : HW Z a0) (a1 : Addr) (a2 : Addr) (a3 : Addr) (k4 : ClassId) (p5 : Int32) (p6 : Int32) (p7 : Int32) (a8 : Addr) (a9 : Addr) (k10 : ClassId) (h0 : Heap) (n0 : Nat) (O0 : Old Z n0 h0) (F_0 : FA39 Z h0 a1 (.ref a2)) (F_1 : EA44 Z h0 a2) (F_2 : FA37 Z h0 a2 (.ref a3)) (F_3 : Arv Z h0 a3 k4 .byte (2 : Int32) [(.int p5), (.int p6)] o0) (S_4 : SA48 Z Z.heap (.int p7)) (hc_5 : ¬ (p7 = (0 : Int32))) (lt_6 : a1 < h0.size) (F_7 : FA38 Z h0 a2 o0) (lt_8 : a2 < h0.size) (lt_9 : a3 < h0.size) (F_10 : FA40 Z h0 a1 (.ref a8)) (F_11 : EA44 Z h0 a8) (F_12 : FA37 Z h0 a8 (.ref a9)) (F_13 : Arv Z h0 a9 k10 .byte (0 : Int32) [] o0) (F_14 : FA38 Z h0 a8 o0) (lt_15 : a8 < h0.size) (lt_16 : a9 < h0.size) :
    MetH l Z [] MY6 prog_7_method_2_code 1 (some (.object "java/lang/String")) ({ frames := 6, cells := 6, slots := 40, locals := 100 } : Room) #[(.ref a1)] h0 consts_1 [] (Q110_toString Z a1 a2 a3 k4 p5 p6 p7 a8 a9 k10 h0 n0) := by
  have W := @own_W _ _ hw
  refine own_mkH (plainFor_of_name pn_55) ?_
  intro p e s m below meth c s₁ hZ hx hby hml hown hnm hret hlk X0 e0 H0 hsf
  have N0 := Fr.nil n0
  have C0 := CHr.refl H0
  have X1 := (show Stand p l e _ (s.setVm s.vm) m _ below meth c _ _ _ _ from X0)
  obtain ⟨T2, X2, e2, st2⟩ := getF X1 hx hZ hown (host := "") (Or.inl (W 39 rfl)) Via.refl e0 F_0 (g := (mkF m 1 #[rv a1] [(.ref a1)])) rfl rfl (hb hby d_58)
  obtain ⟨_, T3, L3, X3, hQ3, st3⟩ := own_cv X2 hx hZ hown hml (W 48 rfl) (W 49 rfl) (notFace_of_selects (W 51 rfl)) (W 51 rfl) (W 50 rfl) (W 7 rfl) (W 52 rfl) (rm89_isEmpty l Z a0 hw a2 a3 k4 p5 p6 h0 n0 O0 (F_2) (F_3)) e2 F_1 (hb hby d_59) 0 #[rv a1] [] [] pd_67
  obtain ⟨rfl, N3q, K3⟩ := hQ3
  have N4 := Fr.app N0 N3q
  obtain ⟨T5, h5, X5, e5, E5, A5, D5, -, st5⟩ := newO X3 hx hZ hown (W 69 rfl) (W 70 rfl) (W 71 rfl) K3 (g := (mkF m 17 #[rv a1] [])) rfl (hb hby d_186) (by decide) (by decide)
  obtain ⟨b5, g5⟩ : ∃ z, z = h0.size := ⟨_, rfl⟩
  rw [← g5] at A5 D5 st5
  have c6 := CHr.ext E5 H0
  have C7 := CHr.trans C0 c6
  have O8 := O0.ext E5
  have K9 : Keep h0 h5 [] := Keep.ext (Keep.refl h0 []) E5
  have g11 : n0 ≤ b5 := Nat.le_trans (Nat.le_trans (Nat.le_of_eq O0.1.symm) O0.2.1) (Nat.le_of_eq g5.symm)
  obtain ⟨_, T10, L10, X10, hQ10, st10⟩ := own_cp X5 hx hZ hown hml rfl (W 72 rfl) (W 73 rfl) (W 71 rfl) (W 74 rfl) (rm23_init l Z a0 hw b5 p7 h5 n0 O8 (S_4) (hc_5) (A5) ((D5 (Or.inl (W 84 rfl)) (ty := (.array .byte)) (by decide) : FA41 Z h5 b5 .null)) ((D5 (Or.inl (W 86 rfl)) (ty := .byte) (by decide) : FA42 Z h5 b5 o0)) ((D5 (Or.inl (W 108 rfl)) (ty := .int) (by decide) : FA43 Z h5 b5 o0)) (g11) (A5.lt)) e5 (hb hby d_188) 1 #[rv a1] b5 [] [(.ref b5)] pd_46
  obtain ⟨b10_0, k10_0, rfl, N10q, K10, gb10_0, F10_0, F10_1, F10_2, F10_3, F10_4⟩ := hQ10
  have N12 := Fr.app N4 N10q
  have s13 := Safe.exa (EL := consts_1) hZ.alike A5 (by decide) (by decide)
  have c14 := CHr.keep K10 (sfS s13 sf0) c6.1
  have C15 := CHr.trans C7 c14
  have O16 := O8.keep K10 (allS g11 all0)
  have K17 : Keep h0 T10.heap [] := Keep.trans K9 K10 (allS (Or.inr (Nat.le_of_eq g5.symm)) all0)
  have f19 := ((F_0.ext E5).keep K10 (ninS (Nat.ne_of_lt (Nat.lt_of_lt_of_le lt_6 (Nat.le_of_eq g5.symm))) nin0))
  obtain ⟨T18, X18, e18, st18⟩ := getF X10 hx hZ hown (host := "") (Or.inl (W 39 rfl)) Via.refl rfl f19 (g := (mkF m 25 #[rv a1] [(.ref a1), (.ref b5)])) rfl rfl (hb hby d_211)
  have f21 := ((F_1.ext E5).keep K10)
  have f22 := ((F_2.ext E5).keep K10 (ninS (Nat.ne_of_lt (Nat.lt_of_lt_of_le lt_8 (Nat.le_of_eq g5.symm))) nin0))
  have f23 := ((F_3.ext E5).keep K10 (ninS (Nat.ne_of_lt (Nat.lt_of_lt_of_le lt_9 (Nat.le_of_eq g5.symm))) nin0))
  have f24 := ((F_7.ext E5).keep K10 (ninS (Nat.ne_of_lt (Nat.lt_of_lt_of_le lt_8 (Nat.le_of_eq g5.symm))) nin0))
  have f25 := (A5.keep K10)
  have z26 : h0.size ≤ h5.size := E5.1
  have g27 : n0 ≤ b10_0 := Nat.le_trans (Nat.le_trans (Nat.le_trans (Nat.le_of_eq O0.1.symm) O0.2.1) z26) gb10_0
  obtain ⟨_, T20, L20, X20, hQ20, st20⟩ := own_cv X18 hx hZ hown hml (W 87 rfl) (W 88 rfl) (notFace_of_selects (W 90 rfl)) (W 90 rfl) (W 89 rfl) (W 71 rfl) (W 91 rfl) (rm94_append l Z a0 hw b5 a2 a3 k4 p5 p6 p7 b10_0 k10_0 T10.heap n0 O16 (f21) (f22) (f23) (S_4) (hc_5) (f24) (F10_4) (f25) (F10_2) (F10_0) (F10_3) (g27) ((Nat.ne_of_lt (Nat.lt_of_lt_of_le A5.lt gb10_0))) (g11)) e18 f25 (hb hby d_212) 0 #[rv a1] [(.ref a2)] [] pd_314
  obtain ⟨rfl, N20q, K20, F20_0, F20_1, F20_2, F20_3⟩ := hQ20
  have N28 := Fr.app N12 N20q
  have f29 := (Safe.keep K10 (sfS s13 sf0) c6.1 (Safe.new gb10_0))
  have s30 := Safe.exa (EL := consts_1) hZ.alike f25 (by decide) (by decide)
  have c31 := CHr.keep K20 (sfS s30 (sfS f29 sf0)) c14.1
  have C32 := CHr.trans C15 c31
  have O33 := O16.keep K20 (allS g11 (allS g27 all0))
  have K34 : Keep h0 T20.heap [] := Keep.trans K17 K20 (allS (Or.inr (Nat.le_of_eq g5.symm)) (allS (Or.inr (Nat.le_trans z26 gb10_0)) all0))
  obtain ⟨b35, T35, h35, k35, b35v, kc35, X35, e35, E35, hS35, hk35, hZ35, hown35, Le35, Lc35, Lv35, La35, Lx35, Lb35, c35, -, Ln35, st35⟩ := ldcCH (s := s) (vm0 := s.vm) (EL := consts_1) X20 hx hZ hown (W 134 rfl) (own_str_20 hw) rfl ((State.WarmedH.refl s).since 0) (Nat.zero_le _) (own_ew_21 hw) (List.mem_of_getElem? (i := 0) rfl) c31.1 (vs := [(.int (58 : Int32)), (.int (32 : Int32))]) (z := (2 : Int32)) ⟨by decide, by decide⟩ (by decide) rfl (g := (mkF m 31 #[rv a1] [(.ref b5)])) rfl (hb hby d_315) (n := 8) (by decide) (by decide) (by decide) (by decide)
  have C36 := CHr.trans C32 c35
  have O37 := O33.ext E35
  have K38 : Keep h0 h35 [] := Keep.ext K34 E35
  have f40 := (F20_0.ext E35)
  have f41 := ((f25.keep K20).ext E35)
  have f42 := (F20_1.ext E35)
  have f43 := (F20_2.ext E35)
  have f44 := (F20_3.ext E35)
  obtain ⟨_, T39, L39, X39, hQ39, st39⟩ := own_cv X35 hx hZ35 hown35 hml (W 87 rfl) (W 88 rfl) (notFace_of_selects (W 90 rfl)) (W 90 rfl) (W 89 rfl) (W 71 rfl) (W 91 rfl) (rm99_append l Z a0 hw b5 b35 b35v kc35 p7 b10_0 k10_0 p5 p6 h35 n0 O37 (Le35) (Lv35) (La35) (S_4) (hc_5) (Lc35) (f40) (f41) (f42) (f43) (f44) (g27) ((Nat.ne_of_lt (Nat.lt_of_lt_of_le A5.lt gb10_0))) (g11)) e35 f41 (hb hby d_316) 0 #[rv a1] [(.ref b35)] [] pd_314
  obtain ⟨rfl, N39q, K39, F39_0, F39_1, F39_2, F39_3⟩ := hQ39
  have N45 := Fr.app N28 N39q
  have z46 : T10.heap.size ≤ T20.heap.size := K20.1
  have f47 := (CHr.safe c35 (Nat.lt_of_lt_of_le F10_0.lt z46) (Safe.keep K20 (sfS s30 (sfS f29 sf0)) c14.1 f29))
  have s48 := Safe.exa (EL := consts_1) hZ35.alike f41 (by decide) (by decide)
  have c49 := CHr.keep K39 (sfS s48 (sfS f47 sf0)) c35.1
  have C50 := CHr.trans C36 c49
  have O51 := O37.keep K39 (allS g11 (allS g27 all0))
  have K52 : Keep h0 T39.heap [] := Keep.trans K38 K39 (allS (Or.inr (Nat.le_of_eq g5.symm)) (allS (Or.inr (Nat.le_trans z26 gb10_0)) all0))
  have f54 := (((((F_10.ext E5).keep K10 (ninS (Nat.ne_of_lt (Nat.lt_of_lt_of_le lt_6 (Nat.le_of_eq g5.symm))) nin0)).keep K20 (ninS (Nat.ne_of_lt (Nat.lt_of_lt_of_le lt_6 (Nat.le_of_eq g5.symm))) (ninS (Nat.ne_of_lt (Nat.lt_of_lt_of_le (Nat.lt_of_lt_of_le lt_6 z26) gb10_0)) nin0))).ext E35).keep K39 (ninS (Nat.ne_of_lt (Nat.lt_of_lt_of_le lt_6 (Nat.le_of_eq g5.symm))) (ninS (Nat.ne_of_lt (Nat.lt_of_lt_of_le (Nat.lt_of_lt_of_le lt_6 z26) gb10_0)) nin0)))
  obtain ⟨T53, X53, e53, st53⟩ := getF X39 hx hZ35 hown35 (host := "") (Or.inl (W 41 rfl)) Via.refl rfl f54 (g := (mkF m 37 #[rv a1] [(.ref a1), (.ref b5)])) rfl rfl (hb hby d_321)
  have f56 := (((((F_11.ext E5).keep K10).keep K20).ext E35).keep K39)
  have f57 := (((((F_12.ext E5).keep K10 (ninS (Nat.ne_of_lt (Nat.lt_of_lt_of_le lt_15 (Nat.le_of_eq g5.symm))) nin0)).keep K20 (ninS (Nat.ne_of_lt (Nat.lt_of_lt_of_le lt_15 (Nat.le_of_eq g5.symm))) (ninS (Nat.ne_of_lt (Nat.lt_of_lt_of_le (Nat.lt_of_lt_of_le lt_15 z26) gb10_0)) nin0))).ext E35).keep K39 (ninS (Nat.ne_of_lt (Nat.lt_of_lt_of_le lt_15 (Nat.le_of_eq g5.symm))) (ninS (Nat.ne_of_lt (Nat.lt_of_lt_of_le (Nat.lt_of_lt_of_le lt_15 z26) gb10_0)) nin0)))
  have f58 := (((((F_13.ext E5).keep K10 (ninS (Nat.ne_of_lt (Nat.lt_of_lt_of_le lt_16 (Nat.le_of_eq g5.symm))) nin0)).keep K20 (ninS (Nat.ne_of_lt (Nat.lt_of_lt_of_le lt_16 (Nat.le_of_eq g5.symm))) (ninS (Nat.ne_of_lt (Nat.lt_of_lt_of_le (Nat.lt_of_lt_of_le lt_16 z26) gb10_0)) nin0))).ext E35).keep K39 (ninS (Nat.ne_of_lt (Nat.lt_of_lt_of_le lt_16 (Nat.le_of_eq g5.symm))) (ninS (Nat.ne_of_lt (Nat.lt_of_lt_of_le (Nat.lt_of_lt_of_le lt_16 z26) gb10_0)) nin0)))
  have f59 := (((((F_14.ext E5).keep K10 (ninS (Nat.ne_of_lt (Nat.lt_of_lt_of_le lt_15 (Nat.le_of_eq g5.symm))) nin0)).keep K20 (ninS (Nat.ne_of_lt (Nat.lt_of_lt_of_le lt_15 (Nat.le_of_eq g5.symm))) (ninS (Nat.ne_of_lt (Nat.lt_of_lt_of_le (Nat.lt_of_lt_of_le lt_15 z26) gb10_0)) nin0))).ext E35).keep K39 (ninS (Nat.ne_of_lt (Nat.lt_of_lt_of_le lt_15 (Nat.le_of_eq g5.symm))) (ninS (Nat.ne_of_lt (Nat.lt_of_lt_of_le (Nat.lt_of_lt_of_le lt_15 z26) gb10_0)) nin0)))
  have f60 := (f41.keep K39)
  obtain ⟨_, T55, L55, X55, hQ55, st55⟩ := own_cv X53 hx hZ35 hown35 hml (W 87 rfl) (W 88 rfl) (notFace_of_selects (W 90 rfl)) (W 90 rfl) (W 89 rfl) (W 71 rfl) (W 91 rfl) (rm104_append l Z a0 hw b5 a8 a9 k10 p7 b10_0 k10_0 p5 p6 T39.heap n0 O51 (f56) (f57) (f58) (S_4) (hc_5) (f59) (F39_0) (f60) (F39_1) (F39_2) (F39_3) (g27) ((Nat.ne_of_lt (Nat.lt_of_lt_of_le A5.lt gb10_0))) (g11)) e53 f60 (hb hby d_322) 0 #[rv a1] [(.ref a8)] [] pd_314
  obtain ⟨rfl, N55q, K55, F55_0, F55_1, F55_2, F55_3⟩ := hQ55
  have N61 := Fr.app N45 N55q
  have f62 := (Safe.keep K39 (sfS s48 (sfS f47 sf0)) c35.1 f47)
  have s63 := Safe.exa (EL := consts_1) hZ35.alike f60 (by decide) (by decide)
  have c64 := CHr.keep K55 (sfS s63 (sfS f62 sf0)) c49.1
  have C65 := CHr.trans C50 c64
  have O66 := O51.keep K55 (allS g11 (allS g27 all0))
  have K67 : Keep h0 T55.heap [] := Keep.trans K52 K55 (allS (Or.inr (Nat.le_of_eq g5.symm)) (allS (Or.inr (Nat.le_trans z26 gb10_0)) all0))
  have f69 := (f60.keep K55)
  have z70 : T10.heap.size ≤ h35.size := (Nat.le_trans z46 E35.1)
  have z71 : T10.heap.size ≤ T39.heap.size := (Nat.le_trans z70 K39.1)
  have z72 : T10.heap.size ≤ T55.heap.size := (Nat.le_trans z71 K55.1)
  obtain ⟨_, T68, L68, X68, hQ68, st68⟩ := own_cv X55 hx hZ35 hown35 hml (W 135 rfl) (W 136 rfl) (notFace_of_selects (W 138 rfl)) (W 138 rfl) (W 137 rfl) (W 71 rfl) (W 139 rfl) (rm109_toString l Z a0 hw b5 b10_0 p7 k10_0 p5 p6 T55.heap n0 O66 (f69) (F55_1) (F55_0) (S_4) (hc_5) (F55_3) (F55_2) ((Nat.lt_of_lt_of_le F10_0.lt z72))) rfl f69 (hb hby d_325) 0 #[rv a1] [] [] pd_73
  obtain ⟨b68_0, b68_1, k68_0, rfl, N68q, K68, gb68_0, gb68_1, F68_0, F68_1, F68_2, F68_3, F68_4⟩ := hQ68
  have N73 := Fr.app N61 N68q
  have c74 := CHr.keep K68 sf0 c64.1
  have C75 := CHr.trans C65 c74
  have O76 := O66.keep K68 all0
  have K77 : Keep h0 T68.heap [] := Keep.trans K67 K68 all0
  have z78 : h35.size ≤ T39.heap.size := K39.1
  have z79 : h35.size ≤ T55.heap.size := (Nat.le_trans z78 K55.1)
  have z80 : h35.size ≤ T68.heap.size := (Nat.le_trans z79 K68.1)
  have z81 : h0.size ≤ T10.heap.size := (Nat.le_trans z26 K10.1)
  have z82 : h0.size ≤ T20.heap.size := (Nat.le_trans z81 K20.1)
  have z83 : h0.size ≤ h35.size := (Nat.le_trans z82 E35.1)
  have z84 : h0.size ≤ T39.heap.size := (Nat.le_trans z83 K39.1)
  have z85 : h0.size ≤ T55.heap.size := (Nat.le_trans z84 K55.1)
  refine ⟨T68, some (.ref b68_0), _, _, _, T35.vm, _, X68, hS35, (Nat.le_trans hk35 z80), by decide, by decide, nofun, ?_, own_che rfl (CHr.trans C75 (CHv.at (s := s) X68 hZ35 (own_ew_21 hw) c74.1)), fun fs hr => castTop (ef_44 m a1) ?_⟩
  · show Q110_toString Z a1 a2 a3 k4 p5 p6 p7 a8 a9 k10 h0 n0 _ T68.heap _
    exact ⟨b68_0, b68_1, k68_0, rfl, N73, K77, (Nat.le_trans z85 gb68_0), (Nat.le_trans z85 gb68_1), F68_0, F68_1, F68_2, F68_3, F68_4⟩
  · show SS p e below s₁ m 0 #[rv a1] [] _
    refine XS.aloadN X1.here hx rfl (hb hby d_57) rfl rfl ?_
    refine st2 _ ?_
    refine st3 _ ?_
    refine XS.ifYes X3.here hx rfl (pc0 := 7) (pc' := 17) rfl (hb hby d_68) rfl ((if0 _ _).trans (teq (by decide : (0 : Int32) = (0 : Int32))).1) (by decide) (by decide) ?_
    refine st5 _ ?_
    refine XS.dup X5.here hx rfl (hb hby d_187) rfl rfl ?_
    refine st10 _ ?_
    refine XS.aloadN X10.here hx rfl (hb hby d_210) rfl rfl ?_
    refine st18 _ ?_
    refine st20 _ ?_
    show SS p e below T20 m 31 #[rv a1] [(.ref b5)] _
    refine st35 _ ?_
    refine st39 _ ?_
    refine XS.aloadN X39.here hx rfl (hb hby d_320) rfl rfl ?_
    refine st53 _ ?_
    refine st55 _ ?_
    refine st68 _ ?_
    exact retOut X68 hx hret rfl (Or.inr (Or.inr (Or.inr (Or.inr ⟨rfl, rfl, rfl⟩)))) (hb hby d_72) hr
theorem rm0_2_0 (l : Launch) (Z : State) (a0 : Array Value) (hw : HW Z a0) (ws : List Jvm.Cond) (p1 : Int32) (p2 : Int32) (p3 : Int32) (p4 : Int32) (p5 : Int32) (c0 : Int32) (c1 : Int32) (d0 : Int32) (d1 : Int32) (o_COMPACT_STRINGS : Int32) (o_SIOOBE_FORMATTER : Value) (h0 : Heap) (n0 : Nat) (O0 : Old Z n0 h0) (S_o_COMPACT_STRINGS : SA48 Z Z.heap (.int o_COMPACT_STRINGS)) (S_o_SIOOBE_FORMATTER : SA49 Z Z.heap o_SIOOBE_FORMATTER) (nz_o_COMPACT_STRINGS : ¬ (o_COMPACT_STRINGS = (0 : Int32))) (ir_o_SIOOBE_FORMATTER : o_SIOOBE_FORMATTER.isRef = true) (hpl : ((p1 &&& (2147483647 : Int32)) % (3 : Int32)) = (2 : Int32)) (hml_ : ((((p1.toUInt32 >>> ((8 : Int32) &&& 31).toUInt32).toInt32) &&& (2147483647 : Int32)) % (3 : Int32)) = (0 : Int32)) (h_c0 : ((p2 &&& (255 : Int32)).toUInt32.toUInt16.toUInt32.toInt32) = c0) (r_c0 : ¬ ((255 : Int32) < c0)) (n_c0 : ¬ (c0 < (0 : Int32))) (i_c0 : (c0.toUInt32.toUInt16.toUInt32.toInt32) = c0) (b_c0 : ((c0.toInt8.toInt32) &&& (255 : Int32)) = c0) (h_c1 : ((p3 &&& (255 : Int32)).toUInt32.toUInt16.toUInt32.toInt32) = c1) (r_c1 : ¬ ((255 : Int32) < c1)) (n_c1 : ¬ (c1 < (0 : Int32))) (i_c1 : (c1.toUInt32.toUInt16.toUInt32.toInt32) = c1) (b_c1 : ((c1.toInt8.toInt32) &&& (255 : Int32)) = c1) (h_d0 : ((p4 &&& (255 : Int32)).toUInt32.toUInt16.toUInt32.toInt32) = d0) (r_d0 : ¬ ((255 : Int32) < d0)) (n_d0 : ¬ (d0 < (0 : Int32))) (i_d0 : (d0.toUInt32.toUInt16.toUInt32.toInt32) = d0) (b_d0 : ((d0.toInt8.toInt32) &&& (255 : Int32)) = d0) (h_d1 : ((p5 &&& (255 : Int32)).toUInt32.toUInt16.toUInt32.toInt32) = d1) (r_d1 : ¬ ((255 : Int32) < d1)) (n_d1 : ¬ (d1 < (0 : Int32))) (i_d1 : (d1.toUInt32.toUInt16.toUInt32.toInt32) = d1) (b_d1 : ((d1.toInt8.toInt32) &&& (255 : Int32)) = d1) :
    MetH l Z ws x code maxLocals ret room_1 #[(.int p1), (.int p2), (.int p3), (.int p4), (.int p5)] h0 consts_1 [] (fun v _ L => Q0 n0 v L) := by
  have W := @own_W _ _ hw
  refine own_mkH (plainFor_of_name pn_37) ?_
  intro p e s m below meth c s₁ hZ hx hby hml hown hnm hret hlk X0 e0 H0 hsf
  have N0 := Fr.nil n0
  have C0 := CHr.refl H0
  have X1 := (show Stand p l e _ (s.setVm s.vm) m _ below meth c _ _ _ _ from X0)
  obtain ⟨_, T2, L2, X2, hQ2, st2⟩ := own_cs X1 hx hZ hown hml (W 1 rfl) (W 2 rfl) (W 3 rfl) (W 4 rfl) (rm20_mk l Z a0 hw c0 c1 o_COMPACT_STRINGS h0 n0 O0 (i_c0) (i_c1) (S_o_COMPACT_STRINGS) (nz_o_COMPACT_STRINGS) (r_c0) (r_c1)) e0 (hb hby at_58) 0 #[iv p1, iv p2, iv p3, iv p4, iv p5, iv (2 : Int32), .val o0, iv c0, iv c1, iv d0, iv d1, .unset, .unset, .unset] [(.int (2 : Int32)), (.int c0), (.int c1)] [] pd_38
  obtain ⟨b2_0, b2_1, k2_0, rfl, N2q, K2, gb2_0, gb2_1, F2_0, F2_1, F2_2, F2_3, F2_4⟩ := hQ2
  have N3 := Fr.app N0 N2q
  have c4 := CHr.keep K2 sf0 H0
  have C5 := CHr.trans C0 c4
  have O6 := O0.keep K2 all0
  have K7 : Keep h0 T2.heap [] := Keep.trans (Keep.refl h0 []) K2 all0
  obtain ⟨_, _, ⟨T8, L8, k8, n8⟩, -, Y8, hs8, hg8, ⟨Lc8, hQ8, l8, y8, z8, c8⟩, st8⟩ := callSS (s := s.setVm s.vm) X2 hx (y := MY2) hown (mvT hZ (W 1 rfl)) (mvT hZ (W 2 rfl)) (mvT hZ (W 3 rfl)) (mvT hZ (W 4 rfl)) (by decide) (own_backH (s := s) (vm0 := s.vm) (W := 0) (rm3_mk l Z a0 hw d0 d1 T2.heap n0 O6 ) hZ (W 4 rfl) (W 3 rfl) (by decide) (by decide) (own_ew_21 hw) c4.1 own_sf0) (g := (mkF m 69 #[iv p1, iv p2, iv p3, iv p4, iv p5, iv (2 : Int32), .val o0, iv c0, iv c1, iv d0, iv d1, rv b2_0, .unset, .unset] [(.int d1), (.int d0), o0])) rfl (by rw [hml]; rfl) (argsL := [o0, (.int d0), (.int d1)]) (rest := []) (lenOf pd_38 rfl) rfl (by show 2 * 0 + _ ≤ _; exact Nat.le_of_eq rfl) (hb hby at_69) (fun _ _ => ⟨rfl, rfl, (by decide : 3 + 6 ≤ _), (by decide : 8 + 12 ≤ _)⟩)
  dsimp only [Pt.U, Pt.locs, Pt.cells, Pt.slots] at Y8 l8 y8 z8 st8 hQ8 hs8 hg8 c8
  subst l8 y8 z8
  obtain ⟨X8, hS8, hZ8, hown8⟩ := rebS (s := s) (vm0 := s.vm) ((State.WarmedH.refl s).since 0) (Nat.zero_le _) Y8 hs8 hg8 hZ hown
  obtain ⟨b8_0, b8_1, k8_0, rfl, N8q, K8, gb8_0, F8_0, F8_1, F8_2, F8_3⟩ := hQ8
  have N9 := Fr.app N3 N8q
  have C10 := CHr.trans C5 c8
  have O11 := O6.keep K8 all0
  have K12 : Keep h0 T8.heap [] := Keep.trans K7 K8 all0
  obtain ⟨T13, h13, X13, e13, E13, A13, D13, -, st13⟩ := newO X8 hx hZ8 hown8 (W 27 rfl) (W 28 rfl) (W 29 rfl) rfl (g := (mkF m 74 #[iv p1, iv p2, iv p3, iv p4, iv p5, iv (2 : Int32), .val o0, iv c0, iv c1, iv d0, iv d1, rv b2_0, rv b8_0, .unset] [])) rfl (hb hby at_74) (by decide) (by decide)
  obtain ⟨b13, g13⟩ : ∃ z, z = T8.heap.size := ⟨_, rfl⟩
  rw [← g13] at A13 D13 st13
  have c14 := CHr.ext E13 c8.1
  have C15 := CHr.trans C10 c14
  have O16 := O11.ext E13
  have K17 : Keep h0 h13 [] := Keep.ext K12 E13
  have z19 : h0.size ≤ T2.heap.size := K2.1
  have z20 : h0.size ≤ T8.heap.size := (Nat.le_trans z19 K8.1)
  have g21 : n0 ≤ b13 := Nat.le_trans (Nat.le_trans (Nat.le_trans (Nat.le_of_eq O0.1.symm) O0.2.1) z20) (Nat.le_of_eq g13.symm)
  obtain ⟨_, T18, L18, X18, hQ18, st18⟩ := own_cp X13 hx hZ8 hown8 hml rfl (W 30 rfl) (W 31 rfl) (W 29 rfl) (W 32 rfl) (rm5_init l Z a0 hw b13 b2_0 b8_0 h13 n0 O16 (A13) ((D13 (Or.inr (W 40 rfl)) (ty := (.object "java/lang/String")) (by decide) : FA39 Z h13 b13 .null)) (g21) ((D13 (Or.inr (W 42 rfl)) (ty := (.object "java/lang/String")) (by decide) : FA40 Z h13 b13 .null))) e13 (hb hby at_82) 1 #[iv p1, iv p2, iv p3, iv p4, iv p5, iv (2 : Int32), .val o0, iv c0, iv c1, iv d0, iv d1, rv b2_0, rv b8_0, .unset] b13 [(.ref b2_0), (.ref b8_0)] [(.ref b13)] pd_56
  obtain ⟨rfl, N18q, K18, F18_0, F18_1⟩ := hQ18
  have N22 := Fr.app N9 N18q
  have s23 := Safe.exa (EL := consts_1) hZ8.alike A13 (by decide) (by decide)
  have c24 := CHr.keep K18 (sfS s23 sf0) c14.1
  have C25 := CHr.trans C15 c24
  have O26 := O16.keep K18 (allS g21 all0)
  have K27 : Keep h0 T18.heap [] := Keep.trans K17 K18 (allS (Or.inr (Nat.le_trans z20 (Nat.le_of_eq g13.symm))) all0)
  have f29 := (((F2_0.keep K8).ext E13).keep K18)
  have z30 : T2.heap.size ≤ T8.heap.size := K8.1
  have f31 := (((F2_1.keep K8 nin0).ext E13).keep K18 (ninS (Nat.ne_of_lt (Nat.lt_of_lt_of_le (Nat.lt_of_lt_of_le F2_0.lt z30) (Nat.le_of_eq g13.symm))) nin0))
  have f32 := (((F2_3.keep K8 nin0).ext E13).keep K18 (ninS (Nat.ne_of_lt (Nat.lt_of_lt_of_le (Nat.lt_of_lt_of_le F2_3.lt z30) (Nat.le_of_eq g13.symm))) nin0))
  have z33 : h13.size ≤ T18.heap.size := K18.1
  have f34 := (((F2_2.keep K8 nin0).ext E13).keep K18 (ninS (Nat.ne_of_lt (Nat.lt_of_lt_of_le (Nat.lt_of_lt_of_le F2_0.lt z30) (Nat.le_of_eq g13.symm))) nin0))
  have z35 : T2.heap.size ≤ h13.size := (Nat.le_trans z30 E13.1)
  have z36 : T2.heap.size ≤ T18.heap.size := (Nat.le_trans z35 K18.1)
  have f37 := ((F8_0.ext E13).keep K18)
  have f38 := ((F8_1.ext E13).keep K18 (ninS (Nat.ne_of_lt (Nat.lt_of_lt_of_le F8_0.lt (Nat.le_of_eq g13.symm))) nin0))
  have f39 := ((F8_3.ext E13).keep K18 (ninS (Nat.ne_of_lt (Nat.lt_of_lt_of_le F8_3.lt (Nat.le_of_eq g13.symm))) nin0))
  have f40 := ((F8_2.ext E13).keep K18 (ninS (Nat.ne_of_lt (Nat.lt_of_lt_of_le F8_0.lt (Nat.le_of_eq g13.symm))) nin0))
  have z41 : T8.heap.size ≤ h13.size := E13.1
  have z42 : T8.heap.size ≤ T18.heap.size := (Nat.le_trans z41 K18.1)
  have f43 := (A13.keep K18)
  obtain ⟨cq28, kq28, q28a, q28b, q28c⟩ := isOf hZ8 rfl f43
  obtain ⟨_, _, ⟨T28, L28, k28, n28⟩, -, Y28, hs28, hg28, ⟨Lc28, hQ28, l28, y28, z28, c28⟩, st28⟩ := X18.virtualBackS hx (y := MY6) (z := MY6) hown8 (mvT hZ8 (W 43 rfl)) (mvT hZ8 (W 44 rfl)) (notFace_of_selects (args := #[]) (mvT hZ8 (W 46 rfl))) (mvT hZ8 (W 46 rfl)) (mvT hZ8 (W 45 rfl)) (by decide) (own_backH (s := s) (vm0 := T8.vm) (W := 0) (rm110_toString l Z a0 hw b13 b2_0 b2_1 k2_0 (c0.toInt8.toInt32) (c1.toInt8.toInt32) o_COMPACT_STRINGS b8_0 b8_1 k8_0 T18.heap n0 O26 (F18_0) (f29) (f31) (f32) (S_o_COMPACT_STRINGS) (nz_o_COMPACT_STRINGS) ((Nat.lt_of_lt_of_le A13.lt z33)) (f34) ((Nat.lt_of_lt_of_le F2_0.lt z36)) ((Nat.lt_of_lt_of_le F2_3.lt z36)) (F18_1) (f37) (f38) (f39) (f40) ((Nat.lt_of_lt_of_le F8_0.lt z42)) ((Nat.lt_of_lt_of_le F8_3.lt z42))) hZ8 (W 47 rfl) (W 29 rfl) (by decide) (by decide) (own_ew_21 hw) c24.1 own_sf0) q28a q28c (g := (mkF m 85 #[iv p1, iv p2, iv p3, iv p4, iv p5, iv (2 : Int32), .val o0, iv c0, iv c1, iv d0, iv d1, rv b2_0, rv b8_0, .unset] [(.ref b13)])) rfl (by rw [hml]; rfl) (Steps.refl _) (argsL := []) (rest := []) (lenOf pd_73 rfl) rfl (by show 2 * 0 + _ ≤ _; exact Nat.le_of_eq rfl) (hb hby at_85) (fun _ _ => ⟨rfl, rfl, (by decide : 10 + 6 ≤ _), (by decide : 22 + 40 ≤ _)⟩)
  dsimp only [Pt.U, Pt.locs, Pt.cells, Pt.slots] at Y28 l28 y28 z28 st28 hQ28 hs28 hg28 c28
  subst l28 y28 z28
  obtain ⟨X28, hS28, hZ28, hown28⟩ := rebS (s := s) (vm0 := T8.vm) hS8 (Nat.le_trans (Nat.le_refl _) z42) Y28 hs28 hg28 hZ8 hown8
  obtain ⟨b28_0, b28_1, k28_0, rfl, N28q, K28, gb28_0, gb28_1, F28_0, F28_1, F28_2, F28_3, F28_4⟩ := hQ28
  have N44 := Fr.app N22 N28q
  have C45 := CHr.trans C25 c28
  have O46 := O26.keep K28 all0
  have K47 : Keep h0 T28.heap [] := Keep.trans K27 K28 all0
  obtain ⟨_, T48, L48, X48, hQ48, st48⟩ := own_cv X28 hx hZ28 hown28 hml (W 180 rfl) (W 98 rfl) (notFace_of_selects (W 100 rfl)) (W 100 rfl) (W 99 rfl) (W 7 rfl) (W 101 rfl) (rm25_length l Z a0 hw b28_0 b28_1 k28_0 (4 : Int32) [(.int (c0.toInt8.toInt32)), (.int (c1.toInt8.toInt32)), (.int (58 : Int32)), (.int (32 : Int32))] o_COMPACT_STRINGS T28.heap n0 O46 (F28_1) (F28_3) (F28_0) (S_o_COMPACT_STRINGS) (nz_o_COMPACT_STRINGS) (F28_2) ((by decide))) rfl F28_0 (hb hby at_112) 0 #[iv p1, iv p2, iv p3, iv p4, iv p5, iv (2 : Int32), .val o0, iv c0, iv c1, iv d0, iv d1, rv b2_0, rv b8_0, rv b28_0] [] [] pd_234
  obtain ⟨rfl, N48q, K48⟩ := hQ48
  have N49 := Fr.app N44 N48q
  obtain ⟨_, T50, L50, X50, hQ50, st50⟩ := own_cv X48 hx hZ28 hown28 hml (W 181 rfl) (W 182 rfl) (notFace_of_selects (W 184 rfl)) (W 184 rfl) (W 183 rfl) (W 7 rfl) (W 185 rfl) (rm58_charAt l Z a0 hw b28_0 (0 : Int32) o_COMPACT_STRINGS b28_1 k28_0 (4 : Int32) [(.int (c0.toInt8.toInt32)), (.int (c1.toInt8.toInt32)), (.int (58 : Int32)), (.int (32 : Int32))] o_SIOOBE_FORMATTER (c0.toInt8.toInt32) c0 T28.heap n0 O46 (F28_0) (S_o_COMPACT_STRINGS) (nz_o_COMPACT_STRINGS) (F28_2) (F28_1) (F28_3) (S_o_SIOOBE_FORMATTER) ((by decide : ¬ ((0 : Int32) < (0 : Int32)))) ((by decide : (0 : Int32) < (4 : Int32))) (rfl) (b_c0) (i_c0) (ir_o_SIOOBE_FORMATTER) (i_c0)) K48 F28_0 (hb hby at_130) 0 #[iv p1, iv p2, iv p3, iv p4, iv p5, iv (2 : Int32), .val o0, iv c0, iv c1, iv d0, iv d1, rv b2_0, rv b8_0, rv b28_0] [o0] [] pd_476
  obtain ⟨rfl, N50q, K50⟩ := hQ50
  have N51 := Fr.app N49 N50q
  obtain ⟨_, T52, L52, X52, hQ52, st52⟩ := own_cv X50 hx hZ28 hown28 hml (W 181 rfl) (W 182 rfl) (notFace_of_selects (W 184 rfl)) (W 184 rfl) (W 183 rfl) (W 7 rfl) (W 185 rfl) (rm58_charAt l Z a0 hw b28_0 (1 : Int32) o_COMPACT_STRINGS b28_1 k28_0 (4 : Int32) [(.int (c0.toInt8.toInt32)), (.int (c1.toInt8.toInt32)), (.int (58 : Int32)), (.int (32 : Int32))] o_SIOOBE_FORMATTER (c1.toInt8.toInt32) c1 T28.heap n0 O46 (F28_0) (S_o_COMPACT_STRINGS) (nz_o_COMPACT_STRINGS) (F28_2) (F28_1) (F28_3) (S_o_SIOOBE_FORMATTER) ((by decide : ¬ ((1 : Int32) < (0 : Int32)))) ((by decide : (1 : Int32) < (4 : Int32))) (rfl) (b_c1) (i_c1) (ir_o_SIOOBE_FORMATTER) (i_c1)) K50 F28_0 (hb hby at_149) 0 #[iv p1, iv p2, iv p3, iv p4, iv p5, iv (2 : Int32), .val o0, iv c0, iv c1, iv d0, iv d1, rv b2_0, rv b8_0, rv b28_0] [(.int (1 : Int32))] [] pd_476
  obtain ⟨rfl, N52q, K52⟩ := hQ52
  have N53 := Fr.app N51 N52q
  obtain ⟨_, T54, L54, X54, hQ54, st54⟩ := own_cv X52 hx hZ28 hown28 hml (W 181 rfl) (W 182 rfl) (notFace_of_selects (W 184 rfl)) (W 184 rfl) (W 183 rfl) (W 7 rfl) (W 185 rfl) (rm60_charAt l Z a0 hw b28_0 (2 : Int32) o_COMPACT_STRINGS b28_1 k28_0 (4 : Int32) [(.int (c0.toInt8.toInt32)), (.int (c1.toInt8.toInt32)), (.int (58 : Int32)), (.int (32 : Int32))] o_SIOOBE_FORMATTER (58 : Int32) T28.heap n0 O46 (F28_0) (S_o_COMPACT_STRINGS) (nz_o_COMPACT_STRINGS) (F28_2) (F28_1) (F28_3) (S_o_SIOOBE_FORMATTER) ((by decide : ¬ ((2 : Int32) < (0 : Int32)))) ((by decide : (2 : Int32) < (4 : Int32))) (rfl) ((by decide)) ((by decide)) (ir_o_SIOOBE_FORMATTER) ((by decide))) K52 F28_0 (hb hby at_163) 0 #[iv p1, iv p2, iv p3, iv p4, iv p5, iv (2 : Int32), .val o0, iv c0, iv c1, iv d0, iv d1, rv b2_0, rv b8_0, rv b28_0] [(.int (2 : Int32))] [] pd_476
  obtain ⟨rfl, N54q, K54⟩ := hQ54
  have N55 := Fr.app N53 N54q
  obtain ⟨_, T56, L56, X56, hQ56, st56⟩ := own_cv X54 hx hZ28 hown28 hml (W 181 rfl) (W 182 rfl) (notFace_of_selects (W 184 rfl)) (W 184 rfl) (W 183 rfl) (W 7 rfl) (W 185 rfl) (rm60_charAt l Z a0 hw b28_0 (3 : Int32) o_COMPACT_STRINGS b28_1 k28_0 (4 : Int32) [(.int (c0.toInt8.toInt32)), (.int (c1.toInt8.toInt32)), (.int (58 : Int32)), (.int (32 : Int32))] o_SIOOBE_FORMATTER (32 : Int32) T28.heap n0 O46 (F28_0) (S_o_COMPACT_STRINGS) (nz_o_COMPACT_STRINGS) (F28_2) (F28_1) (F28_3) (S_o_SIOOBE_FORMATTER) ((by decide : ¬ ((3 : Int32) < (0 : Int32)))) ((by decide : (3 : Int32) < (4 : Int32))) (rfl) ((by decide)) ((by decide)) (ir_o_SIOOBE_FORMATTER) ((by decide))) K54 F28_0 (hb hby at_179) 0 #[iv p1, iv p2, iv p3, iv p4, iv p5, iv (2 : Int32), .val o0, iv c0, iv c1, iv d0, iv d1, rv b2_0, rv b8_0, rv b28_0] [(.int (3 : Int32))] [] pd_476
  obtain ⟨rfl, N56q, K56⟩ := hQ56
  have N57 := Fr.app N55 N56q
  refine ⟨T56, some (.int (1 : Int32)), _, _, _, T28.vm, _, X56, hS28, (by rw [K56]; exact (Nat.le_refl _)), by decide, by decide, nofun, ?_, own_che K56 (CHr.trans C45 (CHv.at (s := s) X56 hZ28 (own_ew_21 hw) c28.1)), fun fs hr => castTop (ef_81 m p1 p2 p3 p4 p5) ?_⟩
  · exact ⟨rfl, N57⟩
  · show SS p e below s₁ m 0 #[iv p1, iv p2, iv p3, iv p4, iv p5, .unset, .unset, .unset, .unset, .unset, .unset, .unset, .unset, .unset] [] _
    refine XS.iloadN X1.here hx rfl (hb hby at_0) rfl ?_
    refine X1.ldcInt hx hown (mvT hZ (W 0 rfl)) (g := (mkF m 1 #[iv p1, iv p2, iv p3, iv p4, iv p5, .unset, .unset, .unset, .unset, .unset, .unset, .unset, .unset, .unset] [(.int p1)])) rfl (hb hby at_1) _ ?_
    show SS p e below s₁ m 3 #[iv p1, iv p2, iv p3, iv p4, iv p5, .unset, .unset, .unset, .unset, .unset, .unset, .unset, .unset, .unset] [(.int (2147483647 : Int32)), (.int p1)] _
    refine XS.iand X1.here hx rfl (hb hby at_3) rfl ?_
    show SS p e below s₁ m 4 #[iv p1, iv p2, iv p3, iv p4, iv p5, .unset, .unset, .unset, .unset, .unset, .unset, .unset, .unset, .unset] [(.int (p1 &&& (2147483647 : Int32)))] _
    refine XS.iconst X1.here hx rfl (hb hby at_4) ?_
    refine iremM (g := (mkF m 5 #[iv p1, iv p2, iv p3, iv p4, iv p5, .unset, .unset, .unset, .unset, .unset, .unset, .unset, .unset, .unset] [(.int (3 : Int32)), (.int (p1 &&& (2147483647 : Int32)))])) X1 hx rfl (hb hby at_5) rfl (by decide : ¬ ((3 : Int32) = (0 : Int32))) ?_
    rw [hpl]
    show SS p e below s₁ m 6 #[iv p1, iv p2, iv p3, iv p4, iv p5, .unset, .unset, .unset, .unset, .unset, .unset, .unset, .unset, .unset] [(.int (2 : Int32))] _
    refine XS.istore X1.here hx rfl (hb hby at_6) rfl (l' := #[iv p1, iv p2, iv p3, iv p4, iv p5, iv (2 : Int32), .unset, .unset, .unset, .unset, .unset, .unset, .unset, .unset]) rfl ?_
    refine XS.iloadN X1.here hx rfl (hb hby at_8) rfl ?_
    refine XS.bipush X1.here hx rfl (hb hby at_9) ?_
    show SS p e below s₁ m 11 #[iv p1, iv p2, iv p3, iv p4, iv p5, iv (2 : Int32), .unset, .unset, .unset, .unset, .unset, .unset, .unset, .unset] [(.int (8 : Int32)), (.int p1)] _
    refine XS.iushr X1.here hx rfl (hb hby at_11) rfl ?_
    show SS p e below s₁ m 12 #[iv p1, iv p2, iv p3, iv p4, iv p5, iv (2 : Int32), .unset, .unset, .unset, .unset, .unset, .unset, .unset, .unset] [(.int ((p1.toUInt32 >>> ((8 : Int32) &&& 31).toUInt32).toInt32))] _
    refine X1.ldcInt hx hown (mvT hZ (W 0 rfl)) (g := (mkF m 12 #[iv p1, iv p2, iv p3, iv p4, iv p5, iv (2 : Int32), .unset, .unset, .unset, .unset, .unset, .unset, .unset, .unset] [(.int ((p1.toUInt32 >>> ((8 : Int32) &&& 31).toUInt32).toInt32))])) rfl (hb hby at_12) _ ?_
    refine XS.iand X1.here hx rfl (hb hby at_14) rfl ?_
    show SS p e below s₁ m 15 #[iv p1, iv p2, iv p3, iv p4, iv p5, iv (2 : Int32), .unset, .unset, .unset, .unset, .unset, .unset, .unset, .unset] [(.int (((p1.toUInt32 >>> ((8 : Int32) &&& 31).toUInt32).toInt32) &&& (2147483647 : Int32)))] _
    refine XS.iconst X1.here hx rfl (hb hby at_15) ?_
    refine iremM (g := (mkF m 16 #[iv p1, iv p2, iv p3, iv p4, iv p5, iv (2 : Int32), .unset, .unset, .unset, .unset, .unset, .unset, .unset, .unset] [(.int (3 : Int32)), (.int (((p1.toUInt32 >>> ((8 : Int32) &&& 31).toUInt32).toInt32) &&& (2147483647 : Int32)))])) X1 hx rfl (hb hby at_16) rfl (by decide : ¬ ((3 : Int32) = (0 : Int32))) ?_
    rw [hml_]
    show SS p e below s₁ m 17 #[iv p1, iv p2, iv p3, iv p4, iv p5, iv (2 : Int32), .unset, .unset, .unset, .unset, .unset, .unset, .unset, .unset] [o0] _
    refine XS.istore X1.here hx rfl (hb hby at_17) rfl (l' := #[iv p1, iv p2, iv p3, iv p4, iv p5, iv (2 : Int32), .val o0, .unset, .unset, .unset, .unset, .unset, .unset, .unset]) rfl ?_
    refine XS.iloadN X1.here hx rfl (hb hby at_19) rfl ?_
    refine XS.sipush X1.here hx rfl (hb hby at_20) ?_
    show SS p e below s₁ m 23 #[iv p1, iv p2, iv p3, iv p4, iv p5, iv (2 : Int32), .val o0, .unset, .unset, .unset, .unset, .unset, .unset, .unset] [(.int (255 : Int32)), (.int p2)] _
    refine XS.iand X1.here hx rfl (hb hby at_23) rfl ?_
    show SS p e below s₁ m 24 #[iv p1, iv p2, iv p3, iv p4, iv p5, iv (2 : Int32), .val o0, .unset, .unset, .unset, .unset, .unset, .unset, .unset] [(.int (p2 &&& (255 : Int32)))] _
    refine XS.i2c X1.here hx rfl (hb hby at_24) rfl ?_
    rw [h_c0]
    show SS p e below s₁ m 25 #[iv p1, iv p2, iv p3, iv p4, iv p5, iv (2 : Int32), .val o0, .unset, .unset, .unset, .unset, .unset, .unset, .unset] [(.int c0)] _
    refine XS.istore X1.here hx rfl (hb hby at_25) rfl (l' := #[iv p1, iv p2, iv p3, iv p4, iv p5, iv (2 : Int32), .val o0, iv c0, .unset, .unset, .unset, .unset, .unset, .unset]) rfl ?_
    refine XS.iloadN X1.here hx rfl (hb hby at_27) rfl ?_
    refine XS.sipush X1.here hx rfl (hb hby at_28) ?_
    show SS p e below s₁ m 31 #[iv p1, iv p2, iv p3, iv p4, iv p5, iv (2 : Int32), .val o0, iv c0, .unset, .unset, .unset, .unset, .unset, .unset] [(.int (255 : Int32)), (.int p3)] _
    refine XS.iand X1.here hx rfl (hb hby at_31) rfl ?_
    show SS p e below s₁ m 32 #[iv p1, iv p2, iv p3, iv p4, iv p5, iv (2 : Int32), .val o0, iv c0, .unset, .unset, .unset, .unset, .unset, .unset] [(.int (p3 &&& (255 : Int32)))] _
    refine XS.i2c X1.here hx rfl (hb hby at_32) rfl ?_
    rw [h_c1]
    show SS p e below s₁ m 33 #[iv p1, iv p2, iv p3, iv p4, iv p5, iv (2 : Int32), .val o0, iv c0, .unset, .unset, .unset, .unset, .unset, .unset] [(.int c1)] _
    refine XS.istore X1.here hx rfl (hb hby at_33) rfl (l' := #[iv p1, iv p2, iv p3, iv p4, iv p5, iv (2 : Int32), .val o0, iv c0, iv c1, .unset, .unset, .unset, .unset, .unset]) rfl ?_
    refine XS.iloadN X1.here hx rfl (hb hby at_35) rfl ?_
    refine XS.sipush X1.here hx rfl (hb hby at_36) ?_
    show SS p e below s₁ m 39 #[iv p1, iv p2, iv p3, iv p4, iv p5, iv (2 : Int32), .val o0, iv c0, iv c1, .unset, .unset, .unset, .unset, .unset] [(.int (255 : Int32)), (.int p4)] _
    refine XS.iand X1.here hx rfl (hb hby at_39) rfl ?_
    show SS p e below s₁ m 40 #[iv p1, iv p2, iv p3, iv p4, iv p5, iv (2 : Int32), .val o0, iv c0, iv c1, .unset, .unset, .unset, .unset, .unset] [(.int (p4 &&& (255 : Int32)))] _
    refine XS.i2c X1.here hx rfl (hb hby at_40) rfl ?_
    rw [h_d0]
    show SS p e below s₁ m 41 #[iv p1, iv p2, iv p3, iv p4, iv p5, iv (2 : Int32), .val o0, iv c0, iv c1, .unset, .unset, .unset, .unset, .unset] [(.int d0)] _
    refine XS.istore X1.here hx rfl (hb hby at_41) rfl (l' := #[iv p1, iv p2, iv p3, iv p4, iv p5, iv (2 : Int32), .val o0, iv c0, iv c1, iv d0, .unset, .unset, .unset, .unset]) rfl ?_
    refine XS.iload X1.here hx rfl (hb hby at_43) rfl ?_
    refine XS.sipush X1.here hx rfl (hb hby at_45) ?_
    show SS p e below s₁ m 48 #[iv p1, iv p2, iv p3, iv p4, iv p5, iv (2 : Int32), .val o0, iv c0, iv c1, iv d0, .unset, .unset, .unset, .unset] [(.int (255 : Int32)), (.int p5)] _
    refine XS.iand X1.here hx rfl (hb hby at_48) rfl ?_
    show SS p e below s₁ m 49 #[iv p1, iv p2, iv p3, iv p4, iv p5, iv (2 : Int32), .val o0, iv c0, iv c1, iv d0, .unset, .unset, .unset, .unset] [(.int (p5 &&& (255 : Int32)))] _
    refine XS.i2c X1.here hx rfl (hb hby at_49) rfl ?_
    rw [h_d1]
    show SS p e below s₁ m 50 #[iv p1, iv p2, iv p3, iv p4, iv p5, iv (2 : Int32), .val o0, iv c0, iv c1, iv d0, .unset, .unset, .unset, .unset] [(.int d1)] _
    refine XS.istore X1.here hx rfl (hb hby at_50) rfl (l' := #[iv p1, iv p2, iv p3, iv p4, iv p5, iv (2 : Int32), .val o0, iv c0, iv c1, iv d0, iv d1, .unset, .unset, .unset]) rfl ?_
    refine XS.iload X1.here hx rfl (hb hby at_52) rfl ?_
    refine XS.iload X1.here hx rfl (hb hby at_54) rfl ?_
    refine XS.iload X1.here hx rfl (hb hby at_56) rfl ?_
    refine st2 _ ?_
    refine XS.astore X2.here hx rfl (hb hby at_61) rfl rfl (l' := #[iv p1, iv p2, iv p3, iv p4, iv p5, iv (2 : Int32), .val o0, iv c0, iv c1, iv d0, iv d1, rv b2_0, .unset, .unset]) rfl ?_
    refine XS.iload X2.here hx rfl (hb hby at_63) rfl ?_
    refine XS.iload X2.here hx rfl (hb hby at_65) rfl ?_
    refine XS.iload X2.here hx rfl (hb hby at_67) rfl ?_
    refine st8.trans ?_
    show SS p e below T8 m 72 #[iv p1, iv p2, iv p3, iv p4, iv p5, iv (2 : Int32), .val o0, iv c0, iv c1, iv d0, iv d1, rv b2_0, .unset, .unset] [(.ref b8_0)] _
    refine XS.astore X8.here hx rfl (hb hby at_72) rfl rfl (l' := #[iv p1, iv p2, iv p3, iv p4, iv p5, iv (2 : Int32), .val o0, iv c0, iv c1, iv d0, iv d1, rv b2_0, rv b8_0, .unset]) rfl ?_
    refine st13 _ ?_
    refine XS.dup X13.here hx rfl (hb hby at_77) rfl rfl ?_
    refine XS.aload X13.here hx rfl (hb hby at_78) rfl rfl ?_
    refine XS.aload X13.here hx rfl (hb hby at_80) rfl rfl ?_
    refine st18 _ ?_
    refine st28.trans ?_
    refine XS.astore X28.here hx rfl (hb hby at_88) rfl rfl (l' := #[iv p1, iv p2, iv p3, iv p4, iv p5, iv (2 : Int32), .val o0, iv c0, iv c1, iv d0, iv d1, rv b2_0, rv b8_0, rv b28_0]) rfl ?_
    refine XS.aload X28.here hx rfl (hb hby at_90) rfl rfl ?_
    refine XS.ifnonnullYes X28.here hx rfl (pc0 := 92) (pc' := 97) rfl (hb hby at_92) rfl (by decide) (by decide) ?_
    show SS p e below T28 m 97 #[iv p1, iv p2, iv p3, iv p4, iv p5, iv (2 : Int32), .val o0, iv c0, iv c1, iv d0, iv d1, rv b2_0, rv b8_0, rv b28_0] [] _
    refine XS.iload X28.here hx rfl (hb hby at_97) rfl ?_
    refine XS.ifYes X28.here hx rfl (pc0 := 99) (pc' := 110) rfl (hb hby at_99) rfl ((if0 _ _).trans (feq (by decide : ¬ ((2 : Int32) = (0 : Int32)))).2) (by decide) (by decide) ?_
    refine XS.aload X28.here hx rfl (hb hby at_110) rfl rfl ?_
    refine st48 _ ?_
    refine XS.iload X48.here hx rfl (hb hby at_115) rfl ?_
    refine XS.iconst X48.here hx rfl (hb hby at_117) ?_
    refine XS.iadd X48.here hx rfl (hb hby at_118) rfl ?_
    show SS p e below T48 m 119 #[iv p1, iv p2, iv p3, iv p4, iv p5, iv (2 : Int32), .val o0, iv c0, iv c1, iv d0, iv d1, rv b2_0, rv b8_0, rv b28_0] [(.int (4 : Int32)), (.int (4 : Int32))] _
    refine XS.iload X48.here hx rfl (hb hby at_119) rfl ?_
    refine XS.iadd X48.here hx rfl (hb hby at_121) rfl ?_
    show SS p e below T48 m 122 #[iv p1, iv p2, iv p3, iv p4, iv p5, iv (2 : Int32), .val o0, iv c0, iv c1, iv d0, iv d1, rv b2_0, rv b8_0, rv b28_0] [(.int (4 : Int32)), (.int (4 : Int32))] _
    refine XS.icmpYes X48.here hx rfl (pc0 := 122) (pc' := 127) rfl (hb hby at_122) rfl (teq (by decide : (4 : Int32) = (4 : Int32))).1 (by decide) (by decide) ?_
    refine XS.aload X48.here hx rfl (hb hby at_127) rfl rfl ?_
    refine XS.iconst X48.here hx rfl (hb hby at_129) ?_
    refine st50 _ ?_
    refine XS.iload X50.here hx rfl (hb hby at_133) rfl ?_
    refine XS.icmpYes X50.here hx rfl (pc0 := 135) (pc' := 140) rfl (hb hby at_135) rfl (teq (rfl : c0 = c0)).1 (by decide) (by decide) ?_
    refine XS.iload X50.here hx rfl (hb hby at_140) rfl ?_
    refine XS.iconst X50.here hx rfl (hb hby at_142) ?_
    refine XS.icmpNo X50.here hx rfl (hb hby at_143) rfl (teq (by decide : (2 : Int32) = (2 : Int32))).2 ?_
    refine XS.aload X50.here hx rfl (hb hby at_146) rfl rfl ?_
    show SS p e below T50 m 148 #[iv p1, iv p2, iv p3, iv p4, iv p5, iv (2 : Int32), .val o0, iv c0, iv c1, iv d0, iv d1, rv b2_0, rv b8_0, rv b28_0] [(.ref b28_0)] _
    refine XS.iconst X50.here hx rfl (hb hby at_148) ?_
    refine st52 _ ?_
    refine XS.iload X52.here hx rfl (hb hby at_152) rfl ?_
    refine XS.icmpYes X52.here hx rfl (pc0 := 154) (pc' := 159) rfl (hb hby at_154) rfl (teq (rfl : c1 = c1)).1 (by decide) (by decide) ?_
    refine XS.aload X52.here hx rfl (hb hby at_159) rfl rfl ?_
    refine XS.iload X52.here hx rfl (hb hby at_161) rfl ?_
    refine st54 _ ?_
    refine XS.bipush X54.here hx rfl (hb hby at_166) ?_
    refine XS.icmpYes X54.here hx rfl (pc0 := 168) (pc' := 173) rfl (hb hby at_168) rfl (teq (by decide : (58 : Int32) = (58 : Int32))).1 (by decide) (by decide) ?_
    refine XS.aload X54.here hx rfl (hb hby at_173) rfl rfl ?_
    show SS p e below T54 m 175 #[iv p1, iv p2, iv p3, iv p4, iv p5, iv (2 : Int32), .val o0, iv c0, iv c1, iv d0, iv d1, rv b2_0, rv b8_0, rv b28_0] [(.ref b28_0)] _
    refine XS.iload X54.here hx rfl (hb hby at_175) rfl ?_
    refine XS.iconst X54.here hx rfl (hb hby at_177) ?_
    refine XS.iadd X54.here hx rfl (hb hby at_178) rfl ?_
    show SS p e below T54 m 179 #[iv p1, iv p2, iv p3, iv p4, iv p5, iv (2 : Int32), .val o0, iv c0, iv c1, iv d0, iv d1, rv b2_0, rv b8_0, rv b28_0] [(.int (3 : Int32)), (.ref b28_0)] _
    refine st56 _ ?_
    refine XS.bipush X56.here hx rfl (hb hby at_182) ?_
    refine XS.icmpYes X56.here hx rfl (pc0 := 184) (pc' := 189) rfl (hb hby at_184) rfl (teq (by decide : (32 : Int32) = (32 : Int32))).1 (by decide) (by decide) ?_
    refine XS.iload X56.here hx rfl (hb hby at_189) rfl ?_
    refine XS.iconst X56.here hx rfl (hb hby at_191) ?_
    refine XS.icmpYes X56.here hx rfl (pc0 := 192) (pc' := 211) rfl (hb hby at_192) rfl (tlt (by decide : (0 : Int32) < (1 : Int32))).1 (by decide) (by decide) ?_
    refine XS.iload X56.here hx rfl (hb hby at_211) rfl ?_
    refine XS.iconst X56.here hx rfl (hb hby at_213) ?_
    refine XS.icmpYes X56.here hx rfl (pc0 := 214) (pc' := 233) rfl (hb hby at_214) rfl (feq (by decide : ¬ ((0 : Int32) = (2 : Int32)))).2 (by decide) (by decide) ?_
    refine XS.iconst X56.here hx rfl (hb hby at_233) ?_
    show SS p e below T56 m 234 #[iv p1, iv p2, iv p3, iv p4, iv p5, iv (2 : Int32), .val o0, iv c0, iv c1, iv d0, iv d1, rv b2_0, rv b8_0, rv b28_0] [(.int (1 : Int32))] _
    exact retN X56 hx (t := .boolean) hret (by simp) (hb hby at_234) hr
def Q111_ensureCapacityInternal (Z : State) (a1 : Addr) (a2 : Addr) (k3 : ClassId) (p4 : Int32) (p5 : Int32) (h0 : Heap) (n0 : Nat) (v : Option Value) (h : Heap) (L : List Loc) : Prop := v = none ∧ Fr n0 L ∧ h = h0
theorem rm111_ensureCapacityInternal (l : Launch) (Z : State) (a0 : Array Value) (hw : HW Z a0) (a1 : Addr) (a2 : Addr) (k3 : ClassId) (p4 : Int32) (p5 : Int32) (h0 : Heap) (n0 : Nat) (O0 : Old Z n0 h0) (F_0 : FA41 Z h0 a1 (.ref a2)) (F_1 : Arv Z h0 a2 k3 .byte (16 : Int32) [(.int p4), (.int p5), (.int (58 : Int32)), (.int (32 : Int32)), o0, o0, o0, o0, o0, o0, o0, o0, o0, o0, o0, o0] o0) (F_2 : FA42 Z h0 a1 o0) :
    Met l Z [] MY15 jdk_68_method_9_code 3 none ({ frames := 0, cells := 0, slots := 0, locals := 0 } : Room) #[(.ref a1), (.int (5 : Int32))] h0 (Q111_ensureCapacityInternal Z a1 a2 k3 p4 p5 h0 n0) := by
  have W := @own_W _ _ hw
  refine own_mk (plainFor_of_name pn_206) ?_
  intro p e s m below meth c s₁ hZ hx hby hml hown hnm hret hlk X0 e0
  have N0 := Fr.nil n0
  obtain ⟨T1, X1, e1, st1⟩ := getF X0 hx hZ hown (host := "") (Or.inl (W 83 rfl)) Via.refl e0 F_0 (g := (mkF m 1 #[rv a1, iv (5 : Int32), .unset] [(.ref a1)])) rfl rfl (hb hby d_243)
  obtain ⟨c2, A2, q2, S2, N2, H2, G2⟩ := id F_1
  obtain ⟨T3, X3, e3, st3⟩ := getF X1 hx hZ hown (host := "") (Or.inl (W 85 rfl)) Via.refl e1 F_2 (g := (mkF m 6 #[rv a1, iv (5 : Int32), .unset] [(.ref a1), (.int (16 : Int32))])) rfl rfl (hb hby d_246)
  refine ⟨T3, none, _, _, _, X3, by decide, by decide, (fun _ => rfl), ?_, fun fs hr => castTop (ef_481 m a1) ?_⟩
  · show Q111_ensureCapacityInternal Z a1 a2 k3 p4 p5 h0 n0 _ T3.heap _
    rw [e3]
    exact ⟨rfl, N0, rfl⟩
  · show SS p e below s₁ m 0 #[rv a1, iv (5 : Int32), .unset] [] _
    refine XS.aloadN X0.here hx rfl (hb hby d_242) rfl rfl ?_
    refine st1 _ ?_
    refine X1.arraylength hx (by rw [e1]; exact A2.1) (State.isArrayOf_alike hZ.alike A2.2.1) (g := (mkF m 4 #[rv a1, iv (5 : Int32), .unset] [(.ref a2)])) rfl rfl (hb hby d_244) _ ?_
    rw [len_of S2 N2]
    refine XS.aloadN X1.here hx rfl (hb hby d_245) rfl rfl ?_
    refine st3 _ ?_
    refine XS.ishr X3.here hx rfl (hb hby d_247) rfl ?_
    show SS p e below T3 m 10 #[rv a1, iv (5 : Int32), .unset] [(.int (16 : Int32))] _
    refine XS.istoreN X3.here hx rfl (hb hby d_248) rfl (l' := #[rv a1, iv (5 : Int32), iv (16 : Int32)]) rfl ?_
    refine XS.iloadN X3.here hx rfl (hb hby d_249) rfl ?_
    refine XS.iloadN X3.here hx rfl (hb hby d_250) rfl ?_
    refine XS.isub X3.here hx rfl (hb hby d_251) rfl ?_
    show SS p e below T3 m 14 #[rv a1, iv (5 : Int32), iv (16 : Int32)] [(.int (-11 : Int32))] _
    refine XS.ifYes X3.here hx rfl (pc0 := 14) (pc' := 38) rfl (hb hby d_252) rfl ((if0 _ _).trans (flt (by decide : ¬ ((0 : Int32) < (-11 : Int32)))).2.2.2) (by decide) (by decide) ?_
    exact X3.returnOut hx hret (hb hby d_253) hr
def Q112_getBytes (Z : State) (a1 : Addr) (a2 : Addr) (p3 : Int32) (a4 : Addr) (k5 : ClassId) (p6 : Int32) (k7 : ClassId) (p8 : Int32) (p9 : Int32) (h0 : Heap) (n0 : Nat) (v : Option Value) (h : Heap) (L : List Loc) : Prop := v = none ∧ Fr n0 L ∧ Keep h0 h [a2] ∧ Arv Z h a2 k7 .byte (16 : Int32) [(.int p8), (.int p9), (.int (58 : Int32)), (.int (32 : Int32)), (.int p6), o0, o0, o0, o0, o0, o0, o0, o0, o0, o0, o0] o0
theorem rm112_getBytes (l : Launch) (Z : State) (a0 : Array Value) (hw : HW Z a0) (a1 : Addr) (a2 : Addr) (p3 : Int32) (a4 : Addr) (k5 : ClassId) (p6 : Int32) (k7 : ClassId) (p8 : Int32) (p9 : Int32) (h0 : Heap) (n0 : Nat) (O0 : Old Z n0 h0) (F_0 : EA44 Z h0 a1) (S_1 : SA48 Z Z.heap (.int p3)) (hc_2 : ¬ (p3 = (0 : Int32))) (F_3 : FA38 Z h0 a1 o0) (F_4 : FA37 Z h0 a1 (.ref a4)) (F_5 : Arv Z h0 a4 k5 .byte (1 : Int32) [(.int p6)] o0) (F_6 : Arv Z h0 a2 k7 .byte (16 : Int32) [(.int p8), (.int p9), (.int (58 : Int32)), (.int (32 : Int32)), o0, o0, o0, o0, o0, o0, o0, o0, o0, o0, o0, o0] o0) (g_7 : n0 ≤ a2) :
    Met l Z [] MY17 jdk_42_method_147_code 4 none ({ frames := 1, cells := 0, slots := 0, locals := 27 } : Room) #[(.ref a1), (.ref a2), (.int (4 : Int32)), o0] h0 (Q112_getBytes Z a1 a2 p3 a4 k5 p6 k7 p8 p9 h0 n0) := by
  have W := @own_W _ _ hw
  refine own_mk (plainFor_of_name pn_30) ?_
  intro p e s m below meth c s₁ hZ hx hby hml hown hnm hret hlk X0 e0
  have N0 := Fr.nil n0
  obtain ⟨_, T1, L1, X1, hQ1, st1⟩ := own_cv X0 hx hZ hown hml (W 102 rfl) (W 103 rfl) (notFace_of_selects (W 105 rfl)) (W 105 rfl) (W 104 rfl) (W 7 rfl) (W 106 rfl) (rm24_coder l Z a0 hw a1 p3 h0 n0 O0 (S_1) (hc_2) (F_3)) e0 F_0 (hb hby d_280) 0 #[rv a1, rv a2, iv (4 : Int32), .val o0] [] [] pd_231
  obtain ⟨rfl, N1q, K1⟩ := hQ1
  have N2 := Fr.app N0 N1q
  obtain ⟨T3, X3, e3, st3⟩ := getF X1 hx hZ hown (host := "") (Or.inl (W 25 rfl)) Via.refl K1 F_4 (g := (mkF m 9 #[rv a1, rv a2, iv (4 : Int32), .val o0] [(.ref a1)])) rfl rfl (hb hby d_284)
  obtain ⟨T4, X4, e4, st4⟩ := getF X3 hx hZ hown (host := "") (Or.inl (W 25 rfl)) Via.refl e3 F_4 (g := (mkF m 18 #[rv a1, rv a2, iv (4 : Int32), .val o0] [(.ref a1), (.int (4 : Int32)), (.ref a2), o0, (.ref a4)])) rfl rfl (hb hby d_291)
  obtain ⟨c5, A5, q5, S5, N5, H5, G5⟩ := id F_5
  obtain ⟨T6, h6, Lc6, X6, e6, N6, K6, V6, st6⟩ := cpA X4 hx hZ hown (W 130 rfl) (W 133 rfl) (W 131 rfl) (W 132 rfl) e4 F_5 F_6 (Or.inl ⟨rfl, rfl⟩) (sp := (0 : Int32)) (dp := (4 : Int32)) (nn := (1 : Int32)) (by decide) (by decide) (by decide) (by decide) (by decide) (us := [(.int p6)]) rfl (Nat.le_of_ble_eq_true rfl) N2 g_7 (g := (mkF m 22 #[rv a1, rv a2, iv (4 : Int32), .val o0] [(.int (1 : Int32)), (.int (4 : Int32)), (.ref a2), o0, (.ref a4)])) rfl (by rw [hml]; rfl) rfl (hb hby d_293) (by decide) (W := 0) (by show 2 * 0 + _ ≤ _; exact Nat.le_of_eq rfl) (by decide)
  have O7 := O0.keep K6 (allS g_7 all0)
  have K8 : Keep h0 h6 [a2] := Keep.trans (Keep.refl h0 [a2]) K6 (allS (Or.inl (List.mem_of_getElem? (i := 0) rfl)) all0)
  have v9 : Arv Z h6 a2 k7 .byte (16 : Int32) [(.int p8), (.int p9), (.int (58 : Int32)), (.int (32 : Int32)), (.int p6), o0, o0, o0, o0, o0, o0, o0, o0, o0, o0, o0] o0 := V6
  refine ⟨T6, none, _, _, _, X6, by decide, by decide, (fun _ => rfl), ?_, fun fs hr => castTop (ef_488 m a1 a2) ?_⟩
  · show Q112_getBytes Z a1 a2 p3 a4 k5 p6 k7 p8 p9 h0 n0 _ T6.heap _
    rw [e6]
    exact ⟨rfl, N6, K8, v9⟩
  · show SS p e below s₁ m 0 #[rv a1, rv a2, iv (4 : Int32), .val o0] [] _
    refine XS.aloadN X0.here hx rfl (hb hby d_279) rfl rfl ?_
    refine st1 _ ?_
    refine XS.iloadN X1.here hx rfl (hb hby d_281) rfl ?_
    refine XS.icmpNo X1.here hx rfl (hb hby d_282) rfl (teq (by decide : (0 : Int32) = (0 : Int32))).2 ?_
    refine XS.aloadN X1.here hx rfl (hb hby d_283) rfl rfl ?_
    refine st3 _ ?_
    refine XS.iconst X3.here hx rfl (hb hby d_285) ?_
    refine XS.aloadN X3.here hx rfl (hb hby d_286) rfl rfl ?_
    refine XS.iloadN X3.here hx rfl (hb hby d_287) rfl ?_
    refine XS.iloadN X3.here hx rfl (hb hby d_288) rfl ?_
    show SS p e below T3 m 16 #[rv a1, rv a2, iv (4 : Int32), .val o0] [o0, (.int (4 : Int32)), (.ref a2), o0, (.ref a4)] _
    refine XS.ishl X3.here hx rfl (hb hby d_289) rfl ?_
    show SS p e below T3 m 17 #[rv a1, rv a2, iv (4 : Int32), .val o0] [(.int (4 : Int32)), (.ref a2), o0, (.ref a4)] _
    refine XS.aloadN X3.here hx rfl (hb hby d_290) rfl rfl ?_
    refine st4 _ ?_
    refine X4.arraylength hx (by rw [e4]; exact A5.1) (State.isArrayOf_alike hZ.alike A5.2.1) (g := (mkF m 21 #[rv a1, rv a2, iv (4 : Int32), .val o0] [(.ref a4), (.int (4 : Int32)), (.ref a2), o0, (.ref a4)])) rfl rfl (hb hby d_292) _ ?_
    rw [len_of S5 N5]
    refine st6 _ ?_
    refine XS.goto X6.here hx rfl (pc0 := 25) (pc' := 43) rfl (hb hby d_294) (by decide) (by decide) ?_
    exact X6.returnOut hx hret (hb hby d_295) hr
def Q113_putStringAt (Z : State) (a1 : Addr) (a2 : Addr) (p3 : Int32) (a4 : Addr) (a5 : Addr) (k6 : ClassId) (p7 : Int32) (k8 : ClassId) (p9 : Int32) (p10 : Int32) (h0 : Heap) (n0 : Nat) (v : Option Value) (h : Heap) (L : List Loc) : Prop := v = none ∧ Fr n0 L ∧ Keep h0 h [a4] ∧ Arv Z h a4 k8 .byte (16 : Int32) [(.int p9), (.int p10), (.int (58 : Int32)), (.int (32 : Int32)), (.int p7), o0, o0, o0, o0, o0, o0, o0, o0, o0, o0, o0] o0
theorem rm113_putStringAt (l : Launch) (Z : State) (a0 : Array Value) (hw : HW Z a0) (a1 : Addr) (a2 : Addr) (p3 : Int32) (a4 : Addr) (a5 : Addr) (k6 : ClassId) (p7 : Int32) (k8 : ClassId) (p9 : Int32) (p10 : Int32) (h0 : Heap) (n0 : Nat) (O0 : Old Z n0 h0) (F_0 : EA47 Z h0 a1) (S_1 : SA48 Z Z.heap (.int p3)) (hc_2 : ¬ (p3 = (0 : Int32))) (F_3 : FA42 Z h0 a1 o0) (F_4 : EA44 Z h0 a2) (F_5 : FA38 Z h0 a2 o0) (F_6 : FA41 Z h0 a1 (.ref a4)) (F_7 : FA37 Z h0 a2 (.ref a5)) (F_8 : Arv Z h0 a5 k6 .byte (1 : Int32) [(.int p7)] o0) (F_9 : Arv Z h0 a4 k8 .byte (16 : Int32) [(.int p9), (.int p10), (.int (58 : Int32)), (.int (32 : Int32)), o0, o0, o0, o0, o0, o0, o0, o0, o0, o0, o0, o0] o0) (g_10 : n0 ≤ a4) :
    Met l Z [] MY18 jdk_68_method_73_code 3 none ({ frames := 2, cells := 0, slots := 0, locals := 42 } : Room) #[(.ref a1), (.int (4 : Int32)), (.ref a2)] h0 (Q113_putStringAt Z a1 a2 p3 a4 a5 k6 p7 k8 p9 p10 h0 n0) := by
  have W := @own_W _ _ hw
  refine own_mk (plainFor_of_name pn_206) ?_
  intro p e s m below meth c s₁ hZ hx hby hml hown hnm hret hlk X0 e0
  have N0 := Fr.nil n0
  obtain ⟨_, T1, L1, X1, hQ1, st1⟩ := own_cv X0 hx hZ hown hml (W 119 rfl) (own_decl (y := MY16) (W 120 rfl) (W 123 rfl)) (notFace_of_selects (W 122 rfl)) (W 122 rfl) (W 120 rfl) (W 79 rfl) (W 123 rfl) (rm27_inflateIfNeededFor l Z a0 hw a1 a2 p3 h0 n0 O0 (S_1) (hc_2) (F_3) (F_4) (F_5)) e0 F_0 (hb hby d_262) 0 #[rv a1, iv (4 : Int32), rv a2] [(.ref a2)] [] pd_271
  obtain ⟨rfl, N1q, K1⟩ := hQ1
  have N2 := Fr.app N0 N1q
  obtain ⟨T3, X3, e3, st3⟩ := getF X1 hx hZ hown (host := "") (Or.inl (W 83 rfl)) Via.refl K1 F_6 (g := (mkF m 7 #[rv a1, iv (4 : Int32), rv a2] [(.ref a1), (.ref a2)])) rfl rfl (hb hby d_274)
  obtain ⟨T4, X4, e4, st4⟩ := getF X3 hx hZ hown (host := "") (Or.inl (W 85 rfl)) Via.refl e3 F_3 (g := (mkF m 12 #[rv a1, iv (4 : Int32), rv a2] [(.ref a1), (.int (4 : Int32)), (.ref a4), (.ref a2)])) rfl rfl (hb hby d_277)
  obtain ⟨_, T5, L5, X5, hQ5, st5⟩ := own_cv X4 hx hZ hown hml (W 125 rfl) (W 126 rfl) (notFace_of_selects (W 128 rfl)) (W 128 rfl) (W 127 rfl) (W 7 rfl) (W 129 rfl) (rm112_getBytes l Z a0 hw a2 a4 p3 a5 k6 p7 k8 p9 p10 h0 n0 O0 (F_4) (S_1) (hc_2) (F_5) (F_7) (F_8) (F_9) (g_10)) e4 F_4 (hb hby d_278) 0 #[rv a1, iv (4 : Int32), rv a2] [(.ref a4), (.int (4 : Int32)), o0] [] pd_297
  obtain ⟨rfl, N5q, K5, F5_0⟩ := hQ5
  have N6 := Fr.app N2 N5q
  have O7 := O0.keep K5 (allS g_10 all0)
  have K8 : Keep h0 T5.heap [a4] := Keep.trans (Keep.refl h0 [a4]) K5 (allS (Or.inl (List.mem_of_getElem? (i := 0) rfl)) all0)
  refine ⟨T5, none, _, _, _, X5, by decide, by decide, (fun _ => rfl), ?_, fun fs hr => castTop (ef_489 m a1 a2) ?_⟩
  · show Q113_putStringAt Z a1 a2 p3 a4 a5 k6 p7 k8 p9 p10 h0 n0 _ T5.heap _
    exact ⟨rfl, N6, K8, F5_0⟩
  · show SS p e below s₁ m 0 #[rv a1, iv (4 : Int32), rv a2] [] _
    refine XS.aloadN X0.here hx rfl (hb hby d_260) rfl rfl ?_
    refine XS.aloadN X0.here hx rfl (hb hby d_261) rfl rfl ?_
    refine st1 _ ?_
    refine XS.aloadN X1.here hx rfl (hb hby d_272) rfl rfl ?_
    refine XS.aloadN X1.here hx rfl (hb hby d_273) rfl rfl ?_
    refine st3 _ ?_
    refine XS.iloadN X3.here hx rfl (hb hby d_275) rfl ?_
    refine XS.aloadN X3.here hx rfl (hb hby d_276) rfl rfl ?_
    refine st4 _ ?_
    refine st5 _ ?_
    show SS p e below T5 m 18 #[rv a1, iv (4 : Int32), rv a2] [] _
    exact X5.returnOut hx hret (hb hby d_298) hr
def Q114_append (Z : State) (a1 : Addr) (a2 : Addr) (a3 : Addr) (k4 : ClassId) (p5 : Int32) (p6 : Int32) (a7 : Addr) (k8 : ClassId) (p9 : Int32) (p10 : Int32) (h0 : Heap) (n0 : Nat) (v : Option Value) (h : Heap) (L : List Loc) : Prop := v = some (.ref a1) ∧ Fr n0 L ∧ Keep h0 h [a7, a1] ∧ FA43 Z h a1 (.int (5 : Int32)) ∧ FA41 Z h a1 (.ref a7) ∧ Arv Z h a7 k8 .byte (16 : Int32) [(.int p9), (.int p10), (.int (58 : Int32)), (.int (32 : Int32)), (.int p5), o0, o0, o0, o0, o0, o0, o0, o0, o0, o0, o0] o0 ∧ FA42 Z h a1 o0
theorem rm114_append (l : Launch) (Z : State) (a0 : Array Value) (hw : HW Z a0) (a1 : Addr) (a2 : Addr) (a3 : Addr) (k4 : ClassId) (p5 : Int32) (p6 : Int32) (a7 : Addr) (k8 : ClassId) (p9 : Int32) (p10 : Int32) (h0 : Heap) (n0 : Nat) (O0 : Old Z n0 h0) (F_0 : EA44 Z h0 a2) (F_1 : FA37 Z h0 a2 (.ref a3)) (F_2 : Arv Z h0 a3 k4 .byte (1 : Int32) [(.int p5)] o0) (S_3 : SA48 Z Z.heap (.int p6)) (hc_4 : ¬ (p6 = (0 : Int32))) (F_5 : FA38 Z h0 a2 o0) (F_6 : FA43 Z h0 a1 (.int (4 : Int32))) (F_7 : EA47 Z h0 a1) (F_8 : FA41 Z h0 a1 (.ref a7)) (F_9 : Arv Z h0 a7 k8 .byte (16 : Int32) [(.int p9), (.int p10), (.int (58 : Int32)), (.int (32 : Int32)), o0, o0, o0, o0, o0, o0, o0, o0, o0, o0, o0, o0] o0) (F_10 : FA42 Z h0 a1 o0) (g_11 : n0 ≤ a7) (ne_12 : a1 ≠ a7) (g_13 : n0 ≤ a1) :
    Met l Z [] MY19 jdk_68_method_22_code 3 (some (.object "java/lang/AbstractStringBuilder")) ({ frames := 3, cells := 0, slots := 0, locals := 56 } : Room) #[(.ref a1), (.ref a2)] h0 (Q114_append Z a1 a2 a3 k4 p5 p6 a7 k8 p9 p10 h0 n0) := by
  have W := @own_W _ _ hw
  refine own_mk (plainFor_of_name pn_206) ?_
  intro p e s m below meth c s₁ hZ hx hby hml hown hnm hret hlk X0 e0
  have N0 := Fr.nil n0
  obtain ⟨_, T1, L1, X1, hQ1, st1⟩ := own_cv X0 hx hZ hown hml (W 97 rfl) (W 98 rfl) (notFace_of_selects (W 100 rfl)) (W 100 rfl) (W 99 rfl) (W 7 rfl) (W 101 rfl) (rm25_length l Z a0 hw a2 a3 k4 (1 : Int32) [(.int p5)] p6 h0 n0 O0 (F_1) (F_2) (F_0) (S_3) (hc_4) (F_5) ((by decide))) e0 F_0 (hb hby d_219) 0 #[rv a1, rv a2, .unset] [] [] pd_234
  obtain ⟨rfl, N1q, K1⟩ := hQ1
  have N2 := Fr.app N0 N1q
  obtain ⟨T3, X3, e3, st3⟩ := getF X1 hx hZ hown (host := "") (Or.inl (W 107 rfl)) Via.refl K1 F_6 (g := (mkF m 16 #[rv a1, rv a2, iv (1 : Int32)] [(.ref a1), (.ref a1)])) rfl rfl (hb hby d_238)
  obtain ⟨_, T4, L4, X4, hQ4, st4⟩ := own_cv X3 hx hZ hown hml (W 109 rfl) (own_decl (y := MY15) (W 110 rfl) (W 113 rfl)) (notFace_of_selects (W 112 rfl)) (W 112 rfl) (W 110 rfl) (W 79 rfl) (W 113 rfl) (rm111_ensureCapacityInternal l Z a0 hw a1 a7 k8 p9 p10 h0 n0 O0 (F_8) (F_9) (F_10)) e3 F_7 (hb hby d_241) 0 #[rv a1, rv a2, iv (1 : Int32)] [(.int (5 : Int32))] [] pd_207
  obtain ⟨rfl, N4q, K4⟩ := hQ4
  have N5 := Fr.app N2 N4q
  obtain ⟨T6, X6, e6, st6⟩ := getF X4 hx hZ hown (host := "") (Or.inl (W 107 rfl)) Via.refl K4 F_6 (g := (mkF m 26 #[rv a1, rv a2, iv (1 : Int32)] [(.ref a1), (.ref a1)])) rfl rfl (hb hby d_257)
  obtain ⟨_, T7, L7, X7, hQ7, st7⟩ := own_cv X6 hx hZ hown hml (W 114 rfl) (own_decl (y := MY18) (W 115 rfl) (W 118 rfl)) (notFace_of_selects (W 117 rfl)) (W 117 rfl) (W 115 rfl) (W 79 rfl) (W 118 rfl) (rm113_putStringAt l Z a0 hw a1 a2 p6 a7 a3 k4 p5 k8 p9 p10 h0 n0 O0 (F_7) (S_3) (hc_4) (F_10) (F_0) (F_5) (F_8) (F_1) (F_2) (F_9) (g_11)) e6 F_7 (hb hby d_259) 0 #[rv a1, rv a2, iv (1 : Int32)] [(.int (4 : Int32)), (.ref a2)] [] pd_300
  obtain ⟨rfl, N7q, K7, F7_0⟩ := hQ7
  have N8 := Fr.app N5 N7q
  have O9 := O0.keep K7 (allS g_11 all0)
  have K10 : Keep h0 T7.heap [a7, a1] := Keep.trans (Keep.refl h0 [a7, a1]) K7 (allS (Or.inl (List.mem_of_getElem? (i := 0) rfl)) all0)
  have f12 := (F_6.keep K7 (ninS ne_12 nin0))
  obtain ⟨T11, X11, e11, st11⟩ := getF X7 hx hZ hown (host := "") (Or.inl (W 107 rfl)) Via.refl rfl f12 (g := (mkF m 35 #[rv a1, rv a2, iv (1 : Int32)] [(.ref a1), (.ref a1)])) rfl rfl (hb hby d_303)
  have f14 := (F_7.keep K7)
  obtain ⟨T13, h13, X13, e13, W13, st13⟩ := putF X11 hx hZ hown (host := "") (Or.inl (W 107 rfl)) Via.refl e11 f12 f14 (Or.inl (W 108 rfl)) (W 70 rfl) (ty := .int) (by decide) rfl rfl (g := (mkF m 40 #[rv a1, rv a2, iv (1 : Int32)] [(.int (5 : Int32)), (.ref a1)])) rfl rfl (hb hby d_306)
  have O15 := O9.wr W13 g_13
  have K16 : Keep h0 h13 [a7, a1] := Keep.wr K10 W13 (Or.inl (List.mem_of_getElem? (i := 1) rfl))
  have f17 : FA43 Z h13 a1 (.int (5 : Int32)) := (f12.same W13)
  have N18 := Fr.snoc X13 N8 g_13
  have f19 := ((F_8.keep K7 (ninS ne_12 nin0)).other W13 (Or.inr (slot_ne (Or.inl (W 84 rfl)) (Or.inl (W 108 rfl)) (by decide) (t := (.array .byte)) (t' := .int) (by decide) (by decide))))
  have f20 := (F7_0.other W13 (Ne.symm ne_12))
  have f21 := ((F_10.keep K7 (ninS ne_12 nin0)).other W13 (Or.inr (slot_ne (Or.inl (W 86 rfl)) (Or.inl (W 108 rfl)) (by decide) (t := .byte) (t' := .int) (by decide) (by decide))))
  refine ⟨T13, some (.ref a1), _, _, _, X13, by decide, by decide, nofun, ?_, fun fs hr => castTop (ef_309 m a1 a2) ?_⟩
  · show Q114_append Z a1 a2 a3 k4 p5 p6 a7 k8 p9 p10 h0 n0 _ T13.heap _
    rw [e13]
    exact ⟨rfl, N18, K16, f17, f19, f20, f21⟩
  · show SS p e below s₁ m 0 #[rv a1, rv a2, .unset] [] _
    refine XS.aloadN X0.here hx rfl (hb hby d_216) rfl rfl ?_
    refine XS.ifnonnullYes X0.here hx rfl (pc0 := 1) (pc' := 9) rfl (hb hby d_217) rfl (by decide) (by decide) ?_
    refine XS.aloadN X0.here hx rfl (hb hby d_218) rfl rfl ?_
    refine st1 _ ?_
    refine XS.istoreN X1.here hx rfl (hb hby d_235) rfl (l' := #[rv a1, rv a2, iv (1 : Int32)]) rfl ?_
    refine XS.aloadN X1.here hx rfl (hb hby d_236) rfl rfl ?_
    refine XS.aloadN X1.here hx rfl (hb hby d_237) rfl rfl ?_
    refine st3 _ ?_
    refine XS.iloadN X3.here hx rfl (hb hby d_239) rfl ?_
    refine XS.iadd X3.here hx rfl (hb hby d_240) rfl ?_
    show SS p e below T3 m 21 #[rv a1, rv a2, iv (1 : Int32)] [(.int (5 : Int32)), (.ref a1)] _
    refine st4 _ ?_
    refine XS.aloadN X4.here hx rfl (hb hby d_255) rfl rfl ?_
    refine XS.aloadN X4.here hx rfl (hb hby d_256) rfl rfl ?_
    refine st6 _ ?_
    refine XS.aloadN X6.here hx rfl (hb hby d_258) rfl rfl ?_
    refine st7 _ ?_
    refine XS.aloadN X7.here hx rfl (hb hby d_301) rfl rfl ?_
    refine XS.dup X7.here hx rfl (hb hby d_302) rfl rfl ?_
    refine st11 _ ?_
    refine XS.iloadN X11.here hx rfl (hb hby d_304) rfl ?_
    show SS p e below T11 m 39 #[rv a1, rv a2, iv (1 : Int32)] [(.int (1 : Int32)), (.int (4 : Int32)), (.ref a1)] _
    refine XS.iadd X11.here hx rfl (hb hby d_305) rfl ?_
    show SS p e below T11 m 40 #[rv a1, rv a2, iv (1 : Int32)] [(.int (5 : Int32)), (.ref a1)] _
    refine st13 _ ?_
    refine XS.aloadN X13.here hx rfl (hb hby d_307) rfl rfl ?_
    exact retOut X13 hx hret rfl (Or.inr (Or.inr (Or.inr (Or.inr ⟨rfl, rfl, rfl⟩)))) (hb hby d_308) hr
def Q115_append (Z : State) (a1 : Addr) (a2 : Addr) (a3 : Addr) (k4 : ClassId) (p5 : Int32) (p6 : Int32) (a7 : Addr) (k8 : ClassId) (p9 : Int32) (p10 : Int32) (h0 : Heap) (n0 : Nat) (v : Option Value) (h : Heap) (L : List Loc) : Prop := v = some (.ref a1) ∧ Fr n0 L ∧ Keep h0 h [a1, a7] ∧ FA43 Z h a1 (.int (5 : Int32)) ∧ FA41 Z h a1 (.ref a7) ∧ Arv Z h a7 k8 .byte (16 : Int32) [(.int p9), (.int p10), (.int (58 : Int32)), (.int (32 : Int32)), (.int p5), o0, o0, o0, o0, o0, o0, o0, o0, o0, o0, o0] o0 ∧ FA42 Z h a1 o0
theorem rm115_append (l : Launch) (Z : State) (a0 : Array Value) (hw : HW Z a0) (a1 : Addr) (a2 : Addr) (a3 : Addr) (k4 : ClassId) (p5 : Int32) (p6 : Int32) (a7 : Addr) (k8 : ClassId) (p9 : Int32) (p10 : Int32) (h0 : Heap) (n0 : Nat) (O0 : Old Z n0 h0) (F_0 : EA44 Z h0 a2) (F_1 : FA37 Z h0 a2 (.ref a3)) (F_2 : Arv Z h0 a3 k4 .byte (1 : Int32) [(.int p5)] o0) (S_3 : SA48 Z Z.heap (.int p6)) (hc_4 : ¬ (p6 = (0 : Int32))) (F_5 : FA38 Z h0 a2 o0) (F_6 : FA43 Z h0 a1 (.int (4 : Int32))) (F_7 : EA47 Z h0 a1) (F_8 : FA41 Z h0 a1 (.ref a7)) (F_9 : Arv Z h0 a7 k8 .byte (16 : Int32) [(.int p9), (.int p10), (.int (58 : Int32)), (.int (32 : Int32)), o0, o0, o0, o0, o0, o0, o0, o0, o0, o0, o0, o0] o0) (F_10 : FA42 Z h0 a1 o0) (g_11 : n0 ≤ a7) (ne_12 : a1 ≠ a7) (g_13 : n0 ≤ a1) :
    Met l Z [] MY20 jdk_67_method_7_code 2 (some (.object "java/lang/StringBuilder")) ({ frames := 4, cells := 0, slots := 0, locals := 70 } : Room) #[(.ref a1), (.ref a2)] h0 (Q115_append Z a1 a2 a3 k4 p5 p6 a7 k8 p9 p10 h0 n0) := by
  have W := @own_W _ _ hw
  refine own_mk (plainFor_of_name pn_209) ?_
  intro p e s m below meth c s₁ hZ hx hby hml hown hnm hret hlk X0 e0
  have N0 := Fr.nil n0
  obtain ⟨_, _, ⟨T1, L1, k1, n1⟩, -, X1, ⟨Lc1, hQ1, l1, y1, z1⟩, st1⟩ := superBack X0 hx hZ (y := MY19) hown (W 92 rfl) (own_same (y := MY19) (by decide) (W 93 rfl) (own_nf (args := a0) (y := MY15) rfl (W 112 rfl))) (W 93 rfl) (W 94 rfl) (by decide) (backOf (W := 0) (rm114_append l Z a0 hw a1 a2 a3 k4 p5 p6 a7 k8 p9 p10 h0 n0 O0 (F_0) (F_1) (F_2) (S_3) (hc_4) (F_5) (F_6) (F_7) (F_8) (F_9) (F_10) (g_11) (ne_12) (g_13)) hZ (W 96 rfl) (W 79 rfl) (by decide) (by decide)) e0 (Ins.self F_7) (g := (mkF m 2 #[rv a1, rv a2] [(.ref a2), (.ref a1)])) rfl (by rw [hml]; rfl) (W 96 rfl) (argsL := [(.ref a2)]) (rest := []) (lenOf pd_310 rfl) rfl (by show 2 * 0 + _ ≤ _; exact Nat.le_of_eq rfl) (hb hby d_215) (fun _ _ => ⟨rfl, e0, (by decide : 0 + 0 ≤ _), (by decide : 0 + 0 ≤ _)⟩)
  dsimp only [Pt.U, Pt.locs, Pt.cells, Pt.slots] at X1 l1 y1 z1 st1 hQ1
  subst l1 y1 z1
  obtain ⟨rfl, N1q, K1, F1_0, F1_1, F1_2, F1_3⟩ := hQ1
  have N2 := Fr.app N0 N1q
  have O3 := O0.keep K1 (allS g_11 (allS g_13 all0))
  have K4 : Keep h0 T1.heap [a1, a7] := Keep.trans (Keep.refl h0 [a1, a7]) K1 (allS (Or.inl (List.mem_of_getElem? (i := 1) rfl)) (allS (Or.inl (List.mem_of_getElem? (i := 0) rfl)) all0))
  refine ⟨T1, some (.ref a1), _, _, _, X1, by decide, by decide, nofun, ?_, fun fs hr => castTop (ef_33 m a1 a2) ?_⟩
  · show Q115_append Z a1 a2 a3 k4 p5 p6 a7 k8 p9 p10 h0 n0 _ T1.heap _
    exact ⟨rfl, N2, K4, F1_0, F1_1, F1_2, F1_3⟩
  · show SS p e below s₁ m 0 #[rv a1, rv a2] [] _
    refine XS.aloadN X0.here hx rfl (hb hby d_213) rfl rfl ?_
    refine XS.aloadN X0.here hx rfl (hb hby d_214) rfl rfl ?_
    refine st1.trans ?_
    refine XS.pop X1.here hx rfl (hb hby d_311) rfl rfl ?_
    refine XS.aloadN X1.here hx rfl (hb hby d_312) rfl rfl ?_
    exact retOut X1 hx hret rfl (Or.inr (Or.inr (Or.inr (Or.inr ⟨rfl, rfl, rfl⟩)))) (hb hby d_313) hr
def Q116_copyOfRangeByte (Z : State) (a1 : Addr) (k2 : ClassId) (p3 : Int32) (p4 : Int32) (p5 : Int32) (h0 : Heap) (n0 : Nat) (v : Option Value) (h : Heap) (L : List Loc) : Prop := ∃ (b3 : Addr) (k3 : ClassId), v = some (.ref b3) ∧ Fr n0 L ∧ Keep h0 h [] ∧ h0.size ≤ b3 ∧ Arv Z h b3 k3 .byte (5 : Int32) [(.int p3), (.int p4), (.int (58 : Int32)), (.int (32 : Int32)), (.int p5)] o0 ∧ EA46 Z h b3
theorem rm116_copyOfRangeByte (l : Launch) (Z : State) (a0 : Array Value) (hw : HW Z a0) (a1 : Addr) (k2 : ClassId) (p3 : Int32) (p4 : Int32) (p5 : Int32) (h0 : Heap) (n0 : Nat) (O0 : Old Z n0 h0) (F_0 : Arv Z h0 a1 k2 .byte (16 : Int32) [(.int p3), (.int p4), (.int (58 : Int32)), (.int (32 : Int32)), (.int p5), o0, o0, o0, o0, o0, o0, o0, o0, o0, o0, o0] o0) :
    Met l Z [] MY27 jdk_65_method_133_code 5 (some (.array .byte)) ({ frames := 1, cells := 1, slots := 5, locals := 27 } : Room) #[(.ref a1), o0, (.int (5 : Int32))] h0 (Q116_copyOfRangeByte Z a1 k2 p3 p4 p5 h0 n0) := by
  have W := @own_W _ _ hw
  refine own_mk (plainFor_of_name pn_389) ?_
  intro p e s m below meth c s₁ hZ hx hby hml hown hnm hret hlk X0 e0
  have N0 := Fr.nil n0
  obtain ⟨_, T1, L1, X1, hQ1, st1⟩ := own_cs X0 hx hZ hown hml (W 172 rfl) (W 173 rfl) (W 167 rfl) (W 174 rfl) (rm46_checkLength l Z a0 hw (0 : Int32) (5 : Int32) h0 n0 O0 ((by decide : ¬ ((5 : Int32) < (0 : Int32))))) e0 (hb hby d_383) 0 #[rv a1, .val o0, iv (5 : Int32), .unset, .unset] [o0, (.int (5 : Int32))] [] pd_390
  obtain ⟨rfl, N1q, K1⟩ := hQ1
  have N2 := Fr.app N0 N1q
  obtain ⟨T3, h3, k3, X3, e3, E3, A3, B3, st3⟩ := newPE X1 hx hZ (W 20 rfl) K1 (g := (mkF m 10 #[rv a1, .val o0, iv (5 : Int32), iv (5 : Int32), .unset] [(.int (5 : Int32))])) rfl (hb hby d_396) rfl (by decide) (cap := 5) (by decide) (by decide) (by decide) (by decide) (ad := "[B") rfl
  obtain ⟨b3, g3⟩ : ∃ z, z = h0.size := ⟨_, rfl⟩
  rw [← g3] at A3 B3 st3
  have O4 := O0.ext E3
  have K5 : Keep h0 h3 [] := Keep.ext (Keep.refl h0 []) E3
  have v6 : Arv Z h3 b3 k3 .byte (5 : Int32) [o0, o0, o0, o0, o0] o0 := (Arv.new A3 (by decide)).pad (pad_rep [] o0 5)
  have f8 := (F_0.ext E3)
  obtain ⟨c7, A7, q7, S7, N7, H7, G7⟩ := id f8
  obtain ⟨_, T9, L9, X9, hQ9, st9⟩ := own_cs X3 hx hZ hown hml (W 175 rfl) (W 176 rfl) (W 177 rfl) (W 178 rfl) (rm82_min l Z a0 hw  h3 n0 O4 ) e3 (hb hby d_407) 4 #[rv a1, .val o0, iv (5 : Int32), iv (5 : Int32), rv b3] [(.int (16 : Int32)), (.int (5 : Int32))] [o0, (.ref b3), o0, (.ref a1)] pd_414
  obtain ⟨rfl, N9q, K9⟩ := hQ9
  have N10 := Fr.app N2 N9q
  have g12 : n0 ≤ b3 := Nat.le_trans (Nat.le_trans (Nat.le_of_eq O0.1.symm) O0.2.1) (Nat.le_of_eq g3.symm)
  obtain ⟨T11, h11, Lc11, X11, e11, N11, K11, V11, st11⟩ := cpA X9 hx hZ hown (W 179 rfl) (W 133 rfl) (W 131 rfl) (W 132 rfl) K9 f8 v6 (Or.inl ⟨rfl, rfl⟩) (sp := (0 : Int32)) (dp := (0 : Int32)) (nn := (5 : Int32)) (by decide) (by decide) (by decide) (by decide) (by decide) (us := [(.int p3), (.int p4), (.int (58 : Int32)), (.int (32 : Int32)), (.int p5)]) rfl (Nat.le_of_ble_eq_true rfl) N10 g12 (g := (mkF m 27 #[rv a1, .val o0, iv (5 : Int32), iv (5 : Int32), rv b3] [(.int (5 : Int32)), o0, (.ref b3), o0, (.ref a1)])) rfl (by rw [hml]; rfl) rfl (hb hby d_415) (by decide) (W := 0) (by show 2 * 0 + _ ≤ _; exact Nat.le_of_eq rfl) (by decide)
  have O13 := O4.keep K11 (allS g12 all0)
  have K14 : Keep h0 h11 [] := Keep.trans K5 K11 (allS (Or.inr (Nat.le_of_eq g3.symm)) all0)
  have v15 : Arv Z h11 b3 k3 .byte (5 : Int32) [(.int p3), (.int p4), (.int (58 : Int32)), (.int (32 : Int32)), (.int p5)] o0 := V11
  have f16 := (B3.keep K11)
  refine ⟨T11, some (.ref b3), _, _, _, X11, by decide, by decide, nofun, ?_, fun fs hr => castTop (ef_483 m a1) ?_⟩
  · show Q116_copyOfRangeByte Z a1 k2 p3 p4 p5 h0 n0 _ T11.heap _
    rw [e11]
    exact ⟨b3, k3, rfl, N11, K14, (Nat.le_of_eq g3.symm), v15, f16⟩
  · show SS p e below s₁ m 0 #[rv a1, .val o0, iv (5 : Int32), .unset, .unset] [] _
    refine XS.iloadN X0.here hx rfl (hb hby d_381) rfl ?_
    refine XS.iloadN X0.here hx rfl (hb hby d_382) rfl ?_
    refine st1 _ ?_
    refine XS.iloadN X1.here hx rfl (hb hby d_391) rfl ?_
    refine XS.iloadN X1.here hx rfl (hb hby d_392) rfl ?_
    refine XS.isub X1.here hx rfl (hb hby d_393) rfl ?_
    show SS p e below T1 m 8 #[rv a1, .val o0, iv (5 : Int32), .unset, .unset] [(.int (5 : Int32))] _
    refine XS.istoreN X1.here hx rfl (hb hby d_394) rfl (l' := #[rv a1, .val o0, iv (5 : Int32), iv (5 : Int32), .unset]) rfl ?_
    refine XS.iloadN X1.here hx rfl (hb hby d_395) rfl ?_
    refine st3 _ ?_
    refine XS.astore X3.here hx rfl (hb hby d_397) rfl rfl (l' := #[rv a1, .val o0, iv (5 : Int32), iv (5 : Int32), rv b3]) rfl ?_
    refine XS.aloadN X3.here hx rfl (hb hby d_398) rfl rfl ?_
    refine XS.iloadN X3.here hx rfl (hb hby d_399) rfl ?_
    refine XS.aload X3.here hx rfl (hb hby d_400) rfl rfl ?_
    refine XS.iconst X3.here hx rfl (hb hby d_401) ?_
    refine XS.aloadN X3.here hx rfl (hb hby d_402) rfl rfl ?_
    refine X3.arraylength hx (by rw [e3]; exact A7.1) (State.isArrayOf_alike hZ.alike A7.2.1) (g := (mkF m 20 #[rv a1, .val o0, iv (5 : Int32), iv (5 : Int32), rv b3] [(.ref a1), o0, (.ref b3), o0, (.ref a1)])) rfl rfl (hb hby d_403) _ ?_
    rw [len_of S7 N7]
    show SS p e below T3 m 21 #[rv a1, .val o0, iv (5 : Int32), iv (5 : Int32), rv b3] [(.int (16 : Int32)), o0, (.ref b3), o0, (.ref a1)] _
    refine XS.iloadN X3.here hx rfl (hb hby d_404) rfl ?_
    refine XS.isub X3.here hx rfl (hb hby d_405) rfl ?_
    show SS p e below T3 m 23 #[rv a1, .val o0, iv (5 : Int32), iv (5 : Int32), rv b3] [(.int (16 : Int32)), o0, (.ref b3), o0, (.ref a1)] _
    refine XS.iloadN X3.here hx rfl (hb hby d_406) rfl ?_
    refine st9 _ ?_
    refine st11 _ ?_
    refine XS.aload X11.here hx rfl (hb hby d_416) rfl rfl ?_
    exact retOut X11 hx hret rfl (Or.inr (Or.inr (Or.inr (Or.inr ⟨rfl, rfl, rfl⟩)))) (hb hby d_417) hr
def Q117_copyOfRange (Z : State) (a1 : Addr) (k2 : ClassId) (p3 : Int32) (p4 : Int32) (p5 : Int32) (h0 : Heap) (n0 : Nat) (v : Option Value) (h : Heap) (L : List Loc) : Prop := ∃ (b2_0 : Addr) (k2_0 : ClassId), v = some (.ref b2_0) ∧ Fr n0 L ∧ Keep h0 h [] ∧ h0.size ≤ b2_0 ∧ Arv Z h b2_0 k2_0 .byte (5 : Int32) [(.int p3), (.int p4), (.int (58 : Int32)), (.int (32 : Int32)), (.int p5)] o0 ∧ EA46 Z h b2_0
theorem rm117_copyOfRange (l : Launch) (Z : State) (a0 : Array Value) (hw : HW Z a0) (a1 : Addr) (k2 : ClassId) (p3 : Int32) (p4 : Int32) (p5 : Int32) (h0 : Heap) (n0 : Nat) (O0 : Old Z n0 h0) (F_0 : Arv Z h0 a1 k2 .byte (16 : Int32) [(.int p3), (.int p4), (.int (58 : Int32)), (.int (32 : Int32)), (.int p5), o0, o0, o0, o0, o0, o0, o0, o0, o0, o0, o0] o0) :
    Met l Z [] MY28 jdk_65_method_132_code 3 (some (.array .byte)) ({ frames := 2, cells := 1, slots := 5, locals := 43 } : Room) #[(.ref a1), o0, (.int (5 : Int32))] h0 (Q117_copyOfRange Z a1 k2 p3 p4 p5 h0 n0) := by
  have W := @own_W _ _ hw
  refine own_mk (plainFor_of_name pn_389) ?_
  intro p e s m below meth c s₁ hZ hx hby hml hown hnm hret hlk X0 e0
  have N0 := Fr.nil n0
  obtain ⟨c1, A1, q1, S1, N1, H1, G1⟩ := id F_0
  obtain ⟨_, T2, L2, X2, hQ2, st2⟩ := own_cs X0 hx hZ hown hml (W 169 rfl) (W 170 rfl) (W 167 rfl) (W 171 rfl) (rm116_copyOfRangeByte l Z a0 hw a1 k2 p3 p4 p5 h0 n0 O0 (F_0)) e0 (hb hby d_380) 0 #[rv a1, .val o0, iv (5 : Int32)] [(.ref a1), o0, (.int (5 : Int32))] [] pd_419
  obtain ⟨b2_0, k2_0, rfl, N2q, K2, gb2_0, F2_0, F2_1⟩ := hQ2
  have N3 := Fr.app N0 N2q
  have O4 := O0.keep K2 all0
  have K5 : Keep h0 T2.heap [] := Keep.trans (Keep.refl h0 []) K2 all0
  refine ⟨T2, some (.ref b2_0), _, _, _, X2, by decide, by decide, nofun, ?_, fun fs hr => castTop (ef_484 m a1) ?_⟩
  · show Q117_copyOfRange Z a1 k2 p3 p4 p5 h0 n0 _ T2.heap _
    exact ⟨b2_0, k2_0, rfl, N3, K5, gb2_0, F2_0, F2_1⟩
  · show SS p e below s₁ m 0 #[rv a1, .val o0, iv (5 : Int32)] [] _
    refine XS.iloadN X0.here hx rfl (hb hby d_371) rfl ?_
    refine XS.ifNo X0.here hx rfl (hb hby d_372) rfl ((if0 _ _).trans (teq (by decide : (0 : Int32) = (0 : Int32))).2) ?_
    refine XS.iloadN X0.here hx rfl (hb hby d_373) rfl ?_
    refine XS.aloadN X0.here hx rfl (hb hby d_374) rfl rfl ?_
    refine X0.arraylength hx (by rw [e0]; exact A1.1) (State.isArrayOf_alike hZ.alike A1.2.1) (g := (mkF m 6 #[rv a1, .val o0, iv (5 : Int32)] [(.ref a1), (.int (5 : Int32))])) rfl rfl (hb hby d_375) _ ?_
    rw [len_of S1 N1]
    refine XS.icmpNo X0.here hx rfl (hb hby d_376) rfl (feq (by decide : ¬ ((5 : Int32) = (16 : Int32)))).1 ?_
    refine XS.aloadN X0.here hx rfl (hb hby d_377) rfl rfl ?_
    refine XS.iloadN X0.here hx rfl (hb hby d_378) rfl ?_
    refine XS.iloadN X0.here hx rfl (hb hby d_379) rfl ?_
    refine st2 _ ?_
    show SS p e below T2 m 16 #[rv a1, .val o0, iv (5 : Int32)] [(.ref b2_0)] _
    exact retOut X2 hx hret rfl (Or.inr (Or.inr (Or.inr (Or.inr ⟨rfl, rfl, rfl⟩)))) (hb hby d_420) hr
def Q118_init (Z : State) (a1 : Addr) (a2 : Addr) (a3 : Addr) (p4 : Int32) (k5 : ClassId) (p6 : Int32) (p7 : Int32) (p8 : Int32) (h0 : Heap) (n0 : Nat) (v : Option Value) (h : Heap) (L : List Loc) : Prop := ∃ (b13_0 : Addr) (k13_0 : ClassId), v = none ∧ Fr n0 L ∧ Keep h0 h [a1] ∧ h0.size ≤ b13_0 ∧ Arv Z h b13_0 k13_0 .byte (5 : Int32) [(.int p6), (.int p7), (.int (58 : Int32)), (.int (32 : Int32)), (.int p8)] o0 ∧ EA46 Z h b13_0 ∧ FA38 Z h a1 o0 ∧ FA37 Z h a1 (.ref b13_0)
theorem rm118_init (l : Launch) (Z : State) (a0 : Array Value) (hw : HW Z a0) (a1 : Addr) (a2 : Addr) (a3 : Addr) (p4 : Int32) (k5 : ClassId) (p6 : Int32) (p7 : Int32) (p8 : Int32) (h0 : Heap) (n0 : Nat) (O0 : Old Z n0 h0) (F_0 : EA47 Z h0 a2) (F_1 : FA41 Z h0 a2 (.ref a3)) (F_2 : FA43 Z h0 a2 (.int (5 : Int32))) (S_3 : SA48 Z Z.heap (.int p4)) (hc_4 : ¬ (p4 = (0 : Int32))) (F_5 : FA42 Z h0 a2 o0) (F_6 : EA44 Z h0 a1) (F_7 : FA38 Z h0 a1 o0) (g_8 : n0 ≤ a1) (F_9 : Arv Z h0 a3 k5 .byte (16 : Int32) [(.int p6), (.int p7), (.int (58 : Int32)), (.int (32 : Int32)), (.int p8), o0, o0, o0, o0, o0, o0, o0, o0, o0, o0, o0] o0) (ne_10 : a1 ≠ a3) (F_11 : FA37 Z h0 a1 .null) (lt_12 : a1 < h0.size) :
    Met l Z [] MY29 jdk_42_method_150_code 5 none ({ frames := 3, cells := 1, slots := 5, locals := 58 } : Room) #[(.ref a1), (.ref a2), .null] h0 (Q118_init Z a1 a2 a3 p4 k5 p6 p7 p8 h0 n0) := by
  have W := @own_W _ _ hw
  refine own_mk (plainFor_of_name pn_30) ?_
  intro p e s m below meth c s₁ hZ hx hby hml hown hnm hret hlk X0 e0
  have N0 := Fr.nil n0
  obtain ⟨T1, X1, e1, st1⟩ := initO X0 hx hZ hown (W 16 rfl) (W 17 rfl) (W 18 rfl) e0 (g := (mkF m 1 #[rv a1, rv a2, .val .null, .unset, .unset] [(.ref a1)])) rfl (by rw [hml]; rfl) rfl (hb hby d_335) (by decide) (W := 0) (by show 2 * 0 + _ ≤ _; exact Nat.le_of_eq rfl) (by decide)
  obtain ⟨_, T2, L2, X2, hQ2, st2⟩ := own_cv X1 hx hZ hown hml (W 147 rfl) (W 148 rfl) (notFace_of_selects (W 150 rfl)) (W 150 rfl) (W 149 rfl) (W 79 rfl) (W 151 rfl) (rm42_getValue l Z a0 hw a2 a3 h0 n0 O0 (F_1)) e1 F_0 (hb hby d_337) 0 #[rv a1, rv a2, .val .null, .unset, .unset] [] [] pd_341
  obtain ⟨rfl, N2q, K2⟩ := hQ2
  have N3 := Fr.app N0 N2q
  obtain ⟨_, T4, L4, X4, hQ4, st4⟩ := own_cv X2 hx hZ hown hml (W 152 rfl) (W 153 rfl) (own_nf (args := a0) (y := MY15) rfl (id (W 112 rfl))) (W 155 rfl) (W 156 rfl) (W 71 rfl) (W 157 rfl) (rm81_length l Z a0 hw a2 h0 n0 O0 (F_2) (F_0)) K2 F_0 (hb hby d_344) 0 #[rv a1, rv a2, .val .null, rv a3, .unset] [] [] pd_234
  obtain ⟨rfl, N4q, K4⟩ := hQ4
  have N5 := Fr.app N3 N4q
  obtain ⟨_, T6, L6, X6, hQ6, st6⟩ := own_cv X4 hx hZ hown hml (W 160 rfl) (W 161 rfl) (notFace_of_selects (W 163 rfl)) (W 163 rfl) (W 162 rfl) (W 79 rfl) (W 164 rfl) (rm45_isLatin1 l Z a0 hw a2 p4 h0 n0 O0 (S_3) (hc_4) (F_5)) K4 F_0 (hb hby d_353) 0 #[rv a1, rv a2, .val .null, rv a3, iv (5 : Int32)] [] [] pd_67
  obtain ⟨rfl, N6q, K6⟩ := hQ6
  have N7 := Fr.app N5 N6q
  obtain ⟨T8, h8, X8, e8, W8, st8⟩ := putFN X6 hx hZ hown (W 26 rfl) Via.refl K6 F_7 F_6 (Or.inr ⟨(W 22 rfl), rfl, hnm⟩) (W 6 rfl) (ty := .byte) (v' := o0) (by decide) rfl rfl (g := (mkF m 24 #[rv a1, rv a2, .val .null, rv a3, iv (5 : Int32)] [o0, (.ref a1)])) rfl rfl (hb hby d_365)
  have O9 := O0.wr W8 g_8
  have K10 : Keep h0 h8 [a1] := Keep.wr (Keep.refl h0 [a1]) W8 (Or.inl (List.mem_of_getElem? (i := 0) rfl))
  have f11 : FA38 Z h8 a1 o0 := (F_7.same W8)
  have N12 := Fr.snoc X8 N7 g_8
  have f14 := (F_9.other W8 (Ne.symm ne_10))
  obtain ⟨_, T13, L13, X13, hQ13, st13⟩ := own_cs X8 hx hZ hown hml (W 165 rfl) (W 166 rfl) (W 167 rfl) (W 168 rfl) (rm117_copyOfRange l Z a0 hw a3 k5 p6 p7 p8 h8 n0 O9 (f14)) e8 (hb hby d_370) 1 #[rv a1, rv a2, .val .null, rv a3, iv (5 : Int32)] [(.ref a3), o0, (.int (5 : Int32))] [(.ref a1)] pd_419
  obtain ⟨b13_0, k13_0, rfl, N13q, K13, gb13_0, F13_0, F13_1⟩ := hQ13
  have N15 := Fr.app N12 N13q
  have O16 := O9.keep K13 all0
  have K17 : Keep h0 T13.heap [a1] := Keep.trans K10 K13 all0
  have f19 := ((F_11.other W8 (Or.inr (slot_ne (Or.inr (W 21 rfl)) (Or.inr (W 22 rfl)) (by decide) (t := (.array .byte)) (t' := .byte) (by decide) (by decide)))).keep K13 nin0)
  have f20 := ((F_6.wr W8).keep K13)
  obtain ⟨T18, h18, X18, e18, W18, st18⟩ := putF X13 hx hZ hown (host := "") (Or.inl (W 25 rfl)) Via.refl rfl f19 f20 (Or.inr ⟨(W 21 rfl), rfl, hnm⟩) (W 6 rfl) (ty := (.array .byte)) (by decide) rfl rfl (g := (mkF m 35 #[rv a1, rv a2, .val .null, rv a3, iv (5 : Int32)] [(.ref b13_0), (.ref a1)])) rfl rfl (hb hby d_422)
  have O21 := O16.wr W18 g_8
  have K22 : Keep h0 h18 [a1] := Keep.wr K17 W18 (Or.inl (List.mem_of_getElem? (i := 0) rfl))
  have f23 : FA37 Z h18 a1 (.ref b13_0) := (f19.same W18)
  have N24 := Fr.snoc X18 N15 g_8
  have z25 : h0.size ≤ h8.size := (Nat.le_of_eq W8.size.symm)
  have f26 := (F13_0.other W18 (Ne.symm (Nat.ne_of_lt (Nat.lt_of_lt_of_le (Nat.lt_of_lt_of_le lt_12 z25) gb13_0))))
  have f27 := (F13_1.wr W18)
  have f28 := ((f11.keep K13 nin0).other W18 (Or.inr (slot_ne (Or.inr (W 22 rfl)) (Or.inr (W 21 rfl)) (by decide) (t := .byte) (t' := (.array .byte)) (by decide) (by decide))))
  refine ⟨T18, none, _, _, _, X18, by decide, by decide, (fun _ => rfl), ?_, fun fs hr => castTop (ef_425 m a1 a2) ?_⟩
  · show Q118_init Z a1 a2 a3 p4 k5 p6 p7 p8 h0 n0 _ T18.heap _
    rw [e18]
    exact ⟨b13_0, k13_0, rfl, N24, K22, (Nat.le_trans z25 gb13_0), f26, f27, f28, f23⟩
  · show SS p e below s₁ m 0 #[rv a1, rv a2, .val .null, .unset, .unset] [] _
    refine XS.aloadN X0.here hx rfl (hb hby d_334) rfl rfl ?_
    refine st1 _ ?_
    refine XS.aloadN X1.here hx rfl (hb hby d_336) rfl rfl ?_
    refine st2 _ ?_
    refine XS.astoreN X2.here hx rfl (hb hby d_342) rfl rfl (l' := #[rv a1, rv a2, .val .null, rv a3, .unset]) rfl ?_
    refine XS.aloadN X2.here hx rfl (hb hby d_343) rfl rfl ?_
    refine st4 _ ?_
    refine XS.istore X4.here hx rfl (hb hby d_351) rfl (l' := #[rv a1, rv a2, .val .null, rv a3, iv (5 : Int32)]) rfl ?_
    refine XS.aloadN X4.here hx rfl (hb hby d_352) rfl rfl ?_
    refine st6 _ ?_
    show SS p e below T6 m 19 #[rv a1, rv a2, .val .null, rv a3, iv (5 : Int32)] [(.int (1 : Int32))] _
    refine XS.ifNo X6.here hx rfl (hb hby d_362) rfl ((if0 _ _).trans (feq (by decide : ¬ ((1 : Int32) = (0 : Int32)))).1) ?_
    refine XS.aloadN X6.here hx rfl (hb hby d_363) rfl rfl ?_
    refine XS.iconst X6.here hx rfl (hb hby d_364) ?_
    refine st8 _ ?_
    refine XS.aloadN X8.here hx rfl (hb hby d_366) rfl rfl ?_
    refine XS.aloadN X8.here hx rfl (hb hby d_367) rfl rfl ?_
    refine XS.iconst X8.here hx rfl (hb hby d_368) ?_
    refine XS.iload X8.here hx rfl (hb hby d_369) rfl ?_
    refine st13 _ ?_
    refine st18 _ ?_
    show SS p e below T18 m 38 #[rv a1, rv a2, .val .null, rv a3, iv (5 : Int32)] [] _
    refine XS.goto X18.here hx rfl (pc0 := 38) (pc' := 97) rfl (hb hby d_423) (by decide) (by decide) ?_
    exact X18.returnOut hx hret (hb hby d_424) hr
def Q119_init (Z : State) (a1 : Addr) (a2 : Addr) (a3 : Addr) (p4 : Int32) (k5 : ClassId) (p6 : Int32) (p7 : Int32) (p8 : Int32) (h0 : Heap) (n0 : Nat) (v : Option Value) (h : Heap) (L : List Loc) : Prop := ∃ (b1_0 : Addr) (k1_0 : ClassId), v = none ∧ Fr n0 L ∧ Keep h0 h [a1] ∧ h0.size ≤ b1_0 ∧ Arv Z h b1_0 k1_0 .byte (5 : Int32) [(.int p6), (.int p7), (.int (58 : Int32)), (.int (32 : Int32)), (.int p8)] o0 ∧ EA46 Z h b1_0 ∧ FA38 Z h a1 o0 ∧ FA37 Z h a1 (.ref b1_0)
theorem rm119_init (l : Launch) (Z : State) (a0 : Array Value) (hw : HW Z a0) (a1 : Addr) (a2 : Addr) (a3 : Addr) (p4 : Int32) (k5 : ClassId) (p6 : Int32) (p7 : Int32) (p8 : Int32) (h0 : Heap) (n0 : Nat) (O0 : Old Z n0 h0) (F_0 : EA47 Z h0 a2) (F_1 : FA41 Z h0 a2 (.ref a3)) (F_2 : FA43 Z h0 a2 (.int (5 : Int32))) (S_3 : SA48 Z Z.heap (.int p4)) (hc_4 : ¬ (p4 = (0 : Int32))) (F_5 : FA42 Z h0 a2 o0) (F_6 : EA44 Z h0 a1) (F_7 : FA38 Z h0 a1 o0) (F_8 : Arv Z h0 a3 k5 .byte (16 : Int32) [(.int p6), (.int p7), (.int (58 : Int32)), (.int (32 : Int32)), (.int p8), o0, o0, o0, o0, o0, o0, o0, o0, o0, o0, o0] o0) (F_9 : FA37 Z h0 a1 .null) (g_10 : n0 ≤ a1) (ne_11 : a1 ≠ a3) (lt_12 : a1 < h0.size) :
    Met l Z [] MY30 jdk_42_method_53_code 2 none ({ frames := 4, cells := 1, slots := 5, locals := 74 } : Room) #[(.ref a1), (.ref a2)] h0 (Q119_init Z a1 a2 a3 p4 k5 p6 p7 p8 h0 n0) := by
  have W := @own_W _ _ hw
  refine own_mk (plainFor_of_name pn_30) ?_
  intro p e s m below meth c s₁ hZ hx hby hml hown hnm hret hlk X0 e0
  have N0 := Fr.nil n0
  obtain ⟨_, T1, L1, X1, hQ1, st1⟩ := own_cp X0 hx hZ hown hml rfl (W 144 rfl) (W 145 rfl) (W 7 rfl) (W 146 rfl) (rm118_init l Z a0 hw a1 a2 a3 p4 k5 p6 p7 p8 h0 n0 O0 (F_0) (F_1) (F_2) (S_3) (hc_4) (F_5) (F_6) (F_7) (g_10) (F_8) (ne_11) (F_9) (lt_12)) e0 (hb hby d_333) 0 #[rv a1, rv a2] a1 [(.ref a2), .null] [] pd_426
  obtain ⟨b1_0, k1_0, rfl, N1q, K1, gb1_0, F1_0, F1_1, F1_2, F1_3⟩ := hQ1
  have N2 := Fr.app N0 N1q
  have O3 := O0.keep K1 (allS g_10 all0)
  have K4 : Keep h0 T1.heap [a1] := Keep.trans (Keep.refl h0 [a1]) K1 (allS (Or.inl (List.mem_of_getElem? (i := 0) rfl)) all0)
  refine ⟨T1, none, _, _, _, X1, by decide, by decide, (fun _ => rfl), ?_, fun fs hr => castTop (ef_33 m a1 a2) ?_⟩
  · show Q119_init Z a1 a2 a3 p4 k5 p6 p7 p8 h0 n0 _ T1.heap _
    exact ⟨b1_0, k1_0, rfl, N2, K4, gb1_0, F1_0, F1_1, F1_2, F1_3⟩
  · show SS p e below s₁ m 0 #[rv a1, rv a2] [] _
    refine XS.aloadN X0.here hx rfl (hb hby d_330) rfl rfl ?_
    refine XS.aloadN X0.here hx rfl (hb hby d_331) rfl rfl ?_
    refine XS.aconstNull X0.here hx rfl (hb hby d_332) ?_
    refine st1 _ ?_
    exact X1.returnOut hx hret (hb hby d_427) hr
def Q120_toString (Z : State) (a1 : Addr) (a2 : Addr) (p3 : Int32) (k4 : ClassId) (p5 : Int32) (p6 : Int32) (p7 : Int32) (h0 : Heap) (n0 : Nat) (v : Option Value) (h : Heap) (L : List Loc) : Prop := ∃ (b1 : Addr) (b4_0 : Addr) (k4_0 : ClassId), v = some (.ref b1) ∧ Fr n0 L ∧ Keep h0 h [] ∧ h0.size ≤ b1 ∧ h0.size ≤ b4_0 ∧ EA44 Z h b1 ∧ FA37 Z h b1 (.ref b4_0) ∧ FA38 Z h b1 o0 ∧ Arv Z h b4_0 k4_0 .byte (5 : Int32) [(.int p5), (.int p6), (.int (58 : Int32)), (.int (32 : Int32)), (.int p7)] o0 ∧ EA46 Z h b4_0
theorem rm120_toString (l : Launch) (Z : State) (a0 : Array Value) (hw : HW Z a0) (a1 : Addr) (a2 : Addr) (p3 : Int32) (k4 : ClassId) (p5 : Int32) (p6 : Int32) (p7 : Int32) (h0 : Heap) (n0 : Nat) (O0 : Old Z n0 h0) (F_0 : EA47 Z h0 a1) (F_1 : FA41 Z h0 a1 (.ref a2)) (F_2 : FA43 Z h0 a1 (.int (5 : Int32))) (S_3 : SA48 Z Z.heap (.int p3)) (hc_4 : ¬ (p3 = (0 : Int32))) (F_5 : FA42 Z h0 a1 o0) (F_6 : Arv Z h0 a2 k4 .byte (16 : Int32) [(.int p5), (.int p6), (.int (58 : Int32)), (.int (32 : Int32)), (.int p7), o0, o0, o0, o0, o0, o0, o0, o0, o0, o0, o0] o0) (lt_7 : a2 < h0.size) :
    Met l Z [] MY31 jdk_67_method_42_code 1 (some (.object "java/lang/String")) ({ frames := 5, cells := 2, slots := 9, locals := 88 } : Room) #[(.ref a1)] h0 (Q120_toString Z a1 a2 p3 k4 p5 p6 p7 h0 n0) := by
  have W := @own_W _ _ hw
  refine own_mk (plainFor_of_name pn_209) ?_
  intro p e s m below meth c s₁ hZ hx hby hml hown hnm hret hlk X0 e0
  have N0 := Fr.nil n0
  obtain ⟨T1, h1, X1, e1, E1, A1, D1, -, st1⟩ := newO X0 hx hZ hown (W 140 rfl) (W 6 rfl) (W 7 rfl) e0 (g := (mkF m 0 #[rv a1] [])) rfl (hb hby d_326) (by decide) (by decide)
  obtain ⟨b1, g1⟩ : ∃ z, z = h0.size := ⟨_, rfl⟩
  rw [← g1] at A1 D1 st1
  have O2 := O0.ext E1
  have K3 : Keep h0 h1 [] := Keep.ext (Keep.refl h0 []) E1
  have f5 := (F_0.ext E1)
  have f6 := (F_1.ext E1)
  have f7 := (F_2.ext E1)
  have f8 := (F_5.ext E1)
  have f9 := (F_6.ext E1)
  have g10 : n0 ≤ b1 := Nat.le_trans (Nat.le_trans (Nat.le_of_eq O0.1.symm) O0.2.1) (Nat.le_of_eq g1.symm)
  obtain ⟨_, T4, L4, X4, hQ4, st4⟩ := own_cp X1 hx hZ hown hml rfl (W 141 rfl) (W 142 rfl) (W 7 rfl) (W 143 rfl) (rm119_init l Z a0 hw b1 a1 a2 p3 k4 p5 p6 p7 h1 n0 O2 (f5) (f6) (f7) (S_3) (hc_4) (f8) (A1) ((D1 (Or.inr (W 22 rfl)) (ty := .byte) (by decide) : FA38 Z h1 b1 o0)) (f9) ((D1 (Or.inr (W 21 rfl)) (ty := (.array .byte)) (by decide) : FA37 Z h1 b1 .null)) (g10) ((Ne.symm (Nat.ne_of_lt (Nat.lt_of_lt_of_le lt_7 (Nat.le_of_eq g1.symm))))) (A1.lt)) e1 (hb hby d_329) 1 #[rv a1] b1 [(.ref a1)] [(.ref b1)] pd_428
  obtain ⟨b4_0, k4_0, rfl, N4q, K4, gb4_0, F4_0, F4_1, F4_2, F4_3⟩ := hQ4
  have N11 := Fr.app N0 N4q
  have O12 := O2.keep K4 (allS g10 all0)
  have K13 : Keep h0 T4.heap [] := Keep.trans K3 K4 (allS (Or.inr (Nat.le_of_eq g1.symm)) all0)
  have f14 := (A1.keep K4)
  have z15 : h0.size ≤ h1.size := E1.1
  refine ⟨T4, some (.ref b1), _, _, _, X4, by decide, by decide, nofun, ?_, fun fs hr => castTop (ef_44 m a1) ?_⟩
  · show Q120_toString Z a1 a2 p3 k4 p5 p6 p7 h0 n0 _ T4.heap _
    exact ⟨b1, b4_0, k4_0, rfl, N11, K13, (Nat.le_of_eq g1.symm), (Nat.le_trans z15 gb4_0), f14, F4_3, F4_2, F4_0, F4_1⟩
  · show SS p e below s₁ m 0 #[rv a1] [] _
    refine st1 _ ?_
    refine XS.dup X1.here hx rfl (hb hby d_327) rfl rfl ?_
    refine XS.aloadN X1.here hx rfl (hb hby d_328) rfl rfl ?_
    refine st4 _ ?_
    exact retOut X4 hx hret rfl (Or.inr (Or.inr (Or.inr (Or.inr ⟨rfl, rfl, rfl⟩)))) (hb hby d_429) hr
def Q121_toString (Z : State) (a1 : Addr) (a2 : Addr) (a3 : Addr) (k4 : ClassId) (p5 : Int32) (p6 : Int32) (p7 : Int32) (a8 : Addr) (a9 : Addr) (k10 : ClassId) (p11 : Int32) (h0 : Heap) (n0 : Nat) (v : Option Value) (h : Heap) (L : List Loc) : Prop := ∃ (b68_0 : Addr) (b68_1 : Addr) (k68_0 : ClassId), v = some (.ref b68_0) ∧ Fr n0 L ∧ Keep h0 h [] ∧ h0.size ≤ b68_0 ∧ h0.size ≤ b68_1 ∧ EA44 Z h b68_0 ∧ FA37 Z h b68_0 (.ref b68_1) ∧ FA38 Z h b68_0 o0 ∧ Arv Z h b68_1 k68_0 .byte (5 : Int32) [(.int p5), (.int p6), (.int (58 : Int32)), (.int (32 : Int32)), (.int p11)] o0 ∧ EA46 Z h b68_1
theorem rm121_toString (l : Launch) (Z : State) (a0 : Array Value) (hw : HW Z a0) (a1 : Addr) (a2 : Addr) (a3 : Addr) (k4 : ClassId) (p5 : Int32) (p6 : Int32) (p7 : Int32) (a8 : Addr) (a9 : Addr) (k10 : ClassId) (p11 : Int32) (h0 : Heap) (n0 : Nat) (O0 : Old Z n0 h0) (F_0 : FA39 Z h0 a1 (.ref a2)) (F_1 : EA44 Z h0 a2) (F_2 : FA37 Z h0 a2 (.ref a3)) (F_3 : Arv Z h0 a3 k4 .byte (2 : Int32) [(.int p5), (.int p6)] o0) (S_4 : SA48 Z Z.heap (.int p7)) (hc_5 : ¬ (p7 = (0 : Int32))) (lt_6 : a1 < h0.size) (F_7 : FA38 Z h0 a2 o0) (lt_8 : a2 < h0.size) (lt_9 : a3 < h0.size) (F_10 : FA40 Z h0 a1 (.ref a8)) (F_11 : EA44 Z h0 a8) (F_12 : FA37 Z h0 a8 (.ref a9)) (F_13 : Arv Z h0 a9 k10 .byte (1 : Int32) [(.int p11)] o0) (F_14 : FA38 Z h0 a8 o0) (lt_15 : a8 < h0.size) (lt_16 : a9 < h0.size) :
    MetH l Z [] MY6 prog_7_method_2_code 1 (some (.object "java/lang/String")) ({ frames := 6, cells := 6, slots := 41, locals := 100 } : Room) #[(.ref a1)] h0 consts_1 [] (Q121_toString Z a1 a2 a3 k4 p5 p6 p7 a8 a9 k10 p11 h0 n0) := by
  have W := @own_W _ _ hw
  refine own_mkH (plainFor_of_name pn_55) ?_
  intro p e s m below meth c s₁ hZ hx hby hml hown hnm hret hlk X0 e0 H0 hsf
  have N0 := Fr.nil n0
  have C0 := CHr.refl H0
  have X1 := (show Stand p l e _ (s.setVm s.vm) m _ below meth c _ _ _ _ from X0)
  obtain ⟨T2, X2, e2, st2⟩ := getF X1 hx hZ hown (host := "") (Or.inl (W 39 rfl)) Via.refl e0 F_0 (g := (mkF m 1 #[rv a1] [(.ref a1)])) rfl rfl (hb hby d_58)
  obtain ⟨_, T3, L3, X3, hQ3, st3⟩ := own_cv X2 hx hZ hown hml (W 48 rfl) (W 49 rfl) (notFace_of_selects (W 51 rfl)) (W 51 rfl) (W 50 rfl) (W 7 rfl) (W 52 rfl) (rm89_isEmpty l Z a0 hw a2 a3 k4 p5 p6 h0 n0 O0 (F_2) (F_3)) e2 F_1 (hb hby d_59) 0 #[rv a1] [] [] pd_67
  obtain ⟨rfl, N3q, K3⟩ := hQ3
  have N4 := Fr.app N0 N3q
  obtain ⟨T5, h5, X5, e5, E5, A5, D5, -, st5⟩ := newO X3 hx hZ hown (W 69 rfl) (W 70 rfl) (W 71 rfl) K3 (g := (mkF m 17 #[rv a1] [])) rfl (hb hby d_186) (by decide) (by decide)
  obtain ⟨b5, g5⟩ : ∃ z, z = h0.size := ⟨_, rfl⟩
  rw [← g5] at A5 D5 st5
  have c6 := CHr.ext E5 H0
  have C7 := CHr.trans C0 c6
  have O8 := O0.ext E5
  have K9 : Keep h0 h5 [] := Keep.ext (Keep.refl h0 []) E5
  have g11 : n0 ≤ b5 := Nat.le_trans (Nat.le_trans (Nat.le_of_eq O0.1.symm) O0.2.1) (Nat.le_of_eq g5.symm)
  obtain ⟨_, T10, L10, X10, hQ10, st10⟩ := own_cp X5 hx hZ hown hml rfl (W 72 rfl) (W 73 rfl) (W 71 rfl) (W 74 rfl) (rm23_init l Z a0 hw b5 p7 h5 n0 O8 (S_4) (hc_5) (A5) ((D5 (Or.inl (W 84 rfl)) (ty := (.array .byte)) (by decide) : FA41 Z h5 b5 .null)) ((D5 (Or.inl (W 86 rfl)) (ty := .byte) (by decide) : FA42 Z h5 b5 o0)) ((D5 (Or.inl (W 108 rfl)) (ty := .int) (by decide) : FA43 Z h5 b5 o0)) (g11) (A5.lt)) e5 (hb hby d_188) 1 #[rv a1] b5 [] [(.ref b5)] pd_46
  obtain ⟨b10_0, k10_0, rfl, N10q, K10, gb10_0, F10_0, F10_1, F10_2, F10_3, F10_4⟩ := hQ10
  have N12 := Fr.app N4 N10q
  have s13 := Safe.exa (EL := consts_1) hZ.alike A5 (by decide) (by decide)
  have c14 := CHr.keep K10 (sfS s13 sf0) c6.1
  have C15 := CHr.trans C7 c14
  have O16 := O8.keep K10 (allS g11 all0)
  have K17 : Keep h0 T10.heap [] := Keep.trans K9 K10 (allS (Or.inr (Nat.le_of_eq g5.symm)) all0)
  have f19 := ((F_0.ext E5).keep K10 (ninS (Nat.ne_of_lt (Nat.lt_of_lt_of_le lt_6 (Nat.le_of_eq g5.symm))) nin0))
  obtain ⟨T18, X18, e18, st18⟩ := getF X10 hx hZ hown (host := "") (Or.inl (W 39 rfl)) Via.refl rfl f19 (g := (mkF m 25 #[rv a1] [(.ref a1), (.ref b5)])) rfl rfl (hb hby d_211)
  have f21 := ((F_1.ext E5).keep K10)
  have f22 := ((F_2.ext E5).keep K10 (ninS (Nat.ne_of_lt (Nat.lt_of_lt_of_le lt_8 (Nat.le_of_eq g5.symm))) nin0))
  have f23 := ((F_3.ext E5).keep K10 (ninS (Nat.ne_of_lt (Nat.lt_of_lt_of_le lt_9 (Nat.le_of_eq g5.symm))) nin0))
  have f24 := ((F_7.ext E5).keep K10 (ninS (Nat.ne_of_lt (Nat.lt_of_lt_of_le lt_8 (Nat.le_of_eq g5.symm))) nin0))
  have f25 := (A5.keep K10)
  have z26 : h0.size ≤ h5.size := E5.1
  have g27 : n0 ≤ b10_0 := Nat.le_trans (Nat.le_trans (Nat.le_trans (Nat.le_of_eq O0.1.symm) O0.2.1) z26) gb10_0
  obtain ⟨_, T20, L20, X20, hQ20, st20⟩ := own_cv X18 hx hZ hown hml (W 87 rfl) (W 88 rfl) (notFace_of_selects (W 90 rfl)) (W 90 rfl) (W 89 rfl) (W 71 rfl) (W 91 rfl) (rm94_append l Z a0 hw b5 a2 a3 k4 p5 p6 p7 b10_0 k10_0 T10.heap n0 O16 (f21) (f22) (f23) (S_4) (hc_5) (f24) (F10_4) (f25) (F10_2) (F10_0) (F10_3) (g27) ((Nat.ne_of_lt (Nat.lt_of_lt_of_le A5.lt gb10_0))) (g11)) e18 f25 (hb hby d_212) 0 #[rv a1] [(.ref a2)] [] pd_314
  obtain ⟨rfl, N20q, K20, F20_0, F20_1, F20_2, F20_3⟩ := hQ20
  have N28 := Fr.app N12 N20q
  have f29 := (Safe.keep K10 (sfS s13 sf0) c6.1 (Safe.new gb10_0))
  have s30 := Safe.exa (EL := consts_1) hZ.alike f25 (by decide) (by decide)
  have c31 := CHr.keep K20 (sfS s30 (sfS f29 sf0)) c14.1
  have C32 := CHr.trans C15 c31
  have O33 := O16.keep K20 (allS g11 (allS g27 all0))
  have K34 : Keep h0 T20.heap [] := Keep.trans K17 K20 (allS (Or.inr (Nat.le_of_eq g5.symm)) (allS (Or.inr (Nat.le_trans z26 gb10_0)) all0))
  obtain ⟨b35, T35, h35, k35, b35v, kc35, X35, e35, E35, hS35, hk35, hZ35, hown35, Le35, Lc35, Lv35, La35, Lx35, Lb35, c35, -, Ln35, st35⟩ := ldcCH (s := s) (vm0 := s.vm) (EL := consts_1) X20 hx hZ hown (W 134 rfl) (own_str_20 hw) rfl ((State.WarmedH.refl s).since 0) (Nat.zero_le _) (own_ew_21 hw) (List.mem_of_getElem? (i := 0) rfl) c31.1 (vs := [(.int (58 : Int32)), (.int (32 : Int32))]) (z := (2 : Int32)) ⟨by decide, by decide⟩ (by decide) rfl (g := (mkF m 31 #[rv a1] [(.ref b5)])) rfl (hb hby d_315) (n := 8) (by decide) (by decide) (by decide) (by decide)
  have C36 := CHr.trans C32 c35
  have O37 := O33.ext E35
  have K38 : Keep h0 h35 [] := Keep.ext K34 E35
  have f40 := (F20_0.ext E35)
  have f41 := ((f25.keep K20).ext E35)
  have f42 := (F20_1.ext E35)
  have f43 := (F20_2.ext E35)
  have f44 := (F20_3.ext E35)
  obtain ⟨_, T39, L39, X39, hQ39, st39⟩ := own_cv X35 hx hZ35 hown35 hml (W 87 rfl) (W 88 rfl) (notFace_of_selects (W 90 rfl)) (W 90 rfl) (W 89 rfl) (W 71 rfl) (W 91 rfl) (rm99_append l Z a0 hw b5 b35 b35v kc35 p7 b10_0 k10_0 p5 p6 h35 n0 O37 (Le35) (Lv35) (La35) (S_4) (hc_5) (Lc35) (f40) (f41) (f42) (f43) (f44) (g27) ((Nat.ne_of_lt (Nat.lt_of_lt_of_le A5.lt gb10_0))) (g11)) e35 f41 (hb hby d_316) 0 #[rv a1] [(.ref b35)] [] pd_314
  obtain ⟨rfl, N39q, K39, F39_0, F39_1, F39_2, F39_3⟩ := hQ39
  have N45 := Fr.app N28 N39q
  have z46 : T10.heap.size ≤ T20.heap.size := K20.1
  have f47 := (CHr.safe c35 (Nat.lt_of_lt_of_le F10_0.lt z46) (Safe.keep K20 (sfS s30 (sfS f29 sf0)) c14.1 f29))
  have s48 := Safe.exa (EL := consts_1) hZ35.alike f41 (by decide) (by decide)
  have c49 := CHr.keep K39 (sfS s48 (sfS f47 sf0)) c35.1
  have C50 := CHr.trans C36 c49
  have O51 := O37.keep K39 (allS g11 (allS g27 all0))
  have K52 : Keep h0 T39.heap [] := Keep.trans K38 K39 (allS (Or.inr (Nat.le_of_eq g5.symm)) (allS (Or.inr (Nat.le_trans z26 gb10_0)) all0))
  have f54 := (((((F_10.ext E5).keep K10 (ninS (Nat.ne_of_lt (Nat.lt_of_lt_of_le lt_6 (Nat.le_of_eq g5.symm))) nin0)).keep K20 (ninS (Nat.ne_of_lt (Nat.lt_of_lt_of_le lt_6 (Nat.le_of_eq g5.symm))) (ninS (Nat.ne_of_lt (Nat.lt_of_lt_of_le (Nat.lt_of_lt_of_le lt_6 z26) gb10_0)) nin0))).ext E35).keep K39 (ninS (Nat.ne_of_lt (Nat.lt_of_lt_of_le lt_6 (Nat.le_of_eq g5.symm))) (ninS (Nat.ne_of_lt (Nat.lt_of_lt_of_le (Nat.lt_of_lt_of_le lt_6 z26) gb10_0)) nin0)))
  obtain ⟨T53, X53, e53, st53⟩ := getF X39 hx hZ35 hown35 (host := "") (Or.inl (W 41 rfl)) Via.refl rfl f54 (g := (mkF m 37 #[rv a1] [(.ref a1), (.ref b5)])) rfl rfl (hb hby d_321)
  have f56 := (((((F_11.ext E5).keep K10).keep K20).ext E35).keep K39)
  have f57 := (((((F_12.ext E5).keep K10 (ninS (Nat.ne_of_lt (Nat.lt_of_lt_of_le lt_15 (Nat.le_of_eq g5.symm))) nin0)).keep K20 (ninS (Nat.ne_of_lt (Nat.lt_of_lt_of_le lt_15 (Nat.le_of_eq g5.symm))) (ninS (Nat.ne_of_lt (Nat.lt_of_lt_of_le (Nat.lt_of_lt_of_le lt_15 z26) gb10_0)) nin0))).ext E35).keep K39 (ninS (Nat.ne_of_lt (Nat.lt_of_lt_of_le lt_15 (Nat.le_of_eq g5.symm))) (ninS (Nat.ne_of_lt (Nat.lt_of_lt_of_le (Nat.lt_of_lt_of_le lt_15 z26) gb10_0)) nin0)))
  have f58 := (((((F_13.ext E5).keep K10 (ninS (Nat.ne_of_lt (Nat.lt_of_lt_of_le lt_16 (Nat.le_of_eq g5.symm))) nin0)).keep K20 (ninS (Nat.ne_of_lt (Nat.lt_of_lt_of_le lt_16 (Nat.le_of_eq g5.symm))) (ninS (Nat.ne_of_lt (Nat.lt_of_lt_of_le (Nat.lt_of_lt_of_le lt_16 z26) gb10_0)) nin0))).ext E35).keep K39 (ninS (Nat.ne_of_lt (Nat.lt_of_lt_of_le lt_16 (Nat.le_of_eq g5.symm))) (ninS (Nat.ne_of_lt (Nat.lt_of_lt_of_le (Nat.lt_of_lt_of_le lt_16 z26) gb10_0)) nin0)))
  have f59 := (((((F_14.ext E5).keep K10 (ninS (Nat.ne_of_lt (Nat.lt_of_lt_of_le lt_15 (Nat.le_of_eq g5.symm))) nin0)).keep K20 (ninS (Nat.ne_of_lt (Nat.lt_of_lt_of_le lt_15 (Nat.le_of_eq g5.symm))) (ninS (Nat.ne_of_lt (Nat.lt_of_lt_of_le (Nat.lt_of_lt_of_le lt_15 z26) gb10_0)) nin0))).ext E35).keep K39 (ninS (Nat.ne_of_lt (Nat.lt_of_lt_of_le lt_15 (Nat.le_of_eq g5.symm))) (ninS (Nat.ne_of_lt (Nat.lt_of_lt_of_le (Nat.lt_of_lt_of_le lt_15 z26) gb10_0)) nin0)))
  have f60 := (f41.keep K39)
  obtain ⟨_, T55, L55, X55, hQ55, st55⟩ := own_cv X53 hx hZ35 hown35 hml (W 87 rfl) (W 88 rfl) (notFace_of_selects (W 90 rfl)) (W 90 rfl) (W 89 rfl) (W 71 rfl) (W 91 rfl) (rm115_append l Z a0 hw b5 a8 a9 k10 p11 p7 b10_0 k10_0 p5 p6 T39.heap n0 O51 (f56) (f57) (f58) (S_4) (hc_5) (f59) (F39_0) (f60) (F39_1) (F39_2) (F39_3) (g27) ((Nat.ne_of_lt (Nat.lt_of_lt_of_le A5.lt gb10_0))) (g11)) e53 f60 (hb hby d_322) 0 #[rv a1] [(.ref a8)] [] pd_314
  obtain ⟨rfl, N55q, K55, F55_0, F55_1, F55_2, F55_3⟩ := hQ55
  have N61 := Fr.app N45 N55q
  have f62 := (Safe.keep K39 (sfS s48 (sfS f47 sf0)) c35.1 f47)
  have s63 := Safe.exa (EL := consts_1) hZ35.alike f60 (by decide) (by decide)
  have c64 := CHr.keep K55 (sfS s63 (sfS f62 sf0)) c49.1
  have C65 := CHr.trans C50 c64
  have O66 := O51.keep K55 (allS g11 (allS g27 all0))
  have K67 : Keep h0 T55.heap [] := Keep.trans K52 K55 (allS (Or.inr (Nat.le_of_eq g5.symm)) (allS (Or.inr (Nat.le_trans z26 gb10_0)) all0))
  have f69 := (f60.keep K55)
  have z70 : T10.heap.size ≤ h35.size := (Nat.le_trans z46 E35.1)
  have z71 : T10.heap.size ≤ T39.heap.size := (Nat.le_trans z70 K39.1)
  have z72 : T10.heap.size ≤ T55.heap.size := (Nat.le_trans z71 K55.1)
  obtain ⟨_, T68, L68, X68, hQ68, st68⟩ := own_cv X55 hx hZ35 hown35 hml (W 135 rfl) (W 136 rfl) (notFace_of_selects (W 138 rfl)) (W 138 rfl) (W 137 rfl) (W 71 rfl) (W 139 rfl) (rm120_toString l Z a0 hw b5 b10_0 p7 k10_0 p5 p6 p11 T55.heap n0 O66 (f69) (F55_1) (F55_0) (S_4) (hc_5) (F55_3) (F55_2) ((Nat.lt_of_lt_of_le F10_0.lt z72))) rfl f69 (hb hby d_325) 0 #[rv a1] [] [] pd_73
  obtain ⟨b68_0, b68_1, k68_0, rfl, N68q, K68, gb68_0, gb68_1, F68_0, F68_1, F68_2, F68_3, F68_4⟩ := hQ68
  have N73 := Fr.app N61 N68q
  have c74 := CHr.keep K68 sf0 c64.1
  have C75 := CHr.trans C65 c74
  have O76 := O66.keep K68 all0
  have K77 : Keep h0 T68.heap [] := Keep.trans K67 K68 all0
  have z78 : h35.size ≤ T39.heap.size := K39.1
  have z79 : h35.size ≤ T55.heap.size := (Nat.le_trans z78 K55.1)
  have z80 : h35.size ≤ T68.heap.size := (Nat.le_trans z79 K68.1)
  have z81 : h0.size ≤ T10.heap.size := (Nat.le_trans z26 K10.1)
  have z82 : h0.size ≤ T20.heap.size := (Nat.le_trans z81 K20.1)
  have z83 : h0.size ≤ h35.size := (Nat.le_trans z82 E35.1)
  have z84 : h0.size ≤ T39.heap.size := (Nat.le_trans z83 K39.1)
  have z85 : h0.size ≤ T55.heap.size := (Nat.le_trans z84 K55.1)
  refine ⟨T68, some (.ref b68_0), _, _, _, T35.vm, _, X68, hS35, (Nat.le_trans hk35 z80), by decide, by decide, nofun, ?_, own_che rfl (CHr.trans C75 (CHv.at (s := s) X68 hZ35 (own_ew_21 hw) c74.1)), fun fs hr => castTop (ef_44 m a1) ?_⟩
  · show Q121_toString Z a1 a2 a3 k4 p5 p6 p7 a8 a9 k10 p11 h0 n0 _ T68.heap _
    exact ⟨b68_0, b68_1, k68_0, rfl, N73, K77, (Nat.le_trans z85 gb68_0), (Nat.le_trans z85 gb68_1), F68_0, F68_1, F68_2, F68_3, F68_4⟩
  · show SS p e below s₁ m 0 #[rv a1] [] _
    refine XS.aloadN X1.here hx rfl (hb hby d_57) rfl rfl ?_
    refine st2 _ ?_
    refine st3 _ ?_
    refine XS.ifYes X3.here hx rfl (pc0 := 7) (pc' := 17) rfl (hb hby d_68) rfl ((if0 _ _).trans (teq (by decide : (0 : Int32) = (0 : Int32))).1) (by decide) (by decide) ?_
    refine st5 _ ?_
    refine XS.dup X5.here hx rfl (hb hby d_187) rfl rfl ?_
    refine st10 _ ?_
    refine XS.aloadN X10.here hx rfl (hb hby d_210) rfl rfl ?_
    refine st18 _ ?_
    refine st20 _ ?_
    show SS p e below T20 m 31 #[rv a1] [(.ref b5)] _
    refine st35 _ ?_
    refine st39 _ ?_
    refine XS.aloadN X39.here hx rfl (hb hby d_320) rfl rfl ?_
    refine st53 _ ?_
    refine st55 _ ?_
    refine st68 _ ?_
    exact retOut X68 hx hret rfl (Or.inr (Or.inr (Or.inr (Or.inr ⟨rfl, rfl, rfl⟩)))) (hb hby d_72) hr
theorem rm0_2_1 (l : Launch) (Z : State) (a0 : Array Value) (hw : HW Z a0) (ws : List Jvm.Cond) (p1 : Int32) (p2 : Int32) (p3 : Int32) (p4 : Int32) (p5 : Int32) (c0 : Int32) (c1 : Int32) (d0 : Int32) (d1 : Int32) (o_COMPACT_STRINGS : Int32) (o_SIOOBE_FORMATTER : Value) (h0 : Heap) (n0 : Nat) (O0 : Old Z n0 h0) (S_o_COMPACT_STRINGS : SA48 Z Z.heap (.int o_COMPACT_STRINGS)) (S_o_SIOOBE_FORMATTER : SA49 Z Z.heap o_SIOOBE_FORMATTER) (nz_o_COMPACT_STRINGS : ¬ (o_COMPACT_STRINGS = (0 : Int32))) (ir_o_SIOOBE_FORMATTER : o_SIOOBE_FORMATTER.isRef = true) (hpl : ((p1 &&& (2147483647 : Int32)) % (3 : Int32)) = (2 : Int32)) (hml_ : ((((p1.toUInt32 >>> ((8 : Int32) &&& 31).toUInt32).toInt32) &&& (2147483647 : Int32)) % (3 : Int32)) = (1 : Int32)) (h_c0 : ((p2 &&& (255 : Int32)).toUInt32.toUInt16.toUInt32.toInt32) = c0) (r_c0 : ¬ ((255 : Int32) < c0)) (n_c0 : ¬ (c0 < (0 : Int32))) (i_c0 : (c0.toUInt32.toUInt16.toUInt32.toInt32) = c0) (b_c0 : ((c0.toInt8.toInt32) &&& (255 : Int32)) = c0) (h_c1 : ((p3 &&& (255 : Int32)).toUInt32.toUInt16.toUInt32.toInt32) = c1) (r_c1 : ¬ ((255 : Int32) < c1)) (n_c1 : ¬ (c1 < (0 : Int32))) (i_c1 : (c1.toUInt32.toUInt16.toUInt32.toInt32) = c1) (b_c1 : ((c1.toInt8.toInt32) &&& (255 : Int32)) = c1) (h_d0 : ((p4 &&& (255 : Int32)).toUInt32.toUInt16.toUInt32.toInt32) = d0) (r_d0 : ¬ ((255 : Int32) < d0)) (n_d0 : ¬ (d0 < (0 : Int32))) (i_d0 : (d0.toUInt32.toUInt16.toUInt32.toInt32) = d0) (b_d0 : ((d0.toInt8.toInt32) &&& (255 : Int32)) = d0) (h_d1 : ((p5 &&& (255 : Int32)).toUInt32.toUInt16.toUInt32.toInt32) = d1) (r_d1 : ¬ ((255 : Int32) < d1)) (n_d1 : ¬ (d1 < (0 : Int32))) (i_d1 : (d1.toUInt32.toUInt16.toUInt32.toInt32) = d1) (b_d1 : ((d1.toInt8.toInt32) &&& (255 : Int32)) = d1) :
    MetH l Z ws x code maxLocals ret room_1 #[(.int p1), (.int p2), (.int p3), (.int p4), (.int p5)] h0 consts_1 [] (fun v _ L => Q0 n0 v L) := by
  have W := @own_W _ _ hw
  refine own_mkH (plainFor_of_name pn_37) ?_
  intro p e s m below meth c s₁ hZ hx hby hml hown hnm hret hlk X0 e0 H0 hsf
  have N0 := Fr.nil n0
  have C0 := CHr.refl H0
  have X1 := (show Stand p l e _ (s.setVm s.vm) m _ below meth c _ _ _ _ from X0)
  obtain ⟨_, T2, L2, X2, hQ2, st2⟩ := own_cs X1 hx hZ hown hml (W 1 rfl) (W 2 rfl) (W 3 rfl) (W 4 rfl) (rm20_mk l Z a0 hw c0 c1 o_COMPACT_STRINGS h0 n0 O0 (i_c0) (i_c1) (S_o_COMPACT_STRINGS) (nz_o_COMPACT_STRINGS) (r_c0) (r_c1)) e0 (hb hby at_58) 0 #[iv p1, iv p2, iv p3, iv p4, iv p5, iv (2 : Int32), iv (1 : Int32), iv c0, iv c1, iv d0, iv d1, .unset, .unset, .unset] [(.int (2 : Int32)), (.int c0), (.int c1)] [] pd_38
  obtain ⟨b2_0, b2_1, k2_0, rfl, N2q, K2, gb2_0, gb2_1, F2_0, F2_1, F2_2, F2_3, F2_4⟩ := hQ2
  have N3 := Fr.app N0 N2q
  have c4 := CHr.keep K2 sf0 H0
  have C5 := CHr.trans C0 c4
  have O6 := O0.keep K2 all0
  have K7 : Keep h0 T2.heap [] := Keep.trans (Keep.refl h0 []) K2 all0
  obtain ⟨_, T8, L8, X8, hQ8, st8⟩ := own_cs X2 hx hZ hown hml (W 1 rfl) (W 2 rfl) (W 3 rfl) (W 4 rfl) (rm14_mk l Z a0 hw d0 d1 o_COMPACT_STRINGS T2.heap n0 O6 (i_d0) (S_o_COMPACT_STRINGS) (nz_o_COMPACT_STRINGS) (r_d0)) rfl (hb hby at_69) 0 #[iv p1, iv p2, iv p3, iv p4, iv p5, iv (2 : Int32), iv (1 : Int32), iv c0, iv c1, iv d0, iv d1, rv b2_0, .unset, .unset] [(.int (1 : Int32)), (.int d0), (.int d1)] [] pd_38
  obtain ⟨b8_0, b8_1, k8_0, rfl, N8q, K8, gb8_0, gb8_1, F8_0, F8_1, F8_2, F8_3, F8_4⟩ := hQ8
  have N9 := Fr.app N3 N8q
  have c10 := CHr.keep K8 sf0 c4.1
  have C11 := CHr.trans C5 c10
  have O12 := O6.keep K8 all0
  have K13 : Keep h0 T8.heap [] := Keep.trans K7 K8 all0
  obtain ⟨T14, h14, X14, e14, E14, A14, D14, -, st14⟩ := newO X8 hx hZ hown (W 27 rfl) (W 28 rfl) (W 29 rfl) rfl (g := (mkF m 74 #[iv p1, iv p2, iv p3, iv p4, iv p5, iv (2 : Int32), iv (1 : Int32), iv c0, iv c1, iv d0, iv d1, rv b2_0, rv b8_0, .unset] [])) rfl (hb hby at_74) (by decide) (by decide)
  obtain ⟨b14, g14⟩ : ∃ z, z = T8.heap.size := ⟨_, rfl⟩
  rw [← g14] at A14 D14 st14
  have c15 := CHr.ext E14 c10.1
  have C16 := CHr.trans C11 c15
  have O17 := O12.ext E14
  have K18 : Keep h0 h14 [] := Keep.ext K13 E14
  have z20 : h0.size ≤ T2.heap.size := K2.1
  have z21 : h0.size ≤ T8.heap.size := (Nat.le_trans z20 K8.1)
  have g22 : n0 ≤ b14 := Nat.le_trans (Nat.le_trans (Nat.le_trans (Nat.le_of_eq O0.1.symm) O0.2.1) z21) (Nat.le_of_eq g14.symm)
  obtain ⟨_, T19, L19, X19, hQ19, st19⟩ := own_cp X14 hx hZ hown hml rfl (W 30 rfl) (W 31 rfl) (W 29 rfl) (W 32 rfl) (rm5_init l Z a0 hw b14 b2_0 b8_0 h14 n0 O17 (A14) ((D14 (Or.inr (W 40 rfl)) (ty := (.object "java/lang/String")) (by decide) : FA39 Z h14 b14 .null)) (g22) ((D14 (Or.inr (W 42 rfl)) (ty := (.object "java/lang/String")) (by decide) : FA40 Z h14 b14 .null))) e14 (hb hby at_82) 1 #[iv p1, iv p2, iv p3, iv p4, iv p5, iv (2 : Int32), iv (1 : Int32), iv c0, iv c1, iv d0, iv d1, rv b2_0, rv b8_0, .unset] b14 [(.ref b2_0), (.ref b8_0)] [(.ref b14)] pd_56
  obtain ⟨rfl, N19q, K19, F19_0, F19_1⟩ := hQ19
  have N23 := Fr.app N9 N19q
  have s24 := Safe.exa (EL := consts_1) hZ.alike A14 (by decide) (by decide)
  have c25 := CHr.keep K19 (sfS s24 sf0) c15.1
  have C26 := CHr.trans C16 c25
  have O27 := O17.keep K19 (allS g22 all0)
  have K28 : Keep h0 T19.heap [] := Keep.trans K18 K19 (allS (Or.inr (Nat.le_trans z21 (Nat.le_of_eq g14.symm))) all0)
  have f30 := (((F2_0.keep K8).ext E14).keep K19)
  have z31 : T2.heap.size ≤ T8.heap.size := K8.1
  have f32 := (((F2_1.keep K8 nin0).ext E14).keep K19 (ninS (Nat.ne_of_lt (Nat.lt_of_lt_of_le (Nat.lt_of_lt_of_le F2_0.lt z31) (Nat.le_of_eq g14.symm))) nin0))
  have f33 := (((F2_3.keep K8 nin0).ext E14).keep K19 (ninS (Nat.ne_of_lt (Nat.lt_of_lt_of_le (Nat.lt_of_lt_of_le F2_3.lt z31) (Nat.le_of_eq g14.symm))) nin0))
  have z34 : h14.size ≤ T19.heap.size := K19.1
  have f35 := (((F2_2.keep K8 nin0).ext E14).keep K19 (ninS (Nat.ne_of_lt (Nat.lt_of_lt_of_le (Nat.lt_of_lt_of_le F2_0.lt z31) (Nat.le_of_eq g14.symm))) nin0))
  have z36 : T2.heap.size ≤ h14.size := (Nat.le_trans z31 E14.1)
  have z37 : T2.heap.size ≤ T19.heap.size := (Nat.le_trans z36 K19.1)
  have f38 := ((F8_0.ext E14).keep K19)
  have f39 := ((F8_1.ext E14).keep K19 (ninS (Nat.ne_of_lt (Nat.lt_of_lt_of_le F8_0.lt (Nat.le_of_eq g14.symm))) nin0))
  have f40 := ((F8_3.ext E14).keep K19 (ninS (Nat.ne_of_lt (Nat.lt_of_lt_of_le F8_3.lt (Nat.le_of_eq g14.symm))) nin0))
  have f41 := ((F8_2.ext E14).keep K19 (ninS (Nat.ne_of_lt (Nat.lt_of_lt_of_le F8_0.lt (Nat.le_of_eq g14.symm))) nin0))
  have z42 : T8.heap.size ≤ h14.size := E14.1
  have z43 : T8.heap.size ≤ T19.heap.size := (Nat.le_trans z42 K19.1)
  have f44 := (A14.keep K19)
  obtain ⟨cq29, kq29, q29a, q29b, q29c⟩ := isOf hZ rfl f44
  obtain ⟨_, _, ⟨T29, L29, k29, n29⟩, -, Y29, hs29, hg29, ⟨Lc29, hQ29, l29, y29, z29, c29⟩, st29⟩ := X19.virtualBackS hx (y := MY6) (z := MY6) hown (mvT hZ (W 43 rfl)) (mvT hZ (W 44 rfl)) (notFace_of_selects (args := #[]) (mvT hZ (W 46 rfl))) (mvT hZ (W 46 rfl)) (mvT hZ (W 45 rfl)) (by decide) (own_backH (s := s) (vm0 := s.vm) (W := 0) (rm121_toString l Z a0 hw b14 b2_0 b2_1 k2_0 (c0.toInt8.toInt32) (c1.toInt8.toInt32) o_COMPACT_STRINGS b8_0 b8_1 k8_0 (d0.toInt8.toInt32) T19.heap n0 O27 (F19_0) (f30) (f32) (f33) (S_o_COMPACT_STRINGS) (nz_o_COMPACT_STRINGS) ((Nat.lt_of_lt_of_le A14.lt z34)) (f35) ((Nat.lt_of_lt_of_le F2_0.lt z37)) ((Nat.lt_of_lt_of_le F2_3.lt z37)) (F19_1) (f38) (f39) (f40) (f41) ((Nat.lt_of_lt_of_le F8_0.lt z43)) ((Nat.lt_of_lt_of_le F8_3.lt z43))) hZ (W 47 rfl) (W 29 rfl) (by decide) (by decide) (own_ew_21 hw) c25.1 own_sf0) q29a q29c (g := (mkF m 85 #[iv p1, iv p2, iv p3, iv p4, iv p5, iv (2 : Int32), iv (1 : Int32), iv c0, iv c1, iv d0, iv d1, rv b2_0, rv b8_0, .unset] [(.ref b14)])) rfl (by rw [hml]; rfl) (Steps.refl _) (argsL := []) (rest := []) (lenOf pd_73 rfl) rfl (by show 2 * 0 + _ ≤ _; exact Nat.le_of_eq rfl) (hb hby at_85) (fun _ _ => ⟨rfl, rfl, (by decide : 7 + 6 ≤ _), (by decide : 16 + 41 ≤ _)⟩)
  dsimp only [Pt.U, Pt.locs, Pt.cells, Pt.slots] at Y29 l29 y29 z29 st29 hQ29 hs29 hg29 c29
  subst l29 y29 z29
  obtain ⟨X29, hS29, hZ29, hown29⟩ := rebS (s := s) (vm0 := s.vm) ((State.WarmedH.refl s).since 0) (Nat.zero_le _) Y29 hs29 hg29 hZ hown
  obtain ⟨b29_0, b29_1, k29_0, rfl, N29q, K29, gb29_0, gb29_1, F29_0, F29_1, F29_2, F29_3, F29_4⟩ := hQ29
  have N45 := Fr.app N23 N29q
  have C46 := CHr.trans C26 c29
  have O47 := O27.keep K29 all0
  have K48 : Keep h0 T29.heap [] := Keep.trans K28 K29 all0
  obtain ⟨_, T49, L49, X49, hQ49, st49⟩ := own_cv X29 hx hZ29 hown29 hml (W 180 rfl) (W 98 rfl) (notFace_of_selects (W 100 rfl)) (W 100 rfl) (W 99 rfl) (W 7 rfl) (W 101 rfl) (rm25_length l Z a0 hw b29_0 b29_1 k29_0 (5 : Int32) [(.int (c0.toInt8.toInt32)), (.int (c1.toInt8.toInt32)), (.int (58 : Int32)), (.int (32 : Int32)), (.int (d0.toInt8.toInt32))] o_COMPACT_STRINGS T29.heap n0 O47 (F29_1) (F29_3) (F29_0) (S_o_COMPACT_STRINGS) (nz_o_COMPACT_STRINGS) (F29_2) ((by decide))) rfl F29_0 (hb hby at_112) 0 #[iv p1, iv p2, iv p3, iv p4, iv p5, iv (2 : Int32), iv (1 : Int32), iv c0, iv c1, iv d0, iv d1, rv b2_0, rv b8_0, rv b29_0] [] [] pd_234
  obtain ⟨rfl, N49q, K49⟩ := hQ49
  have N50 := Fr.app N45 N49q
  obtain ⟨_, T51, L51, X51, hQ51, st51⟩ := own_cv X49 hx hZ29 hown29 hml (W 181 rfl) (W 182 rfl) (notFace_of_selects (W 184 rfl)) (W 184 rfl) (W 183 rfl) (W 7 rfl) (W 185 rfl) (rm58_charAt l Z a0 hw b29_0 (0 : Int32) o_COMPACT_STRINGS b29_1 k29_0 (5 : Int32) [(.int (c0.toInt8.toInt32)), (.int (c1.toInt8.toInt32)), (.int (58 : Int32)), (.int (32 : Int32)), (.int (d0.toInt8.toInt32))] o_SIOOBE_FORMATTER (c0.toInt8.toInt32) c0 T29.heap n0 O47 (F29_0) (S_o_COMPACT_STRINGS) (nz_o_COMPACT_STRINGS) (F29_2) (F29_1) (F29_3) (S_o_SIOOBE_FORMATTER) ((by decide : ¬ ((0 : Int32) < (0 : Int32)))) ((by decide : (0 : Int32) < (5 : Int32))) (rfl) (b_c0) (i_c0) (ir_o_SIOOBE_FORMATTER) (i_c0)) K49 F29_0 (hb hby at_130) 0 #[iv p1, iv p2, iv p3, iv p4, iv p5, iv (2 : Int32), iv (1 : Int32), iv c0, iv c1, iv d0, iv d1, rv b2_0, rv b8_0, rv b29_0] [o0] [] pd_476
  obtain ⟨rfl, N51q, K51⟩ := hQ51
  have N52 := Fr.app N50 N51q
  obtain ⟨_, T53, L53, X53, hQ53, st53⟩ := own_cv X51 hx hZ29 hown29 hml (W 181 rfl) (W 182 rfl) (notFace_of_selects (W 184 rfl)) (W 184 rfl) (W 183 rfl) (W 7 rfl) (W 185 rfl) (rm58_charAt l Z a0 hw b29_0 (1 : Int32) o_COMPACT_STRINGS b29_1 k29_0 (5 : Int32) [(.int (c0.toInt8.toInt32)), (.int (c1.toInt8.toInt32)), (.int (58 : Int32)), (.int (32 : Int32)), (.int (d0.toInt8.toInt32))] o_SIOOBE_FORMATTER (c1.toInt8.toInt32) c1 T29.heap n0 O47 (F29_0) (S_o_COMPACT_STRINGS) (nz_o_COMPACT_STRINGS) (F29_2) (F29_1) (F29_3) (S_o_SIOOBE_FORMATTER) ((by decide : ¬ ((1 : Int32) < (0 : Int32)))) ((by decide : (1 : Int32) < (5 : Int32))) (rfl) (b_c1) (i_c1) (ir_o_SIOOBE_FORMATTER) (i_c1)) K51 F29_0 (hb hby at_149) 0 #[iv p1, iv p2, iv p3, iv p4, iv p5, iv (2 : Int32), iv (1 : Int32), iv c0, iv c1, iv d0, iv d1, rv b2_0, rv b8_0, rv b29_0] [(.int (1 : Int32))] [] pd_476
  obtain ⟨rfl, N53q, K53⟩ := hQ53
  have N54 := Fr.app N52 N53q
  obtain ⟨_, T55, L55, X55, hQ55, st55⟩ := own_cv X53 hx hZ29 hown29 hml (W 181 rfl) (W 182 rfl) (notFace_of_selects (W 184 rfl)) (W 184 rfl) (W 183 rfl) (W 7 rfl) (W 185 rfl) (rm60_charAt l Z a0 hw b29_0 (2 : Int32) o_COMPACT_STRINGS b29_1 k29_0 (5 : Int32) [(.int (c0.toInt8.toInt32)), (.int (c1.toInt8.toInt32)), (.int (58 : Int32)), (.int (32 : Int32)), (.int (d0.toInt8.toInt32))] o_SIOOBE_FORMATTER (58 : Int32) T29.heap n0 O47 (F29_0) (S_o_COMPACT_STRINGS) (nz_o_COMPACT_STRINGS) (F29_2) (F29_1) (F29_3) (S_o_SIOOBE_FORMATTER) ((by decide : ¬ ((2 : Int32) < (0 : Int32)))) ((by decide : (2 : Int32) < (5 : Int32))) (rfl) ((by decide)) ((by decide)) (ir_o_SIOOBE_FORMATTER) ((by decide))) K53 F29_0 (hb hby at_163) 0 #[iv p1, iv p2, iv p3, iv p4, iv p5, iv (2 : Int32), iv (1 : Int32), iv c0, iv c1, iv d0, iv d1, rv b2_0, rv b8_0, rv b29_0] [(.int (2 : Int32))] [] pd_476
  obtain ⟨rfl, N55q, K55⟩ := hQ55
  have N56 := Fr.app N54 N55q
  obtain ⟨_, T57, L57, X57, hQ57, st57⟩ := own_cv X55 hx hZ29 hown29 hml (W 181 rfl) (W 182 rfl) (notFace_of_selects (W 184 rfl)) (W 184 rfl) (W 183 rfl) (W 7 rfl) (W 185 rfl) (rm60_charAt l Z a0 hw b29_0 (3 : Int32) o_COMPACT_STRINGS b29_1 k29_0 (5 : Int32) [(.int (c0.toInt8.toInt32)), (.int (c1.toInt8.toInt32)), (.int (58 : Int32)), (.int (32 : Int32)), (.int (d0.toInt8.toInt32))] o_SIOOBE_FORMATTER (32 : Int32) T29.heap n0 O47 (F29_0) (S_o_COMPACT_STRINGS) (nz_o_COMPACT_STRINGS) (F29_2) (F29_1) (F29_3) (S_o_SIOOBE_FORMATTER) ((by decide : ¬ ((3 : Int32) < (0 : Int32)))) ((by decide : (3 : Int32) < (5 : Int32))) (rfl) ((by decide)) ((by decide)) (ir_o_SIOOBE_FORMATTER) ((by decide))) K55 F29_0 (hb hby at_179) 0 #[iv p1, iv p2, iv p3, iv p4, iv p5, iv (2 : Int32), iv (1 : Int32), iv c0, iv c1, iv d0, iv d1, rv b2_0, rv b8_0, rv b29_0] [(.int (3 : Int32))] [] pd_476
  obtain ⟨rfl, N57q, K57⟩ := hQ57
  have N58 := Fr.app N56 N57q
  obtain ⟨_, T59, L59, X59, hQ59, st59⟩ := own_cv X57 hx hZ29 hown29 hml (W 181 rfl) (W 182 rfl) (notFace_of_selects (W 184 rfl)) (W 184 rfl) (W 183 rfl) (W 7 rfl) (W 185 rfl) (rm58_charAt l Z a0 hw b29_0 (4 : Int32) o_COMPACT_STRINGS b29_1 k29_0 (5 : Int32) [(.int (c0.toInt8.toInt32)), (.int (c1.toInt8.toInt32)), (.int (58 : Int32)), (.int (32 : Int32)), (.int (d0.toInt8.toInt32))] o_SIOOBE_FORMATTER (d0.toInt8.toInt32) d0 T29.heap n0 O47 (F29_0) (S_o_COMPACT_STRINGS) (nz_o_COMPACT_STRINGS) (F29_2) (F29_1) (F29_3) (S_o_SIOOBE_FORMATTER) ((by decide : ¬ ((4 : Int32) < (0 : Int32)))) ((by decide : (4 : Int32) < (5 : Int32))) (rfl) (b_d0) (i_d0) (ir_o_SIOOBE_FORMATTER) (i_d0)) K57 F29_0 (hb hby at_201) 0 #[iv p1, iv p2, iv p3, iv p4, iv p5, iv (2 : Int32), iv (1 : Int32), iv c0, iv c1, iv d0, iv d1, rv b2_0, rv b8_0, rv b29_0] [(.int (4 : Int32))] [] pd_476
  obtain ⟨rfl, N59q, K59⟩ := hQ59
  have N60 := Fr.app N58 N59q
  refine ⟨T59, some (.int (1 : Int32)), _, _, _, T29.vm, _, X59, hS29, (by rw [K59]; exact (Nat.le_refl _)), by decide, by decide, nofun, ?_, own_che K59 (CHr.trans C46 (CHv.at (s := s) X59 hZ29 (own_ew_21 hw) c29.1)), fun fs hr => castTop (ef_81 m p1 p2 p3 p4 p5) ?_⟩
  · exact ⟨rfl, N60⟩
  · show SS p e below s₁ m 0 #[iv p1, iv p2, iv p3, iv p4, iv p5, .unset, .unset, .unset, .unset, .unset, .unset, .unset, .unset, .unset] [] _
    refine XS.iloadN X1.here hx rfl (hb hby at_0) rfl ?_
    refine X1.ldcInt hx hown (mvT hZ (W 0 rfl)) (g := (mkF m 1 #[iv p1, iv p2, iv p3, iv p4, iv p5, .unset, .unset, .unset, .unset, .unset, .unset, .unset, .unset, .unset] [(.int p1)])) rfl (hb hby at_1) _ ?_
    show SS p e below s₁ m 3 #[iv p1, iv p2, iv p3, iv p4, iv p5, .unset, .unset, .unset, .unset, .unset, .unset, .unset, .unset, .unset] [(.int (2147483647 : Int32)), (.int p1)] _
    refine XS.iand X1.here hx rfl (hb hby at_3) rfl ?_
    show SS p e below s₁ m 4 #[iv p1, iv p2, iv p3, iv p4, iv p5, .unset, .unset, .unset, .unset, .unset, .unset, .unset, .unset, .unset] [(.int (p1 &&& (2147483647 : Int32)))] _
    refine XS.iconst X1.here hx rfl (hb hby at_4) ?_
    refine iremM (g := (mkF m 5 #[iv p1, iv p2, iv p3, iv p4, iv p5, .unset, .unset, .unset, .unset, .unset, .unset, .unset, .unset, .unset] [(.int (3 : Int32)), (.int (p1 &&& (2147483647 : Int32)))])) X1 hx rfl (hb hby at_5) rfl (by decide : ¬ ((3 : Int32) = (0 : Int32))) ?_
    rw [hpl]
    show SS p e below s₁ m 6 #[iv p1, iv p2, iv p3, iv p4, iv p5, .unset, .unset, .unset, .unset, .unset, .unset, .unset, .unset, .unset] [(.int (2 : Int32))] _
    refine XS.istore X1.here hx rfl (hb hby at_6) rfl (l' := #[iv p1, iv p2, iv p3, iv p4, iv p5, iv (2 : Int32), .unset, .unset, .unset, .unset, .unset, .unset, .unset, .unset]) rfl ?_
    refine XS.iloadN X1.here hx rfl (hb hby at_8) rfl ?_
    refine XS.bipush X1.here hx rfl (hb hby at_9) ?_
    show SS p e below s₁ m 11 #[iv p1, iv p2, iv p3, iv p4, iv p5, iv (2 : Int32), .unset, .unset, .unset, .unset, .unset, .unset, .unset, .unset] [(.int (8 : Int32)), (.int p1)] _
    refine XS.iushr X1.here hx rfl (hb hby at_11) rfl ?_
    show SS p e below s₁ m 12 #[iv p1, iv p2, iv p3, iv p4, iv p5, iv (2 : Int32), .unset, .unset, .unset, .unset, .unset, .unset, .unset, .unset] [(.int ((p1.toUInt32 >>> ((8 : Int32) &&& 31).toUInt32).toInt32))] _
    refine X1.ldcInt hx hown (mvT hZ (W 0 rfl)) (g := (mkF m 12 #[iv p1, iv p2, iv p3, iv p4, iv p5, iv (2 : Int32), .unset, .unset, .unset, .unset, .unset, .unset, .unset, .unset] [(.int ((p1.toUInt32 >>> ((8 : Int32) &&& 31).toUInt32).toInt32))])) rfl (hb hby at_12) _ ?_
    refine XS.iand X1.here hx rfl (hb hby at_14) rfl ?_
    show SS p e below s₁ m 15 #[iv p1, iv p2, iv p3, iv p4, iv p5, iv (2 : Int32), .unset, .unset, .unset, .unset, .unset, .unset, .unset, .unset] [(.int (((p1.toUInt32 >>> ((8 : Int32) &&& 31).toUInt32).toInt32) &&& (2147483647 : Int32)))] _
    refine XS.iconst X1.here hx rfl (hb hby at_15) ?_
    refine iremM (g := (mkF m 16 #[iv p1, iv p2, iv p3, iv p4, iv p5, iv (2 : Int32), .unset, .unset, .unset, .unset, .unset, .unset, .unset, .unset] [(.int (3 : Int32)), (.int (((p1.toUInt32 >>> ((8 : Int32) &&& 31).toUInt32).toInt32) &&& (2147483647 : Int32)))])) X1 hx rfl (hb hby at_16) rfl (by decide : ¬ ((3 : Int32) = (0 : Int32))) ?_
    rw [hml_]
    show SS p e below s₁ m 17 #[iv p1, iv p2, iv p3, iv p4, iv p5, iv (2 : Int32), .unset, .unset, .unset, .unset, .unset, .unset, .unset, .unset] [(.int (1 : Int32))] _
    refine XS.istore X1.here hx rfl (hb hby at_17) rfl (l' := #[iv p1, iv p2, iv p3, iv p4, iv p5, iv (2 : Int32), iv (1 : Int32), .unset, .unset, .unset, .unset, .unset, .unset, .unset]) rfl ?_
    refine XS.iloadN X1.here hx rfl (hb hby at_19) rfl ?_
    refine XS.sipush X1.here hx rfl (hb hby at_20) ?_
    show SS p e below s₁ m 23 #[iv p1, iv p2, iv p3, iv p4, iv p5, iv (2 : Int32), iv (1 : Int32), .unset, .unset, .unset, .unset, .unset, .unset, .unset] [(.int (255 : Int32)), (.int p2)] _
    refine XS.iand X1.here hx rfl (hb hby at_23) rfl ?_
    show SS p e below s₁ m 24 #[iv p1, iv p2, iv p3, iv p4, iv p5, iv (2 : Int32), iv (1 : Int32), .unset, .unset, .unset, .unset, .unset, .unset, .unset] [(.int (p2 &&& (255 : Int32)))] _
    refine XS.i2c X1.here hx rfl (hb hby at_24) rfl ?_
    rw [h_c0]
    show SS p e below s₁ m 25 #[iv p1, iv p2, iv p3, iv p4, iv p5, iv (2 : Int32), iv (1 : Int32), .unset, .unset, .unset, .unset, .unset, .unset, .unset] [(.int c0)] _
    refine XS.istore X1.here hx rfl (hb hby at_25) rfl (l' := #[iv p1, iv p2, iv p3, iv p4, iv p5, iv (2 : Int32), iv (1 : Int32), iv c0, .unset, .unset, .unset, .unset, .unset, .unset]) rfl ?_
    refine XS.iloadN X1.here hx rfl (hb hby at_27) rfl ?_
    refine XS.sipush X1.here hx rfl (hb hby at_28) ?_
    show SS p e below s₁ m 31 #[iv p1, iv p2, iv p3, iv p4, iv p5, iv (2 : Int32), iv (1 : Int32), iv c0, .unset, .unset, .unset, .unset, .unset, .unset] [(.int (255 : Int32)), (.int p3)] _
    refine XS.iand X1.here hx rfl (hb hby at_31) rfl ?_
    show SS p e below s₁ m 32 #[iv p1, iv p2, iv p3, iv p4, iv p5, iv (2 : Int32), iv (1 : Int32), iv c0, .unset, .unset, .unset, .unset, .unset, .unset] [(.int (p3 &&& (255 : Int32)))] _
    refine XS.i2c X1.here hx rfl (hb hby at_32) rfl ?_
    rw [h_c1]
    show SS p e below s₁ m 33 #[iv p1, iv p2, iv p3, iv p4, iv p5, iv (2 : Int32), iv (1 : Int32), iv c0, .unset, .unset, .unset, .unset, .unset, .unset] [(.int c1)] _
    refine XS.istore X1.here hx rfl (hb hby at_33) rfl (l' := #[iv p1, iv p2, iv p3, iv p4, iv p5, iv (2 : Int32), iv (1 : Int32), iv c0, iv c1, .unset, .unset, .unset, .unset, .unset]) rfl ?_
    refine XS.iloadN X1.here hx rfl (hb hby at_35) rfl ?_
    refine XS.sipush X1.here hx rfl (hb hby at_36) ?_
    show SS p e below s₁ m 39 #[iv p1, iv p2, iv p3, iv p4, iv p5, iv (2 : Int32), iv (1 : Int32), iv c0, iv c1, .unset, .unset, .unset, .unset, .unset] [(.int (255 : Int32)), (.int p4)] _
    refine XS.iand X1.here hx rfl (hb hby at_39) rfl ?_
    show SS p e below s₁ m 40 #[iv p1, iv p2, iv p3, iv p4, iv p5, iv (2 : Int32), iv (1 : Int32), iv c0, iv c1, .unset, .unset, .unset, .unset, .unset] [(.int (p4 &&& (255 : Int32)))] _
    refine XS.i2c X1.here hx rfl (hb hby at_40) rfl ?_
    rw [h_d0]
    show SS p e below s₁ m 41 #[iv p1, iv p2, iv p3, iv p4, iv p5, iv (2 : Int32), iv (1 : Int32), iv c0, iv c1, .unset, .unset, .unset, .unset, .unset] [(.int d0)] _
    refine XS.istore X1.here hx rfl (hb hby at_41) rfl (l' := #[iv p1, iv p2, iv p3, iv p4, iv p5, iv (2 : Int32), iv (1 : Int32), iv c0, iv c1, iv d0, .unset, .unset, .unset, .unset]) rfl ?_
    refine XS.iload X1.here hx rfl (hb hby at_43) rfl ?_
    refine XS.sipush X1.here hx rfl (hb hby at_45) ?_
    show SS p e below s₁ m 48 #[iv p1, iv p2, iv p3, iv p4, iv p5, iv (2 : Int32), iv (1 : Int32), iv c0, iv c1, iv d0, .unset, .unset, .unset, .unset] [(.int (255 : Int32)), (.int p5)] _
    refine XS.iand X1.here hx rfl (hb hby at_48) rfl ?_
    show SS p e below s₁ m 49 #[iv p1, iv p2, iv p3, iv p4, iv p5, iv (2 : Int32), iv (1 : Int32), iv c0, iv c1, iv d0, .unset, .unset, .unset, .unset] [(.int (p5 &&& (255 : Int32)))] _
    refine XS.i2c X1.here hx rfl (hb hby at_49) rfl ?_
    rw [h_d1]
    show SS p e below s₁ m 50 #[iv p1, iv p2, iv p3, iv p4, iv p5, iv (2 : Int32), iv (1 : Int32), iv c0, iv c1, iv d0, .unset, .unset, .unset, .unset] [(.int d1)] _
    refine XS.istore X1.here hx rfl (hb hby at_50) rfl (l' := #[iv p1, iv p2, iv p3, iv p4, iv p5, iv (2 : Int32), iv (1 : Int32), iv c0, iv c1, iv d0, iv d1, .unset, .unset, .unset]) rfl ?_
    refine XS.iload X1.here hx rfl (hb hby at_52) rfl ?_
    refine XS.iload X1.here hx rfl (hb hby at_54) rfl ?_
    refine XS.iload X1.here hx rfl (hb hby at_56) rfl ?_
    refine st2 _ ?_
    refine XS.astore X2.here hx rfl (hb hby at_61) rfl rfl (l' := #[iv p1, iv p2, iv p3, iv p4, iv p5, iv (2 : Int32), iv (1 : Int32), iv c0, iv c1, iv d0, iv d1, rv b2_0, .unset, .unset]) rfl ?_
    refine XS.iload X2.here hx rfl (hb hby at_63) rfl ?_
    refine XS.iload X2.here hx rfl (hb hby at_65) rfl ?_
    refine XS.iload X2.here hx rfl (hb hby at_67) rfl ?_
    refine st8 _ ?_
    show SS p e below T8 m 72 #[iv p1, iv p2, iv p3, iv p4, iv p5, iv (2 : Int32), iv (1 : Int32), iv c0, iv c1, iv d0, iv d1, rv b2_0, .unset, .unset] [(.ref b8_0)] _
    refine XS.astore X8.here hx rfl (hb hby at_72) rfl rfl (l' := #[iv p1, iv p2, iv p3, iv p4, iv p5, iv (2 : Int32), iv (1 : Int32), iv c0, iv c1, iv d0, iv d1, rv b2_0, rv b8_0, .unset]) rfl ?_
    refine st14 _ ?_
    refine XS.dup X14.here hx rfl (hb hby at_77) rfl rfl ?_
    refine XS.aload X14.here hx rfl (hb hby at_78) rfl rfl ?_
    refine XS.aload X14.here hx rfl (hb hby at_80) rfl rfl ?_
    refine st19 _ ?_
    refine st29.trans ?_
    refine XS.astore X29.here hx rfl (hb hby at_88) rfl rfl (l' := #[iv p1, iv p2, iv p3, iv p4, iv p5, iv (2 : Int32), iv (1 : Int32), iv c0, iv c1, iv d0, iv d1, rv b2_0, rv b8_0, rv b29_0]) rfl ?_
    refine XS.aload X29.here hx rfl (hb hby at_90) rfl rfl ?_
    refine XS.ifnonnullYes X29.here hx rfl (pc0 := 92) (pc' := 97) rfl (hb hby at_92) rfl (by decide) (by decide) ?_
    show SS p e below T29 m 97 #[iv p1, iv p2, iv p3, iv p4, iv p5, iv (2 : Int32), iv (1 : Int32), iv c0, iv c1, iv d0, iv d1, rv b2_0, rv b8_0, rv b29_0] [] _
    refine XS.iload X29.here hx rfl (hb hby at_97) rfl ?_
    refine XS.ifYes X29.here hx rfl (pc0 := 99) (pc' := 110) rfl (hb hby at_99) rfl ((if0 _ _).trans (feq (by decide : ¬ ((2 : Int32) = (0 : Int32)))).2) (by decide) (by decide) ?_
    refine XS.aload X29.here hx rfl (hb hby at_110) rfl rfl ?_
    refine st49 _ ?_
    refine XS.iload X49.here hx rfl (hb hby at_115) rfl ?_
    refine XS.iconst X49.here hx rfl (hb hby at_117) ?_
    refine XS.iadd X49.here hx rfl (hb hby at_118) rfl ?_
    show SS p e below T49 m 119 #[iv p1, iv p2, iv p3, iv p4, iv p5, iv (2 : Int32), iv (1 : Int32), iv c0, iv c1, iv d0, iv d1, rv b2_0, rv b8_0, rv b29_0] [(.int (4 : Int32)), (.int (5 : Int32))] _
    refine XS.iload X49.here hx rfl (hb hby at_119) rfl ?_
    refine XS.iadd X49.here hx rfl (hb hby at_121) rfl ?_
    show SS p e below T49 m 122 #[iv p1, iv p2, iv p3, iv p4, iv p5, iv (2 : Int32), iv (1 : Int32), iv c0, iv c1, iv d0, iv d1, rv b2_0, rv b8_0, rv b29_0] [(.int (5 : Int32)), (.int (5 : Int32))] _
    refine XS.icmpYes X49.here hx rfl (pc0 := 122) (pc' := 127) rfl (hb hby at_122) rfl (teq (by decide : (5 : Int32) = (5 : Int32))).1 (by decide) (by decide) ?_
    refine XS.aload X49.here hx rfl (hb hby at_127) rfl rfl ?_
    refine XS.iconst X49.here hx rfl (hb hby at_129) ?_
    refine st51 _ ?_
    refine XS.iload X51.here hx rfl (hb hby at_133) rfl ?_
    refine XS.icmpYes X51.here hx rfl (pc0 := 135) (pc' := 140) rfl (hb hby at_135) rfl (teq (rfl : c0 = c0)).1 (by decide) (by decide) ?_
    refine XS.iload X51.here hx rfl (hb hby at_140) rfl ?_
    refine XS.iconst X51.here hx rfl (hb hby at_142) ?_
    refine XS.icmpNo X51.here hx rfl (hb hby at_143) rfl (teq (by decide : (2 : Int32) = (2 : Int32))).2 ?_
    refine XS.aload X51.here hx rfl (hb hby at_146) rfl rfl ?_
    show SS p e below T51 m 148 #[iv p1, iv p2, iv p3, iv p4, iv p5, iv (2 : Int32), iv (1 : Int32), iv c0, iv c1, iv d0, iv d1, rv b2_0, rv b8_0, rv b29_0] [(.ref b29_0)] _
    refine XS.iconst X51.here hx rfl (hb hby at_148) ?_
    refine st53 _ ?_
    refine XS.iload X53.here hx rfl (hb hby at_152) rfl ?_
    refine XS.icmpYes X53.here hx rfl (pc0 := 154) (pc' := 159) rfl (hb hby at_154) rfl (teq (rfl : c1 = c1)).1 (by decide) (by decide) ?_
    refine XS.aload X53.here hx rfl (hb hby at_159) rfl rfl ?_
    refine XS.iload X53.here hx rfl (hb hby at_161) rfl ?_
    refine st55 _ ?_
    refine XS.bipush X55.here hx rfl (hb hby at_166) ?_
    refine XS.icmpYes X55.here hx rfl (pc0 := 168) (pc' := 173) rfl (hb hby at_168) rfl (teq (by decide : (58 : Int32) = (58 : Int32))).1 (by decide) (by decide) ?_
    refine XS.aload X55.here hx rfl (hb hby at_173) rfl rfl ?_
    show SS p e below T55 m 175 #[iv p1, iv p2, iv p3, iv p4, iv p5, iv (2 : Int32), iv (1 : Int32), iv c0, iv c1, iv d0, iv d1, rv b2_0, rv b8_0, rv b29_0] [(.ref b29_0)] _
    refine XS.iload X55.here hx rfl (hb hby at_175) rfl ?_
    refine XS.iconst X55.here hx rfl (hb hby at_177) ?_
    refine XS.iadd X55.here hx rfl (hb hby at_178) rfl ?_
    show SS p e below T55 m 179 #[iv p1, iv p2, iv p3, iv p4, iv p5, iv (2 : Int32), iv (1 : Int32), iv c0, iv c1, iv d0, iv d1, rv b2_0, rv b8_0, rv b29_0] [(.int (3 : Int32)), (.ref b29_0)] _
    refine st57 _ ?_
    refine XS.bipush X57.here hx rfl (hb hby at_182) ?_
    refine XS.icmpYes X57.here hx rfl (pc0 := 184) (pc' := 189) rfl (hb hby at_184) rfl (teq (by decide : (32 : Int32) = (32 : Int32))).1 (by decide) (by decide) ?_
    refine XS.iload X57.here hx rfl (hb hby at_189) rfl ?_
    refine XS.iconst X57.here hx rfl (hb hby at_191) ?_
    refine XS.icmpNo X57.here hx rfl (hb hby at_192) rfl (flt (by decide : ¬ ((1 : Int32) < (1 : Int32)))).1 ?_
    refine XS.aload X57.here hx rfl (hb hby at_195) rfl rfl ?_
    refine XS.iload X57.here hx rfl (hb hby at_197) rfl ?_
    refine XS.iconst X57.here hx rfl (hb hby at_199) ?_
    refine XS.iadd X57.here hx rfl (hb hby at_200) rfl ?_
    show SS p e below T57 m 201 #[iv p1, iv p2, iv p3, iv p4, iv p5, iv (2 : Int32), iv (1 : Int32), iv c0, iv c1, iv d0, iv d1, rv b2_0, rv b8_0, rv b29_0] [(.int (4 : Int32)), (.ref b29_0)] _
    refine st59 _ ?_
    refine XS.iload X59.here hx rfl (hb hby at_204) rfl ?_
    refine XS.icmpYes X59.here hx rfl (pc0 := 206) (pc' := 211) rfl (hb hby at_206) rfl (teq (rfl : d0 = d0)).1 (by decide) (by decide) ?_
    refine XS.iload X59.here hx rfl (hb hby at_211) rfl ?_
    refine XS.iconst X59.here hx rfl (hb hby at_213) ?_
    refine XS.icmpYes X59.here hx rfl (pc0 := 214) (pc' := 233) rfl (hb hby at_214) rfl (feq (by decide : ¬ ((1 : Int32) = (2 : Int32)))).2 (by decide) (by decide) ?_
    refine XS.iconst X59.here hx rfl (hb hby at_233) ?_
    exact retN X59 hx (t := .boolean) hret (by simp) (hb hby at_234) hr
theorem ef_490 (m : MethodId) (a1 : Addr) : entryFrame m #[(.ref a1), (.int (6 : Int32))] 3 = mkF m 0 #[rv a1, iv (6 : Int32), .unset] [] := by first | (simp [entryFrame, mkF, argsToLocals, Value.category]; done) | rfl
def Q122_ensureCapacityInternal (Z : State) (a1 : Addr) (a2 : Addr) (k3 : ClassId) (p4 : Int32) (p5 : Int32) (h0 : Heap) (n0 : Nat) (v : Option Value) (h : Heap) (L : List Loc) : Prop := v = none ∧ Fr n0 L ∧ h = h0
theorem rm122_ensureCapacityInternal (l : Launch) (Z : State) (a0 : Array Value) (hw : HW Z a0) (a1 : Addr) (a2 : Addr) (k3 : ClassId) (p4 : Int32) (p5 : Int32) (h0 : Heap) (n0 : Nat) (O0 : Old Z n0 h0) (F_0 : FA41 Z h0 a1 (.ref a2)) (F_1 : Arv Z h0 a2 k3 .byte (16 : Int32) [(.int p4), (.int p5), (.int (58 : Int32)), (.int (32 : Int32)), o0, o0, o0, o0, o0, o0, o0, o0, o0, o0, o0, o0] o0) (F_2 : FA42 Z h0 a1 o0) :
    Met l Z [] MY15 jdk_68_method_9_code 3 none ({ frames := 0, cells := 0, slots := 0, locals := 0 } : Room) #[(.ref a1), (.int (6 : Int32))] h0 (Q122_ensureCapacityInternal Z a1 a2 k3 p4 p5 h0 n0) := by
  have W := @own_W _ _ hw
  refine own_mk (plainFor_of_name pn_206) ?_
  intro p e s m below meth c s₁ hZ hx hby hml hown hnm hret hlk X0 e0
  have N0 := Fr.nil n0
  obtain ⟨T1, X1, e1, st1⟩ := getF X0 hx hZ hown (host := "") (Or.inl (W 83 rfl)) Via.refl e0 F_0 (g := (mkF m 1 #[rv a1, iv (6 : Int32), .unset] [(.ref a1)])) rfl rfl (hb hby d_243)
  obtain ⟨c2, A2, q2, S2, N2, H2, G2⟩ := id F_1
  obtain ⟨T3, X3, e3, st3⟩ := getF X1 hx hZ hown (host := "") (Or.inl (W 85 rfl)) Via.refl e1 F_2 (g := (mkF m 6 #[rv a1, iv (6 : Int32), .unset] [(.ref a1), (.int (16 : Int32))])) rfl rfl (hb hby d_246)
  refine ⟨T3, none, _, _, _, X3, by decide, by decide, (fun _ => rfl), ?_, fun fs hr => castTop (ef_490 m a1) ?_⟩
  · show Q122_ensureCapacityInternal Z a1 a2 k3 p4 p5 h0 n0 _ T3.heap _
    rw [e3]
    exact ⟨rfl, N0, rfl⟩
  · show SS p e below s₁ m 0 #[rv a1, iv (6 : Int32), .unset] [] _
    refine XS.aloadN X0.here hx rfl (hb hby d_242) rfl rfl ?_
    refine st1 _ ?_
    refine X1.arraylength hx (by rw [e1]; exact A2.1) (State.isArrayOf_alike hZ.alike A2.2.1) (g := (mkF m 4 #[rv a1, iv (6 : Int32), .unset] [(.ref a2)])) rfl rfl (hb hby d_244) _ ?_
    rw [len_of S2 N2]
    refine XS.aloadN X1.here hx rfl (hb hby d_245) rfl rfl ?_
    refine st3 _ ?_
    refine XS.ishr X3.here hx rfl (hb hby d_247) rfl ?_
    show SS p e below T3 m 10 #[rv a1, iv (6 : Int32), .unset] [(.int (16 : Int32))] _
    refine XS.istoreN X3.here hx rfl (hb hby d_248) rfl (l' := #[rv a1, iv (6 : Int32), iv (16 : Int32)]) rfl ?_
    refine XS.iloadN X3.here hx rfl (hb hby d_249) rfl ?_
    refine XS.iloadN X3.here hx rfl (hb hby d_250) rfl ?_
    refine XS.isub X3.here hx rfl (hb hby d_251) rfl ?_
    show SS p e below T3 m 14 #[rv a1, iv (6 : Int32), iv (16 : Int32)] [(.int (-10 : Int32))] _
    refine XS.ifYes X3.here hx rfl (pc0 := 14) (pc' := 38) rfl (hb hby d_252) rfl ((if0 _ _).trans (flt (by decide : ¬ ((0 : Int32) < (-10 : Int32)))).2.2.2) (by decide) (by decide) ?_
    exact X3.returnOut hx hret (hb hby d_253) hr
def Q123_getBytes (Z : State) (a1 : Addr) (a2 : Addr) (p3 : Int32) (a4 : Addr) (k5 : ClassId) (p6 : Int32) (p7 : Int32) (k8 : ClassId) (p9 : Int32) (p10 : Int32) (h0 : Heap) (n0 : Nat) (v : Option Value) (h : Heap) (L : List Loc) : Prop := v = none ∧ Fr n0 L ∧ Keep h0 h [a2] ∧ Arv Z h a2 k8 .byte (16 : Int32) [(.int p9), (.int p10), (.int (58 : Int32)), (.int (32 : Int32)), (.int p6), (.int p7), o0, o0, o0, o0, o0, o0, o0, o0, o0, o0] o0
theorem rm123_getBytes (l : Launch) (Z : State) (a0 : Array Value) (hw : HW Z a0) (a1 : Addr) (a2 : Addr) (p3 : Int32) (a4 : Addr) (k5 : ClassId) (p6 : Int32) (p7 : Int32) (k8 : ClassId) (p9 : Int32) (p10 : Int32) (h0 : Heap) (n0 : Nat) (O0 : Old Z n0 h0) (F_0 : EA44 Z h0 a1) (S_1 : SA48 Z Z.heap (.int p3)) (hc_2 : ¬ (p3 = (0 : Int32))) (F_3 : FA38 Z h0 a1 o0) (F_4 : FA37 Z h0 a1 (.ref a4)) (F_5 : Arv Z h0 a4 k5 .byte (2 : Int32) [(.int p6), (.int p7)] o0) (F_6 : Arv Z h0 a2 k8 .byte (16 : Int32) [(.int p9), (.int p10), (.int (58 : Int32)), (.int (32 : Int32)), o0, o0, o0, o0, o0, o0, o0, o0, o0, o0, o0, o0] o0) (g_7 : n0 ≤ a2) :
    Met l Z [] MY17 jdk_42_method_147_code 4 none ({ frames := 1, cells := 0, slots := 0, locals := 27 } : Room) #[(.ref a1), (.ref a2), (.int (4 : Int32)), o0] h0 (Q123_getBytes Z a1 a2 p3 a4 k5 p6 p7 k8 p9 p10 h0 n0) := by
  have W := @own_W _ _ hw
  refine own_mk (plainFor_of_name pn_30) ?_
  intro p e s m below meth c s₁ hZ hx hby hml hown hnm hret hlk X0 e0
  have N0 := Fr.nil n0
  obtain ⟨_, T1, L1, X1, hQ1, st1⟩ := own_cv X0 hx hZ hown hml (W 102 rfl) (W 103 rfl) (notFace_of_selects (W 105 rfl)) (W 105 rfl) (W 104 rfl) (W 7 rfl) (W 106 rfl) (rm24_coder l Z a0 hw a1 p3 h0 n0 O0 (S_1) (hc_2) (F_3)) e0 F_0 (hb hby d_280) 0 #[rv a1, rv a2, iv (4 : Int32), .val o0] [] [] pd_231
  obtain ⟨rfl, N1q, K1⟩ := hQ1
  have N2 := Fr.app N0 N1q
  obtain ⟨T3, X3, e3, st3⟩ := getF X1 hx hZ hown (host := "") (Or.inl (W 25 rfl)) Via.refl K1 F_4 (g := (mkF m 9 #[rv a1, rv a2, iv (4 : Int32), .val o0] [(.ref a1)])) rfl rfl (hb hby d_284)
  obtain ⟨T4, X4, e4, st4⟩ := getF X3 hx hZ hown (host := "") (Or.inl (W 25 rfl)) Via.refl e3 F_4 (g := (mkF m 18 #[rv a1, rv a2, iv (4 : Int32), .val o0] [(.ref a1), (.int (4 : Int32)), (.ref a2), o0, (.ref a4)])) rfl rfl (hb hby d_291)
  obtain ⟨c5, A5, q5, S5, N5, H5, G5⟩ := id F_5
  obtain ⟨T6, h6, Lc6, X6, e6, N6, K6, V6, st6⟩ := cpA X4 hx hZ hown (W 130 rfl) (W 133 rfl) (W 131 rfl) (W 132 rfl) e4 F_5 F_6 (Or.inl ⟨rfl, rfl⟩) (sp := (0 : Int32)) (dp := (4 : Int32)) (nn := (2 : Int32)) (by decide) (by decide) (by decide) (by decide) (by decide) (us := [(.int p6), (.int p7)]) rfl (Nat.le_of_ble_eq_true rfl) N2 g_7 (g := (mkF m 22 #[rv a1, rv a2, iv (4 : Int32), .val o0] [(.int (2 : Int32)), (.int (4 : Int32)), (.ref a2), o0, (.ref a4)])) rfl (by rw [hml]; rfl) rfl (hb hby d_293) (by decide) (W := 0) (by show 2 * 0 + _ ≤ _; exact Nat.le_of_eq rfl) (by decide)
  have O7 := O0.keep K6 (allS g_7 all0)
  have K8 : Keep h0 h6 [a2] := Keep.trans (Keep.refl h0 [a2]) K6 (allS (Or.inl (List.mem_of_getElem? (i := 0) rfl)) all0)
  have v9 : Arv Z h6 a2 k8 .byte (16 : Int32) [(.int p9), (.int p10), (.int (58 : Int32)), (.int (32 : Int32)), (.int p6), (.int p7), o0, o0, o0, o0, o0, o0, o0, o0, o0, o0] o0 := V6
  refine ⟨T6, none, _, _, _, X6, by decide, by decide, (fun _ => rfl), ?_, fun fs hr => castTop (ef_488 m a1 a2) ?_⟩
  · show Q123_getBytes Z a1 a2 p3 a4 k5 p6 p7 k8 p9 p10 h0 n0 _ T6.heap _
    rw [e6]
    exact ⟨rfl, N6, K8, v9⟩
  · show SS p e below s₁ m 0 #[rv a1, rv a2, iv (4 : Int32), .val o0] [] _
    refine XS.aloadN X0.here hx rfl (hb hby d_279) rfl rfl ?_
    refine st1 _ ?_
    refine XS.iloadN X1.here hx rfl (hb hby d_281) rfl ?_
    refine XS.icmpNo X1.here hx rfl (hb hby d_282) rfl (teq (by decide : (0 : Int32) = (0 : Int32))).2 ?_
    refine XS.aloadN X1.here hx rfl (hb hby d_283) rfl rfl ?_
    refine st3 _ ?_
    refine XS.iconst X3.here hx rfl (hb hby d_285) ?_
    refine XS.aloadN X3.here hx rfl (hb hby d_286) rfl rfl ?_
    refine XS.iloadN X3.here hx rfl (hb hby d_287) rfl ?_
    refine XS.iloadN X3.here hx rfl (hb hby d_288) rfl ?_
    show SS p e below T3 m 16 #[rv a1, rv a2, iv (4 : Int32), .val o0] [o0, (.int (4 : Int32)), (.ref a2), o0, (.ref a4)] _
    refine XS.ishl X3.here hx rfl (hb hby d_289) rfl ?_
    show SS p e below T3 m 17 #[rv a1, rv a2, iv (4 : Int32), .val o0] [(.int (4 : Int32)), (.ref a2), o0, (.ref a4)] _
    refine XS.aloadN X3.here hx rfl (hb hby d_290) rfl rfl ?_
    refine st4 _ ?_
    refine X4.arraylength hx (by rw [e4]; exact A5.1) (State.isArrayOf_alike hZ.alike A5.2.1) (g := (mkF m 21 #[rv a1, rv a2, iv (4 : Int32), .val o0] [(.ref a4), (.int (4 : Int32)), (.ref a2), o0, (.ref a4)])) rfl rfl (hb hby d_292) _ ?_
    rw [len_of S5 N5]
    refine st6 _ ?_
    refine XS.goto X6.here hx rfl (pc0 := 25) (pc' := 43) rfl (hb hby d_294) (by decide) (by decide) ?_
    exact X6.returnOut hx hret (hb hby d_295) hr
def Q124_putStringAt (Z : State) (a1 : Addr) (a2 : Addr) (p3 : Int32) (a4 : Addr) (a5 : Addr) (k6 : ClassId) (p7 : Int32) (p8 : Int32) (k9 : ClassId) (p10 : Int32) (p11 : Int32) (h0 : Heap) (n0 : Nat) (v : Option Value) (h : Heap) (L : List Loc) : Prop := v = none ∧ Fr n0 L ∧ Keep h0 h [a4] ∧ Arv Z h a4 k9 .byte (16 : Int32) [(.int p10), (.int p11), (.int (58 : Int32)), (.int (32 : Int32)), (.int p7), (.int p8), o0, o0, o0, o0, o0, o0, o0, o0, o0, o0] o0
theorem rm124_putStringAt (l : Launch) (Z : State) (a0 : Array Value) (hw : HW Z a0) (a1 : Addr) (a2 : Addr) (p3 : Int32) (a4 : Addr) (a5 : Addr) (k6 : ClassId) (p7 : Int32) (p8 : Int32) (k9 : ClassId) (p10 : Int32) (p11 : Int32) (h0 : Heap) (n0 : Nat) (O0 : Old Z n0 h0) (F_0 : EA47 Z h0 a1) (S_1 : SA48 Z Z.heap (.int p3)) (hc_2 : ¬ (p3 = (0 : Int32))) (F_3 : FA42 Z h0 a1 o0) (F_4 : EA44 Z h0 a2) (F_5 : FA38 Z h0 a2 o0) (F_6 : FA41 Z h0 a1 (.ref a4)) (F_7 : FA37 Z h0 a2 (.ref a5)) (F_8 : Arv Z h0 a5 k6 .byte (2 : Int32) [(.int p7), (.int p8)] o0) (F_9 : Arv Z h0 a4 k9 .byte (16 : Int32) [(.int p10), (.int p11), (.int (58 : Int32)), (.int (32 : Int32)), o0, o0, o0, o0, o0, o0, o0, o0, o0, o0, o0, o0] o0) (g_10 : n0 ≤ a4) :
    Met l Z [] MY18 jdk_68_method_73_code 3 none ({ frames := 2, cells := 0, slots := 0, locals := 42 } : Room) #[(.ref a1), (.int (4 : Int32)), (.ref a2)] h0 (Q124_putStringAt Z a1 a2 p3 a4 a5 k6 p7 p8 k9 p10 p11 h0 n0) := by
  have W := @own_W _ _ hw
  refine own_mk (plainFor_of_name pn_206) ?_
  intro p e s m below meth c s₁ hZ hx hby hml hown hnm hret hlk X0 e0
  have N0 := Fr.nil n0
  obtain ⟨_, T1, L1, X1, hQ1, st1⟩ := own_cv X0 hx hZ hown hml (W 119 rfl) (own_decl (y := MY16) (W 120 rfl) (W 123 rfl)) (notFace_of_selects (W 122 rfl)) (W 122 rfl) (W 120 rfl) (W 79 rfl) (W 123 rfl) (rm27_inflateIfNeededFor l Z a0 hw a1 a2 p3 h0 n0 O0 (S_1) (hc_2) (F_3) (F_4) (F_5)) e0 F_0 (hb hby d_262) 0 #[rv a1, iv (4 : Int32), rv a2] [(.ref a2)] [] pd_271
  obtain ⟨rfl, N1q, K1⟩ := hQ1
  have N2 := Fr.app N0 N1q
  obtain ⟨T3, X3, e3, st3⟩ := getF X1 hx hZ hown (host := "") (Or.inl (W 83 rfl)) Via.refl K1 F_6 (g := (mkF m 7 #[rv a1, iv (4 : Int32), rv a2] [(.ref a1), (.ref a2)])) rfl rfl (hb hby d_274)
  obtain ⟨T4, X4, e4, st4⟩ := getF X3 hx hZ hown (host := "") (Or.inl (W 85 rfl)) Via.refl e3 F_3 (g := (mkF m 12 #[rv a1, iv (4 : Int32), rv a2] [(.ref a1), (.int (4 : Int32)), (.ref a4), (.ref a2)])) rfl rfl (hb hby d_277)
  obtain ⟨_, T5, L5, X5, hQ5, st5⟩ := own_cv X4 hx hZ hown hml (W 125 rfl) (W 126 rfl) (notFace_of_selects (W 128 rfl)) (W 128 rfl) (W 127 rfl) (W 7 rfl) (W 129 rfl) (rm123_getBytes l Z a0 hw a2 a4 p3 a5 k6 p7 p8 k9 p10 p11 h0 n0 O0 (F_4) (S_1) (hc_2) (F_5) (F_7) (F_8) (F_9) (g_10)) e4 F_4 (hb hby d_278) 0 #[rv a1, iv (4 : Int32), rv a2] [(.ref a4), (.int (4 : Int32)), o0] [] pd_297
  obtain ⟨rfl, N5q, K5, F5_0⟩ := hQ5
  have N6 := Fr.app N2 N5q
  have O7 := O0.keep K5 (allS g_10 all0)
  have K8 : Keep h0 T5.heap [a4] := Keep.trans (Keep.refl h0 [a4]) K5 (allS (Or.inl (List.mem_of_getElem? (i := 0) rfl)) all0)
  refine ⟨T5, none, _, _, _, X5, by decide, by decide, (fun _ => rfl), ?_, fun fs hr => castTop (ef_489 m a1 a2) ?_⟩
  · show Q124_putStringAt Z a1 a2 p3 a4 a5 k6 p7 p8 k9 p10 p11 h0 n0 _ T5.heap _
    exact ⟨rfl, N6, K8, F5_0⟩
  · show SS p e below s₁ m 0 #[rv a1, iv (4 : Int32), rv a2] [] _
    refine XS.aloadN X0.here hx rfl (hb hby d_260) rfl rfl ?_
    refine XS.aloadN X0.here hx rfl (hb hby d_261) rfl rfl ?_
    refine st1 _ ?_
    refine XS.aloadN X1.here hx rfl (hb hby d_272) rfl rfl ?_
    refine XS.aloadN X1.here hx rfl (hb hby d_273) rfl rfl ?_
    refine st3 _ ?_
    refine XS.iloadN X3.here hx rfl (hb hby d_275) rfl ?_
    refine XS.aloadN X3.here hx rfl (hb hby d_276) rfl rfl ?_
    refine st4 _ ?_
    refine st5 _ ?_
    show SS p e below T5 m 18 #[rv a1, iv (4 : Int32), rv a2] [] _
    exact X5.returnOut hx hret (hb hby d_298) hr
def Q125_append (Z : State) (a1 : Addr) (a2 : Addr) (a3 : Addr) (k4 : ClassId) (p5 : Int32) (p6 : Int32) (p7 : Int32) (a8 : Addr) (k9 : ClassId) (p10 : Int32) (p11 : Int32) (h0 : Heap) (n0 : Nat) (v : Option Value) (h : Heap) (L : List Loc) : Prop := v = some (.ref a1) ∧ Fr n0 L ∧ Keep h0 h [a8, a1] ∧ FA43 Z h a1 (.int (6 : Int32)) ∧ FA41 Z h a1 (.ref a8) ∧ Arv Z h a8 k9 .byte (16 : Int32) [(.int p10), (.int p11), (.int (58 : Int32)), (.int (32 : Int32)), (.int p5), (.int p6), o0, o0, o0, o0, o0, o0, o0, o0, o0, o0] o0 ∧ FA42 Z h a1 o0
theorem rm125_append (l : Launch) (Z : State) (a0 : Array Value) (hw : HW Z a0) (a1 : Addr) (a2 : Addr) (a3 : Addr) (k4 : ClassId) (p5 : Int32) (p6 : Int32) (p7 : Int32) (a8 : Addr) (k9 : ClassId) (p10 : Int32) (p11 : Int32) (h0 : Heap) (n0 : Nat) (O0 : Old Z n0 h0) (F_0 : EA44 Z h0 a2) (F_1 : FA37 Z h0 a2 (.ref a3)) (F_2 : Arv Z h0 a3 k4 .byte (2 : Int32) [(.int p5), (.int p6)] o0) (S_3 : SA48 Z Z.heap (.int p7)) (hc_4 : ¬ (p7 = (0 : Int32))) (F_5 : FA38 Z h0 a2 o0) (F_6 : FA43 Z h0 a1 (.int (4 : Int32))) (F_7 : EA47 Z h0 a1) (F_8 : FA41 Z h0 a1 (.ref a8)) (F_9 : Arv Z h0 a8 k9 .byte (16 : Int32) [(.int p10), (.int p11), (.int (58 : Int32)), (.int (32 : Int32)), o0, o0, o0, o0, o0, o0, o0, o0, o0, o0, o0, o0] o0) (F_10 : FA42 Z h0 a1 o0) (g_11 : n0 ≤ a8) (ne_12 : a1 ≠ a8) (g_13 : n0 ≤ a1) :
    Met l Z [] MY19 jdk_68_method_22_code 3 (some (.object "java/lang/AbstractStringBuilder")) ({ frames := 3, cells := 0, slots := 0, locals := 56 } : Room) #[(.ref a1), (.ref a2)] h0 (Q125_append Z a1 a2 a3 k4 p5 p6 p7 a8 k9 p10 p11 h0 n0) := by
  have W := @own_W _ _ hw
  refine own_mk (plainFor_of_name pn_206) ?_
  intro p e s m below meth c s₁ hZ hx hby hml hown hnm hret hlk X0 e0
  have N0 := Fr.nil n0
  obtain ⟨_, T1, L1, X1, hQ1, st1⟩ := own_cv X0 hx hZ hown hml (W 97 rfl) (W 98 rfl) (notFace_of_selects (W 100 rfl)) (W 100 rfl) (W 99 rfl) (W 7 rfl) (W 101 rfl) (rm25_length l Z a0 hw a2 a3 k4 (2 : Int32) [(.int p5), (.int p6)] p7 h0 n0 O0 (F_1) (F_2) (F_0) (S_3) (hc_4) (F_5) ((by decide))) e0 F_0 (hb hby d_219) 0 #[rv a1, rv a2, .unset] [] [] pd_234
  obtain ⟨rfl, N1q, K1⟩ := hQ1
  have N2 := Fr.app N0 N1q
  obtain ⟨T3, X3, e3, st3⟩ := getF X1 hx hZ hown (host := "") (Or.inl (W 107 rfl)) Via.refl K1 F_6 (g := (mkF m 16 #[rv a1, rv a2, iv (2 : Int32)] [(.ref a1), (.ref a1)])) rfl rfl (hb hby d_238)
  obtain ⟨_, T4, L4, X4, hQ4, st4⟩ := own_cv X3 hx hZ hown hml (W 109 rfl) (own_decl (y := MY15) (W 110 rfl) (W 113 rfl)) (notFace_of_selects (W 112 rfl)) (W 112 rfl) (W 110 rfl) (W 79 rfl) (W 113 rfl) (rm122_ensureCapacityInternal l Z a0 hw a1 a8 k9 p10 p11 h0 n0 O0 (F_8) (F_9) (F_10)) e3 F_7 (hb hby d_241) 0 #[rv a1, rv a2, iv (2 : Int32)] [(.int (6 : Int32))] [] pd_207
  obtain ⟨rfl, N4q, K4⟩ := hQ4
  have N5 := Fr.app N2 N4q
  obtain ⟨T6, X6, e6, st6⟩ := getF X4 hx hZ hown (host := "") (Or.inl (W 107 rfl)) Via.refl K4 F_6 (g := (mkF m 26 #[rv a1, rv a2, iv (2 : Int32)] [(.ref a1), (.ref a1)])) rfl rfl (hb hby d_257)
  obtain ⟨_, T7, L7, X7, hQ7, st7⟩ := own_cv X6 hx hZ hown hml (W 114 rfl) (own_decl (y := MY18) (W 115 rfl) (W 118 rfl)) (notFace_of_selects (W 117 rfl)) (W 117 rfl) (W 115 rfl) (W 79 rfl) (W 118 rfl) (rm124_putStringAt l Z a0 hw a1 a2 p7 a8 a3 k4 p5 p6 k9 p10 p11 h0 n0 O0 (F_7) (S_3) (hc_4) (F_10) (F_0) (F_5) (F_8) (F_1) (F_2) (F_9) (g_11)) e6 F_7 (hb hby d_259) 0 #[rv a1, rv a2, iv (2 : Int32)] [(.int (4 : Int32)), (.ref a2)] [] pd_300
  obtain ⟨rfl, N7q, K7, F7_0⟩ := hQ7
  have N8 := Fr.app N5 N7q
  have O9 := O0.keep K7 (allS g_11 all0)
  have K10 : Keep h0 T7.heap [a8, a1] := Keep.trans (Keep.refl h0 [a8, a1]) K7 (allS (Or.inl (List.mem_of_getElem? (i := 0) rfl)) all0)
  have f12 := (F_6.keep K7 (ninS ne_12 nin0))
  obtain ⟨T11, X11, e11, st11⟩ := getF X7 hx hZ hown (host := "") (Or.inl (W 107 rfl)) Via.refl rfl f12 (g := (mkF m 35 #[rv a1, rv a2, iv (2 : Int32)] [(.ref a1), (.ref a1)])) rfl rfl (hb hby d_303)
  have f14 := (F_7.keep K7)
  obtain ⟨T13, h13, X13, e13, W13, st13⟩ := putF X11 hx hZ hown (host := "") (Or.inl (W 107 rfl)) Via.refl e11 f12 f14 (Or.inl (W 108 rfl)) (W 70 rfl) (ty := .int) (by decide) rfl rfl (g := (mkF m 40 #[rv a1, rv a2, iv (2 : Int32)] [(.int (6 : Int32)), (.ref a1)])) rfl rfl (hb hby d_306)
  have O15 := O9.wr W13 g_13
  have K16 : Keep h0 h13 [a8, a1] := Keep.wr K10 W13 (Or.inl (List.mem_of_getElem? (i := 1) rfl))
  have f17 : FA43 Z h13 a1 (.int (6 : Int32)) := (f12.same W13)
  have N18 := Fr.snoc X13 N8 g_13
  have f19 := ((F_8.keep K7 (ninS ne_12 nin0)).other W13 (Or.inr (slot_ne (Or.inl (W 84 rfl)) (Or.inl (W 108 rfl)) (by decide) (t := (.array .byte)) (t' := .int) (by decide) (by decide))))
  have f20 := (F7_0.other W13 (Ne.symm ne_12))
  have f21 := ((F_10.keep K7 (ninS ne_12 nin0)).other W13 (Or.inr (slot_ne (Or.inl (W 86 rfl)) (Or.inl (W 108 rfl)) (by decide) (t := .byte) (t' := .int) (by decide) (by decide))))
  refine ⟨T13, some (.ref a1), _, _, _, X13, by decide, by decide, nofun, ?_, fun fs hr => castTop (ef_309 m a1 a2) ?_⟩
  · show Q125_append Z a1 a2 a3 k4 p5 p6 p7 a8 k9 p10 p11 h0 n0 _ T13.heap _
    rw [e13]
    exact ⟨rfl, N18, K16, f17, f19, f20, f21⟩
  · show SS p e below s₁ m 0 #[rv a1, rv a2, .unset] [] _
    refine XS.aloadN X0.here hx rfl (hb hby d_216) rfl rfl ?_
    refine XS.ifnonnullYes X0.here hx rfl (pc0 := 1) (pc' := 9) rfl (hb hby d_217) rfl (by decide) (by decide) ?_
    refine XS.aloadN X0.here hx rfl (hb hby d_218) rfl rfl ?_
    refine st1 _ ?_
    refine XS.istoreN X1.here hx rfl (hb hby d_235) rfl (l' := #[rv a1, rv a2, iv (2 : Int32)]) rfl ?_
    refine XS.aloadN X1.here hx rfl (hb hby d_236) rfl rfl ?_
    refine XS.aloadN X1.here hx rfl (hb hby d_237) rfl rfl ?_
    refine st3 _ ?_
    refine XS.iloadN X3.here hx rfl (hb hby d_239) rfl ?_
    refine XS.iadd X3.here hx rfl (hb hby d_240) rfl ?_
    show SS p e below T3 m 21 #[rv a1, rv a2, iv (2 : Int32)] [(.int (6 : Int32)), (.ref a1)] _
    refine st4 _ ?_
    refine XS.aloadN X4.here hx rfl (hb hby d_255) rfl rfl ?_
    refine XS.aloadN X4.here hx rfl (hb hby d_256) rfl rfl ?_
    refine st6 _ ?_
    refine XS.aloadN X6.here hx rfl (hb hby d_258) rfl rfl ?_
    refine st7 _ ?_
    refine XS.aloadN X7.here hx rfl (hb hby d_301) rfl rfl ?_
    refine XS.dup X7.here hx rfl (hb hby d_302) rfl rfl ?_
    refine st11 _ ?_
    refine XS.iloadN X11.here hx rfl (hb hby d_304) rfl ?_
    show SS p e below T11 m 39 #[rv a1, rv a2, iv (2 : Int32)] [(.int (2 : Int32)), (.int (4 : Int32)), (.ref a1)] _
    refine XS.iadd X11.here hx rfl (hb hby d_305) rfl ?_
    show SS p e below T11 m 40 #[rv a1, rv a2, iv (2 : Int32)] [(.int (6 : Int32)), (.ref a1)] _
    refine st13 _ ?_
    refine XS.aloadN X13.here hx rfl (hb hby d_307) rfl rfl ?_
    exact retOut X13 hx hret rfl (Or.inr (Or.inr (Or.inr (Or.inr ⟨rfl, rfl, rfl⟩)))) (hb hby d_308) hr
def Q126_append (Z : State) (a1 : Addr) (a2 : Addr) (a3 : Addr) (k4 : ClassId) (p5 : Int32) (p6 : Int32) (p7 : Int32) (a8 : Addr) (k9 : ClassId) (p10 : Int32) (p11 : Int32) (h0 : Heap) (n0 : Nat) (v : Option Value) (h : Heap) (L : List Loc) : Prop := v = some (.ref a1) ∧ Fr n0 L ∧ Keep h0 h [a1, a8] ∧ FA43 Z h a1 (.int (6 : Int32)) ∧ FA41 Z h a1 (.ref a8) ∧ Arv Z h a8 k9 .byte (16 : Int32) [(.int p10), (.int p11), (.int (58 : Int32)), (.int (32 : Int32)), (.int p5), (.int p6), o0, o0, o0, o0, o0, o0, o0, o0, o0, o0] o0 ∧ FA42 Z h a1 o0
theorem rm126_append (l : Launch) (Z : State) (a0 : Array Value) (hw : HW Z a0) (a1 : Addr) (a2 : Addr) (a3 : Addr) (k4 : ClassId) (p5 : Int32) (p6 : Int32) (p7 : Int32) (a8 : Addr) (k9 : ClassId) (p10 : Int32) (p11 : Int32) (h0 : Heap) (n0 : Nat) (O0 : Old Z n0 h0) (F_0 : EA44 Z h0 a2) (F_1 : FA37 Z h0 a2 (.ref a3)) (F_2 : Arv Z h0 a3 k4 .byte (2 : Int32) [(.int p5), (.int p6)] o0) (S_3 : SA48 Z Z.heap (.int p7)) (hc_4 : ¬ (p7 = (0 : Int32))) (F_5 : FA38 Z h0 a2 o0) (F_6 : FA43 Z h0 a1 (.int (4 : Int32))) (F_7 : EA47 Z h0 a1) (F_8 : FA41 Z h0 a1 (.ref a8)) (F_9 : Arv Z h0 a8 k9 .byte (16 : Int32) [(.int p10), (.int p11), (.int (58 : Int32)), (.int (32 : Int32)), o0, o0, o0, o0, o0, o0, o0, o0, o0, o0, o0, o0] o0) (F_10 : FA42 Z h0 a1 o0) (g_11 : n0 ≤ a8) (ne_12 : a1 ≠ a8) (g_13 : n0 ≤ a1) :
    Met l Z [] MY20 jdk_67_method_7_code 2 (some (.object "java/lang/StringBuilder")) ({ frames := 4, cells := 0, slots := 0, locals := 70 } : Room) #[(.ref a1), (.ref a2)] h0 (Q126_append Z a1 a2 a3 k4 p5 p6 p7 a8 k9 p10 p11 h0 n0) := by
  have W := @own_W _ _ hw
  refine own_mk (plainFor_of_name pn_209) ?_
  intro p e s m below meth c s₁ hZ hx hby hml hown hnm hret hlk X0 e0
  have N0 := Fr.nil n0
  obtain ⟨_, _, ⟨T1, L1, k1, n1⟩, -, X1, ⟨Lc1, hQ1, l1, y1, z1⟩, st1⟩ := superBack X0 hx hZ (y := MY19) hown (W 92 rfl) (own_same (y := MY19) (by decide) (W 93 rfl) (own_nf (args := a0) (y := MY15) rfl (W 112 rfl))) (W 93 rfl) (W 94 rfl) (by decide) (backOf (W := 0) (rm125_append l Z a0 hw a1 a2 a3 k4 p5 p6 p7 a8 k9 p10 p11 h0 n0 O0 (F_0) (F_1) (F_2) (S_3) (hc_4) (F_5) (F_6) (F_7) (F_8) (F_9) (F_10) (g_11) (ne_12) (g_13)) hZ (W 96 rfl) (W 79 rfl) (by decide) (by decide)) e0 (Ins.self F_7) (g := (mkF m 2 #[rv a1, rv a2] [(.ref a2), (.ref a1)])) rfl (by rw [hml]; rfl) (W 96 rfl) (argsL := [(.ref a2)]) (rest := []) (lenOf pd_310 rfl) rfl (by show 2 * 0 + _ ≤ _; exact Nat.le_of_eq rfl) (hb hby d_215) (fun _ _ => ⟨rfl, e0, (by decide : 0 + 0 ≤ _), (by decide : 0 + 0 ≤ _)⟩)
  dsimp only [Pt.U, Pt.locs, Pt.cells, Pt.slots] at X1 l1 y1 z1 st1 hQ1
  subst l1 y1 z1
  obtain ⟨rfl, N1q, K1, F1_0, F1_1, F1_2, F1_3⟩ := hQ1
  have N2 := Fr.app N0 N1q
  have O3 := O0.keep K1 (allS g_11 (allS g_13 all0))
  have K4 : Keep h0 T1.heap [a1, a8] := Keep.trans (Keep.refl h0 [a1, a8]) K1 (allS (Or.inl (List.mem_of_getElem? (i := 1) rfl)) (allS (Or.inl (List.mem_of_getElem? (i := 0) rfl)) all0))
  refine ⟨T1, some (.ref a1), _, _, _, X1, by decide, by decide, nofun, ?_, fun fs hr => castTop (ef_33 m a1 a2) ?_⟩
  · show Q126_append Z a1 a2 a3 k4 p5 p6 p7 a8 k9 p10 p11 h0 n0 _ T1.heap _
    exact ⟨rfl, N2, K4, F1_0, F1_1, F1_2, F1_3⟩
  · show SS p e below s₁ m 0 #[rv a1, rv a2] [] _
    refine XS.aloadN X0.here hx rfl (hb hby d_213) rfl rfl ?_
    refine XS.aloadN X0.here hx rfl (hb hby d_214) rfl rfl ?_
    refine st1.trans ?_
    refine XS.pop X1.here hx rfl (hb hby d_311) rfl rfl ?_
    refine XS.aloadN X1.here hx rfl (hb hby d_312) rfl rfl ?_
    exact retOut X1 hx hret rfl (Or.inr (Or.inr (Or.inr (Or.inr ⟨rfl, rfl, rfl⟩)))) (hb hby d_313) hr
def Q127_length (Z : State) (a1 : Addr) (h0 : Heap) (n0 : Nat) (v : Option Value) (h : Heap) (L : List Loc) : Prop := v = some (.int (6 : Int32)) ∧ Fr n0 L ∧ h = h0
theorem rm127_length (l : Launch) (Z : State) (a0 : Array Value) (hw : HW Z a0) (a1 : Addr) (h0 : Heap) (n0 : Nat) (O0 : Old Z n0 h0) (F_0 : FA43 Z h0 a1 (.int (6 : Int32))) :
    Met l Z [] MY22 jdk_68_method_6_code 1 (some .int) ({ frames := 0, cells := 0, slots := 0, locals := 0 } : Room) #[(.ref a1)] h0 (Q127_length Z a1 h0 n0) := by
  have W := @own_W _ _ hw
  refine own_mk (plainFor_of_name pn_206) ?_
  intro p e s m below meth c s₁ hZ hx hby hml hown hnm hret hlk X0 e0
  have N0 := Fr.nil n0
  obtain ⟨T1, X1, e1, st1⟩ := getF X0 hx hZ hown (host := "") (Or.inl (W 107 rfl)) Via.refl e0 F_0 (g := (mkF m 1 #[rv a1] [(.ref a1)])) rfl rfl (hb hby d_348)
  refine ⟨T1, some (.int (6 : Int32)), _, _, _, X1, by decide, by decide, nofun, ?_, fun fs hr => castTop (ef_44 m a1) ?_⟩
  · show Q127_length Z a1 h0 n0 _ T1.heap _
    rw [e1]
    exact ⟨rfl, N0, rfl⟩
  · show SS p e below s₁ m 0 #[rv a1] [] _
    refine XS.aloadN X0.here hx rfl (hb hby d_347) rfl rfl ?_
    refine st1 _ ?_
    exact retI X1 hx hret (hb hby d_349) hr
def Q128_length (Z : State) (a1 : Addr) (h0 : Heap) (n0 : Nat) (v : Option Value) (h : Heap) (L : List Loc) : Prop := v = some (.int (6 : Int32)) ∧ Fr n0 L ∧ h = h0
theorem rm128_length (l : Launch) (Z : State) (a0 : Array Value) (hw : HW Z a0) (a1 : Addr) (h0 : Heap) (n0 : Nat) (O0 : Old Z n0 h0) (F_0 : FA43 Z h0 a1 (.int (6 : Int32))) (F_1 : EA47 Z h0 a1) :
    Met l Z [] MY23 jdk_67_method_93_code 1 (some .int) ({ frames := 1, cells := 0, slots := 0, locals := 12 } : Room) #[(.ref a1)] h0 (Q128_length Z a1 h0 n0) := by
  have W := @own_W _ _ hw
  refine own_mk (plainFor_of_name pn_209) ?_
  intro p e s m below meth c s₁ hZ hx hby hml hown hnm hret hlk X0 e0
  have N0 := Fr.nil n0
  obtain ⟨_, _, ⟨T1, L1, k1, n1⟩, -, X1, ⟨Lc1, hQ1, l1, y1, z1⟩, st1⟩ := superBack X0 hx hZ (y := MY22) hown (W 158 rfl) (own_same (y := MY22) (by decide) (W 154 rfl) (own_nf (args := a0) (y := MY15) rfl (W 112 rfl))) (W 154 rfl) (W 94 rfl) (by decide) (backOf (W := 0) (rm127_length l Z a0 hw a1 h0 n0 O0 (F_0)) hZ (W 159 rfl) (W 79 rfl) (by decide) (by decide)) e0 (Ins.self F_1) (g := (mkF m 1 #[rv a1] [(.ref a1)])) rfl (by rw [hml]; rfl) (W 159 rfl) (argsL := []) (rest := []) (lenOf pd_234 rfl) rfl (by show 2 * 0 + _ ≤ _; exact Nat.le_of_eq rfl) (hb hby d_346) (fun _ _ => ⟨rfl, e0, (by decide : 0 + 0 ≤ _), (by decide : 0 + 0 ≤ _)⟩)
  dsimp only [Pt.U, Pt.locs, Pt.cells, Pt.slots] at X1 l1 y1 z1 st1 hQ1
  subst l1 y1 z1
  obtain ⟨rfl, N1q, K1⟩ := hQ1
  have N2 := Fr.app N0 N1q
  refine ⟨T1, some (.int (6 : Int32)), _, _, _, X1, by decide, by decide, nofun, ?_, fun fs hr => castTop (ef_44 m a1) ?_⟩
  · show Q128_length Z a1 h0 n0 _ T1.heap _
    rw [K1]
    exact ⟨rfl, N2, rfl⟩
  · show SS p e below s₁ m 0 #[rv a1] [] _
    refine XS.aloadN X0.here hx rfl (hb hby d_345) rfl rfl ?_
    refine st1.trans ?_
    exact retI X1 hx hret (hb hby d_350) hr
theorem ef_491 (m : MethodId)  : entryFrame m #[(.int (16 : Int32)), (.int (6 : Int32))] 2 = mkF m 0 #[iv (16 : Int32), iv (6 : Int32)] [] := by first | (simp [entryFrame, mkF, argsToLocals, Value.category]; done) | rfl
def Q129_min (Z : State)  (h0 : Heap) (n0 : Nat) (v : Option Value) (h : Heap) (L : List Loc) : Prop := v = some (.int (6 : Int32)) ∧ Fr n0 L ∧ h = h0
theorem rm129_min (l : Launch) (Z : State) (a0 : Array Value) (hw : HW Z a0)  (h0 : Heap) (n0 : Nat) (O0 : Old Z n0 h0)  :
    Met l Z [] MY26 jdk_29_method_69_code 2 (some .int) ({ frames := 0, cells := 0, slots := 0, locals := 0 } : Room) #[(.int (16 : Int32)), (.int (6 : Int32))] h0 (Q129_min Z  h0 n0) := by
  have W := @own_W _ _ hw
  refine own_mk (Jvm.Free.JP.mathPlain rfl (by decide +kernel)) ?_
  intro p e s m below meth c s₁ hZ hx hby hml hown hnm hret hlk X0 e0
  have N0 := Fr.nil n0
  refine ⟨s₁, some (.int (6 : Int32)), _, _, _, X0, by decide, by decide, nofun, ?_, fun fs hr => castTop (ef_491 m ) ?_⟩
  · show Q129_min Z  h0 n0 _ s₁.heap _
    rw [e0]
    exact ⟨rfl, N0, rfl⟩
  · show SS p e below s₁ m 0 #[iv (16 : Int32), iv (6 : Int32)] [] _
    refine XS.iloadN X0.here hx rfl (hb hby d_408) rfl ?_
    refine XS.iloadN X0.here hx rfl (hb hby d_409) rfl ?_
    refine XS.icmpYes X0.here hx rfl (pc0 := 2) (pc' := 9) rfl (hb hby d_410) rfl (tlt (by decide : (6 : Int32) < (16 : Int32))).2.2.1 (by decide) (by decide) ?_
    refine XS.iloadN X0.here hx rfl (hb hby d_411) rfl ?_
    exact retI X0 hx hret (hb hby d_412) hr
theorem ef_492 (m : MethodId) (a1 : Addr) : entryFrame m #[(.ref a1), o0, (.int (6 : Int32))] 5 = mkF m 0 #[rv a1, .val o0, iv (6 : Int32), .unset, .unset] [] := by first | (simp [entryFrame, mkF, argsToLocals, Value.category]; done) | rfl
def Q130_copyOfRangeByte (Z : State) (a1 : Addr) (k2 : ClassId) (p3 : Int32) (p4 : Int32) (p5 : Int32) (p6 : Int32) (h0 : Heap) (n0 : Nat) (v : Option Value) (h : Heap) (L : List Loc) : Prop := ∃ (b3 : Addr) (k3 : ClassId), v = some (.ref b3) ∧ Fr n0 L ∧ Keep h0 h [] ∧ h0.size ≤ b3 ∧ Arv Z h b3 k3 .byte (6 : Int32) [(.int p3), (.int p4), (.int (58 : Int32)), (.int (32 : Int32)), (.int p5), (.int p6)] o0 ∧ EA46 Z h b3
theorem rm130_copyOfRangeByte (l : Launch) (Z : State) (a0 : Array Value) (hw : HW Z a0) (a1 : Addr) (k2 : ClassId) (p3 : Int32) (p4 : Int32) (p5 : Int32) (p6 : Int32) (h0 : Heap) (n0 : Nat) (O0 : Old Z n0 h0) (F_0 : Arv Z h0 a1 k2 .byte (16 : Int32) [(.int p3), (.int p4), (.int (58 : Int32)), (.int (32 : Int32)), (.int p5), (.int p6), o0, o0, o0, o0, o0, o0, o0, o0, o0, o0] o0) :
    Met l Z [] MY27 jdk_65_method_133_code 5 (some (.array .byte)) ({ frames := 1, cells := 1, slots := 6, locals := 27 } : Room) #[(.ref a1), o0, (.int (6 : Int32))] h0 (Q130_copyOfRangeByte Z a1 k2 p3 p4 p5 p6 h0 n0) := by
  have W := @own_W _ _ hw
  refine own_mk (plainFor_of_name pn_389) ?_
  intro p e s m below meth c s₁ hZ hx hby hml hown hnm hret hlk X0 e0
  have N0 := Fr.nil n0
  obtain ⟨_, T1, L1, X1, hQ1, st1⟩ := own_cs X0 hx hZ hown hml (W 172 rfl) (W 173 rfl) (W 167 rfl) (W 174 rfl) (rm46_checkLength l Z a0 hw (0 : Int32) (6 : Int32) h0 n0 O0 ((by decide : ¬ ((6 : Int32) < (0 : Int32))))) e0 (hb hby d_383) 0 #[rv a1, .val o0, iv (6 : Int32), .unset, .unset] [o0, (.int (6 : Int32))] [] pd_390
  obtain ⟨rfl, N1q, K1⟩ := hQ1
  have N2 := Fr.app N0 N1q
  obtain ⟨T3, h3, k3, X3, e3, E3, A3, B3, st3⟩ := newPE X1 hx hZ (W 20 rfl) K1 (g := (mkF m 10 #[rv a1, .val o0, iv (6 : Int32), iv (6 : Int32), .unset] [(.int (6 : Int32))])) rfl (hb hby d_396) rfl (by decide) (cap := 6) (by decide) (by decide) (by decide) (by decide) (ad := "[B") rfl
  obtain ⟨b3, g3⟩ : ∃ z, z = h0.size := ⟨_, rfl⟩
  rw [← g3] at A3 B3 st3
  have O4 := O0.ext E3
  have K5 : Keep h0 h3 [] := Keep.ext (Keep.refl h0 []) E3
  have v6 : Arv Z h3 b3 k3 .byte (6 : Int32) [o0, o0, o0, o0, o0, o0] o0 := (Arv.new A3 (by decide)).pad (pad_rep [] o0 6)
  have f8 := (F_0.ext E3)
  obtain ⟨c7, A7, q7, S7, N7, H7, G7⟩ := id f8
  obtain ⟨_, T9, L9, X9, hQ9, st9⟩ := own_cs X3 hx hZ hown hml (W 175 rfl) (W 176 rfl) (W 177 rfl) (W 178 rfl) (rm129_min l Z a0 hw  h3 n0 O4 ) e3 (hb hby d_407) 4 #[rv a1, .val o0, iv (6 : Int32), iv (6 : Int32), rv b3] [(.int (16 : Int32)), (.int (6 : Int32))] [o0, (.ref b3), o0, (.ref a1)] pd_414
  obtain ⟨rfl, N9q, K9⟩ := hQ9
  have N10 := Fr.app N2 N9q
  have g12 : n0 ≤ b3 := Nat.le_trans (Nat.le_trans (Nat.le_of_eq O0.1.symm) O0.2.1) (Nat.le_of_eq g3.symm)
  obtain ⟨T11, h11, Lc11, X11, e11, N11, K11, V11, st11⟩ := cpA X9 hx hZ hown (W 179 rfl) (W 133 rfl) (W 131 rfl) (W 132 rfl) K9 f8 v6 (Or.inl ⟨rfl, rfl⟩) (sp := (0 : Int32)) (dp := (0 : Int32)) (nn := (6 : Int32)) (by decide) (by decide) (by decide) (by decide) (by decide) (us := [(.int p3), (.int p4), (.int (58 : Int32)), (.int (32 : Int32)), (.int p5), (.int p6)]) rfl (Nat.le_of_ble_eq_true rfl) N10 g12 (g := (mkF m 27 #[rv a1, .val o0, iv (6 : Int32), iv (6 : Int32), rv b3] [(.int (6 : Int32)), o0, (.ref b3), o0, (.ref a1)])) rfl (by rw [hml]; rfl) rfl (hb hby d_415) (by decide) (W := 0) (by show 2 * 0 + _ ≤ _; exact Nat.le_of_eq rfl) (by decide)
  have O13 := O4.keep K11 (allS g12 all0)
  have K14 : Keep h0 h11 [] := Keep.trans K5 K11 (allS (Or.inr (Nat.le_of_eq g3.symm)) all0)
  have v15 : Arv Z h11 b3 k3 .byte (6 : Int32) [(.int p3), (.int p4), (.int (58 : Int32)), (.int (32 : Int32)), (.int p5), (.int p6)] o0 := V11
  have f16 := (B3.keep K11)
  refine ⟨T11, some (.ref b3), _, _, _, X11, by decide, by decide, nofun, ?_, fun fs hr => castTop (ef_492 m a1) ?_⟩
  · show Q130_copyOfRangeByte Z a1 k2 p3 p4 p5 p6 h0 n0 _ T11.heap _
    rw [e11]
    exact ⟨b3, k3, rfl, N11, K14, (Nat.le_of_eq g3.symm), v15, f16⟩
  · show SS p e below s₁ m 0 #[rv a1, .val o0, iv (6 : Int32), .unset, .unset] [] _
    refine XS.iloadN X0.here hx rfl (hb hby d_381) rfl ?_
    refine XS.iloadN X0.here hx rfl (hb hby d_382) rfl ?_
    refine st1 _ ?_
    refine XS.iloadN X1.here hx rfl (hb hby d_391) rfl ?_
    refine XS.iloadN X1.here hx rfl (hb hby d_392) rfl ?_
    refine XS.isub X1.here hx rfl (hb hby d_393) rfl ?_
    show SS p e below T1 m 8 #[rv a1, .val o0, iv (6 : Int32), .unset, .unset] [(.int (6 : Int32))] _
    refine XS.istoreN X1.here hx rfl (hb hby d_394) rfl (l' := #[rv a1, .val o0, iv (6 : Int32), iv (6 : Int32), .unset]) rfl ?_
    refine XS.iloadN X1.here hx rfl (hb hby d_395) rfl ?_
    refine st3 _ ?_
    refine XS.astore X3.here hx rfl (hb hby d_397) rfl rfl (l' := #[rv a1, .val o0, iv (6 : Int32), iv (6 : Int32), rv b3]) rfl ?_
    refine XS.aloadN X3.here hx rfl (hb hby d_398) rfl rfl ?_
    refine XS.iloadN X3.here hx rfl (hb hby d_399) rfl ?_
    refine XS.aload X3.here hx rfl (hb hby d_400) rfl rfl ?_
    refine XS.iconst X3.here hx rfl (hb hby d_401) ?_
    refine XS.aloadN X3.here hx rfl (hb hby d_402) rfl rfl ?_
    refine X3.arraylength hx (by rw [e3]; exact A7.1) (State.isArrayOf_alike hZ.alike A7.2.1) (g := (mkF m 20 #[rv a1, .val o0, iv (6 : Int32), iv (6 : Int32), rv b3] [(.ref a1), o0, (.ref b3), o0, (.ref a1)])) rfl rfl (hb hby d_403) _ ?_
    rw [len_of S7 N7]
    show SS p e below T3 m 21 #[rv a1, .val o0, iv (6 : Int32), iv (6 : Int32), rv b3] [(.int (16 : Int32)), o0, (.ref b3), o0, (.ref a1)] _
    refine XS.iloadN X3.here hx rfl (hb hby d_404) rfl ?_
    refine XS.isub X3.here hx rfl (hb hby d_405) rfl ?_
    show SS p e below T3 m 23 #[rv a1, .val o0, iv (6 : Int32), iv (6 : Int32), rv b3] [(.int (16 : Int32)), o0, (.ref b3), o0, (.ref a1)] _
    refine XS.iloadN X3.here hx rfl (hb hby d_406) rfl ?_
    refine st9 _ ?_
    refine st11 _ ?_
    refine XS.aload X11.here hx rfl (hb hby d_416) rfl rfl ?_
    exact retOut X11 hx hret rfl (Or.inr (Or.inr (Or.inr (Or.inr ⟨rfl, rfl, rfl⟩)))) (hb hby d_417) hr
theorem ef_493 (m : MethodId) (a1 : Addr) : entryFrame m #[(.ref a1), o0, (.int (6 : Int32))] 3 = mkF m 0 #[rv a1, .val o0, iv (6 : Int32)] [] := by first | (simp [entryFrame, mkF, argsToLocals, Value.category]; done) | rfl
def Q131_copyOfRange (Z : State) (a1 : Addr) (k2 : ClassId) (p3 : Int32) (p4 : Int32) (p5 : Int32) (p6 : Int32) (h0 : Heap) (n0 : Nat) (v : Option Value) (h : Heap) (L : List Loc) : Prop := ∃ (b2_0 : Addr) (k2_0 : ClassId), v = some (.ref b2_0) ∧ Fr n0 L ∧ Keep h0 h [] ∧ h0.size ≤ b2_0 ∧ Arv Z h b2_0 k2_0 .byte (6 : Int32) [(.int p3), (.int p4), (.int (58 : Int32)), (.int (32 : Int32)), (.int p5), (.int p6)] o0 ∧ EA46 Z h b2_0
theorem rm131_copyOfRange (l : Launch) (Z : State) (a0 : Array Value) (hw : HW Z a0) (a1 : Addr) (k2 : ClassId) (p3 : Int32) (p4 : Int32) (p5 : Int32) (p6 : Int32) (h0 : Heap) (n0 : Nat) (O0 : Old Z n0 h0) (F_0 : Arv Z h0 a1 k2 .byte (16 : Int32) [(.int p3), (.int p4), (.int (58 : Int32)), (.int (32 : Int32)), (.int p5), (.int p6), o0, o0, o0, o0, o0, o0, o0, o0, o0, o0] o0) :
    Met l Z [] MY28 jdk_65_method_132_code 3 (some (.array .byte)) ({ frames := 2, cells := 1, slots := 6, locals := 43 } : Room) #[(.ref a1), o0, (.int (6 : Int32))] h0 (Q131_copyOfRange Z a1 k2 p3 p4 p5 p6 h0 n0) := by
  have W := @own_W _ _ hw
  refine own_mk (plainFor_of_name pn_389) ?_
  intro p e s m below meth c s₁ hZ hx hby hml hown hnm hret hlk X0 e0
  have N0 := Fr.nil n0
  obtain ⟨c1, A1, q1, S1, N1, H1, G1⟩ := id F_0
  obtain ⟨_, T2, L2, X2, hQ2, st2⟩ := own_cs X0 hx hZ hown hml (W 169 rfl) (W 170 rfl) (W 167 rfl) (W 171 rfl) (rm130_copyOfRangeByte l Z a0 hw a1 k2 p3 p4 p5 p6 h0 n0 O0 (F_0)) e0 (hb hby d_380) 0 #[rv a1, .val o0, iv (6 : Int32)] [(.ref a1), o0, (.int (6 : Int32))] [] pd_419
  obtain ⟨b2_0, k2_0, rfl, N2q, K2, gb2_0, F2_0, F2_1⟩ := hQ2
  have N3 := Fr.app N0 N2q
  have O4 := O0.keep K2 all0
  have K5 : Keep h0 T2.heap [] := Keep.trans (Keep.refl h0 []) K2 all0
  refine ⟨T2, some (.ref b2_0), _, _, _, X2, by decide, by decide, nofun, ?_, fun fs hr => castTop (ef_493 m a1) ?_⟩
  · show Q131_copyOfRange Z a1 k2 p3 p4 p5 p6 h0 n0 _ T2.heap _
    exact ⟨b2_0, k2_0, rfl, N3, K5, gb2_0, F2_0, F2_1⟩
  · show SS p e below s₁ m 0 #[rv a1, .val o0, iv (6 : Int32)] [] _
    refine XS.iloadN X0.here hx rfl (hb hby d_371) rfl ?_
    refine XS.ifNo X0.here hx rfl (hb hby d_372) rfl ((if0 _ _).trans (teq (by decide : (0 : Int32) = (0 : Int32))).2) ?_
    refine XS.iloadN X0.here hx rfl (hb hby d_373) rfl ?_
    refine XS.aloadN X0.here hx rfl (hb hby d_374) rfl rfl ?_
    refine X0.arraylength hx (by rw [e0]; exact A1.1) (State.isArrayOf_alike hZ.alike A1.2.1) (g := (mkF m 6 #[rv a1, .val o0, iv (6 : Int32)] [(.ref a1), (.int (6 : Int32))])) rfl rfl (hb hby d_375) _ ?_
    rw [len_of S1 N1]
    refine XS.icmpNo X0.here hx rfl (hb hby d_376) rfl (feq (by decide : ¬ ((6 : Int32) = (16 : Int32)))).1 ?_
    refine XS.aloadN X0.here hx rfl (hb hby d_377) rfl rfl ?_
    refine XS.iloadN X0.here hx rfl (hb hby d_378) rfl ?_
    refine XS.iloadN X0.here hx rfl (hb hby d_379) rfl ?_
    refine st2 _ ?_
    show SS p e below T2 m 16 #[rv a1, .val o0, iv (6 : Int32)] [(.ref b2_0)] _
    exact retOut X2 hx hret rfl (Or.inr (Or.inr (Or.inr (Or.inr ⟨rfl, rfl, rfl⟩)))) (hb hby d_420) hr
def Q132_init (Z : State) (a1 : Addr) (a2 : Addr) (a3 : Addr) (p4 : Int32) (k5 : ClassId) (p6 : Int32) (p7 : Int32) (p8 : Int32) (p9 : Int32) (h0 : Heap) (n0 : Nat) (v : Option Value) (h : Heap) (L : List Loc) : Prop := ∃ (b13_0 : Addr) (k13_0 : ClassId), v = none ∧ Fr n0 L ∧ Keep h0 h [a1] ∧ h0.size ≤ b13_0 ∧ Arv Z h b13_0 k13_0 .byte (6 : Int32) [(.int p6), (.int p7), (.int (58 : Int32)), (.int (32 : Int32)), (.int p8), (.int p9)] o0 ∧ EA46 Z h b13_0 ∧ FA38 Z h a1 o0 ∧ FA37 Z h a1 (.ref b13_0)
theorem rm132_init (l : Launch) (Z : State) (a0 : Array Value) (hw : HW Z a0) (a1 : Addr) (a2 : Addr) (a3 : Addr) (p4 : Int32) (k5 : ClassId) (p6 : Int32) (p7 : Int32) (p8 : Int32) (p9 : Int32) (h0 : Heap) (n0 : Nat) (O0 : Old Z n0 h0) (F_0 : EA47 Z h0 a2) (F_1 : FA41 Z h0 a2 (.ref a3)) (F_2 : FA43 Z h0 a2 (.int (6 : Int32))) (S_3 : SA48 Z Z.heap (.int p4)) (hc_4 : ¬ (p4 = (0 : Int32))) (F_5 : FA42 Z h0 a2 o0) (F_6 : EA44 Z h0 a1) (F_7 : FA38 Z h0 a1 o0) (g_8 : n0 ≤ a1) (F_9 : Arv Z h0 a3 k5 .byte (16 : Int32) [(.int p6), (.int p7), (.int (58 : Int32)), (.int (32 : Int32)), (.int p8), (.int p9), o0, o0, o0, o0, o0, o0, o0, o0, o0, o0] o0) (ne_10 : a1 ≠ a3) (F_11 : FA37 Z h0 a1 .null) (lt_12 : a1 < h0.size) :
    Met l Z [] MY29 jdk_42_method_150_code 5 none ({ frames := 3, cells := 1, slots := 6, locals := 58 } : Room) #[(.ref a1), (.ref a2), .null] h0 (Q132_init Z a1 a2 a3 p4 k5 p6 p7 p8 p9 h0 n0) := by
  have W := @own_W _ _ hw
  refine own_mk (plainFor_of_name pn_30) ?_
  intro p e s m below meth c s₁ hZ hx hby hml hown hnm hret hlk X0 e0
  have N0 := Fr.nil n0
  obtain ⟨T1, X1, e1, st1⟩ := initO X0 hx hZ hown (W 16 rfl) (W 17 rfl) (W 18 rfl) e0 (g := (mkF m 1 #[rv a1, rv a2, .val .null, .unset, .unset] [(.ref a1)])) rfl (by rw [hml]; rfl) rfl (hb hby d_335) (by decide) (W := 0) (by show 2 * 0 + _ ≤ _; exact Nat.le_of_eq rfl) (by decide)
  obtain ⟨_, T2, L2, X2, hQ2, st2⟩ := own_cv X1 hx hZ hown hml (W 147 rfl) (W 148 rfl) (notFace_of_selects (W 150 rfl)) (W 150 rfl) (W 149 rfl) (W 79 rfl) (W 151 rfl) (rm42_getValue l Z a0 hw a2 a3 h0 n0 O0 (F_1)) e1 F_0 (hb hby d_337) 0 #[rv a1, rv a2, .val .null, .unset, .unset] [] [] pd_341
  obtain ⟨rfl, N2q, K2⟩ := hQ2
  have N3 := Fr.app N0 N2q
  obtain ⟨_, T4, L4, X4, hQ4, st4⟩ := own_cv X2 hx hZ hown hml (W 152 rfl) (W 153 rfl) (own_nf (args := a0) (y := MY15) rfl (id (W 112 rfl))) (W 155 rfl) (W 156 rfl) (W 71 rfl) (W 157 rfl) (rm128_length l Z a0 hw a2 h0 n0 O0 (F_2) (F_0)) K2 F_0 (hb hby d_344) 0 #[rv a1, rv a2, .val .null, rv a3, .unset] [] [] pd_234
  obtain ⟨rfl, N4q, K4⟩ := hQ4
  have N5 := Fr.app N3 N4q
  obtain ⟨_, T6, L6, X6, hQ6, st6⟩ := own_cv X4 hx hZ hown hml (W 160 rfl) (W 161 rfl) (notFace_of_selects (W 163 rfl)) (W 163 rfl) (W 162 rfl) (W 79 rfl) (W 164 rfl) (rm45_isLatin1 l Z a0 hw a2 p4 h0 n0 O0 (S_3) (hc_4) (F_5)) K4 F_0 (hb hby d_353) 0 #[rv a1, rv a2, .val .null, rv a3, iv (6 : Int32)] [] [] pd_67
  obtain ⟨rfl, N6q, K6⟩ := hQ6
  have N7 := Fr.app N5 N6q
  obtain ⟨T8, h8, X8, e8, W8, st8⟩ := putFN X6 hx hZ hown (W 26 rfl) Via.refl K6 F_7 F_6 (Or.inr ⟨(W 22 rfl), rfl, hnm⟩) (W 6 rfl) (ty := .byte) (v' := o0) (by decide) rfl rfl (g := (mkF m 24 #[rv a1, rv a2, .val .null, rv a3, iv (6 : Int32)] [o0, (.ref a1)])) rfl rfl (hb hby d_365)
  have O9 := O0.wr W8 g_8
  have K10 : Keep h0 h8 [a1] := Keep.wr (Keep.refl h0 [a1]) W8 (Or.inl (List.mem_of_getElem? (i := 0) rfl))
  have f11 : FA38 Z h8 a1 o0 := (F_7.same W8)
  have N12 := Fr.snoc X8 N7 g_8
  have f14 := (F_9.other W8 (Ne.symm ne_10))
  obtain ⟨_, T13, L13, X13, hQ13, st13⟩ := own_cs X8 hx hZ hown hml (W 165 rfl) (W 166 rfl) (W 167 rfl) (W 168 rfl) (rm131_copyOfRange l Z a0 hw a3 k5 p6 p7 p8 p9 h8 n0 O9 (f14)) e8 (hb hby d_370) 1 #[rv a1, rv a2, .val .null, rv a3, iv (6 : Int32)] [(.ref a3), o0, (.int (6 : Int32))] [(.ref a1)] pd_419
  obtain ⟨b13_0, k13_0, rfl, N13q, K13, gb13_0, F13_0, F13_1⟩ := hQ13
  have N15 := Fr.app N12 N13q
  have O16 := O9.keep K13 all0
  have K17 : Keep h0 T13.heap [a1] := Keep.trans K10 K13 all0
  have f19 := ((F_11.other W8 (Or.inr (slot_ne (Or.inr (W 21 rfl)) (Or.inr (W 22 rfl)) (by decide) (t := (.array .byte)) (t' := .byte) (by decide) (by decide)))).keep K13 nin0)
  have f20 := ((F_6.wr W8).keep K13)
  obtain ⟨T18, h18, X18, e18, W18, st18⟩ := putF X13 hx hZ hown (host := "") (Or.inl (W 25 rfl)) Via.refl rfl f19 f20 (Or.inr ⟨(W 21 rfl), rfl, hnm⟩) (W 6 rfl) (ty := (.array .byte)) (by decide) rfl rfl (g := (mkF m 35 #[rv a1, rv a2, .val .null, rv a3, iv (6 : Int32)] [(.ref b13_0), (.ref a1)])) rfl rfl (hb hby d_422)
  have O21 := O16.wr W18 g_8
  have K22 : Keep h0 h18 [a1] := Keep.wr K17 W18 (Or.inl (List.mem_of_getElem? (i := 0) rfl))
  have f23 : FA37 Z h18 a1 (.ref b13_0) := (f19.same W18)
  have N24 := Fr.snoc X18 N15 g_8
  have z25 : h0.size ≤ h8.size := (Nat.le_of_eq W8.size.symm)
  have f26 := (F13_0.other W18 (Ne.symm (Nat.ne_of_lt (Nat.lt_of_lt_of_le (Nat.lt_of_lt_of_le lt_12 z25) gb13_0))))
  have f27 := (F13_1.wr W18)
  have f28 := ((f11.keep K13 nin0).other W18 (Or.inr (slot_ne (Or.inr (W 22 rfl)) (Or.inr (W 21 rfl)) (by decide) (t := .byte) (t' := (.array .byte)) (by decide) (by decide))))
  refine ⟨T18, none, _, _, _, X18, by decide, by decide, (fun _ => rfl), ?_, fun fs hr => castTop (ef_425 m a1 a2) ?_⟩
  · show Q132_init Z a1 a2 a3 p4 k5 p6 p7 p8 p9 h0 n0 _ T18.heap _
    rw [e18]
    exact ⟨b13_0, k13_0, rfl, N24, K22, (Nat.le_trans z25 gb13_0), f26, f27, f28, f23⟩
  · show SS p e below s₁ m 0 #[rv a1, rv a2, .val .null, .unset, .unset] [] _
    refine XS.aloadN X0.here hx rfl (hb hby d_334) rfl rfl ?_
    refine st1 _ ?_
    refine XS.aloadN X1.here hx rfl (hb hby d_336) rfl rfl ?_
    refine st2 _ ?_
    refine XS.astoreN X2.here hx rfl (hb hby d_342) rfl rfl (l' := #[rv a1, rv a2, .val .null, rv a3, .unset]) rfl ?_
    refine XS.aloadN X2.here hx rfl (hb hby d_343) rfl rfl ?_
    refine st4 _ ?_
    refine XS.istore X4.here hx rfl (hb hby d_351) rfl (l' := #[rv a1, rv a2, .val .null, rv a3, iv (6 : Int32)]) rfl ?_
    refine XS.aloadN X4.here hx rfl (hb hby d_352) rfl rfl ?_
    refine st6 _ ?_
    show SS p e below T6 m 19 #[rv a1, rv a2, .val .null, rv a3, iv (6 : Int32)] [(.int (1 : Int32))] _
    refine XS.ifNo X6.here hx rfl (hb hby d_362) rfl ((if0 _ _).trans (feq (by decide : ¬ ((1 : Int32) = (0 : Int32)))).1) ?_
    refine XS.aloadN X6.here hx rfl (hb hby d_363) rfl rfl ?_
    refine XS.iconst X6.here hx rfl (hb hby d_364) ?_
    refine st8 _ ?_
    refine XS.aloadN X8.here hx rfl (hb hby d_366) rfl rfl ?_
    refine XS.aloadN X8.here hx rfl (hb hby d_367) rfl rfl ?_
    refine XS.iconst X8.here hx rfl (hb hby d_368) ?_
    refine XS.iload X8.here hx rfl (hb hby d_369) rfl ?_
    refine st13 _ ?_
    refine st18 _ ?_
    show SS p e below T18 m 38 #[rv a1, rv a2, .val .null, rv a3, iv (6 : Int32)] [] _
    refine XS.goto X18.here hx rfl (pc0 := 38) (pc' := 97) rfl (hb hby d_423) (by decide) (by decide) ?_
    exact X18.returnOut hx hret (hb hby d_424) hr
def Q133_init (Z : State) (a1 : Addr) (a2 : Addr) (a3 : Addr) (p4 : Int32) (k5 : ClassId) (p6 : Int32) (p7 : Int32) (p8 : Int32) (p9 : Int32) (h0 : Heap) (n0 : Nat) (v : Option Value) (h : Heap) (L : List Loc) : Prop := ∃ (b1_0 : Addr) (k1_0 : ClassId), v = none ∧ Fr n0 L ∧ Keep h0 h [a1] ∧ h0.size ≤ b1_0 ∧ Arv Z h b1_0 k1_0 .byte (6 : Int32) [(.int p6), (.int p7), (.int (58 : Int32)), (.int (32 : Int32)), (.int p8), (.int p9)] o0 ∧ EA46 Z h b1_0 ∧ FA38 Z h a1 o0 ∧ FA37 Z h a1 (.ref b1_0)
theorem rm133_init (l : Launch) (Z : State) (a0 : Array Value) (hw : HW Z a0) (a1 : Addr) (a2 : Addr) (a3 : Addr) (p4 : Int32) (k5 : ClassId) (p6 : Int32) (p7 : Int32) (p8 : Int32) (p9 : Int32) (h0 : Heap) (n0 : Nat) (O0 : Old Z n0 h0) (F_0 : EA47 Z h0 a2) (F_1 : FA41 Z h0 a2 (.ref a3)) (F_2 : FA43 Z h0 a2 (.int (6 : Int32))) (S_3 : SA48 Z Z.heap (.int p4)) (hc_4 : ¬ (p4 = (0 : Int32))) (F_5 : FA42 Z h0 a2 o0) (F_6 : EA44 Z h0 a1) (F_7 : FA38 Z h0 a1 o0) (F_8 : Arv Z h0 a3 k5 .byte (16 : Int32) [(.int p6), (.int p7), (.int (58 : Int32)), (.int (32 : Int32)), (.int p8), (.int p9), o0, o0, o0, o0, o0, o0, o0, o0, o0, o0] o0) (F_9 : FA37 Z h0 a1 .null) (g_10 : n0 ≤ a1) (ne_11 : a1 ≠ a3) (lt_12 : a1 < h0.size) :
    Met l Z [] MY30 jdk_42_method_53_code 2 none ({ frames := 4, cells := 1, slots := 6, locals := 74 } : Room) #[(.ref a1), (.ref a2)] h0 (Q133_init Z a1 a2 a3 p4 k5 p6 p7 p8 p9 h0 n0) := by
  have W := @own_W _ _ hw
  refine own_mk (plainFor_of_name pn_30) ?_
  intro p e s m below meth c s₁ hZ hx hby hml hown hnm hret hlk X0 e0
  have N0 := Fr.nil n0
  obtain ⟨_, T1, L1, X1, hQ1, st1⟩ := own_cp X0 hx hZ hown hml rfl (W 144 rfl) (W 145 rfl) (W 7 rfl) (W 146 rfl) (rm132_init l Z a0 hw a1 a2 a3 p4 k5 p6 p7 p8 p9 h0 n0 O0 (F_0) (F_1) (F_2) (S_3) (hc_4) (F_5) (F_6) (F_7) (g_10) (F_8) (ne_11) (F_9) (lt_12)) e0 (hb hby d_333) 0 #[rv a1, rv a2] a1 [(.ref a2), .null] [] pd_426
  obtain ⟨b1_0, k1_0, rfl, N1q, K1, gb1_0, F1_0, F1_1, F1_2, F1_3⟩ := hQ1
  have N2 := Fr.app N0 N1q
  have O3 := O0.keep K1 (allS g_10 all0)
  have K4 : Keep h0 T1.heap [a1] := Keep.trans (Keep.refl h0 [a1]) K1 (allS (Or.inl (List.mem_of_getElem? (i := 0) rfl)) all0)
  refine ⟨T1, none, _, _, _, X1, by decide, by decide, (fun _ => rfl), ?_, fun fs hr => castTop (ef_33 m a1 a2) ?_⟩
  · show Q133_init Z a1 a2 a3 p4 k5 p6 p7 p8 p9 h0 n0 _ T1.heap _
    exact ⟨b1_0, k1_0, rfl, N2, K4, gb1_0, F1_0, F1_1, F1_2, F1_3⟩
  · show SS p e below s₁ m 0 #[rv a1, rv a2] [] _
    refine XS.aloadN X0.here hx rfl (hb hby d_330) rfl rfl ?_
    refine XS.aloadN X0.here hx rfl (hb hby d_331) rfl rfl ?_
    refine XS.aconstNull X0.here hx rfl (hb hby d_332) ?_
    refine st1 _ ?_
    exact X1.returnOut hx hret (hb hby d_427) hr
def Q134_toString (Z : State) (a1 : Addr) (a2 : Addr) (p3 : Int32) (k4 : ClassId) (p5 : Int32) (p6 : Int32) (p7 : Int32) (p8 : Int32) (h0 : Heap) (n0 : Nat) (v : Option Value) (h : Heap) (L : List Loc) : Prop := ∃ (b1 : Addr) (b4_0 : Addr) (k4_0 : ClassId), v = some (.ref b1) ∧ Fr n0 L ∧ Keep h0 h [] ∧ h0.size ≤ b1 ∧ h0.size ≤ b4_0 ∧ EA44 Z h b1 ∧ FA37 Z h b1 (.ref b4_0) ∧ FA38 Z h b1 o0 ∧ Arv Z h b4_0 k4_0 .byte (6 : Int32) [(.int p5), (.int p6), (.int (58 : Int32)), (.int (32 : Int32)), (.int p7), (.int p8)] o0 ∧ EA46 Z h b4_0
theorem rm134_toString (l : Launch) (Z : State) (a0 : Array Value) (hw : HW Z a0) (a1 : Addr) (a2 : Addr) (p3 : Int32) (k4 : ClassId) (p5 : Int32) (p6 : Int32) (p7 : Int32) (p8 : Int32) (h0 : Heap) (n0 : Nat) (O0 : Old Z n0 h0) (F_0 : EA47 Z h0 a1) (F_1 : FA41 Z h0 a1 (.ref a2)) (F_2 : FA43 Z h0 a1 (.int (6 : Int32))) (S_3 : SA48 Z Z.heap (.int p3)) (hc_4 : ¬ (p3 = (0 : Int32))) (F_5 : FA42 Z h0 a1 o0) (F_6 : Arv Z h0 a2 k4 .byte (16 : Int32) [(.int p5), (.int p6), (.int (58 : Int32)), (.int (32 : Int32)), (.int p7), (.int p8), o0, o0, o0, o0, o0, o0, o0, o0, o0, o0] o0) (lt_7 : a2 < h0.size) :
    Met l Z [] MY31 jdk_67_method_42_code 1 (some (.object "java/lang/String")) ({ frames := 5, cells := 2, slots := 10, locals := 88 } : Room) #[(.ref a1)] h0 (Q134_toString Z a1 a2 p3 k4 p5 p6 p7 p8 h0 n0) := by
  have W := @own_W _ _ hw
  refine own_mk (plainFor_of_name pn_209) ?_
  intro p e s m below meth c s₁ hZ hx hby hml hown hnm hret hlk X0 e0
  have N0 := Fr.nil n0
  obtain ⟨T1, h1, X1, e1, E1, A1, D1, -, st1⟩ := newO X0 hx hZ hown (W 140 rfl) (W 6 rfl) (W 7 rfl) e0 (g := (mkF m 0 #[rv a1] [])) rfl (hb hby d_326) (by decide) (by decide)
  obtain ⟨b1, g1⟩ : ∃ z, z = h0.size := ⟨_, rfl⟩
  rw [← g1] at A1 D1 st1
  have O2 := O0.ext E1
  have K3 : Keep h0 h1 [] := Keep.ext (Keep.refl h0 []) E1
  have f5 := (F_0.ext E1)
  have f6 := (F_1.ext E1)
  have f7 := (F_2.ext E1)
  have f8 := (F_5.ext E1)
  have f9 := (F_6.ext E1)
  have g10 : n0 ≤ b1 := Nat.le_trans (Nat.le_trans (Nat.le_of_eq O0.1.symm) O0.2.1) (Nat.le_of_eq g1.symm)
  obtain ⟨_, T4, L4, X4, hQ4, st4⟩ := own_cp X1 hx hZ hown hml rfl (W 141 rfl) (W 142 rfl) (W 7 rfl) (W 143 rfl) (rm133_init l Z a0 hw b1 a1 a2 p3 k4 p5 p6 p7 p8 h1 n0 O2 (f5) (f6) (f7) (S_3) (hc_4) (f8) (A1) ((D1 (Or.inr (W 22 rfl)) (ty := .byte) (by decide) : FA38 Z h1 b1 o0)) (f9) ((D1 (Or.inr (W 21 rfl)) (ty := (.array .byte)) (by decide) : FA37 Z h1 b1 .null)) (g10) ((Ne.symm (Nat.ne_of_lt (Nat.lt_of_lt_of_le lt_7 (Nat.le_of_eq g1.symm))))) (A1.lt)) e1 (hb hby d_329) 1 #[rv a1] b1 [(.ref a1)] [(.ref b1)] pd_428
  obtain ⟨b4_0, k4_0, rfl, N4q, K4, gb4_0, F4_0, F4_1, F4_2, F4_3⟩ := hQ4
  have N11 := Fr.app N0 N4q
  have O12 := O2.keep K4 (allS g10 all0)
  have K13 : Keep h0 T4.heap [] := Keep.trans K3 K4 (allS (Or.inr (Nat.le_of_eq g1.symm)) all0)
  have f14 := (A1.keep K4)
  have z15 : h0.size ≤ h1.size := E1.1
  refine ⟨T4, some (.ref b1), _, _, _, X4, by decide, by decide, nofun, ?_, fun fs hr => castTop (ef_44 m a1) ?_⟩
  · show Q134_toString Z a1 a2 p3 k4 p5 p6 p7 p8 h0 n0 _ T4.heap _
    exact ⟨b1, b4_0, k4_0, rfl, N11, K13, (Nat.le_of_eq g1.symm), (Nat.le_trans z15 gb4_0), f14, F4_3, F4_2, F4_0, F4_1⟩
  · show SS p e below s₁ m 0 #[rv a1] [] _
    refine st1 _ ?_
    refine XS.dup X1.here hx rfl (hb hby d_327) rfl rfl ?_
    refine XS.aloadN X1.here hx rfl (hb hby d_328) rfl rfl ?_
    refine st4 _ ?_
    exact retOut X4 hx hret rfl (Or.inr (Or.inr (Or.inr (Or.inr ⟨rfl, rfl, rfl⟩)))) (hb hby d_429) hr
def Q135_toString (Z : State) (a1 : Addr) (a2 : Addr) (a3 : Addr) (k4 : ClassId) (p5 : Int32) (p6 : Int32) (p7 : Int32) (a8 : Addr) (a9 : Addr) (k10 : ClassId) (p11 : Int32) (p12 : Int32) (h0 : Heap) (n0 : Nat) (v : Option Value) (h : Heap) (L : List Loc) : Prop := ∃ (b68_0 : Addr) (b68_1 : Addr) (k68_0 : ClassId), v = some (.ref b68_0) ∧ Fr n0 L ∧ Keep h0 h [] ∧ h0.size ≤ b68_0 ∧ h0.size ≤ b68_1 ∧ EA44 Z h b68_0 ∧ FA37 Z h b68_0 (.ref b68_1) ∧ FA38 Z h b68_0 o0 ∧ Arv Z h b68_1 k68_0 .byte (6 : Int32) [(.int p5), (.int p6), (.int (58 : Int32)), (.int (32 : Int32)), (.int p11), (.int p12)] o0 ∧ EA46 Z h b68_1
theorem rm135_toString (l : Launch) (Z : State) (a0 : Array Value) (hw : HW Z a0) (a1 : Addr) (a2 : Addr) (a3 : Addr) (k4 : ClassId) (p5 : Int32) (p6 : Int32) (p7 : Int32) (a8 : Addr) (a9 : Addr) (k10 : ClassId) (p11 : Int32) (p12 : Int32) (h0 : Heap) (n0 : Nat) (O0 : Old Z n0 h0) (F_0 : FA39 Z h0 a1 (.ref a2)) (F_1 : EA44 Z h0 a2) (F_2 : FA37 Z h0 a2 (.ref a3)) (F_3 : Arv Z h0 a3 k4 .byte (2 : Int32) [(.int p5), (.int p6)] o0) (S_4 : SA48 Z Z.heap (.int p7)) (hc_5 : ¬ (p7 = (0 : Int32))) (lt_6 : a1 < h0.size) (F_7 : FA38 Z h0 a2 o0) (lt_8 : a2 < h0.size) (lt_9 : a3 < h0.size) (F_10 : FA40 Z h0 a1 (.ref a8)) (F_11 : EA44 Z h0 a8) (F_12 : FA37 Z h0 a8 (.ref a9)) (F_13 : Arv Z h0 a9 k10 .byte (2 : Int32) [(.int p11), (.int p12)] o0) (F_14 : FA38 Z h0 a8 o0) (lt_15 : a8 < h0.size) (lt_16 : a9 < h0.size) :
    MetH l Z [] MY6 prog_7_method_2_code 1 (some (.object "java/lang/String")) ({ frames := 6, cells := 6, slots := 42, locals := 100 } : Room) #[(.ref a1)] h0 consts_1 [] (Q135_toString Z a1 a2 a3 k4 p5 p6 p7 a8 a9 k10 p11 p12 h0 n0) := by
  have W := @own_W _ _ hw
  refine own_mkH (plainFor_of_name pn_55) ?_
  intro p e s m below meth c s₁ hZ hx hby hml hown hnm hret hlk X0 e0 H0 hsf
  have N0 := Fr.nil n0
  have C0 := CHr.refl H0
  have X1 := (show Stand p l e _ (s.setVm s.vm) m _ below meth c _ _ _ _ from X0)
  obtain ⟨T2, X2, e2, st2⟩ := getF X1 hx hZ hown (host := "") (Or.inl (W 39 rfl)) Via.refl e0 F_0 (g := (mkF m 1 #[rv a1] [(.ref a1)])) rfl rfl (hb hby d_58)
  obtain ⟨_, T3, L3, X3, hQ3, st3⟩ := own_cv X2 hx hZ hown hml (W 48 rfl) (W 49 rfl) (notFace_of_selects (W 51 rfl)) (W 51 rfl) (W 50 rfl) (W 7 rfl) (W 52 rfl) (rm89_isEmpty l Z a0 hw a2 a3 k4 p5 p6 h0 n0 O0 (F_2) (F_3)) e2 F_1 (hb hby d_59) 0 #[rv a1] [] [] pd_67
  obtain ⟨rfl, N3q, K3⟩ := hQ3
  have N4 := Fr.app N0 N3q
  obtain ⟨T5, h5, X5, e5, E5, A5, D5, -, st5⟩ := newO X3 hx hZ hown (W 69 rfl) (W 70 rfl) (W 71 rfl) K3 (g := (mkF m 17 #[rv a1] [])) rfl (hb hby d_186) (by decide) (by decide)
  obtain ⟨b5, g5⟩ : ∃ z, z = h0.size := ⟨_, rfl⟩
  rw [← g5] at A5 D5 st5
  have c6 := CHr.ext E5 H0
  have C7 := CHr.trans C0 c6
  have O8 := O0.ext E5
  have K9 : Keep h0 h5 [] := Keep.ext (Keep.refl h0 []) E5
  have g11 : n0 ≤ b5 := Nat.le_trans (Nat.le_trans (Nat.le_of_eq O0.1.symm) O0.2.1) (Nat.le_of_eq g5.symm)
  obtain ⟨_, T10, L10, X10, hQ10, st10⟩ := own_cp X5 hx hZ hown hml rfl (W 72 rfl) (W 73 rfl) (W 71 rfl) (W 74 rfl) (rm23_init l Z a0 hw b5 p7 h5 n0 O8 (S_4) (hc_5) (A5) ((D5 (Or.inl (W 84 rfl)) (ty := (.array .byte)) (by decide) : FA41 Z h5 b5 .null)) ((D5 (Or.inl (W 86 rfl)) (ty := .byte) (by decide) : FA42 Z h5 b5 o0)) ((D5 (Or.inl (W 108 rfl)) (ty := .int) (by decide) : FA43 Z h5 b5 o0)) (g11) (A5.lt)) e5 (hb hby d_188) 1 #[rv a1] b5 [] [(.ref b5)] pd_46
  obtain ⟨b10_0, k10_0, rfl, N10q, K10, gb10_0, F10_0, F10_1, F10_2, F10_3, F10_4⟩ := hQ10
  have N12 := Fr.app N4 N10q
  have s13 := Safe.exa (EL := consts_1) hZ.alike A5 (by decide) (by decide)
  have c14 := CHr.keep K10 (sfS s13 sf0) c6.1
  have C15 := CHr.trans C7 c14
  have O16 := O8.keep K10 (allS g11 all0)
  have K17 : Keep h0 T10.heap [] := Keep.trans K9 K10 (allS (Or.inr (Nat.le_of_eq g5.symm)) all0)
  have f19 := ((F_0.ext E5).keep K10 (ninS (Nat.ne_of_lt (Nat.lt_of_lt_of_le lt_6 (Nat.le_of_eq g5.symm))) nin0))
  obtain ⟨T18, X18, e18, st18⟩ := getF X10 hx hZ hown (host := "") (Or.inl (W 39 rfl)) Via.refl rfl f19 (g := (mkF m 25 #[rv a1] [(.ref a1), (.ref b5)])) rfl rfl (hb hby d_211)
  have f21 := ((F_1.ext E5).keep K10)
  have f22 := ((F_2.ext E5).keep K10 (ninS (Nat.ne_of_lt (Nat.lt_of_lt_of_le lt_8 (Nat.le_of_eq g5.symm))) nin0))
  have f23 := ((F_3.ext E5).keep K10 (ninS (Nat.ne_of_lt (Nat.lt_of_lt_of_le lt_9 (Nat.le_of_eq g5.symm))) nin0))
  have f24 := ((F_7.ext E5).keep K10 (ninS (Nat.ne_of_lt (Nat.lt_of_lt_of_le lt_8 (Nat.le_of_eq g5.symm))) nin0))
  have f25 := (A5.keep K10)
  have z26 : h0.size ≤ h5.size := E5.1
  have g27 : n0 ≤ b10_0 := Nat.le_trans (Nat.le_trans (Nat.le_trans (Nat.le_of_eq O0.1.symm) O0.2.1) z26) gb10_0
  obtain ⟨_, T20, L20, X20, hQ20, st20⟩ := own_cv X18 hx hZ hown hml (W 87 rfl) (W 88 rfl) (notFace_of_selects (W 90 rfl)) (W 90 rfl) (W 89 rfl) (W 71 rfl) (W 91 rfl) (rm94_append l Z a0 hw b5 a2 a3 k4 p5 p6 p7 b10_0 k10_0 T10.heap n0 O16 (f21) (f22) (f23) (S_4) (hc_5) (f24) (F10_4) (f25) (F10_2) (F10_0) (F10_3) (g27) ((Nat.ne_of_lt (Nat.lt_of_lt_of_le A5.lt gb10_0))) (g11)) e18 f25 (hb hby d_212) 0 #[rv a1] [(.ref a2)] [] pd_314
  obtain ⟨rfl, N20q, K20, F20_0, F20_1, F20_2, F20_3⟩ := hQ20
  have N28 := Fr.app N12 N20q
  have f29 := (Safe.keep K10 (sfS s13 sf0) c6.1 (Safe.new gb10_0))
  have s30 := Safe.exa (EL := consts_1) hZ.alike f25 (by decide) (by decide)
  have c31 := CHr.keep K20 (sfS s30 (sfS f29 sf0)) c14.1
  have C32 := CHr.trans C15 c31
  have O33 := O16.keep K20 (allS g11 (allS g27 all0))
  have K34 : Keep h0 T20.heap [] := Keep.trans K17 K20 (allS (Or.inr (Nat.le_of_eq g5.symm)) (allS (Or.inr (Nat.le_trans z26 gb10_0)) all0))
  obtain ⟨b35, T35, h35, k35, b35v, kc35, X35, e35, E35, hS35, hk35, hZ35, hown35, Le35, Lc35, Lv35, La35, Lx35, Lb35, c35, -, Ln35, st35⟩ := ldcCH (s := s) (vm0 := s.vm) (EL := consts_1) X20 hx hZ hown (W 134 rfl) (own_str_20 hw) rfl ((State.WarmedH.refl s).since 0) (Nat.zero_le _) (own_ew_21 hw) (List.mem_of_getElem? (i := 0) rfl) c31.1 (vs := [(.int (58 : Int32)), (.int (32 : Int32))]) (z := (2 : Int32)) ⟨by decide, by decide⟩ (by decide) rfl (g := (mkF m 31 #[rv a1] [(.ref b5)])) rfl (hb hby d_315) (n := 8) (by decide) (by decide) (by decide) (by decide)
  have C36 := CHr.trans C32 c35
  have O37 := O33.ext E35
  have K38 : Keep h0 h35 [] := Keep.ext K34 E35
  have f40 := (F20_0.ext E35)
  have f41 := ((f25.keep K20).ext E35)
  have f42 := (F20_1.ext E35)
  have f43 := (F20_2.ext E35)
  have f44 := (F20_3.ext E35)
  obtain ⟨_, T39, L39, X39, hQ39, st39⟩ := own_cv X35 hx hZ35 hown35 hml (W 87 rfl) (W 88 rfl) (notFace_of_selects (W 90 rfl)) (W 90 rfl) (W 89 rfl) (W 71 rfl) (W 91 rfl) (rm99_append l Z a0 hw b5 b35 b35v kc35 p7 b10_0 k10_0 p5 p6 h35 n0 O37 (Le35) (Lv35) (La35) (S_4) (hc_5) (Lc35) (f40) (f41) (f42) (f43) (f44) (g27) ((Nat.ne_of_lt (Nat.lt_of_lt_of_le A5.lt gb10_0))) (g11)) e35 f41 (hb hby d_316) 0 #[rv a1] [(.ref b35)] [] pd_314
  obtain ⟨rfl, N39q, K39, F39_0, F39_1, F39_2, F39_3⟩ := hQ39
  have N45 := Fr.app N28 N39q
  have z46 : T10.heap.size ≤ T20.heap.size := K20.1
  have f47 := (CHr.safe c35 (Nat.lt_of_lt_of_le F10_0.lt z46) (Safe.keep K20 (sfS s30 (sfS f29 sf0)) c14.1 f29))
  have s48 := Safe.exa (EL := consts_1) hZ35.alike f41 (by decide) (by decide)
  have c49 := CHr.keep K39 (sfS s48 (sfS f47 sf0)) c35.1
  have C50 := CHr.trans C36 c49
  have O51 := O37.keep K39 (allS g11 (allS g27 all0))
  have K52 : Keep h0 T39.heap [] := Keep.trans K38 K39 (allS (Or.inr (Nat.le_of_eq g5.symm)) (allS (Or.inr (Nat.le_trans z26 gb10_0)) all0))
  have f54 := (((((F_10.ext E5).keep K10 (ninS (Nat.ne_of_lt (Nat.lt_of_lt_of_le lt_6 (Nat.le_of_eq g5.symm))) nin0)).keep K20 (ninS (Nat.ne_of_lt (Nat.lt_of_lt_of_le lt_6 (Nat.le_of_eq g5.symm))) (ninS (Nat.ne_of_lt (Nat.lt_of_lt_of_le (Nat.lt_of_lt_of_le lt_6 z26) gb10_0)) nin0))).ext E35).keep K39 (ninS (Nat.ne_of_lt (Nat.lt_of_lt_of_le lt_6 (Nat.le_of_eq g5.symm))) (ninS (Nat.ne_of_lt (Nat.lt_of_lt_of_le (Nat.lt_of_lt_of_le lt_6 z26) gb10_0)) nin0)))
  obtain ⟨T53, X53, e53, st53⟩ := getF X39 hx hZ35 hown35 (host := "") (Or.inl (W 41 rfl)) Via.refl rfl f54 (g := (mkF m 37 #[rv a1] [(.ref a1), (.ref b5)])) rfl rfl (hb hby d_321)
  have f56 := (((((F_11.ext E5).keep K10).keep K20).ext E35).keep K39)
  have f57 := (((((F_12.ext E5).keep K10 (ninS (Nat.ne_of_lt (Nat.lt_of_lt_of_le lt_15 (Nat.le_of_eq g5.symm))) nin0)).keep K20 (ninS (Nat.ne_of_lt (Nat.lt_of_lt_of_le lt_15 (Nat.le_of_eq g5.symm))) (ninS (Nat.ne_of_lt (Nat.lt_of_lt_of_le (Nat.lt_of_lt_of_le lt_15 z26) gb10_0)) nin0))).ext E35).keep K39 (ninS (Nat.ne_of_lt (Nat.lt_of_lt_of_le lt_15 (Nat.le_of_eq g5.symm))) (ninS (Nat.ne_of_lt (Nat.lt_of_lt_of_le (Nat.lt_of_lt_of_le lt_15 z26) gb10_0)) nin0)))
  have f58 := (((((F_13.ext E5).keep K10 (ninS (Nat.ne_of_lt (Nat.lt_of_lt_of_le lt_16 (Nat.le_of_eq g5.symm))) nin0)).keep K20 (ninS (Nat.ne_of_lt (Nat.lt_of_lt_of_le lt_16 (Nat.le_of_eq g5.symm))) (ninS (Nat.ne_of_lt (Nat.lt_of_lt_of_le (Nat.lt_of_lt_of_le lt_16 z26) gb10_0)) nin0))).ext E35).keep K39 (ninS (Nat.ne_of_lt (Nat.lt_of_lt_of_le lt_16 (Nat.le_of_eq g5.symm))) (ninS (Nat.ne_of_lt (Nat.lt_of_lt_of_le (Nat.lt_of_lt_of_le lt_16 z26) gb10_0)) nin0)))
  have f59 := (((((F_14.ext E5).keep K10 (ninS (Nat.ne_of_lt (Nat.lt_of_lt_of_le lt_15 (Nat.le_of_eq g5.symm))) nin0)).keep K20 (ninS (Nat.ne_of_lt (Nat.lt_of_lt_of_le lt_15 (Nat.le_of_eq g5.symm))) (ninS (Nat.ne_of_lt (Nat.lt_of_lt_of_le (Nat.lt_of_lt_of_le lt_15 z26) gb10_0)) nin0))).ext E35).keep K39 (ninS (Nat.ne_of_lt (Nat.lt_of_lt_of_le lt_15 (Nat.le_of_eq g5.symm))) (ninS (Nat.ne_of_lt (Nat.lt_of_lt_of_le (Nat.lt_of_lt_of_le lt_15 z26) gb10_0)) nin0)))
  have f60 := (f41.keep K39)
  obtain ⟨_, T55, L55, X55, hQ55, st55⟩ := own_cv X53 hx hZ35 hown35 hml (W 87 rfl) (W 88 rfl) (notFace_of_selects (W 90 rfl)) (W 90 rfl) (W 89 rfl) (W 71 rfl) (W 91 rfl) (rm126_append l Z a0 hw b5 a8 a9 k10 p11 p12 p7 b10_0 k10_0 p5 p6 T39.heap n0 O51 (f56) (f57) (f58) (S_4) (hc_5) (f59) (F39_0) (f60) (F39_1) (F39_2) (F39_3) (g27) ((Nat.ne_of_lt (Nat.lt_of_lt_of_le A5.lt gb10_0))) (g11)) e53 f60 (hb hby d_322) 0 #[rv a1] [(.ref a8)] [] pd_314
  obtain ⟨rfl, N55q, K55, F55_0, F55_1, F55_2, F55_3⟩ := hQ55
  have N61 := Fr.app N45 N55q
  have f62 := (Safe.keep K39 (sfS s48 (sfS f47 sf0)) c35.1 f47)
  have s63 := Safe.exa (EL := consts_1) hZ35.alike f60 (by decide) (by decide)
  have c64 := CHr.keep K55 (sfS s63 (sfS f62 sf0)) c49.1
  have C65 := CHr.trans C50 c64
  have O66 := O51.keep K55 (allS g11 (allS g27 all0))
  have K67 : Keep h0 T55.heap [] := Keep.trans K52 K55 (allS (Or.inr (Nat.le_of_eq g5.symm)) (allS (Or.inr (Nat.le_trans z26 gb10_0)) all0))
  have f69 := (f60.keep K55)
  have z70 : T10.heap.size ≤ h35.size := (Nat.le_trans z46 E35.1)
  have z71 : T10.heap.size ≤ T39.heap.size := (Nat.le_trans z70 K39.1)
  have z72 : T10.heap.size ≤ T55.heap.size := (Nat.le_trans z71 K55.1)
  obtain ⟨_, T68, L68, X68, hQ68, st68⟩ := own_cv X55 hx hZ35 hown35 hml (W 135 rfl) (W 136 rfl) (notFace_of_selects (W 138 rfl)) (W 138 rfl) (W 137 rfl) (W 71 rfl) (W 139 rfl) (rm134_toString l Z a0 hw b5 b10_0 p7 k10_0 p5 p6 p11 p12 T55.heap n0 O66 (f69) (F55_1) (F55_0) (S_4) (hc_5) (F55_3) (F55_2) ((Nat.lt_of_lt_of_le F10_0.lt z72))) rfl f69 (hb hby d_325) 0 #[rv a1] [] [] pd_73
  obtain ⟨b68_0, b68_1, k68_0, rfl, N68q, K68, gb68_0, gb68_1, F68_0, F68_1, F68_2, F68_3, F68_4⟩ := hQ68
  have N73 := Fr.app N61 N68q
  have c74 := CHr.keep K68 sf0 c64.1
  have C75 := CHr.trans C65 c74
  have O76 := O66.keep K68 all0
  have K77 : Keep h0 T68.heap [] := Keep.trans K67 K68 all0
  have z78 : h35.size ≤ T39.heap.size := K39.1
  have z79 : h35.size ≤ T55.heap.size := (Nat.le_trans z78 K55.1)
  have z80 : h35.size ≤ T68.heap.size := (Nat.le_trans z79 K68.1)
  have z81 : h0.size ≤ T10.heap.size := (Nat.le_trans z26 K10.1)
  have z82 : h0.size ≤ T20.heap.size := (Nat.le_trans z81 K20.1)
  have z83 : h0.size ≤ h35.size := (Nat.le_trans z82 E35.1)
  have z84 : h0.size ≤ T39.heap.size := (Nat.le_trans z83 K39.1)
  have z85 : h0.size ≤ T55.heap.size := (Nat.le_trans z84 K55.1)
  refine ⟨T68, some (.ref b68_0), _, _, _, T35.vm, _, X68, hS35, (Nat.le_trans hk35 z80), by decide, by decide, nofun, ?_, own_che rfl (CHr.trans C75 (CHv.at (s := s) X68 hZ35 (own_ew_21 hw) c74.1)), fun fs hr => castTop (ef_44 m a1) ?_⟩
  · show Q135_toString Z a1 a2 a3 k4 p5 p6 p7 a8 a9 k10 p11 p12 h0 n0 _ T68.heap _
    exact ⟨b68_0, b68_1, k68_0, rfl, N73, K77, (Nat.le_trans z85 gb68_0), (Nat.le_trans z85 gb68_1), F68_0, F68_1, F68_2, F68_3, F68_4⟩
  · show SS p e below s₁ m 0 #[rv a1] [] _
    refine XS.aloadN X1.here hx rfl (hb hby d_57) rfl rfl ?_
    refine st2 _ ?_
    refine st3 _ ?_
    refine XS.ifYes X3.here hx rfl (pc0 := 7) (pc' := 17) rfl (hb hby d_68) rfl ((if0 _ _).trans (teq (by decide : (0 : Int32) = (0 : Int32))).1) (by decide) (by decide) ?_
    refine st5 _ ?_
    refine XS.dup X5.here hx rfl (hb hby d_187) rfl rfl ?_
    refine st10 _ ?_
    refine XS.aloadN X10.here hx rfl (hb hby d_210) rfl rfl ?_
    refine st18 _ ?_
    refine st20 _ ?_
    show SS p e below T20 m 31 #[rv a1] [(.ref b5)] _
    refine st35 _ ?_
    refine st39 _ ?_
    refine XS.aloadN X39.here hx rfl (hb hby d_320) rfl rfl ?_
    refine st53 _ ?_
    refine st55 _ ?_
    refine st68 _ ?_
    exact retOut X68 hx hret rfl (Or.inr (Or.inr (Or.inr (Or.inr ⟨rfl, rfl, rfl⟩)))) (hb hby d_72) hr
theorem rm0_2_2 (l : Launch) (Z : State) (a0 : Array Value) (hw : HW Z a0) (ws : List Jvm.Cond) (p1 : Int32) (p2 : Int32) (p3 : Int32) (p4 : Int32) (p5 : Int32) (c0 : Int32) (c1 : Int32) (d0 : Int32) (d1 : Int32) (o_COMPACT_STRINGS : Int32) (o_SIOOBE_FORMATTER : Value) (h0 : Heap) (n0 : Nat) (O0 : Old Z n0 h0) (S_o_COMPACT_STRINGS : SA48 Z Z.heap (.int o_COMPACT_STRINGS)) (S_o_SIOOBE_FORMATTER : SA49 Z Z.heap o_SIOOBE_FORMATTER) (nz_o_COMPACT_STRINGS : ¬ (o_COMPACT_STRINGS = (0 : Int32))) (ir_o_SIOOBE_FORMATTER : o_SIOOBE_FORMATTER.isRef = true) (hpl : ((p1 &&& (2147483647 : Int32)) % (3 : Int32)) = (2 : Int32)) (hml_ : ((((p1.toUInt32 >>> ((8 : Int32) &&& 31).toUInt32).toInt32) &&& (2147483647 : Int32)) % (3 : Int32)) = (2 : Int32)) (h_c0 : ((p2 &&& (255 : Int32)).toUInt32.toUInt16.toUInt32.toInt32) = c0) (r_c0 : ¬ ((255 : Int32) < c0)) (n_c0 : ¬ (c0 < (0 : Int32))) (i_c0 : (c0.toUInt32.toUInt16.toUInt32.toInt32) = c0) (b_c0 : ((c0.toInt8.toInt32) &&& (255 : Int32)) = c0) (h_c1 : ((p3 &&& (255 : Int32)).toUInt32.toUInt16.toUInt32.toInt32) = c1) (r_c1 : ¬ ((255 : Int32) < c1)) (n_c1 : ¬ (c1 < (0 : Int32))) (i_c1 : (c1.toUInt32.toUInt16.toUInt32.toInt32) = c1) (b_c1 : ((c1.toInt8.toInt32) &&& (255 : Int32)) = c1) (h_d0 : ((p4 &&& (255 : Int32)).toUInt32.toUInt16.toUInt32.toInt32) = d0) (r_d0 : ¬ ((255 : Int32) < d0)) (n_d0 : ¬ (d0 < (0 : Int32))) (i_d0 : (d0.toUInt32.toUInt16.toUInt32.toInt32) = d0) (b_d0 : ((d0.toInt8.toInt32) &&& (255 : Int32)) = d0) (h_d1 : ((p5 &&& (255 : Int32)).toUInt32.toUInt16.toUInt32.toInt32) = d1) (r_d1 : ¬ ((255 : Int32) < d1)) (n_d1 : ¬ (d1 < (0 : Int32))) (i_d1 : (d1.toUInt32.toUInt16.toUInt32.toInt32) = d1) (b_d1 : ((d1.toInt8.toInt32) &&& (255 : Int32)) = d1) :
    MetH l Z ws x code maxLocals ret room_1 #[(.int p1), (.int p2), (.int p3), (.int p4), (.int p5)] h0 consts_1 [] (fun v _ L => Q0 n0 v L) := by
  have W := @own_W _ _ hw
  refine own_mkH (plainFor_of_name pn_37) ?_
  intro p e s m below meth c s₁ hZ hx hby hml hown hnm hret hlk X0 e0 H0 hsf
  have N0 := Fr.nil n0
  have C0 := CHr.refl H0
  have X1 := (show Stand p l e _ (s.setVm s.vm) m _ below meth c _ _ _ _ from X0)
  obtain ⟨_, T2, L2, X2, hQ2, st2⟩ := own_cs X1 hx hZ hown hml (W 1 rfl) (W 2 rfl) (W 3 rfl) (W 4 rfl) (rm20_mk l Z a0 hw c0 c1 o_COMPACT_STRINGS h0 n0 O0 (i_c0) (i_c1) (S_o_COMPACT_STRINGS) (nz_o_COMPACT_STRINGS) (r_c0) (r_c1)) e0 (hb hby at_58) 0 #[iv p1, iv p2, iv p3, iv p4, iv p5, iv (2 : Int32), iv (2 : Int32), iv c0, iv c1, iv d0, iv d1, .unset, .unset, .unset] [(.int (2 : Int32)), (.int c0), (.int c1)] [] pd_38
  obtain ⟨b2_0, b2_1, k2_0, rfl, N2q, K2, gb2_0, gb2_1, F2_0, F2_1, F2_2, F2_3, F2_4⟩ := hQ2
  have N3 := Fr.app N0 N2q
  have c4 := CHr.keep K2 sf0 H0
  have C5 := CHr.trans C0 c4
  have O6 := O0.keep K2 all0
  have K7 : Keep h0 T2.heap [] := Keep.trans (Keep.refl h0 []) K2 all0
  obtain ⟨_, T8, L8, X8, hQ8, st8⟩ := own_cs X2 hx hZ hown hml (W 1 rfl) (W 2 rfl) (W 3 rfl) (W 4 rfl) (rm20_mk l Z a0 hw d0 d1 o_COMPACT_STRINGS T2.heap n0 O6 (i_d0) (i_d1) (S_o_COMPACT_STRINGS) (nz_o_COMPACT_STRINGS) (r_d0) (r_d1)) rfl (hb hby at_69) 0 #[iv p1, iv p2, iv p3, iv p4, iv p5, iv (2 : Int32), iv (2 : Int32), iv c0, iv c1, iv d0, iv d1, rv b2_0, .unset, .unset] [(.int (2 : Int32)), (.int d0), (.int d1)] [] pd_38
  obtain ⟨b8_0, b8_1, k8_0, rfl, N8q, K8, gb8_0, gb8_1, F8_0, F8_1, F8_2, F8_3, F8_4⟩ := hQ8
  have N9 := Fr.app N3 N8q
  have c10 := CHr.keep K8 sf0 c4.1
  have C11 := CHr.trans C5 c10
  have O12 := O6.keep K8 all0
  have K13 : Keep h0 T8.heap [] := Keep.trans K7 K8 all0
  obtain ⟨T14, h14, X14, e14, E14, A14, D14, -, st14⟩ := newO X8 hx hZ hown (W 27 rfl) (W 28 rfl) (W 29 rfl) rfl (g := (mkF m 74 #[iv p1, iv p2, iv p3, iv p4, iv p5, iv (2 : Int32), iv (2 : Int32), iv c0, iv c1, iv d0, iv d1, rv b2_0, rv b8_0, .unset] [])) rfl (hb hby at_74) (by decide) (by decide)
  obtain ⟨b14, g14⟩ : ∃ z, z = T8.heap.size := ⟨_, rfl⟩
  rw [← g14] at A14 D14 st14
  have c15 := CHr.ext E14 c10.1
  have C16 := CHr.trans C11 c15
  have O17 := O12.ext E14
  have K18 : Keep h0 h14 [] := Keep.ext K13 E14
  have z20 : h0.size ≤ T2.heap.size := K2.1
  have z21 : h0.size ≤ T8.heap.size := (Nat.le_trans z20 K8.1)
  have g22 : n0 ≤ b14 := Nat.le_trans (Nat.le_trans (Nat.le_trans (Nat.le_of_eq O0.1.symm) O0.2.1) z21) (Nat.le_of_eq g14.symm)
  obtain ⟨_, T19, L19, X19, hQ19, st19⟩ := own_cp X14 hx hZ hown hml rfl (W 30 rfl) (W 31 rfl) (W 29 rfl) (W 32 rfl) (rm5_init l Z a0 hw b14 b2_0 b8_0 h14 n0 O17 (A14) ((D14 (Or.inr (W 40 rfl)) (ty := (.object "java/lang/String")) (by decide) : FA39 Z h14 b14 .null)) (g22) ((D14 (Or.inr (W 42 rfl)) (ty := (.object "java/lang/String")) (by decide) : FA40 Z h14 b14 .null))) e14 (hb hby at_82) 1 #[iv p1, iv p2, iv p3, iv p4, iv p5, iv (2 : Int32), iv (2 : Int32), iv c0, iv c1, iv d0, iv d1, rv b2_0, rv b8_0, .unset] b14 [(.ref b2_0), (.ref b8_0)] [(.ref b14)] pd_56
  obtain ⟨rfl, N19q, K19, F19_0, F19_1⟩ := hQ19
  have N23 := Fr.app N9 N19q
  have s24 := Safe.exa (EL := consts_1) hZ.alike A14 (by decide) (by decide)
  have c25 := CHr.keep K19 (sfS s24 sf0) c15.1
  have C26 := CHr.trans C16 c25
  have O27 := O17.keep K19 (allS g22 all0)
  have K28 : Keep h0 T19.heap [] := Keep.trans K18 K19 (allS (Or.inr (Nat.le_trans z21 (Nat.le_of_eq g14.symm))) all0)
  have f30 := (((F2_0.keep K8).ext E14).keep K19)
  have z31 : T2.heap.size ≤ T8.heap.size := K8.1
  have f32 := (((F2_1.keep K8 nin0).ext E14).keep K19 (ninS (Nat.ne_of_lt (Nat.lt_of_lt_of_le (Nat.lt_of_lt_of_le F2_0.lt z31) (Nat.le_of_eq g14.symm))) nin0))
  have f33 := (((F2_3.keep K8 nin0).ext E14).keep K19 (ninS (Nat.ne_of_lt (Nat.lt_of_lt_of_le (Nat.lt_of_lt_of_le F2_3.lt z31) (Nat.le_of_eq g14.symm))) nin0))
  have z34 : h14.size ≤ T19.heap.size := K19.1
  have f35 := (((F2_2.keep K8 nin0).ext E14).keep K19 (ninS (Nat.ne_of_lt (Nat.lt_of_lt_of_le (Nat.lt_of_lt_of_le F2_0.lt z31) (Nat.le_of_eq g14.symm))) nin0))
  have z36 : T2.heap.size ≤ h14.size := (Nat.le_trans z31 E14.1)
  have z37 : T2.heap.size ≤ T19.heap.size := (Nat.le_trans z36 K19.1)
  have f38 := ((F8_0.ext E14).keep K19)
  have f39 := ((F8_1.ext E14).keep K19 (ninS (Nat.ne_of_lt (Nat.lt_of_lt_of_le F8_0.lt (Nat.le_of_eq g14.symm))) nin0))
  have f40 := ((F8_3.ext E14).keep K19 (ninS (Nat.ne_of_lt (Nat.lt_of_lt_of_le F8_3.lt (Nat.le_of_eq g14.symm))) nin0))
  have f41 := ((F8_2.ext E14).keep K19 (ninS (Nat.ne_of_lt (Nat.lt_of_lt_of_le F8_0.lt (Nat.le_of_eq g14.symm))) nin0))
  have z42 : T8.heap.size ≤ h14.size := E14.1
  have z43 : T8.heap.size ≤ T19.heap.size := (Nat.le_trans z42 K19.1)
  have f44 := (A14.keep K19)
  obtain ⟨cq29, kq29, q29a, q29b, q29c⟩ := isOf hZ rfl f44
  obtain ⟨_, _, ⟨T29, L29, k29, n29⟩, -, Y29, hs29, hg29, ⟨Lc29, hQ29, l29, y29, z29, c29⟩, st29⟩ := X19.virtualBackS hx (y := MY6) (z := MY6) hown (mvT hZ (W 43 rfl)) (mvT hZ (W 44 rfl)) (notFace_of_selects (args := #[]) (mvT hZ (W 46 rfl))) (mvT hZ (W 46 rfl)) (mvT hZ (W 45 rfl)) (by decide) (own_backH (s := s) (vm0 := s.vm) (W := 0) (rm135_toString l Z a0 hw b14 b2_0 b2_1 k2_0 (c0.toInt8.toInt32) (c1.toInt8.toInt32) o_COMPACT_STRINGS b8_0 b8_1 k8_0 (d0.toInt8.toInt32) (d1.toInt8.toInt32) T19.heap n0 O27 (F19_0) (f30) (f32) (f33) (S_o_COMPACT_STRINGS) (nz_o_COMPACT_STRINGS) ((Nat.lt_of_lt_of_le A14.lt z34)) (f35) ((Nat.lt_of_lt_of_le F2_0.lt z37)) ((Nat.lt_of_lt_of_le F2_3.lt z37)) (F19_1) (f38) (f39) (f40) (f41) ((Nat.lt_of_lt_of_le F8_0.lt z43)) ((Nat.lt_of_lt_of_le F8_3.lt z43))) hZ (W 47 rfl) (W 29 rfl) (by decide) (by decide) (own_ew_21 hw) c25.1 own_sf0) q29a q29c (g := (mkF m 85 #[iv p1, iv p2, iv p3, iv p4, iv p5, iv (2 : Int32), iv (2 : Int32), iv c0, iv c1, iv d0, iv d1, rv b2_0, rv b8_0, .unset] [(.ref b14)])) rfl (by rw [hml]; rfl) (Steps.refl _) (argsL := []) (rest := []) (lenOf pd_73 rfl) rfl (by show 2 * 0 + _ ≤ _; exact Nat.le_of_eq rfl) (hb hby at_85) (fun _ _ => ⟨rfl, rfl, (by decide : 7 + 6 ≤ _), (by decide : 18 + 42 ≤ _)⟩)
  dsimp only [Pt.U, Pt.locs, Pt.cells, Pt.slots] at Y29 l29 y29 z29 st29 hQ29 hs29 hg29 c29
  subst l29 y29 z29
  obtain ⟨X29, hS29, hZ29, hown29⟩ := rebS (s := s) (vm0 := s.vm) ((State.WarmedH.refl s).since 0) (Nat.zero_le _) Y29 hs29 hg29 hZ hown
  obtain ⟨b29_0, b29_1, k29_0, rfl, N29q, K29, gb29_0, gb29_1, F29_0, F29_1, F29_2, F29_3, F29_4⟩ := hQ29
  have N45 := Fr.app N23 N29q
  have C46 := CHr.trans C26 c29
  have O47 := O27.keep K29 all0
  have K48 : Keep h0 T29.heap [] := Keep.trans K28 K29 all0
  obtain ⟨_, T49, L49, X49, hQ49, st49⟩ := own_cv X29 hx hZ29 hown29 hml (W 180 rfl) (W 98 rfl) (notFace_of_selects (W 100 rfl)) (W 100 rfl) (W 99 rfl) (W 7 rfl) (W 101 rfl) (rm25_length l Z a0 hw b29_0 b29_1 k29_0 (6 : Int32) [(.int (c0.toInt8.toInt32)), (.int (c1.toInt8.toInt32)), (.int (58 : Int32)), (.int (32 : Int32)), (.int (d0.toInt8.toInt32)), (.int (d1.toInt8.toInt32))] o_COMPACT_STRINGS T29.heap n0 O47 (F29_1) (F29_3) (F29_0) (S_o_COMPACT_STRINGS) (nz_o_COMPACT_STRINGS) (F29_2) ((by decide))) rfl F29_0 (hb hby at_112) 0 #[iv p1, iv p2, iv p3, iv p4, iv p5, iv (2 : Int32), iv (2 : Int32), iv c0, iv c1, iv d0, iv d1, rv b2_0, rv b8_0, rv b29_0] [] [] pd_234
  obtain ⟨rfl, N49q, K49⟩ := hQ49
  have N50 := Fr.app N45 N49q
  obtain ⟨_, T51, L51, X51, hQ51, st51⟩ := own_cv X49 hx hZ29 hown29 hml (W 181 rfl) (W 182 rfl) (notFace_of_selects (W 184 rfl)) (W 184 rfl) (W 183 rfl) (W 7 rfl) (W 185 rfl) (rm58_charAt l Z a0 hw b29_0 (0 : Int32) o_COMPACT_STRINGS b29_1 k29_0 (6 : Int32) [(.int (c0.toInt8.toInt32)), (.int (c1.toInt8.toInt32)), (.int (58 : Int32)), (.int (32 : Int32)), (.int (d0.toInt8.toInt32)), (.int (d1.toInt8.toInt32))] o_SIOOBE_FORMATTER (c0.toInt8.toInt32) c0 T29.heap n0 O47 (F29_0) (S_o_COMPACT_STRINGS) (nz_o_COMPACT_STRINGS) (F29_2) (F29_1) (F29_3) (S_o_SIOOBE_FORMATTER) ((by decide : ¬ ((0 : Int32) < (0 : Int32)))) ((by decide : (0 : Int32) < (6 : Int32))) (rfl) (b_c0) (i_c0) (ir_o_SIOOBE_FORMATTER) (i_c0)) K49 F29_0 (hb hby at_130) 0 #[iv p1, iv p2, iv p3, iv p4, iv p5, iv (2 : Int32), iv (2 : Int32), iv c0, iv c1, iv d0, iv d1, rv b2_0, rv b8_0, rv b29_0] [o0] [] pd_476
  obtain ⟨rfl, N51q, K51⟩ := hQ51
  have N52 := Fr.app N50 N51q
  obtain ⟨_, T53, L53, X53, hQ53, st53⟩ := own_cv X51 hx hZ29 hown29 hml (W 181 rfl) (W 182 rfl) (notFace_of_selects (W 184 rfl)) (W 184 rfl) (W 183 rfl) (W 7 rfl) (W 185 rfl) (rm58_charAt l Z a0 hw b29_0 (1 : Int32) o_COMPACT_STRINGS b29_1 k29_0 (6 : Int32) [(.int (c0.toInt8.toInt32)), (.int (c1.toInt8.toInt32)), (.int (58 : Int32)), (.int (32 : Int32)), (.int (d0.toInt8.toInt32)), (.int (d1.toInt8.toInt32))] o_SIOOBE_FORMATTER (c1.toInt8.toInt32) c1 T29.heap n0 O47 (F29_0) (S_o_COMPACT_STRINGS) (nz_o_COMPACT_STRINGS) (F29_2) (F29_1) (F29_3) (S_o_SIOOBE_FORMATTER) ((by decide : ¬ ((1 : Int32) < (0 : Int32)))) ((by decide : (1 : Int32) < (6 : Int32))) (rfl) (b_c1) (i_c1) (ir_o_SIOOBE_FORMATTER) (i_c1)) K51 F29_0 (hb hby at_149) 0 #[iv p1, iv p2, iv p3, iv p4, iv p5, iv (2 : Int32), iv (2 : Int32), iv c0, iv c1, iv d0, iv d1, rv b2_0, rv b8_0, rv b29_0] [(.int (1 : Int32))] [] pd_476
  obtain ⟨rfl, N53q, K53⟩ := hQ53
  have N54 := Fr.app N52 N53q
  obtain ⟨_, T55, L55, X55, hQ55, st55⟩ := own_cv X53 hx hZ29 hown29 hml (W 181 rfl) (W 182 rfl) (notFace_of_selects (W 184 rfl)) (W 184 rfl) (W 183 rfl) (W 7 rfl) (W 185 rfl) (rm60_charAt l Z a0 hw b29_0 (2 : Int32) o_COMPACT_STRINGS b29_1 k29_0 (6 : Int32) [(.int (c0.toInt8.toInt32)), (.int (c1.toInt8.toInt32)), (.int (58 : Int32)), (.int (32 : Int32)), (.int (d0.toInt8.toInt32)), (.int (d1.toInt8.toInt32))] o_SIOOBE_FORMATTER (58 : Int32) T29.heap n0 O47 (F29_0) (S_o_COMPACT_STRINGS) (nz_o_COMPACT_STRINGS) (F29_2) (F29_1) (F29_3) (S_o_SIOOBE_FORMATTER) ((by decide : ¬ ((2 : Int32) < (0 : Int32)))) ((by decide : (2 : Int32) < (6 : Int32))) (rfl) ((by decide)) ((by decide)) (ir_o_SIOOBE_FORMATTER) ((by decide))) K53 F29_0 (hb hby at_163) 0 #[iv p1, iv p2, iv p3, iv p4, iv p5, iv (2 : Int32), iv (2 : Int32), iv c0, iv c1, iv d0, iv d1, rv b2_0, rv b8_0, rv b29_0] [(.int (2 : Int32))] [] pd_476
  obtain ⟨rfl, N55q, K55⟩ := hQ55
  have N56 := Fr.app N54 N55q
  obtain ⟨_, T57, L57, X57, hQ57, st57⟩ := own_cv X55 hx hZ29 hown29 hml (W 181 rfl) (W 182 rfl) (notFace_of_selects (W 184 rfl)) (W 184 rfl) (W 183 rfl) (W 7 rfl) (W 185 rfl) (rm60_charAt l Z a0 hw b29_0 (3 : Int32) o_COMPACT_STRINGS b29_1 k29_0 (6 : Int32) [(.int (c0.toInt8.toInt32)), (.int (c1.toInt8.toInt32)), (.int (58 : Int32)), (.int (32 : Int32)), (.int (d0.toInt8.toInt32)), (.int (d1.toInt8.toInt32))] o_SIOOBE_FORMATTER (32 : Int32) T29.heap n0 O47 (F29_0) (S_o_COMPACT_STRINGS) (nz_o_COMPACT_STRINGS) (F29_2) (F29_1) (F29_3) (S_o_SIOOBE_FORMATTER) ((by decide : ¬ ((3 : Int32) < (0 : Int32)))) ((by decide : (3 : Int32) < (6 : Int32))) (rfl) ((by decide)) ((by decide)) (ir_o_SIOOBE_FORMATTER) ((by decide))) K55 F29_0 (hb hby at_179) 0 #[iv p1, iv p2, iv p3, iv p4, iv p5, iv (2 : Int32), iv (2 : Int32), iv c0, iv c1, iv d0, iv d1, rv b2_0, rv b8_0, rv b29_0] [(.int (3 : Int32))] [] pd_476
  obtain ⟨rfl, N57q, K57⟩ := hQ57
  have N58 := Fr.app N56 N57q
  obtain ⟨_, T59, L59, X59, hQ59, st59⟩ := own_cv X57 hx hZ29 hown29 hml (W 181 rfl) (W 182 rfl) (notFace_of_selects (W 184 rfl)) (W 184 rfl) (W 183 rfl) (W 7 rfl) (W 185 rfl) (rm58_charAt l Z a0 hw b29_0 (4 : Int32) o_COMPACT_STRINGS b29_1 k29_0 (6 : Int32) [(.int (c0.toInt8.toInt32)), (.int (c1.toInt8.toInt32)), (.int (58 : Int32)), (.int (32 : Int32)), (.int (d0.toInt8.toInt32)), (.int (d1.toInt8.toInt32))] o_SIOOBE_FORMATTER (d0.toInt8.toInt32) d0 T29.heap n0 O47 (F29_0) (S_o_COMPACT_STRINGS) (nz_o_COMPACT_STRINGS) (F29_2) (F29_1) (F29_3) (S_o_SIOOBE_FORMATTER) ((by decide : ¬ ((4 : Int32) < (0 : Int32)))) ((by decide : (4 : Int32) < (6 : Int32))) (rfl) (b_d0) (i_d0) (ir_o_SIOOBE_FORMATTER) (i_d0)) K57 F29_0 (hb hby at_201) 0 #[iv p1, iv p2, iv p3, iv p4, iv p5, iv (2 : Int32), iv (2 : Int32), iv c0, iv c1, iv d0, iv d1, rv b2_0, rv b8_0, rv b29_0] [(.int (4 : Int32))] [] pd_476
  obtain ⟨rfl, N59q, K59⟩ := hQ59
  have N60 := Fr.app N58 N59q
  obtain ⟨_, T61, L61, X61, hQ61, st61⟩ := own_cv X59 hx hZ29 hown29 hml (W 181 rfl) (W 182 rfl) (notFace_of_selects (W 184 rfl)) (W 184 rfl) (W 183 rfl) (W 7 rfl) (W 185 rfl) (rm58_charAt l Z a0 hw b29_0 (5 : Int32) o_COMPACT_STRINGS b29_1 k29_0 (6 : Int32) [(.int (c0.toInt8.toInt32)), (.int (c1.toInt8.toInt32)), (.int (58 : Int32)), (.int (32 : Int32)), (.int (d0.toInt8.toInt32)), (.int (d1.toInt8.toInt32))] o_SIOOBE_FORMATTER (d1.toInt8.toInt32) d1 T29.heap n0 O47 (F29_0) (S_o_COMPACT_STRINGS) (nz_o_COMPACT_STRINGS) (F29_2) (F29_1) (F29_3) (S_o_SIOOBE_FORMATTER) ((by decide : ¬ ((5 : Int32) < (0 : Int32)))) ((by decide : (5 : Int32) < (6 : Int32))) (rfl) (b_d1) (i_d1) (ir_o_SIOOBE_FORMATTER) (i_d1)) K59 F29_0 (hb hby at_223) 0 #[iv p1, iv p2, iv p3, iv p4, iv p5, iv (2 : Int32), iv (2 : Int32), iv c0, iv c1, iv d0, iv d1, rv b2_0, rv b8_0, rv b29_0] [(.int (5 : Int32))] [] pd_476
  obtain ⟨rfl, N61q, K61⟩ := hQ61
  have N62 := Fr.app N60 N61q
  refine ⟨T61, some (.int (1 : Int32)), _, _, _, T29.vm, _, X61, hS29, (by rw [K61]; exact (Nat.le_refl _)), by decide, by decide, nofun, ?_, own_che K61 (CHr.trans C46 (CHv.at (s := s) X61 hZ29 (own_ew_21 hw) c29.1)), fun fs hr => castTop (ef_81 m p1 p2 p3 p4 p5) ?_⟩
  · exact ⟨rfl, N62⟩
  · show SS p e below s₁ m 0 #[iv p1, iv p2, iv p3, iv p4, iv p5, .unset, .unset, .unset, .unset, .unset, .unset, .unset, .unset, .unset] [] _
    refine XS.iloadN X1.here hx rfl (hb hby at_0) rfl ?_
    refine X1.ldcInt hx hown (mvT hZ (W 0 rfl)) (g := (mkF m 1 #[iv p1, iv p2, iv p3, iv p4, iv p5, .unset, .unset, .unset, .unset, .unset, .unset, .unset, .unset, .unset] [(.int p1)])) rfl (hb hby at_1) _ ?_
    show SS p e below s₁ m 3 #[iv p1, iv p2, iv p3, iv p4, iv p5, .unset, .unset, .unset, .unset, .unset, .unset, .unset, .unset, .unset] [(.int (2147483647 : Int32)), (.int p1)] _
    refine XS.iand X1.here hx rfl (hb hby at_3) rfl ?_
    show SS p e below s₁ m 4 #[iv p1, iv p2, iv p3, iv p4, iv p5, .unset, .unset, .unset, .unset, .unset, .unset, .unset, .unset, .unset] [(.int (p1 &&& (2147483647 : Int32)))] _
    refine XS.iconst X1.here hx rfl (hb hby at_4) ?_
    refine iremM (g := (mkF m 5 #[iv p1, iv p2, iv p3, iv p4, iv p5, .unset, .unset, .unset, .unset, .unset, .unset, .unset, .unset, .unset] [(.int (3 : Int32)), (.int (p1 &&& (2147483647 : Int32)))])) X1 hx rfl (hb hby at_5) rfl (by decide : ¬ ((3 : Int32) = (0 : Int32))) ?_
    rw [hpl]
    show SS p e below s₁ m 6 #[iv p1, iv p2, iv p3, iv p4, iv p5, .unset, .unset, .unset, .unset, .unset, .unset, .unset, .unset, .unset] [(.int (2 : Int32))] _
    refine XS.istore X1.here hx rfl (hb hby at_6) rfl (l' := #[iv p1, iv p2, iv p3, iv p4, iv p5, iv (2 : Int32), .unset, .unset, .unset, .unset, .unset, .unset, .unset, .unset]) rfl ?_
    refine XS.iloadN X1.here hx rfl (hb hby at_8) rfl ?_
    refine XS.bipush X1.here hx rfl (hb hby at_9) ?_
    show SS p e below s₁ m 11 #[iv p1, iv p2, iv p3, iv p4, iv p5, iv (2 : Int32), .unset, .unset, .unset, .unset, .unset, .unset, .unset, .unset] [(.int (8 : Int32)), (.int p1)] _
    refine XS.iushr X1.here hx rfl (hb hby at_11) rfl ?_
    show SS p e below s₁ m 12 #[iv p1, iv p2, iv p3, iv p4, iv p5, iv (2 : Int32), .unset, .unset, .unset, .unset, .unset, .unset, .unset, .unset] [(.int ((p1.toUInt32 >>> ((8 : Int32) &&& 31).toUInt32).toInt32))] _
    refine X1.ldcInt hx hown (mvT hZ (W 0 rfl)) (g := (mkF m 12 #[iv p1, iv p2, iv p3, iv p4, iv p5, iv (2 : Int32), .unset, .unset, .unset, .unset, .unset, .unset, .unset, .unset] [(.int ((p1.toUInt32 >>> ((8 : Int32) &&& 31).toUInt32).toInt32))])) rfl (hb hby at_12) _ ?_
    refine XS.iand X1.here hx rfl (hb hby at_14) rfl ?_
    show SS p e below s₁ m 15 #[iv p1, iv p2, iv p3, iv p4, iv p5, iv (2 : Int32), .unset, .unset, .unset, .unset, .unset, .unset, .unset, .unset] [(.int (((p1.toUInt32 >>> ((8 : Int32) &&& 31).toUInt32).toInt32) &&& (2147483647 : Int32)))] _
    refine XS.iconst X1.here hx rfl (hb hby at_15) ?_
    refine iremM (g := (mkF m 16 #[iv p1, iv p2, iv p3, iv p4, iv p5, iv (2 : Int32), .unset, .unset, .unset, .unset, .unset, .unset, .unset, .unset] [(.int (3 : Int32)), (.int (((p1.toUInt32 >>> ((8 : Int32) &&& 31).toUInt32).toInt32) &&& (2147483647 : Int32)))])) X1 hx rfl (hb hby at_16) rfl (by decide : ¬ ((3 : Int32) = (0 : Int32))) ?_
    rw [hml_]
    show SS p e below s₁ m 17 #[iv p1, iv p2, iv p3, iv p4, iv p5, iv (2 : Int32), .unset, .unset, .unset, .unset, .unset, .unset, .unset, .unset] [(.int (2 : Int32))] _
    refine XS.istore X1.here hx rfl (hb hby at_17) rfl (l' := #[iv p1, iv p2, iv p3, iv p4, iv p5, iv (2 : Int32), iv (2 : Int32), .unset, .unset, .unset, .unset, .unset, .unset, .unset]) rfl ?_
    refine XS.iloadN X1.here hx rfl (hb hby at_19) rfl ?_
    refine XS.sipush X1.here hx rfl (hb hby at_20) ?_
    show SS p e below s₁ m 23 #[iv p1, iv p2, iv p3, iv p4, iv p5, iv (2 : Int32), iv (2 : Int32), .unset, .unset, .unset, .unset, .unset, .unset, .unset] [(.int (255 : Int32)), (.int p2)] _
    refine XS.iand X1.here hx rfl (hb hby at_23) rfl ?_
    show SS p e below s₁ m 24 #[iv p1, iv p2, iv p3, iv p4, iv p5, iv (2 : Int32), iv (2 : Int32), .unset, .unset, .unset, .unset, .unset, .unset, .unset] [(.int (p2 &&& (255 : Int32)))] _
    refine XS.i2c X1.here hx rfl (hb hby at_24) rfl ?_
    rw [h_c0]
    show SS p e below s₁ m 25 #[iv p1, iv p2, iv p3, iv p4, iv p5, iv (2 : Int32), iv (2 : Int32), .unset, .unset, .unset, .unset, .unset, .unset, .unset] [(.int c0)] _
    refine XS.istore X1.here hx rfl (hb hby at_25) rfl (l' := #[iv p1, iv p2, iv p3, iv p4, iv p5, iv (2 : Int32), iv (2 : Int32), iv c0, .unset, .unset, .unset, .unset, .unset, .unset]) rfl ?_
    refine XS.iloadN X1.here hx rfl (hb hby at_27) rfl ?_
    refine XS.sipush X1.here hx rfl (hb hby at_28) ?_
    show SS p e below s₁ m 31 #[iv p1, iv p2, iv p3, iv p4, iv p5, iv (2 : Int32), iv (2 : Int32), iv c0, .unset, .unset, .unset, .unset, .unset, .unset] [(.int (255 : Int32)), (.int p3)] _
    refine XS.iand X1.here hx rfl (hb hby at_31) rfl ?_
    show SS p e below s₁ m 32 #[iv p1, iv p2, iv p3, iv p4, iv p5, iv (2 : Int32), iv (2 : Int32), iv c0, .unset, .unset, .unset, .unset, .unset, .unset] [(.int (p3 &&& (255 : Int32)))] _
    refine XS.i2c X1.here hx rfl (hb hby at_32) rfl ?_
    rw [h_c1]
    show SS p e below s₁ m 33 #[iv p1, iv p2, iv p3, iv p4, iv p5, iv (2 : Int32), iv (2 : Int32), iv c0, .unset, .unset, .unset, .unset, .unset, .unset] [(.int c1)] _
    refine XS.istore X1.here hx rfl (hb hby at_33) rfl (l' := #[iv p1, iv p2, iv p3, iv p4, iv p5, iv (2 : Int32), iv (2 : Int32), iv c0, iv c1, .unset, .unset, .unset, .unset, .unset]) rfl ?_
    refine XS.iloadN X1.here hx rfl (hb hby at_35) rfl ?_
    refine XS.sipush X1.here hx rfl (hb hby at_36) ?_
    show SS p e below s₁ m 39 #[iv p1, iv p2, iv p3, iv p4, iv p5, iv (2 : Int32), iv (2 : Int32), iv c0, iv c1, .unset, .unset, .unset, .unset, .unset] [(.int (255 : Int32)), (.int p4)] _
    refine XS.iand X1.here hx rfl (hb hby at_39) rfl ?_
    show SS p e below s₁ m 40 #[iv p1, iv p2, iv p3, iv p4, iv p5, iv (2 : Int32), iv (2 : Int32), iv c0, iv c1, .unset, .unset, .unset, .unset, .unset] [(.int (p4 &&& (255 : Int32)))] _
    refine XS.i2c X1.here hx rfl (hb hby at_40) rfl ?_
    rw [h_d0]
    show SS p e below s₁ m 41 #[iv p1, iv p2, iv p3, iv p4, iv p5, iv (2 : Int32), iv (2 : Int32), iv c0, iv c1, .unset, .unset, .unset, .unset, .unset] [(.int d0)] _
    refine XS.istore X1.here hx rfl (hb hby at_41) rfl (l' := #[iv p1, iv p2, iv p3, iv p4, iv p5, iv (2 : Int32), iv (2 : Int32), iv c0, iv c1, iv d0, .unset, .unset, .unset, .unset]) rfl ?_
    refine XS.iload X1.here hx rfl (hb hby at_43) rfl ?_
    refine XS.sipush X1.here hx rfl (hb hby at_45) ?_
    show SS p e below s₁ m 48 #[iv p1, iv p2, iv p3, iv p4, iv p5, iv (2 : Int32), iv (2 : Int32), iv c0, iv c1, iv d0, .unset, .unset, .unset, .unset] [(.int (255 : Int32)), (.int p5)] _
    refine XS.iand X1.here hx rfl (hb hby at_48) rfl ?_
    show SS p e below s₁ m 49 #[iv p1, iv p2, iv p3, iv p4, iv p5, iv (2 : Int32), iv (2 : Int32), iv c0, iv c1, iv d0, .unset, .unset, .unset, .unset] [(.int (p5 &&& (255 : Int32)))] _
    refine XS.i2c X1.here hx rfl (hb hby at_49) rfl ?_
    rw [h_d1]
    show SS p e below s₁ m 50 #[iv p1, iv p2, iv p3, iv p4, iv p5, iv (2 : Int32), iv (2 : Int32), iv c0, iv c1, iv d0, .unset, .unset, .unset, .unset] [(.int d1)] _
    refine XS.istore X1.here hx rfl (hb hby at_50) rfl (l' := #[iv p1, iv p2, iv p3, iv p4, iv p5, iv (2 : Int32), iv (2 : Int32), iv c0, iv c1, iv d0, iv d1, .unset, .unset, .unset]) rfl ?_
    refine XS.iload X1.here hx rfl (hb hby at_52) rfl ?_
    refine XS.iload X1.here hx rfl (hb hby at_54) rfl ?_
    refine XS.iload X1.here hx rfl (hb hby at_56) rfl ?_
    refine st2 _ ?_
    refine XS.astore X2.here hx rfl (hb hby at_61) rfl rfl (l' := #[iv p1, iv p2, iv p3, iv p4, iv p5, iv (2 : Int32), iv (2 : Int32), iv c0, iv c1, iv d0, iv d1, rv b2_0, .unset, .unset]) rfl ?_
    refine XS.iload X2.here hx rfl (hb hby at_63) rfl ?_
    refine XS.iload X2.here hx rfl (hb hby at_65) rfl ?_
    refine XS.iload X2.here hx rfl (hb hby at_67) rfl ?_
    refine st8 _ ?_
    show SS p e below T8 m 72 #[iv p1, iv p2, iv p3, iv p4, iv p5, iv (2 : Int32), iv (2 : Int32), iv c0, iv c1, iv d0, iv d1, rv b2_0, .unset, .unset] [(.ref b8_0)] _
    refine XS.astore X8.here hx rfl (hb hby at_72) rfl rfl (l' := #[iv p1, iv p2, iv p3, iv p4, iv p5, iv (2 : Int32), iv (2 : Int32), iv c0, iv c1, iv d0, iv d1, rv b2_0, rv b8_0, .unset]) rfl ?_
    refine st14 _ ?_
    refine XS.dup X14.here hx rfl (hb hby at_77) rfl rfl ?_
    refine XS.aload X14.here hx rfl (hb hby at_78) rfl rfl ?_
    refine XS.aload X14.here hx rfl (hb hby at_80) rfl rfl ?_
    refine st19 _ ?_
    refine st29.trans ?_
    refine XS.astore X29.here hx rfl (hb hby at_88) rfl rfl (l' := #[iv p1, iv p2, iv p3, iv p4, iv p5, iv (2 : Int32), iv (2 : Int32), iv c0, iv c1, iv d0, iv d1, rv b2_0, rv b8_0, rv b29_0]) rfl ?_
    refine XS.aload X29.here hx rfl (hb hby at_90) rfl rfl ?_
    refine XS.ifnonnullYes X29.here hx rfl (pc0 := 92) (pc' := 97) rfl (hb hby at_92) rfl (by decide) (by decide) ?_
    show SS p e below T29 m 97 #[iv p1, iv p2, iv p3, iv p4, iv p5, iv (2 : Int32), iv (2 : Int32), iv c0, iv c1, iv d0, iv d1, rv b2_0, rv b8_0, rv b29_0] [] _
    refine XS.iload X29.here hx rfl (hb hby at_97) rfl ?_
    refine XS.ifYes X29.here hx rfl (pc0 := 99) (pc' := 110) rfl (hb hby at_99) rfl ((if0 _ _).trans (feq (by decide : ¬ ((2 : Int32) = (0 : Int32)))).2) (by decide) (by decide) ?_
    refine XS.aload X29.here hx rfl (hb hby at_110) rfl rfl ?_
    refine st49 _ ?_
    refine XS.iload X49.here hx rfl (hb hby at_115) rfl ?_
    refine XS.iconst X49.here hx rfl (hb hby at_117) ?_
    refine XS.iadd X49.here hx rfl (hb hby at_118) rfl ?_
    show SS p e below T49 m 119 #[iv p1, iv p2, iv p3, iv p4, iv p5, iv (2 : Int32), iv (2 : Int32), iv c0, iv c1, iv d0, iv d1, rv b2_0, rv b8_0, rv b29_0] [(.int (4 : Int32)), (.int (6 : Int32))] _
    refine XS.iload X49.here hx rfl (hb hby at_119) rfl ?_
    refine XS.iadd X49.here hx rfl (hb hby at_121) rfl ?_
    show SS p e below T49 m 122 #[iv p1, iv p2, iv p3, iv p4, iv p5, iv (2 : Int32), iv (2 : Int32), iv c0, iv c1, iv d0, iv d1, rv b2_0, rv b8_0, rv b29_0] [(.int (6 : Int32)), (.int (6 : Int32))] _
    refine XS.icmpYes X49.here hx rfl (pc0 := 122) (pc' := 127) rfl (hb hby at_122) rfl (teq (by decide : (6 : Int32) = (6 : Int32))).1 (by decide) (by decide) ?_
    refine XS.aload X49.here hx rfl (hb hby at_127) rfl rfl ?_
    refine XS.iconst X49.here hx rfl (hb hby at_129) ?_
    refine st51 _ ?_
    refine XS.iload X51.here hx rfl (hb hby at_133) rfl ?_
    refine XS.icmpYes X51.here hx rfl (pc0 := 135) (pc' := 140) rfl (hb hby at_135) rfl (teq (rfl : c0 = c0)).1 (by decide) (by decide) ?_
    refine XS.iload X51.here hx rfl (hb hby at_140) rfl ?_
    refine XS.iconst X51.here hx rfl (hb hby at_142) ?_
    refine XS.icmpNo X51.here hx rfl (hb hby at_143) rfl (teq (by decide : (2 : Int32) = (2 : Int32))).2 ?_
    refine XS.aload X51.here hx rfl (hb hby at_146) rfl rfl ?_
    show SS p e below T51 m 148 #[iv p1, iv p2, iv p3, iv p4, iv p5, iv (2 : Int32), iv (2 : Int32), iv c0, iv c1, iv d0, iv d1, rv b2_0, rv b8_0, rv b29_0] [(.ref b29_0)] _
    refine XS.iconst X51.here hx rfl (hb hby at_148) ?_
    refine st53 _ ?_
    refine XS.iload X53.here hx rfl (hb hby at_152) rfl ?_
    refine XS.icmpYes X53.here hx rfl (pc0 := 154) (pc' := 159) rfl (hb hby at_154) rfl (teq (rfl : c1 = c1)).1 (by decide) (by decide) ?_
    refine XS.aload X53.here hx rfl (hb hby at_159) rfl rfl ?_
    refine XS.iload X53.here hx rfl (hb hby at_161) rfl ?_
    refine st55 _ ?_
    refine XS.bipush X55.here hx rfl (hb hby at_166) ?_
    refine XS.icmpYes X55.here hx rfl (pc0 := 168) (pc' := 173) rfl (hb hby at_168) rfl (teq (by decide : (58 : Int32) = (58 : Int32))).1 (by decide) (by decide) ?_
    refine XS.aload X55.here hx rfl (hb hby at_173) rfl rfl ?_
    show SS p e below T55 m 175 #[iv p1, iv p2, iv p3, iv p4, iv p5, iv (2 : Int32), iv (2 : Int32), iv c0, iv c1, iv d0, iv d1, rv b2_0, rv b8_0, rv b29_0] [(.ref b29_0)] _
    refine XS.iload X55.here hx rfl (hb hby at_175) rfl ?_
    refine XS.iconst X55.here hx rfl (hb hby at_177) ?_
    refine XS.iadd X55.here hx rfl (hb hby at_178) rfl ?_
    show SS p e below T55 m 179 #[iv p1, iv p2, iv p3, iv p4, iv p5, iv (2 : Int32), iv (2 : Int32), iv c0, iv c1, iv d0, iv d1, rv b2_0, rv b8_0, rv b29_0] [(.int (3 : Int32)), (.ref b29_0)] _
    refine st57 _ ?_
    refine XS.bipush X57.here hx rfl (hb hby at_182) ?_
    refine XS.icmpYes X57.here hx rfl (pc0 := 184) (pc' := 189) rfl (hb hby at_184) rfl (teq (by decide : (32 : Int32) = (32 : Int32))).1 (by decide) (by decide) ?_
    refine XS.iload X57.here hx rfl (hb hby at_189) rfl ?_
    refine XS.iconst X57.here hx rfl (hb hby at_191) ?_
    refine XS.icmpNo X57.here hx rfl (hb hby at_192) rfl (flt (by decide : ¬ ((2 : Int32) < (1 : Int32)))).1 ?_
    refine XS.aload X57.here hx rfl (hb hby at_195) rfl rfl ?_
    refine XS.iload X57.here hx rfl (hb hby at_197) rfl ?_
    refine XS.iconst X57.here hx rfl (hb hby at_199) ?_
    refine XS.iadd X57.here hx rfl (hb hby at_200) rfl ?_
    show SS p e below T57 m 201 #[iv p1, iv p2, iv p3, iv p4, iv p5, iv (2 : Int32), iv (2 : Int32), iv c0, iv c1, iv d0, iv d1, rv b2_0, rv b8_0, rv b29_0] [(.int (4 : Int32)), (.ref b29_0)] _
    refine st59 _ ?_
    refine XS.iload X59.here hx rfl (hb hby at_204) rfl ?_
    refine XS.icmpYes X59.here hx rfl (pc0 := 206) (pc' := 211) rfl (hb hby at_206) rfl (teq (rfl : d0 = d0)).1 (by decide) (by decide) ?_
    refine XS.iload X59.here hx rfl (hb hby at_211) rfl ?_
    refine XS.iconst X59.here hx rfl (hb hby at_213) ?_
    refine XS.icmpNo X59.here hx rfl (hb hby at_214) rfl (teq (by decide : (2 : Int32) = (2 : Int32))).2 ?_
    refine XS.aload X59.here hx rfl (hb hby at_217) rfl rfl ?_
    refine XS.iload X59.here hx rfl (hb hby at_219) rfl ?_
    refine XS.iconst X59.here hx rfl (hb hby at_221) ?_
    refine XS.iadd X59.here hx rfl (hb hby at_222) rfl ?_
    show SS p e below T59 m 223 #[iv p1, iv p2, iv p3, iv p4, iv p5, iv (2 : Int32), iv (2 : Int32), iv c0, iv c1, iv d0, iv d1, rv b2_0, rv b8_0, rv b29_0] [(.int (5 : Int32)), (.ref b29_0)] _
    refine st61 _ ?_
    refine XS.iload X61.here hx rfl (hb hby at_226) rfl ?_
    refine XS.icmpYes X61.here hx rfl (pc0 := 228) (pc' := 233) rfl (hb hby at_228) rfl (teq (rfl : d1 = d1)).1 (by decide) (by decide) ?_
    refine XS.iconst X61.here hx rfl (hb hby at_233) ?_
    exact retN X61 hx (t := .boolean) hret (by simp) (hb hby at_234) hr
theorem own_split (q : Int32) : ((q &&& (2147483647 : Int32)) % (3 : Int32)) = (0 : Int32) ∨ ((q &&& (2147483647 : Int32)) % (3 : Int32)) = (1 : Int32) ∨ ((q &&& (2147483647 : Int32)) % (3 : Int32)) = (2 : Int32) := by
  have h1 := c_mask q 2147483647 31 (by decide) (by decide)
  have h2 := (c_irem (q &&& 2147483647) 3 3 (by decide)).1 (by omega)
  simp only [← Int32.toInt_inj, h2, Int32.reduceToInt]
  omega
theorem rm0 (l : Launch) (Z : State) (a0 : Array Value) (hw : HW Z a0) (ws : List Jvm.Cond) (p1 : Int32) (p2 : Int32) (p3 : Int32) (p4 : Int32) (p5 : Int32) (o_COMPACT_STRINGS : Int32) (o_SIOOBE_FORMATTER : Value) (h0 : Heap) (n0 : Nat) (O0 : Old Z n0 h0) (S_o_COMPACT_STRINGS : SA48 Z Z.heap (.int o_COMPACT_STRINGS)) (S_o_SIOOBE_FORMATTER : SA49 Z Z.heap o_SIOOBE_FORMATTER) (nz_o_COMPACT_STRINGS : ¬ (o_COMPACT_STRINGS = (0 : Int32))) (ir_o_SIOOBE_FORMATTER : o_SIOOBE_FORMATTER.isRef = true)  :
    MetH l Z ws x code maxLocals ret room_1 #[(.int p1), (.int p2), (.int p3), (.int p4), (.int p5)] h0 consts_1 [] (fun v _ L => Q0 n0 v L) := by
  rcases own_split p1 with q | q | q <;> rcases own_split ((p1.toUInt32 >>> ((8 : Int32) &&& 31).toUInt32).toInt32) with u | u | u
  · exact rm0_0_0 l Z a0 hw ws p1 p2 p3 p4 p5 (p2 &&& 255) (p3 &&& 255) (p4 &&& 255) (p5 &&& 255) o_COMPACT_STRINGS o_SIOOBE_FORMATTER h0 n0 O0 S_o_COMPACT_STRINGS S_o_SIOOBE_FORMATTER nz_o_COMPACT_STRINGS ir_o_SIOOBE_FORMATTER q u (i2c_mask p2) (own_c255 p2).1 (own_c255 p2).2 (own_char _ (own_c255 p2).1 (own_c255 p2).2).1 (own_char _ (own_c255 p2).1 (own_c255 p2).2).2 (i2c_mask p3) (own_c255 p3).1 (own_c255 p3).2 (own_char _ (own_c255 p3).1 (own_c255 p3).2).1 (own_char _ (own_c255 p3).1 (own_c255 p3).2).2 (i2c_mask p4) (own_c255 p4).1 (own_c255 p4).2 (own_char _ (own_c255 p4).1 (own_c255 p4).2).1 (own_char _ (own_c255 p4).1 (own_c255 p4).2).2 (i2c_mask p5) (own_c255 p5).1 (own_c255 p5).2 (own_char _ (own_c255 p5).1 (own_c255 p5).2).1 (own_char _ (own_c255 p5).1 (own_c255 p5).2).2
  · exact rm0_0_1 l Z a0 hw ws p1 p2 p3 p4 p5 (p2 &&& 255) (p3 &&& 255) (p4 &&& 255) (p5 &&& 255) o_COMPACT_STRINGS o_SIOOBE_FORMATTER h0 n0 O0 S_o_COMPACT_STRINGS S_o_SIOOBE_FORMATTER nz_o_COMPACT_STRINGS ir_o_SIOOBE_FORMATTER q u (i2c_mask p2) (own_c255 p2).1 (own_c255 p2).2 (own_char _ (own_c255 p2).1 (own_c255 p2).2).1 (own_char _ (own_c255 p2).1 (own_c255 p2).2).2 (i2c_mask p3) (own_c255 p3).1 (own_c255 p3).2 (own_char _ (own_c255 p3).1 (own_c255 p3).2).1 (own_char _ (own_c255 p3).1 (own_c255 p3).2).2 (i2c_mask p4) (own_c255 p4).1 (own_c255 p4).2 (own_char _ (own_c255 p4).1 (own_c255 p4).2).1 (own_char _ (own_c255 p4).1 (own_c255 p4).2).2 (i2c_mask p5) (own_c255 p5).1 (own_c255 p5).2 (own_char _ (own_c255 p5).1 (own_c255 p5).2).1 (own_char _ (own_c255 p5).1 (own_c255 p5).2).2
  · exact rm0_0_2 l Z a0 hw ws p1 p2 p3 p4 p5 (p2 &&& 255) (p3 &&& 255) (p4 &&& 255) (p5 &&& 255) o_COMPACT_STRINGS o_SIOOBE_FORMATTER h0 n0 O0 S_o_COMPACT_STRINGS S_o_SIOOBE_FORMATTER nz_o_COMPACT_STRINGS ir_o_SIOOBE_FORMATTER q u (i2c_mask p2) (own_c255 p2).1 (own_c255 p2).2 (own_char _ (own_c255 p2).1 (own_c255 p2).2).1 (own_char _ (own_c255 p2).1 (own_c255 p2).2).2 (i2c_mask p3) (own_c255 p3).1 (own_c255 p3).2 (own_char _ (own_c255 p3).1 (own_c255 p3).2).1 (own_char _ (own_c255 p3).1 (own_c255 p3).2).2 (i2c_mask p4) (own_c255 p4).1 (own_c255 p4).2 (own_char _ (own_c255 p4).1 (own_c255 p4).2).1 (own_char _ (own_c255 p4).1 (own_c255 p4).2).2 (i2c_mask p5) (own_c255 p5).1 (own_c255 p5).2 (own_char _ (own_c255 p5).1 (own_c255 p5).2).1 (own_char _ (own_c255 p5).1 (own_c255 p5).2).2
  · exact rm0_1_0 l Z a0 hw ws p1 p2 p3 p4 p5 (p2 &&& 255) (p3 &&& 255) (p4 &&& 255) (p5 &&& 255) o_COMPACT_STRINGS o_SIOOBE_FORMATTER h0 n0 O0 S_o_COMPACT_STRINGS S_o_SIOOBE_FORMATTER nz_o_COMPACT_STRINGS ir_o_SIOOBE_FORMATTER q u (i2c_mask p2) (own_c255 p2).1 (own_c255 p2).2 (own_char _ (own_c255 p2).1 (own_c255 p2).2).1 (own_char _ (own_c255 p2).1 (own_c255 p2).2).2 (i2c_mask p3) (own_c255 p3).1 (own_c255 p3).2 (own_char _ (own_c255 p3).1 (own_c255 p3).2).1 (own_char _ (own_c255 p3).1 (own_c255 p3).2).2 (i2c_mask p4) (own_c255 p4).1 (own_c255 p4).2 (own_char _ (own_c255 p4).1 (own_c255 p4).2).1 (own_char _ (own_c255 p4).1 (own_c255 p4).2).2 (i2c_mask p5) (own_c255 p5).1 (own_c255 p5).2 (own_char _ (own_c255 p5).1 (own_c255 p5).2).1 (own_char _ (own_c255 p5).1 (own_c255 p5).2).2
  · exact rm0_1_1 l Z a0 hw ws p1 p2 p3 p4 p5 (p2 &&& 255) (p3 &&& 255) (p4 &&& 255) (p5 &&& 255) o_COMPACT_STRINGS o_SIOOBE_FORMATTER h0 n0 O0 S_o_COMPACT_STRINGS S_o_SIOOBE_FORMATTER nz_o_COMPACT_STRINGS ir_o_SIOOBE_FORMATTER q u (i2c_mask p2) (own_c255 p2).1 (own_c255 p2).2 (own_char _ (own_c255 p2).1 (own_c255 p2).2).1 (own_char _ (own_c255 p2).1 (own_c255 p2).2).2 (i2c_mask p3) (own_c255 p3).1 (own_c255 p3).2 (own_char _ (own_c255 p3).1 (own_c255 p3).2).1 (own_char _ (own_c255 p3).1 (own_c255 p3).2).2 (i2c_mask p4) (own_c255 p4).1 (own_c255 p4).2 (own_char _ (own_c255 p4).1 (own_c255 p4).2).1 (own_char _ (own_c255 p4).1 (own_c255 p4).2).2 (i2c_mask p5) (own_c255 p5).1 (own_c255 p5).2 (own_char _ (own_c255 p5).1 (own_c255 p5).2).1 (own_char _ (own_c255 p5).1 (own_c255 p5).2).2
  · exact rm0_1_2 l Z a0 hw ws p1 p2 p3 p4 p5 (p2 &&& 255) (p3 &&& 255) (p4 &&& 255) (p5 &&& 255) o_COMPACT_STRINGS o_SIOOBE_FORMATTER h0 n0 O0 S_o_COMPACT_STRINGS S_o_SIOOBE_FORMATTER nz_o_COMPACT_STRINGS ir_o_SIOOBE_FORMATTER q u (i2c_mask p2) (own_c255 p2).1 (own_c255 p2).2 (own_char _ (own_c255 p2).1 (own_c255 p2).2).1 (own_char _ (own_c255 p2).1 (own_c255 p2).2).2 (i2c_mask p3) (own_c255 p3).1 (own_c255 p3).2 (own_char _ (own_c255 p3).1 (own_c255 p3).2).1 (own_char _ (own_c255 p3).1 (own_c255 p3).2).2 (i2c_mask p4) (own_c255 p4).1 (own_c255 p4).2 (own_char _ (own_c255 p4).1 (own_c255 p4).2).1 (own_char _ (own_c255 p4).1 (own_c255 p4).2).2 (i2c_mask p5) (own_c255 p5).1 (own_c255 p5).2 (own_char _ (own_c255 p5).1 (own_c255 p5).2).1 (own_char _ (own_c255 p5).1 (own_c255 p5).2).2
  · exact rm0_2_0 l Z a0 hw ws p1 p2 p3 p4 p5 (p2 &&& 255) (p3 &&& 255) (p4 &&& 255) (p5 &&& 255) o_COMPACT_STRINGS o_SIOOBE_FORMATTER h0 n0 O0 S_o_COMPACT_STRINGS S_o_SIOOBE_FORMATTER nz_o_COMPACT_STRINGS ir_o_SIOOBE_FORMATTER q u (i2c_mask p2) (own_c255 p2).1 (own_c255 p2).2 (own_char _ (own_c255 p2).1 (own_c255 p2).2).1 (own_char _ (own_c255 p2).1 (own_c255 p2).2).2 (i2c_mask p3) (own_c255 p3).1 (own_c255 p3).2 (own_char _ (own_c255 p3).1 (own_c255 p3).2).1 (own_char _ (own_c255 p3).1 (own_c255 p3).2).2 (i2c_mask p4) (own_c255 p4).1 (own_c255 p4).2 (own_char _ (own_c255 p4).1 (own_c255 p4).2).1 (own_char _ (own_c255 p4).1 (own_c255 p4).2).2 (i2c_mask p5) (own_c255 p5).1 (own_c255 p5).2 (own_char _ (own_c255 p5).1 (own_c255 p5).2).1 (own_char _ (own_c255 p5).1 (own_c255 p5).2).2
  · exact rm0_2_1 l Z a0 hw ws p1 p2 p3 p4 p5 (p2 &&& 255) (p3 &&& 255) (p4 &&& 255) (p5 &&& 255) o_COMPACT_STRINGS o_SIOOBE_FORMATTER h0 n0 O0 S_o_COMPACT_STRINGS S_o_SIOOBE_FORMATTER nz_o_COMPACT_STRINGS ir_o_SIOOBE_FORMATTER q u (i2c_mask p2) (own_c255 p2).1 (own_c255 p2).2 (own_char _ (own_c255 p2).1 (own_c255 p2).2).1 (own_char _ (own_c255 p2).1 (own_c255 p2).2).2 (i2c_mask p3) (own_c255 p3).1 (own_c255 p3).2 (own_char _ (own_c255 p3).1 (own_c255 p3).2).1 (own_char _ (own_c255 p3).1 (own_c255 p3).2).2 (i2c_mask p4) (own_c255 p4).1 (own_c255 p4).2 (own_char _ (own_c255 p4).1 (own_c255 p4).2).1 (own_char _ (own_c255 p4).1 (own_c255 p4).2).2 (i2c_mask p5) (own_c255 p5).1 (own_c255 p5).2 (own_char _ (own_c255 p5).1 (own_c255 p5).2).1 (own_char _ (own_c255 p5).1 (own_c255 p5).2).2
  · exact rm0_2_2 l Z a0 hw ws p1 p2 p3 p4 p5 (p2 &&& 255) (p3 &&& 255) (p4 &&& 255) (p5 &&& 255) o_COMPACT_STRINGS o_SIOOBE_FORMATTER h0 n0 O0 S_o_COMPACT_STRINGS S_o_SIOOBE_FORMATTER nz_o_COMPACT_STRINGS ir_o_SIOOBE_FORMATTER q u (i2c_mask p2) (own_c255 p2).1 (own_c255 p2).2 (own_char _ (own_c255 p2).1 (own_c255 p2).2).1 (own_char _ (own_c255 p2).1 (own_c255 p2).2).2 (i2c_mask p3) (own_c255 p3).1 (own_c255 p3).2 (own_char _ (own_c255 p3).1 (own_c255 p3).2).1 (own_char _ (own_c255 p3).1 (own_c255 p3).2).2 (i2c_mask p4) (own_c255 p4).1 (own_c255 p4).2 (own_char _ (own_c255 p4).1 (own_c255 p4).2).1 (own_char _ (own_c255 p4).1 (own_c255 p4).2).2 (i2c_mask p5) (own_c255 p5).1 (own_c255 p5).2 (own_char _ (own_c255 p5).1 (own_c255 p5).2).1 (own_char _ (own_c255 p5).1 (own_c255 p5).2).2
theorem comes_1 {Post : Tables → Env → Array Value → State → Outcome → State → Prop} (hpost : ∀ tb e args s v u, (limb_1_1.after args s (.returned v) u = true ∧ limb_1_2.after args s (.returned v) u = true ∧ True) → ReturnedEndW s (.returned v) u (Jvm.fieldLocs frame_1_writes args s ++ Jvm.arrayLocs frame_1_arrays args s ++ Jvm.staticLocs frame_1_statics s) 40 2240 → Post tb e args s (.returned v) u) :
    ArmFor flags0 classFile x code maxLocals ret World_1 tables_1 room_1 Calls_1 rest_1 Pre_1 Post := by
  intro l hfl _ _ p e ha hc hk s m args below hf hA hF happ hP
  obtain ⟨hcalls, hrest, hpre⟩ := hP
  obtain ⟨-, -, -, hnamed, -, -, -, hat⟩ := (Spec.applies_iff hf).mp happ
  obtain ⟨hg, hn⟩ := and_e (Cond.before_iff.mp (show (Jvm.Cond.and given_1 narrow_1).before args s = true from hpre))
  obtain ⟨hg0, hgr0⟩ := and_e hg
  obtain ⟨hg1, hgr1⟩ := and_e hgr0
  obtain ⟨hg2, hgr2⟩ := and_e hgr1
  obtain ⟨hg3, hgr3⟩ := and_e hgr2
  obtain ⟨hg4, hg5⟩ := and_e hgr3
  obtain ⟨w0, w1, w2, w3, w4, rfl⟩ : ∃ w0 w1 w2 w3 w4 : Value, args = #[w0, w1, w2, w3, w4] := by
    have hs : args.size = 5 := by simpa [Cond.value, given_1] using hg0
    obtain ⟨L⟩ := args
    match L, hs with
    | [w0, w1, w2, w3, w4], _ => exact ⟨w0, w1, w2, w3, w4, rfl⟩
  have hw := fun d (hd : d ∈ tables_1) => atoms_spec (ws := Jvm.Cond.code x code maxLocals ret :: tables_1) hat d (List.mem_cons_of_mem _ hd)
  have W := @own_W _ _ hw
  have hfit : Fit s := fun {y c} hc i hi => by
    obtain ⟨ha, rfl⟩ := Array.getElem?_eq_some_iff.mp hc
    have q := List.all_eq_true.mp ((Array.all_eq_true_iff_forall_mem.mp hF) _ (Array.getElem_mem ha)) i (List.mem_range.mpr hi)
    simpa [Array.getElem?_eq_getElem hi] using q
  obtain ⟨hsets, hown0⟩ := atoms_of _ (rest_1_c_eq ▸ (show rest_1_c.before _ s = true from hrest))
  have hr0 := Cond.before_iff.mp hown0
  obtain ⟨i0, ei0⟩ := is_v hg1
  obtain rfl : w0 = (.int i0) := Option.some.inj ei0
  obtain ⟨i1, ei1⟩ := is_v hg2
  obtain rfl : w1 = (.int i1) := Option.some.inj ei1
  obtain ⟨i2, ei2⟩ := is_v hg3
  obtain rfl : w2 = (.int i2) := Option.some.inj ei2
  obtain ⟨i3, ei3⟩ := is_v hg4
  obtain rfl : w3 = (.int i3) := Option.some.inj ei3
  obtain ⟨i4, ei4⟩ := is_v hg5
  obtain rfl : w4 = (.int i4) := Option.some.inj ei4
  obtain ⟨o_COMPACT_STRINGS, ev_o_COMPACT_STRINGS⟩ := is_v (Cond.before_iff.mp (hsets _ (List.mem_of_getElem? (i := 1) rfl)))
  have S_o_COMPACT_STRINGS := Sta.start ev_o_COMPACT_STRINGS (Or.inl (hsets _ (List.mem_of_getElem? (i := 0) rfl)))
  have nz_o_COMPACT_STRINGS : ¬ (o_COMPACT_STRINGS = (0 : Int32)) := own_neI ev_o_COMPACT_STRINGS (Cond.before_iff.mp (hsets _ (List.mem_of_getElem? (i := 2) rfl)))
  obtain ⟨o_SIOOBE_FORMATTER, ev_o_SIOOBE_FORMATTER, ir_o_SIOOBE_FORMATTER⟩ := isR_v (Cond.before_iff.mp (hsets _ (List.mem_of_getElem? (i := 8) rfl)))
  have S_o_SIOOBE_FORMATTER := Sta.start ev_o_SIOOBE_FORMATTER (Or.inl (hsets _ (List.mem_of_getElem? (i := 7) rfl)))
  have hCH : CHv s consts_1 s.vm s.heap := CHv.start (a0 := _) (own_ew_21 hw) (fun p hp => hcalls.1 p hp) (hsets _ (List.mem_of_getElem? (i := 2) rfl)) (W 20 rfl) (W 6 rfl)
  obtain ⟨n, o, h1, h2, h3, _, L, rfl, ⟨rfl, N⟩, -, hq⟩ := rm0 l s _ hw tables_1 i0 i1 i2 i3 i4 o_COMPACT_STRINGS o_SIOOBE_FORMATTER s.heap s.heap.size (Old.start s) S_o_COMPACT_STRINGS S_o_SIOOBE_FORMATTER nz_o_COMPACT_STRINGS ir_o_SIOOBE_FORMATTER p e ha hc hk s m _ below hf ((Spec.applies_iff_loose hf).mp happ).1 ⟨rfl, State.Warmed39.refl s, rfl, hCH, fun _ q => nomatch q⟩ trivial
  refine ⟨n, _, h1, h2, h3, hpost _ _ _ _ _ _ ⟨Cond.after_iff.mpr rfl, Cond.after_iff.mpr (eq_i res_at (Term.int_eval (1)) rfl), trivial⟩ ⟨hq.1, hq.2.1, hq.2.2.1, (hq.2.2.2.sift fun y hy => Or.inr (N y hy)).mono (by decide) (by decide)⟩⟩
theorem main_1_1 : Claimed_1_1 := comes_1 fun _ _ _ _ _ _ h hF => ⟨h.1, hF⟩
theorem main_1_2 : Claimed_1_2 := comes_1 fun _ _ _ _ _ _ h hF => ⟨h.2.1, hF⟩
end Jvm.Pilot.@@N@@
namespace Jvm.Pilot.@@N@@
open Jvm Jvm.ClassFile Sem Op Lib Jvm.Free Jvm.Stand Jvm.Pilot.@@N@@.Jvm.D
/-! MADE BY PROGRAM (witnessworld.py) out of the Statement's table words and the real class files: 27 classes; the members and pool entries that the words name. The judged class is class 1, her method 2. -/
namespace start1
open Jvm.ClassFile
def u (s : String) : CpInfo := .utf8 (stringToUtf16 s)
/-- a pool by its gaps: so many unusable entries, then the entry; so many at the end -/
def gap : Nat → List CpInfo → List CpInfo
  | 0, r => r
  | n + 1, r => .unusable :: gap n r
def poolList (es : List (Nat × CpInfo)) (last : Nat) : List CpInfo := es.foldr (fun e r => gap e.1 (e.2 :: r)) (gap last [])
def pool (es : List (Nat × CpInfo)) (last : Nat) : Array CpInfo := ⟨poolList es last⟩
def fileOf (pool : Array CpInfo) (this : Nat) (attrs : Array Attribute := #[]) (ms : Array MethodInfo := #[]) (fl : Nat := 33) (sup : Nat := 0) (ifs : Array Nat := #[]) (fds : Array FieldInfo := #[]) : ClassFile where
  minorVersion := 0
  majorVersion := 65
  constantPool := pool
  accessFlags := fl
  thisClass := this
  superClass := sup
  interfaces := ifs
  fields := fds
  methods := ms
  attributes := attrs
def plain (name : String) (sup : Option ClassId) : Class where
  name := name
  kind := .ordinary
  loader := none
  accessFlags := 33
  super := sup
  interfaces := #[]
  cf := none
  fields := #[]
  methods := #[]
  instanceTypes := #[]
  staticTypes := #[]
  resolved := #[]
  callSites := []
  init := .initialized
  statics := none
  mirror := none

def pool0 : Array CpInfo := pool [(5, u "<init>"), (0, u "()V"), (1, .class_ 10), (1, u "java/lang/Object")] 113

def k0c0 : Code := { maxStack := 0, maxLocals := 1, code := object_method_1_code, exceptionTable := #[], attributes := #[] }
def k0m0 : Method := { name := "<init>", desc := "()V", sig := { parameters := [], returnType := none }, accessFlags := 1, code := some k0c0 }
/-- java/lang/Object -/
def k0 : Class := { plain "java/lang/Object" none with
  accessFlags := 33
  interfaces := #[]
  cf := some (fileOf pool0 8 #[] #[{ accessFlags := 1, nameIndex := 5, descriptorIndex := 6, attributes := #[] }] 33 0 #[] #[])
  fields := #[]
  methods := #[k0m0]
  instanceTypes := #[]
  staticTypes := #[]
  resolved := Array.replicate 124 none
  statics := none }

def pool1 : Array CpInfo := pool [(2, .class_ 4), (1, u "java/lang/Object"), (0, u "<init>"), (0, u "()V"), (0, .class_ 8), (0, u "java/lang/String"), (0, .methodref 7 10), (0, .nameAndType 5 11), (0, u "([C)V"), (0, .integer 2147483647), (0, .methodref 14 15), (0, .class_ 16), (0, .nameAndType 17 18), (0, u "com/example/bylaw/bylaw/PolicyProblemToStringPinLaw"), (0, u "mk"), (0, u "(ICC)Ljava/lang/String;"), (0, .class_ 20), (0, u "com/example/bylaw/bylaw/PolicyProblem"), (0, .methodref 19 22), (0, .nameAndType 5 23), (0, u "(Ljava/lang/String;Ljava/lang/String;)V"), (0, .methodref 19 25), (0, .nameAndType 26 27), (0, u "toString"), (0, u "()Ljava/lang/String;"), (0, .methodref 7 29), (0, .nameAndType 30 31), (0, u "equals"), (0, u "(Ljava/lang/Object;)Z"), (0, .methodref 7 33), (0, .nameAndType 34 35), (0, u "length"), (0, u "()I"), (0, .methodref 7 37), (0, .nameAndType 38 39), (0, u "charAt"), (0, u "(I)C"), (3, u "law"), (0, u "(IIIII)Z")] 2

def k1m0 : Method := { name := "<init>", desc := "()V", sig := { parameters := [], returnType := none }, accessFlags := 1, code := none }
def k1c1 : Code := { maxStack := 6, maxLocals := 3, code := method_2_code, exceptionTable := #[], attributes := #[] }
def k1m1 : Method := { name := "mk", desc := "(ICC)Ljava/lang/String;", sig := { parameters := [.int, .char, .char], returnType := some (.object "java/lang/String") }, accessFlags := 10, code := some k1c1 }
def k1c2 : Code := { maxStack := 4, maxLocals := 14, code := code, exceptionTable := #[], attributes := #[] }
def k1m2 : Method := { name := "law", desc := "(IIIII)Z", sig := { parameters := [.int, .int, .int, .int, .int], returnType := some .boolean }, accessFlags := 9, code := some k1c2 }
/-- com/example/bylaw/bylaw/PolicyProblemToStringPinLaw -/
def k1 : Class := { plain "com/example/bylaw/bylaw/PolicyProblemToStringPinLaw" (some 0) with
  accessFlags := 49
  interfaces := #[]
  cf := some (fileOf pool1 14 #[] #[{ accessFlags := 1, nameIndex := 5, descriptorIndex := 6, attributes := #[] }, { accessFlags := 10, nameIndex := 17, descriptorIndex := 18, attributes := #[] }, { accessFlags := 9, nameIndex := 43, descriptorIndex := 44, attributes := #[] }] 49 2 #[] #[])
  fields := #[]
  methods := #[k1m0, k1m1, k1m2]
  instanceTypes := #[]
  staticTypes := #[]
  resolved := Array.replicate 47 none
  statics := none }

def pool2 : Array CpInfo := pool [(1, .class_ 2), (0, u "java/io/Serializable"), (0, .class_ 4), (0, u "java/lang/Object")] 2

/-- java/io/Serializable -/
def k2 : Class := { plain "java/io/Serializable" (some 0) with
  accessFlags := 1537
  interfaces := #[]
  cf := some (fileOf pool2 1 #[] #[] 1537 3 #[] #[])
  fields := #[]
  methods := #[]
  instanceTypes := #[]
  staticTypes := #[]
  resolved := Array.replicate 7 none
  statics := none }

def pool3 : Array CpInfo := pool [(1, .class_ 2), (0, u "java/lang/Comparable"), (0, .class_ 4), (0, u "java/lang/Object")] 7

/-- java/lang/Comparable -/
def k3 : Class := { plain "java/lang/Comparable" (some 0) with
  accessFlags := 1537
  interfaces := #[]
  cf := some (fileOf pool3 1 #[] #[] 1537 3 #[] #[])
  fields := #[]
  methods := #[]
  instanceTypes := #[]
  staticTypes := #[]
  resolved := Array.replicate 12 none
  statics := none }

def pool4 : Array CpInfo := pool [(2, .class_ 4), (1, u "java/lang/CharSequence"), (42, .class_ 48), (0, u "java/lang/CharSequence$1CodePointIterator"), (10, .class_ 60), (0, u "java/lang/CharSequence$1CharIterator"), (5, .class_ 67), (0, u "java/lang/Object")] 63

/-- java/lang/CharSequence -/
def k4 : Class := { plain "java/lang/CharSequence" (some 0) with
  accessFlags := 1537
  interfaces := #[]
  cf := some (fileOf pool4 2 #[.nestMembers #[47, 59]] #[] 1537 66 #[] #[])
  fields := #[]
  methods := #[]
  instanceTypes := #[]
  staticTypes := #[]
  resolved := Array.replicate 131 none
  statics := none }

def pool5 : Array CpInfo := pool [(1, .class_ 2), (0, u "java/lang/constant/Constable"), (0, .class_ 4), (0, u "java/lang/Object")] 6

/-- java/lang/constant/Constable -/
def k5 : Class := { plain "java/lang/constant/Constable" (some 0) with
  accessFlags := 1537
  interfaces := #[]
  cf := some (fileOf pool5 1 #[] #[] 1537 3 #[] #[])
  fields := #[]
  methods := #[]
  instanceTypes := #[]
  staticTypes := #[]
  resolved := Array.replicate 11 none
  statics := none }

def pool6 : Array CpInfo := pool [(1, .class_ 2), (0, u "java/lang/constant/ConstantDesc"), (0, .class_ 4), (0, u "java/lang/Object")] 32

/-- java/lang/constant/ConstantDesc -/
def k6 : Class := { plain "java/lang/constant/ConstantDesc" (some 0) with
  accessFlags := 1537
  interfaces := #[]
  cf := some (fileOf pool6 1 #[] #[] 1537 3 #[] #[])
  fields := #[]
  methods := #[]
  instanceTypes := #[]
  staticTypes := #[]
  resolved := Array.replicate 37 none
  statics := none }

def pool7 : Array CpInfo := pool [(1, .methodref 2 3), (0, .class_ 4), (0, .nameAndType 5 6), (0, u "java/lang/Object"), (0, u "<init>"), (0, u "()V"), (0, .string 8), (0, u ""), (0, .fieldref 10 11), (0, .class_ 12), (0, .nameAndType 13 14), (0, u "java/lang/String"), (0, u "value"), (0, u "[B"), (0, .fieldref 10 16), (0, .nameAndType 17 18), (0, u "coder"), (0, u "B"), (2, u "hash"), (0, u "I"), (2, u "hashIsZero"), (0, u "Z"), (0, .methodref 10 28), (0, .nameAndType 5 29), (0, u "([CIILjava/lang/Void;)V"), (8, .fieldref 10 39), (0, .nameAndType 40 26), (0, u "COMPACT_STRINGS"), (1, .class_ 44), (1, u "java/lang/StringUTF16"), (0, u "compress"), (1, .methodref 42 48), (0, .nameAndType 49 50), (0, u "coderFromArrayLen"), (0, u "([BI)B"), (3, .methodref 55 56), (0, .class_ 57), (0, .nameAndType 58 59), (0, u "java/util/Arrays"), (0, u "copyOfRange"), (0, u "([BII)[B"), (47, .class_ 109), (1, u "java/lang/StringLatin1"), (32, u "()Z"), (34, .methodref 42 178), (0, .nameAndType 45 179), (0, u "([CII)[B"), (13, .class_ 195), (1, u "java/lang/System"), (16, .methodref 193 213), (0, .nameAndType 214 215), (0, u "arraycopy"), (0, u "(Ljava/lang/Object;ILjava/lang/Object;II)V"), (118, u "()I"), (0, .methodref 10 336), (0, .nameAndType 17 337), (0, u "()B"), (2, u "()[B"), (22, u "([BI)C"), (27, u "(II)V"), (35, u "(I)C"), (61, .methodref 10 490), (0, .nameAndType 5 491), (0, u "(Ljava/lang/AbstractStringBuilder;Ljava/lang/Void;)V"), (0, .methodref 10 493), (0, .nameAndType 494 142), (0, u "isLatin1"), (0, .methodref 107 496), (0, .nameAndType 497 363), (0, u "charAt"), (3, u "checkIndex"), (4, .nameAndType 507 334), (0, u "length"), (24, u "getBytes"), (10, u "equals"), (5, .methodref 550 506), (0, .class_ 551), (0, u "java/lang/AbstractStringBuilder"), (0, .methodref 550 553), (0, .nameAndType 554 340), (0, u "getValue"), (18, u "(Ljava/lang/Object;)Z"), (1, .class_ 576), (0, u "java/lang/CharSequence"), (22, u "CASE_INSENSITIVE_ORDER"), (0, u "Ljava/util/Comparator;"), (91, u "isEmpty"), (128, u "([BIB)V"), (188, u "([C)V"), (36, .methodref 550 493), (5, .fieldref 1054 1055), (0, .class_ 1056), (0, .nameAndType 1057 1058), (0, u "jdk/internal/util/Preconditions"), (0, u "SIOOBE_FORMATTER"), (0, u "Ljava/util/function/BiFunction;"), (0, .methodref 1054 1060), (0, .nameAndType 501 1061), (0, u "(IILjava/util/function/BiFunction;)I"), (39, u "serialPersistentFields"), (0, u "[Ljava/io/ObjectStreamField;"), (0, .class_ 1104), (0, u "java/lang/String$CaseInsensitiveComparator"), (1, .class_ 1107), (0, u "java/io/Serializable"), (0, .class_ 1109), (0, u "java/lang/Comparable"), (0, .class_ 1111), (0, u "java/lang/constant/Constable"), (0, .class_ 1113), (0, u "java/lang/constant/ConstantDesc"), (2, u "serialVersionUID"), (0, u "J"), (3, u "REPL"), (0, u "C"), (2, u "LATIN1"), (1, u "UTF16"), (105, u "(Ljava/lang/StringBuilder;)V")] 217

def k7m0 : Method := { name := "<init>", desc := "()V", sig := { parameters := [], returnType := none }, accessFlags := 1, code := none }
def k7c1 : Code := { maxStack := 5, maxLocals := 2, code := jdk_42_method_3_code, exceptionTable := #[], attributes := #[] }
def k7m1 : Method := { name := "<init>", desc := "([C)V", sig := { parameters := [(.array .char)], returnType := none }, accessFlags := 1, code := some k7c1 }
def k7c2 : Code := { maxStack := 3, maxLocals := 2, code := jdk_42_method_53_code, exceptionTable := #[], attributes := #[] }
def k7m2 : Method := { name := "<init>", desc := "(Ljava/lang/StringBuilder;)V", sig := { parameters := [(.object "java/lang/StringBuilder")], returnType := none }, accessFlags := 1, code := some k7c2 }
def k7c3 : Code := { maxStack := 2, maxLocals := 1, code := jdk_42_method_54_code, exceptionTable := #[], attributes := #[] }
def k7m3 : Method := { name := "length", desc := "()I", sig := { parameters := [], returnType := some .int }, accessFlags := 1, code := some k7c3 }
def k7c4 : Code := { maxStack := 1, maxLocals := 1, code := jdk_42_method_55_code, exceptionTable := #[], attributes := #[] }
def k7m4 : Method := { name := "isEmpty", desc := "()Z", sig := { parameters := [], returnType := some .boolean }, accessFlags := 1, code := some k7c4 }
def k7c5 : Code := { maxStack := 2, maxLocals := 2, code := jdk_42_method_56_code, exceptionTable := #[], attributes := #[] }
def k7m5 : Method := { name := "charAt", desc := "(I)C", sig := { parameters := [.int], returnType := some .char }, accessFlags := 1, code := some k7c5 }
def k7c6 : Code := { maxStack := 2, maxLocals := 3, code := jdk_42_method_66_code, exceptionTable := #[], attributes := #[] }
def k7m6 : Method := { name := "equals", desc := "(Ljava/lang/Object;)Z", sig := { parameters := [(.object "java/lang/Object")], returnType := some .boolean }, accessFlags := 1, code := some k7c6 }
def k7c7 : Code := { maxStack := 5, maxLocals := 4, code := jdk_42_method_147_code, exceptionTable := #[], attributes := #[] }
def k7m7 : Method := { name := "getBytes", desc := "([BIB)V", sig := { parameters := [(.array .byte), .int, .byte], returnType := none }, accessFlags := 0, code := some k7c7 }
def k7c8 : Code := { maxStack := 4, maxLocals := 6, code := jdk_42_method_149_code, exceptionTable := #[], attributes := #[] }
def k7m8 : Method := { name := "<init>", desc := "([CIILjava/lang/Void;)V", sig := { parameters := [(.array .char), .int, .int, (.object "java/lang/Void")], returnType := none }, accessFlags := 2, code := some k7c8 }
def k7c9 : Code := { maxStack := 5, maxLocals := 5, code := jdk_42_method_150_code, exceptionTable := #[], attributes := #[] }
def k7m9 : Method := { name := "<init>", desc := "(Ljava/lang/AbstractStringBuilder;Ljava/lang/Void;)V", sig := { parameters := [(.object "java/lang/AbstractStringBuilder"), (.object "java/lang/Void")], returnType := none }, accessFlags := 0, code := some k7c9 }
def k7c10 : Code := { maxStack := 1, maxLocals := 1, code := jdk_42_method_152_code, exceptionTable := #[], attributes := #[] }
def k7m10 : Method := { name := "coder", desc := "()B", sig := { parameters := [], returnType := some .byte }, accessFlags := 0, code := some k7c10 }
def k7c11 : Code := { maxStack := 1, maxLocals := 1, code := jdk_42_method_154_code, exceptionTable := #[], attributes := #[] }
def k7m11 : Method := { name := "isLatin1", desc := "()Z", sig := { parameters := [], returnType := some .boolean }, accessFlags := 0, code := some k7c11 }
def k7c12 : Code := { maxStack := 3, maxLocals := 2, code := jdk_42_method_155_code, exceptionTable := #[], attributes := #[] }
def k7m12 : Method := { name := "checkIndex", desc := "(II)V", sig := { parameters := [.int, .int], returnType := none }, accessFlags := 8, code := some k7c12 }
/-- java/lang/String -/
def k7 : Class := { plain "java/lang/String" (some 0) with
  accessFlags := 49
  interfaces := #[2, 3, 4, 5, 6]
  cf := some (fileOf pool7 10 #[.nestMembers #[1103]] #[{ accessFlags := 1, nameIndex := 5, descriptorIndex := 6, attributes := #[] }, { accessFlags := 1, nameIndex := 5, descriptorIndex := 1010, attributes := #[] }, { accessFlags := 1, nameIndex := 5, descriptorIndex := 1233, attributes := #[] }, { accessFlags := 1, nameIndex := 507, descriptorIndex := 334, attributes := #[] }, { accessFlags := 1, nameIndex := 692, descriptorIndex := 142, attributes := #[] }, { accessFlags := 1, nameIndex := 497, descriptorIndex := 427, attributes := #[] }, { accessFlags := 1, nameIndex := 543, descriptorIndex := 573, attributes := #[] }, { accessFlags := 0, nameIndex := 532, descriptorIndex := 821, attributes := #[] }, { accessFlags := 2, nameIndex := 5, descriptorIndex := 29, attributes := #[] }, { accessFlags := 0, nameIndex := 5, descriptorIndex := 491, attributes := #[] }, { accessFlags := 0, nameIndex := 17, descriptorIndex := 337, attributes := #[] }, { accessFlags := 0, nameIndex := 494, descriptorIndex := 142, attributes := #[] }, { accessFlags := 8, nameIndex := 501, descriptorIndex := 391, attributes := #[] }] 49 2 #[1106, 1108, 575, 1110, 1112] #[{ accessFlags := 18, nameIndex := 13, descriptorIndex := 14, attributes := #[] }, { accessFlags := 18, nameIndex := 17, descriptorIndex := 18, attributes := #[] }, { accessFlags := 2, nameIndex := 21, descriptorIndex := 22, attributes := #[] }, { accessFlags := 2, nameIndex := 25, descriptorIndex := 26, attributes := #[] }, { accessFlags := 26, nameIndex := 1116, descriptorIndex := 1117, attributes := #[] }, { accessFlags := 24, nameIndex := 40, descriptorIndex := 26, attributes := #[] }, { accessFlags := 26, nameIndex := 1101, descriptorIndex := 1102, attributes := #[] }, { accessFlags := 26, nameIndex := 1121, descriptorIndex := 1122, attributes := #[] }, { accessFlags := 25, nameIndex := 599, descriptorIndex := 600, attributes := #[] }, { accessFlags := 24, nameIndex := 1125, descriptorIndex := 18, attributes := #[] }, { accessFlags := 24, nameIndex := 1127, descriptorIndex := 18, attributes := #[] }])
  fields := #[{ name := "value", type := (.array .byte), accessFlags := 18, slot := 0, constantValue := 0 }, { name := "coder", type := .byte, accessFlags := 18, slot := 1, constantValue := 0 }, { name := "hash", type := .int, accessFlags := 2, slot := 2, constantValue := 0 }, { name := "hashIsZero", type := .boolean, accessFlags := 2, slot := 3, constantValue := 0 }, { name := "serialVersionUID", type := .long, accessFlags := 26, slot := 0, constantValue := 0 }, { name := "COMPACT_STRINGS", type := .boolean, accessFlags := 24, slot := 1, constantValue := 0 }, { name := "serialPersistentFields", type := (.array (.object "java/io/ObjectStreamField")), accessFlags := 26, slot := 2, constantValue := 0 }, { name := "REPL", type := .char, accessFlags := 26, slot := 3, constantValue := 0 }, { name := "CASE_INSENSITIVE_ORDER", type := (.object "java/util/Comparator"), accessFlags := 25, slot := 4, constantValue := 0 }, { name := "LATIN1", type := .byte, accessFlags := 24, slot := 5, constantValue := 0 }, { name := "UTF16", type := .byte, accessFlags := 24, slot := 6, constantValue := 0 }]
  methods := #[k7m0, k7m1, k7m2, k7m3, k7m4, k7m5, k7m6, k7m7, k7m8, k7m9, k7m10, k7m11, k7m12]
  instanceTypes := #[(.array .byte), .byte, .int, .boolean]
  staticTypes := #[.long, .boolean, (.array (.object "java/io/ObjectStreamField")), .char, (.object "java/util/Comparator"), .byte, .byte]
  resolved := Array.replicate 1451 none
  statics := some 0 }

def pool8 : Array CpInfo := pool [(1, .methodref 2 3), (0, .class_ 4), (0, .nameAndType 5 6), (0, u "java/lang/Object"), (0, u "<init>"), (0, u "()V"), (0, .class_ 8), (0, u "java/lang/Record")] 13

def k8c0 : Code := { maxStack := 1, maxLocals := 1, code := jdk_30_method_1_code, exceptionTable := #[], attributes := #[] }
def k8m0 : Method := { name := "<init>", desc := "()V", sig := { parameters := [], returnType := none }, accessFlags := 4, code := some k8c0 }
/-- java/lang/Record -/
def k8 : Class := { plain "java/lang/Record" (some 0) with
  accessFlags := 1057
  interfaces := #[]
  cf := some (fileOf pool8 7 #[] #[{ accessFlags := 4, nameIndex := 5, descriptorIndex := 6, attributes := #[] }] 1057 2 #[] #[])
  fields := #[]
  methods := #[k8m0]
  instanceTypes := #[]
  staticTypes := #[]
  resolved := Array.replicate 22 none
  statics := none }

def pool9 : Array CpInfo := pool [(1, .methodref 2 3), (0, .class_ 4), (0, .nameAndType 5 6), (0, u "java/lang/Record"), (0, u "<init>"), (0, u "()V"), (0, .fieldref 8 9), (0, .class_ 10), (0, .nameAndType 11 12), (0, u "com/example/bylaw/bylaw/PolicyProblem"), (0, u "pointer"), (0, u "Ljava/lang/String;"), (0, .fieldref 8 14), (0, .nameAndType 15 12), (0, u "message"), (0, .methodref 17 18), (0, .class_ 19), (0, .nameAndType 20 21), (0, u "java/lang/String"), (0, u "isEmpty"), (0, u "()Z"), (0, .class_ 23), (0, u "java/lang/StringBuilder"), (0, .methodref 22 3), (0, .methodref 22 26), (0, .nameAndType 27 28), (0, u "append"), (0, u "(Ljava/lang/String;)Ljava/lang/StringBuilder;"), (0, .string 30), (0, u ": "), (0, .methodref 22 32), (0, .nameAndType 33 34), (0, u "toString"), (0, u "()Ljava/lang/String;"), (8, u "(Ljava/lang/String;Ljava/lang/String;)V")] 27

def k9c0 : Code := { maxStack := 2, maxLocals := 3, code := prog_7_method_1_code, exceptionTable := #[], attributes := #[] }
def k9m0 : Method := { name := "<init>", desc := "(Ljava/lang/String;Ljava/lang/String;)V", sig := { parameters := [(.object "java/lang/String"), (.object "java/lang/String")], returnType := none }, accessFlags := 1, code := some k9c0 }
def k9c1 : Code := { maxStack := 2, maxLocals := 1, code := prog_7_method_2_code, exceptionTable := #[], attributes := #[] }
def k9m1 : Method := { name := "toString", desc := "()Ljava/lang/String;", sig := { parameters := [], returnType := some (.object "java/lang/String") }, accessFlags := 1, code := some k9c1 }
/-- com/example/bylaw/bylaw/PolicyProblem -/
def k9 : Class := { plain "com/example/bylaw/bylaw/PolicyProblem" (some 8) with
  accessFlags := 49
  interfaces := #[]
  cf := some (fileOf pool9 8 #[] #[{ accessFlags := 1, nameIndex := 5, descriptorIndex := 43, attributes := #[] }, { accessFlags := 1, nameIndex := 33, descriptorIndex := 34, attributes := #[] }] 49 2 #[] #[{ accessFlags := 18, nameIndex := 11, descriptorIndex := 12, attributes := #[] }, { accessFlags := 18, nameIndex := 15, descriptorIndex := 12, attributes := #[] }])
  fields := #[{ name := "pointer", type := (.object "java/lang/String"), accessFlags := 18, slot := 0, constantValue := 0 }, { name := "message", type := (.object "java/lang/String"), accessFlags := 18, slot := 1, constantValue := 0 }]
  methods := #[k9m0, k9m1]
  instanceTypes := #[(.object "java/lang/String"), (.object "java/lang/String")]
  staticTypes := #[]
  resolved := Array.replicate 71 none
  statics := none }

def pool10 : Array CpInfo := pool [(6, .class_ 8), (1, u "java/lang/Object"), (0, u "<init>"), (0, u "()V"), (1, .class_ 14), (1, u "java/lang/StringUTF16"), (31, u "$assertionsDisabled"), (0, u "Z"), (13, u "HI_BYTE_SHIFT"), (0, u "I"), (2, u "LO_BYTE_SHIFT"), (49, .methodref 12 116), (0, .nameAndType 117 118), (0, u "compress"), (0, u "([CI[BII)I"), (3, u "([CII)[B"), (138, u "coderFromArrayLen"), (0, u "([BI)B"), (106, .class_ 371), (1, u "java/lang/StringUTF16$LinesSpliterator"), (58, u "MAX_LENGTH"), (196, .class_ 628), (0, u "java/lang/StringUTF16$CodePointsSpliterator"), (0, .class_ 630), (0, u "java/lang/StringUTF16$CharsSpliterator")] 4

def k10m0 : Method := { name := "<init>", desc := "()V", sig := { parameters := [], returnType := none }, accessFlags := 0, code := none }
def k10c1 : Code := { maxStack := 2, maxLocals := 2, code := jdk_52_method_15_code, exceptionTable := #[], attributes := #[] }
def k10m1 : Method := { name := "coderFromArrayLen", desc := "([BI)B", sig := { parameters := [(.array .byte), .int], returnType := some .byte }, accessFlags := 8, code := some k10c1 }
def k10c2 : Code := { maxStack := 5, maxLocals := 6, code := jdk_52_method_16_code, exceptionTable := #[], attributes := #[] }
def k10m2 : Method := { name := "compress", desc := "([CII)[B", sig := { parameters := [(.array .char), .int, .int], returnType := some (.array .byte) }, accessFlags := 9, code := some k10c2 }
def k10c3 : Code := { maxStack := 3, maxLocals := 7, code := jdk_52_method_21_code, exceptionTable := #[], attributes := #[] }
def k10m3 : Method := { name := "compress", desc := "([CI[BII)I", sig := { parameters := [(.array .char), .int, (.array .byte), .int, .int], returnType := some .int }, accessFlags := 9, code := some k10c3 }
/-- java/lang/StringUTF16 -/
def k10 : Class := { plain "java/lang/StringUTF16" (some 0) with
  accessFlags := 48
  interfaces := #[]
  cf := some (fileOf pool10 12 #[.nestMembers #[627, 629, 369]] #[{ accessFlags := 0, nameIndex := 9, descriptorIndex := 10, attributes := #[] }, { accessFlags := 8, nameIndex := 261, descriptorIndex := 262, attributes := #[] }, { accessFlags := 9, nameIndex := 117, descriptorIndex := 122, attributes := #[] }, { accessFlags := 9, nameIndex := 117, descriptorIndex := 118, attributes := #[] }] 48 6 #[] #[{ accessFlags := 26, nameIndex := 61, descriptorIndex := 62, attributes := #[] }, { accessFlags := 26, nameIndex := 65, descriptorIndex := 62, attributes := #[] }, { accessFlags := 24, nameIndex := 430, descriptorIndex := 62, attributes := #[] }, { accessFlags := 4120, nameIndex := 46, descriptorIndex := 47, attributes := #[] }])
  fields := #[{ name := "HI_BYTE_SHIFT", type := .int, accessFlags := 26, slot := 0, constantValue := 0 }, { name := "LO_BYTE_SHIFT", type := .int, accessFlags := 26, slot := 1, constantValue := 0 }, { name := "MAX_LENGTH", type := .int, accessFlags := 24, slot := 2, constantValue := 0 }, { name := "$assertionsDisabled", type := .boolean, accessFlags := 4120, slot := 3, constantValue := 0 }]
  methods := #[k10m0, k10m1, k10m2, k10m3]
  instanceTypes := #[]
  staticTypes := #[.int, .int, .int, .boolean]
  resolved := Array.replicate 635 none
  statics := none }

def pool11 : Array CpInfo := pool [(1, .class_ 2), (0, u "java/lang/Appendable"), (0, .class_ 4), (0, u "java/lang/Object")] 9

/-- java/lang/Appendable -/
def k11 : Class := { plain "java/lang/Appendable" (some 0) with
  accessFlags := 1537
  interfaces := #[]
  cf := some (fileOf pool11 1 #[] #[] 1537 3 #[] #[])
  fields := #[]
  methods := #[]
  instanceTypes := #[]
  staticTypes := #[]
  resolved := Array.replicate 14 none
  statics := none }

def pool12 : Array CpInfo := pool [(1, .class_ 2), (0, u "java/lang/String"), (0, .methodref 4 5), (0, .class_ 6), (0, .nameAndType 7 8), (0, u "java/lang/Object"), (0, u "<init>"), (0, u "()V"), (1, .class_ 12), (1, u "java/lang/AbstractStringBuilder"), (0, u "EMPTYVALUE"), (0, u "[B"), (0, .fieldref 10 16), (0, .nameAndType 17 14), (0, u "value"), (0, .fieldref 1 19), (0, .nameAndType 20 21), (0, u "COMPACT_STRINGS"), (0, u "Z"), (0, .fieldref 10 23), (0, .nameAndType 24 25), (0, u "coder"), (0, u "B"), (6, .methodref 1 33), (0, .nameAndType 34 35), (0, u "length"), (0, u "()I"), (4, .methodref 1 41), (0, .nameAndType 24 42), (0, u "()B"), (2, u "append"), (0, u "(Ljava/lang/String;)Ljava/lang/AbstractStringBuilder;"), (1, .class_ 49), (0, u "java/lang/CharSequence"), (19, u "(Ljava/lang/String;)V"), (5, u "maybeLatin1"), (3, .fieldref 10 80), (0, .nameAndType 81 82), (0, u "count"), (0, u "I"), (2, u "isLatin1"), (0, u "()Z"), (13, .methodref 10 101), (0, .nameAndType 102 103), (0, u "ensureCapacityInternal"), (0, u "(I)V"), (104, .methodref 10 209), (0, .nameAndType 210 211), (0, u "putStringAt"), (0, u "(ILjava/lang/String;)V"), (5, u "inflateIfNeededFor"), (2, .nameAndType 221 222), (0, u "getBytes"), (0, u "([BIB)V"), (174, .methodref 10 398), (0, .nameAndType 217 69), (0, .methodref 1 220), (3, u "()[B"), (40, .class_ 445), (0, u "java/lang/Appendable"), (106, u "getValue")] 56

def k12m0 : Method := { name := "<init>", desc := "()V", sig := { parameters := [], returnType := none }, accessFlags := 0, code := none }
def k12c1 : Code := { maxStack := 2, maxLocals := 2, code := jdk_68_method_2_code, exceptionTable := #[], attributes := #[] }
def k12m1 : Method := { name := "<init>", desc := "(I)V", sig := { parameters := [.int], returnType := none }, accessFlags := 0, code := some k12c1 }
def k12c2 : Code := { maxStack := 1, maxLocals := 1, code := jdk_68_method_6_code, exceptionTable := #[], attributes := #[] }
def k12m2 : Method := { name := "length", desc := "()I", sig := { parameters := [], returnType := some .int }, accessFlags := 1, code := some k12c2 }
def k12c3 : Code := { maxStack := 4, maxLocals := 3, code := jdk_68_method_9_code, exceptionTable := #[], attributes := #[] }
def k12m3 : Method := { name := "ensureCapacityInternal", desc := "(I)V", sig := { parameters := [.int], returnType := none }, accessFlags := 2, code := some k12c3 }
def k12c4 : Code := { maxStack := 3, maxLocals := 3, code := jdk_68_method_22_code, exceptionTable := #[], attributes := #[] }
def k12m4 : Method := { name := "append", desc := "(Ljava/lang/String;)Ljava/lang/AbstractStringBuilder;", sig := { parameters := [(.object "java/lang/String")], returnType := some (.object "java/lang/AbstractStringBuilder") }, accessFlags := 1, code := some k12c4 }
def k12c5 : Code := { maxStack := 1, maxLocals := 1, code := jdk_68_method_64_code, exceptionTable := #[], attributes := #[] }
def k12m5 : Method := { name := "getValue", desc := "()[B", sig := { parameters := [], returnType := some (.array .byte) }, accessFlags := 16, code := some k12c5 }
def k12c6 : Code := { maxStack := 1, maxLocals := 1, code := jdk_68_method_68_code, exceptionTable := #[], attributes := #[] }
def k12m6 : Method := { name := "isLatin1", desc := "()Z", sig := { parameters := [], returnType := some .boolean }, accessFlags := 16, code := some k12c6 }
def k12c7 : Code := { maxStack := 2, maxLocals := 2, code := jdk_68_method_71_code, exceptionTable := #[], attributes := #[] }
def k12m7 : Method := { name := "inflateIfNeededFor", desc := "(Ljava/lang/String;)V", sig := { parameters := [(.object "java/lang/String")], returnType := none }, accessFlags := 2, code := some k12c7 }
def k12c8 : Code := { maxStack := 4, maxLocals := 3, code := jdk_68_method_73_code, exceptionTable := #[], attributes := #[] }
def k12m8 : Method := { name := "putStringAt", desc := "(ILjava/lang/String;)V", sig := { parameters := [.int, (.object "java/lang/String")], returnType := none }, accessFlags := 2, code := some k12c8 }
/-- java/lang/AbstractStringBuilder -/
def k12 : Class := { plain "java/lang/AbstractStringBuilder" (some 0) with
  accessFlags := 1056
  interfaces := #[11, 4]
  cf := some (fileOf pool12 10 #[] #[{ accessFlags := 0, nameIndex := 7, descriptorIndex := 8, attributes := #[] }, { accessFlags := 0, nameIndex := 7, descriptorIndex := 103, attributes := #[] }, { accessFlags := 1, nameIndex := 34, descriptorIndex := 35, attributes := #[] }, { accessFlags := 2, nameIndex := 102, descriptorIndex := 103, attributes := #[] }, { accessFlags := 1, nameIndex := 45, descriptorIndex := 46, attributes := #[] }, { accessFlags := 16, nameIndex := 552, descriptorIndex := 403, attributes := #[] }, { accessFlags := 16, nameIndex := 85, descriptorIndex := 86, attributes := #[] }, { accessFlags := 2, nameIndex := 217, descriptorIndex := 69, attributes := #[] }, { accessFlags := 2, nameIndex := 210, descriptorIndex := 211, attributes := #[] }] 1056 4 #[444, 48] #[{ accessFlags := 0, nameIndex := 17, descriptorIndex := 14, attributes := #[] }, { accessFlags := 0, nameIndex := 24, descriptorIndex := 25, attributes := #[] }, { accessFlags := 0, nameIndex := 75, descriptorIndex := 21, attributes := #[] }, { accessFlags := 0, nameIndex := 81, descriptorIndex := 82, attributes := #[] }, { accessFlags := 26, nameIndex := 13, descriptorIndex := 14, attributes := #[] }])
  fields := #[{ name := "value", type := (.array .byte), accessFlags := 0, slot := 0, constantValue := 0 }, { name := "coder", type := .byte, accessFlags := 0, slot := 1, constantValue := 0 }, { name := "maybeLatin1", type := .boolean, accessFlags := 0, slot := 2, constantValue := 0 }, { name := "count", type := .int, accessFlags := 0, slot := 3, constantValue := 0 }, { name := "EMPTYVALUE", type := (.array .byte), accessFlags := 26, slot := 0, constantValue := 0 }]
  methods := #[k12m0, k12m1, k12m2, k12m3, k12m4, k12m5, k12m6, k12m7, k12m8]
  instanceTypes := #[(.array .byte), .byte, .boolean, .int]
  staticTypes := #[(.array .byte)]
  resolved := Array.replicate 609 none
  statics := none }

def pool13 : Array CpInfo := pool [(1, .methodref 2 3), (0, .class_ 4), (0, .nameAndType 5 6), (0, u "java/lang/AbstractStringBuilder"), (0, u "<init>"), (0, u "(I)V"), (11, .class_ 20), (1, u "java/lang/String"), (3, .class_ 26), (1, u "java/lang/StringBuilder"), (0, u "append"), (0, u "(Ljava/lang/String;)Ljava/lang/StringBuilder;"), (0, .methodref 2 30), (0, .nameAndType 27 31), (0, u "(Ljava/lang/String;)Ljava/lang/AbstractStringBuilder;"), (105, .methodref 18 138), (0, .nameAndType 5 139), (0, u "(Ljava/lang/StringBuilder;)V"), (5, u "()V"), (10, u "()I"), (186, .methodref 2 344), (0, .nameAndType 345 156), (0, u "length"), (3, .class_ 350), (0, u "java/lang/Appendable"), (0, .class_ 352), (0, u "java/io/Serializable"), (0, .class_ 354), (0, u "java/lang/Comparable"), (0, .class_ 356), (0, u "java/lang/CharSequence"), (0, u "serialVersionUID"), (0, u "J"), (40, u "toString"), (0, u "()Ljava/lang/String;")] 21

def k13c0 : Code := { maxStack := 2, maxLocals := 1, code := jdk_67_method_1_code, exceptionTable := #[], attributes := #[] }
def k13m0 : Method := { name := "<init>", desc := "()V", sig := { parameters := [], returnType := none }, accessFlags := 1, code := some k13c0 }
def k13c1 : Code := { maxStack := 2, maxLocals := 2, code := jdk_67_method_7_code, exceptionTable := #[], attributes := #[] }
def k13m1 : Method := { name := "append", desc := "(Ljava/lang/String;)Ljava/lang/StringBuilder;", sig := { parameters := [(.object "java/lang/String")], returnType := some (.object "java/lang/StringBuilder") }, accessFlags := 1, code := some k13c1 }
def k13c2 : Code := { maxStack := 3, maxLocals := 1, code := jdk_67_method_42_code, exceptionTable := #[], attributes := #[] }
def k13m2 : Method := { name := "toString", desc := "()Ljava/lang/String;", sig := { parameters := [], returnType := some (.object "java/lang/String") }, accessFlags := 1, code := some k13c2 }
def k13c3 : Code := { maxStack := 1, maxLocals := 1, code := jdk_67_method_93_code, exceptionTable := #[], attributes := #[] }
def k13m3 : Method := { name := "length", desc := "()I", sig := { parameters := [], returnType := some .int }, accessFlags := 4161, code := some k13c3 }
/-- java/lang/StringBuilder -/
def k13 : Class := { plain "java/lang/StringBuilder" (some 12) with
  accessFlags := 49
  interfaces := #[11, 2, 3, 4]
  cf := some (fileOf pool13 24 #[] #[{ accessFlags := 1, nameIndex := 5, descriptorIndex := 145, attributes := #[] }, { accessFlags := 1, nameIndex := 27, descriptorIndex := 28, attributes := #[] }, { accessFlags := 1, nameIndex := 399, descriptorIndex := 400, attributes := #[] }, { accessFlags := 4161, nameIndex := 345, descriptorIndex := 156, attributes := #[] }] 49 2 #[349, 351, 353, 355] #[{ accessFlags := 24, nameIndex := 357, descriptorIndex := 358, attributes := #[] }])
  fields := #[{ name := "serialVersionUID", type := .long, accessFlags := 24, slot := 0, constantValue := 0 }]
  methods := #[k13m0, k13m1, k13m2, k13m3]
  instanceTypes := #[(.array .byte), .byte, .boolean, .int]
  staticTypes := #[.long]
  resolved := Array.replicate 422 none
  statics := none }

def pool14 : Array CpInfo := pool [(2, .class_ 4), (1, u "java/lang/Object"), (0, u "<init>"), (0, u "()V"), (1, .class_ 10), (1, u "java/lang/System"), (0, u "allowSecurityManager"), (0, u "I"), (16, u "cons"), (0, u "Ljava/io/Console;"), (77, .class_ 110), (1, u "java/lang/System$CallersHolder"), (43, u "initialErrStream"), (0, u "Ljava/io/PrintStream;"), (19, u "security"), (0, u "Ljava/lang/SecurityManager;"), (31, .class_ 209), (0, u "java/lang/System$1"), (7, u "props"), (0, u "Ljava/util/Properties;"), (2, u "lineSeparator"), (0, u "Ljava/lang/String;"), (96, .class_ 321), (1, u "java/lang/System$LoggerFinder"), (5, .class_ 328), (0, u "java/lang/System$Logger"), (67, u "err"), (2, u "out"), (91, u "notSupportedJnuEncoding"), (15, u "in"), (17, u "initialIn"), (0, u "Ljava/io/InputStream;"), (35, u "bootLayer"), (0, u "Ljava/lang/ModuleLayer;"), (99, .class_ 664), (0, u "java/lang/System$2"), (9, u "NEVER"), (2, u "MAYBE"), (49, u "arraycopy"), (0, u "(Ljava/lang/Object;ILjava/lang/Object;II)V"), (72, .class_ 802), (0, u "java/lang/System$Logger$Level")] 31

def k14m0 : Method := { name := "<init>", desc := "()V", sig := { parameters := [], returnType := none }, accessFlags := 2, code := none }
def k14m1 : Method := { name := "arraycopy", desc := "(Ljava/lang/Object;ILjava/lang/Object;II)V", sig := { parameters := [(.object "java/lang/Object"), .int, (.object "java/lang/Object"), .int, .int], returnType := none }, accessFlags := 265, code := none }
/-- java/lang/System -/
def k14 : Class := { plain "java/lang/System" (some 0) with
  accessFlags := 49
  interfaces := #[]
  cf := some (fileOf pool14 8 #[.nestMembers #[319, 327, 801, 108, 663, 208]] #[{ accessFlags := 2, nameIndex := 5, descriptorIndex := 6, attributes := #[] }, { accessFlags := 265, nameIndex := 727, descriptorIndex := 728, attributes := #[] }] 49 2 #[] #[{ accessFlags := 25, nameIndex := 507, descriptorIndex := 526, attributes := #[] }, { accessFlags := 25, nameIndex := 399, descriptorIndex := 155, attributes := #[] }, { accessFlags := 25, nameIndex := 396, descriptorIndex := 155, attributes := #[] }, { accessFlags := 10, nameIndex := 525, descriptorIndex := 526, attributes := #[] }, { accessFlags := 26, nameIndex := 674, descriptorIndex := 12, attributes := #[] }, { accessFlags := 26, nameIndex := 677, descriptorIndex := 12, attributes := #[] }, { accessFlags := 10, nameIndex := 11, descriptorIndex := 12, attributes := #[] }, { accessFlags := 74, nameIndex := 175, descriptorIndex := 176, attributes := #[] }, { accessFlags := 10, nameIndex := 491, descriptorIndex := 222, attributes := #[] }, { accessFlags := 74, nameIndex := 29, descriptorIndex := 30, attributes := #[] }, { accessFlags := 74, nameIndex := 154, descriptorIndex := 155, attributes := #[] }, { accessFlags := 10, nameIndex := 217, descriptorIndex := 218, attributes := #[] }, { accessFlags := 10, nameIndex := 221, descriptorIndex := 222, attributes := #[] }, { accessFlags := 8, nameIndex := 562, descriptorIndex := 563, attributes := #[] }])
  fields := #[{ name := "in", type := (.object "java/io/InputStream"), accessFlags := 25, slot := 0, constantValue := 0 }, { name := "out", type := (.object "java/io/PrintStream"), accessFlags := 25, slot := 1, constantValue := 0 }, { name := "err", type := (.object "java/io/PrintStream"), accessFlags := 25, slot := 2, constantValue := 0 }, { name := "initialIn", type := (.object "java/io/InputStream"), accessFlags := 10, slot := 3, constantValue := 0 }, { name := "NEVER", type := .int, accessFlags := 26, slot := 4, constantValue := 0 }, { name := "MAYBE", type := .int, accessFlags := 26, slot := 5, constantValue := 0 }, { name := "allowSecurityManager", type := .int, accessFlags := 10, slot := 6, constantValue := 0 }, { name := "security", type := (.object "java/lang/SecurityManager"), accessFlags := 74, slot := 7, constantValue := 0 }, { name := "notSupportedJnuEncoding", type := (.object "java/lang/String"), accessFlags := 10, slot := 8, constantValue := 0 }, { name := "cons", type := (.object "java/io/Console"), accessFlags := 74, slot := 9, constantValue := 0 }, { name := "initialErrStream", type := (.object "java/io/PrintStream"), accessFlags := 74, slot := 10, constantValue := 0 }, { name := "props", type := (.object "java/util/Properties"), accessFlags := 10, slot := 11, constantValue := 0 }, { name := "lineSeparator", type := (.object "java/lang/String"), accessFlags := 10, slot := 12, constantValue := 0 }, { name := "bootLayer", type := (.object "java/lang/ModuleLayer"), accessFlags := 8, slot := 13, constantValue := 0 }]
  methods := #[k14m0, k14m1]
  instanceTypes := #[]
  staticTypes := #[(.object "java/io/InputStream"), (.object "java/io/PrintStream"), (.object "java/io/PrintStream"), (.object "java/io/InputStream"), .int, .int, .int, (.object "java/lang/SecurityManager"), (.object "java/lang/String"), (.object "java/io/Console"), (.object "java/io/PrintStream"), (.object "java/util/Properties"), (.object "java/lang/String"), (.object "java/lang/ModuleLayer")]
  resolved := Array.replicate 834 none
  statics := none }

def pool15 : Array CpInfo := pool [(2, .class_ 4), (1, u "java/lang/Object"), (0, u "<init>"), (0, u "()V"), (7, .class_ 16), (1, u "java/util/Arrays"), (57, .class_ 76), (1, u "java/util/Arrays$NaturalOrder"), (36, .class_ 115), (1, u "java/util/Arrays$LegacyMergeSort"), (1, u "Z"), (21, u "copyOfRange"), (10, .methodref 151 152), (0, .class_ 153), (0, .nameAndType 154 155), (0, u "java/lang/System"), (0, u "arraycopy"), (0, u "(Ljava/lang/Object;ILjava/lang/Object;II)V"), (148, .methodref 305 306), (0, .class_ 307), (0, .nameAndType 308 309), (0, u "java/lang/Math"), (0, u "min"), (0, u "(II)I"), (29, .methodref 14 340), (0, .nameAndType 341 342), (0, u "copyOfRangeByte"), (0, u "([BII)[B"), (0, .methodref 14 344), (0, .nameAndType 345 346), (0, u "checkLength"), (0, u "(II)V"), (28, .class_ 376), (0, u "java/util/Arrays$ArrayList"), (68, u "$assertionsDisabled"), (269, u "MIN_ARRAY_SORT_GRAN"), (0, u "I"), (2, u "INSERTIONSORT_THRESHOLD"), (255, .class_ 976), (0, u "java/util/Arrays$ArrayItr")] 52

def k15m0 : Method := { name := "<init>", desc := "()V", sig := { parameters := [], returnType := none }, accessFlags := 2, code := none }
def k15c1 : Code := { maxStack := 4, maxLocals := 2, code := jdk_65_method_131_code, exceptionTable := #[], attributes := #[] }
def k15m1 : Method := { name := "checkLength", desc := "(II)V", sig := { parameters := [.int, .int], returnType := none }, accessFlags := 10, code := some k15c1 }
def k15c2 : Code := { maxStack := 3, maxLocals := 3, code := jdk_65_method_132_code, exceptionTable := #[], attributes := #[] }
def k15m2 : Method := { name := "copyOfRange", desc := "([BII)[B", sig := { parameters := [(.array .byte), .int, .int], returnType := some (.array .byte) }, accessFlags := 9, code := some k15c2 }
def k15c3 : Code := { maxStack := 6, maxLocals := 5, code := jdk_65_method_133_code, exceptionTable := #[], attributes := #[] }
def k15m3 : Method := { name := "copyOfRangeByte", desc := "([BII)[B", sig := { parameters := [(.array .byte), .int, .int], returnType := some (.array .byte) }, accessFlags := 10, code := some k15c3 }
/-- java/util/Arrays -/
def k15 : Class := { plain "java/util/Arrays" (some 0) with
  accessFlags := 49
  interfaces := #[]
  cf := some (fileOf pool15 14 #[.nestMembers #[975, 375, 113, 74]] #[{ accessFlags := 2, nameIndex := 5, descriptorIndex := 6, attributes := #[] }, { accessFlags := 10, nameIndex := 345, descriptorIndex := 346, attributes := #[] }, { accessFlags := 9, nameIndex := 139, descriptorIndex := 342, attributes := #[] }, { accessFlags := 10, nameIndex := 341, descriptorIndex := 342, attributes := #[] }] 49 2 #[] #[{ accessFlags := 26, nameIndex := 715, descriptorIndex := 716, attributes := #[] }, { accessFlags := 26, nameIndex := 719, descriptorIndex := 716, attributes := #[] }, { accessFlags := 4120, nameIndex := 445, descriptorIndex := 117, attributes := #[] }])
  fields := #[{ name := "MIN_ARRAY_SORT_GRAN", type := .int, accessFlags := 26, slot := 0, constantValue := 0 }, { name := "INSERTIONSORT_THRESHOLD", type := .int, accessFlags := 26, slot := 1, constantValue := 0 }, { name := "$assertionsDisabled", type := .boolean, accessFlags := 4120, slot := 2, constantValue := 0 }]
  methods := #[k15m0, k15m1, k15m2, k15m3]
  instanceTypes := #[]
  staticTypes := #[.int, .int, .boolean]
  resolved := Array.replicate 1029 none
  statics := none }

def pool16 : Array CpInfo := pool [(1, .class_ 2), (0, u "java/lang/Math"), (1, .class_ 6), (1, u "java/lang/Object"), (0, u "<init>"), (0, u "()V"), (89, .class_ 100), (1, u "java/lang/Math$RandomNumberGeneratorHolder"), (71, u "negativeZeroFloatBits"), (0, u "J"), (2, u "negativeZeroDoubleBits"), (24, u "min"), (43, u "$assertionsDisabled"), (0, u "Z"), (88, u "(II)I"), (2, u "twoToTheDoubleScaleDown"), (0, u "D"), (4, u "twoToTheDoubleScaleUp"), (9, u "E"), (3, u "PI"), (2, u "TAU"), (2, u "DEGREES_TO_RADIANS"), (0, u "RADIANS_TO_DEGREES")] 94

def k16m0 : Method := { name := "<init>", desc := "()V", sig := { parameters := [], returnType := none }, accessFlags := 2, code := none }
def k16c1 : Code := { maxStack := 2, maxLocals := 2, code := jdk_29_method_69_code, exceptionTable := #[], attributes := #[] }
def k16m1 : Method := { name := "min", desc := "(II)I", sig := { parameters := [.int, .int], returnType := some .int }, accessFlags := 9, code := some k16c1 }
/-- java/lang/Math -/
def k16 : Class := { plain "java/lang/Math" (some 0) with
  accessFlags := 49
  interfaces := #[]
  cf := some (fileOf pool16 1 #[.nestMembers #[98]] #[{ accessFlags := 2, nameIndex := 7, descriptorIndex := 8, attributes := #[] }, { accessFlags := 9, nameIndex := 201, descriptorIndex := 335, attributes := #[] }] 49 4 #[] #[{ accessFlags := 25, nameIndex := 354, descriptorIndex := 339, attributes := #[] }, { accessFlags := 25, nameIndex := 358, descriptorIndex := 339, attributes := #[] }, { accessFlags := 25, nameIndex := 361, descriptorIndex := 339, attributes := #[] }, { accessFlags := 26, nameIndex := 364, descriptorIndex := 339, attributes := #[] }, { accessFlags := 26, nameIndex := 365, descriptorIndex := 339, attributes := #[] }, { accessFlags := 26, nameIndex := 172, descriptorIndex := 173, attributes := #[] }, { accessFlags := 26, nameIndex := 176, descriptorIndex := 173, attributes := #[] }, { accessFlags := 8, nameIndex := 344, descriptorIndex := 339, attributes := #[] }, { accessFlags := 8, nameIndex := 338, descriptorIndex := 339, attributes := #[] }, { accessFlags := 4120, nameIndex := 245, descriptorIndex := 246, attributes := #[] }])
  fields := #[{ name := "E", type := .double, accessFlags := 25, slot := 0, constantValue := 0 }, { name := "PI", type := .double, accessFlags := 25, slot := 1, constantValue := 0 }, { name := "TAU", type := .double, accessFlags := 25, slot := 2, constantValue := 0 }, { name := "DEGREES_TO_RADIANS", type := .double, accessFlags := 26, slot := 3, constantValue := 0 }, { name := "RADIANS_TO_DEGREES", type := .double, accessFlags := 26, slot := 4, constantValue := 0 }, { name := "negativeZeroFloatBits", type := .long, accessFlags := 26, slot := 5, constantValue := 0 }, { name := "negativeZeroDoubleBits", type := .long, accessFlags := 26, slot := 6, constantValue := 0 }, { name := "twoToTheDoubleScaleUp", type := .double, accessFlags := 8, slot := 7, constantValue := 0 }, { name := "twoToTheDoubleScaleDown", type := .double, accessFlags := 8, slot := 8, constantValue := 0 }, { name := "$assertionsDisabled", type := .boolean, accessFlags := 4120, slot := 9, constantValue := 0 }]
  methods := #[k16m0, k16m1]
  instanceTypes := #[]
  staticTypes := #[.double, .double, .double, .double, .double, .long, .long, .double, .double, .boolean]
  resolved := Array.replicate 460 none
  statics := none }

def pool17 : Array CpInfo := pool [(1, .class_ 2), (0, u "java/lang/String"), (1, .class_ 6), (1, u "java/lang/Object"), (0, u "<init>"), (0, u "()V"), (0, .methodref 1 10), (0, .nameAndType 11 12), (0, u "checkIndex"), (0, u "(II)V"), (1, .class_ 16), (1, u "java/lang/StringLatin1"), (36, u "([BI)C"), (67, u "$assertionsDisabled"), (0, u "Z"), (98, .class_ 223), (1, u "java/lang/StringLatin1$LinesSpliterator"), (28, u "charAt"), (137, .class_ 391), (0, u "java/lang/StringLatin1$CharsSpliterator")] 3

def k17m0 : Method := { name := "<init>", desc := "()V", sig := { parameters := [], returnType := none }, accessFlags := 0, code := none }
def k17c1 : Code := { maxStack := 2, maxLocals := 2, code := jdk_43_method_2_code, exceptionTable := #[], attributes := #[] }
def k17m1 : Method := { name := "charAt", desc := "([BI)C", sig := { parameters := [(.array .byte), .int], returnType := some .char }, accessFlags := 9, code := some k17c1 }
/-- java/lang/StringLatin1 -/
def k17 : Class := { plain "java/lang/StringLatin1" (some 0) with
  accessFlags := 48
  interfaces := #[]
  cf := some (fileOf pool17 14 #[.nestMembers #[390, 221]] #[{ accessFlags := 0, nameIndex := 7, descriptorIndex := 8, attributes := #[] }, { accessFlags := 9, nameIndex := 252, descriptorIndex := 53, attributes := #[] }] 48 4 #[] #[{ accessFlags := 4120, nameIndex := 121, descriptorIndex := 122, attributes := #[] }])
  fields := #[{ name := "$assertionsDisabled", type := .boolean, accessFlags := 4120, slot := 0, constantValue := 0 }]
  methods := #[k17m0, k17m1]
  instanceTypes := #[]
  staticTypes := #[.boolean]
  resolved := Array.replicate 395 none
  statics := none }

def pool18 : Array CpInfo := pool [(2, .class_ 4), (1, u "java/lang/Object"), (0, u "<init>"), (0, u "()V"), (17, .class_ 26), (1, u "jdk/internal/util/Preconditions"), (6, u "checkIndex"), (21, .class_ 56), (0, u "jdk/internal/util/Preconditions$4"), (57, .class_ 115), (0, u "jdk/internal/util/Preconditions$1"), (7, u "SIOOBE_FORMATTER"), (0, u "Ljava/util/function/BiFunction;"), (0, .class_ 126), (0, u "jdk/internal/util/Preconditions$2"), (3, u "AIOOBE_FORMATTER"), (0, .class_ 132), (0, u "jdk/internal/util/Preconditions$3"), (3, u "IOOBE_FORMATTER"), (41, u "(IILjava/util/function/BiFunction;)I")] 15

def k18m0 : Method := { name := "<init>", desc := "()V", sig := { parameters := [], returnType := none }, accessFlags := 1, code := none }
def k18c1 : Code := { maxStack := 3, maxLocals := 3, code := jdk_41_method_11_code, exceptionTable := #[], attributes := #[] }
def k18m1 : Method := { name := "checkIndex", desc := "(IILjava/util/function/BiFunction;)I", sig := { parameters := [.int, .int, (.object "java/util/function/BiFunction")], returnType := some .int }, accessFlags := 9, code := some k18c1 }
/-- jdk/internal/util/Preconditions -/
def k18 : Class := { plain "jdk/internal/util/Preconditions" (some 0) with
  accessFlags := 33
  interfaces := #[]
  cf := some (fileOf pool18 24 #[.nestMembers #[55, 131, 125, 114]] #[{ accessFlags := 1, nameIndex := 5, descriptorIndex := 6, attributes := #[] }, { accessFlags := 9, nameIndex := 33, descriptorIndex := 178, attributes := #[] }] 33 2 #[] #[{ accessFlags := 25, nameIndex := 123, descriptorIndex := 124, attributes := #[] }, { accessFlags := 25, nameIndex := 130, descriptorIndex := 124, attributes := #[] }, { accessFlags := 25, nameIndex := 136, descriptorIndex := 124, attributes := #[] }])
  fields := #[{ name := "SIOOBE_FORMATTER", type := (.object "java/util/function/BiFunction"), accessFlags := 25, slot := 0, constantValue := 0 }, { name := "AIOOBE_FORMATTER", type := (.object "java/util/function/BiFunction"), accessFlags := 25, slot := 1, constantValue := 0 }, { name := "IOOBE_FORMATTER", type := (.object "java/util/function/BiFunction"), accessFlags := 25, slot := 2, constantValue := 0 }]
  methods := #[k18m0, k18m1]
  instanceTypes := #[]
  staticTypes := #[(.object "java/util/function/BiFunction"), (.object "java/util/function/BiFunction"), (.object "java/util/function/BiFunction")]
  resolved := Array.replicate 194 none
  statics := some 1 }

def pool19 : Array CpInfo := pool [(9, u "<init>"), (6, .class_ 18), (1, u "java/lang/Object"), (0, u "()V"), (1, .class_ 23), (1, u "jdk/internal/util/ArraysSupport"), (0, u "LOG2_ARRAY_LONG_INDEX_SCALE"), (0, u "I"), (2, u "U"), (0, u "Ljdk/internal/misc/Unsafe;"), (8, u "BIG_ENDIAN"), (0, u "Z"), (8, u "LOG2_BYTE_BIT_SIZE"), (4, u "LOG2_ARRAY_INT_INDEX_SCALE"), (54, u "JLA"), (0, u "Ljdk/internal/access/JavaLangAccess;"), (11, u "LOG2_ARRAY_BOOLEAN_INDEX_SCALE"), (9, u "LOG2_ARRAY_BYTE_INDEX_SCALE"), (5, u "LOG2_ARRAY_CHAR_INDEX_SCALE"), (5, u "LOG2_ARRAY_SHORT_INDEX_SCALE"), (18, u "LOG2_ARRAY_FLOAT_INDEX_SCALE"), (24, u "LOG2_ARRAY_DOUBLE_INDEX_SCALE"), (89, u "T_BOOLEAN"), (2, u "T_CHAR"), (1, u "T_FLOAT"), (1, u "T_DOUBLE"), (1, u "T_BYTE"), (1, u "T_SHORT"), (1, u "T_INT"), (1, u "T_LONG"), (1, u "SOFT_MAX_ARRAY_LENGTH")] 83

def k19m0 : Method := { name := "<init>", desc := "()V", sig := { parameters := [], returnType := none }, accessFlags := 2, code := none }
/-- jdk/internal/util/ArraysSupport -/
def k19 : Class := { plain "jdk/internal/util/ArraysSupport" (some 0) with
  accessFlags := 33
  interfaces := #[]
  cf := some (fileOf pool19 21 #[] #[{ accessFlags := 2, nameIndex := 9, descriptorIndex := 19, attributes := #[] }] 33 16 #[] #[{ accessFlags := 24, nameIndex := 28, descriptorIndex := 29, attributes := #[] }, { accessFlags := 26, nameIndex := 38, descriptorIndex := 39, attributes := #[] }, { accessFlags := 25, nameIndex := 121, descriptorIndex := 25, attributes := #[] }, { accessFlags := 25, nameIndex := 131, descriptorIndex := 25, attributes := #[] }, { accessFlags := 25, nameIndex := 137, descriptorIndex := 25, attributes := #[] }, { accessFlags := 25, nameIndex := 143, descriptorIndex := 25, attributes := #[] }, { accessFlags := 25, nameIndex := 53, descriptorIndex := 25, attributes := #[] }, { accessFlags := 25, nameIndex := 24, descriptorIndex := 25, attributes := #[] }, { accessFlags := 25, nameIndex := 162, descriptorIndex := 25, attributes := #[] }, { accessFlags := 25, nameIndex := 187, descriptorIndex := 25, attributes := #[] }, { accessFlags := 26, nameIndex := 48, descriptorIndex := 25, attributes := #[] }, { accessFlags := 25, nameIndex := 277, descriptorIndex := 25, attributes := #[] }, { accessFlags := 25, nameIndex := 280, descriptorIndex := 25, attributes := #[] }, { accessFlags := 25, nameIndex := 282, descriptorIndex := 25, attributes := #[] }, { accessFlags := 25, nameIndex := 284, descriptorIndex := 25, attributes := #[] }, { accessFlags := 25, nameIndex := 286, descriptorIndex := 25, attributes := #[] }, { accessFlags := 25, nameIndex := 288, descriptorIndex := 25, attributes := #[] }, { accessFlags := 25, nameIndex := 290, descriptorIndex := 25, attributes := #[] }, { accessFlags := 25, nameIndex := 292, descriptorIndex := 25, attributes := #[] }, { accessFlags := 26, nameIndex := 108, descriptorIndex := 109, attributes := #[] }, { accessFlags := 25, nameIndex := 294, descriptorIndex := 25, attributes := #[] }])
  fields := #[{ name := "U", type := (.object "jdk/internal/misc/Unsafe"), accessFlags := 24, slot := 0, constantValue := 0 }, { name := "BIG_ENDIAN", type := .boolean, accessFlags := 26, slot := 1, constantValue := 0 }, { name := "LOG2_ARRAY_BOOLEAN_INDEX_SCALE", type := .int, accessFlags := 25, slot := 2, constantValue := 0 }, { name := "LOG2_ARRAY_BYTE_INDEX_SCALE", type := .int, accessFlags := 25, slot := 3, constantValue := 0 }, { name := "LOG2_ARRAY_CHAR_INDEX_SCALE", type := .int, accessFlags := 25, slot := 4, constantValue := 0 }, { name := "LOG2_ARRAY_SHORT_INDEX_SCALE", type := .int, accessFlags := 25, slot := 5, constantValue := 0 }, { name := "LOG2_ARRAY_INT_INDEX_SCALE", type := .int, accessFlags := 25, slot := 6, constantValue := 0 }, { name := "LOG2_ARRAY_LONG_INDEX_SCALE", type := .int, accessFlags := 25, slot := 7, constantValue := 0 }, { name := "LOG2_ARRAY_FLOAT_INDEX_SCALE", type := .int, accessFlags := 25, slot := 8, constantValue := 0 }, { name := "LOG2_ARRAY_DOUBLE_INDEX_SCALE", type := .int, accessFlags := 25, slot := 9, constantValue := 0 }, { name := "LOG2_BYTE_BIT_SIZE", type := .int, accessFlags := 26, slot := 10, constantValue := 0 }, { name := "T_BOOLEAN", type := .int, accessFlags := 25, slot := 11, constantValue := 0 }, { name := "T_CHAR", type := .int, accessFlags := 25, slot := 12, constantValue := 0 }, { name := "T_FLOAT", type := .int, accessFlags := 25, slot := 13, constantValue := 0 }, { name := "T_DOUBLE", type := .int, accessFlags := 25, slot := 14, constantValue := 0 }, { name := "T_BYTE", type := .int, accessFlags := 25, slot := 15, constantValue := 0 }, { name := "T_SHORT", type := .int, accessFlags := 25, slot := 16, constantValue := 0 }, { name := "T_INT", type := .int, accessFlags := 25, slot := 17, constantValue := 0 }, { name := "T_LONG", type := .int, accessFlags := 25, slot := 18, constantValue := 0 }, { name := "JLA", type := (.object "jdk/internal/access/JavaLangAccess"), accessFlags := 26, slot := 19, constantValue := 0 }, { name := "SOFT_MAX_ARRAY_LENGTH", type := .int, accessFlags := 25, slot := 20, constantValue := 0 }]
  methods := #[k19m0]
  instanceTypes := #[]
  staticTypes := #[(.object "jdk/internal/misc/Unsafe"), .boolean, .int, .int, .int, .int, .int, .int, .int, .int, .int, .int, .int, .int, .int, .int, .int, .int, .int, (.object "jdk/internal/access/JavaLangAccess"), .int]
  resolved := Array.replicate 378 none
  statics := none }

def pool20 : Array CpInfo := pool [(1, u "java/lang/Cloneable"), (0, .class_ 1), (0, u "java/lang/Object"), (0, .class_ 3)] 3

/-- java/lang/Cloneable -/
def k20 : Class := { plain "java/lang/Cloneable" (some 0) with
  accessFlags := 1537
  interfaces := #[]
  cf := some (fileOf pool20 2 #[] #[] 1537 4 #[] #[])
  fields := #[]
  methods := #[]
  instanceTypes := #[]
  staticTypes := #[]
  resolved := Array.replicate 8 none
  statics := none }

/-- the primitive byte -/
def k21 : Class := { plain "byte" none with kind := .primitive 'B', accessFlags := 0x411 }
/-- [B -/
def k22 : Class := { plain "[B" (some 0) with kind := .array 21 .byte, interfaces := #[20, 2], accessFlags := 1041 }

/-- the primitive char -/
def k23 : Class := { plain "char" none with kind := .primitive 'C', accessFlags := 0x411 }
/-- [C -/
def k24 : Class := { plain "[C" (some 0) with kind := .array 23 .char, interfaces := #[20, 2], accessFlags := 1041 }

/-- the primitive int -/
def k25 : Class := { plain "int" none with kind := .primitive 'I', accessFlags := 0x411 }
/-- [I -/
def k26 : Class := { plain "[I" (some 0) with kind := .array 25 .int, interfaces := #[20, 2], accessFlags := 1041 }

def heap : Heap := #[{ cls := 7, slots := #[.long 0, .int 1, .null, .int 0, .null, .int 0, .int 0], vm := .statics 7 },
  { cls := 18, slots := #[.null, .null, .null], vm := .statics 18 }]
def classes : Array Class := #[k0, k1, k2, k3, k4, k5, k6, k7, k8, k9, k10, k11, k12, k13, k14, k15, k16, k17, k18, k19, k20, k21, k22, k23, k24, k25, k26]
def interned : List (Array UInt16 × Addr) := []
def slotsUsed : Nat := 10
def theMethod : MethodId := ⟨1, 2⟩
def args0 : Array Value := #[.int 5, .int 65, .int 66, .int 67, .int 68]
def aboutOver (below : List Frame) : State where
  vm := { classes := classes, interned := interned.toArray }
  heap := heap
  slotsUsed := slotsUsed
  threads := #[{ frames := .invoking theMethod args0 :: below }]
def below0 : List Frame := [.native { method := ⟨0, 0⟩, args := #[] }]
def about1 : State := aboutOver below0
def p0 : Program := .bare "" "" ""
def e0 : Env := launch0.env 0 0 0
theorem w_frames : about1.frames = Frame.invoking theMethod args0 :: below0 := rfl
set_option maxRecDepth 65536 in
theorem w_args : argsFit about1.vm theMethod args0 = true := by decide +kernel
set_option maxRecDepth 65536 in
theorem w_heap : heapFits about1 = true := by decide +kernel
set_option maxRecDepth 65536 in
theorem w_runnable : about1.curStatus? = some .runnable := by decide +kernel
set_option maxRecDepth 65536 in
theorem w_alone : about1.alone = true := by decide +kernel
set_option maxRecDepth 65536 in
theorem w_named : about1.methodNamed? x = some theMethod := by decide +kernel
set_option maxRecDepth 65536 in
theorem w_hears : about1.hears theMethod below0 = true := by decide +kernel
set_option maxRecDepth 65536 in
theorem w_ripe : about1.ripe theMethod args0 below0 = true := by decide +kernel
theorem w_running : about1.status = .running := rfl
set_option maxRecDepth 65536 in
theorem w_room : about1.hasRoom e0.platform room_1 = true :=
  launch0.hasRoom_least _ room_1 (by decide +kernel) (by decide +kernel) (by decide +kernel) (by decide +kernel) (by decide +kernel) (by decide +kernel)
theorem allAtoms_all (ts : List Jvm.Cond) (a : Array Jvm.Value) (st : Jvm.State) : (allAtoms ts).before a st = ts.all (fun c => c.before a st) := by
  induction ts with
  | nil => rfl
  | cons c t ih =>
    show (Jvm.Cond.and c (allAtoms t)).before a st = _
    rw [Jvm.Cond.before_and, ih, List.all_cons]
def words1 : List Jvm.Cond := Jvm.Cond.code x code maxLocals ret :: tables_1
/-- a 'code' word, met by the world's own term for the bytes: nothing is compared byte by byte -/
theorem code_word {y : MethodName} {bytes : ByteArray} {mx : Nat} {rt : Option FieldType} {a : Array Value} {s : State} {m : MethodId} {meth : Method} {c : Code} (h1 : s.methodNamed? y = some m) (h2 : s.vm.method? m = some meth) (h3 : meth.code = some c) (h4 : c.code = bytes)
    (h5 : (c.maxLocals == mx && c.exceptionTable.isEmpty && decide (c.maxStack ≤ mostOperands) && decide (meth.sig.returnType = rt) && !meth.locks && decide (parseMethodDescriptor y.desc = some meth.sig)) = true) : (Jvm.Cond.code y bytes mx rt).before a s = true := by
  simp only [Bool.and_eq_true, beq_iff_eq, Bool.not_eq_true', decide_eq_true_eq] at h5
  obtain ⟨⟨⟨⟨⟨g1, g2⟩, g3⟩, g4⟩, g5⟩, g6⟩ := h5
  simp [Cond.before, Cond.holds, Cond.value, h1, h2, h3, h4, g1, g2, g3, g4, g5, g6]
def isCode : Jvm.Cond → Bool
  | .code _ _ _ _ => true
  | _ => false
theorem all_split {L : List Jvm.Cond} {P : Jvm.Cond → Bool} (h1 : L.all (fun c => isCode c || P c) = true) (h2 : ∀ c ∈ L.filter isCode, P c = true) : L.all P = true := by
  refine List.all_eq_true.mpr fun c hc => ?_
  have h := List.all_eq_true.mp h1 c hc
  rcases Bool.eq_false_or_eq_true (isCode c) with hi | hi
  · exact h2 c (List.mem_filter.mpr ⟨hc, hi⟩)
  · simpa [hi] using h
set_option maxRecDepth 65536 in
theorem w_c0 : (Jvm.Cond.code x code maxLocals ret).before args0 about1 = true := code_word (m := ⟨1, 2⟩) (meth := k1m2) (c := k1c2) (by decide +kernel) rfl rfl rfl (by decide +kernel)
set_option maxRecDepth 65536 in
theorem w_c1 : (Jvm.Cond.code ({ cls := "com/example/bylaw/bylaw/PolicyProblemToStringPinLaw", name := "mk", desc := "(ICC)Ljava/lang/String;" } : Jvm.MethodName) method_2_code (3 : Nat) (Option.some (Jvm.ClassFile.FieldType.object "java/lang/String"))).before args0 about1 = true := code_word (m := ⟨1, 1⟩) (meth := k1m1) (c := k1c1) (by decide +kernel) rfl rfl rfl (by decide +kernel)
set_option maxRecDepth 65536 in
theorem w_c2 : (Jvm.Cond.code ({ cls := "java/lang/String", name := "<init>", desc := "([C)V" } : Jvm.MethodName) jdk_42_method_3_code (2 : Nat) (Option.none : Option Jvm.ClassFile.FieldType)).before args0 about1 = true := code_word (m := ⟨7, 1⟩) (meth := k7m1) (c := k7c1) (by decide +kernel) rfl rfl rfl (by decide +kernel)
set_option maxRecDepth 65536 in
theorem w_c3 : (Jvm.Cond.code ({ cls := "java/lang/String", name := "<init>", desc := "([CIILjava/lang/Void;)V" } : Jvm.MethodName) jdk_42_method_149_code (6 : Nat) (Option.none : Option Jvm.ClassFile.FieldType)).before args0 about1 = true := code_word (m := ⟨7, 8⟩) (meth := k7m8) (c := k7c8) (by decide +kernel) rfl rfl rfl (by decide +kernel)
set_option maxRecDepth 65536 in
theorem w_c4 : (Jvm.Cond.code ({ cls := "java/lang/Object", name := "<init>", desc := "()V" } : Jvm.MethodName) object_method_1_code (1 : Nat) (Option.none : Option Jvm.ClassFile.FieldType)).before args0 about1 = true := code_word (m := ⟨0, 0⟩) (meth := k0m0) (c := k0c0) (by decide +kernel) rfl rfl rfl (by decide +kernel)
set_option maxRecDepth 65536 in
theorem w_c5 : (Jvm.Cond.code ({ cls := "com/example/bylaw/bylaw/PolicyProblem", name := "<init>", desc := "(Ljava/lang/String;Ljava/lang/String;)V" } : Jvm.MethodName) prog_7_method_1_code (3 : Nat) (Option.none : Option Jvm.ClassFile.FieldType)).before args0 about1 = true := code_word (m := ⟨9, 0⟩) (meth := k9m0) (c := k9c0) (by decide +kernel) rfl rfl rfl (by decide +kernel)
set_option maxRecDepth 65536 in
theorem w_c6 : (Jvm.Cond.code ({ cls := "java/lang/Record", name := "<init>", desc := "()V" } : Jvm.MethodName) jdk_30_method_1_code (1 : Nat) (Option.none : Option Jvm.ClassFile.FieldType)).before args0 about1 = true := code_word (m := ⟨8, 0⟩) (meth := k8m0) (c := k8c0) (by decide +kernel) rfl rfl rfl (by decide +kernel)
set_option maxRecDepth 65536 in
theorem w_c7 : (Jvm.Cond.code ({ cls := "com/example/bylaw/bylaw/PolicyProblem", name := "toString", desc := "()Ljava/lang/String;" } : Jvm.MethodName) prog_7_method_2_code (1 : Nat) (Option.some (Jvm.ClassFile.FieldType.object "java/lang/String"))).before args0 about1 = true := code_word (m := ⟨9, 1⟩) (meth := k9m1) (c := k9c1) (by decide +kernel) rfl rfl rfl (by decide +kernel)
set_option maxRecDepth 65536 in
theorem w_c8 : (Jvm.Cond.code ({ cls := "java/lang/String", name := "isEmpty", desc := "()Z" } : Jvm.MethodName) jdk_42_method_55_code (1 : Nat) (Option.some Jvm.ClassFile.FieldType.boolean)).before args0 about1 = true := code_word (m := ⟨7, 4⟩) (meth := k7m4) (c := k7c4) (by decide +kernel) rfl rfl rfl (by decide +kernel)
set_option maxRecDepth 65536 in
theorem w_c9 : (Jvm.Cond.code ({ cls := "java/lang/String", name := "equals", desc := "(Ljava/lang/Object;)Z" } : Jvm.MethodName) jdk_42_method_66_code (3 : Nat) (Option.some Jvm.ClassFile.FieldType.boolean)).before args0 about1 = true := code_word (m := ⟨7, 6⟩) (meth := k7m6) (c := k7c6) (by decide +kernel) rfl rfl rfl (by decide +kernel)
set_option maxRecDepth 65536 in
theorem w_c10 : (Jvm.Cond.code ({ cls := "java/lang/StringUTF16", name := "compress", desc := "([CII)[B" } : Jvm.MethodName) jdk_52_method_16_code (6 : Nat) (Option.some (Jvm.ClassFile.FieldType.array Jvm.ClassFile.FieldType.byte))).before args0 about1 = true := code_word (m := ⟨10, 2⟩) (meth := k10m2) (c := k10c2) (by decide +kernel) rfl rfl rfl (by decide +kernel)
set_option maxRecDepth 65536 in
theorem w_c11 : (Jvm.Cond.code ({ cls := "java/lang/StringUTF16", name := "compress", desc := "([CI[BII)I" } : Jvm.MethodName) jdk_52_method_21_code (7 : Nat) (Option.some Jvm.ClassFile.FieldType.int)).before args0 about1 = true := code_word (m := ⟨10, 3⟩) (meth := k10m3) (c := k10c3) (by decide +kernel) rfl rfl rfl (by decide +kernel)
set_option maxRecDepth 65536 in
theorem w_c12 : (Jvm.Cond.code ({ cls := "java/lang/StringUTF16", name := "coderFromArrayLen", desc := "([BI)B" } : Jvm.MethodName) jdk_52_method_15_code (2 : Nat) (Option.some Jvm.ClassFile.FieldType.byte)).before args0 about1 = true := code_word (m := ⟨10, 1⟩) (meth := k10m1) (c := k10c1) (by decide +kernel) rfl rfl rfl (by decide +kernel)
set_option maxRecDepth 65536 in
theorem w_c13 : (Jvm.Cond.code ({ cls := "java/lang/StringBuilder", name := "<init>", desc := "()V" } : Jvm.MethodName) jdk_67_method_1_code (1 : Nat) (Option.none : Option Jvm.ClassFile.FieldType)).before args0 about1 = true := code_word (m := ⟨13, 0⟩) (meth := k13m0) (c := k13c0) (by decide +kernel) rfl rfl rfl (by decide +kernel)
set_option maxRecDepth 65536 in
theorem w_c14 : (Jvm.Cond.code ({ cls := "java/lang/AbstractStringBuilder", name := "<init>", desc := "(I)V" } : Jvm.MethodName) jdk_68_method_2_code (2 : Nat) (Option.none : Option Jvm.ClassFile.FieldType)).before args0 about1 = true := code_word (m := ⟨12, 1⟩) (meth := k12m1) (c := k12c1) (by decide +kernel) rfl rfl rfl (by decide +kernel)
set_option maxRecDepth 65536 in
theorem w_c15 : (Jvm.Cond.code ({ cls := "java/lang/StringBuilder", name := "append", desc := "(Ljava/lang/String;)Ljava/lang/StringBuilder;" } : Jvm.MethodName) jdk_67_method_7_code (2 : Nat) (Option.some (Jvm.ClassFile.FieldType.object "java/lang/StringBuilder"))).before args0 about1 = true := code_word (m := ⟨13, 1⟩) (meth := k13m1) (c := k13c1) (by decide +kernel) rfl rfl rfl (by decide +kernel)
set_option maxRecDepth 65536 in
theorem w_c16 : (Jvm.Cond.code ({ cls := "java/lang/AbstractStringBuilder", name := "append", desc := "(Ljava/lang/String;)Ljava/lang/AbstractStringBuilder;" } : Jvm.MethodName) jdk_68_method_22_code (3 : Nat) (Option.some (Jvm.ClassFile.FieldType.object "java/lang/AbstractStringBuilder"))).before args0 about1 = true := code_word (m := ⟨12, 4⟩) (meth := k12m4) (c := k12c4) (by decide +kernel) rfl rfl rfl (by decide +kernel)
set_option maxRecDepth 65536 in
theorem w_c17 : (Jvm.Cond.code ({ cls := "java/lang/String", name := "length", desc := "()I" } : Jvm.MethodName) jdk_42_method_54_code (1 : Nat) (Option.some Jvm.ClassFile.FieldType.int)).before args0 about1 = true := code_word (m := ⟨7, 3⟩) (meth := k7m3) (c := k7c3) (by decide +kernel) rfl rfl rfl (by decide +kernel)
set_option maxRecDepth 65536 in
theorem w_c18 : (Jvm.Cond.code ({ cls := "java/lang/String", name := "coder", desc := "()B" } : Jvm.MethodName) jdk_42_method_152_code (1 : Nat) (Option.some Jvm.ClassFile.FieldType.byte)).before args0 about1 = true := code_word (m := ⟨7, 10⟩) (meth := k7m10) (c := k7c10) (by decide +kernel) rfl rfl rfl (by decide +kernel)
set_option maxRecDepth 65536 in
theorem w_c19 : (Jvm.Cond.code ({ cls := "java/lang/AbstractStringBuilder", name := "ensureCapacityInternal", desc := "(I)V" } : Jvm.MethodName) jdk_68_method_9_code (3 : Nat) (Option.none : Option Jvm.ClassFile.FieldType)).before args0 about1 = true := code_word (m := ⟨12, 3⟩) (meth := k12m3) (c := k12c3) (by decide +kernel) rfl rfl rfl (by decide +kernel)
set_option maxRecDepth 65536 in
theorem w_c20 : (Jvm.Cond.code ({ cls := "java/lang/AbstractStringBuilder", name := "putStringAt", desc := "(ILjava/lang/String;)V" } : Jvm.MethodName) jdk_68_method_73_code (3 : Nat) (Option.none : Option Jvm.ClassFile.FieldType)).before args0 about1 = true := code_word (m := ⟨12, 8⟩) (meth := k12m8) (c := k12c8) (by decide +kernel) rfl rfl rfl (by decide +kernel)
set_option maxRecDepth 65536 in
theorem w_c21 : (Jvm.Cond.code ({ cls := "java/lang/AbstractStringBuilder", name := "inflateIfNeededFor", desc := "(Ljava/lang/String;)V" } : Jvm.MethodName) jdk_68_method_71_code (2 : Nat) (Option.none : Option Jvm.ClassFile.FieldType)).before args0 about1 = true := code_word (m := ⟨12, 7⟩) (meth := k12m7) (c := k12c7) (by decide +kernel) rfl rfl rfl (by decide +kernel)
set_option maxRecDepth 65536 in
theorem w_c22 : (Jvm.Cond.code ({ cls := "java/lang/String", name := "getBytes", desc := "([BIB)V" } : Jvm.MethodName) jdk_42_method_147_code (4 : Nat) (Option.none : Option Jvm.ClassFile.FieldType)).before args0 about1 = true := code_word (m := ⟨7, 7⟩) (meth := k7m7) (c := k7c7) (by decide +kernel) rfl rfl rfl (by decide +kernel)
set_option maxRecDepth 65536 in
theorem w_c23 : (Jvm.Cond.code ({ cls := "java/lang/StringBuilder", name := "toString", desc := "()Ljava/lang/String;" } : Jvm.MethodName) jdk_67_method_42_code (1 : Nat) (Option.some (Jvm.ClassFile.FieldType.object "java/lang/String"))).before args0 about1 = true := code_word (m := ⟨13, 2⟩) (meth := k13m2) (c := k13c2) (by decide +kernel) rfl rfl rfl (by decide +kernel)
set_option maxRecDepth 65536 in
theorem w_c24 : (Jvm.Cond.code ({ cls := "java/lang/String", name := "<init>", desc := "(Ljava/lang/StringBuilder;)V" } : Jvm.MethodName) jdk_42_method_53_code (2 : Nat) (Option.none : Option Jvm.ClassFile.FieldType)).before args0 about1 = true := code_word (m := ⟨7, 2⟩) (meth := k7m2) (c := k7c2) (by decide +kernel) rfl rfl rfl (by decide +kernel)
set_option maxRecDepth 65536 in
theorem w_c25 : (Jvm.Cond.code ({ cls := "java/lang/String", name := "<init>", desc := "(Ljava/lang/AbstractStringBuilder;Ljava/lang/Void;)V" } : Jvm.MethodName) jdk_42_method_150_code (5 : Nat) (Option.none : Option Jvm.ClassFile.FieldType)).before args0 about1 = true := code_word (m := ⟨7, 9⟩) (meth := k7m9) (c := k7c9) (by decide +kernel) rfl rfl rfl (by decide +kernel)
set_option maxRecDepth 65536 in
theorem w_c26 : (Jvm.Cond.code ({ cls := "java/lang/AbstractStringBuilder", name := "getValue", desc := "()[B" } : Jvm.MethodName) jdk_68_method_64_code (1 : Nat) (Option.some (Jvm.ClassFile.FieldType.array Jvm.ClassFile.FieldType.byte))).before args0 about1 = true := code_word (m := ⟨12, 5⟩) (meth := k12m5) (c := k12c5) (by decide +kernel) rfl rfl rfl (by decide +kernel)
set_option maxRecDepth 65536 in
theorem w_c27 : (Jvm.Cond.code ({ cls := "java/lang/StringBuilder", name := "length", desc := "()I" } : Jvm.MethodName) jdk_67_method_93_code (1 : Nat) (Option.some Jvm.ClassFile.FieldType.int)).before args0 about1 = true := code_word (m := ⟨13, 3⟩) (meth := k13m3) (c := k13c3) (by decide +kernel) rfl rfl rfl (by decide +kernel)
set_option maxRecDepth 65536 in
theorem w_c28 : (Jvm.Cond.code ({ cls := "java/lang/AbstractStringBuilder", name := "length", desc := "()I" } : Jvm.MethodName) jdk_68_method_6_code (1 : Nat) (Option.some Jvm.ClassFile.FieldType.int)).before args0 about1 = true := code_word (m := ⟨12, 2⟩) (meth := k12m2) (c := k12c2) (by decide +kernel) rfl rfl rfl (by decide +kernel)
set_option maxRecDepth 65536 in
theorem w_c29 : (Jvm.Cond.code ({ cls := "java/lang/AbstractStringBuilder", name := "isLatin1", desc := "()Z" } : Jvm.MethodName) jdk_68_method_68_code (1 : Nat) (Option.some Jvm.ClassFile.FieldType.boolean)).before args0 about1 = true := code_word (m := ⟨12, 6⟩) (meth := k12m6) (c := k12c6) (by decide +kernel) rfl rfl rfl (by decide +kernel)
set_option maxRecDepth 65536 in
theorem w_c30 : (Jvm.Cond.code ({ cls := "java/util/Arrays", name := "copyOfRange", desc := "([BII)[B" } : Jvm.MethodName) jdk_65_method_132_code (3 : Nat) (Option.some (Jvm.ClassFile.FieldType.array Jvm.ClassFile.FieldType.byte))).before args0 about1 = true := code_word (m := ⟨15, 2⟩) (meth := k15m2) (c := k15c2) (by decide +kernel) rfl rfl rfl (by decide +kernel)
set_option maxRecDepth 65536 in
theorem w_c31 : (Jvm.Cond.code ({ cls := "java/util/Arrays", name := "copyOfRangeByte", desc := "([BII)[B" } : Jvm.MethodName) jdk_65_method_133_code (5 : Nat) (Option.some (Jvm.ClassFile.FieldType.array Jvm.ClassFile.FieldType.byte))).before args0 about1 = true := code_word (m := ⟨15, 3⟩) (meth := k15m3) (c := k15c3) (by decide +kernel) rfl rfl rfl (by decide +kernel)
set_option maxRecDepth 65536 in
theorem w_c32 : (Jvm.Cond.code ({ cls := "java/util/Arrays", name := "checkLength", desc := "(II)V" } : Jvm.MethodName) jdk_65_method_131_code (2 : Nat) (Option.none : Option Jvm.ClassFile.FieldType)).before args0 about1 = true := code_word (m := ⟨15, 1⟩) (meth := k15m1) (c := k15c1) (by decide +kernel) rfl rfl rfl (by decide +kernel)
set_option maxRecDepth 65536 in
theorem w_c33 : (Jvm.Cond.code ({ cls := "java/lang/Math", name := "min", desc := "(II)I" } : Jvm.MethodName) jdk_29_method_69_code (2 : Nat) (Option.some Jvm.ClassFile.FieldType.int)).before args0 about1 = true := code_word (m := ⟨16, 1⟩) (meth := k16m1) (c := k16c1) (by decide +kernel) rfl rfl rfl (by decide +kernel)
set_option maxRecDepth 65536 in
theorem w_c34 : (Jvm.Cond.code ({ cls := "java/lang/String", name := "charAt", desc := "(I)C" } : Jvm.MethodName) jdk_42_method_56_code (2 : Nat) (Option.some Jvm.ClassFile.FieldType.char)).before args0 about1 = true := code_word (m := ⟨7, 5⟩) (meth := k7m5) (c := k7c5) (by decide +kernel) rfl rfl rfl (by decide +kernel)
set_option maxRecDepth 65536 in
theorem w_c35 : (Jvm.Cond.code ({ cls := "java/lang/String", name := "isLatin1", desc := "()Z" } : Jvm.MethodName) jdk_42_method_154_code (1 : Nat) (Option.some Jvm.ClassFile.FieldType.boolean)).before args0 about1 = true := code_word (m := ⟨7, 11⟩) (meth := k7m11) (c := k7c11) (by decide +kernel) rfl rfl rfl (by decide +kernel)
set_option maxRecDepth 65536 in
theorem w_c36 : (Jvm.Cond.code ({ cls := "java/lang/StringLatin1", name := "charAt", desc := "([BI)C" } : Jvm.MethodName) jdk_43_method_2_code (2 : Nat) (Option.some Jvm.ClassFile.FieldType.char)).before args0 about1 = true := code_word (m := ⟨17, 1⟩) (meth := k17m1) (c := k17c1) (by decide +kernel) rfl rfl rfl (by decide +kernel)
set_option maxRecDepth 65536 in
theorem w_c37 : (Jvm.Cond.code ({ cls := "java/lang/String", name := "checkIndex", desc := "(II)V" } : Jvm.MethodName) jdk_42_method_155_code (2 : Nat) (Option.none : Option Jvm.ClassFile.FieldType)).before args0 about1 = true := code_word (m := ⟨7, 12⟩) (meth := k7m12) (c := k7c12) (by decide +kernel) rfl rfl rfl (by decide +kernel)
set_option maxRecDepth 65536 in
theorem w_c38 : (Jvm.Cond.code ({ cls := "jdk/internal/util/Preconditions", name := "checkIndex", desc := "(IILjava/util/function/BiFunction;)I" } : Jvm.MethodName) jdk_41_method_11_code (3 : Nat) (Option.some Jvm.ClassFile.FieldType.int)).before args0 about1 = true := code_word (m := ⟨18, 1⟩) (meth := k18m1) (c := k18c1) (by decide +kernel) rfl rfl rfl (by decide +kernel)
def codes1 : List Jvm.Cond := [Jvm.Cond.code x code maxLocals ret, Jvm.Cond.code ({ cls := "com/example/bylaw/bylaw/PolicyProblemToStringPinLaw", name := "mk", desc := "(ICC)Ljava/lang/String;" } : Jvm.MethodName) method_2_code (3 : Nat) (Option.some (Jvm.ClassFile.FieldType.object "java/lang/String")), Jvm.Cond.code ({ cls := "java/lang/String", name := "<init>", desc := "([C)V" } : Jvm.MethodName) jdk_42_method_3_code (2 : Nat) (Option.none : Option Jvm.ClassFile.FieldType), Jvm.Cond.code ({ cls := "java/lang/String", name := "<init>", desc := "([CIILjava/lang/Void;)V" } : Jvm.MethodName) jdk_42_method_149_code (6 : Nat) (Option.none : Option Jvm.ClassFile.FieldType), Jvm.Cond.code ({ cls := "java/lang/Object", name := "<init>", desc := "()V" } : Jvm.MethodName) object_method_1_code (1 : Nat) (Option.none : Option Jvm.ClassFile.FieldType), Jvm.Cond.code ({ cls := "com/example/bylaw/bylaw/PolicyProblem", name := "<init>", desc := "(Ljava/lang/String;Ljava/lang/String;)V" } : Jvm.MethodName) prog_7_method_1_code (3 : Nat) (Option.none : Option Jvm.ClassFile.FieldType), Jvm.Cond.code ({ cls := "java/lang/Record", name := "<init>", desc := "()V" } : Jvm.MethodName) jdk_30_method_1_code (1 : Nat) (Option.none : Option Jvm.ClassFile.FieldType), Jvm.Cond.code ({ cls := "com/example/bylaw/bylaw/PolicyProblem", name := "toString", desc := "()Ljava/lang/String;" } : Jvm.MethodName) prog_7_method_2_code (1 : Nat) (Option.some (Jvm.ClassFile.FieldType.object "java/lang/String")), Jvm.Cond.code ({ cls := "java/lang/String", name := "isEmpty", desc := "()Z" } : Jvm.MethodName) jdk_42_method_55_code (1 : Nat) (Option.some Jvm.ClassFile.FieldType.boolean), Jvm.Cond.code ({ cls := "java/lang/String", name := "equals", desc := "(Ljava/lang/Object;)Z" } : Jvm.MethodName) jdk_42_method_66_code (3 : Nat) (Option.some Jvm.ClassFile.FieldType.boolean), Jvm.Cond.code ({ cls := "java/lang/StringUTF16", name := "compress", desc := "([CII)[B" } : Jvm.MethodName) jdk_52_method_16_code (6 : Nat) (Option.some (Jvm.ClassFile.FieldType.array Jvm.ClassFile.FieldType.byte)), Jvm.Cond.code ({ cls := "java/lang/StringUTF16", name := "compress", desc := "([CI[BII)I" } : Jvm.MethodName) jdk_52_method_21_code (7 : Nat) (Option.some Jvm.ClassFile.FieldType.int), Jvm.Cond.code ({ cls := "java/lang/StringUTF16", name := "coderFromArrayLen", desc := "([BI)B" } : Jvm.MethodName) jdk_52_method_15_code (2 : Nat) (Option.some Jvm.ClassFile.FieldType.byte), Jvm.Cond.code ({ cls := "java/lang/StringBuilder", name := "<init>", desc := "()V" } : Jvm.MethodName) jdk_67_method_1_code (1 : Nat) (Option.none : Option Jvm.ClassFile.FieldType), Jvm.Cond.code ({ cls := "java/lang/AbstractStringBuilder", name := "<init>", desc := "(I)V" } : Jvm.MethodName) jdk_68_method_2_code (2 : Nat) (Option.none : Option Jvm.ClassFile.FieldType), Jvm.Cond.code ({ cls := "java/lang/StringBuilder", name := "append", desc := "(Ljava/lang/String;)Ljava/lang/StringBuilder;" } : Jvm.MethodName) jdk_67_method_7_code (2 : Nat) (Option.some (Jvm.ClassFile.FieldType.object "java/lang/StringBuilder")), Jvm.Cond.code ({ cls := "java/lang/AbstractStringBuilder", name := "append", desc := "(Ljava/lang/String;)Ljava/lang/AbstractStringBuilder;" } : Jvm.MethodName) jdk_68_method_22_code (3 : Nat) (Option.some (Jvm.ClassFile.FieldType.object "java/lang/AbstractStringBuilder")), Jvm.Cond.code ({ cls := "java/lang/String", name := "length", desc := "()I" } : Jvm.MethodName) jdk_42_method_54_code (1 : Nat) (Option.some Jvm.ClassFile.FieldType.int), Jvm.Cond.code ({ cls := "java/lang/String", name := "coder", desc := "()B" } : Jvm.MethodName) jdk_42_method_152_code (1 : Nat) (Option.some Jvm.ClassFile.FieldType.byte), Jvm.Cond.code ({ cls := "java/lang/AbstractStringBuilder", name := "ensureCapacityInternal", desc := "(I)V" } : Jvm.MethodName) jdk_68_method_9_code (3 : Nat) (Option.none : Option Jvm.ClassFile.FieldType), Jvm.Cond.code ({ cls := "java/lang/AbstractStringBuilder", name := "putStringAt", desc := "(ILjava/lang/String;)V" } : Jvm.MethodName) jdk_68_method_73_code (3 : Nat) (Option.none : Option Jvm.ClassFile.FieldType), Jvm.Cond.code ({ cls := "java/lang/AbstractStringBuilder", name := "inflateIfNeededFor", desc := "(Ljava/lang/String;)V" } : Jvm.MethodName) jdk_68_method_71_code (2 : Nat) (Option.none : Option Jvm.ClassFile.FieldType), Jvm.Cond.code ({ cls := "java/lang/String", name := "getBytes", desc := "([BIB)V" } : Jvm.MethodName) jdk_42_method_147_code (4 : Nat) (Option.none : Option Jvm.ClassFile.FieldType), Jvm.Cond.code ({ cls := "java/lang/StringBuilder", name := "toString", desc := "()Ljava/lang/String;" } : Jvm.MethodName) jdk_67_method_42_code (1 : Nat) (Option.some (Jvm.ClassFile.FieldType.object "java/lang/String")), Jvm.Cond.code ({ cls := "java/lang/String", name := "<init>", desc := "(Ljava/lang/StringBuilder;)V" } : Jvm.MethodName) jdk_42_method_53_code (2 : Nat) (Option.none : Option Jvm.ClassFile.FieldType), Jvm.Cond.code ({ cls := "java/lang/String", name := "<init>", desc := "(Ljava/lang/AbstractStringBuilder;Ljava/lang/Void;)V" } : Jvm.MethodName) jdk_42_method_150_code (5 : Nat) (Option.none : Option Jvm.ClassFile.FieldType), Jvm.Cond.code ({ cls := "java/lang/AbstractStringBuilder", name := "getValue", desc := "()[B" } : Jvm.MethodName) jdk_68_method_64_code (1 : Nat) (Option.some (Jvm.ClassFile.FieldType.array Jvm.ClassFile.FieldType.byte)), Jvm.Cond.code ({ cls := "java/lang/StringBuilder", name := "length", desc := "()I" } : Jvm.MethodName) jdk_67_method_93_code (1 : Nat) (Option.some Jvm.ClassFile.FieldType.int), Jvm.Cond.code ({ cls := "java/lang/AbstractStringBuilder", name := "length", desc := "()I" } : Jvm.MethodName) jdk_68_method_6_code (1 : Nat) (Option.some Jvm.ClassFile.FieldType.int), Jvm.Cond.code ({ cls := "java/lang/AbstractStringBuilder", name := "isLatin1", desc := "()Z" } : Jvm.MethodName) jdk_68_method_68_code (1 : Nat) (Option.some Jvm.ClassFile.FieldType.boolean), Jvm.Cond.code ({ cls := "java/util/Arrays", name := "copyOfRange", desc := "([BII)[B" } : Jvm.MethodName) jdk_65_method_132_code (3 : Nat) (Option.some (Jvm.ClassFile.FieldType.array Jvm.ClassFile.FieldType.byte)), Jvm.Cond.code ({ cls := "java/util/Arrays", name := "copyOfRangeByte", desc := "([BII)[B" } : Jvm.MethodName) jdk_65_method_133_code (5 : Nat) (Option.some (Jvm.ClassFile.FieldType.array Jvm.ClassFile.FieldType.byte)), Jvm.Cond.code ({ cls := "java/util/Arrays", name := "checkLength", desc := "(II)V" } : Jvm.MethodName) jdk_65_method_131_code (2 : Nat) (Option.none : Option Jvm.ClassFile.FieldType), Jvm.Cond.code ({ cls := "java/lang/Math", name := "min", desc := "(II)I" } : Jvm.MethodName) jdk_29_method_69_code (2 : Nat) (Option.some Jvm.ClassFile.FieldType.int), Jvm.Cond.code ({ cls := "java/lang/String", name := "charAt", desc := "(I)C" } : Jvm.MethodName) jdk_42_method_56_code (2 : Nat) (Option.some Jvm.ClassFile.FieldType.char), Jvm.Cond.code ({ cls := "java/lang/String", name := "isLatin1", desc := "()Z" } : Jvm.MethodName) jdk_42_method_154_code (1 : Nat) (Option.some Jvm.ClassFile.FieldType.boolean), Jvm.Cond.code ({ cls := "java/lang/StringLatin1", name := "charAt", desc := "([BI)C" } : Jvm.MethodName) jdk_43_method_2_code (2 : Nat) (Option.some Jvm.ClassFile.FieldType.char), Jvm.Cond.code ({ cls := "java/lang/String", name := "checkIndex", desc := "(II)V" } : Jvm.MethodName) jdk_42_method_155_code (2 : Nat) (Option.none : Option Jvm.ClassFile.FieldType), Jvm.Cond.code ({ cls := "jdk/internal/util/Preconditions", name := "checkIndex", desc := "(IILjava/util/function/BiFunction;)I" } : Jvm.MethodName) jdk_41_method_11_code (3 : Nat) (Option.some Jvm.ClassFile.FieldType.int)]
set_option maxRecDepth 65536 in
theorem codes_eq : words1.filter isCode = codes1 := rfl
theorem w_codes : ∀ c ∈ words1.filter isCode, c.before args0 about1 = true := by
  rw [codes_eq]
  intro c hc
  simp only [codes1, List.mem_cons, List.not_mem_nil, or_false] at hc
  rcases hc with rfl | rfl | rfl | rfl | rfl | rfl | rfl | rfl | rfl | rfl | rfl | rfl | rfl | rfl | rfl | rfl | rfl | rfl | rfl | rfl | rfl | rfl | rfl | rfl | rfl | rfl | rfl | rfl | rfl | rfl | rfl | rfl | rfl | rfl | rfl | rfl | rfl | rfl | rfl
  · exact w_c0
  · exact w_c1
  · exact w_c2
  · exact w_c3
  · exact w_c4
  · exact w_c5
  · exact w_c6
  · exact w_c7
  · exact w_c8
  · exact w_c9
  · exact w_c10
  · exact w_c11
  · exact w_c12
  · exact w_c13
  · exact w_c14
  · exact w_c15
  · exact w_c16
  · exact w_c17
  · exact w_c18
  · exact w_c19
  · exact w_c20
  · exact w_c21
  · exact w_c22
  · exact w_c23
  · exact w_c24
  · exact w_c25
  · exact w_c26
  · exact w_c27
  · exact w_c28
  · exact w_c29
  · exact w_c30
  · exact w_c31
  · exact w_c32
  · exact w_c33
  · exact w_c34
  · exact w_c35
  · exact w_c36
  · exact w_c37
  · exact w_c38
set_option maxRecDepth 65536 in
theorem w_t1 : (words1.take 24).all (fun c => isCode c || c.before args0 about1) = true := by decide +kernel
set_option maxRecDepth 65536 in
theorem w_t2 : ((words1.drop 24).take 24).all (fun c => isCode c || c.before args0 about1) = true := by decide +kernel
set_option maxRecDepth 65536 in
theorem w_t3 : (((words1.drop 24).drop 24).take 24).all (fun c => isCode c || c.before args0 about1) = true := by decide +kernel
set_option maxRecDepth 65536 in
theorem w_t4 : ((((words1.drop 24).drop 24).drop 24).take 24).all (fun c => isCode c || c.before args0 about1) = true := by decide +kernel
set_option maxRecDepth 65536 in
theorem w_t5 : (((((words1.drop 24).drop 24).drop 24).drop 24).take 24).all (fun c => isCode c || c.before args0 about1) = true := by decide +kernel
set_option maxRecDepth 65536 in
theorem w_t6 : ((((((words1.drop 24).drop 24).drop 24).drop 24).drop 24).take 24).all (fun c => isCode c || c.before args0 about1) = true := by decide +kernel
set_option maxRecDepth 65536 in
theorem w_t7 : (((((((words1.drop 24).drop 24).drop 24).drop 24).drop 24).drop 24).take 24).all (fun c => isCode c || c.before args0 about1) = true := by decide +kernel
set_option maxRecDepth 65536 in
theorem w_t8 : ((((((((words1.drop 24).drop 24).drop 24).drop 24).drop 24).drop 24).drop 24).take 24).all (fun c => isCode c || c.before args0 about1) = true := by decide +kernel
set_option maxRecDepth 65536 in
theorem w_t9 : ((((((((words1.drop 24).drop 24).drop 24).drop 24).drop 24).drop 24).drop 24).drop 24).all (fun c => isCode c || c.before args0 about1) = true := by decide +kernel
theorem w_tables : (allAtoms (Jvm.Cond.code x code maxLocals ret :: tables_1)).before args0 about1 = true := by
  rw [allAtoms_all]
  show words1.all (fun c => c.before args0 about1) = true
  refine all_split ?_ w_codes
  rw [← List.take_append_drop 24 words1, List.all_append, w_t1, ← List.take_append_drop 24 (words1.drop 24), List.all_append, w_t2, ← List.take_append_drop 24 ((words1.drop 24).drop 24), List.all_append, w_t3, ← List.take_append_drop 24 (((words1.drop 24).drop 24).drop 24), List.all_append, w_t4, ← List.take_append_drop 24 ((((words1.drop 24).drop 24).drop 24).drop 24), List.all_append, w_t5, ← List.take_append_drop 24 (((((words1.drop 24).drop 24).drop 24).drop 24).drop 24), List.all_append, w_t6, ← List.take_append_drop 24 ((((((words1.drop 24).drop 24).drop 24).drop 24).drop 24).drop 24), List.all_append, w_t7, ← List.take_append_drop 24 (((((((words1.drop 24).drop 24).drop 24).drop 24).drop 24).drop 24).drop 24), List.all_append, w_t8, w_t9]
  rfl
set_option maxRecDepth 65536 in
theorem w_rest : rest_1_c.before args0 about1 = true := by decide +kernel
set_option maxRecDepth 65536 in
theorem w_case : (Jvm.Cond.and given_1 narrow_1).before args0 about1 = true := by decide +kernel
set_option maxRecDepth 65536 in
theorem w_consts : constsHeld consts_1 about1 := Jvm.Lit.constsHeldB_iff.mp (by decide +kernel)
theorem w_applies : (headSpec (Jvm.Cond.code x code maxLocals ret :: tables_1) room_1).applies x e0.platform about1 = true :=
  (Spec.applies_iff w_frames).mpr ⟨w_running, w_runnable, w_alone, w_named, w_hears, w_ripe, w_room, w_tables⟩
theorem atStart : AtStart classFile x code maxLocals ret World_1 tables_1 room_1 Calls_1 rest_1 Pre_1 launch0 p0 e0 about1 theMethod args0 below0 :=
  ⟨lists_1, trivial, launch0.admits_env _ _ _, launch0.least_env, fairChoices_fair.cas, fairChoices_fair.clock, w_frames, w_args, w_heap, w_applies, ⟨w_consts, trivial⟩, w_rest, w_case⟩
end start1
theorem witness_1 : WitnessClaimed_1 := ⟨start1.p0, start1.e0, start1.about1, start1.theMethod, start1.args0, start1.below0, start1.atStart⟩
end Jvm.Pilot.@@N@@
