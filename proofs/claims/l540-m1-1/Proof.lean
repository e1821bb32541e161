import JvmDerived
import JvmDerived.Pilot.@@N@@Statement
import JvmDerived.Pilot.@@N@@Code
set_option linter.unusedVariables false
set_option linter.unusedSimpArgs false
namespace Jvm.RoadKit
open Sem ClassFile Op Lib Jvm.Stand Jvm.Free Jvm.LawKit
section New
variable {p : Program} {l : Launch} {e : Env} {R : Room} {s : State} {m : MethodId} {args : Array Value} {below : List Frame} {meth : Method} {c : Code} {T : State} {locs : List Loc} {cells slots : Nat}
theorem retI (X : Stand p l e R s m args below meth c T locs cells slots) (hx : p.tables.exec = Jvm.exec) {pc : Nat} {Ls : Array Slot} {z : Int32} {rest : List Value} (hret : meth.sig.returnType = some .int) (hd : decode c.code pc = .ok (.ireturn, 1)) {fs : List Frame}
    (hl : ∀ (f : JFrame) (acts : List Action), f.method = m → f.locked = none → f.entered = [] → (doReturn e (T.setTop f) acts (some (.int z))).1 = T.setFrames fs) : Steps p.tables e below (T.setTop (mkF m pc Ls (.int z :: rest))) (T.setFrames fs) := by
  have hm' : T.vm.method? m = some meth := X.method'
  have hn : narrow .int (.int z) = .int z := rfl
  show Steps p.tables e below (T.setTop { method := m, pc := pc, locals := Ls, stack := _ :: rest, locked := none }) _
  jvm_step X.here [X.here.top, hx, hd, hm', hret, hn]
  first | (intro acts; rw [hl _ acts rfl rfl rfl]) | rw [hl _ _ rfl rfl rfl]
  exact Steps.refl _
end New
end Jvm.RoadKit
namespace Jvm.Pilot.@@N@@
open Jvm Jvm.ClassFile Sem Op Lib Jvm.Free Jvm.Stand Jvm.LawKit Jvm.RoadKit Bundle Jvm.Pilot.@@N@@.Jvm.D
theorem own_eqI {a : Array Value} {s : State} {t : Term} {n : Int32} (h : (Jvm.Cond.eq t (.int n)).value a s none s [] = some true) : t.eval a s none [] s = some (.int n) := by
  simp only [Cond.value, Term.eval] at h
  cases ht : t.eval a s none [] s with
  | none => simp [ht] at h
  | some x => cases x <;> simp [ht] at h; rw [h]
abbrev Met (l : Launch) (Z : State) (ws : List Jvm.Cond) (y : MethodName) (bytes : ByteArray) (maxL : Nat) (ret : Option FieldType) (rm : Room) (as' : Array Value) (h0 : Heap) (Q : Option Value → Heap → List Loc → Prop) : Prop :=
  MetFree l y (head1 (Jvm.Cond.code y bytes maxL ret :: ws) rm) (fun a U => a = as' ∧ Z.Warmed39 U.vm ∧ U.heap = h0) (fun _ _ _ _ _ => True) (fun _ U o U' => ∃ v L, o = .returned v ∧ Q v U'.heap L ∧ FrameEnd U o U' L rm.cells rm.slots)
abbrev MetW (l : Launch) (Z : State) (ws : List Jvm.Cond) (y : MethodName) (bytes : ByteArray) (maxL : Nat) (ret : Option FieldType) (rm : Room) (as' : Array Value) (h0 : Heap) (Q : Option Value → Heap → List Loc → Prop) : Prop :=
  MetFree l y (head1 (Jvm.Cond.code y bytes maxL ret :: ws) rm) (fun a U => a = as' ∧ Z.Warmed39 U.vm ∧ U.heap = h0) (fun _ _ _ _ _ => True) (fun _ U o U' => ∃ v L, o = .returned v ∧ Q v U'.heap L ∧ ReturnedEndW U o U' L rm.cells rm.slots)
abbrev MetH (l : Launch) (Z : State) (ws : List Jvm.Cond) (y : MethodName) (bytes : ByteArray) (maxL : Nat) (ret : Option FieldType) (rm : Room) (as' : Array Value) (h0 : Heap) (EL : List (String × Nat)) (sf : List Addr) (Q : Option Value → Heap → List Loc → Prop) : Prop :=
  MetFree l y (head1 (Jvm.Cond.code y bytes maxL ret :: ws) rm) (fun a U => a = as' ∧ Z.Warmed39 U.vm ∧ U.heap = h0 ∧ CHv Z EL U.vm h0 ∧ ∀ x ∈ sf, Safe Z EL U.vm h0 x) (fun _ _ _ _ _ => True) (fun _ U o U' => ∃ v L, o = .returned v ∧ Q v U'.heap L ∧ CHr Z EL U.vm U.heap U'.vm U'.heap ∧ ReturnedEndW U o U' L rm.cells rm.slots)
section Own
variable {l : Launch} {Z : State} {ws : List Jvm.Cond} {y : MethodName} {bytes : ByteArray} {maxL : Nat} {ret : Option FieldType} {rm : Room} {as' : Array Value} {h0 : Heap} {EL : List (String × Nat)} {sf : List Addr} {Q : Option Value → Heap → List Loc → Prop}
theorem own_mk (hp : plainFor y = true)
    (body : ∀ (p : Program) (e : Env) (s : State) (m : MethodId) (below : List Frame) (meth : Method) (c : Code) (s₁ : State), Z.Warmed39 s.vm → p.tables.exec = Jvm.exec → c.code = bytes → c.maxLocals = maxL → s.vm.findClass y.cls = some m.cls → meth.name = y.name → meth.sig.returnType = ret → meth.locks = false → Stand p l e rm s m as' below meth c s₁ [] 0 0 → s₁.heap = h0 →
      ∃ (T : State) (v : Option Value) (L : List Loc) (k n : Nat), Stand p l e rm s m as' below meth c T L k n ∧ k ≤ rm.cells ∧ n ≤ rm.slots ∧ (ret = none → v = none) ∧ Q v T.heap L ∧ ∀ fs, (∀ (f : JFrame) (acts : List Action), f.method = m → f.locked = none → f.entered = [] → (doReturn e (T.setTop f) acts v).1 = T.setFrames fs) → Steps p.tables e below (s₁.setTop (entryFrame m as' maxL)) (T.setFrames fs)) : Met l Z ws y bytes maxL ret rm as' h0 Q := by
  refine MetFree.of_bodySF hp hisR ?_
  intro p e s m args below meth c s₁ Bd hml hP hK
  obtain ⟨rfl, hZ, hh⟩ := hP
  have e0 : s₁.heap = h0 := by rw [← hh, Bd.state]; rfl
  obtain ⟨T, v, L, k, n, X, hk, hn, hv, hQ, st⟩ := body p e s m below meth c s₁ hZ Bd.exec Bd.bytes hml (findClass_of_methodNamed Bd.named) (name_of_methodNamed Bd.named Bd.method).1 Bd.returns Bd.notSynchronized (Stand.of_body Bd) e0
  obtain ⟨fs, hr, hrun, hended, hW, hsame⟩ := X.leave (v := v) (fun q => hv (Bd.returns.symm.trans q))
  exact ⟨_, _, st fs hr, hrun, hended, _, _, rfl, hQ, ⟨_, rfl⟩, hW, hsame.mono hk hn⟩
theorem own_mkW (hp : plainFor y = true)
    (body : ∀ (p : Program) (e : Env) (s : State) (m : MethodId) (below : List Frame) (meth : Method) (c : Code) (s₁ : State), Z.Warmed39 s.vm → p.tables.exec = Jvm.exec → c.code = bytes → c.maxLocals = maxL → s.vm.findClass y.cls = some m.cls → meth.name = y.name → meth.sig.returnType = ret → meth.locks = false → Stand p l e rm s m as' below meth c s₁ [] 0 0 → s₁.heap = h0 →
      ∃ (T : State) (v : Option Value) (L : List Loc) (k n : Nat) (vm1 : Vm) (n1 : Nat), Stand p l e rm (s.setVm vm1) m as' below meth c T L k n ∧ s.Since vm1 n1 ∧ n1 ≤ T.heap.size ∧ k ≤ rm.cells ∧ n ≤ rm.slots ∧ (ret = none → v = none) ∧ Q v T.heap L ∧ ∀ fs, (∀ (f : JFrame) (acts : List Action), f.method = m → f.locked = none → f.entered = [] → (doReturn e (T.setTop f) acts v).1 = T.setFrames fs) → Steps p.tables e below (s₁.setTop (entryFrame m as' maxL)) (T.setFrames fs)) : MetW l Z ws y bytes maxL ret rm as' h0 Q := by
  refine MetFree.of_bodySF hp hisR ?_
  intro p e s m args below meth c s₁ Bd hml hP hK
  obtain ⟨rfl, hZ, hh⟩ := hP
  have e0 : s₁.heap = h0 := by rw [← hh, Bd.state]; rfl
  obtain ⟨T, v, L, k, n, vm1, n1, X, hS, hn1, hk, hn, hv, hQ, st⟩ := body p e s m below meth c s₁ hZ Bd.exec Bd.bytes hml (findClass_of_methodNamed Bd.named) (name_of_methodNamed Bd.named Bd.method).1 Bd.returns Bd.notSynchronized (Stand.of_body Bd) e0
  obtain ⟨fs, hr, hrun, hended, hW⟩ := Stand.leaveW X hS hn1 (v := v) (fun q => hv (Bd.returns.symm.trans q))
  exact ⟨_, _, st fs hr, hrun, hended, _, _, rfl, hQ, hW.1, hW.2.1, hW.2.2.1, hW.2.2.2.mono hk hn⟩
theorem own_mkH (hp : plainFor y = true)
    (body : ∀ (p : Program) (e : Env) (s : State) (m : MethodId) (below : List Frame) (meth : Method) (c : Code) (s₁ : State), Z.Warmed39 s.vm → p.tables.exec = Jvm.exec → c.code = bytes → c.maxLocals = maxL → s.vm.findClass y.cls = some m.cls → meth.name = y.name → meth.sig.returnType = ret → meth.locks = false → Stand p l e rm s m as' below meth c s₁ [] 0 0 → s₁.heap = h0 → CHv Z EL s.vm h0 → (∀ x ∈ sf, Safe Z EL s.vm h0 x) →
      ∃ (T : State) (v : Option Value) (L : List Loc) (k n : Nat) (vm1 : Vm) (n1 : Nat), Stand p l e rm (s.setVm vm1) m as' below meth c T L k n ∧ s.Since vm1 n1 ∧ n1 ≤ T.heap.size ∧ k ≤ rm.cells ∧ n ≤ rm.slots ∧ (ret = none → v = none) ∧ Q v T.heap L ∧ CHr Z EL s.vm h0 T.vm T.heap ∧ ∀ fs, (∀ (f : JFrame) (acts : List Action), f.method = m → f.locked = none → f.entered = [] → (doReturn e (T.setTop f) acts v).1 = T.setFrames fs) → Steps p.tables e below (s₁.setTop (entryFrame m as' maxL)) (T.setFrames fs)) : MetH l Z ws y bytes maxL ret rm as' h0 EL sf Q := by
  refine MetFree.of_bodySF hp hisR ?_
  intro p e s m args below meth c s₁ Bd hml hP hK
  obtain ⟨rfl, hZ, hh, H0, hsf⟩ := hP
  have e0 : s₁.heap = h0 := by rw [← hh, Bd.state]; rfl
  obtain ⟨T, v, L, k, n, vm1, n1, X, hS, hn1, hk, hn, hv, hQ, hC, st⟩ := body p e s m below meth c s₁ hZ Bd.exec Bd.bytes hml (findClass_of_methodNamed Bd.named) (name_of_methodNamed Bd.named Bd.method).1 Bd.returns Bd.notSynchronized (Stand.of_body Bd) e0 H0 hsf
  obtain ⟨fs, hr, hrun, hended, hW⟩ := Stand.leaveW X hS hn1 (v := v) (fun q => hv (Bd.returns.symm.trans q))
  have hC' : CHr Z EL s.vm s.heap (T.setFrames fs).vm (T.setFrames fs).heap := by
    have a : (T.setFrames fs).vm = T.vm := rfl
    have b : (T.setFrames fs).heap = T.heap := rfl
    rw [a, b, hh]; exact hC
  exact ⟨_, _, st fs hr, hrun, hended, _, _, rfl, hQ, hC', hW.1, hW.2.1, hW.2.2.1, hW.2.2.2.mono hk hn⟩
end Own
abbrev SS (p : Program) (e : Env) (b : List Frame) (T : State) (m : MethodId) (pc : Nat) (L : Array Slot) (S : List Value) (t : State) : Prop := Steps p.tables e b (T.setTop (mkF m pc L S)) t
section OwnC
variable {p : Program} {l : Launch} {e : Env} {R : Room} {s : State} {m : MethodId} {args : Array Value} {below : List Frame} {meth : Method} {c : Code} {T : State} {locs : List Loc} {cells slots : Nat} {Z : State} {a0 : Array Value} {h : Heap} {own : String} {index ml pc maxL : Nat} {y z : MethodName} {bytes : ByteArray} {ret : Option FieldType} {rm : Room} {as' : Array Value} {Q : Option Value → Heap → List Loc → Prop} {ps : List FieldType} {r : Option FieldType} {b : Addr} {C : String}
/-- what a call asks of the room -/
abbrev Rok (R rm : Room) (cells slots maxL W : Nat) (y : MethodName) : Prop := (y.cls ≠ "java/lang/invoke/MethodHandle" ∧ y.cls ≠ "java/lang/invoke/VarHandle") ∧ rm.frames + 1 ≤ R.frames ∧ W + (maxL + 11) + rm.locals ≤ R.locals ∧ cells + rm.cells ≤ R.cells ∧ slots + rm.slots ≤ R.slots
theorem own_cs (X : Stand p l e R s m args below meth c T locs cells slots) (hx : p.tables.exec = Jvm.exec) (hZ : Z.Warmed39 s.vm) (hown : s.vm.findClass own = some m.cls) (hml : c.maxLocals = ml) (w1 : (Jvm.Cond.methodLink own index y).before a0 Z = true) (w2 : (Jvm.Cond.static y).before a0 Z = true) (w3 : (Jvm.Cond.initialized y.cls).before a0 Z = true) (w4 : (Jvm.Cond.code y bytes maxL ret).before a0 Z = true)
    (hM : Met l Z [] y bytes maxL ret rm as' h Q) (eT : T.heap = h) (hd : decode c.code pc = .ok (.invokestatic index, 3)) (W : Nat) (Ls : Array Slot) (argsL rest : List Value) (pd : parseMethodDescriptor y.desc = some ⟨ps, r⟩) (ok : Rok R rm cells slots maxL W y) (hsz : Ls.size = ml) (hln : argsL.length = ps.length) (has : argsL.toArray = as') (hW : 2 * 0 + (rest.map fun v => v.category).sum ≤ W) :
    ∃ v T' L', Stand p l e R s m args below meth c T' (locs ++ L') (cells + rm.cells) (slots + rm.slots) ∧ Q v T'.heap L' ∧ ∀ t, SS p e below T' m (pc + 3) Ls (v.toList ++ rest) t → SS p e below T m pc Ls (argsL.reverse ++ rest) t := by
  obtain ⟨v, _, ⟨T', L, k, n⟩, -, X', ⟨Lc, hQ, rfl, rfl, rfl⟩, st⟩ := Jvm.LawKit.callS X hx (y := y) hown (mvT hZ w1) (mvT hZ w2) (mvT hZ w3) (mvT hZ w4) ok.1 (backOf (W := W) hM hZ w4 w3 ok.2.1 ok.2.2.1) (g := mkF m pc Ls (argsL.reverse ++ rest)) rfl (hsz.trans hml.symm) (argsL := argsL) (rest := rest) (lenOf pd hln) rfl hW hd (fun _ _ => ⟨has, eT, ok.2.2.2.1, ok.2.2.2.2⟩)
  exact ⟨v, T', Lc, X', hQ, st⟩
theorem own_cp (X : Stand p l e R s m args below meth c T locs cells slots) (hx : p.tables.exec = Jvm.exec) (hZ : Z.Warmed39 s.vm) (hown : s.vm.findClass own = some m.cls) (hml : c.maxLocals = ml) (hy : y.name = "<init>") (w1 : (Jvm.Cond.methodLink own index y).before a0 Z = true) (w2 : (Jvm.Cond.instanceMethod y).before a0 Z = true) (w3 : (Jvm.Cond.initialized y.cls).before a0 Z = true) (w4 : (Jvm.Cond.code y bytes maxL none).before a0 Z = true)
    (hM : Met l Z [] y bytes maxL none rm as' h Q) (eT : T.heap = h) (hd : decode c.code pc = .ok (.invokespecial index, 3)) (W : Nat) (Ls : Array Slot) (b : Addr) (argsL rest : List Value) (pd : parseMethodDescriptor y.desc = some ⟨ps, r⟩) (ok : Rok R rm cells slots maxL W y) (hsz : Ls.size = ml) (hln : argsL.length = ps.length) (has : (.ref b :: argsL).toArray = as') (hW : 2 * 0 + (rest.map fun v => v.category).sum ≤ W) :
    ∃ v T' L', Stand p l e R s m args below meth c T' (locs ++ L') (cells + rm.cells) (slots + rm.slots) ∧ Q v T'.heap L' ∧ ∀ t, SS p e below T' m (pc + 3) Ls (v.toList ++ rest) t → SS p e below T m pc Ls (argsL.reverse ++ .ref b :: rest) t := by
  obtain ⟨v, _, ⟨T', L, k, n⟩, -, X', ⟨Lc, hQ, rfl, rfl, rfl⟩, st⟩ := X.specialBack hx (y := y) hy hown (mvT hZ w1) (mvT hZ w2) (mvT hZ w4) ok.1 (backOf (W := W) hM hZ w4 w3 ok.2.1 ok.2.2.1) (g := mkF m pc Ls (argsL.reverse ++ .ref b :: rest)) rfl (hsz.trans hml.symm) (Steps.refl _) (a := b) (argsL := argsL) (rest := rest) (lenOf pd hln) rfl hW hd (fun _ _ => ⟨has, eT, ok.2.2.2.1, ok.2.2.2.2⟩)
  exact ⟨v, T', Lc, X', hQ, fun t q => st.trans q⟩
theorem own_cv (X : Stand p l e R s m args below meth c T locs cells slots) (hx : p.tables.exec = Jvm.exec) (hZ : Z.Warmed39 s.vm) (hown : s.vm.findClass own = some m.cls) (hml : c.maxLocals = ml) (w1 : (Jvm.Cond.methodLink own index y).before a0 Z = true) (w2 : (Jvm.Cond.declares y).before a0 Z = true) (nf : NotFace Z y) (ws : (Jvm.Cond.selects C y z).before a0 Z = true) (wi : (Jvm.Cond.instanceMethod z).before a0 Z = true) (w3 : (Jvm.Cond.initialized z.cls).before a0 Z = true) (w4 : (Jvm.Cond.code z bytes maxL ret).before a0 Z = true)
    (hM : Met l Z [] z bytes maxL ret rm as' h Q) (eT : T.heap = h) (E : Exa Z h b C) (hd : decode c.code pc = .ok (.invokevirtual index, 3)) (W : Nat) (Ls : Array Slot) (argsL rest : List Value) (pd : parseMethodDescriptor y.desc = some ⟨ps, r⟩) (ok : Rok R rm cells slots maxL W y) (hsz : Ls.size = ml) (hln : argsL.length = ps.length) (has : (.ref b :: argsL).toArray = as') (hW : 2 * 0 + (rest.map fun v => v.category).sum ≤ W) :
    ∃ v T' L', Stand p l e R s m args below meth c T' (locs ++ L') (cells + rm.cells) (slots + rm.slots) ∧ Q v T'.heap L' ∧ ∀ t, SS p e below T' m (pc + 3) Ls (v.toList ++ rest) t → SS p e below T m pc Ls (argsL.reverse ++ .ref b :: rest) t := by
  obtain ⟨cB, kB, qa, qb, qc⟩ := isOf hZ eT E
  obtain ⟨v, _, ⟨T', L, k, n⟩, -, X', ⟨Lc, hQ, rfl, rfl, rfl⟩, st⟩ := X.virtualBack hx (y := y) (z := z) hown (mvT hZ w1) (mvT hZ w2) (nf.move hZ.alike) (mvT hZ ws) (mvT hZ wi) ok.1 (backOf (W := W) hM hZ w4 w3 ok.2.1 ok.2.2.1) qa qc (g := mkF m pc Ls (argsL.reverse ++ .ref b :: rest)) rfl (hsz.trans hml.symm) (Steps.refl _) (argsL := argsL) (rest := rest) (lenOf pd hln) rfl hW hd (fun _ _ => ⟨has, eT, ok.2.2.2.1, ok.2.2.2.2⟩)
  exact ⟨v, T', Lc, X', hQ, fun t q => st.trans q⟩
end OwnC
theorem own_che {Z T : State} {EL : List (String × Nat)} {vm : Vm} {h0 h : Heap} (e : T.heap = h) (C : CHr Z EL vm h0 T.vm h) : CHr Z EL vm h0 T.vm T.heap := by rw [e]; exact C
theorem own_sf0 {Z : State} {EL : List (String × Nat)} {vm : Vm} {h : Heap} : ∀ x ∈ ([] : List Addr), Safe Z EL vm h x ∧ x < h.size := fun _ q => nomatch q
theorem own_sfS {Z : State} {EL : List (String × Nat)} {vm : Vm} {h : Heap} {x : Addr} {ws : List Addr} (n : Safe Z EL vm h x) (lt : x < h.size) (r : ∀ y ∈ ws, Safe Z EL vm h y ∧ y < h.size) : ∀ y ∈ x :: ws, Safe Z EL vm h y ∧ y < h.size := fun y q => by
  rcases List.mem_cons.mp q with rfl | q
  · exact ⟨n, lt⟩
  · exact r y q
theorem own_backH {l : Launch} {R : Room} {p : Program} {e : Env} {below : List Frame} {Z s : State} {a0 args : Array Value} {EL : List (String × Nat)} {h : Heap} {vm0 : Vm} {y : MethodName} {bytes : ByteArray} {maxL : Nat} {ret : Option FieldType} {rm : Room} {len W : Nat} {as' : Array Value} {sf : List Addr} {Q : Option Value → Heap → List Loc → Prop}
    (hM : MetFree l y (head1 [Jvm.Cond.code y bytes maxL ret] rm) (fun a U => a = as' ∧ Z.Warmed39 U.vm ∧ U.heap = h ∧ CHv Z EL U.vm h ∧ ∀ x ∈ sf, Safe Z EL U.vm h x) (fun _ _ _ _ _ => True) (fun _ U o U' => ∃ v L, o = .returned v ∧ Q v U'.heap L ∧ CHr Z EL U.vm U.heap U'.vm U'.heap ∧ ReturnedEndW U o U' L rm.cells rm.slots))
    (hZ : Z.Warmed39 vm0) (wc : (Jvm.Cond.code y bytes maxL ret).before a0 Z = true) (wz : (Jvm.Cond.initialized y.cls).before a0 Z = true) (hf : rm.frames + 1 ≤ R.frames) (hl : W + (maxL + 11) + rm.locals ≤ R.locals) (hEL : EW Z a0 EL) (H : CHv Z EL vm0 h) (hs : ∀ x ∈ sf, Safe Z EL vm0 h x ∧ x < h.size) :
    BackS l R p e below (s.setVm vm0) args y len W (fun A a => a = as' ∧ A.U.heap = h ∧ A.cells + rm.cells ≤ R.cells ∧ A.slots + rm.slots ≤ R.slots)
      (fun A _ v B => ∃ L, Q v B.U.heap L ∧ B.locs = A.locs ++ L ∧ B.cells = A.cells + rm.cells ∧ B.slots = A.slots + rm.slots ∧ CHr Z EL vm0 h B.U.vm B.U.heap) := by
  refine BackS.of_freeW (bytes := bytes) (maxL := maxL) (ret := ret) (E := fun _ first o t L k n => (k = rm.cells ∧ n = rm.slots) ∧ (∃ v, o = .returned v ∧ Q v t.heap L) ∧ CHr Z EL first.vm first.heap t.vm t.heap) hM hf hl ?_ ?_ ?_ ?_ ?_
  · intro m meth c A a Y hp
    have hU : Z.Warmed39 A.U.vm := wtrans (s := s.setVm vm0) hZ Y.warmed
    refine ⟨?_, mv hU wc, mv hU wz, hp.2.2.1, hp.2.2.2⟩
    show (Jvm.Cond.and _ .tt).before a A.U = true
    rw [Cond.before_and, mv hU wc]; rfl
  · intro m meth c A a g mk Y hp
    have q := CHv.at Y hZ hEL H
    exact ⟨hp.1, wtrans (s := s.setVm vm0) hZ Y.warmed, hp.2.1, q.1, fun x hx => q.safe (hs x hx).2 (hs x hx).1⟩
  · intros; trivial
  · rintro _ _ _ _ ⟨v, L, h1, h2, h3, h4⟩
    exact ⟨L, _, _, h4, ⟨rfl, rfl⟩, ⟨v, h1, h2⟩, h3⟩
  · rintro m meth c A a g mk v t L k n Y hp - - ⟨⟨rfl, rfl⟩, ⟨v', e3, e4⟩, e5⟩
    cases e3
    refine ⟨L, e4, rfl, rfl, rfl, (CHv.at Y hZ hEL H).trans ?_⟩
    have e6 : (A.U.calling g mk a).heap = h := hp.2.1
    rw [e6] at e5
    exact e5
def Elt (Z : State) (h : Heap) (a : Addr) (ty : FieldType) (j : Int32) (v : Value) : Prop := ∃ c : Cell, Arr Z h a c ty ∧ ¬ (j < 0 ∨ c.slots.size ≤ j.toNatClampNeg) ∧ c.slots[j.toNatClampNeg]? = some v
theorem Elt.ext {Z : State} {h h' : Heap} {a : Addr} {ty : FieldType} {j : Int32} {v : Value} (F : Elt Z h a ty j v) (E : Ext h h') : Elt Z h' a ty j v := by obtain ⟨c, A, r⟩ := F; exact ⟨c, A.ext E, r⟩
theorem Elt.lt {Z : State} {h : Heap} {a : Addr} {ty : FieldType} {j : Int32} {v : Value} (F : Elt Z h a ty j v) : a < h.size := by obtain ⟨c, A, -⟩ := F; exact A.lt
theorem own_arvty {Z : State} {h : Heap} {a b : Addr} {k1 k2 : ClassId} {t1 t2 : FieldType} {z1 z2 : Int32} {v1 v2 : List Value} {d1 d2 : Value} (A : Arv Z h a k1 t1 z1 v1 d1) (B : Arv Z h b k2 t2 z2 v2 d2) (hn : t1 ≠ t2) : a ≠ b := fun e => by
  subst e
  obtain ⟨c1, ⟨a1, ⟨-, q1, r1, m1, w1⟩, -⟩, -⟩ := A
  obtain ⟨c2, ⟨a2, ⟨-, q2, r2, m2, w2⟩, -⟩, -⟩ := B
  cases a1.symm.trans a2
  cases r1.symm.trans r2
  rw [w1] at w2
  injection w2 with _ e2
  exact hn e2
theorem own_decl {args : Array Value} {s : State} {y : MethodName} {bytes : ByteArray} {maxL : Nat} {ret : Option FieldType} (hi : (Jvm.Cond.instanceMethod y).before args s = true) (hc : (Jvm.Cond.code y bytes maxL ret).before args s = true) : (Jvm.Cond.declares y).before args s = true := by
  obtain ⟨mk, methM, hnamed, hmethM, hst, hab⟩ := Cond.instanceMethod_spec hi
  obtain ⟨m2, cM, q1, -, -, -, -, -, -, hsig⟩ := Cond.code_spec hnamed hc
  cases hmethM.symm.trans q1
  simp [Cond.before, Cond.holds, Cond.value, hnamed, hmethM, hst, hsig]
theorem own_char (x : Int32) (h1 : ¬ ((255 : Int32) < x)) (h2 : ¬ (x < (0 : Int32))) : x.toUInt32.toUInt16.toUInt32.toInt32 = x ∧ (x.toInt8.toInt32 &&& (255 : Int32)) = x := by
  have e1 := c_i2c x
  have e2 := c_mask x.toInt8.toInt32 255 8 (by decide) (by decide)
  have e3 := c_i2b x
  simp only [Int32.lt_iff_toInt_lt, Int32.reduceToInt] at h1 h2
  constructor
  · rw [← Int32.toInt_inj]; omega
  · rw [← Int32.toInt_inj, e2]; omega
theorem own_c255 (x : Int32) : ¬ ((255 : Int32) < (x &&& (255 : Int32))) ∧ ¬ ((x &&& (255 : Int32)) < (0 : Int32)) := by
  have e2 := c_mask x 255 8 (by decide) (by decide)
  simp only [Int32.lt_iff_toInt_lt, Int32.reduceToInt, e2]
  omega
theorem own_narB (x : Int32) : nar .byte (x.toInt8.toInt32) = x.toInt8.toInt32 := by
  show x.toInt8.toInt32.toInt8.toInt32 = x.toInt8.toInt32
  simp
theorem own_narC (x : Int32) : nar .char (x.toUInt32.toUInt16.toUInt32.toInt32) = x.toUInt32.toUInt16.toUInt32.toInt32 := by
  show x.toUInt32.toUInt16.toUInt32.toInt32.toUInt32.toUInt16.toUInt32.toInt32 = _
  have e1 := c_i2c x
  have e2 := c_i2c (x.toUInt32.toUInt16.toUInt32.toInt32)
  rw [← Int32.toInt_inj]; omega
theorem own_nput {t : FieldType} {x : Int32} (ht : t = .boolean ∨ t = .byte ∨ t = .char ∨ t = .short) (h : nar t x = x) : narrow t (.int x) = .int x := by
  have q : narrow t (.int x) = .int (nar t x) := by rcases ht with rfl | rfl | rfl | rfl <;> rfl
  rw [q, h]
theorem own_fput {t : FieldType} {x : Int32} (ht : t = .boolean ∨ t = .byte ∨ t = .char ∨ t = .short) (h : nar t x = x) : fits t (.int x) = true := by
  rw [← h]
  rcases ht with rfl | rfl | rfl | rfl
  · exact fits_nar_bool x
  · exact fits_nar_byte x
  · exact fits_nar_char x
  · exact fits_nar_short x
theorem own_nf {args : Array Value} {s : State} {C : String} {x y z : MethodName} (e : z.cls = y.cls) (hsel : (Jvm.Cond.selects C x y).before args s = true) : NotFace s z := fun r0 h0 => by
  obtain ⟨c2, r2, m2, q1, q2, q3, q4, kP, hkP, hkPi⟩ := Cond.selects_spec hsel
  have a := findClass_of_methodNamed h0
  have b := findClass_of_methodNamed q3
  rw [e] at a
  have q : r0.cls = m2.cls := Option.some.inj (a.symm.trans b)
  exact ⟨kP, by rw [q]; exact hkP, hkPi⟩
theorem own_same {args : Array Value} {s : State} {y : MethodName} (hm : y.cls ≠ "java/lang/invoke/MethodHandle" ∧ y.cls ≠ "java/lang/invoke/VarHandle") (hd : (Jvm.Cond.instanceMethod y).before args s = true) (nf : NotFace s y) : (Jvm.Cond.sameMethod y.cls y.cls y.name y.desc).before args s = true := by
  obtain ⟨mk, methM, hnamed, hmethM, hstM, habM⟩ := Cond.instanceMethod_spec hd
  obtain ⟨k, hk, hni⟩ := nf mk hnamed
  have a := findClass_of_methodNamed hnamed
  have f := State.methodFound?_of_named hnamed hm
  have hnamed' : s.methodNamed? ⟨y.cls, y.name, y.desc⟩ = some mk := hnamed
  simp [Cond.before, Cond.holds, Cond.value, a, f, hnamed', hk, hni]
theorem own_neI {a : Array Value} {s : State} {t : Term} {n x : Int32} (e : t.eval a s none [] s = some (.int x)) (h : (Jvm.Cond.not (.eq t (.int n))).value a s none s [] = some true) : ¬ (x = n) := by
  have h := not_v h
  simp only [Cond.value, Term.eval, e] at h
  simpa using h
theorem own_eqR {a : Array Value} {s : State} {t u : Term} {b : Addr} (hu : u.eval a s none [] s = some (.ref b)) (h : (Jvm.Cond.eq t u).value a s none s [] = some true) : t.eval a s none [] s = some (.ref b) := by
  simp only [Cond.value, hu] at h
  cases ht : t.eval a s none [] s with
  | none => simp [ht] at h
  | some x => cases x <;> simp [ht] at h; rw [h]
abbrev Y0 : MethodName := ⟨"com/example/bondwire/bondwire/model/FieldType", "isDecimal", "()Z"⟩
abbrev FA1 (Z : State) (h : Heap) (a : Addr) (v : Value) : Prop := Fld Z h a "com/example/bondwire/bondwire/model/FieldType" "decimals" "I" v
abbrev EA2 (Z : State) (h : Heap) (a : Addr) : Prop := Exa Z h a "com/example/bondwire/bondwire/model/FieldType"
abbrev SA3 (Z : State) (h : Heap) (v : Value) : Prop := Sta Z h "com/example/bondwire/bondwire/model/FieldType" "TEXT" "Lcom/example/bondwire/bondwire/model/FieldType;" v
abbrev SA4 (Z : State) (h : Heap) (v : Value) : Prop := Sta Z h "com/example/bondwire/bondwire/model/FieldType" "AMOUNT" "Lcom/example/bondwire/bondwire/model/FieldType;" v
abbrev SA5 (Z : State) (h : Heap) (v : Value) : Prop := Sta Z h "com/example/bondwire/bondwire/model/FieldType" "PRICE" "Lcom/example/bondwire/bondwire/model/FieldType;" v
abbrev SA6 (Z : State) (h : Heap) (v : Value) : Prop := Sta Z h "com/example/bondwire/bondwire/model/FieldType" "TIMESTAMP" "Lcom/example/bondwire/bondwire/model/FieldType;" v
abbrev SA7 (Z : State) (h : Heap) (v : Value) : Prop := Sta Z h "com/example/bondwire/bondwire/model/FieldType" "QTY" "Lcom/example/bondwire/bondwire/model/FieldType;" v
abbrev HW (Z : State) (a0 : Array Value) : Prop := ∀ d ∈ tables_1, d.before a0 Z = true
def Q0 (n0 : Nat) (v : Option Value) (L : List Loc) : Prop := v = some (.int (1 : Int32)) ∧ Fr n0 L
theorem d_0 : decode prog_13_method_5_code 0 = .ok (.aload_n 0, 1) := by decide +kernel
theorem d_1 : decode prog_13_method_5_code 1 = .ok (.getfield 46, 3) := by decide +kernel
theorem d_2 : decode prog_13_method_5_code 4 = .ok (.ifCond .le 7, 3) := by decide +kernel
theorem d_3 : decode prog_13_method_5_code 11 = .ok (.iconst 0, 1) := by decide +kernel
theorem d_4 : decode prog_13_method_5_code 12 = .ok (.ireturn, 1) := by decide +kernel
theorem ef_5 (m : MethodId) (a1 : Addr) : entryFrame m #[(.ref a1)] 1 = mkF m 0 #[rv a1] [] := by first | (simp [entryFrame, mkF, argsToLocals, Value.category]; done) | rfl
theorem pn_6 : plainName "com/example/bondwire/bondwire/model/FieldType" = true := by first | (simp [plainName, overriddenIn]; done) | decide +kernel
-- com/example/bondwire/bondwire/model/FieldType.isDecimal()Z
def Q1_isDecimal (Z : State) (a1 : Addr) (h0 : Heap) (n0 : Nat) (v : Option Value) (h : Heap) (L : List Loc) : Prop := v = some (.int (0 : Int32)) ∧ Fr n0 L ∧ h = h0
set_option maxRecDepth 65536 in
set_option maxHeartbeats 40000000 in
theorem rm1_isDecimal (l : Launch) (Z : State) (a0 : Array Value) (hw : HW Z a0) (a1 : Addr) (h0 : Heap) (n0 : Nat) (O0 : Old Z n0 h0) (F_0 : FA1 Z Z.heap a1 (.int (0 : Int32))) :
    Met l Z [] Y0 prog_13_method_5_code 1 (some .boolean) ({ frames := 0, cells := 0, slots := 0, locals := 0 } : Room) #[(.ref a1)] h0 (Q1_isDecimal Z a1 h0 n0) := by
  have W := fun (i : Nat) {c : Jvm.Cond} (q : tables_1[i]? = some c) => hw c (List.mem_of_getElem? q)
  refine own_mk (plainFor_of_name pn_6) ?_
  intro p e s m below meth c s₁ hZ hx hby hml hown hnm hret hlk X0 e0
  have N0 := Fr.nil n0
  obtain ⟨T1, X1, e1, st1⟩ := getF X0 hx hZ hown (host := "") (Or.inl (W 9 rfl)) Via.refl e0 (F_0.ext O0.2) (g := (mkF m 1 #[rv a1] [(.ref a1)])) rfl rfl (hb hby d_1)
  refine ⟨T1, some (.int (0 : Int32)), _, _, _, X1, by decide, by decide, nofun, ?_, fun fs hr => castTop (ef_5 m a1) ?_⟩
  · show Q1_isDecimal Z a1 h0 n0 _ T1.heap _
    rw [e1]
    exact ⟨rfl, N0, rfl⟩
  · show SS p e below s₁ m 0 #[rv a1] [] _
    refine XS.aloadN X0.here hx rfl (hb hby d_0) rfl rfl ?_
    show SS p e below s₁ m 1 #[rv a1] [(.ref a1)] _
    refine st1 _ ?_
    show SS p e below T1 m 4 #[rv a1] [(.int (0 : Int32))] _
    refine XS.ifYes X1.here hx rfl (pc0 := 4) (pc' := 11) rfl (hb hby d_2) rfl ((if0 _ _).trans (flt (by decide : ¬ ((0 : Int32) < (0 : Int32)))).2.2.2) (by decide) (by decide) ?_
    show SS p e below T1 m 11 #[rv a1] [] _
    refine XS.iconst X1.here hx rfl (hb hby d_3) ?_
    show SS p e below T1 m 12 #[rv a1] [(.int (0 : Int32))] _
    exact retN X1 hx (t := .boolean) hret (by simp) (hb hby d_4) hr
theorem pd_7 : parseMethodDescriptor "()Z" = some ⟨[], some .boolean⟩ := by decide +kernel
theorem ef_8 (m : MethodId) (p1 : Int32) : entryFrame m #[(.int p1)] maxLocals = mkF m 0 #[iv p1, .unset, .unset, .unset] [] := by first | (simp [entryFrame, mkF, argsToLocals, Value.category]; done) | rfl
theorem pn_9 : plainName "com/example/bondwire/bondwire/model/FieldTypeIsDecimalPinLaw" = true := by first | (simp [plainName, overriddenIn]; done) | decide +kernel
set_option maxRecDepth 65536 in
set_option maxHeartbeats 40000000 in
theorem rm0_0 (l : Launch) (Z : State) (a0 : Array Value) (hw : HW Z a0) (ws : List Jvm.Cond) (p1 : Int32) (o_TEXT : Addr) (o_AMOUNT : Addr) (o_PRICE : Addr) (o_TIMESTAMP : Addr) (o_QTY : Addr) (h0 : Heap) (n0 : Nat) (O0 : Old Z n0 h0) (S_o_TEXT : SA3 Z Z.heap (.ref o_TEXT)) (E_o_TEXT : EA2 Z Z.heap o_TEXT) (S_o_AMOUNT : SA4 Z Z.heap (.ref o_AMOUNT)) (E_o_AMOUNT : EA2 Z Z.heap o_AMOUNT) (S_o_PRICE : SA5 Z Z.heap (.ref o_PRICE)) (E_o_PRICE : EA2 Z Z.heap o_PRICE) (S_o_TIMESTAMP : SA6 Z Z.heap (.ref o_TIMESTAMP)) (E_o_TIMESTAMP : EA2 Z Z.heap o_TIMESTAMP) (S_o_QTY : SA7 Z Z.heap (.ref o_QTY)) (E_o_QTY : EA2 Z Z.heap o_QTY) (F_o_TEXT_decimals : FA1 Z Z.heap o_TEXT (.int (0 : Int32))) (F_o_AMOUNT_decimals : FA1 Z Z.heap o_AMOUNT (.int (4 : Int32))) (F_o_PRICE_decimals : FA1 Z Z.heap o_PRICE (.int (4 : Int32))) (F_o_TIMESTAMP_decimals : FA1 Z Z.heap o_TIMESTAMP (.int (0 : Int32))) (F_o_QTY_decimals : FA1 Z Z.heap o_QTY (.int (2 : Int32))) (hs : ((p1 &&& (2147483647 : Int32)) % (5 : Int32)) = (0 : Int32)) :
    Met l Z ws x code maxLocals ret room_1 #[(.int p1)] h0 (fun v _ L => Q0 n0 v L) := by
  have W := fun (i : Nat) {c : Jvm.Cond} (q : tables_1[i]? = some c) => hw c (List.mem_of_getElem? q)
  refine own_mk (plainFor_of_name pn_9) ?_
  intro p e s m below meth c s₁ hZ hx hby hml hown hnm hret hlk X0 e0
  have N0 := Fr.nil n0
  obtain ⟨T1, X1, e1, st1⟩ := getS2 X0 hx hZ hown (host := "") (Or.inl (W 1 rfl)) Via.refl e0 (S_o_TEXT.ext O0.2) (g := (mkF m 11 #[iv p1, iv (0 : Int32), .unset, .unset] [])) rfl (hb hby at_11)
  obtain ⟨_, T2, L2, X2, hQ2, st2⟩ := own_cv X1 hx hZ hown hml (W 4 rfl) (W 5 rfl) (notFace_of_selects (W 7 rfl)) (W 7 rfl) (W 6 rfl) (W 2 rfl) (W 8 rfl) (rm1_isDecimal l Z a0 hw o_TEXT h0 n0 O0 (F_o_TEXT_decimals)) e1 (E_o_TEXT.ext O0.2) (hb hby at_69) 0 #[iv p1, iv (0 : Int32), rv o_TEXT, iv (0 : Int32)] [] [] pd_7 (by decide) rfl rfl rfl (Nat.le_of_eq rfl)
  obtain ⟨rfl, N2q, K2⟩ := hQ2
  have N3 := Fr.app N0 N2q
  refine ⟨T2, some (.int (1 : Int32)), _, _, _, X2, by decide, by decide, nofun, ?_, fun fs hr => castTop (ef_8 m p1) ?_⟩
  · exact ⟨rfl, N3⟩
  · show SS p e below s₁ m 0 #[iv p1, .unset, .unset, .unset] [] _
    refine XS.iloadN X0.here hx rfl (hb hby at_0) rfl ?_
    show SS p e below s₁ m 1 #[iv p1, .unset, .unset, .unset] [(.int p1)] _
    refine X0.ldcInt hx hown (mvT hZ (W 0 rfl)) (g := (mkF m 1 #[iv p1, .unset, .unset, .unset] [(.int p1)])) rfl (hb hby at_1) _ ?_
    show SS p e below s₁ m 3 #[iv p1, .unset, .unset, .unset] [(.int (2147483647 : Int32)), (.int p1)] _
    refine XS.iand X0.here hx rfl (hb hby at_3) rfl ?_
    show SS p e below s₁ m 4 #[iv p1, .unset, .unset, .unset] [(.int (p1 &&& (2147483647 : Int32)))] _
    refine XS.iconst X0.here hx rfl (hb hby at_4) ?_
    show SS p e below s₁ m 5 #[iv p1, .unset, .unset, .unset] [(.int (5 : Int32)), (.int (p1 &&& (2147483647 : Int32)))] _
    refine iremM (g := (mkF m 5 #[iv p1, .unset, .unset, .unset] [(.int (5 : Int32)), (.int (p1 &&& (2147483647 : Int32)))])) X0 hx rfl (hb hby at_5) rfl (by decide : ¬ ((5 : Int32) = (0 : Int32))) ?_
    rw [hs]
    show SS p e below s₁ m 6 #[iv p1, .unset, .unset, .unset] [(.int (0 : Int32))] _
    refine XS.istoreN X0.here hx rfl (hb hby at_6) rfl (l' := #[iv p1, iv (0 : Int32), .unset, .unset]) rfl ?_
    show SS p e below s₁ m 7 #[iv p1, iv (0 : Int32), .unset, .unset] [] _
    refine XS.iloadN X0.here hx rfl (hb hby at_7) rfl ?_
    show SS p e below s₁ m 8 #[iv p1, iv (0 : Int32), .unset, .unset] [(.int (0 : Int32))] _
    refine XS.ifNo X0.here hx rfl (hb hby at_8) rfl ((if0 _ _).trans (teq (by decide : (0 : Int32) = (0 : Int32))).2) ?_
    show SS p e below s₁ m 11 #[iv p1, iv (0 : Int32), .unset, .unset] [] _
    refine st1 _ ?_
    show SS p e below T1 m 14 #[iv p1, iv (0 : Int32), .unset, .unset] [(.ref o_TEXT)] _
    refine XS.astoreN X1.here hx rfl (hb hby at_14) rfl rfl (l' := #[iv p1, iv (0 : Int32), rv o_TEXT, .unset]) rfl ?_
    show SS p e below T1 m 15 #[iv p1, iv (0 : Int32), rv o_TEXT, .unset] [] _
    refine XS.iconst X1.here hx rfl (hb hby at_15) ?_
    show SS p e below T1 m 16 #[iv p1, iv (0 : Int32), rv o_TEXT, .unset] [(.int (0 : Int32))] _
    refine XS.istoreN X1.here hx rfl (hb hby at_16) rfl (l' := #[iv p1, iv (0 : Int32), rv o_TEXT, iv (0 : Int32)]) rfl ?_
    show SS p e below T1 m 17 #[iv p1, iv (0 : Int32), rv o_TEXT, iv (0 : Int32)] [] _
    refine XS.goto X1.here hx rfl (pc0 := 17) (pc' := 68) rfl (hb hby at_17) (by decide) (by decide) ?_
    refine XS.aloadN X1.here hx rfl (hb hby at_68) rfl rfl ?_
    show SS p e below T1 m 69 #[iv p1, iv (0 : Int32), rv o_TEXT, iv (0 : Int32)] [(.ref o_TEXT)] _
    refine st2 _ ?_
    show SS p e below T2 m 72 #[iv p1, iv (0 : Int32), rv o_TEXT, iv (0 : Int32)] [(.int (0 : Int32))] _
    refine XS.iloadN X2.here hx rfl (hb hby at_72) rfl ?_
    show SS p e below T2 m 73 #[iv p1, iv (0 : Int32), rv o_TEXT, iv (0 : Int32)] [(.int (0 : Int32)), (.int (0 : Int32))] _
    refine XS.icmpNo X2.here hx rfl (hb hby at_73) rfl (teq (by decide : (0 : Int32) = (0 : Int32))).2 ?_
    show SS p e below T2 m 76 #[iv p1, iv (0 : Int32), rv o_TEXT, iv (0 : Int32)] [] _
    refine XS.iconst X2.here hx rfl (hb hby at_76) ?_
    refine XS.goto X2.here hx rfl (pc0 := 77) (pc' := 81) rfl (hb hby at_77) (by decide) (by decide) ?_
    show SS p e below T2 m 81 #[iv p1, iv (0 : Int32), rv o_TEXT, iv (0 : Int32)] [(.int (1 : Int32))] _
    exact retN X2 hx (t := .boolean) hret (by simp) (hb hby at_81) hr
theorem d_10 : decode prog_13_method_5_code 7 = .ok (.iconst 1, 1) := by decide +kernel
theorem d_11 : decode prog_13_method_5_code 8 = .ok (.goto 4, 3) := by decide +kernel
-- com/example/bondwire/bondwire/model/FieldType.isDecimal()Z
def Q2_isDecimal (Z : State) (a1 : Addr) (h0 : Heap) (n0 : Nat) (v : Option Value) (h : Heap) (L : List Loc) : Prop := v = some (.int (1 : Int32)) ∧ Fr n0 L ∧ h = h0
set_option maxRecDepth 65536 in
set_option maxHeartbeats 40000000 in
theorem rm2_isDecimal (l : Launch) (Z : State) (a0 : Array Value) (hw : HW Z a0) (a1 : Addr) (h0 : Heap) (n0 : Nat) (O0 : Old Z n0 h0) (F_0 : FA1 Z Z.heap a1 (.int (4 : Int32))) :
    Met l Z [] Y0 prog_13_method_5_code 1 (some .boolean) ({ frames := 0, cells := 0, slots := 0, locals := 0 } : Room) #[(.ref a1)] h0 (Q2_isDecimal Z a1 h0 n0) := by
  have W := fun (i : Nat) {c : Jvm.Cond} (q : tables_1[i]? = some c) => hw c (List.mem_of_getElem? q)
  refine own_mk (plainFor_of_name pn_6) ?_
  intro p e s m below meth c s₁ hZ hx hby hml hown hnm hret hlk X0 e0
  have N0 := Fr.nil n0
  obtain ⟨T1, X1, e1, st1⟩ := getF X0 hx hZ hown (host := "") (Or.inl (W 9 rfl)) Via.refl e0 (F_0.ext O0.2) (g := (mkF m 1 #[rv a1] [(.ref a1)])) rfl rfl (hb hby d_1)
  refine ⟨T1, some (.int (1 : Int32)), _, _, _, X1, by decide, by decide, nofun, ?_, fun fs hr => castTop (ef_5 m a1) ?_⟩
  · show Q2_isDecimal Z a1 h0 n0 _ T1.heap _
    rw [e1]
    exact ⟨rfl, N0, rfl⟩
  · show SS p e below s₁ m 0 #[rv a1] [] _
    refine XS.aloadN X0.here hx rfl (hb hby d_0) rfl rfl ?_
    show SS p e below s₁ m 1 #[rv a1] [(.ref a1)] _
    refine st1 _ ?_
    show SS p e below T1 m 4 #[rv a1] [(.int (4 : Int32))] _
    refine XS.ifNo X1.here hx rfl (hb hby d_2) rfl ((if0 _ _).trans (tlt (by decide : (0 : Int32) < (4 : Int32))).2.2.2) ?_
    show SS p e below T1 m 7 #[rv a1] [] _
    refine XS.iconst X1.here hx rfl (hb hby d_10) ?_
    refine XS.goto X1.here hx rfl (pc0 := 8) (pc' := 12) rfl (hb hby d_11) (by decide) (by decide) ?_
    show SS p e below T1 m 12 #[rv a1] [(.int (1 : Int32))] _
    exact retN X1 hx (t := .boolean) hret (by simp) (hb hby d_4) hr
set_option maxRecDepth 65536 in
set_option maxHeartbeats 40000000 in
theorem rm0_1 (l : Launch) (Z : State) (a0 : Array Value) (hw : HW Z a0) (ws : List Jvm.Cond) (p1 : Int32) (o_TEXT : Addr) (o_AMOUNT : Addr) (o_PRICE : Addr) (o_TIMESTAMP : Addr) (o_QTY : Addr) (h0 : Heap) (n0 : Nat) (O0 : Old Z n0 h0) (S_o_TEXT : SA3 Z Z.heap (.ref o_TEXT)) (E_o_TEXT : EA2 Z Z.heap o_TEXT) (S_o_AMOUNT : SA4 Z Z.heap (.ref o_AMOUNT)) (E_o_AMOUNT : EA2 Z Z.heap o_AMOUNT) (S_o_PRICE : SA5 Z Z.heap (.ref o_PRICE)) (E_o_PRICE : EA2 Z Z.heap o_PRICE) (S_o_TIMESTAMP : SA6 Z Z.heap (.ref o_TIMESTAMP)) (E_o_TIMESTAMP : EA2 Z Z.heap o_TIMESTAMP) (S_o_QTY : SA7 Z Z.heap (.ref o_QTY)) (E_o_QTY : EA2 Z Z.heap o_QTY) (F_o_TEXT_decimals : FA1 Z Z.heap o_TEXT (.int (0 : Int32))) (F_o_AMOUNT_decimals : FA1 Z Z.heap o_AMOUNT (.int (4 : Int32))) (F_o_PRICE_decimals : FA1 Z Z.heap o_PRICE (.int (4 : Int32))) (F_o_TIMESTAMP_decimals : FA1 Z Z.heap o_TIMESTAMP (.int (0 : Int32))) (F_o_QTY_decimals : FA1 Z Z.heap o_QTY (.int (2 : Int32))) (hs : ((p1 &&& (2147483647 : Int32)) % (5 : Int32)) = (1 : Int32)) :
    Met l Z ws x code maxLocals ret room_1 #[(.int p1)] h0 (fun v _ L => Q0 n0 v L) := by
  have W := fun (i : Nat) {c : Jvm.Cond} (q : tables_1[i]? = some c) => hw c (List.mem_of_getElem? q)
  refine own_mk (plainFor_of_name pn_9) ?_
  intro p e s m below meth c s₁ hZ hx hby hml hown hnm hret hlk X0 e0
  have N0 := Fr.nil n0
  obtain ⟨T1, X1, e1, st1⟩ := getS2 X0 hx hZ hown (host := "") (Or.inl (W 13 rfl)) Via.refl e0 (S_o_PRICE.ext O0.2) (g := (mkF m 25 #[iv p1, iv (1 : Int32), .unset, .unset] [])) rfl (hb hby at_25)
  obtain ⟨_, T2, L2, X2, hQ2, st2⟩ := own_cv X1 hx hZ hown hml (W 4 rfl) (W 5 rfl) (notFace_of_selects (W 7 rfl)) (W 7 rfl) (W 6 rfl) (W 2 rfl) (W 8 rfl) (rm2_isDecimal l Z a0 hw o_PRICE h0 n0 O0 (F_o_PRICE_decimals)) e1 (E_o_PRICE.ext O0.2) (hb hby at_69) 0 #[iv p1, iv (1 : Int32), rv o_PRICE, iv (1 : Int32)] [] [] pd_7 (by decide) rfl rfl rfl (Nat.le_of_eq rfl)
  obtain ⟨rfl, N2q, K2⟩ := hQ2
  have N3 := Fr.app N0 N2q
  refine ⟨T2, some (.int (1 : Int32)), _, _, _, X2, by decide, by decide, nofun, ?_, fun fs hr => castTop (ef_8 m p1) ?_⟩
  · exact ⟨rfl, N3⟩
  · show SS p e below s₁ m 0 #[iv p1, .unset, .unset, .unset] [] _
    refine XS.iloadN X0.here hx rfl (hb hby at_0) rfl ?_
    show SS p e below s₁ m 1 #[iv p1, .unset, .unset, .unset] [(.int p1)] _
    refine X0.ldcInt hx hown (mvT hZ (W 0 rfl)) (g := (mkF m 1 #[iv p1, .unset, .unset, .unset] [(.int p1)])) rfl (hb hby at_1) _ ?_
    show SS p e below s₁ m 3 #[iv p1, .unset, .unset, .unset] [(.int (2147483647 : Int32)), (.int p1)] _
    refine XS.iand X0.here hx rfl (hb hby at_3) rfl ?_
    show SS p e below s₁ m 4 #[iv p1, .unset, .unset, .unset] [(.int (p1 &&& (2147483647 : Int32)))] _
    refine XS.iconst X0.here hx rfl (hb hby at_4) ?_
    show SS p e below s₁ m 5 #[iv p1, .unset, .unset, .unset] [(.int (5 : Int32)), (.int (p1 &&& (2147483647 : Int32)))] _
    refine iremM (g := (mkF m 5 #[iv p1, .unset, .unset, .unset] [(.int (5 : Int32)), (.int (p1 &&& (2147483647 : Int32)))])) X0 hx rfl (hb hby at_5) rfl (by decide : ¬ ((5 : Int32) = (0 : Int32))) ?_
    rw [hs]
    show SS p e below s₁ m 6 #[iv p1, .unset, .unset, .unset] [(.int (1 : Int32))] _
    refine XS.istoreN X0.here hx rfl (hb hby at_6) rfl (l' := #[iv p1, iv (1 : Int32), .unset, .unset]) rfl ?_
    show SS p e below s₁ m 7 #[iv p1, iv (1 : Int32), .unset, .unset] [] _
    refine XS.iloadN X0.here hx rfl (hb hby at_7) rfl ?_
    show SS p e below s₁ m 8 #[iv p1, iv (1 : Int32), .unset, .unset] [(.int (1 : Int32))] _
    refine XS.ifYes X0.here hx rfl (pc0 := 8) (pc' := 20) rfl (hb hby at_8) rfl ((if0 _ _).trans (feq (by decide : ¬ ((1 : Int32) = (0 : Int32)))).2) (by decide) (by decide) ?_
    show SS p e below s₁ m 20 #[iv p1, iv (1 : Int32), .unset, .unset] [] _
    refine XS.iloadN X0.here hx rfl (hb hby at_20) rfl ?_
    refine XS.iconst X0.here hx rfl (hb hby at_21) ?_
    show SS p e below s₁ m 22 #[iv p1, iv (1 : Int32), .unset, .unset] [(.int (1 : Int32)), (.int (1 : Int32))] _
    refine XS.icmpNo X0.here hx rfl (hb hby at_22) rfl (teq (by decide : (1 : Int32) = (1 : Int32))).2 ?_
    show SS p e below s₁ m 25 #[iv p1, iv (1 : Int32), .unset, .unset] [] _
    refine st1 _ ?_
    show SS p e below T1 m 28 #[iv p1, iv (1 : Int32), .unset, .unset] [(.ref o_PRICE)] _
    refine XS.astoreN X1.here hx rfl (hb hby at_28) rfl rfl (l' := #[iv p1, iv (1 : Int32), rv o_PRICE, .unset]) rfl ?_
    show SS p e below T1 m 29 #[iv p1, iv (1 : Int32), rv o_PRICE, .unset] [] _
    refine XS.iconst X1.here hx rfl (hb hby at_29) ?_
    show SS p e below T1 m 30 #[iv p1, iv (1 : Int32), rv o_PRICE, .unset] [(.int (1 : Int32))] _
    refine XS.istoreN X1.here hx rfl (hb hby at_30) rfl (l' := #[iv p1, iv (1 : Int32), rv o_PRICE, iv (1 : Int32)]) rfl ?_
    show SS p e below T1 m 31 #[iv p1, iv (1 : Int32), rv o_PRICE, iv (1 : Int32)] [] _
    refine XS.goto X1.here hx rfl (pc0 := 31) (pc' := 68) rfl (hb hby at_31) (by decide) (by decide) ?_
    refine XS.aloadN X1.here hx rfl (hb hby at_68) rfl rfl ?_
    show SS p e below T1 m 69 #[iv p1, iv (1 : Int32), rv o_PRICE, iv (1 : Int32)] [(.ref o_PRICE)] _
    refine st2 _ ?_
    show SS p e below T2 m 72 #[iv p1, iv (1 : Int32), rv o_PRICE, iv (1 : Int32)] [(.int (1 : Int32))] _
    refine XS.iloadN X2.here hx rfl (hb hby at_72) rfl ?_
    show SS p e below T2 m 73 #[iv p1, iv (1 : Int32), rv o_PRICE, iv (1 : Int32)] [(.int (1 : Int32)), (.int (1 : Int32))] _
    refine XS.icmpNo X2.here hx rfl (hb hby at_73) rfl (teq (by decide : (1 : Int32) = (1 : Int32))).2 ?_
    show SS p e below T2 m 76 #[iv p1, iv (1 : Int32), rv o_PRICE, iv (1 : Int32)] [] _
    refine XS.iconst X2.here hx rfl (hb hby at_76) ?_
    refine XS.goto X2.here hx rfl (pc0 := 77) (pc' := 81) rfl (hb hby at_77) (by decide) (by decide) ?_
    show SS p e below T2 m 81 #[iv p1, iv (1 : Int32), rv o_PRICE, iv (1 : Int32)] [(.int (1 : Int32))] _
    exact retN X2 hx (t := .boolean) hret (by simp) (hb hby at_81) hr
-- com/example/bondwire/bondwire/model/FieldType.isDecimal()Z
def Q3_isDecimal (Z : State) (a1 : Addr) (h0 : Heap) (n0 : Nat) (v : Option Value) (h : Heap) (L : List Loc) : Prop := v = some (.int (1 : Int32)) ∧ Fr n0 L ∧ h = h0
set_option maxRecDepth 65536 in
set_option maxHeartbeats 40000000 in
theorem rm3_isDecimal (l : Launch) (Z : State) (a0 : Array Value) (hw : HW Z a0) (a1 : Addr) (h0 : Heap) (n0 : Nat) (O0 : Old Z n0 h0) (F_0 : FA1 Z Z.heap a1 (.int (2 : Int32))) :
    Met l Z [] Y0 prog_13_method_5_code 1 (some .boolean) ({ frames := 0, cells := 0, slots := 0, locals := 0 } : Room) #[(.ref a1)] h0 (Q3_isDecimal Z a1 h0 n0) := by
  have W := fun (i : Nat) {c : Jvm.Cond} (q : tables_1[i]? = some c) => hw c (List.mem_of_getElem? q)
  refine own_mk (plainFor_of_name pn_6) ?_
  intro p e s m below meth c s₁ hZ hx hby hml hown hnm hret hlk X0 e0
  have N0 := Fr.nil n0
  obtain ⟨T1, X1, e1, st1⟩ := getF X0 hx hZ hown (host := "") (Or.inl (W 9 rfl)) Via.refl e0 (F_0.ext O0.2) (g := (mkF m 1 #[rv a1] [(.ref a1)])) rfl rfl (hb hby d_1)
  refine ⟨T1, some (.int (1 : Int32)), _, _, _, X1, by decide, by decide, nofun, ?_, fun fs hr => castTop (ef_5 m a1) ?_⟩
  · show Q3_isDecimal Z a1 h0 n0 _ T1.heap _
    rw [e1]
    exact ⟨rfl, N0, rfl⟩
  · show SS p e below s₁ m 0 #[rv a1] [] _
    refine XS.aloadN X0.here hx rfl (hb hby d_0) rfl rfl ?_
    show SS p e below s₁ m 1 #[rv a1] [(.ref a1)] _
    refine st1 _ ?_
    show SS p e below T1 m 4 #[rv a1] [(.int (2 : Int32))] _
    refine XS.ifNo X1.here hx rfl (hb hby d_2) rfl ((if0 _ _).trans (tlt (by decide : (0 : Int32) < (2 : Int32))).2.2.2) ?_
    show SS p e below T1 m 7 #[rv a1] [] _
    refine XS.iconst X1.here hx rfl (hb hby d_10) ?_
    refine XS.goto X1.here hx rfl (pc0 := 8) (pc' := 12) rfl (hb hby d_11) (by decide) (by decide) ?_
    show SS p e below T1 m 12 #[rv a1] [(.int (1 : Int32))] _
    exact retN X1 hx (t := .boolean) hret (by simp) (hb hby d_4) hr
set_option maxRecDepth 65536 in
set_option maxHeartbeats 40000000 in
theorem rm0_2 (l : Launch) (Z : State) (a0 : Array Value) (hw : HW Z a0) (ws : List Jvm.Cond) (p1 : Int32) (o_TEXT : Addr) (o_AMOUNT : Addr) (o_PRICE : Addr) (o_TIMESTAMP : Addr) (o_QTY : Addr) (h0 : Heap) (n0 : Nat) (O0 : Old Z n0 h0) (S_o_TEXT : SA3 Z Z.heap (.ref o_TEXT)) (E_o_TEXT : EA2 Z Z.heap o_TEXT) (S_o_AMOUNT : SA4 Z Z.heap (.ref o_AMOUNT)) (E_o_AMOUNT : EA2 Z Z.heap o_AMOUNT) (S_o_PRICE : SA5 Z Z.heap (.ref o_PRICE)) (E_o_PRICE : EA2 Z Z.heap o_PRICE) (S_o_TIMESTAMP : SA6 Z Z.heap (.ref o_TIMESTAMP)) (E_o_TIMESTAMP : EA2 Z Z.heap o_TIMESTAMP) (S_o_QTY : SA7 Z Z.heap (.ref o_QTY)) (E_o_QTY : EA2 Z Z.heap o_QTY) (F_o_TEXT_decimals : FA1 Z Z.heap o_TEXT (.int (0 : Int32))) (F_o_AMOUNT_decimals : FA1 Z Z.heap o_AMOUNT (.int (4 : Int32))) (F_o_PRICE_decimals : FA1 Z Z.heap o_PRICE (.int (4 : Int32))) (F_o_TIMESTAMP_decimals : FA1 Z Z.heap o_TIMESTAMP (.int (0 : Int32))) (F_o_QTY_decimals : FA1 Z Z.heap o_QTY (.int (2 : Int32))) (hs : ((p1 &&& (2147483647 : Int32)) % (5 : Int32)) = (2 : Int32)) :
    Met l Z ws x code maxLocals ret room_1 #[(.int p1)] h0 (fun v _ L => Q0 n0 v L) := by
  have W := fun (i : Nat) {c : Jvm.Cond} (q : tables_1[i]? = some c) => hw c (List.mem_of_getElem? q)
  refine own_mk (plainFor_of_name pn_9) ?_
  intro p e s m below meth c s₁ hZ hx hby hml hown hnm hret hlk X0 e0
  have N0 := Fr.nil n0
  obtain ⟨T1, X1, e1, st1⟩ := getS2 X0 hx hZ hown (host := "") (Or.inl (W 17 rfl)) Via.refl e0 (S_o_QTY.ext O0.2) (g := (mkF m 39 #[iv p1, iv (2 : Int32), .unset, .unset] [])) rfl (hb hby at_39)
  obtain ⟨_, T2, L2, X2, hQ2, st2⟩ := own_cv X1 hx hZ hown hml (W 4 rfl) (W 5 rfl) (notFace_of_selects (W 7 rfl)) (W 7 rfl) (W 6 rfl) (W 2 rfl) (W 8 rfl) (rm3_isDecimal l Z a0 hw o_QTY h0 n0 O0 (F_o_QTY_decimals)) e1 (E_o_QTY.ext O0.2) (hb hby at_69) 0 #[iv p1, iv (2 : Int32), rv o_QTY, iv (1 : Int32)] [] [] pd_7 (by decide) rfl rfl rfl (Nat.le_of_eq rfl)
  obtain ⟨rfl, N2q, K2⟩ := hQ2
  have N3 := Fr.app N0 N2q
  refine ⟨T2, some (.int (1 : Int32)), _, _, _, X2, by decide, by decide, nofun, ?_, fun fs hr => castTop (ef_8 m p1) ?_⟩
  · exact ⟨rfl, N3⟩
  · show SS p e below s₁ m 0 #[iv p1, .unset, .unset, .unset] [] _
    refine XS.iloadN X0.here hx rfl (hb hby at_0) rfl ?_
    show SS p e below s₁ m 1 #[iv p1, .unset, .unset, .unset] [(.int p1)] _
    refine X0.ldcInt hx hown (mvT hZ (W 0 rfl)) (g := (mkF m 1 #[iv p1, .unset, .unset, .unset] [(.int p1)])) rfl (hb hby at_1) _ ?_
    show SS p e below s₁ m 3 #[iv p1, .unset, .unset, .unset] [(.int (2147483647 : Int32)), (.int p1)] _
    refine XS.iand X0.here hx rfl (hb hby at_3) rfl ?_
    show SS p e below s₁ m 4 #[iv p1, .unset, .unset, .unset] [(.int (p1 &&& (2147483647 : Int32)))] _
    refine XS.iconst X0.here hx rfl (hb hby at_4) ?_
    show SS p e below s₁ m 5 #[iv p1, .unset, .unset, .unset] [(.int (5 : Int32)), (.int (p1 &&& (2147483647 : Int32)))] _
    refine iremM (g := (mkF m 5 #[iv p1, .unset, .unset, .unset] [(.int (5 : Int32)), (.int (p1 &&& (2147483647 : Int32)))])) X0 hx rfl (hb hby at_5) rfl (by decide : ¬ ((5 : Int32) = (0 : Int32))) ?_
    rw [hs]
    show SS p e below s₁ m 6 #[iv p1, .unset, .unset, .unset] [(.int (2 : Int32))] _
    refine XS.istoreN X0.here hx rfl (hb hby at_6) rfl (l' := #[iv p1, iv (2 : Int32), .unset, .unset]) rfl ?_
    show SS p e below s₁ m 7 #[iv p1, iv (2 : Int32), .unset, .unset] [] _
    refine XS.iloadN X0.here hx rfl (hb hby at_7) rfl ?_
    show SS p e below s₁ m 8 #[iv p1, iv (2 : Int32), .unset, .unset] [(.int (2 : Int32))] _
    refine XS.ifYes X0.here hx rfl (pc0 := 8) (pc' := 20) rfl (hb hby at_8) rfl ((if0 _ _).trans (feq (by decide : ¬ ((2 : Int32) = (0 : Int32)))).2) (by decide) (by decide) ?_
    show SS p e below s₁ m 20 #[iv p1, iv (2 : Int32), .unset, .unset] [] _
    refine XS.iloadN X0.here hx rfl (hb hby at_20) rfl ?_
    refine XS.iconst X0.here hx rfl (hb hby at_21) ?_
    show SS p e below s₁ m 22 #[iv p1, iv (2 : Int32), .unset, .unset] [(.int (1 : Int32)), (.int (2 : Int32))] _
    refine XS.icmpYes X0.here hx rfl (pc0 := 22) (pc' := 34) rfl (hb hby at_22) rfl (feq (by decide : ¬ ((2 : Int32) = (1 : Int32)))).2 (by decide) (by decide) ?_
    show SS p e below s₁ m 34 #[iv p1, iv (2 : Int32), .unset, .unset] [] _
    refine XS.iloadN X0.here hx rfl (hb hby at_34) rfl ?_
    refine XS.iconst X0.here hx rfl (hb hby at_35) ?_
    show SS p e below s₁ m 36 #[iv p1, iv (2 : Int32), .unset, .unset] [(.int (2 : Int32)), (.int (2 : Int32))] _
    refine XS.icmpNo X0.here hx rfl (hb hby at_36) rfl (teq (by decide : (2 : Int32) = (2 : Int32))).2 ?_
    show SS p e below s₁ m 39 #[iv p1, iv (2 : Int32), .unset, .unset] [] _
    refine st1 _ ?_
    show SS p e below T1 m 42 #[iv p1, iv (2 : Int32), .unset, .unset] [(.ref o_QTY)] _
    refine XS.astoreN X1.here hx rfl (hb hby at_42) rfl rfl (l' := #[iv p1, iv (2 : Int32), rv o_QTY, .unset]) rfl ?_
    show SS p e below T1 m 43 #[iv p1, iv (2 : Int32), rv o_QTY, .unset] [] _
    refine XS.iconst X1.here hx rfl (hb hby at_43) ?_
    show SS p e below T1 m 44 #[iv p1, iv (2 : Int32), rv o_QTY, .unset] [(.int (1 : Int32))] _
    refine XS.istoreN X1.here hx rfl (hb hby at_44) rfl (l' := #[iv p1, iv (2 : Int32), rv o_QTY, iv (1 : Int32)]) rfl ?_
    show SS p e below T1 m 45 #[iv p1, iv (2 : Int32), rv o_QTY, iv (1 : Int32)] [] _
    refine XS.goto X1.here hx rfl (pc0 := 45) (pc' := 68) rfl (hb hby at_45) (by decide) (by decide) ?_
    refine XS.aloadN X1.here hx rfl (hb hby at_68) rfl rfl ?_
    show SS p e below T1 m 69 #[iv p1, iv (2 : Int32), rv o_QTY, iv (1 : Int32)] [(.ref o_QTY)] _
    refine st2 _ ?_
    show SS p e below T2 m 72 #[iv p1, iv (2 : Int32), rv o_QTY, iv (1 : Int32)] [(.int (1 : Int32))] _
    refine XS.iloadN X2.here hx rfl (hb hby at_72) rfl ?_
    show SS p e below T2 m 73 #[iv p1, iv (2 : Int32), rv o_QTY, iv (1 : Int32)] [(.int (1 : Int32)), (.int (1 : Int32))] _
    refine XS.icmpNo X2.here hx rfl (hb hby at_73) rfl (teq (by decide : (1 : Int32) = (1 : Int32))).2 ?_
    show SS p e below T2 m 76 #[iv p1, iv (2 : Int32), rv o_QTY, iv (1 : Int32)] [] _
    refine XS.iconst X2.here hx rfl (hb hby at_76) ?_
    refine XS.goto X2.here hx rfl (pc0 := 77) (pc' := 81) rfl (hb hby at_77) (by decide) (by decide) ?_
    show SS p e below T2 m 81 #[iv p1, iv (2 : Int32), rv o_QTY, iv (1 : Int32)] [(.int (1 : Int32))] _
    exact retN X2 hx (t := .boolean) hret (by simp) (hb hby at_81) hr
set_option maxRecDepth 65536 in
set_option maxHeartbeats 40000000 in
theorem rm0_3 (l : Launch) (Z : State) (a0 : Array Value) (hw : HW Z a0) (ws : List Jvm.Cond) (p1 : Int32) (o_TEXT : Addr) (o_AMOUNT : Addr) (o_PRICE : Addr) (o_TIMESTAMP : Addr) (o_QTY : Addr) (h0 : Heap) (n0 : Nat) (O0 : Old Z n0 h0) (S_o_TEXT : SA3 Z Z.heap (.ref o_TEXT)) (E_o_TEXT : EA2 Z Z.heap o_TEXT) (S_o_AMOUNT : SA4 Z Z.heap (.ref o_AMOUNT)) (E_o_AMOUNT : EA2 Z Z.heap o_AMOUNT) (S_o_PRICE : SA5 Z Z.heap (.ref o_PRICE)) (E_o_PRICE : EA2 Z Z.heap o_PRICE) (S_o_TIMESTAMP : SA6 Z Z.heap (.ref o_TIMESTAMP)) (E_o_TIMESTAMP : EA2 Z Z.heap o_TIMESTAMP) (S_o_QTY : SA7 Z Z.heap (.ref o_QTY)) (E_o_QTY : EA2 Z Z.heap o_QTY) (F_o_TEXT_decimals : FA1 Z Z.heap o_TEXT (.int (0 : Int32))) (F_o_AMOUNT_decimals : FA1 Z Z.heap o_AMOUNT (.int (4 : Int32))) (F_o_PRICE_decimals : FA1 Z Z.heap o_PRICE (.int (4 : Int32))) (F_o_TIMESTAMP_decimals : FA1 Z Z.heap o_TIMESTAMP (.int (0 : Int32))) (F_o_QTY_decimals : FA1 Z Z.heap o_QTY (.int (2 : Int32))) (hs : ((p1 &&& (2147483647 : Int32)) % (5 : Int32)) = (3 : Int32)) :
    Met l Z ws x code maxLocals ret room_1 #[(.int p1)] h0 (fun v _ L => Q0 n0 v L) := by
  have W := fun (i : Nat) {c : Jvm.Cond} (q : tables_1[i]? = some c) => hw c (List.mem_of_getElem? q)
  refine own_mk (plainFor_of_name pn_9) ?_
  intro p e s m below meth c s₁ hZ hx hby hml hown hnm hret hlk X0 e0
  have N0 := Fr.nil n0
  obtain ⟨T1, X1, e1, st1⟩ := getS2 X0 hx hZ hown (host := "") (Or.inl (W 11 rfl)) Via.refl e0 (S_o_AMOUNT.ext O0.2) (g := (mkF m 53 #[iv p1, iv (3 : Int32), .unset, .unset] [])) rfl (hb hby at_53)
  obtain ⟨_, T2, L2, X2, hQ2, st2⟩ := own_cv X1 hx hZ hown hml (W 4 rfl) (W 5 rfl) (notFace_of_selects (W 7 rfl)) (W 7 rfl) (W 6 rfl) (W 2 rfl) (W 8 rfl) (rm2_isDecimal l Z a0 hw o_AMOUNT h0 n0 O0 (F_o_AMOUNT_decimals)) e1 (E_o_AMOUNT.ext O0.2) (hb hby at_69) 0 #[iv p1, iv (3 : Int32), rv o_AMOUNT, iv (1 : Int32)] [] [] pd_7 (by decide) rfl rfl rfl (Nat.le_of_eq rfl)
  obtain ⟨rfl, N2q, K2⟩ := hQ2
  have N3 := Fr.app N0 N2q
  refine ⟨T2, some (.int (1 : Int32)), _, _, _, X2, by decide, by decide, nofun, ?_, fun fs hr => castTop (ef_8 m p1) ?_⟩
  · exact ⟨rfl, N3⟩
  · show SS p e below s₁ m 0 #[iv p1, .unset, .unset, .unset] [] _
    refine XS.iloadN X0.here hx rfl (hb hby at_0) rfl ?_
    show SS p e below s₁ m 1 #[iv p1, .unset, .unset, .unset] [(.int p1)] _
    refine X0.ldcInt hx hown (mvT hZ (W 0 rfl)) (g := (mkF m 1 #[iv p1, .unset, .unset, .unset] [(.int p1)])) rfl (hb hby at_1) _ ?_
    show SS p e below s₁ m 3 #[iv p1, .unset, .unset, .unset] [(.int (2147483647 : Int32)), (.int p1)] _
    refine XS.iand X0.here hx rfl (hb hby at_3) rfl ?_
    show SS p e below s₁ m 4 #[iv p1, .unset, .unset, .unset] [(.int (p1 &&& (2147483647 : Int32)))] _
    refine XS.iconst X0.here hx rfl (hb hby at_4) ?_
    show SS p e below s₁ m 5 #[iv p1, .unset, .unset, .unset] [(.int (5 : Int32)), (.int (p1 &&& (2147483647 : Int32)))] _
    refine iremM (g := (mkF m 5 #[iv p1, .unset, .unset, .unset] [(.int (5 : Int32)), (.int (p1 &&& (2147483647 : Int32)))])) X0 hx rfl (hb hby at_5) rfl (by decide : ¬ ((5 : Int32) = (0 : Int32))) ?_
    rw [hs]
    show SS p e below s₁ m 6 #[iv p1, .unset, .unset, .unset] [(.int (3 : Int32))] _
    refine XS.istoreN X0.here hx rfl (hb hby at_6) rfl (l' := #[iv p1, iv (3 : Int32), .unset, .unset]) rfl ?_
    show SS p e below s₁ m 7 #[iv p1, iv (3 : Int32), .unset, .unset] [] _
    refine XS.iloadN X0.here hx rfl (hb hby at_7) rfl ?_
    show SS p e below s₁ m 8 #[iv p1, iv (3 : Int32), .unset, .unset] [(.int (3 : Int32))] _
    refine XS.ifYes X0.here hx rfl (pc0 := 8) (pc' := 20) rfl (hb hby at_8) rfl ((if0 _ _).trans (feq (by decide : ¬ ((3 : Int32) = (0 : Int32)))).2) (by decide) (by decide) ?_
    show SS p e below s₁ m 20 #[iv p1, iv (3 : Int32), .unset, .unset] [] _
    refine XS.iloadN X0.here hx rfl (hb hby at_20) rfl ?_
    refine XS.iconst X0.here hx rfl (hb hby at_21) ?_
    show SS p e below s₁ m 22 #[iv p1, iv (3 : Int32), .unset, .unset] [(.int (1 : Int32)), (.int (3 : Int32))] _
    refine XS.icmpYes X0.here hx rfl (pc0 := 22) (pc' := 34) rfl (hb hby at_22) rfl (feq (by decide : ¬ ((3 : Int32) = (1 : Int32)))).2 (by decide) (by decide) ?_
    show SS p e below s₁ m 34 #[iv p1, iv (3 : Int32), .unset, .unset] [] _
    refine XS.iloadN X0.here hx rfl (hb hby at_34) rfl ?_
    refine XS.iconst X0.here hx rfl (hb hby at_35) ?_
    show SS p e below s₁ m 36 #[iv p1, iv (3 : Int32), .unset, .unset] [(.int (2 : Int32)), (.int (3 : Int32))] _
    refine XS.icmpYes X0.here hx rfl (pc0 := 36) (pc' := 48) rfl (hb hby at_36) rfl (feq (by decide : ¬ ((3 : Int32) = (2 : Int32)))).2 (by decide) (by decide) ?_
    show SS p e below s₁ m 48 #[iv p1, iv (3 : Int32), .unset, .unset] [] _
    refine XS.iloadN X0.here hx rfl (hb hby at_48) rfl ?_
    refine XS.iconst X0.here hx rfl (hb hby at_49) ?_
    show SS p e below s₁ m 50 #[iv p1, iv (3 : Int32), .unset, .unset] [(.int (3 : Int32)), (.int (3 : Int32))] _
    refine XS.icmpNo X0.here hx rfl (hb hby at_50) rfl (teq (by decide : (3 : Int32) = (3 : Int32))).2 ?_
    show SS p e below s₁ m 53 #[iv p1, iv (3 : Int32), .unset, .unset] [] _
    refine st1 _ ?_
    show SS p e below T1 m 56 #[iv p1, iv (3 : Int32), .unset, .unset] [(.ref o_AMOUNT)] _
    refine XS.astoreN X1.here hx rfl (hb hby at_56) rfl rfl (l' := #[iv p1, iv (3 : Int32), rv o_AMOUNT, .unset]) rfl ?_
    show SS p e below T1 m 57 #[iv p1, iv (3 : Int32), rv o_AMOUNT, .unset] [] _
    refine XS.iconst X1.here hx rfl (hb hby at_57) ?_
    show SS p e below T1 m 58 #[iv p1, iv (3 : Int32), rv o_AMOUNT, .unset] [(.int (1 : Int32))] _
    refine XS.istoreN X1.here hx rfl (hb hby at_58) rfl (l' := #[iv p1, iv (3 : Int32), rv o_AMOUNT, iv (1 : Int32)]) rfl ?_
    show SS p e below T1 m 59 #[iv p1, iv (3 : Int32), rv o_AMOUNT, iv (1 : Int32)] [] _
    refine XS.goto X1.here hx rfl (pc0 := 59) (pc' := 68) rfl (hb hby at_59) (by decide) (by decide) ?_
    refine XS.aloadN X1.here hx rfl (hb hby at_68) rfl rfl ?_
    show SS p e below T1 m 69 #[iv p1, iv (3 : Int32), rv o_AMOUNT, iv (1 : Int32)] [(.ref o_AMOUNT)] _
    refine st2 _ ?_
    show SS p e below T2 m 72 #[iv p1, iv (3 : Int32), rv o_AMOUNT, iv (1 : Int32)] [(.int (1 : Int32))] _
    refine XS.iloadN X2.here hx rfl (hb hby at_72) rfl ?_
    show SS p e below T2 m 73 #[iv p1, iv (3 : Int32), rv o_AMOUNT, iv (1 : Int32)] [(.int (1 : Int32)), (.int (1 : Int32))] _
    refine XS.icmpNo X2.here hx rfl (hb hby at_73) rfl (teq (by decide : (1 : Int32) = (1 : Int32))).2 ?_
    show SS p e below T2 m 76 #[iv p1, iv (3 : Int32), rv o_AMOUNT, iv (1 : Int32)] [] _
    refine XS.iconst X2.here hx rfl (hb hby at_76) ?_
    refine XS.goto X2.here hx rfl (pc0 := 77) (pc' := 81) rfl (hb hby at_77) (by decide) (by decide) ?_
    show SS p e below T2 m 81 #[iv p1, iv (3 : Int32), rv o_AMOUNT, iv (1 : Int32)] [(.int (1 : Int32))] _
    exact retN X2 hx (t := .boolean) hret (by simp) (hb hby at_81) hr
set_option maxRecDepth 65536 in
set_option maxHeartbeats 40000000 in
theorem rm0_4 (l : Launch) (Z : State) (a0 : Array Value) (hw : HW Z a0) (ws : List Jvm.Cond) (p1 : Int32) (o_TEXT : Addr) (o_AMOUNT : Addr) (o_PRICE : Addr) (o_TIMESTAMP : Addr) (o_QTY : Addr) (h0 : Heap) (n0 : Nat) (O0 : Old Z n0 h0) (S_o_TEXT : SA3 Z Z.heap (.ref o_TEXT)) (E_o_TEXT : EA2 Z Z.heap o_TEXT) (S_o_AMOUNT : SA4 Z Z.heap (.ref o_AMOUNT)) (E_o_AMOUNT : EA2 Z Z.heap o_AMOUNT) (S_o_PRICE : SA5 Z Z.heap (.ref o_PRICE)) (E_o_PRICE : EA2 Z Z.heap o_PRICE) (S_o_TIMESTAMP : SA6 Z Z.heap (.ref o_TIMESTAMP)) (E_o_TIMESTAMP : EA2 Z Z.heap o_TIMESTAMP) (S_o_QTY : SA7 Z Z.heap (.ref o_QTY)) (E_o_QTY : EA2 Z Z.heap o_QTY) (F_o_TEXT_decimals : FA1 Z Z.heap o_TEXT (.int (0 : Int32))) (F_o_AMOUNT_decimals : FA1 Z Z.heap o_AMOUNT (.int (4 : Int32))) (F_o_PRICE_decimals : FA1 Z Z.heap o_PRICE (.int (4 : Int32))) (F_o_TIMESTAMP_decimals : FA1 Z Z.heap o_TIMESTAMP (.int (0 : Int32))) (F_o_QTY_decimals : FA1 Z Z.heap o_QTY (.int (2 : Int32))) (hs : ((p1 &&& (2147483647 : Int32)) % (5 : Int32)) = (4 : Int32)) :
    Met l Z ws x code maxLocals ret room_1 #[(.int p1)] h0 (fun v _ L => Q0 n0 v L) := by
  have W := fun (i : Nat) {c : Jvm.Cond} (q : tables_1[i]? = some c) => hw c (List.mem_of_getElem? q)
  refine own_mk (plainFor_of_name pn_9) ?_
  intro p e s m below meth c s₁ hZ hx hby hml hown hnm hret hlk X0 e0
  have N0 := Fr.nil n0
  obtain ⟨T1, X1, e1, st1⟩ := getS2 X0 hx hZ hown (host := "") (Or.inl (W 15 rfl)) Via.refl e0 (S_o_TIMESTAMP.ext O0.2) (g := (mkF m 62 #[iv p1, iv (4 : Int32), .unset, .unset] [])) rfl (hb hby at_62)
  obtain ⟨_, T2, L2, X2, hQ2, st2⟩ := own_cv X1 hx hZ hown hml (W 4 rfl) (W 5 rfl) (notFace_of_selects (W 7 rfl)) (W 7 rfl) (W 6 rfl) (W 2 rfl) (W 8 rfl) (rm1_isDecimal l Z a0 hw o_TIMESTAMP h0 n0 O0 (F_o_TIMESTAMP_decimals)) e1 (E_o_TIMESTAMP.ext O0.2) (hb hby at_69) 0 #[iv p1, iv (4 : Int32), rv o_TIMESTAMP, iv (0 : Int32)] [] [] pd_7 (by decide) rfl rfl rfl (Nat.le_of_eq rfl)
  obtain ⟨rfl, N2q, K2⟩ := hQ2
  have N3 := Fr.app N0 N2q
  refine ⟨T2, some (.int (1 : Int32)), _, _, _, X2, by decide, by decide, nofun, ?_, fun fs hr => castTop (ef_8 m p1) ?_⟩
  · exact ⟨rfl, N3⟩
  · show SS p e below s₁ m 0 #[iv p1, .unset, .unset, .unset] [] _
    refine XS.iloadN X0.here hx rfl (hb hby at_0) rfl ?_
    show SS p e below s₁ m 1 #[iv p1, .unset, .unset, .unset] [(.int p1)] _
    refine X0.ldcInt hx hown (mvT hZ (W 0 rfl)) (g := (mkF m 1 #[iv p1, .unset, .unset, .unset] [(.int p1)])) rfl (hb hby at_1) _ ?_
    show SS p e below s₁ m 3 #[iv p1, .unset, .unset, .unset] [(.int (2147483647 : Int32)), (.int p1)] _
    refine XS.iand X0.here hx rfl (hb hby at_3) rfl ?_
    show SS p e below s₁ m 4 #[iv p1, .unset, .unset, .unset] [(.int (p1 &&& (2147483647 : Int32)))] _
    refine XS.iconst X0.here hx rfl (hb hby at_4) ?_
    show SS p e below s₁ m 5 #[iv p1, .unset, .unset, .unset] [(.int (5 : Int32)), (.int (p1 &&& (2147483647 : Int32)))] _
    refine iremM (g := (mkF m 5 #[iv p1, .unset, .unset, .unset] [(.int (5 : Int32)), (.int (p1 &&& (2147483647 : Int32)))])) X0 hx rfl (hb hby at_5) rfl (by decide : ¬ ((5 : Int32) = (0 : Int32))) ?_
    rw [hs]
    show SS p e below s₁ m 6 #[iv p1, .unset, .unset, .unset] [(.int (4 : Int32))] _
    refine XS.istoreN X0.here hx rfl (hb hby at_6) rfl (l' := #[iv p1, iv (4 : Int32), .unset, .unset]) rfl ?_
    show SS p e below s₁ m 7 #[iv p1, iv (4 : Int32), .unset, .unset] [] _
    refine XS.iloadN X0.here hx rfl (hb hby at_7) rfl ?_
    show SS p e below s₁ m 8 #[iv p1, iv (4 : Int32), .unset, .unset] [(.int (4 : Int32))] _
    refine XS.ifYes X0.here hx rfl (pc0 := 8) (pc' := 20) rfl (hb hby at_8) rfl ((if0 _ _).trans (feq (by decide : ¬ ((4 : Int32) = (0 : Int32)))).2) (by decide) (by decide) ?_
    show SS p e below s₁ m 20 #[iv p1, iv (4 : Int32), .unset, .unset] [] _
    refine XS.iloadN X0.here hx rfl (hb hby at_20) rfl ?_
    refine XS.iconst X0.here hx rfl (hb hby at_21) ?_
    show SS p e below s₁ m 22 #[iv p1, iv (4 : Int32), .unset, .unset] [(.int (1 : Int32)), (.int (4 : Int32))] _
    refine XS.icmpYes X0.here hx rfl (pc0 := 22) (pc' := 34) rfl (hb hby at_22) rfl (feq (by decide : ¬ ((4 : Int32) = (1 : Int32)))).2 (by decide) (by decide) ?_
    show SS p e below s₁ m 34 #[iv p1, iv (4 : Int32), .unset, .unset] [] _
    refine XS.iloadN X0.here hx rfl (hb hby at_34) rfl ?_
    refine XS.iconst X0.here hx rfl (hb hby at_35) ?_
    show SS p e below s₁ m 36 #[iv p1, iv (4 : Int32), .unset, .unset] [(.int (2 : Int32)), (.int (4 : Int32))] _
    refine XS.icmpYes X0.here hx rfl (pc0 := 36) (pc' := 48) rfl (hb hby at_36) rfl (feq (by decide : ¬ ((4 : Int32) = (2 : Int32)))).2 (by decide) (by decide) ?_
    show SS p e below s₁ m 48 #[iv p1, iv (4 : Int32), .unset, .unset] [] _
    refine XS.iloadN X0.here hx rfl (hb hby at_48) rfl ?_
    refine XS.iconst X0.here hx rfl (hb hby at_49) ?_
    show SS p e below s₁ m 50 #[iv p1, iv (4 : Int32), .unset, .unset] [(.int (3 : Int32)), (.int (4 : Int32))] _
    refine XS.icmpYes X0.here hx rfl (pc0 := 50) (pc' := 62) rfl (hb hby at_50) rfl (feq (by decide : ¬ ((4 : Int32) = (3 : Int32)))).2 (by decide) (by decide) ?_
    show SS p e below s₁ m 62 #[iv p1, iv (4 : Int32), .unset, .unset] [] _
    refine st1 _ ?_
    show SS p e below T1 m 65 #[iv p1, iv (4 : Int32), .unset, .unset] [(.ref o_TIMESTAMP)] _
    refine XS.astoreN X1.here hx rfl (hb hby at_65) rfl rfl (l' := #[iv p1, iv (4 : Int32), rv o_TIMESTAMP, .unset]) rfl ?_
    show SS p e below T1 m 66 #[iv p1, iv (4 : Int32), rv o_TIMESTAMP, .unset] [] _
    refine XS.iconst X1.here hx rfl (hb hby at_66) ?_
    show SS p e below T1 m 67 #[iv p1, iv (4 : Int32), rv o_TIMESTAMP, .unset] [(.int (0 : Int32))] _
    refine XS.istoreN X1.here hx rfl (hb hby at_67) rfl (l' := #[iv p1, iv (4 : Int32), rv o_TIMESTAMP, iv (0 : Int32)]) rfl ?_
    show SS p e below T1 m 68 #[iv p1, iv (4 : Int32), rv o_TIMESTAMP, iv (0 : Int32)] [] _
    refine XS.aloadN X1.here hx rfl (hb hby at_68) rfl rfl ?_
    show SS p e below T1 m 69 #[iv p1, iv (4 : Int32), rv o_TIMESTAMP, iv (0 : Int32)] [(.ref o_TIMESTAMP)] _
    refine st2 _ ?_
    show SS p e below T2 m 72 #[iv p1, iv (4 : Int32), rv o_TIMESTAMP, iv (0 : Int32)] [(.int (0 : Int32))] _
    refine XS.iloadN X2.here hx rfl (hb hby at_72) rfl ?_
    show SS p e below T2 m 73 #[iv p1, iv (4 : Int32), rv o_TIMESTAMP, iv (0 : Int32)] [(.int (0 : Int32)), (.int (0 : Int32))] _
    refine XS.icmpNo X2.here hx rfl (hb hby at_73) rfl (teq (by decide : (0 : Int32) = (0 : Int32))).2 ?_
    show SS p e below T2 m 76 #[iv p1, iv (4 : Int32), rv o_TIMESTAMP, iv (0 : Int32)] [] _
    refine XS.iconst X2.here hx rfl (hb hby at_76) ?_
    refine XS.goto X2.here hx rfl (pc0 := 77) (pc' := 81) rfl (hb hby at_77) (by decide) (by decide) ?_
    show SS p e below T2 m 81 #[iv p1, iv (4 : Int32), rv o_TIMESTAMP, iv (0 : Int32)] [(.int (1 : Int32))] _
    exact retN X2 hx (t := .boolean) hret (by simp) (hb hby at_81) hr
theorem own_split (p1 : Int32) : ((p1 &&& (2147483647 : Int32)) % (5 : Int32)) = (0 : Int32) ∨ ((p1 &&& (2147483647 : Int32)) % (5 : Int32)) = (1 : Int32) ∨ ((p1 &&& (2147483647 : Int32)) % (5 : Int32)) = (2 : Int32) ∨ ((p1 &&& (2147483647 : Int32)) % (5 : Int32)) = (3 : Int32) ∨ ((p1 &&& (2147483647 : Int32)) % (5 : Int32)) = (4 : Int32) := by
  have h1 := c_mask p1 2147483647 31 (by decide) (by decide)
  have h2 := (c_irem (p1 &&& 2147483647) 5 5 (by decide)).1 (by omega)
  simp only [← Int32.toInt_inj, h2, Int32.reduceToInt]
  omega
theorem rm0 (l : Launch) (Z : State) (a0 : Array Value) (hw : HW Z a0) (ws : List Jvm.Cond) (p1 : Int32) (o_TEXT : Addr) (o_AMOUNT : Addr) (o_PRICE : Addr) (o_TIMESTAMP : Addr) (o_QTY : Addr) (h0 : Heap) (n0 : Nat) (O0 : Old Z n0 h0) (S_o_TEXT : SA3 Z Z.heap (.ref o_TEXT)) (E_o_TEXT : EA2 Z Z.heap o_TEXT) (S_o_AMOUNT : SA4 Z Z.heap (.ref o_AMOUNT)) (E_o_AMOUNT : EA2 Z Z.heap o_AMOUNT) (S_o_PRICE : SA5 Z Z.heap (.ref o_PRICE)) (E_o_PRICE : EA2 Z Z.heap o_PRICE) (S_o_TIMESTAMP : SA6 Z Z.heap (.ref o_TIMESTAMP)) (E_o_TIMESTAMP : EA2 Z Z.heap o_TIMESTAMP) (S_o_QTY : SA7 Z Z.heap (.ref o_QTY)) (E_o_QTY : EA2 Z Z.heap o_QTY) (F_o_TEXT_decimals : FA1 Z Z.heap o_TEXT (.int (0 : Int32))) (F_o_AMOUNT_decimals : FA1 Z Z.heap o_AMOUNT (.int (4 : Int32))) (F_o_PRICE_decimals : FA1 Z Z.heap o_PRICE (.int (4 : Int32))) (F_o_TIMESTAMP_decimals : FA1 Z Z.heap o_TIMESTAMP (.int (0 : Int32))) (F_o_QTY_decimals : FA1 Z Z.heap o_QTY (.int (2 : Int32)))  :
    Met l Z ws x code maxLocals ret room_1 #[(.int p1)] h0 (fun v _ L => Q0 n0 v L) := by
  rcases own_split p1 with q | q | q | q | q
  · exact rm0_0 l Z a0 hw ws p1 o_TEXT o_AMOUNT o_PRICE o_TIMESTAMP o_QTY h0 n0 O0 S_o_TEXT E_o_TEXT S_o_AMOUNT E_o_AMOUNT S_o_PRICE E_o_PRICE S_o_TIMESTAMP E_o_TIMESTAMP S_o_QTY E_o_QTY F_o_TEXT_decimals F_o_AMOUNT_decimals F_o_PRICE_decimals F_o_TIMESTAMP_decimals F_o_QTY_decimals q
  · exact rm0_1 l Z a0 hw ws p1 o_TEXT o_AMOUNT o_PRICE o_TIMESTAMP o_QTY h0 n0 O0 S_o_TEXT E_o_TEXT S_o_AMOUNT E_o_AMOUNT S_o_PRICE E_o_PRICE S_o_TIMESTAMP E_o_TIMESTAMP S_o_QTY E_o_QTY F_o_TEXT_decimals F_o_AMOUNT_decimals F_o_PRICE_decimals F_o_TIMESTAMP_decimals F_o_QTY_decimals q
  · exact rm0_2 l Z a0 hw ws p1 o_TEXT o_AMOUNT o_PRICE o_TIMESTAMP o_QTY h0 n0 O0 S_o_TEXT E_o_TEXT S_o_AMOUNT E_o_AMOUNT S_o_PRICE E_o_PRICE S_o_TIMESTAMP E_o_TIMESTAMP S_o_QTY E_o_QTY F_o_TEXT_decimals F_o_AMOUNT_decimals F_o_PRICE_decimals F_o_TIMESTAMP_decimals F_o_QTY_decimals q
  · exact rm0_3 l Z a0 hw ws p1 o_TEXT o_AMOUNT o_PRICE o_TIMESTAMP o_QTY h0 n0 O0 S_o_TEXT E_o_TEXT S_o_AMOUNT E_o_AMOUNT S_o_PRICE E_o_PRICE S_o_TIMESTAMP E_o_TIMESTAMP S_o_QTY E_o_QTY F_o_TEXT_decimals F_o_AMOUNT_decimals F_o_PRICE_decimals F_o_TIMESTAMP_decimals F_o_QTY_decimals q
  · exact rm0_4 l Z a0 hw ws p1 o_TEXT o_AMOUNT o_PRICE o_TIMESTAMP o_QTY h0 n0 O0 S_o_TEXT E_o_TEXT S_o_AMOUNT E_o_AMOUNT S_o_PRICE E_o_PRICE S_o_TIMESTAMP E_o_TIMESTAMP S_o_QTY E_o_QTY F_o_TEXT_decimals F_o_AMOUNT_decimals F_o_PRICE_decimals F_o_TIMESTAMP_decimals F_o_QTY_decimals q
set_option maxRecDepth 65536 in
set_option maxHeartbeats 40000000 in
theorem comes_1 {Post : Tables → Env → Array Value → State → Outcome → State → Prop} (hpost : ∀ tb e args s v u, (limb_1_1.after args s (.returned v) u = true ∧ limb_1_2.after args s (.returned v) u = true ∧ True) → FrameEnd s (.returned v) u (Jvm.fieldLocs frame_1_writes args s ++ Jvm.arrayLocs frame_1_arrays args s ++ Jvm.staticLocs frame_1_statics s) 0 0 → Post tb e args s (.returned v) u) :
    ArmFor flags0 classFile x code maxLocals ret World_1 tables_1 room_1 Calls_1 rest_1 Pre_1 Post := by
  intro l hfl _ _ p e ha hc hk s m args below hf hA hF happ hP
  obtain ⟨hcalls, hrest, hpre⟩ := hP
  obtain ⟨-, -, -, hnamed, -, -, -, hat⟩ := (Spec.applies_iff hf).mp happ
  obtain ⟨hg, hn⟩ := and_e (Cond.before_iff.mp (show (Jvm.Cond.and given_1 narrow_1).before args s = true from hpre))
  obtain ⟨hg0, hg1⟩ := and_e hg
  obtain ⟨w0, rfl⟩ : ∃ w0 : Value, args = #[w0] := by
    have hs : args.size = 1 := by simpa [Cond.value, given_1] using hg0
    obtain ⟨L⟩ := args
    match L, hs with
    | [w0], _ => exact ⟨w0, rfl⟩
  have hw := fun d (hd : d ∈ tables_1) => atoms_spec (ws := Jvm.Cond.code x code maxLocals ret :: tables_1) hat d (List.mem_cons_of_mem _ hd)
  have W := fun (i : Nat) {c : Jvm.Cond} (q : tables_1[i]? = some c) => hw c (List.mem_of_getElem? q)
  have hfit : Fit s := fun {y c} hc i hi => by
    obtain ⟨ha, rfl⟩ := Array.getElem?_eq_some_iff.mp hc
    have q := List.all_eq_true.mp ((Array.all_eq_true_iff_forall_mem.mp hF) _ (Array.getElem_mem ha)) i (List.mem_range.mpr hi)
    simpa [Array.getElem?_eq_getElem hi] using q
  obtain ⟨i0, ei0⟩ := is_v hg1
  obtain rfl : w0 = (.int i0) := Option.some.inj ei0
  obtain ⟨hn0, hr0⟩ := and_e hn
  obtain ⟨hn1, hr1⟩ := and_e hr0
  obtain ⟨hn2, hr2⟩ := and_e hr1
  obtain ⟨hn3, hr3⟩ := and_e hr2
  obtain ⟨hn4, hr4⟩ := and_e hr3
  obtain ⟨hn5, hr5⟩ := and_e hr4
  obtain ⟨hn6, hr6⟩ := and_e hr5
  obtain ⟨hn7, hr7⟩ := and_e hr6
  obtain ⟨hn8, hn9⟩ := and_e hr7
  obtain ⟨o_TEXT, ev_o_TEXT⟩ := exa_v hn0
  have S_o_TEXT := Sta.start ev_o_TEXT (Or.inr ⟨(W 2 rfl), (W 3 rfl)⟩)
  have E_o_TEXT := Exa.start ev_o_TEXT hn0
  obtain ⟨o_AMOUNT, ev_o_AMOUNT⟩ := exa_v hn2
  have S_o_AMOUNT := Sta.start ev_o_AMOUNT (Or.inr ⟨(W 2 rfl), (W 12 rfl)⟩)
  have E_o_AMOUNT := Exa.start ev_o_AMOUNT hn2
  obtain ⟨o_PRICE, ev_o_PRICE⟩ := exa_v hn4
  have S_o_PRICE := Sta.start ev_o_PRICE (Or.inr ⟨(W 2 rfl), (W 14 rfl)⟩)
  have E_o_PRICE := Exa.start ev_o_PRICE hn4
  obtain ⟨o_TIMESTAMP, ev_o_TIMESTAMP⟩ := exa_v hn6
  have S_o_TIMESTAMP := Sta.start ev_o_TIMESTAMP (Or.inr ⟨(W 2 rfl), (W 16 rfl)⟩)
  have E_o_TIMESTAMP := Exa.start ev_o_TIMESTAMP hn6
  obtain ⟨o_QTY, ev_o_QTY⟩ := exa_v hn8
  have S_o_QTY := Sta.start ev_o_QTY (Or.inr ⟨(W 2 rfl), (W 18 rfl)⟩)
  have E_o_QTY := Exa.start ev_o_QTY hn8
  have F_o_TEXT_decimals := Fld.start ((fld_at ev_o_TEXT).symm.trans (own_eqI hn1))
  have F_o_AMOUNT_decimals := Fld.start ((fld_at ev_o_AMOUNT).symm.trans (own_eqI hn3))
  have F_o_PRICE_decimals := Fld.start ((fld_at ev_o_PRICE).symm.trans (own_eqI hn5))
  have F_o_TIMESTAMP_decimals := Fld.start ((fld_at ev_o_TIMESTAMP).symm.trans (own_eqI hn7))
  have F_o_QTY_decimals := Fld.start ((fld_at ev_o_QTY).symm.trans (own_eqI hn9))
  obtain ⟨n, o, h1, h2, h3, _, L, rfl, ⟨rfl, N⟩, hq⟩ := rm0 l s _ hw tables_1 i0 o_TEXT o_AMOUNT o_PRICE o_TIMESTAMP o_QTY s.heap s.heap.size (Old.start s) S_o_TEXT E_o_TEXT S_o_AMOUNT E_o_AMOUNT S_o_PRICE E_o_PRICE S_o_TIMESTAMP E_o_TIMESTAMP S_o_QTY E_o_QTY F_o_TEXT_decimals F_o_AMOUNT_decimals F_o_PRICE_decimals F_o_TIMESTAMP_decimals F_o_QTY_decimals p e ha hc hk s m _ below hf ((Spec.applies_iff_loose hf).mp happ).1 ⟨rfl, State.Warmed39.refl s, rfl⟩ trivial
  refine ⟨n, _, h1, h2, h3, hpost _ _ _ _ _ _ ⟨Cond.after_iff.mpr rfl, Cond.after_iff.mpr (eq_i res_at (Term.int_eval (1)) rfl), trivial⟩ ⟨hq.1, hq.2.1, (hq.2.2.sift fun y hy => Or.inr (N y hy)).mono (by decide) (by decide)⟩⟩
theorem main_1_1 : Claimed_1_1 := comes_1 fun _ _ _ _ _ _ h hF => ⟨h.1, hF⟩
theorem main_1_2 : Claimed_1_2 := comes_1 fun _ _ _ _ _ _ h hF => ⟨h.2.1, hF⟩
end Jvm.Pilot.@@N@@
namespace Jvm.Pilot.@@N@@
open Jvm Jvm.ClassFile Sem Op Lib Jvm.Free Jvm.Stand Jvm.Pilot.@@N@@.Jvm.D
/-! MADE BY PROGRAM (witnessworld.py) out of the Statement's table words and the real class files: 12 classes; the members and pool entries that the words name. The judged class is class 1, her method 1. -/
namespace start1
open Jvm.ClassFile
def u (s : String) : CpInfo := .utf8 (stringToUtf16 s)
/-- a pool by its gaps: so many unusable entries, then the entry; so many at the end -/
def gap : Nat → List CpInfo → List CpInfo
  | 0, r => r
  | n + 1, r => .unusable :: gap n r
def poolList (es : List (Nat × CpInfo)) (last : Nat) : List CpInfo := es.foldr (fun e r => gap e.1 (e.2 :: r)) (gap last [])
def pool (es : List (Nat × CpInfo)) (last : Nat) : Array CpInfo := ⟨poolList es last⟩
def fileOf (pool : Array CpInfo) (this : Nat) (attrs : Array Attribute := #[]) (ms : Array MethodInfo := #[]) (fl : Nat := 33) (sup : Nat := 0) (ifs : Array Nat := #[]) (fds : Array FieldInfo := #[]) : ClassFile where
  minorVersion := 0
  majorVersion := 65
  constantPool := pool
  accessFlags := fl
  thisClass := this
  superClass := sup
  interfaces := ifs
  fields := fds
  methods := ms
  attributes := attrs
def plain (name : String) (sup : Option ClassId) : Class where
  name := name
  kind := .ordinary
  loader := none
  accessFlags := 33
  super := sup
  interfaces := #[]
  cf := none
  fields := #[]
  methods := #[]
  instanceTypes := #[]
  staticTypes := #[]
  resolved := #[]
  callSites := []
  init := .initialized
  statics := none
  mirror := none

def pool0 : Array CpInfo := pool [(5, u "<init>"), (0, u "()V"), (1, .class_ 10), (1, u "java/lang/Object")] 113

def k0m0 : Method := { name := "<init>", desc := "()V", sig := { parameters := [], returnType := none }, accessFlags := 1, code := none }
/-- java/lang/Object -/
def k0 : Class := { plain "java/lang/Object" none with
  accessFlags := 33
  interfaces := #[]
  cf := some (fileOf pool0 8 #[] #[{ accessFlags := 1, nameIndex := 5, descriptorIndex := 6, attributes := #[] }] 33 0 #[] #[])
  fields := #[]
  methods := #[k0m0]
  instanceTypes := #[]
  staticTypes := #[]
  resolved := Array.replicate 124 none
  statics := none }

def pool1 : Array CpInfo := pool [(2, .class_ 4), (1, u "java/lang/Object"), (0, u "<init>"), (0, u "()V"), (0, .integer 2147483647), (0, .fieldref 9 10), (0, .class_ 11), (0, .nameAndType 12 13), (0, u "com/example/bondwire/bondwire/model/FieldType"), (0, u "TEXT"), (0, u "Lcom/example/bondwire/bondwire/model/FieldType;"), (0, .fieldref 9 15), (0, .nameAndType 16 13), (0, u "PRICE"), (0, .fieldref 9 18), (0, .nameAndType 19 13), (0, u "QTY"), (0, .fieldref 9 21), (0, .nameAndType 22 13), (0, u "AMOUNT"), (0, .fieldref 9 24), (0, .nameAndType 25 13), (0, u "TIMESTAMP"), (0, .methodref 9 27), (0, .nameAndType 28 29), (0, u "isDecimal"), (0, u "()Z"), (0, .class_ 31), (0, u "com/example/bondwire/bondwire/model/FieldTypeIsDecimalPinLaw"), (2, u "law"), (0, u "(I)Z")] 3

def k1m0 : Method := { name := "<init>", desc := "()V", sig := { parameters := [], returnType := none }, accessFlags := 2, code := none }
def k1c1 : Code := { maxStack := 2, maxLocals := 4, code := code, exceptionTable := #[], attributes := #[] }
def k1m1 : Method := { name := "law", desc := "(I)Z", sig := { parameters := [.int], returnType := some .boolean }, accessFlags := 9, code := some k1c1 }
/-- com/example/bondwire/bondwire/model/FieldTypeIsDecimalPinLaw -/
def k1 : Class := { plain "com/example/bondwire/bondwire/model/FieldTypeIsDecimalPinLaw" (some 0) with
  accessFlags := 49
  interfaces := #[]
  cf := some (fileOf pool1 30 #[] #[{ accessFlags := 2, nameIndex := 5, descriptorIndex := 6, attributes := #[] }, { accessFlags := 9, nameIndex := 34, descriptorIndex := 35, attributes := #[] }] 49 2 #[] #[])
  fields := #[]
  methods := #[k1m0, k1m1]
  instanceTypes := #[]
  staticTypes := #[]
  resolved := Array.replicate 39 none
  statics := none }

def pool2 : Array CpInfo := pool [(1, .class_ 2), (0, u "java/lang/constant/Constable"), (0, .class_ 4), (0, u "java/lang/Object")] 6

/-- java/lang/constant/Constable -/
def k2 : Class := { plain "java/lang/constant/Constable" (some 0) with
  accessFlags := 1537
  interfaces := #[]
  cf := some (fileOf pool2 1 #[] #[] 1537 3 #[] #[])
  fields := #[]
  methods := #[]
  instanceTypes := #[]
  staticTypes := #[]
  resolved := Array.replicate 11 none
  statics := none }

def pool3 : Array CpInfo := pool [(1, .class_ 2), (0, u "java/lang/Comparable"), (0, .class_ 4), (0, u "java/lang/Object")] 7

/-- java/lang/Comparable -/
def k3 : Class := { plain "java/lang/Comparable" (some 0) with
  accessFlags := 1537
  interfaces := #[]
  cf := some (fileOf pool3 1 #[] #[] 1537 3 #[] #[])
  fields := #[]
  methods := #[]
  instanceTypes := #[]
  staticTypes := #[]
  resolved := Array.replicate 12 none
  statics := none }

def pool4 : Array CpInfo := pool [(1, .class_ 2), (0, u "java/io/Serializable"), (0, .class_ 4), (0, u "java/lang/Object")] 2

/-- java/io/Serializable -/
def k4 : Class := { plain "java/io/Serializable" (some 0) with
  accessFlags := 1537
  interfaces := #[]
  cf := some (fileOf pool4 1 #[] #[] 1537 3 #[] #[])
  fields := #[]
  methods := #[]
  instanceTypes := #[]
  staticTypes := #[]
  resolved := Array.replicate 7 none
  statics := none }

def pool5 : Array CpInfo := pool [(2, .class_ 4), (1, u "java/lang/Enum"), (0, u "name"), (0, u "Ljava/lang/String;"), (2, u "ordinal"), (0, u "I"), (1, .class_ 14), (1, u "java/lang/Object"), (4, u "hash"), (86, .class_ 108), (1, u "java/lang/Enum$EnumDesc"), (2, .class_ 112), (0, u "java/lang/constant/Constable"), (0, .class_ 114), (0, u "java/lang/Comparable"), (0, .class_ 116), (0, u "java/io/Serializable")] 87

/-- java/lang/Enum -/
def k5 : Class := { plain "java/lang/Enum" (some 0) with
  accessFlags := 1057
  interfaces := #[2, 3, 4]
  cf := some (fileOf pool5 2 #[.nestMembers #[106]] #[] 1057 12 #[111, 113, 115] #[{ accessFlags := 18, nameIndex := 5, descriptorIndex := 6, attributes := #[] }, { accessFlags := 18, nameIndex := 9, descriptorIndex := 10, attributes := #[] }, { accessFlags := 2, nameIndex := 19, descriptorIndex := 10, attributes := #[] }])
  fields := #[{ name := "name", type := (.object "java/lang/String"), accessFlags := 18, slot := 0, constantValue := 0 }, { name := "ordinal", type := .int, accessFlags := 18, slot := 1, constantValue := 0 }, { name := "hash", type := .int, accessFlags := 2, slot := 2, constantValue := 0 }]
  methods := #[]
  instanceTypes := #[(.object "java/lang/String"), .int, .int]
  staticTypes := #[]
  resolved := Array.replicate 204 none
  statics := none }

def pool6 : Array CpInfo := pool [(1, .class_ 2), (0, u "com/example/bondwire/bondwire/model/FieldType"), (2, u "TEXT"), (0, u "Lcom/example/bondwire/bondwire/model/FieldType;"), (2, u "PRICE"), (2, u "QTY"), (2, u "AMOUNT"), (2, u "TIMESTAMP"), (2, u "$VALUES"), (0, u "[Lcom/example/bondwire/bondwire/model/FieldType;"), (6, .class_ 31), (1, u "java/lang/Enum"), (8, u "description"), (0, u "Ljava/lang/String;"), (2, u "digits"), (0, u "I"), (0, .fieldref 1 47), (0, .nameAndType 48 45), (0, u "decimals"), (2, u "TYPED"), (0, u "Ljava/util/Map;"), (155, u "TIMESTAMP_FORM"), (9, u "isDecimal"), (0, u "()Z")] 36

def k6c0 : Code := { maxStack := 1, maxLocals := 1, code := prog_13_method_5_code, exceptionTable := #[], attributes := #[] }
def k6m0 : Method := { name := "isDecimal", desc := "()Z", sig := { parameters := [], returnType := some .boolean }, accessFlags := 1, code := some k6c0 }
/-- com/example/bondwire/bondwire/model/FieldType -/
def k6 : Class := { plain "com/example/bondwire/bondwire/model/FieldType" (some 5) with
  accessFlags := 16433
  interfaces := #[]
  cf := some (fileOf pool6 1 #[] #[{ accessFlags := 1, nameIndex := 218, descriptorIndex := 219, attributes := #[] }] 16433 29 #[] #[{ accessFlags := 16409, nameIndex := 5, descriptorIndex := 6, attributes := #[] }, { accessFlags := 16409, nameIndex := 9, descriptorIndex := 6, attributes := #[] }, { accessFlags := 16409, nameIndex := 12, descriptorIndex := 6, attributes := #[] }, { accessFlags := 16409, nameIndex := 15, descriptorIndex := 6, attributes := #[] }, { accessFlags := 16409, nameIndex := 18, descriptorIndex := 6, attributes := #[] }, { accessFlags := 26, nameIndex := 208, descriptorIndex := 41, attributes := #[] }, { accessFlags := 26, nameIndex := 51, descriptorIndex := 52, attributes := #[] }, { accessFlags := 18, nameIndex := 40, descriptorIndex := 41, attributes := #[] }, { accessFlags := 18, nameIndex := 44, descriptorIndex := 45, attributes := #[] }, { accessFlags := 18, nameIndex := 48, descriptorIndex := 45, attributes := #[] }, { accessFlags := 4122, nameIndex := 21, descriptorIndex := 22, attributes := #[] }])
  fields := #[{ name := "TEXT", type := (.object "com/example/bondwire/bondwire/model/FieldType"), accessFlags := 16409, slot := 0, constantValue := 0 }, { name := "PRICE", type := (.object "com/example/bondwire/bondwire/model/FieldType"), accessFlags := 16409, slot := 1, constantValue := 0 }, { name := "QTY", type := (.object "com/example/bondwire/bondwire/model/FieldType"), accessFlags := 16409, slot := 2, constantValue := 0 }, { name := "AMOUNT", type := (.object "com/example/bondwire/bondwire/model/FieldType"), accessFlags := 16409, slot := 3, constantValue := 0 }, { name := "TIMESTAMP", type := (.object "com/example/bondwire/bondwire/model/FieldType"), accessFlags := 16409, slot := 4, constantValue := 0 }, { name := "TIMESTAMP_FORM", type := (.object "java/lang/String"), accessFlags := 26, slot := 5, constantValue := 0 }, { name := "TYPED", type := (.object "java/util/Map"), accessFlags := 26, slot := 6, constantValue := 0 }, { name := "description", type := (.object "java/lang/String"), accessFlags := 18, slot := 3, constantValue := 0 }, { name := "digits", type := .int, accessFlags := 18, slot := 4, constantValue := 0 }, { name := "decimals", type := .int, accessFlags := 18, slot := 5, constantValue := 0 }, { name := "$VALUES", type := (.array (.object "com/example/bondwire/bondwire/model/FieldType")), accessFlags := 4122, slot := 7, constantValue := 0 }]
  methods := #[k6m0]
  instanceTypes := #[(.object "java/lang/String"), .int, .int, (.object "java/lang/String"), .int, .int]
  staticTypes := #[(.object "com/example/bondwire/bondwire/model/FieldType"), (.object "com/example/bondwire/bondwire/model/FieldType"), (.object "com/example/bondwire/bondwire/model/FieldType"), (.object "com/example/bondwire/bondwire/model/FieldType"), (.object "com/example/bondwire/bondwire/model/FieldType"), (.object "java/lang/String"), (.object "java/util/Map"), (.array (.object "com/example/bondwire/bondwire/model/FieldType"))]
  resolved := Array.replicate 256 none
  statics := some 0 }

def pool7 : Array CpInfo := pool [(1, u "java/lang/Cloneable"), (0, .class_ 1), (0, u "java/lang/Object"), (0, .class_ 3)] 3

/-- java/lang/Cloneable -/
def k7 : Class := { plain "java/lang/Cloneable" (some 0) with
  accessFlags := 1537
  interfaces := #[]
  cf := some (fileOf pool7 2 #[] #[] 1537 4 #[] #[])
  fields := #[]
  methods := #[]
  instanceTypes := #[]
  staticTypes := #[]
  resolved := Array.replicate 8 none
  statics := none }

/-- the primitive byte -/
def k8 : Class := { plain "byte" none with kind := .primitive 'B', accessFlags := 0x411 }
/-- [B -/
def k9 : Class := { plain "[B" (some 0) with kind := .array 8 .byte, interfaces := #[7, 4], accessFlags := 1041 }

/-- the primitive int -/
def k10 : Class := { plain "int" none with kind := .primitive 'I', accessFlags := 0x411 }
/-- [I -/
def k11 : Class := { plain "[I" (some 0) with kind := .array 10 .int, interfaces := #[7, 4], accessFlags := 1041 }

def heap : Heap := #[{ cls := 6, slots := #[.ref 1, .ref 3, .ref 5, .ref 2, .ref 4, .null, .null, .null], vm := .statics 6 },
  { cls := 6, slots := #[.null, .int 0, .int 0, .null, .int 0, .int 0], vm := .none },
  { cls := 6, slots := #[.null, .int 0, .int 0, .null, .int 0, .int 4], vm := .none },
  { cls := 6, slots := #[.null, .int 0, .int 0, .null, .int 0, .int 4], vm := .none },
  { cls := 6, slots := #[.null, .int 0, .int 0, .null, .int 0, .int 0], vm := .none },
  { cls := 6, slots := #[.null, .int 0, .int 0, .null, .int 0, .int 2], vm := .none }]
def classes : Array Class := #[k0, k1, k2, k3, k4, k5, k6, k7, k8, k9, k10, k11]
def interned : List (Array UInt16 × Addr) := []
def slotsUsed : Nat := 38
def theMethod : MethodId := ⟨1, 1⟩
def args0 : Array Value := #[.int 5]
def aboutOver (below : List Frame) : State where
  vm := { classes := classes, interned := interned.toArray }
  heap := heap
  slotsUsed := slotsUsed
  threads := #[{ frames := .invoking theMethod args0 :: below }]
def below0 : List Frame := [.native { method := ⟨0, 0⟩, args := #[] }]
def about1 : State := aboutOver below0
def p0 : Program := .bare "" "" ""
def e0 : Env := launch0.env 0 0 0
theorem w_frames : about1.frames = Frame.invoking theMethod args0 :: below0 := rfl
set_option maxRecDepth 65536 in
theorem w_args : argsFit about1.vm theMethod args0 = true := by decide +kernel
set_option maxRecDepth 65536 in
theorem w_heap : heapFits about1 = true := by decide +kernel
set_option maxRecDepth 65536 in
theorem w_runnable : about1.curStatus? = some .runnable := by decide +kernel
set_option maxRecDepth 65536 in
theorem w_alone : about1.alone = true := by decide +kernel
set_option maxRecDepth 65536 in
theorem w_named : about1.methodNamed? x = some theMethod := by decide +kernel
set_option maxRecDepth 65536 in
theorem w_hears : about1.hears theMethod below0 = true := by decide +kernel
set_option maxRecDepth 65536 in
theorem w_ripe : about1.ripe theMethod args0 below0 = true := by decide +kernel
theorem w_running : about1.status = .running := rfl
set_option maxRecDepth 65536 in
theorem w_room : about1.hasRoom e0.platform room_1 = true :=
  launch0.hasRoom_least _ room_1 (by decide +kernel) (by decide +kernel) (by decide +kernel) (by decide +kernel) (by decide +kernel) (by decide +kernel)
theorem allAtoms_all (ts : List Jvm.Cond) (a : Array Jvm.Value) (st : Jvm.State) : (allAtoms ts).before a st = ts.all (fun c => c.before a st) := by
  induction ts with
  | nil => rfl
  | cons c t ih =>
    show (Jvm.Cond.and c (allAtoms t)).before a st = _
    rw [Jvm.Cond.before_and, ih, List.all_cons]
def words1 : List Jvm.Cond := Jvm.Cond.code x code maxLocals ret :: tables_1
/-- a 'code' word, met by the world's own term for the bytes: nothing is compared byte by byte -/
theorem code_word {y : MethodName} {bytes : ByteArray} {mx : Nat} {rt : Option FieldType} {a : Array Value} {s : State} {m : MethodId} {meth : Method} {c : Code} (h1 : s.methodNamed? y = some m) (h2 : s.vm.method? m = some meth) (h3 : meth.code = some c) (h4 : c.code = bytes)
    (h5 : (c.maxLocals == mx && c.exceptionTable.isEmpty && decide (c.maxStack ≤ mostOperands) && decide (meth.sig.returnType = rt) && !meth.locks && decide (parseMethodDescriptor y.desc = some meth.sig)) = true) : (Jvm.Cond.code y bytes mx rt).before a s = true := by
  simp only [Bool.and_eq_true, beq_iff_eq, Bool.not_eq_true', decide_eq_true_eq] at h5
  obtain ⟨⟨⟨⟨⟨g1, g2⟩, g3⟩, g4⟩, g5⟩, g6⟩ := h5
  simp [Cond.before, Cond.holds, Cond.value, h1, h2, h3, h4, g1, g2, g3, g4, g5, g6]
def isCode : Jvm.Cond → Bool
  | .code _ _ _ _ => true
  | _ => false
theorem all_split {L : List Jvm.Cond} {P : Jvm.Cond → Bool} (h1 : L.all (fun c => isCode c || P c) = true) (h2 : ∀ c ∈ L.filter isCode, P c = true) : L.all P = true := by
  refine List.all_eq_true.mpr fun c hc => ?_
  have h := List.all_eq_true.mp h1 c hc
  rcases Bool.eq_false_or_eq_true (isCode c) with hi | hi
  · exact h2 c (List.mem_filter.mpr ⟨hc, hi⟩)
  · simpa [hi] using h
set_option maxRecDepth 65536 in
theorem w_c0 : (Jvm.Cond.code x code maxLocals ret).before args0 about1 = true := code_word (m := ⟨1, 1⟩) (meth := k1m1) (c := k1c1) (by decide +kernel) rfl rfl rfl (by decide +kernel)
set_option maxRecDepth 65536 in
theorem w_c1 : (Jvm.Cond.code ({ cls := "com/example/bondwire/bondwire/model/FieldType", name := "isDecimal", desc := "()Z" } : Jvm.MethodName) prog_13_method_5_code (1 : Nat) (Option.some Jvm.ClassFile.FieldType.boolean)).before args0 about1 = true := code_word (m := ⟨6, 0⟩) (meth := k6m0) (c := k6c0) (by decide +kernel) rfl rfl rfl (by decide +kernel)
def codes1 : List Jvm.Cond := [Jvm.Cond.code x code maxLocals ret, Jvm.Cond.code ({ cls := "com/example/bondwire/bondwire/model/FieldType", name := "isDecimal", desc := "()Z" } : Jvm.MethodName) prog_13_method_5_code (1 : Nat) (Option.some Jvm.ClassFile.FieldType.boolean)]
set_option maxRecDepth 65536 in
theorem codes_eq : words1.filter isCode = codes1 := rfl
theorem w_codes : ∀ c ∈ words1.filter isCode, c.before args0 about1 = true := by
  rw [codes_eq]
  intro c hc
  simp only [codes1, List.mem_cons, List.not_mem_nil, or_false] at hc
  rcases hc with rfl | rfl
  · exact w_c0
  · exact w_c1
set_option maxRecDepth 65536 in
theorem w_t1 : words1.all (fun c => isCode c || c.before args0 about1) = true := by decide +kernel
theorem w_tables : (allAtoms (Jvm.Cond.code x code maxLocals ret :: tables_1)).before args0 about1 = true := by
  rw [allAtoms_all]
  show words1.all (fun c => c.before args0 about1) = true
  refine all_split ?_ w_codes
  rw [w_t1]
set_option maxRecDepth 65536 in
theorem w_case : (Jvm.Cond.and given_1 narrow_1).before args0 about1 = true := by decide +kernel
theorem w_applies : (headSpec (Jvm.Cond.code x code maxLocals ret :: tables_1) room_1).applies x e0.platform about1 = true :=
  (Spec.applies_iff w_frames).mpr ⟨w_running, w_runnable, w_alone, w_named, w_hears, w_ripe, w_room, w_tables⟩
theorem atStart : AtStart classFile x code maxLocals ret World_1 tables_1 room_1 Calls_1 rest_1 Pre_1 launch0 p0 e0 about1 theMethod args0 below0 :=
  ⟨lists_1, trivial, launch0.admits_env _ _ _, launch0.least_env, fairChoices_fair.cas, fairChoices_fair.clock, w_frames, w_args, w_heap, w_applies, trivial, trivial, w_case⟩
end start1
theorem witness_1 : WitnessClaimed_1 := ⟨start1.p0, start1.e0, start1.about1, start1.theMethod, start1.args0, start1.below0, start1.atStart⟩
end Jvm.Pilot.@@N@@
