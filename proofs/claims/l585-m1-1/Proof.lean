import JvmDerived
import JvmDerived.Pilot.@@N@@Statement
import JvmDerived.Pilot.@@N@@Code
set_option linter.unusedVariables false
set_option linter.unusedSimpArgs false
namespace Jvm.RoadKit
open Sem ClassFile Op Lib Jvm.Stand Jvm.Free Jvm.LawKit
section New
variable {p : Program} {l : Launch} {e : Env} {R : Room} {s : State} {m : MethodId} {args : Array Value} {below : List Frame} {meth : Method} {c : Code} {T : State} {locs : List Loc} {cells slots : Nat}
theorem retI (X : Stand p l e R s m args below meth c T locs cells slots) (hx : p.tables.exec = Jvm.exec) {pc : Nat} {Ls : Array Slot} {z : Int32} {rest : List Value} (hret : meth.sig.returnType = some .int) (hd : decode c.code pc = .ok (.ireturn, 1)) {fs : List Frame}
    (hl : ∀ (f : JFrame) (acts : List Action), f.method = m → f.locked = none → f.entered = [] → (doReturn e (T.setTop f) acts (some (.int z))).1 = T.setFrames fs) : Steps p.tables e below (T.setTop (mkF m pc Ls (.int z :: rest))) (T.setFrames fs) := by
  have hm' : T.vm.method? m = some meth := X.method'
  have hn : narrow .int (.int z) = .int z := rfl
  show Steps p.tables e below (T.setTop { method := m, pc := pc, locals := Ls, stack := _ :: rest, locked := none }) _
  jvm_step X.here [X.here.top, hx, hd, hm', hret, hn]
  first | (intro acts; rw [hl _ acts rfl rfl rfl]) | rw [hl _ _ rfl rfl rfl]
  exact Steps.refl _
end New
end Jvm.RoadKit
namespace Jvm.Pilot.@@N@@
open Jvm Jvm.ClassFile Sem Op Lib Jvm.Free Jvm.Stand Jvm.LawKit Jvm.RoadKit Bundle Jvm.Pilot.@@N@@.Jvm.D
theorem own_eqI {a : Array Value} {s : State} {t : Term} {n : Int32} (h : (Jvm.Cond.eq t (.int n)).value a s none s [] = some true) : t.eval a s none [] s = some (.int n) := by
  simp only [Cond.value, Term.eval] at h
  cases ht : t.eval a s none [] s with
  | none => simp [ht] at h
  | some x => cases x <;> simp [ht] at h; rw [h]
abbrev Met (l : Launch) (Z : State) (ws : List Jvm.Cond) (y : MethodName) (bytes : ByteArray) (maxL : Nat) (ret : Option FieldType) (rm : Room) (as' : Array Value) (h0 : Heap) (Q : Option Value → Heap → List Loc → Prop) : Prop :=
  MetFree l y (head1 (Jvm.Cond.code y bytes maxL ret :: ws) rm) (fun a U => a = as' ∧ Z.Warmed39 U.vm ∧ U.heap = h0) (fun _ _ _ _ _ => True) (fun _ U o U' => ∃ v L, o = .returned v ∧ Q v U'.heap L ∧ FrameEnd U o U' L rm.cells rm.slots)
abbrev MetW (l : Launch) (Z : State) (ws : List Jvm.Cond) (y : MethodName) (bytes : ByteArray) (maxL : Nat) (ret : Option FieldType) (rm : Room) (as' : Array Value) (h0 : Heap) (Q : Option Value → Heap → List Loc → Prop) : Prop :=
  MetFree l y (head1 (Jvm.Cond.code y bytes maxL ret :: ws) rm) (fun a U => a = as' ∧ Z.Warmed39 U.vm ∧ U.heap = h0) (fun _ _ _ _ _ => True) (fun _ U o U' => ∃ v L, o = .returned v ∧ Q v U'.heap L ∧ ReturnedEndW U o U' L rm.cells rm.slots)
abbrev MetH (l : Launch) (Z : State) (ws : List Jvm.Cond) (y : MethodName) (bytes : ByteArray) (maxL : Nat) (ret : Option FieldType) (rm : Room) (as' : Array Value) (h0 : Heap) (EL : List (String × Nat)) (sf : List Addr) (Q : Option Value → Heap → List Loc → Prop) : Prop :=
  MetFree l y (head1 (Jvm.Cond.code y bytes maxL ret :: ws) rm) (fun a U => a = as' ∧ Z.Warmed39 U.vm ∧ U.heap = h0 ∧ CHv Z EL U.vm h0 ∧ ∀ x ∈ sf, Safe Z EL U.vm h0 x) (fun _ _ _ _ _ => True) (fun _ U o U' => ∃ v L, o = .returned v ∧ Q v U'.heap L ∧ CHr Z EL U.vm U.heap U'.vm U'.heap ∧ ReturnedEndW U o U' L rm.cells rm.slots)
section Own
variable {l : Launch} {Z : State} {ws : List Jvm.Cond} {y : MethodName} {bytes : ByteArray} {maxL : Nat} {ret : Option FieldType} {rm : Room} {as' : Array Value} {h0 : Heap} {EL : List (String × Nat)} {sf : List Addr} {Q : Option Value → Heap → List Loc → Prop}
theorem own_mk (hp : plainFor y = true)
    (body : ∀ (p : Program) (e : Env) (s : State) (m : MethodId) (below : List Frame) (meth : Method) (c : Code) (s₁ : State), Z.Warmed39 s.vm → p.tables.exec = Jvm.exec → c.code = bytes → c.maxLocals = maxL → s.vm.findClass y.cls = some m.cls → meth.name = y.name → meth.sig.returnType = ret → meth.locks = false → Stand p l e rm s m as' below meth c s₁ [] 0 0 → s₁.heap = h0 →
      ∃ (T : State) (v : Option Value) (L : List Loc) (k n : Nat), Stand p l e rm s m as' below meth c T L k n ∧ k ≤ rm.cells ∧ n ≤ rm.slots ∧ (ret = none → v = none) ∧ Q v T.heap L ∧ ∀ fs, (∀ (f : JFrame) (acts : List Action), f.method = m → f.locked = none → f.entered = [] → (doReturn e (T.setTop f) acts v).1 = T.setFrames fs) → Steps p.tables e below (s₁.setTop (entryFrame m as' maxL)) (T.setFrames fs)) : Met l Z ws y bytes maxL ret rm as' h0 Q := by
  refine MetFree.of_bodySF hp hisR ?_
  intro p e s m args below meth c s₁ Bd hml hP hK
  obtain ⟨rfl, hZ, hh⟩ := hP
  have e0 : s₁.heap = h0 := by rw [← hh, Bd.state]; rfl
  obtain ⟨T, v, L, k, n, X, hk, hn, hv, hQ, st⟩ := body p e s m below meth c s₁ hZ Bd.exec Bd.bytes hml (findClass_of_methodNamed Bd.named) (name_of_methodNamed Bd.named Bd.method).1 Bd.returns Bd.notSynchronized (Stand.of_body Bd) e0
  obtain ⟨fs, hr, hrun, hended, hW, hsame⟩ := X.leave (v := v) (fun q => hv (Bd.returns.symm.trans q))
  exact ⟨_, _, st fs hr, hrun, hended, _, _, rfl, hQ, ⟨_, rfl⟩, hW, hsame.mono hk hn⟩
theorem own_mkW (hp : plainFor y = true)
    (body : ∀ (p : Program) (e : Env) (s : State) (m : MethodId) (below : List Frame) (meth : Method) (c : Code) (s₁ : State), Z.Warmed39 s.vm → p.tables.exec = Jvm.exec → c.code = bytes → c.maxLocals = maxL → s.vm.findClass y.cls = some m.cls → meth.name = y.name → meth.sig.returnType = ret → meth.locks = false → Stand p l e rm s m as' below meth c s₁ [] 0 0 → s₁.heap = h0 →
      ∃ (T : State) (v : Option Value) (L : List Loc) (k n : Nat) (vm1 : Vm) (n1 : Nat), Stand p l e rm (s.setVm vm1) m as' below meth c T L k n ∧ s.Since vm1 n1 ∧ n1 ≤ T.heap.size ∧ k ≤ rm.cells ∧ n ≤ rm.slots ∧ (ret = none → v = none) ∧ Q v T.heap L ∧ ∀ fs, (∀ (f : JFrame) (acts : List Action), f.method = m → f.locked = none → f.entered = [] → (doReturn e (T.setTop f) acts v).1 = T.setFrames fs) → Steps p.tables e below (s₁.setTop (entryFrame m as' maxL)) (T.setFrames fs)) : MetW l Z ws y bytes maxL ret rm as' h0 Q := by
  refine MetFree.of_bodySF hp hisR ?_
  intro p e s m args below meth c s₁ Bd hml hP hK
  obtain ⟨rfl, hZ, hh⟩ := hP
  have e0 : s₁.heap = h0 := by rw [← hh, Bd.state]; rfl
  obtain ⟨T, v, L, k, n, vm1, n1, X, hS, hn1, hk, hn, hv, hQ, st⟩ := body p e s m below meth c s₁ hZ Bd.exec Bd.bytes hml (findClass_of_methodNamed Bd.named) (name_of_methodNamed Bd.named Bd.method).1 Bd.returns Bd.notSynchronized (Stand.of_body Bd) e0
  obtain ⟨fs, hr, hrun, hended, hW⟩ := Stand.leaveW X hS hn1 (v := v) (fun q => hv (Bd.returns.symm.trans q))
  exact ⟨_, _, st fs hr, hrun, hended, _, _, rfl, hQ, hW.1, hW.2.1, hW.2.2.1, hW.2.2.2.mono hk hn⟩
theorem own_mkH (hp : plainFor y = true)
    (body : ∀ (p : Program) (e : Env) (s : State) (m : MethodId) (below : List Frame) (meth : Method) (c : Code) (s₁ : State), Z.Warmed39 s.vm → p.tables.exec = Jvm.exec → c.code = bytes → c.maxLocals = maxL → s.vm.findClass y.cls = some m.cls → meth.name = y.name → meth.sig.returnType = ret → meth.locks = false → Stand p l e rm s m as' below meth c s₁ [] 0 0 → s₁.heap = h0 → CHv Z EL s.vm h0 → (∀ x ∈ sf, Safe Z EL s.vm h0 x) →
      ∃ (T : State) (v : Option Value) (L : List Loc) (k n : Nat) (vm1 : Vm) (n1 : Nat), Stand p l e rm (s.setVm vm1) m as' below meth c T L k n ∧ s.Since vm1 n1 ∧ n1 ≤ T.heap.size ∧ k ≤ rm.cells ∧ n ≤ rm.slots ∧ (ret = none → v = none) ∧ Q v T.heap L ∧ CHr Z EL s.vm h0 T.vm T.heap ∧ ∀ fs, (∀ (f : JFrame) (acts : List Action), f.method = m → f.locked = none → f.entered = [] → (doReturn e (T.setTop f) acts v).1 = T.setFrames fs) → Steps p.tables e below (s₁.setTop (entryFrame m as' maxL)) (T.setFrames fs)) : MetH l Z ws y bytes maxL ret rm as' h0 EL sf Q := by
  refine MetFree.of_bodySF hp hisR ?_
  intro p e s m args below meth c s₁ Bd hml hP hK
  obtain ⟨rfl, hZ, hh, H0, hsf⟩ := hP
  have e0 : s₁.heap = h0 := by rw [← hh, Bd.state]; rfl
  obtain ⟨T, v, L, k, n, vm1, n1, X, hS, hn1, hk, hn, hv, hQ, hC, st⟩ := body p e s m below meth c s₁ hZ Bd.exec Bd.bytes hml (findClass_of_methodNamed Bd.named) (name_of_methodNamed Bd.named Bd.method).1 Bd.returns Bd.notSynchronized (Stand.of_body Bd) e0 H0 hsf
  obtain ⟨fs, hr, hrun, hended, hW⟩ := Stand.leaveW X hS hn1 (v := v) (fun q => hv (Bd.returns.symm.trans q))
  have hC' : CHr Z EL s.vm s.heap (T.setFrames fs).vm (T.setFrames fs).heap := by
    have a : (T.setFrames fs).vm = T.vm := rfl
    have b : (T.setFrames fs).heap = T.heap := rfl
    rw [a, b, hh]; exact hC
  exact ⟨_, _, st fs hr, hrun, hended, _, _, rfl, hQ, hC', hW.1, hW.2.1, hW.2.2.1, hW.2.2.2.mono hk hn⟩
end Own
abbrev SS (p : Program) (e : Env) (b : List Frame) (T : State) (m : MethodId) (pc : Nat) (L : Array Slot) (S : List Value) (t : State) : Prop := Steps p.tables e b (T.setTop (mkF m pc L S)) t
section OwnC
variable {p : Program} {l : Launch} {e : Env} {R : Room} {s : State} {m : MethodId} {args : Array Value} {below : List Frame} {meth : Method} {c : Code} {T : State} {locs : List Loc} {cells slots : Nat} {Z : State} {a0 : Array Value} {h : Heap} {own : String} {index ml pc maxL : Nat} {y z : MethodName} {bytes : ByteArray} {ret : Option FieldType} {rm : Room} {as' : Array Value} {Q : Option Value → Heap → List Loc → Prop} {ps : List FieldType} {r : Option FieldType} {b : Addr} {C : String}
/-- what a call asks of the room -/
abbrev Rok (R rm : Room) (cells slots maxL W : Nat) (y : MethodName) : Prop := (y.cls ≠ "java/lang/invoke/MethodHandle" ∧ y.cls ≠ "java/lang/invoke/VarHandle") ∧ rm.frames + 1 ≤ R.frames ∧ W + (maxL + 11) + rm.locals ≤ R.locals ∧ cells + rm.cells ≤ R.cells ∧ slots + rm.slots ≤ R.slots
theorem own_cs (X : Stand p l e R s m args below meth c T locs cells slots) (hx : p.tables.exec = Jvm.exec) (hZ : Z.Warmed39 s.vm) (hown : s.vm.findClass own = some m.cls) (hml : c.maxLocals = ml) (w1 : (Jvm.Cond.methodLink own index y).before a0 Z = true) (w2 : (Jvm.Cond.static y).before a0 Z = true) (w3 : (Jvm.Cond.initialized y.cls).before a0 Z = true) (w4 : (Jvm.Cond.code y bytes maxL ret).before a0 Z = true)
    (hM : Met l Z [] y bytes maxL ret rm as' h Q) (eT : T.heap = h) (hd : decode c.code pc = .ok (.invokestatic index, 3)) (W : Nat) (Ls : Array Slot) (argsL rest : List Value) (pd : parseMethodDescriptor y.desc = some ⟨ps, r⟩) (ok : Rok R rm cells slots maxL W y) (hsz : Ls.size = ml) (hln : argsL.length = ps.length) (has : argsL.toArray = as') (hW : 2 * 0 + (rest.map fun v => v.category).sum ≤ W) :
    ∃ v T' L', Stand p l e R s m args below meth c T' (locs ++ L') (cells + rm.cells) (slots + rm.slots) ∧ Q v T'.heap L' ∧ ∀ t, SS p e below T' m (pc + 3) Ls (v.toList ++ rest) t → SS p e below T m pc Ls (argsL.reverse ++ rest) t := by
  obtain ⟨v, _, ⟨T', L, k, n⟩, -, X', ⟨Lc, hQ, rfl, rfl, rfl⟩, st⟩ := Jvm.LawKit.callS X hx (y := y) hown (mvT hZ w1) (mvT hZ w2) (mvT hZ w3) (mvT hZ w4) ok.1 (backOf (W := W) hM hZ w4 w3 ok.2.1 ok.2.2.1) (g := mkF m pc Ls (argsL.reverse ++ rest)) rfl (hsz.trans hml.symm) (argsL := argsL) (rest := rest) (lenOf pd hln) rfl hW hd (fun _ _ => ⟨has, eT, ok.2.2.2.1, ok.2.2.2.2⟩)
  exact ⟨v, T', Lc, X', hQ, st⟩
theorem own_cp (X : Stand p l e R s m args below meth c T locs cells slots) (hx : p.tables.exec = Jvm.exec) (hZ : Z.Warmed39 s.vm) (hown : s.vm.findClass own = some m.cls) (hml : c.maxLocals = ml) (hy : y.name = "<init>") (w1 : (Jvm.Cond.methodLink own index y).before a0 Z = true) (w2 : (Jvm.Cond.instanceMethod y).before a0 Z = true) (w3 : (Jvm.Cond.initialized y.cls).before a0 Z = true) (w4 : (Jvm.Cond.code y bytes maxL none).before a0 Z = true)
    (hM : Met l Z [] y bytes maxL none rm as' h Q) (eT : T.heap = h) (hd : decode c.code pc = .ok (.invokespecial index, 3)) (W : Nat) (Ls : Array Slot) (b : Addr) (argsL rest : List Value) (pd : parseMethodDescriptor y.desc = some ⟨ps, r⟩) (ok : Rok R rm cells slots maxL W y) (hsz : Ls.size = ml) (hln : argsL.length = ps.length) (has : (.ref b :: argsL).toArray = as') (hW : 2 * 0 + (rest.map fun v => v.category).sum ≤ W) :
    ∃ v T' L', Stand p l e R s m args below meth c T' (locs ++ L') (cells + rm.cells) (slots + rm.slots) ∧ Q v T'.heap L' ∧ ∀ t, SS p e below T' m (pc + 3) Ls (v.toList ++ rest) t → SS p e below T m pc Ls (argsL.reverse ++ .ref b :: rest) t := by
  obtain ⟨v, _, ⟨T', L, k, n⟩, -, X', ⟨Lc, hQ, rfl, rfl, rfl⟩, st⟩ := X.specialBack hx (y := y) hy hown (mvT hZ w1) (mvT hZ w2) (mvT hZ w4) ok.1 (backOf (W := W) hM hZ w4 w3 ok.2.1 ok.2.2.1) (g := mkF m pc Ls (argsL.reverse ++ .ref b :: rest)) rfl (hsz.trans hml.symm) (Steps.refl _) (a := b) (argsL := argsL) (rest := rest) (lenOf pd hln) rfl hW hd (fun _ _ => ⟨has, eT, ok.2.2.2.1, ok.2.2.2.2⟩)
  exact ⟨v, T', Lc, X', hQ, fun t q => st.trans q⟩
theorem own_cv (X : Stand p l e R s m args below meth c T locs cells slots) (hx : p.tables.exec = Jvm.exec) (hZ : Z.Warmed39 s.vm) (hown : s.vm.findClass own = some m.cls) (hml : c.maxLocals = ml) (w1 : (Jvm.Cond.methodLink own index y).before a0 Z = true) (w2 : (Jvm.Cond.declares y).before a0 Z = true) (nf : NotFace Z y) (ws : (Jvm.Cond.selects C y z).before a0 Z = true) (wi : (Jvm.Cond.instanceMethod z).before a0 Z = true) (w3 : (Jvm.Cond.initialized z.cls).before a0 Z = true) (w4 : (Jvm.Cond.code z bytes maxL ret).before a0 Z = true)
    (hM : Met l Z [] z bytes maxL ret rm as' h Q) (eT : T.heap = h) (E : Exa Z h b C) (hd : decode c.code pc = .ok (.invokevirtual index, 3)) (W : Nat) (Ls : Array Slot) (argsL rest : List Value) (pd : parseMethodDescriptor y.desc = some ⟨ps, r⟩) (ok : Rok R rm cells slots maxL W y) (hsz : Ls.size = ml) (hln : argsL.length = ps.length) (has : (.ref b :: argsL).toArray = as') (hW : 2 * 0 + (rest.map fun v => v.category).sum ≤ W) :
    ∃ v T' L', Stand p l e R s m args below meth c T' (locs ++ L') (cells + rm.cells) (slots + rm.slots) ∧ Q v T'.heap L' ∧ ∀ t, SS p e below T' m (pc + 3) Ls (v.toList ++ rest) t → SS p e below T m pc Ls (argsL.reverse ++ .ref b :: rest) t := by
  obtain ⟨cB, kB, qa, qb, qc⟩ := isOf hZ eT E
  obtain ⟨v, _, ⟨T', L, k, n⟩, -, X', ⟨Lc, hQ, rfl, rfl, rfl⟩, st⟩ := X.virtualBack hx (y := y) (z := z) hown (mvT hZ w1) (mvT hZ w2) (nf.move hZ.alike) (mvT hZ ws) (mvT hZ wi) ok.1 (backOf (W := W) hM hZ w4 w3 ok.2.1 ok.2.2.1) qa qc (g := mkF m pc Ls (argsL.reverse ++ .ref b :: rest)) rfl (hsz.trans hml.symm) (Steps.refl _) (argsL := argsL) (rest := rest) (lenOf pd hln) rfl hW hd (fun _ _ => ⟨has, eT, ok.2.2.2.1, ok.2.2.2.2⟩)
  exact ⟨v, T', Lc, X', hQ, fun t q => st.trans q⟩
end OwnC
theorem own_che {Z T : State} {EL : List (String × Nat)} {vm : Vm} {h0 h : Heap} (e : T.heap = h) (C : CHr Z EL vm h0 T.vm h) : CHr Z EL vm h0 T.vm T.heap := by rw [e]; exact C
theorem own_sf0 {Z : State} {EL : List (String × Nat)} {vm : Vm} {h : Heap} : ∀ x ∈ ([] : List Addr), Safe Z EL vm h x ∧ x < h.size := fun _ q => nomatch q
theorem own_sfS {Z : State} {EL : List (String × Nat)} {vm : Vm} {h : Heap} {x : Addr} {ws : List Addr} (n : Safe Z EL vm h x) (lt : x < h.size) (r : ∀ y ∈ ws, Safe Z EL vm h y ∧ y < h.size) : ∀ y ∈ x :: ws, Safe Z EL vm h y ∧ y < h.size := fun y q => by
  rcases List.mem_cons.mp q with rfl | q
  · exact ⟨n, lt⟩
  · exact r y q
theorem own_backH {l : Launch} {R : Room} {p : Program} {e : Env} {below : List Frame} {Z s : State} {a0 args : Array Value} {EL : List (String × Nat)} {h : Heap} {vm0 : Vm} {y : MethodName} {bytes : ByteArray} {maxL : Nat} {ret : Option FieldType} {rm : Room} {len W : Nat} {as' : Array Value} {sf : List Addr} {Q : Option Value → Heap → List Loc → Prop}
    (hM : MetFree l y (head1 [Jvm.Cond.code y bytes maxL ret] rm) (fun a U => a = as' ∧ Z.Warmed39 U.vm ∧ U.heap = h ∧ CHv Z EL U.vm h ∧ ∀ x ∈ sf, Safe Z EL U.vm h x) (fun _ _ _ _ _ => True) (fun _ U o U' => ∃ v L, o = .returned v ∧ Q v U'.heap L ∧ CHr Z EL U.vm U.heap U'.vm U'.heap ∧ ReturnedEndW U o U' L rm.cells rm.slots))
    (hZ : Z.Warmed39 vm0) (wc : (Jvm.Cond.code y bytes maxL ret).before a0 Z = true) (wz : (Jvm.Cond.initialized y.cls).before a0 Z = true) (hf : rm.frames + 1 ≤ R.frames) (hl : W + (maxL + 11) + rm.locals ≤ R.locals) (hEL : EW Z a0 EL) (H : CHv Z EL vm0 h) (hs : ∀ x ∈ sf, Safe Z EL vm0 h x ∧ x < h.size) :
    BackS l R p e below (s.setVm vm0) args y len W (fun A a => a = as' ∧ A.U.heap = h ∧ A.cells + rm.cells ≤ R.cells ∧ A.slots + rm.slots ≤ R.slots)
      (fun A _ v B => ∃ L, Q v B.U.heap L ∧ B.locs = A.locs ++ L ∧ B.cells = A.cells + rm.cells ∧ B.slots = A.slots + rm.slots ∧ CHr Z EL vm0 h B.U.vm B.U.heap) := by
  refine BackS.of_freeW (bytes := bytes) (maxL := maxL) (ret := ret) (E := fun _ first o t L k n => (k = rm.cells ∧ n = rm.slots) ∧ (∃ v, o = .returned v ∧ Q v t.heap L) ∧ CHr Z EL first.vm first.heap t.vm t.heap) hM hf hl ?_ ?_ ?_ ?_ ?_
  · intro m meth c A a Y hp
    have hU : Z.Warmed39 A.U.vm := wtrans (s := s.setVm vm0) hZ Y.warmed
    refine ⟨?_, mv hU wc, mv hU wz, hp.2.2.1, hp.2.2.2⟩
    show (Jvm.Cond.and _ .tt).before a A.U = true
    rw [Cond.before_and, mv hU wc]; rfl
  · intro m meth c A a g mk Y hp
    have q := CHv.at Y hZ hEL H
    exact ⟨hp.1, wtrans (s := s.setVm vm0) hZ Y.warmed, hp.2.1, q.1, fun x hx => q.safe (hs x hx).2 (hs x hx).1⟩
  · intros; trivial
  · rintro _ _ _ _ ⟨v, L, h1, h2, h3, h4⟩
    exact ⟨L, _, _, h4, ⟨rfl, rfl⟩, ⟨v, h1, h2⟩, h3⟩
  · rintro m meth c A a g mk v t L k n Y hp - - ⟨⟨rfl, rfl⟩, ⟨v', e3, e4⟩, e5⟩
    cases e3
    refine ⟨L, e4, rfl, rfl, rfl, (CHv.at Y hZ hEL H).trans ?_⟩
    have e6 : (A.U.calling g mk a).heap = h := hp.2.1
    rw [e6] at e5
    exact e5
def Elt (Z : State) (h : Heap) (a : Addr) (ty : FieldType) (j : Int32) (v : Value) : Prop := ∃ c : Cell, Arr Z h a c ty ∧ ¬ (j < 0 ∨ c.slots.size ≤ j.toNatClampNeg) ∧ c.slots[j.toNatClampNeg]? = some v
theorem Elt.ext {Z : State} {h h' : Heap} {a : Addr} {ty : FieldType} {j : Int32} {v : Value} (F : Elt Z h a ty j v) (E : Ext h h') : Elt Z h' a ty j v := by obtain ⟨c, A, r⟩ := F; exact ⟨c, A.ext E, r⟩
theorem Elt.lt {Z : State} {h : Heap} {a : Addr} {ty : FieldType} {j : Int32} {v : Value} (F : Elt Z h a ty j v) : a < h.size := by obtain ⟨c, A, -⟩ := F; exact A.lt
theorem own_arvty {Z : State} {h : Heap} {a b : Addr} {k1 k2 : ClassId} {t1 t2 : FieldType} {z1 z2 : Int32} {v1 v2 : List Value} {d1 d2 : Value} (A : Arv Z h a k1 t1 z1 v1 d1) (B : Arv Z h b k2 t2 z2 v2 d2) (hn : t1 ≠ t2) : a ≠ b := fun e => by
  subst e
  obtain ⟨c1, ⟨a1, ⟨-, q1, r1, m1, w1⟩, -⟩, -⟩ := A
  obtain ⟨c2, ⟨a2, ⟨-, q2, r2, m2, w2⟩, -⟩, -⟩ := B
  cases a1.symm.trans a2
  cases r1.symm.trans r2
  rw [w1] at w2
  injection w2 with _ e2
  exact hn e2
theorem own_decl {args : Array Value} {s : State} {y : MethodName} {bytes : ByteArray} {maxL : Nat} {ret : Option FieldType} (hi : (Jvm.Cond.instanceMethod y).before args s = true) (hc : (Jvm.Cond.code y bytes maxL ret).before args s = true) : (Jvm.Cond.declares y).before args s = true := by
  obtain ⟨mk, methM, hnamed, hmethM, hst, hab⟩ := Cond.instanceMethod_spec hi
  obtain ⟨m2, cM, q1, -, -, -, -, -, -, hsig⟩ := Cond.code_spec hnamed hc
  cases hmethM.symm.trans q1
  simp [Cond.before, Cond.holds, Cond.value, hnamed, hmethM, hst, hsig]
theorem own_char (x : Int32) (h1 : ¬ ((255 : Int32) < x)) (h2 : ¬ (x < (0 : Int32))) : x.toUInt32.toUInt16.toUInt32.toInt32 = x ∧ (x.toInt8.toInt32 &&& (255 : Int32)) = x := by
  have e1 := c_i2c x
  have e2 := c_mask x.toInt8.toInt32 255 8 (by decide) (by decide)
  have e3 := c_i2b x
  simp only [Int32.lt_iff_toInt_lt, Int32.reduceToInt] at h1 h2
  constructor
  · rw [← Int32.toInt_inj]; omega
  · rw [← Int32.toInt_inj, e2]; omega
theorem own_c255 (x : Int32) : ¬ ((255 : Int32) < (x &&& (255 : Int32))) ∧ ¬ ((x &&& (255 : Int32)) < (0 : Int32)) := by
  have e2 := c_mask x 255 8 (by decide) (by decide)
  simp only [Int32.lt_iff_toInt_lt, Int32.reduceToInt, e2]
  omega
theorem own_narB (x : Int32) : nar .byte (x.toInt8.toInt32) = x.toInt8.toInt32 := by
  show x.toInt8.toInt32.toInt8.toInt32 = x.toInt8.toInt32
  simp
theorem own_narC (x : Int32) : nar .char (x.toUInt32.toUInt16.toUInt32.toInt32) = x.toUInt32.toUInt16.toUInt32.toInt32 := by
  show x.toUInt32.toUInt16.toUInt32.toInt32.toUInt32.toUInt16.toUInt32.toInt32 = _
  have e1 := c_i2c x
  have e2 := c_i2c (x.toUInt32.toUInt16.toUInt32.toInt32)
  rw [← Int32.toInt_inj]; omega
theorem own_nput {t : FieldType} {x : Int32} (ht : t = .boolean ∨ t = .byte ∨ t = .char ∨ t = .short) (h : nar t x = x) : narrow t (.int x) = .int x := by
  have q : narrow t (.int x) = .int (nar t x) := by rcases ht with rfl | rfl | rfl | rfl <;> rfl
  rw [q, h]
theorem own_fput {t : FieldType} {x : Int32} (ht : t = .boolean ∨ t = .byte ∨ t = .char ∨ t = .short) (h : nar t x = x) : fits t (.int x) = true := by
  rw [← h]
  rcases ht with rfl | rfl | rfl | rfl
  · exact fits_nar_bool x
  · exact fits_nar_byte x
  · exact fits_nar_char x
  · exact fits_nar_short x
theorem own_nf {args : Array Value} {s : State} {C : String} {x y z : MethodName} (e : z.cls = y.cls) (hsel : (Jvm.Cond.selects C x y).before args s = true) : NotFace s z := fun r0 h0 => by
  obtain ⟨c2, r2, m2, q1, q2, q3, q4, kP, hkP, hkPi⟩ := Cond.selects_spec hsel
  have a := findClass_of_methodNamed h0
  have b := findClass_of_methodNamed q3
  rw [e] at a
  have q : r0.cls = m2.cls := Option.some.inj (a.symm.trans b)
  exact ⟨kP, by rw [q]; exact hkP, hkPi⟩
theorem own_same {args : Array Value} {s : State} {y : MethodName} (hm : y.cls ≠ "java/lang/invoke/MethodHandle" ∧ y.cls ≠ "java/lang/invoke/VarHandle") (hd : (Jvm.Cond.instanceMethod y).before args s = true) (nf : NotFace s y) : (Jvm.Cond.sameMethod y.cls y.cls y.name y.desc).before args s = true := by
  obtain ⟨mk, methM, hnamed, hmethM, hstM, habM⟩ := Cond.instanceMethod_spec hd
  obtain ⟨k, hk, hni⟩ := nf mk hnamed
  have a := findClass_of_methodNamed hnamed
  have f := State.methodFound?_of_named hnamed hm
  have hnamed' : s.methodNamed? ⟨y.cls, y.name, y.desc⟩ = some mk := hnamed
  simp [Cond.before, Cond.holds, Cond.value, a, f, hnamed', hk, hni]
theorem own_neI {a : Array Value} {s : State} {t : Term} {n x : Int32} (e : t.eval a s none [] s = some (.int x)) (h : (Jvm.Cond.not (.eq t (.int n))).value a s none s [] = some true) : ¬ (x = n) := by
  have h := not_v h
  simp only [Cond.value, Term.eval, e] at h
  simpa using h
theorem own_eqR {a : Array Value} {s : State} {t u : Term} {b : Addr} (hu : u.eval a s none [] s = some (.ref b)) (h : (Jvm.Cond.eq t u).value a s none s [] = some true) : t.eval a s none [] s = some (.ref b) := by
  simp only [Cond.value, hu] at h
  cases ht : t.eval a s none [] s with
  | none => simp [ht] at h
  | some x => cases x <;> simp [ht] at h; rw [h]
abbrev Y0 : MethodName := ⟨"java/lang/Number", "<init>", "()V"⟩
abbrev Y1 : MethodName := ⟨"java/lang/Integer", "<init>", "(I)V"⟩
abbrev Y2 : MethodName := ⟨"java/lang/Integer", "valueOf", "(I)Ljava/lang/Integer;"⟩
abbrev Y3 : MethodName := ⟨"java/util/Objects", "requireNonNull", "(Ljava/lang/Object;Ljava/lang/String;)Ljava/lang/Object;"⟩
abbrev Y4 : MethodName := ⟨"com/example/libshardmap/libshardmap/Range", "<init>", "(Ljava/lang/Object;Ljava/lang/Object;)V"⟩
abbrev Y5 : MethodName := ⟨"com/example/libshardmap/libshardmap/Range", "isOpenAtTop", "()Z"⟩
abbrev Y6 : MethodName := ⟨"com/example/libshardmap/libshardmap/Range", "getLow", "()Ljava/lang/Object;"⟩
abbrev Y7 : MethodName := ⟨"java/lang/Integer", "intValue", "()I"⟩
abbrev Y8 : MethodName := ⟨"com/example/libshardmap/libshardmap/Range", "getHigh", "()Ljava/lang/Object;"⟩
abbrev Y9 : MethodName := ⟨"com/example/libshardmap/libshardmap/Range", "<init>", "(Ljava/lang/Object;)V"⟩
abbrev FA10 (Z : State) (h : Heap) (a : Addr) (v : Value) : Prop := Fld Z h a "java/lang/Integer" "value" "I" v
abbrev FA11 (Z : State) (h : Heap) (a : Addr) (v : Value) : Prop := Fld Z h a "com/example/libshardmap/libshardmap/Range" "low" "Ljava/lang/Object;" v
abbrev FA12 (Z : State) (h : Heap) (a : Addr) (v : Value) : Prop := Fld Z h a "com/example/libshardmap/libshardmap/Range" "high" "Ljava/lang/Object;" v
abbrev EA13 (Z : State) (h : Heap) (a : Addr) : Prop := Exa Z h a "java/lang/Integer"
abbrev EA14 (Z : State) (h : Heap) (a : Addr) : Prop := Exa Z h a "com/example/libshardmap/libshardmap/Range"
abbrev EA15 (Z : State) (h : Heap) (a : Addr) : Prop := Exa Z h a "[Ljava/lang/Integer;"
abbrev SA16 (Z : State) (h : Heap) (v : Value) : Prop := Sta Z h "java/lang/Integer$IntegerCache" "high" "I" v
abbrev SA17 (Z : State) (h : Heap) (v : Value) : Prop := Sta Z h "java/lang/Integer$IntegerCache" "cache" "[Ljava/lang/Integer;" v
abbrev HW (Z : State) (a0 : Array Value) : Prop := ∀ d ∈ tables_1, d.before a0 Z = true
def Q0 (n0 : Nat) (v : Option Value) (L : List Loc) : Prop := v = some (.int (1 : Int32)) ∧ Fr n0 L
theorem d_0 : decode jdk_33_method_22_code 0 = .ok (.iload_n 0, 1) := by decide +kernel
theorem d_1 : decode jdk_33_method_22_code 1 = .ok (.bipush (-128), 2) := by decide +kernel
theorem d_2 : decode jdk_33_method_22_code 3 = .ok (.if_icmp .lt 20, 3) := by decide +kernel
theorem d_3 : decode jdk_33_method_22_code 23 = .ok (.new 1, 3) := by decide +kernel
theorem d_4 : decode jdk_33_method_22_code 26 = .ok (.dup, 1) := by decide +kernel
theorem d_5 : decode jdk_33_method_22_code 27 = .ok (.iload_n 0, 1) := by decide +kernel
theorem d_6 : decode jdk_33_method_22_code 28 = .ok (.invokespecial 199, 3) := by decide +kernel
theorem d_7 : decode jdk_33_method_23_code 0 = .ok (.aload_n 0, 1) := by decide +kernel
theorem d_8 : decode jdk_33_method_23_code 1 = .ok (.invokespecial 202, 3) := by decide +kernel
theorem d_9 : decode jdk_18_method_1_code 0 = .ok (.aload_n 0, 1) := by decide +kernel
theorem d_10 : decode jdk_18_method_1_code 1 = .ok (.invokespecial 1, 3) := by decide +kernel
theorem d_11 : decode jdk_18_method_1_code 4 = .ok (.return_, 1) := by decide +kernel
theorem ef_12 (m : MethodId) (a1 : Addr) : entryFrame m #[(.ref a1)] 1 = mkF m 0 #[rv a1] [] := by first | (simp [entryFrame, mkF, argsToLocals, Value.category]; done) | rfl
theorem pn_13 : plainName "java/lang/Number" = true := by first | (simp [plainName, overriddenIn]; done) | decide +kernel
-- java/lang/Number.<init>()V
def Q1_init (Z : State) (a1 : Addr) (h0 : Heap) (n0 : Nat) (v : Option Value) (h : Heap) (L : List Loc) : Prop := v = none ∧ Fr n0 L ∧ h = h0
set_option maxRecDepth 65536 in
set_option maxHeartbeats 40000000 in
theorem rm1_init (l : Launch) (Z : State) (a0 : Array Value) (hw : HW Z a0) (a1 : Addr) (h0 : Heap) (n0 : Nat) (O0 : Old Z n0 h0)  :
    Met l Z [] Y0 jdk_18_method_1_code 1 none ({ frames := 1, cells := 0, slots := 0, locals := 12 } : Room) #[(.ref a1)] h0 (Q1_init Z a1 h0 n0) := by
  have W := fun (i : Nat) {c : Jvm.Cond} (q : tables_1[i]? = some c) => hw c (List.mem_of_getElem? q)
  refine own_mk (plainFor_of_name pn_13) ?_
  intro p e s m below meth c s₁ hZ hx hby hml hown hnm hret hlk X0 e0
  have N0 := Fr.nil n0
  obtain ⟨T1, X1, e1, st1⟩ := initO X0 hx hZ hown (W 71 rfl) (W 14 rfl) (W 15 rfl) e0 (g := (mkF m 1 #[rv a1] [(.ref a1)])) rfl (by rw [hml]; rfl) rfl (hb hby d_10) (by decide) (W := 0) (by show 2 * 0 + _ ≤ _; exact Nat.le_of_eq rfl) (by decide)
  refine ⟨T1, none, _, _, _, X1, by decide, by decide, (fun _ => rfl), ?_, fun fs hr => castTop (ef_12 m a1) ?_⟩
  · show Q1_init Z a1 h0 n0 _ T1.heap _
    rw [e1]
    exact ⟨rfl, N0, rfl⟩
  · show SS p e below s₁ m 0 #[rv a1] [] _
    refine XS.aloadN X0.here hx rfl (hb hby d_9) rfl rfl ?_
    show SS p e below s₁ m 1 #[rv a1] [(.ref a1)] _
    refine st1 _ ?_
    show SS p e below T1 m 4 #[rv a1] [] _
    exact X1.returnOut hx hret (hb hby d_11) hr
theorem pd_14 : parseMethodDescriptor "()V" = some ⟨[], none⟩ := by decide +kernel
theorem d_15 : decode jdk_33_method_23_code 4 = .ok (.aload_n 0, 1) := by decide +kernel
theorem d_16 : decode jdk_33_method_23_code 5 = .ok (.iload_n 1, 1) := by decide +kernel
theorem d_17 : decode jdk_33_method_23_code 6 = .ok (.putfield 205, 3) := by decide +kernel
theorem d_18 : decode jdk_33_method_23_code 9 = .ok (.return_, 1) := by decide +kernel
theorem ef_19 (m : MethodId) (a1 : Addr) (p2 : Int32) : entryFrame m #[(.ref a1), (.int p2)] 2 = mkF m 0 #[rv a1, iv p2] [] := by first | (simp [entryFrame, mkF, argsToLocals, Value.category]; done) | rfl
theorem pn_20 : plainName "java/lang/Integer" = true := by first | (simp [plainName, overriddenIn]; done) | decide +kernel
-- java/lang/Integer.<init>(I)V
def Q2_init (Z : State) (a1 : Addr) (p2 : Int32) (h0 : Heap) (n0 : Nat) (v : Option Value) (h : Heap) (L : List Loc) : Prop := v = none ∧ Fr n0 L ∧ Keep h0 h [a1] ∧ FA10 Z h a1 (.int p2)
set_option maxRecDepth 65536 in
set_option maxHeartbeats 40000000 in
theorem rm2_init (l : Launch) (Z : State) (a0 : Array Value) (hw : HW Z a0) (a1 : Addr) (p2 : Int32) (h0 : Heap) (n0 : Nat) (O0 : Old Z n0 h0) (F_0 : EA13 Z h0 a1) (F_1 : FA10 Z h0 a1 (.int (0 : Int32))) (g_2 : n0 ≤ a1) :
    Met l Z [] Y1 jdk_33_method_23_code 2 none ({ frames := 2, cells := 0, slots := 0, locals := 24 } : Room) #[(.ref a1), (.int p2)] h0 (Q2_init Z a1 p2 h0 n0) := by
  have W := fun (i : Nat) {c : Jvm.Cond} (q : tables_1[i]? = some c) => hw c (List.mem_of_getElem? q)
  refine own_mk (plainFor_of_name pn_20) ?_
  intro p e s m below meth c s₁ hZ hx hby hml hown hnm hret hlk X0 e0
  have N0 := Fr.nil n0
  obtain ⟨_, T1, L1, X1, hQ1, st1⟩ := own_cp X0 hx hZ hown hml rfl (W 65 rfl) (W 66 rfl) (W 69 rfl) (W 70 rfl) (rm1_init l Z a0 hw a1 h0 n0 O0 ) e0 (hb hby d_8) 0 #[rv a1, iv p2] a1 [] [] pd_14 (by decide) rfl rfl rfl (Nat.le_of_eq rfl)
  obtain ⟨rfl, N1q, K1⟩ := hQ1
  have N2 := Fr.app N0 N1q
  obtain ⟨T3, h3, X3, e3, W3, st3⟩ := putF X1 hx hZ hown (host := "") (Or.inl (W 50 rfl)) Via.refl K1 F_1 F_0 (Or.inr ⟨(W 51 rfl), rfl, hnm⟩) (W 61 rfl) (ty := .int) (by decide) rfl rfl (g := (mkF m 6 #[rv a1, iv p2] [(.int p2), (.ref a1)])) rfl rfl (hb hby d_17)
  have O4 := O0.wr W3 g_2
  have K5 : Keep h0 h3 [a1] := Keep.wr (Keep.refl h0 [a1]) W3 (Or.inl (List.mem_of_getElem? (i := 0) rfl))
  have f6 : FA10 Z h3 a1 (.int p2) := (F_1.same W3)
  have N7 := Fr.snoc X3 N2 g_2
  refine ⟨T3, none, _, _, _, X3, by decide, by decide, (fun _ => rfl), ?_, fun fs hr => castTop (ef_19 m a1 p2) ?_⟩
  · show Q2_init Z a1 p2 h0 n0 _ T3.heap _
    rw [e3]
    exact ⟨rfl, N7, K5, f6⟩
  · show SS p e below s₁ m 0 #[rv a1, iv p2] [] _
    refine XS.aloadN X0.here hx rfl (hb hby d_7) rfl rfl ?_
    show SS p e below s₁ m 1 #[rv a1, iv p2] [(.ref a1)] _
    refine st1 _ ?_
    show SS p e below T1 m 4 #[rv a1, iv p2] [] _
    refine XS.aloadN X1.here hx rfl (hb hby d_15) rfl rfl ?_
    refine XS.iloadN X1.here hx rfl (hb hby d_16) rfl ?_
    show SS p e below T1 m 6 #[rv a1, iv p2] [(.int p2), (.ref a1)] _
    refine st3 _ ?_
    show SS p e below T3 m 9 #[rv a1, iv p2] [] _
    exact X3.returnOut hx hret (hb hby d_18) hr
theorem pd_21 : parseMethodDescriptor "(I)V" = some ⟨[.int], none⟩ := by decide +kernel
theorem d_22 : decode jdk_33_method_22_code 31 = .ok (.areturn, 1) := by decide +kernel
theorem ef_23 (m : MethodId) (p1 : Int32) : entryFrame m #[(.int p1)] 1 = mkF m 0 #[iv p1] [] := by first | (simp [entryFrame, mkF, argsToLocals, Value.category]; done) | rfl
-- java/lang/Integer.valueOf(I)Ljava/lang/Integer;
def Q3_valueOf (Z : State) (p1 : Int32) (h0 : Heap) (n0 : Nat) (v : Option Value) (h : Heap) (L : List Loc) : Prop := ∃ (b1 : Addr), v = some (.ref b1) ∧ Fr n0 L ∧ Keep h0 h [] ∧ h0.size ≤ b1 ∧ EA13 Z h b1 ∧ FA10 Z h b1 (.int p1)
set_option maxRecDepth 65536 in
set_option maxHeartbeats 40000000 in
theorem rm3_valueOf (l : Launch) (Z : State) (a0 : Array Value) (hw : HW Z a0) (p1 : Int32) (h0 : Heap) (n0 : Nat) (O0 : Old Z n0 h0) (hc_0 : p1 < (-128 : Int32)) :
    Met l Z [] Y2 jdk_33_method_22_code 1 (some (.object "java/lang/Integer")) ({ frames := 3, cells := 1, slots := 1, locals := 38 } : Room) #[(.int p1)] h0 (Q3_valueOf Z p1 h0 n0) := by
  have W := fun (i : Nat) {c : Jvm.Cond} (q : tables_1[i]? = some c) => hw c (List.mem_of_getElem? q)
  refine own_mk (plainFor_of_name pn_20) ?_
  intro p e s m below meth c s₁ hZ hx hby hml hown hnm hret hlk X0 e0
  have N0 := Fr.nil n0
  obtain ⟨T1, h1, X1, e1, E1, A1, D1, -, st1⟩ := newO X0 hx hZ hown (W 60 rfl) (W 61 rfl) (W 2 rfl) e0 (g := (mkF m 23 #[iv p1] [])) rfl (hb hby d_3) (by decide) (by decide)
  obtain ⟨b1, g1⟩ : ∃ z, z = h0.size := ⟨_, rfl⟩
  rw [← g1] at A1 D1 st1
  have O2 := O0.ext E1
  have K3 : Keep h0 h1 [] := Keep.ext (Keep.refl h0 []) E1
  have g5 : n0 ≤ b1 := Nat.le_trans (Nat.le_trans (Nat.le_of_eq O0.1.symm) O0.2.1) (Nat.le_of_eq g1.symm)
  obtain ⟨_, T4, L4, X4, hQ4, st4⟩ := own_cp X1 hx hZ hown hml rfl (W 62 rfl) (W 63 rfl) (W 2 rfl) (W 64 rfl) (rm2_init l Z a0 hw b1 p1 h1 n0 O2 (A1) ((D1 (Or.inr (W 51 rfl)) (ty := .int) (by decide) : FA10 Z h1 b1 (.int (0 : Int32)))) (g5)) e1 (hb hby d_6) 1 #[iv p1] b1 [(.int p1)] [(.ref b1)] pd_21 (by decide) rfl rfl rfl (Nat.le_of_eq rfl)
  obtain ⟨rfl, N4q, K4, F4_0⟩ := hQ4
  have N6 := Fr.app N0 N4q
  have O7 := O2.keep K4 (allS g5 all0)
  have K8 : Keep h0 T4.heap [] := Keep.trans K3 K4 (allS (Or.inr (Nat.le_of_eq g1.symm)) all0)
  have f9 := (A1.keep K4)
  refine ⟨T4, some (.ref b1), _, _, _, X4, by decide, by decide, nofun, ?_, fun fs hr => castTop (ef_23 m p1) ?_⟩
  · show Q3_valueOf Z p1 h0 n0 _ T4.heap _
    exact ⟨b1, rfl, N6, K8, (Nat.le_of_eq g1.symm), f9, F4_0⟩
  · show SS p e below s₁ m 0 #[iv p1] [] _
    refine XS.iloadN X0.here hx rfl (hb hby d_0) rfl ?_
    refine XS.bipush X0.here hx rfl (hb hby d_1) ?_
    show SS p e below s₁ m 3 #[iv p1] [(.int (-128 : Int32)), (.int p1)] _
    refine XS.icmpYes X0.here hx rfl (pc0 := 3) (pc' := 23) rfl (hb hby d_2) rfl (tlt hc_0).1 (by decide) (by decide) ?_
    show SS p e below s₁ m 23 #[iv p1] [] _
    refine st1 _ ?_
    show SS p e below T1 m 26 #[iv p1] [(.ref b1)] _
    refine XS.dup X1.here hx rfl (hb hby d_4) rfl rfl ?_
    refine XS.iloadN X1.here hx rfl (hb hby d_5) rfl ?_
    show SS p e below T1 m 28 #[iv p1] [(.int p1), (.ref b1), (.ref b1)] _
    refine st4 _ ?_
    show SS p e below T4 m 31 #[iv p1] [(.ref b1)] _
    exact retOut X4 hx hret rfl (Or.inr (Or.inr (Or.inr (Or.inr ⟨rfl, rfl, rfl⟩)))) (hb hby d_22) hr
theorem pd_24 : parseMethodDescriptor "(I)Ljava/lang/Integer;" = some ⟨[.int], some (.object "java/lang/Integer")⟩ := by decide +kernel
theorem d_25 : decode prog_29_method_1_code 0 = .ok (.aload_n 0, 1) := by decide +kernel
theorem d_26 : decode prog_29_method_1_code 1 = .ok (.invokespecial 1, 3) := by decide +kernel
theorem d_27 : decode prog_29_method_1_code 4 = .ok (.aload_n 0, 1) := by decide +kernel
theorem d_28 : decode prog_29_method_1_code 5 = .ok (.aload_n 1, 1) := by decide +kernel
theorem d_29 : decode prog_29_method_1_code 6 = .ok (.ldc 7, 2) := by decide +kernel
theorem own_str_30 {Z : State} {a0 : Array Value} (hw : HW Z a0) : ∀ a ∈ Bundle.stringAtoms, a.before a0 Z = true := by
  have W := fun (i : Nat) {c : Jvm.Cond} (q : tables_1[i]? = some c) => hw c (List.mem_of_getElem? q)
  intro a ha
  simp only [Bundle.stringAtoms, List.mem_cons, List.not_mem_nil, or_false] at ha
  rcases ha with rfl | rfl | rfl | rfl | rfl | rfl | rfl
  · exact (W 17 rfl)
  · exact (W 18 rfl)
  · exact (W 19 rfl)
  · exact (W 20 rfl)
  · exact (W 21 rfl)
  · exact (W 22 rfl)
  · exact (W 23 rfl)
theorem d_31 : decode prog_29_method_1_code 8 = .ok (.invokestatic 9, 3) := by decide +kernel
theorem d_32 : decode jdk_31_method_11_code 0 = .ok (.aload_n 0, 1) := by decide +kernel
theorem d_33 : decode jdk_31_method_11_code 1 = .ok (.ifnonnull 12, 3) := by decide +kernel
theorem d_34 : decode jdk_31_method_11_code 13 = .ok (.aload_n 0, 1) := by decide +kernel
theorem d_35 : decode jdk_31_method_11_code 14 = .ok (.areturn, 1) := by decide +kernel
theorem ef_36 (m : MethodId) (a1 : Addr) (a2 : Addr) : entryFrame m #[(.ref a1), (.ref a2)] 2 = mkF m 0 #[rv a1, rv a2] [] := by first | (simp [entryFrame, mkF, argsToLocals, Value.category]; done) | rfl
theorem pn_37 : plainName "java/util/Objects" = true := by first | (simp [plainName, overriddenIn]; done) | decide +kernel
-- java/util/Objects.requireNonNull(Ljava/lang/Object;Ljava/lang/String;)Ljava/lang/Object;
def Q4_requireNonNull (Z : State) (a1 : Addr) (a2 : Addr) (h0 : Heap) (n0 : Nat) (v : Option Value) (h : Heap) (L : List Loc) : Prop := v = some (.ref a1) ∧ Fr n0 L ∧ h = h0
set_option maxRecDepth 65536 in
set_option maxHeartbeats 40000000 in
theorem rm4_requireNonNull (l : Launch) (Z : State) (a0 : Array Value) (hw : HW Z a0) (a1 : Addr) (a2 : Addr) (h0 : Heap) (n0 : Nat) (O0 : Old Z n0 h0)  :
    Met l Z [] Y3 jdk_31_method_11_code 2 (some (.object "java/lang/Object")) ({ frames := 0, cells := 0, slots := 0, locals := 0 } : Room) #[(.ref a1), (.ref a2)] h0 (Q4_requireNonNull Z a1 a2 h0 n0) := by
  have W := fun (i : Nat) {c : Jvm.Cond} (q : tables_1[i]? = some c) => hw c (List.mem_of_getElem? q)
  refine own_mk (plainFor_of_name pn_37) ?_
  intro p e s m below meth c s₁ hZ hx hby hml hown hnm hret hlk X0 e0
  have N0 := Fr.nil n0
  refine ⟨s₁, some (.ref a1), _, _, _, X0, by decide, by decide, nofun, ?_, fun fs hr => castTop (ef_36 m a1 a2) ?_⟩
  · show Q4_requireNonNull Z a1 a2 h0 n0 _ s₁.heap _
    rw [e0]
    exact ⟨rfl, N0, rfl⟩
  · show SS p e below s₁ m 0 #[rv a1, rv a2] [] _
    refine XS.aloadN X0.here hx rfl (hb hby d_32) rfl rfl ?_
    show SS p e below s₁ m 1 #[rv a1, rv a2] [(.ref a1)] _
    refine XS.ifnonnullYes X0.here hx rfl (pc0 := 1) (pc' := 13) rfl (hb hby d_33) rfl (by decide) (by decide) ?_
    show SS p e below s₁ m 13 #[rv a1, rv a2] [] _
    refine XS.aloadN X0.here hx rfl (hb hby d_34) rfl rfl ?_
    show SS p e below s₁ m 14 #[rv a1, rv a2] [(.ref a1)] _
    exact retOut X0 hx hret rfl (Or.inr (Or.inr (Or.inr (Or.inr ⟨rfl, rfl, rfl⟩)))) (hb hby d_35) hr
theorem pd_38 : parseMethodDescriptor "(Ljava/lang/Object;Ljava/lang/String;)Ljava/lang/Object;" = some ⟨[(.object "java/lang/Object"), (.object "java/lang/String")], some (.object "java/lang/Object")⟩ := by decide +kernel
theorem d_39 : decode prog_29_method_1_code 11 = .ok (.putfield 15, 3) := by decide +kernel
theorem d_40 : decode prog_29_method_1_code 14 = .ok (.aload_n 0, 1) := by decide +kernel
theorem d_41 : decode prog_29_method_1_code 15 = .ok (.aload_n 2, 1) := by decide +kernel
theorem d_42 : decode prog_29_method_1_code 16 = .ok (.ldc 20, 2) := by decide +kernel
theorem d_43 : decode prog_29_method_1_code 18 = .ok (.invokestatic 9, 3) := by decide +kernel
theorem d_44 : decode prog_29_method_1_code 21 = .ok (.putfield 22, 3) := by decide +kernel
theorem d_45 : decode prog_29_method_1_code 24 = .ok (.return_, 1) := by decide +kernel
theorem ef_46 (m : MethodId) (a1 : Addr) (a2 : Addr) (a3 : Addr) : entryFrame m #[(.ref a1), (.ref a2), (.ref a3)] 3 = mkF m 0 #[rv a1, rv a2, rv a3] [] := by first | (simp [entryFrame, mkF, argsToLocals, Value.category]; done) | rfl
theorem pn_47 : plainName "com/example/libshardmap/libshardmap/Range" = true := by first | (simp [plainName, overriddenIn]; done) | decide +kernel
-- com/example/libshardmap/libshardmap/Range.<init>(Ljava/lang/Object;Ljava/lang/Object;)V
def Q5_init (Z : State) (a1 : Addr) (a2 : Addr) (a3 : Addr) (h0 : Heap) (n0 : Nat) (v : Option Value) (h : Heap) (L : List Loc) : Prop := v = none ∧ Fr n0 L ∧ Keep h0 h [a1] ∧ FA11 Z h a1 (.ref a2) ∧ FA12 Z h a1 (.ref a3)
set_option maxRecDepth 65536 in
set_option maxHeartbeats 40000000 in
theorem rm5_init (l : Launch) (Z : State) (a0 : Array Value) (hw : HW Z a0) (a1 : Addr) (a2 : Addr) (a3 : Addr) (h0 : Heap) (n0 : Nat) (O0 : Old Z n0 h0) (F_0 : EA14 Z h0 a1) (F_1 : FA11 Z h0 a1 .null) (g_2 : n0 ≤ a1) (F_3 : FA12 Z h0 a1 .null) :
    MetW l Z [] Y4 prog_29_method_1_code 3 none ({ frames := 1, cells := 4, slots := 36, locals := 14 } : Room) #[(.ref a1), (.ref a2), (.ref a3)] h0 (Q5_init Z a1 a2 a3 h0 n0) := by
  have W := fun (i : Nat) {c : Jvm.Cond} (q : tables_1[i]? = some c) => hw c (List.mem_of_getElem? q)
  refine own_mkW (plainFor_of_name pn_47) ?_
  intro p e s m below meth c s₁ hZ hx hby hml hown hnm hret hlk X0 e0
  have N0 := Fr.nil n0
  obtain ⟨T1, X1, e1, st1⟩ := initO X0 hx hZ hown (W 13 rfl) (W 14 rfl) (W 15 rfl) e0 (g := (mkF m 1 #[rv a1, rv a2, rv a3] [(.ref a1)])) rfl (by rw [hml]; rfl) rfl (hb hby d_26) (by decide) (W := 0) (by show 2 * 0 + _ ≤ _; exact Nat.le_of_eq rfl) (by decide)
  have X2 := (show Stand p l e _ (s.setVm s.vm) m _ below meth c _ _ _ _ from X1)
  obtain ⟨b3, T3, h3, k3, X3, e3, E3, hS3, hk3, hZ3, hown3, st3⟩ := ldcS (s := s) (vm0 := s.vm) X2 hx hZ hown (W 16 rfl) (own_str_30 hw) e1 ((State.WarmedH.refl s).since 0) (Nat.zero_le _) (g := (mkF m 6 #[rv a1, rv a2, rv a3] [(.ref a2), (.ref a1)])) rfl (hb hby d_29) (n := 12) (by decide) (by decide) (by decide) (by decide)
  have O4 := O0.ext E3
  have K5 : Keep h0 h3 [a1] := Keep.ext (Keep.refl h0 [a1]) E3
  obtain ⟨_, T6, L6, X6, hQ6, st6⟩ := own_cs X3 hx hZ3 hown3 hml (W 24 rfl) (W 25 rfl) (W 26 rfl) (W 27 rfl) (rm4_requireNonNull l Z a0 hw a2 b3 h3 n0 O4 ) e3 (hb hby d_31) 1 #[rv a1, rv a2, rv a3] [(.ref a2), (.ref b3)] [(.ref a1)] pd_38 (by decide) rfl rfl rfl (Nat.le_of_eq rfl)
  obtain ⟨rfl, N6q, K6⟩ := hQ6
  have N7 := Fr.app N0 N6q
  have f9 := (F_1.ext E3)
  have f10 := (F_0.ext E3)
  obtain ⟨T8, h8, X8, e8, W8, st8⟩ := putF X6 hx hZ3 hown3 (host := "") (Or.inl (W 28 rfl)) Via.refl K6 f9 f10 (Or.inr ⟨(W 29 rfl), rfl, hnm⟩) (W 8 rfl) (ty := (.object "java/lang/Object")) (by decide) rfl rfl (g := (mkF m 11 #[rv a1, rv a2, rv a3] [(.ref a2), (.ref a1)])) rfl rfl (hb hby d_39)
  have O11 := O4.wr W8 g_2
  have K12 : Keep h0 h8 [a1] := Keep.wr K5 W8 (Or.inl (List.mem_of_getElem? (i := 0) rfl))
  have f13 : FA11 Z h8 a1 (.ref a2) := (f9.same W8)
  have N14 := Fr.snoc X8 N7 g_2
  have z16 : h3.size ≤ h8.size := (Nat.le_of_eq W8.size.symm)
  obtain ⟨b15, T15, h15, k15, X15, e15, E15, hS15, hk15, hZ15, hown15, st15⟩ := ldcS (s := s) (vm0 := T3.vm) X8 hx hZ3 hown3 (W 30 rfl) (own_str_30 hw) e8 hS3 (Nat.le_trans hk3 z16) (g := (mkF m 16 #[rv a1, rv a2, rv a3] [(.ref a3), (.ref a1)])) rfl (hb hby d_42) (n := 16) (by decide) (by decide) (by decide) (by decide)
  have O17 := O11.ext E15
  have K18 : Keep h0 h15 [a1] := Keep.ext K12 E15
  obtain ⟨_, T19, L19, X19, hQ19, st19⟩ := own_cs X15 hx hZ15 hown15 hml (W 24 rfl) (W 25 rfl) (W 26 rfl) (W 27 rfl) (rm4_requireNonNull l Z a0 hw a3 b15 h15 n0 O17 ) e15 (hb hby d_43) 1 #[rv a1, rv a2, rv a3] [(.ref a3), (.ref b15)] [(.ref a1)] pd_38 (by decide) rfl rfl rfl (Nat.le_of_eq rfl)
  obtain ⟨rfl, N19q, K19⟩ := hQ19
  have N20 := Fr.app N14 N19q
  have f22 := (((F_3.ext E3).other W8 (Or.inr (slot_ne (Or.inr (W 32 rfl)) (Or.inr (W 29 rfl)) (by decide) (t := (.object "java/lang/Object")) (t' := (.object "java/lang/Object")) (by decide) (by decide)))).ext E15)
  have f23 := ((f10.wr W8).ext E15)
  obtain ⟨T21, h21, X21, e21, W21, st21⟩ := putF X19 hx hZ15 hown15 (host := "") (Or.inl (W 31 rfl)) Via.refl K19 f22 f23 (Or.inr ⟨(W 32 rfl), rfl, hnm⟩) (W 8 rfl) (ty := (.object "java/lang/Object")) (by decide) rfl rfl (g := (mkF m 21 #[rv a1, rv a2, rv a3] [(.ref a3), (.ref a1)])) rfl rfl (hb hby d_44)
  have O24 := O17.wr W21 g_2
  have K25 : Keep h0 h21 [a1] := Keep.wr K18 W21 (Or.inl (List.mem_of_getElem? (i := 0) rfl))
  have f26 : FA12 Z h21 a1 (.ref a3) := (f22.same W21)
  have N27 := Fr.snoc X21 N20 g_2
  have z28 : h15.size ≤ h21.size := (Nat.le_of_eq W21.size.symm)
  have f29 := ((f13.ext E15).other W21 (Or.inr (slot_ne (Or.inr (W 29 rfl)) (Or.inr (W 32 rfl)) (by decide) (t := (.object "java/lang/Object")) (t' := (.object "java/lang/Object")) (by decide) (by decide))))
  refine ⟨T21, none, _, _, _, T15.vm, _, X21, hS15, (by rw [e21]; exact (Nat.le_trans hk15 z28)), by decide, by decide, (fun _ => rfl), ?_, fun fs hr => castTop (ef_46 m a1 a2 a3) ?_⟩
  · show Q5_init Z a1 a2 a3 h0 n0 _ T21.heap _
    rw [e21]
    exact ⟨rfl, N27, K25, f29, f26⟩
  · show SS p e below s₁ m 0 #[rv a1, rv a2, rv a3] [] _
    refine XS.aloadN X0.here hx rfl (hb hby d_25) rfl rfl ?_
    show SS p e below s₁ m 1 #[rv a1, rv a2, rv a3] [(.ref a1)] _
    refine st1 _ ?_
    show SS p e below T1 m 4 #[rv a1, rv a2, rv a3] [] _
    refine XS.aloadN X1.here hx rfl (hb hby d_27) rfl rfl ?_
    refine XS.aloadN X1.here hx rfl (hb hby d_28) rfl rfl ?_
    show SS p e below T1 m 6 #[rv a1, rv a2, rv a3] [(.ref a2), (.ref a1)] _
    refine st3 _ ?_
    show SS p e below T3 m 8 #[rv a1, rv a2, rv a3] [(.ref b3), (.ref a2), (.ref a1)] _
    refine st6 _ ?_
    show SS p e below T6 m 11 #[rv a1, rv a2, rv a3] [(.ref a2), (.ref a1)] _
    refine st8 _ ?_
    show SS p e below T8 m 14 #[rv a1, rv a2, rv a3] [] _
    refine XS.aloadN X8.here hx rfl (hb hby d_40) rfl rfl ?_
    refine XS.aloadN X8.here hx rfl (hb hby d_41) rfl rfl ?_
    show SS p e below T8 m 16 #[rv a1, rv a2, rv a3] [(.ref a3), (.ref a1)] _
    refine st15 _ ?_
    show SS p e below T15 m 18 #[rv a1, rv a2, rv a3] [(.ref b15), (.ref a3), (.ref a1)] _
    refine st19 _ ?_
    show SS p e below T19 m 21 #[rv a1, rv a2, rv a3] [(.ref a3), (.ref a1)] _
    refine st21 _ ?_
    show SS p e below T21 m 24 #[rv a1, rv a2, rv a3] [] _
    exact X21.returnOut hx hret (hb hby d_45) hr
theorem pd_48 : parseMethodDescriptor "(Ljava/lang/Object;Ljava/lang/Object;)V" = some ⟨[(.object "java/lang/Object"), (.object "java/lang/Object")], none⟩ := by decide +kernel
theorem d_49 : decode prog_29_method_5_code 0 = .ok (.aload_n 0, 1) := by decide +kernel
theorem d_50 : decode prog_29_method_5_code 1 = .ok (.getfield 22, 3) := by decide +kernel
theorem d_51 : decode prog_29_method_5_code 4 = .ok (.ifnonnull 7, 3) := by decide +kernel
theorem d_52 : decode prog_29_method_5_code 11 = .ok (.iconst 0, 1) := by decide +kernel
theorem d_53 : decode prog_29_method_5_code 12 = .ok (.ireturn, 1) := by decide +kernel
-- com/example/libshardmap/libshardmap/Range.isOpenAtTop()Z
def Q6_isOpenAtTop (Z : State) (a1 : Addr) (a2 : Addr) (h0 : Heap) (n0 : Nat) (v : Option Value) (h : Heap) (L : List Loc) : Prop := v = some (.int (0 : Int32)) ∧ Fr n0 L ∧ h = h0
set_option maxRecDepth 65536 in
set_option maxHeartbeats 40000000 in
theorem rm6_isOpenAtTop (l : Launch) (Z : State) (a0 : Array Value) (hw : HW Z a0) (a1 : Addr) (a2 : Addr) (h0 : Heap) (n0 : Nat) (O0 : Old Z n0 h0) (F_0 : FA12 Z h0 a1 (.ref a2)) :
    Met l Z [] Y5 prog_29_method_5_code 1 (some .boolean) ({ frames := 0, cells := 0, slots := 0, locals := 0 } : Room) #[(.ref a1)] h0 (Q6_isOpenAtTop Z a1 a2 h0 n0) := by
  have W := fun (i : Nat) {c : Jvm.Cond} (q : tables_1[i]? = some c) => hw c (List.mem_of_getElem? q)
  refine own_mk (plainFor_of_name pn_47) ?_
  intro p e s m below meth c s₁ hZ hx hby hml hown hnm hret hlk X0 e0
  have N0 := Fr.nil n0
  obtain ⟨T1, X1, e1, st1⟩ := getF X0 hx hZ hown (host := "") (Or.inl (W 31 rfl)) Via.refl e0 F_0 (g := (mkF m 1 #[rv a1] [(.ref a1)])) rfl rfl (hb hby d_50)
  refine ⟨T1, some (.int (0 : Int32)), _, _, _, X1, by decide, by decide, nofun, ?_, fun fs hr => castTop (ef_12 m a1) ?_⟩
  · show Q6_isOpenAtTop Z a1 a2 h0 n0 _ T1.heap _
    rw [e1]
    exact ⟨rfl, N0, rfl⟩
  · show SS p e below s₁ m 0 #[rv a1] [] _
    refine XS.aloadN X0.here hx rfl (hb hby d_49) rfl rfl ?_
    show SS p e below s₁ m 1 #[rv a1] [(.ref a1)] _
    refine st1 _ ?_
    show SS p e below T1 m 4 #[rv a1] [(.ref a2)] _
    refine XS.ifnonnullYes X1.here hx rfl (pc0 := 4) (pc' := 11) rfl (hb hby d_51) rfl (by decide) (by decide) ?_
    show SS p e below T1 m 11 #[rv a1] [] _
    refine XS.iconst X1.here hx rfl (hb hby d_52) ?_
    show SS p e below T1 m 12 #[rv a1] [(.int (0 : Int32))] _
    exact retN X1 hx (t := .boolean) hret (by simp) (hb hby d_53) hr
theorem pd_54 : parseMethodDescriptor "()Z" = some ⟨[], some .boolean⟩ := by decide +kernel
theorem d_55 : decode prog_29_method_3_code 0 = .ok (.aload_n 0, 1) := by decide +kernel
theorem d_56 : decode prog_29_method_3_code 1 = .ok (.getfield 15, 3) := by decide +kernel
theorem d_57 : decode prog_29_method_3_code 4 = .ok (.areturn, 1) := by decide +kernel
-- com/example/libshardmap/libshardmap/Range.getLow()Ljava/lang/Object;
def Q7_getLow (Z : State) (a1 : Addr) (a2 : Addr) (h0 : Heap) (n0 : Nat) (v : Option Value) (h : Heap) (L : List Loc) : Prop := v = some (.ref a2) ∧ Fr n0 L ∧ h = h0
set_option maxRecDepth 65536 in
set_option maxHeartbeats 40000000 in
theorem rm7_getLow (l : Launch) (Z : State) (a0 : Array Value) (hw : HW Z a0) (a1 : Addr) (a2 : Addr) (h0 : Heap) (n0 : Nat) (O0 : Old Z n0 h0) (F_0 : FA11 Z h0 a1 (.ref a2)) :
    Met l Z [] Y6 prog_29_method_3_code 1 (some (.object "java/lang/Object")) ({ frames := 0, cells := 0, slots := 0, locals := 0 } : Room) #[(.ref a1)] h0 (Q7_getLow Z a1 a2 h0 n0) := by
  have W := fun (i : Nat) {c : Jvm.Cond} (q : tables_1[i]? = some c) => hw c (List.mem_of_getElem? q)
  refine own_mk (plainFor_of_name pn_47) ?_
  intro p e s m below meth c s₁ hZ hx hby hml hown hnm hret hlk X0 e0
  have N0 := Fr.nil n0
  obtain ⟨T1, X1, e1, st1⟩ := getF X0 hx hZ hown (host := "") (Or.inl (W 28 rfl)) Via.refl e0 F_0 (g := (mkF m 1 #[rv a1] [(.ref a1)])) rfl rfl (hb hby d_56)
  refine ⟨T1, some (.ref a2), _, _, _, X1, by decide, by decide, nofun, ?_, fun fs hr => castTop (ef_12 m a1) ?_⟩
  · show Q7_getLow Z a1 a2 h0 n0 _ T1.heap _
    rw [e1]
    exact ⟨rfl, N0, rfl⟩
  · show SS p e below s₁ m 0 #[rv a1] [] _
    refine XS.aloadN X0.here hx rfl (hb hby d_55) rfl rfl ?_
    show SS p e below s₁ m 1 #[rv a1] [(.ref a1)] _
    refine st1 _ ?_
    show SS p e below T1 m 4 #[rv a1] [(.ref a2)] _
    exact retOut X1 hx hret rfl (Or.inr (Or.inr (Or.inr (Or.inr ⟨rfl, rfl, rfl⟩)))) (hb hby d_57) hr
theorem pd_58 : parseMethodDescriptor "()Ljava/lang/Object;" = some ⟨[], some (.object "java/lang/Object")⟩ := by decide +kernel
theorem d_59 : decode jdk_33_method_27_code 0 = .ok (.aload_n 0, 1) := by decide +kernel
theorem d_60 : decode jdk_33_method_27_code 1 = .ok (.getfield 205, 3) := by decide +kernel
theorem d_61 : decode jdk_33_method_27_code 4 = .ok (.ireturn, 1) := by decide +kernel
-- java/lang/Integer.intValue()I
def Q8_intValue (Z : State) (a1 : Addr) (p2 : Int32) (h0 : Heap) (n0 : Nat) (v : Option Value) (h : Heap) (L : List Loc) : Prop := v = some (.int p2) ∧ Fr n0 L ∧ h = h0
set_option maxRecDepth 65536 in
set_option maxHeartbeats 40000000 in
theorem rm8_intValue (l : Launch) (Z : State) (a0 : Array Value) (hw : HW Z a0) (a1 : Addr) (p2 : Int32) (h0 : Heap) (n0 : Nat) (O0 : Old Z n0 h0) (F_0 : FA10 Z h0 a1 (.int p2)) :
    Met l Z [] Y7 jdk_33_method_27_code 1 (some .int) ({ frames := 0, cells := 0, slots := 0, locals := 0 } : Room) #[(.ref a1)] h0 (Q8_intValue Z a1 p2 h0 n0) := by
  have W := fun (i : Nat) {c : Jvm.Cond} (q : tables_1[i]? = some c) => hw c (List.mem_of_getElem? q)
  refine own_mk (plainFor_of_name pn_20) ?_
  intro p e s m below meth c s₁ hZ hx hby hml hown hnm hret hlk X0 e0
  have N0 := Fr.nil n0
  obtain ⟨T1, X1, e1, st1⟩ := getF X0 hx hZ hown (host := "") (Or.inl (W 50 rfl)) Via.refl e0 F_0 (g := (mkF m 1 #[rv a1] [(.ref a1)])) rfl rfl (hb hby d_60)
  refine ⟨T1, some (.int p2), _, _, _, X1, by decide, by decide, nofun, ?_, fun fs hr => castTop (ef_12 m a1) ?_⟩
  · show Q8_intValue Z a1 p2 h0 n0 _ T1.heap _
    rw [e1]
    exact ⟨rfl, N0, rfl⟩
  · show SS p e below s₁ m 0 #[rv a1] [] _
    refine XS.aloadN X0.here hx rfl (hb hby d_59) rfl rfl ?_
    show SS p e below s₁ m 1 #[rv a1] [(.ref a1)] _
    refine st1 _ ?_
    show SS p e below T1 m 4 #[rv a1] [(.int p2)] _
    exact retI X1 hx hret (hb hby d_61) hr
theorem pd_62 : parseMethodDescriptor "()I" = some ⟨[], some .int⟩ := by decide +kernel
theorem d_63 : decode prog_29_method_4_code 0 = .ok (.aload_n 0, 1) := by decide +kernel
theorem d_64 : decode prog_29_method_4_code 1 = .ok (.getfield 22, 3) := by decide +kernel
theorem d_65 : decode prog_29_method_4_code 4 = .ok (.ifnonnull 20, 3) := by decide +kernel
theorem d_66 : decode prog_29_method_4_code 24 = .ok (.aload_n 0, 1) := by decide +kernel
theorem d_67 : decode prog_29_method_4_code 25 = .ok (.getfield 22, 3) := by decide +kernel
theorem d_68 : decode prog_29_method_4_code 28 = .ok (.areturn, 1) := by decide +kernel
-- com/example/libshardmap/libshardmap/Range.getHigh()Ljava/lang/Object;
def Q9_getHigh (Z : State) (a1 : Addr) (a2 : Addr) (h0 : Heap) (n0 : Nat) (v : Option Value) (h : Heap) (L : List Loc) : Prop := v = some (.ref a2) ∧ Fr n0 L ∧ h = h0
set_option maxRecDepth 65536 in
set_option maxHeartbeats 40000000 in
theorem rm9_getHigh (l : Launch) (Z : State) (a0 : Array Value) (hw : HW Z a0) (a1 : Addr) (a2 : Addr) (h0 : Heap) (n0 : Nat) (O0 : Old Z n0 h0) (F_0 : FA12 Z h0 a1 (.ref a2)) :
    Met l Z [] Y8 prog_29_method_4_code 1 (some (.object "java/lang/Object")) ({ frames := 0, cells := 0, slots := 0, locals := 0 } : Room) #[(.ref a1)] h0 (Q9_getHigh Z a1 a2 h0 n0) := by
  have W := fun (i : Nat) {c : Jvm.Cond} (q : tables_1[i]? = some c) => hw c (List.mem_of_getElem? q)
  refine own_mk (plainFor_of_name pn_47) ?_
  intro p e s m below meth c s₁ hZ hx hby hml hown hnm hret hlk X0 e0
  have N0 := Fr.nil n0
  obtain ⟨T1, X1, e1, st1⟩ := getF X0 hx hZ hown (host := "") (Or.inl (W 31 rfl)) Via.refl e0 F_0 (g := (mkF m 1 #[rv a1] [(.ref a1)])) rfl rfl (hb hby d_64)
  obtain ⟨T2, X2, e2, st2⟩ := getF X1 hx hZ hown (host := "") (Or.inl (W 31 rfl)) Via.refl e1 F_0 (g := (mkF m 25 #[rv a1] [(.ref a1)])) rfl rfl (hb hby d_67)
  refine ⟨T2, some (.ref a2), _, _, _, X2, by decide, by decide, nofun, ?_, fun fs hr => castTop (ef_12 m a1) ?_⟩
  · show Q9_getHigh Z a1 a2 h0 n0 _ T2.heap _
    rw [e2]
    exact ⟨rfl, N0, rfl⟩
  · show SS p e below s₁ m 0 #[rv a1] [] _
    refine XS.aloadN X0.here hx rfl (hb hby d_63) rfl rfl ?_
    show SS p e below s₁ m 1 #[rv a1] [(.ref a1)] _
    refine st1 _ ?_
    show SS p e below T1 m 4 #[rv a1] [(.ref a2)] _
    refine XS.ifnonnullYes X1.here hx rfl (pc0 := 4) (pc' := 24) rfl (hb hby d_65) rfl (by decide) (by decide) ?_
    show SS p e below T1 m 24 #[rv a1] [] _
    refine XS.aloadN X1.here hx rfl (hb hby d_66) rfl rfl ?_
    show SS p e below T1 m 25 #[rv a1] [(.ref a1)] _
    refine st2 _ ?_
    show SS p e below T2 m 28 #[rv a1] [(.ref a2)] _
    exact retOut X2 hx hret rfl (Or.inr (Or.inr (Or.inr (Or.inr ⟨rfl, rfl, rfl⟩)))) (hb hby d_68) hr
theorem ef_69 (m : MethodId) (p1 : Int32) (p2 : Int32) (p3 : Int32) : entryFrame m #[(.int p1), (.int p2), (.int p3)] maxLocals = mkF m 0 #[iv p1, iv p2, iv p3, .unset, .unset, .unset] [] := by first | (simp [entryFrame, mkF, argsToLocals, Value.category]; done) | rfl
theorem pn_70 : plainName "com/example/libshardmap/libshardmap/RangeIsOpenAtTopPinLaw" = true := by first | (simp [plainName, overriddenIn]; done) | decide +kernel
set_option maxRecDepth 65536 in
set_option maxHeartbeats 40000000 in
theorem rm0_LL0 (l : Launch) (Z : State) (a0 : Array Value) (hw : HW Z a0) (ws : List Jvm.Cond) (p1 : Int32) (p2 : Int32) (p3 : Int32) (o_cache : Addr) (h0 : Heap) (n0 : Nat) (O0 : Old Z n0 h0) (S_c_high : SA16 Z Z.heap (.int (127 : Int32))) (S_o_cache : SA17 Z Z.heap (.ref o_cache)) (E_o_cache : EA15 Z Z.heap o_cache) (h1xa : p1 < (-128 : Int32)) (h1xb : p2 < (-128 : Int32)) (hf : (p3 &&& (1 : Int32)) = (0 : Int32)) :
    MetW l Z ws x code maxLocals ret room_1 #[(.int p1), (.int p2), (.int p3)] h0 (fun v _ L => Q0 n0 v L) := by
  have W := fun (i : Nat) {c : Jvm.Cond} (q : tables_1[i]? = some c) => hw c (List.mem_of_getElem? q)
  refine own_mkW (plainFor_of_name pn_70) ?_
  intro p e s m below meth c s₁ hZ hx hby hml hown hnm hret hlk X0 e0
  have N0 := Fr.nil n0
  obtain ⟨_, T1, L1, X1, hQ1, st1⟩ := own_cs X0 hx hZ hown hml (W 0 rfl) (W 1 rfl) (W 2 rfl) (W 3 rfl) (rm3_valueOf l Z a0 hw p1 h0 n0 O0 (h1xa)) e0 (hb hby at_1) 0 #[iv p1, iv p2, iv p3, .unset, .unset, .unset] [(.int p1)] [] pd_24 (by decide) rfl rfl rfl (Nat.le_of_eq rfl)
  obtain ⟨b1_b1, rfl, N1q, K1, gb1_0, F1_0, F1_1⟩ := hQ1
  have N2 := Fr.app N0 N1q
  have O3 := O0.keep K1 all0
  have K4 : Keep h0 T1.heap [] := Keep.trans (Keep.refl h0 []) K1 all0
  obtain ⟨_, T5, L5, X5, hQ5, st5⟩ := own_cs X1 hx hZ hown hml (W 0 rfl) (W 1 rfl) (W 2 rfl) (W 3 rfl) (rm3_valueOf l Z a0 hw p2 T1.heap n0 O3 (h1xb)) rfl (hb hby at_6) 0 #[iv p1, iv p2, iv p3, rv b1_b1, .unset, .unset] [(.int p2)] [] pd_24 (by decide) rfl rfl rfl (Nat.le_of_eq rfl)
  obtain ⟨b5_b1, rfl, N5q, K5, gb5_0, F5_0, F5_1⟩ := hQ5
  have N6 := Fr.app N2 N5q
  have O7 := O3.keep K5 all0
  have K8 : Keep h0 T5.heap [] := Keep.trans K4 K5 all0
  obtain ⟨T9, h9, X9, e9, E9, A9, D9, -, st9⟩ := newO X5 hx hZ hown (W 7 rfl) (W 8 rfl) (W 9 rfl) rfl (g := (mkF m 56 #[iv p1, iv p2, iv p3, rv b1_b1, rv b5_b1, .unset] [])) rfl (hb hby at_56) (by decide) (by decide)
  obtain ⟨b9, g9⟩ : ∃ z, z = T5.heap.size := ⟨_, rfl⟩
  rw [← g9] at A9 D9 st9
  have O10 := O7.ext E9
  have K11 : Keep h0 h9 [] := Keep.ext K8 E9
  have z13 : h0.size ≤ T1.heap.size := K1.1
  have z14 : h0.size ≤ T5.heap.size := (Nat.le_trans z13 K5.1)
  have g15 : n0 ≤ b9 := Nat.le_trans (Nat.le_trans (Nat.le_trans (Nat.le_of_eq O0.1.symm) O0.2.1) z14) (Nat.le_of_eq g9.symm)
  have X16 := (show Stand p l e _ (s.setVm s.vm) m _ below meth c _ _ _ _ from X9)
  obtain ⟨_, _, ⟨T12, L12, k12, n12⟩, -, Y12, hs12, hg12, ⟨Lc12, hQ12, l12, y12, z12⟩, st12⟩ := X16.specialBackS hx (y := Y4) rfl hown (mvT hZ (W 10 rfl)) (mvT hZ (W 11 rfl)) (mvT hZ (W 12 rfl)) (by decide) (backOfS (W := 1) (rm5_init l Z a0 hw b9 b1_b1 b5_b1 h9 n0 O10 (A9) ((D9 (Or.inr (W 29 rfl)) (ty := (.object "java/lang/Object")) (by decide) : FA11 Z h9 b9 .null)) (g15) ((D9 (Or.inr (W 32 rfl)) (ty := (.object "java/lang/Object")) (by decide) : FA12 Z h9 b9 .null))) hZ (W 12 rfl) (W 9 rfl) (by decide) (by decide)) (g := (mkF m 63 #[iv p1, iv p2, iv p3, rv b1_b1, rv b5_b1, .unset] [(.ref b5_b1), (.ref b1_b1), (.ref b9), (.ref b9)])) rfl (by rw [hml]; rfl) (Steps.refl _) (a := b9) (argsL := [(.ref b1_b1), (.ref b5_b1)]) (rest := [(.ref b9)]) (lenOf pd_48 rfl) rfl (by show 2 * 0 + _ ≤ _; exact Nat.le_of_eq rfl) (hb hby at_63) (fun _ _ => ⟨rfl, e9, (by decide : 3 + 4 ≤ _), (by decide : 4 + 36 ≤ _)⟩)
  dsimp only [Pt.U, Pt.locs, Pt.cells, Pt.slots] at Y12 l12 y12 z12 st12 hQ12 hs12 hg12
  subst l12 y12 z12
  obtain ⟨X12, hS12, hZ12, hown12⟩ := rebS (s := s) (vm0 := s.vm) ((State.WarmedH.refl s).since 0) (Nat.zero_le _) Y12 hs12 hg12 hZ hown
  obtain ⟨rfl, N12q, K12, F12_0, F12_1⟩ := hQ12
  have N17 := Fr.app N6 N12q
  have O18 := O10.keep K12 (allS g15 all0)
  have K19 : Keep h0 T12.heap [] := Keep.trans K11 K12 (allS (Or.inr (Nat.le_trans z14 (Nat.le_of_eq g9.symm))) all0)
  have f21 := (A9.keep K12)
  obtain ⟨_, T20, L20, X20, hQ20, st20⟩ := own_cv X12 hx hZ12 hown12 hml (W 33 rfl) (W 34 rfl) (notFace_of_selects (W 36 rfl)) (W 36 rfl) (W 35 rfl) (W 9 rfl) (W 37 rfl) (rm6_isOpenAtTop l Z a0 hw b9 b5_b1 T12.heap n0 O18 (F12_1)) rfl f21 (hb hby at_70) 0 #[iv p1, iv p2, iv p3, rv b1_b1, rv b5_b1, rv b9] [] [] pd_54 (by decide) rfl rfl rfl (Nat.le_of_eq rfl)
  obtain ⟨rfl, N20q, K20⟩ := hQ20
  have N22 := Fr.app N17 N20q
  obtain ⟨_, T23, L23, X23, hQ23, st23⟩ := own_cv X20 hx hZ12 hown12 hml (W 38 rfl) (W 39 rfl) (notFace_of_selects (W 41 rfl)) (W 41 rfl) (W 40 rfl) (W 9 rfl) (W 42 rfl) (rm7_getLow l Z a0 hw b9 b1_b1 T12.heap n0 O18 (F12_0)) K20 f21 (hb hby at_78) 0 #[iv p1, iv p2, iv p3, rv b1_b1, rv b5_b1, rv b9] [] [] pd_58 (by decide) rfl rfl rfl (Nat.le_of_eq rfl)
  obtain ⟨rfl, N23q, K23⟩ := hQ23
  have N24 := Fr.app N22 N23q
  have f26 := (((F1_0.keep K5).ext E9).keep K12)
  obtain ⟨T25, X25, e25, st25⟩ := castY X23 hx hZ12 hown12 (W 43 rfl) K23 (Ins.self f26) (g := (mkF m 81 #[iv p1, iv p2, iv p3, rv b1_b1, rv b5_b1, rv b9] [(.ref b1_b1)])) rfl rfl (hb hby at_81)
  have z28 : T1.heap.size ≤ T5.heap.size := K5.1
  have f29 := (((F1_1.keep K5 nin0).ext E9).keep K12 (ninS (Nat.ne_of_lt (Nat.lt_of_lt_of_le (Nat.lt_of_lt_of_le F1_0.lt z28) (Nat.le_of_eq g9.symm))) nin0))
  obtain ⟨_, T27, L27, X27, hQ27, st27⟩ := own_cv X25 hx hZ12 hown12 hml (W 45 rfl) (W 46 rfl) (notFace_of_selects (W 48 rfl)) (W 48 rfl) (W 47 rfl) (W 2 rfl) (W 49 rfl) (rm8_intValue l Z a0 hw b1_b1 p1 T12.heap n0 O18 (f29)) e25 f26 (hb hby at_84) 0 #[iv p1, iv p2, iv p3, rv b1_b1, rv b5_b1, rv b9] [] [] pd_62 (by decide) rfl rfl rfl (Nat.le_of_eq rfl)
  obtain ⟨rfl, N27q, K27⟩ := hQ27
  have N30 := Fr.app N24 N27q
  obtain ⟨_, T31, L31, X31, hQ31, st31⟩ := own_cv X27 hx hZ12 hown12 hml (W 52 rfl) (W 53 rfl) (notFace_of_selects (W 55 rfl)) (W 55 rfl) (W 54 rfl) (W 9 rfl) (W 56 rfl) (rm9_getHigh l Z a0 hw b9 b5_b1 T12.heap n0 O18 (F12_1)) K27 f21 (hb hby at_93) 0 #[iv p1, iv p2, iv p3, rv b1_b1, rv b5_b1, rv b9] [] [] pd_58 (by decide) rfl rfl rfl (Nat.le_of_eq rfl)
  obtain ⟨rfl, N31q, K31⟩ := hQ31
  have N32 := Fr.app N30 N31q
  have f34 := ((F5_0.ext E9).keep K12)
  obtain ⟨T33, X33, e33, st33⟩ := castY X31 hx hZ12 hown12 (W 43 rfl) K31 (Ins.self f34) (g := (mkF m 96 #[iv p1, iv p2, iv p3, rv b1_b1, rv b5_b1, rv b9] [(.ref b5_b1)])) rfl rfl (hb hby at_96)
  have f36 := ((F5_1.ext E9).keep K12 (ninS (Nat.ne_of_lt (Nat.lt_of_lt_of_le F5_0.lt (Nat.le_of_eq g9.symm))) nin0))
  obtain ⟨_, T35, L35, X35, hQ35, st35⟩ := own_cv X33 hx hZ12 hown12 hml (W 45 rfl) (W 46 rfl) (notFace_of_selects (W 48 rfl)) (W 48 rfl) (W 47 rfl) (W 2 rfl) (W 49 rfl) (rm8_intValue l Z a0 hw b5_b1 p2 T12.heap n0 O18 (f36)) e33 f34 (hb hby at_99) 0 #[iv p1, iv p2, iv p3, rv b1_b1, rv b5_b1, rv b9] [] [] pd_62 (by decide) rfl rfl rfl (Nat.le_of_eq rfl)
  obtain ⟨rfl, N35q, K35⟩ := hQ35
  have N37 := Fr.app N32 N35q
  refine ⟨T35, some (.int (1 : Int32)), _, _, _, T12.vm, _, X35, hS12, (by rw [K35]; exact (Nat.le_refl _)), by decide, by decide, nofun, ?_, fun fs hr => castTop (ef_69 m p1 p2 p3) ?_⟩
  · exact ⟨rfl, N37⟩
  · show SS p e below s₁ m 0 #[iv p1, iv p2, iv p3, .unset, .unset, .unset] [] _
    refine XS.iloadN X0.here hx rfl (hb hby at_0) rfl ?_
    show SS p e below s₁ m 1 #[iv p1, iv p2, iv p3, .unset, .unset, .unset] [(.int p1)] _
    refine st1 _ ?_
    show SS p e below T1 m 4 #[iv p1, iv p2, iv p3, .unset, .unset, .unset] [(.ref b1_b1)] _
    refine XS.astoreN X1.here hx rfl (hb hby at_4) rfl rfl (l' := #[iv p1, iv p2, iv p3, rv b1_b1, .unset, .unset]) rfl ?_
    show SS p e below T1 m 5 #[iv p1, iv p2, iv p3, rv b1_b1, .unset, .unset] [] _
    refine XS.iloadN X1.here hx rfl (hb hby at_5) rfl ?_
    show SS p e below T1 m 6 #[iv p1, iv p2, iv p3, rv b1_b1, .unset, .unset] [(.int p2)] _
    refine st5 _ ?_
    show SS p e below T5 m 9 #[iv p1, iv p2, iv p3, rv b1_b1, .unset, .unset] [(.ref b5_b1)] _
    refine XS.astore X5.here hx rfl (hb hby at_9) rfl rfl (l' := #[iv p1, iv p2, iv p3, rv b1_b1, rv b5_b1, .unset]) rfl ?_
    show SS p e below T5 m 11 #[iv p1, iv p2, iv p3, rv b1_b1, rv b5_b1, .unset] [] _
    refine XS.iloadN X5.here hx rfl (hb hby at_11) rfl ?_
    refine XS.iconst X5.here hx rfl (hb hby at_12) ?_
    show SS p e below T5 m 13 #[iv p1, iv p2, iv p3, rv b1_b1, rv b5_b1, .unset] [(.int (1 : Int32)), (.int p3)] _
    refine XS.iand X5.here hx rfl (hb hby at_13) rfl ?_
    rw [hf]
    show SS p e below T5 m 14 #[iv p1, iv p2, iv p3, rv b1_b1, rv b5_b1, .unset] [(.int (0 : Int32))] _
    refine XS.ifYes X5.here hx rfl (pc0 := 14) (pc' := 56) rfl (hb hby at_14) rfl ((if0 _ _).trans (teq (by decide : (0 : Int32) = (0 : Int32))).1) (by decide) (by decide) ?_
    show SS p e below T5 m 56 #[iv p1, iv p2, iv p3, rv b1_b1, rv b5_b1, .unset] [] _
    refine st9 _ ?_
    show SS p e below T9 m 59 #[iv p1, iv p2, iv p3, rv b1_b1, rv b5_b1, .unset] [(.ref b9)] _
    refine XS.dup X9.here hx rfl (hb hby at_59) rfl rfl ?_
    refine XS.aloadN X9.here hx rfl (hb hby at_60) rfl rfl ?_
    refine XS.aload X9.here hx rfl (hb hby at_61) rfl rfl ?_
    show SS p e below T9 m 63 #[iv p1, iv p2, iv p3, rv b1_b1, rv b5_b1, .unset] [(.ref b5_b1), (.ref b1_b1), (.ref b9), (.ref b9)] _
    refine st12.trans ?_
    show SS p e below T12 m 66 #[iv p1, iv p2, iv p3, rv b1_b1, rv b5_b1, .unset] [(.ref b9)] _
    refine XS.astore X12.here hx rfl (hb hby at_66) rfl rfl (l' := #[iv p1, iv p2, iv p3, rv b1_b1, rv b5_b1, rv b9]) rfl ?_
    show SS p e below T12 m 68 #[iv p1, iv p2, iv p3, rv b1_b1, rv b5_b1, rv b9] [] _
    refine XS.aload X12.here hx rfl (hb hby at_68) rfl rfl ?_
    show SS p e below T12 m 70 #[iv p1, iv p2, iv p3, rv b1_b1, rv b5_b1, rv b9] [(.ref b9)] _
    refine st20 _ ?_
    show SS p e below T20 m 73 #[iv p1, iv p2, iv p3, rv b1_b1, rv b5_b1, rv b9] [(.int (0 : Int32))] _
    refine XS.ifNo X20.here hx rfl (hb hby at_73) rfl ((if0 _ _).trans (teq (by decide : (0 : Int32) = (0 : Int32))).2) ?_
    show SS p e below T20 m 76 #[iv p1, iv p2, iv p3, rv b1_b1, rv b5_b1, rv b9] [] _
    refine XS.aload X20.here hx rfl (hb hby at_76) rfl rfl ?_
    show SS p e below T20 m 78 #[iv p1, iv p2, iv p3, rv b1_b1, rv b5_b1, rv b9] [(.ref b9)] _
    refine st23 _ ?_
    show SS p e below T23 m 81 #[iv p1, iv p2, iv p3, rv b1_b1, rv b5_b1, rv b9] [(.ref b1_b1)] _
    refine st25 _ ?_
    show SS p e below T25 m 84 #[iv p1, iv p2, iv p3, rv b1_b1, rv b5_b1, rv b9] [(.ref b1_b1)] _
    refine st27 _ ?_
    show SS p e below T27 m 87 #[iv p1, iv p2, iv p3, rv b1_b1, rv b5_b1, rv b9] [(.int p1)] _
    refine XS.iloadN X27.here hx rfl (hb hby at_87) rfl ?_
    show SS p e below T27 m 88 #[iv p1, iv p2, iv p3, rv b1_b1, rv b5_b1, rv b9] [(.int p1), (.int p1)] _
    refine XS.icmpNo X27.here hx rfl (hb hby at_88) rfl (teq (rfl : p1 = p1)).2 ?_
    show SS p e below T27 m 91 #[iv p1, iv p2, iv p3, rv b1_b1, rv b5_b1, rv b9] [] _
    refine XS.aload X27.here hx rfl (hb hby at_91) rfl rfl ?_
    show SS p e below T27 m 93 #[iv p1, iv p2, iv p3, rv b1_b1, rv b5_b1, rv b9] [(.ref b9)] _
    refine st31 _ ?_
    show SS p e below T31 m 96 #[iv p1, iv p2, iv p3, rv b1_b1, rv b5_b1, rv b9] [(.ref b5_b1)] _
    refine st33 _ ?_
    show SS p e below T33 m 99 #[iv p1, iv p2, iv p3, rv b1_b1, rv b5_b1, rv b9] [(.ref b5_b1)] _
    refine st35 _ ?_
    show SS p e below T35 m 102 #[iv p1, iv p2, iv p3, rv b1_b1, rv b5_b1, rv b9] [(.int p2)] _
    refine XS.iloadN X35.here hx rfl (hb hby at_102) rfl ?_
    show SS p e below T35 m 103 #[iv p1, iv p2, iv p3, rv b1_b1, rv b5_b1, rv b9] [(.int p2), (.int p2)] _
    refine XS.icmpNo X35.here hx rfl (hb hby at_103) rfl (teq (rfl : p2 = p2)).2 ?_
    show SS p e below T35 m 106 #[iv p1, iv p2, iv p3, rv b1_b1, rv b5_b1, rv b9] [] _
    refine XS.iconst X35.here hx rfl (hb hby at_106) ?_
    refine XS.goto X35.here hx rfl (pc0 := 107) (pc' := 111) rfl (hb hby at_107) (by decide) (by decide) ?_
    show SS p e below T35 m 111 #[iv p1, iv p2, iv p3, rv b1_b1, rv b5_b1, rv b9] [(.int (1 : Int32))] _
    exact retN X35 hx (t := .boolean) hret (by simp) (hb hby at_111) hr
theorem d_71 : decode prog_29_method_2_code 0 = .ok (.aload_n 0, 1) := by decide +kernel
theorem d_72 : decode prog_29_method_2_code 1 = .ok (.invokespecial 1, 3) := by decide +kernel
theorem d_73 : decode prog_29_method_2_code 4 = .ok (.aload_n 0, 1) := by decide +kernel
theorem d_74 : decode prog_29_method_2_code 5 = .ok (.aload_n 1, 1) := by decide +kernel
theorem d_75 : decode prog_29_method_2_code 6 = .ok (.ldc 7, 2) := by decide +kernel
theorem d_76 : decode prog_29_method_2_code 8 = .ok (.invokestatic 9, 3) := by decide +kernel
theorem d_77 : decode prog_29_method_2_code 11 = .ok (.putfield 15, 3) := by decide +kernel
theorem d_78 : decode prog_29_method_2_code 14 = .ok (.aload_n 0, 1) := by decide +kernel
theorem d_79 : decode prog_29_method_2_code 15 = .ok (.aconst_null, 1) := by decide +kernel
theorem d_80 : decode prog_29_method_2_code 16 = .ok (.putfield 22, 3) := by decide +kernel
theorem d_81 : decode prog_29_method_2_code 19 = .ok (.return_, 1) := by decide +kernel
-- com/example/libshardmap/libshardmap/Range.<init>(Ljava/lang/Object;)V
def Q10_init (Z : State) (a1 : Addr) (a2 : Addr) (h0 : Heap) (n0 : Nat) (v : Option Value) (h : Heap) (L : List Loc) : Prop := v = none ∧ Fr n0 L ∧ Keep h0 h [a1] ∧ FA11 Z h a1 (.ref a2) ∧ FA12 Z h a1 .null
set_option maxRecDepth 65536 in
set_option maxHeartbeats 40000000 in
theorem rm10_init (l : Launch) (Z : State) (a0 : Array Value) (hw : HW Z a0) (a1 : Addr) (a2 : Addr) (h0 : Heap) (n0 : Nat) (O0 : Old Z n0 h0) (F_0 : EA14 Z h0 a1) (F_1 : FA11 Z h0 a1 .null) (g_2 : n0 ≤ a1) (F_3 : FA12 Z h0 a1 .null) :
    MetW l Z [] Y9 prog_29_method_2_code 2 none ({ frames := 1, cells := 2, slots := 16, locals := 14 } : Room) #[(.ref a1), (.ref a2)] h0 (Q10_init Z a1 a2 h0 n0) := by
  have W := fun (i : Nat) {c : Jvm.Cond} (q : tables_1[i]? = some c) => hw c (List.mem_of_getElem? q)
  refine own_mkW (plainFor_of_name pn_47) ?_
  intro p e s m below meth c s₁ hZ hx hby hml hown hnm hret hlk X0 e0
  have N0 := Fr.nil n0
  obtain ⟨T1, X1, e1, st1⟩ := initO X0 hx hZ hown (W 13 rfl) (W 14 rfl) (W 15 rfl) e0 (g := (mkF m 1 #[rv a1, rv a2] [(.ref a1)])) rfl (by rw [hml]; rfl) rfl (hb hby d_72) (by decide) (W := 0) (by show 2 * 0 + _ ≤ _; exact Nat.le_of_eq rfl) (by decide)
  have X2 := (show Stand p l e _ (s.setVm s.vm) m _ below meth c _ _ _ _ from X1)
  obtain ⟨b3, T3, h3, k3, X3, e3, E3, hS3, hk3, hZ3, hown3, st3⟩ := ldcS (s := s) (vm0 := s.vm) X2 hx hZ hown (W 16 rfl) (own_str_30 hw) e1 ((State.WarmedH.refl s).since 0) (Nat.zero_le _) (g := (mkF m 6 #[rv a1, rv a2] [(.ref a2), (.ref a1)])) rfl (hb hby d_75) (n := 12) (by decide) (by decide) (by decide) (by decide)
  have O4 := O0.ext E3
  have K5 : Keep h0 h3 [a1] := Keep.ext (Keep.refl h0 [a1]) E3
  obtain ⟨_, T6, L6, X6, hQ6, st6⟩ := own_cs X3 hx hZ3 hown3 hml (W 24 rfl) (W 25 rfl) (W 26 rfl) (W 27 rfl) (rm4_requireNonNull l Z a0 hw a2 b3 h3 n0 O4 ) e3 (hb hby d_76) 1 #[rv a1, rv a2] [(.ref a2), (.ref b3)] [(.ref a1)] pd_38 (by decide) rfl rfl rfl (Nat.le_of_eq rfl)
  obtain ⟨rfl, N6q, K6⟩ := hQ6
  have N7 := Fr.app N0 N6q
  have f9 := (F_1.ext E3)
  have f10 := (F_0.ext E3)
  obtain ⟨T8, h8, X8, e8, W8, st8⟩ := putF X6 hx hZ3 hown3 (host := "") (Or.inl (W 28 rfl)) Via.refl K6 f9 f10 (Or.inr ⟨(W 29 rfl), rfl, hnm⟩) (W 8 rfl) (ty := (.object "java/lang/Object")) (by decide) rfl rfl (g := (mkF m 11 #[rv a1, rv a2] [(.ref a2), (.ref a1)])) rfl rfl (hb hby d_77)
  have O11 := O4.wr W8 g_2
  have K12 : Keep h0 h8 [a1] := Keep.wr K5 W8 (Or.inl (List.mem_of_getElem? (i := 0) rfl))
  have f13 : FA11 Z h8 a1 (.ref a2) := (f9.same W8)
  have N14 := Fr.snoc X8 N7 g_2
  have f16 := ((F_3.ext E3).other W8 (Or.inr (slot_ne (Or.inr (W 32 rfl)) (Or.inr (W 29 rfl)) (by decide) (t := (.object "java/lang/Object")) (t' := (.object "java/lang/Object")) (by decide) (by decide))))
  have f17 := (f10.wr W8)
  obtain ⟨T15, h15, X15, e15, W15, st15⟩ := putF X8 hx hZ3 hown3 (host := "") (Or.inl (W 31 rfl)) Via.refl e8 f16 f17 (Or.inr ⟨(W 32 rfl), rfl, hnm⟩) (W 8 rfl) (ty := (.object "java/lang/Object")) (by decide) rfl rfl (g := (mkF m 16 #[rv a1, rv a2] [.null, (.ref a1)])) rfl rfl (hb hby d_80)
  have O18 := O11.wr W15 g_2
  have K19 : Keep h0 h15 [a1] := Keep.wr K12 W15 (Or.inl (List.mem_of_getElem? (i := 0) rfl))
  have f20 : FA12 Z h15 a1 .null := (f16.same W15)
  have N21 := Fr.snoc X15 N14 g_2
  have z22 : h3.size ≤ h8.size := (Nat.le_of_eq W8.size.symm)
  have z23 : h3.size ≤ h15.size := (Nat.le_trans z22 (Nat.le_of_eq W15.size.symm))
  have f24 := (f13.other W15 (Or.inr (slot_ne (Or.inr (W 29 rfl)) (Or.inr (W 32 rfl)) (by decide) (t := (.object "java/lang/Object")) (t' := (.object "java/lang/Object")) (by decide) (by decide))))
  refine ⟨T15, none, _, _, _, T3.vm, _, X15, hS3, (by rw [e15]; exact (Nat.le_trans hk3 z23)), by decide, by decide, (fun _ => rfl), ?_, fun fs hr => castTop (ef_36 m a1 a2) ?_⟩
  · show Q10_init Z a1 a2 h0 n0 _ T15.heap _
    rw [e15]
    exact ⟨rfl, N21, K19, f24, f20⟩
  · show SS p e below s₁ m 0 #[rv a1, rv a2] [] _
    refine XS.aloadN X0.here hx rfl (hb hby d_71) rfl rfl ?_
    show SS p e below s₁ m 1 #[rv a1, rv a2] [(.ref a1)] _
    refine st1 _ ?_
    show SS p e below T1 m 4 #[rv a1, rv a2] [] _
    refine XS.aloadN X1.here hx rfl (hb hby d_73) rfl rfl ?_
    refine XS.aloadN X1.here hx rfl (hb hby d_74) rfl rfl ?_
    show SS p e below T1 m 6 #[rv a1, rv a2] [(.ref a2), (.ref a1)] _
    refine st3 _ ?_
    show SS p e below T3 m 8 #[rv a1, rv a2] [(.ref b3), (.ref a2), (.ref a1)] _
    refine st6 _ ?_
    show SS p e below T6 m 11 #[rv a1, rv a2] [(.ref a2), (.ref a1)] _
    refine st8 _ ?_
    show SS p e below T8 m 14 #[rv a1, rv a2] [] _
    refine XS.aloadN X8.here hx rfl (hb hby d_78) rfl rfl ?_
    refine XS.aconstNull X8.here hx rfl (hb hby d_79) ?_
    show SS p e below T8 m 16 #[rv a1, rv a2] [.null, (.ref a1)] _
    refine st15 _ ?_
    show SS p e below T15 m 19 #[rv a1, rv a2] [] _
    exact X15.returnOut hx hret (hb hby d_81) hr
theorem pd_82 : parseMethodDescriptor "(Ljava/lang/Object;)V" = some ⟨[(.object "java/lang/Object")], none⟩ := by decide +kernel
theorem d_83 : decode prog_29_method_5_code 7 = .ok (.iconst 1, 1) := by decide +kernel
theorem d_84 : decode prog_29_method_5_code 8 = .ok (.goto 4, 3) := by decide +kernel
-- com/example/libshardmap/libshardmap/Range.isOpenAtTop()Z
def Q11_isOpenAtTop (Z : State) (a1 : Addr) (h0 : Heap) (n0 : Nat) (v : Option Value) (h : Heap) (L : List Loc) : Prop := v = some (.int (1 : Int32)) ∧ Fr n0 L ∧ h = h0
set_option maxRecDepth 65536 in
set_option maxHeartbeats 40000000 in
theorem rm11_isOpenAtTop (l : Launch) (Z : State) (a0 : Array Value) (hw : HW Z a0) (a1 : Addr) (h0 : Heap) (n0 : Nat) (O0 : Old Z n0 h0) (F_0 : FA12 Z h0 a1 .null) :
    Met l Z [] Y5 prog_29_method_5_code 1 (some .boolean) ({ frames := 0, cells := 0, slots := 0, locals := 0 } : Room) #[(.ref a1)] h0 (Q11_isOpenAtTop Z a1 h0 n0) := by
  have W := fun (i : Nat) {c : Jvm.Cond} (q : tables_1[i]? = some c) => hw c (List.mem_of_getElem? q)
  refine own_mk (plainFor_of_name pn_47) ?_
  intro p e s m below meth c s₁ hZ hx hby hml hown hnm hret hlk X0 e0
  have N0 := Fr.nil n0
  obtain ⟨T1, X1, e1, st1⟩ := getF X0 hx hZ hown (host := "") (Or.inl (W 31 rfl)) Via.refl e0 F_0 (g := (mkF m 1 #[rv a1] [(.ref a1)])) rfl rfl (hb hby d_50)
  refine ⟨T1, some (.int (1 : Int32)), _, _, _, X1, by decide, by decide, nofun, ?_, fun fs hr => castTop (ef_12 m a1) ?_⟩
  · show Q11_isOpenAtTop Z a1 h0 n0 _ T1.heap _
    rw [e1]
    exact ⟨rfl, N0, rfl⟩
  · show SS p e below s₁ m 0 #[rv a1] [] _
    refine XS.aloadN X0.here hx rfl (hb hby d_49) rfl rfl ?_
    show SS p e below s₁ m 1 #[rv a1] [(.ref a1)] _
    refine st1 _ ?_
    show SS p e below T1 m 4 #[rv a1] [.null] _
    refine XS.ifnonnullNo X1.here hx rfl (hb hby d_51) rfl ?_
    show SS p e below T1 m 7 #[rv a1] [] _
    refine XS.iconst X1.here hx rfl (hb hby d_83) ?_
    refine XS.goto X1.here hx rfl (pc0 := 8) (pc' := 12) rfl (hb hby d_84) (by decide) (by decide) ?_
    show SS p e below T1 m 12 #[rv a1] [(.int (1 : Int32))] _
    exact retN X1 hx (t := .boolean) hret (by simp) (hb hby d_53) hr
set_option maxRecDepth 65536 in
set_option maxHeartbeats 40000000 in
theorem rm0_LL1 (l : Launch) (Z : State) (a0 : Array Value) (hw : HW Z a0) (ws : List Jvm.Cond) (p1 : Int32) (p2 : Int32) (p3 : Int32) (o_cache : Addr) (h0 : Heap) (n0 : Nat) (O0 : Old Z n0 h0) (S_c_high : SA16 Z Z.heap (.int (127 : Int32))) (S_o_cache : SA17 Z Z.heap (.ref o_cache)) (E_o_cache : EA15 Z Z.heap o_cache) (h1xa : p1 < (-128 : Int32)) (h1xb : p2 < (-128 : Int32)) (hf : (p3 &&& (1 : Int32)) = (1 : Int32)) :
    MetW l Z ws x code maxLocals ret room_1 #[(.int p1), (.int p2), (.int p3)] h0 (fun v _ L => Q0 n0 v L) := by
  have W := fun (i : Nat) {c : Jvm.Cond} (q : tables_1[i]? = some c) => hw c (List.mem_of_getElem? q)
  refine own_mkW (plainFor_of_name pn_70) ?_
  intro p e s m below meth c s₁ hZ hx hby hml hown hnm hret hlk X0 e0
  have N0 := Fr.nil n0
  obtain ⟨_, T1, L1, X1, hQ1, st1⟩ := own_cs X0 hx hZ hown hml (W 0 rfl) (W 1 rfl) (W 2 rfl) (W 3 rfl) (rm3_valueOf l Z a0 hw p1 h0 n0 O0 (h1xa)) e0 (hb hby at_1) 0 #[iv p1, iv p2, iv p3, .unset, .unset, .unset] [(.int p1)] [] pd_24 (by decide) rfl rfl rfl (Nat.le_of_eq rfl)
  obtain ⟨b1_b1, rfl, N1q, K1, gb1_0, F1_0, F1_1⟩ := hQ1
  have N2 := Fr.app N0 N1q
  have O3 := O0.keep K1 all0
  have K4 : Keep h0 T1.heap [] := Keep.trans (Keep.refl h0 []) K1 all0
  obtain ⟨_, T5, L5, X5, hQ5, st5⟩ := own_cs X1 hx hZ hown hml (W 0 rfl) (W 1 rfl) (W 2 rfl) (W 3 rfl) (rm3_valueOf l Z a0 hw p2 T1.heap n0 O3 (h1xb)) rfl (hb hby at_6) 0 #[iv p1, iv p2, iv p3, rv b1_b1, .unset, .unset] [(.int p2)] [] pd_24 (by decide) rfl rfl rfl (Nat.le_of_eq rfl)
  obtain ⟨b5_b1, rfl, N5q, K5, gb5_0, F5_0, F5_1⟩ := hQ5
  have N6 := Fr.app N2 N5q
  have O7 := O3.keep K5 all0
  have K8 : Keep h0 T5.heap [] := Keep.trans K4 K5 all0
  obtain ⟨T9, h9, X9, e9, E9, A9, D9, -, st9⟩ := newO X5 hx hZ hown (W 7 rfl) (W 8 rfl) (W 9 rfl) rfl (g := (mkF m 17 #[iv p1, iv p2, iv p3, rv b1_b1, rv b5_b1, .unset] [])) rfl (hb hby at_17) (by decide) (by decide)
  obtain ⟨b9, g9⟩ : ∃ z, z = T5.heap.size := ⟨_, rfl⟩
  rw [← g9] at A9 D9 st9
  have O10 := O7.ext E9
  have K11 : Keep h0 h9 [] := Keep.ext K8 E9
  have z13 : h0.size ≤ T1.heap.size := K1.1
  have z14 : h0.size ≤ T5.heap.size := (Nat.le_trans z13 K5.1)
  have g15 : n0 ≤ b9 := Nat.le_trans (Nat.le_trans (Nat.le_trans (Nat.le_of_eq O0.1.symm) O0.2.1) z14) (Nat.le_of_eq g9.symm)
  have X16 := (show Stand p l e _ (s.setVm s.vm) m _ below meth c _ _ _ _ from X9)
  obtain ⟨_, _, ⟨T12, L12, k12, n12⟩, -, Y12, hs12, hg12, ⟨Lc12, hQ12, l12, y12, z12⟩, st12⟩ := X16.specialBackS hx (y := Y9) rfl hown (mvT hZ (W 57 rfl)) (mvT hZ (W 58 rfl)) (mvT hZ (W 59 rfl)) (by decide) (backOfS (W := 1) (rm10_init l Z a0 hw b9 b1_b1 h9 n0 O10 (A9) ((D9 (Or.inr (W 29 rfl)) (ty := (.object "java/lang/Object")) (by decide) : FA11 Z h9 b9 .null)) (g15) ((D9 (Or.inr (W 32 rfl)) (ty := (.object "java/lang/Object")) (by decide) : FA12 Z h9 b9 .null))) hZ (W 59 rfl) (W 9 rfl) (by decide) (by decide)) (g := (mkF m 22 #[iv p1, iv p2, iv p3, rv b1_b1, rv b5_b1, .unset] [(.ref b1_b1), (.ref b9), (.ref b9)])) rfl (by rw [hml]; rfl) (Steps.refl _) (a := b9) (argsL := [(.ref b1_b1)]) (rest := [(.ref b9)]) (lenOf pd_82 rfl) rfl (by show 2 * 0 + _ ≤ _; exact Nat.le_of_eq rfl) (hb hby at_22) (fun _ _ => ⟨rfl, e9, (by decide : 3 + 2 ≤ _), (by decide : 4 + 16 ≤ _)⟩)
  dsimp only [Pt.U, Pt.locs, Pt.cells, Pt.slots] at Y12 l12 y12 z12 st12 hQ12 hs12 hg12
  subst l12 y12 z12
  obtain ⟨X12, hS12, hZ12, hown12⟩ := rebS (s := s) (vm0 := s.vm) ((State.WarmedH.refl s).since 0) (Nat.zero_le _) Y12 hs12 hg12 hZ hown
  obtain ⟨rfl, N12q, K12, F12_0, F12_1⟩ := hQ12
  have N17 := Fr.app N6 N12q
  have O18 := O10.keep K12 (allS g15 all0)
  have K19 : Keep h0 T12.heap [] := Keep.trans K11 K12 (allS (Or.inr (Nat.le_trans z14 (Nat.le_of_eq g9.symm))) all0)
  have f21 := (A9.keep K12)
  obtain ⟨_, T20, L20, X20, hQ20, st20⟩ := own_cv X12 hx hZ12 hown12 hml (W 33 rfl) (W 34 rfl) (notFace_of_selects (W 36 rfl)) (W 36 rfl) (W 35 rfl) (W 9 rfl) (W 37 rfl) (rm11_isOpenAtTop l Z a0 hw b9 T12.heap n0 O18 (F12_1)) rfl f21 (hb hby at_29) 0 #[iv p1, iv p2, iv p3, rv b1_b1, rv b5_b1, rv b9] [] [] pd_54 (by decide) rfl rfl rfl (Nat.le_of_eq rfl)
  obtain ⟨rfl, N20q, K20⟩ := hQ20
  have N22 := Fr.app N17 N20q
  obtain ⟨_, T23, L23, X23, hQ23, st23⟩ := own_cv X20 hx hZ12 hown12 hml (W 38 rfl) (W 39 rfl) (notFace_of_selects (W 41 rfl)) (W 41 rfl) (W 40 rfl) (W 9 rfl) (W 42 rfl) (rm7_getLow l Z a0 hw b9 b1_b1 T12.heap n0 O18 (F12_0)) K20 f21 (hb hby at_37) 0 #[iv p1, iv p2, iv p3, rv b1_b1, rv b5_b1, rv b9] [] [] pd_58 (by decide) rfl rfl rfl (Nat.le_of_eq rfl)
  obtain ⟨rfl, N23q, K23⟩ := hQ23
  have N24 := Fr.app N22 N23q
  have f26 := (((F1_0.keep K5).ext E9).keep K12)
  obtain ⟨T25, X25, e25, st25⟩ := castY X23 hx hZ12 hown12 (W 43 rfl) K23 (Ins.self f26) (g := (mkF m 40 #[iv p1, iv p2, iv p3, rv b1_b1, rv b5_b1, rv b9] [(.ref b1_b1)])) rfl rfl (hb hby at_40)
  have z28 : T1.heap.size ≤ T5.heap.size := K5.1
  have f29 := (((F1_1.keep K5 nin0).ext E9).keep K12 (ninS (Nat.ne_of_lt (Nat.lt_of_lt_of_le (Nat.lt_of_lt_of_le F1_0.lt z28) (Nat.le_of_eq g9.symm))) nin0))
  obtain ⟨_, T27, L27, X27, hQ27, st27⟩ := own_cv X25 hx hZ12 hown12 hml (W 45 rfl) (W 46 rfl) (notFace_of_selects (W 48 rfl)) (W 48 rfl) (W 47 rfl) (W 2 rfl) (W 49 rfl) (rm8_intValue l Z a0 hw b1_b1 p1 T12.heap n0 O18 (f29)) e25 f26 (hb hby at_43) 0 #[iv p1, iv p2, iv p3, rv b1_b1, rv b5_b1, rv b9] [] [] pd_62 (by decide) rfl rfl rfl (Nat.le_of_eq rfl)
  obtain ⟨rfl, N27q, K27⟩ := hQ27
  have N30 := Fr.app N24 N27q
  refine ⟨T27, some (.int (1 : Int32)), _, _, _, T12.vm, _, X27, hS12, (by rw [K27]; exact (Nat.le_refl _)), by decide, by decide, nofun, ?_, fun fs hr => castTop (ef_69 m p1 p2 p3) ?_⟩
  · exact ⟨rfl, N30⟩
  · show SS p e below s₁ m 0 #[iv p1, iv p2, iv p3, .unset, .unset, .unset] [] _
    refine XS.iloadN X0.here hx rfl (hb hby at_0) rfl ?_
    show SS p e below s₁ m 1 #[iv p1, iv p2, iv p3, .unset, .unset, .unset] [(.int p1)] _
    refine st1 _ ?_
    show SS p e below T1 m 4 #[iv p1, iv p2, iv p3, .unset, .unset, .unset] [(.ref b1_b1)] _
    refine XS.astoreN X1.here hx rfl (hb hby at_4) rfl rfl (l' := #[iv p1, iv p2, iv p3, rv b1_b1, .unset, .unset]) rfl ?_
    show SS p e below T1 m 5 #[iv p1, iv p2, iv p3, rv b1_b1, .unset, .unset] [] _
    refine XS.iloadN X1.here hx rfl (hb hby at_5) rfl ?_
    show SS p e below T1 m 6 #[iv p1, iv p2, iv p3, rv b1_b1, .unset, .unset] [(.int p2)] _
    refine st5 _ ?_
    show SS p e below T5 m 9 #[iv p1, iv p2, iv p3, rv b1_b1, .unset, .unset] [(.ref b5_b1)] _
    refine XS.astore X5.here hx rfl (hb hby at_9) rfl rfl (l' := #[iv p1, iv p2, iv p3, rv b1_b1, rv b5_b1, .unset]) rfl ?_
    show SS p e below T5 m 11 #[iv p1, iv p2, iv p3, rv b1_b1, rv b5_b1, .unset] [] _
    refine XS.iloadN X5.here hx rfl (hb hby at_11) rfl ?_
    refine XS.iconst X5.here hx rfl (hb hby at_12) ?_
    show SS p e below T5 m 13 #[iv p1, iv p2, iv p3, rv b1_b1, rv b5_b1, .unset] [(.int (1 : Int32)), (.int p3)] _
    refine XS.iand X5.here hx rfl (hb hby at_13) rfl ?_
    rw [hf]
    show SS p e below T5 m 14 #[iv p1, iv p2, iv p3, rv b1_b1, rv b5_b1, .unset] [(.int (1 : Int32))] _
    refine XS.ifNo X5.here hx rfl (hb hby at_14) rfl ((if0 _ _).trans (feq (by decide : ¬ ((1 : Int32) = (0 : Int32)))).1) ?_
    show SS p e below T5 m 17 #[iv p1, iv p2, iv p3, rv b1_b1, rv b5_b1, .unset] [] _
    refine st9 _ ?_
    show SS p e below T9 m 20 #[iv p1, iv p2, iv p3, rv b1_b1, rv b5_b1, .unset] [(.ref b9)] _
    refine XS.dup X9.here hx rfl (hb hby at_20) rfl rfl ?_
    refine XS.aloadN X9.here hx rfl (hb hby at_21) rfl rfl ?_
    show SS p e below T9 m 22 #[iv p1, iv p2, iv p3, rv b1_b1, rv b5_b1, .unset] [(.ref b1_b1), (.ref b9), (.ref b9)] _
    refine st12.trans ?_
    show SS p e below T12 m 25 #[iv p1, iv p2, iv p3, rv b1_b1, rv b5_b1, .unset] [(.ref b9)] _
    refine XS.astore X12.here hx rfl (hb hby at_25) rfl rfl (l' := #[iv p1, iv p2, iv p3, rv b1_b1, rv b5_b1, rv b9]) rfl ?_
    show SS p e below T12 m 27 #[iv p1, iv p2, iv p3, rv b1_b1, rv b5_b1, rv b9] [] _
    refine XS.aload X12.here hx rfl (hb hby at_27) rfl rfl ?_
    show SS p e below T12 m 29 #[iv p1, iv p2, iv p3, rv b1_b1, rv b5_b1, rv b9] [(.ref b9)] _
    refine st20 _ ?_
    show SS p e below T20 m 32 #[iv p1, iv p2, iv p3, rv b1_b1, rv b5_b1, rv b9] [(.int (1 : Int32))] _
    refine XS.ifNo X20.here hx rfl (hb hby at_32) rfl ((if0 _ _).trans (feq (by decide : ¬ ((1 : Int32) = (0 : Int32)))).1) ?_
    show SS p e below T20 m 35 #[iv p1, iv p2, iv p3, rv b1_b1, rv b5_b1, rv b9] [] _
    refine XS.aload X20.here hx rfl (hb hby at_35) rfl rfl ?_
    show SS p e below T20 m 37 #[iv p1, iv p2, iv p3, rv b1_b1, rv b5_b1, rv b9] [(.ref b9)] _
    refine st23 _ ?_
    show SS p e below T23 m 40 #[iv p1, iv p2, iv p3, rv b1_b1, rv b5_b1, rv b9] [(.ref b1_b1)] _
    refine st25 _ ?_
    show SS p e below T25 m 43 #[iv p1, iv p2, iv p3, rv b1_b1, rv b5_b1, rv b9] [(.ref b1_b1)] _
    refine st27 _ ?_
    show SS p e below T27 m 46 #[iv p1, iv p2, iv p3, rv b1_b1, rv b5_b1, rv b9] [(.int p1)] _
    refine XS.iloadN X27.here hx rfl (hb hby at_46) rfl ?_
    show SS p e below T27 m 47 #[iv p1, iv p2, iv p3, rv b1_b1, rv b5_b1, rv b9] [(.int p1), (.int p1)] _
    refine XS.icmpNo X27.here hx rfl (hb hby at_47) rfl (teq (rfl : p1 = p1)).2 ?_
    show SS p e below T27 m 50 #[iv p1, iv p2, iv p3, rv b1_b1, rv b5_b1, rv b9] [] _
    refine XS.iconst X27.here hx rfl (hb hby at_50) ?_
    refine XS.goto X27.here hx rfl (pc0 := 51) (pc' := 55) rfl (hb hby at_51) (by decide) (by decide) ?_
    show SS p e below T27 m 55 #[iv p1, iv p2, iv p3, rv b1_b1, rv b5_b1, rv b9] [(.int (1 : Int32))] _
    exact retN X27 hx (t := .boolean) hret (by simp) (hb hby at_55) hr
theorem d_85 : decode jdk_33_method_22_code 6 = .ok (.iload_n 0, 1) := by decide +kernel
theorem d_86 : decode jdk_33_method_22_code 7 = .ok (.getstatic 191, 3) := by decide +kernel
theorem d_87 : decode jdk_33_method_22_code 10 = .ok (.if_icmp .gt 13, 3) := by decide +kernel
theorem d_88 : decode jdk_33_method_22_code 13 = .ok (.getstatic 195, 3) := by decide +kernel
theorem d_89 : decode jdk_33_method_22_code 16 = .ok (.iload_n 0, 1) := by decide +kernel
theorem d_90 : decode jdk_33_method_22_code 17 = .ok (.sipush 128, 3) := by decide +kernel
theorem d_91 : decode jdk_33_method_22_code 20 = .ok (.iadd, 1) := by decide +kernel
theorem d_92 : decode jdk_33_method_22_code 21 = .ok (.aaload, 1) := by decide +kernel
theorem d_93 : decode jdk_33_method_22_code 22 = .ok (.areturn, 1) := by decide +kernel
-- java/lang/Integer.valueOf(I)Ljava/lang/Integer;
def Q12_valueOf (Z : State) (p1 : Int32) (a2 : Addr) (a3 : Addr) (h0 : Heap) (n0 : Nat) (v : Option Value) (h : Heap) (L : List Loc) : Prop := v = some (.ref a3) ∧ Fr n0 L ∧ h = h0
set_option maxRecDepth 65536 in
set_option maxHeartbeats 40000000 in
theorem rm12_valueOf (l : Launch) (Z : State) (a0 : Array Value) (hw : HW Z a0) (p1 : Int32) (a2 : Addr) (a3 : Addr) (h0 : Heap) (n0 : Nat) (O0 : Old Z n0 h0) (hc_0 : ¬ (p1 < (-128 : Int32))) (S_1 : SA16 Z Z.heap (.int (127 : Int32))) (hc_2 : ¬ ((127 : Int32) < p1)) (S_3 : SA17 Z Z.heap (.ref a2)) (Et_4 : Elt Z Z.heap a2 (.object "java/lang/Integer") (p1 + (128 : Int32)) (.ref a3)) :
    Met l Z [] Y2 jdk_33_method_22_code 1 (some (.object "java/lang/Integer")) ({ frames := 0, cells := 0, slots := 0, locals := 0 } : Room) #[(.int p1)] h0 (Q12_valueOf Z p1 a2 a3 h0 n0) := by
  have W := fun (i : Nat) {c : Jvm.Cond} (q : tables_1[i]? = some c) => hw c (List.mem_of_getElem? q)
  refine own_mk (plainFor_of_name pn_20) ?_
  intro p e s m below meth c s₁ hZ hx hby hml hown hnm hret hlk X0 e0
  have N0 := Fr.nil n0
  obtain ⟨T1, X1, e1, st1⟩ := getS2 X0 hx hZ hown (host := "") (Or.inl (W 4 rfl)) Via.refl e0 (S_1.ext O0.2) (g := (mkF m 7 #[iv p1] [(.int p1)])) rfl (hb hby d_86)
  obtain ⟨T2, X2, e2, st2⟩ := getS2 X1 hx hZ hown (host := "") (Or.inl (W 6 rfl)) Via.refl e1 (S_3.ext O0.2) (g := (mkF m 13 #[iv p1] [])) rfl (hb hby d_88)
  obtain ⟨c3, A3, i3, q3⟩ := (Et_4.ext O0.2)
  refine ⟨T2, some (.ref a3), _, _, _, X2, by decide, by decide, nofun, ?_, fun fs hr => castTop (ef_23 m p1) ?_⟩
  · show Q12_valueOf Z p1 a2 a3 h0 n0 _ T2.heap _
    rw [e2]
    exact ⟨rfl, N0, rfl⟩
  · show SS p e below s₁ m 0 #[iv p1] [] _
    refine XS.iloadN X0.here hx rfl (hb hby d_0) rfl ?_
    refine XS.bipush X0.here hx rfl (hb hby d_1) ?_
    show SS p e below s₁ m 3 #[iv p1] [(.int (-128 : Int32)), (.int p1)] _
    refine XS.icmpNo X0.here hx rfl (hb hby d_2) rfl (flt hc_0).1 ?_
    show SS p e below s₁ m 6 #[iv p1] [] _
    refine XS.iloadN X0.here hx rfl (hb hby d_85) rfl ?_
    show SS p e below s₁ m 7 #[iv p1] [(.int p1)] _
    refine st1 _ ?_
    show SS p e below T1 m 10 #[iv p1] [(.int (127 : Int32)), (.int p1)] _
    refine XS.icmpNo X1.here hx rfl (hb hby d_87) rfl (flt hc_2).2.2.1 ?_
    show SS p e below T1 m 13 #[iv p1] [] _
    refine st2 _ ?_
    show SS p e below T2 m 16 #[iv p1] [(.ref a2)] _
    refine XS.iloadN X2.here hx rfl (hb hby d_89) rfl ?_
    refine XS.sipush X2.here hx rfl (hb hby d_90) ?_
    show SS p e below T2 m 20 #[iv p1] [(.int (128 : Int32)), (.int p1), (.ref a2)] _
    refine XS.iadd X2.here hx rfl (hb hby d_91) rfl ?_
    show SS p e below T2 m 21 #[iv p1] [(.int (p1 + (128 : Int32))), (.ref a2)] _
    refine X2.aaload hx (j := (p1 + (128 : Int32))) (v := (.ref a3)) (by rw [e2]; exact A3.1) (State.isArrayOf_alike hZ.alike A3.2.1) rfl A3.2.2 i3 q3 (g := (mkF m 21 #[iv p1] [(.int (p1 + (128 : Int32))), (.ref a2)])) rfl rfl (hb hby d_92) _ ?_
    show SS p e below T2 m 22 #[iv p1] [(.ref a3)] _
    exact retOut X2 hx hret rfl (Or.inr (Or.inr (Or.inr (Or.inr ⟨rfl, rfl, rfl⟩)))) (hb hby d_93) hr
-- java/lang/Integer.intValue()I
def Q13_intValue (Z : State) (a1 : Addr) (p2 : Int32) (h0 : Heap) (n0 : Nat) (v : Option Value) (h : Heap) (L : List Loc) : Prop := v = some (.int p2) ∧ Fr n0 L ∧ h = h0
set_option maxRecDepth 65536 in
set_option maxHeartbeats 40000000 in
theorem rm13_intValue (l : Launch) (Z : State) (a0 : Array Value) (hw : HW Z a0) (a1 : Addr) (p2 : Int32) (h0 : Heap) (n0 : Nat) (O0 : Old Z n0 h0) (F_0 : FA10 Z Z.heap a1 (.int p2)) :
    Met l Z [] Y7 jdk_33_method_27_code 1 (some .int) ({ frames := 0, cells := 0, slots := 0, locals := 0 } : Room) #[(.ref a1)] h0 (Q13_intValue Z a1 p2 h0 n0) := by
  have W := fun (i : Nat) {c : Jvm.Cond} (q : tables_1[i]? = some c) => hw c (List.mem_of_getElem? q)
  refine own_mk (plainFor_of_name pn_20) ?_
  intro p e s m below meth c s₁ hZ hx hby hml hown hnm hret hlk X0 e0
  have N0 := Fr.nil n0
  obtain ⟨T1, X1, e1, st1⟩ := getF X0 hx hZ hown (host := "") (Or.inl (W 50 rfl)) Via.refl e0 (F_0.ext O0.2) (g := (mkF m 1 #[rv a1] [(.ref a1)])) rfl rfl (hb hby d_60)
  refine ⟨T1, some (.int p2), _, _, _, X1, by decide, by decide, nofun, ?_, fun fs hr => castTop (ef_12 m a1) ?_⟩
  · show Q13_intValue Z a1 p2 h0 n0 _ T1.heap _
    rw [e1]
    exact ⟨rfl, N0, rfl⟩
  · show SS p e below s₁ m 0 #[rv a1] [] _
    refine XS.aloadN X0.here hx rfl (hb hby d_59) rfl rfl ?_
    show SS p e below s₁ m 1 #[rv a1] [(.ref a1)] _
    refine st1 _ ?_
    show SS p e below T1 m 4 #[rv a1] [(.int p2)] _
    exact retI X1 hx hret (hb hby d_61) hr
set_option maxRecDepth 65536 in
set_option maxHeartbeats 40000000 in
theorem rm0_LC0 (l : Launch) (Z : State) (a0 : Array Value) (hw : HW Z a0) (ws : List Jvm.Cond) (p1 : Int32) (p2 : Int32) (p3 : Int32) (o_cache : Addr) (xb : Addr) (h0 : Heap) (n0 : Nat) (O0 : Old Z n0 h0) (S_c_high : SA16 Z Z.heap (.int (127 : Int32))) (S_o_cache : SA17 Z Z.heap (.ref o_cache)) (E_o_cache : EA15 Z Z.heap o_cache) (E_xb : EA13 Z Z.heap xb) (F_xb : FA10 Z Z.heap xb (.int p2)) (Et_xb : Elt Z Z.heap o_cache (.object "java/lang/Integer") (p2 + (128 : Int32)) (.ref xb)) (h1xa : p1 < (-128 : Int32)) (h1xb : ¬ (p2 < (-128 : Int32))) (h2xb : ¬ ((127 : Int32) < p2)) (hf : (p3 &&& (1 : Int32)) = (0 : Int32)) :
    MetW l Z ws x code maxLocals ret room_1 #[(.int p1), (.int p2), (.int p3)] h0 (fun v _ L => Q0 n0 v L) := by
  have W := fun (i : Nat) {c : Jvm.Cond} (q : tables_1[i]? = some c) => hw c (List.mem_of_getElem? q)
  refine own_mkW (plainFor_of_name pn_70) ?_
  intro p e s m below meth c s₁ hZ hx hby hml hown hnm hret hlk X0 e0
  have N0 := Fr.nil n0
  obtain ⟨_, T1, L1, X1, hQ1, st1⟩ := own_cs X0 hx hZ hown hml (W 0 rfl) (W 1 rfl) (W 2 rfl) (W 3 rfl) (rm3_valueOf l Z a0 hw p1 h0 n0 O0 (h1xa)) e0 (hb hby at_1) 0 #[iv p1, iv p2, iv p3, .unset, .unset, .unset] [(.int p1)] [] pd_24 (by decide) rfl rfl rfl (Nat.le_of_eq rfl)
  obtain ⟨b1_b1, rfl, N1q, K1, gb1_0, F1_0, F1_1⟩ := hQ1
  have N2 := Fr.app N0 N1q
  have O3 := O0.keep K1 all0
  have K4 : Keep h0 T1.heap [] := Keep.trans (Keep.refl h0 []) K1 all0
  obtain ⟨_, T5, L5, X5, hQ5, st5⟩ := own_cs X1 hx hZ hown hml (W 0 rfl) (W 1 rfl) (W 2 rfl) (W 3 rfl) (rm12_valueOf l Z a0 hw p2 o_cache xb T1.heap n0 O3 (h1xb) (S_c_high) (h2xb) (S_o_cache) (Et_xb)) rfl (hb hby at_6) 0 #[iv p1, iv p2, iv p3, rv b1_b1, .unset, .unset] [(.int p2)] [] pd_24 (by decide) rfl rfl rfl (Nat.le_of_eq rfl)
  obtain ⟨rfl, N5q, K5⟩ := hQ5
  have N6 := Fr.app N2 N5q
  obtain ⟨T7, h7, X7, e7, E7, A7, D7, -, st7⟩ := newO X5 hx hZ hown (W 7 rfl) (W 8 rfl) (W 9 rfl) K5 (g := (mkF m 56 #[iv p1, iv p2, iv p3, rv b1_b1, rv xb, .unset] [])) rfl (hb hby at_56) (by decide) (by decide)
  obtain ⟨b7, g7⟩ : ∃ z, z = T1.heap.size := ⟨_, rfl⟩
  rw [← g7] at A7 D7 st7
  have O8 := O3.ext E7
  have K9 : Keep h0 h7 [] := Keep.ext K4 E7
  have z11 : h0.size ≤ T1.heap.size := K1.1
  have g12 : n0 ≤ b7 := Nat.le_trans (Nat.le_trans (Nat.le_trans (Nat.le_of_eq O0.1.symm) O0.2.1) z11) (Nat.le_of_eq g7.symm)
  have X13 := (show Stand p l e _ (s.setVm s.vm) m _ below meth c _ _ _ _ from X7)
  obtain ⟨_, _, ⟨T10, L10, k10, n10⟩, -, Y10, hs10, hg10, ⟨Lc10, hQ10, l10, y10, z10⟩, st10⟩ := X13.specialBackS hx (y := Y4) rfl hown (mvT hZ (W 10 rfl)) (mvT hZ (W 11 rfl)) (mvT hZ (W 12 rfl)) (by decide) (backOfS (W := 1) (rm5_init l Z a0 hw b7 b1_b1 xb h7 n0 O8 (A7) ((D7 (Or.inr (W 29 rfl)) (ty := (.object "java/lang/Object")) (by decide) : FA11 Z h7 b7 .null)) (g12) ((D7 (Or.inr (W 32 rfl)) (ty := (.object "java/lang/Object")) (by decide) : FA12 Z h7 b7 .null))) hZ (W 12 rfl) (W 9 rfl) (by decide) (by decide)) (g := (mkF m 63 #[iv p1, iv p2, iv p3, rv b1_b1, rv xb, .unset] [(.ref xb), (.ref b1_b1), (.ref b7), (.ref b7)])) rfl (by rw [hml]; rfl) (Steps.refl _) (a := b7) (argsL := [(.ref b1_b1), (.ref xb)]) (rest := [(.ref b7)]) (lenOf pd_48 rfl) rfl (by show 2 * 0 + _ ≤ _; exact Nat.le_of_eq rfl) (hb hby at_63) (fun _ _ => ⟨rfl, e7, (by decide : 2 + 4 ≤ _), (by decide : 3 + 36 ≤ _)⟩)
  dsimp only [Pt.U, Pt.locs, Pt.cells, Pt.slots] at Y10 l10 y10 z10 st10 hQ10 hs10 hg10
  subst l10 y10 z10
  obtain ⟨X10, hS10, hZ10, hown10⟩ := rebS (s := s) (vm0 := s.vm) ((State.WarmedH.refl s).since 0) (Nat.zero_le _) Y10 hs10 hg10 hZ hown
  obtain ⟨rfl, N10q, K10, F10_0, F10_1⟩ := hQ10
  have N14 := Fr.app N6 N10q
  have O15 := O8.keep K10 (allS g12 all0)
  have K16 : Keep h0 T10.heap [] := Keep.trans K9 K10 (allS (Or.inr (Nat.le_trans z11 (Nat.le_of_eq g7.symm))) all0)
  have f18 := (A7.keep K10)
  obtain ⟨_, T17, L17, X17, hQ17, st17⟩ := own_cv X10 hx hZ10 hown10 hml (W 33 rfl) (W 34 rfl) (notFace_of_selects (W 36 rfl)) (W 36 rfl) (W 35 rfl) (W 9 rfl) (W 37 rfl) (rm6_isOpenAtTop l Z a0 hw b7 xb T10.heap n0 O15 (F10_1)) rfl f18 (hb hby at_70) 0 #[iv p1, iv p2, iv p3, rv b1_b1, rv xb, rv b7] [] [] pd_54 (by decide) rfl rfl rfl (Nat.le_of_eq rfl)
  obtain ⟨rfl, N17q, K17⟩ := hQ17
  have N19 := Fr.app N14 N17q
  obtain ⟨_, T20, L20, X20, hQ20, st20⟩ := own_cv X17 hx hZ10 hown10 hml (W 38 rfl) (W 39 rfl) (notFace_of_selects (W 41 rfl)) (W 41 rfl) (W 40 rfl) (W 9 rfl) (W 42 rfl) (rm7_getLow l Z a0 hw b7 b1_b1 T10.heap n0 O15 (F10_0)) K17 f18 (hb hby at_78) 0 #[iv p1, iv p2, iv p3, rv b1_b1, rv xb, rv b7] [] [] pd_58 (by decide) rfl rfl rfl (Nat.le_of_eq rfl)
  obtain ⟨rfl, N20q, K20⟩ := hQ20
  have N21 := Fr.app N19 N20q
  have f23 := ((F1_0.ext E7).keep K10)
  obtain ⟨T22, X22, e22, st22⟩ := castY X20 hx hZ10 hown10 (W 43 rfl) K20 (Ins.self f23) (g := (mkF m 81 #[iv p1, iv p2, iv p3, rv b1_b1, rv xb, rv b7] [(.ref b1_b1)])) rfl rfl (hb hby at_81)
  have f25 := ((F1_1.ext E7).keep K10 (ninS (Nat.ne_of_lt (Nat.lt_of_lt_of_le F1_0.lt (Nat.le_of_eq g7.symm))) nin0))
  obtain ⟨_, T24, L24, X24, hQ24, st24⟩ := own_cv X22 hx hZ10 hown10 hml (W 45 rfl) (W 46 rfl) (notFace_of_selects (W 48 rfl)) (W 48 rfl) (W 47 rfl) (W 2 rfl) (W 49 rfl) (rm8_intValue l Z a0 hw b1_b1 p1 T10.heap n0 O15 (f25)) e22 f23 (hb hby at_84) 0 #[iv p1, iv p2, iv p3, rv b1_b1, rv xb, rv b7] [] [] pd_62 (by decide) rfl rfl rfl (Nat.le_of_eq rfl)
  obtain ⟨rfl, N24q, K24⟩ := hQ24
  have N26 := Fr.app N21 N24q
  obtain ⟨_, T27, L27, X27, hQ27, st27⟩ := own_cv X24 hx hZ10 hown10 hml (W 52 rfl) (W 53 rfl) (notFace_of_selects (W 55 rfl)) (W 55 rfl) (W 54 rfl) (W 9 rfl) (W 56 rfl) (rm9_getHigh l Z a0 hw b7 xb T10.heap n0 O15 (F10_1)) K24 f18 (hb hby at_93) 0 #[iv p1, iv p2, iv p3, rv b1_b1, rv xb, rv b7] [] [] pd_58 (by decide) rfl rfl rfl (Nat.le_of_eq rfl)
  obtain ⟨rfl, N27q, K27⟩ := hQ27
  have N28 := Fr.app N26 N27q
  obtain ⟨T29, X29, e29, st29⟩ := castY X27 hx hZ10 hown10 (W 43 rfl) K27 (Ins.self (E_xb.ext O15.2)) (g := (mkF m 96 #[iv p1, iv p2, iv p3, rv b1_b1, rv xb, rv b7] [(.ref xb)])) rfl rfl (hb hby at_96)
  obtain ⟨_, T30, L30, X30, hQ30, st30⟩ := own_cv X29 hx hZ10 hown10 hml (W 45 rfl) (W 46 rfl) (notFace_of_selects (W 48 rfl)) (W 48 rfl) (W 47 rfl) (W 2 rfl) (W 49 rfl) (rm13_intValue l Z a0 hw xb p2 T10.heap n0 O15 (F_xb)) e29 (E_xb.ext O15.2) (hb hby at_99) 0 #[iv p1, iv p2, iv p3, rv b1_b1, rv xb, rv b7] [] [] pd_62 (by decide) rfl rfl rfl (Nat.le_of_eq rfl)
  obtain ⟨rfl, N30q, K30⟩ := hQ30
  have N31 := Fr.app N28 N30q
  refine ⟨T30, some (.int (1 : Int32)), _, _, _, T10.vm, _, X30, hS10, (by rw [K30]; exact (Nat.le_refl _)), by decide, by decide, nofun, ?_, fun fs hr => castTop (ef_69 m p1 p2 p3) ?_⟩
  · exact ⟨rfl, N31⟩
  · show SS p e below s₁ m 0 #[iv p1, iv p2, iv p3, .unset, .unset, .unset] [] _
    refine XS.iloadN X0.here hx rfl (hb hby at_0) rfl ?_
    show SS p e below s₁ m 1 #[iv p1, iv p2, iv p3, .unset, .unset, .unset] [(.int p1)] _
    refine st1 _ ?_
    show SS p e below T1 m 4 #[iv p1, iv p2, iv p3, .unset, .unset, .unset] [(.ref b1_b1)] _
    refine XS.astoreN X1.here hx rfl (hb hby at_4) rfl rfl (l' := #[iv p1, iv p2, iv p3, rv b1_b1, .unset, .unset]) rfl ?_
    show SS p e below T1 m 5 #[iv p1, iv p2, iv p3, rv b1_b1, .unset, .unset] [] _
    refine XS.iloadN X1.here hx rfl (hb hby at_5) rfl ?_
    show SS p e below T1 m 6 #[iv p1, iv p2, iv p3, rv b1_b1, .unset, .unset] [(.int p2)] _
    refine st5 _ ?_
    show SS p e below T5 m 9 #[iv p1, iv p2, iv p3, rv b1_b1, .unset, .unset] [(.ref xb)] _
    refine XS.astore X5.here hx rfl (hb hby at_9) rfl rfl (l' := #[iv p1, iv p2, iv p3, rv b1_b1, rv xb, .unset]) rfl ?_
    show SS p e below T5 m 11 #[iv p1, iv p2, iv p3, rv b1_b1, rv xb, .unset] [] _
    refine XS.iloadN X5.here hx rfl (hb hby at_11) rfl ?_
    refine XS.iconst X5.here hx rfl (hb hby at_12) ?_
    show SS p e below T5 m 13 #[iv p1, iv p2, iv p3, rv b1_b1, rv xb, .unset] [(.int (1 : Int32)), (.int p3)] _
    refine XS.iand X5.here hx rfl (hb hby at_13) rfl ?_
    rw [hf]
    show SS p e below T5 m 14 #[iv p1, iv p2, iv p3, rv b1_b1, rv xb, .unset] [(.int (0 : Int32))] _
    refine XS.ifYes X5.here hx rfl (pc0 := 14) (pc' := 56) rfl (hb hby at_14) rfl ((if0 _ _).trans (teq (by decide : (0 : Int32) = (0 : Int32))).1) (by decide) (by decide) ?_
    show SS p e below T5 m 56 #[iv p1, iv p2, iv p3, rv b1_b1, rv xb, .unset] [] _
    refine st7 _ ?_
    show SS p e below T7 m 59 #[iv p1, iv p2, iv p3, rv b1_b1, rv xb, .unset] [(.ref b7)] _
    refine XS.dup X7.here hx rfl (hb hby at_59) rfl rfl ?_
    refine XS.aloadN X7.here hx rfl (hb hby at_60) rfl rfl ?_
    refine XS.aload X7.here hx rfl (hb hby at_61) rfl rfl ?_
    show SS p e below T7 m 63 #[iv p1, iv p2, iv p3, rv b1_b1, rv xb, .unset] [(.ref xb), (.ref b1_b1), (.ref b7), (.ref b7)] _
    refine st10.trans ?_
    show SS p e below T10 m 66 #[iv p1, iv p2, iv p3, rv b1_b1, rv xb, .unset] [(.ref b7)] _
    refine XS.astore X10.here hx rfl (hb hby at_66) rfl rfl (l' := #[iv p1, iv p2, iv p3, rv b1_b1, rv xb, rv b7]) rfl ?_
    show SS p e below T10 m 68 #[iv p1, iv p2, iv p3, rv b1_b1, rv xb, rv b7] [] _
    refine XS.aload X10.here hx rfl (hb hby at_68) rfl rfl ?_
    show SS p e below T10 m 70 #[iv p1, iv p2, iv p3, rv b1_b1, rv xb, rv b7] [(.ref b7)] _
    refine st17 _ ?_
    show SS p e below T17 m 73 #[iv p1, iv p2, iv p3, rv b1_b1, rv xb, rv b7] [(.int (0 : Int32))] _
    refine XS.ifNo X17.here hx rfl (hb hby at_73) rfl ((if0 _ _).trans (teq (by decide : (0 : Int32) = (0 : Int32))).2) ?_
    show SS p e below T17 m 76 #[iv p1, iv p2, iv p3, rv b1_b1, rv xb, rv b7] [] _
    refine XS.aload X17.here hx rfl (hb hby at_76) rfl rfl ?_
    show SS p e below T17 m 78 #[iv p1, iv p2, iv p3, rv b1_b1, rv xb, rv b7] [(.ref b7)] _
    refine st20 _ ?_
    show SS p e below T20 m 81 #[iv p1, iv p2, iv p3, rv b1_b1, rv xb, rv b7] [(.ref b1_b1)] _
    refine st22 _ ?_
    show SS p e below T22 m 84 #[iv p1, iv p2, iv p3, rv b1_b1, rv xb, rv b7] [(.ref b1_b1)] _
    refine st24 _ ?_
    show SS p e below T24 m 87 #[iv p1, iv p2, iv p3, rv b1_b1, rv xb, rv b7] [(.int p1)] _
    refine XS.iloadN X24.here hx rfl (hb hby at_87) rfl ?_
    show SS p e below T24 m 88 #[iv p1, iv p2, iv p3, rv b1_b1, rv xb, rv b7] [(.int p1), (.int p1)] _
    refine XS.icmpNo X24.here hx rfl (hb hby at_88) rfl (teq (rfl : p1 = p1)).2 ?_
    show SS p e below T24 m 91 #[iv p1, iv p2, iv p3, rv b1_b1, rv xb, rv b7] [] _
    refine XS.aload X24.here hx rfl (hb hby at_91) rfl rfl ?_
    show SS p e below T24 m 93 #[iv p1, iv p2, iv p3, rv b1_b1, rv xb, rv b7] [(.ref b7)] _
    refine st27 _ ?_
    show SS p e below T27 m 96 #[iv p1, iv p2, iv p3, rv b1_b1, rv xb, rv b7] [(.ref xb)] _
    refine st29 _ ?_
    show SS p e below T29 m 99 #[iv p1, iv p2, iv p3, rv b1_b1, rv xb, rv b7] [(.ref xb)] _
    refine st30 _ ?_
    show SS p e below T30 m 102 #[iv p1, iv p2, iv p3, rv b1_b1, rv xb, rv b7] [(.int p2)] _
    refine XS.iloadN X30.here hx rfl (hb hby at_102) rfl ?_
    show SS p e below T30 m 103 #[iv p1, iv p2, iv p3, rv b1_b1, rv xb, rv b7] [(.int p2), (.int p2)] _
    refine XS.icmpNo X30.here hx rfl (hb hby at_103) rfl (teq (rfl : p2 = p2)).2 ?_
    show SS p e below T30 m 106 #[iv p1, iv p2, iv p3, rv b1_b1, rv xb, rv b7] [] _
    refine XS.iconst X30.here hx rfl (hb hby at_106) ?_
    refine XS.goto X30.here hx rfl (pc0 := 107) (pc' := 111) rfl (hb hby at_107) (by decide) (by decide) ?_
    show SS p e below T30 m 111 #[iv p1, iv p2, iv p3, rv b1_b1, rv xb, rv b7] [(.int (1 : Int32))] _
    exact retN X30 hx (t := .boolean) hret (by simp) (hb hby at_111) hr
set_option maxRecDepth 65536 in
set_option maxHeartbeats 40000000 in
theorem rm0_LC1 (l : Launch) (Z : State) (a0 : Array Value) (hw : HW Z a0) (ws : List Jvm.Cond) (p1 : Int32) (p2 : Int32) (p3 : Int32) (o_cache : Addr) (xb : Addr) (h0 : Heap) (n0 : Nat) (O0 : Old Z n0 h0) (S_c_high : SA16 Z Z.heap (.int (127 : Int32))) (S_o_cache : SA17 Z Z.heap (.ref o_cache)) (E_o_cache : EA15 Z Z.heap o_cache) (E_xb : EA13 Z Z.heap xb) (F_xb : FA10 Z Z.heap xb (.int p2)) (Et_xb : Elt Z Z.heap o_cache (.object "java/lang/Integer") (p2 + (128 : Int32)) (.ref xb)) (h1xa : p1 < (-128 : Int32)) (h1xb : ¬ (p2 < (-128 : Int32))) (h2xb : ¬ ((127 : Int32) < p2)) (hf : (p3 &&& (1 : Int32)) = (1 : Int32)) :
    MetW l Z ws x code maxLocals ret room_1 #[(.int p1), (.int p2), (.int p3)] h0 (fun v _ L => Q0 n0 v L) := by
  have W := fun (i : Nat) {c : Jvm.Cond} (q : tables_1[i]? = some c) => hw c (List.mem_of_getElem? q)
  refine own_mkW (plainFor_of_name pn_70) ?_
  intro p e s m below meth c s₁ hZ hx hby hml hown hnm hret hlk X0 e0
  have N0 := Fr.nil n0
  obtain ⟨_, T1, L1, X1, hQ1, st1⟩ := own_cs X0 hx hZ hown hml (W 0 rfl) (W 1 rfl) (W 2 rfl) (W 3 rfl) (rm3_valueOf l Z a0 hw p1 h0 n0 O0 (h1xa)) e0 (hb hby at_1) 0 #[iv p1, iv p2, iv p3, .unset, .unset, .unset] [(.int p1)] [] pd_24 (by decide) rfl rfl rfl (Nat.le_of_eq rfl)
  obtain ⟨b1_b1, rfl, N1q, K1, gb1_0, F1_0, F1_1⟩ := hQ1
  have N2 := Fr.app N0 N1q
  have O3 := O0.keep K1 all0
  have K4 : Keep h0 T1.heap [] := Keep.trans (Keep.refl h0 []) K1 all0
  obtain ⟨_, T5, L5, X5, hQ5, st5⟩ := own_cs X1 hx hZ hown hml (W 0 rfl) (W 1 rfl) (W 2 rfl) (W 3 rfl) (rm12_valueOf l Z a0 hw p2 o_cache xb T1.heap n0 O3 (h1xb) (S_c_high) (h2xb) (S_o_cache) (Et_xb)) rfl (hb hby at_6) 0 #[iv p1, iv p2, iv p3, rv b1_b1, .unset, .unset] [(.int p2)] [] pd_24 (by decide) rfl rfl rfl (Nat.le_of_eq rfl)
  obtain ⟨rfl, N5q, K5⟩ := hQ5
  have N6 := Fr.app N2 N5q
  obtain ⟨T7, h7, X7, e7, E7, A7, D7, -, st7⟩ := newO X5 hx hZ hown (W 7 rfl) (W 8 rfl) (W 9 rfl) K5 (g := (mkF m 17 #[iv p1, iv p2, iv p3, rv b1_b1, rv xb, .unset] [])) rfl (hb hby at_17) (by decide) (by decide)
  obtain ⟨b7, g7⟩ : ∃ z, z = T1.heap.size := ⟨_, rfl⟩
  rw [← g7] at A7 D7 st7
  have O8 := O3.ext E7
  have K9 : Keep h0 h7 [] := Keep.ext K4 E7
  have z11 : h0.size ≤ T1.heap.size := K1.1
  have g12 : n0 ≤ b7 := Nat.le_trans (Nat.le_trans (Nat.le_trans (Nat.le_of_eq O0.1.symm) O0.2.1) z11) (Nat.le_of_eq g7.symm)
  have X13 := (show Stand p l e _ (s.setVm s.vm) m _ below meth c _ _ _ _ from X7)
  obtain ⟨_, _, ⟨T10, L10, k10, n10⟩, -, Y10, hs10, hg10, ⟨Lc10, hQ10, l10, y10, z10⟩, st10⟩ := X13.specialBackS hx (y := Y9) rfl hown (mvT hZ (W 57 rfl)) (mvT hZ (W 58 rfl)) (mvT hZ (W 59 rfl)) (by decide) (backOfS (W := 1) (rm10_init l Z a0 hw b7 b1_b1 h7 n0 O8 (A7) ((D7 (Or.inr (W 29 rfl)) (ty := (.object "java/lang/Object")) (by decide) : FA11 Z h7 b7 .null)) (g12) ((D7 (Or.inr (W 32 rfl)) (ty := (.object "java/lang/Object")) (by decide) : FA12 Z h7 b7 .null))) hZ (W 59 rfl) (W 9 rfl) (by decide) (by decide)) (g := (mkF m 22 #[iv p1, iv p2, iv p3, rv b1_b1, rv xb, .unset] [(.ref b1_b1), (.ref b7), (.ref b7)])) rfl (by rw [hml]; rfl) (Steps.refl _) (a := b7) (argsL := [(.ref b1_b1)]) (rest := [(.ref b7)]) (lenOf pd_82 rfl) rfl (by show 2 * 0 + _ ≤ _; exact Nat.le_of_eq rfl) (hb hby at_22) (fun _ _ => ⟨rfl, e7, (by decide : 2 + 2 ≤ _), (by decide : 3 + 16 ≤ _)⟩)
  dsimp only [Pt.U, Pt.locs, Pt.cells, Pt.slots] at Y10 l10 y10 z10 st10 hQ10 hs10 hg10
  subst l10 y10 z10
  obtain ⟨X10, hS10, hZ10, hown10⟩ := rebS (s := s) (vm0 := s.vm) ((State.WarmedH.refl s).since 0) (Nat.zero_le _) Y10 hs10 hg10 hZ hown
  obtain ⟨rfl, N10q, K10, F10_0, F10_1⟩ := hQ10
  have N14 := Fr.app N6 N10q
  have O15 := O8.keep K10 (allS g12 all0)
  have K16 : Keep h0 T10.heap [] := Keep.trans K9 K10 (allS (Or.inr (Nat.le_trans z11 (Nat.le_of_eq g7.symm))) all0)
  have f18 := (A7.keep K10)
  obtain ⟨_, T17, L17, X17, hQ17, st17⟩ := own_cv X10 hx hZ10 hown10 hml (W 33 rfl) (W 34 rfl) (notFace_of_selects (W 36 rfl)) (W 36 rfl) (W 35 rfl) (W 9 rfl) (W 37 rfl) (rm11_isOpenAtTop l Z a0 hw b7 T10.heap n0 O15 (F10_1)) rfl f18 (hb hby at_29) 0 #[iv p1, iv p2, iv p3, rv b1_b1, rv xb, rv b7] [] [] pd_54 (by decide) rfl rfl rfl (Nat.le_of_eq rfl)
  obtain ⟨rfl, N17q, K17⟩ := hQ17
  have N19 := Fr.app N14 N17q
  obtain ⟨_, T20, L20, X20, hQ20, st20⟩ := own_cv X17 hx hZ10 hown10 hml (W 38 rfl) (W 39 rfl) (notFace_of_selects (W 41 rfl)) (W 41 rfl) (W 40 rfl) (W 9 rfl) (W 42 rfl) (rm7_getLow l Z a0 hw b7 b1_b1 T10.heap n0 O15 (F10_0)) K17 f18 (hb hby at_37) 0 #[iv p1, iv p2, iv p3, rv b1_b1, rv xb, rv b7] [] [] pd_58 (by decide) rfl rfl rfl (Nat.le_of_eq rfl)
  obtain ⟨rfl, N20q, K20⟩ := hQ20
  have N21 := Fr.app N19 N20q
  have f23 := ((F1_0.ext E7).keep K10)
  obtain ⟨T22, X22, e22, st22⟩ := castY X20 hx hZ10 hown10 (W 43 rfl) K20 (Ins.self f23) (g := (mkF m 40 #[iv p1, iv p2, iv p3, rv b1_b1, rv xb, rv b7] [(.ref b1_b1)])) rfl rfl (hb hby at_40)
  have f25 := ((F1_1.ext E7).keep K10 (ninS (Nat.ne_of_lt (Nat.lt_of_lt_of_le F1_0.lt (Nat.le_of_eq g7.symm))) nin0))
  obtain ⟨_, T24, L24, X24, hQ24, st24⟩ := own_cv X22 hx hZ10 hown10 hml (W 45 rfl) (W 46 rfl) (notFace_of_selects (W 48 rfl)) (W 48 rfl) (W 47 rfl) (W 2 rfl) (W 49 rfl) (rm8_intValue l Z a0 hw b1_b1 p1 T10.heap n0 O15 (f25)) e22 f23 (hb hby at_43) 0 #[iv p1, iv p2, iv p3, rv b1_b1, rv xb, rv b7] [] [] pd_62 (by decide) rfl rfl rfl (Nat.le_of_eq rfl)
  obtain ⟨rfl, N24q, K24⟩ := hQ24
  have N26 := Fr.app N21 N24q
  refine ⟨T24, some (.int (1 : Int32)), _, _, _, T10.vm, _, X24, hS10, (by rw [K24]; exact (Nat.le_refl _)), by decide, by decide, nofun, ?_, fun fs hr => castTop (ef_69 m p1 p2 p3) ?_⟩
  · exact ⟨rfl, N26⟩
  · show SS p e below s₁ m 0 #[iv p1, iv p2, iv p3, .unset, .unset, .unset] [] _
    refine XS.iloadN X0.here hx rfl (hb hby at_0) rfl ?_
    show SS p e below s₁ m 1 #[iv p1, iv p2, iv p3, .unset, .unset, .unset] [(.int p1)] _
    refine st1 _ ?_
    show SS p e below T1 m 4 #[iv p1, iv p2, iv p3, .unset, .unset, .unset] [(.ref b1_b1)] _
    refine XS.astoreN X1.here hx rfl (hb hby at_4) rfl rfl (l' := #[iv p1, iv p2, iv p3, rv b1_b1, .unset, .unset]) rfl ?_
    show SS p e below T1 m 5 #[iv p1, iv p2, iv p3, rv b1_b1, .unset, .unset] [] _
    refine XS.iloadN X1.here hx rfl (hb hby at_5) rfl ?_
    show SS p e below T1 m 6 #[iv p1, iv p2, iv p3, rv b1_b1, .unset, .unset] [(.int p2)] _
    refine st5 _ ?_
    show SS p e below T5 m 9 #[iv p1, iv p2, iv p3, rv b1_b1, .unset, .unset] [(.ref xb)] _
    refine XS.astore X5.here hx rfl (hb hby at_9) rfl rfl (l' := #[iv p1, iv p2, iv p3, rv b1_b1, rv xb, .unset]) rfl ?_
    show SS p e below T5 m 11 #[iv p1, iv p2, iv p3, rv b1_b1, rv xb, .unset] [] _
    refine XS.iloadN X5.here hx rfl (hb hby at_11) rfl ?_
    refine XS.iconst X5.here hx rfl (hb hby at_12) ?_
    show SS p e below T5 m 13 #[iv p1, iv p2, iv p3, rv b1_b1, rv xb, .unset] [(.int (1 : Int32)), (.int p3)] _
    refine XS.iand X5.here hx rfl (hb hby at_13) rfl ?_
    rw [hf]
    show SS p e below T5 m 14 #[iv p1, iv p2, iv p3, rv b1_b1, rv xb, .unset] [(.int (1 : Int32))] _
    refine XS.ifNo X5.here hx rfl (hb hby at_14) rfl ((if0 _ _).trans (feq (by decide : ¬ ((1 : Int32) = (0 : Int32)))).1) ?_
    show SS p e below T5 m 17 #[iv p1, iv p2, iv p3, rv b1_b1, rv xb, .unset] [] _
    refine st7 _ ?_
    show SS p e below T7 m 20 #[iv p1, iv p2, iv p3, rv b1_b1, rv xb, .unset] [(.ref b7)] _
    refine XS.dup X7.here hx rfl (hb hby at_20) rfl rfl ?_
    refine XS.aloadN X7.here hx rfl (hb hby at_21) rfl rfl ?_
    show SS p e below T7 m 22 #[iv p1, iv p2, iv p3, rv b1_b1, rv xb, .unset] [(.ref b1_b1), (.ref b7), (.ref b7)] _
    refine st10.trans ?_
    show SS p e below T10 m 25 #[iv p1, iv p2, iv p3, rv b1_b1, rv xb, .unset] [(.ref b7)] _
    refine XS.astore X10.here hx rfl (hb hby at_25) rfl rfl (l' := #[iv p1, iv p2, iv p3, rv b1_b1, rv xb, rv b7]) rfl ?_
    show SS p e below T10 m 27 #[iv p1, iv p2, iv p3, rv b1_b1, rv xb, rv b7] [] _
    refine XS.aload X10.here hx rfl (hb hby at_27) rfl rfl ?_
    show SS p e below T10 m 29 #[iv p1, iv p2, iv p3, rv b1_b1, rv xb, rv b7] [(.ref b7)] _
    refine st17 _ ?_
    show SS p e below T17 m 32 #[iv p1, iv p2, iv p3, rv b1_b1, rv xb, rv b7] [(.int (1 : Int32))] _
    refine XS.ifNo X17.here hx rfl (hb hby at_32) rfl ((if0 _ _).trans (feq (by decide : ¬ ((1 : Int32) = (0 : Int32)))).1) ?_
    show SS p e below T17 m 35 #[iv p1, iv p2, iv p3, rv b1_b1, rv xb, rv b7] [] _
    refine XS.aload X17.here hx rfl (hb hby at_35) rfl rfl ?_
    show SS p e below T17 m 37 #[iv p1, iv p2, iv p3, rv b1_b1, rv xb, rv b7] [(.ref b7)] _
    refine st20 _ ?_
    show SS p e below T20 m 40 #[iv p1, iv p2, iv p3, rv b1_b1, rv xb, rv b7] [(.ref b1_b1)] _
    refine st22 _ ?_
    show SS p e below T22 m 43 #[iv p1, iv p2, iv p3, rv b1_b1, rv xb, rv b7] [(.ref b1_b1)] _
    refine st24 _ ?_
    show SS p e below T24 m 46 #[iv p1, iv p2, iv p3, rv b1_b1, rv xb, rv b7] [(.int p1)] _
    refine XS.iloadN X24.here hx rfl (hb hby at_46) rfl ?_
    show SS p e below T24 m 47 #[iv p1, iv p2, iv p3, rv b1_b1, rv xb, rv b7] [(.int p1), (.int p1)] _
    refine XS.icmpNo X24.here hx rfl (hb hby at_47) rfl (teq (rfl : p1 = p1)).2 ?_
    show SS p e below T24 m 50 #[iv p1, iv p2, iv p3, rv b1_b1, rv xb, rv b7] [] _
    refine XS.iconst X24.here hx rfl (hb hby at_50) ?_
    refine XS.goto X24.here hx rfl (pc0 := 51) (pc' := 55) rfl (hb hby at_51) (by decide) (by decide) ?_
    show SS p e below T24 m 55 #[iv p1, iv p2, iv p3, rv b1_b1, rv xb, rv b7] [(.int (1 : Int32))] _
    exact retN X24 hx (t := .boolean) hret (by simp) (hb hby at_55) hr
-- java/lang/Integer.valueOf(I)Ljava/lang/Integer;
def Q14_valueOf (Z : State) (p1 : Int32) (h0 : Heap) (n0 : Nat) (v : Option Value) (h : Heap) (L : List Loc) : Prop := ∃ (b2 : Addr), v = some (.ref b2) ∧ Fr n0 L ∧ Keep h0 h [] ∧ h0.size ≤ b2 ∧ EA13 Z h b2 ∧ FA10 Z h b2 (.int p1)
set_option maxRecDepth 65536 in
set_option maxHeartbeats 40000000 in
theorem rm14_valueOf (l : Launch) (Z : State) (a0 : Array Value) (hw : HW Z a0) (p1 : Int32) (h0 : Heap) (n0 : Nat) (O0 : Old Z n0 h0) (hc_0 : ¬ (p1 < (-128 : Int32))) (S_1 : SA16 Z Z.heap (.int (127 : Int32))) (hc_2 : (127 : Int32) < p1) :
    Met l Z [] Y2 jdk_33_method_22_code 1 (some (.object "java/lang/Integer")) ({ frames := 3, cells := 1, slots := 1, locals := 38 } : Room) #[(.int p1)] h0 (Q14_valueOf Z p1 h0 n0) := by
  have W := fun (i : Nat) {c : Jvm.Cond} (q : tables_1[i]? = some c) => hw c (List.mem_of_getElem? q)
  refine own_mk (plainFor_of_name pn_20) ?_
  intro p e s m below meth c s₁ hZ hx hby hml hown hnm hret hlk X0 e0
  have N0 := Fr.nil n0
  obtain ⟨T1, X1, e1, st1⟩ := getS2 X0 hx hZ hown (host := "") (Or.inl (W 4 rfl)) Via.refl e0 (S_1.ext O0.2) (g := (mkF m 7 #[iv p1] [(.int p1)])) rfl (hb hby d_86)
  obtain ⟨T2, h2, X2, e2, E2, A2, D2, -, st2⟩ := newO X1 hx hZ hown (W 60 rfl) (W 61 rfl) (W 2 rfl) e1 (g := (mkF m 23 #[iv p1] [])) rfl (hb hby d_3) (by decide) (by decide)
  obtain ⟨b2, g2⟩ : ∃ z, z = h0.size := ⟨_, rfl⟩
  rw [← g2] at A2 D2 st2
  have O3 := O0.ext E2
  have K4 : Keep h0 h2 [] := Keep.ext (Keep.refl h0 []) E2
  have g6 : n0 ≤ b2 := Nat.le_trans (Nat.le_trans (Nat.le_of_eq O0.1.symm) O0.2.1) (Nat.le_of_eq g2.symm)
  obtain ⟨_, T5, L5, X5, hQ5, st5⟩ := own_cp X2 hx hZ hown hml rfl (W 62 rfl) (W 63 rfl) (W 2 rfl) (W 64 rfl) (rm2_init l Z a0 hw b2 p1 h2 n0 O3 (A2) ((D2 (Or.inr (W 51 rfl)) (ty := .int) (by decide) : FA10 Z h2 b2 (.int (0 : Int32)))) (g6)) e2 (hb hby d_6) 1 #[iv p1] b2 [(.int p1)] [(.ref b2)] pd_21 (by decide) rfl rfl rfl (Nat.le_of_eq rfl)
  obtain ⟨rfl, N5q, K5, F5_0⟩ := hQ5
  have N7 := Fr.app N0 N5q
  have O8 := O3.keep K5 (allS g6 all0)
  have K9 : Keep h0 T5.heap [] := Keep.trans K4 K5 (allS (Or.inr (Nat.le_of_eq g2.symm)) all0)
  have f10 := (A2.keep K5)
  refine ⟨T5, some (.ref b2), _, _, _, X5, by decide, by decide, nofun, ?_, fun fs hr => castTop (ef_23 m p1) ?_⟩
  · show Q14_valueOf Z p1 h0 n0 _ T5.heap _
    exact ⟨b2, rfl, N7, K9, (Nat.le_of_eq g2.symm), f10, F5_0⟩
  · show SS p e below s₁ m 0 #[iv p1] [] _
    refine XS.iloadN X0.here hx rfl (hb hby d_0) rfl ?_
    refine XS.bipush X0.here hx rfl (hb hby d_1) ?_
    show SS p e below s₁ m 3 #[iv p1] [(.int (-128 : Int32)), (.int p1)] _
    refine XS.icmpNo X0.here hx rfl (hb hby d_2) rfl (flt hc_0).1 ?_
    show SS p e below s₁ m 6 #[iv p1] [] _
    refine XS.iloadN X0.here hx rfl (hb hby d_85) rfl ?_
    show SS p e below s₁ m 7 #[iv p1] [(.int p1)] _
    refine st1 _ ?_
    show SS p e below T1 m 10 #[iv p1] [(.int (127 : Int32)), (.int p1)] _
    refine XS.icmpYes X1.here hx rfl (pc0 := 10) (pc' := 23) rfl (hb hby d_87) rfl (tlt hc_2).2.2.1 (by decide) (by decide) ?_
    show SS p e below T1 m 23 #[iv p1] [] _
    refine st2 _ ?_
    show SS p e below T2 m 26 #[iv p1] [(.ref b2)] _
    refine XS.dup X2.here hx rfl (hb hby d_4) rfl rfl ?_
    refine XS.iloadN X2.here hx rfl (hb hby d_5) rfl ?_
    show SS p e below T2 m 28 #[iv p1] [(.int p1), (.ref b2), (.ref b2)] _
    refine st5 _ ?_
    show SS p e below T5 m 31 #[iv p1] [(.ref b2)] _
    exact retOut X5 hx hret rfl (Or.inr (Or.inr (Or.inr (Or.inr ⟨rfl, rfl, rfl⟩)))) (hb hby d_22) hr
set_option maxRecDepth 65536 in
set_option maxHeartbeats 40000000 in
theorem rm0_LH0 (l : Launch) (Z : State) (a0 : Array Value) (hw : HW Z a0) (ws : List Jvm.Cond) (p1 : Int32) (p2 : Int32) (p3 : Int32) (o_cache : Addr) (h0 : Heap) (n0 : Nat) (O0 : Old Z n0 h0) (S_c_high : SA16 Z Z.heap (.int (127 : Int32))) (S_o_cache : SA17 Z Z.heap (.ref o_cache)) (E_o_cache : EA15 Z Z.heap o_cache) (h1xa : p1 < (-128 : Int32)) (h1xb : ¬ (p2 < (-128 : Int32))) (h2xb : (127 : Int32) < p2) (hf : (p3 &&& (1 : Int32)) = (0 : Int32)) :
    MetW l Z ws x code maxLocals ret room_1 #[(.int p1), (.int p2), (.int p3)] h0 (fun v _ L => Q0 n0 v L) := by
  have W := fun (i : Nat) {c : Jvm.Cond} (q : tables_1[i]? = some c) => hw c (List.mem_of_getElem? q)
  refine own_mkW (plainFor_of_name pn_70) ?_
  intro p e s m below meth c s₁ hZ hx hby hml hown hnm hret hlk X0 e0
  have N0 := Fr.nil n0
  obtain ⟨_, T1, L1, X1, hQ1, st1⟩ := own_cs X0 hx hZ hown hml (W 0 rfl) (W 1 rfl) (W 2 rfl) (W 3 rfl) (rm3_valueOf l Z a0 hw p1 h0 n0 O0 (h1xa)) e0 (hb hby at_1) 0 #[iv p1, iv p2, iv p3, .unset, .unset, .unset] [(.int p1)] [] pd_24 (by decide) rfl rfl rfl (Nat.le_of_eq rfl)
  obtain ⟨b1_b1, rfl, N1q, K1, gb1_0, F1_0, F1_1⟩ := hQ1
  have N2 := Fr.app N0 N1q
  have O3 := O0.keep K1 all0
  have K4 : Keep h0 T1.heap [] := Keep.trans (Keep.refl h0 []) K1 all0
  obtain ⟨_, T5, L5, X5, hQ5, st5⟩ := own_cs X1 hx hZ hown hml (W 0 rfl) (W 1 rfl) (W 2 rfl) (W 3 rfl) (rm14_valueOf l Z a0 hw p2 T1.heap n0 O3 (h1xb) (S_c_high) (h2xb)) rfl (hb hby at_6) 0 #[iv p1, iv p2, iv p3, rv b1_b1, .unset, .unset] [(.int p2)] [] pd_24 (by decide) rfl rfl rfl (Nat.le_of_eq rfl)
  obtain ⟨b5_b2, rfl, N5q, K5, gb5_0, F5_0, F5_1⟩ := hQ5
  have N6 := Fr.app N2 N5q
  have O7 := O3.keep K5 all0
  have K8 : Keep h0 T5.heap [] := Keep.trans K4 K5 all0
  obtain ⟨T9, h9, X9, e9, E9, A9, D9, -, st9⟩ := newO X5 hx hZ hown (W 7 rfl) (W 8 rfl) (W 9 rfl) rfl (g := (mkF m 56 #[iv p1, iv p2, iv p3, rv b1_b1, rv b5_b2, .unset] [])) rfl (hb hby at_56) (by decide) (by decide)
  obtain ⟨b9, g9⟩ : ∃ z, z = T5.heap.size := ⟨_, rfl⟩
  rw [← g9] at A9 D9 st9
  have O10 := O7.ext E9
  have K11 : Keep h0 h9 [] := Keep.ext K8 E9
  have z13 : h0.size ≤ T1.heap.size := K1.1
  have z14 : h0.size ≤ T5.heap.size := (Nat.le_trans z13 K5.1)
  have g15 : n0 ≤ b9 := Nat.le_trans (Nat.le_trans (Nat.le_trans (Nat.le_of_eq O0.1.symm) O0.2.1) z14) (Nat.le_of_eq g9.symm)
  have X16 := (show Stand p l e _ (s.setVm s.vm) m _ below meth c _ _ _ _ from X9)
  obtain ⟨_, _, ⟨T12, L12, k12, n12⟩, -, Y12, hs12, hg12, ⟨Lc12, hQ12, l12, y12, z12⟩, st12⟩ := X16.specialBackS hx (y := Y4) rfl hown (mvT hZ (W 10 rfl)) (mvT hZ (W 11 rfl)) (mvT hZ (W 12 rfl)) (by decide) (backOfS (W := 1) (rm5_init l Z a0 hw b9 b1_b1 b5_b2 h9 n0 O10 (A9) ((D9 (Or.inr (W 29 rfl)) (ty := (.object "java/lang/Object")) (by decide) : FA11 Z h9 b9 .null)) (g15) ((D9 (Or.inr (W 32 rfl)) (ty := (.object "java/lang/Object")) (by decide) : FA12 Z h9 b9 .null))) hZ (W 12 rfl) (W 9 rfl) (by decide) (by decide)) (g := (mkF m 63 #[iv p1, iv p2, iv p3, rv b1_b1, rv b5_b2, .unset] [(.ref b5_b2), (.ref b1_b1), (.ref b9), (.ref b9)])) rfl (by rw [hml]; rfl) (Steps.refl _) (a := b9) (argsL := [(.ref b1_b1), (.ref b5_b2)]) (rest := [(.ref b9)]) (lenOf pd_48 rfl) rfl (by show 2 * 0 + _ ≤ _; exact Nat.le_of_eq rfl) (hb hby at_63) (fun _ _ => ⟨rfl, e9, (by decide : 3 + 4 ≤ _), (by decide : 4 + 36 ≤ _)⟩)
  dsimp only [Pt.U, Pt.locs, Pt.cells, Pt.slots] at Y12 l12 y12 z12 st12 hQ12 hs12 hg12
  subst l12 y12 z12
  obtain ⟨X12, hS12, hZ12, hown12⟩ := rebS (s := s) (vm0 := s.vm) ((State.WarmedH.refl s).since 0) (Nat.zero_le _) Y12 hs12 hg12 hZ hown
  obtain ⟨rfl, N12q, K12, F12_0, F12_1⟩ := hQ12
  have N17 := Fr.app N6 N12q
  have O18 := O10.keep K12 (allS g15 all0)
  have K19 : Keep h0 T12.heap [] := Keep.trans K11 K12 (allS (Or.inr (Nat.le_trans z14 (Nat.le_of_eq g9.symm))) all0)
  have f21 := (A9.keep K12)
  obtain ⟨_, T20, L20, X20, hQ20, st20⟩ := own_cv X12 hx hZ12 hown12 hml (W 33 rfl) (W 34 rfl) (notFace_of_selects (W 36 rfl)) (W 36 rfl) (W 35 rfl) (W 9 rfl) (W 37 rfl) (rm6_isOpenAtTop l Z a0 hw b9 b5_b2 T12.heap n0 O18 (F12_1)) rfl f21 (hb hby at_70) 0 #[iv p1, iv p2, iv p3, rv b1_b1, rv b5_b2, rv b9] [] [] pd_54 (by decide) rfl rfl rfl (Nat.le_of_eq rfl)
  obtain ⟨rfl, N20q, K20⟩ := hQ20
  have N22 := Fr.app N17 N20q
  obtain ⟨_, T23, L23, X23, hQ23, st23⟩ := own_cv X20 hx hZ12 hown12 hml (W 38 rfl) (W 39 rfl) (notFace_of_selects (W 41 rfl)) (W 41 rfl) (W 40 rfl) (W 9 rfl) (W 42 rfl) (rm7_getLow l Z a0 hw b9 b1_b1 T12.heap n0 O18 (F12_0)) K20 f21 (hb hby at_78) 0 #[iv p1, iv p2, iv p3, rv b1_b1, rv b5_b2, rv b9] [] [] pd_58 (by decide) rfl rfl rfl (Nat.le_of_eq rfl)
  obtain ⟨rfl, N23q, K23⟩ := hQ23
  have N24 := Fr.app N22 N23q
  have f26 := (((F1_0.keep K5).ext E9).keep K12)
  obtain ⟨T25, X25, e25, st25⟩ := castY X23 hx hZ12 hown12 (W 43 rfl) K23 (Ins.self f26) (g := (mkF m 81 #[iv p1, iv p2, iv p3, rv b1_b1, rv b5_b2, rv b9] [(.ref b1_b1)])) rfl rfl (hb hby at_81)
  have z28 : T1.heap.size ≤ T5.heap.size := K5.1
  have f29 := (((F1_1.keep K5 nin0).ext E9).keep K12 (ninS (Nat.ne_of_lt (Nat.lt_of_lt_of_le (Nat.lt_of_lt_of_le F1_0.lt z28) (Nat.le_of_eq g9.symm))) nin0))
  obtain ⟨_, T27, L27, X27, hQ27, st27⟩ := own_cv X25 hx hZ12 hown12 hml (W 45 rfl) (W 46 rfl) (notFace_of_selects (W 48 rfl)) (W 48 rfl) (W 47 rfl) (W 2 rfl) (W 49 rfl) (rm8_intValue l Z a0 hw b1_b1 p1 T12.heap n0 O18 (f29)) e25 f26 (hb hby at_84) 0 #[iv p1, iv p2, iv p3, rv b1_b1, rv b5_b2, rv b9] [] [] pd_62 (by decide) rfl rfl rfl (Nat.le_of_eq rfl)
  obtain ⟨rfl, N27q, K27⟩ := hQ27
  have N30 := Fr.app N24 N27q
  obtain ⟨_, T31, L31, X31, hQ31, st31⟩ := own_cv X27 hx hZ12 hown12 hml (W 52 rfl) (W 53 rfl) (notFace_of_selects (W 55 rfl)) (W 55 rfl) (W 54 rfl) (W 9 rfl) (W 56 rfl) (rm9_getHigh l Z a0 hw b9 b5_b2 T12.heap n0 O18 (F12_1)) K27 f21 (hb hby at_93) 0 #[iv p1, iv p2, iv p3, rv b1_b1, rv b5_b2, rv b9] [] [] pd_58 (by decide) rfl rfl rfl (Nat.le_of_eq rfl)
  obtain ⟨rfl, N31q, K31⟩ := hQ31
  have N32 := Fr.app N30 N31q
  have f34 := ((F5_0.ext E9).keep K12)
  obtain ⟨T33, X33, e33, st33⟩ := castY X31 hx hZ12 hown12 (W 43 rfl) K31 (Ins.self f34) (g := (mkF m 96 #[iv p1, iv p2, iv p3, rv b1_b1, rv b5_b2, rv b9] [(.ref b5_b2)])) rfl rfl (hb hby at_96)
  have f36 := ((F5_1.ext E9).keep K12 (ninS (Nat.ne_of_lt (Nat.lt_of_lt_of_le F5_0.lt (Nat.le_of_eq g9.symm))) nin0))
  obtain ⟨_, T35, L35, X35, hQ35, st35⟩ := own_cv X33 hx hZ12 hown12 hml (W 45 rfl) (W 46 rfl) (notFace_of_selects (W 48 rfl)) (W 48 rfl) (W 47 rfl) (W 2 rfl) (W 49 rfl) (rm8_intValue l Z a0 hw b5_b2 p2 T12.heap n0 O18 (f36)) e33 f34 (hb hby at_99) 0 #[iv p1, iv p2, iv p3, rv b1_b1, rv b5_b2, rv b9] [] [] pd_62 (by decide) rfl rfl rfl (Nat.le_of_eq rfl)
  obtain ⟨rfl, N35q, K35⟩ := hQ35
  have N37 := Fr.app N32 N35q
  refine ⟨T35, some (.int (1 : Int32)), _, _, _, T12.vm, _, X35, hS12, (by rw [K35]; exact (Nat.le_refl _)), by decide, by decide, nofun, ?_, fun fs hr => castTop (ef_69 m p1 p2 p3) ?_⟩
  · exact ⟨rfl, N37⟩
  · show SS p e below s₁ m 0 #[iv p1, iv p2, iv p3, .unset, .unset, .unset] [] _
    refine XS.iloadN X0.here hx rfl (hb hby at_0) rfl ?_
    show SS p e below s₁ m 1 #[iv p1, iv p2, iv p3, .unset, .unset, .unset] [(.int p1)] _
    refine st1 _ ?_
    show SS p e below T1 m 4 #[iv p1, iv p2, iv p3, .unset, .unset, .unset] [(.ref b1_b1)] _
    refine XS.astoreN X1.here hx rfl (hb hby at_4) rfl rfl (l' := #[iv p1, iv p2, iv p3, rv b1_b1, .unset, .unset]) rfl ?_
    show SS p e below T1 m 5 #[iv p1, iv p2, iv p3, rv b1_b1, .unset, .unset] [] _
    refine XS.iloadN X1.here hx rfl (hb hby at_5) rfl ?_
    show SS p e below T1 m 6 #[iv p1, iv p2, iv p3, rv b1_b1, .unset, .unset] [(.int p2)] _
    refine st5 _ ?_
    show SS p e below T5 m 9 #[iv p1, iv p2, iv p3, rv b1_b1, .unset, .unset] [(.ref b5_b2)] _
    refine XS.astore X5.here hx rfl (hb hby at_9) rfl rfl (l' := #[iv p1, iv p2, iv p3, rv b1_b1, rv b5_b2, .unset]) rfl ?_
    show SS p e below T5 m 11 #[iv p1, iv p2, iv p3, rv b1_b1, rv b5_b2, .unset] [] _
    refine XS.iloadN X5.here hx rfl (hb hby at_11) rfl ?_
    refine XS.iconst X5.here hx rfl (hb hby at_12) ?_
    show SS p e below T5 m 13 #[iv p1, iv p2, iv p3, rv b1_b1, rv b5_b2, .unset] [(.int (1 : Int32)), (.int p3)] _
    refine XS.iand X5.here hx rfl (hb hby at_13) rfl ?_
    rw [hf]
    show SS p e below T5 m 14 #[iv p1, iv p2, iv p3, rv b1_b1, rv b5_b2, .unset] [(.int (0 : Int32))] _
    refine XS.ifYes X5.here hx rfl (pc0 := 14) (pc' := 56) rfl (hb hby at_14) rfl ((if0 _ _).trans (teq (by decide : (0 : Int32) = (0 : Int32))).1) (by decide) (by decide) ?_
    show SS p e below T5 m 56 #[iv p1, iv p2, iv p3, rv b1_b1, rv b5_b2, .unset] [] _
    refine st9 _ ?_
    show SS p e below T9 m 59 #[iv p1, iv p2, iv p3, rv b1_b1, rv b5_b2, .unset] [(.ref b9)] _
    refine XS.dup X9.here hx rfl (hb hby at_59) rfl rfl ?_
    refine XS.aloadN X9.here hx rfl (hb hby at_60) rfl rfl ?_
    refine XS.aload X9.here hx rfl (hb hby at_61) rfl rfl ?_
    show SS p e below T9 m 63 #[iv p1, iv p2, iv p3, rv b1_b1, rv b5_b2, .unset] [(.ref b5_b2), (.ref b1_b1), (.ref b9), (.ref b9)] _
    refine st12.trans ?_
    show SS p e below T12 m 66 #[iv p1, iv p2, iv p3, rv b1_b1, rv b5_b2, .unset] [(.ref b9)] _
    refine XS.astore X12.here hx rfl (hb hby at_66) rfl rfl (l' := #[iv p1, iv p2, iv p3, rv b1_b1, rv b5_b2, rv b9]) rfl ?_
    show SS p e below T12 m 68 #[iv p1, iv p2, iv p3, rv b1_b1, rv b5_b2, rv b9] [] _
    refine XS.aload X12.here hx rfl (hb hby at_68) rfl rfl ?_
    show SS p e below T12 m 70 #[iv p1, iv p2, iv p3, rv b1_b1, rv b5_b2, rv b9] [(.ref b9)] _
    refine st20 _ ?_
    show SS p e below T20 m 73 #[iv p1, iv p2, iv p3, rv b1_b1, rv b5_b2, rv b9] [(.int (0 : Int32))] _
    refine XS.ifNo X20.here hx rfl (hb hby at_73) rfl ((if0 _ _).trans (teq (by decide : (0 : Int32) = (0 : Int32))).2) ?_
    show SS p e below T20 m 76 #[iv p1, iv p2, iv p3, rv b1_b1, rv b5_b2, rv b9] [] _
    refine XS.aload X20.here hx rfl (hb hby at_76) rfl rfl ?_
    show SS p e below T20 m 78 #[iv p1, iv p2, iv p3, rv b1_b1, rv b5_b2, rv b9] [(.ref b9)] _
    refine st23 _ ?_
    show SS p e below T23 m 81 #[iv p1, iv p2, iv p3, rv b1_b1, rv b5_b2, rv b9] [(.ref b1_b1)] _
    refine st25 _ ?_
    show SS p e below T25 m 84 #[iv p1, iv p2, iv p3, rv b1_b1, rv b5_b2, rv b9] [(.ref b1_b1)] _
    refine st27 _ ?_
    show SS p e below T27 m 87 #[iv p1, iv p2, iv p3, rv b1_b1, rv b5_b2, rv b9] [(.int p1)] _
    refine XS.iloadN X27.here hx rfl (hb hby at_87) rfl ?_
    show SS p e below T27 m 88 #[iv p1, iv p2, iv p3, rv b1_b1, rv b5_b2, rv b9] [(.int p1), (.int p1)] _
    refine XS.icmpNo X27.here hx rfl (hb hby at_88) rfl (teq (rfl : p1 = p1)).2 ?_
    show SS p e below T27 m 91 #[iv p1, iv p2, iv p3, rv b1_b1, rv b5_b2, rv b9] [] _
    refine XS.aload X27.here hx rfl (hb hby at_91) rfl rfl ?_
    show SS p e below T27 m 93 #[iv p1, iv p2, iv p3, rv b1_b1, rv b5_b2, rv b9] [(.ref b9)] _
    refine st31 _ ?_
    show SS p e below T31 m 96 #[iv p1, iv p2, iv p3, rv b1_b1, rv b5_b2, rv b9] [(.ref b5_b2)] _
    refine st33 _ ?_
    show SS p e below T33 m 99 #[iv p1, iv p2, iv p3, rv b1_b1, rv b5_b2, rv b9] [(.ref b5_b2)] _
    refine st35 _ ?_
    show SS p e below T35 m 102 #[iv p1, iv p2, iv p3, rv b1_b1, rv b5_b2, rv b9] [(.int p2)] _
    refine XS.iloadN X35.here hx rfl (hb hby at_102) rfl ?_
    show SS p e below T35 m 103 #[iv p1, iv p2, iv p3, rv b1_b1, rv b5_b2, rv b9] [(.int p2), (.int p2)] _
    refine XS.icmpNo X35.here hx rfl (hb hby at_103) rfl (teq (rfl : p2 = p2)).2 ?_
    show SS p e below T35 m 106 #[iv p1, iv p2, iv p3, rv b1_b1, rv b5_b2, rv b9] [] _
    refine XS.iconst X35.here hx rfl (hb hby at_106) ?_
    refine XS.goto X35.here hx rfl (pc0 := 107) (pc' := 111) rfl (hb hby at_107) (by decide) (by decide) ?_
    show SS p e below T35 m 111 #[iv p1, iv p2, iv p3, rv b1_b1, rv b5_b2, rv b9] [(.int (1 : Int32))] _
    exact retN X35 hx (t := .boolean) hret (by simp) (hb hby at_111) hr
set_option maxRecDepth 65536 in
set_option maxHeartbeats 40000000 in
theorem rm0_LH1 (l : Launch) (Z : State) (a0 : Array Value) (hw : HW Z a0) (ws : List Jvm.Cond) (p1 : Int32) (p2 : Int32) (p3 : Int32) (o_cache : Addr) (h0 : Heap) (n0 : Nat) (O0 : Old Z n0 h0) (S_c_high : SA16 Z Z.heap (.int (127 : Int32))) (S_o_cache : SA17 Z Z.heap (.ref o_cache)) (E_o_cache : EA15 Z Z.heap o_cache) (h1xa : p1 < (-128 : Int32)) (h1xb : ¬ (p2 < (-128 : Int32))) (h2xb : (127 : Int32) < p2) (hf : (p3 &&& (1 : Int32)) = (1 : Int32)) :
    MetW l Z ws x code maxLocals ret room_1 #[(.int p1), (.int p2), (.int p3)] h0 (fun v _ L => Q0 n0 v L) := by
  have W := fun (i : Nat) {c : Jvm.Cond} (q : tables_1[i]? = some c) => hw c (List.mem_of_getElem? q)
  refine own_mkW (plainFor_of_name pn_70) ?_
  intro p e s m below meth c s₁ hZ hx hby hml hown hnm hret hlk X0 e0
  have N0 := Fr.nil n0
  obtain ⟨_, T1, L1, X1, hQ1, st1⟩ := own_cs X0 hx hZ hown hml (W 0 rfl) (W 1 rfl) (W 2 rfl) (W 3 rfl) (rm3_valueOf l Z a0 hw p1 h0 n0 O0 (h1xa)) e0 (hb hby at_1) 0 #[iv p1, iv p2, iv p3, .unset, .unset, .unset] [(.int p1)] [] pd_24 (by decide) rfl rfl rfl (Nat.le_of_eq rfl)
  obtain ⟨b1_b1, rfl, N1q, K1, gb1_0, F1_0, F1_1⟩ := hQ1
  have N2 := Fr.app N0 N1q
  have O3 := O0.keep K1 all0
  have K4 : Keep h0 T1.heap [] := Keep.trans (Keep.refl h0 []) K1 all0
  obtain ⟨_, T5, L5, X5, hQ5, st5⟩ := own_cs X1 hx hZ hown hml (W 0 rfl) (W 1 rfl) (W 2 rfl) (W 3 rfl) (rm14_valueOf l Z a0 hw p2 T1.heap n0 O3 (h1xb) (S_c_high) (h2xb)) rfl (hb hby at_6) 0 #[iv p1, iv p2, iv p3, rv b1_b1, .unset, .unset] [(.int p2)] [] pd_24 (by decide) rfl rfl rfl (Nat.le_of_eq rfl)
  obtain ⟨b5_b2, rfl, N5q, K5, gb5_0, F5_0, F5_1⟩ := hQ5
  have N6 := Fr.app N2 N5q
  have O7 := O3.keep K5 all0
  have K8 : Keep h0 T5.heap [] := Keep.trans K4 K5 all0
  obtain ⟨T9, h9, X9, e9, E9, A9, D9, -, st9⟩ := newO X5 hx hZ hown (W 7 rfl) (W 8 rfl) (W 9 rfl) rfl (g := (mkF m 17 #[iv p1, iv p2, iv p3, rv b1_b1, rv b5_b2, .unset] [])) rfl (hb hby at_17) (by decide) (by decide)
  obtain ⟨b9, g9⟩ : ∃ z, z = T5.heap.size := ⟨_, rfl⟩
  rw [← g9] at A9 D9 st9
  have O10 := O7.ext E9
  have K11 : Keep h0 h9 [] := Keep.ext K8 E9
  have z13 : h0.size ≤ T1.heap.size := K1.1
  have z14 : h0.size ≤ T5.heap.size := (Nat.le_trans z13 K5.1)
  have g15 : n0 ≤ b9 := Nat.le_trans (Nat.le_trans (Nat.le_trans (Nat.le_of_eq O0.1.symm) O0.2.1) z14) (Nat.le_of_eq g9.symm)
  have X16 := (show Stand p l e _ (s.setVm s.vm) m _ below meth c _ _ _ _ from X9)
  obtain ⟨_, _, ⟨T12, L12, k12, n12⟩, -, Y12, hs12, hg12, ⟨Lc12, hQ12, l12, y12, z12⟩, st12⟩ := X16.specialBackS hx (y := Y9) rfl hown (mvT hZ (W 57 rfl)) (mvT hZ (W 58 rfl)) (mvT hZ (W 59 rfl)) (by decide) (backOfS (W := 1) (rm10_init l Z a0 hw b9 b1_b1 h9 n0 O10 (A9) ((D9 (Or.inr (W 29 rfl)) (ty := (.object "java/lang/Object")) (by decide) : FA11 Z h9 b9 .null)) (g15) ((D9 (Or.inr (W 32 rfl)) (ty := (.object "java/lang/Object")) (by decide) : FA12 Z h9 b9 .null))) hZ (W 59 rfl) (W 9 rfl) (by decide) (by decide)) (g := (mkF m 22 #[iv p1, iv p2, iv p3, rv b1_b1, rv b5_b2, .unset] [(.ref b1_b1), (.ref b9), (.ref b9)])) rfl (by rw [hml]; rfl) (Steps.refl _) (a := b9) (argsL := [(.ref b1_b1)]) (rest := [(.ref b9)]) (lenOf pd_82 rfl) rfl (by show 2 * 0 + _ ≤ _; exact Nat.le_of_eq rfl) (hb hby at_22) (fun _ _ => ⟨rfl, e9, (by decide : 3 + 2 ≤ _), (by decide : 4 + 16 ≤ _)⟩)
  dsimp only [Pt.U, Pt.locs, Pt.cells, Pt.slots] at Y12 l12 y12 z12 st12 hQ12 hs12 hg12
  subst l12 y12 z12
  obtain ⟨X12, hS12, hZ12, hown12⟩ := rebS (s := s) (vm0 := s.vm) ((State.WarmedH.refl s).since 0) (Nat.zero_le _) Y12 hs12 hg12 hZ hown
  obtain ⟨rfl, N12q, K12, F12_0, F12_1⟩ := hQ12
  have N17 := Fr.app N6 N12q
  have O18 := O10.keep K12 (allS g15 all0)
  have K19 : Keep h0 T12.heap [] := Keep.trans K11 K12 (allS (Or.inr (Nat.le_trans z14 (Nat.le_of_eq g9.symm))) all0)
  have f21 := (A9.keep K12)
  obtain ⟨_, T20, L20, X20, hQ20, st20⟩ := own_cv X12 hx hZ12 hown12 hml (W 33 rfl) (W 34 rfl) (notFace_of_selects (W 36 rfl)) (W 36 rfl) (W 35 rfl) (W 9 rfl) (W 37 rfl) (rm11_isOpenAtTop l Z a0 hw b9 T12.heap n0 O18 (F12_1)) rfl f21 (hb hby at_29) 0 #[iv p1, iv p2, iv p3, rv b1_b1, rv b5_b2, rv b9] [] [] pd_54 (by decide) rfl rfl rfl (Nat.le_of_eq rfl)
  obtain ⟨rfl, N20q, K20⟩ := hQ20
  have N22 := Fr.app N17 N20q
  obtain ⟨_, T23, L23, X23, hQ23, st23⟩ := own_cv X20 hx hZ12 hown12 hml (W 38 rfl) (W 39 rfl) (notFace_of_selects (W 41 rfl)) (W 41 rfl) (W 40 rfl) (W 9 rfl) (W 42 rfl) (rm7_getLow l Z a0 hw b9 b1_b1 T12.heap n0 O18 (F12_0)) K20 f21 (hb hby at_37) 0 #[iv p1, iv p2, iv p3, rv b1_b1, rv b5_b2, rv b9] [] [] pd_58 (by decide) rfl rfl rfl (Nat.le_of_eq rfl)
  obtain ⟨rfl, N23q, K23⟩ := hQ23
  have N24 := Fr.app N22 N23q
  have f26 := (((F1_0.keep K5).ext E9).keep K12)
  obtain ⟨T25, X25, e25, st25⟩ := castY X23 hx hZ12 hown12 (W 43 rfl) K23 (Ins.self f26) (g := (mkF m 40 #[iv p1, iv p2, iv p3, rv b1_b1, rv b5_b2, rv b9] [(.ref b1_b1)])) rfl rfl (hb hby at_40)
  have z28 : T1.heap.size ≤ T5.heap.size := K5.1
  have f29 := (((F1_1.keep K5 nin0).ext E9).keep K12 (ninS (Nat.ne_of_lt (Nat.lt_of_lt_of_le (Nat.lt_of_lt_of_le F1_0.lt z28) (Nat.le_of_eq g9.symm))) nin0))
  obtain ⟨_, T27, L27, X27, hQ27, st27⟩ := own_cv X25 hx hZ12 hown12 hml (W 45 rfl) (W 46 rfl) (notFace_of_selects (W 48 rfl)) (W 48 rfl) (W 47 rfl) (W 2 rfl) (W 49 rfl) (rm8_intValue l Z a0 hw b1_b1 p1 T12.heap n0 O18 (f29)) e25 f26 (hb hby at_43) 0 #[iv p1, iv p2, iv p3, rv b1_b1, rv b5_b2, rv b9] [] [] pd_62 (by decide) rfl rfl rfl (Nat.le_of_eq rfl)
  obtain ⟨rfl, N27q, K27⟩ := hQ27
  have N30 := Fr.app N24 N27q
  refine ⟨T27, some (.int (1 : Int32)), _, _, _, T12.vm, _, X27, hS12, (by rw [K27]; exact (Nat.le_refl _)), by decide, by decide, nofun, ?_, fun fs hr => castTop (ef_69 m p1 p2 p3) ?_⟩
  · exact ⟨rfl, N30⟩
  · show SS p e below s₁ m 0 #[iv p1, iv p2, iv p3, .unset, .unset, .unset] [] _
    refine XS.iloadN X0.here hx rfl (hb hby at_0) rfl ?_
    show SS p e below s₁ m 1 #[iv p1, iv p2, iv p3, .unset, .unset, .unset] [(.int p1)] _
    refine st1 _ ?_
    show SS p e below T1 m 4 #[iv p1, iv p2, iv p3, .unset, .unset, .unset] [(.ref b1_b1)] _
    refine XS.astoreN X1.here hx rfl (hb hby at_4) rfl rfl (l' := #[iv p1, iv p2, iv p3, rv b1_b1, .unset, .unset]) rfl ?_
    show SS p e below T1 m 5 #[iv p1, iv p2, iv p3, rv b1_b1, .unset, .unset] [] _
    refine XS.iloadN X1.here hx rfl (hb hby at_5) rfl ?_
    show SS p e below T1 m 6 #[iv p1, iv p2, iv p3, rv b1_b1, .unset, .unset] [(.int p2)] _
    refine st5 _ ?_
    show SS p e below T5 m 9 #[iv p1, iv p2, iv p3, rv b1_b1, .unset, .unset] [(.ref b5_b2)] _
    refine XS.astore X5.here hx rfl (hb hby at_9) rfl rfl (l' := #[iv p1, iv p2, iv p3, rv b1_b1, rv b5_b2, .unset]) rfl ?_
    show SS p e below T5 m 11 #[iv p1, iv p2, iv p3, rv b1_b1, rv b5_b2, .unset] [] _
    refine XS.iloadN X5.here hx rfl (hb hby at_11) rfl ?_
    refine XS.iconst X5.here hx rfl (hb hby at_12) ?_
    show SS p e below T5 m 13 #[iv p1, iv p2, iv p3, rv b1_b1, rv b5_b2, .unset] [(.int (1 : Int32)), (.int p3)] _
    refine XS.iand X5.here hx rfl (hb hby at_13) rfl ?_
    rw [hf]
    show SS p e below T5 m 14 #[iv p1, iv p2, iv p3, rv b1_b1, rv b5_b2, .unset] [(.int (1 : Int32))] _
    refine XS.ifNo X5.here hx rfl (hb hby at_14) rfl ((if0 _ _).trans (feq (by decide : ¬ ((1 : Int32) = (0 : Int32)))).1) ?_
    show SS p e below T5 m 17 #[iv p1, iv p2, iv p3, rv b1_b1, rv b5_b2, .unset] [] _
    refine st9 _ ?_
    show SS p e below T9 m 20 #[iv p1, iv p2, iv p3, rv b1_b1, rv b5_b2, .unset] [(.ref b9)] _
    refine XS.dup X9.here hx rfl (hb hby at_20) rfl rfl ?_
    refine XS.aloadN X9.here hx rfl (hb hby at_21) rfl rfl ?_
    show SS p e below T9 m 22 #[iv p1, iv p2, iv p3, rv b1_b1, rv b5_b2, .unset] [(.ref b1_b1), (.ref b9), (.ref b9)] _
    refine st12.trans ?_
    show SS p e below T12 m 25 #[iv p1, iv p2, iv p3, rv b1_b1, rv b5_b2, .unset] [(.ref b9)] _
    refine XS.astore X12.here hx rfl (hb hby at_25) rfl rfl (l' := #[iv p1, iv p2, iv p3, rv b1_b1, rv b5_b2, rv b9]) rfl ?_
    show SS p e below T12 m 27 #[iv p1, iv p2, iv p3, rv b1_b1, rv b5_b2, rv b9] [] _
    refine XS.aload X12.here hx rfl (hb hby at_27) rfl rfl ?_
    show SS p e below T12 m 29 #[iv p1, iv p2, iv p3, rv b1_b1, rv b5_b2, rv b9] [(.ref b9)] _
    refine st20 _ ?_
    show SS p e below T20 m 32 #[iv p1, iv p2, iv p3, rv b1_b1, rv b5_b2, rv b9] [(.int (1 : Int32))] _
    refine XS.ifNo X20.here hx rfl (hb hby at_32) rfl ((if0 _ _).trans (feq (by decide : ¬ ((1 : Int32) = (0 : Int32)))).1) ?_
    show SS p e below T20 m 35 #[iv p1, iv p2, iv p3, rv b1_b1, rv b5_b2, rv b9] [] _
    refine XS.aload X20.here hx rfl (hb hby at_35) rfl rfl ?_
    show SS p e below T20 m 37 #[iv p1, iv p2, iv p3, rv b1_b1, rv b5_b2, rv b9] [(.ref b9)] _
    refine st23 _ ?_
    show SS p e below T23 m 40 #[iv p1, iv p2, iv p3, rv b1_b1, rv b5_b2, rv b9] [(.ref b1_b1)] _
    refine st25 _ ?_
    show SS p e below T25 m 43 #[iv p1, iv p2, iv p3, rv b1_b1, rv b5_b2, rv b9] [(.ref b1_b1)] _
    refine st27 _ ?_
    show SS p e below T27 m 46 #[iv p1, iv p2, iv p3, rv b1_b1, rv b5_b2, rv b9] [(.int p1)] _
    refine XS.iloadN X27.here hx rfl (hb hby at_46) rfl ?_
    show SS p e below T27 m 47 #[iv p1, iv p2, iv p3, rv b1_b1, rv b5_b2, rv b9] [(.int p1), (.int p1)] _
    refine XS.icmpNo X27.here hx rfl (hb hby at_47) rfl (teq (rfl : p1 = p1)).2 ?_
    show SS p e below T27 m 50 #[iv p1, iv p2, iv p3, rv b1_b1, rv b5_b2, rv b9] [] _
    refine XS.iconst X27.here hx rfl (hb hby at_50) ?_
    refine XS.goto X27.here hx rfl (pc0 := 51) (pc' := 55) rfl (hb hby at_51) (by decide) (by decide) ?_
    show SS p e below T27 m 55 #[iv p1, iv p2, iv p3, rv b1_b1, rv b5_b2, rv b9] [(.int (1 : Int32))] _
    exact retN X27 hx (t := .boolean) hret (by simp) (hb hby at_55) hr
set_option maxRecDepth 65536 in
set_option maxHeartbeats 40000000 in
theorem rm0_CL0 (l : Launch) (Z : State) (a0 : Array Value) (hw : HW Z a0) (ws : List Jvm.Cond) (p1 : Int32) (p2 : Int32) (p3 : Int32) (o_cache : Addr) (xa : Addr) (h0 : Heap) (n0 : Nat) (O0 : Old Z n0 h0) (S_c_high : SA16 Z Z.heap (.int (127 : Int32))) (S_o_cache : SA17 Z Z.heap (.ref o_cache)) (E_o_cache : EA15 Z Z.heap o_cache) (E_xa : EA13 Z Z.heap xa) (F_xa : FA10 Z Z.heap xa (.int p1)) (Et_xa : Elt Z Z.heap o_cache (.object "java/lang/Integer") (p1 + (128 : Int32)) (.ref xa)) (h1xa : ¬ (p1 < (-128 : Int32))) (h2xa : ¬ ((127 : Int32) < p1)) (h1xb : p2 < (-128 : Int32)) (hf : (p3 &&& (1 : Int32)) = (0 : Int32)) :
    MetW l Z ws x code maxLocals ret room_1 #[(.int p1), (.int p2), (.int p3)] h0 (fun v _ L => Q0 n0 v L) := by
  have W := fun (i : Nat) {c : Jvm.Cond} (q : tables_1[i]? = some c) => hw c (List.mem_of_getElem? q)
  refine own_mkW (plainFor_of_name pn_70) ?_
  intro p e s m below meth c s₁ hZ hx hby hml hown hnm hret hlk X0 e0
  have N0 := Fr.nil n0
  obtain ⟨_, T1, L1, X1, hQ1, st1⟩ := own_cs X0 hx hZ hown hml (W 0 rfl) (W 1 rfl) (W 2 rfl) (W 3 rfl) (rm12_valueOf l Z a0 hw p1 o_cache xa h0 n0 O0 (h1xa) (S_c_high) (h2xa) (S_o_cache) (Et_xa)) e0 (hb hby at_1) 0 #[iv p1, iv p2, iv p3, .unset, .unset, .unset] [(.int p1)] [] pd_24 (by decide) rfl rfl rfl (Nat.le_of_eq rfl)
  obtain ⟨rfl, N1q, K1⟩ := hQ1
  have N2 := Fr.app N0 N1q
  obtain ⟨_, T3, L3, X3, hQ3, st3⟩ := own_cs X1 hx hZ hown hml (W 0 rfl) (W 1 rfl) (W 2 rfl) (W 3 rfl) (rm3_valueOf l Z a0 hw p2 h0 n0 O0 (h1xb)) K1 (hb hby at_6) 0 #[iv p1, iv p2, iv p3, rv xa, .unset, .unset] [(.int p2)] [] pd_24 (by decide) rfl rfl rfl (Nat.le_of_eq rfl)
  obtain ⟨b3_b1, rfl, N3q, K3, gb3_0, F3_0, F3_1⟩ := hQ3
  have N4 := Fr.app N2 N3q
  have O5 := O0.keep K3 all0
  have K6 : Keep h0 T3.heap [] := Keep.trans (Keep.refl h0 []) K3 all0
  obtain ⟨T7, h7, X7, e7, E7, A7, D7, -, st7⟩ := newO X3 hx hZ hown (W 7 rfl) (W 8 rfl) (W 9 rfl) rfl (g := (mkF m 56 #[iv p1, iv p2, iv p3, rv xa, rv b3_b1, .unset] [])) rfl (hb hby at_56) (by decide) (by decide)
  obtain ⟨b7, g7⟩ : ∃ z, z = T3.heap.size := ⟨_, rfl⟩
  rw [← g7] at A7 D7 st7
  have O8 := O5.ext E7
  have K9 : Keep h0 h7 [] := Keep.ext K6 E7
  have z11 : h0.size ≤ T3.heap.size := K3.1
  have g12 : n0 ≤ b7 := Nat.le_trans (Nat.le_trans (Nat.le_trans (Nat.le_of_eq O0.1.symm) O0.2.1) z11) (Nat.le_of_eq g7.symm)
  have X13 := (show Stand p l e _ (s.setVm s.vm) m _ below meth c _ _ _ _ from X7)
  obtain ⟨_, _, ⟨T10, L10, k10, n10⟩, -, Y10, hs10, hg10, ⟨Lc10, hQ10, l10, y10, z10⟩, st10⟩ := X13.specialBackS hx (y := Y4) rfl hown (mvT hZ (W 10 rfl)) (mvT hZ (W 11 rfl)) (mvT hZ (W 12 rfl)) (by decide) (backOfS (W := 1) (rm5_init l Z a0 hw b7 xa b3_b1 h7 n0 O8 (A7) ((D7 (Or.inr (W 29 rfl)) (ty := (.object "java/lang/Object")) (by decide) : FA11 Z h7 b7 .null)) (g12) ((D7 (Or.inr (W 32 rfl)) (ty := (.object "java/lang/Object")) (by decide) : FA12 Z h7 b7 .null))) hZ (W 12 rfl) (W 9 rfl) (by decide) (by decide)) (g := (mkF m 63 #[iv p1, iv p2, iv p3, rv xa, rv b3_b1, .unset] [(.ref b3_b1), (.ref xa), (.ref b7), (.ref b7)])) rfl (by rw [hml]; rfl) (Steps.refl _) (a := b7) (argsL := [(.ref xa), (.ref b3_b1)]) (rest := [(.ref b7)]) (lenOf pd_48 rfl) rfl (by show 2 * 0 + _ ≤ _; exact Nat.le_of_eq rfl) (hb hby at_63) (fun _ _ => ⟨rfl, e7, (by decide : 2 + 4 ≤ _), (by decide : 3 + 36 ≤ _)⟩)
  dsimp only [Pt.U, Pt.locs, Pt.cells, Pt.slots] at Y10 l10 y10 z10 st10 hQ10 hs10 hg10
  subst l10 y10 z10
  obtain ⟨X10, hS10, hZ10, hown10⟩ := rebS (s := s) (vm0 := s.vm) ((State.WarmedH.refl s).since 0) (Nat.zero_le _) Y10 hs10 hg10 hZ hown
  obtain ⟨rfl, N10q, K10, F10_0, F10_1⟩ := hQ10
  have N14 := Fr.app N4 N10q
  have O15 := O8.keep K10 (allS g12 all0)
  have K16 : Keep h0 T10.heap [] := Keep.trans K9 K10 (allS (Or.inr (Nat.le_trans z11 (Nat.le_of_eq g7.symm))) all0)
  have f18 := (A7.keep K10)
  obtain ⟨_, T17, L17, X17, hQ17, st17⟩ := own_cv X10 hx hZ10 hown10 hml (W 33 rfl) (W 34 rfl) (notFace_of_selects (W 36 rfl)) (W 36 rfl) (W 35 rfl) (W 9 rfl) (W 37 rfl) (rm6_isOpenAtTop l Z a0 hw b7 b3_b1 T10.heap n0 O15 (F10_1)) rfl f18 (hb hby at_70) 0 #[iv p1, iv p2, iv p3, rv xa, rv b3_b1, rv b7] [] [] pd_54 (by decide) rfl rfl rfl (Nat.le_of_eq rfl)
  obtain ⟨rfl, N17q, K17⟩ := hQ17
  have N19 := Fr.app N14 N17q
  obtain ⟨_, T20, L20, X20, hQ20, st20⟩ := own_cv X17 hx hZ10 hown10 hml (W 38 rfl) (W 39 rfl) (notFace_of_selects (W 41 rfl)) (W 41 rfl) (W 40 rfl) (W 9 rfl) (W 42 rfl) (rm7_getLow l Z a0 hw b7 xa T10.heap n0 O15 (F10_0)) K17 f18 (hb hby at_78) 0 #[iv p1, iv p2, iv p3, rv xa, rv b3_b1, rv b7] [] [] pd_58 (by decide) rfl rfl rfl (Nat.le_of_eq rfl)
  obtain ⟨rfl, N20q, K20⟩ := hQ20
  have N21 := Fr.app N19 N20q
  obtain ⟨T22, X22, e22, st22⟩ := castY X20 hx hZ10 hown10 (W 43 rfl) K20 (Ins.self (E_xa.ext O15.2)) (g := (mkF m 81 #[iv p1, iv p2, iv p3, rv xa, rv b3_b1, rv b7] [(.ref xa)])) rfl rfl (hb hby at_81)
  obtain ⟨_, T23, L23, X23, hQ23, st23⟩ := own_cv X22 hx hZ10 hown10 hml (W 45 rfl) (W 46 rfl) (notFace_of_selects (W 48 rfl)) (W 48 rfl) (W 47 rfl) (W 2 rfl) (W 49 rfl) (rm13_intValue l Z a0 hw xa p1 T10.heap n0 O15 (F_xa)) e22 (E_xa.ext O15.2) (hb hby at_84) 0 #[iv p1, iv p2, iv p3, rv xa, rv b3_b1, rv b7] [] [] pd_62 (by decide) rfl rfl rfl (Nat.le_of_eq rfl)
  obtain ⟨rfl, N23q, K23⟩ := hQ23
  have N24 := Fr.app N21 N23q
  obtain ⟨_, T25, L25, X25, hQ25, st25⟩ := own_cv X23 hx hZ10 hown10 hml (W 52 rfl) (W 53 rfl) (notFace_of_selects (W 55 rfl)) (W 55 rfl) (W 54 rfl) (W 9 rfl) (W 56 rfl) (rm9_getHigh l Z a0 hw b7 b3_b1 T10.heap n0 O15 (F10_1)) K23 f18 (hb hby at_93) 0 #[iv p1, iv p2, iv p3, rv xa, rv b3_b1, rv b7] [] [] pd_58 (by decide) rfl rfl rfl (Nat.le_of_eq rfl)
  obtain ⟨rfl, N25q, K25⟩ := hQ25
  have N26 := Fr.app N24 N25q
  have f28 := ((F3_0.ext E7).keep K10)
  obtain ⟨T27, X27, e27, st27⟩ := castY X25 hx hZ10 hown10 (W 43 rfl) K25 (Ins.self f28) (g := (mkF m 96 #[iv p1, iv p2, iv p3, rv xa, rv b3_b1, rv b7] [(.ref b3_b1)])) rfl rfl (hb hby at_96)
  have f30 := ((F3_1.ext E7).keep K10 (ninS (Nat.ne_of_lt (Nat.lt_of_lt_of_le F3_0.lt (Nat.le_of_eq g7.symm))) nin0))
  obtain ⟨_, T29, L29, X29, hQ29, st29⟩ := own_cv X27 hx hZ10 hown10 hml (W 45 rfl) (W 46 rfl) (notFace_of_selects (W 48 rfl)) (W 48 rfl) (W 47 rfl) (W 2 rfl) (W 49 rfl) (rm8_intValue l Z a0 hw b3_b1 p2 T10.heap n0 O15 (f30)) e27 f28 (hb hby at_99) 0 #[iv p1, iv p2, iv p3, rv xa, rv b3_b1, rv b7] [] [] pd_62 (by decide) rfl rfl rfl (Nat.le_of_eq rfl)
  obtain ⟨rfl, N29q, K29⟩ := hQ29
  have N31 := Fr.app N26 N29q
  refine ⟨T29, some (.int (1 : Int32)), _, _, _, T10.vm, _, X29, hS10, (by rw [K29]; exact (Nat.le_refl _)), by decide, by decide, nofun, ?_, fun fs hr => castTop (ef_69 m p1 p2 p3) ?_⟩
  · exact ⟨rfl, N31⟩
  · show SS p e below s₁ m 0 #[iv p1, iv p2, iv p3, .unset, .unset, .unset] [] _
    refine XS.iloadN X0.here hx rfl (hb hby at_0) rfl ?_
    show SS p e below s₁ m 1 #[iv p1, iv p2, iv p3, .unset, .unset, .unset] [(.int p1)] _
    refine st1 _ ?_
    show SS p e below T1 m 4 #[iv p1, iv p2, iv p3, .unset, .unset, .unset] [(.ref xa)] _
    refine XS.astoreN X1.here hx rfl (hb hby at_4) rfl rfl (l' := #[iv p1, iv p2, iv p3, rv xa, .unset, .unset]) rfl ?_
    show SS p e below T1 m 5 #[iv p1, iv p2, iv p3, rv xa, .unset, .unset] [] _
    refine XS.iloadN X1.here hx rfl (hb hby at_5) rfl ?_
    show SS p e below T1 m 6 #[iv p1, iv p2, iv p3, rv xa, .unset, .unset] [(.int p2)] _
    refine st3 _ ?_
    show SS p e below T3 m 9 #[iv p1, iv p2, iv p3, rv xa, .unset, .unset] [(.ref b3_b1)] _
    refine XS.astore X3.here hx rfl (hb hby at_9) rfl rfl (l' := #[iv p1, iv p2, iv p3, rv xa, rv b3_b1, .unset]) rfl ?_
    show SS p e below T3 m 11 #[iv p1, iv p2, iv p3, rv xa, rv b3_b1, .unset] [] _
    refine XS.iloadN X3.here hx rfl (hb hby at_11) rfl ?_
    refine XS.iconst X3.here hx rfl (hb hby at_12) ?_
    show SS p e below T3 m 13 #[iv p1, iv p2, iv p3, rv xa, rv b3_b1, .unset] [(.int (1 : Int32)), (.int p3)] _
    refine XS.iand X3.here hx rfl (hb hby at_13) rfl ?_
    rw [hf]
    show SS p e below T3 m 14 #[iv p1, iv p2, iv p3, rv xa, rv b3_b1, .unset] [(.int (0 : Int32))] _
    refine XS.ifYes X3.here hx rfl (pc0 := 14) (pc' := 56) rfl (hb hby at_14) rfl ((if0 _ _).trans (teq (by decide : (0 : Int32) = (0 : Int32))).1) (by decide) (by decide) ?_
    show SS p e below T3 m 56 #[iv p1, iv p2, iv p3, rv xa, rv b3_b1, .unset] [] _
    refine st7 _ ?_
    show SS p e below T7 m 59 #[iv p1, iv p2, iv p3, rv xa, rv b3_b1, .unset] [(.ref b7)] _
    refine XS.dup X7.here hx rfl (hb hby at_59) rfl rfl ?_
    refine XS.aloadN X7.here hx rfl (hb hby at_60) rfl rfl ?_
    refine XS.aload X7.here hx rfl (hb hby at_61) rfl rfl ?_
    show SS p e below T7 m 63 #[iv p1, iv p2, iv p3, rv xa, rv b3_b1, .unset] [(.ref b3_b1), (.ref xa), (.ref b7), (.ref b7)] _
    refine st10.trans ?_
    show SS p e below T10 m 66 #[iv p1, iv p2, iv p3, rv xa, rv b3_b1, .unset] [(.ref b7)] _
    refine XS.astore X10.here hx rfl (hb hby at_66) rfl rfl (l' := #[iv p1, iv p2, iv p3, rv xa, rv b3_b1, rv b7]) rfl ?_
    show SS p e below T10 m 68 #[iv p1, iv p2, iv p3, rv xa, rv b3_b1, rv b7] [] _
    refine XS.aload X10.here hx rfl (hb hby at_68) rfl rfl ?_
    show SS p e below T10 m 70 #[iv p1, iv p2, iv p3, rv xa, rv b3_b1, rv b7] [(.ref b7)] _
    refine st17 _ ?_
    show SS p e below T17 m 73 #[iv p1, iv p2, iv p3, rv xa, rv b3_b1, rv b7] [(.int (0 : Int32))] _
    refine XS.ifNo X17.here hx rfl (hb hby at_73) rfl ((if0 _ _).trans (teq (by decide : (0 : Int32) = (0 : Int32))).2) ?_
    show SS p e below T17 m 76 #[iv p1, iv p2, iv p3, rv xa, rv b3_b1, rv b7] [] _
    refine XS.aload X17.here hx rfl (hb hby at_76) rfl rfl ?_
    show SS p e below T17 m 78 #[iv p1, iv p2, iv p3, rv xa, rv b3_b1, rv b7] [(.ref b7)] _
    refine st20 _ ?_
    show SS p e below T20 m 81 #[iv p1, iv p2, iv p3, rv xa, rv b3_b1, rv b7] [(.ref xa)] _
    refine st22 _ ?_
    show SS p e below T22 m 84 #[iv p1, iv p2, iv p3, rv xa, rv b3_b1, rv b7] [(.ref xa)] _
    refine st23 _ ?_
    show SS p e below T23 m 87 #[iv p1, iv p2, iv p3, rv xa, rv b3_b1, rv b7] [(.int p1)] _
    refine XS.iloadN X23.here hx rfl (hb hby at_87) rfl ?_
    show SS p e below T23 m 88 #[iv p1, iv p2, iv p3, rv xa, rv b3_b1, rv b7] [(.int p1), (.int p1)] _
    refine XS.icmpNo X23.here hx rfl (hb hby at_88) rfl (teq (rfl : p1 = p1)).2 ?_
    show SS p e below T23 m 91 #[iv p1, iv p2, iv p3, rv xa, rv b3_b1, rv b7] [] _
    refine XS.aload X23.here hx rfl (hb hby at_91) rfl rfl ?_
    show SS p e below T23 m 93 #[iv p1, iv p2, iv p3, rv xa, rv b3_b1, rv b7] [(.ref b7)] _
    refine st25 _ ?_
    show SS p e below T25 m 96 #[iv p1, iv p2, iv p3, rv xa, rv b3_b1, rv b7] [(.ref b3_b1)] _
    refine st27 _ ?_
    show SS p e below T27 m 99 #[iv p1, iv p2, iv p3, rv xa, rv b3_b1, rv b7] [(.ref b3_b1)] _
    refine st29 _ ?_
    show SS p e below T29 m 102 #[iv p1, iv p2, iv p3, rv xa, rv b3_b1, rv b7] [(.int p2)] _
    refine XS.iloadN X29.here hx rfl (hb hby at_102) rfl ?_
    show SS p e below T29 m 103 #[iv p1, iv p2, iv p3, rv xa, rv b3_b1, rv b7] [(.int p2), (.int p2)] _
    refine XS.icmpNo X29.here hx rfl (hb hby at_103) rfl (teq (rfl : p2 = p2)).2 ?_
    show SS p e below T29 m 106 #[iv p1, iv p2, iv p3, rv xa, rv b3_b1, rv b7] [] _
    refine XS.iconst X29.here hx rfl (hb hby at_106) ?_
    refine XS.goto X29.here hx rfl (pc0 := 107) (pc' := 111) rfl (hb hby at_107) (by decide) (by decide) ?_
    show SS p e below T29 m 111 #[iv p1, iv p2, iv p3, rv xa, rv b3_b1, rv b7] [(.int (1 : Int32))] _
    exact retN X29 hx (t := .boolean) hret (by simp) (hb hby at_111) hr
set_option maxRecDepth 65536 in
set_option maxHeartbeats 40000000 in
theorem rm0_CL1 (l : Launch) (Z : State) (a0 : Array Value) (hw : HW Z a0) (ws : List Jvm.Cond) (p1 : Int32) (p2 : Int32) (p3 : Int32) (o_cache : Addr) (xa : Addr) (h0 : Heap) (n0 : Nat) (O0 : Old Z n0 h0) (S_c_high : SA16 Z Z.heap (.int (127 : Int32))) (S_o_cache : SA17 Z Z.heap (.ref o_cache)) (E_o_cache : EA15 Z Z.heap o_cache) (E_xa : EA13 Z Z.heap xa) (F_xa : FA10 Z Z.heap xa (.int p1)) (Et_xa : Elt Z Z.heap o_cache (.object "java/lang/Integer") (p1 + (128 : Int32)) (.ref xa)) (h1xa : ¬ (p1 < (-128 : Int32))) (h2xa : ¬ ((127 : Int32) < p1)) (h1xb : p2 < (-128 : Int32)) (hf : (p3 &&& (1 : Int32)) = (1 : Int32)) :
    MetW l Z ws x code maxLocals ret room_1 #[(.int p1), (.int p2), (.int p3)] h0 (fun v _ L => Q0 n0 v L) := by
  have W := fun (i : Nat) {c : Jvm.Cond} (q : tables_1[i]? = some c) => hw c (List.mem_of_getElem? q)
  refine own_mkW (plainFor_of_name pn_70) ?_
  intro p e s m below meth c s₁ hZ hx hby hml hown hnm hret hlk X0 e0
  have N0 := Fr.nil n0
  obtain ⟨_, T1, L1, X1, hQ1, st1⟩ := own_cs X0 hx hZ hown hml (W 0 rfl) (W 1 rfl) (W 2 rfl) (W 3 rfl) (rm12_valueOf l Z a0 hw p1 o_cache xa h0 n0 O0 (h1xa) (S_c_high) (h2xa) (S_o_cache) (Et_xa)) e0 (hb hby at_1) 0 #[iv p1, iv p2, iv p3, .unset, .unset, .unset] [(.int p1)] [] pd_24 (by decide) rfl rfl rfl (Nat.le_of_eq rfl)
  obtain ⟨rfl, N1q, K1⟩ := hQ1
  have N2 := Fr.app N0 N1q
  obtain ⟨_, T3, L3, X3, hQ3, st3⟩ := own_cs X1 hx hZ hown hml (W 0 rfl) (W 1 rfl) (W 2 rfl) (W 3 rfl) (rm3_valueOf l Z a0 hw p2 h0 n0 O0 (h1xb)) K1 (hb hby at_6) 0 #[iv p1, iv p2, iv p3, rv xa, .unset, .unset] [(.int p2)] [] pd_24 (by decide) rfl rfl rfl (Nat.le_of_eq rfl)
  obtain ⟨b3_b1, rfl, N3q, K3, gb3_0, F3_0, F3_1⟩ := hQ3
  have N4 := Fr.app N2 N3q
  have O5 := O0.keep K3 all0
  have K6 : Keep h0 T3.heap [] := Keep.trans (Keep.refl h0 []) K3 all0
  obtain ⟨T7, h7, X7, e7, E7, A7, D7, -, st7⟩ := newO X3 hx hZ hown (W 7 rfl) (W 8 rfl) (W 9 rfl) rfl (g := (mkF m 17 #[iv p1, iv p2, iv p3, rv xa, rv b3_b1, .unset] [])) rfl (hb hby at_17) (by decide) (by decide)
  obtain ⟨b7, g7⟩ : ∃ z, z = T3.heap.size := ⟨_, rfl⟩
  rw [← g7] at A7 D7 st7
  have O8 := O5.ext E7
  have K9 : Keep h0 h7 [] := Keep.ext K6 E7
  have z11 : h0.size ≤ T3.heap.size := K3.1
  have g12 : n0 ≤ b7 := Nat.le_trans (Nat.le_trans (Nat.le_trans (Nat.le_of_eq O0.1.symm) O0.2.1) z11) (Nat.le_of_eq g7.symm)
  have X13 := (show Stand p l e _ (s.setVm s.vm) m _ below meth c _ _ _ _ from X7)
  obtain ⟨_, _, ⟨T10, L10, k10, n10⟩, -, Y10, hs10, hg10, ⟨Lc10, hQ10, l10, y10, z10⟩, st10⟩ := X13.specialBackS hx (y := Y9) rfl hown (mvT hZ (W 57 rfl)) (mvT hZ (W 58 rfl)) (mvT hZ (W 59 rfl)) (by decide) (backOfS (W := 1) (rm10_init l Z a0 hw b7 xa h7 n0 O8 (A7) ((D7 (Or.inr (W 29 rfl)) (ty := (.object "java/lang/Object")) (by decide) : FA11 Z h7 b7 .null)) (g12) ((D7 (Or.inr (W 32 rfl)) (ty := (.object "java/lang/Object")) (by decide) : FA12 Z h7 b7 .null))) hZ (W 59 rfl) (W 9 rfl) (by decide) (by decide)) (g := (mkF m 22 #[iv p1, iv p2, iv p3, rv xa, rv b3_b1, .unset] [(.ref xa), (.ref b7), (.ref b7)])) rfl (by rw [hml]; rfl) (Steps.refl _) (a := b7) (argsL := [(.ref xa)]) (rest := [(.ref b7)]) (lenOf pd_82 rfl) rfl (by show 2 * 0 + _ ≤ _; exact Nat.le_of_eq rfl) (hb hby at_22) (fun _ _ => ⟨rfl, e7, (by decide : 2 + 2 ≤ _), (by decide : 3 + 16 ≤ _)⟩)
  dsimp only [Pt.U, Pt.locs, Pt.cells, Pt.slots] at Y10 l10 y10 z10 st10 hQ10 hs10 hg10
  subst l10 y10 z10
  obtain ⟨X10, hS10, hZ10, hown10⟩ := rebS (s := s) (vm0 := s.vm) ((State.WarmedH.refl s).since 0) (Nat.zero_le _) Y10 hs10 hg10 hZ hown
  obtain ⟨rfl, N10q, K10, F10_0, F10_1⟩ := hQ10
  have N14 := Fr.app N4 N10q
  have O15 := O8.keep K10 (allS g12 all0)
  have K16 : Keep h0 T10.heap [] := Keep.trans K9 K10 (allS (Or.inr (Nat.le_trans z11 (Nat.le_of_eq g7.symm))) all0)
  have f18 := (A7.keep K10)
  obtain ⟨_, T17, L17, X17, hQ17, st17⟩ := own_cv X10 hx hZ10 hown10 hml (W 33 rfl) (W 34 rfl) (notFace_of_selects (W 36 rfl)) (W 36 rfl) (W 35 rfl) (W 9 rfl) (W 37 rfl) (rm11_isOpenAtTop l Z a0 hw b7 T10.heap n0 O15 (F10_1)) rfl f18 (hb hby at_29) 0 #[iv p1, iv p2, iv p3, rv xa, rv b3_b1, rv b7] [] [] pd_54 (by decide) rfl rfl rfl (Nat.le_of_eq rfl)
  obtain ⟨rfl, N17q, K17⟩ := hQ17
  have N19 := Fr.app N14 N17q
  obtain ⟨_, T20, L20, X20, hQ20, st20⟩ := own_cv X17 hx hZ10 hown10 hml (W 38 rfl) (W 39 rfl) (notFace_of_selects (W 41 rfl)) (W 41 rfl) (W 40 rfl) (W 9 rfl) (W 42 rfl) (rm7_getLow l Z a0 hw b7 xa T10.heap n0 O15 (F10_0)) K17 f18 (hb hby at_37) 0 #[iv p1, iv p2, iv p3, rv xa, rv b3_b1, rv b7] [] [] pd_58 (by decide) rfl rfl rfl (Nat.le_of_eq rfl)
  obtain ⟨rfl, N20q, K20⟩ := hQ20
  have N21 := Fr.app N19 N20q
  obtain ⟨T22, X22, e22, st22⟩ := castY X20 hx hZ10 hown10 (W 43 rfl) K20 (Ins.self (E_xa.ext O15.2)) (g := (mkF m 40 #[iv p1, iv p2, iv p3, rv xa, rv b3_b1, rv b7] [(.ref xa)])) rfl rfl (hb hby at_40)
  obtain ⟨_, T23, L23, X23, hQ23, st23⟩ := own_cv X22 hx hZ10 hown10 hml (W 45 rfl) (W 46 rfl) (notFace_of_selects (W 48 rfl)) (W 48 rfl) (W 47 rfl) (W 2 rfl) (W 49 rfl) (rm13_intValue l Z a0 hw xa p1 T10.heap n0 O15 (F_xa)) e22 (E_xa.ext O15.2) (hb hby at_43) 0 #[iv p1, iv p2, iv p3, rv xa, rv b3_b1, rv b7] [] [] pd_62 (by decide) rfl rfl rfl (Nat.le_of_eq rfl)
  obtain ⟨rfl, N23q, K23⟩ := hQ23
  have N24 := Fr.app N21 N23q
  refine ⟨T23, some (.int (1 : Int32)), _, _, _, T10.vm, _, X23, hS10, (by rw [K23]; exact (Nat.le_refl _)), by decide, by decide, nofun, ?_, fun fs hr => castTop (ef_69 m p1 p2 p3) ?_⟩
  · exact ⟨rfl, N24⟩
  · show SS p e below s₁ m 0 #[iv p1, iv p2, iv p3, .unset, .unset, .unset] [] _
    refine XS.iloadN X0.here hx rfl (hb hby at_0) rfl ?_
    show SS p e below s₁ m 1 #[iv p1, iv p2, iv p3, .unset, .unset, .unset] [(.int p1)] _
    refine st1 _ ?_
    show SS p e below T1 m 4 #[iv p1, iv p2, iv p3, .unset, .unset, .unset] [(.ref xa)] _
    refine XS.astoreN X1.here hx rfl (hb hby at_4) rfl rfl (l' := #[iv p1, iv p2, iv p3, rv xa, .unset, .unset]) rfl ?_
    show SS p e below T1 m 5 #[iv p1, iv p2, iv p3, rv xa, .unset, .unset] [] _
    refine XS.iloadN X1.here hx rfl (hb hby at_5) rfl ?_
    show SS p e below T1 m 6 #[iv p1, iv p2, iv p3, rv xa, .unset, .unset] [(.int p2)] _
    refine st3 _ ?_
    show SS p e below T3 m 9 #[iv p1, iv p2, iv p3, rv xa, .unset, .unset] [(.ref b3_b1)] _
    refine XS.astore X3.here hx rfl (hb hby at_9) rfl rfl (l' := #[iv p1, iv p2, iv p3, rv xa, rv b3_b1, .unset]) rfl ?_
    show SS p e below T3 m 11 #[iv p1, iv p2, iv p3, rv xa, rv b3_b1, .unset] [] _
    refine XS.iloadN X3.here hx rfl (hb hby at_11) rfl ?_
    refine XS.iconst X3.here hx rfl (hb hby at_12) ?_
    show SS p e below T3 m 13 #[iv p1, iv p2, iv p3, rv xa, rv b3_b1, .unset] [(.int (1 : Int32)), (.int p3)] _
    refine XS.iand X3.here hx rfl (hb hby at_13) rfl ?_
    rw [hf]
    show SS p e below T3 m 14 #[iv p1, iv p2, iv p3, rv xa, rv b3_b1, .unset] [(.int (1 : Int32))] _
    refine XS.ifNo X3.here hx rfl (hb hby at_14) rfl ((if0 _ _).trans (feq (by decide : ¬ ((1 : Int32) = (0 : Int32)))).1) ?_
    show SS p e below T3 m 17 #[iv p1, iv p2, iv p3, rv xa, rv b3_b1, .unset] [] _
    refine st7 _ ?_
    show SS p e below T7 m 20 #[iv p1, iv p2, iv p3, rv xa, rv b3_b1, .unset] [(.ref b7)] _
    refine XS.dup X7.here hx rfl (hb hby at_20) rfl rfl ?_
    refine XS.aloadN X7.here hx rfl (hb hby at_21) rfl rfl ?_
    show SS p e below T7 m 22 #[iv p1, iv p2, iv p3, rv xa, rv b3_b1, .unset] [(.ref xa), (.ref b7), (.ref b7)] _
    refine st10.trans ?_
    show SS p e below T10 m 25 #[iv p1, iv p2, iv p3, rv xa, rv b3_b1, .unset] [(.ref b7)] _
    refine XS.astore X10.here hx rfl (hb hby at_25) rfl rfl (l' := #[iv p1, iv p2, iv p3, rv xa, rv b3_b1, rv b7]) rfl ?_
    show SS p e below T10 m 27 #[iv p1, iv p2, iv p3, rv xa, rv b3_b1, rv b7] [] _
    refine XS.aload X10.here hx rfl (hb hby at_27) rfl rfl ?_
    show SS p e below T10 m 29 #[iv p1, iv p2, iv p3, rv xa, rv b3_b1, rv b7] [(.ref b7)] _
    refine st17 _ ?_
    show SS p e below T17 m 32 #[iv p1, iv p2, iv p3, rv xa, rv b3_b1, rv b7] [(.int (1 : Int32))] _
    refine XS.ifNo X17.here hx rfl (hb hby at_32) rfl ((if0 _ _).trans (feq (by decide : ¬ ((1 : Int32) = (0 : Int32)))).1) ?_
    show SS p e below T17 m 35 #[iv p1, iv p2, iv p3, rv xa, rv b3_b1, rv b7] [] _
    refine XS.aload X17.here hx rfl (hb hby at_35) rfl rfl ?_
    show SS p e below T17 m 37 #[iv p1, iv p2, iv p3, rv xa, rv b3_b1, rv b7] [(.ref b7)] _
    refine st20 _ ?_
    show SS p e below T20 m 40 #[iv p1, iv p2, iv p3, rv xa, rv b3_b1, rv b7] [(.ref xa)] _
    refine st22 _ ?_
    show SS p e below T22 m 43 #[iv p1, iv p2, iv p3, rv xa, rv b3_b1, rv b7] [(.ref xa)] _
    refine st23 _ ?_
    show SS p e below T23 m 46 #[iv p1, iv p2, iv p3, rv xa, rv b3_b1, rv b7] [(.int p1)] _
    refine XS.iloadN X23.here hx rfl (hb hby at_46) rfl ?_
    show SS p e below T23 m 47 #[iv p1, iv p2, iv p3, rv xa, rv b3_b1, rv b7] [(.int p1), (.int p1)] _
    refine XS.icmpNo X23.here hx rfl (hb hby at_47) rfl (teq (rfl : p1 = p1)).2 ?_
    show SS p e below T23 m 50 #[iv p1, iv p2, iv p3, rv xa, rv b3_b1, rv b7] [] _
    refine XS.iconst X23.here hx rfl (hb hby at_50) ?_
    refine XS.goto X23.here hx rfl (pc0 := 51) (pc' := 55) rfl (hb hby at_51) (by decide) (by decide) ?_
    show SS p e below T23 m 55 #[iv p1, iv p2, iv p3, rv xa, rv b3_b1, rv b7] [(.int (1 : Int32))] _
    exact retN X23 hx (t := .boolean) hret (by simp) (hb hby at_55) hr
set_option maxRecDepth 65536 in
set_option maxHeartbeats 40000000 in
theorem rm0_CC0 (l : Launch) (Z : State) (a0 : Array Value) (hw : HW Z a0) (ws : List Jvm.Cond) (p1 : Int32) (p2 : Int32) (p3 : Int32) (o_cache : Addr) (xa : Addr) (xb : Addr) (h0 : Heap) (n0 : Nat) (O0 : Old Z n0 h0) (S_c_high : SA16 Z Z.heap (.int (127 : Int32))) (S_o_cache : SA17 Z Z.heap (.ref o_cache)) (E_o_cache : EA15 Z Z.heap o_cache) (E_xa : EA13 Z Z.heap xa) (F_xa : FA10 Z Z.heap xa (.int p1)) (Et_xa : Elt Z Z.heap o_cache (.object "java/lang/Integer") (p1 + (128 : Int32)) (.ref xa)) (E_xb : EA13 Z Z.heap xb) (F_xb : FA10 Z Z.heap xb (.int p2)) (Et_xb : Elt Z Z.heap o_cache (.object "java/lang/Integer") (p2 + (128 : Int32)) (.ref xb)) (h1xa : ¬ (p1 < (-128 : Int32))) (h2xa : ¬ ((127 : Int32) < p1)) (h1xb : ¬ (p2 < (-128 : Int32))) (h2xb : ¬ ((127 : Int32) < p2)) (hf : (p3 &&& (1 : Int32)) = (0 : Int32)) :
    MetW l Z ws x code maxLocals ret room_1 #[(.int p1), (.int p2), (.int p3)] h0 (fun v _ L => Q0 n0 v L) := by
  have W := fun (i : Nat) {c : Jvm.Cond} (q : tables_1[i]? = some c) => hw c (List.mem_of_getElem? q)
  refine own_mkW (plainFor_of_name pn_70) ?_
  intro p e s m below meth c s₁ hZ hx hby hml hown hnm hret hlk X0 e0
  have N0 := Fr.nil n0
  obtain ⟨_, T1, L1, X1, hQ1, st1⟩ := own_cs X0 hx hZ hown hml (W 0 rfl) (W 1 rfl) (W 2 rfl) (W 3 rfl) (rm12_valueOf l Z a0 hw p1 o_cache xa h0 n0 O0 (h1xa) (S_c_high) (h2xa) (S_o_cache) (Et_xa)) e0 (hb hby at_1) 0 #[iv p1, iv p2, iv p3, .unset, .unset, .unset] [(.int p1)] [] pd_24 (by decide) rfl rfl rfl (Nat.le_of_eq rfl)
  obtain ⟨rfl, N1q, K1⟩ := hQ1
  have N2 := Fr.app N0 N1q
  obtain ⟨_, T3, L3, X3, hQ3, st3⟩ := own_cs X1 hx hZ hown hml (W 0 rfl) (W 1 rfl) (W 2 rfl) (W 3 rfl) (rm12_valueOf l Z a0 hw p2 o_cache xb h0 n0 O0 (h1xb) (S_c_high) (h2xb) (S_o_cache) (Et_xb)) K1 (hb hby at_6) 0 #[iv p1, iv p2, iv p3, rv xa, .unset, .unset] [(.int p2)] [] pd_24 (by decide) rfl rfl rfl (Nat.le_of_eq rfl)
  obtain ⟨rfl, N3q, K3⟩ := hQ3
  have N4 := Fr.app N2 N3q
  obtain ⟨T5, h5, X5, e5, E5, A5, D5, -, st5⟩ := newO X3 hx hZ hown (W 7 rfl) (W 8 rfl) (W 9 rfl) K3 (g := (mkF m 56 #[iv p1, iv p2, iv p3, rv xa, rv xb, .unset] [])) rfl (hb hby at_56) (by decide) (by decide)
  obtain ⟨b5, g5⟩ : ∃ z, z = h0.size := ⟨_, rfl⟩
  rw [← g5] at A5 D5 st5
  have O6 := O0.ext E5
  have K7 : Keep h0 h5 [] := Keep.ext (Keep.refl h0 []) E5
  have g9 : n0 ≤ b5 := Nat.le_trans (Nat.le_trans (Nat.le_of_eq O0.1.symm) O0.2.1) (Nat.le_of_eq g5.symm)
  have X10 := (show Stand p l e _ (s.setVm s.vm) m _ below meth c _ _ _ _ from X5)
  obtain ⟨_, _, ⟨T8, L8, k8, n8⟩, -, Y8, hs8, hg8, ⟨Lc8, hQ8, l8, y8, z8⟩, st8⟩ := X10.specialBackS hx (y := Y4) rfl hown (mvT hZ (W 10 rfl)) (mvT hZ (W 11 rfl)) (mvT hZ (W 12 rfl)) (by decide) (backOfS (W := 1) (rm5_init l Z a0 hw b5 xa xb h5 n0 O6 (A5) ((D5 (Or.inr (W 29 rfl)) (ty := (.object "java/lang/Object")) (by decide) : FA11 Z h5 b5 .null)) (g9) ((D5 (Or.inr (W 32 rfl)) (ty := (.object "java/lang/Object")) (by decide) : FA12 Z h5 b5 .null))) hZ (W 12 rfl) (W 9 rfl) (by decide) (by decide)) (g := (mkF m 63 #[iv p1, iv p2, iv p3, rv xa, rv xb, .unset] [(.ref xb), (.ref xa), (.ref b5), (.ref b5)])) rfl (by rw [hml]; rfl) (Steps.refl _) (a := b5) (argsL := [(.ref xa), (.ref xb)]) (rest := [(.ref b5)]) (lenOf pd_48 rfl) rfl (by show 2 * 0 + _ ≤ _; exact Nat.le_of_eq rfl) (hb hby at_63) (fun _ _ => ⟨rfl, e5, (by decide : 1 + 4 ≤ _), (by decide : 2 + 36 ≤ _)⟩)
  dsimp only [Pt.U, Pt.locs, Pt.cells, Pt.slots] at Y8 l8 y8 z8 st8 hQ8 hs8 hg8
  subst l8 y8 z8
  obtain ⟨X8, hS8, hZ8, hown8⟩ := rebS (s := s) (vm0 := s.vm) ((State.WarmedH.refl s).since 0) (Nat.zero_le _) Y8 hs8 hg8 hZ hown
  obtain ⟨rfl, N8q, K8, F8_0, F8_1⟩ := hQ8
  have N11 := Fr.app N4 N8q
  have O12 := O6.keep K8 (allS g9 all0)
  have K13 : Keep h0 T8.heap [] := Keep.trans K7 K8 (allS (Or.inr (Nat.le_of_eq g5.symm)) all0)
  have f15 := (A5.keep K8)
  obtain ⟨_, T14, L14, X14, hQ14, st14⟩ := own_cv X8 hx hZ8 hown8 hml (W 33 rfl) (W 34 rfl) (notFace_of_selects (W 36 rfl)) (W 36 rfl) (W 35 rfl) (W 9 rfl) (W 37 rfl) (rm6_isOpenAtTop l Z a0 hw b5 xb T8.heap n0 O12 (F8_1)) rfl f15 (hb hby at_70) 0 #[iv p1, iv p2, iv p3, rv xa, rv xb, rv b5] [] [] pd_54 (by decide) rfl rfl rfl (Nat.le_of_eq rfl)
  obtain ⟨rfl, N14q, K14⟩ := hQ14
  have N16 := Fr.app N11 N14q
  obtain ⟨_, T17, L17, X17, hQ17, st17⟩ := own_cv X14 hx hZ8 hown8 hml (W 38 rfl) (W 39 rfl) (notFace_of_selects (W 41 rfl)) (W 41 rfl) (W 40 rfl) (W 9 rfl) (W 42 rfl) (rm7_getLow l Z a0 hw b5 xa T8.heap n0 O12 (F8_0)) K14 f15 (hb hby at_78) 0 #[iv p1, iv p2, iv p3, rv xa, rv xb, rv b5] [] [] pd_58 (by decide) rfl rfl rfl (Nat.le_of_eq rfl)
  obtain ⟨rfl, N17q, K17⟩ := hQ17
  have N18 := Fr.app N16 N17q
  obtain ⟨T19, X19, e19, st19⟩ := castY X17 hx hZ8 hown8 (W 43 rfl) K17 (Ins.self (E_xa.ext O12.2)) (g := (mkF m 81 #[iv p1, iv p2, iv p3, rv xa, rv xb, rv b5] [(.ref xa)])) rfl rfl (hb hby at_81)
  obtain ⟨_, T20, L20, X20, hQ20, st20⟩ := own_cv X19 hx hZ8 hown8 hml (W 45 rfl) (W 46 rfl) (notFace_of_selects (W 48 rfl)) (W 48 rfl) (W 47 rfl) (W 2 rfl) (W 49 rfl) (rm13_intValue l Z a0 hw xa p1 T8.heap n0 O12 (F_xa)) e19 (E_xa.ext O12.2) (hb hby at_84) 0 #[iv p1, iv p2, iv p3, rv xa, rv xb, rv b5] [] [] pd_62 (by decide) rfl rfl rfl (Nat.le_of_eq rfl)
  obtain ⟨rfl, N20q, K20⟩ := hQ20
  have N21 := Fr.app N18 N20q
  obtain ⟨_, T22, L22, X22, hQ22, st22⟩ := own_cv X20 hx hZ8 hown8 hml (W 52 rfl) (W 53 rfl) (notFace_of_selects (W 55 rfl)) (W 55 rfl) (W 54 rfl) (W 9 rfl) (W 56 rfl) (rm9_getHigh l Z a0 hw b5 xb T8.heap n0 O12 (F8_1)) K20 f15 (hb hby at_93) 0 #[iv p1, iv p2, iv p3, rv xa, rv xb, rv b5] [] [] pd_58 (by decide) rfl rfl rfl (Nat.le_of_eq rfl)
  obtain ⟨rfl, N22q, K22⟩ := hQ22
  have N23 := Fr.app N21 N22q
  obtain ⟨T24, X24, e24, st24⟩ := castY X22 hx hZ8 hown8 (W 43 rfl) K22 (Ins.self (E_xb.ext O12.2)) (g := (mkF m 96 #[iv p1, iv p2, iv p3, rv xa, rv xb, rv b5] [(.ref xb)])) rfl rfl (hb hby at_96)
  obtain ⟨_, T25, L25, X25, hQ25, st25⟩ := own_cv X24 hx hZ8 hown8 hml (W 45 rfl) (W 46 rfl) (notFace_of_selects (W 48 rfl)) (W 48 rfl) (W 47 rfl) (W 2 rfl) (W 49 rfl) (rm13_intValue l Z a0 hw xb p2 T8.heap n0 O12 (F_xb)) e24 (E_xb.ext O12.2) (hb hby at_99) 0 #[iv p1, iv p2, iv p3, rv xa, rv xb, rv b5] [] [] pd_62 (by decide) rfl rfl rfl (Nat.le_of_eq rfl)
  obtain ⟨rfl, N25q, K25⟩ := hQ25
  have N26 := Fr.app N23 N25q
  refine ⟨T25, some (.int (1 : Int32)), _, _, _, T8.vm, _, X25, hS8, (by rw [K25]; exact (Nat.le_refl _)), by decide, by decide, nofun, ?_, fun fs hr => castTop (ef_69 m p1 p2 p3) ?_⟩
  · exact ⟨rfl, N26⟩
  · show SS p e below s₁ m 0 #[iv p1, iv p2, iv p3, .unset, .unset, .unset] [] _
    refine XS.iloadN X0.here hx rfl (hb hby at_0) rfl ?_
    show SS p e below s₁ m 1 #[iv p1, iv p2, iv p3, .unset, .unset, .unset] [(.int p1)] _
    refine st1 _ ?_
    show SS p e below T1 m 4 #[iv p1, iv p2, iv p3, .unset, .unset, .unset] [(.ref xa)] _
    refine XS.astoreN X1.here hx rfl (hb hby at_4) rfl rfl (l' := #[iv p1, iv p2, iv p3, rv xa, .unset, .unset]) rfl ?_
    show SS p e below T1 m 5 #[iv p1, iv p2, iv p3, rv xa, .unset, .unset] [] _
    refine XS.iloadN X1.here hx rfl (hb hby at_5) rfl ?_
    show SS p e below T1 m 6 #[iv p1, iv p2, iv p3, rv xa, .unset, .unset] [(.int p2)] _
    refine st3 _ ?_
    show SS p e below T3 m 9 #[iv p1, iv p2, iv p3, rv xa, .unset, .unset] [(.ref xb)] _
    refine XS.astore X3.here hx rfl (hb hby at_9) rfl rfl (l' := #[iv p1, iv p2, iv p3, rv xa, rv xb, .unset]) rfl ?_
    show SS p e below T3 m 11 #[iv p1, iv p2, iv p3, rv xa, rv xb, .unset] [] _
    refine XS.iloadN X3.here hx rfl (hb hby at_11) rfl ?_
    refine XS.iconst X3.here hx rfl (hb hby at_12) ?_
    show SS p e below T3 m 13 #[iv p1, iv p2, iv p3, rv xa, rv xb, .unset] [(.int (1 : Int32)), (.int p3)] _
    refine XS.iand X3.here hx rfl (hb hby at_13) rfl ?_
    rw [hf]
    show SS p e below T3 m 14 #[iv p1, iv p2, iv p3, rv xa, rv xb, .unset] [(.int (0 : Int32))] _
    refine XS.ifYes X3.here hx rfl (pc0 := 14) (pc' := 56) rfl (hb hby at_14) rfl ((if0 _ _).trans (teq (by decide : (0 : Int32) = (0 : Int32))).1) (by decide) (by decide) ?_
    show SS p e below T3 m 56 #[iv p1, iv p2, iv p3, rv xa, rv xb, .unset] [] _
    refine st5 _ ?_
    show SS p e below T5 m 59 #[iv p1, iv p2, iv p3, rv xa, rv xb, .unset] [(.ref b5)] _
    refine XS.dup X5.here hx rfl (hb hby at_59) rfl rfl ?_
    refine XS.aloadN X5.here hx rfl (hb hby at_60) rfl rfl ?_
    refine XS.aload X5.here hx rfl (hb hby at_61) rfl rfl ?_
    show SS p e below T5 m 63 #[iv p1, iv p2, iv p3, rv xa, rv xb, .unset] [(.ref xb), (.ref xa), (.ref b5), (.ref b5)] _
    refine st8.trans ?_
    show SS p e below T8 m 66 #[iv p1, iv p2, iv p3, rv xa, rv xb, .unset] [(.ref b5)] _
    refine XS.astore X8.here hx rfl (hb hby at_66) rfl rfl (l' := #[iv p1, iv p2, iv p3, rv xa, rv xb, rv b5]) rfl ?_
    show SS p e below T8 m 68 #[iv p1, iv p2, iv p3, rv xa, rv xb, rv b5] [] _
    refine XS.aload X8.here hx rfl (hb hby at_68) rfl rfl ?_
    show SS p e below T8 m 70 #[iv p1, iv p2, iv p3, rv xa, rv xb, rv b5] [(.ref b5)] _
    refine st14 _ ?_
    show SS p e below T14 m 73 #[iv p1, iv p2, iv p3, rv xa, rv xb, rv b5] [(.int (0 : Int32))] _
    refine XS.ifNo X14.here hx rfl (hb hby at_73) rfl ((if0 _ _).trans (teq (by decide : (0 : Int32) = (0 : Int32))).2) ?_
    show SS p e below T14 m 76 #[iv p1, iv p2, iv p3, rv xa, rv xb, rv b5] [] _
    refine XS.aload X14.here hx rfl (hb hby at_76) rfl rfl ?_
    show SS p e below T14 m 78 #[iv p1, iv p2, iv p3, rv xa, rv xb, rv b5] [(.ref b5)] _
    refine st17 _ ?_
    show SS p e below T17 m 81 #[iv p1, iv p2, iv p3, rv xa, rv xb, rv b5] [(.ref xa)] _
    refine st19 _ ?_
    show SS p e below T19 m 84 #[iv p1, iv p2, iv p3, rv xa, rv xb, rv b5] [(.ref xa)] _
    refine st20 _ ?_
    show SS p e below T20 m 87 #[iv p1, iv p2, iv p3, rv xa, rv xb, rv b5] [(.int p1)] _
    refine XS.iloadN X20.here hx rfl (hb hby at_87) rfl ?_
    show SS p e below T20 m 88 #[iv p1, iv p2, iv p3, rv xa, rv xb, rv b5] [(.int p1), (.int p1)] _
    refine XS.icmpNo X20.here hx rfl (hb hby at_88) rfl (teq (rfl : p1 = p1)).2 ?_
    show SS p e below T20 m 91 #[iv p1, iv p2, iv p3, rv xa, rv xb, rv b5] [] _
    refine XS.aload X20.here hx rfl (hb hby at_91) rfl rfl ?_
    show SS p e below T20 m 93 #[iv p1, iv p2, iv p3, rv xa, rv xb, rv b5] [(.ref b5)] _
    refine st22 _ ?_
    show SS p e below T22 m 96 #[iv p1, iv p2, iv p3, rv xa, rv xb, rv b5] [(.ref xb)] _
    refine st24 _ ?_
    show SS p e below T24 m 99 #[iv p1, iv p2, iv p3, rv xa, rv xb, rv b5] [(.ref xb)] _
    refine st25 _ ?_
    show SS p e below T25 m 102 #[iv p1, iv p2, iv p3, rv xa, rv xb, rv b5] [(.int p2)] _
    refine XS.iloadN X25.here hx rfl (hb hby at_102) rfl ?_
    show SS p e below T25 m 103 #[iv p1, iv p2, iv p3, rv xa, rv xb, rv b5] [(.int p2), (.int p2)] _
    refine XS.icmpNo X25.here hx rfl (hb hby at_103) rfl (teq (rfl : p2 = p2)).2 ?_
    show SS p e below T25 m 106 #[iv p1, iv p2, iv p3, rv xa, rv xb, rv b5] [] _
    refine XS.iconst X25.here hx rfl (hb hby at_106) ?_
    refine XS.goto X25.here hx rfl (pc0 := 107) (pc' := 111) rfl (hb hby at_107) (by decide) (by decide) ?_
    show SS p e below T25 m 111 #[iv p1, iv p2, iv p3, rv xa, rv xb, rv b5] [(.int (1 : Int32))] _
    exact retN X25 hx (t := .boolean) hret (by simp) (hb hby at_111) hr
set_option maxRecDepth 65536 in
set_option maxHeartbeats 40000000 in
theorem rm0_CC1 (l : Launch) (Z : State) (a0 : Array Value) (hw : HW Z a0) (ws : List Jvm.Cond) (p1 : Int32) (p2 : Int32) (p3 : Int32) (o_cache : Addr) (xa : Addr) (xb : Addr) (h0 : Heap) (n0 : Nat) (O0 : Old Z n0 h0) (S_c_high : SA16 Z Z.heap (.int (127 : Int32))) (S_o_cache : SA17 Z Z.heap (.ref o_cache)) (E_o_cache : EA15 Z Z.heap o_cache) (E_xa : EA13 Z Z.heap xa) (F_xa : FA10 Z Z.heap xa (.int p1)) (Et_xa : Elt Z Z.heap o_cache (.object "java/lang/Integer") (p1 + (128 : Int32)) (.ref xa)) (E_xb : EA13 Z Z.heap xb) (F_xb : FA10 Z Z.heap xb (.int p2)) (Et_xb : Elt Z Z.heap o_cache (.object "java/lang/Integer") (p2 + (128 : Int32)) (.ref xb)) (h1xa : ¬ (p1 < (-128 : Int32))) (h2xa : ¬ ((127 : Int32) < p1)) (h1xb : ¬ (p2 < (-128 : Int32))) (h2xb : ¬ ((127 : Int32) < p2)) (hf : (p3 &&& (1 : Int32)) = (1 : Int32)) :
    MetW l Z ws x code maxLocals ret room_1 #[(.int p1), (.int p2), (.int p3)] h0 (fun v _ L => Q0 n0 v L) := by
  have W := fun (i : Nat) {c : Jvm.Cond} (q : tables_1[i]? = some c) => hw c (List.mem_of_getElem? q)
  refine own_mkW (plainFor_of_name pn_70) ?_
  intro p e s m below meth c s₁ hZ hx hby hml hown hnm hret hlk X0 e0
  have N0 := Fr.nil n0
  obtain ⟨_, T1, L1, X1, hQ1, st1⟩ := own_cs X0 hx hZ hown hml (W 0 rfl) (W 1 rfl) (W 2 rfl) (W 3 rfl) (rm12_valueOf l Z a0 hw p1 o_cache xa h0 n0 O0 (h1xa) (S_c_high) (h2xa) (S_o_cache) (Et_xa)) e0 (hb hby at_1) 0 #[iv p1, iv p2, iv p3, .unset, .unset, .unset] [(.int p1)] [] pd_24 (by decide) rfl rfl rfl (Nat.le_of_eq rfl)
  obtain ⟨rfl, N1q, K1⟩ := hQ1
  have N2 := Fr.app N0 N1q
  obtain ⟨_, T3, L3, X3, hQ3, st3⟩ := own_cs X1 hx hZ hown hml (W 0 rfl) (W 1 rfl) (W 2 rfl) (W 3 rfl) (rm12_valueOf l Z a0 hw p2 o_cache xb h0 n0 O0 (h1xb) (S_c_high) (h2xb) (S_o_cache) (Et_xb)) K1 (hb hby at_6) 0 #[iv p1, iv p2, iv p3, rv xa, .unset, .unset] [(.int p2)] [] pd_24 (by decide) rfl rfl rfl (Nat.le_of_eq rfl)
  obtain ⟨rfl, N3q, K3⟩ := hQ3
  have N4 := Fr.app N2 N3q
  obtain ⟨T5, h5, X5, e5, E5, A5, D5, -, st5⟩ := newO X3 hx hZ hown (W 7 rfl) (W 8 rfl) (W 9 rfl) K3 (g := (mkF m 17 #[iv p1, iv p2, iv p3, rv xa, rv xb, .unset] [])) rfl (hb hby at_17) (by decide) (by decide)
  obtain ⟨b5, g5⟩ : ∃ z, z = h0.size := ⟨_, rfl⟩
  rw [← g5] at A5 D5 st5
  have O6 := O0.ext E5
  have K7 : Keep h0 h5 [] := Keep.ext (Keep.refl h0 []) E5
  have g9 : n0 ≤ b5 := Nat.le_trans (Nat.le_trans (Nat.le_of_eq O0.1.symm) O0.2.1) (Nat.le_of_eq g5.symm)
  have X10 := (show Stand p l e _ (s.setVm s.vm) m _ below meth c _ _ _ _ from X5)
  obtain ⟨_, _, ⟨T8, L8, k8, n8⟩, -, Y8, hs8, hg8, ⟨Lc8, hQ8, l8, y8, z8⟩, st8⟩ := X10.specialBackS hx (y := Y9) rfl hown (mvT hZ (W 57 rfl)) (mvT hZ (W 58 rfl)) (mvT hZ (W 59 rfl)) (by decide) (backOfS (W := 1) (rm10_init l Z a0 hw b5 xa h5 n0 O6 (A5) ((D5 (Or.inr (W 29 rfl)) (ty := (.object "java/lang/Object")) (by decide) : FA11 Z h5 b5 .null)) (g9) ((D5 (Or.inr (W 32 rfl)) (ty := (.object "java/lang/Object")) (by decide) : FA12 Z h5 b5 .null))) hZ (W 59 rfl) (W 9 rfl) (by decide) (by decide)) (g := (mkF m 22 #[iv p1, iv p2, iv p3, rv xa, rv xb, .unset] [(.ref xa), (.ref b5), (.ref b5)])) rfl (by rw [hml]; rfl) (Steps.refl _) (a := b5) (argsL := [(.ref xa)]) (rest := [(.ref b5)]) (lenOf pd_82 rfl) rfl (by show 2 * 0 + _ ≤ _; exact Nat.le_of_eq rfl) (hb hby at_22) (fun _ _ => ⟨rfl, e5, (by decide : 1 + 2 ≤ _), (by decide : 2 + 16 ≤ _)⟩)
  dsimp only [Pt.U, Pt.locs, Pt.cells, Pt.slots] at Y8 l8 y8 z8 st8 hQ8 hs8 hg8
  subst l8 y8 z8
  obtain ⟨X8, hS8, hZ8, hown8⟩ := rebS (s := s) (vm0 := s.vm) ((State.WarmedH.refl s).since 0) (Nat.zero_le _) Y8 hs8 hg8 hZ hown
  obtain ⟨rfl, N8q, K8, F8_0, F8_1⟩ := hQ8
  have N11 := Fr.app N4 N8q
  have O12 := O6.keep K8 (allS g9 all0)
  have K13 : Keep h0 T8.heap [] := Keep.trans K7 K8 (allS (Or.inr (Nat.le_of_eq g5.symm)) all0)
  have f15 := (A5.keep K8)
  obtain ⟨_, T14, L14, X14, hQ14, st14⟩ := own_cv X8 hx hZ8 hown8 hml (W 33 rfl) (W 34 rfl) (notFace_of_selects (W 36 rfl)) (W 36 rfl) (W 35 rfl) (W 9 rfl) (W 37 rfl) (rm11_isOpenAtTop l Z a0 hw b5 T8.heap n0 O12 (F8_1)) rfl f15 (hb hby at_29) 0 #[iv p1, iv p2, iv p3, rv xa, rv xb, rv b5] [] [] pd_54 (by decide) rfl rfl rfl (Nat.le_of_eq rfl)
  obtain ⟨rfl, N14q, K14⟩ := hQ14
  have N16 := Fr.app N11 N14q
  obtain ⟨_, T17, L17, X17, hQ17, st17⟩ := own_cv X14 hx hZ8 hown8 hml (W 38 rfl) (W 39 rfl) (notFace_of_selects (W 41 rfl)) (W 41 rfl) (W 40 rfl) (W 9 rfl) (W 42 rfl) (rm7_getLow l Z a0 hw b5 xa T8.heap n0 O12 (F8_0)) K14 f15 (hb hby at_37) 0 #[iv p1, iv p2, iv p3, rv xa, rv xb, rv b5] [] [] pd_58 (by decide) rfl rfl rfl (Nat.le_of_eq rfl)
  obtain ⟨rfl, N17q, K17⟩ := hQ17
  have N18 := Fr.app N16 N17q
  obtain ⟨T19, X19, e19, st19⟩ := castY X17 hx hZ8 hown8 (W 43 rfl) K17 (Ins.self (E_xa.ext O12.2)) (g := (mkF m 40 #[iv p1, iv p2, iv p3, rv xa, rv xb, rv b5] [(.ref xa)])) rfl rfl (hb hby at_40)
  obtain ⟨_, T20, L20, X20, hQ20, st20⟩ := own_cv X19 hx hZ8 hown8 hml (W 45 rfl) (W 46 rfl) (notFace_of_selects (W 48 rfl)) (W 48 rfl) (W 47 rfl) (W 2 rfl) (W 49 rfl) (rm13_intValue l Z a0 hw xa p1 T8.heap n0 O12 (F_xa)) e19 (E_xa.ext O12.2) (hb hby at_43) 0 #[iv p1, iv p2, iv p3, rv xa, rv xb, rv b5] [] [] pd_62 (by decide) rfl rfl rfl (Nat.le_of_eq rfl)
  obtain ⟨rfl, N20q, K20⟩ := hQ20
  have N21 := Fr.app N18 N20q
  refine ⟨T20, some (.int (1 : Int32)), _, _, _, T8.vm, _, X20, hS8, (by rw [K20]; exact (Nat.le_refl _)), by decide, by decide, nofun, ?_, fun fs hr => castTop (ef_69 m p1 p2 p3) ?_⟩
  · exact ⟨rfl, N21⟩
  · show SS p e below s₁ m 0 #[iv p1, iv p2, iv p3, .unset, .unset, .unset] [] _
    refine XS.iloadN X0.here hx rfl (hb hby at_0) rfl ?_
    show SS p e below s₁ m 1 #[iv p1, iv p2, iv p3, .unset, .unset, .unset] [(.int p1)] _
    refine st1 _ ?_
    show SS p e below T1 m 4 #[iv p1, iv p2, iv p3, .unset, .unset, .unset] [(.ref xa)] _
    refine XS.astoreN X1.here hx rfl (hb hby at_4) rfl rfl (l' := #[iv p1, iv p2, iv p3, rv xa, .unset, .unset]) rfl ?_
    show SS p e below T1 m 5 #[iv p1, iv p2, iv p3, rv xa, .unset, .unset] [] _
    refine XS.iloadN X1.here hx rfl (hb hby at_5) rfl ?_
    show SS p e below T1 m 6 #[iv p1, iv p2, iv p3, rv xa, .unset, .unset] [(.int p2)] _
    refine st3 _ ?_
    show SS p e below T3 m 9 #[iv p1, iv p2, iv p3, rv xa, .unset, .unset] [(.ref xb)] _
    refine XS.astore X3.here hx rfl (hb hby at_9) rfl rfl (l' := #[iv p1, iv p2, iv p3, rv xa, rv xb, .unset]) rfl ?_
    show SS p e below T3 m 11 #[iv p1, iv p2, iv p3, rv xa, rv xb, .unset] [] _
    refine XS.iloadN X3.here hx rfl (hb hby at_11) rfl ?_
    refine XS.iconst X3.here hx rfl (hb hby at_12) ?_
    show SS p e below T3 m 13 #[iv p1, iv p2, iv p3, rv xa, rv xb, .unset] [(.int (1 : Int32)), (.int p3)] _
    refine XS.iand X3.here hx rfl (hb hby at_13) rfl ?_
    rw [hf]
    show SS p e below T3 m 14 #[iv p1, iv p2, iv p3, rv xa, rv xb, .unset] [(.int (1 : Int32))] _
    refine XS.ifNo X3.here hx rfl (hb hby at_14) rfl ((if0 _ _).trans (feq (by decide : ¬ ((1 : Int32) = (0 : Int32)))).1) ?_
    show SS p e below T3 m 17 #[iv p1, iv p2, iv p3, rv xa, rv xb, .unset] [] _
    refine st5 _ ?_
    show SS p e below T5 m 20 #[iv p1, iv p2, iv p3, rv xa, rv xb, .unset] [(.ref b5)] _
    refine XS.dup X5.here hx rfl (hb hby at_20) rfl rfl ?_
    refine XS.aloadN X5.here hx rfl (hb hby at_21) rfl rfl ?_
    show SS p e below T5 m 22 #[iv p1, iv p2, iv p3, rv xa, rv xb, .unset] [(.ref xa), (.ref b5), (.ref b5)] _
    refine st8.trans ?_
    show SS p e below T8 m 25 #[iv p1, iv p2, iv p3, rv xa, rv xb, .unset] [(.ref b5)] _
    refine XS.astore X8.here hx rfl (hb hby at_25) rfl rfl (l' := #[iv p1, iv p2, iv p3, rv xa, rv xb, rv b5]) rfl ?_
    show SS p e below T8 m 27 #[iv p1, iv p2, iv p3, rv xa, rv xb, rv b5] [] _
    refine XS.aload X8.here hx rfl (hb hby at_27) rfl rfl ?_
    show SS p e below T8 m 29 #[iv p1, iv p2, iv p3, rv xa, rv xb, rv b5] [(.ref b5)] _
    refine st14 _ ?_
    show SS p e below T14 m 32 #[iv p1, iv p2, iv p3, rv xa, rv xb, rv b5] [(.int (1 : Int32))] _
    refine XS.ifNo X14.here hx rfl (hb hby at_32) rfl ((if0 _ _).trans (feq (by decide : ¬ ((1 : Int32) = (0 : Int32)))).1) ?_
    show SS p e below T14 m 35 #[iv p1, iv p2, iv p3, rv xa, rv xb, rv b5] [] _
    refine XS.aload X14.here hx rfl (hb hby at_35) rfl rfl ?_
    show SS p e below T14 m 37 #[iv p1, iv p2, iv p3, rv xa, rv xb, rv b5] [(.ref b5)] _
    refine st17 _ ?_
    show SS p e below T17 m 40 #[iv p1, iv p2, iv p3, rv xa, rv xb, rv b5] [(.ref xa)] _
    refine st19 _ ?_
    show SS p e below T19 m 43 #[iv p1, iv p2, iv p3, rv xa, rv xb, rv b5] [(.ref xa)] _
    refine st20 _ ?_
    show SS p e below T20 m 46 #[iv p1, iv p2, iv p3, rv xa, rv xb, rv b5] [(.int p1)] _
    refine XS.iloadN X20.here hx rfl (hb hby at_46) rfl ?_
    show SS p e below T20 m 47 #[iv p1, iv p2, iv p3, rv xa, rv xb, rv b5] [(.int p1), (.int p1)] _
    refine XS.icmpNo X20.here hx rfl (hb hby at_47) rfl (teq (rfl : p1 = p1)).2 ?_
    show SS p e below T20 m 50 #[iv p1, iv p2, iv p3, rv xa, rv xb, rv b5] [] _
    refine XS.iconst X20.here hx rfl (hb hby at_50) ?_
    refine XS.goto X20.here hx rfl (pc0 := 51) (pc' := 55) rfl (hb hby at_51) (by decide) (by decide) ?_
    show SS p e below T20 m 55 #[iv p1, iv p2, iv p3, rv xa, rv xb, rv b5] [(.int (1 : Int32))] _
    exact retN X20 hx (t := .boolean) hret (by simp) (hb hby at_55) hr
set_option maxRecDepth 65536 in
set_option maxHeartbeats 40000000 in
theorem rm0_CH0 (l : Launch) (Z : State) (a0 : Array Value) (hw : HW Z a0) (ws : List Jvm.Cond) (p1 : Int32) (p2 : Int32) (p3 : Int32) (o_cache : Addr) (xa : Addr) (h0 : Heap) (n0 : Nat) (O0 : Old Z n0 h0) (S_c_high : SA16 Z Z.heap (.int (127 : Int32))) (S_o_cache : SA17 Z Z.heap (.ref o_cache)) (E_o_cache : EA15 Z Z.heap o_cache) (E_xa : EA13 Z Z.heap xa) (F_xa : FA10 Z Z.heap xa (.int p1)) (Et_xa : Elt Z Z.heap o_cache (.object "java/lang/Integer") (p1 + (128 : Int32)) (.ref xa)) (h1xa : ¬ (p1 < (-128 : Int32))) (h2xa : ¬ ((127 : Int32) < p1)) (h1xb : ¬ (p2 < (-128 : Int32))) (h2xb : (127 : Int32) < p2) (hf : (p3 &&& (1 : Int32)) = (0 : Int32)) :
    MetW l Z ws x code maxLocals ret room_1 #[(.int p1), (.int p2), (.int p3)] h0 (fun v _ L => Q0 n0 v L) := by
  have W := fun (i : Nat) {c : Jvm.Cond} (q : tables_1[i]? = some c) => hw c (List.mem_of_getElem? q)
  refine own_mkW (plainFor_of_name pn_70) ?_
  intro p e s m below meth c s₁ hZ hx hby hml hown hnm hret hlk X0 e0
  have N0 := Fr.nil n0
  obtain ⟨_, T1, L1, X1, hQ1, st1⟩ := own_cs X0 hx hZ hown hml (W 0 rfl) (W 1 rfl) (W 2 rfl) (W 3 rfl) (rm12_valueOf l Z a0 hw p1 o_cache xa h0 n0 O0 (h1xa) (S_c_high) (h2xa) (S_o_cache) (Et_xa)) e0 (hb hby at_1) 0 #[iv p1, iv p2, iv p3, .unset, .unset, .unset] [(.int p1)] [] pd_24 (by decide) rfl rfl rfl (Nat.le_of_eq rfl)
  obtain ⟨rfl, N1q, K1⟩ := hQ1
  have N2 := Fr.app N0 N1q
  obtain ⟨_, T3, L3, X3, hQ3, st3⟩ := own_cs X1 hx hZ hown hml (W 0 rfl) (W 1 rfl) (W 2 rfl) (W 3 rfl) (rm14_valueOf l Z a0 hw p2 h0 n0 O0 (h1xb) (S_c_high) (h2xb)) K1 (hb hby at_6) 0 #[iv p1, iv p2, iv p3, rv xa, .unset, .unset] [(.int p2)] [] pd_24 (by decide) rfl rfl rfl (Nat.le_of_eq rfl)
  obtain ⟨b3_b2, rfl, N3q, K3, gb3_0, F3_0, F3_1⟩ := hQ3
  have N4 := Fr.app N2 N3q
  have O5 := O0.keep K3 all0
  have K6 : Keep h0 T3.heap [] := Keep.trans (Keep.refl h0 []) K3 all0
  obtain ⟨T7, h7, X7, e7, E7, A7, D7, -, st7⟩ := newO X3 hx hZ hown (W 7 rfl) (W 8 rfl) (W 9 rfl) rfl (g := (mkF m 56 #[iv p1, iv p2, iv p3, rv xa, rv b3_b2, .unset] [])) rfl (hb hby at_56) (by decide) (by decide)
  obtain ⟨b7, g7⟩ : ∃ z, z = T3.heap.size := ⟨_, rfl⟩
  rw [← g7] at A7 D7 st7
  have O8 := O5.ext E7
  have K9 : Keep h0 h7 [] := Keep.ext K6 E7
  have z11 : h0.size ≤ T3.heap.size := K3.1
  have g12 : n0 ≤ b7 := Nat.le_trans (Nat.le_trans (Nat.le_trans (Nat.le_of_eq O0.1.symm) O0.2.1) z11) (Nat.le_of_eq g7.symm)
  have X13 := (show Stand p l e _ (s.setVm s.vm) m _ below meth c _ _ _ _ from X7)
  obtain ⟨_, _, ⟨T10, L10, k10, n10⟩, -, Y10, hs10, hg10, ⟨Lc10, hQ10, l10, y10, z10⟩, st10⟩ := X13.specialBackS hx (y := Y4) rfl hown (mvT hZ (W 10 rfl)) (mvT hZ (W 11 rfl)) (mvT hZ (W 12 rfl)) (by decide) (backOfS (W := 1) (rm5_init l Z a0 hw b7 xa b3_b2 h7 n0 O8 (A7) ((D7 (Or.inr (W 29 rfl)) (ty := (.object "java/lang/Object")) (by decide) : FA11 Z h7 b7 .null)) (g12) ((D7 (Or.inr (W 32 rfl)) (ty := (.object "java/lang/Object")) (by decide) : FA12 Z h7 b7 .null))) hZ (W 12 rfl) (W 9 rfl) (by decide) (by decide)) (g := (mkF m 63 #[iv p1, iv p2, iv p3, rv xa, rv b3_b2, .unset] [(.ref b3_b2), (.ref xa), (.ref b7), (.ref b7)])) rfl (by rw [hml]; rfl) (Steps.refl _) (a := b7) (argsL := [(.ref xa), (.ref b3_b2)]) (rest := [(.ref b7)]) (lenOf pd_48 rfl) rfl (by show 2 * 0 + _ ≤ _; exact Nat.le_of_eq rfl) (hb hby at_63) (fun _ _ => ⟨rfl, e7, (by decide : 2 + 4 ≤ _), (by decide : 3 + 36 ≤ _)⟩)
  dsimp only [Pt.U, Pt.locs, Pt.cells, Pt.slots] at Y10 l10 y10 z10 st10 hQ10 hs10 hg10
  subst l10 y10 z10
  obtain ⟨X10, hS10, hZ10, hown10⟩ := rebS (s := s) (vm0 := s.vm) ((State.WarmedH.refl s).since 0) (Nat.zero_le _) Y10 hs10 hg10 hZ hown
  obtain ⟨rfl, N10q, K10, F10_0, F10_1⟩ := hQ10
  have N14 := Fr.app N4 N10q
  have O15 := O8.keep K10 (allS g12 all0)
  have K16 : Keep h0 T10.heap [] := Keep.trans K9 K10 (allS (Or.inr (Nat.le_trans z11 (Nat.le_of_eq g7.symm))) all0)
  have f18 := (A7.keep K10)
  obtain ⟨_, T17, L17, X17, hQ17, st17⟩ := own_cv X10 hx hZ10 hown10 hml (W 33 rfl) (W 34 rfl) (notFace_of_selects (W 36 rfl)) (W 36 rfl) (W 35 rfl) (W 9 rfl) (W 37 rfl) (rm6_isOpenAtTop l Z a0 hw b7 b3_b2 T10.heap n0 O15 (F10_1)) rfl f18 (hb hby at_70) 0 #[iv p1, iv p2, iv p3, rv xa, rv b3_b2, rv b7] [] [] pd_54 (by decide) rfl rfl rfl (Nat.le_of_eq rfl)
  obtain ⟨rfl, N17q, K17⟩ := hQ17
  have N19 := Fr.app N14 N17q
  obtain ⟨_, T20, L20, X20, hQ20, st20⟩ := own_cv X17 hx hZ10 hown10 hml (W 38 rfl) (W 39 rfl) (notFace_of_selects (W 41 rfl)) (W 41 rfl) (W 40 rfl) (W 9 rfl) (W 42 rfl) (rm7_getLow l Z a0 hw b7 xa T10.heap n0 O15 (F10_0)) K17 f18 (hb hby at_78) 0 #[iv p1, iv p2, iv p3, rv xa, rv b3_b2, rv b7] [] [] pd_58 (by decide) rfl rfl rfl (Nat.le_of_eq rfl)
  obtain ⟨rfl, N20q, K20⟩ := hQ20
  have N21 := Fr.app N19 N20q
  obtain ⟨T22, X22, e22, st22⟩ := castY X20 hx hZ10 hown10 (W 43 rfl) K20 (Ins.self (E_xa.ext O15.2)) (g := (mkF m 81 #[iv p1, iv p2, iv p3, rv xa, rv b3_b2, rv b7] [(.ref xa)])) rfl rfl (hb hby at_81)
  obtain ⟨_, T23, L23, X23, hQ23, st23⟩ := own_cv X22 hx hZ10 hown10 hml (W 45 rfl) (W 46 rfl) (notFace_of_selects (W 48 rfl)) (W 48 rfl) (W 47 rfl) (W 2 rfl) (W 49 rfl) (rm13_intValue l Z a0 hw xa p1 T10.heap n0 O15 (F_xa)) e22 (E_xa.ext O15.2) (hb hby at_84) 0 #[iv p1, iv p2, iv p3, rv xa, rv b3_b2, rv b7] [] [] pd_62 (by decide) rfl rfl rfl (Nat.le_of_eq rfl)
  obtain ⟨rfl, N23q, K23⟩ := hQ23
  have N24 := Fr.app N21 N23q
  obtain ⟨_, T25, L25, X25, hQ25, st25⟩ := own_cv X23 hx hZ10 hown10 hml (W 52 rfl) (W 53 rfl) (notFace_of_selects (W 55 rfl)) (W 55 rfl) (W 54 rfl) (W 9 rfl) (W 56 rfl) (rm9_getHigh l Z a0 hw b7 b3_b2 T10.heap n0 O15 (F10_1)) K23 f18 (hb hby at_93) 0 #[iv p1, iv p2, iv p3, rv xa, rv b3_b2, rv b7] [] [] pd_58 (by decide) rfl rfl rfl (Nat.le_of_eq rfl)
  obtain ⟨rfl, N25q, K25⟩ := hQ25
  have N26 := Fr.app N24 N25q
  have f28 := ((F3_0.ext E7).keep K10)
  obtain ⟨T27, X27, e27, st27⟩ := castY X25 hx hZ10 hown10 (W 43 rfl) K25 (Ins.self f28) (g := (mkF m 96 #[iv p1, iv p2, iv p3, rv xa, rv b3_b2, rv b7] [(.ref b3_b2)])) rfl rfl (hb hby at_96)
  have f30 := ((F3_1.ext E7).keep K10 (ninS (Nat.ne_of_lt (Nat.lt_of_lt_of_le F3_0.lt (Nat.le_of_eq g7.symm))) nin0))
  obtain ⟨_, T29, L29, X29, hQ29, st29⟩ := own_cv X27 hx hZ10 hown10 hml (W 45 rfl) (W 46 rfl) (notFace_of_selects (W 48 rfl)) (W 48 rfl) (W 47 rfl) (W 2 rfl) (W 49 rfl) (rm8_intValue l Z a0 hw b3_b2 p2 T10.heap n0 O15 (f30)) e27 f28 (hb hby at_99) 0 #[iv p1, iv p2, iv p3, rv xa, rv b3_b2, rv b7] [] [] pd_62 (by decide) rfl rfl rfl (Nat.le_of_eq rfl)
  obtain ⟨rfl, N29q, K29⟩ := hQ29
  have N31 := Fr.app N26 N29q
  refine ⟨T29, some (.int (1 : Int32)), _, _, _, T10.vm, _, X29, hS10, (by rw [K29]; exact (Nat.le_refl _)), by decide, by decide, nofun, ?_, fun fs hr => castTop (ef_69 m p1 p2 p3) ?_⟩
  · exact ⟨rfl, N31⟩
  · show SS p e below s₁ m 0 #[iv p1, iv p2, iv p3, .unset, .unset, .unset] [] _
    refine XS.iloadN X0.here hx rfl (hb hby at_0) rfl ?_
    show SS p e below s₁ m 1 #[iv p1, iv p2, iv p3, .unset, .unset, .unset] [(.int p1)] _
    refine st1 _ ?_
    show SS p e below T1 m 4 #[iv p1, iv p2, iv p3, .unset, .unset, .unset] [(.ref xa)] _
    refine XS.astoreN X1.here hx rfl (hb hby at_4) rfl rfl (l' := #[iv p1, iv p2, iv p3, rv xa, .unset, .unset]) rfl ?_
    show SS p e below T1 m 5 #[iv p1, iv p2, iv p3, rv xa, .unset, .unset] [] _
    refine XS.iloadN X1.here hx rfl (hb hby at_5) rfl ?_
    show SS p e below T1 m 6 #[iv p1, iv p2, iv p3, rv xa, .unset, .unset] [(.int p2)] _
    refine st3 _ ?_
    show SS p e below T3 m 9 #[iv p1, iv p2, iv p3, rv xa, .unset, .unset] [(.ref b3_b2)] _
    refine XS.astore X3.here hx rfl (hb hby at_9) rfl rfl (l' := #[iv p1, iv p2, iv p3, rv xa, rv b3_b2, .unset]) rfl ?_
    show SS p e below T3 m 11 #[iv p1, iv p2, iv p3, rv xa, rv b3_b2, .unset] [] _
    refine XS.iloadN X3.here hx rfl (hb hby at_11) rfl ?_
    refine XS.iconst X3.here hx rfl (hb hby at_12) ?_
    show SS p e below T3 m 13 #[iv p1, iv p2, iv p3, rv xa, rv b3_b2, .unset] [(.int (1 : Int32)), (.int p3)] _
    refine XS.iand X3.here hx rfl (hb hby at_13) rfl ?_
    rw [hf]
    show SS p e below T3 m 14 #[iv p1, iv p2, iv p3, rv xa, rv b3_b2, .unset] [(.int (0 : Int32))] _
    refine XS.ifYes X3.here hx rfl (pc0 := 14) (pc' := 56) rfl (hb hby at_14) rfl ((if0 _ _).trans (teq (by decide : (0 : Int32) = (0 : Int32))).1) (by decide) (by decide) ?_
    show SS p e below T3 m 56 #[iv p1, iv p2, iv p3, rv xa, rv b3_b2, .unset] [] _
    refine st7 _ ?_
    show SS p e below T7 m 59 #[iv p1, iv p2, iv p3, rv xa, rv b3_b2, .unset] [(.ref b7)] _
    refine XS.dup X7.here hx rfl (hb hby at_59) rfl rfl ?_
    refine XS.aloadN X7.here hx rfl (hb hby at_60) rfl rfl ?_
    refine XS.aload X7.here hx rfl (hb hby at_61) rfl rfl ?_
    show SS p e below T7 m 63 #[iv p1, iv p2, iv p3, rv xa, rv b3_b2, .unset] [(.ref b3_b2), (.ref xa), (.ref b7), (.ref b7)] _
    refine st10.trans ?_
    show SS p e below T10 m 66 #[iv p1, iv p2, iv p3, rv xa, rv b3_b2, .unset] [(.ref b7)] _
    refine XS.astore X10.here hx rfl (hb hby at_66) rfl rfl (l' := #[iv p1, iv p2, iv p3, rv xa, rv b3_b2, rv b7]) rfl ?_
    show SS p e below T10 m 68 #[iv p1, iv p2, iv p3, rv xa, rv b3_b2, rv b7] [] _
    refine XS.aload X10.here hx rfl (hb hby at_68) rfl rfl ?_
    show SS p e below T10 m 70 #[iv p1, iv p2, iv p3, rv xa, rv b3_b2, rv b7] [(.ref b7)] _
    refine st17 _ ?_
    show SS p e below T17 m 73 #[iv p1, iv p2, iv p3, rv xa, rv b3_b2, rv b7] [(.int (0 : Int32))] _
    refine XS.ifNo X17.here hx rfl (hb hby at_73) rfl ((if0 _ _).trans (teq (by decide : (0 : Int32) = (0 : Int32))).2) ?_
    show SS p e below T17 m 76 #[iv p1, iv p2, iv p3, rv xa, rv b3_b2, rv b7] [] _
    refine XS.aload X17.here hx rfl (hb hby at_76) rfl rfl ?_
    show SS p e below T17 m 78 #[iv p1, iv p2, iv p3, rv xa, rv b3_b2, rv b7] [(.ref b7)] _
    refine st20 _ ?_
    show SS p e below T20 m 81 #[iv p1, iv p2, iv p3, rv xa, rv b3_b2, rv b7] [(.ref xa)] _
    refine st22 _ ?_
    show SS p e below T22 m 84 #[iv p1, iv p2, iv p3, rv xa, rv b3_b2, rv b7] [(.ref xa)] _
    refine st23 _ ?_
    show SS p e below T23 m 87 #[iv p1, iv p2, iv p3, rv xa, rv b3_b2, rv b7] [(.int p1)] _
    refine XS.iloadN X23.here hx rfl (hb hby at_87) rfl ?_
    show SS p e below T23 m 88 #[iv p1, iv p2, iv p3, rv xa, rv b3_b2, rv b7] [(.int p1), (.int p1)] _
    refine XS.icmpNo X23.here hx rfl (hb hby at_88) rfl (teq (rfl : p1 = p1)).2 ?_
    show SS p e below T23 m 91 #[iv p1, iv p2, iv p3, rv xa, rv b3_b2, rv b7] [] _
    refine XS.aload X23.here hx rfl (hb hby at_91) rfl rfl ?_
    show SS p e below T23 m 93 #[iv p1, iv p2, iv p3, rv xa, rv b3_b2, rv b7] [(.ref b7)] _
    refine st25 _ ?_
    show SS p e below T25 m 96 #[iv p1, iv p2, iv p3, rv xa, rv b3_b2, rv b7] [(.ref b3_b2)] _
    refine st27 _ ?_
    show SS p e below T27 m 99 #[iv p1, iv p2, iv p3, rv xa, rv b3_b2, rv b7] [(.ref b3_b2)] _
    refine st29 _ ?_
    show SS p e below T29 m 102 #[iv p1, iv p2, iv p3, rv xa, rv b3_b2, rv b7] [(.int p2)] _
    refine XS.iloadN X29.here hx rfl (hb hby at_102) rfl ?_
    show SS p e below T29 m 103 #[iv p1, iv p2, iv p3, rv xa, rv b3_b2, rv b7] [(.int p2), (.int p2)] _
    refine XS.icmpNo X29.here hx rfl (hb hby at_103) rfl (teq (rfl : p2 = p2)).2 ?_
    show SS p e below T29 m 106 #[iv p1, iv p2, iv p3, rv xa, rv b3_b2, rv b7] [] _
    refine XS.iconst X29.here hx rfl (hb hby at_106) ?_
    refine XS.goto X29.here hx rfl (pc0 := 107) (pc' := 111) rfl (hb hby at_107) (by decide) (by decide) ?_
    show SS p e below T29 m 111 #[iv p1, iv p2, iv p3, rv xa, rv b3_b2, rv b7] [(.int (1 : Int32))] _
    exact retN X29 hx (t := .boolean) hret (by simp) (hb hby at_111) hr
set_option maxRecDepth 65536 in
set_option maxHeartbeats 40000000 in
theorem rm0_CH1 (l : Launch) (Z : State) (a0 : Array Value) (hw : HW Z a0) (ws : List Jvm.Cond) (p1 : Int32) (p2 : Int32) (p3 : Int32) (o_cache : Addr) (xa : Addr) (h0 : Heap) (n0 : Nat) (O0 : Old Z n0 h0) (S_c_high : SA16 Z Z.heap (.int (127 : Int32))) (S_o_cache : SA17 Z Z.heap (.ref o_cache)) (E_o_cache : EA15 Z Z.heap o_cache) (E_xa : EA13 Z Z.heap xa) (F_xa : FA10 Z Z.heap xa (.int p1)) (Et_xa : Elt Z Z.heap o_cache (.object "java/lang/Integer") (p1 + (128 : Int32)) (.ref xa)) (h1xa : ¬ (p1 < (-128 : Int32))) (h2xa : ¬ ((127 : Int32) < p1)) (h1xb : ¬ (p2 < (-128 : Int32))) (h2xb : (127 : Int32) < p2) (hf : (p3 &&& (1 : Int32)) = (1 : Int32)) :
    MetW l Z ws x code maxLocals ret room_1 #[(.int p1), (.int p2), (.int p3)] h0 (fun v _ L => Q0 n0 v L) := by
  have W := fun (i : Nat) {c : Jvm.Cond} (q : tables_1[i]? = some c) => hw c (List.mem_of_getElem? q)
  refine own_mkW (plainFor_of_name pn_70) ?_
  intro p e s m below meth c s₁ hZ hx hby hml hown hnm hret hlk X0 e0
  have N0 := Fr.nil n0
  obtain ⟨_, T1, L1, X1, hQ1, st1⟩ := own_cs X0 hx hZ hown hml (W 0 rfl) (W 1 rfl) (W 2 rfl) (W 3 rfl) (rm12_valueOf l Z a0 hw p1 o_cache xa h0 n0 O0 (h1xa) (S_c_high) (h2xa) (S_o_cache) (Et_xa)) e0 (hb hby at_1) 0 #[iv p1, iv p2, iv p3, .unset, .unset, .unset] [(.int p1)] [] pd_24 (by decide) rfl rfl rfl (Nat.le_of_eq rfl)
  obtain ⟨rfl, N1q, K1⟩ := hQ1
  have N2 := Fr.app N0 N1q
  obtain ⟨_, T3, L3, X3, hQ3, st3⟩ := own_cs X1 hx hZ hown hml (W 0 rfl) (W 1 rfl) (W 2 rfl) (W 3 rfl) (rm14_valueOf l Z a0 hw p2 h0 n0 O0 (h1xb) (S_c_high) (h2xb)) K1 (hb hby at_6) 0 #[iv p1, iv p2, iv p3, rv xa, .unset, .unset] [(.int p2)] [] pd_24 (by decide) rfl rfl rfl (Nat.le_of_eq rfl)
  obtain ⟨b3_b2, rfl, N3q, K3, gb3_0, F3_0, F3_1⟩ := hQ3
  have N4 := Fr.app N2 N3q
  have O5 := O0.keep K3 all0
  have K6 : Keep h0 T3.heap [] := Keep.trans (Keep.refl h0 []) K3 all0
  obtain ⟨T7, h7, X7, e7, E7, A7, D7, -, st7⟩ := newO X3 hx hZ hown (W 7 rfl) (W 8 rfl) (W 9 rfl) rfl (g := (mkF m 17 #[iv p1, iv p2, iv p3, rv xa, rv b3_b2, .unset] [])) rfl (hb hby at_17) (by decide) (by decide)
  obtain ⟨b7, g7⟩ : ∃ z, z = T3.heap.size := ⟨_, rfl⟩
  rw [← g7] at A7 D7 st7
  have O8 := O5.ext E7
  have K9 : Keep h0 h7 [] := Keep.ext K6 E7
  have z11 : h0.size ≤ T3.heap.size := K3.1
  have g12 : n0 ≤ b7 := Nat.le_trans (Nat.le_trans (Nat.le_trans (Nat.le_of_eq O0.1.symm) O0.2.1) z11) (Nat.le_of_eq g7.symm)
  have X13 := (show Stand p l e _ (s.setVm s.vm) m _ below meth c _ _ _ _ from X7)
  obtain ⟨_, _, ⟨T10, L10, k10, n10⟩, -, Y10, hs10, hg10, ⟨Lc10, hQ10, l10, y10, z10⟩, st10⟩ := X13.specialBackS hx (y := Y9) rfl hown (mvT hZ (W 57 rfl)) (mvT hZ (W 58 rfl)) (mvT hZ (W 59 rfl)) (by decide) (backOfS (W := 1) (rm10_init l Z a0 hw b7 xa h7 n0 O8 (A7) ((D7 (Or.inr (W 29 rfl)) (ty := (.object "java/lang/Object")) (by decide) : FA11 Z h7 b7 .null)) (g12) ((D7 (Or.inr (W 32 rfl)) (ty := (.object "java/lang/Object")) (by decide) : FA12 Z h7 b7 .null))) hZ (W 59 rfl) (W 9 rfl) (by decide) (by decide)) (g := (mkF m 22 #[iv p1, iv p2, iv p3, rv xa, rv b3_b2, .unset] [(.ref xa), (.ref b7), (.ref b7)])) rfl (by rw [hml]; rfl) (Steps.refl _) (a := b7) (argsL := [(.ref xa)]) (rest := [(.ref b7)]) (lenOf pd_82 rfl) rfl (by show 2 * 0 + _ ≤ _; exact Nat.le_of_eq rfl) (hb hby at_22) (fun _ _ => ⟨rfl, e7, (by decide : 2 + 2 ≤ _), (by decide : 3 + 16 ≤ _)⟩)
  dsimp only [Pt.U, Pt.locs, Pt.cells, Pt.slots] at Y10 l10 y10 z10 st10 hQ10 hs10 hg10
  subst l10 y10 z10
  obtain ⟨X10, hS10, hZ10, hown10⟩ := rebS (s := s) (vm0 := s.vm) ((State.WarmedH.refl s).since 0) (Nat.zero_le _) Y10 hs10 hg10 hZ hown
  obtain ⟨rfl, N10q, K10, F10_0, F10_1⟩ := hQ10
  have N14 := Fr.app N4 N10q
  have O15 := O8.keep K10 (allS g12 all0)
  have K16 : Keep h0 T10.heap [] := Keep.trans K9 K10 (allS (Or.inr (Nat.le_trans z11 (Nat.le_of_eq g7.symm))) all0)
  have f18 := (A7.keep K10)
  obtain ⟨_, T17, L17, X17, hQ17, st17⟩ := own_cv X10 hx hZ10 hown10 hml (W 33 rfl) (W 34 rfl) (notFace_of_selects (W 36 rfl)) (W 36 rfl) (W 35 rfl) (W 9 rfl) (W 37 rfl) (rm11_isOpenAtTop l Z a0 hw b7 T10.heap n0 O15 (F10_1)) rfl f18 (hb hby at_29) 0 #[iv p1, iv p2, iv p3, rv xa, rv b3_b2, rv b7] [] [] pd_54 (by decide) rfl rfl rfl (Nat.le_of_eq rfl)
  obtain ⟨rfl, N17q, K17⟩ := hQ17
  have N19 := Fr.app N14 N17q
  obtain ⟨_, T20, L20, X20, hQ20, st20⟩ := own_cv X17 hx hZ10 hown10 hml (W 38 rfl) (W 39 rfl) (notFace_of_selects (W 41 rfl)) (W 41 rfl) (W 40 rfl) (W 9 rfl) (W 42 rfl) (rm7_getLow l Z a0 hw b7 xa T10.heap n0 O15 (F10_0)) K17 f18 (hb hby at_37) 0 #[iv p1, iv p2, iv p3, rv xa, rv b3_b2, rv b7] [] [] pd_58 (by decide) rfl rfl rfl (Nat.le_of_eq rfl)
  obtain ⟨rfl, N20q, K20⟩ := hQ20
  have N21 := Fr.app N19 N20q
  obtain ⟨T22, X22, e22, st22⟩ := castY X20 hx hZ10 hown10 (W 43 rfl) K20 (Ins.self (E_xa.ext O15.2)) (g := (mkF m 40 #[iv p1, iv p2, iv p3, rv xa, rv b3_b2, rv b7] [(.ref xa)])) rfl rfl (hb hby at_40)
  obtain ⟨_, T23, L23, X23, hQ23, st23⟩ := own_cv X22 hx hZ10 hown10 hml (W 45 rfl) (W 46 rfl) (notFace_of_selects (W 48 rfl)) (W 48 rfl) (W 47 rfl) (W 2 rfl) (W 49 rfl) (rm13_intValue l Z a0 hw xa p1 T10.heap n0 O15 (F_xa)) e22 (E_xa.ext O15.2) (hb hby at_43) 0 #[iv p1, iv p2, iv p3, rv xa, rv b3_b2, rv b7] [] [] pd_62 (by decide) rfl rfl rfl (Nat.le_of_eq rfl)
  obtain ⟨rfl, N23q, K23⟩ := hQ23
  have N24 := Fr.app N21 N23q
  refine ⟨T23, some (.int (1 : Int32)), _, _, _, T10.vm, _, X23, hS10, (by rw [K23]; exact (Nat.le_refl _)), by decide, by decide, nofun, ?_, fun fs hr => castTop (ef_69 m p1 p2 p3) ?_⟩
  · exact ⟨rfl, N24⟩
  · show SS p e below s₁ m 0 #[iv p1, iv p2, iv p3, .unset, .unset, .unset] [] _
    refine XS.iloadN X0.here hx rfl (hb hby at_0) rfl ?_
    show SS p e below s₁ m 1 #[iv p1, iv p2, iv p3, .unset, .unset, .unset] [(.int p1)] _
    refine st1 _ ?_
    show SS p e below T1 m 4 #[iv p1, iv p2, iv p3, .unset, .unset, .unset] [(.ref xa)] _
    refine XS.astoreN X1.here hx rfl (hb hby at_4) rfl rfl (l' := #[iv p1, iv p2, iv p3, rv xa, .unset, .unset]) rfl ?_
    show SS p e below T1 m 5 #[iv p1, iv p2, iv p3, rv xa, .unset, .unset] [] _
    refine XS.iloadN X1.here hx rfl (hb hby at_5) rfl ?_
    show SS p e below T1 m 6 #[iv p1, iv p2, iv p3, rv xa, .unset, .unset] [(.int p2)] _
    refine st3 _ ?_
    show SS p e below T3 m 9 #[iv p1, iv p2, iv p3, rv xa, .unset, .unset] [(.ref b3_b2)] _
    refine XS.astore X3.here hx rfl (hb hby at_9) rfl rfl (l' := #[iv p1, iv p2, iv p3, rv xa, rv b3_b2, .unset]) rfl ?_
    show SS p e below T3 m 11 #[iv p1, iv p2, iv p3, rv xa, rv b3_b2, .unset] [] _
    refine XS.iloadN X3.here hx rfl (hb hby at_11) rfl ?_
    refine XS.iconst X3.here hx rfl (hb hby at_12) ?_
    show SS p e below T3 m 13 #[iv p1, iv p2, iv p3, rv xa, rv b3_b2, .unset] [(.int (1 : Int32)), (.int p3)] _
    refine XS.iand X3.here hx rfl (hb hby at_13) rfl ?_
    rw [hf]
    show SS p e below T3 m 14 #[iv p1, iv p2, iv p3, rv xa, rv b3_b2, .unset] [(.int (1 : Int32))] _
    refine XS.ifNo X3.here hx rfl (hb hby at_14) rfl ((if0 _ _).trans (feq (by decide : ¬ ((1 : Int32) = (0 : Int32)))).1) ?_
    show SS p e below T3 m 17 #[iv p1, iv p2, iv p3, rv xa, rv b3_b2, .unset] [] _
    refine st7 _ ?_
    show SS p e below T7 m 20 #[iv p1, iv p2, iv p3, rv xa, rv b3_b2, .unset] [(.ref b7)] _
    refine XS.dup X7.here hx rfl (hb hby at_20) rfl rfl ?_
    refine XS.aloadN X7.here hx rfl (hb hby at_21) rfl rfl ?_
    show SS p e below T7 m 22 #[iv p1, iv p2, iv p3, rv xa, rv b3_b2, .unset] [(.ref xa), (.ref b7), (.ref b7)] _
    refine st10.trans ?_
    show SS p e below T10 m 25 #[iv p1, iv p2, iv p3, rv xa, rv b3_b2, .unset] [(.ref b7)] _
    refine XS.astore X10.here hx rfl (hb hby at_25) rfl rfl (l' := #[iv p1, iv p2, iv p3, rv xa, rv b3_b2, rv b7]) rfl ?_
    show SS p e below T10 m 27 #[iv p1, iv p2, iv p3, rv xa, rv b3_b2, rv b7] [] _
    refine XS.aload X10.here hx rfl (hb hby at_27) rfl rfl ?_
    show SS p e below T10 m 29 #[iv p1, iv p2, iv p3, rv xa, rv b3_b2, rv b7] [(.ref b7)] _
    refine st17 _ ?_
    show SS p e below T17 m 32 #[iv p1, iv p2, iv p3, rv xa, rv b3_b2, rv b7] [(.int (1 : Int32))] _
    refine XS.ifNo X17.here hx rfl (hb hby at_32) rfl ((if0 _ _).trans (feq (by decide : ¬ ((1 : Int32) = (0 : Int32)))).1) ?_
    show SS p e below T17 m 35 #[iv p1, iv p2, iv p3, rv xa, rv b3_b2, rv b7] [] _
    refine XS.aload X17.here hx rfl (hb hby at_35) rfl rfl ?_
    show SS p e below T17 m 37 #[iv p1, iv p2, iv p3, rv xa, rv b3_b2, rv b7] [(.ref b7)] _
    refine st20 _ ?_
    show SS p e below T20 m 40 #[iv p1, iv p2, iv p3, rv xa, rv b3_b2, rv b7] [(.ref xa)] _
    refine st22 _ ?_
    show SS p e below T22 m 43 #[iv p1, iv p2, iv p3, rv xa, rv b3_b2, rv b7] [(.ref xa)] _
    refine st23 _ ?_
    show SS p e below T23 m 46 #[iv p1, iv p2, iv p3, rv xa, rv b3_b2, rv b7] [(.int p1)] _
    refine XS.iloadN X23.here hx rfl (hb hby at_46) rfl ?_
    show SS p e below T23 m 47 #[iv p1, iv p2, iv p3, rv xa, rv b3_b2, rv b7] [(.int p1), (.int p1)] _
    refine XS.icmpNo X23.here hx rfl (hb hby at_47) rfl (teq (rfl : p1 = p1)).2 ?_
    show SS p e below T23 m 50 #[iv p1, iv p2, iv p3, rv xa, rv b3_b2, rv b7] [] _
    refine XS.iconst X23.here hx rfl (hb hby at_50) ?_
    refine XS.goto X23.here hx rfl (pc0 := 51) (pc' := 55) rfl (hb hby at_51) (by decide) (by decide) ?_
    show SS p e below T23 m 55 #[iv p1, iv p2, iv p3, rv xa, rv b3_b2, rv b7] [(.int (1 : Int32))] _
    exact retN X23 hx (t := .boolean) hret (by simp) (hb hby at_55) hr
set_option maxRecDepth 65536 in
set_option maxHeartbeats 40000000 in
theorem rm0_HL0 (l : Launch) (Z : State) (a0 : Array Value) (hw : HW Z a0) (ws : List Jvm.Cond) (p1 : Int32) (p2 : Int32) (p3 : Int32) (o_cache : Addr) (h0 : Heap) (n0 : Nat) (O0 : Old Z n0 h0) (S_c_high : SA16 Z Z.heap (.int (127 : Int32))) (S_o_cache : SA17 Z Z.heap (.ref o_cache)) (E_o_cache : EA15 Z Z.heap o_cache) (h1xa : ¬ (p1 < (-128 : Int32))) (h2xa : (127 : Int32) < p1) (h1xb : p2 < (-128 : Int32)) (hf : (p3 &&& (1 : Int32)) = (0 : Int32)) :
    MetW l Z ws x code maxLocals ret room_1 #[(.int p1), (.int p2), (.int p3)] h0 (fun v _ L => Q0 n0 v L) := by
  have W := fun (i : Nat) {c : Jvm.Cond} (q : tables_1[i]? = some c) => hw c (List.mem_of_getElem? q)
  refine own_mkW (plainFor_of_name pn_70) ?_
  intro p e s m below meth c s₁ hZ hx hby hml hown hnm hret hlk X0 e0
  have N0 := Fr.nil n0
  obtain ⟨_, T1, L1, X1, hQ1, st1⟩ := own_cs X0 hx hZ hown hml (W 0 rfl) (W 1 rfl) (W 2 rfl) (W 3 rfl) (rm14_valueOf l Z a0 hw p1 h0 n0 O0 (h1xa) (S_c_high) (h2xa)) e0 (hb hby at_1) 0 #[iv p1, iv p2, iv p3, .unset, .unset, .unset] [(.int p1)] [] pd_24 (by decide) rfl rfl rfl (Nat.le_of_eq rfl)
  obtain ⟨b1_b2, rfl, N1q, K1, gb1_0, F1_0, F1_1⟩ := hQ1
  have N2 := Fr.app N0 N1q
  have O3 := O0.keep K1 all0
  have K4 : Keep h0 T1.heap [] := Keep.trans (Keep.refl h0 []) K1 all0
  obtain ⟨_, T5, L5, X5, hQ5, st5⟩ := own_cs X1 hx hZ hown hml (W 0 rfl) (W 1 rfl) (W 2 rfl) (W 3 rfl) (rm3_valueOf l Z a0 hw p2 T1.heap n0 O3 (h1xb)) rfl (hb hby at_6) 0 #[iv p1, iv p2, iv p3, rv b1_b2, .unset, .unset] [(.int p2)] [] pd_24 (by decide) rfl rfl rfl (Nat.le_of_eq rfl)
  obtain ⟨b5_b1, rfl, N5q, K5, gb5_0, F5_0, F5_1⟩ := hQ5
  have N6 := Fr.app N2 N5q
  have O7 := O3.keep K5 all0
  have K8 : Keep h0 T5.heap [] := Keep.trans K4 K5 all0
  obtain ⟨T9, h9, X9, e9, E9, A9, D9, -, st9⟩ := newO X5 hx hZ hown (W 7 rfl) (W 8 rfl) (W 9 rfl) rfl (g := (mkF m 56 #[iv p1, iv p2, iv p3, rv b1_b2, rv b5_b1, .unset] [])) rfl (hb hby at_56) (by decide) (by decide)
  obtain ⟨b9, g9⟩ : ∃ z, z = T5.heap.size := ⟨_, rfl⟩
  rw [← g9] at A9 D9 st9
  have O10 := O7.ext E9
  have K11 : Keep h0 h9 [] := Keep.ext K8 E9
  have z13 : h0.size ≤ T1.heap.size := K1.1
  have z14 : h0.size ≤ T5.heap.size := (Nat.le_trans z13 K5.1)
  have g15 : n0 ≤ b9 := Nat.le_trans (Nat.le_trans (Nat.le_trans (Nat.le_of_eq O0.1.symm) O0.2.1) z14) (Nat.le_of_eq g9.symm)
  have X16 := (show Stand p l e _ (s.setVm s.vm) m _ below meth c _ _ _ _ from X9)
  obtain ⟨_, _, ⟨T12, L12, k12, n12⟩, -, Y12, hs12, hg12, ⟨Lc12, hQ12, l12, y12, z12⟩, st12⟩ := X16.specialBackS hx (y := Y4) rfl hown (mvT hZ (W 10 rfl)) (mvT hZ (W 11 rfl)) (mvT hZ (W 12 rfl)) (by decide) (backOfS (W := 1) (rm5_init l Z a0 hw b9 b1_b2 b5_b1 h9 n0 O10 (A9) ((D9 (Or.inr (W 29 rfl)) (ty := (.object "java/lang/Object")) (by decide) : FA11 Z h9 b9 .null)) (g15) ((D9 (Or.inr (W 32 rfl)) (ty := (.object "java/lang/Object")) (by decide) : FA12 Z h9 b9 .null))) hZ (W 12 rfl) (W 9 rfl) (by decide) (by decide)) (g := (mkF m 63 #[iv p1, iv p2, iv p3, rv b1_b2, rv b5_b1, .unset] [(.ref b5_b1), (.ref b1_b2), (.ref b9), (.ref b9)])) rfl (by rw [hml]; rfl) (Steps.refl _) (a := b9) (argsL := [(.ref b1_b2), (.ref b5_b1)]) (rest := [(.ref b9)]) (lenOf pd_48 rfl) rfl (by show 2 * 0 + _ ≤ _; exact Nat.le_of_eq rfl) (hb hby at_63) (fun _ _ => ⟨rfl, e9, (by decide : 3 + 4 ≤ _), (by decide : 4 + 36 ≤ _)⟩)
  dsimp only [Pt.U, Pt.locs, Pt.cells, Pt.slots] at Y12 l12 y12 z12 st12 hQ12 hs12 hg12
  subst l12 y12 z12
  obtain ⟨X12, hS12, hZ12, hown12⟩ := rebS (s := s) (vm0 := s.vm) ((State.WarmedH.refl s).since 0) (Nat.zero_le _) Y12 hs12 hg12 hZ hown
  obtain ⟨rfl, N12q, K12, F12_0, F12_1⟩ := hQ12
  have N17 := Fr.app N6 N12q
  have O18 := O10.keep K12 (allS g15 all0)
  have K19 : Keep h0 T12.heap [] := Keep.trans K11 K12 (allS (Or.inr (Nat.le_trans z14 (Nat.le_of_eq g9.symm))) all0)
  have f21 := (A9.keep K12)
  obtain ⟨_, T20, L20, X20, hQ20, st20⟩ := own_cv X12 hx hZ12 hown12 hml (W 33 rfl) (W 34 rfl) (notFace_of_selects (W 36 rfl)) (W 36 rfl) (W 35 rfl) (W 9 rfl) (W 37 rfl) (rm6_isOpenAtTop l Z a0 hw b9 b5_b1 T12.heap n0 O18 (F12_1)) rfl f21 (hb hby at_70) 0 #[iv p1, iv p2, iv p3, rv b1_b2, rv b5_b1, rv b9] [] [] pd_54 (by decide) rfl rfl rfl (Nat.le_of_eq rfl)
  obtain ⟨rfl, N20q, K20⟩ := hQ20
  have N22 := Fr.app N17 N20q
  obtain ⟨_, T23, L23, X23, hQ23, st23⟩ := own_cv X20 hx hZ12 hown12 hml (W 38 rfl) (W 39 rfl) (notFace_of_selects (W 41 rfl)) (W 41 rfl) (W 40 rfl) (W 9 rfl) (W 42 rfl) (rm7_getLow l Z a0 hw b9 b1_b2 T12.heap n0 O18 (F12_0)) K20 f21 (hb hby at_78) 0 #[iv p1, iv p2, iv p3, rv b1_b2, rv b5_b1, rv b9] [] [] pd_58 (by decide) rfl rfl rfl (Nat.le_of_eq rfl)
  obtain ⟨rfl, N23q, K23⟩ := hQ23
  have N24 := Fr.app N22 N23q
  have f26 := (((F1_0.keep K5).ext E9).keep K12)
  obtain ⟨T25, X25, e25, st25⟩ := castY X23 hx hZ12 hown12 (W 43 rfl) K23 (Ins.self f26) (g := (mkF m 81 #[iv p1, iv p2, iv p3, rv b1_b2, rv b5_b1, rv b9] [(.ref b1_b2)])) rfl rfl (hb hby at_81)
  have z28 : T1.heap.size ≤ T5.heap.size := K5.1
  have f29 := (((F1_1.keep K5 nin0).ext E9).keep K12 (ninS (Nat.ne_of_lt (Nat.lt_of_lt_of_le (Nat.lt_of_lt_of_le F1_0.lt z28) (Nat.le_of_eq g9.symm))) nin0))
  obtain ⟨_, T27, L27, X27, hQ27, st27⟩ := own_cv X25 hx hZ12 hown12 hml (W 45 rfl) (W 46 rfl) (notFace_of_selects (W 48 rfl)) (W 48 rfl) (W 47 rfl) (W 2 rfl) (W 49 rfl) (rm8_intValue l Z a0 hw b1_b2 p1 T12.heap n0 O18 (f29)) e25 f26 (hb hby at_84) 0 #[iv p1, iv p2, iv p3, rv b1_b2, rv b5_b1, rv b9] [] [] pd_62 (by decide) rfl rfl rfl (Nat.le_of_eq rfl)
  obtain ⟨rfl, N27q, K27⟩ := hQ27
  have N30 := Fr.app N24 N27q
  obtain ⟨_, T31, L31, X31, hQ31, st31⟩ := own_cv X27 hx hZ12 hown12 hml (W 52 rfl) (W 53 rfl) (notFace_of_selects (W 55 rfl)) (W 55 rfl) (W 54 rfl) (W 9 rfl) (W 56 rfl) (rm9_getHigh l Z a0 hw b9 b5_b1 T12.heap n0 O18 (F12_1)) K27 f21 (hb hby at_93) 0 #[iv p1, iv p2, iv p3, rv b1_b2, rv b5_b1, rv b9] [] [] pd_58 (by decide) rfl rfl rfl (Nat.le_of_eq rfl)
  obtain ⟨rfl, N31q, K31⟩ := hQ31
  have N32 := Fr.app N30 N31q
  have f34 := ((F5_0.ext E9).keep K12)
  obtain ⟨T33, X33, e33, st33⟩ := castY X31 hx hZ12 hown12 (W 43 rfl) K31 (Ins.self f34) (g := (mkF m 96 #[iv p1, iv p2, iv p3, rv b1_b2, rv b5_b1, rv b9] [(.ref b5_b1)])) rfl rfl (hb hby at_96)
  have f36 := ((F5_1.ext E9).keep K12 (ninS (Nat.ne_of_lt (Nat.lt_of_lt_of_le F5_0.lt (Nat.le_of_eq g9.symm))) nin0))
  obtain ⟨_, T35, L35, X35, hQ35, st35⟩ := own_cv X33 hx hZ12 hown12 hml (W 45 rfl) (W 46 rfl) (notFace_of_selects (W 48 rfl)) (W 48 rfl) (W 47 rfl) (W 2 rfl) (W 49 rfl) (rm8_intValue l Z a0 hw b5_b1 p2 T12.heap n0 O18 (f36)) e33 f34 (hb hby at_99) 0 #[iv p1, iv p2, iv p3, rv b1_b2, rv b5_b1, rv b9] [] [] pd_62 (by decide) rfl rfl rfl (Nat.le_of_eq rfl)
  obtain ⟨rfl, N35q, K35⟩ := hQ35
  have N37 := Fr.app N32 N35q
  refine ⟨T35, some (.int (1 : Int32)), _, _, _, T12.vm, _, X35, hS12, (by rw [K35]; exact (Nat.le_refl _)), by decide, by decide, nofun, ?_, fun fs hr => castTop (ef_69 m p1 p2 p3) ?_⟩
  · exact ⟨rfl, N37⟩
  · show SS p e below s₁ m 0 #[iv p1, iv p2, iv p3, .unset, .unset, .unset] [] _
    refine XS.iloadN X0.here hx rfl (hb hby at_0) rfl ?_
    show SS p e below s₁ m 1 #[iv p1, iv p2, iv p3, .unset, .unset, .unset] [(.int p1)] _
    refine st1 _ ?_
    show SS p e below T1 m 4 #[iv p1, iv p2, iv p3, .unset, .unset, .unset] [(.ref b1_b2)] _
    refine XS.astoreN X1.here hx rfl (hb hby at_4) rfl rfl (l' := #[iv p1, iv p2, iv p3, rv b1_b2, .unset, .unset]) rfl ?_
    show SS p e below T1 m 5 #[iv p1, iv p2, iv p3, rv b1_b2, .unset, .unset] [] _
    refine XS.iloadN X1.here hx rfl (hb hby at_5) rfl ?_
    show SS p e below T1 m 6 #[iv p1, iv p2, iv p3, rv b1_b2, .unset, .unset] [(.int p2)] _
    refine st5 _ ?_
    show SS p e below T5 m 9 #[iv p1, iv p2, iv p3, rv b1_b2, .unset, .unset] [(.ref b5_b1)] _
    refine XS.astore X5.here hx rfl (hb hby at_9) rfl rfl (l' := #[iv p1, iv p2, iv p3, rv b1_b2, rv b5_b1, .unset]) rfl ?_
    show SS p e below T5 m 11 #[iv p1, iv p2, iv p3, rv b1_b2, rv b5_b1, .unset] [] _
    refine XS.iloadN X5.here hx rfl (hb hby at_11) rfl ?_
    refine XS.iconst X5.here hx rfl (hb hby at_12) ?_
    show SS p e below T5 m 13 #[iv p1, iv p2, iv p3, rv b1_b2, rv b5_b1, .unset] [(.int (1 : Int32)), (.int p3)] _
    refine XS.iand X5.here hx rfl (hb hby at_13) rfl ?_
    rw [hf]
    show SS p e below T5 m 14 #[iv p1, iv p2, iv p3, rv b1_b2, rv b5_b1, .unset] [(.int (0 : Int32))] _
    refine XS.ifYes X5.here hx rfl (pc0 := 14) (pc' := 56) rfl (hb hby at_14) rfl ((if0 _ _).trans (teq (by decide : (0 : Int32) = (0 : Int32))).1) (by decide) (by decide) ?_
    show SS p e below T5 m 56 #[iv p1, iv p2, iv p3, rv b1_b2, rv b5_b1, .unset] [] _
    refine st9 _ ?_
    show SS p e below T9 m 59 #[iv p1, iv p2, iv p3, rv b1_b2, rv b5_b1, .unset] [(.ref b9)] _
    refine XS.dup X9.here hx rfl (hb hby at_59) rfl rfl ?_
    refine XS.aloadN X9.here hx rfl (hb hby at_60) rfl rfl ?_
    refine XS.aload X9.here hx rfl (hb hby at_61) rfl rfl ?_
    show SS p e below T9 m 63 #[iv p1, iv p2, iv p3, rv b1_b2, rv b5_b1, .unset] [(.ref b5_b1), (.ref b1_b2), (.ref b9), (.ref b9)] _
    refine st12.trans ?_
    show SS p e below T12 m 66 #[iv p1, iv p2, iv p3, rv b1_b2, rv b5_b1, .unset] [(.ref b9)] _
    refine XS.astore X12.here hx rfl (hb hby at_66) rfl rfl (l' := #[iv p1, iv p2, iv p3, rv b1_b2, rv b5_b1, rv b9]) rfl ?_
    show SS p e below T12 m 68 #[iv p1, iv p2, iv p3, rv b1_b2, rv b5_b1, rv b9] [] _
    refine XS.aload X12.here hx rfl (hb hby at_68) rfl rfl ?_
    show SS p e below T12 m 70 #[iv p1, iv p2, iv p3, rv b1_b2, rv b5_b1, rv b9] [(.ref b9)] _
    refine st20 _ ?_
    show SS p e below T20 m 73 #[iv p1, iv p2, iv p3, rv b1_b2, rv b5_b1, rv b9] [(.int (0 : Int32))] _
    refine XS.ifNo X20.here hx rfl (hb hby at_73) rfl ((if0 _ _).trans (teq (by decide : (0 : Int32) = (0 : Int32))).2) ?_
    show SS p e below T20 m 76 #[iv p1, iv p2, iv p3, rv b1_b2, rv b5_b1, rv b9] [] _
    refine XS.aload X20.here hx rfl (hb hby at_76) rfl rfl ?_
    show SS p e below T20 m 78 #[iv p1, iv p2, iv p3, rv b1_b2, rv b5_b1, rv b9] [(.ref b9)] _
    refine st23 _ ?_
    show SS p e below T23 m 81 #[iv p1, iv p2, iv p3, rv b1_b2, rv b5_b1, rv b9] [(.ref b1_b2)] _
    refine st25 _ ?_
    show SS p e below T25 m 84 #[iv p1, iv p2, iv p3, rv b1_b2, rv b5_b1, rv b9] [(.ref b1_b2)] _
    refine st27 _ ?_
    show SS p e below T27 m 87 #[iv p1, iv p2, iv p3, rv b1_b2, rv b5_b1, rv b9] [(.int p1)] _
    refine XS.iloadN X27.here hx rfl (hb hby at_87) rfl ?_
    show SS p e below T27 m 88 #[iv p1, iv p2, iv p3, rv b1_b2, rv b5_b1, rv b9] [(.int p1), (.int p1)] _
    refine XS.icmpNo X27.here hx rfl (hb hby at_88) rfl (teq (rfl : p1 = p1)).2 ?_
    show SS p e below T27 m 91 #[iv p1, iv p2, iv p3, rv b1_b2, rv b5_b1, rv b9] [] _
    refine XS.aload X27.here hx rfl (hb hby at_91) rfl rfl ?_
    show SS p e below T27 m 93 #[iv p1, iv p2, iv p3, rv b1_b2, rv b5_b1, rv b9] [(.ref b9)] _
    refine st31 _ ?_
    show SS p e below T31 m 96 #[iv p1, iv p2, iv p3, rv b1_b2, rv b5_b1, rv b9] [(.ref b5_b1)] _
    refine st33 _ ?_
    show SS p e below T33 m 99 #[iv p1, iv p2, iv p3, rv b1_b2, rv b5_b1, rv b9] [(.ref b5_b1)] _
    refine st35 _ ?_
    show SS p e below T35 m 102 #[iv p1, iv p2, iv p3, rv b1_b2, rv b5_b1, rv b9] [(.int p2)] _
    refine XS.iloadN X35.here hx rfl (hb hby at_102) rfl ?_
    show SS p e below T35 m 103 #[iv p1, iv p2, iv p3, rv b1_b2, rv b5_b1, rv b9] [(.int p2), (.int p2)] _
    refine XS.icmpNo X35.here hx rfl (hb hby at_103) rfl (teq (rfl : p2 = p2)).2 ?_
    show SS p e below T35 m 106 #[iv p1, iv p2, iv p3, rv b1_b2, rv b5_b1, rv b9] [] _
    refine XS.iconst X35.here hx rfl (hb hby at_106) ?_
    refine XS.goto X35.here hx rfl (pc0 := 107) (pc' := 111) rfl (hb hby at_107) (by decide) (by decide) ?_
    show SS p e below T35 m 111 #[iv p1, iv p2, iv p3, rv b1_b2, rv b5_b1, rv b9] [(.int (1 : Int32))] _
    exact retN X35 hx (t := .boolean) hret (by simp) (hb hby at_111) hr
set_option maxRecDepth 65536 in
set_option maxHeartbeats 40000000 in
theorem rm0_HL1 (l : Launch) (Z : State) (a0 : Array Value) (hw : HW Z a0) (ws : List Jvm.Cond) (p1 : Int32) (p2 : Int32) (p3 : Int32) (o_cache : Addr) (h0 : Heap) (n0 : Nat) (O0 : Old Z n0 h0) (S_c_high : SA16 Z Z.heap (.int (127 : Int32))) (S_o_cache : SA17 Z Z.heap (.ref o_cache)) (E_o_cache : EA15 Z Z.heap o_cache) (h1xa : ¬ (p1 < (-128 : Int32))) (h2xa : (127 : Int32) < p1) (h1xb : p2 < (-128 : Int32)) (hf : (p3 &&& (1 : Int32)) = (1 : Int32)) :
    MetW l Z ws x code maxLocals ret room_1 #[(.int p1), (.int p2), (.int p3)] h0 (fun v _ L => Q0 n0 v L) := by
  have W := fun (i : Nat) {c : Jvm.Cond} (q : tables_1[i]? = some c) => hw c (List.mem_of_getElem? q)
  refine own_mkW (plainFor_of_name pn_70) ?_
  intro p e s m below meth c s₁ hZ hx hby hml hown hnm hret hlk X0 e0
  have N0 := Fr.nil n0
  obtain ⟨_, T1, L1, X1, hQ1, st1⟩ := own_cs X0 hx hZ hown hml (W 0 rfl) (W 1 rfl) (W 2 rfl) (W 3 rfl) (rm14_valueOf l Z a0 hw p1 h0 n0 O0 (h1xa) (S_c_high) (h2xa)) e0 (hb hby at_1) 0 #[iv p1, iv p2, iv p3, .unset, .unset, .unset] [(.int p1)] [] pd_24 (by decide) rfl rfl rfl (Nat.le_of_eq rfl)
  obtain ⟨b1_b2, rfl, N1q, K1, gb1_0, F1_0, F1_1⟩ := hQ1
  have N2 := Fr.app N0 N1q
  have O3 := O0.keep K1 all0
  have K4 : Keep h0 T1.heap [] := Keep.trans (Keep.refl h0 []) K1 all0
  obtain ⟨_, T5, L5, X5, hQ5, st5⟩ := own_cs X1 hx hZ hown hml (W 0 rfl) (W 1 rfl) (W 2 rfl) (W 3 rfl) (rm3_valueOf l Z a0 hw p2 T1.heap n0 O3 (h1xb)) rfl (hb hby at_6) 0 #[iv p1, iv p2, iv p3, rv b1_b2, .unset, .unset] [(.int p2)] [] pd_24 (by decide) rfl rfl rfl (Nat.le_of_eq rfl)
  obtain ⟨b5_b1, rfl, N5q, K5, gb5_0, F5_0, F5_1⟩ := hQ5
  have N6 := Fr.app N2 N5q
  have O7 := O3.keep K5 all0
  have K8 : Keep h0 T5.heap [] := Keep.trans K4 K5 all0
  obtain ⟨T9, h9, X9, e9, E9, A9, D9, -, st9⟩ := newO X5 hx hZ hown (W 7 rfl) (W 8 rfl) (W 9 rfl) rfl (g := (mkF m 17 #[iv p1, iv p2, iv p3, rv b1_b2, rv b5_b1, .unset] [])) rfl (hb hby at_17) (by decide) (by decide)
  obtain ⟨b9, g9⟩ : ∃ z, z = T5.heap.size := ⟨_, rfl⟩
  rw [← g9] at A9 D9 st9
  have O10 := O7.ext E9
  have K11 : Keep h0 h9 [] := Keep.ext K8 E9
  have z13 : h0.size ≤ T1.heap.size := K1.1
  have z14 : h0.size ≤ T5.heap.size := (Nat.le_trans z13 K5.1)
  have g15 : n0 ≤ b9 := Nat.le_trans (Nat.le_trans (Nat.le_trans (Nat.le_of_eq O0.1.symm) O0.2.1) z14) (Nat.le_of_eq g9.symm)
  have X16 := (show Stand p l e _ (s.setVm s.vm) m _ below meth c _ _ _ _ from X9)
  obtain ⟨_, _, ⟨T12, L12, k12, n12⟩, -, Y12, hs12, hg12, ⟨Lc12, hQ12, l12, y12, z12⟩, st12⟩ := X16.specialBackS hx (y := Y9) rfl hown (mvT hZ (W 57 rfl)) (mvT hZ (W 58 rfl)) (mvT hZ (W 59 rfl)) (by decide) (backOfS (W := 1) (rm10_init l Z a0 hw b9 b1_b2 h9 n0 O10 (A9) ((D9 (Or.inr (W 29 rfl)) (ty := (.object "java/lang/Object")) (by decide) : FA11 Z h9 b9 .null)) (g15) ((D9 (Or.inr (W 32 rfl)) (ty := (.object "java/lang/Object")) (by decide) : FA12 Z h9 b9 .null))) hZ (W 59 rfl) (W 9 rfl) (by decide) (by decide)) (g := (mkF m 22 #[iv p1, iv p2, iv p3, rv b1_b2, rv b5_b1, .unset] [(.ref b1_b2), (.ref b9), (.ref b9)])) rfl (by rw [hml]; rfl) (Steps.refl _) (a := b9) (argsL := [(.ref b1_b2)]) (rest := [(.ref b9)]) (lenOf pd_82 rfl) rfl (by show 2 * 0 + _ ≤ _; exact Nat.le_of_eq rfl) (hb hby at_22) (fun _ _ => ⟨rfl, e9, (by decide : 3 + 2 ≤ _), (by decide : 4 + 16 ≤ _)⟩)
  dsimp only [Pt.U, Pt.locs, Pt.cells, Pt.slots] at Y12 l12 y12 z12 st12 hQ12 hs12 hg12
  subst l12 y12 z12
  obtain ⟨X12, hS12, hZ12, hown12⟩ := rebS (s := s) (vm0 := s.vm) ((State.WarmedH.refl s).since 0) (Nat.zero_le _) Y12 hs12 hg12 hZ hown
  obtain ⟨rfl, N12q, K12, F12_0, F12_1⟩ := hQ12
  have N17 := Fr.app N6 N12q
  have O18 := O10.keep K12 (allS g15 all0)
  have K19 : Keep h0 T12.heap [] := Keep.trans K11 K12 (allS (Or.inr (Nat.le_trans z14 (Nat.le_of_eq g9.symm))) all0)
  have f21 := (A9.keep K12)
  obtain ⟨_, T20, L20, X20, hQ20, st20⟩ := own_cv X12 hx hZ12 hown12 hml (W 33 rfl) (W 34 rfl) (notFace_of_selects (W 36 rfl)) (W 36 rfl) (W 35 rfl) (W 9 rfl) (W 37 rfl) (rm11_isOpenAtTop l Z a0 hw b9 T12.heap n0 O18 (F12_1)) rfl f21 (hb hby at_29) 0 #[iv p1, iv p2, iv p3, rv b1_b2, rv b5_b1, rv b9] [] [] pd_54 (by decide) rfl rfl rfl (Nat.le_of_eq rfl)
  obtain ⟨rfl, N20q, K20⟩ := hQ20
  have N22 := Fr.app N17 N20q
  obtain ⟨_, T23, L23, X23, hQ23, st23⟩ := own_cv X20 hx hZ12 hown12 hml (W 38 rfl) (W 39 rfl) (notFace_of_selects (W 41 rfl)) (W 41 rfl) (W 40 rfl) (W 9 rfl) (W 42 rfl) (rm7_getLow l Z a0 hw b9 b1_b2 T12.heap n0 O18 (F12_0)) K20 f21 (hb hby at_37) 0 #[iv p1, iv p2, iv p3, rv b1_b2, rv b5_b1, rv b9] [] [] pd_58 (by decide) rfl rfl rfl (Nat.le_of_eq rfl)
  obtain ⟨rfl, N23q, K23⟩ := hQ23
  have N24 := Fr.app N22 N23q
  have f26 := (((F1_0.keep K5).ext E9).keep K12)
  obtain ⟨T25, X25, e25, st25⟩ := castY X23 hx hZ12 hown12 (W 43 rfl) K23 (Ins.self f26) (g := (mkF m 40 #[iv p1, iv p2, iv p3, rv b1_b2, rv b5_b1, rv b9] [(.ref b1_b2)])) rfl rfl (hb hby at_40)
  have z28 : T1.heap.size ≤ T5.heap.size := K5.1
  have f29 := (((F1_1.keep K5 nin0).ext E9).keep K12 (ninS (Nat.ne_of_lt (Nat.lt_of_lt_of_le (Nat.lt_of_lt_of_le F1_0.lt z28) (Nat.le_of_eq g9.symm))) nin0))
  obtain ⟨_, T27, L27, X27, hQ27, st27⟩ := own_cv X25 hx hZ12 hown12 hml (W 45 rfl) (W 46 rfl) (notFace_of_selects (W 48 rfl)) (W 48 rfl) (W 47 rfl) (W 2 rfl) (W 49 rfl) (rm8_intValue l Z a0 hw b1_b2 p1 T12.heap n0 O18 (f29)) e25 f26 (hb hby at_43) 0 #[iv p1, iv p2, iv p3, rv b1_b2, rv b5_b1, rv b9] [] [] pd_62 (by decide) rfl rfl rfl (Nat.le_of_eq rfl)
  obtain ⟨rfl, N27q, K27⟩ := hQ27
  have N30 := Fr.app N24 N27q
  refine ⟨T27, some (.int (1 : Int32)), _, _, _, T12.vm, _, X27, hS12, (by rw [K27]; exact (Nat.le_refl _)), by decide, by decide, nofun, ?_, fun fs hr => castTop (ef_69 m p1 p2 p3) ?_⟩
  · exact ⟨rfl, N30⟩
  · show SS p e below s₁ m 0 #[iv p1, iv p2, iv p3, .unset, .unset, .unset] [] _
    refine XS.iloadN X0.here hx rfl (hb hby at_0) rfl ?_
    show SS p e below s₁ m 1 #[iv p1, iv p2, iv p3, .unset, .unset, .unset] [(.int p1)] _
    refine st1 _ ?_
    show SS p e below T1 m 4 #[iv p1, iv p2, iv p3, .unset, .unset, .unset] [(.ref b1_b2)] _
    refine XS.astoreN X1.here hx rfl (hb hby at_4) rfl rfl (l' := #[iv p1, iv p2, iv p3, rv b1_b2, .unset, .unset]) rfl ?_
    show SS p e below T1 m 5 #[iv p1, iv p2, iv p3, rv b1_b2, .unset, .unset] [] _
    refine XS.iloadN X1.here hx rfl (hb hby at_5) rfl ?_
    show SS p e below T1 m 6 #[iv p1, iv p2, iv p3, rv b1_b2, .unset, .unset] [(.int p2)] _
    refine st5 _ ?_
    show SS p e below T5 m 9 #[iv p1, iv p2, iv p3, rv b1_b2, .unset, .unset] [(.ref b5_b1)] _
    refine XS.astore X5.here hx rfl (hb hby at_9) rfl rfl (l' := #[iv p1, iv p2, iv p3, rv b1_b2, rv b5_b1, .unset]) rfl ?_
    show SS p e below T5 m 11 #[iv p1, iv p2, iv p3, rv b1_b2, rv b5_b1, .unset] [] _
    refine XS.iloadN X5.here hx rfl (hb hby at_11) rfl ?_
    refine XS.iconst X5.here hx rfl (hb hby at_12) ?_
    show SS p e below T5 m 13 #[iv p1, iv p2, iv p3, rv b1_b2, rv b5_b1, .unset] [(.int (1 : Int32)), (.int p3)] _
    refine XS.iand X5.here hx rfl (hb hby at_13) rfl ?_
    rw [hf]
    show SS p e below T5 m 14 #[iv p1, iv p2, iv p3, rv b1_b2, rv b5_b1, .unset] [(.int (1 : Int32))] _
    refine XS.ifNo X5.here hx rfl (hb hby at_14) rfl ((if0 _ _).trans (feq (by decide : ¬ ((1 : Int32) = (0 : Int32)))).1) ?_
    show SS p e below T5 m 17 #[iv p1, iv p2, iv p3, rv b1_b2, rv b5_b1, .unset] [] _
    refine st9 _ ?_
    show SS p e below T9 m 20 #[iv p1, iv p2, iv p3, rv b1_b2, rv b5_b1, .unset] [(.ref b9)] _
    refine XS.dup X9.here hx rfl (hb hby at_20) rfl rfl ?_
    refine XS.aloadN X9.here hx rfl (hb hby at_21) rfl rfl ?_
    show SS p e below T9 m 22 #[iv p1, iv p2, iv p3, rv b1_b2, rv b5_b1, .unset] [(.ref b1_b2), (.ref b9), (.ref b9)] _
    refine st12.trans ?_
    show SS p e below T12 m 25 #[iv p1, iv p2, iv p3, rv b1_b2, rv b5_b1, .unset] [(.ref b9)] _
    refine XS.astore X12.here hx rfl (hb hby at_25) rfl rfl (l' := #[iv p1, iv p2, iv p3, rv b1_b2, rv b5_b1, rv b9]) rfl ?_
    show SS p e below T12 m 27 #[iv p1, iv p2, iv p3, rv b1_b2, rv b5_b1, rv b9] [] _
    refine XS.aload X12.here hx rfl (hb hby at_27) rfl rfl ?_
    show SS p e below T12 m 29 #[iv p1, iv p2, iv p3, rv b1_b2, rv b5_b1, rv b9] [(.ref b9)] _
    refine st20 _ ?_
    show SS p e below T20 m 32 #[iv p1, iv p2, iv p3, rv b1_b2, rv b5_b1, rv b9] [(.int (1 : Int32))] _
    refine XS.ifNo X20.here hx rfl (hb hby at_32) rfl ((if0 _ _).trans (feq (by decide : ¬ ((1 : Int32) = (0 : Int32)))).1) ?_
    show SS p e below T20 m 35 #[iv p1, iv p2, iv p3, rv b1_b2, rv b5_b1, rv b9] [] _
    refine XS.aload X20.here hx rfl (hb hby at_35) rfl rfl ?_
    show SS p e below T20 m 37 #[iv p1, iv p2, iv p3, rv b1_b2, rv b5_b1, rv b9] [(.ref b9)] _
    refine st23 _ ?_
    show SS p e below T23 m 40 #[iv p1, iv p2, iv p3, rv b1_b2, rv b5_b1, rv b9] [(.ref b1_b2)] _
    refine st25 _ ?_
    show SS p e below T25 m 43 #[iv p1, iv p2, iv p3, rv b1_b2, rv b5_b1, rv b9] [(.ref b1_b2)] _
    refine st27 _ ?_
    show SS p e below T27 m 46 #[iv p1, iv p2, iv p3, rv b1_b2, rv b5_b1, rv b9] [(.int p1)] _
    refine XS.iloadN X27.here hx rfl (hb hby at_46) rfl ?_
    show SS p e below T27 m 47 #[iv p1, iv p2, iv p3, rv b1_b2, rv b5_b1, rv b9] [(.int p1), (.int p1)] _
    refine XS.icmpNo X27.here hx rfl (hb hby at_47) rfl (teq (rfl : p1 = p1)).2 ?_
    show SS p e below T27 m 50 #[iv p1, iv p2, iv p3, rv b1_b2, rv b5_b1, rv b9] [] _
    refine XS.iconst X27.here hx rfl (hb hby at_50) ?_
    refine XS.goto X27.here hx rfl (pc0 := 51) (pc' := 55) rfl (hb hby at_51) (by decide) (by decide) ?_
    show SS p e below T27 m 55 #[iv p1, iv p2, iv p3, rv b1_b2, rv b5_b1, rv b9] [(.int (1 : Int32))] _
    exact retN X27 hx (t := .boolean) hret (by simp) (hb hby at_55) hr
set_option maxRecDepth 65536 in
set_option maxHeartbeats 40000000 in
theorem rm0_HC0 (l : Launch) (Z : State) (a0 : Array Value) (hw : HW Z a0) (ws : List Jvm.Cond) (p1 : Int32) (p2 : Int32) (p3 : Int32) (o_cache : Addr) (xb : Addr) (h0 : Heap) (n0 : Nat) (O0 : Old Z n0 h0) (S_c_high : SA16 Z Z.heap (.int (127 : Int32))) (S_o_cache : SA17 Z Z.heap (.ref o_cache)) (E_o_cache : EA15 Z Z.heap o_cache) (E_xb : EA13 Z Z.heap xb) (F_xb : FA10 Z Z.heap xb (.int p2)) (Et_xb : Elt Z Z.heap o_cache (.object "java/lang/Integer") (p2 + (128 : Int32)) (.ref xb)) (h1xa : ¬ (p1 < (-128 : Int32))) (h2xa : (127 : Int32) < p1) (h1xb : ¬ (p2 < (-128 : Int32))) (h2xb : ¬ ((127 : Int32) < p2)) (hf : (p3 &&& (1 : Int32)) = (0 : Int32)) :
    MetW l Z ws x code maxLocals ret room_1 #[(.int p1), (.int p2), (.int p3)] h0 (fun v _ L => Q0 n0 v L) := by
  have W := fun (i : Nat) {c : Jvm.Cond} (q : tables_1[i]? = some c) => hw c (List.mem_of_getElem? q)
  refine own_mkW (plainFor_of_name pn_70) ?_
  intro p e s m below meth c s₁ hZ hx hby hml hown hnm hret hlk X0 e0
  have N0 := Fr.nil n0
  obtain ⟨_, T1, L1, X1, hQ1, st1⟩ := own_cs X0 hx hZ hown hml (W 0 rfl) (W 1 rfl) (W 2 rfl) (W 3 rfl) (rm14_valueOf l Z a0 hw p1 h0 n0 O0 (h1xa) (S_c_high) (h2xa)) e0 (hb hby at_1) 0 #[iv p1, iv p2, iv p3, .unset, .unset, .unset] [(.int p1)] [] pd_24 (by decide) rfl rfl rfl (Nat.le_of_eq rfl)
  obtain ⟨b1_b2, rfl, N1q, K1, gb1_0, F1_0, F1_1⟩ := hQ1
  have N2 := Fr.app N0 N1q
  have O3 := O0.keep K1 all0
  have K4 : Keep h0 T1.heap [] := Keep.trans (Keep.refl h0 []) K1 all0
  obtain ⟨_, T5, L5, X5, hQ5, st5⟩ := own_cs X1 hx hZ hown hml (W 0 rfl) (W 1 rfl) (W 2 rfl) (W 3 rfl) (rm12_valueOf l Z a0 hw p2 o_cache xb T1.heap n0 O3 (h1xb) (S_c_high) (h2xb) (S_o_cache) (Et_xb)) rfl (hb hby at_6) 0 #[iv p1, iv p2, iv p3, rv b1_b2, .unset, .unset] [(.int p2)] [] pd_24 (by decide) rfl rfl rfl (Nat.le_of_eq rfl)
  obtain ⟨rfl, N5q, K5⟩ := hQ5
  have N6 := Fr.app N2 N5q
  obtain ⟨T7, h7, X7, e7, E7, A7, D7, -, st7⟩ := newO X5 hx hZ hown (W 7 rfl) (W 8 rfl) (W 9 rfl) K5 (g := (mkF m 56 #[iv p1, iv p2, iv p3, rv b1_b2, rv xb, .unset] [])) rfl (hb hby at_56) (by decide) (by decide)
  obtain ⟨b7, g7⟩ : ∃ z, z = T1.heap.size := ⟨_, rfl⟩
  rw [← g7] at A7 D7 st7
  have O8 := O3.ext E7
  have K9 : Keep h0 h7 [] := Keep.ext K4 E7
  have z11 : h0.size ≤ T1.heap.size := K1.1
  have g12 : n0 ≤ b7 := Nat.le_trans (Nat.le_trans (Nat.le_trans (Nat.le_of_eq O0.1.symm) O0.2.1) z11) (Nat.le_of_eq g7.symm)
  have X13 := (show Stand p l e _ (s.setVm s.vm) m _ below meth c _ _ _ _ from X7)
  obtain ⟨_, _, ⟨T10, L10, k10, n10⟩, -, Y10, hs10, hg10, ⟨Lc10, hQ10, l10, y10, z10⟩, st10⟩ := X13.specialBackS hx (y := Y4) rfl hown (mvT hZ (W 10 rfl)) (mvT hZ (W 11 rfl)) (mvT hZ (W 12 rfl)) (by decide) (backOfS (W := 1) (rm5_init l Z a0 hw b7 b1_b2 xb h7 n0 O8 (A7) ((D7 (Or.inr (W 29 rfl)) (ty := (.object "java/lang/Object")) (by decide) : FA11 Z h7 b7 .null)) (g12) ((D7 (Or.inr (W 32 rfl)) (ty := (.object "java/lang/Object")) (by decide) : FA12 Z h7 b7 .null))) hZ (W 12 rfl) (W 9 rfl) (by decide) (by decide)) (g := (mkF m 63 #[iv p1, iv p2, iv p3, rv b1_b2, rv xb, .unset] [(.ref xb), (.ref b1_b2), (.ref b7), (.ref b7)])) rfl (by rw [hml]; rfl) (Steps.refl _) (a := b7) (argsL := [(.ref b1_b2), (.ref xb)]) (rest := [(.ref b7)]) (lenOf pd_48 rfl) rfl (by show 2 * 0 + _ ≤ _; exact Nat.le_of_eq rfl) (hb hby at_63) (fun _ _ => ⟨rfl, e7, (by decide : 2 + 4 ≤ _), (by decide : 3 + 36 ≤ _)⟩)
  dsimp only [Pt.U, Pt.locs, Pt.cells, Pt.slots] at Y10 l10 y10 z10 st10 hQ10 hs10 hg10
  subst l10 y10 z10
  obtain ⟨X10, hS10, hZ10, hown10⟩ := rebS (s := s) (vm0 := s.vm) ((State.WarmedH.refl s).since 0) (Nat.zero_le _) Y10 hs10 hg10 hZ hown
  obtain ⟨rfl, N10q, K10, F10_0, F10_1⟩ := hQ10
  have N14 := Fr.app N6 N10q
  have O15 := O8.keep K10 (allS g12 all0)
  have K16 : Keep h0 T10.heap [] := Keep.trans K9 K10 (allS (Or.inr (Nat.le_trans z11 (Nat.le_of_eq g7.symm))) all0)
  have f18 := (A7.keep K10)
  obtain ⟨_, T17, L17, X17, hQ17, st17⟩ := own_cv X10 hx hZ10 hown10 hml (W 33 rfl) (W 34 rfl) (notFace_of_selects (W 36 rfl)) (W 36 rfl) (W 35 rfl) (W 9 rfl) (W 37 rfl) (rm6_isOpenAtTop l Z a0 hw b7 xb T10.heap n0 O15 (F10_1)) rfl f18 (hb hby at_70) 0 #[iv p1, iv p2, iv p3, rv b1_b2, rv xb, rv b7] [] [] pd_54 (by decide) rfl rfl rfl (Nat.le_of_eq rfl)
  obtain ⟨rfl, N17q, K17⟩ := hQ17
  have N19 := Fr.app N14 N17q
  obtain ⟨_, T20, L20, X20, hQ20, st20⟩ := own_cv X17 hx hZ10 hown10 hml (W 38 rfl) (W 39 rfl) (notFace_of_selects (W 41 rfl)) (W 41 rfl) (W 40 rfl) (W 9 rfl) (W 42 rfl) (rm7_getLow l Z a0 hw b7 b1_b2 T10.heap n0 O15 (F10_0)) K17 f18 (hb hby at_78) 0 #[iv p1, iv p2, iv p3, rv b1_b2, rv xb, rv b7] [] [] pd_58 (by decide) rfl rfl rfl (Nat.le_of_eq rfl)
  obtain ⟨rfl, N20q, K20⟩ := hQ20
  have N21 := Fr.app N19 N20q
  have f23 := ((F1_0.ext E7).keep K10)
  obtain ⟨T22, X22, e22, st22⟩ := castY X20 hx hZ10 hown10 (W 43 rfl) K20 (Ins.self f23) (g := (mkF m 81 #[iv p1, iv p2, iv p3, rv b1_b2, rv xb, rv b7] [(.ref b1_b2)])) rfl rfl (hb hby at_81)
  have f25 := ((F1_1.ext E7).keep K10 (ninS (Nat.ne_of_lt (Nat.lt_of_lt_of_le F1_0.lt (Nat.le_of_eq g7.symm))) nin0))
  obtain ⟨_, T24, L24, X24, hQ24, st24⟩ := own_cv X22 hx hZ10 hown10 hml (W 45 rfl) (W 46 rfl) (notFace_of_selects (W 48 rfl)) (W 48 rfl) (W 47 rfl) (W 2 rfl) (W 49 rfl) (rm8_intValue l Z a0 hw b1_b2 p1 T10.heap n0 O15 (f25)) e22 f23 (hb hby at_84) 0 #[iv p1, iv p2, iv p3, rv b1_b2, rv xb, rv b7] [] [] pd_62 (by decide) rfl rfl rfl (Nat.le_of_eq rfl)
  obtain ⟨rfl, N24q, K24⟩ := hQ24
  have N26 := Fr.app N21 N24q
  obtain ⟨_, T27, L27, X27, hQ27, st27⟩ := own_cv X24 hx hZ10 hown10 hml (W 52 rfl) (W 53 rfl) (notFace_of_selects (W 55 rfl)) (W 55 rfl) (W 54 rfl) (W 9 rfl) (W 56 rfl) (rm9_getHigh l Z a0 hw b7 xb T10.heap n0 O15 (F10_1)) K24 f18 (hb hby at_93) 0 #[iv p1, iv p2, iv p3, rv b1_b2, rv xb, rv b7] [] [] pd_58 (by decide) rfl rfl rfl (Nat.le_of_eq rfl)
  obtain ⟨rfl, N27q, K27⟩ := hQ27
  have N28 := Fr.app N26 N27q
  obtain ⟨T29, X29, e29, st29⟩ := castY X27 hx hZ10 hown10 (W 43 rfl) K27 (Ins.self (E_xb.ext O15.2)) (g := (mkF m 96 #[iv p1, iv p2, iv p3, rv b1_b2, rv xb, rv b7] [(.ref xb)])) rfl rfl (hb hby at_96)
  obtain ⟨_, T30, L30, X30, hQ30, st30⟩ := own_cv X29 hx hZ10 hown10 hml (W 45 rfl) (W 46 rfl) (notFace_of_selects (W 48 rfl)) (W 48 rfl) (W 47 rfl) (W 2 rfl) (W 49 rfl) (rm13_intValue l Z a0 hw xb p2 T10.heap n0 O15 (F_xb)) e29 (E_xb.ext O15.2) (hb hby at_99) 0 #[iv p1, iv p2, iv p3, rv b1_b2, rv xb, rv b7] [] [] pd_62 (by decide) rfl rfl rfl (Nat.le_of_eq rfl)
  obtain ⟨rfl, N30q, K30⟩ := hQ30
  have N31 := Fr.app N28 N30q
  refine ⟨T30, some (.int (1 : Int32)), _, _, _, T10.vm, _, X30, hS10, (by rw [K30]; exact (Nat.le_refl _)), by decide, by decide, nofun, ?_, fun fs hr => castTop (ef_69 m p1 p2 p3) ?_⟩
  · exact ⟨rfl, N31⟩
  · show SS p e below s₁ m 0 #[iv p1, iv p2, iv p3, .unset, .unset, .unset] [] _
    refine XS.iloadN X0.here hx rfl (hb hby at_0) rfl ?_
    show SS p e below s₁ m 1 #[iv p1, iv p2, iv p3, .unset, .unset, .unset] [(.int p1)] _
    refine st1 _ ?_
    show SS p e below T1 m 4 #[iv p1, iv p2, iv p3, .unset, .unset, .unset] [(.ref b1_b2)] _
    refine XS.astoreN X1.here hx rfl (hb hby at_4) rfl rfl (l' := #[iv p1, iv p2, iv p3, rv b1_b2, .unset, .unset]) rfl ?_
    show SS p e below T1 m 5 #[iv p1, iv p2, iv p3, rv b1_b2, .unset, .unset] [] _
    refine XS.iloadN X1.here hx rfl (hb hby at_5) rfl ?_
    show SS p e below T1 m 6 #[iv p1, iv p2, iv p3, rv b1_b2, .unset, .unset] [(.int p2)] _
    refine st5 _ ?_
    show SS p e below T5 m 9 #[iv p1, iv p2, iv p3, rv b1_b2, .unset, .unset] [(.ref xb)] _
    refine XS.astore X5.here hx rfl (hb hby at_9) rfl rfl (l' := #[iv p1, iv p2, iv p3, rv b1_b2, rv xb, .unset]) rfl ?_
    show SS p e below T5 m 11 #[iv p1, iv p2, iv p3, rv b1_b2, rv xb, .unset] [] _
    refine XS.iloadN X5.here hx rfl (hb hby at_11) rfl ?_
    refine XS.iconst X5.here hx rfl (hb hby at_12) ?_
    show SS p e below T5 m 13 #[iv p1, iv p2, iv p3, rv b1_b2, rv xb, .unset] [(.int (1 : Int32)), (.int p3)] _
    refine XS.iand X5.here hx rfl (hb hby at_13) rfl ?_
    rw [hf]
    show SS p e below T5 m 14 #[iv p1, iv p2, iv p3, rv b1_b2, rv xb, .unset] [(.int (0 : Int32))] _
    refine XS.ifYes X5.here hx rfl (pc0 := 14) (pc' := 56) rfl (hb hby at_14) rfl ((if0 _ _).trans (teq (by decide : (0 : Int32) = (0 : Int32))).1) (by decide) (by decide) ?_
    show SS p e below T5 m 56 #[iv p1, iv p2, iv p3, rv b1_b2, rv xb, .unset] [] _
    refine st7 _ ?_
    show SS p e below T7 m 59 #[iv p1, iv p2, iv p3, rv b1_b2, rv xb, .unset] [(.ref b7)] _
    refine XS.dup X7.here hx rfl (hb hby at_59) rfl rfl ?_
    refine XS.aloadN X7.here hx rfl (hb hby at_60) rfl rfl ?_
    refine XS.aload X7.here hx rfl (hb hby at_61) rfl rfl ?_
    show SS p e below T7 m 63 #[iv p1, iv p2, iv p3, rv b1_b2, rv xb, .unset] [(.ref xb), (.ref b1_b2), (.ref b7), (.ref b7)] _
    refine st10.trans ?_
    show SS p e below T10 m 66 #[iv p1, iv p2, iv p3, rv b1_b2, rv xb, .unset] [(.ref b7)] _
    refine XS.astore X10.here hx rfl (hb hby at_66) rfl rfl (l' := #[iv p1, iv p2, iv p3, rv b1_b2, rv xb, rv b7]) rfl ?_
    show SS p e below T10 m 68 #[iv p1, iv p2, iv p3, rv b1_b2, rv xb, rv b7] [] _
    refine XS.aload X10.here hx rfl (hb hby at_68) rfl rfl ?_
    show SS p e below T10 m 70 #[iv p1, iv p2, iv p3, rv b1_b2, rv xb, rv b7] [(.ref b7)] _
    refine st17 _ ?_
    show SS p e below T17 m 73 #[iv p1, iv p2, iv p3, rv b1_b2, rv xb, rv b7] [(.int (0 : Int32))] _
    refine XS.ifNo X17.here hx rfl (hb hby at_73) rfl ((if0 _ _).trans (teq (by decide : (0 : Int32) = (0 : Int32))).2) ?_
    show SS p e below T17 m 76 #[iv p1, iv p2, iv p3, rv b1_b2, rv xb, rv b7] [] _
    refine XS.aload X17.here hx rfl (hb hby at_76) rfl rfl ?_
    show SS p e below T17 m 78 #[iv p1, iv p2, iv p3, rv b1_b2, rv xb, rv b7] [(.ref b7)] _
    refine st20 _ ?_
    show SS p e below T20 m 81 #[iv p1, iv p2, iv p3, rv b1_b2, rv xb, rv b7] [(.ref b1_b2)] _
    refine st22 _ ?_
    show SS p e below T22 m 84 #[iv p1, iv p2, iv p3, rv b1_b2, rv xb, rv b7] [(.ref b1_b2)] _
    refine st24 _ ?_
    show SS p e below T24 m 87 #[iv p1, iv p2, iv p3, rv b1_b2, rv xb, rv b7] [(.int p1)] _
    refine XS.iloadN X24.here hx rfl (hb hby at_87) rfl ?_
    show SS p e below T24 m 88 #[iv p1, iv p2, iv p3, rv b1_b2, rv xb, rv b7] [(.int p1), (.int p1)] _
    refine XS.icmpNo X24.here hx rfl (hb hby at_88) rfl (teq (rfl : p1 = p1)).2 ?_
    show SS p e below T24 m 91 #[iv p1, iv p2, iv p3, rv b1_b2, rv xb, rv b7] [] _
    refine XS.aload X24.here hx rfl (hb hby at_91) rfl rfl ?_
    show SS p e below T24 m 93 #[iv p1, iv p2, iv p3, rv b1_b2, rv xb, rv b7] [(.ref b7)] _
    refine st27 _ ?_
    show SS p e below T27 m 96 #[iv p1, iv p2, iv p3, rv b1_b2, rv xb, rv b7] [(.ref xb)] _
    refine st29 _ ?_
    show SS p e below T29 m 99 #[iv p1, iv p2, iv p3, rv b1_b2, rv xb, rv b7] [(.ref xb)] _
    refine st30 _ ?_
    show SS p e below T30 m 102 #[iv p1, iv p2, iv p3, rv b1_b2, rv xb, rv b7] [(.int p2)] _
    refine XS.iloadN X30.here hx rfl (hb hby at_102) rfl ?_
    show SS p e below T30 m 103 #[iv p1, iv p2, iv p3, rv b1_b2, rv xb, rv b7] [(.int p2), (.int p2)] _
    refine XS.icmpNo X30.here hx rfl (hb hby at_103) rfl (teq (rfl : p2 = p2)).2 ?_
    show SS p e below T30 m 106 #[iv p1, iv p2, iv p3, rv b1_b2, rv xb, rv b7] [] _
    refine XS.iconst X30.here hx rfl (hb hby at_106) ?_
    refine XS.goto X30.here hx rfl (pc0 := 107) (pc' := 111) rfl (hb hby at_107) (by decide) (by decide) ?_
    show SS p e below T30 m 111 #[iv p1, iv p2, iv p3, rv b1_b2, rv xb, rv b7] [(.int (1 : Int32))] _
    exact retN X30 hx (t := .boolean) hret (by simp) (hb hby at_111) hr
set_option maxRecDepth 65536 in
set_option maxHeartbeats 40000000 in
theorem rm0_HC1 (l : Launch) (Z : State) (a0 : Array Value) (hw : HW Z a0) (ws : List Jvm.Cond) (p1 : Int32) (p2 : Int32) (p3 : Int32) (o_cache : Addr) (xb : Addr) (h0 : Heap) (n0 : Nat) (O0 : Old Z n0 h0) (S_c_high : SA16 Z Z.heap (.int (127 : Int32))) (S_o_cache : SA17 Z Z.heap (.ref o_cache)) (E_o_cache : EA15 Z Z.heap o_cache) (E_xb : EA13 Z Z.heap xb) (F_xb : FA10 Z Z.heap xb (.int p2)) (Et_xb : Elt Z Z.heap o_cache (.object "java/lang/Integer") (p2 + (128 : Int32)) (.ref xb)) (h1xa : ¬ (p1 < (-128 : Int32))) (h2xa : (127 : Int32) < p1) (h1xb : ¬ (p2 < (-128 : Int32))) (h2xb : ¬ ((127 : Int32) < p2)) (hf : (p3 &&& (1 : Int32)) = (1 : Int32)) :
    MetW l Z ws x code maxLocals ret room_1 #[(.int p1), (.int p2), (.int p3)] h0 (fun v _ L => Q0 n0 v L) := by
  have W := fun (i : Nat) {c : Jvm.Cond} (q : tables_1[i]? = some c) => hw c (List.mem_of_getElem? q)
  refine own_mkW (plainFor_of_name pn_70) ?_
  intro p e s m below meth c s₁ hZ hx hby hml hown hnm hret hlk X0 e0
  have N0 := Fr.nil n0
  obtain ⟨_, T1, L1, X1, hQ1, st1⟩ := own_cs X0 hx hZ hown hml (W 0 rfl) (W 1 rfl) (W 2 rfl) (W 3 rfl) (rm14_valueOf l Z a0 hw p1 h0 n0 O0 (h1xa) (S_c_high) (h2xa)) e0 (hb hby at_1) 0 #[iv p1, iv p2, iv p3, .unset, .unset, .unset] [(.int p1)] [] pd_24 (by decide) rfl rfl rfl (Nat.le_of_eq rfl)
  obtain ⟨b1_b2, rfl, N1q, K1, gb1_0, F1_0, F1_1⟩ := hQ1
  have N2 := Fr.app N0 N1q
  have O3 := O0.keep K1 all0
  have K4 : Keep h0 T1.heap [] := Keep.trans (Keep.refl h0 []) K1 all0
  obtain ⟨_, T5, L5, X5, hQ5, st5⟩ := own_cs X1 hx hZ hown hml (W 0 rfl) (W 1 rfl) (W 2 rfl) (W 3 rfl) (rm12_valueOf l Z a0 hw p2 o_cache xb T1.heap n0 O3 (h1xb) (S_c_high) (h2xb) (S_o_cache) (Et_xb)) rfl (hb hby at_6) 0 #[iv p1, iv p2, iv p3, rv b1_b2, .unset, .unset] [(.int p2)] [] pd_24 (by decide) rfl rfl rfl (Nat.le_of_eq rfl)
  obtain ⟨rfl, N5q, K5⟩ := hQ5
  have N6 := Fr.app N2 N5q
  obtain ⟨T7, h7, X7, e7, E7, A7, D7, -, st7⟩ := newO X5 hx hZ hown (W 7 rfl) (W 8 rfl) (W 9 rfl) K5 (g := (mkF m 17 #[iv p1, iv p2, iv p3, rv b1_b2, rv xb, .unset] [])) rfl (hb hby at_17) (by decide) (by decide)
  obtain ⟨b7, g7⟩ : ∃ z, z = T1.heap.size := ⟨_, rfl⟩
  rw [← g7] at A7 D7 st7
  have O8 := O3.ext E7
  have K9 : Keep h0 h7 [] := Keep.ext K4 E7
  have z11 : h0.size ≤ T1.heap.size := K1.1
  have g12 : n0 ≤ b7 := Nat.le_trans (Nat.le_trans (Nat.le_trans (Nat.le_of_eq O0.1.symm) O0.2.1) z11) (Nat.le_of_eq g7.symm)
  have X13 := (show Stand p l e _ (s.setVm s.vm) m _ below meth c _ _ _ _ from X7)
  obtain ⟨_, _, ⟨T10, L10, k10, n10⟩, -, Y10, hs10, hg10, ⟨Lc10, hQ10, l10, y10, z10⟩, st10⟩ := X13.specialBackS hx (y := Y9) rfl hown (mvT hZ (W 57 rfl)) (mvT hZ (W 58 rfl)) (mvT hZ (W 59 rfl)) (by decide) (backOfS (W := 1) (rm10_init l Z a0 hw b7 b1_b2 h7 n0 O8 (A7) ((D7 (Or.inr (W 29 rfl)) (ty := (.object "java/lang/Object")) (by decide) : FA11 Z h7 b7 .null)) (g12) ((D7 (Or.inr (W 32 rfl)) (ty := (.object "java/lang/Object")) (by decide) : FA12 Z h7 b7 .null))) hZ (W 59 rfl) (W 9 rfl) (by decide) (by decide)) (g := (mkF m 22 #[iv p1, iv p2, iv p3, rv b1_b2, rv xb, .unset] [(.ref b1_b2), (.ref b7), (.ref b7)])) rfl (by rw [hml]; rfl) (Steps.refl _) (a := b7) (argsL := [(.ref b1_b2)]) (rest := [(.ref b7)]) (lenOf pd_82 rfl) rfl (by show 2 * 0 + _ ≤ _; exact Nat.le_of_eq rfl) (hb hby at_22) (fun _ _ => ⟨rfl, e7, (by decide : 2 + 2 ≤ _), (by decide : 3 + 16 ≤ _)⟩)
  dsimp only [Pt.U, Pt.locs, Pt.cells, Pt.slots] at Y10 l10 y10 z10 st10 hQ10 hs10 hg10
  subst l10 y10 z10
  obtain ⟨X10, hS10, hZ10, hown10⟩ := rebS (s := s) (vm0 := s.vm) ((State.WarmedH.refl s).since 0) (Nat.zero_le _) Y10 hs10 hg10 hZ hown
  obtain ⟨rfl, N10q, K10, F10_0, F10_1⟩ := hQ10
  have N14 := Fr.app N6 N10q
  have O15 := O8.keep K10 (allS g12 all0)
  have K16 : Keep h0 T10.heap [] := Keep.trans K9 K10 (allS (Or.inr (Nat.le_trans z11 (Nat.le_of_eq g7.symm))) all0)
  have f18 := (A7.keep K10)
  obtain ⟨_, T17, L17, X17, hQ17, st17⟩ := own_cv X10 hx hZ10 hown10 hml (W 33 rfl) (W 34 rfl) (notFace_of_selects (W 36 rfl)) (W 36 rfl) (W 35 rfl) (W 9 rfl) (W 37 rfl) (rm11_isOpenAtTop l Z a0 hw b7 T10.heap n0 O15 (F10_1)) rfl f18 (hb hby at_29) 0 #[iv p1, iv p2, iv p3, rv b1_b2, rv xb, rv b7] [] [] pd_54 (by decide) rfl rfl rfl (Nat.le_of_eq rfl)
  obtain ⟨rfl, N17q, K17⟩ := hQ17
  have N19 := Fr.app N14 N17q
  obtain ⟨_, T20, L20, X20, hQ20, st20⟩ := own_cv X17 hx hZ10 hown10 hml (W 38 rfl) (W 39 rfl) (notFace_of_selects (W 41 rfl)) (W 41 rfl) (W 40 rfl) (W 9 rfl) (W 42 rfl) (rm7_getLow l Z a0 hw b7 b1_b2 T10.heap n0 O15 (F10_0)) K17 f18 (hb hby at_37) 0 #[iv p1, iv p2, iv p3, rv b1_b2, rv xb, rv b7] [] [] pd_58 (by decide) rfl rfl rfl (Nat.le_of_eq rfl)
  obtain ⟨rfl, N20q, K20⟩ := hQ20
  have N21 := Fr.app N19 N20q
  have f23 := ((F1_0.ext E7).keep K10)
  obtain ⟨T22, X22, e22, st22⟩ := castY X20 hx hZ10 hown10 (W 43 rfl) K20 (Ins.self f23) (g := (mkF m 40 #[iv p1, iv p2, iv p3, rv b1_b2, rv xb, rv b7] [(.ref b1_b2)])) rfl rfl (hb hby at_40)
  have f25 := ((F1_1.ext E7).keep K10 (ninS (Nat.ne_of_lt (Nat.lt_of_lt_of_le F1_0.lt (Nat.le_of_eq g7.symm))) nin0))
  obtain ⟨_, T24, L24, X24, hQ24, st24⟩ := own_cv X22 hx hZ10 hown10 hml (W 45 rfl) (W 46 rfl) (notFace_of_selects (W 48 rfl)) (W 48 rfl) (W 47 rfl) (W 2 rfl) (W 49 rfl) (rm8_intValue l Z a0 hw b1_b2 p1 T10.heap n0 O15 (f25)) e22 f23 (hb hby at_43) 0 #[iv p1, iv p2, iv p3, rv b1_b2, rv xb, rv b7] [] [] pd_62 (by decide) rfl rfl rfl (Nat.le_of_eq rfl)
  obtain ⟨rfl, N24q, K24⟩ := hQ24
  have N26 := Fr.app N21 N24q
  refine ⟨T24, some (.int (1 : Int32)), _, _, _, T10.vm, _, X24, hS10, (by rw [K24]; exact (Nat.le_refl _)), by decide, by decide, nofun, ?_, fun fs hr => castTop (ef_69 m p1 p2 p3) ?_⟩
  · exact ⟨rfl, N26⟩
  · show SS p e below s₁ m 0 #[iv p1, iv p2, iv p3, .unset, .unset, .unset] [] _
    refine XS.iloadN X0.here hx rfl (hb hby at_0) rfl ?_
    show SS p e below s₁ m 1 #[iv p1, iv p2, iv p3, .unset, .unset, .unset] [(.int p1)] _
    refine st1 _ ?_
    show SS p e below T1 m 4 #[iv p1, iv p2, iv p3, .unset, .unset, .unset] [(.ref b1_b2)] _
    refine XS.astoreN X1.here hx rfl (hb hby at_4) rfl rfl (l' := #[iv p1, iv p2, iv p3, rv b1_b2, .unset, .unset]) rfl ?_
    show SS p e below T1 m 5 #[iv p1, iv p2, iv p3, rv b1_b2, .unset, .unset] [] _
    refine XS.iloadN X1.here hx rfl (hb hby at_5) rfl ?_
    show SS p e below T1 m 6 #[iv p1, iv p2, iv p3, rv b1_b2, .unset, .unset] [(.int p2)] _
    refine st5 _ ?_
    show SS p e below T5 m 9 #[iv p1, iv p2, iv p3, rv b1_b2, .unset, .unset] [(.ref xb)] _
    refine XS.astore X5.here hx rfl (hb hby at_9) rfl rfl (l' := #[iv p1, iv p2, iv p3, rv b1_b2, rv xb, .unset]) rfl ?_
    show SS p e below T5 m 11 #[iv p1, iv p2, iv p3, rv b1_b2, rv xb, .unset] [] _
    refine XS.iloadN X5.here hx rfl (hb hby at_11) rfl ?_
    refine XS.iconst X5.here hx rfl (hb hby at_12) ?_
    show SS p e below T5 m 13 #[iv p1, iv p2, iv p3, rv b1_b2, rv xb, .unset] [(.int (1 : Int32)), (.int p3)] _
    refine XS.iand X5.here hx rfl (hb hby at_13) rfl ?_
    rw [hf]
    show SS p e below T5 m 14 #[iv p1, iv p2, iv p3, rv b1_b2, rv xb, .unset] [(.int (1 : Int32))] _
    refine XS.ifNo X5.here hx rfl (hb hby at_14) rfl ((if0 _ _).trans (feq (by decide : ¬ ((1 : Int32) = (0 : Int32)))).1) ?_
    show SS p e below T5 m 17 #[iv p1, iv p2, iv p3, rv b1_b2, rv xb, .unset] [] _
    refine st7 _ ?_
    show SS p e below T7 m 20 #[iv p1, iv p2, iv p3, rv b1_b2, rv xb, .unset] [(.ref b7)] _
    refine XS.dup X7.here hx rfl (hb hby at_20) rfl rfl ?_
    refine XS.aloadN X7.here hx rfl (hb hby at_21) rfl rfl ?_
    show SS p e below T7 m 22 #[iv p1, iv p2, iv p3, rv b1_b2, rv xb, .unset] [(.ref b1_b2), (.ref b7), (.ref b7)] _
    refine st10.trans ?_
    show SS p e below T10 m 25 #[iv p1, iv p2, iv p3, rv b1_b2, rv xb, .unset] [(.ref b7)] _
    refine XS.astore X10.here hx rfl (hb hby at_25) rfl rfl (l' := #[iv p1, iv p2, iv p3, rv b1_b2, rv xb, rv b7]) rfl ?_
    show SS p e below T10 m 27 #[iv p1, iv p2, iv p3, rv b1_b2, rv xb, rv b7] [] _
    refine XS.aload X10.here hx rfl (hb hby at_27) rfl rfl ?_
    show SS p e below T10 m 29 #[iv p1, iv p2, iv p3, rv b1_b2, rv xb, rv b7] [(.ref b7)] _
    refine st17 _ ?_
    show SS p e below T17 m 32 #[iv p1, iv p2, iv p3, rv b1_b2, rv xb, rv b7] [(.int (1 : Int32))] _
    refine XS.ifNo X17.here hx rfl (hb hby at_32) rfl ((if0 _ _).trans (feq (by decide : ¬ ((1 : Int32) = (0 : Int32)))).1) ?_
    show SS p e below T17 m 35 #[iv p1, iv p2, iv p3, rv b1_b2, rv xb, rv b7] [] _
    refine XS.aload X17.here hx rfl (hb hby at_35) rfl rfl ?_
    show SS p e below T17 m 37 #[iv p1, iv p2, iv p3, rv b1_b2, rv xb, rv b7] [(.ref b7)] _
    refine st20 _ ?_
    show SS p e below T20 m 40 #[iv p1, iv p2, iv p3, rv b1_b2, rv xb, rv b7] [(.ref b1_b2)] _
    refine st22 _ ?_
    show SS p e below T22 m 43 #[iv p1, iv p2, iv p3, rv b1_b2, rv xb, rv b7] [(.ref b1_b2)] _
    refine st24 _ ?_
    show SS p e below T24 m 46 #[iv p1, iv p2, iv p3, rv b1_b2, rv xb, rv b7] [(.int p1)] _
    refine XS.iloadN X24.here hx rfl (hb hby at_46) rfl ?_
    show SS p e below T24 m 47 #[iv p1, iv p2, iv p3, rv b1_b2, rv xb, rv b7] [(.int p1), (.int p1)] _
    refine XS.icmpNo X24.here hx rfl (hb hby at_47) rfl (teq (rfl : p1 = p1)).2 ?_
    show SS p e below T24 m 50 #[iv p1, iv p2, iv p3, rv b1_b2, rv xb, rv b7] [] _
    refine XS.iconst X24.here hx rfl (hb hby at_50) ?_
    refine XS.goto X24.here hx rfl (pc0 := 51) (pc' := 55) rfl (hb hby at_51) (by decide) (by decide) ?_
    show SS p e below T24 m 55 #[iv p1, iv p2, iv p3, rv b1_b2, rv xb, rv b7] [(.int (1 : Int32))] _
    exact retN X24 hx (t := .boolean) hret (by simp) (hb hby at_55) hr
set_option maxRecDepth 65536 in
set_option maxHeartbeats 40000000 in
theorem rm0_HH0 (l : Launch) (Z : State) (a0 : Array Value) (hw : HW Z a0) (ws : List Jvm.Cond) (p1 : Int32) (p2 : Int32) (p3 : Int32) (o_cache : Addr) (h0 : Heap) (n0 : Nat) (O0 : Old Z n0 h0) (S_c_high : SA16 Z Z.heap (.int (127 : Int32))) (S_o_cache : SA17 Z Z.heap (.ref o_cache)) (E_o_cache : EA15 Z Z.heap o_cache) (h1xa : ¬ (p1 < (-128 : Int32))) (h2xa : (127 : Int32) < p1) (h1xb : ¬ (p2 < (-128 : Int32))) (h2xb : (127 : Int32) < p2) (hf : (p3 &&& (1 : Int32)) = (0 : Int32)) :
    MetW l Z ws x code maxLocals ret room_1 #[(.int p1), (.int p2), (.int p3)] h0 (fun v _ L => Q0 n0 v L) := by
  have W := fun (i : Nat) {c : Jvm.Cond} (q : tables_1[i]? = some c) => hw c (List.mem_of_getElem? q)
  refine own_mkW (plainFor_of_name pn_70) ?_
  intro p e s m below meth c s₁ hZ hx hby hml hown hnm hret hlk X0 e0
  have N0 := Fr.nil n0
  obtain ⟨_, T1, L1, X1, hQ1, st1⟩ := own_cs X0 hx hZ hown hml (W 0 rfl) (W 1 rfl) (W 2 rfl) (W 3 rfl) (rm14_valueOf l Z a0 hw p1 h0 n0 O0 (h1xa) (S_c_high) (h2xa)) e0 (hb hby at_1) 0 #[iv p1, iv p2, iv p3, .unset, .unset, .unset] [(.int p1)] [] pd_24 (by decide) rfl rfl rfl (Nat.le_of_eq rfl)
  obtain ⟨b1_b2, rfl, N1q, K1, gb1_0, F1_0, F1_1⟩ := hQ1
  have N2 := Fr.app N0 N1q
  have O3 := O0.keep K1 all0
  have K4 : Keep h0 T1.heap [] := Keep.trans (Keep.refl h0 []) K1 all0
  obtain ⟨_, T5, L5, X5, hQ5, st5⟩ := own_cs X1 hx hZ hown hml (W 0 rfl) (W 1 rfl) (W 2 rfl) (W 3 rfl) (rm14_valueOf l Z a0 hw p2 T1.heap n0 O3 (h1xb) (S_c_high) (h2xb)) rfl (hb hby at_6) 0 #[iv p1, iv p2, iv p3, rv b1_b2, .unset, .unset] [(.int p2)] [] pd_24 (by decide) rfl rfl rfl (Nat.le_of_eq rfl)
  obtain ⟨b5_b2, rfl, N5q, K5, gb5_0, F5_0, F5_1⟩ := hQ5
  have N6 := Fr.app N2 N5q
  have O7 := O3.keep K5 all0
  have K8 : Keep h0 T5.heap [] := Keep.trans K4 K5 all0
  obtain ⟨T9, h9, X9, e9, E9, A9, D9, -, st9⟩ := newO X5 hx hZ hown (W 7 rfl) (W 8 rfl) (W 9 rfl) rfl (g := (mkF m 56 #[iv p1, iv p2, iv p3, rv b1_b2, rv b5_b2, .unset] [])) rfl (hb hby at_56) (by decide) (by decide)
  obtain ⟨b9, g9⟩ : ∃ z, z = T5.heap.size := ⟨_, rfl⟩
  rw [← g9] at A9 D9 st9
  have O10 := O7.ext E9
  have K11 : Keep h0 h9 [] := Keep.ext K8 E9
  have z13 : h0.size ≤ T1.heap.size := K1.1
  have z14 : h0.size ≤ T5.heap.size := (Nat.le_trans z13 K5.1)
  have g15 : n0 ≤ b9 := Nat.le_trans (Nat.le_trans (Nat.le_trans (Nat.le_of_eq O0.1.symm) O0.2.1) z14) (Nat.le_of_eq g9.symm)
  have X16 := (show Stand p l e _ (s.setVm s.vm) m _ below meth c _ _ _ _ from X9)
  obtain ⟨_, _, ⟨T12, L12, k12, n12⟩, -, Y12, hs12, hg12, ⟨Lc12, hQ12, l12, y12, z12⟩, st12⟩ := X16.specialBackS hx (y := Y4) rfl hown (mvT hZ (W 10 rfl)) (mvT hZ (W 11 rfl)) (mvT hZ (W 12 rfl)) (by decide) (backOfS (W := 1) (rm5_init l Z a0 hw b9 b1_b2 b5_b2 h9 n0 O10 (A9) ((D9 (Or.inr (W 29 rfl)) (ty := (.object "java/lang/Object")) (by decide) : FA11 Z h9 b9 .null)) (g15) ((D9 (Or.inr (W 32 rfl)) (ty := (.object "java/lang/Object")) (by decide) : FA12 Z h9 b9 .null))) hZ (W 12 rfl) (W 9 rfl) (by decide) (by decide)) (g := (mkF m 63 #[iv p1, iv p2, iv p3, rv b1_b2, rv b5_b2, .unset] [(.ref b5_b2), (.ref b1_b2), (.ref b9), (.ref b9)])) rfl (by rw [hml]; rfl) (Steps.refl _) (a := b9) (argsL := [(.ref b1_b2), (.ref b5_b2)]) (rest := [(.ref b9)]) (lenOf pd_48 rfl) rfl (by show 2 * 0 + _ ≤ _; exact Nat.le_of_eq rfl) (hb hby at_63) (fun _ _ => ⟨rfl, e9, (by decide : 3 + 4 ≤ _), (by decide : 4 + 36 ≤ _)⟩)
  dsimp only [Pt.U, Pt.locs, Pt.cells, Pt.slots] at Y12 l12 y12 z12 st12 hQ12 hs12 hg12
  subst l12 y12 z12
  obtain ⟨X12, hS12, hZ12, hown12⟩ := rebS (s := s) (vm0 := s.vm) ((State.WarmedH.refl s).since 0) (Nat.zero_le _) Y12 hs12 hg12 hZ hown
  obtain ⟨rfl, N12q, K12, F12_0, F12_1⟩ := hQ12
  have N17 := Fr.app N6 N12q
  have O18 := O10.keep K12 (allS g15 all0)
  have K19 : Keep h0 T12.heap [] := Keep.trans K11 K12 (allS (Or.inr (Nat.le_trans z14 (Nat.le_of_eq g9.symm))) all0)
  have f21 := (A9.keep K12)
  obtain ⟨_, T20, L20, X20, hQ20, st20⟩ := own_cv X12 hx hZ12 hown12 hml (W 33 rfl) (W 34 rfl) (notFace_of_selects (W 36 rfl)) (W 36 rfl) (W 35 rfl) (W 9 rfl) (W 37 rfl) (rm6_isOpenAtTop l Z a0 hw b9 b5_b2 T12.heap n0 O18 (F12_1)) rfl f21 (hb hby at_70) 0 #[iv p1, iv p2, iv p3, rv b1_b2, rv b5_b2, rv b9] [] [] pd_54 (by decide) rfl rfl rfl (Nat.le_of_eq rfl)
  obtain ⟨rfl, N20q, K20⟩ := hQ20
  have N22 := Fr.app N17 N20q
  obtain ⟨_, T23, L23, X23, hQ23, st23⟩ := own_cv X20 hx hZ12 hown12 hml (W 38 rfl) (W 39 rfl) (notFace_of_selects (W 41 rfl)) (W 41 rfl) (W 40 rfl) (W 9 rfl) (W 42 rfl) (rm7_getLow l Z a0 hw b9 b1_b2 T12.heap n0 O18 (F12_0)) K20 f21 (hb hby at_78) 0 #[iv p1, iv p2, iv p3, rv b1_b2, rv b5_b2, rv b9] [] [] pd_58 (by decide) rfl rfl rfl (Nat.le_of_eq rfl)
  obtain ⟨rfl, N23q, K23⟩ := hQ23
  have N24 := Fr.app N22 N23q
  have f26 := (((F1_0.keep K5).ext E9).keep K12)
  obtain ⟨T25, X25, e25, st25⟩ := castY X23 hx hZ12 hown12 (W 43 rfl) K23 (Ins.self f26) (g := (mkF m 81 #[iv p1, iv p2, iv p3, rv b1_b2, rv b5_b2, rv b9] [(.ref b1_b2)])) rfl rfl (hb hby at_81)
  have z28 : T1.heap.size ≤ T5.heap.size := K5.1
  have f29 := (((F1_1.keep K5 nin0).ext E9).keep K12 (ninS (Nat.ne_of_lt (Nat.lt_of_lt_of_le (Nat.lt_of_lt_of_le F1_0.lt z28) (Nat.le_of_eq g9.symm))) nin0))
  obtain ⟨_, T27, L27, X27, hQ27, st27⟩ := own_cv X25 hx hZ12 hown12 hml (W 45 rfl) (W 46 rfl) (notFace_of_selects (W 48 rfl)) (W 48 rfl) (W 47 rfl) (W 2 rfl) (W 49 rfl) (rm8_intValue l Z a0 hw b1_b2 p1 T12.heap n0 O18 (f29)) e25 f26 (hb hby at_84) 0 #[iv p1, iv p2, iv p3, rv b1_b2, rv b5_b2, rv b9] [] [] pd_62 (by decide) rfl rfl rfl (Nat.le_of_eq rfl)
  obtain ⟨rfl, N27q, K27⟩ := hQ27
  have N30 := Fr.app N24 N27q
  obtain ⟨_, T31, L31, X31, hQ31, st31⟩ := own_cv X27 hx hZ12 hown12 hml (W 52 rfl) (W 53 rfl) (notFace_of_selects (W 55 rfl)) (W 55 rfl) (W 54 rfl) (W 9 rfl) (W 56 rfl) (rm9_getHigh l Z a0 hw b9 b5_b2 T12.heap n0 O18 (F12_1)) K27 f21 (hb hby at_93) 0 #[iv p1, iv p2, iv p3, rv b1_b2, rv b5_b2, rv b9] [] [] pd_58 (by decide) rfl rfl rfl (Nat.le_of_eq rfl)
  obtain ⟨rfl, N31q, K31⟩ := hQ31
  have N32 := Fr.app N30 N31q
  have f34 := ((F5_0.ext E9).keep K12)
  obtain ⟨T33, X33, e33, st33⟩ := castY X31 hx hZ12 hown12 (W 43 rfl) K31 (Ins.self f34) (g := (mkF m 96 #[iv p1, iv p2, iv p3, rv b1_b2, rv b5_b2, rv b9] [(.ref b5_b2)])) rfl rfl (hb hby at_96)
  have f36 := ((F5_1.ext E9).keep K12 (ninS (Nat.ne_of_lt (Nat.lt_of_lt_of_le F5_0.lt (Nat.le_of_eq g9.symm))) nin0))
  obtain ⟨_, T35, L35, X35, hQ35, st35⟩ := own_cv X33 hx hZ12 hown12 hml (W 45 rfl) (W 46 rfl) (notFace_of_selects (W 48 rfl)) (W 48 rfl) (W 47 rfl) (W 2 rfl) (W 49 rfl) (rm8_intValue l Z a0 hw b5_b2 p2 T12.heap n0 O18 (f36)) e33 f34 (hb hby at_99) 0 #[iv p1, iv p2, iv p3, rv b1_b2, rv b5_b2, rv b9] [] [] pd_62 (by decide) rfl rfl rfl (Nat.le_of_eq rfl)
  obtain ⟨rfl, N35q, K35⟩ := hQ35
  have N37 := Fr.app N32 N35q
  refine ⟨T35, some (.int (1 : Int32)), _, _, _, T12.vm, _, X35, hS12, (by rw [K35]; exact (Nat.le_refl _)), by decide, by decide, nofun, ?_, fun fs hr => castTop (ef_69 m p1 p2 p3) ?_⟩
  · exact ⟨rfl, N37⟩
  · show SS p e below s₁ m 0 #[iv p1, iv p2, iv p3, .unset, .unset, .unset] [] _
    refine XS.iloadN X0.here hx rfl (hb hby at_0) rfl ?_
    show SS p e below s₁ m 1 #[iv p1, iv p2, iv p3, .unset, .unset, .unset] [(.int p1)] _
    refine st1 _ ?_
    show SS p e below T1 m 4 #[iv p1, iv p2, iv p3, .unset, .unset, .unset] [(.ref b1_b2)] _
    refine XS.astoreN X1.here hx rfl (hb hby at_4) rfl rfl (l' := #[iv p1, iv p2, iv p3, rv b1_b2, .unset, .unset]) rfl ?_
    show SS p e below T1 m 5 #[iv p1, iv p2, iv p3, rv b1_b2, .unset, .unset] [] _
    refine XS.iloadN X1.here hx rfl (hb hby at_5) rfl ?_
    show SS p e below T1 m 6 #[iv p1, iv p2, iv p3, rv b1_b2, .unset, .unset] [(.int p2)] _
    refine st5 _ ?_
    show SS p e below T5 m 9 #[iv p1, iv p2, iv p3, rv b1_b2, .unset, .unset] [(.ref b5_b2)] _
    refine XS.astore X5.here hx rfl (hb hby at_9) rfl rfl (l' := #[iv p1, iv p2, iv p3, rv b1_b2, rv b5_b2, .unset]) rfl ?_
    show SS p e below T5 m 11 #[iv p1, iv p2, iv p3, rv b1_b2, rv b5_b2, .unset] [] _
    refine XS.iloadN X5.here hx rfl (hb hby at_11) rfl ?_
    refine XS.iconst X5.here hx rfl (hb hby at_12) ?_
    show SS p e below T5 m 13 #[iv p1, iv p2, iv p3, rv b1_b2, rv b5_b2, .unset] [(.int (1 : Int32)), (.int p3)] _
    refine XS.iand X5.here hx rfl (hb hby at_13) rfl ?_
    rw [hf]
    show SS p e below T5 m 14 #[iv p1, iv p2, iv p3, rv b1_b2, rv b5_b2, .unset] [(.int (0 : Int32))] _
    refine XS.ifYes X5.here hx rfl (pc0 := 14) (pc' := 56) rfl (hb hby at_14) rfl ((if0 _ _).trans (teq (by decide : (0 : Int32) = (0 : Int32))).1) (by decide) (by decide) ?_
    show SS p e below T5 m 56 #[iv p1, iv p2, iv p3, rv b1_b2, rv b5_b2, .unset] [] _
    refine st9 _ ?_
    show SS p e below T9 m 59 #[iv p1, iv p2, iv p3, rv b1_b2, rv b5_b2, .unset] [(.ref b9)] _
    refine XS.dup X9.here hx rfl (hb hby at_59) rfl rfl ?_
    refine XS.aloadN X9.here hx rfl (hb hby at_60) rfl rfl ?_
    refine XS.aload X9.here hx rfl (hb hby at_61) rfl rfl ?_
    show SS p e below T9 m 63 #[iv p1, iv p2, iv p3, rv b1_b2, rv b5_b2, .unset] [(.ref b5_b2), (.ref b1_b2), (.ref b9), (.ref b9)] _
    refine st12.trans ?_
    show SS p e below T12 m 66 #[iv p1, iv p2, iv p3, rv b1_b2, rv b5_b2, .unset] [(.ref b9)] _
    refine XS.astore X12.here hx rfl (hb hby at_66) rfl rfl (l' := #[iv p1, iv p2, iv p3, rv b1_b2, rv b5_b2, rv b9]) rfl ?_
    show SS p e below T12 m 68 #[iv p1, iv p2, iv p3, rv b1_b2, rv b5_b2, rv b9] [] _
    refine XS.aload X12.here hx rfl (hb hby at_68) rfl rfl ?_
    show SS p e below T12 m 70 #[iv p1, iv p2, iv p3, rv b1_b2, rv b5_b2, rv b9] [(.ref b9)] _
    refine st20 _ ?_
    show SS p e below T20 m 73 #[iv p1, iv p2, iv p3, rv b1_b2, rv b5_b2, rv b9] [(.int (0 : Int32))] _
    refine XS.ifNo X20.here hx rfl (hb hby at_73) rfl ((if0 _ _).trans (teq (by decide : (0 : Int32) = (0 : Int32))).2) ?_
    show SS p e below T20 m 76 #[iv p1, iv p2, iv p3, rv b1_b2, rv b5_b2, rv b9] [] _
    refine XS.aload X20.here hx rfl (hb hby at_76) rfl rfl ?_
    show SS p e below T20 m 78 #[iv p1, iv p2, iv p3, rv b1_b2, rv b5_b2, rv b9] [(.ref b9)] _
    refine st23 _ ?_
    show SS p e below T23 m 81 #[iv p1, iv p2, iv p3, rv b1_b2, rv b5_b2, rv b9] [(.ref b1_b2)] _
    refine st25 _ ?_
    show SS p e below T25 m 84 #[iv p1, iv p2, iv p3, rv b1_b2, rv b5_b2, rv b9] [(.ref b1_b2)] _
    refine st27 _ ?_
    show SS p e below T27 m 87 #[iv p1, iv p2, iv p3, rv b1_b2, rv b5_b2, rv b9] [(.int p1)] _
    refine XS.iloadN X27.here hx rfl (hb hby at_87) rfl ?_
    show SS p e below T27 m 88 #[iv p1, iv p2, iv p3, rv b1_b2, rv b5_b2, rv b9] [(.int p1), (.int p1)] _
    refine XS.icmpNo X27.here hx rfl (hb hby at_88) rfl (teq (rfl : p1 = p1)).2 ?_
    show SS p e below T27 m 91 #[iv p1, iv p2, iv p3, rv b1_b2, rv b5_b2, rv b9] [] _
    refine XS.aload X27.here hx rfl (hb hby at_91) rfl rfl ?_
    show SS p e below T27 m 93 #[iv p1, iv p2, iv p3, rv b1_b2, rv b5_b2, rv b9] [(.ref b9)] _
    refine st31 _ ?_
    show SS p e below T31 m 96 #[iv p1, iv p2, iv p3, rv b1_b2, rv b5_b2, rv b9] [(.ref b5_b2)] _
    refine st33 _ ?_
    show SS p e below T33 m 99 #[iv p1, iv p2, iv p3, rv b1_b2, rv b5_b2, rv b9] [(.ref b5_b2)] _
    refine st35 _ ?_
    show SS p e below T35 m 102 #[iv p1, iv p2, iv p3, rv b1_b2, rv b5_b2, rv b9] [(.int p2)] _
    refine XS.iloadN X35.here hx rfl (hb hby at_102) rfl ?_
    show SS p e below T35 m 103 #[iv p1, iv p2, iv p3, rv b1_b2, rv b5_b2, rv b9] [(.int p2), (.int p2)] _
    refine XS.icmpNo X35.here hx rfl (hb hby at_103) rfl (teq (rfl : p2 = p2)).2 ?_
    show SS p e below T35 m 106 #[iv p1, iv p2, iv p3, rv b1_b2, rv b5_b2, rv b9] [] _
    refine XS.iconst X35.here hx rfl (hb hby at_106) ?_
    refine XS.goto X35.here hx rfl (pc0 := 107) (pc' := 111) rfl (hb hby at_107) (by decide) (by decide) ?_
    show SS p e below T35 m 111 #[iv p1, iv p2, iv p3, rv b1_b2, rv b5_b2, rv b9] [(.int (1 : Int32))] _
    exact retN X35 hx (t := .boolean) hret (by simp) (hb hby at_111) hr
set_option maxRecDepth 65536 in
set_option maxHeartbeats 40000000 in
theorem rm0_HH1 (l : Launch) (Z : State) (a0 : Array Value) (hw : HW Z a0) (ws : List Jvm.Cond) (p1 : Int32) (p2 : Int32) (p3 : Int32) (o_cache : Addr) (h0 : Heap) (n0 : Nat) (O0 : Old Z n0 h0) (S_c_high : SA16 Z Z.heap (.int (127 : Int32))) (S_o_cache : SA17 Z Z.heap (.ref o_cache)) (E_o_cache : EA15 Z Z.heap o_cache) (h1xa : ¬ (p1 < (-128 : Int32))) (h2xa : (127 : Int32) < p1) (h1xb : ¬ (p2 < (-128 : Int32))) (h2xb : (127 : Int32) < p2) (hf : (p3 &&& (1 : Int32)) = (1 : Int32)) :
    MetW l Z ws x code maxLocals ret room_1 #[(.int p1), (.int p2), (.int p3)] h0 (fun v _ L => Q0 n0 v L) := by
  have W := fun (i : Nat) {c : Jvm.Cond} (q : tables_1[i]? = some c) => hw c (List.mem_of_getElem? q)
  refine own_mkW (plainFor_of_name pn_70) ?_
  intro p e s m below meth c s₁ hZ hx hby hml hown hnm hret hlk X0 e0
  have N0 := Fr.nil n0
  obtain ⟨_, T1, L1, X1, hQ1, st1⟩ := own_cs X0 hx hZ hown hml (W 0 rfl) (W 1 rfl) (W 2 rfl) (W 3 rfl) (rm14_valueOf l Z a0 hw p1 h0 n0 O0 (h1xa) (S_c_high) (h2xa)) e0 (hb hby at_1) 0 #[iv p1, iv p2, iv p3, .unset, .unset, .unset] [(.int p1)] [] pd_24 (by decide) rfl rfl rfl (Nat.le_of_eq rfl)
  obtain ⟨b1_b2, rfl, N1q, K1, gb1_0, F1_0, F1_1⟩ := hQ1
  have N2 := Fr.app N0 N1q
  have O3 := O0.keep K1 all0
  have K4 : Keep h0 T1.heap [] := Keep.trans (Keep.refl h0 []) K1 all0
  obtain ⟨_, T5, L5, X5, hQ5, st5⟩ := own_cs X1 hx hZ hown hml (W 0 rfl) (W 1 rfl) (W 2 rfl) (W 3 rfl) (rm14_valueOf l Z a0 hw p2 T1.heap n0 O3 (h1xb) (S_c_high) (h2xb)) rfl (hb hby at_6) 0 #[iv p1, iv p2, iv p3, rv b1_b2, .unset, .unset] [(.int p2)] [] pd_24 (by decide) rfl rfl rfl (Nat.le_of_eq rfl)
  obtain ⟨b5_b2, rfl, N5q, K5, gb5_0, F5_0, F5_1⟩ := hQ5
  have N6 := Fr.app N2 N5q
  have O7 := O3.keep K5 all0
  have K8 : Keep h0 T5.heap [] := Keep.trans K4 K5 all0
  obtain ⟨T9, h9, X9, e9, E9, A9, D9, -, st9⟩ := newO X5 hx hZ hown (W 7 rfl) (W 8 rfl) (W 9 rfl) rfl (g := (mkF m 17 #[iv p1, iv p2, iv p3, rv b1_b2, rv b5_b2, .unset] [])) rfl (hb hby at_17) (by decide) (by decide)
  obtain ⟨b9, g9⟩ : ∃ z, z = T5.heap.size := ⟨_, rfl⟩
  rw [← g9] at A9 D9 st9
  have O10 := O7.ext E9
  have K11 : Keep h0 h9 [] := Keep.ext K8 E9
  have z13 : h0.size ≤ T1.heap.size := K1.1
  have z14 : h0.size ≤ T5.heap.size := (Nat.le_trans z13 K5.1)
  have g15 : n0 ≤ b9 := Nat.le_trans (Nat.le_trans (Nat.le_trans (Nat.le_of_eq O0.1.symm) O0.2.1) z14) (Nat.le_of_eq g9.symm)
  have X16 := (show Stand p l e _ (s.setVm s.vm) m _ below meth c _ _ _ _ from X9)
  obtain ⟨_, _, ⟨T12, L12, k12, n12⟩, -, Y12, hs12, hg12, ⟨Lc12, hQ12, l12, y12, z12⟩, st12⟩ := X16.specialBackS hx (y := Y9) rfl hown (mvT hZ (W 57 rfl)) (mvT hZ (W 58 rfl)) (mvT hZ (W 59 rfl)) (by decide) (backOfS (W := 1) (rm10_init l Z a0 hw b9 b1_b2 h9 n0 O10 (A9) ((D9 (Or.inr (W 29 rfl)) (ty := (.object "java/lang/Object")) (by decide) : FA11 Z h9 b9 .null)) (g15) ((D9 (Or.inr (W 32 rfl)) (ty := (.object "java/lang/Object")) (by decide) : FA12 Z h9 b9 .null))) hZ (W 59 rfl) (W 9 rfl) (by decide) (by decide)) (g := (mkF m 22 #[iv p1, iv p2, iv p3, rv b1_b2, rv b5_b2, .unset] [(.ref b1_b2), (.ref b9), (.ref b9)])) rfl (by rw [hml]; rfl) (Steps.refl _) (a := b9) (argsL := [(.ref b1_b2)]) (rest := [(.ref b9)]) (lenOf pd_82 rfl) rfl (by show 2 * 0 + _ ≤ _; exact Nat.le_of_eq rfl) (hb hby at_22) (fun _ _ => ⟨rfl, e9, (by decide : 3 + 2 ≤ _), (by decide : 4 + 16 ≤ _)⟩)
  dsimp only [Pt.U, Pt.locs, Pt.cells, Pt.slots] at Y12 l12 y12 z12 st12 hQ12 hs12 hg12
  subst l12 y12 z12
  obtain ⟨X12, hS12, hZ12, hown12⟩ := rebS (s := s) (vm0 := s.vm) ((State.WarmedH.refl s).since 0) (Nat.zero_le _) Y12 hs12 hg12 hZ hown
  obtain ⟨rfl, N12q, K12, F12_0, F12_1⟩ := hQ12
  have N17 := Fr.app N6 N12q
  have O18 := O10.keep K12 (allS g15 all0)
  have K19 : Keep h0 T12.heap [] := Keep.trans K11 K12 (allS (Or.inr (Nat.le_trans z14 (Nat.le_of_eq g9.symm))) all0)
  have f21 := (A9.keep K12)
  obtain ⟨_, T20, L20, X20, hQ20, st20⟩ := own_cv X12 hx hZ12 hown12 hml (W 33 rfl) (W 34 rfl) (notFace_of_selects (W 36 rfl)) (W 36 rfl) (W 35 rfl) (W 9 rfl) (W 37 rfl) (rm11_isOpenAtTop l Z a0 hw b9 T12.heap n0 O18 (F12_1)) rfl f21 (hb hby at_29) 0 #[iv p1, iv p2, iv p3, rv b1_b2, rv b5_b2, rv b9] [] [] pd_54 (by decide) rfl rfl rfl (Nat.le_of_eq rfl)
  obtain ⟨rfl, N20q, K20⟩ := hQ20
  have N22 := Fr.app N17 N20q
  obtain ⟨_, T23, L23, X23, hQ23, st23⟩ := own_cv X20 hx hZ12 hown12 hml (W 38 rfl) (W 39 rfl) (notFace_of_selects (W 41 rfl)) (W 41 rfl) (W 40 rfl) (W 9 rfl) (W 42 rfl) (rm7_getLow l Z a0 hw b9 b1_b2 T12.heap n0 O18 (F12_0)) K20 f21 (hb hby at_37) 0 #[iv p1, iv p2, iv p3, rv b1_b2, rv b5_b2, rv b9] [] [] pd_58 (by decide) rfl rfl rfl (Nat.le_of_eq rfl)
  obtain ⟨rfl, N23q, K23⟩ := hQ23
  have N24 := Fr.app N22 N23q
  have f26 := (((F1_0.keep K5).ext E9).keep K12)
  obtain ⟨T25, X25, e25, st25⟩ := castY X23 hx hZ12 hown12 (W 43 rfl) K23 (Ins.self f26) (g := (mkF m 40 #[iv p1, iv p2, iv p3, rv b1_b2, rv b5_b2, rv b9] [(.ref b1_b2)])) rfl rfl (hb hby at_40)
  have z28 : T1.heap.size ≤ T5.heap.size := K5.1
  have f29 := (((F1_1.keep K5 nin0).ext E9).keep K12 (ninS (Nat.ne_of_lt (Nat.lt_of_lt_of_le (Nat.lt_of_lt_of_le F1_0.lt z28) (Nat.le_of_eq g9.symm))) nin0))
  obtain ⟨_, T27, L27, X27, hQ27, st27⟩ := own_cv X25 hx hZ12 hown12 hml (W 45 rfl) (W 46 rfl) (notFace_of_selects (W 48 rfl)) (W 48 rfl) (W 47 rfl) (W 2 rfl) (W 49 rfl) (rm8_intValue l Z a0 hw b1_b2 p1 T12.heap n0 O18 (f29)) e25 f26 (hb hby at_43) 0 #[iv p1, iv p2, iv p3, rv b1_b2, rv b5_b2, rv b9] [] [] pd_62 (by decide) rfl rfl rfl (Nat.le_of_eq rfl)
  obtain ⟨rfl, N27q, K27⟩ := hQ27
  have N30 := Fr.app N24 N27q
  refine ⟨T27, some (.int (1 : Int32)), _, _, _, T12.vm, _, X27, hS12, (by rw [K27]; exact (Nat.le_refl _)), by decide, by decide, nofun, ?_, fun fs hr => castTop (ef_69 m p1 p2 p3) ?_⟩
  · exact ⟨rfl, N30⟩
  · show SS p e below s₁ m 0 #[iv p1, iv p2, iv p3, .unset, .unset, .unset] [] _
    refine XS.iloadN X0.here hx rfl (hb hby at_0) rfl ?_
    show SS p e below s₁ m 1 #[iv p1, iv p2, iv p3, .unset, .unset, .unset] [(.int p1)] _
    refine st1 _ ?_
    show SS p e below T1 m 4 #[iv p1, iv p2, iv p3, .unset, .unset, .unset] [(.ref b1_b2)] _
    refine XS.astoreN X1.here hx rfl (hb hby at_4) rfl rfl (l' := #[iv p1, iv p2, iv p3, rv b1_b2, .unset, .unset]) rfl ?_
    show SS p e below T1 m 5 #[iv p1, iv p2, iv p3, rv b1_b2, .unset, .unset] [] _
    refine XS.iloadN X1.here hx rfl (hb hby at_5) rfl ?_
    show SS p e below T1 m 6 #[iv p1, iv p2, iv p3, rv b1_b2, .unset, .unset] [(.int p2)] _
    refine st5 _ ?_
    show SS p e below T5 m 9 #[iv p1, iv p2, iv p3, rv b1_b2, .unset, .unset] [(.ref b5_b2)] _
    refine XS.astore X5.here hx rfl (hb hby at_9) rfl rfl (l' := #[iv p1, iv p2, iv p3, rv b1_b2, rv b5_b2, .unset]) rfl ?_
    show SS p e below T5 m 11 #[iv p1, iv p2, iv p3, rv b1_b2, rv b5_b2, .unset] [] _
    refine XS.iloadN X5.here hx rfl (hb hby at_11) rfl ?_
    refine XS.iconst X5.here hx rfl (hb hby at_12) ?_
    show SS p e below T5 m 13 #[iv p1, iv p2, iv p3, rv b1_b2, rv b5_b2, .unset] [(.int (1 : Int32)), (.int p3)] _
    refine XS.iand X5.here hx rfl (hb hby at_13) rfl ?_
    rw [hf]
    show SS p e below T5 m 14 #[iv p1, iv p2, iv p3, rv b1_b2, rv b5_b2, .unset] [(.int (1 : Int32))] _
    refine XS.ifNo X5.here hx rfl (hb hby at_14) rfl ((if0 _ _).trans (feq (by decide : ¬ ((1 : Int32) = (0 : Int32)))).1) ?_
    show SS p e below T5 m 17 #[iv p1, iv p2, iv p3, rv b1_b2, rv b5_b2, .unset] [] _
    refine st9 _ ?_
    show SS p e below T9 m 20 #[iv p1, iv p2, iv p3, rv b1_b2, rv b5_b2, .unset] [(.ref b9)] _
    refine XS.dup X9.here hx rfl (hb hby at_20) rfl rfl ?_
    refine XS.aloadN X9.here hx rfl (hb hby at_21) rfl rfl ?_
    show SS p e below T9 m 22 #[iv p1, iv p2, iv p3, rv b1_b2, rv b5_b2, .unset] [(.ref b1_b2), (.ref b9), (.ref b9)] _
    refine st12.trans ?_
    show SS p e below T12 m 25 #[iv p1, iv p2, iv p3, rv b1_b2, rv b5_b2, .unset] [(.ref b9)] _
    refine XS.astore X12.here hx rfl (hb hby at_25) rfl rfl (l' := #[iv p1, iv p2, iv p3, rv b1_b2, rv b5_b2, rv b9]) rfl ?_
    show SS p e below T12 m 27 #[iv p1, iv p2, iv p3, rv b1_b2, rv b5_b2, rv b9] [] _
    refine XS.aload X12.here hx rfl (hb hby at_27) rfl rfl ?_
    show SS p e below T12 m 29 #[iv p1, iv p2, iv p3, rv b1_b2, rv b5_b2, rv b9] [(.ref b9)] _
    refine st20 _ ?_
    show SS p e below T20 m 32 #[iv p1, iv p2, iv p3, rv b1_b2, rv b5_b2, rv b9] [(.int (1 : Int32))] _
    refine XS.ifNo X20.here hx rfl (hb hby at_32) rfl ((if0 _ _).trans (feq (by decide : ¬ ((1 : Int32) = (0 : Int32)))).1) ?_
    show SS p e below T20 m 35 #[iv p1, iv p2, iv p3, rv b1_b2, rv b5_b2, rv b9] [] _
    refine XS.aload X20.here hx rfl (hb hby at_35) rfl rfl ?_
    show SS p e below T20 m 37 #[iv p1, iv p2, iv p3, rv b1_b2, rv b5_b2, rv b9] [(.ref b9)] _
    refine st23 _ ?_
    show SS p e below T23 m 40 #[iv p1, iv p2, iv p3, rv b1_b2, rv b5_b2, rv b9] [(.ref b1_b2)] _
    refine st25 _ ?_
    show SS p e below T25 m 43 #[iv p1, iv p2, iv p3, rv b1_b2, rv b5_b2, rv b9] [(.ref b1_b2)] _
    refine st27 _ ?_
    show SS p e below T27 m 46 #[iv p1, iv p2, iv p3, rv b1_b2, rv b5_b2, rv b9] [(.int p1)] _
    refine XS.iloadN X27.here hx rfl (hb hby at_46) rfl ?_
    show SS p e below T27 m 47 #[iv p1, iv p2, iv p3, rv b1_b2, rv b5_b2, rv b9] [(.int p1), (.int p1)] _
    refine XS.icmpNo X27.here hx rfl (hb hby at_47) rfl (teq (rfl : p1 = p1)).2 ?_
    show SS p e below T27 m 50 #[iv p1, iv p2, iv p3, rv b1_b2, rv b5_b2, rv b9] [] _
    refine XS.iconst X27.here hx rfl (hb hby at_50) ?_
    refine XS.goto X27.here hx rfl (pc0 := 51) (pc' := 55) rfl (hb hby at_51) (by decide) (by decide) ?_
    show SS p e below T27 m 55 #[iv p1, iv p2, iv p3, rv b1_b2, rv b5_b2, rv b9] [(.int (1 : Int32))] _
    exact retN X27 hx (t := .boolean) hret (by simp) (hb hby at_55) hr
theorem own_box {Z : State} {a : Addr} {c : Cell} (B : Bxs Z a c "java/lang/Integer" "I" (256 : Int32) (fun j => .int (j - (128 : Int32)))) {p : Int32} (h1 : ¬ (p < (-128 : Int32))) (h2 : ¬ ((127 : Int32) < p)) :
    ∃ b : Addr, EA13 Z Z.heap b ∧ FA10 Z Z.heap b (.int p) ∧ Elt Z Z.heap a (.object "java/lang/Integer") (p + (128 : Int32)) (.ref b) := by
  have r1 := rng32 p
  have q := c_iadd p 128
  have h1' : ¬ (p.toInt < -128) := by simpa [Int32.lt_iff_toInt_lt] using h1
  have h2' : ¬ (127 < p.toInt) := by simpa [Int32.lt_iff_toInt_lt] using h2
  have r2 := rng32 (p + 128)
  simp only [Int32.reduceToInt] at q
  have hj : ¬ (p + (128 : Int32) < 0 ∨ c.slots.size ≤ (p + (128 : Int32)).toNatClampNeg) := inb_of B.2.1 ⟨by rw [Int32.lt_iff_toInt_lt]; simp only [Int32.reduceToInt]; omega, by rw [Int32.lt_iff_toInt_lt]; simp only [Int32.reduceToInt]; omega⟩
  obtain ⟨b, e1, e2, e3⟩ := B.2.2.2 _ hj
  refine ⟨b, e2, ?_, ⟨c, B.1, hj, e1⟩⟩
  have e4 : (p + (128 : Int32)) - (128 : Int32) = p := by simp
  rw [← e4]; exact e3
theorem rm0 (l : Launch) (Z : State) (a0 : Array Value) (hw : HW Z a0) (ws : List Jvm.Cond) (p1 : Int32) (p2 : Int32) (p3 : Int32) (o_cache : Addr) (h0 : Heap) (n0 : Nat) (O0 : Old Z n0 h0) (S_c_high : SA16 Z Z.heap (.int (127 : Int32))) (S_o_cache : SA17 Z Z.heap (.ref o_cache)) (E_o_cache : EA15 Z Z.heap o_cache)  (cc : Cell) (B : Bxs Z o_cache cc "java/lang/Integer" "I" (256 : Int32) (fun j => .int (j - (128 : Int32)))) :
    MetW l Z ws x code maxLocals ret room_1 #[(.int p1), (.int p2), (.int p3)] h0 (fun v _ L => Q0 n0 v L) := by
  by_cases h1xa : p1 < (-128 : Int32)
  ·
    by_cases h1xb : p2 < (-128 : Int32)
    ·
      rcases and_one p3 with hf | hf
      · exact rm0_LL0 l Z a0 hw ws p1 p2 p3 o_cache h0 n0 O0 S_c_high S_o_cache E_o_cache h1xa h1xb hf
      · exact rm0_LL1 l Z a0 hw ws p1 p2 p3 o_cache h0 n0 O0 S_c_high S_o_cache E_o_cache h1xa h1xb hf
    ·
      by_cases h2xb : (127 : Int32) < p2
      ·
        rcases and_one p3 with hf | hf
        · exact rm0_LH0 l Z a0 hw ws p1 p2 p3 o_cache h0 n0 O0 S_c_high S_o_cache E_o_cache h1xa h1xb h2xb hf
        · exact rm0_LH1 l Z a0 hw ws p1 p2 p3 o_cache h0 n0 O0 S_c_high S_o_cache E_o_cache h1xa h1xb h2xb hf
      ·
        obtain ⟨xb, E_xb, F_xb, Et_xb⟩ := own_box B h1xb h2xb
        rcases and_one p3 with hf | hf
        · exact rm0_LC0 l Z a0 hw ws p1 p2 p3 o_cache xb h0 n0 O0 S_c_high S_o_cache E_o_cache E_xb F_xb Et_xb h1xa h1xb h2xb hf
        · exact rm0_LC1 l Z a0 hw ws p1 p2 p3 o_cache xb h0 n0 O0 S_c_high S_o_cache E_o_cache E_xb F_xb Et_xb h1xa h1xb h2xb hf
  ·
    by_cases h2xa : (127 : Int32) < p1
    ·
      by_cases h1xb : p2 < (-128 : Int32)
      ·
        rcases and_one p3 with hf | hf
        · exact rm0_HL0 l Z a0 hw ws p1 p2 p3 o_cache h0 n0 O0 S_c_high S_o_cache E_o_cache h1xa h2xa h1xb hf
        · exact rm0_HL1 l Z a0 hw ws p1 p2 p3 o_cache h0 n0 O0 S_c_high S_o_cache E_o_cache h1xa h2xa h1xb hf
      ·
        by_cases h2xb : (127 : Int32) < p2
        ·
          rcases and_one p3 with hf | hf
          · exact rm0_HH0 l Z a0 hw ws p1 p2 p3 o_cache h0 n0 O0 S_c_high S_o_cache E_o_cache h1xa h2xa h1xb h2xb hf
          · exact rm0_HH1 l Z a0 hw ws p1 p2 p3 o_cache h0 n0 O0 S_c_high S_o_cache E_o_cache h1xa h2xa h1xb h2xb hf
        ·
          obtain ⟨xb, E_xb, F_xb, Et_xb⟩ := own_box B h1xb h2xb
          rcases and_one p3 with hf | hf
          · exact rm0_HC0 l Z a0 hw ws p1 p2 p3 o_cache xb h0 n0 O0 S_c_high S_o_cache E_o_cache E_xb F_xb Et_xb h1xa h2xa h1xb h2xb hf
          · exact rm0_HC1 l Z a0 hw ws p1 p2 p3 o_cache xb h0 n0 O0 S_c_high S_o_cache E_o_cache E_xb F_xb Et_xb h1xa h2xa h1xb h2xb hf
    ·
      obtain ⟨xa, E_xa, F_xa, Et_xa⟩ := own_box B h1xa h2xa
      by_cases h1xb : p2 < (-128 : Int32)
      ·
        rcases and_one p3 with hf | hf
        · exact rm0_CL0 l Z a0 hw ws p1 p2 p3 o_cache xa h0 n0 O0 S_c_high S_o_cache E_o_cache E_xa F_xa Et_xa h1xa h2xa h1xb hf
        · exact rm0_CL1 l Z a0 hw ws p1 p2 p3 o_cache xa h0 n0 O0 S_c_high S_o_cache E_o_cache E_xa F_xa Et_xa h1xa h2xa h1xb hf
      ·
        by_cases h2xb : (127 : Int32) < p2
        ·
          rcases and_one p3 with hf | hf
          · exact rm0_CH0 l Z a0 hw ws p1 p2 p3 o_cache xa h0 n0 O0 S_c_high S_o_cache E_o_cache E_xa F_xa Et_xa h1xa h2xa h1xb h2xb hf
          · exact rm0_CH1 l Z a0 hw ws p1 p2 p3 o_cache xa h0 n0 O0 S_c_high S_o_cache E_o_cache E_xa F_xa Et_xa h1xa h2xa h1xb h2xb hf
        ·
          obtain ⟨xb, E_xb, F_xb, Et_xb⟩ := own_box B h1xb h2xb
          rcases and_one p3 with hf | hf
          · exact rm0_CC0 l Z a0 hw ws p1 p2 p3 o_cache xa xb h0 n0 O0 S_c_high S_o_cache E_o_cache E_xa F_xa Et_xa E_xb F_xb Et_xb h1xa h2xa h1xb h2xb hf
          · exact rm0_CC1 l Z a0 hw ws p1 p2 p3 o_cache xa xb h0 n0 O0 S_c_high S_o_cache E_o_cache E_xa F_xa Et_xa E_xb F_xb Et_xb h1xa h2xa h1xb h2xb hf
theorem own_len {a : Array Value} {s : State} {t : Term} {b : Addr} {c : Cell} {ty : FieldType} {n : Int32} (ev : t.eval a s none [] s = some (.ref b)) (A : Arr s s.heap b c ty) (h : (Term.length t).eval a s none [] s = some (.int n)) : c.slots.size < 2 ^ 31 ∧ c.slots.size.toInt32 = n := by
  have hf := A.fin (Vm.Alike.refl _)
  by_cases q : c.slots.size < 2 ^ 31
  · have e := len_f ev hf q
    rw [h] at e
    exact ⟨q, by injection e with e; injection e with e; exact e.symm⟩
  · simp [Term.eval, ev, hf] at h
    omega
theorem own_idx {a : Array Value} {s : State} {j : Int32} (nn : ¬ j < 0) : (Term.sub (Term.index 0) (Term.int (128 : Int32))).eval a s none [j.toNatClampNeg] s = some (.int (j - (128 : Int32))) := by
  have h := idx_at (args := a) (s := s) (first := s) (o := none) nn
  simp [Term.eval] at h ⊢
  simp [h]
set_option maxRecDepth 65536 in
set_option maxHeartbeats 40000000 in
theorem comes_1 {Post : Tables → Env → Array Value → State → Outcome → State → Prop} (hpost : ∀ tb e args s v u, (limb_1_1.after args s (.returned v) u = true ∧ limb_1_2.after args s (.returned v) u = true ∧ True) → ReturnedEndW s (.returned v) u (Jvm.fieldLocs frame_1_writes args s ++ Jvm.arrayLocs frame_1_arrays args s ++ Jvm.staticLocs frame_1_statics s) 24 2176 → Post tb e args s (.returned v) u) :
    ArmFor flags0 classFile x code maxLocals ret World_1 tables_1 room_1 Calls_1 rest_1 Pre_1 Post := by
  intro l hfl _ _ p e ha hc hk s m args below hf hA hF happ hP
  obtain ⟨hcalls, hrest, hpre⟩ := hP
  obtain ⟨-, -, -, hnamed, -, -, -, hat⟩ := (Spec.applies_iff hf).mp happ
  obtain ⟨hg, hn⟩ := and_e (Cond.before_iff.mp (show (Jvm.Cond.and given_1 narrow_1).before args s = true from hpre))
  obtain ⟨hg0, hgr0⟩ := and_e hg
  obtain ⟨hg1, hgr1⟩ := and_e hgr0
  obtain ⟨hg2, hg3⟩ := and_e hgr1
  obtain ⟨w0, w1, w2, rfl⟩ : ∃ w0 w1 w2 : Value, args = #[w0, w1, w2] := by
    have hs : args.size = 3 := by simpa [Cond.value, given_1] using hg0
    obtain ⟨L⟩ := args
    match L, hs with
    | [w0, w1, w2], _ => exact ⟨w0, w1, w2, rfl⟩
  have hw := fun d (hd : d ∈ tables_1) => atoms_spec (ws := Jvm.Cond.code x code maxLocals ret :: tables_1) hat d (List.mem_cons_of_mem _ hd)
  have W := fun (i : Nat) {c : Jvm.Cond} (q : tables_1[i]? = some c) => hw c (List.mem_of_getElem? q)
  have hfit : Fit s := fun {y c} hc i hi => by
    obtain ⟨ha, rfl⟩ := Array.getElem?_eq_some_iff.mp hc
    have q := List.all_eq_true.mp ((Array.all_eq_true_iff_forall_mem.mp hF) _ (Array.getElem_mem ha)) i (List.mem_range.mpr hi)
    simpa [Array.getElem?_eq_getElem hi] using q
  obtain ⟨hsets, hown0⟩ := atoms_of _ (rest_1_c_eq ▸ (show rest_1_c.before _ s = true from hrest))
  have hr0 := Cond.before_iff.mp hown0
  obtain ⟨i0, ei0⟩ := is_v hg1
  obtain rfl : w0 = (.int i0) := Option.some.inj ei0
  obtain ⟨i1, ei1⟩ := is_v hg2
  obtain rfl : w1 = (.int i1) := Option.some.inj ei1
  obtain ⟨i2, ei2⟩ := is_v hg3
  obtain rfl : w2 = (.int i2) := Option.some.inj ei2
  have S_c_high := Sta.start (own_eqI (Cond.before_iff.mp (hsets _ (List.mem_of_getElem? (i := 3) rfl)))) (Or.inl (hsets _ (List.mem_of_getElem? (i := 1) rfl)))
  obtain ⟨o_cache, ev_o_cache⟩ := exa_v (Cond.before_iff.mp (hsets _ (List.mem_of_getElem? (i := 5) rfl)))
  have S_o_cache := Sta.start ev_o_cache (Or.inr ⟨(W 5 rfl), (hsets _ (List.mem_of_getElem? (i := 2) rfl))⟩)
  have E_o_cache := Exa.start ev_o_cache (Cond.before_iff.mp (hsets _ (List.mem_of_getElem? (i := 5) rfl)))
  obtain ⟨cc, hA⟩ := Arr.start ev_o_cache (Cond.before_iff.mp (hsets _ (List.mem_of_getElem? (i := 4) rfl)))
  have hlen := own_eqI (Cond.before_iff.mp (hsets _ (List.mem_of_getElem? (i := 6) rfl)))
  obtain ⟨hq1, hq2⟩ := own_len ev_o_cache hA hlen
  have B := Bxs.start (d := "I") (val := fun j => .int (j - (128 : Int32))) (fun _ => ev_o_cache) hA hq1 hq2 (by decide) (Cond.before_iff.mp (hsets _ (List.mem_of_getElem? (i := 7) rfl))) (fun X j nn hX => eqv_i (own_idx nn) hX)
  obtain ⟨n, o, h1, h2, h3, _, L, rfl, ⟨rfl, N⟩, hq⟩ := rm0 l s _ hw tables_1 i0 i1 i2 o_cache s.heap s.heap.size (Old.start s) S_c_high S_o_cache E_o_cache cc B p e ha hc hk s m _ below hf ((Spec.applies_iff_loose hf).mp happ).1 ⟨rfl, State.Warmed39.refl s, rfl⟩ trivial
  refine ⟨n, _, h1, h2, h3, hpost _ _ _ _ _ _ ⟨Cond.after_iff.mpr rfl, Cond.after_iff.mpr (eq_i res_at (Term.int_eval (1)) rfl), trivial⟩ ⟨hq.1, hq.2.1, hq.2.2.1, (hq.2.2.2.sift fun y hy => Or.inr (N y hy)).mono (by decide) (by decide)⟩⟩
theorem main_1_1 : Claimed_1_1 := comes_1 fun _ _ _ _ _ _ h hF => ⟨h.1, hF⟩
theorem main_1_2 : Claimed_1_2 := comes_1 fun _ _ _ _ _ _ h hF => ⟨h.2.1, hF⟩
end Jvm.Pilot.@@N@@
namespace Jvm.Pilot.@@N@@
open Jvm Jvm.ClassFile Sem Op Lib Jvm.Free Jvm.Stand Jvm.Pilot.@@N@@.Jvm.D
/-! MADE BY PROGRAM (witnessworld.py) out of the Statement's table words and the real class files: 19 classes; the members and pool entries that the words name. The judged class is class 1, her method 1. -/
namespace start1
open Jvm.ClassFile
def u (s : String) : CpInfo := .utf8 (stringToUtf16 s)
/-- a pool by its gaps: so many unusable entries, then the entry; so many at the end -/
def gap : Nat → List CpInfo → List CpInfo
  | 0, r => r
  | n + 1, r => .unusable :: gap n r
def poolList (es : List (Nat × CpInfo)) (last : Nat) : List CpInfo := es.foldr (fun e r => gap e.1 (e.2 :: r)) (gap last [])
def pool (es : List (Nat × CpInfo)) (last : Nat) : Array CpInfo := ⟨poolList es last⟩
def fileOf (pool : Array CpInfo) (this : Nat) (attrs : Array Attribute := #[]) (ms : Array MethodInfo := #[]) (fl : Nat := 33) (sup : Nat := 0) (ifs : Array Nat := #[]) (fds : Array FieldInfo := #[]) : ClassFile where
  minorVersion := 0
  majorVersion := 65
  constantPool := pool
  accessFlags := fl
  thisClass := this
  superClass := sup
  interfaces := ifs
  fields := fds
  methods := ms
  attributes := attrs
def plain (name : String) (sup : Option ClassId) : Class where
  name := name
  kind := .ordinary
  loader := none
  accessFlags := 33
  super := sup
  interfaces := #[]
  cf := none
  fields := #[]
  methods := #[]
  instanceTypes := #[]
  staticTypes := #[]
  resolved := #[]
  callSites := []
  init := .initialized
  statics := none
  mirror := none

def pool0 : Array CpInfo := pool [(5, u "<init>"), (0, u "()V"), (1, .class_ 10), (1, u "java/lang/Object")] 113

def k0c0 : Code := { maxStack := 0, maxLocals := 1, code := object_method_1_code, exceptionTable := #[], attributes := #[] }
def k0m0 : Method := { name := "<init>", desc := "()V", sig := { parameters := [], returnType := none }, accessFlags := 1, code := some k0c0 }
/-- java/lang/Object -/
def k0 : Class := { plain "java/lang/Object" none with
  accessFlags := 33
  interfaces := #[]
  cf := some (fileOf pool0 8 #[] #[{ accessFlags := 1, nameIndex := 5, descriptorIndex := 6, attributes := #[] }] 33 0 #[] #[])
  fields := #[]
  methods := #[k0m0]
  instanceTypes := #[]
  staticTypes := #[]
  resolved := Array.replicate 124 none
  statics := none }

def pool1 : Array CpInfo := pool [(2, .class_ 4), (1, u "java/lang/Object"), (0, u "<init>"), (0, u "()V"), (0, .methodref 8 9), (0, .class_ 10), (0, .nameAndType 11 12), (0, u "java/lang/Integer"), (0, u "valueOf"), (0, u "(I)Ljava/lang/Integer;"), (0, .class_ 14), (0, u "com/example/libshardmap/libshardmap/Range"), (0, .methodref 13 16), (0, .nameAndType 5 17), (0, u "(Ljava/lang/Object;)V"), (0, .methodref 13 19), (0, .nameAndType 20 21), (0, u "isOpenAtTop"), (0, u "()Z"), (0, .methodref 13 23), (0, .nameAndType 24 25), (0, u "getLow"), (0, u "()Ljava/lang/Object;"), (0, .methodref 8 27), (0, .nameAndType 28 29), (0, u "intValue"), (0, u "()I"), (0, .methodref 13 31), (0, .nameAndType 5 32), (0, u "(Ljava/lang/Object;Ljava/lang/Object;)V"), (0, .methodref 13 34), (0, .nameAndType 35 25), (0, u "getHigh"), (0, .class_ 37), (0, u "com/example/libshardmap/libshardmap/RangeIsOpenAtTopPinLaw"), (2, u "law"), (0, u "(III)Z")] 3

def k1m0 : Method := { name := "<init>", desc := "()V", sig := { parameters := [], returnType := none }, accessFlags := 1, code := none }
def k1c1 : Code := { maxStack := 4, maxLocals := 6, code := code, exceptionTable := #[], attributes := #[] }
def k1m1 : Method := { name := "law", desc := "(III)Z", sig := { parameters := [.int, .int, .int], returnType := some .boolean }, accessFlags := 9, code := some k1c1 }
/-- com/example/libshardmap/libshardmap/RangeIsOpenAtTopPinLaw -/
def k1 : Class := { plain "com/example/libshardmap/libshardmap/RangeIsOpenAtTopPinLaw" (some 0) with
  accessFlags := 49
  interfaces := #[]
  cf := some (fileOf pool1 36 #[] #[{ accessFlags := 1, nameIndex := 5, descriptorIndex := 6, attributes := #[] }, { accessFlags := 9, nameIndex := 40, descriptorIndex := 41, attributes := #[] }] 49 2 #[] #[])
  fields := #[]
  methods := #[k1m0, k1m1]
  instanceTypes := #[]
  staticTypes := #[]
  resolved := Array.replicate 45 none
  statics := none }

def pool2 : Array CpInfo := pool [(1, .class_ 2), (0, u "java/io/Serializable"), (0, .class_ 4), (0, u "java/lang/Object")] 2

/-- java/io/Serializable -/
def k2 : Class := { plain "java/io/Serializable" (some 0) with
  accessFlags := 1537
  interfaces := #[]
  cf := some (fileOf pool2 1 #[] #[] 1537 3 #[] #[])
  fields := #[]
  methods := #[]
  instanceTypes := #[]
  staticTypes := #[]
  resolved := Array.replicate 7 none
  statics := none }

def pool3 : Array CpInfo := pool [(1, .methodref 2 3), (0, .class_ 4), (0, .nameAndType 5 6), (0, u "java/lang/Object"), (0, u "<init>"), (0, u "()V"), (1, .class_ 10), (1, u "java/lang/Number"), (2, .class_ 14), (0, u "java/io/Serializable"), (0, u "serialVersionUID"), (0, u "J")] 20

def k3c0 : Code := { maxStack := 1, maxLocals := 1, code := jdk_18_method_1_code, exceptionTable := #[], attributes := #[] }
def k3m0 : Method := { name := "<init>", desc := "()V", sig := { parameters := [], returnType := none }, accessFlags := 1, code := some k3c0 }
/-- java/lang/Number -/
def k3 : Class := { plain "java/lang/Number" (some 0) with
  accessFlags := 1057
  interfaces := #[2]
  cf := some (fileOf pool3 8 #[] #[{ accessFlags := 1, nameIndex := 5, descriptorIndex := 6, attributes := #[] }] 1057 2 #[13] #[{ accessFlags := 26, nameIndex := 15, descriptorIndex := 16, attributes := #[] }])
  fields := #[{ name := "serialVersionUID", type := .long, accessFlags := 26, slot := 0, constantValue := 0 }]
  methods := #[k3m0]
  instanceTypes := #[]
  staticTypes := #[.long]
  resolved := Array.replicate 37 none
  statics := none }

def pool4 : Array CpInfo := pool [(1, .class_ 2), (0, u "java/lang/Comparable"), (0, .class_ 4), (0, u "java/lang/Object")] 7

/-- java/lang/Comparable -/
def k4 : Class := { plain "java/lang/Comparable" (some 0) with
  accessFlags := 1537
  interfaces := #[]
  cf := some (fileOf pool4 1 #[] #[] 1537 3 #[] #[])
  fields := #[]
  methods := #[]
  instanceTypes := #[]
  staticTypes := #[]
  resolved := Array.replicate 12 none
  statics := none }

def pool5 : Array CpInfo := pool [(1, .class_ 2), (0, u "java/lang/constant/Constable"), (0, .class_ 4), (0, u "java/lang/Object")] 6

/-- java/lang/constant/Constable -/
def k5 : Class := { plain "java/lang/constant/Constable" (some 0) with
  accessFlags := 1537
  interfaces := #[]
  cf := some (fileOf pool5 1 #[] #[] 1537 3 #[] #[])
  fields := #[]
  methods := #[]
  instanceTypes := #[]
  staticTypes := #[]
  resolved := Array.replicate 11 none
  statics := none }

def pool6 : Array CpInfo := pool [(1, .class_ 2), (0, u "java/lang/constant/ConstantDesc"), (0, .class_ 4), (0, u "java/lang/Object")] 32

/-- java/lang/constant/ConstantDesc -/
def k6 : Class := { plain "java/lang/constant/ConstantDesc" (some 0) with
  accessFlags := 1537
  interfaces := #[]
  cf := some (fileOf pool6 1 #[] #[] 1537 3 #[] #[])
  fields := #[]
  methods := #[]
  instanceTypes := #[]
  staticTypes := #[]
  resolved := Array.replicate 37 none
  statics := none }

def pool7 : Array CpInfo := pool [(1, .class_ 2), (0, u "java/lang/Integer"), (16, u "digits"), (0, u "[C"), (46, u "<init>"), (17, u "DigitOnes"), (0, u "[B"), (2, u "DigitTens"), (10, .nameAndType 67 101), (0, u "()V"), (19, u "()I"), (65, u "valueOf"), (0, u "(I)Ljava/lang/Integer;"), (0, .class_ 190), (0, u "java/lang/Integer$IntegerCache"), (0, .fieldref 189 192), (0, .nameAndType 193 194), (0, u "high"), (0, u "I"), (0, .fieldref 189 196), (0, .nameAndType 197 198), (0, u "cache"), (0, u "[Ljava/lang/Integer;"), (0, .methodref 1 200), (0, .nameAndType 67 201), (0, u "(I)V"), (0, .methodref 203 100), (0, .class_ 204), (0, u "java/lang/Number"), (0, .fieldref 1 206), (0, .nameAndType 207 194), (0, u "value"), (5, u "intValue"), (88, u "TYPE"), (0, u "Ljava/lang/Class;"), (0, .class_ 305), (0, u "java/lang/Comparable"), (0, .class_ 307), (0, u "java/lang/constant/Constable"), (0, .class_ 309), (0, u "java/lang/constant/ConstantDesc"), (0, u "MIN_VALUE"), (1, u "MAX_VALUE"), (3, u "SIZE"), (1, u "BYTES"), (1, u "serialVersionUID"), (0, u "J")] 131

def k7c0 : Code := { maxStack := 3, maxLocals := 1, code := jdk_33_method_22_code, exceptionTable := #[], attributes := #[] }
def k7m0 : Method := { name := "valueOf", desc := "(I)Ljava/lang/Integer;", sig := { parameters := [.int], returnType := some (.object "java/lang/Integer") }, accessFlags := 9, code := some k7c0 }
def k7c1 : Code := { maxStack := 2, maxLocals := 2, code := jdk_33_method_23_code, exceptionTable := #[], attributes := #[] }
def k7m1 : Method := { name := "<init>", desc := "(I)V", sig := { parameters := [.int], returnType := none }, accessFlags := 1, code := some k7c1 }
def k7c2 : Code := { maxStack := 1, maxLocals := 1, code := jdk_33_method_27_code, exceptionTable := #[], attributes := #[] }
def k7m2 : Method := { name := "intValue", desc := "()I", sig := { parameters := [], returnType := some .int }, accessFlags := 1, code := some k7c2 }
/-- java/lang/Integer -/
def k7 : Class := { plain "java/lang/Integer" (some 3) with
  accessFlags := 49
  interfaces := #[4, 5, 6]
  cf := some (fileOf pool7 1 #[.nestMembers #[189]] #[{ accessFlags := 9, nameIndex := 187, descriptorIndex := 188, attributes := #[] }, { accessFlags := 1, nameIndex := 67, descriptorIndex := 201, attributes := #[] }, { accessFlags := 1, nameIndex := 213, descriptorIndex := 121, attributes := #[] }] 49 203 #[304, 306, 308] #[{ accessFlags := 25, nameIndex := 310, descriptorIndex := 194, attributes := #[] }, { accessFlags := 25, nameIndex := 312, descriptorIndex := 194, attributes := #[] }, { accessFlags := 25, nameIndex := 302, descriptorIndex := 303, attributes := #[] }, { accessFlags := 24, nameIndex := 19, descriptorIndex := 20, attributes := #[] }, { accessFlags := 24, nameIndex := 89, descriptorIndex := 86, attributes := #[] }, { accessFlags := 24, nameIndex := 85, descriptorIndex := 86, attributes := #[] }, { accessFlags := 18, nameIndex := 207, descriptorIndex := 194, attributes := #[] }, { accessFlags := 25, nameIndex := 316, descriptorIndex := 194, attributes := #[] }, { accessFlags := 25, nameIndex := 318, descriptorIndex := 194, attributes := #[] }, { accessFlags := 26, nameIndex := 320, descriptorIndex := 321, attributes := #[] }])
  fields := #[{ name := "MIN_VALUE", type := .int, accessFlags := 25, slot := 0, constantValue := 0 }, { name := "MAX_VALUE", type := .int, accessFlags := 25, slot := 1, constantValue := 0 }, { name := "TYPE", type := (.object "java/lang/Class"), accessFlags := 25, slot := 2, constantValue := 0 }, { name := "digits", type := (.array .char), accessFlags := 24, slot := 3, constantValue := 0 }, { name := "DigitTens", type := (.array .byte), accessFlags := 24, slot := 4, constantValue := 0 }, { name := "DigitOnes", type := (.array .byte), accessFlags := 24, slot := 5, constantValue := 0 }, { name := "value", type := .int, accessFlags := 18, slot := 0, constantValue := 0 }, { name := "SIZE", type := .int, accessFlags := 25, slot := 6, constantValue := 0 }, { name := "BYTES", type := .int, accessFlags := 25, slot := 7, constantValue := 0 }, { name := "serialVersionUID", type := .long, accessFlags := 26, slot := 8, constantValue := 0 }]
  methods := #[k7m0, k7m1, k7m2]
  instanceTypes := #[.int]
  staticTypes := #[.int, .int, (.object "java/lang/Class"), (.array .char), (.array .byte), (.array .byte), .int, .int, .long]
  resolved := Array.replicate 453 none
  statics := none }

def pool8 : Array CpInfo := pool [(2, .class_ 4), (1, u "java/lang/Object"), (0, u "<init>"), (0, u "()V"), (0, .class_ 8), (0, u "java/lang/Integer"), (7, .class_ 18), (1, u "java/lang/Integer$IntegerCache"), (0, u "$assertionsDisabled"), (0, u "Z"), (26, u "high"), (0, u "I"), (8, u "archivedCache"), (0, u "[Ljava/lang/Integer;"), (12, u "cache"), (0, u "low")] 27

def k8m0 : Method := { name := "<init>", desc := "()V", sig := { parameters := [], returnType := none }, accessFlags := 2, code := none }
/-- java/lang/Integer$IntegerCache -/
def k8 : Class := { plain "java/lang/Integer$IntegerCache" (some 0) with
  accessFlags := 48
  interfaces := #[]
  cf := some (fileOf pool8 16 #[.nestHost 7] #[{ accessFlags := 2, nameIndex := 5, descriptorIndex := 6, attributes := #[] }] 48 2 #[] #[{ accessFlags := 24, nameIndex := 72, descriptorIndex := 48, attributes := #[] }, { accessFlags := 24, nameIndex := 47, descriptorIndex := 48, attributes := #[] }, { accessFlags := 24, nameIndex := 71, descriptorIndex := 58, attributes := #[] }, { accessFlags := 8, nameIndex := 57, descriptorIndex := 58, attributes := #[] }, { accessFlags := 4120, nameIndex := 19, descriptorIndex := 20, attributes := #[] }])
  fields := #[{ name := "low", type := .int, accessFlags := 24, slot := 0, constantValue := 0 }, { name := "high", type := .int, accessFlags := 24, slot := 1, constantValue := 0 }, { name := "cache", type := (.array (.object "java/lang/Integer")), accessFlags := 24, slot := 2, constantValue := 0 }, { name := "archivedCache", type := (.array (.object "java/lang/Integer")), accessFlags := 8, slot := 3, constantValue := 0 }, { name := "$assertionsDisabled", type := .boolean, accessFlags := 4120, slot := 4, constantValue := 0 }]
  methods := #[k8m0]
  instanceTypes := #[]
  staticTypes := #[.int, .int, (.array (.object "java/lang/Integer")), (.array (.object "java/lang/Integer")), .boolean]
  resolved := Array.replicate 100 none
  statics := some 0 }

def pool9 : Array CpInfo := pool [(1, .methodref 2 3), (0, .class_ 4), (0, .nameAndType 5 6), (0, u "java/lang/Object"), (0, u "<init>"), (0, u "()V"), (0, .string 8), (0, u "low"), (0, .methodref 10 11), (0, .class_ 12), (0, .nameAndType 13 14), (0, u "java/util/Objects"), (0, u "requireNonNull"), (0, u "(Ljava/lang/Object;Ljava/lang/String;)Ljava/lang/Object;"), (0, .fieldref 16 17), (0, .class_ 18), (0, .nameAndType 8 19), (0, u "com/example/libshardmap/libshardmap/Range"), (0, u "Ljava/lang/Object;"), (0, .string 21), (0, u "high"), (0, .fieldref 16 23), (0, .nameAndType 21 19), (27, u "(Ljava/lang/Object;Ljava/lang/Object;)V"), (3, u "(Ljava/lang/Object;)V"), (1, u "getLow"), (0, u "()Ljava/lang/Object;"), (1, u "getHigh"), (1, u "isOpenAtTop"), (0, u "()Z")] 22

def k9c0 : Code := { maxStack := 3, maxLocals := 3, code := prog_29_method_1_code, exceptionTable := #[], attributes := #[] }
def k9m0 : Method := { name := "<init>", desc := "(Ljava/lang/Object;Ljava/lang/Object;)V", sig := { parameters := [(.object "java/lang/Object"), (.object "java/lang/Object")], returnType := none }, accessFlags := 1, code := some k9c0 }
def k9c1 : Code := { maxStack := 3, maxLocals := 2, code := prog_29_method_2_code, exceptionTable := #[], attributes := #[] }
def k9m1 : Method := { name := "<init>", desc := "(Ljava/lang/Object;)V", sig := { parameters := [(.object "java/lang/Object")], returnType := none }, accessFlags := 1, code := some k9c1 }
def k9c2 : Code := { maxStack := 1, maxLocals := 1, code := prog_29_method_3_code, exceptionTable := #[], attributes := #[] }
def k9m2 : Method := { name := "getLow", desc := "()Ljava/lang/Object;", sig := { parameters := [], returnType := some (.object "java/lang/Object") }, accessFlags := 1, code := some k9c2 }
def k9c3 : Code := { maxStack := 3, maxLocals := 1, code := prog_29_method_4_code, exceptionTable := #[], attributes := #[] }
def k9m3 : Method := { name := "getHigh", desc := "()Ljava/lang/Object;", sig := { parameters := [], returnType := some (.object "java/lang/Object") }, accessFlags := 1, code := some k9c3 }
def k9c4 : Code := { maxStack := 1, maxLocals := 1, code := prog_29_method_5_code, exceptionTable := #[], attributes := #[] }
def k9m4 : Method := { name := "isOpenAtTop", desc := "()Z", sig := { parameters := [], returnType := some .boolean }, accessFlags := 1, code := some k9c4 }
/-- com/example/libshardmap/libshardmap/Range -/
def k9 : Class := { plain "com/example/libshardmap/libshardmap/Range" (some 0) with
  accessFlags := 33
  interfaces := #[]
  cf := some (fileOf pool9 16 #[] #[{ accessFlags := 1, nameIndex := 5, descriptorIndex := 51, attributes := #[] }, { accessFlags := 1, nameIndex := 5, descriptorIndex := 55, attributes := #[] }, { accessFlags := 1, nameIndex := 57, descriptorIndex := 58, attributes := #[] }, { accessFlags := 1, nameIndex := 60, descriptorIndex := 58, attributes := #[] }, { accessFlags := 1, nameIndex := 62, descriptorIndex := 63, attributes := #[] }] 33 2 #[] #[{ accessFlags := 18, nameIndex := 8, descriptorIndex := 19, attributes := #[] }, { accessFlags := 18, nameIndex := 21, descriptorIndex := 19, attributes := #[] }])
  fields := #[{ name := "low", type := (.object "java/lang/Object"), accessFlags := 18, slot := 0, constantValue := 0 }, { name := "high", type := (.object "java/lang/Object"), accessFlags := 18, slot := 1, constantValue := 0 }]
  methods := #[k9m0, k9m1, k9m2, k9m3, k9m4]
  instanceTypes := #[(.object "java/lang/Object"), (.object "java/lang/Object")]
  staticTypes := #[]
  resolved := Array.replicate 86 none
  statics := none }

def pool10 : Array CpInfo := pool [(2, .class_ 4), (1, u "java/lang/CharSequence"), (42, .class_ 48), (0, u "java/lang/CharSequence$1CodePointIterator"), (10, .class_ 60), (0, u "java/lang/CharSequence$1CharIterator"), (5, .class_ 67), (0, u "java/lang/Object")] 63

/-- java/lang/CharSequence -/
def k10 : Class := { plain "java/lang/CharSequence" (some 0) with
  accessFlags := 1537
  interfaces := #[]
  cf := some (fileOf pool10 2 #[.nestMembers #[47, 59]] #[] 1537 66 #[] #[])
  fields := #[]
  methods := #[]
  instanceTypes := #[]
  staticTypes := #[]
  resolved := Array.replicate 131 none
  statics := none }

def pool11 : Array CpInfo := pool [(2, .class_ 4), (1, u "java/lang/Object"), (0, u "<init>"), (0, u "()V"), (3, .class_ 12), (1, u "java/lang/String"), (0, u "value"), (0, u "[B"), (2, u "coder"), (0, u "B"), (2, u "hash"), (0, u "I"), (2, u "hashIsZero"), (0, u "Z"), (13, u "COMPACT_STRINGS"), (534, .class_ 576), (0, u "java/lang/CharSequence"), (22, u "CASE_INSENSITIVE_ORDER"), (0, u "Ljava/util/Comparator;"), (500, u "serialPersistentFields"), (0, u "[Ljava/io/ObjectStreamField;"), (0, .class_ 1104), (0, u "java/lang/String$CaseInsensitiveComparator"), (1, .class_ 1107), (0, u "java/io/Serializable"), (0, .class_ 1109), (0, u "java/lang/Comparable"), (0, .class_ 1111), (0, u "java/lang/constant/Constable"), (0, .class_ 1113), (0, u "java/lang/constant/ConstantDesc"), (2, u "serialVersionUID"), (0, u "J"), (3, u "REPL"), (0, u "C"), (2, u "LATIN1"), (1, u "UTF16")] 323

def k11m0 : Method := { name := "<init>", desc := "()V", sig := { parameters := [], returnType := none }, accessFlags := 1, code := none }
/-- java/lang/String -/
def k11 : Class := { plain "java/lang/String" (some 0) with
  accessFlags := 49
  interfaces := #[2, 4, 10, 5, 6]
  cf := some (fileOf pool11 10 #[.nestMembers #[1103]] #[{ accessFlags := 1, nameIndex := 5, descriptorIndex := 6, attributes := #[] }] 49 2 #[1106, 1108, 575, 1110, 1112] #[{ accessFlags := 18, nameIndex := 13, descriptorIndex := 14, attributes := #[] }, { accessFlags := 18, nameIndex := 17, descriptorIndex := 18, attributes := #[] }, { accessFlags := 2, nameIndex := 21, descriptorIndex := 22, attributes := #[] }, { accessFlags := 2, nameIndex := 25, descriptorIndex := 26, attributes := #[] }, { accessFlags := 26, nameIndex := 1116, descriptorIndex := 1117, attributes := #[] }, { accessFlags := 24, nameIndex := 40, descriptorIndex := 26, attributes := #[] }, { accessFlags := 26, nameIndex := 1101, descriptorIndex := 1102, attributes := #[] }, { accessFlags := 26, nameIndex := 1121, descriptorIndex := 1122, attributes := #[] }, { accessFlags := 25, nameIndex := 599, descriptorIndex := 600, attributes := #[] }, { accessFlags := 24, nameIndex := 1125, descriptorIndex := 18, attributes := #[] }, { accessFlags := 24, nameIndex := 1127, descriptorIndex := 18, attributes := #[] }])
  fields := #[{ name := "value", type := (.array .byte), accessFlags := 18, slot := 0, constantValue := 0 }, { name := "coder", type := .byte, accessFlags := 18, slot := 1, constantValue := 0 }, { name := "hash", type := .int, accessFlags := 2, slot := 2, constantValue := 0 }, { name := "hashIsZero", type := .boolean, accessFlags := 2, slot := 3, constantValue := 0 }, { name := "serialVersionUID", type := .long, accessFlags := 26, slot := 0, constantValue := 0 }, { name := "COMPACT_STRINGS", type := .boolean, accessFlags := 24, slot := 1, constantValue := 0 }, { name := "serialPersistentFields", type := (.array (.object "java/io/ObjectStreamField")), accessFlags := 26, slot := 2, constantValue := 0 }, { name := "REPL", type := .char, accessFlags := 26, slot := 3, constantValue := 0 }, { name := "CASE_INSENSITIVE_ORDER", type := (.object "java/util/Comparator"), accessFlags := 25, slot := 4, constantValue := 0 }, { name := "LATIN1", type := .byte, accessFlags := 24, slot := 5, constantValue := 0 }, { name := "UTF16", type := .byte, accessFlags := 24, slot := 6, constantValue := 0 }]
  methods := #[k11m0]
  instanceTypes := #[(.array .byte), .byte, .int, .boolean]
  staticTypes := #[.long, .boolean, (.array (.object "java/io/ObjectStreamField")), .char, (.object "java/util/Comparator"), .byte, .byte]
  resolved := Array.replicate 1451 none
  statics := none }

def pool12 : Array CpInfo := pool [(2, .class_ 4), (1, u "java/lang/Object"), (0, u "<init>"), (0, u "()V"), (35, .class_ 44), (1, u "java/util/Objects"), (0, u "requireNonNull"), (48, u "(Ljava/lang/Object;Ljava/lang/String;)Ljava/lang/Object;")] 89

def k12m0 : Method := { name := "<init>", desc := "()V", sig := { parameters := [], returnType := none }, accessFlags := 2, code := none }
def k12c1 : Code := { maxStack := 3, maxLocals := 2, code := jdk_31_method_11_code, exceptionTable := #[], attributes := #[] }
def k12m1 : Method := { name := "requireNonNull", desc := "(Ljava/lang/Object;Ljava/lang/String;)Ljava/lang/Object;", sig := { parameters := [(.object "java/lang/Object"), (.object "java/lang/String")], returnType := some (.object "java/lang/Object") }, accessFlags := 9, code := some k12c1 }
/-- java/util/Objects -/
def k12 : Class := { plain "java/util/Objects" (some 0) with
  accessFlags := 49
  interfaces := #[]
  cf := some (fileOf pool12 42 #[] #[{ accessFlags := 2, nameIndex := 5, descriptorIndex := 6, attributes := #[] }, { accessFlags := 9, nameIndex := 45, descriptorIndex := 94, attributes := #[] }] 49 2 #[] #[])
  fields := #[]
  methods := #[k12m0, k12m1]
  instanceTypes := #[]
  staticTypes := #[]
  resolved := Array.replicate 184 none
  statics := none }

def pool13 : Array CpInfo := pool [(1, u "java/lang/Cloneable"), (0, .class_ 1), (0, u "java/lang/Object"), (0, .class_ 3)] 3

/-- java/lang/Cloneable -/
def k13 : Class := { plain "java/lang/Cloneable" (some 0) with
  accessFlags := 1537
  interfaces := #[]
  cf := some (fileOf pool13 2 #[] #[] 1537 4 #[] #[])
  fields := #[]
  methods := #[]
  instanceTypes := #[]
  staticTypes := #[]
  resolved := Array.replicate 8 none
  statics := none }

/-- the primitive byte -/
def k14 : Class := { plain "byte" none with kind := .primitive 'B', accessFlags := 0x411 }
/-- [B -/
def k15 : Class := { plain "[B" (some 0) with kind := .array 14 .byte, interfaces := #[13, 2], accessFlags := 1041 }

/-- the primitive int -/
def k16 : Class := { plain "int" none with kind := .primitive 'I', accessFlags := 0x411 }
/-- [I -/
def k17 : Class := { plain "[I" (some 0) with kind := .array 16 .int, interfaces := #[13, 2], accessFlags := 1041 }

/-- [Ljava/lang/Integer; -/
def k18 : Class := { plain "[Ljava/lang/Integer;" (some 0) with kind := .array 7 (.object "java/lang/Integer"), interfaces := #[13, 2], accessFlags := 1041 }

def heap : Heap := #[{ cls := 8, slots := #[.int 0, .int 127, .ref 1, .null, .int 0], vm := .statics 8 },
  { cls := 18, slots := #[.ref 2, .ref 3, .ref 4, .ref 5, .ref 6, .ref 7, .ref 8, .ref 9, .ref 10, .ref 11, .ref 12, .ref 13, .ref 14, .ref 15, .ref 16, .ref 17, .ref 18, .ref 19, .ref 20, .ref 21, .ref 22, .ref 23, .ref 24, .ref 25, .ref 26, .ref 27, .ref 28, .ref 29, .ref 30, .ref 31, .ref 32, .ref 33, .ref 34, .ref 35, .ref 36, .ref 37, .ref 38, .ref 39, .ref 40, .ref 41, .ref 42, .ref 43, .ref 44, .ref 45, .ref 46, .ref 47, .ref 48, .ref 49, .ref 50, .ref 51, .ref 52, .ref 53, .ref 54, .ref 55, .ref 56, .ref 57, .ref 58, .ref 59, .ref 60, .ref 61, .ref 62, .ref 63, .ref 64, .ref 65, .ref 66, .ref 67, .ref 68, .ref 69, .ref 70, .ref 71, .ref 72, .ref 73, .ref 74, .ref 75, .ref 76, .ref 77, .ref 78, .ref 79, .ref 80, .ref 81, .ref 82, .ref 83, .ref 84, .ref 85, .ref 86, .ref 87, .ref 88, .ref 89, .ref 90, .ref 91, .ref 92, .ref 93, .ref 94, .ref 95, .ref 96, .ref 97, .ref 98, .ref 99, .ref 100, .ref 101, .ref 102, .ref 103, .ref 104, .ref 105, .ref 106, .ref 107, .ref 108, .ref 109, .ref 110, .ref 111, .ref 112, .ref 113, .ref 114, .ref 115, .ref 116, .ref 117, .ref 118, .ref 119, .ref 120, .ref 121, .ref 122, .ref 123, .ref 124, .ref 125, .ref 126, .ref 127, .ref 128, .ref 129, .ref 130, .ref 131, .ref 132, .ref 133, .ref 134, .ref 135, .ref 136, .ref 137, .ref 138, .ref 139, .ref 140, .ref 141, .ref 142, .ref 143, .ref 144, .ref 145, .ref 146, .ref 147, .ref 148, .ref 149, .ref 150, .ref 151, .ref 152, .ref 153, .ref 154, .ref 155, .ref 156, .ref 157, .ref 158, .ref 159, .ref 160, .ref 161, .ref 162, .ref 163, .ref 164, .ref 165, .ref 166, .ref 167, .ref 168, .ref 169, .ref 170, .ref 171, .ref 172, .ref 173, .ref 174, .ref 175, .ref 176, .ref 177, .ref 178, .ref 179, .ref 180, .ref 181, .ref 182, .ref 183, .ref 184, .ref 185, .ref 186, .ref 187, .ref 188, .ref 189, .ref 190, .ref 191, .ref 192, .ref 193, .ref 194, .ref 195, .ref 196, .ref 197, .ref 198, .ref 199, .ref 200, .ref 201, .ref 202, .ref 203, .ref 204, .ref 205, .ref 206, .ref 207, .ref 208, .ref 209, .ref 210, .ref 211, .ref 212, .ref 213, .ref 214, .ref 215, .ref 216, .ref 217, .ref 218, .ref 219, .ref 220, .ref 221, .ref 222, .ref 223, .ref 224, .ref 225, .ref 226, .ref 227, .ref 228, .ref 229, .ref 230, .ref 231, .ref 232, .ref 233, .ref 234, .ref 235, .ref 236, .ref 237, .ref 238, .ref 239, .ref 240, .ref 241, .ref 242, .ref 243, .ref 244, .ref 245, .ref 246, .ref 247, .ref 248, .ref 249, .ref 250, .ref 251, .ref 252, .ref 253, .ref 254, .ref 255, .ref 256, .ref 257], vm := .none },
  { cls := 7, slots := #[.int (-128)], vm := .none },
  { cls := 7, slots := #[.int (-127)], vm := .none },
  { cls := 7, slots := #[.int (-126)], vm := .none },
  { cls := 7, slots := #[.int (-125)], vm := .none },
  { cls := 7, slots := #[.int (-124)], vm := .none },
  { cls := 7, slots := #[.int (-123)], vm := .none },
  { cls := 7, slots := #[.int (-122)], vm := .none },
  { cls := 7, slots := #[.int (-121)], vm := .none },
  { cls := 7, slots := #[.int (-120)], vm := .none },
  { cls := 7, slots := #[.int (-119)], vm := .none },
  { cls := 7, slots := #[.int (-118)], vm := .none },
  { cls := 7, slots := #[.int (-117)], vm := .none },
  { cls := 7, slots := #[.int (-116)], vm := .none },
  { cls := 7, slots := #[.int (-115)], vm := .none },
  { cls := 7, slots := #[.int (-114)], vm := .none },
  { cls := 7, slots := #[.int (-113)], vm := .none },
  { cls := 7, slots := #[.int (-112)], vm := .none },
  { cls := 7, slots := #[.int (-111)], vm := .none },
  { cls := 7, slots := #[.int (-110)], vm := .none },
  { cls := 7, slots := #[.int (-109)], vm := .none },
  { cls := 7, slots := #[.int (-108)], vm := .none },
  { cls := 7, slots := #[.int (-107)], vm := .none },
  { cls := 7, slots := #[.int (-106)], vm := .none },
  { cls := 7, slots := #[.int (-105)], vm := .none },
  { cls := 7, slots := #[.int (-104)], vm := .none },
  { cls := 7, slots := #[.int (-103)], vm := .none },
  { cls := 7, slots := #[.int (-102)], vm := .none },
  { cls := 7, slots := #[.int (-101)], vm := .none },
  { cls := 7, slots := #[.int (-100)], vm := .none },
  { cls := 7, slots := #[.int (-99)], vm := .none },
  { cls := 7, slots := #[.int (-98)], vm := .none },
  { cls := 7, slots := #[.int (-97)], vm := .none },
  { cls := 7, slots := #[.int (-96)], vm := .none },
  { cls := 7, slots := #[.int (-95)], vm := .none },
  { cls := 7, slots := #[.int (-94)], vm := .none },
  { cls := 7, slots := #[.int (-93)], vm := .none },
  { cls := 7, slots := #[.int (-92)], vm := .none },
  { cls := 7, slots := #[.int (-91)], vm := .none },
  { cls := 7, slots := #[.int (-90)], vm := .none },
  { cls := 7, slots := #[.int (-89)], vm := .none },
  { cls := 7, slots := #[.int (-88)], vm := .none },
  { cls := 7, slots := #[.int (-87)], vm := .none },
  { cls := 7, slots := #[.int (-86)], vm := .none },
  { cls := 7, slots := #[.int (-85)], vm := .none },
  { cls := 7, slots := #[.int (-84)], vm := .none },
  { cls := 7, slots := #[.int (-83)], vm := .none },
  { cls := 7, slots := #[.int (-82)], vm := .none },
  { cls := 7, slots := #[.int (-81)], vm := .none },
  { cls := 7, slots := #[.int (-80)], vm := .none },
  { cls := 7, slots := #[.int (-79)], vm := .none },
  { cls := 7, slots := #[.int (-78)], vm := .none },
  { cls := 7, slots := #[.int (-77)], vm := .none },
  { cls := 7, slots := #[.int (-76)], vm := .none },
  { cls := 7, slots := #[.int (-75)], vm := .none },
  { cls := 7, slots := #[.int (-74)], vm := .none },
  { cls := 7, slots := #[.int (-73)], vm := .none },
  { cls := 7, slots := #[.int (-72)], vm := .none },
  { cls := 7, slots := #[.int (-71)], vm := .none },
  { cls := 7, slots := #[.int (-70)], vm := .none },
  { cls := 7, slots := #[.int (-69)], vm := .none },
  { cls := 7, slots := #[.int (-68)], vm := .none },
  { cls := 7, slots := #[.int (-67)], vm := .none },
  { cls := 7, slots := #[.int (-66)], vm := .none },
  { cls := 7, slots := #[.int (-65)], vm := .none },
  { cls := 7, slots := #[.int (-64)], vm := .none },
  { cls := 7, slots := #[.int (-63)], vm := .none },
  { cls := 7, slots := #[.int (-62)], vm := .none },
  { cls := 7, slots := #[.int (-61)], vm := .none },
  { cls := 7, slots := #[.int (-60)], vm := .none },
  { cls := 7, slots := #[.int (-59)], vm := .none },
  { cls := 7, slots := #[.int (-58)], vm := .none },
  { cls := 7, slots := #[.int (-57)], vm := .none },
  { cls := 7, slots := #[.int (-56)], vm := .none },
  { cls := 7, slots := #[.int (-55)], vm := .none },
  { cls := 7, slots := #[.int (-54)], vm := .none },
  { cls := 7, slots := #[.int (-53)], vm := .none },
  { cls := 7, slots := #[.int (-52)], vm := .none },
  { cls := 7, slots := #[.int (-51)], vm := .none },
  { cls := 7, slots := #[.int (-50)], vm := .none },
  { cls := 7, slots := #[.int (-49)], vm := .none },
  { cls := 7, slots := #[.int (-48)], vm := .none },
  { cls := 7, slots := #[.int (-47)], vm := .none },
  { cls := 7, slots := #[.int (-46)], vm := .none },
  { cls := 7, slots := #[.int (-45)], vm := .none },
  { cls := 7, slots := #[.int (-44)], vm := .none },
  { cls := 7, slots := #[.int (-43)], vm := .none },
  { cls := 7, slots := #[.int (-42)], vm := .none },
  { cls := 7, slots := #[.int (-41)], vm := .none },
  { cls := 7, slots := #[.int (-40)], vm := .none },
  { cls := 7, slots := #[.int (-39)], vm := .none },
  { cls := 7, slots := #[.int (-38)], vm := .none },
  { cls := 7, slots := #[.int (-37)], vm := .none },
  { cls := 7, slots := #[.int (-36)], vm := .none },
  { cls := 7, slots := #[.int (-35)], vm := .none },
  { cls := 7, slots := #[.int (-34)], vm := .none },
  { cls := 7, slots := #[.int (-33)], vm := .none },
  { cls := 7, slots := #[.int (-32)], vm := .none },
  { cls := 7, slots := #[.int (-31)], vm := .none },
  { cls := 7, slots := #[.int (-30)], vm := .none },
  { cls := 7, slots := #[.int (-29)], vm := .none },
  { cls := 7, slots := #[.int (-28)], vm := .none },
  { cls := 7, slots := #[.int (-27)], vm := .none },
  { cls := 7, slots := #[.int (-26)], vm := .none },
  { cls := 7, slots := #[.int (-25)], vm := .none },
  { cls := 7, slots := #[.int (-24)], vm := .none },
  { cls := 7, slots := #[.int (-23)], vm := .none },
  { cls := 7, slots := #[.int (-22)], vm := .none },
  { cls := 7, slots := #[.int (-21)], vm := .none },
  { cls := 7, slots := #[.int (-20)], vm := .none },
  { cls := 7, slots := #[.int (-19)], vm := .none },
  { cls := 7, slots := #[.int (-18)], vm := .none },
  { cls := 7, slots := #[.int (-17)], vm := .none },
  { cls := 7, slots := #[.int (-16)], vm := .none },
  { cls := 7, slots := #[.int (-15)], vm := .none },
  { cls := 7, slots := #[.int (-14)], vm := .none },
  { cls := 7, slots := #[.int (-13)], vm := .none },
  { cls := 7, slots := #[.int (-12)], vm := .none },
  { cls := 7, slots := #[.int (-11)], vm := .none },
  { cls := 7, slots := #[.int (-10)], vm := .none },
  { cls := 7, slots := #[.int (-9)], vm := .none },
  { cls := 7, slots := #[.int (-8)], vm := .none },
  { cls := 7, slots := #[.int (-7)], vm := .none },
  { cls := 7, slots := #[.int (-6)], vm := .none },
  { cls := 7, slots := #[.int (-5)], vm := .none },
  { cls := 7, slots := #[.int (-4)], vm := .none },
  { cls := 7, slots := #[.int (-3)], vm := .none },
  { cls := 7, slots := #[.int (-2)], vm := .none },
  { cls := 7, slots := #[.int (-1)], vm := .none },
  { cls := 7, slots := #[.int (0)], vm := .none },
  { cls := 7, slots := #[.int (1)], vm := .none },
  { cls := 7, slots := #[.int (2)], vm := .none },
  { cls := 7, slots := #[.int (3)], vm := .none },
  { cls := 7, slots := #[.int (4)], vm := .none },
  { cls := 7, slots := #[.int (5)], vm := .none },
  { cls := 7, slots := #[.int (6)], vm := .none },
  { cls := 7, slots := #[.int (7)], vm := .none },
  { cls := 7, slots := #[.int (8)], vm := .none },
  { cls := 7, slots := #[.int (9)], vm := .none },
  { cls := 7, slots := #[.int (10)], vm := .none },
  { cls := 7, slots := #[.int (11)], vm := .none },
  { cls := 7, slots := #[.int (12)], vm := .none },
  { cls := 7, slots := #[.int (13)], vm := .none },
  { cls := 7, slots := #[.int (14)], vm := .none },
  { cls := 7, slots := #[.int (15)], vm := .none },
  { cls := 7, slots := #[.int (16)], vm := .none },
  { cls := 7, slots := #[.int (17)], vm := .none },
  { cls := 7, slots := #[.int (18)], vm := .none },
  { cls := 7, slots := #[.int (19)], vm := .none },
  { cls := 7, slots := #[.int (20)], vm := .none },
  { cls := 7, slots := #[.int (21)], vm := .none },
  { cls := 7, slots := #[.int (22)], vm := .none },
  { cls := 7, slots := #[.int (23)], vm := .none },
  { cls := 7, slots := #[.int (24)], vm := .none },
  { cls := 7, slots := #[.int (25)], vm := .none },
  { cls := 7, slots := #[.int (26)], vm := .none },
  { cls := 7, slots := #[.int (27)], vm := .none },
  { cls := 7, slots := #[.int (28)], vm := .none },
  { cls := 7, slots := #[.int (29)], vm := .none },
  { cls := 7, slots := #[.int (30)], vm := .none },
  { cls := 7, slots := #[.int (31)], vm := .none },
  { cls := 7, slots := #[.int (32)], vm := .none },
  { cls := 7, slots := #[.int (33)], vm := .none },
  { cls := 7, slots := #[.int (34)], vm := .none },
  { cls := 7, slots := #[.int (35)], vm := .none },
  { cls := 7, slots := #[.int (36)], vm := .none },
  { cls := 7, slots := #[.int (37)], vm := .none },
  { cls := 7, slots := #[.int (38)], vm := .none },
  { cls := 7, slots := #[.int (39)], vm := .none },
  { cls := 7, slots := #[.int (40)], vm := .none },
  { cls := 7, slots := #[.int (41)], vm := .none },
  { cls := 7, slots := #[.int (42)], vm := .none },
  { cls := 7, slots := #[.int (43)], vm := .none },
  { cls := 7, slots := #[.int (44)], vm := .none },
  { cls := 7, slots := #[.int (45)], vm := .none },
  { cls := 7, slots := #[.int (46)], vm := .none },
  { cls := 7, slots := #[.int (47)], vm := .none },
  { cls := 7, slots := #[.int (48)], vm := .none },
  { cls := 7, slots := #[.int (49)], vm := .none },
  { cls := 7, slots := #[.int (50)], vm := .none },
  { cls := 7, slots := #[.int (51)], vm := .none },
  { cls := 7, slots := #[.int (52)], vm := .none },
  { cls := 7, slots := #[.int (53)], vm := .none },
  { cls := 7, slots := #[.int (54)], vm := .none },
  { cls := 7, slots := #[.int (55)], vm := .none },
  { cls := 7, slots := #[.int (56)], vm := .none },
  { cls := 7, slots := #[.int (57)], vm := .none },
  { cls := 7, slots := #[.int (58)], vm := .none },
  { cls := 7, slots := #[.int (59)], vm := .none },
  { cls := 7, slots := #[.int (60)], vm := .none },
  { cls := 7, slots := #[.int (61)], vm := .none },
  { cls := 7, slots := #[.int (62)], vm := .none },
  { cls := 7, slots := #[.int (63)], vm := .none },
  { cls := 7, slots := #[.int (64)], vm := .none },
  { cls := 7, slots := #[.int (65)], vm := .none },
  { cls := 7, slots := #[.int (66)], vm := .none },
  { cls := 7, slots := #[.int (67)], vm := .none },
  { cls := 7, slots := #[.int (68)], vm := .none },
  { cls := 7, slots := #[.int (69)], vm := .none },
  { cls := 7, slots := #[.int (70)], vm := .none },
  { cls := 7, slots := #[.int (71)], vm := .none },
  { cls := 7, slots := #[.int (72)], vm := .none },
  { cls := 7, slots := #[.int (73)], vm := .none },
  { cls := 7, slots := #[.int (74)], vm := .none },
  { cls := 7, slots := #[.int (75)], vm := .none },
  { cls := 7, slots := #[.int (76)], vm := .none },
  { cls := 7, slots := #[.int (77)], vm := .none },
  { cls := 7, slots := #[.int (78)], vm := .none },
  { cls := 7, slots := #[.int (79)], vm := .none },
  { cls := 7, slots := #[.int (80)], vm := .none },
  { cls := 7, slots := #[.int (81)], vm := .none },
  { cls := 7, slots := #[.int (82)], vm := .none },
  { cls := 7, slots := #[.int (83)], vm := .none },
  { cls := 7, slots := #[.int (84)], vm := .none },
  { cls := 7, slots := #[.int (85)], vm := .none },
  { cls := 7, slots := #[.int (86)], vm := .none },
  { cls := 7, slots := #[.int (87)], vm := .none },
  { cls := 7, slots := #[.int (88)], vm := .none },
  { cls := 7, slots := #[.int (89)], vm := .none },
  { cls := 7, slots := #[.int (90)], vm := .none },
  { cls := 7, slots := #[.int (91)], vm := .none },
  { cls := 7, slots := #[.int (92)], vm := .none },
  { cls := 7, slots := #[.int (93)], vm := .none },
  { cls := 7, slots := #[.int (94)], vm := .none },
  { cls := 7, slots := #[.int (95)], vm := .none },
  { cls := 7, slots := #[.int (96)], vm := .none },
  { cls := 7, slots := #[.int (97)], vm := .none },
  { cls := 7, slots := #[.int (98)], vm := .none },
  { cls := 7, slots := #[.int (99)], vm := .none },
  { cls := 7, slots := #[.int (100)], vm := .none },
  { cls := 7, slots := #[.int (101)], vm := .none },
  { cls := 7, slots := #[.int (102)], vm := .none },
  { cls := 7, slots := #[.int (103)], vm := .none },
  { cls := 7, slots := #[.int (104)], vm := .none },
  { cls := 7, slots := #[.int (105)], vm := .none },
  { cls := 7, slots := #[.int (106)], vm := .none },
  { cls := 7, slots := #[.int (107)], vm := .none },
  { cls := 7, slots := #[.int (108)], vm := .none },
  { cls := 7, slots := #[.int (109)], vm := .none },
  { cls := 7, slots := #[.int (110)], vm := .none },
  { cls := 7, slots := #[.int (111)], vm := .none },
  { cls := 7, slots := #[.int (112)], vm := .none },
  { cls := 7, slots := #[.int (113)], vm := .none },
  { cls := 7, slots := #[.int (114)], vm := .none },
  { cls := 7, slots := #[.int (115)], vm := .none },
  { cls := 7, slots := #[.int (116)], vm := .none },
  { cls := 7, slots := #[.int (117)], vm := .none },
  { cls := 7, slots := #[.int (118)], vm := .none },
  { cls := 7, slots := #[.int (119)], vm := .none },
  { cls := 7, slots := #[.int (120)], vm := .none },
  { cls := 7, slots := #[.int (121)], vm := .none },
  { cls := 7, slots := #[.int (122)], vm := .none },
  { cls := 7, slots := #[.int (123)], vm := .none },
  { cls := 7, slots := #[.int (124)], vm := .none },
  { cls := 7, slots := #[.int (125)], vm := .none },
  { cls := 7, slots := #[.int (126)], vm := .none },
  { cls := 7, slots := #[.int (127)], vm := .none }]
def classes : Array Class := #[k0, k1, k2, k3, k4, k5, k6, k7, k8, k9, k10, k11, k12, k13, k14, k15, k16, k17, k18]
def interned : List (Array UInt16 × Addr) := []
def slotsUsed : Nat := 517
def theMethod : MethodId := ⟨1, 1⟩
def args0 : Array Value := #[.int 500, .int 1000, .int 1]
def aboutOver (below : List Frame) : State where
  vm := { classes := classes, interned := interned.toArray }
  heap := heap
  slotsUsed := slotsUsed
  threads := #[{ frames := .invoking theMethod args0 :: below }]
def below0 : List Frame := [.native { method := ⟨0, 0⟩, args := #[] }]
def about1 : State := aboutOver below0
def p0 : Program := .bare "" "" ""
def e0 : Env := launch0.env 0 0 0
theorem w_frames : about1.frames = Frame.invoking theMethod args0 :: below0 := rfl
set_option maxRecDepth 65536 in
theorem w_args : argsFit about1.vm theMethod args0 = true := by decide +kernel
set_option maxRecDepth 65536 in
theorem w_heap : heapFits about1 = true := by decide +kernel
set_option maxRecDepth 65536 in
theorem w_runnable : about1.curStatus? = some .runnable := by decide +kernel
set_option maxRecDepth 65536 in
theorem w_alone : about1.alone = true := by decide +kernel
set_option maxRecDepth 65536 in
theorem w_named : about1.methodNamed? x = some theMethod := by decide +kernel
set_option maxRecDepth 65536 in
theorem w_hears : about1.hears theMethod below0 = true := by decide +kernel
set_option maxRecDepth 65536 in
theorem w_ripe : about1.ripe theMethod args0 below0 = true := by decide +kernel
theorem w_running : about1.status = .running := rfl
set_option maxRecDepth 65536 in
theorem w_room : about1.hasRoom e0.platform room_1 = true :=
  launch0.hasRoom_least _ room_1 (by decide +kernel) (by decide +kernel) (by decide +kernel) (by decide +kernel) (by decide +kernel) (by decide +kernel)
theorem allAtoms_all (ts : List Jvm.Cond) (a : Array Jvm.Value) (st : Jvm.State) : (allAtoms ts).before a st = ts.all (fun c => c.before a st) := by
  induction ts with
  | nil => rfl
  | cons c t ih =>
    show (Jvm.Cond.and c (allAtoms t)).before a st = _
    rw [Jvm.Cond.before_and, ih, List.all_cons]
def words1 : List Jvm.Cond := Jvm.Cond.code x code maxLocals ret :: tables_1
/-- a 'code' word, met by the world's own term for the bytes: nothing is compared byte by byte -/
theorem code_word {y : MethodName} {bytes : ByteArray} {mx : Nat} {rt : Option FieldType} {a : Array Value} {s : State} {m : MethodId} {meth : Method} {c : Code} (h1 : s.methodNamed? y = some m) (h2 : s.vm.method? m = some meth) (h3 : meth.code = some c) (h4 : c.code = bytes)
    (h5 : (c.maxLocals == mx && c.exceptionTable.isEmpty && decide (c.maxStack ≤ mostOperands) && decide (meth.sig.returnType = rt) && !meth.locks && decide (parseMethodDescriptor y.desc = some meth.sig)) = true) : (Jvm.Cond.code y bytes mx rt).before a s = true := by
  simp only [Bool.and_eq_true, beq_iff_eq, Bool.not_eq_true', decide_eq_true_eq] at h5
  obtain ⟨⟨⟨⟨⟨g1, g2⟩, g3⟩, g4⟩, g5⟩, g6⟩ := h5
  simp [Cond.before, Cond.holds, Cond.value, h1, h2, h3, h4, g1, g2, g3, g4, g5, g6]
def isCode : Jvm.Cond → Bool
  | .code _ _ _ _ => true
  | _ => false
theorem all_split {L : List Jvm.Cond} {P : Jvm.Cond → Bool} (h1 : L.all (fun c => isCode c || P c) = true) (h2 : ∀ c ∈ L.filter isCode, P c = true) : L.all P = true := by
  refine List.all_eq_true.mpr fun c hc => ?_
  have h := List.all_eq_true.mp h1 c hc
  rcases Bool.eq_false_or_eq_true (isCode c) with hi | hi
  · exact h2 c (List.mem_filter.mpr ⟨hc, hi⟩)
  · simpa [hi] using h
set_option maxRecDepth 65536 in
theorem w_c0 : (Jvm.Cond.code x code maxLocals ret).before args0 about1 = true := code_word (m := ⟨1, 1⟩) (meth := k1m1) (c := k1c1) (by decide +kernel) rfl rfl rfl (by decide +kernel)
set_option maxRecDepth 65536 in
theorem w_c1 : (Jvm.Cond.code ({ cls := "java/lang/Integer", name := "valueOf", desc := "(I)Ljava/lang/Integer;" } : Jvm.MethodName) jdk_33_method_22_code (1 : Nat) (Option.some (Jvm.ClassFile.FieldType.object "java/lang/Integer"))).before args0 about1 = true := code_word (m := ⟨7, 0⟩) (meth := k7m0) (c := k7c0) (by decide +kernel) rfl rfl rfl (by decide +kernel)
set_option maxRecDepth 65536 in
theorem w_c2 : (Jvm.Cond.code ({ cls := "com/example/libshardmap/libshardmap/Range", name := "<init>", desc := "(Ljava/lang/Object;Ljava/lang/Object;)V" } : Jvm.MethodName) prog_29_method_1_code (3 : Nat) (Option.none : Option Jvm.ClassFile.FieldType)).before args0 about1 = true := code_word (m := ⟨9, 0⟩) (meth := k9m0) (c := k9c0) (by decide +kernel) rfl rfl rfl (by decide +kernel)
set_option maxRecDepth 65536 in
theorem w_c3 : (Jvm.Cond.code ({ cls := "java/lang/Object", name := "<init>", desc := "()V" } : Jvm.MethodName) object_method_1_code (1 : Nat) (Option.none : Option Jvm.ClassFile.FieldType)).before args0 about1 = true := code_word (m := ⟨0, 0⟩) (meth := k0m0) (c := k0c0) (by decide +kernel) rfl rfl rfl (by decide +kernel)
set_option maxRecDepth 65536 in
theorem w_c4 : (Jvm.Cond.code ({ cls := "java/util/Objects", name := "requireNonNull", desc := "(Ljava/lang/Object;Ljava/lang/String;)Ljava/lang/Object;" } : Jvm.MethodName) jdk_31_method_11_code (2 : Nat) (Option.some (Jvm.ClassFile.FieldType.object "java/lang/Object"))).before args0 about1 = true := code_word (m := ⟨12, 1⟩) (meth := k12m1) (c := k12c1) (by decide +kernel) rfl rfl rfl (by decide +kernel)
set_option maxRecDepth 65536 in
theorem w_c5 : (Jvm.Cond.code ({ cls := "com/example/libshardmap/libshardmap/Range", name := "isOpenAtTop", desc := "()Z" } : Jvm.MethodName) prog_29_method_5_code (1 : Nat) (Option.some Jvm.ClassFile.FieldType.boolean)).before args0 about1 = true := code_word (m := ⟨9, 4⟩) (meth := k9m4) (c := k9c4) (by decide +kernel) rfl rfl rfl (by decide +kernel)
set_option maxRecDepth 65536 in
theorem w_c6 : (Jvm.Cond.code ({ cls := "com/example/libshardmap/libshardmap/Range", name := "getLow", desc := "()Ljava/lang/Object;" } : Jvm.MethodName) prog_29_method_3_code (1 : Nat) (Option.some (Jvm.ClassFile.FieldType.object "java/lang/Object"))).before args0 about1 = true := code_word (m := ⟨9, 2⟩) (meth := k9m2) (c := k9c2) (by decide +kernel) rfl rfl rfl (by decide +kernel)
set_option maxRecDepth 65536 in
theorem w_c7 : (Jvm.Cond.code ({ cls := "java/lang/Integer", name := "intValue", desc := "()I" } : Jvm.MethodName) jdk_33_method_27_code (1 : Nat) (Option.some Jvm.ClassFile.FieldType.int)).before args0 about1 = true := code_word (m := ⟨7, 2⟩) (meth := k7m2) (c := k7c2) (by decide +kernel) rfl rfl rfl (by decide +kernel)
set_option maxRecDepth 65536 in
theorem w_c8 : (Jvm.Cond.code ({ cls := "com/example/libshardmap/libshardmap/Range", name := "getHigh", desc := "()Ljava/lang/Object;" } : Jvm.MethodName) prog_29_method_4_code (1 : Nat) (Option.some (Jvm.ClassFile.FieldType.object "java/lang/Object"))).before args0 about1 = true := code_word (m := ⟨9, 3⟩) (meth := k9m3) (c := k9c3) (by decide +kernel) rfl rfl rfl (by decide +kernel)
set_option maxRecDepth 65536 in
theorem w_c9 : (Jvm.Cond.code ({ cls := "com/example/libshardmap/libshardmap/Range", name := "<init>", desc := "(Ljava/lang/Object;)V" } : Jvm.MethodName) prog_29_method_2_code (2 : Nat) (Option.none : Option Jvm.ClassFile.FieldType)).before args0 about1 = true := code_word (m := ⟨9, 1⟩) (meth := k9m1) (c := k9c1) (by decide +kernel) rfl rfl rfl (by decide +kernel)
set_option maxRecDepth 65536 in
theorem w_c10 : (Jvm.Cond.code ({ cls := "java/lang/Integer", name := "<init>", desc := "(I)V" } : Jvm.MethodName) jdk_33_method_23_code (2 : Nat) (Option.none : Option Jvm.ClassFile.FieldType)).before args0 about1 = true := code_word (m := ⟨7, 1⟩) (meth := k7m1) (c := k7c1) (by decide +kernel) rfl rfl rfl (by decide +kernel)
set_option maxRecDepth 65536 in
theorem w_c11 : (Jvm.Cond.code ({ cls := "java/lang/Number", name := "<init>", desc := "()V" } : Jvm.MethodName) jdk_18_method_1_code (1 : Nat) (Option.none : Option Jvm.ClassFile.FieldType)).before args0 about1 = true := code_word (m := ⟨3, 0⟩) (meth := k3m0) (c := k3c0) (by decide +kernel) rfl rfl rfl (by decide +kernel)
def codes1 : List Jvm.Cond := [Jvm.Cond.code x code maxLocals ret, Jvm.Cond.code ({ cls := "java/lang/Integer", name := "valueOf", desc := "(I)Ljava/lang/Integer;" } : Jvm.MethodName) jdk_33_method_22_code (1 : Nat) (Option.some (Jvm.ClassFile.FieldType.object "java/lang/Integer")), Jvm.Cond.code ({ cls := "com/example/libshardmap/libshardmap/Range", name := "<init>", desc := "(Ljava/lang/Object;Ljava/lang/Object;)V" } : Jvm.MethodName) prog_29_method_1_code (3 : Nat) (Option.none : Option Jvm.ClassFile.FieldType), Jvm.Cond.code ({ cls := "java/lang/Object", name := "<init>", desc := "()V" } : Jvm.MethodName) object_method_1_code (1 : Nat) (Option.none : Option Jvm.ClassFile.FieldType), Jvm.Cond.code ({ cls := "java/util/Objects", name := "requireNonNull", desc := "(Ljava/lang/Object;Ljava/lang/String;)Ljava/lang/Object;" } : Jvm.MethodName) jdk_31_method_11_code (2 : Nat) (Option.some (Jvm.ClassFile.FieldType.object "java/lang/Object")), Jvm.Cond.code ({ cls := "com/example/libshardmap/libshardmap/Range", name := "isOpenAtTop", desc := "()Z" } : Jvm.MethodName) prog_29_method_5_code (1 : Nat) (Option.some Jvm.ClassFile.FieldType.boolean), Jvm.Cond.code ({ cls := "com/example/libshardmap/libshardmap/Range", name := "getLow", desc := "()Ljava/lang/Object;" } : Jvm.MethodName) prog_29_method_3_code (1 : Nat) (Option.some (Jvm.ClassFile.FieldType.object "java/lang/Object")), Jvm.Cond.code ({ cls := "java/lang/Integer", name := "intValue", desc := "()I" } : Jvm.MethodName) jdk_33_method_27_code (1 : Nat) (Option.some Jvm.ClassFile.FieldType.int), Jvm.Cond.code ({ cls := "com/example/libshardmap/libshardmap/Range", name := "getHigh", desc := "()Ljava/lang/Object;" } : Jvm.MethodName) prog_29_method_4_code (1 : Nat) (Option.some (Jvm.ClassFile.FieldType.object "java/lang/Object")), Jvm.Cond.code ({ cls := "com/example/libshardmap/libshardmap/Range", name := "<init>", desc := "(Ljava/lang/Object;)V" } : Jvm.MethodName) prog_29_method_2_code (2 : Nat) (Option.none : Option Jvm.ClassFile.FieldType), Jvm.Cond.code ({ cls := "java/lang/Integer", name := "<init>", desc := "(I)V" } : Jvm.MethodName) jdk_33_method_23_code (2 : Nat) (Option.none : Option Jvm.ClassFile.FieldType), Jvm.Cond.code ({ cls := "java/lang/Number", name := "<init>", desc := "()V" } : Jvm.MethodName) jdk_18_method_1_code (1 : Nat) (Option.none : Option Jvm.ClassFile.FieldType)]
set_option maxRecDepth 65536 in
theorem codes_eq : words1.filter isCode = codes1 := rfl
theorem w_codes : ∀ c ∈ words1.filter isCode, c.before args0 about1 = true := by
  rw [codes_eq]
  intro c hc
  simp only [codes1, List.mem_cons, List.not_mem_nil, or_false] at hc
  rcases hc with rfl | rfl | rfl | rfl | rfl | rfl | rfl | rfl | rfl | rfl | rfl | rfl
  · exact w_c0
  · exact w_c1
  · exact w_c2
  · exact w_c3
  · exact w_c4
  · exact w_c5
  · exact w_c6
  · exact w_c7
  · exact w_c8
  · exact w_c9
  · exact w_c10
  · exact w_c11
set_option maxRecDepth 65536 in
theorem w_t1 : (words1.take 24).all (fun c => isCode c || c.before args0 about1) = true := by decide +kernel
set_option maxRecDepth 65536 in
theorem w_t2 : ((words1.drop 24).take 24).all (fun c => isCode c || c.before args0 about1) = true := by decide +kernel
set_option maxRecDepth 65536 in
theorem w_t3 : (((words1.drop 24).drop 24).take 24).all (fun c => isCode c || c.before args0 about1) = true := by decide +kernel
set_option maxRecDepth 65536 in
theorem w_t4 : (((words1.drop 24).drop 24).drop 24).all (fun c => isCode c || c.before args0 about1) = true := by decide +kernel
theorem w_tables : (allAtoms (Jvm.Cond.code x code maxLocals ret :: tables_1)).before args0 about1 = true := by
  rw [allAtoms_all]
  show words1.all (fun c => c.before args0 about1) = true
  refine all_split ?_ w_codes
  rw [← List.take_append_drop 24 words1, List.all_append, w_t1, ← List.take_append_drop 24 (words1.drop 24), List.all_append, w_t2, ← List.take_append_drop 24 ((words1.drop 24).drop 24), List.all_append, w_t3, w_t4]
  rfl
set_option maxRecDepth 65536 in
theorem w_rest : rest_1_c.before args0 about1 = true := by decide +kernel
set_option maxRecDepth 65536 in
theorem w_case : (Jvm.Cond.and given_1 narrow_1).before args0 about1 = true := by decide +kernel
theorem w_applies : (headSpec (Jvm.Cond.code x code maxLocals ret :: tables_1) room_1).applies x e0.platform about1 = true :=
  (Spec.applies_iff w_frames).mpr ⟨w_running, w_runnable, w_alone, w_named, w_hears, w_ripe, w_room, w_tables⟩
theorem atStart : AtStart classFile x code maxLocals ret World_1 tables_1 room_1 Calls_1 rest_1 Pre_1 launch0 p0 e0 about1 theMethod args0 below0 :=
  ⟨lists_1, trivial, launch0.admits_env _ _ _, launch0.least_env, fairChoices_fair.cas, fairChoices_fair.clock, w_frames, w_args, w_heap, w_applies, trivial, w_rest, w_case⟩
end start1
theorem witness_1 : WitnessClaimed_1 := ⟨start1.p0, start1.e0, start1.about1, start1.theMethod, start1.args0, start1.below0, start1.atStart⟩
end Jvm.Pilot.@@N@@
