import JvmDerived
import JvmDerived.Pilot.@@N@@Statement
import JvmDerived.Pilot.@@N@@Code
set_option linter.unusedVariables false
set_option linter.unusedSimpArgs false
namespace Jvm.RoadKit
open Sem ClassFile Op Lib Jvm.Stand Jvm.Free Jvm.LawKit
section New
variable {p : Program} {l : Launch} {e : Env} {R : Room} {s : State} {m : MethodId} {args : Array Value} {below : List Frame} {meth : Method} {c : Code} {T : State} {locs : List Loc} {cells slots : Nat}
theorem retI (X : Stand p l e R s m args below meth c T locs cells slots) (hx : p.tables.exec = Jvm.exec) {pc : Nat} {Ls : Array Slot} {z : Int32} {rest : List Value} (hret : meth.sig.returnType = some .int) (hd : decode c.code pc = .ok (.ireturn, 1)) {fs : List Frame}
    (hl : ∀ (f : JFrame) (acts : List Action), f.method = m → f.locked = none → f.entered = [] → (doReturn e (T.setTop f) acts (some (.int z))).1 = T.setFrames fs) : Steps p.tables e below (T.setTop (mkF m pc Ls (.int z :: rest))) (T.setFrames fs) := by
  have hm' : T.vm.method? m = some meth := X.method'
  have hn : narrow .int (.int z) = .int z := rfl
  show Steps p.tables e below (T.setTop { method := m, pc := pc, locals := Ls, stack := _ :: rest, locked := none }) _
  jvm_step X.here [X.here.top, hx, hd, hm', hret, hn]
  first | (intro acts; rw [hl _ acts rfl rfl rfl]) | rw [hl _ _ rfl rfl rfl]
  exact Steps.refl _
end New
end Jvm.RoadKit
namespace Jvm.Pilot.@@N@@
open Jvm Jvm.ClassFile Sem Op Lib Jvm.Free Jvm.Stand Jvm.LawKit Jvm.RoadKit Bundle Jvm.Pilot.@@N@@.Jvm.D
theorem own_eqI {a : Array Value} {s : State} {t : Term} {n : Int32} (h : (Jvm.Cond.eq t (.int n)).value a s none s [] = some true) : t.eval a s none [] s = some (.int n) := by
  simp only [Cond.value, Term.eval] at h
  cases ht : t.eval a s none [] s with
  | none => simp [ht] at h
  | some x => cases x <;> simp [ht] at h; rw [h]
abbrev Met (l : Launch) (Z : State) (ws : List Jvm.Cond) (y : MethodName) (bytes : ByteArray) (maxL : Nat) (ret : Option FieldType) (rm : Room) (as' : Array Value) (h0 : Heap) (Q : Option Value → Heap → List Loc → Prop) : Prop :=
  MetFree l y (head1 (Jvm.Cond.code y bytes maxL ret :: ws) rm) (fun a U => a = as' ∧ Z.Warmed39 U.vm ∧ U.heap = h0) (fun _ _ _ _ _ => True) (fun _ U o U' => ∃ v L, o = .returned v ∧ Q v U'.heap L ∧ FrameEnd U o U' L rm.cells rm.slots)
abbrev MetW (l : Launch) (Z : State) (ws : List Jvm.Cond) (y : MethodName) (bytes : ByteArray) (maxL : Nat) (ret : Option FieldType) (rm : Room) (as' : Array Value) (h0 : Heap) (Q : Option Value → Heap → List Loc → Prop) : Prop :=
  MetFree l y (head1 (Jvm.Cond.code y bytes maxL ret :: ws) rm) (fun a U => a = as' ∧ Z.Warmed39 U.vm ∧ U.heap = h0) (fun _ _ _ _ _ => True) (fun _ U o U' => ∃ v L, o = .returned v ∧ Q v U'.heap L ∧ ReturnedEndW U o U' L rm.cells rm.slots)
abbrev MetH (l : Launch) (Z : State) (ws : List Jvm.Cond) (y : MethodName) (bytes : ByteArray) (maxL : Nat) (ret : Option FieldType) (rm : Room) (as' : Array Value) (h0 : Heap) (EL : List (String × Nat)) (sf : List Addr) (Q : Option Value → Heap → List Loc → Prop) : Prop :=
  MetFree l y (head1 (Jvm.Cond.code y bytes maxL ret :: ws) rm) (fun a U => a = as' ∧ Z.Warmed39 U.vm ∧ U.heap = h0 ∧ CHv Z EL U.vm h0 ∧ ∀ x ∈ sf, Safe Z EL U.vm h0 x) (fun _ _ _ _ _ => True) (fun _ U o U' => ∃ v L, o = .returned v ∧ Q v U'.heap L ∧ CHr Z EL U.vm U.heap U'.vm U'.heap ∧ ReturnedEndW U o U' L rm.cells rm.slots)
section Own
variable {l : Launch} {Z : State} {ws : List Jvm.Cond} {y : MethodName} {bytes : ByteArray} {maxL : Nat} {ret : Option FieldType} {rm : Room} {as' : Array Value} {h0 : Heap} {EL : List (String × Nat)} {sf : List Addr} {Q : Option Value → Heap → List Loc → Prop}
theorem own_mk (hp : plainFor y = true)
    (body : ∀ (p : Program) (e : Env) (s : State) (m : MethodId) (below : List Frame) (meth : Method) (c : Code) (s₁ : State), Z.Warmed39 s.vm → p.tables.exec = Jvm.exec → c.code = bytes → c.maxLocals = maxL → s.vm.findClass y.cls = some m.cls → meth.name = y.name → meth.sig.returnType = ret → meth.locks = false → Stand p l e rm s m as' below meth c s₁ [] 0 0 → s₁.heap = h0 →
      ∃ (T : State) (v : Option Value) (L : List Loc) (k n : Nat), Stand p l e rm s m as' below meth c T L k n ∧ k ≤ rm.cells ∧ n ≤ rm.slots ∧ (ret = none → v = none) ∧ Q v T.heap L ∧ ∀ fs, (∀ (f : JFrame) (acts : List Action), f.method = m → f.locked = none → f.entered = [] → (doReturn e (T.setTop f) acts v).1 = T.setFrames fs) → Steps p.tables e below (s₁.setTop (entryFrame m as' maxL)) (T.setFrames fs)) : Met l Z ws y bytes maxL ret rm as' h0 Q := by
  refine MetFree.of_bodySF hp hisR ?_
  intro p e s m args below meth c s₁ Bd hml hP hK
  obtain ⟨rfl, hZ, hh⟩ := hP
  have e0 : s₁.heap = h0 := by rw [← hh, Bd.state]; rfl
  obtain ⟨T, v, L, k, n, X, hk, hn, hv, hQ, st⟩ := body p e s m below meth c s₁ hZ Bd.exec Bd.bytes hml (findClass_of_methodNamed Bd.named) (name_of_methodNamed Bd.named Bd.method).1 Bd.returns Bd.notSynchronized (Stand.of_body Bd) e0
  obtain ⟨fs, hr, hrun, hended, hW, hsame⟩ := X.leave (v := v) (fun q => hv (Bd.returns.symm.trans q))
  exact ⟨_, _, st fs hr, hrun, hended, _, _, rfl, hQ, ⟨_, rfl⟩, hW, hsame.mono hk hn⟩
theorem own_mkW (hp : plainFor y = true)
    (body : ∀ (p : Program) (e : Env) (s : State) (m : MethodId) (below : List Frame) (meth : Method) (c : Code) (s₁ : State), Z.Warmed39 s.vm → p.tables.exec = Jvm.exec → c.code = bytes → c.maxLocals = maxL → s.vm.findClass y.cls = some m.cls → meth.name = y.name → meth.sig.returnType = ret → meth.locks = false → Stand p l e rm s m as' below meth c s₁ [] 0 0 → s₁.heap = h0 →
      ∃ (T : State) (v : Option Value) (L : List Loc) (k n : Nat) (vm1 : Vm) (n1 : Nat), Stand p l e rm (s.setVm vm1) m as' below meth c T L k n ∧ s.Since vm1 n1 ∧ n1 ≤ T.heap.size ∧ k ≤ rm.cells ∧ n ≤ rm.slots ∧ (ret = none → v = none) ∧ Q v T.heap L ∧ ∀ fs, (∀ (f : JFrame) (acts : List Action), f.method = m → f.locked = none → f.entered = [] → (doReturn e (T.setTop f) acts v).1 = T.setFrames fs) → Steps p.tables e below (s₁.setTop (entryFrame m as' maxL)) (T.setFrames fs)) : MetW l Z ws y bytes maxL ret rm as' h0 Q := by
  refine MetFree.of_bodySF hp hisR ?_
  intro p e s m args below meth c s₁ Bd hml hP hK
  obtain ⟨rfl, hZ, hh⟩ := hP
  have e0 : s₁.heap = h0 := by rw [← hh, Bd.state]; rfl
  obtain ⟨T, v, L, k, n, vm1, n1, X, hS, hn1, hk, hn, hv, hQ, st⟩ := body p e s m below meth c s₁ hZ Bd.exec Bd.bytes hml (findClass_of_methodNamed Bd.named) (name_of_methodNamed Bd.named Bd.method).1 Bd.returns Bd.notSynchronized (Stand.of_body Bd) e0
  obtain ⟨fs, hr, hrun, hended, hW⟩ := Stand.leaveW X hS hn1 (v := v) (fun q => hv (Bd.returns.symm.trans q))
  exact ⟨_, _, st fs hr, hrun, hended, _, _, rfl, hQ, hW.1, hW.2.1, hW.2.2.1, hW.2.2.2.mono hk hn⟩
theorem own_mkH (hp : plainFor y = true)
    (body : ∀ (p : Program) (e : Env) (s : State) (m : MethodId) (below : List Frame) (meth : Method) (c : Code) (s₁ : State), Z.Warmed39 s.vm → p.tables.exec = Jvm.exec → c.code = bytes → c.maxLocals = maxL → s.vm.findClass y.cls = some m.cls → meth.name = y.name → meth.sig.returnType = ret → meth.locks = false → Stand p l e rm s m as' below meth c s₁ [] 0 0 → s₁.heap = h0 → CHv Z EL s.vm h0 → (∀ x ∈ sf, Safe Z EL s.vm h0 x) →
      ∃ (T : State) (v : Option Value) (L : List Loc) (k n : Nat) (vm1 : Vm) (n1 : Nat), Stand p l e rm (s.setVm vm1) m as' below meth c T L k n ∧ s.Since vm1 n1 ∧ n1 ≤ T.heap.size ∧ k ≤ rm.cells ∧ n ≤ rm.slots ∧ (ret = none → v = none) ∧ Q v T.heap L ∧ CHr Z EL s.vm h0 T.vm T.heap ∧ ∀ fs, (∀ (f : JFrame) (acts : List Action), f.method = m → f.locked = none → f.entered = [] → (doReturn e (T.setTop f) acts v).1 = T.setFrames fs) → Steps p.tables e below (s₁.setTop (entryFrame m as' maxL)) (T.setFrames fs)) : MetH l Z ws y bytes maxL ret rm as' h0 EL sf Q := by
  refine MetFree.of_bodySF hp hisR ?_
  intro p e s m args below meth c s₁ Bd hml hP hK
  obtain ⟨rfl, hZ, hh, H0, hsf⟩ := hP
  have e0 : s₁.heap = h0 := by rw [← hh, Bd.state]; rfl
  obtain ⟨T, v, L, k, n, vm1, n1, X, hS, hn1, hk, hn, hv, hQ, hC, st⟩ := body p e s m below meth c s₁ hZ Bd.exec Bd.bytes hml (findClass_of_methodNamed Bd.named) (name_of_methodNamed Bd.named Bd.method).1 Bd.returns Bd.notSynchronized (Stand.of_body Bd) e0 H0 hsf
  obtain ⟨fs, hr, hrun, hended, hW⟩ := Stand.leaveW X hS hn1 (v := v) (fun q => hv (Bd.returns.symm.trans q))
  have hC' : CHr Z EL s.vm s.heap (T.setFrames fs).vm (T.setFrames fs).heap := by
    have a : (T.setFrames fs).vm = T.vm := rfl
    have b : (T.setFrames fs).heap = T.heap := rfl
    rw [a, b, hh]; exact hC
  exact ⟨_, _, st fs hr, hrun, hended, _, _, rfl, hQ, hC', hW.1, hW.2.1, hW.2.2.1, hW.2.2.2.mono hk hn⟩
end Own
abbrev SS (p : Program) (e : Env) (b : List Frame) (T : State) (m : MethodId) (pc : Nat) (L : Array Slot) (S : List Value) (t : State) : Prop := Steps p.tables e b (T.setTop (mkF m pc L S)) t
section OwnC
variable {p : Program} {l : Launch} {e : Env} {R : Room} {s : State} {m : MethodId} {args : Array Value} {below : List Frame} {meth : Method} {c : Code} {T : State} {locs : List Loc} {cells slots : Nat} {Z : State} {a0 : Array Value} {h : Heap} {own : String} {index ml pc maxL : Nat} {y z : MethodName} {bytes : ByteArray} {ret : Option FieldType} {rm : Room} {as' : Array Value} {Q : Option Value → Heap → List Loc → Prop} {ps : List FieldType} {r : Option FieldType} {b : Addr} {C : String}
/-- what a call asks of the room -/
abbrev Rok (R rm : Room) (cells slots maxL W : Nat) (y : MethodName) : Prop := (y.cls ≠ "java/lang/invoke/MethodHandle" ∧ y.cls ≠ "java/lang/invoke/VarHandle") ∧ rm.frames + 1 ≤ R.frames ∧ W + (maxL + 11) + rm.locals ≤ R.locals ∧ cells + rm.cells ≤ R.cells ∧ slots + rm.slots ≤ R.slots
theorem own_cs (X : Stand p l e R s m args below meth c T locs cells slots) (hx : p.tables.exec = Jvm.exec) (hZ : Z.Warmed39 s.vm) (hown : s.vm.findClass own = some m.cls) (hml : c.maxLocals = ml) (w1 : (Jvm.Cond.methodLink own index y).before a0 Z = true) (w2 : (Jvm.Cond.static y).before a0 Z = true) (w3 : (Jvm.Cond.initialized y.cls).before a0 Z = true) (w4 : (Jvm.Cond.code y bytes maxL ret).before a0 Z = true)
    (hM : Met l Z [] y bytes maxL ret rm as' h Q) (eT : T.heap = h) (hd : decode c.code pc = .ok (.invokestatic index, 3)) (W : Nat) (Ls : Array Slot) (argsL rest : List Value) (pd : parseMethodDescriptor y.desc = some ⟨ps, r⟩) (ok : Rok R rm cells slots maxL W y) (hsz : Ls.size = ml) (hln : argsL.length = ps.length) (has : argsL.toArray = as') (hW : 2 * 0 + (rest.map fun v => v.category).sum ≤ W) :
    ∃ v T' L', Stand p l e R s m args below meth c T' (locs ++ L') (cells + rm.cells) (slots + rm.slots) ∧ Q v T'.heap L' ∧ ∀ t, SS p e below T' m (pc + 3) Ls (v.toList ++ rest) t → SS p e below T m pc Ls (argsL.reverse ++ rest) t := by
  obtain ⟨v, _, ⟨T', L, k, n⟩, -, X', ⟨Lc, hQ, rfl, rfl, rfl⟩, st⟩ := Jvm.LawKit.callS X hx (y := y) hown (mvT hZ w1) (mvT hZ w2) (mvT hZ w3) (mvT hZ w4) ok.1 (backOf (W := W) hM hZ w4 w3 ok.2.1 ok.2.2.1) (g := mkF m pc Ls (argsL.reverse ++ rest)) rfl (hsz.trans hml.symm) (argsL := argsL) (rest := rest) (lenOf pd hln) rfl hW hd (fun _ _ => ⟨has, eT, ok.2.2.2.1, ok.2.2.2.2⟩)
  exact ⟨v, T', Lc, X', hQ, st⟩
theorem own_cp (X : Stand p l e R s m args below meth c T locs cells slots) (hx : p.tables.exec = Jvm.exec) (hZ : Z.Warmed39 s.vm) (hown : s.vm.findClass own = some m.cls) (hml : c.maxLocals = ml) (hy : y.name = "<init>") (w1 : (Jvm.Cond.methodLink own index y).before a0 Z = true) (w2 : (Jvm.Cond.instanceMethod y).before a0 Z = true) (w3 : (Jvm.Cond.initialized y.cls).before a0 Z = true) (w4 : (Jvm.Cond.code y bytes maxL none).before a0 Z = true)
    (hM : Met l Z [] y bytes maxL none rm as' h Q) (eT : T.heap = h) (hd : decode c.code pc = .ok (.invokespecial index, 3)) (W : Nat) (Ls : Array Slot) (b : Addr) (argsL rest : List Value) (pd : parseMethodDescriptor y.desc = some ⟨ps, r⟩) (ok : Rok R rm cells slots maxL W y) (hsz : Ls.size = ml) (hln : argsL.length = ps.length) (has : (.ref b :: argsL).toArray = as') (hW : 2 * 0 + (rest.map fun v => v.category).sum ≤ W) :
    ∃ v T' L', Stand p l e R s m args below meth c T' (locs ++ L') (cells + rm.cells) (slots + rm.slots) ∧ Q v T'.heap L' ∧ ∀ t, SS p e below T' m (pc + 3) Ls (v.toList ++ rest) t → SS p e below T m pc Ls (argsL.reverse ++ .ref b :: rest) t := by
  obtain ⟨v, _, ⟨T', L, k, n⟩, -, X', ⟨Lc, hQ, rfl, rfl, rfl⟩, st⟩ := X.specialBack hx (y := y) hy hown (mvT hZ w1) (mvT hZ w2) (mvT hZ w4) ok.1 (backOf (W := W) hM hZ w4 w3 ok.2.1 ok.2.2.1) (g := mkF m pc Ls (argsL.reverse ++ .ref b :: rest)) rfl (hsz.trans hml.symm) (Steps.refl _) (a := b) (argsL := argsL) (rest := rest) (lenOf pd hln) rfl hW hd (fun _ _ => ⟨has, eT, ok.2.2.2.1, ok.2.2.2.2⟩)
  exact ⟨v, T', Lc, X', hQ, fun t q => st.trans q⟩
theorem own_cv (X : Stand p l e R s m args below meth c T locs cells slots) (hx : p.tables.exec = Jvm.exec) (hZ : Z.Warmed39 s.vm) (hown : s.vm.findClass own = some m.cls) (hml : c.maxLocals = ml) (w1 : (Jvm.Cond.methodLink own index y).before a0 Z = true) (w2 : (Jvm.Cond.declares y).before a0 Z = true) (nf : NotFace Z y) (ws : (Jvm.Cond.selects C y z).before a0 Z = true) (wi : (Jvm.Cond.instanceMethod z).before a0 Z = true) (w3 : (Jvm.Cond.initialized z.cls).before a0 Z = true) (w4 : (Jvm.Cond.code z bytes maxL ret).before a0 Z = true)
    (hM : Met l Z [] z bytes maxL ret rm as' h Q) (eT : T.heap = h) (E : Exa Z h b C) (hd : decode c.code pc = .ok (.invokevirtual index, 3)) (W : Nat) (Ls : Array Slot) (argsL rest : List Value) (pd : parseMethodDescriptor y.desc = some ⟨ps, r⟩) (ok : Rok R rm cells slots maxL W y) (hsz : Ls.size = ml) (hln : argsL.length = ps.length) (has : (.ref b :: argsL).toArray = as') (hW : 2 * 0 + (rest.map fun v => v.category).sum ≤ W) :
    ∃ v T' L', Stand p l e R s m args below meth c T' (locs ++ L') (cells + rm.cells) (slots + rm.slots) ∧ Q v T'.heap L' ∧ ∀ t, SS p e below T' m (pc + 3) Ls (v.toList ++ rest) t → SS p e below T m pc Ls (argsL.reverse ++ .ref b :: rest) t := by
  obtain ⟨cB, kB, qa, qb, qc⟩ := isOf hZ eT E
  obtain ⟨v, _, ⟨T', L, k, n⟩, -, X', ⟨Lc, hQ, rfl, rfl, rfl⟩, st⟩ := X.virtualBack hx (y := y) (z := z) hown (mvT hZ w1) (mvT hZ w2) (nf.move hZ.alike) (mvT hZ ws) (mvT hZ wi) ok.1 (backOf (W := W) hM hZ w4 w3 ok.2.1 ok.2.2.1) qa qc (g := mkF m pc Ls (argsL.reverse ++ .ref b :: rest)) rfl (hsz.trans hml.symm) (Steps.refl _) (argsL := argsL) (rest := rest) (lenOf pd hln) rfl hW hd (fun _ _ => ⟨has, eT, ok.2.2.2.1, ok.2.2.2.2⟩)
  exact ⟨v, T', Lc, X', hQ, fun t q => st.trans q⟩
end OwnC
theorem own_che {Z T : State} {EL : List (String × Nat)} {vm : Vm} {h0 h : Heap} (e : T.heap = h) (C : CHr Z EL vm h0 T.vm h) : CHr Z EL vm h0 T.vm T.heap := by rw [e]; exact C
theorem own_sf0 {Z : State} {EL : List (String × Nat)} {vm : Vm} {h : Heap} : ∀ x ∈ ([] : List Addr), Safe Z EL vm h x ∧ x < h.size := fun _ q => nomatch q
theorem own_sfS {Z : State} {EL : List (String × Nat)} {vm : Vm} {h : Heap} {x : Addr} {ws : List Addr} (n : Safe Z EL vm h x) (lt : x < h.size) (r : ∀ y ∈ ws, Safe Z EL vm h y ∧ y < h.size) : ∀ y ∈ x :: ws, Safe Z EL vm h y ∧ y < h.size := fun y q => by
  rcases List.mem_cons.mp q with rfl | q
  · exact ⟨n, lt⟩
  · exact r y q
theorem own_backH {l : Launch} {R : Room} {p : Program} {e : Env} {below : List Frame} {Z s : State} {a0 args : Array Value} {EL : List (String × Nat)} {h : Heap} {vm0 : Vm} {y : MethodName} {bytes : ByteArray} {maxL : Nat} {ret : Option FieldType} {rm : Room} {len W : Nat} {as' : Array Value} {sf : List Addr} {Q : Option Value → Heap → List Loc → Prop}
    (hM : MetFree l y (head1 [Jvm.Cond.code y bytes maxL ret] rm) (fun a U => a = as' ∧ Z.Warmed39 U.vm ∧ U.heap = h ∧ CHv Z EL U.vm h ∧ ∀ x ∈ sf, Safe Z EL U.vm h x) (fun _ _ _ _ _ => True) (fun _ U o U' => ∃ v L, o = .returned v ∧ Q v U'.heap L ∧ CHr Z EL U.vm U.heap U'.vm U'.heap ∧ ReturnedEndW U o U' L rm.cells rm.slots))
    (hZ : Z.Warmed39 vm0) (wc : (Jvm.Cond.code y bytes maxL ret).before a0 Z = true) (wz : (Jvm.Cond.initialized y.cls).before a0 Z = true) (hf : rm.frames + 1 ≤ R.frames) (hl : W + (maxL + 11) + rm.locals ≤ R.locals) (hEL : EW Z a0 EL) (H : CHv Z EL vm0 h) (hs : ∀ x ∈ sf, Safe Z EL vm0 h x ∧ x < h.size) :
    BackS l R p e below (s.setVm vm0) args y len W (fun A a => a = as' ∧ A.U.heap = h ∧ A.cells + rm.cells ≤ R.cells ∧ A.slots + rm.slots ≤ R.slots)
      (fun A _ v B => ∃ L, Q v B.U.heap L ∧ B.locs = A.locs ++ L ∧ B.cells = A.cells + rm.cells ∧ B.slots = A.slots + rm.slots ∧ CHr Z EL vm0 h B.U.vm B.U.heap) := by
  refine BackS.of_freeW (bytes := bytes) (maxL := maxL) (ret := ret) (E := fun _ first o t L k n => (k = rm.cells ∧ n = rm.slots) ∧ (∃ v, o = .returned v ∧ Q v t.heap L) ∧ CHr Z EL first.vm first.heap t.vm t.heap) hM hf hl ?_ ?_ ?_ ?_ ?_
  · intro m meth c A a Y hp
    have hU : Z.Warmed39 A.U.vm := wtrans (s := s.setVm vm0) hZ Y.warmed
    refine ⟨?_, mv hU wc, mv hU wz, hp.2.2.1, hp.2.2.2⟩
    show (Jvm.Cond.and _ .tt).before a A.U = true
    rw [Cond.before_and, mv hU wc]; rfl
  · intro m meth c A a g mk Y hp
    have q := CHv.at Y hZ hEL H
    exact ⟨hp.1, wtrans (s := s.setVm vm0) hZ Y.warmed, hp.2.1, q.1, fun x hx => q.safe (hs x hx).2 (hs x hx).1⟩
  · intros; trivial
  · rintro _ _ _ _ ⟨v, L, h1, h2, h3, h4⟩
    exact ⟨L, _, _, h4, ⟨rfl, rfl⟩, ⟨v, h1, h2⟩, h3⟩
  · rintro m meth c A a g mk v t L k n Y hp - - ⟨⟨rfl, rfl⟩, ⟨v', e3, e4⟩, e5⟩
    cases e3
    refine ⟨L, e4, rfl, rfl, rfl, (CHv.at Y hZ hEL H).trans ?_⟩
    have e6 : (A.U.calling g mk a).heap = h := hp.2.1
    rw [e6] at e5
    exact e5
def Elt (Z : State) (h : Heap) (a : Addr) (ty : FieldType) (j : Int32) (v : Value) : Prop := ∃ c : Cell, Arr Z h a c ty ∧ ¬ (j < 0 ∨ c.slots.size ≤ j.toNatClampNeg) ∧ c.slots[j.toNatClampNeg]? = some v
theorem Elt.ext {Z : State} {h h' : Heap} {a : Addr} {ty : FieldType} {j : Int32} {v : Value} (F : Elt Z h a ty j v) (E : Ext h h') : Elt Z h' a ty j v := by obtain ⟨c, A, r⟩ := F; exact ⟨c, A.ext E, r⟩
theorem Elt.lt {Z : State} {h : Heap} {a : Addr} {ty : FieldType} {j : Int32} {v : Value} (F : Elt Z h a ty j v) : a < h.size := by obtain ⟨c, A, -⟩ := F; exact A.lt
theorem own_arvty {Z : State} {h : Heap} {a b : Addr} {k1 k2 : ClassId} {t1 t2 : FieldType} {z1 z2 : Int32} {v1 v2 : List Value} {d1 d2 : Value} (A : Arv Z h a k1 t1 z1 v1 d1) (B : Arv Z h b k2 t2 z2 v2 d2) (hn : t1 ≠ t2) : a ≠ b := fun e => by
  subst e
  obtain ⟨c1, ⟨a1, ⟨-, q1, r1, m1, w1⟩, -⟩, -⟩ := A
  obtain ⟨c2, ⟨a2, ⟨-, q2, r2, m2, w2⟩, -⟩, -⟩ := B
  cases a1.symm.trans a2
  cases r1.symm.trans r2
  rw [w1] at w2
  injection w2 with _ e2
  exact hn e2
theorem own_decl {args : Array Value} {s : State} {y : MethodName} {bytes : ByteArray} {maxL : Nat} {ret : Option FieldType} (hi : (Jvm.Cond.instanceMethod y).before args s = true) (hc : (Jvm.Cond.code y bytes maxL ret).before args s = true) : (Jvm.Cond.declares y).before args s = true := by
  obtain ⟨mk, methM, hnamed, hmethM, hst, hab⟩ := Cond.instanceMethod_spec hi
  obtain ⟨m2, cM, q1, -, -, -, -, -, -, hsig⟩ := Cond.code_spec hnamed hc
  cases hmethM.symm.trans q1
  simp [Cond.before, Cond.holds, Cond.value, hnamed, hmethM, hst, hsig]
theorem own_char (x : Int32) (h1 : ¬ ((255 : Int32) < x)) (h2 : ¬ (x < (0 : Int32))) : x.toUInt32.toUInt16.toUInt32.toInt32 = x ∧ (x.toInt8.toInt32 &&& (255 : Int32)) = x := by
  have e1 := c_i2c x
  have e2 := c_mask x.toInt8.toInt32 255 8 (by decide) (by decide)
  have e3 := c_i2b x
  simp only [Int32.lt_iff_toInt_lt, Int32.reduceToInt] at h1 h2
  constructor
  · rw [← Int32.toInt_inj]; omega
  · rw [← Int32.toInt_inj, e2]; omega
theorem own_c255 (x : Int32) : ¬ ((255 : Int32) < (x &&& (255 : Int32))) ∧ ¬ ((x &&& (255 : Int32)) < (0 : Int32)) := by
  have e2 := c_mask x 255 8 (by decide) (by decide)
  simp only [Int32.lt_iff_toInt_lt, Int32.reduceToInt, e2]
  omega
theorem own_narB (x : Int32) : nar .byte (x.toInt8.toInt32) = x.toInt8.toInt32 := by
  show x.toInt8.toInt32.toInt8.toInt32 = x.toInt8.toInt32
  simp
theorem own_narC (x : Int32) : nar .char (x.toUInt32.toUInt16.toUInt32.toInt32) = x.toUInt32.toUInt16.toUInt32.toInt32 := by
  show x.toUInt32.toUInt16.toUInt32.toInt32.toUInt32.toUInt16.toUInt32.toInt32 = _
  have e1 := c_i2c x
  have e2 := c_i2c (x.toUInt32.toUInt16.toUInt32.toInt32)
  rw [← Int32.toInt_inj]; omega
theorem own_nput {t : FieldType} {x : Int32} (ht : t = .boolean ∨ t = .byte ∨ t = .char ∨ t = .short) (h : nar t x = x) : narrow t (.int x) = .int x := by
  have q : narrow t (.int x) = .int (nar t x) := by rcases ht with rfl | rfl | rfl | rfl <;> rfl
  rw [q, h]
theorem own_fput {t : FieldType} {x : Int32} (ht : t = .boolean ∨ t = .byte ∨ t = .char ∨ t = .short) (h : nar t x = x) : fits t (.int x) = true := by
  rw [← h]
  rcases ht with rfl | rfl | rfl | rfl
  · exact fits_nar_bool x
  · exact fits_nar_byte x
  · exact fits_nar_char x
  · exact fits_nar_short x
theorem own_nf {args : Array Value} {s : State} {C : String} {x y z : MethodName} (e : z.cls = y.cls) (hsel : (Jvm.Cond.selects C x y).before args s = true) : NotFace s z := fun r0 h0 => by
  obtain ⟨c2, r2, m2, q1, q2, q3, q4, kP, hkP, hkPi⟩ := Cond.selects_spec hsel
  have a := findClass_of_methodNamed h0
  have b := findClass_of_methodNamed q3
  rw [e] at a
  have q : r0.cls = m2.cls := Option.some.inj (a.symm.trans b)
  exact ⟨kP, by rw [q]; exact hkP, hkPi⟩
theorem own_same {args : Array Value} {s : State} {y : MethodName} (hm : y.cls ≠ "java/lang/invoke/MethodHandle" ∧ y.cls ≠ "java/lang/invoke/VarHandle") (hd : (Jvm.Cond.instanceMethod y).before args s = true) (nf : NotFace s y) : (Jvm.Cond.sameMethod y.cls y.cls y.name y.desc).before args s = true := by
  obtain ⟨mk, methM, hnamed, hmethM, hstM, habM⟩ := Cond.instanceMethod_spec hd
  obtain ⟨k, hk, hni⟩ := nf mk hnamed
  have a := findClass_of_methodNamed hnamed
  have f := State.methodFound?_of_named hnamed hm
  have hnamed' : s.methodNamed? ⟨y.cls, y.name, y.desc⟩ = some mk := hnamed
  simp [Cond.before, Cond.holds, Cond.value, a, f, hnamed', hk, hni]
theorem own_neI {a : Array Value} {s : State} {t : Term} {n x : Int32} (e : t.eval a s none [] s = some (.int x)) (h : (Jvm.Cond.not (.eq t (.int n))).value a s none s [] = some true) : ¬ (x = n) := by
  have h := not_v h
  simp only [Cond.value, Term.eval, e] at h
  simpa using h
theorem own_eqR {a : Array Value} {s : State} {t u : Term} {b : Addr} (hu : u.eval a s none [] s = some (.ref b)) (h : (Jvm.Cond.eq t u).value a s none s [] = some true) : t.eval a s none [] s = some (.ref b) := by
  simp only [Cond.value, hu] at h
  cases ht : t.eval a s none [] s with
  | none => simp [ht] at h
  | some x => cases x <;> simp [ht] at h; rw [h]
abbrev Y0 : MethodName := ⟨"com/example/temporal_query_rewriter/temporalqueryrewriter/IslandsOfPinLaw", "engineAt", "(I)Lcom/example/temporal_query_rewriter/temporalqueryrewriter/Engine;"⟩
abbrev Y1 : MethodName := ⟨"java/util/AbstractCollection", "<init>", "()V"⟩
abbrev Y2 : MethodName := ⟨"java/util/AbstractList", "<init>", "()V"⟩
abbrev Y3 : MethodName := ⟨"java/util/ArrayList", "<init>", "()V"⟩
abbrev Y4 : MethodName := ⟨"java/lang/AbstractStringBuilder", "<init>", "(I)V"⟩
abbrev Y5 : MethodName := ⟨"java/lang/StringBuilder", "<init>", "()V"⟩
abbrev Y6 : MethodName := ⟨"java/util/AbstractSet", "<init>", "()V"⟩
abbrev Y7 : MethodName := ⟨"java/util/AbstractMap", "<init>", "()V"⟩
abbrev Y8 : MethodName := ⟨"java/util/HashMap", "<init>", "()V"⟩
abbrev Y9 : MethodName := ⟨"java/util/HashSet", "<init>", "()V"⟩
abbrev Y10 : MethodName := ⟨"java/util/ArrayList$Itr", "<init>", "(Ljava/util/ArrayList;)V"⟩
abbrev Y11 : MethodName := ⟨"java/util/ArrayList", "iterator", "()Ljava/util/Iterator;"⟩
abbrev Y12 : MethodName := ⟨"java/util/ArrayList$Itr", "hasNext", "()Z"⟩
abbrev Y13 : MethodName := ⟨"java/util/AbstractCollection", "addAll", "(Ljava/util/Collection;)Z"⟩
abbrev Y14 : MethodName := ⟨"java/util/Collection", "iterator", "()Ljava/util/Iterator;"⟩
abbrev Y15 : MethodName := ⟨"java/util/Iterator", "hasNext", "()Z"⟩
abbrev Y16 : MethodName := ⟨"com/example/temporal_query_rewriter/temporalqueryrewriter/WithQuery", "<init>", "(Ljava/util/Collection;Lcom/example/temporal_query_rewriter/temporalqueryrewriter/Engine;)V"⟩
abbrev Y17 : MethodName := ⟨"java/util/Set", "addAll", "(Ljava/util/Collection;)Z"⟩
abbrev Y18 : MethodName := ⟨"com/example/temporal_query_rewriter/temporalqueryrewriter/Engine", "windowAggregates", "()Z"⟩
abbrev Y19 : MethodName := ⟨"com/example/temporal_query_rewriter/temporalqueryrewriter/WindowIslands", "<init>", "(Lcom/example/temporal_query_rewriter/temporalqueryrewriter/WithQuery;)V"⟩
abbrev Y20 : MethodName := ⟨"com/example/temporal_query_rewriter/temporalqueryrewriter/Islands", "of", "(Lcom/example/temporal_query_rewriter/temporalqueryrewriter/Engine;Lcom/example/temporal_query_rewriter/temporalqueryrewriter/WithQuery;)Lcom/example/temporal_query_rewriter/temporalqueryrewriter/Islands;"⟩
abbrev Y21 : MethodName := ⟨"java/lang/AbstractStringBuilder", "getValue", "()[B"⟩
abbrev Y22 : MethodName := ⟨"java/lang/AbstractStringBuilder", "length", "()I"⟩
abbrev Y23 : MethodName := ⟨"java/lang/StringBuilder", "length", "()I"⟩
abbrev Y24 : MethodName := ⟨"java/lang/AbstractStringBuilder", "isLatin1", "()Z"⟩
abbrev Y25 : MethodName := ⟨"java/util/Arrays", "checkLength", "(II)V"⟩
abbrev Y26 : MethodName := ⟨"java/lang/Math", "min", "(II)I"⟩
abbrev Y27 : MethodName := ⟨"java/util/Arrays", "copyOfRangeByte", "([BII)[B"⟩
abbrev Y28 : MethodName := ⟨"java/util/Arrays", "copyOfRange", "([BII)[B"⟩
abbrev Y29 : MethodName := ⟨"java/lang/String", "<init>", "(Ljava/lang/AbstractStringBuilder;Ljava/lang/Void;)V"⟩
abbrev Y30 : MethodName := ⟨"java/lang/String", "<init>", "(Ljava/lang/StringBuilder;)V"⟩
abbrev Y31 : MethodName := ⟨"java/lang/StringBuilder", "toString", "()Ljava/lang/String;"⟩
abbrev Y32 : MethodName := ⟨"com/example/temporal_query_rewriter/temporalqueryrewriter/WithQuery", "toString", "()Ljava/lang/String;"⟩
abbrev Y33 : MethodName := ⟨"java/lang/String", "isEmpty", "()Z"⟩
abbrev Y34 : MethodName := ⟨"com/example/temporal_query_rewriter/temporalqueryrewriter/SortedIslands", "<init>", "(Lcom/example/temporal_query_rewriter/temporalqueryrewriter/WithQuery;Lcom/example/temporal_query_rewriter/temporalqueryrewriter/Engine;)V"⟩
abbrev FA35 (Z : State) (h : Heap) (a : Addr) (v : Value) : Prop := Fld Z h a "java/util/AbstractList" "modCount" "I" v
abbrev FA36 (Z : State) (h : Heap) (a : Addr) (v : Value) : Prop := Fld Z h a "java/util/ArrayList" "elementData" "[Ljava/lang/Object;" v
abbrev FA37 (Z : State) (h : Heap) (a : Addr) (v : Value) : Prop := Fld Z h a "java/util/ArrayList" "size" "I" v
abbrev FA38 (Z : State) (h : Heap) (a : Addr) (v : Value) : Prop := Fld Z h a "java/lang/AbstractStringBuilder" "value" "[B" v
abbrev FA39 (Z : State) (h : Heap) (a : Addr) (v : Value) : Prop := Fld Z h a "java/lang/AbstractStringBuilder" "coder" "B" v
abbrev FA40 (Z : State) (h : Heap) (a : Addr) (v : Value) : Prop := Fld Z h a "java/lang/AbstractStringBuilder" "count" "I" v
abbrev FA41 (Z : State) (h : Heap) (a : Addr) (v : Value) : Prop := Fld Z h a "java/util/HashMap" "loadFactor" "F" v
abbrev FA42 (Z : State) (h : Heap) (a : Addr) (v : Value) : Prop := Fld Z h a "java/util/HashSet" "map" "Ljava/util/HashMap;" v
abbrev FA43 (Z : State) (h : Heap) (a : Addr) (v : Value) : Prop := Fld Z h a "java/util/ArrayList$Itr" "this$0" "Ljava/util/ArrayList;" v
abbrev FA44 (Z : State) (h : Heap) (a : Addr) (v : Value) : Prop := Fld Z h a "java/util/ArrayList$Itr" "lastRet" "I" v
abbrev FA45 (Z : State) (h : Heap) (a : Addr) (v : Value) : Prop := Fld Z h a "java/util/ArrayList$Itr" "expectedModCount" "I" v
abbrev FA46 (Z : State) (h : Heap) (a : Addr) (v : Value) : Prop := Fld Z h a "java/util/ArrayList$Itr" "cursor" "I" v
abbrev FA47 (Z : State) (h : Heap) (a : Addr) (v : Value) : Prop := Fld Z h a "com/example/temporal_query_rewriter/temporalqueryrewriter/WithQuery" "sql" "Ljava/lang/StringBuilder;" v
abbrev FA48 (Z : State) (h : Heap) (a : Addr) (v : Value) : Prop := Fld Z h a "com/example/temporal_query_rewriter/temporalqueryrewriter/WithQuery" "taken" "Ljava/util/Set;" v
abbrev FA49 (Z : State) (h : Heap) (a : Addr) (v : Value) : Prop := Fld Z h a "com/example/temporal_query_rewriter/temporalqueryrewriter/WithQuery" "counts" "Ljava/util/Map;" v
abbrev FA50 (Z : State) (h : Heap) (a : Addr) (v : Value) : Prop := Fld Z h a "com/example/temporal_query_rewriter/temporalqueryrewriter/WithQuery" "engine" "Lcom/example/temporal_query_rewriter/temporalqueryrewriter/Engine;" v
abbrev FA51 (Z : State) (h : Heap) (a : Addr) (v : Value) : Prop := Fld Z h a "com/example/temporal_query_rewriter/temporalqueryrewriter/Engine" "windowAggregates" "Z" v
abbrev FA52 (Z : State) (h : Heap) (a : Addr) (v : Value) : Prop := Fld Z h a "com/example/temporal_query_rewriter/temporalqueryrewriter/WindowIslands" "sql" "Lcom/example/temporal_query_rewriter/temporalqueryrewriter/WithQuery;" v
abbrev FA53 (Z : State) (h : Heap) (a : Addr) (v : Value) : Prop := Fld Z h a "java/lang/String" "coder" "B" v
abbrev FA54 (Z : State) (h : Heap) (a : Addr) (v : Value) : Prop := Fld Z h a "java/lang/String" "value" "[B" v
abbrev FA55 (Z : State) (h : Heap) (a : Addr) (v : Value) : Prop := Fld Z h a "com/example/temporal_query_rewriter/temporalqueryrewriter/SortedIslands" "sql" "Lcom/example/temporal_query_rewriter/temporalqueryrewriter/WithQuery;" v
abbrev FA56 (Z : State) (h : Heap) (a : Addr) (v : Value) : Prop := Fld Z h a "com/example/temporal_query_rewriter/temporalqueryrewriter/SortedIslands" "engine" "Lcom/example/temporal_query_rewriter/temporalqueryrewriter/Engine;" v
abbrev EA57 (Z : State) (h : Heap) (a : Addr) : Prop := Exa Z h a "java/util/ArrayList"
abbrev EA58 (Z : State) (h : Heap) (a : Addr) : Prop := Exa Z h a "[B"
abbrev EA59 (Z : State) (h : Heap) (a : Addr) : Prop := Exa Z h a "java/lang/StringBuilder"
abbrev EA60 (Z : State) (h : Heap) (a : Addr) : Prop := Exa Z h a "java/util/HashMap"
abbrev EA61 (Z : State) (h : Heap) (a : Addr) : Prop := Exa Z h a "java/util/HashSet"
abbrev EA62 (Z : State) (h : Heap) (a : Addr) : Prop := Exa Z h a "java/util/ArrayList$Itr"
abbrev EA63 (Z : State) (h : Heap) (a : Addr) : Prop := Exa Z h a "com/example/temporal_query_rewriter/temporalqueryrewriter/WithQuery"
abbrev EA64 (Z : State) (h : Heap) (a : Addr) : Prop := Exa Z h a "com/example/temporal_query_rewriter/temporalqueryrewriter/WindowIslands"
abbrev EA65 (Z : State) (h : Heap) (a : Addr) : Prop := Exa Z h a "com/example/temporal_query_rewriter/temporalqueryrewriter/Engine"
abbrev EA66 (Z : State) (h : Heap) (a : Addr) : Prop := Exa Z h a "java/lang/String"
abbrev EA67 (Z : State) (h : Heap) (a : Addr) : Prop := Exa Z h a "[Ljava/lang/Object;"
abbrev EA68 (Z : State) (h : Heap) (a : Addr) : Prop := Exa Z h a "com/example/temporal_query_rewriter/temporalqueryrewriter/SortedIslands"
abbrev SA69 (Z : State) (h : Heap) (v : Value) : Prop := Sta Z h "com/example/temporal_query_rewriter/temporalqueryrewriter/Engine" "H2" "Lcom/example/temporal_query_rewriter/temporalqueryrewriter/Engine;" v
abbrev SA70 (Z : State) (h : Heap) (v : Value) : Prop := Sta Z h "java/util/ArrayList" "DEFAULTCAPACITY_EMPTY_ELEMENTDATA" "[Ljava/lang/Object;" v
abbrev SA71 (Z : State) (h : Heap) (v : Value) : Prop := Sta Z h "java/lang/String" "COMPACT_STRINGS" "Z" v
abbrev SA72 (Z : State) (h : Heap) (v : Value) : Prop := Sta Z h "java/util/ArrayList" "EMPTY_ELEMENTDATA" "[Ljava/lang/Object;" v
abbrev SA73 (Z : State) (h : Heap) (v : Value) : Prop := Sta Z h "jdk/internal/util/Preconditions" "SIOOBE_FORMATTER" "Ljava/util/function/BiFunction;" v
abbrev SA74 (Z : State) (h : Heap) (v : Value) : Prop := Sta Z h "com/example/temporal_query_rewriter/temporalqueryrewriter/Engine" "SQLITE" "Lcom/example/temporal_query_rewriter/temporalqueryrewriter/Engine;" v
abbrev SA75 (Z : State) (h : Heap) (v : Value) : Prop := Sta Z h "com/example/temporal_query_rewriter/temporalqueryrewriter/Engine" "DUCKDB" "Lcom/example/temporal_query_rewriter/temporalqueryrewriter/Engine;" v
abbrev SA76 (Z : State) (h : Heap) (v : Value) : Prop := Sta Z h "com/example/temporal_query_rewriter/temporalqueryrewriter/Engine" "HSQLDB" "Lcom/example/temporal_query_rewriter/temporalqueryrewriter/Engine;" v
abbrev HW (Z : State) (a0 : Array Value) : Prop := ∀ d ∈ tables_1, d.before a0 Z = true
def Q0 (n0 : Nat) (v : Option Value) (L : List Loc) : Prop := v = some (.int (1 : Int32)) ∧ Fr n0 L
theorem d_0 : decode method_2_code 0 = .ok (.iload_n 0, 1) := by decide +kernel
theorem d_1 : decode method_2_code 1 = .ok (.ifCond .ne 7, 3) := by decide +kernel
theorem d_2 : decode method_2_code 4 = .ok (.getstatic 7, 3) := by decide +kernel
theorem d_3 : decode method_2_code 7 = .ok (.areturn, 1) := by decide +kernel
theorem ef_4 (m : MethodId)  : entryFrame m #[(.int (0 : Int32))] 1 = mkF m 0 #[iv (0 : Int32)] [] := by first | (simp [entryFrame, mkF, argsToLocals, Value.category]; done) | rfl
theorem pn_5 : plainName "com/example/temporal_query_rewriter/temporalqueryrewriter/IslandsOfPinLaw" = true := by first | (simp [plainName, overriddenIn]; done) | decide +kernel
-- com/example/temporal_query_rewriter/temporalqueryrewriter/IslandsOfPinLaw.engineAt(I)Lcom/example/temporal_query_rewriter/temporalqueryrewriter/Engine;
def Q1_engineAt (Z : State) (a1 : Addr) (h0 : Heap) (n0 : Nat) (v : Option Value) (h : Heap) (L : List Loc) : Prop := v = some (.ref a1) ∧ Fr n0 L ∧ h = h0
set_option maxRecDepth 65536 in
set_option maxHeartbeats 40000000 in
theorem rm1_engineAt (l : Launch) (Z : State) (a0 : Array Value) (hw : HW Z a0) (a1 : Addr) (h0 : Heap) (n0 : Nat) (O0 : Old Z n0 h0) (S_0 : SA69 Z Z.heap (.ref a1)) :
    Met l Z [] Y0 method_2_code 1 (some (.object "com/example/temporal_query_rewriter/temporalqueryrewriter/Engine")) ({ frames := 0, cells := 0, slots := 0, locals := 0 } : Room) #[(.int (0 : Int32))] h0 (Q1_engineAt Z a1 h0 n0) := by
  have W := fun (i : Nat) {c : Jvm.Cond} (q : tables_1[i]? = some c) => hw c (List.mem_of_getElem? q)
  refine own_mk (plainFor_of_name pn_5) ?_
  intro p e s m below meth c s₁ hZ hx hby hml hown hnm hret hlk X0 e0
  have N0 := Fr.nil n0
  obtain ⟨T1, X1, e1, st1⟩ := getS2 X0 hx hZ hown (host := "") (Or.inl (W 4 rfl)) Via.refl e0 (S_0.ext O0.2) (g := (mkF m 4 #[iv (0 : Int32)] [])) rfl (hb hby d_2)
  refine ⟨T1, some (.ref a1), _, _, _, X1, by decide, by decide, nofun, ?_, fun fs hr => castTop (ef_4 m ) ?_⟩
  · show Q1_engineAt Z a1 h0 n0 _ T1.heap _
    rw [e1]
    exact ⟨rfl, N0, rfl⟩
  · show SS p e below s₁ m 0 #[iv (0 : Int32)] [] _
    refine XS.iloadN X0.here hx rfl (hb hby d_0) rfl ?_
    show SS p e below s₁ m 1 #[iv (0 : Int32)] [(.int (0 : Int32))] _
    refine XS.ifNo X0.here hx rfl (hb hby d_1) rfl ((if0 _ _).trans (teq (by decide : (0 : Int32) = (0 : Int32))).2) ?_
    show SS p e below s₁ m 4 #[iv (0 : Int32)] [] _
    refine st1 _ ?_
    show SS p e below T1 m 7 #[iv (0 : Int32)] [(.ref a1)] _
    exact retOut X1 hx hret rfl (Or.inr (Or.inr (Or.inr (Or.inr ⟨rfl, rfl, rfl⟩)))) (hb hby d_3) hr
theorem pd_6 : parseMethodDescriptor "(I)Lcom/example/temporal_query_rewriter/temporalqueryrewriter/Engine;" = some ⟨[.int], some (.object "com/example/temporal_query_rewriter/temporalqueryrewriter/Engine")⟩ := by decide +kernel
theorem d_7 : decode jdk_38_method_2_code 0 = .ok (.aload_n 0, 1) := by decide +kernel
theorem d_8 : decode jdk_38_method_2_code 1 = .ok (.invokespecial 1, 3) := by decide +kernel
theorem d_9 : decode jdk_39_method_1_code 0 = .ok (.aload_n 0, 1) := by decide +kernel
theorem d_10 : decode jdk_39_method_1_code 1 = .ok (.invokespecial 1, 3) := by decide +kernel
theorem d_11 : decode jdk_22_method_1_code 0 = .ok (.aload_n 0, 1) := by decide +kernel
theorem d_12 : decode jdk_22_method_1_code 1 = .ok (.invokespecial 1, 3) := by decide +kernel
theorem d_13 : decode jdk_22_method_1_code 4 = .ok (.return_, 1) := by decide +kernel
theorem ef_14 (m : MethodId) (a1 : Addr) : entryFrame m #[(.ref a1)] 1 = mkF m 0 #[rv a1] [] := by first | (simp [entryFrame, mkF, argsToLocals, Value.category]; done) | rfl
theorem pn_15 : plainName "java/util/AbstractCollection" = true := by first | (simp [plainName, overriddenIn]; done) | decide +kernel
-- java/util/AbstractCollection.<init>()V
def Q2_init (Z : State) (a1 : Addr) (h0 : Heap) (n0 : Nat) (v : Option Value) (h : Heap) (L : List Loc) : Prop := v = none ∧ Fr n0 L ∧ h = h0
set_option maxRecDepth 65536 in
set_option maxHeartbeats 40000000 in
theorem rm2_init (l : Launch) (Z : State) (a0 : Array Value) (hw : HW Z a0) (a1 : Addr) (h0 : Heap) (n0 : Nat) (O0 : Old Z n0 h0)  :
    Met l Z [] Y1 jdk_22_method_1_code 1 none ({ frames := 1, cells := 0, slots := 0, locals := 12 } : Room) #[(.ref a1)] h0 (Q2_init Z a1 h0 n0) := by
  have W := fun (i : Nat) {c : Jvm.Cond} (q : tables_1[i]? = some c) => hw c (List.mem_of_getElem? q)
  refine own_mk (plainFor_of_name pn_15) ?_
  intro p e s m below meth c s₁ hZ hx hby hml hown hnm hret hlk X0 e0
  have N0 := Fr.nil n0
  obtain ⟨T1, X1, e1, st1⟩ := initO X0 hx hZ hown (W 28 rfl) (W 29 rfl) (W 30 rfl) e0 (g := (mkF m 1 #[rv a1] [(.ref a1)])) rfl (by rw [hml]; rfl) rfl (hb hby d_12) (by decide) (W := 0) (by show 2 * 0 + _ ≤ _; exact Nat.le_of_eq rfl) (by decide)
  refine ⟨T1, none, _, _, _, X1, by decide, by decide, (fun _ => rfl), ?_, fun fs hr => castTop (ef_14 m a1) ?_⟩
  · show Q2_init Z a1 h0 n0 _ T1.heap _
    rw [e1]
    exact ⟨rfl, N0, rfl⟩
  · show SS p e below s₁ m 0 #[rv a1] [] _
    refine XS.aloadN X0.here hx rfl (hb hby d_11) rfl rfl ?_
    show SS p e below s₁ m 1 #[rv a1] [(.ref a1)] _
    refine st1 _ ?_
    show SS p e below T1 m 4 #[rv a1] [] _
    exact X1.returnOut hx hret (hb hby d_13) hr
theorem pd_16 : parseMethodDescriptor "()V" = some ⟨[], none⟩ := by decide +kernel
theorem d_17 : decode jdk_39_method_1_code 4 = .ok (.aload_n 0, 1) := by decide +kernel
theorem d_18 : decode jdk_39_method_1_code 5 = .ok (.iconst 0, 1) := by decide +kernel
theorem d_19 : decode jdk_39_method_1_code 6 = .ok (.putfield 7, 3) := by decide +kernel
theorem d_20 : decode jdk_39_method_1_code 9 = .ok (.return_, 1) := by decide +kernel
theorem pn_21 : plainName "java/util/AbstractList" = true := by first | (simp [plainName, overriddenIn]; done) | decide +kernel
-- java/util/AbstractList.<init>()V
def Q3_init (Z : State) (a1 : Addr) (h0 : Heap) (n0 : Nat) (v : Option Value) (h : Heap) (L : List Loc) : Prop := v = none ∧ Fr n0 L ∧ Keep h0 h [a1] ∧ FA35 Z h a1 (.int (0 : Int32)) ∧ FA36 Z h a1 .null ∧ FA37 Z h a1 (.int (0 : Int32))
set_option maxRecDepth 65536 in
set_option maxHeartbeats 40000000 in
theorem rm3_init (l : Launch) (Z : State) (a0 : Array Value) (hw : HW Z a0) (a1 : Addr) (h0 : Heap) (n0 : Nat) (O0 : Old Z n0 h0) (F_0 : EA57 Z h0 a1) (F_1 : FA35 Z h0 a1 (.int (0 : Int32))) (g_2 : n0 ≤ a1) (F_3 : FA36 Z h0 a1 .null) (F_4 : FA37 Z h0 a1 (.int (0 : Int32))) :
    Met l Z [] Y2 jdk_39_method_1_code 1 none ({ frames := 2, cells := 0, slots := 0, locals := 24 } : Room) #[(.ref a1)] h0 (Q3_init Z a1 h0 n0) := by
  have W := fun (i : Nat) {c : Jvm.Cond} (q : tables_1[i]? = some c) => hw c (List.mem_of_getElem? q)
  refine own_mk (plainFor_of_name pn_21) ?_
  intro p e s m below meth c s₁ hZ hx hby hml hown hnm hret hlk X0 e0
  have N0 := Fr.nil n0
  obtain ⟨_, T1, L1, X1, hQ1, st1⟩ := own_cp X0 hx hZ hown hml rfl (W 22 rfl) (W 23 rfl) (W 26 rfl) (W 27 rfl) (rm2_init l Z a0 hw a1 h0 n0 O0 ) e0 (hb hby d_10) 0 #[rv a1] a1 [] [] pd_16 (by decide) rfl rfl rfl (Nat.le_of_eq rfl)
  obtain ⟨rfl, N1q, K1⟩ := hQ1
  have N2 := Fr.app N0 N1q
  obtain ⟨T3, h3, X3, e3, W3, st3⟩ := putF X1 hx hZ hown (host := "") (Or.inl (W 31 rfl)) Via.refl K1 F_1 F_0 (Or.inl (W 32 rfl)) (W 11 rfl) (ty := .int) (by decide) rfl rfl (g := (mkF m 6 #[rv a1] [(.int (0 : Int32)), (.ref a1)])) rfl rfl (hb hby d_19)
  have O4 := O0.wr W3 g_2
  have K5 : Keep h0 h3 [a1] := Keep.wr (Keep.refl h0 [a1]) W3 (Or.inl (List.mem_of_getElem? (i := 0) rfl))
  have f6 : FA35 Z h3 a1 (.int (0 : Int32)) := (F_1.same W3)
  have N7 := Fr.snoc X3 N2 g_2
  have f8 := (F_3.other W3 (Or.inr (slot_ne (Or.inl (W 35 rfl)) (Or.inl (W 32 rfl)) (by decide) (t := (.array (.object "java/lang/Object"))) (t' := .int) (by decide) (by decide))))
  have f9 := (F_4.other W3 (Or.inr (slot_ne (Or.inl (W 149 rfl)) (Or.inl (W 32 rfl)) (by decide) (t := .int) (t' := .int) (by decide) (by decide))))
  refine ⟨T3, none, _, _, _, X3, by decide, by decide, (fun _ => rfl), ?_, fun fs hr => castTop (ef_14 m a1) ?_⟩
  · show Q3_init Z a1 h0 n0 _ T3.heap _
    rw [e3]
    exact ⟨rfl, N7, K5, f6, f8, f9⟩
  · show SS p e below s₁ m 0 #[rv a1] [] _
    refine XS.aloadN X0.here hx rfl (hb hby d_9) rfl rfl ?_
    show SS p e below s₁ m 1 #[rv a1] [(.ref a1)] _
    refine st1 _ ?_
    show SS p e below T1 m 4 #[rv a1] [] _
    refine XS.aloadN X1.here hx rfl (hb hby d_17) rfl rfl ?_
    refine XS.iconst X1.here hx rfl (hb hby d_18) ?_
    show SS p e below T1 m 6 #[rv a1] [(.int (0 : Int32)), (.ref a1)] _
    refine st3 _ ?_
    show SS p e below T3 m 9 #[rv a1] [] _
    exact X3.returnOut hx hret (hb hby d_20) hr
theorem d_22 : decode jdk_38_method_2_code 4 = .ok (.aload_n 0, 1) := by decide +kernel
theorem d_23 : decode jdk_38_method_2_code 5 = .ok (.getstatic 39, 3) := by decide +kernel
theorem d_24 : decode jdk_38_method_2_code 8 = .ok (.putfield 9, 3) := by decide +kernel
theorem d_25 : decode jdk_38_method_2_code 11 = .ok (.return_, 1) := by decide +kernel
theorem pn_26 : plainName "java/util/ArrayList" = true := by first | (simp [plainName, overriddenIn]; done) | decide +kernel
-- java/util/ArrayList.<init>()V
def Q4_init (Z : State) (a1 : Addr) (a2 : Addr) (h0 : Heap) (n0 : Nat) (v : Option Value) (h : Heap) (L : List Loc) : Prop := v = none ∧ Fr n0 L ∧ Keep h0 h [a1] ∧ FA35 Z h a1 (.int (0 : Int32)) ∧ FA36 Z h a1 (.ref a2) ∧ FA37 Z h a1 (.int (0 : Int32))
set_option maxRecDepth 65536 in
set_option maxHeartbeats 40000000 in
theorem rm4_init (l : Launch) (Z : State) (a0 : Array Value) (hw : HW Z a0) (a1 : Addr) (a2 : Addr) (h0 : Heap) (n0 : Nat) (O0 : Old Z n0 h0) (F_0 : EA57 Z h0 a1) (F_1 : FA35 Z h0 a1 (.int (0 : Int32))) (F_2 : FA36 Z h0 a1 .null) (F_3 : FA37 Z h0 a1 (.int (0 : Int32))) (g_4 : n0 ≤ a1) (S_5 : SA70 Z Z.heap (.ref a2)) :
    Met l Z [] Y3 jdk_38_method_2_code 1 none ({ frames := 3, cells := 0, slots := 0, locals := 36 } : Room) #[(.ref a1)] h0 (Q4_init Z a1 a2 h0 n0) := by
  have W := fun (i : Nat) {c : Jvm.Cond} (q : tables_1[i]? = some c) => hw c (List.mem_of_getElem? q)
  refine own_mk (plainFor_of_name pn_26) ?_
  intro p e s m below meth c s₁ hZ hx hby hml hown hnm hret hlk X0 e0
  have N0 := Fr.nil n0
  obtain ⟨_, T1, L1, X1, hQ1, st1⟩ := own_cp X0 hx hZ hown hml rfl (W 16 rfl) (W 17 rfl) (W 20 rfl) (W 21 rfl) (rm3_init l Z a0 hw a1 h0 n0 O0 (F_0) (F_1) (g_4) (F_2) (F_3)) e0 (hb hby d_8) 0 #[rv a1] a1 [] [] pd_16 (by decide) rfl rfl rfl (Nat.le_of_eq rfl)
  obtain ⟨rfl, N1q, K1, F1_0, F1_1, F1_2⟩ := hQ1
  have N2 := Fr.app N0 N1q
  have O3 := O0.keep K1 (allS g_4 all0)
  have K4 : Keep h0 T1.heap [a1] := Keep.trans (Keep.refl h0 [a1]) K1 (allS (Or.inl (List.mem_of_getElem? (i := 0) rfl)) all0)
  obtain ⟨T5, X5, e5, st5⟩ := getS2 X1 hx hZ hown (host := "") (Or.inl (W 33 rfl)) Via.refl rfl (S_5.ext O3.2) (g := (mkF m 5 #[rv a1] [(.ref a1)])) rfl (hb hby d_23)
  have f7 := (F_0.keep K1)
  obtain ⟨T6, h6, X6, e6, W6, st6⟩ := putF X5 hx hZ hown (host := "") (Or.inl (W 34 rfl)) Via.refl e5 F1_1 f7 (Or.inl (W 35 rfl)) (W 11 rfl) (ty := (.array (.object "java/lang/Object"))) (by decide) rfl rfl (g := (mkF m 8 #[rv a1] [(.ref a2), (.ref a1)])) rfl rfl (hb hby d_24)
  have O8 := O3.wr W6 g_4
  have K9 : Keep h0 h6 [a1] := Keep.wr K4 W6 (Or.inl (List.mem_of_getElem? (i := 0) rfl))
  have f10 : FA36 Z h6 a1 (.ref a2) := (F1_1.same W6)
  have N11 := Fr.snoc X6 N2 g_4
  have f12 := (F1_0.other W6 (Or.inr (slot_ne (Or.inl (W 32 rfl)) (Or.inl (W 35 rfl)) (by decide) (t := .int) (t' := (.array (.object "java/lang/Object"))) (by decide) (by decide))))
  have f13 := (F1_2.other W6 (Or.inr (slot_ne (Or.inl (W 149 rfl)) (Or.inl (W 35 rfl)) (by decide) (t := .int) (t' := (.array (.object "java/lang/Object"))) (by decide) (by decide))))
  refine ⟨T6, none, _, _, _, X6, by decide, by decide, (fun _ => rfl), ?_, fun fs hr => castTop (ef_14 m a1) ?_⟩
  · show Q4_init Z a1 a2 h0 n0 _ T6.heap _
    rw [e6]
    exact ⟨rfl, N11, K9, f12, f10, f13⟩
  · show SS p e below s₁ m 0 #[rv a1] [] _
    refine XS.aloadN X0.here hx rfl (hb hby d_7) rfl rfl ?_
    show SS p e below s₁ m 1 #[rv a1] [(.ref a1)] _
    refine st1 _ ?_
    show SS p e below T1 m 4 #[rv a1] [] _
    refine XS.aloadN X1.here hx rfl (hb hby d_22) rfl rfl ?_
    show SS p e below T1 m 5 #[rv a1] [(.ref a1)] _
    refine st5 _ ?_
    show SS p e below T5 m 8 #[rv a1] [(.ref a2), (.ref a1)] _
    refine st6 _ ?_
    show SS p e below T6 m 11 #[rv a1] [] _
    exact X6.returnOut hx hret (hb hby d_25) hr
theorem d_27 : decode prog_65_method_1_code 0 = .ok (.aload_n 0, 1) := by decide +kernel
theorem d_28 : decode prog_65_method_1_code 1 = .ok (.invokespecial 1, 3) := by decide +kernel
theorem d_29 : decode prog_65_method_1_code 4 = .ok (.aload_n 0, 1) := by decide +kernel
theorem d_30 : decode prog_65_method_1_code 5 = .ok (.new 7, 3) := by decide +kernel
theorem d_31 : decode prog_65_method_1_code 8 = .ok (.dup, 1) := by decide +kernel
theorem d_32 : decode prog_65_method_1_code 9 = .ok (.invokespecial 9, 3) := by decide +kernel
theorem d_33 : decode jdk_67_method_1_code 0 = .ok (.aload_n 0, 1) := by decide +kernel
theorem d_34 : decode jdk_67_method_1_code 1 = .ok (.bipush 16, 2) := by decide +kernel
theorem d_35 : decode jdk_67_method_1_code 3 = .ok (.invokespecial 1, 3) := by decide +kernel
theorem d_36 : decode jdk_68_method_2_code 0 = .ok (.aload_n 0, 1) := by decide +kernel
theorem d_37 : decode jdk_68_method_2_code 1 = .ok (.invokespecial 3, 3) := by decide +kernel
theorem d_38 : decode jdk_68_method_2_code 4 = .ok (.getstatic 18, 3) := by decide +kernel
theorem d_39 : decode jdk_68_method_2_code 7 = .ok (.ifCond .eq 18, 3) := by decide +kernel
theorem d_40 : decode jdk_68_method_2_code 10 = .ok (.aload_n 0, 1) := by decide +kernel
theorem d_41 : decode jdk_68_method_2_code 11 = .ok (.iload_n 1, 1) := by decide +kernel
theorem d_42 : decode jdk_68_method_2_code 12 = .ok (.newarray .byte, 2) := by decide +kernel
theorem d_43 : decode jdk_68_method_2_code 14 = .ok (.putfield 15, 3) := by decide +kernel
theorem d_44 : decode jdk_68_method_2_code 17 = .ok (.aload_n 0, 1) := by decide +kernel
theorem d_45 : decode jdk_68_method_2_code 18 = .ok (.iconst 0, 1) := by decide +kernel
theorem d_46 : decode jdk_68_method_2_code 19 = .ok (.putfield 22, 3) := by decide +kernel
theorem d_47 : decode jdk_68_method_2_code 22 = .ok (.goto 16, 3) := by decide +kernel
theorem d_48 : decode jdk_68_method_2_code 38 = .ok (.return_, 1) := by decide +kernel
theorem ef_49 (m : MethodId) (a1 : Addr) : entryFrame m #[(.ref a1), (.int (16 : Int32))] 2 = mkF m 0 #[rv a1, iv (16 : Int32)] [] := by first | (simp [entryFrame, mkF, argsToLocals, Value.category]; done) | rfl
theorem pn_50 : plainName "java/lang/AbstractStringBuilder" = true := by first | (simp [plainName, overriddenIn]; done) | decide +kernel
-- java/lang/AbstractStringBuilder.<init>(I)V
def Q5_init (Z : State) (a1 : Addr) (p2 : Int32) (h0 : Heap) (n0 : Nat) (v : Option Value) (h : Heap) (L : List Loc) : Prop := ∃ (b3 : Addr) (k3 : ClassId), v = none ∧ Fr n0 L ∧ Keep h0 h [a1] ∧ h0.size ≤ b3 ∧ Arv Z h b3 k3 .byte (16 : Int32) [(.int (0 : Int32)), (.int (0 : Int32)), (.int (0 : Int32)), (.int (0 : Int32)), (.int (0 : Int32)), (.int (0 : Int32)), (.int (0 : Int32)), (.int (0 : Int32)), (.int (0 : Int32)), (.int (0 : Int32)), (.int (0 : Int32)), (.int (0 : Int32)), (.int (0 : Int32)), (.int (0 : Int32)), (.int (0 : Int32)), (.int (0 : Int32))] (.int (0 : Int32)) ∧ EA58 Z h b3 ∧ FA38 Z h a1 (.ref b3) ∧ FA39 Z h a1 (.int (0 : Int32)) ∧ FA40 Z h a1 (.int (0 : Int32))
set_option maxRecDepth 65536 in
set_option maxHeartbeats 40000000 in
theorem rm5_init (l : Launch) (Z : State) (a0 : Array Value) (hw : HW Z a0) (a1 : Addr) (p2 : Int32) (h0 : Heap) (n0 : Nat) (O0 : Old Z n0 h0) (S_0 : SA71 Z Z.heap (.int p2)) (hc_1 : ¬ (p2 = (0 : Int32))) (F_2 : EA59 Z h0 a1) (F_3 : FA38 Z h0 a1 .null) (g_4 : n0 ≤ a1) (F_5 : FA39 Z h0 a1 (.int (0 : Int32))) (F_6 : FA40 Z h0 a1 (.int (0 : Int32))) (lt_7 : a1 < h0.size) :
    Met l Z [] Y4 jdk_68_method_2_code 2 none ({ frames := 1, cells := 1, slots := 16, locals := 12 } : Room) #[(.ref a1), (.int (16 : Int32))] h0 (Q5_init Z a1 p2 h0 n0) := by
  have W := fun (i : Nat) {c : Jvm.Cond} (q : tables_1[i]? = some c) => hw c (List.mem_of_getElem? q)
  refine own_mk (plainFor_of_name pn_50) ?_
  intro p e s m below meth c s₁ hZ hx hby hml hown hnm hret hlk X0 e0
  have N0 := Fr.nil n0
  obtain ⟨T1, X1, e1, st1⟩ := initO X0 hx hZ hown (W 52 rfl) (W 29 rfl) (W 30 rfl) e0 (g := (mkF m 1 #[rv a1, iv (16 : Int32)] [(.ref a1)])) rfl (by rw [hml]; rfl) rfl (hb hby d_37) (by decide) (W := 0) (by show 2 * 0 + _ ≤ _; exact Nat.le_of_eq rfl) (by decide)
  obtain ⟨T2, X2, e2, st2⟩ := getS2 X1 hx hZ hown (host := "") (Or.inl (W 53 rfl)) Via.refl e1 (S_0.ext O0.2) (g := (mkF m 4 #[rv a1, iv (16 : Int32)] [])) rfl (hb hby d_38)
  obtain ⟨T3, h3, k3, X3, e3, E3, A3, B3, st3⟩ := newPE X2 hx hZ (W 55 rfl) e2 (g := (mkF m 12 #[rv a1, iv (16 : Int32)] [(.int (16 : Int32)), (.ref a1)])) rfl (hb hby d_42) rfl (by decide) (cap := 16) (by decide) (by decide) (by decide) (by decide) (ad := "[B") rfl
  obtain ⟨b3, g3⟩ : ∃ z, z = h0.size := ⟨_, rfl⟩
  rw [← g3] at A3 B3 st3
  have O4 := O0.ext E3
  have K5 : Keep h0 h3 [a1] := Keep.ext (Keep.refl h0 [a1]) E3
  have v6 : Arv Z h3 b3 k3 .byte (16 : Int32) [(.int (0 : Int32)), (.int (0 : Int32)), (.int (0 : Int32)), (.int (0 : Int32)), (.int (0 : Int32)), (.int (0 : Int32)), (.int (0 : Int32)), (.int (0 : Int32)), (.int (0 : Int32)), (.int (0 : Int32)), (.int (0 : Int32)), (.int (0 : Int32)), (.int (0 : Int32)), (.int (0 : Int32)), (.int (0 : Int32)), (.int (0 : Int32))] (.int (0 : Int32)) := (Arv.new A3 (by decide)).pad (pad_rep [] (.int (0 : Int32)) 16)
  have f8 := (F_3.ext E3)
  have f9 := (F_2.ext E3)
  obtain ⟨T7, h7, X7, e7, W7, st7⟩ := putF X3 hx hZ hown (host := "") (Or.inl (W 56 rfl)) Via.refl e3 f8 f9 (Or.inl (W 57 rfl)) (W 41 rfl) (ty := (.array .byte)) (by decide) rfl rfl (g := (mkF m 14 #[rv a1, iv (16 : Int32)] [(.ref b3), (.ref a1)])) rfl rfl (hb hby d_43)
  have O10 := O4.wr W7 g_4
  have K11 : Keep h0 h7 [a1] := Keep.wr K5 W7 (Or.inl (List.mem_of_getElem? (i := 0) rfl))
  have f12 : FA38 Z h7 a1 (.ref b3) := (f8.same W7)
  have N13 := Fr.snoc X7 N0 g_4
  have f15 := ((F_5.ext E3).other W7 (Or.inr (slot_ne (Or.inl (W 59 rfl)) (Or.inl (W 57 rfl)) (by decide) (t := .byte) (t' := (.array .byte)) (by decide) (by decide))))
  have f16 := (f9.wr W7)
  obtain ⟨T14, h14, X14, e14, W14, st14⟩ := putFN X7 hx hZ hown (W 58 rfl) Via.refl e7 f15 f16 (Or.inl (W 59 rfl)) (W 41 rfl) (ty := .byte) (v' := (.int (0 : Int32))) (by decide) rfl rfl (g := (mkF m 19 #[rv a1, iv (16 : Int32)] [(.int (0 : Int32)), (.ref a1)])) rfl rfl (hb hby d_46)
  have O17 := O10.wr W14 g_4
  have K18 : Keep h0 h14 [a1] := Keep.wr K11 W14 (Or.inl (List.mem_of_getElem? (i := 0) rfl))
  have f19 : FA39 Z h14 a1 (.int (0 : Int32)) := (f15.same W14)
  have N20 := Fr.snoc X14 N13 g_4
  have f21 := ((v6.other W7 (Ne.symm (Nat.ne_of_lt (Nat.lt_of_lt_of_le lt_7 (Nat.le_of_eq g3.symm))))).other W14 (Ne.symm (Nat.ne_of_lt (Nat.lt_of_lt_of_le lt_7 (Nat.le_of_eq g3.symm)))))
  have f22 := ((B3.wr W7).wr W14)
  have f23 := (f12.other W14 (Or.inr (slot_ne (Or.inl (W 57 rfl)) (Or.inl (W 59 rfl)) (by decide) (t := (.array .byte)) (t' := .byte) (by decide) (by decide))))
  have f24 := (((F_6.ext E3).other W7 (Or.inr (slot_ne (Or.inl (W 210 rfl)) (Or.inl (W 57 rfl)) (by decide) (t := .int) (t' := (.array .byte)) (by decide) (by decide)))).other W14 (Or.inr (slot_ne (Or.inl (W 210 rfl)) (Or.inl (W 59 rfl)) (by decide) (t := .int) (t' := .byte) (by decide) (by decide))))
  refine ⟨T14, none, _, _, _, X14, by decide, by decide, (fun _ => rfl), ?_, fun fs hr => castTop (ef_49 m a1) ?_⟩
  · show Q5_init Z a1 p2 h0 n0 _ T14.heap _
    rw [e14]
    exact ⟨b3, k3, rfl, N20, K18, (Nat.le_of_eq g3.symm), f21, f22, f23, f19, f24⟩
  · show SS p e below s₁ m 0 #[rv a1, iv (16 : Int32)] [] _
    refine XS.aloadN X0.here hx rfl (hb hby d_36) rfl rfl ?_
    show SS p e below s₁ m 1 #[rv a1, iv (16 : Int32)] [(.ref a1)] _
    refine st1 _ ?_
    show SS p e below T1 m 4 #[rv a1, iv (16 : Int32)] [] _
    refine st2 _ ?_
    show SS p e below T2 m 7 #[rv a1, iv (16 : Int32)] [(.int p2)] _
    refine XS.ifNo X2.here hx rfl (hb hby d_39) rfl ((if0 _ _).trans (feq hc_1).1) ?_
    show SS p e below T2 m 10 #[rv a1, iv (16 : Int32)] [] _
    refine XS.aloadN X2.here hx rfl (hb hby d_40) rfl rfl ?_
    refine XS.iloadN X2.here hx rfl (hb hby d_41) rfl ?_
    show SS p e below T2 m 12 #[rv a1, iv (16 : Int32)] [(.int (16 : Int32)), (.ref a1)] _
    refine st3 _ ?_
    show SS p e below T3 m 14 #[rv a1, iv (16 : Int32)] [(.ref b3), (.ref a1)] _
    refine st7 _ ?_
    show SS p e below T7 m 17 #[rv a1, iv (16 : Int32)] [] _
    refine XS.aloadN X7.here hx rfl (hb hby d_44) rfl rfl ?_
    refine XS.iconst X7.here hx rfl (hb hby d_45) ?_
    show SS p e below T7 m 19 #[rv a1, iv (16 : Int32)] [(.int (0 : Int32)), (.ref a1)] _
    refine st14 _ ?_
    show SS p e below T14 m 22 #[rv a1, iv (16 : Int32)] [] _
    refine XS.goto X14.here hx rfl (pc0 := 22) (pc' := 38) rfl (hb hby d_47) (by decide) (by decide) ?_
    show SS p e below T14 m 38 #[rv a1, iv (16 : Int32)] [] _
    exact X14.returnOut hx hret (hb hby d_48) hr
theorem pd_51 : parseMethodDescriptor "(I)V" = some ⟨[.int], none⟩ := by decide +kernel
theorem d_52 : decode jdk_67_method_1_code 6 = .ok (.return_, 1) := by decide +kernel
theorem pn_53 : plainName "java/lang/StringBuilder" = true := by first | (simp [plainName, overriddenIn]; done) | decide +kernel
-- java/lang/StringBuilder.<init>()V
def Q6_init (Z : State) (a1 : Addr) (p2 : Int32) (h0 : Heap) (n0 : Nat) (v : Option Value) (h : Heap) (L : List Loc) : Prop := ∃ (b1_b3 : Addr) (k1_k3 : ClassId), v = none ∧ Fr n0 L ∧ Keep h0 h [a1] ∧ h0.size ≤ b1_b3 ∧ Arv Z h b1_b3 k1_k3 .byte (16 : Int32) [(.int (0 : Int32)), (.int (0 : Int32)), (.int (0 : Int32)), (.int (0 : Int32)), (.int (0 : Int32)), (.int (0 : Int32)), (.int (0 : Int32)), (.int (0 : Int32)), (.int (0 : Int32)), (.int (0 : Int32)), (.int (0 : Int32)), (.int (0 : Int32)), (.int (0 : Int32)), (.int (0 : Int32)), (.int (0 : Int32)), (.int (0 : Int32))] (.int (0 : Int32)) ∧ EA58 Z h b1_b3 ∧ FA38 Z h a1 (.ref b1_b3) ∧ FA39 Z h a1 (.int (0 : Int32)) ∧ FA40 Z h a1 (.int (0 : Int32))
set_option maxRecDepth 65536 in
set_option maxHeartbeats 40000000 in
theorem rm6_init (l : Launch) (Z : State) (a0 : Array Value) (hw : HW Z a0) (a1 : Addr) (p2 : Int32) (h0 : Heap) (n0 : Nat) (O0 : Old Z n0 h0) (S_0 : SA71 Z Z.heap (.int p2)) (hc_1 : ¬ (p2 = (0 : Int32))) (F_2 : EA59 Z h0 a1) (F_3 : FA38 Z h0 a1 .null) (F_4 : FA39 Z h0 a1 (.int (0 : Int32))) (F_5 : FA40 Z h0 a1 (.int (0 : Int32))) (g_6 : n0 ≤ a1) (lt_7 : a1 < h0.size) :
    Met l Z [] Y5 jdk_67_method_1_code 1 none ({ frames := 2, cells := 1, slots := 16, locals := 25 } : Room) #[(.ref a1)] h0 (Q6_init Z a1 p2 h0 n0) := by
  have W := fun (i : Nat) {c : Jvm.Cond} (q : tables_1[i]? = some c) => hw c (List.mem_of_getElem? q)
  refine own_mk (plainFor_of_name pn_53) ?_
  intro p e s m below meth c s₁ hZ hx hby hml hown hnm hret hlk X0 e0
  have N0 := Fr.nil n0
  obtain ⟨_, T1, L1, X1, hQ1, st1⟩ := own_cp X0 hx hZ hown hml rfl (W 46 rfl) (W 47 rfl) (W 50 rfl) (W 51 rfl) (rm5_init l Z a0 hw a1 p2 h0 n0 O0 (S_0) (hc_1) (F_2) (F_3) (g_6) (F_4) (F_5) (lt_7)) e0 (hb hby d_35) 0 #[rv a1] a1 [(.int (16 : Int32))] [] pd_51 (by decide) rfl rfl rfl (Nat.le_of_eq rfl)
  obtain ⟨b1_b3, k1_k3, rfl, N1q, K1, gb1_0, F1_0, F1_1, F1_2, F1_3, F1_4⟩ := hQ1
  have N2 := Fr.app N0 N1q
  have O3 := O0.keep K1 (allS g_6 all0)
  have K4 : Keep h0 T1.heap [a1] := Keep.trans (Keep.refl h0 [a1]) K1 (allS (Or.inl (List.mem_of_getElem? (i := 0) rfl)) all0)
  refine ⟨T1, none, _, _, _, X1, by decide, by decide, (fun _ => rfl), ?_, fun fs hr => castTop (ef_14 m a1) ?_⟩
  · show Q6_init Z a1 p2 h0 n0 _ T1.heap _
    exact ⟨b1_b3, k1_k3, rfl, N2, K4, gb1_0, F1_0, F1_1, F1_2, F1_3, F1_4⟩
  · show SS p e below s₁ m 0 #[rv a1] [] _
    refine XS.aloadN X0.here hx rfl (hb hby d_33) rfl rfl ?_
    refine XS.bipush X0.here hx rfl (hb hby d_34) ?_
    show SS p e below s₁ m 3 #[rv a1] [(.int (16 : Int32)), (.ref a1)] _
    refine st1 _ ?_
    show SS p e below T1 m 6 #[rv a1] [] _
    exact X1.returnOut hx hret (hb hby d_52) hr
theorem d_54 : decode prog_65_method_1_code 12 = .ok (.putfield 10, 3) := by decide +kernel
theorem d_55 : decode prog_65_method_1_code 15 = .ok (.aload_n 0, 1) := by decide +kernel
theorem d_56 : decode prog_65_method_1_code 16 = .ok (.new 16, 3) := by decide +kernel
theorem d_57 : decode prog_65_method_1_code 19 = .ok (.dup, 1) := by decide +kernel
theorem d_58 : decode prog_65_method_1_code 20 = .ok (.invokespecial 18, 3) := by decide +kernel
theorem d_59 : decode jdk_93_method_1_code 0 = .ok (.aload_n 0, 1) := by decide +kernel
theorem d_60 : decode jdk_93_method_1_code 1 = .ok (.invokespecial 1, 3) := by decide +kernel
theorem d_61 : decode jdk_91_method_1_code 0 = .ok (.aload_n 0, 1) := by decide +kernel
theorem d_62 : decode jdk_91_method_1_code 1 = .ok (.invokespecial 1, 3) := by decide +kernel
theorem d_63 : decode jdk_91_method_1_code 4 = .ok (.return_, 1) := by decide +kernel
theorem pn_64 : plainName "java/util/AbstractSet" = true := by first | (simp [plainName, overriddenIn]; done) | decide +kernel
-- java/util/AbstractSet.<init>()V
def Q7_init (Z : State) (a1 : Addr) (h0 : Heap) (n0 : Nat) (v : Option Value) (h : Heap) (L : List Loc) : Prop := v = none ∧ Fr n0 L ∧ h = h0
set_option maxRecDepth 65536 in
set_option maxHeartbeats 40000000 in
theorem rm7_init (l : Launch) (Z : State) (a0 : Array Value) (hw : HW Z a0) (a1 : Addr) (h0 : Heap) (n0 : Nat) (O0 : Old Z n0 h0)  :
    Met l Z [] Y6 jdk_91_method_1_code 1 none ({ frames := 2, cells := 0, slots := 0, locals := 24 } : Room) #[(.ref a1)] h0 (Q7_init Z a1 h0 n0) := by
  have W := fun (i : Nat) {c : Jvm.Cond} (q : tables_1[i]? = some c) => hw c (List.mem_of_getElem? q)
  refine own_mk (plainFor_of_name pn_64) ?_
  intro p e s m below meth c s₁ hZ hx hby hml hown hnm hret hlk X0 e0
  have N0 := Fr.nil n0
  obtain ⟨_, T1, L1, X1, hQ1, st1⟩ := own_cp X0 hx hZ hown hml rfl (W 74 rfl) (W 23 rfl) (W 26 rfl) (W 27 rfl) (rm2_init l Z a0 hw a1 h0 n0 O0 ) e0 (hb hby d_62) 0 #[rv a1] a1 [] [] pd_16 (by decide) rfl rfl rfl (Nat.le_of_eq rfl)
  obtain ⟨rfl, N1q, K1⟩ := hQ1
  have N2 := Fr.app N0 N1q
  refine ⟨T1, none, _, _, _, X1, by decide, by decide, (fun _ => rfl), ?_, fun fs hr => castTop (ef_14 m a1) ?_⟩
  · show Q7_init Z a1 h0 n0 _ T1.heap _
    rw [K1]
    exact ⟨rfl, N2, rfl⟩
  · show SS p e below s₁ m 0 #[rv a1] [] _
    refine XS.aloadN X0.here hx rfl (hb hby d_61) rfl rfl ?_
    show SS p e below s₁ m 1 #[rv a1] [(.ref a1)] _
    refine st1 _ ?_
    show SS p e below T1 m 4 #[rv a1] [] _
    exact X1.returnOut hx hret (hb hby d_63) hr
theorem d_65 : decode jdk_93_method_1_code 4 = .ok (.aload_n 0, 1) := by decide +kernel
theorem d_66 : decode jdk_93_method_1_code 5 = .ok (.new 7, 3) := by decide +kernel
theorem d_67 : decode jdk_93_method_1_code 8 = .ok (.dup, 1) := by decide +kernel
theorem d_68 : decode jdk_93_method_1_code 9 = .ok (.invokespecial 9, 3) := by decide +kernel
theorem d_69 : decode jdk_69_method_7_code 0 = .ok (.aload_n 0, 1) := by decide +kernel
theorem d_70 : decode jdk_69_method_7_code 1 = .ok (.invokespecial 43, 3) := by decide +kernel
theorem d_71 : decode jdk_71_method_1_code 0 = .ok (.aload_n 0, 1) := by decide +kernel
theorem d_72 : decode jdk_71_method_1_code 1 = .ok (.invokespecial 1, 3) := by decide +kernel
theorem d_73 : decode jdk_71_method_1_code 4 = .ok (.return_, 1) := by decide +kernel
theorem pn_74 : plainName "java/util/AbstractMap" = true := by first | (simp [plainName, overriddenIn]; done) | decide +kernel
-- java/util/AbstractMap.<init>()V
def Q8_init (Z : State) (a1 : Addr) (h0 : Heap) (n0 : Nat) (v : Option Value) (h : Heap) (L : List Loc) : Prop := v = none ∧ Fr n0 L ∧ h = h0
set_option maxRecDepth 65536 in
set_option maxHeartbeats 40000000 in
theorem rm8_init (l : Launch) (Z : State) (a0 : Array Value) (hw : HW Z a0) (a1 : Addr) (h0 : Heap) (n0 : Nat) (O0 : Old Z n0 h0)  :
    Met l Z [] Y7 jdk_71_method_1_code 1 none ({ frames := 1, cells := 0, slots := 0, locals := 12 } : Room) #[(.ref a1)] h0 (Q8_init Z a1 h0 n0) := by
  have W := fun (i : Nat) {c : Jvm.Cond} (q : tables_1[i]? = some c) => hw c (List.mem_of_getElem? q)
  refine own_mk (plainFor_of_name pn_74) ?_
  intro p e s m below meth c s₁ hZ hx hby hml hown hnm hret hlk X0 e0
  have N0 := Fr.nil n0
  obtain ⟨T1, X1, e1, st1⟩ := initO X0 hx hZ hown (W 89 rfl) (W 29 rfl) (W 30 rfl) e0 (g := (mkF m 1 #[rv a1] [(.ref a1)])) rfl (by rw [hml]; rfl) rfl (hb hby d_72) (by decide) (W := 0) (by show 2 * 0 + _ ≤ _; exact Nat.le_of_eq rfl) (by decide)
  refine ⟨T1, none, _, _, _, X1, by decide, by decide, (fun _ => rfl), ?_, fun fs hr => castTop (ef_14 m a1) ?_⟩
  · show Q8_init Z a1 h0 n0 _ T1.heap _
    rw [e1]
    exact ⟨rfl, N0, rfl⟩
  · show SS p e below s₁ m 0 #[rv a1] [] _
    refine XS.aloadN X0.here hx rfl (hb hby d_71) rfl rfl ?_
    show SS p e below s₁ m 1 #[rv a1] [(.ref a1)] _
    refine st1 _ ?_
    show SS p e below T1 m 4 #[rv a1] [] _
    exact X1.returnOut hx hret (hb hby d_73) hr
theorem d_75 : decode jdk_69_method_7_code 4 = .ok (.aload_n 0, 1) := by decide +kernel
theorem d_76 : decode jdk_69_method_7_code 5 = .ok (.ldc 92, 2) := by decide +kernel
theorem d_77 : decode jdk_69_method_7_code 7 = .ok (.putfield 81, 3) := by decide +kernel
theorem d_78 : decode jdk_69_method_7_code 10 = .ok (.return_, 1) := by decide +kernel
theorem pn_79 : plainName "java/util/HashMap" = true := by first | (simp [plainName, overriddenIn]; done) | decide +kernel
-- java/util/HashMap.<init>()V
def Q9_init (Z : State) (a1 : Addr) (h0 : Heap) (n0 : Nat) (v : Option Value) (h : Heap) (L : List Loc) : Prop := v = none ∧ Fr n0 L ∧ Keep h0 h [a1] ∧ FA41 Z h a1 (.float (1061158912 : UInt32))
set_option maxRecDepth 65536 in
set_option maxHeartbeats 40000000 in
theorem rm9_init (l : Launch) (Z : State) (a0 : Array Value) (hw : HW Z a0) (a1 : Addr) (h0 : Heap) (n0 : Nat) (O0 : Old Z n0 h0) (F_0 : EA60 Z h0 a1) (F_1 : FA41 Z h0 a1 (.float (0 : UInt32))) (g_2 : n0 ≤ a1) :
    Met l Z [] Y8 jdk_69_method_7_code 1 none ({ frames := 2, cells := 0, slots := 0, locals := 24 } : Room) #[(.ref a1)] h0 (Q9_init Z a1 h0 n0) := by
  have W := fun (i : Nat) {c : Jvm.Cond} (q : tables_1[i]? = some c) => hw c (List.mem_of_getElem? q)
  refine own_mk (plainFor_of_name pn_79) ?_
  intro p e s m below meth c s₁ hZ hx hby hml hown hnm hret hlk X0 e0
  have N0 := Fr.nil n0
  obtain ⟨_, T1, L1, X1, hQ1, st1⟩ := own_cp X0 hx hZ hown hml rfl (W 83 rfl) (W 84 rfl) (W 87 rfl) (W 88 rfl) (rm8_init l Z a0 hw a1 h0 n0 O0 ) e0 (hb hby d_70) 0 #[rv a1] a1 [] [] pd_16 (by decide) rfl rfl rfl (Nat.le_of_eq rfl)
  obtain ⟨rfl, N1q, K1⟩ := hQ1
  have N2 := Fr.app N0 N1q
  obtain ⟨T3, h3, X3, e3, W3, st3⟩ := putF X1 hx hZ hown (host := "") (Or.inl (W 91 rfl)) Via.refl K1 F_1 F_0 (Or.inr ⟨(W 92 rfl), rfl, hnm⟩) (W 77 rfl) (ty := .float) (by decide) rfl rfl (g := (mkF m 7 #[rv a1] [(.float (1061158912 : UInt32)), (.ref a1)])) rfl rfl (hb hby d_77)
  have O4 := O0.wr W3 g_2
  have K5 : Keep h0 h3 [a1] := Keep.wr (Keep.refl h0 [a1]) W3 (Or.inl (List.mem_of_getElem? (i := 0) rfl))
  have f6 : FA41 Z h3 a1 (.float (1061158912 : UInt32)) := (F_1.same W3)
  have N7 := Fr.snoc X3 N2 g_2
  refine ⟨T3, none, _, _, _, X3, by decide, by decide, (fun _ => rfl), ?_, fun fs hr => castTop (ef_14 m a1) ?_⟩
  · show Q9_init Z a1 h0 n0 _ T3.heap _
    rw [e3]
    exact ⟨rfl, N7, K5, f6⟩
  · show SS p e below s₁ m 0 #[rv a1] [] _
    refine XS.aloadN X0.here hx rfl (hb hby d_69) rfl rfl ?_
    show SS p e below s₁ m 1 #[rv a1] [(.ref a1)] _
    refine st1 _ ?_
    show SS p e below T1 m 4 #[rv a1] [] _
    refine XS.aloadN X1.here hx rfl (hb hby d_75) rfl rfl ?_
    show SS p e below T1 m 5 #[rv a1] [(.ref a1)] _
    refine X1.ldcFloatC hx hown (mvT hZ (W 90 rfl)) (g := (mkF m 5 #[rv a1] [(.ref a1)])) rfl (hb hby d_76) _ ?_
    show SS p e below T1 m 7 #[rv a1] [(.float (1061158912 : UInt32)), (.ref a1)] _
    refine st3 _ ?_
    show SS p e below T3 m 10 #[rv a1] [] _
    exact X3.returnOut hx hret (hb hby d_78) hr
theorem d_80 : decode jdk_93_method_1_code 12 = .ok (.putfield 10, 3) := by decide +kernel
theorem d_81 : decode jdk_93_method_1_code 15 = .ok (.return_, 1) := by decide +kernel
theorem pn_82 : plainName "java/util/HashSet" = true := by first | (simp [plainName, overriddenIn]; done) | decide +kernel
-- java/util/HashSet.<init>()V
def Q10_init (Z : State) (a1 : Addr) (h0 : Heap) (n0 : Nat) (v : Option Value) (h : Heap) (L : List Loc) : Prop := ∃ (b3 : Addr), v = none ∧ Fr n0 L ∧ Keep h0 h [a1] ∧ h0.size ≤ b3 ∧ EA60 Z h b3 ∧ FA41 Z h b3 (.float (1061158912 : UInt32)) ∧ FA42 Z h a1 (.ref b3)
set_option maxRecDepth 65536 in
set_option maxHeartbeats 40000000 in
theorem rm10_init (l : Launch) (Z : State) (a0 : Array Value) (hw : HW Z a0) (a1 : Addr) (h0 : Heap) (n0 : Nat) (O0 : Old Z n0 h0) (F_0 : EA61 Z h0 a1) (F_1 : FA42 Z h0 a1 .null) (lt_2 : a1 < h0.size) (g_3 : n0 ≤ a1) :
    Met l Z [] Y9 jdk_93_method_1_code 1 none ({ frames := 3, cells := 1, slots := 8, locals := 38 } : Room) #[(.ref a1)] h0 (Q10_init Z a1 h0 n0) := by
  have W := fun (i : Nat) {c : Jvm.Cond} (q : tables_1[i]? = some c) => hw c (List.mem_of_getElem? q)
  refine own_mk (plainFor_of_name pn_82) ?_
  intro p e s m below meth c s₁ hZ hx hby hml hown hnm hret hlk X0 e0
  have N0 := Fr.nil n0
  obtain ⟨_, T1, L1, X1, hQ1, st1⟩ := own_cp X0 hx hZ hown hml rfl (W 68 rfl) (W 69 rfl) (W 72 rfl) (W 73 rfl) (rm7_init l Z a0 hw a1 h0 n0 O0 ) e0 (hb hby d_60) 0 #[rv a1] a1 [] [] pd_16 (by decide) rfl rfl rfl (Nat.le_of_eq rfl)
  obtain ⟨rfl, N1q, K1⟩ := hQ1
  have N2 := Fr.app N0 N1q
  obtain ⟨T3, h3, X3, e3, E3, A3, D3, -, st3⟩ := newO X1 hx hZ hown (W 76 rfl) (W 77 rfl) (W 78 rfl) K1 (g := (mkF m 5 #[rv a1] [(.ref a1)])) rfl (hb hby d_66) (by decide) (by decide)
  obtain ⟨b3, g3⟩ : ∃ z, z = h0.size := ⟨_, rfl⟩
  rw [← g3] at A3 D3 st3
  have O4 := O0.ext E3
  have K5 : Keep h0 h3 [a1] := Keep.ext (Keep.refl h0 [a1]) E3
  have g7 : n0 ≤ b3 := Nat.le_trans (Nat.le_trans (Nat.le_of_eq O0.1.symm) O0.2.1) (Nat.le_of_eq g3.symm)
  obtain ⟨_, T6, L6, X6, hQ6, st6⟩ := own_cp X3 hx hZ hown hml rfl (W 79 rfl) (W 80 rfl) (W 78 rfl) (W 82 rfl) (rm9_init l Z a0 hw b3 h3 n0 O4 (A3) ((D3 (Or.inr (W 92 rfl)) (ty := .float) (by decide) : FA41 Z h3 b3 (.float (0 : UInt32)))) (g7)) e3 (hb hby d_68) 2 #[rv a1] b3 [] [(.ref b3), (.ref a1)] pd_16 (by decide) rfl rfl rfl (Nat.le_of_eq rfl)
  obtain ⟨rfl, N6q, K6, F6_0⟩ := hQ6
  have N8 := Fr.app N2 N6q
  have O9 := O4.keep K6 (allS g7 all0)
  have K10 : Keep h0 T6.heap [a1] := Keep.trans K5 K6 (allS (Or.inr (Nat.le_of_eq g3.symm)) all0)
  have f12 := ((F_1.ext E3).keep K6 (ninS (Nat.ne_of_lt (Nat.lt_of_lt_of_le lt_2 (Nat.le_of_eq g3.symm))) nin0))
  have f13 := ((F_0.ext E3).keep K6)
  obtain ⟨T11, h11, X11, e11, W11, st11⟩ := putF X6 hx hZ hown (host := "") (Or.inl (W 93 rfl)) Via.refl rfl f12 f13 (Or.inl (W 94 rfl)) (W 63 rfl) (ty := (.object "java/util/HashMap")) (by decide) rfl rfl (g := (mkF m 12 #[rv a1] [(.ref b3), (.ref a1)])) rfl rfl (hb hby d_80)
  have O14 := O9.wr W11 g_3
  have K15 : Keep h0 h11 [a1] := Keep.wr K10 W11 (Or.inl (List.mem_of_getElem? (i := 0) rfl))
  have f16 : FA42 Z h11 a1 (.ref b3) := (f12.same W11)
  have N17 := Fr.snoc X11 N8 g_3
  have f18 := ((A3.keep K6).wr W11)
  have f19 := (F6_0.other W11 (Or.inl (Ne.symm (Nat.ne_of_lt (Nat.lt_of_lt_of_le lt_2 (Nat.le_of_eq g3.symm))))))
  refine ⟨T11, none, _, _, _, X11, by decide, by decide, (fun _ => rfl), ?_, fun fs hr => castTop (ef_14 m a1) ?_⟩
  · show Q10_init Z a1 h0 n0 _ T11.heap _
    rw [e11]
    exact ⟨b3, rfl, N17, K15, (Nat.le_of_eq g3.symm), f18, f19, f16⟩
  · show SS p e below s₁ m 0 #[rv a1] [] _
    refine XS.aloadN X0.here hx rfl (hb hby d_59) rfl rfl ?_
    show SS p e below s₁ m 1 #[rv a1] [(.ref a1)] _
    refine st1 _ ?_
    show SS p e below T1 m 4 #[rv a1] [] _
    refine XS.aloadN X1.here hx rfl (hb hby d_65) rfl rfl ?_
    show SS p e below T1 m 5 #[rv a1] [(.ref a1)] _
    refine st3 _ ?_
    show SS p e below T3 m 8 #[rv a1] [(.ref b3), (.ref a1)] _
    refine XS.dup X3.here hx rfl (hb hby d_67) rfl rfl ?_
    show SS p e below T3 m 9 #[rv a1] [(.ref b3), (.ref b3), (.ref a1)] _
    refine st6 _ ?_
    show SS p e below T6 m 12 #[rv a1] [(.ref b3), (.ref a1)] _
    refine st11 _ ?_
    show SS p e below T11 m 15 #[rv a1] [] _
    exact X11.returnOut hx hret (hb hby d_81) hr
theorem d_83 : decode prog_65_method_1_code 23 = .ok (.putfield 19, 3) := by decide +kernel
theorem d_84 : decode prog_65_method_1_code 26 = .ok (.aload_n 0, 1) := by decide +kernel
theorem d_85 : decode prog_65_method_1_code 27 = .ok (.new 23, 3) := by decide +kernel
theorem d_86 : decode prog_65_method_1_code 30 = .ok (.dup, 1) := by decide +kernel
theorem d_87 : decode prog_65_method_1_code 31 = .ok (.invokespecial 25, 3) := by decide +kernel
theorem d_88 : decode prog_65_method_1_code 34 = .ok (.putfield 26, 3) := by decide +kernel
theorem d_89 : decode prog_65_method_1_code 37 = .ok (.aload_n 0, 1) := by decide +kernel
theorem d_90 : decode prog_65_method_1_code 38 = .ok (.aload_n 2, 1) := by decide +kernel
theorem d_91 : decode prog_65_method_1_code 39 = .ok (.putfield 30, 3) := by decide +kernel
theorem d_92 : decode prog_65_method_1_code 42 = .ok (.aload_n 0, 1) := by decide +kernel
theorem d_93 : decode prog_65_method_1_code 43 = .ok (.getfield 19, 3) := by decide +kernel
theorem d_94 : decode prog_65_method_1_code 46 = .ok (.aload_n 1, 1) := by decide +kernel
theorem d_95 : decode prog_65_method_1_code 47 = .ok (.invokeinterface 34 2, 5) := by decide +kernel
theorem d_96 : decode jdk_22_method_12_code 0 = .ok (.iconst 0, 1) := by decide +kernel
theorem d_97 : decode jdk_22_method_12_code 1 = .ok (.istore_n 2, 1) := by decide +kernel
theorem d_98 : decode jdk_22_method_12_code 2 = .ok (.aload_n 1, 1) := by decide +kernel
theorem d_99 : decode jdk_22_method_12_code 3 = .ok (.invokeinterface 76 1, 5) := by decide +kernel
theorem d_100 : decode jdk_38_method_55_code 0 = .ok (.new 267, 3) := by decide +kernel
theorem d_101 : decode jdk_38_method_55_code 3 = .ok (.dup, 1) := by decide +kernel
theorem d_102 : decode jdk_38_method_55_code 4 = .ok (.aload_n 0, 1) := by decide +kernel
theorem d_103 : decode jdk_38_method_55_code 5 = .ok (.invokespecial 269, 3) := by decide +kernel
theorem d_104 : decode jdk_49_method_1_code 0 = .ok (.aload_n 0, 1) := by decide +kernel
theorem d_105 : decode jdk_49_method_1_code 1 = .ok (.aload_n 1, 1) := by decide +kernel
theorem d_106 : decode jdk_49_method_1_code 2 = .ok (.putfield 1, 3) := by decide +kernel
theorem d_107 : decode jdk_49_method_1_code 5 = .ok (.aload_n 0, 1) := by decide +kernel
theorem d_108 : decode jdk_49_method_1_code 6 = .ok (.invokespecial 7, 3) := by decide +kernel
theorem d_109 : decode jdk_49_method_1_code 9 = .ok (.aload_n 0, 1) := by decide +kernel
theorem d_110 : decode jdk_49_method_1_code 10 = .ok (.iconst (-1), 1) := by decide +kernel
theorem d_111 : decode jdk_49_method_1_code 11 = .ok (.putfield 13, 3) := by decide +kernel
theorem d_112 : decode jdk_49_method_1_code 14 = .ok (.aload_n 0, 1) := by decide +kernel
theorem d_113 : decode jdk_49_method_1_code 15 = .ok (.aload_n 0, 1) := by decide +kernel
theorem d_114 : decode jdk_49_method_1_code 16 = .ok (.getfield 1, 3) := by decide +kernel
theorem d_115 : decode jdk_49_method_1_code 19 = .ok (.getfield 17, 3) := by decide +kernel
theorem d_116 : decode jdk_49_method_1_code 22 = .ok (.putfield 22, 3) := by decide +kernel
theorem d_117 : decode jdk_49_method_1_code 25 = .ok (.return_, 1) := by decide +kernel
theorem ef_118 (m : MethodId) (a1 : Addr) (a2 : Addr) : entryFrame m #[(.ref a1), (.ref a2)] 2 = mkF m 0 #[rv a1, rv a2] [] := by first | (simp [entryFrame, mkF, argsToLocals, Value.category]; done) | rfl
theorem pn_119 : plainName "java/util/ArrayList$Itr" = true := by first | (simp [plainName, overriddenIn]; done) | decide +kernel
-- java/util/ArrayList$Itr.<init>(Ljava/util/ArrayList;)V
def Q11_init (Z : State) (a1 : Addr) (a2 : Addr) (h0 : Heap) (n0 : Nat) (v : Option Value) (h : Heap) (L : List Loc) : Prop := v = none ∧ Fr n0 L ∧ Keep h0 h [a1] ∧ FA43 Z h a1 (.ref a2) ∧ FA44 Z h a1 (.int (-1 : Int32)) ∧ FA45 Z h a1 (.int (0 : Int32)) ∧ FA46 Z h a1 (.int (0 : Int32))
set_option maxRecDepth 65536 in
set_option maxHeartbeats 40000000 in
theorem rm11_init (l : Launch) (Z : State) (a0 : Array Value) (hw : HW Z a0) (a1 : Addr) (a2 : Addr) (h0 : Heap) (n0 : Nat) (O0 : Old Z n0 h0) (F_0 : EA62 Z h0 a1) (F_1 : FA43 Z h0 a1 .null) (g_2 : n0 ≤ a1) (F_3 : FA44 Z h0 a1 (.int (0 : Int32))) (F_4 : FA35 Z h0 a2 (.int (0 : Int32))) (ne_5 : a1 ≠ a2) (F_6 : FA45 Z h0 a1 (.int (0 : Int32))) (F_7 : FA46 Z h0 a1 (.int (0 : Int32))) :
    Met l Z [] Y10 jdk_49_method_1_code 2 none ({ frames := 1, cells := 0, slots := 0, locals := 12 } : Room) #[(.ref a1), (.ref a2)] h0 (Q11_init Z a1 a2 h0 n0) := by
  have W := fun (i : Nat) {c : Jvm.Cond} (q : tables_1[i]? = some c) => hw c (List.mem_of_getElem? q)
  refine own_mk (plainFor_of_name pn_119) ?_
  intro p e s m below meth c s₁ hZ hx hby hml hown hnm hret hlk X0 e0
  have N0 := Fr.nil n0
  obtain ⟨T1, h1, X1, e1, W1, st1⟩ := putF X0 hx hZ hown (host := "") (Or.inl (W 128 rfl)) Via.refl e0 F_1 F_0 (Or.inr ⟨(W 129 rfl), rfl, hnm⟩) (W 122 rfl) (ty := (.object "java/util/ArrayList")) (by decide) rfl rfl (g := (mkF m 2 #[rv a1, rv a2] [(.ref a2), (.ref a1)])) rfl rfl (hb hby d_106)
  have O2 := O0.wr W1 g_2
  have K3 : Keep h0 h1 [a1] := Keep.wr (Keep.refl h0 [a1]) W1 (Or.inl (List.mem_of_getElem? (i := 0) rfl))
  have f4 : FA43 Z h1 a1 (.ref a2) := (F_1.same W1)
  have N5 := Fr.snoc X1 N0 g_2
  obtain ⟨T6, X6, e6, st6⟩ := initO X1 hx hZ hown (W 130 rfl) (W 29 rfl) (W 30 rfl) e1 (g := (mkF m 6 #[rv a1, rv a2] [(.ref a1)])) rfl (by rw [hml]; rfl) rfl (hb hby d_108) (by decide) (W := 0) (by show 2 * 0 + _ ≤ _; exact Nat.le_of_eq rfl) (by decide)
  have f8 := (F_3.other W1 (Or.inr (slot_ne (Or.inl (W 132 rfl)) (Or.inr (W 129 rfl)) (by decide) (t := .int) (t' := (.object "java/util/ArrayList")) (by decide) (by decide))))
  have f9 := (F_0.wr W1)
  obtain ⟨T7, h7, X7, e7, W7, st7⟩ := putF X6 hx hZ hown (host := "") (Or.inl (W 131 rfl)) Via.refl e6 f8 f9 (Or.inl (W 132 rfl)) (W 122 rfl) (ty := .int) (by decide) rfl rfl (g := (mkF m 11 #[rv a1, rv a2] [(.int (-1 : Int32)), (.ref a1)])) rfl rfl (hb hby d_111)
  have O10 := O2.wr W7 g_2
  have K11 : Keep h0 h7 [a1] := Keep.wr K3 W7 (Or.inl (List.mem_of_getElem? (i := 0) rfl))
  have f12 : FA44 Z h7 a1 (.int (-1 : Int32)) := (f8.same W7)
  have N13 := Fr.snoc X7 N5 g_2
  have f15 := (f4.other W7 (Or.inr (slot_ne (Or.inr (W 129 rfl)) (Or.inl (W 132 rfl)) (by decide) (t := (.object "java/util/ArrayList")) (t' := .int) (by decide) (by decide))))
  obtain ⟨T14, X14, e14, st14⟩ := getF X7 hx hZ hown (host := "") (Or.inl (W 128 rfl)) Via.refl e7 f15 (g := (mkF m 16 #[rv a1, rv a2] [(.ref a1), (.ref a1)])) rfl rfl (hb hby d_114)
  have f17 := ((F_4.other W1 (Or.inl (Ne.symm ne_5))).other W7 (Or.inl (Ne.symm ne_5)))
  obtain ⟨T16, X16, e16, st16⟩ := getF X14 hx hZ hown (host := "") (Or.inl (W 133 rfl)) (Via.of (W 134 rfl)) e14 f17 (g := (mkF m 19 #[rv a1, rv a2] [(.ref a2), (.ref a1)])) rfl rfl (hb hby d_115)
  have f19 := ((F_6.other W1 (Or.inr (slot_ne (Or.inl (W 136 rfl)) (Or.inr (W 129 rfl)) (by decide) (t := .int) (t' := (.object "java/util/ArrayList")) (by decide) (by decide)))).other W7 (Or.inr (slot_ne (Or.inl (W 136 rfl)) (Or.inl (W 132 rfl)) (by decide) (t := .int) (t' := .int) (by decide) (by decide))))
  have f20 := (f9.wr W7)
  obtain ⟨T18, h18, X18, e18, W18, st18⟩ := putF X16 hx hZ hown (host := "") (Or.inl (W 135 rfl)) Via.refl e16 f19 f20 (Or.inl (W 136 rfl)) (W 122 rfl) (ty := .int) (by decide) rfl rfl (g := (mkF m 22 #[rv a1, rv a2] [(.int (0 : Int32)), (.ref a1)])) rfl rfl (hb hby d_116)
  have O21 := O10.wr W18 g_2
  have K22 : Keep h0 h18 [a1] := Keep.wr K11 W18 (Or.inl (List.mem_of_getElem? (i := 0) rfl))
  have f23 : FA45 Z h18 a1 (.int (0 : Int32)) := (f19.same W18)
  have N24 := Fr.snoc X18 N13 g_2
  have f25 := (f15.other W18 (Or.inr (slot_ne (Or.inr (W 129 rfl)) (Or.inl (W 136 rfl)) (by decide) (t := (.object "java/util/ArrayList")) (t' := .int) (by decide) (by decide))))
  have f26 := (f12.other W18 (Or.inr (slot_ne (Or.inl (W 132 rfl)) (Or.inl (W 136 rfl)) (by decide) (t := .int) (t' := .int) (by decide) (by decide))))
  have f27 := (((F_7.other W1 (Or.inr (slot_ne (Or.inl (W 147 rfl)) (Or.inr (W 129 rfl)) (by decide) (t := .int) (t' := (.object "java/util/ArrayList")) (by decide) (by decide)))).other W7 (Or.inr (slot_ne (Or.inl (W 147 rfl)) (Or.inl (W 132 rfl)) (by decide) (t := .int) (t' := .int) (by decide) (by decide)))).other W18 (Or.inr (slot_ne (Or.inl (W 147 rfl)) (Or.inl (W 136 rfl)) (by decide) (t := .int) (t' := .int) (by decide) (by decide))))
  refine ⟨T18, none, _, _, _, X18, by decide, by decide, (fun _ => rfl), ?_, fun fs hr => castTop (ef_118 m a1 a2) ?_⟩
  · show Q11_init Z a1 a2 h0 n0 _ T18.heap _
    rw [e18]
    exact ⟨rfl, N24, K22, f25, f26, f23, f27⟩
  · show SS p e below s₁ m 0 #[rv a1, rv a2] [] _
    refine XS.aloadN X0.here hx rfl (hb hby d_104) rfl rfl ?_
    refine XS.aloadN X0.here hx rfl (hb hby d_105) rfl rfl ?_
    show SS p e below s₁ m 2 #[rv a1, rv a2] [(.ref a2), (.ref a1)] _
    refine st1 _ ?_
    show SS p e below T1 m 5 #[rv a1, rv a2] [] _
    refine XS.aloadN X1.here hx rfl (hb hby d_107) rfl rfl ?_
    show SS p e below T1 m 6 #[rv a1, rv a2] [(.ref a1)] _
    refine st6 _ ?_
    show SS p e below T6 m 9 #[rv a1, rv a2] [] _
    refine XS.aloadN X6.here hx rfl (hb hby d_109) rfl rfl ?_
    refine XS.iconst X6.here hx rfl (hb hby d_110) ?_
    show SS p e below T6 m 11 #[rv a1, rv a2] [(.int (-1 : Int32)), (.ref a1)] _
    refine st7 _ ?_
    show SS p e below T7 m 14 #[rv a1, rv a2] [] _
    refine XS.aloadN X7.here hx rfl (hb hby d_112) rfl rfl ?_
    refine XS.aloadN X7.here hx rfl (hb hby d_113) rfl rfl ?_
    show SS p e below T7 m 16 #[rv a1, rv a2] [(.ref a1), (.ref a1)] _
    refine st14 _ ?_
    show SS p e below T14 m 19 #[rv a1, rv a2] [(.ref a2), (.ref a1)] _
    refine st16 _ ?_
    show SS p e below T16 m 22 #[rv a1, rv a2] [(.int (0 : Int32)), (.ref a1)] _
    refine st18 _ ?_
    show SS p e below T18 m 25 #[rv a1, rv a2] [] _
    exact X18.returnOut hx hret (hb hby d_117) hr
theorem pd_120 : parseMethodDescriptor "(Ljava/util/ArrayList;)V" = some ⟨[(.object "java/util/ArrayList")], none⟩ := by decide +kernel
theorem d_121 : decode jdk_38_method_55_code 8 = .ok (.areturn, 1) := by decide +kernel
-- java/util/ArrayList.iterator()Ljava/util/Iterator;
def Q12_iterator (Z : State) (a1 : Addr) (h0 : Heap) (n0 : Nat) (v : Option Value) (h : Heap) (L : List Loc) : Prop := ∃ (b1 : Addr), v = some (.ref b1) ∧ Fr n0 L ∧ Keep h0 h [] ∧ h0.size ≤ b1 ∧ EA62 Z h b1 ∧ FA43 Z h b1 (.ref a1) ∧ FA44 Z h b1 (.int (-1 : Int32)) ∧ FA45 Z h b1 (.int (0 : Int32)) ∧ FA46 Z h b1 (.int (0 : Int32))
set_option maxRecDepth 65536 in
set_option maxHeartbeats 40000000 in
theorem rm12_iterator (l : Launch) (Z : State) (a0 : Array Value) (hw : HW Z a0) (a1 : Addr) (h0 : Heap) (n0 : Nat) (O0 : Old Z n0 h0) (F_0 : FA35 Z h0 a1 (.int (0 : Int32))) (lt_1 : a1 < h0.size) :
    Met l Z [] Y11 jdk_38_method_55_code 1 (some (.object "java/util/Iterator")) ({ frames := 2, cells := 1, slots := 4, locals := 26 } : Room) #[(.ref a1)] h0 (Q12_iterator Z a1 h0 n0) := by
  have W := fun (i : Nat) {c : Jvm.Cond} (q : tables_1[i]? = some c) => hw c (List.mem_of_getElem? q)
  refine own_mk (plainFor_of_name pn_26) ?_
  intro p e s m below meth c s₁ hZ hx hby hml hown hnm hret hlk X0 e0
  have N0 := Fr.nil n0
  obtain ⟨T1, h1, X1, e1, E1, A1, D1, -, st1⟩ := newO X0 hx hZ hown (W 121 rfl) (W 122 rfl) (W 123 rfl) e0 (g := (mkF m 0 #[rv a1] [])) rfl (hb hby d_100) (by decide) (by decide)
  obtain ⟨b1, g1⟩ : ∃ z, z = h0.size := ⟨_, rfl⟩
  rw [← g1] at A1 D1 st1
  have O2 := O0.ext E1
  have K3 : Keep h0 h1 [] := Keep.ext (Keep.refl h0 []) E1
  have g5 : n0 ≤ b1 := Nat.le_trans (Nat.le_trans (Nat.le_of_eq O0.1.symm) O0.2.1) (Nat.le_of_eq g1.symm)
  have f6 := (F_0.ext E1)
  obtain ⟨_, T4, L4, X4, hQ4, st4⟩ := own_cp X1 hx hZ hown hml rfl (W 124 rfl) (W 125 rfl) (W 123 rfl) (W 127 rfl) (rm11_init l Z a0 hw b1 a1 h1 n0 O2 (A1) ((D1 (Or.inr (W 129 rfl)) (ty := (.object "java/util/ArrayList")) (by decide) : FA43 Z h1 b1 .null)) (g5) ((D1 (Or.inl (W 132 rfl)) (ty := .int) (by decide) : FA44 Z h1 b1 (.int (0 : Int32)))) (f6) ((Ne.symm (Nat.ne_of_lt (Nat.lt_of_lt_of_le lt_1 (Nat.le_of_eq g1.symm))))) ((D1 (Or.inl (W 136 rfl)) (ty := .int) (by decide) : FA45 Z h1 b1 (.int (0 : Int32)))) ((D1 (Or.inl (W 147 rfl)) (ty := .int) (by decide) : FA46 Z h1 b1 (.int (0 : Int32))))) e1 (hb hby d_103) 1 #[rv a1] b1 [(.ref a1)] [(.ref b1)] pd_120 (by decide) rfl rfl rfl (Nat.le_of_eq rfl)
  obtain ⟨rfl, N4q, K4, F4_0, F4_1, F4_2, F4_3⟩ := hQ4
  have N7 := Fr.app N0 N4q
  have O8 := O2.keep K4 (allS g5 all0)
  have K9 : Keep h0 T4.heap [] := Keep.trans K3 K4 (allS (Or.inr (Nat.le_of_eq g1.symm)) all0)
  have f10 := (A1.keep K4)
  refine ⟨T4, some (.ref b1), _, _, _, X4, by decide, by decide, nofun, ?_, fun fs hr => castTop (ef_14 m a1) ?_⟩
  · show Q12_iterator Z a1 h0 n0 _ T4.heap _
    exact ⟨b1, rfl, N7, K9, (Nat.le_of_eq g1.symm), f10, F4_0, F4_1, F4_2, F4_3⟩
  · show SS p e below s₁ m 0 #[rv a1] [] _
    refine st1 _ ?_
    show SS p e below T1 m 3 #[rv a1] [(.ref b1)] _
    refine XS.dup X1.here hx rfl (hb hby d_101) rfl rfl ?_
    refine XS.aloadN X1.here hx rfl (hb hby d_102) rfl rfl ?_
    show SS p e below T1 m 5 #[rv a1] [(.ref a1), (.ref b1), (.ref b1)] _
    refine st4 _ ?_
    show SS p e below T4 m 8 #[rv a1] [(.ref b1)] _
    exact retOut X4 hx hret rfl (Or.inr (Or.inr (Or.inr (Or.inr ⟨rfl, rfl, rfl⟩)))) (hb hby d_121) hr
theorem pd_122 : parseMethodDescriptor "()Ljava/util/Iterator;" = some ⟨[], some (.object "java/util/Iterator")⟩ := by decide +kernel
theorem d_123 : decode jdk_22_method_12_code 8 = .ok (.astore_n 3, 1) := by decide +kernel
theorem d_124 : decode jdk_22_method_12_code 9 = .ok (.aload_n 3, 1) := by decide +kernel
theorem d_125 : decode jdk_22_method_12_code 10 = .ok (.invokeinterface 17 1, 5) := by decide +kernel
theorem d_126 : decode jdk_49_method_2_code 0 = .ok (.aload_n 0, 1) := by decide +kernel
theorem d_127 : decode jdk_49_method_2_code 1 = .ok (.getfield 25, 3) := by decide +kernel
theorem d_128 : decode jdk_49_method_2_code 4 = .ok (.aload_n 0, 1) := by decide +kernel
theorem d_129 : decode jdk_49_method_2_code 5 = .ok (.getfield 1, 3) := by decide +kernel
theorem d_130 : decode jdk_49_method_2_code 8 = .ok (.getfield 28, 3) := by decide +kernel
theorem d_131 : decode jdk_49_method_2_code 11 = .ok (.if_icmp .eq 7, 3) := by decide +kernel
theorem d_132 : decode jdk_49_method_2_code 18 = .ok (.iconst 0, 1) := by decide +kernel
theorem d_133 : decode jdk_49_method_2_code 19 = .ok (.ireturn, 1) := by decide +kernel
-- java/util/ArrayList$Itr.hasNext()Z
def Q13_hasNext (Z : State) (a1 : Addr) (a2 : Addr) (h0 : Heap) (n0 : Nat) (v : Option Value) (h : Heap) (L : List Loc) : Prop := v = some (.int (0 : Int32)) ∧ Fr n0 L ∧ h = h0
set_option maxRecDepth 65536 in
set_option maxHeartbeats 40000000 in
theorem rm13_hasNext (l : Launch) (Z : State) (a0 : Array Value) (hw : HW Z a0) (a1 : Addr) (a2 : Addr) (h0 : Heap) (n0 : Nat) (O0 : Old Z n0 h0) (F_0 : FA46 Z h0 a1 (.int (0 : Int32))) (F_1 : FA43 Z h0 a1 (.ref a2)) (F_2 : FA37 Z h0 a2 (.int (0 : Int32))) :
    Met l Z [] Y12 jdk_49_method_2_code 1 (some .boolean) ({ frames := 0, cells := 0, slots := 0, locals := 0 } : Room) #[(.ref a1)] h0 (Q13_hasNext Z a1 a2 h0 n0) := by
  have W := fun (i : Nat) {c : Jvm.Cond} (q : tables_1[i]? = some c) => hw c (List.mem_of_getElem? q)
  refine own_mk (plainFor_of_name pn_119) ?_
  intro p e s m below meth c s₁ hZ hx hby hml hown hnm hret hlk X0 e0
  have N0 := Fr.nil n0
  obtain ⟨T1, X1, e1, st1⟩ := getF X0 hx hZ hown (host := "") (Or.inl (W 146 rfl)) Via.refl e0 F_0 (g := (mkF m 1 #[rv a1] [(.ref a1)])) rfl rfl (hb hby d_127)
  obtain ⟨T2, X2, e2, st2⟩ := getF X1 hx hZ hown (host := "") (Or.inl (W 128 rfl)) Via.refl e1 F_1 (g := (mkF m 5 #[rv a1] [(.ref a1), (.int (0 : Int32))])) rfl rfl (hb hby d_129)
  obtain ⟨T3, X3, e3, st3⟩ := getF X2 hx hZ hown (Or.inr (W 148 rfl)) Via.refl e2 F_2 (g := (mkF m 8 #[rv a1] [(.ref a2), (.int (0 : Int32))])) rfl rfl (hb hby d_130)
  refine ⟨T3, some (.int (0 : Int32)), _, _, _, X3, by decide, by decide, nofun, ?_, fun fs hr => castTop (ef_14 m a1) ?_⟩
  · show Q13_hasNext Z a1 a2 h0 n0 _ T3.heap _
    rw [e3]
    exact ⟨rfl, N0, rfl⟩
  · show SS p e below s₁ m 0 #[rv a1] [] _
    refine XS.aloadN X0.here hx rfl (hb hby d_126) rfl rfl ?_
    show SS p e below s₁ m 1 #[rv a1] [(.ref a1)] _
    refine st1 _ ?_
    show SS p e below T1 m 4 #[rv a1] [(.int (0 : Int32))] _
    refine XS.aloadN X1.here hx rfl (hb hby d_128) rfl rfl ?_
    show SS p e below T1 m 5 #[rv a1] [(.ref a1), (.int (0 : Int32))] _
    refine st2 _ ?_
    show SS p e below T2 m 8 #[rv a1] [(.ref a2), (.int (0 : Int32))] _
    refine st3 _ ?_
    show SS p e below T3 m 11 #[rv a1] [(.int (0 : Int32)), (.int (0 : Int32))] _
    refine XS.icmpYes X3.here hx rfl (pc0 := 11) (pc' := 18) rfl (hb hby d_131) rfl (teq (by decide : (0 : Int32) = (0 : Int32))).1 (by decide) (by decide) ?_
    show SS p e below T3 m 18 #[rv a1] [] _
    refine XS.iconst X3.here hx rfl (hb hby d_132) ?_
    show SS p e below T3 m 19 #[rv a1] [(.int (0 : Int32))] _
    exact retN X3 hx (t := .boolean) hret (by simp) (hb hby d_133) hr
theorem pd_134 : parseMethodDescriptor "()Z" = some ⟨[], some .boolean⟩ := by decide +kernel
theorem d_135 : decode jdk_22_method_12_code 15 = .ok (.ifCond .eq 25, 3) := by decide +kernel
theorem d_136 : decode jdk_22_method_12_code 40 = .ok (.iload_n 2, 1) := by decide +kernel
theorem d_137 : decode jdk_22_method_12_code 41 = .ok (.ireturn, 1) := by decide +kernel
theorem ef_138 (m : MethodId) (a1 : Addr) (a2 : Addr) : entryFrame m #[(.ref a1), (.ref a2)] 5 = mkF m 0 #[rv a1, rv a2, .unset, .unset, .unset] [] := by first | (simp [entryFrame, mkF, argsToLocals, Value.category]; done) | rfl
-- java/util/AbstractCollection.addAll(Ljava/util/Collection;)Z
def Q14_addAll (Z : State) (a1 : Addr) (a2 : Addr) (h0 : Heap) (n0 : Nat) (v : Option Value) (h : Heap) (L : List Loc) : Prop := v = some (.int (0 : Int32)) ∧ Fr n0 L ∧ Keep h0 h []
set_option maxRecDepth 65536 in
set_option maxHeartbeats 40000000 in
theorem rm14_addAll (l : Launch) (Z : State) (a0 : Array Value) (hw : HW Z a0) (a1 : Addr) (a2 : Addr) (h0 : Heap) (n0 : Nat) (O0 : Old Z n0 h0) (F_0 : EA57 Z h0 a2) (F_1 : FA35 Z h0 a2 (.int (0 : Int32))) (lt_2 : a2 < h0.size) (F_3 : FA37 Z h0 a2 (.int (0 : Int32))) :
    Met l Z [] Y13 jdk_22_method_12_code 5 (some .boolean) ({ frames := 3, cells := 1, slots := 4, locals := 38 } : Room) #[(.ref a1), (.ref a2)] h0 (Q14_addAll Z a1 a2 h0 n0) := by
  have W := fun (i : Nat) {c : Jvm.Cond} (q : tables_1[i]? = some c) => hw c (List.mem_of_getElem? q)
  refine own_mk (plainFor_of_name pn_15) ?_
  intro p e s m below meth c s₁ hZ hx hby hml hown hnm hret hlk X0 e0
  have N0 := Fr.nil n0
  obtain ⟨cq1, kq1, q1a, q1b, q1c⟩ := isOf hZ e0 F_0
  obtain ⟨_, _, ⟨T1, L1, k1, n1⟩, -, X1, ⟨Lc1, hQ1, l1, y1, z1⟩, st1⟩ := X0.interfaceBack hx (xi := Y14) (y := Y11) hown (mvT hZ (W 112 rfl)) (mvT hZ (W 113 rfl)) (mvT hZ (W 114 rfl)) (mvT hZ (W 115 rfl)) (mvT hZ (W 116 rfl)) (mvT hZ (W 117 rfl)) (mvT hZ (W 118 rfl)) (mvT hZ (W 119 rfl)) (by decide) (backOf (W := 0) (rm12_iterator l Z a0 hw a2 h0 n0 O0 (F_1) (lt_2)) hZ (W 120 rfl) (W 12 rfl) (by decide) (by decide)) q1a q1b q1c (g := (mkF m 3 #[rv a1, rv a2, iv (0 : Int32), .unset, .unset] [(.ref a2)])) rfl (by rw [hml]; rfl) (Steps.refl _) (argsL := []) (rest := []) (lenOf pd_122 rfl) rfl (by show 2 * 0 + _ ≤ _; exact Nat.le_of_eq rfl) (hb hby d_99) (fun _ _ => ⟨rfl, e0, (by decide : 0 + 1 ≤ _), (by decide : 0 + 4 ≤ _)⟩)
  dsimp only [Pt.U, Pt.locs, Pt.cells, Pt.slots] at X1 l1 y1 z1 st1 hQ1
  subst l1 y1 z1
  obtain ⟨b1_b1, rfl, N1q, K1, gb1_0, F1_0, F1_1, F1_2, F1_3, F1_4⟩ := hQ1
  have N2 := Fr.app N0 N1q
  have O3 := O0.keep K1 all0
  have K4 : Keep h0 T1.heap [] := Keep.trans (Keep.refl h0 []) K1 all0
  have f6 := (F_3.keep K1 nin0)
  obtain ⟨cq5, kq5, q5a, q5b, q5c⟩ := isOf hZ rfl F1_0
  obtain ⟨_, _, ⟨T5, L5, k5, n5⟩, -, X5, ⟨Lc5, hQ5, l5, y5, z5⟩, st5⟩ := X1.interfaceBack hx (xi := Y15) (y := Y12) hown (mvT hZ (W 137 rfl)) (mvT hZ (W 138 rfl)) (mvT hZ (W 139 rfl)) (mvT hZ (W 140 rfl)) (mvT hZ (W 141 rfl)) (mvT hZ (W 142 rfl)) (mvT hZ (W 143 rfl)) (mvT hZ (W 144 rfl)) (by decide) (backOf (W := 0) (rm13_hasNext l Z a0 hw b1_b1 a2 T1.heap n0 O3 (F1_4) (F1_1) (f6)) hZ (W 145 rfl) (W 123 rfl) (by decide) (by decide)) q5a q5b q5c (g := (mkF m 10 #[rv a1, rv a2, iv (0 : Int32), rv b1_b1, .unset] [(.ref b1_b1)])) rfl (by rw [hml]; rfl) (Steps.refl _) (argsL := []) (rest := []) (lenOf pd_134 rfl) rfl (by show 2 * 0 + _ ≤ _; exact Nat.le_of_eq rfl) (hb hby d_125) (fun _ _ => ⟨rfl, rfl, (by decide : 1 + 0 ≤ _), (by decide : 4 + 0 ≤ _)⟩)
  dsimp only [Pt.U, Pt.locs, Pt.cells, Pt.slots] at X5 l5 y5 z5 st5 hQ5
  subst l5 y5 z5
  obtain ⟨rfl, N5q, K5⟩ := hQ5
  have N7 := Fr.app N2 N5q
  refine ⟨T5, some (.int (0 : Int32)), _, _, _, X5, by decide, by decide, nofun, ?_, fun fs hr => castTop (ef_138 m a1 a2) ?_⟩
  · show Q14_addAll Z a1 a2 h0 n0 _ T5.heap _
    rw [K5]
    exact ⟨rfl, N7, K4⟩
  · show SS p e below s₁ m 0 #[rv a1, rv a2, .unset, .unset, .unset] [] _
    refine XS.iconst X0.here hx rfl (hb hby d_96) ?_
    show SS p e below s₁ m 1 #[rv a1, rv a2, .unset, .unset, .unset] [(.int (0 : Int32))] _
    refine XS.istoreN X0.here hx rfl (hb hby d_97) rfl (l' := #[rv a1, rv a2, iv (0 : Int32), .unset, .unset]) rfl ?_
    show SS p e below s₁ m 2 #[rv a1, rv a2, iv (0 : Int32), .unset, .unset] [] _
    refine XS.aloadN X0.here hx rfl (hb hby d_98) rfl rfl ?_
    show SS p e below s₁ m 3 #[rv a1, rv a2, iv (0 : Int32), .unset, .unset] [(.ref a2)] _
    refine st1.trans ?_
    show SS p e below T1 m 8 #[rv a1, rv a2, iv (0 : Int32), .unset, .unset] [(.ref b1_b1)] _
    refine XS.astoreN X1.here hx rfl (hb hby d_123) rfl rfl (l' := #[rv a1, rv a2, iv (0 : Int32), rv b1_b1, .unset]) rfl ?_
    show SS p e below T1 m 9 #[rv a1, rv a2, iv (0 : Int32), rv b1_b1, .unset] [] _
    refine XS.aloadN X1.here hx rfl (hb hby d_124) rfl rfl ?_
    show SS p e below T1 m 10 #[rv a1, rv a2, iv (0 : Int32), rv b1_b1, .unset] [(.ref b1_b1)] _
    refine st5.trans ?_
    show SS p e below T5 m 15 #[rv a1, rv a2, iv (0 : Int32), rv b1_b1, .unset] [(.int (0 : Int32))] _
    refine XS.ifYes X5.here hx rfl (pc0 := 15) (pc' := 40) rfl (hb hby d_135) rfl ((if0 _ _).trans (teq (by decide : (0 : Int32) = (0 : Int32))).1) (by decide) (by decide) ?_
    show SS p e below T5 m 40 #[rv a1, rv a2, iv (0 : Int32), rv b1_b1, .unset] [] _
    refine XS.iloadN X5.here hx rfl (hb hby d_136) rfl ?_
    show SS p e below T5 m 41 #[rv a1, rv a2, iv (0 : Int32), rv b1_b1, .unset] [(.int (0 : Int32))] _
    exact retN X5 hx (t := .boolean) hret (by simp) (hb hby d_137) hr
theorem pd_139 : parseMethodDescriptor "(Ljava/util/Collection;)Z" = some ⟨[(.object "java/util/Collection")], some .boolean⟩ := by decide +kernel
theorem d_140 : decode prog_65_method_1_code 52 = .ok (.pop, 1) := by decide +kernel
theorem d_141 : decode prog_65_method_1_code 53 = .ok (.return_, 1) := by decide +kernel
theorem ef_142 (m : MethodId) (a1 : Addr) (a2 : Addr) (a3 : Addr) : entryFrame m #[(.ref a1), (.ref a2), (.ref a3)] 3 = mkF m 0 #[rv a1, rv a2, rv a3] [] := by first | (simp [entryFrame, mkF, argsToLocals, Value.category]; done) | rfl
theorem pn_143 : plainName "com/example/temporal_query_rewriter/temporalqueryrewriter/WithQuery" = true := by first | (simp [plainName, overriddenIn]; done) | decide +kernel
-- com/example/temporal_query_rewriter/temporalqueryrewriter/WithQuery.<init>(Ljava/util/Collection;Lcom/example/temporal_query_rewriter/temporalqueryrewriter/Engine;)V
def Q15_init (Z : State) (a1 : Addr) (a2 : Addr) (a3 : Addr) (p4 : Int32) (h0 : Heap) (n0 : Nat) (v : Option Value) (h : Heap) (L : List Loc) : Prop := ∃ (b2 : Addr) (b5_b1_b3 : Addr) (b17 : Addr) (b20_b3 : Addr) (b35 : Addr) (k5_k1_k3 : ClassId), v = none ∧ Fr n0 L ∧ Keep h0 h [a1] ∧ h0.size ≤ b2 ∧ h0.size ≤ b5_b1_b3 ∧ h0.size ≤ b17 ∧ h0.size ≤ b20_b3 ∧ h0.size ≤ b35 ∧ EA59 Z h b2 ∧ FA38 Z h b2 (.ref b5_b1_b3) ∧ FA39 Z h b2 (.int (0 : Int32)) ∧ FA40 Z h b2 (.int (0 : Int32)) ∧ Arv Z h b5_b1_b3 k5_k1_k3 .byte (16 : Int32) [(.int (0 : Int32)), (.int (0 : Int32)), (.int (0 : Int32)), (.int (0 : Int32)), (.int (0 : Int32)), (.int (0 : Int32)), (.int (0 : Int32)), (.int (0 : Int32)), (.int (0 : Int32)), (.int (0 : Int32)), (.int (0 : Int32)), (.int (0 : Int32)), (.int (0 : Int32)), (.int (0 : Int32)), (.int (0 : Int32)), (.int (0 : Int32))] (.int (0 : Int32)) ∧ EA58 Z h b5_b1_b3 ∧ EA61 Z h b17 ∧ FA42 Z h b17 (.ref b20_b3) ∧ EA60 Z h b20_b3 ∧ FA41 Z h b20_b3 (.float (1061158912 : UInt32)) ∧ EA60 Z h b35 ∧ FA41 Z h b35 (.float (1061158912 : UInt32)) ∧ FA47 Z h a1 (.ref b2) ∧ FA48 Z h a1 (.ref b17) ∧ FA49 Z h a1 (.ref b35) ∧ FA50 Z h a1 (.ref a3)
set_option maxRecDepth 65536 in
set_option maxHeartbeats 40000000 in
theorem rm15_init (l : Launch) (Z : State) (a0 : Array Value) (hw : HW Z a0) (a1 : Addr) (a2 : Addr) (a3 : Addr) (p4 : Int32) (h0 : Heap) (n0 : Nat) (O0 : Old Z n0 h0) (S_0 : SA71 Z Z.heap (.int p4)) (hc_1 : ¬ (p4 = (0 : Int32))) (F_2 : EA63 Z h0 a1) (F_3 : FA47 Z h0 a1 .null) (lt_4 : a1 < h0.size) (g_5 : n0 ≤ a1) (F_6 : FA48 Z h0 a1 .null) (F_7 : FA49 Z h0 a1 .null) (F_8 : FA50 Z h0 a1 .null) (F_9 : EA57 Z h0 a2) (F_10 : FA35 Z h0 a2 (.int (0 : Int32))) (F_11 : FA37 Z h0 a2 (.int (0 : Int32))) (lt_12 : a2 < h0.size) (ne_13 : a1 ≠ a2) :
    Met l Z [] Y16 prog_65_method_1_code 3 none ({ frames := 4, cells := 6, slots := 41, locals := 54 } : Room) #[(.ref a1), (.ref a2), (.ref a3)] h0 (Q15_init Z a1 a2 a3 p4 h0 n0) := by
  have W := fun (i : Nat) {c : Jvm.Cond} (q : tables_1[i]? = some c) => hw c (List.mem_of_getElem? q)
  refine own_mk (plainFor_of_name pn_143) ?_
  intro p e s m below meth c s₁ hZ hx hby hml hown hnm hret hlk X0 e0
  have N0 := Fr.nil n0
  obtain ⟨T1, X1, e1, st1⟩ := initO X0 hx hZ hown (W 39 rfl) (W 29 rfl) (W 30 rfl) e0 (g := (mkF m 1 #[rv a1, rv a2, rv a3] [(.ref a1)])) rfl (by rw [hml]; rfl) rfl (hb hby d_28) (by decide) (W := 0) (by show 2 * 0 + _ ≤ _; exact Nat.le_of_eq rfl) (by decide)
  obtain ⟨T2, h2, X2, e2, E2, A2, D2, -, st2⟩ := newO X1 hx hZ hown (W 40 rfl) (W 41 rfl) (W 42 rfl) e1 (g := (mkF m 5 #[rv a1, rv a2, rv a3] [(.ref a1)])) rfl (hb hby d_30) (by decide) (by decide)
  obtain ⟨b2, g2⟩ : ∃ z, z = h0.size := ⟨_, rfl⟩
  rw [← g2] at A2 D2 st2
  have O3 := O0.ext E2
  have K4 : Keep h0 h2 [a1] := Keep.ext (Keep.refl h0 [a1]) E2
  have g6 : n0 ≤ b2 := Nat.le_trans (Nat.le_trans (Nat.le_of_eq O0.1.symm) O0.2.1) (Nat.le_of_eq g2.symm)
  obtain ⟨_, T5, L5, X5, hQ5, st5⟩ := own_cp X2 hx hZ hown hml rfl (W 43 rfl) (W 44 rfl) (W 42 rfl) (W 45 rfl) (rm6_init l Z a0 hw b2 p4 h2 n0 O3 (S_0) (hc_1) (A2) ((D2 (Or.inl (W 57 rfl)) (ty := (.array .byte)) (by decide) : FA38 Z h2 b2 .null)) ((D2 (Or.inl (W 59 rfl)) (ty := .byte) (by decide) : FA39 Z h2 b2 (.int (0 : Int32)))) ((D2 (Or.inl (W 210 rfl)) (ty := .int) (by decide) : FA40 Z h2 b2 (.int (0 : Int32)))) (g6) (A2.lt)) e2 (hb hby d_32) 2 #[rv a1, rv a2, rv a3] b2 [] [(.ref b2), (.ref a1)] pd_16 (by decide) rfl rfl rfl (Nat.le_of_eq rfl)
  obtain ⟨b5_b1_b3, k5_k1_k3, rfl, N5q, K5, gb5_0, F5_0, F5_1, F5_2, F5_3, F5_4⟩ := hQ5
  have N7 := Fr.app N0 N5q
  have O8 := O3.keep K5 (allS g6 all0)
  have K9 : Keep h0 T5.heap [a1] := Keep.trans K4 K5 (allS (Or.inr (Nat.le_of_eq g2.symm)) all0)
  have f11 := ((F_3.ext E2).keep K5 (ninS (Nat.ne_of_lt (Nat.lt_of_lt_of_le lt_4 (Nat.le_of_eq g2.symm))) nin0))
  have f12 := ((F_2.ext E2).keep K5)
  obtain ⟨T10, h10, X10, e10, W10, st10⟩ := putF X5 hx hZ hown (host := "") (Or.inl (W 60 rfl)) Via.refl rfl f11 f12 (Or.inr ⟨(W 61 rfl), rfl, hnm⟩) (W 8 rfl) (ty := (.object "java/lang/StringBuilder")) (by decide) rfl rfl (g := (mkF m 12 #[rv a1, rv a2, rv a3] [(.ref b2), (.ref a1)])) rfl rfl (hb hby d_54)
  have O13 := O8.wr W10 g_5
  have K14 : Keep h0 h10 [a1] := Keep.wr K9 W10 (Or.inl (List.mem_of_getElem? (i := 0) rfl))
  have f15 : FA47 Z h10 a1 (.ref b2) := (f11.same W10)
  have N16 := Fr.snoc X10 N7 g_5
  obtain ⟨T17, h17, X17, e17, E17, A17, D17, -, st17⟩ := newO X10 hx hZ hown (W 62 rfl) (W 63 rfl) (W 64 rfl) e10 (g := (mkF m 16 #[rv a1, rv a2, rv a3] [(.ref a1)])) rfl (hb hby d_56) (by decide) (by decide)
  obtain ⟨b17, g17⟩ : ∃ z, z = h10.size := ⟨_, rfl⟩
  rw [← g17] at A17 D17 st17
  have O18 := O13.ext E17
  have K19 : Keep h0 h17 [a1] := Keep.ext K14 E17
  have z21 : h0.size ≤ h2.size := E2.1
  have z22 : h0.size ≤ T5.heap.size := (Nat.le_trans z21 K5.1)
  have z23 : h0.size ≤ h10.size := (Nat.le_trans z22 (Nat.le_of_eq W10.size.symm))
  have g24 : n0 ≤ b17 := Nat.le_trans (Nat.le_trans (Nat.le_trans (Nat.le_of_eq O0.1.symm) O0.2.1) z23) (Nat.le_of_eq g17.symm)
  obtain ⟨_, T20, L20, X20, hQ20, st20⟩ := own_cp X17 hx hZ hown hml rfl (W 65 rfl) (W 66 rfl) (W 64 rfl) (W 67 rfl) (rm10_init l Z a0 hw b17 h17 n0 O18 (A17) ((D17 (Or.inl (W 94 rfl)) (ty := (.object "java/util/HashMap")) (by decide) : FA42 Z h17 b17 .null)) (A17.lt) (g24)) e17 (hb hby d_58) 2 #[rv a1, rv a2, rv a3] b17 [] [(.ref b17), (.ref a1)] pd_16 (by decide) rfl rfl rfl (Nat.le_of_eq rfl)
  obtain ⟨b20_b3, rfl, N20q, K20, gb20_0, F20_0, F20_1, F20_2⟩ := hQ20
  have N25 := Fr.app N16 N20q
  have O26 := O18.keep K20 (allS g24 all0)
  have K27 : Keep h0 T20.heap [a1] := Keep.trans K19 K20 (allS (Or.inr (Nat.le_trans z23 (Nat.le_of_eq g17.symm))) all0)
  have f29 := (((((F_6.ext E2).keep K5 (ninS (Nat.ne_of_lt (Nat.lt_of_lt_of_le lt_4 (Nat.le_of_eq g2.symm))) nin0)).other W10 (Or.inr (slot_ne (Or.inr (W 96 rfl)) (Or.inr (W 61 rfl)) (by decide) (t := (.object "java/util/Set")) (t' := (.object "java/lang/StringBuilder")) (by decide) (by decide)))).ext E17).keep K20 (ninS (Nat.ne_of_lt (Nat.lt_of_lt_of_le (Nat.lt_of_lt_of_le lt_4 z23) (Nat.le_of_eq g17.symm))) nin0))
  have f30 := (((f12.wr W10).ext E17).keep K20)
  obtain ⟨T28, h28, X28, e28, W28, st28⟩ := putF X20 hx hZ hown (host := "") (Or.inl (W 95 rfl)) Via.refl rfl f29 f30 (Or.inr ⟨(W 96 rfl), rfl, hnm⟩) (W 8 rfl) (ty := (.object "java/util/Set")) (by decide) rfl rfl (g := (mkF m 23 #[rv a1, rv a2, rv a3] [(.ref b17), (.ref a1)])) rfl rfl (hb hby d_83)
  have O31 := O26.wr W28 g_5
  have K32 : Keep h0 h28 [a1] := Keep.wr K27 W28 (Or.inl (List.mem_of_getElem? (i := 0) rfl))
  have f33 : FA48 Z h28 a1 (.ref b17) := (f29.same W28)
  have N34 := Fr.snoc X28 N25 g_5
  obtain ⟨T35, h35, X35, e35, E35, A35, D35, -, st35⟩ := newO X28 hx hZ hown (W 97 rfl) (W 77 rfl) (W 78 rfl) e28 (g := (mkF m 27 #[rv a1, rv a2, rv a3] [(.ref a1)])) rfl (hb hby d_85) (by decide) (by decide)
  obtain ⟨b35, g35⟩ : ∃ z, z = h28.size := ⟨_, rfl⟩
  rw [← g35] at A35 D35 st35
  have O36 := O31.ext E35
  have K37 : Keep h0 h35 [a1] := Keep.ext K32 E35
  have z39 : h0.size ≤ h17.size := (Nat.le_trans z23 E17.1)
  have z40 : h0.size ≤ T20.heap.size := (Nat.le_trans z39 K20.1)
  have z41 : h0.size ≤ h28.size := (Nat.le_trans z40 (Nat.le_of_eq W28.size.symm))
  have g42 : n0 ≤ b35 := Nat.le_trans (Nat.le_trans (Nat.le_trans (Nat.le_of_eq O0.1.symm) O0.2.1) z41) (Nat.le_of_eq g35.symm)
  obtain ⟨_, T38, L38, X38, hQ38, st38⟩ := own_cp X35 hx hZ hown hml rfl (W 98 rfl) (W 80 rfl) (W 78 rfl) (W 82 rfl) (rm9_init l Z a0 hw b35 h35 n0 O36 (A35) ((D35 (Or.inr (W 92 rfl)) (ty := .float) (by decide) : FA41 Z h35 b35 (.float (0 : UInt32)))) (g42)) e35 (hb hby d_87) 2 #[rv a1, rv a2, rv a3] b35 [] [(.ref b35), (.ref a1)] pd_16 (by decide) rfl rfl rfl (Nat.le_of_eq rfl)
  obtain ⟨rfl, N38q, K38, F38_0⟩ := hQ38
  have N43 := Fr.app N34 N38q
  have O44 := O36.keep K38 (allS g42 all0)
  have K45 : Keep h0 T38.heap [a1] := Keep.trans K37 K38 (allS (Or.inr (Nat.le_trans z41 (Nat.le_of_eq g35.symm))) all0)
  have f47 := ((((((((F_7.ext E2).keep K5 (ninS (Nat.ne_of_lt (Nat.lt_of_lt_of_le lt_4 (Nat.le_of_eq g2.symm))) nin0)).other W10 (Or.inr (slot_ne (Or.inr (W 100 rfl)) (Or.inr (W 61 rfl)) (by decide) (t := (.object "java/util/Map")) (t' := (.object "java/lang/StringBuilder")) (by decide) (by decide)))).ext E17).keep K20 (ninS (Nat.ne_of_lt (Nat.lt_of_lt_of_le (Nat.lt_of_lt_of_le lt_4 z23) (Nat.le_of_eq g17.symm))) nin0)).other W28 (Or.inr (slot_ne (Or.inr (W 100 rfl)) (Or.inr (W 96 rfl)) (by decide) (t := (.object "java/util/Map")) (t' := (.object "java/util/Set")) (by decide) (by decide)))).ext E35).keep K38 (ninS (Nat.ne_of_lt (Nat.lt_of_lt_of_le (Nat.lt_of_lt_of_le lt_4 z41) (Nat.le_of_eq g35.symm))) nin0))
  have f48 := (((f30.wr W28).ext E35).keep K38)
  obtain ⟨T46, h46, X46, e46, W46, st46⟩ := putF X38 hx hZ hown (host := "") (Or.inl (W 99 rfl)) Via.refl rfl f47 f48 (Or.inr ⟨(W 100 rfl), rfl, hnm⟩) (W 8 rfl) (ty := (.object "java/util/Map")) (by decide) rfl rfl (g := (mkF m 34 #[rv a1, rv a2, rv a3] [(.ref b35), (.ref a1)])) rfl rfl (hb hby d_88)
  have O49 := O44.wr W46 g_5
  have K50 : Keep h0 h46 [a1] := Keep.wr K45 W46 (Or.inl (List.mem_of_getElem? (i := 0) rfl))
  have f51 : FA49 Z h46 a1 (.ref b35) := (f47.same W46)
  have N52 := Fr.snoc X46 N43 g_5
  have f54 := (((((((((F_8.ext E2).keep K5 (ninS (Nat.ne_of_lt (Nat.lt_of_lt_of_le lt_4 (Nat.le_of_eq g2.symm))) nin0)).other W10 (Or.inr (slot_ne (Or.inr (W 102 rfl)) (Or.inr (W 61 rfl)) (by decide) (t := (.object "com/example/temporal_query_rewriter/temporalqueryrewriter/Engine")) (t' := (.object "java/lang/StringBuilder")) (by decide) (by decide)))).ext E17).keep K20 (ninS (Nat.ne_of_lt (Nat.lt_of_lt_of_le (Nat.lt_of_lt_of_le lt_4 z23) (Nat.le_of_eq g17.symm))) nin0)).other W28 (Or.inr (slot_ne (Or.inr (W 102 rfl)) (Or.inr (W 96 rfl)) (by decide) (t := (.object "com/example/temporal_query_rewriter/temporalqueryrewriter/Engine")) (t' := (.object "java/util/Set")) (by decide) (by decide)))).ext E35).keep K38 (ninS (Nat.ne_of_lt (Nat.lt_of_lt_of_le (Nat.lt_of_lt_of_le lt_4 z41) (Nat.le_of_eq g35.symm))) nin0)).other W46 (Or.inr (slot_ne (Or.inr (W 102 rfl)) (Or.inr (W 100 rfl)) (by decide) (t := (.object "com/example/temporal_query_rewriter/temporalqueryrewriter/Engine")) (t' := (.object "java/util/Map")) (by decide) (by decide))))
  have f55 := (f48.wr W46)
  obtain ⟨T53, h53, X53, e53, W53, st53⟩ := putF X46 hx hZ hown (host := "") (Or.inl (W 101 rfl)) Via.refl e46 f54 f55 (Or.inr ⟨(W 102 rfl), rfl, hnm⟩) (W 8 rfl) (ty := (.object "com/example/temporal_query_rewriter/temporalqueryrewriter/Engine")) (by decide) rfl rfl (g := (mkF m 39 #[rv a1, rv a2, rv a3] [(.ref a3), (.ref a1)])) rfl rfl (hb hby d_91)
  have O56 := O49.wr W53 g_5
  have K57 : Keep h0 h53 [a1] := Keep.wr K50 W53 (Or.inl (List.mem_of_getElem? (i := 0) rfl))
  have f58 : FA50 Z h53 a1 (.ref a3) := (f54.same W53)
  have N59 := Fr.snoc X53 N52 g_5
  have f61 := ((((f33.ext E35).keep K38 (ninS (Nat.ne_of_lt (Nat.lt_of_lt_of_le (Nat.lt_of_lt_of_le lt_4 z41) (Nat.le_of_eq g35.symm))) nin0)).other W46 (Or.inr (slot_ne (Or.inr (W 96 rfl)) (Or.inr (W 100 rfl)) (by decide) (t := (.object "java/util/Set")) (t' := (.object "java/util/Map")) (by decide) (by decide)))).other W53 (Or.inr (slot_ne (Or.inr (W 96 rfl)) (Or.inr (W 102 rfl)) (by decide) (t := (.object "java/util/Set")) (t' := (.object "com/example/temporal_query_rewriter/temporalqueryrewriter/Engine")) (by decide) (by decide))))
  obtain ⟨T60, X60, e60, st60⟩ := getF X53 hx hZ hown (host := "") (Or.inl (W 95 rfl)) Via.refl e53 f61 (g := (mkF m 43 #[rv a1, rv a2, rv a3] [(.ref a1)])) rfl rfl (hb hby d_93)
  have f63 := ((((((((((F_9.ext E2).keep K5).wr W10).ext E17).keep K20).wr W28).ext E35).keep K38).wr W46).wr W53)
  have f64 := ((((((((((F_10.ext E2).keep K5 (ninS (Nat.ne_of_lt (Nat.lt_of_lt_of_le lt_12 (Nat.le_of_eq g2.symm))) nin0)).other W10 (Or.inl (Ne.symm ne_13))).ext E17).keep K20 (ninS (Nat.ne_of_lt (Nat.lt_of_lt_of_le (Nat.lt_of_lt_of_le lt_12 z23) (Nat.le_of_eq g17.symm))) nin0)).other W28 (Or.inl (Ne.symm ne_13))).ext E35).keep K38 (ninS (Nat.ne_of_lt (Nat.lt_of_lt_of_le (Nat.lt_of_lt_of_le lt_12 z41) (Nat.le_of_eq g35.symm))) nin0)).other W46 (Or.inl (Ne.symm ne_13))).other W53 (Or.inl (Ne.symm ne_13)))
  have z65 : h0.size ≤ h35.size := (Nat.le_trans z41 E35.1)
  have z66 : h0.size ≤ T38.heap.size := (Nat.le_trans z65 K38.1)
  have z67 : h0.size ≤ h46.size := (Nat.le_trans z66 (Nat.le_of_eq W46.size.symm))
  have z68 : h0.size ≤ h53.size := (Nat.le_trans z67 (Nat.le_of_eq W53.size.symm))
  have f69 := ((((((((((F_11.ext E2).keep K5 (ninS (Nat.ne_of_lt (Nat.lt_of_lt_of_le lt_12 (Nat.le_of_eq g2.symm))) nin0)).other W10 (Or.inl (Ne.symm ne_13))).ext E17).keep K20 (ninS (Nat.ne_of_lt (Nat.lt_of_lt_of_le (Nat.lt_of_lt_of_le lt_12 z23) (Nat.le_of_eq g17.symm))) nin0)).other W28 (Or.inl (Ne.symm ne_13))).ext E35).keep K38 (ninS (Nat.ne_of_lt (Nat.lt_of_lt_of_le (Nat.lt_of_lt_of_le lt_12 z41) (Nat.le_of_eq g35.symm))) nin0)).other W46 (Or.inl (Ne.symm ne_13))).other W53 (Or.inl (Ne.symm ne_13)))
  have f70 := ((((((A17.keep K20).wr W28).ext E35).keep K38).wr W46).wr W53)
  obtain ⟨cq62, kq62, q62a, q62b, q62c⟩ := isOf hZ e60 f70
  obtain ⟨_, _, ⟨T62, L62, k62, n62⟩, -, X62, ⟨Lc62, hQ62, l62, y62, z62⟩, st62⟩ := X60.interfaceBack hx (xi := Y17) (y := Y13) hown (mvT hZ (W 103 rfl)) (mvT hZ (W 104 rfl)) (mvT hZ (W 105 rfl)) (mvT hZ (W 106 rfl)) (mvT hZ (W 107 rfl)) (mvT hZ (W 108 rfl)) (mvT hZ (W 109 rfl)) (mvT hZ (W 110 rfl)) (by decide) (backOf (W := 0) (rm14_addAll l Z a0 hw b17 a2 h53 n0 O56 (f63) (f64) ((Nat.lt_of_lt_of_le lt_12 z68)) (f69)) hZ (W 111 rfl) (W 26 rfl) (by decide) (by decide)) q62a q62b q62c (g := (mkF m 47 #[rv a1, rv a2, rv a3] [(.ref a2), (.ref b17)])) rfl (by rw [hml]; rfl) (Steps.refl _) (argsL := [(.ref a2)]) (rest := []) (lenOf pd_139 rfl) rfl (by show 2 * 0 + _ ≤ _; exact Nat.le_of_eq rfl) (hb hby d_95) (fun _ _ => ⟨rfl, e60, (by decide : 5 + 1 ≤ _), (by decide : 37 + 4 ≤ _)⟩)
  dsimp only [Pt.U, Pt.locs, Pt.cells, Pt.slots] at X62 l62 y62 z62 st62 hQ62
  subst l62 y62 z62
  obtain ⟨rfl, N62q, K62⟩ := hQ62
  have N71 := Fr.app N59 N62q
  have O72 := O56.keep K62 all0
  have K73 : Keep h0 T62.heap [a1] := Keep.trans K57 K62 all0
  have f74 := ((((((((((A2.keep K5).wr W10).ext E17).keep K20).wr W28).ext E35).keep K38).wr W46).wr W53).keep K62)
  have z75 : h2.size ≤ T5.heap.size := K5.1
  have z76 : h2.size ≤ h10.size := (Nat.le_trans z75 (Nat.le_of_eq W10.size.symm))
  have z77 : h2.size ≤ h17.size := (Nat.le_trans z76 E17.1)
  have z78 : h2.size ≤ T20.heap.size := (Nat.le_trans z77 K20.1)
  have z79 : h2.size ≤ h28.size := (Nat.le_trans z78 (Nat.le_of_eq W28.size.symm))
  have f80 := (((((((((F5_2.other W10 (Or.inl (Ne.symm (Nat.ne_of_lt (Nat.lt_of_lt_of_le lt_4 (Nat.le_of_eq g2.symm)))))).ext E17).keep K20 (ninS (Nat.ne_of_lt (Nat.lt_of_lt_of_le (Nat.lt_of_lt_of_le A2.lt z76) (Nat.le_of_eq g17.symm))) nin0)).other W28 (Or.inl (Ne.symm (Nat.ne_of_lt (Nat.lt_of_lt_of_le lt_4 (Nat.le_of_eq g2.symm)))))).ext E35).keep K38 (ninS (Nat.ne_of_lt (Nat.lt_of_lt_of_le (Nat.lt_of_lt_of_le A2.lt z79) (Nat.le_of_eq g35.symm))) nin0)).other W46 (Or.inl (Ne.symm (Nat.ne_of_lt (Nat.lt_of_lt_of_le lt_4 (Nat.le_of_eq g2.symm)))))).other W53 (Or.inl (Ne.symm (Nat.ne_of_lt (Nat.lt_of_lt_of_le lt_4 (Nat.le_of_eq g2.symm)))))).keep K62 nin0)
  have f81 := (((((((((F5_3.other W10 (Or.inl (Ne.symm (Nat.ne_of_lt (Nat.lt_of_lt_of_le lt_4 (Nat.le_of_eq g2.symm)))))).ext E17).keep K20 (ninS (Nat.ne_of_lt (Nat.lt_of_lt_of_le (Nat.lt_of_lt_of_le A2.lt z76) (Nat.le_of_eq g17.symm))) nin0)).other W28 (Or.inl (Ne.symm (Nat.ne_of_lt (Nat.lt_of_lt_of_le lt_4 (Nat.le_of_eq g2.symm)))))).ext E35).keep K38 (ninS (Nat.ne_of_lt (Nat.lt_of_lt_of_le (Nat.lt_of_lt_of_le A2.lt z79) (Nat.le_of_eq g35.symm))) nin0)).other W46 (Or.inl (Ne.symm (Nat.ne_of_lt (Nat.lt_of_lt_of_le lt_4 (Nat.le_of_eq g2.symm)))))).other W53 (Or.inl (Ne.symm (Nat.ne_of_lt (Nat.lt_of_lt_of_le lt_4 (Nat.le_of_eq g2.symm)))))).keep K62 nin0)
  have f82 := (((((((((F5_4.other W10 (Or.inl (Ne.symm (Nat.ne_of_lt (Nat.lt_of_lt_of_le lt_4 (Nat.le_of_eq g2.symm)))))).ext E17).keep K20 (ninS (Nat.ne_of_lt (Nat.lt_of_lt_of_le (Nat.lt_of_lt_of_le A2.lt z76) (Nat.le_of_eq g17.symm))) nin0)).other W28 (Or.inl (Ne.symm (Nat.ne_of_lt (Nat.lt_of_lt_of_le lt_4 (Nat.le_of_eq g2.symm)))))).ext E35).keep K38 (ninS (Nat.ne_of_lt (Nat.lt_of_lt_of_le (Nat.lt_of_lt_of_le A2.lt z79) (Nat.le_of_eq g35.symm))) nin0)).other W46 (Or.inl (Ne.symm (Nat.ne_of_lt (Nat.lt_of_lt_of_le lt_4 (Nat.le_of_eq g2.symm)))))).other W53 (Or.inl (Ne.symm (Nat.ne_of_lt (Nat.lt_of_lt_of_le lt_4 (Nat.le_of_eq g2.symm)))))).keep K62 nin0)
  have z83 : T5.heap.size ≤ h10.size := (Nat.le_of_eq W10.size.symm)
  have z84 : T5.heap.size ≤ h17.size := (Nat.le_trans z83 E17.1)
  have z85 : T5.heap.size ≤ T20.heap.size := (Nat.le_trans z84 K20.1)
  have z86 : T5.heap.size ≤ h28.size := (Nat.le_trans z85 (Nat.le_of_eq W28.size.symm))
  have f87 := (((((((((F5_0.other W10 (Ne.symm (Nat.ne_of_lt (Nat.lt_of_lt_of_le (Nat.lt_of_lt_of_le lt_4 z21) gb5_0)))).ext E17).keep K20 (ninS (Nat.ne_of_lt (Nat.lt_of_lt_of_le (Nat.lt_of_lt_of_le F5_0.lt z83) (Nat.le_of_eq g17.symm))) nin0)).other W28 (Ne.symm (Nat.ne_of_lt (Nat.lt_of_lt_of_le (Nat.lt_of_lt_of_le lt_4 z21) gb5_0)))).ext E35).keep K38 (ninS (Nat.ne_of_lt (Nat.lt_of_lt_of_le (Nat.lt_of_lt_of_le F5_0.lt z86) (Nat.le_of_eq g35.symm))) nin0)).other W46 (Ne.symm (Nat.ne_of_lt (Nat.lt_of_lt_of_le (Nat.lt_of_lt_of_le lt_4 z21) gb5_0)))).other W53 (Ne.symm (Nat.ne_of_lt (Nat.lt_of_lt_of_le (Nat.lt_of_lt_of_le lt_4 z21) gb5_0)))).keep K62 nin0)
  have f88 := (((((((((F5_1.wr W10).ext E17).keep K20).wr W28).ext E35).keep K38).wr W46).wr W53).keep K62)
  have f89 := (f70.keep K62)
  have z90 : h17.size ≤ T20.heap.size := K20.1
  have z91 : h17.size ≤ h28.size := (Nat.le_trans z90 (Nat.le_of_eq W28.size.symm))
  have f92 := ((((((F20_2.other W28 (Or.inl (Ne.symm (Nat.ne_of_lt (Nat.lt_of_lt_of_le (Nat.lt_of_lt_of_le lt_4 z23) (Nat.le_of_eq g17.symm)))))).ext E35).keep K38 (ninS (Nat.ne_of_lt (Nat.lt_of_lt_of_le (Nat.lt_of_lt_of_le A17.lt z91) (Nat.le_of_eq g35.symm))) nin0)).other W46 (Or.inl (Ne.symm (Nat.ne_of_lt (Nat.lt_of_lt_of_le (Nat.lt_of_lt_of_le lt_4 z23) (Nat.le_of_eq g17.symm)))))).other W53 (Or.inl (Ne.symm (Nat.ne_of_lt (Nat.lt_of_lt_of_le (Nat.lt_of_lt_of_le lt_4 z23) (Nat.le_of_eq g17.symm)))))).keep K62 nin0)
  have f93 := ((((((F20_0.wr W28).ext E35).keep K38).wr W46).wr W53).keep K62)
  have z94 : T20.heap.size ≤ h28.size := (Nat.le_of_eq W28.size.symm)
  have f95 := ((((((F20_1.other W28 (Or.inl (Ne.symm (Nat.ne_of_lt (Nat.lt_of_lt_of_le (Nat.lt_of_lt_of_le lt_4 z39) gb20_0))))).ext E35).keep K38 (ninS (Nat.ne_of_lt (Nat.lt_of_lt_of_le (Nat.lt_of_lt_of_le F20_0.lt z94) (Nat.le_of_eq g35.symm))) nin0)).other W46 (Or.inl (Ne.symm (Nat.ne_of_lt (Nat.lt_of_lt_of_le (Nat.lt_of_lt_of_le lt_4 z39) gb20_0))))).other W53 (Or.inl (Ne.symm (Nat.ne_of_lt (Nat.lt_of_lt_of_le (Nat.lt_of_lt_of_le lt_4 z39) gb20_0))))).keep K62 nin0)
  have f96 := ((((A35.keep K38).wr W46).wr W53).keep K62)
  have f97 := (((F38_0.other W46 (Or.inl (Ne.symm (Nat.ne_of_lt (Nat.lt_of_lt_of_le (Nat.lt_of_lt_of_le lt_4 z41) (Nat.le_of_eq g35.symm)))))).other W53 (Or.inl (Ne.symm (Nat.ne_of_lt (Nat.lt_of_lt_of_le (Nat.lt_of_lt_of_le lt_4 z41) (Nat.le_of_eq g35.symm)))))).keep K62 nin0)
  have f98 := ((((((((f15.ext E17).keep K20 (ninS (Nat.ne_of_lt (Nat.lt_of_lt_of_le (Nat.lt_of_lt_of_le lt_4 z23) (Nat.le_of_eq g17.symm))) nin0)).other W28 (Or.inr (slot_ne (Or.inr (W 61 rfl)) (Or.inr (W 96 rfl)) (by decide) (t := (.object "java/lang/StringBuilder")) (t' := (.object "java/util/Set")) (by decide) (by decide)))).ext E35).keep K38 (ninS (Nat.ne_of_lt (Nat.lt_of_lt_of_le (Nat.lt_of_lt_of_le lt_4 z41) (Nat.le_of_eq g35.symm))) nin0)).other W46 (Or.inr (slot_ne (Or.inr (W 61 rfl)) (Or.inr (W 100 rfl)) (by decide) (t := (.object "java/lang/StringBuilder")) (t' := (.object "java/util/Map")) (by decide) (by decide)))).other W53 (Or.inr (slot_ne (Or.inr (W 61 rfl)) (Or.inr (W 102 rfl)) (by decide) (t := (.object "java/lang/StringBuilder")) (t' := (.object "com/example/temporal_query_rewriter/temporalqueryrewriter/Engine")) (by decide) (by decide)))).keep K62 nin0)
  have f99 := (f61.keep K62 nin0)
  have f100 := ((f51.other W53 (Or.inr (slot_ne (Or.inr (W 100 rfl)) (Or.inr (W 102 rfl)) (by decide) (t := (.object "java/util/Map")) (t' := (.object "com/example/temporal_query_rewriter/temporalqueryrewriter/Engine")) (by decide) (by decide)))).keep K62 nin0)
  have f101 := (f58.keep K62 nin0)
  refine ⟨T62, none, _, _, _, X62, by decide, by decide, (fun _ => rfl), ?_, fun fs hr => castTop (ef_142 m a1 a2 a3) ?_⟩
  · show Q15_init Z a1 a2 a3 p4 h0 n0 _ T62.heap _
    exact ⟨b2, b5_b1_b3, b17, b20_b3, b35, k5_k1_k3, rfl, N71, K73, (Nat.le_of_eq g2.symm), (Nat.le_trans z21 gb5_0), (Nat.le_trans z23 (Nat.le_of_eq g17.symm)), (Nat.le_trans z39 gb20_0), (Nat.le_trans z41 (Nat.le_of_eq g35.symm)), f74, f80, f81, f82, f87, f88, f89, f92, f93, f95, f96, f97, f98, f99, f100, f101⟩
  · show SS p e below s₁ m 0 #[rv a1, rv a2, rv a3] [] _
    refine XS.aloadN X0.here hx rfl (hb hby d_27) rfl rfl ?_
    show SS p e below s₁ m 1 #[rv a1, rv a2, rv a3] [(.ref a1)] _
    refine st1 _ ?_
    show SS p e below T1 m 4 #[rv a1, rv a2, rv a3] [] _
    refine XS.aloadN X1.here hx rfl (hb hby d_29) rfl rfl ?_
    show SS p e below T1 m 5 #[rv a1, rv a2, rv a3] [(.ref a1)] _
    refine st2 _ ?_
    show SS p e below T2 m 8 #[rv a1, rv a2, rv a3] [(.ref b2), (.ref a1)] _
    refine XS.dup X2.here hx rfl (hb hby d_31) rfl rfl ?_
    show SS p e below T2 m 9 #[rv a1, rv a2, rv a3] [(.ref b2), (.ref b2), (.ref a1)] _
    refine st5 _ ?_
    show SS p e below T5 m 12 #[rv a1, rv a2, rv a3] [(.ref b2), (.ref a1)] _
    refine st10 _ ?_
    show SS p e below T10 m 15 #[rv a1, rv a2, rv a3] [] _
    refine XS.aloadN X10.here hx rfl (hb hby d_55) rfl rfl ?_
    show SS p e below T10 m 16 #[rv a1, rv a2, rv a3] [(.ref a1)] _
    refine st17 _ ?_
    show SS p e below T17 m 19 #[rv a1, rv a2, rv a3] [(.ref b17), (.ref a1)] _
    refine XS.dup X17.here hx rfl (hb hby d_57) rfl rfl ?_
    show SS p e below T17 m 20 #[rv a1, rv a2, rv a3] [(.ref b17), (.ref b17), (.ref a1)] _
    refine st20 _ ?_
    show SS p e below T20 m 23 #[rv a1, rv a2, rv a3] [(.ref b17), (.ref a1)] _
    refine st28 _ ?_
    show SS p e below T28 m 26 #[rv a1, rv a2, rv a3] [] _
    refine XS.aloadN X28.here hx rfl (hb hby d_84) rfl rfl ?_
    show SS p e below T28 m 27 #[rv a1, rv a2, rv a3] [(.ref a1)] _
    refine st35 _ ?_
    show SS p e below T35 m 30 #[rv a1, rv a2, rv a3] [(.ref b35), (.ref a1)] _
    refine XS.dup X35.here hx rfl (hb hby d_86) rfl rfl ?_
    show SS p e below T35 m 31 #[rv a1, rv a2, rv a3] [(.ref b35), (.ref b35), (.ref a1)] _
    refine st38 _ ?_
    show SS p e below T38 m 34 #[rv a1, rv a2, rv a3] [(.ref b35), (.ref a1)] _
    refine st46 _ ?_
    show SS p e below T46 m 37 #[rv a1, rv a2, rv a3] [] _
    refine XS.aloadN X46.here hx rfl (hb hby d_89) rfl rfl ?_
    refine XS.aloadN X46.here hx rfl (hb hby d_90) rfl rfl ?_
    show SS p e below T46 m 39 #[rv a1, rv a2, rv a3] [(.ref a3), (.ref a1)] _
    refine st53 _ ?_
    show SS p e below T53 m 42 #[rv a1, rv a2, rv a3] [] _
    refine XS.aloadN X53.here hx rfl (hb hby d_92) rfl rfl ?_
    show SS p e below T53 m 43 #[rv a1, rv a2, rv a3] [(.ref a1)] _
    refine st60 _ ?_
    show SS p e below T60 m 46 #[rv a1, rv a2, rv a3] [(.ref b17)] _
    refine XS.aloadN X60.here hx rfl (hb hby d_94) rfl rfl ?_
    show SS p e below T60 m 47 #[rv a1, rv a2, rv a3] [(.ref a2), (.ref b17)] _
    refine st62.trans ?_
    show SS p e below T62 m 52 #[rv a1, rv a2, rv a3] [(.int (0 : Int32))] _
    refine XS.pop X62.here hx rfl (hb hby d_140) rfl rfl ?_
    show SS p e below T62 m 53 #[rv a1, rv a2, rv a3] [] _
    exact X62.returnOut hx hret (hb hby d_141) hr
theorem pd_144 : parseMethodDescriptor "(Ljava/util/Collection;Lcom/example/temporal_query_rewriter/temporalqueryrewriter/Engine;)V" = some ⟨[(.object "java/util/Collection"), (.object "com/example/temporal_query_rewriter/temporalqueryrewriter/Engine")], none⟩ := by decide +kernel
theorem d_145 : decode prog_16_method_1_code 0 = .ok (.aload_n 0, 1) := by decide +kernel
theorem d_146 : decode prog_16_method_1_code 1 = .ok (.invokevirtual 1, 3) := by decide +kernel
theorem d_147 : decode prog_4_method_8_code 0 = .ok (.aload_n 0, 1) := by decide +kernel
theorem d_148 : decode prog_4_method_8_code 1 = .ok (.getfield 49, 3) := by decide +kernel
theorem d_149 : decode prog_4_method_8_code 4 = .ok (.ireturn, 1) := by decide +kernel
theorem pn_150 : plainName "com/example/temporal_query_rewriter/temporalqueryrewriter/Engine" = true := by first | (simp [plainName, overriddenIn]; done) | decide +kernel
-- com/example/temporal_query_rewriter/temporalqueryrewriter/Engine.windowAggregates()Z
def Q16_windowAggregates (Z : State) (a1 : Addr) (h0 : Heap) (n0 : Nat) (v : Option Value) (h : Heap) (L : List Loc) : Prop := v = some (.int (1 : Int32)) ∧ Fr n0 L ∧ h = h0
set_option maxRecDepth 65536 in
set_option maxHeartbeats 40000000 in
theorem rm16_windowAggregates (l : Launch) (Z : State) (a0 : Array Value) (hw : HW Z a0) (a1 : Addr) (h0 : Heap) (n0 : Nat) (O0 : Old Z n0 h0) (F_0 : FA51 Z Z.heap a1 (.int (1 : Int32))) :
    Met l Z [] Y18 prog_4_method_8_code 1 (some .boolean) ({ frames := 0, cells := 0, slots := 0, locals := 0 } : Room) #[(.ref a1)] h0 (Q16_windowAggregates Z a1 h0 n0) := by
  have W := fun (i : Nat) {c : Jvm.Cond} (q : tables_1[i]? = some c) => hw c (List.mem_of_getElem? q)
  refine own_mk (plainFor_of_name pn_150) ?_
  intro p e s m below meth c s₁ hZ hx hby hml hown hnm hret hlk X0 e0
  have N0 := Fr.nil n0
  obtain ⟨T1, X1, e1, st1⟩ := getF X0 hx hZ hown (host := "") (Or.inl (W 159 rfl)) Via.refl e0 (F_0.ext O0.2) (g := (mkF m 1 #[rv a1] [(.ref a1)])) rfl rfl (hb hby d_148)
  refine ⟨T1, some (.int (1 : Int32)), _, _, _, X1, by decide, by decide, nofun, ?_, fun fs hr => castTop (ef_14 m a1) ?_⟩
  · show Q16_windowAggregates Z a1 h0 n0 _ T1.heap _
    rw [e1]
    exact ⟨rfl, N0, rfl⟩
  · show SS p e below s₁ m 0 #[rv a1] [] _
    refine XS.aloadN X0.here hx rfl (hb hby d_147) rfl rfl ?_
    show SS p e below s₁ m 1 #[rv a1] [(.ref a1)] _
    refine st1 _ ?_
    show SS p e below T1 m 4 #[rv a1] [(.int (1 : Int32))] _
    exact retN X1 hx (t := .boolean) hret (by simp) (hb hby d_149) hr
theorem d_151 : decode prog_16_method_1_code 4 = .ok (.ifCond .eq 14, 3) := by decide +kernel
theorem d_152 : decode prog_16_method_1_code 7 = .ok (.new 7, 3) := by decide +kernel
theorem d_153 : decode prog_16_method_1_code 10 = .ok (.dup, 1) := by decide +kernel
theorem d_154 : decode prog_16_method_1_code 11 = .ok (.aload_n 1, 1) := by decide +kernel
theorem d_155 : decode prog_16_method_1_code 12 = .ok (.invokespecial 9, 3) := by decide +kernel
theorem d_156 : decode prog_63_method_1_code 0 = .ok (.aload_n 0, 1) := by decide +kernel
theorem d_157 : decode prog_63_method_1_code 1 = .ok (.invokespecial 1, 3) := by decide +kernel
theorem d_158 : decode prog_63_method_1_code 4 = .ok (.aload_n 0, 1) := by decide +kernel
theorem d_159 : decode prog_63_method_1_code 5 = .ok (.aload_n 1, 1) := by decide +kernel
theorem d_160 : decode prog_63_method_1_code 6 = .ok (.putfield 7, 3) := by decide +kernel
theorem d_161 : decode prog_63_method_1_code 9 = .ok (.return_, 1) := by decide +kernel
theorem pn_162 : plainName "com/example/temporal_query_rewriter/temporalqueryrewriter/WindowIslands" = true := by first | (simp [plainName, overriddenIn]; done) | decide +kernel
-- com/example/temporal_query_rewriter/temporalqueryrewriter/WindowIslands.<init>(Lcom/example/temporal_query_rewriter/temporalqueryrewriter/WithQuery;)V
def Q17_init (Z : State) (a1 : Addr) (a2 : Addr) (h0 : Heap) (n0 : Nat) (v : Option Value) (h : Heap) (L : List Loc) : Prop := v = none ∧ Fr n0 L ∧ Keep h0 h [a1] ∧ FA52 Z h a1 (.ref a2)
set_option maxRecDepth 65536 in
set_option maxHeartbeats 40000000 in
theorem rm17_init (l : Launch) (Z : State) (a0 : Array Value) (hw : HW Z a0) (a1 : Addr) (a2 : Addr) (h0 : Heap) (n0 : Nat) (O0 : Old Z n0 h0) (F_0 : EA64 Z h0 a1) (F_1 : FA52 Z h0 a1 .null) (g_2 : n0 ≤ a1) :
    Met l Z [] Y19 prog_63_method_1_code 2 none ({ frames := 1, cells := 0, slots := 0, locals := 12 } : Room) #[(.ref a1), (.ref a2)] h0 (Q17_init Z a1 a2 h0 n0) := by
  have W := fun (i : Nat) {c : Jvm.Cond} (q : tables_1[i]? = some c) => hw c (List.mem_of_getElem? q)
  refine own_mk (plainFor_of_name pn_162) ?_
  intro p e s m below meth c s₁ hZ hx hby hml hown hnm hret hlk X0 e0
  have N0 := Fr.nil n0
  obtain ⟨T1, X1, e1, st1⟩ := initO X0 hx hZ hown (W 167 rfl) (W 29 rfl) (W 30 rfl) e0 (g := (mkF m 1 #[rv a1, rv a2] [(.ref a1)])) rfl (by rw [hml]; rfl) rfl (hb hby d_157) (by decide) (W := 0) (by show 2 * 0 + _ ≤ _; exact Nat.le_of_eq rfl) (by decide)
  obtain ⟨T2, h2, X2, e2, W2, st2⟩ := putF X1 hx hZ hown (host := "") (Or.inl (W 168 rfl)) Via.refl e1 F_1 F_0 (Or.inr ⟨(W 169 rfl), rfl, hnm⟩) (W 162 rfl) (ty := (.object "com/example/temporal_query_rewriter/temporalqueryrewriter/WithQuery")) (by decide) rfl rfl (g := (mkF m 6 #[rv a1, rv a2] [(.ref a2), (.ref a1)])) rfl rfl (hb hby d_160)
  have O3 := O0.wr W2 g_2
  have K4 : Keep h0 h2 [a1] := Keep.wr (Keep.refl h0 [a1]) W2 (Or.inl (List.mem_of_getElem? (i := 0) rfl))
  have f5 : FA52 Z h2 a1 (.ref a2) := (F_1.same W2)
  have N6 := Fr.snoc X2 N0 g_2
  refine ⟨T2, none, _, _, _, X2, by decide, by decide, (fun _ => rfl), ?_, fun fs hr => castTop (ef_118 m a1 a2) ?_⟩
  · show Q17_init Z a1 a2 h0 n0 _ T2.heap _
    rw [e2]
    exact ⟨rfl, N6, K4, f5⟩
  · show SS p e below s₁ m 0 #[rv a1, rv a2] [] _
    refine XS.aloadN X0.here hx rfl (hb hby d_156) rfl rfl ?_
    show SS p e below s₁ m 1 #[rv a1, rv a2] [(.ref a1)] _
    refine st1 _ ?_
    show SS p e below T1 m 4 #[rv a1, rv a2] [] _
    refine XS.aloadN X1.here hx rfl (hb hby d_158) rfl rfl ?_
    refine XS.aloadN X1.here hx rfl (hb hby d_159) rfl rfl ?_
    show SS p e below T1 m 6 #[rv a1, rv a2] [(.ref a2), (.ref a1)] _
    refine st2 _ ?_
    show SS p e below T2 m 9 #[rv a1, rv a2] [] _
    exact X2.returnOut hx hret (hb hby d_161) hr
theorem pd_163 : parseMethodDescriptor "(Lcom/example/temporal_query_rewriter/temporalqueryrewriter/WithQuery;)V" = some ⟨[(.object "com/example/temporal_query_rewriter/temporalqueryrewriter/WithQuery")], none⟩ := by decide +kernel
theorem d_164 : decode prog_16_method_1_code 15 = .ok (.goto 12, 3) := by decide +kernel
theorem d_165 : decode prog_16_method_1_code 27 = .ok (.areturn, 1) := by decide +kernel
theorem pn_166 : plainName "com/example/temporal_query_rewriter/temporalqueryrewriter/Islands" = true := by first | (simp [plainName, overriddenIn]; done) | decide +kernel
-- com/example/temporal_query_rewriter/temporalqueryrewriter/Islands.of(Lcom/example/temporal_query_rewriter/temporalqueryrewriter/Engine;Lcom/example/temporal_query_rewriter/temporalqueryrewriter/WithQuery;)Lcom/example/temporal_query_rewriter/temporalqueryrewriter/Islands;
def Q18_of (Z : State) (a1 : Addr) (a2 : Addr) (h0 : Heap) (n0 : Nat) (v : Option Value) (h : Heap) (L : List Loc) : Prop := ∃ (b3 : Addr), v = some (.ref b3) ∧ Fr n0 L ∧ Keep h0 h [] ∧ h0.size ≤ b3 ∧ EA64 Z h b3 ∧ FA52 Z h b3 (.ref a2)
set_option maxRecDepth 65536 in
set_option maxHeartbeats 40000000 in
theorem rm18_of (l : Launch) (Z : State) (a0 : Array Value) (hw : HW Z a0) (a1 : Addr) (a2 : Addr) (h0 : Heap) (n0 : Nat) (O0 : Old Z n0 h0) (F_0 : EA65 Z Z.heap a1) (F_1 : FA51 Z Z.heap a1 (.int (1 : Int32))) :
    Met l Z [] Y20 prog_16_method_1_code 2 (some (.object "com/example/temporal_query_rewriter/temporalqueryrewriter/Islands")) ({ frames := 2, cells := 1, slots := 1, locals := 26 } : Room) #[(.ref a1), (.ref a2)] h0 (Q18_of Z a1 a2 h0 n0) := by
  have W := fun (i : Nat) {c : Jvm.Cond} (q : tables_1[i]? = some c) => hw c (List.mem_of_getElem? q)
  refine own_mk (plainFor_of_name pn_166) ?_
  intro p e s m below meth c s₁ hZ hx hby hml hown hnm hret hlk X0 e0
  have N0 := Fr.nil n0
  obtain ⟨_, T1, L1, X1, hQ1, st1⟩ := own_cv X0 hx hZ hown hml (W 154 rfl) (W 155 rfl) (notFace_of_selects (W 157 rfl)) (W 157 rfl) (W 156 rfl) (W 5 rfl) (W 158 rfl) (rm16_windowAggregates l Z a0 hw a1 h0 n0 O0 (F_1)) e0 (F_0.ext O0.2) (hb hby d_146) 0 #[rv a1, rv a2] [] [] pd_134 (by decide) rfl rfl rfl (Nat.le_of_eq rfl)
  obtain ⟨rfl, N1q, K1⟩ := hQ1
  have N2 := Fr.app N0 N1q
  obtain ⟨T3, h3, X3, e3, E3, A3, D3, -, st3⟩ := newO X1 hx hZ hown (W 161 rfl) (W 162 rfl) (W 163 rfl) K1 (g := (mkF m 7 #[rv a1, rv a2] [])) rfl (hb hby d_152) (by decide) (by decide)
  obtain ⟨b3, g3⟩ : ∃ z, z = h0.size := ⟨_, rfl⟩
  rw [← g3] at A3 D3 st3
  have O4 := O0.ext E3
  have K5 : Keep h0 h3 [] := Keep.ext (Keep.refl h0 []) E3
  have g7 : n0 ≤ b3 := Nat.le_trans (Nat.le_trans (Nat.le_of_eq O0.1.symm) O0.2.1) (Nat.le_of_eq g3.symm)
  obtain ⟨_, T6, L6, X6, hQ6, st6⟩ := own_cp X3 hx hZ hown hml rfl (W 164 rfl) (W 165 rfl) (W 163 rfl) (W 166 rfl) (rm17_init l Z a0 hw b3 a2 h3 n0 O4 (A3) ((D3 (Or.inr (W 169 rfl)) (ty := (.object "com/example/temporal_query_rewriter/temporalqueryrewriter/WithQuery")) (by decide) : FA52 Z h3 b3 .null)) (g7)) e3 (hb hby d_155) 1 #[rv a1, rv a2] b3 [(.ref a2)] [(.ref b3)] pd_163 (by decide) rfl rfl rfl (Nat.le_of_eq rfl)
  obtain ⟨rfl, N6q, K6, F6_0⟩ := hQ6
  have N8 := Fr.app N2 N6q
  have O9 := O4.keep K6 (allS g7 all0)
  have K10 : Keep h0 T6.heap [] := Keep.trans K5 K6 (allS (Or.inr (Nat.le_of_eq g3.symm)) all0)
  have f11 := (A3.keep K6)
  refine ⟨T6, some (.ref b3), _, _, _, X6, by decide, by decide, nofun, ?_, fun fs hr => castTop (ef_118 m a1 a2) ?_⟩
  · show Q18_of Z a1 a2 h0 n0 _ T6.heap _
    exact ⟨b3, rfl, N8, K10, (Nat.le_of_eq g3.symm), f11, F6_0⟩
  · show SS p e below s₁ m 0 #[rv a1, rv a2] [] _
    refine XS.aloadN X0.here hx rfl (hb hby d_145) rfl rfl ?_
    show SS p e below s₁ m 1 #[rv a1, rv a2] [(.ref a1)] _
    refine st1 _ ?_
    show SS p e below T1 m 4 #[rv a1, rv a2] [(.int (1 : Int32))] _
    refine XS.ifNo X1.here hx rfl (hb hby d_151) rfl ((if0 _ _).trans (feq (by decide : ¬ ((1 : Int32) = (0 : Int32)))).1) ?_
    show SS p e below T1 m 7 #[rv a1, rv a2] [] _
    refine st3 _ ?_
    show SS p e below T3 m 10 #[rv a1, rv a2] [(.ref b3)] _
    refine XS.dup X3.here hx rfl (hb hby d_153) rfl rfl ?_
    refine XS.aloadN X3.here hx rfl (hb hby d_154) rfl rfl ?_
    show SS p e below T3 m 12 #[rv a1, rv a2] [(.ref a2), (.ref b3), (.ref b3)] _
    refine st6 _ ?_
    show SS p e below T6 m 15 #[rv a1, rv a2] [(.ref b3)] _
    refine XS.goto X6.here hx rfl (pc0 := 15) (pc' := 27) rfl (hb hby d_164) (by decide) (by decide) ?_
    show SS p e below T6 m 27 #[rv a1, rv a2] [(.ref b3)] _
    exact retOut X6 hx hret rfl (Or.inr (Or.inr (Or.inr (Or.inr ⟨rfl, rfl, rfl⟩)))) (hb hby d_165) hr
theorem pd_167 : parseMethodDescriptor "(Lcom/example/temporal_query_rewriter/temporalqueryrewriter/Engine;Lcom/example/temporal_query_rewriter/temporalqueryrewriter/WithQuery;)Lcom/example/temporal_query_rewriter/temporalqueryrewriter/Islands;" = some ⟨[(.object "com/example/temporal_query_rewriter/temporalqueryrewriter/Engine"), (.object "com/example/temporal_query_rewriter/temporalqueryrewriter/WithQuery")], some (.object "com/example/temporal_query_rewriter/temporalqueryrewriter/Islands")⟩ := by decide +kernel
theorem d_168 : decode prog_65_method_7_code 0 = .ok (.aload_n 0, 1) := by decide +kernel
theorem d_169 : decode prog_65_method_7_code 1 = .ok (.getfield 10, 3) := by decide +kernel
theorem d_170 : decode prog_65_method_7_code 4 = .ok (.invokevirtual 144, 3) := by decide +kernel
theorem d_171 : decode jdk_67_method_42_code 0 = .ok (.new 18, 3) := by decide +kernel
theorem d_172 : decode jdk_67_method_42_code 3 = .ok (.dup, 1) := by decide +kernel
theorem d_173 : decode jdk_67_method_42_code 4 = .ok (.aload_n 0, 1) := by decide +kernel
theorem d_174 : decode jdk_67_method_42_code 5 = .ok (.invokespecial 137, 3) := by decide +kernel
theorem d_175 : decode jdk_42_method_53_code 0 = .ok (.aload_n 0, 1) := by decide +kernel
theorem d_176 : decode jdk_42_method_53_code 1 = .ok (.aload_n 1, 1) := by decide +kernel
theorem d_177 : decode jdk_42_method_53_code 2 = .ok (.aconst_null, 1) := by decide +kernel
theorem d_178 : decode jdk_42_method_53_code 3 = .ok (.invokespecial 489, 3) := by decide +kernel
theorem d_179 : decode jdk_42_method_150_code 0 = .ok (.aload_n 0, 1) := by decide +kernel
theorem d_180 : decode jdk_42_method_150_code 1 = .ok (.invokespecial 1, 3) := by decide +kernel
theorem d_181 : decode jdk_42_method_150_code 4 = .ok (.aload_n 1, 1) := by decide +kernel
theorem d_182 : decode jdk_42_method_150_code 5 = .ok (.invokevirtual 552, 3) := by decide +kernel
theorem d_183 : decode jdk_68_method_64_code 0 = .ok (.aload_n 0, 1) := by decide +kernel
theorem d_184 : decode jdk_68_method_64_code 1 = .ok (.getfield 15, 3) := by decide +kernel
theorem d_185 : decode jdk_68_method_64_code 4 = .ok (.areturn, 1) := by decide +kernel
-- java/lang/AbstractStringBuilder.getValue()[B
def Q19_getValue (Z : State) (a1 : Addr) (a2 : Addr) (h0 : Heap) (n0 : Nat) (v : Option Value) (h : Heap) (L : List Loc) : Prop := v = some (.ref a2) ∧ Fr n0 L ∧ h = h0
set_option maxRecDepth 65536 in
set_option maxHeartbeats 40000000 in
theorem rm19_getValue (l : Launch) (Z : State) (a0 : Array Value) (hw : HW Z a0) (a1 : Addr) (a2 : Addr) (h0 : Heap) (n0 : Nat) (O0 : Old Z n0 h0) (F_0 : FA38 Z h0 a1 (.ref a2)) :
    Met l Z [] Y21 jdk_68_method_64_code 1 (some (.array .byte)) ({ frames := 0, cells := 0, slots := 0, locals := 0 } : Room) #[(.ref a1)] h0 (Q19_getValue Z a1 a2 h0 n0) := by
  have W := fun (i : Nat) {c : Jvm.Cond} (q : tables_1[i]? = some c) => hw c (List.mem_of_getElem? q)
  refine own_mk (plainFor_of_name pn_50) ?_
  intro p e s m below meth c s₁ hZ hx hby hml hown hnm hret hlk X0 e0
  have N0 := Fr.nil n0
  obtain ⟨T1, X1, e1, st1⟩ := getF X0 hx hZ hown (host := "") (Or.inl (W 56 rfl)) Via.refl e0 F_0 (g := (mkF m 1 #[rv a1] [(.ref a1)])) rfl rfl (hb hby d_184)
  refine ⟨T1, some (.ref a2), _, _, _, X1, by decide, by decide, nofun, ?_, fun fs hr => castTop (ef_14 m a1) ?_⟩
  · show Q19_getValue Z a1 a2 h0 n0 _ T1.heap _
    rw [e1]
    exact ⟨rfl, N0, rfl⟩
  · show SS p e below s₁ m 0 #[rv a1] [] _
    refine XS.aloadN X0.here hx rfl (hb hby d_183) rfl rfl ?_
    show SS p e below s₁ m 1 #[rv a1] [(.ref a1)] _
    refine st1 _ ?_
    show SS p e below T1 m 4 #[rv a1] [(.ref a2)] _
    exact retOut X1 hx hret rfl (Or.inr (Or.inr (Or.inr (Or.inr ⟨rfl, rfl, rfl⟩)))) (hb hby d_185) hr
theorem pd_186 : parseMethodDescriptor "()[B" = some ⟨[], some (.array .byte)⟩ := by decide +kernel
theorem d_187 : decode jdk_42_method_150_code 8 = .ok (.astore_n 3, 1) := by decide +kernel
theorem d_188 : decode jdk_42_method_150_code 9 = .ok (.aload_n 1, 1) := by decide +kernel
theorem d_189 : decode jdk_42_method_150_code 10 = .ok (.invokevirtual 549, 3) := by decide +kernel
theorem d_190 : decode jdk_67_method_93_code 0 = .ok (.aload_n 0, 1) := by decide +kernel
theorem d_191 : decode jdk_67_method_93_code 1 = .ok (.invokespecial 343, 3) := by decide +kernel
theorem d_192 : decode jdk_68_method_6_code 0 = .ok (.aload_n 0, 1) := by decide +kernel
theorem d_193 : decode jdk_68_method_6_code 1 = .ok (.getfield 79, 3) := by decide +kernel
theorem d_194 : decode jdk_68_method_6_code 4 = .ok (.ireturn, 1) := by decide +kernel
-- java/lang/AbstractStringBuilder.length()I
def Q20_length (Z : State) (a1 : Addr) (h0 : Heap) (n0 : Nat) (v : Option Value) (h : Heap) (L : List Loc) : Prop := v = some (.int (0 : Int32)) ∧ Fr n0 L ∧ h = h0
set_option maxRecDepth 65536 in
set_option maxHeartbeats 40000000 in
theorem rm20_length (l : Launch) (Z : State) (a0 : Array Value) (hw : HW Z a0) (a1 : Addr) (h0 : Heap) (n0 : Nat) (O0 : Old Z n0 h0) (F_0 : FA40 Z h0 a1 (.int (0 : Int32))) :
    Met l Z [] Y22 jdk_68_method_6_code 1 (some .int) ({ frames := 0, cells := 0, slots := 0, locals := 0 } : Room) #[(.ref a1)] h0 (Q20_length Z a1 h0 n0) := by
  have W := fun (i : Nat) {c : Jvm.Cond} (q : tables_1[i]? = some c) => hw c (List.mem_of_getElem? q)
  refine own_mk (plainFor_of_name pn_50) ?_
  intro p e s m below meth c s₁ hZ hx hby hml hown hnm hret hlk X0 e0
  have N0 := Fr.nil n0
  obtain ⟨T1, X1, e1, st1⟩ := getF X0 hx hZ hown (host := "") (Or.inl (W 209 rfl)) Via.refl e0 F_0 (g := (mkF m 1 #[rv a1] [(.ref a1)])) rfl rfl (hb hby d_193)
  refine ⟨T1, some (.int (0 : Int32)), _, _, _, X1, by decide, by decide, nofun, ?_, fun fs hr => castTop (ef_14 m a1) ?_⟩
  · show Q20_length Z a1 h0 n0 _ T1.heap _
    rw [e1]
    exact ⟨rfl, N0, rfl⟩
  · show SS p e below s₁ m 0 #[rv a1] [] _
    refine XS.aloadN X0.here hx rfl (hb hby d_192) rfl rfl ?_
    show SS p e below s₁ m 1 #[rv a1] [(.ref a1)] _
    refine st1 _ ?_
    show SS p e below T1 m 4 #[rv a1] [(.int (0 : Int32))] _
    exact retI X1 hx hret (hb hby d_194) hr
theorem pd_195 : parseMethodDescriptor "()I" = some ⟨[], some .int⟩ := by decide +kernel
theorem d_196 : decode jdk_67_method_93_code 4 = .ok (.ireturn, 1) := by decide +kernel
-- java/lang/StringBuilder.length()I
def Q21_length (Z : State) (a1 : Addr) (h0 : Heap) (n0 : Nat) (v : Option Value) (h : Heap) (L : List Loc) : Prop := v = some (.int (0 : Int32)) ∧ Fr n0 L ∧ h = h0
set_option maxRecDepth 65536 in
set_option maxHeartbeats 40000000 in
theorem rm21_length (l : Launch) (Z : State) (a0 : Array Value) (hw : HW Z a0) (a1 : Addr) (h0 : Heap) (n0 : Nat) (O0 : Old Z n0 h0) (F_0 : FA40 Z h0 a1 (.int (0 : Int32))) (F_1 : EA59 Z h0 a1) :
    Met l Z [] Y23 jdk_67_method_93_code 1 (some .int) ({ frames := 1, cells := 0, slots := 0, locals := 12 } : Room) #[(.ref a1)] h0 (Q21_length Z a1 h0 n0) := by
  have W := fun (i : Nat) {c : Jvm.Cond} (q : tables_1[i]? = some c) => hw c (List.mem_of_getElem? q)
  refine own_mk (plainFor_of_name pn_53) ?_
  intro p e s m below meth c s₁ hZ hx hby hml hown hnm hret hlk X0 e0
  have N0 := Fr.nil n0
  obtain ⟨_, _, ⟨T1, L1, k1, n1⟩, -, X1, ⟨Lc1, hQ1, l1, y1, z1⟩, st1⟩ := superBack X0 hx hZ (y := Y22) hown (W 206 rfl) (own_same (y := Y22) (by decide) (W 202 rfl) (own_nf (args := a0) (y := Y21) rfl (W 198 rfl))) (W 202 rfl) (W 207 rfl) (by decide) (backOf (W := 0) (rm20_length l Z a0 hw a1 h0 n0 O0 (F_0)) hZ (W 208 rfl) (W 50 rfl) (by decide) (by decide)) e0 (Ins.self F_1) (g := (mkF m 1 #[rv a1] [(.ref a1)])) rfl (by rw [hml]; rfl) (W 208 rfl) (argsL := []) (rest := []) (lenOf pd_195 rfl) rfl (by show 2 * 0 + _ ≤ _; exact Nat.le_of_eq rfl) (hb hby d_191) (fun _ _ => ⟨rfl, e0, (by decide : 0 + 0 ≤ _), (by decide : 0 + 0 ≤ _)⟩)
  dsimp only [Pt.U, Pt.locs, Pt.cells, Pt.slots] at X1 l1 y1 z1 st1 hQ1
  subst l1 y1 z1
  obtain ⟨rfl, N1q, K1⟩ := hQ1
  have N2 := Fr.app N0 N1q
  refine ⟨T1, some (.int (0 : Int32)), _, _, _, X1, by decide, by decide, nofun, ?_, fun fs hr => castTop (ef_14 m a1) ?_⟩
  · show Q21_length Z a1 h0 n0 _ T1.heap _
    rw [K1]
    exact ⟨rfl, N2, rfl⟩
  · show SS p e below s₁ m 0 #[rv a1] [] _
    refine XS.aloadN X0.here hx rfl (hb hby d_190) rfl rfl ?_
    show SS p e below s₁ m 1 #[rv a1] [(.ref a1)] _
    refine st1.trans ?_
    show SS p e below T1 m 4 #[rv a1] [(.int (0 : Int32))] _
    exact retI X1 hx hret (hb hby d_196) hr
theorem d_197 : decode jdk_42_method_150_code 13 = .ok (.istore 4, 2) := by decide +kernel
theorem d_198 : decode jdk_42_method_150_code 15 = .ok (.aload_n 1, 1) := by decide +kernel
theorem d_199 : decode jdk_42_method_150_code 16 = .ok (.invokevirtual 1047, 3) := by decide +kernel
theorem d_200 : decode jdk_68_method_68_code 0 = .ok (.getstatic 18, 3) := by decide +kernel
theorem d_201 : decode jdk_68_method_68_code 3 = .ok (.ifCond .eq 14, 3) := by decide +kernel
theorem d_202 : decode jdk_68_method_68_code 6 = .ok (.aload_n 0, 1) := by decide +kernel
theorem d_203 : decode jdk_68_method_68_code 7 = .ok (.getfield 22, 3) := by decide +kernel
theorem d_204 : decode jdk_68_method_68_code 10 = .ok (.ifCond .ne 7, 3) := by decide +kernel
theorem d_205 : decode jdk_68_method_68_code 13 = .ok (.iconst 1, 1) := by decide +kernel
theorem d_206 : decode jdk_68_method_68_code 14 = .ok (.goto 4, 3) := by decide +kernel
theorem d_207 : decode jdk_68_method_68_code 18 = .ok (.ireturn, 1) := by decide +kernel
-- java/lang/AbstractStringBuilder.isLatin1()Z
def Q22_isLatin1 (Z : State) (a1 : Addr) (p2 : Int32) (h0 : Heap) (n0 : Nat) (v : Option Value) (h : Heap) (L : List Loc) : Prop := v = some (.int (1 : Int32)) ∧ Fr n0 L ∧ h = h0
set_option maxRecDepth 65536 in
set_option maxHeartbeats 40000000 in
theorem rm22_isLatin1 (l : Launch) (Z : State) (a0 : Array Value) (hw : HW Z a0) (a1 : Addr) (p2 : Int32) (h0 : Heap) (n0 : Nat) (O0 : Old Z n0 h0) (S_0 : SA71 Z Z.heap (.int p2)) (hc_1 : ¬ (p2 = (0 : Int32))) (F_2 : FA39 Z h0 a1 (.int (0 : Int32))) :
    Met l Z [] Y24 jdk_68_method_68_code 1 (some .boolean) ({ frames := 0, cells := 0, slots := 0, locals := 0 } : Room) #[(.ref a1)] h0 (Q22_isLatin1 Z a1 p2 h0 n0) := by
  have W := fun (i : Nat) {c : Jvm.Cond} (q : tables_1[i]? = some c) => hw c (List.mem_of_getElem? q)
  refine own_mk (plainFor_of_name pn_50) ?_
  intro p e s m below meth c s₁ hZ hx hby hml hown hnm hret hlk X0 e0
  have N0 := Fr.nil n0
  obtain ⟨T1, X1, e1, st1⟩ := getS2 X0 hx hZ hown (host := "") (Or.inl (W 53 rfl)) Via.refl e0 (S_0.ext O0.2) (g := (mkF m 0 #[rv a1] [])) rfl (hb hby d_200)
  obtain ⟨T2, X2, e2, st2⟩ := getF X1 hx hZ hown (host := "") (Or.inl (W 58 rfl)) Via.refl e1 F_2 (g := (mkF m 7 #[rv a1] [(.ref a1)])) rfl rfl (hb hby d_203)
  refine ⟨T2, some (.int (1 : Int32)), _, _, _, X2, by decide, by decide, nofun, ?_, fun fs hr => castTop (ef_14 m a1) ?_⟩
  · show Q22_isLatin1 Z a1 p2 h0 n0 _ T2.heap _
    rw [e2]
    exact ⟨rfl, N0, rfl⟩
  · show SS p e below s₁ m 0 #[rv a1] [] _
    refine st1 _ ?_
    show SS p e below T1 m 3 #[rv a1] [(.int p2)] _
    refine XS.ifNo X1.here hx rfl (hb hby d_201) rfl ((if0 _ _).trans (feq hc_1).1) ?_
    show SS p e below T1 m 6 #[rv a1] [] _
    refine XS.aloadN X1.here hx rfl (hb hby d_202) rfl rfl ?_
    show SS p e below T1 m 7 #[rv a1] [(.ref a1)] _
    refine st2 _ ?_
    show SS p e below T2 m 10 #[rv a1] [(.int (0 : Int32))] _
    refine XS.ifNo X2.here hx rfl (hb hby d_204) rfl ((if0 _ _).trans (teq (by decide : (0 : Int32) = (0 : Int32))).2) ?_
    show SS p e below T2 m 13 #[rv a1] [] _
    refine XS.iconst X2.here hx rfl (hb hby d_205) ?_
    refine XS.goto X2.here hx rfl (pc0 := 14) (pc' := 18) rfl (hb hby d_206) (by decide) (by decide) ?_
    show SS p e below T2 m 18 #[rv a1] [(.int (1 : Int32))] _
    exact retN X2 hx (t := .boolean) hret (by simp) (hb hby d_207) hr
theorem d_208 : decode jdk_42_method_150_code 19 = .ok (.ifCond .eq 22, 3) := by decide +kernel
theorem d_209 : decode jdk_42_method_150_code 22 = .ok (.aload_n 0, 1) := by decide +kernel
theorem d_210 : decode jdk_42_method_150_code 23 = .ok (.iconst 0, 1) := by decide +kernel
theorem d_211 : decode jdk_42_method_150_code 24 = .ok (.putfield 15, 3) := by decide +kernel
theorem d_212 : decode jdk_42_method_150_code 27 = .ok (.aload_n 0, 1) := by decide +kernel
theorem d_213 : decode jdk_42_method_150_code 28 = .ok (.aload_n 3, 1) := by decide +kernel
theorem d_214 : decode jdk_42_method_150_code 29 = .ok (.iconst 0, 1) := by decide +kernel
theorem d_215 : decode jdk_42_method_150_code 30 = .ok (.iload 4, 2) := by decide +kernel
theorem d_216 : decode jdk_42_method_150_code 32 = .ok (.invokestatic 54, 3) := by decide +kernel
theorem d_217 : decode jdk_65_method_132_code 0 = .ok (.iload_n 1, 1) := by decide +kernel
theorem d_218 : decode jdk_65_method_132_code 1 = .ok (.ifCond .ne 9, 3) := by decide +kernel
theorem d_219 : decode jdk_65_method_132_code 4 = .ok (.iload_n 2, 1) := by decide +kernel
theorem d_220 : decode jdk_65_method_132_code 5 = .ok (.aload_n 0, 1) := by decide +kernel
theorem d_221 : decode jdk_65_method_132_code 6 = .ok (.arraylength, 1) := by decide +kernel
theorem d_222 : decode jdk_65_method_132_code 7 = .ok (.if_icmp .eq 10, 3) := by decide +kernel
theorem d_223 : decode jdk_65_method_132_code 10 = .ok (.aload_n 0, 1) := by decide +kernel
theorem d_224 : decode jdk_65_method_132_code 11 = .ok (.iload_n 1, 1) := by decide +kernel
theorem d_225 : decode jdk_65_method_132_code 12 = .ok (.iload_n 2, 1) := by decide +kernel
theorem d_226 : decode jdk_65_method_132_code 13 = .ok (.invokestatic 339, 3) := by decide +kernel
theorem d_227 : decode jdk_65_method_133_code 0 = .ok (.iload_n 1, 1) := by decide +kernel
theorem d_228 : decode jdk_65_method_133_code 1 = .ok (.iload_n 2, 1) := by decide +kernel
theorem d_229 : decode jdk_65_method_133_code 2 = .ok (.invokestatic 343, 3) := by decide +kernel
theorem d_230 : decode jdk_65_method_131_code 0 = .ok (.iload_n 1, 1) := by decide +kernel
theorem d_231 : decode jdk_65_method_131_code 1 = .ok (.iload_n 0, 1) := by decide +kernel
theorem d_232 : decode jdk_65_method_131_code 2 = .ok (.if_icmp .ge 35, 3) := by decide +kernel
theorem d_233 : decode jdk_65_method_131_code 37 = .ok (.return_, 1) := by decide +kernel
theorem ef_234 (m : MethodId)  : entryFrame m #[(.int (0 : Int32)), (.int (0 : Int32))] 2 = mkF m 0 #[iv (0 : Int32), iv (0 : Int32)] [] := by first | (simp [entryFrame, mkF, argsToLocals, Value.category]; done) | rfl
theorem pn_235 : plainName "java/util/Arrays" = true := by first | (simp [plainName, overriddenIn]; done) | decide +kernel
-- java/util/Arrays.checkLength(II)V
def Q23_checkLength (Z : State)  (h0 : Heap) (n0 : Nat) (v : Option Value) (h : Heap) (L : List Loc) : Prop := v = none ∧ Fr n0 L ∧ h = h0
set_option maxRecDepth 65536 in
set_option maxHeartbeats 40000000 in
theorem rm23_checkLength (l : Launch) (Z : State) (a0 : Array Value) (hw : HW Z a0)  (h0 : Heap) (n0 : Nat) (O0 : Old Z n0 h0)  :
    Met l Z [] Y25 jdk_65_method_131_code 2 none ({ frames := 0, cells := 0, slots := 0, locals := 0 } : Room) #[(.int (0 : Int32)), (.int (0 : Int32))] h0 (Q23_checkLength Z  h0 n0) := by
  have W := fun (i : Nat) {c : Jvm.Cond} (q : tables_1[i]? = some c) => hw c (List.mem_of_getElem? q)
  refine own_mk (plainFor_of_name pn_235) ?_
  intro p e s m below meth c s₁ hZ hx hby hml hown hnm hret hlk X0 e0
  have N0 := Fr.nil n0
  refine ⟨s₁, none, _, _, _, X0, by decide, by decide, (fun _ => rfl), ?_, fun fs hr => castTop (ef_234 m ) ?_⟩
  · show Q23_checkLength Z  h0 n0 _ s₁.heap _
    rw [e0]
    exact ⟨rfl, N0, rfl⟩
  · show SS p e below s₁ m 0 #[iv (0 : Int32), iv (0 : Int32)] [] _
    refine XS.iloadN X0.here hx rfl (hb hby d_230) rfl ?_
    refine XS.iloadN X0.here hx rfl (hb hby d_231) rfl ?_
    show SS p e below s₁ m 2 #[iv (0 : Int32), iv (0 : Int32)] [(.int (0 : Int32)), (.int (0 : Int32))] _
    refine XS.icmpYes X0.here hx rfl (pc0 := 2) (pc' := 37) rfl (hb hby d_232) rfl (flt (by decide : ¬ ((0 : Int32) < (0 : Int32)))).2.1 (by decide) (by decide) ?_
    show SS p e below s₁ m 37 #[iv (0 : Int32), iv (0 : Int32)] [] _
    exact X0.returnOut hx hret (hb hby d_233) hr
theorem pd_236 : parseMethodDescriptor "(II)V" = some ⟨[.int, .int], none⟩ := by decide +kernel
theorem d_237 : decode jdk_65_method_133_code 5 = .ok (.iload_n 2, 1) := by decide +kernel
theorem d_238 : decode jdk_65_method_133_code 6 = .ok (.iload_n 1, 1) := by decide +kernel
theorem d_239 : decode jdk_65_method_133_code 7 = .ok (.isub, 1) := by decide +kernel
theorem d_240 : decode jdk_65_method_133_code 8 = .ok (.istore_n 3, 1) := by decide +kernel
theorem d_241 : decode jdk_65_method_133_code 9 = .ok (.iload_n 3, 1) := by decide +kernel
theorem d_242 : decode jdk_65_method_133_code 10 = .ok (.newarray .byte, 2) := by decide +kernel
theorem d_243 : decode jdk_65_method_133_code 12 = .ok (.astore 4, 2) := by decide +kernel
theorem d_244 : decode jdk_65_method_133_code 14 = .ok (.aload_n 0, 1) := by decide +kernel
theorem d_245 : decode jdk_65_method_133_code 15 = .ok (.iload_n 1, 1) := by decide +kernel
theorem d_246 : decode jdk_65_method_133_code 16 = .ok (.aload 4, 2) := by decide +kernel
theorem d_247 : decode jdk_65_method_133_code 18 = .ok (.iconst 0, 1) := by decide +kernel
theorem d_248 : decode jdk_65_method_133_code 19 = .ok (.aload_n 0, 1) := by decide +kernel
theorem d_249 : decode jdk_65_method_133_code 20 = .ok (.arraylength, 1) := by decide +kernel
theorem d_250 : decode jdk_65_method_133_code 21 = .ok (.iload_n 1, 1) := by decide +kernel
theorem d_251 : decode jdk_65_method_133_code 22 = .ok (.isub, 1) := by decide +kernel
theorem d_252 : decode jdk_65_method_133_code 23 = .ok (.iload_n 3, 1) := by decide +kernel
theorem d_253 : decode jdk_65_method_133_code 24 = .ok (.invokestatic 304, 3) := by decide +kernel
theorem d_254 : decode jdk_29_method_69_code 0 = .ok (.iload_n 0, 1) := by decide +kernel
theorem d_255 : decode jdk_29_method_69_code 1 = .ok (.iload_n 1, 1) := by decide +kernel
theorem d_256 : decode jdk_29_method_69_code 2 = .ok (.if_icmp .gt 7, 3) := by decide +kernel
theorem d_257 : decode jdk_29_method_69_code 9 = .ok (.iload_n 1, 1) := by decide +kernel
theorem d_258 : decode jdk_29_method_69_code 10 = .ok (.ireturn, 1) := by decide +kernel
theorem ef_259 (m : MethodId)  : entryFrame m #[(.int (16 : Int32)), (.int (0 : Int32))] 2 = mkF m 0 #[iv (16 : Int32), iv (0 : Int32)] [] := by first | (simp [entryFrame, mkF, argsToLocals, Value.category]; done) | rfl
-- java/lang/Math.min(II)I
def Q24_min (Z : State)  (h0 : Heap) (n0 : Nat) (v : Option Value) (h : Heap) (L : List Loc) : Prop := v = some (.int (0 : Int32)) ∧ Fr n0 L ∧ h = h0
set_option maxRecDepth 65536 in
set_option maxHeartbeats 40000000 in
theorem rm24_min (l : Launch) (Z : State) (a0 : Array Value) (hw : HW Z a0)  (h0 : Heap) (n0 : Nat) (O0 : Old Z n0 h0)  :
    Met l Z [] Y26 jdk_29_method_69_code 2 (some .int) ({ frames := 0, cells := 0, slots := 0, locals := 0 } : Room) #[(.int (16 : Int32)), (.int (0 : Int32))] h0 (Q24_min Z  h0 n0) := by
  have W := fun (i : Nat) {c : Jvm.Cond} (q : tables_1[i]? = some c) => hw c (List.mem_of_getElem? q)
  refine own_mk (Jvm.Free.JP.mathPlain rfl (by decide +kernel)) ?_
  intro p e s m below meth c s₁ hZ hx hby hml hown hnm hret hlk X0 e0
  have N0 := Fr.nil n0
  refine ⟨s₁, some (.int (0 : Int32)), _, _, _, X0, by decide, by decide, nofun, ?_, fun fs hr => castTop (ef_259 m ) ?_⟩
  · show Q24_min Z  h0 n0 _ s₁.heap _
    rw [e0]
    exact ⟨rfl, N0, rfl⟩
  · show SS p e below s₁ m 0 #[iv (16 : Int32), iv (0 : Int32)] [] _
    refine XS.iloadN X0.here hx rfl (hb hby d_254) rfl ?_
    refine XS.iloadN X0.here hx rfl (hb hby d_255) rfl ?_
    show SS p e below s₁ m 2 #[iv (16 : Int32), iv (0 : Int32)] [(.int (0 : Int32)), (.int (16 : Int32))] _
    refine XS.icmpYes X0.here hx rfl (pc0 := 2) (pc' := 9) rfl (hb hby d_256) rfl (tlt (by decide : (0 : Int32) < (16 : Int32))).2.2.1 (by decide) (by decide) ?_
    show SS p e below s₁ m 9 #[iv (16 : Int32), iv (0 : Int32)] [] _
    refine XS.iloadN X0.here hx rfl (hb hby d_257) rfl ?_
    show SS p e below s₁ m 10 #[iv (16 : Int32), iv (0 : Int32)] [(.int (0 : Int32))] _
    exact retI X0 hx hret (hb hby d_258) hr
theorem pd_260 : parseMethodDescriptor "(II)I" = some ⟨[.int, .int], some .int⟩ := by decide +kernel
theorem d_261 : decode jdk_65_method_133_code 27 = .ok (.invokestatic 150, 3) := by decide +kernel
theorem d_262 : decode jdk_65_method_133_code 30 = .ok (.aload 4, 2) := by decide +kernel
theorem d_263 : decode jdk_65_method_133_code 32 = .ok (.areturn, 1) := by decide +kernel
theorem ef_264 (m : MethodId) (a1 : Addr) : entryFrame m #[(.ref a1), (.int (0 : Int32)), (.int (0 : Int32))] 5 = mkF m 0 #[rv a1, iv (0 : Int32), iv (0 : Int32), .unset, .unset] [] := by first | (simp [entryFrame, mkF, argsToLocals, Value.category]; done) | rfl
-- java/util/Arrays.copyOfRangeByte([BII)[B
def Q25_copyOfRangeByte (Z : State) (a1 : Addr) (k2 : ClassId) (h0 : Heap) (n0 : Nat) (v : Option Value) (h : Heap) (L : List Loc) : Prop := ∃ (b3 : Addr) (k3 : ClassId), v = some (.ref b3) ∧ Fr n0 L ∧ Keep h0 h [] ∧ h0.size ≤ b3 ∧ Arv Z h b3 k3 .byte (0 : Int32) [] (.int (0 : Int32)) ∧ EA58 Z h b3
set_option maxRecDepth 65536 in
set_option maxHeartbeats 40000000 in
theorem rm25_copyOfRangeByte (l : Launch) (Z : State) (a0 : Array Value) (hw : HW Z a0) (a1 : Addr) (k2 : ClassId) (h0 : Heap) (n0 : Nat) (O0 : Old Z n0 h0) (F_0 : Arv Z h0 a1 k2 .byte (16 : Int32) [(.int (0 : Int32)), (.int (0 : Int32)), (.int (0 : Int32)), (.int (0 : Int32)), (.int (0 : Int32)), (.int (0 : Int32)), (.int (0 : Int32)), (.int (0 : Int32)), (.int (0 : Int32)), (.int (0 : Int32)), (.int (0 : Int32)), (.int (0 : Int32)), (.int (0 : Int32)), (.int (0 : Int32)), (.int (0 : Int32)), (.int (0 : Int32))] (.int (0 : Int32))) :
    Met l Z [] Y27 jdk_65_method_133_code 5 (some (.array .byte)) ({ frames := 1, cells := 1, slots := 0, locals := 27 } : Room) #[(.ref a1), (.int (0 : Int32)), (.int (0 : Int32))] h0 (Q25_copyOfRangeByte Z a1 k2 h0 n0) := by
  have W := fun (i : Nat) {c : Jvm.Cond} (q : tables_1[i]? = some c) => hw c (List.mem_of_getElem? q)
  refine own_mk (plainFor_of_name pn_235) ?_
  intro p e s m below meth c s₁ hZ hx hby hml hown hnm hret hlk X0 e0
  have N0 := Fr.nil n0
  obtain ⟨_, T1, L1, X1, hQ1, st1⟩ := own_cs X0 hx hZ hown hml (W 225 rfl) (W 226 rfl) (W 220 rfl) (W 227 rfl) (rm23_checkLength l Z a0 hw  h0 n0 O0 ) e0 (hb hby d_229) 0 #[rv a1, iv (0 : Int32), iv (0 : Int32), .unset, .unset] [(.int (0 : Int32)), (.int (0 : Int32))] [] pd_236 (by decide) rfl rfl rfl (Nat.le_of_eq rfl)
  obtain ⟨rfl, N1q, K1⟩ := hQ1
  have N2 := Fr.app N0 N1q
  obtain ⟨T3, h3, k3, X3, e3, E3, A3, B3, st3⟩ := newPE X1 hx hZ (W 55 rfl) K1 (g := (mkF m 10 #[rv a1, iv (0 : Int32), iv (0 : Int32), iv (0 : Int32), .unset] [(.int (0 : Int32))])) rfl (hb hby d_242) rfl (by decide) (cap := 0) (by decide) (by decide) (by decide) (by decide) (ad := "[B") rfl
  obtain ⟨b3, g3⟩ : ∃ z, z = h0.size := ⟨_, rfl⟩
  rw [← g3] at A3 B3 st3
  have O4 := O0.ext E3
  have K5 : Keep h0 h3 [] := Keep.ext (Keep.refl h0 []) E3
  have v6 : Arv Z h3 b3 k3 .byte (0 : Int32) [] (.int (0 : Int32)) := (Arv.new A3 (by decide)).pad (pad_rep [] (.int (0 : Int32)) 0)
  have f8 := (F_0.ext E3)
  obtain ⟨c7, A7, q7, S7, N7, H7, G7⟩ := id f8
  obtain ⟨_, T9, L9, X9, hQ9, st9⟩ := own_cs X3 hx hZ hown hml (W 228 rfl) (W 229 rfl) (W 230 rfl) (W 231 rfl) (rm24_min l Z a0 hw  h3 n0 O4 ) e3 (hb hby d_253) 4 #[rv a1, iv (0 : Int32), iv (0 : Int32), iv (0 : Int32), rv b3] [(.int (16 : Int32)), (.int (0 : Int32))] [(.int (0 : Int32)), (.ref b3), (.int (0 : Int32)), (.ref a1)] pd_260 (by decide) rfl rfl rfl (Nat.le_of_eq rfl)
  obtain ⟨rfl, N9q, K9⟩ := hQ9
  have N10 := Fr.app N2 N9q
  have g12 : n0 ≤ b3 := Nat.le_trans (Nat.le_trans (Nat.le_of_eq O0.1.symm) O0.2.1) (Nat.le_of_eq g3.symm)
  obtain ⟨T11, h11, Lc11, X11, e11, N11, K11, V11, st11⟩ := cpA X9 hx hZ hown (W 232 rfl) (W 235 rfl) (W 233 rfl) (W 234 rfl) K9 f8 v6 (Or.inl ⟨rfl, rfl⟩) (sp := (0 : Int32)) (dp := (0 : Int32)) (nn := (0 : Int32)) (by decide) (by decide) (by decide) (by decide) (by decide) (us := []) rfl (by decide) N10 g12 (g := (mkF m 27 #[rv a1, iv (0 : Int32), iv (0 : Int32), iv (0 : Int32), rv b3] [(.int (0 : Int32)), (.int (0 : Int32)), (.ref b3), (.int (0 : Int32)), (.ref a1)])) rfl (by rw [hml]; rfl) rfl (hb hby d_261) (by decide) (W := 0) (by show 2 * 0 + _ ≤ _; exact Nat.le_of_eq rfl) (by decide)
  have O13 := O4.keep K11 (allS g12 all0)
  have K14 : Keep h0 h11 [] := Keep.trans K5 K11 (allS (Or.inr (Nat.le_of_eq g3.symm)) all0)
  have v15 : Arv Z h11 b3 k3 .byte (0 : Int32) [] (.int (0 : Int32)) := V11
  have f16 := (B3.keep K11)
  refine ⟨T11, some (.ref b3), _, _, _, X11, by decide, by decide, nofun, ?_, fun fs hr => castTop (ef_264 m a1) ?_⟩
  · show Q25_copyOfRangeByte Z a1 k2 h0 n0 _ T11.heap _
    rw [e11]
    exact ⟨b3, k3, rfl, N11, K14, (Nat.le_of_eq g3.symm), v15, f16⟩
  · show SS p e below s₁ m 0 #[rv a1, iv (0 : Int32), iv (0 : Int32), .unset, .unset] [] _
    refine XS.iloadN X0.here hx rfl (hb hby d_227) rfl ?_
    refine XS.iloadN X0.here hx rfl (hb hby d_228) rfl ?_
    show SS p e below s₁ m 2 #[rv a1, iv (0 : Int32), iv (0 : Int32), .unset, .unset] [(.int (0 : Int32)), (.int (0 : Int32))] _
    refine st1 _ ?_
    show SS p e below T1 m 5 #[rv a1, iv (0 : Int32), iv (0 : Int32), .unset, .unset] [] _
    refine XS.iloadN X1.here hx rfl (hb hby d_237) rfl ?_
    refine XS.iloadN X1.here hx rfl (hb hby d_238) rfl ?_
    show SS p e below T1 m 7 #[rv a1, iv (0 : Int32), iv (0 : Int32), .unset, .unset] [(.int (0 : Int32)), (.int (0 : Int32))] _
    refine XS.isub X1.here hx rfl (hb hby d_239) rfl ?_
    show SS p e below T1 m 8 #[rv a1, iv (0 : Int32), iv (0 : Int32), .unset, .unset] [(.int (0 : Int32))] _
    refine XS.istoreN X1.here hx rfl (hb hby d_240) rfl (l' := #[rv a1, iv (0 : Int32), iv (0 : Int32), iv (0 : Int32), .unset]) rfl ?_
    show SS p e below T1 m 9 #[rv a1, iv (0 : Int32), iv (0 : Int32), iv (0 : Int32), .unset] [] _
    refine XS.iloadN X1.here hx rfl (hb hby d_241) rfl ?_
    show SS p e below T1 m 10 #[rv a1, iv (0 : Int32), iv (0 : Int32), iv (0 : Int32), .unset] [(.int (0 : Int32))] _
    refine st3 _ ?_
    show SS p e below T3 m 12 #[rv a1, iv (0 : Int32), iv (0 : Int32), iv (0 : Int32), .unset] [(.ref b3)] _
    refine XS.astore X3.here hx rfl (hb hby d_243) rfl rfl (l' := #[rv a1, iv (0 : Int32), iv (0 : Int32), iv (0 : Int32), rv b3]) rfl ?_
    show SS p e below T3 m 14 #[rv a1, iv (0 : Int32), iv (0 : Int32), iv (0 : Int32), rv b3] [] _
    refine XS.aloadN X3.here hx rfl (hb hby d_244) rfl rfl ?_
    refine XS.iloadN X3.here hx rfl (hb hby d_245) rfl ?_
    refine XS.aload X3.here hx rfl (hb hby d_246) rfl rfl ?_
    refine XS.iconst X3.here hx rfl (hb hby d_247) ?_
    refine XS.aloadN X3.here hx rfl (hb hby d_248) rfl rfl ?_
    show SS p e below T3 m 20 #[rv a1, iv (0 : Int32), iv (0 : Int32), iv (0 : Int32), rv b3] [(.ref a1), (.int (0 : Int32)), (.ref b3), (.int (0 : Int32)), (.ref a1)] _
    refine X3.arraylength hx (by rw [e3]; exact A7.1) (State.isArrayOf_alike hZ.alike A7.2.1) (g := (mkF m 20 #[rv a1, iv (0 : Int32), iv (0 : Int32), iv (0 : Int32), rv b3] [(.ref a1), (.int (0 : Int32)), (.ref b3), (.int (0 : Int32)), (.ref a1)])) rfl rfl (hb hby d_249) _ ?_
    rw [len_of S7 N7]
    show SS p e below T3 m 21 #[rv a1, iv (0 : Int32), iv (0 : Int32), iv (0 : Int32), rv b3] [(.int (16 : Int32)), (.int (0 : Int32)), (.ref b3), (.int (0 : Int32)), (.ref a1)] _
    refine XS.iloadN X3.here hx rfl (hb hby d_250) rfl ?_
    show SS p e below T3 m 22 #[rv a1, iv (0 : Int32), iv (0 : Int32), iv (0 : Int32), rv b3] [(.int (0 : Int32)), (.int (16 : Int32)), (.int (0 : Int32)), (.ref b3), (.int (0 : Int32)), (.ref a1)] _
    refine XS.isub X3.here hx rfl (hb hby d_251) rfl ?_
    show SS p e below T3 m 23 #[rv a1, iv (0 : Int32), iv (0 : Int32), iv (0 : Int32), rv b3] [(.int (16 : Int32)), (.int (0 : Int32)), (.ref b3), (.int (0 : Int32)), (.ref a1)] _
    refine XS.iloadN X3.here hx rfl (hb hby d_252) rfl ?_
    show SS p e below T3 m 24 #[rv a1, iv (0 : Int32), iv (0 : Int32), iv (0 : Int32), rv b3] [(.int (0 : Int32)), (.int (16 : Int32)), (.int (0 : Int32)), (.ref b3), (.int (0 : Int32)), (.ref a1)] _
    refine st9 _ ?_
    show SS p e below T9 m 27 #[rv a1, iv (0 : Int32), iv (0 : Int32), iv (0 : Int32), rv b3] [(.int (0 : Int32)), (.int (0 : Int32)), (.ref b3), (.int (0 : Int32)), (.ref a1)] _
    refine st11 _ ?_
    show SS p e below T11 m 30 #[rv a1, iv (0 : Int32), iv (0 : Int32), iv (0 : Int32), rv b3] [] _
    refine XS.aload X11.here hx rfl (hb hby d_262) rfl rfl ?_
    show SS p e below T11 m 32 #[rv a1, iv (0 : Int32), iv (0 : Int32), iv (0 : Int32), rv b3] [(.ref b3)] _
    exact retOut X11 hx hret rfl (Or.inr (Or.inr (Or.inr (Or.inr ⟨rfl, rfl, rfl⟩)))) (hb hby d_263) hr
theorem pd_265 : parseMethodDescriptor "([BII)[B" = some ⟨[(.array .byte), .int, .int], some (.array .byte)⟩ := by decide +kernel
theorem d_266 : decode jdk_65_method_132_code 16 = .ok (.areturn, 1) := by decide +kernel
theorem ef_267 (m : MethodId) (a1 : Addr) : entryFrame m #[(.ref a1), (.int (0 : Int32)), (.int (0 : Int32))] 3 = mkF m 0 #[rv a1, iv (0 : Int32), iv (0 : Int32)] [] := by first | (simp [entryFrame, mkF, argsToLocals, Value.category]; done) | rfl
-- java/util/Arrays.copyOfRange([BII)[B
def Q26_copyOfRange (Z : State) (a1 : Addr) (k2 : ClassId) (h0 : Heap) (n0 : Nat) (v : Option Value) (h : Heap) (L : List Loc) : Prop := ∃ (b2_b3 : Addr) (k2_k3 : ClassId), v = some (.ref b2_b3) ∧ Fr n0 L ∧ Keep h0 h [] ∧ h0.size ≤ b2_b3 ∧ Arv Z h b2_b3 k2_k3 .byte (0 : Int32) [] (.int (0 : Int32)) ∧ EA58 Z h b2_b3
set_option maxRecDepth 65536 in
set_option maxHeartbeats 40000000 in
theorem rm26_copyOfRange (l : Launch) (Z : State) (a0 : Array Value) (hw : HW Z a0) (a1 : Addr) (k2 : ClassId) (h0 : Heap) (n0 : Nat) (O0 : Old Z n0 h0) (F_0 : Arv Z h0 a1 k2 .byte (16 : Int32) [(.int (0 : Int32)), (.int (0 : Int32)), (.int (0 : Int32)), (.int (0 : Int32)), (.int (0 : Int32)), (.int (0 : Int32)), (.int (0 : Int32)), (.int (0 : Int32)), (.int (0 : Int32)), (.int (0 : Int32)), (.int (0 : Int32)), (.int (0 : Int32)), (.int (0 : Int32)), (.int (0 : Int32)), (.int (0 : Int32)), (.int (0 : Int32))] (.int (0 : Int32))) :
    Met l Z [] Y28 jdk_65_method_132_code 3 (some (.array .byte)) ({ frames := 2, cells := 1, slots := 0, locals := 43 } : Room) #[(.ref a1), (.int (0 : Int32)), (.int (0 : Int32))] h0 (Q26_copyOfRange Z a1 k2 h0 n0) := by
  have W := fun (i : Nat) {c : Jvm.Cond} (q : tables_1[i]? = some c) => hw c (List.mem_of_getElem? q)
  refine own_mk (plainFor_of_name pn_235) ?_
  intro p e s m below meth c s₁ hZ hx hby hml hown hnm hret hlk X0 e0
  have N0 := Fr.nil n0
  obtain ⟨c1, A1, q1, S1, N1, H1, G1⟩ := id F_0
  obtain ⟨_, T2, L2, X2, hQ2, st2⟩ := own_cs X0 hx hZ hown hml (W 222 rfl) (W 223 rfl) (W 220 rfl) (W 224 rfl) (rm25_copyOfRangeByte l Z a0 hw a1 k2 h0 n0 O0 (F_0)) e0 (hb hby d_226) 0 #[rv a1, iv (0 : Int32), iv (0 : Int32)] [(.ref a1), (.int (0 : Int32)), (.int (0 : Int32))] [] pd_265 (by decide) rfl rfl rfl (Nat.le_of_eq rfl)
  obtain ⟨b2_b3, k2_k3, rfl, N2q, K2, gb2_0, F2_0, F2_1⟩ := hQ2
  have N3 := Fr.app N0 N2q
  have O4 := O0.keep K2 all0
  have K5 : Keep h0 T2.heap [] := Keep.trans (Keep.refl h0 []) K2 all0
  refine ⟨T2, some (.ref b2_b3), _, _, _, X2, by decide, by decide, nofun, ?_, fun fs hr => castTop (ef_267 m a1) ?_⟩
  · show Q26_copyOfRange Z a1 k2 h0 n0 _ T2.heap _
    exact ⟨b2_b3, k2_k3, rfl, N3, K5, gb2_0, F2_0, F2_1⟩
  · show SS p e below s₁ m 0 #[rv a1, iv (0 : Int32), iv (0 : Int32)] [] _
    refine XS.iloadN X0.here hx rfl (hb hby d_217) rfl ?_
    show SS p e below s₁ m 1 #[rv a1, iv (0 : Int32), iv (0 : Int32)] [(.int (0 : Int32))] _
    refine XS.ifNo X0.here hx rfl (hb hby d_218) rfl ((if0 _ _).trans (teq (by decide : (0 : Int32) = (0 : Int32))).2) ?_
    show SS p e below s₁ m 4 #[rv a1, iv (0 : Int32), iv (0 : Int32)] [] _
    refine XS.iloadN X0.here hx rfl (hb hby d_219) rfl ?_
    refine XS.aloadN X0.here hx rfl (hb hby d_220) rfl rfl ?_
    show SS p e below s₁ m 6 #[rv a1, iv (0 : Int32), iv (0 : Int32)] [(.ref a1), (.int (0 : Int32))] _
    refine X0.arraylength hx (by rw [e0]; exact A1.1) (State.isArrayOf_alike hZ.alike A1.2.1) (g := (mkF m 6 #[rv a1, iv (0 : Int32), iv (0 : Int32)] [(.ref a1), (.int (0 : Int32))])) rfl rfl (hb hby d_221) _ ?_
    rw [len_of S1 N1]
    show SS p e below s₁ m 7 #[rv a1, iv (0 : Int32), iv (0 : Int32)] [(.int (16 : Int32)), (.int (0 : Int32))] _
    refine XS.icmpNo X0.here hx rfl (hb hby d_222) rfl (feq (by decide : ¬ ((0 : Int32) = (16 : Int32)))).1 ?_
    show SS p e below s₁ m 10 #[rv a1, iv (0 : Int32), iv (0 : Int32)] [] _
    refine XS.aloadN X0.here hx rfl (hb hby d_223) rfl rfl ?_
    refine XS.iloadN X0.here hx rfl (hb hby d_224) rfl ?_
    refine XS.iloadN X0.here hx rfl (hb hby d_225) rfl ?_
    show SS p e below s₁ m 13 #[rv a1, iv (0 : Int32), iv (0 : Int32)] [(.int (0 : Int32)), (.int (0 : Int32)), (.ref a1)] _
    refine st2 _ ?_
    show SS p e below T2 m 16 #[rv a1, iv (0 : Int32), iv (0 : Int32)] [(.ref b2_b3)] _
    exact retOut X2 hx hret rfl (Or.inr (Or.inr (Or.inr (Or.inr ⟨rfl, rfl, rfl⟩)))) (hb hby d_266) hr
theorem d_268 : decode jdk_42_method_150_code 35 = .ok (.putfield 9, 3) := by decide +kernel
theorem d_269 : decode jdk_42_method_150_code 38 = .ok (.goto 59, 3) := by decide +kernel
theorem d_270 : decode jdk_42_method_150_code 97 = .ok (.return_, 1) := by decide +kernel
theorem ef_271 (m : MethodId) (a1 : Addr) (a2 : Addr) : entryFrame m #[(.ref a1), (.ref a2), .null] 5 = mkF m 0 #[rv a1, rv a2, .val .null, .unset, .unset] [] := by first | (simp [entryFrame, mkF, argsToLocals, Value.category]; done) | rfl
theorem pn_272 : plainName "java/lang/String" = true := by first | (simp [plainName, overriddenIn]; done) | decide +kernel
-- java/lang/String.<init>(Ljava/lang/AbstractStringBuilder;Ljava/lang/Void;)V
def Q27_init (Z : State) (a1 : Addr) (a2 : Addr) (a3 : Addr) (p4 : Int32) (k5 : ClassId) (h0 : Heap) (n0 : Nat) (v : Option Value) (h : Heap) (L : List Loc) : Prop := ∃ (b13_b2_b3 : Addr) (k13_k2_k3 : ClassId), v = none ∧ Fr n0 L ∧ Keep h0 h [a1] ∧ h0.size ≤ b13_b2_b3 ∧ Arv Z h b13_b2_b3 k13_k2_k3 .byte (0 : Int32) [] (.int (0 : Int32)) ∧ EA58 Z h b13_b2_b3 ∧ FA53 Z h a1 (.int (0 : Int32)) ∧ FA54 Z h a1 (.ref b13_b2_b3)
set_option maxRecDepth 65536 in
set_option maxHeartbeats 40000000 in
theorem rm27_init (l : Launch) (Z : State) (a0 : Array Value) (hw : HW Z a0) (a1 : Addr) (a2 : Addr) (a3 : Addr) (p4 : Int32) (k5 : ClassId) (h0 : Heap) (n0 : Nat) (O0 : Old Z n0 h0) (F_0 : EA59 Z h0 a2) (F_1 : FA38 Z h0 a2 (.ref a3)) (F_2 : FA40 Z h0 a2 (.int (0 : Int32))) (S_3 : SA71 Z Z.heap (.int p4)) (hc_4 : ¬ (p4 = (0 : Int32))) (F_5 : FA39 Z h0 a2 (.int (0 : Int32))) (F_6 : EA66 Z h0 a1) (F_7 : FA53 Z h0 a1 (.int (0 : Int32))) (g_8 : n0 ≤ a1) (F_9 : Arv Z h0 a3 k5 .byte (16 : Int32) [(.int (0 : Int32)), (.int (0 : Int32)), (.int (0 : Int32)), (.int (0 : Int32)), (.int (0 : Int32)), (.int (0 : Int32)), (.int (0 : Int32)), (.int (0 : Int32)), (.int (0 : Int32)), (.int (0 : Int32)), (.int (0 : Int32)), (.int (0 : Int32)), (.int (0 : Int32)), (.int (0 : Int32)), (.int (0 : Int32)), (.int (0 : Int32))] (.int (0 : Int32))) (ne_10 : a1 ≠ a3) (F_11 : FA54 Z h0 a1 .null) (lt_12 : a1 < h0.size) :
    Met l Z [] Y29 jdk_42_method_150_code 5 none ({ frames := 3, cells := 1, slots := 0, locals := 58 } : Room) #[(.ref a1), (.ref a2), .null] h0 (Q27_init Z a1 a2 a3 p4 k5 h0 n0) := by
  have W := fun (i : Nat) {c : Jvm.Cond} (q : tables_1[i]? = some c) => hw c (List.mem_of_getElem? q)
  refine own_mk (plainFor_of_name pn_272) ?_
  intro p e s m below meth c s₁ hZ hx hby hml hown hnm hret hlk X0 e0
  have N0 := Fr.nil n0
  obtain ⟨T1, X1, e1, st1⟩ := initO X0 hx hZ hown (W 194 rfl) (W 29 rfl) (W 30 rfl) e0 (g := (mkF m 1 #[rv a1, rv a2, .val .null, .unset, .unset] [(.ref a1)])) rfl (by rw [hml]; rfl) rfl (hb hby d_180) (by decide) (W := 0) (by show 2 * 0 + _ ≤ _; exact Nat.le_of_eq rfl) (by decide)
  obtain ⟨_, T2, L2, X2, hQ2, st2⟩ := own_cv X1 hx hZ hown hml (W 195 rfl) (W 196 rfl) (notFace_of_selects (W 198 rfl)) (W 198 rfl) (W 197 rfl) (W 50 rfl) (W 199 rfl) (rm19_getValue l Z a0 hw a2 a3 h0 n0 O0 (F_1)) e1 F_0 (hb hby d_182) 0 #[rv a1, rv a2, .val .null, .unset, .unset] [] [] pd_186 (by decide) rfl rfl rfl (Nat.le_of_eq rfl)
  obtain ⟨rfl, N2q, K2⟩ := hQ2
  have N3 := Fr.app N0 N2q
  obtain ⟨_, T4, L4, X4, hQ4, st4⟩ := own_cv X2 hx hZ hown hml (W 200 rfl) (W 201 rfl) (own_nf (args := a0) (y := Y21) rfl (id (W 198 rfl))) (W 203 rfl) (W 204 rfl) (W 42 rfl) (W 205 rfl) (rm21_length l Z a0 hw a2 h0 n0 O0 (F_2) (F_0)) K2 F_0 (hb hby d_189) 0 #[rv a1, rv a2, .val .null, rv a3, .unset] [] [] pd_195 (by decide) rfl rfl rfl (Nat.le_of_eq rfl)
  obtain ⟨rfl, N4q, K4⟩ := hQ4
  have N5 := Fr.app N3 N4q
  obtain ⟨_, T6, L6, X6, hQ6, st6⟩ := own_cv X4 hx hZ hown hml (W 211 rfl) (W 212 rfl) (notFace_of_selects (W 214 rfl)) (W 214 rfl) (W 213 rfl) (W 50 rfl) (W 215 rfl) (rm22_isLatin1 l Z a0 hw a2 p4 h0 n0 O0 (S_3) (hc_4) (F_5)) K4 F_0 (hb hby d_199) 0 #[rv a1, rv a2, .val .null, rv a3, iv (0 : Int32)] [] [] pd_134 (by decide) rfl rfl rfl (Nat.le_of_eq rfl)
  obtain ⟨rfl, N6q, K6⟩ := hQ6
  have N7 := Fr.app N5 N6q
  obtain ⟨T8, h8, X8, e8, W8, st8⟩ := putFN X6 hx hZ hown (W 216 rfl) Via.refl K6 F_7 F_6 (Or.inr ⟨(W 217 rfl), rfl, hnm⟩) (W 186 rfl) (ty := .byte) (v' := (.int (0 : Int32))) (by decide) rfl rfl (g := (mkF m 24 #[rv a1, rv a2, .val .null, rv a3, iv (0 : Int32)] [(.int (0 : Int32)), (.ref a1)])) rfl rfl (hb hby d_211)
  have O9 := O0.wr W8 g_8
  have K10 : Keep h0 h8 [a1] := Keep.wr (Keep.refl h0 [a1]) W8 (Or.inl (List.mem_of_getElem? (i := 0) rfl))
  have f11 : FA53 Z h8 a1 (.int (0 : Int32)) := (F_7.same W8)
  have N12 := Fr.snoc X8 N7 g_8
  have f14 := (F_9.other W8 (Ne.symm ne_10))
  obtain ⟨_, T13, L13, X13, hQ13, st13⟩ := own_cs X8 hx hZ hown hml (W 218 rfl) (W 219 rfl) (W 220 rfl) (W 221 rfl) (rm26_copyOfRange l Z a0 hw a3 k5 h8 n0 O9 (f14)) e8 (hb hby d_216) 1 #[rv a1, rv a2, .val .null, rv a3, iv (0 : Int32)] [(.ref a3), (.int (0 : Int32)), (.int (0 : Int32))] [(.ref a1)] pd_265 (by decide) rfl rfl rfl (Nat.le_of_eq rfl)
  obtain ⟨b13_b2_b3, k13_k2_k3, rfl, N13q, K13, gb13_0, F13_0, F13_1⟩ := hQ13
  have N15 := Fr.app N12 N13q
  have O16 := O9.keep K13 all0
  have K17 : Keep h0 T13.heap [a1] := Keep.trans K10 K13 all0
  have f19 := ((F_11.other W8 (Or.inr (slot_ne (Or.inr (W 237 rfl)) (Or.inr (W 217 rfl)) (by decide) (t := (.array .byte)) (t' := .byte) (by decide) (by decide)))).keep K13 nin0)
  have f20 := ((F_6.wr W8).keep K13)
  obtain ⟨T18, h18, X18, e18, W18, st18⟩ := putF X13 hx hZ hown (host := "") (Or.inl (W 236 rfl)) Via.refl rfl f19 f20 (Or.inr ⟨(W 237 rfl), rfl, hnm⟩) (W 186 rfl) (ty := (.array .byte)) (by decide) rfl rfl (g := (mkF m 35 #[rv a1, rv a2, .val .null, rv a3, iv (0 : Int32)] [(.ref b13_b2_b3), (.ref a1)])) rfl rfl (hb hby d_268)
  have O21 := O16.wr W18 g_8
  have K22 : Keep h0 h18 [a1] := Keep.wr K17 W18 (Or.inl (List.mem_of_getElem? (i := 0) rfl))
  have f23 : FA54 Z h18 a1 (.ref b13_b2_b3) := (f19.same W18)
  have N24 := Fr.snoc X18 N15 g_8
  have z25 : h0.size ≤ h8.size := (Nat.le_of_eq W8.size.symm)
  have f26 := (F13_0.other W18 (Ne.symm (Nat.ne_of_lt (Nat.lt_of_lt_of_le (Nat.lt_of_lt_of_le lt_12 z25) gb13_0))))
  have f27 := (F13_1.wr W18)
  have f28 := ((f11.keep K13 nin0).other W18 (Or.inr (slot_ne (Or.inr (W 217 rfl)) (Or.inr (W 237 rfl)) (by decide) (t := .byte) (t' := (.array .byte)) (by decide) (by decide))))
  refine ⟨T18, none, _, _, _, X18, by decide, by decide, (fun _ => rfl), ?_, fun fs hr => castTop (ef_271 m a1 a2) ?_⟩
  · show Q27_init Z a1 a2 a3 p4 k5 h0 n0 _ T18.heap _
    rw [e18]
    exact ⟨b13_b2_b3, k13_k2_k3, rfl, N24, K22, (Nat.le_trans z25 gb13_0), f26, f27, f28, f23⟩
  · show SS p e below s₁ m 0 #[rv a1, rv a2, .val .null, .unset, .unset] [] _
    refine XS.aloadN X0.here hx rfl (hb hby d_179) rfl rfl ?_
    show SS p e below s₁ m 1 #[rv a1, rv a2, .val .null, .unset, .unset] [(.ref a1)] _
    refine st1 _ ?_
    show SS p e below T1 m 4 #[rv a1, rv a2, .val .null, .unset, .unset] [] _
    refine XS.aloadN X1.here hx rfl (hb hby d_181) rfl rfl ?_
    show SS p e below T1 m 5 #[rv a1, rv a2, .val .null, .unset, .unset] [(.ref a2)] _
    refine st2 _ ?_
    show SS p e below T2 m 8 #[rv a1, rv a2, .val .null, .unset, .unset] [(.ref a3)] _
    refine XS.astoreN X2.here hx rfl (hb hby d_187) rfl rfl (l' := #[rv a1, rv a2, .val .null, rv a3, .unset]) rfl ?_
    show SS p e below T2 m 9 #[rv a1, rv a2, .val .null, rv a3, .unset] [] _
    refine XS.aloadN X2.here hx rfl (hb hby d_188) rfl rfl ?_
    show SS p e below T2 m 10 #[rv a1, rv a2, .val .null, rv a3, .unset] [(.ref a2)] _
    refine st4 _ ?_
    show SS p e below T4 m 13 #[rv a1, rv a2, .val .null, rv a3, .unset] [(.int (0 : Int32))] _
    refine XS.istore X4.here hx rfl (hb hby d_197) rfl (l' := #[rv a1, rv a2, .val .null, rv a3, iv (0 : Int32)]) rfl ?_
    show SS p e below T4 m 15 #[rv a1, rv a2, .val .null, rv a3, iv (0 : Int32)] [] _
    refine XS.aloadN X4.here hx rfl (hb hby d_198) rfl rfl ?_
    show SS p e below T4 m 16 #[rv a1, rv a2, .val .null, rv a3, iv (0 : Int32)] [(.ref a2)] _
    refine st6 _ ?_
    show SS p e below T6 m 19 #[rv a1, rv a2, .val .null, rv a3, iv (0 : Int32)] [(.int (1 : Int32))] _
    refine XS.ifNo X6.here hx rfl (hb hby d_208) rfl ((if0 _ _).trans (feq (by decide : ¬ ((1 : Int32) = (0 : Int32)))).1) ?_
    show SS p e below T6 m 22 #[rv a1, rv a2, .val .null, rv a3, iv (0 : Int32)] [] _
    refine XS.aloadN X6.here hx rfl (hb hby d_209) rfl rfl ?_
    refine XS.iconst X6.here hx rfl (hb hby d_210) ?_
    show SS p e below T6 m 24 #[rv a1, rv a2, .val .null, rv a3, iv (0 : Int32)] [(.int (0 : Int32)), (.ref a1)] _
    refine st8 _ ?_
    show SS p e below T8 m 27 #[rv a1, rv a2, .val .null, rv a3, iv (0 : Int32)] [] _
    refine XS.aloadN X8.here hx rfl (hb hby d_212) rfl rfl ?_
    refine XS.aloadN X8.here hx rfl (hb hby d_213) rfl rfl ?_
    refine XS.iconst X8.here hx rfl (hb hby d_214) ?_
    refine XS.iload X8.here hx rfl (hb hby d_215) rfl ?_
    show SS p e below T8 m 32 #[rv a1, rv a2, .val .null, rv a3, iv (0 : Int32)] [(.int (0 : Int32)), (.int (0 : Int32)), (.ref a3), (.ref a1)] _
    refine st13 _ ?_
    show SS p e below T13 m 35 #[rv a1, rv a2, .val .null, rv a3, iv (0 : Int32)] [(.ref b13_b2_b3), (.ref a1)] _
    refine st18 _ ?_
    show SS p e below T18 m 38 #[rv a1, rv a2, .val .null, rv a3, iv (0 : Int32)] [] _
    refine XS.goto X18.here hx rfl (pc0 := 38) (pc' := 97) rfl (hb hby d_269) (by decide) (by decide) ?_
    show SS p e below T18 m 97 #[rv a1, rv a2, .val .null, rv a3, iv (0 : Int32)] [] _
    exact X18.returnOut hx hret (hb hby d_270) hr
theorem pd_273 : parseMethodDescriptor "(Ljava/lang/AbstractStringBuilder;Ljava/lang/Void;)V" = some ⟨[(.object "java/lang/AbstractStringBuilder"), (.object "java/lang/Void")], none⟩ := by decide +kernel
theorem d_274 : decode jdk_42_method_53_code 6 = .ok (.return_, 1) := by decide +kernel
-- java/lang/String.<init>(Ljava/lang/StringBuilder;)V
def Q28_init (Z : State) (a1 : Addr) (a2 : Addr) (a3 : Addr) (p4 : Int32) (k5 : ClassId) (h0 : Heap) (n0 : Nat) (v : Option Value) (h : Heap) (L : List Loc) : Prop := ∃ (b1_b13_b2_b3 : Addr) (k1_k13_k2_k3 : ClassId), v = none ∧ Fr n0 L ∧ Keep h0 h [a1] ∧ h0.size ≤ b1_b13_b2_b3 ∧ Arv Z h b1_b13_b2_b3 k1_k13_k2_k3 .byte (0 : Int32) [] (.int (0 : Int32)) ∧ EA58 Z h b1_b13_b2_b3 ∧ FA53 Z h a1 (.int (0 : Int32)) ∧ FA54 Z h a1 (.ref b1_b13_b2_b3)
set_option maxRecDepth 65536 in
set_option maxHeartbeats 40000000 in
theorem rm28_init (l : Launch) (Z : State) (a0 : Array Value) (hw : HW Z a0) (a1 : Addr) (a2 : Addr) (a3 : Addr) (p4 : Int32) (k5 : ClassId) (h0 : Heap) (n0 : Nat) (O0 : Old Z n0 h0) (F_0 : EA59 Z h0 a2) (F_1 : FA38 Z h0 a2 (.ref a3)) (F_2 : FA40 Z h0 a2 (.int (0 : Int32))) (S_3 : SA71 Z Z.heap (.int p4)) (hc_4 : ¬ (p4 = (0 : Int32))) (F_5 : FA39 Z h0 a2 (.int (0 : Int32))) (F_6 : EA66 Z h0 a1) (F_7 : FA53 Z h0 a1 (.int (0 : Int32))) (F_8 : Arv Z h0 a3 k5 .byte (16 : Int32) [(.int (0 : Int32)), (.int (0 : Int32)), (.int (0 : Int32)), (.int (0 : Int32)), (.int (0 : Int32)), (.int (0 : Int32)), (.int (0 : Int32)), (.int (0 : Int32)), (.int (0 : Int32)), (.int (0 : Int32)), (.int (0 : Int32)), (.int (0 : Int32)), (.int (0 : Int32)), (.int (0 : Int32)), (.int (0 : Int32)), (.int (0 : Int32))] (.int (0 : Int32))) (F_9 : FA54 Z h0 a1 .null) (g_10 : n0 ≤ a1) (ne_11 : a1 ≠ a3) (lt_12 : a1 < h0.size) :
    Met l Z [] Y30 jdk_42_method_53_code 2 none ({ frames := 4, cells := 1, slots := 0, locals := 74 } : Room) #[(.ref a1), (.ref a2)] h0 (Q28_init Z a1 a2 a3 p4 k5 h0 n0) := by
  have W := fun (i : Nat) {c : Jvm.Cond} (q : tables_1[i]? = some c) => hw c (List.mem_of_getElem? q)
  refine own_mk (plainFor_of_name pn_272) ?_
  intro p e s m below meth c s₁ hZ hx hby hml hown hnm hret hlk X0 e0
  have N0 := Fr.nil n0
  obtain ⟨_, T1, L1, X1, hQ1, st1⟩ := own_cp X0 hx hZ hown hml rfl (W 191 rfl) (W 192 rfl) (W 54 rfl) (W 193 rfl) (rm27_init l Z a0 hw a1 a2 a3 p4 k5 h0 n0 O0 (F_0) (F_1) (F_2) (S_3) (hc_4) (F_5) (F_6) (F_7) (g_10) (F_8) (ne_11) (F_9) (lt_12)) e0 (hb hby d_178) 0 #[rv a1, rv a2] a1 [(.ref a2), .null] [] pd_273 (by decide) rfl rfl rfl (Nat.le_of_eq rfl)
  obtain ⟨b1_b13_b2_b3, k1_k13_k2_k3, rfl, N1q, K1, gb1_0, F1_0, F1_1, F1_2, F1_3⟩ := hQ1
  have N2 := Fr.app N0 N1q
  have O3 := O0.keep K1 (allS g_10 all0)
  have K4 : Keep h0 T1.heap [a1] := Keep.trans (Keep.refl h0 [a1]) K1 (allS (Or.inl (List.mem_of_getElem? (i := 0) rfl)) all0)
  refine ⟨T1, none, _, _, _, X1, by decide, by decide, (fun _ => rfl), ?_, fun fs hr => castTop (ef_118 m a1 a2) ?_⟩
  · show Q28_init Z a1 a2 a3 p4 k5 h0 n0 _ T1.heap _
    exact ⟨b1_b13_b2_b3, k1_k13_k2_k3, rfl, N2, K4, gb1_0, F1_0, F1_1, F1_2, F1_3⟩
  · show SS p e below s₁ m 0 #[rv a1, rv a2] [] _
    refine XS.aloadN X0.here hx rfl (hb hby d_175) rfl rfl ?_
    refine XS.aloadN X0.here hx rfl (hb hby d_176) rfl rfl ?_
    refine XS.aconstNull X0.here hx rfl (hb hby d_177) ?_
    show SS p e below s₁ m 3 #[rv a1, rv a2] [.null, (.ref a2), (.ref a1)] _
    refine st1 _ ?_
    show SS p e below T1 m 6 #[rv a1, rv a2] [] _
    exact X1.returnOut hx hret (hb hby d_274) hr
theorem pd_275 : parseMethodDescriptor "(Ljava/lang/StringBuilder;)V" = some ⟨[(.object "java/lang/StringBuilder")], none⟩ := by decide +kernel
theorem d_276 : decode jdk_67_method_42_code 8 = .ok (.areturn, 1) := by decide +kernel
-- java/lang/StringBuilder.toString()Ljava/lang/String;
def Q29_toString (Z : State) (a1 : Addr) (a2 : Addr) (p3 : Int32) (k4 : ClassId) (h0 : Heap) (n0 : Nat) (v : Option Value) (h : Heap) (L : List Loc) : Prop := ∃ (b1 : Addr) (b4_b1_b13_b2_b3 : Addr) (k4_k1_k13_k2_k3 : ClassId), v = some (.ref b1) ∧ Fr n0 L ∧ Keep h0 h [] ∧ h0.size ≤ b1 ∧ h0.size ≤ b4_b1_b13_b2_b3 ∧ EA66 Z h b1 ∧ FA53 Z h b1 (.int (0 : Int32)) ∧ FA54 Z h b1 (.ref b4_b1_b13_b2_b3) ∧ Arv Z h b4_b1_b13_b2_b3 k4_k1_k13_k2_k3 .byte (0 : Int32) [] (.int (0 : Int32)) ∧ EA58 Z h b4_b1_b13_b2_b3
set_option maxRecDepth 65536 in
set_option maxHeartbeats 40000000 in
theorem rm29_toString (l : Launch) (Z : State) (a0 : Array Value) (hw : HW Z a0) (a1 : Addr) (a2 : Addr) (p3 : Int32) (k4 : ClassId) (h0 : Heap) (n0 : Nat) (O0 : Old Z n0 h0) (F_0 : EA59 Z h0 a1) (F_1 : FA38 Z h0 a1 (.ref a2)) (F_2 : FA40 Z h0 a1 (.int (0 : Int32))) (S_3 : SA71 Z Z.heap (.int p3)) (hc_4 : ¬ (p3 = (0 : Int32))) (F_5 : FA39 Z h0 a1 (.int (0 : Int32))) (F_6 : Arv Z h0 a2 k4 .byte (16 : Int32) [(.int (0 : Int32)), (.int (0 : Int32)), (.int (0 : Int32)), (.int (0 : Int32)), (.int (0 : Int32)), (.int (0 : Int32)), (.int (0 : Int32)), (.int (0 : Int32)), (.int (0 : Int32)), (.int (0 : Int32)), (.int (0 : Int32)), (.int (0 : Int32)), (.int (0 : Int32)), (.int (0 : Int32)), (.int (0 : Int32)), (.int (0 : Int32))] (.int (0 : Int32))) (lt_7 : a2 < h0.size) :
    Met l Z [] Y31 jdk_67_method_42_code 1 (some (.object "java/lang/String")) ({ frames := 5, cells := 2, slots := 4, locals := 88 } : Room) #[(.ref a1)] h0 (Q29_toString Z a1 a2 p3 k4 h0 n0) := by
  have W := fun (i : Nat) {c : Jvm.Cond} (q : tables_1[i]? = some c) => hw c (List.mem_of_getElem? q)
  refine own_mk (plainFor_of_name pn_53) ?_
  intro p e s m below meth c s₁ hZ hx hby hml hown hnm hret hlk X0 e0
  have N0 := Fr.nil n0
  obtain ⟨T1, h1, X1, e1, E1, A1, D1, -, st1⟩ := newO X0 hx hZ hown (W 185 rfl) (W 186 rfl) (W 54 rfl) e0 (g := (mkF m 0 #[rv a1] [])) rfl (hb hby d_171) (by decide) (by decide)
  obtain ⟨b1, g1⟩ : ∃ z, z = h0.size := ⟨_, rfl⟩
  rw [← g1] at A1 D1 st1
  have O2 := O0.ext E1
  have K3 : Keep h0 h1 [] := Keep.ext (Keep.refl h0 []) E1
  have f5 := (F_0.ext E1)
  have f6 := (F_1.ext E1)
  have f7 := (F_2.ext E1)
  have f8 := (F_5.ext E1)
  have f9 := (F_6.ext E1)
  have g10 : n0 ≤ b1 := Nat.le_trans (Nat.le_trans (Nat.le_of_eq O0.1.symm) O0.2.1) (Nat.le_of_eq g1.symm)
  obtain ⟨_, T4, L4, X4, hQ4, st4⟩ := own_cp X1 hx hZ hown hml rfl (W 187 rfl) (W 188 rfl) (W 54 rfl) (W 190 rfl) (rm28_init l Z a0 hw b1 a1 a2 p3 k4 h1 n0 O2 (f5) (f6) (f7) (S_3) (hc_4) (f8) (A1) ((D1 (Or.inr (W 217 rfl)) (ty := .byte) (by decide) : FA53 Z h1 b1 (.int (0 : Int32)))) (f9) ((D1 (Or.inr (W 237 rfl)) (ty := (.array .byte)) (by decide) : FA54 Z h1 b1 .null)) (g10) ((Ne.symm (Nat.ne_of_lt (Nat.lt_of_lt_of_le lt_7 (Nat.le_of_eq g1.symm))))) (A1.lt)) e1 (hb hby d_174) 1 #[rv a1] b1 [(.ref a1)] [(.ref b1)] pd_275 (by decide) rfl rfl rfl (Nat.le_of_eq rfl)
  obtain ⟨b4_b1_b13_b2_b3, k4_k1_k13_k2_k3, rfl, N4q, K4, gb4_0, F4_0, F4_1, F4_2, F4_3⟩ := hQ4
  have N11 := Fr.app N0 N4q
  have O12 := O2.keep K4 (allS g10 all0)
  have K13 : Keep h0 T4.heap [] := Keep.trans K3 K4 (allS (Or.inr (Nat.le_of_eq g1.symm)) all0)
  have f14 := (A1.keep K4)
  have z15 : h0.size ≤ h1.size := E1.1
  refine ⟨T4, some (.ref b1), _, _, _, X4, by decide, by decide, nofun, ?_, fun fs hr => castTop (ef_14 m a1) ?_⟩
  · show Q29_toString Z a1 a2 p3 k4 h0 n0 _ T4.heap _
    exact ⟨b1, b4_b1_b13_b2_b3, k4_k1_k13_k2_k3, rfl, N11, K13, (Nat.le_of_eq g1.symm), (Nat.le_trans z15 gb4_0), f14, F4_2, F4_3, F4_0, F4_1⟩
  · show SS p e below s₁ m 0 #[rv a1] [] _
    refine st1 _ ?_
    show SS p e below T1 m 3 #[rv a1] [(.ref b1)] _
    refine XS.dup X1.here hx rfl (hb hby d_172) rfl rfl ?_
    refine XS.aloadN X1.here hx rfl (hb hby d_173) rfl rfl ?_
    show SS p e below T1 m 5 #[rv a1] [(.ref a1), (.ref b1), (.ref b1)] _
    refine st4 _ ?_
    show SS p e below T4 m 8 #[rv a1] [(.ref b1)] _
    exact retOut X4 hx hret rfl (Or.inr (Or.inr (Or.inr (Or.inr ⟨rfl, rfl, rfl⟩)))) (hb hby d_276) hr
theorem pd_277 : parseMethodDescriptor "()Ljava/lang/String;" = some ⟨[], some (.object "java/lang/String")⟩ := by decide +kernel
theorem d_278 : decode prog_65_method_7_code 7 = .ok (.areturn, 1) := by decide +kernel
-- com/example/temporal_query_rewriter/temporalqueryrewriter/WithQuery.toString()Ljava/lang/String;
def Q30_toString (Z : State) (a1 : Addr) (a2 : Addr) (a3 : Addr) (p4 : Int32) (k5 : ClassId) (h0 : Heap) (n0 : Nat) (v : Option Value) (h : Heap) (L : List Loc) : Prop := ∃ (b2_b1 : Addr) (b2_b4_b1_b13_b2_b3 : Addr) (k2_k4_k1_k13_k2_k3 : ClassId), v = some (.ref b2_b1) ∧ Fr n0 L ∧ Keep h0 h [] ∧ h0.size ≤ b2_b1 ∧ h0.size ≤ b2_b4_b1_b13_b2_b3 ∧ EA66 Z h b2_b1 ∧ FA53 Z h b2_b1 (.int (0 : Int32)) ∧ FA54 Z h b2_b1 (.ref b2_b4_b1_b13_b2_b3) ∧ Arv Z h b2_b4_b1_b13_b2_b3 k2_k4_k1_k13_k2_k3 .byte (0 : Int32) [] (.int (0 : Int32)) ∧ EA58 Z h b2_b4_b1_b13_b2_b3
set_option maxRecDepth 65536 in
set_option maxHeartbeats 40000000 in
theorem rm30_toString (l : Launch) (Z : State) (a0 : Array Value) (hw : HW Z a0) (a1 : Addr) (a2 : Addr) (a3 : Addr) (p4 : Int32) (k5 : ClassId) (h0 : Heap) (n0 : Nat) (O0 : Old Z n0 h0) (F_0 : FA47 Z h0 a1 (.ref a2)) (F_1 : EA59 Z h0 a2) (F_2 : FA38 Z h0 a2 (.ref a3)) (F_3 : FA40 Z h0 a2 (.int (0 : Int32))) (S_4 : SA71 Z Z.heap (.int p4)) (hc_5 : ¬ (p4 = (0 : Int32))) (F_6 : FA39 Z h0 a2 (.int (0 : Int32))) (F_7 : Arv Z h0 a3 k5 .byte (16 : Int32) [(.int (0 : Int32)), (.int (0 : Int32)), (.int (0 : Int32)), (.int (0 : Int32)), (.int (0 : Int32)), (.int (0 : Int32)), (.int (0 : Int32)), (.int (0 : Int32)), (.int (0 : Int32)), (.int (0 : Int32)), (.int (0 : Int32)), (.int (0 : Int32)), (.int (0 : Int32)), (.int (0 : Int32)), (.int (0 : Int32)), (.int (0 : Int32))] (.int (0 : Int32))) (lt_8 : a3 < h0.size) :
    Met l Z [] Y32 prog_65_method_7_code 1 (some (.object "java/lang/String")) ({ frames := 6, cells := 2, slots := 4, locals := 100 } : Room) #[(.ref a1)] h0 (Q30_toString Z a1 a2 a3 p4 k5 h0 n0) := by
  have W := fun (i : Nat) {c : Jvm.Cond} (q : tables_1[i]? = some c) => hw c (List.mem_of_getElem? q)
  refine own_mk (plainFor_of_name pn_143) ?_
  intro p e s m below meth c s₁ hZ hx hby hml hown hnm hret hlk X0 e0
  have N0 := Fr.nil n0
  obtain ⟨T1, X1, e1, st1⟩ := getF X0 hx hZ hown (host := "") (Or.inl (W 60 rfl)) Via.refl e0 F_0 (g := (mkF m 1 #[rv a1] [(.ref a1)])) rfl rfl (hb hby d_169)
  obtain ⟨_, T2, L2, X2, hQ2, st2⟩ := own_cv X1 hx hZ hown hml (W 180 rfl) (W 181 rfl) (notFace_of_selects (W 183 rfl)) (W 183 rfl) (W 182 rfl) (W 42 rfl) (W 184 rfl) (rm29_toString l Z a0 hw a2 a3 p4 k5 h0 n0 O0 (F_1) (F_2) (F_3) (S_4) (hc_5) (F_6) (F_7) (lt_8)) e1 F_1 (hb hby d_170) 0 #[rv a1] [] [] pd_277 (by decide) rfl rfl rfl (Nat.le_of_eq rfl)
  obtain ⟨b2_b1, b2_b4_b1_b13_b2_b3, k2_k4_k1_k13_k2_k3, rfl, N2q, K2, gb2_0, gb2_1, F2_0, F2_1, F2_2, F2_3, F2_4⟩ := hQ2
  have N3 := Fr.app N0 N2q
  have O4 := O0.keep K2 all0
  have K5 : Keep h0 T2.heap [] := Keep.trans (Keep.refl h0 []) K2 all0
  refine ⟨T2, some (.ref b2_b1), _, _, _, X2, by decide, by decide, nofun, ?_, fun fs hr => castTop (ef_14 m a1) ?_⟩
  · show Q30_toString Z a1 a2 a3 p4 k5 h0 n0 _ T2.heap _
    exact ⟨b2_b1, b2_b4_b1_b13_b2_b3, k2_k4_k1_k13_k2_k3, rfl, N3, K5, gb2_0, gb2_1, F2_0, F2_1, F2_2, F2_3, F2_4⟩
  · show SS p e below s₁ m 0 #[rv a1] [] _
    refine XS.aloadN X0.here hx rfl (hb hby d_168) rfl rfl ?_
    show SS p e below s₁ m 1 #[rv a1] [(.ref a1)] _
    refine st1 _ ?_
    show SS p e below T1 m 4 #[rv a1] [(.ref a2)] _
    refine st2 _ ?_
    show SS p e below T2 m 7 #[rv a1] [(.ref b2_b1)] _
    exact retOut X2 hx hret rfl (Or.inr (Or.inr (Or.inr (Or.inr ⟨rfl, rfl, rfl⟩)))) (hb hby d_278) hr
theorem d_279 : decode jdk_42_method_55_code 0 = .ok (.aload_n 0, 1) := by decide +kernel
theorem d_280 : decode jdk_42_method_55_code 1 = .ok (.getfield 9, 3) := by decide +kernel
theorem d_281 : decode jdk_42_method_55_code 4 = .ok (.arraylength, 1) := by decide +kernel
theorem d_282 : decode jdk_42_method_55_code 5 = .ok (.ifCond .ne 7, 3) := by decide +kernel
theorem d_283 : decode jdk_42_method_55_code 8 = .ok (.iconst 1, 1) := by decide +kernel
theorem d_284 : decode jdk_42_method_55_code 9 = .ok (.goto 4, 3) := by decide +kernel
theorem d_285 : decode jdk_42_method_55_code 13 = .ok (.ireturn, 1) := by decide +kernel
-- java/lang/String.isEmpty()Z
def Q31_isEmpty (Z : State) (a1 : Addr) (a2 : Addr) (k3 : ClassId) (h0 : Heap) (n0 : Nat) (v : Option Value) (h : Heap) (L : List Loc) : Prop := v = some (.int (1 : Int32)) ∧ Fr n0 L ∧ h = h0
set_option maxRecDepth 65536 in
set_option maxHeartbeats 40000000 in
theorem rm31_isEmpty (l : Launch) (Z : State) (a0 : Array Value) (hw : HW Z a0) (a1 : Addr) (a2 : Addr) (k3 : ClassId) (h0 : Heap) (n0 : Nat) (O0 : Old Z n0 h0) (F_0 : FA54 Z h0 a1 (.ref a2)) (F_1 : Arv Z h0 a2 k3 .byte (0 : Int32) [] (.int (0 : Int32))) :
    Met l Z [] Y33 jdk_42_method_55_code 1 (some .boolean) ({ frames := 0, cells := 0, slots := 0, locals := 0 } : Room) #[(.ref a1)] h0 (Q31_isEmpty Z a1 a2 k3 h0 n0) := by
  have W := fun (i : Nat) {c : Jvm.Cond} (q : tables_1[i]? = some c) => hw c (List.mem_of_getElem? q)
  refine own_mk (plainFor_of_name pn_272) ?_
  intro p e s m below meth c s₁ hZ hx hby hml hown hnm hret hlk X0 e0
  have N0 := Fr.nil n0
  obtain ⟨T1, X1, e1, st1⟩ := getF X0 hx hZ hown (host := "") (Or.inl (W 236 rfl)) Via.refl e0 F_0 (g := (mkF m 1 #[rv a1] [(.ref a1)])) rfl rfl (hb hby d_280)
  obtain ⟨c2, A2, q2, S2, N2, H2, G2⟩ := id F_1
  refine ⟨T1, some (.int (1 : Int32)), _, _, _, X1, by decide, by decide, nofun, ?_, fun fs hr => castTop (ef_14 m a1) ?_⟩
  · show Q31_isEmpty Z a1 a2 k3 h0 n0 _ T1.heap _
    rw [e1]
    exact ⟨rfl, N0, rfl⟩
  · show SS p e below s₁ m 0 #[rv a1] [] _
    refine XS.aloadN X0.here hx rfl (hb hby d_279) rfl rfl ?_
    show SS p e below s₁ m 1 #[rv a1] [(.ref a1)] _
    refine st1 _ ?_
    show SS p e below T1 m 4 #[rv a1] [(.ref a2)] _
    refine X1.arraylength hx (by rw [e1]; exact A2.1) (State.isArrayOf_alike hZ.alike A2.2.1) (g := (mkF m 4 #[rv a1] [(.ref a2)])) rfl rfl (hb hby d_281) _ ?_
    rw [len_of S2 N2]
    show SS p e below T1 m 5 #[rv a1] [(.int (0 : Int32))] _
    refine XS.ifNo X1.here hx rfl (hb hby d_282) rfl ((if0 _ _).trans (teq (by decide : (0 : Int32) = (0 : Int32))).2) ?_
    show SS p e below T1 m 8 #[rv a1] [] _
    refine XS.iconst X1.here hx rfl (hb hby d_283) ?_
    refine XS.goto X1.here hx rfl (pc0 := 9) (pc' := 13) rfl (hb hby d_284) (by decide) (by decide) ?_
    show SS p e below T1 m 13 #[rv a1] [(.int (1 : Int32))] _
    exact retN X1 hx (t := .boolean) hret (by simp) (hb hby d_285) hr
theorem ef_286 (m : MethodId) (p1 : Int32) : entryFrame m #[(.int p1)] maxLocals = mkF m 0 #[iv p1, .unset, .unset, .unset, .unset, .unset, .unset, .unset] [] := by first | (simp [entryFrame, mkF, argsToLocals, Value.category]; done) | rfl
set_option maxRecDepth 65536 in
set_option maxHeartbeats 40000000 in
theorem rm0_0 (l : Launch) (Z : State) (a0 : Array Value) (hw : HW Z a0) (ws : List Jvm.Cond) (p1 : Int32) (o_EMPTY_ELEMENTDATA : Addr) (o_DEFAULTCAPACITY_EMPTY_ELEMENTDATA : Addr) (o_COMPACT_STRINGS : Int32) (o_SIOOBE_FORMATTER : Value) (o_H2 : Addr) (o_SQLITE : Addr) (o_DUCKDB : Addr) (o_HSQLDB : Addr) (h0 : Heap) (n0 : Nat) (O0 : Old Z n0 h0) (S_o_EMPTY_ELEMENTDATA : SA72 Z Z.heap (.ref o_EMPTY_ELEMENTDATA)) (E_o_EMPTY_ELEMENTDATA : EA67 Z Z.heap o_EMPTY_ELEMENTDATA) (S_o_DEFAULTCAPACITY_EMPTY_ELEMENTDATA : SA70 Z Z.heap (.ref o_DEFAULTCAPACITY_EMPTY_ELEMENTDATA)) (E_o_DEFAULTCAPACITY_EMPTY_ELEMENTDATA : EA67 Z Z.heap o_DEFAULTCAPACITY_EMPTY_ELEMENTDATA) (S_o_COMPACT_STRINGS : SA71 Z Z.heap (.int o_COMPACT_STRINGS)) (S_o_SIOOBE_FORMATTER : SA73 Z Z.heap o_SIOOBE_FORMATTER) (S_o_H2 : SA69 Z Z.heap (.ref o_H2)) (E_o_H2 : EA65 Z Z.heap o_H2) (S_o_SQLITE : SA74 Z Z.heap (.ref o_SQLITE)) (E_o_SQLITE : EA65 Z Z.heap o_SQLITE) (S_o_DUCKDB : SA75 Z Z.heap (.ref o_DUCKDB)) (E_o_DUCKDB : EA65 Z Z.heap o_DUCKDB) (S_o_HSQLDB : SA76 Z Z.heap (.ref o_HSQLDB)) (E_o_HSQLDB : EA65 Z Z.heap o_HSQLDB) (F_o_H2_windowAggregates : FA51 Z Z.heap o_H2 (.int (1 : Int32))) (F_o_SQLITE_windowAggregates : FA51 Z Z.heap o_SQLITE (.int (1 : Int32))) (F_o_DUCKDB_windowAggregates : FA51 Z Z.heap o_DUCKDB (.int (1 : Int32))) (F_o_HSQLDB_windowAggregates : FA51 Z Z.heap o_HSQLDB (.int (0 : Int32))) (nz_o_COMPACT_STRINGS : ¬ (o_COMPACT_STRINGS = (0 : Int32))) (ir_o_SIOOBE_FORMATTER : o_SIOOBE_FORMATTER.isRef = true) (hf : (p1 &&& (3 : Int32)) = (0 : Int32)) :
    Met l Z ws x code maxLocals ret room_1 #[(.int p1)] h0 (fun v _ L => Q0 n0 v L) := by
  have W := fun (i : Nat) {c : Jvm.Cond} (q : tables_1[i]? = some c) => hw c (List.mem_of_getElem? q)
  refine own_mk (plainFor_of_name pn_5) ?_
  intro p e s m below meth c s₁ hZ hx hby hml hown hnm hret hlk X0 e0
  have N0 := Fr.nil n0
  obtain ⟨_, T1, L1, X1, hQ1, st1⟩ := own_cs X0 hx hZ hown hml (W 0 rfl) (W 1 rfl) (W 2 rfl) (W 3 rfl) (rm1_engineAt l Z a0 hw o_H2 h0 n0 O0 (S_o_H2)) e0 (hb hby at_5) 0 #[iv p1, iv (0 : Int32), .unset, .unset, .unset, .unset, .unset, .unset] [(.int (0 : Int32))] [] pd_6 (by decide) rfl rfl rfl (Nat.le_of_eq rfl)
  obtain ⟨rfl, N1q, K1⟩ := hQ1
  have N2 := Fr.app N0 N1q
  obtain ⟨T3, h3, X3, e3, E3, A3, D3, -, st3⟩ := newO X1 hx hZ hown (W 7 rfl) (W 8 rfl) (W 9 rfl) K1 (g := (mkF m 9 #[iv p1, iv (0 : Int32), rv o_H2, .unset, .unset, .unset, .unset, .unset] [])) rfl (hb hby at_9) (by decide) (by decide)
  obtain ⟨b3, g3⟩ : ∃ z, z = h0.size := ⟨_, rfl⟩
  rw [← g3] at A3 D3 st3
  have O4 := O0.ext E3
  have K5 : Keep h0 h3 [] := Keep.ext (Keep.refl h0 []) E3
  obtain ⟨T6, h6, X6, e6, E6, A6, D6, -, st6⟩ := newO X3 hx hZ hown (W 10 rfl) (W 11 rfl) (W 12 rfl) e3 (g := (mkF m 13 #[iv p1, iv (0 : Int32), rv o_H2, .unset, .unset, .unset, .unset, .unset] [(.ref b3), (.ref b3)])) rfl (hb hby at_13) (by decide) (by decide)
  obtain ⟨b6, g6⟩ : ∃ z, z = h3.size := ⟨_, rfl⟩
  rw [← g6] at A6 D6 st6
  have O7 := O4.ext E6
  have K8 : Keep h0 h6 [] := Keep.ext K5 E6
  have z10 : h0.size ≤ h3.size := E3.1
  have g11 : n0 ≤ b6 := Nat.le_trans (Nat.le_trans (Nat.le_trans (Nat.le_of_eq O0.1.symm) O0.2.1) z10) (Nat.le_of_eq g6.symm)
  obtain ⟨_, T9, L9, X9, hQ9, st9⟩ := own_cp X6 hx hZ hown hml rfl (W 13 rfl) (W 14 rfl) (W 12 rfl) (W 15 rfl) (rm4_init l Z a0 hw b6 o_DEFAULTCAPACITY_EMPTY_ELEMENTDATA h6 n0 O7 (A6) ((D6 (Or.inl (W 32 rfl)) (ty := .int) (by decide) : FA35 Z h6 b6 (.int (0 : Int32)))) ((D6 (Or.inl (W 35 rfl)) (ty := (.array (.object "java/lang/Object"))) (by decide) : FA36 Z h6 b6 .null)) ((D6 (Or.inl (W 149 rfl)) (ty := .int) (by decide) : FA37 Z h6 b6 (.int (0 : Int32)))) (g11) (S_o_DEFAULTCAPACITY_EMPTY_ELEMENTDATA)) e6 (hb hby at_17) 3 #[iv p1, iv (0 : Int32), rv o_H2, .unset, .unset, .unset, .unset, .unset] b6 [] [(.ref b6), (.ref b3), (.ref b3)] pd_16 (by decide) rfl rfl rfl (Nat.le_of_eq rfl)
  obtain ⟨rfl, N9q, K9, F9_0, F9_1, F9_2⟩ := hQ9
  have N12 := Fr.app N2 N9q
  have O13 := O7.keep K9 (allS g11 all0)
  have K14 : Keep h0 T9.heap [] := Keep.trans K8 K9 (allS (Or.inr (Nat.le_trans z10 (Nat.le_of_eq g6.symm))) all0)
  have f16 := ((A3.ext E6).keep K9)
  have f17 := (((D3 (Or.inr (W 61 rfl)) (ty := (.object "java/lang/StringBuilder")) (by decide) : FA47 Z h3 b3 .null).ext E6).keep K9 (ninS (Nat.ne_of_lt (Nat.lt_of_lt_of_le A3.lt (Nat.le_of_eq g6.symm))) nin0))
  have z18 : h3.size ≤ h6.size := E6.1
  have z19 : h3.size ≤ T9.heap.size := (Nat.le_trans z18 K9.1)
  have g20 : n0 ≤ b3 := Nat.le_trans (Nat.le_trans (Nat.le_of_eq O0.1.symm) O0.2.1) (Nat.le_of_eq g3.symm)
  have f21 := (((D3 (Or.inr (W 96 rfl)) (ty := (.object "java/util/Set")) (by decide) : FA48 Z h3 b3 .null).ext E6).keep K9 (ninS (Nat.ne_of_lt (Nat.lt_of_lt_of_le A3.lt (Nat.le_of_eq g6.symm))) nin0))
  have f22 := (((D3 (Or.inr (W 100 rfl)) (ty := (.object "java/util/Map")) (by decide) : FA49 Z h3 b3 .null).ext E6).keep K9 (ninS (Nat.ne_of_lt (Nat.lt_of_lt_of_le A3.lt (Nat.le_of_eq g6.symm))) nin0))
  have f23 := (((D3 (Or.inr (W 102 rfl)) (ty := (.object "com/example/temporal_query_rewriter/temporalqueryrewriter/Engine")) (by decide) : FA50 Z h3 b3 .null).ext E6).keep K9 (ninS (Nat.ne_of_lt (Nat.lt_of_lt_of_le A3.lt (Nat.le_of_eq g6.symm))) nin0))
  have f24 := (A6.keep K9)
  have z25 : h6.size ≤ T9.heap.size := K9.1
  obtain ⟨_, T15, L15, X15, hQ15, st15⟩ := own_cp X9 hx hZ hown hml rfl (W 36 rfl) (W 37 rfl) (W 9 rfl) (W 38 rfl) (rm15_init l Z a0 hw b3 b6 o_H2 o_COMPACT_STRINGS T9.heap n0 O13 (S_o_COMPACT_STRINGS) (nz_o_COMPACT_STRINGS) (f16) (f17) ((Nat.lt_of_lt_of_le A3.lt z19)) (g20) (f21) (f22) (f23) (f24) (F9_0) (F9_2) ((Nat.lt_of_lt_of_le A6.lt z25)) ((Nat.ne_of_lt (Nat.lt_of_lt_of_le A3.lt (Nat.le_of_eq g6.symm))))) rfl (hb hby at_21) 1 #[iv p1, iv (0 : Int32), rv o_H2, .unset, .unset, .unset, .unset, .unset] b3 [(.ref b6), (.ref o_H2)] [(.ref b3)] pd_144 (by decide) rfl rfl rfl (Nat.le_of_eq rfl)
  obtain ⟨b15_b2, b15_b5_b1_b3, b15_b17, b15_b20_b3, b15_b35, k15_k5_k1_k3, rfl, N15q, K15, gb15_0, gb15_1, gb15_2, gb15_3, gb15_4, F15_0, F15_1, F15_2, F15_3, F15_4, F15_5, F15_6, F15_7, F15_8, F15_9, F15_10, F15_11, F15_12, F15_13, F15_14, F15_15⟩ := hQ15
  have N26 := Fr.app N12 N15q
  have O27 := O13.keep K15 (allS g20 all0)
  have K28 : Keep h0 T15.heap [] := Keep.trans K14 K15 (allS (Or.inr (Nat.le_of_eq g3.symm)) all0)
  obtain ⟨_, T29, L29, X29, hQ29, st29⟩ := own_cs X15 hx hZ hown hml (W 150 rfl) (W 151 rfl) (W 152 rfl) (W 153 rfl) (rm18_of l Z a0 hw o_H2 b3 T15.heap n0 O27 (E_o_H2) (F_o_H2_windowAggregates)) rfl (hb hby at_27) 0 #[iv p1, iv (0 : Int32), rv o_H2, rv b3, .unset, .unset, .unset, .unset] [(.ref o_H2), (.ref b3)] [] pd_167 (by decide) rfl rfl rfl (Nat.le_of_eq rfl)
  obtain ⟨b29_b3, rfl, N29q, K29, gb29_0, F29_0, F29_1⟩ := hQ29
  have N30 := Fr.app N26 N29q
  have O31 := O27.keep K29 all0
  have K32 : Keep h0 T29.heap [] := Keep.trans K28 K29 all0
  obtain ⟨T33, X33, e33, st33⟩ := instNo X29 hx hZ hown (W 170 rfl) rfl F29_0 (NS.no (W 171 rfl) (W 261 rfl) (NS.step (W 171 rfl) (NS.root (W 172 rfl) (W 261 rfl) (by decide)) (by decide)) (by decide)) (g := (mkF m 41 #[iv p1, iv (0 : Int32), rv o_H2, rv b3, rv b29_b3, .unset, .unset, .unset] [(.ref b29_b3)])) rfl rfl (hb hby at_41)
  obtain ⟨T34, X34, e34, st34⟩ := instY X33 hx hZ hown (W 173 rfl) e33 (Ins.self F29_0) (g := (mkF m 48 #[iv p1, iv (0 : Int32), rv o_H2, rv b3, rv b29_b3, iv (0 : Int32), .unset, .unset] [(.ref b29_b3)])) rfl rfl (hb hby at_48)
  have f36 := (F15_12.keep K29 nin0)
  have f37 := (F15_0.keep K29)
  have f38 := (F15_1.keep K29 nin0)
  have f39 := (F15_3.keep K29 nin0)
  have f40 := (F15_2.keep K29 nin0)
  have f41 := (F15_4.keep K29 nin0)
  have z42 : T15.heap.size ≤ T29.heap.size := K29.1
  have f43 := ((f16.keep K15).keep K29)
  obtain ⟨_, T35, L35, X35, hQ35, st35⟩ := own_cv X34 hx hZ hown hml (W 175 rfl) (W 176 rfl) (notFace_of_selects (W 178 rfl)) (W 178 rfl) (W 177 rfl) (W 9 rfl) (W 179 rfl) (rm30_toString l Z a0 hw b3 b15_b2 b15_b5_b1_b3 o_COMPACT_STRINGS k15_k5_k1_k3 T29.heap n0 O31 (f36) (f37) (f38) (f39) (S_o_COMPACT_STRINGS) (nz_o_COMPACT_STRINGS) (f40) (f41) ((Nat.lt_of_lt_of_le F15_4.lt z42))) e34 f43 (hb hby at_88) 0 #[iv p1, iv (0 : Int32), rv o_H2, rv b3, rv b29_b3, iv (0 : Int32), iv (1 : Int32), iv (0 : Int32)] [] [] pd_277 (by decide) rfl rfl rfl (Nat.le_of_eq rfl)
  obtain ⟨b35_b2_b1, b35_b2_b4_b1_b13_b2_b3, k35_k2_k4_k1_k13_k2_k3, rfl, N35q, K35, gb35_0, gb35_1, F35_0, F35_1, F35_2, F35_3, F35_4⟩ := hQ35
  have N44 := Fr.app N30 N35q
  have O45 := O31.keep K35 all0
  have K46 : Keep h0 T35.heap [] := Keep.trans K32 K35 all0
  obtain ⟨_, T47, L47, X47, hQ47, st47⟩ := own_cv X35 hx hZ hown hml (W 238 rfl) (W 239 rfl) (notFace_of_selects (W 241 rfl)) (W 241 rfl) (W 240 rfl) (W 54 rfl) (W 242 rfl) (rm31_isEmpty l Z a0 hw b35_b2_b1 b35_b2_b4_b1_b13_b2_b3 k35_k2_k4_k1_k13_k2_k3 T35.heap n0 O45 (F35_2) (F35_3)) rfl F35_0 (hb hby at_91) 0 #[iv p1, iv (0 : Int32), rv o_H2, rv b3, rv b29_b3, iv (0 : Int32), iv (1 : Int32), iv (0 : Int32)] [] [] pd_134 (by decide) rfl rfl rfl (Nat.le_of_eq rfl)
  obtain ⟨rfl, N47q, K47⟩ := hQ47
  have N48 := Fr.app N44 N47q
  refine ⟨T47, some (.int (1 : Int32)), _, _, _, X47, by decide, by decide, nofun, ?_, fun fs hr => castTop (ef_286 m p1) ?_⟩
  · exact ⟨rfl, N48⟩
  · show SS p e below s₁ m 0 #[iv p1, .unset, .unset, .unset, .unset, .unset, .unset, .unset] [] _
    refine XS.iloadN X0.here hx rfl (hb hby at_0) rfl ?_
    refine XS.iconst X0.here hx rfl (hb hby at_1) ?_
    show SS p e below s₁ m 2 #[iv p1, .unset, .unset, .unset, .unset, .unset, .unset, .unset] [(.int (3 : Int32)), (.int p1)] _
    refine XS.iand X0.here hx rfl (hb hby at_2) rfl ?_
    rw [hf]
    show SS p e below s₁ m 3 #[iv p1, .unset, .unset, .unset, .unset, .unset, .unset, .unset] [(.int (0 : Int32))] _
    refine XS.istoreN X0.here hx rfl (hb hby at_3) rfl (l' := #[iv p1, iv (0 : Int32), .unset, .unset, .unset, .unset, .unset, .unset]) rfl ?_
    show SS p e below s₁ m 4 #[iv p1, iv (0 : Int32), .unset, .unset, .unset, .unset, .unset, .unset] [] _
    refine XS.iloadN X0.here hx rfl (hb hby at_4) rfl ?_
    show SS p e below s₁ m 5 #[iv p1, iv (0 : Int32), .unset, .unset, .unset, .unset, .unset, .unset] [(.int (0 : Int32))] _
    refine st1 _ ?_
    show SS p e below T1 m 8 #[iv p1, iv (0 : Int32), .unset, .unset, .unset, .unset, .unset, .unset] [(.ref o_H2)] _
    refine XS.astoreN X1.here hx rfl (hb hby at_8) rfl rfl (l' := #[iv p1, iv (0 : Int32), rv o_H2, .unset, .unset, .unset, .unset, .unset]) rfl ?_
    show SS p e below T1 m 9 #[iv p1, iv (0 : Int32), rv o_H2, .unset, .unset, .unset, .unset, .unset] [] _
    refine st3 _ ?_
    show SS p e below T3 m 12 #[iv p1, iv (0 : Int32), rv o_H2, .unset, .unset, .unset, .unset, .unset] [(.ref b3)] _
    refine XS.dup X3.here hx rfl (hb hby at_12) rfl rfl ?_
    show SS p e below T3 m 13 #[iv p1, iv (0 : Int32), rv o_H2, .unset, .unset, .unset, .unset, .unset] [(.ref b3), (.ref b3)] _
    refine st6 _ ?_
    show SS p e below T6 m 16 #[iv p1, iv (0 : Int32), rv o_H2, .unset, .unset, .unset, .unset, .unset] [(.ref b6), (.ref b3), (.ref b3)] _
    refine XS.dup X6.here hx rfl (hb hby at_16) rfl rfl ?_
    show SS p e below T6 m 17 #[iv p1, iv (0 : Int32), rv o_H2, .unset, .unset, .unset, .unset, .unset] [(.ref b6), (.ref b6), (.ref b3), (.ref b3)] _
    refine st9 _ ?_
    show SS p e below T9 m 20 #[iv p1, iv (0 : Int32), rv o_H2, .unset, .unset, .unset, .unset, .unset] [(.ref b6), (.ref b3), (.ref b3)] _
    refine XS.aloadN X9.here hx rfl (hb hby at_20) rfl rfl ?_
    show SS p e below T9 m 21 #[iv p1, iv (0 : Int32), rv o_H2, .unset, .unset, .unset, .unset, .unset] [(.ref o_H2), (.ref b6), (.ref b3), (.ref b3)] _
    refine st15 _ ?_
    show SS p e below T15 m 24 #[iv p1, iv (0 : Int32), rv o_H2, .unset, .unset, .unset, .unset, .unset] [(.ref b3)] _
    refine XS.astoreN X15.here hx rfl (hb hby at_24) rfl rfl (l' := #[iv p1, iv (0 : Int32), rv o_H2, rv b3, .unset, .unset, .unset, .unset]) rfl ?_
    show SS p e below T15 m 25 #[iv p1, iv (0 : Int32), rv o_H2, rv b3, .unset, .unset, .unset, .unset] [] _
    refine XS.aloadN X15.here hx rfl (hb hby at_25) rfl rfl ?_
    refine XS.aloadN X15.here hx rfl (hb hby at_26) rfl rfl ?_
    show SS p e below T15 m 27 #[iv p1, iv (0 : Int32), rv o_H2, rv b3, .unset, .unset, .unset, .unset] [(.ref b3), (.ref o_H2)] _
    refine st29 _ ?_
    show SS p e below T29 m 30 #[iv p1, iv (0 : Int32), rv o_H2, rv b3, .unset, .unset, .unset, .unset] [(.ref b29_b3)] _
    refine XS.astore X29.here hx rfl (hb hby at_30) rfl rfl (l' := #[iv p1, iv (0 : Int32), rv o_H2, rv b3, rv b29_b3, .unset, .unset, .unset]) rfl ?_
    show SS p e below T29 m 32 #[iv p1, iv (0 : Int32), rv o_H2, rv b3, rv b29_b3, .unset, .unset, .unset] [] _
    refine XS.aload X29.here hx rfl (hb hby at_32) rfl rfl ?_
    show SS p e below T29 m 34 #[iv p1, iv (0 : Int32), rv o_H2, rv b3, rv b29_b3, .unset, .unset, .unset] [(.ref b29_b3)] _
    refine XS.ifnonnullYes X29.here hx rfl (pc0 := 34) (pc' := 39) rfl (hb hby at_34) rfl (by decide) (by decide) ?_
    show SS p e below T29 m 39 #[iv p1, iv (0 : Int32), rv o_H2, rv b3, rv b29_b3, .unset, .unset, .unset] [] _
    refine XS.aload X29.here hx rfl (hb hby at_39) rfl rfl ?_
    show SS p e below T29 m 41 #[iv p1, iv (0 : Int32), rv o_H2, rv b3, rv b29_b3, .unset, .unset, .unset] [(.ref b29_b3)] _
    refine st33 _ ?_
    show SS p e below T33 m 44 #[iv p1, iv (0 : Int32), rv o_H2, rv b3, rv b29_b3, .unset, .unset, .unset] [(.int (0 : Int32))] _
    refine XS.istore X33.here hx rfl (hb hby at_44) rfl (l' := #[iv p1, iv (0 : Int32), rv o_H2, rv b3, rv b29_b3, iv (0 : Int32), .unset, .unset]) rfl ?_
    show SS p e below T33 m 46 #[iv p1, iv (0 : Int32), rv o_H2, rv b3, rv b29_b3, iv (0 : Int32), .unset, .unset] [] _
    refine XS.aload X33.here hx rfl (hb hby at_46) rfl rfl ?_
    show SS p e below T33 m 48 #[iv p1, iv (0 : Int32), rv o_H2, rv b3, rv b29_b3, iv (0 : Int32), .unset, .unset] [(.ref b29_b3)] _
    refine st34 _ ?_
    show SS p e below T34 m 51 #[iv p1, iv (0 : Int32), rv o_H2, rv b3, rv b29_b3, iv (0 : Int32), .unset, .unset] [(.int (1 : Int32))] _
    refine XS.istore X34.here hx rfl (hb hby at_51) rfl (l' := #[iv p1, iv (0 : Int32), rv o_H2, rv b3, rv b29_b3, iv (0 : Int32), iv (1 : Int32), .unset]) rfl ?_
    show SS p e below T34 m 53 #[iv p1, iv (0 : Int32), rv o_H2, rv b3, rv b29_b3, iv (0 : Int32), iv (1 : Int32), .unset] [] _
    refine XS.iloadN X34.here hx rfl (hb hby at_53) rfl ?_
    refine XS.iconst X34.here hx rfl (hb hby at_54) ?_
    show SS p e below T34 m 55 #[iv p1, iv (0 : Int32), rv o_H2, rv b3, rv b29_b3, iv (0 : Int32), iv (1 : Int32), .unset] [(.int (1 : Int32)), (.int (0 : Int32))] _
    refine XS.icmpYes X34.here hx rfl (pc0 := 55) (pc' := 62) rfl (hb hby at_55) rfl (feq (by decide : ¬ ((0 : Int32) = (1 : Int32)))).2 (by decide) (by decide) ?_
    show SS p e below T34 m 62 #[iv p1, iv (0 : Int32), rv o_H2, rv b3, rv b29_b3, iv (0 : Int32), iv (1 : Int32), .unset] [] _
    refine XS.iconst X34.here hx rfl (hb hby at_62) ?_
    show SS p e below T34 m 63 #[iv p1, iv (0 : Int32), rv o_H2, rv b3, rv b29_b3, iv (0 : Int32), iv (1 : Int32), .unset] [(.int (0 : Int32))] _
    refine XS.istore X34.here hx rfl (hb hby at_63) rfl (l' := #[iv p1, iv (0 : Int32), rv o_H2, rv b3, rv b29_b3, iv (0 : Int32), iv (1 : Int32), iv (0 : Int32)]) rfl ?_
    show SS p e below T34 m 65 #[iv p1, iv (0 : Int32), rv o_H2, rv b3, rv b29_b3, iv (0 : Int32), iv (1 : Int32), iv (0 : Int32)] [] _
    refine XS.iload X34.here hx rfl (hb hby at_65) rfl ?_
    refine XS.iload X34.here hx rfl (hb hby at_67) rfl ?_
    show SS p e below T34 m 69 #[iv p1, iv (0 : Int32), rv o_H2, rv b3, rv b29_b3, iv (0 : Int32), iv (1 : Int32), iv (0 : Int32)] [(.int (0 : Int32)), (.int (0 : Int32))] _
    refine XS.icmpNo X34.here hx rfl (hb hby at_69) rfl (teq (by decide : (0 : Int32) = (0 : Int32))).2 ?_
    show SS p e below T34 m 72 #[iv p1, iv (0 : Int32), rv o_H2, rv b3, rv b29_b3, iv (0 : Int32), iv (1 : Int32), iv (0 : Int32)] [] _
    refine XS.iload X34.here hx rfl (hb hby at_72) rfl ?_
    refine XS.iload X34.here hx rfl (hb hby at_74) rfl ?_
    show SS p e below T34 m 76 #[iv p1, iv (0 : Int32), rv o_H2, rv b3, rv b29_b3, iv (0 : Int32), iv (1 : Int32), iv (0 : Int32)] [(.int (0 : Int32)), (.int (1 : Int32))] _
    refine XS.ifNo X34.here hx rfl (hb hby at_76) rfl ((if0 _ _).trans (teq (by decide : (0 : Int32) = (0 : Int32))).2) ?_
    show SS p e below T34 m 79 #[iv p1, iv (0 : Int32), rv o_H2, rv b3, rv b29_b3, iv (0 : Int32), iv (1 : Int32), iv (0 : Int32)] [(.int (1 : Int32))] _
    refine XS.iconst X34.here hx rfl (hb hby at_79) ?_
    refine XS.goto X34.here hx rfl (pc0 := 80) (pc' := 84) rfl (hb hby at_80) (by decide) (by decide) ?_
    show SS p e below T34 m 84 #[iv p1, iv (0 : Int32), rv o_H2, rv b3, rv b29_b3, iv (0 : Int32), iv (1 : Int32), iv (0 : Int32)] [(.int (1 : Int32)), (.int (1 : Int32))] _
    refine XS.icmpNo X34.here hx rfl (hb hby at_84) rfl (teq (by decide : (1 : Int32) = (1 : Int32))).2 ?_
    show SS p e below T34 m 87 #[iv p1, iv (0 : Int32), rv o_H2, rv b3, rv b29_b3, iv (0 : Int32), iv (1 : Int32), iv (0 : Int32)] [] _
    refine XS.aloadN X34.here hx rfl (hb hby at_87) rfl rfl ?_
    show SS p e below T34 m 88 #[iv p1, iv (0 : Int32), rv o_H2, rv b3, rv b29_b3, iv (0 : Int32), iv (1 : Int32), iv (0 : Int32)] [(.ref b3)] _
    refine st35 _ ?_
    show SS p e below T35 m 91 #[iv p1, iv (0 : Int32), rv o_H2, rv b3, rv b29_b3, iv (0 : Int32), iv (1 : Int32), iv (0 : Int32)] [(.ref b35_b2_b1)] _
    refine st47 _ ?_
    show SS p e below T47 m 94 #[iv p1, iv (0 : Int32), rv o_H2, rv b3, rv b29_b3, iv (0 : Int32), iv (1 : Int32), iv (0 : Int32)] [(.int (1 : Int32))] _
    refine XS.ifNo X47.here hx rfl (hb hby at_94) rfl ((if0 _ _).trans (feq (by decide : ¬ ((1 : Int32) = (0 : Int32)))).1) ?_
    show SS p e below T47 m 97 #[iv p1, iv (0 : Int32), rv o_H2, rv b3, rv b29_b3, iv (0 : Int32), iv (1 : Int32), iv (0 : Int32)] [] _
    refine XS.iconst X47.here hx rfl (hb hby at_97) ?_
    refine XS.goto X47.here hx rfl (pc0 := 98) (pc' := 102) rfl (hb hby at_98) (by decide) (by decide) ?_
    show SS p e below T47 m 102 #[iv p1, iv (0 : Int32), rv o_H2, rv b3, rv b29_b3, iv (0 : Int32), iv (1 : Int32), iv (0 : Int32)] [(.int (1 : Int32))] _
    exact retN X47 hx (t := .boolean) hret (by simp) (hb hby at_102) hr
theorem d_287 : decode method_2_code 8 = .ok (.iload_n 0, 1) := by decide +kernel
theorem d_288 : decode method_2_code 9 = .ok (.iconst 1, 1) := by decide +kernel
theorem d_289 : decode method_2_code 10 = .ok (.if_icmp .ne 7, 3) := by decide +kernel
theorem d_290 : decode method_2_code 13 = .ok (.getstatic 13, 3) := by decide +kernel
theorem d_291 : decode method_2_code 16 = .ok (.areturn, 1) := by decide +kernel
theorem ef_292 (m : MethodId)  : entryFrame m #[(.int (1 : Int32))] 1 = mkF m 0 #[iv (1 : Int32)] [] := by first | (simp [entryFrame, mkF, argsToLocals, Value.category]; done) | rfl
-- com/example/temporal_query_rewriter/temporalqueryrewriter/IslandsOfPinLaw.engineAt(I)Lcom/example/temporal_query_rewriter/temporalqueryrewriter/Engine;
def Q32_engineAt (Z : State) (a1 : Addr) (h0 : Heap) (n0 : Nat) (v : Option Value) (h : Heap) (L : List Loc) : Prop := v = some (.ref a1) ∧ Fr n0 L ∧ h = h0
set_option maxRecDepth 65536 in
set_option maxHeartbeats 40000000 in
theorem rm32_engineAt (l : Launch) (Z : State) (a0 : Array Value) (hw : HW Z a0) (a1 : Addr) (h0 : Heap) (n0 : Nat) (O0 : Old Z n0 h0) (S_0 : SA76 Z Z.heap (.ref a1)) :
    Met l Z [] Y0 method_2_code 1 (some (.object "com/example/temporal_query_rewriter/temporalqueryrewriter/Engine")) ({ frames := 0, cells := 0, slots := 0, locals := 0 } : Room) #[(.int (1 : Int32))] h0 (Q32_engineAt Z a1 h0 n0) := by
  have W := fun (i : Nat) {c : Jvm.Cond} (q : tables_1[i]? = some c) => hw c (List.mem_of_getElem? q)
  refine own_mk (plainFor_of_name pn_5) ?_
  intro p e s m below meth c s₁ hZ hx hby hml hown hnm hret hlk X0 e0
  have N0 := Fr.nil n0
  obtain ⟨T1, X1, e1, st1⟩ := getS2 X0 hx hZ hown (host := "") (Or.inl (W 247 rfl)) Via.refl e0 (S_0.ext O0.2) (g := (mkF m 13 #[iv (1 : Int32)] [])) rfl (hb hby d_290)
  refine ⟨T1, some (.ref a1), _, _, _, X1, by decide, by decide, nofun, ?_, fun fs hr => castTop (ef_292 m ) ?_⟩
  · show Q32_engineAt Z a1 h0 n0 _ T1.heap _
    rw [e1]
    exact ⟨rfl, N0, rfl⟩
  · show SS p e below s₁ m 0 #[iv (1 : Int32)] [] _
    refine XS.iloadN X0.here hx rfl (hb hby d_0) rfl ?_
    show SS p e below s₁ m 1 #[iv (1 : Int32)] [(.int (1 : Int32))] _
    refine XS.ifYes X0.here hx rfl (pc0 := 1) (pc' := 8) rfl (hb hby d_1) rfl ((if0 _ _).trans (feq (by decide : ¬ ((1 : Int32) = (0 : Int32)))).2) (by decide) (by decide) ?_
    show SS p e below s₁ m 8 #[iv (1 : Int32)] [] _
    refine XS.iloadN X0.here hx rfl (hb hby d_287) rfl ?_
    refine XS.iconst X0.here hx rfl (hb hby d_288) ?_
    show SS p e below s₁ m 10 #[iv (1 : Int32)] [(.int (1 : Int32)), (.int (1 : Int32))] _
    refine XS.icmpNo X0.here hx rfl (hb hby d_289) rfl (teq (by decide : (1 : Int32) = (1 : Int32))).2 ?_
    show SS p e below s₁ m 13 #[iv (1 : Int32)] [] _
    refine st1 _ ?_
    show SS p e below T1 m 16 #[iv (1 : Int32)] [(.ref a1)] _
    exact retOut X1 hx hret rfl (Or.inr (Or.inr (Or.inr (Or.inr ⟨rfl, rfl, rfl⟩)))) (hb hby d_291) hr
-- com/example/temporal_query_rewriter/temporalqueryrewriter/Engine.windowAggregates()Z
def Q33_windowAggregates (Z : State) (a1 : Addr) (h0 : Heap) (n0 : Nat) (v : Option Value) (h : Heap) (L : List Loc) : Prop := v = some (.int (0 : Int32)) ∧ Fr n0 L ∧ h = h0
set_option maxRecDepth 65536 in
set_option maxHeartbeats 40000000 in
theorem rm33_windowAggregates (l : Launch) (Z : State) (a0 : Array Value) (hw : HW Z a0) (a1 : Addr) (h0 : Heap) (n0 : Nat) (O0 : Old Z n0 h0) (F_0 : FA51 Z Z.heap a1 (.int (0 : Int32))) :
    Met l Z [] Y18 prog_4_method_8_code 1 (some .boolean) ({ frames := 0, cells := 0, slots := 0, locals := 0 } : Room) #[(.ref a1)] h0 (Q33_windowAggregates Z a1 h0 n0) := by
  have W := fun (i : Nat) {c : Jvm.Cond} (q : tables_1[i]? = some c) => hw c (List.mem_of_getElem? q)
  refine own_mk (plainFor_of_name pn_150) ?_
  intro p e s m below meth c s₁ hZ hx hby hml hown hnm hret hlk X0 e0
  have N0 := Fr.nil n0
  obtain ⟨T1, X1, e1, st1⟩ := getF X0 hx hZ hown (host := "") (Or.inl (W 159 rfl)) Via.refl e0 (F_0.ext O0.2) (g := (mkF m 1 #[rv a1] [(.ref a1)])) rfl rfl (hb hby d_148)
  refine ⟨T1, some (.int (0 : Int32)), _, _, _, X1, by decide, by decide, nofun, ?_, fun fs hr => castTop (ef_14 m a1) ?_⟩
  · show Q33_windowAggregates Z a1 h0 n0 _ T1.heap _
    rw [e1]
    exact ⟨rfl, N0, rfl⟩
  · show SS p e below s₁ m 0 #[rv a1] [] _
    refine XS.aloadN X0.here hx rfl (hb hby d_147) rfl rfl ?_
    show SS p e below s₁ m 1 #[rv a1] [(.ref a1)] _
    refine st1 _ ?_
    show SS p e below T1 m 4 #[rv a1] [(.int (0 : Int32))] _
    exact retN X1 hx (t := .boolean) hret (by simp) (hb hby d_149) hr
theorem d_293 : decode prog_16_method_1_code 18 = .ok (.new 13, 3) := by decide +kernel
theorem d_294 : decode prog_16_method_1_code 21 = .ok (.dup, 1) := by decide +kernel
theorem d_295 : decode prog_16_method_1_code 22 = .ok (.aload_n 1, 1) := by decide +kernel
theorem d_296 : decode prog_16_method_1_code 23 = .ok (.aload_n 0, 1) := by decide +kernel
theorem d_297 : decode prog_16_method_1_code 24 = .ok (.invokespecial 15, 3) := by decide +kernel
theorem d_298 : decode prog_46_method_1_code 0 = .ok (.aload_n 0, 1) := by decide +kernel
theorem d_299 : decode prog_46_method_1_code 1 = .ok (.invokespecial 1, 3) := by decide +kernel
theorem d_300 : decode prog_46_method_1_code 4 = .ok (.aload_n 0, 1) := by decide +kernel
theorem d_301 : decode prog_46_method_1_code 5 = .ok (.aload_n 1, 1) := by decide +kernel
theorem d_302 : decode prog_46_method_1_code 6 = .ok (.putfield 7, 3) := by decide +kernel
theorem d_303 : decode prog_46_method_1_code 9 = .ok (.aload_n 0, 1) := by decide +kernel
theorem d_304 : decode prog_46_method_1_code 10 = .ok (.aload_n 2, 1) := by decide +kernel
theorem d_305 : decode prog_46_method_1_code 11 = .ok (.putfield 13, 3) := by decide +kernel
theorem d_306 : decode prog_46_method_1_code 14 = .ok (.return_, 1) := by decide +kernel
theorem pn_307 : plainName "com/example/temporal_query_rewriter/temporalqueryrewriter/SortedIslands" = true := by first | (simp [plainName, overriddenIn]; done) | decide +kernel
-- com/example/temporal_query_rewriter/temporalqueryrewriter/SortedIslands.<init>(Lcom/example/temporal_query_rewriter/temporalqueryrewriter/WithQuery;Lcom/example/temporal_query_rewriter/temporalqueryrewriter/Engine;)V
def Q34_init (Z : State) (a1 : Addr) (a2 : Addr) (a3 : Addr) (h0 : Heap) (n0 : Nat) (v : Option Value) (h : Heap) (L : List Loc) : Prop := v = none ∧ Fr n0 L ∧ Keep h0 h [a1] ∧ FA55 Z h a1 (.ref a2) ∧ FA56 Z h a1 (.ref a3)
set_option maxRecDepth 65536 in
set_option maxHeartbeats 40000000 in
theorem rm34_init (l : Launch) (Z : State) (a0 : Array Value) (hw : HW Z a0) (a1 : Addr) (a2 : Addr) (a3 : Addr) (h0 : Heap) (n0 : Nat) (O0 : Old Z n0 h0) (F_0 : EA68 Z h0 a1) (F_1 : FA55 Z h0 a1 .null) (g_2 : n0 ≤ a1) (F_3 : FA56 Z h0 a1 .null) :
    Met l Z [] Y34 prog_46_method_1_code 3 none ({ frames := 1, cells := 0, slots := 0, locals := 12 } : Room) #[(.ref a1), (.ref a2), (.ref a3)] h0 (Q34_init Z a1 a2 a3 h0 n0) := by
  have W := fun (i : Nat) {c : Jvm.Cond} (q : tables_1[i]? = some c) => hw c (List.mem_of_getElem? q)
  refine own_mk (plainFor_of_name pn_307) ?_
  intro p e s m below meth c s₁ hZ hx hby hml hown hnm hret hlk X0 e0
  have N0 := Fr.nil n0
  obtain ⟨T1, X1, e1, st1⟩ := initO X0 hx hZ hown (W 255 rfl) (W 29 rfl) (W 30 rfl) e0 (g := (mkF m 1 #[rv a1, rv a2, rv a3] [(.ref a1)])) rfl (by rw [hml]; rfl) rfl (hb hby d_299) (by decide) (W := 0) (by show 2 * 0 + _ ≤ _; exact Nat.le_of_eq rfl) (by decide)
  obtain ⟨T2, h2, X2, e2, W2, st2⟩ := putF X1 hx hZ hown (host := "") (Or.inl (W 256 rfl)) Via.refl e1 F_1 F_0 (Or.inr ⟨(W 257 rfl), rfl, hnm⟩) (W 250 rfl) (ty := (.object "com/example/temporal_query_rewriter/temporalqueryrewriter/WithQuery")) (by decide) rfl rfl (g := (mkF m 6 #[rv a1, rv a2, rv a3] [(.ref a2), (.ref a1)])) rfl rfl (hb hby d_302)
  have O3 := O0.wr W2 g_2
  have K4 : Keep h0 h2 [a1] := Keep.wr (Keep.refl h0 [a1]) W2 (Or.inl (List.mem_of_getElem? (i := 0) rfl))
  have f5 : FA55 Z h2 a1 (.ref a2) := (F_1.same W2)
  have N6 := Fr.snoc X2 N0 g_2
  have f8 := (F_3.other W2 (Or.inr (slot_ne (Or.inr (W 259 rfl)) (Or.inr (W 257 rfl)) (by decide) (t := (.object "com/example/temporal_query_rewriter/temporalqueryrewriter/Engine")) (t' := (.object "com/example/temporal_query_rewriter/temporalqueryrewriter/WithQuery")) (by decide) (by decide))))
  have f9 := (F_0.wr W2)
  obtain ⟨T7, h7, X7, e7, W7, st7⟩ := putF X2 hx hZ hown (host := "") (Or.inl (W 258 rfl)) Via.refl e2 f8 f9 (Or.inr ⟨(W 259 rfl), rfl, hnm⟩) (W 250 rfl) (ty := (.object "com/example/temporal_query_rewriter/temporalqueryrewriter/Engine")) (by decide) rfl rfl (g := (mkF m 11 #[rv a1, rv a2, rv a3] [(.ref a3), (.ref a1)])) rfl rfl (hb hby d_305)
  have O10 := O3.wr W7 g_2
  have K11 : Keep h0 h7 [a1] := Keep.wr K4 W7 (Or.inl (List.mem_of_getElem? (i := 0) rfl))
  have f12 : FA56 Z h7 a1 (.ref a3) := (f8.same W7)
  have N13 := Fr.snoc X7 N6 g_2
  have f14 := (f5.other W7 (Or.inr (slot_ne (Or.inr (W 257 rfl)) (Or.inr (W 259 rfl)) (by decide) (t := (.object "com/example/temporal_query_rewriter/temporalqueryrewriter/WithQuery")) (t' := (.object "com/example/temporal_query_rewriter/temporalqueryrewriter/Engine")) (by decide) (by decide))))
  refine ⟨T7, none, _, _, _, X7, by decide, by decide, (fun _ => rfl), ?_, fun fs hr => castTop (ef_142 m a1 a2 a3) ?_⟩
  · show Q34_init Z a1 a2 a3 h0 n0 _ T7.heap _
    rw [e7]
    exact ⟨rfl, N13, K11, f14, f12⟩
  · show SS p e below s₁ m 0 #[rv a1, rv a2, rv a3] [] _
    refine XS.aloadN X0.here hx rfl (hb hby d_298) rfl rfl ?_
    show SS p e below s₁ m 1 #[rv a1, rv a2, rv a3] [(.ref a1)] _
    refine st1 _ ?_
    show SS p e below T1 m 4 #[rv a1, rv a2, rv a3] [] _
    refine XS.aloadN X1.here hx rfl (hb hby d_300) rfl rfl ?_
    refine XS.aloadN X1.here hx rfl (hb hby d_301) rfl rfl ?_
    show SS p e below T1 m 6 #[rv a1, rv a2, rv a3] [(.ref a2), (.ref a1)] _
    refine st2 _ ?_
    show SS p e below T2 m 9 #[rv a1, rv a2, rv a3] [] _
    refine XS.aloadN X2.here hx rfl (hb hby d_303) rfl rfl ?_
    refine XS.aloadN X2.here hx rfl (hb hby d_304) rfl rfl ?_
    show SS p e below T2 m 11 #[rv a1, rv a2, rv a3] [(.ref a3), (.ref a1)] _
    refine st7 _ ?_
    show SS p e below T7 m 14 #[rv a1, rv a2, rv a3] [] _
    exact X7.returnOut hx hret (hb hby d_306) hr
theorem pd_308 : parseMethodDescriptor "(Lcom/example/temporal_query_rewriter/temporalqueryrewriter/WithQuery;Lcom/example/temporal_query_rewriter/temporalqueryrewriter/Engine;)V" = some ⟨[(.object "com/example/temporal_query_rewriter/temporalqueryrewriter/WithQuery"), (.object "com/example/temporal_query_rewriter/temporalqueryrewriter/Engine")], none⟩ := by decide +kernel
-- com/example/temporal_query_rewriter/temporalqueryrewriter/Islands.of(Lcom/example/temporal_query_rewriter/temporalqueryrewriter/Engine;Lcom/example/temporal_query_rewriter/temporalqueryrewriter/WithQuery;)Lcom/example/temporal_query_rewriter/temporalqueryrewriter/Islands;
def Q35_of (Z : State) (a1 : Addr) (a2 : Addr) (h0 : Heap) (n0 : Nat) (v : Option Value) (h : Heap) (L : List Loc) : Prop := ∃ (b3 : Addr), v = some (.ref b3) ∧ Fr n0 L ∧ Keep h0 h [] ∧ h0.size ≤ b3 ∧ EA68 Z h b3 ∧ FA55 Z h b3 (.ref a2) ∧ FA56 Z h b3 (.ref a1)
set_option maxRecDepth 65536 in
set_option maxHeartbeats 40000000 in
theorem rm35_of (l : Launch) (Z : State) (a0 : Array Value) (hw : HW Z a0) (a1 : Addr) (a2 : Addr) (h0 : Heap) (n0 : Nat) (O0 : Old Z n0 h0) (F_0 : EA65 Z Z.heap a1) (F_1 : FA51 Z Z.heap a1 (.int (0 : Int32))) :
    Met l Z [] Y20 prog_16_method_1_code 2 (some (.object "com/example/temporal_query_rewriter/temporalqueryrewriter/Islands")) ({ frames := 2, cells := 1, slots := 2, locals := 27 } : Room) #[(.ref a1), (.ref a2)] h0 (Q35_of Z a1 a2 h0 n0) := by
  have W := fun (i : Nat) {c : Jvm.Cond} (q : tables_1[i]? = some c) => hw c (List.mem_of_getElem? q)
  refine own_mk (plainFor_of_name pn_166) ?_
  intro p e s m below meth c s₁ hZ hx hby hml hown hnm hret hlk X0 e0
  have N0 := Fr.nil n0
  obtain ⟨_, T1, L1, X1, hQ1, st1⟩ := own_cv X0 hx hZ hown hml (W 154 rfl) (W 155 rfl) (notFace_of_selects (W 157 rfl)) (W 157 rfl) (W 156 rfl) (W 5 rfl) (W 158 rfl) (rm33_windowAggregates l Z a0 hw a1 h0 n0 O0 (F_1)) e0 (F_0.ext O0.2) (hb hby d_146) 0 #[rv a1, rv a2] [] [] pd_134 (by decide) rfl rfl rfl (Nat.le_of_eq rfl)
  obtain ⟨rfl, N1q, K1⟩ := hQ1
  have N2 := Fr.app N0 N1q
  obtain ⟨T3, h3, X3, e3, E3, A3, D3, -, st3⟩ := newO X1 hx hZ hown (W 249 rfl) (W 250 rfl) (W 251 rfl) K1 (g := (mkF m 18 #[rv a1, rv a2] [])) rfl (hb hby d_293) (by decide) (by decide)
  obtain ⟨b3, g3⟩ : ∃ z, z = h0.size := ⟨_, rfl⟩
  rw [← g3] at A3 D3 st3
  have O4 := O0.ext E3
  have K5 : Keep h0 h3 [] := Keep.ext (Keep.refl h0 []) E3
  have g7 : n0 ≤ b3 := Nat.le_trans (Nat.le_trans (Nat.le_of_eq O0.1.symm) O0.2.1) (Nat.le_of_eq g3.symm)
  obtain ⟨_, T6, L6, X6, hQ6, st6⟩ := own_cp X3 hx hZ hown hml rfl (W 252 rfl) (W 253 rfl) (W 251 rfl) (W 254 rfl) (rm34_init l Z a0 hw b3 a2 a1 h3 n0 O4 (A3) ((D3 (Or.inr (W 257 rfl)) (ty := (.object "com/example/temporal_query_rewriter/temporalqueryrewriter/WithQuery")) (by decide) : FA55 Z h3 b3 .null)) (g7) ((D3 (Or.inr (W 259 rfl)) (ty := (.object "com/example/temporal_query_rewriter/temporalqueryrewriter/Engine")) (by decide) : FA56 Z h3 b3 .null))) e3 (hb hby d_297) 1 #[rv a1, rv a2] b3 [(.ref a2), (.ref a1)] [(.ref b3)] pd_308 (by decide) rfl rfl rfl (Nat.le_of_eq rfl)
  obtain ⟨rfl, N6q, K6, F6_0, F6_1⟩ := hQ6
  have N8 := Fr.app N2 N6q
  have O9 := O4.keep K6 (allS g7 all0)
  have K10 : Keep h0 T6.heap [] := Keep.trans K5 K6 (allS (Or.inr (Nat.le_of_eq g3.symm)) all0)
  have f11 := (A3.keep K6)
  refine ⟨T6, some (.ref b3), _, _, _, X6, by decide, by decide, nofun, ?_, fun fs hr => castTop (ef_118 m a1 a2) ?_⟩
  · show Q35_of Z a1 a2 h0 n0 _ T6.heap _
    exact ⟨b3, rfl, N8, K10, (Nat.le_of_eq g3.symm), f11, F6_0, F6_1⟩
  · show SS p e below s₁ m 0 #[rv a1, rv a2] [] _
    refine XS.aloadN X0.here hx rfl (hb hby d_145) rfl rfl ?_
    show SS p e below s₁ m 1 #[rv a1, rv a2] [(.ref a1)] _
    refine st1 _ ?_
    show SS p e below T1 m 4 #[rv a1, rv a2] [(.int (0 : Int32))] _
    refine XS.ifYes X1.here hx rfl (pc0 := 4) (pc' := 18) rfl (hb hby d_151) rfl ((if0 _ _).trans (teq (by decide : (0 : Int32) = (0 : Int32))).1) (by decide) (by decide) ?_
    show SS p e below T1 m 18 #[rv a1, rv a2] [] _
    refine st3 _ ?_
    show SS p e below T3 m 21 #[rv a1, rv a2] [(.ref b3)] _
    refine XS.dup X3.here hx rfl (hb hby d_294) rfl rfl ?_
    refine XS.aloadN X3.here hx rfl (hb hby d_295) rfl rfl ?_
    refine XS.aloadN X3.here hx rfl (hb hby d_296) rfl rfl ?_
    show SS p e below T3 m 24 #[rv a1, rv a2] [(.ref a1), (.ref a2), (.ref b3), (.ref b3)] _
    refine st6 _ ?_
    show SS p e below T6 m 27 #[rv a1, rv a2] [(.ref b3)] _
    exact retOut X6 hx hret rfl (Or.inr (Or.inr (Or.inr (Or.inr ⟨rfl, rfl, rfl⟩)))) (hb hby d_165) hr
set_option maxRecDepth 65536 in
set_option maxHeartbeats 40000000 in
theorem rm0_1 (l : Launch) (Z : State) (a0 : Array Value) (hw : HW Z a0) (ws : List Jvm.Cond) (p1 : Int32) (o_EMPTY_ELEMENTDATA : Addr) (o_DEFAULTCAPACITY_EMPTY_ELEMENTDATA : Addr) (o_COMPACT_STRINGS : Int32) (o_SIOOBE_FORMATTER : Value) (o_H2 : Addr) (o_SQLITE : Addr) (o_DUCKDB : Addr) (o_HSQLDB : Addr) (h0 : Heap) (n0 : Nat) (O0 : Old Z n0 h0) (S_o_EMPTY_ELEMENTDATA : SA72 Z Z.heap (.ref o_EMPTY_ELEMENTDATA)) (E_o_EMPTY_ELEMENTDATA : EA67 Z Z.heap o_EMPTY_ELEMENTDATA) (S_o_DEFAULTCAPACITY_EMPTY_ELEMENTDATA : SA70 Z Z.heap (.ref o_DEFAULTCAPACITY_EMPTY_ELEMENTDATA)) (E_o_DEFAULTCAPACITY_EMPTY_ELEMENTDATA : EA67 Z Z.heap o_DEFAULTCAPACITY_EMPTY_ELEMENTDATA) (S_o_COMPACT_STRINGS : SA71 Z Z.heap (.int o_COMPACT_STRINGS)) (S_o_SIOOBE_FORMATTER : SA73 Z Z.heap o_SIOOBE_FORMATTER) (S_o_H2 : SA69 Z Z.heap (.ref o_H2)) (E_o_H2 : EA65 Z Z.heap o_H2) (S_o_SQLITE : SA74 Z Z.heap (.ref o_SQLITE)) (E_o_SQLITE : EA65 Z Z.heap o_SQLITE) (S_o_DUCKDB : SA75 Z Z.heap (.ref o_DUCKDB)) (E_o_DUCKDB : EA65 Z Z.heap o_DUCKDB) (S_o_HSQLDB : SA76 Z Z.heap (.ref o_HSQLDB)) (E_o_HSQLDB : EA65 Z Z.heap o_HSQLDB) (F_o_H2_windowAggregates : FA51 Z Z.heap o_H2 (.int (1 : Int32))) (F_o_SQLITE_windowAggregates : FA51 Z Z.heap o_SQLITE (.int (1 : Int32))) (F_o_DUCKDB_windowAggregates : FA51 Z Z.heap o_DUCKDB (.int (1 : Int32))) (F_o_HSQLDB_windowAggregates : FA51 Z Z.heap o_HSQLDB (.int (0 : Int32))) (nz_o_COMPACT_STRINGS : ¬ (o_COMPACT_STRINGS = (0 : Int32))) (ir_o_SIOOBE_FORMATTER : o_SIOOBE_FORMATTER.isRef = true) (hf : (p1 &&& (3 : Int32)) = (1 : Int32)) :
    Met l Z ws x code maxLocals ret room_1 #[(.int p1)] h0 (fun v _ L => Q0 n0 v L) := by
  have W := fun (i : Nat) {c : Jvm.Cond} (q : tables_1[i]? = some c) => hw c (List.mem_of_getElem? q)
  refine own_mk (plainFor_of_name pn_5) ?_
  intro p e s m below meth c s₁ hZ hx hby hml hown hnm hret hlk X0 e0
  have N0 := Fr.nil n0
  obtain ⟨_, T1, L1, X1, hQ1, st1⟩ := own_cs X0 hx hZ hown hml (W 0 rfl) (W 1 rfl) (W 2 rfl) (W 3 rfl) (rm32_engineAt l Z a0 hw o_HSQLDB h0 n0 O0 (S_o_HSQLDB)) e0 (hb hby at_5) 0 #[iv p1, iv (1 : Int32), .unset, .unset, .unset, .unset, .unset, .unset] [(.int (1 : Int32))] [] pd_6 (by decide) rfl rfl rfl (Nat.le_of_eq rfl)
  obtain ⟨rfl, N1q, K1⟩ := hQ1
  have N2 := Fr.app N0 N1q
  obtain ⟨T3, h3, X3, e3, E3, A3, D3, -, st3⟩ := newO X1 hx hZ hown (W 7 rfl) (W 8 rfl) (W 9 rfl) K1 (g := (mkF m 9 #[iv p1, iv (1 : Int32), rv o_HSQLDB, .unset, .unset, .unset, .unset, .unset] [])) rfl (hb hby at_9) (by decide) (by decide)
  obtain ⟨b3, g3⟩ : ∃ z, z = h0.size := ⟨_, rfl⟩
  rw [← g3] at A3 D3 st3
  have O4 := O0.ext E3
  have K5 : Keep h0 h3 [] := Keep.ext (Keep.refl h0 []) E3
  obtain ⟨T6, h6, X6, e6, E6, A6, D6, -, st6⟩ := newO X3 hx hZ hown (W 10 rfl) (W 11 rfl) (W 12 rfl) e3 (g := (mkF m 13 #[iv p1, iv (1 : Int32), rv o_HSQLDB, .unset, .unset, .unset, .unset, .unset] [(.ref b3), (.ref b3)])) rfl (hb hby at_13) (by decide) (by decide)
  obtain ⟨b6, g6⟩ : ∃ z, z = h3.size := ⟨_, rfl⟩
  rw [← g6] at A6 D6 st6
  have O7 := O4.ext E6
  have K8 : Keep h0 h6 [] := Keep.ext K5 E6
  have z10 : h0.size ≤ h3.size := E3.1
  have g11 : n0 ≤ b6 := Nat.le_trans (Nat.le_trans (Nat.le_trans (Nat.le_of_eq O0.1.symm) O0.2.1) z10) (Nat.le_of_eq g6.symm)
  obtain ⟨_, T9, L9, X9, hQ9, st9⟩ := own_cp X6 hx hZ hown hml rfl (W 13 rfl) (W 14 rfl) (W 12 rfl) (W 15 rfl) (rm4_init l Z a0 hw b6 o_DEFAULTCAPACITY_EMPTY_ELEMENTDATA h6 n0 O7 (A6) ((D6 (Or.inl (W 32 rfl)) (ty := .int) (by decide) : FA35 Z h6 b6 (.int (0 : Int32)))) ((D6 (Or.inl (W 35 rfl)) (ty := (.array (.object "java/lang/Object"))) (by decide) : FA36 Z h6 b6 .null)) ((D6 (Or.inl (W 149 rfl)) (ty := .int) (by decide) : FA37 Z h6 b6 (.int (0 : Int32)))) (g11) (S_o_DEFAULTCAPACITY_EMPTY_ELEMENTDATA)) e6 (hb hby at_17) 3 #[iv p1, iv (1 : Int32), rv o_HSQLDB, .unset, .unset, .unset, .unset, .unset] b6 [] [(.ref b6), (.ref b3), (.ref b3)] pd_16 (by decide) rfl rfl rfl (Nat.le_of_eq rfl)
  obtain ⟨rfl, N9q, K9, F9_0, F9_1, F9_2⟩ := hQ9
  have N12 := Fr.app N2 N9q
  have O13 := O7.keep K9 (allS g11 all0)
  have K14 : Keep h0 T9.heap [] := Keep.trans K8 K9 (allS (Or.inr (Nat.le_trans z10 (Nat.le_of_eq g6.symm))) all0)
  have f16 := ((A3.ext E6).keep K9)
  have f17 := (((D3 (Or.inr (W 61 rfl)) (ty := (.object "java/lang/StringBuilder")) (by decide) : FA47 Z h3 b3 .null).ext E6).keep K9 (ninS (Nat.ne_of_lt (Nat.lt_of_lt_of_le A3.lt (Nat.le_of_eq g6.symm))) nin0))
  have z18 : h3.size ≤ h6.size := E6.1
  have z19 : h3.size ≤ T9.heap.size := (Nat.le_trans z18 K9.1)
  have g20 : n0 ≤ b3 := Nat.le_trans (Nat.le_trans (Nat.le_of_eq O0.1.symm) O0.2.1) (Nat.le_of_eq g3.symm)
  have f21 := (((D3 (Or.inr (W 96 rfl)) (ty := (.object "java/util/Set")) (by decide) : FA48 Z h3 b3 .null).ext E6).keep K9 (ninS (Nat.ne_of_lt (Nat.lt_of_lt_of_le A3.lt (Nat.le_of_eq g6.symm))) nin0))
  have f22 := (((D3 (Or.inr (W 100 rfl)) (ty := (.object "java/util/Map")) (by decide) : FA49 Z h3 b3 .null).ext E6).keep K9 (ninS (Nat.ne_of_lt (Nat.lt_of_lt_of_le A3.lt (Nat.le_of_eq g6.symm))) nin0))
  have f23 := (((D3 (Or.inr (W 102 rfl)) (ty := (.object "com/example/temporal_query_rewriter/temporalqueryrewriter/Engine")) (by decide) : FA50 Z h3 b3 .null).ext E6).keep K9 (ninS (Nat.ne_of_lt (Nat.lt_of_lt_of_le A3.lt (Nat.le_of_eq g6.symm))) nin0))
  have f24 := (A6.keep K9)
  have z25 : h6.size ≤ T9.heap.size := K9.1
  obtain ⟨_, T15, L15, X15, hQ15, st15⟩ := own_cp X9 hx hZ hown hml rfl (W 36 rfl) (W 37 rfl) (W 9 rfl) (W 38 rfl) (rm15_init l Z a0 hw b3 b6 o_HSQLDB o_COMPACT_STRINGS T9.heap n0 O13 (S_o_COMPACT_STRINGS) (nz_o_COMPACT_STRINGS) (f16) (f17) ((Nat.lt_of_lt_of_le A3.lt z19)) (g20) (f21) (f22) (f23) (f24) (F9_0) (F9_2) ((Nat.lt_of_lt_of_le A6.lt z25)) ((Nat.ne_of_lt (Nat.lt_of_lt_of_le A3.lt (Nat.le_of_eq g6.symm))))) rfl (hb hby at_21) 1 #[iv p1, iv (1 : Int32), rv o_HSQLDB, .unset, .unset, .unset, .unset, .unset] b3 [(.ref b6), (.ref o_HSQLDB)] [(.ref b3)] pd_144 (by decide) rfl rfl rfl (Nat.le_of_eq rfl)
  obtain ⟨b15_b2, b15_b5_b1_b3, b15_b17, b15_b20_b3, b15_b35, k15_k5_k1_k3, rfl, N15q, K15, gb15_0, gb15_1, gb15_2, gb15_3, gb15_4, F15_0, F15_1, F15_2, F15_3, F15_4, F15_5, F15_6, F15_7, F15_8, F15_9, F15_10, F15_11, F15_12, F15_13, F15_14, F15_15⟩ := hQ15
  have N26 := Fr.app N12 N15q
  have O27 := O13.keep K15 (allS g20 all0)
  have K28 : Keep h0 T15.heap [] := Keep.trans K14 K15 (allS (Or.inr (Nat.le_of_eq g3.symm)) all0)
  obtain ⟨_, T29, L29, X29, hQ29, st29⟩ := own_cs X15 hx hZ hown hml (W 150 rfl) (W 151 rfl) (W 152 rfl) (W 153 rfl) (rm35_of l Z a0 hw o_HSQLDB b3 T15.heap n0 O27 (E_o_HSQLDB) (F_o_HSQLDB_windowAggregates)) rfl (hb hby at_27) 0 #[iv p1, iv (1 : Int32), rv o_HSQLDB, rv b3, .unset, .unset, .unset, .unset] [(.ref o_HSQLDB), (.ref b3)] [] pd_167 (by decide) rfl rfl rfl (Nat.le_of_eq rfl)
  obtain ⟨b29_b3, rfl, N29q, K29, gb29_0, F29_0, F29_1, F29_2⟩ := hQ29
  have N30 := Fr.app N26 N29q
  have O31 := O27.keep K29 all0
  have K32 : Keep h0 T29.heap [] := Keep.trans K28 K29 all0
  obtain ⟨T33, X33, e33, st33⟩ := instY X29 hx hZ hown (W 170 rfl) rfl (Ins.self F29_0) (g := (mkF m 41 #[iv p1, iv (1 : Int32), rv o_HSQLDB, rv b3, rv b29_b3, .unset, .unset, .unset] [(.ref b29_b3)])) rfl rfl (hb hby at_41)
  obtain ⟨T34, X34, e34, st34⟩ := instNo X33 hx hZ hown (W 173 rfl) e33 F29_0 (NS.no (W 261 rfl) (W 171 rfl) (NS.step (W 261 rfl) (NS.root (W 172 rfl) (W 171 rfl) (by decide)) (by decide)) (by decide)) (g := (mkF m 48 #[iv p1, iv (1 : Int32), rv o_HSQLDB, rv b3, rv b29_b3, iv (1 : Int32), .unset, .unset] [(.ref b29_b3)])) rfl rfl (hb hby at_48)
  have f36 := (F15_12.keep K29 nin0)
  have f37 := (F15_0.keep K29)
  have f38 := (F15_1.keep K29 nin0)
  have f39 := (F15_3.keep K29 nin0)
  have f40 := (F15_2.keep K29 nin0)
  have f41 := (F15_4.keep K29 nin0)
  have z42 : T15.heap.size ≤ T29.heap.size := K29.1
  have f43 := ((f16.keep K15).keep K29)
  obtain ⟨_, T35, L35, X35, hQ35, st35⟩ := own_cv X34 hx hZ hown hml (W 175 rfl) (W 176 rfl) (notFace_of_selects (W 178 rfl)) (W 178 rfl) (W 177 rfl) (W 9 rfl) (W 179 rfl) (rm30_toString l Z a0 hw b3 b15_b2 b15_b5_b1_b3 o_COMPACT_STRINGS k15_k5_k1_k3 T29.heap n0 O31 (f36) (f37) (f38) (f39) (S_o_COMPACT_STRINGS) (nz_o_COMPACT_STRINGS) (f40) (f41) ((Nat.lt_of_lt_of_le F15_4.lt z42))) e34 f43 (hb hby at_88) 0 #[iv p1, iv (1 : Int32), rv o_HSQLDB, rv b3, rv b29_b3, iv (1 : Int32), iv (0 : Int32), iv (1 : Int32)] [] [] pd_277 (by decide) rfl rfl rfl (Nat.le_of_eq rfl)
  obtain ⟨b35_b2_b1, b35_b2_b4_b1_b13_b2_b3, k35_k2_k4_k1_k13_k2_k3, rfl, N35q, K35, gb35_0, gb35_1, F35_0, F35_1, F35_2, F35_3, F35_4⟩ := hQ35
  have N44 := Fr.app N30 N35q
  have O45 := O31.keep K35 all0
  have K46 : Keep h0 T35.heap [] := Keep.trans K32 K35 all0
  obtain ⟨_, T47, L47, X47, hQ47, st47⟩ := own_cv X35 hx hZ hown hml (W 238 rfl) (W 239 rfl) (notFace_of_selects (W 241 rfl)) (W 241 rfl) (W 240 rfl) (W 54 rfl) (W 242 rfl) (rm31_isEmpty l Z a0 hw b35_b2_b1 b35_b2_b4_b1_b13_b2_b3 k35_k2_k4_k1_k13_k2_k3 T35.heap n0 O45 (F35_2) (F35_3)) rfl F35_0 (hb hby at_91) 0 #[iv p1, iv (1 : Int32), rv o_HSQLDB, rv b3, rv b29_b3, iv (1 : Int32), iv (0 : Int32), iv (1 : Int32)] [] [] pd_134 (by decide) rfl rfl rfl (Nat.le_of_eq rfl)
  obtain ⟨rfl, N47q, K47⟩ := hQ47
  have N48 := Fr.app N44 N47q
  refine ⟨T47, some (.int (1 : Int32)), _, _, _, X47, by decide, by decide, nofun, ?_, fun fs hr => castTop (ef_286 m p1) ?_⟩
  · exact ⟨rfl, N48⟩
  · show SS p e below s₁ m 0 #[iv p1, .unset, .unset, .unset, .unset, .unset, .unset, .unset] [] _
    refine XS.iloadN X0.here hx rfl (hb hby at_0) rfl ?_
    refine XS.iconst X0.here hx rfl (hb hby at_1) ?_
    show SS p e below s₁ m 2 #[iv p1, .unset, .unset, .unset, .unset, .unset, .unset, .unset] [(.int (3 : Int32)), (.int p1)] _
    refine XS.iand X0.here hx rfl (hb hby at_2) rfl ?_
    rw [hf]
    show SS p e below s₁ m 3 #[iv p1, .unset, .unset, .unset, .unset, .unset, .unset, .unset] [(.int (1 : Int32))] _
    refine XS.istoreN X0.here hx rfl (hb hby at_3) rfl (l' := #[iv p1, iv (1 : Int32), .unset, .unset, .unset, .unset, .unset, .unset]) rfl ?_
    show SS p e below s₁ m 4 #[iv p1, iv (1 : Int32), .unset, .unset, .unset, .unset, .unset, .unset] [] _
    refine XS.iloadN X0.here hx rfl (hb hby at_4) rfl ?_
    show SS p e below s₁ m 5 #[iv p1, iv (1 : Int32), .unset, .unset, .unset, .unset, .unset, .unset] [(.int (1 : Int32))] _
    refine st1 _ ?_
    show SS p e below T1 m 8 #[iv p1, iv (1 : Int32), .unset, .unset, .unset, .unset, .unset, .unset] [(.ref o_HSQLDB)] _
    refine XS.astoreN X1.here hx rfl (hb hby at_8) rfl rfl (l' := #[iv p1, iv (1 : Int32), rv o_HSQLDB, .unset, .unset, .unset, .unset, .unset]) rfl ?_
    show SS p e below T1 m 9 #[iv p1, iv (1 : Int32), rv o_HSQLDB, .unset, .unset, .unset, .unset, .unset] [] _
    refine st3 _ ?_
    show SS p e below T3 m 12 #[iv p1, iv (1 : Int32), rv o_HSQLDB, .unset, .unset, .unset, .unset, .unset] [(.ref b3)] _
    refine XS.dup X3.here hx rfl (hb hby at_12) rfl rfl ?_
    show SS p e below T3 m 13 #[iv p1, iv (1 : Int32), rv o_HSQLDB, .unset, .unset, .unset, .unset, .unset] [(.ref b3), (.ref b3)] _
    refine st6 _ ?_
    show SS p e below T6 m 16 #[iv p1, iv (1 : Int32), rv o_HSQLDB, .unset, .unset, .unset, .unset, .unset] [(.ref b6), (.ref b3), (.ref b3)] _
    refine XS.dup X6.here hx rfl (hb hby at_16) rfl rfl ?_
    show SS p e below T6 m 17 #[iv p1, iv (1 : Int32), rv o_HSQLDB, .unset, .unset, .unset, .unset, .unset] [(.ref b6), (.ref b6), (.ref b3), (.ref b3)] _
    refine st9 _ ?_
    show SS p e below T9 m 20 #[iv p1, iv (1 : Int32), rv o_HSQLDB, .unset, .unset, .unset, .unset, .unset] [(.ref b6), (.ref b3), (.ref b3)] _
    refine XS.aloadN X9.here hx rfl (hb hby at_20) rfl rfl ?_
    show SS p e below T9 m 21 #[iv p1, iv (1 : Int32), rv o_HSQLDB, .unset, .unset, .unset, .unset, .unset] [(.ref o_HSQLDB), (.ref b6), (.ref b3), (.ref b3)] _
    refine st15 _ ?_
    show SS p e below T15 m 24 #[iv p1, iv (1 : Int32), rv o_HSQLDB, .unset, .unset, .unset, .unset, .unset] [(.ref b3)] _
    refine XS.astoreN X15.here hx rfl (hb hby at_24) rfl rfl (l' := #[iv p1, iv (1 : Int32), rv o_HSQLDB, rv b3, .unset, .unset, .unset, .unset]) rfl ?_
    show SS p e below T15 m 25 #[iv p1, iv (1 : Int32), rv o_HSQLDB, rv b3, .unset, .unset, .unset, .unset] [] _
    refine XS.aloadN X15.here hx rfl (hb hby at_25) rfl rfl ?_
    refine XS.aloadN X15.here hx rfl (hb hby at_26) rfl rfl ?_
    show SS p e below T15 m 27 #[iv p1, iv (1 : Int32), rv o_HSQLDB, rv b3, .unset, .unset, .unset, .unset] [(.ref b3), (.ref o_HSQLDB)] _
    refine st29 _ ?_
    show SS p e below T29 m 30 #[iv p1, iv (1 : Int32), rv o_HSQLDB, rv b3, .unset, .unset, .unset, .unset] [(.ref b29_b3)] _
    refine XS.astore X29.here hx rfl (hb hby at_30) rfl rfl (l' := #[iv p1, iv (1 : Int32), rv o_HSQLDB, rv b3, rv b29_b3, .unset, .unset, .unset]) rfl ?_
    show SS p e below T29 m 32 #[iv p1, iv (1 : Int32), rv o_HSQLDB, rv b3, rv b29_b3, .unset, .unset, .unset] [] _
    refine XS.aload X29.here hx rfl (hb hby at_32) rfl rfl ?_
    show SS p e below T29 m 34 #[iv p1, iv (1 : Int32), rv o_HSQLDB, rv b3, rv b29_b3, .unset, .unset, .unset] [(.ref b29_b3)] _
    refine XS.ifnonnullYes X29.here hx rfl (pc0 := 34) (pc' := 39) rfl (hb hby at_34) rfl (by decide) (by decide) ?_
    show SS p e below T29 m 39 #[iv p1, iv (1 : Int32), rv o_HSQLDB, rv b3, rv b29_b3, .unset, .unset, .unset] [] _
    refine XS.aload X29.here hx rfl (hb hby at_39) rfl rfl ?_
    show SS p e below T29 m 41 #[iv p1, iv (1 : Int32), rv o_HSQLDB, rv b3, rv b29_b3, .unset, .unset, .unset] [(.ref b29_b3)] _
    refine st33 _ ?_
    show SS p e below T33 m 44 #[iv p1, iv (1 : Int32), rv o_HSQLDB, rv b3, rv b29_b3, .unset, .unset, .unset] [(.int (1 : Int32))] _
    refine XS.istore X33.here hx rfl (hb hby at_44) rfl (l' := #[iv p1, iv (1 : Int32), rv o_HSQLDB, rv b3, rv b29_b3, iv (1 : Int32), .unset, .unset]) rfl ?_
    show SS p e below T33 m 46 #[iv p1, iv (1 : Int32), rv o_HSQLDB, rv b3, rv b29_b3, iv (1 : Int32), .unset, .unset] [] _
    refine XS.aload X33.here hx rfl (hb hby at_46) rfl rfl ?_
    show SS p e below T33 m 48 #[iv p1, iv (1 : Int32), rv o_HSQLDB, rv b3, rv b29_b3, iv (1 : Int32), .unset, .unset] [(.ref b29_b3)] _
    refine st34 _ ?_
    show SS p e below T34 m 51 #[iv p1, iv (1 : Int32), rv o_HSQLDB, rv b3, rv b29_b3, iv (1 : Int32), .unset, .unset] [(.int (0 : Int32))] _
    refine XS.istore X34.here hx rfl (hb hby at_51) rfl (l' := #[iv p1, iv (1 : Int32), rv o_HSQLDB, rv b3, rv b29_b3, iv (1 : Int32), iv (0 : Int32), .unset]) rfl ?_
    show SS p e below T34 m 53 #[iv p1, iv (1 : Int32), rv o_HSQLDB, rv b3, rv b29_b3, iv (1 : Int32), iv (0 : Int32), .unset] [] _
    refine XS.iloadN X34.here hx rfl (hb hby at_53) rfl ?_
    refine XS.iconst X34.here hx rfl (hb hby at_54) ?_
    show SS p e below T34 m 55 #[iv p1, iv (1 : Int32), rv o_HSQLDB, rv b3, rv b29_b3, iv (1 : Int32), iv (0 : Int32), .unset] [(.int (1 : Int32)), (.int (1 : Int32))] _
    refine XS.icmpNo X34.here hx rfl (hb hby at_55) rfl (teq (by decide : (1 : Int32) = (1 : Int32))).2 ?_
    show SS p e below T34 m 58 #[iv p1, iv (1 : Int32), rv o_HSQLDB, rv b3, rv b29_b3, iv (1 : Int32), iv (0 : Int32), .unset] [] _
    refine XS.iconst X34.here hx rfl (hb hby at_58) ?_
    refine XS.goto X34.here hx rfl (pc0 := 59) (pc' := 63) rfl (hb hby at_59) (by decide) (by decide) ?_
    show SS p e below T34 m 63 #[iv p1, iv (1 : Int32), rv o_HSQLDB, rv b3, rv b29_b3, iv (1 : Int32), iv (0 : Int32), .unset] [(.int (1 : Int32))] _
    refine XS.istore X34.here hx rfl (hb hby at_63) rfl (l' := #[iv p1, iv (1 : Int32), rv o_HSQLDB, rv b3, rv b29_b3, iv (1 : Int32), iv (0 : Int32), iv (1 : Int32)]) rfl ?_
    show SS p e below T34 m 65 #[iv p1, iv (1 : Int32), rv o_HSQLDB, rv b3, rv b29_b3, iv (1 : Int32), iv (0 : Int32), iv (1 : Int32)] [] _
    refine XS.iload X34.here hx rfl (hb hby at_65) rfl ?_
    refine XS.iload X34.here hx rfl (hb hby at_67) rfl ?_
    show SS p e below T34 m 69 #[iv p1, iv (1 : Int32), rv o_HSQLDB, rv b3, rv b29_b3, iv (1 : Int32), iv (0 : Int32), iv (1 : Int32)] [(.int (1 : Int32)), (.int (1 : Int32))] _
    refine XS.icmpNo X34.here hx rfl (hb hby at_69) rfl (teq (by decide : (1 : Int32) = (1 : Int32))).2 ?_
    show SS p e below T34 m 72 #[iv p1, iv (1 : Int32), rv o_HSQLDB, rv b3, rv b29_b3, iv (1 : Int32), iv (0 : Int32), iv (1 : Int32)] [] _
    refine XS.iload X34.here hx rfl (hb hby at_72) rfl ?_
    refine XS.iload X34.here hx rfl (hb hby at_74) rfl ?_
    show SS p e below T34 m 76 #[iv p1, iv (1 : Int32), rv o_HSQLDB, rv b3, rv b29_b3, iv (1 : Int32), iv (0 : Int32), iv (1 : Int32)] [(.int (1 : Int32)), (.int (0 : Int32))] _
    refine XS.ifYes X34.here hx rfl (pc0 := 76) (pc' := 83) rfl (hb hby at_76) rfl ((if0 _ _).trans (feq (by decide : ¬ ((1 : Int32) = (0 : Int32)))).2) (by decide) (by decide) ?_
    show SS p e below T34 m 83 #[iv p1, iv (1 : Int32), rv o_HSQLDB, rv b3, rv b29_b3, iv (1 : Int32), iv (0 : Int32), iv (1 : Int32)] [(.int (0 : Int32))] _
    refine XS.iconst X34.here hx rfl (hb hby at_83) ?_
    show SS p e below T34 m 84 #[iv p1, iv (1 : Int32), rv o_HSQLDB, rv b3, rv b29_b3, iv (1 : Int32), iv (0 : Int32), iv (1 : Int32)] [(.int (0 : Int32)), (.int (0 : Int32))] _
    refine XS.icmpNo X34.here hx rfl (hb hby at_84) rfl (teq (by decide : (0 : Int32) = (0 : Int32))).2 ?_
    show SS p e below T34 m 87 #[iv p1, iv (1 : Int32), rv o_HSQLDB, rv b3, rv b29_b3, iv (1 : Int32), iv (0 : Int32), iv (1 : Int32)] [] _
    refine XS.aloadN X34.here hx rfl (hb hby at_87) rfl rfl ?_
    show SS p e below T34 m 88 #[iv p1, iv (1 : Int32), rv o_HSQLDB, rv b3, rv b29_b3, iv (1 : Int32), iv (0 : Int32), iv (1 : Int32)] [(.ref b3)] _
    refine st35 _ ?_
    show SS p e below T35 m 91 #[iv p1, iv (1 : Int32), rv o_HSQLDB, rv b3, rv b29_b3, iv (1 : Int32), iv (0 : Int32), iv (1 : Int32)] [(.ref b35_b2_b1)] _
    refine st47 _ ?_
    show SS p e below T47 m 94 #[iv p1, iv (1 : Int32), rv o_HSQLDB, rv b3, rv b29_b3, iv (1 : Int32), iv (0 : Int32), iv (1 : Int32)] [(.int (1 : Int32))] _
    refine XS.ifNo X47.here hx rfl (hb hby at_94) rfl ((if0 _ _).trans (feq (by decide : ¬ ((1 : Int32) = (0 : Int32)))).1) ?_
    show SS p e below T47 m 97 #[iv p1, iv (1 : Int32), rv o_HSQLDB, rv b3, rv b29_b3, iv (1 : Int32), iv (0 : Int32), iv (1 : Int32)] [] _
    refine XS.iconst X47.here hx rfl (hb hby at_97) ?_
    refine XS.goto X47.here hx rfl (pc0 := 98) (pc' := 102) rfl (hb hby at_98) (by decide) (by decide) ?_
    show SS p e below T47 m 102 #[iv p1, iv (1 : Int32), rv o_HSQLDB, rv b3, rv b29_b3, iv (1 : Int32), iv (0 : Int32), iv (1 : Int32)] [(.int (1 : Int32))] _
    exact retN X47 hx (t := .boolean) hret (by simp) (hb hby at_102) hr
theorem d_309 : decode method_2_code 17 = .ok (.iload_n 0, 1) := by decide +kernel
theorem d_310 : decode method_2_code 18 = .ok (.iconst 2, 1) := by decide +kernel
theorem d_311 : decode method_2_code 19 = .ok (.if_icmp .ne 7, 3) := by decide +kernel
theorem d_312 : decode method_2_code 22 = .ok (.getstatic 16, 3) := by decide +kernel
theorem d_313 : decode method_2_code 25 = .ok (.areturn, 1) := by decide +kernel
theorem ef_314 (m : MethodId)  : entryFrame m #[(.int (2 : Int32))] 1 = mkF m 0 #[iv (2 : Int32)] [] := by first | (simp [entryFrame, mkF, argsToLocals, Value.category]; done) | rfl
-- com/example/temporal_query_rewriter/temporalqueryrewriter/IslandsOfPinLaw.engineAt(I)Lcom/example/temporal_query_rewriter/temporalqueryrewriter/Engine;
def Q36_engineAt (Z : State) (a1 : Addr) (h0 : Heap) (n0 : Nat) (v : Option Value) (h : Heap) (L : List Loc) : Prop := v = some (.ref a1) ∧ Fr n0 L ∧ h = h0
set_option maxRecDepth 65536 in
set_option maxHeartbeats 40000000 in
theorem rm36_engineAt (l : Launch) (Z : State) (a0 : Array Value) (hw : HW Z a0) (a1 : Addr) (h0 : Heap) (n0 : Nat) (O0 : Old Z n0 h0) (S_0 : SA75 Z Z.heap (.ref a1)) :
    Met l Z [] Y0 method_2_code 1 (some (.object "com/example/temporal_query_rewriter/temporalqueryrewriter/Engine")) ({ frames := 0, cells := 0, slots := 0, locals := 0 } : Room) #[(.int (2 : Int32))] h0 (Q36_engineAt Z a1 h0 n0) := by
  have W := fun (i : Nat) {c : Jvm.Cond} (q : tables_1[i]? = some c) => hw c (List.mem_of_getElem? q)
  refine own_mk (plainFor_of_name pn_5) ?_
  intro p e s m below meth c s₁ hZ hx hby hml hown hnm hret hlk X0 e0
  have N0 := Fr.nil n0
  obtain ⟨T1, X1, e1, st1⟩ := getS2 X0 hx hZ hown (host := "") (Or.inl (W 245 rfl)) Via.refl e0 (S_0.ext O0.2) (g := (mkF m 22 #[iv (2 : Int32)] [])) rfl (hb hby d_312)
  refine ⟨T1, some (.ref a1), _, _, _, X1, by decide, by decide, nofun, ?_, fun fs hr => castTop (ef_314 m ) ?_⟩
  · show Q36_engineAt Z a1 h0 n0 _ T1.heap _
    rw [e1]
    exact ⟨rfl, N0, rfl⟩
  · show SS p e below s₁ m 0 #[iv (2 : Int32)] [] _
    refine XS.iloadN X0.here hx rfl (hb hby d_0) rfl ?_
    show SS p e below s₁ m 1 #[iv (2 : Int32)] [(.int (2 : Int32))] _
    refine XS.ifYes X0.here hx rfl (pc0 := 1) (pc' := 8) rfl (hb hby d_1) rfl ((if0 _ _).trans (feq (by decide : ¬ ((2 : Int32) = (0 : Int32)))).2) (by decide) (by decide) ?_
    show SS p e below s₁ m 8 #[iv (2 : Int32)] [] _
    refine XS.iloadN X0.here hx rfl (hb hby d_287) rfl ?_
    refine XS.iconst X0.here hx rfl (hb hby d_288) ?_
    show SS p e below s₁ m 10 #[iv (2 : Int32)] [(.int (1 : Int32)), (.int (2 : Int32))] _
    refine XS.icmpYes X0.here hx rfl (pc0 := 10) (pc' := 17) rfl (hb hby d_289) rfl (feq (by decide : ¬ ((2 : Int32) = (1 : Int32)))).2 (by decide) (by decide) ?_
    show SS p e below s₁ m 17 #[iv (2 : Int32)] [] _
    refine XS.iloadN X0.here hx rfl (hb hby d_309) rfl ?_
    refine XS.iconst X0.here hx rfl (hb hby d_310) ?_
    show SS p e below s₁ m 19 #[iv (2 : Int32)] [(.int (2 : Int32)), (.int (2 : Int32))] _
    refine XS.icmpNo X0.here hx rfl (hb hby d_311) rfl (teq (by decide : (2 : Int32) = (2 : Int32))).2 ?_
    show SS p e below s₁ m 22 #[iv (2 : Int32)] [] _
    refine st1 _ ?_
    show SS p e below T1 m 25 #[iv (2 : Int32)] [(.ref a1)] _
    exact retOut X1 hx hret rfl (Or.inr (Or.inr (Or.inr (Or.inr ⟨rfl, rfl, rfl⟩)))) (hb hby d_313) hr
set_option maxRecDepth 65536 in
set_option maxHeartbeats 40000000 in
theorem rm0_2 (l : Launch) (Z : State) (a0 : Array Value) (hw : HW Z a0) (ws : List Jvm.Cond) (p1 : Int32) (o_EMPTY_ELEMENTDATA : Addr) (o_DEFAULTCAPACITY_EMPTY_ELEMENTDATA : Addr) (o_COMPACT_STRINGS : Int32) (o_SIOOBE_FORMATTER : Value) (o_H2 : Addr) (o_SQLITE : Addr) (o_DUCKDB : Addr) (o_HSQLDB : Addr) (h0 : Heap) (n0 : Nat) (O0 : Old Z n0 h0) (S_o_EMPTY_ELEMENTDATA : SA72 Z Z.heap (.ref o_EMPTY_ELEMENTDATA)) (E_o_EMPTY_ELEMENTDATA : EA67 Z Z.heap o_EMPTY_ELEMENTDATA) (S_o_DEFAULTCAPACITY_EMPTY_ELEMENTDATA : SA70 Z Z.heap (.ref o_DEFAULTCAPACITY_EMPTY_ELEMENTDATA)) (E_o_DEFAULTCAPACITY_EMPTY_ELEMENTDATA : EA67 Z Z.heap o_DEFAULTCAPACITY_EMPTY_ELEMENTDATA) (S_o_COMPACT_STRINGS : SA71 Z Z.heap (.int o_COMPACT_STRINGS)) (S_o_SIOOBE_FORMATTER : SA73 Z Z.heap o_SIOOBE_FORMATTER) (S_o_H2 : SA69 Z Z.heap (.ref o_H2)) (E_o_H2 : EA65 Z Z.heap o_H2) (S_o_SQLITE : SA74 Z Z.heap (.ref o_SQLITE)) (E_o_SQLITE : EA65 Z Z.heap o_SQLITE) (S_o_DUCKDB : SA75 Z Z.heap (.ref o_DUCKDB)) (E_o_DUCKDB : EA65 Z Z.heap o_DUCKDB) (S_o_HSQLDB : SA76 Z Z.heap (.ref o_HSQLDB)) (E_o_HSQLDB : EA65 Z Z.heap o_HSQLDB) (F_o_H2_windowAggregates : FA51 Z Z.heap o_H2 (.int (1 : Int32))) (F_o_SQLITE_windowAggregates : FA51 Z Z.heap o_SQLITE (.int (1 : Int32))) (F_o_DUCKDB_windowAggregates : FA51 Z Z.heap o_DUCKDB (.int (1 : Int32))) (F_o_HSQLDB_windowAggregates : FA51 Z Z.heap o_HSQLDB (.int (0 : Int32))) (nz_o_COMPACT_STRINGS : ¬ (o_COMPACT_STRINGS = (0 : Int32))) (ir_o_SIOOBE_FORMATTER : o_SIOOBE_FORMATTER.isRef = true) (hf : (p1 &&& (3 : Int32)) = (2 : Int32)) :
    Met l Z ws x code maxLocals ret room_1 #[(.int p1)] h0 (fun v _ L => Q0 n0 v L) := by
  have W := fun (i : Nat) {c : Jvm.Cond} (q : tables_1[i]? = some c) => hw c (List.mem_of_getElem? q)
  refine own_mk (plainFor_of_name pn_5) ?_
  intro p e s m below meth c s₁ hZ hx hby hml hown hnm hret hlk X0 e0
  have N0 := Fr.nil n0
  obtain ⟨_, T1, L1, X1, hQ1, st1⟩ := own_cs X0 hx hZ hown hml (W 0 rfl) (W 1 rfl) (W 2 rfl) (W 3 rfl) (rm36_engineAt l Z a0 hw o_DUCKDB h0 n0 O0 (S_o_DUCKDB)) e0 (hb hby at_5) 0 #[iv p1, iv (2 : Int32), .unset, .unset, .unset, .unset, .unset, .unset] [(.int (2 : Int32))] [] pd_6 (by decide) rfl rfl rfl (Nat.le_of_eq rfl)
  obtain ⟨rfl, N1q, K1⟩ := hQ1
  have N2 := Fr.app N0 N1q
  obtain ⟨T3, h3, X3, e3, E3, A3, D3, -, st3⟩ := newO X1 hx hZ hown (W 7 rfl) (W 8 rfl) (W 9 rfl) K1 (g := (mkF m 9 #[iv p1, iv (2 : Int32), rv o_DUCKDB, .unset, .unset, .unset, .unset, .unset] [])) rfl (hb hby at_9) (by decide) (by decide)
  obtain ⟨b3, g3⟩ : ∃ z, z = h0.size := ⟨_, rfl⟩
  rw [← g3] at A3 D3 st3
  have O4 := O0.ext E3
  have K5 : Keep h0 h3 [] := Keep.ext (Keep.refl h0 []) E3
  obtain ⟨T6, h6, X6, e6, E6, A6, D6, -, st6⟩ := newO X3 hx hZ hown (W 10 rfl) (W 11 rfl) (W 12 rfl) e3 (g := (mkF m 13 #[iv p1, iv (2 : Int32), rv o_DUCKDB, .unset, .unset, .unset, .unset, .unset] [(.ref b3), (.ref b3)])) rfl (hb hby at_13) (by decide) (by decide)
  obtain ⟨b6, g6⟩ : ∃ z, z = h3.size := ⟨_, rfl⟩
  rw [← g6] at A6 D6 st6
  have O7 := O4.ext E6
  have K8 : Keep h0 h6 [] := Keep.ext K5 E6
  have z10 : h0.size ≤ h3.size := E3.1
  have g11 : n0 ≤ b6 := Nat.le_trans (Nat.le_trans (Nat.le_trans (Nat.le_of_eq O0.1.symm) O0.2.1) z10) (Nat.le_of_eq g6.symm)
  obtain ⟨_, T9, L9, X9, hQ9, st9⟩ := own_cp X6 hx hZ hown hml rfl (W 13 rfl) (W 14 rfl) (W 12 rfl) (W 15 rfl) (rm4_init l Z a0 hw b6 o_DEFAULTCAPACITY_EMPTY_ELEMENTDATA h6 n0 O7 (A6) ((D6 (Or.inl (W 32 rfl)) (ty := .int) (by decide) : FA35 Z h6 b6 (.int (0 : Int32)))) ((D6 (Or.inl (W 35 rfl)) (ty := (.array (.object "java/lang/Object"))) (by decide) : FA36 Z h6 b6 .null)) ((D6 (Or.inl (W 149 rfl)) (ty := .int) (by decide) : FA37 Z h6 b6 (.int (0 : Int32)))) (g11) (S_o_DEFAULTCAPACITY_EMPTY_ELEMENTDATA)) e6 (hb hby at_17) 3 #[iv p1, iv (2 : Int32), rv o_DUCKDB, .unset, .unset, .unset, .unset, .unset] b6 [] [(.ref b6), (.ref b3), (.ref b3)] pd_16 (by decide) rfl rfl rfl (Nat.le_of_eq rfl)
  obtain ⟨rfl, N9q, K9, F9_0, F9_1, F9_2⟩ := hQ9
  have N12 := Fr.app N2 N9q
  have O13 := O7.keep K9 (allS g11 all0)
  have K14 : Keep h0 T9.heap [] := Keep.trans K8 K9 (allS (Or.inr (Nat.le_trans z10 (Nat.le_of_eq g6.symm))) all0)
  have f16 := ((A3.ext E6).keep K9)
  have f17 := (((D3 (Or.inr (W 61 rfl)) (ty := (.object "java/lang/StringBuilder")) (by decide) : FA47 Z h3 b3 .null).ext E6).keep K9 (ninS (Nat.ne_of_lt (Nat.lt_of_lt_of_le A3.lt (Nat.le_of_eq g6.symm))) nin0))
  have z18 : h3.size ≤ h6.size := E6.1
  have z19 : h3.size ≤ T9.heap.size := (Nat.le_trans z18 K9.1)
  have g20 : n0 ≤ b3 := Nat.le_trans (Nat.le_trans (Nat.le_of_eq O0.1.symm) O0.2.1) (Nat.le_of_eq g3.symm)
  have f21 := (((D3 (Or.inr (W 96 rfl)) (ty := (.object "java/util/Set")) (by decide) : FA48 Z h3 b3 .null).ext E6).keep K9 (ninS (Nat.ne_of_lt (Nat.lt_of_lt_of_le A3.lt (Nat.le_of_eq g6.symm))) nin0))
  have f22 := (((D3 (Or.inr (W 100 rfl)) (ty := (.object "java/util/Map")) (by decide) : FA49 Z h3 b3 .null).ext E6).keep K9 (ninS (Nat.ne_of_lt (Nat.lt_of_lt_of_le A3.lt (Nat.le_of_eq g6.symm))) nin0))
  have f23 := (((D3 (Or.inr (W 102 rfl)) (ty := (.object "com/example/temporal_query_rewriter/temporalqueryrewriter/Engine")) (by decide) : FA50 Z h3 b3 .null).ext E6).keep K9 (ninS (Nat.ne_of_lt (Nat.lt_of_lt_of_le A3.lt (Nat.le_of_eq g6.symm))) nin0))
  have f24 := (A6.keep K9)
  have z25 : h6.size ≤ T9.heap.size := K9.1
  obtain ⟨_, T15, L15, X15, hQ15, st15⟩ := own_cp X9 hx hZ hown hml rfl (W 36 rfl) (W 37 rfl) (W 9 rfl) (W 38 rfl) (rm15_init l Z a0 hw b3 b6 o_DUCKDB o_COMPACT_STRINGS T9.heap n0 O13 (S_o_COMPACT_STRINGS) (nz_o_COMPACT_STRINGS) (f16) (f17) ((Nat.lt_of_lt_of_le A3.lt z19)) (g20) (f21) (f22) (f23) (f24) (F9_0) (F9_2) ((Nat.lt_of_lt_of_le A6.lt z25)) ((Nat.ne_of_lt (Nat.lt_of_lt_of_le A3.lt (Nat.le_of_eq g6.symm))))) rfl (hb hby at_21) 1 #[iv p1, iv (2 : Int32), rv o_DUCKDB, .unset, .unset, .unset, .unset, .unset] b3 [(.ref b6), (.ref o_DUCKDB)] [(.ref b3)] pd_144 (by decide) rfl rfl rfl (Nat.le_of_eq rfl)
  obtain ⟨b15_b2, b15_b5_b1_b3, b15_b17, b15_b20_b3, b15_b35, k15_k5_k1_k3, rfl, N15q, K15, gb15_0, gb15_1, gb15_2, gb15_3, gb15_4, F15_0, F15_1, F15_2, F15_3, F15_4, F15_5, F15_6, F15_7, F15_8, F15_9, F15_10, F15_11, F15_12, F15_13, F15_14, F15_15⟩ := hQ15
  have N26 := Fr.app N12 N15q
  have O27 := O13.keep K15 (allS g20 all0)
  have K28 : Keep h0 T15.heap [] := Keep.trans K14 K15 (allS (Or.inr (Nat.le_of_eq g3.symm)) all0)
  obtain ⟨_, T29, L29, X29, hQ29, st29⟩ := own_cs X15 hx hZ hown hml (W 150 rfl) (W 151 rfl) (W 152 rfl) (W 153 rfl) (rm18_of l Z a0 hw o_DUCKDB b3 T15.heap n0 O27 (E_o_DUCKDB) (F_o_DUCKDB_windowAggregates)) rfl (hb hby at_27) 0 #[iv p1, iv (2 : Int32), rv o_DUCKDB, rv b3, .unset, .unset, .unset, .unset] [(.ref o_DUCKDB), (.ref b3)] [] pd_167 (by decide) rfl rfl rfl (Nat.le_of_eq rfl)
  obtain ⟨b29_b3, rfl, N29q, K29, gb29_0, F29_0, F29_1⟩ := hQ29
  have N30 := Fr.app N26 N29q
  have O31 := O27.keep K29 all0
  have K32 : Keep h0 T29.heap [] := Keep.trans K28 K29 all0
  obtain ⟨T33, X33, e33, st33⟩ := instNo X29 hx hZ hown (W 170 rfl) rfl F29_0 (NS.no (W 171 rfl) (W 261 rfl) (NS.step (W 171 rfl) (NS.root (W 172 rfl) (W 261 rfl) (by decide)) (by decide)) (by decide)) (g := (mkF m 41 #[iv p1, iv (2 : Int32), rv o_DUCKDB, rv b3, rv b29_b3, .unset, .unset, .unset] [(.ref b29_b3)])) rfl rfl (hb hby at_41)
  obtain ⟨T34, X34, e34, st34⟩ := instY X33 hx hZ hown (W 173 rfl) e33 (Ins.self F29_0) (g := (mkF m 48 #[iv p1, iv (2 : Int32), rv o_DUCKDB, rv b3, rv b29_b3, iv (0 : Int32), .unset, .unset] [(.ref b29_b3)])) rfl rfl (hb hby at_48)
  have f36 := (F15_12.keep K29 nin0)
  have f37 := (F15_0.keep K29)
  have f38 := (F15_1.keep K29 nin0)
  have f39 := (F15_3.keep K29 nin0)
  have f40 := (F15_2.keep K29 nin0)
  have f41 := (F15_4.keep K29 nin0)
  have z42 : T15.heap.size ≤ T29.heap.size := K29.1
  have f43 := ((f16.keep K15).keep K29)
  obtain ⟨_, T35, L35, X35, hQ35, st35⟩ := own_cv X34 hx hZ hown hml (W 175 rfl) (W 176 rfl) (notFace_of_selects (W 178 rfl)) (W 178 rfl) (W 177 rfl) (W 9 rfl) (W 179 rfl) (rm30_toString l Z a0 hw b3 b15_b2 b15_b5_b1_b3 o_COMPACT_STRINGS k15_k5_k1_k3 T29.heap n0 O31 (f36) (f37) (f38) (f39) (S_o_COMPACT_STRINGS) (nz_o_COMPACT_STRINGS) (f40) (f41) ((Nat.lt_of_lt_of_le F15_4.lt z42))) e34 f43 (hb hby at_88) 0 #[iv p1, iv (2 : Int32), rv o_DUCKDB, rv b3, rv b29_b3, iv (0 : Int32), iv (1 : Int32), iv (0 : Int32)] [] [] pd_277 (by decide) rfl rfl rfl (Nat.le_of_eq rfl)
  obtain ⟨b35_b2_b1, b35_b2_b4_b1_b13_b2_b3, k35_k2_k4_k1_k13_k2_k3, rfl, N35q, K35, gb35_0, gb35_1, F35_0, F35_1, F35_2, F35_3, F35_4⟩ := hQ35
  have N44 := Fr.app N30 N35q
  have O45 := O31.keep K35 all0
  have K46 : Keep h0 T35.heap [] := Keep.trans K32 K35 all0
  obtain ⟨_, T47, L47, X47, hQ47, st47⟩ := own_cv X35 hx hZ hown hml (W 238 rfl) (W 239 rfl) (notFace_of_selects (W 241 rfl)) (W 241 rfl) (W 240 rfl) (W 54 rfl) (W 242 rfl) (rm31_isEmpty l Z a0 hw b35_b2_b1 b35_b2_b4_b1_b13_b2_b3 k35_k2_k4_k1_k13_k2_k3 T35.heap n0 O45 (F35_2) (F35_3)) rfl F35_0 (hb hby at_91) 0 #[iv p1, iv (2 : Int32), rv o_DUCKDB, rv b3, rv b29_b3, iv (0 : Int32), iv (1 : Int32), iv (0 : Int32)] [] [] pd_134 (by decide) rfl rfl rfl (Nat.le_of_eq rfl)
  obtain ⟨rfl, N47q, K47⟩ := hQ47
  have N48 := Fr.app N44 N47q
  refine ⟨T47, some (.int (1 : Int32)), _, _, _, X47, by decide, by decide, nofun, ?_, fun fs hr => castTop (ef_286 m p1) ?_⟩
  · exact ⟨rfl, N48⟩
  · show SS p e below s₁ m 0 #[iv p1, .unset, .unset, .unset, .unset, .unset, .unset, .unset] [] _
    refine XS.iloadN X0.here hx rfl (hb hby at_0) rfl ?_
    refine XS.iconst X0.here hx rfl (hb hby at_1) ?_
    show SS p e below s₁ m 2 #[iv p1, .unset, .unset, .unset, .unset, .unset, .unset, .unset] [(.int (3 : Int32)), (.int p1)] _
    refine XS.iand X0.here hx rfl (hb hby at_2) rfl ?_
    rw [hf]
    show SS p e below s₁ m 3 #[iv p1, .unset, .unset, .unset, .unset, .unset, .unset, .unset] [(.int (2 : Int32))] _
    refine XS.istoreN X0.here hx rfl (hb hby at_3) rfl (l' := #[iv p1, iv (2 : Int32), .unset, .unset, .unset, .unset, .unset, .unset]) rfl ?_
    show SS p e below s₁ m 4 #[iv p1, iv (2 : Int32), .unset, .unset, .unset, .unset, .unset, .unset] [] _
    refine XS.iloadN X0.here hx rfl (hb hby at_4) rfl ?_
    show SS p e below s₁ m 5 #[iv p1, iv (2 : Int32), .unset, .unset, .unset, .unset, .unset, .unset] [(.int (2 : Int32))] _
    refine st1 _ ?_
    show SS p e below T1 m 8 #[iv p1, iv (2 : Int32), .unset, .unset, .unset, .unset, .unset, .unset] [(.ref o_DUCKDB)] _
    refine XS.astoreN X1.here hx rfl (hb hby at_8) rfl rfl (l' := #[iv p1, iv (2 : Int32), rv o_DUCKDB, .unset, .unset, .unset, .unset, .unset]) rfl ?_
    show SS p e below T1 m 9 #[iv p1, iv (2 : Int32), rv o_DUCKDB, .unset, .unset, .unset, .unset, .unset] [] _
    refine st3 _ ?_
    show SS p e below T3 m 12 #[iv p1, iv (2 : Int32), rv o_DUCKDB, .unset, .unset, .unset, .unset, .unset] [(.ref b3)] _
    refine XS.dup X3.here hx rfl (hb hby at_12) rfl rfl ?_
    show SS p e below T3 m 13 #[iv p1, iv (2 : Int32), rv o_DUCKDB, .unset, .unset, .unset, .unset, .unset] [(.ref b3), (.ref b3)] _
    refine st6 _ ?_
    show SS p e below T6 m 16 #[iv p1, iv (2 : Int32), rv o_DUCKDB, .unset, .unset, .unset, .unset, .unset] [(.ref b6), (.ref b3), (.ref b3)] _
    refine XS.dup X6.here hx rfl (hb hby at_16) rfl rfl ?_
    show SS p e below T6 m 17 #[iv p1, iv (2 : Int32), rv o_DUCKDB, .unset, .unset, .unset, .unset, .unset] [(.ref b6), (.ref b6), (.ref b3), (.ref b3)] _
    refine st9 _ ?_
    show SS p e below T9 m 20 #[iv p1, iv (2 : Int32), rv o_DUCKDB, .unset, .unset, .unset, .unset, .unset] [(.ref b6), (.ref b3), (.ref b3)] _
    refine XS.aloadN X9.here hx rfl (hb hby at_20) rfl rfl ?_
    show SS p e below T9 m 21 #[iv p1, iv (2 : Int32), rv o_DUCKDB, .unset, .unset, .unset, .unset, .unset] [(.ref o_DUCKDB), (.ref b6), (.ref b3), (.ref b3)] _
    refine st15 _ ?_
    show SS p e below T15 m 24 #[iv p1, iv (2 : Int32), rv o_DUCKDB, .unset, .unset, .unset, .unset, .unset] [(.ref b3)] _
    refine XS.astoreN X15.here hx rfl (hb hby at_24) rfl rfl (l' := #[iv p1, iv (2 : Int32), rv o_DUCKDB, rv b3, .unset, .unset, .unset, .unset]) rfl ?_
    show SS p e below T15 m 25 #[iv p1, iv (2 : Int32), rv o_DUCKDB, rv b3, .unset, .unset, .unset, .unset] [] _
    refine XS.aloadN X15.here hx rfl (hb hby at_25) rfl rfl ?_
    refine XS.aloadN X15.here hx rfl (hb hby at_26) rfl rfl ?_
    show SS p e below T15 m 27 #[iv p1, iv (2 : Int32), rv o_DUCKDB, rv b3, .unset, .unset, .unset, .unset] [(.ref b3), (.ref o_DUCKDB)] _
    refine st29 _ ?_
    show SS p e below T29 m 30 #[iv p1, iv (2 : Int32), rv o_DUCKDB, rv b3, .unset, .unset, .unset, .unset] [(.ref b29_b3)] _
    refine XS.astore X29.here hx rfl (hb hby at_30) rfl rfl (l' := #[iv p1, iv (2 : Int32), rv o_DUCKDB, rv b3, rv b29_b3, .unset, .unset, .unset]) rfl ?_
    show SS p e below T29 m 32 #[iv p1, iv (2 : Int32), rv o_DUCKDB, rv b3, rv b29_b3, .unset, .unset, .unset] [] _
    refine XS.aload X29.here hx rfl (hb hby at_32) rfl rfl ?_
    show SS p e below T29 m 34 #[iv p1, iv (2 : Int32), rv o_DUCKDB, rv b3, rv b29_b3, .unset, .unset, .unset] [(.ref b29_b3)] _
    refine XS.ifnonnullYes X29.here hx rfl (pc0 := 34) (pc' := 39) rfl (hb hby at_34) rfl (by decide) (by decide) ?_
    show SS p e below T29 m 39 #[iv p1, iv (2 : Int32), rv o_DUCKDB, rv b3, rv b29_b3, .unset, .unset, .unset] [] _
    refine XS.aload X29.here hx rfl (hb hby at_39) rfl rfl ?_
    show SS p e below T29 m 41 #[iv p1, iv (2 : Int32), rv o_DUCKDB, rv b3, rv b29_b3, .unset, .unset, .unset] [(.ref b29_b3)] _
    refine st33 _ ?_
    show SS p e below T33 m 44 #[iv p1, iv (2 : Int32), rv o_DUCKDB, rv b3, rv b29_b3, .unset, .unset, .unset] [(.int (0 : Int32))] _
    refine XS.istore X33.here hx rfl (hb hby at_44) rfl (l' := #[iv p1, iv (2 : Int32), rv o_DUCKDB, rv b3, rv b29_b3, iv (0 : Int32), .unset, .unset]) rfl ?_
    show SS p e below T33 m 46 #[iv p1, iv (2 : Int32), rv o_DUCKDB, rv b3, rv b29_b3, iv (0 : Int32), .unset, .unset] [] _
    refine XS.aload X33.here hx rfl (hb hby at_46) rfl rfl ?_
    show SS p e below T33 m 48 #[iv p1, iv (2 : Int32), rv o_DUCKDB, rv b3, rv b29_b3, iv (0 : Int32), .unset, .unset] [(.ref b29_b3)] _
    refine st34 _ ?_
    show SS p e below T34 m 51 #[iv p1, iv (2 : Int32), rv o_DUCKDB, rv b3, rv b29_b3, iv (0 : Int32), .unset, .unset] [(.int (1 : Int32))] _
    refine XS.istore X34.here hx rfl (hb hby at_51) rfl (l' := #[iv p1, iv (2 : Int32), rv o_DUCKDB, rv b3, rv b29_b3, iv (0 : Int32), iv (1 : Int32), .unset]) rfl ?_
    show SS p e below T34 m 53 #[iv p1, iv (2 : Int32), rv o_DUCKDB, rv b3, rv b29_b3, iv (0 : Int32), iv (1 : Int32), .unset] [] _
    refine XS.iloadN X34.here hx rfl (hb hby at_53) rfl ?_
    refine XS.iconst X34.here hx rfl (hb hby at_54) ?_
    show SS p e below T34 m 55 #[iv p1, iv (2 : Int32), rv o_DUCKDB, rv b3, rv b29_b3, iv (0 : Int32), iv (1 : Int32), .unset] [(.int (1 : Int32)), (.int (2 : Int32))] _
    refine XS.icmpYes X34.here hx rfl (pc0 := 55) (pc' := 62) rfl (hb hby at_55) rfl (feq (by decide : ¬ ((2 : Int32) = (1 : Int32)))).2 (by decide) (by decide) ?_
    show SS p e below T34 m 62 #[iv p1, iv (2 : Int32), rv o_DUCKDB, rv b3, rv b29_b3, iv (0 : Int32), iv (1 : Int32), .unset] [] _
    refine XS.iconst X34.here hx rfl (hb hby at_62) ?_
    show SS p e below T34 m 63 #[iv p1, iv (2 : Int32), rv o_DUCKDB, rv b3, rv b29_b3, iv (0 : Int32), iv (1 : Int32), .unset] [(.int (0 : Int32))] _
    refine XS.istore X34.here hx rfl (hb hby at_63) rfl (l' := #[iv p1, iv (2 : Int32), rv o_DUCKDB, rv b3, rv b29_b3, iv (0 : Int32), iv (1 : Int32), iv (0 : Int32)]) rfl ?_
    show SS p e below T34 m 65 #[iv p1, iv (2 : Int32), rv o_DUCKDB, rv b3, rv b29_b3, iv (0 : Int32), iv (1 : Int32), iv (0 : Int32)] [] _
    refine XS.iload X34.here hx rfl (hb hby at_65) rfl ?_
    refine XS.iload X34.here hx rfl (hb hby at_67) rfl ?_
    show SS p e below T34 m 69 #[iv p1, iv (2 : Int32), rv o_DUCKDB, rv b3, rv b29_b3, iv (0 : Int32), iv (1 : Int32), iv (0 : Int32)] [(.int (0 : Int32)), (.int (0 : Int32))] _
    refine XS.icmpNo X34.here hx rfl (hb hby at_69) rfl (teq (by decide : (0 : Int32) = (0 : Int32))).2 ?_
    show SS p e below T34 m 72 #[iv p1, iv (2 : Int32), rv o_DUCKDB, rv b3, rv b29_b3, iv (0 : Int32), iv (1 : Int32), iv (0 : Int32)] [] _
    refine XS.iload X34.here hx rfl (hb hby at_72) rfl ?_
    refine XS.iload X34.here hx rfl (hb hby at_74) rfl ?_
    show SS p e below T34 m 76 #[iv p1, iv (2 : Int32), rv o_DUCKDB, rv b3, rv b29_b3, iv (0 : Int32), iv (1 : Int32), iv (0 : Int32)] [(.int (0 : Int32)), (.int (1 : Int32))] _
    refine XS.ifNo X34.here hx rfl (hb hby at_76) rfl ((if0 _ _).trans (teq (by decide : (0 : Int32) = (0 : Int32))).2) ?_
    show SS p e below T34 m 79 #[iv p1, iv (2 : Int32), rv o_DUCKDB, rv b3, rv b29_b3, iv (0 : Int32), iv (1 : Int32), iv (0 : Int32)] [(.int (1 : Int32))] _
    refine XS.iconst X34.here hx rfl (hb hby at_79) ?_
    refine XS.goto X34.here hx rfl (pc0 := 80) (pc' := 84) rfl (hb hby at_80) (by decide) (by decide) ?_
    show SS p e below T34 m 84 #[iv p1, iv (2 : Int32), rv o_DUCKDB, rv b3, rv b29_b3, iv (0 : Int32), iv (1 : Int32), iv (0 : Int32)] [(.int (1 : Int32)), (.int (1 : Int32))] _
    refine XS.icmpNo X34.here hx rfl (hb hby at_84) rfl (teq (by decide : (1 : Int32) = (1 : Int32))).2 ?_
    show SS p e below T34 m 87 #[iv p1, iv (2 : Int32), rv o_DUCKDB, rv b3, rv b29_b3, iv (0 : Int32), iv (1 : Int32), iv (0 : Int32)] [] _
    refine XS.aloadN X34.here hx rfl (hb hby at_87) rfl rfl ?_
    show SS p e below T34 m 88 #[iv p1, iv (2 : Int32), rv o_DUCKDB, rv b3, rv b29_b3, iv (0 : Int32), iv (1 : Int32), iv (0 : Int32)] [(.ref b3)] _
    refine st35 _ ?_
    show SS p e below T35 m 91 #[iv p1, iv (2 : Int32), rv o_DUCKDB, rv b3, rv b29_b3, iv (0 : Int32), iv (1 : Int32), iv (0 : Int32)] [(.ref b35_b2_b1)] _
    refine st47 _ ?_
    show SS p e below T47 m 94 #[iv p1, iv (2 : Int32), rv o_DUCKDB, rv b3, rv b29_b3, iv (0 : Int32), iv (1 : Int32), iv (0 : Int32)] [(.int (1 : Int32))] _
    refine XS.ifNo X47.here hx rfl (hb hby at_94) rfl ((if0 _ _).trans (feq (by decide : ¬ ((1 : Int32) = (0 : Int32)))).1) ?_
    show SS p e below T47 m 97 #[iv p1, iv (2 : Int32), rv o_DUCKDB, rv b3, rv b29_b3, iv (0 : Int32), iv (1 : Int32), iv (0 : Int32)] [] _
    refine XS.iconst X47.here hx rfl (hb hby at_97) ?_
    refine XS.goto X47.here hx rfl (pc0 := 98) (pc' := 102) rfl (hb hby at_98) (by decide) (by decide) ?_
    show SS p e below T47 m 102 #[iv p1, iv (2 : Int32), rv o_DUCKDB, rv b3, rv b29_b3, iv (0 : Int32), iv (1 : Int32), iv (0 : Int32)] [(.int (1 : Int32))] _
    exact retN X47 hx (t := .boolean) hret (by simp) (hb hby at_102) hr
theorem d_315 : decode method_2_code 26 = .ok (.getstatic 19, 3) := by decide +kernel
theorem d_316 : decode method_2_code 29 = .ok (.areturn, 1) := by decide +kernel
theorem ef_317 (m : MethodId)  : entryFrame m #[(.int (3 : Int32))] 1 = mkF m 0 #[iv (3 : Int32)] [] := by first | (simp [entryFrame, mkF, argsToLocals, Value.category]; done) | rfl
-- com/example/temporal_query_rewriter/temporalqueryrewriter/IslandsOfPinLaw.engineAt(I)Lcom/example/temporal_query_rewriter/temporalqueryrewriter/Engine;
def Q37_engineAt (Z : State) (a1 : Addr) (h0 : Heap) (n0 : Nat) (v : Option Value) (h : Heap) (L : List Loc) : Prop := v = some (.ref a1) ∧ Fr n0 L ∧ h = h0
set_option maxRecDepth 65536 in
set_option maxHeartbeats 40000000 in
theorem rm37_engineAt (l : Launch) (Z : State) (a0 : Array Value) (hw : HW Z a0) (a1 : Addr) (h0 : Heap) (n0 : Nat) (O0 : Old Z n0 h0) (S_0 : SA74 Z Z.heap (.ref a1)) :
    Met l Z [] Y0 method_2_code 1 (some (.object "com/example/temporal_query_rewriter/temporalqueryrewriter/Engine")) ({ frames := 0, cells := 0, slots := 0, locals := 0 } : Room) #[(.int (3 : Int32))] h0 (Q37_engineAt Z a1 h0 n0) := by
  have W := fun (i : Nat) {c : Jvm.Cond} (q : tables_1[i]? = some c) => hw c (List.mem_of_getElem? q)
  refine own_mk (plainFor_of_name pn_5) ?_
  intro p e s m below meth c s₁ hZ hx hby hml hown hnm hret hlk X0 e0
  have N0 := Fr.nil n0
  obtain ⟨T1, X1, e1, st1⟩ := getS2 X0 hx hZ hown (host := "") (Or.inl (W 243 rfl)) Via.refl e0 (S_0.ext O0.2) (g := (mkF m 26 #[iv (3 : Int32)] [])) rfl (hb hby d_315)
  refine ⟨T1, some (.ref a1), _, _, _, X1, by decide, by decide, nofun, ?_, fun fs hr => castTop (ef_317 m ) ?_⟩
  · show Q37_engineAt Z a1 h0 n0 _ T1.heap _
    rw [e1]
    exact ⟨rfl, N0, rfl⟩
  · show SS p e below s₁ m 0 #[iv (3 : Int32)] [] _
    refine XS.iloadN X0.here hx rfl (hb hby d_0) rfl ?_
    show SS p e below s₁ m 1 #[iv (3 : Int32)] [(.int (3 : Int32))] _
    refine XS.ifYes X0.here hx rfl (pc0 := 1) (pc' := 8) rfl (hb hby d_1) rfl ((if0 _ _).trans (feq (by decide : ¬ ((3 : Int32) = (0 : Int32)))).2) (by decide) (by decide) ?_
    show SS p e below s₁ m 8 #[iv (3 : Int32)] [] _
    refine XS.iloadN X0.here hx rfl (hb hby d_287) rfl ?_
    refine XS.iconst X0.here hx rfl (hb hby d_288) ?_
    show SS p e below s₁ m 10 #[iv (3 : Int32)] [(.int (1 : Int32)), (.int (3 : Int32))] _
    refine XS.icmpYes X0.here hx rfl (pc0 := 10) (pc' := 17) rfl (hb hby d_289) rfl (feq (by decide : ¬ ((3 : Int32) = (1 : Int32)))).2 (by decide) (by decide) ?_
    show SS p e below s₁ m 17 #[iv (3 : Int32)] [] _
    refine XS.iloadN X0.here hx rfl (hb hby d_309) rfl ?_
    refine XS.iconst X0.here hx rfl (hb hby d_310) ?_
    show SS p e below s₁ m 19 #[iv (3 : Int32)] [(.int (2 : Int32)), (.int (3 : Int32))] _
    refine XS.icmpYes X0.here hx rfl (pc0 := 19) (pc' := 26) rfl (hb hby d_311) rfl (feq (by decide : ¬ ((3 : Int32) = (2 : Int32)))).2 (by decide) (by decide) ?_
    show SS p e below s₁ m 26 #[iv (3 : Int32)] [] _
    refine st1 _ ?_
    show SS p e below T1 m 29 #[iv (3 : Int32)] [(.ref a1)] _
    exact retOut X1 hx hret rfl (Or.inr (Or.inr (Or.inr (Or.inr ⟨rfl, rfl, rfl⟩)))) (hb hby d_316) hr
set_option maxRecDepth 65536 in
set_option maxHeartbeats 40000000 in
theorem rm0_3 (l : Launch) (Z : State) (a0 : Array Value) (hw : HW Z a0) (ws : List Jvm.Cond) (p1 : Int32) (o_EMPTY_ELEMENTDATA : Addr) (o_DEFAULTCAPACITY_EMPTY_ELEMENTDATA : Addr) (o_COMPACT_STRINGS : Int32) (o_SIOOBE_FORMATTER : Value) (o_H2 : Addr) (o_SQLITE : Addr) (o_DUCKDB : Addr) (o_HSQLDB : Addr) (h0 : Heap) (n0 : Nat) (O0 : Old Z n0 h0) (S_o_EMPTY_ELEMENTDATA : SA72 Z Z.heap (.ref o_EMPTY_ELEMENTDATA)) (E_o_EMPTY_ELEMENTDATA : EA67 Z Z.heap o_EMPTY_ELEMENTDATA) (S_o_DEFAULTCAPACITY_EMPTY_ELEMENTDATA : SA70 Z Z.heap (.ref o_DEFAULTCAPACITY_EMPTY_ELEMENTDATA)) (E_o_DEFAULTCAPACITY_EMPTY_ELEMENTDATA : EA67 Z Z.heap o_DEFAULTCAPACITY_EMPTY_ELEMENTDATA) (S_o_COMPACT_STRINGS : SA71 Z Z.heap (.int o_COMPACT_STRINGS)) (S_o_SIOOBE_FORMATTER : SA73 Z Z.heap o_SIOOBE_FORMATTER) (S_o_H2 : SA69 Z Z.heap (.ref o_H2)) (E_o_H2 : EA65 Z Z.heap o_H2) (S_o_SQLITE : SA74 Z Z.heap (.ref o_SQLITE)) (E_o_SQLITE : EA65 Z Z.heap o_SQLITE) (S_o_DUCKDB : SA75 Z Z.heap (.ref o_DUCKDB)) (E_o_DUCKDB : EA65 Z Z.heap o_DUCKDB) (S_o_HSQLDB : SA76 Z Z.heap (.ref o_HSQLDB)) (E_o_HSQLDB : EA65 Z Z.heap o_HSQLDB) (F_o_H2_windowAggregates : FA51 Z Z.heap o_H2 (.int (1 : Int32))) (F_o_SQLITE_windowAggregates : FA51 Z Z.heap o_SQLITE (.int (1 : Int32))) (F_o_DUCKDB_windowAggregates : FA51 Z Z.heap o_DUCKDB (.int (1 : Int32))) (F_o_HSQLDB_windowAggregates : FA51 Z Z.heap o_HSQLDB (.int (0 : Int32))) (nz_o_COMPACT_STRINGS : ¬ (o_COMPACT_STRINGS = (0 : Int32))) (ir_o_SIOOBE_FORMATTER : o_SIOOBE_FORMATTER.isRef = true) (hf : (p1 &&& (3 : Int32)) = (3 : Int32)) :
    Met l Z ws x code maxLocals ret room_1 #[(.int p1)] h0 (fun v _ L => Q0 n0 v L) := by
  have W := fun (i : Nat) {c : Jvm.Cond} (q : tables_1[i]? = some c) => hw c (List.mem_of_getElem? q)
  refine own_mk (plainFor_of_name pn_5) ?_
  intro p e s m below meth c s₁ hZ hx hby hml hown hnm hret hlk X0 e0
  have N0 := Fr.nil n0
  obtain ⟨_, T1, L1, X1, hQ1, st1⟩ := own_cs X0 hx hZ hown hml (W 0 rfl) (W 1 rfl) (W 2 rfl) (W 3 rfl) (rm37_engineAt l Z a0 hw o_SQLITE h0 n0 O0 (S_o_SQLITE)) e0 (hb hby at_5) 0 #[iv p1, iv (3 : Int32), .unset, .unset, .unset, .unset, .unset, .unset] [(.int (3 : Int32))] [] pd_6 (by decide) rfl rfl rfl (Nat.le_of_eq rfl)
  obtain ⟨rfl, N1q, K1⟩ := hQ1
  have N2 := Fr.app N0 N1q
  obtain ⟨T3, h3, X3, e3, E3, A3, D3, -, st3⟩ := newO X1 hx hZ hown (W 7 rfl) (W 8 rfl) (W 9 rfl) K1 (g := (mkF m 9 #[iv p1, iv (3 : Int32), rv o_SQLITE, .unset, .unset, .unset, .unset, .unset] [])) rfl (hb hby at_9) (by decide) (by decide)
  obtain ⟨b3, g3⟩ : ∃ z, z = h0.size := ⟨_, rfl⟩
  rw [← g3] at A3 D3 st3
  have O4 := O0.ext E3
  have K5 : Keep h0 h3 [] := Keep.ext (Keep.refl h0 []) E3
  obtain ⟨T6, h6, X6, e6, E6, A6, D6, -, st6⟩ := newO X3 hx hZ hown (W 10 rfl) (W 11 rfl) (W 12 rfl) e3 (g := (mkF m 13 #[iv p1, iv (3 : Int32), rv o_SQLITE, .unset, .unset, .unset, .unset, .unset] [(.ref b3), (.ref b3)])) rfl (hb hby at_13) (by decide) (by decide)
  obtain ⟨b6, g6⟩ : ∃ z, z = h3.size := ⟨_, rfl⟩
  rw [← g6] at A6 D6 st6
  have O7 := O4.ext E6
  have K8 : Keep h0 h6 [] := Keep.ext K5 E6
  have z10 : h0.size ≤ h3.size := E3.1
  have g11 : n0 ≤ b6 := Nat.le_trans (Nat.le_trans (Nat.le_trans (Nat.le_of_eq O0.1.symm) O0.2.1) z10) (Nat.le_of_eq g6.symm)
  obtain ⟨_, T9, L9, X9, hQ9, st9⟩ := own_cp X6 hx hZ hown hml rfl (W 13 rfl) (W 14 rfl) (W 12 rfl) (W 15 rfl) (rm4_init l Z a0 hw b6 o_DEFAULTCAPACITY_EMPTY_ELEMENTDATA h6 n0 O7 (A6) ((D6 (Or.inl (W 32 rfl)) (ty := .int) (by decide) : FA35 Z h6 b6 (.int (0 : Int32)))) ((D6 (Or.inl (W 35 rfl)) (ty := (.array (.object "java/lang/Object"))) (by decide) : FA36 Z h6 b6 .null)) ((D6 (Or.inl (W 149 rfl)) (ty := .int) (by decide) : FA37 Z h6 b6 (.int (0 : Int32)))) (g11) (S_o_DEFAULTCAPACITY_EMPTY_ELEMENTDATA)) e6 (hb hby at_17) 3 #[iv p1, iv (3 : Int32), rv o_SQLITE, .unset, .unset, .unset, .unset, .unset] b6 [] [(.ref b6), (.ref b3), (.ref b3)] pd_16 (by decide) rfl rfl rfl (Nat.le_of_eq rfl)
  obtain ⟨rfl, N9q, K9, F9_0, F9_1, F9_2⟩ := hQ9
  have N12 := Fr.app N2 N9q
  have O13 := O7.keep K9 (allS g11 all0)
  have K14 : Keep h0 T9.heap [] := Keep.trans K8 K9 (allS (Or.inr (Nat.le_trans z10 (Nat.le_of_eq g6.symm))) all0)
  have f16 := ((A3.ext E6).keep K9)
  have f17 := (((D3 (Or.inr (W 61 rfl)) (ty := (.object "java/lang/StringBuilder")) (by decide) : FA47 Z h3 b3 .null).ext E6).keep K9 (ninS (Nat.ne_of_lt (Nat.lt_of_lt_of_le A3.lt (Nat.le_of_eq g6.symm))) nin0))
  have z18 : h3.size ≤ h6.size := E6.1
  have z19 : h3.size ≤ T9.heap.size := (Nat.le_trans z18 K9.1)
  have g20 : n0 ≤ b3 := Nat.le_trans (Nat.le_trans (Nat.le_of_eq O0.1.symm) O0.2.1) (Nat.le_of_eq g3.symm)
  have f21 := (((D3 (Or.inr (W 96 rfl)) (ty := (.object "java/util/Set")) (by decide) : FA48 Z h3 b3 .null).ext E6).keep K9 (ninS (Nat.ne_of_lt (Nat.lt_of_lt_of_le A3.lt (Nat.le_of_eq g6.symm))) nin0))
  have f22 := (((D3 (Or.inr (W 100 rfl)) (ty := (.object "java/util/Map")) (by decide) : FA49 Z h3 b3 .null).ext E6).keep K9 (ninS (Nat.ne_of_lt (Nat.lt_of_lt_of_le A3.lt (Nat.le_of_eq g6.symm))) nin0))
  have f23 := (((D3 (Or.inr (W 102 rfl)) (ty := (.object "com/example/temporal_query_rewriter/temporalqueryrewriter/Engine")) (by decide) : FA50 Z h3 b3 .null).ext E6).keep K9 (ninS (Nat.ne_of_lt (Nat.lt_of_lt_of_le A3.lt (Nat.le_of_eq g6.symm))) nin0))
  have f24 := (A6.keep K9)
  have z25 : h6.size ≤ T9.heap.size := K9.1
  obtain ⟨_, T15, L15, X15, hQ15, st15⟩ := own_cp X9 hx hZ hown hml rfl (W 36 rfl) (W 37 rfl) (W 9 rfl) (W 38 rfl) (rm15_init l Z a0 hw b3 b6 o_SQLITE o_COMPACT_STRINGS T9.heap n0 O13 (S_o_COMPACT_STRINGS) (nz_o_COMPACT_STRINGS) (f16) (f17) ((Nat.lt_of_lt_of_le A3.lt z19)) (g20) (f21) (f22) (f23) (f24) (F9_0) (F9_2) ((Nat.lt_of_lt_of_le A6.lt z25)) ((Nat.ne_of_lt (Nat.lt_of_lt_of_le A3.lt (Nat.le_of_eq g6.symm))))) rfl (hb hby at_21) 1 #[iv p1, iv (3 : Int32), rv o_SQLITE, .unset, .unset, .unset, .unset, .unset] b3 [(.ref b6), (.ref o_SQLITE)] [(.ref b3)] pd_144 (by decide) rfl rfl rfl (Nat.le_of_eq rfl)
  obtain ⟨b15_b2, b15_b5_b1_b3, b15_b17, b15_b20_b3, b15_b35, k15_k5_k1_k3, rfl, N15q, K15, gb15_0, gb15_1, gb15_2, gb15_3, gb15_4, F15_0, F15_1, F15_2, F15_3, F15_4, F15_5, F15_6, F15_7, F15_8, F15_9, F15_10, F15_11, F15_12, F15_13, F15_14, F15_15⟩ := hQ15
  have N26 := Fr.app N12 N15q
  have O27 := O13.keep K15 (allS g20 all0)
  have K28 : Keep h0 T15.heap [] := Keep.trans K14 K15 (allS (Or.inr (Nat.le_of_eq g3.symm)) all0)
  obtain ⟨_, T29, L29, X29, hQ29, st29⟩ := own_cs X15 hx hZ hown hml (W 150 rfl) (W 151 rfl) (W 152 rfl) (W 153 rfl) (rm18_of l Z a0 hw o_SQLITE b3 T15.heap n0 O27 (E_o_SQLITE) (F_o_SQLITE_windowAggregates)) rfl (hb hby at_27) 0 #[iv p1, iv (3 : Int32), rv o_SQLITE, rv b3, .unset, .unset, .unset, .unset] [(.ref o_SQLITE), (.ref b3)] [] pd_167 (by decide) rfl rfl rfl (Nat.le_of_eq rfl)
  obtain ⟨b29_b3, rfl, N29q, K29, gb29_0, F29_0, F29_1⟩ := hQ29
  have N30 := Fr.app N26 N29q
  have O31 := O27.keep K29 all0
  have K32 : Keep h0 T29.heap [] := Keep.trans K28 K29 all0
  obtain ⟨T33, X33, e33, st33⟩ := instNo X29 hx hZ hown (W 170 rfl) rfl F29_0 (NS.no (W 171 rfl) (W 261 rfl) (NS.step (W 171 rfl) (NS.root (W 172 rfl) (W 261 rfl) (by decide)) (by decide)) (by decide)) (g := (mkF m 41 #[iv p1, iv (3 : Int32), rv o_SQLITE, rv b3, rv b29_b3, .unset, .unset, .unset] [(.ref b29_b3)])) rfl rfl (hb hby at_41)
  obtain ⟨T34, X34, e34, st34⟩ := instY X33 hx hZ hown (W 173 rfl) e33 (Ins.self F29_0) (g := (mkF m 48 #[iv p1, iv (3 : Int32), rv o_SQLITE, rv b3, rv b29_b3, iv (0 : Int32), .unset, .unset] [(.ref b29_b3)])) rfl rfl (hb hby at_48)
  have f36 := (F15_12.keep K29 nin0)
  have f37 := (F15_0.keep K29)
  have f38 := (F15_1.keep K29 nin0)
  have f39 := (F15_3.keep K29 nin0)
  have f40 := (F15_2.keep K29 nin0)
  have f41 := (F15_4.keep K29 nin0)
  have z42 : T15.heap.size ≤ T29.heap.size := K29.1
  have f43 := ((f16.keep K15).keep K29)
  obtain ⟨_, T35, L35, X35, hQ35, st35⟩ := own_cv X34 hx hZ hown hml (W 175 rfl) (W 176 rfl) (notFace_of_selects (W 178 rfl)) (W 178 rfl) (W 177 rfl) (W 9 rfl) (W 179 rfl) (rm30_toString l Z a0 hw b3 b15_b2 b15_b5_b1_b3 o_COMPACT_STRINGS k15_k5_k1_k3 T29.heap n0 O31 (f36) (f37) (f38) (f39) (S_o_COMPACT_STRINGS) (nz_o_COMPACT_STRINGS) (f40) (f41) ((Nat.lt_of_lt_of_le F15_4.lt z42))) e34 f43 (hb hby at_88) 0 #[iv p1, iv (3 : Int32), rv o_SQLITE, rv b3, rv b29_b3, iv (0 : Int32), iv (1 : Int32), iv (0 : Int32)] [] [] pd_277 (by decide) rfl rfl rfl (Nat.le_of_eq rfl)
  obtain ⟨b35_b2_b1, b35_b2_b4_b1_b13_b2_b3, k35_k2_k4_k1_k13_k2_k3, rfl, N35q, K35, gb35_0, gb35_1, F35_0, F35_1, F35_2, F35_3, F35_4⟩ := hQ35
  have N44 := Fr.app N30 N35q
  have O45 := O31.keep K35 all0
  have K46 : Keep h0 T35.heap [] := Keep.trans K32 K35 all0
  obtain ⟨_, T47, L47, X47, hQ47, st47⟩ := own_cv X35 hx hZ hown hml (W 238 rfl) (W 239 rfl) (notFace_of_selects (W 241 rfl)) (W 241 rfl) (W 240 rfl) (W 54 rfl) (W 242 rfl) (rm31_isEmpty l Z a0 hw b35_b2_b1 b35_b2_b4_b1_b13_b2_b3 k35_k2_k4_k1_k13_k2_k3 T35.heap n0 O45 (F35_2) (F35_3)) rfl F35_0 (hb hby at_91) 0 #[iv p1, iv (3 : Int32), rv o_SQLITE, rv b3, rv b29_b3, iv (0 : Int32), iv (1 : Int32), iv (0 : Int32)] [] [] pd_134 (by decide) rfl rfl rfl (Nat.le_of_eq rfl)
  obtain ⟨rfl, N47q, K47⟩ := hQ47
  have N48 := Fr.app N44 N47q
  refine ⟨T47, some (.int (1 : Int32)), _, _, _, X47, by decide, by decide, nofun, ?_, fun fs hr => castTop (ef_286 m p1) ?_⟩
  · exact ⟨rfl, N48⟩
  · show SS p e below s₁ m 0 #[iv p1, .unset, .unset, .unset, .unset, .unset, .unset, .unset] [] _
    refine XS.iloadN X0.here hx rfl (hb hby at_0) rfl ?_
    refine XS.iconst X0.here hx rfl (hb hby at_1) ?_
    show SS p e below s₁ m 2 #[iv p1, .unset, .unset, .unset, .unset, .unset, .unset, .unset] [(.int (3 : Int32)), (.int p1)] _
    refine XS.iand X0.here hx rfl (hb hby at_2) rfl ?_
    rw [hf]
    show SS p e below s₁ m 3 #[iv p1, .unset, .unset, .unset, .unset, .unset, .unset, .unset] [(.int (3 : Int32))] _
    refine XS.istoreN X0.here hx rfl (hb hby at_3) rfl (l' := #[iv p1, iv (3 : Int32), .unset, .unset, .unset, .unset, .unset, .unset]) rfl ?_
    show SS p e below s₁ m 4 #[iv p1, iv (3 : Int32), .unset, .unset, .unset, .unset, .unset, .unset] [] _
    refine XS.iloadN X0.here hx rfl (hb hby at_4) rfl ?_
    show SS p e below s₁ m 5 #[iv p1, iv (3 : Int32), .unset, .unset, .unset, .unset, .unset, .unset] [(.int (3 : Int32))] _
    refine st1 _ ?_
    show SS p e below T1 m 8 #[iv p1, iv (3 : Int32), .unset, .unset, .unset, .unset, .unset, .unset] [(.ref o_SQLITE)] _
    refine XS.astoreN X1.here hx rfl (hb hby at_8) rfl rfl (l' := #[iv p1, iv (3 : Int32), rv o_SQLITE, .unset, .unset, .unset, .unset, .unset]) rfl ?_
    show SS p e below T1 m 9 #[iv p1, iv (3 : Int32), rv o_SQLITE, .unset, .unset, .unset, .unset, .unset] [] _
    refine st3 _ ?_
    show SS p e below T3 m 12 #[iv p1, iv (3 : Int32), rv o_SQLITE, .unset, .unset, .unset, .unset, .unset] [(.ref b3)] _
    refine XS.dup X3.here hx rfl (hb hby at_12) rfl rfl ?_
    show SS p e below T3 m 13 #[iv p1, iv (3 : Int32), rv o_SQLITE, .unset, .unset, .unset, .unset, .unset] [(.ref b3), (.ref b3)] _
    refine st6 _ ?_
    show SS p e below T6 m 16 #[iv p1, iv (3 : Int32), rv o_SQLITE, .unset, .unset, .unset, .unset, .unset] [(.ref b6), (.ref b3), (.ref b3)] _
    refine XS.dup X6.here hx rfl (hb hby at_16) rfl rfl ?_
    show SS p e below T6 m 17 #[iv p1, iv (3 : Int32), rv o_SQLITE, .unset, .unset, .unset, .unset, .unset] [(.ref b6), (.ref b6), (.ref b3), (.ref b3)] _
    refine st9 _ ?_
    show SS p e below T9 m 20 #[iv p1, iv (3 : Int32), rv o_SQLITE, .unset, .unset, .unset, .unset, .unset] [(.ref b6), (.ref b3), (.ref b3)] _
    refine XS.aloadN X9.here hx rfl (hb hby at_20) rfl rfl ?_
    show SS p e below T9 m 21 #[iv p1, iv (3 : Int32), rv o_SQLITE, .unset, .unset, .unset, .unset, .unset] [(.ref o_SQLITE), (.ref b6), (.ref b3), (.ref b3)] _
    refine st15 _ ?_
    show SS p e below T15 m 24 #[iv p1, iv (3 : Int32), rv o_SQLITE, .unset, .unset, .unset, .unset, .unset] [(.ref b3)] _
    refine XS.astoreN X15.here hx rfl (hb hby at_24) rfl rfl (l' := #[iv p1, iv (3 : Int32), rv o_SQLITE, rv b3, .unset, .unset, .unset, .unset]) rfl ?_
    show SS p e below T15 m 25 #[iv p1, iv (3 : Int32), rv o_SQLITE, rv b3, .unset, .unset, .unset, .unset] [] _
    refine XS.aloadN X15.here hx rfl (hb hby at_25) rfl rfl ?_
    refine XS.aloadN X15.here hx rfl (hb hby at_26) rfl rfl ?_
    show SS p e below T15 m 27 #[iv p1, iv (3 : Int32), rv o_SQLITE, rv b3, .unset, .unset, .unset, .unset] [(.ref b3), (.ref o_SQLITE)] _
    refine st29 _ ?_
    show SS p e below T29 m 30 #[iv p1, iv (3 : Int32), rv o_SQLITE, rv b3, .unset, .unset, .unset, .unset] [(.ref b29_b3)] _
    refine XS.astore X29.here hx rfl (hb hby at_30) rfl rfl (l' := #[iv p1, iv (3 : Int32), rv o_SQLITE, rv b3, rv b29_b3, .unset, .unset, .unset]) rfl ?_
    show SS p e below T29 m 32 #[iv p1, iv (3 : Int32), rv o_SQLITE, rv b3, rv b29_b3, .unset, .unset, .unset] [] _
    refine XS.aload X29.here hx rfl (hb hby at_32) rfl rfl ?_
    show SS p e below T29 m 34 #[iv p1, iv (3 : Int32), rv o_SQLITE, rv b3, rv b29_b3, .unset, .unset, .unset] [(.ref b29_b3)] _
    refine XS.ifnonnullYes X29.here hx rfl (pc0 := 34) (pc' := 39) rfl (hb hby at_34) rfl (by decide) (by decide) ?_
    show SS p e below T29 m 39 #[iv p1, iv (3 : Int32), rv o_SQLITE, rv b3, rv b29_b3, .unset, .unset, .unset] [] _
    refine XS.aload X29.here hx rfl (hb hby at_39) rfl rfl ?_
    show SS p e below T29 m 41 #[iv p1, iv (3 : Int32), rv o_SQLITE, rv b3, rv b29_b3, .unset, .unset, .unset] [(.ref b29_b3)] _
    refine st33 _ ?_
    show SS p e below T33 m 44 #[iv p1, iv (3 : Int32), rv o_SQLITE, rv b3, rv b29_b3, .unset, .unset, .unset] [(.int (0 : Int32))] _
    refine XS.istore X33.here hx rfl (hb hby at_44) rfl (l' := #[iv p1, iv (3 : Int32), rv o_SQLITE, rv b3, rv b29_b3, iv (0 : Int32), .unset, .unset]) rfl ?_
    show SS p e below T33 m 46 #[iv p1, iv (3 : Int32), rv o_SQLITE, rv b3, rv b29_b3, iv (0 : Int32), .unset, .unset] [] _
    refine XS.aload X33.here hx rfl (hb hby at_46) rfl rfl ?_
    show SS p e below T33 m 48 #[iv p1, iv (3 : Int32), rv o_SQLITE, rv b3, rv b29_b3, iv (0 : Int32), .unset, .unset] [(.ref b29_b3)] _
    refine st34 _ ?_
    show SS p e below T34 m 51 #[iv p1, iv (3 : Int32), rv o_SQLITE, rv b3, rv b29_b3, iv (0 : Int32), .unset, .unset] [(.int (1 : Int32))] _
    refine XS.istore X34.here hx rfl (hb hby at_51) rfl (l' := #[iv p1, iv (3 : Int32), rv o_SQLITE, rv b3, rv b29_b3, iv (0 : Int32), iv (1 : Int32), .unset]) rfl ?_
    show SS p e below T34 m 53 #[iv p1, iv (3 : Int32), rv o_SQLITE, rv b3, rv b29_b3, iv (0 : Int32), iv (1 : Int32), .unset] [] _
    refine XS.iloadN X34.here hx rfl (hb hby at_53) rfl ?_
    refine XS.iconst X34.here hx rfl (hb hby at_54) ?_
    show SS p e below T34 m 55 #[iv p1, iv (3 : Int32), rv o_SQLITE, rv b3, rv b29_b3, iv (0 : Int32), iv (1 : Int32), .unset] [(.int (1 : Int32)), (.int (3 : Int32))] _
    refine XS.icmpYes X34.here hx rfl (pc0 := 55) (pc' := 62) rfl (hb hby at_55) rfl (feq (by decide : ¬ ((3 : Int32) = (1 : Int32)))).2 (by decide) (by decide) ?_
    show SS p e below T34 m 62 #[iv p1, iv (3 : Int32), rv o_SQLITE, rv b3, rv b29_b3, iv (0 : Int32), iv (1 : Int32), .unset] [] _
    refine XS.iconst X34.here hx rfl (hb hby at_62) ?_
    show SS p e below T34 m 63 #[iv p1, iv (3 : Int32), rv o_SQLITE, rv b3, rv b29_b3, iv (0 : Int32), iv (1 : Int32), .unset] [(.int (0 : Int32))] _
    refine XS.istore X34.here hx rfl (hb hby at_63) rfl (l' := #[iv p1, iv (3 : Int32), rv o_SQLITE, rv b3, rv b29_b3, iv (0 : Int32), iv (1 : Int32), iv (0 : Int32)]) rfl ?_
    show SS p e below T34 m 65 #[iv p1, iv (3 : Int32), rv o_SQLITE, rv b3, rv b29_b3, iv (0 : Int32), iv (1 : Int32), iv (0 : Int32)] [] _
    refine XS.iload X34.here hx rfl (hb hby at_65) rfl ?_
    refine XS.iload X34.here hx rfl (hb hby at_67) rfl ?_
    show SS p e below T34 m 69 #[iv p1, iv (3 : Int32), rv o_SQLITE, rv b3, rv b29_b3, iv (0 : Int32), iv (1 : Int32), iv (0 : Int32)] [(.int (0 : Int32)), (.int (0 : Int32))] _
    refine XS.icmpNo X34.here hx rfl (hb hby at_69) rfl (teq (by decide : (0 : Int32) = (0 : Int32))).2 ?_
    show SS p e below T34 m 72 #[iv p1, iv (3 : Int32), rv o_SQLITE, rv b3, rv b29_b3, iv (0 : Int32), iv (1 : Int32), iv (0 : Int32)] [] _
    refine XS.iload X34.here hx rfl (hb hby at_72) rfl ?_
    refine XS.iload X34.here hx rfl (hb hby at_74) rfl ?_
    show SS p e below T34 m 76 #[iv p1, iv (3 : Int32), rv o_SQLITE, rv b3, rv b29_b3, iv (0 : Int32), iv (1 : Int32), iv (0 : Int32)] [(.int (0 : Int32)), (.int (1 : Int32))] _
    refine XS.ifNo X34.here hx rfl (hb hby at_76) rfl ((if0 _ _).trans (teq (by decide : (0 : Int32) = (0 : Int32))).2) ?_
    show SS p e below T34 m 79 #[iv p1, iv (3 : Int32), rv o_SQLITE, rv b3, rv b29_b3, iv (0 : Int32), iv (1 : Int32), iv (0 : Int32)] [(.int (1 : Int32))] _
    refine XS.iconst X34.here hx rfl (hb hby at_79) ?_
    refine XS.goto X34.here hx rfl (pc0 := 80) (pc' := 84) rfl (hb hby at_80) (by decide) (by decide) ?_
    show SS p e below T34 m 84 #[iv p1, iv (3 : Int32), rv o_SQLITE, rv b3, rv b29_b3, iv (0 : Int32), iv (1 : Int32), iv (0 : Int32)] [(.int (1 : Int32)), (.int (1 : Int32))] _
    refine XS.icmpNo X34.here hx rfl (hb hby at_84) rfl (teq (by decide : (1 : Int32) = (1 : Int32))).2 ?_
    show SS p e below T34 m 87 #[iv p1, iv (3 : Int32), rv o_SQLITE, rv b3, rv b29_b3, iv (0 : Int32), iv (1 : Int32), iv (0 : Int32)] [] _
    refine XS.aloadN X34.here hx rfl (hb hby at_87) rfl rfl ?_
    show SS p e below T34 m 88 #[iv p1, iv (3 : Int32), rv o_SQLITE, rv b3, rv b29_b3, iv (0 : Int32), iv (1 : Int32), iv (0 : Int32)] [(.ref b3)] _
    refine st35 _ ?_
    show SS p e below T35 m 91 #[iv p1, iv (3 : Int32), rv o_SQLITE, rv b3, rv b29_b3, iv (0 : Int32), iv (1 : Int32), iv (0 : Int32)] [(.ref b35_b2_b1)] _
    refine st47 _ ?_
    show SS p e below T47 m 94 #[iv p1, iv (3 : Int32), rv o_SQLITE, rv b3, rv b29_b3, iv (0 : Int32), iv (1 : Int32), iv (0 : Int32)] [(.int (1 : Int32))] _
    refine XS.ifNo X47.here hx rfl (hb hby at_94) rfl ((if0 _ _).trans (feq (by decide : ¬ ((1 : Int32) = (0 : Int32)))).1) ?_
    show SS p e below T47 m 97 #[iv p1, iv (3 : Int32), rv o_SQLITE, rv b3, rv b29_b3, iv (0 : Int32), iv (1 : Int32), iv (0 : Int32)] [] _
    refine XS.iconst X47.here hx rfl (hb hby at_97) ?_
    refine XS.goto X47.here hx rfl (pc0 := 98) (pc' := 102) rfl (hb hby at_98) (by decide) (by decide) ?_
    show SS p e below T47 m 102 #[iv p1, iv (3 : Int32), rv o_SQLITE, rv b3, rv b29_b3, iv (0 : Int32), iv (1 : Int32), iv (0 : Int32)] [(.int (1 : Int32))] _
    exact retN X47 hx (t := .boolean) hret (by simp) (hb hby at_102) hr
theorem own_split2 (p2 : Int32) : (p2 &&& (3 : Int32)) = (0 : Int32) ∨ (p2 &&& (3 : Int32)) = (1 : Int32) ∨ (p2 &&& (3 : Int32)) = (2 : Int32) ∨ (p2 &&& (3 : Int32)) = (3 : Int32) := by
  have h1 := c_mask p2 3 2 (by decide) (by decide)
  simp only [← Int32.toInt_inj, h1, Int32.reduceToInt]
  omega
theorem rm0 (l : Launch) (Z : State) (a0 : Array Value) (hw : HW Z a0) (ws : List Jvm.Cond) (p1 : Int32) (o_EMPTY_ELEMENTDATA : Addr) (o_DEFAULTCAPACITY_EMPTY_ELEMENTDATA : Addr) (o_COMPACT_STRINGS : Int32) (o_SIOOBE_FORMATTER : Value) (o_H2 : Addr) (o_SQLITE : Addr) (o_DUCKDB : Addr) (o_HSQLDB : Addr) (h0 : Heap) (n0 : Nat) (O0 : Old Z n0 h0) (S_o_EMPTY_ELEMENTDATA : SA72 Z Z.heap (.ref o_EMPTY_ELEMENTDATA)) (E_o_EMPTY_ELEMENTDATA : EA67 Z Z.heap o_EMPTY_ELEMENTDATA) (S_o_DEFAULTCAPACITY_EMPTY_ELEMENTDATA : SA70 Z Z.heap (.ref o_DEFAULTCAPACITY_EMPTY_ELEMENTDATA)) (E_o_DEFAULTCAPACITY_EMPTY_ELEMENTDATA : EA67 Z Z.heap o_DEFAULTCAPACITY_EMPTY_ELEMENTDATA) (S_o_COMPACT_STRINGS : SA71 Z Z.heap (.int o_COMPACT_STRINGS)) (S_o_SIOOBE_FORMATTER : SA73 Z Z.heap o_SIOOBE_FORMATTER) (S_o_H2 : SA69 Z Z.heap (.ref o_H2)) (E_o_H2 : EA65 Z Z.heap o_H2) (S_o_SQLITE : SA74 Z Z.heap (.ref o_SQLITE)) (E_o_SQLITE : EA65 Z Z.heap o_SQLITE) (S_o_DUCKDB : SA75 Z Z.heap (.ref o_DUCKDB)) (E_o_DUCKDB : EA65 Z Z.heap o_DUCKDB) (S_o_HSQLDB : SA76 Z Z.heap (.ref o_HSQLDB)) (E_o_HSQLDB : EA65 Z Z.heap o_HSQLDB) (F_o_H2_windowAggregates : FA51 Z Z.heap o_H2 (.int (1 : Int32))) (F_o_SQLITE_windowAggregates : FA51 Z Z.heap o_SQLITE (.int (1 : Int32))) (F_o_DUCKDB_windowAggregates : FA51 Z Z.heap o_DUCKDB (.int (1 : Int32))) (F_o_HSQLDB_windowAggregates : FA51 Z Z.heap o_HSQLDB (.int (0 : Int32))) (nz_o_COMPACT_STRINGS : ¬ (o_COMPACT_STRINGS = (0 : Int32))) (ir_o_SIOOBE_FORMATTER : o_SIOOBE_FORMATTER.isRef = true)  :
    Met l Z ws x code maxLocals ret room_1 #[(.int p1)] h0 (fun v _ L => Q0 n0 v L) := by
  rcases own_split2 p1 with u | u | u | u
  · exact rm0_0 l Z a0 hw ws p1 o_EMPTY_ELEMENTDATA o_DEFAULTCAPACITY_EMPTY_ELEMENTDATA o_COMPACT_STRINGS o_SIOOBE_FORMATTER o_H2 o_SQLITE o_DUCKDB o_HSQLDB h0 n0 O0 S_o_EMPTY_ELEMENTDATA E_o_EMPTY_ELEMENTDATA S_o_DEFAULTCAPACITY_EMPTY_ELEMENTDATA E_o_DEFAULTCAPACITY_EMPTY_ELEMENTDATA S_o_COMPACT_STRINGS S_o_SIOOBE_FORMATTER S_o_H2 E_o_H2 S_o_SQLITE E_o_SQLITE S_o_DUCKDB E_o_DUCKDB S_o_HSQLDB E_o_HSQLDB F_o_H2_windowAggregates F_o_SQLITE_windowAggregates F_o_DUCKDB_windowAggregates F_o_HSQLDB_windowAggregates nz_o_COMPACT_STRINGS ir_o_SIOOBE_FORMATTER u
  · exact rm0_1 l Z a0 hw ws p1 o_EMPTY_ELEMENTDATA o_DEFAULTCAPACITY_EMPTY_ELEMENTDATA o_COMPACT_STRINGS o_SIOOBE_FORMATTER o_H2 o_SQLITE o_DUCKDB o_HSQLDB h0 n0 O0 S_o_EMPTY_ELEMENTDATA E_o_EMPTY_ELEMENTDATA S_o_DEFAULTCAPACITY_EMPTY_ELEMENTDATA E_o_DEFAULTCAPACITY_EMPTY_ELEMENTDATA S_o_COMPACT_STRINGS S_o_SIOOBE_FORMATTER S_o_H2 E_o_H2 S_o_SQLITE E_o_SQLITE S_o_DUCKDB E_o_DUCKDB S_o_HSQLDB E_o_HSQLDB F_o_H2_windowAggregates F_o_SQLITE_windowAggregates F_o_DUCKDB_windowAggregates F_o_HSQLDB_windowAggregates nz_o_COMPACT_STRINGS ir_o_SIOOBE_FORMATTER u
  · exact rm0_2 l Z a0 hw ws p1 o_EMPTY_ELEMENTDATA o_DEFAULTCAPACITY_EMPTY_ELEMENTDATA o_COMPACT_STRINGS o_SIOOBE_FORMATTER o_H2 o_SQLITE o_DUCKDB o_HSQLDB h0 n0 O0 S_o_EMPTY_ELEMENTDATA E_o_EMPTY_ELEMENTDATA S_o_DEFAULTCAPACITY_EMPTY_ELEMENTDATA E_o_DEFAULTCAPACITY_EMPTY_ELEMENTDATA S_o_COMPACT_STRINGS S_o_SIOOBE_FORMATTER S_o_H2 E_o_H2 S_o_SQLITE E_o_SQLITE S_o_DUCKDB E_o_DUCKDB S_o_HSQLDB E_o_HSQLDB F_o_H2_windowAggregates F_o_SQLITE_windowAggregates F_o_DUCKDB_windowAggregates F_o_HSQLDB_windowAggregates nz_o_COMPACT_STRINGS ir_o_SIOOBE_FORMATTER u
  · exact rm0_3 l Z a0 hw ws p1 o_EMPTY_ELEMENTDATA o_DEFAULTCAPACITY_EMPTY_ELEMENTDATA o_COMPACT_STRINGS o_SIOOBE_FORMATTER o_H2 o_SQLITE o_DUCKDB o_HSQLDB h0 n0 O0 S_o_EMPTY_ELEMENTDATA E_o_EMPTY_ELEMENTDATA S_o_DEFAULTCAPACITY_EMPTY_ELEMENTDATA E_o_DEFAULTCAPACITY_EMPTY_ELEMENTDATA S_o_COMPACT_STRINGS S_o_SIOOBE_FORMATTER S_o_H2 E_o_H2 S_o_SQLITE E_o_SQLITE S_o_DUCKDB E_o_DUCKDB S_o_HSQLDB E_o_HSQLDB F_o_H2_windowAggregates F_o_SQLITE_windowAggregates F_o_DUCKDB_windowAggregates F_o_HSQLDB_windowAggregates nz_o_COMPACT_STRINGS ir_o_SIOOBE_FORMATTER u
set_option maxRecDepth 65536 in
set_option maxHeartbeats 40000000 in
theorem comes_1 {Post : Tables → Env → Array Value → State → Outcome → State → Prop} (hpost : ∀ tb e args s v u, (limb_1_1.after args s (.returned v) u = true ∧ limb_1_2.after args s (.returned v) u = true ∧ True) → FrameEnd s (.returned v) u (Jvm.fieldLocs frame_1_writes args s ++ Jvm.arrayLocs frame_1_arrays args s ++ Jvm.staticLocs frame_1_statics s) 32 192 → Post tb e args s (.returned v) u) :
    ArmFor flags0 classFile x code maxLocals ret World_1 tables_1 room_1 Calls_1 rest_1 Pre_1 Post := by
  intro l hfl _ _ p e ha hc hk s m args below hf hA hF happ hP
  obtain ⟨hcalls, hrest, hpre⟩ := hP
  obtain ⟨-, -, -, hnamed, -, -, -, hat⟩ := (Spec.applies_iff hf).mp happ
  obtain ⟨hg, hn⟩ := and_e (Cond.before_iff.mp (show (Jvm.Cond.and given_1 narrow_1).before args s = true from hpre))
  obtain ⟨hg0, hg1⟩ := and_e hg
  obtain ⟨w0, rfl⟩ : ∃ w0 : Value, args = #[w0] := by
    have hs : args.size = 1 := by simpa [Cond.value, given_1] using hg0
    obtain ⟨L⟩ := args
    match L, hs with
    | [w0], _ => exact ⟨w0, rfl⟩
  have hw := fun d (hd : d ∈ tables_1) => atoms_spec (ws := Jvm.Cond.code x code maxLocals ret :: tables_1) hat d (List.mem_cons_of_mem _ hd)
  have W := fun (i : Nat) {c : Jvm.Cond} (q : tables_1[i]? = some c) => hw c (List.mem_of_getElem? q)
  have hfit : Fit s := fun {y c} hc i hi => by
    obtain ⟨ha, rfl⟩ := Array.getElem?_eq_some_iff.mp hc
    have q := List.all_eq_true.mp ((Array.all_eq_true_iff_forall_mem.mp hF) _ (Array.getElem_mem ha)) i (List.mem_range.mpr hi)
    simpa [Array.getElem?_eq_getElem hi] using q
  obtain ⟨hsets, hown0⟩ := atoms_of _ (rest_1_c_eq ▸ (show rest_1_c.before _ s = true from hrest))
  have hr0 := Cond.before_iff.mp hown0
  obtain ⟨i0, ei0⟩ := is_v hg1
  obtain rfl : w0 = (.int i0) := Option.some.inj ei0
  obtain ⟨o_EMPTY_ELEMENTDATA, ev_o_EMPTY_ELEMENTDATA⟩ := exa_v (Cond.before_iff.mp (hsets _ (List.mem_of_getElem? (i := 4) rfl)))
  have S_o_EMPTY_ELEMENTDATA := Sta.start ev_o_EMPTY_ELEMENTDATA (Or.inl (hsets _ (List.mem_of_getElem? (i := 1) rfl)))
  have E_o_EMPTY_ELEMENTDATA := Exa.start ev_o_EMPTY_ELEMENTDATA (Cond.before_iff.mp (hsets _ (List.mem_of_getElem? (i := 4) rfl)))
  obtain ⟨o_DEFAULTCAPACITY_EMPTY_ELEMENTDATA, ev_o_DEFAULTCAPACITY_EMPTY_ELEMENTDATA⟩ := exa_v (Cond.before_iff.mp (hsets _ (List.mem_of_getElem? (i := 7) rfl)))
  have S_o_DEFAULTCAPACITY_EMPTY_ELEMENTDATA := Sta.start ev_o_DEFAULTCAPACITY_EMPTY_ELEMENTDATA (Or.inr ⟨(W 12 rfl), (hsets _ (List.mem_of_getElem? (i := 2) rfl))⟩)
  have E_o_DEFAULTCAPACITY_EMPTY_ELEMENTDATA := Exa.start ev_o_DEFAULTCAPACITY_EMPTY_ELEMENTDATA (Cond.before_iff.mp (hsets _ (List.mem_of_getElem? (i := 7) rfl)))
  obtain ⟨o_COMPACT_STRINGS, ev_o_COMPACT_STRINGS⟩ := is_v (Cond.before_iff.mp (hsets _ (List.mem_of_getElem? (i := 10) rfl)))
  have S_o_COMPACT_STRINGS := Sta.start ev_o_COMPACT_STRINGS (Or.inl (hsets _ (List.mem_of_getElem? (i := 9) rfl)))
  have nz_o_COMPACT_STRINGS : ¬ (o_COMPACT_STRINGS = (0 : Int32)) := own_neI ev_o_COMPACT_STRINGS (Cond.before_iff.mp (hsets _ (List.mem_of_getElem? (i := 11) rfl)))
  obtain ⟨o_SIOOBE_FORMATTER, ev_o_SIOOBE_FORMATTER, ir_o_SIOOBE_FORMATTER⟩ := isR_v (Cond.before_iff.mp (hsets _ (List.mem_of_getElem? (i := 17) rfl)))
  have S_o_SIOOBE_FORMATTER := Sta.start ev_o_SIOOBE_FORMATTER (Or.inl (hsets _ (List.mem_of_getElem? (i := 16) rfl)))
  obtain ⟨hn0, hr0⟩ := and_e hn
  obtain ⟨hn1, hr1⟩ := and_e hr0
  obtain ⟨hn2, hr2⟩ := and_e hr1
  obtain ⟨hn3, hr3⟩ := and_e hr2
  obtain ⟨hn4, hr4⟩ := and_e hr3
  obtain ⟨hn5, hr5⟩ := and_e hr4
  obtain ⟨hn6, hn7⟩ := and_e hr5
  obtain ⟨o_H2, ev_o_H2⟩ := exa_v hn0
  have S_o_H2 := Sta.start ev_o_H2 (Or.inr ⟨(W 5 rfl), (W 6 rfl)⟩)
  have E_o_H2 := Exa.start ev_o_H2 hn0
  obtain ⟨o_SQLITE, ev_o_SQLITE⟩ := exa_v hn2
  have S_o_SQLITE := Sta.start ev_o_SQLITE (Or.inr ⟨(W 5 rfl), (W 244 rfl)⟩)
  have E_o_SQLITE := Exa.start ev_o_SQLITE hn2
  obtain ⟨o_DUCKDB, ev_o_DUCKDB⟩ := exa_v hn4
  have S_o_DUCKDB := Sta.start ev_o_DUCKDB (Or.inr ⟨(W 5 rfl), (W 246 rfl)⟩)
  have E_o_DUCKDB := Exa.start ev_o_DUCKDB hn4
  obtain ⟨o_HSQLDB, ev_o_HSQLDB⟩ := exa_v hn6
  have S_o_HSQLDB := Sta.start ev_o_HSQLDB (Or.inr ⟨(W 5 rfl), (W 248 rfl)⟩)
  have E_o_HSQLDB := Exa.start ev_o_HSQLDB hn6
  have F_o_H2_windowAggregates := Fld.start ((fld_at ev_o_H2).symm.trans (own_eqI hn1))
  have F_o_SQLITE_windowAggregates := Fld.start ((fld_at ev_o_SQLITE).symm.trans (own_eqI hn3))
  have F_o_DUCKDB_windowAggregates := Fld.start ((fld_at ev_o_DUCKDB).symm.trans (own_eqI hn5))
  have F_o_HSQLDB_windowAggregates := Fld.start ((fld_at ev_o_HSQLDB).symm.trans (own_eqI hn7))
  obtain ⟨n, o, h1, h2, h3, _, L, rfl, ⟨rfl, N⟩, hq⟩ := rm0 l s _ hw tables_1 i0 o_EMPTY_ELEMENTDATA o_DEFAULTCAPACITY_EMPTY_ELEMENTDATA o_COMPACT_STRINGS o_SIOOBE_FORMATTER o_H2 o_SQLITE o_DUCKDB o_HSQLDB s.heap s.heap.size (Old.start s) S_o_EMPTY_ELEMENTDATA E_o_EMPTY_ELEMENTDATA S_o_DEFAULTCAPACITY_EMPTY_ELEMENTDATA E_o_DEFAULTCAPACITY_EMPTY_ELEMENTDATA S_o_COMPACT_STRINGS S_o_SIOOBE_FORMATTER S_o_H2 E_o_H2 S_o_SQLITE E_o_SQLITE S_o_DUCKDB E_o_DUCKDB S_o_HSQLDB E_o_HSQLDB F_o_H2_windowAggregates F_o_SQLITE_windowAggregates F_o_DUCKDB_windowAggregates F_o_HSQLDB_windowAggregates nz_o_COMPACT_STRINGS ir_o_SIOOBE_FORMATTER p e ha hc hk s m _ below hf ((Spec.applies_iff_loose hf).mp happ).1 ⟨rfl, State.Warmed39.refl s, rfl⟩ trivial
  refine ⟨n, _, h1, h2, h3, hpost _ _ _ _ _ _ ⟨Cond.after_iff.mpr rfl, Cond.after_iff.mpr (eq_i res_at (Term.int_eval (1)) rfl), trivial⟩ ⟨hq.1, hq.2.1, (hq.2.2.sift fun y hy => Or.inr (N y hy)).mono (by decide) (by decide)⟩⟩
theorem main_1_1 : Claimed_1_1 := comes_1 fun _ _ _ _ _ _ h hF => ⟨h.1, hF⟩
theorem main_1_2 : Claimed_1_2 := comes_1 fun _ _ _ _ _ _ h hF => ⟨h.2.1, hF⟩
end Jvm.Pilot.@@N@@
namespace Jvm.Pilot.@@N@@
open Jvm Jvm.ClassFile Sem Op Lib Jvm.Free Jvm.Stand Jvm.Pilot.@@N@@.Jvm.D
/-! MADE BY PROGRAM (witnessworld.py) out of the Statement's table words and the real class files: 45 classes; the members and pool entries that the words name. The judged class is class 1, her method 2. -/
namespace start1
open Jvm.ClassFile
def u (s : String) : CpInfo := .utf8 (stringToUtf16 s)
/-- a pool by its gaps: so many unusable entries, then the entry; so many at the end -/
def gap : Nat → List CpInfo → List CpInfo
  | 0, r => r
  | n + 1, r => .unusable :: gap n r
def poolList (es : List (Nat × CpInfo)) (last : Nat) : List CpInfo := es.foldr (fun e r => gap e.1 (e.2 :: r)) (gap last [])
def pool (es : List (Nat × CpInfo)) (last : Nat) : Array CpInfo := ⟨poolList es last⟩
def fileOf (pool : Array CpInfo) (this : Nat) (attrs : Array Attribute := #[]) (ms : Array MethodInfo := #[]) (fl : Nat := 33) (sup : Nat := 0) (ifs : Array Nat := #[]) (fds : Array FieldInfo := #[]) : ClassFile where
  minorVersion := 0
  majorVersion := 65
  constantPool := pool
  accessFlags := fl
  thisClass := this
  superClass := sup
  interfaces := ifs
  fields := fds
  methods := ms
  attributes := attrs
def plain (name : String) (sup : Option ClassId) : Class where
  name := name
  kind := .ordinary
  loader := none
  accessFlags := 33
  super := sup
  interfaces := #[]
  cf := none
  fields := #[]
  methods := #[]
  instanceTypes := #[]
  staticTypes := #[]
  resolved := #[]
  callSites := []
  init := .initialized
  statics := none
  mirror := none

def pool0 : Array CpInfo := pool [(5, u "<init>"), (0, u "()V"), (1, .class_ 10), (1, u "java/lang/Object")] 113

def k0c0 : Code := { maxStack := 0, maxLocals := 1, code := object_method_1_code, exceptionTable := #[], attributes := #[] }
def k0m0 : Method := { name := "<init>", desc := "()V", sig := { parameters := [], returnType := none }, accessFlags := 1, code := some k0c0 }
/-- java/lang/Object -/
def k0 : Class := { plain "java/lang/Object" none with
  accessFlags := 33
  interfaces := #[]
  cf := some (fileOf pool0 8 #[] #[{ accessFlags := 1, nameIndex := 5, descriptorIndex := 6, attributes := #[] }] 33 0 #[] #[])
  fields := #[]
  methods := #[k0m0]
  instanceTypes := #[]
  staticTypes := #[]
  resolved := Array.replicate 124 none
  statics := none }

def pool1 : Array CpInfo := pool [(2, .class_ 4), (0, .nameAndType 5 6), (0, u "java/lang/Object"), (0, u "<init>"), (0, u "()V"), (0, .fieldref 8 9), (0, .class_ 10), (0, .nameAndType 11 12), (0, u "com/example/temporal_query_rewriter/temporalqueryrewriter/Engine"), (0, u "H2"), (0, u "Lcom/example/temporal_query_rewriter/temporalqueryrewriter/Engine;"), (0, .fieldref 8 14), (0, .nameAndType 15 12), (0, u "HSQLDB"), (0, .fieldref 8 17), (0, .nameAndType 18 12), (0, u "DUCKDB"), (0, .fieldref 8 20), (0, .nameAndType 21 12), (0, u "SQLITE"), (0, .methodref 23 24), (0, .class_ 25), (0, .nameAndType 26 27), (0, u "com/example/temporal_query_rewriter/temporalqueryrewriter/IslandsOfPinLaw"), (0, u "engineAt"), (0, u "(I)Lcom/example/temporal_query_rewriter/temporalqueryrewriter/Engine;"), (0, .class_ 29), (0, u "com/example/temporal_query_rewriter/temporalqueryrewriter/WithQuery"), (0, .class_ 31), (0, u "java/util/ArrayList"), (0, .methodref 30 3), (0, .methodref 28 34), (0, .nameAndType 5 35), (0, u "(Ljava/util/Collection;Lcom/example/temporal_query_rewriter/temporalqueryrewriter/Engine;)V"), (0, .interfaceMethodref 37 38), (0, .class_ 39), (0, .nameAndType 40 41), (0, u "com/example/temporal_query_rewriter/temporalqueryrewriter/Islands"), (0, u "of"), (0, u "(Lcom/example/temporal_query_rewriter/temporalqueryrewriter/Engine;Lcom/example/temporal_query_rewriter/temporalqueryrewriter/WithQuery;)Lcom/example/temporal_query_rewriter/temporalqueryrewriter/Islands;"), (0, .class_ 43), (0, u "com/example/temporal_query_rewriter/temporalqueryrewriter/SortedIslands"), (0, .class_ 45), (0, u "com/example/temporal_query_rewriter/temporalqueryrewriter/WindowIslands"), (0, .methodref 28 47), (0, .nameAndType 48 49), (0, u "toString"), (0, u "()Ljava/lang/String;"), (0, .methodref 51 52), (0, .class_ 53), (0, .nameAndType 54 55), (0, u "java/lang/String"), (0, u "isEmpty"), (0, u "()Z"), (3, u "law"), (0, u "(I)Z")] 2

def k1m0 : Method := { name := "<init>", desc := "()V", sig := { parameters := [], returnType := none }, accessFlags := 2, code := none }
def k1c1 : Code := { maxStack := 2, maxLocals := 1, code := method_2_code, exceptionTable := #[], attributes := #[] }
def k1m1 : Method := { name := "engineAt", desc := "(I)Lcom/example/temporal_query_rewriter/temporalqueryrewriter/Engine;", sig := { parameters := [.int], returnType := some (.object "com/example/temporal_query_rewriter/temporalqueryrewriter/Engine") }, accessFlags := 10, code := some k1c1 }
def k1c2 : Code := { maxStack := 4, maxLocals := 8, code := code, exceptionTable := #[], attributes := #[] }
def k1m2 : Method := { name := "law", desc := "(I)Z", sig := { parameters := [.int], returnType := some .boolean }, accessFlags := 9, code := some k1c2 }
/-- com/example/temporal_query_rewriter/temporalqueryrewriter/IslandsOfPinLaw -/
def k1 : Class := { plain "com/example/temporal_query_rewriter/temporalqueryrewriter/IslandsOfPinLaw" (some 0) with
  accessFlags := 49
  interfaces := #[]
  cf := some (fileOf pool1 23 #[] #[{ accessFlags := 2, nameIndex := 5, descriptorIndex := 6, attributes := #[] }, { accessFlags := 10, nameIndex := 26, descriptorIndex := 27, attributes := #[] }, { accessFlags := 9, nameIndex := 59, descriptorIndex := 60, attributes := #[] }] 49 2 #[] #[])
  fields := #[]
  methods := #[k1m0, k1m1, k1m2]
  instanceTypes := #[]
  staticTypes := #[]
  resolved := Array.replicate 63 none
  statics := none }

def pool2 : Array CpInfo := pool [(1, .class_ 2), (0, u "java/lang/constant/Constable"), (0, .class_ 4), (0, u "java/lang/Object")] 6

/-- java/lang/constant/Constable -/
def k2 : Class := { plain "java/lang/constant/Constable" (some 0) with
  accessFlags := 1537
  interfaces := #[]
  cf := some (fileOf pool2 1 #[] #[] 1537 3 #[] #[])
  fields := #[]
  methods := #[]
  instanceTypes := #[]
  staticTypes := #[]
  resolved := Array.replicate 11 none
  statics := none }

def pool3 : Array CpInfo := pool [(1, .class_ 2), (0, u "java/lang/Comparable"), (0, .class_ 4), (0, u "java/lang/Object")] 7

/-- java/lang/Comparable -/
def k3 : Class := { plain "java/lang/Comparable" (some 0) with
  accessFlags := 1537
  interfaces := #[]
  cf := some (fileOf pool3 1 #[] #[] 1537 3 #[] #[])
  fields := #[]
  methods := #[]
  instanceTypes := #[]
  staticTypes := #[]
  resolved := Array.replicate 12 none
  statics := none }

def pool4 : Array CpInfo := pool [(1, .class_ 2), (0, u "java/io/Serializable"), (0, .class_ 4), (0, u "java/lang/Object")] 2

/-- java/io/Serializable -/
def k4 : Class := { plain "java/io/Serializable" (some 0) with
  accessFlags := 1537
  interfaces := #[]
  cf := some (fileOf pool4 1 #[] #[] 1537 3 #[] #[])
  fields := #[]
  methods := #[]
  instanceTypes := #[]
  staticTypes := #[]
  resolved := Array.replicate 7 none
  statics := none }

def pool5 : Array CpInfo := pool [(2, .class_ 4), (1, u "java/lang/Enum"), (0, u "name"), (0, u "Ljava/lang/String;"), (2, u "ordinal"), (0, u "I"), (1, .class_ 14), (1, u "java/lang/Object"), (4, u "hash"), (86, .class_ 108), (1, u "java/lang/Enum$EnumDesc"), (2, .class_ 112), (0, u "java/lang/constant/Constable"), (0, .class_ 114), (0, u "java/lang/Comparable"), (0, .class_ 116), (0, u "java/io/Serializable")] 87

/-- java/lang/Enum -/
def k5 : Class := { plain "java/lang/Enum" (some 0) with
  accessFlags := 1057
  interfaces := #[2, 3, 4]
  cf := some (fileOf pool5 2 #[.nestMembers #[106]] #[] 1057 12 #[111, 113, 115] #[{ accessFlags := 18, nameIndex := 5, descriptorIndex := 6, attributes := #[] }, { accessFlags := 18, nameIndex := 9, descriptorIndex := 10, attributes := #[] }, { accessFlags := 2, nameIndex := 19, descriptorIndex := 10, attributes := #[] }])
  fields := #[{ name := "name", type := (.object "java/lang/String"), accessFlags := 18, slot := 0, constantValue := 0 }, { name := "ordinal", type := .int, accessFlags := 18, slot := 1, constantValue := 0 }, { name := "hash", type := .int, accessFlags := 2, slot := 2, constantValue := 0 }]
  methods := #[]
  instanceTypes := #[(.object "java/lang/String"), .int, .int]
  staticTypes := #[]
  resolved := Array.replicate 204 none
  statics := none }

def pool6 : Array CpInfo := pool [(1, .class_ 2), (0, u "com/example/temporal_query_rewriter/temporalqueryrewriter/Engine"), (2, u "H2"), (0, u "Lcom/example/temporal_query_rewriter/temporalqueryrewriter/Engine;"), (2, u "HSQLDB"), (2, u "DUCKDB"), (2, u "SQLITE"), (2, u "$VALUES"), (0, u "[Lcom/example/temporal_query_rewriter/temporalqueryrewriter/Engine;"), (6, .class_ 28), (1, u "java/lang/Enum"), (8, u "productName"), (0, u "Ljava/lang/String;"), (2, u "dayAfter"), (2, u "dayBefore"), (2, u "materializing"), (0, u "Z"), (0, .fieldref 1 50), (0, .nameAndType 51 48), (0, u "windowAggregates"), (2, u "looksUpJoins"), (2, u "arrayLimit"), (0, u "I"), (2, u "places"), (2, u "numbers"), (105, u "()Z")] 27

def k6c0 : Code := { maxStack := 1, maxLocals := 1, code := prog_4_method_8_code, exceptionTable := #[], attributes := #[] }
def k6m0 : Method := { name := "windowAggregates", desc := "()Z", sig := { parameters := [], returnType := some .boolean }, accessFlags := 0, code := some k6c0 }
/-- com/example/temporal_query_rewriter/temporalqueryrewriter/Engine -/
def k6 : Class := { plain "com/example/temporal_query_rewriter/temporalqueryrewriter/Engine" (some 5) with
  accessFlags := 16432
  interfaces := #[]
  cf := some (fileOf pool6 1 #[] #[{ accessFlags := 0, nameIndex := 51, descriptorIndex := 170, attributes := #[] }] 16432 26 #[] #[{ accessFlags := 16409, nameIndex := 5, descriptorIndex := 6, attributes := #[] }, { accessFlags := 16409, nameIndex := 9, descriptorIndex := 6, attributes := #[] }, { accessFlags := 16409, nameIndex := 12, descriptorIndex := 6, attributes := #[] }, { accessFlags := 16409, nameIndex := 15, descriptorIndex := 6, attributes := #[] }, { accessFlags := 18, nameIndex := 37, descriptorIndex := 38, attributes := #[] }, { accessFlags := 18, nameIndex := 41, descriptorIndex := 38, attributes := #[] }, { accessFlags := 18, nameIndex := 44, descriptorIndex := 38, attributes := #[] }, { accessFlags := 18, nameIndex := 47, descriptorIndex := 48, attributes := #[] }, { accessFlags := 18, nameIndex := 51, descriptorIndex := 48, attributes := #[] }, { accessFlags := 18, nameIndex := 54, descriptorIndex := 48, attributes := #[] }, { accessFlags := 18, nameIndex := 57, descriptorIndex := 58, attributes := #[] }, { accessFlags := 18, nameIndex := 61, descriptorIndex := 38, attributes := #[] }, { accessFlags := 18, nameIndex := 64, descriptorIndex := 38, attributes := #[] }, { accessFlags := 4122, nameIndex := 18, descriptorIndex := 19, attributes := #[] }])
  fields := #[{ name := "H2", type := (.object "com/example/temporal_query_rewriter/temporalqueryrewriter/Engine"), accessFlags := 16409, slot := 0, constantValue := 0 }, { name := "HSQLDB", type := (.object "com/example/temporal_query_rewriter/temporalqueryrewriter/Engine"), accessFlags := 16409, slot := 1, constantValue := 0 }, { name := "DUCKDB", type := (.object "com/example/temporal_query_rewriter/temporalqueryrewriter/Engine"), accessFlags := 16409, slot := 2, constantValue := 0 }, { name := "SQLITE", type := (.object "com/example/temporal_query_rewriter/temporalqueryrewriter/Engine"), accessFlags := 16409, slot := 3, constantValue := 0 }, { name := "productName", type := (.object "java/lang/String"), accessFlags := 18, slot := 3, constantValue := 0 }, { name := "dayAfter", type := (.object "java/lang/String"), accessFlags := 18, slot := 4, constantValue := 0 }, { name := "dayBefore", type := (.object "java/lang/String"), accessFlags := 18, slot := 5, constantValue := 0 }, { name := "materializing", type := .boolean, accessFlags := 18, slot := 6, constantValue := 0 }, { name := "windowAggregates", type := .boolean, accessFlags := 18, slot := 7, constantValue := 0 }, { name := "looksUpJoins", type := .boolean, accessFlags := 18, slot := 8, constantValue := 0 }, { name := "arrayLimit", type := .int, accessFlags := 18, slot := 9, constantValue := 0 }, { name := "places", type := (.object "java/lang/String"), accessFlags := 18, slot := 10, constantValue := 0 }, { name := "numbers", type := (.object "java/lang/String"), accessFlags := 18, slot := 11, constantValue := 0 }, { name := "$VALUES", type := (.array (.object "com/example/temporal_query_rewriter/temporalqueryrewriter/Engine")), accessFlags := 4122, slot := 4, constantValue := 0 }]
  methods := #[k6m0]
  instanceTypes := #[(.object "java/lang/String"), .int, .int, (.object "java/lang/String"), (.object "java/lang/String"), (.object "java/lang/String"), .boolean, .boolean, .boolean, .int, (.object "java/lang/String"), (.object "java/lang/String")]
  staticTypes := #[(.object "com/example/temporal_query_rewriter/temporalqueryrewriter/Engine"), (.object "com/example/temporal_query_rewriter/temporalqueryrewriter/Engine"), (.object "com/example/temporal_query_rewriter/temporalqueryrewriter/Engine"), (.object "com/example/temporal_query_rewriter/temporalqueryrewriter/Engine"), (.array (.object "com/example/temporal_query_rewriter/temporalqueryrewriter/Engine"))]
  resolved := Array.replicate 198 none
  statics := some 0 }

def pool7 : Array CpInfo := pool [(1, .methodref 2 3), (0, .class_ 4), (0, .nameAndType 5 6), (0, u "java/lang/Object"), (0, u "<init>"), (0, u "()V"), (0, .class_ 8), (0, u "java/lang/StringBuilder"), (0, .methodref 7 3), (0, .fieldref 11 12), (0, .class_ 13), (0, .nameAndType 14 15), (0, u "com/example/temporal_query_rewriter/temporalqueryrewriter/WithQuery"), (0, u "sql"), (0, u "Ljava/lang/StringBuilder;"), (0, .class_ 17), (0, u "java/util/HashSet"), (0, .methodref 16 3), (0, .fieldref 11 20), (0, .nameAndType 21 22), (0, u "taken"), (0, u "Ljava/util/Set;"), (0, .class_ 24), (0, u "java/util/HashMap"), (0, .methodref 23 3), (0, .fieldref 11 27), (0, .nameAndType 28 29), (0, u "counts"), (0, u "Ljava/util/Map;"), (0, .fieldref 11 31), (0, .nameAndType 32 33), (0, u "engine"), (0, u "Lcom/example/temporal_query_rewriter/temporalqueryrewriter/Engine;"), (0, .interfaceMethodref 35 36), (0, .class_ 37), (0, .nameAndType 38 39), (0, u "java/util/Set"), (0, u "addAll"), (0, u "(Ljava/util/Collection;)Z"), (104, .methodref 7 145), (0, .nameAndType 146 147), (0, u "toString"), (0, u "()Ljava/lang/String;"), (0, u "UNION_ALL"), (0, u "Ljava/lang/String;"), (3, u "UNION"), (2, u "UNION_WIDTH"), (0, u "I"), (4, u "(Ljava/util/Collection;Lcom/example/temporal_query_rewriter/temporalqueryrewriter/Engine;)V")] 41

def k7c0 : Code := { maxStack := 3, maxLocals := 3, code := prog_65_method_1_code, exceptionTable := #[], attributes := #[] }
def k7m0 : Method := { name := "<init>", desc := "(Ljava/util/Collection;Lcom/example/temporal_query_rewriter/temporalqueryrewriter/Engine;)V", sig := { parameters := [(.object "java/util/Collection"), (.object "com/example/temporal_query_rewriter/temporalqueryrewriter/Engine")], returnType := none }, accessFlags := 0, code := some k7c0 }
def k7c1 : Code := { maxStack := 1, maxLocals := 1, code := prog_65_method_7_code, exceptionTable := #[], attributes := #[] }
def k7m1 : Method := { name := "toString", desc := "()Ljava/lang/String;", sig := { parameters := [], returnType := some (.object "java/lang/String") }, accessFlags := 1, code := some k7c1 }
/-- com/example/temporal_query_rewriter/temporalqueryrewriter/WithQuery -/
def k7 : Class := { plain "com/example/temporal_query_rewriter/temporalqueryrewriter/WithQuery" (some 0) with
  accessFlags := 48
  interfaces := #[]
  cf := some (fileOf pool7 11 #[] #[{ accessFlags := 0, nameIndex := 5, descriptorIndex := 162, attributes := #[] }, { accessFlags := 1, nameIndex := 146, descriptorIndex := 147, attributes := #[] }] 48 2 #[] #[{ accessFlags := 24, nameIndex := 148, descriptorIndex := 149, attributes := #[] }, { accessFlags := 24, nameIndex := 153, descriptorIndex := 149, attributes := #[] }, { accessFlags := 26, nameIndex := 156, descriptorIndex := 157, attributes := #[] }, { accessFlags := 18, nameIndex := 32, descriptorIndex := 33, attributes := #[] }, { accessFlags := 18, nameIndex := 14, descriptorIndex := 15, attributes := #[] }, { accessFlags := 18, nameIndex := 21, descriptorIndex := 22, attributes := #[] }, { accessFlags := 18, nameIndex := 28, descriptorIndex := 29, attributes := #[] }])
  fields := #[{ name := "UNION_ALL", type := (.object "java/lang/String"), accessFlags := 24, slot := 0, constantValue := 0 }, { name := "UNION", type := (.object "java/lang/String"), accessFlags := 24, slot := 1, constantValue := 0 }, { name := "UNION_WIDTH", type := .int, accessFlags := 26, slot := 2, constantValue := 0 }, { name := "engine", type := (.object "com/example/temporal_query_rewriter/temporalqueryrewriter/Engine"), accessFlags := 18, slot := 0, constantValue := 0 }, { name := "sql", type := (.object "java/lang/StringBuilder"), accessFlags := 18, slot := 1, constantValue := 0 }, { name := "taken", type := (.object "java/util/Set"), accessFlags := 18, slot := 2, constantValue := 0 }, { name := "counts", type := (.object "java/util/Map"), accessFlags := 18, slot := 3, constantValue := 0 }]
  methods := #[k7m0, k7m1]
  instanceTypes := #[(.object "com/example/temporal_query_rewriter/temporalqueryrewriter/Engine"), (.object "java/lang/StringBuilder"), (.object "java/util/Set"), (.object "java/util/Map")]
  staticTypes := #[(.object "java/lang/String"), (.object "java/lang/String"), .int]
  resolved := Array.replicate 204 none
  statics := none }

def pool8 : Array CpInfo := pool [(8, .class_ 10), (1, u "java/lang/Iterable"), (24, .class_ 36), (0, u "java/lang/Object")] 25

/-- java/lang/Iterable -/
def k8 : Class := { plain "java/lang/Iterable" (some 0) with
  accessFlags := 1537
  interfaces := #[]
  cf := some (fileOf pool8 8 #[] #[] 1537 35 #[] #[])
  fields := #[]
  methods := #[]
  instanceTypes := #[]
  staticTypes := #[]
  resolved := Array.replicate 62 none
  statics := none }

def pool9 : Array CpInfo := pool [(10, .class_ 12), (1, u "java/util/Collection"), (10, u "iterator"), (0, u "()Ljava/util/Iterator;"), (35, .class_ 61), (0, u "java/lang/Object"), (0, .class_ 63), (0, u "java/lang/Iterable")] 51

def k9m0 : Method := { name := "iterator", desc := "()Ljava/util/Iterator;", sig := { parameters := [], returnType := some (.object "java/util/Iterator") }, accessFlags := 1025, code := none }
/-- java/util/Collection -/
def k9 : Class := { plain "java/util/Collection" (some 0) with
  accessFlags := 1537
  interfaces := #[8]
  cf := some (fileOf pool9 10 #[] #[{ accessFlags := 1025, nameIndex := 23, descriptorIndex := 24, attributes := #[] }] 1537 60 #[62] #[])
  fields := #[]
  methods := #[k9m0]
  instanceTypes := #[]
  staticTypes := #[]
  resolved := Array.replicate 115 none
  statics := none }

def pool10 : Array CpInfo := pool [(1, .methodref 2 3), (0, .class_ 4), (0, .nameAndType 5 6), (0, u "java/lang/Object"), (0, u "<init>"), (0, u "()V"), (1, .class_ 10), (1, u "java/util/AbstractCollection"), (3, .nameAndType 15 16), (0, u "iterator"), (0, u "()Ljava/util/Iterator;"), (0, .interfaceMethodref 18 19), (0, .class_ 20), (0, .nameAndType 21 22), (0, u "java/util/Iterator"), (0, u "hasNext"), (0, u "()Z"), (53, .interfaceMethodref 77 14), (0, .class_ 78), (0, u "java/util/Collection"), (63, u "(Ljava/util/Collection;)Z"), (4, u "addAll")] 12

def k10c0 : Code := { maxStack := 1, maxLocals := 1, code := jdk_22_method_1_code, exceptionTable := #[], attributes := #[] }
def k10m0 : Method := { name := "<init>", desc := "()V", sig := { parameters := [], returnType := none }, accessFlags := 4, code := some k10c0 }
def k10c1 : Code := { maxStack := 2, maxLocals := 5, code := jdk_22_method_12_code, exceptionTable := #[], attributes := #[] }
def k10m1 : Method := { name := "addAll", desc := "(Ljava/util/Collection;)Z", sig := { parameters := [(.object "java/util/Collection")], returnType := some .boolean }, accessFlags := 1, code := some k10c1 }
/-- java/util/AbstractCollection -/
def k10 : Class := { plain "java/util/AbstractCollection" (some 0) with
  accessFlags := 1057
  interfaces := #[9]
  cf := some (fileOf pool10 8 #[] #[{ accessFlags := 4, nameIndex := 5, descriptorIndex := 6, attributes := #[] }, { accessFlags := 1, nameIndex := 147, descriptorIndex := 142, attributes := #[] }] 1057 2 #[77] #[])
  fields := #[]
  methods := #[k10m0, k10m1]
  instanceTypes := #[]
  staticTypes := #[]
  resolved := Array.replicate 160 none
  statics := none }

def pool11 : Array CpInfo := pool [(8, .class_ 10), (1, u "java/util/SequencedCollection"), (15, .class_ 27), (0, u "java/lang/Object"), (0, .class_ 29), (0, u "java/util/Collection")] 27

/-- java/util/SequencedCollection -/
def k11 : Class := { plain "java/util/SequencedCollection" (some 0) with
  accessFlags := 1537
  interfaces := #[9]
  cf := some (fileOf pool11 8 #[] #[] 1537 26 #[28] #[])
  fields := #[]
  methods := #[]
  instanceTypes := #[]
  staticTypes := #[]
  resolved := Array.replicate 57 none
  statics := none }

def pool12 : Array CpInfo := pool [(8, .class_ 10), (1, u "java/util/List"), (92, .class_ 104), (0, u "java/lang/Object"), (15, .class_ 121), (0, u "java/util/SequencedCollection")] 129

/-- java/util/List -/
def k12 : Class := { plain "java/util/List" (some 0) with
  accessFlags := 1537
  interfaces := #[11]
  cf := some (fileOf pool12 8 #[] #[] 1537 103 #[120] #[])
  fields := #[]
  methods := #[]
  instanceTypes := #[]
  staticTypes := #[]
  resolved := Array.replicate 251 none
  statics := none }

def pool13 : Array CpInfo := pool [(1, .methodref 2 3), (0, .class_ 4), (0, .nameAndType 5 6), (0, u "java/util/AbstractCollection"), (0, u "<init>"), (0, u "()V"), (0, .fieldref 8 9), (0, .class_ 10), (0, .nameAndType 11 12), (0, u "java/util/AbstractList"), (0, u "modCount"), (0, u "I"), (64, .class_ 78), (0, u "java/util/AbstractList$Itr"), (3, .class_ 83), (0, u "java/util/AbstractList$ListItr"), (9, .class_ 94), (0, u "java/util/AbstractList$RandomAccessSubList"), (3, .class_ 99), (0, u "java/util/AbstractList$SubList"), (33, .class_ 134), (0, u "java/util/List"), (73, .class_ 209), (0, u "java/util/AbstractList$SubList$1"), (0, .class_ 211), (0, u "java/util/AbstractList$RandomAccessSpliterator")] 6

def k13c0 : Code := { maxStack := 2, maxLocals := 1, code := jdk_39_method_1_code, exceptionTable := #[], attributes := #[] }
def k13m0 : Method := { name := "<init>", desc := "()V", sig := { parameters := [], returnType := none }, accessFlags := 4, code := some k13c0 }
/-- java/util/AbstractList -/
def k13 : Class := { plain "java/util/AbstractList" (some 10) with
  accessFlags := 1057
  interfaces := #[12]
  cf := some (fileOf pool13 8 #[.nestMembers #[93, 98, 208, 210, 82, 77]] #[{ accessFlags := 4, nameIndex := 5, descriptorIndex := 6, attributes := #[] }] 1057 2 #[133] #[{ accessFlags := 132, nameIndex := 11, descriptorIndex := 12, attributes := #[] }])
  fields := #[{ name := "modCount", type := .int, accessFlags := 132, slot := 0, constantValue := 0 }]
  methods := #[k13m0]
  instanceTypes := #[.int]
  staticTypes := #[]
  resolved := Array.replicate 218 none
  statics := none }

def pool14 : Array CpInfo := pool [(1, .class_ 2), (0, u "java/util/RandomAccess"), (0, .class_ 4), (0, u "java/lang/Object")] 2

/-- java/util/RandomAccess -/
def k14 : Class := { plain "java/util/RandomAccess" (some 0) with
  accessFlags := 1537
  interfaces := #[]
  cf := some (fileOf pool14 1 #[] #[] 1537 3 #[] #[])
  fields := #[]
  methods := #[]
  instanceTypes := #[]
  staticTypes := #[]
  resolved := Array.replicate 7 none
  statics := none }

def pool15 : Array CpInfo := pool [(1, .class_ 2), (0, u "java/lang/Cloneable"), (0, .class_ 4), (0, u "java/lang/Object")] 2

/-- java/lang/Cloneable -/
def k15 : Class := { plain "java/lang/Cloneable" (some 0) with
  accessFlags := 1537
  interfaces := #[]
  cf := some (fileOf pool15 1 #[] #[] 1537 3 #[] #[])
  fields := #[]
  methods := #[]
  instanceTypes := #[]
  staticTypes := #[]
  resolved := Array.replicate 7 none
  statics := none }

def pool16 : Array CpInfo := pool [(1, .methodref 2 3), (0, .class_ 4), (0, .nameAndType 5 6), (0, u "java/util/AbstractList"), (0, u "<init>"), (0, u "()V"), (2, .fieldref 10 11), (0, .class_ 12), (0, .nameAndType 13 14), (0, u "java/util/ArrayList"), (0, u "elementData"), (0, u "[Ljava/lang/Object;"), (2, u "EMPTY_ELEMENTDATA"), (21, .fieldref 10 40), (0, .nameAndType 41 14), (0, u "DEFAULTCAPACITY_EMPTY_ELEMENTDATA"), (8, u "size"), (0, u "I"), (96, .class_ 149), (0, u "java/util/List"), (16, u "iterator"), (0, u "()Ljava/util/Iterator;"), (94, .class_ 263), (0, u "java/util/ArrayList$ListItr"), (3, .class_ 268), (0, u "java/util/ArrayList$Itr"), (0, .methodref 267 270), (0, .nameAndType 5 271), (0, u "(Ljava/util/ArrayList;)V"), (4, .class_ 277), (0, u "java/util/ArrayList$SubList"), (12, .class_ 291), (0, u "java/util/ArrayList$ArrayListSpliterator"), (37, .class_ 330), (0, u "java/util/RandomAccess"), (0, .class_ 332), (0, u "java/lang/Cloneable"), (0, .class_ 334), (0, u "java/io/Serializable"), (0, u "serialVersionUID"), (0, u "J"), (3, u "DEFAULT_CAPACITY"), (159, .class_ 501), (0, u "java/util/ArrayList$SubList$2"), (0, .class_ 503), (0, u "java/util/ArrayList$SubList$1")] 5

def k16c0 : Code := { maxStack := 2, maxLocals := 1, code := jdk_38_method_2_code, exceptionTable := #[], attributes := #[] }
def k16m0 : Method := { name := "<init>", desc := "()V", sig := { parameters := [], returnType := none }, accessFlags := 1, code := some k16c0 }
def k16c1 : Code := { maxStack := 3, maxLocals := 1, code := jdk_38_method_55_code, exceptionTable := #[], attributes := #[] }
def k16m1 : Method := { name := "iterator", desc := "()Ljava/util/Iterator;", sig := { parameters := [], returnType := some (.object "java/util/Iterator") }, accessFlags := 1, code := some k16c1 }
/-- java/util/ArrayList -/
def k16 : Class := { plain "java/util/ArrayList" (some 13) with
  accessFlags := 33
  interfaces := #[12, 14, 15, 4]
  cf := some (fileOf pool16 10 #[.nestMembers #[290, 276, 500, 502, 262, 267]] #[{ accessFlags := 1, nameIndex := 5, descriptorIndex := 6, attributes := #[] }, { accessFlags := 1, nameIndex := 166, descriptorIndex := 167, attributes := #[] }] 33 2 #[148, 329, 331, 333] #[{ accessFlags := 26, nameIndex := 335, descriptorIndex := 336, attributes := #[] }, { accessFlags := 26, nameIndex := 340, descriptorIndex := 51, attributes := #[] }, { accessFlags := 26, nameIndex := 17, descriptorIndex := 14, attributes := #[] }, { accessFlags := 26, nameIndex := 41, descriptorIndex := 14, attributes := #[] }, { accessFlags := 128, nameIndex := 13, descriptorIndex := 14, attributes := #[] }, { accessFlags := 2, nameIndex := 50, descriptorIndex := 51, attributes := #[] }])
  fields := #[{ name := "serialVersionUID", type := .long, accessFlags := 26, slot := 0, constantValue := 0 }, { name := "DEFAULT_CAPACITY", type := .int, accessFlags := 26, slot := 1, constantValue := 0 }, { name := "EMPTY_ELEMENTDATA", type := (.array (.object "java/lang/Object")), accessFlags := 26, slot := 2, constantValue := 0 }, { name := "DEFAULTCAPACITY_EMPTY_ELEMENTDATA", type := (.array (.object "java/lang/Object")), accessFlags := 26, slot := 3, constantValue := 0 }, { name := "elementData", type := (.array (.object "java/lang/Object")), accessFlags := 128, slot := 1, constantValue := 0 }, { name := "size", type := .int, accessFlags := 2, slot := 2, constantValue := 0 }]
  methods := #[k16m0, k16m1]
  instanceTypes := #[.int, (.array (.object "java/lang/Object")), .int]
  staticTypes := #[.long, .int, (.array (.object "java/lang/Object")), (.array (.object "java/lang/Object"))]
  resolved := Array.replicate 509 none
  statics := some 1 }

def pool17 : Array CpInfo := pool [(1, .class_ 2), (0, u "java/lang/Appendable"), (0, .class_ 4), (0, u "java/lang/Object")] 9

/-- java/lang/Appendable -/
def k17 : Class := { plain "java/lang/Appendable" (some 0) with
  accessFlags := 1537
  interfaces := #[]
  cf := some (fileOf pool17 1 #[] #[] 1537 3 #[] #[])
  fields := #[]
  methods := #[]
  instanceTypes := #[]
  staticTypes := #[]
  resolved := Array.replicate 14 none
  statics := none }

def pool18 : Array CpInfo := pool [(2, .class_ 4), (1, u "java/lang/CharSequence"), (42, .class_ 48), (0, u "java/lang/CharSequence$1CodePointIterator"), (10, .class_ 60), (0, u "java/lang/CharSequence$1CharIterator"), (5, .class_ 67), (0, u "java/lang/Object")] 63

/-- java/lang/CharSequence -/
def k18 : Class := { plain "java/lang/CharSequence" (some 0) with
  accessFlags := 1537
  interfaces := #[]
  cf := some (fileOf pool18 2 #[.nestMembers #[47, 59]] #[] 1537 66 #[] #[])
  fields := #[]
  methods := #[]
  instanceTypes := #[]
  staticTypes := #[]
  resolved := Array.replicate 131 none
  statics := none }

def pool19 : Array CpInfo := pool [(1, .class_ 2), (0, u "java/lang/String"), (0, .methodref 4 5), (0, .class_ 6), (0, .nameAndType 7 8), (0, u "java/lang/Object"), (0, u "<init>"), (0, u "()V"), (1, .class_ 12), (1, u "java/lang/AbstractStringBuilder"), (0, u "EMPTYVALUE"), (0, u "[B"), (0, .fieldref 10 16), (0, .nameAndType 17 14), (0, u "value"), (0, .fieldref 1 19), (0, .nameAndType 20 21), (0, u "COMPACT_STRINGS"), (0, u "Z"), (0, .fieldref 10 23), (0, .nameAndType 24 25), (0, u "coder"), (0, u "B"), (8, u "length"), (0, u "()I"), (12, .class_ 49), (0, u "java/lang/CharSequence"), (25, u "maybeLatin1"), (3, .fieldref 10 80), (0, .nameAndType 81 82), (0, u "count"), (0, u "I"), (2, u "isLatin1"), (0, u "()Z"), (16, u "(I)V"), (299, u "()[B"), (40, .class_ 445), (0, u "java/lang/Appendable"), (106, u "getValue")] 56

def k19m0 : Method := { name := "<init>", desc := "()V", sig := { parameters := [], returnType := none }, accessFlags := 0, code := none }
def k19c1 : Code := { maxStack := 2, maxLocals := 2, code := jdk_68_method_2_code, exceptionTable := #[], attributes := #[] }
def k19m1 : Method := { name := "<init>", desc := "(I)V", sig := { parameters := [.int], returnType := none }, accessFlags := 0, code := some k19c1 }
def k19c2 : Code := { maxStack := 1, maxLocals := 1, code := jdk_68_method_6_code, exceptionTable := #[], attributes := #[] }
def k19m2 : Method := { name := "length", desc := "()I", sig := { parameters := [], returnType := some .int }, accessFlags := 1, code := some k19c2 }
def k19c3 : Code := { maxStack := 1, maxLocals := 1, code := jdk_68_method_64_code, exceptionTable := #[], attributes := #[] }
def k19m3 : Method := { name := "getValue", desc := "()[B", sig := { parameters := [], returnType := some (.array .byte) }, accessFlags := 16, code := some k19c3 }
def k19c4 : Code := { maxStack := 1, maxLocals := 1, code := jdk_68_method_68_code, exceptionTable := #[], attributes := #[] }
def k19m4 : Method := { name := "isLatin1", desc := "()Z", sig := { parameters := [], returnType := some .boolean }, accessFlags := 16, code := some k19c4 }
/-- java/lang/AbstractStringBuilder -/
def k19 : Class := { plain "java/lang/AbstractStringBuilder" (some 0) with
  accessFlags := 1056
  interfaces := #[17, 18]
  cf := some (fileOf pool19 10 #[] #[{ accessFlags := 0, nameIndex := 7, descriptorIndex := 8, attributes := #[] }, { accessFlags := 0, nameIndex := 7, descriptorIndex := 103, attributes := #[] }, { accessFlags := 1, nameIndex := 34, descriptorIndex := 35, attributes := #[] }, { accessFlags := 16, nameIndex := 552, descriptorIndex := 403, attributes := #[] }, { accessFlags := 16, nameIndex := 85, descriptorIndex := 86, attributes := #[] }] 1056 4 #[444, 48] #[{ accessFlags := 0, nameIndex := 17, descriptorIndex := 14, attributes := #[] }, { accessFlags := 0, nameIndex := 24, descriptorIndex := 25, attributes := #[] }, { accessFlags := 0, nameIndex := 75, descriptorIndex := 21, attributes := #[] }, { accessFlags := 0, nameIndex := 81, descriptorIndex := 82, attributes := #[] }, { accessFlags := 26, nameIndex := 13, descriptorIndex := 14, attributes := #[] }])
  fields := #[{ name := "value", type := (.array .byte), accessFlags := 0, slot := 0, constantValue := 0 }, { name := "coder", type := .byte, accessFlags := 0, slot := 1, constantValue := 0 }, { name := "maybeLatin1", type := .boolean, accessFlags := 0, slot := 2, constantValue := 0 }, { name := "count", type := .int, accessFlags := 0, slot := 3, constantValue := 0 }, { name := "EMPTYVALUE", type := (.array .byte), accessFlags := 26, slot := 0, constantValue := 0 }]
  methods := #[k19m0, k19m1, k19m2, k19m3, k19m4]
  instanceTypes := #[(.array .byte), .byte, .boolean, .int]
  staticTypes := #[(.array .byte)]
  resolved := Array.replicate 609 none
  statics := none }

def pool20 : Array CpInfo := pool [(1, .methodref 2 3), (0, .class_ 4), (0, .nameAndType 5 6), (0, u "java/lang/AbstractStringBuilder"), (0, u "<init>"), (0, u "(I)V"), (11, .class_ 20), (1, u "java/lang/String"), (3, .class_ 26), (1, u "java/lang/StringBuilder"), (110, .methodref 18 138), (0, .nameAndType 5 139), (0, u "(Ljava/lang/StringBuilder;)V"), (5, u "()V"), (10, u "()I"), (186, .methodref 2 344), (0, .nameAndType 345 156), (0, u "length"), (3, .class_ 350), (0, u "java/lang/Appendable"), (0, .class_ 352), (0, u "java/io/Serializable"), (0, .class_ 354), (0, u "java/lang/Comparable"), (0, .class_ 356), (0, u "java/lang/CharSequence"), (0, u "serialVersionUID"), (0, u "J"), (40, u "toString"), (0, u "()Ljava/lang/String;")] 21

def k20c0 : Code := { maxStack := 2, maxLocals := 1, code := jdk_67_method_1_code, exceptionTable := #[], attributes := #[] }
def k20m0 : Method := { name := "<init>", desc := "()V", sig := { parameters := [], returnType := none }, accessFlags := 1, code := some k20c0 }
def k20c1 : Code := { maxStack := 3, maxLocals := 1, code := jdk_67_method_42_code, exceptionTable := #[], attributes := #[] }
def k20m1 : Method := { name := "toString", desc := "()Ljava/lang/String;", sig := { parameters := [], returnType := some (.object "java/lang/String") }, accessFlags := 1, code := some k20c1 }
def k20c2 : Code := { maxStack := 1, maxLocals := 1, code := jdk_67_method_93_code, exceptionTable := #[], attributes := #[] }
def k20m2 : Method := { name := "length", desc := "()I", sig := { parameters := [], returnType := some .int }, accessFlags := 4161, code := some k20c2 }
/-- java/lang/StringBuilder -/
def k20 : Class := { plain "java/lang/StringBuilder" (some 19) with
  accessFlags := 49
  interfaces := #[17, 4, 3, 18]
  cf := some (fileOf pool20 24 #[] #[{ accessFlags := 1, nameIndex := 5, descriptorIndex := 145, attributes := #[] }, { accessFlags := 1, nameIndex := 399, descriptorIndex := 400, attributes := #[] }, { accessFlags := 4161, nameIndex := 345, descriptorIndex := 156, attributes := #[] }] 49 2 #[349, 351, 353, 355] #[{ accessFlags := 24, nameIndex := 357, descriptorIndex := 358, attributes := #[] }])
  fields := #[{ name := "serialVersionUID", type := .long, accessFlags := 24, slot := 0, constantValue := 0 }]
  methods := #[k20m0, k20m1, k20m2]
  instanceTypes := #[(.array .byte), .byte, .boolean, .int]
  staticTypes := #[.long]
  resolved := Array.replicate 422 none
  statics := none }

def pool21 : Array CpInfo := pool [(1, .class_ 2), (0, u "java/lang/constant/ConstantDesc"), (0, .class_ 4), (0, u "java/lang/Object")] 32

/-- java/lang/constant/ConstantDesc -/
def k21 : Class := { plain "java/lang/constant/ConstantDesc" (some 0) with
  accessFlags := 1537
  interfaces := #[]
  cf := some (fileOf pool21 1 #[] #[] 1537 3 #[] #[])
  fields := #[]
  methods := #[]
  instanceTypes := #[]
  staticTypes := #[]
  resolved := Array.replicate 37 none
  statics := none }

def pool22 : Array CpInfo := pool [(1, .methodref 2 3), (0, .class_ 4), (0, .nameAndType 5 6), (0, u "java/lang/Object"), (0, u "<init>"), (0, u "()V"), (2, .fieldref 10 11), (0, .class_ 12), (0, .nameAndType 13 14), (0, u "java/lang/String"), (0, u "value"), (0, u "[B"), (0, .fieldref 10 16), (0, .nameAndType 17 18), (0, u "coder"), (0, u "B"), (2, u "hash"), (0, u "I"), (2, u "hashIsZero"), (0, u "Z"), (13, u "COMPACT_STRINGS"), (13, .methodref 55 56), (0, .class_ 57), (0, .nameAndType 58 59), (0, u "java/util/Arrays"), (0, u "copyOfRange"), (0, u "([BII)[B"), (82, u "()Z"), (191, u "()I"), (5, u "()[B"), (148, .methodref 10 490), (0, .nameAndType 5 491), (0, u "(Ljava/lang/AbstractStringBuilder;Ljava/lang/Void;)V"), (1, .nameAndType 494 142), (0, u "isLatin1"), (11, .nameAndType 507 334), (0, u "length"), (41, .methodref 550 506), (0, .class_ 551), (0, u "java/lang/AbstractStringBuilder"), (0, .methodref 550 553), (0, .nameAndType 554 340), (0, u "getValue"), (20, .class_ 576), (0, u "java/lang/CharSequence"), (22, u "CASE_INSENSITIVE_ORDER"), (0, u "Ljava/util/Comparator;"), (91, u "isEmpty"), (354, .methodref 550 493), (53, u "serialPersistentFields"), (0, u "[Ljava/io/ObjectStreamField;"), (0, .class_ 1104), (0, u "java/lang/String$CaseInsensitiveComparator"), (1, .class_ 1107), (0, u "java/io/Serializable"), (0, .class_ 1109), (0, u "java/lang/Comparable"), (0, .class_ 1111), (0, u "java/lang/constant/Constable"), (0, .class_ 1113), (0, u "java/lang/constant/ConstantDesc"), (2, u "serialVersionUID"), (0, u "J"), (3, u "REPL"), (0, u "C"), (2, u "LATIN1"), (1, u "UTF16"), (105, u "(Ljava/lang/StringBuilder;)V")] 217

def k22m0 : Method := { name := "<init>", desc := "()V", sig := { parameters := [], returnType := none }, accessFlags := 1, code := none }
def k22c1 : Code := { maxStack := 3, maxLocals := 2, code := jdk_42_method_53_code, exceptionTable := #[], attributes := #[] }
def k22m1 : Method := { name := "<init>", desc := "(Ljava/lang/StringBuilder;)V", sig := { parameters := [(.object "java/lang/StringBuilder")], returnType := none }, accessFlags := 1, code := some k22c1 }
def k22c2 : Code := { maxStack := 1, maxLocals := 1, code := jdk_42_method_55_code, exceptionTable := #[], attributes := #[] }
def k22m2 : Method := { name := "isEmpty", desc := "()Z", sig := { parameters := [], returnType := some .boolean }, accessFlags := 1, code := some k22c2 }
def k22c3 : Code := { maxStack := 5, maxLocals := 5, code := jdk_42_method_150_code, exceptionTable := #[], attributes := #[] }
def k22m3 : Method := { name := "<init>", desc := "(Ljava/lang/AbstractStringBuilder;Ljava/lang/Void;)V", sig := { parameters := [(.object "java/lang/AbstractStringBuilder"), (.object "java/lang/Void")], returnType := none }, accessFlags := 0, code := some k22c3 }
/-- java/lang/String -/
def k22 : Class := { plain "java/lang/String" (some 0) with
  accessFlags := 49
  interfaces := #[4, 3, 18, 2, 21]
  cf := some (fileOf pool22 10 #[.nestMembers #[1103]] #[{ accessFlags := 1, nameIndex := 5, descriptorIndex := 6, attributes := #[] }, { accessFlags := 1, nameIndex := 5, descriptorIndex := 1233, attributes := #[] }, { accessFlags := 1, nameIndex := 692, descriptorIndex := 142, attributes := #[] }, { accessFlags := 0, nameIndex := 5, descriptorIndex := 491, attributes := #[] }] 49 2 #[1106, 1108, 575, 1110, 1112] #[{ accessFlags := 18, nameIndex := 13, descriptorIndex := 14, attributes := #[] }, { accessFlags := 18, nameIndex := 17, descriptorIndex := 18, attributes := #[] }, { accessFlags := 2, nameIndex := 21, descriptorIndex := 22, attributes := #[] }, { accessFlags := 2, nameIndex := 25, descriptorIndex := 26, attributes := #[] }, { accessFlags := 26, nameIndex := 1116, descriptorIndex := 1117, attributes := #[] }, { accessFlags := 24, nameIndex := 40, descriptorIndex := 26, attributes := #[] }, { accessFlags := 26, nameIndex := 1101, descriptorIndex := 1102, attributes := #[] }, { accessFlags := 26, nameIndex := 1121, descriptorIndex := 1122, attributes := #[] }, { accessFlags := 25, nameIndex := 599, descriptorIndex := 600, attributes := #[] }, { accessFlags := 24, nameIndex := 1125, descriptorIndex := 18, attributes := #[] }, { accessFlags := 24, nameIndex := 1127, descriptorIndex := 18, attributes := #[] }])
  fields := #[{ name := "value", type := (.array .byte), accessFlags := 18, slot := 0, constantValue := 0 }, { name := "coder", type := .byte, accessFlags := 18, slot := 1, constantValue := 0 }, { name := "hash", type := .int, accessFlags := 2, slot := 2, constantValue := 0 }, { name := "hashIsZero", type := .boolean, accessFlags := 2, slot := 3, constantValue := 0 }, { name := "serialVersionUID", type := .long, accessFlags := 26, slot := 0, constantValue := 0 }, { name := "COMPACT_STRINGS", type := .boolean, accessFlags := 24, slot := 1, constantValue := 0 }, { name := "serialPersistentFields", type := (.array (.object "java/io/ObjectStreamField")), accessFlags := 26, slot := 2, constantValue := 0 }, { name := "REPL", type := .char, accessFlags := 26, slot := 3, constantValue := 0 }, { name := "CASE_INSENSITIVE_ORDER", type := (.object "java/util/Comparator"), accessFlags := 25, slot := 4, constantValue := 0 }, { name := "LATIN1", type := .byte, accessFlags := 24, slot := 5, constantValue := 0 }, { name := "UTF16", type := .byte, accessFlags := 24, slot := 6, constantValue := 0 }]
  methods := #[k22m0, k22m1, k22m2, k22m3]
  instanceTypes := #[(.array .byte), .byte, .int, .boolean]
  staticTypes := #[.long, .boolean, (.array (.object "java/io/ObjectStreamField")), .char, (.object "java/util/Comparator"), .byte, .byte]
  resolved := Array.replicate 1451 none
  statics := some 2 }

def pool23 : Array CpInfo := pool [(26, .class_ 27), (0, u "java/lang/Object"), (5, .class_ 34), (0, u "java/util/Set"), (1, .class_ 38), (1, u "java/util/Collection"), (32, u "(Ljava/util/Collection;)Z"), (1, u "addAll")] 70

def k23m0 : Method := { name := "addAll", desc := "(Ljava/util/Collection;)Z", sig := { parameters := [(.object "java/util/Collection")], returnType := some .boolean }, accessFlags := 1025, code := none }
/-- java/util/Set -/
def k23 : Class := { plain "java/util/Set" (some 0) with
  accessFlags := 1537
  interfaces := #[9]
  cf := some (fileOf pool23 33 #[] #[{ accessFlags := 1025, nameIndex := 73, descriptorIndex := 71, attributes := #[] }] 1537 26 #[36] #[])
  fields := #[]
  methods := #[k23m0]
  instanceTypes := #[]
  staticTypes := #[]
  resolved := Array.replicate 144 none
  statics := none }

def pool24 : Array CpInfo := pool [(1, .methodref 2 3), (0, .class_ 4), (0, .nameAndType 5 6), (0, u "java/util/AbstractCollection"), (0, u "<init>"), (0, u "()V"), (0, .class_ 8), (0, u "java/util/Set"), (7, .class_ 17), (0, u "java/util/AbstractSet")] 78

def k24c0 : Code := { maxStack := 1, maxLocals := 1, code := jdk_91_method_1_code, exceptionTable := #[], attributes := #[] }
def k24m0 : Method := { name := "<init>", desc := "()V", sig := { parameters := [], returnType := none }, accessFlags := 4, code := some k24c0 }
/-- java/util/AbstractSet -/
def k24 : Class := { plain "java/util/AbstractSet" (some 10) with
  accessFlags := 1057
  interfaces := #[23]
  cf := some (fileOf pool24 16 #[] #[{ accessFlags := 4, nameIndex := 5, descriptorIndex := 6, attributes := #[] }] 1057 2 #[7] #[])
  fields := #[]
  methods := #[k24m0]
  instanceTypes := #[]
  staticTypes := #[]
  resolved := Array.replicate 96 none
  statics := none }

def pool25 : Array CpInfo := pool [(1, .methodref 2 3), (0, .class_ 4), (0, .nameAndType 5 6), (0, u "java/util/AbstractSet"), (0, u "<init>"), (0, u "()V"), (0, .class_ 8), (0, u "java/util/HashMap"), (0, .methodref 7 3), (0, .fieldref 11 12), (0, .class_ 13), (0, .nameAndType 14 15), (0, u "java/util/HashSet"), (0, u "map"), (0, u "Ljava/util/HashMap;"), (34, .class_ 52), (1, u "java/util/Set"), (13, u "PRESENT"), (0, u "Ljava/lang/Object;"), (158, .class_ 227), (0, u "java/lang/Cloneable"), (0, .class_ 229), (0, u "java/io/Serializable"), (0, u "serialVersionUID"), (0, u "J")] 71

def k25c0 : Code := { maxStack := 3, maxLocals := 1, code := jdk_93_method_1_code, exceptionTable := #[], attributes := #[] }
def k25m0 : Method := { name := "<init>", desc := "()V", sig := { parameters := [], returnType := none }, accessFlags := 1, code := some k25c0 }
/-- java/util/HashSet -/
def k25 : Class := { plain "java/util/HashSet" (some 24) with
  accessFlags := 33
  interfaces := #[23, 15, 4]
  cf := some (fileOf pool25 11 #[] #[{ accessFlags := 1, nameIndex := 5, descriptorIndex := 6, attributes := #[] }] 33 2 #[50, 226, 228] #[{ accessFlags := 24, nameIndex := 230, descriptorIndex := 231, attributes := #[] }, { accessFlags := 128, nameIndex := 14, descriptorIndex := 15, attributes := #[] }, { accessFlags := 24, nameIndex := 66, descriptorIndex := 67, attributes := #[] }])
  fields := #[{ name := "serialVersionUID", type := .long, accessFlags := 24, slot := 0, constantValue := 0 }, { name := "map", type := (.object "java/util/HashMap"), accessFlags := 128, slot := 0, constantValue := 0 }, { name := "PRESENT", type := (.object "java/lang/Object"), accessFlags := 24, slot := 1, constantValue := 0 }]
  methods := #[k25m0]
  instanceTypes := #[(.object "java/util/HashMap")]
  staticTypes := #[.long, (.object "java/lang/Object")]
  resolved := Array.replicate 303 none
  statics := none }

def pool26 : Array CpInfo := pool [(2, .class_ 4), (1, u "java/util/Map"), (31, .class_ 37), (0, u "java/util/Map$Entry"), (55, .class_ 94), (0, u "java/lang/Object")] 168

/-- java/util/Map -/
def k26 : Class := { plain "java/util/Map" (some 0) with
  accessFlags := 1537
  interfaces := #[]
  cf := some (fileOf pool26 2 #[.nestMembers #[36]] #[] 1537 93 #[] #[])
  fields := #[]
  methods := #[]
  instanceTypes := #[]
  staticTypes := #[]
  resolved := Array.replicate 263 none
  statics := none }

def pool27 : Array CpInfo := pool [(1, .methodref 2 3), (0, .class_ 4), (0, .nameAndType 5 6), (0, u "java/lang/Object"), (0, u "<init>"), (0, u "()V"), (1, .class_ 10), (1, u "java/util/AbstractMap"), (42, .class_ 54), (0, u "java/util/Map"), (9, u "keySet"), (0, u "Ljava/util/Set;"), (0, .class_ 67), (0, u "java/util/AbstractMap$1"), (5, u "values"), (0, u "Ljava/util/Collection;"), (0, .class_ 76), (0, u "java/util/AbstractMap$2"), (104, .class_ 182), (0, u "java/util/AbstractMap$ViewCollection"), (0, .class_ 184), (0, u "java/util/AbstractMap$SimpleImmutableEntry"), (0, .class_ 186), (0, u "java/util/AbstractMap$SimpleEntry"), (0, .class_ 188), (0, u "java/util/AbstractMap$2$1"), (0, .class_ 190), (0, u "java/util/AbstractMap$1$1")] 5

def k27c0 : Code := { maxStack := 1, maxLocals := 1, code := jdk_71_method_1_code, exceptionTable := #[], attributes := #[] }
def k27m0 : Method := { name := "<init>", desc := "()V", sig := { parameters := [], returnType := none }, accessFlags := 4, code := some k27c0 }
/-- java/util/AbstractMap -/
def k27 : Class := { plain "java/util/AbstractMap" (some 0) with
  accessFlags := 1057
  interfaces := #[26]
  cf := some (fileOf pool27 8 #[.nestMembers #[181, 183, 185, 75, 187, 66, 189]] #[{ accessFlags := 4, nameIndex := 5, descriptorIndex := 6, attributes := #[] }] 1057 2 #[53] #[{ accessFlags := 128, nameIndex := 64, descriptorIndex := 65, attributes := #[] }, { accessFlags := 128, nameIndex := 73, descriptorIndex := 74, attributes := #[] }])
  fields := #[{ name := "keySet", type := (.object "java/util/Set"), accessFlags := 128, slot := 0, constantValue := 0 }, { name := "values", type := (.object "java/util/Collection"), accessFlags := 128, slot := 1, constantValue := 0 }]
  methods := #[k27m0]
  instanceTypes := #[(.object "java/util/Set"), (.object "java/util/Collection")]
  staticTypes := #[]
  resolved := Array.replicate 196 none
  statics := none }

def pool28 : Array CpInfo := pool [(40, .class_ 41), (0, u "java/util/HashMap"), (1, .methodref 44 45), (0, .class_ 46), (0, .nameAndType 47 48), (0, u "java/util/AbstractMap"), (0, u "<init>"), (0, u "()V"), (32, .fieldref 40 82), (0, .nameAndType 83 84), (0, u "loadFactor"), (0, u "F"), (5, u "threshold"), (0, u "I"), (0, .float 1061158912), (8, .class_ 103), (1, u "java/util/Map"), (0, u "size"), (2, u "table"), (0, u "[Ljava/util/HashMap$Node;"), (14, u "entrySet"), (39, .class_ 165), (1, u "java/util/HashMap$Node"), (14, .class_ 181), (0, u "java/util/HashMap$TreeNode"), (22, u "modCount"), (37, u "Ljava/util/Set;"), (0, .class_ 244), (0, u "java/util/HashMap$KeySet"), (18, .class_ 264), (0, u "java/util/HashMap$Values"), (3, .class_ 269), (0, u "java/util/HashMap$EntrySet"), (76, .class_ 348), (1, u "java/util/HashMap$UnsafeHolder"), (43, .class_ 393), (0, u "java/lang/Cloneable"), (0, .class_ 395), (0, u "java/io/Serializable"), (0, u "serialVersionUID"), (0, u "J"), (3, u "DEFAULT_INITIAL_CAPACITY"), (1, u "MAXIMUM_CAPACITY"), (0, u "DEFAULT_LOAD_FACTOR"), (0, u "TREEIFY_THRESHOLD"), (1, u "UNTREEIFY_THRESHOLD"), (1, u "MIN_TREEIFY_CAPACITY"), (186, .class_ 597), (0, u "java/util/HashMap$EntrySpliterator"), (0, .class_ 599), (0, u "java/util/HashMap$ValueSpliterator"), (0, .class_ 601), (0, u "java/util/HashMap$KeySpliterator"), (0, .class_ 603), (0, u "java/util/HashMap$HashMapSpliterator"), (0, .class_ 605), (0, u "java/util/HashMap$EntryIterator"), (0, .class_ 607), (0, u "java/util/HashMap$ValueIterator"), (0, .class_ 609), (0, u "java/util/HashMap$KeyIterator"), (0, .class_ 611), (0, u "java/util/HashMap$HashIterator")] 17

def k28c0 : Code := { maxStack := 2, maxLocals := 1, code := jdk_69_method_7_code, exceptionTable := #[], attributes := #[] }
def k28m0 : Method := { name := "<init>", desc := "()V", sig := { parameters := [], returnType := none }, accessFlags := 1, code := some k28c0 }
/-- java/util/HashMap -/
def k28 : Class := { plain "java/util/HashMap" (some 27) with
  accessFlags := 33
  interfaces := #[26, 15, 4]
  cf := some (fileOf pool28 40 #[.nestMembers #[180, 596, 598, 600, 602, 604, 606, 608, 610, 346, 268, 263, 243, 163]] #[{ accessFlags := 1, nameIndex := 47, descriptorIndex := 48, attributes := #[] }] 33 44 #[101, 392, 394] #[{ accessFlags := 26, nameIndex := 396, descriptorIndex := 397, attributes := #[] }, { accessFlags := 24, nameIndex := 401, descriptorIndex := 91, attributes := #[] }, { accessFlags := 24, nameIndex := 403, descriptorIndex := 91, attributes := #[] }, { accessFlags := 24, nameIndex := 404, descriptorIndex := 84, attributes := #[] }, { accessFlags := 24, nameIndex := 405, descriptorIndex := 91, attributes := #[] }, { accessFlags := 24, nameIndex := 407, descriptorIndex := 91, attributes := #[] }, { accessFlags := 24, nameIndex := 409, descriptorIndex := 91, attributes := #[] }, { accessFlags := 128, nameIndex := 107, descriptorIndex := 108, attributes := #[] }, { accessFlags := 128, nameIndex := 123, descriptorIndex := 242, attributes := #[] }, { accessFlags := 128, nameIndex := 104, descriptorIndex := 91, attributes := #[] }, { accessFlags := 128, nameIndex := 204, descriptorIndex := 91, attributes := #[] }, { accessFlags := 0, nameIndex := 90, descriptorIndex := 91, attributes := #[] }, { accessFlags := 16, nameIndex := 83, descriptorIndex := 84, attributes := #[] }])
  fields := #[{ name := "serialVersionUID", type := .long, accessFlags := 26, slot := 0, constantValue := 0 }, { name := "DEFAULT_INITIAL_CAPACITY", type := .int, accessFlags := 24, slot := 1, constantValue := 0 }, { name := "MAXIMUM_CAPACITY", type := .int, accessFlags := 24, slot := 2, constantValue := 0 }, { name := "DEFAULT_LOAD_FACTOR", type := .float, accessFlags := 24, slot := 3, constantValue := 0 }, { name := "TREEIFY_THRESHOLD", type := .int, accessFlags := 24, slot := 4, constantValue := 0 }, { name := "UNTREEIFY_THRESHOLD", type := .int, accessFlags := 24, slot := 5, constantValue := 0 }, { name := "MIN_TREEIFY_CAPACITY", type := .int, accessFlags := 24, slot := 6, constantValue := 0 }, { name := "table", type := (.array (.object "java/util/HashMap$Node")), accessFlags := 128, slot := 2, constantValue := 0 }, { name := "entrySet", type := (.object "java/util/Set"), accessFlags := 128, slot := 3, constantValue := 0 }, { name := "size", type := .int, accessFlags := 128, slot := 4, constantValue := 0 }, { name := "modCount", type := .int, accessFlags := 128, slot := 5, constantValue := 0 }, { name := "threshold", type := .int, accessFlags := 0, slot := 6, constantValue := 0 }, { name := "loadFactor", type := .float, accessFlags := 16, slot := 7, constantValue := 0 }]
  methods := #[k28m0]
  instanceTypes := #[(.object "java/util/Set"), (.object "java/util/Collection"), (.array (.object "java/util/HashMap$Node")), (.object "java/util/Set"), .int, .int, .int, .float]
  staticTypes := #[.long, .int, .int, .float, .int, .int, .int]
  resolved := Array.replicate 629 none
  statics := none }

def pool29 : Array CpInfo := pool [(16, .class_ 18), (1, u "java/util/Iterator"), (0, u "hasNext"), (0, u "()Z"), (10, .class_ 32), (0, u "java/lang/Object")] 20

def k29m0 : Method := { name := "hasNext", desc := "()Z", sig := { parameters := [], returnType := some .boolean }, accessFlags := 1025, code := none }
/-- java/util/Iterator -/
def k29 : Class := { plain "java/util/Iterator" (some 0) with
  accessFlags := 1537
  interfaces := #[]
  cf := some (fileOf pool29 16 #[] #[{ accessFlags := 1025, nameIndex := 19, descriptorIndex := 20, attributes := #[] }] 1537 31 #[] #[])
  fields := #[]
  methods := #[k29m0]
  instanceTypes := #[]
  staticTypes := #[]
  resolved := Array.replicate 53 none
  statics := none }

def pool30 : Array CpInfo := pool [(1, .fieldref 2 3), (0, .class_ 4), (0, .nameAndType 5 6), (0, u "java/util/ArrayList$Itr"), (0, u "this$0"), (0, u "Ljava/util/ArrayList;"), (0, .methodref 8 9), (0, .class_ 10), (0, .nameAndType 11 12), (0, u "java/lang/Object"), (0, u "<init>"), (0, u "()V"), (0, .fieldref 2 14), (0, .nameAndType 15 16), (0, u "lastRet"), (0, u "I"), (0, .fieldref 18 19), (0, .class_ 20), (0, .nameAndType 21 16), (0, u "java/util/ArrayList"), (0, u "modCount"), (0, .fieldref 2 23), (0, .nameAndType 24 16), (0, u "expectedModCount"), (0, .fieldref 2 26), (0, .nameAndType 27 16), (0, u "cursor"), (0, .fieldref 18 29), (0, .nameAndType 30 16), (0, u "size"), (38, .class_ 70), (0, u "java/util/Iterator"), (0, u "(Ljava/util/ArrayList;)V"), (8, u "hasNext"), (0, u "()Z")] 22

def k30c0 : Code := { maxStack := 2, maxLocals := 2, code := jdk_49_method_1_code, exceptionTable := #[], attributes := #[] }
def k30m0 : Method := { name := "<init>", desc := "(Ljava/util/ArrayList;)V", sig := { parameters := [(.object "java/util/ArrayList")], returnType := none }, accessFlags := 0, code := some k30c0 }
def k30c1 : Code := { maxStack := 2, maxLocals := 1, code := jdk_49_method_2_code, exceptionTable := #[], attributes := #[] }
def k30m1 : Method := { name := "hasNext", desc := "()Z", sig := { parameters := [], returnType := some .boolean }, accessFlags := 1, code := some k30c1 }
/-- java/util/ArrayList$Itr -/
def k30 : Class := { plain "java/util/ArrayList$Itr" (some 0) with
  accessFlags := 32
  interfaces := #[29]
  cf := some (fileOf pool30 2 #[.nestHost 18] #[{ accessFlags := 0, nameIndex := 11, descriptorIndex := 71, attributes := #[] }, { accessFlags := 1, nameIndex := 80, descriptorIndex := 81, attributes := #[] }] 32 8 #[69] #[{ accessFlags := 0, nameIndex := 27, descriptorIndex := 16, attributes := #[] }, { accessFlags := 0, nameIndex := 15, descriptorIndex := 16, attributes := #[] }, { accessFlags := 0, nameIndex := 24, descriptorIndex := 16, attributes := #[] }, { accessFlags := 4112, nameIndex := 5, descriptorIndex := 6, attributes := #[] }])
  fields := #[{ name := "cursor", type := .int, accessFlags := 0, slot := 0, constantValue := 0 }, { name := "lastRet", type := .int, accessFlags := 0, slot := 1, constantValue := 0 }, { name := "expectedModCount", type := .int, accessFlags := 0, slot := 2, constantValue := 0 }, { name := "this$0", type := (.object "java/util/ArrayList"), accessFlags := 4112, slot := 3, constantValue := 0 }]
  methods := #[k30m0, k30m1]
  instanceTypes := #[.int, .int, .int, (.object "java/util/ArrayList")]
  staticTypes := #[]
  resolved := Array.replicate 104 none
  statics := none }

def pool31 : Array CpInfo := pool [(1, .methodref 2 3), (0, .class_ 4), (0, .nameAndType 5 6), (0, u "com/example/temporal_query_rewriter/temporalqueryrewriter/Engine"), (0, u "windowAggregates"), (0, u "()Z"), (0, .class_ 8), (0, u "com/example/temporal_query_rewriter/temporalqueryrewriter/WindowIslands"), (0, .methodref 7 10), (0, .nameAndType 11 12), (0, u "<init>"), (0, u "(Lcom/example/temporal_query_rewriter/temporalqueryrewriter/WithQuery;)V"), (0, .class_ 14), (0, u "com/example/temporal_query_rewriter/temporalqueryrewriter/SortedIslands"), (0, .methodref 13 16), (0, .nameAndType 11 17), (0, u "(Lcom/example/temporal_query_rewriter/temporalqueryrewriter/WithQuery;Lcom/example/temporal_query_rewriter/temporalqueryrewriter/Engine;)V"), (0, .class_ 19), (0, u "com/example/temporal_query_rewriter/temporalqueryrewriter/Islands"), (0, .class_ 21), (0, u "java/lang/Object"), (0, u "of"), (0, u "(Lcom/example/temporal_query_rewriter/temporalqueryrewriter/Engine;Lcom/example/temporal_query_rewriter/temporalqueryrewriter/WithQuery;)Lcom/example/temporal_query_rewriter/temporalqueryrewriter/Islands;")] 16

def k31c0 : Code := { maxStack := 4, maxLocals := 2, code := prog_16_method_1_code, exceptionTable := #[], attributes := #[] }
def k31m0 : Method := { name := "of", desc := "(Lcom/example/temporal_query_rewriter/temporalqueryrewriter/Engine;Lcom/example/temporal_query_rewriter/temporalqueryrewriter/WithQuery;)Lcom/example/temporal_query_rewriter/temporalqueryrewriter/Islands;", sig := { parameters := [(.object "com/example/temporal_query_rewriter/temporalqueryrewriter/Engine"), (.object "com/example/temporal_query_rewriter/temporalqueryrewriter/WithQuery")], returnType := some (.object "com/example/temporal_query_rewriter/temporalqueryrewriter/Islands") }, accessFlags := 9, code := some k31c0 }
/-- com/example/temporal_query_rewriter/temporalqueryrewriter/Islands -/
def k31 : Class := { plain "com/example/temporal_query_rewriter/temporalqueryrewriter/Islands" (some 0) with
  accessFlags := 1536
  interfaces := #[]
  cf := some (fileOf pool31 18 #[] #[{ accessFlags := 9, nameIndex := 22, descriptorIndex := 23, attributes := #[] }] 1536 20 #[] #[])
  fields := #[]
  methods := #[k31m0]
  instanceTypes := #[]
  staticTypes := #[]
  resolved := Array.replicate 40 none
  statics := none }

def pool32 : Array CpInfo := pool [(1, .methodref 2 3), (0, .class_ 4), (0, .nameAndType 5 6), (0, u "java/lang/Object"), (0, u "<init>"), (0, u "()V"), (0, .fieldref 8 9), (0, .class_ 10), (0, .nameAndType 11 12), (0, u "com/example/temporal_query_rewriter/temporalqueryrewriter/WindowIslands"), (0, u "sql"), (0, u "Lcom/example/temporal_query_rewriter/temporalqueryrewriter/WithQuery;"), (56, .class_ 71), (1, u "com/example/temporal_query_rewriter/temporalqueryrewriter/WindowIslands$1"), (71, .class_ 144), (0, u "com/example/temporal_query_rewriter/temporalqueryrewriter/Islands"), (0, u "(Lcom/example/temporal_query_rewriter/temporalqueryrewriter/WithQuery;)V")] 34

def k32c0 : Code := { maxStack := 2, maxLocals := 2, code := prog_63_method_1_code, exceptionTable := #[], attributes := #[] }
def k32m0 : Method := { name := "<init>", desc := "(Lcom/example/temporal_query_rewriter/temporalqueryrewriter/WithQuery;)V", sig := { parameters := [(.object "com/example/temporal_query_rewriter/temporalqueryrewriter/WithQuery")], returnType := none }, accessFlags := 0, code := some k32c0 }
/-- com/example/temporal_query_rewriter/temporalqueryrewriter/WindowIslands -/
def k32 : Class := { plain "com/example/temporal_query_rewriter/temporalqueryrewriter/WindowIslands" (some 0) with
  accessFlags := 48
  interfaces := #[31]
  cf := some (fileOf pool32 8 #[.nestMembers #[69]] #[{ accessFlags := 0, nameIndex := 5, descriptorIndex := 145, attributes := #[] }] 48 2 #[143] #[{ accessFlags := 18, nameIndex := 11, descriptorIndex := 12, attributes := #[] }])
  fields := #[{ name := "sql", type := (.object "com/example/temporal_query_rewriter/temporalqueryrewriter/WithQuery"), accessFlags := 18, slot := 0, constantValue := 0 }]
  methods := #[k32m0]
  instanceTypes := #[(.object "com/example/temporal_query_rewriter/temporalqueryrewriter/WithQuery")]
  staticTypes := #[]
  resolved := Array.replicate 180 none
  statics := none }

def pool33 : Array CpInfo := pool [(1, .methodref 2 3), (0, .class_ 4), (0, .nameAndType 5 6), (0, u "java/lang/Object"), (0, u "<init>"), (0, u "()V"), (0, .fieldref 8 9), (0, .class_ 10), (0, .nameAndType 11 12), (0, u "com/example/temporal_query_rewriter/temporalqueryrewriter/SortedIslands"), (0, u "sql"), (0, u "Lcom/example/temporal_query_rewriter/temporalqueryrewriter/WithQuery;"), (0, .fieldref 8 14), (0, .nameAndType 15 16), (0, u "engine"), (0, u "Lcom/example/temporal_query_rewriter/temporalqueryrewriter/Engine;"), (213, .class_ 231), (0, u "com/example/temporal_query_rewriter/temporalqueryrewriter/Islands"), (0, u "(Lcom/example/temporal_query_rewriter/temporalqueryrewriter/WithQuery;Lcom/example/temporal_query_rewriter/temporalqueryrewriter/Engine;)V")] 41

def k33c0 : Code := { maxStack := 2, maxLocals := 3, code := prog_46_method_1_code, exceptionTable := #[], attributes := #[] }
def k33m0 : Method := { name := "<init>", desc := "(Lcom/example/temporal_query_rewriter/temporalqueryrewriter/WithQuery;Lcom/example/temporal_query_rewriter/temporalqueryrewriter/Engine;)V", sig := { parameters := [(.object "com/example/temporal_query_rewriter/temporalqueryrewriter/WithQuery"), (.object "com/example/temporal_query_rewriter/temporalqueryrewriter/Engine")], returnType := none }, accessFlags := 0, code := some k33c0 }
/-- com/example/temporal_query_rewriter/temporalqueryrewriter/SortedIslands -/
def k33 : Class := { plain "com/example/temporal_query_rewriter/temporalqueryrewriter/SortedIslands" (some 0) with
  accessFlags := 48
  interfaces := #[31]
  cf := some (fileOf pool33 8 #[] #[{ accessFlags := 0, nameIndex := 5, descriptorIndex := 232, attributes := #[] }] 48 2 #[230] #[{ accessFlags := 18, nameIndex := 11, descriptorIndex := 12, attributes := #[] }, { accessFlags := 18, nameIndex := 15, descriptorIndex := 16, attributes := #[] }])
  fields := #[{ name := "sql", type := (.object "com/example/temporal_query_rewriter/temporalqueryrewriter/WithQuery"), accessFlags := 18, slot := 0, constantValue := 0 }, { name := "engine", type := (.object "com/example/temporal_query_rewriter/temporalqueryrewriter/Engine"), accessFlags := 18, slot := 1, constantValue := 0 }]
  methods := #[k33m0]
  instanceTypes := #[(.object "com/example/temporal_query_rewriter/temporalqueryrewriter/WithQuery"), (.object "com/example/temporal_query_rewriter/temporalqueryrewriter/Engine")]
  staticTypes := #[]
  resolved := Array.replicate 274 none
  statics := none }

def pool34 : Array CpInfo := pool [(2, .class_ 4), (1, u "java/lang/Object"), (0, u "<init>"), (0, u "()V"), (7, .class_ 16), (1, u "java/util/Arrays"), (57, .class_ 76), (1, u "java/util/Arrays$NaturalOrder"), (36, .class_ 115), (1, u "java/util/Arrays$LegacyMergeSort"), (1, u "Z"), (21, u "copyOfRange"), (10, .methodref 151 152), (0, .class_ 153), (0, .nameAndType 154 155), (0, u "java/lang/System"), (0, u "arraycopy"), (0, u "(Ljava/lang/Object;ILjava/lang/Object;II)V"), (148, .methodref 305 306), (0, .class_ 307), (0, .nameAndType 308 309), (0, u "java/lang/Math"), (0, u "min"), (0, u "(II)I"), (29, .methodref 14 340), (0, .nameAndType 341 342), (0, u "copyOfRangeByte"), (0, u "([BII)[B"), (0, .methodref 14 344), (0, .nameAndType 345 346), (0, u "checkLength"), (0, u "(II)V"), (28, .class_ 376), (0, u "java/util/Arrays$ArrayList"), (68, u "$assertionsDisabled"), (269, u "MIN_ARRAY_SORT_GRAN"), (0, u "I"), (2, u "INSERTIONSORT_THRESHOLD"), (255, .class_ 976), (0, u "java/util/Arrays$ArrayItr")] 52

def k34m0 : Method := { name := "<init>", desc := "()V", sig := { parameters := [], returnType := none }, accessFlags := 2, code := none }
def k34c1 : Code := { maxStack := 4, maxLocals := 2, code := jdk_65_method_131_code, exceptionTable := #[], attributes := #[] }
def k34m1 : Method := { name := "checkLength", desc := "(II)V", sig := { parameters := [.int, .int], returnType := none }, accessFlags := 10, code := some k34c1 }
def k34c2 : Code := { maxStack := 3, maxLocals := 3, code := jdk_65_method_132_code, exceptionTable := #[], attributes := #[] }
def k34m2 : Method := { name := "copyOfRange", desc := "([BII)[B", sig := { parameters := [(.array .byte), .int, .int], returnType := some (.array .byte) }, accessFlags := 9, code := some k34c2 }
def k34c3 : Code := { maxStack := 6, maxLocals := 5, code := jdk_65_method_133_code, exceptionTable := #[], attributes := #[] }
def k34m3 : Method := { name := "copyOfRangeByte", desc := "([BII)[B", sig := { parameters := [(.array .byte), .int, .int], returnType := some (.array .byte) }, accessFlags := 10, code := some k34c3 }
/-- java/util/Arrays -/
def k34 : Class := { plain "java/util/Arrays" (some 0) with
  accessFlags := 49
  interfaces := #[]
  cf := some (fileOf pool34 14 #[.nestMembers #[975, 375, 113, 74]] #[{ accessFlags := 2, nameIndex := 5, descriptorIndex := 6, attributes := #[] }, { accessFlags := 10, nameIndex := 345, descriptorIndex := 346, attributes := #[] }, { accessFlags := 9, nameIndex := 139, descriptorIndex := 342, attributes := #[] }, { accessFlags := 10, nameIndex := 341, descriptorIndex := 342, attributes := #[] }] 49 2 #[] #[{ accessFlags := 26, nameIndex := 715, descriptorIndex := 716, attributes := #[] }, { accessFlags := 26, nameIndex := 719, descriptorIndex := 716, attributes := #[] }, { accessFlags := 4120, nameIndex := 445, descriptorIndex := 117, attributes := #[] }])
  fields := #[{ name := "MIN_ARRAY_SORT_GRAN", type := .int, accessFlags := 26, slot := 0, constantValue := 0 }, { name := "INSERTIONSORT_THRESHOLD", type := .int, accessFlags := 26, slot := 1, constantValue := 0 }, { name := "$assertionsDisabled", type := .boolean, accessFlags := 4120, slot := 2, constantValue := 0 }]
  methods := #[k34m0, k34m1, k34m2, k34m3]
  instanceTypes := #[]
  staticTypes := #[.int, .int, .boolean]
  resolved := Array.replicate 1029 none
  statics := none }

def pool35 : Array CpInfo := pool [(1, .class_ 2), (0, u "java/lang/Math"), (1, .class_ 6), (1, u "java/lang/Object"), (0, u "<init>"), (0, u "()V"), (89, .class_ 100), (1, u "java/lang/Math$RandomNumberGeneratorHolder"), (71, u "negativeZeroFloatBits"), (0, u "J"), (2, u "negativeZeroDoubleBits"), (24, u "min"), (43, u "$assertionsDisabled"), (0, u "Z"), (88, u "(II)I"), (2, u "twoToTheDoubleScaleDown"), (0, u "D"), (4, u "twoToTheDoubleScaleUp"), (9, u "E"), (3, u "PI"), (2, u "TAU"), (2, u "DEGREES_TO_RADIANS"), (0, u "RADIANS_TO_DEGREES")] 94

def k35m0 : Method := { name := "<init>", desc := "()V", sig := { parameters := [], returnType := none }, accessFlags := 2, code := none }
def k35c1 : Code := { maxStack := 2, maxLocals := 2, code := jdk_29_method_69_code, exceptionTable := #[], attributes := #[] }
def k35m1 : Method := { name := "min", desc := "(II)I", sig := { parameters := [.int, .int], returnType := some .int }, accessFlags := 9, code := some k35c1 }
/-- java/lang/Math -/
def k35 : Class := { plain "java/lang/Math" (some 0) with
  accessFlags := 49
  interfaces := #[]
  cf := some (fileOf pool35 1 #[.nestMembers #[98]] #[{ accessFlags := 2, nameIndex := 7, descriptorIndex := 8, attributes := #[] }, { accessFlags := 9, nameIndex := 201, descriptorIndex := 335, attributes := #[] }] 49 4 #[] #[{ accessFlags := 25, nameIndex := 354, descriptorIndex := 339, attributes := #[] }, { accessFlags := 25, nameIndex := 358, descriptorIndex := 339, attributes := #[] }, { accessFlags := 25, nameIndex := 361, descriptorIndex := 339, attributes := #[] }, { accessFlags := 26, nameIndex := 364, descriptorIndex := 339, attributes := #[] }, { accessFlags := 26, nameIndex := 365, descriptorIndex := 339, attributes := #[] }, { accessFlags := 26, nameIndex := 172, descriptorIndex := 173, attributes := #[] }, { accessFlags := 26, nameIndex := 176, descriptorIndex := 173, attributes := #[] }, { accessFlags := 8, nameIndex := 344, descriptorIndex := 339, attributes := #[] }, { accessFlags := 8, nameIndex := 338, descriptorIndex := 339, attributes := #[] }, { accessFlags := 4120, nameIndex := 245, descriptorIndex := 246, attributes := #[] }])
  fields := #[{ name := "E", type := .double, accessFlags := 25, slot := 0, constantValue := 0 }, { name := "PI", type := .double, accessFlags := 25, slot := 1, constantValue := 0 }, { name := "TAU", type := .double, accessFlags := 25, slot := 2, constantValue := 0 }, { name := "DEGREES_TO_RADIANS", type := .double, accessFlags := 26, slot := 3, constantValue := 0 }, { name := "RADIANS_TO_DEGREES", type := .double, accessFlags := 26, slot := 4, constantValue := 0 }, { name := "negativeZeroFloatBits", type := .long, accessFlags := 26, slot := 5, constantValue := 0 }, { name := "negativeZeroDoubleBits", type := .long, accessFlags := 26, slot := 6, constantValue := 0 }, { name := "twoToTheDoubleScaleUp", type := .double, accessFlags := 8, slot := 7, constantValue := 0 }, { name := "twoToTheDoubleScaleDown", type := .double, accessFlags := 8, slot := 8, constantValue := 0 }, { name := "$assertionsDisabled", type := .boolean, accessFlags := 4120, slot := 9, constantValue := 0 }]
  methods := #[k35m0, k35m1]
  instanceTypes := #[]
  staticTypes := #[.double, .double, .double, .double, .double, .long, .long, .double, .double, .boolean]
  resolved := Array.replicate 460 none
  statics := none }

def pool36 : Array CpInfo := pool [(2, .class_ 4), (1, u "java/lang/Object"), (0, u "<init>"), (0, u "()V"), (1, .class_ 10), (1, u "java/lang/System"), (0, u "allowSecurityManager"), (0, u "I"), (16, u "cons"), (0, u "Ljava/io/Console;"), (77, .class_ 110), (1, u "java/lang/System$CallersHolder"), (43, u "initialErrStream"), (0, u "Ljava/io/PrintStream;"), (19, u "security"), (0, u "Ljava/lang/SecurityManager;"), (31, .class_ 209), (0, u "java/lang/System$1"), (7, u "props"), (0, u "Ljava/util/Properties;"), (2, u "lineSeparator"), (0, u "Ljava/lang/String;"), (96, .class_ 321), (1, u "java/lang/System$LoggerFinder"), (5, .class_ 328), (0, u "java/lang/System$Logger"), (67, u "err"), (2, u "out"), (91, u "notSupportedJnuEncoding"), (15, u "in"), (17, u "initialIn"), (0, u "Ljava/io/InputStream;"), (35, u "bootLayer"), (0, u "Ljava/lang/ModuleLayer;"), (99, .class_ 664), (0, u "java/lang/System$2"), (9, u "NEVER"), (2, u "MAYBE"), (49, u "arraycopy"), (0, u "(Ljava/lang/Object;ILjava/lang/Object;II)V"), (72, .class_ 802), (0, u "java/lang/System$Logger$Level")] 31

def k36m0 : Method := { name := "<init>", desc := "()V", sig := { parameters := [], returnType := none }, accessFlags := 2, code := none }
def k36m1 : Method := { name := "arraycopy", desc := "(Ljava/lang/Object;ILjava/lang/Object;II)V", sig := { parameters := [(.object "java/lang/Object"), .int, (.object "java/lang/Object"), .int, .int], returnType := none }, accessFlags := 265, code := none }
/-- java/lang/System -/
def k36 : Class := { plain "java/lang/System" (some 0) with
  accessFlags := 49
  interfaces := #[]
  cf := some (fileOf pool36 8 #[.nestMembers #[319, 327, 801, 108, 663, 208]] #[{ accessFlags := 2, nameIndex := 5, descriptorIndex := 6, attributes := #[] }, { accessFlags := 265, nameIndex := 727, descriptorIndex := 728, attributes := #[] }] 49 2 #[] #[{ accessFlags := 25, nameIndex := 507, descriptorIndex := 526, attributes := #[] }, { accessFlags := 25, nameIndex := 399, descriptorIndex := 155, attributes := #[] }, { accessFlags := 25, nameIndex := 396, descriptorIndex := 155, attributes := #[] }, { accessFlags := 10, nameIndex := 525, descriptorIndex := 526, attributes := #[] }, { accessFlags := 26, nameIndex := 674, descriptorIndex := 12, attributes := #[] }, { accessFlags := 26, nameIndex := 677, descriptorIndex := 12, attributes := #[] }, { accessFlags := 10, nameIndex := 11, descriptorIndex := 12, attributes := #[] }, { accessFlags := 74, nameIndex := 175, descriptorIndex := 176, attributes := #[] }, { accessFlags := 10, nameIndex := 491, descriptorIndex := 222, attributes := #[] }, { accessFlags := 74, nameIndex := 29, descriptorIndex := 30, attributes := #[] }, { accessFlags := 74, nameIndex := 154, descriptorIndex := 155, attributes := #[] }, { accessFlags := 10, nameIndex := 217, descriptorIndex := 218, attributes := #[] }, { accessFlags := 10, nameIndex := 221, descriptorIndex := 222, attributes := #[] }, { accessFlags := 8, nameIndex := 562, descriptorIndex := 563, attributes := #[] }])
  fields := #[{ name := "in", type := (.object "java/io/InputStream"), accessFlags := 25, slot := 0, constantValue := 0 }, { name := "out", type := (.object "java/io/PrintStream"), accessFlags := 25, slot := 1, constantValue := 0 }, { name := "err", type := (.object "java/io/PrintStream"), accessFlags := 25, slot := 2, constantValue := 0 }, { name := "initialIn", type := (.object "java/io/InputStream"), accessFlags := 10, slot := 3, constantValue := 0 }, { name := "NEVER", type := .int, accessFlags := 26, slot := 4, constantValue := 0 }, { name := "MAYBE", type := .int, accessFlags := 26, slot := 5, constantValue := 0 }, { name := "allowSecurityManager", type := .int, accessFlags := 10, slot := 6, constantValue := 0 }, { name := "security", type := (.object "java/lang/SecurityManager"), accessFlags := 74, slot := 7, constantValue := 0 }, { name := "notSupportedJnuEncoding", type := (.object "java/lang/String"), accessFlags := 10, slot := 8, constantValue := 0 }, { name := "cons", type := (.object "java/io/Console"), accessFlags := 74, slot := 9, constantValue := 0 }, { name := "initialErrStream", type := (.object "java/io/PrintStream"), accessFlags := 74, slot := 10, constantValue := 0 }, { name := "props", type := (.object "java/util/Properties"), accessFlags := 10, slot := 11, constantValue := 0 }, { name := "lineSeparator", type := (.object "java/lang/String"), accessFlags := 10, slot := 12, constantValue := 0 }, { name := "bootLayer", type := (.object "java/lang/ModuleLayer"), accessFlags := 8, slot := 13, constantValue := 0 }]
  methods := #[k36m0, k36m1]
  instanceTypes := #[]
  staticTypes := #[(.object "java/io/InputStream"), (.object "java/io/PrintStream"), (.object "java/io/PrintStream"), (.object "java/io/InputStream"), .int, .int, .int, (.object "java/lang/SecurityManager"), (.object "java/lang/String"), (.object "java/io/Console"), (.object "java/io/PrintStream"), (.object "java/util/Properties"), (.object "java/lang/String"), (.object "java/lang/ModuleLayer")]
  resolved := Array.replicate 834 none
  statics := none }

def pool37 : Array CpInfo := pool [(4, .class_ 6), (1, u "java/lang/Object"), (0, u "<init>"), (0, u "()V"), (5, .class_ 16), (1, u "java/lang/StringLatin1"), (104, u "$assertionsDisabled"), (0, u "Z"), (98, .class_ 223), (1, u "java/lang/StringLatin1$LinesSpliterator"), (166, .class_ 391), (0, u "java/lang/StringLatin1$CharsSpliterator")] 3

def k37m0 : Method := { name := "<init>", desc := "()V", sig := { parameters := [], returnType := none }, accessFlags := 0, code := none }
/-- java/lang/StringLatin1 -/
def k37 : Class := { plain "java/lang/StringLatin1" (some 0) with
  accessFlags := 48
  interfaces := #[]
  cf := some (fileOf pool37 14 #[.nestMembers #[390, 221]] #[{ accessFlags := 0, nameIndex := 7, descriptorIndex := 8, attributes := #[] }] 48 4 #[] #[{ accessFlags := 4120, nameIndex := 121, descriptorIndex := 122, attributes := #[] }])
  fields := #[{ name := "$assertionsDisabled", type := .boolean, accessFlags := 4120, slot := 0, constantValue := 0 }]
  methods := #[k37m0]
  instanceTypes := #[]
  staticTypes := #[.boolean]
  resolved := Array.replicate 395 none
  statics := none }

def pool38 : Array CpInfo := pool [(2, .class_ 4), (1, u "java/lang/Object"), (0, u "<init>"), (0, u "()V"), (17, .class_ 26), (1, u "jdk/internal/util/Preconditions"), (28, .class_ 56), (0, u "jdk/internal/util/Preconditions$4"), (57, .class_ 115), (0, u "jdk/internal/util/Preconditions$1"), (7, u "SIOOBE_FORMATTER"), (0, u "Ljava/util/function/BiFunction;"), (0, .class_ 126), (0, u "jdk/internal/util/Preconditions$2"), (3, u "AIOOBE_FORMATTER"), (0, .class_ 132), (0, u "jdk/internal/util/Preconditions$3"), (3, u "IOOBE_FORMATTER")] 57

def k38m0 : Method := { name := "<init>", desc := "()V", sig := { parameters := [], returnType := none }, accessFlags := 1, code := none }
/-- jdk/internal/util/Preconditions -/
def k38 : Class := { plain "jdk/internal/util/Preconditions" (some 0) with
  accessFlags := 33
  interfaces := #[]
  cf := some (fileOf pool38 24 #[.nestMembers #[55, 131, 125, 114]] #[{ accessFlags := 1, nameIndex := 5, descriptorIndex := 6, attributes := #[] }] 33 2 #[] #[{ accessFlags := 25, nameIndex := 123, descriptorIndex := 124, attributes := #[] }, { accessFlags := 25, nameIndex := 130, descriptorIndex := 124, attributes := #[] }, { accessFlags := 25, nameIndex := 136, descriptorIndex := 124, attributes := #[] }])
  fields := #[{ name := "SIOOBE_FORMATTER", type := (.object "java/util/function/BiFunction"), accessFlags := 25, slot := 0, constantValue := 0 }, { name := "AIOOBE_FORMATTER", type := (.object "java/util/function/BiFunction"), accessFlags := 25, slot := 1, constantValue := 0 }, { name := "IOOBE_FORMATTER", type := (.object "java/util/function/BiFunction"), accessFlags := 25, slot := 2, constantValue := 0 }]
  methods := #[k38m0]
  instanceTypes := #[]
  staticTypes := #[(.object "java/util/function/BiFunction"), (.object "java/util/function/BiFunction"), (.object "java/util/function/BiFunction")]
  resolved := Array.replicate 194 none
  statics := some 3 }

def pool39 : Array CpInfo := pool [(9, u "<init>"), (6, .class_ 18), (1, u "java/lang/Object"), (0, u "()V"), (1, .class_ 23), (1, u "jdk/internal/util/ArraysSupport"), (0, u "LOG2_ARRAY_LONG_INDEX_SCALE"), (0, u "I"), (2, u "U"), (0, u "Ljdk/internal/misc/Unsafe;"), (8, u "BIG_ENDIAN"), (0, u "Z"), (8, u "LOG2_BYTE_BIT_SIZE"), (4, u "LOG2_ARRAY_INT_INDEX_SCALE"), (54, u "JLA"), (0, u "Ljdk/internal/access/JavaLangAccess;"), (11, u "LOG2_ARRAY_BOOLEAN_INDEX_SCALE"), (9, u "LOG2_ARRAY_BYTE_INDEX_SCALE"), (5, u "LOG2_ARRAY_CHAR_INDEX_SCALE"), (5, u "LOG2_ARRAY_SHORT_INDEX_SCALE"), (18, u "LOG2_ARRAY_FLOAT_INDEX_SCALE"), (24, u "LOG2_ARRAY_DOUBLE_INDEX_SCALE"), (89, u "T_BOOLEAN"), (2, u "T_CHAR"), (1, u "T_FLOAT"), (1, u "T_DOUBLE"), (1, u "T_BYTE"), (1, u "T_SHORT"), (1, u "T_INT"), (1, u "T_LONG"), (1, u "SOFT_MAX_ARRAY_LENGTH")] 83

def k39m0 : Method := { name := "<init>", desc := "()V", sig := { parameters := [], returnType := none }, accessFlags := 2, code := none }
/-- jdk/internal/util/ArraysSupport -/
def k39 : Class := { plain "jdk/internal/util/ArraysSupport" (some 0) with
  accessFlags := 33
  interfaces := #[]
  cf := some (fileOf pool39 21 #[] #[{ accessFlags := 2, nameIndex := 9, descriptorIndex := 19, attributes := #[] }] 33 16 #[] #[{ accessFlags := 24, nameIndex := 28, descriptorIndex := 29, attributes := #[] }, { accessFlags := 26, nameIndex := 38, descriptorIndex := 39, attributes := #[] }, { accessFlags := 25, nameIndex := 121, descriptorIndex := 25, attributes := #[] }, { accessFlags := 25, nameIndex := 131, descriptorIndex := 25, attributes := #[] }, { accessFlags := 25, nameIndex := 137, descriptorIndex := 25, attributes := #[] }, { accessFlags := 25, nameIndex := 143, descriptorIndex := 25, attributes := #[] }, { accessFlags := 25, nameIndex := 53, descriptorIndex := 25, attributes := #[] }, { accessFlags := 25, nameIndex := 24, descriptorIndex := 25, attributes := #[] }, { accessFlags := 25, nameIndex := 162, descriptorIndex := 25, attributes := #[] }, { accessFlags := 25, nameIndex := 187, descriptorIndex := 25, attributes := #[] }, { accessFlags := 26, nameIndex := 48, descriptorIndex := 25, attributes := #[] }, { accessFlags := 25, nameIndex := 277, descriptorIndex := 25, attributes := #[] }, { accessFlags := 25, nameIndex := 280, descriptorIndex := 25, attributes := #[] }, { accessFlags := 25, nameIndex := 282, descriptorIndex := 25, attributes := #[] }, { accessFlags := 25, nameIndex := 284, descriptorIndex := 25, attributes := #[] }, { accessFlags := 25, nameIndex := 286, descriptorIndex := 25, attributes := #[] }, { accessFlags := 25, nameIndex := 288, descriptorIndex := 25, attributes := #[] }, { accessFlags := 25, nameIndex := 290, descriptorIndex := 25, attributes := #[] }, { accessFlags := 25, nameIndex := 292, descriptorIndex := 25, attributes := #[] }, { accessFlags := 26, nameIndex := 108, descriptorIndex := 109, attributes := #[] }, { accessFlags := 25, nameIndex := 294, descriptorIndex := 25, attributes := #[] }])
  fields := #[{ name := "U", type := (.object "jdk/internal/misc/Unsafe"), accessFlags := 24, slot := 0, constantValue := 0 }, { name := "BIG_ENDIAN", type := .boolean, accessFlags := 26, slot := 1, constantValue := 0 }, { name := "LOG2_ARRAY_BOOLEAN_INDEX_SCALE", type := .int, accessFlags := 25, slot := 2, constantValue := 0 }, { name := "LOG2_ARRAY_BYTE_INDEX_SCALE", type := .int, accessFlags := 25, slot := 3, constantValue := 0 }, { name := "LOG2_ARRAY_CHAR_INDEX_SCALE", type := .int, accessFlags := 25, slot := 4, constantValue := 0 }, { name := "LOG2_ARRAY_SHORT_INDEX_SCALE", type := .int, accessFlags := 25, slot := 5, constantValue := 0 }, { name := "LOG2_ARRAY_INT_INDEX_SCALE", type := .int, accessFlags := 25, slot := 6, constantValue := 0 }, { name := "LOG2_ARRAY_LONG_INDEX_SCALE", type := .int, accessFlags := 25, slot := 7, constantValue := 0 }, { name := "LOG2_ARRAY_FLOAT_INDEX_SCALE", type := .int, accessFlags := 25, slot := 8, constantValue := 0 }, { name := "LOG2_ARRAY_DOUBLE_INDEX_SCALE", type := .int, accessFlags := 25, slot := 9, constantValue := 0 }, { name := "LOG2_BYTE_BIT_SIZE", type := .int, accessFlags := 26, slot := 10, constantValue := 0 }, { name := "T_BOOLEAN", type := .int, accessFlags := 25, slot := 11, constantValue := 0 }, { name := "T_CHAR", type := .int, accessFlags := 25, slot := 12, constantValue := 0 }, { name := "T_FLOAT", type := .int, accessFlags := 25, slot := 13, constantValue := 0 }, { name := "T_DOUBLE", type := .int, accessFlags := 25, slot := 14, constantValue := 0 }, { name := "T_BYTE", type := .int, accessFlags := 25, slot := 15, constantValue := 0 }, { name := "T_SHORT", type := .int, accessFlags := 25, slot := 16, constantValue := 0 }, { name := "T_INT", type := .int, accessFlags := 25, slot := 17, constantValue := 0 }, { name := "T_LONG", type := .int, accessFlags := 25, slot := 18, constantValue := 0 }, { name := "JLA", type := (.object "jdk/internal/access/JavaLangAccess"), accessFlags := 26, slot := 19, constantValue := 0 }, { name := "SOFT_MAX_ARRAY_LENGTH", type := .int, accessFlags := 25, slot := 20, constantValue := 0 }]
  methods := #[k39m0]
  instanceTypes := #[]
  staticTypes := #[(.object "jdk/internal/misc/Unsafe"), .boolean, .int, .int, .int, .int, .int, .int, .int, .int, .int, .int, .int, .int, .int, .int, .int, .int, .int, (.object "jdk/internal/access/JavaLangAccess"), .int]
  resolved := Array.replicate 378 none
  statics := none }

/-- the primitive byte -/
def k40 : Class := { plain "byte" none with kind := .primitive 'B', accessFlags := 0x411 }
/-- [B -/
def k41 : Class := { plain "[B" (some 0) with kind := .array 40 .byte, interfaces := #[15, 4], accessFlags := 1041 }

/-- the primitive int -/
def k42 : Class := { plain "int" none with kind := .primitive 'I', accessFlags := 0x411 }
/-- [I -/
def k43 : Class := { plain "[I" (some 0) with kind := .array 42 .int, interfaces := #[15, 4], accessFlags := 1041 }

/-- [Ljava/lang/Object; -/
def k44 : Class := { plain "[Ljava/lang/Object;" (some 0) with kind := .array 0 (.object "java/lang/Object"), interfaces := #[15, 4], accessFlags := 1041 }

def heap : Heap := #[{ cls := 6, slots := #[.ref 4, .ref 7, .ref 6, .ref 5, .null], vm := .statics 6 },
  { cls := 16, slots := #[.long 0, .int 0, .ref 8, .ref 9], vm := .statics 16 },
  { cls := 22, slots := #[.long 0, .int 1, .null, .int 0, .null, .int 0, .int 0], vm := .statics 22 },
  { cls := 38, slots := #[.null, .null, .null], vm := .statics 38 },
  { cls := 6, slots := #[.null, .int 0, .int 0, .null, .null, .null, .int 0, .int 1, .int 0, .int 0, .null, .null], vm := .none },
  { cls := 6, slots := #[.null, .int 0, .int 0, .null, .null, .null, .int 0, .int 1, .int 0, .int 0, .null, .null], vm := .none },
  { cls := 6, slots := #[.null, .int 0, .int 0, .null, .null, .null, .int 0, .int 1, .int 0, .int 0, .null, .null], vm := .none },
  { cls := 6, slots := #[.null, .int 0, .int 0, .null, .null, .null, .int 0, .int 0, .int 0, .int 0, .null, .null], vm := .none },
  { cls := 44, slots := #[], vm := .none },
  { cls := 44, slots := #[], vm := .none }]
def classes : Array Class := #[k0, k1, k2, k3, k4, k5, k6, k7, k8, k9, k10, k11, k12, k13, k14, k15, k16, k17, k18, k19, k20, k21, k22, k23, k24, k25, k26, k27, k28, k29, k30, k31, k32, k33, k34, k35, k36, k37, k38, k39, k40, k41, k42, k43, k44]
def interned : List (Array UInt16 × Addr) := []
def slotsUsed : Nat := 67
def theMethod : MethodId := ⟨1, 2⟩
def args0 : Array Value := #[.int 5]
def aboutOver (below : List Frame) : State where
  vm := { classes := classes, interned := interned.toArray }
  heap := heap
  slotsUsed := slotsUsed
  threads := #[{ frames := .invoking theMethod args0 :: below }]
def below0 : List Frame := [.native { method := ⟨0, 0⟩, args := #[] }]
def about1 : State := aboutOver below0
def p0 : Program := .bare "" "" ""
def e0 : Env := launch0.env 0 0 0
theorem w_frames : about1.frames = Frame.invoking theMethod args0 :: below0 := rfl
set_option maxRecDepth 65536 in
theorem w_args : argsFit about1.vm theMethod args0 = true := by decide +kernel
set_option maxRecDepth 65536 in
theorem w_heap : heapFits about1 = true := by decide +kernel
set_option maxRecDepth 65536 in
theorem w_runnable : about1.curStatus? = some .runnable := by decide +kernel
set_option maxRecDepth 65536 in
theorem w_alone : about1.alone = true := by decide +kernel
set_option maxRecDepth 65536 in
theorem w_named : about1.methodNamed? x = some theMethod := by decide +kernel
set_option maxRecDepth 65536 in
theorem w_hears : about1.hears theMethod below0 = true := by decide +kernel
set_option maxRecDepth 65536 in
theorem w_ripe : about1.ripe theMethod args0 below0 = true := by decide +kernel
theorem w_running : about1.status = .running := rfl
set_option maxRecDepth 65536 in
theorem w_room : about1.hasRoom e0.platform room_1 = true :=
  launch0.hasRoom_least _ room_1 (by decide +kernel) (by decide +kernel) (by decide +kernel) (by decide +kernel) (by decide +kernel) (by decide +kernel)
theorem allAtoms_all (ts : List Jvm.Cond) (a : Array Jvm.Value) (st : Jvm.State) : (allAtoms ts).before a st = ts.all (fun c => c.before a st) := by
  induction ts with
  | nil => rfl
  | cons c t ih =>
    show (Jvm.Cond.and c (allAtoms t)).before a st = _
    rw [Jvm.Cond.before_and, ih, List.all_cons]
def words1 : List Jvm.Cond := Jvm.Cond.code x code maxLocals ret :: tables_1
/-- a 'code' word, met by the world's own term for the bytes: nothing is compared byte by byte -/
theorem code_word {y : MethodName} {bytes : ByteArray} {mx : Nat} {rt : Option FieldType} {a : Array Value} {s : State} {m : MethodId} {meth : Method} {c : Code} (h1 : s.methodNamed? y = some m) (h2 : s.vm.method? m = some meth) (h3 : meth.code = some c) (h4 : c.code = bytes)
    (h5 : (c.maxLocals == mx && c.exceptionTable.isEmpty && decide (c.maxStack ≤ mostOperands) && decide (meth.sig.returnType = rt) && !meth.locks && decide (parseMethodDescriptor y.desc = some meth.sig)) = true) : (Jvm.Cond.code y bytes mx rt).before a s = true := by
  simp only [Bool.and_eq_true, beq_iff_eq, Bool.not_eq_true', decide_eq_true_eq] at h5
  obtain ⟨⟨⟨⟨⟨g1, g2⟩, g3⟩, g4⟩, g5⟩, g6⟩ := h5
  simp [Cond.before, Cond.holds, Cond.value, h1, h2, h3, h4, g1, g2, g3, g4, g5, g6]
def isCode : Jvm.Cond → Bool
  | .code _ _ _ _ => true
  | _ => false
theorem all_split {L : List Jvm.Cond} {P : Jvm.Cond → Bool} (h1 : L.all (fun c => isCode c || P c) = true) (h2 : ∀ c ∈ L.filter isCode, P c = true) : L.all P = true := by
  refine List.all_eq_true.mpr fun c hc => ?_
  have h := List.all_eq_true.mp h1 c hc
  rcases Bool.eq_false_or_eq_true (isCode c) with hi | hi
  · exact h2 c (List.mem_filter.mpr ⟨hc, hi⟩)
  · simpa [hi] using h
set_option maxRecDepth 65536 in
theorem w_c0 : (Jvm.Cond.code x code maxLocals ret).before args0 about1 = true := code_word (m := ⟨1, 2⟩) (meth := k1m2) (c := k1c2) (by decide +kernel) rfl rfl rfl (by decide +kernel)
set_option maxRecDepth 65536 in
theorem w_c1 : (Jvm.Cond.code ({ cls := "com/example/temporal_query_rewriter/temporalqueryrewriter/IslandsOfPinLaw", name := "engineAt", desc := "(I)Lcom/example/temporal_query_rewriter/temporalqueryrewriter/Engine;" } : Jvm.MethodName) method_2_code (1 : Nat) (Option.some (Jvm.ClassFile.FieldType.object "com/example/temporal_query_rewriter/temporalqueryrewriter/Engine"))).before args0 about1 = true := code_word (m := ⟨1, 1⟩) (meth := k1m1) (c := k1c1) (by decide +kernel) rfl rfl rfl (by decide +kernel)
set_option maxRecDepth 65536 in
theorem w_c2 : (Jvm.Cond.code ({ cls := "java/util/ArrayList", name := "<init>", desc := "()V" } : Jvm.MethodName) jdk_38_method_2_code (1 : Nat) (Option.none : Option Jvm.ClassFile.FieldType)).before args0 about1 = true := code_word (m := ⟨16, 0⟩) (meth := k16m0) (c := k16c0) (by decide +kernel) rfl rfl rfl (by decide +kernel)
set_option maxRecDepth 65536 in
theorem w_c3 : (Jvm.Cond.code ({ cls := "java/util/AbstractList", name := "<init>", desc := "()V" } : Jvm.MethodName) jdk_39_method_1_code (1 : Nat) (Option.none : Option Jvm.ClassFile.FieldType)).before args0 about1 = true := code_word (m := ⟨13, 0⟩) (meth := k13m0) (c := k13c0) (by decide +kernel) rfl rfl rfl (by decide +kernel)
set_option maxRecDepth 65536 in
theorem w_c4 : (Jvm.Cond.code ({ cls := "java/util/AbstractCollection", name := "<init>", desc := "()V" } : Jvm.MethodName) jdk_22_method_1_code (1 : Nat) (Option.none : Option Jvm.ClassFile.FieldType)).before args0 about1 = true := code_word (m := ⟨10, 0⟩) (meth := k10m0) (c := k10c0) (by decide +kernel) rfl rfl rfl (by decide +kernel)
set_option maxRecDepth 65536 in
theorem w_c5 : (Jvm.Cond.code ({ cls := "java/lang/Object", name := "<init>", desc := "()V" } : Jvm.MethodName) object_method_1_code (1 : Nat) (Option.none : Option Jvm.ClassFile.FieldType)).before args0 about1 = true := code_word (m := ⟨0, 0⟩) (meth := k0m0) (c := k0c0) (by decide +kernel) rfl rfl rfl (by decide +kernel)
set_option maxRecDepth 65536 in
theorem w_c6 : (Jvm.Cond.code ({ cls := "com/example/temporal_query_rewriter/temporalqueryrewriter/WithQuery", name := "<init>", desc := "(Ljava/util/Collection;Lcom/example/temporal_query_rewriter/temporalqueryrewriter/Engine;)V" } : Jvm.MethodName) prog_65_method_1_code (3 : Nat) (Option.none : Option Jvm.ClassFile.FieldType)).before args0 about1 = true := code_word (m := ⟨7, 0⟩) (meth := k7m0) (c := k7c0) (by decide +kernel) rfl rfl rfl (by decide +kernel)
set_option maxRecDepth 65536 in
theorem w_c7 : (Jvm.Cond.code ({ cls := "java/lang/StringBuilder", name := "<init>", desc := "()V" } : Jvm.MethodName) jdk_67_method_1_code (1 : Nat) (Option.none : Option Jvm.ClassFile.FieldType)).before args0 about1 = true := code_word (m := ⟨20, 0⟩) (meth := k20m0) (c := k20c0) (by decide +kernel) rfl rfl rfl (by decide +kernel)
set_option maxRecDepth 65536 in
theorem w_c8 : (Jvm.Cond.code ({ cls := "java/lang/AbstractStringBuilder", name := "<init>", desc := "(I)V" } : Jvm.MethodName) jdk_68_method_2_code (2 : Nat) (Option.none : Option Jvm.ClassFile.FieldType)).before args0 about1 = true := code_word (m := ⟨19, 1⟩) (meth := k19m1) (c := k19c1) (by decide +kernel) rfl rfl rfl (by decide +kernel)
set_option maxRecDepth 65536 in
theorem w_c9 : (Jvm.Cond.code ({ cls := "java/util/HashSet", name := "<init>", desc := "()V" } : Jvm.MethodName) jdk_93_method_1_code (1 : Nat) (Option.none : Option Jvm.ClassFile.FieldType)).before args0 about1 = true := code_word (m := ⟨25, 0⟩) (meth := k25m0) (c := k25c0) (by decide +kernel) rfl rfl rfl (by decide +kernel)
set_option maxRecDepth 65536 in
theorem w_c10 : (Jvm.Cond.code ({ cls := "java/util/AbstractSet", name := "<init>", desc := "()V" } : Jvm.MethodName) jdk_91_method_1_code (1 : Nat) (Option.none : Option Jvm.ClassFile.FieldType)).before args0 about1 = true := code_word (m := ⟨24, 0⟩) (meth := k24m0) (c := k24c0) (by decide +kernel) rfl rfl rfl (by decide +kernel)
set_option maxRecDepth 65536 in
theorem w_c11 : (Jvm.Cond.code ({ cls := "java/util/HashMap", name := "<init>", desc := "()V" } : Jvm.MethodName) jdk_69_method_7_code (1 : Nat) (Option.none : Option Jvm.ClassFile.FieldType)).before args0 about1 = true := code_word (m := ⟨28, 0⟩) (meth := k28m0) (c := k28c0) (by decide +kernel) rfl rfl rfl (by decide +kernel)
set_option maxRecDepth 65536 in
theorem w_c12 : (Jvm.Cond.code ({ cls := "java/util/AbstractMap", name := "<init>", desc := "()V" } : Jvm.MethodName) jdk_71_method_1_code (1 : Nat) (Option.none : Option Jvm.ClassFile.FieldType)).before args0 about1 = true := code_word (m := ⟨27, 0⟩) (meth := k27m0) (c := k27c0) (by decide +kernel) rfl rfl rfl (by decide +kernel)
set_option maxRecDepth 65536 in
theorem w_c13 : (Jvm.Cond.code ({ cls := "java/util/AbstractCollection", name := "addAll", desc := "(Ljava/util/Collection;)Z" } : Jvm.MethodName) jdk_22_method_12_code (5 : Nat) (Option.some Jvm.ClassFile.FieldType.boolean)).before args0 about1 = true := code_word (m := ⟨10, 1⟩) (meth := k10m1) (c := k10c1) (by decide +kernel) rfl rfl rfl (by decide +kernel)
set_option maxRecDepth 65536 in
theorem w_c14 : (Jvm.Cond.code ({ cls := "java/util/ArrayList", name := "iterator", desc := "()Ljava/util/Iterator;" } : Jvm.MethodName) jdk_38_method_55_code (1 : Nat) (Option.some (Jvm.ClassFile.FieldType.object "java/util/Iterator"))).before args0 about1 = true := code_word (m := ⟨16, 1⟩) (meth := k16m1) (c := k16c1) (by decide +kernel) rfl rfl rfl (by decide +kernel)
set_option maxRecDepth 65536 in
theorem w_c15 : (Jvm.Cond.code ({ cls := "java/util/ArrayList$Itr", name := "<init>", desc := "(Ljava/util/ArrayList;)V" } : Jvm.MethodName) jdk_49_method_1_code (2 : Nat) (Option.none : Option Jvm.ClassFile.FieldType)).before args0 about1 = true := code_word (m := ⟨30, 0⟩) (meth := k30m0) (c := k30c0) (by decide +kernel) rfl rfl rfl (by decide +kernel)
set_option maxRecDepth 65536 in
theorem w_c16 : (Jvm.Cond.code ({ cls := "java/util/ArrayList$Itr", name := "hasNext", desc := "()Z" } : Jvm.MethodName) jdk_49_method_2_code (1 : Nat) (Option.some Jvm.ClassFile.FieldType.boolean)).before args0 about1 = true := code_word (m := ⟨30, 1⟩) (meth := k30m1) (c := k30c1) (by decide +kernel) rfl rfl rfl (by decide +kernel)
set_option maxRecDepth 65536 in
theorem w_c17 : (Jvm.Cond.code ({ cls := "com/example/temporal_query_rewriter/temporalqueryrewriter/Islands", name := "of", desc := "(Lcom/example/temporal_query_rewriter/temporalqueryrewriter/Engine;Lcom/example/temporal_query_rewriter/temporalqueryrewriter/WithQuery;)Lcom/example/temporal_query_rewriter/temporalqueryrewriter/Islands;" } : Jvm.MethodName) prog_16_method_1_code (2 : Nat) (Option.some (Jvm.ClassFile.FieldType.object "com/example/temporal_query_rewriter/temporalqueryrewriter/Islands"))).before args0 about1 = true := code_word (m := ⟨31, 0⟩) (meth := k31m0) (c := k31c0) (by decide +kernel) rfl rfl rfl (by decide +kernel)
set_option maxRecDepth 65536 in
theorem w_c18 : (Jvm.Cond.code ({ cls := "com/example/temporal_query_rewriter/temporalqueryrewriter/Engine", name := "windowAggregates", desc := "()Z" } : Jvm.MethodName) prog_4_method_8_code (1 : Nat) (Option.some Jvm.ClassFile.FieldType.boolean)).before args0 about1 = true := code_word (m := ⟨6, 0⟩) (meth := k6m0) (c := k6c0) (by decide +kernel) rfl rfl rfl (by decide +kernel)
set_option maxRecDepth 65536 in
theorem w_c19 : (Jvm.Cond.code ({ cls := "com/example/temporal_query_rewriter/temporalqueryrewriter/WindowIslands", name := "<init>", desc := "(Lcom/example/temporal_query_rewriter/temporalqueryrewriter/WithQuery;)V" } : Jvm.MethodName) prog_63_method_1_code (2 : Nat) (Option.none : Option Jvm.ClassFile.FieldType)).before args0 about1 = true := code_word (m := ⟨32, 0⟩) (meth := k32m0) (c := k32c0) (by decide +kernel) rfl rfl rfl (by decide +kernel)
set_option maxRecDepth 65536 in
theorem w_c20 : (Jvm.Cond.code ({ cls := "com/example/temporal_query_rewriter/temporalqueryrewriter/WithQuery", name := "toString", desc := "()Ljava/lang/String;" } : Jvm.MethodName) prog_65_method_7_code (1 : Nat) (Option.some (Jvm.ClassFile.FieldType.object "java/lang/String"))).before args0 about1 = true := code_word (m := ⟨7, 1⟩) (meth := k7m1) (c := k7c1) (by decide +kernel) rfl rfl rfl (by decide +kernel)
set_option maxRecDepth 65536 in
theorem w_c21 : (Jvm.Cond.code ({ cls := "java/lang/StringBuilder", name := "toString", desc := "()Ljava/lang/String;" } : Jvm.MethodName) jdk_67_method_42_code (1 : Nat) (Option.some (Jvm.ClassFile.FieldType.object "java/lang/String"))).before args0 about1 = true := code_word (m := ⟨20, 1⟩) (meth := k20m1) (c := k20c1) (by decide +kernel) rfl rfl rfl (by decide +kernel)
set_option maxRecDepth 65536 in
theorem w_c22 : (Jvm.Cond.code ({ cls := "java/lang/String", name := "<init>", desc := "(Ljava/lang/StringBuilder;)V" } : Jvm.MethodName) jdk_42_method_53_code (2 : Nat) (Option.none : Option Jvm.ClassFile.FieldType)).before args0 about1 = true := code_word (m := ⟨22, 1⟩) (meth := k22m1) (c := k22c1) (by decide +kernel) rfl rfl rfl (by decide +kernel)
set_option maxRecDepth 65536 in
theorem w_c23 : (Jvm.Cond.code ({ cls := "java/lang/String", name := "<init>", desc := "(Ljava/lang/AbstractStringBuilder;Ljava/lang/Void;)V" } : Jvm.MethodName) jdk_42_method_150_code (5 : Nat) (Option.none : Option Jvm.ClassFile.FieldType)).before args0 about1 = true := code_word (m := ⟨22, 3⟩) (meth := k22m3) (c := k22c3) (by decide +kernel) rfl rfl rfl (by decide +kernel)
set_option maxRecDepth 65536 in
theorem w_c24 : (Jvm.Cond.code ({ cls := "java/lang/AbstractStringBuilder", name := "getValue", desc := "()[B" } : Jvm.MethodName) jdk_68_method_64_code (1 : Nat) (Option.some (Jvm.ClassFile.FieldType.array Jvm.ClassFile.FieldType.byte))).before args0 about1 = true := code_word (m := ⟨19, 3⟩) (meth := k19m3) (c := k19c3) (by decide +kernel) rfl rfl rfl (by decide +kernel)
set_option maxRecDepth 65536 in
theorem w_c25 : (Jvm.Cond.code ({ cls := "java/lang/StringBuilder", name := "length", desc := "()I" } : Jvm.MethodName) jdk_67_method_93_code (1 : Nat) (Option.some Jvm.ClassFile.FieldType.int)).before args0 about1 = true := code_word (m := ⟨20, 2⟩) (meth := k20m2) (c := k20c2) (by decide +kernel) rfl rfl rfl (by decide +kernel)
set_option maxRecDepth 65536 in
theorem w_c26 : (Jvm.Cond.code ({ cls := "java/lang/AbstractStringBuilder", name := "length", desc := "()I" } : Jvm.MethodName) jdk_68_method_6_code (1 : Nat) (Option.some Jvm.ClassFile.FieldType.int)).before args0 about1 = true := code_word (m := ⟨19, 2⟩) (meth := k19m2) (c := k19c2) (by decide +kernel) rfl rfl rfl (by decide +kernel)
set_option maxRecDepth 65536 in
theorem w_c27 : (Jvm.Cond.code ({ cls := "java/lang/AbstractStringBuilder", name := "isLatin1", desc := "()Z" } : Jvm.MethodName) jdk_68_method_68_code (1 : Nat) (Option.some Jvm.ClassFile.FieldType.boolean)).before args0 about1 = true := code_word (m := ⟨19, 4⟩) (meth := k19m4) (c := k19c4) (by decide +kernel) rfl rfl rfl (by decide +kernel)
set_option maxRecDepth 65536 in
theorem w_c28 : (Jvm.Cond.code ({ cls := "java/util/Arrays", name := "copyOfRange", desc := "([BII)[B" } : Jvm.MethodName) jdk_65_method_132_code (3 : Nat) (Option.some (Jvm.ClassFile.FieldType.array Jvm.ClassFile.FieldType.byte))).before args0 about1 = true := code_word (m := ⟨34, 2⟩) (meth := k34m2) (c := k34c2) (by decide +kernel) rfl rfl rfl (by decide +kernel)
set_option maxRecDepth 65536 in
theorem w_c29 : (Jvm.Cond.code ({ cls := "java/util/Arrays", name := "copyOfRangeByte", desc := "([BII)[B" } : Jvm.MethodName) jdk_65_method_133_code (5 : Nat) (Option.some (Jvm.ClassFile.FieldType.array Jvm.ClassFile.FieldType.byte))).before args0 about1 = true := code_word (m := ⟨34, 3⟩) (meth := k34m3) (c := k34c3) (by decide +kernel) rfl rfl rfl (by decide +kernel)
set_option maxRecDepth 65536 in
theorem w_c30 : (Jvm.Cond.code ({ cls := "java/util/Arrays", name := "checkLength", desc := "(II)V" } : Jvm.MethodName) jdk_65_method_131_code (2 : Nat) (Option.none : Option Jvm.ClassFile.FieldType)).before args0 about1 = true := code_word (m := ⟨34, 1⟩) (meth := k34m1) (c := k34c1) (by decide +kernel) rfl rfl rfl (by decide +kernel)
set_option maxRecDepth 65536 in
theorem w_c31 : (Jvm.Cond.code ({ cls := "java/lang/Math", name := "min", desc := "(II)I" } : Jvm.MethodName) jdk_29_method_69_code (2 : Nat) (Option.some Jvm.ClassFile.FieldType.int)).before args0 about1 = true := code_word (m := ⟨35, 1⟩) (meth := k35m1) (c := k35c1) (by decide +kernel) rfl rfl rfl (by decide +kernel)
set_option maxRecDepth 65536 in
theorem w_c32 : (Jvm.Cond.code ({ cls := "java/lang/String", name := "isEmpty", desc := "()Z" } : Jvm.MethodName) jdk_42_method_55_code (1 : Nat) (Option.some Jvm.ClassFile.FieldType.boolean)).before args0 about1 = true := code_word (m := ⟨22, 2⟩) (meth := k22m2) (c := k22c2) (by decide +kernel) rfl rfl rfl (by decide +kernel)
set_option maxRecDepth 65536 in
theorem w_c33 : (Jvm.Cond.code ({ cls := "com/example/temporal_query_rewriter/temporalqueryrewriter/SortedIslands", name := "<init>", desc := "(Lcom/example/temporal_query_rewriter/temporalqueryrewriter/WithQuery;Lcom/example/temporal_query_rewriter/temporalqueryrewriter/Engine;)V" } : Jvm.MethodName) prog_46_method_1_code (3 : Nat) (Option.none : Option Jvm.ClassFile.FieldType)).before args0 about1 = true := code_word (m := ⟨33, 0⟩) (meth := k33m0) (c := k33c0) (by decide +kernel) rfl rfl rfl (by decide +kernel)
def codes1 : List Jvm.Cond := [Jvm.Cond.code x code maxLocals ret, Jvm.Cond.code ({ cls := "com/example/temporal_query_rewriter/temporalqueryrewriter/IslandsOfPinLaw", name := "engineAt", desc := "(I)Lcom/example/temporal_query_rewriter/temporalqueryrewriter/Engine;" } : Jvm.MethodName) method_2_code (1 : Nat) (Option.some (Jvm.ClassFile.FieldType.object "com/example/temporal_query_rewriter/temporalqueryrewriter/Engine")), Jvm.Cond.code ({ cls := "java/util/ArrayList", name := "<init>", desc := "()V" } : Jvm.MethodName) jdk_38_method_2_code (1 : Nat) (Option.none : Option Jvm.ClassFile.FieldType), Jvm.Cond.code ({ cls := "java/util/AbstractList", name := "<init>", desc := "()V" } : Jvm.MethodName) jdk_39_method_1_code (1 : Nat) (Option.none : Option Jvm.ClassFile.FieldType), Jvm.Cond.code ({ cls := "java/util/AbstractCollection", name := "<init>", desc := "()V" } : Jvm.MethodName) jdk_22_method_1_code (1 : Nat) (Option.none : Option Jvm.ClassFile.FieldType), Jvm.Cond.code ({ cls := "java/lang/Object", name := "<init>", desc := "()V" } : Jvm.MethodName) object_method_1_code (1 : Nat) (Option.none : Option Jvm.ClassFile.FieldType), Jvm.Cond.code ({ cls := "com/example/temporal_query_rewriter/temporalqueryrewriter/WithQuery", name := "<init>", desc := "(Ljava/util/Collection;Lcom/example/temporal_query_rewriter/temporalqueryrewriter/Engine;)V" } : Jvm.MethodName) prog_65_method_1_code (3 : Nat) (Option.none : Option Jvm.ClassFile.FieldType), Jvm.Cond.code ({ cls := "java/lang/StringBuilder", name := "<init>", desc := "()V" } : Jvm.MethodName) jdk_67_method_1_code (1 : Nat) (Option.none : Option Jvm.ClassFile.FieldType), Jvm.Cond.code ({ cls := "java/lang/AbstractStringBuilder", name := "<init>", desc := "(I)V" } : Jvm.MethodName) jdk_68_method_2_code (2 : Nat) (Option.none : Option Jvm.ClassFile.FieldType), Jvm.Cond.code ({ cls := "java/util/HashSet", name := "<init>", desc := "()V" } : Jvm.MethodName) jdk_93_method_1_code (1 : Nat) (Option.none : Option Jvm.ClassFile.FieldType), Jvm.Cond.code ({ cls := "java/util/AbstractSet", name := "<init>", desc := "()V" } : Jvm.MethodName) jdk_91_method_1_code (1 : Nat) (Option.none : Option Jvm.ClassFile.FieldType), Jvm.Cond.code ({ cls := "java/util/HashMap", name := "<init>", desc := "()V" } : Jvm.MethodName) jdk_69_method_7_code (1 : Nat) (Option.none : Option Jvm.ClassFile.FieldType), Jvm.Cond.code ({ cls := "java/util/AbstractMap", name := "<init>", desc := "()V" } : Jvm.MethodName) jdk_71_method_1_code (1 : Nat) (Option.none : Option Jvm.ClassFile.FieldType), Jvm.Cond.code ({ cls := "java/util/AbstractCollection", name := "addAll", desc := "(Ljava/util/Collection;)Z" } : Jvm.MethodName) jdk_22_method_12_code (5 : Nat) (Option.some Jvm.ClassFile.FieldType.boolean), Jvm.Cond.code ({ cls := "java/util/ArrayList", name := "iterator", desc := "()Ljava/util/Iterator;" } : Jvm.MethodName) jdk_38_method_55_code (1 : Nat) (Option.some (Jvm.ClassFile.FieldType.object "java/util/Iterator")), Jvm.Cond.code ({ cls := "java/util/ArrayList$Itr", name := "<init>", desc := "(Ljava/util/ArrayList;)V" } : Jvm.MethodName) jdk_49_method_1_code (2 : Nat) (Option.none : Option Jvm.ClassFile.FieldType), Jvm.Cond.code ({ cls := "java/util/ArrayList$Itr", name := "hasNext", desc := "()Z" } : Jvm.MethodName) jdk_49_method_2_code (1 : Nat) (Option.some Jvm.ClassFile.FieldType.boolean), Jvm.Cond.code ({ cls := "com/example/temporal_query_rewriter/temporalqueryrewriter/Islands", name := "of", desc := "(Lcom/example/temporal_query_rewriter/temporalqueryrewriter/Engine;Lcom/example/temporal_query_rewriter/temporalqueryrewriter/WithQuery;)Lcom/example/temporal_query_rewriter/temporalqueryrewriter/Islands;" } : Jvm.MethodName) prog_16_method_1_code (2 : Nat) (Option.some (Jvm.ClassFile.FieldType.object "com/example/temporal_query_rewriter/temporalqueryrewriter/Islands")), Jvm.Cond.code ({ cls := "com/example/temporal_query_rewriter/temporalqueryrewriter/Engine", name := "windowAggregates", desc := "()Z" } : Jvm.MethodName) prog_4_method_8_code (1 : Nat) (Option.some Jvm.ClassFile.FieldType.boolean), Jvm.Cond.code ({ cls := "com/example/temporal_query_rewriter/temporalqueryrewriter/WindowIslands", name := "<init>", desc := "(Lcom/example/temporal_query_rewriter/temporalqueryrewriter/WithQuery;)V" } : Jvm.MethodName) prog_63_method_1_code (2 : Nat) (Option.none : Option Jvm.ClassFile.FieldType), Jvm.Cond.code ({ cls := "com/example/temporal_query_rewriter/temporalqueryrewriter/WithQuery", name := "toString", desc := "()Ljava/lang/String;" } : Jvm.MethodName) prog_65_method_7_code (1 : Nat) (Option.some (Jvm.ClassFile.FieldType.object "java/lang/String")), Jvm.Cond.code ({ cls := "java/lang/StringBuilder", name := "toString", desc := "()Ljava/lang/String;" } : Jvm.MethodName) jdk_67_method_42_code (1 : Nat) (Option.some (Jvm.ClassFile.FieldType.object "java/lang/String")), Jvm.Cond.code ({ cls := "java/lang/String", name := "<init>", desc := "(Ljava/lang/StringBuilder;)V" } : Jvm.MethodName) jdk_42_method_53_code (2 : Nat) (Option.none : Option Jvm.ClassFile.FieldType), Jvm.Cond.code ({ cls := "java/lang/String", name := "<init>", desc := "(Ljava/lang/AbstractStringBuilder;Ljava/lang/Void;)V" } : Jvm.MethodName) jdk_42_method_150_code (5 : Nat) (Option.none : Option Jvm.ClassFile.FieldType), Jvm.Cond.code ({ cls := "java/lang/AbstractStringBuilder", name := "getValue", desc := "()[B" } : Jvm.MethodName) jdk_68_method_64_code (1 : Nat) (Option.some (Jvm.ClassFile.FieldType.array Jvm.ClassFile.FieldType.byte)), Jvm.Cond.code ({ cls := "java/lang/StringBuilder", name := "length", desc := "()I" } : Jvm.MethodName) jdk_67_method_93_code (1 : Nat) (Option.some Jvm.ClassFile.FieldType.int), Jvm.Cond.code ({ cls := "java/lang/AbstractStringBuilder", name := "length", desc := "()I" } : Jvm.MethodName) jdk_68_method_6_code (1 : Nat) (Option.some Jvm.ClassFile.FieldType.int), Jvm.Cond.code ({ cls := "java/lang/AbstractStringBuilder", name := "isLatin1", desc := "()Z" } : Jvm.MethodName) jdk_68_method_68_code (1 : Nat) (Option.some Jvm.ClassFile.FieldType.boolean), Jvm.Cond.code ({ cls := "java/util/Arrays", name := "copyOfRange", desc := "([BII)[B" } : Jvm.MethodName) jdk_65_method_132_code (3 : Nat) (Option.some (Jvm.ClassFile.FieldType.array Jvm.ClassFile.FieldType.byte)), Jvm.Cond.code ({ cls := "java/util/Arrays", name := "copyOfRangeByte", desc := "([BII)[B" } : Jvm.MethodName) jdk_65_method_133_code (5 : Nat) (Option.some (Jvm.ClassFile.FieldType.array Jvm.ClassFile.FieldType.byte)), Jvm.Cond.code ({ cls := "java/util/Arrays", name := "checkLength", desc := "(II)V" } : Jvm.MethodName) jdk_65_method_131_code (2 : Nat) (Option.none : Option Jvm.ClassFile.FieldType), Jvm.Cond.code ({ cls := "java/lang/Math", name := "min", desc := "(II)I" } : Jvm.MethodName) jdk_29_method_69_code (2 : Nat) (Option.some Jvm.ClassFile.FieldType.int), Jvm.Cond.code ({ cls := "java/lang/String", name := "isEmpty", desc := "()Z" } : Jvm.MethodName) jdk_42_method_55_code (1 : Nat) (Option.some Jvm.ClassFile.FieldType.boolean), Jvm.Cond.code ({ cls := "com/example/temporal_query_rewriter/temporalqueryrewriter/SortedIslands", name := "<init>", desc := "(Lcom/example/temporal_query_rewriter/temporalqueryrewriter/WithQuery;Lcom/example/temporal_query_rewriter/temporalqueryrewriter/Engine;)V" } : Jvm.MethodName) prog_46_method_1_code (3 : Nat) (Option.none : Option Jvm.ClassFile.FieldType)]
set_option maxRecDepth 65536 in
theorem codes_eq : words1.filter isCode = codes1 := rfl
theorem w_codes : ∀ c ∈ words1.filter isCode, c.before args0 about1 = true := by
  rw [codes_eq]
  intro c hc
  simp only [codes1, List.mem_cons, List.not_mem_nil, or_false] at hc
  rcases hc with rfl | rfl | rfl | rfl | rfl | rfl | rfl | rfl | rfl | rfl | rfl | rfl | rfl | rfl | rfl | rfl | rfl | rfl | rfl | rfl | rfl | rfl | rfl | rfl | rfl | rfl | rfl | rfl | rfl | rfl | rfl | rfl | rfl | rfl
  · exact w_c0
  · exact w_c1
  · exact w_c2
  · exact w_c3
  · exact w_c4
  · exact w_c5
  · exact w_c6
  · exact w_c7
  · exact w_c8
  · exact w_c9
  · exact w_c10
  · exact w_c11
  · exact w_c12
  · exact w_c13
  · exact w_c14
  · exact w_c15
  · exact w_c16
  · exact w_c17
  · exact w_c18
  · exact w_c19
  · exact w_c20
  · exact w_c21
  · exact w_c22
  · exact w_c23
  · exact w_c24
  · exact w_c25
  · exact w_c26
  · exact w_c27
  · exact w_c28
  · exact w_c29
  · exact w_c30
  · exact w_c31
  · exact w_c32
  · exact w_c33
set_option maxRecDepth 65536 in
theorem w_t1 : (words1.take 24).all (fun c => isCode c || c.before args0 about1) = true := by decide +kernel
set_option maxRecDepth 65536 in
theorem w_t2 : ((words1.drop 24).take 24).all (fun c => isCode c || c.before args0 about1) = true := by decide +kernel
set_option maxRecDepth 65536 in
theorem w_t3 : (((words1.drop 24).drop 24).take 24).all (fun c => isCode c || c.before args0 about1) = true := by decide +kernel
set_option maxRecDepth 65536 in
theorem w_t4 : ((((words1.drop 24).drop 24).drop 24).take 24).all (fun c => isCode c || c.before args0 about1) = true := by decide +kernel
set_option maxRecDepth 65536 in
theorem w_t5 : (((((words1.drop 24).drop 24).drop 24).drop 24).take 24).all (fun c => isCode c || c.before args0 about1) = true := by decide +kernel
set_option maxRecDepth 65536 in
theorem w_t6 : ((((((words1.drop 24).drop 24).drop 24).drop 24).drop 24).take 24).all (fun c => isCode c || c.before args0 about1) = true := by decide +kernel
set_option maxRecDepth 65536 in
theorem w_t7 : (((((((words1.drop 24).drop 24).drop 24).drop 24).drop 24).drop 24).take 24).all (fun c => isCode c || c.before args0 about1) = true := by decide +kernel
set_option maxRecDepth 65536 in
theorem w_t8 : ((((((((words1.drop 24).drop 24).drop 24).drop 24).drop 24).drop 24).drop 24).take 24).all (fun c => isCode c || c.before args0 about1) = true := by decide +kernel
set_option maxRecDepth 65536 in
theorem w_t9 : (((((((((words1.drop 24).drop 24).drop 24).drop 24).drop 24).drop 24).drop 24).drop 24).take 24).all (fun c => isCode c || c.before args0 about1) = true := by decide +kernel
set_option maxRecDepth 65536 in
theorem w_t10 : ((((((((((words1.drop 24).drop 24).drop 24).drop 24).drop 24).drop 24).drop 24).drop 24).drop 24).take 24).all (fun c => isCode c || c.before args0 about1) = true := by decide +kernel
set_option maxRecDepth 65536 in
theorem w_t11 : ((((((((((words1.drop 24).drop 24).drop 24).drop 24).drop 24).drop 24).drop 24).drop 24).drop 24).drop 24).all (fun c => isCode c || c.before args0 about1) = true := by decide +kernel
theorem w_tables : (allAtoms (Jvm.Cond.code x code maxLocals ret :: tables_1)).before args0 about1 = true := by
  rw [allAtoms_all]
  show words1.all (fun c => c.before args0 about1) = true
  refine all_split ?_ w_codes
  rw [← List.take_append_drop 24 words1, List.all_append, w_t1, ← List.take_append_drop 24 (words1.drop 24), List.all_append, w_t2, ← List.take_append_drop 24 ((words1.drop 24).drop 24), List.all_append, w_t3, ← List.take_append_drop 24 (((words1.drop 24).drop 24).drop 24), List.all_append, w_t4, ← List.take_append_drop 24 ((((words1.drop 24).drop 24).drop 24).drop 24), List.all_append, w_t5, ← List.take_append_drop 24 (((((words1.drop 24).drop 24).drop 24).drop 24).drop 24), List.all_append, w_t6, ← List.take_append_drop 24 ((((((words1.drop 24).drop 24).drop 24).drop 24).drop 24).drop 24), List.all_append, w_t7, ← List.take_append_drop 24 (((((((words1.drop 24).drop 24).drop 24).drop 24).drop 24).drop 24).drop 24), List.all_append, w_t8, ← List.take_append_drop 24 ((((((((words1.drop 24).drop 24).drop 24).drop 24).drop 24).drop 24).drop 24).drop 24), List.all_append, w_t9, ← List.take_append_drop 24 (((((((((words1.drop 24).drop 24).drop 24).drop 24).drop 24).drop 24).drop 24).drop 24).drop 24), List.all_append, w_t10, w_t11]
  rfl
set_option maxRecDepth 65536 in
theorem w_rest : rest_1_c.before args0 about1 = true := by decide +kernel
set_option maxRecDepth 65536 in
theorem w_case : (Jvm.Cond.and given_1 narrow_1).before args0 about1 = true := by decide +kernel
theorem w_applies : (headSpec (Jvm.Cond.code x code maxLocals ret :: tables_1) room_1).applies x e0.platform about1 = true :=
  (Spec.applies_iff w_frames).mpr ⟨w_running, w_runnable, w_alone, w_named, w_hears, w_ripe, w_room, w_tables⟩
theorem atStart : AtStart classFile x code maxLocals ret World_1 tables_1 room_1 Calls_1 rest_1 Pre_1 launch0 p0 e0 about1 theMethod args0 below0 :=
  ⟨lists_1, trivial, launch0.admits_env _ _ _, launch0.least_env, fairChoices_fair.cas, fairChoices_fair.clock, w_frames, w_args, w_heap, w_applies, trivial, w_rest, w_case⟩
end start1
theorem witness_1 : WitnessClaimed_1 := ⟨start1.p0, start1.e0, start1.about1, start1.theMethod, start1.args0, start1.below0, start1.atStart⟩
end Jvm.Pilot.@@N@@
