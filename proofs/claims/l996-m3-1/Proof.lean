import JvmDerived
import JvmDerived.Pilot.@@N@@Statement
import JvmDerived.Pilot.@@N@@Code
set_option linter.unusedVariables false
set_option linter.unusedSimpArgs false
namespace Jvm.RoadKit
open Sem ClassFile Op Lib Jvm.Stand Jvm.Free Jvm.LawKit
section New
variable {p : Program} {l : Launch} {e : Env} {R : Room} {s : State} {m : MethodId} {args : Array Value} {below : List Frame} {meth : Method} {c : Code} {T : State} {locs : List Loc} {cells slots : Nat}
theorem retI (X : Stand p l e R s m args below meth c T locs cells slots) (hx : p.tables.exec = Jvm.exec) {pc : Nat} {Ls : Array Slot} {z : Int32} {rest : List Value} (hret : meth.sig.returnType = some .int) (hd : decode c.code pc = .ok (.ireturn, 1)) {fs : List Frame}
    (hl : ∀ (f : JFrame) (acts : List Action), f.method = m → f.locked = none → f.entered = [] → (doReturn e (T.setTop f) acts (some (.int z))).1 = T.setFrames fs) : Steps p.tables e below (T.setTop (mkF m pc Ls (.int z :: rest))) (T.setFrames fs) := by
  have hm' : T.vm.method? m = some meth := X.method'
  have hn : narrow .int (.int z) = .int z := rfl
  show Steps p.tables e below (T.setTop { method := m, pc := pc, locals := Ls, stack := _ :: rest, locked := none }) _
  jvm_step X.here [X.here.top, hx, hd, hm', hret, hn]
  first | (intro acts; rw [hl _ acts rfl rfl rfl]) | rw [hl _ _ rfl rfl rfl]
  exact Steps.refl _
end New
end Jvm.RoadKit
namespace Jvm.Pilot.@@N@@
open Jvm Jvm.ClassFile Sem Op Lib Jvm.Free Jvm.Stand Jvm.LawKit Jvm.RoadKit Bundle Jvm.Pilot.@@N@@.Jvm.D
theorem own_eqI {a : Array Value} {s : State} {t : Term} {n : Int32} (h : (Jvm.Cond.eq t (.int n)).value a s none s [] = some true) : t.eval a s none [] s = some (.int n) := by
  simp only [Cond.value, Term.eval] at h
  cases ht : t.eval a s none [] s with
  | none => simp [ht] at h
  | some x => cases x <;> simp [ht] at h; rw [h]
abbrev Met (l : Launch) (Z : State) (ws : List Jvm.Cond) (y : MethodName) (bytes : ByteArray) (maxL : Nat) (ret : Option FieldType) (rm : Room) (as' : Array Value) (h0 : Heap) (Q : Option Value → Heap → List Loc → Prop) : Prop :=
  MetFree l y (head1 (Jvm.Cond.code y bytes maxL ret :: ws) rm) (fun a U => a = as' ∧ Z.Warmed39 U.vm ∧ U.heap = h0) (fun _ _ _ _ _ => True) (fun _ U o U' => ∃ v L, o = .returned v ∧ Q v U'.heap L ∧ FrameEnd U o U' L rm.cells rm.slots)
abbrev MetW (l : Launch) (Z : State) (ws : List Jvm.Cond) (y : MethodName) (bytes : ByteArray) (maxL : Nat) (ret : Option FieldType) (rm : Room) (as' : Array Value) (h0 : Heap) (Q : Option Value → Heap → List Loc → Prop) : Prop :=
  MetFree l y (head1 (Jvm.Cond.code y bytes maxL ret :: ws) rm) (fun a U => a = as' ∧ Z.Warmed39 U.vm ∧ U.heap = h0) (fun _ _ _ _ _ => True) (fun _ U o U' => ∃ v L, o = .returned v ∧ Q v U'.heap L ∧ ReturnedEndW U o U' L rm.cells rm.slots)
abbrev MetH (l : Launch) (Z : State) (ws : List Jvm.Cond) (y : MethodName) (bytes : ByteArray) (maxL : Nat) (ret : Option FieldType) (rm : Room) (as' : Array Value) (h0 : Heap) (EL : List (String × Nat)) (sf : List Addr) (Q : Option Value → Heap → List Loc → Prop) : Prop :=
  MetFree l y (head1 (Jvm.Cond.code y bytes maxL ret :: ws) rm) (fun a U => a = as' ∧ Z.Warmed39 U.vm ∧ U.heap = h0 ∧ CHv Z EL U.vm h0 ∧ ∀ x ∈ sf, Safe Z EL U.vm h0 x) (fun _ _ _ _ _ => True) (fun _ U o U' => ∃ v L, o = .returned v ∧ Q v U'.heap L ∧ CHr Z EL U.vm U.heap U'.vm U'.heap ∧ ReturnedEndW U o U' L rm.cells rm.slots)
section Own
variable {l : Launch} {Z : State} {ws : List Jvm.Cond} {y : MethodName} {bytes : ByteArray} {maxL : Nat} {ret : Option FieldType} {rm : Room} {as' : Array Value} {h0 : Heap} {EL : List (String × Nat)} {sf : List Addr} {Q : Option Value → Heap → List Loc → Prop}
theorem own_mk (hp : plainFor y = true)
    (body : ∀ (p : Program) (e : Env) (s : State) (m : MethodId) (below : List Frame) (meth : Method) (c : Code) (s₁ : State), Z.Warmed39 s.vm → p.tables.exec = Jvm.exec → c.code = bytes → c.maxLocals = maxL → s.vm.findClass y.cls = some m.cls → meth.name = y.name → meth.sig.returnType = ret → meth.locks = false → Stand p l e rm s m as' below meth c s₁ [] 0 0 → s₁.heap = h0 →
      ∃ (T : State) (v : Option Value) (L : List Loc) (k n : Nat), Stand p l e rm s m as' below meth c T L k n ∧ k ≤ rm.cells ∧ n ≤ rm.slots ∧ (ret = none → v = none) ∧ Q v T.heap L ∧ ∀ fs, (∀ (f : JFrame) (acts : List Action), f.method = m → f.locked = none → f.entered = [] → (doReturn e (T.setTop f) acts v).1 = T.setFrames fs) → Steps p.tables e below (s₁.setTop (entryFrame m as' maxL)) (T.setFrames fs)) : Met l Z ws y bytes maxL ret rm as' h0 Q := by
  refine MetFree.of_bodySF hp hisR ?_
  intro p e s m args below meth c s₁ Bd hml hP hK
  obtain ⟨rfl, hZ, hh⟩ := hP
  have e0 : s₁.heap = h0 := by rw [← hh, Bd.state]; rfl
  obtain ⟨T, v, L, k, n, X, hk, hn, hv, hQ, st⟩ := body p e s m below meth c s₁ hZ Bd.exec Bd.bytes hml (findClass_of_methodNamed Bd.named) (name_of_methodNamed Bd.named Bd.method).1 Bd.returns Bd.notSynchronized (Stand.of_body Bd) e0
  obtain ⟨fs, hr, hrun, hended, hW, hsame⟩ := X.leave (v := v) (fun q => hv (Bd.returns.symm.trans q))
  exact ⟨_, _, st fs hr, hrun, hended, _, _, rfl, hQ, ⟨_, rfl⟩, hW, hsame.mono hk hn⟩
theorem own_mkW (hp : plainFor y = true)
    (body : ∀ (p : Program) (e : Env) (s : State) (m : MethodId) (below : List Frame) (meth : Method) (c : Code) (s₁ : State), Z.Warmed39 s.vm → p.tables.exec = Jvm.exec → c.code = bytes → c.maxLocals = maxL → s.vm.findClass y.cls = some m.cls → meth.name = y.name → meth.sig.returnType = ret → meth.locks = false → Stand p l e rm s m as' below meth c s₁ [] 0 0 → s₁.heap = h0 →
      ∃ (T : State) (v : Option Value) (L : List Loc) (k n : Nat) (vm1 : Vm) (n1 : Nat), Stand p l e rm (s.setVm vm1) m as' below meth c T L k n ∧ s.Since vm1 n1 ∧ n1 ≤ T.heap.size ∧ k ≤ rm.cells ∧ n ≤ rm.slots ∧ (ret = none → v = none) ∧ Q v T.heap L ∧ ∀ fs, (∀ (f : JFrame) (acts : List Action), f.method = m → f.locked = none → f.entered = [] → (doReturn e (T.setTop f) acts v).1 = T.setFrames fs) → Steps p.tables e below (s₁.setTop (entryFrame m as' maxL)) (T.setFrames fs)) : MetW l Z ws y bytes maxL ret rm as' h0 Q := by
  refine MetFree.of_bodySF hp hisR ?_
  intro p e s m args below meth c s₁ Bd hml hP hK
  obtain ⟨rfl, hZ, hh⟩ := hP
  have e0 : s₁.heap = h0 := by rw [← hh, Bd.state]; rfl
  obtain ⟨T, v, L, k, n, vm1, n1, X, hS, hn1, hk, hn, hv, hQ, st⟩ := body p e s m below meth c s₁ hZ Bd.exec Bd.bytes hml (findClass_of_methodNamed Bd.named) (name_of_methodNamed Bd.named Bd.method).1 Bd.returns Bd.notSynchronized (Stand.of_body Bd) e0
  obtain ⟨fs, hr, hrun, hended, hW⟩ := Stand.leaveW X hS hn1 (v := v) (fun q => hv (Bd.returns.symm.trans q))
  exact ⟨_, _, st fs hr, hrun, hended, _, _, rfl, hQ, hW.1, hW.2.1, hW.2.2.1, hW.2.2.2.mono hk hn⟩
theorem own_mkH (hp : plainFor y = true)
    (body : ∀ (p : Program) (e : Env) (s : State) (m : MethodId) (below : List Frame) (meth : Method) (c : Code) (s₁ : State), Z.Warmed39 s.vm → p.tables.exec = Jvm.exec → c.code = bytes → c.maxLocals = maxL → s.vm.findClass y.cls = some m.cls → meth.name = y.name → meth.sig.returnType = ret → meth.locks = false → Stand p l e rm s m as' below meth c s₁ [] 0 0 → s₁.heap = h0 → CHv Z EL s.vm h0 → (∀ x ∈ sf, Safe Z EL s.vm h0 x) →
      ∃ (T : State) (v : Option Value) (L : List Loc) (k n : Nat) (vm1 : Vm) (n1 : Nat), Stand p l e rm (s.setVm vm1) m as' below meth c T L k n ∧ s.Since vm1 n1 ∧ n1 ≤ T.heap.size ∧ k ≤ rm.cells ∧ n ≤ rm.slots ∧ (ret = none → v = none) ∧ Q v T.heap L ∧ CHr Z EL s.vm h0 T.vm T.heap ∧ ∀ fs, (∀ (f : JFrame) (acts : List Action), f.method = m → f.locked = none → f.entered = [] → (doReturn e (T.setTop f) acts v).1 = T.setFrames fs) → Steps p.tables e below (s₁.setTop (entryFrame m as' maxL)) (T.setFrames fs)) : MetH l Z ws y bytes maxL ret rm as' h0 EL sf Q := by
  refine MetFree.of_bodySF hp hisR ?_
  intro p e s m args below meth c s₁ Bd hml hP hK
  obtain ⟨rfl, hZ, hh, H0, hsf⟩ := hP
  have e0 : s₁.heap = h0 := by rw [← hh, Bd.state]; rfl
  obtain ⟨T, v, L, k, n, vm1, n1, X, hS, hn1, hk, hn, hv, hQ, hC, st⟩ := body p e s m below meth c s₁ hZ Bd.exec Bd.bytes hml (findClass_of_methodNamed Bd.named) (name_of_methodNamed Bd.named Bd.method).1 Bd.returns Bd.notSynchronized (Stand.of_body Bd) e0 H0 hsf
  obtain ⟨fs, hr, hrun, hended, hW⟩ := Stand.leaveW X hS hn1 (v := v) (fun q => hv (Bd.returns.symm.trans q))
  have hC' : CHr Z EL s.vm s.heap (T.setFrames fs).vm (T.setFrames fs).heap := by
    have a : (T.setFrames fs).vm = T.vm := rfl
    have b : (T.setFrames fs).heap = T.heap := rfl
    rw [a, b, hh]; exact hC
  exact ⟨_, _, st fs hr, hrun, hended, _, _, rfl, hQ, hC', hW.1, hW.2.1, hW.2.2.1, hW.2.2.2.mono hk hn⟩
end Own
abbrev SS (p : Program) (e : Env) (b : List Frame) (T : State) (m : MethodId) (pc : Nat) (L : Array Slot) (S : List Value) (t : State) : Prop := Steps p.tables e b (T.setTop (mkF m pc L S)) t
section OwnC
variable {p : Program} {l : Launch} {e : Env} {R : Room} {s : State} {m : MethodId} {args : Array Value} {below : List Frame} {meth : Method} {c : Code} {T : State} {locs : List Loc} {cells slots : Nat} {Z : State} {a0 : Array Value} {h : Heap} {own : String} {index ml pc maxL : Nat} {y z : MethodName} {bytes : ByteArray} {ret : Option FieldType} {rm : Room} {as' : Array Value} {Q : Option Value → Heap → List Loc → Prop} {ps : List FieldType} {r : Option FieldType} {b : Addr} {C : String}
/-- what a call asks of the room -/
abbrev Rok (R rm : Room) (cells slots maxL W : Nat) (y : MethodName) : Prop := (y.cls ≠ "java/lang/invoke/MethodHandle" ∧ y.cls ≠ "java/lang/invoke/VarHandle") ∧ rm.frames + 1 ≤ R.frames ∧ W + (maxL + 11) + rm.locals ≤ R.locals ∧ cells + rm.cells ≤ R.cells ∧ slots + rm.slots ≤ R.slots
theorem own_cs (X : Stand p l e R s m args below meth c T locs cells slots) (hx : p.tables.exec = Jvm.exec) (hZ : Z.Warmed39 s.vm) (hown : s.vm.findClass own = some m.cls) (hml : c.maxLocals = ml) (w1 : (Jvm.Cond.methodLink own index y).before a0 Z = true) (w2 : (Jvm.Cond.static y).before a0 Z = true) (w3 : (Jvm.Cond.initialized y.cls).before a0 Z = true) (w4 : (Jvm.Cond.code y bytes maxL ret).before a0 Z = true)
    (hM : Met l Z [] y bytes maxL ret rm as' h Q) (eT : T.heap = h) (hd : decode c.code pc = .ok (.invokestatic index, 3)) (W : Nat) (Ls : Array Slot) (argsL rest : List Value) (pd : parseMethodDescriptor y.desc = some ⟨ps, r⟩) (ok : Rok R rm cells slots maxL W y) (hsz : Ls.size = ml) (hln : argsL.length = ps.length) (has : argsL.toArray = as') (hW : 2 * 0 + (rest.map fun v => v.category).sum ≤ W) :
    ∃ v T' L', Stand p l e R s m args below meth c T' (locs ++ L') (cells + rm.cells) (slots + rm.slots) ∧ Q v T'.heap L' ∧ ∀ t, SS p e below T' m (pc + 3) Ls (v.toList ++ rest) t → SS p e below T m pc Ls (argsL.reverse ++ rest) t := by
  obtain ⟨v, _, ⟨T', L, k, n⟩, -, X', ⟨Lc, hQ, rfl, rfl, rfl⟩, st⟩ := Jvm.LawKit.callS X hx (y := y) hown (mvT hZ w1) (mvT hZ w2) (mvT hZ w3) (mvT hZ w4) ok.1 (backOf (W := W) hM hZ w4 w3 ok.2.1 ok.2.2.1) (g := mkF m pc Ls (argsL.reverse ++ rest)) rfl (hsz.trans hml.symm) (argsL := argsL) (rest := rest) (lenOf pd hln) rfl hW hd (fun _ _ => ⟨has, eT, ok.2.2.2.1, ok.2.2.2.2⟩)
  exact ⟨v, T', Lc, X', hQ, st⟩
theorem own_cp (X : Stand p l e R s m args below meth c T locs cells slots) (hx : p.tables.exec = Jvm.exec) (hZ : Z.Warmed39 s.vm) (hown : s.vm.findClass own = some m.cls) (hml : c.maxLocals = ml) (hy : y.name = "<init>") (w1 : (Jvm.Cond.methodLink own index y).before a0 Z = true) (w2 : (Jvm.Cond.instanceMethod y).before a0 Z = true) (w3 : (Jvm.Cond.initialized y.cls).before a0 Z = true) (w4 : (Jvm.Cond.code y bytes maxL none).before a0 Z = true)
    (hM : Met l Z [] y bytes maxL none rm as' h Q) (eT : T.heap = h) (hd : decode c.code pc = .ok (.invokespecial index, 3)) (W : Nat) (Ls : Array Slot) (b : Addr) (argsL rest : List Value) (pd : parseMethodDescriptor y.desc = some ⟨ps, r⟩) (ok : Rok R rm cells slots maxL W y) (hsz : Ls.size = ml) (hln : argsL.length = ps.length) (has : (.ref b :: argsL).toArray = as') (hW : 2 * 0 + (rest.map fun v => v.category).sum ≤ W) :
    ∃ v T' L', Stand p l e R s m args below meth c T' (locs ++ L') (cells + rm.cells) (slots + rm.slots) ∧ Q v T'.heap L' ∧ ∀ t, SS p e below T' m (pc + 3) Ls (v.toList ++ rest) t → SS p e below T m pc Ls (argsL.reverse ++ .ref b :: rest) t := by
  obtain ⟨v, _, ⟨T', L, k, n⟩, -, X', ⟨Lc, hQ, rfl, rfl, rfl⟩, st⟩ := X.specialBack hx (y := y) hy hown (mvT hZ w1) (mvT hZ w2) (mvT hZ w4) ok.1 (backOf (W := W) hM hZ w4 w3 ok.2.1 ok.2.2.1) (g := mkF m pc Ls (argsL.reverse ++ .ref b :: rest)) rfl (hsz.trans hml.symm) (Steps.refl _) (a := b) (argsL := argsL) (rest := rest) (lenOf pd hln) rfl hW hd (fun _ _ => ⟨has, eT, ok.2.2.2.1, ok.2.2.2.2⟩)
  exact ⟨v, T', Lc, X', hQ, fun t q => st.trans q⟩
theorem own_cv (X : Stand p l e R s m args below meth c T locs cells slots) (hx : p.tables.exec = Jvm.exec) (hZ : Z.Warmed39 s.vm) (hown : s.vm.findClass own = some m.cls) (hml : c.maxLocals = ml) (w1 : (Jvm.Cond.methodLink own index y).before a0 Z = true) (w2 : (Jvm.Cond.declares y).before a0 Z = true) (nf : NotFace Z y) (ws : (Jvm.Cond.selects C y z).before a0 Z = true) (wi : (Jvm.Cond.instanceMethod z).before a0 Z = true) (w3 : (Jvm.Cond.initialized z.cls).before a0 Z = true) (w4 : (Jvm.Cond.code z bytes maxL ret).before a0 Z = true)
    (hM : Met l Z [] z bytes maxL ret rm as' h Q) (eT : T.heap = h) (E : Exa Z h b C) (hd : decode c.code pc = .ok (.invokevirtual index, 3)) (W : Nat) (Ls : Array Slot) (argsL rest : List Value) (pd : parseMethodDescriptor y.desc = some ⟨ps, r⟩) (ok : Rok R rm cells slots maxL W y) (hsz : Ls.size = ml) (hln : argsL.length = ps.length) (has : (.ref b :: argsL).toArray = as') (hW : 2 * 0 + (rest.map fun v => v.category).sum ≤ W) :
    ∃ v T' L', Stand p l e R s m args below meth c T' (locs ++ L') (cells + rm.cells) (slots + rm.slots) ∧ Q v T'.heap L' ∧ ∀ t, SS p e below T' m (pc + 3) Ls (v.toList ++ rest) t → SS p e below T m pc Ls (argsL.reverse ++ .ref b :: rest) t := by
  obtain ⟨cB, kB, qa, qb, qc⟩ := isOf hZ eT E
  obtain ⟨v, _, ⟨T', L, k, n⟩, -, X', ⟨Lc, hQ, rfl, rfl, rfl⟩, st⟩ := X.virtualBack hx (y := y) (z := z) hown (mvT hZ w1) (mvT hZ w2) (nf.move hZ.alike) (mvT hZ ws) (mvT hZ wi) ok.1 (backOf (W := W) hM hZ w4 w3 ok.2.1 ok.2.2.1) qa qc (g := mkF m pc Ls (argsL.reverse ++ .ref b :: rest)) rfl (hsz.trans hml.symm) (Steps.refl _) (argsL := argsL) (rest := rest) (lenOf pd hln) rfl hW hd (fun _ _ => ⟨has, eT, ok.2.2.2.1, ok.2.2.2.2⟩)
  exact ⟨v, T', Lc, X', hQ, fun t q => st.trans q⟩
end OwnC
theorem own_che {Z T : State} {EL : List (String × Nat)} {vm : Vm} {h0 h : Heap} (e : T.heap = h) (C : CHr Z EL vm h0 T.vm h) : CHr Z EL vm h0 T.vm T.heap := by rw [e]; exact C
theorem own_sf0 {Z : State} {EL : List (String × Nat)} {vm : Vm} {h : Heap} : ∀ x ∈ ([] : List Addr), Safe Z EL vm h x ∧ x < h.size := fun _ q => nomatch q
theorem own_sfS {Z : State} {EL : List (String × Nat)} {vm : Vm} {h : Heap} {x : Addr} {ws : List Addr} (n : Safe Z EL vm h x) (lt : x < h.size) (r : ∀ y ∈ ws, Safe Z EL vm h y ∧ y < h.size) : ∀ y ∈ x :: ws, Safe Z EL vm h y ∧ y < h.size := fun y q => by
  rcases List.mem_cons.mp q with rfl | q
  · exact ⟨n, lt⟩
  · exact r y q
theorem own_backH {l : Launch} {R : Room} {p : Program} {e : Env} {below : List Frame} {Z s : State} {a0 args : Array Value} {EL : List (String × Nat)} {h : Heap} {vm0 : Vm} {y : MethodName} {bytes : ByteArray} {maxL : Nat} {ret : Option FieldType} {rm : Room} {len W : Nat} {as' : Array Value} {sf : List Addr} {Q : Option Value → Heap → List Loc → Prop}
    (hM : MetFree l y (head1 [Jvm.Cond.code y bytes maxL ret] rm) (fun a U => a = as' ∧ Z.Warmed39 U.vm ∧ U.heap = h ∧ CHv Z EL U.vm h ∧ ∀ x ∈ sf, Safe Z EL U.vm h x) (fun _ _ _ _ _ => True) (fun _ U o U' => ∃ v L, o = .returned v ∧ Q v U'.heap L ∧ CHr Z EL U.vm U.heap U'.vm U'.heap ∧ ReturnedEndW U o U' L rm.cells rm.slots))
    (hZ : Z.Warmed39 vm0) (wc : (Jvm.Cond.code y bytes maxL ret).before a0 Z = true) (wz : (Jvm.Cond.initialized y.cls).before a0 Z = true) (hf : rm.frames + 1 ≤ R.frames) (hl : W + (maxL + 11) + rm.locals ≤ R.locals) (hEL : EW Z a0 EL) (H : CHv Z EL vm0 h) (hs : ∀ x ∈ sf, Safe Z EL vm0 h x ∧ x < h.size) :
    BackS l R p e below (s.setVm vm0) args y len W (fun A a => a = as' ∧ A.U.heap = h ∧ A.cells + rm.cells ≤ R.cells ∧ A.slots + rm.slots ≤ R.slots)
      (fun A _ v B => ∃ L, Q v B.U.heap L ∧ B.locs = A.locs ++ L ∧ B.cells = A.cells + rm.cells ∧ B.slots = A.slots + rm.slots ∧ CHr Z EL vm0 h B.U.vm B.U.heap) := by
  refine BackS.of_freeW (bytes := bytes) (maxL := maxL) (ret := ret) (E := fun _ first o t L k n => (k = rm.cells ∧ n = rm.slots) ∧ (∃ v, o = .returned v ∧ Q v t.heap L) ∧ CHr Z EL first.vm first.heap t.vm t.heap) hM hf hl ?_ ?_ ?_ ?_ ?_
  · intro m meth c A a Y hp
    have hU : Z.Warmed39 A.U.vm := wtrans (s := s.setVm vm0) hZ Y.warmed
    refine ⟨?_, mv hU wc, mv hU wz, hp.2.2.1, hp.2.2.2⟩
    show (Jvm.Cond.and _ .tt).before a A.U = true
    rw [Cond.before_and, mv hU wc]; rfl
  · intro m meth c A a g mk Y hp
    have q := CHv.at Y hZ hEL H
    exact ⟨hp.1, wtrans (s := s.setVm vm0) hZ Y.warmed, hp.2.1, q.1, fun x hx => q.safe (hs x hx).2 (hs x hx).1⟩
  · intros; trivial
  · rintro _ _ _ _ ⟨v, L, h1, h2, h3, h4⟩
    exact ⟨L, _, _, h4, ⟨rfl, rfl⟩, ⟨v, h1, h2⟩, h3⟩
  · rintro m meth c A a g mk v t L k n Y hp - - ⟨⟨rfl, rfl⟩, ⟨v', e3, e4⟩, e5⟩
    cases e3
    refine ⟨L, e4, rfl, rfl, rfl, (CHv.at Y hZ hEL H).trans ?_⟩
    have e6 : (A.U.calling g mk a).heap = h := hp.2.1
    rw [e6] at e5
    exact e5
def Elt (Z : State) (h : Heap) (a : Addr) (ty : FieldType) (j : Int32) (v : Value) : Prop := ∃ c : Cell, Arr Z h a c ty ∧ ¬ (j < 0 ∨ c.slots.size ≤ j.toNatClampNeg) ∧ c.slots[j.toNatClampNeg]? = some v
theorem Elt.ext {Z : State} {h h' : Heap} {a : Addr} {ty : FieldType} {j : Int32} {v : Value} (F : Elt Z h a ty j v) (E : Ext h h') : Elt Z h' a ty j v := by obtain ⟨c, A, r⟩ := F; exact ⟨c, A.ext E, r⟩
theorem Elt.lt {Z : State} {h : Heap} {a : Addr} {ty : FieldType} {j : Int32} {v : Value} (F : Elt Z h a ty j v) : a < h.size := by obtain ⟨c, A, -⟩ := F; exact A.lt
theorem own_arvty {Z : State} {h : Heap} {a b : Addr} {k1 k2 : ClassId} {t1 t2 : FieldType} {z1 z2 : Int32} {v1 v2 : List Value} {d1 d2 : Value} (A : Arv Z h a k1 t1 z1 v1 d1) (B : Arv Z h b k2 t2 z2 v2 d2) (hn : t1 ≠ t2) : a ≠ b := fun e => by
  subst e
  obtain ⟨c1, ⟨a1, ⟨-, q1, r1, m1, w1⟩, -⟩, -⟩ := A
  obtain ⟨c2, ⟨a2, ⟨-, q2, r2, m2, w2⟩, -⟩, -⟩ := B
  cases a1.symm.trans a2
  cases r1.symm.trans r2
  rw [w1] at w2
  injection w2 with _ e2
  exact hn e2
theorem own_decl {args : Array Value} {s : State} {y : MethodName} {bytes : ByteArray} {maxL : Nat} {ret : Option FieldType} (hi : (Jvm.Cond.instanceMethod y).before args s = true) (hc : (Jvm.Cond.code y bytes maxL ret).before args s = true) : (Jvm.Cond.declares y).before args s = true := by
  obtain ⟨mk, methM, hnamed, hmethM, hst, hab⟩ := Cond.instanceMethod_spec hi
  obtain ⟨m2, cM, q1, -, -, -, -, -, -, hsig⟩ := Cond.code_spec hnamed hc
  cases hmethM.symm.trans q1
  simp [Cond.before, Cond.holds, Cond.value, hnamed, hmethM, hst, hsig]
theorem own_char (x : Int32) (h1 : ¬ ((255 : Int32) < x)) (h2 : ¬ (x < (0 : Int32))) : x.toUInt32.toUInt16.toUInt32.toInt32 = x ∧ (x.toInt8.toInt32 &&& (255 : Int32)) = x := by
  have e1 := c_i2c x
  have e2 := c_mask x.toInt8.toInt32 255 8 (by decide) (by decide)
  have e3 := c_i2b x
  simp only [Int32.lt_iff_toInt_lt, Int32.reduceToInt] at h1 h2
  constructor
  · rw [← Int32.toInt_inj]; omega
  · rw [← Int32.toInt_inj, e2]; omega
theorem own_c255 (x : Int32) : ¬ ((255 : Int32) < (x &&& (255 : Int32))) ∧ ¬ ((x &&& (255 : Int32)) < (0 : Int32)) := by
  have e2 := c_mask x 255 8 (by decide) (by decide)
  simp only [Int32.lt_iff_toInt_lt, Int32.reduceToInt, e2]
  omega
theorem own_narB (x : Int32) : nar .byte (x.toInt8.toInt32) = x.toInt8.toInt32 := by
  show x.toInt8.toInt32.toInt8.toInt32 = x.toInt8.toInt32
  simp
theorem own_narC (x : Int32) : nar .char (x.toUInt32.toUInt16.toUInt32.toInt32) = x.toUInt32.toUInt16.toUInt32.toInt32 := by
  show x.toUInt32.toUInt16.toUInt32.toInt32.toUInt32.toUInt16.toUInt32.toInt32 = _
  have e1 := c_i2c x
  have e2 := c_i2c (x.toUInt32.toUInt16.toUInt32.toInt32)
  rw [← Int32.toInt_inj]; omega
theorem own_nput {t : FieldType} {x : Int32} (ht : t = .boolean ∨ t = .byte ∨ t = .char ∨ t = .short) (h : nar t x = x) : narrow t (.int x) = .int x := by
  have q : narrow t (.int x) = .int (nar t x) := by rcases ht with rfl | rfl | rfl | rfl <;> rfl
  rw [q, h]
theorem own_fput {t : FieldType} {x : Int32} (ht : t = .boolean ∨ t = .byte ∨ t = .char ∨ t = .short) (h : nar t x = x) : fits t (.int x) = true := by
  rw [← h]
  rcases ht with rfl | rfl | rfl | rfl
  · exact fits_nar_bool x
  · exact fits_nar_byte x
  · exact fits_nar_char x
  · exact fits_nar_short x
theorem own_nf {args : Array Value} {s : State} {C : String} {x y z : MethodName} (e : z.cls = y.cls) (hsel : (Jvm.Cond.selects C x y).before args s = true) : NotFace s z := fun r0 h0 => by
  obtain ⟨c2, r2, m2, q1, q2, q3, q4, kP, hkP, hkPi⟩ := Cond.selects_spec hsel
  have a := findClass_of_methodNamed h0
  have b := findClass_of_methodNamed q3
  rw [e] at a
  have q : r0.cls = m2.cls := Option.some.inj (a.symm.trans b)
  exact ⟨kP, by rw [q]; exact hkP, hkPi⟩
theorem own_same {args : Array Value} {s : State} {y : MethodName} (hm : y.cls ≠ "java/lang/invoke/MethodHandle" ∧ y.cls ≠ "java/lang/invoke/VarHandle") (hd : (Jvm.Cond.instanceMethod y).before args s = true) (nf : NotFace s y) : (Jvm.Cond.sameMethod y.cls y.cls y.name y.desc).before args s = true := by
  obtain ⟨mk, methM, hnamed, hmethM, hstM, habM⟩ := Cond.instanceMethod_spec hd
  obtain ⟨k, hk, hni⟩ := nf mk hnamed
  have a := findClass_of_methodNamed hnamed
  have f := State.methodFound?_of_named hnamed hm
  have hnamed' : s.methodNamed? ⟨y.cls, y.name, y.desc⟩ = some mk := hnamed
  simp [Cond.before, Cond.holds, Cond.value, a, f, hnamed', hk, hni]
theorem own_neI {a : Array Value} {s : State} {t : Term} {n x : Int32} (e : t.eval a s none [] s = some (.int x)) (h : (Jvm.Cond.not (.eq t (.int n))).value a s none s [] = some true) : ¬ (x = n) := by
  have h := not_v h
  simp only [Cond.value, Term.eval, e] at h
  simpa using h
theorem own_eqR {a : Array Value} {s : State} {t u : Term} {b : Addr} (hu : u.eval a s none [] s = some (.ref b)) (h : (Jvm.Cond.eq t u).value a s none s [] = some true) : t.eval a s none [] s = some (.ref b) := by
  simp only [Cond.value, hu] at h
  cases ht : t.eval a s none [] s with
  | none => simp [ht] at h
  | some x => cases x <;> simp [ht] at h; rw [h]
abbrev Y0 : MethodName := ⟨"com/example/dossiertools/dossiertools/LeafStateAfterPinLaw", "state", "(I)Lcom/example/dossiertools/dossiertools/LeafState;"⟩
abbrev Y1 : MethodName := ⟨"com/example/dossiertools/dossiertools/LeafStateAfterPinLaw", "operation", "(I)Lcom/example/dossiertools/dossiertools/Operation;"⟩
abbrev Y2 : MethodName := ⟨"com/example/dossiertools/dossiertools/LeafState", "after", "(Lcom/example/dossiertools/dossiertools/Operation;)Lcom/example/dossiertools/dossiertools/LeafState;"⟩
abbrev FA3 (Z : State) (h : Heap) (a : Addr) (v : Value) : Prop := Fld Z h a "java/lang/Enum" "ordinal" "I" v
abbrev EA4 (Z : State) (h : Heap) (a : Addr) : Prop := Exa Z h a "com/example/dossiertools/dossiertools/LeafState"
abbrev EA5 (Z : State) (h : Heap) (a : Addr) : Prop := Exa Z h a "com/example/dossiertools/dossiertools/Operation"
abbrev SA6 (Z : State) (h : Heap) (v : Value) : Prop := Sta Z h "com/example/dossiertools/dossiertools/LeafState" "CURRENT" "Lcom/example/dossiertools/dossiertools/LeafState;" v
abbrev SA7 (Z : State) (h : Heap) (v : Value) : Prop := Sta Z h "com/example/dossiertools/dossiertools/Operation" "NEW" "Lcom/example/dossiertools/dossiertools/Operation;" v
abbrev SA8 (Z : State) (h : Heap) (v : Value) : Prop := Sta Z h "com/example/dossiertools/dossiertools/Operation" "REPLACE" "Lcom/example/dossiertools/dossiertools/Operation;" v
abbrev SA9 (Z : State) (h : Heap) (v : Value) : Prop := Sta Z h "com/example/dossiertools/dossiertools/Operation" "DELETE" "Lcom/example/dossiertools/dossiertools/Operation;" v
abbrev SA10 (Z : State) (h : Heap) (v : Value) : Prop := Sta Z h "com/example/dossiertools/dossiertools/Operation" "APPEND" "Lcom/example/dossiertools/dossiertools/Operation;" v
abbrev SA11 (Z : State) (h : Heap) (v : Value) : Prop := Sta Z h "com/example/dossiertools/dossiertools/LeafState" "NO_LONGER_RELEVANT" "Lcom/example/dossiertools/dossiertools/LeafState;" v
abbrev SA12 (Z : State) (h : Heap) (v : Value) : Prop := Sta Z h "com/example/dossiertools/dossiertools/LeafState" "DELETION" "Lcom/example/dossiertools/dossiertools/LeafState;" v
abbrev SA13 (Z : State) (h : Heap) (v : Value) : Prop := Sta Z h "com/example/dossiertools/dossiertools/LeafState" "CURRENT_APPENDED" "Lcom/example/dossiertools/dossiertools/LeafState;" v
abbrev SA14 (Z : State) (h : Heap) (v : Value) : Prop := Sta Z h "com/example/dossiertools/dossiertools/LeafState" "REPLACED" "Lcom/example/dossiertools/dossiertools/LeafState;" v
abbrev HW (Z : State) (a0 : Array Value) : Prop := ∀ d ∈ tables_1, d.before a0 Z = true
def Q0 (n0 : Nat) (v : Option Value) (L : List Loc) : Prop := v = some (.int (1 : Int32)) ∧ Fr n0 L
theorem d_0 : decode method_3_code 0 = .ok (.iload_n 0, 1) := by decide +kernel
theorem d_1 : decode method_3_code 1 = .ok (.ifCond .ne 7, 3) := by decide +kernel
theorem d_2 : decode method_3_code 4 = .ok (.getstatic 24, 3) := by decide +kernel
theorem d_3 : decode method_3_code 7 = .ok (.areturn, 1) := by decide +kernel
theorem ef_4 (m : MethodId)  : entryFrame m #[(.int (0 : Int32))] 1 = mkF m 0 #[iv (0 : Int32)] [] := by first | (simp [entryFrame, mkF, argsToLocals, Value.category]; done) | rfl
theorem pn_5 : plainName "com/example/dossiertools/dossiertools/LeafStateAfterPinLaw" = true := by first | (simp [plainName, overriddenIn]; done) | decide +kernel
-- com/example/dossiertools/dossiertools/LeafStateAfterPinLaw.state(I)Lcom/example/dossiertools/dossiertools/LeafState;
def Q1_state (Z : State) (a1 : Addr) (h0 : Heap) (n0 : Nat) (v : Option Value) (h : Heap) (L : List Loc) : Prop := v = some (.ref a1) ∧ Fr n0 L ∧ h = h0
set_option maxRecDepth 65536 in
set_option maxHeartbeats 40000000 in
theorem rm1_state (l : Launch) (Z : State) (a0 : Array Value) (hw : HW Z a0) (a1 : Addr) (h0 : Heap) (n0 : Nat) (O0 : Old Z n0 h0) (S_0 : SA6 Z Z.heap (.ref a1)) :
    Met l Z [] Y0 method_3_code 1 (some (.object "com/example/dossiertools/dossiertools/LeafState")) ({ frames := 0, cells := 0, slots := 0, locals := 0 } : Room) #[(.int (0 : Int32))] h0 (Q1_state Z a1 h0 n0) := by
  have W := fun (i : Nat) {c : Jvm.Cond} (q : tables_1[i]? = some c) => hw c (List.mem_of_getElem? q)
  refine own_mk (plainFor_of_name pn_5) ?_
  intro p e s m below meth c s₁ hZ hx hby hml hown hnm hret hlk X0 e0
  have N0 := Fr.nil n0
  obtain ⟨T1, X1, e1, st1⟩ := getS2 X0 hx hZ hown (host := "") (Or.inl (W 5 rfl)) Via.refl e0 (S_0.ext O0.2) (g := (mkF m 4 #[iv (0 : Int32)] [])) rfl (hb hby d_2)
  refine ⟨T1, some (.ref a1), _, _, _, X1, by decide, by decide, nofun, ?_, fun fs hr => castTop (ef_4 m ) ?_⟩
  · show Q1_state Z a1 h0 n0 _ T1.heap _
    rw [e1]
    exact ⟨rfl, N0, rfl⟩
  · show SS p e below s₁ m 0 #[iv (0 : Int32)] [] _
    refine XS.iloadN X0.here hx rfl (hb hby d_0) rfl ?_
    show SS p e below s₁ m 1 #[iv (0 : Int32)] [(.int (0 : Int32))] _
    refine XS.ifNo X0.here hx rfl (hb hby d_1) rfl ((if0 _ _).trans (teq (by decide : (0 : Int32) = (0 : Int32))).2) ?_
    show SS p e below s₁ m 4 #[iv (0 : Int32)] [] _
    refine st1 _ ?_
    show SS p e below T1 m 7 #[iv (0 : Int32)] [(.ref a1)] _
    exact retOut X1 hx hret rfl (Or.inr (Or.inr (Or.inr (Or.inr ⟨rfl, rfl, rfl⟩)))) (hb hby d_3) hr
theorem pd_6 : parseMethodDescriptor "(I)Lcom/example/dossiertools/dossiertools/LeafState;" = some ⟨[.int], some (.object "com/example/dossiertools/dossiertools/LeafState")⟩ := by decide +kernel
theorem d_7 : decode method_4_code 0 = .ok (.iload_n 0, 1) := by decide +kernel
theorem d_8 : decode method_4_code 1 = .ok (.ifCond .ne 7, 3) := by decide +kernel
theorem d_9 : decode method_4_code 4 = .ok (.getstatic 40, 3) := by decide +kernel
theorem d_10 : decode method_4_code 7 = .ok (.areturn, 1) := by decide +kernel
-- com/example/dossiertools/dossiertools/LeafStateAfterPinLaw.operation(I)Lcom/example/dossiertools/dossiertools/Operation;
def Q2_operation (Z : State) (a1 : Addr) (h0 : Heap) (n0 : Nat) (v : Option Value) (h : Heap) (L : List Loc) : Prop := v = some (.ref a1) ∧ Fr n0 L ∧ h = h0
set_option maxRecDepth 65536 in
set_option maxHeartbeats 40000000 in
theorem rm2_operation (l : Launch) (Z : State) (a0 : Array Value) (hw : HW Z a0) (a1 : Addr) (h0 : Heap) (n0 : Nat) (O0 : Old Z n0 h0) (S_0 : SA7 Z Z.heap (.ref a1)) :
    Met l Z [] Y1 method_4_code 1 (some (.object "com/example/dossiertools/dossiertools/Operation")) ({ frames := 0, cells := 0, slots := 0, locals := 0 } : Room) #[(.int (0 : Int32))] h0 (Q2_operation Z a1 h0 n0) := by
  have W := fun (i : Nat) {c : Jvm.Cond} (q : tables_1[i]? = some c) => hw c (List.mem_of_getElem? q)
  refine own_mk (plainFor_of_name pn_5) ?_
  intro p e s m below meth c s₁ hZ hx hby hml hown hnm hret hlk X0 e0
  have N0 := Fr.nil n0
  obtain ⟨T1, X1, e1, st1⟩ := getS2 X0 hx hZ hown (host := "") (Or.inl (W 33 rfl)) Via.refl e0 (S_0.ext O0.2) (g := (mkF m 4 #[iv (0 : Int32)] [])) rfl (hb hby d_9)
  refine ⟨T1, some (.ref a1), _, _, _, X1, by decide, by decide, nofun, ?_, fun fs hr => castTop (ef_4 m ) ?_⟩
  · show Q2_operation Z a1 h0 n0 _ T1.heap _
    rw [e1]
    exact ⟨rfl, N0, rfl⟩
  · show SS p e below s₁ m 0 #[iv (0 : Int32)] [] _
    refine XS.iloadN X0.here hx rfl (hb hby d_7) rfl ?_
    show SS p e below s₁ m 1 #[iv (0 : Int32)] [(.int (0 : Int32))] _
    refine XS.ifNo X0.here hx rfl (hb hby d_8) rfl ((if0 _ _).trans (teq (by decide : (0 : Int32) = (0 : Int32))).2) ?_
    show SS p e below s₁ m 4 #[iv (0 : Int32)] [] _
    refine st1 _ ?_
    show SS p e below T1 m 7 #[iv (0 : Int32)] [(.ref a1)] _
    exact retOut X1 hx hret rfl (Or.inr (Or.inr (Or.inr (Or.inr ⟨rfl, rfl, rfl⟩)))) (hb hby d_10) hr
theorem pd_11 : parseMethodDescriptor "(I)Lcom/example/dossiertools/dossiertools/Operation;" = some ⟨[.int], some (.object "com/example/dossiertools/dossiertools/Operation")⟩ := by decide +kernel
theorem d_12 : decode prog_38_method_5_code 0 = .ok (.aload_n 0, 1) := by decide +kernel
theorem d_13 : decode prog_38_method_5_code 1 = .ok (.getstatic 3, 3) := by decide +kernel
theorem d_14 : decode prog_38_method_5_code 4 = .ok (.if_acmp .eq 15, 3) := by decide +kernel
theorem d_15 : decode prog_38_method_5_code 19 = .ok (.aload_n 1, 1) := by decide +kernel
theorem d_16 : decode prog_38_method_5_code 20 = .ok (.getstatic 58, 3) := by decide +kernel
theorem d_17 : decode prog_38_method_5_code 23 = .ok (.if_acmp .ne 10, 3) := by decide +kernel
theorem d_18 : decode prog_38_method_5_code 33 = .ok (.aload_n 1, 1) := by decide +kernel
theorem d_19 : decode prog_38_method_5_code 34 = .ok (.getstatic 42, 3) := by decide +kernel
theorem d_20 : decode prog_38_method_5_code 37 = .ok (.if_acmp .ne 10, 3) := by decide +kernel
theorem d_21 : decode prog_38_method_5_code 47 = .ok (.aload_n 1, 1) := by decide +kernel
theorem d_22 : decode prog_38_method_5_code 48 = .ok (.getstatic 61, 3) := by decide +kernel
theorem d_23 : decode prog_38_method_5_code 51 = .ok (.if_acmp .ne 10, 3) := by decide +kernel
theorem d_24 : decode prog_38_method_5_code 61 = .ok (.aload_n 0, 1) := by decide +kernel
theorem d_25 : decode prog_38_method_5_code 62 = .ok (.astore_n 2, 1) := by decide +kernel
theorem d_26 : decode prog_38_method_5_code 63 = .ok (.aload_n 2, 1) := by decide +kernel
theorem d_27 : decode prog_38_method_5_code 64 = .ok (.areturn, 1) := by decide +kernel
theorem ef_28 (m : MethodId) (a1 : Addr) (a2 : Addr) : entryFrame m #[(.ref a1), (.ref a2)] 3 = mkF m 0 #[rv a1, rv a2, .unset] [] := by first | (simp [entryFrame, mkF, argsToLocals, Value.category]; done) | rfl
theorem pn_29 : plainName "com/example/dossiertools/dossiertools/LeafState" = true := by first | (simp [plainName, overriddenIn]; done) | decide +kernel
-- com/example/dossiertools/dossiertools/LeafState.after(Lcom/example/dossiertools/dossiertools/Operation;)Lcom/example/dossiertools/dossiertools/LeafState;
def Q3_after (Z : State) (a1 : Addr) (a2 : Addr) (a3 : Addr) (a4 : Addr) (a5 : Addr) (h0 : Heap) (n0 : Nat) (v : Option Value) (h : Heap) (L : List Loc) : Prop := v = some (.ref a1) ∧ Fr n0 L ∧ h = h0
set_option maxRecDepth 65536 in
set_option maxHeartbeats 40000000 in
theorem rm3_after (l : Launch) (Z : State) (a0 : Array Value) (hw : HW Z a0) (a1 : Addr) (a2 : Addr) (a3 : Addr) (a4 : Addr) (a5 : Addr) (h0 : Heap) (n0 : Nat) (O0 : Old Z n0 h0) (S_0 : SA6 Z Z.heap (.ref a1)) (S_1 : SA8 Z Z.heap (.ref a3)) (ne_2 : a2 ≠ a3) (S_3 : SA9 Z Z.heap (.ref a4)) (ne_4 : a2 ≠ a4) (S_5 : SA10 Z Z.heap (.ref a5)) (ne_6 : a2 ≠ a5) :
    Met l Z [] Y2 prog_38_method_5_code 3 (some (.object "com/example/dossiertools/dossiertools/LeafState")) ({ frames := 0, cells := 0, slots := 0, locals := 0 } : Room) #[(.ref a1), (.ref a2)] h0 (Q3_after Z a1 a2 a3 a4 a5 h0 n0) := by
  have W := fun (i : Nat) {c : Jvm.Cond} (q : tables_1[i]? = some c) => hw c (List.mem_of_getElem? q)
  refine own_mk (plainFor_of_name pn_29) ?_
  intro p e s m below meth c s₁ hZ hx hby hml hown hnm hret hlk X0 e0
  have N0 := Fr.nil n0
  obtain ⟨T1, X1, e1, st1⟩ := getS2 X0 hx hZ hown (host := "") (Or.inl (W 19 rfl)) Via.refl e0 (S_0.ext O0.2) (g := (mkF m 1 #[rv a1, rv a2, .unset] [(.ref a1)])) rfl (hb hby d_13)
  obtain ⟨T2, X2, e2, st2⟩ := getS2 X1 hx hZ hown (host := "") (Or.inl (W 20 rfl)) Via.refl e1 (S_1.ext O0.2) (g := (mkF m 20 #[rv a1, rv a2, .unset] [(.ref a2)])) rfl (hb hby d_16)
  obtain ⟨T3, X3, e3, st3⟩ := getS2 X2 hx hZ hown (host := "") (Or.inl (W 22 rfl)) Via.refl e2 (S_3.ext O0.2) (g := (mkF m 34 #[rv a1, rv a2, .unset] [(.ref a2)])) rfl (hb hby d_19)
  obtain ⟨T4, X4, e4, st4⟩ := getS2 X3 hx hZ hown (host := "") (Or.inl (W 35 rfl)) Via.refl e3 (S_5.ext O0.2) (g := (mkF m 48 #[rv a1, rv a2, .unset] [(.ref a2)])) rfl (hb hby d_22)
  refine ⟨T4, some (.ref a1), _, _, _, X4, by decide, by decide, nofun, ?_, fun fs hr => castTop (ef_28 m a1 a2) ?_⟩
  · show Q3_after Z a1 a2 a3 a4 a5 h0 n0 _ T4.heap _
    rw [e4]
    exact ⟨rfl, N0, rfl⟩
  · show SS p e below s₁ m 0 #[rv a1, rv a2, .unset] [] _
    refine XS.aloadN X0.here hx rfl (hb hby d_12) rfl rfl ?_
    show SS p e below s₁ m 1 #[rv a1, rv a2, .unset] [(.ref a1)] _
    refine st1 _ ?_
    show SS p e below T1 m 4 #[rv a1, rv a2, .unset] [(.ref a1), (.ref a1)] _
    refine Jvm.RoadKit.acmp (g := (mkF m 4 #[rv a1, rv a2, .unset] [(.ref a1), (.ref a1)])) X1 hx rfl rfl rfl (pc0 := 4) (pc' := 19) (same := true) rfl (hb hby d_14) rfl (decide_eq_true rfl) (by decide) (by decide) ?_
    show SS p e below T1 m 19 #[rv a1, rv a2, .unset] [] _
    refine XS.aloadN X1.here hx rfl (hb hby d_15) rfl rfl ?_
    show SS p e below T1 m 20 #[rv a1, rv a2, .unset] [(.ref a2)] _
    refine st2 _ ?_
    show SS p e below T2 m 23 #[rv a1, rv a2, .unset] [(.ref a3), (.ref a2)] _
    refine Jvm.RoadKit.acmp (g := (mkF m 23 #[rv a1, rv a2, .unset] [(.ref a3), (.ref a2)])) X2 hx rfl rfl rfl (pc0 := 23) (pc' := 33) (same := false) rfl (hb hby d_17) rfl (decide_eq_false fun q => ne_2 (Value.ref.inj q)) (by decide) (by decide) ?_
    show SS p e below T2 m 33 #[rv a1, rv a2, .unset] [] _
    refine XS.aloadN X2.here hx rfl (hb hby d_18) rfl rfl ?_
    show SS p e below T2 m 34 #[rv a1, rv a2, .unset] [(.ref a2)] _
    refine st3 _ ?_
    show SS p e below T3 m 37 #[rv a1, rv a2, .unset] [(.ref a4), (.ref a2)] _
    refine Jvm.RoadKit.acmp (g := (mkF m 37 #[rv a1, rv a2, .unset] [(.ref a4), (.ref a2)])) X3 hx rfl rfl rfl (pc0 := 37) (pc' := 47) (same := false) rfl (hb hby d_20) rfl (decide_eq_false fun q => ne_4 (Value.ref.inj q)) (by decide) (by decide) ?_
    show SS p e below T3 m 47 #[rv a1, rv a2, .unset] [] _
    refine XS.aloadN X3.here hx rfl (hb hby d_21) rfl rfl ?_
    show SS p e below T3 m 48 #[rv a1, rv a2, .unset] [(.ref a2)] _
    refine st4 _ ?_
    show SS p e below T4 m 51 #[rv a1, rv a2, .unset] [(.ref a5), (.ref a2)] _
    refine Jvm.RoadKit.acmp (g := (mkF m 51 #[rv a1, rv a2, .unset] [(.ref a5), (.ref a2)])) X4 hx rfl rfl rfl (pc0 := 51) (pc' := 61) (same := false) rfl (hb hby d_23) rfl (decide_eq_false fun q => ne_6 (Value.ref.inj q)) (by decide) (by decide) ?_
    show SS p e below T4 m 61 #[rv a1, rv a2, .unset] [] _
    refine XS.aloadN X4.here hx rfl (hb hby d_24) rfl rfl ?_
    show SS p e below T4 m 62 #[rv a1, rv a2, .unset] [(.ref a1)] _
    refine XS.astoreN X4.here hx rfl (hb hby d_25) rfl rfl (l' := #[rv a1, rv a2, rv a1]) rfl ?_
    show SS p e below T4 m 63 #[rv a1, rv a2, rv a1] [] _
    refine XS.aloadN X4.here hx rfl (hb hby d_26) rfl rfl ?_
    show SS p e below T4 m 64 #[rv a1, rv a2, rv a1] [(.ref a1)] _
    exact retOut X4 hx hret rfl (Or.inr (Or.inr (Or.inr (Or.inr ⟨rfl, rfl, rfl⟩)))) (hb hby d_27) hr
theorem pd_30 : parseMethodDescriptor "(Lcom/example/dossiertools/dossiertools/Operation;)Lcom/example/dossiertools/dossiertools/LeafState;" = some ⟨[(.object "com/example/dossiertools/dossiertools/Operation")], some (.object "com/example/dossiertools/dossiertools/LeafState")⟩ := by decide +kernel
theorem ef_31 (m : MethodId) (p1 : Int32) (p2 : Int32) : entryFrame m #[(.int p1), (.int p2)] maxLocals = mkF m 0 #[iv p1, iv p2, .unset, .unset, .unset, .unset, .unset, .unset] [] := by first | (simp [entryFrame, mkF, argsToLocals, Value.category]; done) | rfl
set_option maxRecDepth 65536 in
set_option maxHeartbeats 40000000 in
theorem rm0_0_0 (l : Launch) (Z : State) (a0 : Array Value) (hw : HW Z a0) (ws : List Jvm.Cond) (p1 : Int32) (p2 : Int32) (o_CURRENT : Addr) (o_DELETE : Addr) (o_REPLACE : Addr) (o_NO_LONGER_RELEVANT : Addr) (o_DELETION : Addr) (o_APPEND : Addr) (o_CURRENT_APPENDED : Addr) (o_NEW : Addr) (o_REPLACED : Addr) (h0 : Heap) (n0 : Nat) (O0 : Old Z n0 h0) (S_o_CURRENT : SA6 Z Z.heap (.ref o_CURRENT)) (E_o_CURRENT : EA4 Z Z.heap o_CURRENT) (S_o_DELETE : SA9 Z Z.heap (.ref o_DELETE)) (E_o_DELETE : EA5 Z Z.heap o_DELETE) (S_o_REPLACE : SA8 Z Z.heap (.ref o_REPLACE)) (E_o_REPLACE : EA5 Z Z.heap o_REPLACE) (S_o_NO_LONGER_RELEVANT : SA11 Z Z.heap (.ref o_NO_LONGER_RELEVANT)) (E_o_NO_LONGER_RELEVANT : EA4 Z Z.heap o_NO_LONGER_RELEVANT) (S_o_DELETION : SA12 Z Z.heap (.ref o_DELETION)) (E_o_DELETION : EA4 Z Z.heap o_DELETION) (S_o_APPEND : SA10 Z Z.heap (.ref o_APPEND)) (E_o_APPEND : EA5 Z Z.heap o_APPEND) (S_o_CURRENT_APPENDED : SA13 Z Z.heap (.ref o_CURRENT_APPENDED)) (E_o_CURRENT_APPENDED : EA4 Z Z.heap o_CURRENT_APPENDED) (S_o_NEW : SA7 Z Z.heap (.ref o_NEW)) (E_o_NEW : EA5 Z Z.heap o_NEW) (S_o_REPLACED : SA14 Z Z.heap (.ref o_REPLACED)) (E_o_REPLACED : EA4 Z Z.heap o_REPLACED) (F_o_DELETE_ordinal : FA3 Z Z.heap o_DELETE (.int (3 : Int32))) (F_o_REPLACE_ordinal : FA3 Z Z.heap o_REPLACE (.int (2 : Int32))) (F_o_DELETION_ordinal : FA3 Z Z.heap o_DELETION (.int (4 : Int32))) (F_o_CURRENT_ordinal : FA3 Z Z.heap o_CURRENT (.int (0 : Int32))) (F_o_CURRENT_APPENDED_ordinal : FA3 Z Z.heap o_CURRENT_APPENDED (.int (1 : Int32))) (F_o_NO_LONGER_RELEVANT_ordinal : FA3 Z Z.heap o_NO_LONGER_RELEVANT (.int (3 : Int32))) (F_o_NEW_ordinal : FA3 Z Z.heap o_NEW (.int (0 : Int32))) (F_o_APPEND_ordinal : FA3 Z Z.heap o_APPEND (.int (1 : Int32))) (F_o_REPLACED_ordinal : FA3 Z Z.heap o_REPLACED (.int (2 : Int32))) (hs : ((p1 &&& (2147483647 : Int32)) % (5 : Int32)) = (0 : Int32)) (hf : (p2 &&& (3 : Int32)) = (0 : Int32)) :
    Met l Z ws x code maxLocals ret room_1 #[(.int p1), (.int p2)] h0 (fun v _ L => Q0 n0 v L) := by
  have W := fun (i : Nat) {c : Jvm.Cond} (q : tables_1[i]? = some c) => hw c (List.mem_of_getElem? q)
  refine own_mk (plainFor_of_name pn_5) ?_
  intro p e s m below meth c s₁ hZ hx hby hml hown hnm hret hlk X0 e0
  have N0 := Fr.nil n0
  obtain ⟨_, T1, L1, X1, hQ1, st1⟩ := own_cs X0 hx hZ hown hml (W 1 rfl) (W 2 rfl) (W 3 rfl) (W 4 rfl) (rm1_state l Z a0 hw o_CURRENT h0 n0 O0 (S_o_CURRENT)) e0 (hb hby at_12) 0 #[iv p1, iv p2, iv (0 : Int32), iv (0 : Int32), .unset, .unset, .unset, .unset] [(.int (0 : Int32))] [] pd_6 (by decide) rfl rfl rfl (Nat.le_of_eq rfl)
  obtain ⟨rfl, N1q, K1⟩ := hQ1
  have N2 := Fr.app N0 N1q
  obtain ⟨_, T3, L3, X3, hQ3, st3⟩ := own_cs X1 hx hZ hown hml (W 8 rfl) (W 9 rfl) (W 3 rfl) (W 10 rfl) (rm2_operation l Z a0 hw o_NEW h0 n0 O0 (S_o_NEW)) K1 (hb hby at_18) 0 #[iv p1, iv p2, iv (0 : Int32), iv (0 : Int32), rv o_CURRENT, .unset, .unset, .unset] [(.int (0 : Int32))] [] pd_11 (by decide) rfl rfl rfl (Nat.le_of_eq rfl)
  obtain ⟨rfl, N3q, K3⟩ := hQ3
  have N4 := Fr.app N2 N3q
  obtain ⟨_, T5, L5, X5, hQ5, st5⟩ := own_cv X3 hx hZ hown hml (W 14 rfl) (W 15 rfl) (notFace_of_selects (W 17 rfl)) (W 17 rfl) (W 16 rfl) (W 6 rfl) (W 18 rfl) (rm3_after l Z a0 hw o_CURRENT o_NEW o_REPLACE o_DELETE o_APPEND h0 n0 O0 (S_o_CURRENT) (S_o_REPLACE) ((Fld.ne F_o_NEW_ordinal F_o_REPLACE_ordinal (by decide))) (S_o_DELETE) ((Fld.ne F_o_NEW_ordinal F_o_DELETE_ordinal (by decide))) (S_o_APPEND) ((Fld.ne F_o_NEW_ordinal F_o_APPEND_ordinal (by decide)))) K3 (E_o_CURRENT.ext O0.2) (hb hby at_27) 0 #[iv p1, iv p2, iv (0 : Int32), iv (0 : Int32), rv o_CURRENT, rv o_NEW, .unset, .unset] [(.ref o_NEW)] [] pd_30 (by decide) rfl rfl rfl (Nat.le_of_eq rfl)
  obtain ⟨rfl, N5q, K5⟩ := hQ5
  have N6 := Fr.app N4 N5q
  obtain ⟨_, T7, L7, X7, hQ7, st7⟩ := own_cs X5 hx hZ hown hml (W 1 rfl) (W 2 rfl) (W 3 rfl) (W 4 rfl) (rm1_state l Z a0 hw o_CURRENT h0 n0 O0 (S_o_CURRENT)) K5 (hb hby at_60) 1 #[iv p1, iv p2, iv (0 : Int32), iv (0 : Int32), rv o_CURRENT, rv o_NEW, rv o_CURRENT, iv (0 : Int32)] [(.int (0 : Int32))] [(.ref o_CURRENT)] pd_6 (by decide) rfl rfl rfl (Nat.le_of_eq rfl)
  obtain ⟨rfl, N7q, K7⟩ := hQ7
  have N8 := Fr.app N6 N7q
  refine ⟨T7, some (.int (1 : Int32)), _, _, _, X7, by decide, by decide, nofun, ?_, fun fs hr => castTop (ef_31 m p1 p2) ?_⟩
  · exact ⟨rfl, N8⟩
  · show SS p e below s₁ m 0 #[iv p1, iv p2, .unset, .unset, .unset, .unset, .unset, .unset] [] _
    refine XS.iloadN X0.here hx rfl (hb hby at_0) rfl ?_
    show SS p e below s₁ m 1 #[iv p1, iv p2, .unset, .unset, .unset, .unset, .unset, .unset] [(.int p1)] _
    refine X0.ldcInt hx hown (mvT hZ (W 0 rfl)) (g := (mkF m 1 #[iv p1, iv p2, .unset, .unset, .unset, .unset, .unset, .unset] [(.int p1)])) rfl (hb hby at_1) _ ?_
    show SS p e below s₁ m 3 #[iv p1, iv p2, .unset, .unset, .unset, .unset, .unset, .unset] [(.int (2147483647 : Int32)), (.int p1)] _
    refine XS.iand X0.here hx rfl (hb hby at_3) rfl ?_
    show SS p e below s₁ m 4 #[iv p1, iv p2, .unset, .unset, .unset, .unset, .unset, .unset] [(.int (p1 &&& (2147483647 : Int32)))] _
    refine XS.iconst X0.here hx rfl (hb hby at_4) ?_
    show SS p e below s₁ m 5 #[iv p1, iv p2, .unset, .unset, .unset, .unset, .unset, .unset] [(.int (5 : Int32)), (.int (p1 &&& (2147483647 : Int32)))] _
    refine iremM (g := (mkF m 5 #[iv p1, iv p2, .unset, .unset, .unset, .unset, .unset, .unset] [(.int (5 : Int32)), (.int (p1 &&& (2147483647 : Int32)))])) X0 hx rfl (hb hby at_5) rfl (by decide : ¬ ((5 : Int32) = (0 : Int32))) ?_
    rw [hs]
    show SS p e below s₁ m 6 #[iv p1, iv p2, .unset, .unset, .unset, .unset, .unset, .unset] [(.int (0 : Int32))] _
    refine XS.istoreN X0.here hx rfl (hb hby at_6) rfl (l' := #[iv p1, iv p2, iv (0 : Int32), .unset, .unset, .unset, .unset, .unset]) rfl ?_
    show SS p e below s₁ m 7 #[iv p1, iv p2, iv (0 : Int32), .unset, .unset, .unset, .unset, .unset] [] _
    refine XS.iloadN X0.here hx rfl (hb hby at_7) rfl ?_
    refine XS.iconst X0.here hx rfl (hb hby at_8) ?_
    show SS p e below s₁ m 9 #[iv p1, iv p2, iv (0 : Int32), .unset, .unset, .unset, .unset, .unset] [(.int (3 : Int32)), (.int p2)] _
    refine XS.iand X0.here hx rfl (hb hby at_9) rfl ?_
    rw [hf]
    show SS p e below s₁ m 10 #[iv p1, iv p2, iv (0 : Int32), .unset, .unset, .unset, .unset, .unset] [(.int (0 : Int32))] _
    refine XS.istoreN X0.here hx rfl (hb hby at_10) rfl (l' := #[iv p1, iv p2, iv (0 : Int32), iv (0 : Int32), .unset, .unset, .unset, .unset]) rfl ?_
    show SS p e below s₁ m 11 #[iv p1, iv p2, iv (0 : Int32), iv (0 : Int32), .unset, .unset, .unset, .unset] [] _
    refine XS.iloadN X0.here hx rfl (hb hby at_11) rfl ?_
    show SS p e below s₁ m 12 #[iv p1, iv p2, iv (0 : Int32), iv (0 : Int32), .unset, .unset, .unset, .unset] [(.int (0 : Int32))] _
    refine st1 _ ?_
    show SS p e below T1 m 15 #[iv p1, iv p2, iv (0 : Int32), iv (0 : Int32), .unset, .unset, .unset, .unset] [(.ref o_CURRENT)] _
    refine XS.astore X1.here hx rfl (hb hby at_15) rfl rfl (l' := #[iv p1, iv p2, iv (0 : Int32), iv (0 : Int32), rv o_CURRENT, .unset, .unset, .unset]) rfl ?_
    show SS p e below T1 m 17 #[iv p1, iv p2, iv (0 : Int32), iv (0 : Int32), rv o_CURRENT, .unset, .unset, .unset] [] _
    refine XS.iloadN X1.here hx rfl (hb hby at_17) rfl ?_
    show SS p e below T1 m 18 #[iv p1, iv p2, iv (0 : Int32), iv (0 : Int32), rv o_CURRENT, .unset, .unset, .unset] [(.int (0 : Int32))] _
    refine st3 _ ?_
    show SS p e below T3 m 21 #[iv p1, iv p2, iv (0 : Int32), iv (0 : Int32), rv o_CURRENT, .unset, .unset, .unset] [(.ref o_NEW)] _
    refine XS.astore X3.here hx rfl (hb hby at_21) rfl rfl (l' := #[iv p1, iv p2, iv (0 : Int32), iv (0 : Int32), rv o_CURRENT, rv o_NEW, .unset, .unset]) rfl ?_
    show SS p e below T3 m 23 #[iv p1, iv p2, iv (0 : Int32), iv (0 : Int32), rv o_CURRENT, rv o_NEW, .unset, .unset] [] _
    refine XS.aload X3.here hx rfl (hb hby at_23) rfl rfl ?_
    refine XS.aload X3.here hx rfl (hb hby at_25) rfl rfl ?_
    show SS p e below T3 m 27 #[iv p1, iv p2, iv (0 : Int32), iv (0 : Int32), rv o_CURRENT, rv o_NEW, .unset, .unset] [(.ref o_NEW), (.ref o_CURRENT)] _
    refine st5 _ ?_
    show SS p e below T5 m 30 #[iv p1, iv p2, iv (0 : Int32), iv (0 : Int32), rv o_CURRENT, rv o_NEW, .unset, .unset] [(.ref o_CURRENT)] _
    refine XS.astore X5.here hx rfl (hb hby at_30) rfl rfl (l' := #[iv p1, iv p2, iv (0 : Int32), iv (0 : Int32), rv o_CURRENT, rv o_NEW, rv o_CURRENT, .unset]) rfl ?_
    show SS p e below T5 m 32 #[iv p1, iv p2, iv (0 : Int32), iv (0 : Int32), rv o_CURRENT, rv o_NEW, rv o_CURRENT, .unset] [] _
    refine XS.iloadN X5.here hx rfl (hb hby at_32) rfl ?_
    refine XS.iconst X5.here hx rfl (hb hby at_33) ?_
    show SS p e below T5 m 34 #[iv p1, iv p2, iv (0 : Int32), iv (0 : Int32), rv o_CURRENT, rv o_NEW, rv o_CURRENT, .unset] [(.int (2 : Int32)), (.int (0 : Int32))] _
    refine XS.icmpYes X5.here hx rfl (pc0 := 34) (pc' := 43) rfl (hb hby at_34) rfl (tlt (by decide : (0 : Int32) < (2 : Int32))).1 (by decide) (by decide) ?_
    show SS p e below T5 m 43 #[iv p1, iv p2, iv (0 : Int32), iv (0 : Int32), rv o_CURRENT, rv o_NEW, rv o_CURRENT, .unset] [] _
    refine XS.iloadN X5.here hx rfl (hb hby at_43) rfl ?_
    show SS p e below T5 m 44 #[iv p1, iv p2, iv (0 : Int32), iv (0 : Int32), rv o_CURRENT, rv o_NEW, rv o_CURRENT, .unset] [(.int (0 : Int32))] _
    refine XS.ifNo X5.here hx rfl (hb hby at_44) rfl ((if0 _ _).trans (teq (by decide : (0 : Int32) = (0 : Int32))).2) ?_
    show SS p e below T5 m 47 #[iv p1, iv p2, iv (0 : Int32), iv (0 : Int32), rv o_CURRENT, rv o_NEW, rv o_CURRENT, .unset] [] _
    refine XS.iloadN X5.here hx rfl (hb hby at_47) rfl ?_
    show SS p e below T5 m 48 #[iv p1, iv p2, iv (0 : Int32), iv (0 : Int32), rv o_CURRENT, rv o_NEW, rv o_CURRENT, .unset] [(.int (0 : Int32))] _
    refine XS.istore X5.here hx rfl (hb hby at_48) rfl (l' := #[iv p1, iv p2, iv (0 : Int32), iv (0 : Int32), rv o_CURRENT, rv o_NEW, rv o_CURRENT, iv (0 : Int32)]) rfl ?_
    show SS p e below T5 m 50 #[iv p1, iv p2, iv (0 : Int32), iv (0 : Int32), rv o_CURRENT, rv o_NEW, rv o_CURRENT, iv (0 : Int32)] [] _
    refine XS.goto X5.here hx rfl (pc0 := 50) (pc' := 56) rfl (hb hby at_50) (by decide) (by decide) ?_
    refine XS.aload X5.here hx rfl (hb hby at_56) rfl rfl ?_
    refine XS.iload X5.here hx rfl (hb hby at_58) rfl ?_
    show SS p e below T5 m 60 #[iv p1, iv p2, iv (0 : Int32), iv (0 : Int32), rv o_CURRENT, rv o_NEW, rv o_CURRENT, iv (0 : Int32)] [(.int (0 : Int32)), (.ref o_CURRENT)] _
    refine st7 _ ?_
    show SS p e below T7 m 63 #[iv p1, iv p2, iv (0 : Int32), iv (0 : Int32), rv o_CURRENT, rv o_NEW, rv o_CURRENT, iv (0 : Int32)] [(.ref o_CURRENT), (.ref o_CURRENT)] _
    refine Jvm.RoadKit.acmp (g := (mkF m 63 #[iv p1, iv p2, iv (0 : Int32), iv (0 : Int32), rv o_CURRENT, rv o_NEW, rv o_CURRENT, iv (0 : Int32)] [(.ref o_CURRENT), (.ref o_CURRENT)])) X7 hx rfl rfl rfl (pc0 := 63) (pc' := 66) (same := true) rfl (hb hby at_63) rfl (decide_eq_true rfl) (by decide) (by decide) ?_
    show SS p e below T7 m 66 #[iv p1, iv p2, iv (0 : Int32), iv (0 : Int32), rv o_CURRENT, rv o_NEW, rv o_CURRENT, iv (0 : Int32)] [] _
    refine XS.iconst X7.here hx rfl (hb hby at_66) ?_
    refine XS.goto X7.here hx rfl (pc0 := 67) (pc' := 71) rfl (hb hby at_67) (by decide) (by decide) ?_
    show SS p e below T7 m 71 #[iv p1, iv p2, iv (0 : Int32), iv (0 : Int32), rv o_CURRENT, rv o_NEW, rv o_CURRENT, iv (0 : Int32)] [(.int (1 : Int32))] _
    exact retN X7 hx (t := .boolean) hret (by simp) (hb hby at_71) hr
theorem d_32 : decode method_4_code 8 = .ok (.iload_n 0, 1) := by decide +kernel
theorem d_33 : decode method_4_code 9 = .ok (.iconst 1, 1) := by decide +kernel
theorem d_34 : decode method_4_code 10 = .ok (.if_icmp .ne 7, 3) := by decide +kernel
theorem d_35 : decode method_4_code 13 = .ok (.getstatic 46, 3) := by decide +kernel
theorem d_36 : decode method_4_code 16 = .ok (.areturn, 1) := by decide +kernel
theorem ef_37 (m : MethodId)  : entryFrame m #[(.int (1 : Int32))] 1 = mkF m 0 #[iv (1 : Int32)] [] := by first | (simp [entryFrame, mkF, argsToLocals, Value.category]; done) | rfl
-- com/example/dossiertools/dossiertools/LeafStateAfterPinLaw.operation(I)Lcom/example/dossiertools/dossiertools/Operation;
def Q4_operation (Z : State) (a1 : Addr) (h0 : Heap) (n0 : Nat) (v : Option Value) (h : Heap) (L : List Loc) : Prop := v = some (.ref a1) ∧ Fr n0 L ∧ h = h0
set_option maxRecDepth 65536 in
set_option maxHeartbeats 40000000 in
theorem rm4_operation (l : Launch) (Z : State) (a0 : Array Value) (hw : HW Z a0) (a1 : Addr) (h0 : Heap) (n0 : Nat) (O0 : Old Z n0 h0) (S_0 : SA10 Z Z.heap (.ref a1)) :
    Met l Z [] Y1 method_4_code 1 (some (.object "com/example/dossiertools/dossiertools/Operation")) ({ frames := 0, cells := 0, slots := 0, locals := 0 } : Room) #[(.int (1 : Int32))] h0 (Q4_operation Z a1 h0 n0) := by
  have W := fun (i : Nat) {c : Jvm.Cond} (q : tables_1[i]? = some c) => hw c (List.mem_of_getElem? q)
  refine own_mk (plainFor_of_name pn_5) ?_
  intro p e s m below meth c s₁ hZ hx hby hml hown hnm hret hlk X0 e0
  have N0 := Fr.nil n0
  obtain ⟨T1, X1, e1, st1⟩ := getS2 X0 hx hZ hown (host := "") (Or.inl (W 28 rfl)) Via.refl e0 (S_0.ext O0.2) (g := (mkF m 13 #[iv (1 : Int32)] [])) rfl (hb hby d_35)
  refine ⟨T1, some (.ref a1), _, _, _, X1, by decide, by decide, nofun, ?_, fun fs hr => castTop (ef_37 m ) ?_⟩
  · show Q4_operation Z a1 h0 n0 _ T1.heap _
    rw [e1]
    exact ⟨rfl, N0, rfl⟩
  · show SS p e below s₁ m 0 #[iv (1 : Int32)] [] _
    refine XS.iloadN X0.here hx rfl (hb hby d_7) rfl ?_
    show SS p e below s₁ m 1 #[iv (1 : Int32)] [(.int (1 : Int32))] _
    refine XS.ifYes X0.here hx rfl (pc0 := 1) (pc' := 8) rfl (hb hby d_8) rfl ((if0 _ _).trans (feq (by decide : ¬ ((1 : Int32) = (0 : Int32)))).2) (by decide) (by decide) ?_
    show SS p e below s₁ m 8 #[iv (1 : Int32)] [] _
    refine XS.iloadN X0.here hx rfl (hb hby d_32) rfl ?_
    refine XS.iconst X0.here hx rfl (hb hby d_33) ?_
    show SS p e below s₁ m 10 #[iv (1 : Int32)] [(.int (1 : Int32)), (.int (1 : Int32))] _
    refine XS.icmpNo X0.here hx rfl (hb hby d_34) rfl (teq (by decide : (1 : Int32) = (1 : Int32))).2 ?_
    show SS p e below s₁ m 13 #[iv (1 : Int32)] [] _
    refine st1 _ ?_
    show SS p e below T1 m 16 #[iv (1 : Int32)] [(.ref a1)] _
    exact retOut X1 hx hret rfl (Or.inr (Or.inr (Or.inr (Or.inr ⟨rfl, rfl, rfl⟩)))) (hb hby d_36) hr
theorem d_38 : decode prog_38_method_5_code 54 = .ok (.getstatic 7, 3) := by decide +kernel
theorem d_39 : decode prog_38_method_5_code 57 = .ok (.astore_n 2, 1) := by decide +kernel
theorem d_40 : decode prog_38_method_5_code 58 = .ok (.goto 5, 3) := by decide +kernel
-- com/example/dossiertools/dossiertools/LeafState.after(Lcom/example/dossiertools/dossiertools/Operation;)Lcom/example/dossiertools/dossiertools/LeafState;
def Q5_after (Z : State) (a1 : Addr) (a2 : Addr) (a3 : Addr) (a4 : Addr) (a5 : Addr) (h0 : Heap) (n0 : Nat) (v : Option Value) (h : Heap) (L : List Loc) : Prop := v = some (.ref a5) ∧ Fr n0 L ∧ h = h0
set_option maxRecDepth 65536 in
set_option maxHeartbeats 40000000 in
theorem rm5_after (l : Launch) (Z : State) (a0 : Array Value) (hw : HW Z a0) (a1 : Addr) (a2 : Addr) (a3 : Addr) (a4 : Addr) (a5 : Addr) (h0 : Heap) (n0 : Nat) (O0 : Old Z n0 h0) (S_0 : SA6 Z Z.heap (.ref a1)) (S_1 : SA8 Z Z.heap (.ref a3)) (ne_2 : a2 ≠ a3) (S_3 : SA9 Z Z.heap (.ref a4)) (ne_4 : a2 ≠ a4) (S_5 : SA10 Z Z.heap (.ref a2)) (S_6 : SA13 Z Z.heap (.ref a5)) :
    Met l Z [] Y2 prog_38_method_5_code 3 (some (.object "com/example/dossiertools/dossiertools/LeafState")) ({ frames := 0, cells := 0, slots := 0, locals := 0 } : Room) #[(.ref a1), (.ref a2)] h0 (Q5_after Z a1 a2 a3 a4 a5 h0 n0) := by
  have W := fun (i : Nat) {c : Jvm.Cond} (q : tables_1[i]? = some c) => hw c (List.mem_of_getElem? q)
  refine own_mk (plainFor_of_name pn_29) ?_
  intro p e s m below meth c s₁ hZ hx hby hml hown hnm hret hlk X0 e0
  have N0 := Fr.nil n0
  obtain ⟨T1, X1, e1, st1⟩ := getS2 X0 hx hZ hown (host := "") (Or.inl (W 19 rfl)) Via.refl e0 (S_0.ext O0.2) (g := (mkF m 1 #[rv a1, rv a2, .unset] [(.ref a1)])) rfl (hb hby d_13)
  obtain ⟨T2, X2, e2, st2⟩ := getS2 X1 hx hZ hown (host := "") (Or.inl (W 20 rfl)) Via.refl e1 (S_1.ext O0.2) (g := (mkF m 20 #[rv a1, rv a2, .unset] [(.ref a2)])) rfl (hb hby d_16)
  obtain ⟨T3, X3, e3, st3⟩ := getS2 X2 hx hZ hown (host := "") (Or.inl (W 22 rfl)) Via.refl e2 (S_3.ext O0.2) (g := (mkF m 34 #[rv a1, rv a2, .unset] [(.ref a2)])) rfl (hb hby d_19)
  obtain ⟨T4, X4, e4, st4⟩ := getS2 X3 hx hZ hown (host := "") (Or.inl (W 35 rfl)) Via.refl e3 (S_5.ext O0.2) (g := (mkF m 48 #[rv a1, rv a2, .unset] [(.ref a2)])) rfl (hb hby d_22)
  obtain ⟨T5, X5, e5, st5⟩ := getS2 X4 hx hZ hown (host := "") (Or.inl (W 30 rfl)) Via.refl e4 (S_6.ext O0.2) (g := (mkF m 54 #[rv a1, rv a2, .unset] [])) rfl (hb hby d_38)
  refine ⟨T5, some (.ref a5), _, _, _, X5, by decide, by decide, nofun, ?_, fun fs hr => castTop (ef_28 m a1 a2) ?_⟩
  · show Q5_after Z a1 a2 a3 a4 a5 h0 n0 _ T5.heap _
    rw [e5]
    exact ⟨rfl, N0, rfl⟩
  · show SS p e below s₁ m 0 #[rv a1, rv a2, .unset] [] _
    refine XS.aloadN X0.here hx rfl (hb hby d_12) rfl rfl ?_
    show SS p e below s₁ m 1 #[rv a1, rv a2, .unset] [(.ref a1)] _
    refine st1 _ ?_
    show SS p e below T1 m 4 #[rv a1, rv a2, .unset] [(.ref a1), (.ref a1)] _
    refine Jvm.RoadKit.acmp (g := (mkF m 4 #[rv a1, rv a2, .unset] [(.ref a1), (.ref a1)])) X1 hx rfl rfl rfl (pc0 := 4) (pc' := 19) (same := true) rfl (hb hby d_14) rfl (decide_eq_true rfl) (by decide) (by decide) ?_
    show SS p e below T1 m 19 #[rv a1, rv a2, .unset] [] _
    refine XS.aloadN X1.here hx rfl (hb hby d_15) rfl rfl ?_
    show SS p e below T1 m 20 #[rv a1, rv a2, .unset] [(.ref a2)] _
    refine st2 _ ?_
    show SS p e below T2 m 23 #[rv a1, rv a2, .unset] [(.ref a3), (.ref a2)] _
    refine Jvm.RoadKit.acmp (g := (mkF m 23 #[rv a1, rv a2, .unset] [(.ref a3), (.ref a2)])) X2 hx rfl rfl rfl (pc0 := 23) (pc' := 33) (same := false) rfl (hb hby d_17) rfl (decide_eq_false fun q => ne_2 (Value.ref.inj q)) (by decide) (by decide) ?_
    show SS p e below T2 m 33 #[rv a1, rv a2, .unset] [] _
    refine XS.aloadN X2.here hx rfl (hb hby d_18) rfl rfl ?_
    show SS p e below T2 m 34 #[rv a1, rv a2, .unset] [(.ref a2)] _
    refine st3 _ ?_
    show SS p e below T3 m 37 #[rv a1, rv a2, .unset] [(.ref a4), (.ref a2)] _
    refine Jvm.RoadKit.acmp (g := (mkF m 37 #[rv a1, rv a2, .unset] [(.ref a4), (.ref a2)])) X3 hx rfl rfl rfl (pc0 := 37) (pc' := 47) (same := false) rfl (hb hby d_20) rfl (decide_eq_false fun q => ne_4 (Value.ref.inj q)) (by decide) (by decide) ?_
    show SS p e below T3 m 47 #[rv a1, rv a2, .unset] [] _
    refine XS.aloadN X3.here hx rfl (hb hby d_21) rfl rfl ?_
    show SS p e below T3 m 48 #[rv a1, rv a2, .unset] [(.ref a2)] _
    refine st4 _ ?_
    show SS p e below T4 m 51 #[rv a1, rv a2, .unset] [(.ref a2), (.ref a2)] _
    refine Jvm.RoadKit.acmp (g := (mkF m 51 #[rv a1, rv a2, .unset] [(.ref a2), (.ref a2)])) X4 hx rfl rfl rfl (pc0 := 51) (pc' := 54) (same := true) rfl (hb hby d_23) rfl (decide_eq_true rfl) (by decide) (by decide) ?_
    show SS p e below T4 m 54 #[rv a1, rv a2, .unset] [] _
    refine st5 _ ?_
    show SS p e below T5 m 57 #[rv a1, rv a2, .unset] [(.ref a5)] _
    refine XS.astoreN X5.here hx rfl (hb hby d_39) rfl rfl (l' := #[rv a1, rv a2, rv a5]) rfl ?_
    show SS p e below T5 m 58 #[rv a1, rv a2, rv a5] [] _
    refine XS.goto X5.here hx rfl (pc0 := 58) (pc' := 63) rfl (hb hby d_40) (by decide) (by decide) ?_
    refine XS.aloadN X5.here hx rfl (hb hby d_26) rfl rfl ?_
    show SS p e below T5 m 64 #[rv a1, rv a2, rv a5] [(.ref a5)] _
    exact retOut X5 hx hret rfl (Or.inr (Or.inr (Or.inr (Or.inr ⟨rfl, rfl, rfl⟩)))) (hb hby d_27) hr
theorem d_41 : decode method_3_code 8 = .ok (.iload_n 0, 1) := by decide +kernel
theorem d_42 : decode method_3_code 9 = .ok (.iconst 1, 1) := by decide +kernel
theorem d_43 : decode method_3_code 10 = .ok (.if_icmp .ne 7, 3) := by decide +kernel
theorem d_44 : decode method_3_code 13 = .ok (.getstatic 28, 3) := by decide +kernel
theorem d_45 : decode method_3_code 16 = .ok (.areturn, 1) := by decide +kernel
-- com/example/dossiertools/dossiertools/LeafStateAfterPinLaw.state(I)Lcom/example/dossiertools/dossiertools/LeafState;
def Q6_state (Z : State) (a1 : Addr) (h0 : Heap) (n0 : Nat) (v : Option Value) (h : Heap) (L : List Loc) : Prop := v = some (.ref a1) ∧ Fr n0 L ∧ h = h0
set_option maxRecDepth 65536 in
set_option maxHeartbeats 40000000 in
theorem rm6_state (l : Launch) (Z : State) (a0 : Array Value) (hw : HW Z a0) (a1 : Addr) (h0 : Heap) (n0 : Nat) (O0 : Old Z n0 h0) (S_0 : SA13 Z Z.heap (.ref a1)) :
    Met l Z [] Y0 method_3_code 1 (some (.object "com/example/dossiertools/dossiertools/LeafState")) ({ frames := 0, cells := 0, slots := 0, locals := 0 } : Room) #[(.int (1 : Int32))] h0 (Q6_state Z a1 h0 n0) := by
  have W := fun (i : Nat) {c : Jvm.Cond} (q : tables_1[i]? = some c) => hw c (List.mem_of_getElem? q)
  refine own_mk (plainFor_of_name pn_5) ?_
  intro p e s m below meth c s₁ hZ hx hby hml hown hnm hret hlk X0 e0
  have N0 := Fr.nil n0
  obtain ⟨T1, X1, e1, st1⟩ := getS2 X0 hx hZ hown (host := "") (Or.inl (W 32 rfl)) Via.refl e0 (S_0.ext O0.2) (g := (mkF m 13 #[iv (1 : Int32)] [])) rfl (hb hby d_44)
  refine ⟨T1, some (.ref a1), _, _, _, X1, by decide, by decide, nofun, ?_, fun fs hr => castTop (ef_37 m ) ?_⟩
  · show Q6_state Z a1 h0 n0 _ T1.heap _
    rw [e1]
    exact ⟨rfl, N0, rfl⟩
  · show SS p e below s₁ m 0 #[iv (1 : Int32)] [] _
    refine XS.iloadN X0.here hx rfl (hb hby d_0) rfl ?_
    show SS p e below s₁ m 1 #[iv (1 : Int32)] [(.int (1 : Int32))] _
    refine XS.ifYes X0.here hx rfl (pc0 := 1) (pc' := 8) rfl (hb hby d_1) rfl ((if0 _ _).trans (feq (by decide : ¬ ((1 : Int32) = (0 : Int32)))).2) (by decide) (by decide) ?_
    show SS p e below s₁ m 8 #[iv (1 : Int32)] [] _
    refine XS.iloadN X0.here hx rfl (hb hby d_41) rfl ?_
    refine XS.iconst X0.here hx rfl (hb hby d_42) ?_
    show SS p e below s₁ m 10 #[iv (1 : Int32)] [(.int (1 : Int32)), (.int (1 : Int32))] _
    refine XS.icmpNo X0.here hx rfl (hb hby d_43) rfl (teq (by decide : (1 : Int32) = (1 : Int32))).2 ?_
    show SS p e below s₁ m 13 #[iv (1 : Int32)] [] _
    refine st1 _ ?_
    show SS p e below T1 m 16 #[iv (1 : Int32)] [(.ref a1)] _
    exact retOut X1 hx hret rfl (Or.inr (Or.inr (Or.inr (Or.inr ⟨rfl, rfl, rfl⟩)))) (hb hby d_45) hr
set_option maxRecDepth 65536 in
set_option maxHeartbeats 40000000 in
theorem rm0_0_1 (l : Launch) (Z : State) (a0 : Array Value) (hw : HW Z a0) (ws : List Jvm.Cond) (p1 : Int32) (p2 : Int32) (o_CURRENT : Addr) (o_DELETE : Addr) (o_REPLACE : Addr) (o_NO_LONGER_RELEVANT : Addr) (o_DELETION : Addr) (o_APPEND : Addr) (o_CURRENT_APPENDED : Addr) (o_NEW : Addr) (o_REPLACED : Addr) (h0 : Heap) (n0 : Nat) (O0 : Old Z n0 h0) (S_o_CURRENT : SA6 Z Z.heap (.ref o_CURRENT)) (E_o_CURRENT : EA4 Z Z.heap o_CURRENT) (S_o_DELETE : SA9 Z Z.heap (.ref o_DELETE)) (E_o_DELETE : EA5 Z Z.heap o_DELETE) (S_o_REPLACE : SA8 Z Z.heap (.ref o_REPLACE)) (E_o_REPLACE : EA5 Z Z.heap o_REPLACE) (S_o_NO_LONGER_RELEVANT : SA11 Z Z.heap (.ref o_NO_LONGER_RELEVANT)) (E_o_NO_LONGER_RELEVANT : EA4 Z Z.heap o_NO_LONGER_RELEVANT) (S_o_DELETION : SA12 Z Z.heap (.ref o_DELETION)) (E_o_DELETION : EA4 Z Z.heap o_DELETION) (S_o_APPEND : SA10 Z Z.heap (.ref o_APPEND)) (E_o_APPEND : EA5 Z Z.heap o_APPEND) (S_o_CURRENT_APPENDED : SA13 Z Z.heap (.ref o_CURRENT_APPENDED)) (E_o_CURRENT_APPENDED : EA4 Z Z.heap o_CURRENT_APPENDED) (S_o_NEW : SA7 Z Z.heap (.ref o_NEW)) (E_o_NEW : EA5 Z Z.heap o_NEW) (S_o_REPLACED : SA14 Z Z.heap (.ref o_REPLACED)) (E_o_REPLACED : EA4 Z Z.heap o_REPLACED) (F_o_DELETE_ordinal : FA3 Z Z.heap o_DELETE (.int (3 : Int32))) (F_o_REPLACE_ordinal : FA3 Z Z.heap o_REPLACE (.int (2 : Int32))) (F_o_DELETION_ordinal : FA3 Z Z.heap o_DELETION (.int (4 : Int32))) (F_o_CURRENT_ordinal : FA3 Z Z.heap o_CURRENT (.int (0 : Int32))) (F_o_CURRENT_APPENDED_ordinal : FA3 Z Z.heap o_CURRENT_APPENDED (.int (1 : Int32))) (F_o_NO_LONGER_RELEVANT_ordinal : FA3 Z Z.heap o_NO_LONGER_RELEVANT (.int (3 : Int32))) (F_o_NEW_ordinal : FA3 Z Z.heap o_NEW (.int (0 : Int32))) (F_o_APPEND_ordinal : FA3 Z Z.heap o_APPEND (.int (1 : Int32))) (F_o_REPLACED_ordinal : FA3 Z Z.heap o_REPLACED (.int (2 : Int32))) (hs : ((p1 &&& (2147483647 : Int32)) % (5 : Int32)) = (0 : Int32)) (hf : (p2 &&& (3 : Int32)) = (1 : Int32)) :
    Met l Z ws x code maxLocals ret room_1 #[(.int p1), (.int p2)] h0 (fun v _ L => Q0 n0 v L) := by
  have W := fun (i : Nat) {c : Jvm.Cond} (q : tables_1[i]? = some c) => hw c (List.mem_of_getElem? q)
  refine own_mk (plainFor_of_name pn_5) ?_
  intro p e s m below meth c s₁ hZ hx hby hml hown hnm hret hlk X0 e0
  have N0 := Fr.nil n0
  obtain ⟨_, T1, L1, X1, hQ1, st1⟩ := own_cs X0 hx hZ hown hml (W 1 rfl) (W 2 rfl) (W 3 rfl) (W 4 rfl) (rm1_state l Z a0 hw o_CURRENT h0 n0 O0 (S_o_CURRENT)) e0 (hb hby at_12) 0 #[iv p1, iv p2, iv (0 : Int32), iv (1 : Int32), .unset, .unset, .unset, .unset] [(.int (0 : Int32))] [] pd_6 (by decide) rfl rfl rfl (Nat.le_of_eq rfl)
  obtain ⟨rfl, N1q, K1⟩ := hQ1
  have N2 := Fr.app N0 N1q
  obtain ⟨_, T3, L3, X3, hQ3, st3⟩ := own_cs X1 hx hZ hown hml (W 8 rfl) (W 9 rfl) (W 3 rfl) (W 10 rfl) (rm4_operation l Z a0 hw o_APPEND h0 n0 O0 (S_o_APPEND)) K1 (hb hby at_18) 0 #[iv p1, iv p2, iv (0 : Int32), iv (1 : Int32), rv o_CURRENT, .unset, .unset, .unset] [(.int (1 : Int32))] [] pd_11 (by decide) rfl rfl rfl (Nat.le_of_eq rfl)
  obtain ⟨rfl, N3q, K3⟩ := hQ3
  have N4 := Fr.app N2 N3q
  obtain ⟨_, T5, L5, X5, hQ5, st5⟩ := own_cv X3 hx hZ hown hml (W 14 rfl) (W 15 rfl) (notFace_of_selects (W 17 rfl)) (W 17 rfl) (W 16 rfl) (W 6 rfl) (W 18 rfl) (rm5_after l Z a0 hw o_CURRENT o_APPEND o_REPLACE o_DELETE o_CURRENT_APPENDED h0 n0 O0 (S_o_CURRENT) (S_o_REPLACE) ((Fld.ne F_o_APPEND_ordinal F_o_REPLACE_ordinal (by decide))) (S_o_DELETE) ((Fld.ne F_o_APPEND_ordinal F_o_DELETE_ordinal (by decide))) (S_o_APPEND) (S_o_CURRENT_APPENDED)) K3 (E_o_CURRENT.ext O0.2) (hb hby at_27) 0 #[iv p1, iv p2, iv (0 : Int32), iv (1 : Int32), rv o_CURRENT, rv o_APPEND, .unset, .unset] [(.ref o_APPEND)] [] pd_30 (by decide) rfl rfl rfl (Nat.le_of_eq rfl)
  obtain ⟨rfl, N5q, K5⟩ := hQ5
  have N6 := Fr.app N4 N5q
  obtain ⟨_, T7, L7, X7, hQ7, st7⟩ := own_cs X5 hx hZ hown hml (W 1 rfl) (W 2 rfl) (W 3 rfl) (W 4 rfl) (rm6_state l Z a0 hw o_CURRENT_APPENDED h0 n0 O0 (S_o_CURRENT_APPENDED)) K5 (hb hby at_60) 1 #[iv p1, iv p2, iv (0 : Int32), iv (1 : Int32), rv o_CURRENT, rv o_APPEND, rv o_CURRENT_APPENDED, iv (1 : Int32)] [(.int (1 : Int32))] [(.ref o_CURRENT_APPENDED)] pd_6 (by decide) rfl rfl rfl (Nat.le_of_eq rfl)
  obtain ⟨rfl, N7q, K7⟩ := hQ7
  have N8 := Fr.app N6 N7q
  refine ⟨T7, some (.int (1 : Int32)), _, _, _, X7, by decide, by decide, nofun, ?_, fun fs hr => castTop (ef_31 m p1 p2) ?_⟩
  · exact ⟨rfl, N8⟩
  · show SS p e below s₁ m 0 #[iv p1, iv p2, .unset, .unset, .unset, .unset, .unset, .unset] [] _
    refine XS.iloadN X0.here hx rfl (hb hby at_0) rfl ?_
    show SS p e below s₁ m 1 #[iv p1, iv p2, .unset, .unset, .unset, .unset, .unset, .unset] [(.int p1)] _
    refine X0.ldcInt hx hown (mvT hZ (W 0 rfl)) (g := (mkF m 1 #[iv p1, iv p2, .unset, .unset, .unset, .unset, .unset, .unset] [(.int p1)])) rfl (hb hby at_1) _ ?_
    show SS p e below s₁ m 3 #[iv p1, iv p2, .unset, .unset, .unset, .unset, .unset, .unset] [(.int (2147483647 : Int32)), (.int p1)] _
    refine XS.iand X0.here hx rfl (hb hby at_3) rfl ?_
    show SS p e below s₁ m 4 #[iv p1, iv p2, .unset, .unset, .unset, .unset, .unset, .unset] [(.int (p1 &&& (2147483647 : Int32)))] _
    refine XS.iconst X0.here hx rfl (hb hby at_4) ?_
    show SS p e below s₁ m 5 #[iv p1, iv p2, .unset, .unset, .unset, .unset, .unset, .unset] [(.int (5 : Int32)), (.int (p1 &&& (2147483647 : Int32)))] _
    refine iremM (g := (mkF m 5 #[iv p1, iv p2, .unset, .unset, .unset, .unset, .unset, .unset] [(.int (5 : Int32)), (.int (p1 &&& (2147483647 : Int32)))])) X0 hx rfl (hb hby at_5) rfl (by decide : ¬ ((5 : Int32) = (0 : Int32))) ?_
    rw [hs]
    show SS p e below s₁ m 6 #[iv p1, iv p2, .unset, .unset, .unset, .unset, .unset, .unset] [(.int (0 : Int32))] _
    refine XS.istoreN X0.here hx rfl (hb hby at_6) rfl (l' := #[iv p1, iv p2, iv (0 : Int32), .unset, .unset, .unset, .unset, .unset]) rfl ?_
    show SS p e below s₁ m 7 #[iv p1, iv p2, iv (0 : Int32), .unset, .unset, .unset, .unset, .unset] [] _
    refine XS.iloadN X0.here hx rfl (hb hby at_7) rfl ?_
    refine XS.iconst X0.here hx rfl (hb hby at_8) ?_
    show SS p e below s₁ m 9 #[iv p1, iv p2, iv (0 : Int32), .unset, .unset, .unset, .unset, .unset] [(.int (3 : Int32)), (.int p2)] _
    refine XS.iand X0.here hx rfl (hb hby at_9) rfl ?_
    rw [hf]
    show SS p e below s₁ m 10 #[iv p1, iv p2, iv (0 : Int32), .unset, .unset, .unset, .unset, .unset] [(.int (1 : Int32))] _
    refine XS.istoreN X0.here hx rfl (hb hby at_10) rfl (l' := #[iv p1, iv p2, iv (0 : Int32), iv (1 : Int32), .unset, .unset, .unset, .unset]) rfl ?_
    show SS p e below s₁ m 11 #[iv p1, iv p2, iv (0 : Int32), iv (1 : Int32), .unset, .unset, .unset, .unset] [] _
    refine XS.iloadN X0.here hx rfl (hb hby at_11) rfl ?_
    show SS p e below s₁ m 12 #[iv p1, iv p2, iv (0 : Int32), iv (1 : Int32), .unset, .unset, .unset, .unset] [(.int (0 : Int32))] _
    refine st1 _ ?_
    show SS p e below T1 m 15 #[iv p1, iv p2, iv (0 : Int32), iv (1 : Int32), .unset, .unset, .unset, .unset] [(.ref o_CURRENT)] _
    refine XS.astore X1.here hx rfl (hb hby at_15) rfl rfl (l' := #[iv p1, iv p2, iv (0 : Int32), iv (1 : Int32), rv o_CURRENT, .unset, .unset, .unset]) rfl ?_
    show SS p e below T1 m 17 #[iv p1, iv p2, iv (0 : Int32), iv (1 : Int32), rv o_CURRENT, .unset, .unset, .unset] [] _
    refine XS.iloadN X1.here hx rfl (hb hby at_17) rfl ?_
    show SS p e below T1 m 18 #[iv p1, iv p2, iv (0 : Int32), iv (1 : Int32), rv o_CURRENT, .unset, .unset, .unset] [(.int (1 : Int32))] _
    refine st3 _ ?_
    show SS p e below T3 m 21 #[iv p1, iv p2, iv (0 : Int32), iv (1 : Int32), rv o_CURRENT, .unset, .unset, .unset] [(.ref o_APPEND)] _
    refine XS.astore X3.here hx rfl (hb hby at_21) rfl rfl (l' := #[iv p1, iv p2, iv (0 : Int32), iv (1 : Int32), rv o_CURRENT, rv o_APPEND, .unset, .unset]) rfl ?_
    show SS p e below T3 m 23 #[iv p1, iv p2, iv (0 : Int32), iv (1 : Int32), rv o_CURRENT, rv o_APPEND, .unset, .unset] [] _
    refine XS.aload X3.here hx rfl (hb hby at_23) rfl rfl ?_
    refine XS.aload X3.here hx rfl (hb hby at_25) rfl rfl ?_
    show SS p e below T3 m 27 #[iv p1, iv p2, iv (0 : Int32), iv (1 : Int32), rv o_CURRENT, rv o_APPEND, .unset, .unset] [(.ref o_APPEND), (.ref o_CURRENT)] _
    refine st5 _ ?_
    show SS p e below T5 m 30 #[iv p1, iv p2, iv (0 : Int32), iv (1 : Int32), rv o_CURRENT, rv o_APPEND, .unset, .unset] [(.ref o_CURRENT_APPENDED)] _
    refine XS.astore X5.here hx rfl (hb hby at_30) rfl rfl (l' := #[iv p1, iv p2, iv (0 : Int32), iv (1 : Int32), rv o_CURRENT, rv o_APPEND, rv o_CURRENT_APPENDED, .unset]) rfl ?_
    show SS p e below T5 m 32 #[iv p1, iv p2, iv (0 : Int32), iv (1 : Int32), rv o_CURRENT, rv o_APPEND, rv o_CURRENT_APPENDED, .unset] [] _
    refine XS.iloadN X5.here hx rfl (hb hby at_32) rfl ?_
    refine XS.iconst X5.here hx rfl (hb hby at_33) ?_
    show SS p e below T5 m 34 #[iv p1, iv p2, iv (0 : Int32), iv (1 : Int32), rv o_CURRENT, rv o_APPEND, rv o_CURRENT_APPENDED, .unset] [(.int (2 : Int32)), (.int (0 : Int32))] _
    refine XS.icmpYes X5.here hx rfl (pc0 := 34) (pc' := 43) rfl (hb hby at_34) rfl (tlt (by decide : (0 : Int32) < (2 : Int32))).1 (by decide) (by decide) ?_
    show SS p e below T5 m 43 #[iv p1, iv p2, iv (0 : Int32), iv (1 : Int32), rv o_CURRENT, rv o_APPEND, rv o_CURRENT_APPENDED, .unset] [] _
    refine XS.iloadN X5.here hx rfl (hb hby at_43) rfl ?_
    show SS p e below T5 m 44 #[iv p1, iv p2, iv (0 : Int32), iv (1 : Int32), rv o_CURRENT, rv o_APPEND, rv o_CURRENT_APPENDED, .unset] [(.int (1 : Int32))] _
    refine XS.ifYes X5.here hx rfl (pc0 := 44) (pc' := 53) rfl (hb hby at_44) rfl ((if0 _ _).trans (feq (by decide : ¬ ((1 : Int32) = (0 : Int32)))).2) (by decide) (by decide) ?_
    show SS p e below T5 m 53 #[iv p1, iv p2, iv (0 : Int32), iv (1 : Int32), rv o_CURRENT, rv o_APPEND, rv o_CURRENT_APPENDED, .unset] [] _
    refine XS.iloadN X5.here hx rfl (hb hby at_53) rfl ?_
    show SS p e below T5 m 54 #[iv p1, iv p2, iv (0 : Int32), iv (1 : Int32), rv o_CURRENT, rv o_APPEND, rv o_CURRENT_APPENDED, .unset] [(.int (1 : Int32))] _
    refine XS.istore X5.here hx rfl (hb hby at_54) rfl (l' := #[iv p1, iv p2, iv (0 : Int32), iv (1 : Int32), rv o_CURRENT, rv o_APPEND, rv o_CURRENT_APPENDED, iv (1 : Int32)]) rfl ?_
    show SS p e below T5 m 56 #[iv p1, iv p2, iv (0 : Int32), iv (1 : Int32), rv o_CURRENT, rv o_APPEND, rv o_CURRENT_APPENDED, iv (1 : Int32)] [] _
    refine XS.aload X5.here hx rfl (hb hby at_56) rfl rfl ?_
    refine XS.iload X5.here hx rfl (hb hby at_58) rfl ?_
    show SS p e below T5 m 60 #[iv p1, iv p2, iv (0 : Int32), iv (1 : Int32), rv o_CURRENT, rv o_APPEND, rv o_CURRENT_APPENDED, iv (1 : Int32)] [(.int (1 : Int32)), (.ref o_CURRENT_APPENDED)] _
    refine st7 _ ?_
    show SS p e below T7 m 63 #[iv p1, iv p2, iv (0 : Int32), iv (1 : Int32), rv o_CURRENT, rv o_APPEND, rv o_CURRENT_APPENDED, iv (1 : Int32)] [(.ref o_CURRENT_APPENDED), (.ref o_CURRENT_APPENDED)] _
    refine Jvm.RoadKit.acmp (g := (mkF m 63 #[iv p1, iv p2, iv (0 : Int32), iv (1 : Int32), rv o_CURRENT, rv o_APPEND, rv o_CURRENT_APPENDED, iv (1 : Int32)] [(.ref o_CURRENT_APPENDED), (.ref o_CURRENT_APPENDED)])) X7 hx rfl rfl rfl (pc0 := 63) (pc' := 66) (same := true) rfl (hb hby at_63) rfl (decide_eq_true rfl) (by decide) (by decide) ?_
    show SS p e below T7 m 66 #[iv p1, iv p2, iv (0 : Int32), iv (1 : Int32), rv o_CURRENT, rv o_APPEND, rv o_CURRENT_APPENDED, iv (1 : Int32)] [] _
    refine XS.iconst X7.here hx rfl (hb hby at_66) ?_
    refine XS.goto X7.here hx rfl (pc0 := 67) (pc' := 71) rfl (hb hby at_67) (by decide) (by decide) ?_
    show SS p e below T7 m 71 #[iv p1, iv p2, iv (0 : Int32), iv (1 : Int32), rv o_CURRENT, rv o_APPEND, rv o_CURRENT_APPENDED, iv (1 : Int32)] [(.int (1 : Int32))] _
    exact retN X7 hx (t := .boolean) hret (by simp) (hb hby at_71) hr
theorem d_46 : decode method_4_code 17 = .ok (.iload_n 0, 1) := by decide +kernel
theorem d_47 : decode method_4_code 18 = .ok (.iconst 2, 1) := by decide +kernel
theorem d_48 : decode method_4_code 19 = .ok (.if_icmp .ne 7, 3) := by decide +kernel
theorem d_49 : decode method_4_code 22 = .ok (.getstatic 49, 3) := by decide +kernel
theorem d_50 : decode method_4_code 25 = .ok (.areturn, 1) := by decide +kernel
theorem ef_51 (m : MethodId)  : entryFrame m #[(.int (2 : Int32))] 1 = mkF m 0 #[iv (2 : Int32)] [] := by first | (simp [entryFrame, mkF, argsToLocals, Value.category]; done) | rfl
-- com/example/dossiertools/dossiertools/LeafStateAfterPinLaw.operation(I)Lcom/example/dossiertools/dossiertools/Operation;
def Q7_operation (Z : State) (a1 : Addr) (h0 : Heap) (n0 : Nat) (v : Option Value) (h : Heap) (L : List Loc) : Prop := v = some (.ref a1) ∧ Fr n0 L ∧ h = h0
set_option maxRecDepth 65536 in
set_option maxHeartbeats 40000000 in
theorem rm7_operation (l : Launch) (Z : State) (a0 : Array Value) (hw : HW Z a0) (a1 : Addr) (h0 : Heap) (n0 : Nat) (O0 : Old Z n0 h0) (S_0 : SA8 Z Z.heap (.ref a1)) :
    Met l Z [] Y1 method_4_code 1 (some (.object "com/example/dossiertools/dossiertools/Operation")) ({ frames := 0, cells := 0, slots := 0, locals := 0 } : Room) #[(.int (2 : Int32))] h0 (Q7_operation Z a1 h0 n0) := by
  have W := fun (i : Nat) {c : Jvm.Cond} (q : tables_1[i]? = some c) => hw c (List.mem_of_getElem? q)
  refine own_mk (plainFor_of_name pn_5) ?_
  intro p e s m below meth c s₁ hZ hx hby hml hown hnm hret hlk X0 e0
  have N0 := Fr.nil n0
  obtain ⟨T1, X1, e1, st1⟩ := getS2 X0 hx hZ hown (host := "") (Or.inl (W 38 rfl)) Via.refl e0 (S_0.ext O0.2) (g := (mkF m 22 #[iv (2 : Int32)] [])) rfl (hb hby d_49)
  refine ⟨T1, some (.ref a1), _, _, _, X1, by decide, by decide, nofun, ?_, fun fs hr => castTop (ef_51 m ) ?_⟩
  · show Q7_operation Z a1 h0 n0 _ T1.heap _
    rw [e1]
    exact ⟨rfl, N0, rfl⟩
  · show SS p e below s₁ m 0 #[iv (2 : Int32)] [] _
    refine XS.iloadN X0.here hx rfl (hb hby d_7) rfl ?_
    show SS p e below s₁ m 1 #[iv (2 : Int32)] [(.int (2 : Int32))] _
    refine XS.ifYes X0.here hx rfl (pc0 := 1) (pc' := 8) rfl (hb hby d_8) rfl ((if0 _ _).trans (feq (by decide : ¬ ((2 : Int32) = (0 : Int32)))).2) (by decide) (by decide) ?_
    show SS p e below s₁ m 8 #[iv (2 : Int32)] [] _
    refine XS.iloadN X0.here hx rfl (hb hby d_32) rfl ?_
    refine XS.iconst X0.here hx rfl (hb hby d_33) ?_
    show SS p e below s₁ m 10 #[iv (2 : Int32)] [(.int (1 : Int32)), (.int (2 : Int32))] _
    refine XS.icmpYes X0.here hx rfl (pc0 := 10) (pc' := 17) rfl (hb hby d_34) rfl (feq (by decide : ¬ ((2 : Int32) = (1 : Int32)))).2 (by decide) (by decide) ?_
    show SS p e below s₁ m 17 #[iv (2 : Int32)] [] _
    refine XS.iloadN X0.here hx rfl (hb hby d_46) rfl ?_
    refine XS.iconst X0.here hx rfl (hb hby d_47) ?_
    show SS p e below s₁ m 19 #[iv (2 : Int32)] [(.int (2 : Int32)), (.int (2 : Int32))] _
    refine XS.icmpNo X0.here hx rfl (hb hby d_48) rfl (teq (by decide : (2 : Int32) = (2 : Int32))).2 ?_
    show SS p e below s₁ m 22 #[iv (2 : Int32)] [] _
    refine st1 _ ?_
    show SS p e below T1 m 25 #[iv (2 : Int32)] [(.ref a1)] _
    exact retOut X1 hx hret rfl (Or.inr (Or.inr (Or.inr (Or.inr ⟨rfl, rfl, rfl⟩)))) (hb hby d_50) hr
theorem d_52 : decode prog_38_method_5_code 26 = .ok (.getstatic 10, 3) := by decide +kernel
theorem d_53 : decode prog_38_method_5_code 29 = .ok (.astore_n 2, 1) := by decide +kernel
theorem d_54 : decode prog_38_method_5_code 30 = .ok (.goto 33, 3) := by decide +kernel
-- com/example/dossiertools/dossiertools/LeafState.after(Lcom/example/dossiertools/dossiertools/Operation;)Lcom/example/dossiertools/dossiertools/LeafState;
def Q8_after (Z : State) (a1 : Addr) (a2 : Addr) (a3 : Addr) (h0 : Heap) (n0 : Nat) (v : Option Value) (h : Heap) (L : List Loc) : Prop := v = some (.ref a3) ∧ Fr n0 L ∧ h = h0
set_option maxRecDepth 65536 in
set_option maxHeartbeats 40000000 in
theorem rm8_after (l : Launch) (Z : State) (a0 : Array Value) (hw : HW Z a0) (a1 : Addr) (a2 : Addr) (a3 : Addr) (h0 : Heap) (n0 : Nat) (O0 : Old Z n0 h0) (S_0 : SA6 Z Z.heap (.ref a1)) (S_1 : SA8 Z Z.heap (.ref a2)) (S_2 : SA14 Z Z.heap (.ref a3)) :
    Met l Z [] Y2 prog_38_method_5_code 3 (some (.object "com/example/dossiertools/dossiertools/LeafState")) ({ frames := 0, cells := 0, slots := 0, locals := 0 } : Room) #[(.ref a1), (.ref a2)] h0 (Q8_after Z a1 a2 a3 h0 n0) := by
  have W := fun (i : Nat) {c : Jvm.Cond} (q : tables_1[i]? = some c) => hw c (List.mem_of_getElem? q)
  refine own_mk (plainFor_of_name pn_29) ?_
  intro p e s m below meth c s₁ hZ hx hby hml hown hnm hret hlk X0 e0
  have N0 := Fr.nil n0
  obtain ⟨T1, X1, e1, st1⟩ := getS2 X0 hx hZ hown (host := "") (Or.inl (W 19 rfl)) Via.refl e0 (S_0.ext O0.2) (g := (mkF m 1 #[rv a1, rv a2, .unset] [(.ref a1)])) rfl (hb hby d_13)
  obtain ⟨T2, X2, e2, st2⟩ := getS2 X1 hx hZ hown (host := "") (Or.inl (W 20 rfl)) Via.refl e1 (S_1.ext O0.2) (g := (mkF m 20 #[rv a1, rv a2, .unset] [(.ref a2)])) rfl (hb hby d_16)
  obtain ⟨T3, X3, e3, st3⟩ := getS2 X2 hx hZ hown (host := "") (Or.inl (W 39 rfl)) Via.refl e2 (S_2.ext O0.2) (g := (mkF m 26 #[rv a1, rv a2, .unset] [])) rfl (hb hby d_52)
  refine ⟨T3, some (.ref a3), _, _, _, X3, by decide, by decide, nofun, ?_, fun fs hr => castTop (ef_28 m a1 a2) ?_⟩
  · show Q8_after Z a1 a2 a3 h0 n0 _ T3.heap _
    rw [e3]
    exact ⟨rfl, N0, rfl⟩
  · show SS p e below s₁ m 0 #[rv a1, rv a2, .unset] [] _
    refine XS.aloadN X0.here hx rfl (hb hby d_12) rfl rfl ?_
    show SS p e below s₁ m 1 #[rv a1, rv a2, .unset] [(.ref a1)] _
    refine st1 _ ?_
    show SS p e below T1 m 4 #[rv a1, rv a2, .unset] [(.ref a1), (.ref a1)] _
    refine Jvm.RoadKit.acmp (g := (mkF m 4 #[rv a1, rv a2, .unset] [(.ref a1), (.ref a1)])) X1 hx rfl rfl rfl (pc0 := 4) (pc' := 19) (same := true) rfl (hb hby d_14) rfl (decide_eq_true rfl) (by decide) (by decide) ?_
    show SS p e below T1 m 19 #[rv a1, rv a2, .unset] [] _
    refine XS.aloadN X1.here hx rfl (hb hby d_15) rfl rfl ?_
    show SS p e below T1 m 20 #[rv a1, rv a2, .unset] [(.ref a2)] _
    refine st2 _ ?_
    show SS p e below T2 m 23 #[rv a1, rv a2, .unset] [(.ref a2), (.ref a2)] _
    refine Jvm.RoadKit.acmp (g := (mkF m 23 #[rv a1, rv a2, .unset] [(.ref a2), (.ref a2)])) X2 hx rfl rfl rfl (pc0 := 23) (pc' := 26) (same := true) rfl (hb hby d_17) rfl (decide_eq_true rfl) (by decide) (by decide) ?_
    show SS p e below T2 m 26 #[rv a1, rv a2, .unset] [] _
    refine st3 _ ?_
    show SS p e below T3 m 29 #[rv a1, rv a2, .unset] [(.ref a3)] _
    refine XS.astoreN X3.here hx rfl (hb hby d_53) rfl rfl (l' := #[rv a1, rv a2, rv a3]) rfl ?_
    show SS p e below T3 m 30 #[rv a1, rv a2, rv a3] [] _
    refine XS.goto X3.here hx rfl (pc0 := 30) (pc' := 63) rfl (hb hby d_54) (by decide) (by decide) ?_
    refine XS.aloadN X3.here hx rfl (hb hby d_26) rfl rfl ?_
    show SS p e below T3 m 64 #[rv a1, rv a2, rv a3] [(.ref a3)] _
    exact retOut X3 hx hret rfl (Or.inr (Or.inr (Or.inr (Or.inr ⟨rfl, rfl, rfl⟩)))) (hb hby d_27) hr
theorem d_55 : decode method_3_code 17 = .ok (.iload_n 0, 1) := by decide +kernel
theorem d_56 : decode method_3_code 18 = .ok (.iconst 2, 1) := by decide +kernel
theorem d_57 : decode method_3_code 19 = .ok (.if_icmp .ne 7, 3) := by decide +kernel
theorem d_58 : decode method_3_code 22 = .ok (.getstatic 31, 3) := by decide +kernel
theorem d_59 : decode method_3_code 25 = .ok (.areturn, 1) := by decide +kernel
-- com/example/dossiertools/dossiertools/LeafStateAfterPinLaw.state(I)Lcom/example/dossiertools/dossiertools/LeafState;
def Q9_state (Z : State) (a1 : Addr) (h0 : Heap) (n0 : Nat) (v : Option Value) (h : Heap) (L : List Loc) : Prop := v = some (.ref a1) ∧ Fr n0 L ∧ h = h0
set_option maxRecDepth 65536 in
set_option maxHeartbeats 40000000 in
theorem rm9_state (l : Launch) (Z : State) (a0 : Array Value) (hw : HW Z a0) (a1 : Addr) (h0 : Heap) (n0 : Nat) (O0 : Old Z n0 h0) (S_0 : SA14 Z Z.heap (.ref a1)) :
    Met l Z [] Y0 method_3_code 1 (some (.object "com/example/dossiertools/dossiertools/LeafState")) ({ frames := 0, cells := 0, slots := 0, locals := 0 } : Room) #[(.int (2 : Int32))] h0 (Q9_state Z a1 h0 n0) := by
  have W := fun (i : Nat) {c : Jvm.Cond} (q : tables_1[i]? = some c) => hw c (List.mem_of_getElem? q)
  refine own_mk (plainFor_of_name pn_5) ?_
  intro p e s m below meth c s₁ hZ hx hby hml hown hnm hret hlk X0 e0
  have N0 := Fr.nil n0
  obtain ⟨T1, X1, e1, st1⟩ := getS2 X0 hx hZ hown (host := "") (Or.inl (W 36 rfl)) Via.refl e0 (S_0.ext O0.2) (g := (mkF m 22 #[iv (2 : Int32)] [])) rfl (hb hby d_58)
  refine ⟨T1, some (.ref a1), _, _, _, X1, by decide, by decide, nofun, ?_, fun fs hr => castTop (ef_51 m ) ?_⟩
  · show Q9_state Z a1 h0 n0 _ T1.heap _
    rw [e1]
    exact ⟨rfl, N0, rfl⟩
  · show SS p e below s₁ m 0 #[iv (2 : Int32)] [] _
    refine XS.iloadN X0.here hx rfl (hb hby d_0) rfl ?_
    show SS p e below s₁ m 1 #[iv (2 : Int32)] [(.int (2 : Int32))] _
    refine XS.ifYes X0.here hx rfl (pc0 := 1) (pc' := 8) rfl (hb hby d_1) rfl ((if0 _ _).trans (feq (by decide : ¬ ((2 : Int32) = (0 : Int32)))).2) (by decide) (by decide) ?_
    show SS p e below s₁ m 8 #[iv (2 : Int32)] [] _
    refine XS.iloadN X0.here hx rfl (hb hby d_41) rfl ?_
    refine XS.iconst X0.here hx rfl (hb hby d_42) ?_
    show SS p e below s₁ m 10 #[iv (2 : Int32)] [(.int (1 : Int32)), (.int (2 : Int32))] _
    refine XS.icmpYes X0.here hx rfl (pc0 := 10) (pc' := 17) rfl (hb hby d_43) rfl (feq (by decide : ¬ ((2 : Int32) = (1 : Int32)))).2 (by decide) (by decide) ?_
    show SS p e below s₁ m 17 #[iv (2 : Int32)] [] _
    refine XS.iloadN X0.here hx rfl (hb hby d_55) rfl ?_
    refine XS.iconst X0.here hx rfl (hb hby d_56) ?_
    show SS p e below s₁ m 19 #[iv (2 : Int32)] [(.int (2 : Int32)), (.int (2 : Int32))] _
    refine XS.icmpNo X0.here hx rfl (hb hby d_57) rfl (teq (by decide : (2 : Int32) = (2 : Int32))).2 ?_
    show SS p e below s₁ m 22 #[iv (2 : Int32)] [] _
    refine st1 _ ?_
    show SS p e below T1 m 25 #[iv (2 : Int32)] [(.ref a1)] _
    exact retOut X1 hx hret rfl (Or.inr (Or.inr (Or.inr (Or.inr ⟨rfl, rfl, rfl⟩)))) (hb hby d_59) hr
set_option maxRecDepth 65536 in
set_option maxHeartbeats 40000000 in
theorem rm0_0_2 (l : Launch) (Z : State) (a0 : Array Value) (hw : HW Z a0) (ws : List Jvm.Cond) (p1 : Int32) (p2 : Int32) (o_CURRENT : Addr) (o_DELETE : Addr) (o_REPLACE : Addr) (o_NO_LONGER_RELEVANT : Addr) (o_DELETION : Addr) (o_APPEND : Addr) (o_CURRENT_APPENDED : Addr) (o_NEW : Addr) (o_REPLACED : Addr) (h0 : Heap) (n0 : Nat) (O0 : Old Z n0 h0) (S_o_CURRENT : SA6 Z Z.heap (.ref o_CURRENT)) (E_o_CURRENT : EA4 Z Z.heap o_CURRENT) (S_o_DELETE : SA9 Z Z.heap (.ref o_DELETE)) (E_o_DELETE : EA5 Z Z.heap o_DELETE) (S_o_REPLACE : SA8 Z Z.heap (.ref o_REPLACE)) (E_o_REPLACE : EA5 Z Z.heap o_REPLACE) (S_o_NO_LONGER_RELEVANT : SA11 Z Z.heap (.ref o_NO_LONGER_RELEVANT)) (E_o_NO_LONGER_RELEVANT : EA4 Z Z.heap o_NO_LONGER_RELEVANT) (S_o_DELETION : SA12 Z Z.heap (.ref o_DELETION)) (E_o_DELETION : EA4 Z Z.heap o_DELETION) (S_o_APPEND : SA10 Z Z.heap (.ref o_APPEND)) (E_o_APPEND : EA5 Z Z.heap o_APPEND) (S_o_CURRENT_APPENDED : SA13 Z Z.heap (.ref o_CURRENT_APPENDED)) (E_o_CURRENT_APPENDED : EA4 Z Z.heap o_CURRENT_APPENDED) (S_o_NEW : SA7 Z Z.heap (.ref o_NEW)) (E_o_NEW : EA5 Z Z.heap o_NEW) (S_o_REPLACED : SA14 Z Z.heap (.ref o_REPLACED)) (E_o_REPLACED : EA4 Z Z.heap o_REPLACED) (F_o_DELETE_ordinal : FA3 Z Z.heap o_DELETE (.int (3 : Int32))) (F_o_REPLACE_ordinal : FA3 Z Z.heap o_REPLACE (.int (2 : Int32))) (F_o_DELETION_ordinal : FA3 Z Z.heap o_DELETION (.int (4 : Int32))) (F_o_CURRENT_ordinal : FA3 Z Z.heap o_CURRENT (.int (0 : Int32))) (F_o_CURRENT_APPENDED_ordinal : FA3 Z Z.heap o_CURRENT_APPENDED (.int (1 : Int32))) (F_o_NO_LONGER_RELEVANT_ordinal : FA3 Z Z.heap o_NO_LONGER_RELEVANT (.int (3 : Int32))) (F_o_NEW_ordinal : FA3 Z Z.heap o_NEW (.int (0 : Int32))) (F_o_APPEND_ordinal : FA3 Z Z.heap o_APPEND (.int (1 : Int32))) (F_o_REPLACED_ordinal : FA3 Z Z.heap o_REPLACED (.int (2 : Int32))) (hs : ((p1 &&& (2147483647 : Int32)) % (5 : Int32)) = (0 : Int32)) (hf : (p2 &&& (3 : Int32)) = (2 : Int32)) :
    Met l Z ws x code maxLocals ret room_1 #[(.int p1), (.int p2)] h0 (fun v _ L => Q0 n0 v L) := by
  have W := fun (i : Nat) {c : Jvm.Cond} (q : tables_1[i]? = some c) => hw c (List.mem_of_getElem? q)
  refine own_mk (plainFor_of_name pn_5) ?_
  intro p e s m below meth c s₁ hZ hx hby hml hown hnm hret hlk X0 e0
  have N0 := Fr.nil n0
  obtain ⟨_, T1, L1, X1, hQ1, st1⟩ := own_cs X0 hx hZ hown hml (W 1 rfl) (W 2 rfl) (W 3 rfl) (W 4 rfl) (rm1_state l Z a0 hw o_CURRENT h0 n0 O0 (S_o_CURRENT)) e0 (hb hby at_12) 0 #[iv p1, iv p2, iv (0 : Int32), iv (2 : Int32), .unset, .unset, .unset, .unset] [(.int (0 : Int32))] [] pd_6 (by decide) rfl rfl rfl (Nat.le_of_eq rfl)
  obtain ⟨rfl, N1q, K1⟩ := hQ1
  have N2 := Fr.app N0 N1q
  obtain ⟨_, T3, L3, X3, hQ3, st3⟩ := own_cs X1 hx hZ hown hml (W 8 rfl) (W 9 rfl) (W 3 rfl) (W 10 rfl) (rm7_operation l Z a0 hw o_REPLACE h0 n0 O0 (S_o_REPLACE)) K1 (hb hby at_18) 0 #[iv p1, iv p2, iv (0 : Int32), iv (2 : Int32), rv o_CURRENT, .unset, .unset, .unset] [(.int (2 : Int32))] [] pd_11 (by decide) rfl rfl rfl (Nat.le_of_eq rfl)
  obtain ⟨rfl, N3q, K3⟩ := hQ3
  have N4 := Fr.app N2 N3q
  obtain ⟨_, T5, L5, X5, hQ5, st5⟩ := own_cv X3 hx hZ hown hml (W 14 rfl) (W 15 rfl) (notFace_of_selects (W 17 rfl)) (W 17 rfl) (W 16 rfl) (W 6 rfl) (W 18 rfl) (rm8_after l Z a0 hw o_CURRENT o_REPLACE o_REPLACED h0 n0 O0 (S_o_CURRENT) (S_o_REPLACE) (S_o_REPLACED)) K3 (E_o_CURRENT.ext O0.2) (hb hby at_27) 0 #[iv p1, iv p2, iv (0 : Int32), iv (2 : Int32), rv o_CURRENT, rv o_REPLACE, .unset, .unset] [(.ref o_REPLACE)] [] pd_30 (by decide) rfl rfl rfl (Nat.le_of_eq rfl)
  obtain ⟨rfl, N5q, K5⟩ := hQ5
  have N6 := Fr.app N4 N5q
  obtain ⟨_, T7, L7, X7, hQ7, st7⟩ := own_cs X5 hx hZ hown hml (W 1 rfl) (W 2 rfl) (W 3 rfl) (W 4 rfl) (rm9_state l Z a0 hw o_REPLACED h0 n0 O0 (S_o_REPLACED)) K5 (hb hby at_60) 1 #[iv p1, iv p2, iv (0 : Int32), iv (2 : Int32), rv o_CURRENT, rv o_REPLACE, rv o_REPLACED, iv (2 : Int32)] [(.int (2 : Int32))] [(.ref o_REPLACED)] pd_6 (by decide) rfl rfl rfl (Nat.le_of_eq rfl)
  obtain ⟨rfl, N7q, K7⟩ := hQ7
  have N8 := Fr.app N6 N7q
  refine ⟨T7, some (.int (1 : Int32)), _, _, _, X7, by decide, by decide, nofun, ?_, fun fs hr => castTop (ef_31 m p1 p2) ?_⟩
  · exact ⟨rfl, N8⟩
  · show SS p e below s₁ m 0 #[iv p1, iv p2, .unset, .unset, .unset, .unset, .unset, .unset] [] _
    refine XS.iloadN X0.here hx rfl (hb hby at_0) rfl ?_
    show SS p e below s₁ m 1 #[iv p1, iv p2, .unset, .unset, .unset, .unset, .unset, .unset] [(.int p1)] _
    refine X0.ldcInt hx hown (mvT hZ (W 0 rfl)) (g := (mkF m 1 #[iv p1, iv p2, .unset, .unset, .unset, .unset, .unset, .unset] [(.int p1)])) rfl (hb hby at_1) _ ?_
    show SS p e below s₁ m 3 #[iv p1, iv p2, .unset, .unset, .unset, .unset, .unset, .unset] [(.int (2147483647 : Int32)), (.int p1)] _
    refine XS.iand X0.here hx rfl (hb hby at_3) rfl ?_
    show SS p e below s₁ m 4 #[iv p1, iv p2, .unset, .unset, .unset, .unset, .unset, .unset] [(.int (p1 &&& (2147483647 : Int32)))] _
    refine XS.iconst X0.here hx rfl (hb hby at_4) ?_
    show SS p e below s₁ m 5 #[iv p1, iv p2, .unset, .unset, .unset, .unset, .unset, .unset] [(.int (5 : Int32)), (.int (p1 &&& (2147483647 : Int32)))] _
    refine iremM (g := (mkF m 5 #[iv p1, iv p2, .unset, .unset, .unset, .unset, .unset, .unset] [(.int (5 : Int32)), (.int (p1 &&& (2147483647 : Int32)))])) X0 hx rfl (hb hby at_5) rfl (by decide : ¬ ((5 : Int32) = (0 : Int32))) ?_
    rw [hs]
    show SS p e below s₁ m 6 #[iv p1, iv p2, .unset, .unset, .unset, .unset, .unset, .unset] [(.int (0 : Int32))] _
    refine XS.istoreN X0.here hx rfl (hb hby at_6) rfl (l' := #[iv p1, iv p2, iv (0 : Int32), .unset, .unset, .unset, .unset, .unset]) rfl ?_
    show SS p e below s₁ m 7 #[iv p1, iv p2, iv (0 : Int32), .unset, .unset, .unset, .unset, .unset] [] _
    refine XS.iloadN X0.here hx rfl (hb hby at_7) rfl ?_
    refine XS.iconst X0.here hx rfl (hb hby at_8) ?_
    show SS p e below s₁ m 9 #[iv p1, iv p2, iv (0 : Int32), .unset, .unset, .unset, .unset, .unset] [(.int (3 : Int32)), (.int p2)] _
    refine XS.iand X0.here hx rfl (hb hby at_9) rfl ?_
    rw [hf]
    show SS p e below s₁ m 10 #[iv p1, iv p2, iv (0 : Int32), .unset, .unset, .unset, .unset, .unset] [(.int (2 : Int32))] _
    refine XS.istoreN X0.here hx rfl (hb hby at_10) rfl (l' := #[iv p1, iv p2, iv (0 : Int32), iv (2 : Int32), .unset, .unset, .unset, .unset]) rfl ?_
    show SS p e below s₁ m 11 #[iv p1, iv p2, iv (0 : Int32), iv (2 : Int32), .unset, .unset, .unset, .unset] [] _
    refine XS.iloadN X0.here hx rfl (hb hby at_11) rfl ?_
    show SS p e below s₁ m 12 #[iv p1, iv p2, iv (0 : Int32), iv (2 : Int32), .unset, .unset, .unset, .unset] [(.int (0 : Int32))] _
    refine st1 _ ?_
    show SS p e below T1 m 15 #[iv p1, iv p2, iv (0 : Int32), iv (2 : Int32), .unset, .unset, .unset, .unset] [(.ref o_CURRENT)] _
    refine XS.astore X1.here hx rfl (hb hby at_15) rfl rfl (l' := #[iv p1, iv p2, iv (0 : Int32), iv (2 : Int32), rv o_CURRENT, .unset, .unset, .unset]) rfl ?_
    show SS p e below T1 m 17 #[iv p1, iv p2, iv (0 : Int32), iv (2 : Int32), rv o_CURRENT, .unset, .unset, .unset] [] _
    refine XS.iloadN X1.here hx rfl (hb hby at_17) rfl ?_
    show SS p e below T1 m 18 #[iv p1, iv p2, iv (0 : Int32), iv (2 : Int32), rv o_CURRENT, .unset, .unset, .unset] [(.int (2 : Int32))] _
    refine st3 _ ?_
    show SS p e below T3 m 21 #[iv p1, iv p2, iv (0 : Int32), iv (2 : Int32), rv o_CURRENT, .unset, .unset, .unset] [(.ref o_REPLACE)] _
    refine XS.astore X3.here hx rfl (hb hby at_21) rfl rfl (l' := #[iv p1, iv p2, iv (0 : Int32), iv (2 : Int32), rv o_CURRENT, rv o_REPLACE, .unset, .unset]) rfl ?_
    show SS p e below T3 m 23 #[iv p1, iv p2, iv (0 : Int32), iv (2 : Int32), rv o_CURRENT, rv o_REPLACE, .unset, .unset] [] _
    refine XS.aload X3.here hx rfl (hb hby at_23) rfl rfl ?_
    refine XS.aload X3.here hx rfl (hb hby at_25) rfl rfl ?_
    show SS p e below T3 m 27 #[iv p1, iv p2, iv (0 : Int32), iv (2 : Int32), rv o_CURRENT, rv o_REPLACE, .unset, .unset] [(.ref o_REPLACE), (.ref o_CURRENT)] _
    refine st5 _ ?_
    show SS p e below T5 m 30 #[iv p1, iv p2, iv (0 : Int32), iv (2 : Int32), rv o_CURRENT, rv o_REPLACE, .unset, .unset] [(.ref o_REPLACED)] _
    refine XS.astore X5.here hx rfl (hb hby at_30) rfl rfl (l' := #[iv p1, iv p2, iv (0 : Int32), iv (2 : Int32), rv o_CURRENT, rv o_REPLACE, rv o_REPLACED, .unset]) rfl ?_
    show SS p e below T5 m 32 #[iv p1, iv p2, iv (0 : Int32), iv (2 : Int32), rv o_CURRENT, rv o_REPLACE, rv o_REPLACED, .unset] [] _
    refine XS.iloadN X5.here hx rfl (hb hby at_32) rfl ?_
    refine XS.iconst X5.here hx rfl (hb hby at_33) ?_
    show SS p e below T5 m 34 #[iv p1, iv p2, iv (0 : Int32), iv (2 : Int32), rv o_CURRENT, rv o_REPLACE, rv o_REPLACED, .unset] [(.int (2 : Int32)), (.int (0 : Int32))] _
    refine XS.icmpYes X5.here hx rfl (pc0 := 34) (pc' := 43) rfl (hb hby at_34) rfl (tlt (by decide : (0 : Int32) < (2 : Int32))).1 (by decide) (by decide) ?_
    show SS p e below T5 m 43 #[iv p1, iv p2, iv (0 : Int32), iv (2 : Int32), rv o_CURRENT, rv o_REPLACE, rv o_REPLACED, .unset] [] _
    refine XS.iloadN X5.here hx rfl (hb hby at_43) rfl ?_
    show SS p e below T5 m 44 #[iv p1, iv p2, iv (0 : Int32), iv (2 : Int32), rv o_CURRENT, rv o_REPLACE, rv o_REPLACED, .unset] [(.int (2 : Int32))] _
    refine XS.ifYes X5.here hx rfl (pc0 := 44) (pc' := 53) rfl (hb hby at_44) rfl ((if0 _ _).trans (feq (by decide : ¬ ((2 : Int32) = (0 : Int32)))).2) (by decide) (by decide) ?_
    show SS p e below T5 m 53 #[iv p1, iv p2, iv (0 : Int32), iv (2 : Int32), rv o_CURRENT, rv o_REPLACE, rv o_REPLACED, .unset] [] _
    refine XS.iloadN X5.here hx rfl (hb hby at_53) rfl ?_
    show SS p e below T5 m 54 #[iv p1, iv p2, iv (0 : Int32), iv (2 : Int32), rv o_CURRENT, rv o_REPLACE, rv o_REPLACED, .unset] [(.int (2 : Int32))] _
    refine XS.istore X5.here hx rfl (hb hby at_54) rfl (l' := #[iv p1, iv p2, iv (0 : Int32), iv (2 : Int32), rv o_CURRENT, rv o_REPLACE, rv o_REPLACED, iv (2 : Int32)]) rfl ?_
    show SS p e below T5 m 56 #[iv p1, iv p2, iv (0 : Int32), iv (2 : Int32), rv o_CURRENT, rv o_REPLACE, rv o_REPLACED, iv (2 : Int32)] [] _
    refine XS.aload X5.here hx rfl (hb hby at_56) rfl rfl ?_
    refine XS.iload X5.here hx rfl (hb hby at_58) rfl ?_
    show SS p e below T5 m 60 #[iv p1, iv p2, iv (0 : Int32), iv (2 : Int32), rv o_CURRENT, rv o_REPLACE, rv o_REPLACED, iv (2 : Int32)] [(.int (2 : Int32)), (.ref o_REPLACED)] _
    refine st7 _ ?_
    show SS p e below T7 m 63 #[iv p1, iv p2, iv (0 : Int32), iv (2 : Int32), rv o_CURRENT, rv o_REPLACE, rv o_REPLACED, iv (2 : Int32)] [(.ref o_REPLACED), (.ref o_REPLACED)] _
    refine Jvm.RoadKit.acmp (g := (mkF m 63 #[iv p1, iv p2, iv (0 : Int32), iv (2 : Int32), rv o_CURRENT, rv o_REPLACE, rv o_REPLACED, iv (2 : Int32)] [(.ref o_REPLACED), (.ref o_REPLACED)])) X7 hx rfl rfl rfl (pc0 := 63) (pc' := 66) (same := true) rfl (hb hby at_63) rfl (decide_eq_true rfl) (by decide) (by decide) ?_
    show SS p e below T7 m 66 #[iv p1, iv p2, iv (0 : Int32), iv (2 : Int32), rv o_CURRENT, rv o_REPLACE, rv o_REPLACED, iv (2 : Int32)] [] _
    refine XS.iconst X7.here hx rfl (hb hby at_66) ?_
    refine XS.goto X7.here hx rfl (pc0 := 67) (pc' := 71) rfl (hb hby at_67) (by decide) (by decide) ?_
    show SS p e below T7 m 71 #[iv p1, iv p2, iv (0 : Int32), iv (2 : Int32), rv o_CURRENT, rv o_REPLACE, rv o_REPLACED, iv (2 : Int32)] [(.int (1 : Int32))] _
    exact retN X7 hx (t := .boolean) hret (by simp) (hb hby at_71) hr
theorem d_60 : decode method_4_code 26 = .ok (.getstatic 52, 3) := by decide +kernel
theorem d_61 : decode method_4_code 29 = .ok (.areturn, 1) := by decide +kernel
theorem ef_62 (m : MethodId)  : entryFrame m #[(.int (3 : Int32))] 1 = mkF m 0 #[iv (3 : Int32)] [] := by first | (simp [entryFrame, mkF, argsToLocals, Value.category]; done) | rfl
-- com/example/dossiertools/dossiertools/LeafStateAfterPinLaw.operation(I)Lcom/example/dossiertools/dossiertools/Operation;
def Q10_operation (Z : State) (a1 : Addr) (h0 : Heap) (n0 : Nat) (v : Option Value) (h : Heap) (L : List Loc) : Prop := v = some (.ref a1) ∧ Fr n0 L ∧ h = h0
set_option maxRecDepth 65536 in
set_option maxHeartbeats 40000000 in
theorem rm10_operation (l : Launch) (Z : State) (a0 : Array Value) (hw : HW Z a0) (a1 : Addr) (h0 : Heap) (n0 : Nat) (O0 : Old Z n0 h0) (S_0 : SA9 Z Z.heap (.ref a1)) :
    Met l Z [] Y1 method_4_code 1 (some (.object "com/example/dossiertools/dossiertools/Operation")) ({ frames := 0, cells := 0, slots := 0, locals := 0 } : Room) #[(.int (3 : Int32))] h0 (Q10_operation Z a1 h0 n0) := by
  have W := fun (i : Nat) {c : Jvm.Cond} (q : tables_1[i]? = some c) => hw c (List.mem_of_getElem? q)
  refine own_mk (plainFor_of_name pn_5) ?_
  intro p e s m below meth c s₁ hZ hx hby hml hown hnm hret hlk X0 e0
  have N0 := Fr.nil n0
  obtain ⟨T1, X1, e1, st1⟩ := getS2 X0 hx hZ hown (host := "") (Or.inl (W 11 rfl)) Via.refl e0 (S_0.ext O0.2) (g := (mkF m 26 #[iv (3 : Int32)] [])) rfl (hb hby d_60)
  refine ⟨T1, some (.ref a1), _, _, _, X1, by decide, by decide, nofun, ?_, fun fs hr => castTop (ef_62 m ) ?_⟩
  · show Q10_operation Z a1 h0 n0 _ T1.heap _
    rw [e1]
    exact ⟨rfl, N0, rfl⟩
  · show SS p e below s₁ m 0 #[iv (3 : Int32)] [] _
    refine XS.iloadN X0.here hx rfl (hb hby d_7) rfl ?_
    show SS p e below s₁ m 1 #[iv (3 : Int32)] [(.int (3 : Int32))] _
    refine XS.ifYes X0.here hx rfl (pc0 := 1) (pc' := 8) rfl (hb hby d_8) rfl ((if0 _ _).trans (feq (by decide : ¬ ((3 : Int32) = (0 : Int32)))).2) (by decide) (by decide) ?_
    show SS p e below s₁ m 8 #[iv (3 : Int32)] [] _
    refine XS.iloadN X0.here hx rfl (hb hby d_32) rfl ?_
    refine XS.iconst X0.here hx rfl (hb hby d_33) ?_
    show SS p e below s₁ m 10 #[iv (3 : Int32)] [(.int (1 : Int32)), (.int (3 : Int32))] _
    refine XS.icmpYes X0.here hx rfl (pc0 := 10) (pc' := 17) rfl (hb hby d_34) rfl (feq (by decide : ¬ ((3 : Int32) = (1 : Int32)))).2 (by decide) (by decide) ?_
    show SS p e below s₁ m 17 #[iv (3 : Int32)] [] _
    refine XS.iloadN X0.here hx rfl (hb hby d_46) rfl ?_
    refine XS.iconst X0.here hx rfl (hb hby d_47) ?_
    show SS p e below s₁ m 19 #[iv (3 : Int32)] [(.int (2 : Int32)), (.int (3 : Int32))] _
    refine XS.icmpYes X0.here hx rfl (pc0 := 19) (pc' := 26) rfl (hb hby d_48) rfl (feq (by decide : ¬ ((3 : Int32) = (2 : Int32)))).2 (by decide) (by decide) ?_
    show SS p e below s₁ m 26 #[iv (3 : Int32)] [] _
    refine st1 _ ?_
    show SS p e below T1 m 29 #[iv (3 : Int32)] [(.ref a1)] _
    exact retOut X1 hx hret rfl (Or.inr (Or.inr (Or.inr (Or.inr ⟨rfl, rfl, rfl⟩)))) (hb hby d_61) hr
theorem d_63 : decode prog_38_method_5_code 40 = .ok (.getstatic 13, 3) := by decide +kernel
theorem d_64 : decode prog_38_method_5_code 43 = .ok (.astore_n 2, 1) := by decide +kernel
theorem d_65 : decode prog_38_method_5_code 44 = .ok (.goto 19, 3) := by decide +kernel
-- com/example/dossiertools/dossiertools/LeafState.after(Lcom/example/dossiertools/dossiertools/Operation;)Lcom/example/dossiertools/dossiertools/LeafState;
def Q11_after (Z : State) (a1 : Addr) (a2 : Addr) (a3 : Addr) (a4 : Addr) (h0 : Heap) (n0 : Nat) (v : Option Value) (h : Heap) (L : List Loc) : Prop := v = some (.ref a4) ∧ Fr n0 L ∧ h = h0
set_option maxRecDepth 65536 in
set_option maxHeartbeats 40000000 in
theorem rm11_after (l : Launch) (Z : State) (a0 : Array Value) (hw : HW Z a0) (a1 : Addr) (a2 : Addr) (a3 : Addr) (a4 : Addr) (h0 : Heap) (n0 : Nat) (O0 : Old Z n0 h0) (S_0 : SA6 Z Z.heap (.ref a1)) (S_1 : SA8 Z Z.heap (.ref a3)) (ne_2 : a2 ≠ a3) (S_3 : SA9 Z Z.heap (.ref a2)) (S_4 : SA11 Z Z.heap (.ref a4)) :
    Met l Z [] Y2 prog_38_method_5_code 3 (some (.object "com/example/dossiertools/dossiertools/LeafState")) ({ frames := 0, cells := 0, slots := 0, locals := 0 } : Room) #[(.ref a1), (.ref a2)] h0 (Q11_after Z a1 a2 a3 a4 h0 n0) := by
  have W := fun (i : Nat) {c : Jvm.Cond} (q : tables_1[i]? = some c) => hw c (List.mem_of_getElem? q)
  refine own_mk (plainFor_of_name pn_29) ?_
  intro p e s m below meth c s₁ hZ hx hby hml hown hnm hret hlk X0 e0
  have N0 := Fr.nil n0
  obtain ⟨T1, X1, e1, st1⟩ := getS2 X0 hx hZ hown (host := "") (Or.inl (W 19 rfl)) Via.refl e0 (S_0.ext O0.2) (g := (mkF m 1 #[rv a1, rv a2, .unset] [(.ref a1)])) rfl (hb hby d_13)
  obtain ⟨T2, X2, e2, st2⟩ := getS2 X1 hx hZ hown (host := "") (Or.inl (W 20 rfl)) Via.refl e1 (S_1.ext O0.2) (g := (mkF m 20 #[rv a1, rv a2, .unset] [(.ref a2)])) rfl (hb hby d_16)
  obtain ⟨T3, X3, e3, st3⟩ := getS2 X2 hx hZ hown (host := "") (Or.inl (W 22 rfl)) Via.refl e2 (S_3.ext O0.2) (g := (mkF m 34 #[rv a1, rv a2, .unset] [(.ref a2)])) rfl (hb hby d_19)
  obtain ⟨T4, X4, e4, st4⟩ := getS2 X3 hx hZ hown (host := "") (Or.inl (W 23 rfl)) Via.refl e3 (S_4.ext O0.2) (g := (mkF m 40 #[rv a1, rv a2, .unset] [])) rfl (hb hby d_63)
  refine ⟨T4, some (.ref a4), _, _, _, X4, by decide, by decide, nofun, ?_, fun fs hr => castTop (ef_28 m a1 a2) ?_⟩
  · show Q11_after Z a1 a2 a3 a4 h0 n0 _ T4.heap _
    rw [e4]
    exact ⟨rfl, N0, rfl⟩
  · show SS p e below s₁ m 0 #[rv a1, rv a2, .unset] [] _
    refine XS.aloadN X0.here hx rfl (hb hby d_12) rfl rfl ?_
    show SS p e below s₁ m 1 #[rv a1, rv a2, .unset] [(.ref a1)] _
    refine st1 _ ?_
    show SS p e below T1 m 4 #[rv a1, rv a2, .unset] [(.ref a1), (.ref a1)] _
    refine Jvm.RoadKit.acmp (g := (mkF m 4 #[rv a1, rv a2, .unset] [(.ref a1), (.ref a1)])) X1 hx rfl rfl rfl (pc0 := 4) (pc' := 19) (same := true) rfl (hb hby d_14) rfl (decide_eq_true rfl) (by decide) (by decide) ?_
    show SS p e below T1 m 19 #[rv a1, rv a2, .unset] [] _
    refine XS.aloadN X1.here hx rfl (hb hby d_15) rfl rfl ?_
    show SS p e below T1 m 20 #[rv a1, rv a2, .unset] [(.ref a2)] _
    refine st2 _ ?_
    show SS p e below T2 m 23 #[rv a1, rv a2, .unset] [(.ref a3), (.ref a2)] _
    refine Jvm.RoadKit.acmp (g := (mkF m 23 #[rv a1, rv a2, .unset] [(.ref a3), (.ref a2)])) X2 hx rfl rfl rfl (pc0 := 23) (pc' := 33) (same := false) rfl (hb hby d_17) rfl (decide_eq_false fun q => ne_2 (Value.ref.inj q)) (by decide) (by decide) ?_
    show SS p e below T2 m 33 #[rv a1, rv a2, .unset] [] _
    refine XS.aloadN X2.here hx rfl (hb hby d_18) rfl rfl ?_
    show SS p e below T2 m 34 #[rv a1, rv a2, .unset] [(.ref a2)] _
    refine st3 _ ?_
    show SS p e below T3 m 37 #[rv a1, rv a2, .unset] [(.ref a2), (.ref a2)] _
    refine Jvm.RoadKit.acmp (g := (mkF m 37 #[rv a1, rv a2, .unset] [(.ref a2), (.ref a2)])) X3 hx rfl rfl rfl (pc0 := 37) (pc' := 40) (same := true) rfl (hb hby d_20) rfl (decide_eq_true rfl) (by decide) (by decide) ?_
    show SS p e below T3 m 40 #[rv a1, rv a2, .unset] [] _
    refine st4 _ ?_
    show SS p e below T4 m 43 #[rv a1, rv a2, .unset] [(.ref a4)] _
    refine XS.astoreN X4.here hx rfl (hb hby d_64) rfl rfl (l' := #[rv a1, rv a2, rv a4]) rfl ?_
    show SS p e below T4 m 44 #[rv a1, rv a2, rv a4] [] _
    refine XS.goto X4.here hx rfl (pc0 := 44) (pc' := 63) rfl (hb hby d_65) (by decide) (by decide) ?_
    refine XS.aloadN X4.here hx rfl (hb hby d_26) rfl rfl ?_
    show SS p e below T4 m 64 #[rv a1, rv a2, rv a4] [(.ref a4)] _
    exact retOut X4 hx hret rfl (Or.inr (Or.inr (Or.inr (Or.inr ⟨rfl, rfl, rfl⟩)))) (hb hby d_27) hr
theorem d_66 : decode method_3_code 26 = .ok (.iload_n 0, 1) := by decide +kernel
theorem d_67 : decode method_3_code 27 = .ok (.iconst 3, 1) := by decide +kernel
theorem d_68 : decode method_3_code 28 = .ok (.if_icmp .ne 7, 3) := by decide +kernel
theorem d_69 : decode method_3_code 31 = .ok (.getstatic 34, 3) := by decide +kernel
theorem d_70 : decode method_3_code 34 = .ok (.areturn, 1) := by decide +kernel
-- com/example/dossiertools/dossiertools/LeafStateAfterPinLaw.state(I)Lcom/example/dossiertools/dossiertools/LeafState;
def Q12_state (Z : State) (a1 : Addr) (h0 : Heap) (n0 : Nat) (v : Option Value) (h : Heap) (L : List Loc) : Prop := v = some (.ref a1) ∧ Fr n0 L ∧ h = h0
set_option maxRecDepth 65536 in
set_option maxHeartbeats 40000000 in
theorem rm12_state (l : Launch) (Z : State) (a0 : Array Value) (hw : HW Z a0) (a1 : Addr) (h0 : Heap) (n0 : Nat) (O0 : Old Z n0 h0) (S_0 : SA11 Z Z.heap (.ref a1)) :
    Met l Z [] Y0 method_3_code 1 (some (.object "com/example/dossiertools/dossiertools/LeafState")) ({ frames := 0, cells := 0, slots := 0, locals := 0 } : Room) #[(.int (3 : Int32))] h0 (Q12_state Z a1 h0 n0) := by
  have W := fun (i : Nat) {c : Jvm.Cond} (q : tables_1[i]? = some c) => hw c (List.mem_of_getElem? q)
  refine own_mk (plainFor_of_name pn_5) ?_
  intro p e s m below meth c s₁ hZ hx hby hml hown hnm hret hlk X0 e0
  have N0 := Fr.nil n0
  obtain ⟨T1, X1, e1, st1⟩ := getS2 X0 hx hZ hown (host := "") (Or.inl (W 25 rfl)) Via.refl e0 (S_0.ext O0.2) (g := (mkF m 31 #[iv (3 : Int32)] [])) rfl (hb hby d_69)
  refine ⟨T1, some (.ref a1), _, _, _, X1, by decide, by decide, nofun, ?_, fun fs hr => castTop (ef_62 m ) ?_⟩
  · show Q12_state Z a1 h0 n0 _ T1.heap _
    rw [e1]
    exact ⟨rfl, N0, rfl⟩
  · show SS p e below s₁ m 0 #[iv (3 : Int32)] [] _
    refine XS.iloadN X0.here hx rfl (hb hby d_0) rfl ?_
    show SS p e below s₁ m 1 #[iv (3 : Int32)] [(.int (3 : Int32))] _
    refine XS.ifYes X0.here hx rfl (pc0 := 1) (pc' := 8) rfl (hb hby d_1) rfl ((if0 _ _).trans (feq (by decide : ¬ ((3 : Int32) = (0 : Int32)))).2) (by decide) (by decide) ?_
    show SS p e below s₁ m 8 #[iv (3 : Int32)] [] _
    refine XS.iloadN X0.here hx rfl (hb hby d_41) rfl ?_
    refine XS.iconst X0.here hx rfl (hb hby d_42) ?_
    show SS p e below s₁ m 10 #[iv (3 : Int32)] [(.int (1 : Int32)), (.int (3 : Int32))] _
    refine XS.icmpYes X0.here hx rfl (pc0 := 10) (pc' := 17) rfl (hb hby d_43) rfl (feq (by decide : ¬ ((3 : Int32) = (1 : Int32)))).2 (by decide) (by decide) ?_
    show SS p e below s₁ m 17 #[iv (3 : Int32)] [] _
    refine XS.iloadN X0.here hx rfl (hb hby d_55) rfl ?_
    refine XS.iconst X0.here hx rfl (hb hby d_56) ?_
    show SS p e below s₁ m 19 #[iv (3 : Int32)] [(.int (2 : Int32)), (.int (3 : Int32))] _
    refine XS.icmpYes X0.here hx rfl (pc0 := 19) (pc' := 26) rfl (hb hby d_57) rfl (feq (by decide : ¬ ((3 : Int32) = (2 : Int32)))).2 (by decide) (by decide) ?_
    show SS p e below s₁ m 26 #[iv (3 : Int32)] [] _
    refine XS.iloadN X0.here hx rfl (hb hby d_66) rfl ?_
    refine XS.iconst X0.here hx rfl (hb hby d_67) ?_
    show SS p e below s₁ m 28 #[iv (3 : Int32)] [(.int (3 : Int32)), (.int (3 : Int32))] _
    refine XS.icmpNo X0.here hx rfl (hb hby d_68) rfl (teq (by decide : (3 : Int32) = (3 : Int32))).2 ?_
    show SS p e below s₁ m 31 #[iv (3 : Int32)] [] _
    refine st1 _ ?_
    show SS p e below T1 m 34 #[iv (3 : Int32)] [(.ref a1)] _
    exact retOut X1 hx hret rfl (Or.inr (Or.inr (Or.inr (Or.inr ⟨rfl, rfl, rfl⟩)))) (hb hby d_70) hr
set_option maxRecDepth 65536 in
set_option maxHeartbeats 40000000 in
theorem rm0_0_3 (l : Launch) (Z : State) (a0 : Array Value) (hw : HW Z a0) (ws : List Jvm.Cond) (p1 : Int32) (p2 : Int32) (o_CURRENT : Addr) (o_DELETE : Addr) (o_REPLACE : Addr) (o_NO_LONGER_RELEVANT : Addr) (o_DELETION : Addr) (o_APPEND : Addr) (o_CURRENT_APPENDED : Addr) (o_NEW : Addr) (o_REPLACED : Addr) (h0 : Heap) (n0 : Nat) (O0 : Old Z n0 h0) (S_o_CURRENT : SA6 Z Z.heap (.ref o_CURRENT)) (E_o_CURRENT : EA4 Z Z.heap o_CURRENT) (S_o_DELETE : SA9 Z Z.heap (.ref o_DELETE)) (E_o_DELETE : EA5 Z Z.heap o_DELETE) (S_o_REPLACE : SA8 Z Z.heap (.ref o_REPLACE)) (E_o_REPLACE : EA5 Z Z.heap o_REPLACE) (S_o_NO_LONGER_RELEVANT : SA11 Z Z.heap (.ref o_NO_LONGER_RELEVANT)) (E_o_NO_LONGER_RELEVANT : EA4 Z Z.heap o_NO_LONGER_RELEVANT) (S_o_DELETION : SA12 Z Z.heap (.ref o_DELETION)) (E_o_DELETION : EA4 Z Z.heap o_DELETION) (S_o_APPEND : SA10 Z Z.heap (.ref o_APPEND)) (E_o_APPEND : EA5 Z Z.heap o_APPEND) (S_o_CURRENT_APPENDED : SA13 Z Z.heap (.ref o_CURRENT_APPENDED)) (E_o_CURRENT_APPENDED : EA4 Z Z.heap o_CURRENT_APPENDED) (S_o_NEW : SA7 Z Z.heap (.ref o_NEW)) (E_o_NEW : EA5 Z Z.heap o_NEW) (S_o_REPLACED : SA14 Z Z.heap (.ref o_REPLACED)) (E_o_REPLACED : EA4 Z Z.heap o_REPLACED) (F_o_DELETE_ordinal : FA3 Z Z.heap o_DELETE (.int (3 : Int32))) (F_o_REPLACE_ordinal : FA3 Z Z.heap o_REPLACE (.int (2 : Int32))) (F_o_DELETION_ordinal : FA3 Z Z.heap o_DELETION (.int (4 : Int32))) (F_o_CURRENT_ordinal : FA3 Z Z.heap o_CURRENT (.int (0 : Int32))) (F_o_CURRENT_APPENDED_ordinal : FA3 Z Z.heap o_CURRENT_APPENDED (.int (1 : Int32))) (F_o_NO_LONGER_RELEVANT_ordinal : FA3 Z Z.heap o_NO_LONGER_RELEVANT (.int (3 : Int32))) (F_o_NEW_ordinal : FA3 Z Z.heap o_NEW (.int (0 : Int32))) (F_o_APPEND_ordinal : FA3 Z Z.heap o_APPEND (.int (1 : Int32))) (F_o_REPLACED_ordinal : FA3 Z Z.heap o_REPLACED (.int (2 : Int32))) (hs : ((p1 &&& (2147483647 : Int32)) % (5 : Int32)) = (0 : Int32)) (hf : (p2 &&& (3 : Int32)) = (3 : Int32)) :
    Met l Z ws x code maxLocals ret room_1 #[(.int p1), (.int p2)] h0 (fun v _ L => Q0 n0 v L) := by
  have W := fun (i : Nat) {c : Jvm.Cond} (q : tables_1[i]? = some c) => hw c (List.mem_of_getElem? q)
  refine own_mk (plainFor_of_name pn_5) ?_
  intro p e s m below meth c s₁ hZ hx hby hml hown hnm hret hlk X0 e0
  have N0 := Fr.nil n0
  obtain ⟨_, T1, L1, X1, hQ1, st1⟩ := own_cs X0 hx hZ hown hml (W 1 rfl) (W 2 rfl) (W 3 rfl) (W 4 rfl) (rm1_state l Z a0 hw o_CURRENT h0 n0 O0 (S_o_CURRENT)) e0 (hb hby at_12) 0 #[iv p1, iv p2, iv (0 : Int32), iv (3 : Int32), .unset, .unset, .unset, .unset] [(.int (0 : Int32))] [] pd_6 (by decide) rfl rfl rfl (Nat.le_of_eq rfl)
  obtain ⟨rfl, N1q, K1⟩ := hQ1
  have N2 := Fr.app N0 N1q
  obtain ⟨_, T3, L3, X3, hQ3, st3⟩ := own_cs X1 hx hZ hown hml (W 8 rfl) (W 9 rfl) (W 3 rfl) (W 10 rfl) (rm10_operation l Z a0 hw o_DELETE h0 n0 O0 (S_o_DELETE)) K1 (hb hby at_18) 0 #[iv p1, iv p2, iv (0 : Int32), iv (3 : Int32), rv o_CURRENT, .unset, .unset, .unset] [(.int (3 : Int32))] [] pd_11 (by decide) rfl rfl rfl (Nat.le_of_eq rfl)
  obtain ⟨rfl, N3q, K3⟩ := hQ3
  have N4 := Fr.app N2 N3q
  obtain ⟨_, T5, L5, X5, hQ5, st5⟩ := own_cv X3 hx hZ hown hml (W 14 rfl) (W 15 rfl) (notFace_of_selects (W 17 rfl)) (W 17 rfl) (W 16 rfl) (W 6 rfl) (W 18 rfl) (rm11_after l Z a0 hw o_CURRENT o_DELETE o_REPLACE o_NO_LONGER_RELEVANT h0 n0 O0 (S_o_CURRENT) (S_o_REPLACE) ((Fld.ne F_o_DELETE_ordinal F_o_REPLACE_ordinal (by decide))) (S_o_DELETE) (S_o_NO_LONGER_RELEVANT)) K3 (E_o_CURRENT.ext O0.2) (hb hby at_27) 0 #[iv p1, iv p2, iv (0 : Int32), iv (3 : Int32), rv o_CURRENT, rv o_DELETE, .unset, .unset] [(.ref o_DELETE)] [] pd_30 (by decide) rfl rfl rfl (Nat.le_of_eq rfl)
  obtain ⟨rfl, N5q, K5⟩ := hQ5
  have N6 := Fr.app N4 N5q
  obtain ⟨_, T7, L7, X7, hQ7, st7⟩ := own_cs X5 hx hZ hown hml (W 1 rfl) (W 2 rfl) (W 3 rfl) (W 4 rfl) (rm12_state l Z a0 hw o_NO_LONGER_RELEVANT h0 n0 O0 (S_o_NO_LONGER_RELEVANT)) K5 (hb hby at_60) 1 #[iv p1, iv p2, iv (0 : Int32), iv (3 : Int32), rv o_CURRENT, rv o_DELETE, rv o_NO_LONGER_RELEVANT, iv (3 : Int32)] [(.int (3 : Int32))] [(.ref o_NO_LONGER_RELEVANT)] pd_6 (by decide) rfl rfl rfl (Nat.le_of_eq rfl)
  obtain ⟨rfl, N7q, K7⟩ := hQ7
  have N8 := Fr.app N6 N7q
  refine ⟨T7, some (.int (1 : Int32)), _, _, _, X7, by decide, by decide, nofun, ?_, fun fs hr => castTop (ef_31 m p1 p2) ?_⟩
  · exact ⟨rfl, N8⟩
  · show SS p e below s₁ m 0 #[iv p1, iv p2, .unset, .unset, .unset, .unset, .unset, .unset] [] _
    refine XS.iloadN X0.here hx rfl (hb hby at_0) rfl ?_
    show SS p e below s₁ m 1 #[iv p1, iv p2, .unset, .unset, .unset, .unset, .unset, .unset] [(.int p1)] _
    refine X0.ldcInt hx hown (mvT hZ (W 0 rfl)) (g := (mkF m 1 #[iv p1, iv p2, .unset, .unset, .unset, .unset, .unset, .unset] [(.int p1)])) rfl (hb hby at_1) _ ?_
    show SS p e below s₁ m 3 #[iv p1, iv p2, .unset, .unset, .unset, .unset, .unset, .unset] [(.int (2147483647 : Int32)), (.int p1)] _
    refine XS.iand X0.here hx rfl (hb hby at_3) rfl ?_
    show SS p e below s₁ m 4 #[iv p1, iv p2, .unset, .unset, .unset, .unset, .unset, .unset] [(.int (p1 &&& (2147483647 : Int32)))] _
    refine XS.iconst X0.here hx rfl (hb hby at_4) ?_
    show SS p e below s₁ m 5 #[iv p1, iv p2, .unset, .unset, .unset, .unset, .unset, .unset] [(.int (5 : Int32)), (.int (p1 &&& (2147483647 : Int32)))] _
    refine iremM (g := (mkF m 5 #[iv p1, iv p2, .unset, .unset, .unset, .unset, .unset, .unset] [(.int (5 : Int32)), (.int (p1 &&& (2147483647 : Int32)))])) X0 hx rfl (hb hby at_5) rfl (by decide : ¬ ((5 : Int32) = (0 : Int32))) ?_
    rw [hs]
    show SS p e below s₁ m 6 #[iv p1, iv p2, .unset, .unset, .unset, .unset, .unset, .unset] [(.int (0 : Int32))] _
    refine XS.istoreN X0.here hx rfl (hb hby at_6) rfl (l' := #[iv p1, iv p2, iv (0 : Int32), .unset, .unset, .unset, .unset, .unset]) rfl ?_
    show SS p e below s₁ m 7 #[iv p1, iv p2, iv (0 : Int32), .unset, .unset, .unset, .unset, .unset] [] _
    refine XS.iloadN X0.here hx rfl (hb hby at_7) rfl ?_
    refine XS.iconst X0.here hx rfl (hb hby at_8) ?_
    show SS p e below s₁ m 9 #[iv p1, iv p2, iv (0 : Int32), .unset, .unset, .unset, .unset, .unset] [(.int (3 : Int32)), (.int p2)] _
    refine XS.iand X0.here hx rfl (hb hby at_9) rfl ?_
    rw [hf]
    show SS p e below s₁ m 10 #[iv p1, iv p2, iv (0 : Int32), .unset, .unset, .unset, .unset, .unset] [(.int (3 : Int32))] _
    refine XS.istoreN X0.here hx rfl (hb hby at_10) rfl (l' := #[iv p1, iv p2, iv (0 : Int32), iv (3 : Int32), .unset, .unset, .unset, .unset]) rfl ?_
    show SS p e below s₁ m 11 #[iv p1, iv p2, iv (0 : Int32), iv (3 : Int32), .unset, .unset, .unset, .unset] [] _
    refine XS.iloadN X0.here hx rfl (hb hby at_11) rfl ?_
    show SS p e below s₁ m 12 #[iv p1, iv p2, iv (0 : Int32), iv (3 : Int32), .unset, .unset, .unset, .unset] [(.int (0 : Int32))] _
    refine st1 _ ?_
    show SS p e below T1 m 15 #[iv p1, iv p2, iv (0 : Int32), iv (3 : Int32), .unset, .unset, .unset, .unset] [(.ref o_CURRENT)] _
    refine XS.astore X1.here hx rfl (hb hby at_15) rfl rfl (l' := #[iv p1, iv p2, iv (0 : Int32), iv (3 : Int32), rv o_CURRENT, .unset, .unset, .unset]) rfl ?_
    show SS p e below T1 m 17 #[iv p1, iv p2, iv (0 : Int32), iv (3 : Int32), rv o_CURRENT, .unset, .unset, .unset] [] _
    refine XS.iloadN X1.here hx rfl (hb hby at_17) rfl ?_
    show SS p e below T1 m 18 #[iv p1, iv p2, iv (0 : Int32), iv (3 : Int32), rv o_CURRENT, .unset, .unset, .unset] [(.int (3 : Int32))] _
    refine st3 _ ?_
    show SS p e below T3 m 21 #[iv p1, iv p2, iv (0 : Int32), iv (3 : Int32), rv o_CURRENT, .unset, .unset, .unset] [(.ref o_DELETE)] _
    refine XS.astore X3.here hx rfl (hb hby at_21) rfl rfl (l' := #[iv p1, iv p2, iv (0 : Int32), iv (3 : Int32), rv o_CURRENT, rv o_DELETE, .unset, .unset]) rfl ?_
    show SS p e below T3 m 23 #[iv p1, iv p2, iv (0 : Int32), iv (3 : Int32), rv o_CURRENT, rv o_DELETE, .unset, .unset] [] _
    refine XS.aload X3.here hx rfl (hb hby at_23) rfl rfl ?_
    refine XS.aload X3.here hx rfl (hb hby at_25) rfl rfl ?_
    show SS p e below T3 m 27 #[iv p1, iv p2, iv (0 : Int32), iv (3 : Int32), rv o_CURRENT, rv o_DELETE, .unset, .unset] [(.ref o_DELETE), (.ref o_CURRENT)] _
    refine st5 _ ?_
    show SS p e below T5 m 30 #[iv p1, iv p2, iv (0 : Int32), iv (3 : Int32), rv o_CURRENT, rv o_DELETE, .unset, .unset] [(.ref o_NO_LONGER_RELEVANT)] _
    refine XS.astore X5.here hx rfl (hb hby at_30) rfl rfl (l' := #[iv p1, iv p2, iv (0 : Int32), iv (3 : Int32), rv o_CURRENT, rv o_DELETE, rv o_NO_LONGER_RELEVANT, .unset]) rfl ?_
    show SS p e below T5 m 32 #[iv p1, iv p2, iv (0 : Int32), iv (3 : Int32), rv o_CURRENT, rv o_DELETE, rv o_NO_LONGER_RELEVANT, .unset] [] _
    refine XS.iloadN X5.here hx rfl (hb hby at_32) rfl ?_
    refine XS.iconst X5.here hx rfl (hb hby at_33) ?_
    show SS p e below T5 m 34 #[iv p1, iv p2, iv (0 : Int32), iv (3 : Int32), rv o_CURRENT, rv o_DELETE, rv o_NO_LONGER_RELEVANT, .unset] [(.int (2 : Int32)), (.int (0 : Int32))] _
    refine XS.icmpYes X5.here hx rfl (pc0 := 34) (pc' := 43) rfl (hb hby at_34) rfl (tlt (by decide : (0 : Int32) < (2 : Int32))).1 (by decide) (by decide) ?_
    show SS p e below T5 m 43 #[iv p1, iv p2, iv (0 : Int32), iv (3 : Int32), rv o_CURRENT, rv o_DELETE, rv o_NO_LONGER_RELEVANT, .unset] [] _
    refine XS.iloadN X5.here hx rfl (hb hby at_43) rfl ?_
    show SS p e below T5 m 44 #[iv p1, iv p2, iv (0 : Int32), iv (3 : Int32), rv o_CURRENT, rv o_DELETE, rv o_NO_LONGER_RELEVANT, .unset] [(.int (3 : Int32))] _
    refine XS.ifYes X5.here hx rfl (pc0 := 44) (pc' := 53) rfl (hb hby at_44) rfl ((if0 _ _).trans (feq (by decide : ¬ ((3 : Int32) = (0 : Int32)))).2) (by decide) (by decide) ?_
    show SS p e below T5 m 53 #[iv p1, iv p2, iv (0 : Int32), iv (3 : Int32), rv o_CURRENT, rv o_DELETE, rv o_NO_LONGER_RELEVANT, .unset] [] _
    refine XS.iloadN X5.here hx rfl (hb hby at_53) rfl ?_
    show SS p e below T5 m 54 #[iv p1, iv p2, iv (0 : Int32), iv (3 : Int32), rv o_CURRENT, rv o_DELETE, rv o_NO_LONGER_RELEVANT, .unset] [(.int (3 : Int32))] _
    refine XS.istore X5.here hx rfl (hb hby at_54) rfl (l' := #[iv p1, iv p2, iv (0 : Int32), iv (3 : Int32), rv o_CURRENT, rv o_DELETE, rv o_NO_LONGER_RELEVANT, iv (3 : Int32)]) rfl ?_
    show SS p e below T5 m 56 #[iv p1, iv p2, iv (0 : Int32), iv (3 : Int32), rv o_CURRENT, rv o_DELETE, rv o_NO_LONGER_RELEVANT, iv (3 : Int32)] [] _
    refine XS.aload X5.here hx rfl (hb hby at_56) rfl rfl ?_
    refine XS.iload X5.here hx rfl (hb hby at_58) rfl ?_
    show SS p e below T5 m 60 #[iv p1, iv p2, iv (0 : Int32), iv (3 : Int32), rv o_CURRENT, rv o_DELETE, rv o_NO_LONGER_RELEVANT, iv (3 : Int32)] [(.int (3 : Int32)), (.ref o_NO_LONGER_RELEVANT)] _
    refine st7 _ ?_
    show SS p e below T7 m 63 #[iv p1, iv p2, iv (0 : Int32), iv (3 : Int32), rv o_CURRENT, rv o_DELETE, rv o_NO_LONGER_RELEVANT, iv (3 : Int32)] [(.ref o_NO_LONGER_RELEVANT), (.ref o_NO_LONGER_RELEVANT)] _
    refine Jvm.RoadKit.acmp (g := (mkF m 63 #[iv p1, iv p2, iv (0 : Int32), iv (3 : Int32), rv o_CURRENT, rv o_DELETE, rv o_NO_LONGER_RELEVANT, iv (3 : Int32)] [(.ref o_NO_LONGER_RELEVANT), (.ref o_NO_LONGER_RELEVANT)])) X7 hx rfl rfl rfl (pc0 := 63) (pc' := 66) (same := true) rfl (hb hby at_63) rfl (decide_eq_true rfl) (by decide) (by decide) ?_
    show SS p e below T7 m 66 #[iv p1, iv p2, iv (0 : Int32), iv (3 : Int32), rv o_CURRENT, rv o_DELETE, rv o_NO_LONGER_RELEVANT, iv (3 : Int32)] [] _
    refine XS.iconst X7.here hx rfl (hb hby at_66) ?_
    refine XS.goto X7.here hx rfl (pc0 := 67) (pc' := 71) rfl (hb hby at_67) (by decide) (by decide) ?_
    show SS p e below T7 m 71 #[iv p1, iv p2, iv (0 : Int32), iv (3 : Int32), rv o_CURRENT, rv o_DELETE, rv o_NO_LONGER_RELEVANT, iv (3 : Int32)] [(.int (1 : Int32))] _
    exact retN X7 hx (t := .boolean) hret (by simp) (hb hby at_71) hr
theorem d_71 : decode prog_38_method_5_code 7 = .ok (.aload_n 0, 1) := by decide +kernel
theorem d_72 : decode prog_38_method_5_code 8 = .ok (.getstatic 7, 3) := by decide +kernel
theorem d_73 : decode prog_38_method_5_code 11 = .ok (.if_acmp .eq 8, 3) := by decide +kernel
-- com/example/dossiertools/dossiertools/LeafState.after(Lcom/example/dossiertools/dossiertools/Operation;)Lcom/example/dossiertools/dossiertools/LeafState;
def Q13_after (Z : State) (a1 : Addr) (a2 : Addr) (a3 : Addr) (a4 : Addr) (a5 : Addr) (a6 : Addr) (h0 : Heap) (n0 : Nat) (v : Option Value) (h : Heap) (L : List Loc) : Prop := v = some (.ref a1) ∧ Fr n0 L ∧ h = h0
set_option maxRecDepth 65536 in
set_option maxHeartbeats 40000000 in
theorem rm13_after (l : Launch) (Z : State) (a0 : Array Value) (hw : HW Z a0) (a1 : Addr) (a2 : Addr) (a3 : Addr) (a4 : Addr) (a5 : Addr) (a6 : Addr) (h0 : Heap) (n0 : Nat) (O0 : Old Z n0 h0) (S_0 : SA6 Z Z.heap (.ref a3)) (ne_1 : a1 ≠ a3) (S_2 : SA13 Z Z.heap (.ref a1)) (S_3 : SA8 Z Z.heap (.ref a4)) (ne_4 : a2 ≠ a4) (S_5 : SA9 Z Z.heap (.ref a5)) (ne_6 : a2 ≠ a5) (S_7 : SA10 Z Z.heap (.ref a6)) (ne_8 : a2 ≠ a6) :
    Met l Z [] Y2 prog_38_method_5_code 3 (some (.object "com/example/dossiertools/dossiertools/LeafState")) ({ frames := 0, cells := 0, slots := 0, locals := 0 } : Room) #[(.ref a1), (.ref a2)] h0 (Q13_after Z a1 a2 a3 a4 a5 a6 h0 n0) := by
  have W := fun (i : Nat) {c : Jvm.Cond} (q : tables_1[i]? = some c) => hw c (List.mem_of_getElem? q)
  refine own_mk (plainFor_of_name pn_29) ?_
  intro p e s m below meth c s₁ hZ hx hby hml hown hnm hret hlk X0 e0
  have N0 := Fr.nil n0
  obtain ⟨T1, X1, e1, st1⟩ := getS2 X0 hx hZ hown (host := "") (Or.inl (W 19 rfl)) Via.refl e0 (S_0.ext O0.2) (g := (mkF m 1 #[rv a1, rv a2, .unset] [(.ref a1)])) rfl (hb hby d_13)
  obtain ⟨T2, X2, e2, st2⟩ := getS2 X1 hx hZ hown (host := "") (Or.inl (W 30 rfl)) Via.refl e1 (S_2.ext O0.2) (g := (mkF m 8 #[rv a1, rv a2, .unset] [(.ref a1)])) rfl (hb hby d_72)
  obtain ⟨T3, X3, e3, st3⟩ := getS2 X2 hx hZ hown (host := "") (Or.inl (W 20 rfl)) Via.refl e2 (S_3.ext O0.2) (g := (mkF m 20 #[rv a1, rv a2, .unset] [(.ref a2)])) rfl (hb hby d_16)
  obtain ⟨T4, X4, e4, st4⟩ := getS2 X3 hx hZ hown (host := "") (Or.inl (W 22 rfl)) Via.refl e3 (S_5.ext O0.2) (g := (mkF m 34 #[rv a1, rv a2, .unset] [(.ref a2)])) rfl (hb hby d_19)
  obtain ⟨T5, X5, e5, st5⟩ := getS2 X4 hx hZ hown (host := "") (Or.inl (W 35 rfl)) Via.refl e4 (S_7.ext O0.2) (g := (mkF m 48 #[rv a1, rv a2, .unset] [(.ref a2)])) rfl (hb hby d_22)
  refine ⟨T5, some (.ref a1), _, _, _, X5, by decide, by decide, nofun, ?_, fun fs hr => castTop (ef_28 m a1 a2) ?_⟩
  · show Q13_after Z a1 a2 a3 a4 a5 a6 h0 n0 _ T5.heap _
    rw [e5]
    exact ⟨rfl, N0, rfl⟩
  · show SS p e below s₁ m 0 #[rv a1, rv a2, .unset] [] _
    refine XS.aloadN X0.here hx rfl (hb hby d_12) rfl rfl ?_
    show SS p e below s₁ m 1 #[rv a1, rv a2, .unset] [(.ref a1)] _
    refine st1 _ ?_
    show SS p e below T1 m 4 #[rv a1, rv a2, .unset] [(.ref a3), (.ref a1)] _
    refine Jvm.RoadKit.acmp (g := (mkF m 4 #[rv a1, rv a2, .unset] [(.ref a3), (.ref a1)])) X1 hx rfl rfl rfl (pc0 := 4) (pc' := 7) (same := false) rfl (hb hby d_14) rfl (decide_eq_false fun q => ne_1 (Value.ref.inj q)) (by decide) (by decide) ?_
    show SS p e below T1 m 7 #[rv a1, rv a2, .unset] [] _
    refine XS.aloadN X1.here hx rfl (hb hby d_71) rfl rfl ?_
    show SS p e below T1 m 8 #[rv a1, rv a2, .unset] [(.ref a1)] _
    refine st2 _ ?_
    show SS p e below T2 m 11 #[rv a1, rv a2, .unset] [(.ref a1), (.ref a1)] _
    refine Jvm.RoadKit.acmp (g := (mkF m 11 #[rv a1, rv a2, .unset] [(.ref a1), (.ref a1)])) X2 hx rfl rfl rfl (pc0 := 11) (pc' := 19) (same := true) rfl (hb hby d_73) rfl (decide_eq_true rfl) (by decide) (by decide) ?_
    show SS p e below T2 m 19 #[rv a1, rv a2, .unset] [] _
    refine XS.aloadN X2.here hx rfl (hb hby d_15) rfl rfl ?_
    show SS p e below T2 m 20 #[rv a1, rv a2, .unset] [(.ref a2)] _
    refine st3 _ ?_
    show SS p e below T3 m 23 #[rv a1, rv a2, .unset] [(.ref a4), (.ref a2)] _
    refine Jvm.RoadKit.acmp (g := (mkF m 23 #[rv a1, rv a2, .unset] [(.ref a4), (.ref a2)])) X3 hx rfl rfl rfl (pc0 := 23) (pc' := 33) (same := false) rfl (hb hby d_17) rfl (decide_eq_false fun q => ne_4 (Value.ref.inj q)) (by decide) (by decide) ?_
    show SS p e below T3 m 33 #[rv a1, rv a2, .unset] [] _
    refine XS.aloadN X3.here hx rfl (hb hby d_18) rfl rfl ?_
    show SS p e below T3 m 34 #[rv a1, rv a2, .unset] [(.ref a2)] _
    refine st4 _ ?_
    show SS p e below T4 m 37 #[rv a1, rv a2, .unset] [(.ref a5), (.ref a2)] _
    refine Jvm.RoadKit.acmp (g := (mkF m 37 #[rv a1, rv a2, .unset] [(.ref a5), (.ref a2)])) X4 hx rfl rfl rfl (pc0 := 37) (pc' := 47) (same := false) rfl (hb hby d_20) rfl (decide_eq_false fun q => ne_6 (Value.ref.inj q)) (by decide) (by decide) ?_
    show SS p e below T4 m 47 #[rv a1, rv a2, .unset] [] _
    refine XS.aloadN X4.here hx rfl (hb hby d_21) rfl rfl ?_
    show SS p e below T4 m 48 #[rv a1, rv a2, .unset] [(.ref a2)] _
    refine st5 _ ?_
    show SS p e below T5 m 51 #[rv a1, rv a2, .unset] [(.ref a6), (.ref a2)] _
    refine Jvm.RoadKit.acmp (g := (mkF m 51 #[rv a1, rv a2, .unset] [(.ref a6), (.ref a2)])) X5 hx rfl rfl rfl (pc0 := 51) (pc' := 61) (same := false) rfl (hb hby d_23) rfl (decide_eq_false fun q => ne_8 (Value.ref.inj q)) (by decide) (by decide) ?_
    show SS p e below T5 m 61 #[rv a1, rv a2, .unset] [] _
    refine XS.aloadN X5.here hx rfl (hb hby d_24) rfl rfl ?_
    show SS p e below T5 m 62 #[rv a1, rv a2, .unset] [(.ref a1)] _
    refine XS.astoreN X5.here hx rfl (hb hby d_25) rfl rfl (l' := #[rv a1, rv a2, rv a1]) rfl ?_
    show SS p e below T5 m 63 #[rv a1, rv a2, rv a1] [] _
    refine XS.aloadN X5.here hx rfl (hb hby d_26) rfl rfl ?_
    show SS p e below T5 m 64 #[rv a1, rv a2, rv a1] [(.ref a1)] _
    exact retOut X5 hx hret rfl (Or.inr (Or.inr (Or.inr (Or.inr ⟨rfl, rfl, rfl⟩)))) (hb hby d_27) hr
set_option maxRecDepth 65536 in
set_option maxHeartbeats 40000000 in
theorem rm0_1_0 (l : Launch) (Z : State) (a0 : Array Value) (hw : HW Z a0) (ws : List Jvm.Cond) (p1 : Int32) (p2 : Int32) (o_CURRENT : Addr) (o_DELETE : Addr) (o_REPLACE : Addr) (o_NO_LONGER_RELEVANT : Addr) (o_DELETION : Addr) (o_APPEND : Addr) (o_CURRENT_APPENDED : Addr) (o_NEW : Addr) (o_REPLACED : Addr) (h0 : Heap) (n0 : Nat) (O0 : Old Z n0 h0) (S_o_CURRENT : SA6 Z Z.heap (.ref o_CURRENT)) (E_o_CURRENT : EA4 Z Z.heap o_CURRENT) (S_o_DELETE : SA9 Z Z.heap (.ref o_DELETE)) (E_o_DELETE : EA5 Z Z.heap o_DELETE) (S_o_REPLACE : SA8 Z Z.heap (.ref o_REPLACE)) (E_o_REPLACE : EA5 Z Z.heap o_REPLACE) (S_o_NO_LONGER_RELEVANT : SA11 Z Z.heap (.ref o_NO_LONGER_RELEVANT)) (E_o_NO_LONGER_RELEVANT : EA4 Z Z.heap o_NO_LONGER_RELEVANT) (S_o_DELETION : SA12 Z Z.heap (.ref o_DELETION)) (E_o_DELETION : EA4 Z Z.heap o_DELETION) (S_o_APPEND : SA10 Z Z.heap (.ref o_APPEND)) (E_o_APPEND : EA5 Z Z.heap o_APPEND) (S_o_CURRENT_APPENDED : SA13 Z Z.heap (.ref o_CURRENT_APPENDED)) (E_o_CURRENT_APPENDED : EA4 Z Z.heap o_CURRENT_APPENDED) (S_o_NEW : SA7 Z Z.heap (.ref o_NEW)) (E_o_NEW : EA5 Z Z.heap o_NEW) (S_o_REPLACED : SA14 Z Z.heap (.ref o_REPLACED)) (E_o_REPLACED : EA4 Z Z.heap o_REPLACED) (F_o_DELETE_ordinal : FA3 Z Z.heap o_DELETE (.int (3 : Int32))) (F_o_REPLACE_ordinal : FA3 Z Z.heap o_REPLACE (.int (2 : Int32))) (F_o_DELETION_ordinal : FA3 Z Z.heap o_DELETION (.int (4 : Int32))) (F_o_CURRENT_ordinal : FA3 Z Z.heap o_CURRENT (.int (0 : Int32))) (F_o_CURRENT_APPENDED_ordinal : FA3 Z Z.heap o_CURRENT_APPENDED (.int (1 : Int32))) (F_o_NO_LONGER_RELEVANT_ordinal : FA3 Z Z.heap o_NO_LONGER_RELEVANT (.int (3 : Int32))) (F_o_NEW_ordinal : FA3 Z Z.heap o_NEW (.int (0 : Int32))) (F_o_APPEND_ordinal : FA3 Z Z.heap o_APPEND (.int (1 : Int32))) (F_o_REPLACED_ordinal : FA3 Z Z.heap o_REPLACED (.int (2 : Int32))) (hs : ((p1 &&& (2147483647 : Int32)) % (5 : Int32)) = (1 : Int32)) (hf : (p2 &&& (3 : Int32)) = (0 : Int32)) :
    Met l Z ws x code maxLocals ret room_1 #[(.int p1), (.int p2)] h0 (fun v _ L => Q0 n0 v L) := by
  have W := fun (i : Nat) {c : Jvm.Cond} (q : tables_1[i]? = some c) => hw c (List.mem_of_getElem? q)
  refine own_mk (plainFor_of_name pn_5) ?_
  intro p e s m below meth c s₁ hZ hx hby hml hown hnm hret hlk X0 e0
  have N0 := Fr.nil n0
  obtain ⟨_, T1, L1, X1, hQ1, st1⟩ := own_cs X0 hx hZ hown hml (W 1 rfl) (W 2 rfl) (W 3 rfl) (W 4 rfl) (rm6_state l Z a0 hw o_CURRENT_APPENDED h0 n0 O0 (S_o_CURRENT_APPENDED)) e0 (hb hby at_12) 0 #[iv p1, iv p2, iv (1 : Int32), iv (0 : Int32), .unset, .unset, .unset, .unset] [(.int (1 : Int32))] [] pd_6 (by decide) rfl rfl rfl (Nat.le_of_eq rfl)
  obtain ⟨rfl, N1q, K1⟩ := hQ1
  have N2 := Fr.app N0 N1q
  obtain ⟨_, T3, L3, X3, hQ3, st3⟩ := own_cs X1 hx hZ hown hml (W 8 rfl) (W 9 rfl) (W 3 rfl) (W 10 rfl) (rm2_operation l Z a0 hw o_NEW h0 n0 O0 (S_o_NEW)) K1 (hb hby at_18) 0 #[iv p1, iv p2, iv (1 : Int32), iv (0 : Int32), rv o_CURRENT_APPENDED, .unset, .unset, .unset] [(.int (0 : Int32))] [] pd_11 (by decide) rfl rfl rfl (Nat.le_of_eq rfl)
  obtain ⟨rfl, N3q, K3⟩ := hQ3
  have N4 := Fr.app N2 N3q
  obtain ⟨_, T5, L5, X5, hQ5, st5⟩ := own_cv X3 hx hZ hown hml (W 14 rfl) (W 15 rfl) (notFace_of_selects (W 17 rfl)) (W 17 rfl) (W 16 rfl) (W 6 rfl) (W 18 rfl) (rm13_after l Z a0 hw o_CURRENT_APPENDED o_NEW o_CURRENT o_REPLACE o_DELETE o_APPEND h0 n0 O0 (S_o_CURRENT) ((Fld.ne F_o_CURRENT_APPENDED_ordinal F_o_CURRENT_ordinal (by decide))) (S_o_CURRENT_APPENDED) (S_o_REPLACE) ((Fld.ne F_o_NEW_ordinal F_o_REPLACE_ordinal (by decide))) (S_o_DELETE) ((Fld.ne F_o_NEW_ordinal F_o_DELETE_ordinal (by decide))) (S_o_APPEND) ((Fld.ne F_o_NEW_ordinal F_o_APPEND_ordinal (by decide)))) K3 (E_o_CURRENT_APPENDED.ext O0.2) (hb hby at_27) 0 #[iv p1, iv p2, iv (1 : Int32), iv (0 : Int32), rv o_CURRENT_APPENDED, rv o_NEW, .unset, .unset] [(.ref o_NEW)] [] pd_30 (by decide) rfl rfl rfl (Nat.le_of_eq rfl)
  obtain ⟨rfl, N5q, K5⟩ := hQ5
  have N6 := Fr.app N4 N5q
  obtain ⟨_, T7, L7, X7, hQ7, st7⟩ := own_cs X5 hx hZ hown hml (W 1 rfl) (W 2 rfl) (W 3 rfl) (W 4 rfl) (rm6_state l Z a0 hw o_CURRENT_APPENDED h0 n0 O0 (S_o_CURRENT_APPENDED)) K5 (hb hby at_60) 1 #[iv p1, iv p2, iv (1 : Int32), iv (0 : Int32), rv o_CURRENT_APPENDED, rv o_NEW, rv o_CURRENT_APPENDED, iv (1 : Int32)] [(.int (1 : Int32))] [(.ref o_CURRENT_APPENDED)] pd_6 (by decide) rfl rfl rfl (Nat.le_of_eq rfl)
  obtain ⟨rfl, N7q, K7⟩ := hQ7
  have N8 := Fr.app N6 N7q
  refine ⟨T7, some (.int (1 : Int32)), _, _, _, X7, by decide, by decide, nofun, ?_, fun fs hr => castTop (ef_31 m p1 p2) ?_⟩
  · exact ⟨rfl, N8⟩
  · show SS p e below s₁ m 0 #[iv p1, iv p2, .unset, .unset, .unset, .unset, .unset, .unset] [] _
    refine XS.iloadN X0.here hx rfl (hb hby at_0) rfl ?_
    show SS p e below s₁ m 1 #[iv p1, iv p2, .unset, .unset, .unset, .unset, .unset, .unset] [(.int p1)] _
    refine X0.ldcInt hx hown (mvT hZ (W 0 rfl)) (g := (mkF m 1 #[iv p1, iv p2, .unset, .unset, .unset, .unset, .unset, .unset] [(.int p1)])) rfl (hb hby at_1) _ ?_
    show SS p e below s₁ m 3 #[iv p1, iv p2, .unset, .unset, .unset, .unset, .unset, .unset] [(.int (2147483647 : Int32)), (.int p1)] _
    refine XS.iand X0.here hx rfl (hb hby at_3) rfl ?_
    show SS p e below s₁ m 4 #[iv p1, iv p2, .unset, .unset, .unset, .unset, .unset, .unset] [(.int (p1 &&& (2147483647 : Int32)))] _
    refine XS.iconst X0.here hx rfl (hb hby at_4) ?_
    show SS p e below s₁ m 5 #[iv p1, iv p2, .unset, .unset, .unset, .unset, .unset, .unset] [(.int (5 : Int32)), (.int (p1 &&& (2147483647 : Int32)))] _
    refine iremM (g := (mkF m 5 #[iv p1, iv p2, .unset, .unset, .unset, .unset, .unset, .unset] [(.int (5 : Int32)), (.int (p1 &&& (2147483647 : Int32)))])) X0 hx rfl (hb hby at_5) rfl (by decide : ¬ ((5 : Int32) = (0 : Int32))) ?_
    rw [hs]
    show SS p e below s₁ m 6 #[iv p1, iv p2, .unset, .unset, .unset, .unset, .unset, .unset] [(.int (1 : Int32))] _
    refine XS.istoreN X0.here hx rfl (hb hby at_6) rfl (l' := #[iv p1, iv p2, iv (1 : Int32), .unset, .unset, .unset, .unset, .unset]) rfl ?_
    show SS p e below s₁ m 7 #[iv p1, iv p2, iv (1 : Int32), .unset, .unset, .unset, .unset, .unset] [] _
    refine XS.iloadN X0.here hx rfl (hb hby at_7) rfl ?_
    refine XS.iconst X0.here hx rfl (hb hby at_8) ?_
    show SS p e below s₁ m 9 #[iv p1, iv p2, iv (1 : Int32), .unset, .unset, .unset, .unset, .unset] [(.int (3 : Int32)), (.int p2)] _
    refine XS.iand X0.here hx rfl (hb hby at_9) rfl ?_
    rw [hf]
    show SS p e below s₁ m 10 #[iv p1, iv p2, iv (1 : Int32), .unset, .unset, .unset, .unset, .unset] [(.int (0 : Int32))] _
    refine XS.istoreN X0.here hx rfl (hb hby at_10) rfl (l' := #[iv p1, iv p2, iv (1 : Int32), iv (0 : Int32), .unset, .unset, .unset, .unset]) rfl ?_
    show SS p e below s₁ m 11 #[iv p1, iv p2, iv (1 : Int32), iv (0 : Int32), .unset, .unset, .unset, .unset] [] _
    refine XS.iloadN X0.here hx rfl (hb hby at_11) rfl ?_
    show SS p e below s₁ m 12 #[iv p1, iv p2, iv (1 : Int32), iv (0 : Int32), .unset, .unset, .unset, .unset] [(.int (1 : Int32))] _
    refine st1 _ ?_
    show SS p e below T1 m 15 #[iv p1, iv p2, iv (1 : Int32), iv (0 : Int32), .unset, .unset, .unset, .unset] [(.ref o_CURRENT_APPENDED)] _
    refine XS.astore X1.here hx rfl (hb hby at_15) rfl rfl (l' := #[iv p1, iv p2, iv (1 : Int32), iv (0 : Int32), rv o_CURRENT_APPENDED, .unset, .unset, .unset]) rfl ?_
    show SS p e below T1 m 17 #[iv p1, iv p2, iv (1 : Int32), iv (0 : Int32), rv o_CURRENT_APPENDED, .unset, .unset, .unset] [] _
    refine XS.iloadN X1.here hx rfl (hb hby at_17) rfl ?_
    show SS p e below T1 m 18 #[iv p1, iv p2, iv (1 : Int32), iv (0 : Int32), rv o_CURRENT_APPENDED, .unset, .unset, .unset] [(.int (0 : Int32))] _
    refine st3 _ ?_
    show SS p e below T3 m 21 #[iv p1, iv p2, iv (1 : Int32), iv (0 : Int32), rv o_CURRENT_APPENDED, .unset, .unset, .unset] [(.ref o_NEW)] _
    refine XS.astore X3.here hx rfl (hb hby at_21) rfl rfl (l' := #[iv p1, iv p2, iv (1 : Int32), iv (0 : Int32), rv o_CURRENT_APPENDED, rv o_NEW, .unset, .unset]) rfl ?_
    show SS p e below T3 m 23 #[iv p1, iv p2, iv (1 : Int32), iv (0 : Int32), rv o_CURRENT_APPENDED, rv o_NEW, .unset, .unset] [] _
    refine XS.aload X3.here hx rfl (hb hby at_23) rfl rfl ?_
    refine XS.aload X3.here hx rfl (hb hby at_25) rfl rfl ?_
    show SS p e below T3 m 27 #[iv p1, iv p2, iv (1 : Int32), iv (0 : Int32), rv o_CURRENT_APPENDED, rv o_NEW, .unset, .unset] [(.ref o_NEW), (.ref o_CURRENT_APPENDED)] _
    refine st5 _ ?_
    show SS p e below T5 m 30 #[iv p1, iv p2, iv (1 : Int32), iv (0 : Int32), rv o_CURRENT_APPENDED, rv o_NEW, .unset, .unset] [(.ref o_CURRENT_APPENDED)] _
    refine XS.astore X5.here hx rfl (hb hby at_30) rfl rfl (l' := #[iv p1, iv p2, iv (1 : Int32), iv (0 : Int32), rv o_CURRENT_APPENDED, rv o_NEW, rv o_CURRENT_APPENDED, .unset]) rfl ?_
    show SS p e below T5 m 32 #[iv p1, iv p2, iv (1 : Int32), iv (0 : Int32), rv o_CURRENT_APPENDED, rv o_NEW, rv o_CURRENT_APPENDED, .unset] [] _
    refine XS.iloadN X5.here hx rfl (hb hby at_32) rfl ?_
    refine XS.iconst X5.here hx rfl (hb hby at_33) ?_
    show SS p e below T5 m 34 #[iv p1, iv p2, iv (1 : Int32), iv (0 : Int32), rv o_CURRENT_APPENDED, rv o_NEW, rv o_CURRENT_APPENDED, .unset] [(.int (2 : Int32)), (.int (1 : Int32))] _
    refine XS.icmpYes X5.here hx rfl (pc0 := 34) (pc' := 43) rfl (hb hby at_34) rfl (tlt (by decide : (1 : Int32) < (2 : Int32))).1 (by decide) (by decide) ?_
    show SS p e below T5 m 43 #[iv p1, iv p2, iv (1 : Int32), iv (0 : Int32), rv o_CURRENT_APPENDED, rv o_NEW, rv o_CURRENT_APPENDED, .unset] [] _
    refine XS.iloadN X5.here hx rfl (hb hby at_43) rfl ?_
    show SS p e below T5 m 44 #[iv p1, iv p2, iv (1 : Int32), iv (0 : Int32), rv o_CURRENT_APPENDED, rv o_NEW, rv o_CURRENT_APPENDED, .unset] [(.int (0 : Int32))] _
    refine XS.ifNo X5.here hx rfl (hb hby at_44) rfl ((if0 _ _).trans (teq (by decide : (0 : Int32) = (0 : Int32))).2) ?_
    show SS p e below T5 m 47 #[iv p1, iv p2, iv (1 : Int32), iv (0 : Int32), rv o_CURRENT_APPENDED, rv o_NEW, rv o_CURRENT_APPENDED, .unset] [] _
    refine XS.iloadN X5.here hx rfl (hb hby at_47) rfl ?_
    show SS p e below T5 m 48 #[iv p1, iv p2, iv (1 : Int32), iv (0 : Int32), rv o_CURRENT_APPENDED, rv o_NEW, rv o_CURRENT_APPENDED, .unset] [(.int (1 : Int32))] _
    refine XS.istore X5.here hx rfl (hb hby at_48) rfl (l' := #[iv p1, iv p2, iv (1 : Int32), iv (0 : Int32), rv o_CURRENT_APPENDED, rv o_NEW, rv o_CURRENT_APPENDED, iv (1 : Int32)]) rfl ?_
    show SS p e below T5 m 50 #[iv p1, iv p2, iv (1 : Int32), iv (0 : Int32), rv o_CURRENT_APPENDED, rv o_NEW, rv o_CURRENT_APPENDED, iv (1 : Int32)] [] _
    refine XS.goto X5.here hx rfl (pc0 := 50) (pc' := 56) rfl (hb hby at_50) (by decide) (by decide) ?_
    refine XS.aload X5.here hx rfl (hb hby at_56) rfl rfl ?_
    refine XS.iload X5.here hx rfl (hb hby at_58) rfl ?_
    show SS p e below T5 m 60 #[iv p1, iv p2, iv (1 : Int32), iv (0 : Int32), rv o_CURRENT_APPENDED, rv o_NEW, rv o_CURRENT_APPENDED, iv (1 : Int32)] [(.int (1 : Int32)), (.ref o_CURRENT_APPENDED)] _
    refine st7 _ ?_
    show SS p e below T7 m 63 #[iv p1, iv p2, iv (1 : Int32), iv (0 : Int32), rv o_CURRENT_APPENDED, rv o_NEW, rv o_CURRENT_APPENDED, iv (1 : Int32)] [(.ref o_CURRENT_APPENDED), (.ref o_CURRENT_APPENDED)] _
    refine Jvm.RoadKit.acmp (g := (mkF m 63 #[iv p1, iv p2, iv (1 : Int32), iv (0 : Int32), rv o_CURRENT_APPENDED, rv o_NEW, rv o_CURRENT_APPENDED, iv (1 : Int32)] [(.ref o_CURRENT_APPENDED), (.ref o_CURRENT_APPENDED)])) X7 hx rfl rfl rfl (pc0 := 63) (pc' := 66) (same := true) rfl (hb hby at_63) rfl (decide_eq_true rfl) (by decide) (by decide) ?_
    show SS p e below T7 m 66 #[iv p1, iv p2, iv (1 : Int32), iv (0 : Int32), rv o_CURRENT_APPENDED, rv o_NEW, rv o_CURRENT_APPENDED, iv (1 : Int32)] [] _
    refine XS.iconst X7.here hx rfl (hb hby at_66) ?_
    refine XS.goto X7.here hx rfl (pc0 := 67) (pc' := 71) rfl (hb hby at_67) (by decide) (by decide) ?_
    show SS p e below T7 m 71 #[iv p1, iv p2, iv (1 : Int32), iv (0 : Int32), rv o_CURRENT_APPENDED, rv o_NEW, rv o_CURRENT_APPENDED, iv (1 : Int32)] [(.int (1 : Int32))] _
    exact retN X7 hx (t := .boolean) hret (by simp) (hb hby at_71) hr
-- com/example/dossiertools/dossiertools/LeafState.after(Lcom/example/dossiertools/dossiertools/Operation;)Lcom/example/dossiertools/dossiertools/LeafState;
def Q14_after (Z : State) (a1 : Addr) (a2 : Addr) (a3 : Addr) (a4 : Addr) (a5 : Addr) (h0 : Heap) (n0 : Nat) (v : Option Value) (h : Heap) (L : List Loc) : Prop := v = some (.ref a1) ∧ Fr n0 L ∧ h = h0
set_option maxRecDepth 65536 in
set_option maxHeartbeats 40000000 in
theorem rm14_after (l : Launch) (Z : State) (a0 : Array Value) (hw : HW Z a0) (a1 : Addr) (a2 : Addr) (a3 : Addr) (a4 : Addr) (a5 : Addr) (h0 : Heap) (n0 : Nat) (O0 : Old Z n0 h0) (S_0 : SA6 Z Z.heap (.ref a3)) (ne_1 : a1 ≠ a3) (S_2 : SA13 Z Z.heap (.ref a1)) (S_3 : SA8 Z Z.heap (.ref a4)) (ne_4 : a2 ≠ a4) (S_5 : SA9 Z Z.heap (.ref a5)) (ne_6 : a2 ≠ a5) (S_7 : SA10 Z Z.heap (.ref a2)) :
    Met l Z [] Y2 prog_38_method_5_code 3 (some (.object "com/example/dossiertools/dossiertools/LeafState")) ({ frames := 0, cells := 0, slots := 0, locals := 0 } : Room) #[(.ref a1), (.ref a2)] h0 (Q14_after Z a1 a2 a3 a4 a5 h0 n0) := by
  have W := fun (i : Nat) {c : Jvm.Cond} (q : tables_1[i]? = some c) => hw c (List.mem_of_getElem? q)
  refine own_mk (plainFor_of_name pn_29) ?_
  intro p e s m below meth c s₁ hZ hx hby hml hown hnm hret hlk X0 e0
  have N0 := Fr.nil n0
  obtain ⟨T1, X1, e1, st1⟩ := getS2 X0 hx hZ hown (host := "") (Or.inl (W 19 rfl)) Via.refl e0 (S_0.ext O0.2) (g := (mkF m 1 #[rv a1, rv a2, .unset] [(.ref a1)])) rfl (hb hby d_13)
  obtain ⟨T2, X2, e2, st2⟩ := getS2 X1 hx hZ hown (host := "") (Or.inl (W 30 rfl)) Via.refl e1 (S_2.ext O0.2) (g := (mkF m 8 #[rv a1, rv a2, .unset] [(.ref a1)])) rfl (hb hby d_72)
  obtain ⟨T3, X3, e3, st3⟩ := getS2 X2 hx hZ hown (host := "") (Or.inl (W 20 rfl)) Via.refl e2 (S_3.ext O0.2) (g := (mkF m 20 #[rv a1, rv a2, .unset] [(.ref a2)])) rfl (hb hby d_16)
  obtain ⟨T4, X4, e4, st4⟩ := getS2 X3 hx hZ hown (host := "") (Or.inl (W 22 rfl)) Via.refl e3 (S_5.ext O0.2) (g := (mkF m 34 #[rv a1, rv a2, .unset] [(.ref a2)])) rfl (hb hby d_19)
  obtain ⟨T5, X5, e5, st5⟩ := getS2 X4 hx hZ hown (host := "") (Or.inl (W 35 rfl)) Via.refl e4 (S_7.ext O0.2) (g := (mkF m 48 #[rv a1, rv a2, .unset] [(.ref a2)])) rfl (hb hby d_22)
  obtain ⟨T6, X6, e6, st6⟩ := getS2 X5 hx hZ hown (host := "") (Or.inl (W 30 rfl)) Via.refl e5 (S_2.ext O0.2) (g := (mkF m 54 #[rv a1, rv a2, .unset] [])) rfl (hb hby d_38)
  refine ⟨T6, some (.ref a1), _, _, _, X6, by decide, by decide, nofun, ?_, fun fs hr => castTop (ef_28 m a1 a2) ?_⟩
  · show Q14_after Z a1 a2 a3 a4 a5 h0 n0 _ T6.heap _
    rw [e6]
    exact ⟨rfl, N0, rfl⟩
  · show SS p e below s₁ m 0 #[rv a1, rv a2, .unset] [] _
    refine XS.aloadN X0.here hx rfl (hb hby d_12) rfl rfl ?_
    show SS p e below s₁ m 1 #[rv a1, rv a2, .unset] [(.ref a1)] _
    refine st1 _ ?_
    show SS p e below T1 m 4 #[rv a1, rv a2, .unset] [(.ref a3), (.ref a1)] _
    refine Jvm.RoadKit.acmp (g := (mkF m 4 #[rv a1, rv a2, .unset] [(.ref a3), (.ref a1)])) X1 hx rfl rfl rfl (pc0 := 4) (pc' := 7) (same := false) rfl (hb hby d_14) rfl (decide_eq_false fun q => ne_1 (Value.ref.inj q)) (by decide) (by decide) ?_
    show SS p e below T1 m 7 #[rv a1, rv a2, .unset] [] _
    refine XS.aloadN X1.here hx rfl (hb hby d_71) rfl rfl ?_
    show SS p e below T1 m 8 #[rv a1, rv a2, .unset] [(.ref a1)] _
    refine st2 _ ?_
    show SS p e below T2 m 11 #[rv a1, rv a2, .unset] [(.ref a1), (.ref a1)] _
    refine Jvm.RoadKit.acmp (g := (mkF m 11 #[rv a1, rv a2, .unset] [(.ref a1), (.ref a1)])) X2 hx rfl rfl rfl (pc0 := 11) (pc' := 19) (same := true) rfl (hb hby d_73) rfl (decide_eq_true rfl) (by decide) (by decide) ?_
    show SS p e below T2 m 19 #[rv a1, rv a2, .unset] [] _
    refine XS.aloadN X2.here hx rfl (hb hby d_15) rfl rfl ?_
    show SS p e below T2 m 20 #[rv a1, rv a2, .unset] [(.ref a2)] _
    refine st3 _ ?_
    show SS p e below T3 m 23 #[rv a1, rv a2, .unset] [(.ref a4), (.ref a2)] _
    refine Jvm.RoadKit.acmp (g := (mkF m 23 #[rv a1, rv a2, .unset] [(.ref a4), (.ref a2)])) X3 hx rfl rfl rfl (pc0 := 23) (pc' := 33) (same := false) rfl (hb hby d_17) rfl (decide_eq_false fun q => ne_4 (Value.ref.inj q)) (by decide) (by decide) ?_
    show SS p e below T3 m 33 #[rv a1, rv a2, .unset] [] _
    refine XS.aloadN X3.here hx rfl (hb hby d_18) rfl rfl ?_
    show SS p e below T3 m 34 #[rv a1, rv a2, .unset] [(.ref a2)] _
    refine st4 _ ?_
    show SS p e below T4 m 37 #[rv a1, rv a2, .unset] [(.ref a5), (.ref a2)] _
    refine Jvm.RoadKit.acmp (g := (mkF m 37 #[rv a1, rv a2, .unset] [(.ref a5), (.ref a2)])) X4 hx rfl rfl rfl (pc0 := 37) (pc' := 47) (same := false) rfl (hb hby d_20) rfl (decide_eq_false fun q => ne_6 (Value.ref.inj q)) (by decide) (by decide) ?_
    show SS p e below T4 m 47 #[rv a1, rv a2, .unset] [] _
    refine XS.aloadN X4.here hx rfl (hb hby d_21) rfl rfl ?_
    show SS p e below T4 m 48 #[rv a1, rv a2, .unset] [(.ref a2)] _
    refine st5 _ ?_
    show SS p e below T5 m 51 #[rv a1, rv a2, .unset] [(.ref a2), (.ref a2)] _
    refine Jvm.RoadKit.acmp (g := (mkF m 51 #[rv a1, rv a2, .unset] [(.ref a2), (.ref a2)])) X5 hx rfl rfl rfl (pc0 := 51) (pc' := 54) (same := true) rfl (hb hby d_23) rfl (decide_eq_true rfl) (by decide) (by decide) ?_
    show SS p e below T5 m 54 #[rv a1, rv a2, .unset] [] _
    refine st6 _ ?_
    show SS p e below T6 m 57 #[rv a1, rv a2, .unset] [(.ref a1)] _
    refine XS.astoreN X6.here hx rfl (hb hby d_39) rfl rfl (l' := #[rv a1, rv a2, rv a1]) rfl ?_
    show SS p e below T6 m 58 #[rv a1, rv a2, rv a1] [] _
    refine XS.goto X6.here hx rfl (pc0 := 58) (pc' := 63) rfl (hb hby d_40) (by decide) (by decide) ?_
    refine XS.aloadN X6.here hx rfl (hb hby d_26) rfl rfl ?_
    show SS p e below T6 m 64 #[rv a1, rv a2, rv a1] [(.ref a1)] _
    exact retOut X6 hx hret rfl (Or.inr (Or.inr (Or.inr (Or.inr ⟨rfl, rfl, rfl⟩)))) (hb hby d_27) hr
set_option maxRecDepth 65536 in
set_option maxHeartbeats 40000000 in
theorem rm0_1_1 (l : Launch) (Z : State) (a0 : Array Value) (hw : HW Z a0) (ws : List Jvm.Cond) (p1 : Int32) (p2 : Int32) (o_CURRENT : Addr) (o_DELETE : Addr) (o_REPLACE : Addr) (o_NO_LONGER_RELEVANT : Addr) (o_DELETION : Addr) (o_APPEND : Addr) (o_CURRENT_APPENDED : Addr) (o_NEW : Addr) (o_REPLACED : Addr) (h0 : Heap) (n0 : Nat) (O0 : Old Z n0 h0) (S_o_CURRENT : SA6 Z Z.heap (.ref o_CURRENT)) (E_o_CURRENT : EA4 Z Z.heap o_CURRENT) (S_o_DELETE : SA9 Z Z.heap (.ref o_DELETE)) (E_o_DELETE : EA5 Z Z.heap o_DELETE) (S_o_REPLACE : SA8 Z Z.heap (.ref o_REPLACE)) (E_o_REPLACE : EA5 Z Z.heap o_REPLACE) (S_o_NO_LONGER_RELEVANT : SA11 Z Z.heap (.ref o_NO_LONGER_RELEVANT)) (E_o_NO_LONGER_RELEVANT : EA4 Z Z.heap o_NO_LONGER_RELEVANT) (S_o_DELETION : SA12 Z Z.heap (.ref o_DELETION)) (E_o_DELETION : EA4 Z Z.heap o_DELETION) (S_o_APPEND : SA10 Z Z.heap (.ref o_APPEND)) (E_o_APPEND : EA5 Z Z.heap o_APPEND) (S_o_CURRENT_APPENDED : SA13 Z Z.heap (.ref o_CURRENT_APPENDED)) (E_o_CURRENT_APPENDED : EA4 Z Z.heap o_CURRENT_APPENDED) (S_o_NEW : SA7 Z Z.heap (.ref o_NEW)) (E_o_NEW : EA5 Z Z.heap o_NEW) (S_o_REPLACED : SA14 Z Z.heap (.ref o_REPLACED)) (E_o_REPLACED : EA4 Z Z.heap o_REPLACED) (F_o_DELETE_ordinal : FA3 Z Z.heap o_DELETE (.int (3 : Int32))) (F_o_REPLACE_ordinal : FA3 Z Z.heap o_REPLACE (.int (2 : Int32))) (F_o_DELETION_ordinal : FA3 Z Z.heap o_DELETION (.int (4 : Int32))) (F_o_CURRENT_ordinal : FA3 Z Z.heap o_CURRENT (.int (0 : Int32))) (F_o_CURRENT_APPENDED_ordinal : FA3 Z Z.heap o_CURRENT_APPENDED (.int (1 : Int32))) (F_o_NO_LONGER_RELEVANT_ordinal : FA3 Z Z.heap o_NO_LONGER_RELEVANT (.int (3 : Int32))) (F_o_NEW_ordinal : FA3 Z Z.heap o_NEW (.int (0 : Int32))) (F_o_APPEND_ordinal : FA3 Z Z.heap o_APPEND (.int (1 : Int32))) (F_o_REPLACED_ordinal : FA3 Z Z.heap o_REPLACED (.int (2 : Int32))) (hs : ((p1 &&& (2147483647 : Int32)) % (5 : Int32)) = (1 : Int32)) (hf : (p2 &&& (3 : Int32)) = (1 : Int32)) :
    Met l Z ws x code maxLocals ret room_1 #[(.int p1), (.int p2)] h0 (fun v _ L => Q0 n0 v L) := by
  have W := fun (i : Nat) {c : Jvm.Cond} (q : tables_1[i]? = some c) => hw c (List.mem_of_getElem? q)
  refine own_mk (plainFor_of_name pn_5) ?_
  intro p e s m below meth c s₁ hZ hx hby hml hown hnm hret hlk X0 e0
  have N0 := Fr.nil n0
  obtain ⟨_, T1, L1, X1, hQ1, st1⟩ := own_cs X0 hx hZ hown hml (W 1 rfl) (W 2 rfl) (W 3 rfl) (W 4 rfl) (rm6_state l Z a0 hw o_CURRENT_APPENDED h0 n0 O0 (S_o_CURRENT_APPENDED)) e0 (hb hby at_12) 0 #[iv p1, iv p2, iv (1 : Int32), iv (1 : Int32), .unset, .unset, .unset, .unset] [(.int (1 : Int32))] [] pd_6 (by decide) rfl rfl rfl (Nat.le_of_eq rfl)
  obtain ⟨rfl, N1q, K1⟩ := hQ1
  have N2 := Fr.app N0 N1q
  obtain ⟨_, T3, L3, X3, hQ3, st3⟩ := own_cs X1 hx hZ hown hml (W 8 rfl) (W 9 rfl) (W 3 rfl) (W 10 rfl) (rm4_operation l Z a0 hw o_APPEND h0 n0 O0 (S_o_APPEND)) K1 (hb hby at_18) 0 #[iv p1, iv p2, iv (1 : Int32), iv (1 : Int32), rv o_CURRENT_APPENDED, .unset, .unset, .unset] [(.int (1 : Int32))] [] pd_11 (by decide) rfl rfl rfl (Nat.le_of_eq rfl)
  obtain ⟨rfl, N3q, K3⟩ := hQ3
  have N4 := Fr.app N2 N3q
  obtain ⟨_, T5, L5, X5, hQ5, st5⟩ := own_cv X3 hx hZ hown hml (W 14 rfl) (W 15 rfl) (notFace_of_selects (W 17 rfl)) (W 17 rfl) (W 16 rfl) (W 6 rfl) (W 18 rfl) (rm14_after l Z a0 hw o_CURRENT_APPENDED o_APPEND o_CURRENT o_REPLACE o_DELETE h0 n0 O0 (S_o_CURRENT) ((Fld.ne F_o_CURRENT_APPENDED_ordinal F_o_CURRENT_ordinal (by decide))) (S_o_CURRENT_APPENDED) (S_o_REPLACE) ((Fld.ne F_o_APPEND_ordinal F_o_REPLACE_ordinal (by decide))) (S_o_DELETE) ((Fld.ne F_o_APPEND_ordinal F_o_DELETE_ordinal (by decide))) (S_o_APPEND)) K3 (E_o_CURRENT_APPENDED.ext O0.2) (hb hby at_27) 0 #[iv p1, iv p2, iv (1 : Int32), iv (1 : Int32), rv o_CURRENT_APPENDED, rv o_APPEND, .unset, .unset] [(.ref o_APPEND)] [] pd_30 (by decide) rfl rfl rfl (Nat.le_of_eq rfl)
  obtain ⟨rfl, N5q, K5⟩ := hQ5
  have N6 := Fr.app N4 N5q
  obtain ⟨_, T7, L7, X7, hQ7, st7⟩ := own_cs X5 hx hZ hown hml (W 1 rfl) (W 2 rfl) (W 3 rfl) (W 4 rfl) (rm6_state l Z a0 hw o_CURRENT_APPENDED h0 n0 O0 (S_o_CURRENT_APPENDED)) K5 (hb hby at_60) 1 #[iv p1, iv p2, iv (1 : Int32), iv (1 : Int32), rv o_CURRENT_APPENDED, rv o_APPEND, rv o_CURRENT_APPENDED, iv (1 : Int32)] [(.int (1 : Int32))] [(.ref o_CURRENT_APPENDED)] pd_6 (by decide) rfl rfl rfl (Nat.le_of_eq rfl)
  obtain ⟨rfl, N7q, K7⟩ := hQ7
  have N8 := Fr.app N6 N7q
  refine ⟨T7, some (.int (1 : Int32)), _, _, _, X7, by decide, by decide, nofun, ?_, fun fs hr => castTop (ef_31 m p1 p2) ?_⟩
  · exact ⟨rfl, N8⟩
  · show SS p e below s₁ m 0 #[iv p1, iv p2, .unset, .unset, .unset, .unset, .unset, .unset] [] _
    refine XS.iloadN X0.here hx rfl (hb hby at_0) rfl ?_
    show SS p e below s₁ m 1 #[iv p1, iv p2, .unset, .unset, .unset, .unset, .unset, .unset] [(.int p1)] _
    refine X0.ldcInt hx hown (mvT hZ (W 0 rfl)) (g := (mkF m 1 #[iv p1, iv p2, .unset, .unset, .unset, .unset, .unset, .unset] [(.int p1)])) rfl (hb hby at_1) _ ?_
    show SS p e below s₁ m 3 #[iv p1, iv p2, .unset, .unset, .unset, .unset, .unset, .unset] [(.int (2147483647 : Int32)), (.int p1)] _
    refine XS.iand X0.here hx rfl (hb hby at_3) rfl ?_
    show SS p e below s₁ m 4 #[iv p1, iv p2, .unset, .unset, .unset, .unset, .unset, .unset] [(.int (p1 &&& (2147483647 : Int32)))] _
    refine XS.iconst X0.here hx rfl (hb hby at_4) ?_
    show SS p e below s₁ m 5 #[iv p1, iv p2, .unset, .unset, .unset, .unset, .unset, .unset] [(.int (5 : Int32)), (.int (p1 &&& (2147483647 : Int32)))] _
    refine iremM (g := (mkF m 5 #[iv p1, iv p2, .unset, .unset, .unset, .unset, .unset, .unset] [(.int (5 : Int32)), (.int (p1 &&& (2147483647 : Int32)))])) X0 hx rfl (hb hby at_5) rfl (by decide : ¬ ((5 : Int32) = (0 : Int32))) ?_
    rw [hs]
    show SS p e below s₁ m 6 #[iv p1, iv p2, .unset, .unset, .unset, .unset, .unset, .unset] [(.int (1 : Int32))] _
    refine XS.istoreN X0.here hx rfl (hb hby at_6) rfl (l' := #[iv p1, iv p2, iv (1 : Int32), .unset, .unset, .unset, .unset, .unset]) rfl ?_
    show SS p e below s₁ m 7 #[iv p1, iv p2, iv (1 : Int32), .unset, .unset, .unset, .unset, .unset] [] _
    refine XS.iloadN X0.here hx rfl (hb hby at_7) rfl ?_
    refine XS.iconst X0.here hx rfl (hb hby at_8) ?_
    show SS p e below s₁ m 9 #[iv p1, iv p2, iv (1 : Int32), .unset, .unset, .unset, .unset, .unset] [(.int (3 : Int32)), (.int p2)] _
    refine XS.iand X0.here hx rfl (hb hby at_9) rfl ?_
    rw [hf]
    show SS p e below s₁ m 10 #[iv p1, iv p2, iv (1 : Int32), .unset, .unset, .unset, .unset, .unset] [(.int (1 : Int32))] _
    refine XS.istoreN X0.here hx rfl (hb hby at_10) rfl (l' := #[iv p1, iv p2, iv (1 : Int32), iv (1 : Int32), .unset, .unset, .unset, .unset]) rfl ?_
    show SS p e below s₁ m 11 #[iv p1, iv p2, iv (1 : Int32), iv (1 : Int32), .unset, .unset, .unset, .unset] [] _
    refine XS.iloadN X0.here hx rfl (hb hby at_11) rfl ?_
    show SS p e below s₁ m 12 #[iv p1, iv p2, iv (1 : Int32), iv (1 : Int32), .unset, .unset, .unset, .unset] [(.int (1 : Int32))] _
    refine st1 _ ?_
    show SS p e below T1 m 15 #[iv p1, iv p2, iv (1 : Int32), iv (1 : Int32), .unset, .unset, .unset, .unset] [(.ref o_CURRENT_APPENDED)] _
    refine XS.astore X1.here hx rfl (hb hby at_15) rfl rfl (l' := #[iv p1, iv p2, iv (1 : Int32), iv (1 : Int32), rv o_CURRENT_APPENDED, .unset, .unset, .unset]) rfl ?_
    show SS p e below T1 m 17 #[iv p1, iv p2, iv (1 : Int32), iv (1 : Int32), rv o_CURRENT_APPENDED, .unset, .unset, .unset] [] _
    refine XS.iloadN X1.here hx rfl (hb hby at_17) rfl ?_
    show SS p e below T1 m 18 #[iv p1, iv p2, iv (1 : Int32), iv (1 : Int32), rv o_CURRENT_APPENDED, .unset, .unset, .unset] [(.int (1 : Int32))] _
    refine st3 _ ?_
    show SS p e below T3 m 21 #[iv p1, iv p2, iv (1 : Int32), iv (1 : Int32), rv o_CURRENT_APPENDED, .unset, .unset, .unset] [(.ref o_APPEND)] _
    refine XS.astore X3.here hx rfl (hb hby at_21) rfl rfl (l' := #[iv p1, iv p2, iv (1 : Int32), iv (1 : Int32), rv o_CURRENT_APPENDED, rv o_APPEND, .unset, .unset]) rfl ?_
    show SS p e below T3 m 23 #[iv p1, iv p2, iv (1 : Int32), iv (1 : Int32), rv o_CURRENT_APPENDED, rv o_APPEND, .unset, .unset] [] _
    refine XS.aload X3.here hx rfl (hb hby at_23) rfl rfl ?_
    refine XS.aload X3.here hx rfl (hb hby at_25) rfl rfl ?_
    show SS p e below T3 m 27 #[iv p1, iv p2, iv (1 : Int32), iv (1 : Int32), rv o_CURRENT_APPENDED, rv o_APPEND, .unset, .unset] [(.ref o_APPEND), (.ref o_CURRENT_APPENDED)] _
    refine st5 _ ?_
    show SS p e below T5 m 30 #[iv p1, iv p2, iv (1 : Int32), iv (1 : Int32), rv o_CURRENT_APPENDED, rv o_APPEND, .unset, .unset] [(.ref o_CURRENT_APPENDED)] _
    refine XS.astore X5.here hx rfl (hb hby at_30) rfl rfl (l' := #[iv p1, iv p2, iv (1 : Int32), iv (1 : Int32), rv o_CURRENT_APPENDED, rv o_APPEND, rv o_CURRENT_APPENDED, .unset]) rfl ?_
    show SS p e below T5 m 32 #[iv p1, iv p2, iv (1 : Int32), iv (1 : Int32), rv o_CURRENT_APPENDED, rv o_APPEND, rv o_CURRENT_APPENDED, .unset] [] _
    refine XS.iloadN X5.here hx rfl (hb hby at_32) rfl ?_
    refine XS.iconst X5.here hx rfl (hb hby at_33) ?_
    show SS p e below T5 m 34 #[iv p1, iv p2, iv (1 : Int32), iv (1 : Int32), rv o_CURRENT_APPENDED, rv o_APPEND, rv o_CURRENT_APPENDED, .unset] [(.int (2 : Int32)), (.int (1 : Int32))] _
    refine XS.icmpYes X5.here hx rfl (pc0 := 34) (pc' := 43) rfl (hb hby at_34) rfl (tlt (by decide : (1 : Int32) < (2 : Int32))).1 (by decide) (by decide) ?_
    show SS p e below T5 m 43 #[iv p1, iv p2, iv (1 : Int32), iv (1 : Int32), rv o_CURRENT_APPENDED, rv o_APPEND, rv o_CURRENT_APPENDED, .unset] [] _
    refine XS.iloadN X5.here hx rfl (hb hby at_43) rfl ?_
    show SS p e below T5 m 44 #[iv p1, iv p2, iv (1 : Int32), iv (1 : Int32), rv o_CURRENT_APPENDED, rv o_APPEND, rv o_CURRENT_APPENDED, .unset] [(.int (1 : Int32))] _
    refine XS.ifYes X5.here hx rfl (pc0 := 44) (pc' := 53) rfl (hb hby at_44) rfl ((if0 _ _).trans (feq (by decide : ¬ ((1 : Int32) = (0 : Int32)))).2) (by decide) (by decide) ?_
    show SS p e below T5 m 53 #[iv p1, iv p2, iv (1 : Int32), iv (1 : Int32), rv o_CURRENT_APPENDED, rv o_APPEND, rv o_CURRENT_APPENDED, .unset] [] _
    refine XS.iloadN X5.here hx rfl (hb hby at_53) rfl ?_
    show SS p e below T5 m 54 #[iv p1, iv p2, iv (1 : Int32), iv (1 : Int32), rv o_CURRENT_APPENDED, rv o_APPEND, rv o_CURRENT_APPENDED, .unset] [(.int (1 : Int32))] _
    refine XS.istore X5.here hx rfl (hb hby at_54) rfl (l' := #[iv p1, iv p2, iv (1 : Int32), iv (1 : Int32), rv o_CURRENT_APPENDED, rv o_APPEND, rv o_CURRENT_APPENDED, iv (1 : Int32)]) rfl ?_
    show SS p e below T5 m 56 #[iv p1, iv p2, iv (1 : Int32), iv (1 : Int32), rv o_CURRENT_APPENDED, rv o_APPEND, rv o_CURRENT_APPENDED, iv (1 : Int32)] [] _
    refine XS.aload X5.here hx rfl (hb hby at_56) rfl rfl ?_
    refine XS.iload X5.here hx rfl (hb hby at_58) rfl ?_
    show SS p e below T5 m 60 #[iv p1, iv p2, iv (1 : Int32), iv (1 : Int32), rv o_CURRENT_APPENDED, rv o_APPEND, rv o_CURRENT_APPENDED, iv (1 : Int32)] [(.int (1 : Int32)), (.ref o_CURRENT_APPENDED)] _
    refine st7 _ ?_
    show SS p e below T7 m 63 #[iv p1, iv p2, iv (1 : Int32), iv (1 : Int32), rv o_CURRENT_APPENDED, rv o_APPEND, rv o_CURRENT_APPENDED, iv (1 : Int32)] [(.ref o_CURRENT_APPENDED), (.ref o_CURRENT_APPENDED)] _
    refine Jvm.RoadKit.acmp (g := (mkF m 63 #[iv p1, iv p2, iv (1 : Int32), iv (1 : Int32), rv o_CURRENT_APPENDED, rv o_APPEND, rv o_CURRENT_APPENDED, iv (1 : Int32)] [(.ref o_CURRENT_APPENDED), (.ref o_CURRENT_APPENDED)])) X7 hx rfl rfl rfl (pc0 := 63) (pc' := 66) (same := true) rfl (hb hby at_63) rfl (decide_eq_true rfl) (by decide) (by decide) ?_
    show SS p e below T7 m 66 #[iv p1, iv p2, iv (1 : Int32), iv (1 : Int32), rv o_CURRENT_APPENDED, rv o_APPEND, rv o_CURRENT_APPENDED, iv (1 : Int32)] [] _
    refine XS.iconst X7.here hx rfl (hb hby at_66) ?_
    refine XS.goto X7.here hx rfl (pc0 := 67) (pc' := 71) rfl (hb hby at_67) (by decide) (by decide) ?_
    show SS p e below T7 m 71 #[iv p1, iv p2, iv (1 : Int32), iv (1 : Int32), rv o_CURRENT_APPENDED, rv o_APPEND, rv o_CURRENT_APPENDED, iv (1 : Int32)] [(.int (1 : Int32))] _
    exact retN X7 hx (t := .boolean) hret (by simp) (hb hby at_71) hr
-- com/example/dossiertools/dossiertools/LeafState.after(Lcom/example/dossiertools/dossiertools/Operation;)Lcom/example/dossiertools/dossiertools/LeafState;
def Q15_after (Z : State) (a1 : Addr) (a2 : Addr) (a3 : Addr) (a4 : Addr) (h0 : Heap) (n0 : Nat) (v : Option Value) (h : Heap) (L : List Loc) : Prop := v = some (.ref a4) ∧ Fr n0 L ∧ h = h0
set_option maxRecDepth 65536 in
set_option maxHeartbeats 40000000 in
theorem rm15_after (l : Launch) (Z : State) (a0 : Array Value) (hw : HW Z a0) (a1 : Addr) (a2 : Addr) (a3 : Addr) (a4 : Addr) (h0 : Heap) (n0 : Nat) (O0 : Old Z n0 h0) (S_0 : SA6 Z Z.heap (.ref a3)) (ne_1 : a1 ≠ a3) (S_2 : SA13 Z Z.heap (.ref a1)) (S_3 : SA8 Z Z.heap (.ref a2)) (S_4 : SA14 Z Z.heap (.ref a4)) :
    Met l Z [] Y2 prog_38_method_5_code 3 (some (.object "com/example/dossiertools/dossiertools/LeafState")) ({ frames := 0, cells := 0, slots := 0, locals := 0 } : Room) #[(.ref a1), (.ref a2)] h0 (Q15_after Z a1 a2 a3 a4 h0 n0) := by
  have W := fun (i : Nat) {c : Jvm.Cond} (q : tables_1[i]? = some c) => hw c (List.mem_of_getElem? q)
  refine own_mk (plainFor_of_name pn_29) ?_
  intro p e s m below meth c s₁ hZ hx hby hml hown hnm hret hlk X0 e0
  have N0 := Fr.nil n0
  obtain ⟨T1, X1, e1, st1⟩ := getS2 X0 hx hZ hown (host := "") (Or.inl (W 19 rfl)) Via.refl e0 (S_0.ext O0.2) (g := (mkF m 1 #[rv a1, rv a2, .unset] [(.ref a1)])) rfl (hb hby d_13)
  obtain ⟨T2, X2, e2, st2⟩ := getS2 X1 hx hZ hown (host := "") (Or.inl (W 30 rfl)) Via.refl e1 (S_2.ext O0.2) (g := (mkF m 8 #[rv a1, rv a2, .unset] [(.ref a1)])) rfl (hb hby d_72)
  obtain ⟨T3, X3, e3, st3⟩ := getS2 X2 hx hZ hown (host := "") (Or.inl (W 20 rfl)) Via.refl e2 (S_3.ext O0.2) (g := (mkF m 20 #[rv a1, rv a2, .unset] [(.ref a2)])) rfl (hb hby d_16)
  obtain ⟨T4, X4, e4, st4⟩ := getS2 X3 hx hZ hown (host := "") (Or.inl (W 39 rfl)) Via.refl e3 (S_4.ext O0.2) (g := (mkF m 26 #[rv a1, rv a2, .unset] [])) rfl (hb hby d_52)
  refine ⟨T4, some (.ref a4), _, _, _, X4, by decide, by decide, nofun, ?_, fun fs hr => castTop (ef_28 m a1 a2) ?_⟩
  · show Q15_after Z a1 a2 a3 a4 h0 n0 _ T4.heap _
    rw [e4]
    exact ⟨rfl, N0, rfl⟩
  · show SS p e below s₁ m 0 #[rv a1, rv a2, .unset] [] _
    refine XS.aloadN X0.here hx rfl (hb hby d_12) rfl rfl ?_
    show SS p e below s₁ m 1 #[rv a1, rv a2, .unset] [(.ref a1)] _
    refine st1 _ ?_
    show SS p e below T1 m 4 #[rv a1, rv a2, .unset] [(.ref a3), (.ref a1)] _
    refine Jvm.RoadKit.acmp (g := (mkF m 4 #[rv a1, rv a2, .unset] [(.ref a3), (.ref a1)])) X1 hx rfl rfl rfl (pc0 := 4) (pc' := 7) (same := false) rfl (hb hby d_14) rfl (decide_eq_false fun q => ne_1 (Value.ref.inj q)) (by decide) (by decide) ?_
    show SS p e below T1 m 7 #[rv a1, rv a2, .unset] [] _
    refine XS.aloadN X1.here hx rfl (hb hby d_71) rfl rfl ?_
    show SS p e below T1 m 8 #[rv a1, rv a2, .unset] [(.ref a1)] _
    refine st2 _ ?_
    show SS p e below T2 m 11 #[rv a1, rv a2, .unset] [(.ref a1), (.ref a1)] _
    refine Jvm.RoadKit.acmp (g := (mkF m 11 #[rv a1, rv a2, .unset] [(.ref a1), (.ref a1)])) X2 hx rfl rfl rfl (pc0 := 11) (pc' := 19) (same := true) rfl (hb hby d_73) rfl (decide_eq_true rfl) (by decide) (by decide) ?_
    show SS p e below T2 m 19 #[rv a1, rv a2, .unset] [] _
    refine XS.aloadN X2.here hx rfl (hb hby d_15) rfl rfl ?_
    show SS p e below T2 m 20 #[rv a1, rv a2, .unset] [(.ref a2)] _
    refine st3 _ ?_
    show SS p e below T3 m 23 #[rv a1, rv a2, .unset] [(.ref a2), (.ref a2)] _
    refine Jvm.RoadKit.acmp (g := (mkF m 23 #[rv a1, rv a2, .unset] [(.ref a2), (.ref a2)])) X3 hx rfl rfl rfl (pc0 := 23) (pc' := 26) (same := true) rfl (hb hby d_17) rfl (decide_eq_true rfl) (by decide) (by decide) ?_
    show SS p e below T3 m 26 #[rv a1, rv a2, .unset] [] _
    refine st4 _ ?_
    show SS p e below T4 m 29 #[rv a1, rv a2, .unset] [(.ref a4)] _
    refine XS.astoreN X4.here hx rfl (hb hby d_53) rfl rfl (l' := #[rv a1, rv a2, rv a4]) rfl ?_
    show SS p e below T4 m 30 #[rv a1, rv a2, rv a4] [] _
    refine XS.goto X4.here hx rfl (pc0 := 30) (pc' := 63) rfl (hb hby d_54) (by decide) (by decide) ?_
    refine XS.aloadN X4.here hx rfl (hb hby d_26) rfl rfl ?_
    show SS p e below T4 m 64 #[rv a1, rv a2, rv a4] [(.ref a4)] _
    exact retOut X4 hx hret rfl (Or.inr (Or.inr (Or.inr (Or.inr ⟨rfl, rfl, rfl⟩)))) (hb hby d_27) hr
set_option maxRecDepth 65536 in
set_option maxHeartbeats 40000000 in
theorem rm0_1_2 (l : Launch) (Z : State) (a0 : Array Value) (hw : HW Z a0) (ws : List Jvm.Cond) (p1 : Int32) (p2 : Int32) (o_CURRENT : Addr) (o_DELETE : Addr) (o_REPLACE : Addr) (o_NO_LONGER_RELEVANT : Addr) (o_DELETION : Addr) (o_APPEND : Addr) (o_CURRENT_APPENDED : Addr) (o_NEW : Addr) (o_REPLACED : Addr) (h0 : Heap) (n0 : Nat) (O0 : Old Z n0 h0) (S_o_CURRENT : SA6 Z Z.heap (.ref o_CURRENT)) (E_o_CURRENT : EA4 Z Z.heap o_CURRENT) (S_o_DELETE : SA9 Z Z.heap (.ref o_DELETE)) (E_o_DELETE : EA5 Z Z.heap o_DELETE) (S_o_REPLACE : SA8 Z Z.heap (.ref o_REPLACE)) (E_o_REPLACE : EA5 Z Z.heap o_REPLACE) (S_o_NO_LONGER_RELEVANT : SA11 Z Z.heap (.ref o_NO_LONGER_RELEVANT)) (E_o_NO_LONGER_RELEVANT : EA4 Z Z.heap o_NO_LONGER_RELEVANT) (S_o_DELETION : SA12 Z Z.heap (.ref o_DELETION)) (E_o_DELETION : EA4 Z Z.heap o_DELETION) (S_o_APPEND : SA10 Z Z.heap (.ref o_APPEND)) (E_o_APPEND : EA5 Z Z.heap o_APPEND) (S_o_CURRENT_APPENDED : SA13 Z Z.heap (.ref o_CURRENT_APPENDED)) (E_o_CURRENT_APPENDED : EA4 Z Z.heap o_CURRENT_APPENDED) (S_o_NEW : SA7 Z Z.heap (.ref o_NEW)) (E_o_NEW : EA5 Z Z.heap o_NEW) (S_o_REPLACED : SA14 Z Z.heap (.ref o_REPLACED)) (E_o_REPLACED : EA4 Z Z.heap o_REPLACED) (F_o_DELETE_ordinal : FA3 Z Z.heap o_DELETE (.int (3 : Int32))) (F_o_REPLACE_ordinal : FA3 Z Z.heap o_REPLACE (.int (2 : Int32))) (F_o_DELETION_ordinal : FA3 Z Z.heap o_DELETION (.int (4 : Int32))) (F_o_CURRENT_ordinal : FA3 Z Z.heap o_CURRENT (.int (0 : Int32))) (F_o_CURRENT_APPENDED_ordinal : FA3 Z Z.heap o_CURRENT_APPENDED (.int (1 : Int32))) (F_o_NO_LONGER_RELEVANT_ordinal : FA3 Z Z.heap o_NO_LONGER_RELEVANT (.int (3 : Int32))) (F_o_NEW_ordinal : FA3 Z Z.heap o_NEW (.int (0 : Int32))) (F_o_APPEND_ordinal : FA3 Z Z.heap o_APPEND (.int (1 : Int32))) (F_o_REPLACED_ordinal : FA3 Z Z.heap o_REPLACED (.int (2 : Int32))) (hs : ((p1 &&& (2147483647 : Int32)) % (5 : Int32)) = (1 : Int32)) (hf : (p2 &&& (3 : Int32)) = (2 : Int32)) :
    Met l Z ws x code maxLocals ret room_1 #[(.int p1), (.int p2)] h0 (fun v _ L => Q0 n0 v L) := by
  have W := fun (i : Nat) {c : Jvm.Cond} (q : tables_1[i]? = some c) => hw c (List.mem_of_getElem? q)
  refine own_mk (plainFor_of_name pn_5) ?_
  intro p e s m below meth c s₁ hZ hx hby hml hown hnm hret hlk X0 e0
  have N0 := Fr.nil n0
  obtain ⟨_, T1, L1, X1, hQ1, st1⟩ := own_cs X0 hx hZ hown hml (W 1 rfl) (W 2 rfl) (W 3 rfl) (W 4 rfl) (rm6_state l Z a0 hw o_CURRENT_APPENDED h0 n0 O0 (S_o_CURRENT_APPENDED)) e0 (hb hby at_12) 0 #[iv p1, iv p2, iv (1 : Int32), iv (2 : Int32), .unset, .unset, .unset, .unset] [(.int (1 : Int32))] [] pd_6 (by decide) rfl rfl rfl (Nat.le_of_eq rfl)
  obtain ⟨rfl, N1q, K1⟩ := hQ1
  have N2 := Fr.app N0 N1q
  obtain ⟨_, T3, L3, X3, hQ3, st3⟩ := own_cs X1 hx hZ hown hml (W 8 rfl) (W 9 rfl) (W 3 rfl) (W 10 rfl) (rm7_operation l Z a0 hw o_REPLACE h0 n0 O0 (S_o_REPLACE)) K1 (hb hby at_18) 0 #[iv p1, iv p2, iv (1 : Int32), iv (2 : Int32), rv o_CURRENT_APPENDED, .unset, .unset, .unset] [(.int (2 : Int32))] [] pd_11 (by decide) rfl rfl rfl (Nat.le_of_eq rfl)
  obtain ⟨rfl, N3q, K3⟩ := hQ3
  have N4 := Fr.app N2 N3q
  obtain ⟨_, T5, L5, X5, hQ5, st5⟩ := own_cv X3 hx hZ hown hml (W 14 rfl) (W 15 rfl) (notFace_of_selects (W 17 rfl)) (W 17 rfl) (W 16 rfl) (W 6 rfl) (W 18 rfl) (rm15_after l Z a0 hw o_CURRENT_APPENDED o_REPLACE o_CURRENT o_REPLACED h0 n0 O0 (S_o_CURRENT) ((Fld.ne F_o_CURRENT_APPENDED_ordinal F_o_CURRENT_ordinal (by decide))) (S_o_CURRENT_APPENDED) (S_o_REPLACE) (S_o_REPLACED)) K3 (E_o_CURRENT_APPENDED.ext O0.2) (hb hby at_27) 0 #[iv p1, iv p2, iv (1 : Int32), iv (2 : Int32), rv o_CURRENT_APPENDED, rv o_REPLACE, .unset, .unset] [(.ref o_REPLACE)] [] pd_30 (by decide) rfl rfl rfl (Nat.le_of_eq rfl)
  obtain ⟨rfl, N5q, K5⟩ := hQ5
  have N6 := Fr.app N4 N5q
  obtain ⟨_, T7, L7, X7, hQ7, st7⟩ := own_cs X5 hx hZ hown hml (W 1 rfl) (W 2 rfl) (W 3 rfl) (W 4 rfl) (rm9_state l Z a0 hw o_REPLACED h0 n0 O0 (S_o_REPLACED)) K5 (hb hby at_60) 1 #[iv p1, iv p2, iv (1 : Int32), iv (2 : Int32), rv o_CURRENT_APPENDED, rv o_REPLACE, rv o_REPLACED, iv (2 : Int32)] [(.int (2 : Int32))] [(.ref o_REPLACED)] pd_6 (by decide) rfl rfl rfl (Nat.le_of_eq rfl)
  obtain ⟨rfl, N7q, K7⟩ := hQ7
  have N8 := Fr.app N6 N7q
  refine ⟨T7, some (.int (1 : Int32)), _, _, _, X7, by decide, by decide, nofun, ?_, fun fs hr => castTop (ef_31 m p1 p2) ?_⟩
  · exact ⟨rfl, N8⟩
  · show SS p e below s₁ m 0 #[iv p1, iv p2, .unset, .unset, .unset, .unset, .unset, .unset] [] _
    refine XS.iloadN X0.here hx rfl (hb hby at_0) rfl ?_
    show SS p e below s₁ m 1 #[iv p1, iv p2, .unset, .unset, .unset, .unset, .unset, .unset] [(.int p1)] _
    refine X0.ldcInt hx hown (mvT hZ (W 0 rfl)) (g := (mkF m 1 #[iv p1, iv p2, .unset, .unset, .unset, .unset, .unset, .unset] [(.int p1)])) rfl (hb hby at_1) _ ?_
    show SS p e below s₁ m 3 #[iv p1, iv p2, .unset, .unset, .unset, .unset, .unset, .unset] [(.int (2147483647 : Int32)), (.int p1)] _
    refine XS.iand X0.here hx rfl (hb hby at_3) rfl ?_
    show SS p e below s₁ m 4 #[iv p1, iv p2, .unset, .unset, .unset, .unset, .unset, .unset] [(.int (p1 &&& (2147483647 : Int32)))] _
    refine XS.iconst X0.here hx rfl (hb hby at_4) ?_
    show SS p e below s₁ m 5 #[iv p1, iv p2, .unset, .unset, .unset, .unset, .unset, .unset] [(.int (5 : Int32)), (.int (p1 &&& (2147483647 : Int32)))] _
    refine iremM (g := (mkF m 5 #[iv p1, iv p2, .unset, .unset, .unset, .unset, .unset, .unset] [(.int (5 : Int32)), (.int (p1 &&& (2147483647 : Int32)))])) X0 hx rfl (hb hby at_5) rfl (by decide : ¬ ((5 : Int32) = (0 : Int32))) ?_
    rw [hs]
    show SS p e below s₁ m 6 #[iv p1, iv p2, .unset, .unset, .unset, .unset, .unset, .unset] [(.int (1 : Int32))] _
    refine XS.istoreN X0.here hx rfl (hb hby at_6) rfl (l' := #[iv p1, iv p2, iv (1 : Int32), .unset, .unset, .unset, .unset, .unset]) rfl ?_
    show SS p e below s₁ m 7 #[iv p1, iv p2, iv (1 : Int32), .unset, .unset, .unset, .unset, .unset] [] _
    refine XS.iloadN X0.here hx rfl (hb hby at_7) rfl ?_
    refine XS.iconst X0.here hx rfl (hb hby at_8) ?_
    show SS p e below s₁ m 9 #[iv p1, iv p2, iv (1 : Int32), .unset, .unset, .unset, .unset, .unset] [(.int (3 : Int32)), (.int p2)] _
    refine XS.iand X0.here hx rfl (hb hby at_9) rfl ?_
    rw [hf]
    show SS p e below s₁ m 10 #[iv p1, iv p2, iv (1 : Int32), .unset, .unset, .unset, .unset, .unset] [(.int (2 : Int32))] _
    refine XS.istoreN X0.here hx rfl (hb hby at_10) rfl (l' := #[iv p1, iv p2, iv (1 : Int32), iv (2 : Int32), .unset, .unset, .unset, .unset]) rfl ?_
    show SS p e below s₁ m 11 #[iv p1, iv p2, iv (1 : Int32), iv (2 : Int32), .unset, .unset, .unset, .unset] [] _
    refine XS.iloadN X0.here hx rfl (hb hby at_11) rfl ?_
    show SS p e below s₁ m 12 #[iv p1, iv p2, iv (1 : Int32), iv (2 : Int32), .unset, .unset, .unset, .unset] [(.int (1 : Int32))] _
    refine st1 _ ?_
    show SS p e below T1 m 15 #[iv p1, iv p2, iv (1 : Int32), iv (2 : Int32), .unset, .unset, .unset, .unset] [(.ref o_CURRENT_APPENDED)] _
    refine XS.astore X1.here hx rfl (hb hby at_15) rfl rfl (l' := #[iv p1, iv p2, iv (1 : Int32), iv (2 : Int32), rv o_CURRENT_APPENDED, .unset, .unset, .unset]) rfl ?_
    show SS p e below T1 m 17 #[iv p1, iv p2, iv (1 : Int32), iv (2 : Int32), rv o_CURRENT_APPENDED, .unset, .unset, .unset] [] _
    refine XS.iloadN X1.here hx rfl (hb hby at_17) rfl ?_
    show SS p e below T1 m 18 #[iv p1, iv p2, iv (1 : Int32), iv (2 : Int32), rv o_CURRENT_APPENDED, .unset, .unset, .unset] [(.int (2 : Int32))] _
    refine st3 _ ?_
    show SS p e below T3 m 21 #[iv p1, iv p2, iv (1 : Int32), iv (2 : Int32), rv o_CURRENT_APPENDED, .unset, .unset, .unset] [(.ref o_REPLACE)] _
    refine XS.astore X3.here hx rfl (hb hby at_21) rfl rfl (l' := #[iv p1, iv p2, iv (1 : Int32), iv (2 : Int32), rv o_CURRENT_APPENDED, rv o_REPLACE, .unset, .unset]) rfl ?_
    show SS p e below T3 m 23 #[iv p1, iv p2, iv (1 : Int32), iv (2 : Int32), rv o_CURRENT_APPENDED, rv o_REPLACE, .unset, .unset] [] _
    refine XS.aload X3.here hx rfl (hb hby at_23) rfl rfl ?_
    refine XS.aload X3.here hx rfl (hb hby at_25) rfl rfl ?_
    show SS p e below T3 m 27 #[iv p1, iv p2, iv (1 : Int32), iv (2 : Int32), rv o_CURRENT_APPENDED, rv o_REPLACE, .unset, .unset] [(.ref o_REPLACE), (.ref o_CURRENT_APPENDED)] _
    refine st5 _ ?_
    show SS p e below T5 m 30 #[iv p1, iv p2, iv (1 : Int32), iv (2 : Int32), rv o_CURRENT_APPENDED, rv o_REPLACE, .unset, .unset] [(.ref o_REPLACED)] _
    refine XS.astore X5.here hx rfl (hb hby at_30) rfl rfl (l' := #[iv p1, iv p2, iv (1 : Int32), iv (2 : Int32), rv o_CURRENT_APPENDED, rv o_REPLACE, rv o_REPLACED, .unset]) rfl ?_
    show SS p e below T5 m 32 #[iv p1, iv p2, iv (1 : Int32), iv (2 : Int32), rv o_CURRENT_APPENDED, rv o_REPLACE, rv o_REPLACED, .unset] [] _
    refine XS.iloadN X5.here hx rfl (hb hby at_32) rfl ?_
    refine XS.iconst X5.here hx rfl (hb hby at_33) ?_
    show SS p e below T5 m 34 #[iv p1, iv p2, iv (1 : Int32), iv (2 : Int32), rv o_CURRENT_APPENDED, rv o_REPLACE, rv o_REPLACED, .unset] [(.int (2 : Int32)), (.int (1 : Int32))] _
    refine XS.icmpYes X5.here hx rfl (pc0 := 34) (pc' := 43) rfl (hb hby at_34) rfl (tlt (by decide : (1 : Int32) < (2 : Int32))).1 (by decide) (by decide) ?_
    show SS p e below T5 m 43 #[iv p1, iv p2, iv (1 : Int32), iv (2 : Int32), rv o_CURRENT_APPENDED, rv o_REPLACE, rv o_REPLACED, .unset] [] _
    refine XS.iloadN X5.here hx rfl (hb hby at_43) rfl ?_
    show SS p e below T5 m 44 #[iv p1, iv p2, iv (1 : Int32), iv (2 : Int32), rv o_CURRENT_APPENDED, rv o_REPLACE, rv o_REPLACED, .unset] [(.int (2 : Int32))] _
    refine XS.ifYes X5.here hx rfl (pc0 := 44) (pc' := 53) rfl (hb hby at_44) rfl ((if0 _ _).trans (feq (by decide : ¬ ((2 : Int32) = (0 : Int32)))).2) (by decide) (by decide) ?_
    show SS p e below T5 m 53 #[iv p1, iv p2, iv (1 : Int32), iv (2 : Int32), rv o_CURRENT_APPENDED, rv o_REPLACE, rv o_REPLACED, .unset] [] _
    refine XS.iloadN X5.here hx rfl (hb hby at_53) rfl ?_
    show SS p e below T5 m 54 #[iv p1, iv p2, iv (1 : Int32), iv (2 : Int32), rv o_CURRENT_APPENDED, rv o_REPLACE, rv o_REPLACED, .unset] [(.int (2 : Int32))] _
    refine XS.istore X5.here hx rfl (hb hby at_54) rfl (l' := #[iv p1, iv p2, iv (1 : Int32), iv (2 : Int32), rv o_CURRENT_APPENDED, rv o_REPLACE, rv o_REPLACED, iv (2 : Int32)]) rfl ?_
    show SS p e below T5 m 56 #[iv p1, iv p2, iv (1 : Int32), iv (2 : Int32), rv o_CURRENT_APPENDED, rv o_REPLACE, rv o_REPLACED, iv (2 : Int32)] [] _
    refine XS.aload X5.here hx rfl (hb hby at_56) rfl rfl ?_
    refine XS.iload X5.here hx rfl (hb hby at_58) rfl ?_
    show SS p e below T5 m 60 #[iv p1, iv p2, iv (1 : Int32), iv (2 : Int32), rv o_CURRENT_APPENDED, rv o_REPLACE, rv o_REPLACED, iv (2 : Int32)] [(.int (2 : Int32)), (.ref o_REPLACED)] _
    refine st7 _ ?_
    show SS p e below T7 m 63 #[iv p1, iv p2, iv (1 : Int32), iv (2 : Int32), rv o_CURRENT_APPENDED, rv o_REPLACE, rv o_REPLACED, iv (2 : Int32)] [(.ref o_REPLACED), (.ref o_REPLACED)] _
    refine Jvm.RoadKit.acmp (g := (mkF m 63 #[iv p1, iv p2, iv (1 : Int32), iv (2 : Int32), rv o_CURRENT_APPENDED, rv o_REPLACE, rv o_REPLACED, iv (2 : Int32)] [(.ref o_REPLACED), (.ref o_REPLACED)])) X7 hx rfl rfl rfl (pc0 := 63) (pc' := 66) (same := true) rfl (hb hby at_63) rfl (decide_eq_true rfl) (by decide) (by decide) ?_
    show SS p e below T7 m 66 #[iv p1, iv p2, iv (1 : Int32), iv (2 : Int32), rv o_CURRENT_APPENDED, rv o_REPLACE, rv o_REPLACED, iv (2 : Int32)] [] _
    refine XS.iconst X7.here hx rfl (hb hby at_66) ?_
    refine XS.goto X7.here hx rfl (pc0 := 67) (pc' := 71) rfl (hb hby at_67) (by decide) (by decide) ?_
    show SS p e below T7 m 71 #[iv p1, iv p2, iv (1 : Int32), iv (2 : Int32), rv o_CURRENT_APPENDED, rv o_REPLACE, rv o_REPLACED, iv (2 : Int32)] [(.int (1 : Int32))] _
    exact retN X7 hx (t := .boolean) hret (by simp) (hb hby at_71) hr
-- com/example/dossiertools/dossiertools/LeafState.after(Lcom/example/dossiertools/dossiertools/Operation;)Lcom/example/dossiertools/dossiertools/LeafState;
def Q16_after (Z : State) (a1 : Addr) (a2 : Addr) (a3 : Addr) (a4 : Addr) (a5 : Addr) (h0 : Heap) (n0 : Nat) (v : Option Value) (h : Heap) (L : List Loc) : Prop := v = some (.ref a5) ∧ Fr n0 L ∧ h = h0
set_option maxRecDepth 65536 in
set_option maxHeartbeats 40000000 in
theorem rm16_after (l : Launch) (Z : State) (a0 : Array Value) (hw : HW Z a0) (a1 : Addr) (a2 : Addr) (a3 : Addr) (a4 : Addr) (a5 : Addr) (h0 : Heap) (n0 : Nat) (O0 : Old Z n0 h0) (S_0 : SA6 Z Z.heap (.ref a3)) (ne_1 : a1 ≠ a3) (S_2 : SA13 Z Z.heap (.ref a1)) (S_3 : SA8 Z Z.heap (.ref a4)) (ne_4 : a2 ≠ a4) (S_5 : SA9 Z Z.heap (.ref a2)) (S_6 : SA11 Z Z.heap (.ref a5)) :
    Met l Z [] Y2 prog_38_method_5_code 3 (some (.object "com/example/dossiertools/dossiertools/LeafState")) ({ frames := 0, cells := 0, slots := 0, locals := 0 } : Room) #[(.ref a1), (.ref a2)] h0 (Q16_after Z a1 a2 a3 a4 a5 h0 n0) := by
  have W := fun (i : Nat) {c : Jvm.Cond} (q : tables_1[i]? = some c) => hw c (List.mem_of_getElem? q)
  refine own_mk (plainFor_of_name pn_29) ?_
  intro p e s m below meth c s₁ hZ hx hby hml hown hnm hret hlk X0 e0
  have N0 := Fr.nil n0
  obtain ⟨T1, X1, e1, st1⟩ := getS2 X0 hx hZ hown (host := "") (Or.inl (W 19 rfl)) Via.refl e0 (S_0.ext O0.2) (g := (mkF m 1 #[rv a1, rv a2, .unset] [(.ref a1)])) rfl (hb hby d_13)
  obtain ⟨T2, X2, e2, st2⟩ := getS2 X1 hx hZ hown (host := "") (Or.inl (W 30 rfl)) Via.refl e1 (S_2.ext O0.2) (g := (mkF m 8 #[rv a1, rv a2, .unset] [(.ref a1)])) rfl (hb hby d_72)
  obtain ⟨T3, X3, e3, st3⟩ := getS2 X2 hx hZ hown (host := "") (Or.inl (W 20 rfl)) Via.refl e2 (S_3.ext O0.2) (g := (mkF m 20 #[rv a1, rv a2, .unset] [(.ref a2)])) rfl (hb hby d_16)
  obtain ⟨T4, X4, e4, st4⟩ := getS2 X3 hx hZ hown (host := "") (Or.inl (W 22 rfl)) Via.refl e3 (S_5.ext O0.2) (g := (mkF m 34 #[rv a1, rv a2, .unset] [(.ref a2)])) rfl (hb hby d_19)
  obtain ⟨T5, X5, e5, st5⟩ := getS2 X4 hx hZ hown (host := "") (Or.inl (W 23 rfl)) Via.refl e4 (S_6.ext O0.2) (g := (mkF m 40 #[rv a1, rv a2, .unset] [])) rfl (hb hby d_63)
  refine ⟨T5, some (.ref a5), _, _, _, X5, by decide, by decide, nofun, ?_, fun fs hr => castTop (ef_28 m a1 a2) ?_⟩
  · show Q16_after Z a1 a2 a3 a4 a5 h0 n0 _ T5.heap _
    rw [e5]
    exact ⟨rfl, N0, rfl⟩
  · show SS p e below s₁ m 0 #[rv a1, rv a2, .unset] [] _
    refine XS.aloadN X0.here hx rfl (hb hby d_12) rfl rfl ?_
    show SS p e below s₁ m 1 #[rv a1, rv a2, .unset] [(.ref a1)] _
    refine st1 _ ?_
    show SS p e below T1 m 4 #[rv a1, rv a2, .unset] [(.ref a3), (.ref a1)] _
    refine Jvm.RoadKit.acmp (g := (mkF m 4 #[rv a1, rv a2, .unset] [(.ref a3), (.ref a1)])) X1 hx rfl rfl rfl (pc0 := 4) (pc' := 7) (same := false) rfl (hb hby d_14) rfl (decide_eq_false fun q => ne_1 (Value.ref.inj q)) (by decide) (by decide) ?_
    show SS p e below T1 m 7 #[rv a1, rv a2, .unset] [] _
    refine XS.aloadN X1.here hx rfl (hb hby d_71) rfl rfl ?_
    show SS p e below T1 m 8 #[rv a1, rv a2, .unset] [(.ref a1)] _
    refine st2 _ ?_
    show SS p e below T2 m 11 #[rv a1, rv a2, .unset] [(.ref a1), (.ref a1)] _
    refine Jvm.RoadKit.acmp (g := (mkF m 11 #[rv a1, rv a2, .unset] [(.ref a1), (.ref a1)])) X2 hx rfl rfl rfl (pc0 := 11) (pc' := 19) (same := true) rfl (hb hby d_73) rfl (decide_eq_true rfl) (by decide) (by decide) ?_
    show SS p e below T2 m 19 #[rv a1, rv a2, .unset] [] _
    refine XS.aloadN X2.here hx rfl (hb hby d_15) rfl rfl ?_
    show SS p e below T2 m 20 #[rv a1, rv a2, .unset] [(.ref a2)] _
    refine st3 _ ?_
    show SS p e below T3 m 23 #[rv a1, rv a2, .unset] [(.ref a4), (.ref a2)] _
    refine Jvm.RoadKit.acmp (g := (mkF m 23 #[rv a1, rv a2, .unset] [(.ref a4), (.ref a2)])) X3 hx rfl rfl rfl (pc0 := 23) (pc' := 33) (same := false) rfl (hb hby d_17) rfl (decide_eq_false fun q => ne_4 (Value.ref.inj q)) (by decide) (by decide) ?_
    show SS p e below T3 m 33 #[rv a1, rv a2, .unset] [] _
    refine XS.aloadN X3.here hx rfl (hb hby d_18) rfl rfl ?_
    show SS p e below T3 m 34 #[rv a1, rv a2, .unset] [(.ref a2)] _
    refine st4 _ ?_
    show SS p e below T4 m 37 #[rv a1, rv a2, .unset] [(.ref a2), (.ref a2)] _
    refine Jvm.RoadKit.acmp (g := (mkF m 37 #[rv a1, rv a2, .unset] [(.ref a2), (.ref a2)])) X4 hx rfl rfl rfl (pc0 := 37) (pc' := 40) (same := true) rfl (hb hby d_20) rfl (decide_eq_true rfl) (by decide) (by decide) ?_
    show SS p e below T4 m 40 #[rv a1, rv a2, .unset] [] _
    refine st5 _ ?_
    show SS p e below T5 m 43 #[rv a1, rv a2, .unset] [(.ref a5)] _
    refine XS.astoreN X5.here hx rfl (hb hby d_64) rfl rfl (l' := #[rv a1, rv a2, rv a5]) rfl ?_
    show SS p e below T5 m 44 #[rv a1, rv a2, rv a5] [] _
    refine XS.goto X5.here hx rfl (pc0 := 44) (pc' := 63) rfl (hb hby d_65) (by decide) (by decide) ?_
    refine XS.aloadN X5.here hx rfl (hb hby d_26) rfl rfl ?_
    show SS p e below T5 m 64 #[rv a1, rv a2, rv a5] [(.ref a5)] _
    exact retOut X5 hx hret rfl (Or.inr (Or.inr (Or.inr (Or.inr ⟨rfl, rfl, rfl⟩)))) (hb hby d_27) hr
set_option maxRecDepth 65536 in
set_option maxHeartbeats 40000000 in
theorem rm0_1_3 (l : Launch) (Z : State) (a0 : Array Value) (hw : HW Z a0) (ws : List Jvm.Cond) (p1 : Int32) (p2 : Int32) (o_CURRENT : Addr) (o_DELETE : Addr) (o_REPLACE : Addr) (o_NO_LONGER_RELEVANT : Addr) (o_DELETION : Addr) (o_APPEND : Addr) (o_CURRENT_APPENDED : Addr) (o_NEW : Addr) (o_REPLACED : Addr) (h0 : Heap) (n0 : Nat) (O0 : Old Z n0 h0) (S_o_CURRENT : SA6 Z Z.heap (.ref o_CURRENT)) (E_o_CURRENT : EA4 Z Z.heap o_CURRENT) (S_o_DELETE : SA9 Z Z.heap (.ref o_DELETE)) (E_o_DELETE : EA5 Z Z.heap o_DELETE) (S_o_REPLACE : SA8 Z Z.heap (.ref o_REPLACE)) (E_o_REPLACE : EA5 Z Z.heap o_REPLACE) (S_o_NO_LONGER_RELEVANT : SA11 Z Z.heap (.ref o_NO_LONGER_RELEVANT)) (E_o_NO_LONGER_RELEVANT : EA4 Z Z.heap o_NO_LONGER_RELEVANT) (S_o_DELETION : SA12 Z Z.heap (.ref o_DELETION)) (E_o_DELETION : EA4 Z Z.heap o_DELETION) (S_o_APPEND : SA10 Z Z.heap (.ref o_APPEND)) (E_o_APPEND : EA5 Z Z.heap o_APPEND) (S_o_CURRENT_APPENDED : SA13 Z Z.heap (.ref o_CURRENT_APPENDED)) (E_o_CURRENT_APPENDED : EA4 Z Z.heap o_CURRENT_APPENDED) (S_o_NEW : SA7 Z Z.heap (.ref o_NEW)) (E_o_NEW : EA5 Z Z.heap o_NEW) (S_o_REPLACED : SA14 Z Z.heap (.ref o_REPLACED)) (E_o_REPLACED : EA4 Z Z.heap o_REPLACED) (F_o_DELETE_ordinal : FA3 Z Z.heap o_DELETE (.int (3 : Int32))) (F_o_REPLACE_ordinal : FA3 Z Z.heap o_REPLACE (.int (2 : Int32))) (F_o_DELETION_ordinal : FA3 Z Z.heap o_DELETION (.int (4 : Int32))) (F_o_CURRENT_ordinal : FA3 Z Z.heap o_CURRENT (.int (0 : Int32))) (F_o_CURRENT_APPENDED_ordinal : FA3 Z Z.heap o_CURRENT_APPENDED (.int (1 : Int32))) (F_o_NO_LONGER_RELEVANT_ordinal : FA3 Z Z.heap o_NO_LONGER_RELEVANT (.int (3 : Int32))) (F_o_NEW_ordinal : FA3 Z Z.heap o_NEW (.int (0 : Int32))) (F_o_APPEND_ordinal : FA3 Z Z.heap o_APPEND (.int (1 : Int32))) (F_o_REPLACED_ordinal : FA3 Z Z.heap o_REPLACED (.int (2 : Int32))) (hs : ((p1 &&& (2147483647 : Int32)) % (5 : Int32)) = (1 : Int32)) (hf : (p2 &&& (3 : Int32)) = (3 : Int32)) :
    Met l Z ws x code maxLocals ret room_1 #[(.int p1), (.int p2)] h0 (fun v _ L => Q0 n0 v L) := by
  have W := fun (i : Nat) {c : Jvm.Cond} (q : tables_1[i]? = some c) => hw c (List.mem_of_getElem? q)
  refine own_mk (plainFor_of_name pn_5) ?_
  intro p e s m below meth c s₁ hZ hx hby hml hown hnm hret hlk X0 e0
  have N0 := Fr.nil n0
  obtain ⟨_, T1, L1, X1, hQ1, st1⟩ := own_cs X0 hx hZ hown hml (W 1 rfl) (W 2 rfl) (W 3 rfl) (W 4 rfl) (rm6_state l Z a0 hw o_CURRENT_APPENDED h0 n0 O0 (S_o_CURRENT_APPENDED)) e0 (hb hby at_12) 0 #[iv p1, iv p2, iv (1 : Int32), iv (3 : Int32), .unset, .unset, .unset, .unset] [(.int (1 : Int32))] [] pd_6 (by decide) rfl rfl rfl (Nat.le_of_eq rfl)
  obtain ⟨rfl, N1q, K1⟩ := hQ1
  have N2 := Fr.app N0 N1q
  obtain ⟨_, T3, L3, X3, hQ3, st3⟩ := own_cs X1 hx hZ hown hml (W 8 rfl) (W 9 rfl) (W 3 rfl) (W 10 rfl) (rm10_operation l Z a0 hw o_DELETE h0 n0 O0 (S_o_DELETE)) K1 (hb hby at_18) 0 #[iv p1, iv p2, iv (1 : Int32), iv (3 : Int32), rv o_CURRENT_APPENDED, .unset, .unset, .unset] [(.int (3 : Int32))] [] pd_11 (by decide) rfl rfl rfl (Nat.le_of_eq rfl)
  obtain ⟨rfl, N3q, K3⟩ := hQ3
  have N4 := Fr.app N2 N3q
  obtain ⟨_, T5, L5, X5, hQ5, st5⟩ := own_cv X3 hx hZ hown hml (W 14 rfl) (W 15 rfl) (notFace_of_selects (W 17 rfl)) (W 17 rfl) (W 16 rfl) (W 6 rfl) (W 18 rfl) (rm16_after l Z a0 hw o_CURRENT_APPENDED o_DELETE o_CURRENT o_REPLACE o_NO_LONGER_RELEVANT h0 n0 O0 (S_o_CURRENT) ((Fld.ne F_o_CURRENT_APPENDED_ordinal F_o_CURRENT_ordinal (by decide))) (S_o_CURRENT_APPENDED) (S_o_REPLACE) ((Fld.ne F_o_DELETE_ordinal F_o_REPLACE_ordinal (by decide))) (S_o_DELETE) (S_o_NO_LONGER_RELEVANT)) K3 (E_o_CURRENT_APPENDED.ext O0.2) (hb hby at_27) 0 #[iv p1, iv p2, iv (1 : Int32), iv (3 : Int32), rv o_CURRENT_APPENDED, rv o_DELETE, .unset, .unset] [(.ref o_DELETE)] [] pd_30 (by decide) rfl rfl rfl (Nat.le_of_eq rfl)
  obtain ⟨rfl, N5q, K5⟩ := hQ5
  have N6 := Fr.app N4 N5q
  obtain ⟨_, T7, L7, X7, hQ7, st7⟩ := own_cs X5 hx hZ hown hml (W 1 rfl) (W 2 rfl) (W 3 rfl) (W 4 rfl) (rm12_state l Z a0 hw o_NO_LONGER_RELEVANT h0 n0 O0 (S_o_NO_LONGER_RELEVANT)) K5 (hb hby at_60) 1 #[iv p1, iv p2, iv (1 : Int32), iv (3 : Int32), rv o_CURRENT_APPENDED, rv o_DELETE, rv o_NO_LONGER_RELEVANT, iv (3 : Int32)] [(.int (3 : Int32))] [(.ref o_NO_LONGER_RELEVANT)] pd_6 (by decide) rfl rfl rfl (Nat.le_of_eq rfl)
  obtain ⟨rfl, N7q, K7⟩ := hQ7
  have N8 := Fr.app N6 N7q
  refine ⟨T7, some (.int (1 : Int32)), _, _, _, X7, by decide, by decide, nofun, ?_, fun fs hr => castTop (ef_31 m p1 p2) ?_⟩
  · exact ⟨rfl, N8⟩
  · show SS p e below s₁ m 0 #[iv p1, iv p2, .unset, .unset, .unset, .unset, .unset, .unset] [] _
    refine XS.iloadN X0.here hx rfl (hb hby at_0) rfl ?_
    show SS p e below s₁ m 1 #[iv p1, iv p2, .unset, .unset, .unset, .unset, .unset, .unset] [(.int p1)] _
    refine X0.ldcInt hx hown (mvT hZ (W 0 rfl)) (g := (mkF m 1 #[iv p1, iv p2, .unset, .unset, .unset, .unset, .unset, .unset] [(.int p1)])) rfl (hb hby at_1) _ ?_
    show SS p e below s₁ m 3 #[iv p1, iv p2, .unset, .unset, .unset, .unset, .unset, .unset] [(.int (2147483647 : Int32)), (.int p1)] _
    refine XS.iand X0.here hx rfl (hb hby at_3) rfl ?_
    show SS p e below s₁ m 4 #[iv p1, iv p2, .unset, .unset, .unset, .unset, .unset, .unset] [(.int (p1 &&& (2147483647 : Int32)))] _
    refine XS.iconst X0.here hx rfl (hb hby at_4) ?_
    show SS p e below s₁ m 5 #[iv p1, iv p2, .unset, .unset, .unset, .unset, .unset, .unset] [(.int (5 : Int32)), (.int (p1 &&& (2147483647 : Int32)))] _
    refine iremM (g := (mkF m 5 #[iv p1, iv p2, .unset, .unset, .unset, .unset, .unset, .unset] [(.int (5 : Int32)), (.int (p1 &&& (2147483647 : Int32)))])) X0 hx rfl (hb hby at_5) rfl (by decide : ¬ ((5 : Int32) = (0 : Int32))) ?_
    rw [hs]
    show SS p e below s₁ m 6 #[iv p1, iv p2, .unset, .unset, .unset, .unset, .unset, .unset] [(.int (1 : Int32))] _
    refine XS.istoreN X0.here hx rfl (hb hby at_6) rfl (l' := #[iv p1, iv p2, iv (1 : Int32), .unset, .unset, .unset, .unset, .unset]) rfl ?_
    show SS p e below s₁ m 7 #[iv p1, iv p2, iv (1 : Int32), .unset, .unset, .unset, .unset, .unset] [] _
    refine XS.iloadN X0.here hx rfl (hb hby at_7) rfl ?_
    refine XS.iconst X0.here hx rfl (hb hby at_8) ?_
    show SS p e below s₁ m 9 #[iv p1, iv p2, iv (1 : Int32), .unset, .unset, .unset, .unset, .unset] [(.int (3 : Int32)), (.int p2)] _
    refine XS.iand X0.here hx rfl (hb hby at_9) rfl ?_
    rw [hf]
    show SS p e below s₁ m 10 #[iv p1, iv p2, iv (1 : Int32), .unset, .unset, .unset, .unset, .unset] [(.int (3 : Int32))] _
    refine XS.istoreN X0.here hx rfl (hb hby at_10) rfl (l' := #[iv p1, iv p2, iv (1 : Int32), iv (3 : Int32), .unset, .unset, .unset, .unset]) rfl ?_
    show SS p e below s₁ m 11 #[iv p1, iv p2, iv (1 : Int32), iv (3 : Int32), .unset, .unset, .unset, .unset] [] _
    refine XS.iloadN X0.here hx rfl (hb hby at_11) rfl ?_
    show SS p e below s₁ m 12 #[iv p1, iv p2, iv (1 : Int32), iv (3 : Int32), .unset, .unset, .unset, .unset] [(.int (1 : Int32))] _
    refine st1 _ ?_
    show SS p e below T1 m 15 #[iv p1, iv p2, iv (1 : Int32), iv (3 : Int32), .unset, .unset, .unset, .unset] [(.ref o_CURRENT_APPENDED)] _
    refine XS.astore X1.here hx rfl (hb hby at_15) rfl rfl (l' := #[iv p1, iv p2, iv (1 : Int32), iv (3 : Int32), rv o_CURRENT_APPENDED, .unset, .unset, .unset]) rfl ?_
    show SS p e below T1 m 17 #[iv p1, iv p2, iv (1 : Int32), iv (3 : Int32), rv o_CURRENT_APPENDED, .unset, .unset, .unset] [] _
    refine XS.iloadN X1.here hx rfl (hb hby at_17) rfl ?_
    show SS p e below T1 m 18 #[iv p1, iv p2, iv (1 : Int32), iv (3 : Int32), rv o_CURRENT_APPENDED, .unset, .unset, .unset] [(.int (3 : Int32))] _
    refine st3 _ ?_
    show SS p e below T3 m 21 #[iv p1, iv p2, iv (1 : Int32), iv (3 : Int32), rv o_CURRENT_APPENDED, .unset, .unset, .unset] [(.ref o_DELETE)] _
    refine XS.astore X3.here hx rfl (hb hby at_21) rfl rfl (l' := #[iv p1, iv p2, iv (1 : Int32), iv (3 : Int32), rv o_CURRENT_APPENDED, rv o_DELETE, .unset, .unset]) rfl ?_
    show SS p e below T3 m 23 #[iv p1, iv p2, iv (1 : Int32), iv (3 : Int32), rv o_CURRENT_APPENDED, rv o_DELETE, .unset, .unset] [] _
    refine XS.aload X3.here hx rfl (hb hby at_23) rfl rfl ?_
    refine XS.aload X3.here hx rfl (hb hby at_25) rfl rfl ?_
    show SS p e below T3 m 27 #[iv p1, iv p2, iv (1 : Int32), iv (3 : Int32), rv o_CURRENT_APPENDED, rv o_DELETE, .unset, .unset] [(.ref o_DELETE), (.ref o_CURRENT_APPENDED)] _
    refine st5 _ ?_
    show SS p e below T5 m 30 #[iv p1, iv p2, iv (1 : Int32), iv (3 : Int32), rv o_CURRENT_APPENDED, rv o_DELETE, .unset, .unset] [(.ref o_NO_LONGER_RELEVANT)] _
    refine XS.astore X5.here hx rfl (hb hby at_30) rfl rfl (l' := #[iv p1, iv p2, iv (1 : Int32), iv (3 : Int32), rv o_CURRENT_APPENDED, rv o_DELETE, rv o_NO_LONGER_RELEVANT, .unset]) rfl ?_
    show SS p e below T5 m 32 #[iv p1, iv p2, iv (1 : Int32), iv (3 : Int32), rv o_CURRENT_APPENDED, rv o_DELETE, rv o_NO_LONGER_RELEVANT, .unset] [] _
    refine XS.iloadN X5.here hx rfl (hb hby at_32) rfl ?_
    refine XS.iconst X5.here hx rfl (hb hby at_33) ?_
    show SS p e below T5 m 34 #[iv p1, iv p2, iv (1 : Int32), iv (3 : Int32), rv o_CURRENT_APPENDED, rv o_DELETE, rv o_NO_LONGER_RELEVANT, .unset] [(.int (2 : Int32)), (.int (1 : Int32))] _
    refine XS.icmpYes X5.here hx rfl (pc0 := 34) (pc' := 43) rfl (hb hby at_34) rfl (tlt (by decide : (1 : Int32) < (2 : Int32))).1 (by decide) (by decide) ?_
    show SS p e below T5 m 43 #[iv p1, iv p2, iv (1 : Int32), iv (3 : Int32), rv o_CURRENT_APPENDED, rv o_DELETE, rv o_NO_LONGER_RELEVANT, .unset] [] _
    refine XS.iloadN X5.here hx rfl (hb hby at_43) rfl ?_
    show SS p e below T5 m 44 #[iv p1, iv p2, iv (1 : Int32), iv (3 : Int32), rv o_CURRENT_APPENDED, rv o_DELETE, rv o_NO_LONGER_RELEVANT, .unset] [(.int (3 : Int32))] _
    refine XS.ifYes X5.here hx rfl (pc0 := 44) (pc' := 53) rfl (hb hby at_44) rfl ((if0 _ _).trans (feq (by decide : ¬ ((3 : Int32) = (0 : Int32)))).2) (by decide) (by decide) ?_
    show SS p e below T5 m 53 #[iv p1, iv p2, iv (1 : Int32), iv (3 : Int32), rv o_CURRENT_APPENDED, rv o_DELETE, rv o_NO_LONGER_RELEVANT, .unset] [] _
    refine XS.iloadN X5.here hx rfl (hb hby at_53) rfl ?_
    show SS p e below T5 m 54 #[iv p1, iv p2, iv (1 : Int32), iv (3 : Int32), rv o_CURRENT_APPENDED, rv o_DELETE, rv o_NO_LONGER_RELEVANT, .unset] [(.int (3 : Int32))] _
    refine XS.istore X5.here hx rfl (hb hby at_54) rfl (l' := #[iv p1, iv p2, iv (1 : Int32), iv (3 : Int32), rv o_CURRENT_APPENDED, rv o_DELETE, rv o_NO_LONGER_RELEVANT, iv (3 : Int32)]) rfl ?_
    show SS p e below T5 m 56 #[iv p1, iv p2, iv (1 : Int32), iv (3 : Int32), rv o_CURRENT_APPENDED, rv o_DELETE, rv o_NO_LONGER_RELEVANT, iv (3 : Int32)] [] _
    refine XS.aload X5.here hx rfl (hb hby at_56) rfl rfl ?_
    refine XS.iload X5.here hx rfl (hb hby at_58) rfl ?_
    show SS p e below T5 m 60 #[iv p1, iv p2, iv (1 : Int32), iv (3 : Int32), rv o_CURRENT_APPENDED, rv o_DELETE, rv o_NO_LONGER_RELEVANT, iv (3 : Int32)] [(.int (3 : Int32)), (.ref o_NO_LONGER_RELEVANT)] _
    refine st7 _ ?_
    show SS p e below T7 m 63 #[iv p1, iv p2, iv (1 : Int32), iv (3 : Int32), rv o_CURRENT_APPENDED, rv o_DELETE, rv o_NO_LONGER_RELEVANT, iv (3 : Int32)] [(.ref o_NO_LONGER_RELEVANT), (.ref o_NO_LONGER_RELEVANT)] _
    refine Jvm.RoadKit.acmp (g := (mkF m 63 #[iv p1, iv p2, iv (1 : Int32), iv (3 : Int32), rv o_CURRENT_APPENDED, rv o_DELETE, rv o_NO_LONGER_RELEVANT, iv (3 : Int32)] [(.ref o_NO_LONGER_RELEVANT), (.ref o_NO_LONGER_RELEVANT)])) X7 hx rfl rfl rfl (pc0 := 63) (pc' := 66) (same := true) rfl (hb hby at_63) rfl (decide_eq_true rfl) (by decide) (by decide) ?_
    show SS p e below T7 m 66 #[iv p1, iv p2, iv (1 : Int32), iv (3 : Int32), rv o_CURRENT_APPENDED, rv o_DELETE, rv o_NO_LONGER_RELEVANT, iv (3 : Int32)] [] _
    refine XS.iconst X7.here hx rfl (hb hby at_66) ?_
    refine XS.goto X7.here hx rfl (pc0 := 67) (pc' := 71) rfl (hb hby at_67) (by decide) (by decide) ?_
    show SS p e below T7 m 71 #[iv p1, iv p2, iv (1 : Int32), iv (3 : Int32), rv o_CURRENT_APPENDED, rv o_DELETE, rv o_NO_LONGER_RELEVANT, iv (3 : Int32)] [(.int (1 : Int32))] _
    exact retN X7 hx (t := .boolean) hret (by simp) (hb hby at_71) hr
theorem d_74 : decode prog_38_method_5_code 14 = .ok (.aload_n 0, 1) := by decide +kernel
theorem d_75 : decode prog_38_method_5_code 15 = .ok (.astore_n 2, 1) := by decide +kernel
theorem d_76 : decode prog_38_method_5_code 16 = .ok (.goto 47, 3) := by decide +kernel
-- com/example/dossiertools/dossiertools/LeafState.after(Lcom/example/dossiertools/dossiertools/Operation;)Lcom/example/dossiertools/dossiertools/LeafState;
def Q17_after (Z : State) (a1 : Addr) (a2 : Addr) (a3 : Addr) (a4 : Addr) (h0 : Heap) (n0 : Nat) (v : Option Value) (h : Heap) (L : List Loc) : Prop := v = some (.ref a1) ∧ Fr n0 L ∧ h = h0
set_option maxRecDepth 65536 in
set_option maxHeartbeats 40000000 in
theorem rm17_after (l : Launch) (Z : State) (a0 : Array Value) (hw : HW Z a0) (a1 : Addr) (a2 : Addr) (a3 : Addr) (a4 : Addr) (h0 : Heap) (n0 : Nat) (O0 : Old Z n0 h0) (S_0 : SA6 Z Z.heap (.ref a3)) (ne_1 : a1 ≠ a3) (S_2 : SA13 Z Z.heap (.ref a4)) (ne_3 : a1 ≠ a4) :
    Met l Z [] Y2 prog_38_method_5_code 3 (some (.object "com/example/dossiertools/dossiertools/LeafState")) ({ frames := 0, cells := 0, slots := 0, locals := 0 } : Room) #[(.ref a1), (.ref a2)] h0 (Q17_after Z a1 a2 a3 a4 h0 n0) := by
  have W := fun (i : Nat) {c : Jvm.Cond} (q : tables_1[i]? = some c) => hw c (List.mem_of_getElem? q)
  refine own_mk (plainFor_of_name pn_29) ?_
  intro p e s m below meth c s₁ hZ hx hby hml hown hnm hret hlk X0 e0
  have N0 := Fr.nil n0
  obtain ⟨T1, X1, e1, st1⟩ := getS2 X0 hx hZ hown (host := "") (Or.inl (W 19 rfl)) Via.refl e0 (S_0.ext O0.2) (g := (mkF m 1 #[rv a1, rv a2, .unset] [(.ref a1)])) rfl (hb hby d_13)
  obtain ⟨T2, X2, e2, st2⟩ := getS2 X1 hx hZ hown (host := "") (Or.inl (W 30 rfl)) Via.refl e1 (S_2.ext O0.2) (g := (mkF m 8 #[rv a1, rv a2, .unset] [(.ref a1)])) rfl (hb hby d_72)
  refine ⟨T2, some (.ref a1), _, _, _, X2, by decide, by decide, nofun, ?_, fun fs hr => castTop (ef_28 m a1 a2) ?_⟩
  · show Q17_after Z a1 a2 a3 a4 h0 n0 _ T2.heap _
    rw [e2]
    exact ⟨rfl, N0, rfl⟩
  · show SS p e below s₁ m 0 #[rv a1, rv a2, .unset] [] _
    refine XS.aloadN X0.here hx rfl (hb hby d_12) rfl rfl ?_
    show SS p e below s₁ m 1 #[rv a1, rv a2, .unset] [(.ref a1)] _
    refine st1 _ ?_
    show SS p e below T1 m 4 #[rv a1, rv a2, .unset] [(.ref a3), (.ref a1)] _
    refine Jvm.RoadKit.acmp (g := (mkF m 4 #[rv a1, rv a2, .unset] [(.ref a3), (.ref a1)])) X1 hx rfl rfl rfl (pc0 := 4) (pc' := 7) (same := false) rfl (hb hby d_14) rfl (decide_eq_false fun q => ne_1 (Value.ref.inj q)) (by decide) (by decide) ?_
    show SS p e below T1 m 7 #[rv a1, rv a2, .unset] [] _
    refine XS.aloadN X1.here hx rfl (hb hby d_71) rfl rfl ?_
    show SS p e below T1 m 8 #[rv a1, rv a2, .unset] [(.ref a1)] _
    refine st2 _ ?_
    show SS p e below T2 m 11 #[rv a1, rv a2, .unset] [(.ref a4), (.ref a1)] _
    refine Jvm.RoadKit.acmp (g := (mkF m 11 #[rv a1, rv a2, .unset] [(.ref a4), (.ref a1)])) X2 hx rfl rfl rfl (pc0 := 11) (pc' := 14) (same := false) rfl (hb hby d_73) rfl (decide_eq_false fun q => ne_3 (Value.ref.inj q)) (by decide) (by decide) ?_
    show SS p e below T2 m 14 #[rv a1, rv a2, .unset] [] _
    refine XS.aloadN X2.here hx rfl (hb hby d_74) rfl rfl ?_
    show SS p e below T2 m 15 #[rv a1, rv a2, .unset] [(.ref a1)] _
    refine XS.astoreN X2.here hx rfl (hb hby d_75) rfl rfl (l' := #[rv a1, rv a2, rv a1]) rfl ?_
    show SS p e below T2 m 16 #[rv a1, rv a2, rv a1] [] _
    refine XS.goto X2.here hx rfl (pc0 := 16) (pc' := 63) rfl (hb hby d_76) (by decide) (by decide) ?_
    refine XS.aloadN X2.here hx rfl (hb hby d_26) rfl rfl ?_
    show SS p e below T2 m 64 #[rv a1, rv a2, rv a1] [(.ref a1)] _
    exact retOut X2 hx hret rfl (Or.inr (Or.inr (Or.inr (Or.inr ⟨rfl, rfl, rfl⟩)))) (hb hby d_27) hr
set_option maxRecDepth 65536 in
set_option maxHeartbeats 40000000 in
theorem rm0_2_0 (l : Launch) (Z : State) (a0 : Array Value) (hw : HW Z a0) (ws : List Jvm.Cond) (p1 : Int32) (p2 : Int32) (o_CURRENT : Addr) (o_DELETE : Addr) (o_REPLACE : Addr) (o_NO_LONGER_RELEVANT : Addr) (o_DELETION : Addr) (o_APPEND : Addr) (o_CURRENT_APPENDED : Addr) (o_NEW : Addr) (o_REPLACED : Addr) (h0 : Heap) (n0 : Nat) (O0 : Old Z n0 h0) (S_o_CURRENT : SA6 Z Z.heap (.ref o_CURRENT)) (E_o_CURRENT : EA4 Z Z.heap o_CURRENT) (S_o_DELETE : SA9 Z Z.heap (.ref o_DELETE)) (E_o_DELETE : EA5 Z Z.heap o_DELETE) (S_o_REPLACE : SA8 Z Z.heap (.ref o_REPLACE)) (E_o_REPLACE : EA5 Z Z.heap o_REPLACE) (S_o_NO_LONGER_RELEVANT : SA11 Z Z.heap (.ref o_NO_LONGER_RELEVANT)) (E_o_NO_LONGER_RELEVANT : EA4 Z Z.heap o_NO_LONGER_RELEVANT) (S_o_DELETION : SA12 Z Z.heap (.ref o_DELETION)) (E_o_DELETION : EA4 Z Z.heap o_DELETION) (S_o_APPEND : SA10 Z Z.heap (.ref o_APPEND)) (E_o_APPEND : EA5 Z Z.heap o_APPEND) (S_o_CURRENT_APPENDED : SA13 Z Z.heap (.ref o_CURRENT_APPENDED)) (E_o_CURRENT_APPENDED : EA4 Z Z.heap o_CURRENT_APPENDED) (S_o_NEW : SA7 Z Z.heap (.ref o_NEW)) (E_o_NEW : EA5 Z Z.heap o_NEW) (S_o_REPLACED : SA14 Z Z.heap (.ref o_REPLACED)) (E_o_REPLACED : EA4 Z Z.heap o_REPLACED) (F_o_DELETE_ordinal : FA3 Z Z.heap o_DELETE (.int (3 : Int32))) (F_o_REPLACE_ordinal : FA3 Z Z.heap o_REPLACE (.int (2 : Int32))) (F_o_DELETION_ordinal : FA3 Z Z.heap o_DELETION (.int (4 : Int32))) (F_o_CURRENT_ordinal : FA3 Z Z.heap o_CURRENT (.int (0 : Int32))) (F_o_CURRENT_APPENDED_ordinal : FA3 Z Z.heap o_CURRENT_APPENDED (.int (1 : Int32))) (F_o_NO_LONGER_RELEVANT_ordinal : FA3 Z Z.heap o_NO_LONGER_RELEVANT (.int (3 : Int32))) (F_o_NEW_ordinal : FA3 Z Z.heap o_NEW (.int (0 : Int32))) (F_o_APPEND_ordinal : FA3 Z Z.heap o_APPEND (.int (1 : Int32))) (F_o_REPLACED_ordinal : FA3 Z Z.heap o_REPLACED (.int (2 : Int32))) (hs : ((p1 &&& (2147483647 : Int32)) % (5 : Int32)) = (2 : Int32)) (hf : (p2 &&& (3 : Int32)) = (0 : Int32)) :
    Met l Z ws x code maxLocals ret room_1 #[(.int p1), (.int p2)] h0 (fun v _ L => Q0 n0 v L) := by
  have W := fun (i : Nat) {c : Jvm.Cond} (q : tables_1[i]? = some c) => hw c (List.mem_of_getElem? q)
  refine own_mk (plainFor_of_name pn_5) ?_
  intro p e s m below meth c s₁ hZ hx hby hml hown hnm hret hlk X0 e0
  have N0 := Fr.nil n0
  obtain ⟨_, T1, L1, X1, hQ1, st1⟩ := own_cs X0 hx hZ hown hml (W 1 rfl) (W 2 rfl) (W 3 rfl) (W 4 rfl) (rm9_state l Z a0 hw o_REPLACED h0 n0 O0 (S_o_REPLACED)) e0 (hb hby at_12) 0 #[iv p1, iv p2, iv (2 : Int32), iv (0 : Int32), .unset, .unset, .unset, .unset] [(.int (2 : Int32))] [] pd_6 (by decide) rfl rfl rfl (Nat.le_of_eq rfl)
  obtain ⟨rfl, N1q, K1⟩ := hQ1
  have N2 := Fr.app N0 N1q
  obtain ⟨_, T3, L3, X3, hQ3, st3⟩ := own_cs X1 hx hZ hown hml (W 8 rfl) (W 9 rfl) (W 3 rfl) (W 10 rfl) (rm2_operation l Z a0 hw o_NEW h0 n0 O0 (S_o_NEW)) K1 (hb hby at_18) 0 #[iv p1, iv p2, iv (2 : Int32), iv (0 : Int32), rv o_REPLACED, .unset, .unset, .unset] [(.int (0 : Int32))] [] pd_11 (by decide) rfl rfl rfl (Nat.le_of_eq rfl)
  obtain ⟨rfl, N3q, K3⟩ := hQ3
  have N4 := Fr.app N2 N3q
  obtain ⟨_, T5, L5, X5, hQ5, st5⟩ := own_cv X3 hx hZ hown hml (W 14 rfl) (W 15 rfl) (notFace_of_selects (W 17 rfl)) (W 17 rfl) (W 16 rfl) (W 6 rfl) (W 18 rfl) (rm17_after l Z a0 hw o_REPLACED o_NEW o_CURRENT o_CURRENT_APPENDED h0 n0 O0 (S_o_CURRENT) ((Fld.ne F_o_REPLACED_ordinal F_o_CURRENT_ordinal (by decide))) (S_o_CURRENT_APPENDED) ((Fld.ne F_o_REPLACED_ordinal F_o_CURRENT_APPENDED_ordinal (by decide)))) K3 (E_o_REPLACED.ext O0.2) (hb hby at_27) 0 #[iv p1, iv p2, iv (2 : Int32), iv (0 : Int32), rv o_REPLACED, rv o_NEW, .unset, .unset] [(.ref o_NEW)] [] pd_30 (by decide) rfl rfl rfl (Nat.le_of_eq rfl)
  obtain ⟨rfl, N5q, K5⟩ := hQ5
  have N6 := Fr.app N4 N5q
  obtain ⟨_, T7, L7, X7, hQ7, st7⟩ := own_cs X5 hx hZ hown hml (W 1 rfl) (W 2 rfl) (W 3 rfl) (W 4 rfl) (rm9_state l Z a0 hw o_REPLACED h0 n0 O0 (S_o_REPLACED)) K5 (hb hby at_60) 1 #[iv p1, iv p2, iv (2 : Int32), iv (0 : Int32), rv o_REPLACED, rv o_NEW, rv o_REPLACED, iv (2 : Int32)] [(.int (2 : Int32))] [(.ref o_REPLACED)] pd_6 (by decide) rfl rfl rfl (Nat.le_of_eq rfl)
  obtain ⟨rfl, N7q, K7⟩ := hQ7
  have N8 := Fr.app N6 N7q
  refine ⟨T7, some (.int (1 : Int32)), _, _, _, X7, by decide, by decide, nofun, ?_, fun fs hr => castTop (ef_31 m p1 p2) ?_⟩
  · exact ⟨rfl, N8⟩
  · show SS p e below s₁ m 0 #[iv p1, iv p2, .unset, .unset, .unset, .unset, .unset, .unset] [] _
    refine XS.iloadN X0.here hx rfl (hb hby at_0) rfl ?_
    show SS p e below s₁ m 1 #[iv p1, iv p2, .unset, .unset, .unset, .unset, .unset, .unset] [(.int p1)] _
    refine X0.ldcInt hx hown (mvT hZ (W 0 rfl)) (g := (mkF m 1 #[iv p1, iv p2, .unset, .unset, .unset, .unset, .unset, .unset] [(.int p1)])) rfl (hb hby at_1) _ ?_
    show SS p e below s₁ m 3 #[iv p1, iv p2, .unset, .unset, .unset, .unset, .unset, .unset] [(.int (2147483647 : Int32)), (.int p1)] _
    refine XS.iand X0.here hx rfl (hb hby at_3) rfl ?_
    show SS p e below s₁ m 4 #[iv p1, iv p2, .unset, .unset, .unset, .unset, .unset, .unset] [(.int (p1 &&& (2147483647 : Int32)))] _
    refine XS.iconst X0.here hx rfl (hb hby at_4) ?_
    show SS p e below s₁ m 5 #[iv p1, iv p2, .unset, .unset, .unset, .unset, .unset, .unset] [(.int (5 : Int32)), (.int (p1 &&& (2147483647 : Int32)))] _
    refine iremM (g := (mkF m 5 #[iv p1, iv p2, .unset, .unset, .unset, .unset, .unset, .unset] [(.int (5 : Int32)), (.int (p1 &&& (2147483647 : Int32)))])) X0 hx rfl (hb hby at_5) rfl (by decide : ¬ ((5 : Int32) = (0 : Int32))) ?_
    rw [hs]
    show SS p e below s₁ m 6 #[iv p1, iv p2, .unset, .unset, .unset, .unset, .unset, .unset] [(.int (2 : Int32))] _
    refine XS.istoreN X0.here hx rfl (hb hby at_6) rfl (l' := #[iv p1, iv p2, iv (2 : Int32), .unset, .unset, .unset, .unset, .unset]) rfl ?_
    show SS p e below s₁ m 7 #[iv p1, iv p2, iv (2 : Int32), .unset, .unset, .unset, .unset, .unset] [] _
    refine XS.iloadN X0.here hx rfl (hb hby at_7) rfl ?_
    refine XS.iconst X0.here hx rfl (hb hby at_8) ?_
    show SS p e below s₁ m 9 #[iv p1, iv p2, iv (2 : Int32), .unset, .unset, .unset, .unset, .unset] [(.int (3 : Int32)), (.int p2)] _
    refine XS.iand X0.here hx rfl (hb hby at_9) rfl ?_
    rw [hf]
    show SS p e below s₁ m 10 #[iv p1, iv p2, iv (2 : Int32), .unset, .unset, .unset, .unset, .unset] [(.int (0 : Int32))] _
    refine XS.istoreN X0.here hx rfl (hb hby at_10) rfl (l' := #[iv p1, iv p2, iv (2 : Int32), iv (0 : Int32), .unset, .unset, .unset, .unset]) rfl ?_
    show SS p e below s₁ m 11 #[iv p1, iv p2, iv (2 : Int32), iv (0 : Int32), .unset, .unset, .unset, .unset] [] _
    refine XS.iloadN X0.here hx rfl (hb hby at_11) rfl ?_
    show SS p e below s₁ m 12 #[iv p1, iv p2, iv (2 : Int32), iv (0 : Int32), .unset, .unset, .unset, .unset] [(.int (2 : Int32))] _
    refine st1 _ ?_
    show SS p e below T1 m 15 #[iv p1, iv p2, iv (2 : Int32), iv (0 : Int32), .unset, .unset, .unset, .unset] [(.ref o_REPLACED)] _
    refine XS.astore X1.here hx rfl (hb hby at_15) rfl rfl (l' := #[iv p1, iv p2, iv (2 : Int32), iv (0 : Int32), rv o_REPLACED, .unset, .unset, .unset]) rfl ?_
    show SS p e below T1 m 17 #[iv p1, iv p2, iv (2 : Int32), iv (0 : Int32), rv o_REPLACED, .unset, .unset, .unset] [] _
    refine XS.iloadN X1.here hx rfl (hb hby at_17) rfl ?_
    show SS p e below T1 m 18 #[iv p1, iv p2, iv (2 : Int32), iv (0 : Int32), rv o_REPLACED, .unset, .unset, .unset] [(.int (0 : Int32))] _
    refine st3 _ ?_
    show SS p e below T3 m 21 #[iv p1, iv p2, iv (2 : Int32), iv (0 : Int32), rv o_REPLACED, .unset, .unset, .unset] [(.ref o_NEW)] _
    refine XS.astore X3.here hx rfl (hb hby at_21) rfl rfl (l' := #[iv p1, iv p2, iv (2 : Int32), iv (0 : Int32), rv o_REPLACED, rv o_NEW, .unset, .unset]) rfl ?_
    show SS p e below T3 m 23 #[iv p1, iv p2, iv (2 : Int32), iv (0 : Int32), rv o_REPLACED, rv o_NEW, .unset, .unset] [] _
    refine XS.aload X3.here hx rfl (hb hby at_23) rfl rfl ?_
    refine XS.aload X3.here hx rfl (hb hby at_25) rfl rfl ?_
    show SS p e below T3 m 27 #[iv p1, iv p2, iv (2 : Int32), iv (0 : Int32), rv o_REPLACED, rv o_NEW, .unset, .unset] [(.ref o_NEW), (.ref o_REPLACED)] _
    refine st5 _ ?_
    show SS p e below T5 m 30 #[iv p1, iv p2, iv (2 : Int32), iv (0 : Int32), rv o_REPLACED, rv o_NEW, .unset, .unset] [(.ref o_REPLACED)] _
    refine XS.astore X5.here hx rfl (hb hby at_30) rfl rfl (l' := #[iv p1, iv p2, iv (2 : Int32), iv (0 : Int32), rv o_REPLACED, rv o_NEW, rv o_REPLACED, .unset]) rfl ?_
    show SS p e below T5 m 32 #[iv p1, iv p2, iv (2 : Int32), iv (0 : Int32), rv o_REPLACED, rv o_NEW, rv o_REPLACED, .unset] [] _
    refine XS.iloadN X5.here hx rfl (hb hby at_32) rfl ?_
    refine XS.iconst X5.here hx rfl (hb hby at_33) ?_
    show SS p e below T5 m 34 #[iv p1, iv p2, iv (2 : Int32), iv (0 : Int32), rv o_REPLACED, rv o_NEW, rv o_REPLACED, .unset] [(.int (2 : Int32)), (.int (2 : Int32))] _
    refine XS.icmpNo X5.here hx rfl (hb hby at_34) rfl (flt (by decide : ¬ ((2 : Int32) < (2 : Int32)))).1 ?_
    show SS p e below T5 m 37 #[iv p1, iv p2, iv (2 : Int32), iv (0 : Int32), rv o_REPLACED, rv o_NEW, rv o_REPLACED, .unset] [] _
    refine XS.iloadN X5.here hx rfl (hb hby at_37) rfl ?_
    show SS p e below T5 m 38 #[iv p1, iv p2, iv (2 : Int32), iv (0 : Int32), rv o_REPLACED, rv o_NEW, rv o_REPLACED, .unset] [(.int (2 : Int32))] _
    refine XS.istore X5.here hx rfl (hb hby at_38) rfl (l' := #[iv p1, iv p2, iv (2 : Int32), iv (0 : Int32), rv o_REPLACED, rv o_NEW, rv o_REPLACED, iv (2 : Int32)]) rfl ?_
    show SS p e below T5 m 40 #[iv p1, iv p2, iv (2 : Int32), iv (0 : Int32), rv o_REPLACED, rv o_NEW, rv o_REPLACED, iv (2 : Int32)] [] _
    refine XS.goto X5.here hx rfl (pc0 := 40) (pc' := 56) rfl (hb hby at_40) (by decide) (by decide) ?_
    refine XS.aload X5.here hx rfl (hb hby at_56) rfl rfl ?_
    refine XS.iload X5.here hx rfl (hb hby at_58) rfl ?_
    show SS p e below T5 m 60 #[iv p1, iv p2, iv (2 : Int32), iv (0 : Int32), rv o_REPLACED, rv o_NEW, rv o_REPLACED, iv (2 : Int32)] [(.int (2 : Int32)), (.ref o_REPLACED)] _
    refine st7 _ ?_
    show SS p e below T7 m 63 #[iv p1, iv p2, iv (2 : Int32), iv (0 : Int32), rv o_REPLACED, rv o_NEW, rv o_REPLACED, iv (2 : Int32)] [(.ref o_REPLACED), (.ref o_REPLACED)] _
    refine Jvm.RoadKit.acmp (g := (mkF m 63 #[iv p1, iv p2, iv (2 : Int32), iv (0 : Int32), rv o_REPLACED, rv o_NEW, rv o_REPLACED, iv (2 : Int32)] [(.ref o_REPLACED), (.ref o_REPLACED)])) X7 hx rfl rfl rfl (pc0 := 63) (pc' := 66) (same := true) rfl (hb hby at_63) rfl (decide_eq_true rfl) (by decide) (by decide) ?_
    show SS p e below T7 m 66 #[iv p1, iv p2, iv (2 : Int32), iv (0 : Int32), rv o_REPLACED, rv o_NEW, rv o_REPLACED, iv (2 : Int32)] [] _
    refine XS.iconst X7.here hx rfl (hb hby at_66) ?_
    refine XS.goto X7.here hx rfl (pc0 := 67) (pc' := 71) rfl (hb hby at_67) (by decide) (by decide) ?_
    show SS p e below T7 m 71 #[iv p1, iv p2, iv (2 : Int32), iv (0 : Int32), rv o_REPLACED, rv o_NEW, rv o_REPLACED, iv (2 : Int32)] [(.int (1 : Int32))] _
    exact retN X7 hx (t := .boolean) hret (by simp) (hb hby at_71) hr
set_option maxRecDepth 65536 in
set_option maxHeartbeats 40000000 in
theorem rm0_2_1 (l : Launch) (Z : State) (a0 : Array Value) (hw : HW Z a0) (ws : List Jvm.Cond) (p1 : Int32) (p2 : Int32) (o_CURRENT : Addr) (o_DELETE : Addr) (o_REPLACE : Addr) (o_NO_LONGER_RELEVANT : Addr) (o_DELETION : Addr) (o_APPEND : Addr) (o_CURRENT_APPENDED : Addr) (o_NEW : Addr) (o_REPLACED : Addr) (h0 : Heap) (n0 : Nat) (O0 : Old Z n0 h0) (S_o_CURRENT : SA6 Z Z.heap (.ref o_CURRENT)) (E_o_CURRENT : EA4 Z Z.heap o_CURRENT) (S_o_DELETE : SA9 Z Z.heap (.ref o_DELETE)) (E_o_DELETE : EA5 Z Z.heap o_DELETE) (S_o_REPLACE : SA8 Z Z.heap (.ref o_REPLACE)) (E_o_REPLACE : EA5 Z Z.heap o_REPLACE) (S_o_NO_LONGER_RELEVANT : SA11 Z Z.heap (.ref o_NO_LONGER_RELEVANT)) (E_o_NO_LONGER_RELEVANT : EA4 Z Z.heap o_NO_LONGER_RELEVANT) (S_o_DELETION : SA12 Z Z.heap (.ref o_DELETION)) (E_o_DELETION : EA4 Z Z.heap o_DELETION) (S_o_APPEND : SA10 Z Z.heap (.ref o_APPEND)) (E_o_APPEND : EA5 Z Z.heap o_APPEND) (S_o_CURRENT_APPENDED : SA13 Z Z.heap (.ref o_CURRENT_APPENDED)) (E_o_CURRENT_APPENDED : EA4 Z Z.heap o_CURRENT_APPENDED) (S_o_NEW : SA7 Z Z.heap (.ref o_NEW)) (E_o_NEW : EA5 Z Z.heap o_NEW) (S_o_REPLACED : SA14 Z Z.heap (.ref o_REPLACED)) (E_o_REPLACED : EA4 Z Z.heap o_REPLACED) (F_o_DELETE_ordinal : FA3 Z Z.heap o_DELETE (.int (3 : Int32))) (F_o_REPLACE_ordinal : FA3 Z Z.heap o_REPLACE (.int (2 : Int32))) (F_o_DELETION_ordinal : FA3 Z Z.heap o_DELETION (.int (4 : Int32))) (F_o_CURRENT_ordinal : FA3 Z Z.heap o_CURRENT (.int (0 : Int32))) (F_o_CURRENT_APPENDED_ordinal : FA3 Z Z.heap o_CURRENT_APPENDED (.int (1 : Int32))) (F_o_NO_LONGER_RELEVANT_ordinal : FA3 Z Z.heap o_NO_LONGER_RELEVANT (.int (3 : Int32))) (F_o_NEW_ordinal : FA3 Z Z.heap o_NEW (.int (0 : Int32))) (F_o_APPEND_ordinal : FA3 Z Z.heap o_APPEND (.int (1 : Int32))) (F_o_REPLACED_ordinal : FA3 Z Z.heap o_REPLACED (.int (2 : Int32))) (hs : ((p1 &&& (2147483647 : Int32)) % (5 : Int32)) = (2 : Int32)) (hf : (p2 &&& (3 : Int32)) = (1 : Int32)) :
    Met l Z ws x code maxLocals ret room_1 #[(.int p1), (.int p2)] h0 (fun v _ L => Q0 n0 v L) := by
  have W := fun (i : Nat) {c : Jvm.Cond} (q : tables_1[i]? = some c) => hw c (List.mem_of_getElem? q)
  refine own_mk (plainFor_of_name pn_5) ?_
  intro p e s m below meth c s₁ hZ hx hby hml hown hnm hret hlk X0 e0
  have N0 := Fr.nil n0
  obtain ⟨_, T1, L1, X1, hQ1, st1⟩ := own_cs X0 hx hZ hown hml (W 1 rfl) (W 2 rfl) (W 3 rfl) (W 4 rfl) (rm9_state l Z a0 hw o_REPLACED h0 n0 O0 (S_o_REPLACED)) e0 (hb hby at_12) 0 #[iv p1, iv p2, iv (2 : Int32), iv (1 : Int32), .unset, .unset, .unset, .unset] [(.int (2 : Int32))] [] pd_6 (by decide) rfl rfl rfl (Nat.le_of_eq rfl)
  obtain ⟨rfl, N1q, K1⟩ := hQ1
  have N2 := Fr.app N0 N1q
  obtain ⟨_, T3, L3, X3, hQ3, st3⟩ := own_cs X1 hx hZ hown hml (W 8 rfl) (W 9 rfl) (W 3 rfl) (W 10 rfl) (rm4_operation l Z a0 hw o_APPEND h0 n0 O0 (S_o_APPEND)) K1 (hb hby at_18) 0 #[iv p1, iv p2, iv (2 : Int32), iv (1 : Int32), rv o_REPLACED, .unset, .unset, .unset] [(.int (1 : Int32))] [] pd_11 (by decide) rfl rfl rfl (Nat.le_of_eq rfl)
  obtain ⟨rfl, N3q, K3⟩ := hQ3
  have N4 := Fr.app N2 N3q
  obtain ⟨_, T5, L5, X5, hQ5, st5⟩ := own_cv X3 hx hZ hown hml (W 14 rfl) (W 15 rfl) (notFace_of_selects (W 17 rfl)) (W 17 rfl) (W 16 rfl) (W 6 rfl) (W 18 rfl) (rm17_after l Z a0 hw o_REPLACED o_APPEND o_CURRENT o_CURRENT_APPENDED h0 n0 O0 (S_o_CURRENT) ((Fld.ne F_o_REPLACED_ordinal F_o_CURRENT_ordinal (by decide))) (S_o_CURRENT_APPENDED) ((Fld.ne F_o_REPLACED_ordinal F_o_CURRENT_APPENDED_ordinal (by decide)))) K3 (E_o_REPLACED.ext O0.2) (hb hby at_27) 0 #[iv p1, iv p2, iv (2 : Int32), iv (1 : Int32), rv o_REPLACED, rv o_APPEND, .unset, .unset] [(.ref o_APPEND)] [] pd_30 (by decide) rfl rfl rfl (Nat.le_of_eq rfl)
  obtain ⟨rfl, N5q, K5⟩ := hQ5
  have N6 := Fr.app N4 N5q
  obtain ⟨_, T7, L7, X7, hQ7, st7⟩ := own_cs X5 hx hZ hown hml (W 1 rfl) (W 2 rfl) (W 3 rfl) (W 4 rfl) (rm9_state l Z a0 hw o_REPLACED h0 n0 O0 (S_o_REPLACED)) K5 (hb hby at_60) 1 #[iv p1, iv p2, iv (2 : Int32), iv (1 : Int32), rv o_REPLACED, rv o_APPEND, rv o_REPLACED, iv (2 : Int32)] [(.int (2 : Int32))] [(.ref o_REPLACED)] pd_6 (by decide) rfl rfl rfl (Nat.le_of_eq rfl)
  obtain ⟨rfl, N7q, K7⟩ := hQ7
  have N8 := Fr.app N6 N7q
  refine ⟨T7, some (.int (1 : Int32)), _, _, _, X7, by decide, by decide, nofun, ?_, fun fs hr => castTop (ef_31 m p1 p2) ?_⟩
  · exact ⟨rfl, N8⟩
  · show SS p e below s₁ m 0 #[iv p1, iv p2, .unset, .unset, .unset, .unset, .unset, .unset] [] _
    refine XS.iloadN X0.here hx rfl (hb hby at_0) rfl ?_
    show SS p e below s₁ m 1 #[iv p1, iv p2, .unset, .unset, .unset, .unset, .unset, .unset] [(.int p1)] _
    refine X0.ldcInt hx hown (mvT hZ (W 0 rfl)) (g := (mkF m 1 #[iv p1, iv p2, .unset, .unset, .unset, .unset, .unset, .unset] [(.int p1)])) rfl (hb hby at_1) _ ?_
    show SS p e below s₁ m 3 #[iv p1, iv p2, .unset, .unset, .unset, .unset, .unset, .unset] [(.int (2147483647 : Int32)), (.int p1)] _
    refine XS.iand X0.here hx rfl (hb hby at_3) rfl ?_
    show SS p e below s₁ m 4 #[iv p1, iv p2, .unset, .unset, .unset, .unset, .unset, .unset] [(.int (p1 &&& (2147483647 : Int32)))] _
    refine XS.iconst X0.here hx rfl (hb hby at_4) ?_
    show SS p e below s₁ m 5 #[iv p1, iv p2, .unset, .unset, .unset, .unset, .unset, .unset] [(.int (5 : Int32)), (.int (p1 &&& (2147483647 : Int32)))] _
    refine iremM (g := (mkF m 5 #[iv p1, iv p2, .unset, .unset, .unset, .unset, .unset, .unset] [(.int (5 : Int32)), (.int (p1 &&& (2147483647 : Int32)))])) X0 hx rfl (hb hby at_5) rfl (by decide : ¬ ((5 : Int32) = (0 : Int32))) ?_
    rw [hs]
    show SS p e below s₁ m 6 #[iv p1, iv p2, .unset, .unset, .unset, .unset, .unset, .unset] [(.int (2 : Int32))] _
    refine XS.istoreN X0.here hx rfl (hb hby at_6) rfl (l' := #[iv p1, iv p2, iv (2 : Int32), .unset, .unset, .unset, .unset, .unset]) rfl ?_
    show SS p e below s₁ m 7 #[iv p1, iv p2, iv (2 : Int32), .unset, .unset, .unset, .unset, .unset] [] _
    refine XS.iloadN X0.here hx rfl (hb hby at_7) rfl ?_
    refine XS.iconst X0.here hx rfl (hb hby at_8) ?_
    show SS p e below s₁ m 9 #[iv p1, iv p2, iv (2 : Int32), .unset, .unset, .unset, .unset, .unset] [(.int (3 : Int32)), (.int p2)] _
    refine XS.iand X0.here hx rfl (hb hby at_9) rfl ?_
    rw [hf]
    show SS p e below s₁ m 10 #[iv p1, iv p2, iv (2 : Int32), .unset, .unset, .unset, .unset, .unset] [(.int (1 : Int32))] _
    refine XS.istoreN X0.here hx rfl (hb hby at_10) rfl (l' := #[iv p1, iv p2, iv (2 : Int32), iv (1 : Int32), .unset, .unset, .unset, .unset]) rfl ?_
    show SS p e below s₁ m 11 #[iv p1, iv p2, iv (2 : Int32), iv (1 : Int32), .unset, .unset, .unset, .unset] [] _
    refine XS.iloadN X0.here hx rfl (hb hby at_11) rfl ?_
    show SS p e below s₁ m 12 #[iv p1, iv p2, iv (2 : Int32), iv (1 : Int32), .unset, .unset, .unset, .unset] [(.int (2 : Int32))] _
    refine st1 _ ?_
    show SS p e below T1 m 15 #[iv p1, iv p2, iv (2 : Int32), iv (1 : Int32), .unset, .unset, .unset, .unset] [(.ref o_REPLACED)] _
    refine XS.astore X1.here hx rfl (hb hby at_15) rfl rfl (l' := #[iv p1, iv p2, iv (2 : Int32), iv (1 : Int32), rv o_REPLACED, .unset, .unset, .unset]) rfl ?_
    show SS p e below T1 m 17 #[iv p1, iv p2, iv (2 : Int32), iv (1 : Int32), rv o_REPLACED, .unset, .unset, .unset] [] _
    refine XS.iloadN X1.here hx rfl (hb hby at_17) rfl ?_
    show SS p e below T1 m 18 #[iv p1, iv p2, iv (2 : Int32), iv (1 : Int32), rv o_REPLACED, .unset, .unset, .unset] [(.int (1 : Int32))] _
    refine st3 _ ?_
    show SS p e below T3 m 21 #[iv p1, iv p2, iv (2 : Int32), iv (1 : Int32), rv o_REPLACED, .unset, .unset, .unset] [(.ref o_APPEND)] _
    refine XS.astore X3.here hx rfl (hb hby at_21) rfl rfl (l' := #[iv p1, iv p2, iv (2 : Int32), iv (1 : Int32), rv o_REPLACED, rv o_APPEND, .unset, .unset]) rfl ?_
    show SS p e below T3 m 23 #[iv p1, iv p2, iv (2 : Int32), iv (1 : Int32), rv o_REPLACED, rv o_APPEND, .unset, .unset] [] _
    refine XS.aload X3.here hx rfl (hb hby at_23) rfl rfl ?_
    refine XS.aload X3.here hx rfl (hb hby at_25) rfl rfl ?_
    show SS p e below T3 m 27 #[iv p1, iv p2, iv (2 : Int32), iv (1 : Int32), rv o_REPLACED, rv o_APPEND, .unset, .unset] [(.ref o_APPEND), (.ref o_REPLACED)] _
    refine st5 _ ?_
    show SS p e below T5 m 30 #[iv p1, iv p2, iv (2 : Int32), iv (1 : Int32), rv o_REPLACED, rv o_APPEND, .unset, .unset] [(.ref o_REPLACED)] _
    refine XS.astore X5.here hx rfl (hb hby at_30) rfl rfl (l' := #[iv p1, iv p2, iv (2 : Int32), iv (1 : Int32), rv o_REPLACED, rv o_APPEND, rv o_REPLACED, .unset]) rfl ?_
    show SS p e below T5 m 32 #[iv p1, iv p2, iv (2 : Int32), iv (1 : Int32), rv o_REPLACED, rv o_APPEND, rv o_REPLACED, .unset] [] _
    refine XS.iloadN X5.here hx rfl (hb hby at_32) rfl ?_
    refine XS.iconst X5.here hx rfl (hb hby at_33) ?_
    show SS p e below T5 m 34 #[iv p1, iv p2, iv (2 : Int32), iv (1 : Int32), rv o_REPLACED, rv o_APPEND, rv o_REPLACED, .unset] [(.int (2 : Int32)), (.int (2 : Int32))] _
    refine XS.icmpNo X5.here hx rfl (hb hby at_34) rfl (flt (by decide : ¬ ((2 : Int32) < (2 : Int32)))).1 ?_
    show SS p e below T5 m 37 #[iv p1, iv p2, iv (2 : Int32), iv (1 : Int32), rv o_REPLACED, rv o_APPEND, rv o_REPLACED, .unset] [] _
    refine XS.iloadN X5.here hx rfl (hb hby at_37) rfl ?_
    show SS p e below T5 m 38 #[iv p1, iv p2, iv (2 : Int32), iv (1 : Int32), rv o_REPLACED, rv o_APPEND, rv o_REPLACED, .unset] [(.int (2 : Int32))] _
    refine XS.istore X5.here hx rfl (hb hby at_38) rfl (l' := #[iv p1, iv p2, iv (2 : Int32), iv (1 : Int32), rv o_REPLACED, rv o_APPEND, rv o_REPLACED, iv (2 : Int32)]) rfl ?_
    show SS p e below T5 m 40 #[iv p1, iv p2, iv (2 : Int32), iv (1 : Int32), rv o_REPLACED, rv o_APPEND, rv o_REPLACED, iv (2 : Int32)] [] _
    refine XS.goto X5.here hx rfl (pc0 := 40) (pc' := 56) rfl (hb hby at_40) (by decide) (by decide) ?_
    refine XS.aload X5.here hx rfl (hb hby at_56) rfl rfl ?_
    refine XS.iload X5.here hx rfl (hb hby at_58) rfl ?_
    show SS p e below T5 m 60 #[iv p1, iv p2, iv (2 : Int32), iv (1 : Int32), rv o_REPLACED, rv o_APPEND, rv o_REPLACED, iv (2 : Int32)] [(.int (2 : Int32)), (.ref o_REPLACED)] _
    refine st7 _ ?_
    show SS p e below T7 m 63 #[iv p1, iv p2, iv (2 : Int32), iv (1 : Int32), rv o_REPLACED, rv o_APPEND, rv o_REPLACED, iv (2 : Int32)] [(.ref o_REPLACED), (.ref o_REPLACED)] _
    refine Jvm.RoadKit.acmp (g := (mkF m 63 #[iv p1, iv p2, iv (2 : Int32), iv (1 : Int32), rv o_REPLACED, rv o_APPEND, rv o_REPLACED, iv (2 : Int32)] [(.ref o_REPLACED), (.ref o_REPLACED)])) X7 hx rfl rfl rfl (pc0 := 63) (pc' := 66) (same := true) rfl (hb hby at_63) rfl (decide_eq_true rfl) (by decide) (by decide) ?_
    show SS p e below T7 m 66 #[iv p1, iv p2, iv (2 : Int32), iv (1 : Int32), rv o_REPLACED, rv o_APPEND, rv o_REPLACED, iv (2 : Int32)] [] _
    refine XS.iconst X7.here hx rfl (hb hby at_66) ?_
    refine XS.goto X7.here hx rfl (pc0 := 67) (pc' := 71) rfl (hb hby at_67) (by decide) (by decide) ?_
    show SS p e below T7 m 71 #[iv p1, iv p2, iv (2 : Int32), iv (1 : Int32), rv o_REPLACED, rv o_APPEND, rv o_REPLACED, iv (2 : Int32)] [(.int (1 : Int32))] _
    exact retN X7 hx (t := .boolean) hret (by simp) (hb hby at_71) hr
set_option maxRecDepth 65536 in
set_option maxHeartbeats 40000000 in
theorem rm0_2_2 (l : Launch) (Z : State) (a0 : Array Value) (hw : HW Z a0) (ws : List Jvm.Cond) (p1 : Int32) (p2 : Int32) (o_CURRENT : Addr) (o_DELETE : Addr) (o_REPLACE : Addr) (o_NO_LONGER_RELEVANT : Addr) (o_DELETION : Addr) (o_APPEND : Addr) (o_CURRENT_APPENDED : Addr) (o_NEW : Addr) (o_REPLACED : Addr) (h0 : Heap) (n0 : Nat) (O0 : Old Z n0 h0) (S_o_CURRENT : SA6 Z Z.heap (.ref o_CURRENT)) (E_o_CURRENT : EA4 Z Z.heap o_CURRENT) (S_o_DELETE : SA9 Z Z.heap (.ref o_DELETE)) (E_o_DELETE : EA5 Z Z.heap o_DELETE) (S_o_REPLACE : SA8 Z Z.heap (.ref o_REPLACE)) (E_o_REPLACE : EA5 Z Z.heap o_REPLACE) (S_o_NO_LONGER_RELEVANT : SA11 Z Z.heap (.ref o_NO_LONGER_RELEVANT)) (E_o_NO_LONGER_RELEVANT : EA4 Z Z.heap o_NO_LONGER_RELEVANT) (S_o_DELETION : SA12 Z Z.heap (.ref o_DELETION)) (E_o_DELETION : EA4 Z Z.heap o_DELETION) (S_o_APPEND : SA10 Z Z.heap (.ref o_APPEND)) (E_o_APPEND : EA5 Z Z.heap o_APPEND) (S_o_CURRENT_APPENDED : SA13 Z Z.heap (.ref o_CURRENT_APPENDED)) (E_o_CURRENT_APPENDED : EA4 Z Z.heap o_CURRENT_APPENDED) (S_o_NEW : SA7 Z Z.heap (.ref o_NEW)) (E_o_NEW : EA5 Z Z.heap o_NEW) (S_o_REPLACED : SA14 Z Z.heap (.ref o_REPLACED)) (E_o_REPLACED : EA4 Z Z.heap o_REPLACED) (F_o_DELETE_ordinal : FA3 Z Z.heap o_DELETE (.int (3 : Int32))) (F_o_REPLACE_ordinal : FA3 Z Z.heap o_REPLACE (.int (2 : Int32))) (F_o_DELETION_ordinal : FA3 Z Z.heap o_DELETION (.int (4 : Int32))) (F_o_CURRENT_ordinal : FA3 Z Z.heap o_CURRENT (.int (0 : Int32))) (F_o_CURRENT_APPENDED_ordinal : FA3 Z Z.heap o_CURRENT_APPENDED (.int (1 : Int32))) (F_o_NO_LONGER_RELEVANT_ordinal : FA3 Z Z.heap o_NO_LONGER_RELEVANT (.int (3 : Int32))) (F_o_NEW_ordinal : FA3 Z Z.heap o_NEW (.int (0 : Int32))) (F_o_APPEND_ordinal : FA3 Z Z.heap o_APPEND (.int (1 : Int32))) (F_o_REPLACED_ordinal : FA3 Z Z.heap o_REPLACED (.int (2 : Int32))) (hs : ((p1 &&& (2147483647 : Int32)) % (5 : Int32)) = (2 : Int32)) (hf : (p2 &&& (3 : Int32)) = (2 : Int32)) :
    Met l Z ws x code maxLocals ret room_1 #[(.int p1), (.int p2)] h0 (fun v _ L => Q0 n0 v L) := by
  have W := fun (i : Nat) {c : Jvm.Cond} (q : tables_1[i]? = some c) => hw c (List.mem_of_getElem? q)
  refine own_mk (plainFor_of_name pn_5) ?_
  intro p e s m below meth c s₁ hZ hx hby hml hown hnm hret hlk X0 e0
  have N0 := Fr.nil n0
  obtain ⟨_, T1, L1, X1, hQ1, st1⟩ := own_cs X0 hx hZ hown hml (W 1 rfl) (W 2 rfl) (W 3 rfl) (W 4 rfl) (rm9_state l Z a0 hw o_REPLACED h0 n0 O0 (S_o_REPLACED)) e0 (hb hby at_12) 0 #[iv p1, iv p2, iv (2 : Int32), iv (2 : Int32), .unset, .unset, .unset, .unset] [(.int (2 : Int32))] [] pd_6 (by decide) rfl rfl rfl (Nat.le_of_eq rfl)
  obtain ⟨rfl, N1q, K1⟩ := hQ1
  have N2 := Fr.app N0 N1q
  obtain ⟨_, T3, L3, X3, hQ3, st3⟩ := own_cs X1 hx hZ hown hml (W 8 rfl) (W 9 rfl) (W 3 rfl) (W 10 rfl) (rm7_operation l Z a0 hw o_REPLACE h0 n0 O0 (S_o_REPLACE)) K1 (hb hby at_18) 0 #[iv p1, iv p2, iv (2 : Int32), iv (2 : Int32), rv o_REPLACED, .unset, .unset, .unset] [(.int (2 : Int32))] [] pd_11 (by decide) rfl rfl rfl (Nat.le_of_eq rfl)
  obtain ⟨rfl, N3q, K3⟩ := hQ3
  have N4 := Fr.app N2 N3q
  obtain ⟨_, T5, L5, X5, hQ5, st5⟩ := own_cv X3 hx hZ hown hml (W 14 rfl) (W 15 rfl) (notFace_of_selects (W 17 rfl)) (W 17 rfl) (W 16 rfl) (W 6 rfl) (W 18 rfl) (rm17_after l Z a0 hw o_REPLACED o_REPLACE o_CURRENT o_CURRENT_APPENDED h0 n0 O0 (S_o_CURRENT) ((Fld.ne F_o_REPLACED_ordinal F_o_CURRENT_ordinal (by decide))) (S_o_CURRENT_APPENDED) ((Fld.ne F_o_REPLACED_ordinal F_o_CURRENT_APPENDED_ordinal (by decide)))) K3 (E_o_REPLACED.ext O0.2) (hb hby at_27) 0 #[iv p1, iv p2, iv (2 : Int32), iv (2 : Int32), rv o_REPLACED, rv o_REPLACE, .unset, .unset] [(.ref o_REPLACE)] [] pd_30 (by decide) rfl rfl rfl (Nat.le_of_eq rfl)
  obtain ⟨rfl, N5q, K5⟩ := hQ5
  have N6 := Fr.app N4 N5q
  obtain ⟨_, T7, L7, X7, hQ7, st7⟩ := own_cs X5 hx hZ hown hml (W 1 rfl) (W 2 rfl) (W 3 rfl) (W 4 rfl) (rm9_state l Z a0 hw o_REPLACED h0 n0 O0 (S_o_REPLACED)) K5 (hb hby at_60) 1 #[iv p1, iv p2, iv (2 : Int32), iv (2 : Int32), rv o_REPLACED, rv o_REPLACE, rv o_REPLACED, iv (2 : Int32)] [(.int (2 : Int32))] [(.ref o_REPLACED)] pd_6 (by decide) rfl rfl rfl (Nat.le_of_eq rfl)
  obtain ⟨rfl, N7q, K7⟩ := hQ7
  have N8 := Fr.app N6 N7q
  refine ⟨T7, some (.int (1 : Int32)), _, _, _, X7, by decide, by decide, nofun, ?_, fun fs hr => castTop (ef_31 m p1 p2) ?_⟩
  · exact ⟨rfl, N8⟩
  · show SS p e below s₁ m 0 #[iv p1, iv p2, .unset, .unset, .unset, .unset, .unset, .unset] [] _
    refine XS.iloadN X0.here hx rfl (hb hby at_0) rfl ?_
    show SS p e below s₁ m 1 #[iv p1, iv p2, .unset, .unset, .unset, .unset, .unset, .unset] [(.int p1)] _
    refine X0.ldcInt hx hown (mvT hZ (W 0 rfl)) (g := (mkF m 1 #[iv p1, iv p2, .unset, .unset, .unset, .unset, .unset, .unset] [(.int p1)])) rfl (hb hby at_1) _ ?_
    show SS p e below s₁ m 3 #[iv p1, iv p2, .unset, .unset, .unset, .unset, .unset, .unset] [(.int (2147483647 : Int32)), (.int p1)] _
    refine XS.iand X0.here hx rfl (hb hby at_3) rfl ?_
    show SS p e below s₁ m 4 #[iv p1, iv p2, .unset, .unset, .unset, .unset, .unset, .unset] [(.int (p1 &&& (2147483647 : Int32)))] _
    refine XS.iconst X0.here hx rfl (hb hby at_4) ?_
    show SS p e below s₁ m 5 #[iv p1, iv p2, .unset, .unset, .unset, .unset, .unset, .unset] [(.int (5 : Int32)), (.int (p1 &&& (2147483647 : Int32)))] _
    refine iremM (g := (mkF m 5 #[iv p1, iv p2, .unset, .unset, .unset, .unset, .unset, .unset] [(.int (5 : Int32)), (.int (p1 &&& (2147483647 : Int32)))])) X0 hx rfl (hb hby at_5) rfl (by decide : ¬ ((5 : Int32) = (0 : Int32))) ?_
    rw [hs]
    show SS p e below s₁ m 6 #[iv p1, iv p2, .unset, .unset, .unset, .unset, .unset, .unset] [(.int (2 : Int32))] _
    refine XS.istoreN X0.here hx rfl (hb hby at_6) rfl (l' := #[iv p1, iv p2, iv (2 : Int32), .unset, .unset, .unset, .unset, .unset]) rfl ?_
    show SS p e below s₁ m 7 #[iv p1, iv p2, iv (2 : Int32), .unset, .unset, .unset, .unset, .unset] [] _
    refine XS.iloadN X0.here hx rfl (hb hby at_7) rfl ?_
    refine XS.iconst X0.here hx rfl (hb hby at_8) ?_
    show SS p e below s₁ m 9 #[iv p1, iv p2, iv (2 : Int32), .unset, .unset, .unset, .unset, .unset] [(.int (3 : Int32)), (.int p2)] _
    refine XS.iand X0.here hx rfl (hb hby at_9) rfl ?_
    rw [hf]
    show SS p e below s₁ m 10 #[iv p1, iv p2, iv (2 : Int32), .unset, .unset, .unset, .unset, .unset] [(.int (2 : Int32))] _
    refine XS.istoreN X0.here hx rfl (hb hby at_10) rfl (l' := #[iv p1, iv p2, iv (2 : Int32), iv (2 : Int32), .unset, .unset, .unset, .unset]) rfl ?_
    show SS p e below s₁ m 11 #[iv p1, iv p2, iv (2 : Int32), iv (2 : Int32), .unset, .unset, .unset, .unset] [] _
    refine XS.iloadN X0.here hx rfl (hb hby at_11) rfl ?_
    show SS p e below s₁ m 12 #[iv p1, iv p2, iv (2 : Int32), iv (2 : Int32), .unset, .unset, .unset, .unset] [(.int (2 : Int32))] _
    refine st1 _ ?_
    show SS p e below T1 m 15 #[iv p1, iv p2, iv (2 : Int32), iv (2 : Int32), .unset, .unset, .unset, .unset] [(.ref o_REPLACED)] _
    refine XS.astore X1.here hx rfl (hb hby at_15) rfl rfl (l' := #[iv p1, iv p2, iv (2 : Int32), iv (2 : Int32), rv o_REPLACED, .unset, .unset, .unset]) rfl ?_
    show SS p e below T1 m 17 #[iv p1, iv p2, iv (2 : Int32), iv (2 : Int32), rv o_REPLACED, .unset, .unset, .unset] [] _
    refine XS.iloadN X1.here hx rfl (hb hby at_17) rfl ?_
    show SS p e below T1 m 18 #[iv p1, iv p2, iv (2 : Int32), iv (2 : Int32), rv o_REPLACED, .unset, .unset, .unset] [(.int (2 : Int32))] _
    refine st3 _ ?_
    show SS p e below T3 m 21 #[iv p1, iv p2, iv (2 : Int32), iv (2 : Int32), rv o_REPLACED, .unset, .unset, .unset] [(.ref o_REPLACE)] _
    refine XS.astore X3.here hx rfl (hb hby at_21) rfl rfl (l' := #[iv p1, iv p2, iv (2 : Int32), iv (2 : Int32), rv o_REPLACED, rv o_REPLACE, .unset, .unset]) rfl ?_
    show SS p e below T3 m 23 #[iv p1, iv p2, iv (2 : Int32), iv (2 : Int32), rv o_REPLACED, rv o_REPLACE, .unset, .unset] [] _
    refine XS.aload X3.here hx rfl (hb hby at_23) rfl rfl ?_
    refine XS.aload X3.here hx rfl (hb hby at_25) rfl rfl ?_
    show SS p e below T3 m 27 #[iv p1, iv p2, iv (2 : Int32), iv (2 : Int32), rv o_REPLACED, rv o_REPLACE, .unset, .unset] [(.ref o_REPLACE), (.ref o_REPLACED)] _
    refine st5 _ ?_
    show SS p e below T5 m 30 #[iv p1, iv p2, iv (2 : Int32), iv (2 : Int32), rv o_REPLACED, rv o_REPLACE, .unset, .unset] [(.ref o_REPLACED)] _
    refine XS.astore X5.here hx rfl (hb hby at_30) rfl rfl (l' := #[iv p1, iv p2, iv (2 : Int32), iv (2 : Int32), rv o_REPLACED, rv o_REPLACE, rv o_REPLACED, .unset]) rfl ?_
    show SS p e below T5 m 32 #[iv p1, iv p2, iv (2 : Int32), iv (2 : Int32), rv o_REPLACED, rv o_REPLACE, rv o_REPLACED, .unset] [] _
    refine XS.iloadN X5.here hx rfl (hb hby at_32) rfl ?_
    refine XS.iconst X5.here hx rfl (hb hby at_33) ?_
    show SS p e below T5 m 34 #[iv p1, iv p2, iv (2 : Int32), iv (2 : Int32), rv o_REPLACED, rv o_REPLACE, rv o_REPLACED, .unset] [(.int (2 : Int32)), (.int (2 : Int32))] _
    refine XS.icmpNo X5.here hx rfl (hb hby at_34) rfl (flt (by decide : ¬ ((2 : Int32) < (2 : Int32)))).1 ?_
    show SS p e below T5 m 37 #[iv p1, iv p2, iv (2 : Int32), iv (2 : Int32), rv o_REPLACED, rv o_REPLACE, rv o_REPLACED, .unset] [] _
    refine XS.iloadN X5.here hx rfl (hb hby at_37) rfl ?_
    show SS p e below T5 m 38 #[iv p1, iv p2, iv (2 : Int32), iv (2 : Int32), rv o_REPLACED, rv o_REPLACE, rv o_REPLACED, .unset] [(.int (2 : Int32))] _
    refine XS.istore X5.here hx rfl (hb hby at_38) rfl (l' := #[iv p1, iv p2, iv (2 : Int32), iv (2 : Int32), rv o_REPLACED, rv o_REPLACE, rv o_REPLACED, iv (2 : Int32)]) rfl ?_
    show SS p e below T5 m 40 #[iv p1, iv p2, iv (2 : Int32), iv (2 : Int32), rv o_REPLACED, rv o_REPLACE, rv o_REPLACED, iv (2 : Int32)] [] _
    refine XS.goto X5.here hx rfl (pc0 := 40) (pc' := 56) rfl (hb hby at_40) (by decide) (by decide) ?_
    refine XS.aload X5.here hx rfl (hb hby at_56) rfl rfl ?_
    refine XS.iload X5.here hx rfl (hb hby at_58) rfl ?_
    show SS p e below T5 m 60 #[iv p1, iv p2, iv (2 : Int32), iv (2 : Int32), rv o_REPLACED, rv o_REPLACE, rv o_REPLACED, iv (2 : Int32)] [(.int (2 : Int32)), (.ref o_REPLACED)] _
    refine st7 _ ?_
    show SS p e below T7 m 63 #[iv p1, iv p2, iv (2 : Int32), iv (2 : Int32), rv o_REPLACED, rv o_REPLACE, rv o_REPLACED, iv (2 : Int32)] [(.ref o_REPLACED), (.ref o_REPLACED)] _
    refine Jvm.RoadKit.acmp (g := (mkF m 63 #[iv p1, iv p2, iv (2 : Int32), iv (2 : Int32), rv o_REPLACED, rv o_REPLACE, rv o_REPLACED, iv (2 : Int32)] [(.ref o_REPLACED), (.ref o_REPLACED)])) X7 hx rfl rfl rfl (pc0 := 63) (pc' := 66) (same := true) rfl (hb hby at_63) rfl (decide_eq_true rfl) (by decide) (by decide) ?_
    show SS p e below T7 m 66 #[iv p1, iv p2, iv (2 : Int32), iv (2 : Int32), rv o_REPLACED, rv o_REPLACE, rv o_REPLACED, iv (2 : Int32)] [] _
    refine XS.iconst X7.here hx rfl (hb hby at_66) ?_
    refine XS.goto X7.here hx rfl (pc0 := 67) (pc' := 71) rfl (hb hby at_67) (by decide) (by decide) ?_
    show SS p e below T7 m 71 #[iv p1, iv p2, iv (2 : Int32), iv (2 : Int32), rv o_REPLACED, rv o_REPLACE, rv o_REPLACED, iv (2 : Int32)] [(.int (1 : Int32))] _
    exact retN X7 hx (t := .boolean) hret (by simp) (hb hby at_71) hr
set_option maxRecDepth 65536 in
set_option maxHeartbeats 40000000 in
theorem rm0_2_3 (l : Launch) (Z : State) (a0 : Array Value) (hw : HW Z a0) (ws : List Jvm.Cond) (p1 : Int32) (p2 : Int32) (o_CURRENT : Addr) (o_DELETE : Addr) (o_REPLACE : Addr) (o_NO_LONGER_RELEVANT : Addr) (o_DELETION : Addr) (o_APPEND : Addr) (o_CURRENT_APPENDED : Addr) (o_NEW : Addr) (o_REPLACED : Addr) (h0 : Heap) (n0 : Nat) (O0 : Old Z n0 h0) (S_o_CURRENT : SA6 Z Z.heap (.ref o_CURRENT)) (E_o_CURRENT : EA4 Z Z.heap o_CURRENT) (S_o_DELETE : SA9 Z Z.heap (.ref o_DELETE)) (E_o_DELETE : EA5 Z Z.heap o_DELETE) (S_o_REPLACE : SA8 Z Z.heap (.ref o_REPLACE)) (E_o_REPLACE : EA5 Z Z.heap o_REPLACE) (S_o_NO_LONGER_RELEVANT : SA11 Z Z.heap (.ref o_NO_LONGER_RELEVANT)) (E_o_NO_LONGER_RELEVANT : EA4 Z Z.heap o_NO_LONGER_RELEVANT) (S_o_DELETION : SA12 Z Z.heap (.ref o_DELETION)) (E_o_DELETION : EA4 Z Z.heap o_DELETION) (S_o_APPEND : SA10 Z Z.heap (.ref o_APPEND)) (E_o_APPEND : EA5 Z Z.heap o_APPEND) (S_o_CURRENT_APPENDED : SA13 Z Z.heap (.ref o_CURRENT_APPENDED)) (E_o_CURRENT_APPENDED : EA4 Z Z.heap o_CURRENT_APPENDED) (S_o_NEW : SA7 Z Z.heap (.ref o_NEW)) (E_o_NEW : EA5 Z Z.heap o_NEW) (S_o_REPLACED : SA14 Z Z.heap (.ref o_REPLACED)) (E_o_REPLACED : EA4 Z Z.heap o_REPLACED) (F_o_DELETE_ordinal : FA3 Z Z.heap o_DELETE (.int (3 : Int32))) (F_o_REPLACE_ordinal : FA3 Z Z.heap o_REPLACE (.int (2 : Int32))) (F_o_DELETION_ordinal : FA3 Z Z.heap o_DELETION (.int (4 : Int32))) (F_o_CURRENT_ordinal : FA3 Z Z.heap o_CURRENT (.int (0 : Int32))) (F_o_CURRENT_APPENDED_ordinal : FA3 Z Z.heap o_CURRENT_APPENDED (.int (1 : Int32))) (F_o_NO_LONGER_RELEVANT_ordinal : FA3 Z Z.heap o_NO_LONGER_RELEVANT (.int (3 : Int32))) (F_o_NEW_ordinal : FA3 Z Z.heap o_NEW (.int (0 : Int32))) (F_o_APPEND_ordinal : FA3 Z Z.heap o_APPEND (.int (1 : Int32))) (F_o_REPLACED_ordinal : FA3 Z Z.heap o_REPLACED (.int (2 : Int32))) (hs : ((p1 &&& (2147483647 : Int32)) % (5 : Int32)) = (2 : Int32)) (hf : (p2 &&& (3 : Int32)) = (3 : Int32)) :
    Met l Z ws x code maxLocals ret room_1 #[(.int p1), (.int p2)] h0 (fun v _ L => Q0 n0 v L) := by
  have W := fun (i : Nat) {c : Jvm.Cond} (q : tables_1[i]? = some c) => hw c (List.mem_of_getElem? q)
  refine own_mk (plainFor_of_name pn_5) ?_
  intro p e s m below meth c s₁ hZ hx hby hml hown hnm hret hlk X0 e0
  have N0 := Fr.nil n0
  obtain ⟨_, T1, L1, X1, hQ1, st1⟩ := own_cs X0 hx hZ hown hml (W 1 rfl) (W 2 rfl) (W 3 rfl) (W 4 rfl) (rm9_state l Z a0 hw o_REPLACED h0 n0 O0 (S_o_REPLACED)) e0 (hb hby at_12) 0 #[iv p1, iv p2, iv (2 : Int32), iv (3 : Int32), .unset, .unset, .unset, .unset] [(.int (2 : Int32))] [] pd_6 (by decide) rfl rfl rfl (Nat.le_of_eq rfl)
  obtain ⟨rfl, N1q, K1⟩ := hQ1
  have N2 := Fr.app N0 N1q
  obtain ⟨_, T3, L3, X3, hQ3, st3⟩ := own_cs X1 hx hZ hown hml (W 8 rfl) (W 9 rfl) (W 3 rfl) (W 10 rfl) (rm10_operation l Z a0 hw o_DELETE h0 n0 O0 (S_o_DELETE)) K1 (hb hby at_18) 0 #[iv p1, iv p2, iv (2 : Int32), iv (3 : Int32), rv o_REPLACED, .unset, .unset, .unset] [(.int (3 : Int32))] [] pd_11 (by decide) rfl rfl rfl (Nat.le_of_eq rfl)
  obtain ⟨rfl, N3q, K3⟩ := hQ3
  have N4 := Fr.app N2 N3q
  obtain ⟨_, T5, L5, X5, hQ5, st5⟩ := own_cv X3 hx hZ hown hml (W 14 rfl) (W 15 rfl) (notFace_of_selects (W 17 rfl)) (W 17 rfl) (W 16 rfl) (W 6 rfl) (W 18 rfl) (rm17_after l Z a0 hw o_REPLACED o_DELETE o_CURRENT o_CURRENT_APPENDED h0 n0 O0 (S_o_CURRENT) ((Fld.ne F_o_REPLACED_ordinal F_o_CURRENT_ordinal (by decide))) (S_o_CURRENT_APPENDED) ((Fld.ne F_o_REPLACED_ordinal F_o_CURRENT_APPENDED_ordinal (by decide)))) K3 (E_o_REPLACED.ext O0.2) (hb hby at_27) 0 #[iv p1, iv p2, iv (2 : Int32), iv (3 : Int32), rv o_REPLACED, rv o_DELETE, .unset, .unset] [(.ref o_DELETE)] [] pd_30 (by decide) rfl rfl rfl (Nat.le_of_eq rfl)
  obtain ⟨rfl, N5q, K5⟩ := hQ5
  have N6 := Fr.app N4 N5q
  obtain ⟨_, T7, L7, X7, hQ7, st7⟩ := own_cs X5 hx hZ hown hml (W 1 rfl) (W 2 rfl) (W 3 rfl) (W 4 rfl) (rm9_state l Z a0 hw o_REPLACED h0 n0 O0 (S_o_REPLACED)) K5 (hb hby at_60) 1 #[iv p1, iv p2, iv (2 : Int32), iv (3 : Int32), rv o_REPLACED, rv o_DELETE, rv o_REPLACED, iv (2 : Int32)] [(.int (2 : Int32))] [(.ref o_REPLACED)] pd_6 (by decide) rfl rfl rfl (Nat.le_of_eq rfl)
  obtain ⟨rfl, N7q, K7⟩ := hQ7
  have N8 := Fr.app N6 N7q
  refine ⟨T7, some (.int (1 : Int32)), _, _, _, X7, by decide, by decide, nofun, ?_, fun fs hr => castTop (ef_31 m p1 p2) ?_⟩
  · exact ⟨rfl, N8⟩
  · show SS p e below s₁ m 0 #[iv p1, iv p2, .unset, .unset, .unset, .unset, .unset, .unset] [] _
    refine XS.iloadN X0.here hx rfl (hb hby at_0) rfl ?_
    show SS p e below s₁ m 1 #[iv p1, iv p2, .unset, .unset, .unset, .unset, .unset, .unset] [(.int p1)] _
    refine X0.ldcInt hx hown (mvT hZ (W 0 rfl)) (g := (mkF m 1 #[iv p1, iv p2, .unset, .unset, .unset, .unset, .unset, .unset] [(.int p1)])) rfl (hb hby at_1) _ ?_
    show SS p e below s₁ m 3 #[iv p1, iv p2, .unset, .unset, .unset, .unset, .unset, .unset] [(.int (2147483647 : Int32)), (.int p1)] _
    refine XS.iand X0.here hx rfl (hb hby at_3) rfl ?_
    show SS p e below s₁ m 4 #[iv p1, iv p2, .unset, .unset, .unset, .unset, .unset, .unset] [(.int (p1 &&& (2147483647 : Int32)))] _
    refine XS.iconst X0.here hx rfl (hb hby at_4) ?_
    show SS p e below s₁ m 5 #[iv p1, iv p2, .unset, .unset, .unset, .unset, .unset, .unset] [(.int (5 : Int32)), (.int (p1 &&& (2147483647 : Int32)))] _
    refine iremM (g := (mkF m 5 #[iv p1, iv p2, .unset, .unset, .unset, .unset, .unset, .unset] [(.int (5 : Int32)), (.int (p1 &&& (2147483647 : Int32)))])) X0 hx rfl (hb hby at_5) rfl (by decide : ¬ ((5 : Int32) = (0 : Int32))) ?_
    rw [hs]
    show SS p e below s₁ m 6 #[iv p1, iv p2, .unset, .unset, .unset, .unset, .unset, .unset] [(.int (2 : Int32))] _
    refine XS.istoreN X0.here hx rfl (hb hby at_6) rfl (l' := #[iv p1, iv p2, iv (2 : Int32), .unset, .unset, .unset, .unset, .unset]) rfl ?_
    show SS p e below s₁ m 7 #[iv p1, iv p2, iv (2 : Int32), .unset, .unset, .unset, .unset, .unset] [] _
    refine XS.iloadN X0.here hx rfl (hb hby at_7) rfl ?_
    refine XS.iconst X0.here hx rfl (hb hby at_8) ?_
    show SS p e below s₁ m 9 #[iv p1, iv p2, iv (2 : Int32), .unset, .unset, .unset, .unset, .unset] [(.int (3 : Int32)), (.int p2)] _
    refine XS.iand X0.here hx rfl (hb hby at_9) rfl ?_
    rw [hf]
    show SS p e below s₁ m 10 #[iv p1, iv p2, iv (2 : Int32), .unset, .unset, .unset, .unset, .unset] [(.int (3 : Int32))] _
    refine XS.istoreN X0.here hx rfl (hb hby at_10) rfl (l' := #[iv p1, iv p2, iv (2 : Int32), iv (3 : Int32), .unset, .unset, .unset, .unset]) rfl ?_
    show SS p e below s₁ m 11 #[iv p1, iv p2, iv (2 : Int32), iv (3 : Int32), .unset, .unset, .unset, .unset] [] _
    refine XS.iloadN X0.here hx rfl (hb hby at_11) rfl ?_
    show SS p e below s₁ m 12 #[iv p1, iv p2, iv (2 : Int32), iv (3 : Int32), .unset, .unset, .unset, .unset] [(.int (2 : Int32))] _
    refine st1 _ ?_
    show SS p e below T1 m 15 #[iv p1, iv p2, iv (2 : Int32), iv (3 : Int32), .unset, .unset, .unset, .unset] [(.ref o_REPLACED)] _
    refine XS.astore X1.here hx rfl (hb hby at_15) rfl rfl (l' := #[iv p1, iv p2, iv (2 : Int32), iv (3 : Int32), rv o_REPLACED, .unset, .unset, .unset]) rfl ?_
    show SS p e below T1 m 17 #[iv p1, iv p2, iv (2 : Int32), iv (3 : Int32), rv o_REPLACED, .unset, .unset, .unset] [] _
    refine XS.iloadN X1.here hx rfl (hb hby at_17) rfl ?_
    show SS p e below T1 m 18 #[iv p1, iv p2, iv (2 : Int32), iv (3 : Int32), rv o_REPLACED, .unset, .unset, .unset] [(.int (3 : Int32))] _
    refine st3 _ ?_
    show SS p e below T3 m 21 #[iv p1, iv p2, iv (2 : Int32), iv (3 : Int32), rv o_REPLACED, .unset, .unset, .unset] [(.ref o_DELETE)] _
    refine XS.astore X3.here hx rfl (hb hby at_21) rfl rfl (l' := #[iv p1, iv p2, iv (2 : Int32), iv (3 : Int32), rv o_REPLACED, rv o_DELETE, .unset, .unset]) rfl ?_
    show SS p e below T3 m 23 #[iv p1, iv p2, iv (2 : Int32), iv (3 : Int32), rv o_REPLACED, rv o_DELETE, .unset, .unset] [] _
    refine XS.aload X3.here hx rfl (hb hby at_23) rfl rfl ?_
    refine XS.aload X3.here hx rfl (hb hby at_25) rfl rfl ?_
    show SS p e below T3 m 27 #[iv p1, iv p2, iv (2 : Int32), iv (3 : Int32), rv o_REPLACED, rv o_DELETE, .unset, .unset] [(.ref o_DELETE), (.ref o_REPLACED)] _
    refine st5 _ ?_
    show SS p e below T5 m 30 #[iv p1, iv p2, iv (2 : Int32), iv (3 : Int32), rv o_REPLACED, rv o_DELETE, .unset, .unset] [(.ref o_REPLACED)] _
    refine XS.astore X5.here hx rfl (hb hby at_30) rfl rfl (l' := #[iv p1, iv p2, iv (2 : Int32), iv (3 : Int32), rv o_REPLACED, rv o_DELETE, rv o_REPLACED, .unset]) rfl ?_
    show SS p e below T5 m 32 #[iv p1, iv p2, iv (2 : Int32), iv (3 : Int32), rv o_REPLACED, rv o_DELETE, rv o_REPLACED, .unset] [] _
    refine XS.iloadN X5.here hx rfl (hb hby at_32) rfl ?_
    refine XS.iconst X5.here hx rfl (hb hby at_33) ?_
    show SS p e below T5 m 34 #[iv p1, iv p2, iv (2 : Int32), iv (3 : Int32), rv o_REPLACED, rv o_DELETE, rv o_REPLACED, .unset] [(.int (2 : Int32)), (.int (2 : Int32))] _
    refine XS.icmpNo X5.here hx rfl (hb hby at_34) rfl (flt (by decide : ¬ ((2 : Int32) < (2 : Int32)))).1 ?_
    show SS p e below T5 m 37 #[iv p1, iv p2, iv (2 : Int32), iv (3 : Int32), rv o_REPLACED, rv o_DELETE, rv o_REPLACED, .unset] [] _
    refine XS.iloadN X5.here hx rfl (hb hby at_37) rfl ?_
    show SS p e below T5 m 38 #[iv p1, iv p2, iv (2 : Int32), iv (3 : Int32), rv o_REPLACED, rv o_DELETE, rv o_REPLACED, .unset] [(.int (2 : Int32))] _
    refine XS.istore X5.here hx rfl (hb hby at_38) rfl (l' := #[iv p1, iv p2, iv (2 : Int32), iv (3 : Int32), rv o_REPLACED, rv o_DELETE, rv o_REPLACED, iv (2 : Int32)]) rfl ?_
    show SS p e below T5 m 40 #[iv p1, iv p2, iv (2 : Int32), iv (3 : Int32), rv o_REPLACED, rv o_DELETE, rv o_REPLACED, iv (2 : Int32)] [] _
    refine XS.goto X5.here hx rfl (pc0 := 40) (pc' := 56) rfl (hb hby at_40) (by decide) (by decide) ?_
    refine XS.aload X5.here hx rfl (hb hby at_56) rfl rfl ?_
    refine XS.iload X5.here hx rfl (hb hby at_58) rfl ?_
    show SS p e below T5 m 60 #[iv p1, iv p2, iv (2 : Int32), iv (3 : Int32), rv o_REPLACED, rv o_DELETE, rv o_REPLACED, iv (2 : Int32)] [(.int (2 : Int32)), (.ref o_REPLACED)] _
    refine st7 _ ?_
    show SS p e below T7 m 63 #[iv p1, iv p2, iv (2 : Int32), iv (3 : Int32), rv o_REPLACED, rv o_DELETE, rv o_REPLACED, iv (2 : Int32)] [(.ref o_REPLACED), (.ref o_REPLACED)] _
    refine Jvm.RoadKit.acmp (g := (mkF m 63 #[iv p1, iv p2, iv (2 : Int32), iv (3 : Int32), rv o_REPLACED, rv o_DELETE, rv o_REPLACED, iv (2 : Int32)] [(.ref o_REPLACED), (.ref o_REPLACED)])) X7 hx rfl rfl rfl (pc0 := 63) (pc' := 66) (same := true) rfl (hb hby at_63) rfl (decide_eq_true rfl) (by decide) (by decide) ?_
    show SS p e below T7 m 66 #[iv p1, iv p2, iv (2 : Int32), iv (3 : Int32), rv o_REPLACED, rv o_DELETE, rv o_REPLACED, iv (2 : Int32)] [] _
    refine XS.iconst X7.here hx rfl (hb hby at_66) ?_
    refine XS.goto X7.here hx rfl (pc0 := 67) (pc' := 71) rfl (hb hby at_67) (by decide) (by decide) ?_
    show SS p e below T7 m 71 #[iv p1, iv p2, iv (2 : Int32), iv (3 : Int32), rv o_REPLACED, rv o_DELETE, rv o_REPLACED, iv (2 : Int32)] [(.int (1 : Int32))] _
    exact retN X7 hx (t := .boolean) hret (by simp) (hb hby at_71) hr
set_option maxRecDepth 65536 in
set_option maxHeartbeats 40000000 in
theorem rm0_3_0 (l : Launch) (Z : State) (a0 : Array Value) (hw : HW Z a0) (ws : List Jvm.Cond) (p1 : Int32) (p2 : Int32) (o_CURRENT : Addr) (o_DELETE : Addr) (o_REPLACE : Addr) (o_NO_LONGER_RELEVANT : Addr) (o_DELETION : Addr) (o_APPEND : Addr) (o_CURRENT_APPENDED : Addr) (o_NEW : Addr) (o_REPLACED : Addr) (h0 : Heap) (n0 : Nat) (O0 : Old Z n0 h0) (S_o_CURRENT : SA6 Z Z.heap (.ref o_CURRENT)) (E_o_CURRENT : EA4 Z Z.heap o_CURRENT) (S_o_DELETE : SA9 Z Z.heap (.ref o_DELETE)) (E_o_DELETE : EA5 Z Z.heap o_DELETE) (S_o_REPLACE : SA8 Z Z.heap (.ref o_REPLACE)) (E_o_REPLACE : EA5 Z Z.heap o_REPLACE) (S_o_NO_LONGER_RELEVANT : SA11 Z Z.heap (.ref o_NO_LONGER_RELEVANT)) (E_o_NO_LONGER_RELEVANT : EA4 Z Z.heap o_NO_LONGER_RELEVANT) (S_o_DELETION : SA12 Z Z.heap (.ref o_DELETION)) (E_o_DELETION : EA4 Z Z.heap o_DELETION) (S_o_APPEND : SA10 Z Z.heap (.ref o_APPEND)) (E_o_APPEND : EA5 Z Z.heap o_APPEND) (S_o_CURRENT_APPENDED : SA13 Z Z.heap (.ref o_CURRENT_APPENDED)) (E_o_CURRENT_APPENDED : EA4 Z Z.heap o_CURRENT_APPENDED) (S_o_NEW : SA7 Z Z.heap (.ref o_NEW)) (E_o_NEW : EA5 Z Z.heap o_NEW) (S_o_REPLACED : SA14 Z Z.heap (.ref o_REPLACED)) (E_o_REPLACED : EA4 Z Z.heap o_REPLACED) (F_o_DELETE_ordinal : FA3 Z Z.heap o_DELETE (.int (3 : Int32))) (F_o_REPLACE_ordinal : FA3 Z Z.heap o_REPLACE (.int (2 : Int32))) (F_o_DELETION_ordinal : FA3 Z Z.heap o_DELETION (.int (4 : Int32))) (F_o_CURRENT_ordinal : FA3 Z Z.heap o_CURRENT (.int (0 : Int32))) (F_o_CURRENT_APPENDED_ordinal : FA3 Z Z.heap o_CURRENT_APPENDED (.int (1 : Int32))) (F_o_NO_LONGER_RELEVANT_ordinal : FA3 Z Z.heap o_NO_LONGER_RELEVANT (.int (3 : Int32))) (F_o_NEW_ordinal : FA3 Z Z.heap o_NEW (.int (0 : Int32))) (F_o_APPEND_ordinal : FA3 Z Z.heap o_APPEND (.int (1 : Int32))) (F_o_REPLACED_ordinal : FA3 Z Z.heap o_REPLACED (.int (2 : Int32))) (hs : ((p1 &&& (2147483647 : Int32)) % (5 : Int32)) = (3 : Int32)) (hf : (p2 &&& (3 : Int32)) = (0 : Int32)) :
    Met l Z ws x code maxLocals ret room_1 #[(.int p1), (.int p2)] h0 (fun v _ L => Q0 n0 v L) := by
  have W := fun (i : Nat) {c : Jvm.Cond} (q : tables_1[i]? = some c) => hw c (List.mem_of_getElem? q)
  refine own_mk (plainFor_of_name pn_5) ?_
  intro p e s m below meth c s₁ hZ hx hby hml hown hnm hret hlk X0 e0
  have N0 := Fr.nil n0
  obtain ⟨_, T1, L1, X1, hQ1, st1⟩ := own_cs X0 hx hZ hown hml (W 1 rfl) (W 2 rfl) (W 3 rfl) (W 4 rfl) (rm12_state l Z a0 hw o_NO_LONGER_RELEVANT h0 n0 O0 (S_o_NO_LONGER_RELEVANT)) e0 (hb hby at_12) 0 #[iv p1, iv p2, iv (3 : Int32), iv (0 : Int32), .unset, .unset, .unset, .unset] [(.int (3 : Int32))] [] pd_6 (by decide) rfl rfl rfl (Nat.le_of_eq rfl)
  obtain ⟨rfl, N1q, K1⟩ := hQ1
  have N2 := Fr.app N0 N1q
  obtain ⟨_, T3, L3, X3, hQ3, st3⟩ := own_cs X1 hx hZ hown hml (W 8 rfl) (W 9 rfl) (W 3 rfl) (W 10 rfl) (rm2_operation l Z a0 hw o_NEW h0 n0 O0 (S_o_NEW)) K1 (hb hby at_18) 0 #[iv p1, iv p2, iv (3 : Int32), iv (0 : Int32), rv o_NO_LONGER_RELEVANT, .unset, .unset, .unset] [(.int (0 : Int32))] [] pd_11 (by decide) rfl rfl rfl (Nat.le_of_eq rfl)
  obtain ⟨rfl, N3q, K3⟩ := hQ3
  have N4 := Fr.app N2 N3q
  obtain ⟨_, T5, L5, X5, hQ5, st5⟩ := own_cv X3 hx hZ hown hml (W 14 rfl) (W 15 rfl) (notFace_of_selects (W 17 rfl)) (W 17 rfl) (W 16 rfl) (W 6 rfl) (W 18 rfl) (rm17_after l Z a0 hw o_NO_LONGER_RELEVANT o_NEW o_CURRENT o_CURRENT_APPENDED h0 n0 O0 (S_o_CURRENT) ((Fld.ne F_o_NO_LONGER_RELEVANT_ordinal F_o_CURRENT_ordinal (by decide))) (S_o_CURRENT_APPENDED) ((Fld.ne F_o_NO_LONGER_RELEVANT_ordinal F_o_CURRENT_APPENDED_ordinal (by decide)))) K3 (E_o_NO_LONGER_RELEVANT.ext O0.2) (hb hby at_27) 0 #[iv p1, iv p2, iv (3 : Int32), iv (0 : Int32), rv o_NO_LONGER_RELEVANT, rv o_NEW, .unset, .unset] [(.ref o_NEW)] [] pd_30 (by decide) rfl rfl rfl (Nat.le_of_eq rfl)
  obtain ⟨rfl, N5q, K5⟩ := hQ5
  have N6 := Fr.app N4 N5q
  obtain ⟨_, T7, L7, X7, hQ7, st7⟩ := own_cs X5 hx hZ hown hml (W 1 rfl) (W 2 rfl) (W 3 rfl) (W 4 rfl) (rm12_state l Z a0 hw o_NO_LONGER_RELEVANT h0 n0 O0 (S_o_NO_LONGER_RELEVANT)) K5 (hb hby at_60) 1 #[iv p1, iv p2, iv (3 : Int32), iv (0 : Int32), rv o_NO_LONGER_RELEVANT, rv o_NEW, rv o_NO_LONGER_RELEVANT, iv (3 : Int32)] [(.int (3 : Int32))] [(.ref o_NO_LONGER_RELEVANT)] pd_6 (by decide) rfl rfl rfl (Nat.le_of_eq rfl)
  obtain ⟨rfl, N7q, K7⟩ := hQ7
  have N8 := Fr.app N6 N7q
  refine ⟨T7, some (.int (1 : Int32)), _, _, _, X7, by decide, by decide, nofun, ?_, fun fs hr => castTop (ef_31 m p1 p2) ?_⟩
  · exact ⟨rfl, N8⟩
  · show SS p e below s₁ m 0 #[iv p1, iv p2, .unset, .unset, .unset, .unset, .unset, .unset] [] _
    refine XS.iloadN X0.here hx rfl (hb hby at_0) rfl ?_
    show SS p e below s₁ m 1 #[iv p1, iv p2, .unset, .unset, .unset, .unset, .unset, .unset] [(.int p1)] _
    refine X0.ldcInt hx hown (mvT hZ (W 0 rfl)) (g := (mkF m 1 #[iv p1, iv p2, .unset, .unset, .unset, .unset, .unset, .unset] [(.int p1)])) rfl (hb hby at_1) _ ?_
    show SS p e below s₁ m 3 #[iv p1, iv p2, .unset, .unset, .unset, .unset, .unset, .unset] [(.int (2147483647 : Int32)), (.int p1)] _
    refine XS.iand X0.here hx rfl (hb hby at_3) rfl ?_
    show SS p e below s₁ m 4 #[iv p1, iv p2, .unset, .unset, .unset, .unset, .unset, .unset] [(.int (p1 &&& (2147483647 : Int32)))] _
    refine XS.iconst X0.here hx rfl (hb hby at_4) ?_
    show SS p e below s₁ m 5 #[iv p1, iv p2, .unset, .unset, .unset, .unset, .unset, .unset] [(.int (5 : Int32)), (.int (p1 &&& (2147483647 : Int32)))] _
    refine iremM (g := (mkF m 5 #[iv p1, iv p2, .unset, .unset, .unset, .unset, .unset, .unset] [(.int (5 : Int32)), (.int (p1 &&& (2147483647 : Int32)))])) X0 hx rfl (hb hby at_5) rfl (by decide : ¬ ((5 : Int32) = (0 : Int32))) ?_
    rw [hs]
    show SS p e below s₁ m 6 #[iv p1, iv p2, .unset, .unset, .unset, .unset, .unset, .unset] [(.int (3 : Int32))] _
    refine XS.istoreN X0.here hx rfl (hb hby at_6) rfl (l' := #[iv p1, iv p2, iv (3 : Int32), .unset, .unset, .unset, .unset, .unset]) rfl ?_
    show SS p e below s₁ m 7 #[iv p1, iv p2, iv (3 : Int32), .unset, .unset, .unset, .unset, .unset] [] _
    refine XS.iloadN X0.here hx rfl (hb hby at_7) rfl ?_
    refine XS.iconst X0.here hx rfl (hb hby at_8) ?_
    show SS p e below s₁ m 9 #[iv p1, iv p2, iv (3 : Int32), .unset, .unset, .unset, .unset, .unset] [(.int (3 : Int32)), (.int p2)] _
    refine XS.iand X0.here hx rfl (hb hby at_9) rfl ?_
    rw [hf]
    show SS p e below s₁ m 10 #[iv p1, iv p2, iv (3 : Int32), .unset, .unset, .unset, .unset, .unset] [(.int (0 : Int32))] _
    refine XS.istoreN X0.here hx rfl (hb hby at_10) rfl (l' := #[iv p1, iv p2, iv (3 : Int32), iv (0 : Int32), .unset, .unset, .unset, .unset]) rfl ?_
    show SS p e below s₁ m 11 #[iv p1, iv p2, iv (3 : Int32), iv (0 : Int32), .unset, .unset, .unset, .unset] [] _
    refine XS.iloadN X0.here hx rfl (hb hby at_11) rfl ?_
    show SS p e below s₁ m 12 #[iv p1, iv p2, iv (3 : Int32), iv (0 : Int32), .unset, .unset, .unset, .unset] [(.int (3 : Int32))] _
    refine st1 _ ?_
    show SS p e below T1 m 15 #[iv p1, iv p2, iv (3 : Int32), iv (0 : Int32), .unset, .unset, .unset, .unset] [(.ref o_NO_LONGER_RELEVANT)] _
    refine XS.astore X1.here hx rfl (hb hby at_15) rfl rfl (l' := #[iv p1, iv p2, iv (3 : Int32), iv (0 : Int32), rv o_NO_LONGER_RELEVANT, .unset, .unset, .unset]) rfl ?_
    show SS p e below T1 m 17 #[iv p1, iv p2, iv (3 : Int32), iv (0 : Int32), rv o_NO_LONGER_RELEVANT, .unset, .unset, .unset] [] _
    refine XS.iloadN X1.here hx rfl (hb hby at_17) rfl ?_
    show SS p e below T1 m 18 #[iv p1, iv p2, iv (3 : Int32), iv (0 : Int32), rv o_NO_LONGER_RELEVANT, .unset, .unset, .unset] [(.int (0 : Int32))] _
    refine st3 _ ?_
    show SS p e below T3 m 21 #[iv p1, iv p2, iv (3 : Int32), iv (0 : Int32), rv o_NO_LONGER_RELEVANT, .unset, .unset, .unset] [(.ref o_NEW)] _
    refine XS.astore X3.here hx rfl (hb hby at_21) rfl rfl (l' := #[iv p1, iv p2, iv (3 : Int32), iv (0 : Int32), rv o_NO_LONGER_RELEVANT, rv o_NEW, .unset, .unset]) rfl ?_
    show SS p e below T3 m 23 #[iv p1, iv p2, iv (3 : Int32), iv (0 : Int32), rv o_NO_LONGER_RELEVANT, rv o_NEW, .unset, .unset] [] _
    refine XS.aload X3.here hx rfl (hb hby at_23) rfl rfl ?_
    refine XS.aload X3.here hx rfl (hb hby at_25) rfl rfl ?_
    show SS p e below T3 m 27 #[iv p1, iv p2, iv (3 : Int32), iv (0 : Int32), rv o_NO_LONGER_RELEVANT, rv o_NEW, .unset, .unset] [(.ref o_NEW), (.ref o_NO_LONGER_RELEVANT)] _
    refine st5 _ ?_
    show SS p e below T5 m 30 #[iv p1, iv p2, iv (3 : Int32), iv (0 : Int32), rv o_NO_LONGER_RELEVANT, rv o_NEW, .unset, .unset] [(.ref o_NO_LONGER_RELEVANT)] _
    refine XS.astore X5.here hx rfl (hb hby at_30) rfl rfl (l' := #[iv p1, iv p2, iv (3 : Int32), iv (0 : Int32), rv o_NO_LONGER_RELEVANT, rv o_NEW, rv o_NO_LONGER_RELEVANT, .unset]) rfl ?_
    show SS p e below T5 m 32 #[iv p1, iv p2, iv (3 : Int32), iv (0 : Int32), rv o_NO_LONGER_RELEVANT, rv o_NEW, rv o_NO_LONGER_RELEVANT, .unset] [] _
    refine XS.iloadN X5.here hx rfl (hb hby at_32) rfl ?_
    refine XS.iconst X5.here hx rfl (hb hby at_33) ?_
    show SS p e below T5 m 34 #[iv p1, iv p2, iv (3 : Int32), iv (0 : Int32), rv o_NO_LONGER_RELEVANT, rv o_NEW, rv o_NO_LONGER_RELEVANT, .unset] [(.int (2 : Int32)), (.int (3 : Int32))] _
    refine XS.icmpNo X5.here hx rfl (hb hby at_34) rfl (flt (by decide : ¬ ((3 : Int32) < (2 : Int32)))).1 ?_
    show SS p e below T5 m 37 #[iv p1, iv p2, iv (3 : Int32), iv (0 : Int32), rv o_NO_LONGER_RELEVANT, rv o_NEW, rv o_NO_LONGER_RELEVANT, .unset] [] _
    refine XS.iloadN X5.here hx rfl (hb hby at_37) rfl ?_
    show SS p e below T5 m 38 #[iv p1, iv p2, iv (3 : Int32), iv (0 : Int32), rv o_NO_LONGER_RELEVANT, rv o_NEW, rv o_NO_LONGER_RELEVANT, .unset] [(.int (3 : Int32))] _
    refine XS.istore X5.here hx rfl (hb hby at_38) rfl (l' := #[iv p1, iv p2, iv (3 : Int32), iv (0 : Int32), rv o_NO_LONGER_RELEVANT, rv o_NEW, rv o_NO_LONGER_RELEVANT, iv (3 : Int32)]) rfl ?_
    show SS p e below T5 m 40 #[iv p1, iv p2, iv (3 : Int32), iv (0 : Int32), rv o_NO_LONGER_RELEVANT, rv o_NEW, rv o_NO_LONGER_RELEVANT, iv (3 : Int32)] [] _
    refine XS.goto X5.here hx rfl (pc0 := 40) (pc' := 56) rfl (hb hby at_40) (by decide) (by decide) ?_
    refine XS.aload X5.here hx rfl (hb hby at_56) rfl rfl ?_
    refine XS.iload X5.here hx rfl (hb hby at_58) rfl ?_
    show SS p e below T5 m 60 #[iv p1, iv p2, iv (3 : Int32), iv (0 : Int32), rv o_NO_LONGER_RELEVANT, rv o_NEW, rv o_NO_LONGER_RELEVANT, iv (3 : Int32)] [(.int (3 : Int32)), (.ref o_NO_LONGER_RELEVANT)] _
    refine st7 _ ?_
    show SS p e below T7 m 63 #[iv p1, iv p2, iv (3 : Int32), iv (0 : Int32), rv o_NO_LONGER_RELEVANT, rv o_NEW, rv o_NO_LONGER_RELEVANT, iv (3 : Int32)] [(.ref o_NO_LONGER_RELEVANT), (.ref o_NO_LONGER_RELEVANT)] _
    refine Jvm.RoadKit.acmp (g := (mkF m 63 #[iv p1, iv p2, iv (3 : Int32), iv (0 : Int32), rv o_NO_LONGER_RELEVANT, rv o_NEW, rv o_NO_LONGER_RELEVANT, iv (3 : Int32)] [(.ref o_NO_LONGER_RELEVANT), (.ref o_NO_LONGER_RELEVANT)])) X7 hx rfl rfl rfl (pc0 := 63) (pc' := 66) (same := true) rfl (hb hby at_63) rfl (decide_eq_true rfl) (by decide) (by decide) ?_
    show SS p e below T7 m 66 #[iv p1, iv p2, iv (3 : Int32), iv (0 : Int32), rv o_NO_LONGER_RELEVANT, rv o_NEW, rv o_NO_LONGER_RELEVANT, iv (3 : Int32)] [] _
    refine XS.iconst X7.here hx rfl (hb hby at_66) ?_
    refine XS.goto X7.here hx rfl (pc0 := 67) (pc' := 71) rfl (hb hby at_67) (by decide) (by decide) ?_
    show SS p e below T7 m 71 #[iv p1, iv p2, iv (3 : Int32), iv (0 : Int32), rv o_NO_LONGER_RELEVANT, rv o_NEW, rv o_NO_LONGER_RELEVANT, iv (3 : Int32)] [(.int (1 : Int32))] _
    exact retN X7 hx (t := .boolean) hret (by simp) (hb hby at_71) hr
set_option maxRecDepth 65536 in
set_option maxHeartbeats 40000000 in
theorem rm0_3_1 (l : Launch) (Z : State) (a0 : Array Value) (hw : HW Z a0) (ws : List Jvm.Cond) (p1 : Int32) (p2 : Int32) (o_CURRENT : Addr) (o_DELETE : Addr) (o_REPLACE : Addr) (o_NO_LONGER_RELEVANT : Addr) (o_DELETION : Addr) (o_APPEND : Addr) (o_CURRENT_APPENDED : Addr) (o_NEW : Addr) (o_REPLACED : Addr) (h0 : Heap) (n0 : Nat) (O0 : Old Z n0 h0) (S_o_CURRENT : SA6 Z Z.heap (.ref o_CURRENT)) (E_o_CURRENT : EA4 Z Z.heap o_CURRENT) (S_o_DELETE : SA9 Z Z.heap (.ref o_DELETE)) (E_o_DELETE : EA5 Z Z.heap o_DELETE) (S_o_REPLACE : SA8 Z Z.heap (.ref o_REPLACE)) (E_o_REPLACE : EA5 Z Z.heap o_REPLACE) (S_o_NO_LONGER_RELEVANT : SA11 Z Z.heap (.ref o_NO_LONGER_RELEVANT)) (E_o_NO_LONGER_RELEVANT : EA4 Z Z.heap o_NO_LONGER_RELEVANT) (S_o_DELETION : SA12 Z Z.heap (.ref o_DELETION)) (E_o_DELETION : EA4 Z Z.heap o_DELETION) (S_o_APPEND : SA10 Z Z.heap (.ref o_APPEND)) (E_o_APPEND : EA5 Z Z.heap o_APPEND) (S_o_CURRENT_APPENDED : SA13 Z Z.heap (.ref o_CURRENT_APPENDED)) (E_o_CURRENT_APPENDED : EA4 Z Z.heap o_CURRENT_APPENDED) (S_o_NEW : SA7 Z Z.heap (.ref o_NEW)) (E_o_NEW : EA5 Z Z.heap o_NEW) (S_o_REPLACED : SA14 Z Z.heap (.ref o_REPLACED)) (E_o_REPLACED : EA4 Z Z.heap o_REPLACED) (F_o_DELETE_ordinal : FA3 Z Z.heap o_DELETE (.int (3 : Int32))) (F_o_REPLACE_ordinal : FA3 Z Z.heap o_REPLACE (.int (2 : Int32))) (F_o_DELETION_ordinal : FA3 Z Z.heap o_DELETION (.int (4 : Int32))) (F_o_CURRENT_ordinal : FA3 Z Z.heap o_CURRENT (.int (0 : Int32))) (F_o_CURRENT_APPENDED_ordinal : FA3 Z Z.heap o_CURRENT_APPENDED (.int (1 : Int32))) (F_o_NO_LONGER_RELEVANT_ordinal : FA3 Z Z.heap o_NO_LONGER_RELEVANT (.int (3 : Int32))) (F_o_NEW_ordinal : FA3 Z Z.heap o_NEW (.int (0 : Int32))) (F_o_APPEND_ordinal : FA3 Z Z.heap o_APPEND (.int (1 : Int32))) (F_o_REPLACED_ordinal : FA3 Z Z.heap o_REPLACED (.int (2 : Int32))) (hs : ((p1 &&& (2147483647 : Int32)) % (5 : Int32)) = (3 : Int32)) (hf : (p2 &&& (3 : Int32)) = (1 : Int32)) :
    Met l Z ws x code maxLocals ret room_1 #[(.int p1), (.int p2)] h0 (fun v _ L => Q0 n0 v L) := by
  have W := fun (i : Nat) {c : Jvm.Cond} (q : tables_1[i]? = some c) => hw c (List.mem_of_getElem? q)
  refine own_mk (plainFor_of_name pn_5) ?_
  intro p e s m below meth c s₁ hZ hx hby hml hown hnm hret hlk X0 e0
  have N0 := Fr.nil n0
  obtain ⟨_, T1, L1, X1, hQ1, st1⟩ := own_cs X0 hx hZ hown hml (W 1 rfl) (W 2 rfl) (W 3 rfl) (W 4 rfl) (rm12_state l Z a0 hw o_NO_LONGER_RELEVANT h0 n0 O0 (S_o_NO_LONGER_RELEVANT)) e0 (hb hby at_12) 0 #[iv p1, iv p2, iv (3 : Int32), iv (1 : Int32), .unset, .unset, .unset, .unset] [(.int (3 : Int32))] [] pd_6 (by decide) rfl rfl rfl (Nat.le_of_eq rfl)
  obtain ⟨rfl, N1q, K1⟩ := hQ1
  have N2 := Fr.app N0 N1q
  obtain ⟨_, T3, L3, X3, hQ3, st3⟩ := own_cs X1 hx hZ hown hml (W 8 rfl) (W 9 rfl) (W 3 rfl) (W 10 rfl) (rm4_operation l Z a0 hw o_APPEND h0 n0 O0 (S_o_APPEND)) K1 (hb hby at_18) 0 #[iv p1, iv p2, iv (3 : Int32), iv (1 : Int32), rv o_NO_LONGER_RELEVANT, .unset, .unset, .unset] [(.int (1 : Int32))] [] pd_11 (by decide) rfl rfl rfl (Nat.le_of_eq rfl)
  obtain ⟨rfl, N3q, K3⟩ := hQ3
  have N4 := Fr.app N2 N3q
  obtain ⟨_, T5, L5, X5, hQ5, st5⟩ := own_cv X3 hx hZ hown hml (W 14 rfl) (W 15 rfl) (notFace_of_selects (W 17 rfl)) (W 17 rfl) (W 16 rfl) (W 6 rfl) (W 18 rfl) (rm17_after l Z a0 hw o_NO_LONGER_RELEVANT o_APPEND o_CURRENT o_CURRENT_APPENDED h0 n0 O0 (S_o_CURRENT) ((Fld.ne F_o_NO_LONGER_RELEVANT_ordinal F_o_CURRENT_ordinal (by decide))) (S_o_CURRENT_APPENDED) ((Fld.ne F_o_NO_LONGER_RELEVANT_ordinal F_o_CURRENT_APPENDED_ordinal (by decide)))) K3 (E_o_NO_LONGER_RELEVANT.ext O0.2) (hb hby at_27) 0 #[iv p1, iv p2, iv (3 : Int32), iv (1 : Int32), rv o_NO_LONGER_RELEVANT, rv o_APPEND, .unset, .unset] [(.ref o_APPEND)] [] pd_30 (by decide) rfl rfl rfl (Nat.le_of_eq rfl)
  obtain ⟨rfl, N5q, K5⟩ := hQ5
  have N6 := Fr.app N4 N5q
  obtain ⟨_, T7, L7, X7, hQ7, st7⟩ := own_cs X5 hx hZ hown hml (W 1 rfl) (W 2 rfl) (W 3 rfl) (W 4 rfl) (rm12_state l Z a0 hw o_NO_LONGER_RELEVANT h0 n0 O0 (S_o_NO_LONGER_RELEVANT)) K5 (hb hby at_60) 1 #[iv p1, iv p2, iv (3 : Int32), iv (1 : Int32), rv o_NO_LONGER_RELEVANT, rv o_APPEND, rv o_NO_LONGER_RELEVANT, iv (3 : Int32)] [(.int (3 : Int32))] [(.ref o_NO_LONGER_RELEVANT)] pd_6 (by decide) rfl rfl rfl (Nat.le_of_eq rfl)
  obtain ⟨rfl, N7q, K7⟩ := hQ7
  have N8 := Fr.app N6 N7q
  refine ⟨T7, some (.int (1 : Int32)), _, _, _, X7, by decide, by decide, nofun, ?_, fun fs hr => castTop (ef_31 m p1 p2) ?_⟩
  · exact ⟨rfl, N8⟩
  · show SS p e below s₁ m 0 #[iv p1, iv p2, .unset, .unset, .unset, .unset, .unset, .unset] [] _
    refine XS.iloadN X0.here hx rfl (hb hby at_0) rfl ?_
    show SS p e below s₁ m 1 #[iv p1, iv p2, .unset, .unset, .unset, .unset, .unset, .unset] [(.int p1)] _
    refine X0.ldcInt hx hown (mvT hZ (W 0 rfl)) (g := (mkF m 1 #[iv p1, iv p2, .unset, .unset, .unset, .unset, .unset, .unset] [(.int p1)])) rfl (hb hby at_1) _ ?_
    show SS p e below s₁ m 3 #[iv p1, iv p2, .unset, .unset, .unset, .unset, .unset, .unset] [(.int (2147483647 : Int32)), (.int p1)] _
    refine XS.iand X0.here hx rfl (hb hby at_3) rfl ?_
    show SS p e below s₁ m 4 #[iv p1, iv p2, .unset, .unset, .unset, .unset, .unset, .unset] [(.int (p1 &&& (2147483647 : Int32)))] _
    refine XS.iconst X0.here hx rfl (hb hby at_4) ?_
    show SS p e below s₁ m 5 #[iv p1, iv p2, .unset, .unset, .unset, .unset, .unset, .unset] [(.int (5 : Int32)), (.int (p1 &&& (2147483647 : Int32)))] _
    refine iremM (g := (mkF m 5 #[iv p1, iv p2, .unset, .unset, .unset, .unset, .unset, .unset] [(.int (5 : Int32)), (.int (p1 &&& (2147483647 : Int32)))])) X0 hx rfl (hb hby at_5) rfl (by decide : ¬ ((5 : Int32) = (0 : Int32))) ?_
    rw [hs]
    show SS p e below s₁ m 6 #[iv p1, iv p2, .unset, .unset, .unset, .unset, .unset, .unset] [(.int (3 : Int32))] _
    refine XS.istoreN X0.here hx rfl (hb hby at_6) rfl (l' := #[iv p1, iv p2, iv (3 : Int32), .unset, .unset, .unset, .unset, .unset]) rfl ?_
    show SS p e below s₁ m 7 #[iv p1, iv p2, iv (3 : Int32), .unset, .unset, .unset, .unset, .unset] [] _
    refine XS.iloadN X0.here hx rfl (hb hby at_7) rfl ?_
    refine XS.iconst X0.here hx rfl (hb hby at_8) ?_
    show SS p e below s₁ m 9 #[iv p1, iv p2, iv (3 : Int32), .unset, .unset, .unset, .unset, .unset] [(.int (3 : Int32)), (.int p2)] _
    refine XS.iand X0.here hx rfl (hb hby at_9) rfl ?_
    rw [hf]
    show SS p e below s₁ m 10 #[iv p1, iv p2, iv (3 : Int32), .unset, .unset, .unset, .unset, .unset] [(.int (1 : Int32))] _
    refine XS.istoreN X0.here hx rfl (hb hby at_10) rfl (l' := #[iv p1, iv p2, iv (3 : Int32), iv (1 : Int32), .unset, .unset, .unset, .unset]) rfl ?_
    show SS p e below s₁ m 11 #[iv p1, iv p2, iv (3 : Int32), iv (1 : Int32), .unset, .unset, .unset, .unset] [] _
    refine XS.iloadN X0.here hx rfl (hb hby at_11) rfl ?_
    show SS p e below s₁ m 12 #[iv p1, iv p2, iv (3 : Int32), iv (1 : Int32), .unset, .unset, .unset, .unset] [(.int (3 : Int32))] _
    refine st1 _ ?_
    show SS p e below T1 m 15 #[iv p1, iv p2, iv (3 : Int32), iv (1 : Int32), .unset, .unset, .unset, .unset] [(.ref o_NO_LONGER_RELEVANT)] _
    refine XS.astore X1.here hx rfl (hb hby at_15) rfl rfl (l' := #[iv p1, iv p2, iv (3 : Int32), iv (1 : Int32), rv o_NO_LONGER_RELEVANT, .unset, .unset, .unset]) rfl ?_
    show SS p e below T1 m 17 #[iv p1, iv p2, iv (3 : Int32), iv (1 : Int32), rv o_NO_LONGER_RELEVANT, .unset, .unset, .unset] [] _
    refine XS.iloadN X1.here hx rfl (hb hby at_17) rfl ?_
    show SS p e below T1 m 18 #[iv p1, iv p2, iv (3 : Int32), iv (1 : Int32), rv o_NO_LONGER_RELEVANT, .unset, .unset, .unset] [(.int (1 : Int32))] _
    refine st3 _ ?_
    show SS p e below T3 m 21 #[iv p1, iv p2, iv (3 : Int32), iv (1 : Int32), rv o_NO_LONGER_RELEVANT, .unset, .unset, .unset] [(.ref o_APPEND)] _
    refine XS.astore X3.here hx rfl (hb hby at_21) rfl rfl (l' := #[iv p1, iv p2, iv (3 : Int32), iv (1 : Int32), rv o_NO_LONGER_RELEVANT, rv o_APPEND, .unset, .unset]) rfl ?_
    show SS p e below T3 m 23 #[iv p1, iv p2, iv (3 : Int32), iv (1 : Int32), rv o_NO_LONGER_RELEVANT, rv o_APPEND, .unset, .unset] [] _
    refine XS.aload X3.here hx rfl (hb hby at_23) rfl rfl ?_
    refine XS.aload X3.here hx rfl (hb hby at_25) rfl rfl ?_
    show SS p e below T3 m 27 #[iv p1, iv p2, iv (3 : Int32), iv (1 : Int32), rv o_NO_LONGER_RELEVANT, rv o_APPEND, .unset, .unset] [(.ref o_APPEND), (.ref o_NO_LONGER_RELEVANT)] _
    refine st5 _ ?_
    show SS p e below T5 m 30 #[iv p1, iv p2, iv (3 : Int32), iv (1 : Int32), rv o_NO_LONGER_RELEVANT, rv o_APPEND, .unset, .unset] [(.ref o_NO_LONGER_RELEVANT)] _
    refine XS.astore X5.here hx rfl (hb hby at_30) rfl rfl (l' := #[iv p1, iv p2, iv (3 : Int32), iv (1 : Int32), rv o_NO_LONGER_RELEVANT, rv o_APPEND, rv o_NO_LONGER_RELEVANT, .unset]) rfl ?_
    show SS p e below T5 m 32 #[iv p1, iv p2, iv (3 : Int32), iv (1 : Int32), rv o_NO_LONGER_RELEVANT, rv o_APPEND, rv o_NO_LONGER_RELEVANT, .unset] [] _
    refine XS.iloadN X5.here hx rfl (hb hby at_32) rfl ?_
    refine XS.iconst X5.here hx rfl (hb hby at_33) ?_
    show SS p e below T5 m 34 #[iv p1, iv p2, iv (3 : Int32), iv (1 : Int32), rv o_NO_LONGER_RELEVANT, rv o_APPEND, rv o_NO_LONGER_RELEVANT, .unset] [(.int (2 : Int32)), (.int (3 : Int32))] _
    refine XS.icmpNo X5.here hx rfl (hb hby at_34) rfl (flt (by decide : ¬ ((3 : Int32) < (2 : Int32)))).1 ?_
    show SS p e below T5 m 37 #[iv p1, iv p2, iv (3 : Int32), iv (1 : Int32), rv o_NO_LONGER_RELEVANT, rv o_APPEND, rv o_NO_LONGER_RELEVANT, .unset] [] _
    refine XS.iloadN X5.here hx rfl (hb hby at_37) rfl ?_
    show SS p e below T5 m 38 #[iv p1, iv p2, iv (3 : Int32), iv (1 : Int32), rv o_NO_LONGER_RELEVANT, rv o_APPEND, rv o_NO_LONGER_RELEVANT, .unset] [(.int (3 : Int32))] _
    refine XS.istore X5.here hx rfl (hb hby at_38) rfl (l' := #[iv p1, iv p2, iv (3 : Int32), iv (1 : Int32), rv o_NO_LONGER_RELEVANT, rv o_APPEND, rv o_NO_LONGER_RELEVANT, iv (3 : Int32)]) rfl ?_
    show SS p e below T5 m 40 #[iv p1, iv p2, iv (3 : Int32), iv (1 : Int32), rv o_NO_LONGER_RELEVANT, rv o_APPEND, rv o_NO_LONGER_RELEVANT, iv (3 : Int32)] [] _
    refine XS.goto X5.here hx rfl (pc0 := 40) (pc' := 56) rfl (hb hby at_40) (by decide) (by decide) ?_
    refine XS.aload X5.here hx rfl (hb hby at_56) rfl rfl ?_
    refine XS.iload X5.here hx rfl (hb hby at_58) rfl ?_
    show SS p e below T5 m 60 #[iv p1, iv p2, iv (3 : Int32), iv (1 : Int32), rv o_NO_LONGER_RELEVANT, rv o_APPEND, rv o_NO_LONGER_RELEVANT, iv (3 : Int32)] [(.int (3 : Int32)), (.ref o_NO_LONGER_RELEVANT)] _
    refine st7 _ ?_
    show SS p e below T7 m 63 #[iv p1, iv p2, iv (3 : Int32), iv (1 : Int32), rv o_NO_LONGER_RELEVANT, rv o_APPEND, rv o_NO_LONGER_RELEVANT, iv (3 : Int32)] [(.ref o_NO_LONGER_RELEVANT), (.ref o_NO_LONGER_RELEVANT)] _
    refine Jvm.RoadKit.acmp (g := (mkF m 63 #[iv p1, iv p2, iv (3 : Int32), iv (1 : Int32), rv o_NO_LONGER_RELEVANT, rv o_APPEND, rv o_NO_LONGER_RELEVANT, iv (3 : Int32)] [(.ref o_NO_LONGER_RELEVANT), (.ref o_NO_LONGER_RELEVANT)])) X7 hx rfl rfl rfl (pc0 := 63) (pc' := 66) (same := true) rfl (hb hby at_63) rfl (decide_eq_true rfl) (by decide) (by decide) ?_
    show SS p e below T7 m 66 #[iv p1, iv p2, iv (3 : Int32), iv (1 : Int32), rv o_NO_LONGER_RELEVANT, rv o_APPEND, rv o_NO_LONGER_RELEVANT, iv (3 : Int32)] [] _
    refine XS.iconst X7.here hx rfl (hb hby at_66) ?_
    refine XS.goto X7.here hx rfl (pc0 := 67) (pc' := 71) rfl (hb hby at_67) (by decide) (by decide) ?_
    show SS p e below T7 m 71 #[iv p1, iv p2, iv (3 : Int32), iv (1 : Int32), rv o_NO_LONGER_RELEVANT, rv o_APPEND, rv o_NO_LONGER_RELEVANT, iv (3 : Int32)] [(.int (1 : Int32))] _
    exact retN X7 hx (t := .boolean) hret (by simp) (hb hby at_71) hr
set_option maxRecDepth 65536 in
set_option maxHeartbeats 40000000 in
theorem rm0_3_2 (l : Launch) (Z : State) (a0 : Array Value) (hw : HW Z a0) (ws : List Jvm.Cond) (p1 : Int32) (p2 : Int32) (o_CURRENT : Addr) (o_DELETE : Addr) (o_REPLACE : Addr) (o_NO_LONGER_RELEVANT : Addr) (o_DELETION : Addr) (o_APPEND : Addr) (o_CURRENT_APPENDED : Addr) (o_NEW : Addr) (o_REPLACED : Addr) (h0 : Heap) (n0 : Nat) (O0 : Old Z n0 h0) (S_o_CURRENT : SA6 Z Z.heap (.ref o_CURRENT)) (E_o_CURRENT : EA4 Z Z.heap o_CURRENT) (S_o_DELETE : SA9 Z Z.heap (.ref o_DELETE)) (E_o_DELETE : EA5 Z Z.heap o_DELETE) (S_o_REPLACE : SA8 Z Z.heap (.ref o_REPLACE)) (E_o_REPLACE : EA5 Z Z.heap o_REPLACE) (S_o_NO_LONGER_RELEVANT : SA11 Z Z.heap (.ref o_NO_LONGER_RELEVANT)) (E_o_NO_LONGER_RELEVANT : EA4 Z Z.heap o_NO_LONGER_RELEVANT) (S_o_DELETION : SA12 Z Z.heap (.ref o_DELETION)) (E_o_DELETION : EA4 Z Z.heap o_DELETION) (S_o_APPEND : SA10 Z Z.heap (.ref o_APPEND)) (E_o_APPEND : EA5 Z Z.heap o_APPEND) (S_o_CURRENT_APPENDED : SA13 Z Z.heap (.ref o_CURRENT_APPENDED)) (E_o_CURRENT_APPENDED : EA4 Z Z.heap o_CURRENT_APPENDED) (S_o_NEW : SA7 Z Z.heap (.ref o_NEW)) (E_o_NEW : EA5 Z Z.heap o_NEW) (S_o_REPLACED : SA14 Z Z.heap (.ref o_REPLACED)) (E_o_REPLACED : EA4 Z Z.heap o_REPLACED) (F_o_DELETE_ordinal : FA3 Z Z.heap o_DELETE (.int (3 : Int32))) (F_o_REPLACE_ordinal : FA3 Z Z.heap o_REPLACE (.int (2 : Int32))) (F_o_DELETION_ordinal : FA3 Z Z.heap o_DELETION (.int (4 : Int32))) (F_o_CURRENT_ordinal : FA3 Z Z.heap o_CURRENT (.int (0 : Int32))) (F_o_CURRENT_APPENDED_ordinal : FA3 Z Z.heap o_CURRENT_APPENDED (.int (1 : Int32))) (F_o_NO_LONGER_RELEVANT_ordinal : FA3 Z Z.heap o_NO_LONGER_RELEVANT (.int (3 : Int32))) (F_o_NEW_ordinal : FA3 Z Z.heap o_NEW (.int (0 : Int32))) (F_o_APPEND_ordinal : FA3 Z Z.heap o_APPEND (.int (1 : Int32))) (F_o_REPLACED_ordinal : FA3 Z Z.heap o_REPLACED (.int (2 : Int32))) (hs : ((p1 &&& (2147483647 : Int32)) % (5 : Int32)) = (3 : Int32)) (hf : (p2 &&& (3 : Int32)) = (2 : Int32)) :
    Met l Z ws x code maxLocals ret room_1 #[(.int p1), (.int p2)] h0 (fun v _ L => Q0 n0 v L) := by
  have W := fun (i : Nat) {c : Jvm.Cond} (q : tables_1[i]? = some c) => hw c (List.mem_of_getElem? q)
  refine own_mk (plainFor_of_name pn_5) ?_
  intro p e s m below meth c s₁ hZ hx hby hml hown hnm hret hlk X0 e0
  have N0 := Fr.nil n0
  obtain ⟨_, T1, L1, X1, hQ1, st1⟩ := own_cs X0 hx hZ hown hml (W 1 rfl) (W 2 rfl) (W 3 rfl) (W 4 rfl) (rm12_state l Z a0 hw o_NO_LONGER_RELEVANT h0 n0 O0 (S_o_NO_LONGER_RELEVANT)) e0 (hb hby at_12) 0 #[iv p1, iv p2, iv (3 : Int32), iv (2 : Int32), .unset, .unset, .unset, .unset] [(.int (3 : Int32))] [] pd_6 (by decide) rfl rfl rfl (Nat.le_of_eq rfl)
  obtain ⟨rfl, N1q, K1⟩ := hQ1
  have N2 := Fr.app N0 N1q
  obtain ⟨_, T3, L3, X3, hQ3, st3⟩ := own_cs X1 hx hZ hown hml (W 8 rfl) (W 9 rfl) (W 3 rfl) (W 10 rfl) (rm7_operation l Z a0 hw o_REPLACE h0 n0 O0 (S_o_REPLACE)) K1 (hb hby at_18) 0 #[iv p1, iv p2, iv (3 : Int32), iv (2 : Int32), rv o_NO_LONGER_RELEVANT, .unset, .unset, .unset] [(.int (2 : Int32))] [] pd_11 (by decide) rfl rfl rfl (Nat.le_of_eq rfl)
  obtain ⟨rfl, N3q, K3⟩ := hQ3
  have N4 := Fr.app N2 N3q
  obtain ⟨_, T5, L5, X5, hQ5, st5⟩ := own_cv X3 hx hZ hown hml (W 14 rfl) (W 15 rfl) (notFace_of_selects (W 17 rfl)) (W 17 rfl) (W 16 rfl) (W 6 rfl) (W 18 rfl) (rm17_after l Z a0 hw o_NO_LONGER_RELEVANT o_REPLACE o_CURRENT o_CURRENT_APPENDED h0 n0 O0 (S_o_CURRENT) ((Fld.ne F_o_NO_LONGER_RELEVANT_ordinal F_o_CURRENT_ordinal (by decide))) (S_o_CURRENT_APPENDED) ((Fld.ne F_o_NO_LONGER_RELEVANT_ordinal F_o_CURRENT_APPENDED_ordinal (by decide)))) K3 (E_o_NO_LONGER_RELEVANT.ext O0.2) (hb hby at_27) 0 #[iv p1, iv p2, iv (3 : Int32), iv (2 : Int32), rv o_NO_LONGER_RELEVANT, rv o_REPLACE, .unset, .unset] [(.ref o_REPLACE)] [] pd_30 (by decide) rfl rfl rfl (Nat.le_of_eq rfl)
  obtain ⟨rfl, N5q, K5⟩ := hQ5
  have N6 := Fr.app N4 N5q
  obtain ⟨_, T7, L7, X7, hQ7, st7⟩ := own_cs X5 hx hZ hown hml (W 1 rfl) (W 2 rfl) (W 3 rfl) (W 4 rfl) (rm12_state l Z a0 hw o_NO_LONGER_RELEVANT h0 n0 O0 (S_o_NO_LONGER_RELEVANT)) K5 (hb hby at_60) 1 #[iv p1, iv p2, iv (3 : Int32), iv (2 : Int32), rv o_NO_LONGER_RELEVANT, rv o_REPLACE, rv o_NO_LONGER_RELEVANT, iv (3 : Int32)] [(.int (3 : Int32))] [(.ref o_NO_LONGER_RELEVANT)] pd_6 (by decide) rfl rfl rfl (Nat.le_of_eq rfl)
  obtain ⟨rfl, N7q, K7⟩ := hQ7
  have N8 := Fr.app N6 N7q
  refine ⟨T7, some (.int (1 : Int32)), _, _, _, X7, by decide, by decide, nofun, ?_, fun fs hr => castTop (ef_31 m p1 p2) ?_⟩
  · exact ⟨rfl, N8⟩
  · show SS p e below s₁ m 0 #[iv p1, iv p2, .unset, .unset, .unset, .unset, .unset, .unset] [] _
    refine XS.iloadN X0.here hx rfl (hb hby at_0) rfl ?_
    show SS p e below s₁ m 1 #[iv p1, iv p2, .unset, .unset, .unset, .unset, .unset, .unset] [(.int p1)] _
    refine X0.ldcInt hx hown (mvT hZ (W 0 rfl)) (g := (mkF m 1 #[iv p1, iv p2, .unset, .unset, .unset, .unset, .unset, .unset] [(.int p1)])) rfl (hb hby at_1) _ ?_
    show SS p e below s₁ m 3 #[iv p1, iv p2, .unset, .unset, .unset, .unset, .unset, .unset] [(.int (2147483647 : Int32)), (.int p1)] _
    refine XS.iand X0.here hx rfl (hb hby at_3) rfl ?_
    show SS p e below s₁ m 4 #[iv p1, iv p2, .unset, .unset, .unset, .unset, .unset, .unset] [(.int (p1 &&& (2147483647 : Int32)))] _
    refine XS.iconst X0.here hx rfl (hb hby at_4) ?_
    show SS p e below s₁ m 5 #[iv p1, iv p2, .unset, .unset, .unset, .unset, .unset, .unset] [(.int (5 : Int32)), (.int (p1 &&& (2147483647 : Int32)))] _
    refine iremM (g := (mkF m 5 #[iv p1, iv p2, .unset, .unset, .unset, .unset, .unset, .unset] [(.int (5 : Int32)), (.int (p1 &&& (2147483647 : Int32)))])) X0 hx rfl (hb hby at_5) rfl (by decide : ¬ ((5 : Int32) = (0 : Int32))) ?_
    rw [hs]
    show SS p e below s₁ m 6 #[iv p1, iv p2, .unset, .unset, .unset, .unset, .unset, .unset] [(.int (3 : Int32))] _
    refine XS.istoreN X0.here hx rfl (hb hby at_6) rfl (l' := #[iv p1, iv p2, iv (3 : Int32), .unset, .unset, .unset, .unset, .unset]) rfl ?_
    show SS p e below s₁ m 7 #[iv p1, iv p2, iv (3 : Int32), .unset, .unset, .unset, .unset, .unset] [] _
    refine XS.iloadN X0.here hx rfl (hb hby at_7) rfl ?_
    refine XS.iconst X0.here hx rfl (hb hby at_8) ?_
    show SS p e below s₁ m 9 #[iv p1, iv p2, iv (3 : Int32), .unset, .unset, .unset, .unset, .unset] [(.int (3 : Int32)), (.int p2)] _
    refine XS.iand X0.here hx rfl (hb hby at_9) rfl ?_
    rw [hf]
    show SS p e below s₁ m 10 #[iv p1, iv p2, iv (3 : Int32), .unset, .unset, .unset, .unset, .unset] [(.int (2 : Int32))] _
    refine XS.istoreN X0.here hx rfl (hb hby at_10) rfl (l' := #[iv p1, iv p2, iv (3 : Int32), iv (2 : Int32), .unset, .unset, .unset, .unset]) rfl ?_
    show SS p e below s₁ m 11 #[iv p1, iv p2, iv (3 : Int32), iv (2 : Int32), .unset, .unset, .unset, .unset] [] _
    refine XS.iloadN X0.here hx rfl (hb hby at_11) rfl ?_
    show SS p e below s₁ m 12 #[iv p1, iv p2, iv (3 : Int32), iv (2 : Int32), .unset, .unset, .unset, .unset] [(.int (3 : Int32))] _
    refine st1 _ ?_
    show SS p e below T1 m 15 #[iv p1, iv p2, iv (3 : Int32), iv (2 : Int32), .unset, .unset, .unset, .unset] [(.ref o_NO_LONGER_RELEVANT)] _
    refine XS.astore X1.here hx rfl (hb hby at_15) rfl rfl (l' := #[iv p1, iv p2, iv (3 : Int32), iv (2 : Int32), rv o_NO_LONGER_RELEVANT, .unset, .unset, .unset]) rfl ?_
    show SS p e below T1 m 17 #[iv p1, iv p2, iv (3 : Int32), iv (2 : Int32), rv o_NO_LONGER_RELEVANT, .unset, .unset, .unset] [] _
    refine XS.iloadN X1.here hx rfl (hb hby at_17) rfl ?_
    show SS p e below T1 m 18 #[iv p1, iv p2, iv (3 : Int32), iv (2 : Int32), rv o_NO_LONGER_RELEVANT, .unset, .unset, .unset] [(.int (2 : Int32))] _
    refine st3 _ ?_
    show SS p e below T3 m 21 #[iv p1, iv p2, iv (3 : Int32), iv (2 : Int32), rv o_NO_LONGER_RELEVANT, .unset, .unset, .unset] [(.ref o_REPLACE)] _
    refine XS.astore X3.here hx rfl (hb hby at_21) rfl rfl (l' := #[iv p1, iv p2, iv (3 : Int32), iv (2 : Int32), rv o_NO_LONGER_RELEVANT, rv o_REPLACE, .unset, .unset]) rfl ?_
    show SS p e below T3 m 23 #[iv p1, iv p2, iv (3 : Int32), iv (2 : Int32), rv o_NO_LONGER_RELEVANT, rv o_REPLACE, .unset, .unset] [] _
    refine XS.aload X3.here hx rfl (hb hby at_23) rfl rfl ?_
    refine XS.aload X3.here hx rfl (hb hby at_25) rfl rfl ?_
    show SS p e below T3 m 27 #[iv p1, iv p2, iv (3 : Int32), iv (2 : Int32), rv o_NO_LONGER_RELEVANT, rv o_REPLACE, .unset, .unset] [(.ref o_REPLACE), (.ref o_NO_LONGER_RELEVANT)] _
    refine st5 _ ?_
    show SS p e below T5 m 30 #[iv p1, iv p2, iv (3 : Int32), iv (2 : Int32), rv o_NO_LONGER_RELEVANT, rv o_REPLACE, .unset, .unset] [(.ref o_NO_LONGER_RELEVANT)] _
    refine XS.astore X5.here hx rfl (hb hby at_30) rfl rfl (l' := #[iv p1, iv p2, iv (3 : Int32), iv (2 : Int32), rv o_NO_LONGER_RELEVANT, rv o_REPLACE, rv o_NO_LONGER_RELEVANT, .unset]) rfl ?_
    show SS p e below T5 m 32 #[iv p1, iv p2, iv (3 : Int32), iv (2 : Int32), rv o_NO_LONGER_RELEVANT, rv o_REPLACE, rv o_NO_LONGER_RELEVANT, .unset] [] _
    refine XS.iloadN X5.here hx rfl (hb hby at_32) rfl ?_
    refine XS.iconst X5.here hx rfl (hb hby at_33) ?_
    show SS p e below T5 m 34 #[iv p1, iv p2, iv (3 : Int32), iv (2 : Int32), rv o_NO_LONGER_RELEVANT, rv o_REPLACE, rv o_NO_LONGER_RELEVANT, .unset] [(.int (2 : Int32)), (.int (3 : Int32))] _
    refine XS.icmpNo X5.here hx rfl (hb hby at_34) rfl (flt (by decide : ¬ ((3 : Int32) < (2 : Int32)))).1 ?_
    show SS p e below T5 m 37 #[iv p1, iv p2, iv (3 : Int32), iv (2 : Int32), rv o_NO_LONGER_RELEVANT, rv o_REPLACE, rv o_NO_LONGER_RELEVANT, .unset] [] _
    refine XS.iloadN X5.here hx rfl (hb hby at_37) rfl ?_
    show SS p e below T5 m 38 #[iv p1, iv p2, iv (3 : Int32), iv (2 : Int32), rv o_NO_LONGER_RELEVANT, rv o_REPLACE, rv o_NO_LONGER_RELEVANT, .unset] [(.int (3 : Int32))] _
    refine XS.istore X5.here hx rfl (hb hby at_38) rfl (l' := #[iv p1, iv p2, iv (3 : Int32), iv (2 : Int32), rv o_NO_LONGER_RELEVANT, rv o_REPLACE, rv o_NO_LONGER_RELEVANT, iv (3 : Int32)]) rfl ?_
    show SS p e below T5 m 40 #[iv p1, iv p2, iv (3 : Int32), iv (2 : Int32), rv o_NO_LONGER_RELEVANT, rv o_REPLACE, rv o_NO_LONGER_RELEVANT, iv (3 : Int32)] [] _
    refine XS.goto X5.here hx rfl (pc0 := 40) (pc' := 56) rfl (hb hby at_40) (by decide) (by decide) ?_
    refine XS.aload X5.here hx rfl (hb hby at_56) rfl rfl ?_
    refine XS.iload X5.here hx rfl (hb hby at_58) rfl ?_
    show SS p e below T5 m 60 #[iv p1, iv p2, iv (3 : Int32), iv (2 : Int32), rv o_NO_LONGER_RELEVANT, rv o_REPLACE, rv o_NO_LONGER_RELEVANT, iv (3 : Int32)] [(.int (3 : Int32)), (.ref o_NO_LONGER_RELEVANT)] _
    refine st7 _ ?_
    show SS p e below T7 m 63 #[iv p1, iv p2, iv (3 : Int32), iv (2 : Int32), rv o_NO_LONGER_RELEVANT, rv o_REPLACE, rv o_NO_LONGER_RELEVANT, iv (3 : Int32)] [(.ref o_NO_LONGER_RELEVANT), (.ref o_NO_LONGER_RELEVANT)] _
    refine Jvm.RoadKit.acmp (g := (mkF m 63 #[iv p1, iv p2, iv (3 : Int32), iv (2 : Int32), rv o_NO_LONGER_RELEVANT, rv o_REPLACE, rv o_NO_LONGER_RELEVANT, iv (3 : Int32)] [(.ref o_NO_LONGER_RELEVANT), (.ref o_NO_LONGER_RELEVANT)])) X7 hx rfl rfl rfl (pc0 := 63) (pc' := 66) (same := true) rfl (hb hby at_63) rfl (decide_eq_true rfl) (by decide) (by decide) ?_
    show SS p e below T7 m 66 #[iv p1, iv p2, iv (3 : Int32), iv (2 : Int32), rv o_NO_LONGER_RELEVANT, rv o_REPLACE, rv o_NO_LONGER_RELEVANT, iv (3 : Int32)] [] _
    refine XS.iconst X7.here hx rfl (hb hby at_66) ?_
    refine XS.goto X7.here hx rfl (pc0 := 67) (pc' := 71) rfl (hb hby at_67) (by decide) (by decide) ?_
    show SS p e below T7 m 71 #[iv p1, iv p2, iv (3 : Int32), iv (2 : Int32), rv o_NO_LONGER_RELEVANT, rv o_REPLACE, rv o_NO_LONGER_RELEVANT, iv (3 : Int32)] [(.int (1 : Int32))] _
    exact retN X7 hx (t := .boolean) hret (by simp) (hb hby at_71) hr
set_option maxRecDepth 65536 in
set_option maxHeartbeats 40000000 in
theorem rm0_3_3 (l : Launch) (Z : State) (a0 : Array Value) (hw : HW Z a0) (ws : List Jvm.Cond) (p1 : Int32) (p2 : Int32) (o_CURRENT : Addr) (o_DELETE : Addr) (o_REPLACE : Addr) (o_NO_LONGER_RELEVANT : Addr) (o_DELETION : Addr) (o_APPEND : Addr) (o_CURRENT_APPENDED : Addr) (o_NEW : Addr) (o_REPLACED : Addr) (h0 : Heap) (n0 : Nat) (O0 : Old Z n0 h0) (S_o_CURRENT : SA6 Z Z.heap (.ref o_CURRENT)) (E_o_CURRENT : EA4 Z Z.heap o_CURRENT) (S_o_DELETE : SA9 Z Z.heap (.ref o_DELETE)) (E_o_DELETE : EA5 Z Z.heap o_DELETE) (S_o_REPLACE : SA8 Z Z.heap (.ref o_REPLACE)) (E_o_REPLACE : EA5 Z Z.heap o_REPLACE) (S_o_NO_LONGER_RELEVANT : SA11 Z Z.heap (.ref o_NO_LONGER_RELEVANT)) (E_o_NO_LONGER_RELEVANT : EA4 Z Z.heap o_NO_LONGER_RELEVANT) (S_o_DELETION : SA12 Z Z.heap (.ref o_DELETION)) (E_o_DELETION : EA4 Z Z.heap o_DELETION) (S_o_APPEND : SA10 Z Z.heap (.ref o_APPEND)) (E_o_APPEND : EA5 Z Z.heap o_APPEND) (S_o_CURRENT_APPENDED : SA13 Z Z.heap (.ref o_CURRENT_APPENDED)) (E_o_CURRENT_APPENDED : EA4 Z Z.heap o_CURRENT_APPENDED) (S_o_NEW : SA7 Z Z.heap (.ref o_NEW)) (E_o_NEW : EA5 Z Z.heap o_NEW) (S_o_REPLACED : SA14 Z Z.heap (.ref o_REPLACED)) (E_o_REPLACED : EA4 Z Z.heap o_REPLACED) (F_o_DELETE_ordinal : FA3 Z Z.heap o_DELETE (.int (3 : Int32))) (F_o_REPLACE_ordinal : FA3 Z Z.heap o_REPLACE (.int (2 : Int32))) (F_o_DELETION_ordinal : FA3 Z Z.heap o_DELETION (.int (4 : Int32))) (F_o_CURRENT_ordinal : FA3 Z Z.heap o_CURRENT (.int (0 : Int32))) (F_o_CURRENT_APPENDED_ordinal : FA3 Z Z.heap o_CURRENT_APPENDED (.int (1 : Int32))) (F_o_NO_LONGER_RELEVANT_ordinal : FA3 Z Z.heap o_NO_LONGER_RELEVANT (.int (3 : Int32))) (F_o_NEW_ordinal : FA3 Z Z.heap o_NEW (.int (0 : Int32))) (F_o_APPEND_ordinal : FA3 Z Z.heap o_APPEND (.int (1 : Int32))) (F_o_REPLACED_ordinal : FA3 Z Z.heap o_REPLACED (.int (2 : Int32))) (hs : ((p1 &&& (2147483647 : Int32)) % (5 : Int32)) = (3 : Int32)) (hf : (p2 &&& (3 : Int32)) = (3 : Int32)) :
    Met l Z ws x code maxLocals ret room_1 #[(.int p1), (.int p2)] h0 (fun v _ L => Q0 n0 v L) := by
  have W := fun (i : Nat) {c : Jvm.Cond} (q : tables_1[i]? = some c) => hw c (List.mem_of_getElem? q)
  refine own_mk (plainFor_of_name pn_5) ?_
  intro p e s m below meth c s₁ hZ hx hby hml hown hnm hret hlk X0 e0
  have N0 := Fr.nil n0
  obtain ⟨_, T1, L1, X1, hQ1, st1⟩ := own_cs X0 hx hZ hown hml (W 1 rfl) (W 2 rfl) (W 3 rfl) (W 4 rfl) (rm12_state l Z a0 hw o_NO_LONGER_RELEVANT h0 n0 O0 (S_o_NO_LONGER_RELEVANT)) e0 (hb hby at_12) 0 #[iv p1, iv p2, iv (3 : Int32), iv (3 : Int32), .unset, .unset, .unset, .unset] [(.int (3 : Int32))] [] pd_6 (by decide) rfl rfl rfl (Nat.le_of_eq rfl)
  obtain ⟨rfl, N1q, K1⟩ := hQ1
  have N2 := Fr.app N0 N1q
  obtain ⟨_, T3, L3, X3, hQ3, st3⟩ := own_cs X1 hx hZ hown hml (W 8 rfl) (W 9 rfl) (W 3 rfl) (W 10 rfl) (rm10_operation l Z a0 hw o_DELETE h0 n0 O0 (S_o_DELETE)) K1 (hb hby at_18) 0 #[iv p1, iv p2, iv (3 : Int32), iv (3 : Int32), rv o_NO_LONGER_RELEVANT, .unset, .unset, .unset] [(.int (3 : Int32))] [] pd_11 (by decide) rfl rfl rfl (Nat.le_of_eq rfl)
  obtain ⟨rfl, N3q, K3⟩ := hQ3
  have N4 := Fr.app N2 N3q
  obtain ⟨_, T5, L5, X5, hQ5, st5⟩ := own_cv X3 hx hZ hown hml (W 14 rfl) (W 15 rfl) (notFace_of_selects (W 17 rfl)) (W 17 rfl) (W 16 rfl) (W 6 rfl) (W 18 rfl) (rm17_after l Z a0 hw o_NO_LONGER_RELEVANT o_DELETE o_CURRENT o_CURRENT_APPENDED h0 n0 O0 (S_o_CURRENT) ((Fld.ne F_o_NO_LONGER_RELEVANT_ordinal F_o_CURRENT_ordinal (by decide))) (S_o_CURRENT_APPENDED) ((Fld.ne F_o_NO_LONGER_RELEVANT_ordinal F_o_CURRENT_APPENDED_ordinal (by decide)))) K3 (E_o_NO_LONGER_RELEVANT.ext O0.2) (hb hby at_27) 0 #[iv p1, iv p2, iv (3 : Int32), iv (3 : Int32), rv o_NO_LONGER_RELEVANT, rv o_DELETE, .unset, .unset] [(.ref o_DELETE)] [] pd_30 (by decide) rfl rfl rfl (Nat.le_of_eq rfl)
  obtain ⟨rfl, N5q, K5⟩ := hQ5
  have N6 := Fr.app N4 N5q
  obtain ⟨_, T7, L7, X7, hQ7, st7⟩ := own_cs X5 hx hZ hown hml (W 1 rfl) (W 2 rfl) (W 3 rfl) (W 4 rfl) (rm12_state l Z a0 hw o_NO_LONGER_RELEVANT h0 n0 O0 (S_o_NO_LONGER_RELEVANT)) K5 (hb hby at_60) 1 #[iv p1, iv p2, iv (3 : Int32), iv (3 : Int32), rv o_NO_LONGER_RELEVANT, rv o_DELETE, rv o_NO_LONGER_RELEVANT, iv (3 : Int32)] [(.int (3 : Int32))] [(.ref o_NO_LONGER_RELEVANT)] pd_6 (by decide) rfl rfl rfl (Nat.le_of_eq rfl)
  obtain ⟨rfl, N7q, K7⟩ := hQ7
  have N8 := Fr.app N6 N7q
  refine ⟨T7, some (.int (1 : Int32)), _, _, _, X7, by decide, by decide, nofun, ?_, fun fs hr => castTop (ef_31 m p1 p2) ?_⟩
  · exact ⟨rfl, N8⟩
  · show SS p e below s₁ m 0 #[iv p1, iv p2, .unset, .unset, .unset, .unset, .unset, .unset] [] _
    refine XS.iloadN X0.here hx rfl (hb hby at_0) rfl ?_
    show SS p e below s₁ m 1 #[iv p1, iv p2, .unset, .unset, .unset, .unset, .unset, .unset] [(.int p1)] _
    refine X0.ldcInt hx hown (mvT hZ (W 0 rfl)) (g := (mkF m 1 #[iv p1, iv p2, .unset, .unset, .unset, .unset, .unset, .unset] [(.int p1)])) rfl (hb hby at_1) _ ?_
    show SS p e below s₁ m 3 #[iv p1, iv p2, .unset, .unset, .unset, .unset, .unset, .unset] [(.int (2147483647 : Int32)), (.int p1)] _
    refine XS.iand X0.here hx rfl (hb hby at_3) rfl ?_
    show SS p e below s₁ m 4 #[iv p1, iv p2, .unset, .unset, .unset, .unset, .unset, .unset] [(.int (p1 &&& (2147483647 : Int32)))] _
    refine XS.iconst X0.here hx rfl (hb hby at_4) ?_
    show SS p e below s₁ m 5 #[iv p1, iv p2, .unset, .unset, .unset, .unset, .unset, .unset] [(.int (5 : Int32)), (.int (p1 &&& (2147483647 : Int32)))] _
    refine iremM (g := (mkF m 5 #[iv p1, iv p2, .unset, .unset, .unset, .unset, .unset, .unset] [(.int (5 : Int32)), (.int (p1 &&& (2147483647 : Int32)))])) X0 hx rfl (hb hby at_5) rfl (by decide : ¬ ((5 : Int32) = (0 : Int32))) ?_
    rw [hs]
    show SS p e below s₁ m 6 #[iv p1, iv p2, .unset, .unset, .unset, .unset, .unset, .unset] [(.int (3 : Int32))] _
    refine XS.istoreN X0.here hx rfl (hb hby at_6) rfl (l' := #[iv p1, iv p2, iv (3 : Int32), .unset, .unset, .unset, .unset, .unset]) rfl ?_
    show SS p e below s₁ m 7 #[iv p1, iv p2, iv (3 : Int32), .unset, .unset, .unset, .unset, .unset] [] _
    refine XS.iloadN X0.here hx rfl (hb hby at_7) rfl ?_
    refine XS.iconst X0.here hx rfl (hb hby at_8) ?_
    show SS p e below s₁ m 9 #[iv p1, iv p2, iv (3 : Int32), .unset, .unset, .unset, .unset, .unset] [(.int (3 : Int32)), (.int p2)] _
    refine XS.iand X0.here hx rfl (hb hby at_9) rfl ?_
    rw [hf]
    show SS p e below s₁ m 10 #[iv p1, iv p2, iv (3 : Int32), .unset, .unset, .unset, .unset, .unset] [(.int (3 : Int32))] _
    refine XS.istoreN X0.here hx rfl (hb hby at_10) rfl (l' := #[iv p1, iv p2, iv (3 : Int32), iv (3 : Int32), .unset, .unset, .unset, .unset]) rfl ?_
    show SS p e below s₁ m 11 #[iv p1, iv p2, iv (3 : Int32), iv (3 : Int32), .unset, .unset, .unset, .unset] [] _
    refine XS.iloadN X0.here hx rfl (hb hby at_11) rfl ?_
    show SS p e below s₁ m 12 #[iv p1, iv p2, iv (3 : Int32), iv (3 : Int32), .unset, .unset, .unset, .unset] [(.int (3 : Int32))] _
    refine st1 _ ?_
    show SS p e below T1 m 15 #[iv p1, iv p2, iv (3 : Int32), iv (3 : Int32), .unset, .unset, .unset, .unset] [(.ref o_NO_LONGER_RELEVANT)] _
    refine XS.astore X1.here hx rfl (hb hby at_15) rfl rfl (l' := #[iv p1, iv p2, iv (3 : Int32), iv (3 : Int32), rv o_NO_LONGER_RELEVANT, .unset, .unset, .unset]) rfl ?_
    show SS p e below T1 m 17 #[iv p1, iv p2, iv (3 : Int32), iv (3 : Int32), rv o_NO_LONGER_RELEVANT, .unset, .unset, .unset] [] _
    refine XS.iloadN X1.here hx rfl (hb hby at_17) rfl ?_
    show SS p e below T1 m 18 #[iv p1, iv p2, iv (3 : Int32), iv (3 : Int32), rv o_NO_LONGER_RELEVANT, .unset, .unset, .unset] [(.int (3 : Int32))] _
    refine st3 _ ?_
    show SS p e below T3 m 21 #[iv p1, iv p2, iv (3 : Int32), iv (3 : Int32), rv o_NO_LONGER_RELEVANT, .unset, .unset, .unset] [(.ref o_DELETE)] _
    refine XS.astore X3.here hx rfl (hb hby at_21) rfl rfl (l' := #[iv p1, iv p2, iv (3 : Int32), iv (3 : Int32), rv o_NO_LONGER_RELEVANT, rv o_DELETE, .unset, .unset]) rfl ?_
    show SS p e below T3 m 23 #[iv p1, iv p2, iv (3 : Int32), iv (3 : Int32), rv o_NO_LONGER_RELEVANT, rv o_DELETE, .unset, .unset] [] _
    refine XS.aload X3.here hx rfl (hb hby at_23) rfl rfl ?_
    refine XS.aload X3.here hx rfl (hb hby at_25) rfl rfl ?_
    show SS p e below T3 m 27 #[iv p1, iv p2, iv (3 : Int32), iv (3 : Int32), rv o_NO_LONGER_RELEVANT, rv o_DELETE, .unset, .unset] [(.ref o_DELETE), (.ref o_NO_LONGER_RELEVANT)] _
    refine st5 _ ?_
    show SS p e below T5 m 30 #[iv p1, iv p2, iv (3 : Int32), iv (3 : Int32), rv o_NO_LONGER_RELEVANT, rv o_DELETE, .unset, .unset] [(.ref o_NO_LONGER_RELEVANT)] _
    refine XS.astore X5.here hx rfl (hb hby at_30) rfl rfl (l' := #[iv p1, iv p2, iv (3 : Int32), iv (3 : Int32), rv o_NO_LONGER_RELEVANT, rv o_DELETE, rv o_NO_LONGER_RELEVANT, .unset]) rfl ?_
    show SS p e below T5 m 32 #[iv p1, iv p2, iv (3 : Int32), iv (3 : Int32), rv o_NO_LONGER_RELEVANT, rv o_DELETE, rv o_NO_LONGER_RELEVANT, .unset] [] _
    refine XS.iloadN X5.here hx rfl (hb hby at_32) rfl ?_
    refine XS.iconst X5.here hx rfl (hb hby at_33) ?_
    show SS p e below T5 m 34 #[iv p1, iv p2, iv (3 : Int32), iv (3 : Int32), rv o_NO_LONGER_RELEVANT, rv o_DELETE, rv o_NO_LONGER_RELEVANT, .unset] [(.int (2 : Int32)), (.int (3 : Int32))] _
    refine XS.icmpNo X5.here hx rfl (hb hby at_34) rfl (flt (by decide : ¬ ((3 : Int32) < (2 : Int32)))).1 ?_
    show SS p e below T5 m 37 #[iv p1, iv p2, iv (3 : Int32), iv (3 : Int32), rv o_NO_LONGER_RELEVANT, rv o_DELETE, rv o_NO_LONGER_RELEVANT, .unset] [] _
    refine XS.iloadN X5.here hx rfl (hb hby at_37) rfl ?_
    show SS p e below T5 m 38 #[iv p1, iv p2, iv (3 : Int32), iv (3 : Int32), rv o_NO_LONGER_RELEVANT, rv o_DELETE, rv o_NO_LONGER_RELEVANT, .unset] [(.int (3 : Int32))] _
    refine XS.istore X5.here hx rfl (hb hby at_38) rfl (l' := #[iv p1, iv p2, iv (3 : Int32), iv (3 : Int32), rv o_NO_LONGER_RELEVANT, rv o_DELETE, rv o_NO_LONGER_RELEVANT, iv (3 : Int32)]) rfl ?_
    show SS p e below T5 m 40 #[iv p1, iv p2, iv (3 : Int32), iv (3 : Int32), rv o_NO_LONGER_RELEVANT, rv o_DELETE, rv o_NO_LONGER_RELEVANT, iv (3 : Int32)] [] _
    refine XS.goto X5.here hx rfl (pc0 := 40) (pc' := 56) rfl (hb hby at_40) (by decide) (by decide) ?_
    refine XS.aload X5.here hx rfl (hb hby at_56) rfl rfl ?_
    refine XS.iload X5.here hx rfl (hb hby at_58) rfl ?_
    show SS p e below T5 m 60 #[iv p1, iv p2, iv (3 : Int32), iv (3 : Int32), rv o_NO_LONGER_RELEVANT, rv o_DELETE, rv o_NO_LONGER_RELEVANT, iv (3 : Int32)] [(.int (3 : Int32)), (.ref o_NO_LONGER_RELEVANT)] _
    refine st7 _ ?_
    show SS p e below T7 m 63 #[iv p1, iv p2, iv (3 : Int32), iv (3 : Int32), rv o_NO_LONGER_RELEVANT, rv o_DELETE, rv o_NO_LONGER_RELEVANT, iv (3 : Int32)] [(.ref o_NO_LONGER_RELEVANT), (.ref o_NO_LONGER_RELEVANT)] _
    refine Jvm.RoadKit.acmp (g := (mkF m 63 #[iv p1, iv p2, iv (3 : Int32), iv (3 : Int32), rv o_NO_LONGER_RELEVANT, rv o_DELETE, rv o_NO_LONGER_RELEVANT, iv (3 : Int32)] [(.ref o_NO_LONGER_RELEVANT), (.ref o_NO_LONGER_RELEVANT)])) X7 hx rfl rfl rfl (pc0 := 63) (pc' := 66) (same := true) rfl (hb hby at_63) rfl (decide_eq_true rfl) (by decide) (by decide) ?_
    show SS p e below T7 m 66 #[iv p1, iv p2, iv (3 : Int32), iv (3 : Int32), rv o_NO_LONGER_RELEVANT, rv o_DELETE, rv o_NO_LONGER_RELEVANT, iv (3 : Int32)] [] _
    refine XS.iconst X7.here hx rfl (hb hby at_66) ?_
    refine XS.goto X7.here hx rfl (pc0 := 67) (pc' := 71) rfl (hb hby at_67) (by decide) (by decide) ?_
    show SS p e below T7 m 71 #[iv p1, iv p2, iv (3 : Int32), iv (3 : Int32), rv o_NO_LONGER_RELEVANT, rv o_DELETE, rv o_NO_LONGER_RELEVANT, iv (3 : Int32)] [(.int (1 : Int32))] _
    exact retN X7 hx (t := .boolean) hret (by simp) (hb hby at_71) hr
theorem d_77 : decode method_3_code 35 = .ok (.getstatic 37, 3) := by decide +kernel
theorem d_78 : decode method_3_code 38 = .ok (.areturn, 1) := by decide +kernel
theorem ef_79 (m : MethodId)  : entryFrame m #[(.int (4 : Int32))] 1 = mkF m 0 #[iv (4 : Int32)] [] := by first | (simp [entryFrame, mkF, argsToLocals, Value.category]; done) | rfl
-- com/example/dossiertools/dossiertools/LeafStateAfterPinLaw.state(I)Lcom/example/dossiertools/dossiertools/LeafState;
def Q18_state (Z : State) (a1 : Addr) (h0 : Heap) (n0 : Nat) (v : Option Value) (h : Heap) (L : List Loc) : Prop := v = some (.ref a1) ∧ Fr n0 L ∧ h = h0
set_option maxRecDepth 65536 in
set_option maxHeartbeats 40000000 in
theorem rm18_state (l : Launch) (Z : State) (a0 : Array Value) (hw : HW Z a0) (a1 : Addr) (h0 : Heap) (n0 : Nat) (O0 : Old Z n0 h0) (S_0 : SA12 Z Z.heap (.ref a1)) :
    Met l Z [] Y0 method_3_code 1 (some (.object "com/example/dossiertools/dossiertools/LeafState")) ({ frames := 0, cells := 0, slots := 0, locals := 0 } : Room) #[(.int (4 : Int32))] h0 (Q18_state Z a1 h0 n0) := by
  have W := fun (i : Nat) {c : Jvm.Cond} (q : tables_1[i]? = some c) => hw c (List.mem_of_getElem? q)
  refine own_mk (plainFor_of_name pn_5) ?_
  intro p e s m below meth c s₁ hZ hx hby hml hown hnm hret hlk X0 e0
  have N0 := Fr.nil n0
  obtain ⟨T1, X1, e1, st1⟩ := getS2 X0 hx hZ hown (host := "") (Or.inl (W 26 rfl)) Via.refl e0 (S_0.ext O0.2) (g := (mkF m 35 #[iv (4 : Int32)] [])) rfl (hb hby d_77)
  refine ⟨T1, some (.ref a1), _, _, _, X1, by decide, by decide, nofun, ?_, fun fs hr => castTop (ef_79 m ) ?_⟩
  · show Q18_state Z a1 h0 n0 _ T1.heap _
    rw [e1]
    exact ⟨rfl, N0, rfl⟩
  · show SS p e below s₁ m 0 #[iv (4 : Int32)] [] _
    refine XS.iloadN X0.here hx rfl (hb hby d_0) rfl ?_
    show SS p e below s₁ m 1 #[iv (4 : Int32)] [(.int (4 : Int32))] _
    refine XS.ifYes X0.here hx rfl (pc0 := 1) (pc' := 8) rfl (hb hby d_1) rfl ((if0 _ _).trans (feq (by decide : ¬ ((4 : Int32) = (0 : Int32)))).2) (by decide) (by decide) ?_
    show SS p e below s₁ m 8 #[iv (4 : Int32)] [] _
    refine XS.iloadN X0.here hx rfl (hb hby d_41) rfl ?_
    refine XS.iconst X0.here hx rfl (hb hby d_42) ?_
    show SS p e below s₁ m 10 #[iv (4 : Int32)] [(.int (1 : Int32)), (.int (4 : Int32))] _
    refine XS.icmpYes X0.here hx rfl (pc0 := 10) (pc' := 17) rfl (hb hby d_43) rfl (feq (by decide : ¬ ((4 : Int32) = (1 : Int32)))).2 (by decide) (by decide) ?_
    show SS p e below s₁ m 17 #[iv (4 : Int32)] [] _
    refine XS.iloadN X0.here hx rfl (hb hby d_55) rfl ?_
    refine XS.iconst X0.here hx rfl (hb hby d_56) ?_
    show SS p e below s₁ m 19 #[iv (4 : Int32)] [(.int (2 : Int32)), (.int (4 : Int32))] _
    refine XS.icmpYes X0.here hx rfl (pc0 := 19) (pc' := 26) rfl (hb hby d_57) rfl (feq (by decide : ¬ ((4 : Int32) = (2 : Int32)))).2 (by decide) (by decide) ?_
    show SS p e below s₁ m 26 #[iv (4 : Int32)] [] _
    refine XS.iloadN X0.here hx rfl (hb hby d_66) rfl ?_
    refine XS.iconst X0.here hx rfl (hb hby d_67) ?_
    show SS p e below s₁ m 28 #[iv (4 : Int32)] [(.int (3 : Int32)), (.int (4 : Int32))] _
    refine XS.icmpYes X0.here hx rfl (pc0 := 28) (pc' := 35) rfl (hb hby d_68) rfl (feq (by decide : ¬ ((4 : Int32) = (3 : Int32)))).2 (by decide) (by decide) ?_
    show SS p e below s₁ m 35 #[iv (4 : Int32)] [] _
    refine st1 _ ?_
    show SS p e below T1 m 38 #[iv (4 : Int32)] [(.ref a1)] _
    exact retOut X1 hx hret rfl (Or.inr (Or.inr (Or.inr (Or.inr ⟨rfl, rfl, rfl⟩)))) (hb hby d_78) hr
set_option maxRecDepth 65536 in
set_option maxHeartbeats 40000000 in
theorem rm0_4_0 (l : Launch) (Z : State) (a0 : Array Value) (hw : HW Z a0) (ws : List Jvm.Cond) (p1 : Int32) (p2 : Int32) (o_CURRENT : Addr) (o_DELETE : Addr) (o_REPLACE : Addr) (o_NO_LONGER_RELEVANT : Addr) (o_DELETION : Addr) (o_APPEND : Addr) (o_CURRENT_APPENDED : Addr) (o_NEW : Addr) (o_REPLACED : Addr) (h0 : Heap) (n0 : Nat) (O0 : Old Z n0 h0) (S_o_CURRENT : SA6 Z Z.heap (.ref o_CURRENT)) (E_o_CURRENT : EA4 Z Z.heap o_CURRENT) (S_o_DELETE : SA9 Z Z.heap (.ref o_DELETE)) (E_o_DELETE : EA5 Z Z.heap o_DELETE) (S_o_REPLACE : SA8 Z Z.heap (.ref o_REPLACE)) (E_o_REPLACE : EA5 Z Z.heap o_REPLACE) (S_o_NO_LONGER_RELEVANT : SA11 Z Z.heap (.ref o_NO_LONGER_RELEVANT)) (E_o_NO_LONGER_RELEVANT : EA4 Z Z.heap o_NO_LONGER_RELEVANT) (S_o_DELETION : SA12 Z Z.heap (.ref o_DELETION)) (E_o_DELETION : EA4 Z Z.heap o_DELETION) (S_o_APPEND : SA10 Z Z.heap (.ref o_APPEND)) (E_o_APPEND : EA5 Z Z.heap o_APPEND) (S_o_CURRENT_APPENDED : SA13 Z Z.heap (.ref o_CURRENT_APPENDED)) (E_o_CURRENT_APPENDED : EA4 Z Z.heap o_CURRENT_APPENDED) (S_o_NEW : SA7 Z Z.heap (.ref o_NEW)) (E_o_NEW : EA5 Z Z.heap o_NEW) (S_o_REPLACED : SA14 Z Z.heap (.ref o_REPLACED)) (E_o_REPLACED : EA4 Z Z.heap o_REPLACED) (F_o_DELETE_ordinal : FA3 Z Z.heap o_DELETE (.int (3 : Int32))) (F_o_REPLACE_ordinal : FA3 Z Z.heap o_REPLACE (.int (2 : Int32))) (F_o_DELETION_ordinal : FA3 Z Z.heap o_DELETION (.int (4 : Int32))) (F_o_CURRENT_ordinal : FA3 Z Z.heap o_CURRENT (.int (0 : Int32))) (F_o_CURRENT_APPENDED_ordinal : FA3 Z Z.heap o_CURRENT_APPENDED (.int (1 : Int32))) (F_o_NO_LONGER_RELEVANT_ordinal : FA3 Z Z.heap o_NO_LONGER_RELEVANT (.int (3 : Int32))) (F_o_NEW_ordinal : FA3 Z Z.heap o_NEW (.int (0 : Int32))) (F_o_APPEND_ordinal : FA3 Z Z.heap o_APPEND (.int (1 : Int32))) (F_o_REPLACED_ordinal : FA3 Z Z.heap o_REPLACED (.int (2 : Int32))) (hs : ((p1 &&& (2147483647 : Int32)) % (5 : Int32)) = (4 : Int32)) (hf : (p2 &&& (3 : Int32)) = (0 : Int32)) :
    Met l Z ws x code maxLocals ret room_1 #[(.int p1), (.int p2)] h0 (fun v _ L => Q0 n0 v L) := by
  have W := fun (i : Nat) {c : Jvm.Cond} (q : tables_1[i]? = some c) => hw c (List.mem_of_getElem? q)
  refine own_mk (plainFor_of_name pn_5) ?_
  intro p e s m below meth c s₁ hZ hx hby hml hown hnm hret hlk X0 e0
  have N0 := Fr.nil n0
  obtain ⟨_, T1, L1, X1, hQ1, st1⟩ := own_cs X0 hx hZ hown hml (W 1 rfl) (W 2 rfl) (W 3 rfl) (W 4 rfl) (rm18_state l Z a0 hw o_DELETION h0 n0 O0 (S_o_DELETION)) e0 (hb hby at_12) 0 #[iv p1, iv p2, iv (4 : Int32), iv (0 : Int32), .unset, .unset, .unset, .unset] [(.int (4 : Int32))] [] pd_6 (by decide) rfl rfl rfl (Nat.le_of_eq rfl)
  obtain ⟨rfl, N1q, K1⟩ := hQ1
  have N2 := Fr.app N0 N1q
  obtain ⟨_, T3, L3, X3, hQ3, st3⟩ := own_cs X1 hx hZ hown hml (W 8 rfl) (W 9 rfl) (W 3 rfl) (W 10 rfl) (rm2_operation l Z a0 hw o_NEW h0 n0 O0 (S_o_NEW)) K1 (hb hby at_18) 0 #[iv p1, iv p2, iv (4 : Int32), iv (0 : Int32), rv o_DELETION, .unset, .unset, .unset] [(.int (0 : Int32))] [] pd_11 (by decide) rfl rfl rfl (Nat.le_of_eq rfl)
  obtain ⟨rfl, N3q, K3⟩ := hQ3
  have N4 := Fr.app N2 N3q
  obtain ⟨_, T5, L5, X5, hQ5, st5⟩ := own_cv X3 hx hZ hown hml (W 14 rfl) (W 15 rfl) (notFace_of_selects (W 17 rfl)) (W 17 rfl) (W 16 rfl) (W 6 rfl) (W 18 rfl) (rm17_after l Z a0 hw o_DELETION o_NEW o_CURRENT o_CURRENT_APPENDED h0 n0 O0 (S_o_CURRENT) ((Fld.ne F_o_DELETION_ordinal F_o_CURRENT_ordinal (by decide))) (S_o_CURRENT_APPENDED) ((Fld.ne F_o_DELETION_ordinal F_o_CURRENT_APPENDED_ordinal (by decide)))) K3 (E_o_DELETION.ext O0.2) (hb hby at_27) 0 #[iv p1, iv p2, iv (4 : Int32), iv (0 : Int32), rv o_DELETION, rv o_NEW, .unset, .unset] [(.ref o_NEW)] [] pd_30 (by decide) rfl rfl rfl (Nat.le_of_eq rfl)
  obtain ⟨rfl, N5q, K5⟩ := hQ5
  have N6 := Fr.app N4 N5q
  obtain ⟨_, T7, L7, X7, hQ7, st7⟩ := own_cs X5 hx hZ hown hml (W 1 rfl) (W 2 rfl) (W 3 rfl) (W 4 rfl) (rm18_state l Z a0 hw o_DELETION h0 n0 O0 (S_o_DELETION)) K5 (hb hby at_60) 1 #[iv p1, iv p2, iv (4 : Int32), iv (0 : Int32), rv o_DELETION, rv o_NEW, rv o_DELETION, iv (4 : Int32)] [(.int (4 : Int32))] [(.ref o_DELETION)] pd_6 (by decide) rfl rfl rfl (Nat.le_of_eq rfl)
  obtain ⟨rfl, N7q, K7⟩ := hQ7
  have N8 := Fr.app N6 N7q
  refine ⟨T7, some (.int (1 : Int32)), _, _, _, X7, by decide, by decide, nofun, ?_, fun fs hr => castTop (ef_31 m p1 p2) ?_⟩
  · exact ⟨rfl, N8⟩
  · show SS p e below s₁ m 0 #[iv p1, iv p2, .unset, .unset, .unset, .unset, .unset, .unset] [] _
    refine XS.iloadN X0.here hx rfl (hb hby at_0) rfl ?_
    show SS p e below s₁ m 1 #[iv p1, iv p2, .unset, .unset, .unset, .unset, .unset, .unset] [(.int p1)] _
    refine X0.ldcInt hx hown (mvT hZ (W 0 rfl)) (g := (mkF m 1 #[iv p1, iv p2, .unset, .unset, .unset, .unset, .unset, .unset] [(.int p1)])) rfl (hb hby at_1) _ ?_
    show SS p e below s₁ m 3 #[iv p1, iv p2, .unset, .unset, .unset, .unset, .unset, .unset] [(.int (2147483647 : Int32)), (.int p1)] _
    refine XS.iand X0.here hx rfl (hb hby at_3) rfl ?_
    show SS p e below s₁ m 4 #[iv p1, iv p2, .unset, .unset, .unset, .unset, .unset, .unset] [(.int (p1 &&& (2147483647 : Int32)))] _
    refine XS.iconst X0.here hx rfl (hb hby at_4) ?_
    show SS p e below s₁ m 5 #[iv p1, iv p2, .unset, .unset, .unset, .unset, .unset, .unset] [(.int (5 : Int32)), (.int (p1 &&& (2147483647 : Int32)))] _
    refine iremM (g := (mkF m 5 #[iv p1, iv p2, .unset, .unset, .unset, .unset, .unset, .unset] [(.int (5 : Int32)), (.int (p1 &&& (2147483647 : Int32)))])) X0 hx rfl (hb hby at_5) rfl (by decide : ¬ ((5 : Int32) = (0 : Int32))) ?_
    rw [hs]
    show SS p e below s₁ m 6 #[iv p1, iv p2, .unset, .unset, .unset, .unset, .unset, .unset] [(.int (4 : Int32))] _
    refine XS.istoreN X0.here hx rfl (hb hby at_6) rfl (l' := #[iv p1, iv p2, iv (4 : Int32), .unset, .unset, .unset, .unset, .unset]) rfl ?_
    show SS p e below s₁ m 7 #[iv p1, iv p2, iv (4 : Int32), .unset, .unset, .unset, .unset, .unset] [] _
    refine XS.iloadN X0.here hx rfl (hb hby at_7) rfl ?_
    refine XS.iconst X0.here hx rfl (hb hby at_8) ?_
    show SS p e below s₁ m 9 #[iv p1, iv p2, iv (4 : Int32), .unset, .unset, .unset, .unset, .unset] [(.int (3 : Int32)), (.int p2)] _
    refine XS.iand X0.here hx rfl (hb hby at_9) rfl ?_
    rw [hf]
    show SS p e below s₁ m 10 #[iv p1, iv p2, iv (4 : Int32), .unset, .unset, .unset, .unset, .unset] [(.int (0 : Int32))] _
    refine XS.istoreN X0.here hx rfl (hb hby at_10) rfl (l' := #[iv p1, iv p2, iv (4 : Int32), iv (0 : Int32), .unset, .unset, .unset, .unset]) rfl ?_
    show SS p e below s₁ m 11 #[iv p1, iv p2, iv (4 : Int32), iv (0 : Int32), .unset, .unset, .unset, .unset] [] _
    refine XS.iloadN X0.here hx rfl (hb hby at_11) rfl ?_
    show SS p e below s₁ m 12 #[iv p1, iv p2, iv (4 : Int32), iv (0 : Int32), .unset, .unset, .unset, .unset] [(.int (4 : Int32))] _
    refine st1 _ ?_
    show SS p e below T1 m 15 #[iv p1, iv p2, iv (4 : Int32), iv (0 : Int32), .unset, .unset, .unset, .unset] [(.ref o_DELETION)] _
    refine XS.astore X1.here hx rfl (hb hby at_15) rfl rfl (l' := #[iv p1, iv p2, iv (4 : Int32), iv (0 : Int32), rv o_DELETION, .unset, .unset, .unset]) rfl ?_
    show SS p e below T1 m 17 #[iv p1, iv p2, iv (4 : Int32), iv (0 : Int32), rv o_DELETION, .unset, .unset, .unset] [] _
    refine XS.iloadN X1.here hx rfl (hb hby at_17) rfl ?_
    show SS p e below T1 m 18 #[iv p1, iv p2, iv (4 : Int32), iv (0 : Int32), rv o_DELETION, .unset, .unset, .unset] [(.int (0 : Int32))] _
    refine st3 _ ?_
    show SS p e below T3 m 21 #[iv p1, iv p2, iv (4 : Int32), iv (0 : Int32), rv o_DELETION, .unset, .unset, .unset] [(.ref o_NEW)] _
    refine XS.astore X3.here hx rfl (hb hby at_21) rfl rfl (l' := #[iv p1, iv p2, iv (4 : Int32), iv (0 : Int32), rv o_DELETION, rv o_NEW, .unset, .unset]) rfl ?_
    show SS p e below T3 m 23 #[iv p1, iv p2, iv (4 : Int32), iv (0 : Int32), rv o_DELETION, rv o_NEW, .unset, .unset] [] _
    refine XS.aload X3.here hx rfl (hb hby at_23) rfl rfl ?_
    refine XS.aload X3.here hx rfl (hb hby at_25) rfl rfl ?_
    show SS p e below T3 m 27 #[iv p1, iv p2, iv (4 : Int32), iv (0 : Int32), rv o_DELETION, rv o_NEW, .unset, .unset] [(.ref o_NEW), (.ref o_DELETION)] _
    refine st5 _ ?_
    show SS p e below T5 m 30 #[iv p1, iv p2, iv (4 : Int32), iv (0 : Int32), rv o_DELETION, rv o_NEW, .unset, .unset] [(.ref o_DELETION)] _
    refine XS.astore X5.here hx rfl (hb hby at_30) rfl rfl (l' := #[iv p1, iv p2, iv (4 : Int32), iv (0 : Int32), rv o_DELETION, rv o_NEW, rv o_DELETION, .unset]) rfl ?_
    show SS p e below T5 m 32 #[iv p1, iv p2, iv (4 : Int32), iv (0 : Int32), rv o_DELETION, rv o_NEW, rv o_DELETION, .unset] [] _
    refine XS.iloadN X5.here hx rfl (hb hby at_32) rfl ?_
    refine XS.iconst X5.here hx rfl (hb hby at_33) ?_
    show SS p e below T5 m 34 #[iv p1, iv p2, iv (4 : Int32), iv (0 : Int32), rv o_DELETION, rv o_NEW, rv o_DELETION, .unset] [(.int (2 : Int32)), (.int (4 : Int32))] _
    refine XS.icmpNo X5.here hx rfl (hb hby at_34) rfl (flt (by decide : ¬ ((4 : Int32) < (2 : Int32)))).1 ?_
    show SS p e below T5 m 37 #[iv p1, iv p2, iv (4 : Int32), iv (0 : Int32), rv o_DELETION, rv o_NEW, rv o_DELETION, .unset] [] _
    refine XS.iloadN X5.here hx rfl (hb hby at_37) rfl ?_
    show SS p e below T5 m 38 #[iv p1, iv p2, iv (4 : Int32), iv (0 : Int32), rv o_DELETION, rv o_NEW, rv o_DELETION, .unset] [(.int (4 : Int32))] _
    refine XS.istore X5.here hx rfl (hb hby at_38) rfl (l' := #[iv p1, iv p2, iv (4 : Int32), iv (0 : Int32), rv o_DELETION, rv o_NEW, rv o_DELETION, iv (4 : Int32)]) rfl ?_
    show SS p e below T5 m 40 #[iv p1, iv p2, iv (4 : Int32), iv (0 : Int32), rv o_DELETION, rv o_NEW, rv o_DELETION, iv (4 : Int32)] [] _
    refine XS.goto X5.here hx rfl (pc0 := 40) (pc' := 56) rfl (hb hby at_40) (by decide) (by decide) ?_
    refine XS.aload X5.here hx rfl (hb hby at_56) rfl rfl ?_
    refine XS.iload X5.here hx rfl (hb hby at_58) rfl ?_
    show SS p e below T5 m 60 #[iv p1, iv p2, iv (4 : Int32), iv (0 : Int32), rv o_DELETION, rv o_NEW, rv o_DELETION, iv (4 : Int32)] [(.int (4 : Int32)), (.ref o_DELETION)] _
    refine st7 _ ?_
    show SS p e below T7 m 63 #[iv p1, iv p2, iv (4 : Int32), iv (0 : Int32), rv o_DELETION, rv o_NEW, rv o_DELETION, iv (4 : Int32)] [(.ref o_DELETION), (.ref o_DELETION)] _
    refine Jvm.RoadKit.acmp (g := (mkF m 63 #[iv p1, iv p2, iv (4 : Int32), iv (0 : Int32), rv o_DELETION, rv o_NEW, rv o_DELETION, iv (4 : Int32)] [(.ref o_DELETION), (.ref o_DELETION)])) X7 hx rfl rfl rfl (pc0 := 63) (pc' := 66) (same := true) rfl (hb hby at_63) rfl (decide_eq_true rfl) (by decide) (by decide) ?_
    show SS p e below T7 m 66 #[iv p1, iv p2, iv (4 : Int32), iv (0 : Int32), rv o_DELETION, rv o_NEW, rv o_DELETION, iv (4 : Int32)] [] _
    refine XS.iconst X7.here hx rfl (hb hby at_66) ?_
    refine XS.goto X7.here hx rfl (pc0 := 67) (pc' := 71) rfl (hb hby at_67) (by decide) (by decide) ?_
    show SS p e below T7 m 71 #[iv p1, iv p2, iv (4 : Int32), iv (0 : Int32), rv o_DELETION, rv o_NEW, rv o_DELETION, iv (4 : Int32)] [(.int (1 : Int32))] _
    exact retN X7 hx (t := .boolean) hret (by simp) (hb hby at_71) hr
set_option maxRecDepth 65536 in
set_option maxHeartbeats 40000000 in
theorem rm0_4_1 (l : Launch) (Z : State) (a0 : Array Value) (hw : HW Z a0) (ws : List Jvm.Cond) (p1 : Int32) (p2 : Int32) (o_CURRENT : Addr) (o_DELETE : Addr) (o_REPLACE : Addr) (o_NO_LONGER_RELEVANT : Addr) (o_DELETION : Addr) (o_APPEND : Addr) (o_CURRENT_APPENDED : Addr) (o_NEW : Addr) (o_REPLACED : Addr) (h0 : Heap) (n0 : Nat) (O0 : Old Z n0 h0) (S_o_CURRENT : SA6 Z Z.heap (.ref o_CURRENT)) (E_o_CURRENT : EA4 Z Z.heap o_CURRENT) (S_o_DELETE : SA9 Z Z.heap (.ref o_DELETE)) (E_o_DELETE : EA5 Z Z.heap o_DELETE) (S_o_REPLACE : SA8 Z Z.heap (.ref o_REPLACE)) (E_o_REPLACE : EA5 Z Z.heap o_REPLACE) (S_o_NO_LONGER_RELEVANT : SA11 Z Z.heap (.ref o_NO_LONGER_RELEVANT)) (E_o_NO_LONGER_RELEVANT : EA4 Z Z.heap o_NO_LONGER_RELEVANT) (S_o_DELETION : SA12 Z Z.heap (.ref o_DELETION)) (E_o_DELETION : EA4 Z Z.heap o_DELETION) (S_o_APPEND : SA10 Z Z.heap (.ref o_APPEND)) (E_o_APPEND : EA5 Z Z.heap o_APPEND) (S_o_CURRENT_APPENDED : SA13 Z Z.heap (.ref o_CURRENT_APPENDED)) (E_o_CURRENT_APPENDED : EA4 Z Z.heap o_CURRENT_APPENDED) (S_o_NEW : SA7 Z Z.heap (.ref o_NEW)) (E_o_NEW : EA5 Z Z.heap o_NEW) (S_o_REPLACED : SA14 Z Z.heap (.ref o_REPLACED)) (E_o_REPLACED : EA4 Z Z.heap o_REPLACED) (F_o_DELETE_ordinal : FA3 Z Z.heap o_DELETE (.int (3 : Int32))) (F_o_REPLACE_ordinal : FA3 Z Z.heap o_REPLACE (.int (2 : Int32))) (F_o_DELETION_ordinal : FA3 Z Z.heap o_DELETION (.int (4 : Int32))) (F_o_CURRENT_ordinal : FA3 Z Z.heap o_CURRENT (.int (0 : Int32))) (F_o_CURRENT_APPENDED_ordinal : FA3 Z Z.heap o_CURRENT_APPENDED (.int (1 : Int32))) (F_o_NO_LONGER_RELEVANT_ordinal : FA3 Z Z.heap o_NO_LONGER_RELEVANT (.int (3 : Int32))) (F_o_NEW_ordinal : FA3 Z Z.heap o_NEW (.int (0 : Int32))) (F_o_APPEND_ordinal : FA3 Z Z.heap o_APPEND (.int (1 : Int32))) (F_o_REPLACED_ordinal : FA3 Z Z.heap o_REPLACED (.int (2 : Int32))) (hs : ((p1 &&& (2147483647 : Int32)) % (5 : Int32)) = (4 : Int32)) (hf : (p2 &&& (3 : Int32)) = (1 : Int32)) :
    Met l Z ws x code maxLocals ret room_1 #[(.int p1), (.int p2)] h0 (fun v _ L => Q0 n0 v L) := by
  have W := fun (i : Nat) {c : Jvm.Cond} (q : tables_1[i]? = some c) => hw c (List.mem_of_getElem? q)
  refine own_mk (plainFor_of_name pn_5) ?_
  intro p e s m below meth c s₁ hZ hx hby hml hown hnm hret hlk X0 e0
  have N0 := Fr.nil n0
  obtain ⟨_, T1, L1, X1, hQ1, st1⟩ := own_cs X0 hx hZ hown hml (W 1 rfl) (W 2 rfl) (W 3 rfl) (W 4 rfl) (rm18_state l Z a0 hw o_DELETION h0 n0 O0 (S_o_DELETION)) e0 (hb hby at_12) 0 #[iv p1, iv p2, iv (4 : Int32), iv (1 : Int32), .unset, .unset, .unset, .unset] [(.int (4 : Int32))] [] pd_6 (by decide) rfl rfl rfl (Nat.le_of_eq rfl)
  obtain ⟨rfl, N1q, K1⟩ := hQ1
  have N2 := Fr.app N0 N1q
  obtain ⟨_, T3, L3, X3, hQ3, st3⟩ := own_cs X1 hx hZ hown hml (W 8 rfl) (W 9 rfl) (W 3 rfl) (W 10 rfl) (rm4_operation l Z a0 hw o_APPEND h0 n0 O0 (S_o_APPEND)) K1 (hb hby at_18) 0 #[iv p1, iv p2, iv (4 : Int32), iv (1 : Int32), rv o_DELETION, .unset, .unset, .unset] [(.int (1 : Int32))] [] pd_11 (by decide) rfl rfl rfl (Nat.le_of_eq rfl)
  obtain ⟨rfl, N3q, K3⟩ := hQ3
  have N4 := Fr.app N2 N3q
  obtain ⟨_, T5, L5, X5, hQ5, st5⟩ := own_cv X3 hx hZ hown hml (W 14 rfl) (W 15 rfl) (notFace_of_selects (W 17 rfl)) (W 17 rfl) (W 16 rfl) (W 6 rfl) (W 18 rfl) (rm17_after l Z a0 hw o_DELETION o_APPEND o_CURRENT o_CURRENT_APPENDED h0 n0 O0 (S_o_CURRENT) ((Fld.ne F_o_DELETION_ordinal F_o_CURRENT_ordinal (by decide))) (S_o_CURRENT_APPENDED) ((Fld.ne F_o_DELETION_ordinal F_o_CURRENT_APPENDED_ordinal (by decide)))) K3 (E_o_DELETION.ext O0.2) (hb hby at_27) 0 #[iv p1, iv p2, iv (4 : Int32), iv (1 : Int32), rv o_DELETION, rv o_APPEND, .unset, .unset] [(.ref o_APPEND)] [] pd_30 (by decide) rfl rfl rfl (Nat.le_of_eq rfl)
  obtain ⟨rfl, N5q, K5⟩ := hQ5
  have N6 := Fr.app N4 N5q
  obtain ⟨_, T7, L7, X7, hQ7, st7⟩ := own_cs X5 hx hZ hown hml (W 1 rfl) (W 2 rfl) (W 3 rfl) (W 4 rfl) (rm18_state l Z a0 hw o_DELETION h0 n0 O0 (S_o_DELETION)) K5 (hb hby at_60) 1 #[iv p1, iv p2, iv (4 : Int32), iv (1 : Int32), rv o_DELETION, rv o_APPEND, rv o_DELETION, iv (4 : Int32)] [(.int (4 : Int32))] [(.ref o_DELETION)] pd_6 (by decide) rfl rfl rfl (Nat.le_of_eq rfl)
  obtain ⟨rfl, N7q, K7⟩ := hQ7
  have N8 := Fr.app N6 N7q
  refine ⟨T7, some (.int (1 : Int32)), _, _, _, X7, by decide, by decide, nofun, ?_, fun fs hr => castTop (ef_31 m p1 p2) ?_⟩
  · exact ⟨rfl, N8⟩
  · show SS p e below s₁ m 0 #[iv p1, iv p2, .unset, .unset, .unset, .unset, .unset, .unset] [] _
    refine XS.iloadN X0.here hx rfl (hb hby at_0) rfl ?_
    show SS p e below s₁ m 1 #[iv p1, iv p2, .unset, .unset, .unset, .unset, .unset, .unset] [(.int p1)] _
    refine X0.ldcInt hx hown (mvT hZ (W 0 rfl)) (g := (mkF m 1 #[iv p1, iv p2, .unset, .unset, .unset, .unset, .unset, .unset] [(.int p1)])) rfl (hb hby at_1) _ ?_
    show SS p e below s₁ m 3 #[iv p1, iv p2, .unset, .unset, .unset, .unset, .unset, .unset] [(.int (2147483647 : Int32)), (.int p1)] _
    refine XS.iand X0.here hx rfl (hb hby at_3) rfl ?_
    show SS p e below s₁ m 4 #[iv p1, iv p2, .unset, .unset, .unset, .unset, .unset, .unset] [(.int (p1 &&& (2147483647 : Int32)))] _
    refine XS.iconst X0.here hx rfl (hb hby at_4) ?_
    show SS p e below s₁ m 5 #[iv p1, iv p2, .unset, .unset, .unset, .unset, .unset, .unset] [(.int (5 : Int32)), (.int (p1 &&& (2147483647 : Int32)))] _
    refine iremM (g := (mkF m 5 #[iv p1, iv p2, .unset, .unset, .unset, .unset, .unset, .unset] [(.int (5 : Int32)), (.int (p1 &&& (2147483647 : Int32)))])) X0 hx rfl (hb hby at_5) rfl (by decide : ¬ ((5 : Int32) = (0 : Int32))) ?_
    rw [hs]
    show SS p e below s₁ m 6 #[iv p1, iv p2, .unset, .unset, .unset, .unset, .unset, .unset] [(.int (4 : Int32))] _
    refine XS.istoreN X0.here hx rfl (hb hby at_6) rfl (l' := #[iv p1, iv p2, iv (4 : Int32), .unset, .unset, .unset, .unset, .unset]) rfl ?_
    show SS p e below s₁ m 7 #[iv p1, iv p2, iv (4 : Int32), .unset, .unset, .unset, .unset, .unset] [] _
    refine XS.iloadN X0.here hx rfl (hb hby at_7) rfl ?_
    refine XS.iconst X0.here hx rfl (hb hby at_8) ?_
    show SS p e below s₁ m 9 #[iv p1, iv p2, iv (4 : Int32), .unset, .unset, .unset, .unset, .unset] [(.int (3 : Int32)), (.int p2)] _
    refine XS.iand X0.here hx rfl (hb hby at_9) rfl ?_
    rw [hf]
    show SS p e below s₁ m 10 #[iv p1, iv p2, iv (4 : Int32), .unset, .unset, .unset, .unset, .unset] [(.int (1 : Int32))] _
    refine XS.istoreN X0.here hx rfl (hb hby at_10) rfl (l' := #[iv p1, iv p2, iv (4 : Int32), iv (1 : Int32), .unset, .unset, .unset, .unset]) rfl ?_
    show SS p e below s₁ m 11 #[iv p1, iv p2, iv (4 : Int32), iv (1 : Int32), .unset, .unset, .unset, .unset] [] _
    refine XS.iloadN X0.here hx rfl (hb hby at_11) rfl ?_
    show SS p e below s₁ m 12 #[iv p1, iv p2, iv (4 : Int32), iv (1 : Int32), .unset, .unset, .unset, .unset] [(.int (4 : Int32))] _
    refine st1 _ ?_
    show SS p e below T1 m 15 #[iv p1, iv p2, iv (4 : Int32), iv (1 : Int32), .unset, .unset, .unset, .unset] [(.ref o_DELETION)] _
    refine XS.astore X1.here hx rfl (hb hby at_15) rfl rfl (l' := #[iv p1, iv p2, iv (4 : Int32), iv (1 : Int32), rv o_DELETION, .unset, .unset, .unset]) rfl ?_
    show SS p e below T1 m 17 #[iv p1, iv p2, iv (4 : Int32), iv (1 : Int32), rv o_DELETION, .unset, .unset, .unset] [] _
    refine XS.iloadN X1.here hx rfl (hb hby at_17) rfl ?_
    show SS p e below T1 m 18 #[iv p1, iv p2, iv (4 : Int32), iv (1 : Int32), rv o_DELETION, .unset, .unset, .unset] [(.int (1 : Int32))] _
    refine st3 _ ?_
    show SS p e below T3 m 21 #[iv p1, iv p2, iv (4 : Int32), iv (1 : Int32), rv o_DELETION, .unset, .unset, .unset] [(.ref o_APPEND)] _
    refine XS.astore X3.here hx rfl (hb hby at_21) rfl rfl (l' := #[iv p1, iv p2, iv (4 : Int32), iv (1 : Int32), rv o_DELETION, rv o_APPEND, .unset, .unset]) rfl ?_
    show SS p e below T3 m 23 #[iv p1, iv p2, iv (4 : Int32), iv (1 : Int32), rv o_DELETION, rv o_APPEND, .unset, .unset] [] _
    refine XS.aload X3.here hx rfl (hb hby at_23) rfl rfl ?_
    refine XS.aload X3.here hx rfl (hb hby at_25) rfl rfl ?_
    show SS p e below T3 m 27 #[iv p1, iv p2, iv (4 : Int32), iv (1 : Int32), rv o_DELETION, rv o_APPEND, .unset, .unset] [(.ref o_APPEND), (.ref o_DELETION)] _
    refine st5 _ ?_
    show SS p e below T5 m 30 #[iv p1, iv p2, iv (4 : Int32), iv (1 : Int32), rv o_DELETION, rv o_APPEND, .unset, .unset] [(.ref o_DELETION)] _
    refine XS.astore X5.here hx rfl (hb hby at_30) rfl rfl (l' := #[iv p1, iv p2, iv (4 : Int32), iv (1 : Int32), rv o_DELETION, rv o_APPEND, rv o_DELETION, .unset]) rfl ?_
    show SS p e below T5 m 32 #[iv p1, iv p2, iv (4 : Int32), iv (1 : Int32), rv o_DELETION, rv o_APPEND, rv o_DELETION, .unset] [] _
    refine XS.iloadN X5.here hx rfl (hb hby at_32) rfl ?_
    refine XS.iconst X5.here hx rfl (hb hby at_33) ?_
    show SS p e below T5 m 34 #[iv p1, iv p2, iv (4 : Int32), iv (1 : Int32), rv o_DELETION, rv o_APPEND, rv o_DELETION, .unset] [(.int (2 : Int32)), (.int (4 : Int32))] _
    refine XS.icmpNo X5.here hx rfl (hb hby at_34) rfl (flt (by decide : ¬ ((4 : Int32) < (2 : Int32)))).1 ?_
    show SS p e below T5 m 37 #[iv p1, iv p2, iv (4 : Int32), iv (1 : Int32), rv o_DELETION, rv o_APPEND, rv o_DELETION, .unset] [] _
    refine XS.iloadN X5.here hx rfl (hb hby at_37) rfl ?_
    show SS p e below T5 m 38 #[iv p1, iv p2, iv (4 : Int32), iv (1 : Int32), rv o_DELETION, rv o_APPEND, rv o_DELETION, .unset] [(.int (4 : Int32))] _
    refine XS.istore X5.here hx rfl (hb hby at_38) rfl (l' := #[iv p1, iv p2, iv (4 : Int32), iv (1 : Int32), rv o_DELETION, rv o_APPEND, rv o_DELETION, iv (4 : Int32)]) rfl ?_
    show SS p e below T5 m 40 #[iv p1, iv p2, iv (4 : Int32), iv (1 : Int32), rv o_DELETION, rv o_APPEND, rv o_DELETION, iv (4 : Int32)] [] _
    refine XS.goto X5.here hx rfl (pc0 := 40) (pc' := 56) rfl (hb hby at_40) (by decide) (by decide) ?_
    refine XS.aload X5.here hx rfl (hb hby at_56) rfl rfl ?_
    refine XS.iload X5.here hx rfl (hb hby at_58) rfl ?_
    show SS p e below T5 m 60 #[iv p1, iv p2, iv (4 : Int32), iv (1 : Int32), rv o_DELETION, rv o_APPEND, rv o_DELETION, iv (4 : Int32)] [(.int (4 : Int32)), (.ref o_DELETION)] _
    refine st7 _ ?_
    show SS p e below T7 m 63 #[iv p1, iv p2, iv (4 : Int32), iv (1 : Int32), rv o_DELETION, rv o_APPEND, rv o_DELETION, iv (4 : Int32)] [(.ref o_DELETION), (.ref o_DELETION)] _
    refine Jvm.RoadKit.acmp (g := (mkF m 63 #[iv p1, iv p2, iv (4 : Int32), iv (1 : Int32), rv o_DELETION, rv o_APPEND, rv o_DELETION, iv (4 : Int32)] [(.ref o_DELETION), (.ref o_DELETION)])) X7 hx rfl rfl rfl (pc0 := 63) (pc' := 66) (same := true) rfl (hb hby at_63) rfl (decide_eq_true rfl) (by decide) (by decide) ?_
    show SS p e below T7 m 66 #[iv p1, iv p2, iv (4 : Int32), iv (1 : Int32), rv o_DELETION, rv o_APPEND, rv o_DELETION, iv (4 : Int32)] [] _
    refine XS.iconst X7.here hx rfl (hb hby at_66) ?_
    refine XS.goto X7.here hx rfl (pc0 := 67) (pc' := 71) rfl (hb hby at_67) (by decide) (by decide) ?_
    show SS p e below T7 m 71 #[iv p1, iv p2, iv (4 : Int32), iv (1 : Int32), rv o_DELETION, rv o_APPEND, rv o_DELETION, iv (4 : Int32)] [(.int (1 : Int32))] _
    exact retN X7 hx (t := .boolean) hret (by simp) (hb hby at_71) hr
set_option maxRecDepth 65536 in
set_option maxHeartbeats 40000000 in
theorem rm0_4_2 (l : Launch) (Z : State) (a0 : Array Value) (hw : HW Z a0) (ws : List Jvm.Cond) (p1 : Int32) (p2 : Int32) (o_CURRENT : Addr) (o_DELETE : Addr) (o_REPLACE : Addr) (o_NO_LONGER_RELEVANT : Addr) (o_DELETION : Addr) (o_APPEND : Addr) (o_CURRENT_APPENDED : Addr) (o_NEW : Addr) (o_REPLACED : Addr) (h0 : Heap) (n0 : Nat) (O0 : Old Z n0 h0) (S_o_CURRENT : SA6 Z Z.heap (.ref o_CURRENT)) (E_o_CURRENT : EA4 Z Z.heap o_CURRENT) (S_o_DELETE : SA9 Z Z.heap (.ref o_DELETE)) (E_o_DELETE : EA5 Z Z.heap o_DELETE) (S_o_REPLACE : SA8 Z Z.heap (.ref o_REPLACE)) (E_o_REPLACE : EA5 Z Z.heap o_REPLACE) (S_o_NO_LONGER_RELEVANT : SA11 Z Z.heap (.ref o_NO_LONGER_RELEVANT)) (E_o_NO_LONGER_RELEVANT : EA4 Z Z.heap o_NO_LONGER_RELEVANT) (S_o_DELETION : SA12 Z Z.heap (.ref o_DELETION)) (E_o_DELETION : EA4 Z Z.heap o_DELETION) (S_o_APPEND : SA10 Z Z.heap (.ref o_APPEND)) (E_o_APPEND : EA5 Z Z.heap o_APPEND) (S_o_CURRENT_APPENDED : SA13 Z Z.heap (.ref o_CURRENT_APPENDED)) (E_o_CURRENT_APPENDED : EA4 Z Z.heap o_CURRENT_APPENDED) (S_o_NEW : SA7 Z Z.heap (.ref o_NEW)) (E_o_NEW : EA5 Z Z.heap o_NEW) (S_o_REPLACED : SA14 Z Z.heap (.ref o_REPLACED)) (E_o_REPLACED : EA4 Z Z.heap o_REPLACED) (F_o_DELETE_ordinal : FA3 Z Z.heap o_DELETE (.int (3 : Int32))) (F_o_REPLACE_ordinal : FA3 Z Z.heap o_REPLACE (.int (2 : Int32))) (F_o_DELETION_ordinal : FA3 Z Z.heap o_DELETION (.int (4 : Int32))) (F_o_CURRENT_ordinal : FA3 Z Z.heap o_CURRENT (.int (0 : Int32))) (F_o_CURRENT_APPENDED_ordinal : FA3 Z Z.heap o_CURRENT_APPENDED (.int (1 : Int32))) (F_o_NO_LONGER_RELEVANT_ordinal : FA3 Z Z.heap o_NO_LONGER_RELEVANT (.int (3 : Int32))) (F_o_NEW_ordinal : FA3 Z Z.heap o_NEW (.int (0 : Int32))) (F_o_APPEND_ordinal : FA3 Z Z.heap o_APPEND (.int (1 : Int32))) (F_o_REPLACED_ordinal : FA3 Z Z.heap o_REPLACED (.int (2 : Int32))) (hs : ((p1 &&& (2147483647 : Int32)) % (5 : Int32)) = (4 : Int32)) (hf : (p2 &&& (3 : Int32)) = (2 : Int32)) :
    Met l Z ws x code maxLocals ret room_1 #[(.int p1), (.int p2)] h0 (fun v _ L => Q0 n0 v L) := by
  have W := fun (i : Nat) {c : Jvm.Cond} (q : tables_1[i]? = some c) => hw c (List.mem_of_getElem? q)
  refine own_mk (plainFor_of_name pn_5) ?_
  intro p e s m below meth c s₁ hZ hx hby hml hown hnm hret hlk X0 e0
  have N0 := Fr.nil n0
  obtain ⟨_, T1, L1, X1, hQ1, st1⟩ := own_cs X0 hx hZ hown hml (W 1 rfl) (W 2 rfl) (W 3 rfl) (W 4 rfl) (rm18_state l Z a0 hw o_DELETION h0 n0 O0 (S_o_DELETION)) e0 (hb hby at_12) 0 #[iv p1, iv p2, iv (4 : Int32), iv (2 : Int32), .unset, .unset, .unset, .unset] [(.int (4 : Int32))] [] pd_6 (by decide) rfl rfl rfl (Nat.le_of_eq rfl)
  obtain ⟨rfl, N1q, K1⟩ := hQ1
  have N2 := Fr.app N0 N1q
  obtain ⟨_, T3, L3, X3, hQ3, st3⟩ := own_cs X1 hx hZ hown hml (W 8 rfl) (W 9 rfl) (W 3 rfl) (W 10 rfl) (rm7_operation l Z a0 hw o_REPLACE h0 n0 O0 (S_o_REPLACE)) K1 (hb hby at_18) 0 #[iv p1, iv p2, iv (4 : Int32), iv (2 : Int32), rv o_DELETION, .unset, .unset, .unset] [(.int (2 : Int32))] [] pd_11 (by decide) rfl rfl rfl (Nat.le_of_eq rfl)
  obtain ⟨rfl, N3q, K3⟩ := hQ3
  have N4 := Fr.app N2 N3q
  obtain ⟨_, T5, L5, X5, hQ5, st5⟩ := own_cv X3 hx hZ hown hml (W 14 rfl) (W 15 rfl) (notFace_of_selects (W 17 rfl)) (W 17 rfl) (W 16 rfl) (W 6 rfl) (W 18 rfl) (rm17_after l Z a0 hw o_DELETION o_REPLACE o_CURRENT o_CURRENT_APPENDED h0 n0 O0 (S_o_CURRENT) ((Fld.ne F_o_DELETION_ordinal F_o_CURRENT_ordinal (by decide))) (S_o_CURRENT_APPENDED) ((Fld.ne F_o_DELETION_ordinal F_o_CURRENT_APPENDED_ordinal (by decide)))) K3 (E_o_DELETION.ext O0.2) (hb hby at_27) 0 #[iv p1, iv p2, iv (4 : Int32), iv (2 : Int32), rv o_DELETION, rv o_REPLACE, .unset, .unset] [(.ref o_REPLACE)] [] pd_30 (by decide) rfl rfl rfl (Nat.le_of_eq rfl)
  obtain ⟨rfl, N5q, K5⟩ := hQ5
  have N6 := Fr.app N4 N5q
  obtain ⟨_, T7, L7, X7, hQ7, st7⟩ := own_cs X5 hx hZ hown hml (W 1 rfl) (W 2 rfl) (W 3 rfl) (W 4 rfl) (rm18_state l Z a0 hw o_DELETION h0 n0 O0 (S_o_DELETION)) K5 (hb hby at_60) 1 #[iv p1, iv p2, iv (4 : Int32), iv (2 : Int32), rv o_DELETION, rv o_REPLACE, rv o_DELETION, iv (4 : Int32)] [(.int (4 : Int32))] [(.ref o_DELETION)] pd_6 (by decide) rfl rfl rfl (Nat.le_of_eq rfl)
  obtain ⟨rfl, N7q, K7⟩ := hQ7
  have N8 := Fr.app N6 N7q
  refine ⟨T7, some (.int (1 : Int32)), _, _, _, X7, by decide, by decide, nofun, ?_, fun fs hr => castTop (ef_31 m p1 p2) ?_⟩
  · exact ⟨rfl, N8⟩
  · show SS p e below s₁ m 0 #[iv p1, iv p2, .unset, .unset, .unset, .unset, .unset, .unset] [] _
    refine XS.iloadN X0.here hx rfl (hb hby at_0) rfl ?_
    show SS p e below s₁ m 1 #[iv p1, iv p2, .unset, .unset, .unset, .unset, .unset, .unset] [(.int p1)] _
    refine X0.ldcInt hx hown (mvT hZ (W 0 rfl)) (g := (mkF m 1 #[iv p1, iv p2, .unset, .unset, .unset, .unset, .unset, .unset] [(.int p1)])) rfl (hb hby at_1) _ ?_
    show SS p e below s₁ m 3 #[iv p1, iv p2, .unset, .unset, .unset, .unset, .unset, .unset] [(.int (2147483647 : Int32)), (.int p1)] _
    refine XS.iand X0.here hx rfl (hb hby at_3) rfl ?_
    show SS p e below s₁ m 4 #[iv p1, iv p2, .unset, .unset, .unset, .unset, .unset, .unset] [(.int (p1 &&& (2147483647 : Int32)))] _
    refine XS.iconst X0.here hx rfl (hb hby at_4) ?_
    show SS p e below s₁ m 5 #[iv p1, iv p2, .unset, .unset, .unset, .unset, .unset, .unset] [(.int (5 : Int32)), (.int (p1 &&& (2147483647 : Int32)))] _
    refine iremM (g := (mkF m 5 #[iv p1, iv p2, .unset, .unset, .unset, .unset, .unset, .unset] [(.int (5 : Int32)), (.int (p1 &&& (2147483647 : Int32)))])) X0 hx rfl (hb hby at_5) rfl (by decide : ¬ ((5 : Int32) = (0 : Int32))) ?_
    rw [hs]
    show SS p e below s₁ m 6 #[iv p1, iv p2, .unset, .unset, .unset, .unset, .unset, .unset] [(.int (4 : Int32))] _
    refine XS.istoreN X0.here hx rfl (hb hby at_6) rfl (l' := #[iv p1, iv p2, iv (4 : Int32), .unset, .unset, .unset, .unset, .unset]) rfl ?_
    show SS p e below s₁ m 7 #[iv p1, iv p2, iv (4 : Int32), .unset, .unset, .unset, .unset, .unset] [] _
    refine XS.iloadN X0.here hx rfl (hb hby at_7) rfl ?_
    refine XS.iconst X0.here hx rfl (hb hby at_8) ?_
    show SS p e below s₁ m 9 #[iv p1, iv p2, iv (4 : Int32), .unset, .unset, .unset, .unset, .unset] [(.int (3 : Int32)), (.int p2)] _
    refine XS.iand X0.here hx rfl (hb hby at_9) rfl ?_
    rw [hf]
    show SS p e below s₁ m 10 #[iv p1, iv p2, iv (4 : Int32), .unset, .unset, .unset, .unset, .unset] [(.int (2 : Int32))] _
    refine XS.istoreN X0.here hx rfl (hb hby at_10) rfl (l' := #[iv p1, iv p2, iv (4 : Int32), iv (2 : Int32), .unset, .unset, .unset, .unset]) rfl ?_
    show SS p e below s₁ m 11 #[iv p1, iv p2, iv (4 : Int32), iv (2 : Int32), .unset, .unset, .unset, .unset] [] _
    refine XS.iloadN X0.here hx rfl (hb hby at_11) rfl ?_
    show SS p e below s₁ m 12 #[iv p1, iv p2, iv (4 : Int32), iv (2 : Int32), .unset, .unset, .unset, .unset] [(.int (4 : Int32))] _
    refine st1 _ ?_
    show SS p e below T1 m 15 #[iv p1, iv p2, iv (4 : Int32), iv (2 : Int32), .unset, .unset, .unset, .unset] [(.ref o_DELETION)] _
    refine XS.astore X1.here hx rfl (hb hby at_15) rfl rfl (l' := #[iv p1, iv p2, iv (4 : Int32), iv (2 : Int32), rv o_DELETION, .unset, .unset, .unset]) rfl ?_
    show SS p e below T1 m 17 #[iv p1, iv p2, iv (4 : Int32), iv (2 : Int32), rv o_DELETION, .unset, .unset, .unset] [] _
    refine XS.iloadN X1.here hx rfl (hb hby at_17) rfl ?_
    show SS p e below T1 m 18 #[iv p1, iv p2, iv (4 : Int32), iv (2 : Int32), rv o_DELETION, .unset, .unset, .unset] [(.int (2 : Int32))] _
    refine st3 _ ?_
    show SS p e below T3 m 21 #[iv p1, iv p2, iv (4 : Int32), iv (2 : Int32), rv o_DELETION, .unset, .unset, .unset] [(.ref o_REPLACE)] _
    refine XS.astore X3.here hx rfl (hb hby at_21) rfl rfl (l' := #[iv p1, iv p2, iv (4 : Int32), iv (2 : Int32), rv o_DELETION, rv o_REPLACE, .unset, .unset]) rfl ?_
    show SS p e below T3 m 23 #[iv p1, iv p2, iv (4 : Int32), iv (2 : Int32), rv o_DELETION, rv o_REPLACE, .unset, .unset] [] _
    refine XS.aload X3.here hx rfl (hb hby at_23) rfl rfl ?_
    refine XS.aload X3.here hx rfl (hb hby at_25) rfl rfl ?_
    show SS p e below T3 m 27 #[iv p1, iv p2, iv (4 : Int32), iv (2 : Int32), rv o_DELETION, rv o_REPLACE, .unset, .unset] [(.ref o_REPLACE), (.ref o_DELETION)] _
    refine st5 _ ?_
    show SS p e below T5 m 30 #[iv p1, iv p2, iv (4 : Int32), iv (2 : Int32), rv o_DELETION, rv o_REPLACE, .unset, .unset] [(.ref o_DELETION)] _
    refine XS.astore X5.here hx rfl (hb hby at_30) rfl rfl (l' := #[iv p1, iv p2, iv (4 : Int32), iv (2 : Int32), rv o_DELETION, rv o_REPLACE, rv o_DELETION, .unset]) rfl ?_
    show SS p e below T5 m 32 #[iv p1, iv p2, iv (4 : Int32), iv (2 : Int32), rv o_DELETION, rv o_REPLACE, rv o_DELETION, .unset] [] _
    refine XS.iloadN X5.here hx rfl (hb hby at_32) rfl ?_
    refine XS.iconst X5.here hx rfl (hb hby at_33) ?_
    show SS p e below T5 m 34 #[iv p1, iv p2, iv (4 : Int32), iv (2 : Int32), rv o_DELETION, rv o_REPLACE, rv o_DELETION, .unset] [(.int (2 : Int32)), (.int (4 : Int32))] _
    refine XS.icmpNo X5.here hx rfl (hb hby at_34) rfl (flt (by decide : ¬ ((4 : Int32) < (2 : Int32)))).1 ?_
    show SS p e below T5 m 37 #[iv p1, iv p2, iv (4 : Int32), iv (2 : Int32), rv o_DELETION, rv o_REPLACE, rv o_DELETION, .unset] [] _
    refine XS.iloadN X5.here hx rfl (hb hby at_37) rfl ?_
    show SS p e below T5 m 38 #[iv p1, iv p2, iv (4 : Int32), iv (2 : Int32), rv o_DELETION, rv o_REPLACE, rv o_DELETION, .unset] [(.int (4 : Int32))] _
    refine XS.istore X5.here hx rfl (hb hby at_38) rfl (l' := #[iv p1, iv p2, iv (4 : Int32), iv (2 : Int32), rv o_DELETION, rv o_REPLACE, rv o_DELETION, iv (4 : Int32)]) rfl ?_
    show SS p e below T5 m 40 #[iv p1, iv p2, iv (4 : Int32), iv (2 : Int32), rv o_DELETION, rv o_REPLACE, rv o_DELETION, iv (4 : Int32)] [] _
    refine XS.goto X5.here hx rfl (pc0 := 40) (pc' := 56) rfl (hb hby at_40) (by decide) (by decide) ?_
    refine XS.aload X5.here hx rfl (hb hby at_56) rfl rfl ?_
    refine XS.iload X5.here hx rfl (hb hby at_58) rfl ?_
    show SS p e below T5 m 60 #[iv p1, iv p2, iv (4 : Int32), iv (2 : Int32), rv o_DELETION, rv o_REPLACE, rv o_DELETION, iv (4 : Int32)] [(.int (4 : Int32)), (.ref o_DELETION)] _
    refine st7 _ ?_
    show SS p e below T7 m 63 #[iv p1, iv p2, iv (4 : Int32), iv (2 : Int32), rv o_DELETION, rv o_REPLACE, rv o_DELETION, iv (4 : Int32)] [(.ref o_DELETION), (.ref o_DELETION)] _
    refine Jvm.RoadKit.acmp (g := (mkF m 63 #[iv p1, iv p2, iv (4 : Int32), iv (2 : Int32), rv o_DELETION, rv o_REPLACE, rv o_DELETION, iv (4 : Int32)] [(.ref o_DELETION), (.ref o_DELETION)])) X7 hx rfl rfl rfl (pc0 := 63) (pc' := 66) (same := true) rfl (hb hby at_63) rfl (decide_eq_true rfl) (by decide) (by decide) ?_
    show SS p e below T7 m 66 #[iv p1, iv p2, iv (4 : Int32), iv (2 : Int32), rv o_DELETION, rv o_REPLACE, rv o_DELETION, iv (4 : Int32)] [] _
    refine XS.iconst X7.here hx rfl (hb hby at_66) ?_
    refine XS.goto X7.here hx rfl (pc0 := 67) (pc' := 71) rfl (hb hby at_67) (by decide) (by decide) ?_
    show SS p e below T7 m 71 #[iv p1, iv p2, iv (4 : Int32), iv (2 : Int32), rv o_DELETION, rv o_REPLACE, rv o_DELETION, iv (4 : Int32)] [(.int (1 : Int32))] _
    exact retN X7 hx (t := .boolean) hret (by simp) (hb hby at_71) hr
set_option maxRecDepth 65536 in
set_option maxHeartbeats 40000000 in
theorem rm0_4_3 (l : Launch) (Z : State) (a0 : Array Value) (hw : HW Z a0) (ws : List Jvm.Cond) (p1 : Int32) (p2 : Int32) (o_CURRENT : Addr) (o_DELETE : Addr) (o_REPLACE : Addr) (o_NO_LONGER_RELEVANT : Addr) (o_DELETION : Addr) (o_APPEND : Addr) (o_CURRENT_APPENDED : Addr) (o_NEW : Addr) (o_REPLACED : Addr) (h0 : Heap) (n0 : Nat) (O0 : Old Z n0 h0) (S_o_CURRENT : SA6 Z Z.heap (.ref o_CURRENT)) (E_o_CURRENT : EA4 Z Z.heap o_CURRENT) (S_o_DELETE : SA9 Z Z.heap (.ref o_DELETE)) (E_o_DELETE : EA5 Z Z.heap o_DELETE) (S_o_REPLACE : SA8 Z Z.heap (.ref o_REPLACE)) (E_o_REPLACE : EA5 Z Z.heap o_REPLACE) (S_o_NO_LONGER_RELEVANT : SA11 Z Z.heap (.ref o_NO_LONGER_RELEVANT)) (E_o_NO_LONGER_RELEVANT : EA4 Z Z.heap o_NO_LONGER_RELEVANT) (S_o_DELETION : SA12 Z Z.heap (.ref o_DELETION)) (E_o_DELETION : EA4 Z Z.heap o_DELETION) (S_o_APPEND : SA10 Z Z.heap (.ref o_APPEND)) (E_o_APPEND : EA5 Z Z.heap o_APPEND) (S_o_CURRENT_APPENDED : SA13 Z Z.heap (.ref o_CURRENT_APPENDED)) (E_o_CURRENT_APPENDED : EA4 Z Z.heap o_CURRENT_APPENDED) (S_o_NEW : SA7 Z Z.heap (.ref o_NEW)) (E_o_NEW : EA5 Z Z.heap o_NEW) (S_o_REPLACED : SA14 Z Z.heap (.ref o_REPLACED)) (E_o_REPLACED : EA4 Z Z.heap o_REPLACED) (F_o_DELETE_ordinal : FA3 Z Z.heap o_DELETE (.int (3 : Int32))) (F_o_REPLACE_ordinal : FA3 Z Z.heap o_REPLACE (.int (2 : Int32))) (F_o_DELETION_ordinal : FA3 Z Z.heap o_DELETION (.int (4 : Int32))) (F_o_CURRENT_ordinal : FA3 Z Z.heap o_CURRENT (.int (0 : Int32))) (F_o_CURRENT_APPENDED_ordinal : FA3 Z Z.heap o_CURRENT_APPENDED (.int (1 : Int32))) (F_o_NO_LONGER_RELEVANT_ordinal : FA3 Z Z.heap o_NO_LONGER_RELEVANT (.int (3 : Int32))) (F_o_NEW_ordinal : FA3 Z Z.heap o_NEW (.int (0 : Int32))) (F_o_APPEND_ordinal : FA3 Z Z.heap o_APPEND (.int (1 : Int32))) (F_o_REPLACED_ordinal : FA3 Z Z.heap o_REPLACED (.int (2 : Int32))) (hs : ((p1 &&& (2147483647 : Int32)) % (5 : Int32)) = (4 : Int32)) (hf : (p2 &&& (3 : Int32)) = (3 : Int32)) :
    Met l Z ws x code maxLocals ret room_1 #[(.int p1), (.int p2)] h0 (fun v _ L => Q0 n0 v L) := by
  have W := fun (i : Nat) {c : Jvm.Cond} (q : tables_1[i]? = some c) => hw c (List.mem_of_getElem? q)
  refine own_mk (plainFor_of_name pn_5) ?_
  intro p e s m below meth c s₁ hZ hx hby hml hown hnm hret hlk X0 e0
  have N0 := Fr.nil n0
  obtain ⟨_, T1, L1, X1, hQ1, st1⟩ := own_cs X0 hx hZ hown hml (W 1 rfl) (W 2 rfl) (W 3 rfl) (W 4 rfl) (rm18_state l Z a0 hw o_DELETION h0 n0 O0 (S_o_DELETION)) e0 (hb hby at_12) 0 #[iv p1, iv p2, iv (4 : Int32), iv (3 : Int32), .unset, .unset, .unset, .unset] [(.int (4 : Int32))] [] pd_6 (by decide) rfl rfl rfl (Nat.le_of_eq rfl)
  obtain ⟨rfl, N1q, K1⟩ := hQ1
  have N2 := Fr.app N0 N1q
  obtain ⟨_, T3, L3, X3, hQ3, st3⟩ := own_cs X1 hx hZ hown hml (W 8 rfl) (W 9 rfl) (W 3 rfl) (W 10 rfl) (rm10_operation l Z a0 hw o_DELETE h0 n0 O0 (S_o_DELETE)) K1 (hb hby at_18) 0 #[iv p1, iv p2, iv (4 : Int32), iv (3 : Int32), rv o_DELETION, .unset, .unset, .unset] [(.int (3 : Int32))] [] pd_11 (by decide) rfl rfl rfl (Nat.le_of_eq rfl)
  obtain ⟨rfl, N3q, K3⟩ := hQ3
  have N4 := Fr.app N2 N3q
  obtain ⟨_, T5, L5, X5, hQ5, st5⟩ := own_cv X3 hx hZ hown hml (W 14 rfl) (W 15 rfl) (notFace_of_selects (W 17 rfl)) (W 17 rfl) (W 16 rfl) (W 6 rfl) (W 18 rfl) (rm17_after l Z a0 hw o_DELETION o_DELETE o_CURRENT o_CURRENT_APPENDED h0 n0 O0 (S_o_CURRENT) ((Fld.ne F_o_DELETION_ordinal F_o_CURRENT_ordinal (by decide))) (S_o_CURRENT_APPENDED) ((Fld.ne F_o_DELETION_ordinal F_o_CURRENT_APPENDED_ordinal (by decide)))) K3 (E_o_DELETION.ext O0.2) (hb hby at_27) 0 #[iv p1, iv p2, iv (4 : Int32), iv (3 : Int32), rv o_DELETION, rv o_DELETE, .unset, .unset] [(.ref o_DELETE)] [] pd_30 (by decide) rfl rfl rfl (Nat.le_of_eq rfl)
  obtain ⟨rfl, N5q, K5⟩ := hQ5
  have N6 := Fr.app N4 N5q
  obtain ⟨_, T7, L7, X7, hQ7, st7⟩ := own_cs X5 hx hZ hown hml (W 1 rfl) (W 2 rfl) (W 3 rfl) (W 4 rfl) (rm18_state l Z a0 hw o_DELETION h0 n0 O0 (S_o_DELETION)) K5 (hb hby at_60) 1 #[iv p1, iv p2, iv (4 : Int32), iv (3 : Int32), rv o_DELETION, rv o_DELETE, rv o_DELETION, iv (4 : Int32)] [(.int (4 : Int32))] [(.ref o_DELETION)] pd_6 (by decide) rfl rfl rfl (Nat.le_of_eq rfl)
  obtain ⟨rfl, N7q, K7⟩ := hQ7
  have N8 := Fr.app N6 N7q
  refine ⟨T7, some (.int (1 : Int32)), _, _, _, X7, by decide, by decide, nofun, ?_, fun fs hr => castTop (ef_31 m p1 p2) ?_⟩
  · exact ⟨rfl, N8⟩
  · show SS p e below s₁ m 0 #[iv p1, iv p2, .unset, .unset, .unset, .unset, .unset, .unset] [] _
    refine XS.iloadN X0.here hx rfl (hb hby at_0) rfl ?_
    show SS p e below s₁ m 1 #[iv p1, iv p2, .unset, .unset, .unset, .unset, .unset, .unset] [(.int p1)] _
    refine X0.ldcInt hx hown (mvT hZ (W 0 rfl)) (g := (mkF m 1 #[iv p1, iv p2, .unset, .unset, .unset, .unset, .unset, .unset] [(.int p1)])) rfl (hb hby at_1) _ ?_
    show SS p e below s₁ m 3 #[iv p1, iv p2, .unset, .unset, .unset, .unset, .unset, .unset] [(.int (2147483647 : Int32)), (.int p1)] _
    refine XS.iand X0.here hx rfl (hb hby at_3) rfl ?_
    show SS p e below s₁ m 4 #[iv p1, iv p2, .unset, .unset, .unset, .unset, .unset, .unset] [(.int (p1 &&& (2147483647 : Int32)))] _
    refine XS.iconst X0.here hx rfl (hb hby at_4) ?_
    show SS p e below s₁ m 5 #[iv p1, iv p2, .unset, .unset, .unset, .unset, .unset, .unset] [(.int (5 : Int32)), (.int (p1 &&& (2147483647 : Int32)))] _
    refine iremM (g := (mkF m 5 #[iv p1, iv p2, .unset, .unset, .unset, .unset, .unset, .unset] [(.int (5 : Int32)), (.int (p1 &&& (2147483647 : Int32)))])) X0 hx rfl (hb hby at_5) rfl (by decide : ¬ ((5 : Int32) = (0 : Int32))) ?_
    rw [hs]
    show SS p e below s₁ m 6 #[iv p1, iv p2, .unset, .unset, .unset, .unset, .unset, .unset] [(.int (4 : Int32))] _
    refine XS.istoreN X0.here hx rfl (hb hby at_6) rfl (l' := #[iv p1, iv p2, iv (4 : Int32), .unset, .unset, .unset, .unset, .unset]) rfl ?_
    show SS p e below s₁ m 7 #[iv p1, iv p2, iv (4 : Int32), .unset, .unset, .unset, .unset, .unset] [] _
    refine XS.iloadN X0.here hx rfl (hb hby at_7) rfl ?_
    refine XS.iconst X0.here hx rfl (hb hby at_8) ?_
    show SS p e below s₁ m 9 #[iv p1, iv p2, iv (4 : Int32), .unset, .unset, .unset, .unset, .unset] [(.int (3 : Int32)), (.int p2)] _
    refine XS.iand X0.here hx rfl (hb hby at_9) rfl ?_
    rw [hf]
    show SS p e below s₁ m 10 #[iv p1, iv p2, iv (4 : Int32), .unset, .unset, .unset, .unset, .unset] [(.int (3 : Int32))] _
    refine XS.istoreN X0.here hx rfl (hb hby at_10) rfl (l' := #[iv p1, iv p2, iv (4 : Int32), iv (3 : Int32), .unset, .unset, .unset, .unset]) rfl ?_
    show SS p e below s₁ m 11 #[iv p1, iv p2, iv (4 : Int32), iv (3 : Int32), .unset, .unset, .unset, .unset] [] _
    refine XS.iloadN X0.here hx rfl (hb hby at_11) rfl ?_
    show SS p e below s₁ m 12 #[iv p1, iv p2, iv (4 : Int32), iv (3 : Int32), .unset, .unset, .unset, .unset] [(.int (4 : Int32))] _
    refine st1 _ ?_
    show SS p e below T1 m 15 #[iv p1, iv p2, iv (4 : Int32), iv (3 : Int32), .unset, .unset, .unset, .unset] [(.ref o_DELETION)] _
    refine XS.astore X1.here hx rfl (hb hby at_15) rfl rfl (l' := #[iv p1, iv p2, iv (4 : Int32), iv (3 : Int32), rv o_DELETION, .unset, .unset, .unset]) rfl ?_
    show SS p e below T1 m 17 #[iv p1, iv p2, iv (4 : Int32), iv (3 : Int32), rv o_DELETION, .unset, .unset, .unset] [] _
    refine XS.iloadN X1.here hx rfl (hb hby at_17) rfl ?_
    show SS p e below T1 m 18 #[iv p1, iv p2, iv (4 : Int32), iv (3 : Int32), rv o_DELETION, .unset, .unset, .unset] [(.int (3 : Int32))] _
    refine st3 _ ?_
    show SS p e below T3 m 21 #[iv p1, iv p2, iv (4 : Int32), iv (3 : Int32), rv o_DELETION, .unset, .unset, .unset] [(.ref o_DELETE)] _
    refine XS.astore X3.here hx rfl (hb hby at_21) rfl rfl (l' := #[iv p1, iv p2, iv (4 : Int32), iv (3 : Int32), rv o_DELETION, rv o_DELETE, .unset, .unset]) rfl ?_
    show SS p e below T3 m 23 #[iv p1, iv p2, iv (4 : Int32), iv (3 : Int32), rv o_DELETION, rv o_DELETE, .unset, .unset] [] _
    refine XS.aload X3.here hx rfl (hb hby at_23) rfl rfl ?_
    refine XS.aload X3.here hx rfl (hb hby at_25) rfl rfl ?_
    show SS p e below T3 m 27 #[iv p1, iv p2, iv (4 : Int32), iv (3 : Int32), rv o_DELETION, rv o_DELETE, .unset, .unset] [(.ref o_DELETE), (.ref o_DELETION)] _
    refine st5 _ ?_
    show SS p e below T5 m 30 #[iv p1, iv p2, iv (4 : Int32), iv (3 : Int32), rv o_DELETION, rv o_DELETE, .unset, .unset] [(.ref o_DELETION)] _
    refine XS.astore X5.here hx rfl (hb hby at_30) rfl rfl (l' := #[iv p1, iv p2, iv (4 : Int32), iv (3 : Int32), rv o_DELETION, rv o_DELETE, rv o_DELETION, .unset]) rfl ?_
    show SS p e below T5 m 32 #[iv p1, iv p2, iv (4 : Int32), iv (3 : Int32), rv o_DELETION, rv o_DELETE, rv o_DELETION, .unset] [] _
    refine XS.iloadN X5.here hx rfl (hb hby at_32) rfl ?_
    refine XS.iconst X5.here hx rfl (hb hby at_33) ?_
    show SS p e below T5 m 34 #[iv p1, iv p2, iv (4 : Int32), iv (3 : Int32), rv o_DELETION, rv o_DELETE, rv o_DELETION, .unset] [(.int (2 : Int32)), (.int (4 : Int32))] _
    refine XS.icmpNo X5.here hx rfl (hb hby at_34) rfl (flt (by decide : ¬ ((4 : Int32) < (2 : Int32)))).1 ?_
    show SS p e below T5 m 37 #[iv p1, iv p2, iv (4 : Int32), iv (3 : Int32), rv o_DELETION, rv o_DELETE, rv o_DELETION, .unset] [] _
    refine XS.iloadN X5.here hx rfl (hb hby at_37) rfl ?_
    show SS p e below T5 m 38 #[iv p1, iv p2, iv (4 : Int32), iv (3 : Int32), rv o_DELETION, rv o_DELETE, rv o_DELETION, .unset] [(.int (4 : Int32))] _
    refine XS.istore X5.here hx rfl (hb hby at_38) rfl (l' := #[iv p1, iv p2, iv (4 : Int32), iv (3 : Int32), rv o_DELETION, rv o_DELETE, rv o_DELETION, iv (4 : Int32)]) rfl ?_
    show SS p e below T5 m 40 #[iv p1, iv p2, iv (4 : Int32), iv (3 : Int32), rv o_DELETION, rv o_DELETE, rv o_DELETION, iv (4 : Int32)] [] _
    refine XS.goto X5.here hx rfl (pc0 := 40) (pc' := 56) rfl (hb hby at_40) (by decide) (by decide) ?_
    refine XS.aload X5.here hx rfl (hb hby at_56) rfl rfl ?_
    refine XS.iload X5.here hx rfl (hb hby at_58) rfl ?_
    show SS p e below T5 m 60 #[iv p1, iv p2, iv (4 : Int32), iv (3 : Int32), rv o_DELETION, rv o_DELETE, rv o_DELETION, iv (4 : Int32)] [(.int (4 : Int32)), (.ref o_DELETION)] _
    refine st7 _ ?_
    show SS p e below T7 m 63 #[iv p1, iv p2, iv (4 : Int32), iv (3 : Int32), rv o_DELETION, rv o_DELETE, rv o_DELETION, iv (4 : Int32)] [(.ref o_DELETION), (.ref o_DELETION)] _
    refine Jvm.RoadKit.acmp (g := (mkF m 63 #[iv p1, iv p2, iv (4 : Int32), iv (3 : Int32), rv o_DELETION, rv o_DELETE, rv o_DELETION, iv (4 : Int32)] [(.ref o_DELETION), (.ref o_DELETION)])) X7 hx rfl rfl rfl (pc0 := 63) (pc' := 66) (same := true) rfl (hb hby at_63) rfl (decide_eq_true rfl) (by decide) (by decide) ?_
    show SS p e below T7 m 66 #[iv p1, iv p2, iv (4 : Int32), iv (3 : Int32), rv o_DELETION, rv o_DELETE, rv o_DELETION, iv (4 : Int32)] [] _
    refine XS.iconst X7.here hx rfl (hb hby at_66) ?_
    refine XS.goto X7.here hx rfl (pc0 := 67) (pc' := 71) rfl (hb hby at_67) (by decide) (by decide) ?_
    show SS p e below T7 m 71 #[iv p1, iv p2, iv (4 : Int32), iv (3 : Int32), rv o_DELETION, rv o_DELETE, rv o_DELETION, iv (4 : Int32)] [(.int (1 : Int32))] _
    exact retN X7 hx (t := .boolean) hret (by simp) (hb hby at_71) hr
theorem own_split (p1 : Int32) : ((p1 &&& (2147483647 : Int32)) % (5 : Int32)) = (0 : Int32) ∨ ((p1 &&& (2147483647 : Int32)) % (5 : Int32)) = (1 : Int32) ∨ ((p1 &&& (2147483647 : Int32)) % (5 : Int32)) = (2 : Int32) ∨ ((p1 &&& (2147483647 : Int32)) % (5 : Int32)) = (3 : Int32) ∨ ((p1 &&& (2147483647 : Int32)) % (5 : Int32)) = (4 : Int32) := by
  have h1 := c_mask p1 2147483647 31 (by decide) (by decide)
  have h2 := (c_irem (p1 &&& 2147483647) 5 5 (by decide)).1 (by omega)
  simp only [← Int32.toInt_inj, h2, Int32.reduceToInt]
  omega
theorem own_split2 (p2 : Int32) : (p2 &&& (3 : Int32)) = (0 : Int32) ∨ (p2 &&& (3 : Int32)) = (1 : Int32) ∨ (p2 &&& (3 : Int32)) = (2 : Int32) ∨ (p2 &&& (3 : Int32)) = (3 : Int32) := by
  have h1 := c_mask p2 3 2 (by decide) (by decide)
  simp only [← Int32.toInt_inj, h1, Int32.reduceToInt]
  omega
theorem rm0 (l : Launch) (Z : State) (a0 : Array Value) (hw : HW Z a0) (ws : List Jvm.Cond) (p1 : Int32) (p2 : Int32) (o_CURRENT : Addr) (o_DELETE : Addr) (o_REPLACE : Addr) (o_NO_LONGER_RELEVANT : Addr) (o_DELETION : Addr) (o_APPEND : Addr) (o_CURRENT_APPENDED : Addr) (o_NEW : Addr) (o_REPLACED : Addr) (h0 : Heap) (n0 : Nat) (O0 : Old Z n0 h0) (S_o_CURRENT : SA6 Z Z.heap (.ref o_CURRENT)) (E_o_CURRENT : EA4 Z Z.heap o_CURRENT) (S_o_DELETE : SA9 Z Z.heap (.ref o_DELETE)) (E_o_DELETE : EA5 Z Z.heap o_DELETE) (S_o_REPLACE : SA8 Z Z.heap (.ref o_REPLACE)) (E_o_REPLACE : EA5 Z Z.heap o_REPLACE) (S_o_NO_LONGER_RELEVANT : SA11 Z Z.heap (.ref o_NO_LONGER_RELEVANT)) (E_o_NO_LONGER_RELEVANT : EA4 Z Z.heap o_NO_LONGER_RELEVANT) (S_o_DELETION : SA12 Z Z.heap (.ref o_DELETION)) (E_o_DELETION : EA4 Z Z.heap o_DELETION) (S_o_APPEND : SA10 Z Z.heap (.ref o_APPEND)) (E_o_APPEND : EA5 Z Z.heap o_APPEND) (S_o_CURRENT_APPENDED : SA13 Z Z.heap (.ref o_CURRENT_APPENDED)) (E_o_CURRENT_APPENDED : EA4 Z Z.heap o_CURRENT_APPENDED) (S_o_NEW : SA7 Z Z.heap (.ref o_NEW)) (E_o_NEW : EA5 Z Z.heap o_NEW) (S_o_REPLACED : SA14 Z Z.heap (.ref o_REPLACED)) (E_o_REPLACED : EA4 Z Z.heap o_REPLACED) (F_o_DELETE_ordinal : FA3 Z Z.heap o_DELETE (.int (3 : Int32))) (F_o_REPLACE_ordinal : FA3 Z Z.heap o_REPLACE (.int (2 : Int32))) (F_o_DELETION_ordinal : FA3 Z Z.heap o_DELETION (.int (4 : Int32))) (F_o_CURRENT_ordinal : FA3 Z Z.heap o_CURRENT (.int (0 : Int32))) (F_o_CURRENT_APPENDED_ordinal : FA3 Z Z.heap o_CURRENT_APPENDED (.int (1 : Int32))) (F_o_NO_LONGER_RELEVANT_ordinal : FA3 Z Z.heap o_NO_LONGER_RELEVANT (.int (3 : Int32))) (F_o_NEW_ordinal : FA3 Z Z.heap o_NEW (.int (0 : Int32))) (F_o_APPEND_ordinal : FA3 Z Z.heap o_APPEND (.int (1 : Int32))) (F_o_REPLACED_ordinal : FA3 Z Z.heap o_REPLACED (.int (2 : Int32)))  :
    Met l Z ws x code maxLocals ret room_1 #[(.int p1), (.int p2)] h0 (fun v _ L => Q0 n0 v L) := by
  rcases own_split p1 with q | q | q | q | q <;> rcases own_split2 p2 with u | u | u | u
  · exact rm0_0_0 l Z a0 hw ws p1 p2 o_CURRENT o_DELETE o_REPLACE o_NO_LONGER_RELEVANT o_DELETION o_APPEND o_CURRENT_APPENDED o_NEW o_REPLACED h0 n0 O0 S_o_CURRENT E_o_CURRENT S_o_DELETE E_o_DELETE S_o_REPLACE E_o_REPLACE S_o_NO_LONGER_RELEVANT E_o_NO_LONGER_RELEVANT S_o_DELETION E_o_DELETION S_o_APPEND E_o_APPEND S_o_CURRENT_APPENDED E_o_CURRENT_APPENDED S_o_NEW E_o_NEW S_o_REPLACED E_o_REPLACED F_o_DELETE_ordinal F_o_REPLACE_ordinal F_o_DELETION_ordinal F_o_CURRENT_ordinal F_o_CURRENT_APPENDED_ordinal F_o_NO_LONGER_RELEVANT_ordinal F_o_NEW_ordinal F_o_APPEND_ordinal F_o_REPLACED_ordinal q u
  · exact rm0_0_1 l Z a0 hw ws p1 p2 o_CURRENT o_DELETE o_REPLACE o_NO_LONGER_RELEVANT o_DELETION o_APPEND o_CURRENT_APPENDED o_NEW o_REPLACED h0 n0 O0 S_o_CURRENT E_o_CURRENT S_o_DELETE E_o_DELETE S_o_REPLACE E_o_REPLACE S_o_NO_LONGER_RELEVANT E_o_NO_LONGER_RELEVANT S_o_DELETION E_o_DELETION S_o_APPEND E_o_APPEND S_o_CURRENT_APPENDED E_o_CURRENT_APPENDED S_o_NEW E_o_NEW S_o_REPLACED E_o_REPLACED F_o_DELETE_ordinal F_o_REPLACE_ordinal F_o_DELETION_ordinal F_o_CURRENT_ordinal F_o_CURRENT_APPENDED_ordinal F_o_NO_LONGER_RELEVANT_ordinal F_o_NEW_ordinal F_o_APPEND_ordinal F_o_REPLACED_ordinal q u
  · exact rm0_0_2 l Z a0 hw ws p1 p2 o_CURRENT o_DELETE o_REPLACE o_NO_LONGER_RELEVANT o_DELETION o_APPEND o_CURRENT_APPENDED o_NEW o_REPLACED h0 n0 O0 S_o_CURRENT E_o_CURRENT S_o_DELETE E_o_DELETE S_o_REPLACE E_o_REPLACE S_o_NO_LONGER_RELEVANT E_o_NO_LONGER_RELEVANT S_o_DELETION E_o_DELETION S_o_APPEND E_o_APPEND S_o_CURRENT_APPENDED E_o_CURRENT_APPENDED S_o_NEW E_o_NEW S_o_REPLACED E_o_REPLACED F_o_DELETE_ordinal F_o_REPLACE_ordinal F_o_DELETION_ordinal F_o_CURRENT_ordinal F_o_CURRENT_APPENDED_ordinal F_o_NO_LONGER_RELEVANT_ordinal F_o_NEW_ordinal F_o_APPEND_ordinal F_o_REPLACED_ordinal q u
  · exact rm0_0_3 l Z a0 hw ws p1 p2 o_CURRENT o_DELETE o_REPLACE o_NO_LONGER_RELEVANT o_DELETION o_APPEND o_CURRENT_APPENDED o_NEW o_REPLACED h0 n0 O0 S_o_CURRENT E_o_CURRENT S_o_DELETE E_o_DELETE S_o_REPLACE E_o_REPLACE S_o_NO_LONGER_RELEVANT E_o_NO_LONGER_RELEVANT S_o_DELETION E_o_DELETION S_o_APPEND E_o_APPEND S_o_CURRENT_APPENDED E_o_CURRENT_APPENDED S_o_NEW E_o_NEW S_o_REPLACED E_o_REPLACED F_o_DELETE_ordinal F_o_REPLACE_ordinal F_o_DELETION_ordinal F_o_CURRENT_ordinal F_o_CURRENT_APPENDED_ordinal F_o_NO_LONGER_RELEVANT_ordinal F_o_NEW_ordinal F_o_APPEND_ordinal F_o_REPLACED_ordinal q u
  · exact rm0_1_0 l Z a0 hw ws p1 p2 o_CURRENT o_DELETE o_REPLACE o_NO_LONGER_RELEVANT o_DELETION o_APPEND o_CURRENT_APPENDED o_NEW o_REPLACED h0 n0 O0 S_o_CURRENT E_o_CURRENT S_o_DELETE E_o_DELETE S_o_REPLACE E_o_REPLACE S_o_NO_LONGER_RELEVANT E_o_NO_LONGER_RELEVANT S_o_DELETION E_o_DELETION S_o_APPEND E_o_APPEND S_o_CURRENT_APPENDED E_o_CURRENT_APPENDED S_o_NEW E_o_NEW S_o_REPLACED E_o_REPLACED F_o_DELETE_ordinal F_o_REPLACE_ordinal F_o_DELETION_ordinal F_o_CURRENT_ordinal F_o_CURRENT_APPENDED_ordinal F_o_NO_LONGER_RELEVANT_ordinal F_o_NEW_ordinal F_o_APPEND_ordinal F_o_REPLACED_ordinal q u
  · exact rm0_1_1 l Z a0 hw ws p1 p2 o_CURRENT o_DELETE o_REPLACE o_NO_LONGER_RELEVANT o_DELETION o_APPEND o_CURRENT_APPENDED o_NEW o_REPLACED h0 n0 O0 S_o_CURRENT E_o_CURRENT S_o_DELETE E_o_DELETE S_o_REPLACE E_o_REPLACE S_o_NO_LONGER_RELEVANT E_o_NO_LONGER_RELEVANT S_o_DELETION E_o_DELETION S_o_APPEND E_o_APPEND S_o_CURRENT_APPENDED E_o_CURRENT_APPENDED S_o_NEW E_o_NEW S_o_REPLACED E_o_REPLACED F_o_DELETE_ordinal F_o_REPLACE_ordinal F_o_DELETION_ordinal F_o_CURRENT_ordinal F_o_CURRENT_APPENDED_ordinal F_o_NO_LONGER_RELEVANT_ordinal F_o_NEW_ordinal F_o_APPEND_ordinal F_o_REPLACED_ordinal q u
  · exact rm0_1_2 l Z a0 hw ws p1 p2 o_CURRENT o_DELETE o_REPLACE o_NO_LONGER_RELEVANT o_DELETION o_APPEND o_CURRENT_APPENDED o_NEW o_REPLACED h0 n0 O0 S_o_CURRENT E_o_CURRENT S_o_DELETE E_o_DELETE S_o_REPLACE E_o_REPLACE S_o_NO_LONGER_RELEVANT E_o_NO_LONGER_RELEVANT S_o_DELETION E_o_DELETION S_o_APPEND E_o_APPEND S_o_CURRENT_APPENDED E_o_CURRENT_APPENDED S_o_NEW E_o_NEW S_o_REPLACED E_o_REPLACED F_o_DELETE_ordinal F_o_REPLACE_ordinal F_o_DELETION_ordinal F_o_CURRENT_ordinal F_o_CURRENT_APPENDED_ordinal F_o_NO_LONGER_RELEVANT_ordinal F_o_NEW_ordinal F_o_APPEND_ordinal F_o_REPLACED_ordinal q u
  · exact rm0_1_3 l Z a0 hw ws p1 p2 o_CURRENT o_DELETE o_REPLACE o_NO_LONGER_RELEVANT o_DELETION o_APPEND o_CURRENT_APPENDED o_NEW o_REPLACED h0 n0 O0 S_o_CURRENT E_o_CURRENT S_o_DELETE E_o_DELETE S_o_REPLACE E_o_REPLACE S_o_NO_LONGER_RELEVANT E_o_NO_LONGER_RELEVANT S_o_DELETION E_o_DELETION S_o_APPEND E_o_APPEND S_o_CURRENT_APPENDED E_o_CURRENT_APPENDED S_o_NEW E_o_NEW S_o_REPLACED E_o_REPLACED F_o_DELETE_ordinal F_o_REPLACE_ordinal F_o_DELETION_ordinal F_o_CURRENT_ordinal F_o_CURRENT_APPENDED_ordinal F_o_NO_LONGER_RELEVANT_ordinal F_o_NEW_ordinal F_o_APPEND_ordinal F_o_REPLACED_ordinal q u
  · exact rm0_2_0 l Z a0 hw ws p1 p2 o_CURRENT o_DELETE o_REPLACE o_NO_LONGER_RELEVANT o_DELETION o_APPEND o_CURRENT_APPENDED o_NEW o_REPLACED h0 n0 O0 S_o_CURRENT E_o_CURRENT S_o_DELETE E_o_DELETE S_o_REPLACE E_o_REPLACE S_o_NO_LONGER_RELEVANT E_o_NO_LONGER_RELEVANT S_o_DELETION E_o_DELETION S_o_APPEND E_o_APPEND S_o_CURRENT_APPENDED E_o_CURRENT_APPENDED S_o_NEW E_o_NEW S_o_REPLACED E_o_REPLACED F_o_DELETE_ordinal F_o_REPLACE_ordinal F_o_DELETION_ordinal F_o_CURRENT_ordinal F_o_CURRENT_APPENDED_ordinal F_o_NO_LONGER_RELEVANT_ordinal F_o_NEW_ordinal F_o_APPEND_ordinal F_o_REPLACED_ordinal q u
  · exact rm0_2_1 l Z a0 hw ws p1 p2 o_CURRENT o_DELETE o_REPLACE o_NO_LONGER_RELEVANT o_DELETION o_APPEND o_CURRENT_APPENDED o_NEW o_REPLACED h0 n0 O0 S_o_CURRENT E_o_CURRENT S_o_DELETE E_o_DELETE S_o_REPLACE E_o_REPLACE S_o_NO_LONGER_RELEVANT E_o_NO_LONGER_RELEVANT S_o_DELETION E_o_DELETION S_o_APPEND E_o_APPEND S_o_CURRENT_APPENDED E_o_CURRENT_APPENDED S_o_NEW E_o_NEW S_o_REPLACED E_o_REPLACED F_o_DELETE_ordinal F_o_REPLACE_ordinal F_o_DELETION_ordinal F_o_CURRENT_ordinal F_o_CURRENT_APPENDED_ordinal F_o_NO_LONGER_RELEVANT_ordinal F_o_NEW_ordinal F_o_APPEND_ordinal F_o_REPLACED_ordinal q u
  · exact rm0_2_2 l Z a0 hw ws p1 p2 o_CURRENT o_DELETE o_REPLACE o_NO_LONGER_RELEVANT o_DELETION o_APPEND o_CURRENT_APPENDED o_NEW o_REPLACED h0 n0 O0 S_o_CURRENT E_o_CURRENT S_o_DELETE E_o_DELETE S_o_REPLACE E_o_REPLACE S_o_NO_LONGER_RELEVANT E_o_NO_LONGER_RELEVANT S_o_DELETION E_o_DELETION S_o_APPEND E_o_APPEND S_o_CURRENT_APPENDED E_o_CURRENT_APPENDED S_o_NEW E_o_NEW S_o_REPLACED E_o_REPLACED F_o_DELETE_ordinal F_o_REPLACE_ordinal F_o_DELETION_ordinal F_o_CURRENT_ordinal F_o_CURRENT_APPENDED_ordinal F_o_NO_LONGER_RELEVANT_ordinal F_o_NEW_ordinal F_o_APPEND_ordinal F_o_REPLACED_ordinal q u
  · exact rm0_2_3 l Z a0 hw ws p1 p2 o_CURRENT o_DELETE o_REPLACE o_NO_LONGER_RELEVANT o_DELETION o_APPEND o_CURRENT_APPENDED o_NEW o_REPLACED h0 n0 O0 S_o_CURRENT E_o_CURRENT S_o_DELETE E_o_DELETE S_o_REPLACE E_o_REPLACE S_o_NO_LONGER_RELEVANT E_o_NO_LONGER_RELEVANT S_o_DELETION E_o_DELETION S_o_APPEND E_o_APPEND S_o_CURRENT_APPENDED E_o_CURRENT_APPENDED S_o_NEW E_o_NEW S_o_REPLACED E_o_REPLACED F_o_DELETE_ordinal F_o_REPLACE_ordinal F_o_DELETION_ordinal F_o_CURRENT_ordinal F_o_CURRENT_APPENDED_ordinal F_o_NO_LONGER_RELEVANT_ordinal F_o_NEW_ordinal F_o_APPEND_ordinal F_o_REPLACED_ordinal q u
  · exact rm0_3_0 l Z a0 hw ws p1 p2 o_CURRENT o_DELETE o_REPLACE o_NO_LONGER_RELEVANT o_DELETION o_APPEND o_CURRENT_APPENDED o_NEW o_REPLACED h0 n0 O0 S_o_CURRENT E_o_CURRENT S_o_DELETE E_o_DELETE S_o_REPLACE E_o_REPLACE S_o_NO_LONGER_RELEVANT E_o_NO_LONGER_RELEVANT S_o_DELETION E_o_DELETION S_o_APPEND E_o_APPEND S_o_CURRENT_APPENDED E_o_CURRENT_APPENDED S_o_NEW E_o_NEW S_o_REPLACED E_o_REPLACED F_o_DELETE_ordinal F_o_REPLACE_ordinal F_o_DELETION_ordinal F_o_CURRENT_ordinal F_o_CURRENT_APPENDED_ordinal F_o_NO_LONGER_RELEVANT_ordinal F_o_NEW_ordinal F_o_APPEND_ordinal F_o_REPLACED_ordinal q u
  · exact rm0_3_1 l Z a0 hw ws p1 p2 o_CURRENT o_DELETE o_REPLACE o_NO_LONGER_RELEVANT o_DELETION o_APPEND o_CURRENT_APPENDED o_NEW o_REPLACED h0 n0 O0 S_o_CURRENT E_o_CURRENT S_o_DELETE E_o_DELETE S_o_REPLACE E_o_REPLACE S_o_NO_LONGER_RELEVANT E_o_NO_LONGER_RELEVANT S_o_DELETION E_o_DELETION S_o_APPEND E_o_APPEND S_o_CURRENT_APPENDED E_o_CURRENT_APPENDED S_o_NEW E_o_NEW S_o_REPLACED E_o_REPLACED F_o_DELETE_ordinal F_o_REPLACE_ordinal F_o_DELETION_ordinal F_o_CURRENT_ordinal F_o_CURRENT_APPENDED_ordinal F_o_NO_LONGER_RELEVANT_ordinal F_o_NEW_ordinal F_o_APPEND_ordinal F_o_REPLACED_ordinal q u
  · exact rm0_3_2 l Z a0 hw ws p1 p2 o_CURRENT o_DELETE o_REPLACE o_NO_LONGER_RELEVANT o_DELETION o_APPEND o_CURRENT_APPENDED o_NEW o_REPLACED h0 n0 O0 S_o_CURRENT E_o_CURRENT S_o_DELETE E_o_DELETE S_o_REPLACE E_o_REPLACE S_o_NO_LONGER_RELEVANT E_o_NO_LONGER_RELEVANT S_o_DELETION E_o_DELETION S_o_APPEND E_o_APPEND S_o_CURRENT_APPENDED E_o_CURRENT_APPENDED S_o_NEW E_o_NEW S_o_REPLACED E_o_REPLACED F_o_DELETE_ordinal F_o_REPLACE_ordinal F_o_DELETION_ordinal F_o_CURRENT_ordinal F_o_CURRENT_APPENDED_ordinal F_o_NO_LONGER_RELEVANT_ordinal F_o_NEW_ordinal F_o_APPEND_ordinal F_o_REPLACED_ordinal q u
  · exact rm0_3_3 l Z a0 hw ws p1 p2 o_CURRENT o_DELETE o_REPLACE o_NO_LONGER_RELEVANT o_DELETION o_APPEND o_CURRENT_APPENDED o_NEW o_REPLACED h0 n0 O0 S_o_CURRENT E_o_CURRENT S_o_DELETE E_o_DELETE S_o_REPLACE E_o_REPLACE S_o_NO_LONGER_RELEVANT E_o_NO_LONGER_RELEVANT S_o_DELETION E_o_DELETION S_o_APPEND E_o_APPEND S_o_CURRENT_APPENDED E_o_CURRENT_APPENDED S_o_NEW E_o_NEW S_o_REPLACED E_o_REPLACED F_o_DELETE_ordinal F_o_REPLACE_ordinal F_o_DELETION_ordinal F_o_CURRENT_ordinal F_o_CURRENT_APPENDED_ordinal F_o_NO_LONGER_RELEVANT_ordinal F_o_NEW_ordinal F_o_APPEND_ordinal F_o_REPLACED_ordinal q u
  · exact rm0_4_0 l Z a0 hw ws p1 p2 o_CURRENT o_DELETE o_REPLACE o_NO_LONGER_RELEVANT o_DELETION o_APPEND o_CURRENT_APPENDED o_NEW o_REPLACED h0 n0 O0 S_o_CURRENT E_o_CURRENT S_o_DELETE E_o_DELETE S_o_REPLACE E_o_REPLACE S_o_NO_LONGER_RELEVANT E_o_NO_LONGER_RELEVANT S_o_DELETION E_o_DELETION S_o_APPEND E_o_APPEND S_o_CURRENT_APPENDED E_o_CURRENT_APPENDED S_o_NEW E_o_NEW S_o_REPLACED E_o_REPLACED F_o_DELETE_ordinal F_o_REPLACE_ordinal F_o_DELETION_ordinal F_o_CURRENT_ordinal F_o_CURRENT_APPENDED_ordinal F_o_NO_LONGER_RELEVANT_ordinal F_o_NEW_ordinal F_o_APPEND_ordinal F_o_REPLACED_ordinal q u
  · exact rm0_4_1 l Z a0 hw ws p1 p2 o_CURRENT o_DELETE o_REPLACE o_NO_LONGER_RELEVANT o_DELETION o_APPEND o_CURRENT_APPENDED o_NEW o_REPLACED h0 n0 O0 S_o_CURRENT E_o_CURRENT S_o_DELETE E_o_DELETE S_o_REPLACE E_o_REPLACE S_o_NO_LONGER_RELEVANT E_o_NO_LONGER_RELEVANT S_o_DELETION E_o_DELETION S_o_APPEND E_o_APPEND S_o_CURRENT_APPENDED E_o_CURRENT_APPENDED S_o_NEW E_o_NEW S_o_REPLACED E_o_REPLACED F_o_DELETE_ordinal F_o_REPLACE_ordinal F_o_DELETION_ordinal F_o_CURRENT_ordinal F_o_CURRENT_APPENDED_ordinal F_o_NO_LONGER_RELEVANT_ordinal F_o_NEW_ordinal F_o_APPEND_ordinal F_o_REPLACED_ordinal q u
  · exact rm0_4_2 l Z a0 hw ws p1 p2 o_CURRENT o_DELETE o_REPLACE o_NO_LONGER_RELEVANT o_DELETION o_APPEND o_CURRENT_APPENDED o_NEW o_REPLACED h0 n0 O0 S_o_CURRENT E_o_CURRENT S_o_DELETE E_o_DELETE S_o_REPLACE E_o_REPLACE S_o_NO_LONGER_RELEVANT E_o_NO_LONGER_RELEVANT S_o_DELETION E_o_DELETION S_o_APPEND E_o_APPEND S_o_CURRENT_APPENDED E_o_CURRENT_APPENDED S_o_NEW E_o_NEW S_o_REPLACED E_o_REPLACED F_o_DELETE_ordinal F_o_REPLACE_ordinal F_o_DELETION_ordinal F_o_CURRENT_ordinal F_o_CURRENT_APPENDED_ordinal F_o_NO_LONGER_RELEVANT_ordinal F_o_NEW_ordinal F_o_APPEND_ordinal F_o_REPLACED_ordinal q u
  · exact rm0_4_3 l Z a0 hw ws p1 p2 o_CURRENT o_DELETE o_REPLACE o_NO_LONGER_RELEVANT o_DELETION o_APPEND o_CURRENT_APPENDED o_NEW o_REPLACED h0 n0 O0 S_o_CURRENT E_o_CURRENT S_o_DELETE E_o_DELETE S_o_REPLACE E_o_REPLACE S_o_NO_LONGER_RELEVANT E_o_NO_LONGER_RELEVANT S_o_DELETION E_o_DELETION S_o_APPEND E_o_APPEND S_o_CURRENT_APPENDED E_o_CURRENT_APPENDED S_o_NEW E_o_NEW S_o_REPLACED E_o_REPLACED F_o_DELETE_ordinal F_o_REPLACE_ordinal F_o_DELETION_ordinal F_o_CURRENT_ordinal F_o_CURRENT_APPENDED_ordinal F_o_NO_LONGER_RELEVANT_ordinal F_o_NEW_ordinal F_o_APPEND_ordinal F_o_REPLACED_ordinal q u
set_option maxRecDepth 65536 in
set_option maxHeartbeats 40000000 in
theorem comes_1 {Post : Tables → Env → Array Value → State → Outcome → State → Prop} (hpost : ∀ tb e args s v u, (limb_1_1.after args s (.returned v) u = true ∧ limb_1_2.after args s (.returned v) u = true ∧ True) → FrameEnd s (.returned v) u (Jvm.fieldLocs frame_1_writes args s ++ Jvm.arrayLocs frame_1_arrays args s ++ Jvm.staticLocs frame_1_statics s) 0 0 → Post tb e args s (.returned v) u) :
    ArmFor flags0 classFile x code maxLocals ret World_1 tables_1 room_1 Calls_1 rest_1 Pre_1 Post := by
  intro l hfl _ _ p e ha hc hk s m args below hf hA hF happ hP
  obtain ⟨hcalls, hrest, hpre⟩ := hP
  obtain ⟨-, -, -, hnamed, -, -, -, hat⟩ := (Spec.applies_iff hf).mp happ
  obtain ⟨hg, hn⟩ := and_e (Cond.before_iff.mp (show (Jvm.Cond.and given_1 narrow_1).before args s = true from hpre))
  obtain ⟨hg0, hgr0⟩ := and_e hg
  obtain ⟨hg1, hg2⟩ := and_e hgr0
  obtain ⟨w0, w1, rfl⟩ : ∃ w0 w1 : Value, args = #[w0, w1] := by
    have hs : args.size = 2 := by simpa [Cond.value, given_1] using hg0
    obtain ⟨L⟩ := args
    match L, hs with
    | [w0, w1], _ => exact ⟨w0, w1, rfl⟩
  have hw := fun d (hd : d ∈ tables_1) => atoms_spec (ws := Jvm.Cond.code x code maxLocals ret :: tables_1) hat d (List.mem_cons_of_mem _ hd)
  have W := fun (i : Nat) {c : Jvm.Cond} (q : tables_1[i]? = some c) => hw c (List.mem_of_getElem? q)
  have hfit : Fit s := fun {y c} hc i hi => by
    obtain ⟨ha, rfl⟩ := Array.getElem?_eq_some_iff.mp hc
    have q := List.all_eq_true.mp ((Array.all_eq_true_iff_forall_mem.mp hF) _ (Array.getElem_mem ha)) i (List.mem_range.mpr hi)
    simpa [Array.getElem?_eq_getElem hi] using q
  obtain ⟨i0, ei0⟩ := is_v hg1
  obtain rfl : w0 = (.int i0) := Option.some.inj ei0
  obtain ⟨i1, ei1⟩ := is_v hg2
  obtain rfl : w1 = (.int i1) := Option.some.inj ei1
  obtain ⟨hn0, hr0⟩ := and_e hn
  obtain ⟨hn1, hr1⟩ := and_e hr0
  obtain ⟨hn2, hr2⟩ := and_e hr1
  obtain ⟨hn3, hr3⟩ := and_e hr2
  obtain ⟨hn4, hr4⟩ := and_e hr3
  obtain ⟨hn5, hr5⟩ := and_e hr4
  obtain ⟨hn6, hr6⟩ := and_e hr5
  obtain ⟨hn7, hr7⟩ := and_e hr6
  obtain ⟨hn8, hr8⟩ := and_e hr7
  obtain ⟨hn9, hr9⟩ := and_e hr8
  obtain ⟨hn10, hr10⟩ := and_e hr9
  obtain ⟨hn11, hr11⟩ := and_e hr10
  obtain ⟨hn12, hr12⟩ := and_e hr11
  obtain ⟨hn13, hr13⟩ := and_e hr12
  obtain ⟨hn14, hr14⟩ := and_e hr13
  obtain ⟨hn15, hr15⟩ := and_e hr14
  obtain ⟨hn16, hn17⟩ := and_e hr15
  obtain ⟨o_CURRENT, ev_o_CURRENT⟩ := exa_v hn0
  have S_o_CURRENT := Sta.start ev_o_CURRENT (Or.inr ⟨(W 6 rfl), (W 7 rfl)⟩)
  have E_o_CURRENT := Exa.start ev_o_CURRENT hn0
  obtain ⟨o_DELETE, ev_o_DELETE⟩ := exa_v hn1
  have S_o_DELETE := Sta.start ev_o_DELETE (Or.inr ⟨(W 12 rfl), (W 13 rfl)⟩)
  have E_o_DELETE := Exa.start ev_o_DELETE hn1
  obtain ⟨o_REPLACE, ev_o_REPLACE⟩ := exa_v hn2
  have S_o_REPLACE := Sta.start ev_o_REPLACE (Or.inr ⟨(W 12 rfl), (W 21 rfl)⟩)
  have E_o_REPLACE := Exa.start ev_o_REPLACE hn2
  obtain ⟨o_NO_LONGER_RELEVANT, ev_o_NO_LONGER_RELEVANT⟩ := exa_v hn5
  have S_o_NO_LONGER_RELEVANT := Sta.start ev_o_NO_LONGER_RELEVANT (Or.inr ⟨(W 6 rfl), (W 24 rfl)⟩)
  have E_o_NO_LONGER_RELEVANT := Exa.start ev_o_NO_LONGER_RELEVANT hn5
  obtain ⟨o_DELETION, ev_o_DELETION⟩ := exa_v hn6
  have S_o_DELETION := Sta.start ev_o_DELETION (Or.inr ⟨(W 6 rfl), (W 27 rfl)⟩)
  have E_o_DELETION := Exa.start ev_o_DELETION hn6
  obtain ⟨o_APPEND, ev_o_APPEND⟩ := exa_v hn7
  have S_o_APPEND := Sta.start ev_o_APPEND (Or.inr ⟨(W 12 rfl), (W 29 rfl)⟩)
  have E_o_APPEND := Exa.start ev_o_APPEND hn7
  obtain ⟨o_CURRENT_APPENDED, ev_o_CURRENT_APPENDED⟩ := exa_v hn10
  have S_o_CURRENT_APPENDED := Sta.start ev_o_CURRENT_APPENDED (Or.inr ⟨(W 6 rfl), (W 31 rfl)⟩)
  have E_o_CURRENT_APPENDED := Exa.start ev_o_CURRENT_APPENDED hn10
  obtain ⟨o_NEW, ev_o_NEW⟩ := exa_v hn13
  have S_o_NEW := Sta.start ev_o_NEW (Or.inr ⟨(W 12 rfl), (W 34 rfl)⟩)
  have E_o_NEW := Exa.start ev_o_NEW hn13
  obtain ⟨o_REPLACED, ev_o_REPLACED⟩ := exa_v hn16
  have S_o_REPLACED := Sta.start ev_o_REPLACED (Or.inr ⟨(W 6 rfl), (W 37 rfl)⟩)
  have E_o_REPLACED := Exa.start ev_o_REPLACED hn16
  have F_o_DELETE_ordinal := Fld.start ((fld_at ev_o_DELETE).symm.trans (own_eqI hn3))
  have F_o_REPLACE_ordinal := Fld.start ((fld_at ev_o_REPLACE).symm.trans (own_eqI hn4))
  have F_o_DELETION_ordinal := Fld.start ((fld_at ev_o_DELETION).symm.trans (own_eqI hn8))
  have F_o_CURRENT_ordinal := Fld.start ((fld_at ev_o_CURRENT).symm.trans (own_eqI hn9))
  have F_o_CURRENT_APPENDED_ordinal := Fld.start ((fld_at ev_o_CURRENT_APPENDED).symm.trans (own_eqI hn11))
  have F_o_NO_LONGER_RELEVANT_ordinal := Fld.start ((fld_at ev_o_NO_LONGER_RELEVANT).symm.trans (own_eqI hn12))
  have F_o_NEW_ordinal := Fld.start ((fld_at ev_o_NEW).symm.trans (own_eqI hn14))
  have F_o_APPEND_ordinal := Fld.start ((fld_at ev_o_APPEND).symm.trans (own_eqI hn15))
  have F_o_REPLACED_ordinal := Fld.start ((fld_at ev_o_REPLACED).symm.trans (own_eqI hn17))
  obtain ⟨n, o, h1, h2, h3, _, L, rfl, ⟨rfl, N⟩, hq⟩ := rm0 l s _ hw tables_1 i0 i1 o_CURRENT o_DELETE o_REPLACE o_NO_LONGER_RELEVANT o_DELETION o_APPEND o_CURRENT_APPENDED o_NEW o_REPLACED s.heap s.heap.size (Old.start s) S_o_CURRENT E_o_CURRENT S_o_DELETE E_o_DELETE S_o_REPLACE E_o_REPLACE S_o_NO_LONGER_RELEVANT E_o_NO_LONGER_RELEVANT S_o_DELETION E_o_DELETION S_o_APPEND E_o_APPEND S_o_CURRENT_APPENDED E_o_CURRENT_APPENDED S_o_NEW E_o_NEW S_o_REPLACED E_o_REPLACED F_o_DELETE_ordinal F_o_REPLACE_ordinal F_o_DELETION_ordinal F_o_CURRENT_ordinal F_o_CURRENT_APPENDED_ordinal F_o_NO_LONGER_RELEVANT_ordinal F_o_NEW_ordinal F_o_APPEND_ordinal F_o_REPLACED_ordinal p e ha hc hk s m _ below hf ((Spec.applies_iff_loose hf).mp happ).1 ⟨rfl, State.Warmed39.refl s, rfl⟩ trivial
  refine ⟨n, _, h1, h2, h3, hpost _ _ _ _ _ _ ⟨Cond.after_iff.mpr rfl, Cond.after_iff.mpr (eq_i res_at (Term.int_eval (1)) rfl), trivial⟩ ⟨hq.1, hq.2.1, (hq.2.2.sift fun y hy => Or.inr (N y hy)).mono (by decide) (by decide)⟩⟩
theorem main_1_1 : Claimed_1_1 := comes_1 fun _ _ _ _ _ _ h hF => ⟨h.1, hF⟩
theorem main_1_2 : Claimed_1_2 := comes_1 fun _ _ _ _ _ _ h hF => ⟨h.2.1, hF⟩
end Jvm.Pilot.@@N@@
namespace Jvm.Pilot.@@N@@
open Jvm Jvm.ClassFile Sem Op Lib Jvm.Free Jvm.Stand Jvm.Pilot.@@N@@.Jvm.D
/-! MADE BY PROGRAM (witnessworld.py) out of the Statement's table words and the real class files: 13 classes; the members and pool entries that the words name. The judged class is class 1, her method 1. -/
namespace start1
open Jvm.ClassFile
def u (s : String) : CpInfo := .utf8 (stringToUtf16 s)
/-- a pool by its gaps: so many unusable entries, then the entry; so many at the end -/
def gap : Nat → List CpInfo → List CpInfo
  | 0, r => r
  | n + 1, r => .unusable :: gap n r
def poolList (es : List (Nat × CpInfo)) (last : Nat) : List CpInfo := es.foldr (fun e r => gap e.1 (e.2 :: r)) (gap last [])
def pool (es : List (Nat × CpInfo)) (last : Nat) : Array CpInfo := ⟨poolList es last⟩
def fileOf (pool : Array CpInfo) (this : Nat) (attrs : Array Attribute := #[]) (ms : Array MethodInfo := #[]) (fl : Nat := 33) (sup : Nat := 0) (ifs : Array Nat := #[]) (fds : Array FieldInfo := #[]) : ClassFile where
  minorVersion := 0
  majorVersion := 65
  constantPool := pool
  accessFlags := fl
  thisClass := this
  superClass := sup
  interfaces := ifs
  fields := fds
  methods := ms
  attributes := attrs
def plain (name : String) (sup : Option ClassId) : Class where
  name := name
  kind := .ordinary
  loader := none
  accessFlags := 33
  super := sup
  interfaces := #[]
  cf := none
  fields := #[]
  methods := #[]
  instanceTypes := #[]
  staticTypes := #[]
  resolved := #[]
  callSites := []
  init := .initialized
  statics := none
  mirror := none

def pool0 : Array CpInfo := pool [(5, u "<init>"), (0, u "()V"), (1, .class_ 10), (1, u "java/lang/Object")] 113

def k0m0 : Method := { name := "<init>", desc := "()V", sig := { parameters := [], returnType := none }, accessFlags := 1, code := none }
/-- java/lang/Object -/
def k0 : Class := { plain "java/lang/Object" none with
  accessFlags := 33
  interfaces := #[]
  cf := some (fileOf pool0 8 #[] #[{ accessFlags := 1, nameIndex := 5, descriptorIndex := 6, attributes := #[] }] 33 0 #[] #[])
  fields := #[]
  methods := #[k0m0]
  instanceTypes := #[]
  staticTypes := #[]
  resolved := Array.replicate 124 none
  statics := none }

def pool1 : Array CpInfo := pool [(2, .class_ 4), (1, u "java/lang/Object"), (0, u "<init>"), (0, u "()V"), (0, .integer 2147483647), (0, .methodref 9 10), (0, .class_ 11), (0, .nameAndType 12 13), (0, u "com/example/dossiertools/dossiertools/LeafStateAfterPinLaw"), (0, u "state"), (0, u "(I)Lcom/example/dossiertools/dossiertools/LeafState;"), (0, .methodref 9 15), (0, .nameAndType 16 17), (0, u "operation"), (0, u "(I)Lcom/example/dossiertools/dossiertools/Operation;"), (0, .methodref 19 20), (0, .class_ 21), (0, .nameAndType 22 23), (0, u "com/example/dossiertools/dossiertools/LeafState"), (0, u "after"), (0, u "(Lcom/example/dossiertools/dossiertools/Operation;)Lcom/example/dossiertools/dossiertools/LeafState;"), (0, .fieldref 19 25), (0, .nameAndType 26 27), (0, u "CURRENT"), (0, u "Lcom/example/dossiertools/dossiertools/LeafState;"), (0, .fieldref 19 29), (0, .nameAndType 30 27), (0, u "CURRENT_APPENDED"), (0, .fieldref 19 32), (0, .nameAndType 33 27), (0, u "REPLACED"), (0, .fieldref 19 35), (0, .nameAndType 36 27), (0, u "NO_LONGER_RELEVANT"), (0, .fieldref 19 38), (0, .nameAndType 39 27), (0, u "DELETION"), (0, .fieldref 41 42), (0, .class_ 43), (0, .nameAndType 44 45), (0, u "com/example/dossiertools/dossiertools/Operation"), (0, u "NEW"), (0, u "Lcom/example/dossiertools/dossiertools/Operation;"), (0, .fieldref 41 47), (0, .nameAndType 48 45), (0, u "APPEND"), (0, .fieldref 41 50), (0, .nameAndType 51 45), (0, u "REPLACE"), (0, .fieldref 41 53), (0, .nameAndType 54 45), (0, u "DELETE"), (2, u "law"), (0, u "(II)Z")] 3

def k1m0 : Method := { name := "<init>", desc := "()V", sig := { parameters := [], returnType := none }, accessFlags := 1, code := none }
def k1c1 : Code := { maxStack := 2, maxLocals := 8, code := code, exceptionTable := #[], attributes := #[] }
def k1m1 : Method := { name := "law", desc := "(II)Z", sig := { parameters := [.int, .int], returnType := some .boolean }, accessFlags := 9, code := some k1c1 }
def k1c2 : Code := { maxStack := 2, maxLocals := 1, code := method_3_code, exceptionTable := #[], attributes := #[] }
def k1m2 : Method := { name := "state", desc := "(I)Lcom/example/dossiertools/dossiertools/LeafState;", sig := { parameters := [.int], returnType := some (.object "com/example/dossiertools/dossiertools/LeafState") }, accessFlags := 10, code := some k1c2 }
def k1c3 : Code := { maxStack := 2, maxLocals := 1, code := method_4_code, exceptionTable := #[], attributes := #[] }
def k1m3 : Method := { name := "operation", desc := "(I)Lcom/example/dossiertools/dossiertools/Operation;", sig := { parameters := [.int], returnType := some (.object "com/example/dossiertools/dossiertools/Operation") }, accessFlags := 10, code := some k1c3 }
/-- com/example/dossiertools/dossiertools/LeafStateAfterPinLaw -/
def k1 : Class := { plain "com/example/dossiertools/dossiertools/LeafStateAfterPinLaw" (some 0) with
  accessFlags := 49
  interfaces := #[]
  cf := some (fileOf pool1 9 #[] #[{ accessFlags := 1, nameIndex := 5, descriptorIndex := 6, attributes := #[] }, { accessFlags := 9, nameIndex := 57, descriptorIndex := 58, attributes := #[] }, { accessFlags := 10, nameIndex := 12, descriptorIndex := 13, attributes := #[] }, { accessFlags := 10, nameIndex := 16, descriptorIndex := 17, attributes := #[] }] 49 2 #[] #[])
  fields := #[]
  methods := #[k1m0, k1m1, k1m2, k1m3]
  instanceTypes := #[]
  staticTypes := #[]
  resolved := Array.replicate 62 none
  statics := none }

def pool2 : Array CpInfo := pool [(1, .class_ 2), (0, u "java/lang/constant/Constable"), (0, .class_ 4), (0, u "java/lang/Object")] 6

/-- java/lang/constant/Constable -/
def k2 : Class := { plain "java/lang/constant/Constable" (some 0) with
  accessFlags := 1537
  interfaces := #[]
  cf := some (fileOf pool2 1 #[] #[] 1537 3 #[] #[])
  fields := #[]
  methods := #[]
  instanceTypes := #[]
  staticTypes := #[]
  resolved := Array.replicate 11 none
  statics := none }

def pool3 : Array CpInfo := pool [(1, .class_ 2), (0, u "java/lang/Comparable"), (0, .class_ 4), (0, u "java/lang/Object")] 7

/-- java/lang/Comparable -/
def k3 : Class := { plain "java/lang/Comparable" (some 0) with
  accessFlags := 1537
  interfaces := #[]
  cf := some (fileOf pool3 1 #[] #[] 1537 3 #[] #[])
  fields := #[]
  methods := #[]
  instanceTypes := #[]
  staticTypes := #[]
  resolved := Array.replicate 12 none
  statics := none }

def pool4 : Array CpInfo := pool [(1, .class_ 2), (0, u "java/io/Serializable"), (0, .class_ 4), (0, u "java/lang/Object")] 2

/-- java/io/Serializable -/
def k4 : Class := { plain "java/io/Serializable" (some 0) with
  accessFlags := 1537
  interfaces := #[]
  cf := some (fileOf pool4 1 #[] #[] 1537 3 #[] #[])
  fields := #[]
  methods := #[]
  instanceTypes := #[]
  staticTypes := #[]
  resolved := Array.replicate 7 none
  statics := none }

def pool5 : Array CpInfo := pool [(2, .class_ 4), (1, u "java/lang/Enum"), (0, u "name"), (0, u "Ljava/lang/String;"), (2, u "ordinal"), (0, u "I"), (1, .class_ 14), (1, u "java/lang/Object"), (4, u "hash"), (86, .class_ 108), (1, u "java/lang/Enum$EnumDesc"), (2, .class_ 112), (0, u "java/lang/constant/Constable"), (0, .class_ 114), (0, u "java/lang/Comparable"), (0, .class_ 116), (0, u "java/io/Serializable")] 87

/-- java/lang/Enum -/
def k5 : Class := { plain "java/lang/Enum" (some 0) with
  accessFlags := 1057
  interfaces := #[2, 3, 4]
  cf := some (fileOf pool5 2 #[.nestMembers #[106]] #[] 1057 12 #[111, 113, 115] #[{ accessFlags := 18, nameIndex := 5, descriptorIndex := 6, attributes := #[] }, { accessFlags := 18, nameIndex := 9, descriptorIndex := 10, attributes := #[] }, { accessFlags := 2, nameIndex := 19, descriptorIndex := 10, attributes := #[] }])
  fields := #[{ name := "name", type := (.object "java/lang/String"), accessFlags := 18, slot := 0, constantValue := 0 }, { name := "ordinal", type := .int, accessFlags := 18, slot := 1, constantValue := 0 }, { name := "hash", type := .int, accessFlags := 2, slot := 2, constantValue := 0 }]
  methods := #[]
  instanceTypes := #[(.object "java/lang/String"), .int, .int]
  staticTypes := #[]
  resolved := Array.replicate 204 none
  statics := none }

def pool6 : Array CpInfo := pool [(1, .class_ 2), (0, u "com/example/dossiertools/dossiertools/LeafState"), (0, .fieldref 1 4), (0, .nameAndType 5 6), (0, u "CURRENT"), (0, u "Lcom/example/dossiertools/dossiertools/LeafState;"), (0, .fieldref 1 8), (0, .nameAndType 9 6), (0, u "CURRENT_APPENDED"), (0, .fieldref 1 11), (0, .nameAndType 12 6), (0, u "REPLACED"), (0, .fieldref 1 14), (0, .nameAndType 15 6), (0, u "NO_LONGER_RELEVANT"), (2, u "DELETION"), (2, u "$VALUES"), (0, u "[Lcom/example/dossiertools/dossiertools/LeafState;"), (6, .class_ 31), (1, u "java/lang/Enum"), (8, u "word"), (0, u "Ljava/lang/String;"), (0, .fieldref 43 44), (0, .class_ 45), (0, .nameAndType 46 47), (0, u "com/example/dossiertools/dossiertools/Operation"), (0, u "DELETE"), (0, u "Lcom/example/dossiertools/dossiertools/Operation;"), (10, .fieldref 43 59), (0, .nameAndType 60 47), (0, u "REPLACE"), (0, .fieldref 43 62), (0, .nameAndType 63 47), (0, u "APPEND"), (32, u "after"), (0, u "(Lcom/example/dossiertools/dossiertools/Operation;)Lcom/example/dossiertools/dossiertools/LeafState;")] 6

def k6c0 : Code := { maxStack := 2, maxLocals := 3, code := prog_38_method_5_code, exceptionTable := #[], attributes := #[] }
def k6m0 : Method := { name := "after", desc := "(Lcom/example/dossiertools/dossiertools/Operation;)Lcom/example/dossiertools/dossiertools/LeafState;", sig := { parameters := [(.object "com/example/dossiertools/dossiertools/Operation")], returnType := some (.object "com/example/dossiertools/dossiertools/LeafState") }, accessFlags := 1, code := some k6c0 }
/-- com/example/dossiertools/dossiertools/LeafState -/
def k6 : Class := { plain "com/example/dossiertools/dossiertools/LeafState" (some 5) with
  accessFlags := 16433
  interfaces := #[]
  cf := some (fileOf pool6 1 #[] #[{ accessFlags := 1, nameIndex := 96, descriptorIndex := 97, attributes := #[] }] 16433 29 #[] #[{ accessFlags := 16409, nameIndex := 5, descriptorIndex := 6, attributes := #[] }, { accessFlags := 16409, nameIndex := 9, descriptorIndex := 6, attributes := #[] }, { accessFlags := 16409, nameIndex := 12, descriptorIndex := 6, attributes := #[] }, { accessFlags := 16409, nameIndex := 15, descriptorIndex := 6, attributes := #[] }, { accessFlags := 16409, nameIndex := 18, descriptorIndex := 6, attributes := #[] }, { accessFlags := 18, nameIndex := 40, descriptorIndex := 41, attributes := #[] }, { accessFlags := 4122, nameIndex := 21, descriptorIndex := 22, attributes := #[] }])
  fields := #[{ name := "CURRENT", type := (.object "com/example/dossiertools/dossiertools/LeafState"), accessFlags := 16409, slot := 0, constantValue := 0 }, { name := "CURRENT_APPENDED", type := (.object "com/example/dossiertools/dossiertools/LeafState"), accessFlags := 16409, slot := 1, constantValue := 0 }, { name := "REPLACED", type := (.object "com/example/dossiertools/dossiertools/LeafState"), accessFlags := 16409, slot := 2, constantValue := 0 }, { name := "NO_LONGER_RELEVANT", type := (.object "com/example/dossiertools/dossiertools/LeafState"), accessFlags := 16409, slot := 3, constantValue := 0 }, { name := "DELETION", type := (.object "com/example/dossiertools/dossiertools/LeafState"), accessFlags := 16409, slot := 4, constantValue := 0 }, { name := "word", type := (.object "java/lang/String"), accessFlags := 18, slot := 3, constantValue := 0 }, { name := "$VALUES", type := (.array (.object "com/example/dossiertools/dossiertools/LeafState")), accessFlags := 4122, slot := 5, constantValue := 0 }]
  methods := #[k6m0]
  instanceTypes := #[(.object "java/lang/String"), .int, .int, (.object "java/lang/String")]
  staticTypes := #[(.object "com/example/dossiertools/dossiertools/LeafState"), (.object "com/example/dossiertools/dossiertools/LeafState"), (.object "com/example/dossiertools/dossiertools/LeafState"), (.object "com/example/dossiertools/dossiertools/LeafState"), (.object "com/example/dossiertools/dossiertools/LeafState"), (.array (.object "com/example/dossiertools/dossiertools/LeafState"))]
  resolved := Array.replicate 104 none
  statics := some 0 }

def pool7 : Array CpInfo := pool [(1, .class_ 2), (0, u "com/example/dossiertools/dossiertools/Operation"), (2, u "NEW"), (0, u "Lcom/example/dossiertools/dossiertools/Operation;"), (2, u "APPEND"), (2, u "REPLACE"), (2, u "DELETE"), (2, u "$VALUES"), (0, u "[Lcom/example/dossiertools/dossiertools/Operation;"), (6, .class_ 28), (1, u "java/lang/Enum"), (8, u "attr"), (0, u "Ljava/lang/String;"), (8, u "ALL")] 52

/-- com/example/dossiertools/dossiertools/Operation -/
def k7 : Class := { plain "com/example/dossiertools/dossiertools/Operation" (some 5) with
  accessFlags := 16433
  interfaces := #[]
  cf := some (fileOf pool7 1 #[] #[] 16433 26 #[] #[{ accessFlags := 16409, nameIndex := 5, descriptorIndex := 6, attributes := #[] }, { accessFlags := 16409, nameIndex := 9, descriptorIndex := 6, attributes := #[] }, { accessFlags := 16409, nameIndex := 12, descriptorIndex := 6, attributes := #[] }, { accessFlags := 16409, nameIndex := 15, descriptorIndex := 6, attributes := #[] }, { accessFlags := 26, nameIndex := 47, descriptorIndex := 19, attributes := #[] }, { accessFlags := 18, nameIndex := 37, descriptorIndex := 38, attributes := #[] }, { accessFlags := 4122, nameIndex := 18, descriptorIndex := 19, attributes := #[] }])
  fields := #[{ name := "NEW", type := (.object "com/example/dossiertools/dossiertools/Operation"), accessFlags := 16409, slot := 0, constantValue := 0 }, { name := "APPEND", type := (.object "com/example/dossiertools/dossiertools/Operation"), accessFlags := 16409, slot := 1, constantValue := 0 }, { name := "REPLACE", type := (.object "com/example/dossiertools/dossiertools/Operation"), accessFlags := 16409, slot := 2, constantValue := 0 }, { name := "DELETE", type := (.object "com/example/dossiertools/dossiertools/Operation"), accessFlags := 16409, slot := 3, constantValue := 0 }, { name := "ALL", type := (.array (.object "com/example/dossiertools/dossiertools/Operation")), accessFlags := 26, slot := 4, constantValue := 0 }, { name := "attr", type := (.object "java/lang/String"), accessFlags := 18, slot := 3, constantValue := 0 }, { name := "$VALUES", type := (.array (.object "com/example/dossiertools/dossiertools/Operation")), accessFlags := 4122, slot := 5, constantValue := 0 }]
  methods := #[]
  instanceTypes := #[(.object "java/lang/String"), .int, .int, (.object "java/lang/String")]
  staticTypes := #[(.object "com/example/dossiertools/dossiertools/Operation"), (.object "com/example/dossiertools/dossiertools/Operation"), (.object "com/example/dossiertools/dossiertools/Operation"), (.object "com/example/dossiertools/dossiertools/Operation"), (.array (.object "com/example/dossiertools/dossiertools/Operation")), (.array (.object "com/example/dossiertools/dossiertools/Operation"))]
  resolved := Array.replicate 100 none
  statics := some 1 }

def pool8 : Array CpInfo := pool [(1, u "java/lang/Cloneable"), (0, .class_ 1), (0, u "java/lang/Object"), (0, .class_ 3)] 3

/-- java/lang/Cloneable -/
def k8 : Class := { plain "java/lang/Cloneable" (some 0) with
  accessFlags := 1537
  interfaces := #[]
  cf := some (fileOf pool8 2 #[] #[] 1537 4 #[] #[])
  fields := #[]
  methods := #[]
  instanceTypes := #[]
  staticTypes := #[]
  resolved := Array.replicate 8 none
  statics := none }

/-- the primitive byte -/
def k9 : Class := { plain "byte" none with kind := .primitive 'B', accessFlags := 0x411 }
/-- [B -/
def k10 : Class := { plain "[B" (some 0) with kind := .array 9 .byte, interfaces := #[8, 4], accessFlags := 1041 }

/-- the primitive int -/
def k11 : Class := { plain "int" none with kind := .primitive 'I', accessFlags := 0x411 }
/-- [I -/
def k12 : Class := { plain "[I" (some 0) with kind := .array 11 .int, interfaces := #[8, 4], accessFlags := 1041 }

def heap : Heap := #[{ cls := 6, slots := #[.ref 2, .ref 8, .ref 10, .ref 5, .ref 6, .null], vm := .statics 6 },
  { cls := 7, slots := #[.ref 9, .ref 7, .ref 4, .ref 3, .null, .null], vm := .statics 7 },
  { cls := 6, slots := #[.null, .int 0, .int 0, .null], vm := .none },
  { cls := 7, slots := #[.null, .int 3, .int 0, .null], vm := .none },
  { cls := 7, slots := #[.null, .int 2, .int 0, .null], vm := .none },
  { cls := 6, slots := #[.null, .int 3, .int 0, .null], vm := .none },
  { cls := 6, slots := #[.null, .int 4, .int 0, .null], vm := .none },
  { cls := 7, slots := #[.null, .int 1, .int 0, .null], vm := .none },
  { cls := 6, slots := #[.null, .int 1, .int 0, .null], vm := .none },
  { cls := 7, slots := #[.null, .int 0, .int 0, .null], vm := .none },
  { cls := 6, slots := #[.null, .int 2, .int 0, .null], vm := .none }]
def classes : Array Class := #[k0, k1, k2, k3, k4, k5, k6, k7, k8, k9, k10, k11, k12]
def interned : List (Array UInt16 × Addr) := []
def slotsUsed : Nat := 48
def theMethod : MethodId := ⟨1, 1⟩
def args0 : Array Value := #[.int 5, .int 1]
def aboutOver (below : List Frame) : State where
  vm := { classes := classes, interned := interned.toArray }
  heap := heap
  slotsUsed := slotsUsed
  threads := #[{ frames := .invoking theMethod args0 :: below }]
def below0 : List Frame := [.native { method := ⟨0, 0⟩, args := #[] }]
def about1 : State := aboutOver below0
def p0 : Program := .bare "" "" ""
def e0 : Env := launch0.env 0 0 0
theorem w_frames : about1.frames = Frame.invoking theMethod args0 :: below0 := rfl
set_option maxRecDepth 65536 in
theorem w_args : argsFit about1.vm theMethod args0 = true := by decide +kernel
set_option maxRecDepth 65536 in
theorem w_heap : heapFits about1 = true := by decide +kernel
set_option maxRecDepth 65536 in
theorem w_runnable : about1.curStatus? = some .runnable := by decide +kernel
set_option maxRecDepth 65536 in
theorem w_alone : about1.alone = true := by decide +kernel
set_option maxRecDepth 65536 in
theorem w_named : about1.methodNamed? x = some theMethod := by decide +kernel
set_option maxRecDepth 65536 in
theorem w_hears : about1.hears theMethod below0 = true := by decide +kernel
set_option maxRecDepth 65536 in
theorem w_ripe : about1.ripe theMethod args0 below0 = true := by decide +kernel
theorem w_running : about1.status = .running := rfl
set_option maxRecDepth 65536 in
theorem w_room : about1.hasRoom e0.platform room_1 = true :=
  launch0.hasRoom_least _ room_1 (by decide +kernel) (by decide +kernel) (by decide +kernel) (by decide +kernel) (by decide +kernel) (by decide +kernel)
theorem allAtoms_all (ts : List Jvm.Cond) (a : Array Jvm.Value) (st : Jvm.State) : (allAtoms ts).before a st = ts.all (fun c => c.before a st) := by
  induction ts with
  | nil => rfl
  | cons c t ih =>
    show (Jvm.Cond.and c (allAtoms t)).before a st = _
    rw [Jvm.Cond.before_and, ih, List.all_cons]
def words1 : List Jvm.Cond := Jvm.Cond.code x code maxLocals ret :: tables_1
/-- a 'code' word, met by the world's own term for the bytes: nothing is compared byte by byte -/
theorem code_word {y : MethodName} {bytes : ByteArray} {mx : Nat} {rt : Option FieldType} {a : Array Value} {s : State} {m : MethodId} {meth : Method} {c : Code} (h1 : s.methodNamed? y = some m) (h2 : s.vm.method? m = some meth) (h3 : meth.code = some c) (h4 : c.code = bytes)
    (h5 : (c.maxLocals == mx && c.exceptionTable.isEmpty && decide (c.maxStack ≤ mostOperands) && decide (meth.sig.returnType = rt) && !meth.locks && decide (parseMethodDescriptor y.desc = some meth.sig)) = true) : (Jvm.Cond.code y bytes mx rt).before a s = true := by
  simp only [Bool.and_eq_true, beq_iff_eq, Bool.not_eq_true', decide_eq_true_eq] at h5
  obtain ⟨⟨⟨⟨⟨g1, g2⟩, g3⟩, g4⟩, g5⟩, g6⟩ := h5
  simp [Cond.before, Cond.holds, Cond.value, h1, h2, h3, h4, g1, g2, g3, g4, g5, g6]
def isCode : Jvm.Cond → Bool
  | .code _ _ _ _ => true
  | _ => false
theorem all_split {L : List Jvm.Cond} {P : Jvm.Cond → Bool} (h1 : L.all (fun c => isCode c || P c) = true) (h2 : ∀ c ∈ L.filter isCode, P c = true) : L.all P = true := by
  refine List.all_eq_true.mpr fun c hc => ?_
  have h := List.all_eq_true.mp h1 c hc
  rcases Bool.eq_false_or_eq_true (isCode c) with hi | hi
  · exact h2 c (List.mem_filter.mpr ⟨hc, hi⟩)
  · simpa [hi] using h
set_option maxRecDepth 65536 in
theorem w_c0 : (Jvm.Cond.code x code maxLocals ret).before args0 about1 = true := code_word (m := ⟨1, 1⟩) (meth := k1m1) (c := k1c1) (by decide +kernel) rfl rfl rfl (by decide +kernel)
set_option maxRecDepth 65536 in
theorem w_c1 : (Jvm.Cond.code ({ cls := "com/example/dossiertools/dossiertools/LeafStateAfterPinLaw", name := "state", desc := "(I)Lcom/example/dossiertools/dossiertools/LeafState;" } : Jvm.MethodName) method_3_code (1 : Nat) (Option.some (Jvm.ClassFile.FieldType.object "com/example/dossiertools/dossiertools/LeafState"))).before args0 about1 = true := code_word (m := ⟨1, 2⟩) (meth := k1m2) (c := k1c2) (by decide +kernel) rfl rfl rfl (by decide +kernel)
set_option maxRecDepth 65536 in
theorem w_c2 : (Jvm.Cond.code ({ cls := "com/example/dossiertools/dossiertools/LeafStateAfterPinLaw", name := "operation", desc := "(I)Lcom/example/dossiertools/dossiertools/Operation;" } : Jvm.MethodName) method_4_code (1 : Nat) (Option.some (Jvm.ClassFile.FieldType.object "com/example/dossiertools/dossiertools/Operation"))).before args0 about1 = true := code_word (m := ⟨1, 3⟩) (meth := k1m3) (c := k1c3) (by decide +kernel) rfl rfl rfl (by decide +kernel)
set_option maxRecDepth 65536 in
theorem w_c3 : (Jvm.Cond.code ({ cls := "com/example/dossiertools/dossiertools/LeafState", name := "after", desc := "(Lcom/example/dossiertools/dossiertools/Operation;)Lcom/example/dossiertools/dossiertools/LeafState;" } : Jvm.MethodName) prog_38_method_5_code (3 : Nat) (Option.some (Jvm.ClassFile.FieldType.object "com/example/dossiertools/dossiertools/LeafState"))).before args0 about1 = true := code_word (m := ⟨6, 0⟩) (meth := k6m0) (c := k6c0) (by decide +kernel) rfl rfl rfl (by decide +kernel)
def codes1 : List Jvm.Cond := [Jvm.Cond.code x code maxLocals ret, Jvm.Cond.code ({ cls := "com/example/dossiertools/dossiertools/LeafStateAfterPinLaw", name := "state", desc := "(I)Lcom/example/dossiertools/dossiertools/LeafState;" } : Jvm.MethodName) method_3_code (1 : Nat) (Option.some (Jvm.ClassFile.FieldType.object "com/example/dossiertools/dossiertools/LeafState")), Jvm.Cond.code ({ cls := "com/example/dossiertools/dossiertools/LeafStateAfterPinLaw", name := "operation", desc := "(I)Lcom/example/dossiertools/dossiertools/Operation;" } : Jvm.MethodName) method_4_code (1 : Nat) (Option.some (Jvm.ClassFile.FieldType.object "com/example/dossiertools/dossiertools/Operation")), Jvm.Cond.code ({ cls := "com/example/dossiertools/dossiertools/LeafState", name := "after", desc := "(Lcom/example/dossiertools/dossiertools/Operation;)Lcom/example/dossiertools/dossiertools/LeafState;" } : Jvm.MethodName) prog_38_method_5_code (3 : Nat) (Option.some (Jvm.ClassFile.FieldType.object "com/example/dossiertools/dossiertools/LeafState"))]
set_option maxRecDepth 65536 in
theorem codes_eq : words1.filter isCode = codes1 := rfl
theorem w_codes : ∀ c ∈ words1.filter isCode, c.before args0 about1 = true := by
  rw [codes_eq]
  intro c hc
  simp only [codes1, List.mem_cons, List.not_mem_nil, or_false] at hc
  rcases hc with rfl | rfl | rfl | rfl
  · exact w_c0
  · exact w_c1
  · exact w_c2
  · exact w_c3
set_option maxRecDepth 65536 in
theorem w_t1 : (words1.take 24).all (fun c => isCode c || c.before args0 about1) = true := by decide +kernel
set_option maxRecDepth 65536 in
theorem w_t2 : (words1.drop 24).all (fun c => isCode c || c.before args0 about1) = true := by decide +kernel
theorem w_tables : (allAtoms (Jvm.Cond.code x code maxLocals ret :: tables_1)).before args0 about1 = true := by
  rw [allAtoms_all]
  show words1.all (fun c => c.before args0 about1) = true
  refine all_split ?_ w_codes
  rw [← List.take_append_drop 24 words1, List.all_append, w_t1, w_t2]
  rfl
set_option maxRecDepth 65536 in
theorem w_case : (Jvm.Cond.and given_1 narrow_1).before args0 about1 = true := by decide +kernel
theorem w_applies : (headSpec (Jvm.Cond.code x code maxLocals ret :: tables_1) room_1).applies x e0.platform about1 = true :=
  (Spec.applies_iff w_frames).mpr ⟨w_running, w_runnable, w_alone, w_named, w_hears, w_ripe, w_room, w_tables⟩
theorem atStart : AtStart classFile x code maxLocals ret World_1 tables_1 room_1 Calls_1 rest_1 Pre_1 launch0 p0 e0 about1 theMethod args0 below0 :=
  ⟨lists_1, trivial, launch0.admits_env _ _ _, launch0.least_env, fairChoices_fair.cas, fairChoices_fair.clock, w_frames, w_args, w_heap, w_applies, trivial, trivial, w_case⟩
end start1
theorem witness_1 : WitnessClaimed_1 := ⟨start1.p0, start1.e0, start1.about1, start1.theMethod, start1.args0, start1.below0, start1.atStart⟩
end Jvm.Pilot.@@N@@
