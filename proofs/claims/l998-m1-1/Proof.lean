import JvmDerived
import JvmDerived.Pilot.@@N@@Statement
import JvmDerived.Pilot.@@N@@Code
set_option linter.unusedVariables false
set_option linter.unusedSimpArgs false
namespace Jvm.RoadKit
open Sem ClassFile Op Lib Jvm.Stand Jvm.Free Jvm.LawKit
section New
variable {p : Program} {l : Launch} {e : Env} {R : Room} {s : State} {m : MethodId} {args : Array Value} {below : List Frame} {meth : Method} {c : Code} {T : State} {locs : List Loc} {cells slots : Nat}
theorem retI (X : Stand p l e R s m args below meth c T locs cells slots) (hx : p.tables.exec = Jvm.exec) {pc : Nat} {Ls : Array Slot} {z : Int32} {rest : List Value} (hret : meth.sig.returnType = some .int) (hd : decode c.code pc = .ok (.ireturn, 1)) {fs : List Frame}
    (hl : ∀ (f : JFrame) (acts : List Action), f.method = m → f.locked = none → f.entered = [] → (doReturn e (T.setTop f) acts (some (.int z))).1 = T.setFrames fs) : Steps p.tables e below (T.setTop (mkF m pc Ls (.int z :: rest))) (T.setFrames fs) := by
  have hm' : T.vm.method? m = some meth := X.method'
  have hn : narrow .int (.int z) = .int z := rfl
  show Steps p.tables e below (T.setTop { method := m, pc := pc, locals := Ls, stack := _ :: rest, locked := none }) _
  jvm_step X.here [X.here.top, hx, hd, hm', hret, hn]
  first | (intro acts; rw [hl _ acts rfl rfl rfl]) | rw [hl _ _ rfl rfl rfl]
  exact Steps.refl _
end New
end Jvm.RoadKit
namespace Jvm.Pilot.@@N@@
open Jvm Jvm.ClassFile Sem Op Lib Jvm.Free Jvm.Stand Jvm.LawKit Jvm.RoadKit Bundle Jvm.Pilot.@@N@@.Jvm.D
theorem own_eqI {a : Array Value} {s : State} {t : Term} {n : Int32} (h : (Jvm.Cond.eq t (.int n)).value a s none s [] = some true) : t.eval a s none [] s = some (.int n) := by
  simp only [Cond.value, Term.eval] at h
  cases ht : t.eval a s none [] s with
  | none => simp [ht] at h
  | some x => cases x <;> simp [ht] at h; rw [h]
abbrev Met (l : Launch) (Z : State) (ws : List Jvm.Cond) (y : MethodName) (bytes : ByteArray) (maxL : Nat) (ret : Option FieldType) (rm : Room) (as' : Array Value) (h0 : Heap) (Q : Option Value → Heap → List Loc → Prop) : Prop :=
  MetFree l y (head1 (Jvm.Cond.code y bytes maxL ret :: ws) rm) (fun a U => a = as' ∧ Z.Warmed39 U.vm ∧ U.heap = h0) (fun _ _ _ _ _ => True) (fun _ U o U' => ∃ v L, o = .returned v ∧ Q v U'.heap L ∧ FrameEnd U o U' L rm.cells rm.slots)
abbrev MetW (l : Launch) (Z : State) (ws : List Jvm.Cond) (y : MethodName) (bytes : ByteArray) (maxL : Nat) (ret : Option FieldType) (rm : Room) (as' : Array Value) (h0 : Heap) (Q : Option Value → Heap → List Loc → Prop) : Prop :=
  MetFree l y (head1 (Jvm.Cond.code y bytes maxL ret :: ws) rm) (fun a U => a = as' ∧ Z.Warmed39 U.vm ∧ U.heap = h0) (fun _ _ _ _ _ => True) (fun _ U o U' => ∃ v L, o = .returned v ∧ Q v U'.heap L ∧ ReturnedEndW U o U' L rm.cells rm.slots)
abbrev MetH (l : Launch) (Z : State) (ws : List Jvm.Cond) (y : MethodName) (bytes : ByteArray) (maxL : Nat) (ret : Option FieldType) (rm : Room) (as' : Array Value) (h0 : Heap) (EL : List (String × Nat)) (sf : List Addr) (Q : Option Value → Heap → List Loc → Prop) : Prop :=
  MetFree l y (head1 (Jvm.Cond.code y bytes maxL ret :: ws) rm) (fun a U => a = as' ∧ Z.Warmed39 U.vm ∧ U.heap = h0 ∧ CHv Z EL U.vm h0 ∧ ∀ x ∈ sf, Safe Z EL U.vm h0 x) (fun _ _ _ _ _ => True) (fun _ U o U' => ∃ v L, o = .returned v ∧ Q v U'.heap L ∧ CHr Z EL U.vm U.heap U'.vm U'.heap ∧ ReturnedEndW U o U' L rm.cells rm.slots)
section Own
variable {l : Launch} {Z : State} {ws : List Jvm.Cond} {y : MethodName} {bytes : ByteArray} {maxL : Nat} {ret : Option FieldType} {rm : Room} {as' : Array Value} {h0 : Heap} {EL : List (String × Nat)} {sf : List Addr} {Q : Option Value → Heap → List Loc → Prop}
theorem own_mk (hp : plainFor y = true)
    (body : ∀ (p : Program) (e : Env) (s : State) (m : MethodId) (below : List Frame) (meth : Method) (c : Code) (s₁ : State), Z.Warmed39 s.vm → p.tables.exec = Jvm.exec → c.code = bytes → c.maxLocals = maxL → s.vm.findClass y.cls = some m.cls → meth.name = y.name → meth.sig.returnType = ret → meth.locks = false → Stand p l e rm s m as' below meth c s₁ [] 0 0 → s₁.heap = h0 →
      ∃ (T : State) (v : Option Value) (L : List Loc) (k n : Nat), Stand p l e rm s m as' below meth c T L k n ∧ k ≤ rm.cells ∧ n ≤ rm.slots ∧ (ret = none → v = none) ∧ Q v T.heap L ∧ ∀ fs, (∀ (f : JFrame) (acts : List Action), f.method = m → f.locked = none → f.entered = [] → (doReturn e (T.setTop f) acts v).1 = T.setFrames fs) → Steps p.tables e below (s₁.setTop (entryFrame m as' maxL)) (T.setFrames fs)) : Met l Z ws y bytes maxL ret rm as' h0 Q := by
  refine MetFree.of_bodySF hp hisR ?_
  intro p e s m args below meth c s₁ Bd hml hP hK
  obtain ⟨rfl, hZ, hh⟩ := hP
  have e0 : s₁.heap = h0 := by rw [← hh, Bd.state]; rfl
  obtain ⟨T, v, L, k, n, X, hk, hn, hv, hQ, st⟩ := body p e s m below meth c s₁ hZ Bd.exec Bd.bytes hml (findClass_of_methodNamed Bd.named) (name_of_methodNamed Bd.named Bd.method).1 Bd.returns Bd.notSynchronized (Stand.of_body Bd) e0
  obtain ⟨fs, hr, hrun, hended, hW, hsame⟩ := X.leave (v := v) (fun q => hv (Bd.returns.symm.trans q))
  exact ⟨_, _, st fs hr, hrun, hended, _, _, rfl, hQ, ⟨_, rfl⟩, hW, hsame.mono hk hn⟩
theorem own_mkW (hp : plainFor y = true)
    (body : ∀ (p : Program) (e : Env) (s : State) (m : MethodId) (below : List Frame) (meth : Method) (c : Code) (s₁ : State), Z.Warmed39 s.vm → p.tables.exec = Jvm.exec → c.code = bytes → c.maxLocals = maxL → s.vm.findClass y.cls = some m.cls → meth.name = y.name → meth.sig.returnType = ret → meth.locks = false → Stand p l e rm s m as' below meth c s₁ [] 0 0 → s₁.heap = h0 →
      ∃ (T : State) (v : Option Value) (L : List Loc) (k n : Nat) (vm1 : Vm) (n1 : Nat), Stand p l e rm (s.setVm vm1) m as' below meth c T L k n ∧ s.Since vm1 n1 ∧ n1 ≤ T.heap.size ∧ k ≤ rm.cells ∧ n ≤ rm.slots ∧ (ret = none → v = none) ∧ Q v T.heap L ∧ ∀ fs, (∀ (f : JFrame) (acts : List Action), f.method = m → f.locked = none → f.entered = [] → (doReturn e (T.setTop f) acts v).1 = T.setFrames fs) → Steps p.tables e below (s₁.setTop (entryFrame m as' maxL)) (T.setFrames fs)) : MetW l Z ws y bytes maxL ret rm as' h0 Q := by
  refine MetFree.of_bodySF hp hisR ?_
  intro p e s m args below meth c s₁ Bd hml hP hK
  obtain ⟨rfl, hZ, hh⟩ := hP
  have e0 : s₁.heap = h0 := by rw [← hh, Bd.state]; rfl
  obtain ⟨T, v, L, k, n, vm1, n1, X, hS, hn1, hk, hn, hv, hQ, st⟩ := body p e s m below meth c s₁ hZ Bd.exec Bd.bytes hml (findClass_of_methodNamed Bd.named) (name_of_methodNamed Bd.named Bd.method).1 Bd.returns Bd.notSynchronized (Stand.of_body Bd) e0
  obtain ⟨fs, hr, hrun, hended, hW⟩ := Stand.leaveW X hS hn1 (v := v) (fun q => hv (Bd.returns.symm.trans q))
  exact ⟨_, _, st fs hr, hrun, hended, _, _, rfl, hQ, hW.1, hW.2.1, hW.2.2.1, hW.2.2.2.mono hk hn⟩
theorem own_mkH (hp : plainFor y = true)
    (body : ∀ (p : Program) (e : Env) (s : State) (m : MethodId) (below : List Frame) (meth : Method) (c : Code) (s₁ : State), Z.Warmed39 s.vm → p.tables.exec = Jvm.exec → c.code = bytes → c.maxLocals = maxL → s.vm.findClass y.cls = some m.cls → meth.name = y.name → meth.sig.returnType = ret → meth.locks = false → Stand p l e rm s m as' below meth c s₁ [] 0 0 → s₁.heap = h0 → CHv Z EL s.vm h0 → (∀ x ∈ sf, Safe Z EL s.vm h0 x) →
      ∃ (T : State) (v : Option Value) (L : List Loc) (k n : Nat) (vm1 : Vm) (n1 : Nat), Stand p l e rm (s.setVm vm1) m as' below meth c T L k n ∧ s.Since vm1 n1 ∧ n1 ≤ T.heap.size ∧ k ≤ rm.cells ∧ n ≤ rm.slots ∧ (ret = none → v = none) ∧ Q v T.heap L ∧ CHr Z EL s.vm h0 T.vm T.heap ∧ ∀ fs, (∀ (f : JFrame) (acts : List Action), f.method = m → f.locked = none → f.entered = [] → (doReturn e (T.setTop f) acts v).1 = T.setFrames fs) → Steps p.tables e below (s₁.setTop (entryFrame m as' maxL)) (T.setFrames fs)) : MetH l Z ws y bytes maxL ret rm as' h0 EL sf Q := by
  refine MetFree.of_bodySF hp hisR ?_
  intro p e s m args below meth c s₁ Bd hml hP hK
  obtain ⟨rfl, hZ, hh, H0, hsf⟩ := hP
  have e0 : s₁.heap = h0 := by rw [← hh, Bd.state]; rfl
  obtain ⟨T, v, L, k, n, vm1, n1, X, hS, hn1, hk, hn, hv, hQ, hC, st⟩ := body p e s m below meth c s₁ hZ Bd.exec Bd.bytes hml (findClass_of_methodNamed Bd.named) (name_of_methodNamed Bd.named Bd.method).1 Bd.returns Bd.notSynchronized (Stand.of_body Bd) e0 H0 hsf
  obtain ⟨fs, hr, hrun, hended, hW⟩ := Stand.leaveW X hS hn1 (v := v) (fun q => hv (Bd.returns.symm.trans q))
  have hC' : CHr Z EL s.vm s.heap (T.setFrames fs).vm (T.setFrames fs).heap := by
    have a : (T.setFrames fs).vm = T.vm := rfl
    have b : (T.setFrames fs).heap = T.heap := rfl
    rw [a, b, hh]; exact hC
  exact ⟨_, _, st fs hr, hrun, hended, _, _, rfl, hQ, hC', hW.1, hW.2.1, hW.2.2.1, hW.2.2.2.mono hk hn⟩
end Own
abbrev SS (p : Program) (e : Env) (b : List Frame) (T : State) (m : MethodId) (pc : Nat) (L : Array Slot) (S : List Value) (t : State) : Prop := Steps p.tables e b (T.setTop (mkF m pc L S)) t
section OwnC
variable {p : Program} {l : Launch} {e : Env} {R : Room} {s : State} {m : MethodId} {args : Array Value} {below : List Frame} {meth : Method} {c : Code} {T : State} {locs : List Loc} {cells slots : Nat} {Z : State} {a0 : Array Value} {h : Heap} {own : String} {index ml pc maxL : Nat} {y z : MethodName} {bytes : ByteArray} {ret : Option FieldType} {rm : Room} {as' : Array Value} {Q : Option Value → Heap → List Loc → Prop} {ps : List FieldType} {r : Option FieldType} {b : Addr} {C : String}
/-- what a call asks of the room -/
abbrev Rok (R rm : Room) (cells slots maxL W : Nat) (y : MethodName) : Prop := (y.cls ≠ "java/lang/invoke/MethodHandle" ∧ y.cls ≠ "java/lang/invoke/VarHandle") ∧ rm.frames + 1 ≤ R.frames ∧ W + (maxL + 11) + rm.locals ≤ R.locals ∧ cells + rm.cells ≤ R.cells ∧ slots + rm.slots ≤ R.slots
theorem own_cs (X : Stand p l e R s m args below meth c T locs cells slots) (hx : p.tables.exec = Jvm.exec) (hZ : Z.Warmed39 s.vm) (hown : s.vm.findClass own = some m.cls) (hml : c.maxLocals = ml) (w1 : (Jvm.Cond.methodLink own index y).before a0 Z = true) (w2 : (Jvm.Cond.static y).before a0 Z = true) (w3 : (Jvm.Cond.initialized y.cls).before a0 Z = true) (w4 : (Jvm.Cond.code y bytes maxL ret).before a0 Z = true)
    (hM : Met l Z [] y bytes maxL ret rm as' h Q) (eT : T.heap = h) (hd : decode c.code pc = .ok (.invokestatic index, 3)) (W : Nat) (Ls : Array Slot) (argsL rest : List Value) (pd : parseMethodDescriptor y.desc = some ⟨ps, r⟩) (ok : Rok R rm cells slots maxL W y) (hsz : Ls.size = ml) (hln : argsL.length = ps.length) (has : argsL.toArray = as') (hW : 2 * 0 + (rest.map fun v => v.category).sum ≤ W) :
    ∃ v T' L', Stand p l e R s m args below meth c T' (locs ++ L') (cells + rm.cells) (slots + rm.slots) ∧ Q v T'.heap L' ∧ ∀ t, SS p e below T' m (pc + 3) Ls (v.toList ++ rest) t → SS p e below T m pc Ls (argsL.reverse ++ rest) t := by
  obtain ⟨v, _, ⟨T', L, k, n⟩, -, X', ⟨Lc, hQ, rfl, rfl, rfl⟩, st⟩ := Jvm.LawKit.callS X hx (y := y) hown (mvT hZ w1) (mvT hZ w2) (mvT hZ w3) (mvT hZ w4) ok.1 (backOf (W := W) hM hZ w4 w3 ok.2.1 ok.2.2.1) (g := mkF m pc Ls (argsL.reverse ++ rest)) rfl (hsz.trans hml.symm) (argsL := argsL) (rest := rest) (lenOf pd hln) rfl hW hd (fun _ _ => ⟨has, eT, ok.2.2.2.1, ok.2.2.2.2⟩)
  exact ⟨v, T', Lc, X', hQ, st⟩
theorem own_cp (X : Stand p l e R s m args below meth c T locs cells slots) (hx : p.tables.exec = Jvm.exec) (hZ : Z.Warmed39 s.vm) (hown : s.vm.findClass own = some m.cls) (hml : c.maxLocals = ml) (hy : y.name = "<init>") (w1 : (Jvm.Cond.methodLink own index y).before a0 Z = true) (w2 : (Jvm.Cond.instanceMethod y).before a0 Z = true) (w3 : (Jvm.Cond.initialized y.cls).before a0 Z = true) (w4 : (Jvm.Cond.code y bytes maxL none).before a0 Z = true)
    (hM : Met l Z [] y bytes maxL none rm as' h Q) (eT : T.heap = h) (hd : decode c.code pc = .ok (.invokespecial index, 3)) (W : Nat) (Ls : Array Slot) (b : Addr) (argsL rest : List Value) (pd : parseMethodDescriptor y.desc = some ⟨ps, r⟩) (ok : Rok R rm cells slots maxL W y) (hsz : Ls.size = ml) (hln : argsL.length = ps.length) (has : (.ref b :: argsL).toArray = as') (hW : 2 * 0 + (rest.map fun v => v.category).sum ≤ W) :
    ∃ v T' L', Stand p l e R s m args below meth c T' (locs ++ L') (cells + rm.cells) (slots + rm.slots) ∧ Q v T'.heap L' ∧ ∀ t, SS p e below T' m (pc + 3) Ls (v.toList ++ rest) t → SS p e below T m pc Ls (argsL.reverse ++ .ref b :: rest) t := by
  obtain ⟨v, _, ⟨T', L, k, n⟩, -, X', ⟨Lc, hQ, rfl, rfl, rfl⟩, st⟩ := X.specialBack hx (y := y) hy hown (mvT hZ w1) (mvT hZ w2) (mvT hZ w4) ok.1 (backOf (W := W) hM hZ w4 w3 ok.2.1 ok.2.2.1) (g := mkF m pc Ls (argsL.reverse ++ .ref b :: rest)) rfl (hsz.trans hml.symm) (Steps.refl _) (a := b) (argsL := argsL) (rest := rest) (lenOf pd hln) rfl hW hd (fun _ _ => ⟨has, eT, ok.2.2.2.1, ok.2.2.2.2⟩)
  exact ⟨v, T', Lc, X', hQ, fun t q => st.trans q⟩
theorem own_cv (X : Stand p l e R s m args below meth c T locs cells slots) (hx : p.tables.exec = Jvm.exec) (hZ : Z.Warmed39 s.vm) (hown : s.vm.findClass own = some m.cls) (hml : c.maxLocals = ml) (w1 : (Jvm.Cond.methodLink own index y).before a0 Z = true) (w2 : (Jvm.Cond.declares y).before a0 Z = true) (nf : NotFace Z y) (ws : (Jvm.Cond.selects C y z).before a0 Z = true) (wi : (Jvm.Cond.instanceMethod z).before a0 Z = true) (w3 : (Jvm.Cond.initialized z.cls).before a0 Z = true) (w4 : (Jvm.Cond.code z bytes maxL ret).before a0 Z = true)
    (hM : Met l Z [] z bytes maxL ret rm as' h Q) (eT : T.heap = h) (E : Exa Z h b C) (hd : decode c.code pc = .ok (.invokevirtual index, 3)) (W : Nat) (Ls : Array Slot) (argsL rest : List Value) (pd : parseMethodDescriptor y.desc = some ⟨ps, r⟩) (ok : Rok R rm cells slots maxL W y) (hsz : Ls.size = ml) (hln : argsL.length = ps.length) (has : (.ref b :: argsL).toArray = as') (hW : 2 * 0 + (rest.map fun v => v.category).sum ≤ W) :
    ∃ v T' L', Stand p l e R s m args below meth c T' (locs ++ L') (cells + rm.cells) (slots + rm.slots) ∧ Q v T'.heap L' ∧ ∀ t, SS p e below T' m (pc + 3) Ls (v.toList ++ rest) t → SS p e below T m pc Ls (argsL.reverse ++ .ref b :: rest) t := by
  obtain ⟨cB, kB, qa, qb, qc⟩ := isOf hZ eT E
  obtain ⟨v, _, ⟨T', L, k, n⟩, -, X', ⟨Lc, hQ, rfl, rfl, rfl⟩, st⟩ := X.virtualBack hx (y := y) (z := z) hown (mvT hZ w1) (mvT hZ w2) (nf.move hZ.alike) (mvT hZ ws) (mvT hZ wi) ok.1 (backOf (W := W) hM hZ w4 w3 ok.2.1 ok.2.2.1) qa qc (g := mkF m pc Ls (argsL.reverse ++ .ref b :: rest)) rfl (hsz.trans hml.symm) (Steps.refl _) (argsL := argsL) (rest := rest) (lenOf pd hln) rfl hW hd (fun _ _ => ⟨has, eT, ok.2.2.2.1, ok.2.2.2.2⟩)
  exact ⟨v, T', Lc, X', hQ, fun t q => st.trans q⟩
end OwnC
theorem own_che {Z T : State} {EL : List (String × Nat)} {vm : Vm} {h0 h : Heap} (e : T.heap = h) (C : CHr Z EL vm h0 T.vm h) : CHr Z EL vm h0 T.vm T.heap := by rw [e]; exact C
theorem own_sf0 {Z : State} {EL : List (String × Nat)} {vm : Vm} {h : Heap} : ∀ x ∈ ([] : List Addr), Safe Z EL vm h x ∧ x < h.size := fun _ q => nomatch q
theorem own_sfS {Z : State} {EL : List (String × Nat)} {vm : Vm} {h : Heap} {x : Addr} {ws : List Addr} (n : Safe Z EL vm h x) (lt : x < h.size) (r : ∀ y ∈ ws, Safe Z EL vm h y ∧ y < h.size) : ∀ y ∈ x :: ws, Safe Z EL vm h y ∧ y < h.size := fun y q => by
  rcases List.mem_cons.mp q with rfl | q
  · exact ⟨n, lt⟩
  · exact r y q
theorem own_backH {l : Launch} {R : Room} {p : Program} {e : Env} {below : List Frame} {Z s : State} {a0 args : Array Value} {EL : List (String × Nat)} {h : Heap} {vm0 : Vm} {y : MethodName} {bytes : ByteArray} {maxL : Nat} {ret : Option FieldType} {rm : Room} {len W : Nat} {as' : Array Value} {sf : List Addr} {Q : Option Value → Heap → List Loc → Prop}
    (hM : MetFree l y (head1 [Jvm.Cond.code y bytes maxL ret] rm) (fun a U => a = as' ∧ Z.Warmed39 U.vm ∧ U.heap = h ∧ CHv Z EL U.vm h ∧ ∀ x ∈ sf, Safe Z EL U.vm h x) (fun _ _ _ _ _ => True) (fun _ U o U' => ∃ v L, o = .returned v ∧ Q v U'.heap L ∧ CHr Z EL U.vm U.heap U'.vm U'.heap ∧ ReturnedEndW U o U' L rm.cells rm.slots))
    (hZ : Z.Warmed39 vm0) (wc : (Jvm.Cond.code y bytes maxL ret).before a0 Z = true) (wz : (Jvm.Cond.initialized y.cls).before a0 Z = true) (hf : rm.frames + 1 ≤ R.frames) (hl : W + (maxL + 11) + rm.locals ≤ R.locals) (hEL : EW Z a0 EL) (H : CHv Z EL vm0 h) (hs : ∀ x ∈ sf, Safe Z EL vm0 h x ∧ x < h.size) :
    BackS l R p e below (s.setVm vm0) args y len W (fun A a => a = as' ∧ A.U.heap = h ∧ A.cells + rm.cells ≤ R.cells ∧ A.slots + rm.slots ≤ R.slots)
      (fun A _ v B => ∃ L, Q v B.U.heap L ∧ B.locs = A.locs ++ L ∧ B.cells = A.cells + rm.cells ∧ B.slots = A.slots + rm.slots ∧ CHr Z EL vm0 h B.U.vm B.U.heap) := by
  refine BackS.of_freeW (bytes := bytes) (maxL := maxL) (ret := ret) (E := fun _ first o t L k n => (k = rm.cells ∧ n = rm.slots) ∧ (∃ v, o = .returned v ∧ Q v t.heap L) ∧ CHr Z EL first.vm first.heap t.vm t.heap) hM hf hl ?_ ?_ ?_ ?_ ?_
  · intro m meth c A a Y hp
    have hU : Z.Warmed39 A.U.vm := wtrans (s := s.setVm vm0) hZ Y.warmed
    refine ⟨?_, mv hU wc, mv hU wz, hp.2.2.1, hp.2.2.2⟩
    show (Jvm.Cond.and _ .tt).before a A.U = true
    rw [Cond.before_and, mv hU wc]; rfl
  · intro m meth c A a g mk Y hp
    have q := CHv.at Y hZ hEL H
    exact ⟨hp.1, wtrans (s := s.setVm vm0) hZ Y.warmed, hp.2.1, q.1, fun x hx => q.safe (hs x hx).2 (hs x hx).1⟩
  · intros; trivial
  · rintro _ _ _ _ ⟨v, L, h1, h2, h3, h4⟩
    exact ⟨L, _, _, h4, ⟨rfl, rfl⟩, ⟨v, h1, h2⟩, h3⟩
  · rintro m meth c A a g mk v t L k n Y hp - - ⟨⟨rfl, rfl⟩, ⟨v', e3, e4⟩, e5⟩
    cases e3
    refine ⟨L, e4, rfl, rfl, rfl, (CHv.at Y hZ hEL H).trans ?_⟩
    have e6 : (A.U.calling g mk a).heap = h := hp.2.1
    rw [e6] at e5
    exact e5
def Elt (Z : State) (h : Heap) (a : Addr) (ty : FieldType) (j : Int32) (v : Value) : Prop := ∃ c : Cell, Arr Z h a c ty ∧ ¬ (j < 0 ∨ c.slots.size ≤ j.toNatClampNeg) ∧ c.slots[j.toNatClampNeg]? = some v
theorem Elt.ext {Z : State} {h h' : Heap} {a : Addr} {ty : FieldType} {j : Int32} {v : Value} (F : Elt Z h a ty j v) (E : Ext h h') : Elt Z h' a ty j v := by obtain ⟨c, A, r⟩ := F; exact ⟨c, A.ext E, r⟩
theorem Elt.lt {Z : State} {h : Heap} {a : Addr} {ty : FieldType} {j : Int32} {v : Value} (F : Elt Z h a ty j v) : a < h.size := by obtain ⟨c, A, -⟩ := F; exact A.lt
theorem own_arvty {Z : State} {h : Heap} {a b : Addr} {k1 k2 : ClassId} {t1 t2 : FieldType} {z1 z2 : Int32} {v1 v2 : List Value} {d1 d2 : Value} (A : Arv Z h a k1 t1 z1 v1 d1) (B : Arv Z h b k2 t2 z2 v2 d2) (hn : t1 ≠ t2) : a ≠ b := fun e => by
  subst e
  obtain ⟨c1, ⟨a1, ⟨-, q1, r1, m1, w1⟩, -⟩, -⟩ := A
  obtain ⟨c2, ⟨a2, ⟨-, q2, r2, m2, w2⟩, -⟩, -⟩ := B
  cases a1.symm.trans a2
  cases r1.symm.trans r2
  rw [w1] at w2
  injection w2 with _ e2
  exact hn e2
theorem own_decl {args : Array Value} {s : State} {y : MethodName} {bytes : ByteArray} {maxL : Nat} {ret : Option FieldType} (hi : (Jvm.Cond.instanceMethod y).before args s = true) (hc : (Jvm.Cond.code y bytes maxL ret).before args s = true) : (Jvm.Cond.declares y).before args s = true := by
  obtain ⟨mk, methM, hnamed, hmethM, hst, hab⟩ := Cond.instanceMethod_spec hi
  obtain ⟨m2, cM, q1, -, -, -, -, -, -, hsig⟩ := Cond.code_spec hnamed hc
  cases hmethM.symm.trans q1
  simp [Cond.before, Cond.holds, Cond.value, hnamed, hmethM, hst, hsig]
theorem own_char (x : Int32) (h1 : ¬ ((255 : Int32) < x)) (h2 : ¬ (x < (0 : Int32))) : x.toUInt32.toUInt16.toUInt32.toInt32 = x ∧ (x.toInt8.toInt32 &&& (255 : Int32)) = x := by
  have e1 := c_i2c x
  have e2 := c_mask x.toInt8.toInt32 255 8 (by decide) (by decide)
  have e3 := c_i2b x
  simp only [Int32.lt_iff_toInt_lt, Int32.reduceToInt] at h1 h2
  constructor
  · rw [← Int32.toInt_inj]; omega
  · rw [← Int32.toInt_inj, e2]; omega
theorem own_c255 (x : Int32) : ¬ ((255 : Int32) < (x &&& (255 : Int32))) ∧ ¬ ((x &&& (255 : Int32)) < (0 : Int32)) := by
  have e2 := c_mask x 255 8 (by decide) (by decide)
  simp only [Int32.lt_iff_toInt_lt, Int32.reduceToInt, e2]
  omega
theorem own_narB (x : Int32) : nar .byte (x.toInt8.toInt32) = x.toInt8.toInt32 := by
  show x.toInt8.toInt32.toInt8.toInt32 = x.toInt8.toInt32
  simp
theorem own_narC (x : Int32) : nar .char (x.toUInt32.toUInt16.toUInt32.toInt32) = x.toUInt32.toUInt16.toUInt32.toInt32 := by
  show x.toUInt32.toUInt16.toUInt32.toInt32.toUInt32.toUInt16.toUInt32.toInt32 = _
  have e1 := c_i2c x
  have e2 := c_i2c (x.toUInt32.toUInt16.toUInt32.toInt32)
  rw [← Int32.toInt_inj]; omega
theorem own_nput {t : FieldType} {x : Int32} (ht : t = .boolean ∨ t = .byte ∨ t = .char ∨ t = .short) (h : nar t x = x) : narrow t (.int x) = .int x := by
  have q : narrow t (.int x) = .int (nar t x) := by rcases ht with rfl | rfl | rfl | rfl <;> rfl
  rw [q, h]
theorem own_fput {t : FieldType} {x : Int32} (ht : t = .boolean ∨ t = .byte ∨ t = .char ∨ t = .short) (h : nar t x = x) : fits t (.int x) = true := by
  rw [← h]
  rcases ht with rfl | rfl | rfl | rfl
  · exact fits_nar_bool x
  · exact fits_nar_byte x
  · exact fits_nar_char x
  · exact fits_nar_short x
theorem own_nf {args : Array Value} {s : State} {C : String} {x y z : MethodName} (e : z.cls = y.cls) (hsel : (Jvm.Cond.selects C x y).before args s = true) : NotFace s z := fun r0 h0 => by
  obtain ⟨c2, r2, m2, q1, q2, q3, q4, kP, hkP, hkPi⟩ := Cond.selects_spec hsel
  have a := findClass_of_methodNamed h0
  have b := findClass_of_methodNamed q3
  rw [e] at a
  have q : r0.cls = m2.cls := Option.some.inj (a.symm.trans b)
  exact ⟨kP, by rw [q]; exact hkP, hkPi⟩
theorem own_same {args : Array Value} {s : State} {y : MethodName} (hm : y.cls ≠ "java/lang/invoke/MethodHandle" ∧ y.cls ≠ "java/lang/invoke/VarHandle") (hd : (Jvm.Cond.instanceMethod y).before args s = true) (nf : NotFace s y) : (Jvm.Cond.sameMethod y.cls y.cls y.name y.desc).before args s = true := by
  obtain ⟨mk, methM, hnamed, hmethM, hstM, habM⟩ := Cond.instanceMethod_spec hd
  obtain ⟨k, hk, hni⟩ := nf mk hnamed
  have a := findClass_of_methodNamed hnamed
  have f := State.methodFound?_of_named hnamed hm
  have hnamed' : s.methodNamed? ⟨y.cls, y.name, y.desc⟩ = some mk := hnamed
  simp [Cond.before, Cond.holds, Cond.value, a, f, hnamed', hk, hni]
theorem own_neI {a : Array Value} {s : State} {t : Term} {n x : Int32} (e : t.eval a s none [] s = some (.int x)) (h : (Jvm.Cond.not (.eq t (.int n))).value a s none s [] = some true) : ¬ (x = n) := by
  have h := not_v h
  simp only [Cond.value, Term.eval, e] at h
  simpa using h
theorem own_eqR {a : Array Value} {s : State} {t u : Term} {b : Addr} (hu : u.eval a s none [] s = some (.ref b)) (h : (Jvm.Cond.eq t u).value a s none s [] = some true) : t.eval a s none [] s = some (.ref b) := by
  simp only [Cond.value, hu] at h
  cases ht : t.eval a s none [] s with
  | none => simp [ht] at h
  | some x => cases x <;> simp [ht] at h; rw [h]
abbrev Y0 : MethodName := ⟨"com/example/beanhive/beanhive/TransAttribute", "demarcation", "(Z)Lcom/example/beanhive/beanhive/Demarcation;"⟩
abbrev FA1 (Z : State) (h : Heap) (a : Addr) (v : Value) : Prop := Fld Z h a "com/example/beanhive/beanhive/TransAttribute" "withoutCallersTransaction" "Lcom/example/beanhive/beanhive/Demarcation;" v
abbrev FA2 (Z : State) (h : Heap) (a : Addr) (v : Value) : Prop := Fld Z h a "com/example/beanhive/beanhive/TransAttribute" "withCallersTransaction" "Lcom/example/beanhive/beanhive/Demarcation;" v
abbrev EA3 (Z : State) (h : Heap) (a : Addr) : Prop := Exa Z h a "com/example/beanhive/beanhive/TransAttribute"
abbrev EA4 (Z : State) (h : Heap) (a : Addr) : Prop := Exa Z h a "com/example/beanhive/beanhive/Demarcation"
abbrev SA5 (Z : State) (h : Heap) (v : Value) : Prop := Sta Z h "com/example/beanhive/beanhive/TransAttribute" "NOT_SUPPORTED" "Lcom/example/beanhive/beanhive/TransAttribute;" v
abbrev SA6 (Z : State) (h : Heap) (v : Value) : Prop := Sta Z h "com/example/beanhive/beanhive/Demarcation" "WITHOUT" "Lcom/example/beanhive/beanhive/Demarcation;" v
abbrev SA7 (Z : State) (h : Heap) (v : Value) : Prop := Sta Z h "com/example/beanhive/beanhive/TransAttribute" "REQUIRED" "Lcom/example/beanhive/beanhive/TransAttribute;" v
abbrev SA8 (Z : State) (h : Heap) (v : Value) : Prop := Sta Z h "com/example/beanhive/beanhive/Demarcation" "JOIN" "Lcom/example/beanhive/beanhive/Demarcation;" v
abbrev SA9 (Z : State) (h : Heap) (v : Value) : Prop := Sta Z h "com/example/beanhive/beanhive/Demarcation" "BEGIN" "Lcom/example/beanhive/beanhive/Demarcation;" v
abbrev SA10 (Z : State) (h : Heap) (v : Value) : Prop := Sta Z h "com/example/beanhive/beanhive/TransAttribute" "MANDATORY" "Lcom/example/beanhive/beanhive/TransAttribute;" v
abbrev SA11 (Z : State) (h : Heap) (v : Value) : Prop := Sta Z h "com/example/beanhive/beanhive/TransAttribute" "SUPPORTS" "Lcom/example/beanhive/beanhive/TransAttribute;" v
abbrev SA12 (Z : State) (h : Heap) (v : Value) : Prop := Sta Z h "com/example/beanhive/beanhive/TransAttribute" "NEVER" "Lcom/example/beanhive/beanhive/TransAttribute;" v
abbrev SA13 (Z : State) (h : Heap) (v : Value) : Prop := Sta Z h "com/example/beanhive/beanhive/TransAttribute" "REQUIRES_NEW" "Lcom/example/beanhive/beanhive/TransAttribute;" v
abbrev HW (Z : State) (a0 : Array Value) : Prop := ∀ d ∈ tables_1, d.before a0 Z = true
def Q0 (n0 : Nat) (v : Option Value) (L : List Loc) : Prop := v = some (.int (1 : Int32)) ∧ Fr n0 L
theorem d_0 : decode prog_46_method_5_code 0 = .ok (.iload_n 1, 1) := by decide +kernel
theorem d_1 : decode prog_46_method_5_code 1 = .ok (.ifCond .eq 10, 3) := by decide +kernel
theorem d_2 : decode prog_46_method_5_code 11 = .ok (.aload_n 0, 1) := by decide +kernel
theorem d_3 : decode prog_46_method_5_code 12 = .ok (.getfield 49, 3) := by decide +kernel
theorem d_4 : decode prog_46_method_5_code 15 = .ok (.areturn, 1) := by decide +kernel
theorem ef_5 (m : MethodId) (a1 : Addr) : entryFrame m #[(.ref a1), (.int (0 : Int32))] 2 = mkF m 0 #[rv a1, iv (0 : Int32)] [] := by first | (simp [entryFrame, mkF, argsToLocals, Value.category]; done) | rfl
theorem pn_6 : plainName "com/example/beanhive/beanhive/TransAttribute" = true := by first | (simp [plainName, overriddenIn]; done) | decide +kernel
-- com/example/beanhive/beanhive/TransAttribute.demarcation(Z)Lcom/example/beanhive/beanhive/Demarcation;
def Q1_demarcation (Z : State) (a1 : Addr) (a2 : Addr) (h0 : Heap) (n0 : Nat) (v : Option Value) (h : Heap) (L : List Loc) : Prop := v = some (.ref a2) ∧ Fr n0 L ∧ h = h0
set_option maxRecDepth 65536 in
set_option maxHeartbeats 40000000 in
theorem rm1_demarcation (l : Launch) (Z : State) (a0 : Array Value) (hw : HW Z a0) (a1 : Addr) (a2 : Addr) (h0 : Heap) (n0 : Nat) (O0 : Old Z n0 h0) (F_0 : FA1 Z Z.heap a1 (.ref a2)) :
    Met l Z [] Y0 prog_46_method_5_code 2 (some (.object "com/example/beanhive/beanhive/Demarcation")) ({ frames := 0, cells := 0, slots := 0, locals := 0 } : Room) #[(.ref a1), (.int (0 : Int32))] h0 (Q1_demarcation Z a1 a2 h0 n0) := by
  have W := fun (i : Nat) {c : Jvm.Cond} (q : tables_1[i]? = some c) => hw c (List.mem_of_getElem? q)
  refine own_mk (plainFor_of_name pn_6) ?_
  intro p e s m below meth c s₁ hZ hx hby hml hown hnm hret hlk X0 e0
  have N0 := Fr.nil n0
  obtain ⟨T1, X1, e1, st1⟩ := getF X0 hx hZ hown (host := "") (Or.inl (W 20 rfl)) Via.refl e0 (F_0.ext O0.2) (g := (mkF m 12 #[rv a1, iv (0 : Int32)] [(.ref a1)])) rfl rfl (hb hby d_3)
  refine ⟨T1, some (.ref a2), _, _, _, X1, by decide, by decide, nofun, ?_, fun fs hr => castTop (ef_5 m a1) ?_⟩
  · show Q1_demarcation Z a1 a2 h0 n0 _ T1.heap _
    rw [e1]
    exact ⟨rfl, N0, rfl⟩
  · show SS p e below s₁ m 0 #[rv a1, iv (0 : Int32)] [] _
    refine XS.iloadN X0.here hx rfl (hb hby d_0) rfl ?_
    show SS p e below s₁ m 1 #[rv a1, iv (0 : Int32)] [(.int (0 : Int32))] _
    refine XS.ifYes X0.here hx rfl (pc0 := 1) (pc' := 11) rfl (hb hby d_1) rfl ((if0 _ _).trans (teq (by decide : (0 : Int32) = (0 : Int32))).1) (by decide) (by decide) ?_
    show SS p e below s₁ m 11 #[rv a1, iv (0 : Int32)] [] _
    refine XS.aloadN X0.here hx rfl (hb hby d_2) rfl rfl ?_
    show SS p e below s₁ m 12 #[rv a1, iv (0 : Int32)] [(.ref a1)] _
    refine st1 _ ?_
    show SS p e below T1 m 15 #[rv a1, iv (0 : Int32)] [(.ref a2)] _
    exact retOut X1 hx hret rfl (Or.inr (Or.inr (Or.inr (Or.inr ⟨rfl, rfl, rfl⟩)))) (hb hby d_4) hr
theorem pd_7 : parseMethodDescriptor "(Z)Lcom/example/beanhive/beanhive/Demarcation;" = some ⟨[.boolean], some (.object "com/example/beanhive/beanhive/Demarcation")⟩ := by decide +kernel
theorem ef_8 (m : MethodId) (p1 : Int32) (p2 : Int32) : entryFrame m #[(.int p1), (.int p2)] maxLocals = mkF m 0 #[iv p1, iv p2, .unset, .unset, .unset, .unset] [] := by first | (simp [entryFrame, mkF, argsToLocals, Value.category]; done) | rfl
theorem pn_9 : plainName "com/example/beanhive/beanhive/TransAttributeDemarcationPinLaw" = true := by first | (simp [plainName, overriddenIn]; done) | decide +kernel
set_option maxRecDepth 65536 in
set_option maxHeartbeats 40000000 in
theorem rm0_0_0 (l : Launch) (Z : State) (a0 : Array Value) (hw : HW Z a0) (ws : List Jvm.Cond) (p1 : Int32) (p2 : Int32) (o_NOT_SUPPORTED : Addr) (o_WITHOUT : Addr) (o_REQUIRED : Addr) (o_JOIN : Addr) (o_BEGIN : Addr) (o_MANDATORY : Addr) (o_SUPPORTS : Addr) (o_NEVER : Addr) (o_REQUIRES_NEW : Addr) (h0 : Heap) (n0 : Nat) (O0 : Old Z n0 h0) (S_o_NOT_SUPPORTED : SA5 Z Z.heap (.ref o_NOT_SUPPORTED)) (E_o_NOT_SUPPORTED : EA3 Z Z.heap o_NOT_SUPPORTED) (S_o_WITHOUT : SA6 Z Z.heap (.ref o_WITHOUT)) (E_o_WITHOUT : EA4 Z Z.heap o_WITHOUT) (S_o_REQUIRED : SA7 Z Z.heap (.ref o_REQUIRED)) (E_o_REQUIRED : EA3 Z Z.heap o_REQUIRED) (S_o_JOIN : SA8 Z Z.heap (.ref o_JOIN)) (E_o_JOIN : EA4 Z Z.heap o_JOIN) (S_o_BEGIN : SA9 Z Z.heap (.ref o_BEGIN)) (E_o_BEGIN : EA4 Z Z.heap o_BEGIN) (S_o_MANDATORY : SA10 Z Z.heap (.ref o_MANDATORY)) (E_o_MANDATORY : EA3 Z Z.heap o_MANDATORY) (S_o_SUPPORTS : SA11 Z Z.heap (.ref o_SUPPORTS)) (E_o_SUPPORTS : EA3 Z Z.heap o_SUPPORTS) (S_o_NEVER : SA12 Z Z.heap (.ref o_NEVER)) (E_o_NEVER : EA3 Z Z.heap o_NEVER) (S_o_REQUIRES_NEW : SA13 Z Z.heap (.ref o_REQUIRES_NEW)) (E_o_REQUIRES_NEW : EA3 Z Z.heap o_REQUIRES_NEW) (F_o_NOT_SUPPORTED_withCallersTransaction : FA2 Z Z.heap o_NOT_SUPPORTED (.ref o_WITHOUT)) (F_o_REQUIRED_withCallersTransaction : FA2 Z Z.heap o_REQUIRED (.ref o_JOIN)) (F_o_REQUIRED_withoutCallersTransaction : FA1 Z Z.heap o_REQUIRED (.ref o_BEGIN)) (F_o_MANDATORY_withoutCallersTransaction : FA1 Z Z.heap o_MANDATORY .null) (F_o_SUPPORTS_withCallersTransaction : FA2 Z Z.heap o_SUPPORTS (.ref o_JOIN)) (F_o_NOT_SUPPORTED_withoutCallersTransaction : FA1 Z Z.heap o_NOT_SUPPORTED (.ref o_WITHOUT)) (F_o_NEVER_withoutCallersTransaction : FA1 Z Z.heap o_NEVER (.ref o_WITHOUT)) (F_o_REQUIRES_NEW_withCallersTransaction : FA2 Z Z.heap o_REQUIRES_NEW (.ref o_BEGIN)) (F_o_REQUIRES_NEW_withoutCallersTransaction : FA1 Z Z.heap o_REQUIRES_NEW (.ref o_BEGIN)) (F_o_SUPPORTS_withoutCallersTransaction : FA1 Z Z.heap o_SUPPORTS (.ref o_WITHOUT)) (F_o_MANDATORY_withCallersTransaction : FA2 Z Z.heap o_MANDATORY (.ref o_JOIN)) (F_o_NEVER_withCallersTransaction : FA2 Z Z.heap o_NEVER .null) (hs : ((p1 &&& (2147483647 : Int32)) % (6 : Int32)) = (0 : Int32)) (hf : (p2 &&& (1 : Int32)) = (0 : Int32)) :
    Met l Z ws x code maxLocals ret room_1 #[(.int p1), (.int p2)] h0 (fun v _ L => Q0 n0 v L) := by
  have W := fun (i : Nat) {c : Jvm.Cond} (q : tables_1[i]? = some c) => hw c (List.mem_of_getElem? q)
  refine own_mk (plainFor_of_name pn_9) ?_
  intro p e s m below meth c s₁ hZ hx hby hml hown hnm hret hlk X0 e0
  have N0 := Fr.nil n0
  obtain ⟨T1, X1, e1, st1⟩ := getS2 X0 hx hZ hown (host := "") (Or.inl (W 1 rfl)) Via.refl e0 (S_o_NOT_SUPPORTED.ext O0.2) (g := (mkF m 24 #[iv p1, iv p2, iv (0 : Int32), iv (0 : Int32), .unset, .unset] [])) rfl (hb hby at_24)
  obtain ⟨T2, X2, e2, st2⟩ := getS2 X1 hx hZ hown (host := "") (Or.inl (W 4 rfl)) Via.refl e1 (S_o_WITHOUT.ext O0.2) (g := (mkF m 29 #[iv p1, iv p2, iv (0 : Int32), iv (0 : Int32), rv o_NOT_SUPPORTED, .unset] [])) rfl (hb hby at_29)
  obtain ⟨_, T3, L3, X3, hQ3, st3⟩ := own_cv X2 hx hZ hown hml (W 7 rfl) (W 8 rfl) (notFace_of_selects (W 10 rfl)) (W 10 rfl) (W 9 rfl) (W 2 rfl) (W 11 rfl) (rm1_demarcation l Z a0 hw o_NOT_SUPPORTED o_WITHOUT h0 n0 O0 (F_o_NOT_SUPPORTED_withoutCallersTransaction)) e2 (E_o_NOT_SUPPORTED.ext O0.2) (hb hby at_166) 0 #[iv p1, iv p2, iv (0 : Int32), iv (0 : Int32), rv o_NOT_SUPPORTED, rv o_WITHOUT] [(.int (0 : Int32))] [] pd_7 (by decide) rfl rfl rfl (Nat.le_of_eq rfl)
  obtain ⟨rfl, N3q, K3⟩ := hQ3
  have N4 := Fr.app N0 N3q
  refine ⟨T3, some (.int (1 : Int32)), _, _, _, X3, by decide, by decide, nofun, ?_, fun fs hr => castTop (ef_8 m p1 p2) ?_⟩
  · exact ⟨rfl, N4⟩
  · show SS p e below s₁ m 0 #[iv p1, iv p2, .unset, .unset, .unset, .unset] [] _
    refine XS.iloadN X0.here hx rfl (hb hby at_0) rfl ?_
    show SS p e below s₁ m 1 #[iv p1, iv p2, .unset, .unset, .unset, .unset] [(.int p1)] _
    refine X0.ldcInt hx hown (mvT hZ (W 0 rfl)) (g := (mkF m 1 #[iv p1, iv p2, .unset, .unset, .unset, .unset] [(.int p1)])) rfl (hb hby at_1) _ ?_
    show SS p e below s₁ m 3 #[iv p1, iv p2, .unset, .unset, .unset, .unset] [(.int (2147483647 : Int32)), (.int p1)] _
    refine XS.iand X0.here hx rfl (hb hby at_3) rfl ?_
    show SS p e below s₁ m 4 #[iv p1, iv p2, .unset, .unset, .unset, .unset] [(.int (p1 &&& (2147483647 : Int32)))] _
    refine XS.bipush X0.here hx rfl (hb hby at_4) ?_
    show SS p e below s₁ m 6 #[iv p1, iv p2, .unset, .unset, .unset, .unset] [(.int (6 : Int32)), (.int (p1 &&& (2147483647 : Int32)))] _
    refine iremM (g := (mkF m 6 #[iv p1, iv p2, .unset, .unset, .unset, .unset] [(.int (6 : Int32)), (.int (p1 &&& (2147483647 : Int32)))])) X0 hx rfl (hb hby at_6) rfl (by decide : ¬ ((6 : Int32) = (0 : Int32))) ?_
    rw [hs]
    show SS p e below s₁ m 7 #[iv p1, iv p2, .unset, .unset, .unset, .unset] [(.int (0 : Int32))] _
    refine XS.istoreN X0.here hx rfl (hb hby at_7) rfl (l' := #[iv p1, iv p2, iv (0 : Int32), .unset, .unset, .unset]) rfl ?_
    show SS p e below s₁ m 8 #[iv p1, iv p2, iv (0 : Int32), .unset, .unset, .unset] [] _
    refine XS.iloadN X0.here hx rfl (hb hby at_8) rfl ?_
    refine XS.iconst X0.here hx rfl (hb hby at_9) ?_
    show SS p e below s₁ m 10 #[iv p1, iv p2, iv (0 : Int32), .unset, .unset, .unset] [(.int (1 : Int32)), (.int p2)] _
    refine XS.iand X0.here hx rfl (hb hby at_10) rfl ?_
    rw [hf]
    show SS p e below s₁ m 11 #[iv p1, iv p2, iv (0 : Int32), .unset, .unset, .unset] [(.int (0 : Int32))] _
    refine XS.ifYes X0.here hx rfl (pc0 := 11) (pc' := 18) rfl (hb hby at_11) rfl ((if0 _ _).trans (teq (by decide : (0 : Int32) = (0 : Int32))).1) (by decide) (by decide) ?_
    show SS p e below s₁ m 18 #[iv p1, iv p2, iv (0 : Int32), .unset, .unset, .unset] [] _
    refine XS.iconst X0.here hx rfl (hb hby at_18) ?_
    show SS p e below s₁ m 19 #[iv p1, iv p2, iv (0 : Int32), .unset, .unset, .unset] [(.int (0 : Int32))] _
    refine XS.istoreN X0.here hx rfl (hb hby at_19) rfl (l' := #[iv p1, iv p2, iv (0 : Int32), iv (0 : Int32), .unset, .unset]) rfl ?_
    show SS p e below s₁ m 20 #[iv p1, iv p2, iv (0 : Int32), iv (0 : Int32), .unset, .unset] [] _
    refine XS.iloadN X0.here hx rfl (hb hby at_20) rfl ?_
    show SS p e below s₁ m 21 #[iv p1, iv p2, iv (0 : Int32), iv (0 : Int32), .unset, .unset] [(.int (0 : Int32))] _
    refine XS.ifNo X0.here hx rfl (hb hby at_21) rfl ((if0 _ _).trans (teq (by decide : (0 : Int32) = (0 : Int32))).2) ?_
    show SS p e below s₁ m 24 #[iv p1, iv p2, iv (0 : Int32), iv (0 : Int32), .unset, .unset] [] _
    refine st1 _ ?_
    show SS p e below T1 m 27 #[iv p1, iv p2, iv (0 : Int32), iv (0 : Int32), .unset, .unset] [(.ref o_NOT_SUPPORTED)] _
    refine XS.astore X1.here hx rfl (hb hby at_27) rfl rfl (l' := #[iv p1, iv p2, iv (0 : Int32), iv (0 : Int32), rv o_NOT_SUPPORTED, .unset]) rfl ?_
    show SS p e below T1 m 29 #[iv p1, iv p2, iv (0 : Int32), iv (0 : Int32), rv o_NOT_SUPPORTED, .unset] [] _
    refine st2 _ ?_
    show SS p e below T2 m 32 #[iv p1, iv p2, iv (0 : Int32), iv (0 : Int32), rv o_NOT_SUPPORTED, .unset] [(.ref o_WITHOUT)] _
    refine XS.astore X2.here hx rfl (hb hby at_32) rfl rfl (l' := #[iv p1, iv p2, iv (0 : Int32), iv (0 : Int32), rv o_NOT_SUPPORTED, rv o_WITHOUT]) rfl ?_
    show SS p e below T2 m 34 #[iv p1, iv p2, iv (0 : Int32), iv (0 : Int32), rv o_NOT_SUPPORTED, rv o_WITHOUT] [] _
    refine XS.goto X2.here hx rfl (pc0 := 34) (pc' := 163) rfl (hb hby at_34) (by decide) (by decide) ?_
    refine XS.aload X2.here hx rfl (hb hby at_163) rfl rfl ?_
    refine XS.iloadN X2.here hx rfl (hb hby at_165) rfl ?_
    show SS p e below T2 m 166 #[iv p1, iv p2, iv (0 : Int32), iv (0 : Int32), rv o_NOT_SUPPORTED, rv o_WITHOUT] [(.int (0 : Int32)), (.ref o_NOT_SUPPORTED)] _
    refine st3 _ ?_
    show SS p e below T3 m 169 #[iv p1, iv p2, iv (0 : Int32), iv (0 : Int32), rv o_NOT_SUPPORTED, rv o_WITHOUT] [(.ref o_WITHOUT)] _
    refine XS.aload X3.here hx rfl (hb hby at_169) rfl rfl ?_
    show SS p e below T3 m 171 #[iv p1, iv p2, iv (0 : Int32), iv (0 : Int32), rv o_NOT_SUPPORTED, rv o_WITHOUT] [(.ref o_WITHOUT), (.ref o_WITHOUT)] _
    refine Jvm.RoadKit.acmp (g := (mkF m 171 #[iv p1, iv p2, iv (0 : Int32), iv (0 : Int32), rv o_NOT_SUPPORTED, rv o_WITHOUT] [(.ref o_WITHOUT), (.ref o_WITHOUT)])) X3 hx rfl rfl rfl (pc0 := 171) (pc' := 174) (same := true) rfl (hb hby at_171) rfl (decide_eq_true rfl) (by decide) (by decide) ?_
    show SS p e below T3 m 174 #[iv p1, iv p2, iv (0 : Int32), iv (0 : Int32), rv o_NOT_SUPPORTED, rv o_WITHOUT] [] _
    refine XS.iconst X3.here hx rfl (hb hby at_174) ?_
    refine XS.goto X3.here hx rfl (pc0 := 175) (pc' := 179) rfl (hb hby at_175) (by decide) (by decide) ?_
    show SS p e below T3 m 179 #[iv p1, iv p2, iv (0 : Int32), iv (0 : Int32), rv o_NOT_SUPPORTED, rv o_WITHOUT] [(.int (1 : Int32))] _
    exact retN X3 hx (t := .boolean) hret (by simp) (hb hby at_179) hr
theorem d_10 : decode prog_46_method_5_code 4 = .ok (.aload_n 0, 1) := by decide +kernel
theorem d_11 : decode prog_46_method_5_code 5 = .ok (.getfield 45, 3) := by decide +kernel
theorem d_12 : decode prog_46_method_5_code 8 = .ok (.goto 7, 3) := by decide +kernel
theorem ef_13 (m : MethodId) (a1 : Addr) : entryFrame m #[(.ref a1), (.int (1 : Int32))] 2 = mkF m 0 #[rv a1, iv (1 : Int32)] [] := by first | (simp [entryFrame, mkF, argsToLocals, Value.category]; done) | rfl
-- com/example/beanhive/beanhive/TransAttribute.demarcation(Z)Lcom/example/beanhive/beanhive/Demarcation;
def Q2_demarcation (Z : State) (a1 : Addr) (a2 : Addr) (h0 : Heap) (n0 : Nat) (v : Option Value) (h : Heap) (L : List Loc) : Prop := v = some (.ref a2) ∧ Fr n0 L ∧ h = h0
set_option maxRecDepth 65536 in
set_option maxHeartbeats 40000000 in
theorem rm2_demarcation (l : Launch) (Z : State) (a0 : Array Value) (hw : HW Z a0) (a1 : Addr) (a2 : Addr) (h0 : Heap) (n0 : Nat) (O0 : Old Z n0 h0) (F_0 : FA2 Z Z.heap a1 (.ref a2)) :
    Met l Z [] Y0 prog_46_method_5_code 2 (some (.object "com/example/beanhive/beanhive/Demarcation")) ({ frames := 0, cells := 0, slots := 0, locals := 0 } : Room) #[(.ref a1), (.int (1 : Int32))] h0 (Q2_demarcation Z a1 a2 h0 n0) := by
  have W := fun (i : Nat) {c : Jvm.Cond} (q : tables_1[i]? = some c) => hw c (List.mem_of_getElem? q)
  refine own_mk (plainFor_of_name pn_6) ?_
  intro p e s m below meth c s₁ hZ hx hby hml hown hnm hret hlk X0 e0
  have N0 := Fr.nil n0
  obtain ⟨T1, X1, e1, st1⟩ := getF X0 hx hZ hown (host := "") (Or.inl (W 12 rfl)) Via.refl e0 (F_0.ext O0.2) (g := (mkF m 5 #[rv a1, iv (1 : Int32)] [(.ref a1)])) rfl rfl (hb hby d_11)
  refine ⟨T1, some (.ref a2), _, _, _, X1, by decide, by decide, nofun, ?_, fun fs hr => castTop (ef_13 m a1) ?_⟩
  · show Q2_demarcation Z a1 a2 h0 n0 _ T1.heap _
    rw [e1]
    exact ⟨rfl, N0, rfl⟩
  · show SS p e below s₁ m 0 #[rv a1, iv (1 : Int32)] [] _
    refine XS.iloadN X0.here hx rfl (hb hby d_0) rfl ?_
    show SS p e below s₁ m 1 #[rv a1, iv (1 : Int32)] [(.int (1 : Int32))] _
    refine XS.ifNo X0.here hx rfl (hb hby d_1) rfl ((if0 _ _).trans (feq (by decide : ¬ ((1 : Int32) = (0 : Int32)))).1) ?_
    show SS p e below s₁ m 4 #[rv a1, iv (1 : Int32)] [] _
    refine XS.aloadN X0.here hx rfl (hb hby d_10) rfl rfl ?_
    show SS p e below s₁ m 5 #[rv a1, iv (1 : Int32)] [(.ref a1)] _
    refine st1 _ ?_
    show SS p e below T1 m 8 #[rv a1, iv (1 : Int32)] [(.ref a2)] _
    refine XS.goto X1.here hx rfl (pc0 := 8) (pc' := 15) rfl (hb hby d_12) (by decide) (by decide) ?_
    show SS p e below T1 m 15 #[rv a1, iv (1 : Int32)] [(.ref a2)] _
    exact retOut X1 hx hret rfl (Or.inr (Or.inr (Or.inr (Or.inr ⟨rfl, rfl, rfl⟩)))) (hb hby d_4) hr
set_option maxRecDepth 65536 in
set_option maxHeartbeats 40000000 in
theorem rm0_0_1 (l : Launch) (Z : State) (a0 : Array Value) (hw : HW Z a0) (ws : List Jvm.Cond) (p1 : Int32) (p2 : Int32) (o_NOT_SUPPORTED : Addr) (o_WITHOUT : Addr) (o_REQUIRED : Addr) (o_JOIN : Addr) (o_BEGIN : Addr) (o_MANDATORY : Addr) (o_SUPPORTS : Addr) (o_NEVER : Addr) (o_REQUIRES_NEW : Addr) (h0 : Heap) (n0 : Nat) (O0 : Old Z n0 h0) (S_o_NOT_SUPPORTED : SA5 Z Z.heap (.ref o_NOT_SUPPORTED)) (E_o_NOT_SUPPORTED : EA3 Z Z.heap o_NOT_SUPPORTED) (S_o_WITHOUT : SA6 Z Z.heap (.ref o_WITHOUT)) (E_o_WITHOUT : EA4 Z Z.heap o_WITHOUT) (S_o_REQUIRED : SA7 Z Z.heap (.ref o_REQUIRED)) (E_o_REQUIRED : EA3 Z Z.heap o_REQUIRED) (S_o_JOIN : SA8 Z Z.heap (.ref o_JOIN)) (E_o_JOIN : EA4 Z Z.heap o_JOIN) (S_o_BEGIN : SA9 Z Z.heap (.ref o_BEGIN)) (E_o_BEGIN : EA4 Z Z.heap o_BEGIN) (S_o_MANDATORY : SA10 Z Z.heap (.ref o_MANDATORY)) (E_o_MANDATORY : EA3 Z Z.heap o_MANDATORY) (S_o_SUPPORTS : SA11 Z Z.heap (.ref o_SUPPORTS)) (E_o_SUPPORTS : EA3 Z Z.heap o_SUPPORTS) (S_o_NEVER : SA12 Z Z.heap (.ref o_NEVER)) (E_o_NEVER : EA3 Z Z.heap o_NEVER) (S_o_REQUIRES_NEW : SA13 Z Z.heap (.ref o_REQUIRES_NEW)) (E_o_REQUIRES_NEW : EA3 Z Z.heap o_REQUIRES_NEW) (F_o_NOT_SUPPORTED_withCallersTransaction : FA2 Z Z.heap o_NOT_SUPPORTED (.ref o_WITHOUT)) (F_o_REQUIRED_withCallersTransaction : FA2 Z Z.heap o_REQUIRED (.ref o_JOIN)) (F_o_REQUIRED_withoutCallersTransaction : FA1 Z Z.heap o_REQUIRED (.ref o_BEGIN)) (F_o_MANDATORY_withoutCallersTransaction : FA1 Z Z.heap o_MANDATORY .null) (F_o_SUPPORTS_withCallersTransaction : FA2 Z Z.heap o_SUPPORTS (.ref o_JOIN)) (F_o_NOT_SUPPORTED_withoutCallersTransaction : FA1 Z Z.heap o_NOT_SUPPORTED (.ref o_WITHOUT)) (F_o_NEVER_withoutCallersTransaction : FA1 Z Z.heap o_NEVER (.ref o_WITHOUT)) (F_o_REQUIRES_NEW_withCallersTransaction : FA2 Z Z.heap o_REQUIRES_NEW (.ref o_BEGIN)) (F_o_REQUIRES_NEW_withoutCallersTransaction : FA1 Z Z.heap o_REQUIRES_NEW (.ref o_BEGIN)) (F_o_SUPPORTS_withoutCallersTransaction : FA1 Z Z.heap o_SUPPORTS (.ref o_WITHOUT)) (F_o_MANDATORY_withCallersTransaction : FA2 Z Z.heap o_MANDATORY (.ref o_JOIN)) (F_o_NEVER_withCallersTransaction : FA2 Z Z.heap o_NEVER .null) (hs : ((p1 &&& (2147483647 : Int32)) % (6 : Int32)) = (0 : Int32)) (hf : (p2 &&& (1 : Int32)) = (1 : Int32)) :
    Met l Z ws x code maxLocals ret room_1 #[(.int p1), (.int p2)] h0 (fun v _ L => Q0 n0 v L) := by
  have W := fun (i : Nat) {c : Jvm.Cond} (q : tables_1[i]? = some c) => hw c (List.mem_of_getElem? q)
  refine own_mk (plainFor_of_name pn_9) ?_
  intro p e s m below meth c s₁ hZ hx hby hml hown hnm hret hlk X0 e0
  have N0 := Fr.nil n0
  obtain ⟨T1, X1, e1, st1⟩ := getS2 X0 hx hZ hown (host := "") (Or.inl (W 1 rfl)) Via.refl e0 (S_o_NOT_SUPPORTED.ext O0.2) (g := (mkF m 24 #[iv p1, iv p2, iv (0 : Int32), iv (1 : Int32), .unset, .unset] [])) rfl (hb hby at_24)
  obtain ⟨T2, X2, e2, st2⟩ := getS2 X1 hx hZ hown (host := "") (Or.inl (W 4 rfl)) Via.refl e1 (S_o_WITHOUT.ext O0.2) (g := (mkF m 29 #[iv p1, iv p2, iv (0 : Int32), iv (1 : Int32), rv o_NOT_SUPPORTED, .unset] [])) rfl (hb hby at_29)
  obtain ⟨_, T3, L3, X3, hQ3, st3⟩ := own_cv X2 hx hZ hown hml (W 7 rfl) (W 8 rfl) (notFace_of_selects (W 10 rfl)) (W 10 rfl) (W 9 rfl) (W 2 rfl) (W 11 rfl) (rm2_demarcation l Z a0 hw o_NOT_SUPPORTED o_WITHOUT h0 n0 O0 (F_o_NOT_SUPPORTED_withCallersTransaction)) e2 (E_o_NOT_SUPPORTED.ext O0.2) (hb hby at_166) 0 #[iv p1, iv p2, iv (0 : Int32), iv (1 : Int32), rv o_NOT_SUPPORTED, rv o_WITHOUT] [(.int (1 : Int32))] [] pd_7 (by decide) rfl rfl rfl (Nat.le_of_eq rfl)
  obtain ⟨rfl, N3q, K3⟩ := hQ3
  have N4 := Fr.app N0 N3q
  refine ⟨T3, some (.int (1 : Int32)), _, _, _, X3, by decide, by decide, nofun, ?_, fun fs hr => castTop (ef_8 m p1 p2) ?_⟩
  · exact ⟨rfl, N4⟩
  · show SS p e below s₁ m 0 #[iv p1, iv p2, .unset, .unset, .unset, .unset] [] _
    refine XS.iloadN X0.here hx rfl (hb hby at_0) rfl ?_
    show SS p e below s₁ m 1 #[iv p1, iv p2, .unset, .unset, .unset, .unset] [(.int p1)] _
    refine X0.ldcInt hx hown (mvT hZ (W 0 rfl)) (g := (mkF m 1 #[iv p1, iv p2, .unset, .unset, .unset, .unset] [(.int p1)])) rfl (hb hby at_1) _ ?_
    show SS p e below s₁ m 3 #[iv p1, iv p2, .unset, .unset, .unset, .unset] [(.int (2147483647 : Int32)), (.int p1)] _
    refine XS.iand X0.here hx rfl (hb hby at_3) rfl ?_
    show SS p e below s₁ m 4 #[iv p1, iv p2, .unset, .unset, .unset, .unset] [(.int (p1 &&& (2147483647 : Int32)))] _
    refine XS.bipush X0.here hx rfl (hb hby at_4) ?_
    show SS p e below s₁ m 6 #[iv p1, iv p2, .unset, .unset, .unset, .unset] [(.int (6 : Int32)), (.int (p1 &&& (2147483647 : Int32)))] _
    refine iremM (g := (mkF m 6 #[iv p1, iv p2, .unset, .unset, .unset, .unset] [(.int (6 : Int32)), (.int (p1 &&& (2147483647 : Int32)))])) X0 hx rfl (hb hby at_6) rfl (by decide : ¬ ((6 : Int32) = (0 : Int32))) ?_
    rw [hs]
    show SS p e below s₁ m 7 #[iv p1, iv p2, .unset, .unset, .unset, .unset] [(.int (0 : Int32))] _
    refine XS.istoreN X0.here hx rfl (hb hby at_7) rfl (l' := #[iv p1, iv p2, iv (0 : Int32), .unset, .unset, .unset]) rfl ?_
    show SS p e below s₁ m 8 #[iv p1, iv p2, iv (0 : Int32), .unset, .unset, .unset] [] _
    refine XS.iloadN X0.here hx rfl (hb hby at_8) rfl ?_
    refine XS.iconst X0.here hx rfl (hb hby at_9) ?_
    show SS p e below s₁ m 10 #[iv p1, iv p2, iv (0 : Int32), .unset, .unset, .unset] [(.int (1 : Int32)), (.int p2)] _
    refine XS.iand X0.here hx rfl (hb hby at_10) rfl ?_
    rw [hf]
    show SS p e below s₁ m 11 #[iv p1, iv p2, iv (0 : Int32), .unset, .unset, .unset] [(.int (1 : Int32))] _
    refine XS.ifNo X0.here hx rfl (hb hby at_11) rfl ((if0 _ _).trans (feq (by decide : ¬ ((1 : Int32) = (0 : Int32)))).1) ?_
    show SS p e below s₁ m 14 #[iv p1, iv p2, iv (0 : Int32), .unset, .unset, .unset] [] _
    refine XS.iconst X0.here hx rfl (hb hby at_14) ?_
    refine XS.goto X0.here hx rfl (pc0 := 15) (pc' := 19) rfl (hb hby at_15) (by decide) (by decide) ?_
    show SS p e below s₁ m 19 #[iv p1, iv p2, iv (0 : Int32), .unset, .unset, .unset] [(.int (1 : Int32))] _
    refine XS.istoreN X0.here hx rfl (hb hby at_19) rfl (l' := #[iv p1, iv p2, iv (0 : Int32), iv (1 : Int32), .unset, .unset]) rfl ?_
    show SS p e below s₁ m 20 #[iv p1, iv p2, iv (0 : Int32), iv (1 : Int32), .unset, .unset] [] _
    refine XS.iloadN X0.here hx rfl (hb hby at_20) rfl ?_
    show SS p e below s₁ m 21 #[iv p1, iv p2, iv (0 : Int32), iv (1 : Int32), .unset, .unset] [(.int (0 : Int32))] _
    refine XS.ifNo X0.here hx rfl (hb hby at_21) rfl ((if0 _ _).trans (teq (by decide : (0 : Int32) = (0 : Int32))).2) ?_
    show SS p e below s₁ m 24 #[iv p1, iv p2, iv (0 : Int32), iv (1 : Int32), .unset, .unset] [] _
    refine st1 _ ?_
    show SS p e below T1 m 27 #[iv p1, iv p2, iv (0 : Int32), iv (1 : Int32), .unset, .unset] [(.ref o_NOT_SUPPORTED)] _
    refine XS.astore X1.here hx rfl (hb hby at_27) rfl rfl (l' := #[iv p1, iv p2, iv (0 : Int32), iv (1 : Int32), rv o_NOT_SUPPORTED, .unset]) rfl ?_
    show SS p e below T1 m 29 #[iv p1, iv p2, iv (0 : Int32), iv (1 : Int32), rv o_NOT_SUPPORTED, .unset] [] _
    refine st2 _ ?_
    show SS p e below T2 m 32 #[iv p1, iv p2, iv (0 : Int32), iv (1 : Int32), rv o_NOT_SUPPORTED, .unset] [(.ref o_WITHOUT)] _
    refine XS.astore X2.here hx rfl (hb hby at_32) rfl rfl (l' := #[iv p1, iv p2, iv (0 : Int32), iv (1 : Int32), rv o_NOT_SUPPORTED, rv o_WITHOUT]) rfl ?_
    show SS p e below T2 m 34 #[iv p1, iv p2, iv (0 : Int32), iv (1 : Int32), rv o_NOT_SUPPORTED, rv o_WITHOUT] [] _
    refine XS.goto X2.here hx rfl (pc0 := 34) (pc' := 163) rfl (hb hby at_34) (by decide) (by decide) ?_
    refine XS.aload X2.here hx rfl (hb hby at_163) rfl rfl ?_
    refine XS.iloadN X2.here hx rfl (hb hby at_165) rfl ?_
    show SS p e below T2 m 166 #[iv p1, iv p2, iv (0 : Int32), iv (1 : Int32), rv o_NOT_SUPPORTED, rv o_WITHOUT] [(.int (1 : Int32)), (.ref o_NOT_SUPPORTED)] _
    refine st3 _ ?_
    show SS p e below T3 m 169 #[iv p1, iv p2, iv (0 : Int32), iv (1 : Int32), rv o_NOT_SUPPORTED, rv o_WITHOUT] [(.ref o_WITHOUT)] _
    refine XS.aload X3.here hx rfl (hb hby at_169) rfl rfl ?_
    show SS p e below T3 m 171 #[iv p1, iv p2, iv (0 : Int32), iv (1 : Int32), rv o_NOT_SUPPORTED, rv o_WITHOUT] [(.ref o_WITHOUT), (.ref o_WITHOUT)] _
    refine Jvm.RoadKit.acmp (g := (mkF m 171 #[iv p1, iv p2, iv (0 : Int32), iv (1 : Int32), rv o_NOT_SUPPORTED, rv o_WITHOUT] [(.ref o_WITHOUT), (.ref o_WITHOUT)])) X3 hx rfl rfl rfl (pc0 := 171) (pc' := 174) (same := true) rfl (hb hby at_171) rfl (decide_eq_true rfl) (by decide) (by decide) ?_
    show SS p e below T3 m 174 #[iv p1, iv p2, iv (0 : Int32), iv (1 : Int32), rv o_NOT_SUPPORTED, rv o_WITHOUT] [] _
    refine XS.iconst X3.here hx rfl (hb hby at_174) ?_
    refine XS.goto X3.here hx rfl (pc0 := 175) (pc' := 179) rfl (hb hby at_175) (by decide) (by decide) ?_
    show SS p e below T3 m 179 #[iv p1, iv p2, iv (0 : Int32), iv (1 : Int32), rv o_NOT_SUPPORTED, rv o_WITHOUT] [(.int (1 : Int32))] _
    exact retN X3 hx (t := .boolean) hret (by simp) (hb hby at_179) hr
set_option maxRecDepth 65536 in
set_option maxHeartbeats 40000000 in
theorem rm0_1_0 (l : Launch) (Z : State) (a0 : Array Value) (hw : HW Z a0) (ws : List Jvm.Cond) (p1 : Int32) (p2 : Int32) (o_NOT_SUPPORTED : Addr) (o_WITHOUT : Addr) (o_REQUIRED : Addr) (o_JOIN : Addr) (o_BEGIN : Addr) (o_MANDATORY : Addr) (o_SUPPORTS : Addr) (o_NEVER : Addr) (o_REQUIRES_NEW : Addr) (h0 : Heap) (n0 : Nat) (O0 : Old Z n0 h0) (S_o_NOT_SUPPORTED : SA5 Z Z.heap (.ref o_NOT_SUPPORTED)) (E_o_NOT_SUPPORTED : EA3 Z Z.heap o_NOT_SUPPORTED) (S_o_WITHOUT : SA6 Z Z.heap (.ref o_WITHOUT)) (E_o_WITHOUT : EA4 Z Z.heap o_WITHOUT) (S_o_REQUIRED : SA7 Z Z.heap (.ref o_REQUIRED)) (E_o_REQUIRED : EA3 Z Z.heap o_REQUIRED) (S_o_JOIN : SA8 Z Z.heap (.ref o_JOIN)) (E_o_JOIN : EA4 Z Z.heap o_JOIN) (S_o_BEGIN : SA9 Z Z.heap (.ref o_BEGIN)) (E_o_BEGIN : EA4 Z Z.heap o_BEGIN) (S_o_MANDATORY : SA10 Z Z.heap (.ref o_MANDATORY)) (E_o_MANDATORY : EA3 Z Z.heap o_MANDATORY) (S_o_SUPPORTS : SA11 Z Z.heap (.ref o_SUPPORTS)) (E_o_SUPPORTS : EA3 Z Z.heap o_SUPPORTS) (S_o_NEVER : SA12 Z Z.heap (.ref o_NEVER)) (E_o_NEVER : EA3 Z Z.heap o_NEVER) (S_o_REQUIRES_NEW : SA13 Z Z.heap (.ref o_REQUIRES_NEW)) (E_o_REQUIRES_NEW : EA3 Z Z.heap o_REQUIRES_NEW) (F_o_NOT_SUPPORTED_withCallersTransaction : FA2 Z Z.heap o_NOT_SUPPORTED (.ref o_WITHOUT)) (F_o_REQUIRED_withCallersTransaction : FA2 Z Z.heap o_REQUIRED (.ref o_JOIN)) (F_o_REQUIRED_withoutCallersTransaction : FA1 Z Z.heap o_REQUIRED (.ref o_BEGIN)) (F_o_MANDATORY_withoutCallersTransaction : FA1 Z Z.heap o_MANDATORY .null) (F_o_SUPPORTS_withCallersTransaction : FA2 Z Z.heap o_SUPPORTS (.ref o_JOIN)) (F_o_NOT_SUPPORTED_withoutCallersTransaction : FA1 Z Z.heap o_NOT_SUPPORTED (.ref o_WITHOUT)) (F_o_NEVER_withoutCallersTransaction : FA1 Z Z.heap o_NEVER (.ref o_WITHOUT)) (F_o_REQUIRES_NEW_withCallersTransaction : FA2 Z Z.heap o_REQUIRES_NEW (.ref o_BEGIN)) (F_o_REQUIRES_NEW_withoutCallersTransaction : FA1 Z Z.heap o_REQUIRES_NEW (.ref o_BEGIN)) (F_o_SUPPORTS_withoutCallersTransaction : FA1 Z Z.heap o_SUPPORTS (.ref o_WITHOUT)) (F_o_MANDATORY_withCallersTransaction : FA2 Z Z.heap o_MANDATORY (.ref o_JOIN)) (F_o_NEVER_withCallersTransaction : FA2 Z Z.heap o_NEVER .null) (hs : ((p1 &&& (2147483647 : Int32)) % (6 : Int32)) = (1 : Int32)) (hf : (p2 &&& (1 : Int32)) = (0 : Int32)) :
    Met l Z ws x code maxLocals ret room_1 #[(.int p1), (.int p2)] h0 (fun v _ L => Q0 n0 v L) := by
  have W := fun (i : Nat) {c : Jvm.Cond} (q : tables_1[i]? = some c) => hw c (List.mem_of_getElem? q)
  refine own_mk (plainFor_of_name pn_9) ?_
  intro p e s m below meth c s₁ hZ hx hby hml hown hnm hret hlk X0 e0
  have N0 := Fr.nil n0
  obtain ⟨T1, X1, e1, st1⟩ := getS2 X0 hx hZ hown (host := "") (Or.inl (W 24 rfl)) Via.refl e0 (S_o_SUPPORTS.ext O0.2) (g := (mkF m 42 #[iv p1, iv p2, iv (1 : Int32), iv (0 : Int32), .unset, .unset] [])) rfl (hb hby at_42)
  obtain ⟨T2, X2, e2, st2⟩ := getS2 X1 hx hZ hown (host := "") (Or.inl (W 4 rfl)) Via.refl e1 (S_o_WITHOUT.ext O0.2) (g := (mkF m 59 #[iv p1, iv p2, iv (1 : Int32), iv (0 : Int32), rv o_SUPPORTS, .unset] [])) rfl (hb hby at_59)
  obtain ⟨_, T3, L3, X3, hQ3, st3⟩ := own_cv X2 hx hZ hown hml (W 7 rfl) (W 8 rfl) (notFace_of_selects (W 10 rfl)) (W 10 rfl) (W 9 rfl) (W 2 rfl) (W 11 rfl) (rm1_demarcation l Z a0 hw o_SUPPORTS o_WITHOUT h0 n0 O0 (F_o_SUPPORTS_withoutCallersTransaction)) e2 (E_o_SUPPORTS.ext O0.2) (hb hby at_166) 0 #[iv p1, iv p2, iv (1 : Int32), iv (0 : Int32), rv o_SUPPORTS, rv o_WITHOUT] [(.int (0 : Int32))] [] pd_7 (by decide) rfl rfl rfl (Nat.le_of_eq rfl)
  obtain ⟨rfl, N3q, K3⟩ := hQ3
  have N4 := Fr.app N0 N3q
  refine ⟨T3, some (.int (1 : Int32)), _, _, _, X3, by decide, by decide, nofun, ?_, fun fs hr => castTop (ef_8 m p1 p2) ?_⟩
  · exact ⟨rfl, N4⟩
  · show SS p e below s₁ m 0 #[iv p1, iv p2, .unset, .unset, .unset, .unset] [] _
    refine XS.iloadN X0.here hx rfl (hb hby at_0) rfl ?_
    show SS p e below s₁ m 1 #[iv p1, iv p2, .unset, .unset, .unset, .unset] [(.int p1)] _
    refine X0.ldcInt hx hown (mvT hZ (W 0 rfl)) (g := (mkF m 1 #[iv p1, iv p2, .unset, .unset, .unset, .unset] [(.int p1)])) rfl (hb hby at_1) _ ?_
    show SS p e below s₁ m 3 #[iv p1, iv p2, .unset, .unset, .unset, .unset] [(.int (2147483647 : Int32)), (.int p1)] _
    refine XS.iand X0.here hx rfl (hb hby at_3) rfl ?_
    show SS p e below s₁ m 4 #[iv p1, iv p2, .unset, .unset, .unset, .unset] [(.int (p1 &&& (2147483647 : Int32)))] _
    refine XS.bipush X0.here hx rfl (hb hby at_4) ?_
    show SS p e below s₁ m 6 #[iv p1, iv p2, .unset, .unset, .unset, .unset] [(.int (6 : Int32)), (.int (p1 &&& (2147483647 : Int32)))] _
    refine iremM (g := (mkF m 6 #[iv p1, iv p2, .unset, .unset, .unset, .unset] [(.int (6 : Int32)), (.int (p1 &&& (2147483647 : Int32)))])) X0 hx rfl (hb hby at_6) rfl (by decide : ¬ ((6 : Int32) = (0 : Int32))) ?_
    rw [hs]
    show SS p e below s₁ m 7 #[iv p1, iv p2, .unset, .unset, .unset, .unset] [(.int (1 : Int32))] _
    refine XS.istoreN X0.here hx rfl (hb hby at_7) rfl (l' := #[iv p1, iv p2, iv (1 : Int32), .unset, .unset, .unset]) rfl ?_
    show SS p e below s₁ m 8 #[iv p1, iv p2, iv (1 : Int32), .unset, .unset, .unset] [] _
    refine XS.iloadN X0.here hx rfl (hb hby at_8) rfl ?_
    refine XS.iconst X0.here hx rfl (hb hby at_9) ?_
    show SS p e below s₁ m 10 #[iv p1, iv p2, iv (1 : Int32), .unset, .unset, .unset] [(.int (1 : Int32)), (.int p2)] _
    refine XS.iand X0.here hx rfl (hb hby at_10) rfl ?_
    rw [hf]
    show SS p e below s₁ m 11 #[iv p1, iv p2, iv (1 : Int32), .unset, .unset, .unset] [(.int (0 : Int32))] _
    refine XS.ifYes X0.here hx rfl (pc0 := 11) (pc' := 18) rfl (hb hby at_11) rfl ((if0 _ _).trans (teq (by decide : (0 : Int32) = (0 : Int32))).1) (by decide) (by decide) ?_
    show SS p e below s₁ m 18 #[iv p1, iv p2, iv (1 : Int32), .unset, .unset, .unset] [] _
    refine XS.iconst X0.here hx rfl (hb hby at_18) ?_
    show SS p e below s₁ m 19 #[iv p1, iv p2, iv (1 : Int32), .unset, .unset, .unset] [(.int (0 : Int32))] _
    refine XS.istoreN X0.here hx rfl (hb hby at_19) rfl (l' := #[iv p1, iv p2, iv (1 : Int32), iv (0 : Int32), .unset, .unset]) rfl ?_
    show SS p e below s₁ m 20 #[iv p1, iv p2, iv (1 : Int32), iv (0 : Int32), .unset, .unset] [] _
    refine XS.iloadN X0.here hx rfl (hb hby at_20) rfl ?_
    show SS p e below s₁ m 21 #[iv p1, iv p2, iv (1 : Int32), iv (0 : Int32), .unset, .unset] [(.int (1 : Int32))] _
    refine XS.ifYes X0.here hx rfl (pc0 := 21) (pc' := 37) rfl (hb hby at_21) rfl ((if0 _ _).trans (feq (by decide : ¬ ((1 : Int32) = (0 : Int32)))).2) (by decide) (by decide) ?_
    show SS p e below s₁ m 37 #[iv p1, iv p2, iv (1 : Int32), iv (0 : Int32), .unset, .unset] [] _
    refine XS.iloadN X0.here hx rfl (hb hby at_37) rfl ?_
    refine XS.iconst X0.here hx rfl (hb hby at_38) ?_
    show SS p e below s₁ m 39 #[iv p1, iv p2, iv (1 : Int32), iv (0 : Int32), .unset, .unset] [(.int (1 : Int32)), (.int (1 : Int32))] _
    refine XS.icmpNo X0.here hx rfl (hb hby at_39) rfl (teq (by decide : (1 : Int32) = (1 : Int32))).2 ?_
    show SS p e below s₁ m 42 #[iv p1, iv p2, iv (1 : Int32), iv (0 : Int32), .unset, .unset] [] _
    refine st1 _ ?_
    show SS p e below T1 m 45 #[iv p1, iv p2, iv (1 : Int32), iv (0 : Int32), .unset, .unset] [(.ref o_SUPPORTS)] _
    refine XS.astore X1.here hx rfl (hb hby at_45) rfl rfl (l' := #[iv p1, iv p2, iv (1 : Int32), iv (0 : Int32), rv o_SUPPORTS, .unset]) rfl ?_
    show SS p e below T1 m 47 #[iv p1, iv p2, iv (1 : Int32), iv (0 : Int32), rv o_SUPPORTS, .unset] [] _
    refine XS.iloadN X1.here hx rfl (hb hby at_47) rfl ?_
    show SS p e below T1 m 48 #[iv p1, iv p2, iv (1 : Int32), iv (0 : Int32), rv o_SUPPORTS, .unset] [(.int (0 : Int32))] _
    refine XS.ifYes X1.here hx rfl (pc0 := 48) (pc' := 59) rfl (hb hby at_48) rfl ((if0 _ _).trans (teq (by decide : (0 : Int32) = (0 : Int32))).1) (by decide) (by decide) ?_
    show SS p e below T1 m 59 #[iv p1, iv p2, iv (1 : Int32), iv (0 : Int32), rv o_SUPPORTS, .unset] [] _
    refine st2 _ ?_
    show SS p e below T2 m 62 #[iv p1, iv p2, iv (1 : Int32), iv (0 : Int32), rv o_SUPPORTS, .unset] [(.ref o_WITHOUT)] _
    refine XS.astore X2.here hx rfl (hb hby at_62) rfl rfl (l' := #[iv p1, iv p2, iv (1 : Int32), iv (0 : Int32), rv o_SUPPORTS, rv o_WITHOUT]) rfl ?_
    show SS p e below T2 m 64 #[iv p1, iv p2, iv (1 : Int32), iv (0 : Int32), rv o_SUPPORTS, rv o_WITHOUT] [] _
    refine XS.goto X2.here hx rfl (pc0 := 64) (pc' := 163) rfl (hb hby at_64) (by decide) (by decide) ?_
    refine XS.aload X2.here hx rfl (hb hby at_163) rfl rfl ?_
    refine XS.iloadN X2.here hx rfl (hb hby at_165) rfl ?_
    show SS p e below T2 m 166 #[iv p1, iv p2, iv (1 : Int32), iv (0 : Int32), rv o_SUPPORTS, rv o_WITHOUT] [(.int (0 : Int32)), (.ref o_SUPPORTS)] _
    refine st3 _ ?_
    show SS p e below T3 m 169 #[iv p1, iv p2, iv (1 : Int32), iv (0 : Int32), rv o_SUPPORTS, rv o_WITHOUT] [(.ref o_WITHOUT)] _
    refine XS.aload X3.here hx rfl (hb hby at_169) rfl rfl ?_
    show SS p e below T3 m 171 #[iv p1, iv p2, iv (1 : Int32), iv (0 : Int32), rv o_SUPPORTS, rv o_WITHOUT] [(.ref o_WITHOUT), (.ref o_WITHOUT)] _
    refine Jvm.RoadKit.acmp (g := (mkF m 171 #[iv p1, iv p2, iv (1 : Int32), iv (0 : Int32), rv o_SUPPORTS, rv o_WITHOUT] [(.ref o_WITHOUT), (.ref o_WITHOUT)])) X3 hx rfl rfl rfl (pc0 := 171) (pc' := 174) (same := true) rfl (hb hby at_171) rfl (decide_eq_true rfl) (by decide) (by decide) ?_
    show SS p e below T3 m 174 #[iv p1, iv p2, iv (1 : Int32), iv (0 : Int32), rv o_SUPPORTS, rv o_WITHOUT] [] _
    refine XS.iconst X3.here hx rfl (hb hby at_174) ?_
    refine XS.goto X3.here hx rfl (pc0 := 175) (pc' := 179) rfl (hb hby at_175) (by decide) (by decide) ?_
    show SS p e below T3 m 179 #[iv p1, iv p2, iv (1 : Int32), iv (0 : Int32), rv o_SUPPORTS, rv o_WITHOUT] [(.int (1 : Int32))] _
    exact retN X3 hx (t := .boolean) hret (by simp) (hb hby at_179) hr
set_option maxRecDepth 65536 in
set_option maxHeartbeats 40000000 in
theorem rm0_1_1 (l : Launch) (Z : State) (a0 : Array Value) (hw : HW Z a0) (ws : List Jvm.Cond) (p1 : Int32) (p2 : Int32) (o_NOT_SUPPORTED : Addr) (o_WITHOUT : Addr) (o_REQUIRED : Addr) (o_JOIN : Addr) (o_BEGIN : Addr) (o_MANDATORY : Addr) (o_SUPPORTS : Addr) (o_NEVER : Addr) (o_REQUIRES_NEW : Addr) (h0 : Heap) (n0 : Nat) (O0 : Old Z n0 h0) (S_o_NOT_SUPPORTED : SA5 Z Z.heap (.ref o_NOT_SUPPORTED)) (E_o_NOT_SUPPORTED : EA3 Z Z.heap o_NOT_SUPPORTED) (S_o_WITHOUT : SA6 Z Z.heap (.ref o_WITHOUT)) (E_o_WITHOUT : EA4 Z Z.heap o_WITHOUT) (S_o_REQUIRED : SA7 Z Z.heap (.ref o_REQUIRED)) (E_o_REQUIRED : EA3 Z Z.heap o_REQUIRED) (S_o_JOIN : SA8 Z Z.heap (.ref o_JOIN)) (E_o_JOIN : EA4 Z Z.heap o_JOIN) (S_o_BEGIN : SA9 Z Z.heap (.ref o_BEGIN)) (E_o_BEGIN : EA4 Z Z.heap o_BEGIN) (S_o_MANDATORY : SA10 Z Z.heap (.ref o_MANDATORY)) (E_o_MANDATORY : EA3 Z Z.heap o_MANDATORY) (S_o_SUPPORTS : SA11 Z Z.heap (.ref o_SUPPORTS)) (E_o_SUPPORTS : EA3 Z Z.heap o_SUPPORTS) (S_o_NEVER : SA12 Z Z.heap (.ref o_NEVER)) (E_o_NEVER : EA3 Z Z.heap o_NEVER) (S_o_REQUIRES_NEW : SA13 Z Z.heap (.ref o_REQUIRES_NEW)) (E_o_REQUIRES_NEW : EA3 Z Z.heap o_REQUIRES_NEW) (F_o_NOT_SUPPORTED_withCallersTransaction : FA2 Z Z.heap o_NOT_SUPPORTED (.ref o_WITHOUT)) (F_o_REQUIRED_withCallersTransaction : FA2 Z Z.heap o_REQUIRED (.ref o_JOIN)) (F_o_REQUIRED_withoutCallersTransaction : FA1 Z Z.heap o_REQUIRED (.ref o_BEGIN)) (F_o_MANDATORY_withoutCallersTransaction : FA1 Z Z.heap o_MANDATORY .null) (F_o_SUPPORTS_withCallersTransaction : FA2 Z Z.heap o_SUPPORTS (.ref o_JOIN)) (F_o_NOT_SUPPORTED_withoutCallersTransaction : FA1 Z Z.heap o_NOT_SUPPORTED (.ref o_WITHOUT)) (F_o_NEVER_withoutCallersTransaction : FA1 Z Z.heap o_NEVER (.ref o_WITHOUT)) (F_o_REQUIRES_NEW_withCallersTransaction : FA2 Z Z.heap o_REQUIRES_NEW (.ref o_BEGIN)) (F_o_REQUIRES_NEW_withoutCallersTransaction : FA1 Z Z.heap o_REQUIRES_NEW (.ref o_BEGIN)) (F_o_SUPPORTS_withoutCallersTransaction : FA1 Z Z.heap o_SUPPORTS (.ref o_WITHOUT)) (F_o_MANDATORY_withCallersTransaction : FA2 Z Z.heap o_MANDATORY (.ref o_JOIN)) (F_o_NEVER_withCallersTransaction : FA2 Z Z.heap o_NEVER .null) (hs : ((p1 &&& (2147483647 : Int32)) % (6 : Int32)) = (1 : Int32)) (hf : (p2 &&& (1 : Int32)) = (1 : Int32)) :
    Met l Z ws x code maxLocals ret room_1 #[(.int p1), (.int p2)] h0 (fun v _ L => Q0 n0 v L) := by
  have W := fun (i : Nat) {c : Jvm.Cond} (q : tables_1[i]? = some c) => hw c (List.mem_of_getElem? q)
  refine own_mk (plainFor_of_name pn_9) ?_
  intro p e s m below meth c s₁ hZ hx hby hml hown hnm hret hlk X0 e0
  have N0 := Fr.nil n0
  obtain ⟨T1, X1, e1, st1⟩ := getS2 X0 hx hZ hown (host := "") (Or.inl (W 24 rfl)) Via.refl e0 (S_o_SUPPORTS.ext O0.2) (g := (mkF m 42 #[iv p1, iv p2, iv (1 : Int32), iv (1 : Int32), .unset, .unset] [])) rfl (hb hby at_42)
  obtain ⟨T2, X2, e2, st2⟩ := getS2 X1 hx hZ hown (host := "") (Or.inl (W 16 rfl)) Via.refl e1 (S_o_JOIN.ext O0.2) (g := (mkF m 51 #[iv p1, iv p2, iv (1 : Int32), iv (1 : Int32), rv o_SUPPORTS, .unset] [])) rfl (hb hby at_51)
  obtain ⟨_, T3, L3, X3, hQ3, st3⟩ := own_cv X2 hx hZ hown hml (W 7 rfl) (W 8 rfl) (notFace_of_selects (W 10 rfl)) (W 10 rfl) (W 9 rfl) (W 2 rfl) (W 11 rfl) (rm2_demarcation l Z a0 hw o_SUPPORTS o_JOIN h0 n0 O0 (F_o_SUPPORTS_withCallersTransaction)) e2 (E_o_SUPPORTS.ext O0.2) (hb hby at_166) 0 #[iv p1, iv p2, iv (1 : Int32), iv (1 : Int32), rv o_SUPPORTS, rv o_JOIN] [(.int (1 : Int32))] [] pd_7 (by decide) rfl rfl rfl (Nat.le_of_eq rfl)
  obtain ⟨rfl, N3q, K3⟩ := hQ3
  have N4 := Fr.app N0 N3q
  refine ⟨T3, some (.int (1 : Int32)), _, _, _, X3, by decide, by decide, nofun, ?_, fun fs hr => castTop (ef_8 m p1 p2) ?_⟩
  · exact ⟨rfl, N4⟩
  · show SS p e below s₁ m 0 #[iv p1, iv p2, .unset, .unset, .unset, .unset] [] _
    refine XS.iloadN X0.here hx rfl (hb hby at_0) rfl ?_
    show SS p e below s₁ m 1 #[iv p1, iv p2, .unset, .unset, .unset, .unset] [(.int p1)] _
    refine X0.ldcInt hx hown (mvT hZ (W 0 rfl)) (g := (mkF m 1 #[iv p1, iv p2, .unset, .unset, .unset, .unset] [(.int p1)])) rfl (hb hby at_1) _ ?_
    show SS p e below s₁ m 3 #[iv p1, iv p2, .unset, .unset, .unset, .unset] [(.int (2147483647 : Int32)), (.int p1)] _
    refine XS.iand X0.here hx rfl (hb hby at_3) rfl ?_
    show SS p e below s₁ m 4 #[iv p1, iv p2, .unset, .unset, .unset, .unset] [(.int (p1 &&& (2147483647 : Int32)))] _
    refine XS.bipush X0.here hx rfl (hb hby at_4) ?_
    show SS p e below s₁ m 6 #[iv p1, iv p2, .unset, .unset, .unset, .unset] [(.int (6 : Int32)), (.int (p1 &&& (2147483647 : Int32)))] _
    refine iremM (g := (mkF m 6 #[iv p1, iv p2, .unset, .unset, .unset, .unset] [(.int (6 : Int32)), (.int (p1 &&& (2147483647 : Int32)))])) X0 hx rfl (hb hby at_6) rfl (by decide : ¬ ((6 : Int32) = (0 : Int32))) ?_
    rw [hs]
    show SS p e below s₁ m 7 #[iv p1, iv p2, .unset, .unset, .unset, .unset] [(.int (1 : Int32))] _
    refine XS.istoreN X0.here hx rfl (hb hby at_7) rfl (l' := #[iv p1, iv p2, iv (1 : Int32), .unset, .unset, .unset]) rfl ?_
    show SS p e below s₁ m 8 #[iv p1, iv p2, iv (1 : Int32), .unset, .unset, .unset] [] _
    refine XS.iloadN X0.here hx rfl (hb hby at_8) rfl ?_
    refine XS.iconst X0.here hx rfl (hb hby at_9) ?_
    show SS p e below s₁ m 10 #[iv p1, iv p2, iv (1 : Int32), .unset, .unset, .unset] [(.int (1 : Int32)), (.int p2)] _
    refine XS.iand X0.here hx rfl (hb hby at_10) rfl ?_
    rw [hf]
    show SS p e below s₁ m 11 #[iv p1, iv p2, iv (1 : Int32), .unset, .unset, .unset] [(.int (1 : Int32))] _
    refine XS.ifNo X0.here hx rfl (hb hby at_11) rfl ((if0 _ _).trans (feq (by decide : ¬ ((1 : Int32) = (0 : Int32)))).1) ?_
    show SS p e below s₁ m 14 #[iv p1, iv p2, iv (1 : Int32), .unset, .unset, .unset] [] _
    refine XS.iconst X0.here hx rfl (hb hby at_14) ?_
    refine XS.goto X0.here hx rfl (pc0 := 15) (pc' := 19) rfl (hb hby at_15) (by decide) (by decide) ?_
    show SS p e below s₁ m 19 #[iv p1, iv p2, iv (1 : Int32), .unset, .unset, .unset] [(.int (1 : Int32))] _
    refine XS.istoreN X0.here hx rfl (hb hby at_19) rfl (l' := #[iv p1, iv p2, iv (1 : Int32), iv (1 : Int32), .unset, .unset]) rfl ?_
    show SS p e below s₁ m 20 #[iv p1, iv p2, iv (1 : Int32), iv (1 : Int32), .unset, .unset] [] _
    refine XS.iloadN X0.here hx rfl (hb hby at_20) rfl ?_
    show SS p e below s₁ m 21 #[iv p1, iv p2, iv (1 : Int32), iv (1 : Int32), .unset, .unset] [(.int (1 : Int32))] _
    refine XS.ifYes X0.here hx rfl (pc0 := 21) (pc' := 37) rfl (hb hby at_21) rfl ((if0 _ _).trans (feq (by decide : ¬ ((1 : Int32) = (0 : Int32)))).2) (by decide) (by decide) ?_
    show SS p e below s₁ m 37 #[iv p1, iv p2, iv (1 : Int32), iv (1 : Int32), .unset, .unset] [] _
    refine XS.iloadN X0.here hx rfl (hb hby at_37) rfl ?_
    refine XS.iconst X0.here hx rfl (hb hby at_38) ?_
    show SS p e below s₁ m 39 #[iv p1, iv p2, iv (1 : Int32), iv (1 : Int32), .unset, .unset] [(.int (1 : Int32)), (.int (1 : Int32))] _
    refine XS.icmpNo X0.here hx rfl (hb hby at_39) rfl (teq (by decide : (1 : Int32) = (1 : Int32))).2 ?_
    show SS p e below s₁ m 42 #[iv p1, iv p2, iv (1 : Int32), iv (1 : Int32), .unset, .unset] [] _
    refine st1 _ ?_
    show SS p e below T1 m 45 #[iv p1, iv p2, iv (1 : Int32), iv (1 : Int32), .unset, .unset] [(.ref o_SUPPORTS)] _
    refine XS.astore X1.here hx rfl (hb hby at_45) rfl rfl (l' := #[iv p1, iv p2, iv (1 : Int32), iv (1 : Int32), rv o_SUPPORTS, .unset]) rfl ?_
    show SS p e below T1 m 47 #[iv p1, iv p2, iv (1 : Int32), iv (1 : Int32), rv o_SUPPORTS, .unset] [] _
    refine XS.iloadN X1.here hx rfl (hb hby at_47) rfl ?_
    show SS p e below T1 m 48 #[iv p1, iv p2, iv (1 : Int32), iv (1 : Int32), rv o_SUPPORTS, .unset] [(.int (1 : Int32))] _
    refine XS.ifNo X1.here hx rfl (hb hby at_48) rfl ((if0 _ _).trans (feq (by decide : ¬ ((1 : Int32) = (0 : Int32)))).1) ?_
    show SS p e below T1 m 51 #[iv p1, iv p2, iv (1 : Int32), iv (1 : Int32), rv o_SUPPORTS, .unset] [] _
    refine st2 _ ?_
    show SS p e below T2 m 54 #[iv p1, iv p2, iv (1 : Int32), iv (1 : Int32), rv o_SUPPORTS, .unset] [(.ref o_JOIN)] _
    refine XS.astore X2.here hx rfl (hb hby at_54) rfl rfl (l' := #[iv p1, iv p2, iv (1 : Int32), iv (1 : Int32), rv o_SUPPORTS, rv o_JOIN]) rfl ?_
    show SS p e below T2 m 56 #[iv p1, iv p2, iv (1 : Int32), iv (1 : Int32), rv o_SUPPORTS, rv o_JOIN] [] _
    refine XS.goto X2.here hx rfl (pc0 := 56) (pc' := 163) rfl (hb hby at_56) (by decide) (by decide) ?_
    refine XS.aload X2.here hx rfl (hb hby at_163) rfl rfl ?_
    refine XS.iloadN X2.here hx rfl (hb hby at_165) rfl ?_
    show SS p e below T2 m 166 #[iv p1, iv p2, iv (1 : Int32), iv (1 : Int32), rv o_SUPPORTS, rv o_JOIN] [(.int (1 : Int32)), (.ref o_SUPPORTS)] _
    refine st3 _ ?_
    show SS p e below T3 m 169 #[iv p1, iv p2, iv (1 : Int32), iv (1 : Int32), rv o_SUPPORTS, rv o_JOIN] [(.ref o_JOIN)] _
    refine XS.aload X3.here hx rfl (hb hby at_169) rfl rfl ?_
    show SS p e below T3 m 171 #[iv p1, iv p2, iv (1 : Int32), iv (1 : Int32), rv o_SUPPORTS, rv o_JOIN] [(.ref o_JOIN), (.ref o_JOIN)] _
    refine Jvm.RoadKit.acmp (g := (mkF m 171 #[iv p1, iv p2, iv (1 : Int32), iv (1 : Int32), rv o_SUPPORTS, rv o_JOIN] [(.ref o_JOIN), (.ref o_JOIN)])) X3 hx rfl rfl rfl (pc0 := 171) (pc' := 174) (same := true) rfl (hb hby at_171) rfl (decide_eq_true rfl) (by decide) (by decide) ?_
    show SS p e below T3 m 174 #[iv p1, iv p2, iv (1 : Int32), iv (1 : Int32), rv o_SUPPORTS, rv o_JOIN] [] _
    refine XS.iconst X3.here hx rfl (hb hby at_174) ?_
    refine XS.goto X3.here hx rfl (pc0 := 175) (pc' := 179) rfl (hb hby at_175) (by decide) (by decide) ?_
    show SS p e below T3 m 179 #[iv p1, iv p2, iv (1 : Int32), iv (1 : Int32), rv o_SUPPORTS, rv o_JOIN] [(.int (1 : Int32))] _
    exact retN X3 hx (t := .boolean) hret (by simp) (hb hby at_179) hr
set_option maxRecDepth 65536 in
set_option maxHeartbeats 40000000 in
theorem rm0_2_0 (l : Launch) (Z : State) (a0 : Array Value) (hw : HW Z a0) (ws : List Jvm.Cond) (p1 : Int32) (p2 : Int32) (o_NOT_SUPPORTED : Addr) (o_WITHOUT : Addr) (o_REQUIRED : Addr) (o_JOIN : Addr) (o_BEGIN : Addr) (o_MANDATORY : Addr) (o_SUPPORTS : Addr) (o_NEVER : Addr) (o_REQUIRES_NEW : Addr) (h0 : Heap) (n0 : Nat) (O0 : Old Z n0 h0) (S_o_NOT_SUPPORTED : SA5 Z Z.heap (.ref o_NOT_SUPPORTED)) (E_o_NOT_SUPPORTED : EA3 Z Z.heap o_NOT_SUPPORTED) (S_o_WITHOUT : SA6 Z Z.heap (.ref o_WITHOUT)) (E_o_WITHOUT : EA4 Z Z.heap o_WITHOUT) (S_o_REQUIRED : SA7 Z Z.heap (.ref o_REQUIRED)) (E_o_REQUIRED : EA3 Z Z.heap o_REQUIRED) (S_o_JOIN : SA8 Z Z.heap (.ref o_JOIN)) (E_o_JOIN : EA4 Z Z.heap o_JOIN) (S_o_BEGIN : SA9 Z Z.heap (.ref o_BEGIN)) (E_o_BEGIN : EA4 Z Z.heap o_BEGIN) (S_o_MANDATORY : SA10 Z Z.heap (.ref o_MANDATORY)) (E_o_MANDATORY : EA3 Z Z.heap o_MANDATORY) (S_o_SUPPORTS : SA11 Z Z.heap (.ref o_SUPPORTS)) (E_o_SUPPORTS : EA3 Z Z.heap o_SUPPORTS) (S_o_NEVER : SA12 Z Z.heap (.ref o_NEVER)) (E_o_NEVER : EA3 Z Z.heap o_NEVER) (S_o_REQUIRES_NEW : SA13 Z Z.heap (.ref o_REQUIRES_NEW)) (E_o_REQUIRES_NEW : EA3 Z Z.heap o_REQUIRES_NEW) (F_o_NOT_SUPPORTED_withCallersTransaction : FA2 Z Z.heap o_NOT_SUPPORTED (.ref o_WITHOUT)) (F_o_REQUIRED_withCallersTransaction : FA2 Z Z.heap o_REQUIRED (.ref o_JOIN)) (F_o_REQUIRED_withoutCallersTransaction : FA1 Z Z.heap o_REQUIRED (.ref o_BEGIN)) (F_o_MANDATORY_withoutCallersTransaction : FA1 Z Z.heap o_MANDATORY .null) (F_o_SUPPORTS_withCallersTransaction : FA2 Z Z.heap o_SUPPORTS (.ref o_JOIN)) (F_o_NOT_SUPPORTED_withoutCallersTransaction : FA1 Z Z.heap o_NOT_SUPPORTED (.ref o_WITHOUT)) (F_o_NEVER_withoutCallersTransaction : FA1 Z Z.heap o_NEVER (.ref o_WITHOUT)) (F_o_REQUIRES_NEW_withCallersTransaction : FA2 Z Z.heap o_REQUIRES_NEW (.ref o_BEGIN)) (F_o_REQUIRES_NEW_withoutCallersTransaction : FA1 Z Z.heap o_REQUIRES_NEW (.ref o_BEGIN)) (F_o_SUPPORTS_withoutCallersTransaction : FA1 Z Z.heap o_SUPPORTS (.ref o_WITHOUT)) (F_o_MANDATORY_withCallersTransaction : FA2 Z Z.heap o_MANDATORY (.ref o_JOIN)) (F_o_NEVER_withCallersTransaction : FA2 Z Z.heap o_NEVER .null) (hs : ((p1 &&& (2147483647 : Int32)) % (6 : Int32)) = (2 : Int32)) (hf : (p2 &&& (1 : Int32)) = (0 : Int32)) :
    Met l Z ws x code maxLocals ret room_1 #[(.int p1), (.int p2)] h0 (fun v _ L => Q0 n0 v L) := by
  have W := fun (i : Nat) {c : Jvm.Cond} (q : tables_1[i]? = some c) => hw c (List.mem_of_getElem? q)
  refine own_mk (plainFor_of_name pn_9) ?_
  intro p e s m below meth c s₁ hZ hx hby hml hown hnm hret hlk X0 e0
  have N0 := Fr.nil n0
  obtain ⟨T1, X1, e1, st1⟩ := getS2 X0 hx hZ hown (host := "") (Or.inl (W 14 rfl)) Via.refl e0 (S_o_REQUIRED.ext O0.2) (g := (mkF m 72 #[iv p1, iv p2, iv (2 : Int32), iv (0 : Int32), .unset, .unset] [])) rfl (hb hby at_72)
  obtain ⟨T2, X2, e2, st2⟩ := getS2 X1 hx hZ hown (host := "") (Or.inl (W 18 rfl)) Via.refl e1 (S_o_BEGIN.ext O0.2) (g := (mkF m 89 #[iv p1, iv p2, iv (2 : Int32), iv (0 : Int32), rv o_REQUIRED, .unset] [])) rfl (hb hby at_89)
  obtain ⟨_, T3, L3, X3, hQ3, st3⟩ := own_cv X2 hx hZ hown hml (W 7 rfl) (W 8 rfl) (notFace_of_selects (W 10 rfl)) (W 10 rfl) (W 9 rfl) (W 2 rfl) (W 11 rfl) (rm1_demarcation l Z a0 hw o_REQUIRED o_BEGIN h0 n0 O0 (F_o_REQUIRED_withoutCallersTransaction)) e2 (E_o_REQUIRED.ext O0.2) (hb hby at_166) 0 #[iv p1, iv p2, iv (2 : Int32), iv (0 : Int32), rv o_REQUIRED, rv o_BEGIN] [(.int (0 : Int32))] [] pd_7 (by decide) rfl rfl rfl (Nat.le_of_eq rfl)
  obtain ⟨rfl, N3q, K3⟩ := hQ3
  have N4 := Fr.app N0 N3q
  refine ⟨T3, some (.int (1 : Int32)), _, _, _, X3, by decide, by decide, nofun, ?_, fun fs hr => castTop (ef_8 m p1 p2) ?_⟩
  · exact ⟨rfl, N4⟩
  · show SS p e below s₁ m 0 #[iv p1, iv p2, .unset, .unset, .unset, .unset] [] _
    refine XS.iloadN X0.here hx rfl (hb hby at_0) rfl ?_
    show SS p e below s₁ m 1 #[iv p1, iv p2, .unset, .unset, .unset, .unset] [(.int p1)] _
    refine X0.ldcInt hx hown (mvT hZ (W 0 rfl)) (g := (mkF m 1 #[iv p1, iv p2, .unset, .unset, .unset, .unset] [(.int p1)])) rfl (hb hby at_1) _ ?_
    show SS p e below s₁ m 3 #[iv p1, iv p2, .unset, .unset, .unset, .unset] [(.int (2147483647 : Int32)), (.int p1)] _
    refine XS.iand X0.here hx rfl (hb hby at_3) rfl ?_
    show SS p e below s₁ m 4 #[iv p1, iv p2, .unset, .unset, .unset, .unset] [(.int (p1 &&& (2147483647 : Int32)))] _
    refine XS.bipush X0.here hx rfl (hb hby at_4) ?_
    show SS p e below s₁ m 6 #[iv p1, iv p2, .unset, .unset, .unset, .unset] [(.int (6 : Int32)), (.int (p1 &&& (2147483647 : Int32)))] _
    refine iremM (g := (mkF m 6 #[iv p1, iv p2, .unset, .unset, .unset, .unset] [(.int (6 : Int32)), (.int (p1 &&& (2147483647 : Int32)))])) X0 hx rfl (hb hby at_6) rfl (by decide : ¬ ((6 : Int32) = (0 : Int32))) ?_
    rw [hs]
    show SS p e below s₁ m 7 #[iv p1, iv p2, .unset, .unset, .unset, .unset] [(.int (2 : Int32))] _
    refine XS.istoreN X0.here hx rfl (hb hby at_7) rfl (l' := #[iv p1, iv p2, iv (2 : Int32), .unset, .unset, .unset]) rfl ?_
    show SS p e below s₁ m 8 #[iv p1, iv p2, iv (2 : Int32), .unset, .unset, .unset] [] _
    refine XS.iloadN X0.here hx rfl (hb hby at_8) rfl ?_
    refine XS.iconst X0.here hx rfl (hb hby at_9) ?_
    show SS p e below s₁ m 10 #[iv p1, iv p2, iv (2 : Int32), .unset, .unset, .unset] [(.int (1 : Int32)), (.int p2)] _
    refine XS.iand X0.here hx rfl (hb hby at_10) rfl ?_
    rw [hf]
    show SS p e below s₁ m 11 #[iv p1, iv p2, iv (2 : Int32), .unset, .unset, .unset] [(.int (0 : Int32))] _
    refine XS.ifYes X0.here hx rfl (pc0 := 11) (pc' := 18) rfl (hb hby at_11) rfl ((if0 _ _).trans (teq (by decide : (0 : Int32) = (0 : Int32))).1) (by decide) (by decide) ?_
    show SS p e below s₁ m 18 #[iv p1, iv p2, iv (2 : Int32), .unset, .unset, .unset] [] _
    refine XS.iconst X0.here hx rfl (hb hby at_18) ?_
    show SS p e below s₁ m 19 #[iv p1, iv p2, iv (2 : Int32), .unset, .unset, .unset] [(.int (0 : Int32))] _
    refine XS.istoreN X0.here hx rfl (hb hby at_19) rfl (l' := #[iv p1, iv p2, iv (2 : Int32), iv (0 : Int32), .unset, .unset]) rfl ?_
    show SS p e below s₁ m 20 #[iv p1, iv p2, iv (2 : Int32), iv (0 : Int32), .unset, .unset] [] _
    refine XS.iloadN X0.here hx rfl (hb hby at_20) rfl ?_
    show SS p e below s₁ m 21 #[iv p1, iv p2, iv (2 : Int32), iv (0 : Int32), .unset, .unset] [(.int (2 : Int32))] _
    refine XS.ifYes X0.here hx rfl (pc0 := 21) (pc' := 37) rfl (hb hby at_21) rfl ((if0 _ _).trans (feq (by decide : ¬ ((2 : Int32) = (0 : Int32)))).2) (by decide) (by decide) ?_
    show SS p e below s₁ m 37 #[iv p1, iv p2, iv (2 : Int32), iv (0 : Int32), .unset, .unset] [] _
    refine XS.iloadN X0.here hx rfl (hb hby at_37) rfl ?_
    refine XS.iconst X0.here hx rfl (hb hby at_38) ?_
    show SS p e below s₁ m 39 #[iv p1, iv p2, iv (2 : Int32), iv (0 : Int32), .unset, .unset] [(.int (1 : Int32)), (.int (2 : Int32))] _
    refine XS.icmpYes X0.here hx rfl (pc0 := 39) (pc' := 67) rfl (hb hby at_39) rfl (feq (by decide : ¬ ((2 : Int32) = (1 : Int32)))).2 (by decide) (by decide) ?_
    show SS p e below s₁ m 67 #[iv p1, iv p2, iv (2 : Int32), iv (0 : Int32), .unset, .unset] [] _
    refine XS.iloadN X0.here hx rfl (hb hby at_67) rfl ?_
    refine XS.iconst X0.here hx rfl (hb hby at_68) ?_
    show SS p e below s₁ m 69 #[iv p1, iv p2, iv (2 : Int32), iv (0 : Int32), .unset, .unset] [(.int (2 : Int32)), (.int (2 : Int32))] _
    refine XS.icmpNo X0.here hx rfl (hb hby at_69) rfl (teq (by decide : (2 : Int32) = (2 : Int32))).2 ?_
    show SS p e below s₁ m 72 #[iv p1, iv p2, iv (2 : Int32), iv (0 : Int32), .unset, .unset] [] _
    refine st1 _ ?_
    show SS p e below T1 m 75 #[iv p1, iv p2, iv (2 : Int32), iv (0 : Int32), .unset, .unset] [(.ref o_REQUIRED)] _
    refine XS.astore X1.here hx rfl (hb hby at_75) rfl rfl (l' := #[iv p1, iv p2, iv (2 : Int32), iv (0 : Int32), rv o_REQUIRED, .unset]) rfl ?_
    show SS p e below T1 m 77 #[iv p1, iv p2, iv (2 : Int32), iv (0 : Int32), rv o_REQUIRED, .unset] [] _
    refine XS.iloadN X1.here hx rfl (hb hby at_77) rfl ?_
    show SS p e below T1 m 78 #[iv p1, iv p2, iv (2 : Int32), iv (0 : Int32), rv o_REQUIRED, .unset] [(.int (0 : Int32))] _
    refine XS.ifYes X1.here hx rfl (pc0 := 78) (pc' := 89) rfl (hb hby at_78) rfl ((if0 _ _).trans (teq (by decide : (0 : Int32) = (0 : Int32))).1) (by decide) (by decide) ?_
    show SS p e below T1 m 89 #[iv p1, iv p2, iv (2 : Int32), iv (0 : Int32), rv o_REQUIRED, .unset] [] _
    refine st2 _ ?_
    show SS p e below T2 m 92 #[iv p1, iv p2, iv (2 : Int32), iv (0 : Int32), rv o_REQUIRED, .unset] [(.ref o_BEGIN)] _
    refine XS.astore X2.here hx rfl (hb hby at_92) rfl rfl (l' := #[iv p1, iv p2, iv (2 : Int32), iv (0 : Int32), rv o_REQUIRED, rv o_BEGIN]) rfl ?_
    show SS p e below T2 m 94 #[iv p1, iv p2, iv (2 : Int32), iv (0 : Int32), rv o_REQUIRED, rv o_BEGIN] [] _
    refine XS.goto X2.here hx rfl (pc0 := 94) (pc' := 163) rfl (hb hby at_94) (by decide) (by decide) ?_
    refine XS.aload X2.here hx rfl (hb hby at_163) rfl rfl ?_
    refine XS.iloadN X2.here hx rfl (hb hby at_165) rfl ?_
    show SS p e below T2 m 166 #[iv p1, iv p2, iv (2 : Int32), iv (0 : Int32), rv o_REQUIRED, rv o_BEGIN] [(.int (0 : Int32)), (.ref o_REQUIRED)] _
    refine st3 _ ?_
    show SS p e below T3 m 169 #[iv p1, iv p2, iv (2 : Int32), iv (0 : Int32), rv o_REQUIRED, rv o_BEGIN] [(.ref o_BEGIN)] _
    refine XS.aload X3.here hx rfl (hb hby at_169) rfl rfl ?_
    show SS p e below T3 m 171 #[iv p1, iv p2, iv (2 : Int32), iv (0 : Int32), rv o_REQUIRED, rv o_BEGIN] [(.ref o_BEGIN), (.ref o_BEGIN)] _
    refine Jvm.RoadKit.acmp (g := (mkF m 171 #[iv p1, iv p2, iv (2 : Int32), iv (0 : Int32), rv o_REQUIRED, rv o_BEGIN] [(.ref o_BEGIN), (.ref o_BEGIN)])) X3 hx rfl rfl rfl (pc0 := 171) (pc' := 174) (same := true) rfl (hb hby at_171) rfl (decide_eq_true rfl) (by decide) (by decide) ?_
    show SS p e below T3 m 174 #[iv p1, iv p2, iv (2 : Int32), iv (0 : Int32), rv o_REQUIRED, rv o_BEGIN] [] _
    refine XS.iconst X3.here hx rfl (hb hby at_174) ?_
    refine XS.goto X3.here hx rfl (pc0 := 175) (pc' := 179) rfl (hb hby at_175) (by decide) (by decide) ?_
    show SS p e below T3 m 179 #[iv p1, iv p2, iv (2 : Int32), iv (0 : Int32), rv o_REQUIRED, rv o_BEGIN] [(.int (1 : Int32))] _
    exact retN X3 hx (t := .boolean) hret (by simp) (hb hby at_179) hr
set_option maxRecDepth 65536 in
set_option maxHeartbeats 40000000 in
theorem rm0_2_1 (l : Launch) (Z : State) (a0 : Array Value) (hw : HW Z a0) (ws : List Jvm.Cond) (p1 : Int32) (p2 : Int32) (o_NOT_SUPPORTED : Addr) (o_WITHOUT : Addr) (o_REQUIRED : Addr) (o_JOIN : Addr) (o_BEGIN : Addr) (o_MANDATORY : Addr) (o_SUPPORTS : Addr) (o_NEVER : Addr) (o_REQUIRES_NEW : Addr) (h0 : Heap) (n0 : Nat) (O0 : Old Z n0 h0) (S_o_NOT_SUPPORTED : SA5 Z Z.heap (.ref o_NOT_SUPPORTED)) (E_o_NOT_SUPPORTED : EA3 Z Z.heap o_NOT_SUPPORTED) (S_o_WITHOUT : SA6 Z Z.heap (.ref o_WITHOUT)) (E_o_WITHOUT : EA4 Z Z.heap o_WITHOUT) (S_o_REQUIRED : SA7 Z Z.heap (.ref o_REQUIRED)) (E_o_REQUIRED : EA3 Z Z.heap o_REQUIRED) (S_o_JOIN : SA8 Z Z.heap (.ref o_JOIN)) (E_o_JOIN : EA4 Z Z.heap o_JOIN) (S_o_BEGIN : SA9 Z Z.heap (.ref o_BEGIN)) (E_o_BEGIN : EA4 Z Z.heap o_BEGIN) (S_o_MANDATORY : SA10 Z Z.heap (.ref o_MANDATORY)) (E_o_MANDATORY : EA3 Z Z.heap o_MANDATORY) (S_o_SUPPORTS : SA11 Z Z.heap (.ref o_SUPPORTS)) (E_o_SUPPORTS : EA3 Z Z.heap o_SUPPORTS) (S_o_NEVER : SA12 Z Z.heap (.ref o_NEVER)) (E_o_NEVER : EA3 Z Z.heap o_NEVER) (S_o_REQUIRES_NEW : SA13 Z Z.heap (.ref o_REQUIRES_NEW)) (E_o_REQUIRES_NEW : EA3 Z Z.heap o_REQUIRES_NEW) (F_o_NOT_SUPPORTED_withCallersTransaction : FA2 Z Z.heap o_NOT_SUPPORTED (.ref o_WITHOUT)) (F_o_REQUIRED_withCallersTransaction : FA2 Z Z.heap o_REQUIRED (.ref o_JOIN)) (F_o_REQUIRED_withoutCallersTransaction : FA1 Z Z.heap o_REQUIRED (.ref o_BEGIN)) (F_o_MANDATORY_withoutCallersTransaction : FA1 Z Z.heap o_MANDATORY .null) (F_o_SUPPORTS_withCallersTransaction : FA2 Z Z.heap o_SUPPORTS (.ref o_JOIN)) (F_o_NOT_SUPPORTED_withoutCallersTransaction : FA1 Z Z.heap o_NOT_SUPPORTED (.ref o_WITHOUT)) (F_o_NEVER_withoutCallersTransaction : FA1 Z Z.heap o_NEVER (.ref o_WITHOUT)) (F_o_REQUIRES_NEW_withCallersTransaction : FA2 Z Z.heap o_REQUIRES_NEW (.ref o_BEGIN)) (F_o_REQUIRES_NEW_withoutCallersTransaction : FA1 Z Z.heap o_REQUIRES_NEW (.ref o_BEGIN)) (F_o_SUPPORTS_withoutCallersTransaction : FA1 Z Z.heap o_SUPPORTS (.ref o_WITHOUT)) (F_o_MANDATORY_withCallersTransaction : FA2 Z Z.heap o_MANDATORY (.ref o_JOIN)) (F_o_NEVER_withCallersTransaction : FA2 Z Z.heap o_NEVER .null) (hs : ((p1 &&& (2147483647 : Int32)) % (6 : Int32)) = (2 : Int32)) (hf : (p2 &&& (1 : Int32)) = (1 : Int32)) :
    Met l Z ws x code maxLocals ret room_1 #[(.int p1), (.int p2)] h0 (fun v _ L => Q0 n0 v L) := by
  have W := fun (i : Nat) {c : Jvm.Cond} (q : tables_1[i]? = some c) => hw c (List.mem_of_getElem? q)
  refine own_mk (plainFor_of_name pn_9) ?_
  intro p e s m below meth c s₁ hZ hx hby hml hown hnm hret hlk X0 e0
  have N0 := Fr.nil n0
  obtain ⟨T1, X1, e1, st1⟩ := getS2 X0 hx hZ hown (host := "") (Or.inl (W 14 rfl)) Via.refl e0 (S_o_REQUIRED.ext O0.2) (g := (mkF m 72 #[iv p1, iv p2, iv (2 : Int32), iv (1 : Int32), .unset, .unset] [])) rfl (hb hby at_72)
  obtain ⟨T2, X2, e2, st2⟩ := getS2 X1 hx hZ hown (host := "") (Or.inl (W 16 rfl)) Via.refl e1 (S_o_JOIN.ext O0.2) (g := (mkF m 81 #[iv p1, iv p2, iv (2 : Int32), iv (1 : Int32), rv o_REQUIRED, .unset] [])) rfl (hb hby at_81)
  obtain ⟨_, T3, L3, X3, hQ3, st3⟩ := own_cv X2 hx hZ hown hml (W 7 rfl) (W 8 rfl) (notFace_of_selects (W 10 rfl)) (W 10 rfl) (W 9 rfl) (W 2 rfl) (W 11 rfl) (rm2_demarcation l Z a0 hw o_REQUIRED o_JOIN h0 n0 O0 (F_o_REQUIRED_withCallersTransaction)) e2 (E_o_REQUIRED.ext O0.2) (hb hby at_166) 0 #[iv p1, iv p2, iv (2 : Int32), iv (1 : Int32), rv o_REQUIRED, rv o_JOIN] [(.int (1 : Int32))] [] pd_7 (by decide) rfl rfl rfl (Nat.le_of_eq rfl)
  obtain ⟨rfl, N3q, K3⟩ := hQ3
  have N4 := Fr.app N0 N3q
  refine ⟨T3, some (.int (1 : Int32)), _, _, _, X3, by decide, by decide, nofun, ?_, fun fs hr => castTop (ef_8 m p1 p2) ?_⟩
  · exact ⟨rfl, N4⟩
  · show SS p e below s₁ m 0 #[iv p1, iv p2, .unset, .unset, .unset, .unset] [] _
    refine XS.iloadN X0.here hx rfl (hb hby at_0) rfl ?_
    show SS p e below s₁ m 1 #[iv p1, iv p2, .unset, .unset, .unset, .unset] [(.int p1)] _
    refine X0.ldcInt hx hown (mvT hZ (W 0 rfl)) (g := (mkF m 1 #[iv p1, iv p2, .unset, .unset, .unset, .unset] [(.int p1)])) rfl (hb hby at_1) _ ?_
    show SS p e below s₁ m 3 #[iv p1, iv p2, .unset, .unset, .unset, .unset] [(.int (2147483647 : Int32)), (.int p1)] _
    refine XS.iand X0.here hx rfl (hb hby at_3) rfl ?_
    show SS p e below s₁ m 4 #[iv p1, iv p2, .unset, .unset, .unset, .unset] [(.int (p1 &&& (2147483647 : Int32)))] _
    refine XS.bipush X0.here hx rfl (hb hby at_4) ?_
    show SS p e below s₁ m 6 #[iv p1, iv p2, .unset, .unset, .unset, .unset] [(.int (6 : Int32)), (.int (p1 &&& (2147483647 : Int32)))] _
    refine iremM (g := (mkF m 6 #[iv p1, iv p2, .unset, .unset, .unset, .unset] [(.int (6 : Int32)), (.int (p1 &&& (2147483647 : Int32)))])) X0 hx rfl (hb hby at_6) rfl (by decide : ¬ ((6 : Int32) = (0 : Int32))) ?_
    rw [hs]
    show SS p e below s₁ m 7 #[iv p1, iv p2, .unset, .unset, .unset, .unset] [(.int (2 : Int32))] _
    refine XS.istoreN X0.here hx rfl (hb hby at_7) rfl (l' := #[iv p1, iv p2, iv (2 : Int32), .unset, .unset, .unset]) rfl ?_
    show SS p e below s₁ m 8 #[iv p1, iv p2, iv (2 : Int32), .unset, .unset, .unset] [] _
    refine XS.iloadN X0.here hx rfl (hb hby at_8) rfl ?_
    refine XS.iconst X0.here hx rfl (hb hby at_9) ?_
    show SS p e below s₁ m 10 #[iv p1, iv p2, iv (2 : Int32), .unset, .unset, .unset] [(.int (1 : Int32)), (.int p2)] _
    refine XS.iand X0.here hx rfl (hb hby at_10) rfl ?_
    rw [hf]
    show SS p e below s₁ m 11 #[iv p1, iv p2, iv (2 : Int32), .unset, .unset, .unset] [(.int (1 : Int32))] _
    refine XS.ifNo X0.here hx rfl (hb hby at_11) rfl ((if0 _ _).trans (feq (by decide : ¬ ((1 : Int32) = (0 : Int32)))).1) ?_
    show SS p e below s₁ m 14 #[iv p1, iv p2, iv (2 : Int32), .unset, .unset, .unset] [] _
    refine XS.iconst X0.here hx rfl (hb hby at_14) ?_
    refine XS.goto X0.here hx rfl (pc0 := 15) (pc' := 19) rfl (hb hby at_15) (by decide) (by decide) ?_
    show SS p e below s₁ m 19 #[iv p1, iv p2, iv (2 : Int32), .unset, .unset, .unset] [(.int (1 : Int32))] _
    refine XS.istoreN X0.here hx rfl (hb hby at_19) rfl (l' := #[iv p1, iv p2, iv (2 : Int32), iv (1 : Int32), .unset, .unset]) rfl ?_
    show SS p e below s₁ m 20 #[iv p1, iv p2, iv (2 : Int32), iv (1 : Int32), .unset, .unset] [] _
    refine XS.iloadN X0.here hx rfl (hb hby at_20) rfl ?_
    show SS p e below s₁ m 21 #[iv p1, iv p2, iv (2 : Int32), iv (1 : Int32), .unset, .unset] [(.int (2 : Int32))] _
    refine XS.ifYes X0.here hx rfl (pc0 := 21) (pc' := 37) rfl (hb hby at_21) rfl ((if0 _ _).trans (feq (by decide : ¬ ((2 : Int32) = (0 : Int32)))).2) (by decide) (by decide) ?_
    show SS p e below s₁ m 37 #[iv p1, iv p2, iv (2 : Int32), iv (1 : Int32), .unset, .unset] [] _
    refine XS.iloadN X0.here hx rfl (hb hby at_37) rfl ?_
    refine XS.iconst X0.here hx rfl (hb hby at_38) ?_
    show SS p e below s₁ m 39 #[iv p1, iv p2, iv (2 : Int32), iv (1 : Int32), .unset, .unset] [(.int (1 : Int32)), (.int (2 : Int32))] _
    refine XS.icmpYes X0.here hx rfl (pc0 := 39) (pc' := 67) rfl (hb hby at_39) rfl (feq (by decide : ¬ ((2 : Int32) = (1 : Int32)))).2 (by decide) (by decide) ?_
    show SS p e below s₁ m 67 #[iv p1, iv p2, iv (2 : Int32), iv (1 : Int32), .unset, .unset] [] _
    refine XS.iloadN X0.here hx rfl (hb hby at_67) rfl ?_
    refine XS.iconst X0.here hx rfl (hb hby at_68) ?_
    show SS p e below s₁ m 69 #[iv p1, iv p2, iv (2 : Int32), iv (1 : Int32), .unset, .unset] [(.int (2 : Int32)), (.int (2 : Int32))] _
    refine XS.icmpNo X0.here hx rfl (hb hby at_69) rfl (teq (by decide : (2 : Int32) = (2 : Int32))).2 ?_
    show SS p e below s₁ m 72 #[iv p1, iv p2, iv (2 : Int32), iv (1 : Int32), .unset, .unset] [] _
    refine st1 _ ?_
    show SS p e below T1 m 75 #[iv p1, iv p2, iv (2 : Int32), iv (1 : Int32), .unset, .unset] [(.ref o_REQUIRED)] _
    refine XS.astore X1.here hx rfl (hb hby at_75) rfl rfl (l' := #[iv p1, iv p2, iv (2 : Int32), iv (1 : Int32), rv o_REQUIRED, .unset]) rfl ?_
    show SS p e below T1 m 77 #[iv p1, iv p2, iv (2 : Int32), iv (1 : Int32), rv o_REQUIRED, .unset] [] _
    refine XS.iloadN X1.here hx rfl (hb hby at_77) rfl ?_
    show SS p e below T1 m 78 #[iv p1, iv p2, iv (2 : Int32), iv (1 : Int32), rv o_REQUIRED, .unset] [(.int (1 : Int32))] _
    refine XS.ifNo X1.here hx rfl (hb hby at_78) rfl ((if0 _ _).trans (feq (by decide : ¬ ((1 : Int32) = (0 : Int32)))).1) ?_
    show SS p e below T1 m 81 #[iv p1, iv p2, iv (2 : Int32), iv (1 : Int32), rv o_REQUIRED, .unset] [] _
    refine st2 _ ?_
    show SS p e below T2 m 84 #[iv p1, iv p2, iv (2 : Int32), iv (1 : Int32), rv o_REQUIRED, .unset] [(.ref o_JOIN)] _
    refine XS.astore X2.here hx rfl (hb hby at_84) rfl rfl (l' := #[iv p1, iv p2, iv (2 : Int32), iv (1 : Int32), rv o_REQUIRED, rv o_JOIN]) rfl ?_
    show SS p e below T2 m 86 #[iv p1, iv p2, iv (2 : Int32), iv (1 : Int32), rv o_REQUIRED, rv o_JOIN] [] _
    refine XS.goto X2.here hx rfl (pc0 := 86) (pc' := 163) rfl (hb hby at_86) (by decide) (by decide) ?_
    refine XS.aload X2.here hx rfl (hb hby at_163) rfl rfl ?_
    refine XS.iloadN X2.here hx rfl (hb hby at_165) rfl ?_
    show SS p e below T2 m 166 #[iv p1, iv p2, iv (2 : Int32), iv (1 : Int32), rv o_REQUIRED, rv o_JOIN] [(.int (1 : Int32)), (.ref o_REQUIRED)] _
    refine st3 _ ?_
    show SS p e below T3 m 169 #[iv p1, iv p2, iv (2 : Int32), iv (1 : Int32), rv o_REQUIRED, rv o_JOIN] [(.ref o_JOIN)] _
    refine XS.aload X3.here hx rfl (hb hby at_169) rfl rfl ?_
    show SS p e below T3 m 171 #[iv p1, iv p2, iv (2 : Int32), iv (1 : Int32), rv o_REQUIRED, rv o_JOIN] [(.ref o_JOIN), (.ref o_JOIN)] _
    refine Jvm.RoadKit.acmp (g := (mkF m 171 #[iv p1, iv p2, iv (2 : Int32), iv (1 : Int32), rv o_REQUIRED, rv o_JOIN] [(.ref o_JOIN), (.ref o_JOIN)])) X3 hx rfl rfl rfl (pc0 := 171) (pc' := 174) (same := true) rfl (hb hby at_171) rfl (decide_eq_true rfl) (by decide) (by decide) ?_
    show SS p e below T3 m 174 #[iv p1, iv p2, iv (2 : Int32), iv (1 : Int32), rv o_REQUIRED, rv o_JOIN] [] _
    refine XS.iconst X3.here hx rfl (hb hby at_174) ?_
    refine XS.goto X3.here hx rfl (pc0 := 175) (pc' := 179) rfl (hb hby at_175) (by decide) (by decide) ?_
    show SS p e below T3 m 179 #[iv p1, iv p2, iv (2 : Int32), iv (1 : Int32), rv o_REQUIRED, rv o_JOIN] [(.int (1 : Int32))] _
    exact retN X3 hx (t := .boolean) hret (by simp) (hb hby at_179) hr
set_option maxRecDepth 65536 in
set_option maxHeartbeats 40000000 in
theorem rm0_3_0 (l : Launch) (Z : State) (a0 : Array Value) (hw : HW Z a0) (ws : List Jvm.Cond) (p1 : Int32) (p2 : Int32) (o_NOT_SUPPORTED : Addr) (o_WITHOUT : Addr) (o_REQUIRED : Addr) (o_JOIN : Addr) (o_BEGIN : Addr) (o_MANDATORY : Addr) (o_SUPPORTS : Addr) (o_NEVER : Addr) (o_REQUIRES_NEW : Addr) (h0 : Heap) (n0 : Nat) (O0 : Old Z n0 h0) (S_o_NOT_SUPPORTED : SA5 Z Z.heap (.ref o_NOT_SUPPORTED)) (E_o_NOT_SUPPORTED : EA3 Z Z.heap o_NOT_SUPPORTED) (S_o_WITHOUT : SA6 Z Z.heap (.ref o_WITHOUT)) (E_o_WITHOUT : EA4 Z Z.heap o_WITHOUT) (S_o_REQUIRED : SA7 Z Z.heap (.ref o_REQUIRED)) (E_o_REQUIRED : EA3 Z Z.heap o_REQUIRED) (S_o_JOIN : SA8 Z Z.heap (.ref o_JOIN)) (E_o_JOIN : EA4 Z Z.heap o_JOIN) (S_o_BEGIN : SA9 Z Z.heap (.ref o_BEGIN)) (E_o_BEGIN : EA4 Z Z.heap o_BEGIN) (S_o_MANDATORY : SA10 Z Z.heap (.ref o_MANDATORY)) (E_o_MANDATORY : EA3 Z Z.heap o_MANDATORY) (S_o_SUPPORTS : SA11 Z Z.heap (.ref o_SUPPORTS)) (E_o_SUPPORTS : EA3 Z Z.heap o_SUPPORTS) (S_o_NEVER : SA12 Z Z.heap (.ref o_NEVER)) (E_o_NEVER : EA3 Z Z.heap o_NEVER) (S_o_REQUIRES_NEW : SA13 Z Z.heap (.ref o_REQUIRES_NEW)) (E_o_REQUIRES_NEW : EA3 Z Z.heap o_REQUIRES_NEW) (F_o_NOT_SUPPORTED_withCallersTransaction : FA2 Z Z.heap o_NOT_SUPPORTED (.ref o_WITHOUT)) (F_o_REQUIRED_withCallersTransaction : FA2 Z Z.heap o_REQUIRED (.ref o_JOIN)) (F_o_REQUIRED_withoutCallersTransaction : FA1 Z Z.heap o_REQUIRED (.ref o_BEGIN)) (F_o_MANDATORY_withoutCallersTransaction : FA1 Z Z.heap o_MANDATORY .null) (F_o_SUPPORTS_withCallersTransaction : FA2 Z Z.heap o_SUPPORTS (.ref o_JOIN)) (F_o_NOT_SUPPORTED_withoutCallersTransaction : FA1 Z Z.heap o_NOT_SUPPORTED (.ref o_WITHOUT)) (F_o_NEVER_withoutCallersTransaction : FA1 Z Z.heap o_NEVER (.ref o_WITHOUT)) (F_o_REQUIRES_NEW_withCallersTransaction : FA2 Z Z.heap o_REQUIRES_NEW (.ref o_BEGIN)) (F_o_REQUIRES_NEW_withoutCallersTransaction : FA1 Z Z.heap o_REQUIRES_NEW (.ref o_BEGIN)) (F_o_SUPPORTS_withoutCallersTransaction : FA1 Z Z.heap o_SUPPORTS (.ref o_WITHOUT)) (F_o_MANDATORY_withCallersTransaction : FA2 Z Z.heap o_MANDATORY (.ref o_JOIN)) (F_o_NEVER_withCallersTransaction : FA2 Z Z.heap o_NEVER .null) (hs : ((p1 &&& (2147483647 : Int32)) % (6 : Int32)) = (3 : Int32)) (hf : (p2 &&& (1 : Int32)) = (0 : Int32)) :
    Met l Z ws x code maxLocals ret room_1 #[(.int p1), (.int p2)] h0 (fun v _ L => Q0 n0 v L) := by
  have W := fun (i : Nat) {c : Jvm.Cond} (q : tables_1[i]? = some c) => hw c (List.mem_of_getElem? q)
  refine own_mk (plainFor_of_name pn_9) ?_
  intro p e s m below meth c s₁ hZ hx hby hml hown hnm hret hlk X0 e0
  have N0 := Fr.nil n0
  obtain ⟨T1, X1, e1, st1⟩ := getS2 X0 hx hZ hown (host := "") (Or.inl (W 28 rfl)) Via.refl e0 (S_o_REQUIRES_NEW.ext O0.2) (g := (mkF m 102 #[iv p1, iv p2, iv (3 : Int32), iv (0 : Int32), .unset, .unset] [])) rfl (hb hby at_102)
  obtain ⟨T2, X2, e2, st2⟩ := getS2 X1 hx hZ hown (host := "") (Or.inl (W 18 rfl)) Via.refl e1 (S_o_BEGIN.ext O0.2) (g := (mkF m 107 #[iv p1, iv p2, iv (3 : Int32), iv (0 : Int32), rv o_REQUIRES_NEW, .unset] [])) rfl (hb hby at_107)
  obtain ⟨_, T3, L3, X3, hQ3, st3⟩ := own_cv X2 hx hZ hown hml (W 7 rfl) (W 8 rfl) (notFace_of_selects (W 10 rfl)) (W 10 rfl) (W 9 rfl) (W 2 rfl) (W 11 rfl) (rm1_demarcation l Z a0 hw o_REQUIRES_NEW o_BEGIN h0 n0 O0 (F_o_REQUIRES_NEW_withoutCallersTransaction)) e2 (E_o_REQUIRES_NEW.ext O0.2) (hb hby at_166) 0 #[iv p1, iv p2, iv (3 : Int32), iv (0 : Int32), rv o_REQUIRES_NEW, rv o_BEGIN] [(.int (0 : Int32))] [] pd_7 (by decide) rfl rfl rfl (Nat.le_of_eq rfl)
  obtain ⟨rfl, N3q, K3⟩ := hQ3
  have N4 := Fr.app N0 N3q
  refine ⟨T3, some (.int (1 : Int32)), _, _, _, X3, by decide, by decide, nofun, ?_, fun fs hr => castTop (ef_8 m p1 p2) ?_⟩
  · exact ⟨rfl, N4⟩
  · show SS p e below s₁ m 0 #[iv p1, iv p2, .unset, .unset, .unset, .unset] [] _
    refine XS.iloadN X0.here hx rfl (hb hby at_0) rfl ?_
    show SS p e below s₁ m 1 #[iv p1, iv p2, .unset, .unset, .unset, .unset] [(.int p1)] _
    refine X0.ldcInt hx hown (mvT hZ (W 0 rfl)) (g := (mkF m 1 #[iv p1, iv p2, .unset, .unset, .unset, .unset] [(.int p1)])) rfl (hb hby at_1) _ ?_
    show SS p e below s₁ m 3 #[iv p1, iv p2, .unset, .unset, .unset, .unset] [(.int (2147483647 : Int32)), (.int p1)] _
    refine XS.iand X0.here hx rfl (hb hby at_3) rfl ?_
    show SS p e below s₁ m 4 #[iv p1, iv p2, .unset, .unset, .unset, .unset] [(.int (p1 &&& (2147483647 : Int32)))] _
    refine XS.bipush X0.here hx rfl (hb hby at_4) ?_
    show SS p e below s₁ m 6 #[iv p1, iv p2, .unset, .unset, .unset, .unset] [(.int (6 : Int32)), (.int (p1 &&& (2147483647 : Int32)))] _
    refine iremM (g := (mkF m 6 #[iv p1, iv p2, .unset, .unset, .unset, .unset] [(.int (6 : Int32)), (.int (p1 &&& (2147483647 : Int32)))])) X0 hx rfl (hb hby at_6) rfl (by decide : ¬ ((6 : Int32) = (0 : Int32))) ?_
    rw [hs]
    show SS p e below s₁ m 7 #[iv p1, iv p2, .unset, .unset, .unset, .unset] [(.int (3 : Int32))] _
    refine XS.istoreN X0.here hx rfl (hb hby at_7) rfl (l' := #[iv p1, iv p2, iv (3 : Int32), .unset, .unset, .unset]) rfl ?_
    show SS p e below s₁ m 8 #[iv p1, iv p2, iv (3 : Int32), .unset, .unset, .unset] [] _
    refine XS.iloadN X0.here hx rfl (hb hby at_8) rfl ?_
    refine XS.iconst X0.here hx rfl (hb hby at_9) ?_
    show SS p e below s₁ m 10 #[iv p1, iv p2, iv (3 : Int32), .unset, .unset, .unset] [(.int (1 : Int32)), (.int p2)] _
    refine XS.iand X0.here hx rfl (hb hby at_10) rfl ?_
    rw [hf]
    show SS p e below s₁ m 11 #[iv p1, iv p2, iv (3 : Int32), .unset, .unset, .unset] [(.int (0 : Int32))] _
    refine XS.ifYes X0.here hx rfl (pc0 := 11) (pc' := 18) rfl (hb hby at_11) rfl ((if0 _ _).trans (teq (by decide : (0 : Int32) = (0 : Int32))).1) (by decide) (by decide) ?_
    show SS p e below s₁ m 18 #[iv p1, iv p2, iv (3 : Int32), .unset, .unset, .unset] [] _
    refine XS.iconst X0.here hx rfl (hb hby at_18) ?_
    show SS p e below s₁ m 19 #[iv p1, iv p2, iv (3 : Int32), .unset, .unset, .unset] [(.int (0 : Int32))] _
    refine XS.istoreN X0.here hx rfl (hb hby at_19) rfl (l' := #[iv p1, iv p2, iv (3 : Int32), iv (0 : Int32), .unset, .unset]) rfl ?_
    show SS p e below s₁ m 20 #[iv p1, iv p2, iv (3 : Int32), iv (0 : Int32), .unset, .unset] [] _
    refine XS.iloadN X0.here hx rfl (hb hby at_20) rfl ?_
    show SS p e below s₁ m 21 #[iv p1, iv p2, iv (3 : Int32), iv (0 : Int32), .unset, .unset] [(.int (3 : Int32))] _
    refine XS.ifYes X0.here hx rfl (pc0 := 21) (pc' := 37) rfl (hb hby at_21) rfl ((if0 _ _).trans (feq (by decide : ¬ ((3 : Int32) = (0 : Int32)))).2) (by decide) (by decide) ?_
    show SS p e below s₁ m 37 #[iv p1, iv p2, iv (3 : Int32), iv (0 : Int32), .unset, .unset] [] _
    refine XS.iloadN X0.here hx rfl (hb hby at_37) rfl ?_
    refine XS.iconst X0.here hx rfl (hb hby at_38) ?_
    show SS p e below s₁ m 39 #[iv p1, iv p2, iv (3 : Int32), iv (0 : Int32), .unset, .unset] [(.int (1 : Int32)), (.int (3 : Int32))] _
    refine XS.icmpYes X0.here hx rfl (pc0 := 39) (pc' := 67) rfl (hb hby at_39) rfl (feq (by decide : ¬ ((3 : Int32) = (1 : Int32)))).2 (by decide) (by decide) ?_
    show SS p e below s₁ m 67 #[iv p1, iv p2, iv (3 : Int32), iv (0 : Int32), .unset, .unset] [] _
    refine XS.iloadN X0.here hx rfl (hb hby at_67) rfl ?_
    refine XS.iconst X0.here hx rfl (hb hby at_68) ?_
    show SS p e below s₁ m 69 #[iv p1, iv p2, iv (3 : Int32), iv (0 : Int32), .unset, .unset] [(.int (2 : Int32)), (.int (3 : Int32))] _
    refine XS.icmpYes X0.here hx rfl (pc0 := 69) (pc' := 97) rfl (hb hby at_69) rfl (feq (by decide : ¬ ((3 : Int32) = (2 : Int32)))).2 (by decide) (by decide) ?_
    show SS p e below s₁ m 97 #[iv p1, iv p2, iv (3 : Int32), iv (0 : Int32), .unset, .unset] [] _
    refine XS.iloadN X0.here hx rfl (hb hby at_97) rfl ?_
    refine XS.iconst X0.here hx rfl (hb hby at_98) ?_
    show SS p e below s₁ m 99 #[iv p1, iv p2, iv (3 : Int32), iv (0 : Int32), .unset, .unset] [(.int (3 : Int32)), (.int (3 : Int32))] _
    refine XS.icmpNo X0.here hx rfl (hb hby at_99) rfl (teq (by decide : (3 : Int32) = (3 : Int32))).2 ?_
    show SS p e below s₁ m 102 #[iv p1, iv p2, iv (3 : Int32), iv (0 : Int32), .unset, .unset] [] _
    refine st1 _ ?_
    show SS p e below T1 m 105 #[iv p1, iv p2, iv (3 : Int32), iv (0 : Int32), .unset, .unset] [(.ref o_REQUIRES_NEW)] _
    refine XS.astore X1.here hx rfl (hb hby at_105) rfl rfl (l' := #[iv p1, iv p2, iv (3 : Int32), iv (0 : Int32), rv o_REQUIRES_NEW, .unset]) rfl ?_
    show SS p e below T1 m 107 #[iv p1, iv p2, iv (3 : Int32), iv (0 : Int32), rv o_REQUIRES_NEW, .unset] [] _
    refine st2 _ ?_
    show SS p e below T2 m 110 #[iv p1, iv p2, iv (3 : Int32), iv (0 : Int32), rv o_REQUIRES_NEW, .unset] [(.ref o_BEGIN)] _
    refine XS.astore X2.here hx rfl (hb hby at_110) rfl rfl (l' := #[iv p1, iv p2, iv (3 : Int32), iv (0 : Int32), rv o_REQUIRES_NEW, rv o_BEGIN]) rfl ?_
    show SS p e below T2 m 112 #[iv p1, iv p2, iv (3 : Int32), iv (0 : Int32), rv o_REQUIRES_NEW, rv o_BEGIN] [] _
    refine XS.goto X2.here hx rfl (pc0 := 112) (pc' := 163) rfl (hb hby at_112) (by decide) (by decide) ?_
    refine XS.aload X2.here hx rfl (hb hby at_163) rfl rfl ?_
    refine XS.iloadN X2.here hx rfl (hb hby at_165) rfl ?_
    show SS p e below T2 m 166 #[iv p1, iv p2, iv (3 : Int32), iv (0 : Int32), rv o_REQUIRES_NEW, rv o_BEGIN] [(.int (0 : Int32)), (.ref o_REQUIRES_NEW)] _
    refine st3 _ ?_
    show SS p e below T3 m 169 #[iv p1, iv p2, iv (3 : Int32), iv (0 : Int32), rv o_REQUIRES_NEW, rv o_BEGIN] [(.ref o_BEGIN)] _
    refine XS.aload X3.here hx rfl (hb hby at_169) rfl rfl ?_
    show SS p e below T3 m 171 #[iv p1, iv p2, iv (3 : Int32), iv (0 : Int32), rv o_REQUIRES_NEW, rv o_BEGIN] [(.ref o_BEGIN), (.ref o_BEGIN)] _
    refine Jvm.RoadKit.acmp (g := (mkF m 171 #[iv p1, iv p2, iv (3 : Int32), iv (0 : Int32), rv o_REQUIRES_NEW, rv o_BEGIN] [(.ref o_BEGIN), (.ref o_BEGIN)])) X3 hx rfl rfl rfl (pc0 := 171) (pc' := 174) (same := true) rfl (hb hby at_171) rfl (decide_eq_true rfl) (by decide) (by decide) ?_
    show SS p e below T3 m 174 #[iv p1, iv p2, iv (3 : Int32), iv (0 : Int32), rv o_REQUIRES_NEW, rv o_BEGIN] [] _
    refine XS.iconst X3.here hx rfl (hb hby at_174) ?_
    refine XS.goto X3.here hx rfl (pc0 := 175) (pc' := 179) rfl (hb hby at_175) (by decide) (by decide) ?_
    show SS p e below T3 m 179 #[iv p1, iv p2, iv (3 : Int32), iv (0 : Int32), rv o_REQUIRES_NEW, rv o_BEGIN] [(.int (1 : Int32))] _
    exact retN X3 hx (t := .boolean) hret (by simp) (hb hby at_179) hr
set_option maxRecDepth 65536 in
set_option maxHeartbeats 40000000 in
theorem rm0_3_1 (l : Launch) (Z : State) (a0 : Array Value) (hw : HW Z a0) (ws : List Jvm.Cond) (p1 : Int32) (p2 : Int32) (o_NOT_SUPPORTED : Addr) (o_WITHOUT : Addr) (o_REQUIRED : Addr) (o_JOIN : Addr) (o_BEGIN : Addr) (o_MANDATORY : Addr) (o_SUPPORTS : Addr) (o_NEVER : Addr) (o_REQUIRES_NEW : Addr) (h0 : Heap) (n0 : Nat) (O0 : Old Z n0 h0) (S_o_NOT_SUPPORTED : SA5 Z Z.heap (.ref o_NOT_SUPPORTED)) (E_o_NOT_SUPPORTED : EA3 Z Z.heap o_NOT_SUPPORTED) (S_o_WITHOUT : SA6 Z Z.heap (.ref o_WITHOUT)) (E_o_WITHOUT : EA4 Z Z.heap o_WITHOUT) (S_o_REQUIRED : SA7 Z Z.heap (.ref o_REQUIRED)) (E_o_REQUIRED : EA3 Z Z.heap o_REQUIRED) (S_o_JOIN : SA8 Z Z.heap (.ref o_JOIN)) (E_o_JOIN : EA4 Z Z.heap o_JOIN) (S_o_BEGIN : SA9 Z Z.heap (.ref o_BEGIN)) (E_o_BEGIN : EA4 Z Z.heap o_BEGIN) (S_o_MANDATORY : SA10 Z Z.heap (.ref o_MANDATORY)) (E_o_MANDATORY : EA3 Z Z.heap o_MANDATORY) (S_o_SUPPORTS : SA11 Z Z.heap (.ref o_SUPPORTS)) (E_o_SUPPORTS : EA3 Z Z.heap o_SUPPORTS) (S_o_NEVER : SA12 Z Z.heap (.ref o_NEVER)) (E_o_NEVER : EA3 Z Z.heap o_NEVER) (S_o_REQUIRES_NEW : SA13 Z Z.heap (.ref o_REQUIRES_NEW)) (E_o_REQUIRES_NEW : EA3 Z Z.heap o_REQUIRES_NEW) (F_o_NOT_SUPPORTED_withCallersTransaction : FA2 Z Z.heap o_NOT_SUPPORTED (.ref o_WITHOUT)) (F_o_REQUIRED_withCallersTransaction : FA2 Z Z.heap o_REQUIRED (.ref o_JOIN)) (F_o_REQUIRED_withoutCallersTransaction : FA1 Z Z.heap o_REQUIRED (.ref o_BEGIN)) (F_o_MANDATORY_withoutCallersTransaction : FA1 Z Z.heap o_MANDATORY .null) (F_o_SUPPORTS_withCallersTransaction : FA2 Z Z.heap o_SUPPORTS (.ref o_JOIN)) (F_o_NOT_SUPPORTED_withoutCallersTransaction : FA1 Z Z.heap o_NOT_SUPPORTED (.ref o_WITHOUT)) (F_o_NEVER_withoutCallersTransaction : FA1 Z Z.heap o_NEVER (.ref o_WITHOUT)) (F_o_REQUIRES_NEW_withCallersTransaction : FA2 Z Z.heap o_REQUIRES_NEW (.ref o_BEGIN)) (F_o_REQUIRES_NEW_withoutCallersTransaction : FA1 Z Z.heap o_REQUIRES_NEW (.ref o_BEGIN)) (F_o_SUPPORTS_withoutCallersTransaction : FA1 Z Z.heap o_SUPPORTS (.ref o_WITHOUT)) (F_o_MANDATORY_withCallersTransaction : FA2 Z Z.heap o_MANDATORY (.ref o_JOIN)) (F_o_NEVER_withCallersTransaction : FA2 Z Z.heap o_NEVER .null) (hs : ((p1 &&& (2147483647 : Int32)) % (6 : Int32)) = (3 : Int32)) (hf : (p2 &&& (1 : Int32)) = (1 : Int32)) :
    Met l Z ws x code maxLocals ret room_1 #[(.int p1), (.int p2)] h0 (fun v _ L => Q0 n0 v L) := by
  have W := fun (i : Nat) {c : Jvm.Cond} (q : tables_1[i]? = some c) => hw c (List.mem_of_getElem? q)
  refine own_mk (plainFor_of_name pn_9) ?_
  intro p e s m below meth c s₁ hZ hx hby hml hown hnm hret hlk X0 e0
  have N0 := Fr.nil n0
  obtain ⟨T1, X1, e1, st1⟩ := getS2 X0 hx hZ hown (host := "") (Or.inl (W 28 rfl)) Via.refl e0 (S_o_REQUIRES_NEW.ext O0.2) (g := (mkF m 102 #[iv p1, iv p2, iv (3 : Int32), iv (1 : Int32), .unset, .unset] [])) rfl (hb hby at_102)
  obtain ⟨T2, X2, e2, st2⟩ := getS2 X1 hx hZ hown (host := "") (Or.inl (W 18 rfl)) Via.refl e1 (S_o_BEGIN.ext O0.2) (g := (mkF m 107 #[iv p1, iv p2, iv (3 : Int32), iv (1 : Int32), rv o_REQUIRES_NEW, .unset] [])) rfl (hb hby at_107)
  obtain ⟨_, T3, L3, X3, hQ3, st3⟩ := own_cv X2 hx hZ hown hml (W 7 rfl) (W 8 rfl) (notFace_of_selects (W 10 rfl)) (W 10 rfl) (W 9 rfl) (W 2 rfl) (W 11 rfl) (rm2_demarcation l Z a0 hw o_REQUIRES_NEW o_BEGIN h0 n0 O0 (F_o_REQUIRES_NEW_withCallersTransaction)) e2 (E_o_REQUIRES_NEW.ext O0.2) (hb hby at_166) 0 #[iv p1, iv p2, iv (3 : Int32), iv (1 : Int32), rv o_REQUIRES_NEW, rv o_BEGIN] [(.int (1 : Int32))] [] pd_7 (by decide) rfl rfl rfl (Nat.le_of_eq rfl)
  obtain ⟨rfl, N3q, K3⟩ := hQ3
  have N4 := Fr.app N0 N3q
  refine ⟨T3, some (.int (1 : Int32)), _, _, _, X3, by decide, by decide, nofun, ?_, fun fs hr => castTop (ef_8 m p1 p2) ?_⟩
  · exact ⟨rfl, N4⟩
  · show SS p e below s₁ m 0 #[iv p1, iv p2, .unset, .unset, .unset, .unset] [] _
    refine XS.iloadN X0.here hx rfl (hb hby at_0) rfl ?_
    show SS p e below s₁ m 1 #[iv p1, iv p2, .unset, .unset, .unset, .unset] [(.int p1)] _
    refine X0.ldcInt hx hown (mvT hZ (W 0 rfl)) (g := (mkF m 1 #[iv p1, iv p2, .unset, .unset, .unset, .unset] [(.int p1)])) rfl (hb hby at_1) _ ?_
    show SS p e below s₁ m 3 #[iv p1, iv p2, .unset, .unset, .unset, .unset] [(.int (2147483647 : Int32)), (.int p1)] _
    refine XS.iand X0.here hx rfl (hb hby at_3) rfl ?_
    show SS p e below s₁ m 4 #[iv p1, iv p2, .unset, .unset, .unset, .unset] [(.int (p1 &&& (2147483647 : Int32)))] _
    refine XS.bipush X0.here hx rfl (hb hby at_4) ?_
    show SS p e below s₁ m 6 #[iv p1, iv p2, .unset, .unset, .unset, .unset] [(.int (6 : Int32)), (.int (p1 &&& (2147483647 : Int32)))] _
    refine iremM (g := (mkF m 6 #[iv p1, iv p2, .unset, .unset, .unset, .unset] [(.int (6 : Int32)), (.int (p1 &&& (2147483647 : Int32)))])) X0 hx rfl (hb hby at_6) rfl (by decide : ¬ ((6 : Int32) = (0 : Int32))) ?_
    rw [hs]
    show SS p e below s₁ m 7 #[iv p1, iv p2, .unset, .unset, .unset, .unset] [(.int (3 : Int32))] _
    refine XS.istoreN X0.here hx rfl (hb hby at_7) rfl (l' := #[iv p1, iv p2, iv (3 : Int32), .unset, .unset, .unset]) rfl ?_
    show SS p e below s₁ m 8 #[iv p1, iv p2, iv (3 : Int32), .unset, .unset, .unset] [] _
    refine XS.iloadN X0.here hx rfl (hb hby at_8) rfl ?_
    refine XS.iconst X0.here hx rfl (hb hby at_9) ?_
    show SS p e below s₁ m 10 #[iv p1, iv p2, iv (3 : Int32), .unset, .unset, .unset] [(.int (1 : Int32)), (.int p2)] _
    refine XS.iand X0.here hx rfl (hb hby at_10) rfl ?_
    rw [hf]
    show SS p e below s₁ m 11 #[iv p1, iv p2, iv (3 : Int32), .unset, .unset, .unset] [(.int (1 : Int32))] _
    refine XS.ifNo X0.here hx rfl (hb hby at_11) rfl ((if0 _ _).trans (feq (by decide : ¬ ((1 : Int32) = (0 : Int32)))).1) ?_
    show SS p e below s₁ m 14 #[iv p1, iv p2, iv (3 : Int32), .unset, .unset, .unset] [] _
    refine XS.iconst X0.here hx rfl (hb hby at_14) ?_
    refine XS.goto X0.here hx rfl (pc0 := 15) (pc' := 19) rfl (hb hby at_15) (by decide) (by decide) ?_
    show SS p e below s₁ m 19 #[iv p1, iv p2, iv (3 : Int32), .unset, .unset, .unset] [(.int (1 : Int32))] _
    refine XS.istoreN X0.here hx rfl (hb hby at_19) rfl (l' := #[iv p1, iv p2, iv (3 : Int32), iv (1 : Int32), .unset, .unset]) rfl ?_
    show SS p e below s₁ m 20 #[iv p1, iv p2, iv (3 : Int32), iv (1 : Int32), .unset, .unset] [] _
    refine XS.iloadN X0.here hx rfl (hb hby at_20) rfl ?_
    show SS p e below s₁ m 21 #[iv p1, iv p2, iv (3 : Int32), iv (1 : Int32), .unset, .unset] [(.int (3 : Int32))] _
    refine XS.ifYes X0.here hx rfl (pc0 := 21) (pc' := 37) rfl (hb hby at_21) rfl ((if0 _ _).trans (feq (by decide : ¬ ((3 : Int32) = (0 : Int32)))).2) (by decide) (by decide) ?_
    show SS p e below s₁ m 37 #[iv p1, iv p2, iv (3 : Int32), iv (1 : Int32), .unset, .unset] [] _
    refine XS.iloadN X0.here hx rfl (hb hby at_37) rfl ?_
    refine XS.iconst X0.here hx rfl (hb hby at_38) ?_
    show SS p e below s₁ m 39 #[iv p1, iv p2, iv (3 : Int32), iv (1 : Int32), .unset, .unset] [(.int (1 : Int32)), (.int (3 : Int32))] _
    refine XS.icmpYes X0.here hx rfl (pc0 := 39) (pc' := 67) rfl (hb hby at_39) rfl (feq (by decide : ¬ ((3 : Int32) = (1 : Int32)))).2 (by decide) (by decide) ?_
    show SS p e below s₁ m 67 #[iv p1, iv p2, iv (3 : Int32), iv (1 : Int32), .unset, .unset] [] _
    refine XS.iloadN X0.here hx rfl (hb hby at_67) rfl ?_
    refine XS.iconst X0.here hx rfl (hb hby at_68) ?_
    show SS p e below s₁ m 69 #[iv p1, iv p2, iv (3 : Int32), iv (1 : Int32), .unset, .unset] [(.int (2 : Int32)), (.int (3 : Int32))] _
    refine XS.icmpYes X0.here hx rfl (pc0 := 69) (pc' := 97) rfl (hb hby at_69) rfl (feq (by decide : ¬ ((3 : Int32) = (2 : Int32)))).2 (by decide) (by decide) ?_
    show SS p e below s₁ m 97 #[iv p1, iv p2, iv (3 : Int32), iv (1 : Int32), .unset, .unset] [] _
    refine XS.iloadN X0.here hx rfl (hb hby at_97) rfl ?_
    refine XS.iconst X0.here hx rfl (hb hby at_98) ?_
    show SS p e below s₁ m 99 #[iv p1, iv p2, iv (3 : Int32), iv (1 : Int32), .unset, .unset] [(.int (3 : Int32)), (.int (3 : Int32))] _
    refine XS.icmpNo X0.here hx rfl (hb hby at_99) rfl (teq (by decide : (3 : Int32) = (3 : Int32))).2 ?_
    show SS p e below s₁ m 102 #[iv p1, iv p2, iv (3 : Int32), iv (1 : Int32), .unset, .unset] [] _
    refine st1 _ ?_
    show SS p e below T1 m 105 #[iv p1, iv p2, iv (3 : Int32), iv (1 : Int32), .unset, .unset] [(.ref o_REQUIRES_NEW)] _
    refine XS.astore X1.here hx rfl (hb hby at_105) rfl rfl (l' := #[iv p1, iv p2, iv (3 : Int32), iv (1 : Int32), rv o_REQUIRES_NEW, .unset]) rfl ?_
    show SS p e below T1 m 107 #[iv p1, iv p2, iv (3 : Int32), iv (1 : Int32), rv o_REQUIRES_NEW, .unset] [] _
    refine st2 _ ?_
    show SS p e below T2 m 110 #[iv p1, iv p2, iv (3 : Int32), iv (1 : Int32), rv o_REQUIRES_NEW, .unset] [(.ref o_BEGIN)] _
    refine XS.astore X2.here hx rfl (hb hby at_110) rfl rfl (l' := #[iv p1, iv p2, iv (3 : Int32), iv (1 : Int32), rv o_REQUIRES_NEW, rv o_BEGIN]) rfl ?_
    show SS p e below T2 m 112 #[iv p1, iv p2, iv (3 : Int32), iv (1 : Int32), rv o_REQUIRES_NEW, rv o_BEGIN] [] _
    refine XS.goto X2.here hx rfl (pc0 := 112) (pc' := 163) rfl (hb hby at_112) (by decide) (by decide) ?_
    refine XS.aload X2.here hx rfl (hb hby at_163) rfl rfl ?_
    refine XS.iloadN X2.here hx rfl (hb hby at_165) rfl ?_
    show SS p e below T2 m 166 #[iv p1, iv p2, iv (3 : Int32), iv (1 : Int32), rv o_REQUIRES_NEW, rv o_BEGIN] [(.int (1 : Int32)), (.ref o_REQUIRES_NEW)] _
    refine st3 _ ?_
    show SS p e below T3 m 169 #[iv p1, iv p2, iv (3 : Int32), iv (1 : Int32), rv o_REQUIRES_NEW, rv o_BEGIN] [(.ref o_BEGIN)] _
    refine XS.aload X3.here hx rfl (hb hby at_169) rfl rfl ?_
    show SS p e below T3 m 171 #[iv p1, iv p2, iv (3 : Int32), iv (1 : Int32), rv o_REQUIRES_NEW, rv o_BEGIN] [(.ref o_BEGIN), (.ref o_BEGIN)] _
    refine Jvm.RoadKit.acmp (g := (mkF m 171 #[iv p1, iv p2, iv (3 : Int32), iv (1 : Int32), rv o_REQUIRES_NEW, rv o_BEGIN] [(.ref o_BEGIN), (.ref o_BEGIN)])) X3 hx rfl rfl rfl (pc0 := 171) (pc' := 174) (same := true) rfl (hb hby at_171) rfl (decide_eq_true rfl) (by decide) (by decide) ?_
    show SS p e below T3 m 174 #[iv p1, iv p2, iv (3 : Int32), iv (1 : Int32), rv o_REQUIRES_NEW, rv o_BEGIN] [] _
    refine XS.iconst X3.here hx rfl (hb hby at_174) ?_
    refine XS.goto X3.here hx rfl (pc0 := 175) (pc' := 179) rfl (hb hby at_175) (by decide) (by decide) ?_
    show SS p e below T3 m 179 #[iv p1, iv p2, iv (3 : Int32), iv (1 : Int32), rv o_REQUIRES_NEW, rv o_BEGIN] [(.int (1 : Int32))] _
    exact retN X3 hx (t := .boolean) hret (by simp) (hb hby at_179) hr
-- com/example/beanhive/beanhive/TransAttribute.demarcation(Z)Lcom/example/beanhive/beanhive/Demarcation;
def Q3_demarcation (Z : State) (a1 : Addr) (h0 : Heap) (n0 : Nat) (v : Option Value) (h : Heap) (L : List Loc) : Prop := v = some .null ∧ Fr n0 L ∧ h = h0
set_option maxRecDepth 65536 in
set_option maxHeartbeats 40000000 in
theorem rm3_demarcation (l : Launch) (Z : State) (a0 : Array Value) (hw : HW Z a0) (a1 : Addr) (h0 : Heap) (n0 : Nat) (O0 : Old Z n0 h0) (F_0 : FA1 Z Z.heap a1 .null) :
    Met l Z [] Y0 prog_46_method_5_code 2 (some (.object "com/example/beanhive/beanhive/Demarcation")) ({ frames := 0, cells := 0, slots := 0, locals := 0 } : Room) #[(.ref a1), (.int (0 : Int32))] h0 (Q3_demarcation Z a1 h0 n0) := by
  have W := fun (i : Nat) {c : Jvm.Cond} (q : tables_1[i]? = some c) => hw c (List.mem_of_getElem? q)
  refine own_mk (plainFor_of_name pn_6) ?_
  intro p e s m below meth c s₁ hZ hx hby hml hown hnm hret hlk X0 e0
  have N0 := Fr.nil n0
  obtain ⟨T1, X1, e1, st1⟩ := getF X0 hx hZ hown (host := "") (Or.inl (W 20 rfl)) Via.refl e0 (F_0.ext O0.2) (g := (mkF m 12 #[rv a1, iv (0 : Int32)] [(.ref a1)])) rfl rfl (hb hby d_3)
  refine ⟨T1, some .null, _, _, _, X1, by decide, by decide, nofun, ?_, fun fs hr => castTop (ef_5 m a1) ?_⟩
  · show Q3_demarcation Z a1 h0 n0 _ T1.heap _
    rw [e1]
    exact ⟨rfl, N0, rfl⟩
  · show SS p e below s₁ m 0 #[rv a1, iv (0 : Int32)] [] _
    refine XS.iloadN X0.here hx rfl (hb hby d_0) rfl ?_
    show SS p e below s₁ m 1 #[rv a1, iv (0 : Int32)] [(.int (0 : Int32))] _
    refine XS.ifYes X0.here hx rfl (pc0 := 1) (pc' := 11) rfl (hb hby d_1) rfl ((if0 _ _).trans (teq (by decide : (0 : Int32) = (0 : Int32))).1) (by decide) (by decide) ?_
    show SS p e below s₁ m 11 #[rv a1, iv (0 : Int32)] [] _
    refine XS.aloadN X0.here hx rfl (hb hby d_2) rfl rfl ?_
    show SS p e below s₁ m 12 #[rv a1, iv (0 : Int32)] [(.ref a1)] _
    refine st1 _ ?_
    show SS p e below T1 m 15 #[rv a1, iv (0 : Int32)] [.null] _
    exact retOut X1 hx hret rfl (Or.inr (Or.inr (Or.inr (Or.inr ⟨rfl, rfl, rfl⟩)))) (hb hby d_4) hr
set_option maxRecDepth 65536 in
set_option maxHeartbeats 40000000 in
theorem rm0_4_0 (l : Launch) (Z : State) (a0 : Array Value) (hw : HW Z a0) (ws : List Jvm.Cond) (p1 : Int32) (p2 : Int32) (o_NOT_SUPPORTED : Addr) (o_WITHOUT : Addr) (o_REQUIRED : Addr) (o_JOIN : Addr) (o_BEGIN : Addr) (o_MANDATORY : Addr) (o_SUPPORTS : Addr) (o_NEVER : Addr) (o_REQUIRES_NEW : Addr) (h0 : Heap) (n0 : Nat) (O0 : Old Z n0 h0) (S_o_NOT_SUPPORTED : SA5 Z Z.heap (.ref o_NOT_SUPPORTED)) (E_o_NOT_SUPPORTED : EA3 Z Z.heap o_NOT_SUPPORTED) (S_o_WITHOUT : SA6 Z Z.heap (.ref o_WITHOUT)) (E_o_WITHOUT : EA4 Z Z.heap o_WITHOUT) (S_o_REQUIRED : SA7 Z Z.heap (.ref o_REQUIRED)) (E_o_REQUIRED : EA3 Z Z.heap o_REQUIRED) (S_o_JOIN : SA8 Z Z.heap (.ref o_JOIN)) (E_o_JOIN : EA4 Z Z.heap o_JOIN) (S_o_BEGIN : SA9 Z Z.heap (.ref o_BEGIN)) (E_o_BEGIN : EA4 Z Z.heap o_BEGIN) (S_o_MANDATORY : SA10 Z Z.heap (.ref o_MANDATORY)) (E_o_MANDATORY : EA3 Z Z.heap o_MANDATORY) (S_o_SUPPORTS : SA11 Z Z.heap (.ref o_SUPPORTS)) (E_o_SUPPORTS : EA3 Z Z.heap o_SUPPORTS) (S_o_NEVER : SA12 Z Z.heap (.ref o_NEVER)) (E_o_NEVER : EA3 Z Z.heap o_NEVER) (S_o_REQUIRES_NEW : SA13 Z Z.heap (.ref o_REQUIRES_NEW)) (E_o_REQUIRES_NEW : EA3 Z Z.heap o_REQUIRES_NEW) (F_o_NOT_SUPPORTED_withCallersTransaction : FA2 Z Z.heap o_NOT_SUPPORTED (.ref o_WITHOUT)) (F_o_REQUIRED_withCallersTransaction : FA2 Z Z.heap o_REQUIRED (.ref o_JOIN)) (F_o_REQUIRED_withoutCallersTransaction : FA1 Z Z.heap o_REQUIRED (.ref o_BEGIN)) (F_o_MANDATORY_withoutCallersTransaction : FA1 Z Z.heap o_MANDATORY .null) (F_o_SUPPORTS_withCallersTransaction : FA2 Z Z.heap o_SUPPORTS (.ref o_JOIN)) (F_o_NOT_SUPPORTED_withoutCallersTransaction : FA1 Z Z.heap o_NOT_SUPPORTED (.ref o_WITHOUT)) (F_o_NEVER_withoutCallersTransaction : FA1 Z Z.heap o_NEVER (.ref o_WITHOUT)) (F_o_REQUIRES_NEW_withCallersTransaction : FA2 Z Z.heap o_REQUIRES_NEW (.ref o_BEGIN)) (F_o_REQUIRES_NEW_withoutCallersTransaction : FA1 Z Z.heap o_REQUIRES_NEW (.ref o_BEGIN)) (F_o_SUPPORTS_withoutCallersTransaction : FA1 Z Z.heap o_SUPPORTS (.ref o_WITHOUT)) (F_o_MANDATORY_withCallersTransaction : FA2 Z Z.heap o_MANDATORY (.ref o_JOIN)) (F_o_NEVER_withCallersTransaction : FA2 Z Z.heap o_NEVER .null) (hs : ((p1 &&& (2147483647 : Int32)) % (6 : Int32)) = (4 : Int32)) (hf : (p2 &&& (1 : Int32)) = (0 : Int32)) :
    Met l Z ws x code maxLocals ret room_1 #[(.int p1), (.int p2)] h0 (fun v _ L => Q0 n0 v L) := by
  have W := fun (i : Nat) {c : Jvm.Cond} (q : tables_1[i]? = some c) => hw c (List.mem_of_getElem? q)
  refine own_mk (plainFor_of_name pn_9) ?_
  intro p e s m below meth c s₁ hZ hx hby hml hown hnm hret hlk X0 e0
  have N0 := Fr.nil n0
  obtain ⟨T1, X1, e1, st1⟩ := getS2 X0 hx hZ hown (host := "") (Or.inl (W 22 rfl)) Via.refl e0 (S_o_MANDATORY.ext O0.2) (g := (mkF m 120 #[iv p1, iv p2, iv (4 : Int32), iv (0 : Int32), .unset, .unset] [])) rfl (hb hby at_120)
  obtain ⟨_, T2, L2, X2, hQ2, st2⟩ := own_cv X1 hx hZ hown hml (W 7 rfl) (W 8 rfl) (notFace_of_selects (W 10 rfl)) (W 10 rfl) (W 9 rfl) (W 2 rfl) (W 11 rfl) (rm3_demarcation l Z a0 hw o_MANDATORY h0 n0 O0 (F_o_MANDATORY_withoutCallersTransaction)) e1 (E_o_MANDATORY.ext O0.2) (hb hby at_166) 0 #[iv p1, iv p2, iv (4 : Int32), iv (0 : Int32), rv o_MANDATORY, .val .null] [(.int (0 : Int32))] [] pd_7 (by decide) rfl rfl rfl (Nat.le_of_eq rfl)
  obtain ⟨rfl, N2q, K2⟩ := hQ2
  have N3 := Fr.app N0 N2q
  refine ⟨T2, some (.int (1 : Int32)), _, _, _, X2, by decide, by decide, nofun, ?_, fun fs hr => castTop (ef_8 m p1 p2) ?_⟩
  · exact ⟨rfl, N3⟩
  · show SS p e below s₁ m 0 #[iv p1, iv p2, .unset, .unset, .unset, .unset] [] _
    refine XS.iloadN X0.here hx rfl (hb hby at_0) rfl ?_
    show SS p e below s₁ m 1 #[iv p1, iv p2, .unset, .unset, .unset, .unset] [(.int p1)] _
    refine X0.ldcInt hx hown (mvT hZ (W 0 rfl)) (g := (mkF m 1 #[iv p1, iv p2, .unset, .unset, .unset, .unset] [(.int p1)])) rfl (hb hby at_1) _ ?_
    show SS p e below s₁ m 3 #[iv p1, iv p2, .unset, .unset, .unset, .unset] [(.int (2147483647 : Int32)), (.int p1)] _
    refine XS.iand X0.here hx rfl (hb hby at_3) rfl ?_
    show SS p e below s₁ m 4 #[iv p1, iv p2, .unset, .unset, .unset, .unset] [(.int (p1 &&& (2147483647 : Int32)))] _
    refine XS.bipush X0.here hx rfl (hb hby at_4) ?_
    show SS p e below s₁ m 6 #[iv p1, iv p2, .unset, .unset, .unset, .unset] [(.int (6 : Int32)), (.int (p1 &&& (2147483647 : Int32)))] _
    refine iremM (g := (mkF m 6 #[iv p1, iv p2, .unset, .unset, .unset, .unset] [(.int (6 : Int32)), (.int (p1 &&& (2147483647 : Int32)))])) X0 hx rfl (hb hby at_6) rfl (by decide : ¬ ((6 : Int32) = (0 : Int32))) ?_
    rw [hs]
    show SS p e below s₁ m 7 #[iv p1, iv p2, .unset, .unset, .unset, .unset] [(.int (4 : Int32))] _
    refine XS.istoreN X0.here hx rfl (hb hby at_7) rfl (l' := #[iv p1, iv p2, iv (4 : Int32), .unset, .unset, .unset]) rfl ?_
    show SS p e below s₁ m 8 #[iv p1, iv p2, iv (4 : Int32), .unset, .unset, .unset] [] _
    refine XS.iloadN X0.here hx rfl (hb hby at_8) rfl ?_
    refine XS.iconst X0.here hx rfl (hb hby at_9) ?_
    show SS p e below s₁ m 10 #[iv p1, iv p2, iv (4 : Int32), .unset, .unset, .unset] [(.int (1 : Int32)), (.int p2)] _
    refine XS.iand X0.here hx rfl (hb hby at_10) rfl ?_
    rw [hf]
    show SS p e below s₁ m 11 #[iv p1, iv p2, iv (4 : Int32), .unset, .unset, .unset] [(.int (0 : Int32))] _
    refine XS.ifYes X0.here hx rfl (pc0 := 11) (pc' := 18) rfl (hb hby at_11) rfl ((if0 _ _).trans (teq (by decide : (0 : Int32) = (0 : Int32))).1) (by decide) (by decide) ?_
    show SS p e below s₁ m 18 #[iv p1, iv p2, iv (4 : Int32), .unset, .unset, .unset] [] _
    refine XS.iconst X0.here hx rfl (hb hby at_18) ?_
    show SS p e below s₁ m 19 #[iv p1, iv p2, iv (4 : Int32), .unset, .unset, .unset] [(.int (0 : Int32))] _
    refine XS.istoreN X0.here hx rfl (hb hby at_19) rfl (l' := #[iv p1, iv p2, iv (4 : Int32), iv (0 : Int32), .unset, .unset]) rfl ?_
    show SS p e below s₁ m 20 #[iv p1, iv p2, iv (4 : Int32), iv (0 : Int32), .unset, .unset] [] _
    refine XS.iloadN X0.here hx rfl (hb hby at_20) rfl ?_
    show SS p e below s₁ m 21 #[iv p1, iv p2, iv (4 : Int32), iv (0 : Int32), .unset, .unset] [(.int (4 : Int32))] _
    refine XS.ifYes X0.here hx rfl (pc0 := 21) (pc' := 37) rfl (hb hby at_21) rfl ((if0 _ _).trans (feq (by decide : ¬ ((4 : Int32) = (0 : Int32)))).2) (by decide) (by decide) ?_
    show SS p e below s₁ m 37 #[iv p1, iv p2, iv (4 : Int32), iv (0 : Int32), .unset, .unset] [] _
    refine XS.iloadN X0.here hx rfl (hb hby at_37) rfl ?_
    refine XS.iconst X0.here hx rfl (hb hby at_38) ?_
    show SS p e below s₁ m 39 #[iv p1, iv p2, iv (4 : Int32), iv (0 : Int32), .unset, .unset] [(.int (1 : Int32)), (.int (4 : Int32))] _
    refine XS.icmpYes X0.here hx rfl (pc0 := 39) (pc' := 67) rfl (hb hby at_39) rfl (feq (by decide : ¬ ((4 : Int32) = (1 : Int32)))).2 (by decide) (by decide) ?_
    show SS p e below s₁ m 67 #[iv p1, iv p2, iv (4 : Int32), iv (0 : Int32), .unset, .unset] [] _
    refine XS.iloadN X0.here hx rfl (hb hby at_67) rfl ?_
    refine XS.iconst X0.here hx rfl (hb hby at_68) ?_
    show SS p e below s₁ m 69 #[iv p1, iv p2, iv (4 : Int32), iv (0 : Int32), .unset, .unset] [(.int (2 : Int32)), (.int (4 : Int32))] _
    refine XS.icmpYes X0.here hx rfl (pc0 := 69) (pc' := 97) rfl (hb hby at_69) rfl (feq (by decide : ¬ ((4 : Int32) = (2 : Int32)))).2 (by decide) (by decide) ?_
    show SS p e below s₁ m 97 #[iv p1, iv p2, iv (4 : Int32), iv (0 : Int32), .unset, .unset] [] _
    refine XS.iloadN X0.here hx rfl (hb hby at_97) rfl ?_
    refine XS.iconst X0.here hx rfl (hb hby at_98) ?_
    show SS p e below s₁ m 99 #[iv p1, iv p2, iv (4 : Int32), iv (0 : Int32), .unset, .unset] [(.int (3 : Int32)), (.int (4 : Int32))] _
    refine XS.icmpYes X0.here hx rfl (pc0 := 99) (pc' := 115) rfl (hb hby at_99) rfl (feq (by decide : ¬ ((4 : Int32) = (3 : Int32)))).2 (by decide) (by decide) ?_
    show SS p e below s₁ m 115 #[iv p1, iv p2, iv (4 : Int32), iv (0 : Int32), .unset, .unset] [] _
    refine XS.iloadN X0.here hx rfl (hb hby at_115) rfl ?_
    refine XS.iconst X0.here hx rfl (hb hby at_116) ?_
    show SS p e below s₁ m 117 #[iv p1, iv p2, iv (4 : Int32), iv (0 : Int32), .unset, .unset] [(.int (4 : Int32)), (.int (4 : Int32))] _
    refine XS.icmpNo X0.here hx rfl (hb hby at_117) rfl (teq (by decide : (4 : Int32) = (4 : Int32))).2 ?_
    show SS p e below s₁ m 120 #[iv p1, iv p2, iv (4 : Int32), iv (0 : Int32), .unset, .unset] [] _
    refine st1 _ ?_
    show SS p e below T1 m 123 #[iv p1, iv p2, iv (4 : Int32), iv (0 : Int32), .unset, .unset] [(.ref o_MANDATORY)] _
    refine XS.astore X1.here hx rfl (hb hby at_123) rfl rfl (l' := #[iv p1, iv p2, iv (4 : Int32), iv (0 : Int32), rv o_MANDATORY, .unset]) rfl ?_
    show SS p e below T1 m 125 #[iv p1, iv p2, iv (4 : Int32), iv (0 : Int32), rv o_MANDATORY, .unset] [] _
    refine XS.iloadN X1.here hx rfl (hb hby at_125) rfl ?_
    show SS p e below T1 m 126 #[iv p1, iv p2, iv (4 : Int32), iv (0 : Int32), rv o_MANDATORY, .unset] [(.int (0 : Int32))] _
    refine XS.ifYes X1.here hx rfl (pc0 := 126) (pc' := 137) rfl (hb hby at_126) rfl ((if0 _ _).trans (teq (by decide : (0 : Int32) = (0 : Int32))).1) (by decide) (by decide) ?_
    show SS p e below T1 m 137 #[iv p1, iv p2, iv (4 : Int32), iv (0 : Int32), rv o_MANDATORY, .unset] [] _
    refine XS.aconstNull X1.here hx rfl (hb hby at_137) ?_
    show SS p e below T1 m 138 #[iv p1, iv p2, iv (4 : Int32), iv (0 : Int32), rv o_MANDATORY, .unset] [.null] _
    refine XS.astore X1.here hx rfl (hb hby at_138) rfl rfl (l' := #[iv p1, iv p2, iv (4 : Int32), iv (0 : Int32), rv o_MANDATORY, .val .null]) rfl ?_
    show SS p e below T1 m 140 #[iv p1, iv p2, iv (4 : Int32), iv (0 : Int32), rv o_MANDATORY, .val .null] [] _
    refine XS.goto X1.here hx rfl (pc0 := 140) (pc' := 163) rfl (hb hby at_140) (by decide) (by decide) ?_
    refine XS.aload X1.here hx rfl (hb hby at_163) rfl rfl ?_
    refine XS.iloadN X1.here hx rfl (hb hby at_165) rfl ?_
    show SS p e below T1 m 166 #[iv p1, iv p2, iv (4 : Int32), iv (0 : Int32), rv o_MANDATORY, .val .null] [(.int (0 : Int32)), (.ref o_MANDATORY)] _
    refine st2 _ ?_
    show SS p e below T2 m 169 #[iv p1, iv p2, iv (4 : Int32), iv (0 : Int32), rv o_MANDATORY, .val .null] [.null] _
    refine XS.aload X2.here hx rfl (hb hby at_169) rfl rfl ?_
    show SS p e below T2 m 171 #[iv p1, iv p2, iv (4 : Int32), iv (0 : Int32), rv o_MANDATORY, .val .null] [.null, .null] _
    refine Jvm.RoadKit.acmp (g := (mkF m 171 #[iv p1, iv p2, iv (4 : Int32), iv (0 : Int32), rv o_MANDATORY, .val .null] [.null, .null])) X2 hx rfl rfl rfl (pc0 := 171) (pc' := 174) (same := true) rfl (hb hby at_171) rfl (decide_eq_true rfl) (by decide) (by decide) ?_
    show SS p e below T2 m 174 #[iv p1, iv p2, iv (4 : Int32), iv (0 : Int32), rv o_MANDATORY, .val .null] [] _
    refine XS.iconst X2.here hx rfl (hb hby at_174) ?_
    refine XS.goto X2.here hx rfl (pc0 := 175) (pc' := 179) rfl (hb hby at_175) (by decide) (by decide) ?_
    show SS p e below T2 m 179 #[iv p1, iv p2, iv (4 : Int32), iv (0 : Int32), rv o_MANDATORY, .val .null] [(.int (1 : Int32))] _
    exact retN X2 hx (t := .boolean) hret (by simp) (hb hby at_179) hr
set_option maxRecDepth 65536 in
set_option maxHeartbeats 40000000 in
theorem rm0_4_1 (l : Launch) (Z : State) (a0 : Array Value) (hw : HW Z a0) (ws : List Jvm.Cond) (p1 : Int32) (p2 : Int32) (o_NOT_SUPPORTED : Addr) (o_WITHOUT : Addr) (o_REQUIRED : Addr) (o_JOIN : Addr) (o_BEGIN : Addr) (o_MANDATORY : Addr) (o_SUPPORTS : Addr) (o_NEVER : Addr) (o_REQUIRES_NEW : Addr) (h0 : Heap) (n0 : Nat) (O0 : Old Z n0 h0) (S_o_NOT_SUPPORTED : SA5 Z Z.heap (.ref o_NOT_SUPPORTED)) (E_o_NOT_SUPPORTED : EA3 Z Z.heap o_NOT_SUPPORTED) (S_o_WITHOUT : SA6 Z Z.heap (.ref o_WITHOUT)) (E_o_WITHOUT : EA4 Z Z.heap o_WITHOUT) (S_o_REQUIRED : SA7 Z Z.heap (.ref o_REQUIRED)) (E_o_REQUIRED : EA3 Z Z.heap o_REQUIRED) (S_o_JOIN : SA8 Z Z.heap (.ref o_JOIN)) (E_o_JOIN : EA4 Z Z.heap o_JOIN) (S_o_BEGIN : SA9 Z Z.heap (.ref o_BEGIN)) (E_o_BEGIN : EA4 Z Z.heap o_BEGIN) (S_o_MANDATORY : SA10 Z Z.heap (.ref o_MANDATORY)) (E_o_MANDATORY : EA3 Z Z.heap o_MANDATORY) (S_o_SUPPORTS : SA11 Z Z.heap (.ref o_SUPPORTS)) (E_o_SUPPORTS : EA3 Z Z.heap o_SUPPORTS) (S_o_NEVER : SA12 Z Z.heap (.ref o_NEVER)) (E_o_NEVER : EA3 Z Z.heap o_NEVER) (S_o_REQUIRES_NEW : SA13 Z Z.heap (.ref o_REQUIRES_NEW)) (E_o_REQUIRES_NEW : EA3 Z Z.heap o_REQUIRES_NEW) (F_o_NOT_SUPPORTED_withCallersTransaction : FA2 Z Z.heap o_NOT_SUPPORTED (.ref o_WITHOUT)) (F_o_REQUIRED_withCallersTransaction : FA2 Z Z.heap o_REQUIRED (.ref o_JOIN)) (F_o_REQUIRED_withoutCallersTransaction : FA1 Z Z.heap o_REQUIRED (.ref o_BEGIN)) (F_o_MANDATORY_withoutCallersTransaction : FA1 Z Z.heap o_MANDATORY .null) (F_o_SUPPORTS_withCallersTransaction : FA2 Z Z.heap o_SUPPORTS (.ref o_JOIN)) (F_o_NOT_SUPPORTED_withoutCallersTransaction : FA1 Z Z.heap o_NOT_SUPPORTED (.ref o_WITHOUT)) (F_o_NEVER_withoutCallersTransaction : FA1 Z Z.heap o_NEVER (.ref o_WITHOUT)) (F_o_REQUIRES_NEW_withCallersTransaction : FA2 Z Z.heap o_REQUIRES_NEW (.ref o_BEGIN)) (F_o_REQUIRES_NEW_withoutCallersTransaction : FA1 Z Z.heap o_REQUIRES_NEW (.ref o_BEGIN)) (F_o_SUPPORTS_withoutCallersTransaction : FA1 Z Z.heap o_SUPPORTS (.ref o_WITHOUT)) (F_o_MANDATORY_withCallersTransaction : FA2 Z Z.heap o_MANDATORY (.ref o_JOIN)) (F_o_NEVER_withCallersTransaction : FA2 Z Z.heap o_NEVER .null) (hs : ((p1 &&& (2147483647 : Int32)) % (6 : Int32)) = (4 : Int32)) (hf : (p2 &&& (1 : Int32)) = (1 : Int32)) :
    Met l Z ws x code maxLocals ret room_1 #[(.int p1), (.int p2)] h0 (fun v _ L => Q0 n0 v L) := by
  have W := fun (i : Nat) {c : Jvm.Cond} (q : tables_1[i]? = some c) => hw c (List.mem_of_getElem? q)
  refine own_mk (plainFor_of_name pn_9) ?_
  intro p e s m below meth c s₁ hZ hx hby hml hown hnm hret hlk X0 e0
  have N0 := Fr.nil n0
  obtain ⟨T1, X1, e1, st1⟩ := getS2 X0 hx hZ hown (host := "") (Or.inl (W 22 rfl)) Via.refl e0 (S_o_MANDATORY.ext O0.2) (g := (mkF m 120 #[iv p1, iv p2, iv (4 : Int32), iv (1 : Int32), .unset, .unset] [])) rfl (hb hby at_120)
  obtain ⟨T2, X2, e2, st2⟩ := getS2 X1 hx hZ hown (host := "") (Or.inl (W 16 rfl)) Via.refl e1 (S_o_JOIN.ext O0.2) (g := (mkF m 129 #[iv p1, iv p2, iv (4 : Int32), iv (1 : Int32), rv o_MANDATORY, .unset] [])) rfl (hb hby at_129)
  obtain ⟨_, T3, L3, X3, hQ3, st3⟩ := own_cv X2 hx hZ hown hml (W 7 rfl) (W 8 rfl) (notFace_of_selects (W 10 rfl)) (W 10 rfl) (W 9 rfl) (W 2 rfl) (W 11 rfl) (rm2_demarcation l Z a0 hw o_MANDATORY o_JOIN h0 n0 O0 (F_o_MANDATORY_withCallersTransaction)) e2 (E_o_MANDATORY.ext O0.2) (hb hby at_166) 0 #[iv p1, iv p2, iv (4 : Int32), iv (1 : Int32), rv o_MANDATORY, rv o_JOIN] [(.int (1 : Int32))] [] pd_7 (by decide) rfl rfl rfl (Nat.le_of_eq rfl)
  obtain ⟨rfl, N3q, K3⟩ := hQ3
  have N4 := Fr.app N0 N3q
  refine ⟨T3, some (.int (1 : Int32)), _, _, _, X3, by decide, by decide, nofun, ?_, fun fs hr => castTop (ef_8 m p1 p2) ?_⟩
  · exact ⟨rfl, N4⟩
  · show SS p e below s₁ m 0 #[iv p1, iv p2, .unset, .unset, .unset, .unset] [] _
    refine XS.iloadN X0.here hx rfl (hb hby at_0) rfl ?_
    show SS p e below s₁ m 1 #[iv p1, iv p2, .unset, .unset, .unset, .unset] [(.int p1)] _
    refine X0.ldcInt hx hown (mvT hZ (W 0 rfl)) (g := (mkF m 1 #[iv p1, iv p2, .unset, .unset, .unset, .unset] [(.int p1)])) rfl (hb hby at_1) _ ?_
    show SS p e below s₁ m 3 #[iv p1, iv p2, .unset, .unset, .unset, .unset] [(.int (2147483647 : Int32)), (.int p1)] _
    refine XS.iand X0.here hx rfl (hb hby at_3) rfl ?_
    show SS p e below s₁ m 4 #[iv p1, iv p2, .unset, .unset, .unset, .unset] [(.int (p1 &&& (2147483647 : Int32)))] _
    refine XS.bipush X0.here hx rfl (hb hby at_4) ?_
    show SS p e below s₁ m 6 #[iv p1, iv p2, .unset, .unset, .unset, .unset] [(.int (6 : Int32)), (.int (p1 &&& (2147483647 : Int32)))] _
    refine iremM (g := (mkF m 6 #[iv p1, iv p2, .unset, .unset, .unset, .unset] [(.int (6 : Int32)), (.int (p1 &&& (2147483647 : Int32)))])) X0 hx rfl (hb hby at_6) rfl (by decide : ¬ ((6 : Int32) = (0 : Int32))) ?_
    rw [hs]
    show SS p e below s₁ m 7 #[iv p1, iv p2, .unset, .unset, .unset, .unset] [(.int (4 : Int32))] _
    refine XS.istoreN X0.here hx rfl (hb hby at_7) rfl (l' := #[iv p1, iv p2, iv (4 : Int32), .unset, .unset, .unset]) rfl ?_
    show SS p e below s₁ m 8 #[iv p1, iv p2, iv (4 : Int32), .unset, .unset, .unset] [] _
    refine XS.iloadN X0.here hx rfl (hb hby at_8) rfl ?_
    refine XS.iconst X0.here hx rfl (hb hby at_9) ?_
    show SS p e below s₁ m 10 #[iv p1, iv p2, iv (4 : Int32), .unset, .unset, .unset] [(.int (1 : Int32)), (.int p2)] _
    refine XS.iand X0.here hx rfl (hb hby at_10) rfl ?_
    rw [hf]
    show SS p e below s₁ m 11 #[iv p1, iv p2, iv (4 : Int32), .unset, .unset, .unset] [(.int (1 : Int32))] _
    refine XS.ifNo X0.here hx rfl (hb hby at_11) rfl ((if0 _ _).trans (feq (by decide : ¬ ((1 : Int32) = (0 : Int32)))).1) ?_
    show SS p e below s₁ m 14 #[iv p1, iv p2, iv (4 : Int32), .unset, .unset, .unset] [] _
    refine XS.iconst X0.here hx rfl (hb hby at_14) ?_
    refine XS.goto X0.here hx rfl (pc0 := 15) (pc' := 19) rfl (hb hby at_15) (by decide) (by decide) ?_
    show SS p e below s₁ m 19 #[iv p1, iv p2, iv (4 : Int32), .unset, .unset, .unset] [(.int (1 : Int32))] _
    refine XS.istoreN X0.here hx rfl (hb hby at_19) rfl (l' := #[iv p1, iv p2, iv (4 : Int32), iv (1 : Int32), .unset, .unset]) rfl ?_
    show SS p e below s₁ m 20 #[iv p1, iv p2, iv (4 : Int32), iv (1 : Int32), .unset, .unset] [] _
    refine XS.iloadN X0.here hx rfl (hb hby at_20) rfl ?_
    show SS p e below s₁ m 21 #[iv p1, iv p2, iv (4 : Int32), iv (1 : Int32), .unset, .unset] [(.int (4 : Int32))] _
    refine XS.ifYes X0.here hx rfl (pc0 := 21) (pc' := 37) rfl (hb hby at_21) rfl ((if0 _ _).trans (feq (by decide : ¬ ((4 : Int32) = (0 : Int32)))).2) (by decide) (by decide) ?_
    show SS p e below s₁ m 37 #[iv p1, iv p2, iv (4 : Int32), iv (1 : Int32), .unset, .unset] [] _
    refine XS.iloadN X0.here hx rfl (hb hby at_37) rfl ?_
    refine XS.iconst X0.here hx rfl (hb hby at_38) ?_
    show SS p e below s₁ m 39 #[iv p1, iv p2, iv (4 : Int32), iv (1 : Int32), .unset, .unset] [(.int (1 : Int32)), (.int (4 : Int32))] _
    refine XS.icmpYes X0.here hx rfl (pc0 := 39) (pc' := 67) rfl (hb hby at_39) rfl (feq (by decide : ¬ ((4 : Int32) = (1 : Int32)))).2 (by decide) (by decide) ?_
    show SS p e below s₁ m 67 #[iv p1, iv p2, iv (4 : Int32), iv (1 : Int32), .unset, .unset] [] _
    refine XS.iloadN X0.here hx rfl (hb hby at_67) rfl ?_
    refine XS.iconst X0.here hx rfl (hb hby at_68) ?_
    show SS p e below s₁ m 69 #[iv p1, iv p2, iv (4 : Int32), iv (1 : Int32), .unset, .unset] [(.int (2 : Int32)), (.int (4 : Int32))] _
    refine XS.icmpYes X0.here hx rfl (pc0 := 69) (pc' := 97) rfl (hb hby at_69) rfl (feq (by decide : ¬ ((4 : Int32) = (2 : Int32)))).2 (by decide) (by decide) ?_
    show SS p e below s₁ m 97 #[iv p1, iv p2, iv (4 : Int32), iv (1 : Int32), .unset, .unset] [] _
    refine XS.iloadN X0.here hx rfl (hb hby at_97) rfl ?_
    refine XS.iconst X0.here hx rfl (hb hby at_98) ?_
    show SS p e below s₁ m 99 #[iv p1, iv p2, iv (4 : Int32), iv (1 : Int32), .unset, .unset] [(.int (3 : Int32)), (.int (4 : Int32))] _
    refine XS.icmpYes X0.here hx rfl (pc0 := 99) (pc' := 115) rfl (hb hby at_99) rfl (feq (by decide : ¬ ((4 : Int32) = (3 : Int32)))).2 (by decide) (by decide) ?_
    show SS p e below s₁ m 115 #[iv p1, iv p2, iv (4 : Int32), iv (1 : Int32), .unset, .unset] [] _
    refine XS.iloadN X0.here hx rfl (hb hby at_115) rfl ?_
    refine XS.iconst X0.here hx rfl (hb hby at_116) ?_
    show SS p e below s₁ m 117 #[iv p1, iv p2, iv (4 : Int32), iv (1 : Int32), .unset, .unset] [(.int (4 : Int32)), (.int (4 : Int32))] _
    refine XS.icmpNo X0.here hx rfl (hb hby at_117) rfl (teq (by decide : (4 : Int32) = (4 : Int32))).2 ?_
    show SS p e below s₁ m 120 #[iv p1, iv p2, iv (4 : Int32), iv (1 : Int32), .unset, .unset] [] _
    refine st1 _ ?_
    show SS p e below T1 m 123 #[iv p1, iv p2, iv (4 : Int32), iv (1 : Int32), .unset, .unset] [(.ref o_MANDATORY)] _
    refine XS.astore X1.here hx rfl (hb hby at_123) rfl rfl (l' := #[iv p1, iv p2, iv (4 : Int32), iv (1 : Int32), rv o_MANDATORY, .unset]) rfl ?_
    show SS p e below T1 m 125 #[iv p1, iv p2, iv (4 : Int32), iv (1 : Int32), rv o_MANDATORY, .unset] [] _
    refine XS.iloadN X1.here hx rfl (hb hby at_125) rfl ?_
    show SS p e below T1 m 126 #[iv p1, iv p2, iv (4 : Int32), iv (1 : Int32), rv o_MANDATORY, .unset] [(.int (1 : Int32))] _
    refine XS.ifNo X1.here hx rfl (hb hby at_126) rfl ((if0 _ _).trans (feq (by decide : ¬ ((1 : Int32) = (0 : Int32)))).1) ?_
    show SS p e below T1 m 129 #[iv p1, iv p2, iv (4 : Int32), iv (1 : Int32), rv o_MANDATORY, .unset] [] _
    refine st2 _ ?_
    show SS p e below T2 m 132 #[iv p1, iv p2, iv (4 : Int32), iv (1 : Int32), rv o_MANDATORY, .unset] [(.ref o_JOIN)] _
    refine XS.astore X2.here hx rfl (hb hby at_132) rfl rfl (l' := #[iv p1, iv p2, iv (4 : Int32), iv (1 : Int32), rv o_MANDATORY, rv o_JOIN]) rfl ?_
    show SS p e below T2 m 134 #[iv p1, iv p2, iv (4 : Int32), iv (1 : Int32), rv o_MANDATORY, rv o_JOIN] [] _
    refine XS.goto X2.here hx rfl (pc0 := 134) (pc' := 163) rfl (hb hby at_134) (by decide) (by decide) ?_
    refine XS.aload X2.here hx rfl (hb hby at_163) rfl rfl ?_
    refine XS.iloadN X2.here hx rfl (hb hby at_165) rfl ?_
    show SS p e below T2 m 166 #[iv p1, iv p2, iv (4 : Int32), iv (1 : Int32), rv o_MANDATORY, rv o_JOIN] [(.int (1 : Int32)), (.ref o_MANDATORY)] _
    refine st3 _ ?_
    show SS p e below T3 m 169 #[iv p1, iv p2, iv (4 : Int32), iv (1 : Int32), rv o_MANDATORY, rv o_JOIN] [(.ref o_JOIN)] _
    refine XS.aload X3.here hx rfl (hb hby at_169) rfl rfl ?_
    show SS p e below T3 m 171 #[iv p1, iv p2, iv (4 : Int32), iv (1 : Int32), rv o_MANDATORY, rv o_JOIN] [(.ref o_JOIN), (.ref o_JOIN)] _
    refine Jvm.RoadKit.acmp (g := (mkF m 171 #[iv p1, iv p2, iv (4 : Int32), iv (1 : Int32), rv o_MANDATORY, rv o_JOIN] [(.ref o_JOIN), (.ref o_JOIN)])) X3 hx rfl rfl rfl (pc0 := 171) (pc' := 174) (same := true) rfl (hb hby at_171) rfl (decide_eq_true rfl) (by decide) (by decide) ?_
    show SS p e below T3 m 174 #[iv p1, iv p2, iv (4 : Int32), iv (1 : Int32), rv o_MANDATORY, rv o_JOIN] [] _
    refine XS.iconst X3.here hx rfl (hb hby at_174) ?_
    refine XS.goto X3.here hx rfl (pc0 := 175) (pc' := 179) rfl (hb hby at_175) (by decide) (by decide) ?_
    show SS p e below T3 m 179 #[iv p1, iv p2, iv (4 : Int32), iv (1 : Int32), rv o_MANDATORY, rv o_JOIN] [(.int (1 : Int32))] _
    exact retN X3 hx (t := .boolean) hret (by simp) (hb hby at_179) hr
set_option maxRecDepth 65536 in
set_option maxHeartbeats 40000000 in
theorem rm0_5_0 (l : Launch) (Z : State) (a0 : Array Value) (hw : HW Z a0) (ws : List Jvm.Cond) (p1 : Int32) (p2 : Int32) (o_NOT_SUPPORTED : Addr) (o_WITHOUT : Addr) (o_REQUIRED : Addr) (o_JOIN : Addr) (o_BEGIN : Addr) (o_MANDATORY : Addr) (o_SUPPORTS : Addr) (o_NEVER : Addr) (o_REQUIRES_NEW : Addr) (h0 : Heap) (n0 : Nat) (O0 : Old Z n0 h0) (S_o_NOT_SUPPORTED : SA5 Z Z.heap (.ref o_NOT_SUPPORTED)) (E_o_NOT_SUPPORTED : EA3 Z Z.heap o_NOT_SUPPORTED) (S_o_WITHOUT : SA6 Z Z.heap (.ref o_WITHOUT)) (E_o_WITHOUT : EA4 Z Z.heap o_WITHOUT) (S_o_REQUIRED : SA7 Z Z.heap (.ref o_REQUIRED)) (E_o_REQUIRED : EA3 Z Z.heap o_REQUIRED) (S_o_JOIN : SA8 Z Z.heap (.ref o_JOIN)) (E_o_JOIN : EA4 Z Z.heap o_JOIN) (S_o_BEGIN : SA9 Z Z.heap (.ref o_BEGIN)) (E_o_BEGIN : EA4 Z Z.heap o_BEGIN) (S_o_MANDATORY : SA10 Z Z.heap (.ref o_MANDATORY)) (E_o_MANDATORY : EA3 Z Z.heap o_MANDATORY) (S_o_SUPPORTS : SA11 Z Z.heap (.ref o_SUPPORTS)) (E_o_SUPPORTS : EA3 Z Z.heap o_SUPPORTS) (S_o_NEVER : SA12 Z Z.heap (.ref o_NEVER)) (E_o_NEVER : EA3 Z Z.heap o_NEVER) (S_o_REQUIRES_NEW : SA13 Z Z.heap (.ref o_REQUIRES_NEW)) (E_o_REQUIRES_NEW : EA3 Z Z.heap o_REQUIRES_NEW) (F_o_NOT_SUPPORTED_withCallersTransaction : FA2 Z Z.heap o_NOT_SUPPORTED (.ref o_WITHOUT)) (F_o_REQUIRED_withCallersTransaction : FA2 Z Z.heap o_REQUIRED (.ref o_JOIN)) (F_o_REQUIRED_withoutCallersTransaction : FA1 Z Z.heap o_REQUIRED (.ref o_BEGIN)) (F_o_MANDATORY_withoutCallersTransaction : FA1 Z Z.heap o_MANDATORY .null) (F_o_SUPPORTS_withCallersTransaction : FA2 Z Z.heap o_SUPPORTS (.ref o_JOIN)) (F_o_NOT_SUPPORTED_withoutCallersTransaction : FA1 Z Z.heap o_NOT_SUPPORTED (.ref o_WITHOUT)) (F_o_NEVER_withoutCallersTransaction : FA1 Z Z.heap o_NEVER (.ref o_WITHOUT)) (F_o_REQUIRES_NEW_withCallersTransaction : FA2 Z Z.heap o_REQUIRES_NEW (.ref o_BEGIN)) (F_o_REQUIRES_NEW_withoutCallersTransaction : FA1 Z Z.heap o_REQUIRES_NEW (.ref o_BEGIN)) (F_o_SUPPORTS_withoutCallersTransaction : FA1 Z Z.heap o_SUPPORTS (.ref o_WITHOUT)) (F_o_MANDATORY_withCallersTransaction : FA2 Z Z.heap o_MANDATORY (.ref o_JOIN)) (F_o_NEVER_withCallersTransaction : FA2 Z Z.heap o_NEVER .null) (hs : ((p1 &&& (2147483647 : Int32)) % (6 : Int32)) = (5 : Int32)) (hf : (p2 &&& (1 : Int32)) = (0 : Int32)) :
    Met l Z ws x code maxLocals ret room_1 #[(.int p1), (.int p2)] h0 (fun v _ L => Q0 n0 v L) := by
  have W := fun (i : Nat) {c : Jvm.Cond} (q : tables_1[i]? = some c) => hw c (List.mem_of_getElem? q)
  refine own_mk (plainFor_of_name pn_9) ?_
  intro p e s m below meth c s₁ hZ hx hby hml hown hnm hret hlk X0 e0
  have N0 := Fr.nil n0
  obtain ⟨T1, X1, e1, st1⟩ := getS2 X0 hx hZ hown (host := "") (Or.inl (W 26 rfl)) Via.refl e0 (S_o_NEVER.ext O0.2) (g := (mkF m 143 #[iv p1, iv p2, iv (5 : Int32), iv (0 : Int32), .unset, .unset] [])) rfl (hb hby at_143)
  obtain ⟨T2, X2, e2, st2⟩ := getS2 X1 hx hZ hown (host := "") (Or.inl (W 4 rfl)) Via.refl e1 (S_o_WITHOUT.ext O0.2) (g := (mkF m 158 #[iv p1, iv p2, iv (5 : Int32), iv (0 : Int32), rv o_NEVER, .unset] [])) rfl (hb hby at_158)
  obtain ⟨_, T3, L3, X3, hQ3, st3⟩ := own_cv X2 hx hZ hown hml (W 7 rfl) (W 8 rfl) (notFace_of_selects (W 10 rfl)) (W 10 rfl) (W 9 rfl) (W 2 rfl) (W 11 rfl) (rm1_demarcation l Z a0 hw o_NEVER o_WITHOUT h0 n0 O0 (F_o_NEVER_withoutCallersTransaction)) e2 (E_o_NEVER.ext O0.2) (hb hby at_166) 0 #[iv p1, iv p2, iv (5 : Int32), iv (0 : Int32), rv o_NEVER, rv o_WITHOUT] [(.int (0 : Int32))] [] pd_7 (by decide) rfl rfl rfl (Nat.le_of_eq rfl)
  obtain ⟨rfl, N3q, K3⟩ := hQ3
  have N4 := Fr.app N0 N3q
  refine ⟨T3, some (.int (1 : Int32)), _, _, _, X3, by decide, by decide, nofun, ?_, fun fs hr => castTop (ef_8 m p1 p2) ?_⟩
  · exact ⟨rfl, N4⟩
  · show SS p e below s₁ m 0 #[iv p1, iv p2, .unset, .unset, .unset, .unset] [] _
    refine XS.iloadN X0.here hx rfl (hb hby at_0) rfl ?_
    show SS p e below s₁ m 1 #[iv p1, iv p2, .unset, .unset, .unset, .unset] [(.int p1)] _
    refine X0.ldcInt hx hown (mvT hZ (W 0 rfl)) (g := (mkF m 1 #[iv p1, iv p2, .unset, .unset, .unset, .unset] [(.int p1)])) rfl (hb hby at_1) _ ?_
    show SS p e below s₁ m 3 #[iv p1, iv p2, .unset, .unset, .unset, .unset] [(.int (2147483647 : Int32)), (.int p1)] _
    refine XS.iand X0.here hx rfl (hb hby at_3) rfl ?_
    show SS p e below s₁ m 4 #[iv p1, iv p2, .unset, .unset, .unset, .unset] [(.int (p1 &&& (2147483647 : Int32)))] _
    refine XS.bipush X0.here hx rfl (hb hby at_4) ?_
    show SS p e below s₁ m 6 #[iv p1, iv p2, .unset, .unset, .unset, .unset] [(.int (6 : Int32)), (.int (p1 &&& (2147483647 : Int32)))] _
    refine iremM (g := (mkF m 6 #[iv p1, iv p2, .unset, .unset, .unset, .unset] [(.int (6 : Int32)), (.int (p1 &&& (2147483647 : Int32)))])) X0 hx rfl (hb hby at_6) rfl (by decide : ¬ ((6 : Int32) = (0 : Int32))) ?_
    rw [hs]
    show SS p e below s₁ m 7 #[iv p1, iv p2, .unset, .unset, .unset, .unset] [(.int (5 : Int32))] _
    refine XS.istoreN X0.here hx rfl (hb hby at_7) rfl (l' := #[iv p1, iv p2, iv (5 : Int32), .unset, .unset, .unset]) rfl ?_
    show SS p e below s₁ m 8 #[iv p1, iv p2, iv (5 : Int32), .unset, .unset, .unset] [] _
    refine XS.iloadN X0.here hx rfl (hb hby at_8) rfl ?_
    refine XS.iconst X0.here hx rfl (hb hby at_9) ?_
    show SS p e below s₁ m 10 #[iv p1, iv p2, iv (5 : Int32), .unset, .unset, .unset] [(.int (1 : Int32)), (.int p2)] _
    refine XS.iand X0.here hx rfl (hb hby at_10) rfl ?_
    rw [hf]
    show SS p e below s₁ m 11 #[iv p1, iv p2, iv (5 : Int32), .unset, .unset, .unset] [(.int (0 : Int32))] _
    refine XS.ifYes X0.here hx rfl (pc0 := 11) (pc' := 18) rfl (hb hby at_11) rfl ((if0 _ _).trans (teq (by decide : (0 : Int32) = (0 : Int32))).1) (by decide) (by decide) ?_
    show SS p e below s₁ m 18 #[iv p1, iv p2, iv (5 : Int32), .unset, .unset, .unset] [] _
    refine XS.iconst X0.here hx rfl (hb hby at_18) ?_
    show SS p e below s₁ m 19 #[iv p1, iv p2, iv (5 : Int32), .unset, .unset, .unset] [(.int (0 : Int32))] _
    refine XS.istoreN X0.here hx rfl (hb hby at_19) rfl (l' := #[iv p1, iv p2, iv (5 : Int32), iv (0 : Int32), .unset, .unset]) rfl ?_
    show SS p e below s₁ m 20 #[iv p1, iv p2, iv (5 : Int32), iv (0 : Int32), .unset, .unset] [] _
    refine XS.iloadN X0.here hx rfl (hb hby at_20) rfl ?_
    show SS p e below s₁ m 21 #[iv p1, iv p2, iv (5 : Int32), iv (0 : Int32), .unset, .unset] [(.int (5 : Int32))] _
    refine XS.ifYes X0.here hx rfl (pc0 := 21) (pc' := 37) rfl (hb hby at_21) rfl ((if0 _ _).trans (feq (by decide : ¬ ((5 : Int32) = (0 : Int32)))).2) (by decide) (by decide) ?_
    show SS p e below s₁ m 37 #[iv p1, iv p2, iv (5 : Int32), iv (0 : Int32), .unset, .unset] [] _
    refine XS.iloadN X0.here hx rfl (hb hby at_37) rfl ?_
    refine XS.iconst X0.here hx rfl (hb hby at_38) ?_
    show SS p e below s₁ m 39 #[iv p1, iv p2, iv (5 : Int32), iv (0 : Int32), .unset, .unset] [(.int (1 : Int32)), (.int (5 : Int32))] _
    refine XS.icmpYes X0.here hx rfl (pc0 := 39) (pc' := 67) rfl (hb hby at_39) rfl (feq (by decide : ¬ ((5 : Int32) = (1 : Int32)))).2 (by decide) (by decide) ?_
    show SS p e below s₁ m 67 #[iv p1, iv p2, iv (5 : Int32), iv (0 : Int32), .unset, .unset] [] _
    refine XS.iloadN X0.here hx rfl (hb hby at_67) rfl ?_
    refine XS.iconst X0.here hx rfl (hb hby at_68) ?_
    show SS p e below s₁ m 69 #[iv p1, iv p2, iv (5 : Int32), iv (0 : Int32), .unset, .unset] [(.int (2 : Int32)), (.int (5 : Int32))] _
    refine XS.icmpYes X0.here hx rfl (pc0 := 69) (pc' := 97) rfl (hb hby at_69) rfl (feq (by decide : ¬ ((5 : Int32) = (2 : Int32)))).2 (by decide) (by decide) ?_
    show SS p e below s₁ m 97 #[iv p1, iv p2, iv (5 : Int32), iv (0 : Int32), .unset, .unset] [] _
    refine XS.iloadN X0.here hx rfl (hb hby at_97) rfl ?_
    refine XS.iconst X0.here hx rfl (hb hby at_98) ?_
    show SS p e below s₁ m 99 #[iv p1, iv p2, iv (5 : Int32), iv (0 : Int32), .unset, .unset] [(.int (3 : Int32)), (.int (5 : Int32))] _
    refine XS.icmpYes X0.here hx rfl (pc0 := 99) (pc' := 115) rfl (hb hby at_99) rfl (feq (by decide : ¬ ((5 : Int32) = (3 : Int32)))).2 (by decide) (by decide) ?_
    show SS p e below s₁ m 115 #[iv p1, iv p2, iv (5 : Int32), iv (0 : Int32), .unset, .unset] [] _
    refine XS.iloadN X0.here hx rfl (hb hby at_115) rfl ?_
    refine XS.iconst X0.here hx rfl (hb hby at_116) ?_
    show SS p e below s₁ m 117 #[iv p1, iv p2, iv (5 : Int32), iv (0 : Int32), .unset, .unset] [(.int (4 : Int32)), (.int (5 : Int32))] _
    refine XS.icmpYes X0.here hx rfl (pc0 := 117) (pc' := 143) rfl (hb hby at_117) rfl (feq (by decide : ¬ ((5 : Int32) = (4 : Int32)))).2 (by decide) (by decide) ?_
    show SS p e below s₁ m 143 #[iv p1, iv p2, iv (5 : Int32), iv (0 : Int32), .unset, .unset] [] _
    refine st1 _ ?_
    show SS p e below T1 m 146 #[iv p1, iv p2, iv (5 : Int32), iv (0 : Int32), .unset, .unset] [(.ref o_NEVER)] _
    refine XS.astore X1.here hx rfl (hb hby at_146) rfl rfl (l' := #[iv p1, iv p2, iv (5 : Int32), iv (0 : Int32), rv o_NEVER, .unset]) rfl ?_
    show SS p e below T1 m 148 #[iv p1, iv p2, iv (5 : Int32), iv (0 : Int32), rv o_NEVER, .unset] [] _
    refine XS.iloadN X1.here hx rfl (hb hby at_148) rfl ?_
    show SS p e below T1 m 149 #[iv p1, iv p2, iv (5 : Int32), iv (0 : Int32), rv o_NEVER, .unset] [(.int (0 : Int32))] _
    refine XS.ifYes X1.here hx rfl (pc0 := 149) (pc' := 158) rfl (hb hby at_149) rfl ((if0 _ _).trans (teq (by decide : (0 : Int32) = (0 : Int32))).1) (by decide) (by decide) ?_
    show SS p e below T1 m 158 #[iv p1, iv p2, iv (5 : Int32), iv (0 : Int32), rv o_NEVER, .unset] [] _
    refine st2 _ ?_
    show SS p e below T2 m 161 #[iv p1, iv p2, iv (5 : Int32), iv (0 : Int32), rv o_NEVER, .unset] [(.ref o_WITHOUT)] _
    refine XS.astore X2.here hx rfl (hb hby at_161) rfl rfl (l' := #[iv p1, iv p2, iv (5 : Int32), iv (0 : Int32), rv o_NEVER, rv o_WITHOUT]) rfl ?_
    show SS p e below T2 m 163 #[iv p1, iv p2, iv (5 : Int32), iv (0 : Int32), rv o_NEVER, rv o_WITHOUT] [] _
    refine XS.aload X2.here hx rfl (hb hby at_163) rfl rfl ?_
    refine XS.iloadN X2.here hx rfl (hb hby at_165) rfl ?_
    show SS p e below T2 m 166 #[iv p1, iv p2, iv (5 : Int32), iv (0 : Int32), rv o_NEVER, rv o_WITHOUT] [(.int (0 : Int32)), (.ref o_NEVER)] _
    refine st3 _ ?_
    show SS p e below T3 m 169 #[iv p1, iv p2, iv (5 : Int32), iv (0 : Int32), rv o_NEVER, rv o_WITHOUT] [(.ref o_WITHOUT)] _
    refine XS.aload X3.here hx rfl (hb hby at_169) rfl rfl ?_
    show SS p e below T3 m 171 #[iv p1, iv p2, iv (5 : Int32), iv (0 : Int32), rv o_NEVER, rv o_WITHOUT] [(.ref o_WITHOUT), (.ref o_WITHOUT)] _
    refine Jvm.RoadKit.acmp (g := (mkF m 171 #[iv p1, iv p2, iv (5 : Int32), iv (0 : Int32), rv o_NEVER, rv o_WITHOUT] [(.ref o_WITHOUT), (.ref o_WITHOUT)])) X3 hx rfl rfl rfl (pc0 := 171) (pc' := 174) (same := true) rfl (hb hby at_171) rfl (decide_eq_true rfl) (by decide) (by decide) ?_
    show SS p e below T3 m 174 #[iv p1, iv p2, iv (5 : Int32), iv (0 : Int32), rv o_NEVER, rv o_WITHOUT] [] _
    refine XS.iconst X3.here hx rfl (hb hby at_174) ?_
    refine XS.goto X3.here hx rfl (pc0 := 175) (pc' := 179) rfl (hb hby at_175) (by decide) (by decide) ?_
    show SS p e below T3 m 179 #[iv p1, iv p2, iv (5 : Int32), iv (0 : Int32), rv o_NEVER, rv o_WITHOUT] [(.int (1 : Int32))] _
    exact retN X3 hx (t := .boolean) hret (by simp) (hb hby at_179) hr
-- com/example/beanhive/beanhive/TransAttribute.demarcation(Z)Lcom/example/beanhive/beanhive/Demarcation;
def Q4_demarcation (Z : State) (a1 : Addr) (h0 : Heap) (n0 : Nat) (v : Option Value) (h : Heap) (L : List Loc) : Prop := v = some .null ∧ Fr n0 L ∧ h = h0
set_option maxRecDepth 65536 in
set_option maxHeartbeats 40000000 in
theorem rm4_demarcation (l : Launch) (Z : State) (a0 : Array Value) (hw : HW Z a0) (a1 : Addr) (h0 : Heap) (n0 : Nat) (O0 : Old Z n0 h0) (F_0 : FA2 Z Z.heap a1 .null) :
    Met l Z [] Y0 prog_46_method_5_code 2 (some (.object "com/example/beanhive/beanhive/Demarcation")) ({ frames := 0, cells := 0, slots := 0, locals := 0 } : Room) #[(.ref a1), (.int (1 : Int32))] h0 (Q4_demarcation Z a1 h0 n0) := by
  have W := fun (i : Nat) {c : Jvm.Cond} (q : tables_1[i]? = some c) => hw c (List.mem_of_getElem? q)
  refine own_mk (plainFor_of_name pn_6) ?_
  intro p e s m below meth c s₁ hZ hx hby hml hown hnm hret hlk X0 e0
  have N0 := Fr.nil n0
  obtain ⟨T1, X1, e1, st1⟩ := getF X0 hx hZ hown (host := "") (Or.inl (W 12 rfl)) Via.refl e0 (F_0.ext O0.2) (g := (mkF m 5 #[rv a1, iv (1 : Int32)] [(.ref a1)])) rfl rfl (hb hby d_11)
  refine ⟨T1, some .null, _, _, _, X1, by decide, by decide, nofun, ?_, fun fs hr => castTop (ef_13 m a1) ?_⟩
  · show Q4_demarcation Z a1 h0 n0 _ T1.heap _
    rw [e1]
    exact ⟨rfl, N0, rfl⟩
  · show SS p e below s₁ m 0 #[rv a1, iv (1 : Int32)] [] _
    refine XS.iloadN X0.here hx rfl (hb hby d_0) rfl ?_
    show SS p e below s₁ m 1 #[rv a1, iv (1 : Int32)] [(.int (1 : Int32))] _
    refine XS.ifNo X0.here hx rfl (hb hby d_1) rfl ((if0 _ _).trans (feq (by decide : ¬ ((1 : Int32) = (0 : Int32)))).1) ?_
    show SS p e below s₁ m 4 #[rv a1, iv (1 : Int32)] [] _
    refine XS.aloadN X0.here hx rfl (hb hby d_10) rfl rfl ?_
    show SS p e below s₁ m 5 #[rv a1, iv (1 : Int32)] [(.ref a1)] _
    refine st1 _ ?_
    show SS p e below T1 m 8 #[rv a1, iv (1 : Int32)] [.null] _
    refine XS.goto X1.here hx rfl (pc0 := 8) (pc' := 15) rfl (hb hby d_12) (by decide) (by decide) ?_
    show SS p e below T1 m 15 #[rv a1, iv (1 : Int32)] [.null] _
    exact retOut X1 hx hret rfl (Or.inr (Or.inr (Or.inr (Or.inr ⟨rfl, rfl, rfl⟩)))) (hb hby d_4) hr
set_option maxRecDepth 65536 in
set_option maxHeartbeats 40000000 in
theorem rm0_5_1 (l : Launch) (Z : State) (a0 : Array Value) (hw : HW Z a0) (ws : List Jvm.Cond) (p1 : Int32) (p2 : Int32) (o_NOT_SUPPORTED : Addr) (o_WITHOUT : Addr) (o_REQUIRED : Addr) (o_JOIN : Addr) (o_BEGIN : Addr) (o_MANDATORY : Addr) (o_SUPPORTS : Addr) (o_NEVER : Addr) (o_REQUIRES_NEW : Addr) (h0 : Heap) (n0 : Nat) (O0 : Old Z n0 h0) (S_o_NOT_SUPPORTED : SA5 Z Z.heap (.ref o_NOT_SUPPORTED)) (E_o_NOT_SUPPORTED : EA3 Z Z.heap o_NOT_SUPPORTED) (S_o_WITHOUT : SA6 Z Z.heap (.ref o_WITHOUT)) (E_o_WITHOUT : EA4 Z Z.heap o_WITHOUT) (S_o_REQUIRED : SA7 Z Z.heap (.ref o_REQUIRED)) (E_o_REQUIRED : EA3 Z Z.heap o_REQUIRED) (S_o_JOIN : SA8 Z Z.heap (.ref o_JOIN)) (E_o_JOIN : EA4 Z Z.heap o_JOIN) (S_o_BEGIN : SA9 Z Z.heap (.ref o_BEGIN)) (E_o_BEGIN : EA4 Z Z.heap o_BEGIN) (S_o_MANDATORY : SA10 Z Z.heap (.ref o_MANDATORY)) (E_o_MANDATORY : EA3 Z Z.heap o_MANDATORY) (S_o_SUPPORTS : SA11 Z Z.heap (.ref o_SUPPORTS)) (E_o_SUPPORTS : EA3 Z Z.heap o_SUPPORTS) (S_o_NEVER : SA12 Z Z.heap (.ref o_NEVER)) (E_o_NEVER : EA3 Z Z.heap o_NEVER) (S_o_REQUIRES_NEW : SA13 Z Z.heap (.ref o_REQUIRES_NEW)) (E_o_REQUIRES_NEW : EA3 Z Z.heap o_REQUIRES_NEW) (F_o_NOT_SUPPORTED_withCallersTransaction : FA2 Z Z.heap o_NOT_SUPPORTED (.ref o_WITHOUT)) (F_o_REQUIRED_withCallersTransaction : FA2 Z Z.heap o_REQUIRED (.ref o_JOIN)) (F_o_REQUIRED_withoutCallersTransaction : FA1 Z Z.heap o_REQUIRED (.ref o_BEGIN)) (F_o_MANDATORY_withoutCallersTransaction : FA1 Z Z.heap o_MANDATORY .null) (F_o_SUPPORTS_withCallersTransaction : FA2 Z Z.heap o_SUPPORTS (.ref o_JOIN)) (F_o_NOT_SUPPORTED_withoutCallersTransaction : FA1 Z Z.heap o_NOT_SUPPORTED (.ref o_WITHOUT)) (F_o_NEVER_withoutCallersTransaction : FA1 Z Z.heap o_NEVER (.ref o_WITHOUT)) (F_o_REQUIRES_NEW_withCallersTransaction : FA2 Z Z.heap o_REQUIRES_NEW (.ref o_BEGIN)) (F_o_REQUIRES_NEW_withoutCallersTransaction : FA1 Z Z.heap o_REQUIRES_NEW (.ref o_BEGIN)) (F_o_SUPPORTS_withoutCallersTransaction : FA1 Z Z.heap o_SUPPORTS (.ref o_WITHOUT)) (F_o_MANDATORY_withCallersTransaction : FA2 Z Z.heap o_MANDATORY (.ref o_JOIN)) (F_o_NEVER_withCallersTransaction : FA2 Z Z.heap o_NEVER .null) (hs : ((p1 &&& (2147483647 : Int32)) % (6 : Int32)) = (5 : Int32)) (hf : (p2 &&& (1 : Int32)) = (1 : Int32)) :
    Met l Z ws x code maxLocals ret room_1 #[(.int p1), (.int p2)] h0 (fun v _ L => Q0 n0 v L) := by
  have W := fun (i : Nat) {c : Jvm.Cond} (q : tables_1[i]? = some c) => hw c (List.mem_of_getElem? q)
  refine own_mk (plainFor_of_name pn_9) ?_
  intro p e s m below meth c s₁ hZ hx hby hml hown hnm hret hlk X0 e0
  have N0 := Fr.nil n0
  obtain ⟨T1, X1, e1, st1⟩ := getS2 X0 hx hZ hown (host := "") (Or.inl (W 26 rfl)) Via.refl e0 (S_o_NEVER.ext O0.2) (g := (mkF m 143 #[iv p1, iv p2, iv (5 : Int32), iv (1 : Int32), .unset, .unset] [])) rfl (hb hby at_143)
  obtain ⟨_, T2, L2, X2, hQ2, st2⟩ := own_cv X1 hx hZ hown hml (W 7 rfl) (W 8 rfl) (notFace_of_selects (W 10 rfl)) (W 10 rfl) (W 9 rfl) (W 2 rfl) (W 11 rfl) (rm4_demarcation l Z a0 hw o_NEVER h0 n0 O0 (F_o_NEVER_withCallersTransaction)) e1 (E_o_NEVER.ext O0.2) (hb hby at_166) 0 #[iv p1, iv p2, iv (5 : Int32), iv (1 : Int32), rv o_NEVER, .val .null] [(.int (1 : Int32))] [] pd_7 (by decide) rfl rfl rfl (Nat.le_of_eq rfl)
  obtain ⟨rfl, N2q, K2⟩ := hQ2
  have N3 := Fr.app N0 N2q
  refine ⟨T2, some (.int (1 : Int32)), _, _, _, X2, by decide, by decide, nofun, ?_, fun fs hr => castTop (ef_8 m p1 p2) ?_⟩
  · exact ⟨rfl, N3⟩
  · show SS p e below s₁ m 0 #[iv p1, iv p2, .unset, .unset, .unset, .unset] [] _
    refine XS.iloadN X0.here hx rfl (hb hby at_0) rfl ?_
    show SS p e below s₁ m 1 #[iv p1, iv p2, .unset, .unset, .unset, .unset] [(.int p1)] _
    refine X0.ldcInt hx hown (mvT hZ (W 0 rfl)) (g := (mkF m 1 #[iv p1, iv p2, .unset, .unset, .unset, .unset] [(.int p1)])) rfl (hb hby at_1) _ ?_
    show SS p e below s₁ m 3 #[iv p1, iv p2, .unset, .unset, .unset, .unset] [(.int (2147483647 : Int32)), (.int p1)] _
    refine XS.iand X0.here hx rfl (hb hby at_3) rfl ?_
    show SS p e below s₁ m 4 #[iv p1, iv p2, .unset, .unset, .unset, .unset] [(.int (p1 &&& (2147483647 : Int32)))] _
    refine XS.bipush X0.here hx rfl (hb hby at_4) ?_
    show SS p e below s₁ m 6 #[iv p1, iv p2, .unset, .unset, .unset, .unset] [(.int (6 : Int32)), (.int (p1 &&& (2147483647 : Int32)))] _
    refine iremM (g := (mkF m 6 #[iv p1, iv p2, .unset, .unset, .unset, .unset] [(.int (6 : Int32)), (.int (p1 &&& (2147483647 : Int32)))])) X0 hx rfl (hb hby at_6) rfl (by decide : ¬ ((6 : Int32) = (0 : Int32))) ?_
    rw [hs]
    show SS p e below s₁ m 7 #[iv p1, iv p2, .unset, .unset, .unset, .unset] [(.int (5 : Int32))] _
    refine XS.istoreN X0.here hx rfl (hb hby at_7) rfl (l' := #[iv p1, iv p2, iv (5 : Int32), .unset, .unset, .unset]) rfl ?_
    show SS p e below s₁ m 8 #[iv p1, iv p2, iv (5 : Int32), .unset, .unset, .unset] [] _
    refine XS.iloadN X0.here hx rfl (hb hby at_8) rfl ?_
    refine XS.iconst X0.here hx rfl (hb hby at_9) ?_
    show SS p e below s₁ m 10 #[iv p1, iv p2, iv (5 : Int32), .unset, .unset, .unset] [(.int (1 : Int32)), (.int p2)] _
    refine XS.iand X0.here hx rfl (hb hby at_10) rfl ?_
    rw [hf]
    show SS p e below s₁ m 11 #[iv p1, iv p2, iv (5 : Int32), .unset, .unset, .unset] [(.int (1 : Int32))] _
    refine XS.ifNo X0.here hx rfl (hb hby at_11) rfl ((if0 _ _).trans (feq (by decide : ¬ ((1 : Int32) = (0 : Int32)))).1) ?_
    show SS p e below s₁ m 14 #[iv p1, iv p2, iv (5 : Int32), .unset, .unset, .unset] [] _
    refine XS.iconst X0.here hx rfl (hb hby at_14) ?_
    refine XS.goto X0.here hx rfl (pc0 := 15) (pc' := 19) rfl (hb hby at_15) (by decide) (by decide) ?_
    show SS p e below s₁ m 19 #[iv p1, iv p2, iv (5 : Int32), .unset, .unset, .unset] [(.int (1 : Int32))] _
    refine XS.istoreN X0.here hx rfl (hb hby at_19) rfl (l' := #[iv p1, iv p2, iv (5 : Int32), iv (1 : Int32), .unset, .unset]) rfl ?_
    show SS p e below s₁ m 20 #[iv p1, iv p2, iv (5 : Int32), iv (1 : Int32), .unset, .unset] [] _
    refine XS.iloadN X0.here hx rfl (hb hby at_20) rfl ?_
    show SS p e below s₁ m 21 #[iv p1, iv p2, iv (5 : Int32), iv (1 : Int32), .unset, .unset] [(.int (5 : Int32))] _
    refine XS.ifYes X0.here hx rfl (pc0 := 21) (pc' := 37) rfl (hb hby at_21) rfl ((if0 _ _).trans (feq (by decide : ¬ ((5 : Int32) = (0 : Int32)))).2) (by decide) (by decide) ?_
    show SS p e below s₁ m 37 #[iv p1, iv p2, iv (5 : Int32), iv (1 : Int32), .unset, .unset] [] _
    refine XS.iloadN X0.here hx rfl (hb hby at_37) rfl ?_
    refine XS.iconst X0.here hx rfl (hb hby at_38) ?_
    show SS p e below s₁ m 39 #[iv p1, iv p2, iv (5 : Int32), iv (1 : Int32), .unset, .unset] [(.int (1 : Int32)), (.int (5 : Int32))] _
    refine XS.icmpYes X0.here hx rfl (pc0 := 39) (pc' := 67) rfl (hb hby at_39) rfl (feq (by decide : ¬ ((5 : Int32) = (1 : Int32)))).2 (by decide) (by decide) ?_
    show SS p e below s₁ m 67 #[iv p1, iv p2, iv (5 : Int32), iv (1 : Int32), .unset, .unset] [] _
    refine XS.iloadN X0.here hx rfl (hb hby at_67) rfl ?_
    refine XS.iconst X0.here hx rfl (hb hby at_68) ?_
    show SS p e below s₁ m 69 #[iv p1, iv p2, iv (5 : Int32), iv (1 : Int32), .unset, .unset] [(.int (2 : Int32)), (.int (5 : Int32))] _
    refine XS.icmpYes X0.here hx rfl (pc0 := 69) (pc' := 97) rfl (hb hby at_69) rfl (feq (by decide : ¬ ((5 : Int32) = (2 : Int32)))).2 (by decide) (by decide) ?_
    show SS p e below s₁ m 97 #[iv p1, iv p2, iv (5 : Int32), iv (1 : Int32), .unset, .unset] [] _
    refine XS.iloadN X0.here hx rfl (hb hby at_97) rfl ?_
    refine XS.iconst X0.here hx rfl (hb hby at_98) ?_
    show SS p e below s₁ m 99 #[iv p1, iv p2, iv (5 : Int32), iv (1 : Int32), .unset, .unset] [(.int (3 : Int32)), (.int (5 : Int32))] _
    refine XS.icmpYes X0.here hx rfl (pc0 := 99) (pc' := 115) rfl (hb hby at_99) rfl (feq (by decide : ¬ ((5 : Int32) = (3 : Int32)))).2 (by decide) (by decide) ?_
    show SS p e below s₁ m 115 #[iv p1, iv p2, iv (5 : Int32), iv (1 : Int32), .unset, .unset] [] _
    refine XS.iloadN X0.here hx rfl (hb hby at_115) rfl ?_
    refine XS.iconst X0.here hx rfl (hb hby at_116) ?_
    show SS p e below s₁ m 117 #[iv p1, iv p2, iv (5 : Int32), iv (1 : Int32), .unset, .unset] [(.int (4 : Int32)), (.int (5 : Int32))] _
    refine XS.icmpYes X0.here hx rfl (pc0 := 117) (pc' := 143) rfl (hb hby at_117) rfl (feq (by decide : ¬ ((5 : Int32) = (4 : Int32)))).2 (by decide) (by decide) ?_
    show SS p e below s₁ m 143 #[iv p1, iv p2, iv (5 : Int32), iv (1 : Int32), .unset, .unset] [] _
    refine st1 _ ?_
    show SS p e below T1 m 146 #[iv p1, iv p2, iv (5 : Int32), iv (1 : Int32), .unset, .unset] [(.ref o_NEVER)] _
    refine XS.astore X1.here hx rfl (hb hby at_146) rfl rfl (l' := #[iv p1, iv p2, iv (5 : Int32), iv (1 : Int32), rv o_NEVER, .unset]) rfl ?_
    show SS p e below T1 m 148 #[iv p1, iv p2, iv (5 : Int32), iv (1 : Int32), rv o_NEVER, .unset] [] _
    refine XS.iloadN X1.here hx rfl (hb hby at_148) rfl ?_
    show SS p e below T1 m 149 #[iv p1, iv p2, iv (5 : Int32), iv (1 : Int32), rv o_NEVER, .unset] [(.int (1 : Int32))] _
    refine XS.ifNo X1.here hx rfl (hb hby at_149) rfl ((if0 _ _).trans (feq (by decide : ¬ ((1 : Int32) = (0 : Int32)))).1) ?_
    show SS p e below T1 m 152 #[iv p1, iv p2, iv (5 : Int32), iv (1 : Int32), rv o_NEVER, .unset] [] _
    refine XS.aconstNull X1.here hx rfl (hb hby at_152) ?_
    show SS p e below T1 m 153 #[iv p1, iv p2, iv (5 : Int32), iv (1 : Int32), rv o_NEVER, .unset] [.null] _
    refine XS.astore X1.here hx rfl (hb hby at_153) rfl rfl (l' := #[iv p1, iv p2, iv (5 : Int32), iv (1 : Int32), rv o_NEVER, .val .null]) rfl ?_
    show SS p e below T1 m 155 #[iv p1, iv p2, iv (5 : Int32), iv (1 : Int32), rv o_NEVER, .val .null] [] _
    refine XS.goto X1.here hx rfl (pc0 := 155) (pc' := 163) rfl (hb hby at_155) (by decide) (by decide) ?_
    refine XS.aload X1.here hx rfl (hb hby at_163) rfl rfl ?_
    refine XS.iloadN X1.here hx rfl (hb hby at_165) rfl ?_
    show SS p e below T1 m 166 #[iv p1, iv p2, iv (5 : Int32), iv (1 : Int32), rv o_NEVER, .val .null] [(.int (1 : Int32)), (.ref o_NEVER)] _
    refine st2 _ ?_
    show SS p e below T2 m 169 #[iv p1, iv p2, iv (5 : Int32), iv (1 : Int32), rv o_NEVER, .val .null] [.null] _
    refine XS.aload X2.here hx rfl (hb hby at_169) rfl rfl ?_
    show SS p e below T2 m 171 #[iv p1, iv p2, iv (5 : Int32), iv (1 : Int32), rv o_NEVER, .val .null] [.null, .null] _
    refine Jvm.RoadKit.acmp (g := (mkF m 171 #[iv p1, iv p2, iv (5 : Int32), iv (1 : Int32), rv o_NEVER, .val .null] [.null, .null])) X2 hx rfl rfl rfl (pc0 := 171) (pc' := 174) (same := true) rfl (hb hby at_171) rfl (decide_eq_true rfl) (by decide) (by decide) ?_
    show SS p e below T2 m 174 #[iv p1, iv p2, iv (5 : Int32), iv (1 : Int32), rv o_NEVER, .val .null] [] _
    refine XS.iconst X2.here hx rfl (hb hby at_174) ?_
    refine XS.goto X2.here hx rfl (pc0 := 175) (pc' := 179) rfl (hb hby at_175) (by decide) (by decide) ?_
    show SS p e below T2 m 179 #[iv p1, iv p2, iv (5 : Int32), iv (1 : Int32), rv o_NEVER, .val .null] [(.int (1 : Int32))] _
    exact retN X2 hx (t := .boolean) hret (by simp) (hb hby at_179) hr
theorem own_split (p1 : Int32) : ((p1 &&& (2147483647 : Int32)) % (6 : Int32)) = (0 : Int32) ∨ ((p1 &&& (2147483647 : Int32)) % (6 : Int32)) = (1 : Int32) ∨ ((p1 &&& (2147483647 : Int32)) % (6 : Int32)) = (2 : Int32) ∨ ((p1 &&& (2147483647 : Int32)) % (6 : Int32)) = (3 : Int32) ∨ ((p1 &&& (2147483647 : Int32)) % (6 : Int32)) = (4 : Int32) ∨ ((p1 &&& (2147483647 : Int32)) % (6 : Int32)) = (5 : Int32) := by
  have h1 := c_mask p1 2147483647 31 (by decide) (by decide)
  have h2 := (c_irem (p1 &&& 2147483647) 6 6 (by decide)).1 (by omega)
  simp only [← Int32.toInt_inj, h2, Int32.reduceToInt]
  omega
theorem rm0 (l : Launch) (Z : State) (a0 : Array Value) (hw : HW Z a0) (ws : List Jvm.Cond) (p1 : Int32) (p2 : Int32) (o_NOT_SUPPORTED : Addr) (o_WITHOUT : Addr) (o_REQUIRED : Addr) (o_JOIN : Addr) (o_BEGIN : Addr) (o_MANDATORY : Addr) (o_SUPPORTS : Addr) (o_NEVER : Addr) (o_REQUIRES_NEW : Addr) (h0 : Heap) (n0 : Nat) (O0 : Old Z n0 h0) (S_o_NOT_SUPPORTED : SA5 Z Z.heap (.ref o_NOT_SUPPORTED)) (E_o_NOT_SUPPORTED : EA3 Z Z.heap o_NOT_SUPPORTED) (S_o_WITHOUT : SA6 Z Z.heap (.ref o_WITHOUT)) (E_o_WITHOUT : EA4 Z Z.heap o_WITHOUT) (S_o_REQUIRED : SA7 Z Z.heap (.ref o_REQUIRED)) (E_o_REQUIRED : EA3 Z Z.heap o_REQUIRED) (S_o_JOIN : SA8 Z Z.heap (.ref o_JOIN)) (E_o_JOIN : EA4 Z Z.heap o_JOIN) (S_o_BEGIN : SA9 Z Z.heap (.ref o_BEGIN)) (E_o_BEGIN : EA4 Z Z.heap o_BEGIN) (S_o_MANDATORY : SA10 Z Z.heap (.ref o_MANDATORY)) (E_o_MANDATORY : EA3 Z Z.heap o_MANDATORY) (S_o_SUPPORTS : SA11 Z Z.heap (.ref o_SUPPORTS)) (E_o_SUPPORTS : EA3 Z Z.heap o_SUPPORTS) (S_o_NEVER : SA12 Z Z.heap (.ref o_NEVER)) (E_o_NEVER : EA3 Z Z.heap o_NEVER) (S_o_REQUIRES_NEW : SA13 Z Z.heap (.ref o_REQUIRES_NEW)) (E_o_REQUIRES_NEW : EA3 Z Z.heap o_REQUIRES_NEW) (F_o_NOT_SUPPORTED_withCallersTransaction : FA2 Z Z.heap o_NOT_SUPPORTED (.ref o_WITHOUT)) (F_o_REQUIRED_withCallersTransaction : FA2 Z Z.heap o_REQUIRED (.ref o_JOIN)) (F_o_REQUIRED_withoutCallersTransaction : FA1 Z Z.heap o_REQUIRED (.ref o_BEGIN)) (F_o_MANDATORY_withoutCallersTransaction : FA1 Z Z.heap o_MANDATORY .null) (F_o_SUPPORTS_withCallersTransaction : FA2 Z Z.heap o_SUPPORTS (.ref o_JOIN)) (F_o_NOT_SUPPORTED_withoutCallersTransaction : FA1 Z Z.heap o_NOT_SUPPORTED (.ref o_WITHOUT)) (F_o_NEVER_withoutCallersTransaction : FA1 Z Z.heap o_NEVER (.ref o_WITHOUT)) (F_o_REQUIRES_NEW_withCallersTransaction : FA2 Z Z.heap o_REQUIRES_NEW (.ref o_BEGIN)) (F_o_REQUIRES_NEW_withoutCallersTransaction : FA1 Z Z.heap o_REQUIRES_NEW (.ref o_BEGIN)) (F_o_SUPPORTS_withoutCallersTransaction : FA1 Z Z.heap o_SUPPORTS (.ref o_WITHOUT)) (F_o_MANDATORY_withCallersTransaction : FA2 Z Z.heap o_MANDATORY (.ref o_JOIN)) (F_o_NEVER_withCallersTransaction : FA2 Z Z.heap o_NEVER .null)  :
    Met l Z ws x code maxLocals ret room_1 #[(.int p1), (.int p2)] h0 (fun v _ L => Q0 n0 v L) := by
  rcases own_split p1 with q | q | q | q | q | q <;> rcases and_one p2 with u | u
  · exact rm0_0_0 l Z a0 hw ws p1 p2 o_NOT_SUPPORTED o_WITHOUT o_REQUIRED o_JOIN o_BEGIN o_MANDATORY o_SUPPORTS o_NEVER o_REQUIRES_NEW h0 n0 O0 S_o_NOT_SUPPORTED E_o_NOT_SUPPORTED S_o_WITHOUT E_o_WITHOUT S_o_REQUIRED E_o_REQUIRED S_o_JOIN E_o_JOIN S_o_BEGIN E_o_BEGIN S_o_MANDATORY E_o_MANDATORY S_o_SUPPORTS E_o_SUPPORTS S_o_NEVER E_o_NEVER S_o_REQUIRES_NEW E_o_REQUIRES_NEW F_o_NOT_SUPPORTED_withCallersTransaction F_o_REQUIRED_withCallersTransaction F_o_REQUIRED_withoutCallersTransaction F_o_MANDATORY_withoutCallersTransaction F_o_SUPPORTS_withCallersTransaction F_o_NOT_SUPPORTED_withoutCallersTransaction F_o_NEVER_withoutCallersTransaction F_o_REQUIRES_NEW_withCallersTransaction F_o_REQUIRES_NEW_withoutCallersTransaction F_o_SUPPORTS_withoutCallersTransaction F_o_MANDATORY_withCallersTransaction F_o_NEVER_withCallersTransaction q u
  · exact rm0_0_1 l Z a0 hw ws p1 p2 o_NOT_SUPPORTED o_WITHOUT o_REQUIRED o_JOIN o_BEGIN o_MANDATORY o_SUPPORTS o_NEVER o_REQUIRES_NEW h0 n0 O0 S_o_NOT_SUPPORTED E_o_NOT_SUPPORTED S_o_WITHOUT E_o_WITHOUT S_o_REQUIRED E_o_REQUIRED S_o_JOIN E_o_JOIN S_o_BEGIN E_o_BEGIN S_o_MANDATORY E_o_MANDATORY S_o_SUPPORTS E_o_SUPPORTS S_o_NEVER E_o_NEVER S_o_REQUIRES_NEW E_o_REQUIRES_NEW F_o_NOT_SUPPORTED_withCallersTransaction F_o_REQUIRED_withCallersTransaction F_o_REQUIRED_withoutCallersTransaction F_o_MANDATORY_withoutCallersTransaction F_o_SUPPORTS_withCallersTransaction F_o_NOT_SUPPORTED_withoutCallersTransaction F_o_NEVER_withoutCallersTransaction F_o_REQUIRES_NEW_withCallersTransaction F_o_REQUIRES_NEW_withoutCallersTransaction F_o_SUPPORTS_withoutCallersTransaction F_o_MANDATORY_withCallersTransaction F_o_NEVER_withCallersTransaction q u
  · exact rm0_1_0 l Z a0 hw ws p1 p2 o_NOT_SUPPORTED o_WITHOUT o_REQUIRED o_JOIN o_BEGIN o_MANDATORY o_SUPPORTS o_NEVER o_REQUIRES_NEW h0 n0 O0 S_o_NOT_SUPPORTED E_o_NOT_SUPPORTED S_o_WITHOUT E_o_WITHOUT S_o_REQUIRED E_o_REQUIRED S_o_JOIN E_o_JOIN S_o_BEGIN E_o_BEGIN S_o_MANDATORY E_o_MANDATORY S_o_SUPPORTS E_o_SUPPORTS S_o_NEVER E_o_NEVER S_o_REQUIRES_NEW E_o_REQUIRES_NEW F_o_NOT_SUPPORTED_withCallersTransaction F_o_REQUIRED_withCallersTransaction F_o_REQUIRED_withoutCallersTransaction F_o_MANDATORY_withoutCallersTransaction F_o_SUPPORTS_withCallersTransaction F_o_NOT_SUPPORTED_withoutCallersTransaction F_o_NEVER_withoutCallersTransaction F_o_REQUIRES_NEW_withCallersTransaction F_o_REQUIRES_NEW_withoutCallersTransaction F_o_SUPPORTS_withoutCallersTransaction F_o_MANDATORY_withCallersTransaction F_o_NEVER_withCallersTransaction q u
  · exact rm0_1_1 l Z a0 hw ws p1 p2 o_NOT_SUPPORTED o_WITHOUT o_REQUIRED o_JOIN o_BEGIN o_MANDATORY o_SUPPORTS o_NEVER o_REQUIRES_NEW h0 n0 O0 S_o_NOT_SUPPORTED E_o_NOT_SUPPORTED S_o_WITHOUT E_o_WITHOUT S_o_REQUIRED E_o_REQUIRED S_o_JOIN E_o_JOIN S_o_BEGIN E_o_BEGIN S_o_MANDATORY E_o_MANDATORY S_o_SUPPORTS E_o_SUPPORTS S_o_NEVER E_o_NEVER S_o_REQUIRES_NEW E_o_REQUIRES_NEW F_o_NOT_SUPPORTED_withCallersTransaction F_o_REQUIRED_withCallersTransaction F_o_REQUIRED_withoutCallersTransaction F_o_MANDATORY_withoutCallersTransaction F_o_SUPPORTS_withCallersTransaction F_o_NOT_SUPPORTED_withoutCallersTransaction F_o_NEVER_withoutCallersTransaction F_o_REQUIRES_NEW_withCallersTransaction F_o_REQUIRES_NEW_withoutCallersTransaction F_o_SUPPORTS_withoutCallersTransaction F_o_MANDATORY_withCallersTransaction F_o_NEVER_withCallersTransaction q u
  · exact rm0_2_0 l Z a0 hw ws p1 p2 o_NOT_SUPPORTED o_WITHOUT o_REQUIRED o_JOIN o_BEGIN o_MANDATORY o_SUPPORTS o_NEVER o_REQUIRES_NEW h0 n0 O0 S_o_NOT_SUPPORTED E_o_NOT_SUPPORTED S_o_WITHOUT E_o_WITHOUT S_o_REQUIRED E_o_REQUIRED S_o_JOIN E_o_JOIN S_o_BEGIN E_o_BEGIN S_o_MANDATORY E_o_MANDATORY S_o_SUPPORTS E_o_SUPPORTS S_o_NEVER E_o_NEVER S_o_REQUIRES_NEW E_o_REQUIRES_NEW F_o_NOT_SUPPORTED_withCallersTransaction F_o_REQUIRED_withCallersTransaction F_o_REQUIRED_withoutCallersTransaction F_o_MANDATORY_withoutCallersTransaction F_o_SUPPORTS_withCallersTransaction F_o_NOT_SUPPORTED_withoutCallersTransaction F_o_NEVER_withoutCallersTransaction F_o_REQUIRES_NEW_withCallersTransaction F_o_REQUIRES_NEW_withoutCallersTransaction F_o_SUPPORTS_withoutCallersTransaction F_o_MANDATORY_withCallersTransaction F_o_NEVER_withCallersTransaction q u
  · exact rm0_2_1 l Z a0 hw ws p1 p2 o_NOT_SUPPORTED o_WITHOUT o_REQUIRED o_JOIN o_BEGIN o_MANDATORY o_SUPPORTS o_NEVER o_REQUIRES_NEW h0 n0 O0 S_o_NOT_SUPPORTED E_o_NOT_SUPPORTED S_o_WITHOUT E_o_WITHOUT S_o_REQUIRED E_o_REQUIRED S_o_JOIN E_o_JOIN S_o_BEGIN E_o_BEGIN S_o_MANDATORY E_o_MANDATORY S_o_SUPPORTS E_o_SUPPORTS S_o_NEVER E_o_NEVER S_o_REQUIRES_NEW E_o_REQUIRES_NEW F_o_NOT_SUPPORTED_withCallersTransaction F_o_REQUIRED_withCallersTransaction F_o_REQUIRED_withoutCallersTransaction F_o_MANDATORY_withoutCallersTransaction F_o_SUPPORTS_withCallersTransaction F_o_NOT_SUPPORTED_withoutCallersTransaction F_o_NEVER_withoutCallersTransaction F_o_REQUIRES_NEW_withCallersTransaction F_o_REQUIRES_NEW_withoutCallersTransaction F_o_SUPPORTS_withoutCallersTransaction F_o_MANDATORY_withCallersTransaction F_o_NEVER_withCallersTransaction q u
  · exact rm0_3_0 l Z a0 hw ws p1 p2 o_NOT_SUPPORTED o_WITHOUT o_REQUIRED o_JOIN o_BEGIN o_MANDATORY o_SUPPORTS o_NEVER o_REQUIRES_NEW h0 n0 O0 S_o_NOT_SUPPORTED E_o_NOT_SUPPORTED S_o_WITHOUT E_o_WITHOUT S_o_REQUIRED E_o_REQUIRED S_o_JOIN E_o_JOIN S_o_BEGIN E_o_BEGIN S_o_MANDATORY E_o_MANDATORY S_o_SUPPORTS E_o_SUPPORTS S_o_NEVER E_o_NEVER S_o_REQUIRES_NEW E_o_REQUIRES_NEW F_o_NOT_SUPPORTED_withCallersTransaction F_o_REQUIRED_withCallersTransaction F_o_REQUIRED_withoutCallersTransaction F_o_MANDATORY_withoutCallersTransaction F_o_SUPPORTS_withCallersTransaction F_o_NOT_SUPPORTED_withoutCallersTransaction F_o_NEVER_withoutCallersTransaction F_o_REQUIRES_NEW_withCallersTransaction F_o_REQUIRES_NEW_withoutCallersTransaction F_o_SUPPORTS_withoutCallersTransaction F_o_MANDATORY_withCallersTransaction F_o_NEVER_withCallersTransaction q u
  · exact rm0_3_1 l Z a0 hw ws p1 p2 o_NOT_SUPPORTED o_WITHOUT o_REQUIRED o_JOIN o_BEGIN o_MANDATORY o_SUPPORTS o_NEVER o_REQUIRES_NEW h0 n0 O0 S_o_NOT_SUPPORTED E_o_NOT_SUPPORTED S_o_WITHOUT E_o_WITHOUT S_o_REQUIRED E_o_REQUIRED S_o_JOIN E_o_JOIN S_o_BEGIN E_o_BEGIN S_o_MANDATORY E_o_MANDATORY S_o_SUPPORTS E_o_SUPPORTS S_o_NEVER E_o_NEVER S_o_REQUIRES_NEW E_o_REQUIRES_NEW F_o_NOT_SUPPORTED_withCallersTransaction F_o_REQUIRED_withCallersTransaction F_o_REQUIRED_withoutCallersTransaction F_o_MANDATORY_withoutCallersTransaction F_o_SUPPORTS_withCallersTransaction F_o_NOT_SUPPORTED_withoutCallersTransaction F_o_NEVER_withoutCallersTransaction F_o_REQUIRES_NEW_withCallersTransaction F_o_REQUIRES_NEW_withoutCallersTransaction F_o_SUPPORTS_withoutCallersTransaction F_o_MANDATORY_withCallersTransaction F_o_NEVER_withCallersTransaction q u
  · exact rm0_4_0 l Z a0 hw ws p1 p2 o_NOT_SUPPORTED o_WITHOUT o_REQUIRED o_JOIN o_BEGIN o_MANDATORY o_SUPPORTS o_NEVER o_REQUIRES_NEW h0 n0 O0 S_o_NOT_SUPPORTED E_o_NOT_SUPPORTED S_o_WITHOUT E_o_WITHOUT S_o_REQUIRED E_o_REQUIRED S_o_JOIN E_o_JOIN S_o_BEGIN E_o_BEGIN S_o_MANDATORY E_o_MANDATORY S_o_SUPPORTS E_o_SUPPORTS S_o_NEVER E_o_NEVER S_o_REQUIRES_NEW E_o_REQUIRES_NEW F_o_NOT_SUPPORTED_withCallersTransaction F_o_REQUIRED_withCallersTransaction F_o_REQUIRED_withoutCallersTransaction F_o_MANDATORY_withoutCallersTransaction F_o_SUPPORTS_withCallersTransaction F_o_NOT_SUPPORTED_withoutCallersTransaction F_o_NEVER_withoutCallersTransaction F_o_REQUIRES_NEW_withCallersTransaction F_o_REQUIRES_NEW_withoutCallersTransaction F_o_SUPPORTS_withoutCallersTransaction F_o_MANDATORY_withCallersTransaction F_o_NEVER_withCallersTransaction q u
  · exact rm0_4_1 l Z a0 hw ws p1 p2 o_NOT_SUPPORTED o_WITHOUT o_REQUIRED o_JOIN o_BEGIN o_MANDATORY o_SUPPORTS o_NEVER o_REQUIRES_NEW h0 n0 O0 S_o_NOT_SUPPORTED E_o_NOT_SUPPORTED S_o_WITHOUT E_o_WITHOUT S_o_REQUIRED E_o_REQUIRED S_o_JOIN E_o_JOIN S_o_BEGIN E_o_BEGIN S_o_MANDATORY E_o_MANDATORY S_o_SUPPORTS E_o_SUPPORTS S_o_NEVER E_o_NEVER S_o_REQUIRES_NEW E_o_REQUIRES_NEW F_o_NOT_SUPPORTED_withCallersTransaction F_o_REQUIRED_withCallersTransaction F_o_REQUIRED_withoutCallersTransaction F_o_MANDATORY_withoutCallersTransaction F_o_SUPPORTS_withCallersTransaction F_o_NOT_SUPPORTED_withoutCallersTransaction F_o_NEVER_withoutCallersTransaction F_o_REQUIRES_NEW_withCallersTransaction F_o_REQUIRES_NEW_withoutCallersTransaction F_o_SUPPORTS_withoutCallersTransaction F_o_MANDATORY_withCallersTransaction F_o_NEVER_withCallersTransaction q u
  · exact rm0_5_0 l Z a0 hw ws p1 p2 o_NOT_SUPPORTED o_WITHOUT o_REQUIRED o_JOIN o_BEGIN o_MANDATORY o_SUPPORTS o_NEVER o_REQUIRES_NEW h0 n0 O0 S_o_NOT_SUPPORTED E_o_NOT_SUPPORTED S_o_WITHOUT E_o_WITHOUT S_o_REQUIRED E_o_REQUIRED S_o_JOIN E_o_JOIN S_o_BEGIN E_o_BEGIN S_o_MANDATORY E_o_MANDATORY S_o_SUPPORTS E_o_SUPPORTS S_o_NEVER E_o_NEVER S_o_REQUIRES_NEW E_o_REQUIRES_NEW F_o_NOT_SUPPORTED_withCallersTransaction F_o_REQUIRED_withCallersTransaction F_o_REQUIRED_withoutCallersTransaction F_o_MANDATORY_withoutCallersTransaction F_o_SUPPORTS_withCallersTransaction F_o_NOT_SUPPORTED_withoutCallersTransaction F_o_NEVER_withoutCallersTransaction F_o_REQUIRES_NEW_withCallersTransaction F_o_REQUIRES_NEW_withoutCallersTransaction F_o_SUPPORTS_withoutCallersTransaction F_o_MANDATORY_withCallersTransaction F_o_NEVER_withCallersTransaction q u
  · exact rm0_5_1 l Z a0 hw ws p1 p2 o_NOT_SUPPORTED o_WITHOUT o_REQUIRED o_JOIN o_BEGIN o_MANDATORY o_SUPPORTS o_NEVER o_REQUIRES_NEW h0 n0 O0 S_o_NOT_SUPPORTED E_o_NOT_SUPPORTED S_o_WITHOUT E_o_WITHOUT S_o_REQUIRED E_o_REQUIRED S_o_JOIN E_o_JOIN S_o_BEGIN E_o_BEGIN S_o_MANDATORY E_o_MANDATORY S_o_SUPPORTS E_o_SUPPORTS S_o_NEVER E_o_NEVER S_o_REQUIRES_NEW E_o_REQUIRES_NEW F_o_NOT_SUPPORTED_withCallersTransaction F_o_REQUIRED_withCallersTransaction F_o_REQUIRED_withoutCallersTransaction F_o_MANDATORY_withoutCallersTransaction F_o_SUPPORTS_withCallersTransaction F_o_NOT_SUPPORTED_withoutCallersTransaction F_o_NEVER_withoutCallersTransaction F_o_REQUIRES_NEW_withCallersTransaction F_o_REQUIRES_NEW_withoutCallersTransaction F_o_SUPPORTS_withoutCallersTransaction F_o_MANDATORY_withCallersTransaction F_o_NEVER_withCallersTransaction q u
set_option maxRecDepth 65536 in
set_option maxHeartbeats 40000000 in
theorem comes_1 {Post : Tables → Env → Array Value → State → Outcome → State → Prop} (hpost : ∀ tb e args s v u, (limb_1_1.after args s (.returned v) u = true ∧ limb_1_2.after args s (.returned v) u = true ∧ True) → FrameEnd s (.returned v) u (Jvm.fieldLocs frame_1_writes args s ++ Jvm.arrayLocs frame_1_arrays args s ++ Jvm.staticLocs frame_1_statics s) 0 0 → Post tb e args s (.returned v) u) :
    ArmFor flags0 classFile x code maxLocals ret World_1 tables_1 room_1 Calls_1 rest_1 Pre_1 Post := by
  intro l hfl _ _ p e ha hc hk s m args below hf hA hF happ hP
  obtain ⟨hcalls, hrest, hpre⟩ := hP
  obtain ⟨-, -, -, hnamed, -, -, -, hat⟩ := (Spec.applies_iff hf).mp happ
  obtain ⟨hg, hn⟩ := and_e (Cond.before_iff.mp (show (Jvm.Cond.and given_1 narrow_1).before args s = true from hpre))
  obtain ⟨hg0, hgr0⟩ := and_e hg
  obtain ⟨hg1, hg2⟩ := and_e hgr0
  obtain ⟨w0, w1, rfl⟩ : ∃ w0 w1 : Value, args = #[w0, w1] := by
    have hs : args.size = 2 := by simpa [Cond.value, given_1] using hg0
    obtain ⟨L⟩ := args
    match L, hs with
    | [w0, w1], _ => exact ⟨w0, w1, rfl⟩
  have hw := fun d (hd : d ∈ tables_1) => atoms_spec (ws := Jvm.Cond.code x code maxLocals ret :: tables_1) hat d (List.mem_cons_of_mem _ hd)
  have W := fun (i : Nat) {c : Jvm.Cond} (q : tables_1[i]? = some c) => hw c (List.mem_of_getElem? q)
  have hfit : Fit s := fun {y c} hc i hi => by
    obtain ⟨ha, rfl⟩ := Array.getElem?_eq_some_iff.mp hc
    have q := List.all_eq_true.mp ((Array.all_eq_true_iff_forall_mem.mp hF) _ (Array.getElem_mem ha)) i (List.mem_range.mpr hi)
    simpa [Array.getElem?_eq_getElem hi] using q
  obtain ⟨i0, ei0⟩ := is_v hg1
  obtain rfl : w0 = (.int i0) := Option.some.inj ei0
  obtain ⟨i1, ei1⟩ := is_v hg2
  obtain rfl : w1 = (.int i1) := Option.some.inj ei1
  obtain ⟨hn0, hr0⟩ := and_e hn
  obtain ⟨hn1, hr1⟩ := and_e hr0
  obtain ⟨hn2, hr2⟩ := and_e hr1
  obtain ⟨hn3, hr3⟩ := and_e hr2
  obtain ⟨hn4, hr4⟩ := and_e hr3
  obtain ⟨hn5, hr5⟩ := and_e hr4
  obtain ⟨hn6, hr6⟩ := and_e hr5
  obtain ⟨hn7, hr7⟩ := and_e hr6
  obtain ⟨hn8, hr8⟩ := and_e hr7
  obtain ⟨hn9, hr9⟩ := and_e hr8
  obtain ⟨hn10, hr10⟩ := and_e hr9
  obtain ⟨hn11, hr11⟩ := and_e hr10
  obtain ⟨hn12, hr12⟩ := and_e hr11
  obtain ⟨hn13, hr13⟩ := and_e hr12
  obtain ⟨hn14, hr14⟩ := and_e hr13
  obtain ⟨hn15, hr15⟩ := and_e hr14
  obtain ⟨hn16, hr16⟩ := and_e hr15
  obtain ⟨hn17, hr17⟩ := and_e hr16
  obtain ⟨hn18, hr18⟩ := and_e hr17
  obtain ⟨hn19, hn20⟩ := and_e hr18
  obtain ⟨o_NOT_SUPPORTED, ev_o_NOT_SUPPORTED⟩ := exa_v hn0
  have S_o_NOT_SUPPORTED := Sta.start ev_o_NOT_SUPPORTED (Or.inr ⟨(W 2 rfl), (W 3 rfl)⟩)
  have E_o_NOT_SUPPORTED := Exa.start ev_o_NOT_SUPPORTED hn0
  obtain ⟨o_WITHOUT, ev_o_WITHOUT⟩ := exa_v hn1
  have S_o_WITHOUT := Sta.start ev_o_WITHOUT (Or.inr ⟨(W 5 rfl), (W 6 rfl)⟩)
  have E_o_WITHOUT := Exa.start ev_o_WITHOUT hn1
  obtain ⟨o_REQUIRED, ev_o_REQUIRED⟩ := exa_v hn3
  have S_o_REQUIRED := Sta.start ev_o_REQUIRED (Or.inr ⟨(W 2 rfl), (W 15 rfl)⟩)
  have E_o_REQUIRED := Exa.start ev_o_REQUIRED hn3
  obtain ⟨o_JOIN, ev_o_JOIN⟩ := exa_v hn4
  have S_o_JOIN := Sta.start ev_o_JOIN (Or.inr ⟨(W 5 rfl), (W 17 rfl)⟩)
  have E_o_JOIN := Exa.start ev_o_JOIN hn4
  obtain ⟨o_BEGIN, ev_o_BEGIN⟩ := exa_v hn6
  have S_o_BEGIN := Sta.start ev_o_BEGIN (Or.inr ⟨(W 5 rfl), (W 19 rfl)⟩)
  have E_o_BEGIN := Exa.start ev_o_BEGIN hn6
  obtain ⟨o_MANDATORY, ev_o_MANDATORY⟩ := exa_v hn8
  have S_o_MANDATORY := Sta.start ev_o_MANDATORY (Or.inr ⟨(W 2 rfl), (W 23 rfl)⟩)
  have E_o_MANDATORY := Exa.start ev_o_MANDATORY hn8
  obtain ⟨o_SUPPORTS, ev_o_SUPPORTS⟩ := exa_v hn10
  have S_o_SUPPORTS := Sta.start ev_o_SUPPORTS (Or.inr ⟨(W 2 rfl), (W 25 rfl)⟩)
  have E_o_SUPPORTS := Exa.start ev_o_SUPPORTS hn10
  obtain ⟨o_NEVER, ev_o_NEVER⟩ := exa_v hn13
  have S_o_NEVER := Sta.start ev_o_NEVER (Or.inr ⟨(W 2 rfl), (W 27 rfl)⟩)
  have E_o_NEVER := Exa.start ev_o_NEVER hn13
  obtain ⟨o_REQUIRES_NEW, ev_o_REQUIRES_NEW⟩ := exa_v hn15
  have S_o_REQUIRES_NEW := Sta.start ev_o_REQUIRES_NEW (Or.inr ⟨(W 2 rfl), (W 29 rfl)⟩)
  have E_o_REQUIRES_NEW := Exa.start ev_o_REQUIRES_NEW hn15
  have F_o_NOT_SUPPORTED_withCallersTransaction := Fld.start ((fld_at ev_o_NOT_SUPPORTED).symm.trans (own_eqR ev_o_WITHOUT hn2))
  have F_o_REQUIRED_withCallersTransaction := Fld.start ((fld_at ev_o_REQUIRED).symm.trans (own_eqR ev_o_JOIN hn5))
  have F_o_REQUIRED_withoutCallersTransaction := Fld.start ((fld_at ev_o_REQUIRED).symm.trans (own_eqR ev_o_BEGIN hn7))
  have F_o_MANDATORY_withoutCallersTransaction := Fld.start ((fld_at ev_o_MANDATORY).symm.trans (null_v hn9))
  have F_o_SUPPORTS_withCallersTransaction := Fld.start ((fld_at ev_o_SUPPORTS).symm.trans (own_eqR ev_o_JOIN hn11))
  have F_o_NOT_SUPPORTED_withoutCallersTransaction := Fld.start ((fld_at ev_o_NOT_SUPPORTED).symm.trans (own_eqR ev_o_WITHOUT hn12))
  have F_o_NEVER_withoutCallersTransaction := Fld.start ((fld_at ev_o_NEVER).symm.trans (own_eqR ev_o_WITHOUT hn14))
  have F_o_REQUIRES_NEW_withCallersTransaction := Fld.start ((fld_at ev_o_REQUIRES_NEW).symm.trans (own_eqR ev_o_BEGIN hn16))
  have F_o_REQUIRES_NEW_withoutCallersTransaction := Fld.start ((fld_at ev_o_REQUIRES_NEW).symm.trans (own_eqR ev_o_BEGIN hn17))
  have F_o_SUPPORTS_withoutCallersTransaction := Fld.start ((fld_at ev_o_SUPPORTS).symm.trans (own_eqR ev_o_WITHOUT hn18))
  have F_o_MANDATORY_withCallersTransaction := Fld.start ((fld_at ev_o_MANDATORY).symm.trans (own_eqR ev_o_JOIN hn19))
  have F_o_NEVER_withCallersTransaction := Fld.start ((fld_at ev_o_NEVER).symm.trans (null_v hn20))
  obtain ⟨n, o, h1, h2, h3, _, L, rfl, ⟨rfl, N⟩, hq⟩ := rm0 l s _ hw tables_1 i0 i1 o_NOT_SUPPORTED o_WITHOUT o_REQUIRED o_JOIN o_BEGIN o_MANDATORY o_SUPPORTS o_NEVER o_REQUIRES_NEW s.heap s.heap.size (Old.start s) S_o_NOT_SUPPORTED E_o_NOT_SUPPORTED S_o_WITHOUT E_o_WITHOUT S_o_REQUIRED E_o_REQUIRED S_o_JOIN E_o_JOIN S_o_BEGIN E_o_BEGIN S_o_MANDATORY E_o_MANDATORY S_o_SUPPORTS E_o_SUPPORTS S_o_NEVER E_o_NEVER S_o_REQUIRES_NEW E_o_REQUIRES_NEW F_o_NOT_SUPPORTED_withCallersTransaction F_o_REQUIRED_withCallersTransaction F_o_REQUIRED_withoutCallersTransaction F_o_MANDATORY_withoutCallersTransaction F_o_SUPPORTS_withCallersTransaction F_o_NOT_SUPPORTED_withoutCallersTransaction F_o_NEVER_withoutCallersTransaction F_o_REQUIRES_NEW_withCallersTransaction F_o_REQUIRES_NEW_withoutCallersTransaction F_o_SUPPORTS_withoutCallersTransaction F_o_MANDATORY_withCallersTransaction F_o_NEVER_withCallersTransaction p e ha hc hk s m _ below hf ((Spec.applies_iff_loose hf).mp happ).1 ⟨rfl, State.Warmed39.refl s, rfl⟩ trivial
  refine ⟨n, _, h1, h2, h3, hpost _ _ _ _ _ _ ⟨Cond.after_iff.mpr rfl, Cond.after_iff.mpr (eq_i res_at (Term.int_eval (1)) rfl), trivial⟩ ⟨hq.1, hq.2.1, (hq.2.2.sift fun y hy => Or.inr (N y hy)).mono (by decide) (by decide)⟩⟩
theorem main_1_1 : Claimed_1_1 := comes_1 fun _ _ _ _ _ _ h hF => ⟨h.1, hF⟩
theorem main_1_2 : Claimed_1_2 := comes_1 fun _ _ _ _ _ _ h hF => ⟨h.2.1, hF⟩
end Jvm.Pilot.@@N@@
namespace Jvm.Pilot.@@N@@
open Jvm Jvm.ClassFile Sem Op Lib Jvm.Free Jvm.Stand Jvm.Pilot.@@N@@.Jvm.D
/-! MADE BY PROGRAM (witnessworld.py) out of the Statement's table words and the real class files: 13 classes; the members and pool entries that the words name. The judged class is class 1, her method 1. -/
namespace start1
open Jvm.ClassFile
def u (s : String) : CpInfo := .utf8 (stringToUtf16 s)
/-- a pool by its gaps: so many unusable entries, then the entry; so many at the end -/
def gap : Nat → List CpInfo → List CpInfo
  | 0, r => r
  | n + 1, r => .unusable :: gap n r
def poolList (es : List (Nat × CpInfo)) (last : Nat) : List CpInfo := es.foldr (fun e r => gap e.1 (e.2 :: r)) (gap last [])
def pool (es : List (Nat × CpInfo)) (last : Nat) : Array CpInfo := ⟨poolList es last⟩
def fileOf (pool : Array CpInfo) (this : Nat) (attrs : Array Attribute := #[]) (ms : Array MethodInfo := #[]) (fl : Nat := 33) (sup : Nat := 0) (ifs : Array Nat := #[]) (fds : Array FieldInfo := #[]) : ClassFile where
  minorVersion := 0
  majorVersion := 65
  constantPool := pool
  accessFlags := fl
  thisClass := this
  superClass := sup
  interfaces := ifs
  fields := fds
  methods := ms
  attributes := attrs
def plain (name : String) (sup : Option ClassId) : Class where
  name := name
  kind := .ordinary
  loader := none
  accessFlags := 33
  super := sup
  interfaces := #[]
  cf := none
  fields := #[]
  methods := #[]
  instanceTypes := #[]
  staticTypes := #[]
  resolved := #[]
  callSites := []
  init := .initialized
  statics := none
  mirror := none

def pool0 : Array CpInfo := pool [(5, u "<init>"), (0, u "()V"), (1, .class_ 10), (1, u "java/lang/Object")] 113

def k0m0 : Method := { name := "<init>", desc := "()V", sig := { parameters := [], returnType := none }, accessFlags := 1, code := none }
/-- java/lang/Object -/
def k0 : Class := { plain "java/lang/Object" none with
  accessFlags := 33
  interfaces := #[]
  cf := some (fileOf pool0 8 #[] #[{ accessFlags := 1, nameIndex := 5, descriptorIndex := 6, attributes := #[] }] 33 0 #[] #[])
  fields := #[]
  methods := #[k0m0]
  instanceTypes := #[]
  staticTypes := #[]
  resolved := Array.replicate 124 none
  statics := none }

def pool1 : Array CpInfo := pool [(2, .class_ 4), (1, u "java/lang/Object"), (0, u "<init>"), (0, u "()V"), (0, .integer 2147483647), (0, .fieldref 9 10), (0, .class_ 11), (0, .nameAndType 12 13), (0, u "com/example/beanhive/beanhive/TransAttribute"), (0, u "NOT_SUPPORTED"), (0, u "Lcom/example/beanhive/beanhive/TransAttribute;"), (0, .fieldref 15 16), (0, .class_ 17), (0, .nameAndType 18 19), (0, u "com/example/beanhive/beanhive/Demarcation"), (0, u "WITHOUT"), (0, u "Lcom/example/beanhive/beanhive/Demarcation;"), (0, .fieldref 9 21), (0, .nameAndType 22 13), (0, u "SUPPORTS"), (0, .fieldref 15 24), (0, .nameAndType 25 19), (0, u "JOIN"), (0, .fieldref 9 27), (0, .nameAndType 28 13), (0, u "REQUIRED"), (0, .fieldref 15 30), (0, .nameAndType 31 19), (0, u "BEGIN"), (0, .fieldref 9 33), (0, .nameAndType 34 13), (0, u "REQUIRES_NEW"), (0, .fieldref 9 36), (0, .nameAndType 37 13), (0, u "MANDATORY"), (0, .fieldref 9 39), (0, .nameAndType 40 13), (0, u "NEVER"), (0, .methodref 9 42), (0, .nameAndType 43 44), (0, u "demarcation"), (0, u "(Z)Lcom/example/beanhive/beanhive/Demarcation;"), (0, .class_ 46), (0, u "com/example/beanhive/beanhive/TransAttributeDemarcationPinLaw"), (2, u "law"), (0, u "(II)Z")] 3

def k1m0 : Method := { name := "<init>", desc := "()V", sig := { parameters := [], returnType := none }, accessFlags := 1, code := none }
def k1c1 : Code := { maxStack := 2, maxLocals := 6, code := code, exceptionTable := #[], attributes := #[] }
def k1m1 : Method := { name := "law", desc := "(II)Z", sig := { parameters := [.int, .int], returnType := some .boolean }, accessFlags := 9, code := some k1c1 }
/-- com/example/beanhive/beanhive/TransAttributeDemarcationPinLaw -/
def k1 : Class := { plain "com/example/beanhive/beanhive/TransAttributeDemarcationPinLaw" (some 0) with
  accessFlags := 49
  interfaces := #[]
  cf := some (fileOf pool1 45 #[] #[{ accessFlags := 1, nameIndex := 5, descriptorIndex := 6, attributes := #[] }, { accessFlags := 9, nameIndex := 49, descriptorIndex := 50, attributes := #[] }] 49 2 #[] #[])
  fields := #[]
  methods := #[k1m0, k1m1]
  instanceTypes := #[]
  staticTypes := #[]
  resolved := Array.replicate 54 none
  statics := none }

def pool2 : Array CpInfo := pool [(1, .class_ 2), (0, u "java/lang/constant/Constable"), (0, .class_ 4), (0, u "java/lang/Object")] 6

/-- java/lang/constant/Constable -/
def k2 : Class := { plain "java/lang/constant/Constable" (some 0) with
  accessFlags := 1537
  interfaces := #[]
  cf := some (fileOf pool2 1 #[] #[] 1537 3 #[] #[])
  fields := #[]
  methods := #[]
  instanceTypes := #[]
  staticTypes := #[]
  resolved := Array.replicate 11 none
  statics := none }

def pool3 : Array CpInfo := pool [(1, .class_ 2), (0, u "java/lang/Comparable"), (0, .class_ 4), (0, u "java/lang/Object")] 7

/-- java/lang/Comparable -/
def k3 : Class := { plain "java/lang/Comparable" (some 0) with
  accessFlags := 1537
  interfaces := #[]
  cf := some (fileOf pool3 1 #[] #[] 1537 3 #[] #[])
  fields := #[]
  methods := #[]
  instanceTypes := #[]
  staticTypes := #[]
  resolved := Array.replicate 12 none
  statics := none }

def pool4 : Array CpInfo := pool [(1, .class_ 2), (0, u "java/io/Serializable"), (0, .class_ 4), (0, u "java/lang/Object")] 2

/-- java/io/Serializable -/
def k4 : Class := { plain "java/io/Serializable" (some 0) with
  accessFlags := 1537
  interfaces := #[]
  cf := some (fileOf pool4 1 #[] #[] 1537 3 #[] #[])
  fields := #[]
  methods := #[]
  instanceTypes := #[]
  staticTypes := #[]
  resolved := Array.replicate 7 none
  statics := none }

def pool5 : Array CpInfo := pool [(2, .class_ 4), (1, u "java/lang/Enum"), (0, u "name"), (0, u "Ljava/lang/String;"), (2, u "ordinal"), (0, u "I"), (1, .class_ 14), (1, u "java/lang/Object"), (4, u "hash"), (86, .class_ 108), (1, u "java/lang/Enum$EnumDesc"), (2, .class_ 112), (0, u "java/lang/constant/Constable"), (0, .class_ 114), (0, u "java/lang/Comparable"), (0, .class_ 116), (0, u "java/io/Serializable")] 87

/-- java/lang/Enum -/
def k5 : Class := { plain "java/lang/Enum" (some 0) with
  accessFlags := 1057
  interfaces := #[2, 3, 4]
  cf := some (fileOf pool5 2 #[.nestMembers #[106]] #[] 1057 12 #[111, 113, 115] #[{ accessFlags := 18, nameIndex := 5, descriptorIndex := 6, attributes := #[] }, { accessFlags := 18, nameIndex := 9, descriptorIndex := 10, attributes := #[] }, { accessFlags := 2, nameIndex := 19, descriptorIndex := 10, attributes := #[] }])
  fields := #[{ name := "name", type := (.object "java/lang/String"), accessFlags := 18, slot := 0, constantValue := 0 }, { name := "ordinal", type := .int, accessFlags := 18, slot := 1, constantValue := 0 }, { name := "hash", type := .int, accessFlags := 2, slot := 2, constantValue := 0 }]
  methods := #[]
  instanceTypes := #[(.object "java/lang/String"), .int, .int]
  staticTypes := #[]
  resolved := Array.replicate 204 none
  statics := none }

def pool6 : Array CpInfo := pool [(1, .class_ 2), (0, u "com/example/beanhive/beanhive/TransAttribute"), (2, u "NOT_SUPPORTED"), (0, u "Lcom/example/beanhive/beanhive/TransAttribute;"), (2, u "SUPPORTS"), (2, u "REQUIRED"), (2, u "REQUIRES_NEW"), (2, u "MANDATORY"), (2, u "NEVER"), (2, u "$VALUES"), (0, u "[Lcom/example/beanhive/beanhive/TransAttribute;"), (6, .class_ 34), (1, u "java/lang/Enum"), (8, u "descriptorName"), (0, u "Ljava/lang/String;"), (0, .fieldref 1 46), (0, .nameAndType 47 48), (0, u "withCallersTransaction"), (0, u "Lcom/example/beanhive/beanhive/Demarcation;"), (0, .fieldref 1 50), (0, .nameAndType 51 48), (0, u "withoutCallersTransaction"), (52, u "demarcation"), (0, u "(Z)Lcom/example/beanhive/beanhive/Demarcation;")] 7

def k6c0 : Code := { maxStack := 1, maxLocals := 2, code := prog_46_method_5_code, exceptionTable := #[], attributes := #[] }
def k6m0 : Method := { name := "demarcation", desc := "(Z)Lcom/example/beanhive/beanhive/Demarcation;", sig := { parameters := [.boolean], returnType := some (.object "com/example/beanhive/beanhive/Demarcation") }, accessFlags := 0, code := some k6c0 }
/-- com/example/beanhive/beanhive/TransAttribute -/
def k6 : Class := { plain "com/example/beanhive/beanhive/TransAttribute" (some 5) with
  accessFlags := 16432
  interfaces := #[]
  cf := some (fileOf pool6 1 #[] #[{ accessFlags := 0, nameIndex := 104, descriptorIndex := 105, attributes := #[] }] 16432 32 #[] #[{ accessFlags := 16409, nameIndex := 5, descriptorIndex := 6, attributes := #[] }, { accessFlags := 16409, nameIndex := 9, descriptorIndex := 6, attributes := #[] }, { accessFlags := 16409, nameIndex := 12, descriptorIndex := 6, attributes := #[] }, { accessFlags := 16409, nameIndex := 15, descriptorIndex := 6, attributes := #[] }, { accessFlags := 16409, nameIndex := 18, descriptorIndex := 6, attributes := #[] }, { accessFlags := 16409, nameIndex := 21, descriptorIndex := 6, attributes := #[] }, { accessFlags := 18, nameIndex := 43, descriptorIndex := 44, attributes := #[] }, { accessFlags := 18, nameIndex := 47, descriptorIndex := 48, attributes := #[] }, { accessFlags := 18, nameIndex := 51, descriptorIndex := 48, attributes := #[] }, { accessFlags := 4122, nameIndex := 24, descriptorIndex := 25, attributes := #[] }])
  fields := #[{ name := "NOT_SUPPORTED", type := (.object "com/example/beanhive/beanhive/TransAttribute"), accessFlags := 16409, slot := 0, constantValue := 0 }, { name := "SUPPORTS", type := (.object "com/example/beanhive/beanhive/TransAttribute"), accessFlags := 16409, slot := 1, constantValue := 0 }, { name := "REQUIRED", type := (.object "com/example/beanhive/beanhive/TransAttribute"), accessFlags := 16409, slot := 2, constantValue := 0 }, { name := "REQUIRES_NEW", type := (.object "com/example/beanhive/beanhive/TransAttribute"), accessFlags := 16409, slot := 3, constantValue := 0 }, { name := "MANDATORY", type := (.object "com/example/beanhive/beanhive/TransAttribute"), accessFlags := 16409, slot := 4, constantValue := 0 }, { name := "NEVER", type := (.object "com/example/beanhive/beanhive/TransAttribute"), accessFlags := 16409, slot := 5, constantValue := 0 }, { name := "descriptorName", type := (.object "java/lang/String"), accessFlags := 18, slot := 3, constantValue := 0 }, { name := "withCallersTransaction", type := (.object "com/example/beanhive/beanhive/Demarcation"), accessFlags := 18, slot := 4, constantValue := 0 }, { name := "withoutCallersTransaction", type := (.object "com/example/beanhive/beanhive/Demarcation"), accessFlags := 18, slot := 5, constantValue := 0 }, { name := "$VALUES", type := (.array (.object "com/example/beanhive/beanhive/TransAttribute")), accessFlags := 4122, slot := 6, constantValue := 0 }]
  methods := #[k6m0]
  instanceTypes := #[(.object "java/lang/String"), .int, .int, (.object "java/lang/String"), (.object "com/example/beanhive/beanhive/Demarcation"), (.object "com/example/beanhive/beanhive/Demarcation")]
  staticTypes := #[(.object "com/example/beanhive/beanhive/TransAttribute"), (.object "com/example/beanhive/beanhive/TransAttribute"), (.object "com/example/beanhive/beanhive/TransAttribute"), (.object "com/example/beanhive/beanhive/TransAttribute"), (.object "com/example/beanhive/beanhive/TransAttribute"), (.object "com/example/beanhive/beanhive/TransAttribute"), (.array (.object "com/example/beanhive/beanhive/TransAttribute"))]
  resolved := Array.replicate 113 none
  statics := some 0 }

def pool7 : Array CpInfo := pool [(1, .class_ 2), (0, u "com/example/beanhive/beanhive/Demarcation"), (2, u "JOIN"), (0, u "Lcom/example/beanhive/beanhive/Demarcation;"), (2, u "BEGIN"), (2, u "WITHOUT"), (2, u "$VALUES"), (0, u "[Lcom/example/beanhive/beanhive/Demarcation;"), (6, .class_ 25), (1, u "java/lang/Enum")] 25

/-- com/example/beanhive/beanhive/Demarcation -/
def k7 : Class := { plain "com/example/beanhive/beanhive/Demarcation" (some 5) with
  accessFlags := 16432
  interfaces := #[]
  cf := some (fileOf pool7 1 #[] #[] 16432 23 #[] #[{ accessFlags := 16409, nameIndex := 5, descriptorIndex := 6, attributes := #[] }, { accessFlags := 16409, nameIndex := 9, descriptorIndex := 6, attributes := #[] }, { accessFlags := 16409, nameIndex := 12, descriptorIndex := 6, attributes := #[] }, { accessFlags := 4122, nameIndex := 15, descriptorIndex := 16, attributes := #[] }])
  fields := #[{ name := "JOIN", type := (.object "com/example/beanhive/beanhive/Demarcation"), accessFlags := 16409, slot := 0, constantValue := 0 }, { name := "BEGIN", type := (.object "com/example/beanhive/beanhive/Demarcation"), accessFlags := 16409, slot := 1, constantValue := 0 }, { name := "WITHOUT", type := (.object "com/example/beanhive/beanhive/Demarcation"), accessFlags := 16409, slot := 2, constantValue := 0 }, { name := "$VALUES", type := (.array (.object "com/example/beanhive/beanhive/Demarcation")), accessFlags := 4122, slot := 3, constantValue := 0 }]
  methods := #[]
  instanceTypes := #[(.object "java/lang/String"), .int, .int]
  staticTypes := #[(.object "com/example/beanhive/beanhive/Demarcation"), (.object "com/example/beanhive/beanhive/Demarcation"), (.object "com/example/beanhive/beanhive/Demarcation"), (.array (.object "com/example/beanhive/beanhive/Demarcation"))]
  resolved := Array.replicate 51 none
  statics := some 1 }

def pool8 : Array CpInfo := pool [(1, u "java/lang/Cloneable"), (0, .class_ 1), (0, u "java/lang/Object"), (0, .class_ 3)] 3

/-- java/lang/Cloneable -/
def k8 : Class := { plain "java/lang/Cloneable" (some 0) with
  accessFlags := 1537
  interfaces := #[]
  cf := some (fileOf pool8 2 #[] #[] 1537 4 #[] #[])
  fields := #[]
  methods := #[]
  instanceTypes := #[]
  staticTypes := #[]
  resolved := Array.replicate 8 none
  statics := none }

/-- the primitive byte -/
def k9 : Class := { plain "byte" none with kind := .primitive 'B', accessFlags := 0x411 }
/-- [B -/
def k10 : Class := { plain "[B" (some 0) with kind := .array 9 .byte, interfaces := #[8, 4], accessFlags := 1041 }

/-- the primitive int -/
def k11 : Class := { plain "int" none with kind := .primitive 'I', accessFlags := 0x411 }
/-- [I -/
def k12 : Class := { plain "[I" (some 0) with kind := .array 11 .int, interfaces := #[8, 4], accessFlags := 1041 }

def heap : Heap := #[{ cls := 6, slots := #[.ref 2, .ref 8, .ref 4, .ref 10, .ref 7, .ref 9, .null], vm := .statics 6 },
  { cls := 7, slots := #[.ref 5, .ref 6, .ref 3, .null], vm := .statics 7 },
  { cls := 6, slots := #[.null, .int 0, .int 0, .null, .ref 3, .ref 3], vm := .none },
  { cls := 7, slots := #[.null, .int 0, .int 0], vm := .none },
  { cls := 6, slots := #[.null, .int 0, .int 0, .null, .ref 5, .ref 6], vm := .none },
  { cls := 7, slots := #[.null, .int 0, .int 0], vm := .none },
  { cls := 7, slots := #[.null, .int 0, .int 0], vm := .none },
  { cls := 6, slots := #[.null, .int 0, .int 0, .null, .ref 5, .null], vm := .none },
  { cls := 6, slots := #[.null, .int 0, .int 0, .null, .ref 5, .ref 3], vm := .none },
  { cls := 6, slots := #[.null, .int 0, .int 0, .null, .null, .ref 3], vm := .none },
  { cls := 6, slots := #[.null, .int 0, .int 0, .null, .ref 6, .ref 6], vm := .none }]
def classes : Array Class := #[k0, k1, k2, k3, k4, k5, k6, k7, k8, k9, k10, k11, k12]
def interned : List (Array UInt16 × Addr) := []
def slotsUsed : Nat := 56
def theMethod : MethodId := ⟨1, 1⟩
def args0 : Array Value := #[.int 5, .int 1]
def aboutOver (below : List Frame) : State where
  vm := { classes := classes, interned := interned.toArray }
  heap := heap
  slotsUsed := slotsUsed
  threads := #[{ frames := .invoking theMethod args0 :: below }]
def below0 : List Frame := [.native { method := ⟨0, 0⟩, args := #[] }]
def about1 : State := aboutOver below0
def p0 : Program := .bare "" "" ""
def e0 : Env := launch0.env 0 0 0
theorem w_frames : about1.frames = Frame.invoking theMethod args0 :: below0 := rfl
set_option maxRecDepth 65536 in
theorem w_args : argsFit about1.vm theMethod args0 = true := by decide +kernel
set_option maxRecDepth 65536 in
theorem w_heap : heapFits about1 = true := by decide +kernel
set_option maxRecDepth 65536 in
theorem w_runnable : about1.curStatus? = some .runnable := by decide +kernel
set_option maxRecDepth 65536 in
theorem w_alone : about1.alone = true := by decide +kernel
set_option maxRecDepth 65536 in
theorem w_named : about1.methodNamed? x = some theMethod := by decide +kernel
set_option maxRecDepth 65536 in
theorem w_hears : about1.hears theMethod below0 = true := by decide +kernel
set_option maxRecDepth 65536 in
theorem w_ripe : about1.ripe theMethod args0 below0 = true := by decide +kernel
theorem w_running : about1.status = .running := rfl
set_option maxRecDepth 65536 in
theorem w_room : about1.hasRoom e0.platform room_1 = true :=
  launch0.hasRoom_least _ room_1 (by decide +kernel) (by decide +kernel) (by decide +kernel) (by decide +kernel) (by decide +kernel) (by decide +kernel)
theorem allAtoms_all (ts : List Jvm.Cond) (a : Array Jvm.Value) (st : Jvm.State) : (allAtoms ts).before a st = ts.all (fun c => c.before a st) := by
  induction ts with
  | nil => rfl
  | cons c t ih =>
    show (Jvm.Cond.and c (allAtoms t)).before a st = _
    rw [Jvm.Cond.before_and, ih, List.all_cons]
def words1 : List Jvm.Cond := Jvm.Cond.code x code maxLocals ret :: tables_1
/-- a 'code' word, met by the world's own term for the bytes: nothing is compared byte by byte -/
theorem code_word {y : MethodName} {bytes : ByteArray} {mx : Nat} {rt : Option FieldType} {a : Array Value} {s : State} {m : MethodId} {meth : Method} {c : Code} (h1 : s.methodNamed? y = some m) (h2 : s.vm.method? m = some meth) (h3 : meth.code = some c) (h4 : c.code = bytes)
    (h5 : (c.maxLocals == mx && c.exceptionTable.isEmpty && decide (c.maxStack ≤ mostOperands) && decide (meth.sig.returnType = rt) && !meth.locks && decide (parseMethodDescriptor y.desc = some meth.sig)) = true) : (Jvm.Cond.code y bytes mx rt).before a s = true := by
  simp only [Bool.and_eq_true, beq_iff_eq, Bool.not_eq_true', decide_eq_true_eq] at h5
  obtain ⟨⟨⟨⟨⟨g1, g2⟩, g3⟩, g4⟩, g5⟩, g6⟩ := h5
  simp [Cond.before, Cond.holds, Cond.value, h1, h2, h3, h4, g1, g2, g3, g4, g5, g6]
def isCode : Jvm.Cond → Bool
  | .code _ _ _ _ => true
  | _ => false
theorem all_split {L : List Jvm.Cond} {P : Jvm.Cond → Bool} (h1 : L.all (fun c => isCode c || P c) = true) (h2 : ∀ c ∈ L.filter isCode, P c = true) : L.all P = true := by
  refine List.all_eq_true.mpr fun c hc => ?_
  have h := List.all_eq_true.mp h1 c hc
  rcases Bool.eq_false_or_eq_true (isCode c) with hi | hi
  · exact h2 c (List.mem_filter.mpr ⟨hc, hi⟩)
  · simpa [hi] using h
set_option maxRecDepth 65536 in
theorem w_c0 : (Jvm.Cond.code x code maxLocals ret).before args0 about1 = true := code_word (m := ⟨1, 1⟩) (meth := k1m1) (c := k1c1) (by decide +kernel) rfl rfl rfl (by decide +kernel)
set_option maxRecDepth 65536 in
theorem w_c1 : (Jvm.Cond.code ({ cls := "com/example/beanhive/beanhive/TransAttribute", name := "demarcation", desc := "(Z)Lcom/example/beanhive/beanhive/Demarcation;" } : Jvm.MethodName) prog_46_method_5_code (2 : Nat) (Option.some (Jvm.ClassFile.FieldType.object "com/example/beanhive/beanhive/Demarcation"))).before args0 about1 = true := code_word (m := ⟨6, 0⟩) (meth := k6m0) (c := k6c0) (by decide +kernel) rfl rfl rfl (by decide +kernel)
def codes1 : List Jvm.Cond := [Jvm.Cond.code x code maxLocals ret, Jvm.Cond.code ({ cls := "com/example/beanhive/beanhive/TransAttribute", name := "demarcation", desc := "(Z)Lcom/example/beanhive/beanhive/Demarcation;" } : Jvm.MethodName) prog_46_method_5_code (2 : Nat) (Option.some (Jvm.ClassFile.FieldType.object "com/example/beanhive/beanhive/Demarcation"))]
set_option maxRecDepth 65536 in
theorem codes_eq : words1.filter isCode = codes1 := rfl
theorem w_codes : ∀ c ∈ words1.filter isCode, c.before args0 about1 = true := by
  rw [codes_eq]
  intro c hc
  simp only [codes1, List.mem_cons, List.not_mem_nil, or_false] at hc
  rcases hc with rfl | rfl
  · exact w_c0
  · exact w_c1
set_option maxRecDepth 65536 in
theorem w_t1 : (words1.take 24).all (fun c => isCode c || c.before args0 about1) = true := by decide +kernel
set_option maxRecDepth 65536 in
theorem w_t2 : (words1.drop 24).all (fun c => isCode c || c.before args0 about1) = true := by decide +kernel
theorem w_tables : (allAtoms (Jvm.Cond.code x code maxLocals ret :: tables_1)).before args0 about1 = true := by
  rw [allAtoms_all]
  show words1.all (fun c => c.before args0 about1) = true
  refine all_split ?_ w_codes
  rw [← List.take_append_drop 24 words1, List.all_append, w_t1, w_t2]
  rfl
set_option maxRecDepth 65536 in
theorem w_case : (Jvm.Cond.and given_1 narrow_1).before args0 about1 = true := by decide +kernel
theorem w_applies : (headSpec (Jvm.Cond.code x code maxLocals ret :: tables_1) room_1).applies x e0.platform about1 = true :=
  (Spec.applies_iff w_frames).mpr ⟨w_running, w_runnable, w_alone, w_named, w_hears, w_ripe, w_room, w_tables⟩
theorem atStart : AtStart classFile x code maxLocals ret World_1 tables_1 room_1 Calls_1 rest_1 Pre_1 launch0 p0 e0 about1 theMethod args0 below0 :=
  ⟨lists_1, trivial, launch0.admits_env _ _ _, launch0.least_env, fairChoices_fair.cas, fairChoices_fair.clock, w_frames, w_args, w_heap, w_applies, trivial, trivial, w_case⟩
end start1
theorem witness_1 : WitnessClaimed_1 := ⟨start1.p0, start1.e0, start1.about1, start1.theMethod, start1.args0, start1.below0, start1.atStart⟩
end Jvm.Pilot.@@N@@
