import JvmDerived
import JvmDerived.Pilot.@@N@@Statement
import JvmDerived.Pilot.@@N@@Code
set_option linter.unusedVariables false
set_option linter.unusedSimpArgs false
set_option maxRecDepth 65536
set_option maxHeartbeats 40000000
namespace Jvm.RoadKit
open Sem ClassFile Op Lib Jvm.Stand Jvm.Free Jvm.LawKit
section New
variable {p : Program} {l : Launch} {e : Env} {R : Room} {s : State} {m : MethodId} {args : Array Value} {below : List Frame} {meth : Method} {c : Code} {T : State} {locs : List Loc} {cells slots : Nat}
theorem retI (X : Stand p l e R s m args below meth c T locs cells slots) (hx : p.tables.exec = Jvm.exec) {pc : Nat} {Ls : Array Slot} {z : Int32} {rest : List Value} (hret : meth.sig.returnType = some .int) (hd : decode c.code pc = .ok (.ireturn, 1)) {fs : List Frame}
    (hl : ∀ (f : JFrame) (acts : List Action), f.method = m → f.locked = none → f.entered = [] → (doReturn e (T.setTop f) acts (some (.int z))).1 = T.setFrames fs) : Steps p.tables e below (T.setTop (mkF m pc Ls (.int z :: rest))) (T.setFrames fs) := by
  have hm' : T.vm.method? m = some meth := X.method'
  have hn : narrow .int (.int z) = .int z := rfl
  show Steps p.tables e below (T.setTop { method := m, pc := pc, locals := Ls, stack := _ :: rest, locked := none }) _
  jvm_step X.here [X.here.top, hx, hd, hm', hret, hn]
  first | (intro acts; rw [hl _ acts rfl rfl rfl]) | rw [hl _ _ rfl rfl rfl]
  exact Steps.refl _
end New
end Jvm.RoadKit
namespace Jvm.Pilot.@@N@@
open Jvm Jvm.ClassFile Sem Op Lib Jvm.Free Jvm.Stand Jvm.LawKit Jvm.RoadKit Bundle Jvm.Pilot.@@N@@.Jvm.D
theorem own_eqI {a : Array Value} {s : State} {t : Term} {n : Int32} (h : (Jvm.Cond.eq t (.int n)).value a s none s [] = some true) : t.eval a s none [] s = some (.int n) := by
  simp only [Cond.value, Term.eval] at h
  cases ht : t.eval a s none [] s with
  | none => simp [ht] at h
  | some x => cases x <;> simp [ht] at h; rw [h]
abbrev o0 : Value := .int (0 : Int32)
abbrev HW (Z : State) (a0 : Array Value) : Prop := ∀ d ∈ tables_1, d.before a0 Z = true
theorem own_W {Z : State} {a0 : Array Value} (hw : HW Z a0) (i : Nat) {c : Jvm.Cond} (q : tables_1[i]? = some c) : c.before a0 Z = true := hw c (List.mem_of_getElem? q)
abbrev Met (l : Launch) (Z : State) (ws : List Jvm.Cond) (y : MethodName) (bytes : ByteArray) (maxL : Nat) (ret : Option FieldType) (rm : Room) (as' : Array Value) (h0 : Heap) (Q : Option Value → Heap → List Loc → Prop) : Prop :=
  MetFree l y (head1 (Jvm.Cond.code y bytes maxL ret :: ws) rm) (fun a U => a = as' ∧ Z.Warmed39 U.vm ∧ U.heap = h0) (fun _ _ _ _ _ => True) (fun _ U o U' => ∃ v L, o = .returned v ∧ Q v U'.heap L ∧ FrameEnd U o U' L rm.cells rm.slots)
abbrev MetW (l : Launch) (Z : State) (ws : List Jvm.Cond) (y : MethodName) (bytes : ByteArray) (maxL : Nat) (ret : Option FieldType) (rm : Room) (as' : Array Value) (h0 : Heap) (Q : Option Value → Heap → List Loc → Prop) : Prop :=
  MetFree l y (head1 (Jvm.Cond.code y bytes maxL ret :: ws) rm) (fun a U => a = as' ∧ Z.Warmed39 U.vm ∧ U.heap = h0) (fun _ _ _ _ _ => True) (fun _ U o U' => ∃ v L, o = .returned v ∧ Q v U'.heap L ∧ ReturnedEndW U o U' L rm.cells rm.slots)
abbrev MetH (l : Launch) (Z : State) (ws : List Jvm.Cond) (y : MethodName) (bytes : ByteArray) (maxL : Nat) (ret : Option FieldType) (rm : Room) (as' : Array Value) (h0 : Heap) (EL : List (String × Nat)) (sf : List Addr) (Q : Option Value → Heap → List Loc → Prop) : Prop :=
  MetFree l y (head1 (Jvm.Cond.code y bytes maxL ret :: ws) rm) (fun a U => a = as' ∧ Z.Warmed39 U.vm ∧ U.heap = h0 ∧ CHv Z EL U.vm h0 ∧ ∀ x ∈ sf, Safe Z EL U.vm h0 x) (fun _ _ _ _ _ => True) (fun _ U o U' => ∃ v L, o = .returned v ∧ Q v U'.heap L ∧ CHr Z EL U.vm U.heap U'.vm U'.heap ∧ ReturnedEndW U o U' L rm.cells rm.slots)
section Own
variable {l : Launch} {Z : State} {ws : List Jvm.Cond} {y : MethodName} {bytes : ByteArray} {maxL : Nat} {ret : Option FieldType} {rm : Room} {as' : Array Value} {h0 : Heap} {EL : List (String × Nat)} {sf : List Addr} {Q : Option Value → Heap → List Loc → Prop}
theorem own_mk (hp : plainFor y = true)
    (body : ∀ (p : Program) (e : Env) (s : State) (m : MethodId) (below : List Frame) (meth : Method) (c : Code) (s₁ : State), Z.Warmed39 s.vm → p.tables.exec = Jvm.exec → c.code = bytes → c.maxLocals = maxL → s.vm.findClass y.cls = some m.cls → meth.name = y.name → meth.sig.returnType = ret → meth.locks = false → Stand p l e rm s m as' below meth c s₁ [] 0 0 → s₁.heap = h0 →
      ∃ (T : State) (v : Option Value) (L : List Loc) (k n : Nat), Stand p l e rm s m as' below meth c T L k n ∧ k ≤ rm.cells ∧ n ≤ rm.slots ∧ (ret = none → v = none) ∧ Q v T.heap L ∧ ∀ fs, (∀ (f : JFrame) (acts : List Action), f.method = m → f.locked = none → f.entered = [] → (doReturn e (T.setTop f) acts v).1 = T.setFrames fs) → Steps p.tables e below (s₁.setTop (entryFrame m as' maxL)) (T.setFrames fs)) : Met l Z ws y bytes maxL ret rm as' h0 Q := by
  refine MetFree.of_bodySF hp hisR ?_
  intro p e s m args below meth c s₁ Bd hml hP hK
  obtain ⟨rfl, hZ, hh⟩ := hP
  have e0 : s₁.heap = h0 := by rw [← hh, Bd.state]; rfl
  obtain ⟨T, v, L, k, n, X, hk, hn, hv, hQ, st⟩ := body p e s m below meth c s₁ hZ Bd.exec Bd.bytes hml (findClass_of_methodNamed Bd.named) (name_of_methodNamed Bd.named Bd.method).1 Bd.returns Bd.notSynchronized (Stand.of_body Bd) e0
  obtain ⟨fs, hr, hrun, hended, hW, hsame⟩ := X.leave (v := v) (fun q => hv (Bd.returns.symm.trans q))
  exact ⟨_, _, st fs hr, hrun, hended, _, _, rfl, hQ, ⟨_, rfl⟩, hW, hsame.mono hk hn⟩
theorem own_mkW (hp : plainFor y = true)
    (body : ∀ (p : Program) (e : Env) (s : State) (m : MethodId) (below : List Frame) (meth : Method) (c : Code) (s₁ : State), Z.Warmed39 s.vm → p.tables.exec = Jvm.exec → c.code = bytes → c.maxLocals = maxL → s.vm.findClass y.cls = some m.cls → meth.name = y.name → meth.sig.returnType = ret → meth.locks = false → Stand p l e rm s m as' below meth c s₁ [] 0 0 → s₁.heap = h0 →
      ∃ (T : State) (v : Option Value) (L : List Loc) (k n : Nat) (vm1 : Vm) (n1 : Nat), Stand p l e rm (s.setVm vm1) m as' below meth c T L k n ∧ s.Since vm1 n1 ∧ n1 ≤ T.heap.size ∧ k ≤ rm.cells ∧ n ≤ rm.slots ∧ (ret = none → v = none) ∧ Q v T.heap L ∧ ∀ fs, (∀ (f : JFrame) (acts : List Action), f.method = m → f.locked = none → f.entered = [] → (doReturn e (T.setTop f) acts v).1 = T.setFrames fs) → Steps p.tables e below (s₁.setTop (entryFrame m as' maxL)) (T.setFrames fs)) : MetW l Z ws y bytes maxL ret rm as' h0 Q := by
  refine MetFree.of_bodySF hp hisR ?_
  intro p e s m args below meth c s₁ Bd hml hP hK
  obtain ⟨rfl, hZ, hh⟩ := hP
  have e0 : s₁.heap = h0 := by rw [← hh, Bd.state]; rfl
  obtain ⟨T, v, L, k, n, vm1, n1, X, hS, hn1, hk, hn, hv, hQ, st⟩ := body p e s m below meth c s₁ hZ Bd.exec Bd.bytes hml (findClass_of_methodNamed Bd.named) (name_of_methodNamed Bd.named Bd.method).1 Bd.returns Bd.notSynchronized (Stand.of_body Bd) e0
  obtain ⟨fs, hr, hrun, hended, hW⟩ := Stand.leaveW X hS hn1 (v := v) (fun q => hv (Bd.returns.symm.trans q))
  exact ⟨_, _, st fs hr, hrun, hended, _, _, rfl, hQ, hW.1, hW.2.1, hW.2.2.1, hW.2.2.2.mono hk hn⟩
theorem own_mkH (hp : plainFor y = true)
    (body : ∀ (p : Program) (e : Env) (s : State) (m : MethodId) (below : List Frame) (meth : Method) (c : Code) (s₁ : State), Z.Warmed39 s.vm → p.tables.exec = Jvm.exec → c.code = bytes → c.maxLocals = maxL → s.vm.findClass y.cls = some m.cls → meth.name = y.name → meth.sig.returnType = ret → meth.locks = false → Stand p l e rm s m as' below meth c s₁ [] 0 0 → s₁.heap = h0 → CHv Z EL s.vm h0 → (∀ x ∈ sf, Safe Z EL s.vm h0 x) →
      ∃ (T : State) (v : Option Value) (L : List Loc) (k n : Nat) (vm1 : Vm) (n1 : Nat), Stand p l e rm (s.setVm vm1) m as' below meth c T L k n ∧ s.Since vm1 n1 ∧ n1 ≤ T.heap.size ∧ k ≤ rm.cells ∧ n ≤ rm.slots ∧ (ret = none → v = none) ∧ Q v T.heap L ∧ CHr Z EL s.vm h0 T.vm T.heap ∧ ∀ fs, (∀ (f : JFrame) (acts : List Action), f.method = m → f.locked = none → f.entered = [] → (doReturn e (T.setTop f) acts v).1 = T.setFrames fs) → Steps p.tables e below (s₁.setTop (entryFrame m as' maxL)) (T.setFrames fs)) : MetH l Z ws y bytes maxL ret rm as' h0 EL sf Q := by
  refine MetFree.of_bodySF hp hisR ?_
  intro p e s m args below meth c s₁ Bd hml hP hK
  obtain ⟨rfl, hZ, hh, H0, hsf⟩ := hP
  have e0 : s₁.heap = h0 := by rw [← hh, Bd.state]; rfl
  obtain ⟨T, v, L, k, n, vm1, n1, X, hS, hn1, hk, hn, hv, hQ, hC, st⟩ := body p e s m below meth c s₁ hZ Bd.exec Bd.bytes hml (findClass_of_methodNamed Bd.named) (name_of_methodNamed Bd.named Bd.method).1 Bd.returns Bd.notSynchronized (Stand.of_body Bd) e0 H0 hsf
  obtain ⟨fs, hr, hrun, hended, hW⟩ := Stand.leaveW X hS hn1 (v := v) (fun q => hv (Bd.returns.symm.trans q))
  have hC' : CHr Z EL s.vm s.heap (T.setFrames fs).vm (T.setFrames fs).heap := by
    have a : (T.setFrames fs).vm = T.vm := rfl
    have b : (T.setFrames fs).heap = T.heap := rfl
    rw [a, b, hh]; exact hC
  exact ⟨_, _, st fs hr, hrun, hended, _, _, rfl, hQ, hC', hW.1, hW.2.1, hW.2.2.1, hW.2.2.2.mono hk hn⟩
end Own
abbrev SS (p : Program) (e : Env) (b : List Frame) (T : State) (m : MethodId) (pc : Nat) (L : Array Slot) (S : List Value) (t : State) : Prop := Steps p.tables e b (T.setTop (mkF m pc L S)) t
section OwnC
variable {p : Program} {l : Launch} {e : Env} {R : Room} {s : State} {m : MethodId} {args : Array Value} {below : List Frame} {meth : Method} {c : Code} {T : State} {locs : List Loc} {cells slots : Nat} {Z : State} {a0 : Array Value} {h : Heap} {own : String} {index ml pc maxL : Nat} {y z : MethodName} {bytes : ByteArray} {ret : Option FieldType} {rm : Room} {as' : Array Value} {Q : Option Value → Heap → List Loc → Prop} {ps : List FieldType} {r : Option FieldType} {b : Addr} {C : String}
/-- what a call asks of the room -/
abbrev Rok (R rm : Room) (cells slots maxL W : Nat) (y : MethodName) : Prop := (y.cls ≠ "java/lang/invoke/MethodHandle" ∧ y.cls ≠ "java/lang/invoke/VarHandle") ∧ rm.frames + 1 ≤ R.frames ∧ W + (maxL + 11) + rm.locals ≤ R.locals ∧ cells + rm.cells ≤ R.cells ∧ slots + rm.slots ≤ R.slots
theorem own_cs (X : Stand p l e R s m args below meth c T locs cells slots) (hx : p.tables.exec = Jvm.exec) (hZ : Z.Warmed39 s.vm) (hown : s.vm.findClass own = some m.cls) (hml : c.maxLocals = ml) (w1 : (Jvm.Cond.methodLink own index y).before a0 Z = true) (w2 : (Jvm.Cond.static y).before a0 Z = true) (w3 : (Jvm.Cond.initialized y.cls).before a0 Z = true) (w4 : (Jvm.Cond.code y bytes maxL ret).before a0 Z = true)
    (hM : Met l Z [] y bytes maxL ret rm as' h Q) (eT : T.heap = h) (hd : decode c.code pc = .ok (.invokestatic index, 3)) (W : Nat) (Ls : Array Slot) (argsL rest : List Value) (pd : parseMethodDescriptor y.desc = some ⟨ps, r⟩) (ok : Rok R rm cells slots maxL W y := by decide) (hsz : Ls.size = ml := by rfl) (hln : argsL.length = ps.length := by rfl) (has : argsL.toArray = as' := by rfl) (hW : 2 * 0 + (rest.map fun v => v.category).sum ≤ W := by exact Nat.le_of_eq rfl) :
    ∃ v T' L', Stand p l e R s m args below meth c T' (locs ++ L') (cells + rm.cells) (slots + rm.slots) ∧ Q v T'.heap L' ∧ ∀ t, SS p e below T' m (pc + 3) Ls (v.toList ++ rest) t → SS p e below T m pc Ls (argsL.reverse ++ rest) t := by
  obtain ⟨v, _, ⟨T', L, k, n⟩, -, X', ⟨Lc, hQ, rfl, rfl, rfl⟩, st⟩ := Jvm.LawKit.callS X hx (y := y) hown (mvT hZ w1) (mvT hZ w2) (mvT hZ w3) (mvT hZ w4) ok.1 (backOf (W := W) hM hZ w4 w3 ok.2.1 ok.2.2.1) (g := mkF m pc Ls (argsL.reverse ++ rest)) rfl (hsz.trans hml.symm) (argsL := argsL) (rest := rest) (lenOf pd hln) rfl hW hd (fun _ _ => ⟨has, eT, ok.2.2.2.1, ok.2.2.2.2⟩)
  exact ⟨v, T', Lc, X', hQ, st⟩
theorem own_cp (X : Stand p l e R s m args below meth c T locs cells slots) (hx : p.tables.exec = Jvm.exec) (hZ : Z.Warmed39 s.vm) (hown : s.vm.findClass own = some m.cls) (hml : c.maxLocals = ml) (hy : y.name = "<init>") (w1 : (Jvm.Cond.methodLink own index y).before a0 Z = true) (w2 : (Jvm.Cond.instanceMethod y).before a0 Z = true) (w3 : (Jvm.Cond.initialized y.cls).before a0 Z = true) (w4 : (Jvm.Cond.code y bytes maxL none).before a0 Z = true)
    (hM : Met l Z [] y bytes maxL none rm as' h Q) (eT : T.heap = h) (hd : decode c.code pc = .ok (.invokespecial index, 3)) (W : Nat) (Ls : Array Slot) (b : Addr) (argsL rest : List Value) (pd : parseMethodDescriptor y.desc = some ⟨ps, r⟩) (ok : Rok R rm cells slots maxL W y := by decide) (hsz : Ls.size = ml := by rfl) (hln : argsL.length = ps.length := by rfl) (has : (.ref b :: argsL).toArray = as' := by rfl) (hW : 2 * 0 + (rest.map fun v => v.category).sum ≤ W := by exact Nat.le_of_eq rfl) :
    ∃ v T' L', Stand p l e R s m args below meth c T' (locs ++ L') (cells + rm.cells) (slots + rm.slots) ∧ Q v T'.heap L' ∧ ∀ t, SS p e below T' m (pc + 3) Ls (v.toList ++ rest) t → SS p e below T m pc Ls (argsL.reverse ++ .ref b :: rest) t := by
  obtain ⟨v, _, ⟨T', L, k, n⟩, -, X', ⟨Lc, hQ, rfl, rfl, rfl⟩, st⟩ := X.specialBack hx (y := y) hy hown (mvT hZ w1) (mvT hZ w2) (mvT hZ w4) ok.1 (backOf (W := W) hM hZ w4 w3 ok.2.1 ok.2.2.1) (g := mkF m pc Ls (argsL.reverse ++ .ref b :: rest)) rfl (hsz.trans hml.symm) (Steps.refl _) (a := b) (argsL := argsL) (rest := rest) (lenOf pd hln) rfl hW hd (fun _ _ => ⟨has, eT, ok.2.2.2.1, ok.2.2.2.2⟩)
  exact ⟨v, T', Lc, X', hQ, fun t q => st.trans q⟩
theorem own_cv (X : Stand p l e R s m args below meth c T locs cells slots) (hx : p.tables.exec = Jvm.exec) (hZ : Z.Warmed39 s.vm) (hown : s.vm.findClass own = some m.cls) (hml : c.maxLocals = ml) (w1 : (Jvm.Cond.methodLink own index y).before a0 Z = true) (w2 : (Jvm.Cond.declares y).before a0 Z = true) (nf : NotFace Z y) (ws : (Jvm.Cond.selects C y z).before a0 Z = true) (wi : (Jvm.Cond.instanceMethod z).before a0 Z = true) (w3 : (Jvm.Cond.initialized z.cls).before a0 Z = true) (w4 : (Jvm.Cond.code z bytes maxL ret).before a0 Z = true)
    (hM : Met l Z [] z bytes maxL ret rm as' h Q) (eT : T.heap = h) (E : Exa Z h b C) (hd : decode c.code pc = .ok (.invokevirtual index, 3)) (W : Nat) (Ls : Array Slot) (argsL rest : List Value) (pd : parseMethodDescriptor y.desc = some ⟨ps, r⟩) (ok : Rok R rm cells slots maxL W y := by decide) (hsz : Ls.size = ml := by rfl) (hln : argsL.length = ps.length := by rfl) (has : (.ref b :: argsL).toArray = as' := by rfl) (hW : 2 * 0 + (rest.map fun v => v.category).sum ≤ W := by exact Nat.le_of_eq rfl) :
    ∃ v T' L', Stand p l e R s m args below meth c T' (locs ++ L') (cells + rm.cells) (slots + rm.slots) ∧ Q v T'.heap L' ∧ ∀ t, SS p e below T' m (pc + 3) Ls (v.toList ++ rest) t → SS p e below T m pc Ls (argsL.reverse ++ .ref b :: rest) t := by
  obtain ⟨cB, kB, qa, qb, qc⟩ := isOf hZ eT E
  obtain ⟨v, _, ⟨T', L, k, n⟩, -, X', ⟨Lc, hQ, rfl, rfl, rfl⟩, st⟩ := X.virtualBack hx (y := y) (z := z) hown (mvT hZ w1) (mvT hZ w2) (nf.move hZ.alike) (mvT hZ ws) (mvT hZ wi) ok.1 (backOf (W := W) hM hZ w4 w3 ok.2.1 ok.2.2.1) qa qc (g := mkF m pc Ls (argsL.reverse ++ .ref b :: rest)) rfl (hsz.trans hml.symm) (Steps.refl _) (argsL := argsL) (rest := rest) (lenOf pd hln) rfl hW hd (fun _ _ => ⟨has, eT, ok.2.2.2.1, ok.2.2.2.2⟩)
  exact ⟨v, T', Lc, X', hQ, fun t q => st.trans q⟩
end OwnC
theorem own_che {Z T : State} {EL : List (String × Nat)} {vm : Vm} {h0 h : Heap} (e : T.heap = h) (C : CHr Z EL vm h0 T.vm h) : CHr Z EL vm h0 T.vm T.heap := by rw [e]; exact C
theorem own_sf0 {Z : State} {EL : List (String × Nat)} {vm : Vm} {h : Heap} : ∀ x ∈ ([] : List Addr), Safe Z EL vm h x ∧ x < h.size := fun _ q => nomatch q
theorem own_sfS {Z : State} {EL : List (String × Nat)} {vm : Vm} {h : Heap} {x : Addr} {ws : List Addr} (n : Safe Z EL vm h x) (lt : x < h.size) (r : ∀ y ∈ ws, Safe Z EL vm h y ∧ y < h.size) : ∀ y ∈ x :: ws, Safe Z EL vm h y ∧ y < h.size := fun y q => by
  rcases List.mem_cons.mp q with rfl | q
  · exact ⟨n, lt⟩
  · exact r y q
theorem own_backH {l : Launch} {R : Room} {p : Program} {e : Env} {below : List Frame} {Z s : State} {a0 args : Array Value} {EL : List (String × Nat)} {h : Heap} {vm0 : Vm} {y : MethodName} {bytes : ByteArray} {maxL : Nat} {ret : Option FieldType} {rm : Room} {len W : Nat} {as' : Array Value} {sf : List Addr} {Q : Option Value → Heap → List Loc → Prop}
    (hM : MetFree l y (head1 [Jvm.Cond.code y bytes maxL ret] rm) (fun a U => a = as' ∧ Z.Warmed39 U.vm ∧ U.heap = h ∧ CHv Z EL U.vm h ∧ ∀ x ∈ sf, Safe Z EL U.vm h x) (fun _ _ _ _ _ => True) (fun _ U o U' => ∃ v L, o = .returned v ∧ Q v U'.heap L ∧ CHr Z EL U.vm U.heap U'.vm U'.heap ∧ ReturnedEndW U o U' L rm.cells rm.slots))
    (hZ : Z.Warmed39 vm0) (wc : (Jvm.Cond.code y bytes maxL ret).before a0 Z = true) (wz : (Jvm.Cond.initialized y.cls).before a0 Z = true) (hf : rm.frames + 1 ≤ R.frames) (hl : W + (maxL + 11) + rm.locals ≤ R.locals) (hEL : EW Z a0 EL) (H : CHv Z EL vm0 h) (hs : ∀ x ∈ sf, Safe Z EL vm0 h x ∧ x < h.size) :
    BackS l R p e below (s.setVm vm0) args y len W (fun A a => a = as' ∧ A.U.heap = h ∧ A.cells + rm.cells ≤ R.cells ∧ A.slots + rm.slots ≤ R.slots)
      (fun A _ v B => ∃ L, Q v B.U.heap L ∧ B.locs = A.locs ++ L ∧ B.cells = A.cells + rm.cells ∧ B.slots = A.slots + rm.slots ∧ CHr Z EL vm0 h B.U.vm B.U.heap) := by
  refine BackS.of_freeW (bytes := bytes) (maxL := maxL) (ret := ret) (E := fun _ first o t L k n => (k = rm.cells ∧ n = rm.slots) ∧ (∃ v, o = .returned v ∧ Q v t.heap L) ∧ CHr Z EL first.vm first.heap t.vm t.heap) hM hf hl ?_ ?_ ?_ ?_ ?_
  · intro m meth c A a Y hp
    have hU : Z.Warmed39 A.U.vm := wtrans (s := s.setVm vm0) hZ Y.warmed
    refine ⟨?_, mv hU wc, mv hU wz, hp.2.2.1, hp.2.2.2⟩
    show (Jvm.Cond.and _ .tt).before a A.U = true
    rw [Cond.before_and, mv hU wc]; rfl
  · intro m meth c A a g mk Y hp
    have q := CHv.at Y hZ hEL H
    exact ⟨hp.1, wtrans (s := s.setVm vm0) hZ Y.warmed, hp.2.1, q.1, fun x hx => q.safe (hs x hx).2 (hs x hx).1⟩
  · intros; trivial
  · rintro _ _ _ _ ⟨v, L, h1, h2, h3, h4⟩
    exact ⟨L, _, _, h4, ⟨rfl, rfl⟩, ⟨v, h1, h2⟩, h3⟩
  · rintro m meth c A a g mk v t L k n Y hp - - ⟨⟨rfl, rfl⟩, ⟨v', e3, e4⟩, e5⟩
    cases e3
    refine ⟨L, e4, rfl, rfl, rfl, (CHv.at Y hZ hEL H).trans ?_⟩
    have e6 : (A.U.calling g mk a).heap = h := hp.2.1
    rw [e6] at e5
    exact e5
def Elt (Z : State) (h : Heap) (a : Addr) (ty : FieldType) (j : Int32) (v : Value) : Prop := ∃ c : Cell, Arr Z h a c ty ∧ ¬ (j < 0 ∨ c.slots.size ≤ j.toNatClampNeg) ∧ c.slots[j.toNatClampNeg]? = some v
theorem Elt.ext {Z : State} {h h' : Heap} {a : Addr} {ty : FieldType} {j : Int32} {v : Value} (F : Elt Z h a ty j v) (E : Ext h h') : Elt Z h' a ty j v := by obtain ⟨c, A, r⟩ := F; exact ⟨c, A.ext E, r⟩
theorem Elt.lt {Z : State} {h : Heap} {a : Addr} {ty : FieldType} {j : Int32} {v : Value} (F : Elt Z h a ty j v) : a < h.size := by obtain ⟨c, A, -⟩ := F; exact A.lt
theorem own_arvty {Z : State} {h : Heap} {a b : Addr} {k1 k2 : ClassId} {t1 t2 : FieldType} {z1 z2 : Int32} {v1 v2 : List Value} {d1 d2 : Value} (A : Arv Z h a k1 t1 z1 v1 d1) (B : Arv Z h b k2 t2 z2 v2 d2) (hn : t1 ≠ t2) : a ≠ b := fun e => by
  subst e
  obtain ⟨c1, ⟨a1, ⟨-, q1, r1, m1, w1⟩, -⟩, -⟩ := A
  obtain ⟨c2, ⟨a2, ⟨-, q2, r2, m2, w2⟩, -⟩, -⟩ := B
  cases a1.symm.trans a2
  cases r1.symm.trans r2
  rw [w1] at w2
  injection w2 with _ e2
  exact hn e2
theorem own_decl {args : Array Value} {s : State} {y : MethodName} {bytes : ByteArray} {maxL : Nat} {ret : Option FieldType} (hi : (Jvm.Cond.instanceMethod y).before args s = true) (hc : (Jvm.Cond.code y bytes maxL ret).before args s = true) : (Jvm.Cond.declares y).before args s = true := by
  obtain ⟨mk, methM, hnamed, hmethM, hst, hab⟩ := Cond.instanceMethod_spec hi
  obtain ⟨m2, cM, q1, -, -, -, -, -, -, hsig⟩ := Cond.code_spec hnamed hc
  cases hmethM.symm.trans q1
  simp [Cond.before, Cond.holds, Cond.value, hnamed, hmethM, hst, hsig]
theorem own_char (x : Int32) (h1 : ¬ ((255 : Int32) < x)) (h2 : ¬ (x < (0 : Int32))) : x.toUInt32.toUInt16.toUInt32.toInt32 = x ∧ (x.toInt8.toInt32 &&& (255 : Int32)) = x := by
  have e1 := c_i2c x
  have e2 := c_mask x.toInt8.toInt32 255 8 (by decide) (by decide)
  have e3 := c_i2b x
  simp only [Int32.lt_iff_toInt_lt, Int32.reduceToInt] at h1 h2
  constructor
  · rw [← Int32.toInt_inj]; omega
  · rw [← Int32.toInt_inj, e2]; omega
theorem own_c255 (x : Int32) : ¬ ((255 : Int32) < (x &&& (255 : Int32))) ∧ ¬ ((x &&& (255 : Int32)) < (0 : Int32)) := by
  have e2 := c_mask x 255 8 (by decide) (by decide)
  simp only [Int32.lt_iff_toInt_lt, Int32.reduceToInt, e2]
  omega
theorem own_narB (x : Int32) : nar .byte (x.toInt8.toInt32) = x.toInt8.toInt32 := by
  show x.toInt8.toInt32.toInt8.toInt32 = x.toInt8.toInt32
  simp
theorem own_narC (x : Int32) : nar .char (x.toUInt32.toUInt16.toUInt32.toInt32) = x.toUInt32.toUInt16.toUInt32.toInt32 := by
  show x.toUInt32.toUInt16.toUInt32.toInt32.toUInt32.toUInt16.toUInt32.toInt32 = _
  have e1 := c_i2c x
  have e2 := c_i2c (x.toUInt32.toUInt16.toUInt32.toInt32)
  rw [← Int32.toInt_inj]; omega
theorem own_nput {t : FieldType} {x : Int32} (ht : t = .boolean ∨ t = .byte ∨ t = .char ∨ t = .short) (h : nar t x = x) : narrow t (.int x) = .int x := by
  have q : narrow t (.int x) = .int (nar t x) := by rcases ht with rfl | rfl | rfl | rfl <;> rfl
  rw [q, h]
theorem own_fput {t : FieldType} {x : Int32} (ht : t = .boolean ∨ t = .byte ∨ t = .char ∨ t = .short) (h : nar t x = x) : fits t (.int x) = true := by
  rw [← h]
  rcases ht with rfl | rfl | rfl | rfl
  · exact fits_nar_bool x
  · exact fits_nar_byte x
  · exact fits_nar_char x
  · exact fits_nar_short x
theorem own_nf {args : Array Value} {s : State} {C : String} {x y z : MethodName} (e : z.cls = y.cls) (hsel : (Jvm.Cond.selects C x y).before args s = true) : NotFace s z := fun r0 h0 => by
  obtain ⟨c2, r2, m2, q1, q2, q3, q4, kP, hkP, hkPi⟩ := Cond.selects_spec hsel
  have a := findClass_of_methodNamed h0
  have b := findClass_of_methodNamed q3
  rw [e] at a
  have q : r0.cls = m2.cls := Option.some.inj (a.symm.trans b)
  exact ⟨kP, by rw [q]; exact hkP, hkPi⟩
theorem own_same {args : Array Value} {s : State} {y : MethodName} (hm : y.cls ≠ "java/lang/invoke/MethodHandle" ∧ y.cls ≠ "java/lang/invoke/VarHandle") (hd : (Jvm.Cond.instanceMethod y).before args s = true) (nf : NotFace s y) : (Jvm.Cond.sameMethod y.cls y.cls y.name y.desc).before args s = true := by
  obtain ⟨mk, methM, hnamed, hmethM, hstM, habM⟩ := Cond.instanceMethod_spec hd
  obtain ⟨k, hk, hni⟩ := nf mk hnamed
  have a := findClass_of_methodNamed hnamed
  have f := State.methodFound?_of_named hnamed hm
  have hnamed' : s.methodNamed? ⟨y.cls, y.name, y.desc⟩ = some mk := hnamed
  simp [Cond.before, Cond.holds, Cond.value, a, f, hnamed', hk, hni]
theorem own_neI {a : Array Value} {s : State} {t : Term} {n x : Int32} (e : t.eval a s none [] s = some (.int x)) (h : (Jvm.Cond.not (.eq t (.int n))).value a s none s [] = some true) : ¬ (x = n) := by
  have h := not_v h
  simp only [Cond.value, Term.eval, e] at h
  simpa using h
theorem own_neR {a : Array Value} {s : State} {t u : Term} {b c : Addr} (ht : t.eval a s none [] s = some (.ref b)) (hu : u.eval a s none [] s = some (.ref c)) (h : (Jvm.Cond.not (.eq t u)).value a s none s [] = some true) : b ≠ c := fun e => by
  subst e
  have h := not_v h
  simp only [Cond.value, ht, hu] at h
  simp at h
theorem own_lenA {a : Array Value} {s : State} {t : Term} {b : Addr} {c : Cell} {ty : FieldType} {n : Int32} (ev : t.eval a s none [] s = some (.ref b)) (A : Arr s s.heap b c ty) (h : (Term.length t).eval a s none [] s = some (.int n)) : c.slots.size < 2 ^ 31 ∧ c.slots.size.toInt32 = n := by
  have hf := A.fin (Vm.Alike.refl _)
  by_cases q : c.slots.size < 2 ^ 31
  · have e := len_f ev hf q
    rw [h] at e
    exact ⟨q, by injection e with e; injection e with e; exact e.symm⟩
  · simp [Term.eval, ev, hf] at h
    omega
theorem own_elA {a : Array Value} {s : State} {t : Term} {b : Addr} {c : Cell} {ty : FieldType} {j : Int32} {v : Value} (ev : t.eval a s none [] s = some (.ref b)) (A : Arr s s.heap b c ty) (nj : ¬ j < 0) (h : (Term.elem t (.int j)).eval a s none [] s = some v) : c.slots[j.toNatClampNeg]? = some v :=
  (elem_f ev (Term.int_eval j) (A.fin (Vm.Alike.refl _)) nj).symm.trans h
theorem own_nsroot {Z : State} {a0 : Array Value} {O K : String} {n : Nat} (w : (Jvm.Cond.noSuperclass O).before a0 Z = true) (wk : (Jvm.Cond.instantiable K n).before a0 Z = true) (hn : O ≠ K) : NS Z O K := by
  obtain ⟨c, k, h1, h2, h3, -, -⟩ := Cond.noSuperclass_spec w
  obtain ⟨t, k', g1, -⟩ := Cond.instantiable_spec wk
  have ne := ids_ne h1 g1 hn
  refine ⟨c, t, h1, g1, fun fuel => ?_⟩
  cases fuel with
  | zero => rfl
  | succ f => simp [Vm.isSubclassAux, ne, h2, h3]
theorem own_nsno {Z : State} {a0 : Array Value} {C S K : String} {n : Nat} (w : (Jvm.Cond.superclass C S).before a0 Z = true) (wk : (Jvm.Cond.instantiable K n).before a0 Z = true) (q : NS Z C K) (hn : C ≠ K) : ∃ c t, Z.vm.findClass C = some c ∧ Z.vm.findClass K = some t ∧ Z.vm.assignable c t = false := by
  obtain ⟨c, t, h0, g0, n3⟩ := q
  obtain ⟨p, k, kp, h1, h2, h3, h4, h5, -, h7⟩ := Cond.superclass_spec h0 w
  obtain ⟨t', k', g1, g2, g3, g4, -⟩ := Cond.instantiable_spec wk
  cases g0.symm.trans g1
  refine ⟨c, t, h0, g0, ?_⟩
  cases e : Z.vm.assignable c t with
  | false => rfl
  | true =>
    have g5 : k'.isInterface = false := by
      cases z : k'.isInterface with
      | false => rfl
      | true => simp [z] at g4
    have a := isSubclass_of_assignable h2 g2 h5 g3 g5 e
    have b : Z.vm.isSubclass c t = false := n3 _
    rw [b] at a; cases a
theorem own_eqR {a : Array Value} {s : State} {t u : Term} {b : Addr} (hu : u.eval a s none [] s = some (.ref b)) (h : (Jvm.Cond.eq t u).value a s none s [] = some true) : t.eval a s none [] s = some (.ref b) := by
  simp only [Cond.value, hu] at h
  cases ht : t.eval a s none [] s with
  | none => simp [ht] at h
  | some x => cases x <;> simp [ht] at h; rw [h]
abbrev MY0 : MethodName := ⟨"java/lang/StringLatin1", "equals", "([B[B)Z"⟩
abbrev MY1 : MethodName := ⟨"java/lang/String", "equals", "(Ljava/lang/Object;)Z"⟩
abbrev MY2 : MethodName := ⟨"com/example/duplex/duplex/compliance/Side", "values", "()[Lcom/example/duplex/duplex/compliance/Side;"⟩
abbrev MY3 : MethodName := ⟨"com/example/duplex/duplex/compliance/Side", "ofLabel", "(Ljava/lang/String;)Lcom/example/duplex/duplex/compliance/Side;"⟩
abbrev MY4 : MethodName := ⟨"com/example/duplex/duplex/compliance/Side", "label", "()Ljava/lang/String;"⟩
abbrev MY5 : MethodName := ⟨"java/lang/StringUTF16", "compress", "([CI[BII)I"⟩
abbrev MY6 : MethodName := ⟨"java/lang/StringUTF16", "compress", "([CII)[B"⟩
abbrev MY7 : MethodName := ⟨"java/lang/StringUTF16", "coderFromArrayLen", "([BI)B"⟩
abbrev MY8 : MethodName := ⟨"java/lang/String", "<init>", "([CIILjava/lang/Void;)V"⟩
abbrev MY9 : MethodName := ⟨"java/lang/String", "<init>", "([C)V"⟩
abbrev MY10 : MethodName := ⟨"com/example/duplex/duplex/compliance/SideOfLabelPinLaw", "str", "(ICCCCCCC)Ljava/lang/String;"⟩
abbrev FA11 (Z : State) (h : Heap) (a : Addr) (v : Value) : Prop := Fld Z h a "java/lang/String" "coder" "B" v
abbrev FA12 (Z : State) (h : Heap) (a : Addr) (v : Value) : Prop := Fld Z h a "java/lang/String" "value" "[B" v
abbrev FA13 (Z : State) (h : Heap) (a : Addr) (v : Value) : Prop := Fld Z h a "com/example/duplex/duplex/compliance/Side" "label" "Ljava/lang/String;" v
abbrev EA14 (Z : State) (h : Heap) (a : Addr) : Prop := Exa Z h a "java/lang/String"
abbrev EA15 (Z : State) (h : Heap) (a : Addr) : Prop := Exa Z h a "[Lcom/example/duplex/duplex/compliance/Side;"
abbrev EA16 (Z : State) (h : Heap) (a : Addr) : Prop := Exa Z h a "[B"
abbrev EA17 (Z : State) (h : Heap) (a : Addr) : Prop := Exa Z h a "com/example/duplex/duplex/compliance/Side"
abbrev SA18 (Z : State) (h : Heap) (v : Value) : Prop := Sta Z h "java/lang/String" "COMPACT_STRINGS" "Z" v
abbrev SA19 (Z : State) (h : Heap) (v : Value) : Prop := Sta Z h "com/example/duplex/duplex/compliance/Side" "$VALUES" "[Lcom/example/duplex/duplex/compliance/Side;" v
abbrev SA20 (Z : State) (h : Heap) (v : Value) : Prop := Sta Z h "jdk/internal/util/Preconditions" "SIOOBE_FORMATTER" "Ljava/util/function/BiFunction;" v
abbrev SA21 (Z : State) (h : Heap) (v : Value) : Prop := Sta Z h "com/example/duplex/duplex/compliance/Side" "CLIENT" "Lcom/example/duplex/duplex/compliance/Side;" v
abbrev SA22 (Z : State) (h : Heap) (v : Value) : Prop := Sta Z h "com/example/duplex/duplex/compliance/Side" "SERVER" "Lcom/example/duplex/duplex/compliance/Side;" v
abbrev us16 (x : Int32) : Int32 := (x.toUInt32 >>> ((16 : Int32) &&& 31).toUInt32).toInt32
abbrev us24 (x : Int32) : Int32 := (x.toUInt32 >>> ((24 : Int32) &&& 31).toUInt32).toInt32
abbrev us8 (x : Int32) : Int32 := (x.toUInt32 >>> ((8 : Int32) &&& 31).toUInt32).toInt32
abbrev NB (j : Int32) (c : Cell) : Prop := ¬ (j < 0 ∨ c.slots.size ≤ j.toNatClampNeg)
def Q0 (n0 : Nat) (v : Option Value) (L : List Loc) : Prop := v = some (.int 1) ∧ Fr n0 L
def QI (r : Int32) (h0 : Heap) (n0 : Nat) (v : Option Value) (h : Heap) (L : List Loc) : Prop := v = some (.int r) ∧ Fr n0 L ∧ h = h0
theorem own_nat {n : Int32} {k : Int32} (h : ¬ n < 0) (hk : ¬ k < 0) (q : n.toNatClampNeg = k.toNatClampNeg) : n = k := by
  rw [Int32.lt_iff_toInt_lt] at h hk
  simp only [Int32.toNatClampNeg] at q
  have z : (0 : Int32).toInt = 0 := rfl
  rw [z] at h hk
  rw [← Int32.toInt_inj]
  omega
def own_P (x0' x1' x2' x3' x4' x5' n : Int32) (vs : List Value) : Prop := n = 6 → ∃ e0' e1' e2' e3' e4' e5' : Int32, vs = [.int e0', .int e1', .int e2', .int e3', .int e4', .int e5'] ∧ ¬ (x0' = e0' ∧ x1' = e1' ∧ x2' = e2' ∧ x3' = e3' ∧ x4' = e4' ∧ x5' = e5')
theorem d_0 : decode jdk_43_method_13_code 0 = .ok (.aload_n 0, 1) := by decide +kernel
theorem d_1 : decode jdk_43_method_13_code 1 = .ok (.arraylength, 1) := by decide +kernel
theorem d_2 : decode jdk_43_method_13_code 2 = .ok (.aload_n 1, 1) := by decide +kernel
theorem d_3 : decode jdk_43_method_13_code 3 = .ok (.arraylength, 1) := by decide +kernel
theorem d_4 : decode jdk_43_method_13_code 4 = .ok (.if_icmp .ne 30, 3) := by decide +kernel
theorem d_5 : decode jdk_43_method_13_code 34 = .ok (.iconst 0, 1) := by decide +kernel
theorem d_6 : decode jdk_43_method_13_code 35 = .ok (.ireturn, 1) := by decide +kernel
theorem d_7 : decode jdk_43_method_13_code 7 = .ok (.iconst 0, 1) := by decide +kernel
theorem d_8 : decode jdk_43_method_13_code 8 = .ok (.istore_n 2, 1) := by decide +kernel
theorem d_9 : decode jdk_43_method_13_code 9 = .ok (.iload_n 2, 1) := by decide +kernel
theorem d_10 : decode jdk_43_method_13_code 10 = .ok (.aload_n 0, 1) := by decide +kernel
theorem d_11 : decode jdk_43_method_13_code 11 = .ok (.arraylength, 1) := by decide +kernel
theorem d_12 : decode jdk_43_method_13_code 12 = .ok (.if_icmp .ge 20, 3) := by decide +kernel
theorem d_13 : decode jdk_43_method_13_code 15 = .ok (.aload_n 0, 1) := by decide +kernel
theorem d_14 : decode jdk_43_method_13_code 16 = .ok (.iload_n 2, 1) := by decide +kernel
theorem d_15 : decode jdk_43_method_13_code 17 = .ok (.baload, 1) := by decide +kernel
theorem d_16 : decode jdk_43_method_13_code 18 = .ok (.aload_n 1, 1) := by decide +kernel
theorem d_17 : decode jdk_43_method_13_code 19 = .ok (.iload_n 2, 1) := by decide +kernel
theorem d_18 : decode jdk_43_method_13_code 20 = .ok (.baload, 1) := by decide +kernel
theorem d_19 : decode jdk_43_method_13_code 21 = .ok (.if_icmp .eq 5, 3) := by decide +kernel
theorem d_20 : decode jdk_43_method_13_code 24 = .ok (.iconst 0, 1) := by decide +kernel
theorem d_21 : decode jdk_43_method_13_code 25 = .ok (.ireturn, 1) := by decide +kernel
theorem d_22 : decode jdk_43_method_13_code 26 = .ok (.iinc 2 1, 3) := by decide +kernel
theorem d_23 : decode jdk_43_method_13_code 29 = .ok (.goto (-20), 3) := by decide +kernel
theorem ef_24 (m : MethodId) (v1 : Addr) (v2 : Addr) : entryFrame m #[(.ref v1), (.ref v2)] 3 = mkF m 0 #[rv v1, rv v2, .unset] [] := by first | (simp [entryFrame, mkF, argsToLocals, Value.category]; done) | rfl
theorem pn_25 : plainName "java/lang/StringLatin1" = true := by first | (simp [plainName, overriddenIn]; done) | decide +kernel
theorem own_l1_n (l : Launch) (Z : State) (a0 : Array Value) (hw : HW Z a0) (v1 : Addr) (v2 : Addr) (k1 : ClassId) (k2 : ClassId) (x0' : Int32) (x1' : Int32) (x2' : Int32) (x3' : Int32) (x4' : Int32) (x5' : Int32) (n : Int32) (vs : List Value) (h0 : Heap) (n0 : Nat) (O0 : Old Z n0 h0) (A_v1 : Arv Z h0 v1 k1 .byte 6 [(.int x0'), (.int x1'), (.int x2'), (.int x3'), (.int x4'), (.int x5')] (.int 0)) (A_v2 : Arv Z h0 v2 k2 .byte n vs (.int 0)) (hl : ¬ ((6 : Int32) = n)) :
    Met l Z [] MY0 jdk_43_method_13_code 3 (some .boolean) ({ frames := 0, cells := 0, slots := 0, locals := 0 } : Room) #[(.ref v1), (.ref v2)] h0 (QI (0 : Int32) h0 n0) := by
  have W := @own_W _ _ hw
  refine own_mk (plainFor_of_name pn_25) ?_
  intro p e s m below meth c s₁ hZ hx hby hml hown hnm hret hlk X0 e0
  have N0 := Fr.nil n0
  obtain ⟨c1, A1, q1, S1, N1, H1, G1⟩ := id A_v1
  obtain ⟨c2, A2, q2, S2, N2, H2, G2⟩ := id A_v2
  refine ⟨s₁, some (.int 0), _, _, _, X0, by decide, by decide, nofun, ?_, fun fs hr => castTop (ef_24 m v1 v2) ?_⟩
  · show QI (0 : Int32) h0 n0 _ s₁.heap _
    rw [e0]
    exact ⟨rfl, N0, rfl⟩
  · show SS p e below s₁ m 0 #[rv v1, rv v2, .unset] [] _
    refine XS.aloadN X0.here hx rfl (hb hby d_0) rfl rfl ?_
    refine X0.arraylength hx (by rw [e0]; exact A1.1) (State.isArrayOf_alike hZ.alike A1.2.1) (g := (mkF m 1 #[rv v1, rv v2, .unset] [(.ref v1)])) rfl rfl (hb hby d_1) _ ?_
    rw [len_of S1 N1]
    refine XS.aloadN X0.here hx rfl (hb hby d_2) rfl rfl ?_
    refine X0.arraylength hx (by rw [e0]; exact A2.1) (State.isArrayOf_alike hZ.alike A2.2.1) (g := (mkF m 3 #[rv v1, rv v2, .unset] [(.ref v2), (.int 6)])) rfl rfl (hb hby d_3) _ ?_
    rw [len_of S2 N2]
    refine XS.icmpYes X0.here hx rfl (pc0 := 4) (pc' := 34) rfl (hb hby d_4) rfl (feq hl).2 (by decide) (by decide) ?_
    refine XS.iconst X0.here hx rfl (hb hby d_5) ?_
    exact retN X0 hx (t := .boolean) hret (by simp) (hb hby d_6) hr
theorem own_l1_0 (l : Launch) (Z : State) (a0 : Array Value) (hw : HW Z a0) (v1 : Addr) (v2 : Addr) (k1 : ClassId) (k2 : ClassId) (x0' : Int32) (x1' : Int32) (x2' : Int32) (x3' : Int32) (x4' : Int32) (x5' : Int32) (e0' : Int32) (e1' : Int32) (e2' : Int32) (e3' : Int32) (e4' : Int32) (e5' : Int32) (h0 : Heap) (n0 : Nat) (O0 : Old Z n0 h0) (A_v1 : Arv Z h0 v1 k1 .byte 6 [(.int x0'), (.int x1'), (.int x2'), (.int x3'), (.int x4'), (.int x5')] (.int 0)) (A_v2 : Arv Z h0 v2 k2 .byte 6 [(.int e0'), (.int e1'), (.int e2'), (.int e3'), (.int e4'), (.int e5')] (.int 0)) (xe0 : ¬ (x0' = e0')) :
    Met l Z [] MY0 jdk_43_method_13_code 3 (some .boolean) ({ frames := 0, cells := 0, slots := 0, locals := 0 } : Room) #[(.ref v1), (.ref v2)] h0 (QI (0 : Int32) h0 n0) := by
  have W := @own_W _ _ hw
  refine own_mk (plainFor_of_name pn_25) ?_
  intro p e s m below meth c s₁ hZ hx hby hml hown hnm hret hlk X0 e0
  have N0 := Fr.nil n0
  obtain ⟨c1, A1, q1, S1, N1, H1, G1⟩ := id A_v1
  obtain ⟨c2, A2, q2, S2, N2, H2, G2⟩ := id A_v2
  obtain ⟨c3, A3, q3, S3, N3, H3, G3⟩ := id A_v1
  obtain ⟨c4, A4, q4, S4, N4, H4, G4⟩ := id A_v1
  have i5 : NB 0 c4 := inb_of S4 (by decide)
  obtain ⟨c6, A6, q6, S6, N6, H6, G6⟩ := id A_v2
  have i7 : NB 0 c6 := inb_of S6 (by decide)
  refine ⟨s₁, some (.int 0), _, _, _, X0, by decide, by decide, nofun, ?_, fun fs hr => castTop (ef_24 m v1 v2) ?_⟩
  · show QI (0 : Int32) h0 n0 _ s₁.heap _
    rw [e0]
    exact ⟨rfl, N0, rfl⟩
  · show SS p e below s₁ m 0 #[rv v1, rv v2, .unset] [] _
    refine XS.aloadN X0.here hx rfl (hb hby d_0) rfl rfl ?_
    refine X0.arraylength hx (by rw [e0]; exact A1.1) (State.isArrayOf_alike hZ.alike A1.2.1) (g := (mkF m 1 #[rv v1, rv v2, .unset] [(.ref v1)])) rfl rfl (hb hby d_1) _ ?_
    rw [len_of S1 N1]
    refine XS.aloadN X0.here hx rfl (hb hby d_2) rfl rfl ?_
    refine X0.arraylength hx (by rw [e0]; exact A2.1) (State.isArrayOf_alike hZ.alike A2.2.1) (g := (mkF m 3 #[rv v1, rv v2, .unset] [(.ref v2), (.int 6)])) rfl rfl (hb hby d_3) _ ?_
    rw [len_of S2 N2]
    refine XS.icmpNo X0.here hx rfl (hb hby d_4) rfl (teq (by decide : (6 : Int32) = (6 : Int32))).2 ?_
    refine XS.iconst X0.here hx rfl (hb hby d_7) ?_
    refine XS.istoreN X0.here hx rfl (hb hby d_8) rfl (l' := #[rv v1, rv v2, iv 0]) rfl ?_
    refine XS.iloadN X0.here hx rfl (hb hby d_9) rfl ?_
    refine XS.aloadN X0.here hx rfl (hb hby d_10) rfl rfl ?_
    refine X0.arraylength hx (by rw [e0]; exact A3.1) (State.isArrayOf_alike hZ.alike A3.2.1) (g := (mkF m 11 #[rv v1, rv v2, iv 0] [(.ref v1), (.int 0)])) rfl rfl (hb hby d_11) _ ?_
    rw [len_of S3 N3]
    show SS p e below s₁ m 12 #[rv v1, rv v2, iv 0] [(.int 6), (.int 0)] _
    refine XS.icmpNo X0.here hx rfl (hb hby d_12) rfl (tlt (by decide : (0 : Int32) < (6 : Int32))).2.1 ?_
    refine XS.aloadN X0.here hx rfl (hb hby d_13) rfl rfl ?_
    refine XS.iloadN X0.here hx rfl (hb hby d_14) rfl ?_
    refine X0.baloadBytes hx (j := 0) (v := (.int x0')) (by rw [e0]; exact A4.1) (State.isArrayOf_alike hZ.alike A4.2.1) A4.2.2 i5 (H4.at i5 rfl) (g := (mkF m 17 #[rv v1, rv v2, iv 0] [(.int 0), (.ref v1)])) rfl rfl (hb hby d_15) _ ?_
    refine XS.aloadN X0.here hx rfl (hb hby d_16) rfl rfl ?_
    refine XS.iloadN X0.here hx rfl (hb hby d_17) rfl ?_
    refine X0.baloadBytes hx (j := 0) (v := (.int e0')) (by rw [e0]; exact A6.1) (State.isArrayOf_alike hZ.alike A6.2.1) A6.2.2 i7 (H6.at i7 rfl) (g := (mkF m 20 #[rv v1, rv v2, iv 0] [(.int 0), (.ref v2), (.int x0')])) rfl rfl (hb hby d_18) _ ?_
    refine XS.icmpNo X0.here hx rfl (hb hby d_19) rfl (feq xe0).1 ?_
    refine XS.iconst X0.here hx rfl (hb hby d_20) ?_
    exact retN X0 hx (t := .boolean) hret (by simp) (hb hby d_21) hr
theorem own_l1_1 (l : Launch) (Z : State) (a0 : Array Value) (hw : HW Z a0) (v1 : Addr) (v2 : Addr) (k1 : ClassId) (k2 : ClassId) (x0' : Int32) (x1' : Int32) (x2' : Int32) (x3' : Int32) (x4' : Int32) (x5' : Int32) (e0' : Int32) (e1' : Int32) (e2' : Int32) (e3' : Int32) (e4' : Int32) (e5' : Int32) (h0 : Heap) (n0 : Nat) (O0 : Old Z n0 h0) (A_v1 : Arv Z h0 v1 k1 .byte 6 [(.int x0'), (.int x1'), (.int x2'), (.int x3'), (.int x4'), (.int x5')] (.int 0)) (A_v2 : Arv Z h0 v2 k2 .byte 6 [(.int e0'), (.int e1'), (.int e2'), (.int e3'), (.int e4'), (.int e5')] (.int 0)) (xe0 : x0' = e0') (xe1 : ¬ (x1' = e1')) :
    Met l Z [] MY0 jdk_43_method_13_code 3 (some .boolean) ({ frames := 0, cells := 0, slots := 0, locals := 0 } : Room) #[(.ref v1), (.ref v2)] h0 (QI (0 : Int32) h0 n0) := by
  have W := @own_W _ _ hw
  refine own_mk (plainFor_of_name pn_25) ?_
  intro p e s m below meth c s₁ hZ hx hby hml hown hnm hret hlk X0 e0
  have N0 := Fr.nil n0
  obtain ⟨c1, A1, q1, S1, N1, H1, G1⟩ := id A_v1
  obtain ⟨c2, A2, q2, S2, N2, H2, G2⟩ := id A_v2
  obtain ⟨c3, A3, q3, S3, N3, H3, G3⟩ := id A_v1
  obtain ⟨c4, A4, q4, S4, N4, H4, G4⟩ := id A_v1
  have i5 : NB 0 c4 := inb_of S4 (by decide)
  obtain ⟨c6, A6, q6, S6, N6, H6, G6⟩ := id A_v2
  have i7 : NB 0 c6 := inb_of S6 (by decide)
  obtain ⟨c8, A8, q8, S8, N8, H8, G8⟩ := id A_v1
  obtain ⟨c9, A9, q9, S9, N9, H9, G9⟩ := id A_v1
  have i10 : NB 1 c9 := inb_of S9 (by decide)
  obtain ⟨c11, A11, q11, S11, N11, H11, G11⟩ := id A_v2
  have i12 : NB 1 c11 := inb_of S11 (by decide)
  refine ⟨s₁, some (.int 0), _, _, _, X0, by decide, by decide, nofun, ?_, fun fs hr => castTop (ef_24 m v1 v2) ?_⟩
  · show QI (0 : Int32) h0 n0 _ s₁.heap _
    rw [e0]
    exact ⟨rfl, N0, rfl⟩
  · show SS p e below s₁ m 0 #[rv v1, rv v2, .unset] [] _
    refine XS.aloadN X0.here hx rfl (hb hby d_0) rfl rfl ?_
    refine X0.arraylength hx (by rw [e0]; exact A1.1) (State.isArrayOf_alike hZ.alike A1.2.1) (g := (mkF m 1 #[rv v1, rv v2, .unset] [(.ref v1)])) rfl rfl (hb hby d_1) _ ?_
    rw [len_of S1 N1]
    refine XS.aloadN X0.here hx rfl (hb hby d_2) rfl rfl ?_
    refine X0.arraylength hx (by rw [e0]; exact A2.1) (State.isArrayOf_alike hZ.alike A2.2.1) (g := (mkF m 3 #[rv v1, rv v2, .unset] [(.ref v2), (.int 6)])) rfl rfl (hb hby d_3) _ ?_
    rw [len_of S2 N2]
    refine XS.icmpNo X0.here hx rfl (hb hby d_4) rfl (teq (by decide : (6 : Int32) = (6 : Int32))).2 ?_
    refine XS.iconst X0.here hx rfl (hb hby d_7) ?_
    refine XS.istoreN X0.here hx rfl (hb hby d_8) rfl (l' := #[rv v1, rv v2, iv 0]) rfl ?_
    refine XS.iloadN X0.here hx rfl (hb hby d_9) rfl ?_
    refine XS.aloadN X0.here hx rfl (hb hby d_10) rfl rfl ?_
    refine X0.arraylength hx (by rw [e0]; exact A3.1) (State.isArrayOf_alike hZ.alike A3.2.1) (g := (mkF m 11 #[rv v1, rv v2, iv 0] [(.ref v1), (.int 0)])) rfl rfl (hb hby d_11) _ ?_
    rw [len_of S3 N3]
    show SS p e below s₁ m 12 #[rv v1, rv v2, iv 0] [(.int 6), (.int 0)] _
    refine XS.icmpNo X0.here hx rfl (hb hby d_12) rfl (tlt (by decide : (0 : Int32) < (6 : Int32))).2.1 ?_
    refine XS.aloadN X0.here hx rfl (hb hby d_13) rfl rfl ?_
    refine XS.iloadN X0.here hx rfl (hb hby d_14) rfl ?_
    refine X0.baloadBytes hx (j := 0) (v := (.int x0')) (by rw [e0]; exact A4.1) (State.isArrayOf_alike hZ.alike A4.2.1) A4.2.2 i5 (H4.at i5 rfl) (g := (mkF m 17 #[rv v1, rv v2, iv 0] [(.int 0), (.ref v1)])) rfl rfl (hb hby d_15) _ ?_
    refine XS.aloadN X0.here hx rfl (hb hby d_16) rfl rfl ?_
    refine XS.iloadN X0.here hx rfl (hb hby d_17) rfl ?_
    refine X0.baloadBytes hx (j := 0) (v := (.int e0')) (by rw [e0]; exact A6.1) (State.isArrayOf_alike hZ.alike A6.2.1) A6.2.2 i7 (H6.at i7 rfl) (g := (mkF m 20 #[rv v1, rv v2, iv 0] [(.int 0), (.ref v2), (.int x0')])) rfl rfl (hb hby d_18) _ ?_
    refine XS.icmpYes X0.here hx rfl (pc0 := 21) (pc' := 26) rfl (hb hby d_19) rfl (teq xe0).1 (by decide) (by decide) ?_
    refine XS.iinc X0.here hx rfl (hb hby d_22) rfl (l' := #[rv v1, rv v2, iv 1]) rfl ?_
    show SS p e below s₁ m 29 #[rv v1, rv v2, iv 1] [] _
    refine XS.goto X0.here hx rfl (pc0 := 29) (pc' := 9) rfl (hb hby d_23) (by decide) (by decide) ?_
    refine XS.iloadN X0.here hx rfl (hb hby d_9) rfl ?_
    refine XS.aloadN X0.here hx rfl (hb hby d_10) rfl rfl ?_
    refine X0.arraylength hx (by rw [e0]; exact A8.1) (State.isArrayOf_alike hZ.alike A8.2.1) (g := (mkF m 11 #[rv v1, rv v2, iv 1] [(.ref v1), (.int 1)])) rfl rfl (hb hby d_11) _ ?_
    rw [len_of S8 N8]
    refine XS.icmpNo X0.here hx rfl (hb hby d_12) rfl (tlt (by decide : (1 : Int32) < (6 : Int32))).2.1 ?_
    refine XS.aloadN X0.here hx rfl (hb hby d_13) rfl rfl ?_
    refine XS.iloadN X0.here hx rfl (hb hby d_14) rfl ?_
    refine X0.baloadBytes hx (j := 1) (v := (.int x1')) (by rw [e0]; exact A9.1) (State.isArrayOf_alike hZ.alike A9.2.1) A9.2.2 i10 (H9.at i10 rfl) (g := (mkF m 17 #[rv v1, rv v2, iv 1] [(.int 1), (.ref v1)])) rfl rfl (hb hby d_15) _ ?_
    refine XS.aloadN X0.here hx rfl (hb hby d_16) rfl rfl ?_
    refine XS.iloadN X0.here hx rfl (hb hby d_17) rfl ?_
    show SS p e below s₁ m 20 #[rv v1, rv v2, iv 1] [(.int 1), (.ref v2), (.int x1')] _
    refine X0.baloadBytes hx (j := 1) (v := (.int e1')) (by rw [e0]; exact A11.1) (State.isArrayOf_alike hZ.alike A11.2.1) A11.2.2 i12 (H11.at i12 rfl) (g := (mkF m 20 #[rv v1, rv v2, iv 1] [(.int 1), (.ref v2), (.int x1')])) rfl rfl (hb hby d_18) _ ?_
    refine XS.icmpNo X0.here hx rfl (hb hby d_19) rfl (feq xe1).1 ?_
    refine XS.iconst X0.here hx rfl (hb hby d_20) ?_
    exact retN X0 hx (t := .boolean) hret (by simp) (hb hby d_21) hr
theorem own_l1_2 (l : Launch) (Z : State) (a0 : Array Value) (hw : HW Z a0) (v1 : Addr) (v2 : Addr) (k1 : ClassId) (k2 : ClassId) (x0' : Int32) (x1' : Int32) (x2' : Int32) (x3' : Int32) (x4' : Int32) (x5' : Int32) (e0' : Int32) (e1' : Int32) (e2' : Int32) (e3' : Int32) (e4' : Int32) (e5' : Int32) (h0 : Heap) (n0 : Nat) (O0 : Old Z n0 h0) (A_v1 : Arv Z h0 v1 k1 .byte 6 [(.int x0'), (.int x1'), (.int x2'), (.int x3'), (.int x4'), (.int x5')] (.int 0)) (A_v2 : Arv Z h0 v2 k2 .byte 6 [(.int e0'), (.int e1'), (.int e2'), (.int e3'), (.int e4'), (.int e5')] (.int 0)) (xe0 : x0' = e0') (xe1 : x1' = e1') (xe2 : ¬ (x2' = e2')) :
    Met l Z [] MY0 jdk_43_method_13_code 3 (some .boolean) ({ frames := 0, cells := 0, slots := 0, locals := 0 } : Room) #[(.ref v1), (.ref v2)] h0 (QI (0 : Int32) h0 n0) := by
  have W := @own_W _ _ hw
  refine own_mk (plainFor_of_name pn_25) ?_
  intro p e s m below meth c s₁ hZ hx hby hml hown hnm hret hlk X0 e0
  have N0 := Fr.nil n0
  obtain ⟨c1, A1, q1, S1, N1, H1, G1⟩ := id A_v1
  obtain ⟨c2, A2, q2, S2, N2, H2, G2⟩ := id A_v2
  obtain ⟨c3, A3, q3, S3, N3, H3, G3⟩ := id A_v1
  obtain ⟨c4, A4, q4, S4, N4, H4, G4⟩ := id A_v1
  have i5 : NB 0 c4 := inb_of S4 (by decide)
  obtain ⟨c6, A6, q6, S6, N6, H6, G6⟩ := id A_v2
  have i7 : NB 0 c6 := inb_of S6 (by decide)
  obtain ⟨c8, A8, q8, S8, N8, H8, G8⟩ := id A_v1
  obtain ⟨c9, A9, q9, S9, N9, H9, G9⟩ := id A_v1
  have i10 : NB 1 c9 := inb_of S9 (by decide)
  obtain ⟨c11, A11, q11, S11, N11, H11, G11⟩ := id A_v2
  have i12 : NB 1 c11 := inb_of S11 (by decide)
  obtain ⟨c13, A13, q13, S13, N13, H13, G13⟩ := id A_v1
  obtain ⟨c14, A14, q14, S14, N14, H14, G14⟩ := id A_v1
  have i15 : NB 2 c14 := inb_of S14 (by decide)
  obtain ⟨c16, A16, q16, S16, N16, H16, G16⟩ := id A_v2
  have i17 : NB 2 c16 := inb_of S16 (by decide)
  refine ⟨s₁, some (.int 0), _, _, _, X0, by decide, by decide, nofun, ?_, fun fs hr => castTop (ef_24 m v1 v2) ?_⟩
  · show QI (0 : Int32) h0 n0 _ s₁.heap _
    rw [e0]
    exact ⟨rfl, N0, rfl⟩
  · show SS p e below s₁ m 0 #[rv v1, rv v2, .unset] [] _
    refine XS.aloadN X0.here hx rfl (hb hby d_0) rfl rfl ?_
    refine X0.arraylength hx (by rw [e0]; exact A1.1) (State.isArrayOf_alike hZ.alike A1.2.1) (g := (mkF m 1 #[rv v1, rv v2, .unset] [(.ref v1)])) rfl rfl (hb hby d_1) _ ?_
    rw [len_of S1 N1]
    refine XS.aloadN X0.here hx rfl (hb hby d_2) rfl rfl ?_
    refine X0.arraylength hx (by rw [e0]; exact A2.1) (State.isArrayOf_alike hZ.alike A2.2.1) (g := (mkF m 3 #[rv v1, rv v2, .unset] [(.ref v2), (.int 6)])) rfl rfl (hb hby d_3) _ ?_
    rw [len_of S2 N2]
    refine XS.icmpNo X0.here hx rfl (hb hby d_4) rfl (teq (by decide : (6 : Int32) = (6 : Int32))).2 ?_
    refine XS.iconst X0.here hx rfl (hb hby d_7) ?_
    refine XS.istoreN X0.here hx rfl (hb hby d_8) rfl (l' := #[rv v1, rv v2, iv 0]) rfl ?_
    refine XS.iloadN X0.here hx rfl (hb hby d_9) rfl ?_
    refine XS.aloadN X0.here hx rfl (hb hby d_10) rfl rfl ?_
    refine X0.arraylength hx (by rw [e0]; exact A3.1) (State.isArrayOf_alike hZ.alike A3.2.1) (g := (mkF m 11 #[rv v1, rv v2, iv 0] [(.ref v1), (.int 0)])) rfl rfl (hb hby d_11) _ ?_
    rw [len_of S3 N3]
    show SS p e below s₁ m 12 #[rv v1, rv v2, iv 0] [(.int 6), (.int 0)] _
    refine XS.icmpNo X0.here hx rfl (hb hby d_12) rfl (tlt (by decide : (0 : Int32) < (6 : Int32))).2.1 ?_
    refine XS.aloadN X0.here hx rfl (hb hby d_13) rfl rfl ?_
    refine XS.iloadN X0.here hx rfl (hb hby d_14) rfl ?_
    refine X0.baloadBytes hx (j := 0) (v := (.int x0')) (by rw [e0]; exact A4.1) (State.isArrayOf_alike hZ.alike A4.2.1) A4.2.2 i5 (H4.at i5 rfl) (g := (mkF m 17 #[rv v1, rv v2, iv 0] [(.int 0), (.ref v1)])) rfl rfl (hb hby d_15) _ ?_
    refine XS.aloadN X0.here hx rfl (hb hby d_16) rfl rfl ?_
    refine XS.iloadN X0.here hx rfl (hb hby d_17) rfl ?_
    refine X0.baloadBytes hx (j := 0) (v := (.int e0')) (by rw [e0]; exact A6.1) (State.isArrayOf_alike hZ.alike A6.2.1) A6.2.2 i7 (H6.at i7 rfl) (g := (mkF m 20 #[rv v1, rv v2, iv 0] [(.int 0), (.ref v2), (.int x0')])) rfl rfl (hb hby d_18) _ ?_
    refine XS.icmpYes X0.here hx rfl (pc0 := 21) (pc' := 26) rfl (hb hby d_19) rfl (teq xe0).1 (by decide) (by decide) ?_
    refine XS.iinc X0.here hx rfl (hb hby d_22) rfl (l' := #[rv v1, rv v2, iv 1]) rfl ?_
    show SS p e below s₁ m 29 #[rv v1, rv v2, iv 1] [] _
    refine XS.goto X0.here hx rfl (pc0 := 29) (pc' := 9) rfl (hb hby d_23) (by decide) (by decide) ?_
    refine XS.iloadN X0.here hx rfl (hb hby d_9) rfl ?_
    refine XS.aloadN X0.here hx rfl (hb hby d_10) rfl rfl ?_
    refine X0.arraylength hx (by rw [e0]; exact A8.1) (State.isArrayOf_alike hZ.alike A8.2.1) (g := (mkF m 11 #[rv v1, rv v2, iv 1] [(.ref v1), (.int 1)])) rfl rfl (hb hby d_11) _ ?_
    rw [len_of S8 N8]
    refine XS.icmpNo X0.here hx rfl (hb hby d_12) rfl (tlt (by decide : (1 : Int32) < (6 : Int32))).2.1 ?_
    refine XS.aloadN X0.here hx rfl (hb hby d_13) rfl rfl ?_
    refine XS.iloadN X0.here hx rfl (hb hby d_14) rfl ?_
    refine X0.baloadBytes hx (j := 1) (v := (.int x1')) (by rw [e0]; exact A9.1) (State.isArrayOf_alike hZ.alike A9.2.1) A9.2.2 i10 (H9.at i10 rfl) (g := (mkF m 17 #[rv v1, rv v2, iv 1] [(.int 1), (.ref v1)])) rfl rfl (hb hby d_15) _ ?_
    refine XS.aloadN X0.here hx rfl (hb hby d_16) rfl rfl ?_
    refine XS.iloadN X0.here hx rfl (hb hby d_17) rfl ?_
    show SS p e below s₁ m 20 #[rv v1, rv v2, iv 1] [(.int 1), (.ref v2), (.int x1')] _
    refine X0.baloadBytes hx (j := 1) (v := (.int e1')) (by rw [e0]; exact A11.1) (State.isArrayOf_alike hZ.alike A11.2.1) A11.2.2 i12 (H11.at i12 rfl) (g := (mkF m 20 #[rv v1, rv v2, iv 1] [(.int 1), (.ref v2), (.int x1')])) rfl rfl (hb hby d_18) _ ?_
    refine XS.icmpYes X0.here hx rfl (pc0 := 21) (pc' := 26) rfl (hb hby d_19) rfl (teq xe1).1 (by decide) (by decide) ?_
    refine XS.iinc X0.here hx rfl (hb hby d_22) rfl (l' := #[rv v1, rv v2, iv 2]) rfl ?_
    show SS p e below s₁ m 29 #[rv v1, rv v2, iv 2] [] _
    refine XS.goto X0.here hx rfl (pc0 := 29) (pc' := 9) rfl (hb hby d_23) (by decide) (by decide) ?_
    refine XS.iloadN X0.here hx rfl (hb hby d_9) rfl ?_
    refine XS.aloadN X0.here hx rfl (hb hby d_10) rfl rfl ?_
    refine X0.arraylength hx (by rw [e0]; exact A13.1) (State.isArrayOf_alike hZ.alike A13.2.1) (g := (mkF m 11 #[rv v1, rv v2, iv 2] [(.ref v1), (.int 2)])) rfl rfl (hb hby d_11) _ ?_
    rw [len_of S13 N13]
    refine XS.icmpNo X0.here hx rfl (hb hby d_12) rfl (tlt (by decide : (2 : Int32) < (6 : Int32))).2.1 ?_
    refine XS.aloadN X0.here hx rfl (hb hby d_13) rfl rfl ?_
    refine XS.iloadN X0.here hx rfl (hb hby d_14) rfl ?_
    refine X0.baloadBytes hx (j := 2) (v := (.int x2')) (by rw [e0]; exact A14.1) (State.isArrayOf_alike hZ.alike A14.2.1) A14.2.2 i15 (H14.at i15 rfl) (g := (mkF m 17 #[rv v1, rv v2, iv 2] [(.int 2), (.ref v1)])) rfl rfl (hb hby d_15) _ ?_
    refine XS.aloadN X0.here hx rfl (hb hby d_16) rfl rfl ?_
    refine XS.iloadN X0.here hx rfl (hb hby d_17) rfl ?_
    show SS p e below s₁ m 20 #[rv v1, rv v2, iv 2] [(.int 2), (.ref v2), (.int x2')] _
    refine X0.baloadBytes hx (j := 2) (v := (.int e2')) (by rw [e0]; exact A16.1) (State.isArrayOf_alike hZ.alike A16.2.1) A16.2.2 i17 (H16.at i17 rfl) (g := (mkF m 20 #[rv v1, rv v2, iv 2] [(.int 2), (.ref v2), (.int x2')])) rfl rfl (hb hby d_18) _ ?_
    refine XS.icmpNo X0.here hx rfl (hb hby d_19) rfl (feq xe2).1 ?_
    refine XS.iconst X0.here hx rfl (hb hby d_20) ?_
    exact retN X0 hx (t := .boolean) hret (by simp) (hb hby d_21) hr
theorem own_l1_3 (l : Launch) (Z : State) (a0 : Array Value) (hw : HW Z a0) (v1 : Addr) (v2 : Addr) (k1 : ClassId) (k2 : ClassId) (x0' : Int32) (x1' : Int32) (x2' : Int32) (x3' : Int32) (x4' : Int32) (x5' : Int32) (e0' : Int32) (e1' : Int32) (e2' : Int32) (e3' : Int32) (e4' : Int32) (e5' : Int32) (h0 : Heap) (n0 : Nat) (O0 : Old Z n0 h0) (A_v1 : Arv Z h0 v1 k1 .byte 6 [(.int x0'), (.int x1'), (.int x2'), (.int x3'), (.int x4'), (.int x5')] (.int 0)) (A_v2 : Arv Z h0 v2 k2 .byte 6 [(.int e0'), (.int e1'), (.int e2'), (.int e3'), (.int e4'), (.int e5')] (.int 0)) (xe0 : x0' = e0') (xe1 : x1' = e1') (xe2 : x2' = e2') (xe3 : ¬ (x3' = e3')) :
    Met l Z [] MY0 jdk_43_method_13_code 3 (some .boolean) ({ frames := 0, cells := 0, slots := 0, locals := 0 } : Room) #[(.ref v1), (.ref v2)] h0 (QI (0 : Int32) h0 n0) := by
  have W := @own_W _ _ hw
  refine own_mk (plainFor_of_name pn_25) ?_
  intro p e s m below meth c s₁ hZ hx hby hml hown hnm hret hlk X0 e0
  have N0 := Fr.nil n0
  obtain ⟨c1, A1, q1, S1, N1, H1, G1⟩ := id A_v1
  obtain ⟨c2, A2, q2, S2, N2, H2, G2⟩ := id A_v2
  obtain ⟨c3, A3, q3, S3, N3, H3, G3⟩ := id A_v1
  obtain ⟨c4, A4, q4, S4, N4, H4, G4⟩ := id A_v1
  have i5 : NB 0 c4 := inb_of S4 (by decide)
  obtain ⟨c6, A6, q6, S6, N6, H6, G6⟩ := id A_v2
  have i7 : NB 0 c6 := inb_of S6 (by decide)
  obtain ⟨c8, A8, q8, S8, N8, H8, G8⟩ := id A_v1
  obtain ⟨c9, A9, q9, S9, N9, H9, G9⟩ := id A_v1
  have i10 : NB 1 c9 := inb_of S9 (by decide)
  obtain ⟨c11, A11, q11, S11, N11, H11, G11⟩ := id A_v2
  have i12 : NB 1 c11 := inb_of S11 (by decide)
  obtain ⟨c13, A13, q13, S13, N13, H13, G13⟩ := id A_v1
  obtain ⟨c14, A14, q14, S14, N14, H14, G14⟩ := id A_v1
  have i15 : NB 2 c14 := inb_of S14 (by decide)
  obtain ⟨c16, A16, q16, S16, N16, H16, G16⟩ := id A_v2
  have i17 : NB 2 c16 := inb_of S16 (by decide)
  obtain ⟨c18, A18, q18, S18, N18, H18, G18⟩ := id A_v1
  obtain ⟨c19, A19, q19, S19, N19, H19, G19⟩ := id A_v1
  have i20 : NB 3 c19 := inb_of S19 (by decide)
  obtain ⟨c21, A21, q21, S21, N21, H21, G21⟩ := id A_v2
  have i22 : NB 3 c21 := inb_of S21 (by decide)
  refine ⟨s₁, some (.int 0), _, _, _, X0, by decide, by decide, nofun, ?_, fun fs hr => castTop (ef_24 m v1 v2) ?_⟩
  · show QI (0 : Int32) h0 n0 _ s₁.heap _
    rw [e0]
    exact ⟨rfl, N0, rfl⟩
  · show SS p e below s₁ m 0 #[rv v1, rv v2, .unset] [] _
    refine XS.aloadN X0.here hx rfl (hb hby d_0) rfl rfl ?_
    refine X0.arraylength hx (by rw [e0]; exact A1.1) (State.isArrayOf_alike hZ.alike A1.2.1) (g := (mkF m 1 #[rv v1, rv v2, .unset] [(.ref v1)])) rfl rfl (hb hby d_1) _ ?_
    rw [len_of S1 N1]
    refine XS.aloadN X0.here hx rfl (hb hby d_2) rfl rfl ?_
    refine X0.arraylength hx (by rw [e0]; exact A2.1) (State.isArrayOf_alike hZ.alike A2.2.1) (g := (mkF m 3 #[rv v1, rv v2, .unset] [(.ref v2), (.int 6)])) rfl rfl (hb hby d_3) _ ?_
    rw [len_of S2 N2]
    refine XS.icmpNo X0.here hx rfl (hb hby d_4) rfl (teq (by decide : (6 : Int32) = (6 : Int32))).2 ?_
    refine XS.iconst X0.here hx rfl (hb hby d_7) ?_
    refine XS.istoreN X0.here hx rfl (hb hby d_8) rfl (l' := #[rv v1, rv v2, iv 0]) rfl ?_
    refine XS.iloadN X0.here hx rfl (hb hby d_9) rfl ?_
    refine XS.aloadN X0.here hx rfl (hb hby d_10) rfl rfl ?_
    refine X0.arraylength hx (by rw [e0]; exact A3.1) (State.isArrayOf_alike hZ.alike A3.2.1) (g := (mkF m 11 #[rv v1, rv v2, iv 0] [(.ref v1), (.int 0)])) rfl rfl (hb hby d_11) _ ?_
    rw [len_of S3 N3]
    show SS p e below s₁ m 12 #[rv v1, rv v2, iv 0] [(.int 6), (.int 0)] _
    refine XS.icmpNo X0.here hx rfl (hb hby d_12) rfl (tlt (by decide : (0 : Int32) < (6 : Int32))).2.1 ?_
    refine XS.aloadN X0.here hx rfl (hb hby d_13) rfl rfl ?_
    refine XS.iloadN X0.here hx rfl (hb hby d_14) rfl ?_
    refine X0.baloadBytes hx (j := 0) (v := (.int x0')) (by rw [e0]; exact A4.1) (State.isArrayOf_alike hZ.alike A4.2.1) A4.2.2 i5 (H4.at i5 rfl) (g := (mkF m 17 #[rv v1, rv v2, iv 0] [(.int 0), (.ref v1)])) rfl rfl (hb hby d_15) _ ?_
    refine XS.aloadN X0.here hx rfl (hb hby d_16) rfl rfl ?_
    refine XS.iloadN X0.here hx rfl (hb hby d_17) rfl ?_
    refine X0.baloadBytes hx (j := 0) (v := (.int e0')) (by rw [e0]; exact A6.1) (State.isArrayOf_alike hZ.alike A6.2.1) A6.2.2 i7 (H6.at i7 rfl) (g := (mkF m 20 #[rv v1, rv v2, iv 0] [(.int 0), (.ref v2), (.int x0')])) rfl rfl (hb hby d_18) _ ?_
    refine XS.icmpYes X0.here hx rfl (pc0 := 21) (pc' := 26) rfl (hb hby d_19) rfl (teq xe0).1 (by decide) (by decide) ?_
    refine XS.iinc X0.here hx rfl (hb hby d_22) rfl (l' := #[rv v1, rv v2, iv 1]) rfl ?_
    show SS p e below s₁ m 29 #[rv v1, rv v2, iv 1] [] _
    refine XS.goto X0.here hx rfl (pc0 := 29) (pc' := 9) rfl (hb hby d_23) (by decide) (by decide) ?_
    refine XS.iloadN X0.here hx rfl (hb hby d_9) rfl ?_
    refine XS.aloadN X0.here hx rfl (hb hby d_10) rfl rfl ?_
    refine X0.arraylength hx (by rw [e0]; exact A8.1) (State.isArrayOf_alike hZ.alike A8.2.1) (g := (mkF m 11 #[rv v1, rv v2, iv 1] [(.ref v1), (.int 1)])) rfl rfl (hb hby d_11) _ ?_
    rw [len_of S8 N8]
    refine XS.icmpNo X0.here hx rfl (hb hby d_12) rfl (tlt (by decide : (1 : Int32) < (6 : Int32))).2.1 ?_
    refine XS.aloadN X0.here hx rfl (hb hby d_13) rfl rfl ?_
    refine XS.iloadN X0.here hx rfl (hb hby d_14) rfl ?_
    refine X0.baloadBytes hx (j := 1) (v := (.int x1')) (by rw [e0]; exact A9.1) (State.isArrayOf_alike hZ.alike A9.2.1) A9.2.2 i10 (H9.at i10 rfl) (g := (mkF m 17 #[rv v1, rv v2, iv 1] [(.int 1), (.ref v1)])) rfl rfl (hb hby d_15) _ ?_
    refine XS.aloadN X0.here hx rfl (hb hby d_16) rfl rfl ?_
    refine XS.iloadN X0.here hx rfl (hb hby d_17) rfl ?_
    show SS p e below s₁ m 20 #[rv v1, rv v2, iv 1] [(.int 1), (.ref v2), (.int x1')] _
    refine X0.baloadBytes hx (j := 1) (v := (.int e1')) (by rw [e0]; exact A11.1) (State.isArrayOf_alike hZ.alike A11.2.1) A11.2.2 i12 (H11.at i12 rfl) (g := (mkF m 20 #[rv v1, rv v2, iv 1] [(.int 1), (.ref v2), (.int x1')])) rfl rfl (hb hby d_18) _ ?_
    refine XS.icmpYes X0.here hx rfl (pc0 := 21) (pc' := 26) rfl (hb hby d_19) rfl (teq xe1).1 (by decide) (by decide) ?_
    refine XS.iinc X0.here hx rfl (hb hby d_22) rfl (l' := #[rv v1, rv v2, iv 2]) rfl ?_
    show SS p e below s₁ m 29 #[rv v1, rv v2, iv 2] [] _
    refine XS.goto X0.here hx rfl (pc0 := 29) (pc' := 9) rfl (hb hby d_23) (by decide) (by decide) ?_
    refine XS.iloadN X0.here hx rfl (hb hby d_9) rfl ?_
    refine XS.aloadN X0.here hx rfl (hb hby d_10) rfl rfl ?_
    refine X0.arraylength hx (by rw [e0]; exact A13.1) (State.isArrayOf_alike hZ.alike A13.2.1) (g := (mkF m 11 #[rv v1, rv v2, iv 2] [(.ref v1), (.int 2)])) rfl rfl (hb hby d_11) _ ?_
    rw [len_of S13 N13]
    refine XS.icmpNo X0.here hx rfl (hb hby d_12) rfl (tlt (by decide : (2 : Int32) < (6 : Int32))).2.1 ?_
    refine XS.aloadN X0.here hx rfl (hb hby d_13) rfl rfl ?_
    refine XS.iloadN X0.here hx rfl (hb hby d_14) rfl ?_
    refine X0.baloadBytes hx (j := 2) (v := (.int x2')) (by rw [e0]; exact A14.1) (State.isArrayOf_alike hZ.alike A14.2.1) A14.2.2 i15 (H14.at i15 rfl) (g := (mkF m 17 #[rv v1, rv v2, iv 2] [(.int 2), (.ref v1)])) rfl rfl (hb hby d_15) _ ?_
    refine XS.aloadN X0.here hx rfl (hb hby d_16) rfl rfl ?_
    refine XS.iloadN X0.here hx rfl (hb hby d_17) rfl ?_
    show SS p e below s₁ m 20 #[rv v1, rv v2, iv 2] [(.int 2), (.ref v2), (.int x2')] _
    refine X0.baloadBytes hx (j := 2) (v := (.int e2')) (by rw [e0]; exact A16.1) (State.isArrayOf_alike hZ.alike A16.2.1) A16.2.2 i17 (H16.at i17 rfl) (g := (mkF m 20 #[rv v1, rv v2, iv 2] [(.int 2), (.ref v2), (.int x2')])) rfl rfl (hb hby d_18) _ ?_
    refine XS.icmpYes X0.here hx rfl (pc0 := 21) (pc' := 26) rfl (hb hby d_19) rfl (teq xe2).1 (by decide) (by decide) ?_
    refine XS.iinc X0.here hx rfl (hb hby d_22) rfl (l' := #[rv v1, rv v2, iv 3]) rfl ?_
    show SS p e below s₁ m 29 #[rv v1, rv v2, iv 3] [] _
    refine XS.goto X0.here hx rfl (pc0 := 29) (pc' := 9) rfl (hb hby d_23) (by decide) (by decide) ?_
    refine XS.iloadN X0.here hx rfl (hb hby d_9) rfl ?_
    refine XS.aloadN X0.here hx rfl (hb hby d_10) rfl rfl ?_
    refine X0.arraylength hx (by rw [e0]; exact A18.1) (State.isArrayOf_alike hZ.alike A18.2.1) (g := (mkF m 11 #[rv v1, rv v2, iv 3] [(.ref v1), (.int 3)])) rfl rfl (hb hby d_11) _ ?_
    rw [len_of S18 N18]
    refine XS.icmpNo X0.here hx rfl (hb hby d_12) rfl (tlt (by decide : (3 : Int32) < (6 : Int32))).2.1 ?_
    refine XS.aloadN X0.here hx rfl (hb hby d_13) rfl rfl ?_
    refine XS.iloadN X0.here hx rfl (hb hby d_14) rfl ?_
    refine X0.baloadBytes hx (j := 3) (v := (.int x3')) (by rw [e0]; exact A19.1) (State.isArrayOf_alike hZ.alike A19.2.1) A19.2.2 i20 (H19.at i20 rfl) (g := (mkF m 17 #[rv v1, rv v2, iv 3] [(.int 3), (.ref v1)])) rfl rfl (hb hby d_15) _ ?_
    refine XS.aloadN X0.here hx rfl (hb hby d_16) rfl rfl ?_
    refine XS.iloadN X0.here hx rfl (hb hby d_17) rfl ?_
    show SS p e below s₁ m 20 #[rv v1, rv v2, iv 3] [(.int 3), (.ref v2), (.int x3')] _
    refine X0.baloadBytes hx (j := 3) (v := (.int e3')) (by rw [e0]; exact A21.1) (State.isArrayOf_alike hZ.alike A21.2.1) A21.2.2 i22 (H21.at i22 rfl) (g := (mkF m 20 #[rv v1, rv v2, iv 3] [(.int 3), (.ref v2), (.int x3')])) rfl rfl (hb hby d_18) _ ?_
    refine XS.icmpNo X0.here hx rfl (hb hby d_19) rfl (feq xe3).1 ?_
    refine XS.iconst X0.here hx rfl (hb hby d_20) ?_
    exact retN X0 hx (t := .boolean) hret (by simp) (hb hby d_21) hr
theorem own_l1_4 (l : Launch) (Z : State) (a0 : Array Value) (hw : HW Z a0) (v1 : Addr) (v2 : Addr) (k1 : ClassId) (k2 : ClassId) (x0' : Int32) (x1' : Int32) (x2' : Int32) (x3' : Int32) (x4' : Int32) (x5' : Int32) (e0' : Int32) (e1' : Int32) (e2' : Int32) (e3' : Int32) (e4' : Int32) (e5' : Int32) (h0 : Heap) (n0 : Nat) (O0 : Old Z n0 h0) (A_v1 : Arv Z h0 v1 k1 .byte 6 [(.int x0'), (.int x1'), (.int x2'), (.int x3'), (.int x4'), (.int x5')] (.int 0)) (A_v2 : Arv Z h0 v2 k2 .byte 6 [(.int e0'), (.int e1'), (.int e2'), (.int e3'), (.int e4'), (.int e5')] (.int 0)) (xe0 : x0' = e0') (xe1 : x1' = e1') (xe2 : x2' = e2') (xe3 : x3' = e3') (xe4 : ¬ (x4' = e4')) :
    Met l Z [] MY0 jdk_43_method_13_code 3 (some .boolean) ({ frames := 0, cells := 0, slots := 0, locals := 0 } : Room) #[(.ref v1), (.ref v2)] h0 (QI (0 : Int32) h0 n0) := by
  have W := @own_W _ _ hw
  refine own_mk (plainFor_of_name pn_25) ?_
  intro p e s m below meth c s₁ hZ hx hby hml hown hnm hret hlk X0 e0
  have N0 := Fr.nil n0
  obtain ⟨c1, A1, q1, S1, N1, H1, G1⟩ := id A_v1
  obtain ⟨c2, A2, q2, S2, N2, H2, G2⟩ := id A_v2
  obtain ⟨c3, A3, q3, S3, N3, H3, G3⟩ := id A_v1
  obtain ⟨c4, A4, q4, S4, N4, H4, G4⟩ := id A_v1
  have i5 : NB 0 c4 := inb_of S4 (by decide)
  obtain ⟨c6, A6, q6, S6, N6, H6, G6⟩ := id A_v2
  have i7 : NB 0 c6 := inb_of S6 (by decide)
  obtain ⟨c8, A8, q8, S8, N8, H8, G8⟩ := id A_v1
  obtain ⟨c9, A9, q9, S9, N9, H9, G9⟩ := id A_v1
  have i10 : NB 1 c9 := inb_of S9 (by decide)
  obtain ⟨c11, A11, q11, S11, N11, H11, G11⟩ := id A_v2
  have i12 : NB 1 c11 := inb_of S11 (by decide)
  obtain ⟨c13, A13, q13, S13, N13, H13, G13⟩ := id A_v1
  obtain ⟨c14, A14, q14, S14, N14, H14, G14⟩ := id A_v1
  have i15 : NB 2 c14 := inb_of S14 (by decide)
  obtain ⟨c16, A16, q16, S16, N16, H16, G16⟩ := id A_v2
  have i17 : NB 2 c16 := inb_of S16 (by decide)
  obtain ⟨c18, A18, q18, S18, N18, H18, G18⟩ := id A_v1
  obtain ⟨c19, A19, q19, S19, N19, H19, G19⟩ := id A_v1
  have i20 : NB 3 c19 := inb_of S19 (by decide)
  obtain ⟨c21, A21, q21, S21, N21, H21, G21⟩ := id A_v2
  have i22 : NB 3 c21 := inb_of S21 (by decide)
  obtain ⟨c23, A23, q23, S23, N23, H23, G23⟩ := id A_v1
  obtain ⟨c24, A24, q24, S24, N24, H24, G24⟩ := id A_v1
  have i25 : NB 4 c24 := inb_of S24 (by decide)
  obtain ⟨c26, A26, q26, S26, N26, H26, G26⟩ := id A_v2
  have i27 : NB 4 c26 := inb_of S26 (by decide)
  refine ⟨s₁, some (.int 0), _, _, _, X0, by decide, by decide, nofun, ?_, fun fs hr => castTop (ef_24 m v1 v2) ?_⟩
  · show QI (0 : Int32) h0 n0 _ s₁.heap _
    rw [e0]
    exact ⟨rfl, N0, rfl⟩
  · show SS p e below s₁ m 0 #[rv v1, rv v2, .unset] [] _
    refine XS.aloadN X0.here hx rfl (hb hby d_0) rfl rfl ?_
    refine X0.arraylength hx (by rw [e0]; exact A1.1) (State.isArrayOf_alike hZ.alike A1.2.1) (g := (mkF m 1 #[rv v1, rv v2, .unset] [(.ref v1)])) rfl rfl (hb hby d_1) _ ?_
    rw [len_of S1 N1]
    refine XS.aloadN X0.here hx rfl (hb hby d_2) rfl rfl ?_
    refine X0.arraylength hx (by rw [e0]; exact A2.1) (State.isArrayOf_alike hZ.alike A2.2.1) (g := (mkF m 3 #[rv v1, rv v2, .unset] [(.ref v2), (.int 6)])) rfl rfl (hb hby d_3) _ ?_
    rw [len_of S2 N2]
    refine XS.icmpNo X0.here hx rfl (hb hby d_4) rfl (teq (by decide : (6 : Int32) = (6 : Int32))).2 ?_
    refine XS.iconst X0.here hx rfl (hb hby d_7) ?_
    refine XS.istoreN X0.here hx rfl (hb hby d_8) rfl (l' := #[rv v1, rv v2, iv 0]) rfl ?_
    refine XS.iloadN X0.here hx rfl (hb hby d_9) rfl ?_
    refine XS.aloadN X0.here hx rfl (hb hby d_10) rfl rfl ?_
    refine X0.arraylength hx (by rw [e0]; exact A3.1) (State.isArrayOf_alike hZ.alike A3.2.1) (g := (mkF m 11 #[rv v1, rv v2, iv 0] [(.ref v1), (.int 0)])) rfl rfl (hb hby d_11) _ ?_
    rw [len_of S3 N3]
    show SS p e below s₁ m 12 #[rv v1, rv v2, iv 0] [(.int 6), (.int 0)] _
    refine XS.icmpNo X0.here hx rfl (hb hby d_12) rfl (tlt (by decide : (0 : Int32) < (6 : Int32))).2.1 ?_
    refine XS.aloadN X0.here hx rfl (hb hby d_13) rfl rfl ?_
    refine XS.iloadN X0.here hx rfl (hb hby d_14) rfl ?_
    refine X0.baloadBytes hx (j := 0) (v := (.int x0')) (by rw [e0]; exact A4.1) (State.isArrayOf_alike hZ.alike A4.2.1) A4.2.2 i5 (H4.at i5 rfl) (g := (mkF m 17 #[rv v1, rv v2, iv 0] [(.int 0), (.ref v1)])) rfl rfl (hb hby d_15) _ ?_
    refine XS.aloadN X0.here hx rfl (hb hby d_16) rfl rfl ?_
    refine XS.iloadN X0.here hx rfl (hb hby d_17) rfl ?_
    refine X0.baloadBytes hx (j := 0) (v := (.int e0')) (by rw [e0]; exact A6.1) (State.isArrayOf_alike hZ.alike A6.2.1) A6.2.2 i7 (H6.at i7 rfl) (g := (mkF m 20 #[rv v1, rv v2, iv 0] [(.int 0), (.ref v2), (.int x0')])) rfl rfl (hb hby d_18) _ ?_
    refine XS.icmpYes X0.here hx rfl (pc0 := 21) (pc' := 26) rfl (hb hby d_19) rfl (teq xe0).1 (by decide) (by decide) ?_
    refine XS.iinc X0.here hx rfl (hb hby d_22) rfl (l' := #[rv v1, rv v2, iv 1]) rfl ?_
    show SS p e below s₁ m 29 #[rv v1, rv v2, iv 1] [] _
    refine XS.goto X0.here hx rfl (pc0 := 29) (pc' := 9) rfl (hb hby d_23) (by decide) (by decide) ?_
    refine XS.iloadN X0.here hx rfl (hb hby d_9) rfl ?_
    refine XS.aloadN X0.here hx rfl (hb hby d_10) rfl rfl ?_
    refine X0.arraylength hx (by rw [e0]; exact A8.1) (State.isArrayOf_alike hZ.alike A8.2.1) (g := (mkF m 11 #[rv v1, rv v2, iv 1] [(.ref v1), (.int 1)])) rfl rfl (hb hby d_11) _ ?_
    rw [len_of S8 N8]
    refine XS.icmpNo X0.here hx rfl (hb hby d_12) rfl (tlt (by decide : (1 : Int32) < (6 : Int32))).2.1 ?_
    refine XS.aloadN X0.here hx rfl (hb hby d_13) rfl rfl ?_
    refine XS.iloadN X0.here hx rfl (hb hby d_14) rfl ?_
    refine X0.baloadBytes hx (j := 1) (v := (.int x1')) (by rw [e0]; exact A9.1) (State.isArrayOf_alike hZ.alike A9.2.1) A9.2.2 i10 (H9.at i10 rfl) (g := (mkF m 17 #[rv v1, rv v2, iv 1] [(.int 1), (.ref v1)])) rfl rfl (hb hby d_15) _ ?_
    refine XS.aloadN X0.here hx rfl (hb hby d_16) rfl rfl ?_
    refine XS.iloadN X0.here hx rfl (hb hby d_17) rfl ?_
    show SS p e below s₁ m 20 #[rv v1, rv v2, iv 1] [(.int 1), (.ref v2), (.int x1')] _
    refine X0.baloadBytes hx (j := 1) (v := (.int e1')) (by rw [e0]; exact A11.1) (State.isArrayOf_alike hZ.alike A11.2.1) A11.2.2 i12 (H11.at i12 rfl) (g := (mkF m 20 #[rv v1, rv v2, iv 1] [(.int 1), (.ref v2), (.int x1')])) rfl rfl (hb hby d_18) _ ?_
    refine XS.icmpYes X0.here hx rfl (pc0 := 21) (pc' := 26) rfl (hb hby d_19) rfl (teq xe1).1 (by decide) (by decide) ?_
    refine XS.iinc X0.here hx rfl (hb hby d_22) rfl (l' := #[rv v1, rv v2, iv 2]) rfl ?_
    show SS p e below s₁ m 29 #[rv v1, rv v2, iv 2] [] _
    refine XS.goto X0.here hx rfl (pc0 := 29) (pc' := 9) rfl (hb hby d_23) (by decide) (by decide) ?_
    refine XS.iloadN X0.here hx rfl (hb hby d_9) rfl ?_
    refine XS.aloadN X0.here hx rfl (hb hby d_10) rfl rfl ?_
    refine X0.arraylength hx (by rw [e0]; exact A13.1) (State.isArrayOf_alike hZ.alike A13.2.1) (g := (mkF m 11 #[rv v1, rv v2, iv 2] [(.ref v1), (.int 2)])) rfl rfl (hb hby d_11) _ ?_
    rw [len_of S13 N13]
    refine XS.icmpNo X0.here hx rfl (hb hby d_12) rfl (tlt (by decide : (2 : Int32) < (6 : Int32))).2.1 ?_
    refine XS.aloadN X0.here hx rfl (hb hby d_13) rfl rfl ?_
    refine XS.iloadN X0.here hx rfl (hb hby d_14) rfl ?_
    refine X0.baloadBytes hx (j := 2) (v := (.int x2')) (by rw [e0]; exact A14.1) (State.isArrayOf_alike hZ.alike A14.2.1) A14.2.2 i15 (H14.at i15 rfl) (g := (mkF m 17 #[rv v1, rv v2, iv 2] [(.int 2), (.ref v1)])) rfl rfl (hb hby d_15) _ ?_
    refine XS.aloadN X0.here hx rfl (hb hby d_16) rfl rfl ?_
    refine XS.iloadN X0.here hx rfl (hb hby d_17) rfl ?_
    show SS p e below s₁ m 20 #[rv v1, rv v2, iv 2] [(.int 2), (.ref v2), (.int x2')] _
    refine X0.baloadBytes hx (j := 2) (v := (.int e2')) (by rw [e0]; exact A16.1) (State.isArrayOf_alike hZ.alike A16.2.1) A16.2.2 i17 (H16.at i17 rfl) (g := (mkF m 20 #[rv v1, rv v2, iv 2] [(.int 2), (.ref v2), (.int x2')])) rfl rfl (hb hby d_18) _ ?_
    refine XS.icmpYes X0.here hx rfl (pc0 := 21) (pc' := 26) rfl (hb hby d_19) rfl (teq xe2).1 (by decide) (by decide) ?_
    refine XS.iinc X0.here hx rfl (hb hby d_22) rfl (l' := #[rv v1, rv v2, iv 3]) rfl ?_
    show SS p e below s₁ m 29 #[rv v1, rv v2, iv 3] [] _
    refine XS.goto X0.here hx rfl (pc0 := 29) (pc' := 9) rfl (hb hby d_23) (by decide) (by decide) ?_
    refine XS.iloadN X0.here hx rfl (hb hby d_9) rfl ?_
    refine XS.aloadN X0.here hx rfl (hb hby d_10) rfl rfl ?_
    refine X0.arraylength hx (by rw [e0]; exact A18.1) (State.isArrayOf_alike hZ.alike A18.2.1) (g := (mkF m 11 #[rv v1, rv v2, iv 3] [(.ref v1), (.int 3)])) rfl rfl (hb hby d_11) _ ?_
    rw [len_of S18 N18]
    refine XS.icmpNo X0.here hx rfl (hb hby d_12) rfl (tlt (by decide : (3 : Int32) < (6 : Int32))).2.1 ?_
    refine XS.aloadN X0.here hx rfl (hb hby d_13) rfl rfl ?_
    refine XS.iloadN X0.here hx rfl (hb hby d_14) rfl ?_
    refine X0.baloadBytes hx (j := 3) (v := (.int x3')) (by rw [e0]; exact A19.1) (State.isArrayOf_alike hZ.alike A19.2.1) A19.2.2 i20 (H19.at i20 rfl) (g := (mkF m 17 #[rv v1, rv v2, iv 3] [(.int 3), (.ref v1)])) rfl rfl (hb hby d_15) _ ?_
    refine XS.aloadN X0.here hx rfl (hb hby d_16) rfl rfl ?_
    refine XS.iloadN X0.here hx rfl (hb hby d_17) rfl ?_
    show SS p e below s₁ m 20 #[rv v1, rv v2, iv 3] [(.int 3), (.ref v2), (.int x3')] _
    refine X0.baloadBytes hx (j := 3) (v := (.int e3')) (by rw [e0]; exact A21.1) (State.isArrayOf_alike hZ.alike A21.2.1) A21.2.2 i22 (H21.at i22 rfl) (g := (mkF m 20 #[rv v1, rv v2, iv 3] [(.int 3), (.ref v2), (.int x3')])) rfl rfl (hb hby d_18) _ ?_
    refine XS.icmpYes X0.here hx rfl (pc0 := 21) (pc' := 26) rfl (hb hby d_19) rfl (teq xe3).1 (by decide) (by decide) ?_
    refine XS.iinc X0.here hx rfl (hb hby d_22) rfl (l' := #[rv v1, rv v2, iv 4]) rfl ?_
    show SS p e below s₁ m 29 #[rv v1, rv v2, iv 4] [] _
    refine XS.goto X0.here hx rfl (pc0 := 29) (pc' := 9) rfl (hb hby d_23) (by decide) (by decide) ?_
    refine XS.iloadN X0.here hx rfl (hb hby d_9) rfl ?_
    refine XS.aloadN X0.here hx rfl (hb hby d_10) rfl rfl ?_
    refine X0.arraylength hx (by rw [e0]; exact A23.1) (State.isArrayOf_alike hZ.alike A23.2.1) (g := (mkF m 11 #[rv v1, rv v2, iv 4] [(.ref v1), (.int 4)])) rfl rfl (hb hby d_11) _ ?_
    rw [len_of S23 N23]
    refine XS.icmpNo X0.here hx rfl (hb hby d_12) rfl (tlt (by decide : (4 : Int32) < (6 : Int32))).2.1 ?_
    refine XS.aloadN X0.here hx rfl (hb hby d_13) rfl rfl ?_
    refine XS.iloadN X0.here hx rfl (hb hby d_14) rfl ?_
    refine X0.baloadBytes hx (j := 4) (v := (.int x4')) (by rw [e0]; exact A24.1) (State.isArrayOf_alike hZ.alike A24.2.1) A24.2.2 i25 (H24.at i25 rfl) (g := (mkF m 17 #[rv v1, rv v2, iv 4] [(.int 4), (.ref v1)])) rfl rfl (hb hby d_15) _ ?_
    refine XS.aloadN X0.here hx rfl (hb hby d_16) rfl rfl ?_
    refine XS.iloadN X0.here hx rfl (hb hby d_17) rfl ?_
    show SS p e below s₁ m 20 #[rv v1, rv v2, iv 4] [(.int 4), (.ref v2), (.int x4')] _
    refine X0.baloadBytes hx (j := 4) (v := (.int e4')) (by rw [e0]; exact A26.1) (State.isArrayOf_alike hZ.alike A26.2.1) A26.2.2 i27 (H26.at i27 rfl) (g := (mkF m 20 #[rv v1, rv v2, iv 4] [(.int 4), (.ref v2), (.int x4')])) rfl rfl (hb hby d_18) _ ?_
    refine XS.icmpNo X0.here hx rfl (hb hby d_19) rfl (feq xe4).1 ?_
    refine XS.iconst X0.here hx rfl (hb hby d_20) ?_
    exact retN X0 hx (t := .boolean) hret (by simp) (hb hby d_21) hr
theorem own_l1_5 (l : Launch) (Z : State) (a0 : Array Value) (hw : HW Z a0) (v1 : Addr) (v2 : Addr) (k1 : ClassId) (k2 : ClassId) (x0' : Int32) (x1' : Int32) (x2' : Int32) (x3' : Int32) (x4' : Int32) (x5' : Int32) (e0' : Int32) (e1' : Int32) (e2' : Int32) (e3' : Int32) (e4' : Int32) (e5' : Int32) (h0 : Heap) (n0 : Nat) (O0 : Old Z n0 h0) (A_v1 : Arv Z h0 v1 k1 .byte 6 [(.int x0'), (.int x1'), (.int x2'), (.int x3'), (.int x4'), (.int x5')] (.int 0)) (A_v2 : Arv Z h0 v2 k2 .byte 6 [(.int e0'), (.int e1'), (.int e2'), (.int e3'), (.int e4'), (.int e5')] (.int 0)) (xe0 : x0' = e0') (xe1 : x1' = e1') (xe2 : x2' = e2') (xe3 : x3' = e3') (xe4 : x4' = e4') (xe5 : ¬ (x5' = e5')) :
    Met l Z [] MY0 jdk_43_method_13_code 3 (some .boolean) ({ frames := 0, cells := 0, slots := 0, locals := 0 } : Room) #[(.ref v1), (.ref v2)] h0 (QI (0 : Int32) h0 n0) := by
  have W := @own_W _ _ hw
  refine own_mk (plainFor_of_name pn_25) ?_
  intro p e s m below meth c s₁ hZ hx hby hml hown hnm hret hlk X0 e0
  have N0 := Fr.nil n0
  obtain ⟨c1, A1, q1, S1, N1, H1, G1⟩ := id A_v1
  obtain ⟨c2, A2, q2, S2, N2, H2, G2⟩ := id A_v2
  obtain ⟨c3, A3, q3, S3, N3, H3, G3⟩ := id A_v1
  obtain ⟨c4, A4, q4, S4, N4, H4, G4⟩ := id A_v1
  have i5 : NB 0 c4 := inb_of S4 (by decide)
  obtain ⟨c6, A6, q6, S6, N6, H6, G6⟩ := id A_v2
  have i7 : NB 0 c6 := inb_of S6 (by decide)
  obtain ⟨c8, A8, q8, S8, N8, H8, G8⟩ := id A_v1
  obtain ⟨c9, A9, q9, S9, N9, H9, G9⟩ := id A_v1
  have i10 : NB 1 c9 := inb_of S9 (by decide)
  obtain ⟨c11, A11, q11, S11, N11, H11, G11⟩ := id A_v2
  have i12 : NB 1 c11 := inb_of S11 (by decide)
  obtain ⟨c13, A13, q13, S13, N13, H13, G13⟩ := id A_v1
  obtain ⟨c14, A14, q14, S14, N14, H14, G14⟩ := id A_v1
  have i15 : NB 2 c14 := inb_of S14 (by decide)
  obtain ⟨c16, A16, q16, S16, N16, H16, G16⟩ := id A_v2
  have i17 : NB 2 c16 := inb_of S16 (by decide)
  obtain ⟨c18, A18, q18, S18, N18, H18, G18⟩ := id A_v1
  obtain ⟨c19, A19, q19, S19, N19, H19, G19⟩ := id A_v1
  have i20 : NB 3 c19 := inb_of S19 (by decide)
  obtain ⟨c21, A21, q21, S21, N21, H21, G21⟩ := id A_v2
  have i22 : NB 3 c21 := inb_of S21 (by decide)
  obtain ⟨c23, A23, q23, S23, N23, H23, G23⟩ := id A_v1
  obtain ⟨c24, A24, q24, S24, N24, H24, G24⟩ := id A_v1
  have i25 : NB 4 c24 := inb_of S24 (by decide)
  obtain ⟨c26, A26, q26, S26, N26, H26, G26⟩ := id A_v2
  have i27 : NB 4 c26 := inb_of S26 (by decide)
  obtain ⟨c28, A28, q28, S28, N28, H28, G28⟩ := id A_v1
  obtain ⟨c29, A29, q29, S29, N29, H29, G29⟩ := id A_v1
  have i30 : NB 5 c29 := inb_of S29 (by decide)
  obtain ⟨c31, A31, q31, S31, N31, H31, G31⟩ := id A_v2
  have i32 : NB 5 c31 := inb_of S31 (by decide)
  refine ⟨s₁, some (.int 0), _, _, _, X0, by decide, by decide, nofun, ?_, fun fs hr => castTop (ef_24 m v1 v2) ?_⟩
  · show QI (0 : Int32) h0 n0 _ s₁.heap _
    rw [e0]
    exact ⟨rfl, N0, rfl⟩
  · show SS p e below s₁ m 0 #[rv v1, rv v2, .unset] [] _
    refine XS.aloadN X0.here hx rfl (hb hby d_0) rfl rfl ?_
    refine X0.arraylength hx (by rw [e0]; exact A1.1) (State.isArrayOf_alike hZ.alike A1.2.1) (g := (mkF m 1 #[rv v1, rv v2, .unset] [(.ref v1)])) rfl rfl (hb hby d_1) _ ?_
    rw [len_of S1 N1]
    refine XS.aloadN X0.here hx rfl (hb hby d_2) rfl rfl ?_
    refine X0.arraylength hx (by rw [e0]; exact A2.1) (State.isArrayOf_alike hZ.alike A2.2.1) (g := (mkF m 3 #[rv v1, rv v2, .unset] [(.ref v2), (.int 6)])) rfl rfl (hb hby d_3) _ ?_
    rw [len_of S2 N2]
    refine XS.icmpNo X0.here hx rfl (hb hby d_4) rfl (teq (by decide : (6 : Int32) = (6 : Int32))).2 ?_
    refine XS.iconst X0.here hx rfl (hb hby d_7) ?_
    refine XS.istoreN X0.here hx rfl (hb hby d_8) rfl (l' := #[rv v1, rv v2, iv 0]) rfl ?_
    refine XS.iloadN X0.here hx rfl (hb hby d_9) rfl ?_
    refine XS.aloadN X0.here hx rfl (hb hby d_10) rfl rfl ?_
    refine X0.arraylength hx (by rw [e0]; exact A3.1) (State.isArrayOf_alike hZ.alike A3.2.1) (g := (mkF m 11 #[rv v1, rv v2, iv 0] [(.ref v1), (.int 0)])) rfl rfl (hb hby d_11) _ ?_
    rw [len_of S3 N3]
    show SS p e below s₁ m 12 #[rv v1, rv v2, iv 0] [(.int 6), (.int 0)] _
    refine XS.icmpNo X0.here hx rfl (hb hby d_12) rfl (tlt (by decide : (0 : Int32) < (6 : Int32))).2.1 ?_
    refine XS.aloadN X0.here hx rfl (hb hby d_13) rfl rfl ?_
    refine XS.iloadN X0.here hx rfl (hb hby d_14) rfl ?_
    refine X0.baloadBytes hx (j := 0) (v := (.int x0')) (by rw [e0]; exact A4.1) (State.isArrayOf_alike hZ.alike A4.2.1) A4.2.2 i5 (H4.at i5 rfl) (g := (mkF m 17 #[rv v1, rv v2, iv 0] [(.int 0), (.ref v1)])) rfl rfl (hb hby d_15) _ ?_
    refine XS.aloadN X0.here hx rfl (hb hby d_16) rfl rfl ?_
    refine XS.iloadN X0.here hx rfl (hb hby d_17) rfl ?_
    refine X0.baloadBytes hx (j := 0) (v := (.int e0')) (by rw [e0]; exact A6.1) (State.isArrayOf_alike hZ.alike A6.2.1) A6.2.2 i7 (H6.at i7 rfl) (g := (mkF m 20 #[rv v1, rv v2, iv 0] [(.int 0), (.ref v2), (.int x0')])) rfl rfl (hb hby d_18) _ ?_
    refine XS.icmpYes X0.here hx rfl (pc0 := 21) (pc' := 26) rfl (hb hby d_19) rfl (teq xe0).1 (by decide) (by decide) ?_
    refine XS.iinc X0.here hx rfl (hb hby d_22) rfl (l' := #[rv v1, rv v2, iv 1]) rfl ?_
    show SS p e below s₁ m 29 #[rv v1, rv v2, iv 1] [] _
    refine XS.goto X0.here hx rfl (pc0 := 29) (pc' := 9) rfl (hb hby d_23) (by decide) (by decide) ?_
    refine XS.iloadN X0.here hx rfl (hb hby d_9) rfl ?_
    refine XS.aloadN X0.here hx rfl (hb hby d_10) rfl rfl ?_
    refine X0.arraylength hx (by rw [e0]; exact A8.1) (State.isArrayOf_alike hZ.alike A8.2.1) (g := (mkF m 11 #[rv v1, rv v2, iv 1] [(.ref v1), (.int 1)])) rfl rfl (hb hby d_11) _ ?_
    rw [len_of S8 N8]
    refine XS.icmpNo X0.here hx rfl (hb hby d_12) rfl (tlt (by decide : (1 : Int32) < (6 : Int32))).2.1 ?_
    refine XS.aloadN X0.here hx rfl (hb hby d_13) rfl rfl ?_
    refine XS.iloadN X0.here hx rfl (hb hby d_14) rfl ?_
    refine X0.baloadBytes hx (j := 1) (v := (.int x1')) (by rw [e0]; exact A9.1) (State.isArrayOf_alike hZ.alike A9.2.1) A9.2.2 i10 (H9.at i10 rfl) (g := (mkF m 17 #[rv v1, rv v2, iv 1] [(.int 1), (.ref v1)])) rfl rfl (hb hby d_15) _ ?_
    refine XS.aloadN X0.here hx rfl (hb hby d_16) rfl rfl ?_
    refine XS.iloadN X0.here hx rfl (hb hby d_17) rfl ?_
    show SS p e below s₁ m 20 #[rv v1, rv v2, iv 1] [(.int 1), (.ref v2), (.int x1')] _
    refine X0.baloadBytes hx (j := 1) (v := (.int e1')) (by rw [e0]; exact A11.1) (State.isArrayOf_alike hZ.alike A11.2.1) A11.2.2 i12 (H11.at i12 rfl) (g := (mkF m 20 #[rv v1, rv v2, iv 1] [(.int 1), (.ref v2), (.int x1')])) rfl rfl (hb hby d_18) _ ?_
    refine XS.icmpYes X0.here hx rfl (pc0 := 21) (pc' := 26) rfl (hb hby d_19) rfl (teq xe1).1 (by decide) (by decide) ?_
    refine XS.iinc X0.here hx rfl (hb hby d_22) rfl (l' := #[rv v1, rv v2, iv 2]) rfl ?_
    show SS p e below s₁ m 29 #[rv v1, rv v2, iv 2] [] _
    refine XS.goto X0.here hx rfl (pc0 := 29) (pc' := 9) rfl (hb hby d_23) (by decide) (by decide) ?_
    refine XS.iloadN X0.here hx rfl (hb hby d_9) rfl ?_
    refine XS.aloadN X0.here hx rfl (hb hby d_10) rfl rfl ?_
    refine X0.arraylength hx (by rw [e0]; exact A13.1) (State.isArrayOf_alike hZ.alike A13.2.1) (g := (mkF m 11 #[rv v1, rv v2, iv 2] [(.ref v1), (.int 2)])) rfl rfl (hb hby d_11) _ ?_
    rw [len_of S13 N13]
    refine XS.icmpNo X0.here hx rfl (hb hby d_12) rfl (tlt (by decide : (2 : Int32) < (6 : Int32))).2.1 ?_
    refine XS.aloadN X0.here hx rfl (hb hby d_13) rfl rfl ?_
    refine XS.iloadN X0.here hx rfl (hb hby d_14) rfl ?_
    refine X0.baloadBytes hx (j := 2) (v := (.int x2')) (by rw [e0]; exact A14.1) (State.isArrayOf_alike hZ.alike A14.2.1) A14.2.2 i15 (H14.at i15 rfl) (g := (mkF m 17 #[rv v1, rv v2, iv 2] [(.int 2), (.ref v1)])) rfl rfl (hb hby d_15) _ ?_
    refine XS.aloadN X0.here hx rfl (hb hby d_16) rfl rfl ?_
    refine XS.iloadN X0.here hx rfl (hb hby d_17) rfl ?_
    show SS p e below s₁ m 20 #[rv v1, rv v2, iv 2] [(.int 2), (.ref v2), (.int x2')] _
    refine X0.baloadBytes hx (j := 2) (v := (.int e2')) (by rw [e0]; exact A16.1) (State.isArrayOf_alike hZ.alike A16.2.1) A16.2.2 i17 (H16.at i17 rfl) (g := (mkF m 20 #[rv v1, rv v2, iv 2] [(.int 2), (.ref v2), (.int x2')])) rfl rfl (hb hby d_18) _ ?_
    refine XS.icmpYes X0.here hx rfl (pc0 := 21) (pc' := 26) rfl (hb hby d_19) rfl (teq xe2).1 (by decide) (by decide) ?_
    refine XS.iinc X0.here hx rfl (hb hby d_22) rfl (l' := #[rv v1, rv v2, iv 3]) rfl ?_
    show SS p e below s₁ m 29 #[rv v1, rv v2, iv 3] [] _
    refine XS.goto X0.here hx rfl (pc0 := 29) (pc' := 9) rfl (hb hby d_23) (by decide) (by decide) ?_
    refine XS.iloadN X0.here hx rfl (hb hby d_9) rfl ?_
    refine XS.aloadN X0.here hx rfl (hb hby d_10) rfl rfl ?_
    refine X0.arraylength hx (by rw [e0]; exact A18.1) (State.isArrayOf_alike hZ.alike A18.2.1) (g := (mkF m 11 #[rv v1, rv v2, iv 3] [(.ref v1), (.int 3)])) rfl rfl (hb hby d_11) _ ?_
    rw [len_of S18 N18]
    refine XS.icmpNo X0.here hx rfl (hb hby d_12) rfl (tlt (by decide : (3 : Int32) < (6 : Int32))).2.1 ?_
    refine XS.aloadN X0.here hx rfl (hb hby d_13) rfl rfl ?_
    refine XS.iloadN X0.here hx rfl (hb hby d_14) rfl ?_
    refine X0.baloadBytes hx (j := 3) (v := (.int x3')) (by rw [e0]; exact A19.1) (State.isArrayOf_alike hZ.alike A19.2.1) A19.2.2 i20 (H19.at i20 rfl) (g := (mkF m 17 #[rv v1, rv v2, iv 3] [(.int 3), (.ref v1)])) rfl rfl (hb hby d_15) _ ?_
    refine XS.aloadN X0.here hx rfl (hb hby d_16) rfl rfl ?_
    refine XS.iloadN X0.here hx rfl (hb hby d_17) rfl ?_
    show SS p e below s₁ m 20 #[rv v1, rv v2, iv 3] [(.int 3), (.ref v2), (.int x3')] _
    refine X0.baloadBytes hx (j := 3) (v := (.int e3')) (by rw [e0]; exact A21.1) (State.isArrayOf_alike hZ.alike A21.2.1) A21.2.2 i22 (H21.at i22 rfl) (g := (mkF m 20 #[rv v1, rv v2, iv 3] [(.int 3), (.ref v2), (.int x3')])) rfl rfl (hb hby d_18) _ ?_
    refine XS.icmpYes X0.here hx rfl (pc0 := 21) (pc' := 26) rfl (hb hby d_19) rfl (teq xe3).1 (by decide) (by decide) ?_
    refine XS.iinc X0.here hx rfl (hb hby d_22) rfl (l' := #[rv v1, rv v2, iv 4]) rfl ?_
    show SS p e below s₁ m 29 #[rv v1, rv v2, iv 4] [] _
    refine XS.goto X0.here hx rfl (pc0 := 29) (pc' := 9) rfl (hb hby d_23) (by decide) (by decide) ?_
    refine XS.iloadN X0.here hx rfl (hb hby d_9) rfl ?_
    refine XS.aloadN X0.here hx rfl (hb hby d_10) rfl rfl ?_
    refine X0.arraylength hx (by rw [e0]; exact A23.1) (State.isArrayOf_alike hZ.alike A23.2.1) (g := (mkF m 11 #[rv v1, rv v2, iv 4] [(.ref v1), (.int 4)])) rfl rfl (hb hby d_11) _ ?_
    rw [len_of S23 N23]
    refine XS.icmpNo X0.here hx rfl (hb hby d_12) rfl (tlt (by decide : (4 : Int32) < (6 : Int32))).2.1 ?_
    refine XS.aloadN X0.here hx rfl (hb hby d_13) rfl rfl ?_
    refine XS.iloadN X0.here hx rfl (hb hby d_14) rfl ?_
    refine X0.baloadBytes hx (j := 4) (v := (.int x4')) (by rw [e0]; exact A24.1) (State.isArrayOf_alike hZ.alike A24.2.1) A24.2.2 i25 (H24.at i25 rfl) (g := (mkF m 17 #[rv v1, rv v2, iv 4] [(.int 4), (.ref v1)])) rfl rfl (hb hby d_15) _ ?_
    refine XS.aloadN X0.here hx rfl (hb hby d_16) rfl rfl ?_
    refine XS.iloadN X0.here hx rfl (hb hby d_17) rfl ?_
    show SS p e below s₁ m 20 #[rv v1, rv v2, iv 4] [(.int 4), (.ref v2), (.int x4')] _
    refine X0.baloadBytes hx (j := 4) (v := (.int e4')) (by rw [e0]; exact A26.1) (State.isArrayOf_alike hZ.alike A26.2.1) A26.2.2 i27 (H26.at i27 rfl) (g := (mkF m 20 #[rv v1, rv v2, iv 4] [(.int 4), (.ref v2), (.int x4')])) rfl rfl (hb hby d_18) _ ?_
    refine XS.icmpYes X0.here hx rfl (pc0 := 21) (pc' := 26) rfl (hb hby d_19) rfl (teq xe4).1 (by decide) (by decide) ?_
    refine XS.iinc X0.here hx rfl (hb hby d_22) rfl (l' := #[rv v1, rv v2, iv 5]) rfl ?_
    show SS p e below s₁ m 29 #[rv v1, rv v2, iv 5] [] _
    refine XS.goto X0.here hx rfl (pc0 := 29) (pc' := 9) rfl (hb hby d_23) (by decide) (by decide) ?_
    refine XS.iloadN X0.here hx rfl (hb hby d_9) rfl ?_
    refine XS.aloadN X0.here hx rfl (hb hby d_10) rfl rfl ?_
    refine X0.arraylength hx (by rw [e0]; exact A28.1) (State.isArrayOf_alike hZ.alike A28.2.1) (g := (mkF m 11 #[rv v1, rv v2, iv 5] [(.ref v1), (.int 5)])) rfl rfl (hb hby d_11) _ ?_
    rw [len_of S28 N28]
    refine XS.icmpNo X0.here hx rfl (hb hby d_12) rfl (tlt (by decide : (5 : Int32) < (6 : Int32))).2.1 ?_
    refine XS.aloadN X0.here hx rfl (hb hby d_13) rfl rfl ?_
    refine XS.iloadN X0.here hx rfl (hb hby d_14) rfl ?_
    refine X0.baloadBytes hx (j := 5) (v := (.int x5')) (by rw [e0]; exact A29.1) (State.isArrayOf_alike hZ.alike A29.2.1) A29.2.2 i30 (H29.at i30 rfl) (g := (mkF m 17 #[rv v1, rv v2, iv 5] [(.int 5), (.ref v1)])) rfl rfl (hb hby d_15) _ ?_
    refine XS.aloadN X0.here hx rfl (hb hby d_16) rfl rfl ?_
    refine XS.iloadN X0.here hx rfl (hb hby d_17) rfl ?_
    show SS p e below s₁ m 20 #[rv v1, rv v2, iv 5] [(.int 5), (.ref v2), (.int x5')] _
    refine X0.baloadBytes hx (j := 5) (v := (.int e5')) (by rw [e0]; exact A31.1) (State.isArrayOf_alike hZ.alike A31.2.1) A31.2.2 i32 (H31.at i32 rfl) (g := (mkF m 20 #[rv v1, rv v2, iv 5] [(.int 5), (.ref v2), (.int x5')])) rfl rfl (hb hby d_18) _ ?_
    refine XS.icmpNo X0.here hx rfl (hb hby d_19) rfl (feq xe5).1 ?_
    refine XS.iconst X0.here hx rfl (hb hby d_20) ?_
    exact retN X0 hx (t := .boolean) hret (by simp) (hb hby d_21) hr
theorem own_lC1 (l : Launch) (Z : State) (a0 : Array Value) (hw : HW Z a0) (v1 : Addr) (v2 : Addr) (k1 : ClassId) (k2 : ClassId) (x0' : Int32) (x1' : Int32) (x2' : Int32) (x3' : Int32) (x4' : Int32) (x5' : Int32) (n : Int32) (vs : List Value) (h0 : Heap) (n0 : Nat) (O0 : Old Z n0 h0) (A_v1 : Arv Z h0 v1 k1 .byte 6 [(.int x0'), (.int x1'), (.int x2'), (.int x3'), (.int x4'), (.int x5')] (.int 0)) (A_v2 : Arv Z h0 v2 k2 .byte n vs (.int 0)) (hP : own_P x0' x1' x2' x3' x4' x5' n vs)  :
    Met l Z [] MY0 jdk_43_method_13_code 3 (some .boolean) ({ frames := 0, cells := 0, slots := 0, locals := 0 } : Room) #[(.ref v1), (.ref v2)] h0 (QI (0 : Int32) h0 n0) := by
  by_cases h6 : n = 6
  · subst h6
    obtain ⟨e0', e1', e2', e3', e4', e5', rfl, hq⟩ := hP rfl
    by_cases xe0 : x0' = e0'
    ·
      by_cases xe1 : x1' = e1'
      ·
        by_cases xe2 : x2' = e2'
        ·
          by_cases xe3 : x3' = e3'
          ·
            by_cases xe4 : x4' = e4'
            ·
              by_cases xe5 : x5' = e5'
              ·
                exact absurd ⟨xe0, xe1, xe2, xe3, xe4, xe5⟩ hq
              · exact own_l1_5 l Z a0 hw v1 v2 k1 k2 x0' x1' x2' x3' x4' x5' e0' e1' e2' e3' e4' e5' h0 n0 O0 A_v1 A_v2 xe0 xe1 xe2 xe3 xe4 xe5
            · exact own_l1_4 l Z a0 hw v1 v2 k1 k2 x0' x1' x2' x3' x4' x5' e0' e1' e2' e3' e4' e5' h0 n0 O0 A_v1 A_v2 xe0 xe1 xe2 xe3 xe4
          · exact own_l1_3 l Z a0 hw v1 v2 k1 k2 x0' x1' x2' x3' x4' x5' e0' e1' e2' e3' e4' e5' h0 n0 O0 A_v1 A_v2 xe0 xe1 xe2 xe3
        · exact own_l1_2 l Z a0 hw v1 v2 k1 k2 x0' x1' x2' x3' x4' x5' e0' e1' e2' e3' e4' e5' h0 n0 O0 A_v1 A_v2 xe0 xe1 xe2
      · exact own_l1_1 l Z a0 hw v1 v2 k1 k2 x0' x1' x2' x3' x4' x5' e0' e1' e2' e3' e4' e5' h0 n0 O0 A_v1 A_v2 xe0 xe1
    · exact own_l1_0 l Z a0 hw v1 v2 k1 k2 x0' x1' x2' x3' x4' x5' e0' e1' e2' e3' e4' e5' h0 n0 O0 A_v1 A_v2 xe0
  · exact own_l1_n l Z a0 hw v1 v2 k1 k2 x0' x1' x2' x3' x4' x5' n vs h0 n0 O0 A_v1 A_v2 (fun u => h6 u.symm)
theorem own_l2_n (l : Launch) (Z : State) (a0 : Array Value) (hw : HW Z a0) (v1 : Addr) (v2 : Addr) (k1 : ClassId) (k2 : ClassId) (x0' : Int32) (x1' : Int32) (x2' : Int32) (x3' : Int32) (x4' : Int32) (x5' : Int32) (n : Int32) (vs : List Value) (h0 : Heap) (n0 : Nat) (O0 : Old Z n0 h0) (A_v1 : Arv Z h0 v1 k1 .byte n vs (.int 0)) (A_v2 : Arv Z h0 v2 k2 .byte 6 [(.int x0'), (.int x1'), (.int x2'), (.int x3'), (.int x4'), (.int x5')] (.int 0)) (hl : ¬ (n = (6 : Int32))) :
    Met l Z [] MY0 jdk_43_method_13_code 3 (some .boolean) ({ frames := 0, cells := 0, slots := 0, locals := 0 } : Room) #[(.ref v1), (.ref v2)] h0 (QI (0 : Int32) h0 n0) := by
  have W := @own_W _ _ hw
  refine own_mk (plainFor_of_name pn_25) ?_
  intro p e s m below meth c s₁ hZ hx hby hml hown hnm hret hlk X0 e0
  have N0 := Fr.nil n0
  obtain ⟨c1, A1, q1, S1, N1, H1, G1⟩ := id A_v1
  obtain ⟨c2, A2, q2, S2, N2, H2, G2⟩ := id A_v2
  refine ⟨s₁, some (.int 0), _, _, _, X0, by decide, by decide, nofun, ?_, fun fs hr => castTop (ef_24 m v1 v2) ?_⟩
  · show QI (0 : Int32) h0 n0 _ s₁.heap _
    rw [e0]
    exact ⟨rfl, N0, rfl⟩
  · show SS p e below s₁ m 0 #[rv v1, rv v2, .unset] [] _
    refine XS.aloadN X0.here hx rfl (hb hby d_0) rfl rfl ?_
    refine X0.arraylength hx (by rw [e0]; exact A1.1) (State.isArrayOf_alike hZ.alike A1.2.1) (g := (mkF m 1 #[rv v1, rv v2, .unset] [(.ref v1)])) rfl rfl (hb hby d_1) _ ?_
    rw [len_of S1 N1]
    refine XS.aloadN X0.here hx rfl (hb hby d_2) rfl rfl ?_
    refine X0.arraylength hx (by rw [e0]; exact A2.1) (State.isArrayOf_alike hZ.alike A2.2.1) (g := (mkF m 3 #[rv v1, rv v2, .unset] [(.ref v2), (.int n)])) rfl rfl (hb hby d_3) _ ?_
    rw [len_of S2 N2]
    refine XS.icmpYes X0.here hx rfl (pc0 := 4) (pc' := 34) rfl (hb hby d_4) rfl (feq hl).2 (by decide) (by decide) ?_
    refine XS.iconst X0.here hx rfl (hb hby d_5) ?_
    exact retN X0 hx (t := .boolean) hret (by simp) (hb hby d_6) hr
theorem own_lC2 (l : Launch) (Z : State) (a0 : Array Value) (hw : HW Z a0) (v1 : Addr) (v2 : Addr) (k1 : ClassId) (k2 : ClassId) (x0' : Int32) (x1' : Int32) (x2' : Int32) (x3' : Int32) (x4' : Int32) (x5' : Int32) (n : Int32) (vs : List Value) (h0 : Heap) (n0 : Nat) (O0 : Old Z n0 h0) (A_v1 : Arv Z h0 v1 k1 .byte n vs (.int 0)) (A_v2 : Arv Z h0 v2 k2 .byte 6 [(.int x0'), (.int x1'), (.int x2'), (.int x3'), (.int x4'), (.int x5')] (.int 0)) (hP : own_P x0' x1' x2' x3' x4' x5' n vs)  :
    Met l Z [] MY0 jdk_43_method_13_code 3 (some .boolean) ({ frames := 0, cells := 0, slots := 0, locals := 0 } : Room) #[(.ref v1), (.ref v2)] h0 (QI (0 : Int32) h0 n0) := by
  by_cases h6 : n = 6
  · subst h6
    obtain ⟨e0', e1', e2', e3', e4', e5', rfl, hq⟩ := hP rfl
    by_cases xe0 : e0' = x0'
    ·
      by_cases xe1 : e1' = x1'
      ·
        by_cases xe2 : e2' = x2'
        ·
          by_cases xe3 : e3' = x3'
          ·
            by_cases xe4 : e4' = x4'
            ·
              by_cases xe5 : e5' = x5'
              ·
                exact absurd ⟨xe0.symm, xe1.symm, xe2.symm, xe3.symm, xe4.symm, xe5.symm⟩ hq
              · exact own_l1_5 l Z a0 hw v1 v2 k1 k2 e0' e1' e2' e3' e4' e5' x0' x1' x2' x3' x4' x5' h0 n0 O0 A_v1 A_v2 xe0 xe1 xe2 xe3 xe4 xe5
            · exact own_l1_4 l Z a0 hw v1 v2 k1 k2 e0' e1' e2' e3' e4' e5' x0' x1' x2' x3' x4' x5' h0 n0 O0 A_v1 A_v2 xe0 xe1 xe2 xe3 xe4
          · exact own_l1_3 l Z a0 hw v1 v2 k1 k2 e0' e1' e2' e3' e4' e5' x0' x1' x2' x3' x4' x5' h0 n0 O0 A_v1 A_v2 xe0 xe1 xe2 xe3
        · exact own_l1_2 l Z a0 hw v1 v2 k1 k2 e0' e1' e2' e3' e4' e5' x0' x1' x2' x3' x4' x5' h0 n0 O0 A_v1 A_v2 xe0 xe1 xe2
      · exact own_l1_1 l Z a0 hw v1 v2 k1 k2 e0' e1' e2' e3' e4' e5' x0' x1' x2' x3' x4' x5' h0 n0 O0 A_v1 A_v2 xe0 xe1
    · exact own_l1_0 l Z a0 hw v1 v2 k1 k2 e0' e1' e2' e3' e4' e5' x0' x1' x2' x3' x4' x5' h0 n0 O0 A_v1 A_v2 xe0
  · exact own_l2_n l Z a0 hw v1 v2 k1 k2 x0' x1' x2' x3' x4' x5' n vs h0 n0 O0 A_v1 A_v2 (fun u => h6 u)
theorem d_26 : decode jdk_42_method_66_code 0 = .ok (.aload_n 0, 1) := by decide +kernel
theorem d_27 : decode jdk_42_method_66_code 1 = .ok (.aload_n 1, 1) := by decide +kernel
theorem d_28 : decode jdk_42_method_66_code 2 = .ok (.if_acmp .ne 5, 3) := by decide +kernel
theorem d_29 : decode jdk_42_method_66_code 7 = .ok (.aload_n 1, 1) := by decide +kernel
theorem d_30 : decode jdk_42_method_66_code 8 = .ok (.instanceof 10, 3) := by decide +kernel
theorem d_31 : decode jdk_42_method_66_code 11 = .ok (.ifCond .eq 43, 3) := by decide +kernel
theorem d_32 : decode jdk_42_method_66_code 14 = .ok (.aload_n 1, 1) := by decide +kernel
theorem d_33 : decode jdk_42_method_66_code 15 = .ok (.checkcast 10, 3) := by decide +kernel
theorem d_34 : decode jdk_42_method_66_code 18 = .ok (.astore_n 2, 1) := by decide +kernel
theorem d_35 : decode jdk_42_method_66_code 19 = .ok (.getstatic 38, 3) := by decide +kernel
theorem d_36 : decode jdk_42_method_66_code 22 = .ok (.ifCond .eq 14, 3) := by decide +kernel
theorem d_37 : decode jdk_42_method_66_code 25 = .ok (.aload_n 0, 1) := by decide +kernel
theorem d_38 : decode jdk_42_method_66_code 26 = .ok (.getfield 15, 3) := by decide +kernel
theorem d_39 : decode jdk_42_method_66_code 29 = .ok (.aload_n 2, 1) := by decide +kernel
theorem d_40 : decode jdk_42_method_66_code 30 = .ok (.getfield 15, 3) := by decide +kernel
theorem d_41 : decode jdk_42_method_66_code 33 = .ok (.if_icmp .ne 21, 3) := by decide +kernel
theorem d_42 : decode jdk_42_method_66_code 36 = .ok (.aload_n 0, 1) := by decide +kernel
theorem d_43 : decode jdk_42_method_66_code 37 = .ok (.getfield 9, 3) := by decide +kernel
theorem d_44 : decode jdk_42_method_66_code 40 = .ok (.aload_n 2, 1) := by decide +kernel
theorem d_45 : decode jdk_42_method_66_code 41 = .ok (.getfield 9, 3) := by decide +kernel
theorem d_46 : decode jdk_42_method_66_code 44 = .ok (.invokestatic 541, 3) := by decide +kernel
theorem pd_47 : parseMethodDescriptor "([B[B)Z" = some ⟨[(.array .byte), (.array .byte)], some .boolean⟩ := by decide +kernel
theorem d_48 : decode jdk_42_method_66_code 47 = .ok (.ifCond .eq 7, 3) := by decide +kernel
theorem d_49 : decode jdk_42_method_66_code 54 = .ok (.iconst 0, 1) := by decide +kernel
theorem d_50 : decode jdk_42_method_66_code 55 = .ok (.ireturn, 1) := by decide +kernel
theorem ef_51 (m : MethodId) (a1 : Addr) (a2 : Addr) : entryFrame m #[(.ref a1), (.ref a2)] 3 = mkF m 0 #[rv a1, rv a2, .unset] [] := by first | (simp [entryFrame, mkF, argsToLocals, Value.category]; done) | rfl
theorem pn_52 : plainName "java/lang/String" = true := by first | (simp [plainName, overriddenIn]; done) | decide +kernel
theorem own_ne1 (l : Launch) (Z : State) (a0 : Array Value) (hw : HW Z a0) (a1 : Addr) (a2 : Addr) (v1 : Addr) (v2 : Addr) (k1 : ClassId) (k2 : ClassId) (x0' : Int32) (x1' : Int32) (x2' : Int32) (x3' : Int32) (x4' : Int32) (x5' : Int32) (n : Int32) (vs : List Value) (oC : Int32) (h0 : Heap) (n0 : Nat) (O0 : Old Z n0 h0) (E_a1 : EA14 Z h0 a1) (C_a1 : FA11 Z h0 a1 (.int 0)) (V_a1 : FA12 Z h0 a1 (.ref v1)) (A_a1 : Arv Z h0 v1 k1 .byte 6 [(.int x0'), (.int x1'), (.int x2'), (.int x3'), (.int x4'), (.int x5')] (.int 0)) (E_a2 : EA14 Z h0 a2) (C_a2 : FA11 Z h0 a2 (.int 0)) (V_a2 : FA12 Z h0 a2 (.ref v2)) (A_a2 : Arv Z h0 v2 k2 .byte n vs (.int 0)) (ne12 : a1 ≠ a2) (hP : own_P x0' x1' x2' x3' x4' x5' n vs) (S_oC : SA18 Z Z.heap (.int oC)) (nz_oC : ¬ (oC = (0 : Int32)))  :
    Met l Z [] MY1 jdk_42_method_66_code 3 (some .boolean) ({ frames := 1, cells := 0, slots := 0, locals := 14 } : Room) #[(.ref a1), (.ref a2)] h0 (QI (0 : Int32) h0 n0) := by
  have W := @own_W _ _ hw
  refine own_mk (plainFor_of_name pn_52) ?_
  intro p e s m below meth c s₁ hZ hx hby hml hown hnm hret hlk X0 e0
  have N0 := Fr.nil n0
  obtain ⟨T1, X1, e1, st1⟩ := instY X0 hx hZ hown (W 42 rfl) e0 (Ins.self E_a2) (g := (mkF m 8 #[rv a1, rv a2, .unset] [(.ref a2)])) rfl rfl (hb hby d_30)
  obtain ⟨T2, X2, e2, st2⟩ := castY X1 hx hZ hown (W 42 rfl) e1 (Ins.self E_a2) (g := (mkF m 15 #[rv a1, rv a2, .unset] [(.ref a2)])) rfl rfl (hb hby d_33)
  obtain ⟨T3, X3, e3, st3⟩ := getS2 X2 hx hZ hown (host := "") (Or.inl (W 18 rfl)) Via.refl e2 (S_oC.ext O0.2) (g := (mkF m 19 #[rv a1, rv a2, rv a2] [])) rfl (hb hby d_35)
  obtain ⟨T4, X4, e4, st4⟩ := getF X3 hx hZ hown (host := "") (Or.inl (W 30 rfl)) Via.refl e3 C_a1 (g := (mkF m 26 #[rv a1, rv a2, rv a2] [(.ref a1)])) rfl rfl (hb hby d_38)
  obtain ⟨T5, X5, e5, st5⟩ := getF X4 hx hZ hown (host := "") (Or.inl (W 30 rfl)) Via.refl e4 C_a2 (g := (mkF m 30 #[rv a1, rv a2, rv a2] [(.ref a2), (.int 0)])) rfl rfl (hb hby d_40)
  obtain ⟨T6, X6, e6, st6⟩ := getF X5 hx hZ hown (host := "") (Or.inl (W 32 rfl)) Via.refl e5 V_a1 (g := (mkF m 37 #[rv a1, rv a2, rv a2] [(.ref a1)])) rfl rfl (hb hby d_43)
  obtain ⟨T7, X7, e7, st7⟩ := getF X6 hx hZ hown (host := "") (Or.inl (W 32 rfl)) Via.refl e6 V_a2 (g := (mkF m 41 #[rv a1, rv a2, rv a2] [(.ref a2), (.ref v1)])) rfl rfl (hb hby d_45)
  obtain ⟨_, T8, L8, X8, hQ8, st8⟩ := own_cs X7 hx hZ hown hml (W 43 rfl) (W 44 rfl) (W 45 rfl) (W 46 rfl) (own_lC1 l Z a0 hw v1 v2 k1 k2 x0' x1' x2' x3' x4' x5' n vs h0 n0 O0 (A_a1) (A_a2) (hP)) e7 (hb hby d_46) 0 #[rv a1, rv a2, rv a2] [(.ref v1), (.ref v2)] [] pd_47
  obtain ⟨rfl, N8q, K8⟩ := hQ8
  have N9 := Fr.app N0 N8q
  refine ⟨T8, some (.int 0), _, _, _, X8, by decide, by decide, nofun, ?_, fun fs hr => castTop (ef_51 m a1 a2) ?_⟩
  · show QI (0 : Int32) h0 n0 _ T8.heap _
    rw [K8]
    exact ⟨rfl, N9, rfl⟩
  · show SS p e below s₁ m 0 #[rv a1, rv a2, .unset] [] _
    refine XS.aloadN X0.here hx rfl (hb hby d_26) rfl rfl ?_
    refine XS.aloadN X0.here hx rfl (hb hby d_27) rfl rfl ?_
    refine Jvm.RoadKit.acmp (g := (mkF m 2 #[rv a1, rv a2, .unset] [(.ref a2), (.ref a1)])) X0 hx rfl rfl rfl (pc0 := 2) (pc' := 7) (same := false) rfl (hb hby d_28) rfl (decide_eq_false fun q => ne12 (Value.ref.inj q)) (by decide) (by decide) ?_
    refine XS.aloadN X0.here hx rfl (hb hby d_29) rfl rfl ?_
    refine st1 _ ?_
    refine XS.ifNo X1.here hx rfl (hb hby d_31) rfl ((if0 _ _).trans (feq (by decide : ¬ ((1 : Int32) = (0 : Int32)))).1) ?_
    refine XS.aloadN X1.here hx rfl (hb hby d_32) rfl rfl ?_
    refine st2 _ ?_
    refine XS.astoreN X2.here hx rfl (hb hby d_34) rfl rfl (l' := #[rv a1, rv a2, rv a2]) rfl ?_
    refine st3 _ ?_
    show SS p e below T3 m 22 #[rv a1, rv a2, rv a2] [(.int oC)] _
    refine XS.ifNo X3.here hx rfl (hb hby d_36) rfl ((if0 _ _).trans (feq nz_oC).1) ?_
    refine XS.aloadN X3.here hx rfl (hb hby d_37) rfl rfl ?_
    refine st4 _ ?_
    refine XS.aloadN X4.here hx rfl (hb hby d_39) rfl rfl ?_
    refine st5 _ ?_
    refine XS.icmpNo X5.here hx rfl (hb hby d_41) rfl (teq (by decide : (0 : Int32) = (0 : Int32))).2 ?_
    refine XS.aloadN X5.here hx rfl (hb hby d_42) rfl rfl ?_
    refine st6 _ ?_
    refine XS.aloadN X6.here hx rfl (hb hby d_44) rfl rfl ?_
    refine st7 _ ?_
    show SS p e below T7 m 44 #[rv a1, rv a2, rv a2] [(.ref v2), (.ref v1)] _
    refine st8 _ ?_
    refine XS.ifYes X8.here hx rfl (pc0 := 47) (pc' := 54) rfl (hb hby d_48) rfl ((if0 _ _).trans (teq (by decide : (0 : Int32) = (0 : Int32))).1) (by decide) (by decide) ?_
    refine XS.iconst X8.here hx rfl (hb hby d_49) ?_
    exact retN X8 hx (t := .boolean) hret (by simp) (hb hby d_50) hr
theorem own_neC1 (l : Launch) (Z : State) (a0 : Array Value) (hw : HW Z a0) (a1 : Addr) (a2 : Addr) (v1 : Addr) (v2 : Addr) (k1 : ClassId) (k2 : ClassId) (x0' : Int32) (x1' : Int32) (x2' : Int32) (x3' : Int32) (x4' : Int32) (x5' : Int32) (n : Int32) (vs : List Value) (oC : Int32) (h0 : Heap) (n0 : Nat) (O0 : Old Z n0 h0) (E_a1 : EA14 Z h0 a1) (C_a1 : FA11 Z h0 a1 (.int 0)) (V_a1 : FA12 Z h0 a1 (.ref v1)) (A_a1 : Arv Z h0 v1 k1 .byte 6 [(.int x0'), (.int x1'), (.int x2'), (.int x3'), (.int x4'), (.int x5')] (.int 0)) (E_a2 : EA14 Z h0 a2) (C_a2 : FA11 Z h0 a2 (.int 0)) (V_a2 : FA12 Z h0 a2 (.ref v2)) (A_a2 : Arv Z h0 v2 k2 .byte n vs (.int 0)) (hP : own_P x0' x1' x2' x3' x4' x5' n vs) (S_oC : SA18 Z Z.heap (.int oC)) (nz_oC : ¬ (oC = (0 : Int32)))  :
    Met l Z [] MY1 jdk_42_method_66_code 3 (some .boolean) ({ frames := 1, cells := 0, slots := 0, locals := 14 } : Room) #[(.ref a1), (.ref a2)] h0 (QI (0 : Int32) h0 n0) := by
  have hn : ¬ n < 0 := by obtain ⟨_, _, _, _, hn, _⟩ := A_a2; exact hn
  have ne12 : a1 ≠ a2 := by
    refine Fld.ne V_a1 V_a2 (fun q => arv_ne A_a1 A_a2 ?_ (Value.ref.inj q))
    by_cases h6 : n = 6
    · subst h6
      obtain ⟨e0', e1', e2', e3', e4', e5', rfl, hq⟩ := hP rfl
      refine Or.inr (Classical.byContradiction fun hc => hq ⟨Classical.byContradiction fun h => hc ⟨0, by decide, fun u => h (Value.int.inj u)⟩, Classical.byContradiction fun h => hc ⟨1, by decide, fun u => h (Value.int.inj u)⟩, Classical.byContradiction fun h => hc ⟨2, by decide, fun u => h (Value.int.inj u)⟩, Classical.byContradiction fun h => hc ⟨3, by decide, fun u => h (Value.int.inj u)⟩, Classical.byContradiction fun h => hc ⟨4, by decide, fun u => h (Value.int.inj u)⟩, Classical.byContradiction fun h => hc ⟨5, by decide, fun u => h (Value.int.inj u)⟩⟩)
    · exact Or.inl (fun u => h6 (own_nat hn (by decide) u.symm))
  exact own_ne1 l Z a0 hw a1 a2 v1 v2 k1 k2 x0' x1' x2' x3' x4' x5' n vs oC h0 n0 O0 E_a1 C_a1 V_a1 A_a1 E_a2 C_a2 V_a2 A_a2 ne12 hP S_oC nz_oC
theorem own_ne2 (l : Launch) (Z : State) (a0 : Array Value) (hw : HW Z a0) (a1 : Addr) (a2 : Addr) (v1 : Addr) (v2 : Addr) (k1 : ClassId) (k2 : ClassId) (x0' : Int32) (x1' : Int32) (x2' : Int32) (x3' : Int32) (x4' : Int32) (x5' : Int32) (n : Int32) (vs : List Value) (oC : Int32) (h0 : Heap) (n0 : Nat) (O0 : Old Z n0 h0) (E_a1 : EA14 Z h0 a1) (C_a1 : FA11 Z h0 a1 (.int 0)) (V_a1 : FA12 Z h0 a1 (.ref v1)) (A_a1 : Arv Z h0 v1 k1 .byte n vs (.int 0)) (E_a2 : EA14 Z h0 a2) (C_a2 : FA11 Z h0 a2 (.int 0)) (V_a2 : FA12 Z h0 a2 (.ref v2)) (A_a2 : Arv Z h0 v2 k2 .byte 6 [(.int x0'), (.int x1'), (.int x2'), (.int x3'), (.int x4'), (.int x5')] (.int 0)) (ne12 : a1 ≠ a2) (hP : own_P x0' x1' x2' x3' x4' x5' n vs) (S_oC : SA18 Z Z.heap (.int oC)) (nz_oC : ¬ (oC = (0 : Int32)))  :
    Met l Z [] MY1 jdk_42_method_66_code 3 (some .boolean) ({ frames := 1, cells := 0, slots := 0, locals := 14 } : Room) #[(.ref a1), (.ref a2)] h0 (QI (0 : Int32) h0 n0) := by
  have W := @own_W _ _ hw
  refine own_mk (plainFor_of_name pn_52) ?_
  intro p e s m below meth c s₁ hZ hx hby hml hown hnm hret hlk X0 e0
  have N0 := Fr.nil n0
  obtain ⟨T1, X1, e1, st1⟩ := instY X0 hx hZ hown (W 42 rfl) e0 (Ins.self E_a2) (g := (mkF m 8 #[rv a1, rv a2, .unset] [(.ref a2)])) rfl rfl (hb hby d_30)
  obtain ⟨T2, X2, e2, st2⟩ := castY X1 hx hZ hown (W 42 rfl) e1 (Ins.self E_a2) (g := (mkF m 15 #[rv a1, rv a2, .unset] [(.ref a2)])) rfl rfl (hb hby d_33)
  obtain ⟨T3, X3, e3, st3⟩ := getS2 X2 hx hZ hown (host := "") (Or.inl (W 18 rfl)) Via.refl e2 (S_oC.ext O0.2) (g := (mkF m 19 #[rv a1, rv a2, rv a2] [])) rfl (hb hby d_35)
  obtain ⟨T4, X4, e4, st4⟩ := getF X3 hx hZ hown (host := "") (Or.inl (W 30 rfl)) Via.refl e3 C_a1 (g := (mkF m 26 #[rv a1, rv a2, rv a2] [(.ref a1)])) rfl rfl (hb hby d_38)
  obtain ⟨T5, X5, e5, st5⟩ := getF X4 hx hZ hown (host := "") (Or.inl (W 30 rfl)) Via.refl e4 C_a2 (g := (mkF m 30 #[rv a1, rv a2, rv a2] [(.ref a2), (.int 0)])) rfl rfl (hb hby d_40)
  obtain ⟨T6, X6, e6, st6⟩ := getF X5 hx hZ hown (host := "") (Or.inl (W 32 rfl)) Via.refl e5 V_a1 (g := (mkF m 37 #[rv a1, rv a2, rv a2] [(.ref a1)])) rfl rfl (hb hby d_43)
  obtain ⟨T7, X7, e7, st7⟩ := getF X6 hx hZ hown (host := "") (Or.inl (W 32 rfl)) Via.refl e6 V_a2 (g := (mkF m 41 #[rv a1, rv a2, rv a2] [(.ref a2), (.ref v1)])) rfl rfl (hb hby d_45)
  obtain ⟨_, T8, L8, X8, hQ8, st8⟩ := own_cs X7 hx hZ hown hml (W 43 rfl) (W 44 rfl) (W 45 rfl) (W 46 rfl) (own_lC2 l Z a0 hw v1 v2 k1 k2 x0' x1' x2' x3' x4' x5' n vs h0 n0 O0 (A_a1) (A_a2) (hP)) e7 (hb hby d_46) 0 #[rv a1, rv a2, rv a2] [(.ref v1), (.ref v2)] [] pd_47
  obtain ⟨rfl, N8q, K8⟩ := hQ8
  have N9 := Fr.app N0 N8q
  refine ⟨T8, some (.int 0), _, _, _, X8, by decide, by decide, nofun, ?_, fun fs hr => castTop (ef_51 m a1 a2) ?_⟩
  · show QI (0 : Int32) h0 n0 _ T8.heap _
    rw [K8]
    exact ⟨rfl, N9, rfl⟩
  · show SS p e below s₁ m 0 #[rv a1, rv a2, .unset] [] _
    refine XS.aloadN X0.here hx rfl (hb hby d_26) rfl rfl ?_
    refine XS.aloadN X0.here hx rfl (hb hby d_27) rfl rfl ?_
    refine Jvm.RoadKit.acmp (g := (mkF m 2 #[rv a1, rv a2, .unset] [(.ref a2), (.ref a1)])) X0 hx rfl rfl rfl (pc0 := 2) (pc' := 7) (same := false) rfl (hb hby d_28) rfl (decide_eq_false fun q => ne12 (Value.ref.inj q)) (by decide) (by decide) ?_
    refine XS.aloadN X0.here hx rfl (hb hby d_29) rfl rfl ?_
    refine st1 _ ?_
    refine XS.ifNo X1.here hx rfl (hb hby d_31) rfl ((if0 _ _).trans (feq (by decide : ¬ ((1 : Int32) = (0 : Int32)))).1) ?_
    refine XS.aloadN X1.here hx rfl (hb hby d_32) rfl rfl ?_
    refine st2 _ ?_
    refine XS.astoreN X2.here hx rfl (hb hby d_34) rfl rfl (l' := #[rv a1, rv a2, rv a2]) rfl ?_
    refine st3 _ ?_
    show SS p e below T3 m 22 #[rv a1, rv a2, rv a2] [(.int oC)] _
    refine XS.ifNo X3.here hx rfl (hb hby d_36) rfl ((if0 _ _).trans (feq nz_oC).1) ?_
    refine XS.aloadN X3.here hx rfl (hb hby d_37) rfl rfl ?_
    refine st4 _ ?_
    refine XS.aloadN X4.here hx rfl (hb hby d_39) rfl rfl ?_
    refine st5 _ ?_
    refine XS.icmpNo X5.here hx rfl (hb hby d_41) rfl (teq (by decide : (0 : Int32) = (0 : Int32))).2 ?_
    refine XS.aloadN X5.here hx rfl (hb hby d_42) rfl rfl ?_
    refine st6 _ ?_
    refine XS.aloadN X6.here hx rfl (hb hby d_44) rfl rfl ?_
    refine st7 _ ?_
    show SS p e below T7 m 44 #[rv a1, rv a2, rv a2] [(.ref v2), (.ref v1)] _
    refine st8 _ ?_
    refine XS.ifYes X8.here hx rfl (pc0 := 47) (pc' := 54) rfl (hb hby d_48) rfl ((if0 _ _).trans (teq (by decide : (0 : Int32) = (0 : Int32))).1) (by decide) (by decide) ?_
    refine XS.iconst X8.here hx rfl (hb hby d_49) ?_
    exact retN X8 hx (t := .boolean) hret (by simp) (hb hby d_50) hr
theorem own_neC2 (l : Launch) (Z : State) (a0 : Array Value) (hw : HW Z a0) (a1 : Addr) (a2 : Addr) (v1 : Addr) (v2 : Addr) (k1 : ClassId) (k2 : ClassId) (x0' : Int32) (x1' : Int32) (x2' : Int32) (x3' : Int32) (x4' : Int32) (x5' : Int32) (n : Int32) (vs : List Value) (oC : Int32) (h0 : Heap) (n0 : Nat) (O0 : Old Z n0 h0) (E_a1 : EA14 Z h0 a1) (C_a1 : FA11 Z h0 a1 (.int 0)) (V_a1 : FA12 Z h0 a1 (.ref v1)) (A_a1 : Arv Z h0 v1 k1 .byte n vs (.int 0)) (E_a2 : EA14 Z h0 a2) (C_a2 : FA11 Z h0 a2 (.int 0)) (V_a2 : FA12 Z h0 a2 (.ref v2)) (A_a2 : Arv Z h0 v2 k2 .byte 6 [(.int x0'), (.int x1'), (.int x2'), (.int x3'), (.int x4'), (.int x5')] (.int 0)) (hP : own_P x0' x1' x2' x3' x4' x5' n vs) (S_oC : SA18 Z Z.heap (.int oC)) (nz_oC : ¬ (oC = (0 : Int32)))  :
    Met l Z [] MY1 jdk_42_method_66_code 3 (some .boolean) ({ frames := 1, cells := 0, slots := 0, locals := 14 } : Room) #[(.ref a1), (.ref a2)] h0 (QI (0 : Int32) h0 n0) := by
  have hn : ¬ n < 0 := by obtain ⟨_, _, _, _, hn, _⟩ := A_a1; exact hn
  have ne12 : a1 ≠ a2 := by
    refine Fld.ne V_a1 V_a2 (fun q => arv_ne A_a1 A_a2 ?_ (Value.ref.inj q))
    by_cases h6 : n = 6
    · subst h6
      obtain ⟨e0', e1', e2', e3', e4', e5', rfl, hq⟩ := hP rfl
      refine Or.inr (Classical.byContradiction fun hc => hq ⟨Classical.byContradiction fun h => hc ⟨0, by decide, fun u => h (Value.int.inj u).symm⟩, Classical.byContradiction fun h => hc ⟨1, by decide, fun u => h (Value.int.inj u).symm⟩, Classical.byContradiction fun h => hc ⟨2, by decide, fun u => h (Value.int.inj u).symm⟩, Classical.byContradiction fun h => hc ⟨3, by decide, fun u => h (Value.int.inj u).symm⟩, Classical.byContradiction fun h => hc ⟨4, by decide, fun u => h (Value.int.inj u).symm⟩, Classical.byContradiction fun h => hc ⟨5, by decide, fun u => h (Value.int.inj u).symm⟩⟩)
    · exact Or.inl (fun u => h6 (own_nat hn (by decide) u))
  exact own_ne2 l Z a0 hw a1 a2 v1 v2 k1 k2 x0' x1' x2' x3' x4' x5' n vs oC h0 n0 O0 E_a1 C_a1 V_a1 A_a1 E_a2 C_a2 V_a2 A_a2 ne12 hP S_oC nz_oC
theorem own_cls {m n b q c c0 c1 c2 c3 c4 c5 : Int32} (h1 : m = 0 ∨ m = 1 ∨ m = 2 ∨ m = 3) (h2 : n = 0 ∨ n = 1 ∨ n = 2 ∨ n = 3 ∨ n = 4 ∨ n = 5 ∨ n = 6 ∨ n = 7) (h3 : b = 0 ∨ b = 1) (h4 : q = 0 ∨ q = 1 ∨ q = 2 ∨ q = 3 ∨ q = 4 ∨ q = 5) : m = 3 ∨ ((m = 0 ∧ n = 6 ∧ c0 = 99 ∧ c1 = 108 ∧ c2 = 105 ∧ c3 = 101 ∧ c4 = 110 ∧ c5 = 116) ∨ (m = 1 ∧ (b = 0 ∨ (b = 1 ∧ q = 0 ∧ c = 99) ∨ (b = 1 ∧ q = 1 ∧ c = 108) ∨ (b = 1 ∧ q = 2 ∧ c = 105) ∨ (b = 1 ∧ q = 3 ∧ c = 101) ∨ (b = 1 ∧ q = 4 ∧ c = 110) ∨ (b = 1 ∧ q = 5 ∧ c = 116)))) ∨ ((m = 0 ∧ n = 6 ∧ c0 = 115 ∧ c1 = 101 ∧ c2 = 114 ∧ c3 = 118 ∧ c4 = 101 ∧ c5 = 114) ∨ (m = 2 ∧ (b = 0 ∨ (b = 1 ∧ q = 0 ∧ c = 115) ∨ (b = 1 ∧ q = 1 ∧ c = 101) ∨ (b = 1 ∧ q = 2 ∧ c = 114) ∨ (b = 1 ∧ q = 3 ∧ c = 118) ∨ (b = 1 ∧ q = 4 ∧ c = 101) ∨ (b = 1 ∧ q = 5 ∧ c = 114)))) ∨ ((m = 0 ∧ (n = 0 ∨ n = 1 ∨ n = 2 ∨ n = 3 ∨ n = 4 ∨ n = 5 ∨ n = 7 ∨ (n = 6 ∧ ¬ (c0 = 99 ∧ c1 = 108 ∧ c2 = 105 ∧ c3 = 101 ∧ c4 = 110 ∧ c5 = 116) ∧ ¬ (c0 = 115 ∧ c1 = 101 ∧ c2 = 114 ∧ c3 = 118 ∧ c4 = 101 ∧ c5 = 114)))) ∨ (m = 1 ∧ ((b = 1 ∧ q = 0 ∧ ¬ (c = 99)) ∨ (b = 1 ∧ q = 1 ∧ ¬ (c = 108)) ∨ (b = 1 ∧ q = 2 ∧ ¬ (c = 105)) ∨ (b = 1 ∧ q = 3 ∧ ¬ (c = 101)) ∨ (b = 1 ∧ q = 4 ∧ ¬ (c = 110)) ∨ (b = 1 ∧ q = 5 ∧ ¬ (c = 116)))) ∨ (m = 2 ∧ ((b = 1 ∧ q = 0 ∧ ¬ (c = 115)) ∨ (b = 1 ∧ q = 1 ∧ ¬ (c = 101)) ∨ (b = 1 ∧ q = 2 ∧ ¬ (c = 114)) ∨ (b = 1 ∧ q = 3 ∧ ¬ (c = 118)) ∨ (b = 1 ∧ q = 4 ∧ ¬ (c = 101)) ∨ (b = 1 ∧ q = 5 ∧ ¬ (c = 114))))) := by
  rcases h1 with rfl | rfl | rfl | rfl
  · rcases h2 with rfl | rfl | rfl | rfl | rfl | rfl | rfl | rfl
    · simp
    · simp
    · simp
    · simp
    · simp
    · simp
    · by_cases u : c0 = 99 ∧ c1 = 108 ∧ c2 = 105 ∧ c3 = 101 ∧ c4 = 110 ∧ c5 = 116
      · right; left; left; exact ⟨rfl, rfl, u⟩
      · by_cases v : c0 = 115 ∧ c1 = 101 ∧ c2 = 114 ∧ c3 = 118 ∧ c4 = 101 ∧ c5 = 114
        · right; right; left; left; exact ⟨rfl, rfl, v⟩
        · right; right; right; left; refine ⟨rfl, ?_⟩; right; right; right; right; right; right; right; exact ⟨rfl, u, v⟩
    · simp
  · rcases h3 with rfl | rfl
    · simp
    · rcases h4 with rfl | rfl | rfl | rfl | rfl | rfl
      · by_cases u : c = 99 <;> simp [u]
      · by_cases u : c = 108 <;> simp [u]
      · by_cases u : c = 105 <;> simp [u]
      · by_cases u : c = 101 <;> simp [u]
      · by_cases u : c = 110 <;> simp [u]
      · by_cases u : c = 116 <;> simp [u]
  · rcases h3 with rfl | rfl
    · simp
    · rcases h4 with rfl | rfl | rfl | rfl | rfl | rfl
      · by_cases u : c = 115 <;> simp [u]
      · by_cases u : c = 101 <;> simp [u]
      · by_cases u : c = 114 <;> simp [u]
      · by_cases u : c = 118 <;> simp [u]
      · by_cases u : c = 101 <;> simp [u]
      · by_cases u : c = 114 <;> simp [u]
  · simp
theorem own_m3 (p : Int32) : (p &&& (3 : Int32)) = 0 ∨ (p &&& (3 : Int32)) = 1 ∨ (p &&& (3 : Int32)) = 2 ∨ (p &&& (3 : Int32)) = 3 := by
  have h1 := c_mask p 3 2 (by decide) (by decide)
  simp only [← Int32.toInt_inj, Int32.reduceToInt]
  try simp only [Int32.reduceToInt] at h1
  omega
theorem own_m7 (p : Int32) : (p &&& (7 : Int32)) = 0 ∨ (p &&& (7 : Int32)) = 1 ∨ (p &&& (7 : Int32)) = 2 ∨ (p &&& (7 : Int32)) = 3 ∨ (p &&& (7 : Int32)) = 4 ∨ (p &&& (7 : Int32)) = 5 ∨ (p &&& (7 : Int32)) = 6 ∨ (p &&& (7 : Int32)) = 7 := by
  have h1 := c_mask p 7 3 (by decide) (by decide)
  simp only [← Int32.toInt_inj, Int32.reduceToInt]
  try simp only [Int32.reduceToInt] at h1
  omega
theorem own_m1 (p : Int32) : (p &&& (1 : Int32)) = 0 ∨ (p &&& (1 : Int32)) = 1 := by
  have h1 := c_mask p 1 1 (by decide) (by decide)
  simp only [← Int32.toInt_inj, Int32.reduceToInt]
  try simp only [Int32.reduceToInt] at h1
  omega
theorem own_r6 (p : Int32) : ((p &&& (2147483647 : Int32)) % (6 : Int32)) = 0 ∨ ((p &&& (2147483647 : Int32)) % (6 : Int32)) = 1 ∨ ((p &&& (2147483647 : Int32)) % (6 : Int32)) = 2 ∨ ((p &&& (2147483647 : Int32)) % (6 : Int32)) = 3 ∨ ((p &&& (2147483647 : Int32)) % (6 : Int32)) = 4 ∨ ((p &&& (2147483647 : Int32)) % (6 : Int32)) = 5 := by
  have h1 := c_mask p 2147483647 31 (by decide) (by decide)
  have h2 := (c_irem (p &&& 2147483647) 6 6 (by decide)).1 (by omega)
  simp only [← Int32.toInt_inj, h2, Int32.reduceToInt]
  omega
theorem d_53 : decode prog_9_method_5_code 0 = .ok (.invokestatic 33, 3) := by decide +kernel
theorem d_54 : decode prog_9_method_1_code 0 = .ok (.getstatic 10, 3) := by decide +kernel
theorem d_55 : decode prog_9_method_1_code 3 = .ok (.invokevirtual 14, 3) := by decide +kernel
theorem d_56 : decode prog_9_method_1_code 6 = .ok (.checkcast 15, 3) := by decide +kernel
theorem d_57 : decode prog_9_method_1_code 9 = .ok (.areturn, 1) := by decide +kernel
theorem ef_58 (m : MethodId)  : entryFrame m #[] 0 = mkF m 0 #[] [] := by first | (simp [entryFrame, mkF, argsToLocals, Value.category]; done) | rfl
theorem pn_59 : plainName "com/example/duplex/duplex/compliance/Side" = true := by first | (simp [plainName, overriddenIn]; done) | decide +kernel
def Q1_values (Z : State) (a1 : Addr) (k2 : ClassId) (a3 : Addr) (a4 : Addr) (h0 : Heap) (n0 : Nat) (v : Option Value) (h : Heap) (L : List Loc) : Prop := ∃ (b2 : Addr), v = some (.ref b2) ∧ Fr n0 L ∧ Keep h0 h [] ∧ h0.size ≤ b2 ∧ Arv Z h b2 k2 (.object "com/example/duplex/duplex/compliance/Side") (2 : Int32) [(.ref a3), (.ref a4)] .null ∧ EA15 Z h b2
theorem rm1_values (l : Launch) (Z : State) (a0 : Array Value) (hw : HW Z a0) (a1 : Addr) (k2 : ClassId) (a3 : Addr) (a4 : Addr) (h0 : Heap) (n0 : Nat) (O0 : Old Z n0 h0) (S_0 : SA19 Z Z.heap (.ref a1)) (F_1 : Arv Z Z.heap a1 k2 (.object "com/example/duplex/duplex/compliance/Side") (2 : Int32) [(.ref a3), (.ref a4)] .null) (F_2 : EA15 Z Z.heap a1) :
    Met l Z [] MY2 prog_9_method_1_code 0 (some (.array (.object "com/example/duplex/duplex/compliance/Side"))) ({ frames := 1, cells := 1, slots := 2, locals := 14 } : Room) #[] h0 (Q1_values Z a1 k2 a3 a4 h0 n0) := by
  have W := @own_W _ _ hw
  refine own_mk (plainFor_of_name pn_59) ?_
  intro p e s m below meth c s₁ hZ hx hby hml hown hnm hret hlk X0 e0
  have N0 := Fr.nil n0
  obtain ⟨T1, X1, e1, st1⟩ := getS2 X0 hx hZ hown (host := "") (Or.inl (W 55 rfl)) Via.refl e0 (S_0.ext O0.2) (g := (mkF m 0 #[] [])) rfl (hb hby d_54)
  obtain ⟨T2, h2, X2, e2, E2, A2, B2, st2⟩ := cloneH X1 hx hZ hown (W 57 rfl) (W 58 rfl) (W 62 rfl) (W 60 rfl) (W 61 rfl) (W 63 rfl) e1 (show Arh Z h0 a1 k2 (.object "com/example/duplex/duplex/compliance/Side") (2 : Int32) [] [(.ref a3), (.ref a4)] .null from (F_1.ext O0.2)) (F_2.ext O0.2) (g := (mkF m 3 #[] [(.ref a1)])) rfl (by rw [hml]; rfl) rfl (hb hby d_55) (by decide) (W := 0) (cap := 2) (by show 2 * 0 + _ ≤ _; exact Nat.le_of_eq rfl) (by decide) (by decide) (by decide) (by decide)
  obtain ⟨b2, g2⟩ : ∃ z, z = h0.size := ⟨_, rfl⟩
  rw [← g2] at A2 B2 st2
  have O3 := O0.ext E2
  have K4 : Keep h0 h2 [] := Keep.ext (Keep.refl h0 []) E2
  have v5 : Arv Z h2 b2 k2 (.object "com/example/duplex/duplex/compliance/Side") (2 : Int32) [(.ref a3), (.ref a4)] .null := A2
  obtain ⟨T6, X6, e6, st6⟩ := castY X2 hx hZ hown (W 67 rfl) e2 (Ins.self B2) (g := (mkF m 6 #[] [(.ref b2)])) rfl rfl (hb hby d_56)
  refine ⟨T6, some (.ref b2), _, _, _, X6, by decide, by decide, nofun, ?_, fun fs hr => castTop (ef_58 m ) ?_⟩
  · show Q1_values Z a1 k2 a3 a4 h0 n0 _ T6.heap _
    rw [e6]
    exact ⟨b2, rfl, N0, K4, (Nat.le_of_eq g2.symm), v5, B2⟩
  · show SS p e below s₁ m 0 #[] [] _
    refine st1 _ ?_
    refine st2 _ ?_
    refine st6 _ ?_
    exact retOut X6 hx hret rfl (Or.inr (Or.inr (Or.inr (Or.inr ⟨rfl, rfl, rfl⟩)))) (hb hby d_57) hr
theorem pd_60 : parseMethodDescriptor "()[Lcom/example/duplex/duplex/compliance/Side;" = some ⟨[], some (.array (.object "com/example/duplex/duplex/compliance/Side"))⟩ := by decide +kernel
theorem d_61 : decode prog_9_method_5_code 3 = .ok (.astore_n 1, 1) := by decide +kernel
theorem d_62 : decode prog_9_method_5_code 4 = .ok (.aload_n 1, 1) := by decide +kernel
theorem d_63 : decode prog_9_method_5_code 5 = .ok (.arraylength, 1) := by decide +kernel
theorem d_64 : decode prog_9_method_5_code 6 = .ok (.istore_n 2, 1) := by decide +kernel
theorem d_65 : decode prog_9_method_5_code 7 = .ok (.iconst 0, 1) := by decide +kernel
theorem d_66 : decode prog_9_method_5_code 8 = .ok (.istore_n 3, 1) := by decide +kernel
theorem d_67 : decode prog_9_method_5_code 9 = .ok (.iload_n 3, 1) := by decide +kernel
theorem d_68 : decode prog_9_method_5_code 10 = .ok (.iload_n 2, 1) := by decide +kernel
theorem d_69 : decode prog_9_method_5_code 11 = .ok (.if_icmp .ge 29, 3) := by decide +kernel
theorem d_70 : decode prog_9_method_5_code 14 = .ok (.aload_n 1, 1) := by decide +kernel
theorem d_71 : decode prog_9_method_5_code 15 = .ok (.iload_n 3, 1) := by decide +kernel
theorem d_72 : decode prog_9_method_5_code 16 = .ok (.aaload, 1) := by decide +kernel
theorem d_73 : decode prog_9_method_5_code 17 = .ok (.astore 4, 2) := by decide +kernel
theorem d_74 : decode prog_9_method_5_code 19 = .ok (.aload 4, 2) := by decide +kernel
theorem d_75 : decode prog_9_method_5_code 21 = .ok (.getfield 29, 3) := by decide +kernel
theorem d_76 : decode prog_9_method_5_code 24 = .ok (.aload_n 0, 1) := by decide +kernel
theorem d_77 : decode prog_9_method_5_code 25 = .ok (.invokevirtual 37, 3) := by decide +kernel
theorem ef_78 (m : MethodId) (a1 : Addr) : entryFrame m #[(.ref a1), .null] 3 = mkF m 0 #[rv a1, .val .null, .unset] [] := by first | (simp [entryFrame, mkF, argsToLocals, Value.category]; done) | rfl
def Q2_equals (Z : State) (a1 : Addr) (h0 : Heap) (n0 : Nat) (v : Option Value) (h : Heap) (L : List Loc) : Prop := v = some (.int 0) ∧ Fr n0 L ∧ h = h0
theorem rm2_equals (l : Launch) (Z : State) (a0 : Array Value) (hw : HW Z a0) (a1 : Addr) (h0 : Heap) (n0 : Nat) (O0 : Old Z n0 h0)  :
    Met l Z [] MY1 jdk_42_method_66_code 3 (some .boolean) ({ frames := 0, cells := 0, slots := 0, locals := 0 } : Room) #[(.ref a1), .null] h0 (Q2_equals Z a1 h0 n0) := by
  have W := @own_W _ _ hw
  refine own_mk (plainFor_of_name pn_52) ?_
  intro p e s m below meth c s₁ hZ hx hby hml hown hnm hret hlk X0 e0
  have N0 := Fr.nil n0
  refine ⟨s₁, some (.int 0), _, _, _, X0, by decide, by decide, nofun, ?_, fun fs hr => castTop (ef_78 m a1) ?_⟩
  · show Q2_equals Z a1 h0 n0 _ s₁.heap _
    rw [e0]
    exact ⟨rfl, N0, rfl⟩
  · show SS p e below s₁ m 0 #[rv a1, .val .null, .unset] [] _
    refine XS.aloadN X0.here hx rfl (hb hby d_26) rfl rfl ?_
    refine XS.aloadN X0.here hx rfl (hb hby d_27) rfl rfl ?_
    refine Jvm.RoadKit.acmp (g := (mkF m 2 #[rv a1, .val .null, .unset] [.null, (.ref a1)])) X0 hx rfl rfl rfl (pc0 := 2) (pc' := 7) (same := false) rfl (hb hby d_28) rfl (decide_eq_false nofun) (by decide) (by decide) ?_
    refine XS.aloadN X0.here hx rfl (hb hby d_29) rfl rfl ?_
    refine X0.instanceofNull hx (g := (mkF m 8 #[rv a1, .val .null, .unset] [.null])) rfl rfl (hb hby d_30) _ ?_
    refine XS.ifYes X0.here hx rfl (pc0 := 11) (pc' := 54) rfl (hb hby d_31) rfl ((if0 _ _).trans (teq (by decide : (0 : Int32) = (0 : Int32))).1) (by decide) (by decide) ?_
    refine XS.iconst X0.here hx rfl (hb hby d_49) ?_
    exact retN X0 hx (t := .boolean) hret (by simp) (hb hby d_50) hr
theorem pd_79 : parseMethodDescriptor "(Ljava/lang/Object;)Z" = some ⟨[(.object "java/lang/Object")], some .boolean⟩ := by decide +kernel
theorem d_80 : decode prog_9_method_5_code 28 = .ok (.ifCond .eq 6, 3) := by decide +kernel
theorem d_81 : decode prog_9_method_5_code 34 = .ok (.iinc 3 1, 3) := by decide +kernel
theorem d_82 : decode prog_9_method_5_code 37 = .ok (.goto (-28), 3) := by decide +kernel
theorem d_83 : decode prog_9_method_5_code 40 = .ok (.aconst_null, 1) := by decide +kernel
theorem d_84 : decode prog_9_method_5_code 41 = .ok (.areturn, 1) := by decide +kernel
theorem ef_85 (m : MethodId)  : entryFrame m #[.null] 5 = mkF m 0 #[.val .null, .unset, .unset, .unset, .unset] [] := by first | (simp [entryFrame, mkF, argsToLocals, Value.category]; done) | rfl
def Q3_ofLabel (Z : State) (a1 : Addr) (k2 : ClassId) (a3 : Addr) (a4 : Addr) (a5 : Addr) (a6 : Addr) (h0 : Heap) (n0 : Nat) (v : Option Value) (h : Heap) (L : List Loc) : Prop := v = some .null ∧ Fr n0 L ∧ Keep h0 h []
theorem rm3_ofLabel (l : Launch) (Z : State) (a0 : Array Value) (hw : HW Z a0) (a1 : Addr) (k2 : ClassId) (a3 : Addr) (a4 : Addr) (a5 : Addr) (a6 : Addr) (h0 : Heap) (n0 : Nat) (O0 : Old Z n0 h0) (S_0 : SA19 Z Z.heap (.ref a1)) (F_1 : Arv Z Z.heap a1 k2 (.object "com/example/duplex/duplex/compliance/Side") (2 : Int32) [(.ref a3), (.ref a4)] .null) (F_2 : EA15 Z Z.heap a1) (F_3 : FA13 Z Z.heap a3 (.ref a5)) (F_4 : EA14 Z Z.heap a5) (F_5 : FA13 Z Z.heap a4 (.ref a6)) (F_6 : EA14 Z Z.heap a6) :
    Met l Z [] MY3 prog_9_method_5_code 5 (some (.object "com/example/duplex/duplex/compliance/Side")) ({ frames := 2, cells := 1, slots := 2, locals := 25 } : Room) #[.null] h0 (Q3_ofLabel Z a1 k2 a3 a4 a5 a6 h0 n0) := by
  have W := @own_W _ _ hw
  refine own_mk (plainFor_of_name pn_59) ?_
  intro p e s m below meth c s₁ hZ hx hby hml hown hnm hret hlk X0 e0
  have N0 := Fr.nil n0
  obtain ⟨_, T1, L1, X1, hQ1, st1⟩ := own_cs X0 hx hZ hown hml (W 52 rfl) (W 53 rfl) (W 50 rfl) (W 54 rfl) (rm1_values l Z a0 hw a1 k2 a3 a4 h0 n0 O0 (S_0) (F_1) (F_2)) e0 (hb hby d_53) 0 #[.val .null, .unset, .unset, .unset, .unset] [] [] pd_60
  obtain ⟨b1_0, rfl, N1q, K1, gb1_0, F1_0, F1_1⟩ := hQ1
  have N2 := Fr.app N0 N1q
  have O3 := O0.keep K1 all0
  have K4 : Keep h0 T1.heap [] := Keep.trans (Keep.refl h0 []) K1 all0
  obtain ⟨c5, A5, q5, S5, N5, H5, G5⟩ := id F1_0
  obtain ⟨c6, A6, q6, S6, N6, H6, G6⟩ := id F1_0
  have i7 : NB 0 c6 := inb_of S6 (by decide)
  obtain ⟨T8, X8, e8, st8⟩ := getF X1 hx hZ hown (host := "") (Or.inl (W 69 rfl)) Via.refl rfl (F_3.ext O3.2) (g := (mkF m 21 #[.val .null, rv b1_0, iv 2, iv 0, rv a3] [(.ref a3)])) rfl rfl (hb hby d_75)
  obtain ⟨_, T9, L9, X9, hQ9, st9⟩ := own_cv X8 hx hZ hown hml (W 71 rfl) (W 38 rfl) (notFace_of_selects (W 40 rfl)) (W 40 rfl) (W 39 rfl) (W 6 rfl) (W 41 rfl) (rm2_equals l Z a0 hw a5 T1.heap n0 O3 ) e8 (F_4.ext O3.2) (hb hby d_77) 0 #[.val .null, rv b1_0, iv 2, iv 0, rv a3] [.null] [] pd_79
  obtain ⟨rfl, N9q, K9⟩ := hQ9
  have N10 := Fr.app N2 N9q
  obtain ⟨c11, A11, q11, S11, N11, H11, G11⟩ := id F1_0
  have i12 : NB 1 c11 := inb_of S11 (by decide)
  obtain ⟨T13, X13, e13, st13⟩ := getF X9 hx hZ hown (host := "") (Or.inl (W 69 rfl)) Via.refl K9 (F_5.ext O3.2) (g := (mkF m 21 #[.val .null, rv b1_0, iv 2, iv 1, rv a4] [(.ref a4)])) rfl rfl (hb hby d_75)
  obtain ⟨_, T14, L14, X14, hQ14, st14⟩ := own_cv X13 hx hZ hown hml (W 71 rfl) (W 38 rfl) (notFace_of_selects (W 40 rfl)) (W 40 rfl) (W 39 rfl) (W 6 rfl) (W 41 rfl) (rm2_equals l Z a0 hw a6 T1.heap n0 O3 ) e13 (F_6.ext O3.2) (hb hby d_77) 0 #[.val .null, rv b1_0, iv 2, iv 1, rv a4] [.null] [] pd_79
  obtain ⟨rfl, N14q, K14⟩ := hQ14
  have N15 := Fr.app N10 N14q
  refine ⟨T14, some .null, _, _, _, X14, by decide, by decide, nofun, ?_, fun fs hr => castTop (ef_85 m ) ?_⟩
  · show Q3_ofLabel Z a1 k2 a3 a4 a5 a6 h0 n0 _ T14.heap _
    rw [K14]
    exact ⟨rfl, N15, K4⟩
  · show SS p e below s₁ m 0 #[.val .null, .unset, .unset, .unset, .unset] [] _
    refine st1 _ ?_
    refine XS.astoreN X1.here hx rfl (hb hby d_61) rfl rfl (l' := #[.val .null, rv b1_0, .unset, .unset, .unset]) rfl ?_
    refine XS.aloadN X1.here hx rfl (hb hby d_62) rfl rfl ?_
    refine X1.arraylength hx (A5.1) (State.isArrayOf_alike hZ.alike A5.2.1) (g := (mkF m 5 #[.val .null, rv b1_0, .unset, .unset, .unset] [(.ref b1_0)])) rfl rfl (hb hby d_63) _ ?_
    rw [len_of S5 N5]
    refine XS.istoreN X1.here hx rfl (hb hby d_64) rfl (l' := #[.val .null, rv b1_0, iv 2, .unset, .unset]) rfl ?_
    refine XS.iconst X1.here hx rfl (hb hby d_65) ?_
    refine XS.istoreN X1.here hx rfl (hb hby d_66) rfl (l' := #[.val .null, rv b1_0, iv 2, iv 0, .unset]) rfl ?_
    refine XS.iloadN X1.here hx rfl (hb hby d_67) rfl ?_
    refine XS.iloadN X1.here hx rfl (hb hby d_68) rfl ?_
    refine XS.icmpNo X1.here hx rfl (hb hby d_69) rfl (tlt (by decide : (0 : Int32) < (2 : Int32))).2.1 ?_
    show SS p e below T1 m 14 #[.val .null, rv b1_0, iv 2, iv 0, .unset] [] _
    refine XS.aloadN X1.here hx rfl (hb hby d_70) rfl rfl ?_
    refine XS.iloadN X1.here hx rfl (hb hby d_71) rfl ?_
    refine X1.aaload hx (j := 0) (v := (.ref a3)) (A6.1) (State.isArrayOf_alike hZ.alike A6.2.1) rfl A6.2.2 i7 (H6.at i7 rfl) (g := (mkF m 16 #[.val .null, rv b1_0, iv 2, iv 0, .unset] [(.int 0), (.ref b1_0)])) rfl rfl (hb hby d_72) _ ?_
    refine XS.astore X1.here hx rfl (hb hby d_73) rfl rfl (l' := #[.val .null, rv b1_0, iv 2, iv 0, rv a3]) rfl ?_
    refine XS.aload X1.here hx rfl (hb hby d_74) rfl rfl ?_
    refine st8 _ ?_
    refine XS.aloadN X8.here hx rfl (hb hby d_76) rfl rfl ?_
    refine st9 _ ?_
    refine XS.ifYes X9.here hx rfl (pc0 := 28) (pc' := 34) rfl (hb hby d_80) rfl ((if0 _ _).trans (teq (by decide : (0 : Int32) = (0 : Int32))).1) (by decide) (by decide) ?_
    refine XS.iinc X9.here hx rfl (hb hby d_81) rfl (l' := #[.val .null, rv b1_0, iv 2, iv 1, rv a3]) rfl ?_
    show SS p e below T9 m 37 #[.val .null, rv b1_0, iv 2, iv 1, rv a3] [] _
    refine XS.goto X9.here hx rfl (pc0 := 37) (pc' := 9) rfl (hb hby d_82) (by decide) (by decide) ?_
    refine XS.iloadN X9.here hx rfl (hb hby d_67) rfl ?_
    refine XS.iloadN X9.here hx rfl (hb hby d_68) rfl ?_
    refine XS.icmpNo X9.here hx rfl (hb hby d_69) rfl (tlt (by decide : (1 : Int32) < (2 : Int32))).2.1 ?_
    refine XS.aloadN X9.here hx rfl (hb hby d_70) rfl rfl ?_
    refine XS.iloadN X9.here hx rfl (hb hby d_71) rfl ?_
    refine X9.aaload hx (j := 1) (v := (.ref a4)) (by rw [K9]; exact A11.1) (State.isArrayOf_alike hZ.alike A11.2.1) rfl A11.2.2 i12 (H11.at i12 rfl) (g := (mkF m 16 #[.val .null, rv b1_0, iv 2, iv 1, rv a3] [(.int 1), (.ref b1_0)])) rfl rfl (hb hby d_72) _ ?_
    refine XS.astore X9.here hx rfl (hb hby d_73) rfl rfl (l' := #[.val .null, rv b1_0, iv 2, iv 1, rv a4]) rfl ?_
    refine XS.aload X9.here hx rfl (hb hby d_74) rfl rfl ?_
    refine st13 _ ?_
    show SS p e below T13 m 24 #[.val .null, rv b1_0, iv 2, iv 1, rv a4] [(.ref a6)] _
    refine XS.aloadN X13.here hx rfl (hb hby d_76) rfl rfl ?_
    refine st14 _ ?_
    refine XS.ifYes X14.here hx rfl (pc0 := 28) (pc' := 34) rfl (hb hby d_80) rfl ((if0 _ _).trans (teq (by decide : (0 : Int32) = (0 : Int32))).1) (by decide) (by decide) ?_
    refine XS.iinc X14.here hx rfl (hb hby d_81) rfl (l' := #[.val .null, rv b1_0, iv 2, iv 2, rv a4]) rfl ?_
    show SS p e below T14 m 37 #[.val .null, rv b1_0, iv 2, iv 2, rv a4] [] _
    refine XS.goto X14.here hx rfl (pc0 := 37) (pc' := 9) rfl (hb hby d_82) (by decide) (by decide) ?_
    refine XS.iloadN X14.here hx rfl (hb hby d_67) rfl ?_
    refine XS.iloadN X14.here hx rfl (hb hby d_68) rfl ?_
    refine XS.icmpYes X14.here hx rfl (pc0 := 11) (pc' := 40) rfl (hb hby d_69) rfl (flt (by decide : ¬ ((2 : Int32) < (2 : Int32)))).2.1 (by decide) (by decide) ?_
    refine XS.aconstNull X14.here hx rfl (hb hby d_83) ?_
    exact retOut X14 hx hret rfl (Or.inr (Or.inr (Or.inr (Or.inr ⟨rfl, rfl, rfl⟩)))) (hb hby d_84) hr
theorem pd_86 : parseMethodDescriptor "(Ljava/lang/String;)Lcom/example/duplex/duplex/compliance/Side;" = some ⟨[(.object "java/lang/String")], some (.object "com/example/duplex/duplex/compliance/Side")⟩ := by decide +kernel
theorem d_87 : decode prog_9_method_4_code 0 = .ok (.aload_n 0, 1) := by decide +kernel
theorem d_88 : decode prog_9_method_4_code 1 = .ok (.getfield 29, 3) := by decide +kernel
theorem d_89 : decode prog_9_method_4_code 4 = .ok (.areturn, 1) := by decide +kernel
theorem ef_90 (m : MethodId) (a1 : Addr) : entryFrame m #[(.ref a1)] 1 = mkF m 0 #[rv a1] [] := by first | (simp [entryFrame, mkF, argsToLocals, Value.category]; done) | rfl
def Q4_label (Z : State) (a1 : Addr) (a2 : Addr) (h0 : Heap) (n0 : Nat) (v : Option Value) (h : Heap) (L : List Loc) : Prop := v = some (.ref a2) ∧ Fr n0 L ∧ h = h0
theorem rm4_label (l : Launch) (Z : State) (a0 : Array Value) (hw : HW Z a0) (a1 : Addr) (a2 : Addr) (h0 : Heap) (n0 : Nat) (O0 : Old Z n0 h0) (F_0 : FA13 Z Z.heap a1 (.ref a2)) :
    Met l Z [] MY4 prog_9_method_4_code 1 (some (.object "java/lang/String")) ({ frames := 0, cells := 0, slots := 0, locals := 0 } : Room) #[(.ref a1)] h0 (Q4_label Z a1 a2 h0 n0) := by
  have W := @own_W _ _ hw
  refine own_mk (plainFor_of_name pn_59) ?_
  intro p e s m below meth c s₁ hZ hx hby hml hown hnm hret hlk X0 e0
  have N0 := Fr.nil n0
  obtain ⟨T1, X1, e1, st1⟩ := getF X0 hx hZ hown (host := "") (Or.inl (W 69 rfl)) Via.refl e0 (F_0.ext O0.2) (g := (mkF m 1 #[rv a1] [(.ref a1)])) rfl rfl (hb hby d_88)
  refine ⟨T1, some (.ref a2), _, _, _, X1, by decide, by decide, nofun, ?_, fun fs hr => castTop (ef_90 m a1) ?_⟩
  · show Q4_label Z a1 a2 h0 n0 _ T1.heap _
    rw [e1]
    exact ⟨rfl, N0, rfl⟩
  · show SS p e below s₁ m 0 #[rv a1] [] _
    refine XS.aloadN X0.here hx rfl (hb hby d_87) rfl rfl ?_
    refine st1 _ ?_
    exact retOut X1 hx hret rfl (Or.inr (Or.inr (Or.inr (Or.inr ⟨rfl, rfl, rfl⟩)))) (hb hby d_89) hr
theorem pd_91 : parseMethodDescriptor "()Ljava/lang/String;" = some ⟨[], some (.object "java/lang/String")⟩ := by decide +kernel
theorem d_92 : decode jdk_42_method_66_code 5 = .ok (.iconst 1, 1) := by decide +kernel
theorem d_93 : decode jdk_42_method_66_code 6 = .ok (.ireturn, 1) := by decide +kernel
theorem ef_94 (m : MethodId) (a1 : Addr) : entryFrame m #[(.ref a1), (.ref a1)] 3 = mkF m 0 #[rv a1, rv a1, .unset] [] := by first | (simp [entryFrame, mkF, argsToLocals, Value.category]; done) | rfl
def Q5_equals (Z : State) (a1 : Addr) (h0 : Heap) (n0 : Nat) (v : Option Value) (h : Heap) (L : List Loc) : Prop := v = some (.int 1) ∧ Fr n0 L ∧ h = h0
theorem rm5_equals (l : Launch) (Z : State) (a0 : Array Value) (hw : HW Z a0) (a1 : Addr) (h0 : Heap) (n0 : Nat) (O0 : Old Z n0 h0)  :
    Met l Z [] MY1 jdk_42_method_66_code 3 (some .boolean) ({ frames := 0, cells := 0, slots := 0, locals := 0 } : Room) #[(.ref a1), (.ref a1)] h0 (Q5_equals Z a1 h0 n0) := by
  have W := @own_W _ _ hw
  refine own_mk (plainFor_of_name pn_52) ?_
  intro p e s m below meth c s₁ hZ hx hby hml hown hnm hret hlk X0 e0
  have N0 := Fr.nil n0
  refine ⟨s₁, some (.int 1), _, _, _, X0, by decide, by decide, nofun, ?_, fun fs hr => castTop (ef_94 m a1) ?_⟩
  · show Q5_equals Z a1 h0 n0 _ s₁.heap _
    rw [e0]
    exact ⟨rfl, N0, rfl⟩
  · show SS p e below s₁ m 0 #[rv a1, rv a1, .unset] [] _
    refine XS.aloadN X0.here hx rfl (hb hby d_26) rfl rfl ?_
    refine XS.aloadN X0.here hx rfl (hb hby d_27) rfl rfl ?_
    refine Jvm.RoadKit.acmp (g := (mkF m 2 #[rv a1, rv a1, .unset] [(.ref a1), (.ref a1)])) X0 hx rfl rfl rfl (pc0 := 2) (pc' := 5) (same := true) rfl (hb hby d_28) rfl (decide_eq_true rfl) (by decide) (by decide) ?_
    refine XS.iconst X0.here hx rfl (hb hby d_92) ?_
    exact retN X0 hx (t := .boolean) hret (by simp) (hb hby d_93) hr
theorem d_95 : decode prog_9_method_5_code 31 = .ok (.aload 4, 2) := by decide +kernel
theorem d_96 : decode prog_9_method_5_code 33 = .ok (.areturn, 1) := by decide +kernel
theorem ef_97 (m : MethodId) (a1 : Addr) : entryFrame m #[(.ref a1)] 5 = mkF m 0 #[rv a1, .unset, .unset, .unset, .unset] [] := by first | (simp [entryFrame, mkF, argsToLocals, Value.category]; done) | rfl
def Q6_ofLabel (Z : State) (a1 : Addr) (a2 : Addr) (k3 : ClassId) (a4 : Addr) (a5 : Addr) (h0 : Heap) (n0 : Nat) (v : Option Value) (h : Heap) (L : List Loc) : Prop := v = some (.ref a4) ∧ Fr n0 L ∧ Keep h0 h []
theorem rm6_ofLabel (l : Launch) (Z : State) (a0 : Array Value) (hw : HW Z a0) (a1 : Addr) (a2 : Addr) (k3 : ClassId) (a4 : Addr) (a5 : Addr) (h0 : Heap) (n0 : Nat) (O0 : Old Z n0 h0) (S_0 : SA19 Z Z.heap (.ref a2)) (F_1 : Arv Z Z.heap a2 k3 (.object "com/example/duplex/duplex/compliance/Side") (2 : Int32) [(.ref a4), (.ref a5)] .null) (F_2 : EA15 Z Z.heap a2) (F_3 : FA13 Z Z.heap a4 (.ref a1)) (F_4 : EA14 Z Z.heap a1) :
    Met l Z [] MY3 prog_9_method_5_code 5 (some (.object "com/example/duplex/duplex/compliance/Side")) ({ frames := 2, cells := 1, slots := 2, locals := 25 } : Room) #[(.ref a1)] h0 (Q6_ofLabel Z a1 a2 k3 a4 a5 h0 n0) := by
  have W := @own_W _ _ hw
  refine own_mk (plainFor_of_name pn_59) ?_
  intro p e s m below meth c s₁ hZ hx hby hml hown hnm hret hlk X0 e0
  have N0 := Fr.nil n0
  obtain ⟨_, T1, L1, X1, hQ1, st1⟩ := own_cs X0 hx hZ hown hml (W 52 rfl) (W 53 rfl) (W 50 rfl) (W 54 rfl) (rm1_values l Z a0 hw a2 k3 a4 a5 h0 n0 O0 (S_0) (F_1) (F_2)) e0 (hb hby d_53) 0 #[rv a1, .unset, .unset, .unset, .unset] [] [] pd_60
  obtain ⟨b1_0, rfl, N1q, K1, gb1_0, F1_0, F1_1⟩ := hQ1
  have N2 := Fr.app N0 N1q
  have O3 := O0.keep K1 all0
  have K4 : Keep h0 T1.heap [] := Keep.trans (Keep.refl h0 []) K1 all0
  obtain ⟨c5, A5, q5, S5, N5, H5, G5⟩ := id F1_0
  obtain ⟨c6, A6, q6, S6, N6, H6, G6⟩ := id F1_0
  have i7 : NB 0 c6 := inb_of S6 (by decide)
  obtain ⟨T8, X8, e8, st8⟩ := getF X1 hx hZ hown (host := "") (Or.inl (W 69 rfl)) Via.refl rfl (F_3.ext O3.2) (g := (mkF m 21 #[rv a1, rv b1_0, iv 2, iv 0, rv a4] [(.ref a4)])) rfl rfl (hb hby d_75)
  obtain ⟨_, T9, L9, X9, hQ9, st9⟩ := own_cv X8 hx hZ hown hml (W 71 rfl) (W 38 rfl) (notFace_of_selects (W 40 rfl)) (W 40 rfl) (W 39 rfl) (W 6 rfl) (W 41 rfl) (rm5_equals l Z a0 hw a1 T1.heap n0 O3 ) e8 (F_4.ext O3.2) (hb hby d_77) 0 #[rv a1, rv b1_0, iv 2, iv 0, rv a4] [(.ref a1)] [] pd_79
  obtain ⟨rfl, N9q, K9⟩ := hQ9
  have N10 := Fr.app N2 N9q
  refine ⟨T9, some (.ref a4), _, _, _, X9, by decide, by decide, nofun, ?_, fun fs hr => castTop (ef_97 m a1) ?_⟩
  · show Q6_ofLabel Z a1 a2 k3 a4 a5 h0 n0 _ T9.heap _
    rw [K9]
    exact ⟨rfl, N10, K4⟩
  · show SS p e below s₁ m 0 #[rv a1, .unset, .unset, .unset, .unset] [] _
    refine st1 _ ?_
    refine XS.astoreN X1.here hx rfl (hb hby d_61) rfl rfl (l' := #[rv a1, rv b1_0, .unset, .unset, .unset]) rfl ?_
    refine XS.aloadN X1.here hx rfl (hb hby d_62) rfl rfl ?_
    refine X1.arraylength hx (A5.1) (State.isArrayOf_alike hZ.alike A5.2.1) (g := (mkF m 5 #[rv a1, rv b1_0, .unset, .unset, .unset] [(.ref b1_0)])) rfl rfl (hb hby d_63) _ ?_
    rw [len_of S5 N5]
    refine XS.istoreN X1.here hx rfl (hb hby d_64) rfl (l' := #[rv a1, rv b1_0, iv 2, .unset, .unset]) rfl ?_
    refine XS.iconst X1.here hx rfl (hb hby d_65) ?_
    refine XS.istoreN X1.here hx rfl (hb hby d_66) rfl (l' := #[rv a1, rv b1_0, iv 2, iv 0, .unset]) rfl ?_
    refine XS.iloadN X1.here hx rfl (hb hby d_67) rfl ?_
    refine XS.iloadN X1.here hx rfl (hb hby d_68) rfl ?_
    refine XS.icmpNo X1.here hx rfl (hb hby d_69) rfl (tlt (by decide : (0 : Int32) < (2 : Int32))).2.1 ?_
    show SS p e below T1 m 14 #[rv a1, rv b1_0, iv 2, iv 0, .unset] [] _
    refine XS.aloadN X1.here hx rfl (hb hby d_70) rfl rfl ?_
    refine XS.iloadN X1.here hx rfl (hb hby d_71) rfl ?_
    refine X1.aaload hx (j := 0) (v := (.ref a4)) (A6.1) (State.isArrayOf_alike hZ.alike A6.2.1) rfl A6.2.2 i7 (H6.at i7 rfl) (g := (mkF m 16 #[rv a1, rv b1_0, iv 2, iv 0, .unset] [(.int 0), (.ref b1_0)])) rfl rfl (hb hby d_72) _ ?_
    refine XS.astore X1.here hx rfl (hb hby d_73) rfl rfl (l' := #[rv a1, rv b1_0, iv 2, iv 0, rv a4]) rfl ?_
    refine XS.aload X1.here hx rfl (hb hby d_74) rfl rfl ?_
    refine st8 _ ?_
    refine XS.aloadN X8.here hx rfl (hb hby d_76) rfl rfl ?_
    refine st9 _ ?_
    refine XS.ifNo X9.here hx rfl (hb hby d_80) rfl ((if0 _ _).trans (feq (by decide : ¬ ((1 : Int32) = (0 : Int32)))).1) ?_
    refine XS.aload X9.here hx rfl (hb hby d_95) rfl rfl ?_
    show SS p e below T9 m 33 #[rv a1, rv b1_0, iv 2, iv 0, rv a4] [(.ref a4)] _
    exact retOut X9 hx hret rfl (Or.inr (Or.inr (Or.inr (Or.inr ⟨rfl, rfl, rfl⟩)))) (hb hby d_96) hr
def Q7_equals (Z : State) (a1 : Addr) (a2 : Addr) (k3 : ClassId) (p4 : Int32) (p5 : Int32) (p6 : Int32) (p7 : Int32) (p8 : Int32) (p9 : Int32) (k10 : ClassId) (p11 : Int32) (p12 : Int32) (p13 : Int32) (p14 : Int32) (p15 : Int32) (p16 : Int32) (h0 : Heap) (n0 : Nat) (v : Option Value) (h : Heap) (L : List Loc) : Prop := v = some (.int 0) ∧ Fr n0 L ∧ h = h0
theorem rm7_equals (l : Launch) (Z : State) (a0 : Array Value) (hw : HW Z a0) (a1 : Addr) (a2 : Addr) (k3 : ClassId) (p4 : Int32) (p5 : Int32) (p6 : Int32) (p7 : Int32) (p8 : Int32) (p9 : Int32) (k10 : ClassId) (p11 : Int32) (p12 : Int32) (p13 : Int32) (p14 : Int32) (p15 : Int32) (p16 : Int32) (h0 : Heap) (n0 : Nat) (O0 : Old Z n0 h0) (F_0 : Arv Z Z.heap a1 k3 .byte 6 [(.int p4), (.int p5), (.int p6), (.int p7), (.int p8), (.int p9)] (.int 0)) (F_1 : Arv Z Z.heap a2 k10 .byte 6 [(.int p11), (.int p12), (.int p13), (.int p14), (.int p15), (.int p16)] (.int 0)) (hc_2 : ¬ (p4 = p11)) :
    Met l Z [] MY0 jdk_43_method_13_code 3 (some .boolean) ({ frames := 0, cells := 0, slots := 0, locals := 0 } : Room) #[(.ref a1), (.ref a2)] h0 (Q7_equals Z a1 a2 k3 p4 p5 p6 p7 p8 p9 k10 p11 p12 p13 p14 p15 p16 h0 n0) := by
  have W := @own_W _ _ hw
  refine own_mk (plainFor_of_name pn_25) ?_
  intro p e s m below meth c s₁ hZ hx hby hml hown hnm hret hlk X0 e0
  have N0 := Fr.nil n0
  obtain ⟨c1, A1, q1, S1, N1, H1, G1⟩ := id (F_0.ext O0.2)
  obtain ⟨c2, A2, q2, S2, N2, H2, G2⟩ := id (F_1.ext O0.2)
  obtain ⟨c3, A3, q3, S3, N3, H3, G3⟩ := id (F_0.ext O0.2)
  obtain ⟨c4, A4, q4, S4, N4, H4, G4⟩ := id (F_0.ext O0.2)
  have i5 : NB 0 c4 := inb_of S4 (by decide)
  obtain ⟨c6, A6, q6, S6, N6, H6, G6⟩ := id (F_1.ext O0.2)
  have i7 : NB 0 c6 := inb_of S6 (by decide)
  refine ⟨s₁, some (.int 0), _, _, _, X0, by decide, by decide, nofun, ?_, fun fs hr => castTop (ef_51 m a1 a2) ?_⟩
  · show Q7_equals Z a1 a2 k3 p4 p5 p6 p7 p8 p9 k10 p11 p12 p13 p14 p15 p16 h0 n0 _ s₁.heap _
    rw [e0]
    exact ⟨rfl, N0, rfl⟩
  · show SS p e below s₁ m 0 #[rv a1, rv a2, .unset] [] _
    refine XS.aloadN X0.here hx rfl (hb hby d_0) rfl rfl ?_
    refine X0.arraylength hx (by rw [e0]; exact A1.1) (State.isArrayOf_alike hZ.alike A1.2.1) (g := (mkF m 1 #[rv a1, rv a2, .unset] [(.ref a1)])) rfl rfl (hb hby d_1) _ ?_
    rw [len_of S1 N1]
    refine XS.aloadN X0.here hx rfl (hb hby d_2) rfl rfl ?_
    refine X0.arraylength hx (by rw [e0]; exact A2.1) (State.isArrayOf_alike hZ.alike A2.2.1) (g := (mkF m 3 #[rv a1, rv a2, .unset] [(.ref a2), (.int 6)])) rfl rfl (hb hby d_3) _ ?_
    rw [len_of S2 N2]
    refine XS.icmpNo X0.here hx rfl (hb hby d_4) rfl (teq (by decide : (6 : Int32) = (6 : Int32))).2 ?_
    refine XS.iconst X0.here hx rfl (hb hby d_7) ?_
    refine XS.istoreN X0.here hx rfl (hb hby d_8) rfl (l' := #[rv a1, rv a2, iv 0]) rfl ?_
    refine XS.iloadN X0.here hx rfl (hb hby d_9) rfl ?_
    refine XS.aloadN X0.here hx rfl (hb hby d_10) rfl rfl ?_
    refine X0.arraylength hx (by rw [e0]; exact A3.1) (State.isArrayOf_alike hZ.alike A3.2.1) (g := (mkF m 11 #[rv a1, rv a2, iv 0] [(.ref a1), (.int 0)])) rfl rfl (hb hby d_11) _ ?_
    rw [len_of S3 N3]
    show SS p e below s₁ m 12 #[rv a1, rv a2, iv 0] [(.int 6), (.int 0)] _
    refine XS.icmpNo X0.here hx rfl (hb hby d_12) rfl (tlt (by decide : (0 : Int32) < (6 : Int32))).2.1 ?_
    refine XS.aloadN X0.here hx rfl (hb hby d_13) rfl rfl ?_
    refine XS.iloadN X0.here hx rfl (hb hby d_14) rfl ?_
    refine X0.baloadBytes hx (j := 0) (v := (.int p4)) (by rw [e0]; exact A4.1) (State.isArrayOf_alike hZ.alike A4.2.1) A4.2.2 i5 (H4.at i5 rfl) (g := (mkF m 17 #[rv a1, rv a2, iv 0] [(.int 0), (.ref a1)])) rfl rfl (hb hby d_15) _ ?_
    refine XS.aloadN X0.here hx rfl (hb hby d_16) rfl rfl ?_
    refine XS.iloadN X0.here hx rfl (hb hby d_17) rfl ?_
    refine X0.baloadBytes hx (j := 0) (v := (.int p11)) (by rw [e0]; exact A6.1) (State.isArrayOf_alike hZ.alike A6.2.1) A6.2.2 i7 (H6.at i7 rfl) (g := (mkF m 20 #[rv a1, rv a2, iv 0] [(.int 0), (.ref a2), (.int p4)])) rfl rfl (hb hby d_18) _ ?_
    refine XS.icmpNo X0.here hx rfl (hb hby d_19) rfl (feq hc_2).1 ?_
    refine XS.iconst X0.here hx rfl (hb hby d_20) ?_
    exact retN X0 hx (t := .boolean) hret (by simp) (hb hby d_21) hr
def Q8_equals (Z : State) (a1 : Addr) (a2 : Addr) (p3 : Int32) (a4 : Addr) (a5 : Addr) (k6 : ClassId) (p7 : Int32) (p8 : Int32) (p9 : Int32) (p10 : Int32) (p11 : Int32) (p12 : Int32) (k13 : ClassId) (p14 : Int32) (p15 : Int32) (p16 : Int32) (p17 : Int32) (p18 : Int32) (p19 : Int32) (h0 : Heap) (n0 : Nat) (v : Option Value) (h : Heap) (L : List Loc) : Prop := v = some (.int 0) ∧ Fr n0 L ∧ h = h0
theorem rm8_equals (l : Launch) (Z : State) (a0 : Array Value) (hw : HW Z a0) (a1 : Addr) (a2 : Addr) (p3 : Int32) (a4 : Addr) (a5 : Addr) (k6 : ClassId) (p7 : Int32) (p8 : Int32) (p9 : Int32) (p10 : Int32) (p11 : Int32) (p12 : Int32) (k13 : ClassId) (p14 : Int32) (p15 : Int32) (p16 : Int32) (p17 : Int32) (p18 : Int32) (p19 : Int32) (h0 : Heap) (n0 : Nat) (O0 : Old Z n0 h0) (ne_0 : a1 ≠ a2) (F_1 : EA14 Z Z.heap a2) (S_2 : SA18 Z Z.heap (.int p3)) (hc_3 : ¬ (p3 = (0 : Int32))) (F_4 : FA11 Z Z.heap a1 (.int 0)) (F_5 : FA11 Z Z.heap a2 (.int 0)) (F_6 : FA12 Z Z.heap a1 (.ref a4)) (F_7 : FA12 Z Z.heap a2 (.ref a5)) (F_8 : Arv Z Z.heap a4 k6 .byte 6 [(.int p7), (.int p8), (.int p9), (.int p10), (.int p11), (.int p12)] (.int 0)) (F_9 : Arv Z Z.heap a5 k13 .byte 6 [(.int p14), (.int p15), (.int p16), (.int p17), (.int p18), (.int p19)] (.int 0)) (hc_10 : ¬ (p7 = p14)) :
    Met l Z [] MY1 jdk_42_method_66_code 3 (some .boolean) ({ frames := 1, cells := 0, slots := 0, locals := 14 } : Room) #[(.ref a1), (.ref a2)] h0 (Q8_equals Z a1 a2 p3 a4 a5 k6 p7 p8 p9 p10 p11 p12 k13 p14 p15 p16 p17 p18 p19 h0 n0) := by
  have W := @own_W _ _ hw
  refine own_mk (plainFor_of_name pn_52) ?_
  intro p e s m below meth c s₁ hZ hx hby hml hown hnm hret hlk X0 e0
  have N0 := Fr.nil n0
  obtain ⟨T1, X1, e1, st1⟩ := instY X0 hx hZ hown (W 42 rfl) e0 (Ins.self (F_1.ext O0.2)) (g := (mkF m 8 #[rv a1, rv a2, .unset] [(.ref a2)])) rfl rfl (hb hby d_30)
  obtain ⟨T2, X2, e2, st2⟩ := castY X1 hx hZ hown (W 42 rfl) e1 (Ins.self (F_1.ext O0.2)) (g := (mkF m 15 #[rv a1, rv a2, .unset] [(.ref a2)])) rfl rfl (hb hby d_33)
  obtain ⟨T3, X3, e3, st3⟩ := getS2 X2 hx hZ hown (host := "") (Or.inl (W 18 rfl)) Via.refl e2 (S_2.ext O0.2) (g := (mkF m 19 #[rv a1, rv a2, rv a2] [])) rfl (hb hby d_35)
  obtain ⟨T4, X4, e4, st4⟩ := getF X3 hx hZ hown (host := "") (Or.inl (W 30 rfl)) Via.refl e3 (F_4.ext O0.2) (g := (mkF m 26 #[rv a1, rv a2, rv a2] [(.ref a1)])) rfl rfl (hb hby d_38)
  obtain ⟨T5, X5, e5, st5⟩ := getF X4 hx hZ hown (host := "") (Or.inl (W 30 rfl)) Via.refl e4 (F_5.ext O0.2) (g := (mkF m 30 #[rv a1, rv a2, rv a2] [(.ref a2), (.int 0)])) rfl rfl (hb hby d_40)
  obtain ⟨T6, X6, e6, st6⟩ := getF X5 hx hZ hown (host := "") (Or.inl (W 32 rfl)) Via.refl e5 (F_6.ext O0.2) (g := (mkF m 37 #[rv a1, rv a2, rv a2] [(.ref a1)])) rfl rfl (hb hby d_43)
  obtain ⟨T7, X7, e7, st7⟩ := getF X6 hx hZ hown (host := "") (Or.inl (W 32 rfl)) Via.refl e6 (F_7.ext O0.2) (g := (mkF m 41 #[rv a1, rv a2, rv a2] [(.ref a2), (.ref a4)])) rfl rfl (hb hby d_45)
  obtain ⟨_, T8, L8, X8, hQ8, st8⟩ := own_cs X7 hx hZ hown hml (W 43 rfl) (W 44 rfl) (W 45 rfl) (W 46 rfl) (rm7_equals l Z a0 hw a4 a5 k6 p7 p8 p9 p10 p11 p12 k13 p14 p15 p16 p17 p18 p19 h0 n0 O0 (F_8) (F_9) (hc_10)) e7 (hb hby d_46) 0 #[rv a1, rv a2, rv a2] [(.ref a4), (.ref a5)] [] pd_47
  obtain ⟨rfl, N8q, K8⟩ := hQ8
  have N9 := Fr.app N0 N8q
  refine ⟨T8, some (.int 0), _, _, _, X8, by decide, by decide, nofun, ?_, fun fs hr => castTop (ef_51 m a1 a2) ?_⟩
  · show Q8_equals Z a1 a2 p3 a4 a5 k6 p7 p8 p9 p10 p11 p12 k13 p14 p15 p16 p17 p18 p19 h0 n0 _ T8.heap _
    rw [K8]
    exact ⟨rfl, N9, rfl⟩
  · show SS p e below s₁ m 0 #[rv a1, rv a2, .unset] [] _
    refine XS.aloadN X0.here hx rfl (hb hby d_26) rfl rfl ?_
    refine XS.aloadN X0.here hx rfl (hb hby d_27) rfl rfl ?_
    refine Jvm.RoadKit.acmp (g := (mkF m 2 #[rv a1, rv a2, .unset] [(.ref a2), (.ref a1)])) X0 hx rfl rfl rfl (pc0 := 2) (pc' := 7) (same := false) rfl (hb hby d_28) rfl (decide_eq_false fun q => ne_0 (Value.ref.inj q)) (by decide) (by decide) ?_
    refine XS.aloadN X0.here hx rfl (hb hby d_29) rfl rfl ?_
    refine st1 _ ?_
    refine XS.ifNo X1.here hx rfl (hb hby d_31) rfl ((if0 _ _).trans (feq (by decide : ¬ ((1 : Int32) = (0 : Int32)))).1) ?_
    refine XS.aloadN X1.here hx rfl (hb hby d_32) rfl rfl ?_
    refine st2 _ ?_
    refine XS.astoreN X2.here hx rfl (hb hby d_34) rfl rfl (l' := #[rv a1, rv a2, rv a2]) rfl ?_
    refine st3 _ ?_
    show SS p e below T3 m 22 #[rv a1, rv a2, rv a2] [(.int p3)] _
    refine XS.ifNo X3.here hx rfl (hb hby d_36) rfl ((if0 _ _).trans (feq hc_3).1) ?_
    refine XS.aloadN X3.here hx rfl (hb hby d_37) rfl rfl ?_
    refine st4 _ ?_
    refine XS.aloadN X4.here hx rfl (hb hby d_39) rfl rfl ?_
    refine st5 _ ?_
    refine XS.icmpNo X5.here hx rfl (hb hby d_41) rfl (teq (by decide : (0 : Int32) = (0 : Int32))).2 ?_
    refine XS.aloadN X5.here hx rfl (hb hby d_42) rfl rfl ?_
    refine st6 _ ?_
    refine XS.aloadN X6.here hx rfl (hb hby d_44) rfl rfl ?_
    refine st7 _ ?_
    show SS p e below T7 m 44 #[rv a1, rv a2, rv a2] [(.ref a5), (.ref a4)] _
    refine st8 _ ?_
    refine XS.ifYes X8.here hx rfl (pc0 := 47) (pc' := 54) rfl (hb hby d_48) rfl ((if0 _ _).trans (teq (by decide : (0 : Int32) = (0 : Int32))).1) (by decide) (by decide) ?_
    refine XS.iconst X8.here hx rfl (hb hby d_49) ?_
    exact retN X8 hx (t := .boolean) hret (by simp) (hb hby d_50) hr
def Q9_ofLabel (Z : State) (a1 : Addr) (a2 : Addr) (k3 : ClassId) (a4 : Addr) (a5 : Addr) (a6 : Addr) (a7 : Addr) (k8 : ClassId) (a9 : Addr) (k10 : ClassId) (p11 : Int32) (h0 : Heap) (n0 : Nat) (v : Option Value) (h : Heap) (L : List Loc) : Prop := v = some (.ref a5) ∧ Fr n0 L ∧ Keep h0 h []
theorem rm9_ofLabel (l : Launch) (Z : State) (a0 : Array Value) (hw : HW Z a0) (a1 : Addr) (a2 : Addr) (k3 : ClassId) (a4 : Addr) (a5 : Addr) (a6 : Addr) (a7 : Addr) (k8 : ClassId) (a9 : Addr) (k10 : ClassId) (p11 : Int32) (h0 : Heap) (n0 : Nat) (O0 : Old Z n0 h0) (S_0 : SA19 Z Z.heap (.ref a2)) (F_1 : Arv Z Z.heap a2 k3 (.object "com/example/duplex/duplex/compliance/Side") (2 : Int32) [(.ref a4), (.ref a5)] .null) (F_2 : EA15 Z Z.heap a2) (F_3 : FA13 Z Z.heap a4 (.ref a6)) (F_4 : EA14 Z Z.heap a6) (F_5 : FA11 Z Z.heap a6 (.int 0)) (F_6 : FA12 Z Z.heap a6 (.ref a7)) (F_7 : Arv Z Z.heap a7 k8 .byte 6 [(.int 99), (.int 108), (.int 105), (.int 101), (.int 110), (.int 116)] (.int 0)) (F_8 : EA14 Z Z.heap a1) (F_9 : FA11 Z Z.heap a1 (.int 0)) (F_10 : FA12 Z Z.heap a1 (.ref a9)) (F_11 : Arv Z Z.heap a9 k10 .byte 6 [(.int 115), (.int 101), (.int 114), (.int 118), (.int 101), (.int 114)] (.int 0)) (S_12 : SA18 Z Z.heap (.int p11)) (hc_13 : ¬ (p11 = (0 : Int32))) (ne_14 : a6 ≠ a1) (F_15 : FA13 Z Z.heap a5 (.ref a1)) :
    Met l Z [] MY3 prog_9_method_5_code 5 (some (.object "com/example/duplex/duplex/compliance/Side")) ({ frames := 2, cells := 1, slots := 2, locals := 28 } : Room) #[(.ref a1)] h0 (Q9_ofLabel Z a1 a2 k3 a4 a5 a6 a7 k8 a9 k10 p11 h0 n0) := by
  have W := @own_W _ _ hw
  refine own_mk (plainFor_of_name pn_59) ?_
  intro p e s m below meth c s₁ hZ hx hby hml hown hnm hret hlk X0 e0
  have N0 := Fr.nil n0
  obtain ⟨_, T1, L1, X1, hQ1, st1⟩ := own_cs X0 hx hZ hown hml (W 52 rfl) (W 53 rfl) (W 50 rfl) (W 54 rfl) (rm1_values l Z a0 hw a2 k3 a4 a5 h0 n0 O0 (S_0) (F_1) (F_2)) e0 (hb hby d_53) 0 #[rv a1, .unset, .unset, .unset, .unset] [] [] pd_60
  obtain ⟨b1_0, rfl, N1q, K1, gb1_0, F1_0, F1_1⟩ := hQ1
  have N2 := Fr.app N0 N1q
  have O3 := O0.keep K1 all0
  have K4 : Keep h0 T1.heap [] := Keep.trans (Keep.refl h0 []) K1 all0
  obtain ⟨c5, A5, q5, S5, N5, H5, G5⟩ := id F1_0
  obtain ⟨c6, A6, q6, S6, N6, H6, G6⟩ := id F1_0
  have i7 : NB 0 c6 := inb_of S6 (by decide)
  obtain ⟨T8, X8, e8, st8⟩ := getF X1 hx hZ hown (host := "") (Or.inl (W 69 rfl)) Via.refl rfl (F_3.ext O3.2) (g := (mkF m 21 #[rv a1, rv b1_0, iv 2, iv 0, rv a4] [(.ref a4)])) rfl rfl (hb hby d_75)
  obtain ⟨_, T9, L9, X9, hQ9, st9⟩ := own_cv X8 hx hZ hown hml (W 71 rfl) (W 38 rfl) (notFace_of_selects (W 40 rfl)) (W 40 rfl) (W 39 rfl) (W 6 rfl) (W 41 rfl) (rm8_equals l Z a0 hw a6 a1 p11 a7 a9 k8 (99 : Int32) (108 : Int32) (105 : Int32) (101 : Int32) (110 : Int32) (116 : Int32) k10 (115 : Int32) (101 : Int32) (114 : Int32) (118 : Int32) (101 : Int32) (114 : Int32) T1.heap n0 O3 (ne_14) (F_8) (S_12) (hc_13) (F_5) (F_9) (F_6) (F_10) (F_7) (F_11) ((by decide : ¬ ((99 : Int32) = (115 : Int32))))) e8 (F_4.ext O3.2) (hb hby d_77) 0 #[rv a1, rv b1_0, iv 2, iv 0, rv a4] [(.ref a1)] [] pd_79
  obtain ⟨rfl, N9q, K9⟩ := hQ9
  have N10 := Fr.app N2 N9q
  obtain ⟨c11, A11, q11, S11, N11, H11, G11⟩ := id F1_0
  have i12 : NB 1 c11 := inb_of S11 (by decide)
  obtain ⟨T13, X13, e13, st13⟩ := getF X9 hx hZ hown (host := "") (Or.inl (W 69 rfl)) Via.refl K9 (F_15.ext O3.2) (g := (mkF m 21 #[rv a1, rv b1_0, iv 2, iv 1, rv a5] [(.ref a5)])) rfl rfl (hb hby d_75)
  obtain ⟨_, T14, L14, X14, hQ14, st14⟩ := own_cv X13 hx hZ hown hml (W 71 rfl) (W 38 rfl) (notFace_of_selects (W 40 rfl)) (W 40 rfl) (W 39 rfl) (W 6 rfl) (W 41 rfl) (rm5_equals l Z a0 hw a1 T1.heap n0 O3 ) e13 (F_8.ext O3.2) (hb hby d_77) 0 #[rv a1, rv b1_0, iv 2, iv 1, rv a5] [(.ref a1)] [] pd_79
  obtain ⟨rfl, N14q, K14⟩ := hQ14
  have N15 := Fr.app N10 N14q
  refine ⟨T14, some (.ref a5), _, _, _, X14, by decide, by decide, nofun, ?_, fun fs hr => castTop (ef_97 m a1) ?_⟩
  · show Q9_ofLabel Z a1 a2 k3 a4 a5 a6 a7 k8 a9 k10 p11 h0 n0 _ T14.heap _
    rw [K14]
    exact ⟨rfl, N15, K4⟩
  · show SS p e below s₁ m 0 #[rv a1, .unset, .unset, .unset, .unset] [] _
    refine st1 _ ?_
    refine XS.astoreN X1.here hx rfl (hb hby d_61) rfl rfl (l' := #[rv a1, rv b1_0, .unset, .unset, .unset]) rfl ?_
    refine XS.aloadN X1.here hx rfl (hb hby d_62) rfl rfl ?_
    refine X1.arraylength hx (A5.1) (State.isArrayOf_alike hZ.alike A5.2.1) (g := (mkF m 5 #[rv a1, rv b1_0, .unset, .unset, .unset] [(.ref b1_0)])) rfl rfl (hb hby d_63) _ ?_
    rw [len_of S5 N5]
    refine XS.istoreN X1.here hx rfl (hb hby d_64) rfl (l' := #[rv a1, rv b1_0, iv 2, .unset, .unset]) rfl ?_
    refine XS.iconst X1.here hx rfl (hb hby d_65) ?_
    refine XS.istoreN X1.here hx rfl (hb hby d_66) rfl (l' := #[rv a1, rv b1_0, iv 2, iv 0, .unset]) rfl ?_
    refine XS.iloadN X1.here hx rfl (hb hby d_67) rfl ?_
    refine XS.iloadN X1.here hx rfl (hb hby d_68) rfl ?_
    refine XS.icmpNo X1.here hx rfl (hb hby d_69) rfl (tlt (by decide : (0 : Int32) < (2 : Int32))).2.1 ?_
    show SS p e below T1 m 14 #[rv a1, rv b1_0, iv 2, iv 0, .unset] [] _
    refine XS.aloadN X1.here hx rfl (hb hby d_70) rfl rfl ?_
    refine XS.iloadN X1.here hx rfl (hb hby d_71) rfl ?_
    refine X1.aaload hx (j := 0) (v := (.ref a4)) (A6.1) (State.isArrayOf_alike hZ.alike A6.2.1) rfl A6.2.2 i7 (H6.at i7 rfl) (g := (mkF m 16 #[rv a1, rv b1_0, iv 2, iv 0, .unset] [(.int 0), (.ref b1_0)])) rfl rfl (hb hby d_72) _ ?_
    refine XS.astore X1.here hx rfl (hb hby d_73) rfl rfl (l' := #[rv a1, rv b1_0, iv 2, iv 0, rv a4]) rfl ?_
    refine XS.aload X1.here hx rfl (hb hby d_74) rfl rfl ?_
    refine st8 _ ?_
    refine XS.aloadN X8.here hx rfl (hb hby d_76) rfl rfl ?_
    refine st9 _ ?_
    refine XS.ifYes X9.here hx rfl (pc0 := 28) (pc' := 34) rfl (hb hby d_80) rfl ((if0 _ _).trans (teq (by decide : (0 : Int32) = (0 : Int32))).1) (by decide) (by decide) ?_
    refine XS.iinc X9.here hx rfl (hb hby d_81) rfl (l' := #[rv a1, rv b1_0, iv 2, iv 1, rv a4]) rfl ?_
    show SS p e below T9 m 37 #[rv a1, rv b1_0, iv 2, iv 1, rv a4] [] _
    refine XS.goto X9.here hx rfl (pc0 := 37) (pc' := 9) rfl (hb hby d_82) (by decide) (by decide) ?_
    refine XS.iloadN X9.here hx rfl (hb hby d_67) rfl ?_
    refine XS.iloadN X9.here hx rfl (hb hby d_68) rfl ?_
    refine XS.icmpNo X9.here hx rfl (hb hby d_69) rfl (tlt (by decide : (1 : Int32) < (2 : Int32))).2.1 ?_
    refine XS.aloadN X9.here hx rfl (hb hby d_70) rfl rfl ?_
    refine XS.iloadN X9.here hx rfl (hb hby d_71) rfl ?_
    refine X9.aaload hx (j := 1) (v := (.ref a5)) (by rw [K9]; exact A11.1) (State.isArrayOf_alike hZ.alike A11.2.1) rfl A11.2.2 i12 (H11.at i12 rfl) (g := (mkF m 16 #[rv a1, rv b1_0, iv 2, iv 1, rv a4] [(.int 1), (.ref b1_0)])) rfl rfl (hb hby d_72) _ ?_
    refine XS.astore X9.here hx rfl (hb hby d_73) rfl rfl (l' := #[rv a1, rv b1_0, iv 2, iv 1, rv a5]) rfl ?_
    refine XS.aload X9.here hx rfl (hb hby d_74) rfl rfl ?_
    refine st13 _ ?_
    show SS p e below T13 m 24 #[rv a1, rv b1_0, iv 2, iv 1, rv a5] [(.ref a1)] _
    refine XS.aloadN X13.here hx rfl (hb hby d_76) rfl rfl ?_
    refine st14 _ ?_
    refine XS.ifNo X14.here hx rfl (hb hby d_80) rfl ((if0 _ _).trans (feq (by decide : ¬ ((1 : Int32) = (0 : Int32)))).1) ?_
    refine XS.aload X14.here hx rfl (hb hby d_95) rfl rfl ?_
    exact retOut X14 hx hret rfl (Or.inr (Or.inr (Or.inr (Or.inr ⟨rfl, rfl, rfl⟩)))) (hb hby d_96) hr
theorem d_98 : decode method_3_code 0 = .ok (.iload_n 0, 1) := by decide +kernel
theorem d_99 : decode method_3_code 1 = .ok (.ifCond .ne 14, 3) := by decide +kernel
theorem d_100 : decode method_3_code 15 = .ok (.iload_n 0, 1) := by decide +kernel
theorem d_101 : decode method_3_code 16 = .ok (.iconst 1, 1) := by decide +kernel
theorem d_102 : decode method_3_code 17 = .ok (.if_icmp .ne 18, 3) := by decide +kernel
theorem d_103 : decode method_3_code 35 = .ok (.iload_n 0, 1) := by decide +kernel
theorem d_104 : decode method_3_code 36 = .ok (.iconst 2, 1) := by decide +kernel
theorem d_105 : decode method_3_code 37 = .ok (.if_icmp .ne 22, 3) := by decide +kernel
theorem d_106 : decode method_3_code 59 = .ok (.iload_n 0, 1) := by decide +kernel
theorem d_107 : decode method_3_code 60 = .ok (.iconst 3, 1) := by decide +kernel
theorem d_108 : decode method_3_code 61 = .ok (.if_icmp .ne 26, 3) := by decide +kernel
theorem d_109 : decode method_3_code 87 = .ok (.iload_n 0, 1) := by decide +kernel
theorem d_110 : decode method_3_code 88 = .ok (.iconst 4, 1) := by decide +kernel
theorem d_111 : decode method_3_code 89 = .ok (.if_icmp .ne 31, 3) := by decide +kernel
theorem d_112 : decode method_3_code 120 = .ok (.iload_n 0, 1) := by decide +kernel
theorem d_113 : decode method_3_code 121 = .ok (.iconst 5, 1) := by decide +kernel
theorem d_114 : decode method_3_code 122 = .ok (.if_icmp .ne 36, 3) := by decide +kernel
theorem d_115 : decode method_3_code 158 = .ok (.iload_n 0, 1) := by decide +kernel
theorem d_116 : decode method_3_code 159 = .ok (.bipush 6, 2) := by decide +kernel
theorem d_117 : decode method_3_code 161 = .ok (.if_icmp .ne 42, 3) := by decide +kernel
theorem d_118 : decode method_3_code 164 = .ok (.new 14, 3) := by decide +kernel
theorem d_119 : decode method_3_code 167 = .ok (.dup, 1) := by decide +kernel
theorem d_120 : decode method_3_code 168 = .ok (.bipush 6, 2) := by decide +kernel
theorem d_121 : decode method_3_code 170 = .ok (.newarray .char, 2) := by decide +kernel
theorem d_122 : decode method_3_code 172 = .ok (.dup, 1) := by decide +kernel
theorem d_123 : decode method_3_code 173 = .ok (.iconst 0, 1) := by decide +kernel
theorem d_124 : decode method_3_code 174 = .ok (.iload_n 1, 1) := by decide +kernel
theorem d_125 : decode method_3_code 175 = .ok (.castore, 1) := by decide +kernel
theorem d_126 : decode method_3_code 176 = .ok (.dup, 1) := by decide +kernel
theorem d_127 : decode method_3_code 177 = .ok (.iconst 1, 1) := by decide +kernel
theorem d_128 : decode method_3_code 178 = .ok (.iload_n 2, 1) := by decide +kernel
theorem d_129 : decode method_3_code 179 = .ok (.castore, 1) := by decide +kernel
theorem d_130 : decode method_3_code 180 = .ok (.dup, 1) := by decide +kernel
theorem d_131 : decode method_3_code 181 = .ok (.iconst 2, 1) := by decide +kernel
theorem d_132 : decode method_3_code 182 = .ok (.iload_n 3, 1) := by decide +kernel
theorem d_133 : decode method_3_code 183 = .ok (.castore, 1) := by decide +kernel
theorem d_134 : decode method_3_code 184 = .ok (.dup, 1) := by decide +kernel
theorem d_135 : decode method_3_code 185 = .ok (.iconst 3, 1) := by decide +kernel
theorem d_136 : decode method_3_code 186 = .ok (.iload 4, 2) := by decide +kernel
theorem d_137 : decode method_3_code 188 = .ok (.castore, 1) := by decide +kernel
theorem d_138 : decode method_3_code 189 = .ok (.dup, 1) := by decide +kernel
theorem d_139 : decode method_3_code 190 = .ok (.iconst 4, 1) := by decide +kernel
theorem d_140 : decode method_3_code 191 = .ok (.iload 5, 2) := by decide +kernel
theorem d_141 : decode method_3_code 193 = .ok (.castore, 1) := by decide +kernel
theorem d_142 : decode method_3_code 194 = .ok (.dup, 1) := by decide +kernel
theorem d_143 : decode method_3_code 195 = .ok (.iconst 5, 1) := by decide +kernel
theorem d_144 : decode method_3_code 196 = .ok (.iload 6, 2) := by decide +kernel
theorem d_145 : decode method_3_code 198 = .ok (.castore, 1) := by decide +kernel
theorem d_146 : decode method_3_code 199 = .ok (.invokespecial 16, 3) := by decide +kernel
theorem d_147 : decode jdk_42_method_3_code 0 = .ok (.aload_n 0, 1) := by decide +kernel
theorem d_148 : decode jdk_42_method_3_code 1 = .ok (.aload_n 1, 1) := by decide +kernel
theorem d_149 : decode jdk_42_method_3_code 2 = .ok (.iconst 0, 1) := by decide +kernel
theorem d_150 : decode jdk_42_method_3_code 3 = .ok (.aload_n 1, 1) := by decide +kernel
theorem d_151 : decode jdk_42_method_3_code 4 = .ok (.arraylength, 1) := by decide +kernel
theorem d_152 : decode jdk_42_method_3_code 5 = .ok (.aconst_null, 1) := by decide +kernel
theorem d_153 : decode jdk_42_method_3_code 6 = .ok (.invokespecial 27, 3) := by decide +kernel
theorem d_154 : decode jdk_42_method_149_code 0 = .ok (.aload_n 0, 1) := by decide +kernel
theorem d_155 : decode jdk_42_method_149_code 1 = .ok (.invokespecial 1, 3) := by decide +kernel
theorem d_156 : decode jdk_42_method_149_code 4 = .ok (.iload_n 3, 1) := by decide +kernel
theorem d_157 : decode jdk_42_method_149_code 5 = .ok (.ifCond .ne 22, 3) := by decide +kernel
theorem d_158 : decode jdk_42_method_149_code 27 = .ok (.getstatic 38, 3) := by decide +kernel
theorem d_159 : decode jdk_42_method_149_code 30 = .ok (.ifCond .eq 28, 3) := by decide +kernel
theorem d_160 : decode jdk_42_method_149_code 33 = .ok (.aload_n 1, 1) := by decide +kernel
theorem d_161 : decode jdk_42_method_149_code 34 = .ok (.iload_n 2, 1) := by decide +kernel
theorem d_162 : decode jdk_42_method_149_code 35 = .ok (.iload_n 3, 1) := by decide +kernel
theorem d_163 : decode jdk_42_method_149_code 36 = .ok (.invokestatic 177, 3) := by decide +kernel
theorem d_164 : decode jdk_52_method_16_code 0 = .ok (.iload_n 2, 1) := by decide +kernel
theorem d_165 : decode jdk_52_method_16_code 1 = .ok (.newarray .byte, 2) := by decide +kernel
theorem d_166 : decode jdk_52_method_16_code 3 = .ok (.astore_n 3, 1) := by decide +kernel
theorem d_167 : decode jdk_52_method_16_code 4 = .ok (.aload_n 0, 1) := by decide +kernel
theorem d_168 : decode jdk_52_method_16_code 5 = .ok (.iload_n 1, 1) := by decide +kernel
theorem d_169 : decode jdk_52_method_16_code 6 = .ok (.aload_n 3, 1) := by decide +kernel
theorem d_170 : decode jdk_52_method_16_code 7 = .ok (.iconst 0, 1) := by decide +kernel
theorem d_171 : decode jdk_52_method_16_code 8 = .ok (.iload_n 2, 1) := by decide +kernel
theorem d_172 : decode jdk_52_method_16_code 9 = .ok (.invokestatic 115, 3) := by decide +kernel
theorem d_173 : decode jdk_52_method_21_code 0 = .ok (.iconst 0, 1) := by decide +kernel
theorem d_174 : decode jdk_52_method_21_code 1 = .ok (.istore 5, 2) := by decide +kernel
theorem d_175 : decode jdk_52_method_21_code 3 = .ok (.iload 5, 2) := by decide +kernel
theorem d_176 : decode jdk_52_method_21_code 5 = .ok (.iload 4, 2) := by decide +kernel
theorem d_177 : decode jdk_52_method_21_code 7 = .ok (.if_icmp .ge 37, 3) := by decide +kernel
theorem d_178 : decode jdk_52_method_21_code 10 = .ok (.aload_n 0, 1) := by decide +kernel
theorem d_179 : decode jdk_52_method_21_code 11 = .ok (.iload_n 1, 1) := by decide +kernel
theorem d_180 : decode jdk_52_method_21_code 12 = .ok (.caload, 1) := by decide +kernel
theorem d_181 : decode jdk_52_method_21_code 13 = .ok (.istore 6, 2) := by decide +kernel
theorem d_182 : decode jdk_52_method_21_code 15 = .ok (.iload 6, 2) := by decide +kernel
theorem d_183 : decode jdk_52_method_21_code 17 = .ok (.sipush 255, 3) := by decide +kernel
theorem d_184 : decode jdk_52_method_21_code 20 = .ok (.if_icmp .le 6, 3) := by decide +kernel
theorem d_185 : decode jdk_52_method_21_code 26 = .ok (.aload_n 2, 1) := by decide +kernel
theorem d_186 : decode jdk_52_method_21_code 27 = .ok (.iload_n 3, 1) := by decide +kernel
theorem d_187 : decode jdk_52_method_21_code 28 = .ok (.iload 6, 2) := by decide +kernel
theorem d_188 : decode jdk_52_method_21_code 30 = .ok (.i2b, 1) := by decide +kernel
theorem d_189 : decode jdk_52_method_21_code 31 = .ok (.bastore, 1) := by decide +kernel
theorem d_190 : decode jdk_52_method_21_code 32 = .ok (.iinc 1 1, 3) := by decide +kernel
theorem d_191 : decode jdk_52_method_21_code 35 = .ok (.iinc 3 1, 3) := by decide +kernel
theorem d_192 : decode jdk_52_method_21_code 38 = .ok (.iinc 5 1, 3) := by decide +kernel
theorem d_193 : decode jdk_52_method_21_code 41 = .ok (.goto (-38), 3) := by decide +kernel
theorem d_194 : decode jdk_52_method_21_code 44 = .ok (.iload 4, 2) := by decide +kernel
theorem d_195 : decode jdk_52_method_21_code 46 = .ok (.ireturn, 1) := by decide +kernel
theorem ef_196 (m : MethodId) (a1 : Addr) (a2 : Addr) : entryFrame m #[(.ref a1), (.int 0), (.ref a2), (.int 0), (.int 6)] 7 = mkF m 0 #[rv a1, iv 0, rv a2, iv 0, iv 6, .unset, .unset] [] := by first | (simp [entryFrame, mkF, argsToLocals, Value.category]; done) | rfl
theorem pn_197 : plainName "java/lang/StringUTF16" = true := by first | (simp [plainName, overriddenIn]; done) | decide +kernel
def Q10_compress (Z : State) (a1 : Addr) (a2 : Addr) (k3 : ClassId) (p4 : Int32) (p5 : Int32) (p6 : Int32) (p7 : Int32) (p8 : Int32) (p9 : Int32) (k10 : ClassId) (p11 : Int32) (p12 : Int32) (p13 : Int32) (p14 : Int32) (p15 : Int32) (p16 : Int32) (h0 : Heap) (n0 : Nat) (v : Option Value) (h : Heap) (L : List Loc) : Prop := v = some (.int 6) ∧ Fr n0 L ∧ Keep h0 h [a2] ∧ Arv Z h a2 k10 .byte 6 [(.int (p4.toInt8.toInt32)), (.int (p5.toInt8.toInt32)), (.int (p6.toInt8.toInt32)), (.int (p7.toInt8.toInt32)), (.int (p8.toInt8.toInt32)), (.int (p9.toInt8.toInt32))] (.int 0)
theorem rm10_compress (l : Launch) (Z : State) (a0 : Array Value) (hw : HW Z a0) (a1 : Addr) (a2 : Addr) (k3 : ClassId) (p4 : Int32) (p5 : Int32) (p6 : Int32) (p7 : Int32) (p8 : Int32) (p9 : Int32) (k10 : ClassId) (p11 : Int32) (p12 : Int32) (p13 : Int32) (p14 : Int32) (p15 : Int32) (p16 : Int32) (h0 : Heap) (n0 : Nat) (O0 : Old Z n0 h0) (F_0 : Arv Z h0 a1 k3 .char 6 [(.int p4), (.int p5), (.int p6), (.int p7), (.int p8), (.int p9)] (.int 0)) (hc_1 : ¬ ((255 : Int32) < p4)) (F_2 : Arv Z h0 a2 k10 .byte 6 [(.int p11), (.int p12), (.int p13), (.int p14), (.int p15), (.int p16)] (.int 0)) (g_3 : n0 ≤ a2) (ne_4 : a1 ≠ a2) (hc_5 : ¬ ((255 : Int32) < p5)) (hc_6 : ¬ ((255 : Int32) < p6)) (hc_7 : ¬ ((255 : Int32) < p7)) (hc_8 : ¬ ((255 : Int32) < p8)) (hc_9 : ¬ ((255 : Int32) < p9)) :
    Met l Z [] MY5 jdk_52_method_21_code 7 (some .int) ({ frames := 0, cells := 0, slots := 0, locals := 0 } : Room) #[(.ref a1), (.int 0), (.ref a2), (.int 0), (.int 6)] h0 (Q10_compress Z a1 a2 k3 p4 p5 p6 p7 p8 p9 k10 p11 p12 p13 p14 p15 p16 h0 n0) := by
  have W := @own_W _ _ hw
  refine own_mk (plainFor_of_name pn_197) ?_
  intro p e s m below meth c s₁ hZ hx hby hml hown hnm hret hlk X0 e0
  have N0 := Fr.nil n0
  obtain ⟨c1, A1, q1, S1, N1, H1, G1⟩ := id F_0
  have i2 : NB 0 c1 := inb_of S1 (by decide)
  obtain ⟨c3, A3, q3, S3, N3, H3, G3⟩ := id F_2
  have i4 : NB 0 c3 := inb_of S3 (by decide)
  obtain ⟨T4, h4, X4, e4, W4, st4⟩ := stB X0 hx hZ e0 A3 (j := 0) i4 (g := (mkF m 31 #[rv a1, iv 0, rv a2, iv 0, iv 6, iv 0, iv p4] [(.int (p4.toInt8.toInt32)), (.int 0), (.ref a2)])) rfl rfl (hb hby d_189)
  rw [(own_narB _)] at W4
  have O5 := O0.wr W4 g_3
  have K6 : Keep h0 h4 [a2] := Keep.wr (Keep.refl h0 [a2]) W4 (Or.inl (List.mem_of_getElem? (i := 0) rfl))
  have v7 : Arv Z h4 a2 k10 .byte 6 [(.int (p4.toInt8.toInt32)), (.int p12), (.int p13), (.int p14), (.int p15), (.int p16)] (.int 0) := Arv.set A3 q3 S3 N3 H3 G3 (own_fput (by simp) (own_narB _)) W4 0 rfl (Nat.le_of_ble_eq_true rfl)
  have N8 := Fr.snoc X4 N0 g_3
  have f10 := (F_0.other W4 ne_4)
  obtain ⟨c9, A9, q9, S9, N9, H9, G9⟩ := id f10
  have i11 : NB 1 c9 := inb_of S9 (by decide)
  obtain ⟨c12, A12, q12, S12, N12, H12, G12⟩ := id v7
  have i13 : NB 1 c12 := inb_of S12 (by decide)
  obtain ⟨T13, h13, X13, e13, W13, st13⟩ := stB X4 hx hZ e4 A12 (j := 1) i13 (g := (mkF m 31 #[rv a1, iv 1, rv a2, iv 1, iv 6, iv 1, iv p5] [(.int (p5.toInt8.toInt32)), (.int 1), (.ref a2)])) rfl rfl (hb hby d_189)
  rw [(own_narB _)] at W13
  have O14 := O5.wr W13 g_3
  have K15 : Keep h0 h13 [a2] := Keep.wr K6 W13 (Or.inl (List.mem_of_getElem? (i := 0) rfl))
  have v16 : Arv Z h13 a2 k10 .byte 6 [(.int (p4.toInt8.toInt32)), (.int (p5.toInt8.toInt32)), (.int p13), (.int p14), (.int p15), (.int p16)] (.int 0) := Arv.set A12 q12 S12 N12 H12 G12 (own_fput (by simp) (own_narB _)) W13 1 rfl (Nat.le_of_ble_eq_true rfl)
  have N17 := Fr.snoc X13 N8 g_3
  have f19 := (f10.other W13 ne_4)
  obtain ⟨c18, A18, q18, S18, N18, H18, G18⟩ := id f19
  have i20 : NB 2 c18 := inb_of S18 (by decide)
  obtain ⟨c21, A21, q21, S21, N21, H21, G21⟩ := id v16
  have i22 : NB 2 c21 := inb_of S21 (by decide)
  obtain ⟨T22, h22, X22, e22, W22, st22⟩ := stB X13 hx hZ e13 A21 (j := 2) i22 (g := (mkF m 31 #[rv a1, iv 2, rv a2, iv 2, iv 6, iv 2, iv p6] [(.int (p6.toInt8.toInt32)), (.int 2), (.ref a2)])) rfl rfl (hb hby d_189)
  rw [(own_narB _)] at W22
  have O23 := O14.wr W22 g_3
  have K24 : Keep h0 h22 [a2] := Keep.wr K15 W22 (Or.inl (List.mem_of_getElem? (i := 0) rfl))
  have v25 : Arv Z h22 a2 k10 .byte 6 [(.int (p4.toInt8.toInt32)), (.int (p5.toInt8.toInt32)), (.int (p6.toInt8.toInt32)), (.int p14), (.int p15), (.int p16)] (.int 0) := Arv.set A21 q21 S21 N21 H21 G21 (own_fput (by simp) (own_narB _)) W22 2 rfl (Nat.le_of_ble_eq_true rfl)
  have N26 := Fr.snoc X22 N17 g_3
  have f28 := (f19.other W22 ne_4)
  obtain ⟨c27, A27, q27, S27, N27, H27, G27⟩ := id f28
  have i29 : NB 3 c27 := inb_of S27 (by decide)
  obtain ⟨c30, A30, q30, S30, N30, H30, G30⟩ := id v25
  have i31 : NB 3 c30 := inb_of S30 (by decide)
  obtain ⟨T31, h31, X31, e31, W31, st31⟩ := stB X22 hx hZ e22 A30 (j := 3) i31 (g := (mkF m 31 #[rv a1, iv 3, rv a2, iv 3, iv 6, iv 3, iv p7] [(.int (p7.toInt8.toInt32)), (.int 3), (.ref a2)])) rfl rfl (hb hby d_189)
  rw [(own_narB _)] at W31
  have O32 := O23.wr W31 g_3
  have K33 : Keep h0 h31 [a2] := Keep.wr K24 W31 (Or.inl (List.mem_of_getElem? (i := 0) rfl))
  have v34 : Arv Z h31 a2 k10 .byte 6 [(.int (p4.toInt8.toInt32)), (.int (p5.toInt8.toInt32)), (.int (p6.toInt8.toInt32)), (.int (p7.toInt8.toInt32)), (.int p15), (.int p16)] (.int 0) := Arv.set A30 q30 S30 N30 H30 G30 (own_fput (by simp) (own_narB _)) W31 3 rfl (Nat.le_of_ble_eq_true rfl)
  have N35 := Fr.snoc X31 N26 g_3
  have f37 := (f28.other W31 ne_4)
  obtain ⟨c36, A36, q36, S36, N36, H36, G36⟩ := id f37
  have i38 : NB 4 c36 := inb_of S36 (by decide)
  obtain ⟨c39, A39, q39, S39, N39, H39, G39⟩ := id v34
  have i40 : NB 4 c39 := inb_of S39 (by decide)
  obtain ⟨T40, h40, X40, e40, W40, st40⟩ := stB X31 hx hZ e31 A39 (j := 4) i40 (g := (mkF m 31 #[rv a1, iv 4, rv a2, iv 4, iv 6, iv 4, iv p8] [(.int (p8.toInt8.toInt32)), (.int 4), (.ref a2)])) rfl rfl (hb hby d_189)
  rw [(own_narB _)] at W40
  have O41 := O32.wr W40 g_3
  have K42 : Keep h0 h40 [a2] := Keep.wr K33 W40 (Or.inl (List.mem_of_getElem? (i := 0) rfl))
  have v43 : Arv Z h40 a2 k10 .byte 6 [(.int (p4.toInt8.toInt32)), (.int (p5.toInt8.toInt32)), (.int (p6.toInt8.toInt32)), (.int (p7.toInt8.toInt32)), (.int (p8.toInt8.toInt32)), (.int p16)] (.int 0) := Arv.set A39 q39 S39 N39 H39 G39 (own_fput (by simp) (own_narB _)) W40 4 rfl (Nat.le_of_ble_eq_true rfl)
  have N44 := Fr.snoc X40 N35 g_3
  have f46 := (f37.other W40 ne_4)
  obtain ⟨c45, A45, q45, S45, N45, H45, G45⟩ := id f46
  have i47 : NB 5 c45 := inb_of S45 (by decide)
  obtain ⟨c48, A48, q48, S48, N48, H48, G48⟩ := id v43
  have i49 : NB 5 c48 := inb_of S48 (by decide)
  obtain ⟨T49, h49, X49, e49, W49, st49⟩ := stB X40 hx hZ e40 A48 (j := 5) i49 (g := (mkF m 31 #[rv a1, iv 5, rv a2, iv 5, iv 6, iv 5, iv p9] [(.int (p9.toInt8.toInt32)), (.int 5), (.ref a2)])) rfl rfl (hb hby d_189)
  rw [(own_narB _)] at W49
  have O50 := O41.wr W49 g_3
  have K51 : Keep h0 h49 [a2] := Keep.wr K42 W49 (Or.inl (List.mem_of_getElem? (i := 0) rfl))
  have v52 : Arv Z h49 a2 k10 .byte 6 [(.int (p4.toInt8.toInt32)), (.int (p5.toInt8.toInt32)), (.int (p6.toInt8.toInt32)), (.int (p7.toInt8.toInt32)), (.int (p8.toInt8.toInt32)), (.int (p9.toInt8.toInt32))] (.int 0) := Arv.set A48 q48 S48 N48 H48 G48 (own_fput (by simp) (own_narB _)) W49 5 rfl (Nat.le_of_ble_eq_true rfl)
  have N53 := Fr.snoc X49 N44 g_3
  refine ⟨T49, some (.int 6), _, _, _, X49, by decide, by decide, nofun, ?_, fun fs hr => castTop (ef_196 m a1 a2) ?_⟩
  · show Q10_compress Z a1 a2 k3 p4 p5 p6 p7 p8 p9 k10 p11 p12 p13 p14 p15 p16 h0 n0 _ T49.heap _
    rw [e49]
    exact ⟨rfl, N53, K51, v52⟩
  · show SS p e below s₁ m 0 #[rv a1, iv 0, rv a2, iv 0, iv 6, .unset, .unset] [] _
    refine XS.iconst X0.here hx rfl (hb hby d_173) ?_
    refine XS.istore X0.here hx rfl (hb hby d_174) rfl (l' := #[rv a1, iv 0, rv a2, iv 0, iv 6, iv 0, .unset]) rfl ?_
    refine XS.iload X0.here hx rfl (hb hby d_175) rfl ?_
    refine XS.iload X0.here hx rfl (hb hby d_176) rfl ?_
    refine XS.icmpNo X0.here hx rfl (hb hby d_177) rfl (tlt (by decide : (0 : Int32) < (6 : Int32))).2.1 ?_
    refine XS.aloadN X0.here hx rfl (hb hby d_178) rfl rfl ?_
    refine XS.iloadN X0.here hx rfl (hb hby d_179) rfl ?_
    refine X0.caload hx (j := 0) (v := (.int p4)) (by rw [e0]; exact A1.1) (State.isArrayOf_alike hZ.alike A1.2.1) A1.2.2 i2 (H1.at i2 rfl) (g := (mkF m 12 #[rv a1, iv 0, rv a2, iv 0, iv 6, iv 0, .unset] [(.int 0), (.ref a1)])) rfl rfl (hb hby d_180) _ ?_
    refine XS.istore X0.here hx rfl (hb hby d_181) rfl (l' := #[rv a1, iv 0, rv a2, iv 0, iv 6, iv 0, iv p4]) rfl ?_
    refine XS.iload X0.here hx rfl (hb hby d_182) rfl ?_
    show SS p e below s₁ m 17 #[rv a1, iv 0, rv a2, iv 0, iv 6, iv 0, iv p4] [(.int p4)] _
    refine XS.sipush X0.here hx rfl (hb hby d_183) ?_
    refine XS.icmpYes X0.here hx rfl (pc0 := 20) (pc' := 26) rfl (hb hby d_184) rfl (flt hc_1).2.2.2 (by decide) (by decide) ?_
    refine XS.aloadN X0.here hx rfl (hb hby d_185) rfl rfl ?_
    refine XS.iloadN X0.here hx rfl (hb hby d_186) rfl ?_
    refine XS.iload X0.here hx rfl (hb hby d_187) rfl ?_
    show SS p e below s₁ m 30 #[rv a1, iv 0, rv a2, iv 0, iv 6, iv 0, iv p4] [(.int p4), (.int 0), (.ref a2)] _
    refine XS.i2b X0.here hx rfl (hb hby d_188) rfl ?_
    show SS p e below s₁ m 31 #[rv a1, iv 0, rv a2, iv 0, iv 6, iv 0, iv p4] [(.int (p4.toInt8.toInt32)), (.int 0), (.ref a2)] _
    refine st4 _ ?_
    refine XS.iinc X4.here hx rfl (hb hby d_190) rfl (l' := #[rv a1, iv 1, rv a2, iv 0, iv 6, iv 0, iv p4]) rfl ?_
    show SS p e below T4 m 35 #[rv a1, iv 1, rv a2, iv 0, iv 6, iv 0, iv p4] [] _
    refine XS.iinc X4.here hx rfl (hb hby d_191) rfl (l' := #[rv a1, iv 1, rv a2, iv 1, iv 6, iv 0, iv p4]) rfl ?_
    show SS p e below T4 m 38 #[rv a1, iv 1, rv a2, iv 1, iv 6, iv 0, iv p4] [] _
    refine XS.iinc X4.here hx rfl (hb hby d_192) rfl (l' := #[rv a1, iv 1, rv a2, iv 1, iv 6, iv 1, iv p4]) rfl ?_
    show SS p e below T4 m 41 #[rv a1, iv 1, rv a2, iv 1, iv 6, iv 1, iv p4] [] _
    refine XS.goto X4.here hx rfl (pc0 := 41) (pc' := 3) rfl (hb hby d_193) (by decide) (by decide) ?_
    refine XS.iload X4.here hx rfl (hb hby d_175) rfl ?_
    refine XS.iload X4.here hx rfl (hb hby d_176) rfl ?_
    refine XS.icmpNo X4.here hx rfl (hb hby d_177) rfl (tlt (by decide : (1 : Int32) < (6 : Int32))).2.1 ?_
    refine XS.aloadN X4.here hx rfl (hb hby d_178) rfl rfl ?_
    refine XS.iloadN X4.here hx rfl (hb hby d_179) rfl ?_
    refine X4.caload hx (j := 1) (v := (.int p5)) (by rw [e4]; exact A9.1) (State.isArrayOf_alike hZ.alike A9.2.1) A9.2.2 i11 (H9.at i11 rfl) (g := (mkF m 12 #[rv a1, iv 1, rv a2, iv 1, iv 6, iv 1, iv p4] [(.int 1), (.ref a1)])) rfl rfl (hb hby d_180) _ ?_
    refine XS.istore X4.here hx rfl (hb hby d_181) rfl (l' := #[rv a1, iv 1, rv a2, iv 1, iv 6, iv 1, iv p5]) rfl ?_
    refine XS.iload X4.here hx rfl (hb hby d_182) rfl ?_
    refine XS.sipush X4.here hx rfl (hb hby d_183) ?_
    show SS p e below T4 m 20 #[rv a1, iv 1, rv a2, iv 1, iv 6, iv 1, iv p5] [(.int 255), (.int p5)] _
    refine XS.icmpYes X4.here hx rfl (pc0 := 20) (pc' := 26) rfl (hb hby d_184) rfl (flt hc_5).2.2.2 (by decide) (by decide) ?_
    refine XS.aloadN X4.here hx rfl (hb hby d_185) rfl rfl ?_
    refine XS.iloadN X4.here hx rfl (hb hby d_186) rfl ?_
    refine XS.iload X4.here hx rfl (hb hby d_187) rfl ?_
    show SS p e below T4 m 30 #[rv a1, iv 1, rv a2, iv 1, iv 6, iv 1, iv p5] [(.int p5), (.int 1), (.ref a2)] _
    refine XS.i2b X4.here hx rfl (hb hby d_188) rfl ?_
    show SS p e below T4 m 31 #[rv a1, iv 1, rv a2, iv 1, iv 6, iv 1, iv p5] [(.int (p5.toInt8.toInt32)), (.int 1), (.ref a2)] _
    refine st13 _ ?_
    refine XS.iinc X13.here hx rfl (hb hby d_190) rfl (l' := #[rv a1, iv 2, rv a2, iv 1, iv 6, iv 1, iv p5]) rfl ?_
    show SS p e below T13 m 35 #[rv a1, iv 2, rv a2, iv 1, iv 6, iv 1, iv p5] [] _
    refine XS.iinc X13.here hx rfl (hb hby d_191) rfl (l' := #[rv a1, iv 2, rv a2, iv 2, iv 6, iv 1, iv p5]) rfl ?_
    show SS p e below T13 m 38 #[rv a1, iv 2, rv a2, iv 2, iv 6, iv 1, iv p5] [] _
    refine XS.iinc X13.here hx rfl (hb hby d_192) rfl (l' := #[rv a1, iv 2, rv a2, iv 2, iv 6, iv 2, iv p5]) rfl ?_
    show SS p e below T13 m 41 #[rv a1, iv 2, rv a2, iv 2, iv 6, iv 2, iv p5] [] _
    refine XS.goto X13.here hx rfl (pc0 := 41) (pc' := 3) rfl (hb hby d_193) (by decide) (by decide) ?_
    refine XS.iload X13.here hx rfl (hb hby d_175) rfl ?_
    refine XS.iload X13.here hx rfl (hb hby d_176) rfl ?_
    refine XS.icmpNo X13.here hx rfl (hb hby d_177) rfl (tlt (by decide : (2 : Int32) < (6 : Int32))).2.1 ?_
    refine XS.aloadN X13.here hx rfl (hb hby d_178) rfl rfl ?_
    refine XS.iloadN X13.here hx rfl (hb hby d_179) rfl ?_
    refine X13.caload hx (j := 2) (v := (.int p6)) (by rw [e13]; exact A18.1) (State.isArrayOf_alike hZ.alike A18.2.1) A18.2.2 i20 (H18.at i20 rfl) (g := (mkF m 12 #[rv a1, iv 2, rv a2, iv 2, iv 6, iv 2, iv p5] [(.int 2), (.ref a1)])) rfl rfl (hb hby d_180) _ ?_
    refine XS.istore X13.here hx rfl (hb hby d_181) rfl (l' := #[rv a1, iv 2, rv a2, iv 2, iv 6, iv 2, iv p6]) rfl ?_
    refine XS.iload X13.here hx rfl (hb hby d_182) rfl ?_
    refine XS.sipush X13.here hx rfl (hb hby d_183) ?_
    show SS p e below T13 m 20 #[rv a1, iv 2, rv a2, iv 2, iv 6, iv 2, iv p6] [(.int 255), (.int p6)] _
    refine XS.icmpYes X13.here hx rfl (pc0 := 20) (pc' := 26) rfl (hb hby d_184) rfl (flt hc_6).2.2.2 (by decide) (by decide) ?_
    refine XS.aloadN X13.here hx rfl (hb hby d_185) rfl rfl ?_
    refine XS.iloadN X13.here hx rfl (hb hby d_186) rfl ?_
    refine XS.iload X13.here hx rfl (hb hby d_187) rfl ?_
    show SS p e below T13 m 30 #[rv a1, iv 2, rv a2, iv 2, iv 6, iv 2, iv p6] [(.int p6), (.int 2), (.ref a2)] _
    refine XS.i2b X13.here hx rfl (hb hby d_188) rfl ?_
    show SS p e below T13 m 31 #[rv a1, iv 2, rv a2, iv 2, iv 6, iv 2, iv p6] [(.int (p6.toInt8.toInt32)), (.int 2), (.ref a2)] _
    refine st22 _ ?_
    refine XS.iinc X22.here hx rfl (hb hby d_190) rfl (l' := #[rv a1, iv 3, rv a2, iv 2, iv 6, iv 2, iv p6]) rfl ?_
    show SS p e below T22 m 35 #[rv a1, iv 3, rv a2, iv 2, iv 6, iv 2, iv p6] [] _
    refine XS.iinc X22.here hx rfl (hb hby d_191) rfl (l' := #[rv a1, iv 3, rv a2, iv 3, iv 6, iv 2, iv p6]) rfl ?_
    show SS p e below T22 m 38 #[rv a1, iv 3, rv a2, iv 3, iv 6, iv 2, iv p6] [] _
    refine XS.iinc X22.here hx rfl (hb hby d_192) rfl (l' := #[rv a1, iv 3, rv a2, iv 3, iv 6, iv 3, iv p6]) rfl ?_
    show SS p e below T22 m 41 #[rv a1, iv 3, rv a2, iv 3, iv 6, iv 3, iv p6] [] _
    refine XS.goto X22.here hx rfl (pc0 := 41) (pc' := 3) rfl (hb hby d_193) (by decide) (by decide) ?_
    refine XS.iload X22.here hx rfl (hb hby d_175) rfl ?_
    refine XS.iload X22.here hx rfl (hb hby d_176) rfl ?_
    refine XS.icmpNo X22.here hx rfl (hb hby d_177) rfl (tlt (by decide : (3 : Int32) < (6 : Int32))).2.1 ?_
    refine XS.aloadN X22.here hx rfl (hb hby d_178) rfl rfl ?_
    refine XS.iloadN X22.here hx rfl (hb hby d_179) rfl ?_
    refine X22.caload hx (j := 3) (v := (.int p7)) (by rw [e22]; exact A27.1) (State.isArrayOf_alike hZ.alike A27.2.1) A27.2.2 i29 (H27.at i29 rfl) (g := (mkF m 12 #[rv a1, iv 3, rv a2, iv 3, iv 6, iv 3, iv p6] [(.int 3), (.ref a1)])) rfl rfl (hb hby d_180) _ ?_
    refine XS.istore X22.here hx rfl (hb hby d_181) rfl (l' := #[rv a1, iv 3, rv a2, iv 3, iv 6, iv 3, iv p7]) rfl ?_
    refine XS.iload X22.here hx rfl (hb hby d_182) rfl ?_
    refine XS.sipush X22.here hx rfl (hb hby d_183) ?_
    show SS p e below T22 m 20 #[rv a1, iv 3, rv a2, iv 3, iv 6, iv 3, iv p7] [(.int 255), (.int p7)] _
    refine XS.icmpYes X22.here hx rfl (pc0 := 20) (pc' := 26) rfl (hb hby d_184) rfl (flt hc_7).2.2.2 (by decide) (by decide) ?_
    refine XS.aloadN X22.here hx rfl (hb hby d_185) rfl rfl ?_
    refine XS.iloadN X22.here hx rfl (hb hby d_186) rfl ?_
    refine XS.iload X22.here hx rfl (hb hby d_187) rfl ?_
    show SS p e below T22 m 30 #[rv a1, iv 3, rv a2, iv 3, iv 6, iv 3, iv p7] [(.int p7), (.int 3), (.ref a2)] _
    refine XS.i2b X22.here hx rfl (hb hby d_188) rfl ?_
    show SS p e below T22 m 31 #[rv a1, iv 3, rv a2, iv 3, iv 6, iv 3, iv p7] [(.int (p7.toInt8.toInt32)), (.int 3), (.ref a2)] _
    refine st31 _ ?_
    refine XS.iinc X31.here hx rfl (hb hby d_190) rfl (l' := #[rv a1, iv 4, rv a2, iv 3, iv 6, iv 3, iv p7]) rfl ?_
    show SS p e below T31 m 35 #[rv a1, iv 4, rv a2, iv 3, iv 6, iv 3, iv p7] [] _
    refine XS.iinc X31.here hx rfl (hb hby d_191) rfl (l' := #[rv a1, iv 4, rv a2, iv 4, iv 6, iv 3, iv p7]) rfl ?_
    show SS p e below T31 m 38 #[rv a1, iv 4, rv a2, iv 4, iv 6, iv 3, iv p7] [] _
    refine XS.iinc X31.here hx rfl (hb hby d_192) rfl (l' := #[rv a1, iv 4, rv a2, iv 4, iv 6, iv 4, iv p7]) rfl ?_
    show SS p e below T31 m 41 #[rv a1, iv 4, rv a2, iv 4, iv 6, iv 4, iv p7] [] _
    refine XS.goto X31.here hx rfl (pc0 := 41) (pc' := 3) rfl (hb hby d_193) (by decide) (by decide) ?_
    refine XS.iload X31.here hx rfl (hb hby d_175) rfl ?_
    refine XS.iload X31.here hx rfl (hb hby d_176) rfl ?_
    refine XS.icmpNo X31.here hx rfl (hb hby d_177) rfl (tlt (by decide : (4 : Int32) < (6 : Int32))).2.1 ?_
    refine XS.aloadN X31.here hx rfl (hb hby d_178) rfl rfl ?_
    refine XS.iloadN X31.here hx rfl (hb hby d_179) rfl ?_
    refine X31.caload hx (j := 4) (v := (.int p8)) (by rw [e31]; exact A36.1) (State.isArrayOf_alike hZ.alike A36.2.1) A36.2.2 i38 (H36.at i38 rfl) (g := (mkF m 12 #[rv a1, iv 4, rv a2, iv 4, iv 6, iv 4, iv p7] [(.int 4), (.ref a1)])) rfl rfl (hb hby d_180) _ ?_
    refine XS.istore X31.here hx rfl (hb hby d_181) rfl (l' := #[rv a1, iv 4, rv a2, iv 4, iv 6, iv 4, iv p8]) rfl ?_
    refine XS.iload X31.here hx rfl (hb hby d_182) rfl ?_
    refine XS.sipush X31.here hx rfl (hb hby d_183) ?_
    show SS p e below T31 m 20 #[rv a1, iv 4, rv a2, iv 4, iv 6, iv 4, iv p8] [(.int 255), (.int p8)] _
    refine XS.icmpYes X31.here hx rfl (pc0 := 20) (pc' := 26) rfl (hb hby d_184) rfl (flt hc_8).2.2.2 (by decide) (by decide) ?_
    refine XS.aloadN X31.here hx rfl (hb hby d_185) rfl rfl ?_
    refine XS.iloadN X31.here hx rfl (hb hby d_186) rfl ?_
    refine XS.iload X31.here hx rfl (hb hby d_187) rfl ?_
    show SS p e below T31 m 30 #[rv a1, iv 4, rv a2, iv 4, iv 6, iv 4, iv p8] [(.int p8), (.int 4), (.ref a2)] _
    refine XS.i2b X31.here hx rfl (hb hby d_188) rfl ?_
    show SS p e below T31 m 31 #[rv a1, iv 4, rv a2, iv 4, iv 6, iv 4, iv p8] [(.int (p8.toInt8.toInt32)), (.int 4), (.ref a2)] _
    refine st40 _ ?_
    refine XS.iinc X40.here hx rfl (hb hby d_190) rfl (l' := #[rv a1, iv 5, rv a2, iv 4, iv 6, iv 4, iv p8]) rfl ?_
    show SS p e below T40 m 35 #[rv a1, iv 5, rv a2, iv 4, iv 6, iv 4, iv p8] [] _
    refine XS.iinc X40.here hx rfl (hb hby d_191) rfl (l' := #[rv a1, iv 5, rv a2, iv 5, iv 6, iv 4, iv p8]) rfl ?_
    show SS p e below T40 m 38 #[rv a1, iv 5, rv a2, iv 5, iv 6, iv 4, iv p8] [] _
    refine XS.iinc X40.here hx rfl (hb hby d_192) rfl (l' := #[rv a1, iv 5, rv a2, iv 5, iv 6, iv 5, iv p8]) rfl ?_
    show SS p e below T40 m 41 #[rv a1, iv 5, rv a2, iv 5, iv 6, iv 5, iv p8] [] _
    refine XS.goto X40.here hx rfl (pc0 := 41) (pc' := 3) rfl (hb hby d_193) (by decide) (by decide) ?_
    refine XS.iload X40.here hx rfl (hb hby d_175) rfl ?_
    refine XS.iload X40.here hx rfl (hb hby d_176) rfl ?_
    refine XS.icmpNo X40.here hx rfl (hb hby d_177) rfl (tlt (by decide : (5 : Int32) < (6 : Int32))).2.1 ?_
    refine XS.aloadN X40.here hx rfl (hb hby d_178) rfl rfl ?_
    refine XS.iloadN X40.here hx rfl (hb hby d_179) rfl ?_
    refine X40.caload hx (j := 5) (v := (.int p9)) (by rw [e40]; exact A45.1) (State.isArrayOf_alike hZ.alike A45.2.1) A45.2.2 i47 (H45.at i47 rfl) (g := (mkF m 12 #[rv a1, iv 5, rv a2, iv 5, iv 6, iv 5, iv p8] [(.int 5), (.ref a1)])) rfl rfl (hb hby d_180) _ ?_
    refine XS.istore X40.here hx rfl (hb hby d_181) rfl (l' := #[rv a1, iv 5, rv a2, iv 5, iv 6, iv 5, iv p9]) rfl ?_
    refine XS.iload X40.here hx rfl (hb hby d_182) rfl ?_
    refine XS.sipush X40.here hx rfl (hb hby d_183) ?_
    show SS p e below T40 m 20 #[rv a1, iv 5, rv a2, iv 5, iv 6, iv 5, iv p9] [(.int 255), (.int p9)] _
    refine XS.icmpYes X40.here hx rfl (pc0 := 20) (pc' := 26) rfl (hb hby d_184) rfl (flt hc_9).2.2.2 (by decide) (by decide) ?_
    refine XS.aloadN X40.here hx rfl (hb hby d_185) rfl rfl ?_
    refine XS.iloadN X40.here hx rfl (hb hby d_186) rfl ?_
    refine XS.iload X40.here hx rfl (hb hby d_187) rfl ?_
    show SS p e below T40 m 30 #[rv a1, iv 5, rv a2, iv 5, iv 6, iv 5, iv p9] [(.int p9), (.int 5), (.ref a2)] _
    refine XS.i2b X40.here hx rfl (hb hby d_188) rfl ?_
    show SS p e below T40 m 31 #[rv a1, iv 5, rv a2, iv 5, iv 6, iv 5, iv p9] [(.int (p9.toInt8.toInt32)), (.int 5), (.ref a2)] _
    refine st49 _ ?_
    refine XS.iinc X49.here hx rfl (hb hby d_190) rfl (l' := #[rv a1, iv 6, rv a2, iv 5, iv 6, iv 5, iv p9]) rfl ?_
    show SS p e below T49 m 35 #[rv a1, iv 6, rv a2, iv 5, iv 6, iv 5, iv p9] [] _
    refine XS.iinc X49.here hx rfl (hb hby d_191) rfl (l' := #[rv a1, iv 6, rv a2, iv 6, iv 6, iv 5, iv p9]) rfl ?_
    show SS p e below T49 m 38 #[rv a1, iv 6, rv a2, iv 6, iv 6, iv 5, iv p9] [] _
    refine XS.iinc X49.here hx rfl (hb hby d_192) rfl (l' := #[rv a1, iv 6, rv a2, iv 6, iv 6, iv 6, iv p9]) rfl ?_
    show SS p e below T49 m 41 #[rv a1, iv 6, rv a2, iv 6, iv 6, iv 6, iv p9] [] _
    refine XS.goto X49.here hx rfl (pc0 := 41) (pc' := 3) rfl (hb hby d_193) (by decide) (by decide) ?_
    refine XS.iload X49.here hx rfl (hb hby d_175) rfl ?_
    refine XS.iload X49.here hx rfl (hb hby d_176) rfl ?_
    refine XS.icmpYes X49.here hx rfl (pc0 := 7) (pc' := 44) rfl (hb hby d_177) rfl (flt (by decide : ¬ ((6 : Int32) < (6 : Int32)))).2.1 (by decide) (by decide) ?_
    refine XS.iload X49.here hx rfl (hb hby d_194) rfl ?_
    exact retI X49 hx hret (hb hby d_195) hr
theorem pd_198 : parseMethodDescriptor "([CI[BII)I" = some ⟨[(.array .char), .int, (.array .byte), .int, .int], some .int⟩ := by decide +kernel
theorem d_199 : decode jdk_52_method_16_code 12 = .ok (.istore 4, 2) := by decide +kernel
theorem d_200 : decode jdk_52_method_16_code 14 = .ok (.iload 4, 2) := by decide +kernel
theorem d_201 : decode jdk_52_method_16_code 16 = .ok (.iload_n 2, 1) := by decide +kernel
theorem d_202 : decode jdk_52_method_16_code 17 = .ok (.if_icmp .eq 40, 3) := by decide +kernel
theorem d_203 : decode jdk_52_method_16_code 57 = .ok (.aload_n 3, 1) := by decide +kernel
theorem d_204 : decode jdk_52_method_16_code 58 = .ok (.areturn, 1) := by decide +kernel
theorem ef_205 (m : MethodId) (a1 : Addr) : entryFrame m #[(.ref a1), (.int 0), (.int 6)] 6 = mkF m 0 #[rv a1, iv 0, iv 6, .unset, .unset, .unset] [] := by first | (simp [entryFrame, mkF, argsToLocals, Value.category]; done) | rfl
def Q11_compress (Z : State) (a1 : Addr) (k2 : ClassId) (p3 : Int32) (p4 : Int32) (p5 : Int32) (p6 : Int32) (p7 : Int32) (p8 : Int32) (h0 : Heap) (n0 : Nat) (v : Option Value) (h : Heap) (L : List Loc) : Prop := ∃ (b1 : Addr) (k1 : ClassId), v = some (.ref b1) ∧ Fr n0 L ∧ Keep h0 h [] ∧ h0.size ≤ b1 ∧ Arv Z h b1 k1 .byte 6 [(.int (p3.toInt8.toInt32)), (.int (p4.toInt8.toInt32)), (.int (p5.toInt8.toInt32)), (.int (p6.toInt8.toInt32)), (.int (p7.toInt8.toInt32)), (.int (p8.toInt8.toInt32))] (.int 0) ∧ EA16 Z h b1
theorem rm11_compress (l : Launch) (Z : State) (a0 : Array Value) (hw : HW Z a0) (a1 : Addr) (k2 : ClassId) (p3 : Int32) (p4 : Int32) (p5 : Int32) (p6 : Int32) (p7 : Int32) (p8 : Int32) (h0 : Heap) (n0 : Nat) (O0 : Old Z n0 h0) (F_0 : Arv Z h0 a1 k2 .char 6 [(.int p3), (.int p4), (.int p5), (.int p6), (.int p7), (.int p8)] (.int 0)) (hc_1 : ¬ ((255 : Int32) < p3)) (hc_2 : ¬ ((255 : Int32) < p4)) (hc_3 : ¬ ((255 : Int32) < p5)) (hc_4 : ¬ ((255 : Int32) < p6)) (hc_5 : ¬ ((255 : Int32) < p7)) (hc_6 : ¬ ((255 : Int32) < p8)) (lt_7 : a1 < h0.size) :
    Met l Z [] MY6 jdk_52_method_16_code 6 (some (.array .byte)) ({ frames := 1, cells := 1, slots := 6, locals := 18 } : Room) #[(.ref a1), (.int 0), (.int 6)] h0 (Q11_compress Z a1 k2 p3 p4 p5 p6 p7 p8 h0 n0) := by
  have W := @own_W _ _ hw
  refine own_mk (plainFor_of_name pn_197) ?_
  intro p e s m below meth c s₁ hZ hx hby hml hown hnm hret hlk X0 e0
  have N0 := Fr.nil n0
  obtain ⟨T1, h1, k1, X1, e1, E1, A1, B1, st1⟩ := newPE X0 hx hZ (W 23 rfl) e0 (g := (mkF m 1 #[rv a1, iv 0, iv 6, .unset, .unset, .unset] [(.int 6)])) rfl (hb hby d_165) rfl (by decide) (cap := 6) (by decide) (by decide) (by decide) (by decide) (ad := "[B") rfl
  obtain ⟨b1, g1⟩ : ∃ z, z = h0.size := ⟨_, rfl⟩
  rw [← g1] at A1 B1 st1
  have O2 := O0.ext E1
  have K3 : Keep h0 h1 [] := Keep.ext (Keep.refl h0 []) E1
  have v4 : Arv Z h1 b1 k1 .byte 6 [(.int 0), (.int 0), (.int 0), (.int 0), (.int 0), (.int 0)] (.int 0) := (Arv.new A1 (by decide)).pad (pad_rep [] (.int 0) 6)
  have f6 := (F_0.ext E1)
  have g7 : n0 ≤ b1 := Nat.le_trans (Nat.le_trans (Nat.le_of_eq O0.1.symm) O0.2.1) (Nat.le_of_eq g1.symm)
  obtain ⟨_, T5, L5, X5, hQ5, st5⟩ := own_cs X1 hx hZ hown hml (W 24 rfl) (W 25 rfl) (W 21 rfl) (W 26 rfl) (rm10_compress l Z a0 hw a1 b1 k2 p3 p4 p5 p6 p7 p8 k1 (0 : Int32) (0 : Int32) (0 : Int32) (0 : Int32) (0 : Int32) (0 : Int32) h1 n0 O2 (f6) (hc_1) (v4) (g7) ((Nat.ne_of_lt (Nat.lt_of_lt_of_le lt_7 (Nat.le_of_eq g1.symm)))) (hc_2) (hc_3) (hc_4) (hc_5) (hc_6)) e1 (hb hby d_172) 0 #[rv a1, iv 0, iv 6, rv b1, .unset, .unset] [(.ref a1), (.int 0), (.ref b1), (.int 0), (.int 6)] [] pd_198
  obtain ⟨rfl, N5q, K5, F5_0⟩ := hQ5
  have N8 := Fr.app N0 N5q
  have O9 := O2.keep K5 (allS g7 all0)
  have K10 : Keep h0 T5.heap [] := Keep.trans K3 K5 (allS (Or.inr (Nat.le_of_eq g1.symm)) all0)
  have f11 := (B1.keep K5)
  refine ⟨T5, some (.ref b1), _, _, _, X5, by decide, by decide, nofun, ?_, fun fs hr => castTop (ef_205 m a1) ?_⟩
  · show Q11_compress Z a1 k2 p3 p4 p5 p6 p7 p8 h0 n0 _ T5.heap _
    exact ⟨b1, k1, rfl, N8, K10, (Nat.le_of_eq g1.symm), F5_0, f11⟩
  · show SS p e below s₁ m 0 #[rv a1, iv 0, iv 6, .unset, .unset, .unset] [] _
    refine XS.iloadN X0.here hx rfl (hb hby d_164) rfl ?_
    refine st1 _ ?_
    refine XS.astoreN X1.here hx rfl (hb hby d_166) rfl rfl (l' := #[rv a1, iv 0, iv 6, rv b1, .unset, .unset]) rfl ?_
    refine XS.aloadN X1.here hx rfl (hb hby d_167) rfl rfl ?_
    refine XS.iloadN X1.here hx rfl (hb hby d_168) rfl ?_
    refine XS.aloadN X1.here hx rfl (hb hby d_169) rfl rfl ?_
    refine XS.iconst X1.here hx rfl (hb hby d_170) ?_
    refine XS.iloadN X1.here hx rfl (hb hby d_171) rfl ?_
    refine st5 _ ?_
    refine XS.istore X5.here hx rfl (hb hby d_199) rfl (l' := #[rv a1, iv 0, iv 6, rv b1, iv 6, .unset]) rfl ?_
    show SS p e below T5 m 14 #[rv a1, iv 0, iv 6, rv b1, iv 6, .unset] [] _
    refine XS.iload X5.here hx rfl (hb hby d_200) rfl ?_
    refine XS.iloadN X5.here hx rfl (hb hby d_201) rfl ?_
    refine XS.icmpYes X5.here hx rfl (pc0 := 17) (pc' := 57) rfl (hb hby d_202) rfl (teq (by decide : (6 : Int32) = (6 : Int32))).1 (by decide) (by decide) ?_
    refine XS.aloadN X5.here hx rfl (hb hby d_203) rfl rfl ?_
    exact retOut X5 hx hret rfl (Or.inr (Or.inr (Or.inr (Or.inr ⟨rfl, rfl, rfl⟩)))) (hb hby d_204) hr
theorem pd_206 : parseMethodDescriptor "([CII)[B" = some ⟨[(.array .char), .int, .int], some (.array .byte)⟩ := by decide +kernel
theorem d_207 : decode jdk_42_method_149_code 39 = .ok (.astore 5, 2) := by decide +kernel
theorem d_208 : decode jdk_42_method_149_code 41 = .ok (.aload_n 0, 1) := by decide +kernel
theorem d_209 : decode jdk_42_method_149_code 42 = .ok (.aload 5, 2) := by decide +kernel
theorem d_210 : decode jdk_42_method_149_code 44 = .ok (.iload_n 3, 1) := by decide +kernel
theorem d_211 : decode jdk_42_method_149_code 45 = .ok (.invokestatic 47, 3) := by decide +kernel
theorem d_212 : decode jdk_52_method_15_code 0 = .ok (.iload_n 1, 1) := by decide +kernel
theorem d_213 : decode jdk_52_method_15_code 1 = .ok (.aload_n 0, 1) := by decide +kernel
theorem d_214 : decode jdk_52_method_15_code 2 = .ok (.arraylength, 1) := by decide +kernel
theorem d_215 : decode jdk_52_method_15_code 3 = .ok (.isub, 1) := by decide +kernel
theorem d_216 : decode jdk_52_method_15_code 4 = .ok (.bipush 31, 2) := by decide +kernel
theorem d_217 : decode jdk_52_method_15_code 6 = .ok (.iushr, 1) := by decide +kernel
theorem d_218 : decode jdk_52_method_15_code 7 = .ok (.i2b, 1) := by decide +kernel
theorem d_219 : decode jdk_52_method_15_code 8 = .ok (.ireturn, 1) := by decide +kernel
theorem ef_220 (m : MethodId) (a1 : Addr) : entryFrame m #[(.ref a1), (.int 6)] 2 = mkF m 0 #[rv a1, iv 6] [] := by first | (simp [entryFrame, mkF, argsToLocals, Value.category]; done) | rfl
def Q12_coderFromArrayLen (Z : State) (a1 : Addr) (k2 : ClassId) (p3 : Int32) (p4 : Int32) (p5 : Int32) (p6 : Int32) (p7 : Int32) (p8 : Int32) (h0 : Heap) (n0 : Nat) (v : Option Value) (h : Heap) (L : List Loc) : Prop := v = some (.int 0) ∧ Fr n0 L ∧ h = h0
theorem rm12_coderFromArrayLen (l : Launch) (Z : State) (a0 : Array Value) (hw : HW Z a0) (a1 : Addr) (k2 : ClassId) (p3 : Int32) (p4 : Int32) (p5 : Int32) (p6 : Int32) (p7 : Int32) (p8 : Int32) (h0 : Heap) (n0 : Nat) (O0 : Old Z n0 h0) (F_0 : Arv Z h0 a1 k2 .byte 6 [(.int p3), (.int p4), (.int p5), (.int p6), (.int p7), (.int p8)] (.int 0)) :
    Met l Z [] MY7 jdk_52_method_15_code 2 (some .byte) ({ frames := 0, cells := 0, slots := 0, locals := 0 } : Room) #[(.ref a1), (.int 6)] h0 (Q12_coderFromArrayLen Z a1 k2 p3 p4 p5 p6 p7 p8 h0 n0) := by
  have W := @own_W _ _ hw
  refine own_mk (plainFor_of_name pn_197) ?_
  intro p e s m below meth c s₁ hZ hx hby hml hown hnm hret hlk X0 e0
  have N0 := Fr.nil n0
  obtain ⟨c1, A1, q1, S1, N1, H1, G1⟩ := id F_0
  refine ⟨s₁, some (.int 0), _, _, _, X0, by decide, by decide, nofun, ?_, fun fs hr => castTop (ef_220 m a1) ?_⟩
  · show Q12_coderFromArrayLen Z a1 k2 p3 p4 p5 p6 p7 p8 h0 n0 _ s₁.heap _
    rw [e0]
    exact ⟨rfl, N0, rfl⟩
  · show SS p e below s₁ m 0 #[rv a1, iv 6] [] _
    refine XS.iloadN X0.here hx rfl (hb hby d_212) rfl ?_
    refine XS.aloadN X0.here hx rfl (hb hby d_213) rfl rfl ?_
    refine X0.arraylength hx (by rw [e0]; exact A1.1) (State.isArrayOf_alike hZ.alike A1.2.1) (g := (mkF m 2 #[rv a1, iv 6] [(.ref a1), (.int 6)])) rfl rfl (hb hby d_214) _ ?_
    rw [len_of S1 N1]
    refine XS.isub X0.here hx rfl (hb hby d_215) rfl ?_
    show SS p e below s₁ m 4 #[rv a1, iv 6] [(.int 0)] _
    refine XS.bipush X0.here hx rfl (hb hby d_216) ?_
    refine XS.iushr X0.here hx rfl (hb hby d_217) rfl ?_
    show SS p e below s₁ m 7 #[rv a1, iv 6] [(.int 0)] _
    refine XS.i2b X0.here hx rfl (hb hby d_218) rfl ?_
    show SS p e below s₁ m 8 #[rv a1, iv 6] [(.int 0)] _
    exact retN X0 hx (t := .byte) hret (by simp) (hb hby d_219) hr
theorem pd_221 : parseMethodDescriptor "([BI)B" = some ⟨[(.array .byte), .int], some .byte⟩ := by decide +kernel
theorem d_222 : decode jdk_42_method_149_code 48 = .ok (.putfield 15, 3) := by decide +kernel
theorem d_223 : decode jdk_42_method_149_code 51 = .ok (.aload_n 0, 1) := by decide +kernel
theorem d_224 : decode jdk_42_method_149_code 52 = .ok (.aload 5, 2) := by decide +kernel
theorem d_225 : decode jdk_42_method_149_code 54 = .ok (.putfield 9, 3) := by decide +kernel
theorem d_226 : decode jdk_42_method_149_code 57 = .ok (.return_, 1) := by decide +kernel
theorem ef_227 (m : MethodId) (a1 : Addr) (a2 : Addr) : entryFrame m #[(.ref a1), (.ref a2), (.int 0), (.int 6), .null] 6 = mkF m 0 #[rv a1, rv a2, iv 0, iv 6, .val .null, .unset] [] := by first | (simp [entryFrame, mkF, argsToLocals, Value.category]; done) | rfl
def Q13_init (Z : State) (a1 : Addr) (a2 : Addr) (p3 : Int32) (k4 : ClassId) (p5 : Int32) (p6 : Int32) (p7 : Int32) (p8 : Int32) (p9 : Int32) (p10 : Int32) (h0 : Heap) (n0 : Nat) (v : Option Value) (h : Heap) (L : List Loc) : Prop := ∃ (b3_0 : Addr) (k3_0 : ClassId), v = none ∧ Fr n0 L ∧ Keep h0 h [a1] ∧ h0.size ≤ b3_0 ∧ Arv Z h b3_0 k3_0 .byte 6 [(.int (p5.toInt8.toInt32)), (.int (p6.toInt8.toInt32)), (.int (p7.toInt8.toInt32)), (.int (p8.toInt8.toInt32)), (.int (p9.toInt8.toInt32)), (.int (p10.toInt8.toInt32))] (.int 0) ∧ EA16 Z h b3_0 ∧ FA11 Z h a1 (.int 0) ∧ FA12 Z h a1 (.ref b3_0)
theorem rm13_init (l : Launch) (Z : State) (a0 : Array Value) (hw : HW Z a0) (a1 : Addr) (a2 : Addr) (p3 : Int32) (k4 : ClassId) (p5 : Int32) (p6 : Int32) (p7 : Int32) (p8 : Int32) (p9 : Int32) (p10 : Int32) (h0 : Heap) (n0 : Nat) (O0 : Old Z n0 h0) (S_0 : SA18 Z Z.heap (.int p3)) (hc_1 : ¬ (p3 = (0 : Int32))) (F_2 : Arv Z h0 a2 k4 .char 6 [(.int p5), (.int p6), (.int p7), (.int p8), (.int p9), (.int p10)] (.int 0)) (hc_3 : ¬ ((255 : Int32) < p5)) (hc_4 : ¬ ((255 : Int32) < p6)) (hc_5 : ¬ ((255 : Int32) < p7)) (hc_6 : ¬ ((255 : Int32) < p8)) (hc_7 : ¬ ((255 : Int32) < p9)) (hc_8 : ¬ ((255 : Int32) < p10)) (lt_9 : a2 < h0.size) (F_10 : EA14 Z h0 a1) (F_11 : FA11 Z h0 a1 (.int 0)) (g_12 : n0 ≤ a1) (F_13 : FA12 Z h0 a1 .null) (lt_14 : a1 < h0.size) :
    Met l Z [] MY8 jdk_42_method_149_code 6 none ({ frames := 2, cells := 1, slots := 6, locals := 35 } : Room) #[(.ref a1), (.ref a2), (.int 0), (.int 6), .null] h0 (Q13_init Z a1 a2 p3 k4 p5 p6 p7 p8 p9 p10 h0 n0) := by
  have W := @own_W _ _ hw
  refine own_mk (plainFor_of_name pn_52) ?_
  intro p e s m below meth c s₁ hZ hx hby hml hown hnm hret hlk X0 e0
  have N0 := Fr.nil n0
  obtain ⟨T1, X1, e1, st1⟩ := initO X0 hx hZ hown (W 15 rfl) (W 16 rfl) (W 17 rfl) e0 (g := (mkF m 1 #[rv a1, rv a2, iv 0, iv 6, .val .null, .unset] [(.ref a1)])) rfl (by rw [hml]; rfl) rfl (hb hby d_155) (by decide) (W := 0) (by show 2 * 0 + _ ≤ _; exact Nat.le_of_eq rfl) (by decide)
  obtain ⟨T2, X2, e2, st2⟩ := getS2 X1 hx hZ hown (host := "") (Or.inl (W 18 rfl)) Via.refl e1 (S_0.ext O0.2) (g := (mkF m 27 #[rv a1, rv a2, iv 0, iv 6, .val .null, .unset] [])) rfl (hb hby d_158)
  obtain ⟨_, T3, L3, X3, hQ3, st3⟩ := own_cs X2 hx hZ hown hml (W 19 rfl) (W 20 rfl) (W 21 rfl) (W 22 rfl) (rm11_compress l Z a0 hw a2 k4 p5 p6 p7 p8 p9 p10 h0 n0 O0 (F_2) (hc_3) (hc_4) (hc_5) (hc_6) (hc_7) (hc_8) (lt_9)) e2 (hb hby d_163) 0 #[rv a1, rv a2, iv 0, iv 6, .val .null, .unset] [(.ref a2), (.int 0), (.int 6)] [] pd_206
  obtain ⟨b3_0, k3_0, rfl, N3q, K3, gb3_0, F3_0, F3_1⟩ := hQ3
  have N4 := Fr.app N0 N3q
  have O5 := O0.keep K3 all0
  have K6 : Keep h0 T3.heap [a1] := Keep.trans (Keep.refl h0 [a1]) K3 all0
  obtain ⟨_, T7, L7, X7, hQ7, st7⟩ := own_cs X3 hx hZ hown hml (W 27 rfl) (W 28 rfl) (W 21 rfl) (W 29 rfl) (rm12_coderFromArrayLen l Z a0 hw b3_0 k3_0 (p5.toInt8.toInt32) (p6.toInt8.toInt32) (p7.toInt8.toInt32) (p8.toInt8.toInt32) (p9.toInt8.toInt32) (p10.toInt8.toInt32) T3.heap n0 O5 (F3_0)) rfl (hb hby d_211) 1 #[rv a1, rv a2, iv 0, iv 6, .val .null, rv b3_0] [(.ref b3_0), (.int 6)] [(.ref a1)] pd_221
  obtain ⟨rfl, N7q, K7⟩ := hQ7
  have N8 := Fr.app N4 N7q
  have f10 := (F_11.keep K3 nin0)
  have f11 := (F_10.keep K3)
  obtain ⟨T9, h9, X9, e9, W9, st9⟩ := putFN X7 hx hZ hown (W 30 rfl) Via.refl K7 f10 f11 (Or.inr ⟨(W 31 rfl), rfl, hnm⟩) (W 5 rfl) (ty := .byte) (v' := (.int 0)) (by decide) rfl rfl (g := (mkF m 48 #[rv a1, rv a2, iv 0, iv 6, .val .null, rv b3_0] [(.int 0), (.ref a1)])) rfl rfl (hb hby d_222)
  have O12 := O5.wr W9 g_12
  have K13 : Keep h0 h9 [a1] := Keep.wr K6 W9 (Or.inl (List.mem_of_getElem? (i := 0) rfl))
  have f14 : FA11 Z h9 a1 (.int 0) := (f10.same W9)
  have N15 := Fr.snoc X9 N8 g_12
  have f17 := ((F_13.keep K3 nin0).other W9 (Or.inr (slot_ne (Or.inr (W 33 rfl)) (Or.inr (W 31 rfl)) (by decide) (t := (.array .byte)) (t' := .byte) (by decide) (by decide))))
  have f18 := (f11.wr W9)
  obtain ⟨T16, h16, X16, e16, W16, st16⟩ := putF X9 hx hZ hown (host := "") (Or.inl (W 32 rfl)) Via.refl e9 f17 f18 (Or.inr ⟨(W 33 rfl), rfl, hnm⟩) (W 5 rfl) (ty := (.array .byte)) (by decide) rfl rfl (g := (mkF m 54 #[rv a1, rv a2, iv 0, iv 6, .val .null, rv b3_0] [(.ref b3_0), (.ref a1)])) rfl rfl (hb hby d_225)
  have O19 := O12.wr W16 g_12
  have K20 : Keep h0 h16 [a1] := Keep.wr K13 W16 (Or.inl (List.mem_of_getElem? (i := 0) rfl))
  have f21 : FA12 Z h16 a1 (.ref b3_0) := (f17.same W16)
  have N22 := Fr.snoc X16 N15 g_12
  have f23 := ((F3_0.other W9 (Ne.symm (Nat.ne_of_lt (Nat.lt_of_lt_of_le lt_14 gb3_0)))).other W16 (Ne.symm (Nat.ne_of_lt (Nat.lt_of_lt_of_le lt_14 gb3_0))))
  have f24 := ((F3_1.wr W9).wr W16)
  have f25 := (f14.other W16 (Or.inr (slot_ne (Or.inr (W 31 rfl)) (Or.inr (W 33 rfl)) (by decide) (t := .byte) (t' := (.array .byte)) (by decide) (by decide))))
  refine ⟨T16, none, _, _, _, X16, by decide, by decide, (fun _ => rfl), ?_, fun fs hr => castTop (ef_227 m a1 a2) ?_⟩
  · show Q13_init Z a1 a2 p3 k4 p5 p6 p7 p8 p9 p10 h0 n0 _ T16.heap _
    rw [e16]
    exact ⟨b3_0, k3_0, rfl, N22, K20, gb3_0, f23, f24, f25, f21⟩
  · show SS p e below s₁ m 0 #[rv a1, rv a2, iv 0, iv 6, .val .null, .unset] [] _
    refine XS.aloadN X0.here hx rfl (hb hby d_154) rfl rfl ?_
    refine st1 _ ?_
    refine XS.iloadN X1.here hx rfl (hb hby d_156) rfl ?_
    refine XS.ifYes X1.here hx rfl (pc0 := 5) (pc' := 27) rfl (hb hby d_157) rfl ((if0 _ _).trans (feq (by decide : ¬ ((6 : Int32) = (0 : Int32)))).2) (by decide) (by decide) ?_
    refine st2 _ ?_
    refine XS.ifNo X2.here hx rfl (hb hby d_159) rfl ((if0 _ _).trans (feq hc_1).1) ?_
    refine XS.aloadN X2.here hx rfl (hb hby d_160) rfl rfl ?_
    refine XS.iloadN X2.here hx rfl (hb hby d_161) rfl ?_
    refine XS.iloadN X2.here hx rfl (hb hby d_162) rfl ?_
    refine st3 _ ?_
    show SS p e below T3 m 39 #[rv a1, rv a2, iv 0, iv 6, .val .null, .unset] [(.ref b3_0)] _
    refine XS.astore X3.here hx rfl (hb hby d_207) rfl rfl (l' := #[rv a1, rv a2, iv 0, iv 6, .val .null, rv b3_0]) rfl ?_
    refine XS.aloadN X3.here hx rfl (hb hby d_208) rfl rfl ?_
    refine XS.aload X3.here hx rfl (hb hby d_209) rfl rfl ?_
    refine XS.iloadN X3.here hx rfl (hb hby d_210) rfl ?_
    refine st7 _ ?_
    refine st9 _ ?_
    refine XS.aloadN X9.here hx rfl (hb hby d_223) rfl rfl ?_
    refine XS.aload X9.here hx rfl (hb hby d_224) rfl rfl ?_
    refine st16 _ ?_
    exact X16.returnOut hx hret (hb hby d_226) hr
theorem pd_228 : parseMethodDescriptor "([CIILjava/lang/Void;)V" = some ⟨[(.array .char), .int, .int, (.object "java/lang/Void")], none⟩ := by decide +kernel
theorem d_229 : decode jdk_42_method_3_code 9 = .ok (.return_, 1) := by decide +kernel
theorem ef_230 (m : MethodId) (a1 : Addr) (a2 : Addr) : entryFrame m #[(.ref a1), (.ref a2)] 2 = mkF m 0 #[rv a1, rv a2] [] := by first | (simp [entryFrame, mkF, argsToLocals, Value.category]; done) | rfl
def Q14_init (Z : State) (a1 : Addr) (a2 : Addr) (k3 : ClassId) (p4 : Int32) (p5 : Int32) (p6 : Int32) (p7 : Int32) (p8 : Int32) (p9 : Int32) (p10 : Int32) (h0 : Heap) (n0 : Nat) (v : Option Value) (h : Heap) (L : List Loc) : Prop := ∃ (b2_0 : Addr) (k2_0 : ClassId), v = none ∧ Fr n0 L ∧ Keep h0 h [a1] ∧ h0.size ≤ b2_0 ∧ Arv Z h b2_0 k2_0 .byte 6 [(.int (p4.toInt8.toInt32)), (.int (p5.toInt8.toInt32)), (.int (p6.toInt8.toInt32)), (.int (p7.toInt8.toInt32)), (.int (p8.toInt8.toInt32)), (.int (p9.toInt8.toInt32))] (.int 0) ∧ EA16 Z h b2_0 ∧ FA11 Z h a1 (.int 0) ∧ FA12 Z h a1 (.ref b2_0)
theorem rm14_init (l : Launch) (Z : State) (a0 : Array Value) (hw : HW Z a0) (a1 : Addr) (a2 : Addr) (k3 : ClassId) (p4 : Int32) (p5 : Int32) (p6 : Int32) (p7 : Int32) (p8 : Int32) (p9 : Int32) (p10 : Int32) (h0 : Heap) (n0 : Nat) (O0 : Old Z n0 h0) (F_0 : Arv Z h0 a2 k3 .char 6 [(.int p4), (.int p5), (.int p6), (.int p7), (.int p8), (.int p9)] (.int 0)) (S_1 : SA18 Z Z.heap (.int p10)) (hc_2 : ¬ (p10 = (0 : Int32))) (hc_3 : ¬ ((255 : Int32) < p4)) (hc_4 : ¬ ((255 : Int32) < p5)) (hc_5 : ¬ ((255 : Int32) < p6)) (hc_6 : ¬ ((255 : Int32) < p7)) (hc_7 : ¬ ((255 : Int32) < p8)) (hc_8 : ¬ ((255 : Int32) < p9)) (F_9 : EA14 Z h0 a1) (F_10 : FA11 Z h0 a1 (.int 0)) (F_11 : FA12 Z h0 a1 .null) (lt_12 : a2 < h0.size) (g_13 : n0 ≤ a1) (lt_14 : a1 < h0.size) :
    Met l Z [] MY9 jdk_42_method_3_code 2 none ({ frames := 3, cells := 1, slots := 6, locals := 52 } : Room) #[(.ref a1), (.ref a2)] h0 (Q14_init Z a1 a2 k3 p4 p5 p6 p7 p8 p9 p10 h0 n0) := by
  have W := @own_W _ _ hw
  refine own_mk (plainFor_of_name pn_52) ?_
  intro p e s m below meth c s₁ hZ hx hby hml hown hnm hret hlk X0 e0
  have N0 := Fr.nil n0
  obtain ⟨c1, A1, q1, S1, N1, H1, G1⟩ := id F_0
  obtain ⟨_, T2, L2, X2, hQ2, st2⟩ := own_cp X0 hx hZ hown hml rfl (W 11 rfl) (W 12 rfl) (W 6 rfl) (W 14 rfl) (rm13_init l Z a0 hw a1 a2 p10 k3 p4 p5 p6 p7 p8 p9 h0 n0 O0 (S_1) (hc_2) (F_0) (hc_3) (hc_4) (hc_5) (hc_6) (hc_7) (hc_8) (lt_12) (F_9) (F_10) (g_13) (F_11) (lt_14)) e0 (hb hby d_153) 0 #[rv a1, rv a2] a1 [(.ref a2), (.int 0), (.int 6), .null] [] pd_228
  obtain ⟨b2_0, k2_0, rfl, N2q, K2, gb2_0, F2_0, F2_1, F2_2, F2_3⟩ := hQ2
  have N3 := Fr.app N0 N2q
  have O4 := O0.keep K2 (allS g_13 all0)
  have K5 : Keep h0 T2.heap [a1] := Keep.trans (Keep.refl h0 [a1]) K2 (allS (Or.inl (List.mem_of_getElem? (i := 0) rfl)) all0)
  refine ⟨T2, none, _, _, _, X2, by decide, by decide, (fun _ => rfl), ?_, fun fs hr => castTop (ef_230 m a1 a2) ?_⟩
  · show Q14_init Z a1 a2 k3 p4 p5 p6 p7 p8 p9 p10 h0 n0 _ T2.heap _
    exact ⟨b2_0, k2_0, rfl, N3, K5, gb2_0, F2_0, F2_1, F2_2, F2_3⟩
  · show SS p e below s₁ m 0 #[rv a1, rv a2] [] _
    refine XS.aloadN X0.here hx rfl (hb hby d_147) rfl rfl ?_
    refine XS.aloadN X0.here hx rfl (hb hby d_148) rfl rfl ?_
    refine XS.iconst X0.here hx rfl (hb hby d_149) ?_
    refine XS.aloadN X0.here hx rfl (hb hby d_150) rfl rfl ?_
    refine X0.arraylength hx (by rw [e0]; exact A1.1) (State.isArrayOf_alike hZ.alike A1.2.1) (g := (mkF m 4 #[rv a1, rv a2] [(.ref a2), (.int 0), (.ref a2), (.ref a1)])) rfl rfl (hb hby d_151) _ ?_
    rw [len_of S1 N1]
    refine XS.aconstNull X0.here hx rfl (hb hby d_152) ?_
    refine st2 _ ?_
    exact X2.returnOut hx hret (hb hby d_229) hr
theorem pd_231 : parseMethodDescriptor "([C)V" = some ⟨[(.array .char)], none⟩ := by decide +kernel
theorem d_232 : decode method_3_code 202 = .ok (.areturn, 1) := by decide +kernel
theorem ef_233 (m : MethodId) (p1 : Int32) (p2 : Int32) (p3 : Int32) (p4 : Int32) (p5 : Int32) (p6 : Int32) (p7 : Int32) : entryFrame m #[(.int 6), (.int p1), (.int p2), (.int p3), (.int p4), (.int p5), (.int p6), (.int p7)] 8 = mkF m 0 #[iv 6, iv p1, iv p2, iv p3, iv p4, iv p5, iv p6, iv p7] [] := by first | (simp [entryFrame, mkF, argsToLocals, Value.category]; done) | rfl
theorem pn_234 : plainName "com/example/duplex/duplex/compliance/SideOfLabelPinLaw" = true := by first | (simp [plainName, overriddenIn]; done) | decide +kernel
def Q15_str (Z : State) (p1 : Int32) (p2 : Int32) (p3 : Int32) (p4 : Int32) (p5 : Int32) (p6 : Int32) (p7 : Int32) (p8 : Int32) (h0 : Heap) (n0 : Nat) (v : Option Value) (h : Heap) (L : List Loc) : Prop := ∃ (b1 : Addr) (b46_0 : Addr) (k46_0 : ClassId), v = some (.ref b1) ∧ Fr n0 L ∧ Keep h0 h [] ∧ h0.size ≤ b1 ∧ h0.size ≤ b46_0 ∧ EA14 Z h b1 ∧ FA11 Z h b1 (.int 0) ∧ FA12 Z h b1 (.ref b46_0) ∧ Arv Z h b46_0 k46_0 .byte 6 [(.int (p1.toInt8.toInt32)), (.int (p2.toInt8.toInt32)), (.int (p3.toInt8.toInt32)), (.int (p4.toInt8.toInt32)), (.int (p5.toInt8.toInt32)), (.int (p6.toInt8.toInt32))] (.int 0) ∧ EA16 Z h b46_0
theorem rm15_str (l : Launch) (Z : State) (a0 : Array Value) (hw : HW Z a0) (p1 : Int32) (p2 : Int32) (p3 : Int32) (p4 : Int32) (p5 : Int32) (p6 : Int32) (p7 : Int32) (p8 : Int32) (h0 : Heap) (n0 : Nat) (O0 : Old Z n0 h0) (nr_0 : nar .char p1 = p1) (nr_1 : nar .char p2 = p2) (nr_2 : nar .char p3 = p3) (nr_3 : nar .char p4 = p4) (nr_4 : nar .char p5 = p5) (nr_5 : nar .char p6 = p6) (S_6 : SA18 Z Z.heap (.int p8)) (hc_7 : ¬ (p8 = (0 : Int32))) (hc_8 : ¬ ((255 : Int32) < p1)) (hc_9 : ¬ ((255 : Int32) < p2)) (hc_10 : ¬ ((255 : Int32) < p3)) (hc_11 : ¬ ((255 : Int32) < p4)) (hc_12 : ¬ ((255 : Int32) < p5)) (hc_13 : ¬ ((255 : Int32) < p6)) :
    Met l Z [] MY10 method_3_code 8 (some (.object "java/lang/String")) ({ frames := 4, cells := 3, slots := 16, locals := 66 } : Room) #[(.int 6), (.int p1), (.int p2), (.int p3), (.int p4), (.int p5), (.int p6), (.int p7)] h0 (Q15_str Z p1 p2 p3 p4 p5 p6 p7 p8 h0 n0) := by
  have W := @own_W _ _ hw
  refine own_mk (plainFor_of_name pn_234) ?_
  intro p e s m below meth c s₁ hZ hx hby hml hown hnm hret hlk X0 e0
  have N0 := Fr.nil n0
  obtain ⟨T1, h1, X1, e1, E1, A1, D1, -, st1⟩ := newO X0 hx hZ hown (W 4 rfl) (W 5 rfl) (W 6 rfl) e0 (g := (mkF m 164 #[iv 6, iv p1, iv p2, iv p3, iv p4, iv p5, iv p6, iv p7] [])) rfl (hb hby d_118) (by decide) (by decide)
  obtain ⟨b1, g1⟩ : ∃ z, z = h0.size := ⟨_, rfl⟩
  rw [← g1] at A1 D1 st1
  have O2 := O0.ext E1
  have K3 : Keep h0 h1 [] := Keep.ext (Keep.refl h0 []) E1
  obtain ⟨T4, h4, k4, X4, e4, E4, A4, B4, st4⟩ := newPE X1 hx hZ (W 7 rfl) e1 (g := (mkF m 170 #[iv 6, iv p1, iv p2, iv p3, iv p4, iv p5, iv p6, iv p7] [(.int 6), (.ref b1), (.ref b1)])) rfl (hb hby d_121) rfl (by decide) (cap := 6) (by decide) (by decide) (by decide) (by decide) (ad := "[C") rfl
  obtain ⟨b4, g4⟩ : ∃ z, z = h1.size := ⟨_, rfl⟩
  rw [← g4] at A4 B4 st4
  have O5 := O2.ext E4
  have K6 : Keep h0 h4 [] := Keep.ext K3 E4
  have v7 : Arv Z h4 b4 k4 .char 6 [(.int 0), (.int 0), (.int 0), (.int 0), (.int 0), (.int 0)] (.int 0) := (Arv.new A4 (by decide)).pad (pad_rep [] (.int 0) 6)
  obtain ⟨c8, A8, q8, S8, N8, H8, G8⟩ := id v7
  have i9 : NB 0 c8 := inb_of S8 (by decide)
  obtain ⟨T9, h9, X9, e9, W9, st9⟩ := stC X4 hx hZ e4 A8 (j := 0) i9 (g := (mkF m 175 #[iv 6, iv p1, iv p2, iv p3, iv p4, iv p5, iv p6, iv p7] [(.int p1), (.int 0), (.ref b4), (.ref b4), (.ref b1), (.ref b1)])) rfl rfl (hb hby d_125)
  rw [nr_0] at W9
  have z10 : h0.size ≤ h1.size := E1.1
  have g11 : n0 ≤ b4 := Nat.le_trans (Nat.le_trans (Nat.le_trans (Nat.le_of_eq O0.1.symm) O0.2.1) z10) (Nat.le_of_eq g4.symm)
  have O12 := O5.wr W9 g11
  have K13 : Keep h0 h9 [] := Keep.wr K6 W9 (Or.inr (Nat.le_trans z10 (Nat.le_of_eq g4.symm)))
  have v14 : Arv Z h9 b4 k4 .char 6 [(.int p1), (.int 0), (.int 0), (.int 0), (.int 0), (.int 0)] (.int 0) := Arv.set A8 q8 S8 N8 H8 G8 (own_fput (by simp) nr_0) W9 0 rfl (Nat.le_of_ble_eq_true rfl)
  have N15 := Fr.snoc X9 N0 g11
  obtain ⟨c16, A16, q16, S16, N16, H16, G16⟩ := id v14
  have i17 : NB 1 c16 := inb_of S16 (by decide)
  obtain ⟨T17, h17, X17, e17, W17, st17⟩ := stC X9 hx hZ e9 A16 (j := 1) i17 (g := (mkF m 179 #[iv 6, iv p1, iv p2, iv p3, iv p4, iv p5, iv p6, iv p7] [(.int p2), (.int 1), (.ref b4), (.ref b4), (.ref b1), (.ref b1)])) rfl rfl (hb hby d_129)
  rw [nr_1] at W17
  have O18 := O12.wr W17 g11
  have K19 : Keep h0 h17 [] := Keep.wr K13 W17 (Or.inr (Nat.le_trans z10 (Nat.le_of_eq g4.symm)))
  have v20 : Arv Z h17 b4 k4 .char 6 [(.int p1), (.int p2), (.int 0), (.int 0), (.int 0), (.int 0)] (.int 0) := Arv.set A16 q16 S16 N16 H16 G16 (own_fput (by simp) nr_1) W17 1 rfl (Nat.le_of_ble_eq_true rfl)
  have N21 := Fr.snoc X17 N15 g11
  obtain ⟨c22, A22, q22, S22, N22, H22, G22⟩ := id v20
  have i23 : NB 2 c22 := inb_of S22 (by decide)
  obtain ⟨T23, h23, X23, e23, W23, st23⟩ := stC X17 hx hZ e17 A22 (j := 2) i23 (g := (mkF m 183 #[iv 6, iv p1, iv p2, iv p3, iv p4, iv p5, iv p6, iv p7] [(.int p3), (.int 2), (.ref b4), (.ref b4), (.ref b1), (.ref b1)])) rfl rfl (hb hby d_133)
  rw [nr_2] at W23
  have O24 := O18.wr W23 g11
  have K25 : Keep h0 h23 [] := Keep.wr K19 W23 (Or.inr (Nat.le_trans z10 (Nat.le_of_eq g4.symm)))
  have v26 : Arv Z h23 b4 k4 .char 6 [(.int p1), (.int p2), (.int p3), (.int 0), (.int 0), (.int 0)] (.int 0) := Arv.set A22 q22 S22 N22 H22 G22 (own_fput (by simp) nr_2) W23 2 rfl (Nat.le_of_ble_eq_true rfl)
  have N27 := Fr.snoc X23 N21 g11
  obtain ⟨c28, A28, q28, S28, N28, H28, G28⟩ := id v26
  have i29 : NB 3 c28 := inb_of S28 (by decide)
  obtain ⟨T29, h29, X29, e29, W29, st29⟩ := stC X23 hx hZ e23 A28 (j := 3) i29 (g := (mkF m 188 #[iv 6, iv p1, iv p2, iv p3, iv p4, iv p5, iv p6, iv p7] [(.int p4), (.int 3), (.ref b4), (.ref b4), (.ref b1), (.ref b1)])) rfl rfl (hb hby d_137)
  rw [nr_3] at W29
  have O30 := O24.wr W29 g11
  have K31 : Keep h0 h29 [] := Keep.wr K25 W29 (Or.inr (Nat.le_trans z10 (Nat.le_of_eq g4.symm)))
  have v32 : Arv Z h29 b4 k4 .char 6 [(.int p1), (.int p2), (.int p3), (.int p4), (.int 0), (.int 0)] (.int 0) := Arv.set A28 q28 S28 N28 H28 G28 (own_fput (by simp) nr_3) W29 3 rfl (Nat.le_of_ble_eq_true rfl)
  have N33 := Fr.snoc X29 N27 g11
  obtain ⟨c34, A34, q34, S34, N34, H34, G34⟩ := id v32
  have i35 : NB 4 c34 := inb_of S34 (by decide)
  obtain ⟨T35, h35, X35, e35, W35, st35⟩ := stC X29 hx hZ e29 A34 (j := 4) i35 (g := (mkF m 193 #[iv 6, iv p1, iv p2, iv p3, iv p4, iv p5, iv p6, iv p7] [(.int p5), (.int 4), (.ref b4), (.ref b4), (.ref b1), (.ref b1)])) rfl rfl (hb hby d_141)
  rw [nr_4] at W35
  have O36 := O30.wr W35 g11
  have K37 : Keep h0 h35 [] := Keep.wr K31 W35 (Or.inr (Nat.le_trans z10 (Nat.le_of_eq g4.symm)))
  have v38 : Arv Z h35 b4 k4 .char 6 [(.int p1), (.int p2), (.int p3), (.int p4), (.int p5), (.int 0)] (.int 0) := Arv.set A34 q34 S34 N34 H34 G34 (own_fput (by simp) nr_4) W35 4 rfl (Nat.le_of_ble_eq_true rfl)
  have N39 := Fr.snoc X35 N33 g11
  obtain ⟨c40, A40, q40, S40, N40, H40, G40⟩ := id v38
  have i41 : NB 5 c40 := inb_of S40 (by decide)
  obtain ⟨T41, h41, X41, e41, W41, st41⟩ := stC X35 hx hZ e35 A40 (j := 5) i41 (g := (mkF m 198 #[iv 6, iv p1, iv p2, iv p3, iv p4, iv p5, iv p6, iv p7] [(.int p6), (.int 5), (.ref b4), (.ref b4), (.ref b1), (.ref b1)])) rfl rfl (hb hby d_145)
  rw [nr_5] at W41
  have O42 := O36.wr W41 g11
  have K43 : Keep h0 h41 [] := Keep.wr K37 W41 (Or.inr (Nat.le_trans z10 (Nat.le_of_eq g4.symm)))
  have v44 : Arv Z h41 b4 k4 .char 6 [(.int p1), (.int p2), (.int p3), (.int p4), (.int p5), (.int p6)] (.int 0) := Arv.set A40 q40 S40 N40 H40 G40 (own_fput (by simp) nr_5) W41 5 rfl (Nat.le_of_ble_eq_true rfl)
  have N45 := Fr.snoc X41 N39 g11
  have f47 := (((((((A1.ext E4).wr W9).wr W17).wr W23).wr W29).wr W35).wr W41)
  have f48 := ((((((((D1 (Or.inr (W 31 rfl)) (ty := .byte) (by decide) : FA11 Z h1 b1 (.int 0)).ext E4).other W9 (Or.inl (Nat.ne_of_lt (Nat.lt_of_lt_of_le A1.lt (Nat.le_of_eq g4.symm))))).other W17 (Or.inl (Nat.ne_of_lt (Nat.lt_of_lt_of_le A1.lt (Nat.le_of_eq g4.symm))))).other W23 (Or.inl (Nat.ne_of_lt (Nat.lt_of_lt_of_le A1.lt (Nat.le_of_eq g4.symm))))).other W29 (Or.inl (Nat.ne_of_lt (Nat.lt_of_lt_of_le A1.lt (Nat.le_of_eq g4.symm))))).other W35 (Or.inl (Nat.ne_of_lt (Nat.lt_of_lt_of_le A1.lt (Nat.le_of_eq g4.symm))))).other W41 (Or.inl (Nat.ne_of_lt (Nat.lt_of_lt_of_le A1.lt (Nat.le_of_eq g4.symm)))))
  have f49 := ((((((((D1 (Or.inr (W 33 rfl)) (ty := (.array .byte)) (by decide) : FA12 Z h1 b1 .null).ext E4).other W9 (Or.inl (Nat.ne_of_lt (Nat.lt_of_lt_of_le A1.lt (Nat.le_of_eq g4.symm))))).other W17 (Or.inl (Nat.ne_of_lt (Nat.lt_of_lt_of_le A1.lt (Nat.le_of_eq g4.symm))))).other W23 (Or.inl (Nat.ne_of_lt (Nat.lt_of_lt_of_le A1.lt (Nat.le_of_eq g4.symm))))).other W29 (Or.inl (Nat.ne_of_lt (Nat.lt_of_lt_of_le A1.lt (Nat.le_of_eq g4.symm))))).other W35 (Or.inl (Nat.ne_of_lt (Nat.lt_of_lt_of_le A1.lt (Nat.le_of_eq g4.symm))))).other W41 (Or.inl (Nat.ne_of_lt (Nat.lt_of_lt_of_le A1.lt (Nat.le_of_eq g4.symm)))))
  have z50 : h4.size ≤ h9.size := (Nat.le_of_eq W9.size.symm)
  have z51 : h4.size ≤ h17.size := (Nat.le_trans z50 (Nat.le_of_eq W17.size.symm))
  have z52 : h4.size ≤ h23.size := (Nat.le_trans z51 (Nat.le_of_eq W23.size.symm))
  have z53 : h4.size ≤ h29.size := (Nat.le_trans z52 (Nat.le_of_eq W29.size.symm))
  have z54 : h4.size ≤ h35.size := (Nat.le_trans z53 (Nat.le_of_eq W35.size.symm))
  have z55 : h4.size ≤ h41.size := (Nat.le_trans z54 (Nat.le_of_eq W41.size.symm))
  have g56 : n0 ≤ b1 := Nat.le_trans (Nat.le_trans (Nat.le_of_eq O0.1.symm) O0.2.1) (Nat.le_of_eq g1.symm)
  have z57 : h1.size ≤ h4.size := E4.1
  have z58 : h1.size ≤ h9.size := (Nat.le_trans z57 (Nat.le_of_eq W9.size.symm))
  have z59 : h1.size ≤ h17.size := (Nat.le_trans z58 (Nat.le_of_eq W17.size.symm))
  have z60 : h1.size ≤ h23.size := (Nat.le_trans z59 (Nat.le_of_eq W23.size.symm))
  have z61 : h1.size ≤ h29.size := (Nat.le_trans z60 (Nat.le_of_eq W29.size.symm))
  have z62 : h1.size ≤ h35.size := (Nat.le_trans z61 (Nat.le_of_eq W35.size.symm))
  have z63 : h1.size ≤ h41.size := (Nat.le_trans z62 (Nat.le_of_eq W41.size.symm))
  obtain ⟨_, T46, L46, X46, hQ46, st46⟩ := own_cp X41 hx hZ hown hml rfl (W 8 rfl) (W 9 rfl) (W 6 rfl) (W 10 rfl) (rm14_init l Z a0 hw b1 b4 k4 p1 p2 p3 p4 p5 p6 p8 h41 n0 O42 (v44) (S_6) (hc_7) (hc_8) (hc_9) (hc_10) (hc_11) (hc_12) (hc_13) (f47) (f48) (f49) ((Nat.lt_of_lt_of_le A4.lt z55)) (g56) ((Nat.lt_of_lt_of_le A1.lt z63))) e41 (hb hby d_146) 1 #[iv 6, iv p1, iv p2, iv p3, iv p4, iv p5, iv p6, iv p7] b1 [(.ref b4)] [(.ref b1)] pd_231
  obtain ⟨b46_0, k46_0, rfl, N46q, K46, gb46_0, F46_0, F46_1, F46_2, F46_3⟩ := hQ46
  have N64 := Fr.app N45 N46q
  have O65 := O42.keep K46 (allS g56 all0)
  have K66 : Keep h0 T46.heap [] := Keep.trans K43 K46 (allS (Or.inr (Nat.le_of_eq g1.symm)) all0)
  have f67 := (f47.keep K46)
  have z68 : h0.size ≤ h4.size := (Nat.le_trans z10 E4.1)
  have z69 : h0.size ≤ h9.size := (Nat.le_trans z68 (Nat.le_of_eq W9.size.symm))
  have z70 : h0.size ≤ h17.size := (Nat.le_trans z69 (Nat.le_of_eq W17.size.symm))
  have z71 : h0.size ≤ h23.size := (Nat.le_trans z70 (Nat.le_of_eq W23.size.symm))
  have z72 : h0.size ≤ h29.size := (Nat.le_trans z71 (Nat.le_of_eq W29.size.symm))
  have z73 : h0.size ≤ h35.size := (Nat.le_trans z72 (Nat.le_of_eq W35.size.symm))
  have z74 : h0.size ≤ h41.size := (Nat.le_trans z73 (Nat.le_of_eq W41.size.symm))
  refine ⟨T46, some (.ref b1), _, _, _, X46, by decide, by decide, nofun, ?_, fun fs hr => castTop (ef_233 m p1 p2 p3 p4 p5 p6 p7) ?_⟩
  · show Q15_str Z p1 p2 p3 p4 p5 p6 p7 p8 h0 n0 _ T46.heap _
    exact ⟨b1, b46_0, k46_0, rfl, N64, K66, (Nat.le_of_eq g1.symm), (Nat.le_trans z74 gb46_0), f67, F46_2, F46_3, F46_0, F46_1⟩
  · show SS p e below s₁ m 0 #[iv 6, iv p1, iv p2, iv p3, iv p4, iv p5, iv p6, iv p7] [] _
    refine XS.iloadN X0.here hx rfl (hb hby d_98) rfl ?_
    refine XS.ifYes X0.here hx rfl (pc0 := 1) (pc' := 15) rfl (hb hby d_99) rfl ((if0 _ _).trans (feq (by decide : ¬ ((6 : Int32) = (0 : Int32)))).2) (by decide) (by decide) ?_
    refine XS.iloadN X0.here hx rfl (hb hby d_100) rfl ?_
    refine XS.iconst X0.here hx rfl (hb hby d_101) ?_
    refine XS.icmpYes X0.here hx rfl (pc0 := 17) (pc' := 35) rfl (hb hby d_102) rfl (feq (by decide : ¬ ((6 : Int32) = (1 : Int32)))).2 (by decide) (by decide) ?_
    refine XS.iloadN X0.here hx rfl (hb hby d_103) rfl ?_
    refine XS.iconst X0.here hx rfl (hb hby d_104) ?_
    refine XS.icmpYes X0.here hx rfl (pc0 := 37) (pc' := 59) rfl (hb hby d_105) rfl (feq (by decide : ¬ ((6 : Int32) = (2 : Int32)))).2 (by decide) (by decide) ?_
    refine XS.iloadN X0.here hx rfl (hb hby d_106) rfl ?_
    refine XS.iconst X0.here hx rfl (hb hby d_107) ?_
    show SS p e below s₁ m 61 #[iv 6, iv p1, iv p2, iv p3, iv p4, iv p5, iv p6, iv p7] [(.int 3), (.int 6)] _
    refine XS.icmpYes X0.here hx rfl (pc0 := 61) (pc' := 87) rfl (hb hby d_108) rfl (feq (by decide : ¬ ((6 : Int32) = (3 : Int32)))).2 (by decide) (by decide) ?_
    refine XS.iloadN X0.here hx rfl (hb hby d_109) rfl ?_
    refine XS.iconst X0.here hx rfl (hb hby d_110) ?_
    refine XS.icmpYes X0.here hx rfl (pc0 := 89) (pc' := 120) rfl (hb hby d_111) rfl (feq (by decide : ¬ ((6 : Int32) = (4 : Int32)))).2 (by decide) (by decide) ?_
    refine XS.iloadN X0.here hx rfl (hb hby d_112) rfl ?_
    refine XS.iconst X0.here hx rfl (hb hby d_113) ?_
    refine XS.icmpYes X0.here hx rfl (pc0 := 122) (pc' := 158) rfl (hb hby d_114) rfl (feq (by decide : ¬ ((6 : Int32) = (5 : Int32)))).2 (by decide) (by decide) ?_
    refine XS.iloadN X0.here hx rfl (hb hby d_115) rfl ?_
    refine XS.bipush X0.here hx rfl (hb hby d_116) ?_
    refine XS.icmpNo X0.here hx rfl (hb hby d_117) rfl (teq (by decide : (6 : Int32) = (6 : Int32))).2 ?_
    show SS p e below s₁ m 164 #[iv 6, iv p1, iv p2, iv p3, iv p4, iv p5, iv p6, iv p7] [] _
    refine st1 _ ?_
    refine XS.dup X1.here hx rfl (hb hby d_119) rfl rfl ?_
    refine XS.bipush X1.here hx rfl (hb hby d_120) ?_
    refine st4 _ ?_
    refine XS.dup X4.here hx rfl (hb hby d_122) rfl rfl ?_
    refine XS.iconst X4.here hx rfl (hb hby d_123) ?_
    refine XS.iloadN X4.here hx rfl (hb hby d_124) rfl ?_
    refine st9 _ ?_
    refine XS.dup X9.here hx rfl (hb hby d_126) rfl rfl ?_
    refine XS.iconst X9.here hx rfl (hb hby d_127) ?_
    show SS p e below T9 m 178 #[iv 6, iv p1, iv p2, iv p3, iv p4, iv p5, iv p6, iv p7] [(.int 1), (.ref b4), (.ref b4), (.ref b1), (.ref b1)] _
    refine XS.iloadN X9.here hx rfl (hb hby d_128) rfl ?_
    refine st17 _ ?_
    refine XS.dup X17.here hx rfl (hb hby d_130) rfl rfl ?_
    refine XS.iconst X17.here hx rfl (hb hby d_131) ?_
    refine XS.iloadN X17.here hx rfl (hb hby d_132) rfl ?_
    refine st23 _ ?_
    refine XS.dup X23.here hx rfl (hb hby d_134) rfl rfl ?_
    refine XS.iconst X23.here hx rfl (hb hby d_135) ?_
    refine XS.iload X23.here hx rfl (hb hby d_136) rfl ?_
    refine st29 _ ?_
    show SS p e below T29 m 189 #[iv 6, iv p1, iv p2, iv p3, iv p4, iv p5, iv p6, iv p7] [(.ref b4), (.ref b1), (.ref b1)] _
    refine XS.dup X29.here hx rfl (hb hby d_138) rfl rfl ?_
    refine XS.iconst X29.here hx rfl (hb hby d_139) ?_
    refine XS.iload X29.here hx rfl (hb hby d_140) rfl ?_
    refine st35 _ ?_
    refine XS.dup X35.here hx rfl (hb hby d_142) rfl rfl ?_
    refine XS.iconst X35.here hx rfl (hb hby d_143) ?_
    refine XS.iload X35.here hx rfl (hb hby d_144) rfl ?_
    refine st41 _ ?_
    refine st46 _ ?_
    exact retOut X46 hx hret rfl (Or.inr (Or.inr (Or.inr (Or.inr ⟨rfl, rfl, rfl⟩)))) (hb hby d_232) hr
theorem pd_235 : parseMethodDescriptor "(ICCCCCCC)Ljava/lang/String;" = some ⟨[.int, .char, .char, .char, .char, .char, .char, .char], some (.object "java/lang/String")⟩ := by decide +kernel
theorem own_str_236 {Z : State} {a0 : Array Value} (hw : HW Z a0) : ∀ a ∈ Bundle.stringAtoms, a.before a0 Z = true := by
  have W := @own_W _ _ hw
  intro a ha
  simp only [Bundle.stringAtoms, List.mem_cons, List.not_mem_nil, or_false] at ha
  rcases ha with rfl | rfl | rfl | rfl | rfl | rfl | rfl
  · exact (W 6 rfl)
  · exact (W 5 rfl)
  · exact (W 23 rfl)
  · exact (W 33 rfl)
  · exact (W 31 rfl)
  · exact (W 35 rfl)
  · exact (W 36 rfl)
theorem own_ew_237 {Z : State} {a0 : Array Value} (hw : HW Z a0) : EW Z a0 consts_1 := by
  have W := @own_W _ _ hw
  exact (EW.cons (W 34 rfl) (by decide) (EW.cons (W 47 rfl) (by decide) (EW.cons (W 80 rfl) (by decide) EW.nil)))
theorem d_238 : decode jdk_43_method_13_code 32 = .ok (.iconst 1, 1) := by decide +kernel
theorem d_239 : decode jdk_43_method_13_code 33 = .ok (.ireturn, 1) := by decide +kernel
def Q16_equals (Z : State) (a1 : Addr) (a2 : Addr) (k3 : ClassId) (p4 : Int32) (p5 : Int32) (p6 : Int32) (p7 : Int32) (p8 : Int32) (p9 : Int32) (k10 : ClassId) (p11 : Int32) (p12 : Int32) (p13 : Int32) (p14 : Int32) (p15 : Int32) (p16 : Int32) (h0 : Heap) (n0 : Nat) (v : Option Value) (h : Heap) (L : List Loc) : Prop := v = some (.int 1) ∧ Fr n0 L ∧ h = h0
theorem rm16_equals (l : Launch) (Z : State) (a0 : Array Value) (hw : HW Z a0) (a1 : Addr) (a2 : Addr) (k3 : ClassId) (p4 : Int32) (p5 : Int32) (p6 : Int32) (p7 : Int32) (p8 : Int32) (p9 : Int32) (k10 : ClassId) (p11 : Int32) (p12 : Int32) (p13 : Int32) (p14 : Int32) (p15 : Int32) (p16 : Int32) (h0 : Heap) (n0 : Nat) (O0 : Old Z n0 h0) (F_0 : Arv Z h0 a1 k3 .byte 6 [(.int p4), (.int p5), (.int p6), (.int p7), (.int p8), (.int p9)] (.int 0)) (F_1 : Arv Z h0 a2 k10 .byte 6 [(.int p11), (.int p12), (.int p13), (.int p14), (.int p15), (.int p16)] (.int 0)) (hc_2 : p4 = p11) (hc_3 : p5 = p12) (hc_4 : p6 = p13) (hc_5 : p7 = p14) (hc_6 : p8 = p15) (hc_7 : p9 = p16) :
    Met l Z [] MY0 jdk_43_method_13_code 3 (some .boolean) ({ frames := 0, cells := 0, slots := 0, locals := 0 } : Room) #[(.ref a1), (.ref a2)] h0 (Q16_equals Z a1 a2 k3 p4 p5 p6 p7 p8 p9 k10 p11 p12 p13 p14 p15 p16 h0 n0) := by
  have W := @own_W _ _ hw
  refine own_mk (plainFor_of_name pn_25) ?_
  intro p e s m below meth c s₁ hZ hx hby hml hown hnm hret hlk X0 e0
  have N0 := Fr.nil n0
  obtain ⟨c1, A1, q1, S1, N1, H1, G1⟩ := id F_0
  obtain ⟨c2, A2, q2, S2, N2, H2, G2⟩ := id F_1
  obtain ⟨c3, A3, q3, S3, N3, H3, G3⟩ := id F_0
  obtain ⟨c4, A4, q4, S4, N4, H4, G4⟩ := id F_0
  have i5 : NB 0 c4 := inb_of S4 (by decide)
  obtain ⟨c6, A6, q6, S6, N6, H6, G6⟩ := id F_1
  have i7 : NB 0 c6 := inb_of S6 (by decide)
  obtain ⟨c8, A8, q8, S8, N8, H8, G8⟩ := id F_0
  obtain ⟨c9, A9, q9, S9, N9, H9, G9⟩ := id F_0
  have i10 : NB 1 c9 := inb_of S9 (by decide)
  obtain ⟨c11, A11, q11, S11, N11, H11, G11⟩ := id F_1
  have i12 : NB 1 c11 := inb_of S11 (by decide)
  obtain ⟨c13, A13, q13, S13, N13, H13, G13⟩ := id F_0
  obtain ⟨c14, A14, q14, S14, N14, H14, G14⟩ := id F_0
  have i15 : NB 2 c14 := inb_of S14 (by decide)
  obtain ⟨c16, A16, q16, S16, N16, H16, G16⟩ := id F_1
  have i17 : NB 2 c16 := inb_of S16 (by decide)
  obtain ⟨c18, A18, q18, S18, N18, H18, G18⟩ := id F_0
  obtain ⟨c19, A19, q19, S19, N19, H19, G19⟩ := id F_0
  have i20 : NB 3 c19 := inb_of S19 (by decide)
  obtain ⟨c21, A21, q21, S21, N21, H21, G21⟩ := id F_1
  have i22 : NB 3 c21 := inb_of S21 (by decide)
  obtain ⟨c23, A23, q23, S23, N23, H23, G23⟩ := id F_0
  obtain ⟨c24, A24, q24, S24, N24, H24, G24⟩ := id F_0
  have i25 : NB 4 c24 := inb_of S24 (by decide)
  obtain ⟨c26, A26, q26, S26, N26, H26, G26⟩ := id F_1
  have i27 : NB 4 c26 := inb_of S26 (by decide)
  obtain ⟨c28, A28, q28, S28, N28, H28, G28⟩ := id F_0
  obtain ⟨c29, A29, q29, S29, N29, H29, G29⟩ := id F_0
  have i30 : NB 5 c29 := inb_of S29 (by decide)
  obtain ⟨c31, A31, q31, S31, N31, H31, G31⟩ := id F_1
  have i32 : NB 5 c31 := inb_of S31 (by decide)
  obtain ⟨c33, A33, q33, S33, N33, H33, G33⟩ := id F_0
  refine ⟨s₁, some (.int 1), _, _, _, X0, by decide, by decide, nofun, ?_, fun fs hr => castTop (ef_51 m a1 a2) ?_⟩
  · show Q16_equals Z a1 a2 k3 p4 p5 p6 p7 p8 p9 k10 p11 p12 p13 p14 p15 p16 h0 n0 _ s₁.heap _
    rw [e0]
    exact ⟨rfl, N0, rfl⟩
  · show SS p e below s₁ m 0 #[rv a1, rv a2, .unset] [] _
    refine XS.aloadN X0.here hx rfl (hb hby d_0) rfl rfl ?_
    refine X0.arraylength hx (by rw [e0]; exact A1.1) (State.isArrayOf_alike hZ.alike A1.2.1) (g := (mkF m 1 #[rv a1, rv a2, .unset] [(.ref a1)])) rfl rfl (hb hby d_1) _ ?_
    rw [len_of S1 N1]
    refine XS.aloadN X0.here hx rfl (hb hby d_2) rfl rfl ?_
    refine X0.arraylength hx (by rw [e0]; exact A2.1) (State.isArrayOf_alike hZ.alike A2.2.1) (g := (mkF m 3 #[rv a1, rv a2, .unset] [(.ref a2), (.int 6)])) rfl rfl (hb hby d_3) _ ?_
    rw [len_of S2 N2]
    refine XS.icmpNo X0.here hx rfl (hb hby d_4) rfl (teq (by decide : (6 : Int32) = (6 : Int32))).2 ?_
    refine XS.iconst X0.here hx rfl (hb hby d_7) ?_
    refine XS.istoreN X0.here hx rfl (hb hby d_8) rfl (l' := #[rv a1, rv a2, iv 0]) rfl ?_
    refine XS.iloadN X0.here hx rfl (hb hby d_9) rfl ?_
    refine XS.aloadN X0.here hx rfl (hb hby d_10) rfl rfl ?_
    refine X0.arraylength hx (by rw [e0]; exact A3.1) (State.isArrayOf_alike hZ.alike A3.2.1) (g := (mkF m 11 #[rv a1, rv a2, iv 0] [(.ref a1), (.int 0)])) rfl rfl (hb hby d_11) _ ?_
    rw [len_of S3 N3]
    show SS p e below s₁ m 12 #[rv a1, rv a2, iv 0] [(.int 6), (.int 0)] _
    refine XS.icmpNo X0.here hx rfl (hb hby d_12) rfl (tlt (by decide : (0 : Int32) < (6 : Int32))).2.1 ?_
    refine XS.aloadN X0.here hx rfl (hb hby d_13) rfl rfl ?_
    refine XS.iloadN X0.here hx rfl (hb hby d_14) rfl ?_
    refine X0.baloadBytes hx (j := 0) (v := (.int p4)) (by rw [e0]; exact A4.1) (State.isArrayOf_alike hZ.alike A4.2.1) A4.2.2 i5 (H4.at i5 rfl) (g := (mkF m 17 #[rv a1, rv a2, iv 0] [(.int 0), (.ref a1)])) rfl rfl (hb hby d_15) _ ?_
    refine XS.aloadN X0.here hx rfl (hb hby d_16) rfl rfl ?_
    refine XS.iloadN X0.here hx rfl (hb hby d_17) rfl ?_
    refine X0.baloadBytes hx (j := 0) (v := (.int p11)) (by rw [e0]; exact A6.1) (State.isArrayOf_alike hZ.alike A6.2.1) A6.2.2 i7 (H6.at i7 rfl) (g := (mkF m 20 #[rv a1, rv a2, iv 0] [(.int 0), (.ref a2), (.int p4)])) rfl rfl (hb hby d_18) _ ?_
    refine XS.icmpYes X0.here hx rfl (pc0 := 21) (pc' := 26) rfl (hb hby d_19) rfl (teq hc_2).1 (by decide) (by decide) ?_
    refine XS.iinc X0.here hx rfl (hb hby d_22) rfl (l' := #[rv a1, rv a2, iv 1]) rfl ?_
    show SS p e below s₁ m 29 #[rv a1, rv a2, iv 1] [] _
    refine XS.goto X0.here hx rfl (pc0 := 29) (pc' := 9) rfl (hb hby d_23) (by decide) (by decide) ?_
    refine XS.iloadN X0.here hx rfl (hb hby d_9) rfl ?_
    refine XS.aloadN X0.here hx rfl (hb hby d_10) rfl rfl ?_
    refine X0.arraylength hx (by rw [e0]; exact A8.1) (State.isArrayOf_alike hZ.alike A8.2.1) (g := (mkF m 11 #[rv a1, rv a2, iv 1] [(.ref a1), (.int 1)])) rfl rfl (hb hby d_11) _ ?_
    rw [len_of S8 N8]
    refine XS.icmpNo X0.here hx rfl (hb hby d_12) rfl (tlt (by decide : (1 : Int32) < (6 : Int32))).2.1 ?_
    refine XS.aloadN X0.here hx rfl (hb hby d_13) rfl rfl ?_
    refine XS.iloadN X0.here hx rfl (hb hby d_14) rfl ?_
    refine X0.baloadBytes hx (j := 1) (v := (.int p5)) (by rw [e0]; exact A9.1) (State.isArrayOf_alike hZ.alike A9.2.1) A9.2.2 i10 (H9.at i10 rfl) (g := (mkF m 17 #[rv a1, rv a2, iv 1] [(.int 1), (.ref a1)])) rfl rfl (hb hby d_15) _ ?_
    refine XS.aloadN X0.here hx rfl (hb hby d_16) rfl rfl ?_
    refine XS.iloadN X0.here hx rfl (hb hby d_17) rfl ?_
    show SS p e below s₁ m 20 #[rv a1, rv a2, iv 1] [(.int 1), (.ref a2), (.int p5)] _
    refine X0.baloadBytes hx (j := 1) (v := (.int p12)) (by rw [e0]; exact A11.1) (State.isArrayOf_alike hZ.alike A11.2.1) A11.2.2 i12 (H11.at i12 rfl) (g := (mkF m 20 #[rv a1, rv a2, iv 1] [(.int 1), (.ref a2), (.int p5)])) rfl rfl (hb hby d_18) _ ?_
    refine XS.icmpYes X0.here hx rfl (pc0 := 21) (pc' := 26) rfl (hb hby d_19) rfl (teq hc_3).1 (by decide) (by decide) ?_
    refine XS.iinc X0.here hx rfl (hb hby d_22) rfl (l' := #[rv a1, rv a2, iv 2]) rfl ?_
    show SS p e below s₁ m 29 #[rv a1, rv a2, iv 2] [] _
    refine XS.goto X0.here hx rfl (pc0 := 29) (pc' := 9) rfl (hb hby d_23) (by decide) (by decide) ?_
    refine XS.iloadN X0.here hx rfl (hb hby d_9) rfl ?_
    refine XS.aloadN X0.here hx rfl (hb hby d_10) rfl rfl ?_
    refine X0.arraylength hx (by rw [e0]; exact A13.1) (State.isArrayOf_alike hZ.alike A13.2.1) (g := (mkF m 11 #[rv a1, rv a2, iv 2] [(.ref a1), (.int 2)])) rfl rfl (hb hby d_11) _ ?_
    rw [len_of S13 N13]
    refine XS.icmpNo X0.here hx rfl (hb hby d_12) rfl (tlt (by decide : (2 : Int32) < (6 : Int32))).2.1 ?_
    refine XS.aloadN X0.here hx rfl (hb hby d_13) rfl rfl ?_
    refine XS.iloadN X0.here hx rfl (hb hby d_14) rfl ?_
    refine X0.baloadBytes hx (j := 2) (v := (.int p6)) (by rw [e0]; exact A14.1) (State.isArrayOf_alike hZ.alike A14.2.1) A14.2.2 i15 (H14.at i15 rfl) (g := (mkF m 17 #[rv a1, rv a2, iv 2] [(.int 2), (.ref a1)])) rfl rfl (hb hby d_15) _ ?_
    refine XS.aloadN X0.here hx rfl (hb hby d_16) rfl rfl ?_
    refine XS.iloadN X0.here hx rfl (hb hby d_17) rfl ?_
    show SS p e below s₁ m 20 #[rv a1, rv a2, iv 2] [(.int 2), (.ref a2), (.int p6)] _
    refine X0.baloadBytes hx (j := 2) (v := (.int p13)) (by rw [e0]; exact A16.1) (State.isArrayOf_alike hZ.alike A16.2.1) A16.2.2 i17 (H16.at i17 rfl) (g := (mkF m 20 #[rv a1, rv a2, iv 2] [(.int 2), (.ref a2), (.int p6)])) rfl rfl (hb hby d_18) _ ?_
    refine XS.icmpYes X0.here hx rfl (pc0 := 21) (pc' := 26) rfl (hb hby d_19) rfl (teq hc_4).1 (by decide) (by decide) ?_
    refine XS.iinc X0.here hx rfl (hb hby d_22) rfl (l' := #[rv a1, rv a2, iv 3]) rfl ?_
    show SS p e below s₁ m 29 #[rv a1, rv a2, iv 3] [] _
    refine XS.goto X0.here hx rfl (pc0 := 29) (pc' := 9) rfl (hb hby d_23) (by decide) (by decide) ?_
    refine XS.iloadN X0.here hx rfl (hb hby d_9) rfl ?_
    refine XS.aloadN X0.here hx rfl (hb hby d_10) rfl rfl ?_
    refine X0.arraylength hx (by rw [e0]; exact A18.1) (State.isArrayOf_alike hZ.alike A18.2.1) (g := (mkF m 11 #[rv a1, rv a2, iv 3] [(.ref a1), (.int 3)])) rfl rfl (hb hby d_11) _ ?_
    rw [len_of S18 N18]
    refine XS.icmpNo X0.here hx rfl (hb hby d_12) rfl (tlt (by decide : (3 : Int32) < (6 : Int32))).2.1 ?_
    refine XS.aloadN X0.here hx rfl (hb hby d_13) rfl rfl ?_
    refine XS.iloadN X0.here hx rfl (hb hby d_14) rfl ?_
    refine X0.baloadBytes hx (j := 3) (v := (.int p7)) (by rw [e0]; exact A19.1) (State.isArrayOf_alike hZ.alike A19.2.1) A19.2.2 i20 (H19.at i20 rfl) (g := (mkF m 17 #[rv a1, rv a2, iv 3] [(.int 3), (.ref a1)])) rfl rfl (hb hby d_15) _ ?_
    refine XS.aloadN X0.here hx rfl (hb hby d_16) rfl rfl ?_
    refine XS.iloadN X0.here hx rfl (hb hby d_17) rfl ?_
    show SS p e below s₁ m 20 #[rv a1, rv a2, iv 3] [(.int 3), (.ref a2), (.int p7)] _
    refine X0.baloadBytes hx (j := 3) (v := (.int p14)) (by rw [e0]; exact A21.1) (State.isArrayOf_alike hZ.alike A21.2.1) A21.2.2 i22 (H21.at i22 rfl) (g := (mkF m 20 #[rv a1, rv a2, iv 3] [(.int 3), (.ref a2), (.int p7)])) rfl rfl (hb hby d_18) _ ?_
    refine XS.icmpYes X0.here hx rfl (pc0 := 21) (pc' := 26) rfl (hb hby d_19) rfl (teq hc_5).1 (by decide) (by decide) ?_
    refine XS.iinc X0.here hx rfl (hb hby d_22) rfl (l' := #[rv a1, rv a2, iv 4]) rfl ?_
    show SS p e below s₁ m 29 #[rv a1, rv a2, iv 4] [] _
    refine XS.goto X0.here hx rfl (pc0 := 29) (pc' := 9) rfl (hb hby d_23) (by decide) (by decide) ?_
    refine XS.iloadN X0.here hx rfl (hb hby d_9) rfl ?_
    refine XS.aloadN X0.here hx rfl (hb hby d_10) rfl rfl ?_
    refine X0.arraylength hx (by rw [e0]; exact A23.1) (State.isArrayOf_alike hZ.alike A23.2.1) (g := (mkF m 11 #[rv a1, rv a2, iv 4] [(.ref a1), (.int 4)])) rfl rfl (hb hby d_11) _ ?_
    rw [len_of S23 N23]
    refine XS.icmpNo X0.here hx rfl (hb hby d_12) rfl (tlt (by decide : (4 : Int32) < (6 : Int32))).2.1 ?_
    refine XS.aloadN X0.here hx rfl (hb hby d_13) rfl rfl ?_
    refine XS.iloadN X0.here hx rfl (hb hby d_14) rfl ?_
    refine X0.baloadBytes hx (j := 4) (v := (.int p8)) (by rw [e0]; exact A24.1) (State.isArrayOf_alike hZ.alike A24.2.1) A24.2.2 i25 (H24.at i25 rfl) (g := (mkF m 17 #[rv a1, rv a2, iv 4] [(.int 4), (.ref a1)])) rfl rfl (hb hby d_15) _ ?_
    refine XS.aloadN X0.here hx rfl (hb hby d_16) rfl rfl ?_
    refine XS.iloadN X0.here hx rfl (hb hby d_17) rfl ?_
    show SS p e below s₁ m 20 #[rv a1, rv a2, iv 4] [(.int 4), (.ref a2), (.int p8)] _
    refine X0.baloadBytes hx (j := 4) (v := (.int p15)) (by rw [e0]; exact A26.1) (State.isArrayOf_alike hZ.alike A26.2.1) A26.2.2 i27 (H26.at i27 rfl) (g := (mkF m 20 #[rv a1, rv a2, iv 4] [(.int 4), (.ref a2), (.int p8)])) rfl rfl (hb hby d_18) _ ?_
    refine XS.icmpYes X0.here hx rfl (pc0 := 21) (pc' := 26) rfl (hb hby d_19) rfl (teq hc_6).1 (by decide) (by decide) ?_
    refine XS.iinc X0.here hx rfl (hb hby d_22) rfl (l' := #[rv a1, rv a2, iv 5]) rfl ?_
    show SS p e below s₁ m 29 #[rv a1, rv a2, iv 5] [] _
    refine XS.goto X0.here hx rfl (pc0 := 29) (pc' := 9) rfl (hb hby d_23) (by decide) (by decide) ?_
    refine XS.iloadN X0.here hx rfl (hb hby d_9) rfl ?_
    refine XS.aloadN X0.here hx rfl (hb hby d_10) rfl rfl ?_
    refine X0.arraylength hx (by rw [e0]; exact A28.1) (State.isArrayOf_alike hZ.alike A28.2.1) (g := (mkF m 11 #[rv a1, rv a2, iv 5] [(.ref a1), (.int 5)])) rfl rfl (hb hby d_11) _ ?_
    rw [len_of S28 N28]
    refine XS.icmpNo X0.here hx rfl (hb hby d_12) rfl (tlt (by decide : (5 : Int32) < (6 : Int32))).2.1 ?_
    refine XS.aloadN X0.here hx rfl (hb hby d_13) rfl rfl ?_
    refine XS.iloadN X0.here hx rfl (hb hby d_14) rfl ?_
    refine X0.baloadBytes hx (j := 5) (v := (.int p9)) (by rw [e0]; exact A29.1) (State.isArrayOf_alike hZ.alike A29.2.1) A29.2.2 i30 (H29.at i30 rfl) (g := (mkF m 17 #[rv a1, rv a2, iv 5] [(.int 5), (.ref a1)])) rfl rfl (hb hby d_15) _ ?_
    refine XS.aloadN X0.here hx rfl (hb hby d_16) rfl rfl ?_
    refine XS.iloadN X0.here hx rfl (hb hby d_17) rfl ?_
    show SS p e below s₁ m 20 #[rv a1, rv a2, iv 5] [(.int 5), (.ref a2), (.int p9)] _
    refine X0.baloadBytes hx (j := 5) (v := (.int p16)) (by rw [e0]; exact A31.1) (State.isArrayOf_alike hZ.alike A31.2.1) A31.2.2 i32 (H31.at i32 rfl) (g := (mkF m 20 #[rv a1, rv a2, iv 5] [(.int 5), (.ref a2), (.int p9)])) rfl rfl (hb hby d_18) _ ?_
    refine XS.icmpYes X0.here hx rfl (pc0 := 21) (pc' := 26) rfl (hb hby d_19) rfl (teq hc_7).1 (by decide) (by decide) ?_
    refine XS.iinc X0.here hx rfl (hb hby d_22) rfl (l' := #[rv a1, rv a2, iv 6]) rfl ?_
    show SS p e below s₁ m 29 #[rv a1, rv a2, iv 6] [] _
    refine XS.goto X0.here hx rfl (pc0 := 29) (pc' := 9) rfl (hb hby d_23) (by decide) (by decide) ?_
    refine XS.iloadN X0.here hx rfl (hb hby d_9) rfl ?_
    refine XS.aloadN X0.here hx rfl (hb hby d_10) rfl rfl ?_
    refine X0.arraylength hx (by rw [e0]; exact A33.1) (State.isArrayOf_alike hZ.alike A33.2.1) (g := (mkF m 11 #[rv a1, rv a2, iv 6] [(.ref a1), (.int 6)])) rfl rfl (hb hby d_11) _ ?_
    rw [len_of S33 N33]
    refine XS.icmpYes X0.here hx rfl (pc0 := 12) (pc' := 32) rfl (hb hby d_12) rfl (flt (by decide : ¬ ((6 : Int32) < (6 : Int32)))).2.1 (by decide) (by decide) ?_
    refine XS.iconst X0.here hx rfl (hb hby d_238) ?_
    exact retN X0 hx (t := .boolean) hret (by simp) (hb hby d_239) hr
theorem d_240 : decode jdk_42_method_66_code 50 = .ok (.iconst 1, 1) := by decide +kernel
theorem d_241 : decode jdk_42_method_66_code 51 = .ok (.goto 4, 3) := by decide +kernel
def Q17_equals (Z : State) (a1 : Addr) (a2 : Addr) (p3 : Int32) (a4 : Addr) (a5 : Addr) (k6 : ClassId) (p7 : Int32) (p8 : Int32) (p9 : Int32) (p10 : Int32) (p11 : Int32) (p12 : Int32) (k13 : ClassId) (p14 : Int32) (p15 : Int32) (p16 : Int32) (p17 : Int32) (p18 : Int32) (p19 : Int32) (h0 : Heap) (n0 : Nat) (v : Option Value) (h : Heap) (L : List Loc) : Prop := v = some (.int 1) ∧ Fr n0 L ∧ h = h0
theorem rm17_equals (l : Launch) (Z : State) (a0 : Array Value) (hw : HW Z a0) (a1 : Addr) (a2 : Addr) (p3 : Int32) (a4 : Addr) (a5 : Addr) (k6 : ClassId) (p7 : Int32) (p8 : Int32) (p9 : Int32) (p10 : Int32) (p11 : Int32) (p12 : Int32) (k13 : ClassId) (p14 : Int32) (p15 : Int32) (p16 : Int32) (p17 : Int32) (p18 : Int32) (p19 : Int32) (h0 : Heap) (n0 : Nat) (O0 : Old Z n0 h0) (ne_0 : a1 ≠ a2) (F_1 : EA14 Z h0 a2) (S_2 : SA18 Z Z.heap (.int p3)) (hc_3 : ¬ (p3 = (0 : Int32))) (F_4 : FA11 Z h0 a1 (.int 0)) (F_5 : FA11 Z h0 a2 (.int 0)) (F_6 : FA12 Z h0 a1 (.ref a4)) (F_7 : FA12 Z h0 a2 (.ref a5)) (F_8 : Arv Z h0 a4 k6 .byte 6 [(.int p7), (.int p8), (.int p9), (.int p10), (.int p11), (.int p12)] (.int 0)) (F_9 : Arv Z h0 a5 k13 .byte 6 [(.int p14), (.int p15), (.int p16), (.int p17), (.int p18), (.int p19)] (.int 0)) (hc_10 : p7 = p14) (hc_11 : p8 = p15) (hc_12 : p9 = p16) (hc_13 : p10 = p17) (hc_14 : p11 = p18) (hc_15 : p12 = p19) :
    Met l Z [] MY1 jdk_42_method_66_code 3 (some .boolean) ({ frames := 1, cells := 0, slots := 0, locals := 14 } : Room) #[(.ref a1), (.ref a2)] h0 (Q17_equals Z a1 a2 p3 a4 a5 k6 p7 p8 p9 p10 p11 p12 k13 p14 p15 p16 p17 p18 p19 h0 n0) := by
  have W := @own_W _ _ hw
  refine own_mk (plainFor_of_name pn_52) ?_
  intro p e s m below meth c s₁ hZ hx hby hml hown hnm hret hlk X0 e0
  have N0 := Fr.nil n0
  obtain ⟨T1, X1, e1, st1⟩ := instY X0 hx hZ hown (W 42 rfl) e0 (Ins.self F_1) (g := (mkF m 8 #[rv a1, rv a2, .unset] [(.ref a2)])) rfl rfl (hb hby d_30)
  obtain ⟨T2, X2, e2, st2⟩ := castY X1 hx hZ hown (W 42 rfl) e1 (Ins.self F_1) (g := (mkF m 15 #[rv a1, rv a2, .unset] [(.ref a2)])) rfl rfl (hb hby d_33)
  obtain ⟨T3, X3, e3, st3⟩ := getS2 X2 hx hZ hown (host := "") (Or.inl (W 18 rfl)) Via.refl e2 (S_2.ext O0.2) (g := (mkF m 19 #[rv a1, rv a2, rv a2] [])) rfl (hb hby d_35)
  obtain ⟨T4, X4, e4, st4⟩ := getF X3 hx hZ hown (host := "") (Or.inl (W 30 rfl)) Via.refl e3 F_4 (g := (mkF m 26 #[rv a1, rv a2, rv a2] [(.ref a1)])) rfl rfl (hb hby d_38)
  obtain ⟨T5, X5, e5, st5⟩ := getF X4 hx hZ hown (host := "") (Or.inl (W 30 rfl)) Via.refl e4 F_5 (g := (mkF m 30 #[rv a1, rv a2, rv a2] [(.ref a2), (.int 0)])) rfl rfl (hb hby d_40)
  obtain ⟨T6, X6, e6, st6⟩ := getF X5 hx hZ hown (host := "") (Or.inl (W 32 rfl)) Via.refl e5 F_6 (g := (mkF m 37 #[rv a1, rv a2, rv a2] [(.ref a1)])) rfl rfl (hb hby d_43)
  obtain ⟨T7, X7, e7, st7⟩ := getF X6 hx hZ hown (host := "") (Or.inl (W 32 rfl)) Via.refl e6 F_7 (g := (mkF m 41 #[rv a1, rv a2, rv a2] [(.ref a2), (.ref a4)])) rfl rfl (hb hby d_45)
  obtain ⟨_, T8, L8, X8, hQ8, st8⟩ := own_cs X7 hx hZ hown hml (W 43 rfl) (W 44 rfl) (W 45 rfl) (W 46 rfl) (rm16_equals l Z a0 hw a4 a5 k6 p7 p8 p9 p10 p11 p12 k13 p14 p15 p16 p17 p18 p19 h0 n0 O0 (F_8) (F_9) (hc_10) (hc_11) (hc_12) (hc_13) (hc_14) (hc_15)) e7 (hb hby d_46) 0 #[rv a1, rv a2, rv a2] [(.ref a4), (.ref a5)] [] pd_47
  obtain ⟨rfl, N8q, K8⟩ := hQ8
  have N9 := Fr.app N0 N8q
  refine ⟨T8, some (.int 1), _, _, _, X8, by decide, by decide, nofun, ?_, fun fs hr => castTop (ef_51 m a1 a2) ?_⟩
  · show Q17_equals Z a1 a2 p3 a4 a5 k6 p7 p8 p9 p10 p11 p12 k13 p14 p15 p16 p17 p18 p19 h0 n0 _ T8.heap _
    rw [K8]
    exact ⟨rfl, N9, rfl⟩
  · show SS p e below s₁ m 0 #[rv a1, rv a2, .unset] [] _
    refine XS.aloadN X0.here hx rfl (hb hby d_26) rfl rfl ?_
    refine XS.aloadN X0.here hx rfl (hb hby d_27) rfl rfl ?_
    refine Jvm.RoadKit.acmp (g := (mkF m 2 #[rv a1, rv a2, .unset] [(.ref a2), (.ref a1)])) X0 hx rfl rfl rfl (pc0 := 2) (pc' := 7) (same := false) rfl (hb hby d_28) rfl (decide_eq_false fun q => ne_0 (Value.ref.inj q)) (by decide) (by decide) ?_
    refine XS.aloadN X0.here hx rfl (hb hby d_29) rfl rfl ?_
    refine st1 _ ?_
    refine XS.ifNo X1.here hx rfl (hb hby d_31) rfl ((if0 _ _).trans (feq (by decide : ¬ ((1 : Int32) = (0 : Int32)))).1) ?_
    refine XS.aloadN X1.here hx rfl (hb hby d_32) rfl rfl ?_
    refine st2 _ ?_
    refine XS.astoreN X2.here hx rfl (hb hby d_34) rfl rfl (l' := #[rv a1, rv a2, rv a2]) rfl ?_
    refine st3 _ ?_
    show SS p e below T3 m 22 #[rv a1, rv a2, rv a2] [(.int p3)] _
    refine XS.ifNo X3.here hx rfl (hb hby d_36) rfl ((if0 _ _).trans (feq hc_3).1) ?_
    refine XS.aloadN X3.here hx rfl (hb hby d_37) rfl rfl ?_
    refine st4 _ ?_
    refine XS.aloadN X4.here hx rfl (hb hby d_39) rfl rfl ?_
    refine st5 _ ?_
    refine XS.icmpNo X5.here hx rfl (hb hby d_41) rfl (teq (by decide : (0 : Int32) = (0 : Int32))).2 ?_
    refine XS.aloadN X5.here hx rfl (hb hby d_42) rfl rfl ?_
    refine st6 _ ?_
    refine XS.aloadN X6.here hx rfl (hb hby d_44) rfl rfl ?_
    refine st7 _ ?_
    show SS p e below T7 m 44 #[rv a1, rv a2, rv a2] [(.ref a5), (.ref a4)] _
    refine st8 _ ?_
    refine XS.ifNo X8.here hx rfl (hb hby d_48) rfl ((if0 _ _).trans (feq (by decide : ¬ ((1 : Int32) = (0 : Int32)))).1) ?_
    refine XS.iconst X8.here hx rfl (hb hby d_240) ?_
    refine XS.goto X8.here hx rfl (pc0 := 51) (pc' := 55) rfl (hb hby d_241) (by decide) (by decide) ?_
    exact retN X8 hx (t := .boolean) hret (by simp) (hb hby d_50) hr
def Q18_equals (Z : State) (a1 : Addr) (a2 : Addr) (k3 : ClassId) (p4 : Int32) (p5 : Int32) (p6 : Int32) (p7 : Int32) (p8 : Int32) (p9 : Int32) (k10 : ClassId) (p11 : Int32) (p12 : Int32) (p13 : Int32) (p14 : Int32) (p15 : Int32) (p16 : Int32) (h0 : Heap) (n0 : Nat) (v : Option Value) (h : Heap) (L : List Loc) : Prop := v = some (.int 1) ∧ Fr n0 L ∧ h = h0
theorem rm18_equals (l : Launch) (Z : State) (a0 : Array Value) (hw : HW Z a0) (a1 : Addr) (a2 : Addr) (k3 : ClassId) (p4 : Int32) (p5 : Int32) (p6 : Int32) (p7 : Int32) (p8 : Int32) (p9 : Int32) (k10 : ClassId) (p11 : Int32) (p12 : Int32) (p13 : Int32) (p14 : Int32) (p15 : Int32) (p16 : Int32) (h0 : Heap) (n0 : Nat) (O0 : Old Z n0 h0) (F_0 : Arv Z Z.heap a1 k3 .byte 6 [(.int p4), (.int p5), (.int p6), (.int p7), (.int p8), (.int p9)] (.int 0)) (F_1 : Arv Z h0 a2 k10 .byte 6 [(.int p11), (.int p12), (.int p13), (.int p14), (.int p15), (.int p16)] (.int 0)) (hc_2 : p4 = p11) (hc_3 : p5 = p12) (hc_4 : p6 = p13) (hc_5 : p7 = p14) (hc_6 : p8 = p15) (hc_7 : p9 = p16) :
    Met l Z [] MY0 jdk_43_method_13_code 3 (some .boolean) ({ frames := 0, cells := 0, slots := 0, locals := 0 } : Room) #[(.ref a1), (.ref a2)] h0 (Q18_equals Z a1 a2 k3 p4 p5 p6 p7 p8 p9 k10 p11 p12 p13 p14 p15 p16 h0 n0) := by
  have W := @own_W _ _ hw
  refine own_mk (plainFor_of_name pn_25) ?_
  intro p e s m below meth c s₁ hZ hx hby hml hown hnm hret hlk X0 e0
  have N0 := Fr.nil n0
  obtain ⟨c1, A1, q1, S1, N1, H1, G1⟩ := id (F_0.ext O0.2)
  obtain ⟨c2, A2, q2, S2, N2, H2, G2⟩ := id F_1
  obtain ⟨c3, A3, q3, S3, N3, H3, G3⟩ := id (F_0.ext O0.2)
  obtain ⟨c4, A4, q4, S4, N4, H4, G4⟩ := id (F_0.ext O0.2)
  have i5 : NB 0 c4 := inb_of S4 (by decide)
  obtain ⟨c6, A6, q6, S6, N6, H6, G6⟩ := id F_1
  have i7 : NB 0 c6 := inb_of S6 (by decide)
  obtain ⟨c8, A8, q8, S8, N8, H8, G8⟩ := id (F_0.ext O0.2)
  obtain ⟨c9, A9, q9, S9, N9, H9, G9⟩ := id (F_0.ext O0.2)
  have i10 : NB 1 c9 := inb_of S9 (by decide)
  obtain ⟨c11, A11, q11, S11, N11, H11, G11⟩ := id F_1
  have i12 : NB 1 c11 := inb_of S11 (by decide)
  obtain ⟨c13, A13, q13, S13, N13, H13, G13⟩ := id (F_0.ext O0.2)
  obtain ⟨c14, A14, q14, S14, N14, H14, G14⟩ := id (F_0.ext O0.2)
  have i15 : NB 2 c14 := inb_of S14 (by decide)
  obtain ⟨c16, A16, q16, S16, N16, H16, G16⟩ := id F_1
  have i17 : NB 2 c16 := inb_of S16 (by decide)
  obtain ⟨c18, A18, q18, S18, N18, H18, G18⟩ := id (F_0.ext O0.2)
  obtain ⟨c19, A19, q19, S19, N19, H19, G19⟩ := id (F_0.ext O0.2)
  have i20 : NB 3 c19 := inb_of S19 (by decide)
  obtain ⟨c21, A21, q21, S21, N21, H21, G21⟩ := id F_1
  have i22 : NB 3 c21 := inb_of S21 (by decide)
  obtain ⟨c23, A23, q23, S23, N23, H23, G23⟩ := id (F_0.ext O0.2)
  obtain ⟨c24, A24, q24, S24, N24, H24, G24⟩ := id (F_0.ext O0.2)
  have i25 : NB 4 c24 := inb_of S24 (by decide)
  obtain ⟨c26, A26, q26, S26, N26, H26, G26⟩ := id F_1
  have i27 : NB 4 c26 := inb_of S26 (by decide)
  obtain ⟨c28, A28, q28, S28, N28, H28, G28⟩ := id (F_0.ext O0.2)
  obtain ⟨c29, A29, q29, S29, N29, H29, G29⟩ := id (F_0.ext O0.2)
  have i30 : NB 5 c29 := inb_of S29 (by decide)
  obtain ⟨c31, A31, q31, S31, N31, H31, G31⟩ := id F_1
  have i32 : NB 5 c31 := inb_of S31 (by decide)
  obtain ⟨c33, A33, q33, S33, N33, H33, G33⟩ := id (F_0.ext O0.2)
  refine ⟨s₁, some (.int 1), _, _, _, X0, by decide, by decide, nofun, ?_, fun fs hr => castTop (ef_51 m a1 a2) ?_⟩
  · show Q18_equals Z a1 a2 k3 p4 p5 p6 p7 p8 p9 k10 p11 p12 p13 p14 p15 p16 h0 n0 _ s₁.heap _
    rw [e0]
    exact ⟨rfl, N0, rfl⟩
  · show SS p e below s₁ m 0 #[rv a1, rv a2, .unset] [] _
    refine XS.aloadN X0.here hx rfl (hb hby d_0) rfl rfl ?_
    refine X0.arraylength hx (by rw [e0]; exact A1.1) (State.isArrayOf_alike hZ.alike A1.2.1) (g := (mkF m 1 #[rv a1, rv a2, .unset] [(.ref a1)])) rfl rfl (hb hby d_1) _ ?_
    rw [len_of S1 N1]
    refine XS.aloadN X0.here hx rfl (hb hby d_2) rfl rfl ?_
    refine X0.arraylength hx (by rw [e0]; exact A2.1) (State.isArrayOf_alike hZ.alike A2.2.1) (g := (mkF m 3 #[rv a1, rv a2, .unset] [(.ref a2), (.int 6)])) rfl rfl (hb hby d_3) _ ?_
    rw [len_of S2 N2]
    refine XS.icmpNo X0.here hx rfl (hb hby d_4) rfl (teq (by decide : (6 : Int32) = (6 : Int32))).2 ?_
    refine XS.iconst X0.here hx rfl (hb hby d_7) ?_
    refine XS.istoreN X0.here hx rfl (hb hby d_8) rfl (l' := #[rv a1, rv a2, iv 0]) rfl ?_
    refine XS.iloadN X0.here hx rfl (hb hby d_9) rfl ?_
    refine XS.aloadN X0.here hx rfl (hb hby d_10) rfl rfl ?_
    refine X0.arraylength hx (by rw [e0]; exact A3.1) (State.isArrayOf_alike hZ.alike A3.2.1) (g := (mkF m 11 #[rv a1, rv a2, iv 0] [(.ref a1), (.int 0)])) rfl rfl (hb hby d_11) _ ?_
    rw [len_of S3 N3]
    show SS p e below s₁ m 12 #[rv a1, rv a2, iv 0] [(.int 6), (.int 0)] _
    refine XS.icmpNo X0.here hx rfl (hb hby d_12) rfl (tlt (by decide : (0 : Int32) < (6 : Int32))).2.1 ?_
    refine XS.aloadN X0.here hx rfl (hb hby d_13) rfl rfl ?_
    refine XS.iloadN X0.here hx rfl (hb hby d_14) rfl ?_
    refine X0.baloadBytes hx (j := 0) (v := (.int p4)) (by rw [e0]; exact A4.1) (State.isArrayOf_alike hZ.alike A4.2.1) A4.2.2 i5 (H4.at i5 rfl) (g := (mkF m 17 #[rv a1, rv a2, iv 0] [(.int 0), (.ref a1)])) rfl rfl (hb hby d_15) _ ?_
    refine XS.aloadN X0.here hx rfl (hb hby d_16) rfl rfl ?_
    refine XS.iloadN X0.here hx rfl (hb hby d_17) rfl ?_
    refine X0.baloadBytes hx (j := 0) (v := (.int p11)) (by rw [e0]; exact A6.1) (State.isArrayOf_alike hZ.alike A6.2.1) A6.2.2 i7 (H6.at i7 rfl) (g := (mkF m 20 #[rv a1, rv a2, iv 0] [(.int 0), (.ref a2), (.int p4)])) rfl rfl (hb hby d_18) _ ?_
    refine XS.icmpYes X0.here hx rfl (pc0 := 21) (pc' := 26) rfl (hb hby d_19) rfl (teq hc_2).1 (by decide) (by decide) ?_
    refine XS.iinc X0.here hx rfl (hb hby d_22) rfl (l' := #[rv a1, rv a2, iv 1]) rfl ?_
    show SS p e below s₁ m 29 #[rv a1, rv a2, iv 1] [] _
    refine XS.goto X0.here hx rfl (pc0 := 29) (pc' := 9) rfl (hb hby d_23) (by decide) (by decide) ?_
    refine XS.iloadN X0.here hx rfl (hb hby d_9) rfl ?_
    refine XS.aloadN X0.here hx rfl (hb hby d_10) rfl rfl ?_
    refine X0.arraylength hx (by rw [e0]; exact A8.1) (State.isArrayOf_alike hZ.alike A8.2.1) (g := (mkF m 11 #[rv a1, rv a2, iv 1] [(.ref a1), (.int 1)])) rfl rfl (hb hby d_11) _ ?_
    rw [len_of S8 N8]
    refine XS.icmpNo X0.here hx rfl (hb hby d_12) rfl (tlt (by decide : (1 : Int32) < (6 : Int32))).2.1 ?_
    refine XS.aloadN X0.here hx rfl (hb hby d_13) rfl rfl ?_
    refine XS.iloadN X0.here hx rfl (hb hby d_14) rfl ?_
    refine X0.baloadBytes hx (j := 1) (v := (.int p5)) (by rw [e0]; exact A9.1) (State.isArrayOf_alike hZ.alike A9.2.1) A9.2.2 i10 (H9.at i10 rfl) (g := (mkF m 17 #[rv a1, rv a2, iv 1] [(.int 1), (.ref a1)])) rfl rfl (hb hby d_15) _ ?_
    refine XS.aloadN X0.here hx rfl (hb hby d_16) rfl rfl ?_
    refine XS.iloadN X0.here hx rfl (hb hby d_17) rfl ?_
    show SS p e below s₁ m 20 #[rv a1, rv a2, iv 1] [(.int 1), (.ref a2), (.int p5)] _
    refine X0.baloadBytes hx (j := 1) (v := (.int p12)) (by rw [e0]; exact A11.1) (State.isArrayOf_alike hZ.alike A11.2.1) A11.2.2 i12 (H11.at i12 rfl) (g := (mkF m 20 #[rv a1, rv a2, iv 1] [(.int 1), (.ref a2), (.int p5)])) rfl rfl (hb hby d_18) _ ?_
    refine XS.icmpYes X0.here hx rfl (pc0 := 21) (pc' := 26) rfl (hb hby d_19) rfl (teq hc_3).1 (by decide) (by decide) ?_
    refine XS.iinc X0.here hx rfl (hb hby d_22) rfl (l' := #[rv a1, rv a2, iv 2]) rfl ?_
    show SS p e below s₁ m 29 #[rv a1, rv a2, iv 2] [] _
    refine XS.goto X0.here hx rfl (pc0 := 29) (pc' := 9) rfl (hb hby d_23) (by decide) (by decide) ?_
    refine XS.iloadN X0.here hx rfl (hb hby d_9) rfl ?_
    refine XS.aloadN X0.here hx rfl (hb hby d_10) rfl rfl ?_
    refine X0.arraylength hx (by rw [e0]; exact A13.1) (State.isArrayOf_alike hZ.alike A13.2.1) (g := (mkF m 11 #[rv a1, rv a2, iv 2] [(.ref a1), (.int 2)])) rfl rfl (hb hby d_11) _ ?_
    rw [len_of S13 N13]
    refine XS.icmpNo X0.here hx rfl (hb hby d_12) rfl (tlt (by decide : (2 : Int32) < (6 : Int32))).2.1 ?_
    refine XS.aloadN X0.here hx rfl (hb hby d_13) rfl rfl ?_
    refine XS.iloadN X0.here hx rfl (hb hby d_14) rfl ?_
    refine X0.baloadBytes hx (j := 2) (v := (.int p6)) (by rw [e0]; exact A14.1) (State.isArrayOf_alike hZ.alike A14.2.1) A14.2.2 i15 (H14.at i15 rfl) (g := (mkF m 17 #[rv a1, rv a2, iv 2] [(.int 2), (.ref a1)])) rfl rfl (hb hby d_15) _ ?_
    refine XS.aloadN X0.here hx rfl (hb hby d_16) rfl rfl ?_
    refine XS.iloadN X0.here hx rfl (hb hby d_17) rfl ?_
    show SS p e below s₁ m 20 #[rv a1, rv a2, iv 2] [(.int 2), (.ref a2), (.int p6)] _
    refine X0.baloadBytes hx (j := 2) (v := (.int p13)) (by rw [e0]; exact A16.1) (State.isArrayOf_alike hZ.alike A16.2.1) A16.2.2 i17 (H16.at i17 rfl) (g := (mkF m 20 #[rv a1, rv a2, iv 2] [(.int 2), (.ref a2), (.int p6)])) rfl rfl (hb hby d_18) _ ?_
    refine XS.icmpYes X0.here hx rfl (pc0 := 21) (pc' := 26) rfl (hb hby d_19) rfl (teq hc_4).1 (by decide) (by decide) ?_
    refine XS.iinc X0.here hx rfl (hb hby d_22) rfl (l' := #[rv a1, rv a2, iv 3]) rfl ?_
    show SS p e below s₁ m 29 #[rv a1, rv a2, iv 3] [] _
    refine XS.goto X0.here hx rfl (pc0 := 29) (pc' := 9) rfl (hb hby d_23) (by decide) (by decide) ?_
    refine XS.iloadN X0.here hx rfl (hb hby d_9) rfl ?_
    refine XS.aloadN X0.here hx rfl (hb hby d_10) rfl rfl ?_
    refine X0.arraylength hx (by rw [e0]; exact A18.1) (State.isArrayOf_alike hZ.alike A18.2.1) (g := (mkF m 11 #[rv a1, rv a2, iv 3] [(.ref a1), (.int 3)])) rfl rfl (hb hby d_11) _ ?_
    rw [len_of S18 N18]
    refine XS.icmpNo X0.here hx rfl (hb hby d_12) rfl (tlt (by decide : (3 : Int32) < (6 : Int32))).2.1 ?_
    refine XS.aloadN X0.here hx rfl (hb hby d_13) rfl rfl ?_
    refine XS.iloadN X0.here hx rfl (hb hby d_14) rfl ?_
    refine X0.baloadBytes hx (j := 3) (v := (.int p7)) (by rw [e0]; exact A19.1) (State.isArrayOf_alike hZ.alike A19.2.1) A19.2.2 i20 (H19.at i20 rfl) (g := (mkF m 17 #[rv a1, rv a2, iv 3] [(.int 3), (.ref a1)])) rfl rfl (hb hby d_15) _ ?_
    refine XS.aloadN X0.here hx rfl (hb hby d_16) rfl rfl ?_
    refine XS.iloadN X0.here hx rfl (hb hby d_17) rfl ?_
    show SS p e below s₁ m 20 #[rv a1, rv a2, iv 3] [(.int 3), (.ref a2), (.int p7)] _
    refine X0.baloadBytes hx (j := 3) (v := (.int p14)) (by rw [e0]; exact A21.1) (State.isArrayOf_alike hZ.alike A21.2.1) A21.2.2 i22 (H21.at i22 rfl) (g := (mkF m 20 #[rv a1, rv a2, iv 3] [(.int 3), (.ref a2), (.int p7)])) rfl rfl (hb hby d_18) _ ?_
    refine XS.icmpYes X0.here hx rfl (pc0 := 21) (pc' := 26) rfl (hb hby d_19) rfl (teq hc_5).1 (by decide) (by decide) ?_
    refine XS.iinc X0.here hx rfl (hb hby d_22) rfl (l' := #[rv a1, rv a2, iv 4]) rfl ?_
    show SS p e below s₁ m 29 #[rv a1, rv a2, iv 4] [] _
    refine XS.goto X0.here hx rfl (pc0 := 29) (pc' := 9) rfl (hb hby d_23) (by decide) (by decide) ?_
    refine XS.iloadN X0.here hx rfl (hb hby d_9) rfl ?_
    refine XS.aloadN X0.here hx rfl (hb hby d_10) rfl rfl ?_
    refine X0.arraylength hx (by rw [e0]; exact A23.1) (State.isArrayOf_alike hZ.alike A23.2.1) (g := (mkF m 11 #[rv a1, rv a2, iv 4] [(.ref a1), (.int 4)])) rfl rfl (hb hby d_11) _ ?_
    rw [len_of S23 N23]
    refine XS.icmpNo X0.here hx rfl (hb hby d_12) rfl (tlt (by decide : (4 : Int32) < (6 : Int32))).2.1 ?_
    refine XS.aloadN X0.here hx rfl (hb hby d_13) rfl rfl ?_
    refine XS.iloadN X0.here hx rfl (hb hby d_14) rfl ?_
    refine X0.baloadBytes hx (j := 4) (v := (.int p8)) (by rw [e0]; exact A24.1) (State.isArrayOf_alike hZ.alike A24.2.1) A24.2.2 i25 (H24.at i25 rfl) (g := (mkF m 17 #[rv a1, rv a2, iv 4] [(.int 4), (.ref a1)])) rfl rfl (hb hby d_15) _ ?_
    refine XS.aloadN X0.here hx rfl (hb hby d_16) rfl rfl ?_
    refine XS.iloadN X0.here hx rfl (hb hby d_17) rfl ?_
    show SS p e below s₁ m 20 #[rv a1, rv a2, iv 4] [(.int 4), (.ref a2), (.int p8)] _
    refine X0.baloadBytes hx (j := 4) (v := (.int p15)) (by rw [e0]; exact A26.1) (State.isArrayOf_alike hZ.alike A26.2.1) A26.2.2 i27 (H26.at i27 rfl) (g := (mkF m 20 #[rv a1, rv a2, iv 4] [(.int 4), (.ref a2), (.int p8)])) rfl rfl (hb hby d_18) _ ?_
    refine XS.icmpYes X0.here hx rfl (pc0 := 21) (pc' := 26) rfl (hb hby d_19) rfl (teq hc_6).1 (by decide) (by decide) ?_
    refine XS.iinc X0.here hx rfl (hb hby d_22) rfl (l' := #[rv a1, rv a2, iv 5]) rfl ?_
    show SS p e below s₁ m 29 #[rv a1, rv a2, iv 5] [] _
    refine XS.goto X0.here hx rfl (pc0 := 29) (pc' := 9) rfl (hb hby d_23) (by decide) (by decide) ?_
    refine XS.iloadN X0.here hx rfl (hb hby d_9) rfl ?_
    refine XS.aloadN X0.here hx rfl (hb hby d_10) rfl rfl ?_
    refine X0.arraylength hx (by rw [e0]; exact A28.1) (State.isArrayOf_alike hZ.alike A28.2.1) (g := (mkF m 11 #[rv a1, rv a2, iv 5] [(.ref a1), (.int 5)])) rfl rfl (hb hby d_11) _ ?_
    rw [len_of S28 N28]
    refine XS.icmpNo X0.here hx rfl (hb hby d_12) rfl (tlt (by decide : (5 : Int32) < (6 : Int32))).2.1 ?_
    refine XS.aloadN X0.here hx rfl (hb hby d_13) rfl rfl ?_
    refine XS.iloadN X0.here hx rfl (hb hby d_14) rfl ?_
    refine X0.baloadBytes hx (j := 5) (v := (.int p9)) (by rw [e0]; exact A29.1) (State.isArrayOf_alike hZ.alike A29.2.1) A29.2.2 i30 (H29.at i30 rfl) (g := (mkF m 17 #[rv a1, rv a2, iv 5] [(.int 5), (.ref a1)])) rfl rfl (hb hby d_15) _ ?_
    refine XS.aloadN X0.here hx rfl (hb hby d_16) rfl rfl ?_
    refine XS.iloadN X0.here hx rfl (hb hby d_17) rfl ?_
    show SS p e below s₁ m 20 #[rv a1, rv a2, iv 5] [(.int 5), (.ref a2), (.int p9)] _
    refine X0.baloadBytes hx (j := 5) (v := (.int p16)) (by rw [e0]; exact A31.1) (State.isArrayOf_alike hZ.alike A31.2.1) A31.2.2 i32 (H31.at i32 rfl) (g := (mkF m 20 #[rv a1, rv a2, iv 5] [(.int 5), (.ref a2), (.int p9)])) rfl rfl (hb hby d_18) _ ?_
    refine XS.icmpYes X0.here hx rfl (pc0 := 21) (pc' := 26) rfl (hb hby d_19) rfl (teq hc_7).1 (by decide) (by decide) ?_
    refine XS.iinc X0.here hx rfl (hb hby d_22) rfl (l' := #[rv a1, rv a2, iv 6]) rfl ?_
    show SS p e below s₁ m 29 #[rv a1, rv a2, iv 6] [] _
    refine XS.goto X0.here hx rfl (pc0 := 29) (pc' := 9) rfl (hb hby d_23) (by decide) (by decide) ?_
    refine XS.iloadN X0.here hx rfl (hb hby d_9) rfl ?_
    refine XS.aloadN X0.here hx rfl (hb hby d_10) rfl rfl ?_
    refine X0.arraylength hx (by rw [e0]; exact A33.1) (State.isArrayOf_alike hZ.alike A33.2.1) (g := (mkF m 11 #[rv a1, rv a2, iv 6] [(.ref a1), (.int 6)])) rfl rfl (hb hby d_11) _ ?_
    rw [len_of S33 N33]
    refine XS.icmpYes X0.here hx rfl (pc0 := 12) (pc' := 32) rfl (hb hby d_12) rfl (flt (by decide : ¬ ((6 : Int32) < (6 : Int32)))).2.1 (by decide) (by decide) ?_
    refine XS.iconst X0.here hx rfl (hb hby d_238) ?_
    exact retN X0 hx (t := .boolean) hret (by simp) (hb hby d_239) hr
def Q19_equals (Z : State) (a1 : Addr) (a2 : Addr) (p3 : Int32) (a4 : Addr) (a5 : Addr) (k6 : ClassId) (p7 : Int32) (p8 : Int32) (p9 : Int32) (p10 : Int32) (p11 : Int32) (p12 : Int32) (k13 : ClassId) (p14 : Int32) (p15 : Int32) (p16 : Int32) (p17 : Int32) (p18 : Int32) (p19 : Int32) (h0 : Heap) (n0 : Nat) (v : Option Value) (h : Heap) (L : List Loc) : Prop := v = some (.int 1) ∧ Fr n0 L ∧ h = h0
theorem rm19_equals (l : Launch) (Z : State) (a0 : Array Value) (hw : HW Z a0) (a1 : Addr) (a2 : Addr) (p3 : Int32) (a4 : Addr) (a5 : Addr) (k6 : ClassId) (p7 : Int32) (p8 : Int32) (p9 : Int32) (p10 : Int32) (p11 : Int32) (p12 : Int32) (k13 : ClassId) (p14 : Int32) (p15 : Int32) (p16 : Int32) (p17 : Int32) (p18 : Int32) (p19 : Int32) (h0 : Heap) (n0 : Nat) (O0 : Old Z n0 h0) (lz_0 : a1 < Z.heap.size) (g_1 : n0 ≤ a2) (F_2 : EA14 Z h0 a2) (S_3 : SA18 Z Z.heap (.int p3)) (hc_4 : ¬ (p3 = (0 : Int32))) (F_5 : FA11 Z Z.heap a1 (.int 0)) (F_6 : FA11 Z h0 a2 (.int 0)) (F_7 : FA12 Z Z.heap a1 (.ref a4)) (F_8 : FA12 Z h0 a2 (.ref a5)) (F_9 : Arv Z Z.heap a4 k6 .byte 6 [(.int p7), (.int p8), (.int p9), (.int p10), (.int p11), (.int p12)] (.int 0)) (F_10 : Arv Z h0 a5 k13 .byte 6 [(.int p14), (.int p15), (.int p16), (.int p17), (.int p18), (.int p19)] (.int 0)) (hc_11 : p7 = p14) (hc_12 : p8 = p15) (hc_13 : p9 = p16) (hc_14 : p10 = p17) (hc_15 : p11 = p18) (hc_16 : p12 = p19) :
    Met l Z [] MY1 jdk_42_method_66_code 3 (some .boolean) ({ frames := 1, cells := 0, slots := 0, locals := 14 } : Room) #[(.ref a1), (.ref a2)] h0 (Q19_equals Z a1 a2 p3 a4 a5 k6 p7 p8 p9 p10 p11 p12 k13 p14 p15 p16 p17 p18 p19 h0 n0) := by
  have W := @own_W _ _ hw
  refine own_mk (plainFor_of_name pn_52) ?_
  intro p e s m below meth c s₁ hZ hx hby hml hown hnm hret hlk X0 e0
  have N0 := Fr.nil n0
  obtain ⟨T1, X1, e1, st1⟩ := instY X0 hx hZ hown (W 42 rfl) e0 (Ins.self F_2) (g := (mkF m 8 #[rv a1, rv a2, .unset] [(.ref a2)])) rfl rfl (hb hby d_30)
  obtain ⟨T2, X2, e2, st2⟩ := castY X1 hx hZ hown (W 42 rfl) e1 (Ins.self F_2) (g := (mkF m 15 #[rv a1, rv a2, .unset] [(.ref a2)])) rfl rfl (hb hby d_33)
  obtain ⟨T3, X3, e3, st3⟩ := getS2 X2 hx hZ hown (host := "") (Or.inl (W 18 rfl)) Via.refl e2 (S_3.ext O0.2) (g := (mkF m 19 #[rv a1, rv a2, rv a2] [])) rfl (hb hby d_35)
  obtain ⟨T4, X4, e4, st4⟩ := getF X3 hx hZ hown (host := "") (Or.inl (W 30 rfl)) Via.refl e3 (F_5.ext O0.2) (g := (mkF m 26 #[rv a1, rv a2, rv a2] [(.ref a1)])) rfl rfl (hb hby d_38)
  obtain ⟨T5, X5, e5, st5⟩ := getF X4 hx hZ hown (host := "") (Or.inl (W 30 rfl)) Via.refl e4 F_6 (g := (mkF m 30 #[rv a1, rv a2, rv a2] [(.ref a2), (.int 0)])) rfl rfl (hb hby d_40)
  obtain ⟨T6, X6, e6, st6⟩ := getF X5 hx hZ hown (host := "") (Or.inl (W 32 rfl)) Via.refl e5 (F_7.ext O0.2) (g := (mkF m 37 #[rv a1, rv a2, rv a2] [(.ref a1)])) rfl rfl (hb hby d_43)
  obtain ⟨T7, X7, e7, st7⟩ := getF X6 hx hZ hown (host := "") (Or.inl (W 32 rfl)) Via.refl e6 F_8 (g := (mkF m 41 #[rv a1, rv a2, rv a2] [(.ref a2), (.ref a4)])) rfl rfl (hb hby d_45)
  obtain ⟨_, T8, L8, X8, hQ8, st8⟩ := own_cs X7 hx hZ hown hml (W 43 rfl) (W 44 rfl) (W 45 rfl) (W 46 rfl) (rm18_equals l Z a0 hw a4 a5 k6 p7 p8 p9 p10 p11 p12 k13 p14 p15 p16 p17 p18 p19 h0 n0 O0 (F_9) (F_10) (hc_11) (hc_12) (hc_13) (hc_14) (hc_15) (hc_16)) e7 (hb hby d_46) 0 #[rv a1, rv a2, rv a2] [(.ref a4), (.ref a5)] [] pd_47
  obtain ⟨rfl, N8q, K8⟩ := hQ8
  have N9 := Fr.app N0 N8q
  refine ⟨T8, some (.int 1), _, _, _, X8, by decide, by decide, nofun, ?_, fun fs hr => castTop (ef_51 m a1 a2) ?_⟩
  · show Q19_equals Z a1 a2 p3 a4 a5 k6 p7 p8 p9 p10 p11 p12 k13 p14 p15 p16 p17 p18 p19 h0 n0 _ T8.heap _
    rw [K8]
    exact ⟨rfl, N9, rfl⟩
  · show SS p e below s₁ m 0 #[rv a1, rv a2, .unset] [] _
    refine XS.aloadN X0.here hx rfl (hb hby d_26) rfl rfl ?_
    refine XS.aloadN X0.here hx rfl (hb hby d_27) rfl rfl ?_
    refine Jvm.RoadKit.acmp (g := (mkF m 2 #[rv a1, rv a2, .unset] [(.ref a2), (.ref a1)])) X0 hx rfl rfl rfl (pc0 := 2) (pc' := 7) (same := false) rfl (hb hby d_28) rfl (decide_eq_false fun q => (O0.ne lz_0 g_1) (Value.ref.inj q)) (by decide) (by decide) ?_
    refine XS.aloadN X0.here hx rfl (hb hby d_29) rfl rfl ?_
    refine st1 _ ?_
    refine XS.ifNo X1.here hx rfl (hb hby d_31) rfl ((if0 _ _).trans (feq (by decide : ¬ ((1 : Int32) = (0 : Int32)))).1) ?_
    refine XS.aloadN X1.here hx rfl (hb hby d_32) rfl rfl ?_
    refine st2 _ ?_
    refine XS.astoreN X2.here hx rfl (hb hby d_34) rfl rfl (l' := #[rv a1, rv a2, rv a2]) rfl ?_
    refine st3 _ ?_
    show SS p e below T3 m 22 #[rv a1, rv a2, rv a2] [(.int p3)] _
    refine XS.ifNo X3.here hx rfl (hb hby d_36) rfl ((if0 _ _).trans (feq hc_4).1) ?_
    refine XS.aloadN X3.here hx rfl (hb hby d_37) rfl rfl ?_
    refine st4 _ ?_
    refine XS.aloadN X4.here hx rfl (hb hby d_39) rfl rfl ?_
    refine st5 _ ?_
    refine XS.icmpNo X5.here hx rfl (hb hby d_41) rfl (teq (by decide : (0 : Int32) = (0 : Int32))).2 ?_
    refine XS.aloadN X5.here hx rfl (hb hby d_42) rfl rfl ?_
    refine st6 _ ?_
    refine XS.aloadN X6.here hx rfl (hb hby d_44) rfl rfl ?_
    refine st7 _ ?_
    show SS p e below T7 m 44 #[rv a1, rv a2, rv a2] [(.ref a5), (.ref a4)] _
    refine st8 _ ?_
    refine XS.ifNo X8.here hx rfl (hb hby d_48) rfl ((if0 _ _).trans (feq (by decide : ¬ ((1 : Int32) = (0 : Int32)))).1) ?_
    refine XS.iconst X8.here hx rfl (hb hby d_240) ?_
    refine XS.goto X8.here hx rfl (pc0 := 51) (pc' := 55) rfl (hb hby d_241) (by decide) (by decide) ?_
    exact retN X8 hx (t := .boolean) hret (by simp) (hb hby d_50) hr
def Q20_ofLabel (Z : State) (a1 : Addr) (a2 : Addr) (k3 : ClassId) (a4 : Addr) (a5 : Addr) (a6 : Addr) (a7 : Addr) (k8 : ClassId) (a9 : Addr) (k10 : ClassId) (p11 : Int32) (p12 : Int32) (p13 : Int32) (p14 : Int32) (p15 : Int32) (p16 : Int32) (p17 : Int32) (h0 : Heap) (n0 : Nat) (v : Option Value) (h : Heap) (L : List Loc) : Prop := v = some (.ref a4) ∧ Fr n0 L ∧ Keep h0 h []
theorem rm20_ofLabel (l : Launch) (Z : State) (a0 : Array Value) (hw : HW Z a0) (a1 : Addr) (a2 : Addr) (k3 : ClassId) (a4 : Addr) (a5 : Addr) (a6 : Addr) (a7 : Addr) (k8 : ClassId) (a9 : Addr) (k10 : ClassId) (p11 : Int32) (p12 : Int32) (p13 : Int32) (p14 : Int32) (p15 : Int32) (p16 : Int32) (p17 : Int32) (h0 : Heap) (n0 : Nat) (O0 : Old Z n0 h0) (S_0 : SA19 Z Z.heap (.ref a2)) (F_1 : Arv Z Z.heap a2 k3 (.object "com/example/duplex/duplex/compliance/Side") (2 : Int32) [(.ref a4), (.ref a5)] .null) (F_2 : EA15 Z Z.heap a2) (F_3 : FA13 Z Z.heap a4 (.ref a6)) (F_4 : EA14 Z Z.heap a6) (F_5 : FA11 Z Z.heap a6 (.int 0)) (F_6 : FA12 Z Z.heap a6 (.ref a7)) (F_7 : Arv Z Z.heap a7 k8 .byte 6 [(.int 99), (.int 108), (.int 105), (.int 101), (.int 110), (.int 116)] (.int 0)) (F_8 : EA14 Z h0 a1) (F_9 : FA11 Z h0 a1 (.int 0)) (F_10 : FA12 Z h0 a1 (.ref a9)) (F_11 : Arv Z h0 a9 k10 .byte 6 [(.int p11), (.int p12), (.int p13), (.int p14), (.int p15), (.int p16)] (.int 0)) (S_12 : SA18 Z Z.heap (.int p17)) (hc_13 : ¬ (p17 = (0 : Int32))) (hc_14 : (99 : Int32) = p11) (hc_15 : (108 : Int32) = p12) (hc_16 : (105 : Int32) = p13) (hc_17 : (101 : Int32) = p14) (hc_18 : (110 : Int32) = p15) (hc_19 : (116 : Int32) = p16) (g_20 : n0 ≤ a1) :
    Met l Z [] MY3 prog_9_method_5_code 5 (some (.object "com/example/duplex/duplex/compliance/Side")) ({ frames := 2, cells := 1, slots := 2, locals := 28 } : Room) #[(.ref a1)] h0 (Q20_ofLabel Z a1 a2 k3 a4 a5 a6 a7 k8 a9 k10 p11 p12 p13 p14 p15 p16 p17 h0 n0) := by
  have W := @own_W _ _ hw
  refine own_mk (plainFor_of_name pn_59) ?_
  intro p e s m below meth c s₁ hZ hx hby hml hown hnm hret hlk X0 e0
  have N0 := Fr.nil n0
  obtain ⟨_, T1, L1, X1, hQ1, st1⟩ := own_cs X0 hx hZ hown hml (W 52 rfl) (W 53 rfl) (W 50 rfl) (W 54 rfl) (rm1_values l Z a0 hw a2 k3 a4 a5 h0 n0 O0 (S_0) (F_1) (F_2)) e0 (hb hby d_53) 0 #[rv a1, .unset, .unset, .unset, .unset] [] [] pd_60
  obtain ⟨b1_0, rfl, N1q, K1, gb1_0, F1_0, F1_1⟩ := hQ1
  have N2 := Fr.app N0 N1q
  have O3 := O0.keep K1 all0
  have K4 : Keep h0 T1.heap [] := Keep.trans (Keep.refl h0 []) K1 all0
  obtain ⟨c5, A5, q5, S5, N5, H5, G5⟩ := id F1_0
  obtain ⟨c6, A6, q6, S6, N6, H6, G6⟩ := id F1_0
  have i7 : NB 0 c6 := inb_of S6 (by decide)
  obtain ⟨T8, X8, e8, st8⟩ := getF X1 hx hZ hown (host := "") (Or.inl (W 69 rfl)) Via.refl rfl (F_3.ext O3.2) (g := (mkF m 21 #[rv a1, rv b1_0, iv 2, iv 0, rv a4] [(.ref a4)])) rfl rfl (hb hby d_75)
  have f10 := (F_8.keep K1)
  have f11 := (F_9.keep K1 nin0)
  have f12 := (F_10.keep K1 nin0)
  have f13 := (F_11.keep K1 nin0)
  obtain ⟨_, T9, L9, X9, hQ9, st9⟩ := own_cv X8 hx hZ hown hml (W 71 rfl) (W 38 rfl) (notFace_of_selects (W 40 rfl)) (W 40 rfl) (W 39 rfl) (W 6 rfl) (W 41 rfl) (rm19_equals l Z a0 hw a6 a1 p17 a7 a9 k8 (99 : Int32) (108 : Int32) (105 : Int32) (101 : Int32) (110 : Int32) (116 : Int32) k10 p11 p12 p13 p14 p15 p16 T1.heap n0 O3 (F_4.lt) (g_20) (f10) (S_12) (hc_13) (F_5) (f11) (F_6) (f12) (F_7) (f13) (hc_14) (hc_15) (hc_16) (hc_17) (hc_18) (hc_19)) e8 (F_4.ext O3.2) (hb hby d_77) 0 #[rv a1, rv b1_0, iv 2, iv 0, rv a4] [(.ref a1)] [] pd_79
  obtain ⟨rfl, N9q, K9⟩ := hQ9
  have N14 := Fr.app N2 N9q
  refine ⟨T9, some (.ref a4), _, _, _, X9, by decide, by decide, nofun, ?_, fun fs hr => castTop (ef_97 m a1) ?_⟩
  · show Q20_ofLabel Z a1 a2 k3 a4 a5 a6 a7 k8 a9 k10 p11 p12 p13 p14 p15 p16 p17 h0 n0 _ T9.heap _
    rw [K9]
    exact ⟨rfl, N14, K4⟩
  · show SS p e below s₁ m 0 #[rv a1, .unset, .unset, .unset, .unset] [] _
    refine st1 _ ?_
    refine XS.astoreN X1.here hx rfl (hb hby d_61) rfl rfl (l' := #[rv a1, rv b1_0, .unset, .unset, .unset]) rfl ?_
    refine XS.aloadN X1.here hx rfl (hb hby d_62) rfl rfl ?_
    refine X1.arraylength hx (A5.1) (State.isArrayOf_alike hZ.alike A5.2.1) (g := (mkF m 5 #[rv a1, rv b1_0, .unset, .unset, .unset] [(.ref b1_0)])) rfl rfl (hb hby d_63) _ ?_
    rw [len_of S5 N5]
    refine XS.istoreN X1.here hx rfl (hb hby d_64) rfl (l' := #[rv a1, rv b1_0, iv 2, .unset, .unset]) rfl ?_
    refine XS.iconst X1.here hx rfl (hb hby d_65) ?_
    refine XS.istoreN X1.here hx rfl (hb hby d_66) rfl (l' := #[rv a1, rv b1_0, iv 2, iv 0, .unset]) rfl ?_
    refine XS.iloadN X1.here hx rfl (hb hby d_67) rfl ?_
    refine XS.iloadN X1.here hx rfl (hb hby d_68) rfl ?_
    refine XS.icmpNo X1.here hx rfl (hb hby d_69) rfl (tlt (by decide : (0 : Int32) < (2 : Int32))).2.1 ?_
    show SS p e below T1 m 14 #[rv a1, rv b1_0, iv 2, iv 0, .unset] [] _
    refine XS.aloadN X1.here hx rfl (hb hby d_70) rfl rfl ?_
    refine XS.iloadN X1.here hx rfl (hb hby d_71) rfl ?_
    refine X1.aaload hx (j := 0) (v := (.ref a4)) (A6.1) (State.isArrayOf_alike hZ.alike A6.2.1) rfl A6.2.2 i7 (H6.at i7 rfl) (g := (mkF m 16 #[rv a1, rv b1_0, iv 2, iv 0, .unset] [(.int 0), (.ref b1_0)])) rfl rfl (hb hby d_72) _ ?_
    refine XS.astore X1.here hx rfl (hb hby d_73) rfl rfl (l' := #[rv a1, rv b1_0, iv 2, iv 0, rv a4]) rfl ?_
    refine XS.aload X1.here hx rfl (hb hby d_74) rfl rfl ?_
    refine st8 _ ?_
    refine XS.aloadN X8.here hx rfl (hb hby d_76) rfl rfl ?_
    refine st9 _ ?_
    refine XS.ifNo X9.here hx rfl (hb hby d_80) rfl ((if0 _ _).trans (feq (by decide : ¬ ((1 : Int32) = (0 : Int32)))).1) ?_
    refine XS.aload X9.here hx rfl (hb hby d_95) rfl rfl ?_
    show SS p e below T9 m 33 #[rv a1, rv b1_0, iv 2, iv 0, rv a4] [(.ref a4)] _
    exact retOut X9 hx hret rfl (Or.inr (Or.inr (Or.inr (Or.inr ⟨rfl, rfl, rfl⟩)))) (hb hby d_96) hr
def Q21_equals (Z : State) (a1 : Addr) (a2 : Addr) (k3 : ClassId) (p4 : Int32) (p5 : Int32) (p6 : Int32) (p7 : Int32) (p8 : Int32) (p9 : Int32) (k10 : ClassId) (p11 : Int32) (p12 : Int32) (p13 : Int32) (p14 : Int32) (p15 : Int32) (p16 : Int32) (h0 : Heap) (n0 : Nat) (v : Option Value) (h : Heap) (L : List Loc) : Prop := v = some (.int 0) ∧ Fr n0 L ∧ h = h0
theorem rm21_equals (l : Launch) (Z : State) (a0 : Array Value) (hw : HW Z a0) (a1 : Addr) (a2 : Addr) (k3 : ClassId) (p4 : Int32) (p5 : Int32) (p6 : Int32) (p7 : Int32) (p8 : Int32) (p9 : Int32) (k10 : ClassId) (p11 : Int32) (p12 : Int32) (p13 : Int32) (p14 : Int32) (p15 : Int32) (p16 : Int32) (h0 : Heap) (n0 : Nat) (O0 : Old Z n0 h0) (F_0 : Arv Z h0 a1 k3 .byte 6 [(.int p4), (.int p5), (.int p6), (.int p7), (.int p8), (.int p9)] (.int 0)) (F_1 : Arv Z h0 a2 k10 .byte 6 [(.int p11), (.int p12), (.int p13), (.int p14), (.int p15), (.int p16)] (.int 0)) (hc_2 : ¬ (p4 = p11)) :
    Met l Z [] MY0 jdk_43_method_13_code 3 (some .boolean) ({ frames := 0, cells := 0, slots := 0, locals := 0 } : Room) #[(.ref a1), (.ref a2)] h0 (Q21_equals Z a1 a2 k3 p4 p5 p6 p7 p8 p9 k10 p11 p12 p13 p14 p15 p16 h0 n0) := by
  have W := @own_W _ _ hw
  refine own_mk (plainFor_of_name pn_25) ?_
  intro p e s m below meth c s₁ hZ hx hby hml hown hnm hret hlk X0 e0
  have N0 := Fr.nil n0
  obtain ⟨c1, A1, q1, S1, N1, H1, G1⟩ := id F_0
  obtain ⟨c2, A2, q2, S2, N2, H2, G2⟩ := id F_1
  obtain ⟨c3, A3, q3, S3, N3, H3, G3⟩ := id F_0
  obtain ⟨c4, A4, q4, S4, N4, H4, G4⟩ := id F_0
  have i5 : NB 0 c4 := inb_of S4 (by decide)
  obtain ⟨c6, A6, q6, S6, N6, H6, G6⟩ := id F_1
  have i7 : NB 0 c6 := inb_of S6 (by decide)
  refine ⟨s₁, some (.int 0), _, _, _, X0, by decide, by decide, nofun, ?_, fun fs hr => castTop (ef_51 m a1 a2) ?_⟩
  · show Q21_equals Z a1 a2 k3 p4 p5 p6 p7 p8 p9 k10 p11 p12 p13 p14 p15 p16 h0 n0 _ s₁.heap _
    rw [e0]
    exact ⟨rfl, N0, rfl⟩
  · show SS p e below s₁ m 0 #[rv a1, rv a2, .unset] [] _
    refine XS.aloadN X0.here hx rfl (hb hby d_0) rfl rfl ?_
    refine X0.arraylength hx (by rw [e0]; exact A1.1) (State.isArrayOf_alike hZ.alike A1.2.1) (g := (mkF m 1 #[rv a1, rv a2, .unset] [(.ref a1)])) rfl rfl (hb hby d_1) _ ?_
    rw [len_of S1 N1]
    refine XS.aloadN X0.here hx rfl (hb hby d_2) rfl rfl ?_
    refine X0.arraylength hx (by rw [e0]; exact A2.1) (State.isArrayOf_alike hZ.alike A2.2.1) (g := (mkF m 3 #[rv a1, rv a2, .unset] [(.ref a2), (.int 6)])) rfl rfl (hb hby d_3) _ ?_
    rw [len_of S2 N2]
    refine XS.icmpNo X0.here hx rfl (hb hby d_4) rfl (teq (by decide : (6 : Int32) = (6 : Int32))).2 ?_
    refine XS.iconst X0.here hx rfl (hb hby d_7) ?_
    refine XS.istoreN X0.here hx rfl (hb hby d_8) rfl (l' := #[rv a1, rv a2, iv 0]) rfl ?_
    refine XS.iloadN X0.here hx rfl (hb hby d_9) rfl ?_
    refine XS.aloadN X0.here hx rfl (hb hby d_10) rfl rfl ?_
    refine X0.arraylength hx (by rw [e0]; exact A3.1) (State.isArrayOf_alike hZ.alike A3.2.1) (g := (mkF m 11 #[rv a1, rv a2, iv 0] [(.ref a1), (.int 0)])) rfl rfl (hb hby d_11) _ ?_
    rw [len_of S3 N3]
    show SS p e below s₁ m 12 #[rv a1, rv a2, iv 0] [(.int 6), (.int 0)] _
    refine XS.icmpNo X0.here hx rfl (hb hby d_12) rfl (tlt (by decide : (0 : Int32) < (6 : Int32))).2.1 ?_
    refine XS.aloadN X0.here hx rfl (hb hby d_13) rfl rfl ?_
    refine XS.iloadN X0.here hx rfl (hb hby d_14) rfl ?_
    refine X0.baloadBytes hx (j := 0) (v := (.int p4)) (by rw [e0]; exact A4.1) (State.isArrayOf_alike hZ.alike A4.2.1) A4.2.2 i5 (H4.at i5 rfl) (g := (mkF m 17 #[rv a1, rv a2, iv 0] [(.int 0), (.ref a1)])) rfl rfl (hb hby d_15) _ ?_
    refine XS.aloadN X0.here hx rfl (hb hby d_16) rfl rfl ?_
    refine XS.iloadN X0.here hx rfl (hb hby d_17) rfl ?_
    refine X0.baloadBytes hx (j := 0) (v := (.int p11)) (by rw [e0]; exact A6.1) (State.isArrayOf_alike hZ.alike A6.2.1) A6.2.2 i7 (H6.at i7 rfl) (g := (mkF m 20 #[rv a1, rv a2, iv 0] [(.int 0), (.ref a2), (.int p4)])) rfl rfl (hb hby d_18) _ ?_
    refine XS.icmpNo X0.here hx rfl (hb hby d_19) rfl (feq hc_2).1 ?_
    refine XS.iconst X0.here hx rfl (hb hby d_20) ?_
    exact retN X0 hx (t := .boolean) hret (by simp) (hb hby d_21) hr
def Q22_equals (Z : State) (a1 : Addr) (a2 : Addr) (p3 : Int32) (a4 : Addr) (a5 : Addr) (k6 : ClassId) (p7 : Int32) (p8 : Int32) (p9 : Int32) (p10 : Int32) (p11 : Int32) (p12 : Int32) (k13 : ClassId) (p14 : Int32) (p15 : Int32) (p16 : Int32) (p17 : Int32) (p18 : Int32) (p19 : Int32) (h0 : Heap) (n0 : Nat) (v : Option Value) (h : Heap) (L : List Loc) : Prop := v = some (.int 0) ∧ Fr n0 L ∧ h = h0
theorem rm22_equals (l : Launch) (Z : State) (a0 : Array Value) (hw : HW Z a0) (a1 : Addr) (a2 : Addr) (p3 : Int32) (a4 : Addr) (a5 : Addr) (k6 : ClassId) (p7 : Int32) (p8 : Int32) (p9 : Int32) (p10 : Int32) (p11 : Int32) (p12 : Int32) (k13 : ClassId) (p14 : Int32) (p15 : Int32) (p16 : Int32) (p17 : Int32) (p18 : Int32) (p19 : Int32) (h0 : Heap) (n0 : Nat) (O0 : Old Z n0 h0) (ne_0 : a1 ≠ a2) (F_1 : EA14 Z h0 a2) (S_2 : SA18 Z Z.heap (.int p3)) (hc_3 : ¬ (p3 = (0 : Int32))) (F_4 : FA11 Z h0 a1 (.int 0)) (F_5 : FA11 Z h0 a2 (.int 0)) (F_6 : FA12 Z h0 a1 (.ref a4)) (F_7 : FA12 Z h0 a2 (.ref a5)) (F_8 : Arv Z h0 a4 k6 .byte 6 [(.int p7), (.int p8), (.int p9), (.int p10), (.int p11), (.int p12)] (.int 0)) (F_9 : Arv Z h0 a5 k13 .byte 6 [(.int p14), (.int p15), (.int p16), (.int p17), (.int p18), (.int p19)] (.int 0)) (hc_10 : ¬ (p7 = p14)) :
    Met l Z [] MY1 jdk_42_method_66_code 3 (some .boolean) ({ frames := 1, cells := 0, slots := 0, locals := 14 } : Room) #[(.ref a1), (.ref a2)] h0 (Q22_equals Z a1 a2 p3 a4 a5 k6 p7 p8 p9 p10 p11 p12 k13 p14 p15 p16 p17 p18 p19 h0 n0) := by
  have W := @own_W _ _ hw
  refine own_mk (plainFor_of_name pn_52) ?_
  intro p e s m below meth c s₁ hZ hx hby hml hown hnm hret hlk X0 e0
  have N0 := Fr.nil n0
  obtain ⟨T1, X1, e1, st1⟩ := instY X0 hx hZ hown (W 42 rfl) e0 (Ins.self F_1) (g := (mkF m 8 #[rv a1, rv a2, .unset] [(.ref a2)])) rfl rfl (hb hby d_30)
  obtain ⟨T2, X2, e2, st2⟩ := castY X1 hx hZ hown (W 42 rfl) e1 (Ins.self F_1) (g := (mkF m 15 #[rv a1, rv a2, .unset] [(.ref a2)])) rfl rfl (hb hby d_33)
  obtain ⟨T3, X3, e3, st3⟩ := getS2 X2 hx hZ hown (host := "") (Or.inl (W 18 rfl)) Via.refl e2 (S_2.ext O0.2) (g := (mkF m 19 #[rv a1, rv a2, rv a2] [])) rfl (hb hby d_35)
  obtain ⟨T4, X4, e4, st4⟩ := getF X3 hx hZ hown (host := "") (Or.inl (W 30 rfl)) Via.refl e3 F_4 (g := (mkF m 26 #[rv a1, rv a2, rv a2] [(.ref a1)])) rfl rfl (hb hby d_38)
  obtain ⟨T5, X5, e5, st5⟩ := getF X4 hx hZ hown (host := "") (Or.inl (W 30 rfl)) Via.refl e4 F_5 (g := (mkF m 30 #[rv a1, rv a2, rv a2] [(.ref a2), (.int 0)])) rfl rfl (hb hby d_40)
  obtain ⟨T6, X6, e6, st6⟩ := getF X5 hx hZ hown (host := "") (Or.inl (W 32 rfl)) Via.refl e5 F_6 (g := (mkF m 37 #[rv a1, rv a2, rv a2] [(.ref a1)])) rfl rfl (hb hby d_43)
  obtain ⟨T7, X7, e7, st7⟩ := getF X6 hx hZ hown (host := "") (Or.inl (W 32 rfl)) Via.refl e6 F_7 (g := (mkF m 41 #[rv a1, rv a2, rv a2] [(.ref a2), (.ref a4)])) rfl rfl (hb hby d_45)
  obtain ⟨_, T8, L8, X8, hQ8, st8⟩ := own_cs X7 hx hZ hown hml (W 43 rfl) (W 44 rfl) (W 45 rfl) (W 46 rfl) (rm21_equals l Z a0 hw a4 a5 k6 p7 p8 p9 p10 p11 p12 k13 p14 p15 p16 p17 p18 p19 h0 n0 O0 (F_8) (F_9) (hc_10)) e7 (hb hby d_46) 0 #[rv a1, rv a2, rv a2] [(.ref a4), (.ref a5)] [] pd_47
  obtain ⟨rfl, N8q, K8⟩ := hQ8
  have N9 := Fr.app N0 N8q
  refine ⟨T8, some (.int 0), _, _, _, X8, by decide, by decide, nofun, ?_, fun fs hr => castTop (ef_51 m a1 a2) ?_⟩
  · show Q22_equals Z a1 a2 p3 a4 a5 k6 p7 p8 p9 p10 p11 p12 k13 p14 p15 p16 p17 p18 p19 h0 n0 _ T8.heap _
    rw [K8]
    exact ⟨rfl, N9, rfl⟩
  · show SS p e below s₁ m 0 #[rv a1, rv a2, .unset] [] _
    refine XS.aloadN X0.here hx rfl (hb hby d_26) rfl rfl ?_
    refine XS.aloadN X0.here hx rfl (hb hby d_27) rfl rfl ?_
    refine Jvm.RoadKit.acmp (g := (mkF m 2 #[rv a1, rv a2, .unset] [(.ref a2), (.ref a1)])) X0 hx rfl rfl rfl (pc0 := 2) (pc' := 7) (same := false) rfl (hb hby d_28) rfl (decide_eq_false fun q => ne_0 (Value.ref.inj q)) (by decide) (by decide) ?_
    refine XS.aloadN X0.here hx rfl (hb hby d_29) rfl rfl ?_
    refine st1 _ ?_
    refine XS.ifNo X1.here hx rfl (hb hby d_31) rfl ((if0 _ _).trans (feq (by decide : ¬ ((1 : Int32) = (0 : Int32)))).1) ?_
    refine XS.aloadN X1.here hx rfl (hb hby d_32) rfl rfl ?_
    refine st2 _ ?_
    refine XS.astoreN X2.here hx rfl (hb hby d_34) rfl rfl (l' := #[rv a1, rv a2, rv a2]) rfl ?_
    refine st3 _ ?_
    show SS p e below T3 m 22 #[rv a1, rv a2, rv a2] [(.int p3)] _
    refine XS.ifNo X3.here hx rfl (hb hby d_36) rfl ((if0 _ _).trans (feq hc_3).1) ?_
    refine XS.aloadN X3.here hx rfl (hb hby d_37) rfl rfl ?_
    refine st4 _ ?_
    refine XS.aloadN X4.here hx rfl (hb hby d_39) rfl rfl ?_
    refine st5 _ ?_
    refine XS.icmpNo X5.here hx rfl (hb hby d_41) rfl (teq (by decide : (0 : Int32) = (0 : Int32))).2 ?_
    refine XS.aloadN X5.here hx rfl (hb hby d_42) rfl rfl ?_
    refine st6 _ ?_
    refine XS.aloadN X6.here hx rfl (hb hby d_44) rfl rfl ?_
    refine st7 _ ?_
    show SS p e below T7 m 44 #[rv a1, rv a2, rv a2] [(.ref a5), (.ref a4)] _
    refine st8 _ ?_
    refine XS.ifYes X8.here hx rfl (pc0 := 47) (pc' := 54) rfl (hb hby d_48) rfl ((if0 _ _).trans (teq (by decide : (0 : Int32) = (0 : Int32))).1) (by decide) (by decide) ?_
    refine XS.iconst X8.here hx rfl (hb hby d_49) ?_
    exact retN X8 hx (t := .boolean) hret (by simp) (hb hby d_50) hr
def Q23_equals (Z : State) (a1 : Addr) (a2 : Addr) (k3 : ClassId) (p4 : Int32) (p5 : Int32) (p6 : Int32) (p7 : Int32) (p8 : Int32) (p9 : Int32) (k10 : ClassId) (p11 : Int32) (p12 : Int32) (p13 : Int32) (p14 : Int32) (p15 : Int32) (p16 : Int32) (h0 : Heap) (n0 : Nat) (v : Option Value) (h : Heap) (L : List Loc) : Prop := v = some (.int 0) ∧ Fr n0 L ∧ h = h0
theorem rm23_equals (l : Launch) (Z : State) (a0 : Array Value) (hw : HW Z a0) (a1 : Addr) (a2 : Addr) (k3 : ClassId) (p4 : Int32) (p5 : Int32) (p6 : Int32) (p7 : Int32) (p8 : Int32) (p9 : Int32) (k10 : ClassId) (p11 : Int32) (p12 : Int32) (p13 : Int32) (p14 : Int32) (p15 : Int32) (p16 : Int32) (h0 : Heap) (n0 : Nat) (O0 : Old Z n0 h0) (F_0 : Arv Z Z.heap a1 k3 .byte 6 [(.int p4), (.int p5), (.int p6), (.int p7), (.int p8), (.int p9)] (.int 0)) (F_1 : Arv Z h0 a2 k10 .byte 6 [(.int p11), (.int p12), (.int p13), (.int p14), (.int p15), (.int p16)] (.int 0)) (hc_2 : ¬ (p4 = p11)) :
    Met l Z [] MY0 jdk_43_method_13_code 3 (some .boolean) ({ frames := 0, cells := 0, slots := 0, locals := 0 } : Room) #[(.ref a1), (.ref a2)] h0 (Q23_equals Z a1 a2 k3 p4 p5 p6 p7 p8 p9 k10 p11 p12 p13 p14 p15 p16 h0 n0) := by
  have W := @own_W _ _ hw
  refine own_mk (plainFor_of_name pn_25) ?_
  intro p e s m below meth c s₁ hZ hx hby hml hown hnm hret hlk X0 e0
  have N0 := Fr.nil n0
  obtain ⟨c1, A1, q1, S1, N1, H1, G1⟩ := id (F_0.ext O0.2)
  obtain ⟨c2, A2, q2, S2, N2, H2, G2⟩ := id F_1
  obtain ⟨c3, A3, q3, S3, N3, H3, G3⟩ := id (F_0.ext O0.2)
  obtain ⟨c4, A4, q4, S4, N4, H4, G4⟩ := id (F_0.ext O0.2)
  have i5 : NB 0 c4 := inb_of S4 (by decide)
  obtain ⟨c6, A6, q6, S6, N6, H6, G6⟩ := id F_1
  have i7 : NB 0 c6 := inb_of S6 (by decide)
  refine ⟨s₁, some (.int 0), _, _, _, X0, by decide, by decide, nofun, ?_, fun fs hr => castTop (ef_51 m a1 a2) ?_⟩
  · show Q23_equals Z a1 a2 k3 p4 p5 p6 p7 p8 p9 k10 p11 p12 p13 p14 p15 p16 h0 n0 _ s₁.heap _
    rw [e0]
    exact ⟨rfl, N0, rfl⟩
  · show SS p e below s₁ m 0 #[rv a1, rv a2, .unset] [] _
    refine XS.aloadN X0.here hx rfl (hb hby d_0) rfl rfl ?_
    refine X0.arraylength hx (by rw [e0]; exact A1.1) (State.isArrayOf_alike hZ.alike A1.2.1) (g := (mkF m 1 #[rv a1, rv a2, .unset] [(.ref a1)])) rfl rfl (hb hby d_1) _ ?_
    rw [len_of S1 N1]
    refine XS.aloadN X0.here hx rfl (hb hby d_2) rfl rfl ?_
    refine X0.arraylength hx (by rw [e0]; exact A2.1) (State.isArrayOf_alike hZ.alike A2.2.1) (g := (mkF m 3 #[rv a1, rv a2, .unset] [(.ref a2), (.int 6)])) rfl rfl (hb hby d_3) _ ?_
    rw [len_of S2 N2]
    refine XS.icmpNo X0.here hx rfl (hb hby d_4) rfl (teq (by decide : (6 : Int32) = (6 : Int32))).2 ?_
    refine XS.iconst X0.here hx rfl (hb hby d_7) ?_
    refine XS.istoreN X0.here hx rfl (hb hby d_8) rfl (l' := #[rv a1, rv a2, iv 0]) rfl ?_
    refine XS.iloadN X0.here hx rfl (hb hby d_9) rfl ?_
    refine XS.aloadN X0.here hx rfl (hb hby d_10) rfl rfl ?_
    refine X0.arraylength hx (by rw [e0]; exact A3.1) (State.isArrayOf_alike hZ.alike A3.2.1) (g := (mkF m 11 #[rv a1, rv a2, iv 0] [(.ref a1), (.int 0)])) rfl rfl (hb hby d_11) _ ?_
    rw [len_of S3 N3]
    show SS p e below s₁ m 12 #[rv a1, rv a2, iv 0] [(.int 6), (.int 0)] _
    refine XS.icmpNo X0.here hx rfl (hb hby d_12) rfl (tlt (by decide : (0 : Int32) < (6 : Int32))).2.1 ?_
    refine XS.aloadN X0.here hx rfl (hb hby d_13) rfl rfl ?_
    refine XS.iloadN X0.here hx rfl (hb hby d_14) rfl ?_
    refine X0.baloadBytes hx (j := 0) (v := (.int p4)) (by rw [e0]; exact A4.1) (State.isArrayOf_alike hZ.alike A4.2.1) A4.2.2 i5 (H4.at i5 rfl) (g := (mkF m 17 #[rv a1, rv a2, iv 0] [(.int 0), (.ref a1)])) rfl rfl (hb hby d_15) _ ?_
    refine XS.aloadN X0.here hx rfl (hb hby d_16) rfl rfl ?_
    refine XS.iloadN X0.here hx rfl (hb hby d_17) rfl ?_
    refine X0.baloadBytes hx (j := 0) (v := (.int p11)) (by rw [e0]; exact A6.1) (State.isArrayOf_alike hZ.alike A6.2.1) A6.2.2 i7 (H6.at i7 rfl) (g := (mkF m 20 #[rv a1, rv a2, iv 0] [(.int 0), (.ref a2), (.int p4)])) rfl rfl (hb hby d_18) _ ?_
    refine XS.icmpNo X0.here hx rfl (hb hby d_19) rfl (feq hc_2).1 ?_
    refine XS.iconst X0.here hx rfl (hb hby d_20) ?_
    exact retN X0 hx (t := .boolean) hret (by simp) (hb hby d_21) hr
def Q24_equals (Z : State) (a1 : Addr) (a2 : Addr) (p3 : Int32) (a4 : Addr) (a5 : Addr) (k6 : ClassId) (p7 : Int32) (p8 : Int32) (p9 : Int32) (p10 : Int32) (p11 : Int32) (p12 : Int32) (k13 : ClassId) (p14 : Int32) (p15 : Int32) (p16 : Int32) (p17 : Int32) (p18 : Int32) (p19 : Int32) (h0 : Heap) (n0 : Nat) (v : Option Value) (h : Heap) (L : List Loc) : Prop := v = some (.int 0) ∧ Fr n0 L ∧ h = h0
theorem rm24_equals (l : Launch) (Z : State) (a0 : Array Value) (hw : HW Z a0) (a1 : Addr) (a2 : Addr) (p3 : Int32) (a4 : Addr) (a5 : Addr) (k6 : ClassId) (p7 : Int32) (p8 : Int32) (p9 : Int32) (p10 : Int32) (p11 : Int32) (p12 : Int32) (k13 : ClassId) (p14 : Int32) (p15 : Int32) (p16 : Int32) (p17 : Int32) (p18 : Int32) (p19 : Int32) (h0 : Heap) (n0 : Nat) (O0 : Old Z n0 h0) (lz_0 : a1 < Z.heap.size) (g_1 : n0 ≤ a2) (F_2 : EA14 Z h0 a2) (S_3 : SA18 Z Z.heap (.int p3)) (hc_4 : ¬ (p3 = (0 : Int32))) (F_5 : FA11 Z Z.heap a1 (.int 0)) (F_6 : FA11 Z h0 a2 (.int 0)) (F_7 : FA12 Z Z.heap a1 (.ref a4)) (F_8 : FA12 Z h0 a2 (.ref a5)) (F_9 : Arv Z Z.heap a4 k6 .byte 6 [(.int p7), (.int p8), (.int p9), (.int p10), (.int p11), (.int p12)] (.int 0)) (F_10 : Arv Z h0 a5 k13 .byte 6 [(.int p14), (.int p15), (.int p16), (.int p17), (.int p18), (.int p19)] (.int 0)) (hc_11 : ¬ (p7 = p14)) :
    Met l Z [] MY1 jdk_42_method_66_code 3 (some .boolean) ({ frames := 1, cells := 0, slots := 0, locals := 14 } : Room) #[(.ref a1), (.ref a2)] h0 (Q24_equals Z a1 a2 p3 a4 a5 k6 p7 p8 p9 p10 p11 p12 k13 p14 p15 p16 p17 p18 p19 h0 n0) := by
  have W := @own_W _ _ hw
  refine own_mk (plainFor_of_name pn_52) ?_
  intro p e s m below meth c s₁ hZ hx hby hml hown hnm hret hlk X0 e0
  have N0 := Fr.nil n0
  obtain ⟨T1, X1, e1, st1⟩ := instY X0 hx hZ hown (W 42 rfl) e0 (Ins.self F_2) (g := (mkF m 8 #[rv a1, rv a2, .unset] [(.ref a2)])) rfl rfl (hb hby d_30)
  obtain ⟨T2, X2, e2, st2⟩ := castY X1 hx hZ hown (W 42 rfl) e1 (Ins.self F_2) (g := (mkF m 15 #[rv a1, rv a2, .unset] [(.ref a2)])) rfl rfl (hb hby d_33)
  obtain ⟨T3, X3, e3, st3⟩ := getS2 X2 hx hZ hown (host := "") (Or.inl (W 18 rfl)) Via.refl e2 (S_3.ext O0.2) (g := (mkF m 19 #[rv a1, rv a2, rv a2] [])) rfl (hb hby d_35)
  obtain ⟨T4, X4, e4, st4⟩ := getF X3 hx hZ hown (host := "") (Or.inl (W 30 rfl)) Via.refl e3 (F_5.ext O0.2) (g := (mkF m 26 #[rv a1, rv a2, rv a2] [(.ref a1)])) rfl rfl (hb hby d_38)
  obtain ⟨T5, X5, e5, st5⟩ := getF X4 hx hZ hown (host := "") (Or.inl (W 30 rfl)) Via.refl e4 F_6 (g := (mkF m 30 #[rv a1, rv a2, rv a2] [(.ref a2), (.int 0)])) rfl rfl (hb hby d_40)
  obtain ⟨T6, X6, e6, st6⟩ := getF X5 hx hZ hown (host := "") (Or.inl (W 32 rfl)) Via.refl e5 (F_7.ext O0.2) (g := (mkF m 37 #[rv a1, rv a2, rv a2] [(.ref a1)])) rfl rfl (hb hby d_43)
  obtain ⟨T7, X7, e7, st7⟩ := getF X6 hx hZ hown (host := "") (Or.inl (W 32 rfl)) Via.refl e6 F_8 (g := (mkF m 41 #[rv a1, rv a2, rv a2] [(.ref a2), (.ref a4)])) rfl rfl (hb hby d_45)
  obtain ⟨_, T8, L8, X8, hQ8, st8⟩ := own_cs X7 hx hZ hown hml (W 43 rfl) (W 44 rfl) (W 45 rfl) (W 46 rfl) (rm23_equals l Z a0 hw a4 a5 k6 p7 p8 p9 p10 p11 p12 k13 p14 p15 p16 p17 p18 p19 h0 n0 O0 (F_9) (F_10) (hc_11)) e7 (hb hby d_46) 0 #[rv a1, rv a2, rv a2] [(.ref a4), (.ref a5)] [] pd_47
  obtain ⟨rfl, N8q, K8⟩ := hQ8
  have N9 := Fr.app N0 N8q
  refine ⟨T8, some (.int 0), _, _, _, X8, by decide, by decide, nofun, ?_, fun fs hr => castTop (ef_51 m a1 a2) ?_⟩
  · show Q24_equals Z a1 a2 p3 a4 a5 k6 p7 p8 p9 p10 p11 p12 k13 p14 p15 p16 p17 p18 p19 h0 n0 _ T8.heap _
    rw [K8]
    exact ⟨rfl, N9, rfl⟩
  · show SS p e below s₁ m 0 #[rv a1, rv a2, .unset] [] _
    refine XS.aloadN X0.here hx rfl (hb hby d_26) rfl rfl ?_
    refine XS.aloadN X0.here hx rfl (hb hby d_27) rfl rfl ?_
    refine Jvm.RoadKit.acmp (g := (mkF m 2 #[rv a1, rv a2, .unset] [(.ref a2), (.ref a1)])) X0 hx rfl rfl rfl (pc0 := 2) (pc' := 7) (same := false) rfl (hb hby d_28) rfl (decide_eq_false fun q => (O0.ne lz_0 g_1) (Value.ref.inj q)) (by decide) (by decide) ?_
    refine XS.aloadN X0.here hx rfl (hb hby d_29) rfl rfl ?_
    refine st1 _ ?_
    refine XS.ifNo X1.here hx rfl (hb hby d_31) rfl ((if0 _ _).trans (feq (by decide : ¬ ((1 : Int32) = (0 : Int32)))).1) ?_
    refine XS.aloadN X1.here hx rfl (hb hby d_32) rfl rfl ?_
    refine st2 _ ?_
    refine XS.astoreN X2.here hx rfl (hb hby d_34) rfl rfl (l' := #[rv a1, rv a2, rv a2]) rfl ?_
    refine st3 _ ?_
    show SS p e below T3 m 22 #[rv a1, rv a2, rv a2] [(.int p3)] _
    refine XS.ifNo X3.here hx rfl (hb hby d_36) rfl ((if0 _ _).trans (feq hc_4).1) ?_
    refine XS.aloadN X3.here hx rfl (hb hby d_37) rfl rfl ?_
    refine st4 _ ?_
    refine XS.aloadN X4.here hx rfl (hb hby d_39) rfl rfl ?_
    refine st5 _ ?_
    refine XS.icmpNo X5.here hx rfl (hb hby d_41) rfl (teq (by decide : (0 : Int32) = (0 : Int32))).2 ?_
    refine XS.aloadN X5.here hx rfl (hb hby d_42) rfl rfl ?_
    refine st6 _ ?_
    refine XS.aloadN X6.here hx rfl (hb hby d_44) rfl rfl ?_
    refine st7 _ ?_
    show SS p e below T7 m 44 #[rv a1, rv a2, rv a2] [(.ref a5), (.ref a4)] _
    refine st8 _ ?_
    refine XS.ifYes X8.here hx rfl (pc0 := 47) (pc' := 54) rfl (hb hby d_48) rfl ((if0 _ _).trans (teq (by decide : (0 : Int32) = (0 : Int32))).1) (by decide) (by decide) ?_
    refine XS.iconst X8.here hx rfl (hb hby d_49) ?_
    exact retN X8 hx (t := .boolean) hret (by simp) (hb hby d_50) hr
def Q25_ofLabel (Z : State) (a1 : Addr) (a2 : Addr) (k3 : ClassId) (a4 : Addr) (a5 : Addr) (a6 : Addr) (a7 : Addr) (k8 : ClassId) (a9 : Addr) (k10 : ClassId) (p11 : Int32) (p12 : Int32) (p13 : Int32) (p14 : Int32) (p15 : Int32) (a16 : Addr) (a17 : Addr) (k18 : ClassId) (h0 : Heap) (n0 : Nat) (v : Option Value) (h : Heap) (L : List Loc) : Prop := v = some (.ref a5) ∧ Fr n0 L ∧ Keep h0 h []
theorem rm25_ofLabel (l : Launch) (Z : State) (a0 : Array Value) (hw : HW Z a0) (a1 : Addr) (a2 : Addr) (k3 : ClassId) (a4 : Addr) (a5 : Addr) (a6 : Addr) (a7 : Addr) (k8 : ClassId) (a9 : Addr) (k10 : ClassId) (p11 : Int32) (p12 : Int32) (p13 : Int32) (p14 : Int32) (p15 : Int32) (a16 : Addr) (a17 : Addr) (k18 : ClassId) (h0 : Heap) (n0 : Nat) (O0 : Old Z n0 h0) (S_0 : SA19 Z Z.heap (.ref a2)) (F_1 : Arv Z Z.heap a2 k3 (.object "com/example/duplex/duplex/compliance/Side") (2 : Int32) [(.ref a4), (.ref a5)] .null) (F_2 : EA15 Z Z.heap a2) (F_3 : FA13 Z Z.heap a4 (.ref a6)) (F_4 : EA14 Z Z.heap a6) (F_5 : FA11 Z Z.heap a6 (.int 0)) (F_6 : FA12 Z Z.heap a6 (.ref a7)) (F_7 : Arv Z Z.heap a7 k8 .byte 6 [(.int 99), (.int 108), (.int 105), (.int 101), (.int 110), (.int 116)] (.int 0)) (F_8 : EA14 Z h0 a1) (F_9 : FA11 Z h0 a1 (.int 0)) (F_10 : FA12 Z h0 a1 (.ref a9)) (F_11 : Arv Z h0 a9 k10 .byte 6 [(.int p11), (.int p12), (.int p13), (.int p14), (.int p12), (.int p13)] (.int 0)) (S_12 : SA18 Z Z.heap (.int p15)) (hc_13 : ¬ (p15 = (0 : Int32))) (hc_14 : ¬ ((99 : Int32) = p11)) (g_15 : n0 ≤ a1) (F_16 : FA13 Z Z.heap a5 (.ref a16)) (F_17 : EA14 Z Z.heap a16) (F_18 : FA11 Z Z.heap a16 (.int 0)) (F_19 : FA12 Z Z.heap a16 (.ref a17)) (F_20 : Arv Z Z.heap a17 k18 .byte 6 [(.int 115), (.int 101), (.int 114), (.int 118), (.int 101), (.int 114)] (.int 0)) (hc_21 : (115 : Int32) = p11) (hc_22 : (101 : Int32) = p12) (hc_23 : (114 : Int32) = p13) (hc_24 : (118 : Int32) = p14) :
    Met l Z [] MY3 prog_9_method_5_code 5 (some (.object "com/example/duplex/duplex/compliance/Side")) ({ frames := 2, cells := 1, slots := 2, locals := 28 } : Room) #[(.ref a1)] h0 (Q25_ofLabel Z a1 a2 k3 a4 a5 a6 a7 k8 a9 k10 p11 p12 p13 p14 p15 a16 a17 k18 h0 n0) := by
  have W := @own_W _ _ hw
  refine own_mk (plainFor_of_name pn_59) ?_
  intro p e s m below meth c s₁ hZ hx hby hml hown hnm hret hlk X0 e0
  have N0 := Fr.nil n0
  obtain ⟨_, T1, L1, X1, hQ1, st1⟩ := own_cs X0 hx hZ hown hml (W 52 rfl) (W 53 rfl) (W 50 rfl) (W 54 rfl) (rm1_values l Z a0 hw a2 k3 a4 a5 h0 n0 O0 (S_0) (F_1) (F_2)) e0 (hb hby d_53) 0 #[rv a1, .unset, .unset, .unset, .unset] [] [] pd_60
  obtain ⟨b1_0, rfl, N1q, K1, gb1_0, F1_0, F1_1⟩ := hQ1
  have N2 := Fr.app N0 N1q
  have O3 := O0.keep K1 all0
  have K4 : Keep h0 T1.heap [] := Keep.trans (Keep.refl h0 []) K1 all0
  obtain ⟨c5, A5, q5, S5, N5, H5, G5⟩ := id F1_0
  obtain ⟨c6, A6, q6, S6, N6, H6, G6⟩ := id F1_0
  have i7 : NB 0 c6 := inb_of S6 (by decide)
  obtain ⟨T8, X8, e8, st8⟩ := getF X1 hx hZ hown (host := "") (Or.inl (W 69 rfl)) Via.refl rfl (F_3.ext O3.2) (g := (mkF m 21 #[rv a1, rv b1_0, iv 2, iv 0, rv a4] [(.ref a4)])) rfl rfl (hb hby d_75)
  have f10 := (F_8.keep K1)
  have f11 := (F_9.keep K1 nin0)
  have f12 := (F_10.keep K1 nin0)
  have f13 := (F_11.keep K1 nin0)
  obtain ⟨_, T9, L9, X9, hQ9, st9⟩ := own_cv X8 hx hZ hown hml (W 71 rfl) (W 38 rfl) (notFace_of_selects (W 40 rfl)) (W 40 rfl) (W 39 rfl) (W 6 rfl) (W 41 rfl) (rm24_equals l Z a0 hw a6 a1 p15 a7 a9 k8 (99 : Int32) (108 : Int32) (105 : Int32) (101 : Int32) (110 : Int32) (116 : Int32) k10 p11 p12 p13 p14 p12 p13 T1.heap n0 O3 (F_4.lt) (g_15) (f10) (S_12) (hc_13) (F_5) (f11) (F_6) (f12) (F_7) (f13) (hc_14)) e8 (F_4.ext O3.2) (hb hby d_77) 0 #[rv a1, rv b1_0, iv 2, iv 0, rv a4] [(.ref a1)] [] pd_79
  obtain ⟨rfl, N9q, K9⟩ := hQ9
  have N14 := Fr.app N2 N9q
  obtain ⟨c15, A15, q15, S15, N15, H15, G15⟩ := id F1_0
  have i16 : NB 1 c15 := inb_of S15 (by decide)
  obtain ⟨T17, X17, e17, st17⟩ := getF X9 hx hZ hown (host := "") (Or.inl (W 69 rfl)) Via.refl K9 (F_16.ext O3.2) (g := (mkF m 21 #[rv a1, rv b1_0, iv 2, iv 1, rv a5] [(.ref a5)])) rfl rfl (hb hby d_75)
  obtain ⟨_, T18, L18, X18, hQ18, st18⟩ := own_cv X17 hx hZ hown hml (W 71 rfl) (W 38 rfl) (notFace_of_selects (W 40 rfl)) (W 40 rfl) (W 39 rfl) (W 6 rfl) (W 41 rfl) (rm19_equals l Z a0 hw a16 a1 p15 a17 a9 k18 (115 : Int32) (101 : Int32) (114 : Int32) (118 : Int32) (101 : Int32) (114 : Int32) k10 p11 p12 p13 p14 p12 p13 T1.heap n0 O3 (F_17.lt) (g_15) (f10) (S_12) (hc_13) (F_18) (f11) (F_19) (f12) (F_20) (f13) (hc_21) (hc_22) (hc_23) (hc_24) (hc_22) (hc_23)) e17 (F_17.ext O3.2) (hb hby d_77) 0 #[rv a1, rv b1_0, iv 2, iv 1, rv a5] [(.ref a1)] [] pd_79
  obtain ⟨rfl, N18q, K18⟩ := hQ18
  have N19 := Fr.app N14 N18q
  refine ⟨T18, some (.ref a5), _, _, _, X18, by decide, by decide, nofun, ?_, fun fs hr => castTop (ef_97 m a1) ?_⟩
  · show Q25_ofLabel Z a1 a2 k3 a4 a5 a6 a7 k8 a9 k10 p11 p12 p13 p14 p15 a16 a17 k18 h0 n0 _ T18.heap _
    rw [K18]
    exact ⟨rfl, N19, K4⟩
  · show SS p e below s₁ m 0 #[rv a1, .unset, .unset, .unset, .unset] [] _
    refine st1 _ ?_
    refine XS.astoreN X1.here hx rfl (hb hby d_61) rfl rfl (l' := #[rv a1, rv b1_0, .unset, .unset, .unset]) rfl ?_
    refine XS.aloadN X1.here hx rfl (hb hby d_62) rfl rfl ?_
    refine X1.arraylength hx (A5.1) (State.isArrayOf_alike hZ.alike A5.2.1) (g := (mkF m 5 #[rv a1, rv b1_0, .unset, .unset, .unset] [(.ref b1_0)])) rfl rfl (hb hby d_63) _ ?_
    rw [len_of S5 N5]
    refine XS.istoreN X1.here hx rfl (hb hby d_64) rfl (l' := #[rv a1, rv b1_0, iv 2, .unset, .unset]) rfl ?_
    refine XS.iconst X1.here hx rfl (hb hby d_65) ?_
    refine XS.istoreN X1.here hx rfl (hb hby d_66) rfl (l' := #[rv a1, rv b1_0, iv 2, iv 0, .unset]) rfl ?_
    refine XS.iloadN X1.here hx rfl (hb hby d_67) rfl ?_
    refine XS.iloadN X1.here hx rfl (hb hby d_68) rfl ?_
    refine XS.icmpNo X1.here hx rfl (hb hby d_69) rfl (tlt (by decide : (0 : Int32) < (2 : Int32))).2.1 ?_
    show SS p e below T1 m 14 #[rv a1, rv b1_0, iv 2, iv 0, .unset] [] _
    refine XS.aloadN X1.here hx rfl (hb hby d_70) rfl rfl ?_
    refine XS.iloadN X1.here hx rfl (hb hby d_71) rfl ?_
    refine X1.aaload hx (j := 0) (v := (.ref a4)) (A6.1) (State.isArrayOf_alike hZ.alike A6.2.1) rfl A6.2.2 i7 (H6.at i7 rfl) (g := (mkF m 16 #[rv a1, rv b1_0, iv 2, iv 0, .unset] [(.int 0), (.ref b1_0)])) rfl rfl (hb hby d_72) _ ?_
    refine XS.astore X1.here hx rfl (hb hby d_73) rfl rfl (l' := #[rv a1, rv b1_0, iv 2, iv 0, rv a4]) rfl ?_
    refine XS.aload X1.here hx rfl (hb hby d_74) rfl rfl ?_
    refine st8 _ ?_
    refine XS.aloadN X8.here hx rfl (hb hby d_76) rfl rfl ?_
    refine st9 _ ?_
    refine XS.ifYes X9.here hx rfl (pc0 := 28) (pc' := 34) rfl (hb hby d_80) rfl ((if0 _ _).trans (teq (by decide : (0 : Int32) = (0 : Int32))).1) (by decide) (by decide) ?_
    refine XS.iinc X9.here hx rfl (hb hby d_81) rfl (l' := #[rv a1, rv b1_0, iv 2, iv 1, rv a4]) rfl ?_
    show SS p e below T9 m 37 #[rv a1, rv b1_0, iv 2, iv 1, rv a4] [] _
    refine XS.goto X9.here hx rfl (pc0 := 37) (pc' := 9) rfl (hb hby d_82) (by decide) (by decide) ?_
    refine XS.iloadN X9.here hx rfl (hb hby d_67) rfl ?_
    refine XS.iloadN X9.here hx rfl (hb hby d_68) rfl ?_
    refine XS.icmpNo X9.here hx rfl (hb hby d_69) rfl (tlt (by decide : (1 : Int32) < (2 : Int32))).2.1 ?_
    refine XS.aloadN X9.here hx rfl (hb hby d_70) rfl rfl ?_
    refine XS.iloadN X9.here hx rfl (hb hby d_71) rfl ?_
    refine X9.aaload hx (j := 1) (v := (.ref a5)) (by rw [K9]; exact A15.1) (State.isArrayOf_alike hZ.alike A15.2.1) rfl A15.2.2 i16 (H15.at i16 rfl) (g := (mkF m 16 #[rv a1, rv b1_0, iv 2, iv 1, rv a4] [(.int 1), (.ref b1_0)])) rfl rfl (hb hby d_72) _ ?_
    refine XS.astore X9.here hx rfl (hb hby d_73) rfl rfl (l' := #[rv a1, rv b1_0, iv 2, iv 1, rv a5]) rfl ?_
    refine XS.aload X9.here hx rfl (hb hby d_74) rfl rfl ?_
    refine st17 _ ?_
    show SS p e below T17 m 24 #[rv a1, rv b1_0, iv 2, iv 1, rv a5] [(.ref a16)] _
    refine XS.aloadN X17.here hx rfl (hb hby d_76) rfl rfl ?_
    refine st18 _ ?_
    refine XS.ifNo X18.here hx rfl (hb hby d_80) rfl ((if0 _ _).trans (feq (by decide : ¬ ((1 : Int32) = (0 : Int32)))).1) ?_
    refine XS.aload X18.here hx rfl (hb hby d_95) rfl rfl ?_
    exact retOut X18 hx hret rfl (Or.inr (Or.inr (Or.inr (Or.inr ⟨rfl, rfl, rfl⟩)))) (hb hby d_96) hr
theorem d_242 : decode method_3_code 4 = .ok (.new 14, 3) := by decide +kernel
theorem d_243 : decode method_3_code 7 = .ok (.dup, 1) := by decide +kernel
theorem d_244 : decode method_3_code 8 = .ok (.iconst 0, 1) := by decide +kernel
theorem d_245 : decode method_3_code 9 = .ok (.newarray .char, 2) := by decide +kernel
theorem d_246 : decode method_3_code 11 = .ok (.invokespecial 16, 3) := by decide +kernel
theorem d_247 : decode jdk_42_method_149_code 8 = .ok (.aload_n 0, 1) := by decide +kernel
theorem d_248 : decode jdk_42_method_149_code 9 = .ok (.ldc 7, 2) := by decide +kernel
theorem d_249 : decode jdk_42_method_149_code 11 = .ok (.getfield 9, 3) := by decide +kernel
theorem d_250 : decode jdk_42_method_149_code 14 = .ok (.putfield 9, 3) := by decide +kernel
theorem d_251 : decode jdk_42_method_149_code 17 = .ok (.aload_n 0, 1) := by decide +kernel
theorem d_252 : decode jdk_42_method_149_code 18 = .ok (.ldc 7, 2) := by decide +kernel
theorem d_253 : decode jdk_42_method_149_code 20 = .ok (.getfield 15, 3) := by decide +kernel
theorem d_254 : decode jdk_42_method_149_code 23 = .ok (.putfield 15, 3) := by decide +kernel
theorem d_255 : decode jdk_42_method_149_code 26 = .ok (.return_, 1) := by decide +kernel
theorem ef_256 (m : MethodId) (a1 : Addr) (a2 : Addr) : entryFrame m #[(.ref a1), (.ref a2), (.int 0), (.int 0), .null] 6 = mkF m 0 #[rv a1, rv a2, iv 0, iv 0, .val .null, .unset] [] := by first | (simp [entryFrame, mkF, argsToLocals, Value.category]; done) | rfl
def Q26_init (Z : State) (a1 : Addr) (a2 : Addr) (h0 : Heap) (n0 : Nat) (v : Option Value) (h : Heap) (L : List Loc) : Prop := ∃ (b3v : Addr) (kc3 : ClassId), v = none ∧ Fr n0 L ∧ Keep h0 h [a1] ∧ Arv Z h b3v kc3 .byte 0 [] (.int 0) ∧ FA12 Z h a1 (.ref b3v) ∧ FA11 Z h a1 (.int 0)
theorem rm26_init (l : Launch) (Z : State) (a0 : Array Value) (hw : HW Z a0) (a1 : Addr) (a2 : Addr) (h0 : Heap) (n0 : Nat) (O0 : Old Z n0 h0) (F_0 : EA14 Z h0 a1) (F_1 : FA12 Z h0 a1 .null) (lt_2 : a1 < h0.size) (g_3 : n0 ≤ a1) (F_4 : FA11 Z h0 a1 (.int 0)) :
    MetH l Z [] MY8 jdk_42_method_149_code 6 none ({ frames := 1, cells := 4, slots := 8, locals := 12 } : Room) #[(.ref a1), (.ref a2), (.int 0), (.int 0), .null] h0 consts_1 [a1] (Q26_init Z a1 a2 h0 n0) := by
  have W := @own_W _ _ hw
  refine own_mkH (plainFor_of_name pn_52) ?_
  intro p e s m below meth c s₁ hZ hx hby hml hown hnm hret hlk X0 e0 H0 hsf
  have N0 := Fr.nil n0
  have C0 := CHr.refl H0
  have X1 := (show Stand p l e _ (s.setVm s.vm) m _ below meth c _ _ _ _ from X0)
  obtain ⟨T2, X2, e2, st2⟩ := initO X1 hx hZ hown (W 15 rfl) (W 16 rfl) (W 17 rfl) e0 (g := (mkF m 1 #[rv a1, rv a2, iv 0, iv 0, .val .null, .unset] [(.ref a1)])) rfl (by rw [hml]; rfl) rfl (hb hby d_155) (by decide) (W := 0) (by show 2 * 0 + _ ≤ _; exact Nat.le_of_eq rfl) (by decide)
  obtain ⟨b3, T3, h3, k3, b3v, kc3, X3, e3, E3, hS3, hk3, hZ3, hown3, Le3, Lc3, Lv3, La3, Lx3, Lb3, c3, -, Ln3, st3⟩ := ldcCH (s := s) (vm0 := s.vm) (EL := consts_1) X2 hx hZ hown (W 80 rfl) (own_str_236 hw) e2 ((State.WarmedH.refl s).since 0) (Nat.zero_le _) (own_ew_237 hw) (List.mem_of_getElem? (i := 2) rfl) H0 (vs := []) (z := (0 : Int32)) ⟨by decide, by decide⟩ (by decide) rfl (g := (mkF m 9 #[rv a1, rv a2, iv 0, iv 0, .val .null, .unset] [(.ref a1)])) rfl (hb hby d_248) (n := 0) (by decide) (by decide) (by decide) (by decide)
  have C4 := CHr.trans C0 c3
  have O5 := O0.ext E3
  have K6 : Keep h0 h3 [a1] := Keep.ext (Keep.refl h0 [a1]) E3
  obtain ⟨T7, X7, e7, st7⟩ := getF X3 hx hZ3 hown3 (host := "") (Or.inl (W 32 rfl)) Via.refl e3 Lv3 (g := (mkF m 11 #[rv a1, rv a2, iv 0, iv 0, .val .null, .unset] [(.ref b3), (.ref a1)])) rfl rfl (hb hby d_249)
  have f9 := (F_1.ext E3)
  have f10 := (F_0.ext E3)
  obtain ⟨T8, h8, X8, e8, W8, st8⟩ := putF X7 hx hZ3 hown3 (host := "") (Or.inl (W 32 rfl)) Via.refl e7 f9 f10 (Or.inr ⟨(W 33 rfl), rfl, hnm⟩) (W 5 rfl) (ty := (.array .byte)) (by decide) rfl rfl (g := (mkF m 14 #[rv a1, rv a2, iv 0, iv 0, .val .null, .unset] [(.ref b3v), (.ref a1)])) rfl rfl (hb hby d_250)
  have f11 := (CHr.safe c3 lt_2 (hsf _ (List.mem_of_getElem? (i := 0) rfl)))
  have c12 := CHr.wr W8 f11 c3.1
  have C13 := CHr.trans C4 c12
  have O14 := O5.wr W8 g_3
  have K15 : Keep h0 h8 [a1] := Keep.wr K6 W8 (Or.inl (List.mem_of_getElem? (i := 0) rfl))
  have f16 : FA12 Z h8 a1 (.ref b3v) := (f9.same W8)
  have N17 := Fr.snoc X8 N0 g_3
  have z19 : h3.size ≤ h8.size := (Nat.le_of_eq W8.size.symm)
  obtain ⟨b18, T18, h18, k18, b18v, kc18, X18, e18, E18, hS18, hk18, hZ18, hown18, Le18, Lc18, Lv18, La18, Lx18, Lb18, c18, -, Ln18, st18⟩ := ldcCH (s := s) (vm0 := T3.vm) (EL := consts_1) X8 hx hZ3 hown3 (W 80 rfl) (own_str_236 hw) e8 hS3 (Nat.le_trans hk3 z19) (own_ew_237 hw) (List.mem_of_getElem? (i := 2) rfl) c12.1 (vs := []) (z := (0 : Int32)) ⟨by decide, by decide⟩ (by decide) rfl (g := (mkF m 18 #[rv a1, rv a2, iv 0, iv 0, .val .null, .unset] [(.ref a1)])) rfl (hb hby d_252) (n := 0) (by decide) (by decide) (by decide) (by decide)
  have C20 := CHr.trans C13 c18
  have O21 := O14.ext E18
  have K22 : Keep h0 h18 [a1] := Keep.ext K15 E18
  obtain ⟨T23, X23, e23, st23⟩ := getF X18 hx hZ18 hown18 (host := "") (Or.inl (W 30 rfl)) Via.refl e18 Lc18 (g := (mkF m 20 #[rv a1, rv a2, iv 0, iv 0, .val .null, .unset] [(.ref b18), (.ref a1)])) rfl rfl (hb hby d_253)
  have f25 := (((F_4.ext E3).other W8 (Or.inr (slot_ne (Or.inr (W 31 rfl)) (Or.inr (W 33 rfl)) (by decide) (t := .byte) (t' := (.array .byte)) (by decide) (by decide)))).ext E18)
  have f26 := ((f10.wr W8).ext E18)
  obtain ⟨T24, h24, X24, e24, W24, st24⟩ := putFN X23 hx hZ18 hown18 (W 30 rfl) Via.refl e23 f25 f26 (Or.inr ⟨(W 31 rfl), rfl, hnm⟩) (W 5 rfl) (ty := .byte) (v' := (.int 0)) (by decide) rfl rfl (g := (mkF m 23 #[rv a1, rv a2, iv 0, iv 0, .val .null, .unset] [(.int 0), (.ref a1)])) rfl rfl (hb hby d_254)
  have z27 : h0.size ≤ h3.size := E3.1
  have z28 : h0.size ≤ h8.size := (Nat.le_trans z27 (Nat.le_of_eq W8.size.symm))
  have f29 := (CHr.safe c18 (Nat.lt_of_lt_of_le lt_2 z28) (Safe.wr W8 f11 c3.1 f11))
  have c30 := CHr.wr W24 f29 c18.1
  have C31 := CHr.trans C20 c30
  have O32 := O21.wr W24 g_3
  have K33 : Keep h0 h24 [a1] := Keep.wr K22 W24 (Or.inl (List.mem_of_getElem? (i := 0) rfl))
  have f34 : FA11 Z h24 a1 (.int 0) := (f25.same W24)
  have N35 := Fr.snoc X24 N17 g_3
  have z36 : h18.size ≤ h24.size := (Nat.le_of_eq W24.size.symm)
  have f37 := (((La3.other W8 (Ne.symm ((Ln3 a1 f11).2))).ext E18).other W24 (Ne.symm ((Ln3 a1 f11).2)))
  have f38 := ((f16.ext E18).other W24 (Or.inr (slot_ne (Or.inr (W 33 rfl)) (Or.inr (W 31 rfl)) (by decide) (t := (.array .byte)) (t' := .byte) (by decide) (by decide))))
  refine ⟨T24, none, _, _, _, T18.vm, _, X24, hS18, (by rw [e24]; exact (Nat.le_trans hk18 z36)), by decide, by decide, (fun _ => rfl), ?_, own_che e24 (CHr.trans C31 (CHv.at (s := s) X24 hZ18 (own_ew_237 hw) c30.1)), fun fs hr => castTop (ef_256 m a1 a2) ?_⟩
  · show Q26_init Z a1 a2 h0 n0 _ T24.heap _
    rw [e24]
    exact ⟨b3v, kc3, rfl, N35, K33, f37, f38, f34⟩
  · show SS p e below s₁ m 0 #[rv a1, rv a2, iv 0, iv 0, .val .null, .unset] [] _
    refine XS.aloadN X1.here hx rfl (hb hby d_154) rfl rfl ?_
    refine st2 _ ?_
    refine XS.iloadN X2.here hx rfl (hb hby d_156) rfl ?_
    refine XS.ifNo X2.here hx rfl (hb hby d_157) rfl ((if0 _ _).trans (teq (by decide : (0 : Int32) = (0 : Int32))).2) ?_
    refine XS.aloadN X2.here hx rfl (hb hby d_247) rfl rfl ?_
    refine st3 _ ?_
    refine st7 _ ?_
    refine st8 _ ?_
    refine XS.aloadN X8.here hx rfl (hb hby d_251) rfl rfl ?_
    refine st18 _ ?_
    show SS p e below T18 m 20 #[rv a1, rv a2, iv 0, iv 0, .val .null, .unset] [(.ref b18), (.ref a1)] _
    refine st23 _ ?_
    refine st24 _ ?_
    exact X24.returnOut hx hret (hb hby d_255) hr
def Q27_init (Z : State) (a1 : Addr) (a2 : Addr) (k3 : ClassId) (h0 : Heap) (n0 : Nat) (v : Option Value) (h : Heap) (L : List Loc) : Prop := ∃ (b3_0 : Addr) (k3_0 : ClassId), v = none ∧ Fr n0 L ∧ Keep h0 h [a1] ∧ Arv Z h b3_0 k3_0 .byte 0 [] (.int 0) ∧ FA12 Z h a1 (.ref b3_0) ∧ FA11 Z h a1 (.int 0)
theorem rm27_init (l : Launch) (Z : State) (a0 : Array Value) (hw : HW Z a0) (a1 : Addr) (a2 : Addr) (k3 : ClassId) (h0 : Heap) (n0 : Nat) (O0 : Old Z n0 h0) (F_0 : Arv Z h0 a2 k3 .char 0 [] (.int 0)) (F_1 : EA14 Z h0 a1) (F_2 : FA12 Z h0 a1 .null) (F_3 : FA11 Z h0 a1 (.int 0)) (lt_4 : a1 < h0.size) (g_5 : n0 ≤ a1) :
    MetH l Z [] MY9 jdk_42_method_3_code 2 none ({ frames := 2, cells := 4, slots := 8, locals := 29 } : Room) #[(.ref a1), (.ref a2)] h0 consts_1 [a1] (Q27_init Z a1 a2 k3 h0 n0) := by
  have W := @own_W _ _ hw
  refine own_mkH (plainFor_of_name pn_52) ?_
  intro p e s m below meth c s₁ hZ hx hby hml hown hnm hret hlk X0 e0 H0 hsf
  have N0 := Fr.nil n0
  have C0 := CHr.refl H0
  have X1 := (show Stand p l e _ (s.setVm s.vm) m _ below meth c _ _ _ _ from X0)
  obtain ⟨c2, A2, q2, S2, N2, H2, G2⟩ := id F_0
  obtain ⟨_, _, ⟨T3, L3, k3, n3⟩, -, Y3, hs3, hg3, ⟨Lc3, hQ3, l3, y3, z3, c3⟩, st3⟩ := X1.specialBackS hx (y := MY8) rfl hown (mvT hZ (W 11 rfl)) (mvT hZ (W 12 rfl)) (mvT hZ (W 14 rfl)) (by decide) (own_backH (s := s) (vm0 := s.vm) (W := 0) (rm26_init l Z a0 hw a1 a2 h0 n0 O0 (F_1) (F_2) (lt_4) (g_5) (F_3)) hZ (W 14 rfl) (W 6 rfl) (by decide) (by decide) (own_ew_237 hw) H0 (own_sfS (hsf _ (List.mem_of_getElem? (i := 0) rfl)) lt_4 own_sf0)) (g := (mkF m 6 #[rv a1, rv a2] [.null, (.int 0), (.int 0), (.ref a2), (.ref a1)])) rfl (by rw [hml]; rfl) (Steps.refl _) (a := a1) (argsL := [(.ref a2), (.int 0), (.int 0), .null]) (rest := []) (lenOf pd_228 rfl) rfl (by show 2 * 0 + _ ≤ _; exact Nat.le_of_eq rfl) (hb hby d_153) (fun _ _ => ⟨rfl, e0, (by decide : 0 + 4 ≤ _), (by decide : 0 + 8 ≤ _)⟩)
  dsimp only [Pt.U, Pt.locs, Pt.cells, Pt.slots] at Y3 l3 y3 z3 st3 hQ3 hs3 hg3 c3
  subst l3 y3 z3
  obtain ⟨X3, hS3, hZ3, hown3⟩ := rebS (s := s) (vm0 := s.vm) ((State.WarmedH.refl s).since 0) (Nat.zero_le _) Y3 hs3 hg3 hZ hown
  obtain ⟨b3_0, k3_0, rfl, N3q, K3, F3_0, F3_1, F3_2⟩ := hQ3
  have N4 := Fr.app N0 N3q
  have C5 := CHr.trans C0 c3
  have O6 := O0.keep K3 (allS g_5 all0)
  have K7 : Keep h0 T3.heap [a1] := Keep.trans (Keep.refl h0 [a1]) K3 (allS (Or.inl (List.mem_of_getElem? (i := 0) rfl)) all0)
  refine ⟨T3, none, _, _, _, T3.vm, _, X3, hS3, (Nat.le_refl _), by decide, by decide, (fun _ => rfl), ?_, own_che rfl (CHr.trans C5 (CHv.at (s := s) X3 hZ3 (own_ew_237 hw) c3.1)), fun fs hr => castTop (ef_230 m a1 a2) ?_⟩
  · show Q27_init Z a1 a2 k3 h0 n0 _ T3.heap _
    exact ⟨b3_0, k3_0, rfl, N4, K7, F3_0, F3_1, F3_2⟩
  · show SS p e below s₁ m 0 #[rv a1, rv a2] [] _
    refine XS.aloadN X1.here hx rfl (hb hby d_147) rfl rfl ?_
    refine XS.aloadN X1.here hx rfl (hb hby d_148) rfl rfl ?_
    refine XS.iconst X1.here hx rfl (hb hby d_149) ?_
    refine XS.aloadN X1.here hx rfl (hb hby d_150) rfl rfl ?_
    refine X1.arraylength hx (by rw [e0]; exact A2.1) (State.isArrayOf_alike hZ.alike A2.2.1) (g := (mkF m 4 #[rv a1, rv a2] [(.ref a2), (.int 0), (.ref a2), (.ref a1)])) rfl rfl (hb hby d_151) _ ?_
    rw [len_of S2 N2]
    refine XS.aconstNull X1.here hx rfl (hb hby d_152) ?_
    refine st3.trans ?_
    exact X3.returnOut hx hret (hb hby d_229) hr
theorem d_257 : decode method_3_code 14 = .ok (.areturn, 1) := by decide +kernel
theorem ef_258 (m : MethodId) (p1 : Int32) (p2 : Int32) (p3 : Int32) (p4 : Int32) (p5 : Int32) (p6 : Int32) (p7 : Int32) : entryFrame m #[(.int 0), (.int p1), (.int p2), (.int p3), (.int p4), (.int p5), (.int p6), (.int p7)] 8 = mkF m 0 #[iv 0, iv p1, iv p2, iv p3, iv p4, iv p5, iv p6, iv p7] [] := by first | (simp [entryFrame, mkF, argsToLocals, Value.category]; done) | rfl
def Q28_str (Z : State) (p1 : Int32) (p2 : Int32) (p3 : Int32) (p4 : Int32) (p5 : Int32) (p6 : Int32) (p7 : Int32) (h0 : Heap) (n0 : Nat) (v : Option Value) (h : Heap) (L : List Loc) : Prop := ∃ (b2 : Addr) (b13_0 : Addr) (k13_0 : ClassId), v = some (.ref b2) ∧ Fr n0 L ∧ Keep h0 h [] ∧ h0.size ≤ b2 ∧ EA14 Z h b2 ∧ FA11 Z h b2 (.int 0) ∧ FA12 Z h b2 (.ref b13_0) ∧ Arv Z h b13_0 k13_0 .byte 0 [] (.int 0)
theorem rm28_str (l : Launch) (Z : State) (a0 : Array Value) (hw : HW Z a0) (p1 : Int32) (p2 : Int32) (p3 : Int32) (p4 : Int32) (p5 : Int32) (p6 : Int32) (p7 : Int32) (h0 : Heap) (n0 : Nat) (O0 : Old Z n0 h0)  :
    MetH l Z [] MY10 method_3_code 8 (some (.object "java/lang/String")) ({ frames := 3, cells := 6, slots := 12, locals := 43 } : Room) #[(.int 0), (.int p1), (.int p2), (.int p3), (.int p4), (.int p5), (.int p6), (.int p7)] h0 consts_1 [] (Q28_str Z p1 p2 p3 p4 p5 p6 p7 h0 n0) := by
  have W := @own_W _ _ hw
  refine own_mkH (plainFor_of_name pn_234) ?_
  intro p e s m below meth c s₁ hZ hx hby hml hown hnm hret hlk X0 e0 H0 hsf
  have N0 := Fr.nil n0
  have C0 := CHr.refl H0
  have X1 := (show Stand p l e _ (s.setVm s.vm) m _ below meth c _ _ _ _ from X0)
  obtain ⟨T2, h2, X2, e2, E2, A2, D2, -, st2⟩ := newO X1 hx hZ hown (W 4 rfl) (W 5 rfl) (W 6 rfl) e0 (g := (mkF m 4 #[iv 0, iv p1, iv p2, iv p3, iv p4, iv p5, iv p6, iv p7] [])) rfl (hb hby d_242) (by decide) (by decide)
  obtain ⟨b2, g2⟩ : ∃ z, z = h0.size := ⟨_, rfl⟩
  rw [← g2] at A2 D2 st2
  have c3 := CHr.ext E2 H0
  have C4 := CHr.trans C0 c3
  have O5 := O0.ext E2
  have K6 : Keep h0 h2 [] := Keep.ext (Keep.refl h0 []) E2
  obtain ⟨T7, h7, k7, X7, e7, E7, A7, B7, st7⟩ := newPE X2 hx hZ (W 7 rfl) e2 (g := (mkF m 9 #[iv 0, iv p1, iv p2, iv p3, iv p4, iv p5, iv p6, iv p7] [(.int 0), (.ref b2), (.ref b2)])) rfl (hb hby d_245) rfl (by decide) (cap := 0) (by decide) (by decide) (by decide) (by decide) (ad := "[C") rfl
  obtain ⟨b7, g7⟩ : ∃ z, z = h2.size := ⟨_, rfl⟩
  rw [← g7] at A7 B7 st7
  have c8 := CHr.ext E7 c3.1
  have C9 := CHr.trans C4 c8
  have O10 := O5.ext E7
  have K11 : Keep h0 h7 [] := Keep.ext K6 E7
  have v12 : Arv Z h7 b7 k7 .char 0 [] (.int 0) := (Arv.new A7 (by decide)).pad (pad_rep [] (.int 0) 0)
  have f14 := (A2.ext E7)
  have f15 := ((D2 (Or.inr (W 33 rfl)) (ty := (.array .byte)) (by decide) : FA12 Z h2 b2 .null).ext E7)
  have f16 := ((D2 (Or.inr (W 31 rfl)) (ty := .byte) (by decide) : FA11 Z h2 b2 (.int 0)).ext E7)
  have z17 : h2.size ≤ h7.size := E7.1
  have g18 : n0 ≤ b2 := Nat.le_trans (Nat.le_trans (Nat.le_of_eq O0.1.symm) O0.2.1) (Nat.le_of_eq g2.symm)
  have f19 := (Safe.ext E7 c3.1 (Safe.ext E2 H0 (Safe.new (Nat.le_of_eq g2.symm))))
  obtain ⟨_, _, ⟨T13, L13, k13, n13⟩, -, Y13, hs13, hg13, ⟨Lc13, hQ13, l13, y13, z13, c13⟩, st13⟩ := X7.specialBackS hx (y := MY9) rfl hown (mvT hZ (W 8 rfl)) (mvT hZ (W 9 rfl)) (mvT hZ (W 10 rfl)) (by decide) (own_backH (s := s) (vm0 := s.vm) (W := 1) (rm27_init l Z a0 hw b2 b7 k7 h7 n0 O10 (v12) (f14) (f15) (f16) ((Nat.lt_of_lt_of_le A2.lt z17)) (g18)) hZ (W 10 rfl) (W 6 rfl) (by decide) (by decide) (own_ew_237 hw) c8.1 (own_sfS f19 (Nat.lt_of_lt_of_le A2.lt z17) own_sf0)) (g := (mkF m 11 #[iv 0, iv p1, iv p2, iv p3, iv p4, iv p5, iv p6, iv p7] [(.ref b7), (.ref b2), (.ref b2)])) rfl (by rw [hml]; rfl) (Steps.refl _) (a := b2) (argsL := [(.ref b7)]) (rest := [(.ref b2)]) (lenOf pd_231 rfl) rfl (by show 2 * 0 + _ ≤ _; exact Nat.le_of_eq rfl) (hb hby d_246) (fun _ _ => ⟨rfl, e7, (by decide : 2 + 4 ≤ _), (by decide : 4 + 8 ≤ _)⟩)
  dsimp only [Pt.U, Pt.locs, Pt.cells, Pt.slots] at Y13 l13 y13 z13 st13 hQ13 hs13 hg13 c13
  subst l13 y13 z13
  obtain ⟨X13, hS13, hZ13, hown13⟩ := rebS (s := s) (vm0 := s.vm) ((State.WarmedH.refl s).since 0) (Nat.zero_le _) Y13 hs13 hg13 hZ hown
  obtain ⟨b13_0, k13_0, rfl, N13q, K13, F13_0, F13_1, F13_2⟩ := hQ13
  have N20 := Fr.app N0 N13q
  have C21 := CHr.trans C9 c13
  have O22 := O10.keep K13 (allS g18 all0)
  have K23 : Keep h0 T13.heap [] := Keep.trans K11 K13 (allS (Or.inr (Nat.le_of_eq g2.symm)) all0)
  have f24 := (f14.keep K13)
  refine ⟨T13, some (.ref b2), _, _, _, T13.vm, _, X13, hS13, (Nat.le_refl _), by decide, by decide, nofun, ?_, own_che rfl (CHr.trans C21 (CHv.at (s := s) X13 hZ13 (own_ew_237 hw) c13.1)), fun fs hr => castTop (ef_258 m p1 p2 p3 p4 p5 p6 p7) ?_⟩
  · show Q28_str Z p1 p2 p3 p4 p5 p6 p7 h0 n0 _ T13.heap _
    exact ⟨b2, b13_0, k13_0, rfl, N20, K23, (Nat.le_of_eq g2.symm), f24, F13_2, F13_1, F13_0⟩
  · show SS p e below s₁ m 0 #[iv 0, iv p1, iv p2, iv p3, iv p4, iv p5, iv p6, iv p7] [] _
    refine XS.iloadN X1.here hx rfl (hb hby d_98) rfl ?_
    refine XS.ifNo X1.here hx rfl (hb hby d_99) rfl ((if0 _ _).trans (teq (by decide : (0 : Int32) = (0 : Int32))).2) ?_
    refine st2 _ ?_
    refine XS.dup X2.here hx rfl (hb hby d_243) rfl rfl ?_
    refine XS.iconst X2.here hx rfl (hb hby d_244) ?_
    refine st7 _ ?_
    refine st13.trans ?_
    exact retOut X13 hx hret rfl (Or.inr (Or.inr (Or.inr (Or.inr ⟨rfl, rfl, rfl⟩)))) (hb hby d_257) hr
theorem d_259 : decode method_3_code 20 = .ok (.new 14, 3) := by decide +kernel
theorem d_260 : decode method_3_code 23 = .ok (.dup, 1) := by decide +kernel
theorem d_261 : decode method_3_code 24 = .ok (.iconst 1, 1) := by decide +kernel
theorem d_262 : decode method_3_code 25 = .ok (.newarray .char, 2) := by decide +kernel
theorem d_263 : decode method_3_code 27 = .ok (.dup, 1) := by decide +kernel
theorem d_264 : decode method_3_code 28 = .ok (.iconst 0, 1) := by decide +kernel
theorem d_265 : decode method_3_code 29 = .ok (.iload_n 1, 1) := by decide +kernel
theorem d_266 : decode method_3_code 30 = .ok (.castore, 1) := by decide +kernel
theorem d_267 : decode method_3_code 31 = .ok (.invokespecial 16, 3) := by decide +kernel
theorem ef_268 (m : MethodId) (a1 : Addr) (a2 : Addr) : entryFrame m #[(.ref a1), (.int 0), (.ref a2), (.int 0), (.int 1)] 7 = mkF m 0 #[rv a1, iv 0, rv a2, iv 0, iv 1, .unset, .unset] [] := by first | (simp [entryFrame, mkF, argsToLocals, Value.category]; done) | rfl
def Q29_compress (Z : State) (a1 : Addr) (a2 : Addr) (k3 : ClassId) (p4 : Int32) (k5 : ClassId) (p6 : Int32) (h0 : Heap) (n0 : Nat) (v : Option Value) (h : Heap) (L : List Loc) : Prop := v = some (.int 1) ∧ Fr n0 L ∧ Keep h0 h [a2] ∧ Arv Z h a2 k5 .byte 1 [(.int (p4.toInt8.toInt32))] (.int 0)
theorem rm29_compress (l : Launch) (Z : State) (a0 : Array Value) (hw : HW Z a0) (a1 : Addr) (a2 : Addr) (k3 : ClassId) (p4 : Int32) (k5 : ClassId) (p6 : Int32) (h0 : Heap) (n0 : Nat) (O0 : Old Z n0 h0) (F_0 : Arv Z h0 a1 k3 .char 1 [(.int p4)] (.int 0)) (hc_1 : ¬ ((255 : Int32) < p4)) (F_2 : Arv Z h0 a2 k5 .byte 1 [(.int p6)] (.int 0)) (g_3 : n0 ≤ a2) :
    Met l Z [] MY5 jdk_52_method_21_code 7 (some .int) ({ frames := 0, cells := 0, slots := 0, locals := 0 } : Room) #[(.ref a1), (.int 0), (.ref a2), (.int 0), (.int 1)] h0 (Q29_compress Z a1 a2 k3 p4 k5 p6 h0 n0) := by
  have W := @own_W _ _ hw
  refine own_mk (plainFor_of_name pn_197) ?_
  intro p e s m below meth c s₁ hZ hx hby hml hown hnm hret hlk X0 e0
  have N0 := Fr.nil n0
  obtain ⟨c1, A1, q1, S1, N1, H1, G1⟩ := id F_0
  have i2 : NB 0 c1 := inb_of S1 (by decide)
  obtain ⟨c3, A3, q3, S3, N3, H3, G3⟩ := id F_2
  have i4 : NB 0 c3 := inb_of S3 (by decide)
  obtain ⟨T4, h4, X4, e4, W4, st4⟩ := stB X0 hx hZ e0 A3 (j := 0) i4 (g := (mkF m 31 #[rv a1, iv 0, rv a2, iv 0, iv 1, iv 0, iv p4] [(.int (p4.toInt8.toInt32)), (.int 0), (.ref a2)])) rfl rfl (hb hby d_189)
  rw [(own_narB _)] at W4
  have O5 := O0.wr W4 g_3
  have K6 : Keep h0 h4 [a2] := Keep.wr (Keep.refl h0 [a2]) W4 (Or.inl (List.mem_of_getElem? (i := 0) rfl))
  have v7 : Arv Z h4 a2 k5 .byte 1 [(.int (p4.toInt8.toInt32))] (.int 0) := Arv.set A3 q3 S3 N3 H3 G3 (own_fput (by simp) (own_narB _)) W4 0 rfl (Nat.le_of_ble_eq_true rfl)
  have N8 := Fr.snoc X4 N0 g_3
  refine ⟨T4, some (.int 1), _, _, _, X4, by decide, by decide, nofun, ?_, fun fs hr => castTop (ef_268 m a1 a2) ?_⟩
  · show Q29_compress Z a1 a2 k3 p4 k5 p6 h0 n0 _ T4.heap _
    rw [e4]
    exact ⟨rfl, N8, K6, v7⟩
  · show SS p e below s₁ m 0 #[rv a1, iv 0, rv a2, iv 0, iv 1, .unset, .unset] [] _
    refine XS.iconst X0.here hx rfl (hb hby d_173) ?_
    refine XS.istore X0.here hx rfl (hb hby d_174) rfl (l' := #[rv a1, iv 0, rv a2, iv 0, iv 1, iv 0, .unset]) rfl ?_
    refine XS.iload X0.here hx rfl (hb hby d_175) rfl ?_
    refine XS.iload X0.here hx rfl (hb hby d_176) rfl ?_
    refine XS.icmpNo X0.here hx rfl (hb hby d_177) rfl (tlt (by decide : (0 : Int32) < (1 : Int32))).2.1 ?_
    refine XS.aloadN X0.here hx rfl (hb hby d_178) rfl rfl ?_
    refine XS.iloadN X0.here hx rfl (hb hby d_179) rfl ?_
    refine X0.caload hx (j := 0) (v := (.int p4)) (by rw [e0]; exact A1.1) (State.isArrayOf_alike hZ.alike A1.2.1) A1.2.2 i2 (H1.at i2 rfl) (g := (mkF m 12 #[rv a1, iv 0, rv a2, iv 0, iv 1, iv 0, .unset] [(.int 0), (.ref a1)])) rfl rfl (hb hby d_180) _ ?_
    refine XS.istore X0.here hx rfl (hb hby d_181) rfl (l' := #[rv a1, iv 0, rv a2, iv 0, iv 1, iv 0, iv p4]) rfl ?_
    refine XS.iload X0.here hx rfl (hb hby d_182) rfl ?_
    show SS p e below s₁ m 17 #[rv a1, iv 0, rv a2, iv 0, iv 1, iv 0, iv p4] [(.int p4)] _
    refine XS.sipush X0.here hx rfl (hb hby d_183) ?_
    refine XS.icmpYes X0.here hx rfl (pc0 := 20) (pc' := 26) rfl (hb hby d_184) rfl (flt hc_1).2.2.2 (by decide) (by decide) ?_
    refine XS.aloadN X0.here hx rfl (hb hby d_185) rfl rfl ?_
    refine XS.iloadN X0.here hx rfl (hb hby d_186) rfl ?_
    refine XS.iload X0.here hx rfl (hb hby d_187) rfl ?_
    show SS p e below s₁ m 30 #[rv a1, iv 0, rv a2, iv 0, iv 1, iv 0, iv p4] [(.int p4), (.int 0), (.ref a2)] _
    refine XS.i2b X0.here hx rfl (hb hby d_188) rfl ?_
    show SS p e below s₁ m 31 #[rv a1, iv 0, rv a2, iv 0, iv 1, iv 0, iv p4] [(.int (p4.toInt8.toInt32)), (.int 0), (.ref a2)] _
    refine st4 _ ?_
    refine XS.iinc X4.here hx rfl (hb hby d_190) rfl (l' := #[rv a1, iv 1, rv a2, iv 0, iv 1, iv 0, iv p4]) rfl ?_
    show SS p e below T4 m 35 #[rv a1, iv 1, rv a2, iv 0, iv 1, iv 0, iv p4] [] _
    refine XS.iinc X4.here hx rfl (hb hby d_191) rfl (l' := #[rv a1, iv 1, rv a2, iv 1, iv 1, iv 0, iv p4]) rfl ?_
    show SS p e below T4 m 38 #[rv a1, iv 1, rv a2, iv 1, iv 1, iv 0, iv p4] [] _
    refine XS.iinc X4.here hx rfl (hb hby d_192) rfl (l' := #[rv a1, iv 1, rv a2, iv 1, iv 1, iv 1, iv p4]) rfl ?_
    show SS p e below T4 m 41 #[rv a1, iv 1, rv a2, iv 1, iv 1, iv 1, iv p4] [] _
    refine XS.goto X4.here hx rfl (pc0 := 41) (pc' := 3) rfl (hb hby d_193) (by decide) (by decide) ?_
    refine XS.iload X4.here hx rfl (hb hby d_175) rfl ?_
    refine XS.iload X4.here hx rfl (hb hby d_176) rfl ?_
    refine XS.icmpYes X4.here hx rfl (pc0 := 7) (pc' := 44) rfl (hb hby d_177) rfl (flt (by decide : ¬ ((1 : Int32) < (1 : Int32)))).2.1 (by decide) (by decide) ?_
    refine XS.iload X4.here hx rfl (hb hby d_194) rfl ?_
    exact retI X4 hx hret (hb hby d_195) hr
theorem ef_269 (m : MethodId) (a1 : Addr) : entryFrame m #[(.ref a1), (.int 0), (.int 1)] 6 = mkF m 0 #[rv a1, iv 0, iv 1, .unset, .unset, .unset] [] := by first | (simp [entryFrame, mkF, argsToLocals, Value.category]; done) | rfl
def Q30_compress (Z : State) (a1 : Addr) (k2 : ClassId) (p3 : Int32) (h0 : Heap) (n0 : Nat) (v : Option Value) (h : Heap) (L : List Loc) : Prop := ∃ (b1 : Addr) (k1 : ClassId), v = some (.ref b1) ∧ Fr n0 L ∧ Keep h0 h [] ∧ h0.size ≤ b1 ∧ Arv Z h b1 k1 .byte 1 [(.int (p3.toInt8.toInt32))] (.int 0) ∧ EA16 Z h b1
theorem rm30_compress (l : Launch) (Z : State) (a0 : Array Value) (hw : HW Z a0) (a1 : Addr) (k2 : ClassId) (p3 : Int32) (h0 : Heap) (n0 : Nat) (O0 : Old Z n0 h0) (F_0 : Arv Z h0 a1 k2 .char 1 [(.int p3)] (.int 0)) (hc_1 : ¬ ((255 : Int32) < p3)) :
    Met l Z [] MY6 jdk_52_method_16_code 6 (some (.array .byte)) ({ frames := 1, cells := 1, slots := 1, locals := 18 } : Room) #[(.ref a1), (.int 0), (.int 1)] h0 (Q30_compress Z a1 k2 p3 h0 n0) := by
  have W := @own_W _ _ hw
  refine own_mk (plainFor_of_name pn_197) ?_
  intro p e s m below meth c s₁ hZ hx hby hml hown hnm hret hlk X0 e0
  have N0 := Fr.nil n0
  obtain ⟨T1, h1, k1, X1, e1, E1, A1, B1, st1⟩ := newPE X0 hx hZ (W 23 rfl) e0 (g := (mkF m 1 #[rv a1, iv 0, iv 1, .unset, .unset, .unset] [(.int 1)])) rfl (hb hby d_165) rfl (by decide) (cap := 1) (by decide) (by decide) (by decide) (by decide) (ad := "[B") rfl
  obtain ⟨b1, g1⟩ : ∃ z, z = h0.size := ⟨_, rfl⟩
  rw [← g1] at A1 B1 st1
  have O2 := O0.ext E1
  have K3 : Keep h0 h1 [] := Keep.ext (Keep.refl h0 []) E1
  have v4 : Arv Z h1 b1 k1 .byte 1 [(.int 0)] (.int 0) := (Arv.new A1 (by decide)).pad (pad_rep [] (.int 0) 1)
  have f6 := (F_0.ext E1)
  have g7 : n0 ≤ b1 := Nat.le_trans (Nat.le_trans (Nat.le_of_eq O0.1.symm) O0.2.1) (Nat.le_of_eq g1.symm)
  obtain ⟨_, T5, L5, X5, hQ5, st5⟩ := own_cs X1 hx hZ hown hml (W 24 rfl) (W 25 rfl) (W 21 rfl) (W 26 rfl) (rm29_compress l Z a0 hw a1 b1 k2 p3 k1 (0 : Int32) h1 n0 O2 (f6) (hc_1) (v4) (g7)) e1 (hb hby d_172) 0 #[rv a1, iv 0, iv 1, rv b1, .unset, .unset] [(.ref a1), (.int 0), (.ref b1), (.int 0), (.int 1)] [] pd_198
  obtain ⟨rfl, N5q, K5, F5_0⟩ := hQ5
  have N8 := Fr.app N0 N5q
  have O9 := O2.keep K5 (allS g7 all0)
  have K10 : Keep h0 T5.heap [] := Keep.trans K3 K5 (allS (Or.inr (Nat.le_of_eq g1.symm)) all0)
  have f11 := (B1.keep K5)
  refine ⟨T5, some (.ref b1), _, _, _, X5, by decide, by decide, nofun, ?_, fun fs hr => castTop (ef_269 m a1) ?_⟩
  · show Q30_compress Z a1 k2 p3 h0 n0 _ T5.heap _
    exact ⟨b1, k1, rfl, N8, K10, (Nat.le_of_eq g1.symm), F5_0, f11⟩
  · show SS p e below s₁ m 0 #[rv a1, iv 0, iv 1, .unset, .unset, .unset] [] _
    refine XS.iloadN X0.here hx rfl (hb hby d_164) rfl ?_
    refine st1 _ ?_
    refine XS.astoreN X1.here hx rfl (hb hby d_166) rfl rfl (l' := #[rv a1, iv 0, iv 1, rv b1, .unset, .unset]) rfl ?_
    refine XS.aloadN X1.here hx rfl (hb hby d_167) rfl rfl ?_
    refine XS.iloadN X1.here hx rfl (hb hby d_168) rfl ?_
    refine XS.aloadN X1.here hx rfl (hb hby d_169) rfl rfl ?_
    refine XS.iconst X1.here hx rfl (hb hby d_170) ?_
    refine XS.iloadN X1.here hx rfl (hb hby d_171) rfl ?_
    refine st5 _ ?_
    refine XS.istore X5.here hx rfl (hb hby d_199) rfl (l' := #[rv a1, iv 0, iv 1, rv b1, iv 1, .unset]) rfl ?_
    show SS p e below T5 m 14 #[rv a1, iv 0, iv 1, rv b1, iv 1, .unset] [] _
    refine XS.iload X5.here hx rfl (hb hby d_200) rfl ?_
    refine XS.iloadN X5.here hx rfl (hb hby d_201) rfl ?_
    refine XS.icmpYes X5.here hx rfl (pc0 := 17) (pc' := 57) rfl (hb hby d_202) rfl (teq (by decide : (1 : Int32) = (1 : Int32))).1 (by decide) (by decide) ?_
    refine XS.aloadN X5.here hx rfl (hb hby d_203) rfl rfl ?_
    exact retOut X5 hx hret rfl (Or.inr (Or.inr (Or.inr (Or.inr ⟨rfl, rfl, rfl⟩)))) (hb hby d_204) hr
theorem ef_270 (m : MethodId) (a1 : Addr) : entryFrame m #[(.ref a1), (.int 1)] 2 = mkF m 0 #[rv a1, iv 1] [] := by first | (simp [entryFrame, mkF, argsToLocals, Value.category]; done) | rfl
def Q31_coderFromArrayLen (Z : State) (a1 : Addr) (k2 : ClassId) (p3 : Int32) (h0 : Heap) (n0 : Nat) (v : Option Value) (h : Heap) (L : List Loc) : Prop := v = some (.int 0) ∧ Fr n0 L ∧ h = h0
theorem rm31_coderFromArrayLen (l : Launch) (Z : State) (a0 : Array Value) (hw : HW Z a0) (a1 : Addr) (k2 : ClassId) (p3 : Int32) (h0 : Heap) (n0 : Nat) (O0 : Old Z n0 h0) (F_0 : Arv Z h0 a1 k2 .byte 1 [(.int p3)] (.int 0)) :
    Met l Z [] MY7 jdk_52_method_15_code 2 (some .byte) ({ frames := 0, cells := 0, slots := 0, locals := 0 } : Room) #[(.ref a1), (.int 1)] h0 (Q31_coderFromArrayLen Z a1 k2 p3 h0 n0) := by
  have W := @own_W _ _ hw
  refine own_mk (plainFor_of_name pn_197) ?_
  intro p e s m below meth c s₁ hZ hx hby hml hown hnm hret hlk X0 e0
  have N0 := Fr.nil n0
  obtain ⟨c1, A1, q1, S1, N1, H1, G1⟩ := id F_0
  refine ⟨s₁, some (.int 0), _, _, _, X0, by decide, by decide, nofun, ?_, fun fs hr => castTop (ef_270 m a1) ?_⟩
  · show Q31_coderFromArrayLen Z a1 k2 p3 h0 n0 _ s₁.heap _
    rw [e0]
    exact ⟨rfl, N0, rfl⟩
  · show SS p e below s₁ m 0 #[rv a1, iv 1] [] _
    refine XS.iloadN X0.here hx rfl (hb hby d_212) rfl ?_
    refine XS.aloadN X0.here hx rfl (hb hby d_213) rfl rfl ?_
    refine X0.arraylength hx (by rw [e0]; exact A1.1) (State.isArrayOf_alike hZ.alike A1.2.1) (g := (mkF m 2 #[rv a1, iv 1] [(.ref a1), (.int 1)])) rfl rfl (hb hby d_214) _ ?_
    rw [len_of S1 N1]
    refine XS.isub X0.here hx rfl (hb hby d_215) rfl ?_
    show SS p e below s₁ m 4 #[rv a1, iv 1] [(.int 0)] _
    refine XS.bipush X0.here hx rfl (hb hby d_216) ?_
    refine XS.iushr X0.here hx rfl (hb hby d_217) rfl ?_
    show SS p e below s₁ m 7 #[rv a1, iv 1] [(.int 0)] _
    refine XS.i2b X0.here hx rfl (hb hby d_218) rfl ?_
    show SS p e below s₁ m 8 #[rv a1, iv 1] [(.int 0)] _
    exact retN X0 hx (t := .byte) hret (by simp) (hb hby d_219) hr
theorem ef_271 (m : MethodId) (a1 : Addr) (a2 : Addr) : entryFrame m #[(.ref a1), (.ref a2), (.int 0), (.int 1), .null] 6 = mkF m 0 #[rv a1, rv a2, iv 0, iv 1, .val .null, .unset] [] := by first | (simp [entryFrame, mkF, argsToLocals, Value.category]; done) | rfl
def Q32_init (Z : State) (a1 : Addr) (a2 : Addr) (p3 : Int32) (k4 : ClassId) (p5 : Int32) (h0 : Heap) (n0 : Nat) (v : Option Value) (h : Heap) (L : List Loc) : Prop := ∃ (b3_0 : Addr) (k3_0 : ClassId), v = none ∧ Fr n0 L ∧ Keep h0 h [a1] ∧ h0.size ≤ b3_0 ∧ Arv Z h b3_0 k3_0 .byte 1 [(.int (p5.toInt8.toInt32))] (.int 0) ∧ EA16 Z h b3_0 ∧ FA11 Z h a1 (.int 0) ∧ FA12 Z h a1 (.ref b3_0)
theorem rm32_init (l : Launch) (Z : State) (a0 : Array Value) (hw : HW Z a0) (a1 : Addr) (a2 : Addr) (p3 : Int32) (k4 : ClassId) (p5 : Int32) (h0 : Heap) (n0 : Nat) (O0 : Old Z n0 h0) (S_0 : SA18 Z Z.heap (.int p3)) (hc_1 : ¬ (p3 = (0 : Int32))) (F_2 : Arv Z h0 a2 k4 .char 1 [(.int p5)] (.int 0)) (hc_3 : ¬ ((255 : Int32) < p5)) (F_4 : EA14 Z h0 a1) (F_5 : FA11 Z h0 a1 (.int 0)) (g_6 : n0 ≤ a1) (F_7 : FA12 Z h0 a1 .null) (lt_8 : a1 < h0.size) :
    Met l Z [] MY8 jdk_42_method_149_code 6 none ({ frames := 2, cells := 1, slots := 1, locals := 35 } : Room) #[(.ref a1), (.ref a2), (.int 0), (.int 1), .null] h0 (Q32_init Z a1 a2 p3 k4 p5 h0 n0) := by
  have W := @own_W _ _ hw
  refine own_mk (plainFor_of_name pn_52) ?_
  intro p e s m below meth c s₁ hZ hx hby hml hown hnm hret hlk X0 e0
  have N0 := Fr.nil n0
  obtain ⟨T1, X1, e1, st1⟩ := initO X0 hx hZ hown (W 15 rfl) (W 16 rfl) (W 17 rfl) e0 (g := (mkF m 1 #[rv a1, rv a2, iv 0, iv 1, .val .null, .unset] [(.ref a1)])) rfl (by rw [hml]; rfl) rfl (hb hby d_155) (by decide) (W := 0) (by show 2 * 0 + _ ≤ _; exact Nat.le_of_eq rfl) (by decide)
  obtain ⟨T2, X2, e2, st2⟩ := getS2 X1 hx hZ hown (host := "") (Or.inl (W 18 rfl)) Via.refl e1 (S_0.ext O0.2) (g := (mkF m 27 #[rv a1, rv a2, iv 0, iv 1, .val .null, .unset] [])) rfl (hb hby d_158)
  obtain ⟨_, T3, L3, X3, hQ3, st3⟩ := own_cs X2 hx hZ hown hml (W 19 rfl) (W 20 rfl) (W 21 rfl) (W 22 rfl) (rm30_compress l Z a0 hw a2 k4 p5 h0 n0 O0 (F_2) (hc_3)) e2 (hb hby d_163) 0 #[rv a1, rv a2, iv 0, iv 1, .val .null, .unset] [(.ref a2), (.int 0), (.int 1)] [] pd_206
  obtain ⟨b3_0, k3_0, rfl, N3q, K3, gb3_0, F3_0, F3_1⟩ := hQ3
  have N4 := Fr.app N0 N3q
  have O5 := O0.keep K3 all0
  have K6 : Keep h0 T3.heap [a1] := Keep.trans (Keep.refl h0 [a1]) K3 all0
  obtain ⟨_, T7, L7, X7, hQ7, st7⟩ := own_cs X3 hx hZ hown hml (W 27 rfl) (W 28 rfl) (W 21 rfl) (W 29 rfl) (rm31_coderFromArrayLen l Z a0 hw b3_0 k3_0 (p5.toInt8.toInt32) T3.heap n0 O5 (F3_0)) rfl (hb hby d_211) 1 #[rv a1, rv a2, iv 0, iv 1, .val .null, rv b3_0] [(.ref b3_0), (.int 1)] [(.ref a1)] pd_221
  obtain ⟨rfl, N7q, K7⟩ := hQ7
  have N8 := Fr.app N4 N7q
  have f10 := (F_5.keep K3 nin0)
  have f11 := (F_4.keep K3)
  obtain ⟨T9, h9, X9, e9, W9, st9⟩ := putFN X7 hx hZ hown (W 30 rfl) Via.refl K7 f10 f11 (Or.inr ⟨(W 31 rfl), rfl, hnm⟩) (W 5 rfl) (ty := .byte) (v' := (.int 0)) (by decide) rfl rfl (g := (mkF m 48 #[rv a1, rv a2, iv 0, iv 1, .val .null, rv b3_0] [(.int 0), (.ref a1)])) rfl rfl (hb hby d_222)
  have O12 := O5.wr W9 g_6
  have K13 : Keep h0 h9 [a1] := Keep.wr K6 W9 (Or.inl (List.mem_of_getElem? (i := 0) rfl))
  have f14 : FA11 Z h9 a1 (.int 0) := (f10.same W9)
  have N15 := Fr.snoc X9 N8 g_6
  have f17 := ((F_7.keep K3 nin0).other W9 (Or.inr (slot_ne (Or.inr (W 33 rfl)) (Or.inr (W 31 rfl)) (by decide) (t := (.array .byte)) (t' := .byte) (by decide) (by decide))))
  have f18 := (f11.wr W9)
  obtain ⟨T16, h16, X16, e16, W16, st16⟩ := putF X9 hx hZ hown (host := "") (Or.inl (W 32 rfl)) Via.refl e9 f17 f18 (Or.inr ⟨(W 33 rfl), rfl, hnm⟩) (W 5 rfl) (ty := (.array .byte)) (by decide) rfl rfl (g := (mkF m 54 #[rv a1, rv a2, iv 0, iv 1, .val .null, rv b3_0] [(.ref b3_0), (.ref a1)])) rfl rfl (hb hby d_225)
  have O19 := O12.wr W16 g_6
  have K20 : Keep h0 h16 [a1] := Keep.wr K13 W16 (Or.inl (List.mem_of_getElem? (i := 0) rfl))
  have f21 : FA12 Z h16 a1 (.ref b3_0) := (f17.same W16)
  have N22 := Fr.snoc X16 N15 g_6
  have f23 := ((F3_0.other W9 (Ne.symm (Nat.ne_of_lt (Nat.lt_of_lt_of_le lt_8 gb3_0)))).other W16 (Ne.symm (Nat.ne_of_lt (Nat.lt_of_lt_of_le lt_8 gb3_0))))
  have f24 := ((F3_1.wr W9).wr W16)
  have f25 := (f14.other W16 (Or.inr (slot_ne (Or.inr (W 31 rfl)) (Or.inr (W 33 rfl)) (by decide) (t := .byte) (t' := (.array .byte)) (by decide) (by decide))))
  refine ⟨T16, none, _, _, _, X16, by decide, by decide, (fun _ => rfl), ?_, fun fs hr => castTop (ef_271 m a1 a2) ?_⟩
  · show Q32_init Z a1 a2 p3 k4 p5 h0 n0 _ T16.heap _
    rw [e16]
    exact ⟨b3_0, k3_0, rfl, N22, K20, gb3_0, f23, f24, f25, f21⟩
  · show SS p e below s₁ m 0 #[rv a1, rv a2, iv 0, iv 1, .val .null, .unset] [] _
    refine XS.aloadN X0.here hx rfl (hb hby d_154) rfl rfl ?_
    refine st1 _ ?_
    refine XS.iloadN X1.here hx rfl (hb hby d_156) rfl ?_
    refine XS.ifYes X1.here hx rfl (pc0 := 5) (pc' := 27) rfl (hb hby d_157) rfl ((if0 _ _).trans (feq (by decide : ¬ ((1 : Int32) = (0 : Int32)))).2) (by decide) (by decide) ?_
    refine st2 _ ?_
    refine XS.ifNo X2.here hx rfl (hb hby d_159) rfl ((if0 _ _).trans (feq hc_1).1) ?_
    refine XS.aloadN X2.here hx rfl (hb hby d_160) rfl rfl ?_
    refine XS.iloadN X2.here hx rfl (hb hby d_161) rfl ?_
    refine XS.iloadN X2.here hx rfl (hb hby d_162) rfl ?_
    refine st3 _ ?_
    show SS p e below T3 m 39 #[rv a1, rv a2, iv 0, iv 1, .val .null, .unset] [(.ref b3_0)] _
    refine XS.astore X3.here hx rfl (hb hby d_207) rfl rfl (l' := #[rv a1, rv a2, iv 0, iv 1, .val .null, rv b3_0]) rfl ?_
    refine XS.aloadN X3.here hx rfl (hb hby d_208) rfl rfl ?_
    refine XS.aload X3.here hx rfl (hb hby d_209) rfl rfl ?_
    refine XS.iloadN X3.here hx rfl (hb hby d_210) rfl ?_
    refine st7 _ ?_
    refine st9 _ ?_
    refine XS.aloadN X9.here hx rfl (hb hby d_223) rfl rfl ?_
    refine XS.aload X9.here hx rfl (hb hby d_224) rfl rfl ?_
    refine st16 _ ?_
    exact X16.returnOut hx hret (hb hby d_226) hr
def Q33_init (Z : State) (a1 : Addr) (a2 : Addr) (k3 : ClassId) (p4 : Int32) (p5 : Int32) (h0 : Heap) (n0 : Nat) (v : Option Value) (h : Heap) (L : List Loc) : Prop := ∃ (b2_0 : Addr) (k2_0 : ClassId), v = none ∧ Fr n0 L ∧ Keep h0 h [a1] ∧ h0.size ≤ b2_0 ∧ Arv Z h b2_0 k2_0 .byte 1 [(.int (p4.toInt8.toInt32))] (.int 0) ∧ EA16 Z h b2_0 ∧ FA11 Z h a1 (.int 0) ∧ FA12 Z h a1 (.ref b2_0)
theorem rm33_init (l : Launch) (Z : State) (a0 : Array Value) (hw : HW Z a0) (a1 : Addr) (a2 : Addr) (k3 : ClassId) (p4 : Int32) (p5 : Int32) (h0 : Heap) (n0 : Nat) (O0 : Old Z n0 h0) (F_0 : Arv Z h0 a2 k3 .char 1 [(.int p4)] (.int 0)) (S_1 : SA18 Z Z.heap (.int p5)) (hc_2 : ¬ (p5 = (0 : Int32))) (hc_3 : ¬ ((255 : Int32) < p4)) (F_4 : EA14 Z h0 a1) (F_5 : FA11 Z h0 a1 (.int 0)) (F_6 : FA12 Z h0 a1 .null) (g_7 : n0 ≤ a1) (lt_8 : a1 < h0.size) :
    Met l Z [] MY9 jdk_42_method_3_code 2 none ({ frames := 3, cells := 1, slots := 1, locals := 52 } : Room) #[(.ref a1), (.ref a2)] h0 (Q33_init Z a1 a2 k3 p4 p5 h0 n0) := by
  have W := @own_W _ _ hw
  refine own_mk (plainFor_of_name pn_52) ?_
  intro p e s m below meth c s₁ hZ hx hby hml hown hnm hret hlk X0 e0
  have N0 := Fr.nil n0
  obtain ⟨c1, A1, q1, S1, N1, H1, G1⟩ := id F_0
  obtain ⟨_, T2, L2, X2, hQ2, st2⟩ := own_cp X0 hx hZ hown hml rfl (W 11 rfl) (W 12 rfl) (W 6 rfl) (W 14 rfl) (rm32_init l Z a0 hw a1 a2 p5 k3 p4 h0 n0 O0 (S_1) (hc_2) (F_0) (hc_3) (F_4) (F_5) (g_7) (F_6) (lt_8)) e0 (hb hby d_153) 0 #[rv a1, rv a2] a1 [(.ref a2), (.int 0), (.int 1), .null] [] pd_228
  obtain ⟨b2_0, k2_0, rfl, N2q, K2, gb2_0, F2_0, F2_1, F2_2, F2_3⟩ := hQ2
  have N3 := Fr.app N0 N2q
  have O4 := O0.keep K2 (allS g_7 all0)
  have K5 : Keep h0 T2.heap [a1] := Keep.trans (Keep.refl h0 [a1]) K2 (allS (Or.inl (List.mem_of_getElem? (i := 0) rfl)) all0)
  refine ⟨T2, none, _, _, _, X2, by decide, by decide, (fun _ => rfl), ?_, fun fs hr => castTop (ef_230 m a1 a2) ?_⟩
  · show Q33_init Z a1 a2 k3 p4 p5 h0 n0 _ T2.heap _
    exact ⟨b2_0, k2_0, rfl, N3, K5, gb2_0, F2_0, F2_1, F2_2, F2_3⟩
  · show SS p e below s₁ m 0 #[rv a1, rv a2] [] _
    refine XS.aloadN X0.here hx rfl (hb hby d_147) rfl rfl ?_
    refine XS.aloadN X0.here hx rfl (hb hby d_148) rfl rfl ?_
    refine XS.iconst X0.here hx rfl (hb hby d_149) ?_
    refine XS.aloadN X0.here hx rfl (hb hby d_150) rfl rfl ?_
    refine X0.arraylength hx (by rw [e0]; exact A1.1) (State.isArrayOf_alike hZ.alike A1.2.1) (g := (mkF m 4 #[rv a1, rv a2] [(.ref a2), (.int 0), (.ref a2), (.ref a1)])) rfl rfl (hb hby d_151) _ ?_
    rw [len_of S1 N1]
    refine XS.aconstNull X0.here hx rfl (hb hby d_152) ?_
    refine st2 _ ?_
    exact X2.returnOut hx hret (hb hby d_229) hr
theorem d_272 : decode method_3_code 34 = .ok (.areturn, 1) := by decide +kernel
theorem ef_273 (m : MethodId) (p1 : Int32) (p2 : Int32) (p3 : Int32) (p4 : Int32) (p5 : Int32) (p6 : Int32) (p7 : Int32) : entryFrame m #[(.int 1), (.int p1), (.int p2), (.int p3), (.int p4), (.int p5), (.int p6), (.int p7)] 8 = mkF m 0 #[iv 1, iv p1, iv p2, iv p3, iv p4, iv p5, iv p6, iv p7] [] := by first | (simp [entryFrame, mkF, argsToLocals, Value.category]; done) | rfl
def Q34_str (Z : State) (p1 : Int32) (p2 : Int32) (p3 : Int32) (p4 : Int32) (p5 : Int32) (p6 : Int32) (p7 : Int32) (p8 : Int32) (h0 : Heap) (n0 : Nat) (v : Option Value) (h : Heap) (L : List Loc) : Prop := ∃ (b1 : Addr) (b16_0 : Addr) (k16_0 : ClassId), v = some (.ref b1) ∧ Fr n0 L ∧ Keep h0 h [] ∧ h0.size ≤ b1 ∧ h0.size ≤ b16_0 ∧ EA14 Z h b1 ∧ FA11 Z h b1 (.int 0) ∧ FA12 Z h b1 (.ref b16_0) ∧ Arv Z h b16_0 k16_0 .byte 1 [(.int (p1.toInt8.toInt32))] (.int 0) ∧ EA16 Z h b16_0
theorem rm34_str (l : Launch) (Z : State) (a0 : Array Value) (hw : HW Z a0) (p1 : Int32) (p2 : Int32) (p3 : Int32) (p4 : Int32) (p5 : Int32) (p6 : Int32) (p7 : Int32) (p8 : Int32) (h0 : Heap) (n0 : Nat) (O0 : Old Z n0 h0) (nr_0 : nar .char p1 = p1) (S_1 : SA18 Z Z.heap (.int p8)) (hc_2 : ¬ (p8 = (0 : Int32))) (hc_3 : ¬ ((255 : Int32) < p1)) :
    Met l Z [] MY10 method_3_code 8 (some (.object "java/lang/String")) ({ frames := 4, cells := 3, slots := 6, locals := 66 } : Room) #[(.int 1), (.int p1), (.int p2), (.int p3), (.int p4), (.int p5), (.int p6), (.int p7)] h0 (Q34_str Z p1 p2 p3 p4 p5 p6 p7 p8 h0 n0) := by
  have W := @own_W _ _ hw
  refine own_mk (plainFor_of_name pn_234) ?_
  intro p e s m below meth c s₁ hZ hx hby hml hown hnm hret hlk X0 e0
  have N0 := Fr.nil n0
  obtain ⟨T1, h1, X1, e1, E1, A1, D1, -, st1⟩ := newO X0 hx hZ hown (W 4 rfl) (W 5 rfl) (W 6 rfl) e0 (g := (mkF m 20 #[iv 1, iv p1, iv p2, iv p3, iv p4, iv p5, iv p6, iv p7] [])) rfl (hb hby d_259) (by decide) (by decide)
  obtain ⟨b1, g1⟩ : ∃ z, z = h0.size := ⟨_, rfl⟩
  rw [← g1] at A1 D1 st1
  have O2 := O0.ext E1
  have K3 : Keep h0 h1 [] := Keep.ext (Keep.refl h0 []) E1
  obtain ⟨T4, h4, k4, X4, e4, E4, A4, B4, st4⟩ := newPE X1 hx hZ (W 7 rfl) e1 (g := (mkF m 25 #[iv 1, iv p1, iv p2, iv p3, iv p4, iv p5, iv p6, iv p7] [(.int 1), (.ref b1), (.ref b1)])) rfl (hb hby d_262) rfl (by decide) (cap := 1) (by decide) (by decide) (by decide) (by decide) (ad := "[C") rfl
  obtain ⟨b4, g4⟩ : ∃ z, z = h1.size := ⟨_, rfl⟩
  rw [← g4] at A4 B4 st4
  have O5 := O2.ext E4
  have K6 : Keep h0 h4 [] := Keep.ext K3 E4
  have v7 : Arv Z h4 b4 k4 .char 1 [(.int 0)] (.int 0) := (Arv.new A4 (by decide)).pad (pad_rep [] (.int 0) 1)
  obtain ⟨c8, A8, q8, S8, N8, H8, G8⟩ := id v7
  have i9 : NB 0 c8 := inb_of S8 (by decide)
  obtain ⟨T9, h9, X9, e9, W9, st9⟩ := stC X4 hx hZ e4 A8 (j := 0) i9 (g := (mkF m 30 #[iv 1, iv p1, iv p2, iv p3, iv p4, iv p5, iv p6, iv p7] [(.int p1), (.int 0), (.ref b4), (.ref b4), (.ref b1), (.ref b1)])) rfl rfl (hb hby d_266)
  rw [nr_0] at W9
  have z10 : h0.size ≤ h1.size := E1.1
  have g11 : n0 ≤ b4 := Nat.le_trans (Nat.le_trans (Nat.le_trans (Nat.le_of_eq O0.1.symm) O0.2.1) z10) (Nat.le_of_eq g4.symm)
  have O12 := O5.wr W9 g11
  have K13 : Keep h0 h9 [] := Keep.wr K6 W9 (Or.inr (Nat.le_trans z10 (Nat.le_of_eq g4.symm)))
  have v14 : Arv Z h9 b4 k4 .char 1 [(.int p1)] (.int 0) := Arv.set A8 q8 S8 N8 H8 G8 (own_fput (by simp) nr_0) W9 0 rfl (Nat.le_of_ble_eq_true rfl)
  have N15 := Fr.snoc X9 N0 g11
  have f17 := ((A1.ext E4).wr W9)
  have f18 := (((D1 (Or.inr (W 31 rfl)) (ty := .byte) (by decide) : FA11 Z h1 b1 (.int 0)).ext E4).other W9 (Or.inl (Nat.ne_of_lt (Nat.lt_of_lt_of_le A1.lt (Nat.le_of_eq g4.symm)))))
  have f19 := (((D1 (Or.inr (W 33 rfl)) (ty := (.array .byte)) (by decide) : FA12 Z h1 b1 .null).ext E4).other W9 (Or.inl (Nat.ne_of_lt (Nat.lt_of_lt_of_le A1.lt (Nat.le_of_eq g4.symm)))))
  have g20 : n0 ≤ b1 := Nat.le_trans (Nat.le_trans (Nat.le_of_eq O0.1.symm) O0.2.1) (Nat.le_of_eq g1.symm)
  have z21 : h1.size ≤ h4.size := E4.1
  have z22 : h1.size ≤ h9.size := (Nat.le_trans z21 (Nat.le_of_eq W9.size.symm))
  obtain ⟨_, T16, L16, X16, hQ16, st16⟩ := own_cp X9 hx hZ hown hml rfl (W 8 rfl) (W 9 rfl) (W 6 rfl) (W 10 rfl) (rm33_init l Z a0 hw b1 b4 k4 p1 p8 h9 n0 O12 (v14) (S_1) (hc_2) (hc_3) (f17) (f18) (f19) (g20) ((Nat.lt_of_lt_of_le A1.lt z22))) e9 (hb hby d_267) 1 #[iv 1, iv p1, iv p2, iv p3, iv p4, iv p5, iv p6, iv p7] b1 [(.ref b4)] [(.ref b1)] pd_231
  obtain ⟨b16_0, k16_0, rfl, N16q, K16, gb16_0, F16_0, F16_1, F16_2, F16_3⟩ := hQ16
  have N23 := Fr.app N15 N16q
  have O24 := O12.keep K16 (allS g20 all0)
  have K25 : Keep h0 T16.heap [] := Keep.trans K13 K16 (allS (Or.inr (Nat.le_of_eq g1.symm)) all0)
  have f26 := (f17.keep K16)
  have z27 : h0.size ≤ h4.size := (Nat.le_trans z10 E4.1)
  have z28 : h0.size ≤ h9.size := (Nat.le_trans z27 (Nat.le_of_eq W9.size.symm))
  refine ⟨T16, some (.ref b1), _, _, _, X16, by decide, by decide, nofun, ?_, fun fs hr => castTop (ef_273 m p1 p2 p3 p4 p5 p6 p7) ?_⟩
  · show Q34_str Z p1 p2 p3 p4 p5 p6 p7 p8 h0 n0 _ T16.heap _
    exact ⟨b1, b16_0, k16_0, rfl, N23, K25, (Nat.le_of_eq g1.symm), (Nat.le_trans z28 gb16_0), f26, F16_2, F16_3, F16_0, F16_1⟩
  · show SS p e below s₁ m 0 #[iv 1, iv p1, iv p2, iv p3, iv p4, iv p5, iv p6, iv p7] [] _
    refine XS.iloadN X0.here hx rfl (hb hby d_98) rfl ?_
    refine XS.ifYes X0.here hx rfl (pc0 := 1) (pc' := 15) rfl (hb hby d_99) rfl ((if0 _ _).trans (feq (by decide : ¬ ((1 : Int32) = (0 : Int32)))).2) (by decide) (by decide) ?_
    refine XS.iloadN X0.here hx rfl (hb hby d_100) rfl ?_
    refine XS.iconst X0.here hx rfl (hb hby d_101) ?_
    refine XS.icmpNo X0.here hx rfl (hb hby d_102) rfl (teq (by decide : (1 : Int32) = (1 : Int32))).2 ?_
    refine st1 _ ?_
    refine XS.dup X1.here hx rfl (hb hby d_260) rfl rfl ?_
    refine XS.iconst X1.here hx rfl (hb hby d_261) ?_
    refine st4 _ ?_
    refine XS.dup X4.here hx rfl (hb hby d_263) rfl rfl ?_
    show SS p e below T4 m 28 #[iv 1, iv p1, iv p2, iv p3, iv p4, iv p5, iv p6, iv p7] [(.ref b4), (.ref b4), (.ref b1), (.ref b1)] _
    refine XS.iconst X4.here hx rfl (hb hby d_264) ?_
    refine XS.iloadN X4.here hx rfl (hb hby d_265) rfl ?_
    refine st9 _ ?_
    refine st16 _ ?_
    exact retOut X16 hx hret rfl (Or.inr (Or.inr (Or.inr (Or.inr ⟨rfl, rfl, rfl⟩)))) (hb hby d_272) hr
theorem d_274 : decode method_3_code 40 = .ok (.new 14, 3) := by decide +kernel
theorem d_275 : decode method_3_code 43 = .ok (.dup, 1) := by decide +kernel
theorem d_276 : decode method_3_code 44 = .ok (.iconst 2, 1) := by decide +kernel
theorem d_277 : decode method_3_code 45 = .ok (.newarray .char, 2) := by decide +kernel
theorem d_278 : decode method_3_code 47 = .ok (.dup, 1) := by decide +kernel
theorem d_279 : decode method_3_code 48 = .ok (.iconst 0, 1) := by decide +kernel
theorem d_280 : decode method_3_code 49 = .ok (.iload_n 1, 1) := by decide +kernel
theorem d_281 : decode method_3_code 50 = .ok (.castore, 1) := by decide +kernel
theorem d_282 : decode method_3_code 51 = .ok (.dup, 1) := by decide +kernel
theorem d_283 : decode method_3_code 52 = .ok (.iconst 1, 1) := by decide +kernel
theorem d_284 : decode method_3_code 53 = .ok (.iload_n 2, 1) := by decide +kernel
theorem d_285 : decode method_3_code 54 = .ok (.castore, 1) := by decide +kernel
theorem d_286 : decode method_3_code 55 = .ok (.invokespecial 16, 3) := by decide +kernel
theorem ef_287 (m : MethodId) (a1 : Addr) (a2 : Addr) : entryFrame m #[(.ref a1), (.int 0), (.ref a2), (.int 0), (.int 2)] 7 = mkF m 0 #[rv a1, iv 0, rv a2, iv 0, iv 2, .unset, .unset] [] := by first | (simp [entryFrame, mkF, argsToLocals, Value.category]; done) | rfl
def Q35_compress (Z : State) (a1 : Addr) (a2 : Addr) (k3 : ClassId) (p4 : Int32) (p5 : Int32) (k6 : ClassId) (p7 : Int32) (p8 : Int32) (h0 : Heap) (n0 : Nat) (v : Option Value) (h : Heap) (L : List Loc) : Prop := v = some (.int 2) ∧ Fr n0 L ∧ Keep h0 h [a2] ∧ Arv Z h a2 k6 .byte 2 [(.int (p4.toInt8.toInt32)), (.int (p5.toInt8.toInt32))] (.int 0)
theorem rm35_compress (l : Launch) (Z : State) (a0 : Array Value) (hw : HW Z a0) (a1 : Addr) (a2 : Addr) (k3 : ClassId) (p4 : Int32) (p5 : Int32) (k6 : ClassId) (p7 : Int32) (p8 : Int32) (h0 : Heap) (n0 : Nat) (O0 : Old Z n0 h0) (F_0 : Arv Z h0 a1 k3 .char 2 [(.int p4), (.int p5)] (.int 0)) (hc_1 : ¬ ((255 : Int32) < p4)) (F_2 : Arv Z h0 a2 k6 .byte 2 [(.int p7), (.int p8)] (.int 0)) (g_3 : n0 ≤ a2) (ne_4 : a1 ≠ a2) (hc_5 : ¬ ((255 : Int32) < p5)) :
    Met l Z [] MY5 jdk_52_method_21_code 7 (some .int) ({ frames := 0, cells := 0, slots := 0, locals := 0 } : Room) #[(.ref a1), (.int 0), (.ref a2), (.int 0), (.int 2)] h0 (Q35_compress Z a1 a2 k3 p4 p5 k6 p7 p8 h0 n0) := by
  have W := @own_W _ _ hw
  refine own_mk (plainFor_of_name pn_197) ?_
  intro p e s m below meth c s₁ hZ hx hby hml hown hnm hret hlk X0 e0
  have N0 := Fr.nil n0
  obtain ⟨c1, A1, q1, S1, N1, H1, G1⟩ := id F_0
  have i2 : NB 0 c1 := inb_of S1 (by decide)
  obtain ⟨c3, A3, q3, S3, N3, H3, G3⟩ := id F_2
  have i4 : NB 0 c3 := inb_of S3 (by decide)
  obtain ⟨T4, h4, X4, e4, W4, st4⟩ := stB X0 hx hZ e0 A3 (j := 0) i4 (g := (mkF m 31 #[rv a1, iv 0, rv a2, iv 0, iv 2, iv 0, iv p4] [(.int (p4.toInt8.toInt32)), (.int 0), (.ref a2)])) rfl rfl (hb hby d_189)
  rw [(own_narB _)] at W4
  have O5 := O0.wr W4 g_3
  have K6 : Keep h0 h4 [a2] := Keep.wr (Keep.refl h0 [a2]) W4 (Or.inl (List.mem_of_getElem? (i := 0) rfl))
  have v7 : Arv Z h4 a2 k6 .byte 2 [(.int (p4.toInt8.toInt32)), (.int p8)] (.int 0) := Arv.set A3 q3 S3 N3 H3 G3 (own_fput (by simp) (own_narB _)) W4 0 rfl (Nat.le_of_ble_eq_true rfl)
  have N8 := Fr.snoc X4 N0 g_3
  have f10 := (F_0.other W4 ne_4)
  obtain ⟨c9, A9, q9, S9, N9, H9, G9⟩ := id f10
  have i11 : NB 1 c9 := inb_of S9 (by decide)
  obtain ⟨c12, A12, q12, S12, N12, H12, G12⟩ := id v7
  have i13 : NB 1 c12 := inb_of S12 (by decide)
  obtain ⟨T13, h13, X13, e13, W13, st13⟩ := stB X4 hx hZ e4 A12 (j := 1) i13 (g := (mkF m 31 #[rv a1, iv 1, rv a2, iv 1, iv 2, iv 1, iv p5] [(.int (p5.toInt8.toInt32)), (.int 1), (.ref a2)])) rfl rfl (hb hby d_189)
  rw [(own_narB _)] at W13
  have O14 := O5.wr W13 g_3
  have K15 : Keep h0 h13 [a2] := Keep.wr K6 W13 (Or.inl (List.mem_of_getElem? (i := 0) rfl))
  have v16 : Arv Z h13 a2 k6 .byte 2 [(.int (p4.toInt8.toInt32)), (.int (p5.toInt8.toInt32))] (.int 0) := Arv.set A12 q12 S12 N12 H12 G12 (own_fput (by simp) (own_narB _)) W13 1 rfl (Nat.le_of_ble_eq_true rfl)
  have N17 := Fr.snoc X13 N8 g_3
  refine ⟨T13, some (.int 2), _, _, _, X13, by decide, by decide, nofun, ?_, fun fs hr => castTop (ef_287 m a1 a2) ?_⟩
  · show Q35_compress Z a1 a2 k3 p4 p5 k6 p7 p8 h0 n0 _ T13.heap _
    rw [e13]
    exact ⟨rfl, N17, K15, v16⟩
  · show SS p e below s₁ m 0 #[rv a1, iv 0, rv a2, iv 0, iv 2, .unset, .unset] [] _
    refine XS.iconst X0.here hx rfl (hb hby d_173) ?_
    refine XS.istore X0.here hx rfl (hb hby d_174) rfl (l' := #[rv a1, iv 0, rv a2, iv 0, iv 2, iv 0, .unset]) rfl ?_
    refine XS.iload X0.here hx rfl (hb hby d_175) rfl ?_
    refine XS.iload X0.here hx rfl (hb hby d_176) rfl ?_
    refine XS.icmpNo X0.here hx rfl (hb hby d_177) rfl (tlt (by decide : (0 : Int32) < (2 : Int32))).2.1 ?_
    refine XS.aloadN X0.here hx rfl (hb hby d_178) rfl rfl ?_
    refine XS.iloadN X0.here hx rfl (hb hby d_179) rfl ?_
    refine X0.caload hx (j := 0) (v := (.int p4)) (by rw [e0]; exact A1.1) (State.isArrayOf_alike hZ.alike A1.2.1) A1.2.2 i2 (H1.at i2 rfl) (g := (mkF m 12 #[rv a1, iv 0, rv a2, iv 0, iv 2, iv 0, .unset] [(.int 0), (.ref a1)])) rfl rfl (hb hby d_180) _ ?_
    refine XS.istore X0.here hx rfl (hb hby d_181) rfl (l' := #[rv a1, iv 0, rv a2, iv 0, iv 2, iv 0, iv p4]) rfl ?_
    refine XS.iload X0.here hx rfl (hb hby d_182) rfl ?_
    show SS p e below s₁ m 17 #[rv a1, iv 0, rv a2, iv 0, iv 2, iv 0, iv p4] [(.int p4)] _
    refine XS.sipush X0.here hx rfl (hb hby d_183) ?_
    refine XS.icmpYes X0.here hx rfl (pc0 := 20) (pc' := 26) rfl (hb hby d_184) rfl (flt hc_1).2.2.2 (by decide) (by decide) ?_
    refine XS.aloadN X0.here hx rfl (hb hby d_185) rfl rfl ?_
    refine XS.iloadN X0.here hx rfl (hb hby d_186) rfl ?_
    refine XS.iload X0.here hx rfl (hb hby d_187) rfl ?_
    show SS p e below s₁ m 30 #[rv a1, iv 0, rv a2, iv 0, iv 2, iv 0, iv p4] [(.int p4), (.int 0), (.ref a2)] _
    refine XS.i2b X0.here hx rfl (hb hby d_188) rfl ?_
    show SS p e below s₁ m 31 #[rv a1, iv 0, rv a2, iv 0, iv 2, iv 0, iv p4] [(.int (p4.toInt8.toInt32)), (.int 0), (.ref a2)] _
    refine st4 _ ?_
    refine XS.iinc X4.here hx rfl (hb hby d_190) rfl (l' := #[rv a1, iv 1, rv a2, iv 0, iv 2, iv 0, iv p4]) rfl ?_
    show SS p e below T4 m 35 #[rv a1, iv 1, rv a2, iv 0, iv 2, iv 0, iv p4] [] _
    refine XS.iinc X4.here hx rfl (hb hby d_191) rfl (l' := #[rv a1, iv 1, rv a2, iv 1, iv 2, iv 0, iv p4]) rfl ?_
    show SS p e below T4 m 38 #[rv a1, iv 1, rv a2, iv 1, iv 2, iv 0, iv p4] [] _
    refine XS.iinc X4.here hx rfl (hb hby d_192) rfl (l' := #[rv a1, iv 1, rv a2, iv 1, iv 2, iv 1, iv p4]) rfl ?_
    show SS p e below T4 m 41 #[rv a1, iv 1, rv a2, iv 1, iv 2, iv 1, iv p4] [] _
    refine XS.goto X4.here hx rfl (pc0 := 41) (pc' := 3) rfl (hb hby d_193) (by decide) (by decide) ?_
    refine XS.iload X4.here hx rfl (hb hby d_175) rfl ?_
    refine XS.iload X4.here hx rfl (hb hby d_176) rfl ?_
    refine XS.icmpNo X4.here hx rfl (hb hby d_177) rfl (tlt (by decide : (1 : Int32) < (2 : Int32))).2.1 ?_
    refine XS.aloadN X4.here hx rfl (hb hby d_178) rfl rfl ?_
    refine XS.iloadN X4.here hx rfl (hb hby d_179) rfl ?_
    refine X4.caload hx (j := 1) (v := (.int p5)) (by rw [e4]; exact A9.1) (State.isArrayOf_alike hZ.alike A9.2.1) A9.2.2 i11 (H9.at i11 rfl) (g := (mkF m 12 #[rv a1, iv 1, rv a2, iv 1, iv 2, iv 1, iv p4] [(.int 1), (.ref a1)])) rfl rfl (hb hby d_180) _ ?_
    refine XS.istore X4.here hx rfl (hb hby d_181) rfl (l' := #[rv a1, iv 1, rv a2, iv 1, iv 2, iv 1, iv p5]) rfl ?_
    refine XS.iload X4.here hx rfl (hb hby d_182) rfl ?_
    refine XS.sipush X4.here hx rfl (hb hby d_183) ?_
    show SS p e below T4 m 20 #[rv a1, iv 1, rv a2, iv 1, iv 2, iv 1, iv p5] [(.int 255), (.int p5)] _
    refine XS.icmpYes X4.here hx rfl (pc0 := 20) (pc' := 26) rfl (hb hby d_184) rfl (flt hc_5).2.2.2 (by decide) (by decide) ?_
    refine XS.aloadN X4.here hx rfl (hb hby d_185) rfl rfl ?_
    refine XS.iloadN X4.here hx rfl (hb hby d_186) rfl ?_
    refine XS.iload X4.here hx rfl (hb hby d_187) rfl ?_
    show SS p e below T4 m 30 #[rv a1, iv 1, rv a2, iv 1, iv 2, iv 1, iv p5] [(.int p5), (.int 1), (.ref a2)] _
    refine XS.i2b X4.here hx rfl (hb hby d_188) rfl ?_
    show SS p e below T4 m 31 #[rv a1, iv 1, rv a2, iv 1, iv 2, iv 1, iv p5] [(.int (p5.toInt8.toInt32)), (.int 1), (.ref a2)] _
    refine st13 _ ?_
    refine XS.iinc X13.here hx rfl (hb hby d_190) rfl (l' := #[rv a1, iv 2, rv a2, iv 1, iv 2, iv 1, iv p5]) rfl ?_
    show SS p e below T13 m 35 #[rv a1, iv 2, rv a2, iv 1, iv 2, iv 1, iv p5] [] _
    refine XS.iinc X13.here hx rfl (hb hby d_191) rfl (l' := #[rv a1, iv 2, rv a2, iv 2, iv 2, iv 1, iv p5]) rfl ?_
    show SS p e below T13 m 38 #[rv a1, iv 2, rv a2, iv 2, iv 2, iv 1, iv p5] [] _
    refine XS.iinc X13.here hx rfl (hb hby d_192) rfl (l' := #[rv a1, iv 2, rv a2, iv 2, iv 2, iv 2, iv p5]) rfl ?_
    show SS p e below T13 m 41 #[rv a1, iv 2, rv a2, iv 2, iv 2, iv 2, iv p5] [] _
    refine XS.goto X13.here hx rfl (pc0 := 41) (pc' := 3) rfl (hb hby d_193) (by decide) (by decide) ?_
    refine XS.iload X13.here hx rfl (hb hby d_175) rfl ?_
    refine XS.iload X13.here hx rfl (hb hby d_176) rfl ?_
    refine XS.icmpYes X13.here hx rfl (pc0 := 7) (pc' := 44) rfl (hb hby d_177) rfl (flt (by decide : ¬ ((2 : Int32) < (2 : Int32)))).2.1 (by decide) (by decide) ?_
    refine XS.iload X13.here hx rfl (hb hby d_194) rfl ?_
    exact retI X13 hx hret (hb hby d_195) hr
theorem ef_288 (m : MethodId) (a1 : Addr) : entryFrame m #[(.ref a1), (.int 0), (.int 2)] 6 = mkF m 0 #[rv a1, iv 0, iv 2, .unset, .unset, .unset] [] := by first | (simp [entryFrame, mkF, argsToLocals, Value.category]; done) | rfl
def Q36_compress (Z : State) (a1 : Addr) (k2 : ClassId) (p3 : Int32) (p4 : Int32) (h0 : Heap) (n0 : Nat) (v : Option Value) (h : Heap) (L : List Loc) : Prop := ∃ (b1 : Addr) (k1 : ClassId), v = some (.ref b1) ∧ Fr n0 L ∧ Keep h0 h [] ∧ h0.size ≤ b1 ∧ Arv Z h b1 k1 .byte 2 [(.int (p3.toInt8.toInt32)), (.int (p4.toInt8.toInt32))] (.int 0) ∧ EA16 Z h b1
theorem rm36_compress (l : Launch) (Z : State) (a0 : Array Value) (hw : HW Z a0) (a1 : Addr) (k2 : ClassId) (p3 : Int32) (p4 : Int32) (h0 : Heap) (n0 : Nat) (O0 : Old Z n0 h0) (F_0 : Arv Z h0 a1 k2 .char 2 [(.int p3), (.int p4)] (.int 0)) (hc_1 : ¬ ((255 : Int32) < p3)) (hc_2 : ¬ ((255 : Int32) < p4)) (lt_3 : a1 < h0.size) :
    Met l Z [] MY6 jdk_52_method_16_code 6 (some (.array .byte)) ({ frames := 1, cells := 1, slots := 2, locals := 18 } : Room) #[(.ref a1), (.int 0), (.int 2)] h0 (Q36_compress Z a1 k2 p3 p4 h0 n0) := by
  have W := @own_W _ _ hw
  refine own_mk (plainFor_of_name pn_197) ?_
  intro p e s m below meth c s₁ hZ hx hby hml hown hnm hret hlk X0 e0
  have N0 := Fr.nil n0
  obtain ⟨T1, h1, k1, X1, e1, E1, A1, B1, st1⟩ := newPE X0 hx hZ (W 23 rfl) e0 (g := (mkF m 1 #[rv a1, iv 0, iv 2, .unset, .unset, .unset] [(.int 2)])) rfl (hb hby d_165) rfl (by decide) (cap := 2) (by decide) (by decide) (by decide) (by decide) (ad := "[B") rfl
  obtain ⟨b1, g1⟩ : ∃ z, z = h0.size := ⟨_, rfl⟩
  rw [← g1] at A1 B1 st1
  have O2 := O0.ext E1
  have K3 : Keep h0 h1 [] := Keep.ext (Keep.refl h0 []) E1
  have v4 : Arv Z h1 b1 k1 .byte 2 [(.int 0), (.int 0)] (.int 0) := (Arv.new A1 (by decide)).pad (pad_rep [] (.int 0) 2)
  have f6 := (F_0.ext E1)
  have g7 : n0 ≤ b1 := Nat.le_trans (Nat.le_trans (Nat.le_of_eq O0.1.symm) O0.2.1) (Nat.le_of_eq g1.symm)
  obtain ⟨_, T5, L5, X5, hQ5, st5⟩ := own_cs X1 hx hZ hown hml (W 24 rfl) (W 25 rfl) (W 21 rfl) (W 26 rfl) (rm35_compress l Z a0 hw a1 b1 k2 p3 p4 k1 (0 : Int32) (0 : Int32) h1 n0 O2 (f6) (hc_1) (v4) (g7) ((Nat.ne_of_lt (Nat.lt_of_lt_of_le lt_3 (Nat.le_of_eq g1.symm)))) (hc_2)) e1 (hb hby d_172) 0 #[rv a1, iv 0, iv 2, rv b1, .unset, .unset] [(.ref a1), (.int 0), (.ref b1), (.int 0), (.int 2)] [] pd_198
  obtain ⟨rfl, N5q, K5, F5_0⟩ := hQ5
  have N8 := Fr.app N0 N5q
  have O9 := O2.keep K5 (allS g7 all0)
  have K10 : Keep h0 T5.heap [] := Keep.trans K3 K5 (allS (Or.inr (Nat.le_of_eq g1.symm)) all0)
  have f11 := (B1.keep K5)
  refine ⟨T5, some (.ref b1), _, _, _, X5, by decide, by decide, nofun, ?_, fun fs hr => castTop (ef_288 m a1) ?_⟩
  · show Q36_compress Z a1 k2 p3 p4 h0 n0 _ T5.heap _
    exact ⟨b1, k1, rfl, N8, K10, (Nat.le_of_eq g1.symm), F5_0, f11⟩
  · show SS p e below s₁ m 0 #[rv a1, iv 0, iv 2, .unset, .unset, .unset] [] _
    refine XS.iloadN X0.here hx rfl (hb hby d_164) rfl ?_
    refine st1 _ ?_
    refine XS.astoreN X1.here hx rfl (hb hby d_166) rfl rfl (l' := #[rv a1, iv 0, iv 2, rv b1, .unset, .unset]) rfl ?_
    refine XS.aloadN X1.here hx rfl (hb hby d_167) rfl rfl ?_
    refine XS.iloadN X1.here hx rfl (hb hby d_168) rfl ?_
    refine XS.aloadN X1.here hx rfl (hb hby d_169) rfl rfl ?_
    refine XS.iconst X1.here hx rfl (hb hby d_170) ?_
    refine XS.iloadN X1.here hx rfl (hb hby d_171) rfl ?_
    refine st5 _ ?_
    refine XS.istore X5.here hx rfl (hb hby d_199) rfl (l' := #[rv a1, iv 0, iv 2, rv b1, iv 2, .unset]) rfl ?_
    show SS p e below T5 m 14 #[rv a1, iv 0, iv 2, rv b1, iv 2, .unset] [] _
    refine XS.iload X5.here hx rfl (hb hby d_200) rfl ?_
    refine XS.iloadN X5.here hx rfl (hb hby d_201) rfl ?_
    refine XS.icmpYes X5.here hx rfl (pc0 := 17) (pc' := 57) rfl (hb hby d_202) rfl (teq (by decide : (2 : Int32) = (2 : Int32))).1 (by decide) (by decide) ?_
    refine XS.aloadN X5.here hx rfl (hb hby d_203) rfl rfl ?_
    exact retOut X5 hx hret rfl (Or.inr (Or.inr (Or.inr (Or.inr ⟨rfl, rfl, rfl⟩)))) (hb hby d_204) hr
theorem ef_289 (m : MethodId) (a1 : Addr) : entryFrame m #[(.ref a1), (.int 2)] 2 = mkF m 0 #[rv a1, iv 2] [] := by first | (simp [entryFrame, mkF, argsToLocals, Value.category]; done) | rfl
def Q37_coderFromArrayLen (Z : State) (a1 : Addr) (k2 : ClassId) (p3 : Int32) (p4 : Int32) (h0 : Heap) (n0 : Nat) (v : Option Value) (h : Heap) (L : List Loc) : Prop := v = some (.int 0) ∧ Fr n0 L ∧ h = h0
theorem rm37_coderFromArrayLen (l : Launch) (Z : State) (a0 : Array Value) (hw : HW Z a0) (a1 : Addr) (k2 : ClassId) (p3 : Int32) (p4 : Int32) (h0 : Heap) (n0 : Nat) (O0 : Old Z n0 h0) (F_0 : Arv Z h0 a1 k2 .byte 2 [(.int p3), (.int p4)] (.int 0)) :
    Met l Z [] MY7 jdk_52_method_15_code 2 (some .byte) ({ frames := 0, cells := 0, slots := 0, locals := 0 } : Room) #[(.ref a1), (.int 2)] h0 (Q37_coderFromArrayLen Z a1 k2 p3 p4 h0 n0) := by
  have W := @own_W _ _ hw
  refine own_mk (plainFor_of_name pn_197) ?_
  intro p e s m below meth c s₁ hZ hx hby hml hown hnm hret hlk X0 e0
  have N0 := Fr.nil n0
  obtain ⟨c1, A1, q1, S1, N1, H1, G1⟩ := id F_0
  refine ⟨s₁, some (.int 0), _, _, _, X0, by decide, by decide, nofun, ?_, fun fs hr => castTop (ef_289 m a1) ?_⟩
  · show Q37_coderFromArrayLen Z a1 k2 p3 p4 h0 n0 _ s₁.heap _
    rw [e0]
    exact ⟨rfl, N0, rfl⟩
  · show SS p e below s₁ m 0 #[rv a1, iv 2] [] _
    refine XS.iloadN X0.here hx rfl (hb hby d_212) rfl ?_
    refine XS.aloadN X0.here hx rfl (hb hby d_213) rfl rfl ?_
    refine X0.arraylength hx (by rw [e0]; exact A1.1) (State.isArrayOf_alike hZ.alike A1.2.1) (g := (mkF m 2 #[rv a1, iv 2] [(.ref a1), (.int 2)])) rfl rfl (hb hby d_214) _ ?_
    rw [len_of S1 N1]
    refine XS.isub X0.here hx rfl (hb hby d_215) rfl ?_
    show SS p e below s₁ m 4 #[rv a1, iv 2] [(.int 0)] _
    refine XS.bipush X0.here hx rfl (hb hby d_216) ?_
    refine XS.iushr X0.here hx rfl (hb hby d_217) rfl ?_
    show SS p e below s₁ m 7 #[rv a1, iv 2] [(.int 0)] _
    refine XS.i2b X0.here hx rfl (hb hby d_218) rfl ?_
    show SS p e below s₁ m 8 #[rv a1, iv 2] [(.int 0)] _
    exact retN X0 hx (t := .byte) hret (by simp) (hb hby d_219) hr
theorem ef_290 (m : MethodId) (a1 : Addr) (a2 : Addr) : entryFrame m #[(.ref a1), (.ref a2), (.int 0), (.int 2), .null] 6 = mkF m 0 #[rv a1, rv a2, iv 0, iv 2, .val .null, .unset] [] := by first | (simp [entryFrame, mkF, argsToLocals, Value.category]; done) | rfl
def Q38_init (Z : State) (a1 : Addr) (a2 : Addr) (p3 : Int32) (k4 : ClassId) (p5 : Int32) (p6 : Int32) (h0 : Heap) (n0 : Nat) (v : Option Value) (h : Heap) (L : List Loc) : Prop := ∃ (b3_0 : Addr) (k3_0 : ClassId), v = none ∧ Fr n0 L ∧ Keep h0 h [a1] ∧ h0.size ≤ b3_0 ∧ Arv Z h b3_0 k3_0 .byte 2 [(.int (p5.toInt8.toInt32)), (.int (p6.toInt8.toInt32))] (.int 0) ∧ EA16 Z h b3_0 ∧ FA11 Z h a1 (.int 0) ∧ FA12 Z h a1 (.ref b3_0)
theorem rm38_init (l : Launch) (Z : State) (a0 : Array Value) (hw : HW Z a0) (a1 : Addr) (a2 : Addr) (p3 : Int32) (k4 : ClassId) (p5 : Int32) (p6 : Int32) (h0 : Heap) (n0 : Nat) (O0 : Old Z n0 h0) (S_0 : SA18 Z Z.heap (.int p3)) (hc_1 : ¬ (p3 = (0 : Int32))) (F_2 : Arv Z h0 a2 k4 .char 2 [(.int p5), (.int p6)] (.int 0)) (hc_3 : ¬ ((255 : Int32) < p5)) (hc_4 : ¬ ((255 : Int32) < p6)) (lt_5 : a2 < h0.size) (F_6 : EA14 Z h0 a1) (F_7 : FA11 Z h0 a1 (.int 0)) (g_8 : n0 ≤ a1) (F_9 : FA12 Z h0 a1 .null) (lt_10 : a1 < h0.size) :
    Met l Z [] MY8 jdk_42_method_149_code 6 none ({ frames := 2, cells := 1, slots := 2, locals := 35 } : Room) #[(.ref a1), (.ref a2), (.int 0), (.int 2), .null] h0 (Q38_init Z a1 a2 p3 k4 p5 p6 h0 n0) := by
  have W := @own_W _ _ hw
  refine own_mk (plainFor_of_name pn_52) ?_
  intro p e s m below meth c s₁ hZ hx hby hml hown hnm hret hlk X0 e0
  have N0 := Fr.nil n0
  obtain ⟨T1, X1, e1, st1⟩ := initO X0 hx hZ hown (W 15 rfl) (W 16 rfl) (W 17 rfl) e0 (g := (mkF m 1 #[rv a1, rv a2, iv 0, iv 2, .val .null, .unset] [(.ref a1)])) rfl (by rw [hml]; rfl) rfl (hb hby d_155) (by decide) (W := 0) (by show 2 * 0 + _ ≤ _; exact Nat.le_of_eq rfl) (by decide)
  obtain ⟨T2, X2, e2, st2⟩ := getS2 X1 hx hZ hown (host := "") (Or.inl (W 18 rfl)) Via.refl e1 (S_0.ext O0.2) (g := (mkF m 27 #[rv a1, rv a2, iv 0, iv 2, .val .null, .unset] [])) rfl (hb hby d_158)
  obtain ⟨_, T3, L3, X3, hQ3, st3⟩ := own_cs X2 hx hZ hown hml (W 19 rfl) (W 20 rfl) (W 21 rfl) (W 22 rfl) (rm36_compress l Z a0 hw a2 k4 p5 p6 h0 n0 O0 (F_2) (hc_3) (hc_4) (lt_5)) e2 (hb hby d_163) 0 #[rv a1, rv a2, iv 0, iv 2, .val .null, .unset] [(.ref a2), (.int 0), (.int 2)] [] pd_206
  obtain ⟨b3_0, k3_0, rfl, N3q, K3, gb3_0, F3_0, F3_1⟩ := hQ3
  have N4 := Fr.app N0 N3q
  have O5 := O0.keep K3 all0
  have K6 : Keep h0 T3.heap [a1] := Keep.trans (Keep.refl h0 [a1]) K3 all0
  obtain ⟨_, T7, L7, X7, hQ7, st7⟩ := own_cs X3 hx hZ hown hml (W 27 rfl) (W 28 rfl) (W 21 rfl) (W 29 rfl) (rm37_coderFromArrayLen l Z a0 hw b3_0 k3_0 (p5.toInt8.toInt32) (p6.toInt8.toInt32) T3.heap n0 O5 (F3_0)) rfl (hb hby d_211) 1 #[rv a1, rv a2, iv 0, iv 2, .val .null, rv b3_0] [(.ref b3_0), (.int 2)] [(.ref a1)] pd_221
  obtain ⟨rfl, N7q, K7⟩ := hQ7
  have N8 := Fr.app N4 N7q
  have f10 := (F_7.keep K3 nin0)
  have f11 := (F_6.keep K3)
  obtain ⟨T9, h9, X9, e9, W9, st9⟩ := putFN X7 hx hZ hown (W 30 rfl) Via.refl K7 f10 f11 (Or.inr ⟨(W 31 rfl), rfl, hnm⟩) (W 5 rfl) (ty := .byte) (v' := (.int 0)) (by decide) rfl rfl (g := (mkF m 48 #[rv a1, rv a2, iv 0, iv 2, .val .null, rv b3_0] [(.int 0), (.ref a1)])) rfl rfl (hb hby d_222)
  have O12 := O5.wr W9 g_8
  have K13 : Keep h0 h9 [a1] := Keep.wr K6 W9 (Or.inl (List.mem_of_getElem? (i := 0) rfl))
  have f14 : FA11 Z h9 a1 (.int 0) := (f10.same W9)
  have N15 := Fr.snoc X9 N8 g_8
  have f17 := ((F_9.keep K3 nin0).other W9 (Or.inr (slot_ne (Or.inr (W 33 rfl)) (Or.inr (W 31 rfl)) (by decide) (t := (.array .byte)) (t' := .byte) (by decide) (by decide))))
  have f18 := (f11.wr W9)
  obtain ⟨T16, h16, X16, e16, W16, st16⟩ := putF X9 hx hZ hown (host := "") (Or.inl (W 32 rfl)) Via.refl e9 f17 f18 (Or.inr ⟨(W 33 rfl), rfl, hnm⟩) (W 5 rfl) (ty := (.array .byte)) (by decide) rfl rfl (g := (mkF m 54 #[rv a1, rv a2, iv 0, iv 2, .val .null, rv b3_0] [(.ref b3_0), (.ref a1)])) rfl rfl (hb hby d_225)
  have O19 := O12.wr W16 g_8
  have K20 : Keep h0 h16 [a1] := Keep.wr K13 W16 (Or.inl (List.mem_of_getElem? (i := 0) rfl))
  have f21 : FA12 Z h16 a1 (.ref b3_0) := (f17.same W16)
  have N22 := Fr.snoc X16 N15 g_8
  have f23 := ((F3_0.other W9 (Ne.symm (Nat.ne_of_lt (Nat.lt_of_lt_of_le lt_10 gb3_0)))).other W16 (Ne.symm (Nat.ne_of_lt (Nat.lt_of_lt_of_le lt_10 gb3_0))))
  have f24 := ((F3_1.wr W9).wr W16)
  have f25 := (f14.other W16 (Or.inr (slot_ne (Or.inr (W 31 rfl)) (Or.inr (W 33 rfl)) (by decide) (t := .byte) (t' := (.array .byte)) (by decide) (by decide))))
  refine ⟨T16, none, _, _, _, X16, by decide, by decide, (fun _ => rfl), ?_, fun fs hr => castTop (ef_290 m a1 a2) ?_⟩
  · show Q38_init Z a1 a2 p3 k4 p5 p6 h0 n0 _ T16.heap _
    rw [e16]
    exact ⟨b3_0, k3_0, rfl, N22, K20, gb3_0, f23, f24, f25, f21⟩
  · show SS p e below s₁ m 0 #[rv a1, rv a2, iv 0, iv 2, .val .null, .unset] [] _
    refine XS.aloadN X0.here hx rfl (hb hby d_154) rfl rfl ?_
    refine st1 _ ?_
    refine XS.iloadN X1.here hx rfl (hb hby d_156) rfl ?_
    refine XS.ifYes X1.here hx rfl (pc0 := 5) (pc' := 27) rfl (hb hby d_157) rfl ((if0 _ _).trans (feq (by decide : ¬ ((2 : Int32) = (0 : Int32)))).2) (by decide) (by decide) ?_
    refine st2 _ ?_
    refine XS.ifNo X2.here hx rfl (hb hby d_159) rfl ((if0 _ _).trans (feq hc_1).1) ?_
    refine XS.aloadN X2.here hx rfl (hb hby d_160) rfl rfl ?_
    refine XS.iloadN X2.here hx rfl (hb hby d_161) rfl ?_
    refine XS.iloadN X2.here hx rfl (hb hby d_162) rfl ?_
    refine st3 _ ?_
    show SS p e below T3 m 39 #[rv a1, rv a2, iv 0, iv 2, .val .null, .unset] [(.ref b3_0)] _
    refine XS.astore X3.here hx rfl (hb hby d_207) rfl rfl (l' := #[rv a1, rv a2, iv 0, iv 2, .val .null, rv b3_0]) rfl ?_
    refine XS.aloadN X3.here hx rfl (hb hby d_208) rfl rfl ?_
    refine XS.aload X3.here hx rfl (hb hby d_209) rfl rfl ?_
    refine XS.iloadN X3.here hx rfl (hb hby d_210) rfl ?_
    refine st7 _ ?_
    refine st9 _ ?_
    refine XS.aloadN X9.here hx rfl (hb hby d_223) rfl rfl ?_
    refine XS.aload X9.here hx rfl (hb hby d_224) rfl rfl ?_
    refine st16 _ ?_
    exact X16.returnOut hx hret (hb hby d_226) hr
def Q39_init (Z : State) (a1 : Addr) (a2 : Addr) (k3 : ClassId) (p4 : Int32) (p5 : Int32) (p6 : Int32) (h0 : Heap) (n0 : Nat) (v : Option Value) (h : Heap) (L : List Loc) : Prop := ∃ (b2_0 : Addr) (k2_0 : ClassId), v = none ∧ Fr n0 L ∧ Keep h0 h [a1] ∧ h0.size ≤ b2_0 ∧ Arv Z h b2_0 k2_0 .byte 2 [(.int (p4.toInt8.toInt32)), (.int (p5.toInt8.toInt32))] (.int 0) ∧ EA16 Z h b2_0 ∧ FA11 Z h a1 (.int 0) ∧ FA12 Z h a1 (.ref b2_0)
theorem rm39_init (l : Launch) (Z : State) (a0 : Array Value) (hw : HW Z a0) (a1 : Addr) (a2 : Addr) (k3 : ClassId) (p4 : Int32) (p5 : Int32) (p6 : Int32) (h0 : Heap) (n0 : Nat) (O0 : Old Z n0 h0) (F_0 : Arv Z h0 a2 k3 .char 2 [(.int p4), (.int p5)] (.int 0)) (S_1 : SA18 Z Z.heap (.int p6)) (hc_2 : ¬ (p6 = (0 : Int32))) (hc_3 : ¬ ((255 : Int32) < p4)) (hc_4 : ¬ ((255 : Int32) < p5)) (F_5 : EA14 Z h0 a1) (F_6 : FA11 Z h0 a1 (.int 0)) (F_7 : FA12 Z h0 a1 .null) (lt_8 : a2 < h0.size) (g_9 : n0 ≤ a1) (lt_10 : a1 < h0.size) :
    Met l Z [] MY9 jdk_42_method_3_code 2 none ({ frames := 3, cells := 1, slots := 2, locals := 52 } : Room) #[(.ref a1), (.ref a2)] h0 (Q39_init Z a1 a2 k3 p4 p5 p6 h0 n0) := by
  have W := @own_W _ _ hw
  refine own_mk (plainFor_of_name pn_52) ?_
  intro p e s m below meth c s₁ hZ hx hby hml hown hnm hret hlk X0 e0
  have N0 := Fr.nil n0
  obtain ⟨c1, A1, q1, S1, N1, H1, G1⟩ := id F_0
  obtain ⟨_, T2, L2, X2, hQ2, st2⟩ := own_cp X0 hx hZ hown hml rfl (W 11 rfl) (W 12 rfl) (W 6 rfl) (W 14 rfl) (rm38_init l Z a0 hw a1 a2 p6 k3 p4 p5 h0 n0 O0 (S_1) (hc_2) (F_0) (hc_3) (hc_4) (lt_8) (F_5) (F_6) (g_9) (F_7) (lt_10)) e0 (hb hby d_153) 0 #[rv a1, rv a2] a1 [(.ref a2), (.int 0), (.int 2), .null] [] pd_228
  obtain ⟨b2_0, k2_0, rfl, N2q, K2, gb2_0, F2_0, F2_1, F2_2, F2_3⟩ := hQ2
  have N3 := Fr.app N0 N2q
  have O4 := O0.keep K2 (allS g_9 all0)
  have K5 : Keep h0 T2.heap [a1] := Keep.trans (Keep.refl h0 [a1]) K2 (allS (Or.inl (List.mem_of_getElem? (i := 0) rfl)) all0)
  refine ⟨T2, none, _, _, _, X2, by decide, by decide, (fun _ => rfl), ?_, fun fs hr => castTop (ef_230 m a1 a2) ?_⟩
  · show Q39_init Z a1 a2 k3 p4 p5 p6 h0 n0 _ T2.heap _
    exact ⟨b2_0, k2_0, rfl, N3, K5, gb2_0, F2_0, F2_1, F2_2, F2_3⟩
  · show SS p e below s₁ m 0 #[rv a1, rv a2] [] _
    refine XS.aloadN X0.here hx rfl (hb hby d_147) rfl rfl ?_
    refine XS.aloadN X0.here hx rfl (hb hby d_148) rfl rfl ?_
    refine XS.iconst X0.here hx rfl (hb hby d_149) ?_
    refine XS.aloadN X0.here hx rfl (hb hby d_150) rfl rfl ?_
    refine X0.arraylength hx (by rw [e0]; exact A1.1) (State.isArrayOf_alike hZ.alike A1.2.1) (g := (mkF m 4 #[rv a1, rv a2] [(.ref a2), (.int 0), (.ref a2), (.ref a1)])) rfl rfl (hb hby d_151) _ ?_
    rw [len_of S1 N1]
    refine XS.aconstNull X0.here hx rfl (hb hby d_152) ?_
    refine st2 _ ?_
    exact X2.returnOut hx hret (hb hby d_229) hr
theorem d_291 : decode method_3_code 58 = .ok (.areturn, 1) := by decide +kernel
theorem ef_292 (m : MethodId) (p1 : Int32) (p2 : Int32) (p3 : Int32) (p4 : Int32) (p5 : Int32) (p6 : Int32) (p7 : Int32) : entryFrame m #[(.int 2), (.int p1), (.int p2), (.int p3), (.int p4), (.int p5), (.int p6), (.int p7)] 8 = mkF m 0 #[iv 2, iv p1, iv p2, iv p3, iv p4, iv p5, iv p6, iv p7] [] := by first | (simp [entryFrame, mkF, argsToLocals, Value.category]; done) | rfl
def Q40_str (Z : State) (p1 : Int32) (p2 : Int32) (p3 : Int32) (p4 : Int32) (p5 : Int32) (p6 : Int32) (p7 : Int32) (p8 : Int32) (h0 : Heap) (n0 : Nat) (v : Option Value) (h : Heap) (L : List Loc) : Prop := ∃ (b1 : Addr) (b22_0 : Addr) (k22_0 : ClassId), v = some (.ref b1) ∧ Fr n0 L ∧ Keep h0 h [] ∧ h0.size ≤ b1 ∧ h0.size ≤ b22_0 ∧ EA14 Z h b1 ∧ FA11 Z h b1 (.int 0) ∧ FA12 Z h b1 (.ref b22_0) ∧ Arv Z h b22_0 k22_0 .byte 2 [(.int (p1.toInt8.toInt32)), (.int (p2.toInt8.toInt32))] (.int 0) ∧ EA16 Z h b22_0
theorem rm40_str (l : Launch) (Z : State) (a0 : Array Value) (hw : HW Z a0) (p1 : Int32) (p2 : Int32) (p3 : Int32) (p4 : Int32) (p5 : Int32) (p6 : Int32) (p7 : Int32) (p8 : Int32) (h0 : Heap) (n0 : Nat) (O0 : Old Z n0 h0) (nr_0 : nar .char p1 = p1) (nr_1 : nar .char p2 = p2) (S_2 : SA18 Z Z.heap (.int p8)) (hc_3 : ¬ (p8 = (0 : Int32))) (hc_4 : ¬ ((255 : Int32) < p1)) (hc_5 : ¬ ((255 : Int32) < p2)) :
    Met l Z [] MY10 method_3_code 8 (some (.object "java/lang/String")) ({ frames := 4, cells := 3, slots := 8, locals := 66 } : Room) #[(.int 2), (.int p1), (.int p2), (.int p3), (.int p4), (.int p5), (.int p6), (.int p7)] h0 (Q40_str Z p1 p2 p3 p4 p5 p6 p7 p8 h0 n0) := by
  have W := @own_W _ _ hw
  refine own_mk (plainFor_of_name pn_234) ?_
  intro p e s m below meth c s₁ hZ hx hby hml hown hnm hret hlk X0 e0
  have N0 := Fr.nil n0
  obtain ⟨T1, h1, X1, e1, E1, A1, D1, -, st1⟩ := newO X0 hx hZ hown (W 4 rfl) (W 5 rfl) (W 6 rfl) e0 (g := (mkF m 40 #[iv 2, iv p1, iv p2, iv p3, iv p4, iv p5, iv p6, iv p7] [])) rfl (hb hby d_274) (by decide) (by decide)
  obtain ⟨b1, g1⟩ : ∃ z, z = h0.size := ⟨_, rfl⟩
  rw [← g1] at A1 D1 st1
  have O2 := O0.ext E1
  have K3 : Keep h0 h1 [] := Keep.ext (Keep.refl h0 []) E1
  obtain ⟨T4, h4, k4, X4, e4, E4, A4, B4, st4⟩ := newPE X1 hx hZ (W 7 rfl) e1 (g := (mkF m 45 #[iv 2, iv p1, iv p2, iv p3, iv p4, iv p5, iv p6, iv p7] [(.int 2), (.ref b1), (.ref b1)])) rfl (hb hby d_277) rfl (by decide) (cap := 2) (by decide) (by decide) (by decide) (by decide) (ad := "[C") rfl
  obtain ⟨b4, g4⟩ : ∃ z, z = h1.size := ⟨_, rfl⟩
  rw [← g4] at A4 B4 st4
  have O5 := O2.ext E4
  have K6 : Keep h0 h4 [] := Keep.ext K3 E4
  have v7 : Arv Z h4 b4 k4 .char 2 [(.int 0), (.int 0)] (.int 0) := (Arv.new A4 (by decide)).pad (pad_rep [] (.int 0) 2)
  obtain ⟨c8, A8, q8, S8, N8, H8, G8⟩ := id v7
  have i9 : NB 0 c8 := inb_of S8 (by decide)
  obtain ⟨T9, h9, X9, e9, W9, st9⟩ := stC X4 hx hZ e4 A8 (j := 0) i9 (g := (mkF m 50 #[iv 2, iv p1, iv p2, iv p3, iv p4, iv p5, iv p6, iv p7] [(.int p1), (.int 0), (.ref b4), (.ref b4), (.ref b1), (.ref b1)])) rfl rfl (hb hby d_281)
  rw [nr_0] at W9
  have z10 : h0.size ≤ h1.size := E1.1
  have g11 : n0 ≤ b4 := Nat.le_trans (Nat.le_trans (Nat.le_trans (Nat.le_of_eq O0.1.symm) O0.2.1) z10) (Nat.le_of_eq g4.symm)
  have O12 := O5.wr W9 g11
  have K13 : Keep h0 h9 [] := Keep.wr K6 W9 (Or.inr (Nat.le_trans z10 (Nat.le_of_eq g4.symm)))
  have v14 : Arv Z h9 b4 k4 .char 2 [(.int p1), (.int 0)] (.int 0) := Arv.set A8 q8 S8 N8 H8 G8 (own_fput (by simp) nr_0) W9 0 rfl (Nat.le_of_ble_eq_true rfl)
  have N15 := Fr.snoc X9 N0 g11
  obtain ⟨c16, A16, q16, S16, N16, H16, G16⟩ := id v14
  have i17 : NB 1 c16 := inb_of S16 (by decide)
  obtain ⟨T17, h17, X17, e17, W17, st17⟩ := stC X9 hx hZ e9 A16 (j := 1) i17 (g := (mkF m 54 #[iv 2, iv p1, iv p2, iv p3, iv p4, iv p5, iv p6, iv p7] [(.int p2), (.int 1), (.ref b4), (.ref b4), (.ref b1), (.ref b1)])) rfl rfl (hb hby d_285)
  rw [nr_1] at W17
  have O18 := O12.wr W17 g11
  have K19 : Keep h0 h17 [] := Keep.wr K13 W17 (Or.inr (Nat.le_trans z10 (Nat.le_of_eq g4.symm)))
  have v20 : Arv Z h17 b4 k4 .char 2 [(.int p1), (.int p2)] (.int 0) := Arv.set A16 q16 S16 N16 H16 G16 (own_fput (by simp) nr_1) W17 1 rfl (Nat.le_of_ble_eq_true rfl)
  have N21 := Fr.snoc X17 N15 g11
  have f23 := (((A1.ext E4).wr W9).wr W17)
  have f24 := ((((D1 (Or.inr (W 31 rfl)) (ty := .byte) (by decide) : FA11 Z h1 b1 (.int 0)).ext E4).other W9 (Or.inl (Nat.ne_of_lt (Nat.lt_of_lt_of_le A1.lt (Nat.le_of_eq g4.symm))))).other W17 (Or.inl (Nat.ne_of_lt (Nat.lt_of_lt_of_le A1.lt (Nat.le_of_eq g4.symm)))))
  have f25 := ((((D1 (Or.inr (W 33 rfl)) (ty := (.array .byte)) (by decide) : FA12 Z h1 b1 .null).ext E4).other W9 (Or.inl (Nat.ne_of_lt (Nat.lt_of_lt_of_le A1.lt (Nat.le_of_eq g4.symm))))).other W17 (Or.inl (Nat.ne_of_lt (Nat.lt_of_lt_of_le A1.lt (Nat.le_of_eq g4.symm)))))
  have z26 : h4.size ≤ h9.size := (Nat.le_of_eq W9.size.symm)
  have z27 : h4.size ≤ h17.size := (Nat.le_trans z26 (Nat.le_of_eq W17.size.symm))
  have g28 : n0 ≤ b1 := Nat.le_trans (Nat.le_trans (Nat.le_of_eq O0.1.symm) O0.2.1) (Nat.le_of_eq g1.symm)
  have z29 : h1.size ≤ h4.size := E4.1
  have z30 : h1.size ≤ h9.size := (Nat.le_trans z29 (Nat.le_of_eq W9.size.symm))
  have z31 : h1.size ≤ h17.size := (Nat.le_trans z30 (Nat.le_of_eq W17.size.symm))
  obtain ⟨_, T22, L22, X22, hQ22, st22⟩ := own_cp X17 hx hZ hown hml rfl (W 8 rfl) (W 9 rfl) (W 6 rfl) (W 10 rfl) (rm39_init l Z a0 hw b1 b4 k4 p1 p2 p8 h17 n0 O18 (v20) (S_2) (hc_3) (hc_4) (hc_5) (f23) (f24) (f25) ((Nat.lt_of_lt_of_le A4.lt z27)) (g28) ((Nat.lt_of_lt_of_le A1.lt z31))) e17 (hb hby d_286) 1 #[iv 2, iv p1, iv p2, iv p3, iv p4, iv p5, iv p6, iv p7] b1 [(.ref b4)] [(.ref b1)] pd_231
  obtain ⟨b22_0, k22_0, rfl, N22q, K22, gb22_0, F22_0, F22_1, F22_2, F22_3⟩ := hQ22
  have N32 := Fr.app N21 N22q
  have O33 := O18.keep K22 (allS g28 all0)
  have K34 : Keep h0 T22.heap [] := Keep.trans K19 K22 (allS (Or.inr (Nat.le_of_eq g1.symm)) all0)
  have f35 := (f23.keep K22)
  have z36 : h0.size ≤ h4.size := (Nat.le_trans z10 E4.1)
  have z37 : h0.size ≤ h9.size := (Nat.le_trans z36 (Nat.le_of_eq W9.size.symm))
  have z38 : h0.size ≤ h17.size := (Nat.le_trans z37 (Nat.le_of_eq W17.size.symm))
  refine ⟨T22, some (.ref b1), _, _, _, X22, by decide, by decide, nofun, ?_, fun fs hr => castTop (ef_292 m p1 p2 p3 p4 p5 p6 p7) ?_⟩
  · show Q40_str Z p1 p2 p3 p4 p5 p6 p7 p8 h0 n0 _ T22.heap _
    exact ⟨b1, b22_0, k22_0, rfl, N32, K34, (Nat.le_of_eq g1.symm), (Nat.le_trans z38 gb22_0), f35, F22_2, F22_3, F22_0, F22_1⟩
  · show SS p e below s₁ m 0 #[iv 2, iv p1, iv p2, iv p3, iv p4, iv p5, iv p6, iv p7] [] _
    refine XS.iloadN X0.here hx rfl (hb hby d_98) rfl ?_
    refine XS.ifYes X0.here hx rfl (pc0 := 1) (pc' := 15) rfl (hb hby d_99) rfl ((if0 _ _).trans (feq (by decide : ¬ ((2 : Int32) = (0 : Int32)))).2) (by decide) (by decide) ?_
    refine XS.iloadN X0.here hx rfl (hb hby d_100) rfl ?_
    refine XS.iconst X0.here hx rfl (hb hby d_101) ?_
    refine XS.icmpYes X0.here hx rfl (pc0 := 17) (pc' := 35) rfl (hb hby d_102) rfl (feq (by decide : ¬ ((2 : Int32) = (1 : Int32)))).2 (by decide) (by decide) ?_
    refine XS.iloadN X0.here hx rfl (hb hby d_103) rfl ?_
    refine XS.iconst X0.here hx rfl (hb hby d_104) ?_
    refine XS.icmpNo X0.here hx rfl (hb hby d_105) rfl (teq (by decide : (2 : Int32) = (2 : Int32))).2 ?_
    refine st1 _ ?_
    refine XS.dup X1.here hx rfl (hb hby d_275) rfl rfl ?_
    show SS p e below T1 m 44 #[iv 2, iv p1, iv p2, iv p3, iv p4, iv p5, iv p6, iv p7] [(.ref b1), (.ref b1)] _
    refine XS.iconst X1.here hx rfl (hb hby d_276) ?_
    refine st4 _ ?_
    refine XS.dup X4.here hx rfl (hb hby d_278) rfl rfl ?_
    refine XS.iconst X4.here hx rfl (hb hby d_279) ?_
    refine XS.iloadN X4.here hx rfl (hb hby d_280) rfl ?_
    refine st9 _ ?_
    refine XS.dup X9.here hx rfl (hb hby d_282) rfl rfl ?_
    refine XS.iconst X9.here hx rfl (hb hby d_283) ?_
    refine XS.iloadN X9.here hx rfl (hb hby d_284) rfl ?_
    refine st17 _ ?_
    show SS p e below T17 m 55 #[iv 2, iv p1, iv p2, iv p3, iv p4, iv p5, iv p6, iv p7] [(.ref b4), (.ref b1), (.ref b1)] _
    refine st22 _ ?_
    exact retOut X22 hx hret rfl (Or.inr (Or.inr (Or.inr (Or.inr ⟨rfl, rfl, rfl⟩)))) (hb hby d_291) hr
theorem d_293 : decode method_3_code 64 = .ok (.new 14, 3) := by decide +kernel
theorem d_294 : decode method_3_code 67 = .ok (.dup, 1) := by decide +kernel
theorem d_295 : decode method_3_code 68 = .ok (.iconst 3, 1) := by decide +kernel
theorem d_296 : decode method_3_code 69 = .ok (.newarray .char, 2) := by decide +kernel
theorem d_297 : decode method_3_code 71 = .ok (.dup, 1) := by decide +kernel
theorem d_298 : decode method_3_code 72 = .ok (.iconst 0, 1) := by decide +kernel
theorem d_299 : decode method_3_code 73 = .ok (.iload_n 1, 1) := by decide +kernel
theorem d_300 : decode method_3_code 74 = .ok (.castore, 1) := by decide +kernel
theorem d_301 : decode method_3_code 75 = .ok (.dup, 1) := by decide +kernel
theorem d_302 : decode method_3_code 76 = .ok (.iconst 1, 1) := by decide +kernel
theorem d_303 : decode method_3_code 77 = .ok (.iload_n 2, 1) := by decide +kernel
theorem d_304 : decode method_3_code 78 = .ok (.castore, 1) := by decide +kernel
theorem d_305 : decode method_3_code 79 = .ok (.dup, 1) := by decide +kernel
theorem d_306 : decode method_3_code 80 = .ok (.iconst 2, 1) := by decide +kernel
theorem d_307 : decode method_3_code 81 = .ok (.iload_n 3, 1) := by decide +kernel
theorem d_308 : decode method_3_code 82 = .ok (.castore, 1) := by decide +kernel
theorem d_309 : decode method_3_code 83 = .ok (.invokespecial 16, 3) := by decide +kernel
theorem ef_310 (m : MethodId) (a1 : Addr) (a2 : Addr) : entryFrame m #[(.ref a1), (.int 0), (.ref a2), (.int 0), (.int 3)] 7 = mkF m 0 #[rv a1, iv 0, rv a2, iv 0, iv 3, .unset, .unset] [] := by first | (simp [entryFrame, mkF, argsToLocals, Value.category]; done) | rfl
def Q41_compress (Z : State) (a1 : Addr) (a2 : Addr) (k3 : ClassId) (p4 : Int32) (p5 : Int32) (p6 : Int32) (k7 : ClassId) (p8 : Int32) (p9 : Int32) (p10 : Int32) (h0 : Heap) (n0 : Nat) (v : Option Value) (h : Heap) (L : List Loc) : Prop := v = some (.int 3) ∧ Fr n0 L ∧ Keep h0 h [a2] ∧ Arv Z h a2 k7 .byte 3 [(.int (p4.toInt8.toInt32)), (.int (p5.toInt8.toInt32)), (.int (p6.toInt8.toInt32))] (.int 0)
theorem rm41_compress (l : Launch) (Z : State) (a0 : Array Value) (hw : HW Z a0) (a1 : Addr) (a2 : Addr) (k3 : ClassId) (p4 : Int32) (p5 : Int32) (p6 : Int32) (k7 : ClassId) (p8 : Int32) (p9 : Int32) (p10 : Int32) (h0 : Heap) (n0 : Nat) (O0 : Old Z n0 h0) (F_0 : Arv Z h0 a1 k3 .char 3 [(.int p4), (.int p5), (.int p6)] (.int 0)) (hc_1 : ¬ ((255 : Int32) < p4)) (F_2 : Arv Z h0 a2 k7 .byte 3 [(.int p8), (.int p9), (.int p10)] (.int 0)) (g_3 : n0 ≤ a2) (ne_4 : a1 ≠ a2) (hc_5 : ¬ ((255 : Int32) < p5)) (hc_6 : ¬ ((255 : Int32) < p6)) :
    Met l Z [] MY5 jdk_52_method_21_code 7 (some .int) ({ frames := 0, cells := 0, slots := 0, locals := 0 } : Room) #[(.ref a1), (.int 0), (.ref a2), (.int 0), (.int 3)] h0 (Q41_compress Z a1 a2 k3 p4 p5 p6 k7 p8 p9 p10 h0 n0) := by
  have W := @own_W _ _ hw
  refine own_mk (plainFor_of_name pn_197) ?_
  intro p e s m below meth c s₁ hZ hx hby hml hown hnm hret hlk X0 e0
  have N0 := Fr.nil n0
  obtain ⟨c1, A1, q1, S1, N1, H1, G1⟩ := id F_0
  have i2 : NB 0 c1 := inb_of S1 (by decide)
  obtain ⟨c3, A3, q3, S3, N3, H3, G3⟩ := id F_2
  have i4 : NB 0 c3 := inb_of S3 (by decide)
  obtain ⟨T4, h4, X4, e4, W4, st4⟩ := stB X0 hx hZ e0 A3 (j := 0) i4 (g := (mkF m 31 #[rv a1, iv 0, rv a2, iv 0, iv 3, iv 0, iv p4] [(.int (p4.toInt8.toInt32)), (.int 0), (.ref a2)])) rfl rfl (hb hby d_189)
  rw [(own_narB _)] at W4
  have O5 := O0.wr W4 g_3
  have K6 : Keep h0 h4 [a2] := Keep.wr (Keep.refl h0 [a2]) W4 (Or.inl (List.mem_of_getElem? (i := 0) rfl))
  have v7 : Arv Z h4 a2 k7 .byte 3 [(.int (p4.toInt8.toInt32)), (.int p9), (.int p10)] (.int 0) := Arv.set A3 q3 S3 N3 H3 G3 (own_fput (by simp) (own_narB _)) W4 0 rfl (Nat.le_of_ble_eq_true rfl)
  have N8 := Fr.snoc X4 N0 g_3
  have f10 := (F_0.other W4 ne_4)
  obtain ⟨c9, A9, q9, S9, N9, H9, G9⟩ := id f10
  have i11 : NB 1 c9 := inb_of S9 (by decide)
  obtain ⟨c12, A12, q12, S12, N12, H12, G12⟩ := id v7
  have i13 : NB 1 c12 := inb_of S12 (by decide)
  obtain ⟨T13, h13, X13, e13, W13, st13⟩ := stB X4 hx hZ e4 A12 (j := 1) i13 (g := (mkF m 31 #[rv a1, iv 1, rv a2, iv 1, iv 3, iv 1, iv p5] [(.int (p5.toInt8.toInt32)), (.int 1), (.ref a2)])) rfl rfl (hb hby d_189)
  rw [(own_narB _)] at W13
  have O14 := O5.wr W13 g_3
  have K15 : Keep h0 h13 [a2] := Keep.wr K6 W13 (Or.inl (List.mem_of_getElem? (i := 0) rfl))
  have v16 : Arv Z h13 a2 k7 .byte 3 [(.int (p4.toInt8.toInt32)), (.int (p5.toInt8.toInt32)), (.int p10)] (.int 0) := Arv.set A12 q12 S12 N12 H12 G12 (own_fput (by simp) (own_narB _)) W13 1 rfl (Nat.le_of_ble_eq_true rfl)
  have N17 := Fr.snoc X13 N8 g_3
  have f19 := (f10.other W13 ne_4)
  obtain ⟨c18, A18, q18, S18, N18, H18, G18⟩ := id f19
  have i20 : NB 2 c18 := inb_of S18 (by decide)
  obtain ⟨c21, A21, q21, S21, N21, H21, G21⟩ := id v16
  have i22 : NB 2 c21 := inb_of S21 (by decide)
  obtain ⟨T22, h22, X22, e22, W22, st22⟩ := stB X13 hx hZ e13 A21 (j := 2) i22 (g := (mkF m 31 #[rv a1, iv 2, rv a2, iv 2, iv 3, iv 2, iv p6] [(.int (p6.toInt8.toInt32)), (.int 2), (.ref a2)])) rfl rfl (hb hby d_189)
  rw [(own_narB _)] at W22
  have O23 := O14.wr W22 g_3
  have K24 : Keep h0 h22 [a2] := Keep.wr K15 W22 (Or.inl (List.mem_of_getElem? (i := 0) rfl))
  have v25 : Arv Z h22 a2 k7 .byte 3 [(.int (p4.toInt8.toInt32)), (.int (p5.toInt8.toInt32)), (.int (p6.toInt8.toInt32))] (.int 0) := Arv.set A21 q21 S21 N21 H21 G21 (own_fput (by simp) (own_narB _)) W22 2 rfl (Nat.le_of_ble_eq_true rfl)
  have N26 := Fr.snoc X22 N17 g_3
  refine ⟨T22, some (.int 3), _, _, _, X22, by decide, by decide, nofun, ?_, fun fs hr => castTop (ef_310 m a1 a2) ?_⟩
  · show Q41_compress Z a1 a2 k3 p4 p5 p6 k7 p8 p9 p10 h0 n0 _ T22.heap _
    rw [e22]
    exact ⟨rfl, N26, K24, v25⟩
  · show SS p e below s₁ m 0 #[rv a1, iv 0, rv a2, iv 0, iv 3, .unset, .unset] [] _
    refine XS.iconst X0.here hx rfl (hb hby d_173) ?_
    refine XS.istore X0.here hx rfl (hb hby d_174) rfl (l' := #[rv a1, iv 0, rv a2, iv 0, iv 3, iv 0, .unset]) rfl ?_
    refine XS.iload X0.here hx rfl (hb hby d_175) rfl ?_
    refine XS.iload X0.here hx rfl (hb hby d_176) rfl ?_
    refine XS.icmpNo X0.here hx rfl (hb hby d_177) rfl (tlt (by decide : (0 : Int32) < (3 : Int32))).2.1 ?_
    refine XS.aloadN X0.here hx rfl (hb hby d_178) rfl rfl ?_
    refine XS.iloadN X0.here hx rfl (hb hby d_179) rfl ?_
    refine X0.caload hx (j := 0) (v := (.int p4)) (by rw [e0]; exact A1.1) (State.isArrayOf_alike hZ.alike A1.2.1) A1.2.2 i2 (H1.at i2 rfl) (g := (mkF m 12 #[rv a1, iv 0, rv a2, iv 0, iv 3, iv 0, .unset] [(.int 0), (.ref a1)])) rfl rfl (hb hby d_180) _ ?_
    refine XS.istore X0.here hx rfl (hb hby d_181) rfl (l' := #[rv a1, iv 0, rv a2, iv 0, iv 3, iv 0, iv p4]) rfl ?_
    refine XS.iload X0.here hx rfl (hb hby d_182) rfl ?_
    show SS p e below s₁ m 17 #[rv a1, iv 0, rv a2, iv 0, iv 3, iv 0, iv p4] [(.int p4)] _
    refine XS.sipush X0.here hx rfl (hb hby d_183) ?_
    refine XS.icmpYes X0.here hx rfl (pc0 := 20) (pc' := 26) rfl (hb hby d_184) rfl (flt hc_1).2.2.2 (by decide) (by decide) ?_
    refine XS.aloadN X0.here hx rfl (hb hby d_185) rfl rfl ?_
    refine XS.iloadN X0.here hx rfl (hb hby d_186) rfl ?_
    refine XS.iload X0.here hx rfl (hb hby d_187) rfl ?_
    show SS p e below s₁ m 30 #[rv a1, iv 0, rv a2, iv 0, iv 3, iv 0, iv p4] [(.int p4), (.int 0), (.ref a2)] _
    refine XS.i2b X0.here hx rfl (hb hby d_188) rfl ?_
    show SS p e below s₁ m 31 #[rv a1, iv 0, rv a2, iv 0, iv 3, iv 0, iv p4] [(.int (p4.toInt8.toInt32)), (.int 0), (.ref a2)] _
    refine st4 _ ?_
    refine XS.iinc X4.here hx rfl (hb hby d_190) rfl (l' := #[rv a1, iv 1, rv a2, iv 0, iv 3, iv 0, iv p4]) rfl ?_
    show SS p e below T4 m 35 #[rv a1, iv 1, rv a2, iv 0, iv 3, iv 0, iv p4] [] _
    refine XS.iinc X4.here hx rfl (hb hby d_191) rfl (l' := #[rv a1, iv 1, rv a2, iv 1, iv 3, iv 0, iv p4]) rfl ?_
    show SS p e below T4 m 38 #[rv a1, iv 1, rv a2, iv 1, iv 3, iv 0, iv p4] [] _
    refine XS.iinc X4.here hx rfl (hb hby d_192) rfl (l' := #[rv a1, iv 1, rv a2, iv 1, iv 3, iv 1, iv p4]) rfl ?_
    show SS p e below T4 m 41 #[rv a1, iv 1, rv a2, iv 1, iv 3, iv 1, iv p4] [] _
    refine XS.goto X4.here hx rfl (pc0 := 41) (pc' := 3) rfl (hb hby d_193) (by decide) (by decide) ?_
    refine XS.iload X4.here hx rfl (hb hby d_175) rfl ?_
    refine XS.iload X4.here hx rfl (hb hby d_176) rfl ?_
    refine XS.icmpNo X4.here hx rfl (hb hby d_177) rfl (tlt (by decide : (1 : Int32) < (3 : Int32))).2.1 ?_
    refine XS.aloadN X4.here hx rfl (hb hby d_178) rfl rfl ?_
    refine XS.iloadN X4.here hx rfl (hb hby d_179) rfl ?_
    refine X4.caload hx (j := 1) (v := (.int p5)) (by rw [e4]; exact A9.1) (State.isArrayOf_alike hZ.alike A9.2.1) A9.2.2 i11 (H9.at i11 rfl) (g := (mkF m 12 #[rv a1, iv 1, rv a2, iv 1, iv 3, iv 1, iv p4] [(.int 1), (.ref a1)])) rfl rfl (hb hby d_180) _ ?_
    refine XS.istore X4.here hx rfl (hb hby d_181) rfl (l' := #[rv a1, iv 1, rv a2, iv 1, iv 3, iv 1, iv p5]) rfl ?_
    refine XS.iload X4.here hx rfl (hb hby d_182) rfl ?_
    refine XS.sipush X4.here hx rfl (hb hby d_183) ?_
    show SS p e below T4 m 20 #[rv a1, iv 1, rv a2, iv 1, iv 3, iv 1, iv p5] [(.int 255), (.int p5)] _
    refine XS.icmpYes X4.here hx rfl (pc0 := 20) (pc' := 26) rfl (hb hby d_184) rfl (flt hc_5).2.2.2 (by decide) (by decide) ?_
    refine XS.aloadN X4.here hx rfl (hb hby d_185) rfl rfl ?_
    refine XS.iloadN X4.here hx rfl (hb hby d_186) rfl ?_
    refine XS.iload X4.here hx rfl (hb hby d_187) rfl ?_
    show SS p e below T4 m 30 #[rv a1, iv 1, rv a2, iv 1, iv 3, iv 1, iv p5] [(.int p5), (.int 1), (.ref a2)] _
    refine XS.i2b X4.here hx rfl (hb hby d_188) rfl ?_
    show SS p e below T4 m 31 #[rv a1, iv 1, rv a2, iv 1, iv 3, iv 1, iv p5] [(.int (p5.toInt8.toInt32)), (.int 1), (.ref a2)] _
    refine st13 _ ?_
    refine XS.iinc X13.here hx rfl (hb hby d_190) rfl (l' := #[rv a1, iv 2, rv a2, iv 1, iv 3, iv 1, iv p5]) rfl ?_
    show SS p e below T13 m 35 #[rv a1, iv 2, rv a2, iv 1, iv 3, iv 1, iv p5] [] _
    refine XS.iinc X13.here hx rfl (hb hby d_191) rfl (l' := #[rv a1, iv 2, rv a2, iv 2, iv 3, iv 1, iv p5]) rfl ?_
    show SS p e below T13 m 38 #[rv a1, iv 2, rv a2, iv 2, iv 3, iv 1, iv p5] [] _
    refine XS.iinc X13.here hx rfl (hb hby d_192) rfl (l' := #[rv a1, iv 2, rv a2, iv 2, iv 3, iv 2, iv p5]) rfl ?_
    show SS p e below T13 m 41 #[rv a1, iv 2, rv a2, iv 2, iv 3, iv 2, iv p5] [] _
    refine XS.goto X13.here hx rfl (pc0 := 41) (pc' := 3) rfl (hb hby d_193) (by decide) (by decide) ?_
    refine XS.iload X13.here hx rfl (hb hby d_175) rfl ?_
    refine XS.iload X13.here hx rfl (hb hby d_176) rfl ?_
    refine XS.icmpNo X13.here hx rfl (hb hby d_177) rfl (tlt (by decide : (2 : Int32) < (3 : Int32))).2.1 ?_
    refine XS.aloadN X13.here hx rfl (hb hby d_178) rfl rfl ?_
    refine XS.iloadN X13.here hx rfl (hb hby d_179) rfl ?_
    refine X13.caload hx (j := 2) (v := (.int p6)) (by rw [e13]; exact A18.1) (State.isArrayOf_alike hZ.alike A18.2.1) A18.2.2 i20 (H18.at i20 rfl) (g := (mkF m 12 #[rv a1, iv 2, rv a2, iv 2, iv 3, iv 2, iv p5] [(.int 2), (.ref a1)])) rfl rfl (hb hby d_180) _ ?_
    refine XS.istore X13.here hx rfl (hb hby d_181) rfl (l' := #[rv a1, iv 2, rv a2, iv 2, iv 3, iv 2, iv p6]) rfl ?_
    refine XS.iload X13.here hx rfl (hb hby d_182) rfl ?_
    refine XS.sipush X13.here hx rfl (hb hby d_183) ?_
    show SS p e below T13 m 20 #[rv a1, iv 2, rv a2, iv 2, iv 3, iv 2, iv p6] [(.int 255), (.int p6)] _
    refine XS.icmpYes X13.here hx rfl (pc0 := 20) (pc' := 26) rfl (hb hby d_184) rfl (flt hc_6).2.2.2 (by decide) (by decide) ?_
    refine XS.aloadN X13.here hx rfl (hb hby d_185) rfl rfl ?_
    refine XS.iloadN X13.here hx rfl (hb hby d_186) rfl ?_
    refine XS.iload X13.here hx rfl (hb hby d_187) rfl ?_
    show SS p e below T13 m 30 #[rv a1, iv 2, rv a2, iv 2, iv 3, iv 2, iv p6] [(.int p6), (.int 2), (.ref a2)] _
    refine XS.i2b X13.here hx rfl (hb hby d_188) rfl ?_
    show SS p e below T13 m 31 #[rv a1, iv 2, rv a2, iv 2, iv 3, iv 2, iv p6] [(.int (p6.toInt8.toInt32)), (.int 2), (.ref a2)] _
    refine st22 _ ?_
    refine XS.iinc X22.here hx rfl (hb hby d_190) rfl (l' := #[rv a1, iv 3, rv a2, iv 2, iv 3, iv 2, iv p6]) rfl ?_
    show SS p e below T22 m 35 #[rv a1, iv 3, rv a2, iv 2, iv 3, iv 2, iv p6] [] _
    refine XS.iinc X22.here hx rfl (hb hby d_191) rfl (l' := #[rv a1, iv 3, rv a2, iv 3, iv 3, iv 2, iv p6]) rfl ?_
    show SS p e below T22 m 38 #[rv a1, iv 3, rv a2, iv 3, iv 3, iv 2, iv p6] [] _
    refine XS.iinc X22.here hx rfl (hb hby d_192) rfl (l' := #[rv a1, iv 3, rv a2, iv 3, iv 3, iv 3, iv p6]) rfl ?_
    show SS p e below T22 m 41 #[rv a1, iv 3, rv a2, iv 3, iv 3, iv 3, iv p6] [] _
    refine XS.goto X22.here hx rfl (pc0 := 41) (pc' := 3) rfl (hb hby d_193) (by decide) (by decide) ?_
    refine XS.iload X22.here hx rfl (hb hby d_175) rfl ?_
    refine XS.iload X22.here hx rfl (hb hby d_176) rfl ?_
    refine XS.icmpYes X22.here hx rfl (pc0 := 7) (pc' := 44) rfl (hb hby d_177) rfl (flt (by decide : ¬ ((3 : Int32) < (3 : Int32)))).2.1 (by decide) (by decide) ?_
    refine XS.iload X22.here hx rfl (hb hby d_194) rfl ?_
    exact retI X22 hx hret (hb hby d_195) hr
theorem ef_311 (m : MethodId) (a1 : Addr) : entryFrame m #[(.ref a1), (.int 0), (.int 3)] 6 = mkF m 0 #[rv a1, iv 0, iv 3, .unset, .unset, .unset] [] := by first | (simp [entryFrame, mkF, argsToLocals, Value.category]; done) | rfl
def Q42_compress (Z : State) (a1 : Addr) (k2 : ClassId) (p3 : Int32) (p4 : Int32) (p5 : Int32) (h0 : Heap) (n0 : Nat) (v : Option Value) (h : Heap) (L : List Loc) : Prop := ∃ (b1 : Addr) (k1 : ClassId), v = some (.ref b1) ∧ Fr n0 L ∧ Keep h0 h [] ∧ h0.size ≤ b1 ∧ Arv Z h b1 k1 .byte 3 [(.int (p3.toInt8.toInt32)), (.int (p4.toInt8.toInt32)), (.int (p5.toInt8.toInt32))] (.int 0) ∧ EA16 Z h b1
theorem rm42_compress (l : Launch) (Z : State) (a0 : Array Value) (hw : HW Z a0) (a1 : Addr) (k2 : ClassId) (p3 : Int32) (p4 : Int32) (p5 : Int32) (h0 : Heap) (n0 : Nat) (O0 : Old Z n0 h0) (F_0 : Arv Z h0 a1 k2 .char 3 [(.int p3), (.int p4), (.int p5)] (.int 0)) (hc_1 : ¬ ((255 : Int32) < p3)) (hc_2 : ¬ ((255 : Int32) < p4)) (hc_3 : ¬ ((255 : Int32) < p5)) (lt_4 : a1 < h0.size) :
    Met l Z [] MY6 jdk_52_method_16_code 6 (some (.array .byte)) ({ frames := 1, cells := 1, slots := 3, locals := 18 } : Room) #[(.ref a1), (.int 0), (.int 3)] h0 (Q42_compress Z a1 k2 p3 p4 p5 h0 n0) := by
  have W := @own_W _ _ hw
  refine own_mk (plainFor_of_name pn_197) ?_
  intro p e s m below meth c s₁ hZ hx hby hml hown hnm hret hlk X0 e0
  have N0 := Fr.nil n0
  obtain ⟨T1, h1, k1, X1, e1, E1, A1, B1, st1⟩ := newPE X0 hx hZ (W 23 rfl) e0 (g := (mkF m 1 #[rv a1, iv 0, iv 3, .unset, .unset, .unset] [(.int 3)])) rfl (hb hby d_165) rfl (by decide) (cap := 3) (by decide) (by decide) (by decide) (by decide) (ad := "[B") rfl
  obtain ⟨b1, g1⟩ : ∃ z, z = h0.size := ⟨_, rfl⟩
  rw [← g1] at A1 B1 st1
  have O2 := O0.ext E1
  have K3 : Keep h0 h1 [] := Keep.ext (Keep.refl h0 []) E1
  have v4 : Arv Z h1 b1 k1 .byte 3 [(.int 0), (.int 0), (.int 0)] (.int 0) := (Arv.new A1 (by decide)).pad (pad_rep [] (.int 0) 3)
  have f6 := (F_0.ext E1)
  have g7 : n0 ≤ b1 := Nat.le_trans (Nat.le_trans (Nat.le_of_eq O0.1.symm) O0.2.1) (Nat.le_of_eq g1.symm)
  obtain ⟨_, T5, L5, X5, hQ5, st5⟩ := own_cs X1 hx hZ hown hml (W 24 rfl) (W 25 rfl) (W 21 rfl) (W 26 rfl) (rm41_compress l Z a0 hw a1 b1 k2 p3 p4 p5 k1 (0 : Int32) (0 : Int32) (0 : Int32) h1 n0 O2 (f6) (hc_1) (v4) (g7) ((Nat.ne_of_lt (Nat.lt_of_lt_of_le lt_4 (Nat.le_of_eq g1.symm)))) (hc_2) (hc_3)) e1 (hb hby d_172) 0 #[rv a1, iv 0, iv 3, rv b1, .unset, .unset] [(.ref a1), (.int 0), (.ref b1), (.int 0), (.int 3)] [] pd_198
  obtain ⟨rfl, N5q, K5, F5_0⟩ := hQ5
  have N8 := Fr.app N0 N5q
  have O9 := O2.keep K5 (allS g7 all0)
  have K10 : Keep h0 T5.heap [] := Keep.trans K3 K5 (allS (Or.inr (Nat.le_of_eq g1.symm)) all0)
  have f11 := (B1.keep K5)
  refine ⟨T5, some (.ref b1), _, _, _, X5, by decide, by decide, nofun, ?_, fun fs hr => castTop (ef_311 m a1) ?_⟩
  · show Q42_compress Z a1 k2 p3 p4 p5 h0 n0 _ T5.heap _
    exact ⟨b1, k1, rfl, N8, K10, (Nat.le_of_eq g1.symm), F5_0, f11⟩
  · show SS p e below s₁ m 0 #[rv a1, iv 0, iv 3, .unset, .unset, .unset] [] _
    refine XS.iloadN X0.here hx rfl (hb hby d_164) rfl ?_
    refine st1 _ ?_
    refine XS.astoreN X1.here hx rfl (hb hby d_166) rfl rfl (l' := #[rv a1, iv 0, iv 3, rv b1, .unset, .unset]) rfl ?_
    refine XS.aloadN X1.here hx rfl (hb hby d_167) rfl rfl ?_
    refine XS.iloadN X1.here hx rfl (hb hby d_168) rfl ?_
    refine XS.aloadN X1.here hx rfl (hb hby d_169) rfl rfl ?_
    refine XS.iconst X1.here hx rfl (hb hby d_170) ?_
    refine XS.iloadN X1.here hx rfl (hb hby d_171) rfl ?_
    refine st5 _ ?_
    refine XS.istore X5.here hx rfl (hb hby d_199) rfl (l' := #[rv a1, iv 0, iv 3, rv b1, iv 3, .unset]) rfl ?_
    show SS p e below T5 m 14 #[rv a1, iv 0, iv 3, rv b1, iv 3, .unset] [] _
    refine XS.iload X5.here hx rfl (hb hby d_200) rfl ?_
    refine XS.iloadN X5.here hx rfl (hb hby d_201) rfl ?_
    refine XS.icmpYes X5.here hx rfl (pc0 := 17) (pc' := 57) rfl (hb hby d_202) rfl (teq (by decide : (3 : Int32) = (3 : Int32))).1 (by decide) (by decide) ?_
    refine XS.aloadN X5.here hx rfl (hb hby d_203) rfl rfl ?_
    exact retOut X5 hx hret rfl (Or.inr (Or.inr (Or.inr (Or.inr ⟨rfl, rfl, rfl⟩)))) (hb hby d_204) hr
theorem ef_312 (m : MethodId) (a1 : Addr) : entryFrame m #[(.ref a1), (.int 3)] 2 = mkF m 0 #[rv a1, iv 3] [] := by first | (simp [entryFrame, mkF, argsToLocals, Value.category]; done) | rfl
def Q43_coderFromArrayLen (Z : State) (a1 : Addr) (k2 : ClassId) (p3 : Int32) (p4 : Int32) (p5 : Int32) (h0 : Heap) (n0 : Nat) (v : Option Value) (h : Heap) (L : List Loc) : Prop := v = some (.int 0) ∧ Fr n0 L ∧ h = h0
theorem rm43_coderFromArrayLen (l : Launch) (Z : State) (a0 : Array Value) (hw : HW Z a0) (a1 : Addr) (k2 : ClassId) (p3 : Int32) (p4 : Int32) (p5 : Int32) (h0 : Heap) (n0 : Nat) (O0 : Old Z n0 h0) (F_0 : Arv Z h0 a1 k2 .byte 3 [(.int p3), (.int p4), (.int p5)] (.int 0)) :
    Met l Z [] MY7 jdk_52_method_15_code 2 (some .byte) ({ frames := 0, cells := 0, slots := 0, locals := 0 } : Room) #[(.ref a1), (.int 3)] h0 (Q43_coderFromArrayLen Z a1 k2 p3 p4 p5 h0 n0) := by
  have W := @own_W _ _ hw
  refine own_mk (plainFor_of_name pn_197) ?_
  intro p e s m below meth c s₁ hZ hx hby hml hown hnm hret hlk X0 e0
  have N0 := Fr.nil n0
  obtain ⟨c1, A1, q1, S1, N1, H1, G1⟩ := id F_0
  refine ⟨s₁, some (.int 0), _, _, _, X0, by decide, by decide, nofun, ?_, fun fs hr => castTop (ef_312 m a1) ?_⟩
  · show Q43_coderFromArrayLen Z a1 k2 p3 p4 p5 h0 n0 _ s₁.heap _
    rw [e0]
    exact ⟨rfl, N0, rfl⟩
  · show SS p e below s₁ m 0 #[rv a1, iv 3] [] _
    refine XS.iloadN X0.here hx rfl (hb hby d_212) rfl ?_
    refine XS.aloadN X0.here hx rfl (hb hby d_213) rfl rfl ?_
    refine X0.arraylength hx (by rw [e0]; exact A1.1) (State.isArrayOf_alike hZ.alike A1.2.1) (g := (mkF m 2 #[rv a1, iv 3] [(.ref a1), (.int 3)])) rfl rfl (hb hby d_214) _ ?_
    rw [len_of S1 N1]
    refine XS.isub X0.here hx rfl (hb hby d_215) rfl ?_
    show SS p e below s₁ m 4 #[rv a1, iv 3] [(.int 0)] _
    refine XS.bipush X0.here hx rfl (hb hby d_216) ?_
    refine XS.iushr X0.here hx rfl (hb hby d_217) rfl ?_
    show SS p e below s₁ m 7 #[rv a1, iv 3] [(.int 0)] _
    refine XS.i2b X0.here hx rfl (hb hby d_218) rfl ?_
    show SS p e below s₁ m 8 #[rv a1, iv 3] [(.int 0)] _
    exact retN X0 hx (t := .byte) hret (by simp) (hb hby d_219) hr
theorem ef_313 (m : MethodId) (a1 : Addr) (a2 : Addr) : entryFrame m #[(.ref a1), (.ref a2), (.int 0), (.int 3), .null] 6 = mkF m 0 #[rv a1, rv a2, iv 0, iv 3, .val .null, .unset] [] := by first | (simp [entryFrame, mkF, argsToLocals, Value.category]; done) | rfl
def Q44_init (Z : State) (a1 : Addr) (a2 : Addr) (p3 : Int32) (k4 : ClassId) (p5 : Int32) (p6 : Int32) (p7 : Int32) (h0 : Heap) (n0 : Nat) (v : Option Value) (h : Heap) (L : List Loc) : Prop := ∃ (b3_0 : Addr) (k3_0 : ClassId), v = none ∧ Fr n0 L ∧ Keep h0 h [a1] ∧ h0.size ≤ b3_0 ∧ Arv Z h b3_0 k3_0 .byte 3 [(.int (p5.toInt8.toInt32)), (.int (p6.toInt8.toInt32)), (.int (p7.toInt8.toInt32))] (.int 0) ∧ EA16 Z h b3_0 ∧ FA11 Z h a1 (.int 0) ∧ FA12 Z h a1 (.ref b3_0)
theorem rm44_init (l : Launch) (Z : State) (a0 : Array Value) (hw : HW Z a0) (a1 : Addr) (a2 : Addr) (p3 : Int32) (k4 : ClassId) (p5 : Int32) (p6 : Int32) (p7 : Int32) (h0 : Heap) (n0 : Nat) (O0 : Old Z n0 h0) (S_0 : SA18 Z Z.heap (.int p3)) (hc_1 : ¬ (p3 = (0 : Int32))) (F_2 : Arv Z h0 a2 k4 .char 3 [(.int p5), (.int p6), (.int p7)] (.int 0)) (hc_3 : ¬ ((255 : Int32) < p5)) (hc_4 : ¬ ((255 : Int32) < p6)) (hc_5 : ¬ ((255 : Int32) < p7)) (lt_6 : a2 < h0.size) (F_7 : EA14 Z h0 a1) (F_8 : FA11 Z h0 a1 (.int 0)) (g_9 : n0 ≤ a1) (F_10 : FA12 Z h0 a1 .null) (lt_11 : a1 < h0.size) :
    Met l Z [] MY8 jdk_42_method_149_code 6 none ({ frames := 2, cells := 1, slots := 3, locals := 35 } : Room) #[(.ref a1), (.ref a2), (.int 0), (.int 3), .null] h0 (Q44_init Z a1 a2 p3 k4 p5 p6 p7 h0 n0) := by
  have W := @own_W _ _ hw
  refine own_mk (plainFor_of_name pn_52) ?_
  intro p e s m below meth c s₁ hZ hx hby hml hown hnm hret hlk X0 e0
  have N0 := Fr.nil n0
  obtain ⟨T1, X1, e1, st1⟩ := initO X0 hx hZ hown (W 15 rfl) (W 16 rfl) (W 17 rfl) e0 (g := (mkF m 1 #[rv a1, rv a2, iv 0, iv 3, .val .null, .unset] [(.ref a1)])) rfl (by rw [hml]; rfl) rfl (hb hby d_155) (by decide) (W := 0) (by show 2 * 0 + _ ≤ _; exact Nat.le_of_eq rfl) (by decide)
  obtain ⟨T2, X2, e2, st2⟩ := getS2 X1 hx hZ hown (host := "") (Or.inl (W 18 rfl)) Via.refl e1 (S_0.ext O0.2) (g := (mkF m 27 #[rv a1, rv a2, iv 0, iv 3, .val .null, .unset] [])) rfl (hb hby d_158)
  obtain ⟨_, T3, L3, X3, hQ3, st3⟩ := own_cs X2 hx hZ hown hml (W 19 rfl) (W 20 rfl) (W 21 rfl) (W 22 rfl) (rm42_compress l Z a0 hw a2 k4 p5 p6 p7 h0 n0 O0 (F_2) (hc_3) (hc_4) (hc_5) (lt_6)) e2 (hb hby d_163) 0 #[rv a1, rv a2, iv 0, iv 3, .val .null, .unset] [(.ref a2), (.int 0), (.int 3)] [] pd_206
  obtain ⟨b3_0, k3_0, rfl, N3q, K3, gb3_0, F3_0, F3_1⟩ := hQ3
  have N4 := Fr.app N0 N3q
  have O5 := O0.keep K3 all0
  have K6 : Keep h0 T3.heap [a1] := Keep.trans (Keep.refl h0 [a1]) K3 all0
  obtain ⟨_, T7, L7, X7, hQ7, st7⟩ := own_cs X3 hx hZ hown hml (W 27 rfl) (W 28 rfl) (W 21 rfl) (W 29 rfl) (rm43_coderFromArrayLen l Z a0 hw b3_0 k3_0 (p5.toInt8.toInt32) (p6.toInt8.toInt32) (p7.toInt8.toInt32) T3.heap n0 O5 (F3_0)) rfl (hb hby d_211) 1 #[rv a1, rv a2, iv 0, iv 3, .val .null, rv b3_0] [(.ref b3_0), (.int 3)] [(.ref a1)] pd_221
  obtain ⟨rfl, N7q, K7⟩ := hQ7
  have N8 := Fr.app N4 N7q
  have f10 := (F_8.keep K3 nin0)
  have f11 := (F_7.keep K3)
  obtain ⟨T9, h9, X9, e9, W9, st9⟩ := putFN X7 hx hZ hown (W 30 rfl) Via.refl K7 f10 f11 (Or.inr ⟨(W 31 rfl), rfl, hnm⟩) (W 5 rfl) (ty := .byte) (v' := (.int 0)) (by decide) rfl rfl (g := (mkF m 48 #[rv a1, rv a2, iv 0, iv 3, .val .null, rv b3_0] [(.int 0), (.ref a1)])) rfl rfl (hb hby d_222)
  have O12 := O5.wr W9 g_9
  have K13 : Keep h0 h9 [a1] := Keep.wr K6 W9 (Or.inl (List.mem_of_getElem? (i := 0) rfl))
  have f14 : FA11 Z h9 a1 (.int 0) := (f10.same W9)
  have N15 := Fr.snoc X9 N8 g_9
  have f17 := ((F_10.keep K3 nin0).other W9 (Or.inr (slot_ne (Or.inr (W 33 rfl)) (Or.inr (W 31 rfl)) (by decide) (t := (.array .byte)) (t' := .byte) (by decide) (by decide))))
  have f18 := (f11.wr W9)
  obtain ⟨T16, h16, X16, e16, W16, st16⟩ := putF X9 hx hZ hown (host := "") (Or.inl (W 32 rfl)) Via.refl e9 f17 f18 (Or.inr ⟨(W 33 rfl), rfl, hnm⟩) (W 5 rfl) (ty := (.array .byte)) (by decide) rfl rfl (g := (mkF m 54 #[rv a1, rv a2, iv 0, iv 3, .val .null, rv b3_0] [(.ref b3_0), (.ref a1)])) rfl rfl (hb hby d_225)
  have O19 := O12.wr W16 g_9
  have K20 : Keep h0 h16 [a1] := Keep.wr K13 W16 (Or.inl (List.mem_of_getElem? (i := 0) rfl))
  have f21 : FA12 Z h16 a1 (.ref b3_0) := (f17.same W16)
  have N22 := Fr.snoc X16 N15 g_9
  have f23 := ((F3_0.other W9 (Ne.symm (Nat.ne_of_lt (Nat.lt_of_lt_of_le lt_11 gb3_0)))).other W16 (Ne.symm (Nat.ne_of_lt (Nat.lt_of_lt_of_le lt_11 gb3_0))))
  have f24 := ((F3_1.wr W9).wr W16)
  have f25 := (f14.other W16 (Or.inr (slot_ne (Or.inr (W 31 rfl)) (Or.inr (W 33 rfl)) (by decide) (t := .byte) (t' := (.array .byte)) (by decide) (by decide))))
  refine ⟨T16, none, _, _, _, X16, by decide, by decide, (fun _ => rfl), ?_, fun fs hr => castTop (ef_313 m a1 a2) ?_⟩
  · show Q44_init Z a1 a2 p3 k4 p5 p6 p7 h0 n0 _ T16.heap _
    rw [e16]
    exact ⟨b3_0, k3_0, rfl, N22, K20, gb3_0, f23, f24, f25, f21⟩
  · show SS p e below s₁ m 0 #[rv a1, rv a2, iv 0, iv 3, .val .null, .unset] [] _
    refine XS.aloadN X0.here hx rfl (hb hby d_154) rfl rfl ?_
    refine st1 _ ?_
    refine XS.iloadN X1.here hx rfl (hb hby d_156) rfl ?_
    refine XS.ifYes X1.here hx rfl (pc0 := 5) (pc' := 27) rfl (hb hby d_157) rfl ((if0 _ _).trans (feq (by decide : ¬ ((3 : Int32) = (0 : Int32)))).2) (by decide) (by decide) ?_
    refine st2 _ ?_
    refine XS.ifNo X2.here hx rfl (hb hby d_159) rfl ((if0 _ _).trans (feq hc_1).1) ?_
    refine XS.aloadN X2.here hx rfl (hb hby d_160) rfl rfl ?_
    refine XS.iloadN X2.here hx rfl (hb hby d_161) rfl ?_
    refine XS.iloadN X2.here hx rfl (hb hby d_162) rfl ?_
    refine st3 _ ?_
    show SS p e below T3 m 39 #[rv a1, rv a2, iv 0, iv 3, .val .null, .unset] [(.ref b3_0)] _
    refine XS.astore X3.here hx rfl (hb hby d_207) rfl rfl (l' := #[rv a1, rv a2, iv 0, iv 3, .val .null, rv b3_0]) rfl ?_
    refine XS.aloadN X3.here hx rfl (hb hby d_208) rfl rfl ?_
    refine XS.aload X3.here hx rfl (hb hby d_209) rfl rfl ?_
    refine XS.iloadN X3.here hx rfl (hb hby d_210) rfl ?_
    refine st7 _ ?_
    refine st9 _ ?_
    refine XS.aloadN X9.here hx rfl (hb hby d_223) rfl rfl ?_
    refine XS.aload X9.here hx rfl (hb hby d_224) rfl rfl ?_
    refine st16 _ ?_
    exact X16.returnOut hx hret (hb hby d_226) hr
def Q45_init (Z : State) (a1 : Addr) (a2 : Addr) (k3 : ClassId) (p4 : Int32) (p5 : Int32) (p6 : Int32) (p7 : Int32) (h0 : Heap) (n0 : Nat) (v : Option Value) (h : Heap) (L : List Loc) : Prop := ∃ (b2_0 : Addr) (k2_0 : ClassId), v = none ∧ Fr n0 L ∧ Keep h0 h [a1] ∧ h0.size ≤ b2_0 ∧ Arv Z h b2_0 k2_0 .byte 3 [(.int (p4.toInt8.toInt32)), (.int (p5.toInt8.toInt32)), (.int (p6.toInt8.toInt32))] (.int 0) ∧ EA16 Z h b2_0 ∧ FA11 Z h a1 (.int 0) ∧ FA12 Z h a1 (.ref b2_0)
theorem rm45_init (l : Launch) (Z : State) (a0 : Array Value) (hw : HW Z a0) (a1 : Addr) (a2 : Addr) (k3 : ClassId) (p4 : Int32) (p5 : Int32) (p6 : Int32) (p7 : Int32) (h0 : Heap) (n0 : Nat) (O0 : Old Z n0 h0) (F_0 : Arv Z h0 a2 k3 .char 3 [(.int p4), (.int p5), (.int p6)] (.int 0)) (S_1 : SA18 Z Z.heap (.int p7)) (hc_2 : ¬ (p7 = (0 : Int32))) (hc_3 : ¬ ((255 : Int32) < p4)) (hc_4 : ¬ ((255 : Int32) < p5)) (hc_5 : ¬ ((255 : Int32) < p6)) (F_6 : EA14 Z h0 a1) (F_7 : FA11 Z h0 a1 (.int 0)) (F_8 : FA12 Z h0 a1 .null) (lt_9 : a2 < h0.size) (g_10 : n0 ≤ a1) (lt_11 : a1 < h0.size) :
    Met l Z [] MY9 jdk_42_method_3_code 2 none ({ frames := 3, cells := 1, slots := 3, locals := 52 } : Room) #[(.ref a1), (.ref a2)] h0 (Q45_init Z a1 a2 k3 p4 p5 p6 p7 h0 n0) := by
  have W := @own_W _ _ hw
  refine own_mk (plainFor_of_name pn_52) ?_
  intro p e s m below meth c s₁ hZ hx hby hml hown hnm hret hlk X0 e0
  have N0 := Fr.nil n0
  obtain ⟨c1, A1, q1, S1, N1, H1, G1⟩ := id F_0
  obtain ⟨_, T2, L2, X2, hQ2, st2⟩ := own_cp X0 hx hZ hown hml rfl (W 11 rfl) (W 12 rfl) (W 6 rfl) (W 14 rfl) (rm44_init l Z a0 hw a1 a2 p7 k3 p4 p5 p6 h0 n0 O0 (S_1) (hc_2) (F_0) (hc_3) (hc_4) (hc_5) (lt_9) (F_6) (F_7) (g_10) (F_8) (lt_11)) e0 (hb hby d_153) 0 #[rv a1, rv a2] a1 [(.ref a2), (.int 0), (.int 3), .null] [] pd_228
  obtain ⟨b2_0, k2_0, rfl, N2q, K2, gb2_0, F2_0, F2_1, F2_2, F2_3⟩ := hQ2
  have N3 := Fr.app N0 N2q
  have O4 := O0.keep K2 (allS g_10 all0)
  have K5 : Keep h0 T2.heap [a1] := Keep.trans (Keep.refl h0 [a1]) K2 (allS (Or.inl (List.mem_of_getElem? (i := 0) rfl)) all0)
  refine ⟨T2, none, _, _, _, X2, by decide, by decide, (fun _ => rfl), ?_, fun fs hr => castTop (ef_230 m a1 a2) ?_⟩
  · show Q45_init Z a1 a2 k3 p4 p5 p6 p7 h0 n0 _ T2.heap _
    exact ⟨b2_0, k2_0, rfl, N3, K5, gb2_0, F2_0, F2_1, F2_2, F2_3⟩
  · show SS p e below s₁ m 0 #[rv a1, rv a2] [] _
    refine XS.aloadN X0.here hx rfl (hb hby d_147) rfl rfl ?_
    refine XS.aloadN X0.here hx rfl (hb hby d_148) rfl rfl ?_
    refine XS.iconst X0.here hx rfl (hb hby d_149) ?_
    refine XS.aloadN X0.here hx rfl (hb hby d_150) rfl rfl ?_
    refine X0.arraylength hx (by rw [e0]; exact A1.1) (State.isArrayOf_alike hZ.alike A1.2.1) (g := (mkF m 4 #[rv a1, rv a2] [(.ref a2), (.int 0), (.ref a2), (.ref a1)])) rfl rfl (hb hby d_151) _ ?_
    rw [len_of S1 N1]
    refine XS.aconstNull X0.here hx rfl (hb hby d_152) ?_
    refine st2 _ ?_
    exact X2.returnOut hx hret (hb hby d_229) hr
theorem d_314 : decode method_3_code 86 = .ok (.areturn, 1) := by decide +kernel
theorem ef_315 (m : MethodId) (p1 : Int32) (p2 : Int32) (p3 : Int32) (p4 : Int32) (p5 : Int32) (p6 : Int32) (p7 : Int32) : entryFrame m #[(.int 3), (.int p1), (.int p2), (.int p3), (.int p4), (.int p5), (.int p6), (.int p7)] 8 = mkF m 0 #[iv 3, iv p1, iv p2, iv p3, iv p4, iv p5, iv p6, iv p7] [] := by first | (simp [entryFrame, mkF, argsToLocals, Value.category]; done) | rfl
def Q46_str (Z : State) (p1 : Int32) (p2 : Int32) (p3 : Int32) (p4 : Int32) (p5 : Int32) (p6 : Int32) (p7 : Int32) (p8 : Int32) (h0 : Heap) (n0 : Nat) (v : Option Value) (h : Heap) (L : List Loc) : Prop := ∃ (b1 : Addr) (b28_0 : Addr) (k28_0 : ClassId), v = some (.ref b1) ∧ Fr n0 L ∧ Keep h0 h [] ∧ h0.size ≤ b1 ∧ h0.size ≤ b28_0 ∧ EA14 Z h b1 ∧ FA11 Z h b1 (.int 0) ∧ FA12 Z h b1 (.ref b28_0) ∧ Arv Z h b28_0 k28_0 .byte 3 [(.int (p1.toInt8.toInt32)), (.int (p2.toInt8.toInt32)), (.int (p3.toInt8.toInt32))] (.int 0) ∧ EA16 Z h b28_0
theorem rm46_str (l : Launch) (Z : State) (a0 : Array Value) (hw : HW Z a0) (p1 : Int32) (p2 : Int32) (p3 : Int32) (p4 : Int32) (p5 : Int32) (p6 : Int32) (p7 : Int32) (p8 : Int32) (h0 : Heap) (n0 : Nat) (O0 : Old Z n0 h0) (nr_0 : nar .char p1 = p1) (nr_1 : nar .char p2 = p2) (nr_2 : nar .char p3 = p3) (S_3 : SA18 Z Z.heap (.int p8)) (hc_4 : ¬ (p8 = (0 : Int32))) (hc_5 : ¬ ((255 : Int32) < p1)) (hc_6 : ¬ ((255 : Int32) < p2)) (hc_7 : ¬ ((255 : Int32) < p3)) :
    Met l Z [] MY10 method_3_code 8 (some (.object "java/lang/String")) ({ frames := 4, cells := 3, slots := 10, locals := 66 } : Room) #[(.int 3), (.int p1), (.int p2), (.int p3), (.int p4), (.int p5), (.int p6), (.int p7)] h0 (Q46_str Z p1 p2 p3 p4 p5 p6 p7 p8 h0 n0) := by
  have W := @own_W _ _ hw
  refine own_mk (plainFor_of_name pn_234) ?_
  intro p e s m below meth c s₁ hZ hx hby hml hown hnm hret hlk X0 e0
  have N0 := Fr.nil n0
  obtain ⟨T1, h1, X1, e1, E1, A1, D1, -, st1⟩ := newO X0 hx hZ hown (W 4 rfl) (W 5 rfl) (W 6 rfl) e0 (g := (mkF m 64 #[iv 3, iv p1, iv p2, iv p3, iv p4, iv p5, iv p6, iv p7] [])) rfl (hb hby d_293) (by decide) (by decide)
  obtain ⟨b1, g1⟩ : ∃ z, z = h0.size := ⟨_, rfl⟩
  rw [← g1] at A1 D1 st1
  have O2 := O0.ext E1
  have K3 : Keep h0 h1 [] := Keep.ext (Keep.refl h0 []) E1
  obtain ⟨T4, h4, k4, X4, e4, E4, A4, B4, st4⟩ := newPE X1 hx hZ (W 7 rfl) e1 (g := (mkF m 69 #[iv 3, iv p1, iv p2, iv p3, iv p4, iv p5, iv p6, iv p7] [(.int 3), (.ref b1), (.ref b1)])) rfl (hb hby d_296) rfl (by decide) (cap := 3) (by decide) (by decide) (by decide) (by decide) (ad := "[C") rfl
  obtain ⟨b4, g4⟩ : ∃ z, z = h1.size := ⟨_, rfl⟩
  rw [← g4] at A4 B4 st4
  have O5 := O2.ext E4
  have K6 : Keep h0 h4 [] := Keep.ext K3 E4
  have v7 : Arv Z h4 b4 k4 .char 3 [(.int 0), (.int 0), (.int 0)] (.int 0) := (Arv.new A4 (by decide)).pad (pad_rep [] (.int 0) 3)
  obtain ⟨c8, A8, q8, S8, N8, H8, G8⟩ := id v7
  have i9 : NB 0 c8 := inb_of S8 (by decide)
  obtain ⟨T9, h9, X9, e9, W9, st9⟩ := stC X4 hx hZ e4 A8 (j := 0) i9 (g := (mkF m 74 #[iv 3, iv p1, iv p2, iv p3, iv p4, iv p5, iv p6, iv p7] [(.int p1), (.int 0), (.ref b4), (.ref b4), (.ref b1), (.ref b1)])) rfl rfl (hb hby d_300)
  rw [nr_0] at W9
  have z10 : h0.size ≤ h1.size := E1.1
  have g11 : n0 ≤ b4 := Nat.le_trans (Nat.le_trans (Nat.le_trans (Nat.le_of_eq O0.1.symm) O0.2.1) z10) (Nat.le_of_eq g4.symm)
  have O12 := O5.wr W9 g11
  have K13 : Keep h0 h9 [] := Keep.wr K6 W9 (Or.inr (Nat.le_trans z10 (Nat.le_of_eq g4.symm)))
  have v14 : Arv Z h9 b4 k4 .char 3 [(.int p1), (.int 0), (.int 0)] (.int 0) := Arv.set A8 q8 S8 N8 H8 G8 (own_fput (by simp) nr_0) W9 0 rfl (Nat.le_of_ble_eq_true rfl)
  have N15 := Fr.snoc X9 N0 g11
  obtain ⟨c16, A16, q16, S16, N16, H16, G16⟩ := id v14
  have i17 : NB 1 c16 := inb_of S16 (by decide)
  obtain ⟨T17, h17, X17, e17, W17, st17⟩ := stC X9 hx hZ e9 A16 (j := 1) i17 (g := (mkF m 78 #[iv 3, iv p1, iv p2, iv p3, iv p4, iv p5, iv p6, iv p7] [(.int p2), (.int 1), (.ref b4), (.ref b4), (.ref b1), (.ref b1)])) rfl rfl (hb hby d_304)
  rw [nr_1] at W17
  have O18 := O12.wr W17 g11
  have K19 : Keep h0 h17 [] := Keep.wr K13 W17 (Or.inr (Nat.le_trans z10 (Nat.le_of_eq g4.symm)))
  have v20 : Arv Z h17 b4 k4 .char 3 [(.int p1), (.int p2), (.int 0)] (.int 0) := Arv.set A16 q16 S16 N16 H16 G16 (own_fput (by simp) nr_1) W17 1 rfl (Nat.le_of_ble_eq_true rfl)
  have N21 := Fr.snoc X17 N15 g11
  obtain ⟨c22, A22, q22, S22, N22, H22, G22⟩ := id v20
  have i23 : NB 2 c22 := inb_of S22 (by decide)
  obtain ⟨T23, h23, X23, e23, W23, st23⟩ := stC X17 hx hZ e17 A22 (j := 2) i23 (g := (mkF m 82 #[iv 3, iv p1, iv p2, iv p3, iv p4, iv p5, iv p6, iv p7] [(.int p3), (.int 2), (.ref b4), (.ref b4), (.ref b1), (.ref b1)])) rfl rfl (hb hby d_308)
  rw [nr_2] at W23
  have O24 := O18.wr W23 g11
  have K25 : Keep h0 h23 [] := Keep.wr K19 W23 (Or.inr (Nat.le_trans z10 (Nat.le_of_eq g4.symm)))
  have v26 : Arv Z h23 b4 k4 .char 3 [(.int p1), (.int p2), (.int p3)] (.int 0) := Arv.set A22 q22 S22 N22 H22 G22 (own_fput (by simp) nr_2) W23 2 rfl (Nat.le_of_ble_eq_true rfl)
  have N27 := Fr.snoc X23 N21 g11
  have f29 := ((((A1.ext E4).wr W9).wr W17).wr W23)
  have f30 := (((((D1 (Or.inr (W 31 rfl)) (ty := .byte) (by decide) : FA11 Z h1 b1 (.int 0)).ext E4).other W9 (Or.inl (Nat.ne_of_lt (Nat.lt_of_lt_of_le A1.lt (Nat.le_of_eq g4.symm))))).other W17 (Or.inl (Nat.ne_of_lt (Nat.lt_of_lt_of_le A1.lt (Nat.le_of_eq g4.symm))))).other W23 (Or.inl (Nat.ne_of_lt (Nat.lt_of_lt_of_le A1.lt (Nat.le_of_eq g4.symm)))))
  have f31 := (((((D1 (Or.inr (W 33 rfl)) (ty := (.array .byte)) (by decide) : FA12 Z h1 b1 .null).ext E4).other W9 (Or.inl (Nat.ne_of_lt (Nat.lt_of_lt_of_le A1.lt (Nat.le_of_eq g4.symm))))).other W17 (Or.inl (Nat.ne_of_lt (Nat.lt_of_lt_of_le A1.lt (Nat.le_of_eq g4.symm))))).other W23 (Or.inl (Nat.ne_of_lt (Nat.lt_of_lt_of_le A1.lt (Nat.le_of_eq g4.symm)))))
  have z32 : h4.size ≤ h9.size := (Nat.le_of_eq W9.size.symm)
  have z33 : h4.size ≤ h17.size := (Nat.le_trans z32 (Nat.le_of_eq W17.size.symm))
  have z34 : h4.size ≤ h23.size := (Nat.le_trans z33 (Nat.le_of_eq W23.size.symm))
  have g35 : n0 ≤ b1 := Nat.le_trans (Nat.le_trans (Nat.le_of_eq O0.1.symm) O0.2.1) (Nat.le_of_eq g1.symm)
  have z36 : h1.size ≤ h4.size := E4.1
  have z37 : h1.size ≤ h9.size := (Nat.le_trans z36 (Nat.le_of_eq W9.size.symm))
  have z38 : h1.size ≤ h17.size := (Nat.le_trans z37 (Nat.le_of_eq W17.size.symm))
  have z39 : h1.size ≤ h23.size := (Nat.le_trans z38 (Nat.le_of_eq W23.size.symm))
  obtain ⟨_, T28, L28, X28, hQ28, st28⟩ := own_cp X23 hx hZ hown hml rfl (W 8 rfl) (W 9 rfl) (W 6 rfl) (W 10 rfl) (rm45_init l Z a0 hw b1 b4 k4 p1 p2 p3 p8 h23 n0 O24 (v26) (S_3) (hc_4) (hc_5) (hc_6) (hc_7) (f29) (f30) (f31) ((Nat.lt_of_lt_of_le A4.lt z34)) (g35) ((Nat.lt_of_lt_of_le A1.lt z39))) e23 (hb hby d_309) 1 #[iv 3, iv p1, iv p2, iv p3, iv p4, iv p5, iv p6, iv p7] b1 [(.ref b4)] [(.ref b1)] pd_231
  obtain ⟨b28_0, k28_0, rfl, N28q, K28, gb28_0, F28_0, F28_1, F28_2, F28_3⟩ := hQ28
  have N40 := Fr.app N27 N28q
  have O41 := O24.keep K28 (allS g35 all0)
  have K42 : Keep h0 T28.heap [] := Keep.trans K25 K28 (allS (Or.inr (Nat.le_of_eq g1.symm)) all0)
  have f43 := (f29.keep K28)
  have z44 : h0.size ≤ h4.size := (Nat.le_trans z10 E4.1)
  have z45 : h0.size ≤ h9.size := (Nat.le_trans z44 (Nat.le_of_eq W9.size.symm))
  have z46 : h0.size ≤ h17.size := (Nat.le_trans z45 (Nat.le_of_eq W17.size.symm))
  have z47 : h0.size ≤ h23.size := (Nat.le_trans z46 (Nat.le_of_eq W23.size.symm))
  refine ⟨T28, some (.ref b1), _, _, _, X28, by decide, by decide, nofun, ?_, fun fs hr => castTop (ef_315 m p1 p2 p3 p4 p5 p6 p7) ?_⟩
  · show Q46_str Z p1 p2 p3 p4 p5 p6 p7 p8 h0 n0 _ T28.heap _
    exact ⟨b1, b28_0, k28_0, rfl, N40, K42, (Nat.le_of_eq g1.symm), (Nat.le_trans z47 gb28_0), f43, F28_2, F28_3, F28_0, F28_1⟩
  · show SS p e below s₁ m 0 #[iv 3, iv p1, iv p2, iv p3, iv p4, iv p5, iv p6, iv p7] [] _
    refine XS.iloadN X0.here hx rfl (hb hby d_98) rfl ?_
    refine XS.ifYes X0.here hx rfl (pc0 := 1) (pc' := 15) rfl (hb hby d_99) rfl ((if0 _ _).trans (feq (by decide : ¬ ((3 : Int32) = (0 : Int32)))).2) (by decide) (by decide) ?_
    refine XS.iloadN X0.here hx rfl (hb hby d_100) rfl ?_
    refine XS.iconst X0.here hx rfl (hb hby d_101) ?_
    refine XS.icmpYes X0.here hx rfl (pc0 := 17) (pc' := 35) rfl (hb hby d_102) rfl (feq (by decide : ¬ ((3 : Int32) = (1 : Int32)))).2 (by decide) (by decide) ?_
    refine XS.iloadN X0.here hx rfl (hb hby d_103) rfl ?_
    refine XS.iconst X0.here hx rfl (hb hby d_104) ?_
    refine XS.icmpYes X0.here hx rfl (pc0 := 37) (pc' := 59) rfl (hb hby d_105) rfl (feq (by decide : ¬ ((3 : Int32) = (2 : Int32)))).2 (by decide) (by decide) ?_
    refine XS.iloadN X0.here hx rfl (hb hby d_106) rfl ?_
    refine XS.iconst X0.here hx rfl (hb hby d_107) ?_
    show SS p e below s₁ m 61 #[iv 3, iv p1, iv p2, iv p3, iv p4, iv p5, iv p6, iv p7] [(.int 3), (.int 3)] _
    refine XS.icmpNo X0.here hx rfl (hb hby d_108) rfl (teq (by decide : (3 : Int32) = (3 : Int32))).2 ?_
    refine st1 _ ?_
    refine XS.dup X1.here hx rfl (hb hby d_294) rfl rfl ?_
    refine XS.iconst X1.here hx rfl (hb hby d_295) ?_
    refine st4 _ ?_
    refine XS.dup X4.here hx rfl (hb hby d_297) rfl rfl ?_
    refine XS.iconst X4.here hx rfl (hb hby d_298) ?_
    refine XS.iloadN X4.here hx rfl (hb hby d_299) rfl ?_
    refine st9 _ ?_
    refine XS.dup X9.here hx rfl (hb hby d_301) rfl rfl ?_
    show SS p e below T9 m 76 #[iv 3, iv p1, iv p2, iv p3, iv p4, iv p5, iv p6, iv p7] [(.ref b4), (.ref b4), (.ref b1), (.ref b1)] _
    refine XS.iconst X9.here hx rfl (hb hby d_302) ?_
    refine XS.iloadN X9.here hx rfl (hb hby d_303) rfl ?_
    refine st17 _ ?_
    refine XS.dup X17.here hx rfl (hb hby d_305) rfl rfl ?_
    refine XS.iconst X17.here hx rfl (hb hby d_306) ?_
    refine XS.iloadN X17.here hx rfl (hb hby d_307) rfl ?_
    refine st23 _ ?_
    refine st28 _ ?_
    exact retOut X28 hx hret rfl (Or.inr (Or.inr (Or.inr (Or.inr ⟨rfl, rfl, rfl⟩)))) (hb hby d_314) hr
theorem d_316 : decode method_3_code 92 = .ok (.new 14, 3) := by decide +kernel
theorem d_317 : decode method_3_code 95 = .ok (.dup, 1) := by decide +kernel
theorem d_318 : decode method_3_code 96 = .ok (.iconst 4, 1) := by decide +kernel
theorem d_319 : decode method_3_code 97 = .ok (.newarray .char, 2) := by decide +kernel
theorem d_320 : decode method_3_code 99 = .ok (.dup, 1) := by decide +kernel
theorem d_321 : decode method_3_code 100 = .ok (.iconst 0, 1) := by decide +kernel
theorem d_322 : decode method_3_code 101 = .ok (.iload_n 1, 1) := by decide +kernel
theorem d_323 : decode method_3_code 102 = .ok (.castore, 1) := by decide +kernel
theorem d_324 : decode method_3_code 103 = .ok (.dup, 1) := by decide +kernel
theorem d_325 : decode method_3_code 104 = .ok (.iconst 1, 1) := by decide +kernel
theorem d_326 : decode method_3_code 105 = .ok (.iload_n 2, 1) := by decide +kernel
theorem d_327 : decode method_3_code 106 = .ok (.castore, 1) := by decide +kernel
theorem d_328 : decode method_3_code 107 = .ok (.dup, 1) := by decide +kernel
theorem d_329 : decode method_3_code 108 = .ok (.iconst 2, 1) := by decide +kernel
theorem d_330 : decode method_3_code 109 = .ok (.iload_n 3, 1) := by decide +kernel
theorem d_331 : decode method_3_code 110 = .ok (.castore, 1) := by decide +kernel
theorem d_332 : decode method_3_code 111 = .ok (.dup, 1) := by decide +kernel
theorem d_333 : decode method_3_code 112 = .ok (.iconst 3, 1) := by decide +kernel
theorem d_334 : decode method_3_code 113 = .ok (.iload 4, 2) := by decide +kernel
theorem d_335 : decode method_3_code 115 = .ok (.castore, 1) := by decide +kernel
theorem d_336 : decode method_3_code 116 = .ok (.invokespecial 16, 3) := by decide +kernel
theorem ef_337 (m : MethodId) (a1 : Addr) (a2 : Addr) : entryFrame m #[(.ref a1), (.int 0), (.ref a2), (.int 0), (.int 4)] 7 = mkF m 0 #[rv a1, iv 0, rv a2, iv 0, iv 4, .unset, .unset] [] := by first | (simp [entryFrame, mkF, argsToLocals, Value.category]; done) | rfl
def Q47_compress (Z : State) (a1 : Addr) (a2 : Addr) (k3 : ClassId) (p4 : Int32) (p5 : Int32) (p6 : Int32) (p7 : Int32) (k8 : ClassId) (p9 : Int32) (p10 : Int32) (p11 : Int32) (p12 : Int32) (h0 : Heap) (n0 : Nat) (v : Option Value) (h : Heap) (L : List Loc) : Prop := v = some (.int 4) ∧ Fr n0 L ∧ Keep h0 h [a2] ∧ Arv Z h a2 k8 .byte 4 [(.int (p4.toInt8.toInt32)), (.int (p5.toInt8.toInt32)), (.int (p6.toInt8.toInt32)), (.int (p7.toInt8.toInt32))] (.int 0)
theorem rm47_compress (l : Launch) (Z : State) (a0 : Array Value) (hw : HW Z a0) (a1 : Addr) (a2 : Addr) (k3 : ClassId) (p4 : Int32) (p5 : Int32) (p6 : Int32) (p7 : Int32) (k8 : ClassId) (p9 : Int32) (p10 : Int32) (p11 : Int32) (p12 : Int32) (h0 : Heap) (n0 : Nat) (O0 : Old Z n0 h0) (F_0 : Arv Z h0 a1 k3 .char 4 [(.int p4), (.int p5), (.int p6), (.int p7)] (.int 0)) (hc_1 : ¬ ((255 : Int32) < p4)) (F_2 : Arv Z h0 a2 k8 .byte 4 [(.int p9), (.int p10), (.int p11), (.int p12)] (.int 0)) (g_3 : n0 ≤ a2) (ne_4 : a1 ≠ a2) (hc_5 : ¬ ((255 : Int32) < p5)) (hc_6 : ¬ ((255 : Int32) < p6)) (hc_7 : ¬ ((255 : Int32) < p7)) :
    Met l Z [] MY5 jdk_52_method_21_code 7 (some .int) ({ frames := 0, cells := 0, slots := 0, locals := 0 } : Room) #[(.ref a1), (.int 0), (.ref a2), (.int 0), (.int 4)] h0 (Q47_compress Z a1 a2 k3 p4 p5 p6 p7 k8 p9 p10 p11 p12 h0 n0) := by
  have W := @own_W _ _ hw
  refine own_mk (plainFor_of_name pn_197) ?_
  intro p e s m below meth c s₁ hZ hx hby hml hown hnm hret hlk X0 e0
  have N0 := Fr.nil n0
  obtain ⟨c1, A1, q1, S1, N1, H1, G1⟩ := id F_0
  have i2 : NB 0 c1 := inb_of S1 (by decide)
  obtain ⟨c3, A3, q3, S3, N3, H3, G3⟩ := id F_2
  have i4 : NB 0 c3 := inb_of S3 (by decide)
  obtain ⟨T4, h4, X4, e4, W4, st4⟩ := stB X0 hx hZ e0 A3 (j := 0) i4 (g := (mkF m 31 #[rv a1, iv 0, rv a2, iv 0, iv 4, iv 0, iv p4] [(.int (p4.toInt8.toInt32)), (.int 0), (.ref a2)])) rfl rfl (hb hby d_189)
  rw [(own_narB _)] at W4
  have O5 := O0.wr W4 g_3
  have K6 : Keep h0 h4 [a2] := Keep.wr (Keep.refl h0 [a2]) W4 (Or.inl (List.mem_of_getElem? (i := 0) rfl))
  have v7 : Arv Z h4 a2 k8 .byte 4 [(.int (p4.toInt8.toInt32)), (.int p10), (.int p11), (.int p12)] (.int 0) := Arv.set A3 q3 S3 N3 H3 G3 (own_fput (by simp) (own_narB _)) W4 0 rfl (Nat.le_of_ble_eq_true rfl)
  have N8 := Fr.snoc X4 N0 g_3
  have f10 := (F_0.other W4 ne_4)
  obtain ⟨c9, A9, q9, S9, N9, H9, G9⟩ := id f10
  have i11 : NB 1 c9 := inb_of S9 (by decide)
  obtain ⟨c12, A12, q12, S12, N12, H12, G12⟩ := id v7
  have i13 : NB 1 c12 := inb_of S12 (by decide)
  obtain ⟨T13, h13, X13, e13, W13, st13⟩ := stB X4 hx hZ e4 A12 (j := 1) i13 (g := (mkF m 31 #[rv a1, iv 1, rv a2, iv 1, iv 4, iv 1, iv p5] [(.int (p5.toInt8.toInt32)), (.int 1), (.ref a2)])) rfl rfl (hb hby d_189)
  rw [(own_narB _)] at W13
  have O14 := O5.wr W13 g_3
  have K15 : Keep h0 h13 [a2] := Keep.wr K6 W13 (Or.inl (List.mem_of_getElem? (i := 0) rfl))
  have v16 : Arv Z h13 a2 k8 .byte 4 [(.int (p4.toInt8.toInt32)), (.int (p5.toInt8.toInt32)), (.int p11), (.int p12)] (.int 0) := Arv.set A12 q12 S12 N12 H12 G12 (own_fput (by simp) (own_narB _)) W13 1 rfl (Nat.le_of_ble_eq_true rfl)
  have N17 := Fr.snoc X13 N8 g_3
  have f19 := (f10.other W13 ne_4)
  obtain ⟨c18, A18, q18, S18, N18, H18, G18⟩ := id f19
  have i20 : NB 2 c18 := inb_of S18 (by decide)
  obtain ⟨c21, A21, q21, S21, N21, H21, G21⟩ := id v16
  have i22 : NB 2 c21 := inb_of S21 (by decide)
  obtain ⟨T22, h22, X22, e22, W22, st22⟩ := stB X13 hx hZ e13 A21 (j := 2) i22 (g := (mkF m 31 #[rv a1, iv 2, rv a2, iv 2, iv 4, iv 2, iv p6] [(.int (p6.toInt8.toInt32)), (.int 2), (.ref a2)])) rfl rfl (hb hby d_189)
  rw [(own_narB _)] at W22
  have O23 := O14.wr W22 g_3
  have K24 : Keep h0 h22 [a2] := Keep.wr K15 W22 (Or.inl (List.mem_of_getElem? (i := 0) rfl))
  have v25 : Arv Z h22 a2 k8 .byte 4 [(.int (p4.toInt8.toInt32)), (.int (p5.toInt8.toInt32)), (.int (p6.toInt8.toInt32)), (.int p12)] (.int 0) := Arv.set A21 q21 S21 N21 H21 G21 (own_fput (by simp) (own_narB _)) W22 2 rfl (Nat.le_of_ble_eq_true rfl)
  have N26 := Fr.snoc X22 N17 g_3
  have f28 := (f19.other W22 ne_4)
  obtain ⟨c27, A27, q27, S27, N27, H27, G27⟩ := id f28
  have i29 : NB 3 c27 := inb_of S27 (by decide)
  obtain ⟨c30, A30, q30, S30, N30, H30, G30⟩ := id v25
  have i31 : NB 3 c30 := inb_of S30 (by decide)
  obtain ⟨T31, h31, X31, e31, W31, st31⟩ := stB X22 hx hZ e22 A30 (j := 3) i31 (g := (mkF m 31 #[rv a1, iv 3, rv a2, iv 3, iv 4, iv 3, iv p7] [(.int (p7.toInt8.toInt32)), (.int 3), (.ref a2)])) rfl rfl (hb hby d_189)
  rw [(own_narB _)] at W31
  have O32 := O23.wr W31 g_3
  have K33 : Keep h0 h31 [a2] := Keep.wr K24 W31 (Or.inl (List.mem_of_getElem? (i := 0) rfl))
  have v34 : Arv Z h31 a2 k8 .byte 4 [(.int (p4.toInt8.toInt32)), (.int (p5.toInt8.toInt32)), (.int (p6.toInt8.toInt32)), (.int (p7.toInt8.toInt32))] (.int 0) := Arv.set A30 q30 S30 N30 H30 G30 (own_fput (by simp) (own_narB _)) W31 3 rfl (Nat.le_of_ble_eq_true rfl)
  have N35 := Fr.snoc X31 N26 g_3
  refine ⟨T31, some (.int 4), _, _, _, X31, by decide, by decide, nofun, ?_, fun fs hr => castTop (ef_337 m a1 a2) ?_⟩
  · show Q47_compress Z a1 a2 k3 p4 p5 p6 p7 k8 p9 p10 p11 p12 h0 n0 _ T31.heap _
    rw [e31]
    exact ⟨rfl, N35, K33, v34⟩
  · show SS p e below s₁ m 0 #[rv a1, iv 0, rv a2, iv 0, iv 4, .unset, .unset] [] _
    refine XS.iconst X0.here hx rfl (hb hby d_173) ?_
    refine XS.istore X0.here hx rfl (hb hby d_174) rfl (l' := #[rv a1, iv 0, rv a2, iv 0, iv 4, iv 0, .unset]) rfl ?_
    refine XS.iload X0.here hx rfl (hb hby d_175) rfl ?_
    refine XS.iload X0.here hx rfl (hb hby d_176) rfl ?_
    refine XS.icmpNo X0.here hx rfl (hb hby d_177) rfl (tlt (by decide : (0 : Int32) < (4 : Int32))).2.1 ?_
    refine XS.aloadN X0.here hx rfl (hb hby d_178) rfl rfl ?_
    refine XS.iloadN X0.here hx rfl (hb hby d_179) rfl ?_
    refine X0.caload hx (j := 0) (v := (.int p4)) (by rw [e0]; exact A1.1) (State.isArrayOf_alike hZ.alike A1.2.1) A1.2.2 i2 (H1.at i2 rfl) (g := (mkF m 12 #[rv a1, iv 0, rv a2, iv 0, iv 4, iv 0, .unset] [(.int 0), (.ref a1)])) rfl rfl (hb hby d_180) _ ?_
    refine XS.istore X0.here hx rfl (hb hby d_181) rfl (l' := #[rv a1, iv 0, rv a2, iv 0, iv 4, iv 0, iv p4]) rfl ?_
    refine XS.iload X0.here hx rfl (hb hby d_182) rfl ?_
    show SS p e below s₁ m 17 #[rv a1, iv 0, rv a2, iv 0, iv 4, iv 0, iv p4] [(.int p4)] _
    refine XS.sipush X0.here hx rfl (hb hby d_183) ?_
    refine XS.icmpYes X0.here hx rfl (pc0 := 20) (pc' := 26) rfl (hb hby d_184) rfl (flt hc_1).2.2.2 (by decide) (by decide) ?_
    refine XS.aloadN X0.here hx rfl (hb hby d_185) rfl rfl ?_
    refine XS.iloadN X0.here hx rfl (hb hby d_186) rfl ?_
    refine XS.iload X0.here hx rfl (hb hby d_187) rfl ?_
    show SS p e below s₁ m 30 #[rv a1, iv 0, rv a2, iv 0, iv 4, iv 0, iv p4] [(.int p4), (.int 0), (.ref a2)] _
    refine XS.i2b X0.here hx rfl (hb hby d_188) rfl ?_
    show SS p e below s₁ m 31 #[rv a1, iv 0, rv a2, iv 0, iv 4, iv 0, iv p4] [(.int (p4.toInt8.toInt32)), (.int 0), (.ref a2)] _
    refine st4 _ ?_
    refine XS.iinc X4.here hx rfl (hb hby d_190) rfl (l' := #[rv a1, iv 1, rv a2, iv 0, iv 4, iv 0, iv p4]) rfl ?_
    show SS p e below T4 m 35 #[rv a1, iv 1, rv a2, iv 0, iv 4, iv 0, iv p4] [] _
    refine XS.iinc X4.here hx rfl (hb hby d_191) rfl (l' := #[rv a1, iv 1, rv a2, iv 1, iv 4, iv 0, iv p4]) rfl ?_
    show SS p e below T4 m 38 #[rv a1, iv 1, rv a2, iv 1, iv 4, iv 0, iv p4] [] _
    refine XS.iinc X4.here hx rfl (hb hby d_192) rfl (l' := #[rv a1, iv 1, rv a2, iv 1, iv 4, iv 1, iv p4]) rfl ?_
    show SS p e below T4 m 41 #[rv a1, iv 1, rv a2, iv 1, iv 4, iv 1, iv p4] [] _
    refine XS.goto X4.here hx rfl (pc0 := 41) (pc' := 3) rfl (hb hby d_193) (by decide) (by decide) ?_
    refine XS.iload X4.here hx rfl (hb hby d_175) rfl ?_
    refine XS.iload X4.here hx rfl (hb hby d_176) rfl ?_
    refine XS.icmpNo X4.here hx rfl (hb hby d_177) rfl (tlt (by decide : (1 : Int32) < (4 : Int32))).2.1 ?_
    refine XS.aloadN X4.here hx rfl (hb hby d_178) rfl rfl ?_
    refine XS.iloadN X4.here hx rfl (hb hby d_179) rfl ?_
    refine X4.caload hx (j := 1) (v := (.int p5)) (by rw [e4]; exact A9.1) (State.isArrayOf_alike hZ.alike A9.2.1) A9.2.2 i11 (H9.at i11 rfl) (g := (mkF m 12 #[rv a1, iv 1, rv a2, iv 1, iv 4, iv 1, iv p4] [(.int 1), (.ref a1)])) rfl rfl (hb hby d_180) _ ?_
    refine XS.istore X4.here hx rfl (hb hby d_181) rfl (l' := #[rv a1, iv 1, rv a2, iv 1, iv 4, iv 1, iv p5]) rfl ?_
    refine XS.iload X4.here hx rfl (hb hby d_182) rfl ?_
    refine XS.sipush X4.here hx rfl (hb hby d_183) ?_
    show SS p e below T4 m 20 #[rv a1, iv 1, rv a2, iv 1, iv 4, iv 1, iv p5] [(.int 255), (.int p5)] _
    refine XS.icmpYes X4.here hx rfl (pc0 := 20) (pc' := 26) rfl (hb hby d_184) rfl (flt hc_5).2.2.2 (by decide) (by decide) ?_
    refine XS.aloadN X4.here hx rfl (hb hby d_185) rfl rfl ?_
    refine XS.iloadN X4.here hx rfl (hb hby d_186) rfl ?_
    refine XS.iload X4.here hx rfl (hb hby d_187) rfl ?_
    show SS p e below T4 m 30 #[rv a1, iv 1, rv a2, iv 1, iv 4, iv 1, iv p5] [(.int p5), (.int 1), (.ref a2)] _
    refine XS.i2b X4.here hx rfl (hb hby d_188) rfl ?_
    show SS p e below T4 m 31 #[rv a1, iv 1, rv a2, iv 1, iv 4, iv 1, iv p5] [(.int (p5.toInt8.toInt32)), (.int 1), (.ref a2)] _
    refine st13 _ ?_
    refine XS.iinc X13.here hx rfl (hb hby d_190) rfl (l' := #[rv a1, iv 2, rv a2, iv 1, iv 4, iv 1, iv p5]) rfl ?_
    show SS p e below T13 m 35 #[rv a1, iv 2, rv a2, iv 1, iv 4, iv 1, iv p5] [] _
    refine XS.iinc X13.here hx rfl (hb hby d_191) rfl (l' := #[rv a1, iv 2, rv a2, iv 2, iv 4, iv 1, iv p5]) rfl ?_
    show SS p e below T13 m 38 #[rv a1, iv 2, rv a2, iv 2, iv 4, iv 1, iv p5] [] _
    refine XS.iinc X13.here hx rfl (hb hby d_192) rfl (l' := #[rv a1, iv 2, rv a2, iv 2, iv 4, iv 2, iv p5]) rfl ?_
    show SS p e below T13 m 41 #[rv a1, iv 2, rv a2, iv 2, iv 4, iv 2, iv p5] [] _
    refine XS.goto X13.here hx rfl (pc0 := 41) (pc' := 3) rfl (hb hby d_193) (by decide) (by decide) ?_
    refine XS.iload X13.here hx rfl (hb hby d_175) rfl ?_
    refine XS.iload X13.here hx rfl (hb hby d_176) rfl ?_
    refine XS.icmpNo X13.here hx rfl (hb hby d_177) rfl (tlt (by decide : (2 : Int32) < (4 : Int32))).2.1 ?_
    refine XS.aloadN X13.here hx rfl (hb hby d_178) rfl rfl ?_
    refine XS.iloadN X13.here hx rfl (hb hby d_179) rfl ?_
    refine X13.caload hx (j := 2) (v := (.int p6)) (by rw [e13]; exact A18.1) (State.isArrayOf_alike hZ.alike A18.2.1) A18.2.2 i20 (H18.at i20 rfl) (g := (mkF m 12 #[rv a1, iv 2, rv a2, iv 2, iv 4, iv 2, iv p5] [(.int 2), (.ref a1)])) rfl rfl (hb hby d_180) _ ?_
    refine XS.istore X13.here hx rfl (hb hby d_181) rfl (l' := #[rv a1, iv 2, rv a2, iv 2, iv 4, iv 2, iv p6]) rfl ?_
    refine XS.iload X13.here hx rfl (hb hby d_182) rfl ?_
    refine XS.sipush X13.here hx rfl (hb hby d_183) ?_
    show SS p e below T13 m 20 #[rv a1, iv 2, rv a2, iv 2, iv 4, iv 2, iv p6] [(.int 255), (.int p6)] _
    refine XS.icmpYes X13.here hx rfl (pc0 := 20) (pc' := 26) rfl (hb hby d_184) rfl (flt hc_6).2.2.2 (by decide) (by decide) ?_
    refine XS.aloadN X13.here hx rfl (hb hby d_185) rfl rfl ?_
    refine XS.iloadN X13.here hx rfl (hb hby d_186) rfl ?_
    refine XS.iload X13.here hx rfl (hb hby d_187) rfl ?_
    show SS p e below T13 m 30 #[rv a1, iv 2, rv a2, iv 2, iv 4, iv 2, iv p6] [(.int p6), (.int 2), (.ref a2)] _
    refine XS.i2b X13.here hx rfl (hb hby d_188) rfl ?_
    show SS p e below T13 m 31 #[rv a1, iv 2, rv a2, iv 2, iv 4, iv 2, iv p6] [(.int (p6.toInt8.toInt32)), (.int 2), (.ref a2)] _
    refine st22 _ ?_
    refine XS.iinc X22.here hx rfl (hb hby d_190) rfl (l' := #[rv a1, iv 3, rv a2, iv 2, iv 4, iv 2, iv p6]) rfl ?_
    show SS p e below T22 m 35 #[rv a1, iv 3, rv a2, iv 2, iv 4, iv 2, iv p6] [] _
    refine XS.iinc X22.here hx rfl (hb hby d_191) rfl (l' := #[rv a1, iv 3, rv a2, iv 3, iv 4, iv 2, iv p6]) rfl ?_
    show SS p e below T22 m 38 #[rv a1, iv 3, rv a2, iv 3, iv 4, iv 2, iv p6] [] _
    refine XS.iinc X22.here hx rfl (hb hby d_192) rfl (l' := #[rv a1, iv 3, rv a2, iv 3, iv 4, iv 3, iv p6]) rfl ?_
    show SS p e below T22 m 41 #[rv a1, iv 3, rv a2, iv 3, iv 4, iv 3, iv p6] [] _
    refine XS.goto X22.here hx rfl (pc0 := 41) (pc' := 3) rfl (hb hby d_193) (by decide) (by decide) ?_
    refine XS.iload X22.here hx rfl (hb hby d_175) rfl ?_
    refine XS.iload X22.here hx rfl (hb hby d_176) rfl ?_
    refine XS.icmpNo X22.here hx rfl (hb hby d_177) rfl (tlt (by decide : (3 : Int32) < (4 : Int32))).2.1 ?_
    refine XS.aloadN X22.here hx rfl (hb hby d_178) rfl rfl ?_
    refine XS.iloadN X22.here hx rfl (hb hby d_179) rfl ?_
    refine X22.caload hx (j := 3) (v := (.int p7)) (by rw [e22]; exact A27.1) (State.isArrayOf_alike hZ.alike A27.2.1) A27.2.2 i29 (H27.at i29 rfl) (g := (mkF m 12 #[rv a1, iv 3, rv a2, iv 3, iv 4, iv 3, iv p6] [(.int 3), (.ref a1)])) rfl rfl (hb hby d_180) _ ?_
    refine XS.istore X22.here hx rfl (hb hby d_181) rfl (l' := #[rv a1, iv 3, rv a2, iv 3, iv 4, iv 3, iv p7]) rfl ?_
    refine XS.iload X22.here hx rfl (hb hby d_182) rfl ?_
    refine XS.sipush X22.here hx rfl (hb hby d_183) ?_
    show SS p e below T22 m 20 #[rv a1, iv 3, rv a2, iv 3, iv 4, iv 3, iv p7] [(.int 255), (.int p7)] _
    refine XS.icmpYes X22.here hx rfl (pc0 := 20) (pc' := 26) rfl (hb hby d_184) rfl (flt hc_7).2.2.2 (by decide) (by decide) ?_
    refine XS.aloadN X22.here hx rfl (hb hby d_185) rfl rfl ?_
    refine XS.iloadN X22.here hx rfl (hb hby d_186) rfl ?_
    refine XS.iload X22.here hx rfl (hb hby d_187) rfl ?_
    show SS p e below T22 m 30 #[rv a1, iv 3, rv a2, iv 3, iv 4, iv 3, iv p7] [(.int p7), (.int 3), (.ref a2)] _
    refine XS.i2b X22.here hx rfl (hb hby d_188) rfl ?_
    show SS p e below T22 m 31 #[rv a1, iv 3, rv a2, iv 3, iv 4, iv 3, iv p7] [(.int (p7.toInt8.toInt32)), (.int 3), (.ref a2)] _
    refine st31 _ ?_
    refine XS.iinc X31.here hx rfl (hb hby d_190) rfl (l' := #[rv a1, iv 4, rv a2, iv 3, iv 4, iv 3, iv p7]) rfl ?_
    show SS p e below T31 m 35 #[rv a1, iv 4, rv a2, iv 3, iv 4, iv 3, iv p7] [] _
    refine XS.iinc X31.here hx rfl (hb hby d_191) rfl (l' := #[rv a1, iv 4, rv a2, iv 4, iv 4, iv 3, iv p7]) rfl ?_
    show SS p e below T31 m 38 #[rv a1, iv 4, rv a2, iv 4, iv 4, iv 3, iv p7] [] _
    refine XS.iinc X31.here hx rfl (hb hby d_192) rfl (l' := #[rv a1, iv 4, rv a2, iv 4, iv 4, iv 4, iv p7]) rfl ?_
    show SS p e below T31 m 41 #[rv a1, iv 4, rv a2, iv 4, iv 4, iv 4, iv p7] [] _
    refine XS.goto X31.here hx rfl (pc0 := 41) (pc' := 3) rfl (hb hby d_193) (by decide) (by decide) ?_
    refine XS.iload X31.here hx rfl (hb hby d_175) rfl ?_
    refine XS.iload X31.here hx rfl (hb hby d_176) rfl ?_
    refine XS.icmpYes X31.here hx rfl (pc0 := 7) (pc' := 44) rfl (hb hby d_177) rfl (flt (by decide : ¬ ((4 : Int32) < (4 : Int32)))).2.1 (by decide) (by decide) ?_
    refine XS.iload X31.here hx rfl (hb hby d_194) rfl ?_
    exact retI X31 hx hret (hb hby d_195) hr
theorem ef_338 (m : MethodId) (a1 : Addr) : entryFrame m #[(.ref a1), (.int 0), (.int 4)] 6 = mkF m 0 #[rv a1, iv 0, iv 4, .unset, .unset, .unset] [] := by first | (simp [entryFrame, mkF, argsToLocals, Value.category]; done) | rfl
def Q48_compress (Z : State) (a1 : Addr) (k2 : ClassId) (p3 : Int32) (p4 : Int32) (p5 : Int32) (p6 : Int32) (h0 : Heap) (n0 : Nat) (v : Option Value) (h : Heap) (L : List Loc) : Prop := ∃ (b1 : Addr) (k1 : ClassId), v = some (.ref b1) ∧ Fr n0 L ∧ Keep h0 h [] ∧ h0.size ≤ b1 ∧ Arv Z h b1 k1 .byte 4 [(.int (p3.toInt8.toInt32)), (.int (p4.toInt8.toInt32)), (.int (p5.toInt8.toInt32)), (.int (p6.toInt8.toInt32))] (.int 0) ∧ EA16 Z h b1
theorem rm48_compress (l : Launch) (Z : State) (a0 : Array Value) (hw : HW Z a0) (a1 : Addr) (k2 : ClassId) (p3 : Int32) (p4 : Int32) (p5 : Int32) (p6 : Int32) (h0 : Heap) (n0 : Nat) (O0 : Old Z n0 h0) (F_0 : Arv Z h0 a1 k2 .char 4 [(.int p3), (.int p4), (.int p5), (.int p6)] (.int 0)) (hc_1 : ¬ ((255 : Int32) < p3)) (hc_2 : ¬ ((255 : Int32) < p4)) (hc_3 : ¬ ((255 : Int32) < p5)) (hc_4 : ¬ ((255 : Int32) < p6)) (lt_5 : a1 < h0.size) :
    Met l Z [] MY6 jdk_52_method_16_code 6 (some (.array .byte)) ({ frames := 1, cells := 1, slots := 4, locals := 18 } : Room) #[(.ref a1), (.int 0), (.int 4)] h0 (Q48_compress Z a1 k2 p3 p4 p5 p6 h0 n0) := by
  have W := @own_W _ _ hw
  refine own_mk (plainFor_of_name pn_197) ?_
  intro p e s m below meth c s₁ hZ hx hby hml hown hnm hret hlk X0 e0
  have N0 := Fr.nil n0
  obtain ⟨T1, h1, k1, X1, e1, E1, A1, B1, st1⟩ := newPE X0 hx hZ (W 23 rfl) e0 (g := (mkF m 1 #[rv a1, iv 0, iv 4, .unset, .unset, .unset] [(.int 4)])) rfl (hb hby d_165) rfl (by decide) (cap := 4) (by decide) (by decide) (by decide) (by decide) (ad := "[B") rfl
  obtain ⟨b1, g1⟩ : ∃ z, z = h0.size := ⟨_, rfl⟩
  rw [← g1] at A1 B1 st1
  have O2 := O0.ext E1
  have K3 : Keep h0 h1 [] := Keep.ext (Keep.refl h0 []) E1
  have v4 : Arv Z h1 b1 k1 .byte 4 [(.int 0), (.int 0), (.int 0), (.int 0)] (.int 0) := (Arv.new A1 (by decide)).pad (pad_rep [] (.int 0) 4)
  have f6 := (F_0.ext E1)
  have g7 : n0 ≤ b1 := Nat.le_trans (Nat.le_trans (Nat.le_of_eq O0.1.symm) O0.2.1) (Nat.le_of_eq g1.symm)
  obtain ⟨_, T5, L5, X5, hQ5, st5⟩ := own_cs X1 hx hZ hown hml (W 24 rfl) (W 25 rfl) (W 21 rfl) (W 26 rfl) (rm47_compress l Z a0 hw a1 b1 k2 p3 p4 p5 p6 k1 (0 : Int32) (0 : Int32) (0 : Int32) (0 : Int32) h1 n0 O2 (f6) (hc_1) (v4) (g7) ((Nat.ne_of_lt (Nat.lt_of_lt_of_le lt_5 (Nat.le_of_eq g1.symm)))) (hc_2) (hc_3) (hc_4)) e1 (hb hby d_172) 0 #[rv a1, iv 0, iv 4, rv b1, .unset, .unset] [(.ref a1), (.int 0), (.ref b1), (.int 0), (.int 4)] [] pd_198
  obtain ⟨rfl, N5q, K5, F5_0⟩ := hQ5
  have N8 := Fr.app N0 N5q
  have O9 := O2.keep K5 (allS g7 all0)
  have K10 : Keep h0 T5.heap [] := Keep.trans K3 K5 (allS (Or.inr (Nat.le_of_eq g1.symm)) all0)
  have f11 := (B1.keep K5)
  refine ⟨T5, some (.ref b1), _, _, _, X5, by decide, by decide, nofun, ?_, fun fs hr => castTop (ef_338 m a1) ?_⟩
  · show Q48_compress Z a1 k2 p3 p4 p5 p6 h0 n0 _ T5.heap _
    exact ⟨b1, k1, rfl, N8, K10, (Nat.le_of_eq g1.symm), F5_0, f11⟩
  · show SS p e below s₁ m 0 #[rv a1, iv 0, iv 4, .unset, .unset, .unset] [] _
    refine XS.iloadN X0.here hx rfl (hb hby d_164) rfl ?_
    refine st1 _ ?_
    refine XS.astoreN X1.here hx rfl (hb hby d_166) rfl rfl (l' := #[rv a1, iv 0, iv 4, rv b1, .unset, .unset]) rfl ?_
    refine XS.aloadN X1.here hx rfl (hb hby d_167) rfl rfl ?_
    refine XS.iloadN X1.here hx rfl (hb hby d_168) rfl ?_
    refine XS.aloadN X1.here hx rfl (hb hby d_169) rfl rfl ?_
    refine XS.iconst X1.here hx rfl (hb hby d_170) ?_
    refine XS.iloadN X1.here hx rfl (hb hby d_171) rfl ?_
    refine st5 _ ?_
    refine XS.istore X5.here hx rfl (hb hby d_199) rfl (l' := #[rv a1, iv 0, iv 4, rv b1, iv 4, .unset]) rfl ?_
    show SS p e below T5 m 14 #[rv a1, iv 0, iv 4, rv b1, iv 4, .unset] [] _
    refine XS.iload X5.here hx rfl (hb hby d_200) rfl ?_
    refine XS.iloadN X5.here hx rfl (hb hby d_201) rfl ?_
    refine XS.icmpYes X5.here hx rfl (pc0 := 17) (pc' := 57) rfl (hb hby d_202) rfl (teq (by decide : (4 : Int32) = (4 : Int32))).1 (by decide) (by decide) ?_
    refine XS.aloadN X5.here hx rfl (hb hby d_203) rfl rfl ?_
    exact retOut X5 hx hret rfl (Or.inr (Or.inr (Or.inr (Or.inr ⟨rfl, rfl, rfl⟩)))) (hb hby d_204) hr
theorem ef_339 (m : MethodId) (a1 : Addr) : entryFrame m #[(.ref a1), (.int 4)] 2 = mkF m 0 #[rv a1, iv 4] [] := by first | (simp [entryFrame, mkF, argsToLocals, Value.category]; done) | rfl
def Q49_coderFromArrayLen (Z : State) (a1 : Addr) (k2 : ClassId) (p3 : Int32) (p4 : Int32) (p5 : Int32) (p6 : Int32) (h0 : Heap) (n0 : Nat) (v : Option Value) (h : Heap) (L : List Loc) : Prop := v = some (.int 0) ∧ Fr n0 L ∧ h = h0
theorem rm49_coderFromArrayLen (l : Launch) (Z : State) (a0 : Array Value) (hw : HW Z a0) (a1 : Addr) (k2 : ClassId) (p3 : Int32) (p4 : Int32) (p5 : Int32) (p6 : Int32) (h0 : Heap) (n0 : Nat) (O0 : Old Z n0 h0) (F_0 : Arv Z h0 a1 k2 .byte 4 [(.int p3), (.int p4), (.int p5), (.int p6)] (.int 0)) :
    Met l Z [] MY7 jdk_52_method_15_code 2 (some .byte) ({ frames := 0, cells := 0, slots := 0, locals := 0 } : Room) #[(.ref a1), (.int 4)] h0 (Q49_coderFromArrayLen Z a1 k2 p3 p4 p5 p6 h0 n0) := by
  have W := @own_W _ _ hw
  refine own_mk (plainFor_of_name pn_197) ?_
  intro p e s m below meth c s₁ hZ hx hby hml hown hnm hret hlk X0 e0
  have N0 := Fr.nil n0
  obtain ⟨c1, A1, q1, S1, N1, H1, G1⟩ := id F_0
  refine ⟨s₁, some (.int 0), _, _, _, X0, by decide, by decide, nofun, ?_, fun fs hr => castTop (ef_339 m a1) ?_⟩
  · show Q49_coderFromArrayLen Z a1 k2 p3 p4 p5 p6 h0 n0 _ s₁.heap _
    rw [e0]
    exact ⟨rfl, N0, rfl⟩
  · show SS p e below s₁ m 0 #[rv a1, iv 4] [] _
    refine XS.iloadN X0.here hx rfl (hb hby d_212) rfl ?_
    refine XS.aloadN X0.here hx rfl (hb hby d_213) rfl rfl ?_
    refine X0.arraylength hx (by rw [e0]; exact A1.1) (State.isArrayOf_alike hZ.alike A1.2.1) (g := (mkF m 2 #[rv a1, iv 4] [(.ref a1), (.int 4)])) rfl rfl (hb hby d_214) _ ?_
    rw [len_of S1 N1]
    refine XS.isub X0.here hx rfl (hb hby d_215) rfl ?_
    show SS p e below s₁ m 4 #[rv a1, iv 4] [(.int 0)] _
    refine XS.bipush X0.here hx rfl (hb hby d_216) ?_
    refine XS.iushr X0.here hx rfl (hb hby d_217) rfl ?_
    show SS p e below s₁ m 7 #[rv a1, iv 4] [(.int 0)] _
    refine XS.i2b X0.here hx rfl (hb hby d_218) rfl ?_
    show SS p e below s₁ m 8 #[rv a1, iv 4] [(.int 0)] _
    exact retN X0 hx (t := .byte) hret (by simp) (hb hby d_219) hr
theorem ef_340 (m : MethodId) (a1 : Addr) (a2 : Addr) : entryFrame m #[(.ref a1), (.ref a2), (.int 0), (.int 4), .null] 6 = mkF m 0 #[rv a1, rv a2, iv 0, iv 4, .val .null, .unset] [] := by first | (simp [entryFrame, mkF, argsToLocals, Value.category]; done) | rfl
def Q50_init (Z : State) (a1 : Addr) (a2 : Addr) (p3 : Int32) (k4 : ClassId) (p5 : Int32) (p6 : Int32) (p7 : Int32) (p8 : Int32) (h0 : Heap) (n0 : Nat) (v : Option Value) (h : Heap) (L : List Loc) : Prop := ∃ (b3_0 : Addr) (k3_0 : ClassId), v = none ∧ Fr n0 L ∧ Keep h0 h [a1] ∧ h0.size ≤ b3_0 ∧ Arv Z h b3_0 k3_0 .byte 4 [(.int (p5.toInt8.toInt32)), (.int (p6.toInt8.toInt32)), (.int (p7.toInt8.toInt32)), (.int (p8.toInt8.toInt32))] (.int 0) ∧ EA16 Z h b3_0 ∧ FA11 Z h a1 (.int 0) ∧ FA12 Z h a1 (.ref b3_0)
theorem rm50_init (l : Launch) (Z : State) (a0 : Array Value) (hw : HW Z a0) (a1 : Addr) (a2 : Addr) (p3 : Int32) (k4 : ClassId) (p5 : Int32) (p6 : Int32) (p7 : Int32) (p8 : Int32) (h0 : Heap) (n0 : Nat) (O0 : Old Z n0 h0) (S_0 : SA18 Z Z.heap (.int p3)) (hc_1 : ¬ (p3 = (0 : Int32))) (F_2 : Arv Z h0 a2 k4 .char 4 [(.int p5), (.int p6), (.int p7), (.int p8)] (.int 0)) (hc_3 : ¬ ((255 : Int32) < p5)) (hc_4 : ¬ ((255 : Int32) < p6)) (hc_5 : ¬ ((255 : Int32) < p7)) (hc_6 : ¬ ((255 : Int32) < p8)) (lt_7 : a2 < h0.size) (F_8 : EA14 Z h0 a1) (F_9 : FA11 Z h0 a1 (.int 0)) (g_10 : n0 ≤ a1) (F_11 : FA12 Z h0 a1 .null) (lt_12 : a1 < h0.size) :
    Met l Z [] MY8 jdk_42_method_149_code 6 none ({ frames := 2, cells := 1, slots := 4, locals := 35 } : Room) #[(.ref a1), (.ref a2), (.int 0), (.int 4), .null] h0 (Q50_init Z a1 a2 p3 k4 p5 p6 p7 p8 h0 n0) := by
  have W := @own_W _ _ hw
  refine own_mk (plainFor_of_name pn_52) ?_
  intro p e s m below meth c s₁ hZ hx hby hml hown hnm hret hlk X0 e0
  have N0 := Fr.nil n0
  obtain ⟨T1, X1, e1, st1⟩ := initO X0 hx hZ hown (W 15 rfl) (W 16 rfl) (W 17 rfl) e0 (g := (mkF m 1 #[rv a1, rv a2, iv 0, iv 4, .val .null, .unset] [(.ref a1)])) rfl (by rw [hml]; rfl) rfl (hb hby d_155) (by decide) (W := 0) (by show 2 * 0 + _ ≤ _; exact Nat.le_of_eq rfl) (by decide)
  obtain ⟨T2, X2, e2, st2⟩ := getS2 X1 hx hZ hown (host := "") (Or.inl (W 18 rfl)) Via.refl e1 (S_0.ext O0.2) (g := (mkF m 27 #[rv a1, rv a2, iv 0, iv 4, .val .null, .unset] [])) rfl (hb hby d_158)
  obtain ⟨_, T3, L3, X3, hQ3, st3⟩ := own_cs X2 hx hZ hown hml (W 19 rfl) (W 20 rfl) (W 21 rfl) (W 22 rfl) (rm48_compress l Z a0 hw a2 k4 p5 p6 p7 p8 h0 n0 O0 (F_2) (hc_3) (hc_4) (hc_5) (hc_6) (lt_7)) e2 (hb hby d_163) 0 #[rv a1, rv a2, iv 0, iv 4, .val .null, .unset] [(.ref a2), (.int 0), (.int 4)] [] pd_206
  obtain ⟨b3_0, k3_0, rfl, N3q, K3, gb3_0, F3_0, F3_1⟩ := hQ3
  have N4 := Fr.app N0 N3q
  have O5 := O0.keep K3 all0
  have K6 : Keep h0 T3.heap [a1] := Keep.trans (Keep.refl h0 [a1]) K3 all0
  obtain ⟨_, T7, L7, X7, hQ7, st7⟩ := own_cs X3 hx hZ hown hml (W 27 rfl) (W 28 rfl) (W 21 rfl) (W 29 rfl) (rm49_coderFromArrayLen l Z a0 hw b3_0 k3_0 (p5.toInt8.toInt32) (p6.toInt8.toInt32) (p7.toInt8.toInt32) (p8.toInt8.toInt32) T3.heap n0 O5 (F3_0)) rfl (hb hby d_211) 1 #[rv a1, rv a2, iv 0, iv 4, .val .null, rv b3_0] [(.ref b3_0), (.int 4)] [(.ref a1)] pd_221
  obtain ⟨rfl, N7q, K7⟩ := hQ7
  have N8 := Fr.app N4 N7q
  have f10 := (F_9.keep K3 nin0)
  have f11 := (F_8.keep K3)
  obtain ⟨T9, h9, X9, e9, W9, st9⟩ := putFN X7 hx hZ hown (W 30 rfl) Via.refl K7 f10 f11 (Or.inr ⟨(W 31 rfl), rfl, hnm⟩) (W 5 rfl) (ty := .byte) (v' := (.int 0)) (by decide) rfl rfl (g := (mkF m 48 #[rv a1, rv a2, iv 0, iv 4, .val .null, rv b3_0] [(.int 0), (.ref a1)])) rfl rfl (hb hby d_222)
  have O12 := O5.wr W9 g_10
  have K13 : Keep h0 h9 [a1] := Keep.wr K6 W9 (Or.inl (List.mem_of_getElem? (i := 0) rfl))
  have f14 : FA11 Z h9 a1 (.int 0) := (f10.same W9)
  have N15 := Fr.snoc X9 N8 g_10
  have f17 := ((F_11.keep K3 nin0).other W9 (Or.inr (slot_ne (Or.inr (W 33 rfl)) (Or.inr (W 31 rfl)) (by decide) (t := (.array .byte)) (t' := .byte) (by decide) (by decide))))
  have f18 := (f11.wr W9)
  obtain ⟨T16, h16, X16, e16, W16, st16⟩ := putF X9 hx hZ hown (host := "") (Or.inl (W 32 rfl)) Via.refl e9 f17 f18 (Or.inr ⟨(W 33 rfl), rfl, hnm⟩) (W 5 rfl) (ty := (.array .byte)) (by decide) rfl rfl (g := (mkF m 54 #[rv a1, rv a2, iv 0, iv 4, .val .null, rv b3_0] [(.ref b3_0), (.ref a1)])) rfl rfl (hb hby d_225)
  have O19 := O12.wr W16 g_10
  have K20 : Keep h0 h16 [a1] := Keep.wr K13 W16 (Or.inl (List.mem_of_getElem? (i := 0) rfl))
  have f21 : FA12 Z h16 a1 (.ref b3_0) := (f17.same W16)
  have N22 := Fr.snoc X16 N15 g_10
  have f23 := ((F3_0.other W9 (Ne.symm (Nat.ne_of_lt (Nat.lt_of_lt_of_le lt_12 gb3_0)))).other W16 (Ne.symm (Nat.ne_of_lt (Nat.lt_of_lt_of_le lt_12 gb3_0))))
  have f24 := ((F3_1.wr W9).wr W16)
  have f25 := (f14.other W16 (Or.inr (slot_ne (Or.inr (W 31 rfl)) (Or.inr (W 33 rfl)) (by decide) (t := .byte) (t' := (.array .byte)) (by decide) (by decide))))
  refine ⟨T16, none, _, _, _, X16, by decide, by decide, (fun _ => rfl), ?_, fun fs hr => castTop (ef_340 m a1 a2) ?_⟩
  · show Q50_init Z a1 a2 p3 k4 p5 p6 p7 p8 h0 n0 _ T16.heap _
    rw [e16]
    exact ⟨b3_0, k3_0, rfl, N22, K20, gb3_0, f23, f24, f25, f21⟩
  · show SS p e below s₁ m 0 #[rv a1, rv a2, iv 0, iv 4, .val .null, .unset] [] _
    refine XS.aloadN X0.here hx rfl (hb hby d_154) rfl rfl ?_
    refine st1 _ ?_
    refine XS.iloadN X1.here hx rfl (hb hby d_156) rfl ?_
    refine XS.ifYes X1.here hx rfl (pc0 := 5) (pc' := 27) rfl (hb hby d_157) rfl ((if0 _ _).trans (feq (by decide : ¬ ((4 : Int32) = (0 : Int32)))).2) (by decide) (by decide) ?_
    refine st2 _ ?_
    refine XS.ifNo X2.here hx rfl (hb hby d_159) rfl ((if0 _ _).trans (feq hc_1).1) ?_
    refine XS.aloadN X2.here hx rfl (hb hby d_160) rfl rfl ?_
    refine XS.iloadN X2.here hx rfl (hb hby d_161) rfl ?_
    refine XS.iloadN X2.here hx rfl (hb hby d_162) rfl ?_
    refine st3 _ ?_
    show SS p e below T3 m 39 #[rv a1, rv a2, iv 0, iv 4, .val .null, .unset] [(.ref b3_0)] _
    refine XS.astore X3.here hx rfl (hb hby d_207) rfl rfl (l' := #[rv a1, rv a2, iv 0, iv 4, .val .null, rv b3_0]) rfl ?_
    refine XS.aloadN X3.here hx rfl (hb hby d_208) rfl rfl ?_
    refine XS.aload X3.here hx rfl (hb hby d_209) rfl rfl ?_
    refine XS.iloadN X3.here hx rfl (hb hby d_210) rfl ?_
    refine st7 _ ?_
    refine st9 _ ?_
    refine XS.aloadN X9.here hx rfl (hb hby d_223) rfl rfl ?_
    refine XS.aload X9.here hx rfl (hb hby d_224) rfl rfl ?_
    refine st16 _ ?_
    exact X16.returnOut hx hret (hb hby d_226) hr
def Q51_init (Z : State) (a1 : Addr) (a2 : Addr) (k3 : ClassId) (p4 : Int32) (p5 : Int32) (p6 : Int32) (p7 : Int32) (p8 : Int32) (h0 : Heap) (n0 : Nat) (v : Option Value) (h : Heap) (L : List Loc) : Prop := ∃ (b2_0 : Addr) (k2_0 : ClassId), v = none ∧ Fr n0 L ∧ Keep h0 h [a1] ∧ h0.size ≤ b2_0 ∧ Arv Z h b2_0 k2_0 .byte 4 [(.int (p4.toInt8.toInt32)), (.int (p5.toInt8.toInt32)), (.int (p6.toInt8.toInt32)), (.int (p7.toInt8.toInt32))] (.int 0) ∧ EA16 Z h b2_0 ∧ FA11 Z h a1 (.int 0) ∧ FA12 Z h a1 (.ref b2_0)
theorem rm51_init (l : Launch) (Z : State) (a0 : Array Value) (hw : HW Z a0) (a1 : Addr) (a2 : Addr) (k3 : ClassId) (p4 : Int32) (p5 : Int32) (p6 : Int32) (p7 : Int32) (p8 : Int32) (h0 : Heap) (n0 : Nat) (O0 : Old Z n0 h0) (F_0 : Arv Z h0 a2 k3 .char 4 [(.int p4), (.int p5), (.int p6), (.int p7)] (.int 0)) (S_1 : SA18 Z Z.heap (.int p8)) (hc_2 : ¬ (p8 = (0 : Int32))) (hc_3 : ¬ ((255 : Int32) < p4)) (hc_4 : ¬ ((255 : Int32) < p5)) (hc_5 : ¬ ((255 : Int32) < p6)) (hc_6 : ¬ ((255 : Int32) < p7)) (F_7 : EA14 Z h0 a1) (F_8 : FA11 Z h0 a1 (.int 0)) (F_9 : FA12 Z h0 a1 .null) (lt_10 : a2 < h0.size) (g_11 : n0 ≤ a1) (lt_12 : a1 < h0.size) :
    Met l Z [] MY9 jdk_42_method_3_code 2 none ({ frames := 3, cells := 1, slots := 4, locals := 52 } : Room) #[(.ref a1), (.ref a2)] h0 (Q51_init Z a1 a2 k3 p4 p5 p6 p7 p8 h0 n0) := by
  have W := @own_W _ _ hw
  refine own_mk (plainFor_of_name pn_52) ?_
  intro p e s m below meth c s₁ hZ hx hby hml hown hnm hret hlk X0 e0
  have N0 := Fr.nil n0
  obtain ⟨c1, A1, q1, S1, N1, H1, G1⟩ := id F_0
  obtain ⟨_, T2, L2, X2, hQ2, st2⟩ := own_cp X0 hx hZ hown hml rfl (W 11 rfl) (W 12 rfl) (W 6 rfl) (W 14 rfl) (rm50_init l Z a0 hw a1 a2 p8 k3 p4 p5 p6 p7 h0 n0 O0 (S_1) (hc_2) (F_0) (hc_3) (hc_4) (hc_5) (hc_6) (lt_10) (F_7) (F_8) (g_11) (F_9) (lt_12)) e0 (hb hby d_153) 0 #[rv a1, rv a2] a1 [(.ref a2), (.int 0), (.int 4), .null] [] pd_228
  obtain ⟨b2_0, k2_0, rfl, N2q, K2, gb2_0, F2_0, F2_1, F2_2, F2_3⟩ := hQ2
  have N3 := Fr.app N0 N2q
  have O4 := O0.keep K2 (allS g_11 all0)
  have K5 : Keep h0 T2.heap [a1] := Keep.trans (Keep.refl h0 [a1]) K2 (allS (Or.inl (List.mem_of_getElem? (i := 0) rfl)) all0)
  refine ⟨T2, none, _, _, _, X2, by decide, by decide, (fun _ => rfl), ?_, fun fs hr => castTop (ef_230 m a1 a2) ?_⟩
  · show Q51_init Z a1 a2 k3 p4 p5 p6 p7 p8 h0 n0 _ T2.heap _
    exact ⟨b2_0, k2_0, rfl, N3, K5, gb2_0, F2_0, F2_1, F2_2, F2_3⟩
  · show SS p e below s₁ m 0 #[rv a1, rv a2] [] _
    refine XS.aloadN X0.here hx rfl (hb hby d_147) rfl rfl ?_
    refine XS.aloadN X0.here hx rfl (hb hby d_148) rfl rfl ?_
    refine XS.iconst X0.here hx rfl (hb hby d_149) ?_
    refine XS.aloadN X0.here hx rfl (hb hby d_150) rfl rfl ?_
    refine X0.arraylength hx (by rw [e0]; exact A1.1) (State.isArrayOf_alike hZ.alike A1.2.1) (g := (mkF m 4 #[rv a1, rv a2] [(.ref a2), (.int 0), (.ref a2), (.ref a1)])) rfl rfl (hb hby d_151) _ ?_
    rw [len_of S1 N1]
    refine XS.aconstNull X0.here hx rfl (hb hby d_152) ?_
    refine st2 _ ?_
    exact X2.returnOut hx hret (hb hby d_229) hr
theorem d_341 : decode method_3_code 119 = .ok (.areturn, 1) := by decide +kernel
theorem ef_342 (m : MethodId) (p1 : Int32) (p2 : Int32) (p3 : Int32) (p4 : Int32) (p5 : Int32) (p6 : Int32) (p7 : Int32) : entryFrame m #[(.int 4), (.int p1), (.int p2), (.int p3), (.int p4), (.int p5), (.int p6), (.int p7)] 8 = mkF m 0 #[iv 4, iv p1, iv p2, iv p3, iv p4, iv p5, iv p6, iv p7] [] := by first | (simp [entryFrame, mkF, argsToLocals, Value.category]; done) | rfl
def Q52_str (Z : State) (p1 : Int32) (p2 : Int32) (p3 : Int32) (p4 : Int32) (p5 : Int32) (p6 : Int32) (p7 : Int32) (p8 : Int32) (h0 : Heap) (n0 : Nat) (v : Option Value) (h : Heap) (L : List Loc) : Prop := ∃ (b1 : Addr) (b34_0 : Addr) (k34_0 : ClassId), v = some (.ref b1) ∧ Fr n0 L ∧ Keep h0 h [] ∧ h0.size ≤ b1 ∧ h0.size ≤ b34_0 ∧ EA14 Z h b1 ∧ FA11 Z h b1 (.int 0) ∧ FA12 Z h b1 (.ref b34_0) ∧ Arv Z h b34_0 k34_0 .byte 4 [(.int (p1.toInt8.toInt32)), (.int (p2.toInt8.toInt32)), (.int (p3.toInt8.toInt32)), (.int (p4.toInt8.toInt32))] (.int 0) ∧ EA16 Z h b34_0
theorem rm52_str (l : Launch) (Z : State) (a0 : Array Value) (hw : HW Z a0) (p1 : Int32) (p2 : Int32) (p3 : Int32) (p4 : Int32) (p5 : Int32) (p6 : Int32) (p7 : Int32) (p8 : Int32) (h0 : Heap) (n0 : Nat) (O0 : Old Z n0 h0) (nr_0 : nar .char p1 = p1) (nr_1 : nar .char p2 = p2) (nr_2 : nar .char p3 = p3) (nr_3 : nar .char p4 = p4) (S_4 : SA18 Z Z.heap (.int p8)) (hc_5 : ¬ (p8 = (0 : Int32))) (hc_6 : ¬ ((255 : Int32) < p1)) (hc_7 : ¬ ((255 : Int32) < p2)) (hc_8 : ¬ ((255 : Int32) < p3)) (hc_9 : ¬ ((255 : Int32) < p4)) :
    Met l Z [] MY10 method_3_code 8 (some (.object "java/lang/String")) ({ frames := 4, cells := 3, slots := 12, locals := 66 } : Room) #[(.int 4), (.int p1), (.int p2), (.int p3), (.int p4), (.int p5), (.int p6), (.int p7)] h0 (Q52_str Z p1 p2 p3 p4 p5 p6 p7 p8 h0 n0) := by
  have W := @own_W _ _ hw
  refine own_mk (plainFor_of_name pn_234) ?_
  intro p e s m below meth c s₁ hZ hx hby hml hown hnm hret hlk X0 e0
  have N0 := Fr.nil n0
  obtain ⟨T1, h1, X1, e1, E1, A1, D1, -, st1⟩ := newO X0 hx hZ hown (W 4 rfl) (W 5 rfl) (W 6 rfl) e0 (g := (mkF m 92 #[iv 4, iv p1, iv p2, iv p3, iv p4, iv p5, iv p6, iv p7] [])) rfl (hb hby d_316) (by decide) (by decide)
  obtain ⟨b1, g1⟩ : ∃ z, z = h0.size := ⟨_, rfl⟩
  rw [← g1] at A1 D1 st1
  have O2 := O0.ext E1
  have K3 : Keep h0 h1 [] := Keep.ext (Keep.refl h0 []) E1
  obtain ⟨T4, h4, k4, X4, e4, E4, A4, B4, st4⟩ := newPE X1 hx hZ (W 7 rfl) e1 (g := (mkF m 97 #[iv 4, iv p1, iv p2, iv p3, iv p4, iv p5, iv p6, iv p7] [(.int 4), (.ref b1), (.ref b1)])) rfl (hb hby d_319) rfl (by decide) (cap := 4) (by decide) (by decide) (by decide) (by decide) (ad := "[C") rfl
  obtain ⟨b4, g4⟩ : ∃ z, z = h1.size := ⟨_, rfl⟩
  rw [← g4] at A4 B4 st4
  have O5 := O2.ext E4
  have K6 : Keep h0 h4 [] := Keep.ext K3 E4
  have v7 : Arv Z h4 b4 k4 .char 4 [(.int 0), (.int 0), (.int 0), (.int 0)] (.int 0) := (Arv.new A4 (by decide)).pad (pad_rep [] (.int 0) 4)
  obtain ⟨c8, A8, q8, S8, N8, H8, G8⟩ := id v7
  have i9 : NB 0 c8 := inb_of S8 (by decide)
  obtain ⟨T9, h9, X9, e9, W9, st9⟩ := stC X4 hx hZ e4 A8 (j := 0) i9 (g := (mkF m 102 #[iv 4, iv p1, iv p2, iv p3, iv p4, iv p5, iv p6, iv p7] [(.int p1), (.int 0), (.ref b4), (.ref b4), (.ref b1), (.ref b1)])) rfl rfl (hb hby d_323)
  rw [nr_0] at W9
  have z10 : h0.size ≤ h1.size := E1.1
  have g11 : n0 ≤ b4 := Nat.le_trans (Nat.le_trans (Nat.le_trans (Nat.le_of_eq O0.1.symm) O0.2.1) z10) (Nat.le_of_eq g4.symm)
  have O12 := O5.wr W9 g11
  have K13 : Keep h0 h9 [] := Keep.wr K6 W9 (Or.inr (Nat.le_trans z10 (Nat.le_of_eq g4.symm)))
  have v14 : Arv Z h9 b4 k4 .char 4 [(.int p1), (.int 0), (.int 0), (.int 0)] (.int 0) := Arv.set A8 q8 S8 N8 H8 G8 (own_fput (by simp) nr_0) W9 0 rfl (Nat.le_of_ble_eq_true rfl)
  have N15 := Fr.snoc X9 N0 g11
  obtain ⟨c16, A16, q16, S16, N16, H16, G16⟩ := id v14
  have i17 : NB 1 c16 := inb_of S16 (by decide)
  obtain ⟨T17, h17, X17, e17, W17, st17⟩ := stC X9 hx hZ e9 A16 (j := 1) i17 (g := (mkF m 106 #[iv 4, iv p1, iv p2, iv p3, iv p4, iv p5, iv p6, iv p7] [(.int p2), (.int 1), (.ref b4), (.ref b4), (.ref b1), (.ref b1)])) rfl rfl (hb hby d_327)
  rw [nr_1] at W17
  have O18 := O12.wr W17 g11
  have K19 : Keep h0 h17 [] := Keep.wr K13 W17 (Or.inr (Nat.le_trans z10 (Nat.le_of_eq g4.symm)))
  have v20 : Arv Z h17 b4 k4 .char 4 [(.int p1), (.int p2), (.int 0), (.int 0)] (.int 0) := Arv.set A16 q16 S16 N16 H16 G16 (own_fput (by simp) nr_1) W17 1 rfl (Nat.le_of_ble_eq_true rfl)
  have N21 := Fr.snoc X17 N15 g11
  obtain ⟨c22, A22, q22, S22, N22, H22, G22⟩ := id v20
  have i23 : NB 2 c22 := inb_of S22 (by decide)
  obtain ⟨T23, h23, X23, e23, W23, st23⟩ := stC X17 hx hZ e17 A22 (j := 2) i23 (g := (mkF m 110 #[iv 4, iv p1, iv p2, iv p3, iv p4, iv p5, iv p6, iv p7] [(.int p3), (.int 2), (.ref b4), (.ref b4), (.ref b1), (.ref b1)])) rfl rfl (hb hby d_331)
  rw [nr_2] at W23
  have O24 := O18.wr W23 g11
  have K25 : Keep h0 h23 [] := Keep.wr K19 W23 (Or.inr (Nat.le_trans z10 (Nat.le_of_eq g4.symm)))
  have v26 : Arv Z h23 b4 k4 .char 4 [(.int p1), (.int p2), (.int p3), (.int 0)] (.int 0) := Arv.set A22 q22 S22 N22 H22 G22 (own_fput (by simp) nr_2) W23 2 rfl (Nat.le_of_ble_eq_true rfl)
  have N27 := Fr.snoc X23 N21 g11
  obtain ⟨c28, A28, q28, S28, N28, H28, G28⟩ := id v26
  have i29 : NB 3 c28 := inb_of S28 (by decide)
  obtain ⟨T29, h29, X29, e29, W29, st29⟩ := stC X23 hx hZ e23 A28 (j := 3) i29 (g := (mkF m 115 #[iv 4, iv p1, iv p2, iv p3, iv p4, iv p5, iv p6, iv p7] [(.int p4), (.int 3), (.ref b4), (.ref b4), (.ref b1), (.ref b1)])) rfl rfl (hb hby d_335)
  rw [nr_3] at W29
  have O30 := O24.wr W29 g11
  have K31 : Keep h0 h29 [] := Keep.wr K25 W29 (Or.inr (Nat.le_trans z10 (Nat.le_of_eq g4.symm)))
  have v32 : Arv Z h29 b4 k4 .char 4 [(.int p1), (.int p2), (.int p3), (.int p4)] (.int 0) := Arv.set A28 q28 S28 N28 H28 G28 (own_fput (by simp) nr_3) W29 3 rfl (Nat.le_of_ble_eq_true rfl)
  have N33 := Fr.snoc X29 N27 g11
  have f35 := (((((A1.ext E4).wr W9).wr W17).wr W23).wr W29)
  have f36 := ((((((D1 (Or.inr (W 31 rfl)) (ty := .byte) (by decide) : FA11 Z h1 b1 (.int 0)).ext E4).other W9 (Or.inl (Nat.ne_of_lt (Nat.lt_of_lt_of_le A1.lt (Nat.le_of_eq g4.symm))))).other W17 (Or.inl (Nat.ne_of_lt (Nat.lt_of_lt_of_le A1.lt (Nat.le_of_eq g4.symm))))).other W23 (Or.inl (Nat.ne_of_lt (Nat.lt_of_lt_of_le A1.lt (Nat.le_of_eq g4.symm))))).other W29 (Or.inl (Nat.ne_of_lt (Nat.lt_of_lt_of_le A1.lt (Nat.le_of_eq g4.symm)))))
  have f37 := ((((((D1 (Or.inr (W 33 rfl)) (ty := (.array .byte)) (by decide) : FA12 Z h1 b1 .null).ext E4).other W9 (Or.inl (Nat.ne_of_lt (Nat.lt_of_lt_of_le A1.lt (Nat.le_of_eq g4.symm))))).other W17 (Or.inl (Nat.ne_of_lt (Nat.lt_of_lt_of_le A1.lt (Nat.le_of_eq g4.symm))))).other W23 (Or.inl (Nat.ne_of_lt (Nat.lt_of_lt_of_le A1.lt (Nat.le_of_eq g4.symm))))).other W29 (Or.inl (Nat.ne_of_lt (Nat.lt_of_lt_of_le A1.lt (Nat.le_of_eq g4.symm)))))
  have z38 : h4.size ≤ h9.size := (Nat.le_of_eq W9.size.symm)
  have z39 : h4.size ≤ h17.size := (Nat.le_trans z38 (Nat.le_of_eq W17.size.symm))
  have z40 : h4.size ≤ h23.size := (Nat.le_trans z39 (Nat.le_of_eq W23.size.symm))
  have z41 : h4.size ≤ h29.size := (Nat.le_trans z40 (Nat.le_of_eq W29.size.symm))
  have g42 : n0 ≤ b1 := Nat.le_trans (Nat.le_trans (Nat.le_of_eq O0.1.symm) O0.2.1) (Nat.le_of_eq g1.symm)
  have z43 : h1.size ≤ h4.size := E4.1
  have z44 : h1.size ≤ h9.size := (Nat.le_trans z43 (Nat.le_of_eq W9.size.symm))
  have z45 : h1.size ≤ h17.size := (Nat.le_trans z44 (Nat.le_of_eq W17.size.symm))
  have z46 : h1.size ≤ h23.size := (Nat.le_trans z45 (Nat.le_of_eq W23.size.symm))
  have z47 : h1.size ≤ h29.size := (Nat.le_trans z46 (Nat.le_of_eq W29.size.symm))
  obtain ⟨_, T34, L34, X34, hQ34, st34⟩ := own_cp X29 hx hZ hown hml rfl (W 8 rfl) (W 9 rfl) (W 6 rfl) (W 10 rfl) (rm51_init l Z a0 hw b1 b4 k4 p1 p2 p3 p4 p8 h29 n0 O30 (v32) (S_4) (hc_5) (hc_6) (hc_7) (hc_8) (hc_9) (f35) (f36) (f37) ((Nat.lt_of_lt_of_le A4.lt z41)) (g42) ((Nat.lt_of_lt_of_le A1.lt z47))) e29 (hb hby d_336) 1 #[iv 4, iv p1, iv p2, iv p3, iv p4, iv p5, iv p6, iv p7] b1 [(.ref b4)] [(.ref b1)] pd_231
  obtain ⟨b34_0, k34_0, rfl, N34q, K34, gb34_0, F34_0, F34_1, F34_2, F34_3⟩ := hQ34
  have N48 := Fr.app N33 N34q
  have O49 := O30.keep K34 (allS g42 all0)
  have K50 : Keep h0 T34.heap [] := Keep.trans K31 K34 (allS (Or.inr (Nat.le_of_eq g1.symm)) all0)
  have f51 := (f35.keep K34)
  have z52 : h0.size ≤ h4.size := (Nat.le_trans z10 E4.1)
  have z53 : h0.size ≤ h9.size := (Nat.le_trans z52 (Nat.le_of_eq W9.size.symm))
  have z54 : h0.size ≤ h17.size := (Nat.le_trans z53 (Nat.le_of_eq W17.size.symm))
  have z55 : h0.size ≤ h23.size := (Nat.le_trans z54 (Nat.le_of_eq W23.size.symm))
  have z56 : h0.size ≤ h29.size := (Nat.le_trans z55 (Nat.le_of_eq W29.size.symm))
  refine ⟨T34, some (.ref b1), _, _, _, X34, by decide, by decide, nofun, ?_, fun fs hr => castTop (ef_342 m p1 p2 p3 p4 p5 p6 p7) ?_⟩
  · show Q52_str Z p1 p2 p3 p4 p5 p6 p7 p8 h0 n0 _ T34.heap _
    exact ⟨b1, b34_0, k34_0, rfl, N48, K50, (Nat.le_of_eq g1.symm), (Nat.le_trans z56 gb34_0), f51, F34_2, F34_3, F34_0, F34_1⟩
  · show SS p e below s₁ m 0 #[iv 4, iv p1, iv p2, iv p3, iv p4, iv p5, iv p6, iv p7] [] _
    refine XS.iloadN X0.here hx rfl (hb hby d_98) rfl ?_
    refine XS.ifYes X0.here hx rfl (pc0 := 1) (pc' := 15) rfl (hb hby d_99) rfl ((if0 _ _).trans (feq (by decide : ¬ ((4 : Int32) = (0 : Int32)))).2) (by decide) (by decide) ?_
    refine XS.iloadN X0.here hx rfl (hb hby d_100) rfl ?_
    refine XS.iconst X0.here hx rfl (hb hby d_101) ?_
    refine XS.icmpYes X0.here hx rfl (pc0 := 17) (pc' := 35) rfl (hb hby d_102) rfl (feq (by decide : ¬ ((4 : Int32) = (1 : Int32)))).2 (by decide) (by decide) ?_
    refine XS.iloadN X0.here hx rfl (hb hby d_103) rfl ?_
    refine XS.iconst X0.here hx rfl (hb hby d_104) ?_
    refine XS.icmpYes X0.here hx rfl (pc0 := 37) (pc' := 59) rfl (hb hby d_105) rfl (feq (by decide : ¬ ((4 : Int32) = (2 : Int32)))).2 (by decide) (by decide) ?_
    refine XS.iloadN X0.here hx rfl (hb hby d_106) rfl ?_
    refine XS.iconst X0.here hx rfl (hb hby d_107) ?_
    show SS p e below s₁ m 61 #[iv 4, iv p1, iv p2, iv p3, iv p4, iv p5, iv p6, iv p7] [(.int 3), (.int 4)] _
    refine XS.icmpYes X0.here hx rfl (pc0 := 61) (pc' := 87) rfl (hb hby d_108) rfl (feq (by decide : ¬ ((4 : Int32) = (3 : Int32)))).2 (by decide) (by decide) ?_
    refine XS.iloadN X0.here hx rfl (hb hby d_109) rfl ?_
    refine XS.iconst X0.here hx rfl (hb hby d_110) ?_
    refine XS.icmpNo X0.here hx rfl (hb hby d_111) rfl (teq (by decide : (4 : Int32) = (4 : Int32))).2 ?_
    refine st1 _ ?_
    refine XS.dup X1.here hx rfl (hb hby d_317) rfl rfl ?_
    refine XS.iconst X1.here hx rfl (hb hby d_318) ?_
    refine st4 _ ?_
    refine XS.dup X4.here hx rfl (hb hby d_320) rfl rfl ?_
    refine XS.iconst X4.here hx rfl (hb hby d_321) ?_
    show SS p e below T4 m 101 #[iv 4, iv p1, iv p2, iv p3, iv p4, iv p5, iv p6, iv p7] [(.int 0), (.ref b4), (.ref b4), (.ref b1), (.ref b1)] _
    refine XS.iloadN X4.here hx rfl (hb hby d_322) rfl ?_
    refine st9 _ ?_
    refine XS.dup X9.here hx rfl (hb hby d_324) rfl rfl ?_
    refine XS.iconst X9.here hx rfl (hb hby d_325) ?_
    refine XS.iloadN X9.here hx rfl (hb hby d_326) rfl ?_
    refine st17 _ ?_
    refine XS.dup X17.here hx rfl (hb hby d_328) rfl rfl ?_
    refine XS.iconst X17.here hx rfl (hb hby d_329) ?_
    refine XS.iloadN X17.here hx rfl (hb hby d_330) rfl ?_
    refine st23 _ ?_
    show SS p e below T23 m 111 #[iv 4, iv p1, iv p2, iv p3, iv p4, iv p5, iv p6, iv p7] [(.ref b4), (.ref b1), (.ref b1)] _
    refine XS.dup X23.here hx rfl (hb hby d_332) rfl rfl ?_
    refine XS.iconst X23.here hx rfl (hb hby d_333) ?_
    refine XS.iload X23.here hx rfl (hb hby d_334) rfl ?_
    refine st29 _ ?_
    refine st34 _ ?_
    exact retOut X34 hx hret rfl (Or.inr (Or.inr (Or.inr (Or.inr ⟨rfl, rfl, rfl⟩)))) (hb hby d_341) hr
theorem d_343 : decode method_3_code 125 = .ok (.new 14, 3) := by decide +kernel
theorem d_344 : decode method_3_code 128 = .ok (.dup, 1) := by decide +kernel
theorem d_345 : decode method_3_code 129 = .ok (.iconst 5, 1) := by decide +kernel
theorem d_346 : decode method_3_code 130 = .ok (.newarray .char, 2) := by decide +kernel
theorem d_347 : decode method_3_code 132 = .ok (.dup, 1) := by decide +kernel
theorem d_348 : decode method_3_code 133 = .ok (.iconst 0, 1) := by decide +kernel
theorem d_349 : decode method_3_code 134 = .ok (.iload_n 1, 1) := by decide +kernel
theorem d_350 : decode method_3_code 135 = .ok (.castore, 1) := by decide +kernel
theorem d_351 : decode method_3_code 136 = .ok (.dup, 1) := by decide +kernel
theorem d_352 : decode method_3_code 137 = .ok (.iconst 1, 1) := by decide +kernel
theorem d_353 : decode method_3_code 138 = .ok (.iload_n 2, 1) := by decide +kernel
theorem d_354 : decode method_3_code 139 = .ok (.castore, 1) := by decide +kernel
theorem d_355 : decode method_3_code 140 = .ok (.dup, 1) := by decide +kernel
theorem d_356 : decode method_3_code 141 = .ok (.iconst 2, 1) := by decide +kernel
theorem d_357 : decode method_3_code 142 = .ok (.iload_n 3, 1) := by decide +kernel
theorem d_358 : decode method_3_code 143 = .ok (.castore, 1) := by decide +kernel
theorem d_359 : decode method_3_code 144 = .ok (.dup, 1) := by decide +kernel
theorem d_360 : decode method_3_code 145 = .ok (.iconst 3, 1) := by decide +kernel
theorem d_361 : decode method_3_code 146 = .ok (.iload 4, 2) := by decide +kernel
theorem d_362 : decode method_3_code 148 = .ok (.castore, 1) := by decide +kernel
theorem d_363 : decode method_3_code 149 = .ok (.dup, 1) := by decide +kernel
theorem d_364 : decode method_3_code 150 = .ok (.iconst 4, 1) := by decide +kernel
theorem d_365 : decode method_3_code 151 = .ok (.iload 5, 2) := by decide +kernel
theorem d_366 : decode method_3_code 153 = .ok (.castore, 1) := by decide +kernel
theorem d_367 : decode method_3_code 154 = .ok (.invokespecial 16, 3) := by decide +kernel
theorem ef_368 (m : MethodId) (a1 : Addr) (a2 : Addr) : entryFrame m #[(.ref a1), (.int 0), (.ref a2), (.int 0), (.int 5)] 7 = mkF m 0 #[rv a1, iv 0, rv a2, iv 0, iv 5, .unset, .unset] [] := by first | (simp [entryFrame, mkF, argsToLocals, Value.category]; done) | rfl
def Q53_compress (Z : State) (a1 : Addr) (a2 : Addr) (k3 : ClassId) (p4 : Int32) (p5 : Int32) (p6 : Int32) (p7 : Int32) (p8 : Int32) (k9 : ClassId) (p10 : Int32) (p11 : Int32) (p12 : Int32) (p13 : Int32) (p14 : Int32) (h0 : Heap) (n0 : Nat) (v : Option Value) (h : Heap) (L : List Loc) : Prop := v = some (.int 5) ∧ Fr n0 L ∧ Keep h0 h [a2] ∧ Arv Z h a2 k9 .byte 5 [(.int (p4.toInt8.toInt32)), (.int (p5.toInt8.toInt32)), (.int (p6.toInt8.toInt32)), (.int (p7.toInt8.toInt32)), (.int (p8.toInt8.toInt32))] (.int 0)
theorem rm53_compress (l : Launch) (Z : State) (a0 : Array Value) (hw : HW Z a0) (a1 : Addr) (a2 : Addr) (k3 : ClassId) (p4 : Int32) (p5 : Int32) (p6 : Int32) (p7 : Int32) (p8 : Int32) (k9 : ClassId) (p10 : Int32) (p11 : Int32) (p12 : Int32) (p13 : Int32) (p14 : Int32) (h0 : Heap) (n0 : Nat) (O0 : Old Z n0 h0) (F_0 : Arv Z h0 a1 k3 .char 5 [(.int p4), (.int p5), (.int p6), (.int p7), (.int p8)] (.int 0)) (hc_1 : ¬ ((255 : Int32) < p4)) (F_2 : Arv Z h0 a2 k9 .byte 5 [(.int p10), (.int p11), (.int p12), (.int p13), (.int p14)] (.int 0)) (g_3 : n0 ≤ a2) (ne_4 : a1 ≠ a2) (hc_5 : ¬ ((255 : Int32) < p5)) (hc_6 : ¬ ((255 : Int32) < p6)) (hc_7 : ¬ ((255 : Int32) < p7)) (hc_8 : ¬ ((255 : Int32) < p8)) :
    Met l Z [] MY5 jdk_52_method_21_code 7 (some .int) ({ frames := 0, cells := 0, slots := 0, locals := 0 } : Room) #[(.ref a1), (.int 0), (.ref a2), (.int 0), (.int 5)] h0 (Q53_compress Z a1 a2 k3 p4 p5 p6 p7 p8 k9 p10 p11 p12 p13 p14 h0 n0) := by
  have W := @own_W _ _ hw
  refine own_mk (plainFor_of_name pn_197) ?_
  intro p e s m below meth c s₁ hZ hx hby hml hown hnm hret hlk X0 e0
  have N0 := Fr.nil n0
  obtain ⟨c1, A1, q1, S1, N1, H1, G1⟩ := id F_0
  have i2 : NB 0 c1 := inb_of S1 (by decide)
  obtain ⟨c3, A3, q3, S3, N3, H3, G3⟩ := id F_2
  have i4 : NB 0 c3 := inb_of S3 (by decide)
  obtain ⟨T4, h4, X4, e4, W4, st4⟩ := stB X0 hx hZ e0 A3 (j := 0) i4 (g := (mkF m 31 #[rv a1, iv 0, rv a2, iv 0, iv 5, iv 0, iv p4] [(.int (p4.toInt8.toInt32)), (.int 0), (.ref a2)])) rfl rfl (hb hby d_189)
  rw [(own_narB _)] at W4
  have O5 := O0.wr W4 g_3
  have K6 : Keep h0 h4 [a2] := Keep.wr (Keep.refl h0 [a2]) W4 (Or.inl (List.mem_of_getElem? (i := 0) rfl))
  have v7 : Arv Z h4 a2 k9 .byte 5 [(.int (p4.toInt8.toInt32)), (.int p11), (.int p12), (.int p13), (.int p14)] (.int 0) := Arv.set A3 q3 S3 N3 H3 G3 (own_fput (by simp) (own_narB _)) W4 0 rfl (Nat.le_of_ble_eq_true rfl)
  have N8 := Fr.snoc X4 N0 g_3
  have f10 := (F_0.other W4 ne_4)
  obtain ⟨c9, A9, q9, S9, N9, H9, G9⟩ := id f10
  have i11 : NB 1 c9 := inb_of S9 (by decide)
  obtain ⟨c12, A12, q12, S12, N12, H12, G12⟩ := id v7
  have i13 : NB 1 c12 := inb_of S12 (by decide)
  obtain ⟨T13, h13, X13, e13, W13, st13⟩ := stB X4 hx hZ e4 A12 (j := 1) i13 (g := (mkF m 31 #[rv a1, iv 1, rv a2, iv 1, iv 5, iv 1, iv p5] [(.int (p5.toInt8.toInt32)), (.int 1), (.ref a2)])) rfl rfl (hb hby d_189)
  rw [(own_narB _)] at W13
  have O14 := O5.wr W13 g_3
  have K15 : Keep h0 h13 [a2] := Keep.wr K6 W13 (Or.inl (List.mem_of_getElem? (i := 0) rfl))
  have v16 : Arv Z h13 a2 k9 .byte 5 [(.int (p4.toInt8.toInt32)), (.int (p5.toInt8.toInt32)), (.int p12), (.int p13), (.int p14)] (.int 0) := Arv.set A12 q12 S12 N12 H12 G12 (own_fput (by simp) (own_narB _)) W13 1 rfl (Nat.le_of_ble_eq_true rfl)
  have N17 := Fr.snoc X13 N8 g_3
  have f19 := (f10.other W13 ne_4)
  obtain ⟨c18, A18, q18, S18, N18, H18, G18⟩ := id f19
  have i20 : NB 2 c18 := inb_of S18 (by decide)
  obtain ⟨c21, A21, q21, S21, N21, H21, G21⟩ := id v16
  have i22 : NB 2 c21 := inb_of S21 (by decide)
  obtain ⟨T22, h22, X22, e22, W22, st22⟩ := stB X13 hx hZ e13 A21 (j := 2) i22 (g := (mkF m 31 #[rv a1, iv 2, rv a2, iv 2, iv 5, iv 2, iv p6] [(.int (p6.toInt8.toInt32)), (.int 2), (.ref a2)])) rfl rfl (hb hby d_189)
  rw [(own_narB _)] at W22
  have O23 := O14.wr W22 g_3
  have K24 : Keep h0 h22 [a2] := Keep.wr K15 W22 (Or.inl (List.mem_of_getElem? (i := 0) rfl))
  have v25 : Arv Z h22 a2 k9 .byte 5 [(.int (p4.toInt8.toInt32)), (.int (p5.toInt8.toInt32)), (.int (p6.toInt8.toInt32)), (.int p13), (.int p14)] (.int 0) := Arv.set A21 q21 S21 N21 H21 G21 (own_fput (by simp) (own_narB _)) W22 2 rfl (Nat.le_of_ble_eq_true rfl)
  have N26 := Fr.snoc X22 N17 g_3
  have f28 := (f19.other W22 ne_4)
  obtain ⟨c27, A27, q27, S27, N27, H27, G27⟩ := id f28
  have i29 : NB 3 c27 := inb_of S27 (by decide)
  obtain ⟨c30, A30, q30, S30, N30, H30, G30⟩ := id v25
  have i31 : NB 3 c30 := inb_of S30 (by decide)
  obtain ⟨T31, h31, X31, e31, W31, st31⟩ := stB X22 hx hZ e22 A30 (j := 3) i31 (g := (mkF m 31 #[rv a1, iv 3, rv a2, iv 3, iv 5, iv 3, iv p7] [(.int (p7.toInt8.toInt32)), (.int 3), (.ref a2)])) rfl rfl (hb hby d_189)
  rw [(own_narB _)] at W31
  have O32 := O23.wr W31 g_3
  have K33 : Keep h0 h31 [a2] := Keep.wr K24 W31 (Or.inl (List.mem_of_getElem? (i := 0) rfl))
  have v34 : Arv Z h31 a2 k9 .byte 5 [(.int (p4.toInt8.toInt32)), (.int (p5.toInt8.toInt32)), (.int (p6.toInt8.toInt32)), (.int (p7.toInt8.toInt32)), (.int p14)] (.int 0) := Arv.set A30 q30 S30 N30 H30 G30 (own_fput (by simp) (own_narB _)) W31 3 rfl (Nat.le_of_ble_eq_true rfl)
  have N35 := Fr.snoc X31 N26 g_3
  have f37 := (f28.other W31 ne_4)
  obtain ⟨c36, A36, q36, S36, N36, H36, G36⟩ := id f37
  have i38 : NB 4 c36 := inb_of S36 (by decide)
  obtain ⟨c39, A39, q39, S39, N39, H39, G39⟩ := id v34
  have i40 : NB 4 c39 := inb_of S39 (by decide)
  obtain ⟨T40, h40, X40, e40, W40, st40⟩ := stB X31 hx hZ e31 A39 (j := 4) i40 (g := (mkF m 31 #[rv a1, iv 4, rv a2, iv 4, iv 5, iv 4, iv p8] [(.int (p8.toInt8.toInt32)), (.int 4), (.ref a2)])) rfl rfl (hb hby d_189)
  rw [(own_narB _)] at W40
  have O41 := O32.wr W40 g_3
  have K42 : Keep h0 h40 [a2] := Keep.wr K33 W40 (Or.inl (List.mem_of_getElem? (i := 0) rfl))
  have v43 : Arv Z h40 a2 k9 .byte 5 [(.int (p4.toInt8.toInt32)), (.int (p5.toInt8.toInt32)), (.int (p6.toInt8.toInt32)), (.int (p7.toInt8.toInt32)), (.int (p8.toInt8.toInt32))] (.int 0) := Arv.set A39 q39 S39 N39 H39 G39 (own_fput (by simp) (own_narB _)) W40 4 rfl (Nat.le_of_ble_eq_true rfl)
  have N44 := Fr.snoc X40 N35 g_3
  refine ⟨T40, some (.int 5), _, _, _, X40, by decide, by decide, nofun, ?_, fun fs hr => castTop (ef_368 m a1 a2) ?_⟩
  · show Q53_compress Z a1 a2 k3 p4 p5 p6 p7 p8 k9 p10 p11 p12 p13 p14 h0 n0 _ T40.heap _
    rw [e40]
    exact ⟨rfl, N44, K42, v43⟩
  · show SS p e below s₁ m 0 #[rv a1, iv 0, rv a2, iv 0, iv 5, .unset, .unset] [] _
    refine XS.iconst X0.here hx rfl (hb hby d_173) ?_
    refine XS.istore X0.here hx rfl (hb hby d_174) rfl (l' := #[rv a1, iv 0, rv a2, iv 0, iv 5, iv 0, .unset]) rfl ?_
    refine XS.iload X0.here hx rfl (hb hby d_175) rfl ?_
    refine XS.iload X0.here hx rfl (hb hby d_176) rfl ?_
    refine XS.icmpNo X0.here hx rfl (hb hby d_177) rfl (tlt (by decide : (0 : Int32) < (5 : Int32))).2.1 ?_
    refine XS.aloadN X0.here hx rfl (hb hby d_178) rfl rfl ?_
    refine XS.iloadN X0.here hx rfl (hb hby d_179) rfl ?_
    refine X0.caload hx (j := 0) (v := (.int p4)) (by rw [e0]; exact A1.1) (State.isArrayOf_alike hZ.alike A1.2.1) A1.2.2 i2 (H1.at i2 rfl) (g := (mkF m 12 #[rv a1, iv 0, rv a2, iv 0, iv 5, iv 0, .unset] [(.int 0), (.ref a1)])) rfl rfl (hb hby d_180) _ ?_
    refine XS.istore X0.here hx rfl (hb hby d_181) rfl (l' := #[rv a1, iv 0, rv a2, iv 0, iv 5, iv 0, iv p4]) rfl ?_
    refine XS.iload X0.here hx rfl (hb hby d_182) rfl ?_
    show SS p e below s₁ m 17 #[rv a1, iv 0, rv a2, iv 0, iv 5, iv 0, iv p4] [(.int p4)] _
    refine XS.sipush X0.here hx rfl (hb hby d_183) ?_
    refine XS.icmpYes X0.here hx rfl (pc0 := 20) (pc' := 26) rfl (hb hby d_184) rfl (flt hc_1).2.2.2 (by decide) (by decide) ?_
    refine XS.aloadN X0.here hx rfl (hb hby d_185) rfl rfl ?_
    refine XS.iloadN X0.here hx rfl (hb hby d_186) rfl ?_
    refine XS.iload X0.here hx rfl (hb hby d_187) rfl ?_
    show SS p e below s₁ m 30 #[rv a1, iv 0, rv a2, iv 0, iv 5, iv 0, iv p4] [(.int p4), (.int 0), (.ref a2)] _
    refine XS.i2b X0.here hx rfl (hb hby d_188) rfl ?_
    show SS p e below s₁ m 31 #[rv a1, iv 0, rv a2, iv 0, iv 5, iv 0, iv p4] [(.int (p4.toInt8.toInt32)), (.int 0), (.ref a2)] _
    refine st4 _ ?_
    refine XS.iinc X4.here hx rfl (hb hby d_190) rfl (l' := #[rv a1, iv 1, rv a2, iv 0, iv 5, iv 0, iv p4]) rfl ?_
    show SS p e below T4 m 35 #[rv a1, iv 1, rv a2, iv 0, iv 5, iv 0, iv p4] [] _
    refine XS.iinc X4.here hx rfl (hb hby d_191) rfl (l' := #[rv a1, iv 1, rv a2, iv 1, iv 5, iv 0, iv p4]) rfl ?_
    show SS p e below T4 m 38 #[rv a1, iv 1, rv a2, iv 1, iv 5, iv 0, iv p4] [] _
    refine XS.iinc X4.here hx rfl (hb hby d_192) rfl (l' := #[rv a1, iv 1, rv a2, iv 1, iv 5, iv 1, iv p4]) rfl ?_
    show SS p e below T4 m 41 #[rv a1, iv 1, rv a2, iv 1, iv 5, iv 1, iv p4] [] _
    refine XS.goto X4.here hx rfl (pc0 := 41) (pc' := 3) rfl (hb hby d_193) (by decide) (by decide) ?_
    refine XS.iload X4.here hx rfl (hb hby d_175) rfl ?_
    refine XS.iload X4.here hx rfl (hb hby d_176) rfl ?_
    refine XS.icmpNo X4.here hx rfl (hb hby d_177) rfl (tlt (by decide : (1 : Int32) < (5 : Int32))).2.1 ?_
    refine XS.aloadN X4.here hx rfl (hb hby d_178) rfl rfl ?_
    refine XS.iloadN X4.here hx rfl (hb hby d_179) rfl ?_
    refine X4.caload hx (j := 1) (v := (.int p5)) (by rw [e4]; exact A9.1) (State.isArrayOf_alike hZ.alike A9.2.1) A9.2.2 i11 (H9.at i11 rfl) (g := (mkF m 12 #[rv a1, iv 1, rv a2, iv 1, iv 5, iv 1, iv p4] [(.int 1), (.ref a1)])) rfl rfl (hb hby d_180) _ ?_
    refine XS.istore X4.here hx rfl (hb hby d_181) rfl (l' := #[rv a1, iv 1, rv a2, iv 1, iv 5, iv 1, iv p5]) rfl ?_
    refine XS.iload X4.here hx rfl (hb hby d_182) rfl ?_
    refine XS.sipush X4.here hx rfl (hb hby d_183) ?_
    show SS p e below T4 m 20 #[rv a1, iv 1, rv a2, iv 1, iv 5, iv 1, iv p5] [(.int 255), (.int p5)] _
    refine XS.icmpYes X4.here hx rfl (pc0 := 20) (pc' := 26) rfl (hb hby d_184) rfl (flt hc_5).2.2.2 (by decide) (by decide) ?_
    refine XS.aloadN X4.here hx rfl (hb hby d_185) rfl rfl ?_
    refine XS.iloadN X4.here hx rfl (hb hby d_186) rfl ?_
    refine XS.iload X4.here hx rfl (hb hby d_187) rfl ?_
    show SS p e below T4 m 30 #[rv a1, iv 1, rv a2, iv 1, iv 5, iv 1, iv p5] [(.int p5), (.int 1), (.ref a2)] _
    refine XS.i2b X4.here hx rfl (hb hby d_188) rfl ?_
    show SS p e below T4 m 31 #[rv a1, iv 1, rv a2, iv 1, iv 5, iv 1, iv p5] [(.int (p5.toInt8.toInt32)), (.int 1), (.ref a2)] _
    refine st13 _ ?_
    refine XS.iinc X13.here hx rfl (hb hby d_190) rfl (l' := #[rv a1, iv 2, rv a2, iv 1, iv 5, iv 1, iv p5]) rfl ?_
    show SS p e below T13 m 35 #[rv a1, iv 2, rv a2, iv 1, iv 5, iv 1, iv p5] [] _
    refine XS.iinc X13.here hx rfl (hb hby d_191) rfl (l' := #[rv a1, iv 2, rv a2, iv 2, iv 5, iv 1, iv p5]) rfl ?_
    show SS p e below T13 m 38 #[rv a1, iv 2, rv a2, iv 2, iv 5, iv 1, iv p5] [] _
    refine XS.iinc X13.here hx rfl (hb hby d_192) rfl (l' := #[rv a1, iv 2, rv a2, iv 2, iv 5, iv 2, iv p5]) rfl ?_
    show SS p e below T13 m 41 #[rv a1, iv 2, rv a2, iv 2, iv 5, iv 2, iv p5] [] _
    refine XS.goto X13.here hx rfl (pc0 := 41) (pc' := 3) rfl (hb hby d_193) (by decide) (by decide) ?_
    refine XS.iload X13.here hx rfl (hb hby d_175) rfl ?_
    refine XS.iload X13.here hx rfl (hb hby d_176) rfl ?_
    refine XS.icmpNo X13.here hx rfl (hb hby d_177) rfl (tlt (by decide : (2 : Int32) < (5 : Int32))).2.1 ?_
    refine XS.aloadN X13.here hx rfl (hb hby d_178) rfl rfl ?_
    refine XS.iloadN X13.here hx rfl (hb hby d_179) rfl ?_
    refine X13.caload hx (j := 2) (v := (.int p6)) (by rw [e13]; exact A18.1) (State.isArrayOf_alike hZ.alike A18.2.1) A18.2.2 i20 (H18.at i20 rfl) (g := (mkF m 12 #[rv a1, iv 2, rv a2, iv 2, iv 5, iv 2, iv p5] [(.int 2), (.ref a1)])) rfl rfl (hb hby d_180) _ ?_
    refine XS.istore X13.here hx rfl (hb hby d_181) rfl (l' := #[rv a1, iv 2, rv a2, iv 2, iv 5, iv 2, iv p6]) rfl ?_
    refine XS.iload X13.here hx rfl (hb hby d_182) rfl ?_
    refine XS.sipush X13.here hx rfl (hb hby d_183) ?_
    show SS p e below T13 m 20 #[rv a1, iv 2, rv a2, iv 2, iv 5, iv 2, iv p6] [(.int 255), (.int p6)] _
    refine XS.icmpYes X13.here hx rfl (pc0 := 20) (pc' := 26) rfl (hb hby d_184) rfl (flt hc_6).2.2.2 (by decide) (by decide) ?_
    refine XS.aloadN X13.here hx rfl (hb hby d_185) rfl rfl ?_
    refine XS.iloadN X13.here hx rfl (hb hby d_186) rfl ?_
    refine XS.iload X13.here hx rfl (hb hby d_187) rfl ?_
    show SS p e below T13 m 30 #[rv a1, iv 2, rv a2, iv 2, iv 5, iv 2, iv p6] [(.int p6), (.int 2), (.ref a2)] _
    refine XS.i2b X13.here hx rfl (hb hby d_188) rfl ?_
    show SS p e below T13 m 31 #[rv a1, iv 2, rv a2, iv 2, iv 5, iv 2, iv p6] [(.int (p6.toInt8.toInt32)), (.int 2), (.ref a2)] _
    refine st22 _ ?_
    refine XS.iinc X22.here hx rfl (hb hby d_190) rfl (l' := #[rv a1, iv 3, rv a2, iv 2, iv 5, iv 2, iv p6]) rfl ?_
    show SS p e below T22 m 35 #[rv a1, iv 3, rv a2, iv 2, iv 5, iv 2, iv p6] [] _
    refine XS.iinc X22.here hx rfl (hb hby d_191) rfl (l' := #[rv a1, iv 3, rv a2, iv 3, iv 5, iv 2, iv p6]) rfl ?_
    show SS p e below T22 m 38 #[rv a1, iv 3, rv a2, iv 3, iv 5, iv 2, iv p6] [] _
    refine XS.iinc X22.here hx rfl (hb hby d_192) rfl (l' := #[rv a1, iv 3, rv a2, iv 3, iv 5, iv 3, iv p6]) rfl ?_
    show SS p e below T22 m 41 #[rv a1, iv 3, rv a2, iv 3, iv 5, iv 3, iv p6] [] _
    refine XS.goto X22.here hx rfl (pc0 := 41) (pc' := 3) rfl (hb hby d_193) (by decide) (by decide) ?_
    refine XS.iload X22.here hx rfl (hb hby d_175) rfl ?_
    refine XS.iload X22.here hx rfl (hb hby d_176) rfl ?_
    refine XS.icmpNo X22.here hx rfl (hb hby d_177) rfl (tlt (by decide : (3 : Int32) < (5 : Int32))).2.1 ?_
    refine XS.aloadN X22.here hx rfl (hb hby d_178) rfl rfl ?_
    refine XS.iloadN X22.here hx rfl (hb hby d_179) rfl ?_
    refine X22.caload hx (j := 3) (v := (.int p7)) (by rw [e22]; exact A27.1) (State.isArrayOf_alike hZ.alike A27.2.1) A27.2.2 i29 (H27.at i29 rfl) (g := (mkF m 12 #[rv a1, iv 3, rv a2, iv 3, iv 5, iv 3, iv p6] [(.int 3), (.ref a1)])) rfl rfl (hb hby d_180) _ ?_
    refine XS.istore X22.here hx rfl (hb hby d_181) rfl (l' := #[rv a1, iv 3, rv a2, iv 3, iv 5, iv 3, iv p7]) rfl ?_
    refine XS.iload X22.here hx rfl (hb hby d_182) rfl ?_
    refine XS.sipush X22.here hx rfl (hb hby d_183) ?_
    show SS p e below T22 m 20 #[rv a1, iv 3, rv a2, iv 3, iv 5, iv 3, iv p7] [(.int 255), (.int p7)] _
    refine XS.icmpYes X22.here hx rfl (pc0 := 20) (pc' := 26) rfl (hb hby d_184) rfl (flt hc_7).2.2.2 (by decide) (by decide) ?_
    refine XS.aloadN X22.here hx rfl (hb hby d_185) rfl rfl ?_
    refine XS.iloadN X22.here hx rfl (hb hby d_186) rfl ?_
    refine XS.iload X22.here hx rfl (hb hby d_187) rfl ?_
    show SS p e below T22 m 30 #[rv a1, iv 3, rv a2, iv 3, iv 5, iv 3, iv p7] [(.int p7), (.int 3), (.ref a2)] _
    refine XS.i2b X22.here hx rfl (hb hby d_188) rfl ?_
    show SS p e below T22 m 31 #[rv a1, iv 3, rv a2, iv 3, iv 5, iv 3, iv p7] [(.int (p7.toInt8.toInt32)), (.int 3), (.ref a2)] _
    refine st31 _ ?_
    refine XS.iinc X31.here hx rfl (hb hby d_190) rfl (l' := #[rv a1, iv 4, rv a2, iv 3, iv 5, iv 3, iv p7]) rfl ?_
    show SS p e below T31 m 35 #[rv a1, iv 4, rv a2, iv 3, iv 5, iv 3, iv p7] [] _
    refine XS.iinc X31.here hx rfl (hb hby d_191) rfl (l' := #[rv a1, iv 4, rv a2, iv 4, iv 5, iv 3, iv p7]) rfl ?_
    show SS p e below T31 m 38 #[rv a1, iv 4, rv a2, iv 4, iv 5, iv 3, iv p7] [] _
    refine XS.iinc X31.here hx rfl (hb hby d_192) rfl (l' := #[rv a1, iv 4, rv a2, iv 4, iv 5, iv 4, iv p7]) rfl ?_
    show SS p e below T31 m 41 #[rv a1, iv 4, rv a2, iv 4, iv 5, iv 4, iv p7] [] _
    refine XS.goto X31.here hx rfl (pc0 := 41) (pc' := 3) rfl (hb hby d_193) (by decide) (by decide) ?_
    refine XS.iload X31.here hx rfl (hb hby d_175) rfl ?_
    refine XS.iload X31.here hx rfl (hb hby d_176) rfl ?_
    refine XS.icmpNo X31.here hx rfl (hb hby d_177) rfl (tlt (by decide : (4 : Int32) < (5 : Int32))).2.1 ?_
    refine XS.aloadN X31.here hx rfl (hb hby d_178) rfl rfl ?_
    refine XS.iloadN X31.here hx rfl (hb hby d_179) rfl ?_
    refine X31.caload hx (j := 4) (v := (.int p8)) (by rw [e31]; exact A36.1) (State.isArrayOf_alike hZ.alike A36.2.1) A36.2.2 i38 (H36.at i38 rfl) (g := (mkF m 12 #[rv a1, iv 4, rv a2, iv 4, iv 5, iv 4, iv p7] [(.int 4), (.ref a1)])) rfl rfl (hb hby d_180) _ ?_
    refine XS.istore X31.here hx rfl (hb hby d_181) rfl (l' := #[rv a1, iv 4, rv a2, iv 4, iv 5, iv 4, iv p8]) rfl ?_
    refine XS.iload X31.here hx rfl (hb hby d_182) rfl ?_
    refine XS.sipush X31.here hx rfl (hb hby d_183) ?_
    show SS p e below T31 m 20 #[rv a1, iv 4, rv a2, iv 4, iv 5, iv 4, iv p8] [(.int 255), (.int p8)] _
    refine XS.icmpYes X31.here hx rfl (pc0 := 20) (pc' := 26) rfl (hb hby d_184) rfl (flt hc_8).2.2.2 (by decide) (by decide) ?_
    refine XS.aloadN X31.here hx rfl (hb hby d_185) rfl rfl ?_
    refine XS.iloadN X31.here hx rfl (hb hby d_186) rfl ?_
    refine XS.iload X31.here hx rfl (hb hby d_187) rfl ?_
    show SS p e below T31 m 30 #[rv a1, iv 4, rv a2, iv 4, iv 5, iv 4, iv p8] [(.int p8), (.int 4), (.ref a2)] _
    refine XS.i2b X31.here hx rfl (hb hby d_188) rfl ?_
    show SS p e below T31 m 31 #[rv a1, iv 4, rv a2, iv 4, iv 5, iv 4, iv p8] [(.int (p8.toInt8.toInt32)), (.int 4), (.ref a2)] _
    refine st40 _ ?_
    refine XS.iinc X40.here hx rfl (hb hby d_190) rfl (l' := #[rv a1, iv 5, rv a2, iv 4, iv 5, iv 4, iv p8]) rfl ?_
    show SS p e below T40 m 35 #[rv a1, iv 5, rv a2, iv 4, iv 5, iv 4, iv p8] [] _
    refine XS.iinc X40.here hx rfl (hb hby d_191) rfl (l' := #[rv a1, iv 5, rv a2, iv 5, iv 5, iv 4, iv p8]) rfl ?_
    show SS p e below T40 m 38 #[rv a1, iv 5, rv a2, iv 5, iv 5, iv 4, iv p8] [] _
    refine XS.iinc X40.here hx rfl (hb hby d_192) rfl (l' := #[rv a1, iv 5, rv a2, iv 5, iv 5, iv 5, iv p8]) rfl ?_
    show SS p e below T40 m 41 #[rv a1, iv 5, rv a2, iv 5, iv 5, iv 5, iv p8] [] _
    refine XS.goto X40.here hx rfl (pc0 := 41) (pc' := 3) rfl (hb hby d_193) (by decide) (by decide) ?_
    refine XS.iload X40.here hx rfl (hb hby d_175) rfl ?_
    refine XS.iload X40.here hx rfl (hb hby d_176) rfl ?_
    refine XS.icmpYes X40.here hx rfl (pc0 := 7) (pc' := 44) rfl (hb hby d_177) rfl (flt (by decide : ¬ ((5 : Int32) < (5 : Int32)))).2.1 (by decide) (by decide) ?_
    refine XS.iload X40.here hx rfl (hb hby d_194) rfl ?_
    exact retI X40 hx hret (hb hby d_195) hr
theorem ef_369 (m : MethodId) (a1 : Addr) : entryFrame m #[(.ref a1), (.int 0), (.int 5)] 6 = mkF m 0 #[rv a1, iv 0, iv 5, .unset, .unset, .unset] [] := by first | (simp [entryFrame, mkF, argsToLocals, Value.category]; done) | rfl
def Q54_compress (Z : State) (a1 : Addr) (k2 : ClassId) (p3 : Int32) (p4 : Int32) (p5 : Int32) (p6 : Int32) (p7 : Int32) (h0 : Heap) (n0 : Nat) (v : Option Value) (h : Heap) (L : List Loc) : Prop := ∃ (b1 : Addr) (k1 : ClassId), v = some (.ref b1) ∧ Fr n0 L ∧ Keep h0 h [] ∧ h0.size ≤ b1 ∧ Arv Z h b1 k1 .byte 5 [(.int (p3.toInt8.toInt32)), (.int (p4.toInt8.toInt32)), (.int (p5.toInt8.toInt32)), (.int (p6.toInt8.toInt32)), (.int (p7.toInt8.toInt32))] (.int 0) ∧ EA16 Z h b1
theorem rm54_compress (l : Launch) (Z : State) (a0 : Array Value) (hw : HW Z a0) (a1 : Addr) (k2 : ClassId) (p3 : Int32) (p4 : Int32) (p5 : Int32) (p6 : Int32) (p7 : Int32) (h0 : Heap) (n0 : Nat) (O0 : Old Z n0 h0) (F_0 : Arv Z h0 a1 k2 .char 5 [(.int p3), (.int p4), (.int p5), (.int p6), (.int p7)] (.int 0)) (hc_1 : ¬ ((255 : Int32) < p3)) (hc_2 : ¬ ((255 : Int32) < p4)) (hc_3 : ¬ ((255 : Int32) < p5)) (hc_4 : ¬ ((255 : Int32) < p6)) (hc_5 : ¬ ((255 : Int32) < p7)) (lt_6 : a1 < h0.size) :
    Met l Z [] MY6 jdk_52_method_16_code 6 (some (.array .byte)) ({ frames := 1, cells := 1, slots := 5, locals := 18 } : Room) #[(.ref a1), (.int 0), (.int 5)] h0 (Q54_compress Z a1 k2 p3 p4 p5 p6 p7 h0 n0) := by
  have W := @own_W _ _ hw
  refine own_mk (plainFor_of_name pn_197) ?_
  intro p e s m below meth c s₁ hZ hx hby hml hown hnm hret hlk X0 e0
  have N0 := Fr.nil n0
  obtain ⟨T1, h1, k1, X1, e1, E1, A1, B1, st1⟩ := newPE X0 hx hZ (W 23 rfl) e0 (g := (mkF m 1 #[rv a1, iv 0, iv 5, .unset, .unset, .unset] [(.int 5)])) rfl (hb hby d_165) rfl (by decide) (cap := 5) (by decide) (by decide) (by decide) (by decide) (ad := "[B") rfl
  obtain ⟨b1, g1⟩ : ∃ z, z = h0.size := ⟨_, rfl⟩
  rw [← g1] at A1 B1 st1
  have O2 := O0.ext E1
  have K3 : Keep h0 h1 [] := Keep.ext (Keep.refl h0 []) E1
  have v4 : Arv Z h1 b1 k1 .byte 5 [(.int 0), (.int 0), (.int 0), (.int 0), (.int 0)] (.int 0) := (Arv.new A1 (by decide)).pad (pad_rep [] (.int 0) 5)
  have f6 := (F_0.ext E1)
  have g7 : n0 ≤ b1 := Nat.le_trans (Nat.le_trans (Nat.le_of_eq O0.1.symm) O0.2.1) (Nat.le_of_eq g1.symm)
  obtain ⟨_, T5, L5, X5, hQ5, st5⟩ := own_cs X1 hx hZ hown hml (W 24 rfl) (W 25 rfl) (W 21 rfl) (W 26 rfl) (rm53_compress l Z a0 hw a1 b1 k2 p3 p4 p5 p6 p7 k1 (0 : Int32) (0 : Int32) (0 : Int32) (0 : Int32) (0 : Int32) h1 n0 O2 (f6) (hc_1) (v4) (g7) ((Nat.ne_of_lt (Nat.lt_of_lt_of_le lt_6 (Nat.le_of_eq g1.symm)))) (hc_2) (hc_3) (hc_4) (hc_5)) e1 (hb hby d_172) 0 #[rv a1, iv 0, iv 5, rv b1, .unset, .unset] [(.ref a1), (.int 0), (.ref b1), (.int 0), (.int 5)] [] pd_198
  obtain ⟨rfl, N5q, K5, F5_0⟩ := hQ5
  have N8 := Fr.app N0 N5q
  have O9 := O2.keep K5 (allS g7 all0)
  have K10 : Keep h0 T5.heap [] := Keep.trans K3 K5 (allS (Or.inr (Nat.le_of_eq g1.symm)) all0)
  have f11 := (B1.keep K5)
  refine ⟨T5, some (.ref b1), _, _, _, X5, by decide, by decide, nofun, ?_, fun fs hr => castTop (ef_369 m a1) ?_⟩
  · show Q54_compress Z a1 k2 p3 p4 p5 p6 p7 h0 n0 _ T5.heap _
    exact ⟨b1, k1, rfl, N8, K10, (Nat.le_of_eq g1.symm), F5_0, f11⟩
  · show SS p e below s₁ m 0 #[rv a1, iv 0, iv 5, .unset, .unset, .unset] [] _
    refine XS.iloadN X0.here hx rfl (hb hby d_164) rfl ?_
    refine st1 _ ?_
    refine XS.astoreN X1.here hx rfl (hb hby d_166) rfl rfl (l' := #[rv a1, iv 0, iv 5, rv b1, .unset, .unset]) rfl ?_
    refine XS.aloadN X1.here hx rfl (hb hby d_167) rfl rfl ?_
    refine XS.iloadN X1.here hx rfl (hb hby d_168) rfl ?_
    refine XS.aloadN X1.here hx rfl (hb hby d_169) rfl rfl ?_
    refine XS.iconst X1.here hx rfl (hb hby d_170) ?_
    refine XS.iloadN X1.here hx rfl (hb hby d_171) rfl ?_
    refine st5 _ ?_
    refine XS.istore X5.here hx rfl (hb hby d_199) rfl (l' := #[rv a1, iv 0, iv 5, rv b1, iv 5, .unset]) rfl ?_
    show SS p e below T5 m 14 #[rv a1, iv 0, iv 5, rv b1, iv 5, .unset] [] _
    refine XS.iload X5.here hx rfl (hb hby d_200) rfl ?_
    refine XS.iloadN X5.here hx rfl (hb hby d_201) rfl ?_
    refine XS.icmpYes X5.here hx rfl (pc0 := 17) (pc' := 57) rfl (hb hby d_202) rfl (teq (by decide : (5 : Int32) = (5 : Int32))).1 (by decide) (by decide) ?_
    refine XS.aloadN X5.here hx rfl (hb hby d_203) rfl rfl ?_
    exact retOut X5 hx hret rfl (Or.inr (Or.inr (Or.inr (Or.inr ⟨rfl, rfl, rfl⟩)))) (hb hby d_204) hr
theorem ef_370 (m : MethodId) (a1 : Addr) : entryFrame m #[(.ref a1), (.int 5)] 2 = mkF m 0 #[rv a1, iv 5] [] := by first | (simp [entryFrame, mkF, argsToLocals, Value.category]; done) | rfl
def Q55_coderFromArrayLen (Z : State) (a1 : Addr) (k2 : ClassId) (p3 : Int32) (p4 : Int32) (p5 : Int32) (p6 : Int32) (p7 : Int32) (h0 : Heap) (n0 : Nat) (v : Option Value) (h : Heap) (L : List Loc) : Prop := v = some (.int 0) ∧ Fr n0 L ∧ h = h0
theorem rm55_coderFromArrayLen (l : Launch) (Z : State) (a0 : Array Value) (hw : HW Z a0) (a1 : Addr) (k2 : ClassId) (p3 : Int32) (p4 : Int32) (p5 : Int32) (p6 : Int32) (p7 : Int32) (h0 : Heap) (n0 : Nat) (O0 : Old Z n0 h0) (F_0 : Arv Z h0 a1 k2 .byte 5 [(.int p3), (.int p4), (.int p5), (.int p6), (.int p7)] (.int 0)) :
    Met l Z [] MY7 jdk_52_method_15_code 2 (some .byte) ({ frames := 0, cells := 0, slots := 0, locals := 0 } : Room) #[(.ref a1), (.int 5)] h0 (Q55_coderFromArrayLen Z a1 k2 p3 p4 p5 p6 p7 h0 n0) := by
  have W := @own_W _ _ hw
  refine own_mk (plainFor_of_name pn_197) ?_
  intro p e s m below meth c s₁ hZ hx hby hml hown hnm hret hlk X0 e0
  have N0 := Fr.nil n0
  obtain ⟨c1, A1, q1, S1, N1, H1, G1⟩ := id F_0
  refine ⟨s₁, some (.int 0), _, _, _, X0, by decide, by decide, nofun, ?_, fun fs hr => castTop (ef_370 m a1) ?_⟩
  · show Q55_coderFromArrayLen Z a1 k2 p3 p4 p5 p6 p7 h0 n0 _ s₁.heap _
    rw [e0]
    exact ⟨rfl, N0, rfl⟩
  · show SS p e below s₁ m 0 #[rv a1, iv 5] [] _
    refine XS.iloadN X0.here hx rfl (hb hby d_212) rfl ?_
    refine XS.aloadN X0.here hx rfl (hb hby d_213) rfl rfl ?_
    refine X0.arraylength hx (by rw [e0]; exact A1.1) (State.isArrayOf_alike hZ.alike A1.2.1) (g := (mkF m 2 #[rv a1, iv 5] [(.ref a1), (.int 5)])) rfl rfl (hb hby d_214) _ ?_
    rw [len_of S1 N1]
    refine XS.isub X0.here hx rfl (hb hby d_215) rfl ?_
    show SS p e below s₁ m 4 #[rv a1, iv 5] [(.int 0)] _
    refine XS.bipush X0.here hx rfl (hb hby d_216) ?_
    refine XS.iushr X0.here hx rfl (hb hby d_217) rfl ?_
    show SS p e below s₁ m 7 #[rv a1, iv 5] [(.int 0)] _
    refine XS.i2b X0.here hx rfl (hb hby d_218) rfl ?_
    show SS p e below s₁ m 8 #[rv a1, iv 5] [(.int 0)] _
    exact retN X0 hx (t := .byte) hret (by simp) (hb hby d_219) hr
theorem ef_371 (m : MethodId) (a1 : Addr) (a2 : Addr) : entryFrame m #[(.ref a1), (.ref a2), (.int 0), (.int 5), .null] 6 = mkF m 0 #[rv a1, rv a2, iv 0, iv 5, .val .null, .unset] [] := by first | (simp [entryFrame, mkF, argsToLocals, Value.category]; done) | rfl
def Q56_init (Z : State) (a1 : Addr) (a2 : Addr) (p3 : Int32) (k4 : ClassId) (p5 : Int32) (p6 : Int32) (p7 : Int32) (p8 : Int32) (p9 : Int32) (h0 : Heap) (n0 : Nat) (v : Option Value) (h : Heap) (L : List Loc) : Prop := ∃ (b3_0 : Addr) (k3_0 : ClassId), v = none ∧ Fr n0 L ∧ Keep h0 h [a1] ∧ h0.size ≤ b3_0 ∧ Arv Z h b3_0 k3_0 .byte 5 [(.int (p5.toInt8.toInt32)), (.int (p6.toInt8.toInt32)), (.int (p7.toInt8.toInt32)), (.int (p8.toInt8.toInt32)), (.int (p9.toInt8.toInt32))] (.int 0) ∧ EA16 Z h b3_0 ∧ FA11 Z h a1 (.int 0) ∧ FA12 Z h a1 (.ref b3_0)
theorem rm56_init (l : Launch) (Z : State) (a0 : Array Value) (hw : HW Z a0) (a1 : Addr) (a2 : Addr) (p3 : Int32) (k4 : ClassId) (p5 : Int32) (p6 : Int32) (p7 : Int32) (p8 : Int32) (p9 : Int32) (h0 : Heap) (n0 : Nat) (O0 : Old Z n0 h0) (S_0 : SA18 Z Z.heap (.int p3)) (hc_1 : ¬ (p3 = (0 : Int32))) (F_2 : Arv Z h0 a2 k4 .char 5 [(.int p5), (.int p6), (.int p7), (.int p8), (.int p9)] (.int 0)) (hc_3 : ¬ ((255 : Int32) < p5)) (hc_4 : ¬ ((255 : Int32) < p6)) (hc_5 : ¬ ((255 : Int32) < p7)) (hc_6 : ¬ ((255 : Int32) < p8)) (hc_7 : ¬ ((255 : Int32) < p9)) (lt_8 : a2 < h0.size) (F_9 : EA14 Z h0 a1) (F_10 : FA11 Z h0 a1 (.int 0)) (g_11 : n0 ≤ a1) (F_12 : FA12 Z h0 a1 .null) (lt_13 : a1 < h0.size) :
    Met l Z [] MY8 jdk_42_method_149_code 6 none ({ frames := 2, cells := 1, slots := 5, locals := 35 } : Room) #[(.ref a1), (.ref a2), (.int 0), (.int 5), .null] h0 (Q56_init Z a1 a2 p3 k4 p5 p6 p7 p8 p9 h0 n0) := by
  have W := @own_W _ _ hw
  refine own_mk (plainFor_of_name pn_52) ?_
  intro p e s m below meth c s₁ hZ hx hby hml hown hnm hret hlk X0 e0
  have N0 := Fr.nil n0
  obtain ⟨T1, X1, e1, st1⟩ := initO X0 hx hZ hown (W 15 rfl) (W 16 rfl) (W 17 rfl) e0 (g := (mkF m 1 #[rv a1, rv a2, iv 0, iv 5, .val .null, .unset] [(.ref a1)])) rfl (by rw [hml]; rfl) rfl (hb hby d_155) (by decide) (W := 0) (by show 2 * 0 + _ ≤ _; exact Nat.le_of_eq rfl) (by decide)
  obtain ⟨T2, X2, e2, st2⟩ := getS2 X1 hx hZ hown (host := "") (Or.inl (W 18 rfl)) Via.refl e1 (S_0.ext O0.2) (g := (mkF m 27 #[rv a1, rv a2, iv 0, iv 5, .val .null, .unset] [])) rfl (hb hby d_158)
  obtain ⟨_, T3, L3, X3, hQ3, st3⟩ := own_cs X2 hx hZ hown hml (W 19 rfl) (W 20 rfl) (W 21 rfl) (W 22 rfl) (rm54_compress l Z a0 hw a2 k4 p5 p6 p7 p8 p9 h0 n0 O0 (F_2) (hc_3) (hc_4) (hc_5) (hc_6) (hc_7) (lt_8)) e2 (hb hby d_163) 0 #[rv a1, rv a2, iv 0, iv 5, .val .null, .unset] [(.ref a2), (.int 0), (.int 5)] [] pd_206
  obtain ⟨b3_0, k3_0, rfl, N3q, K3, gb3_0, F3_0, F3_1⟩ := hQ3
  have N4 := Fr.app N0 N3q
  have O5 := O0.keep K3 all0
  have K6 : Keep h0 T3.heap [a1] := Keep.trans (Keep.refl h0 [a1]) K3 all0
  obtain ⟨_, T7, L7, X7, hQ7, st7⟩ := own_cs X3 hx hZ hown hml (W 27 rfl) (W 28 rfl) (W 21 rfl) (W 29 rfl) (rm55_coderFromArrayLen l Z a0 hw b3_0 k3_0 (p5.toInt8.toInt32) (p6.toInt8.toInt32) (p7.toInt8.toInt32) (p8.toInt8.toInt32) (p9.toInt8.toInt32) T3.heap n0 O5 (F3_0)) rfl (hb hby d_211) 1 #[rv a1, rv a2, iv 0, iv 5, .val .null, rv b3_0] [(.ref b3_0), (.int 5)] [(.ref a1)] pd_221
  obtain ⟨rfl, N7q, K7⟩ := hQ7
  have N8 := Fr.app N4 N7q
  have f10 := (F_10.keep K3 nin0)
  have f11 := (F_9.keep K3)
  obtain ⟨T9, h9, X9, e9, W9, st9⟩ := putFN X7 hx hZ hown (W 30 rfl) Via.refl K7 f10 f11 (Or.inr ⟨(W 31 rfl), rfl, hnm⟩) (W 5 rfl) (ty := .byte) (v' := (.int 0)) (by decide) rfl rfl (g := (mkF m 48 #[rv a1, rv a2, iv 0, iv 5, .val .null, rv b3_0] [(.int 0), (.ref a1)])) rfl rfl (hb hby d_222)
  have O12 := O5.wr W9 g_11
  have K13 : Keep h0 h9 [a1] := Keep.wr K6 W9 (Or.inl (List.mem_of_getElem? (i := 0) rfl))
  have f14 : FA11 Z h9 a1 (.int 0) := (f10.same W9)
  have N15 := Fr.snoc X9 N8 g_11
  have f17 := ((F_12.keep K3 nin0).other W9 (Or.inr (slot_ne (Or.inr (W 33 rfl)) (Or.inr (W 31 rfl)) (by decide) (t := (.array .byte)) (t' := .byte) (by decide) (by decide))))
  have f18 := (f11.wr W9)
  obtain ⟨T16, h16, X16, e16, W16, st16⟩ := putF X9 hx hZ hown (host := "") (Or.inl (W 32 rfl)) Via.refl e9 f17 f18 (Or.inr ⟨(W 33 rfl), rfl, hnm⟩) (W 5 rfl) (ty := (.array .byte)) (by decide) rfl rfl (g := (mkF m 54 #[rv a1, rv a2, iv 0, iv 5, .val .null, rv b3_0] [(.ref b3_0), (.ref a1)])) rfl rfl (hb hby d_225)
  have O19 := O12.wr W16 g_11
  have K20 : Keep h0 h16 [a1] := Keep.wr K13 W16 (Or.inl (List.mem_of_getElem? (i := 0) rfl))
  have f21 : FA12 Z h16 a1 (.ref b3_0) := (f17.same W16)
  have N22 := Fr.snoc X16 N15 g_11
  have f23 := ((F3_0.other W9 (Ne.symm (Nat.ne_of_lt (Nat.lt_of_lt_of_le lt_13 gb3_0)))).other W16 (Ne.symm (Nat.ne_of_lt (Nat.lt_of_lt_of_le lt_13 gb3_0))))
  have f24 := ((F3_1.wr W9).wr W16)
  have f25 := (f14.other W16 (Or.inr (slot_ne (Or.inr (W 31 rfl)) (Or.inr (W 33 rfl)) (by decide) (t := .byte) (t' := (.array .byte)) (by decide) (by decide))))
  refine ⟨T16, none, _, _, _, X16, by decide, by decide, (fun _ => rfl), ?_, fun fs hr => castTop (ef_371 m a1 a2) ?_⟩
  · show Q56_init Z a1 a2 p3 k4 p5 p6 p7 p8 p9 h0 n0 _ T16.heap _
    rw [e16]
    exact ⟨b3_0, k3_0, rfl, N22, K20, gb3_0, f23, f24, f25, f21⟩
  · show SS p e below s₁ m 0 #[rv a1, rv a2, iv 0, iv 5, .val .null, .unset] [] _
    refine XS.aloadN X0.here hx rfl (hb hby d_154) rfl rfl ?_
    refine st1 _ ?_
    refine XS.iloadN X1.here hx rfl (hb hby d_156) rfl ?_
    refine XS.ifYes X1.here hx rfl (pc0 := 5) (pc' := 27) rfl (hb hby d_157) rfl ((if0 _ _).trans (feq (by decide : ¬ ((5 : Int32) = (0 : Int32)))).2) (by decide) (by decide) ?_
    refine st2 _ ?_
    refine XS.ifNo X2.here hx rfl (hb hby d_159) rfl ((if0 _ _).trans (feq hc_1).1) ?_
    refine XS.aloadN X2.here hx rfl (hb hby d_160) rfl rfl ?_
    refine XS.iloadN X2.here hx rfl (hb hby d_161) rfl ?_
    refine XS.iloadN X2.here hx rfl (hb hby d_162) rfl ?_
    refine st3 _ ?_
    show SS p e below T3 m 39 #[rv a1, rv a2, iv 0, iv 5, .val .null, .unset] [(.ref b3_0)] _
    refine XS.astore X3.here hx rfl (hb hby d_207) rfl rfl (l' := #[rv a1, rv a2, iv 0, iv 5, .val .null, rv b3_0]) rfl ?_
    refine XS.aloadN X3.here hx rfl (hb hby d_208) rfl rfl ?_
    refine XS.aload X3.here hx rfl (hb hby d_209) rfl rfl ?_
    refine XS.iloadN X3.here hx rfl (hb hby d_210) rfl ?_
    refine st7 _ ?_
    refine st9 _ ?_
    refine XS.aloadN X9.here hx rfl (hb hby d_223) rfl rfl ?_
    refine XS.aload X9.here hx rfl (hb hby d_224) rfl rfl ?_
    refine st16 _ ?_
    exact X16.returnOut hx hret (hb hby d_226) hr
def Q57_init (Z : State) (a1 : Addr) (a2 : Addr) (k3 : ClassId) (p4 : Int32) (p5 : Int32) (p6 : Int32) (p7 : Int32) (p8 : Int32) (p9 : Int32) (h0 : Heap) (n0 : Nat) (v : Option Value) (h : Heap) (L : List Loc) : Prop := ∃ (b2_0 : Addr) (k2_0 : ClassId), v = none ∧ Fr n0 L ∧ Keep h0 h [a1] ∧ h0.size ≤ b2_0 ∧ Arv Z h b2_0 k2_0 .byte 5 [(.int (p4.toInt8.toInt32)), (.int (p5.toInt8.toInt32)), (.int (p6.toInt8.toInt32)), (.int (p7.toInt8.toInt32)), (.int (p8.toInt8.toInt32))] (.int 0) ∧ EA16 Z h b2_0 ∧ FA11 Z h a1 (.int 0) ∧ FA12 Z h a1 (.ref b2_0)
theorem rm57_init (l : Launch) (Z : State) (a0 : Array Value) (hw : HW Z a0) (a1 : Addr) (a2 : Addr) (k3 : ClassId) (p4 : Int32) (p5 : Int32) (p6 : Int32) (p7 : Int32) (p8 : Int32) (p9 : Int32) (h0 : Heap) (n0 : Nat) (O0 : Old Z n0 h0) (F_0 : Arv Z h0 a2 k3 .char 5 [(.int p4), (.int p5), (.int p6), (.int p7), (.int p8)] (.int 0)) (S_1 : SA18 Z Z.heap (.int p9)) (hc_2 : ¬ (p9 = (0 : Int32))) (hc_3 : ¬ ((255 : Int32) < p4)) (hc_4 : ¬ ((255 : Int32) < p5)) (hc_5 : ¬ ((255 : Int32) < p6)) (hc_6 : ¬ ((255 : Int32) < p7)) (hc_7 : ¬ ((255 : Int32) < p8)) (F_8 : EA14 Z h0 a1) (F_9 : FA11 Z h0 a1 (.int 0)) (F_10 : FA12 Z h0 a1 .null) (lt_11 : a2 < h0.size) (g_12 : n0 ≤ a1) (lt_13 : a1 < h0.size) :
    Met l Z [] MY9 jdk_42_method_3_code 2 none ({ frames := 3, cells := 1, slots := 5, locals := 52 } : Room) #[(.ref a1), (.ref a2)] h0 (Q57_init Z a1 a2 k3 p4 p5 p6 p7 p8 p9 h0 n0) := by
  have W := @own_W _ _ hw
  refine own_mk (plainFor_of_name pn_52) ?_
  intro p e s m below meth c s₁ hZ hx hby hml hown hnm hret hlk X0 e0
  have N0 := Fr.nil n0
  obtain ⟨c1, A1, q1, S1, N1, H1, G1⟩ := id F_0
  obtain ⟨_, T2, L2, X2, hQ2, st2⟩ := own_cp X0 hx hZ hown hml rfl (W 11 rfl) (W 12 rfl) (W 6 rfl) (W 14 rfl) (rm56_init l Z a0 hw a1 a2 p9 k3 p4 p5 p6 p7 p8 h0 n0 O0 (S_1) (hc_2) (F_0) (hc_3) (hc_4) (hc_5) (hc_6) (hc_7) (lt_11) (F_8) (F_9) (g_12) (F_10) (lt_13)) e0 (hb hby d_153) 0 #[rv a1, rv a2] a1 [(.ref a2), (.int 0), (.int 5), .null] [] pd_228
  obtain ⟨b2_0, k2_0, rfl, N2q, K2, gb2_0, F2_0, F2_1, F2_2, F2_3⟩ := hQ2
  have N3 := Fr.app N0 N2q
  have O4 := O0.keep K2 (allS g_12 all0)
  have K5 : Keep h0 T2.heap [a1] := Keep.trans (Keep.refl h0 [a1]) K2 (allS (Or.inl (List.mem_of_getElem? (i := 0) rfl)) all0)
  refine ⟨T2, none, _, _, _, X2, by decide, by decide, (fun _ => rfl), ?_, fun fs hr => castTop (ef_230 m a1 a2) ?_⟩
  · show Q57_init Z a1 a2 k3 p4 p5 p6 p7 p8 p9 h0 n0 _ T2.heap _
    exact ⟨b2_0, k2_0, rfl, N3, K5, gb2_0, F2_0, F2_1, F2_2, F2_3⟩
  · show SS p e below s₁ m 0 #[rv a1, rv a2] [] _
    refine XS.aloadN X0.here hx rfl (hb hby d_147) rfl rfl ?_
    refine XS.aloadN X0.here hx rfl (hb hby d_148) rfl rfl ?_
    refine XS.iconst X0.here hx rfl (hb hby d_149) ?_
    refine XS.aloadN X0.here hx rfl (hb hby d_150) rfl rfl ?_
    refine X0.arraylength hx (by rw [e0]; exact A1.1) (State.isArrayOf_alike hZ.alike A1.2.1) (g := (mkF m 4 #[rv a1, rv a2] [(.ref a2), (.int 0), (.ref a2), (.ref a1)])) rfl rfl (hb hby d_151) _ ?_
    rw [len_of S1 N1]
    refine XS.aconstNull X0.here hx rfl (hb hby d_152) ?_
    refine st2 _ ?_
    exact X2.returnOut hx hret (hb hby d_229) hr
theorem d_372 : decode method_3_code 157 = .ok (.areturn, 1) := by decide +kernel
theorem ef_373 (m : MethodId) (p1 : Int32) (p2 : Int32) (p3 : Int32) (p4 : Int32) (p5 : Int32) (p6 : Int32) (p7 : Int32) : entryFrame m #[(.int 5), (.int p1), (.int p2), (.int p3), (.int p4), (.int p5), (.int p6), (.int p7)] 8 = mkF m 0 #[iv 5, iv p1, iv p2, iv p3, iv p4, iv p5, iv p6, iv p7] [] := by first | (simp [entryFrame, mkF, argsToLocals, Value.category]; done) | rfl
def Q58_str (Z : State) (p1 : Int32) (p2 : Int32) (p3 : Int32) (p4 : Int32) (p5 : Int32) (p6 : Int32) (p7 : Int32) (p8 : Int32) (h0 : Heap) (n0 : Nat) (v : Option Value) (h : Heap) (L : List Loc) : Prop := ∃ (b1 : Addr) (b40_0 : Addr) (k40_0 : ClassId), v = some (.ref b1) ∧ Fr n0 L ∧ Keep h0 h [] ∧ h0.size ≤ b1 ∧ h0.size ≤ b40_0 ∧ EA14 Z h b1 ∧ FA11 Z h b1 (.int 0) ∧ FA12 Z h b1 (.ref b40_0) ∧ Arv Z h b40_0 k40_0 .byte 5 [(.int (p1.toInt8.toInt32)), (.int (p2.toInt8.toInt32)), (.int (p3.toInt8.toInt32)), (.int (p4.toInt8.toInt32)), (.int (p5.toInt8.toInt32))] (.int 0) ∧ EA16 Z h b40_0
theorem rm58_str (l : Launch) (Z : State) (a0 : Array Value) (hw : HW Z a0) (p1 : Int32) (p2 : Int32) (p3 : Int32) (p4 : Int32) (p5 : Int32) (p6 : Int32) (p7 : Int32) (p8 : Int32) (h0 : Heap) (n0 : Nat) (O0 : Old Z n0 h0) (nr_0 : nar .char p1 = p1) (nr_1 : nar .char p2 = p2) (nr_2 : nar .char p3 = p3) (nr_3 : nar .char p4 = p4) (nr_4 : nar .char p5 = p5) (S_5 : SA18 Z Z.heap (.int p8)) (hc_6 : ¬ (p8 = (0 : Int32))) (hc_7 : ¬ ((255 : Int32) < p1)) (hc_8 : ¬ ((255 : Int32) < p2)) (hc_9 : ¬ ((255 : Int32) < p3)) (hc_10 : ¬ ((255 : Int32) < p4)) (hc_11 : ¬ ((255 : Int32) < p5)) :
    Met l Z [] MY10 method_3_code 8 (some (.object "java/lang/String")) ({ frames := 4, cells := 3, slots := 14, locals := 66 } : Room) #[(.int 5), (.int p1), (.int p2), (.int p3), (.int p4), (.int p5), (.int p6), (.int p7)] h0 (Q58_str Z p1 p2 p3 p4 p5 p6 p7 p8 h0 n0) := by
  have W := @own_W _ _ hw
  refine own_mk (plainFor_of_name pn_234) ?_
  intro p e s m below meth c s₁ hZ hx hby hml hown hnm hret hlk X0 e0
  have N0 := Fr.nil n0
  obtain ⟨T1, h1, X1, e1, E1, A1, D1, -, st1⟩ := newO X0 hx hZ hown (W 4 rfl) (W 5 rfl) (W 6 rfl) e0 (g := (mkF m 125 #[iv 5, iv p1, iv p2, iv p3, iv p4, iv p5, iv p6, iv p7] [])) rfl (hb hby d_343) (by decide) (by decide)
  obtain ⟨b1, g1⟩ : ∃ z, z = h0.size := ⟨_, rfl⟩
  rw [← g1] at A1 D1 st1
  have O2 := O0.ext E1
  have K3 : Keep h0 h1 [] := Keep.ext (Keep.refl h0 []) E1
  obtain ⟨T4, h4, k4, X4, e4, E4, A4, B4, st4⟩ := newPE X1 hx hZ (W 7 rfl) e1 (g := (mkF m 130 #[iv 5, iv p1, iv p2, iv p3, iv p4, iv p5, iv p6, iv p7] [(.int 5), (.ref b1), (.ref b1)])) rfl (hb hby d_346) rfl (by decide) (cap := 5) (by decide) (by decide) (by decide) (by decide) (ad := "[C") rfl
  obtain ⟨b4, g4⟩ : ∃ z, z = h1.size := ⟨_, rfl⟩
  rw [← g4] at A4 B4 st4
  have O5 := O2.ext E4
  have K6 : Keep h0 h4 [] := Keep.ext K3 E4
  have v7 : Arv Z h4 b4 k4 .char 5 [(.int 0), (.int 0), (.int 0), (.int 0), (.int 0)] (.int 0) := (Arv.new A4 (by decide)).pad (pad_rep [] (.int 0) 5)
  obtain ⟨c8, A8, q8, S8, N8, H8, G8⟩ := id v7
  have i9 : NB 0 c8 := inb_of S8 (by decide)
  obtain ⟨T9, h9, X9, e9, W9, st9⟩ := stC X4 hx hZ e4 A8 (j := 0) i9 (g := (mkF m 135 #[iv 5, iv p1, iv p2, iv p3, iv p4, iv p5, iv p6, iv p7] [(.int p1), (.int 0), (.ref b4), (.ref b4), (.ref b1), (.ref b1)])) rfl rfl (hb hby d_350)
  rw [nr_0] at W9
  have z10 : h0.size ≤ h1.size := E1.1
  have g11 : n0 ≤ b4 := Nat.le_trans (Nat.le_trans (Nat.le_trans (Nat.le_of_eq O0.1.symm) O0.2.1) z10) (Nat.le_of_eq g4.symm)
  have O12 := O5.wr W9 g11
  have K13 : Keep h0 h9 [] := Keep.wr K6 W9 (Or.inr (Nat.le_trans z10 (Nat.le_of_eq g4.symm)))
  have v14 : Arv Z h9 b4 k4 .char 5 [(.int p1), (.int 0), (.int 0), (.int 0), (.int 0)] (.int 0) := Arv.set A8 q8 S8 N8 H8 G8 (own_fput (by simp) nr_0) W9 0 rfl (Nat.le_of_ble_eq_true rfl)
  have N15 := Fr.snoc X9 N0 g11
  obtain ⟨c16, A16, q16, S16, N16, H16, G16⟩ := id v14
  have i17 : NB 1 c16 := inb_of S16 (by decide)
  obtain ⟨T17, h17, X17, e17, W17, st17⟩ := stC X9 hx hZ e9 A16 (j := 1) i17 (g := (mkF m 139 #[iv 5, iv p1, iv p2, iv p3, iv p4, iv p5, iv p6, iv p7] [(.int p2), (.int 1), (.ref b4), (.ref b4), (.ref b1), (.ref b1)])) rfl rfl (hb hby d_354)
  rw [nr_1] at W17
  have O18 := O12.wr W17 g11
  have K19 : Keep h0 h17 [] := Keep.wr K13 W17 (Or.inr (Nat.le_trans z10 (Nat.le_of_eq g4.symm)))
  have v20 : Arv Z h17 b4 k4 .char 5 [(.int p1), (.int p2), (.int 0), (.int 0), (.int 0)] (.int 0) := Arv.set A16 q16 S16 N16 H16 G16 (own_fput (by simp) nr_1) W17 1 rfl (Nat.le_of_ble_eq_true rfl)
  have N21 := Fr.snoc X17 N15 g11
  obtain ⟨c22, A22, q22, S22, N22, H22, G22⟩ := id v20
  have i23 : NB 2 c22 := inb_of S22 (by decide)
  obtain ⟨T23, h23, X23, e23, W23, st23⟩ := stC X17 hx hZ e17 A22 (j := 2) i23 (g := (mkF m 143 #[iv 5, iv p1, iv p2, iv p3, iv p4, iv p5, iv p6, iv p7] [(.int p3), (.int 2), (.ref b4), (.ref b4), (.ref b1), (.ref b1)])) rfl rfl (hb hby d_358)
  rw [nr_2] at W23
  have O24 := O18.wr W23 g11
  have K25 : Keep h0 h23 [] := Keep.wr K19 W23 (Or.inr (Nat.le_trans z10 (Nat.le_of_eq g4.symm)))
  have v26 : Arv Z h23 b4 k4 .char 5 [(.int p1), (.int p2), (.int p3), (.int 0), (.int 0)] (.int 0) := Arv.set A22 q22 S22 N22 H22 G22 (own_fput (by simp) nr_2) W23 2 rfl (Nat.le_of_ble_eq_true rfl)
  have N27 := Fr.snoc X23 N21 g11
  obtain ⟨c28, A28, q28, S28, N28, H28, G28⟩ := id v26
  have i29 : NB 3 c28 := inb_of S28 (by decide)
  obtain ⟨T29, h29, X29, e29, W29, st29⟩ := stC X23 hx hZ e23 A28 (j := 3) i29 (g := (mkF m 148 #[iv 5, iv p1, iv p2, iv p3, iv p4, iv p5, iv p6, iv p7] [(.int p4), (.int 3), (.ref b4), (.ref b4), (.ref b1), (.ref b1)])) rfl rfl (hb hby d_362)
  rw [nr_3] at W29
  have O30 := O24.wr W29 g11
  have K31 : Keep h0 h29 [] := Keep.wr K25 W29 (Or.inr (Nat.le_trans z10 (Nat.le_of_eq g4.symm)))
  have v32 : Arv Z h29 b4 k4 .char 5 [(.int p1), (.int p2), (.int p3), (.int p4), (.int 0)] (.int 0) := Arv.set A28 q28 S28 N28 H28 G28 (own_fput (by simp) nr_3) W29 3 rfl (Nat.le_of_ble_eq_true rfl)
  have N33 := Fr.snoc X29 N27 g11
  obtain ⟨c34, A34, q34, S34, N34, H34, G34⟩ := id v32
  have i35 : NB 4 c34 := inb_of S34 (by decide)
  obtain ⟨T35, h35, X35, e35, W35, st35⟩ := stC X29 hx hZ e29 A34 (j := 4) i35 (g := (mkF m 153 #[iv 5, iv p1, iv p2, iv p3, iv p4, iv p5, iv p6, iv p7] [(.int p5), (.int 4), (.ref b4), (.ref b4), (.ref b1), (.ref b1)])) rfl rfl (hb hby d_366)
  rw [nr_4] at W35
  have O36 := O30.wr W35 g11
  have K37 : Keep h0 h35 [] := Keep.wr K31 W35 (Or.inr (Nat.le_trans z10 (Nat.le_of_eq g4.symm)))
  have v38 : Arv Z h35 b4 k4 .char 5 [(.int p1), (.int p2), (.int p3), (.int p4), (.int p5)] (.int 0) := Arv.set A34 q34 S34 N34 H34 G34 (own_fput (by simp) nr_4) W35 4 rfl (Nat.le_of_ble_eq_true rfl)
  have N39 := Fr.snoc X35 N33 g11
  have f41 := ((((((A1.ext E4).wr W9).wr W17).wr W23).wr W29).wr W35)
  have f42 := (((((((D1 (Or.inr (W 31 rfl)) (ty := .byte) (by decide) : FA11 Z h1 b1 (.int 0)).ext E4).other W9 (Or.inl (Nat.ne_of_lt (Nat.lt_of_lt_of_le A1.lt (Nat.le_of_eq g4.symm))))).other W17 (Or.inl (Nat.ne_of_lt (Nat.lt_of_lt_of_le A1.lt (Nat.le_of_eq g4.symm))))).other W23 (Or.inl (Nat.ne_of_lt (Nat.lt_of_lt_of_le A1.lt (Nat.le_of_eq g4.symm))))).other W29 (Or.inl (Nat.ne_of_lt (Nat.lt_of_lt_of_le A1.lt (Nat.le_of_eq g4.symm))))).other W35 (Or.inl (Nat.ne_of_lt (Nat.lt_of_lt_of_le A1.lt (Nat.le_of_eq g4.symm)))))
  have f43 := (((((((D1 (Or.inr (W 33 rfl)) (ty := (.array .byte)) (by decide) : FA12 Z h1 b1 .null).ext E4).other W9 (Or.inl (Nat.ne_of_lt (Nat.lt_of_lt_of_le A1.lt (Nat.le_of_eq g4.symm))))).other W17 (Or.inl (Nat.ne_of_lt (Nat.lt_of_lt_of_le A1.lt (Nat.le_of_eq g4.symm))))).other W23 (Or.inl (Nat.ne_of_lt (Nat.lt_of_lt_of_le A1.lt (Nat.le_of_eq g4.symm))))).other W29 (Or.inl (Nat.ne_of_lt (Nat.lt_of_lt_of_le A1.lt (Nat.le_of_eq g4.symm))))).other W35 (Or.inl (Nat.ne_of_lt (Nat.lt_of_lt_of_le A1.lt (Nat.le_of_eq g4.symm)))))
  have z44 : h4.size ≤ h9.size := (Nat.le_of_eq W9.size.symm)
  have z45 : h4.size ≤ h17.size := (Nat.le_trans z44 (Nat.le_of_eq W17.size.symm))
  have z46 : h4.size ≤ h23.size := (Nat.le_trans z45 (Nat.le_of_eq W23.size.symm))
  have z47 : h4.size ≤ h29.size := (Nat.le_trans z46 (Nat.le_of_eq W29.size.symm))
  have z48 : h4.size ≤ h35.size := (Nat.le_trans z47 (Nat.le_of_eq W35.size.symm))
  have g49 : n0 ≤ b1 := Nat.le_trans (Nat.le_trans (Nat.le_of_eq O0.1.symm) O0.2.1) (Nat.le_of_eq g1.symm)
  have z50 : h1.size ≤ h4.size := E4.1
  have z51 : h1.size ≤ h9.size := (Nat.le_trans z50 (Nat.le_of_eq W9.size.symm))
  have z52 : h1.size ≤ h17.size := (Nat.le_trans z51 (Nat.le_of_eq W17.size.symm))
  have z53 : h1.size ≤ h23.size := (Nat.le_trans z52 (Nat.le_of_eq W23.size.symm))
  have z54 : h1.size ≤ h29.size := (Nat.le_trans z53 (Nat.le_of_eq W29.size.symm))
  have z55 : h1.size ≤ h35.size := (Nat.le_trans z54 (Nat.le_of_eq W35.size.symm))
  obtain ⟨_, T40, L40, X40, hQ40, st40⟩ := own_cp X35 hx hZ hown hml rfl (W 8 rfl) (W 9 rfl) (W 6 rfl) (W 10 rfl) (rm57_init l Z a0 hw b1 b4 k4 p1 p2 p3 p4 p5 p8 h35 n0 O36 (v38) (S_5) (hc_6) (hc_7) (hc_8) (hc_9) (hc_10) (hc_11) (f41) (f42) (f43) ((Nat.lt_of_lt_of_le A4.lt z48)) (g49) ((Nat.lt_of_lt_of_le A1.lt z55))) e35 (hb hby d_367) 1 #[iv 5, iv p1, iv p2, iv p3, iv p4, iv p5, iv p6, iv p7] b1 [(.ref b4)] [(.ref b1)] pd_231
  obtain ⟨b40_0, k40_0, rfl, N40q, K40, gb40_0, F40_0, F40_1, F40_2, F40_3⟩ := hQ40
  have N56 := Fr.app N39 N40q
  have O57 := O36.keep K40 (allS g49 all0)
  have K58 : Keep h0 T40.heap [] := Keep.trans K37 K40 (allS (Or.inr (Nat.le_of_eq g1.symm)) all0)
  have f59 := (f41.keep K40)
  have z60 : h0.size ≤ h4.size := (Nat.le_trans z10 E4.1)
  have z61 : h0.size ≤ h9.size := (Nat.le_trans z60 (Nat.le_of_eq W9.size.symm))
  have z62 : h0.size ≤ h17.size := (Nat.le_trans z61 (Nat.le_of_eq W17.size.symm))
  have z63 : h0.size ≤ h23.size := (Nat.le_trans z62 (Nat.le_of_eq W23.size.symm))
  have z64 : h0.size ≤ h29.size := (Nat.le_trans z63 (Nat.le_of_eq W29.size.symm))
  have z65 : h0.size ≤ h35.size := (Nat.le_trans z64 (Nat.le_of_eq W35.size.symm))
  refine ⟨T40, some (.ref b1), _, _, _, X40, by decide, by decide, nofun, ?_, fun fs hr => castTop (ef_373 m p1 p2 p3 p4 p5 p6 p7) ?_⟩
  · show Q58_str Z p1 p2 p3 p4 p5 p6 p7 p8 h0 n0 _ T40.heap _
    exact ⟨b1, b40_0, k40_0, rfl, N56, K58, (Nat.le_of_eq g1.symm), (Nat.le_trans z65 gb40_0), f59, F40_2, F40_3, F40_0, F40_1⟩
  · show SS p e below s₁ m 0 #[iv 5, iv p1, iv p2, iv p3, iv p4, iv p5, iv p6, iv p7] [] _
    refine XS.iloadN X0.here hx rfl (hb hby d_98) rfl ?_
    refine XS.ifYes X0.here hx rfl (pc0 := 1) (pc' := 15) rfl (hb hby d_99) rfl ((if0 _ _).trans (feq (by decide : ¬ ((5 : Int32) = (0 : Int32)))).2) (by decide) (by decide) ?_
    refine XS.iloadN X0.here hx rfl (hb hby d_100) rfl ?_
    refine XS.iconst X0.here hx rfl (hb hby d_101) ?_
    refine XS.icmpYes X0.here hx rfl (pc0 := 17) (pc' := 35) rfl (hb hby d_102) rfl (feq (by decide : ¬ ((5 : Int32) = (1 : Int32)))).2 (by decide) (by decide) ?_
    refine XS.iloadN X0.here hx rfl (hb hby d_103) rfl ?_
    refine XS.iconst X0.here hx rfl (hb hby d_104) ?_
    refine XS.icmpYes X0.here hx rfl (pc0 := 37) (pc' := 59) rfl (hb hby d_105) rfl (feq (by decide : ¬ ((5 : Int32) = (2 : Int32)))).2 (by decide) (by decide) ?_
    refine XS.iloadN X0.here hx rfl (hb hby d_106) rfl ?_
    refine XS.iconst X0.here hx rfl (hb hby d_107) ?_
    show SS p e below s₁ m 61 #[iv 5, iv p1, iv p2, iv p3, iv p4, iv p5, iv p6, iv p7] [(.int 3), (.int 5)] _
    refine XS.icmpYes X0.here hx rfl (pc0 := 61) (pc' := 87) rfl (hb hby d_108) rfl (feq (by decide : ¬ ((5 : Int32) = (3 : Int32)))).2 (by decide) (by decide) ?_
    refine XS.iloadN X0.here hx rfl (hb hby d_109) rfl ?_
    refine XS.iconst X0.here hx rfl (hb hby d_110) ?_
    refine XS.icmpYes X0.here hx rfl (pc0 := 89) (pc' := 120) rfl (hb hby d_111) rfl (feq (by decide : ¬ ((5 : Int32) = (4 : Int32)))).2 (by decide) (by decide) ?_
    refine XS.iloadN X0.here hx rfl (hb hby d_112) rfl ?_
    refine XS.iconst X0.here hx rfl (hb hby d_113) ?_
    refine XS.icmpNo X0.here hx rfl (hb hby d_114) rfl (teq (by decide : (5 : Int32) = (5 : Int32))).2 ?_
    refine st1 _ ?_
    refine XS.dup X1.here hx rfl (hb hby d_344) rfl rfl ?_
    refine XS.iconst X1.here hx rfl (hb hby d_345) ?_
    show SS p e below T1 m 130 #[iv 5, iv p1, iv p2, iv p3, iv p4, iv p5, iv p6, iv p7] [(.int 5), (.ref b1), (.ref b1)] _
    refine st4 _ ?_
    refine XS.dup X4.here hx rfl (hb hby d_347) rfl rfl ?_
    refine XS.iconst X4.here hx rfl (hb hby d_348) ?_
    refine XS.iloadN X4.here hx rfl (hb hby d_349) rfl ?_
    refine st9 _ ?_
    refine XS.dup X9.here hx rfl (hb hby d_351) rfl rfl ?_
    refine XS.iconst X9.here hx rfl (hb hby d_352) ?_
    refine XS.iloadN X9.here hx rfl (hb hby d_353) rfl ?_
    refine st17 _ ?_
    refine XS.dup X17.here hx rfl (hb hby d_355) rfl rfl ?_
    show SS p e below T17 m 141 #[iv 5, iv p1, iv p2, iv p3, iv p4, iv p5, iv p6, iv p7] [(.ref b4), (.ref b4), (.ref b1), (.ref b1)] _
    refine XS.iconst X17.here hx rfl (hb hby d_356) ?_
    refine XS.iloadN X17.here hx rfl (hb hby d_357) rfl ?_
    refine st23 _ ?_
    refine XS.dup X23.here hx rfl (hb hby d_359) rfl rfl ?_
    refine XS.iconst X23.here hx rfl (hb hby d_360) ?_
    refine XS.iload X23.here hx rfl (hb hby d_361) rfl ?_
    refine st29 _ ?_
    refine XS.dup X29.here hx rfl (hb hby d_363) rfl rfl ?_
    refine XS.iconst X29.here hx rfl (hb hby d_364) ?_
    refine XS.iload X29.here hx rfl (hb hby d_365) rfl ?_
    show SS p e below T29 m 153 #[iv 5, iv p1, iv p2, iv p3, iv p4, iv p5, iv p6, iv p7] [(.int p5), (.int 4), (.ref b4), (.ref b4), (.ref b1), (.ref b1)] _
    refine st35 _ ?_
    refine st40 _ ?_
    exact retOut X40 hx hret rfl (Or.inr (Or.inr (Or.inr (Or.inr ⟨rfl, rfl, rfl⟩)))) (hb hby d_372) hr
theorem d_374 : decode method_3_code 203 = .ok (.new 14, 3) := by decide +kernel
theorem d_375 : decode method_3_code 206 = .ok (.dup, 1) := by decide +kernel
theorem d_376 : decode method_3_code 207 = .ok (.bipush 7, 2) := by decide +kernel
theorem d_377 : decode method_3_code 209 = .ok (.newarray .char, 2) := by decide +kernel
theorem d_378 : decode method_3_code 211 = .ok (.dup, 1) := by decide +kernel
theorem d_379 : decode method_3_code 212 = .ok (.iconst 0, 1) := by decide +kernel
theorem d_380 : decode method_3_code 213 = .ok (.iload_n 1, 1) := by decide +kernel
theorem d_381 : decode method_3_code 214 = .ok (.castore, 1) := by decide +kernel
theorem d_382 : decode method_3_code 215 = .ok (.dup, 1) := by decide +kernel
theorem d_383 : decode method_3_code 216 = .ok (.iconst 1, 1) := by decide +kernel
theorem d_384 : decode method_3_code 217 = .ok (.iload_n 2, 1) := by decide +kernel
theorem d_385 : decode method_3_code 218 = .ok (.castore, 1) := by decide +kernel
theorem d_386 : decode method_3_code 219 = .ok (.dup, 1) := by decide +kernel
theorem d_387 : decode method_3_code 220 = .ok (.iconst 2, 1) := by decide +kernel
theorem d_388 : decode method_3_code 221 = .ok (.iload_n 3, 1) := by decide +kernel
theorem d_389 : decode method_3_code 222 = .ok (.castore, 1) := by decide +kernel
theorem d_390 : decode method_3_code 223 = .ok (.dup, 1) := by decide +kernel
theorem d_391 : decode method_3_code 224 = .ok (.iconst 3, 1) := by decide +kernel
theorem d_392 : decode method_3_code 225 = .ok (.iload 4, 2) := by decide +kernel
theorem d_393 : decode method_3_code 227 = .ok (.castore, 1) := by decide +kernel
theorem d_394 : decode method_3_code 228 = .ok (.dup, 1) := by decide +kernel
theorem d_395 : decode method_3_code 229 = .ok (.iconst 4, 1) := by decide +kernel
theorem d_396 : decode method_3_code 230 = .ok (.iload 5, 2) := by decide +kernel
theorem d_397 : decode method_3_code 232 = .ok (.castore, 1) := by decide +kernel
theorem d_398 : decode method_3_code 233 = .ok (.dup, 1) := by decide +kernel
theorem d_399 : decode method_3_code 234 = .ok (.iconst 5, 1) := by decide +kernel
theorem d_400 : decode method_3_code 235 = .ok (.iload 6, 2) := by decide +kernel
theorem d_401 : decode method_3_code 237 = .ok (.castore, 1) := by decide +kernel
theorem d_402 : decode method_3_code 238 = .ok (.dup, 1) := by decide +kernel
theorem d_403 : decode method_3_code 239 = .ok (.bipush 6, 2) := by decide +kernel
theorem d_404 : decode method_3_code 241 = .ok (.iload 7, 2) := by decide +kernel
theorem d_405 : decode method_3_code 243 = .ok (.castore, 1) := by decide +kernel
theorem d_406 : decode method_3_code 244 = .ok (.invokespecial 16, 3) := by decide +kernel
theorem ef_407 (m : MethodId) (a1 : Addr) (a2 : Addr) : entryFrame m #[(.ref a1), (.int 0), (.ref a2), (.int 0), (.int 7)] 7 = mkF m 0 #[rv a1, iv 0, rv a2, iv 0, iv 7, .unset, .unset] [] := by first | (simp [entryFrame, mkF, argsToLocals, Value.category]; done) | rfl
def Q59_compress (Z : State) (a1 : Addr) (a2 : Addr) (k3 : ClassId) (p4 : Int32) (p5 : Int32) (p6 : Int32) (p7 : Int32) (p8 : Int32) (p9 : Int32) (p10 : Int32) (k11 : ClassId) (p12 : Int32) (p13 : Int32) (p14 : Int32) (p15 : Int32) (p16 : Int32) (p17 : Int32) (p18 : Int32) (h0 : Heap) (n0 : Nat) (v : Option Value) (h : Heap) (L : List Loc) : Prop := v = some (.int 7) ∧ Fr n0 L ∧ Keep h0 h [a2] ∧ Arv Z h a2 k11 .byte 7 [(.int (p4.toInt8.toInt32)), (.int (p5.toInt8.toInt32)), (.int (p6.toInt8.toInt32)), (.int (p7.toInt8.toInt32)), (.int (p8.toInt8.toInt32)), (.int (p9.toInt8.toInt32)), (.int (p10.toInt8.toInt32))] (.int 0)
theorem rm59_compress (l : Launch) (Z : State) (a0 : Array Value) (hw : HW Z a0) (a1 : Addr) (a2 : Addr) (k3 : ClassId) (p4 : Int32) (p5 : Int32) (p6 : Int32) (p7 : Int32) (p8 : Int32) (p9 : Int32) (p10 : Int32) (k11 : ClassId) (p12 : Int32) (p13 : Int32) (p14 : Int32) (p15 : Int32) (p16 : Int32) (p17 : Int32) (p18 : Int32) (h0 : Heap) (n0 : Nat) (O0 : Old Z n0 h0) (F_0 : Arv Z h0 a1 k3 .char 7 [(.int p4), (.int p5), (.int p6), (.int p7), (.int p8), (.int p9), (.int p10)] (.int 0)) (hc_1 : ¬ ((255 : Int32) < p4)) (F_2 : Arv Z h0 a2 k11 .byte 7 [(.int p12), (.int p13), (.int p14), (.int p15), (.int p16), (.int p17), (.int p18)] (.int 0)) (g_3 : n0 ≤ a2) (ne_4 : a1 ≠ a2) (hc_5 : ¬ ((255 : Int32) < p5)) (hc_6 : ¬ ((255 : Int32) < p6)) (hc_7 : ¬ ((255 : Int32) < p7)) (hc_8 : ¬ ((255 : Int32) < p8)) (hc_9 : ¬ ((255 : Int32) < p9)) (hc_10 : ¬ ((255 : Int32) < p10)) :
    Met l Z [] MY5 jdk_52_method_21_code 7 (some .int) ({ frames := 0, cells := 0, slots := 0, locals := 0 } : Room) #[(.ref a1), (.int 0), (.ref a2), (.int 0), (.int 7)] h0 (Q59_compress Z a1 a2 k3 p4 p5 p6 p7 p8 p9 p10 k11 p12 p13 p14 p15 p16 p17 p18 h0 n0) := by
  have W := @own_W _ _ hw
  refine own_mk (plainFor_of_name pn_197) ?_
  intro p e s m below meth c s₁ hZ hx hby hml hown hnm hret hlk X0 e0
  have N0 := Fr.nil n0
  obtain ⟨c1, A1, q1, S1, N1, H1, G1⟩ := id F_0
  have i2 : NB 0 c1 := inb_of S1 (by decide)
  obtain ⟨c3, A3, q3, S3, N3, H3, G3⟩ := id F_2
  have i4 : NB 0 c3 := inb_of S3 (by decide)
  obtain ⟨T4, h4, X4, e4, W4, st4⟩ := stB X0 hx hZ e0 A3 (j := 0) i4 (g := (mkF m 31 #[rv a1, iv 0, rv a2, iv 0, iv 7, iv 0, iv p4] [(.int (p4.toInt8.toInt32)), (.int 0), (.ref a2)])) rfl rfl (hb hby d_189)
  rw [(own_narB _)] at W4
  have O5 := O0.wr W4 g_3
  have K6 : Keep h0 h4 [a2] := Keep.wr (Keep.refl h0 [a2]) W4 (Or.inl (List.mem_of_getElem? (i := 0) rfl))
  have v7 : Arv Z h4 a2 k11 .byte 7 [(.int (p4.toInt8.toInt32)), (.int p13), (.int p14), (.int p15), (.int p16), (.int p17), (.int p18)] (.int 0) := Arv.set A3 q3 S3 N3 H3 G3 (own_fput (by simp) (own_narB _)) W4 0 rfl (Nat.le_of_ble_eq_true rfl)
  have N8 := Fr.snoc X4 N0 g_3
  have f10 := (F_0.other W4 ne_4)
  obtain ⟨c9, A9, q9, S9, N9, H9, G9⟩ := id f10
  have i11 : NB 1 c9 := inb_of S9 (by decide)
  obtain ⟨c12, A12, q12, S12, N12, H12, G12⟩ := id v7
  have i13 : NB 1 c12 := inb_of S12 (by decide)
  obtain ⟨T13, h13, X13, e13, W13, st13⟩ := stB X4 hx hZ e4 A12 (j := 1) i13 (g := (mkF m 31 #[rv a1, iv 1, rv a2, iv 1, iv 7, iv 1, iv p5] [(.int (p5.toInt8.toInt32)), (.int 1), (.ref a2)])) rfl rfl (hb hby d_189)
  rw [(own_narB _)] at W13
  have O14 := O5.wr W13 g_3
  have K15 : Keep h0 h13 [a2] := Keep.wr K6 W13 (Or.inl (List.mem_of_getElem? (i := 0) rfl))
  have v16 : Arv Z h13 a2 k11 .byte 7 [(.int (p4.toInt8.toInt32)), (.int (p5.toInt8.toInt32)), (.int p14), (.int p15), (.int p16), (.int p17), (.int p18)] (.int 0) := Arv.set A12 q12 S12 N12 H12 G12 (own_fput (by simp) (own_narB _)) W13 1 rfl (Nat.le_of_ble_eq_true rfl)
  have N17 := Fr.snoc X13 N8 g_3
  have f19 := (f10.other W13 ne_4)
  obtain ⟨c18, A18, q18, S18, N18, H18, G18⟩ := id f19
  have i20 : NB 2 c18 := inb_of S18 (by decide)
  obtain ⟨c21, A21, q21, S21, N21, H21, G21⟩ := id v16
  have i22 : NB 2 c21 := inb_of S21 (by decide)
  obtain ⟨T22, h22, X22, e22, W22, st22⟩ := stB X13 hx hZ e13 A21 (j := 2) i22 (g := (mkF m 31 #[rv a1, iv 2, rv a2, iv 2, iv 7, iv 2, iv p6] [(.int (p6.toInt8.toInt32)), (.int 2), (.ref a2)])) rfl rfl (hb hby d_189)
  rw [(own_narB _)] at W22
  have O23 := O14.wr W22 g_3
  have K24 : Keep h0 h22 [a2] := Keep.wr K15 W22 (Or.inl (List.mem_of_getElem? (i := 0) rfl))
  have v25 : Arv Z h22 a2 k11 .byte 7 [(.int (p4.toInt8.toInt32)), (.int (p5.toInt8.toInt32)), (.int (p6.toInt8.toInt32)), (.int p15), (.int p16), (.int p17), (.int p18)] (.int 0) := Arv.set A21 q21 S21 N21 H21 G21 (own_fput (by simp) (own_narB _)) W22 2 rfl (Nat.le_of_ble_eq_true rfl)
  have N26 := Fr.snoc X22 N17 g_3
  have f28 := (f19.other W22 ne_4)
  obtain ⟨c27, A27, q27, S27, N27, H27, G27⟩ := id f28
  have i29 : NB 3 c27 := inb_of S27 (by decide)
  obtain ⟨c30, A30, q30, S30, N30, H30, G30⟩ := id v25
  have i31 : NB 3 c30 := inb_of S30 (by decide)
  obtain ⟨T31, h31, X31, e31, W31, st31⟩ := stB X22 hx hZ e22 A30 (j := 3) i31 (g := (mkF m 31 #[rv a1, iv 3, rv a2, iv 3, iv 7, iv 3, iv p7] [(.int (p7.toInt8.toInt32)), (.int 3), (.ref a2)])) rfl rfl (hb hby d_189)
  rw [(own_narB _)] at W31
  have O32 := O23.wr W31 g_3
  have K33 : Keep h0 h31 [a2] := Keep.wr K24 W31 (Or.inl (List.mem_of_getElem? (i := 0) rfl))
  have v34 : Arv Z h31 a2 k11 .byte 7 [(.int (p4.toInt8.toInt32)), (.int (p5.toInt8.toInt32)), (.int (p6.toInt8.toInt32)), (.int (p7.toInt8.toInt32)), (.int p16), (.int p17), (.int p18)] (.int 0) := Arv.set A30 q30 S30 N30 H30 G30 (own_fput (by simp) (own_narB _)) W31 3 rfl (Nat.le_of_ble_eq_true rfl)
  have N35 := Fr.snoc X31 N26 g_3
  have f37 := (f28.other W31 ne_4)
  obtain ⟨c36, A36, q36, S36, N36, H36, G36⟩ := id f37
  have i38 : NB 4 c36 := inb_of S36 (by decide)
  obtain ⟨c39, A39, q39, S39, N39, H39, G39⟩ := id v34
  have i40 : NB 4 c39 := inb_of S39 (by decide)
  obtain ⟨T40, h40, X40, e40, W40, st40⟩ := stB X31 hx hZ e31 A39 (j := 4) i40 (g := (mkF m 31 #[rv a1, iv 4, rv a2, iv 4, iv 7, iv 4, iv p8] [(.int (p8.toInt8.toInt32)), (.int 4), (.ref a2)])) rfl rfl (hb hby d_189)
  rw [(own_narB _)] at W40
  have O41 := O32.wr W40 g_3
  have K42 : Keep h0 h40 [a2] := Keep.wr K33 W40 (Or.inl (List.mem_of_getElem? (i := 0) rfl))
  have v43 : Arv Z h40 a2 k11 .byte 7 [(.int (p4.toInt8.toInt32)), (.int (p5.toInt8.toInt32)), (.int (p6.toInt8.toInt32)), (.int (p7.toInt8.toInt32)), (.int (p8.toInt8.toInt32)), (.int p17), (.int p18)] (.int 0) := Arv.set A39 q39 S39 N39 H39 G39 (own_fput (by simp) (own_narB _)) W40 4 rfl (Nat.le_of_ble_eq_true rfl)
  have N44 := Fr.snoc X40 N35 g_3
  have f46 := (f37.other W40 ne_4)
  obtain ⟨c45, A45, q45, S45, N45, H45, G45⟩ := id f46
  have i47 : NB 5 c45 := inb_of S45 (by decide)
  obtain ⟨c48, A48, q48, S48, N48, H48, G48⟩ := id v43
  have i49 : NB 5 c48 := inb_of S48 (by decide)
  obtain ⟨T49, h49, X49, e49, W49, st49⟩ := stB X40 hx hZ e40 A48 (j := 5) i49 (g := (mkF m 31 #[rv a1, iv 5, rv a2, iv 5, iv 7, iv 5, iv p9] [(.int (p9.toInt8.toInt32)), (.int 5), (.ref a2)])) rfl rfl (hb hby d_189)
  rw [(own_narB _)] at W49
  have O50 := O41.wr W49 g_3
  have K51 : Keep h0 h49 [a2] := Keep.wr K42 W49 (Or.inl (List.mem_of_getElem? (i := 0) rfl))
  have v52 : Arv Z h49 a2 k11 .byte 7 [(.int (p4.toInt8.toInt32)), (.int (p5.toInt8.toInt32)), (.int (p6.toInt8.toInt32)), (.int (p7.toInt8.toInt32)), (.int (p8.toInt8.toInt32)), (.int (p9.toInt8.toInt32)), (.int p18)] (.int 0) := Arv.set A48 q48 S48 N48 H48 G48 (own_fput (by simp) (own_narB _)) W49 5 rfl (Nat.le_of_ble_eq_true rfl)
  have N53 := Fr.snoc X49 N44 g_3
  have f55 := (f46.other W49 ne_4)
  obtain ⟨c54, A54, q54, S54, N54, H54, G54⟩ := id f55
  have i56 : NB 6 c54 := inb_of S54 (by decide)
  obtain ⟨c57, A57, q57, S57, N57, H57, G57⟩ := id v52
  have i58 : NB 6 c57 := inb_of S57 (by decide)
  obtain ⟨T58, h58, X58, e58, W58, st58⟩ := stB X49 hx hZ e49 A57 (j := 6) i58 (g := (mkF m 31 #[rv a1, iv 6, rv a2, iv 6, iv 7, iv 6, iv p10] [(.int (p10.toInt8.toInt32)), (.int 6), (.ref a2)])) rfl rfl (hb hby d_189)
  rw [(own_narB _)] at W58
  have O59 := O50.wr W58 g_3
  have K60 : Keep h0 h58 [a2] := Keep.wr K51 W58 (Or.inl (List.mem_of_getElem? (i := 0) rfl))
  have v61 : Arv Z h58 a2 k11 .byte 7 [(.int (p4.toInt8.toInt32)), (.int (p5.toInt8.toInt32)), (.int (p6.toInt8.toInt32)), (.int (p7.toInt8.toInt32)), (.int (p8.toInt8.toInt32)), (.int (p9.toInt8.toInt32)), (.int (p10.toInt8.toInt32))] (.int 0) := Arv.set A57 q57 S57 N57 H57 G57 (own_fput (by simp) (own_narB _)) W58 6 rfl (Nat.le_of_ble_eq_true rfl)
  have N62 := Fr.snoc X58 N53 g_3
  refine ⟨T58, some (.int 7), _, _, _, X58, by decide, by decide, nofun, ?_, fun fs hr => castTop (ef_407 m a1 a2) ?_⟩
  · show Q59_compress Z a1 a2 k3 p4 p5 p6 p7 p8 p9 p10 k11 p12 p13 p14 p15 p16 p17 p18 h0 n0 _ T58.heap _
    rw [e58]
    exact ⟨rfl, N62, K60, v61⟩
  · show SS p e below s₁ m 0 #[rv a1, iv 0, rv a2, iv 0, iv 7, .unset, .unset] [] _
    refine XS.iconst X0.here hx rfl (hb hby d_173) ?_
    refine XS.istore X0.here hx rfl (hb hby d_174) rfl (l' := #[rv a1, iv 0, rv a2, iv 0, iv 7, iv 0, .unset]) rfl ?_
    refine XS.iload X0.here hx rfl (hb hby d_175) rfl ?_
    refine XS.iload X0.here hx rfl (hb hby d_176) rfl ?_
    refine XS.icmpNo X0.here hx rfl (hb hby d_177) rfl (tlt (by decide : (0 : Int32) < (7 : Int32))).2.1 ?_
    refine XS.aloadN X0.here hx rfl (hb hby d_178) rfl rfl ?_
    refine XS.iloadN X0.here hx rfl (hb hby d_179) rfl ?_
    refine X0.caload hx (j := 0) (v := (.int p4)) (by rw [e0]; exact A1.1) (State.isArrayOf_alike hZ.alike A1.2.1) A1.2.2 i2 (H1.at i2 rfl) (g := (mkF m 12 #[rv a1, iv 0, rv a2, iv 0, iv 7, iv 0, .unset] [(.int 0), (.ref a1)])) rfl rfl (hb hby d_180) _ ?_
    refine XS.istore X0.here hx rfl (hb hby d_181) rfl (l' := #[rv a1, iv 0, rv a2, iv 0, iv 7, iv 0, iv p4]) rfl ?_
    refine XS.iload X0.here hx rfl (hb hby d_182) rfl ?_
    show SS p e below s₁ m 17 #[rv a1, iv 0, rv a2, iv 0, iv 7, iv 0, iv p4] [(.int p4)] _
    refine XS.sipush X0.here hx rfl (hb hby d_183) ?_
    refine XS.icmpYes X0.here hx rfl (pc0 := 20) (pc' := 26) rfl (hb hby d_184) rfl (flt hc_1).2.2.2 (by decide) (by decide) ?_
    refine XS.aloadN X0.here hx rfl (hb hby d_185) rfl rfl ?_
    refine XS.iloadN X0.here hx rfl (hb hby d_186) rfl ?_
    refine XS.iload X0.here hx rfl (hb hby d_187) rfl ?_
    show SS p e below s₁ m 30 #[rv a1, iv 0, rv a2, iv 0, iv 7, iv 0, iv p4] [(.int p4), (.int 0), (.ref a2)] _
    refine XS.i2b X0.here hx rfl (hb hby d_188) rfl ?_
    show SS p e below s₁ m 31 #[rv a1, iv 0, rv a2, iv 0, iv 7, iv 0, iv p4] [(.int (p4.toInt8.toInt32)), (.int 0), (.ref a2)] _
    refine st4 _ ?_
    refine XS.iinc X4.here hx rfl (hb hby d_190) rfl (l' := #[rv a1, iv 1, rv a2, iv 0, iv 7, iv 0, iv p4]) rfl ?_
    show SS p e below T4 m 35 #[rv a1, iv 1, rv a2, iv 0, iv 7, iv 0, iv p4] [] _
    refine XS.iinc X4.here hx rfl (hb hby d_191) rfl (l' := #[rv a1, iv 1, rv a2, iv 1, iv 7, iv 0, iv p4]) rfl ?_
    show SS p e below T4 m 38 #[rv a1, iv 1, rv a2, iv 1, iv 7, iv 0, iv p4] [] _
    refine XS.iinc X4.here hx rfl (hb hby d_192) rfl (l' := #[rv a1, iv 1, rv a2, iv 1, iv 7, iv 1, iv p4]) rfl ?_
    show SS p e below T4 m 41 #[rv a1, iv 1, rv a2, iv 1, iv 7, iv 1, iv p4] [] _
    refine XS.goto X4.here hx rfl (pc0 := 41) (pc' := 3) rfl (hb hby d_193) (by decide) (by decide) ?_
    refine XS.iload X4.here hx rfl (hb hby d_175) rfl ?_
    refine XS.iload X4.here hx rfl (hb hby d_176) rfl ?_
    refine XS.icmpNo X4.here hx rfl (hb hby d_177) rfl (tlt (by decide : (1 : Int32) < (7 : Int32))).2.1 ?_
    refine XS.aloadN X4.here hx rfl (hb hby d_178) rfl rfl ?_
    refine XS.iloadN X4.here hx rfl (hb hby d_179) rfl ?_
    refine X4.caload hx (j := 1) (v := (.int p5)) (by rw [e4]; exact A9.1) (State.isArrayOf_alike hZ.alike A9.2.1) A9.2.2 i11 (H9.at i11 rfl) (g := (mkF m 12 #[rv a1, iv 1, rv a2, iv 1, iv 7, iv 1, iv p4] [(.int 1), (.ref a1)])) rfl rfl (hb hby d_180) _ ?_
    refine XS.istore X4.here hx rfl (hb hby d_181) rfl (l' := #[rv a1, iv 1, rv a2, iv 1, iv 7, iv 1, iv p5]) rfl ?_
    refine XS.iload X4.here hx rfl (hb hby d_182) rfl ?_
    refine XS.sipush X4.here hx rfl (hb hby d_183) ?_
    show SS p e below T4 m 20 #[rv a1, iv 1, rv a2, iv 1, iv 7, iv 1, iv p5] [(.int 255), (.int p5)] _
    refine XS.icmpYes X4.here hx rfl (pc0 := 20) (pc' := 26) rfl (hb hby d_184) rfl (flt hc_5).2.2.2 (by decide) (by decide) ?_
    refine XS.aloadN X4.here hx rfl (hb hby d_185) rfl rfl ?_
    refine XS.iloadN X4.here hx rfl (hb hby d_186) rfl ?_
    refine XS.iload X4.here hx rfl (hb hby d_187) rfl ?_
    show SS p e below T4 m 30 #[rv a1, iv 1, rv a2, iv 1, iv 7, iv 1, iv p5] [(.int p5), (.int 1), (.ref a2)] _
    refine XS.i2b X4.here hx rfl (hb hby d_188) rfl ?_
    show SS p e below T4 m 31 #[rv a1, iv 1, rv a2, iv 1, iv 7, iv 1, iv p5] [(.int (p5.toInt8.toInt32)), (.int 1), (.ref a2)] _
    refine st13 _ ?_
    refine XS.iinc X13.here hx rfl (hb hby d_190) rfl (l' := #[rv a1, iv 2, rv a2, iv 1, iv 7, iv 1, iv p5]) rfl ?_
    show SS p e below T13 m 35 #[rv a1, iv 2, rv a2, iv 1, iv 7, iv 1, iv p5] [] _
    refine XS.iinc X13.here hx rfl (hb hby d_191) rfl (l' := #[rv a1, iv 2, rv a2, iv 2, iv 7, iv 1, iv p5]) rfl ?_
    show SS p e below T13 m 38 #[rv a1, iv 2, rv a2, iv 2, iv 7, iv 1, iv p5] [] _
    refine XS.iinc X13.here hx rfl (hb hby d_192) rfl (l' := #[rv a1, iv 2, rv a2, iv 2, iv 7, iv 2, iv p5]) rfl ?_
    show SS p e below T13 m 41 #[rv a1, iv 2, rv a2, iv 2, iv 7, iv 2, iv p5] [] _
    refine XS.goto X13.here hx rfl (pc0 := 41) (pc' := 3) rfl (hb hby d_193) (by decide) (by decide) ?_
    refine XS.iload X13.here hx rfl (hb hby d_175) rfl ?_
    refine XS.iload X13.here hx rfl (hb hby d_176) rfl ?_
    refine XS.icmpNo X13.here hx rfl (hb hby d_177) rfl (tlt (by decide : (2 : Int32) < (7 : Int32))).2.1 ?_
    refine XS.aloadN X13.here hx rfl (hb hby d_178) rfl rfl ?_
    refine XS.iloadN X13.here hx rfl (hb hby d_179) rfl ?_
    refine X13.caload hx (j := 2) (v := (.int p6)) (by rw [e13]; exact A18.1) (State.isArrayOf_alike hZ.alike A18.2.1) A18.2.2 i20 (H18.at i20 rfl) (g := (mkF m 12 #[rv a1, iv 2, rv a2, iv 2, iv 7, iv 2, iv p5] [(.int 2), (.ref a1)])) rfl rfl (hb hby d_180) _ ?_
    refine XS.istore X13.here hx rfl (hb hby d_181) rfl (l' := #[rv a1, iv 2, rv a2, iv 2, iv 7, iv 2, iv p6]) rfl ?_
    refine XS.iload X13.here hx rfl (hb hby d_182) rfl ?_
    refine XS.sipush X13.here hx rfl (hb hby d_183) ?_
    show SS p e below T13 m 20 #[rv a1, iv 2, rv a2, iv 2, iv 7, iv 2, iv p6] [(.int 255), (.int p6)] _
    refine XS.icmpYes X13.here hx rfl (pc0 := 20) (pc' := 26) rfl (hb hby d_184) rfl (flt hc_6).2.2.2 (by decide) (by decide) ?_
    refine XS.aloadN X13.here hx rfl (hb hby d_185) rfl rfl ?_
    refine XS.iloadN X13.here hx rfl (hb hby d_186) rfl ?_
    refine XS.iload X13.here hx rfl (hb hby d_187) rfl ?_
    show SS p e below T13 m 30 #[rv a1, iv 2, rv a2, iv 2, iv 7, iv 2, iv p6] [(.int p6), (.int 2), (.ref a2)] _
    refine XS.i2b X13.here hx rfl (hb hby d_188) rfl ?_
    show SS p e below T13 m 31 #[rv a1, iv 2, rv a2, iv 2, iv 7, iv 2, iv p6] [(.int (p6.toInt8.toInt32)), (.int 2), (.ref a2)] _
    refine st22 _ ?_
    refine XS.iinc X22.here hx rfl (hb hby d_190) rfl (l' := #[rv a1, iv 3, rv a2, iv 2, iv 7, iv 2, iv p6]) rfl ?_
    show SS p e below T22 m 35 #[rv a1, iv 3, rv a2, iv 2, iv 7, iv 2, iv p6] [] _
    refine XS.iinc X22.here hx rfl (hb hby d_191) rfl (l' := #[rv a1, iv 3, rv a2, iv 3, iv 7, iv 2, iv p6]) rfl ?_
    show SS p e below T22 m 38 #[rv a1, iv 3, rv a2, iv 3, iv 7, iv 2, iv p6] [] _
    refine XS.iinc X22.here hx rfl (hb hby d_192) rfl (l' := #[rv a1, iv 3, rv a2, iv 3, iv 7, iv 3, iv p6]) rfl ?_
    show SS p e below T22 m 41 #[rv a1, iv 3, rv a2, iv 3, iv 7, iv 3, iv p6] [] _
    refine XS.goto X22.here hx rfl (pc0 := 41) (pc' := 3) rfl (hb hby d_193) (by decide) (by decide) ?_
    refine XS.iload X22.here hx rfl (hb hby d_175) rfl ?_
    refine XS.iload X22.here hx rfl (hb hby d_176) rfl ?_
    refine XS.icmpNo X22.here hx rfl (hb hby d_177) rfl (tlt (by decide : (3 : Int32) < (7 : Int32))).2.1 ?_
    refine XS.aloadN X22.here hx rfl (hb hby d_178) rfl rfl ?_
    refine XS.iloadN X22.here hx rfl (hb hby d_179) rfl ?_
    refine X22.caload hx (j := 3) (v := (.int p7)) (by rw [e22]; exact A27.1) (State.isArrayOf_alike hZ.alike A27.2.1) A27.2.2 i29 (H27.at i29 rfl) (g := (mkF m 12 #[rv a1, iv 3, rv a2, iv 3, iv 7, iv 3, iv p6] [(.int 3), (.ref a1)])) rfl rfl (hb hby d_180) _ ?_
    refine XS.istore X22.here hx rfl (hb hby d_181) rfl (l' := #[rv a1, iv 3, rv a2, iv 3, iv 7, iv 3, iv p7]) rfl ?_
    refine XS.iload X22.here hx rfl (hb hby d_182) rfl ?_
    refine XS.sipush X22.here hx rfl (hb hby d_183) ?_
    show SS p e below T22 m 20 #[rv a1, iv 3, rv a2, iv 3, iv 7, iv 3, iv p7] [(.int 255), (.int p7)] _
    refine XS.icmpYes X22.here hx rfl (pc0 := 20) (pc' := 26) rfl (hb hby d_184) rfl (flt hc_7).2.2.2 (by decide) (by decide) ?_
    refine XS.aloadN X22.here hx rfl (hb hby d_185) rfl rfl ?_
    refine XS.iloadN X22.here hx rfl (hb hby d_186) rfl ?_
    refine XS.iload X22.here hx rfl (hb hby d_187) rfl ?_
    show SS p e below T22 m 30 #[rv a1, iv 3, rv a2, iv 3, iv 7, iv 3, iv p7] [(.int p7), (.int 3), (.ref a2)] _
    refine XS.i2b X22.here hx rfl (hb hby d_188) rfl ?_
    show SS p e below T22 m 31 #[rv a1, iv 3, rv a2, iv 3, iv 7, iv 3, iv p7] [(.int (p7.toInt8.toInt32)), (.int 3), (.ref a2)] _
    refine st31 _ ?_
    refine XS.iinc X31.here hx rfl (hb hby d_190) rfl (l' := #[rv a1, iv 4, rv a2, iv 3, iv 7, iv 3, iv p7]) rfl ?_
    show SS p e below T31 m 35 #[rv a1, iv 4, rv a2, iv 3, iv 7, iv 3, iv p7] [] _
    refine XS.iinc X31.here hx rfl (hb hby d_191) rfl (l' := #[rv a1, iv 4, rv a2, iv 4, iv 7, iv 3, iv p7]) rfl ?_
    show SS p e below T31 m 38 #[rv a1, iv 4, rv a2, iv 4, iv 7, iv 3, iv p7] [] _
    refine XS.iinc X31.here hx rfl (hb hby d_192) rfl (l' := #[rv a1, iv 4, rv a2, iv 4, iv 7, iv 4, iv p7]) rfl ?_
    show SS p e below T31 m 41 #[rv a1, iv 4, rv a2, iv 4, iv 7, iv 4, iv p7] [] _
    refine XS.goto X31.here hx rfl (pc0 := 41) (pc' := 3) rfl (hb hby d_193) (by decide) (by decide) ?_
    refine XS.iload X31.here hx rfl (hb hby d_175) rfl ?_
    refine XS.iload X31.here hx rfl (hb hby d_176) rfl ?_
    refine XS.icmpNo X31.here hx rfl (hb hby d_177) rfl (tlt (by decide : (4 : Int32) < (7 : Int32))).2.1 ?_
    refine XS.aloadN X31.here hx rfl (hb hby d_178) rfl rfl ?_
    refine XS.iloadN X31.here hx rfl (hb hby d_179) rfl ?_
    refine X31.caload hx (j := 4) (v := (.int p8)) (by rw [e31]; exact A36.1) (State.isArrayOf_alike hZ.alike A36.2.1) A36.2.2 i38 (H36.at i38 rfl) (g := (mkF m 12 #[rv a1, iv 4, rv a2, iv 4, iv 7, iv 4, iv p7] [(.int 4), (.ref a1)])) rfl rfl (hb hby d_180) _ ?_
    refine XS.istore X31.here hx rfl (hb hby d_181) rfl (l' := #[rv a1, iv 4, rv a2, iv 4, iv 7, iv 4, iv p8]) rfl ?_
    refine XS.iload X31.here hx rfl (hb hby d_182) rfl ?_
    refine XS.sipush X31.here hx rfl (hb hby d_183) ?_
    show SS p e below T31 m 20 #[rv a1, iv 4, rv a2, iv 4, iv 7, iv 4, iv p8] [(.int 255), (.int p8)] _
    refine XS.icmpYes X31.here hx rfl (pc0 := 20) (pc' := 26) rfl (hb hby d_184) rfl (flt hc_8).2.2.2 (by decide) (by decide) ?_
    refine XS.aloadN X31.here hx rfl (hb hby d_185) rfl rfl ?_
    refine XS.iloadN X31.here hx rfl (hb hby d_186) rfl ?_
    refine XS.iload X31.here hx rfl (hb hby d_187) rfl ?_
    show SS p e below T31 m 30 #[rv a1, iv 4, rv a2, iv 4, iv 7, iv 4, iv p8] [(.int p8), (.int 4), (.ref a2)] _
    refine XS.i2b X31.here hx rfl (hb hby d_188) rfl ?_
    show SS p e below T31 m 31 #[rv a1, iv 4, rv a2, iv 4, iv 7, iv 4, iv p8] [(.int (p8.toInt8.toInt32)), (.int 4), (.ref a2)] _
    refine st40 _ ?_
    refine XS.iinc X40.here hx rfl (hb hby d_190) rfl (l' := #[rv a1, iv 5, rv a2, iv 4, iv 7, iv 4, iv p8]) rfl ?_
    show SS p e below T40 m 35 #[rv a1, iv 5, rv a2, iv 4, iv 7, iv 4, iv p8] [] _
    refine XS.iinc X40.here hx rfl (hb hby d_191) rfl (l' := #[rv a1, iv 5, rv a2, iv 5, iv 7, iv 4, iv p8]) rfl ?_
    show SS p e below T40 m 38 #[rv a1, iv 5, rv a2, iv 5, iv 7, iv 4, iv p8] [] _
    refine XS.iinc X40.here hx rfl (hb hby d_192) rfl (l' := #[rv a1, iv 5, rv a2, iv 5, iv 7, iv 5, iv p8]) rfl ?_
    show SS p e below T40 m 41 #[rv a1, iv 5, rv a2, iv 5, iv 7, iv 5, iv p8] [] _
    refine XS.goto X40.here hx rfl (pc0 := 41) (pc' := 3) rfl (hb hby d_193) (by decide) (by decide) ?_
    refine XS.iload X40.here hx rfl (hb hby d_175) rfl ?_
    refine XS.iload X40.here hx rfl (hb hby d_176) rfl ?_
    refine XS.icmpNo X40.here hx rfl (hb hby d_177) rfl (tlt (by decide : (5 : Int32) < (7 : Int32))).2.1 ?_
    refine XS.aloadN X40.here hx rfl (hb hby d_178) rfl rfl ?_
    refine XS.iloadN X40.here hx rfl (hb hby d_179) rfl ?_
    refine X40.caload hx (j := 5) (v := (.int p9)) (by rw [e40]; exact A45.1) (State.isArrayOf_alike hZ.alike A45.2.1) A45.2.2 i47 (H45.at i47 rfl) (g := (mkF m 12 #[rv a1, iv 5, rv a2, iv 5, iv 7, iv 5, iv p8] [(.int 5), (.ref a1)])) rfl rfl (hb hby d_180) _ ?_
    refine XS.istore X40.here hx rfl (hb hby d_181) rfl (l' := #[rv a1, iv 5, rv a2, iv 5, iv 7, iv 5, iv p9]) rfl ?_
    refine XS.iload X40.here hx rfl (hb hby d_182) rfl ?_
    refine XS.sipush X40.here hx rfl (hb hby d_183) ?_
    show SS p e below T40 m 20 #[rv a1, iv 5, rv a2, iv 5, iv 7, iv 5, iv p9] [(.int 255), (.int p9)] _
    refine XS.icmpYes X40.here hx rfl (pc0 := 20) (pc' := 26) rfl (hb hby d_184) rfl (flt hc_9).2.2.2 (by decide) (by decide) ?_
    refine XS.aloadN X40.here hx rfl (hb hby d_185) rfl rfl ?_
    refine XS.iloadN X40.here hx rfl (hb hby d_186) rfl ?_
    refine XS.iload X40.here hx rfl (hb hby d_187) rfl ?_
    show SS p e below T40 m 30 #[rv a1, iv 5, rv a2, iv 5, iv 7, iv 5, iv p9] [(.int p9), (.int 5), (.ref a2)] _
    refine XS.i2b X40.here hx rfl (hb hby d_188) rfl ?_
    show SS p e below T40 m 31 #[rv a1, iv 5, rv a2, iv 5, iv 7, iv 5, iv p9] [(.int (p9.toInt8.toInt32)), (.int 5), (.ref a2)] _
    refine st49 _ ?_
    refine XS.iinc X49.here hx rfl (hb hby d_190) rfl (l' := #[rv a1, iv 6, rv a2, iv 5, iv 7, iv 5, iv p9]) rfl ?_
    show SS p e below T49 m 35 #[rv a1, iv 6, rv a2, iv 5, iv 7, iv 5, iv p9] [] _
    refine XS.iinc X49.here hx rfl (hb hby d_191) rfl (l' := #[rv a1, iv 6, rv a2, iv 6, iv 7, iv 5, iv p9]) rfl ?_
    show SS p e below T49 m 38 #[rv a1, iv 6, rv a2, iv 6, iv 7, iv 5, iv p9] [] _
    refine XS.iinc X49.here hx rfl (hb hby d_192) rfl (l' := #[rv a1, iv 6, rv a2, iv 6, iv 7, iv 6, iv p9]) rfl ?_
    show SS p e below T49 m 41 #[rv a1, iv 6, rv a2, iv 6, iv 7, iv 6, iv p9] [] _
    refine XS.goto X49.here hx rfl (pc0 := 41) (pc' := 3) rfl (hb hby d_193) (by decide) (by decide) ?_
    refine XS.iload X49.here hx rfl (hb hby d_175) rfl ?_
    refine XS.iload X49.here hx rfl (hb hby d_176) rfl ?_
    refine XS.icmpNo X49.here hx rfl (hb hby d_177) rfl (tlt (by decide : (6 : Int32) < (7 : Int32))).2.1 ?_
    refine XS.aloadN X49.here hx rfl (hb hby d_178) rfl rfl ?_
    refine XS.iloadN X49.here hx rfl (hb hby d_179) rfl ?_
    refine X49.caload hx (j := 6) (v := (.int p10)) (by rw [e49]; exact A54.1) (State.isArrayOf_alike hZ.alike A54.2.1) A54.2.2 i56 (H54.at i56 rfl) (g := (mkF m 12 #[rv a1, iv 6, rv a2, iv 6, iv 7, iv 6, iv p9] [(.int 6), (.ref a1)])) rfl rfl (hb hby d_180) _ ?_
    refine XS.istore X49.here hx rfl (hb hby d_181) rfl (l' := #[rv a1, iv 6, rv a2, iv 6, iv 7, iv 6, iv p10]) rfl ?_
    refine XS.iload X49.here hx rfl (hb hby d_182) rfl ?_
    refine XS.sipush X49.here hx rfl (hb hby d_183) ?_
    show SS p e below T49 m 20 #[rv a1, iv 6, rv a2, iv 6, iv 7, iv 6, iv p10] [(.int 255), (.int p10)] _
    refine XS.icmpYes X49.here hx rfl (pc0 := 20) (pc' := 26) rfl (hb hby d_184) rfl (flt hc_10).2.2.2 (by decide) (by decide) ?_
    refine XS.aloadN X49.here hx rfl (hb hby d_185) rfl rfl ?_
    refine XS.iloadN X49.here hx rfl (hb hby d_186) rfl ?_
    refine XS.iload X49.here hx rfl (hb hby d_187) rfl ?_
    show SS p e below T49 m 30 #[rv a1, iv 6, rv a2, iv 6, iv 7, iv 6, iv p10] [(.int p10), (.int 6), (.ref a2)] _
    refine XS.i2b X49.here hx rfl (hb hby d_188) rfl ?_
    show SS p e below T49 m 31 #[rv a1, iv 6, rv a2, iv 6, iv 7, iv 6, iv p10] [(.int (p10.toInt8.toInt32)), (.int 6), (.ref a2)] _
    refine st58 _ ?_
    refine XS.iinc X58.here hx rfl (hb hby d_190) rfl (l' := #[rv a1, iv 7, rv a2, iv 6, iv 7, iv 6, iv p10]) rfl ?_
    show SS p e below T58 m 35 #[rv a1, iv 7, rv a2, iv 6, iv 7, iv 6, iv p10] [] _
    refine XS.iinc X58.here hx rfl (hb hby d_191) rfl (l' := #[rv a1, iv 7, rv a2, iv 7, iv 7, iv 6, iv p10]) rfl ?_
    show SS p e below T58 m 38 #[rv a1, iv 7, rv a2, iv 7, iv 7, iv 6, iv p10] [] _
    refine XS.iinc X58.here hx rfl (hb hby d_192) rfl (l' := #[rv a1, iv 7, rv a2, iv 7, iv 7, iv 7, iv p10]) rfl ?_
    show SS p e below T58 m 41 #[rv a1, iv 7, rv a2, iv 7, iv 7, iv 7, iv p10] [] _
    refine XS.goto X58.here hx rfl (pc0 := 41) (pc' := 3) rfl (hb hby d_193) (by decide) (by decide) ?_
    refine XS.iload X58.here hx rfl (hb hby d_175) rfl ?_
    refine XS.iload X58.here hx rfl (hb hby d_176) rfl ?_
    refine XS.icmpYes X58.here hx rfl (pc0 := 7) (pc' := 44) rfl (hb hby d_177) rfl (flt (by decide : ¬ ((7 : Int32) < (7 : Int32)))).2.1 (by decide) (by decide) ?_
    refine XS.iload X58.here hx rfl (hb hby d_194) rfl ?_
    exact retI X58 hx hret (hb hby d_195) hr
theorem ef_408 (m : MethodId) (a1 : Addr) : entryFrame m #[(.ref a1), (.int 0), (.int 7)] 6 = mkF m 0 #[rv a1, iv 0, iv 7, .unset, .unset, .unset] [] := by first | (simp [entryFrame, mkF, argsToLocals, Value.category]; done) | rfl
def Q60_compress (Z : State) (a1 : Addr) (k2 : ClassId) (p3 : Int32) (p4 : Int32) (p5 : Int32) (p6 : Int32) (p7 : Int32) (p8 : Int32) (p9 : Int32) (h0 : Heap) (n0 : Nat) (v : Option Value) (h : Heap) (L : List Loc) : Prop := ∃ (b1 : Addr) (k1 : ClassId), v = some (.ref b1) ∧ Fr n0 L ∧ Keep h0 h [] ∧ h0.size ≤ b1 ∧ Arv Z h b1 k1 .byte 7 [(.int (p3.toInt8.toInt32)), (.int (p4.toInt8.toInt32)), (.int (p5.toInt8.toInt32)), (.int (p6.toInt8.toInt32)), (.int (p7.toInt8.toInt32)), (.int (p8.toInt8.toInt32)), (.int (p9.toInt8.toInt32))] (.int 0) ∧ EA16 Z h b1
theorem rm60_compress (l : Launch) (Z : State) (a0 : Array Value) (hw : HW Z a0) (a1 : Addr) (k2 : ClassId) (p3 : Int32) (p4 : Int32) (p5 : Int32) (p6 : Int32) (p7 : Int32) (p8 : Int32) (p9 : Int32) (h0 : Heap) (n0 : Nat) (O0 : Old Z n0 h0) (F_0 : Arv Z h0 a1 k2 .char 7 [(.int p3), (.int p4), (.int p5), (.int p6), (.int p7), (.int p8), (.int p9)] (.int 0)) (hc_1 : ¬ ((255 : Int32) < p3)) (hc_2 : ¬ ((255 : Int32) < p4)) (hc_3 : ¬ ((255 : Int32) < p5)) (hc_4 : ¬ ((255 : Int32) < p6)) (hc_5 : ¬ ((255 : Int32) < p7)) (hc_6 : ¬ ((255 : Int32) < p8)) (hc_7 : ¬ ((255 : Int32) < p9)) (lt_8 : a1 < h0.size) :
    Met l Z [] MY6 jdk_52_method_16_code 6 (some (.array .byte)) ({ frames := 1, cells := 1, slots := 7, locals := 18 } : Room) #[(.ref a1), (.int 0), (.int 7)] h0 (Q60_compress Z a1 k2 p3 p4 p5 p6 p7 p8 p9 h0 n0) := by
  have W := @own_W _ _ hw
  refine own_mk (plainFor_of_name pn_197) ?_
  intro p e s m below meth c s₁ hZ hx hby hml hown hnm hret hlk X0 e0
  have N0 := Fr.nil n0
  obtain ⟨T1, h1, k1, X1, e1, E1, A1, B1, st1⟩ := newPE X0 hx hZ (W 23 rfl) e0 (g := (mkF m 1 #[rv a1, iv 0, iv 7, .unset, .unset, .unset] [(.int 7)])) rfl (hb hby d_165) rfl (by decide) (cap := 7) (by decide) (by decide) (by decide) (by decide) (ad := "[B") rfl
  obtain ⟨b1, g1⟩ : ∃ z, z = h0.size := ⟨_, rfl⟩
  rw [← g1] at A1 B1 st1
  have O2 := O0.ext E1
  have K3 : Keep h0 h1 [] := Keep.ext (Keep.refl h0 []) E1
  have v4 : Arv Z h1 b1 k1 .byte 7 [(.int 0), (.int 0), (.int 0), (.int 0), (.int 0), (.int 0), (.int 0)] (.int 0) := (Arv.new A1 (by decide)).pad (pad_rep [] (.int 0) 7)
  have f6 := (F_0.ext E1)
  have g7 : n0 ≤ b1 := Nat.le_trans (Nat.le_trans (Nat.le_of_eq O0.1.symm) O0.2.1) (Nat.le_of_eq g1.symm)
  obtain ⟨_, T5, L5, X5, hQ5, st5⟩ := own_cs X1 hx hZ hown hml (W 24 rfl) (W 25 rfl) (W 21 rfl) (W 26 rfl) (rm59_compress l Z a0 hw a1 b1 k2 p3 p4 p5 p6 p7 p8 p9 k1 (0 : Int32) (0 : Int32) (0 : Int32) (0 : Int32) (0 : Int32) (0 : Int32) (0 : Int32) h1 n0 O2 (f6) (hc_1) (v4) (g7) ((Nat.ne_of_lt (Nat.lt_of_lt_of_le lt_8 (Nat.le_of_eq g1.symm)))) (hc_2) (hc_3) (hc_4) (hc_5) (hc_6) (hc_7)) e1 (hb hby d_172) 0 #[rv a1, iv 0, iv 7, rv b1, .unset, .unset] [(.ref a1), (.int 0), (.ref b1), (.int 0), (.int 7)] [] pd_198
  obtain ⟨rfl, N5q, K5, F5_0⟩ := hQ5
  have N8 := Fr.app N0 N5q
  have O9 := O2.keep K5 (allS g7 all0)
  have K10 : Keep h0 T5.heap [] := Keep.trans K3 K5 (allS (Or.inr (Nat.le_of_eq g1.symm)) all0)
  have f11 := (B1.keep K5)
  refine ⟨T5, some (.ref b1), _, _, _, X5, by decide, by decide, nofun, ?_, fun fs hr => castTop (ef_408 m a1) ?_⟩
  · show Q60_compress Z a1 k2 p3 p4 p5 p6 p7 p8 p9 h0 n0 _ T5.heap _
    exact ⟨b1, k1, rfl, N8, K10, (Nat.le_of_eq g1.symm), F5_0, f11⟩
  · show SS p e below s₁ m 0 #[rv a1, iv 0, iv 7, .unset, .unset, .unset] [] _
    refine XS.iloadN X0.here hx rfl (hb hby d_164) rfl ?_
    refine st1 _ ?_
    refine XS.astoreN X1.here hx rfl (hb hby d_166) rfl rfl (l' := #[rv a1, iv 0, iv 7, rv b1, .unset, .unset]) rfl ?_
    refine XS.aloadN X1.here hx rfl (hb hby d_167) rfl rfl ?_
    refine XS.iloadN X1.here hx rfl (hb hby d_168) rfl ?_
    refine XS.aloadN X1.here hx rfl (hb hby d_169) rfl rfl ?_
    refine XS.iconst X1.here hx rfl (hb hby d_170) ?_
    refine XS.iloadN X1.here hx rfl (hb hby d_171) rfl ?_
    refine st5 _ ?_
    refine XS.istore X5.here hx rfl (hb hby d_199) rfl (l' := #[rv a1, iv 0, iv 7, rv b1, iv 7, .unset]) rfl ?_
    show SS p e below T5 m 14 #[rv a1, iv 0, iv 7, rv b1, iv 7, .unset] [] _
    refine XS.iload X5.here hx rfl (hb hby d_200) rfl ?_
    refine XS.iloadN X5.here hx rfl (hb hby d_201) rfl ?_
    refine XS.icmpYes X5.here hx rfl (pc0 := 17) (pc' := 57) rfl (hb hby d_202) rfl (teq (by decide : (7 : Int32) = (7 : Int32))).1 (by decide) (by decide) ?_
    refine XS.aloadN X5.here hx rfl (hb hby d_203) rfl rfl ?_
    exact retOut X5 hx hret rfl (Or.inr (Or.inr (Or.inr (Or.inr ⟨rfl, rfl, rfl⟩)))) (hb hby d_204) hr
theorem ef_409 (m : MethodId) (a1 : Addr) : entryFrame m #[(.ref a1), (.int 7)] 2 = mkF m 0 #[rv a1, iv 7] [] := by first | (simp [entryFrame, mkF, argsToLocals, Value.category]; done) | rfl
def Q61_coderFromArrayLen (Z : State) (a1 : Addr) (k2 : ClassId) (p3 : Int32) (p4 : Int32) (p5 : Int32) (p6 : Int32) (p7 : Int32) (p8 : Int32) (p9 : Int32) (h0 : Heap) (n0 : Nat) (v : Option Value) (h : Heap) (L : List Loc) : Prop := v = some (.int 0) ∧ Fr n0 L ∧ h = h0
theorem rm61_coderFromArrayLen (l : Launch) (Z : State) (a0 : Array Value) (hw : HW Z a0) (a1 : Addr) (k2 : ClassId) (p3 : Int32) (p4 : Int32) (p5 : Int32) (p6 : Int32) (p7 : Int32) (p8 : Int32) (p9 : Int32) (h0 : Heap) (n0 : Nat) (O0 : Old Z n0 h0) (F_0 : Arv Z h0 a1 k2 .byte 7 [(.int p3), (.int p4), (.int p5), (.int p6), (.int p7), (.int p8), (.int p9)] (.int 0)) :
    Met l Z [] MY7 jdk_52_method_15_code 2 (some .byte) ({ frames := 0, cells := 0, slots := 0, locals := 0 } : Room) #[(.ref a1), (.int 7)] h0 (Q61_coderFromArrayLen Z a1 k2 p3 p4 p5 p6 p7 p8 p9 h0 n0) := by
  have W := @own_W _ _ hw
  refine own_mk (plainFor_of_name pn_197) ?_
  intro p e s m below meth c s₁ hZ hx hby hml hown hnm hret hlk X0 e0
  have N0 := Fr.nil n0
  obtain ⟨c1, A1, q1, S1, N1, H1, G1⟩ := id F_0
  refine ⟨s₁, some (.int 0), _, _, _, X0, by decide, by decide, nofun, ?_, fun fs hr => castTop (ef_409 m a1) ?_⟩
  · show Q61_coderFromArrayLen Z a1 k2 p3 p4 p5 p6 p7 p8 p9 h0 n0 _ s₁.heap _
    rw [e0]
    exact ⟨rfl, N0, rfl⟩
  · show SS p e below s₁ m 0 #[rv a1, iv 7] [] _
    refine XS.iloadN X0.here hx rfl (hb hby d_212) rfl ?_
    refine XS.aloadN X0.here hx rfl (hb hby d_213) rfl rfl ?_
    refine X0.arraylength hx (by rw [e0]; exact A1.1) (State.isArrayOf_alike hZ.alike A1.2.1) (g := (mkF m 2 #[rv a1, iv 7] [(.ref a1), (.int 7)])) rfl rfl (hb hby d_214) _ ?_
    rw [len_of S1 N1]
    refine XS.isub X0.here hx rfl (hb hby d_215) rfl ?_
    show SS p e below s₁ m 4 #[rv a1, iv 7] [(.int 0)] _
    refine XS.bipush X0.here hx rfl (hb hby d_216) ?_
    refine XS.iushr X0.here hx rfl (hb hby d_217) rfl ?_
    show SS p e below s₁ m 7 #[rv a1, iv 7] [(.int 0)] _
    refine XS.i2b X0.here hx rfl (hb hby d_218) rfl ?_
    show SS p e below s₁ m 8 #[rv a1, iv 7] [(.int 0)] _
    exact retN X0 hx (t := .byte) hret (by simp) (hb hby d_219) hr
theorem ef_410 (m : MethodId) (a1 : Addr) (a2 : Addr) : entryFrame m #[(.ref a1), (.ref a2), (.int 0), (.int 7), .null] 6 = mkF m 0 #[rv a1, rv a2, iv 0, iv 7, .val .null, .unset] [] := by first | (simp [entryFrame, mkF, argsToLocals, Value.category]; done) | rfl
def Q62_init (Z : State) (a1 : Addr) (a2 : Addr) (p3 : Int32) (k4 : ClassId) (p5 : Int32) (p6 : Int32) (p7 : Int32) (p8 : Int32) (p9 : Int32) (p10 : Int32) (p11 : Int32) (h0 : Heap) (n0 : Nat) (v : Option Value) (h : Heap) (L : List Loc) : Prop := ∃ (b3_0 : Addr) (k3_0 : ClassId), v = none ∧ Fr n0 L ∧ Keep h0 h [a1] ∧ h0.size ≤ b3_0 ∧ Arv Z h b3_0 k3_0 .byte 7 [(.int (p5.toInt8.toInt32)), (.int (p6.toInt8.toInt32)), (.int (p7.toInt8.toInt32)), (.int (p8.toInt8.toInt32)), (.int (p9.toInt8.toInt32)), (.int (p10.toInt8.toInt32)), (.int (p11.toInt8.toInt32))] (.int 0) ∧ EA16 Z h b3_0 ∧ FA11 Z h a1 (.int 0) ∧ FA12 Z h a1 (.ref b3_0)
theorem rm62_init (l : Launch) (Z : State) (a0 : Array Value) (hw : HW Z a0) (a1 : Addr) (a2 : Addr) (p3 : Int32) (k4 : ClassId) (p5 : Int32) (p6 : Int32) (p7 : Int32) (p8 : Int32) (p9 : Int32) (p10 : Int32) (p11 : Int32) (h0 : Heap) (n0 : Nat) (O0 : Old Z n0 h0) (S_0 : SA18 Z Z.heap (.int p3)) (hc_1 : ¬ (p3 = (0 : Int32))) (F_2 : Arv Z h0 a2 k4 .char 7 [(.int p5), (.int p6), (.int p7), (.int p8), (.int p9), (.int p10), (.int p11)] (.int 0)) (hc_3 : ¬ ((255 : Int32) < p5)) (hc_4 : ¬ ((255 : Int32) < p6)) (hc_5 : ¬ ((255 : Int32) < p7)) (hc_6 : ¬ ((255 : Int32) < p8)) (hc_7 : ¬ ((255 : Int32) < p9)) (hc_8 : ¬ ((255 : Int32) < p10)) (hc_9 : ¬ ((255 : Int32) < p11)) (lt_10 : a2 < h0.size) (F_11 : EA14 Z h0 a1) (F_12 : FA11 Z h0 a1 (.int 0)) (g_13 : n0 ≤ a1) (F_14 : FA12 Z h0 a1 .null) (lt_15 : a1 < h0.size) :
    Met l Z [] MY8 jdk_42_method_149_code 6 none ({ frames := 2, cells := 1, slots := 7, locals := 35 } : Room) #[(.ref a1), (.ref a2), (.int 0), (.int 7), .null] h0 (Q62_init Z a1 a2 p3 k4 p5 p6 p7 p8 p9 p10 p11 h0 n0) := by
  have W := @own_W _ _ hw
  refine own_mk (plainFor_of_name pn_52) ?_
  intro p e s m below meth c s₁ hZ hx hby hml hown hnm hret hlk X0 e0
  have N0 := Fr.nil n0
  obtain ⟨T1, X1, e1, st1⟩ := initO X0 hx hZ hown (W 15 rfl) (W 16 rfl) (W 17 rfl) e0 (g := (mkF m 1 #[rv a1, rv a2, iv 0, iv 7, .val .null, .unset] [(.ref a1)])) rfl (by rw [hml]; rfl) rfl (hb hby d_155) (by decide) (W := 0) (by show 2 * 0 + _ ≤ _; exact Nat.le_of_eq rfl) (by decide)
  obtain ⟨T2, X2, e2, st2⟩ := getS2 X1 hx hZ hown (host := "") (Or.inl (W 18 rfl)) Via.refl e1 (S_0.ext O0.2) (g := (mkF m 27 #[rv a1, rv a2, iv 0, iv 7, .val .null, .unset] [])) rfl (hb hby d_158)
  obtain ⟨_, T3, L3, X3, hQ3, st3⟩ := own_cs X2 hx hZ hown hml (W 19 rfl) (W 20 rfl) (W 21 rfl) (W 22 rfl) (rm60_compress l Z a0 hw a2 k4 p5 p6 p7 p8 p9 p10 p11 h0 n0 O0 (F_2) (hc_3) (hc_4) (hc_5) (hc_6) (hc_7) (hc_8) (hc_9) (lt_10)) e2 (hb hby d_163) 0 #[rv a1, rv a2, iv 0, iv 7, .val .null, .unset] [(.ref a2), (.int 0), (.int 7)] [] pd_206
  obtain ⟨b3_0, k3_0, rfl, N3q, K3, gb3_0, F3_0, F3_1⟩ := hQ3
  have N4 := Fr.app N0 N3q
  have O5 := O0.keep K3 all0
  have K6 : Keep h0 T3.heap [a1] := Keep.trans (Keep.refl h0 [a1]) K3 all0
  obtain ⟨_, T7, L7, X7, hQ7, st7⟩ := own_cs X3 hx hZ hown hml (W 27 rfl) (W 28 rfl) (W 21 rfl) (W 29 rfl) (rm61_coderFromArrayLen l Z a0 hw b3_0 k3_0 (p5.toInt8.toInt32) (p6.toInt8.toInt32) (p7.toInt8.toInt32) (p8.toInt8.toInt32) (p9.toInt8.toInt32) (p10.toInt8.toInt32) (p11.toInt8.toInt32) T3.heap n0 O5 (F3_0)) rfl (hb hby d_211) 1 #[rv a1, rv a2, iv 0, iv 7, .val .null, rv b3_0] [(.ref b3_0), (.int 7)] [(.ref a1)] pd_221
  obtain ⟨rfl, N7q, K7⟩ := hQ7
  have N8 := Fr.app N4 N7q
  have f10 := (F_12.keep K3 nin0)
  have f11 := (F_11.keep K3)
  obtain ⟨T9, h9, X9, e9, W9, st9⟩ := putFN X7 hx hZ hown (W 30 rfl) Via.refl K7 f10 f11 (Or.inr ⟨(W 31 rfl), rfl, hnm⟩) (W 5 rfl) (ty := .byte) (v' := (.int 0)) (by decide) rfl rfl (g := (mkF m 48 #[rv a1, rv a2, iv 0, iv 7, .val .null, rv b3_0] [(.int 0), (.ref a1)])) rfl rfl (hb hby d_222)
  have O12 := O5.wr W9 g_13
  have K13 : Keep h0 h9 [a1] := Keep.wr K6 W9 (Or.inl (List.mem_of_getElem? (i := 0) rfl))
  have f14 : FA11 Z h9 a1 (.int 0) := (f10.same W9)
  have N15 := Fr.snoc X9 N8 g_13
  have f17 := ((F_14.keep K3 nin0).other W9 (Or.inr (slot_ne (Or.inr (W 33 rfl)) (Or.inr (W 31 rfl)) (by decide) (t := (.array .byte)) (t' := .byte) (by decide) (by decide))))
  have f18 := (f11.wr W9)
  obtain ⟨T16, h16, X16, e16, W16, st16⟩ := putF X9 hx hZ hown (host := "") (Or.inl (W 32 rfl)) Via.refl e9 f17 f18 (Or.inr ⟨(W 33 rfl), rfl, hnm⟩) (W 5 rfl) (ty := (.array .byte)) (by decide) rfl rfl (g := (mkF m 54 #[rv a1, rv a2, iv 0, iv 7, .val .null, rv b3_0] [(.ref b3_0), (.ref a1)])) rfl rfl (hb hby d_225)
  have O19 := O12.wr W16 g_13
  have K20 : Keep h0 h16 [a1] := Keep.wr K13 W16 (Or.inl (List.mem_of_getElem? (i := 0) rfl))
  have f21 : FA12 Z h16 a1 (.ref b3_0) := (f17.same W16)
  have N22 := Fr.snoc X16 N15 g_13
  have f23 := ((F3_0.other W9 (Ne.symm (Nat.ne_of_lt (Nat.lt_of_lt_of_le lt_15 gb3_0)))).other W16 (Ne.symm (Nat.ne_of_lt (Nat.lt_of_lt_of_le lt_15 gb3_0))))
  have f24 := ((F3_1.wr W9).wr W16)
  have f25 := (f14.other W16 (Or.inr (slot_ne (Or.inr (W 31 rfl)) (Or.inr (W 33 rfl)) (by decide) (t := .byte) (t' := (.array .byte)) (by decide) (by decide))))
  refine ⟨T16, none, _, _, _, X16, by decide, by decide, (fun _ => rfl), ?_, fun fs hr => castTop (ef_410 m a1 a2) ?_⟩
  · show Q62_init Z a1 a2 p3 k4 p5 p6 p7 p8 p9 p10 p11 h0 n0 _ T16.heap _
    rw [e16]
    exact ⟨b3_0, k3_0, rfl, N22, K20, gb3_0, f23, f24, f25, f21⟩
  · show SS p e below s₁ m 0 #[rv a1, rv a2, iv 0, iv 7, .val .null, .unset] [] _
    refine XS.aloadN X0.here hx rfl (hb hby d_154) rfl rfl ?_
    refine st1 _ ?_
    refine XS.iloadN X1.here hx rfl (hb hby d_156) rfl ?_
    refine XS.ifYes X1.here hx rfl (pc0 := 5) (pc' := 27) rfl (hb hby d_157) rfl ((if0 _ _).trans (feq (by decide : ¬ ((7 : Int32) = (0 : Int32)))).2) (by decide) (by decide) ?_
    refine st2 _ ?_
    refine XS.ifNo X2.here hx rfl (hb hby d_159) rfl ((if0 _ _).trans (feq hc_1).1) ?_
    refine XS.aloadN X2.here hx rfl (hb hby d_160) rfl rfl ?_
    refine XS.iloadN X2.here hx rfl (hb hby d_161) rfl ?_
    refine XS.iloadN X2.here hx rfl (hb hby d_162) rfl ?_
    refine st3 _ ?_
    show SS p e below T3 m 39 #[rv a1, rv a2, iv 0, iv 7, .val .null, .unset] [(.ref b3_0)] _
    refine XS.astore X3.here hx rfl (hb hby d_207) rfl rfl (l' := #[rv a1, rv a2, iv 0, iv 7, .val .null, rv b3_0]) rfl ?_
    refine XS.aloadN X3.here hx rfl (hb hby d_208) rfl rfl ?_
    refine XS.aload X3.here hx rfl (hb hby d_209) rfl rfl ?_
    refine XS.iloadN X3.here hx rfl (hb hby d_210) rfl ?_
    refine st7 _ ?_
    refine st9 _ ?_
    refine XS.aloadN X9.here hx rfl (hb hby d_223) rfl rfl ?_
    refine XS.aload X9.here hx rfl (hb hby d_224) rfl rfl ?_
    refine st16 _ ?_
    exact X16.returnOut hx hret (hb hby d_226) hr
def Q63_init (Z : State) (a1 : Addr) (a2 : Addr) (k3 : ClassId) (p4 : Int32) (p5 : Int32) (p6 : Int32) (p7 : Int32) (p8 : Int32) (p9 : Int32) (p10 : Int32) (p11 : Int32) (h0 : Heap) (n0 : Nat) (v : Option Value) (h : Heap) (L : List Loc) : Prop := ∃ (b2_0 : Addr) (k2_0 : ClassId), v = none ∧ Fr n0 L ∧ Keep h0 h [a1] ∧ h0.size ≤ b2_0 ∧ Arv Z h b2_0 k2_0 .byte 7 [(.int (p4.toInt8.toInt32)), (.int (p5.toInt8.toInt32)), (.int (p6.toInt8.toInt32)), (.int (p7.toInt8.toInt32)), (.int (p8.toInt8.toInt32)), (.int (p9.toInt8.toInt32)), (.int (p10.toInt8.toInt32))] (.int 0) ∧ EA16 Z h b2_0 ∧ FA11 Z h a1 (.int 0) ∧ FA12 Z h a1 (.ref b2_0)
theorem rm63_init (l : Launch) (Z : State) (a0 : Array Value) (hw : HW Z a0) (a1 : Addr) (a2 : Addr) (k3 : ClassId) (p4 : Int32) (p5 : Int32) (p6 : Int32) (p7 : Int32) (p8 : Int32) (p9 : Int32) (p10 : Int32) (p11 : Int32) (h0 : Heap) (n0 : Nat) (O0 : Old Z n0 h0) (F_0 : Arv Z h0 a2 k3 .char 7 [(.int p4), (.int p5), (.int p6), (.int p7), (.int p8), (.int p9), (.int p10)] (.int 0)) (S_1 : SA18 Z Z.heap (.int p11)) (hc_2 : ¬ (p11 = (0 : Int32))) (hc_3 : ¬ ((255 : Int32) < p4)) (hc_4 : ¬ ((255 : Int32) < p5)) (hc_5 : ¬ ((255 : Int32) < p6)) (hc_6 : ¬ ((255 : Int32) < p7)) (hc_7 : ¬ ((255 : Int32) < p8)) (hc_8 : ¬ ((255 : Int32) < p9)) (hc_9 : ¬ ((255 : Int32) < p10)) (F_10 : EA14 Z h0 a1) (F_11 : FA11 Z h0 a1 (.int 0)) (F_12 : FA12 Z h0 a1 .null) (lt_13 : a2 < h0.size) (g_14 : n0 ≤ a1) (lt_15 : a1 < h0.size) :
    Met l Z [] MY9 jdk_42_method_3_code 2 none ({ frames := 3, cells := 1, slots := 7, locals := 52 } : Room) #[(.ref a1), (.ref a2)] h0 (Q63_init Z a1 a2 k3 p4 p5 p6 p7 p8 p9 p10 p11 h0 n0) := by
  have W := @own_W _ _ hw
  refine own_mk (plainFor_of_name pn_52) ?_
  intro p e s m below meth c s₁ hZ hx hby hml hown hnm hret hlk X0 e0
  have N0 := Fr.nil n0
  obtain ⟨c1, A1, q1, S1, N1, H1, G1⟩ := id F_0
  obtain ⟨_, T2, L2, X2, hQ2, st2⟩ := own_cp X0 hx hZ hown hml rfl (W 11 rfl) (W 12 rfl) (W 6 rfl) (W 14 rfl) (rm62_init l Z a0 hw a1 a2 p11 k3 p4 p5 p6 p7 p8 p9 p10 h0 n0 O0 (S_1) (hc_2) (F_0) (hc_3) (hc_4) (hc_5) (hc_6) (hc_7) (hc_8) (hc_9) (lt_13) (F_10) (F_11) (g_14) (F_12) (lt_15)) e0 (hb hby d_153) 0 #[rv a1, rv a2] a1 [(.ref a2), (.int 0), (.int 7), .null] [] pd_228
  obtain ⟨b2_0, k2_0, rfl, N2q, K2, gb2_0, F2_0, F2_1, F2_2, F2_3⟩ := hQ2
  have N3 := Fr.app N0 N2q
  have O4 := O0.keep K2 (allS g_14 all0)
  have K5 : Keep h0 T2.heap [a1] := Keep.trans (Keep.refl h0 [a1]) K2 (allS (Or.inl (List.mem_of_getElem? (i := 0) rfl)) all0)
  refine ⟨T2, none, _, _, _, X2, by decide, by decide, (fun _ => rfl), ?_, fun fs hr => castTop (ef_230 m a1 a2) ?_⟩
  · show Q63_init Z a1 a2 k3 p4 p5 p6 p7 p8 p9 p10 p11 h0 n0 _ T2.heap _
    exact ⟨b2_0, k2_0, rfl, N3, K5, gb2_0, F2_0, F2_1, F2_2, F2_3⟩
  · show SS p e below s₁ m 0 #[rv a1, rv a2] [] _
    refine XS.aloadN X0.here hx rfl (hb hby d_147) rfl rfl ?_
    refine XS.aloadN X0.here hx rfl (hb hby d_148) rfl rfl ?_
    refine XS.iconst X0.here hx rfl (hb hby d_149) ?_
    refine XS.aloadN X0.here hx rfl (hb hby d_150) rfl rfl ?_
    refine X0.arraylength hx (by rw [e0]; exact A1.1) (State.isArrayOf_alike hZ.alike A1.2.1) (g := (mkF m 4 #[rv a1, rv a2] [(.ref a2), (.int 0), (.ref a2), (.ref a1)])) rfl rfl (hb hby d_151) _ ?_
    rw [len_of S1 N1]
    refine XS.aconstNull X0.here hx rfl (hb hby d_152) ?_
    refine st2 _ ?_
    exact X2.returnOut hx hret (hb hby d_229) hr
theorem d_411 : decode method_3_code 247 = .ok (.areturn, 1) := by decide +kernel
theorem ef_412 (m : MethodId) (p1 : Int32) (p2 : Int32) (p3 : Int32) (p4 : Int32) (p5 : Int32) (p6 : Int32) (p7 : Int32) : entryFrame m #[(.int 7), (.int p1), (.int p2), (.int p3), (.int p4), (.int p5), (.int p6), (.int p7)] 8 = mkF m 0 #[iv 7, iv p1, iv p2, iv p3, iv p4, iv p5, iv p6, iv p7] [] := by first | (simp [entryFrame, mkF, argsToLocals, Value.category]; done) | rfl
def Q64_str (Z : State) (p1 : Int32) (p2 : Int32) (p3 : Int32) (p4 : Int32) (p5 : Int32) (p6 : Int32) (p7 : Int32) (p8 : Int32) (h0 : Heap) (n0 : Nat) (v : Option Value) (h : Heap) (L : List Loc) : Prop := ∃ (b1 : Addr) (b52_0 : Addr) (k52_0 : ClassId), v = some (.ref b1) ∧ Fr n0 L ∧ Keep h0 h [] ∧ h0.size ≤ b1 ∧ h0.size ≤ b52_0 ∧ EA14 Z h b1 ∧ FA11 Z h b1 (.int 0) ∧ FA12 Z h b1 (.ref b52_0) ∧ Arv Z h b52_0 k52_0 .byte 7 [(.int (p1.toInt8.toInt32)), (.int (p2.toInt8.toInt32)), (.int (p3.toInt8.toInt32)), (.int (p4.toInt8.toInt32)), (.int (p5.toInt8.toInt32)), (.int (p6.toInt8.toInt32)), (.int (p7.toInt8.toInt32))] (.int 0) ∧ EA16 Z h b52_0
theorem rm64_str (l : Launch) (Z : State) (a0 : Array Value) (hw : HW Z a0) (p1 : Int32) (p2 : Int32) (p3 : Int32) (p4 : Int32) (p5 : Int32) (p6 : Int32) (p7 : Int32) (p8 : Int32) (h0 : Heap) (n0 : Nat) (O0 : Old Z n0 h0) (nr_0 : nar .char p1 = p1) (nr_1 : nar .char p2 = p2) (nr_2 : nar .char p3 = p3) (nr_3 : nar .char p4 = p4) (nr_4 : nar .char p5 = p5) (nr_5 : nar .char p6 = p6) (nr_6 : nar .char p7 = p7) (S_7 : SA18 Z Z.heap (.int p8)) (hc_8 : ¬ (p8 = (0 : Int32))) (hc_9 : ¬ ((255 : Int32) < p1)) (hc_10 : ¬ ((255 : Int32) < p2)) (hc_11 : ¬ ((255 : Int32) < p3)) (hc_12 : ¬ ((255 : Int32) < p4)) (hc_13 : ¬ ((255 : Int32) < p5)) (hc_14 : ¬ ((255 : Int32) < p6)) (hc_15 : ¬ ((255 : Int32) < p7)) :
    Met l Z [] MY10 method_3_code 8 (some (.object "java/lang/String")) ({ frames := 4, cells := 3, slots := 18, locals := 66 } : Room) #[(.int 7), (.int p1), (.int p2), (.int p3), (.int p4), (.int p5), (.int p6), (.int p7)] h0 (Q64_str Z p1 p2 p3 p4 p5 p6 p7 p8 h0 n0) := by
  have W := @own_W _ _ hw
  refine own_mk (plainFor_of_name pn_234) ?_
  intro p e s m below meth c s₁ hZ hx hby hml hown hnm hret hlk X0 e0
  have N0 := Fr.nil n0
  obtain ⟨T1, h1, X1, e1, E1, A1, D1, -, st1⟩ := newO X0 hx hZ hown (W 4 rfl) (W 5 rfl) (W 6 rfl) e0 (g := (mkF m 203 #[iv 7, iv p1, iv p2, iv p3, iv p4, iv p5, iv p6, iv p7] [])) rfl (hb hby d_374) (by decide) (by decide)
  obtain ⟨b1, g1⟩ : ∃ z, z = h0.size := ⟨_, rfl⟩
  rw [← g1] at A1 D1 st1
  have O2 := O0.ext E1
  have K3 : Keep h0 h1 [] := Keep.ext (Keep.refl h0 []) E1
  obtain ⟨T4, h4, k4, X4, e4, E4, A4, B4, st4⟩ := newPE X1 hx hZ (W 7 rfl) e1 (g := (mkF m 209 #[iv 7, iv p1, iv p2, iv p3, iv p4, iv p5, iv p6, iv p7] [(.int 7), (.ref b1), (.ref b1)])) rfl (hb hby d_377) rfl (by decide) (cap := 7) (by decide) (by decide) (by decide) (by decide) (ad := "[C") rfl
  obtain ⟨b4, g4⟩ : ∃ z, z = h1.size := ⟨_, rfl⟩
  rw [← g4] at A4 B4 st4
  have O5 := O2.ext E4
  have K6 : Keep h0 h4 [] := Keep.ext K3 E4
  have v7 : Arv Z h4 b4 k4 .char 7 [(.int 0), (.int 0), (.int 0), (.int 0), (.int 0), (.int 0), (.int 0)] (.int 0) := (Arv.new A4 (by decide)).pad (pad_rep [] (.int 0) 7)
  obtain ⟨c8, A8, q8, S8, N8, H8, G8⟩ := id v7
  have i9 : NB 0 c8 := inb_of S8 (by decide)
  obtain ⟨T9, h9, X9, e9, W9, st9⟩ := stC X4 hx hZ e4 A8 (j := 0) i9 (g := (mkF m 214 #[iv 7, iv p1, iv p2, iv p3, iv p4, iv p5, iv p6, iv p7] [(.int p1), (.int 0), (.ref b4), (.ref b4), (.ref b1), (.ref b1)])) rfl rfl (hb hby d_381)
  rw [nr_0] at W9
  have z10 : h0.size ≤ h1.size := E1.1
  have g11 : n0 ≤ b4 := Nat.le_trans (Nat.le_trans (Nat.le_trans (Nat.le_of_eq O0.1.symm) O0.2.1) z10) (Nat.le_of_eq g4.symm)
  have O12 := O5.wr W9 g11
  have K13 : Keep h0 h9 [] := Keep.wr K6 W9 (Or.inr (Nat.le_trans z10 (Nat.le_of_eq g4.symm)))
  have v14 : Arv Z h9 b4 k4 .char 7 [(.int p1), (.int 0), (.int 0), (.int 0), (.int 0), (.int 0), (.int 0)] (.int 0) := Arv.set A8 q8 S8 N8 H8 G8 (own_fput (by simp) nr_0) W9 0 rfl (Nat.le_of_ble_eq_true rfl)
  have N15 := Fr.snoc X9 N0 g11
  obtain ⟨c16, A16, q16, S16, N16, H16, G16⟩ := id v14
  have i17 : NB 1 c16 := inb_of S16 (by decide)
  obtain ⟨T17, h17, X17, e17, W17, st17⟩ := stC X9 hx hZ e9 A16 (j := 1) i17 (g := (mkF m 218 #[iv 7, iv p1, iv p2, iv p3, iv p4, iv p5, iv p6, iv p7] [(.int p2), (.int 1), (.ref b4), (.ref b4), (.ref b1), (.ref b1)])) rfl rfl (hb hby d_385)
  rw [nr_1] at W17
  have O18 := O12.wr W17 g11
  have K19 : Keep h0 h17 [] := Keep.wr K13 W17 (Or.inr (Nat.le_trans z10 (Nat.le_of_eq g4.symm)))
  have v20 : Arv Z h17 b4 k4 .char 7 [(.int p1), (.int p2), (.int 0), (.int 0), (.int 0), (.int 0), (.int 0)] (.int 0) := Arv.set A16 q16 S16 N16 H16 G16 (own_fput (by simp) nr_1) W17 1 rfl (Nat.le_of_ble_eq_true rfl)
  have N21 := Fr.snoc X17 N15 g11
  obtain ⟨c22, A22, q22, S22, N22, H22, G22⟩ := id v20
  have i23 : NB 2 c22 := inb_of S22 (by decide)
  obtain ⟨T23, h23, X23, e23, W23, st23⟩ := stC X17 hx hZ e17 A22 (j := 2) i23 (g := (mkF m 222 #[iv 7, iv p1, iv p2, iv p3, iv p4, iv p5, iv p6, iv p7] [(.int p3), (.int 2), (.ref b4), (.ref b4), (.ref b1), (.ref b1)])) rfl rfl (hb hby d_389)
  rw [nr_2] at W23
  have O24 := O18.wr W23 g11
  have K25 : Keep h0 h23 [] := Keep.wr K19 W23 (Or.inr (Nat.le_trans z10 (Nat.le_of_eq g4.symm)))
  have v26 : Arv Z h23 b4 k4 .char 7 [(.int p1), (.int p2), (.int p3), (.int 0), (.int 0), (.int 0), (.int 0)] (.int 0) := Arv.set A22 q22 S22 N22 H22 G22 (own_fput (by simp) nr_2) W23 2 rfl (Nat.le_of_ble_eq_true rfl)
  have N27 := Fr.snoc X23 N21 g11
  obtain ⟨c28, A28, q28, S28, N28, H28, G28⟩ := id v26
  have i29 : NB 3 c28 := inb_of S28 (by decide)
  obtain ⟨T29, h29, X29, e29, W29, st29⟩ := stC X23 hx hZ e23 A28 (j := 3) i29 (g := (mkF m 227 #[iv 7, iv p1, iv p2, iv p3, iv p4, iv p5, iv p6, iv p7] [(.int p4), (.int 3), (.ref b4), (.ref b4), (.ref b1), (.ref b1)])) rfl rfl (hb hby d_393)
  rw [nr_3] at W29
  have O30 := O24.wr W29 g11
  have K31 : Keep h0 h29 [] := Keep.wr K25 W29 (Or.inr (Nat.le_trans z10 (Nat.le_of_eq g4.symm)))
  have v32 : Arv Z h29 b4 k4 .char 7 [(.int p1), (.int p2), (.int p3), (.int p4), (.int 0), (.int 0), (.int 0)] (.int 0) := Arv.set A28 q28 S28 N28 H28 G28 (own_fput (by simp) nr_3) W29 3 rfl (Nat.le_of_ble_eq_true rfl)
  have N33 := Fr.snoc X29 N27 g11
  obtain ⟨c34, A34, q34, S34, N34, H34, G34⟩ := id v32
  have i35 : NB 4 c34 := inb_of S34 (by decide)
  obtain ⟨T35, h35, X35, e35, W35, st35⟩ := stC X29 hx hZ e29 A34 (j := 4) i35 (g := (mkF m 232 #[iv 7, iv p1, iv p2, iv p3, iv p4, iv p5, iv p6, iv p7] [(.int p5), (.int 4), (.ref b4), (.ref b4), (.ref b1), (.ref b1)])) rfl rfl (hb hby d_397)
  rw [nr_4] at W35
  have O36 := O30.wr W35 g11
  have K37 : Keep h0 h35 [] := Keep.wr K31 W35 (Or.inr (Nat.le_trans z10 (Nat.le_of_eq g4.symm)))
  have v38 : Arv Z h35 b4 k4 .char 7 [(.int p1), (.int p2), (.int p3), (.int p4), (.int p5), (.int 0), (.int 0)] (.int 0) := Arv.set A34 q34 S34 N34 H34 G34 (own_fput (by simp) nr_4) W35 4 rfl (Nat.le_of_ble_eq_true rfl)
  have N39 := Fr.snoc X35 N33 g11
  obtain ⟨c40, A40, q40, S40, N40, H40, G40⟩ := id v38
  have i41 : NB 5 c40 := inb_of S40 (by decide)
  obtain ⟨T41, h41, X41, e41, W41, st41⟩ := stC X35 hx hZ e35 A40 (j := 5) i41 (g := (mkF m 237 #[iv 7, iv p1, iv p2, iv p3, iv p4, iv p5, iv p6, iv p7] [(.int p6), (.int 5), (.ref b4), (.ref b4), (.ref b1), (.ref b1)])) rfl rfl (hb hby d_401)
  rw [nr_5] at W41
  have O42 := O36.wr W41 g11
  have K43 : Keep h0 h41 [] := Keep.wr K37 W41 (Or.inr (Nat.le_trans z10 (Nat.le_of_eq g4.symm)))
  have v44 : Arv Z h41 b4 k4 .char 7 [(.int p1), (.int p2), (.int p3), (.int p4), (.int p5), (.int p6), (.int 0)] (.int 0) := Arv.set A40 q40 S40 N40 H40 G40 (own_fput (by simp) nr_5) W41 5 rfl (Nat.le_of_ble_eq_true rfl)
  have N45 := Fr.snoc X41 N39 g11
  obtain ⟨c46, A46, q46, S46, N46, H46, G46⟩ := id v44
  have i47 : NB 6 c46 := inb_of S46 (by decide)
  obtain ⟨T47, h47, X47, e47, W47, st47⟩ := stC X41 hx hZ e41 A46 (j := 6) i47 (g := (mkF m 243 #[iv 7, iv p1, iv p2, iv p3, iv p4, iv p5, iv p6, iv p7] [(.int p7), (.int 6), (.ref b4), (.ref b4), (.ref b1), (.ref b1)])) rfl rfl (hb hby d_405)
  rw [nr_6] at W47
  have O48 := O42.wr W47 g11
  have K49 : Keep h0 h47 [] := Keep.wr K43 W47 (Or.inr (Nat.le_trans z10 (Nat.le_of_eq g4.symm)))
  have v50 : Arv Z h47 b4 k4 .char 7 [(.int p1), (.int p2), (.int p3), (.int p4), (.int p5), (.int p6), (.int p7)] (.int 0) := Arv.set A46 q46 S46 N46 H46 G46 (own_fput (by simp) nr_6) W47 6 rfl (Nat.le_of_ble_eq_true rfl)
  have N51 := Fr.snoc X47 N45 g11
  have f53 := ((((((((A1.ext E4).wr W9).wr W17).wr W23).wr W29).wr W35).wr W41).wr W47)
  have f54 := (((((((((D1 (Or.inr (W 31 rfl)) (ty := .byte) (by decide) : FA11 Z h1 b1 (.int 0)).ext E4).other W9 (Or.inl (Nat.ne_of_lt (Nat.lt_of_lt_of_le A1.lt (Nat.le_of_eq g4.symm))))).other W17 (Or.inl (Nat.ne_of_lt (Nat.lt_of_lt_of_le A1.lt (Nat.le_of_eq g4.symm))))).other W23 (Or.inl (Nat.ne_of_lt (Nat.lt_of_lt_of_le A1.lt (Nat.le_of_eq g4.symm))))).other W29 (Or.inl (Nat.ne_of_lt (Nat.lt_of_lt_of_le A1.lt (Nat.le_of_eq g4.symm))))).other W35 (Or.inl (Nat.ne_of_lt (Nat.lt_of_lt_of_le A1.lt (Nat.le_of_eq g4.symm))))).other W41 (Or.inl (Nat.ne_of_lt (Nat.lt_of_lt_of_le A1.lt (Nat.le_of_eq g4.symm))))).other W47 (Or.inl (Nat.ne_of_lt (Nat.lt_of_lt_of_le A1.lt (Nat.le_of_eq g4.symm)))))
  have f55 := (((((((((D1 (Or.inr (W 33 rfl)) (ty := (.array .byte)) (by decide) : FA12 Z h1 b1 .null).ext E4).other W9 (Or.inl (Nat.ne_of_lt (Nat.lt_of_lt_of_le A1.lt (Nat.le_of_eq g4.symm))))).other W17 (Or.inl (Nat.ne_of_lt (Nat.lt_of_lt_of_le A1.lt (Nat.le_of_eq g4.symm))))).other W23 (Or.inl (Nat.ne_of_lt (Nat.lt_of_lt_of_le A1.lt (Nat.le_of_eq g4.symm))))).other W29 (Or.inl (Nat.ne_of_lt (Nat.lt_of_lt_of_le A1.lt (Nat.le_of_eq g4.symm))))).other W35 (Or.inl (Nat.ne_of_lt (Nat.lt_of_lt_of_le A1.lt (Nat.le_of_eq g4.symm))))).other W41 (Or.inl (Nat.ne_of_lt (Nat.lt_of_lt_of_le A1.lt (Nat.le_of_eq g4.symm))))).other W47 (Or.inl (Nat.ne_of_lt (Nat.lt_of_lt_of_le A1.lt (Nat.le_of_eq g4.symm)))))
  have z56 : h4.size ≤ h9.size := (Nat.le_of_eq W9.size.symm)
  have z57 : h4.size ≤ h17.size := (Nat.le_trans z56 (Nat.le_of_eq W17.size.symm))
  have z58 : h4.size ≤ h23.size := (Nat.le_trans z57 (Nat.le_of_eq W23.size.symm))
  have z59 : h4.size ≤ h29.size := (Nat.le_trans z58 (Nat.le_of_eq W29.size.symm))
  have z60 : h4.size ≤ h35.size := (Nat.le_trans z59 (Nat.le_of_eq W35.size.symm))
  have z61 : h4.size ≤ h41.size := (Nat.le_trans z60 (Nat.le_of_eq W41.size.symm))
  have z62 : h4.size ≤ h47.size := (Nat.le_trans z61 (Nat.le_of_eq W47.size.symm))
  have g63 : n0 ≤ b1 := Nat.le_trans (Nat.le_trans (Nat.le_of_eq O0.1.symm) O0.2.1) (Nat.le_of_eq g1.symm)
  have z64 : h1.size ≤ h4.size := E4.1
  have z65 : h1.size ≤ h9.size := (Nat.le_trans z64 (Nat.le_of_eq W9.size.symm))
  have z66 : h1.size ≤ h17.size := (Nat.le_trans z65 (Nat.le_of_eq W17.size.symm))
  have z67 : h1.size ≤ h23.size := (Nat.le_trans z66 (Nat.le_of_eq W23.size.symm))
  have z68 : h1.size ≤ h29.size := (Nat.le_trans z67 (Nat.le_of_eq W29.size.symm))
  have z69 : h1.size ≤ h35.size := (Nat.le_trans z68 (Nat.le_of_eq W35.size.symm))
  have z70 : h1.size ≤ h41.size := (Nat.le_trans z69 (Nat.le_of_eq W41.size.symm))
  have z71 : h1.size ≤ h47.size := (Nat.le_trans z70 (Nat.le_of_eq W47.size.symm))
  obtain ⟨_, T52, L52, X52, hQ52, st52⟩ := own_cp X47 hx hZ hown hml rfl (W 8 rfl) (W 9 rfl) (W 6 rfl) (W 10 rfl) (rm63_init l Z a0 hw b1 b4 k4 p1 p2 p3 p4 p5 p6 p7 p8 h47 n0 O48 (v50) (S_7) (hc_8) (hc_9) (hc_10) (hc_11) (hc_12) (hc_13) (hc_14) (hc_15) (f53) (f54) (f55) ((Nat.lt_of_lt_of_le A4.lt z62)) (g63) ((Nat.lt_of_lt_of_le A1.lt z71))) e47 (hb hby d_406) 1 #[iv 7, iv p1, iv p2, iv p3, iv p4, iv p5, iv p6, iv p7] b1 [(.ref b4)] [(.ref b1)] pd_231
  obtain ⟨b52_0, k52_0, rfl, N52q, K52, gb52_0, F52_0, F52_1, F52_2, F52_3⟩ := hQ52
  have N72 := Fr.app N51 N52q
  have O73 := O48.keep K52 (allS g63 all0)
  have K74 : Keep h0 T52.heap [] := Keep.trans K49 K52 (allS (Or.inr (Nat.le_of_eq g1.symm)) all0)
  have f75 := (f53.keep K52)
  have z76 : h0.size ≤ h4.size := (Nat.le_trans z10 E4.1)
  have z77 : h0.size ≤ h9.size := (Nat.le_trans z76 (Nat.le_of_eq W9.size.symm))
  have z78 : h0.size ≤ h17.size := (Nat.le_trans z77 (Nat.le_of_eq W17.size.symm))
  have z79 : h0.size ≤ h23.size := (Nat.le_trans z78 (Nat.le_of_eq W23.size.symm))
  have z80 : h0.size ≤ h29.size := (Nat.le_trans z79 (Nat.le_of_eq W29.size.symm))
  have z81 : h0.size ≤ h35.size := (Nat.le_trans z80 (Nat.le_of_eq W35.size.symm))
  have z82 : h0.size ≤ h41.size := (Nat.le_trans z81 (Nat.le_of_eq W41.size.symm))
  have z83 : h0.size ≤ h47.size := (Nat.le_trans z82 (Nat.le_of_eq W47.size.symm))
  refine ⟨T52, some (.ref b1), _, _, _, X52, by decide, by decide, nofun, ?_, fun fs hr => castTop (ef_412 m p1 p2 p3 p4 p5 p6 p7) ?_⟩
  · show Q64_str Z p1 p2 p3 p4 p5 p6 p7 p8 h0 n0 _ T52.heap _
    exact ⟨b1, b52_0, k52_0, rfl, N72, K74, (Nat.le_of_eq g1.symm), (Nat.le_trans z83 gb52_0), f75, F52_2, F52_3, F52_0, F52_1⟩
  · show SS p e below s₁ m 0 #[iv 7, iv p1, iv p2, iv p3, iv p4, iv p5, iv p6, iv p7] [] _
    refine XS.iloadN X0.here hx rfl (hb hby d_98) rfl ?_
    refine XS.ifYes X0.here hx rfl (pc0 := 1) (pc' := 15) rfl (hb hby d_99) rfl ((if0 _ _).trans (feq (by decide : ¬ ((7 : Int32) = (0 : Int32)))).2) (by decide) (by decide) ?_
    refine XS.iloadN X0.here hx rfl (hb hby d_100) rfl ?_
    refine XS.iconst X0.here hx rfl (hb hby d_101) ?_
    refine XS.icmpYes X0.here hx rfl (pc0 := 17) (pc' := 35) rfl (hb hby d_102) rfl (feq (by decide : ¬ ((7 : Int32) = (1 : Int32)))).2 (by decide) (by decide) ?_
    refine XS.iloadN X0.here hx rfl (hb hby d_103) rfl ?_
    refine XS.iconst X0.here hx rfl (hb hby d_104) ?_
    refine XS.icmpYes X0.here hx rfl (pc0 := 37) (pc' := 59) rfl (hb hby d_105) rfl (feq (by decide : ¬ ((7 : Int32) = (2 : Int32)))).2 (by decide) (by decide) ?_
    refine XS.iloadN X0.here hx rfl (hb hby d_106) rfl ?_
    refine XS.iconst X0.here hx rfl (hb hby d_107) ?_
    show SS p e below s₁ m 61 #[iv 7, iv p1, iv p2, iv p3, iv p4, iv p5, iv p6, iv p7] [(.int 3), (.int 7)] _
    refine XS.icmpYes X0.here hx rfl (pc0 := 61) (pc' := 87) rfl (hb hby d_108) rfl (feq (by decide : ¬ ((7 : Int32) = (3 : Int32)))).2 (by decide) (by decide) ?_
    refine XS.iloadN X0.here hx rfl (hb hby d_109) rfl ?_
    refine XS.iconst X0.here hx rfl (hb hby d_110) ?_
    refine XS.icmpYes X0.here hx rfl (pc0 := 89) (pc' := 120) rfl (hb hby d_111) rfl (feq (by decide : ¬ ((7 : Int32) = (4 : Int32)))).2 (by decide) (by decide) ?_
    refine XS.iloadN X0.here hx rfl (hb hby d_112) rfl ?_
    refine XS.iconst X0.here hx rfl (hb hby d_113) ?_
    refine XS.icmpYes X0.here hx rfl (pc0 := 122) (pc' := 158) rfl (hb hby d_114) rfl (feq (by decide : ¬ ((7 : Int32) = (5 : Int32)))).2 (by decide) (by decide) ?_
    refine XS.iloadN X0.here hx rfl (hb hby d_115) rfl ?_
    refine XS.bipush X0.here hx rfl (hb hby d_116) ?_
    refine XS.icmpYes X0.here hx rfl (pc0 := 161) (pc' := 203) rfl (hb hby d_117) rfl (feq (by decide : ¬ ((7 : Int32) = (6 : Int32)))).2 (by decide) (by decide) ?_
    show SS p e below s₁ m 203 #[iv 7, iv p1, iv p2, iv p3, iv p4, iv p5, iv p6, iv p7] [] _
    refine st1 _ ?_
    refine XS.dup X1.here hx rfl (hb hby d_375) rfl rfl ?_
    refine XS.bipush X1.here hx rfl (hb hby d_376) ?_
    refine st4 _ ?_
    refine XS.dup X4.here hx rfl (hb hby d_378) rfl rfl ?_
    refine XS.iconst X4.here hx rfl (hb hby d_379) ?_
    refine XS.iloadN X4.here hx rfl (hb hby d_380) rfl ?_
    refine st9 _ ?_
    refine XS.dup X9.here hx rfl (hb hby d_382) rfl rfl ?_
    refine XS.iconst X9.here hx rfl (hb hby d_383) ?_
    show SS p e below T9 m 217 #[iv 7, iv p1, iv p2, iv p3, iv p4, iv p5, iv p6, iv p7] [(.int 1), (.ref b4), (.ref b4), (.ref b1), (.ref b1)] _
    refine XS.iloadN X9.here hx rfl (hb hby d_384) rfl ?_
    refine st17 _ ?_
    refine XS.dup X17.here hx rfl (hb hby d_386) rfl rfl ?_
    refine XS.iconst X17.here hx rfl (hb hby d_387) ?_
    refine XS.iloadN X17.here hx rfl (hb hby d_388) rfl ?_
    refine st23 _ ?_
    refine XS.dup X23.here hx rfl (hb hby d_390) rfl rfl ?_
    refine XS.iconst X23.here hx rfl (hb hby d_391) ?_
    refine XS.iload X23.here hx rfl (hb hby d_392) rfl ?_
    refine st29 _ ?_
    show SS p e below T29 m 228 #[iv 7, iv p1, iv p2, iv p3, iv p4, iv p5, iv p6, iv p7] [(.ref b4), (.ref b1), (.ref b1)] _
    refine XS.dup X29.here hx rfl (hb hby d_394) rfl rfl ?_
    refine XS.iconst X29.here hx rfl (hb hby d_395) ?_
    refine XS.iload X29.here hx rfl (hb hby d_396) rfl ?_
    refine st35 _ ?_
    refine XS.dup X35.here hx rfl (hb hby d_398) rfl rfl ?_
    refine XS.iconst X35.here hx rfl (hb hby d_399) ?_
    refine XS.iload X35.here hx rfl (hb hby d_400) rfl ?_
    refine st41 _ ?_
    refine XS.dup X41.here hx rfl (hb hby d_402) rfl rfl ?_
    refine XS.bipush X41.here hx rfl (hb hby d_403) ?_
    show SS p e below T41 m 241 #[iv 7, iv p1, iv p2, iv p3, iv p4, iv p5, iv p6, iv p7] [(.int 6), (.ref b4), (.ref b4), (.ref b1), (.ref b1)] _
    refine XS.iload X41.here hx rfl (hb hby d_404) rfl ?_
    refine st47 _ ?_
    refine st52 _ ?_
    exact retOut X52 hx hret rfl (Or.inr (Or.inr (Or.inr (Or.inr ⟨rfl, rfl, rfl⟩)))) (hb hby d_411) hr
def Q65_ofLabel (Z : State) (a1 : Addr) (a2 : Addr) (k3 : ClassId) (a4 : Addr) (a5 : Addr) (a6 : Addr) (a7 : Addr) (k8 : ClassId) (a9 : Addr) (k10 : ClassId) (p11 : Int32) (vs12 : List Value) (p13 : Int32) (a14 : Addr) (a15 : Addr) (k16 : ClassId) (h0 : Heap) (n0 : Nat) (v : Option Value) (h : Heap) (L : List Loc) : Prop := v = some .null ∧ Fr n0 L ∧ Keep h0 h []
theorem rm65_ofLabel (l : Launch) (Z : State) (a0 : Array Value) (hw : HW Z a0) (a1 : Addr) (a2 : Addr) (k3 : ClassId) (a4 : Addr) (a5 : Addr) (a6 : Addr) (a7 : Addr) (k8 : ClassId) (a9 : Addr) (k10 : ClassId) (p11 : Int32) (vs12 : List Value) (p13 : Int32) (a14 : Addr) (a15 : Addr) (k16 : ClassId) (h0 : Heap) (n0 : Nat) (O0 : Old Z n0 h0) (S_0 : SA19 Z Z.heap (.ref a2)) (F_1 : Arv Z Z.heap a2 k3 (.object "com/example/duplex/duplex/compliance/Side") (2 : Int32) [(.ref a4), (.ref a5)] .null) (F_2 : EA15 Z Z.heap a2) (F_3 : FA13 Z Z.heap a4 (.ref a6)) (F_4 : EA14 Z Z.heap a6) (F_5 : FA11 Z Z.heap a6 (.int 0)) (F_6 : FA12 Z Z.heap a6 (.ref a7)) (F_7 : Arv Z Z.heap a7 k8 .byte 6 [(.int 99), (.int 108), (.int 105), (.int 101), (.int 110), (.int 116)] (.int 0)) (F_8 : EA14 Z h0 a1) (F_9 : FA11 Z h0 a1 (.int 0)) (F_10 : FA12 Z h0 a1 (.ref a9)) (F_11 : Arv Z h0 a9 k10 .byte p11 vs12 (.int 0)) (S_12 : SA18 Z Z.heap (.int p13)) (P_13 : own_P (99 : Int32) (108 : Int32) (105 : Int32) (101 : Int32) (110 : Int32) (116 : Int32) p11 vs12) (hc_14 : ¬ (p13 = (0 : Int32))) (F_15 : FA13 Z Z.heap a5 (.ref a14)) (F_16 : EA14 Z Z.heap a14) (F_17 : FA11 Z Z.heap a14 (.int 0)) (F_18 : FA12 Z Z.heap a14 (.ref a15)) (F_19 : Arv Z Z.heap a15 k16 .byte 6 [(.int 115), (.int 101), (.int 114), (.int 118), (.int 101), (.int 114)] (.int 0)) (P_20 : own_P (115 : Int32) (101 : Int32) (114 : Int32) (118 : Int32) (101 : Int32) (114 : Int32) p11 vs12) :
    Met l Z [] MY3 prog_9_method_5_code 5 (some (.object "com/example/duplex/duplex/compliance/Side")) ({ frames := 2, cells := 1, slots := 2, locals := 28 } : Room) #[(.ref a1)] h0 (Q65_ofLabel Z a1 a2 k3 a4 a5 a6 a7 k8 a9 k10 p11 vs12 p13 a14 a15 k16 h0 n0) := by
  have W := @own_W _ _ hw
  refine own_mk (plainFor_of_name pn_59) ?_
  intro p e s m below meth c s₁ hZ hx hby hml hown hnm hret hlk X0 e0
  have N0 := Fr.nil n0
  obtain ⟨_, T1, L1, X1, hQ1, st1⟩ := own_cs X0 hx hZ hown hml (W 52 rfl) (W 53 rfl) (W 50 rfl) (W 54 rfl) (rm1_values l Z a0 hw a2 k3 a4 a5 h0 n0 O0 (S_0) (F_1) (F_2)) e0 (hb hby d_53) 0 #[rv a1, .unset, .unset, .unset, .unset] [] [] pd_60
  obtain ⟨b1_0, rfl, N1q, K1, gb1_0, F1_0, F1_1⟩ := hQ1
  have N2 := Fr.app N0 N1q
  have O3 := O0.keep K1 all0
  have K4 : Keep h0 T1.heap [] := Keep.trans (Keep.refl h0 []) K1 all0
  obtain ⟨c5, A5, q5, S5, N5, H5, G5⟩ := id F1_0
  obtain ⟨c6, A6, q6, S6, N6, H6, G6⟩ := id F1_0
  have i7 : NB 0 c6 := inb_of S6 (by decide)
  obtain ⟨T8, X8, e8, st8⟩ := getF X1 hx hZ hown (host := "") (Or.inl (W 69 rfl)) Via.refl rfl (F_3.ext O3.2) (g := (mkF m 21 #[rv a1, rv b1_0, iv 2, iv 0, rv a4] [(.ref a4)])) rfl rfl (hb hby d_75)
  have f10 := (F_8.keep K1)
  have f11 := (F_9.keep K1 nin0)
  have f12 := (F_10.keep K1 nin0)
  have f13 := (F_11.keep K1 nin0)
  obtain ⟨_, T9, L9, X9, hQ9, st9⟩ := own_cv X8 hx hZ hown hml (W 71 rfl) (W 38 rfl) (notFace_of_selects (W 40 rfl)) (W 40 rfl) (W 39 rfl) (W 6 rfl) (W 41 rfl) (own_neC1 l Z a0 hw a6 a1 a7 a9 k8 k10 (99 : Int32) (108 : Int32) (105 : Int32) (101 : Int32) (110 : Int32) (116 : Int32) p11 vs12 p13 T1.heap n0 O3 ((F_4.ext O3.2)) ((F_5.ext O3.2)) ((F_6.ext O3.2)) ((F_7.ext O3.2)) (f10) (f11) (f12) (f13) (P_13) (S_12) (hc_14)) e8 (F_4.ext O3.2) (hb hby d_77) 0 #[rv a1, rv b1_0, iv 2, iv 0, rv a4] [(.ref a1)] [] pd_79
  obtain ⟨rfl, N9q, K9⟩ := hQ9
  have N14 := Fr.app N2 N9q
  obtain ⟨c15, A15, q15, S15, N15, H15, G15⟩ := id F1_0
  have i16 : NB 1 c15 := inb_of S15 (by decide)
  obtain ⟨T17, X17, e17, st17⟩ := getF X9 hx hZ hown (host := "") (Or.inl (W 69 rfl)) Via.refl K9 (F_15.ext O3.2) (g := (mkF m 21 #[rv a1, rv b1_0, iv 2, iv 1, rv a5] [(.ref a5)])) rfl rfl (hb hby d_75)
  obtain ⟨_, T18, L18, X18, hQ18, st18⟩ := own_cv X17 hx hZ hown hml (W 71 rfl) (W 38 rfl) (notFace_of_selects (W 40 rfl)) (W 40 rfl) (W 39 rfl) (W 6 rfl) (W 41 rfl) (own_neC1 l Z a0 hw a14 a1 a15 a9 k16 k10 (115 : Int32) (101 : Int32) (114 : Int32) (118 : Int32) (101 : Int32) (114 : Int32) p11 vs12 p13 T1.heap n0 O3 ((F_16.ext O3.2)) ((F_17.ext O3.2)) ((F_18.ext O3.2)) ((F_19.ext O3.2)) (f10) (f11) (f12) (f13) (P_20) (S_12) (hc_14)) e17 (F_16.ext O3.2) (hb hby d_77) 0 #[rv a1, rv b1_0, iv 2, iv 1, rv a5] [(.ref a1)] [] pd_79
  obtain ⟨rfl, N18q, K18⟩ := hQ18
  have N19 := Fr.app N14 N18q
  refine ⟨T18, some .null, _, _, _, X18, by decide, by decide, nofun, ?_, fun fs hr => castTop (ef_97 m a1) ?_⟩
  · show Q65_ofLabel Z a1 a2 k3 a4 a5 a6 a7 k8 a9 k10 p11 vs12 p13 a14 a15 k16 h0 n0 _ T18.heap _
    rw [K18]
    exact ⟨rfl, N19, K4⟩
  · show SS p e below s₁ m 0 #[rv a1, .unset, .unset, .unset, .unset] [] _
    refine st1 _ ?_
    refine XS.astoreN X1.here hx rfl (hb hby d_61) rfl rfl (l' := #[rv a1, rv b1_0, .unset, .unset, .unset]) rfl ?_
    refine XS.aloadN X1.here hx rfl (hb hby d_62) rfl rfl ?_
    refine X1.arraylength hx (A5.1) (State.isArrayOf_alike hZ.alike A5.2.1) (g := (mkF m 5 #[rv a1, rv b1_0, .unset, .unset, .unset] [(.ref b1_0)])) rfl rfl (hb hby d_63) _ ?_
    rw [len_of S5 N5]
    refine XS.istoreN X1.here hx rfl (hb hby d_64) rfl (l' := #[rv a1, rv b1_0, iv 2, .unset, .unset]) rfl ?_
    refine XS.iconst X1.here hx rfl (hb hby d_65) ?_
    refine XS.istoreN X1.here hx rfl (hb hby d_66) rfl (l' := #[rv a1, rv b1_0, iv 2, iv 0, .unset]) rfl ?_
    refine XS.iloadN X1.here hx rfl (hb hby d_67) rfl ?_
    refine XS.iloadN X1.here hx rfl (hb hby d_68) rfl ?_
    refine XS.icmpNo X1.here hx rfl (hb hby d_69) rfl (tlt (by decide : (0 : Int32) < (2 : Int32))).2.1 ?_
    show SS p e below T1 m 14 #[rv a1, rv b1_0, iv 2, iv 0, .unset] [] _
    refine XS.aloadN X1.here hx rfl (hb hby d_70) rfl rfl ?_
    refine XS.iloadN X1.here hx rfl (hb hby d_71) rfl ?_
    refine X1.aaload hx (j := 0) (v := (.ref a4)) (A6.1) (State.isArrayOf_alike hZ.alike A6.2.1) rfl A6.2.2 i7 (H6.at i7 rfl) (g := (mkF m 16 #[rv a1, rv b1_0, iv 2, iv 0, .unset] [(.int 0), (.ref b1_0)])) rfl rfl (hb hby d_72) _ ?_
    refine XS.astore X1.here hx rfl (hb hby d_73) rfl rfl (l' := #[rv a1, rv b1_0, iv 2, iv 0, rv a4]) rfl ?_
    refine XS.aload X1.here hx rfl (hb hby d_74) rfl rfl ?_
    refine st8 _ ?_
    refine XS.aloadN X8.here hx rfl (hb hby d_76) rfl rfl ?_
    refine st9 _ ?_
    refine XS.ifYes X9.here hx rfl (pc0 := 28) (pc' := 34) rfl (hb hby d_80) rfl ((if0 _ _).trans (teq (by decide : (0 : Int32) = (0 : Int32))).1) (by decide) (by decide) ?_
    refine XS.iinc X9.here hx rfl (hb hby d_81) rfl (l' := #[rv a1, rv b1_0, iv 2, iv 1, rv a4]) rfl ?_
    show SS p e below T9 m 37 #[rv a1, rv b1_0, iv 2, iv 1, rv a4] [] _
    refine XS.goto X9.here hx rfl (pc0 := 37) (pc' := 9) rfl (hb hby d_82) (by decide) (by decide) ?_
    refine XS.iloadN X9.here hx rfl (hb hby d_67) rfl ?_
    refine XS.iloadN X9.here hx rfl (hb hby d_68) rfl ?_
    refine XS.icmpNo X9.here hx rfl (hb hby d_69) rfl (tlt (by decide : (1 : Int32) < (2 : Int32))).2.1 ?_
    refine XS.aloadN X9.here hx rfl (hb hby d_70) rfl rfl ?_
    refine XS.iloadN X9.here hx rfl (hb hby d_71) rfl ?_
    refine X9.aaload hx (j := 1) (v := (.ref a5)) (by rw [K9]; exact A15.1) (State.isArrayOf_alike hZ.alike A15.2.1) rfl A15.2.2 i16 (H15.at i16 rfl) (g := (mkF m 16 #[rv a1, rv b1_0, iv 2, iv 1, rv a4] [(.int 1), (.ref b1_0)])) rfl rfl (hb hby d_72) _ ?_
    refine XS.astore X9.here hx rfl (hb hby d_73) rfl rfl (l' := #[rv a1, rv b1_0, iv 2, iv 1, rv a5]) rfl ?_
    refine XS.aload X9.here hx rfl (hb hby d_74) rfl rfl ?_
    refine st17 _ ?_
    show SS p e below T17 m 24 #[rv a1, rv b1_0, iv 2, iv 1, rv a5] [(.ref a14)] _
    refine XS.aloadN X17.here hx rfl (hb hby d_76) rfl rfl ?_
    refine st18 _ ?_
    refine XS.ifYes X18.here hx rfl (pc0 := 28) (pc' := 34) rfl (hb hby d_80) rfl ((if0 _ _).trans (teq (by decide : (0 : Int32) = (0 : Int32))).1) (by decide) (by decide) ?_
    refine XS.iinc X18.here hx rfl (hb hby d_81) rfl (l' := #[rv a1, rv b1_0, iv 2, iv 2, rv a5]) rfl ?_
    show SS p e below T18 m 37 #[rv a1, rv b1_0, iv 2, iv 2, rv a5] [] _
    refine XS.goto X18.here hx rfl (pc0 := 37) (pc' := 9) rfl (hb hby d_82) (by decide) (by decide) ?_
    refine XS.iloadN X18.here hx rfl (hb hby d_67) rfl ?_
    refine XS.iloadN X18.here hx rfl (hb hby d_68) rfl ?_
    refine XS.icmpYes X18.here hx rfl (pc0 := 11) (pc' := 40) rfl (hb hby d_69) rfl (flt (by decide : ¬ ((2 : Int32) < (2 : Int32)))).2.1 (by decide) (by decide) ?_
    refine XS.aconstNull X18.here hx rfl (hb hby d_83) ?_
    exact retOut X18 hx hret rfl (Or.inr (Or.inr (Or.inr (Or.inr ⟨rfl, rfl, rfl⟩)))) (hb hby d_84) hr
theorem ef_413 (m : MethodId) (p1 : Int32) (p2 : Int32) (p3 : Int32) (p4 : Int32) (p5 : Int32) (p6 : Int32) : entryFrame m #[(.int p1), (.int p2), (.int p3), (.int p4), (.int p5), (.int p6)] maxLocals = mkF m 0 #[iv p1, iv p2, iv p3, iv p4, iv p5, iv p6, .unset, .unset, .unset, .unset, .unset] [] := by first | (simp [entryFrame, mkF, argsToLocals, Value.category, maxLocals]; done) | rfl
theorem rm0 (l : Launch) (Z : State) (a0 : Array Value) (hw : HW Z a0) (ws : List Jvm.Cond) (p1 : Int32) (p2 : Int32) (p3 : Int32) (p4 : Int32) (p5 : Int32) (p6 : Int32) (o_COMPACT_STRINGS : Int32) (o_SIOOBE_FORMATTER : Value) (o__VALUES : Addr) (o_CLIENT : Addr) (o_SERVER : Addr) (o_CLIENT_label : Addr) (o_CLIENT_label_value : Addr) (o_SERVER_label : Addr) (o_SERVER_label_value : Addr) (k_o__VALUES : ClassId) (k_o_CLIENT_label_value : ClassId) (k_o_SERVER_label_value : ClassId) (h0 : Heap) (n0 : Nat) (O0 : Old Z n0 h0) (S_o_COMPACT_STRINGS : SA18 Z Z.heap (.int o_COMPACT_STRINGS)) (S_o_SIOOBE_FORMATTER : SA20 Z Z.heap o_SIOOBE_FORMATTER) (S_o__VALUES : SA19 Z Z.heap (.ref o__VALUES)) (E_o__VALUES : EA15 Z Z.heap o__VALUES) (S_o_CLIENT : SA21 Z Z.heap (.ref o_CLIENT)) (E_o_CLIENT : EA17 Z Z.heap o_CLIENT) (S_o_SERVER : SA22 Z Z.heap (.ref o_SERVER)) (E_o_SERVER : EA17 Z Z.heap o_SERVER) (F_o_CLIENT_label : FA13 Z Z.heap o_CLIENT (.ref o_CLIENT_label)) (E_o_CLIENT_label : EA14 Z Z.heap o_CLIENT_label) (F_o_CLIENT_label_value : FA12 Z Z.heap o_CLIENT_label (.ref o_CLIENT_label_value)) (F_o_SERVER_label : FA13 Z Z.heap o_SERVER (.ref o_SERVER_label)) (E_o_SERVER_label : EA14 Z Z.heap o_SERVER_label) (F_o_SERVER_label_value : FA12 Z Z.heap o_SERVER_label (.ref o_SERVER_label_value)) (F_o_CLIENT_label_coder : FA11 Z Z.heap o_CLIENT_label (.int 0)) (F_o_SERVER_label_coder : FA11 Z Z.heap o_SERVER_label (.int 0)) (A_o__VALUES : Arv Z Z.heap o__VALUES k_o__VALUES (.object "com/example/duplex/duplex/compliance/Side") (2 : Int32) [(.ref o_CLIENT), (.ref o_SERVER)] .null) (A_o_CLIENT_label_value : Arv Z Z.heap o_CLIENT_label_value k_o_CLIENT_label_value .byte 6 [(.int 99), (.int 108), (.int 105), (.int 101), (.int 110), (.int 116)] (.int 0)) (A_o_SERVER_label_value : Arv Z Z.heap o_SERVER_label_value k_o_SERVER_label_value .byte 6 [(.int 115), (.int 101), (.int 114), (.int 118), (.int 101), (.int 114)] (.int 0)) (nz_o_COMPACT_STRINGS : ¬ (o_COMPACT_STRINGS = (0 : Int32))) (ir_o_SIOOBE_FORMATTER : o_SIOOBE_FORMATTER.isRef = true) (ne_o_CLIENT_label_o_SERVER_label : o_CLIENT_label ≠ o_SERVER_label)  :
    MetH l Z ws x code maxLocals ret room_1 #[(.int p1), (.int p2), (.int p3), (.int p4), (.int p5), (.int p6)] h0 consts_1 [] (fun v _ L => Q0 n0 v L) := by
  have W := @own_W _ _ hw
  refine own_mkH (plainFor_of_name pn_234) ?_
  intro p e s m below meth c s₁ hZ hx hby hml hown hnm hret hlk X0 e0 H0 hsf
  have N0 := Fr.nil n0
  have C0 := CHr.refl H0
  have X1 := (show Stand p l e _ (s.setVm s.vm) m _ below meth c _ _ _ _ from X0)
  rcases own_cls (c := (p5 &&& (255 : Int32))) (c0 := (p2 &&& (255 : Int32))) (c1 := ((us8 p2) &&& (255 : Int32))) (c2 := ((us16 p2) &&& (255 : Int32))) (c3 := ((us24 p2) &&& (255 : Int32))) (c4 := (p3 &&& (255 : Int32))) (c5 := ((us8 p3) &&& (255 : Int32))) (own_m3 p1) (own_m7 p6) (own_m1 (us8 p5)) (own_r6 p4) with A | A | A | A
  · obtain ⟨_, T2, L2, X2, hQ2, st2⟩ := own_cs X1 hx hZ hown hml (W 48 rfl) (W 49 rfl) (W 50 rfl) (W 51 rfl) (rm3_ofLabel l Z a0 hw o__VALUES k_o__VALUES o_CLIENT o_SERVER o_CLIENT_label o_SERVER_label h0 n0 O0 (S_o__VALUES) (A_o__VALUES) (E_o__VALUES) (F_o_CLIENT_label) (E_o_CLIENT_label) (F_o_SERVER_label) (E_o_SERVER_label)) e0 (hb hby at_263) 0 #[iv p1, iv p2, iv p3, iv p4, iv p5, iv p6, iv 3, .val .null, .val .null, .unset, .unset] [.null] [] pd_86
    obtain ⟨rfl, N2q, K2⟩ := hQ2
    have N3 := Fr.app N0 N2q
    have c4 := CHr.keep K2 sf0 H0
    have C5 := CHr.trans C0 c4
    have O6 := O0.keep K2 all0
    have K7 : Keep h0 T2.heap [] := Keep.trans (Keep.refl h0 []) K2 all0
    obtain ⟨T8, X8, e8, st8⟩ := getS2 X2 hx hZ hown (host := "") (Or.inl (W 72 rfl)) Via.refl rfl (S_o_CLIENT.ext O6.2) (g := (mkF m 278 #[iv p1, iv p2, iv p3, iv p4, iv p5, iv p6, iv 3, .val .null, .val .null, iv 1, .unset] [])) rfl (hb hby at_278)
    obtain ⟨_, T9, L9, X9, hQ9, st9⟩ := own_cv X8 hx hZ hown hml (W 73 rfl) (W 74 rfl) (notFace_of_selects (W 76 rfl)) (W 76 rfl) (W 75 rfl) (W 50 rfl) (W 77 rfl) (rm4_label l Z a0 hw o_CLIENT o_CLIENT_label T2.heap n0 O6 (F_o_CLIENT_label)) e8 (E_o_CLIENT.ext O6.2) (hb hby at_281) 0 #[iv p1, iv p2, iv p3, iv p4, iv p5, iv p6, iv 3, .val .null, .val .null, iv 1, .unset] [] [] pd_91
    obtain ⟨rfl, N9q, K9⟩ := hQ9
    have N10 := Fr.app N3 N9q
    obtain ⟨_, T11, L11, X11, hQ11, st11⟩ := own_cs X9 hx hZ hown hml (W 48 rfl) (W 49 rfl) (W 50 rfl) (W 51 rfl) (rm6_ofLabel l Z a0 hw o_CLIENT_label o__VALUES k_o__VALUES o_CLIENT o_SERVER T2.heap n0 O6 (S_o__VALUES) (A_o__VALUES) (E_o__VALUES) (F_o_CLIENT_label) (E_o_CLIENT_label)) K9 (hb hby at_284) 0 #[iv p1, iv p2, iv p3, iv p4, iv p5, iv p6, iv 3, .val .null, .val .null, iv 1, .unset] [(.ref o_CLIENT_label)] [] pd_86
    obtain ⟨rfl, N11q, K11⟩ := hQ11
    have N12 := Fr.app N10 N11q
    have c13 := CHr.keep K11 sf0 c4.1
    have C14 := CHr.trans C5 c13
    have O15 := O6.keep K11 all0
    have K16 : Keep h0 T11.heap [] := Keep.trans K7 K11 all0
    obtain ⟨T17, X17, e17, st17⟩ := getS2 X11 hx hZ hown (host := "") (Or.inl (W 72 rfl)) Via.refl rfl (S_o_CLIENT.ext O15.2) (g := (mkF m 287 #[iv p1, iv p2, iv p3, iv p4, iv p5, iv p6, iv 3, .val .null, .val .null, iv 1, .unset] [(.ref o_CLIENT)])) rfl (hb hby at_287)
    obtain ⟨T18, X18, e18, st18⟩ := getS2 X17 hx hZ hown (host := "") (Or.inl (W 78 rfl)) Via.refl e17 (S_o_SERVER.ext O15.2) (g := (mkF m 293 #[iv p1, iv p2, iv p3, iv p4, iv p5, iv p6, iv 3, .val .null, .val .null, iv 1, .unset] [])) rfl (hb hby at_293)
    obtain ⟨_, T19, L19, X19, hQ19, st19⟩ := own_cv X18 hx hZ hown hml (W 73 rfl) (W 74 rfl) (notFace_of_selects (W 76 rfl)) (W 76 rfl) (W 75 rfl) (W 50 rfl) (W 77 rfl) (rm4_label l Z a0 hw o_SERVER o_SERVER_label T11.heap n0 O15 (F_o_SERVER_label)) e18 (E_o_SERVER.ext O15.2) (hb hby at_296) 0 #[iv p1, iv p2, iv p3, iv p4, iv p5, iv p6, iv 3, .val .null, .val .null, iv 1, .unset] [] [] pd_91
    obtain ⟨rfl, N19q, K19⟩ := hQ19
    have N20 := Fr.app N12 N19q
    obtain ⟨_, T21, L21, X21, hQ21, st21⟩ := own_cs X19 hx hZ hown hml (W 48 rfl) (W 49 rfl) (W 50 rfl) (W 51 rfl) (rm9_ofLabel l Z a0 hw o_SERVER_label o__VALUES k_o__VALUES o_CLIENT o_SERVER o_CLIENT_label o_CLIENT_label_value k_o_CLIENT_label_value o_SERVER_label_value k_o_SERVER_label_value o_COMPACT_STRINGS T11.heap n0 O15 (S_o__VALUES) (A_o__VALUES) (E_o__VALUES) (F_o_CLIENT_label) (E_o_CLIENT_label) (F_o_CLIENT_label_coder) (F_o_CLIENT_label_value) (A_o_CLIENT_label_value) (E_o_SERVER_label) (F_o_SERVER_label_coder) (F_o_SERVER_label_value) (A_o_SERVER_label_value) (S_o_COMPACT_STRINGS) (nz_o_COMPACT_STRINGS) (ne_o_CLIENT_label_o_SERVER_label) (F_o_SERVER_label)) K19 (hb hby at_299) 0 #[iv p1, iv p2, iv p3, iv p4, iv p5, iv p6, iv 3, .val .null, .val .null, iv 1, .unset] [(.ref o_SERVER_label)] [] pd_86
    obtain ⟨rfl, N21q, K21⟩ := hQ21
    have N22 := Fr.app N20 N21q
    have c23 := CHr.keep K21 sf0 c13.1
    have C24 := CHr.trans C14 c23
    have O25 := O15.keep K21 all0
    have K26 : Keep h0 T21.heap [] := Keep.trans K16 K21 all0
    obtain ⟨T27, X27, e27, st27⟩ := getS2 X21 hx hZ hown (host := "") (Or.inl (W 78 rfl)) Via.refl rfl (S_o_SERVER.ext O25.2) (g := (mkF m 302 #[iv p1, iv p2, iv p3, iv p4, iv p5, iv p6, iv 3, .val .null, .val .null, iv 1, .unset] [(.ref o_SERVER)])) rfl (hb hby at_302)
    refine ⟨T27, some (.int 1), _, _, _, s.vm, _, X27, ((State.WarmedH.refl s).since 0), (by rw [e27]; exact (Nat.zero_le _)), by decide, by decide, nofun, ?_, own_che e27 (CHr.trans C24 (CHv.at (s := s) X27 hZ (own_ew_237 hw) c23.1)), fun fs hr => castTop (ef_413 m p1 p2 p3 p4 p5 p6) ?_⟩
    · exact ⟨rfl, N22⟩
    · show SS p e below s₁ m 0 #[iv p1, iv p2, iv p3, iv p4, iv p5, iv p6, .unset, .unset, .unset, .unset, .unset] [] _
      refine XS.iloadN X1.here hx rfl (hb hby at_0) rfl ?_
      refine XS.iconst X1.here hx rfl (hb hby at_1) ?_
      show SS p e below s₁ m 2 #[iv p1, iv p2, iv p3, iv p4, iv p5, iv p6, .unset, .unset, .unset, .unset, .unset] [(.int 3), (.int p1)] _
      refine XS.iand X1.here hx rfl (hb hby at_2) rfl ?_
      rw [A]
      show SS p e below s₁ m 3 #[iv p1, iv p2, iv p3, iv p4, iv p5, iv p6, .unset, .unset, .unset, .unset, .unset] [(.int 3)] _
      refine XS.istore X1.here hx rfl (hb hby at_3) rfl (l' := #[iv p1, iv p2, iv p3, iv p4, iv p5, iv p6, iv 3, .unset, .unset, .unset, .unset]) rfl ?_
      refine XS.iload X1.here hx rfl (hb hby at_5) rfl ?_
      refine XS.iconst X1.here hx rfl (hb hby at_7) ?_
      refine XS.icmpNo X1.here hx rfl (hb hby at_8) rfl (teq (by decide : (3 : Int32) = (3 : Int32))).2 ?_
      refine XS.aconstNull X1.here hx rfl (hb hby at_11) ?_
      refine XS.astore X1.here hx rfl (hb hby at_12) rfl rfl (l' := #[iv p1, iv p2, iv p3, iv p4, iv p5, iv p6, iv 3, .val .null, .unset, .unset, .unset]) rfl ?_
      refine XS.goto X1.here hx rfl (pc0 := 14) (pc' := 211) rfl (hb hby at_14) (by decide) (by decide) ?_
      refine XS.aload X1.here hx rfl (hb hby at_211) rfl rfl ?_
      refine XS.ifnonnullNo X1.here hx rfl (hb hby at_213) rfl ?_
      refine XS.aconstNull X1.here hx rfl (hb hby at_216) ?_
      show SS p e below s₁ m 217 #[iv p1, iv p2, iv p3, iv p4, iv p5, iv p6, iv 3, .val .null, .unset, .unset, .unset] [.null] _
      refine XS.astore X1.here hx rfl (hb hby at_217) rfl rfl (l' := #[iv p1, iv p2, iv p3, iv p4, iv p5, iv p6, iv 3, .val .null, .val .null, .unset, .unset]) rfl ?_
      refine XS.goto X1.here hx rfl (pc0 := 219) (pc' := 261) rfl (hb hby at_219) (by decide) (by decide) ?_
      refine XS.aload X1.here hx rfl (hb hby at_261) rfl rfl ?_
      refine st2 _ ?_
      refine XS.aload X2.here hx rfl (hb hby at_266) rfl rfl ?_
      refine Jvm.RoadKit.acmp (g := (mkF m 268 #[iv p1, iv p2, iv p3, iv p4, iv p5, iv p6, iv 3, .val .null, .val .null, .unset, .unset] [.null, .null])) X2 hx rfl rfl rfl (pc0 := 268) (pc' := 271) (same := true) rfl (hb hby at_268) rfl (decide_eq_true rfl) (by decide) (by decide) ?_
      refine XS.iconst X2.here hx rfl (hb hby at_271) ?_
      refine XS.goto X2.here hx rfl (pc0 := 272) (pc' := 276) rfl (hb hby at_272) (by decide) (by decide) ?_
      refine XS.istore X2.here hx rfl (hb hby at_276) rfl (l' := #[iv p1, iv p2, iv p3, iv p4, iv p5, iv p6, iv 3, .val .null, .val .null, iv 1, .unset]) rfl ?_
      refine st8 _ ?_
      show SS p e below T8 m 281 #[iv p1, iv p2, iv p3, iv p4, iv p5, iv p6, iv 3, .val .null, .val .null, iv 1, .unset] [(.ref o_CLIENT)] _
      refine st9 _ ?_
      refine st11 _ ?_
      refine st17 _ ?_
      refine Jvm.RoadKit.acmp (g := (mkF m 290 #[iv p1, iv p2, iv p3, iv p4, iv p5, iv p6, iv 3, .val .null, .val .null, iv 1, .unset] [(.ref o_CLIENT), (.ref o_CLIENT)])) X17 hx rfl rfl rfl (pc0 := 290) (pc' := 293) (same := true) rfl (hb hby at_290) rfl (decide_eq_true rfl) (by decide) (by decide) ?_
      refine st18 _ ?_
      refine st19 _ ?_
      refine st21 _ ?_
      refine st27 _ ?_
      refine Jvm.RoadKit.acmp (g := (mkF m 305 #[iv p1, iv p2, iv p3, iv p4, iv p5, iv p6, iv 3, .val .null, .val .null, iv 1, .unset] [(.ref o_SERVER), (.ref o_SERVER)])) X27 hx rfl rfl rfl (pc0 := 305) (pc' := 308) (same := true) rfl (hb hby at_305) rfl (decide_eq_true rfl) (by decide) (by decide) ?_
      refine XS.iconst X27.here hx rfl (hb hby at_308) ?_
      show SS p e below T27 m 309 #[iv p1, iv p2, iv p3, iv p4, iv p5, iv p6, iv 3, .val .null, .val .null, iv 1, .unset] [(.int 1)] _
      refine XS.goto X27.here hx rfl (pc0 := 309) (pc' := 313) rfl (hb hby at_309) (by decide) (by decide) ?_
      refine XS.istore X27.here hx rfl (hb hby at_313) rfl (l' := #[iv p1, iv p2, iv p3, iv p4, iv p5, iv p6, iv 3, .val .null, .val .null, iv 1, iv 1]) rfl ?_
      refine XS.iload X27.here hx rfl (hb hby at_315) rfl ?_
      refine XS.ifNo X27.here hx rfl (hb hby at_317) rfl ((if0 _ _).trans (feq (by decide : ¬ ((1 : Int32) = (0 : Int32)))).1) ?_
      refine XS.iload X27.here hx rfl (hb hby at_320) rfl ?_
      refine XS.ifNo X27.here hx rfl (hb hby at_322) rfl ((if0 _ _).trans (feq (by decide : ¬ ((1 : Int32) = (0 : Int32)))).1) ?_
      refine XS.iconst X27.here hx rfl (hb hby at_325) ?_
      refine XS.goto X27.here hx rfl (pc0 := 326) (pc' := 330) rfl (hb hby at_326) (by decide) (by decide) ?_
      exact retN X27 hx (t := .boolean) hret (by simp) (hb hby at_330) hr
  · obtain ⟨i2_0, r2_1, r2_2, k2_3, sl2_4, T2, h2, vm2, k2, L2, X2, e2, N2, K2, hS2, hk2, hZ2, hown2, c2, J2_0, J2_1, J2_2, J2_3, J2_4, J2_5, J2_6, J2_7, J2_8, J2_9, st2⟩ : ∃ (i2_0 : Int32) (r2_1 : Addr) (r2_2 : Addr) (k2_3 : ClassId) (sl2_4 : Slot) (T2 : State) (h2 : Heap) (vm2 : Vm) (k2 : Nat) (L2 : List Loc), Stand p l e room_1 (s.setVm vm2) m #[(.int p1), (.int p2), (.int p3), (.int p4), (.int p5), (.int p6)] below meth c T2 L2 3 16 ∧ T2.heap = h2 ∧ Fr n0 L2 ∧ Keep h0 h2 [] ∧ s.Since vm2 k2 ∧ k2 ≤ h2.size ∧ Z.Warmed39 vm2 ∧ vm2.findClass "com/example/duplex/duplex/compliance/SideOfLabelPinLaw" = some m.cls ∧ CHr Z consts_1 s.vm h0 vm2 h2 ∧ h0.size ≤ r2_1 ∧ Safe Z consts_1 vm2 h2 r2_1 ∧ EA14 Z h2 r2_1 ∧ FA11 Z h2 r2_1 (.int 0) ∧ h0.size ≤ r2_2 ∧ Safe Z consts_1 vm2 h2 r2_2 ∧ EA16 Z h2 r2_2 ∧ Arv Z h2 r2_2 k2_3 .byte 6 [(.int ((99 : Int32).toInt8.toInt32)), (.int ((108 : Int32).toInt8.toInt32)), (.int ((105 : Int32).toInt8.toInt32)), (.int ((101 : Int32).toInt8.toInt32)), (.int ((110 : Int32).toInt8.toInt32)), (.int ((116 : Int32).toInt8.toInt32))] (.int 0) ∧ FA12 Z h2 r2_1 (.ref r2_2) ∧ (sl2_4 = Slot.unset ∨ ∃ a : Addr, sl2_4 = rv a) ∧ ∀ t, SS p e below T2 m 211 #[iv p1, iv p2, iv p3, iv p4, iv p5, iv p6, iv i2_0, rv r2_1, sl2_4, .unset, .unset] [] t → SS p e below s₁ m 0 #[iv p1, iv p2, iv p3, iv p4, iv p5, iv p6, .unset, .unset, .unset, .unset, .unset] [] t := by
      rcases A with ⟨qm, qn, q0, q1, q2, q3, q4, q5⟩ | ⟨qm, qr⟩
      · obtain ⟨_, T3, L3, X3, hQ3, st3⟩ := own_cs X1 hx hZ hown hml (W 0 rfl) (W 1 rfl) (W 2 rfl) (W 3 rfl) (rm15_str l Z a0 hw (99 : Int32) (108 : Int32) (105 : Int32) (101 : Int32) (110 : Int32) (116 : Int32) ((us16 p3) &&& (255 : Int32)) o_COMPACT_STRINGS h0 n0 O0 ((by decide)) ((by decide)) ((by decide)) ((by decide)) ((by decide)) ((by decide)) (S_o_COMPACT_STRINGS) (nz_o_COMPACT_STRINGS) ((by decide : ¬ ((255 : Int32) < (99 : Int32)))) ((by decide : ¬ ((255 : Int32) < (108 : Int32)))) ((by decide : ¬ ((255 : Int32) < (105 : Int32)))) ((by decide : ¬ ((255 : Int32) < (101 : Int32)))) ((by decide : ¬ ((255 : Int32) < (110 : Int32)))) ((by decide : ¬ ((255 : Int32) < (116 : Int32))))) e0 (hb hby at_84) 0 #[iv p1, iv p2, iv p3, iv p4, iv p5, iv p6, iv 0, .unset, .unset, .unset, .unset] [(.int 6), (.int 99), (.int 108), (.int 105), (.int 101), (.int 110), (.int 116), (.int ((us16 p3) &&& (255 : Int32)))] [] pd_235
        obtain ⟨b3_0, b3_1, k3_0, rfl, N3q, K3, gb3_0, gb3_1, F3_0, F3_1, F3_2, F3_3, F3_4⟩ := hQ3
        have N4 := Fr.app N0 N3q
        have c5 := CHr.keep K3 sf0 H0
        have C6 := CHr.trans (CHr.refl H0) c5
        have O7 := O0.keep K3 all0
        have K8 : Keep h0 T3.heap [] := Keep.trans (Keep.refl h0 []) K3 all0
        have f9 := (Safe.keep K3 sf0 H0 (Safe.new gb3_0))
        have f10 := (Safe.keep K3 sf0 H0 (Safe.new gb3_1))
        refine ⟨(0 : Int32), b3_0, b3_1, k3_0, .unset, T3, T3.heap, s.vm, _, _, X3.more (by decide) (by decide), rfl, N4, K8, ((State.WarmedH.refl s).since 0), (Nat.zero_le _), hZ, hown, C6, gb3_0, f9, F3_0, F3_1, gb3_1, f10, F3_4, F3_3, F3_2, (Or.inl rfl), fun t qt => ?_⟩
        show SS p e below s₁ m 0 #[iv p1, iv p2, iv p3, iv p4, iv p5, iv p6, .unset, .unset, .unset, .unset, .unset] [] _
        refine XS.iloadN X1.here hx rfl (hb hby at_0) rfl ?_
        refine XS.iconst X1.here hx rfl (hb hby at_1) ?_
        show SS p e below s₁ m 2 #[iv p1, iv p2, iv p3, iv p4, iv p5, iv p6, .unset, .unset, .unset, .unset, .unset] [(.int 3), (.int p1)] _
        refine XS.iand X1.here hx rfl (hb hby at_2) rfl ?_
        rw [qm]
        show SS p e below s₁ m 3 #[iv p1, iv p2, iv p3, iv p4, iv p5, iv p6, .unset, .unset, .unset, .unset, .unset] [(.int 0)] _
        refine XS.istore X1.here hx rfl (hb hby at_3) rfl (l' := #[iv p1, iv p2, iv p3, iv p4, iv p5, iv p6, iv 0, .unset, .unset, .unset, .unset]) rfl ?_
        refine XS.iload X1.here hx rfl (hb hby at_5) rfl ?_
        refine XS.iconst X1.here hx rfl (hb hby at_7) ?_
        refine XS.icmpYes X1.here hx rfl (pc0 := 8) (pc' := 17) rfl (hb hby at_8) rfl (feq (by decide : ¬ ((0 : Int32) = (3 : Int32)))).2 (by decide) (by decide) ?_
        refine XS.iload X1.here hx rfl (hb hby at_17) rfl ?_
        refine XS.ifNo X1.here hx rfl (hb hby at_19) rfl ((if0 _ _).trans (teq (by decide : (0 : Int32) = (0 : Int32))).2) ?_
        refine XS.iload X1.here hx rfl (hb hby at_22) rfl ?_
        refine XS.bipush X1.here hx rfl (hb hby at_24) ?_
        show SS p e below s₁ m 26 #[iv p1, iv p2, iv p3, iv p4, iv p5, iv p6, iv 0, .unset, .unset, .unset, .unset] [(.int 7), (.int p6)] _
        refine XS.iand X1.here hx rfl (hb hby at_26) rfl ?_
        rw [qn]
        show SS p e below s₁ m 27 #[iv p1, iv p2, iv p3, iv p4, iv p5, iv p6, iv 0, .unset, .unset, .unset, .unset] [(.int 6)] _
        refine XS.iloadN X1.here hx rfl (hb hby at_27) rfl ?_
        refine XS.sipush X1.here hx rfl (hb hby at_28) ?_
        show SS p e below s₁ m 31 #[iv p1, iv p2, iv p3, iv p4, iv p5, iv p6, iv 0, .unset, .unset, .unset, .unset] [(.int 255), (.int p2), (.int 6)] _
        refine XS.iand X1.here hx rfl (hb hby at_31) rfl ?_
        rw [q0]
        show SS p e below s₁ m 32 #[iv p1, iv p2, iv p3, iv p4, iv p5, iv p6, iv 0, .unset, .unset, .unset, .unset] [(.int 99), (.int 6)] _
        refine XS.i2c X1.here hx rfl (hb hby at_32) rfl ?_
        show SS p e below s₁ m 33 #[iv p1, iv p2, iv p3, iv p4, iv p5, iv p6, iv 0, .unset, .unset, .unset, .unset] [(.int 99), (.int 6)] _
        refine XS.iloadN X1.here hx rfl (hb hby at_33) rfl ?_
        refine XS.bipush X1.here hx rfl (hb hby at_34) ?_
        show SS p e below s₁ m 36 #[iv p1, iv p2, iv p3, iv p4, iv p5, iv p6, iv 0, .unset, .unset, .unset, .unset] [(.int 8), (.int p2), (.int 99), (.int 6)] _
        refine XS.iushr X1.here hx rfl (hb hby at_36) rfl ?_
        show SS p e below s₁ m 37 #[iv p1, iv p2, iv p3, iv p4, iv p5, iv p6, iv 0, .unset, .unset, .unset, .unset] [(.int (us8 p2)), (.int 99), (.int 6)] _
        refine XS.sipush X1.here hx rfl (hb hby at_37) ?_
        show SS p e below s₁ m 40 #[iv p1, iv p2, iv p3, iv p4, iv p5, iv p6, iv 0, .unset, .unset, .unset, .unset] [(.int 255), (.int (us8 p2)), (.int 99), (.int 6)] _
        refine XS.iand X1.here hx rfl (hb hby at_40) rfl ?_
        rw [q1]
        show SS p e below s₁ m 41 #[iv p1, iv p2, iv p3, iv p4, iv p5, iv p6, iv 0, .unset, .unset, .unset, .unset] [(.int 108), (.int 99), (.int 6)] _
        refine XS.i2c X1.here hx rfl (hb hby at_41) rfl ?_
        show SS p e below s₁ m 42 #[iv p1, iv p2, iv p3, iv p4, iv p5, iv p6, iv 0, .unset, .unset, .unset, .unset] [(.int 108), (.int 99), (.int 6)] _
        refine XS.iloadN X1.here hx rfl (hb hby at_42) rfl ?_
        refine XS.bipush X1.here hx rfl (hb hby at_43) ?_
        show SS p e below s₁ m 45 #[iv p1, iv p2, iv p3, iv p4, iv p5, iv p6, iv 0, .unset, .unset, .unset, .unset] [(.int 16), (.int p2), (.int 108), (.int 99), (.int 6)] _
        refine XS.iushr X1.here hx rfl (hb hby at_45) rfl ?_
        show SS p e below s₁ m 46 #[iv p1, iv p2, iv p3, iv p4, iv p5, iv p6, iv 0, .unset, .unset, .unset, .unset] [(.int (us16 p2)), (.int 108), (.int 99), (.int 6)] _
        refine XS.sipush X1.here hx rfl (hb hby at_46) ?_
        show SS p e below s₁ m 49 #[iv p1, iv p2, iv p3, iv p4, iv p5, iv p6, iv 0, .unset, .unset, .unset, .unset] [(.int 255), (.int (us16 p2)), (.int 108), (.int 99), (.int 6)] _
        refine XS.iand X1.here hx rfl (hb hby at_49) rfl ?_
        rw [q2]
        show SS p e below s₁ m 50 #[iv p1, iv p2, iv p3, iv p4, iv p5, iv p6, iv 0, .unset, .unset, .unset, .unset] [(.int 105), (.int 108), (.int 99), (.int 6)] _
        refine XS.i2c X1.here hx rfl (hb hby at_50) rfl ?_
        show SS p e below s₁ m 51 #[iv p1, iv p2, iv p3, iv p4, iv p5, iv p6, iv 0, .unset, .unset, .unset, .unset] [(.int 105), (.int 108), (.int 99), (.int 6)] _
        refine XS.iloadN X1.here hx rfl (hb hby at_51) rfl ?_
        refine XS.bipush X1.here hx rfl (hb hby at_52) ?_
        show SS p e below s₁ m 54 #[iv p1, iv p2, iv p3, iv p4, iv p5, iv p6, iv 0, .unset, .unset, .unset, .unset] [(.int 24), (.int p2), (.int 105), (.int 108), (.int 99), (.int 6)] _
        refine XS.iushr X1.here hx rfl (hb hby at_54) rfl ?_
        show SS p e below s₁ m 55 #[iv p1, iv p2, iv p3, iv p4, iv p5, iv p6, iv 0, .unset, .unset, .unset, .unset] [(.int (us24 p2)), (.int 105), (.int 108), (.int 99), (.int 6)] _
        refine XS.sipush X1.here hx rfl (hb hby at_55) ?_
        show SS p e below s₁ m 58 #[iv p1, iv p2, iv p3, iv p4, iv p5, iv p6, iv 0, .unset, .unset, .unset, .unset] [(.int 255), (.int (us24 p2)), (.int 105), (.int 108), (.int 99), (.int 6)] _
        refine XS.iand X1.here hx rfl (hb hby at_58) rfl ?_
        rw [q3]
        show SS p e below s₁ m 59 #[iv p1, iv p2, iv p3, iv p4, iv p5, iv p6, iv 0, .unset, .unset, .unset, .unset] [(.int 101), (.int 105), (.int 108), (.int 99), (.int 6)] _
        refine XS.i2c X1.here hx rfl (hb hby at_59) rfl ?_
        show SS p e below s₁ m 60 #[iv p1, iv p2, iv p3, iv p4, iv p5, iv p6, iv 0, .unset, .unset, .unset, .unset] [(.int 101), (.int 105), (.int 108), (.int 99), (.int 6)] _
        refine XS.iloadN X1.here hx rfl (hb hby at_60) rfl ?_
        refine XS.sipush X1.here hx rfl (hb hby at_61) ?_
        show SS p e below s₁ m 64 #[iv p1, iv p2, iv p3, iv p4, iv p5, iv p6, iv 0, .unset, .unset, .unset, .unset] [(.int 255), (.int p3), (.int 101), (.int 105), (.int 108), (.int 99), (.int 6)] _
        refine XS.iand X1.here hx rfl (hb hby at_64) rfl ?_
        rw [q4]
        show SS p e below s₁ m 65 #[iv p1, iv p2, iv p3, iv p4, iv p5, iv p6, iv 0, .unset, .unset, .unset, .unset] [(.int 110), (.int 101), (.int 105), (.int 108), (.int 99), (.int 6)] _
        refine XS.i2c X1.here hx rfl (hb hby at_65) rfl ?_
        show SS p e below s₁ m 66 #[iv p1, iv p2, iv p3, iv p4, iv p5, iv p6, iv 0, .unset, .unset, .unset, .unset] [(.int 110), (.int 101), (.int 105), (.int 108), (.int 99), (.int 6)] _
        refine XS.iloadN X1.here hx rfl (hb hby at_66) rfl ?_
        refine XS.bipush X1.here hx rfl (hb hby at_67) ?_
        show SS p e below s₁ m 69 #[iv p1, iv p2, iv p3, iv p4, iv p5, iv p6, iv 0, .unset, .unset, .unset, .unset] [(.int 8), (.int p3), (.int 110), (.int 101), (.int 105), (.int 108), (.int 99), (.int 6)] _
        refine XS.iushr X1.here hx rfl (hb hby at_69) rfl ?_
        show SS p e below s₁ m 70 #[iv p1, iv p2, iv p3, iv p4, iv p5, iv p6, iv 0, .unset, .unset, .unset, .unset] [(.int (us8 p3)), (.int 110), (.int 101), (.int 105), (.int 108), (.int 99), (.int 6)] _
        refine XS.sipush X1.here hx rfl (hb hby at_70) ?_
        show SS p e below s₁ m 73 #[iv p1, iv p2, iv p3, iv p4, iv p5, iv p6, iv 0, .unset, .unset, .unset, .unset] [(.int 255), (.int (us8 p3)), (.int 110), (.int 101), (.int 105), (.int 108), (.int 99), (.int 6)] _
        refine XS.iand X1.here hx rfl (hb hby at_73) rfl ?_
        rw [q5]
        show SS p e below s₁ m 74 #[iv p1, iv p2, iv p3, iv p4, iv p5, iv p6, iv 0, .unset, .unset, .unset, .unset] [(.int 116), (.int 110), (.int 101), (.int 105), (.int 108), (.int 99), (.int 6)] _
        refine XS.i2c X1.here hx rfl (hb hby at_74) rfl ?_
        show SS p e below s₁ m 75 #[iv p1, iv p2, iv p3, iv p4, iv p5, iv p6, iv 0, .unset, .unset, .unset, .unset] [(.int 116), (.int 110), (.int 101), (.int 105), (.int 108), (.int 99), (.int 6)] _
        refine XS.iloadN X1.here hx rfl (hb hby at_75) rfl ?_
        refine XS.bipush X1.here hx rfl (hb hby at_76) ?_
        show SS p e below s₁ m 78 #[iv p1, iv p2, iv p3, iv p4, iv p5, iv p6, iv 0, .unset, .unset, .unset, .unset] [(.int 16), (.int p3), (.int 116), (.int 110), (.int 101), (.int 105), (.int 108), (.int 99), (.int 6)] _
        refine XS.iushr X1.here hx rfl (hb hby at_78) rfl ?_
        show SS p e below s₁ m 79 #[iv p1, iv p2, iv p3, iv p4, iv p5, iv p6, iv 0, .unset, .unset, .unset, .unset] [(.int (us16 p3)), (.int 116), (.int 110), (.int 101), (.int 105), (.int 108), (.int 99), (.int 6)] _
        refine XS.sipush X1.here hx rfl (hb hby at_79) ?_
        refine XS.iand X1.here hx rfl (hb hby at_82) rfl ?_
        show SS p e below s₁ m 83 #[iv p1, iv p2, iv p3, iv p4, iv p5, iv p6, iv 0, .unset, .unset, .unset, .unset] [(.int ((us16 p3) &&& (255 : Int32))), (.int 116), (.int 110), (.int 101), (.int 105), (.int 108), (.int 99), (.int 6)] _
        refine XS.i2c X1.here hx rfl (hb hby at_83) rfl ?_
        rw [(i2c_mask (us16 p3))]
        show SS p e below s₁ m 84 #[iv p1, iv p2, iv p3, iv p4, iv p5, iv p6, iv 0, .unset, .unset, .unset, .unset] [(.int ((us16 p3) &&& (255 : Int32))), (.int 116), (.int 110), (.int 101), (.int 105), (.int 108), (.int 99), (.int 6)] _
        refine st3 _ ?_
        refine XS.astore X3.here hx rfl (hb hby at_87) rfl rfl (l' := #[iv p1, iv p2, iv p3, iv p4, iv p5, iv p6, iv 0, rv b3_0, .unset, .unset, .unset]) rfl ?_
        refine XS.goto X3.here hx rfl (pc0 := 89) (pc' := 211) rfl (hb hby at_89) (by decide) (by decide) ?_
        exact qt
      · obtain ⟨T3, h3, k3, X3, e3, E3, A3, B3, st3⟩ := newPE X1 hx hZ (W 7 rfl) e0 (g := (mkF m 100 #[iv p1, iv p2, iv p3, iv p4, iv p5, iv p6, iv 1, .unset, .unset, .unset, .unset] [(.int 6)])) rfl (hb hby at_100) rfl (by decide) (cap := 6) (by decide) (by decide) (by decide) (by decide) (ad := "[C") rfl
        obtain ⟨b3, g3⟩ : ∃ z, z = h0.size := ⟨_, rfl⟩
        rw [← g3] at A3 B3 st3
        have c4 := CHr.ext E3 H0
        have C5 := CHr.trans (CHr.refl H0) c4
        have O6 := O0.ext E3
        have K7 : Keep h0 h3 [] := Keep.ext (Keep.refl h0 []) E3
        have v8 : Arv Z h3 b3 k3 .char 6 [(.int 0), (.int 0), (.int 0), (.int 0), (.int 0), (.int 0)] (.int 0) := (Arv.new A3 (by decide)).pad (pad_rep [] (.int 0) 6)
        obtain ⟨c9, A9, q9, S9, N9, H9, G9⟩ := id v8
        have i10 : NB 0 c9 := inb_of S9 (by decide)
        obtain ⟨T10, h10, X10, e10, W10, st10⟩ := stC X3 hx hZ e3 A9 (j := 0) i10 (g := (mkF m 106 #[iv p1, iv p2, iv p3, iv p4, iv p5, iv p6, iv 1, .unset, .unset, .unset, .unset] [(.int 99), (.int 0), (.ref b3), (.ref b3)])) rfl rfl (hb hby at_106)
        have s11 := Safe.exa (EL := consts_1) hZ.alike B3 (by decide) (by decide)
        have c12 := CHr.wr W10 s11 c4.1
        have C13 := CHr.trans C5 c12
        have g14 : n0 ≤ b3 := Nat.le_trans (Nat.le_trans (Nat.le_of_eq O0.1.symm) O0.2.1) (Nat.le_of_eq g3.symm)
        have O15 := O6.wr W10 g14
        have K16 : Keep h0 h10 [] := Keep.wr K7 W10 (Or.inr (Nat.le_of_eq g3.symm))
        have v17 : Arv Z h10 b3 k3 .char 6 [(.int 99), (.int 0), (.int 0), (.int 0), (.int 0), (.int 0)] (.int 0) := Arv.set A9 q9 S9 N9 H9 G9 (fits_nar_char _) W10 0 rfl (Nat.le_of_ble_eq_true rfl)
        have N18 := Fr.snoc X10 N0 g14
        obtain ⟨c19, A19, q19, S19, N19, H19, G19⟩ := id v17
        have i20 : NB 1 c19 := inb_of S19 (by decide)
        obtain ⟨T20, h20, X20, e20, W20, st20⟩ := stC X10 hx hZ e10 A19 (j := 1) i20 (g := (mkF m 111 #[iv p1, iv p2, iv p3, iv p4, iv p5, iv p6, iv 1, .unset, .unset, .unset, .unset] [(.int 108), (.int 1), (.ref b3), (.ref b3)])) rfl rfl (hb hby at_111)
        have f21 := (B3.wr W10)
        have s22 := Safe.exa (EL := consts_1) hZ.alike f21 (by decide) (by decide)
        have c23 := CHr.wr W20 s22 c12.1
        have C24 := CHr.trans C13 c23
        have O25 := O15.wr W20 g14
        have K26 : Keep h0 h20 [] := Keep.wr K16 W20 (Or.inr (Nat.le_of_eq g3.symm))
        have v27 : Arv Z h20 b3 k3 .char 6 [(.int 99), (.int 108), (.int 0), (.int 0), (.int 0), (.int 0)] (.int 0) := Arv.set A19 q19 S19 N19 H19 G19 (fits_nar_char _) W20 1 rfl (Nat.le_of_ble_eq_true rfl)
        have N28 := Fr.snoc X20 N18 g14
        obtain ⟨c29, A29, q29, S29, N29, H29, G29⟩ := id v27
        have i30 : NB 2 c29 := inb_of S29 (by decide)
        obtain ⟨T30, h30, X30, e30, W30, st30⟩ := stC X20 hx hZ e20 A29 (j := 2) i30 (g := (mkF m 116 #[iv p1, iv p2, iv p3, iv p4, iv p5, iv p6, iv 1, .unset, .unset, .unset, .unset] [(.int 105), (.int 2), (.ref b3), (.ref b3)])) rfl rfl (hb hby at_116)
        have f31 := (f21.wr W20)
        have s32 := Safe.exa (EL := consts_1) hZ.alike f31 (by decide) (by decide)
        have c33 := CHr.wr W30 s32 c23.1
        have C34 := CHr.trans C24 c33
        have O35 := O25.wr W30 g14
        have K36 : Keep h0 h30 [] := Keep.wr K26 W30 (Or.inr (Nat.le_of_eq g3.symm))
        have v37 : Arv Z h30 b3 k3 .char 6 [(.int 99), (.int 108), (.int 105), (.int 0), (.int 0), (.int 0)] (.int 0) := Arv.set A29 q29 S29 N29 H29 G29 (fits_nar_char _) W30 2 rfl (Nat.le_of_ble_eq_true rfl)
        have N38 := Fr.snoc X30 N28 g14
        obtain ⟨c39, A39, q39, S39, N39, H39, G39⟩ := id v37
        have i40 : NB 3 c39 := inb_of S39 (by decide)
        obtain ⟨T40, h40, X40, e40, W40, st40⟩ := stC X30 hx hZ e30 A39 (j := 3) i40 (g := (mkF m 121 #[iv p1, iv p2, iv p3, iv p4, iv p5, iv p6, iv 1, .unset, .unset, .unset, .unset] [(.int 101), (.int 3), (.ref b3), (.ref b3)])) rfl rfl (hb hby at_121)
        have f41 := (f31.wr W30)
        have s42 := Safe.exa (EL := consts_1) hZ.alike f41 (by decide) (by decide)
        have c43 := CHr.wr W40 s42 c33.1
        have C44 := CHr.trans C34 c43
        have O45 := O35.wr W40 g14
        have K46 : Keep h0 h40 [] := Keep.wr K36 W40 (Or.inr (Nat.le_of_eq g3.symm))
        have v47 : Arv Z h40 b3 k3 .char 6 [(.int 99), (.int 108), (.int 105), (.int 101), (.int 0), (.int 0)] (.int 0) := Arv.set A39 q39 S39 N39 H39 G39 (fits_nar_char _) W40 3 rfl (Nat.le_of_ble_eq_true rfl)
        have N48 := Fr.snoc X40 N38 g14
        obtain ⟨c49, A49, q49, S49, N49, H49, G49⟩ := id v47
        have i50 : NB 4 c49 := inb_of S49 (by decide)
        obtain ⟨T50, h50, X50, e50, W50, st50⟩ := stC X40 hx hZ e40 A49 (j := 4) i50 (g := (mkF m 126 #[iv p1, iv p2, iv p3, iv p4, iv p5, iv p6, iv 1, .unset, .unset, .unset, .unset] [(.int 110), (.int 4), (.ref b3), (.ref b3)])) rfl rfl (hb hby at_126)
        have f51 := (f41.wr W40)
        have s52 := Safe.exa (EL := consts_1) hZ.alike f51 (by decide) (by decide)
        have c53 := CHr.wr W50 s52 c43.1
        have C54 := CHr.trans C44 c53
        have O55 := O45.wr W50 g14
        have K56 : Keep h0 h50 [] := Keep.wr K46 W50 (Or.inr (Nat.le_of_eq g3.symm))
        have v57 : Arv Z h50 b3 k3 .char 6 [(.int 99), (.int 108), (.int 105), (.int 101), (.int 110), (.int 0)] (.int 0) := Arv.set A49 q49 S49 N49 H49 G49 (fits_nar_char _) W50 4 rfl (Nat.le_of_ble_eq_true rfl)
        have N58 := Fr.snoc X50 N48 g14
        obtain ⟨c59, A59, q59, S59, N59, H59, G59⟩ := id v57
        have i60 : NB 5 c59 := inb_of S59 (by decide)
        obtain ⟨T60, h60, X60, e60, W60, st60⟩ := stC X50 hx hZ e50 A59 (j := 5) i60 (g := (mkF m 131 #[iv p1, iv p2, iv p3, iv p4, iv p5, iv p6, iv 1, .unset, .unset, .unset, .unset] [(.int 116), (.int 5), (.ref b3), (.ref b3)])) rfl rfl (hb hby at_131)
        have f61 := (f51.wr W50)
        have s62 := Safe.exa (EL := consts_1) hZ.alike f61 (by decide) (by decide)
        have c63 := CHr.wr W60 s62 c53.1
        have C64 := CHr.trans C54 c63
        have O65 := O55.wr W60 g14
        have K66 : Keep h0 h60 [] := Keep.wr K56 W60 (Or.inr (Nat.le_of_eq g3.symm))
        have v67 : Arv Z h60 b3 k3 .char 6 [(.int 99), (.int 108), (.int 105), (.int 101), (.int 110), (.int 116)] (.int 0) := Arv.set A59 q59 S59 N59 H59 G59 (fits_nar_char _) W60 5 rfl (Nat.le_of_ble_eq_true rfl)
        have N68 := Fr.snoc X60 N58 g14
        obtain ⟨T69, h69, vm69, k69, L69, X69, e69, N69, K69, hS69, hk69, hZ69, hown69, c69, J69_0, st69⟩ : ∃ (T69 : State) (h69 : Heap) (vm69 : Vm) (k69 : Nat) (L69 : List Loc), Stand p l e room_1 (s.setVm vm69) m #[(.int p1), (.int p2), (.int p3), (.int p4), (.int p5), (.int p6)] below meth c T69 L69 1 6 ∧ T69.heap = h69 ∧ Fr n0 L69 ∧ Keep h60 h69 [b3] ∧ s.Since vm69 k69 ∧ k69 ≤ h69.size ∧ Z.Warmed39 vm69 ∧ vm69.findClass "com/example/duplex/duplex/compliance/SideOfLabelPinLaw" = some m.cls ∧ CHr Z consts_1 s.vm h60 vm69 h69 ∧ Arv Z h69 b3 k3 .char 6 [(.int 99), (.int 108), (.int 105), (.int 101), (.int 110), (.int 116)] (.int 0) ∧ ∀ t, SS p e below T69 m 200 #[iv p1, iv p2, iv p3, iv p4, iv p5, iv p6, iv 1, .unset, rv b3, .unset, .unset] [] t → SS p e below T60 m 173 #[iv p1, iv p2, iv p3, iv p4, iv p5, iv p6, iv 1, .unset, rv b3, .unset, .unset] [] t := by
          rcases qr with qb | ⟨qb, qq, qc⟩ | ⟨qb, qq, qc⟩ | ⟨qb, qq, qc⟩ | ⟨qb, qq, qc⟩ | ⟨qb, qq, qc⟩ | ⟨qb, qq, qc⟩
          · refine ⟨T60, h60, s.vm, _, _, X60.more (by decide) (by decide), e60, N68, (Keep.refl h60 [b3]), ((State.WarmedH.refl s).since 0), (Nat.zero_le _), hZ, hown, (CHr.refl c63.1), v67, fun t qt => ?_⟩
            show SS p e below T60 m 173 #[iv p1, iv p2, iv p3, iv p4, iv p5, iv p6, iv 1, .unset, rv b3, .unset, .unset] [] _
            refine XS.iload X60.here hx rfl (hb hby at_173) rfl ?_
            refine XS.bipush X60.here hx rfl (hb hby at_175) ?_
            show SS p e below T60 m 177 #[iv p1, iv p2, iv p3, iv p4, iv p5, iv p6, iv 1, .unset, rv b3, .unset, .unset] [(.int 8), (.int p5)] _
            refine XS.iushr X60.here hx rfl (hb hby at_177) rfl ?_
            show SS p e below T60 m 178 #[iv p1, iv p2, iv p3, iv p4, iv p5, iv p6, iv 1, .unset, rv b3, .unset, .unset] [(.int (us8 p5))] _
            refine XS.iconst X60.here hx rfl (hb hby at_178) ?_
            show SS p e below T60 m 179 #[iv p1, iv p2, iv p3, iv p4, iv p5, iv p6, iv 1, .unset, rv b3, .unset, .unset] [(.int 1), (.int (us8 p5))] _
            refine XS.iand X60.here hx rfl (hb hby at_179) rfl ?_
            rw [qb]
            show SS p e below T60 m 180 #[iv p1, iv p2, iv p3, iv p4, iv p5, iv p6, iv 1, .unset, rv b3, .unset, .unset] [(.int 0)] _
            refine XS.ifYes X60.here hx rfl (pc0 := 180) (pc' := 200) rfl (hb hby at_180) rfl ((if0 _ _).trans (teq (by decide : (0 : Int32) = (0 : Int32))).1) (by decide) (by decide) ?_
            exact qt
          · obtain ⟨c70, A70, q70, S70, N70, H70, G70⟩ := id v67
            have i71 : NB 0 c70 := inb_of S70 (by decide)
            obtain ⟨T71, h71, X71, e71, W71, st71⟩ := stC X60 hx hZ e60 A70 (j := 0) i71 (g := (mkF m 199 #[iv p1, iv p2, iv p3, iv p4, iv p5, iv p6, iv 1, .unset, rv b3, .unset, .unset] [(.int 99), (.int 0), (.ref b3)])) rfl rfl (hb hby at_199)
            have f72 := (f61.wr W60)
            have s73 := Safe.exa (EL := consts_1) hZ.alike f72 (by decide) (by decide)
            have c74 := CHr.wr W71 s73 c63.1
            have C75 := CHr.trans (CHr.refl c63.1) c74
            have O76 := O65.wr W71 g14
            have K77 : Keep h60 h71 [b3] := Keep.wr (Keep.refl h60 [b3]) W71 (Or.inl (List.mem_of_getElem? (i := 0) rfl))
            have v78 : Arv Z h71 b3 k3 .char 6 [(.int 99), (.int 108), (.int 105), (.int 101), (.int 110), (.int 116)] (.int 0) := Arv.set A70 q70 S70 N70 H70 G70 (fits_nar_char _) W71 0 rfl (Nat.le_of_ble_eq_true rfl)
            have N79 := Fr.snoc X71 N68 g14
            refine ⟨T71, h71, s.vm, _, _, X71.more (by decide) (by decide), e71, N79, K77, ((State.WarmedH.refl s).since 0), (Nat.zero_le _), hZ, hown, C75, v78, fun t qt => ?_⟩
            show SS p e below T60 m 173 #[iv p1, iv p2, iv p3, iv p4, iv p5, iv p6, iv 1, .unset, rv b3, .unset, .unset] [] _
            refine XS.iload X60.here hx rfl (hb hby at_173) rfl ?_
            refine XS.bipush X60.here hx rfl (hb hby at_175) ?_
            show SS p e below T60 m 177 #[iv p1, iv p2, iv p3, iv p4, iv p5, iv p6, iv 1, .unset, rv b3, .unset, .unset] [(.int 8), (.int p5)] _
            refine XS.iushr X60.here hx rfl (hb hby at_177) rfl ?_
            show SS p e below T60 m 178 #[iv p1, iv p2, iv p3, iv p4, iv p5, iv p6, iv 1, .unset, rv b3, .unset, .unset] [(.int (us8 p5))] _
            refine XS.iconst X60.here hx rfl (hb hby at_178) ?_
            show SS p e below T60 m 179 #[iv p1, iv p2, iv p3, iv p4, iv p5, iv p6, iv 1, .unset, rv b3, .unset, .unset] [(.int 1), (.int (us8 p5))] _
            refine XS.iand X60.here hx rfl (hb hby at_179) rfl ?_
            rw [qb]
            show SS p e below T60 m 180 #[iv p1, iv p2, iv p3, iv p4, iv p5, iv p6, iv 1, .unset, rv b3, .unset, .unset] [(.int 1)] _
            refine XS.ifNo X60.here hx rfl (hb hby at_180) rfl ((if0 _ _).trans (feq (by decide : ¬ ((1 : Int32) = (0 : Int32)))).1) ?_
            refine XS.aload X60.here hx rfl (hb hby at_183) rfl rfl ?_
            refine XS.iloadN X60.here hx rfl (hb hby at_185) rfl ?_
            refine X60.ldcInt hx hown (mvT hZ (W 79 rfl)) (g := (mkF m 186 #[iv p1, iv p2, iv p3, iv p4, iv p5, iv p6, iv 1, .unset, rv b3, .unset, .unset] [(.int p4), (.ref b3)])) rfl (hb hby at_186) _ ?_
            show SS p e below T60 m 188 #[iv p1, iv p2, iv p3, iv p4, iv p5, iv p6, iv 1, .unset, rv b3, .unset, .unset] [(.int 2147483647), (.int p4), (.ref b3)] _
            refine XS.iand X60.here hx rfl (hb hby at_188) rfl ?_
            show SS p e below T60 m 189 #[iv p1, iv p2, iv p3, iv p4, iv p5, iv p6, iv 1, .unset, rv b3, .unset, .unset] [(.int (p4 &&& (2147483647 : Int32))), (.ref b3)] _
            refine XS.bipush X60.here hx rfl (hb hby at_189) ?_
            show SS p e below T60 m 191 #[iv p1, iv p2, iv p3, iv p4, iv p5, iv p6, iv 1, .unset, rv b3, .unset, .unset] [(.int 6), (.int (p4 &&& (2147483647 : Int32))), (.ref b3)] _
            refine iremM (g := (mkF m 191 #[iv p1, iv p2, iv p3, iv p4, iv p5, iv p6, iv 1, .unset, rv b3, .unset, .unset] [(.int 6), (.int (p4 &&& (2147483647 : Int32))), (.ref b3)])) X60 hx rfl (hb hby at_191) rfl (by decide : ¬ ((6 : Int32) = (0 : Int32))) ?_
            rw [qq]
            show SS p e below T60 m 192 #[iv p1, iv p2, iv p3, iv p4, iv p5, iv p6, iv 1, .unset, rv b3, .unset, .unset] [(.int 0), (.ref b3)] _
            refine XS.iload X60.here hx rfl (hb hby at_192) rfl ?_
            refine XS.sipush X60.here hx rfl (hb hby at_194) ?_
            show SS p e below T60 m 197 #[iv p1, iv p2, iv p3, iv p4, iv p5, iv p6, iv 1, .unset, rv b3, .unset, .unset] [(.int 255), (.int p5), (.int 0), (.ref b3)] _
            refine XS.iand X60.here hx rfl (hb hby at_197) rfl ?_
            rw [qc]
            show SS p e below T60 m 198 #[iv p1, iv p2, iv p3, iv p4, iv p5, iv p6, iv 1, .unset, rv b3, .unset, .unset] [(.int 99), (.int 0), (.ref b3)] _
            refine XS.i2c X60.here hx rfl (hb hby at_198) rfl ?_
            show SS p e below T60 m 199 #[iv p1, iv p2, iv p3, iv p4, iv p5, iv p6, iv 1, .unset, rv b3, .unset, .unset] [(.int 99), (.int 0), (.ref b3)] _
            refine st71 _ ?_
            exact qt
          · obtain ⟨c70, A70, q70, S70, N70, H70, G70⟩ := id v67
            have i71 : NB 1 c70 := inb_of S70 (by decide)
            obtain ⟨T71, h71, X71, e71, W71, st71⟩ := stC X60 hx hZ e60 A70 (j := 1) i71 (g := (mkF m 199 #[iv p1, iv p2, iv p3, iv p4, iv p5, iv p6, iv 1, .unset, rv b3, .unset, .unset] [(.int 108), (.int 1), (.ref b3)])) rfl rfl (hb hby at_199)
            have f72 := (f61.wr W60)
            have s73 := Safe.exa (EL := consts_1) hZ.alike f72 (by decide) (by decide)
            have c74 := CHr.wr W71 s73 c63.1
            have C75 := CHr.trans (CHr.refl c63.1) c74
            have O76 := O65.wr W71 g14
            have K77 : Keep h60 h71 [b3] := Keep.wr (Keep.refl h60 [b3]) W71 (Or.inl (List.mem_of_getElem? (i := 0) rfl))
            have v78 : Arv Z h71 b3 k3 .char 6 [(.int 99), (.int 108), (.int 105), (.int 101), (.int 110), (.int 116)] (.int 0) := Arv.set A70 q70 S70 N70 H70 G70 (fits_nar_char _) W71 1 rfl (Nat.le_of_ble_eq_true rfl)
            have N79 := Fr.snoc X71 N68 g14
            refine ⟨T71, h71, s.vm, _, _, X71.more (by decide) (by decide), e71, N79, K77, ((State.WarmedH.refl s).since 0), (Nat.zero_le _), hZ, hown, C75, v78, fun t qt => ?_⟩
            show SS p e below T60 m 173 #[iv p1, iv p2, iv p3, iv p4, iv p5, iv p6, iv 1, .unset, rv b3, .unset, .unset] [] _
            refine XS.iload X60.here hx rfl (hb hby at_173) rfl ?_
            refine XS.bipush X60.here hx rfl (hb hby at_175) ?_
            show SS p e below T60 m 177 #[iv p1, iv p2, iv p3, iv p4, iv p5, iv p6, iv 1, .unset, rv b3, .unset, .unset] [(.int 8), (.int p5)] _
            refine XS.iushr X60.here hx rfl (hb hby at_177) rfl ?_
            show SS p e below T60 m 178 #[iv p1, iv p2, iv p3, iv p4, iv p5, iv p6, iv 1, .unset, rv b3, .unset, .unset] [(.int (us8 p5))] _
            refine XS.iconst X60.here hx rfl (hb hby at_178) ?_
            show SS p e below T60 m 179 #[iv p1, iv p2, iv p3, iv p4, iv p5, iv p6, iv 1, .unset, rv b3, .unset, .unset] [(.int 1), (.int (us8 p5))] _
            refine XS.iand X60.here hx rfl (hb hby at_179) rfl ?_
            rw [qb]
            show SS p e below T60 m 180 #[iv p1, iv p2, iv p3, iv p4, iv p5, iv p6, iv 1, .unset, rv b3, .unset, .unset] [(.int 1)] _
            refine XS.ifNo X60.here hx rfl (hb hby at_180) rfl ((if0 _ _).trans (feq (by decide : ¬ ((1 : Int32) = (0 : Int32)))).1) ?_
            refine XS.aload X60.here hx rfl (hb hby at_183) rfl rfl ?_
            refine XS.iloadN X60.here hx rfl (hb hby at_185) rfl ?_
            refine X60.ldcInt hx hown (mvT hZ (W 79 rfl)) (g := (mkF m 186 #[iv p1, iv p2, iv p3, iv p4, iv p5, iv p6, iv 1, .unset, rv b3, .unset, .unset] [(.int p4), (.ref b3)])) rfl (hb hby at_186) _ ?_
            show SS p e below T60 m 188 #[iv p1, iv p2, iv p3, iv p4, iv p5, iv p6, iv 1, .unset, rv b3, .unset, .unset] [(.int 2147483647), (.int p4), (.ref b3)] _
            refine XS.iand X60.here hx rfl (hb hby at_188) rfl ?_
            show SS p e below T60 m 189 #[iv p1, iv p2, iv p3, iv p4, iv p5, iv p6, iv 1, .unset, rv b3, .unset, .unset] [(.int (p4 &&& (2147483647 : Int32))), (.ref b3)] _
            refine XS.bipush X60.here hx rfl (hb hby at_189) ?_
            show SS p e below T60 m 191 #[iv p1, iv p2, iv p3, iv p4, iv p5, iv p6, iv 1, .unset, rv b3, .unset, .unset] [(.int 6), (.int (p4 &&& (2147483647 : Int32))), (.ref b3)] _
            refine iremM (g := (mkF m 191 #[iv p1, iv p2, iv p3, iv p4, iv p5, iv p6, iv 1, .unset, rv b3, .unset, .unset] [(.int 6), (.int (p4 &&& (2147483647 : Int32))), (.ref b3)])) X60 hx rfl (hb hby at_191) rfl (by decide : ¬ ((6 : Int32) = (0 : Int32))) ?_
            rw [qq]
            show SS p e below T60 m 192 #[iv p1, iv p2, iv p3, iv p4, iv p5, iv p6, iv 1, .unset, rv b3, .unset, .unset] [(.int 1), (.ref b3)] _
            refine XS.iload X60.here hx rfl (hb hby at_192) rfl ?_
            refine XS.sipush X60.here hx rfl (hb hby at_194) ?_
            show SS p e below T60 m 197 #[iv p1, iv p2, iv p3, iv p4, iv p5, iv p6, iv 1, .unset, rv b3, .unset, .unset] [(.int 255), (.int p5), (.int 1), (.ref b3)] _
            refine XS.iand X60.here hx rfl (hb hby at_197) rfl ?_
            rw [qc]
            show SS p e below T60 m 198 #[iv p1, iv p2, iv p3, iv p4, iv p5, iv p6, iv 1, .unset, rv b3, .unset, .unset] [(.int 108), (.int 1), (.ref b3)] _
            refine XS.i2c X60.here hx rfl (hb hby at_198) rfl ?_
            show SS p e below T60 m 199 #[iv p1, iv p2, iv p3, iv p4, iv p5, iv p6, iv 1, .unset, rv b3, .unset, .unset] [(.int 108), (.int 1), (.ref b3)] _
            refine st71 _ ?_
            exact qt
          · obtain ⟨c70, A70, q70, S70, N70, H70, G70⟩ := id v67
            have i71 : NB 2 c70 := inb_of S70 (by decide)
            obtain ⟨T71, h71, X71, e71, W71, st71⟩ := stC X60 hx hZ e60 A70 (j := 2) i71 (g := (mkF m 199 #[iv p1, iv p2, iv p3, iv p4, iv p5, iv p6, iv 1, .unset, rv b3, .unset, .unset] [(.int 105), (.int 2), (.ref b3)])) rfl rfl (hb hby at_199)
            have f72 := (f61.wr W60)
            have s73 := Safe.exa (EL := consts_1) hZ.alike f72 (by decide) (by decide)
            have c74 := CHr.wr W71 s73 c63.1
            have C75 := CHr.trans (CHr.refl c63.1) c74
            have O76 := O65.wr W71 g14
            have K77 : Keep h60 h71 [b3] := Keep.wr (Keep.refl h60 [b3]) W71 (Or.inl (List.mem_of_getElem? (i := 0) rfl))
            have v78 : Arv Z h71 b3 k3 .char 6 [(.int 99), (.int 108), (.int 105), (.int 101), (.int 110), (.int 116)] (.int 0) := Arv.set A70 q70 S70 N70 H70 G70 (fits_nar_char _) W71 2 rfl (Nat.le_of_ble_eq_true rfl)
            have N79 := Fr.snoc X71 N68 g14
            refine ⟨T71, h71, s.vm, _, _, X71.more (by decide) (by decide), e71, N79, K77, ((State.WarmedH.refl s).since 0), (Nat.zero_le _), hZ, hown, C75, v78, fun t qt => ?_⟩
            show SS p e below T60 m 173 #[iv p1, iv p2, iv p3, iv p4, iv p5, iv p6, iv 1, .unset, rv b3, .unset, .unset] [] _
            refine XS.iload X60.here hx rfl (hb hby at_173) rfl ?_
            refine XS.bipush X60.here hx rfl (hb hby at_175) ?_
            show SS p e below T60 m 177 #[iv p1, iv p2, iv p3, iv p4, iv p5, iv p6, iv 1, .unset, rv b3, .unset, .unset] [(.int 8), (.int p5)] _
            refine XS.iushr X60.here hx rfl (hb hby at_177) rfl ?_
            show SS p e below T60 m 178 #[iv p1, iv p2, iv p3, iv p4, iv p5, iv p6, iv 1, .unset, rv b3, .unset, .unset] [(.int (us8 p5))] _
            refine XS.iconst X60.here hx rfl (hb hby at_178) ?_
            show SS p e below T60 m 179 #[iv p1, iv p2, iv p3, iv p4, iv p5, iv p6, iv 1, .unset, rv b3, .unset, .unset] [(.int 1), (.int (us8 p5))] _
            refine XS.iand X60.here hx rfl (hb hby at_179) rfl ?_
            rw [qb]
            show SS p e below T60 m 180 #[iv p1, iv p2, iv p3, iv p4, iv p5, iv p6, iv 1, .unset, rv b3, .unset, .unset] [(.int 1)] _
            refine XS.ifNo X60.here hx rfl (hb hby at_180) rfl ((if0 _ _).trans (feq (by decide : ¬ ((1 : Int32) = (0 : Int32)))).1) ?_
            refine XS.aload X60.here hx rfl (hb hby at_183) rfl rfl ?_
            refine XS.iloadN X60.here hx rfl (hb hby at_185) rfl ?_
            refine X60.ldcInt hx hown (mvT hZ (W 79 rfl)) (g := (mkF m 186 #[iv p1, iv p2, iv p3, iv p4, iv p5, iv p6, iv 1, .unset, rv b3, .unset, .unset] [(.int p4), (.ref b3)])) rfl (hb hby at_186) _ ?_
            show SS p e below T60 m 188 #[iv p1, iv p2, iv p3, iv p4, iv p5, iv p6, iv 1, .unset, rv b3, .unset, .unset] [(.int 2147483647), (.int p4), (.ref b3)] _
            refine XS.iand X60.here hx rfl (hb hby at_188) rfl ?_
            show SS p e below T60 m 189 #[iv p1, iv p2, iv p3, iv p4, iv p5, iv p6, iv 1, .unset, rv b3, .unset, .unset] [(.int (p4 &&& (2147483647 : Int32))), (.ref b3)] _
            refine XS.bipush X60.here hx rfl (hb hby at_189) ?_
            show SS p e below T60 m 191 #[iv p1, iv p2, iv p3, iv p4, iv p5, iv p6, iv 1, .unset, rv b3, .unset, .unset] [(.int 6), (.int (p4 &&& (2147483647 : Int32))), (.ref b3)] _
            refine iremM (g := (mkF m 191 #[iv p1, iv p2, iv p3, iv p4, iv p5, iv p6, iv 1, .unset, rv b3, .unset, .unset] [(.int 6), (.int (p4 &&& (2147483647 : Int32))), (.ref b3)])) X60 hx rfl (hb hby at_191) rfl (by decide : ¬ ((6 : Int32) = (0 : Int32))) ?_
            rw [qq]
            show SS p e below T60 m 192 #[iv p1, iv p2, iv p3, iv p4, iv p5, iv p6, iv 1, .unset, rv b3, .unset, .unset] [(.int 2), (.ref b3)] _
            refine XS.iload X60.here hx rfl (hb hby at_192) rfl ?_
            refine XS.sipush X60.here hx rfl (hb hby at_194) ?_
            show SS p e below T60 m 197 #[iv p1, iv p2, iv p3, iv p4, iv p5, iv p6, iv 1, .unset, rv b3, .unset, .unset] [(.int 255), (.int p5), (.int 2), (.ref b3)] _
            refine XS.iand X60.here hx rfl (hb hby at_197) rfl ?_
            rw [qc]
            show SS p e below T60 m 198 #[iv p1, iv p2, iv p3, iv p4, iv p5, iv p6, iv 1, .unset, rv b3, .unset, .unset] [(.int 105), (.int 2), (.ref b3)] _
            refine XS.i2c X60.here hx rfl (hb hby at_198) rfl ?_
            show SS p e below T60 m 199 #[iv p1, iv p2, iv p3, iv p4, iv p5, iv p6, iv 1, .unset, rv b3, .unset, .unset] [(.int 105), (.int 2), (.ref b3)] _
            refine st71 _ ?_
            exact qt
          · obtain ⟨c70, A70, q70, S70, N70, H70, G70⟩ := id v67
            have i71 : NB 3 c70 := inb_of S70 (by decide)
            obtain ⟨T71, h71, X71, e71, W71, st71⟩ := stC X60 hx hZ e60 A70 (j := 3) i71 (g := (mkF m 199 #[iv p1, iv p2, iv p3, iv p4, iv p5, iv p6, iv 1, .unset, rv b3, .unset, .unset] [(.int 101), (.int 3), (.ref b3)])) rfl rfl (hb hby at_199)
            have f72 := (f61.wr W60)
            have s73 := Safe.exa (EL := consts_1) hZ.alike f72 (by decide) (by decide)
            have c74 := CHr.wr W71 s73 c63.1
            have C75 := CHr.trans (CHr.refl c63.1) c74
            have O76 := O65.wr W71 g14
            have K77 : Keep h60 h71 [b3] := Keep.wr (Keep.refl h60 [b3]) W71 (Or.inl (List.mem_of_getElem? (i := 0) rfl))
            have v78 : Arv Z h71 b3 k3 .char 6 [(.int 99), (.int 108), (.int 105), (.int 101), (.int 110), (.int 116)] (.int 0) := Arv.set A70 q70 S70 N70 H70 G70 (fits_nar_char _) W71 3 rfl (Nat.le_of_ble_eq_true rfl)
            have N79 := Fr.snoc X71 N68 g14
            refine ⟨T71, h71, s.vm, _, _, X71.more (by decide) (by decide), e71, N79, K77, ((State.WarmedH.refl s).since 0), (Nat.zero_le _), hZ, hown, C75, v78, fun t qt => ?_⟩
            show SS p e below T60 m 173 #[iv p1, iv p2, iv p3, iv p4, iv p5, iv p6, iv 1, .unset, rv b3, .unset, .unset] [] _
            refine XS.iload X60.here hx rfl (hb hby at_173) rfl ?_
            refine XS.bipush X60.here hx rfl (hb hby at_175) ?_
            show SS p e below T60 m 177 #[iv p1, iv p2, iv p3, iv p4, iv p5, iv p6, iv 1, .unset, rv b3, .unset, .unset] [(.int 8), (.int p5)] _
            refine XS.iushr X60.here hx rfl (hb hby at_177) rfl ?_
            show SS p e below T60 m 178 #[iv p1, iv p2, iv p3, iv p4, iv p5, iv p6, iv 1, .unset, rv b3, .unset, .unset] [(.int (us8 p5))] _
            refine XS.iconst X60.here hx rfl (hb hby at_178) ?_
            show SS p e below T60 m 179 #[iv p1, iv p2, iv p3, iv p4, iv p5, iv p6, iv 1, .unset, rv b3, .unset, .unset] [(.int 1), (.int (us8 p5))] _
            refine XS.iand X60.here hx rfl (hb hby at_179) rfl ?_
            rw [qb]
            show SS p e below T60 m 180 #[iv p1, iv p2, iv p3, iv p4, iv p5, iv p6, iv 1, .unset, rv b3, .unset, .unset] [(.int 1)] _
            refine XS.ifNo X60.here hx rfl (hb hby at_180) rfl ((if0 _ _).trans (feq (by decide : ¬ ((1 : Int32) = (0 : Int32)))).1) ?_
            refine XS.aload X60.here hx rfl (hb hby at_183) rfl rfl ?_
            refine XS.iloadN X60.here hx rfl (hb hby at_185) rfl ?_
            refine X60.ldcInt hx hown (mvT hZ (W 79 rfl)) (g := (mkF m 186 #[iv p1, iv p2, iv p3, iv p4, iv p5, iv p6, iv 1, .unset, rv b3, .unset, .unset] [(.int p4), (.ref b3)])) rfl (hb hby at_186) _ ?_
            show SS p e below T60 m 188 #[iv p1, iv p2, iv p3, iv p4, iv p5, iv p6, iv 1, .unset, rv b3, .unset, .unset] [(.int 2147483647), (.int p4), (.ref b3)] _
            refine XS.iand X60.here hx rfl (hb hby at_188) rfl ?_
            show SS p e below T60 m 189 #[iv p1, iv p2, iv p3, iv p4, iv p5, iv p6, iv 1, .unset, rv b3, .unset, .unset] [(.int (p4 &&& (2147483647 : Int32))), (.ref b3)] _
            refine XS.bipush X60.here hx rfl (hb hby at_189) ?_
            show SS p e below T60 m 191 #[iv p1, iv p2, iv p3, iv p4, iv p5, iv p6, iv 1, .unset, rv b3, .unset, .unset] [(.int 6), (.int (p4 &&& (2147483647 : Int32))), (.ref b3)] _
            refine iremM (g := (mkF m 191 #[iv p1, iv p2, iv p3, iv p4, iv p5, iv p6, iv 1, .unset, rv b3, .unset, .unset] [(.int 6), (.int (p4 &&& (2147483647 : Int32))), (.ref b3)])) X60 hx rfl (hb hby at_191) rfl (by decide : ¬ ((6 : Int32) = (0 : Int32))) ?_
            rw [qq]
            show SS p e below T60 m 192 #[iv p1, iv p2, iv p3, iv p4, iv p5, iv p6, iv 1, .unset, rv b3, .unset, .unset] [(.int 3), (.ref b3)] _
            refine XS.iload X60.here hx rfl (hb hby at_192) rfl ?_
            refine XS.sipush X60.here hx rfl (hb hby at_194) ?_
            show SS p e below T60 m 197 #[iv p1, iv p2, iv p3, iv p4, iv p5, iv p6, iv 1, .unset, rv b3, .unset, .unset] [(.int 255), (.int p5), (.int 3), (.ref b3)] _
            refine XS.iand X60.here hx rfl (hb hby at_197) rfl ?_
            rw [qc]
            show SS p e below T60 m 198 #[iv p1, iv p2, iv p3, iv p4, iv p5, iv p6, iv 1, .unset, rv b3, .unset, .unset] [(.int 101), (.int 3), (.ref b3)] _
            refine XS.i2c X60.here hx rfl (hb hby at_198) rfl ?_
            show SS p e below T60 m 199 #[iv p1, iv p2, iv p3, iv p4, iv p5, iv p6, iv 1, .unset, rv b3, .unset, .unset] [(.int 101), (.int 3), (.ref b3)] _
            refine st71 _ ?_
            exact qt
          · obtain ⟨c70, A70, q70, S70, N70, H70, G70⟩ := id v67
            have i71 : NB 4 c70 := inb_of S70 (by decide)
            obtain ⟨T71, h71, X71, e71, W71, st71⟩ := stC X60 hx hZ e60 A70 (j := 4) i71 (g := (mkF m 199 #[iv p1, iv p2, iv p3, iv p4, iv p5, iv p6, iv 1, .unset, rv b3, .unset, .unset] [(.int 110), (.int 4), (.ref b3)])) rfl rfl (hb hby at_199)
            have f72 := (f61.wr W60)
            have s73 := Safe.exa (EL := consts_1) hZ.alike f72 (by decide) (by decide)
            have c74 := CHr.wr W71 s73 c63.1
            have C75 := CHr.trans (CHr.refl c63.1) c74
            have O76 := O65.wr W71 g14
            have K77 : Keep h60 h71 [b3] := Keep.wr (Keep.refl h60 [b3]) W71 (Or.inl (List.mem_of_getElem? (i := 0) rfl))
            have v78 : Arv Z h71 b3 k3 .char 6 [(.int 99), (.int 108), (.int 105), (.int 101), (.int 110), (.int 116)] (.int 0) := Arv.set A70 q70 S70 N70 H70 G70 (fits_nar_char _) W71 4 rfl (Nat.le_of_ble_eq_true rfl)
            have N79 := Fr.snoc X71 N68 g14
            refine ⟨T71, h71, s.vm, _, _, X71.more (by decide) (by decide), e71, N79, K77, ((State.WarmedH.refl s).since 0), (Nat.zero_le _), hZ, hown, C75, v78, fun t qt => ?_⟩
            show SS p e below T60 m 173 #[iv p1, iv p2, iv p3, iv p4, iv p5, iv p6, iv 1, .unset, rv b3, .unset, .unset] [] _
            refine XS.iload X60.here hx rfl (hb hby at_173) rfl ?_
            refine XS.bipush X60.here hx rfl (hb hby at_175) ?_
            show SS p e below T60 m 177 #[iv p1, iv p2, iv p3, iv p4, iv p5, iv p6, iv 1, .unset, rv b3, .unset, .unset] [(.int 8), (.int p5)] _
            refine XS.iushr X60.here hx rfl (hb hby at_177) rfl ?_
            show SS p e below T60 m 178 #[iv p1, iv p2, iv p3, iv p4, iv p5, iv p6, iv 1, .unset, rv b3, .unset, .unset] [(.int (us8 p5))] _
            refine XS.iconst X60.here hx rfl (hb hby at_178) ?_
            show SS p e below T60 m 179 #[iv p1, iv p2, iv p3, iv p4, iv p5, iv p6, iv 1, .unset, rv b3, .unset, .unset] [(.int 1), (.int (us8 p5))] _
            refine XS.iand X60.here hx rfl (hb hby at_179) rfl ?_
            rw [qb]
            show SS p e below T60 m 180 #[iv p1, iv p2, iv p3, iv p4, iv p5, iv p6, iv 1, .unset, rv b3, .unset, .unset] [(.int 1)] _
            refine XS.ifNo X60.here hx rfl (hb hby at_180) rfl ((if0 _ _).trans (feq (by decide : ¬ ((1 : Int32) = (0 : Int32)))).1) ?_
            refine XS.aload X60.here hx rfl (hb hby at_183) rfl rfl ?_
            refine XS.iloadN X60.here hx rfl (hb hby at_185) rfl ?_
            refine X60.ldcInt hx hown (mvT hZ (W 79 rfl)) (g := (mkF m 186 #[iv p1, iv p2, iv p3, iv p4, iv p5, iv p6, iv 1, .unset, rv b3, .unset, .unset] [(.int p4), (.ref b3)])) rfl (hb hby at_186) _ ?_
            show SS p e below T60 m 188 #[iv p1, iv p2, iv p3, iv p4, iv p5, iv p6, iv 1, .unset, rv b3, .unset, .unset] [(.int 2147483647), (.int p4), (.ref b3)] _
            refine XS.iand X60.here hx rfl (hb hby at_188) rfl ?_
            show SS p e below T60 m 189 #[iv p1, iv p2, iv p3, iv p4, iv p5, iv p6, iv 1, .unset, rv b3, .unset, .unset] [(.int (p4 &&& (2147483647 : Int32))), (.ref b3)] _
            refine XS.bipush X60.here hx rfl (hb hby at_189) ?_
            show SS p e below T60 m 191 #[iv p1, iv p2, iv p3, iv p4, iv p5, iv p6, iv 1, .unset, rv b3, .unset, .unset] [(.int 6), (.int (p4 &&& (2147483647 : Int32))), (.ref b3)] _
            refine iremM (g := (mkF m 191 #[iv p1, iv p2, iv p3, iv p4, iv p5, iv p6, iv 1, .unset, rv b3, .unset, .unset] [(.int 6), (.int (p4 &&& (2147483647 : Int32))), (.ref b3)])) X60 hx rfl (hb hby at_191) rfl (by decide : ¬ ((6 : Int32) = (0 : Int32))) ?_
            rw [qq]
            show SS p e below T60 m 192 #[iv p1, iv p2, iv p3, iv p4, iv p5, iv p6, iv 1, .unset, rv b3, .unset, .unset] [(.int 4), (.ref b3)] _
            refine XS.iload X60.here hx rfl (hb hby at_192) rfl ?_
            refine XS.sipush X60.here hx rfl (hb hby at_194) ?_
            show SS p e below T60 m 197 #[iv p1, iv p2, iv p3, iv p4, iv p5, iv p6, iv 1, .unset, rv b3, .unset, .unset] [(.int 255), (.int p5), (.int 4), (.ref b3)] _
            refine XS.iand X60.here hx rfl (hb hby at_197) rfl ?_
            rw [qc]
            show SS p e below T60 m 198 #[iv p1, iv p2, iv p3, iv p4, iv p5, iv p6, iv 1, .unset, rv b3, .unset, .unset] [(.int 110), (.int 4), (.ref b3)] _
            refine XS.i2c X60.here hx rfl (hb hby at_198) rfl ?_
            show SS p e below T60 m 199 #[iv p1, iv p2, iv p3, iv p4, iv p5, iv p6, iv 1, .unset, rv b3, .unset, .unset] [(.int 110), (.int 4), (.ref b3)] _
            refine st71 _ ?_
            exact qt
          · obtain ⟨c70, A70, q70, S70, N70, H70, G70⟩ := id v67
            have i71 : NB 5 c70 := inb_of S70 (by decide)
            obtain ⟨T71, h71, X71, e71, W71, st71⟩ := stC X60 hx hZ e60 A70 (j := 5) i71 (g := (mkF m 199 #[iv p1, iv p2, iv p3, iv p4, iv p5, iv p6, iv 1, .unset, rv b3, .unset, .unset] [(.int 116), (.int 5), (.ref b3)])) rfl rfl (hb hby at_199)
            have f72 := (f61.wr W60)
            have s73 := Safe.exa (EL := consts_1) hZ.alike f72 (by decide) (by decide)
            have c74 := CHr.wr W71 s73 c63.1
            have C75 := CHr.trans (CHr.refl c63.1) c74
            have O76 := O65.wr W71 g14
            have K77 : Keep h60 h71 [b3] := Keep.wr (Keep.refl h60 [b3]) W71 (Or.inl (List.mem_of_getElem? (i := 0) rfl))
            have v78 : Arv Z h71 b3 k3 .char 6 [(.int 99), (.int 108), (.int 105), (.int 101), (.int 110), (.int 116)] (.int 0) := Arv.set A70 q70 S70 N70 H70 G70 (fits_nar_char _) W71 5 rfl (Nat.le_of_ble_eq_true rfl)
            have N79 := Fr.snoc X71 N68 g14
            refine ⟨T71, h71, s.vm, _, _, X71.more (by decide) (by decide), e71, N79, K77, ((State.WarmedH.refl s).since 0), (Nat.zero_le _), hZ, hown, C75, v78, fun t qt => ?_⟩
            show SS p e below T60 m 173 #[iv p1, iv p2, iv p3, iv p4, iv p5, iv p6, iv 1, .unset, rv b3, .unset, .unset] [] _
            refine XS.iload X60.here hx rfl (hb hby at_173) rfl ?_
            refine XS.bipush X60.here hx rfl (hb hby at_175) ?_
            show SS p e below T60 m 177 #[iv p1, iv p2, iv p3, iv p4, iv p5, iv p6, iv 1, .unset, rv b3, .unset, .unset] [(.int 8), (.int p5)] _
            refine XS.iushr X60.here hx rfl (hb hby at_177) rfl ?_
            show SS p e below T60 m 178 #[iv p1, iv p2, iv p3, iv p4, iv p5, iv p6, iv 1, .unset, rv b3, .unset, .unset] [(.int (us8 p5))] _
            refine XS.iconst X60.here hx rfl (hb hby at_178) ?_
            show SS p e below T60 m 179 #[iv p1, iv p2, iv p3, iv p4, iv p5, iv p6, iv 1, .unset, rv b3, .unset, .unset] [(.int 1), (.int (us8 p5))] _
            refine XS.iand X60.here hx rfl (hb hby at_179) rfl ?_
            rw [qb]
            show SS p e below T60 m 180 #[iv p1, iv p2, iv p3, iv p4, iv p5, iv p6, iv 1, .unset, rv b3, .unset, .unset] [(.int 1)] _
            refine XS.ifNo X60.here hx rfl (hb hby at_180) rfl ((if0 _ _).trans (feq (by decide : ¬ ((1 : Int32) = (0 : Int32)))).1) ?_
            refine XS.aload X60.here hx rfl (hb hby at_183) rfl rfl ?_
            refine XS.iloadN X60.here hx rfl (hb hby at_185) rfl ?_
            refine X60.ldcInt hx hown (mvT hZ (W 79 rfl)) (g := (mkF m 186 #[iv p1, iv p2, iv p3, iv p4, iv p5, iv p6, iv 1, .unset, rv b3, .unset, .unset] [(.int p4), (.ref b3)])) rfl (hb hby at_186) _ ?_
            show SS p e below T60 m 188 #[iv p1, iv p2, iv p3, iv p4, iv p5, iv p6, iv 1, .unset, rv b3, .unset, .unset] [(.int 2147483647), (.int p4), (.ref b3)] _
            refine XS.iand X60.here hx rfl (hb hby at_188) rfl ?_
            show SS p e below T60 m 189 #[iv p1, iv p2, iv p3, iv p4, iv p5, iv p6, iv 1, .unset, rv b3, .unset, .unset] [(.int (p4 &&& (2147483647 : Int32))), (.ref b3)] _
            refine XS.bipush X60.here hx rfl (hb hby at_189) ?_
            show SS p e below T60 m 191 #[iv p1, iv p2, iv p3, iv p4, iv p5, iv p6, iv 1, .unset, rv b3, .unset, .unset] [(.int 6), (.int (p4 &&& (2147483647 : Int32))), (.ref b3)] _
            refine iremM (g := (mkF m 191 #[iv p1, iv p2, iv p3, iv p4, iv p5, iv p6, iv 1, .unset, rv b3, .unset, .unset] [(.int 6), (.int (p4 &&& (2147483647 : Int32))), (.ref b3)])) X60 hx rfl (hb hby at_191) rfl (by decide : ¬ ((6 : Int32) = (0 : Int32))) ?_
            rw [qq]
            show SS p e below T60 m 192 #[iv p1, iv p2, iv p3, iv p4, iv p5, iv p6, iv 1, .unset, rv b3, .unset, .unset] [(.int 5), (.ref b3)] _
            refine XS.iload X60.here hx rfl (hb hby at_192) rfl ?_
            refine XS.sipush X60.here hx rfl (hb hby at_194) ?_
            show SS p e below T60 m 197 #[iv p1, iv p2, iv p3, iv p4, iv p5, iv p6, iv 1, .unset, rv b3, .unset, .unset] [(.int 255), (.int p5), (.int 5), (.ref b3)] _
            refine XS.iand X60.here hx rfl (hb hby at_197) rfl ?_
            rw [qc]
            show SS p e below T60 m 198 #[iv p1, iv p2, iv p3, iv p4, iv p5, iv p6, iv 1, .unset, rv b3, .unset, .unset] [(.int 116), (.int 5), (.ref b3)] _
            refine XS.i2c X60.here hx rfl (hb hby at_198) rfl ?_
            show SS p e below T60 m 199 #[iv p1, iv p2, iv p3, iv p4, iv p5, iv p6, iv 1, .unset, rv b3, .unset, .unset] [(.int 116), (.int 5), (.ref b3)] _
            refine st71 _ ?_
            exact qt
        have C70 := CHr.trans C64 c69
        have O71 := O65.keep K69 (allS g14 all0)
        have K72 : Keep h0 h69 [] := Keep.trans K66 K69 (allS (Or.inr (Nat.le_of_eq g3.symm)) all0)
        obtain ⟨T80, h80, X80, e80, E80, A80, D80, -, st80⟩ := newO X69 hx hZ69 hown69 (W 4 rfl) (W 5 rfl) (W 6 rfl) e69 (g := (mkF m 200 #[iv p1, iv p2, iv p3, iv p4, iv p5, iv p6, iv 1, .unset, rv b3, .unset, .unset] [])) rfl (hb hby at_200) (by decide) (by decide)
        obtain ⟨b80, g80⟩ : ∃ z, z = h69.size := ⟨_, rfl⟩
        rw [← g80] at A80 D80 st80
        have c81 := CHr.ext E80 c69.1
        have C82 := CHr.trans C70 c81
        have O83 := O71.ext E80
        have K84 : Keep h0 h80 [] := Keep.ext K72 E80
        have f86 := (J69_0.ext E80)
        have z87 : h3.size ≤ h10.size := (Nat.le_of_eq W10.size.symm)
        have z88 : h3.size ≤ h20.size := (Nat.le_trans z87 (Nat.le_of_eq W20.size.symm))
        have z89 : h3.size ≤ h30.size := (Nat.le_trans z88 (Nat.le_of_eq W30.size.symm))
        have z90 : h3.size ≤ h40.size := (Nat.le_trans z89 (Nat.le_of_eq W40.size.symm))
        have z91 : h3.size ≤ h50.size := (Nat.le_trans z90 (Nat.le_of_eq W50.size.symm))
        have z92 : h3.size ≤ h60.size := (Nat.le_trans z91 (Nat.le_of_eq W60.size.symm))
        have z93 : h3.size ≤ h69.size := (Nat.le_trans z92 K69.1)
        have z94 : h3.size ≤ h80.size := (Nat.le_trans z93 E80.1)
        have z95 : h0.size ≤ h3.size := E3.1
        have z96 : h0.size ≤ h10.size := (Nat.le_trans z95 (Nat.le_of_eq W10.size.symm))
        have z97 : h0.size ≤ h20.size := (Nat.le_trans z96 (Nat.le_of_eq W20.size.symm))
        have z98 : h0.size ≤ h30.size := (Nat.le_trans z97 (Nat.le_of_eq W30.size.symm))
        have z99 : h0.size ≤ h40.size := (Nat.le_trans z98 (Nat.le_of_eq W40.size.symm))
        have z100 : h0.size ≤ h50.size := (Nat.le_trans z99 (Nat.le_of_eq W50.size.symm))
        have z101 : h0.size ≤ h60.size := (Nat.le_trans z100 (Nat.le_of_eq W60.size.symm))
        have z102 : h0.size ≤ h69.size := (Nat.le_trans z101 K69.1)
        have g103 : n0 ≤ b80 := Nat.le_trans (Nat.le_trans (Nat.le_trans (Nat.le_of_eq O0.1.symm) O0.2.1) z102) (Nat.le_of_eq g80.symm)
        obtain ⟨_, T85, L85, X85, hQ85, st85⟩ := own_cp X80 hx hZ69 hown69 hml rfl (W 8 rfl) (W 9 rfl) (W 6 rfl) (W 10 rfl) (rm14_init l Z a0 hw b80 b3 k3 (99 : Int32) (108 : Int32) (105 : Int32) (101 : Int32) (110 : Int32) (116 : Int32) o_COMPACT_STRINGS h80 n0 O83 (f86) (S_o_COMPACT_STRINGS) (nz_o_COMPACT_STRINGS) ((by decide : ¬ ((255 : Int32) < (99 : Int32)))) ((by decide : ¬ ((255 : Int32) < (108 : Int32)))) ((by decide : ¬ ((255 : Int32) < (105 : Int32)))) ((by decide : ¬ ((255 : Int32) < (101 : Int32)))) ((by decide : ¬ ((255 : Int32) < (110 : Int32)))) ((by decide : ¬ ((255 : Int32) < (116 : Int32)))) (A80) ((D80 (Or.inr (W 31 rfl)) (ty := .byte) (by decide) : FA11 Z h80 b80 (.int 0))) ((D80 (Or.inr (W 33 rfl)) (ty := (.array .byte)) (by decide) : FA12 Z h80 b80 .null)) ((Nat.lt_of_lt_of_le A3.lt z94)) (g103) (A80.lt)) e80 (hb hby at_206) 1 #[iv p1, iv p2, iv p3, iv p4, iv p5, iv p6, iv 1, .unset, rv b3, .unset, .unset] b80 [(.ref b3)] [(.ref b80)] pd_231
        obtain ⟨b85_0, k85_0, rfl, N85q, K85, gb85_0, F85_0, F85_1, F85_2, F85_3⟩ := hQ85
        have N104 := Fr.app N69 N85q
        have f105 := (Safe.ext E80 c69.1 (Safe.new (Nat.le_of_eq g80.symm)))
        have c106 := CHr.keep K85 (sfS f105 sf0) c81.1
        have C107 := CHr.trans C82 c106
        have O108 := O83.keep K85 (allS g103 all0)
        have K109 : Keep h0 T85.heap [] := Keep.trans K84 K85 (allS (Or.inr (Nat.le_trans z102 (Nat.le_of_eq g80.symm))) all0)
        have f110 := (Safe.keep K85 (sfS f105 sf0) c81.1 f105)
        have f111 := (A80.keep K85)
        have z112 : h0.size ≤ h80.size := (Nat.le_trans z102 E80.1)
        have f113 := (Safe.keep K85 (sfS f105 sf0) c81.1 (Safe.new gb85_0))
        have z114 : h69.size ≤ h80.size := E80.1
        have z115 : h69.size ≤ T85.heap.size := (Nat.le_trans z114 K85.1)
        refine ⟨(1 : Int32), b80, b85_0, k85_0, (rv b3), T85, T85.heap, vm69, _, _, X85.more (by decide) (by decide), rfl, N104, K109, hS69, (Nat.le_trans hk69 z115), hZ69, hown69, C107, (Nat.le_trans z102 (Nat.le_of_eq g80.symm)), f110, f111, F85_2, (Nat.le_trans z112 gb85_0), f113, F85_1, F85_0, F85_3, (Or.inr ⟨_, rfl⟩), fun t qt => ?_⟩
        show SS p e below s₁ m 0 #[iv p1, iv p2, iv p3, iv p4, iv p5, iv p6, .unset, .unset, .unset, .unset, .unset] [] _
        refine XS.iloadN X1.here hx rfl (hb hby at_0) rfl ?_
        refine XS.iconst X1.here hx rfl (hb hby at_1) ?_
        show SS p e below s₁ m 2 #[iv p1, iv p2, iv p3, iv p4, iv p5, iv p6, .unset, .unset, .unset, .unset, .unset] [(.int 3), (.int p1)] _
        refine XS.iand X1.here hx rfl (hb hby at_2) rfl ?_
        rw [qm]
        show SS p e below s₁ m 3 #[iv p1, iv p2, iv p3, iv p4, iv p5, iv p6, .unset, .unset, .unset, .unset, .unset] [(.int 1)] _
        refine XS.istore X1.here hx rfl (hb hby at_3) rfl (l' := #[iv p1, iv p2, iv p3, iv p4, iv p5, iv p6, iv 1, .unset, .unset, .unset, .unset]) rfl ?_
        refine XS.iload X1.here hx rfl (hb hby at_5) rfl ?_
        refine XS.iconst X1.here hx rfl (hb hby at_7) ?_
        refine XS.icmpYes X1.here hx rfl (pc0 := 8) (pc' := 17) rfl (hb hby at_8) rfl (feq (by decide : ¬ ((1 : Int32) = (3 : Int32)))).2 (by decide) (by decide) ?_
        refine XS.iload X1.here hx rfl (hb hby at_17) rfl ?_
        refine XS.ifYes X1.here hx rfl (pc0 := 19) (pc' := 92) rfl (hb hby at_19) rfl ((if0 _ _).trans (feq (by decide : ¬ ((1 : Int32) = (0 : Int32)))).2) (by decide) (by decide) ?_
        refine XS.iload X1.here hx rfl (hb hby at_92) rfl ?_
        refine XS.iconst X1.here hx rfl (hb hby at_94) ?_
        refine XS.icmpNo X1.here hx rfl (hb hby at_95) rfl (teq (by decide : (1 : Int32) = (1 : Int32))).2 ?_
        refine XS.bipush X1.here hx rfl (hb hby at_98) ?_
        show SS p e below s₁ m 100 #[iv p1, iv p2, iv p3, iv p4, iv p5, iv p6, iv 1, .unset, .unset, .unset, .unset] [(.int 6)] _
        refine st3 _ ?_
        refine XS.dup X3.here hx rfl (hb hby at_102) rfl rfl ?_
        refine XS.iconst X3.here hx rfl (hb hby at_103) ?_
        refine XS.bipush X3.here hx rfl (hb hby at_104) ?_
        refine st10 _ ?_
        refine XS.dup X10.here hx rfl (hb hby at_107) rfl rfl ?_
        refine XS.iconst X10.here hx rfl (hb hby at_108) ?_
        refine XS.bipush X10.here hx rfl (hb hby at_109) ?_
        refine st20 _ ?_
        refine XS.dup X20.here hx rfl (hb hby at_112) rfl rfl ?_
        show SS p e below T20 m 113 #[iv p1, iv p2, iv p3, iv p4, iv p5, iv p6, iv 1, .unset, .unset, .unset, .unset] [(.ref b3), (.ref b3)] _
        refine XS.iconst X20.here hx rfl (hb hby at_113) ?_
        refine XS.bipush X20.here hx rfl (hb hby at_114) ?_
        refine st30 _ ?_
        refine XS.dup X30.here hx rfl (hb hby at_117) rfl rfl ?_
        refine XS.iconst X30.here hx rfl (hb hby at_118) ?_
        refine XS.bipush X30.here hx rfl (hb hby at_119) ?_
        refine st40 _ ?_
        refine XS.dup X40.here hx rfl (hb hby at_122) rfl rfl ?_
        refine XS.iconst X40.here hx rfl (hb hby at_123) ?_
        refine XS.bipush X40.here hx rfl (hb hby at_124) ?_
        show SS p e below T40 m 126 #[iv p1, iv p2, iv p3, iv p4, iv p5, iv p6, iv 1, .unset, .unset, .unset, .unset] [(.int 110), (.int 4), (.ref b3), (.ref b3)] _
        refine st50 _ ?_
        refine XS.dup X50.here hx rfl (hb hby at_127) rfl rfl ?_
        refine XS.iconst X50.here hx rfl (hb hby at_128) ?_
        refine XS.bipush X50.here hx rfl (hb hby at_129) ?_
        refine st60 _ ?_
        refine XS.astore X60.here hx rfl (hb hby at_132) rfl rfl (l' := #[iv p1, iv p2, iv p3, iv p4, iv p5, iv p6, iv 1, .unset, rv b3, .unset, .unset]) rfl ?_
        refine XS.goto X60.here hx rfl (pc0 := 134) (pc' := 173) rfl (hb hby at_134) (by decide) (by decide) ?_
        refine st69 _ ?_
        show SS p e below T69 m 200 #[iv p1, iv p2, iv p3, iv p4, iv p5, iv p6, iv 1, .unset, rv b3, .unset, .unset] [] _
        refine st80 _ ?_
        refine XS.dup X80.here hx rfl (hb hby at_203) rfl rfl ?_
        refine XS.aload X80.here hx rfl (hb hby at_204) rfl rfl ?_
        refine st85 _ ?_
        refine XS.astore X85.here hx rfl (hb hby at_209) rfl rfl (l' := #[iv p1, iv p2, iv p3, iv p4, iv p5, iv p6, iv 1, rv b80, rv b3, .unset, .unset]) rfl ?_
        exact qt
    have C3 := CHr.trans C0 c2
    have O4 := O0.keep K2 all0
    have K5 : Keep h0 h2 [] := Keep.trans (Keep.refl h0 []) K2 all0
    obtain ⟨b116, T116, h116, k116, b116v, kc116, X116, e116, E116, hS116, hk116, hZ116, hown116, Le116, Lc116, Lv116, La116, Lx116, Lb116, c116, -, Ln116, st116⟩ := ldcCH (s := s) (vm0 := vm2) (EL := consts_1) X2 hx hZ2 hown2 (W 34 rfl) (own_str_236 hw) e2 hS2 hk2 (own_ew_237 hw) (List.mem_of_getElem? (i := 0) rfl) c2.1 (vs := [(.int 99), (.int 108), (.int 105), (.int 101), (.int 110), (.int 116)]) (z := (6 : Int32)) ⟨by decide, by decide⟩ (by decide) rfl (g := (mkF m 224 #[iv p1, iv p2, iv p3, iv p4, iv p5, iv p6, iv i2_0, rv r2_1, sl2_4, .unset, .unset] [(.ref r2_1)])) rfl (hb hby at_224) (n := 24) (by decide) (by decide) (by decide) (by decide)
    have C117 := CHr.trans C3 c116
    have O118 := O4.ext E116
    have K119 : Keep h0 h116 [] := Keep.ext K5 E116
    have f121 := (J2_3.ext E116)
    have f122 := (J2_8.ext E116)
    have f123 := (J2_7.ext E116)
    have f124 := (J2_2.ext E116)
    obtain ⟨_, T120, L120, X120, hQ120, st120⟩ := own_cv X116 hx hZ116 hown116 hml (W 37 rfl) (W 38 rfl) (notFace_of_selects (W 40 rfl)) (W 40 rfl) (W 39 rfl) (W 6 rfl) (W 41 rfl) (rm17_equals l Z a0 hw r2_1 b116 o_COMPACT_STRINGS r2_2 b116v k2_3 ((99 : Int32).toInt8.toInt32) ((108 : Int32).toInt8.toInt32) ((105 : Int32).toInt8.toInt32) ((101 : Int32).toInt8.toInt32) ((110 : Int32).toInt8.toInt32) ((116 : Int32).toInt8.toInt32) kc116 (99 : Int32) (108 : Int32) (105 : Int32) (101 : Int32) (110 : Int32) (116 : Int32) h116 n0 O118 (((Ln116 r2_1 (CHr.safe c116 J2_2.lt J2_1)).1)) (Le116) (S_o_COMPACT_STRINGS) (nz_o_COMPACT_STRINGS) (f121) (Lc116) (f122) (Lv116) (f123) (La116) ((by decide : ((99 : Int32).toInt8.toInt32) = (99 : Int32))) ((by decide : ((108 : Int32).toInt8.toInt32) = (108 : Int32))) ((by decide : ((105 : Int32).toInt8.toInt32) = (105 : Int32))) ((by decide : ((101 : Int32).toInt8.toInt32) = (101 : Int32))) ((by decide : ((110 : Int32).toInt8.toInt32) = (110 : Int32))) ((by decide : ((116 : Int32).toInt8.toInt32) = (116 : Int32)))) e116 f124 (hb hby at_226) 0 #[iv p1, iv p2, iv p3, iv p4, iv p5, iv p6, iv i2_0, rv r2_1, sl2_4, .unset, .unset] [(.ref b116)] [] pd_79
    obtain ⟨rfl, N120q, K120⟩ := hQ120
    have N125 := Fr.app N2 N120q
    obtain ⟨T126, X126, e126, st126⟩ := getS2 X120 hx hZ116 hown116 (host := "") (Or.inl (W 72 rfl)) Via.refl K120 (S_o_CLIENT.ext O118.2) (g := (mkF m 232 #[iv p1, iv p2, iv p3, iv p4, iv p5, iv p6, iv i2_0, rv r2_1, sl2_4, .unset, .unset] [])) rfl (hb hby at_232)
    have g128 : n0 ≤ r2_1 := Nat.le_trans (Nat.le_trans (Nat.le_of_eq O0.1.symm) O0.2.1) J2_0
    obtain ⟨_, T127, L127, X127, hQ127, st127⟩ := own_cs X126 hx hZ116 hown116 hml (W 48 rfl) (W 49 rfl) (W 50 rfl) (W 51 rfl) (rm20_ofLabel l Z a0 hw r2_1 o__VALUES k_o__VALUES o_CLIENT o_SERVER o_CLIENT_label o_CLIENT_label_value k_o_CLIENT_label_value r2_2 k2_3 ((99 : Int32).toInt8.toInt32) ((108 : Int32).toInt8.toInt32) ((105 : Int32).toInt8.toInt32) ((101 : Int32).toInt8.toInt32) ((110 : Int32).toInt8.toInt32) ((116 : Int32).toInt8.toInt32) o_COMPACT_STRINGS h116 n0 O118 (S_o__VALUES) (A_o__VALUES) (E_o__VALUES) (F_o_CLIENT_label) (E_o_CLIENT_label) (F_o_CLIENT_label_coder) (F_o_CLIENT_label_value) (A_o_CLIENT_label_value) (f124) (f121) (f122) (f123) (S_o_COMPACT_STRINGS) (nz_o_COMPACT_STRINGS) ((by decide : (99 : Int32) = ((99 : Int32).toInt8.toInt32))) ((by decide : (108 : Int32) = ((108 : Int32).toInt8.toInt32))) ((by decide : (105 : Int32) = ((105 : Int32).toInt8.toInt32))) ((by decide : (101 : Int32) = ((101 : Int32).toInt8.toInt32))) ((by decide : (110 : Int32) = ((110 : Int32).toInt8.toInt32))) ((by decide : (116 : Int32) = ((116 : Int32).toInt8.toInt32))) (g128)) e126 (hb hby at_263) 0 #[iv p1, iv p2, iv p3, iv p4, iv p5, iv p6, iv i2_0, rv r2_1, rv o_CLIENT, .unset, .unset] [(.ref r2_1)] [] pd_86
    obtain ⟨rfl, N127q, K127⟩ := hQ127
    have N129 := Fr.app N125 N127q
    have c130 := CHr.keep K127 sf0 c116.1
    have C131 := CHr.trans C117 c130
    have O132 := O118.keep K127 all0
    have K133 : Keep h0 T127.heap [] := Keep.trans K119 K127 all0
    obtain ⟨T134, X134, e134, st134⟩ := getS2 X127 hx hZ116 hown116 (host := "") (Or.inl (W 72 rfl)) Via.refl rfl (S_o_CLIENT.ext O132.2) (g := (mkF m 278 #[iv p1, iv p2, iv p3, iv p4, iv p5, iv p6, iv i2_0, rv r2_1, rv o_CLIENT, iv 1, .unset] [])) rfl (hb hby at_278)
    obtain ⟨_, T135, L135, X135, hQ135, st135⟩ := own_cv X134 hx hZ116 hown116 hml (W 73 rfl) (W 74 rfl) (notFace_of_selects (W 76 rfl)) (W 76 rfl) (W 75 rfl) (W 50 rfl) (W 77 rfl) (rm4_label l Z a0 hw o_CLIENT o_CLIENT_label T127.heap n0 O132 (F_o_CLIENT_label)) e134 (E_o_CLIENT.ext O132.2) (hb hby at_281) 0 #[iv p1, iv p2, iv p3, iv p4, iv p5, iv p6, iv i2_0, rv r2_1, rv o_CLIENT, iv 1, .unset] [] [] pd_91
    obtain ⟨rfl, N135q, K135⟩ := hQ135
    have N136 := Fr.app N129 N135q
    obtain ⟨_, T137, L137, X137, hQ137, st137⟩ := own_cs X135 hx hZ116 hown116 hml (W 48 rfl) (W 49 rfl) (W 50 rfl) (W 51 rfl) (rm6_ofLabel l Z a0 hw o_CLIENT_label o__VALUES k_o__VALUES o_CLIENT o_SERVER T127.heap n0 O132 (S_o__VALUES) (A_o__VALUES) (E_o__VALUES) (F_o_CLIENT_label) (E_o_CLIENT_label)) K135 (hb hby at_284) 0 #[iv p1, iv p2, iv p3, iv p4, iv p5, iv p6, iv i2_0, rv r2_1, rv o_CLIENT, iv 1, .unset] [(.ref o_CLIENT_label)] [] pd_86
    obtain ⟨rfl, N137q, K137⟩ := hQ137
    have N138 := Fr.app N136 N137q
    have c139 := CHr.keep K137 sf0 c130.1
    have C140 := CHr.trans C131 c139
    have O141 := O132.keep K137 all0
    have K142 : Keep h0 T137.heap [] := Keep.trans K133 K137 all0
    obtain ⟨T143, X143, e143, st143⟩ := getS2 X137 hx hZ116 hown116 (host := "") (Or.inl (W 72 rfl)) Via.refl rfl (S_o_CLIENT.ext O141.2) (g := (mkF m 287 #[iv p1, iv p2, iv p3, iv p4, iv p5, iv p6, iv i2_0, rv r2_1, rv o_CLIENT, iv 1, .unset] [(.ref o_CLIENT)])) rfl (hb hby at_287)
    obtain ⟨T144, X144, e144, st144⟩ := getS2 X143 hx hZ116 hown116 (host := "") (Or.inl (W 78 rfl)) Via.refl e143 (S_o_SERVER.ext O141.2) (g := (mkF m 293 #[iv p1, iv p2, iv p3, iv p4, iv p5, iv p6, iv i2_0, rv r2_1, rv o_CLIENT, iv 1, .unset] [])) rfl (hb hby at_293)
    obtain ⟨_, T145, L145, X145, hQ145, st145⟩ := own_cv X144 hx hZ116 hown116 hml (W 73 rfl) (W 74 rfl) (notFace_of_selects (W 76 rfl)) (W 76 rfl) (W 75 rfl) (W 50 rfl) (W 77 rfl) (rm4_label l Z a0 hw o_SERVER o_SERVER_label T137.heap n0 O141 (F_o_SERVER_label)) e144 (E_o_SERVER.ext O141.2) (hb hby at_296) 0 #[iv p1, iv p2, iv p3, iv p4, iv p5, iv p6, iv i2_0, rv r2_1, rv o_CLIENT, iv 1, .unset] [] [] pd_91
    obtain ⟨rfl, N145q, K145⟩ := hQ145
    have N146 := Fr.app N138 N145q
    obtain ⟨_, T147, L147, X147, hQ147, st147⟩ := own_cs X145 hx hZ116 hown116 hml (W 48 rfl) (W 49 rfl) (W 50 rfl) (W 51 rfl) (rm9_ofLabel l Z a0 hw o_SERVER_label o__VALUES k_o__VALUES o_CLIENT o_SERVER o_CLIENT_label o_CLIENT_label_value k_o_CLIENT_label_value o_SERVER_label_value k_o_SERVER_label_value o_COMPACT_STRINGS T137.heap n0 O141 (S_o__VALUES) (A_o__VALUES) (E_o__VALUES) (F_o_CLIENT_label) (E_o_CLIENT_label) (F_o_CLIENT_label_coder) (F_o_CLIENT_label_value) (A_o_CLIENT_label_value) (E_o_SERVER_label) (F_o_SERVER_label_coder) (F_o_SERVER_label_value) (A_o_SERVER_label_value) (S_o_COMPACT_STRINGS) (nz_o_COMPACT_STRINGS) (ne_o_CLIENT_label_o_SERVER_label) (F_o_SERVER_label)) K145 (hb hby at_299) 0 #[iv p1, iv p2, iv p3, iv p4, iv p5, iv p6, iv i2_0, rv r2_1, rv o_CLIENT, iv 1, .unset] [(.ref o_SERVER_label)] [] pd_86
    obtain ⟨rfl, N147q, K147⟩ := hQ147
    have N148 := Fr.app N146 N147q
    have c149 := CHr.keep K147 sf0 c139.1
    have C150 := CHr.trans C140 c149
    have O151 := O141.keep K147 all0
    have K152 : Keep h0 T147.heap [] := Keep.trans K142 K147 all0
    obtain ⟨T153, X153, e153, st153⟩ := getS2 X147 hx hZ116 hown116 (host := "") (Or.inl (W 78 rfl)) Via.refl rfl (S_o_SERVER.ext O151.2) (g := (mkF m 302 #[iv p1, iv p2, iv p3, iv p4, iv p5, iv p6, iv i2_0, rv r2_1, rv o_CLIENT, iv 1, .unset] [(.ref o_SERVER)])) rfl (hb hby at_302)
    have z154 : h116.size ≤ T127.heap.size := K127.1
    have z155 : h116.size ≤ T137.heap.size := (Nat.le_trans z154 K137.1)
    have z156 : h116.size ≤ T147.heap.size := (Nat.le_trans z155 K147.1)
    refine ⟨T153, some (.int 1), _, _, _, T116.vm, _, X153, hS116, (by rw [e153]; exact (Nat.le_trans hk116 z156)), by decide, by decide, nofun, ?_, own_che e153 (CHr.trans C150 (CHv.at (s := s) X153 hZ116 (own_ew_237 hw) c149.1)), fun fs hr => castTop (ef_413 m p1 p2 p3 p4 p5 p6) ?_⟩
    · exact ⟨rfl, N148⟩
    · refine st2 _ ?_
      show SS p e below T2 m 211 #[iv p1, iv p2, iv p3, iv p4, iv p5, iv p6, iv i2_0, rv r2_1, sl2_4, .unset, .unset] [] _
      refine XS.aload X2.here hx rfl (hb hby at_211) rfl rfl ?_
      refine XS.ifnonnullYes X2.here hx rfl (pc0 := 213) (pc' := 222) rfl (hb hby at_213) rfl (by decide) (by decide) ?_
      refine XS.aload X2.here hx rfl (hb hby at_222) rfl rfl ?_
      refine st116 _ ?_
      refine st120 _ ?_
      refine XS.ifNo X120.here hx rfl (hb hby at_229) rfl ((if0 _ _).trans (feq (by decide : ¬ ((1 : Int32) = (0 : Int32)))).1) ?_
      refine st126 _ ?_
      refine XS.astore X126.here hx rfl (hb hby at_235) rfl rfl (l' := #[iv p1, iv p2, iv p3, iv p4, iv p5, iv p6, iv i2_0, rv r2_1, rv o_CLIENT, .unset, .unset]) (by rcases J2_9 with q | ⟨_, q⟩ <;> subst q <;> rfl) ?_
      refine XS.goto X126.here hx rfl (pc0 := 237) (pc' := 261) rfl (hb hby at_237) (by decide) (by decide) ?_
      refine XS.aload X126.here hx rfl (hb hby at_261) rfl rfl ?_
      show SS p e below T126 m 263 #[iv p1, iv p2, iv p3, iv p4, iv p5, iv p6, iv i2_0, rv r2_1, rv o_CLIENT, .unset, .unset] [(.ref r2_1)] _
      refine st127 _ ?_
      refine XS.aload X127.here hx rfl (hb hby at_266) rfl rfl ?_
      refine Jvm.RoadKit.acmp (g := (mkF m 268 #[iv p1, iv p2, iv p3, iv p4, iv p5, iv p6, iv i2_0, rv r2_1, rv o_CLIENT, .unset, .unset] [(.ref o_CLIENT), (.ref o_CLIENT)])) X127 hx rfl rfl rfl (pc0 := 268) (pc' := 271) (same := true) rfl (hb hby at_268) rfl (decide_eq_true rfl) (by decide) (by decide) ?_
      refine XS.iconst X127.here hx rfl (hb hby at_271) ?_
      refine XS.goto X127.here hx rfl (pc0 := 272) (pc' := 276) rfl (hb hby at_272) (by decide) (by decide) ?_
      refine XS.istore X127.here hx rfl (hb hby at_276) rfl (l' := #[iv p1, iv p2, iv p3, iv p4, iv p5, iv p6, iv i2_0, rv r2_1, rv o_CLIENT, iv 1, .unset]) rfl ?_
      refine st134 _ ?_
      refine st135 _ ?_
      refine st137 _ ?_
      refine st143 _ ?_
      show SS p e below T143 m 290 #[iv p1, iv p2, iv p3, iv p4, iv p5, iv p6, iv i2_0, rv r2_1, rv o_CLIENT, iv 1, .unset] [(.ref o_CLIENT), (.ref o_CLIENT)] _
      refine Jvm.RoadKit.acmp (g := (mkF m 290 #[iv p1, iv p2, iv p3, iv p4, iv p5, iv p6, iv i2_0, rv r2_1, rv o_CLIENT, iv 1, .unset] [(.ref o_CLIENT), (.ref o_CLIENT)])) X143 hx rfl rfl rfl (pc0 := 290) (pc' := 293) (same := true) rfl (hb hby at_290) rfl (decide_eq_true rfl) (by decide) (by decide) ?_
      refine st144 _ ?_
      refine st145 _ ?_
      refine st147 _ ?_
      refine st153 _ ?_
      refine Jvm.RoadKit.acmp (g := (mkF m 305 #[iv p1, iv p2, iv p3, iv p4, iv p5, iv p6, iv i2_0, rv r2_1, rv o_CLIENT, iv 1, .unset] [(.ref o_SERVER), (.ref o_SERVER)])) X153 hx rfl rfl rfl (pc0 := 305) (pc' := 308) (same := true) rfl (hb hby at_305) rfl (decide_eq_true rfl) (by decide) (by decide) ?_
      refine XS.iconst X153.here hx rfl (hb hby at_308) ?_
      refine XS.goto X153.here hx rfl (pc0 := 309) (pc' := 313) rfl (hb hby at_309) (by decide) (by decide) ?_
      refine XS.istore X153.here hx rfl (hb hby at_313) rfl (l' := #[iv p1, iv p2, iv p3, iv p4, iv p5, iv p6, iv i2_0, rv r2_1, rv o_CLIENT, iv 1, iv 1]) rfl ?_
      refine XS.iload X153.here hx rfl (hb hby at_315) rfl ?_
      show SS p e below T153 m 317 #[iv p1, iv p2, iv p3, iv p4, iv p5, iv p6, iv i2_0, rv r2_1, rv o_CLIENT, iv 1, iv 1] [(.int 1)] _
      refine XS.ifNo X153.here hx rfl (hb hby at_317) rfl ((if0 _ _).trans (feq (by decide : ¬ ((1 : Int32) = (0 : Int32)))).1) ?_
      refine XS.iload X153.here hx rfl (hb hby at_320) rfl ?_
      refine XS.ifNo X153.here hx rfl (hb hby at_322) rfl ((if0 _ _).trans (feq (by decide : ¬ ((1 : Int32) = (0 : Int32)))).1) ?_
      refine XS.iconst X153.here hx rfl (hb hby at_325) ?_
      refine XS.goto X153.here hx rfl (pc0 := 326) (pc' := 330) rfl (hb hby at_326) (by decide) (by decide) ?_
      exact retN X153 hx (t := .boolean) hret (by simp) (hb hby at_330) hr
  · obtain ⟨i2_0, r2_1, r2_2, k2_3, sl2_4, T2, h2, vm2, k2, L2, X2, e2, N2, K2, hS2, hk2, hZ2, hown2, c2, J2_0, J2_1, J2_2, J2_3, J2_4, J2_5, J2_6, J2_7, J2_8, J2_9, st2⟩ : ∃ (i2_0 : Int32) (r2_1 : Addr) (r2_2 : Addr) (k2_3 : ClassId) (sl2_4 : Slot) (T2 : State) (h2 : Heap) (vm2 : Vm) (k2 : Nat) (L2 : List Loc), Stand p l e room_1 (s.setVm vm2) m #[(.int p1), (.int p2), (.int p3), (.int p4), (.int p5), (.int p6)] below meth c T2 L2 3 16 ∧ T2.heap = h2 ∧ Fr n0 L2 ∧ Keep h0 h2 [] ∧ s.Since vm2 k2 ∧ k2 ≤ h2.size ∧ Z.Warmed39 vm2 ∧ vm2.findClass "com/example/duplex/duplex/compliance/SideOfLabelPinLaw" = some m.cls ∧ CHr Z consts_1 s.vm h0 vm2 h2 ∧ h0.size ≤ r2_1 ∧ Safe Z consts_1 vm2 h2 r2_1 ∧ EA14 Z h2 r2_1 ∧ FA11 Z h2 r2_1 (.int 0) ∧ h0.size ≤ r2_2 ∧ Safe Z consts_1 vm2 h2 r2_2 ∧ EA16 Z h2 r2_2 ∧ Arv Z h2 r2_2 k2_3 .byte 6 [(.int ((115 : Int32).toInt8.toInt32)), (.int ((101 : Int32).toInt8.toInt32)), (.int ((114 : Int32).toInt8.toInt32)), (.int ((118 : Int32).toInt8.toInt32)), (.int ((101 : Int32).toInt8.toInt32)), (.int ((114 : Int32).toInt8.toInt32))] (.int 0) ∧ FA12 Z h2 r2_1 (.ref r2_2) ∧ (sl2_4 = Slot.unset ∨ ∃ a : Addr, sl2_4 = rv a) ∧ ∀ t, SS p e below T2 m 211 #[iv p1, iv p2, iv p3, iv p4, iv p5, iv p6, iv i2_0, rv r2_1, sl2_4, .unset, .unset] [] t → SS p e below s₁ m 0 #[iv p1, iv p2, iv p3, iv p4, iv p5, iv p6, .unset, .unset, .unset, .unset, .unset] [] t := by
      rcases A with ⟨qm, qn, q0, q1, q2, q3, q4, q5⟩ | ⟨qm, qr⟩
      · obtain ⟨_, T3, L3, X3, hQ3, st3⟩ := own_cs X1 hx hZ hown hml (W 0 rfl) (W 1 rfl) (W 2 rfl) (W 3 rfl) (rm15_str l Z a0 hw (115 : Int32) (101 : Int32) (114 : Int32) (118 : Int32) (101 : Int32) (114 : Int32) ((us16 p3) &&& (255 : Int32)) o_COMPACT_STRINGS h0 n0 O0 ((by decide)) ((by decide)) ((by decide)) ((by decide)) ((by decide)) ((by decide)) (S_o_COMPACT_STRINGS) (nz_o_COMPACT_STRINGS) ((by decide : ¬ ((255 : Int32) < (115 : Int32)))) ((by decide : ¬ ((255 : Int32) < (101 : Int32)))) ((by decide : ¬ ((255 : Int32) < (114 : Int32)))) ((by decide : ¬ ((255 : Int32) < (118 : Int32)))) ((by decide : ¬ ((255 : Int32) < (101 : Int32)))) ((by decide : ¬ ((255 : Int32) < (114 : Int32))))) e0 (hb hby at_84) 0 #[iv p1, iv p2, iv p3, iv p4, iv p5, iv p6, iv 0, .unset, .unset, .unset, .unset] [(.int 6), (.int 115), (.int 101), (.int 114), (.int 118), (.int 101), (.int 114), (.int ((us16 p3) &&& (255 : Int32)))] [] pd_235
        obtain ⟨b3_0, b3_1, k3_0, rfl, N3q, K3, gb3_0, gb3_1, F3_0, F3_1, F3_2, F3_3, F3_4⟩ := hQ3
        have N4 := Fr.app N0 N3q
        have c5 := CHr.keep K3 sf0 H0
        have C6 := CHr.trans (CHr.refl H0) c5
        have O7 := O0.keep K3 all0
        have K8 : Keep h0 T3.heap [] := Keep.trans (Keep.refl h0 []) K3 all0
        have f9 := (Safe.keep K3 sf0 H0 (Safe.new gb3_0))
        have f10 := (Safe.keep K3 sf0 H0 (Safe.new gb3_1))
        refine ⟨(0 : Int32), b3_0, b3_1, k3_0, .unset, T3, T3.heap, s.vm, _, _, X3.more (by decide) (by decide), rfl, N4, K8, ((State.WarmedH.refl s).since 0), (Nat.zero_le _), hZ, hown, C6, gb3_0, f9, F3_0, F3_1, gb3_1, f10, F3_4, F3_3, F3_2, (Or.inl rfl), fun t qt => ?_⟩
        show SS p e below s₁ m 0 #[iv p1, iv p2, iv p3, iv p4, iv p5, iv p6, .unset, .unset, .unset, .unset, .unset] [] _
        refine XS.iloadN X1.here hx rfl (hb hby at_0) rfl ?_
        refine XS.iconst X1.here hx rfl (hb hby at_1) ?_
        show SS p e below s₁ m 2 #[iv p1, iv p2, iv p3, iv p4, iv p5, iv p6, .unset, .unset, .unset, .unset, .unset] [(.int 3), (.int p1)] _
        refine XS.iand X1.here hx rfl (hb hby at_2) rfl ?_
        rw [qm]
        show SS p e below s₁ m 3 #[iv p1, iv p2, iv p3, iv p4, iv p5, iv p6, .unset, .unset, .unset, .unset, .unset] [(.int 0)] _
        refine XS.istore X1.here hx rfl (hb hby at_3) rfl (l' := #[iv p1, iv p2, iv p3, iv p4, iv p5, iv p6, iv 0, .unset, .unset, .unset, .unset]) rfl ?_
        refine XS.iload X1.here hx rfl (hb hby at_5) rfl ?_
        refine XS.iconst X1.here hx rfl (hb hby at_7) ?_
        refine XS.icmpYes X1.here hx rfl (pc0 := 8) (pc' := 17) rfl (hb hby at_8) rfl (feq (by decide : ¬ ((0 : Int32) = (3 : Int32)))).2 (by decide) (by decide) ?_
        refine XS.iload X1.here hx rfl (hb hby at_17) rfl ?_
        refine XS.ifNo X1.here hx rfl (hb hby at_19) rfl ((if0 _ _).trans (teq (by decide : (0 : Int32) = (0 : Int32))).2) ?_
        refine XS.iload X1.here hx rfl (hb hby at_22) rfl ?_
        refine XS.bipush X1.here hx rfl (hb hby at_24) ?_
        show SS p e below s₁ m 26 #[iv p1, iv p2, iv p3, iv p4, iv p5, iv p6, iv 0, .unset, .unset, .unset, .unset] [(.int 7), (.int p6)] _
        refine XS.iand X1.here hx rfl (hb hby at_26) rfl ?_
        rw [qn]
        show SS p e below s₁ m 27 #[iv p1, iv p2, iv p3, iv p4, iv p5, iv p6, iv 0, .unset, .unset, .unset, .unset] [(.int 6)] _
        refine XS.iloadN X1.here hx rfl (hb hby at_27) rfl ?_
        refine XS.sipush X1.here hx rfl (hb hby at_28) ?_
        show SS p e below s₁ m 31 #[iv p1, iv p2, iv p3, iv p4, iv p5, iv p6, iv 0, .unset, .unset, .unset, .unset] [(.int 255), (.int p2), (.int 6)] _
        refine XS.iand X1.here hx rfl (hb hby at_31) rfl ?_
        rw [q0]
        show SS p e below s₁ m 32 #[iv p1, iv p2, iv p3, iv p4, iv p5, iv p6, iv 0, .unset, .unset, .unset, .unset] [(.int 115), (.int 6)] _
        refine XS.i2c X1.here hx rfl (hb hby at_32) rfl ?_
        show SS p e below s₁ m 33 #[iv p1, iv p2, iv p3, iv p4, iv p5, iv p6, iv 0, .unset, .unset, .unset, .unset] [(.int 115), (.int 6)] _
        refine XS.iloadN X1.here hx rfl (hb hby at_33) rfl ?_
        refine XS.bipush X1.here hx rfl (hb hby at_34) ?_
        show SS p e below s₁ m 36 #[iv p1, iv p2, iv p3, iv p4, iv p5, iv p6, iv 0, .unset, .unset, .unset, .unset] [(.int 8), (.int p2), (.int 115), (.int 6)] _
        refine XS.iushr X1.here hx rfl (hb hby at_36) rfl ?_
        show SS p e below s₁ m 37 #[iv p1, iv p2, iv p3, iv p4, iv p5, iv p6, iv 0, .unset, .unset, .unset, .unset] [(.int (us8 p2)), (.int 115), (.int 6)] _
        refine XS.sipush X1.here hx rfl (hb hby at_37) ?_
        show SS p e below s₁ m 40 #[iv p1, iv p2, iv p3, iv p4, iv p5, iv p6, iv 0, .unset, .unset, .unset, .unset] [(.int 255), (.int (us8 p2)), (.int 115), (.int 6)] _
        refine XS.iand X1.here hx rfl (hb hby at_40) rfl ?_
        rw [q1]
        show SS p e below s₁ m 41 #[iv p1, iv p2, iv p3, iv p4, iv p5, iv p6, iv 0, .unset, .unset, .unset, .unset] [(.int 101), (.int 115), (.int 6)] _
        refine XS.i2c X1.here hx rfl (hb hby at_41) rfl ?_
        show SS p e below s₁ m 42 #[iv p1, iv p2, iv p3, iv p4, iv p5, iv p6, iv 0, .unset, .unset, .unset, .unset] [(.int 101), (.int 115), (.int 6)] _
        refine XS.iloadN X1.here hx rfl (hb hby at_42) rfl ?_
        refine XS.bipush X1.here hx rfl (hb hby at_43) ?_
        show SS p e below s₁ m 45 #[iv p1, iv p2, iv p3, iv p4, iv p5, iv p6, iv 0, .unset, .unset, .unset, .unset] [(.int 16), (.int p2), (.int 101), (.int 115), (.int 6)] _
        refine XS.iushr X1.here hx rfl (hb hby at_45) rfl ?_
        show SS p e below s₁ m 46 #[iv p1, iv p2, iv p3, iv p4, iv p5, iv p6, iv 0, .unset, .unset, .unset, .unset] [(.int (us16 p2)), (.int 101), (.int 115), (.int 6)] _
        refine XS.sipush X1.here hx rfl (hb hby at_46) ?_
        show SS p e below s₁ m 49 #[iv p1, iv p2, iv p3, iv p4, iv p5, iv p6, iv 0, .unset, .unset, .unset, .unset] [(.int 255), (.int (us16 p2)), (.int 101), (.int 115), (.int 6)] _
        refine XS.iand X1.here hx rfl (hb hby at_49) rfl ?_
        rw [q2]
        show SS p e below s₁ m 50 #[iv p1, iv p2, iv p3, iv p4, iv p5, iv p6, iv 0, .unset, .unset, .unset, .unset] [(.int 114), (.int 101), (.int 115), (.int 6)] _
        refine XS.i2c X1.here hx rfl (hb hby at_50) rfl ?_
        show SS p e below s₁ m 51 #[iv p1, iv p2, iv p3, iv p4, iv p5, iv p6, iv 0, .unset, .unset, .unset, .unset] [(.int 114), (.int 101), (.int 115), (.int 6)] _
        refine XS.iloadN X1.here hx rfl (hb hby at_51) rfl ?_
        refine XS.bipush X1.here hx rfl (hb hby at_52) ?_
        show SS p e below s₁ m 54 #[iv p1, iv p2, iv p3, iv p4, iv p5, iv p6, iv 0, .unset, .unset, .unset, .unset] [(.int 24), (.int p2), (.int 114), (.int 101), (.int 115), (.int 6)] _
        refine XS.iushr X1.here hx rfl (hb hby at_54) rfl ?_
        show SS p e below s₁ m 55 #[iv p1, iv p2, iv p3, iv p4, iv p5, iv p6, iv 0, .unset, .unset, .unset, .unset] [(.int (us24 p2)), (.int 114), (.int 101), (.int 115), (.int 6)] _
        refine XS.sipush X1.here hx rfl (hb hby at_55) ?_
        show SS p e below s₁ m 58 #[iv p1, iv p2, iv p3, iv p4, iv p5, iv p6, iv 0, .unset, .unset, .unset, .unset] [(.int 255), (.int (us24 p2)), (.int 114), (.int 101), (.int 115), (.int 6)] _
        refine XS.iand X1.here hx rfl (hb hby at_58) rfl ?_
        rw [q3]
        show SS p e below s₁ m 59 #[iv p1, iv p2, iv p3, iv p4, iv p5, iv p6, iv 0, .unset, .unset, .unset, .unset] [(.int 118), (.int 114), (.int 101), (.int 115), (.int 6)] _
        refine XS.i2c X1.here hx rfl (hb hby at_59) rfl ?_
        show SS p e below s₁ m 60 #[iv p1, iv p2, iv p3, iv p4, iv p5, iv p6, iv 0, .unset, .unset, .unset, .unset] [(.int 118), (.int 114), (.int 101), (.int 115), (.int 6)] _
        refine XS.iloadN X1.here hx rfl (hb hby at_60) rfl ?_
        refine XS.sipush X1.here hx rfl (hb hby at_61) ?_
        show SS p e below s₁ m 64 #[iv p1, iv p2, iv p3, iv p4, iv p5, iv p6, iv 0, .unset, .unset, .unset, .unset] [(.int 255), (.int p3), (.int 118), (.int 114), (.int 101), (.int 115), (.int 6)] _
        refine XS.iand X1.here hx rfl (hb hby at_64) rfl ?_
        rw [q4]
        show SS p e below s₁ m 65 #[iv p1, iv p2, iv p3, iv p4, iv p5, iv p6, iv 0, .unset, .unset, .unset, .unset] [(.int 101), (.int 118), (.int 114), (.int 101), (.int 115), (.int 6)] _
        refine XS.i2c X1.here hx rfl (hb hby at_65) rfl ?_
        show SS p e below s₁ m 66 #[iv p1, iv p2, iv p3, iv p4, iv p5, iv p6, iv 0, .unset, .unset, .unset, .unset] [(.int 101), (.int 118), (.int 114), (.int 101), (.int 115), (.int 6)] _
        refine XS.iloadN X1.here hx rfl (hb hby at_66) rfl ?_
        refine XS.bipush X1.here hx rfl (hb hby at_67) ?_
        show SS p e below s₁ m 69 #[iv p1, iv p2, iv p3, iv p4, iv p5, iv p6, iv 0, .unset, .unset, .unset, .unset] [(.int 8), (.int p3), (.int 101), (.int 118), (.int 114), (.int 101), (.int 115), (.int 6)] _
        refine XS.iushr X1.here hx rfl (hb hby at_69) rfl ?_
        show SS p e below s₁ m 70 #[iv p1, iv p2, iv p3, iv p4, iv p5, iv p6, iv 0, .unset, .unset, .unset, .unset] [(.int (us8 p3)), (.int 101), (.int 118), (.int 114), (.int 101), (.int 115), (.int 6)] _
        refine XS.sipush X1.here hx rfl (hb hby at_70) ?_
        show SS p e below s₁ m 73 #[iv p1, iv p2, iv p3, iv p4, iv p5, iv p6, iv 0, .unset, .unset, .unset, .unset] [(.int 255), (.int (us8 p3)), (.int 101), (.int 118), (.int 114), (.int 101), (.int 115), (.int 6)] _
        refine XS.iand X1.here hx rfl (hb hby at_73) rfl ?_
        rw [q5]
        show SS p e below s₁ m 74 #[iv p1, iv p2, iv p3, iv p4, iv p5, iv p6, iv 0, .unset, .unset, .unset, .unset] [(.int 114), (.int 101), (.int 118), (.int 114), (.int 101), (.int 115), (.int 6)] _
        refine XS.i2c X1.here hx rfl (hb hby at_74) rfl ?_
        show SS p e below s₁ m 75 #[iv p1, iv p2, iv p3, iv p4, iv p5, iv p6, iv 0, .unset, .unset, .unset, .unset] [(.int 114), (.int 101), (.int 118), (.int 114), (.int 101), (.int 115), (.int 6)] _
        refine XS.iloadN X1.here hx rfl (hb hby at_75) rfl ?_
        refine XS.bipush X1.here hx rfl (hb hby at_76) ?_
        show SS p e below s₁ m 78 #[iv p1, iv p2, iv p3, iv p4, iv p5, iv p6, iv 0, .unset, .unset, .unset, .unset] [(.int 16), (.int p3), (.int 114), (.int 101), (.int 118), (.int 114), (.int 101), (.int 115), (.int 6)] _
        refine XS.iushr X1.here hx rfl (hb hby at_78) rfl ?_
        show SS p e below s₁ m 79 #[iv p1, iv p2, iv p3, iv p4, iv p5, iv p6, iv 0, .unset, .unset, .unset, .unset] [(.int (us16 p3)), (.int 114), (.int 101), (.int 118), (.int 114), (.int 101), (.int 115), (.int 6)] _
        refine XS.sipush X1.here hx rfl (hb hby at_79) ?_
        refine XS.iand X1.here hx rfl (hb hby at_82) rfl ?_
        show SS p e below s₁ m 83 #[iv p1, iv p2, iv p3, iv p4, iv p5, iv p6, iv 0, .unset, .unset, .unset, .unset] [(.int ((us16 p3) &&& (255 : Int32))), (.int 114), (.int 101), (.int 118), (.int 114), (.int 101), (.int 115), (.int 6)] _
        refine XS.i2c X1.here hx rfl (hb hby at_83) rfl ?_
        rw [(i2c_mask (us16 p3))]
        show SS p e below s₁ m 84 #[iv p1, iv p2, iv p3, iv p4, iv p5, iv p6, iv 0, .unset, .unset, .unset, .unset] [(.int ((us16 p3) &&& (255 : Int32))), (.int 114), (.int 101), (.int 118), (.int 114), (.int 101), (.int 115), (.int 6)] _
        refine st3 _ ?_
        refine XS.astore X3.here hx rfl (hb hby at_87) rfl rfl (l' := #[iv p1, iv p2, iv p3, iv p4, iv p5, iv p6, iv 0, rv b3_0, .unset, .unset, .unset]) rfl ?_
        refine XS.goto X3.here hx rfl (pc0 := 89) (pc' := 211) rfl (hb hby at_89) (by decide) (by decide) ?_
        exact qt
      · obtain ⟨T3, h3, k3, X3, e3, E3, A3, B3, st3⟩ := newPE X1 hx hZ (W 7 rfl) e0 (g := (mkF m 139 #[iv p1, iv p2, iv p3, iv p4, iv p5, iv p6, iv 2, .unset, .unset, .unset, .unset] [(.int 6)])) rfl (hb hby at_139) rfl (by decide) (cap := 6) (by decide) (by decide) (by decide) (by decide) (ad := "[C") rfl
        obtain ⟨b3, g3⟩ : ∃ z, z = h0.size := ⟨_, rfl⟩
        rw [← g3] at A3 B3 st3
        have c4 := CHr.ext E3 H0
        have C5 := CHr.trans (CHr.refl H0) c4
        have O6 := O0.ext E3
        have K7 : Keep h0 h3 [] := Keep.ext (Keep.refl h0 []) E3
        have v8 : Arv Z h3 b3 k3 .char 6 [(.int 0), (.int 0), (.int 0), (.int 0), (.int 0), (.int 0)] (.int 0) := (Arv.new A3 (by decide)).pad (pad_rep [] (.int 0) 6)
        obtain ⟨c9, A9, q9, S9, N9, H9, G9⟩ := id v8
        have i10 : NB 0 c9 := inb_of S9 (by decide)
        obtain ⟨T10, h10, X10, e10, W10, st10⟩ := stC X3 hx hZ e3 A9 (j := 0) i10 (g := (mkF m 145 #[iv p1, iv p2, iv p3, iv p4, iv p5, iv p6, iv 2, .unset, .unset, .unset, .unset] [(.int 115), (.int 0), (.ref b3), (.ref b3)])) rfl rfl (hb hby at_145)
        have s11 := Safe.exa (EL := consts_1) hZ.alike B3 (by decide) (by decide)
        have c12 := CHr.wr W10 s11 c4.1
        have C13 := CHr.trans C5 c12
        have g14 : n0 ≤ b3 := Nat.le_trans (Nat.le_trans (Nat.le_of_eq O0.1.symm) O0.2.1) (Nat.le_of_eq g3.symm)
        have O15 := O6.wr W10 g14
        have K16 : Keep h0 h10 [] := Keep.wr K7 W10 (Or.inr (Nat.le_of_eq g3.symm))
        have v17 : Arv Z h10 b3 k3 .char 6 [(.int 115), (.int 0), (.int 0), (.int 0), (.int 0), (.int 0)] (.int 0) := Arv.set A9 q9 S9 N9 H9 G9 (fits_nar_char _) W10 0 rfl (Nat.le_of_ble_eq_true rfl)
        have N18 := Fr.snoc X10 N0 g14
        obtain ⟨c19, A19, q19, S19, N19, H19, G19⟩ := id v17
        have i20 : NB 1 c19 := inb_of S19 (by decide)
        obtain ⟨T20, h20, X20, e20, W20, st20⟩ := stC X10 hx hZ e10 A19 (j := 1) i20 (g := (mkF m 150 #[iv p1, iv p2, iv p3, iv p4, iv p5, iv p6, iv 2, .unset, .unset, .unset, .unset] [(.int 101), (.int 1), (.ref b3), (.ref b3)])) rfl rfl (hb hby at_150)
        have f21 := (B3.wr W10)
        have s22 := Safe.exa (EL := consts_1) hZ.alike f21 (by decide) (by decide)
        have c23 := CHr.wr W20 s22 c12.1
        have C24 := CHr.trans C13 c23
        have O25 := O15.wr W20 g14
        have K26 : Keep h0 h20 [] := Keep.wr K16 W20 (Or.inr (Nat.le_of_eq g3.symm))
        have v27 : Arv Z h20 b3 k3 .char 6 [(.int 115), (.int 101), (.int 0), (.int 0), (.int 0), (.int 0)] (.int 0) := Arv.set A19 q19 S19 N19 H19 G19 (fits_nar_char _) W20 1 rfl (Nat.le_of_ble_eq_true rfl)
        have N28 := Fr.snoc X20 N18 g14
        obtain ⟨c29, A29, q29, S29, N29, H29, G29⟩ := id v27
        have i30 : NB 2 c29 := inb_of S29 (by decide)
        obtain ⟨T30, h30, X30, e30, W30, st30⟩ := stC X20 hx hZ e20 A29 (j := 2) i30 (g := (mkF m 155 #[iv p1, iv p2, iv p3, iv p4, iv p5, iv p6, iv 2, .unset, .unset, .unset, .unset] [(.int 114), (.int 2), (.ref b3), (.ref b3)])) rfl rfl (hb hby at_155)
        have f31 := (f21.wr W20)
        have s32 := Safe.exa (EL := consts_1) hZ.alike f31 (by decide) (by decide)
        have c33 := CHr.wr W30 s32 c23.1
        have C34 := CHr.trans C24 c33
        have O35 := O25.wr W30 g14
        have K36 : Keep h0 h30 [] := Keep.wr K26 W30 (Or.inr (Nat.le_of_eq g3.symm))
        have v37 : Arv Z h30 b3 k3 .char 6 [(.int 115), (.int 101), (.int 114), (.int 0), (.int 0), (.int 0)] (.int 0) := Arv.set A29 q29 S29 N29 H29 G29 (fits_nar_char _) W30 2 rfl (Nat.le_of_ble_eq_true rfl)
        have N38 := Fr.snoc X30 N28 g14
        obtain ⟨c39, A39, q39, S39, N39, H39, G39⟩ := id v37
        have i40 : NB 3 c39 := inb_of S39 (by decide)
        obtain ⟨T40, h40, X40, e40, W40, st40⟩ := stC X30 hx hZ e30 A39 (j := 3) i40 (g := (mkF m 160 #[iv p1, iv p2, iv p3, iv p4, iv p5, iv p6, iv 2, .unset, .unset, .unset, .unset] [(.int 118), (.int 3), (.ref b3), (.ref b3)])) rfl rfl (hb hby at_160)
        have f41 := (f31.wr W30)
        have s42 := Safe.exa (EL := consts_1) hZ.alike f41 (by decide) (by decide)
        have c43 := CHr.wr W40 s42 c33.1
        have C44 := CHr.trans C34 c43
        have O45 := O35.wr W40 g14
        have K46 : Keep h0 h40 [] := Keep.wr K36 W40 (Or.inr (Nat.le_of_eq g3.symm))
        have v47 : Arv Z h40 b3 k3 .char 6 [(.int 115), (.int 101), (.int 114), (.int 118), (.int 0), (.int 0)] (.int 0) := Arv.set A39 q39 S39 N39 H39 G39 (fits_nar_char _) W40 3 rfl (Nat.le_of_ble_eq_true rfl)
        have N48 := Fr.snoc X40 N38 g14
        obtain ⟨c49, A49, q49, S49, N49, H49, G49⟩ := id v47
        have i50 : NB 4 c49 := inb_of S49 (by decide)
        obtain ⟨T50, h50, X50, e50, W50, st50⟩ := stC X40 hx hZ e40 A49 (j := 4) i50 (g := (mkF m 165 #[iv p1, iv p2, iv p3, iv p4, iv p5, iv p6, iv 2, .unset, .unset, .unset, .unset] [(.int 101), (.int 4), (.ref b3), (.ref b3)])) rfl rfl (hb hby at_165)
        have f51 := (f41.wr W40)
        have s52 := Safe.exa (EL := consts_1) hZ.alike f51 (by decide) (by decide)
        have c53 := CHr.wr W50 s52 c43.1
        have C54 := CHr.trans C44 c53
        have O55 := O45.wr W50 g14
        have K56 : Keep h0 h50 [] := Keep.wr K46 W50 (Or.inr (Nat.le_of_eq g3.symm))
        have v57 : Arv Z h50 b3 k3 .char 6 [(.int 115), (.int 101), (.int 114), (.int 118), (.int 101), (.int 0)] (.int 0) := Arv.set A49 q49 S49 N49 H49 G49 (fits_nar_char _) W50 4 rfl (Nat.le_of_ble_eq_true rfl)
        have N58 := Fr.snoc X50 N48 g14
        obtain ⟨c59, A59, q59, S59, N59, H59, G59⟩ := id v57
        have i60 : NB 5 c59 := inb_of S59 (by decide)
        obtain ⟨T60, h60, X60, e60, W60, st60⟩ := stC X50 hx hZ e50 A59 (j := 5) i60 (g := (mkF m 170 #[iv p1, iv p2, iv p3, iv p4, iv p5, iv p6, iv 2, .unset, .unset, .unset, .unset] [(.int 114), (.int 5), (.ref b3), (.ref b3)])) rfl rfl (hb hby at_170)
        have f61 := (f51.wr W50)
        have s62 := Safe.exa (EL := consts_1) hZ.alike f61 (by decide) (by decide)
        have c63 := CHr.wr W60 s62 c53.1
        have C64 := CHr.trans C54 c63
        have O65 := O55.wr W60 g14
        have K66 : Keep h0 h60 [] := Keep.wr K56 W60 (Or.inr (Nat.le_of_eq g3.symm))
        have v67 : Arv Z h60 b3 k3 .char 6 [(.int 115), (.int 101), (.int 114), (.int 118), (.int 101), (.int 114)] (.int 0) := Arv.set A59 q59 S59 N59 H59 G59 (fits_nar_char _) W60 5 rfl (Nat.le_of_ble_eq_true rfl)
        have N68 := Fr.snoc X60 N58 g14
        obtain ⟨T69, h69, vm69, k69, L69, X69, e69, N69, K69, hS69, hk69, hZ69, hown69, c69, J69_0, st69⟩ : ∃ (T69 : State) (h69 : Heap) (vm69 : Vm) (k69 : Nat) (L69 : List Loc), Stand p l e room_1 (s.setVm vm69) m #[(.int p1), (.int p2), (.int p3), (.int p4), (.int p5), (.int p6)] below meth c T69 L69 1 6 ∧ T69.heap = h69 ∧ Fr n0 L69 ∧ Keep h60 h69 [b3] ∧ s.Since vm69 k69 ∧ k69 ≤ h69.size ∧ Z.Warmed39 vm69 ∧ vm69.findClass "com/example/duplex/duplex/compliance/SideOfLabelPinLaw" = some m.cls ∧ CHr Z consts_1 s.vm h60 vm69 h69 ∧ Arv Z h69 b3 k3 .char 6 [(.int 115), (.int 101), (.int 114), (.int 118), (.int 101), (.int 114)] (.int 0) ∧ ∀ t, SS p e below T69 m 200 #[iv p1, iv p2, iv p3, iv p4, iv p5, iv p6, iv 2, .unset, rv b3, .unset, .unset] [] t → SS p e below T60 m 173 #[iv p1, iv p2, iv p3, iv p4, iv p5, iv p6, iv 2, .unset, rv b3, .unset, .unset] [] t := by
          rcases qr with qb | ⟨qb, qq, qc⟩ | ⟨qb, qq, qc⟩ | ⟨qb, qq, qc⟩ | ⟨qb, qq, qc⟩ | ⟨qb, qq, qc⟩ | ⟨qb, qq, qc⟩
          · refine ⟨T60, h60, s.vm, _, _, X60.more (by decide) (by decide), e60, N68, (Keep.refl h60 [b3]), ((State.WarmedH.refl s).since 0), (Nat.zero_le _), hZ, hown, (CHr.refl c63.1), v67, fun t qt => ?_⟩
            show SS p e below T60 m 173 #[iv p1, iv p2, iv p3, iv p4, iv p5, iv p6, iv 2, .unset, rv b3, .unset, .unset] [] _
            refine XS.iload X60.here hx rfl (hb hby at_173) rfl ?_
            refine XS.bipush X60.here hx rfl (hb hby at_175) ?_
            show SS p e below T60 m 177 #[iv p1, iv p2, iv p3, iv p4, iv p5, iv p6, iv 2, .unset, rv b3, .unset, .unset] [(.int 8), (.int p5)] _
            refine XS.iushr X60.here hx rfl (hb hby at_177) rfl ?_
            show SS p e below T60 m 178 #[iv p1, iv p2, iv p3, iv p4, iv p5, iv p6, iv 2, .unset, rv b3, .unset, .unset] [(.int (us8 p5))] _
            refine XS.iconst X60.here hx rfl (hb hby at_178) ?_
            show SS p e below T60 m 179 #[iv p1, iv p2, iv p3, iv p4, iv p5, iv p6, iv 2, .unset, rv b3, .unset, .unset] [(.int 1), (.int (us8 p5))] _
            refine XS.iand X60.here hx rfl (hb hby at_179) rfl ?_
            rw [qb]
            show SS p e below T60 m 180 #[iv p1, iv p2, iv p3, iv p4, iv p5, iv p6, iv 2, .unset, rv b3, .unset, .unset] [(.int 0)] _
            refine XS.ifYes X60.here hx rfl (pc0 := 180) (pc' := 200) rfl (hb hby at_180) rfl ((if0 _ _).trans (teq (by decide : (0 : Int32) = (0 : Int32))).1) (by decide) (by decide) ?_
            exact qt
          · obtain ⟨c70, A70, q70, S70, N70, H70, G70⟩ := id v67
            have i71 : NB 0 c70 := inb_of S70 (by decide)
            obtain ⟨T71, h71, X71, e71, W71, st71⟩ := stC X60 hx hZ e60 A70 (j := 0) i71 (g := (mkF m 199 #[iv p1, iv p2, iv p3, iv p4, iv p5, iv p6, iv 2, .unset, rv b3, .unset, .unset] [(.int 115), (.int 0), (.ref b3)])) rfl rfl (hb hby at_199)
            have f72 := (f61.wr W60)
            have s73 := Safe.exa (EL := consts_1) hZ.alike f72 (by decide) (by decide)
            have c74 := CHr.wr W71 s73 c63.1
            have C75 := CHr.trans (CHr.refl c63.1) c74
            have O76 := O65.wr W71 g14
            have K77 : Keep h60 h71 [b3] := Keep.wr (Keep.refl h60 [b3]) W71 (Or.inl (List.mem_of_getElem? (i := 0) rfl))
            have v78 : Arv Z h71 b3 k3 .char 6 [(.int 115), (.int 101), (.int 114), (.int 118), (.int 101), (.int 114)] (.int 0) := Arv.set A70 q70 S70 N70 H70 G70 (fits_nar_char _) W71 0 rfl (Nat.le_of_ble_eq_true rfl)
            have N79 := Fr.snoc X71 N68 g14
            refine ⟨T71, h71, s.vm, _, _, X71.more (by decide) (by decide), e71, N79, K77, ((State.WarmedH.refl s).since 0), (Nat.zero_le _), hZ, hown, C75, v78, fun t qt => ?_⟩
            show SS p e below T60 m 173 #[iv p1, iv p2, iv p3, iv p4, iv p5, iv p6, iv 2, .unset, rv b3, .unset, .unset] [] _
            refine XS.iload X60.here hx rfl (hb hby at_173) rfl ?_
            refine XS.bipush X60.here hx rfl (hb hby at_175) ?_
            show SS p e below T60 m 177 #[iv p1, iv p2, iv p3, iv p4, iv p5, iv p6, iv 2, .unset, rv b3, .unset, .unset] [(.int 8), (.int p5)] _
            refine XS.iushr X60.here hx rfl (hb hby at_177) rfl ?_
            show SS p e below T60 m 178 #[iv p1, iv p2, iv p3, iv p4, iv p5, iv p6, iv 2, .unset, rv b3, .unset, .unset] [(.int (us8 p5))] _
            refine XS.iconst X60.here hx rfl (hb hby at_178) ?_
            show SS p e below T60 m 179 #[iv p1, iv p2, iv p3, iv p4, iv p5, iv p6, iv 2, .unset, rv b3, .unset, .unset] [(.int 1), (.int (us8 p5))] _
            refine XS.iand X60.here hx rfl (hb hby at_179) rfl ?_
            rw [qb]
            show SS p e below T60 m 180 #[iv p1, iv p2, iv p3, iv p4, iv p5, iv p6, iv 2, .unset, rv b3, .unset, .unset] [(.int 1)] _
            refine XS.ifNo X60.here hx rfl (hb hby at_180) rfl ((if0 _ _).trans (feq (by decide : ¬ ((1 : Int32) = (0 : Int32)))).1) ?_
            refine XS.aload X60.here hx rfl (hb hby at_183) rfl rfl ?_
            refine XS.iloadN X60.here hx rfl (hb hby at_185) rfl ?_
            refine X60.ldcInt hx hown (mvT hZ (W 79 rfl)) (g := (mkF m 186 #[iv p1, iv p2, iv p3, iv p4, iv p5, iv p6, iv 2, .unset, rv b3, .unset, .unset] [(.int p4), (.ref b3)])) rfl (hb hby at_186) _ ?_
            show SS p e below T60 m 188 #[iv p1, iv p2, iv p3, iv p4, iv p5, iv p6, iv 2, .unset, rv b3, .unset, .unset] [(.int 2147483647), (.int p4), (.ref b3)] _
            refine XS.iand X60.here hx rfl (hb hby at_188) rfl ?_
            show SS p e below T60 m 189 #[iv p1, iv p2, iv p3, iv p4, iv p5, iv p6, iv 2, .unset, rv b3, .unset, .unset] [(.int (p4 &&& (2147483647 : Int32))), (.ref b3)] _
            refine XS.bipush X60.here hx rfl (hb hby at_189) ?_
            show SS p e below T60 m 191 #[iv p1, iv p2, iv p3, iv p4, iv p5, iv p6, iv 2, .unset, rv b3, .unset, .unset] [(.int 6), (.int (p4 &&& (2147483647 : Int32))), (.ref b3)] _
            refine iremM (g := (mkF m 191 #[iv p1, iv p2, iv p3, iv p4, iv p5, iv p6, iv 2, .unset, rv b3, .unset, .unset] [(.int 6), (.int (p4 &&& (2147483647 : Int32))), (.ref b3)])) X60 hx rfl (hb hby at_191) rfl (by decide : ¬ ((6 : Int32) = (0 : Int32))) ?_
            rw [qq]
            show SS p e below T60 m 192 #[iv p1, iv p2, iv p3, iv p4, iv p5, iv p6, iv 2, .unset, rv b3, .unset, .unset] [(.int 0), (.ref b3)] _
            refine XS.iload X60.here hx rfl (hb hby at_192) rfl ?_
            refine XS.sipush X60.here hx rfl (hb hby at_194) ?_
            show SS p e below T60 m 197 #[iv p1, iv p2, iv p3, iv p4, iv p5, iv p6, iv 2, .unset, rv b3, .unset, .unset] [(.int 255), (.int p5), (.int 0), (.ref b3)] _
            refine XS.iand X60.here hx rfl (hb hby at_197) rfl ?_
            rw [qc]
            show SS p e below T60 m 198 #[iv p1, iv p2, iv p3, iv p4, iv p5, iv p6, iv 2, .unset, rv b3, .unset, .unset] [(.int 115), (.int 0), (.ref b3)] _
            refine XS.i2c X60.here hx rfl (hb hby at_198) rfl ?_
            show SS p e below T60 m 199 #[iv p1, iv p2, iv p3, iv p4, iv p5, iv p6, iv 2, .unset, rv b3, .unset, .unset] [(.int 115), (.int 0), (.ref b3)] _
            refine st71 _ ?_
            exact qt
          · obtain ⟨c70, A70, q70, S70, N70, H70, G70⟩ := id v67
            have i71 : NB 1 c70 := inb_of S70 (by decide)
            obtain ⟨T71, h71, X71, e71, W71, st71⟩ := stC X60 hx hZ e60 A70 (j := 1) i71 (g := (mkF m 199 #[iv p1, iv p2, iv p3, iv p4, iv p5, iv p6, iv 2, .unset, rv b3, .unset, .unset] [(.int 101), (.int 1), (.ref b3)])) rfl rfl (hb hby at_199)
            have f72 := (f61.wr W60)
            have s73 := Safe.exa (EL := consts_1) hZ.alike f72 (by decide) (by decide)
            have c74 := CHr.wr W71 s73 c63.1
            have C75 := CHr.trans (CHr.refl c63.1) c74
            have O76 := O65.wr W71 g14
            have K77 : Keep h60 h71 [b3] := Keep.wr (Keep.refl h60 [b3]) W71 (Or.inl (List.mem_of_getElem? (i := 0) rfl))
            have v78 : Arv Z h71 b3 k3 .char 6 [(.int 115), (.int 101), (.int 114), (.int 118), (.int 101), (.int 114)] (.int 0) := Arv.set A70 q70 S70 N70 H70 G70 (fits_nar_char _) W71 1 rfl (Nat.le_of_ble_eq_true rfl)
            have N79 := Fr.snoc X71 N68 g14
            refine ⟨T71, h71, s.vm, _, _, X71.more (by decide) (by decide), e71, N79, K77, ((State.WarmedH.refl s).since 0), (Nat.zero_le _), hZ, hown, C75, v78, fun t qt => ?_⟩
            show SS p e below T60 m 173 #[iv p1, iv p2, iv p3, iv p4, iv p5, iv p6, iv 2, .unset, rv b3, .unset, .unset] [] _
            refine XS.iload X60.here hx rfl (hb hby at_173) rfl ?_
            refine XS.bipush X60.here hx rfl (hb hby at_175) ?_
            show SS p e below T60 m 177 #[iv p1, iv p2, iv p3, iv p4, iv p5, iv p6, iv 2, .unset, rv b3, .unset, .unset] [(.int 8), (.int p5)] _
            refine XS.iushr X60.here hx rfl (hb hby at_177) rfl ?_
            show SS p e below T60 m 178 #[iv p1, iv p2, iv p3, iv p4, iv p5, iv p6, iv 2, .unset, rv b3, .unset, .unset] [(.int (us8 p5))] _
            refine XS.iconst X60.here hx rfl (hb hby at_178) ?_
            show SS p e below T60 m 179 #[iv p1, iv p2, iv p3, iv p4, iv p5, iv p6, iv 2, .unset, rv b3, .unset, .unset] [(.int 1), (.int (us8 p5))] _
            refine XS.iand X60.here hx rfl (hb hby at_179) rfl ?_
            rw [qb]
            show SS p e below T60 m 180 #[iv p1, iv p2, iv p3, iv p4, iv p5, iv p6, iv 2, .unset, rv b3, .unset, .unset] [(.int 1)] _
            refine XS.ifNo X60.here hx rfl (hb hby at_180) rfl ((if0 _ _).trans (feq (by decide : ¬ ((1 : Int32) = (0 : Int32)))).1) ?_
            refine XS.aload X60.here hx rfl (hb hby at_183) rfl rfl ?_
            refine XS.iloadN X60.here hx rfl (hb hby at_185) rfl ?_
            refine X60.ldcInt hx hown (mvT hZ (W 79 rfl)) (g := (mkF m 186 #[iv p1, iv p2, iv p3, iv p4, iv p5, iv p6, iv 2, .unset, rv b3, .unset, .unset] [(.int p4), (.ref b3)])) rfl (hb hby at_186) _ ?_
            show SS p e below T60 m 188 #[iv p1, iv p2, iv p3, iv p4, iv p5, iv p6, iv 2, .unset, rv b3, .unset, .unset] [(.int 2147483647), (.int p4), (.ref b3)] _
            refine XS.iand X60.here hx rfl (hb hby at_188) rfl ?_
            show SS p e below T60 m 189 #[iv p1, iv p2, iv p3, iv p4, iv p5, iv p6, iv 2, .unset, rv b3, .unset, .unset] [(.int (p4 &&& (2147483647 : Int32))), (.ref b3)] _
            refine XS.bipush X60.here hx rfl (hb hby at_189) ?_
            show SS p e below T60 m 191 #[iv p1, iv p2, iv p3, iv p4, iv p5, iv p6, iv 2, .unset, rv b3, .unset, .unset] [(.int 6), (.int (p4 &&& (2147483647 : Int32))), (.ref b3)] _
            refine iremM (g := (mkF m 191 #[iv p1, iv p2, iv p3, iv p4, iv p5, iv p6, iv 2, .unset, rv b3, .unset, .unset] [(.int 6), (.int (p4 &&& (2147483647 : Int32))), (.ref b3)])) X60 hx rfl (hb hby at_191) rfl (by decide : ¬ ((6 : Int32) = (0 : Int32))) ?_
            rw [qq]
            show SS p e below T60 m 192 #[iv p1, iv p2, iv p3, iv p4, iv p5, iv p6, iv 2, .unset, rv b3, .unset, .unset] [(.int 1), (.ref b3)] _
            refine XS.iload X60.here hx rfl (hb hby at_192) rfl ?_
            refine XS.sipush X60.here hx rfl (hb hby at_194) ?_
            show SS p e below T60 m 197 #[iv p1, iv p2, iv p3, iv p4, iv p5, iv p6, iv 2, .unset, rv b3, .unset, .unset] [(.int 255), (.int p5), (.int 1), (.ref b3)] _
            refine XS.iand X60.here hx rfl (hb hby at_197) rfl ?_
            rw [qc]
            show SS p e below T60 m 198 #[iv p1, iv p2, iv p3, iv p4, iv p5, iv p6, iv 2, .unset, rv b3, .unset, .unset] [(.int 101), (.int 1), (.ref b3)] _
            refine XS.i2c X60.here hx rfl (hb hby at_198) rfl ?_
            show SS p e below T60 m 199 #[iv p1, iv p2, iv p3, iv p4, iv p5, iv p6, iv 2, .unset, rv b3, .unset, .unset] [(.int 101), (.int 1), (.ref b3)] _
            refine st71 _ ?_
            exact qt
          · obtain ⟨c70, A70, q70, S70, N70, H70, G70⟩ := id v67
            have i71 : NB 2 c70 := inb_of S70 (by decide)
            obtain ⟨T71, h71, X71, e71, W71, st71⟩ := stC X60 hx hZ e60 A70 (j := 2) i71 (g := (mkF m 199 #[iv p1, iv p2, iv p3, iv p4, iv p5, iv p6, iv 2, .unset, rv b3, .unset, .unset] [(.int 114), (.int 2), (.ref b3)])) rfl rfl (hb hby at_199)
            have f72 := (f61.wr W60)
            have s73 := Safe.exa (EL := consts_1) hZ.alike f72 (by decide) (by decide)
            have c74 := CHr.wr W71 s73 c63.1
            have C75 := CHr.trans (CHr.refl c63.1) c74
            have O76 := O65.wr W71 g14
            have K77 : Keep h60 h71 [b3] := Keep.wr (Keep.refl h60 [b3]) W71 (Or.inl (List.mem_of_getElem? (i := 0) rfl))
            have v78 : Arv Z h71 b3 k3 .char 6 [(.int 115), (.int 101), (.int 114), (.int 118), (.int 101), (.int 114)] (.int 0) := Arv.set A70 q70 S70 N70 H70 G70 (fits_nar_char _) W71 2 rfl (Nat.le_of_ble_eq_true rfl)
            have N79 := Fr.snoc X71 N68 g14
            refine ⟨T71, h71, s.vm, _, _, X71.more (by decide) (by decide), e71, N79, K77, ((State.WarmedH.refl s).since 0), (Nat.zero_le _), hZ, hown, C75, v78, fun t qt => ?_⟩
            show SS p e below T60 m 173 #[iv p1, iv p2, iv p3, iv p4, iv p5, iv p6, iv 2, .unset, rv b3, .unset, .unset] [] _
            refine XS.iload X60.here hx rfl (hb hby at_173) rfl ?_
            refine XS.bipush X60.here hx rfl (hb hby at_175) ?_
            show SS p e below T60 m 177 #[iv p1, iv p2, iv p3, iv p4, iv p5, iv p6, iv 2, .unset, rv b3, .unset, .unset] [(.int 8), (.int p5)] _
            refine XS.iushr X60.here hx rfl (hb hby at_177) rfl ?_
            show SS p e below T60 m 178 #[iv p1, iv p2, iv p3, iv p4, iv p5, iv p6, iv 2, .unset, rv b3, .unset, .unset] [(.int (us8 p5))] _
            refine XS.iconst X60.here hx rfl (hb hby at_178) ?_
            show SS p e below T60 m 179 #[iv p1, iv p2, iv p3, iv p4, iv p5, iv p6, iv 2, .unset, rv b3, .unset, .unset] [(.int 1), (.int (us8 p5))] _
            refine XS.iand X60.here hx rfl (hb hby at_179) rfl ?_
            rw [qb]
            show SS p e below T60 m 180 #[iv p1, iv p2, iv p3, iv p4, iv p5, iv p6, iv 2, .unset, rv b3, .unset, .unset] [(.int 1)] _
            refine XS.ifNo X60.here hx rfl (hb hby at_180) rfl ((if0 _ _).trans (feq (by decide : ¬ ((1 : Int32) = (0 : Int32)))).1) ?_
            refine XS.aload X60.here hx rfl (hb hby at_183) rfl rfl ?_
            refine XS.iloadN X60.here hx rfl (hb hby at_185) rfl ?_
            refine X60.ldcInt hx hown (mvT hZ (W 79 rfl)) (g := (mkF m 186 #[iv p1, iv p2, iv p3, iv p4, iv p5, iv p6, iv 2, .unset, rv b3, .unset, .unset] [(.int p4), (.ref b3)])) rfl (hb hby at_186) _ ?_
            show SS p e below T60 m 188 #[iv p1, iv p2, iv p3, iv p4, iv p5, iv p6, iv 2, .unset, rv b3, .unset, .unset] [(.int 2147483647), (.int p4), (.ref b3)] _
            refine XS.iand X60.here hx rfl (hb hby at_188) rfl ?_
            show SS p e below T60 m 189 #[iv p1, iv p2, iv p3, iv p4, iv p5, iv p6, iv 2, .unset, rv b3, .unset, .unset] [(.int (p4 &&& (2147483647 : Int32))), (.ref b3)] _
            refine XS.bipush X60.here hx rfl (hb hby at_189) ?_
            show SS p e below T60 m 191 #[iv p1, iv p2, iv p3, iv p4, iv p5, iv p6, iv 2, .unset, rv b3, .unset, .unset] [(.int 6), (.int (p4 &&& (2147483647 : Int32))), (.ref b3)] _
            refine iremM (g := (mkF m 191 #[iv p1, iv p2, iv p3, iv p4, iv p5, iv p6, iv 2, .unset, rv b3, .unset, .unset] [(.int 6), (.int (p4 &&& (2147483647 : Int32))), (.ref b3)])) X60 hx rfl (hb hby at_191) rfl (by decide : ¬ ((6 : Int32) = (0 : Int32))) ?_
            rw [qq]
            show SS p e below T60 m 192 #[iv p1, iv p2, iv p3, iv p4, iv p5, iv p6, iv 2, .unset, rv b3, .unset, .unset] [(.int 2), (.ref b3)] _
            refine XS.iload X60.here hx rfl (hb hby at_192) rfl ?_
            refine XS.sipush X60.here hx rfl (hb hby at_194) ?_
            show SS p e below T60 m 197 #[iv p1, iv p2, iv p3, iv p4, iv p5, iv p6, iv 2, .unset, rv b3, .unset, .unset] [(.int 255), (.int p5), (.int 2), (.ref b3)] _
            refine XS.iand X60.here hx rfl (hb hby at_197) rfl ?_
            rw [qc]
            show SS p e below T60 m 198 #[iv p1, iv p2, iv p3, iv p4, iv p5, iv p6, iv 2, .unset, rv b3, .unset, .unset] [(.int 114), (.int 2), (.ref b3)] _
            refine XS.i2c X60.here hx rfl (hb hby at_198) rfl ?_
            show SS p e below T60 m 199 #[iv p1, iv p2, iv p3, iv p4, iv p5, iv p6, iv 2, .unset, rv b3, .unset, .unset] [(.int 114), (.int 2), (.ref b3)] _
            refine st71 _ ?_
            exact qt
          · obtain ⟨c70, A70, q70, S70, N70, H70, G70⟩ := id v67
            have i71 : NB 3 c70 := inb_of S70 (by decide)
            obtain ⟨T71, h71, X71, e71, W71, st71⟩ := stC X60 hx hZ e60 A70 (j := 3) i71 (g := (mkF m 199 #[iv p1, iv p2, iv p3, iv p4, iv p5, iv p6, iv 2, .unset, rv b3, .unset, .unset] [(.int 118), (.int 3), (.ref b3)])) rfl rfl (hb hby at_199)
            have f72 := (f61.wr W60)
            have s73 := Safe.exa (EL := consts_1) hZ.alike f72 (by decide) (by decide)
            have c74 := CHr.wr W71 s73 c63.1
            have C75 := CHr.trans (CHr.refl c63.1) c74
            have O76 := O65.wr W71 g14
            have K77 : Keep h60 h71 [b3] := Keep.wr (Keep.refl h60 [b3]) W71 (Or.inl (List.mem_of_getElem? (i := 0) rfl))
            have v78 : Arv Z h71 b3 k3 .char 6 [(.int 115), (.int 101), (.int 114), (.int 118), (.int 101), (.int 114)] (.int 0) := Arv.set A70 q70 S70 N70 H70 G70 (fits_nar_char _) W71 3 rfl (Nat.le_of_ble_eq_true rfl)
            have N79 := Fr.snoc X71 N68 g14
            refine ⟨T71, h71, s.vm, _, _, X71.more (by decide) (by decide), e71, N79, K77, ((State.WarmedH.refl s).since 0), (Nat.zero_le _), hZ, hown, C75, v78, fun t qt => ?_⟩
            show SS p e below T60 m 173 #[iv p1, iv p2, iv p3, iv p4, iv p5, iv p6, iv 2, .unset, rv b3, .unset, .unset] [] _
            refine XS.iload X60.here hx rfl (hb hby at_173) rfl ?_
            refine XS.bipush X60.here hx rfl (hb hby at_175) ?_
            show SS p e below T60 m 177 #[iv p1, iv p2, iv p3, iv p4, iv p5, iv p6, iv 2, .unset, rv b3, .unset, .unset] [(.int 8), (.int p5)] _
            refine XS.iushr X60.here hx rfl (hb hby at_177) rfl ?_
            show SS p e below T60 m 178 #[iv p1, iv p2, iv p3, iv p4, iv p5, iv p6, iv 2, .unset, rv b3, .unset, .unset] [(.int (us8 p5))] _
            refine XS.iconst X60.here hx rfl (hb hby at_178) ?_
            show SS p e below T60 m 179 #[iv p1, iv p2, iv p3, iv p4, iv p5, iv p6, iv 2, .unset, rv b3, .unset, .unset] [(.int 1), (.int (us8 p5))] _
            refine XS.iand X60.here hx rfl (hb hby at_179) rfl ?_
            rw [qb]
            show SS p e below T60 m 180 #[iv p1, iv p2, iv p3, iv p4, iv p5, iv p6, iv 2, .unset, rv b3, .unset, .unset] [(.int 1)] _
            refine XS.ifNo X60.here hx rfl (hb hby at_180) rfl ((if0 _ _).trans (feq (by decide : ¬ ((1 : Int32) = (0 : Int32)))).1) ?_
            refine XS.aload X60.here hx rfl (hb hby at_183) rfl rfl ?_
            refine XS.iloadN X60.here hx rfl (hb hby at_185) rfl ?_
            refine X60.ldcInt hx hown (mvT hZ (W 79 rfl)) (g := (mkF m 186 #[iv p1, iv p2, iv p3, iv p4, iv p5, iv p6, iv 2, .unset, rv b3, .unset, .unset] [(.int p4), (.ref b3)])) rfl (hb hby at_186) _ ?_
            show SS p e below T60 m 188 #[iv p1, iv p2, iv p3, iv p4, iv p5, iv p6, iv 2, .unset, rv b3, .unset, .unset] [(.int 2147483647), (.int p4), (.ref b3)] _
            refine XS.iand X60.here hx rfl (hb hby at_188) rfl ?_
            show SS p e below T60 m 189 #[iv p1, iv p2, iv p3, iv p4, iv p5, iv p6, iv 2, .unset, rv b3, .unset, .unset] [(.int (p4 &&& (2147483647 : Int32))), (.ref b3)] _
            refine XS.bipush X60.here hx rfl (hb hby at_189) ?_
            show SS p e below T60 m 191 #[iv p1, iv p2, iv p3, iv p4, iv p5, iv p6, iv 2, .unset, rv b3, .unset, .unset] [(.int 6), (.int (p4 &&& (2147483647 : Int32))), (.ref b3)] _
            refine iremM (g := (mkF m 191 #[iv p1, iv p2, iv p3, iv p4, iv p5, iv p6, iv 2, .unset, rv b3, .unset, .unset] [(.int 6), (.int (p4 &&& (2147483647 : Int32))), (.ref b3)])) X60 hx rfl (hb hby at_191) rfl (by decide : ¬ ((6 : Int32) = (0 : Int32))) ?_
            rw [qq]
            show SS p e below T60 m 192 #[iv p1, iv p2, iv p3, iv p4, iv p5, iv p6, iv 2, .unset, rv b3, .unset, .unset] [(.int 3), (.ref b3)] _
            refine XS.iload X60.here hx rfl (hb hby at_192) rfl ?_
            refine XS.sipush X60.here hx rfl (hb hby at_194) ?_
            show SS p e below T60 m 197 #[iv p1, iv p2, iv p3, iv p4, iv p5, iv p6, iv 2, .unset, rv b3, .unset, .unset] [(.int 255), (.int p5), (.int 3), (.ref b3)] _
            refine XS.iand X60.here hx rfl (hb hby at_197) rfl ?_
            rw [qc]
            show SS p e below T60 m 198 #[iv p1, iv p2, iv p3, iv p4, iv p5, iv p6, iv 2, .unset, rv b3, .unset, .unset] [(.int 118), (.int 3), (.ref b3)] _
            refine XS.i2c X60.here hx rfl (hb hby at_198) rfl ?_
            show SS p e below T60 m 199 #[iv p1, iv p2, iv p3, iv p4, iv p5, iv p6, iv 2, .unset, rv b3, .unset, .unset] [(.int 118), (.int 3), (.ref b3)] _
            refine st71 _ ?_
            exact qt
          · obtain ⟨c70, A70, q70, S70, N70, H70, G70⟩ := id v67
            have i71 : NB 4 c70 := inb_of S70 (by decide)
            obtain ⟨T71, h71, X71, e71, W71, st71⟩ := stC X60 hx hZ e60 A70 (j := 4) i71 (g := (mkF m 199 #[iv p1, iv p2, iv p3, iv p4, iv p5, iv p6, iv 2, .unset, rv b3, .unset, .unset] [(.int 101), (.int 4), (.ref b3)])) rfl rfl (hb hby at_199)
            have f72 := (f61.wr W60)
            have s73 := Safe.exa (EL := consts_1) hZ.alike f72 (by decide) (by decide)
            have c74 := CHr.wr W71 s73 c63.1
            have C75 := CHr.trans (CHr.refl c63.1) c74
            have O76 := O65.wr W71 g14
            have K77 : Keep h60 h71 [b3] := Keep.wr (Keep.refl h60 [b3]) W71 (Or.inl (List.mem_of_getElem? (i := 0) rfl))
            have v78 : Arv Z h71 b3 k3 .char 6 [(.int 115), (.int 101), (.int 114), (.int 118), (.int 101), (.int 114)] (.int 0) := Arv.set A70 q70 S70 N70 H70 G70 (fits_nar_char _) W71 4 rfl (Nat.le_of_ble_eq_true rfl)
            have N79 := Fr.snoc X71 N68 g14
            refine ⟨T71, h71, s.vm, _, _, X71.more (by decide) (by decide), e71, N79, K77, ((State.WarmedH.refl s).since 0), (Nat.zero_le _), hZ, hown, C75, v78, fun t qt => ?_⟩
            show SS p e below T60 m 173 #[iv p1, iv p2, iv p3, iv p4, iv p5, iv p6, iv 2, .unset, rv b3, .unset, .unset] [] _
            refine XS.iload X60.here hx rfl (hb hby at_173) rfl ?_
            refine XS.bipush X60.here hx rfl (hb hby at_175) ?_
            show SS p e below T60 m 177 #[iv p1, iv p2, iv p3, iv p4, iv p5, iv p6, iv 2, .unset, rv b3, .unset, .unset] [(.int 8), (.int p5)] _
            refine XS.iushr X60.here hx rfl (hb hby at_177) rfl ?_
            show SS p e below T60 m 178 #[iv p1, iv p2, iv p3, iv p4, iv p5, iv p6, iv 2, .unset, rv b3, .unset, .unset] [(.int (us8 p5))] _
            refine XS.iconst X60.here hx rfl (hb hby at_178) ?_
            show SS p e below T60 m 179 #[iv p1, iv p2, iv p3, iv p4, iv p5, iv p6, iv 2, .unset, rv b3, .unset, .unset] [(.int 1), (.int (us8 p5))] _
            refine XS.iand X60.here hx rfl (hb hby at_179) rfl ?_
            rw [qb]
            show SS p e below T60 m 180 #[iv p1, iv p2, iv p3, iv p4, iv p5, iv p6, iv 2, .unset, rv b3, .unset, .unset] [(.int 1)] _
            refine XS.ifNo X60.here hx rfl (hb hby at_180) rfl ((if0 _ _).trans (feq (by decide : ¬ ((1 : Int32) = (0 : Int32)))).1) ?_
            refine XS.aload X60.here hx rfl (hb hby at_183) rfl rfl ?_
            refine XS.iloadN X60.here hx rfl (hb hby at_185) rfl ?_
            refine X60.ldcInt hx hown (mvT hZ (W 79 rfl)) (g := (mkF m 186 #[iv p1, iv p2, iv p3, iv p4, iv p5, iv p6, iv 2, .unset, rv b3, .unset, .unset] [(.int p4), (.ref b3)])) rfl (hb hby at_186) _ ?_
            show SS p e below T60 m 188 #[iv p1, iv p2, iv p3, iv p4, iv p5, iv p6, iv 2, .unset, rv b3, .unset, .unset] [(.int 2147483647), (.int p4), (.ref b3)] _
            refine XS.iand X60.here hx rfl (hb hby at_188) rfl ?_
            show SS p e below T60 m 189 #[iv p1, iv p2, iv p3, iv p4, iv p5, iv p6, iv 2, .unset, rv b3, .unset, .unset] [(.int (p4 &&& (2147483647 : Int32))), (.ref b3)] _
            refine XS.bipush X60.here hx rfl (hb hby at_189) ?_
            show SS p e below T60 m 191 #[iv p1, iv p2, iv p3, iv p4, iv p5, iv p6, iv 2, .unset, rv b3, .unset, .unset] [(.int 6), (.int (p4 &&& (2147483647 : Int32))), (.ref b3)] _
            refine iremM (g := (mkF m 191 #[iv p1, iv p2, iv p3, iv p4, iv p5, iv p6, iv 2, .unset, rv b3, .unset, .unset] [(.int 6), (.int (p4 &&& (2147483647 : Int32))), (.ref b3)])) X60 hx rfl (hb hby at_191) rfl (by decide : ¬ ((6 : Int32) = (0 : Int32))) ?_
            rw [qq]
            show SS p e below T60 m 192 #[iv p1, iv p2, iv p3, iv p4, iv p5, iv p6, iv 2, .unset, rv b3, .unset, .unset] [(.int 4), (.ref b3)] _
            refine XS.iload X60.here hx rfl (hb hby at_192) rfl ?_
            refine XS.sipush X60.here hx rfl (hb hby at_194) ?_
            show SS p e below T60 m 197 #[iv p1, iv p2, iv p3, iv p4, iv p5, iv p6, iv 2, .unset, rv b3, .unset, .unset] [(.int 255), (.int p5), (.int 4), (.ref b3)] _
            refine XS.iand X60.here hx rfl (hb hby at_197) rfl ?_
            rw [qc]
            show SS p e below T60 m 198 #[iv p1, iv p2, iv p3, iv p4, iv p5, iv p6, iv 2, .unset, rv b3, .unset, .unset] [(.int 101), (.int 4), (.ref b3)] _
            refine XS.i2c X60.here hx rfl (hb hby at_198) rfl ?_
            show SS p e below T60 m 199 #[iv p1, iv p2, iv p3, iv p4, iv p5, iv p6, iv 2, .unset, rv b3, .unset, .unset] [(.int 101), (.int 4), (.ref b3)] _
            refine st71 _ ?_
            exact qt
          · obtain ⟨c70, A70, q70, S70, N70, H70, G70⟩ := id v67
            have i71 : NB 5 c70 := inb_of S70 (by decide)
            obtain ⟨T71, h71, X71, e71, W71, st71⟩ := stC X60 hx hZ e60 A70 (j := 5) i71 (g := (mkF m 199 #[iv p1, iv p2, iv p3, iv p4, iv p5, iv p6, iv 2, .unset, rv b3, .unset, .unset] [(.int 114), (.int 5), (.ref b3)])) rfl rfl (hb hby at_199)
            have f72 := (f61.wr W60)
            have s73 := Safe.exa (EL := consts_1) hZ.alike f72 (by decide) (by decide)
            have c74 := CHr.wr W71 s73 c63.1
            have C75 := CHr.trans (CHr.refl c63.1) c74
            have O76 := O65.wr W71 g14
            have K77 : Keep h60 h71 [b3] := Keep.wr (Keep.refl h60 [b3]) W71 (Or.inl (List.mem_of_getElem? (i := 0) rfl))
            have v78 : Arv Z h71 b3 k3 .char 6 [(.int 115), (.int 101), (.int 114), (.int 118), (.int 101), (.int 114)] (.int 0) := Arv.set A70 q70 S70 N70 H70 G70 (fits_nar_char _) W71 5 rfl (Nat.le_of_ble_eq_true rfl)
            have N79 := Fr.snoc X71 N68 g14
            refine ⟨T71, h71, s.vm, _, _, X71.more (by decide) (by decide), e71, N79, K77, ((State.WarmedH.refl s).since 0), (Nat.zero_le _), hZ, hown, C75, v78, fun t qt => ?_⟩
            show SS p e below T60 m 173 #[iv p1, iv p2, iv p3, iv p4, iv p5, iv p6, iv 2, .unset, rv b3, .unset, .unset] [] _
            refine XS.iload X60.here hx rfl (hb hby at_173) rfl ?_
            refine XS.bipush X60.here hx rfl (hb hby at_175) ?_
            show SS p e below T60 m 177 #[iv p1, iv p2, iv p3, iv p4, iv p5, iv p6, iv 2, .unset, rv b3, .unset, .unset] [(.int 8), (.int p5)] _
            refine XS.iushr X60.here hx rfl (hb hby at_177) rfl ?_
            show SS p e below T60 m 178 #[iv p1, iv p2, iv p3, iv p4, iv p5, iv p6, iv 2, .unset, rv b3, .unset, .unset] [(.int (us8 p5))] _
            refine XS.iconst X60.here hx rfl (hb hby at_178) ?_
            show SS p e below T60 m 179 #[iv p1, iv p2, iv p3, iv p4, iv p5, iv p6, iv 2, .unset, rv b3, .unset, .unset] [(.int 1), (.int (us8 p5))] _
            refine XS.iand X60.here hx rfl (hb hby at_179) rfl ?_
            rw [qb]
            show SS p e below T60 m 180 #[iv p1, iv p2, iv p3, iv p4, iv p5, iv p6, iv 2, .unset, rv b3, .unset, .unset] [(.int 1)] _
            refine XS.ifNo X60.here hx rfl (hb hby at_180) rfl ((if0 _ _).trans (feq (by decide : ¬ ((1 : Int32) = (0 : Int32)))).1) ?_
            refine XS.aload X60.here hx rfl (hb hby at_183) rfl rfl ?_
            refine XS.iloadN X60.here hx rfl (hb hby at_185) rfl ?_
            refine X60.ldcInt hx hown (mvT hZ (W 79 rfl)) (g := (mkF m 186 #[iv p1, iv p2, iv p3, iv p4, iv p5, iv p6, iv 2, .unset, rv b3, .unset, .unset] [(.int p4), (.ref b3)])) rfl (hb hby at_186) _ ?_
            show SS p e below T60 m 188 #[iv p1, iv p2, iv p3, iv p4, iv p5, iv p6, iv 2, .unset, rv b3, .unset, .unset] [(.int 2147483647), (.int p4), (.ref b3)] _
            refine XS.iand X60.here hx rfl (hb hby at_188) rfl ?_
            show SS p e below T60 m 189 #[iv p1, iv p2, iv p3, iv p4, iv p5, iv p6, iv 2, .unset, rv b3, .unset, .unset] [(.int (p4 &&& (2147483647 : Int32))), (.ref b3)] _
            refine XS.bipush X60.here hx rfl (hb hby at_189) ?_
            show SS p e below T60 m 191 #[iv p1, iv p2, iv p3, iv p4, iv p5, iv p6, iv 2, .unset, rv b3, .unset, .unset] [(.int 6), (.int (p4 &&& (2147483647 : Int32))), (.ref b3)] _
            refine iremM (g := (mkF m 191 #[iv p1, iv p2, iv p3, iv p4, iv p5, iv p6, iv 2, .unset, rv b3, .unset, .unset] [(.int 6), (.int (p4 &&& (2147483647 : Int32))), (.ref b3)])) X60 hx rfl (hb hby at_191) rfl (by decide : ¬ ((6 : Int32) = (0 : Int32))) ?_
            rw [qq]
            show SS p e below T60 m 192 #[iv p1, iv p2, iv p3, iv p4, iv p5, iv p6, iv 2, .unset, rv b3, .unset, .unset] [(.int 5), (.ref b3)] _
            refine XS.iload X60.here hx rfl (hb hby at_192) rfl ?_
            refine XS.sipush X60.here hx rfl (hb hby at_194) ?_
            show SS p e below T60 m 197 #[iv p1, iv p2, iv p3, iv p4, iv p5, iv p6, iv 2, .unset, rv b3, .unset, .unset] [(.int 255), (.int p5), (.int 5), (.ref b3)] _
            refine XS.iand X60.here hx rfl (hb hby at_197) rfl ?_
            rw [qc]
            show SS p e below T60 m 198 #[iv p1, iv p2, iv p3, iv p4, iv p5, iv p6, iv 2, .unset, rv b3, .unset, .unset] [(.int 114), (.int 5), (.ref b3)] _
            refine XS.i2c X60.here hx rfl (hb hby at_198) rfl ?_
            show SS p e below T60 m 199 #[iv p1, iv p2, iv p3, iv p4, iv p5, iv p6, iv 2, .unset, rv b3, .unset, .unset] [(.int 114), (.int 5), (.ref b3)] _
            refine st71 _ ?_
            exact qt
        have C70 := CHr.trans C64 c69
        have O71 := O65.keep K69 (allS g14 all0)
        have K72 : Keep h0 h69 [] := Keep.trans K66 K69 (allS (Or.inr (Nat.le_of_eq g3.symm)) all0)
        obtain ⟨T80, h80, X80, e80, E80, A80, D80, -, st80⟩ := newO X69 hx hZ69 hown69 (W 4 rfl) (W 5 rfl) (W 6 rfl) e69 (g := (mkF m 200 #[iv p1, iv p2, iv p3, iv p4, iv p5, iv p6, iv 2, .unset, rv b3, .unset, .unset] [])) rfl (hb hby at_200) (by decide) (by decide)
        obtain ⟨b80, g80⟩ : ∃ z, z = h69.size := ⟨_, rfl⟩
        rw [← g80] at A80 D80 st80
        have c81 := CHr.ext E80 c69.1
        have C82 := CHr.trans C70 c81
        have O83 := O71.ext E80
        have K84 : Keep h0 h80 [] := Keep.ext K72 E80
        have f86 := (J69_0.ext E80)
        have z87 : h3.size ≤ h10.size := (Nat.le_of_eq W10.size.symm)
        have z88 : h3.size ≤ h20.size := (Nat.le_trans z87 (Nat.le_of_eq W20.size.symm))
        have z89 : h3.size ≤ h30.size := (Nat.le_trans z88 (Nat.le_of_eq W30.size.symm))
        have z90 : h3.size ≤ h40.size := (Nat.le_trans z89 (Nat.le_of_eq W40.size.symm))
        have z91 : h3.size ≤ h50.size := (Nat.le_trans z90 (Nat.le_of_eq W50.size.symm))
        have z92 : h3.size ≤ h60.size := (Nat.le_trans z91 (Nat.le_of_eq W60.size.symm))
        have z93 : h3.size ≤ h69.size := (Nat.le_trans z92 K69.1)
        have z94 : h3.size ≤ h80.size := (Nat.le_trans z93 E80.1)
        have z95 : h0.size ≤ h3.size := E3.1
        have z96 : h0.size ≤ h10.size := (Nat.le_trans z95 (Nat.le_of_eq W10.size.symm))
        have z97 : h0.size ≤ h20.size := (Nat.le_trans z96 (Nat.le_of_eq W20.size.symm))
        have z98 : h0.size ≤ h30.size := (Nat.le_trans z97 (Nat.le_of_eq W30.size.symm))
        have z99 : h0.size ≤ h40.size := (Nat.le_trans z98 (Nat.le_of_eq W40.size.symm))
        have z100 : h0.size ≤ h50.size := (Nat.le_trans z99 (Nat.le_of_eq W50.size.symm))
        have z101 : h0.size ≤ h60.size := (Nat.le_trans z100 (Nat.le_of_eq W60.size.symm))
        have z102 : h0.size ≤ h69.size := (Nat.le_trans z101 K69.1)
        have g103 : n0 ≤ b80 := Nat.le_trans (Nat.le_trans (Nat.le_trans (Nat.le_of_eq O0.1.symm) O0.2.1) z102) (Nat.le_of_eq g80.symm)
        obtain ⟨_, T85, L85, X85, hQ85, st85⟩ := own_cp X80 hx hZ69 hown69 hml rfl (W 8 rfl) (W 9 rfl) (W 6 rfl) (W 10 rfl) (rm14_init l Z a0 hw b80 b3 k3 (115 : Int32) (101 : Int32) (114 : Int32) (118 : Int32) (101 : Int32) (114 : Int32) o_COMPACT_STRINGS h80 n0 O83 (f86) (S_o_COMPACT_STRINGS) (nz_o_COMPACT_STRINGS) ((by decide : ¬ ((255 : Int32) < (115 : Int32)))) ((by decide : ¬ ((255 : Int32) < (101 : Int32)))) ((by decide : ¬ ((255 : Int32) < (114 : Int32)))) ((by decide : ¬ ((255 : Int32) < (118 : Int32)))) ((by decide : ¬ ((255 : Int32) < (101 : Int32)))) ((by decide : ¬ ((255 : Int32) < (114 : Int32)))) (A80) ((D80 (Or.inr (W 31 rfl)) (ty := .byte) (by decide) : FA11 Z h80 b80 (.int 0))) ((D80 (Or.inr (W 33 rfl)) (ty := (.array .byte)) (by decide) : FA12 Z h80 b80 .null)) ((Nat.lt_of_lt_of_le A3.lt z94)) (g103) (A80.lt)) e80 (hb hby at_206) 1 #[iv p1, iv p2, iv p3, iv p4, iv p5, iv p6, iv 2, .unset, rv b3, .unset, .unset] b80 [(.ref b3)] [(.ref b80)] pd_231
        obtain ⟨b85_0, k85_0, rfl, N85q, K85, gb85_0, F85_0, F85_1, F85_2, F85_3⟩ := hQ85
        have N104 := Fr.app N69 N85q
        have f105 := (Safe.ext E80 c69.1 (Safe.new (Nat.le_of_eq g80.symm)))
        have c106 := CHr.keep K85 (sfS f105 sf0) c81.1
        have C107 := CHr.trans C82 c106
        have O108 := O83.keep K85 (allS g103 all0)
        have K109 : Keep h0 T85.heap [] := Keep.trans K84 K85 (allS (Or.inr (Nat.le_trans z102 (Nat.le_of_eq g80.symm))) all0)
        have f110 := (Safe.keep K85 (sfS f105 sf0) c81.1 f105)
        have f111 := (A80.keep K85)
        have z112 : h0.size ≤ h80.size := (Nat.le_trans z102 E80.1)
        have f113 := (Safe.keep K85 (sfS f105 sf0) c81.1 (Safe.new gb85_0))
        have z114 : h69.size ≤ h80.size := E80.1
        have z115 : h69.size ≤ T85.heap.size := (Nat.le_trans z114 K85.1)
        refine ⟨(2 : Int32), b80, b85_0, k85_0, (rv b3), T85, T85.heap, vm69, _, _, X85.more (by decide) (by decide), rfl, N104, K109, hS69, (Nat.le_trans hk69 z115), hZ69, hown69, C107, (Nat.le_trans z102 (Nat.le_of_eq g80.symm)), f110, f111, F85_2, (Nat.le_trans z112 gb85_0), f113, F85_1, F85_0, F85_3, (Or.inr ⟨_, rfl⟩), fun t qt => ?_⟩
        show SS p e below s₁ m 0 #[iv p1, iv p2, iv p3, iv p4, iv p5, iv p6, .unset, .unset, .unset, .unset, .unset] [] _
        refine XS.iloadN X1.here hx rfl (hb hby at_0) rfl ?_
        refine XS.iconst X1.here hx rfl (hb hby at_1) ?_
        show SS p e below s₁ m 2 #[iv p1, iv p2, iv p3, iv p4, iv p5, iv p6, .unset, .unset, .unset, .unset, .unset] [(.int 3), (.int p1)] _
        refine XS.iand X1.here hx rfl (hb hby at_2) rfl ?_
        rw [qm]
        show SS p e below s₁ m 3 #[iv p1, iv p2, iv p3, iv p4, iv p5, iv p6, .unset, .unset, .unset, .unset, .unset] [(.int 2)] _
        refine XS.istore X1.here hx rfl (hb hby at_3) rfl (l' := #[iv p1, iv p2, iv p3, iv p4, iv p5, iv p6, iv 2, .unset, .unset, .unset, .unset]) rfl ?_
        refine XS.iload X1.here hx rfl (hb hby at_5) rfl ?_
        refine XS.iconst X1.here hx rfl (hb hby at_7) ?_
        refine XS.icmpYes X1.here hx rfl (pc0 := 8) (pc' := 17) rfl (hb hby at_8) rfl (feq (by decide : ¬ ((2 : Int32) = (3 : Int32)))).2 (by decide) (by decide) ?_
        refine XS.iload X1.here hx rfl (hb hby at_17) rfl ?_
        refine XS.ifYes X1.here hx rfl (pc0 := 19) (pc' := 92) rfl (hb hby at_19) rfl ((if0 _ _).trans (feq (by decide : ¬ ((2 : Int32) = (0 : Int32)))).2) (by decide) (by decide) ?_
        refine XS.iload X1.here hx rfl (hb hby at_92) rfl ?_
        refine XS.iconst X1.here hx rfl (hb hby at_94) ?_
        refine XS.icmpYes X1.here hx rfl (pc0 := 95) (pc' := 137) rfl (hb hby at_95) rfl (feq (by decide : ¬ ((2 : Int32) = (1 : Int32)))).2 (by decide) (by decide) ?_
        refine XS.bipush X1.here hx rfl (hb hby at_137) ?_
        show SS p e below s₁ m 139 #[iv p1, iv p2, iv p3, iv p4, iv p5, iv p6, iv 2, .unset, .unset, .unset, .unset] [(.int 6)] _
        refine st3 _ ?_
        refine XS.dup X3.here hx rfl (hb hby at_141) rfl rfl ?_
        refine XS.iconst X3.here hx rfl (hb hby at_142) ?_
        refine XS.bipush X3.here hx rfl (hb hby at_143) ?_
        refine st10 _ ?_
        refine XS.dup X10.here hx rfl (hb hby at_146) rfl rfl ?_
        refine XS.iconst X10.here hx rfl (hb hby at_147) ?_
        refine XS.bipush X10.here hx rfl (hb hby at_148) ?_
        refine st20 _ ?_
        refine XS.dup X20.here hx rfl (hb hby at_151) rfl rfl ?_
        show SS p e below T20 m 152 #[iv p1, iv p2, iv p3, iv p4, iv p5, iv p6, iv 2, .unset, .unset, .unset, .unset] [(.ref b3), (.ref b3)] _
        refine XS.iconst X20.here hx rfl (hb hby at_152) ?_
        refine XS.bipush X20.here hx rfl (hb hby at_153) ?_
        refine st30 _ ?_
        refine XS.dup X30.here hx rfl (hb hby at_156) rfl rfl ?_
        refine XS.iconst X30.here hx rfl (hb hby at_157) ?_
        refine XS.bipush X30.here hx rfl (hb hby at_158) ?_
        refine st40 _ ?_
        refine XS.dup X40.here hx rfl (hb hby at_161) rfl rfl ?_
        refine XS.iconst X40.here hx rfl (hb hby at_162) ?_
        refine XS.bipush X40.here hx rfl (hb hby at_163) ?_
        show SS p e below T40 m 165 #[iv p1, iv p2, iv p3, iv p4, iv p5, iv p6, iv 2, .unset, .unset, .unset, .unset] [(.int 101), (.int 4), (.ref b3), (.ref b3)] _
        refine st50 _ ?_
        refine XS.dup X50.here hx rfl (hb hby at_166) rfl rfl ?_
        refine XS.iconst X50.here hx rfl (hb hby at_167) ?_
        refine XS.bipush X50.here hx rfl (hb hby at_168) ?_
        refine st60 _ ?_
        refine XS.astore X60.here hx rfl (hb hby at_171) rfl rfl (l' := #[iv p1, iv p2, iv p3, iv p4, iv p5, iv p6, iv 2, .unset, rv b3, .unset, .unset]) rfl ?_
        refine st69 _ ?_
        show SS p e below T69 m 200 #[iv p1, iv p2, iv p3, iv p4, iv p5, iv p6, iv 2, .unset, rv b3, .unset, .unset] [] _
        refine st80 _ ?_
        refine XS.dup X80.here hx rfl (hb hby at_203) rfl rfl ?_
        refine XS.aload X80.here hx rfl (hb hby at_204) rfl rfl ?_
        refine st85 _ ?_
        refine XS.astore X85.here hx rfl (hb hby at_209) rfl rfl (l' := #[iv p1, iv p2, iv p3, iv p4, iv p5, iv p6, iv 2, rv b80, rv b3, .unset, .unset]) rfl ?_
        exact qt
    have C3 := CHr.trans C0 c2
    have O4 := O0.keep K2 all0
    have K5 : Keep h0 h2 [] := Keep.trans (Keep.refl h0 []) K2 all0
    obtain ⟨b116, T116, h116, k116, b116v, kc116, X116, e116, E116, hS116, hk116, hZ116, hown116, Le116, Lc116, Lv116, La116, Lx116, Lb116, c116, -, Ln116, st116⟩ := ldcCH (s := s) (vm0 := vm2) (EL := consts_1) X2 hx hZ2 hown2 (W 34 rfl) (own_str_236 hw) e2 hS2 hk2 (own_ew_237 hw) (List.mem_of_getElem? (i := 0) rfl) c2.1 (vs := [(.int 99), (.int 108), (.int 105), (.int 101), (.int 110), (.int 116)]) (z := (6 : Int32)) ⟨by decide, by decide⟩ (by decide) rfl (g := (mkF m 224 #[iv p1, iv p2, iv p3, iv p4, iv p5, iv p6, iv i2_0, rv r2_1, sl2_4, .unset, .unset] [(.ref r2_1)])) rfl (hb hby at_224) (n := 24) (by decide) (by decide) (by decide) (by decide)
    have C117 := CHr.trans C3 c116
    have O118 := O4.ext E116
    have K119 : Keep h0 h116 [] := Keep.ext K5 E116
    have f121 := (J2_3.ext E116)
    have f122 := (J2_8.ext E116)
    have f123 := (J2_7.ext E116)
    have f124 := (J2_2.ext E116)
    obtain ⟨_, T120, L120, X120, hQ120, st120⟩ := own_cv X116 hx hZ116 hown116 hml (W 37 rfl) (W 38 rfl) (notFace_of_selects (W 40 rfl)) (W 40 rfl) (W 39 rfl) (W 6 rfl) (W 41 rfl) (rm22_equals l Z a0 hw r2_1 b116 o_COMPACT_STRINGS r2_2 b116v k2_3 ((115 : Int32).toInt8.toInt32) ((101 : Int32).toInt8.toInt32) ((114 : Int32).toInt8.toInt32) ((118 : Int32).toInt8.toInt32) ((101 : Int32).toInt8.toInt32) ((114 : Int32).toInt8.toInt32) kc116 (99 : Int32) (108 : Int32) (105 : Int32) (101 : Int32) (110 : Int32) (116 : Int32) h116 n0 O118 (((Ln116 r2_1 (CHr.safe c116 J2_2.lt J2_1)).1)) (Le116) (S_o_COMPACT_STRINGS) (nz_o_COMPACT_STRINGS) (f121) (Lc116) (f122) (Lv116) (f123) (La116) ((by decide : ¬ (((115 : Int32).toInt8.toInt32) = (99 : Int32))))) e116 f124 (hb hby at_226) 0 #[iv p1, iv p2, iv p3, iv p4, iv p5, iv p6, iv i2_0, rv r2_1, sl2_4, .unset, .unset] [(.ref b116)] [] pd_79
    obtain ⟨rfl, N120q, K120⟩ := hQ120
    have N125 := Fr.app N2 N120q
    obtain ⟨b126, T126, h126, k126, b126v, kc126, X126, e126, E126, hS126, hk126, hZ126, hown126, Le126, Lc126, Lv126, La126, Lx126, Lb126, c126, -, Ln126, st126⟩ := ldcCH (s := s) (vm0 := T116.vm) (EL := consts_1) X120 hx hZ116 hown116 (W 47 rfl) (own_str_236 hw) K120 hS116 hk116 (own_ew_237 hw) (List.mem_of_getElem? (i := 1) rfl) c116.1 (vs := [(.int 115), (.int 101), (.int 114), (.int 118), (.int 101), (.int 114)]) (z := (6 : Int32)) ⟨by decide, by decide⟩ (by decide) rfl (g := (mkF m 242 #[iv p1, iv p2, iv p3, iv p4, iv p5, iv p6, iv i2_0, rv r2_1, sl2_4, .unset, .unset] [(.ref r2_1)])) rfl (hb hby at_242) (n := 24) (by decide) (by decide) (by decide) (by decide)
    have C127 := CHr.trans C117 c126
    have O128 := O118.ext E126
    have K129 : Keep h0 h126 [] := Keep.ext K119 E126
    have z131 : h2.size ≤ h116.size := E116.1
    have f132 := (f121.ext E126)
    have f133 := (f122.ext E126)
    have f134 := (f123.ext E126)
    have f135 := (f124.ext E126)
    obtain ⟨_, T130, L130, X130, hQ130, st130⟩ := own_cv X126 hx hZ126 hown126 hml (W 37 rfl) (W 38 rfl) (notFace_of_selects (W 40 rfl)) (W 40 rfl) (W 39 rfl) (W 6 rfl) (W 41 rfl) (rm17_equals l Z a0 hw r2_1 b126 o_COMPACT_STRINGS r2_2 b126v k2_3 ((115 : Int32).toInt8.toInt32) ((101 : Int32).toInt8.toInt32) ((114 : Int32).toInt8.toInt32) ((118 : Int32).toInt8.toInt32) ((101 : Int32).toInt8.toInt32) ((114 : Int32).toInt8.toInt32) kc126 (115 : Int32) (101 : Int32) (114 : Int32) (118 : Int32) (101 : Int32) (114 : Int32) h126 n0 O128 (((Ln126 r2_1 (CHr.safe c126 (Nat.lt_of_lt_of_le J2_2.lt z131) (CHr.safe c116 J2_2.lt J2_1))).1)) (Le126) (S_o_COMPACT_STRINGS) (nz_o_COMPACT_STRINGS) (f132) (Lc126) (f133) (Lv126) (f134) (La126) ((by decide : ((115 : Int32).toInt8.toInt32) = (115 : Int32))) ((by decide : ((101 : Int32).toInt8.toInt32) = (101 : Int32))) ((by decide : ((114 : Int32).toInt8.toInt32) = (114 : Int32))) ((by decide : ((118 : Int32).toInt8.toInt32) = (118 : Int32))) ((by decide : ((101 : Int32).toInt8.toInt32) = (101 : Int32))) ((by decide : ((114 : Int32).toInt8.toInt32) = (114 : Int32)))) e126 f135 (hb hby at_244) 0 #[iv p1, iv p2, iv p3, iv p4, iv p5, iv p6, iv i2_0, rv r2_1, sl2_4, .unset, .unset] [(.ref b126)] [] pd_79
    obtain ⟨rfl, N130q, K130⟩ := hQ130
    have N136 := Fr.app N125 N130q
    obtain ⟨T137, X137, e137, st137⟩ := getS2 X130 hx hZ126 hown126 (host := "") (Or.inl (W 78 rfl)) Via.refl K130 (S_o_SERVER.ext O128.2) (g := (mkF m 250 #[iv p1, iv p2, iv p3, iv p4, iv p5, iv p6, iv i2_0, rv r2_1, sl2_4, .unset, .unset] [])) rfl (hb hby at_250)
    have g139 : n0 ≤ r2_1 := Nat.le_trans (Nat.le_trans (Nat.le_of_eq O0.1.symm) O0.2.1) J2_0
    obtain ⟨_, T138, L138, X138, hQ138, st138⟩ := own_cs X137 hx hZ126 hown126 hml (W 48 rfl) (W 49 rfl) (W 50 rfl) (W 51 rfl) (rm25_ofLabel l Z a0 hw r2_1 o__VALUES k_o__VALUES o_CLIENT o_SERVER o_CLIENT_label o_CLIENT_label_value k_o_CLIENT_label_value r2_2 k2_3 ((115 : Int32).toInt8.toInt32) ((101 : Int32).toInt8.toInt32) ((114 : Int32).toInt8.toInt32) ((118 : Int32).toInt8.toInt32) o_COMPACT_STRINGS o_SERVER_label o_SERVER_label_value k_o_SERVER_label_value h126 n0 O128 (S_o__VALUES) (A_o__VALUES) (E_o__VALUES) (F_o_CLIENT_label) (E_o_CLIENT_label) (F_o_CLIENT_label_coder) (F_o_CLIENT_label_value) (A_o_CLIENT_label_value) (f135) (f132) (f133) (f134) (S_o_COMPACT_STRINGS) (nz_o_COMPACT_STRINGS) ((by decide : ¬ ((99 : Int32) = ((115 : Int32).toInt8.toInt32)))) (g139) (F_o_SERVER_label) (E_o_SERVER_label) (F_o_SERVER_label_coder) (F_o_SERVER_label_value) (A_o_SERVER_label_value) ((by decide : (115 : Int32) = ((115 : Int32).toInt8.toInt32))) ((by decide : (101 : Int32) = ((101 : Int32).toInt8.toInt32))) ((by decide : (114 : Int32) = ((114 : Int32).toInt8.toInt32))) ((by decide : (118 : Int32) = ((118 : Int32).toInt8.toInt32)))) e137 (hb hby at_263) 0 #[iv p1, iv p2, iv p3, iv p4, iv p5, iv p6, iv i2_0, rv r2_1, rv o_SERVER, .unset, .unset] [(.ref r2_1)] [] pd_86
    obtain ⟨rfl, N138q, K138⟩ := hQ138
    have N140 := Fr.app N136 N138q
    have c141 := CHr.keep K138 sf0 c126.1
    have C142 := CHr.trans C127 c141
    have O143 := O128.keep K138 all0
    have K144 : Keep h0 T138.heap [] := Keep.trans K129 K138 all0
    obtain ⟨T145, X145, e145, st145⟩ := getS2 X138 hx hZ126 hown126 (host := "") (Or.inl (W 72 rfl)) Via.refl rfl (S_o_CLIENT.ext O143.2) (g := (mkF m 278 #[iv p1, iv p2, iv p3, iv p4, iv p5, iv p6, iv i2_0, rv r2_1, rv o_SERVER, iv 1, .unset] [])) rfl (hb hby at_278)
    obtain ⟨_, T146, L146, X146, hQ146, st146⟩ := own_cv X145 hx hZ126 hown126 hml (W 73 rfl) (W 74 rfl) (notFace_of_selects (W 76 rfl)) (W 76 rfl) (W 75 rfl) (W 50 rfl) (W 77 rfl) (rm4_label l Z a0 hw o_CLIENT o_CLIENT_label T138.heap n0 O143 (F_o_CLIENT_label)) e145 (E_o_CLIENT.ext O143.2) (hb hby at_281) 0 #[iv p1, iv p2, iv p3, iv p4, iv p5, iv p6, iv i2_0, rv r2_1, rv o_SERVER, iv 1, .unset] [] [] pd_91
    obtain ⟨rfl, N146q, K146⟩ := hQ146
    have N147 := Fr.app N140 N146q
    obtain ⟨_, T148, L148, X148, hQ148, st148⟩ := own_cs X146 hx hZ126 hown126 hml (W 48 rfl) (W 49 rfl) (W 50 rfl) (W 51 rfl) (rm6_ofLabel l Z a0 hw o_CLIENT_label o__VALUES k_o__VALUES o_CLIENT o_SERVER T138.heap n0 O143 (S_o__VALUES) (A_o__VALUES) (E_o__VALUES) (F_o_CLIENT_label) (E_o_CLIENT_label)) K146 (hb hby at_284) 0 #[iv p1, iv p2, iv p3, iv p4, iv p5, iv p6, iv i2_0, rv r2_1, rv o_SERVER, iv 1, .unset] [(.ref o_CLIENT_label)] [] pd_86
    obtain ⟨rfl, N148q, K148⟩ := hQ148
    have N149 := Fr.app N147 N148q
    have c150 := CHr.keep K148 sf0 c141.1
    have C151 := CHr.trans C142 c150
    have O152 := O143.keep K148 all0
    have K153 : Keep h0 T148.heap [] := Keep.trans K144 K148 all0
    obtain ⟨T154, X154, e154, st154⟩ := getS2 X148 hx hZ126 hown126 (host := "") (Or.inl (W 72 rfl)) Via.refl rfl (S_o_CLIENT.ext O152.2) (g := (mkF m 287 #[iv p1, iv p2, iv p3, iv p4, iv p5, iv p6, iv i2_0, rv r2_1, rv o_SERVER, iv 1, .unset] [(.ref o_CLIENT)])) rfl (hb hby at_287)
    obtain ⟨T155, X155, e155, st155⟩ := getS2 X154 hx hZ126 hown126 (host := "") (Or.inl (W 78 rfl)) Via.refl e154 (S_o_SERVER.ext O152.2) (g := (mkF m 293 #[iv p1, iv p2, iv p3, iv p4, iv p5, iv p6, iv i2_0, rv r2_1, rv o_SERVER, iv 1, .unset] [])) rfl (hb hby at_293)
    obtain ⟨_, T156, L156, X156, hQ156, st156⟩ := own_cv X155 hx hZ126 hown126 hml (W 73 rfl) (W 74 rfl) (notFace_of_selects (W 76 rfl)) (W 76 rfl) (W 75 rfl) (W 50 rfl) (W 77 rfl) (rm4_label l Z a0 hw o_SERVER o_SERVER_label T148.heap n0 O152 (F_o_SERVER_label)) e155 (E_o_SERVER.ext O152.2) (hb hby at_296) 0 #[iv p1, iv p2, iv p3, iv p4, iv p5, iv p6, iv i2_0, rv r2_1, rv o_SERVER, iv 1, .unset] [] [] pd_91
    obtain ⟨rfl, N156q, K156⟩ := hQ156
    have N157 := Fr.app N149 N156q
    obtain ⟨_, T158, L158, X158, hQ158, st158⟩ := own_cs X156 hx hZ126 hown126 hml (W 48 rfl) (W 49 rfl) (W 50 rfl) (W 51 rfl) (rm9_ofLabel l Z a0 hw o_SERVER_label o__VALUES k_o__VALUES o_CLIENT o_SERVER o_CLIENT_label o_CLIENT_label_value k_o_CLIENT_label_value o_SERVER_label_value k_o_SERVER_label_value o_COMPACT_STRINGS T148.heap n0 O152 (S_o__VALUES) (A_o__VALUES) (E_o__VALUES) (F_o_CLIENT_label) (E_o_CLIENT_label) (F_o_CLIENT_label_coder) (F_o_CLIENT_label_value) (A_o_CLIENT_label_value) (E_o_SERVER_label) (F_o_SERVER_label_coder) (F_o_SERVER_label_value) (A_o_SERVER_label_value) (S_o_COMPACT_STRINGS) (nz_o_COMPACT_STRINGS) (ne_o_CLIENT_label_o_SERVER_label) (F_o_SERVER_label)) K156 (hb hby at_299) 0 #[iv p1, iv p2, iv p3, iv p4, iv p5, iv p6, iv i2_0, rv r2_1, rv o_SERVER, iv 1, .unset] [(.ref o_SERVER_label)] [] pd_86
    obtain ⟨rfl, N158q, K158⟩ := hQ158
    have N159 := Fr.app N157 N158q
    have c160 := CHr.keep K158 sf0 c150.1
    have C161 := CHr.trans C151 c160
    have O162 := O152.keep K158 all0
    have K163 : Keep h0 T158.heap [] := Keep.trans K153 K158 all0
    obtain ⟨T164, X164, e164, st164⟩ := getS2 X158 hx hZ126 hown126 (host := "") (Or.inl (W 78 rfl)) Via.refl rfl (S_o_SERVER.ext O162.2) (g := (mkF m 302 #[iv p1, iv p2, iv p3, iv p4, iv p5, iv p6, iv i2_0, rv r2_1, rv o_SERVER, iv 1, .unset] [(.ref o_SERVER)])) rfl (hb hby at_302)
    have z165 : h126.size ≤ T138.heap.size := K138.1
    have z166 : h126.size ≤ T148.heap.size := (Nat.le_trans z165 K148.1)
    have z167 : h126.size ≤ T158.heap.size := (Nat.le_trans z166 K158.1)
    refine ⟨T164, some (.int 1), _, _, _, T126.vm, _, X164, hS126, (by rw [e164]; exact (Nat.le_trans hk126 z167)), by decide, by decide, nofun, ?_, own_che e164 (CHr.trans C161 (CHv.at (s := s) X164 hZ126 (own_ew_237 hw) c160.1)), fun fs hr => castTop (ef_413 m p1 p2 p3 p4 p5 p6) ?_⟩
    · exact ⟨rfl, N159⟩
    · refine st2 _ ?_
      show SS p e below T2 m 211 #[iv p1, iv p2, iv p3, iv p4, iv p5, iv p6, iv i2_0, rv r2_1, sl2_4, .unset, .unset] [] _
      refine XS.aload X2.here hx rfl (hb hby at_211) rfl rfl ?_
      refine XS.ifnonnullYes X2.here hx rfl (pc0 := 213) (pc' := 222) rfl (hb hby at_213) rfl (by decide) (by decide) ?_
      refine XS.aload X2.here hx rfl (hb hby at_222) rfl rfl ?_
      refine st116 _ ?_
      refine st120 _ ?_
      refine XS.ifYes X120.here hx rfl (pc0 := 229) (pc' := 240) rfl (hb hby at_229) rfl ((if0 _ _).trans (teq (by decide : (0 : Int32) = (0 : Int32))).1) (by decide) (by decide) ?_
      refine XS.aload X120.here hx rfl (hb hby at_240) rfl rfl ?_
      refine st126 _ ?_
      refine st130 _ ?_
      refine XS.ifNo X130.here hx rfl (hb hby at_247) rfl ((if0 _ _).trans (feq (by decide : ¬ ((1 : Int32) = (0 : Int32)))).1) ?_
      show SS p e below T130 m 250 #[iv p1, iv p2, iv p3, iv p4, iv p5, iv p6, iv i2_0, rv r2_1, sl2_4, .unset, .unset] [] _
      refine st137 _ ?_
      refine XS.astore X137.here hx rfl (hb hby at_253) rfl rfl (l' := #[iv p1, iv p2, iv p3, iv p4, iv p5, iv p6, iv i2_0, rv r2_1, rv o_SERVER, .unset, .unset]) (by rcases J2_9 with q | ⟨_, q⟩ <;> subst q <;> rfl) ?_
      refine XS.goto X137.here hx rfl (pc0 := 255) (pc' := 261) rfl (hb hby at_255) (by decide) (by decide) ?_
      refine XS.aload X137.here hx rfl (hb hby at_261) rfl rfl ?_
      refine st138 _ ?_
      refine XS.aload X138.here hx rfl (hb hby at_266) rfl rfl ?_
      refine Jvm.RoadKit.acmp (g := (mkF m 268 #[iv p1, iv p2, iv p3, iv p4, iv p5, iv p6, iv i2_0, rv r2_1, rv o_SERVER, .unset, .unset] [(.ref o_SERVER), (.ref o_SERVER)])) X138 hx rfl rfl rfl (pc0 := 268) (pc' := 271) (same := true) rfl (hb hby at_268) rfl (decide_eq_true rfl) (by decide) (by decide) ?_
      refine XS.iconst X138.here hx rfl (hb hby at_271) ?_
      refine XS.goto X138.here hx rfl (pc0 := 272) (pc' := 276) rfl (hb hby at_272) (by decide) (by decide) ?_
      refine XS.istore X138.here hx rfl (hb hby at_276) rfl (l' := #[iv p1, iv p2, iv p3, iv p4, iv p5, iv p6, iv i2_0, rv r2_1, rv o_SERVER, iv 1, .unset]) rfl ?_
      show SS p e below T138 m 278 #[iv p1, iv p2, iv p3, iv p4, iv p5, iv p6, iv i2_0, rv r2_1, rv o_SERVER, iv 1, .unset] [] _
      refine st145 _ ?_
      refine st146 _ ?_
      refine st148 _ ?_
      refine st154 _ ?_
      refine Jvm.RoadKit.acmp (g := (mkF m 290 #[iv p1, iv p2, iv p3, iv p4, iv p5, iv p6, iv i2_0, rv r2_1, rv o_SERVER, iv 1, .unset] [(.ref o_CLIENT), (.ref o_CLIENT)])) X154 hx rfl rfl rfl (pc0 := 290) (pc' := 293) (same := true) rfl (hb hby at_290) rfl (decide_eq_true rfl) (by decide) (by decide) ?_
      refine st155 _ ?_
      refine st156 _ ?_
      refine st158 _ ?_
      refine st164 _ ?_
      refine Jvm.RoadKit.acmp (g := (mkF m 305 #[iv p1, iv p2, iv p3, iv p4, iv p5, iv p6, iv i2_0, rv r2_1, rv o_SERVER, iv 1, .unset] [(.ref o_SERVER), (.ref o_SERVER)])) X164 hx rfl rfl rfl (pc0 := 305) (pc' := 308) (same := true) rfl (hb hby at_305) rfl (decide_eq_true rfl) (by decide) (by decide) ?_
      show SS p e below T164 m 308 #[iv p1, iv p2, iv p3, iv p4, iv p5, iv p6, iv i2_0, rv r2_1, rv o_SERVER, iv 1, .unset] [] _
      refine XS.iconst X164.here hx rfl (hb hby at_308) ?_
      refine XS.goto X164.here hx rfl (pc0 := 309) (pc' := 313) rfl (hb hby at_309) (by decide) (by decide) ?_
      refine XS.istore X164.here hx rfl (hb hby at_313) rfl (l' := #[iv p1, iv p2, iv p3, iv p4, iv p5, iv p6, iv i2_0, rv r2_1, rv o_SERVER, iv 1, iv 1]) rfl ?_
      refine XS.iload X164.here hx rfl (hb hby at_315) rfl ?_
      refine XS.ifNo X164.here hx rfl (hb hby at_317) rfl ((if0 _ _).trans (feq (by decide : ¬ ((1 : Int32) = (0 : Int32)))).1) ?_
      refine XS.iload X164.here hx rfl (hb hby at_320) rfl ?_
      refine XS.ifNo X164.here hx rfl (hb hby at_322) rfl ((if0 _ _).trans (feq (by decide : ¬ ((1 : Int32) = (0 : Int32)))).1) ?_
      refine XS.iconst X164.here hx rfl (hb hby at_325) ?_
      refine XS.goto X164.here hx rfl (pc0 := 326) (pc' := 330) rfl (hb hby at_326) (by decide) (by decide) ?_
      exact retN X164 hx (t := .boolean) hret (by simp) (hb hby at_330) hr
  · obtain ⟨i2_0, r2_1, r2_2, k2_3, i2_4, vs2_5, sl2_6, T2, h2, vm2, k2, L2, X2, e2, N2, K2, hS2, hk2, hZ2, hown2, c2, J2_0, J2_1, J2_2, J2_3, J2_4, J2_5, hPc, hPs, st2⟩ : ∃ (i2_0 : Int32) (r2_1 : Addr) (r2_2 : Addr) (k2_3 : ClassId) (i2_4 : Int32) (vs2_5 : List Value) (sl2_6 : Slot) (T2 : State) (h2 : Heap) (vm2 : Vm) (k2 : Nat) (L2 : List Loc), Stand p l e room_1 (s.setVm vm2) m #[(.int p1), (.int p2), (.int p3), (.int p4), (.int p5), (.int p6)] below meth c T2 L2 6 18 ∧ T2.heap = h2 ∧ Fr n0 L2 ∧ Keep h0 h2 [] ∧ s.Since vm2 k2 ∧ k2 ≤ h2.size ∧ Z.Warmed39 vm2 ∧ vm2.findClass "com/example/duplex/duplex/compliance/SideOfLabelPinLaw" = some m.cls ∧ CHr Z consts_1 s.vm h0 vm2 h2 ∧ h0.size ≤ r2_1 ∧ EA14 Z h2 r2_1 ∧ FA11 Z h2 r2_1 (.int 0) ∧ Arv Z h2 r2_2 k2_3 .byte i2_4 vs2_5 (.int 0) ∧ FA12 Z h2 r2_1 (.ref r2_2) ∧ (sl2_6 = Slot.unset ∨ ∃ a : Addr, sl2_6 = rv a) ∧ own_P (99 : Int32) (108 : Int32) (105 : Int32) (101 : Int32) (110 : Int32) (116 : Int32) i2_4 vs2_5 ∧ own_P (115 : Int32) (101 : Int32) (114 : Int32) (118 : Int32) (101 : Int32) (114 : Int32) i2_4 vs2_5 ∧ ∀ t, SS p e below T2 m 211 #[iv p1, iv p2, iv p3, iv p4, iv p5, iv p6, iv i2_0, rv r2_1, sl2_6, .unset, .unset] [] t → SS p e below s₁ m 0 #[iv p1, iv p2, iv p3, iv p4, iv p5, iv p6, .unset, .unset, .unset, .unset, .unset] [] t := by
      rcases A with ⟨qm, qr⟩ | ⟨qm, qr⟩ | ⟨qm, qr⟩
      · obtain ⟨r3_0, r3_1, k3_2, i3_3, vs3_4, T3, h3, vm3, k3, L3, X3, e3, N3, K3, hS3, hk3, hZ3, hown3, c3, J3_0, J3_1, J3_2, J3_3, J3_4, hPc, hPs, st3⟩ : ∃ (r3_0 : Addr) (r3_1 : Addr) (k3_2 : ClassId) (i3_3 : Int32) (vs3_4 : List Value) (T3 : State) (h3 : Heap) (vm3 : Vm) (k3 : Nat) (L3 : List Loc), Stand p l e room_1 (s.setVm vm3) m #[(.int p1), (.int p2), (.int p3), (.int p4), (.int p5), (.int p6)] below meth c T3 L3 6 18 ∧ T3.heap = h3 ∧ Fr n0 L3 ∧ Keep h0 h3 [] ∧ s.Since vm3 k3 ∧ k3 ≤ h3.size ∧ Z.Warmed39 vm3 ∧ vm3.findClass "com/example/duplex/duplex/compliance/SideOfLabelPinLaw" = some m.cls ∧ CHr Z consts_1 s.vm h0 vm3 h3 ∧ h0.size ≤ r3_0 ∧ EA14 Z h3 r3_0 ∧ FA11 Z h3 r3_0 (.int 0) ∧ Arv Z h3 r3_1 k3_2 .byte i3_3 vs3_4 (.int 0) ∧ FA12 Z h3 r3_0 (.ref r3_1) ∧ own_P (99 : Int32) (108 : Int32) (105 : Int32) (101 : Int32) (110 : Int32) (116 : Int32) i3_3 vs3_4 ∧ own_P (115 : Int32) (101 : Int32) (114 : Int32) (118 : Int32) (101 : Int32) (114 : Int32) i3_3 vs3_4 ∧ ∀ t, SS p e below T3 m 211 #[iv p1, iv p2, iv p3, iv p4, iv p5, iv p6, iv 0, rv r3_0, .unset, .unset, .unset] [] t → SS p e below s₁ m 84 #[iv p1, iv p2, iv p3, iv p4, iv p5, iv p6, iv 0, .unset, .unset, .unset, .unset] [(.int ((us16 p3) &&& (255 : Int32))), (.int ((us8 p3) &&& (255 : Int32))), (.int (p3 &&& (255 : Int32))), (.int ((us24 p2) &&& (255 : Int32))), (.int ((us16 p2) &&& (255 : Int32))), (.int ((us8 p2) &&& (255 : Int32))), (.int (p2 &&& (255 : Int32))), (.int (p6 &&& (7 : Int32)))] t := by
          rcases qr with qn | qn | qn | qn | qn | qn | qn | ⟨qn, qu, qv⟩
          · obtain ⟨_, _, ⟨T4, L4, k4, n4⟩, -, Y4, hs4, hg4, ⟨Lc4, hQ4, l4, y4, z4, c4⟩, st4⟩ := callSS (s := s.setVm s.vm) X1 hx (y := MY10) hown (mvT hZ (W 0 rfl)) (mvT hZ (W 1 rfl)) (mvT hZ (W 2 rfl)) (mvT hZ (W 3 rfl)) (by decide) (own_backH (s := s) (vm0 := s.vm) (W := 0) (rm28_str l Z a0 hw (p2 &&& (255 : Int32)) ((us8 p2) &&& (255 : Int32)) ((us16 p2) &&& (255 : Int32)) ((us24 p2) &&& (255 : Int32)) (p3 &&& (255 : Int32)) ((us8 p3) &&& (255 : Int32)) ((us16 p3) &&& (255 : Int32)) h0 n0 O0 ) hZ (W 3 rfl) (W 2 rfl) (by decide) (by decide) (own_ew_237 hw) H0 own_sf0) (g := (mkF m 84 #[iv p1, iv p2, iv p3, iv p4, iv p5, iv p6, iv 0, .unset, .unset, .unset, .unset] [(.int ((us16 p3) &&& (255 : Int32))), (.int ((us8 p3) &&& (255 : Int32))), (.int (p3 &&& (255 : Int32))), (.int ((us24 p2) &&& (255 : Int32))), (.int ((us16 p2) &&& (255 : Int32))), (.int ((us8 p2) &&& (255 : Int32))), (.int (p2 &&& (255 : Int32))), (.int 0)])) rfl (by rw [hml]; rfl) (argsL := [(.int 0), (.int (p2 &&& (255 : Int32))), (.int ((us8 p2) &&& (255 : Int32))), (.int ((us16 p2) &&& (255 : Int32))), (.int ((us24 p2) &&& (255 : Int32))), (.int (p3 &&& (255 : Int32))), (.int ((us8 p3) &&& (255 : Int32))), (.int ((us16 p3) &&& (255 : Int32)))]) (rest := []) (lenOf pd_235 rfl) rfl (by show 2 * 0 + _ ≤ _; exact Nat.le_of_eq rfl) (hb hby at_84) (fun _ _ => ⟨rfl, e0, (by decide : 0 + 6 ≤ _), (by decide : 0 + 12 ≤ _)⟩)
            dsimp only [Pt.U, Pt.locs, Pt.cells, Pt.slots] at Y4 l4 y4 z4 st4 hQ4 hs4 hg4 c4
            subst l4 y4 z4
            obtain ⟨X4, hS4, hZ4, hown4⟩ := rebS (s := s) (vm0 := s.vm) ((State.WarmedH.refl s).since 0) (Nat.zero_le _) Y4 hs4 hg4 hZ hown
            obtain ⟨b4_0, b4_1, k4_0, rfl, N4q, K4, gb4_0, F4_0, F4_1, F4_2, F4_3⟩ := hQ4
            have N5 := Fr.app N0 N4q
            have C6 := CHr.trans (CHr.refl H0) c4
            have O7 := O0.keep K4 all0
            have K8 : Keep h0 T4.heap [] := Keep.trans (Keep.refl h0 []) K4 all0
            refine ⟨b4_0, b4_1, k4_0, (0 : Int32), [], T4, T4.heap, T4.vm, _, _, X4.more (by decide) (by decide), rfl, N5, K8, hS4, (Nat.le_refl _), hZ4, hown4, C6, gb4_0, F4_0, F4_1, F4_3, F4_2, fun qq' => absurd qq' (by decide), fun qq' => absurd qq' (by decide), fun t qt => ?_⟩
            show SS p e below s₁ m 84 #[iv p1, iv p2, iv p3, iv p4, iv p5, iv p6, iv 0, .unset, .unset, .unset, .unset] [(.int ((us16 p3) &&& (255 : Int32))), (.int ((us8 p3) &&& (255 : Int32))), (.int (p3 &&& (255 : Int32))), (.int ((us24 p2) &&& (255 : Int32))), (.int ((us16 p2) &&& (255 : Int32))), (.int ((us8 p2) &&& (255 : Int32))), (.int (p2 &&& (255 : Int32))), (.int (p6 &&& (7 : Int32)))] _
            rw [qn]
            show SS p e below s₁ m 84 #[iv p1, iv p2, iv p3, iv p4, iv p5, iv p6, iv 0, .unset, .unset, .unset, .unset] [(.int ((us16 p3) &&& (255 : Int32))), (.int ((us8 p3) &&& (255 : Int32))), (.int (p3 &&& (255 : Int32))), (.int ((us24 p2) &&& (255 : Int32))), (.int ((us16 p2) &&& (255 : Int32))), (.int ((us8 p2) &&& (255 : Int32))), (.int (p2 &&& (255 : Int32))), (.int 0)] _
            refine st4.trans ?_
            refine XS.astore X4.here hx rfl (hb hby at_87) rfl rfl (l' := #[iv p1, iv p2, iv p3, iv p4, iv p5, iv p6, iv 0, rv b4_0, .unset, .unset, .unset]) rfl ?_
            refine XS.goto X4.here hx rfl (pc0 := 89) (pc' := 211) rfl (hb hby at_89) (by decide) (by decide) ?_
            exact qt
          · obtain ⟨_, T4, L4, X4, hQ4, st4⟩ := own_cs X1 hx hZ hown hml (W 0 rfl) (W 1 rfl) (W 2 rfl) (W 3 rfl) (rm34_str l Z a0 hw (p2 &&& (255 : Int32)) ((us8 p2) &&& (255 : Int32)) ((us16 p2) &&& (255 : Int32)) ((us24 p2) &&& (255 : Int32)) (p3 &&& (255 : Int32)) ((us8 p3) &&& (255 : Int32)) ((us16 p3) &&& (255 : Int32)) o_COMPACT_STRINGS h0 n0 O0 ((show nar .char (p2 &&& (255 : Int32)) = (p2 &&& (255 : Int32)) from (own_char _ (own_c255 p2).1 (own_c255 p2).2).1)) (S_o_COMPACT_STRINGS) (nz_o_COMPACT_STRINGS) ((own_c255 p2).1)) e0 (hb hby at_84) 0 #[iv p1, iv p2, iv p3, iv p4, iv p5, iv p6, iv 0, .unset, .unset, .unset, .unset] [(.int 1), (.int (p2 &&& (255 : Int32))), (.int ((us8 p2) &&& (255 : Int32))), (.int ((us16 p2) &&& (255 : Int32))), (.int ((us24 p2) &&& (255 : Int32))), (.int (p3 &&& (255 : Int32))), (.int ((us8 p3) &&& (255 : Int32))), (.int ((us16 p3) &&& (255 : Int32)))] [] pd_235
            obtain ⟨b4_0, b4_1, k4_0, rfl, N4q, K4, gb4_0, gb4_1, F4_0, F4_1, F4_2, F4_3, F4_4⟩ := hQ4
            have N5 := Fr.app N0 N4q
            have c6 := CHr.keep K4 sf0 H0
            have C7 := CHr.trans (CHr.refl H0) c6
            have O8 := O0.keep K4 all0
            have K9 : Keep h0 T4.heap [] := Keep.trans (Keep.refl h0 []) K4 all0
            refine ⟨b4_0, b4_1, k4_0, (1 : Int32), [(.int ((p2 &&& (255 : Int32)).toInt8.toInt32))], T4, T4.heap, s.vm, _, _, X4.more (by decide) (by decide), rfl, N5, K9, ((State.WarmedH.refl s).since 0), (Nat.zero_le _), hZ, hown, C7, gb4_0, F4_0, F4_1, F4_3, F4_2, fun qq' => absurd qq' (by decide), fun qq' => absurd qq' (by decide), fun t qt => ?_⟩
            show SS p e below s₁ m 84 #[iv p1, iv p2, iv p3, iv p4, iv p5, iv p6, iv 0, .unset, .unset, .unset, .unset] [(.int ((us16 p3) &&& (255 : Int32))), (.int ((us8 p3) &&& (255 : Int32))), (.int (p3 &&& (255 : Int32))), (.int ((us24 p2) &&& (255 : Int32))), (.int ((us16 p2) &&& (255 : Int32))), (.int ((us8 p2) &&& (255 : Int32))), (.int (p2 &&& (255 : Int32))), (.int (p6 &&& (7 : Int32)))] _
            rw [qn]
            show SS p e below s₁ m 84 #[iv p1, iv p2, iv p3, iv p4, iv p5, iv p6, iv 0, .unset, .unset, .unset, .unset] [(.int ((us16 p3) &&& (255 : Int32))), (.int ((us8 p3) &&& (255 : Int32))), (.int (p3 &&& (255 : Int32))), (.int ((us24 p2) &&& (255 : Int32))), (.int ((us16 p2) &&& (255 : Int32))), (.int ((us8 p2) &&& (255 : Int32))), (.int (p2 &&& (255 : Int32))), (.int 1)] _
            refine st4 _ ?_
            refine XS.astore X4.here hx rfl (hb hby at_87) rfl rfl (l' := #[iv p1, iv p2, iv p3, iv p4, iv p5, iv p6, iv 0, rv b4_0, .unset, .unset, .unset]) rfl ?_
            refine XS.goto X4.here hx rfl (pc0 := 89) (pc' := 211) rfl (hb hby at_89) (by decide) (by decide) ?_
            exact qt
          · obtain ⟨_, T4, L4, X4, hQ4, st4⟩ := own_cs X1 hx hZ hown hml (W 0 rfl) (W 1 rfl) (W 2 rfl) (W 3 rfl) (rm40_str l Z a0 hw (p2 &&& (255 : Int32)) ((us8 p2) &&& (255 : Int32)) ((us16 p2) &&& (255 : Int32)) ((us24 p2) &&& (255 : Int32)) (p3 &&& (255 : Int32)) ((us8 p3) &&& (255 : Int32)) ((us16 p3) &&& (255 : Int32)) o_COMPACT_STRINGS h0 n0 O0 ((show nar .char (p2 &&& (255 : Int32)) = (p2 &&& (255 : Int32)) from (own_char _ (own_c255 p2).1 (own_c255 p2).2).1)) ((show nar .char ((us8 p2) &&& (255 : Int32)) = ((us8 p2) &&& (255 : Int32)) from (own_char _ (own_c255 (us8 p2)).1 (own_c255 (us8 p2)).2).1)) (S_o_COMPACT_STRINGS) (nz_o_COMPACT_STRINGS) ((own_c255 p2).1) ((own_c255 (us8 p2)).1)) e0 (hb hby at_84) 0 #[iv p1, iv p2, iv p3, iv p4, iv p5, iv p6, iv 0, .unset, .unset, .unset, .unset] [(.int 2), (.int (p2 &&& (255 : Int32))), (.int ((us8 p2) &&& (255 : Int32))), (.int ((us16 p2) &&& (255 : Int32))), (.int ((us24 p2) &&& (255 : Int32))), (.int (p3 &&& (255 : Int32))), (.int ((us8 p3) &&& (255 : Int32))), (.int ((us16 p3) &&& (255 : Int32)))] [] pd_235
            obtain ⟨b4_0, b4_1, k4_0, rfl, N4q, K4, gb4_0, gb4_1, F4_0, F4_1, F4_2, F4_3, F4_4⟩ := hQ4
            have N5 := Fr.app N0 N4q
            have c6 := CHr.keep K4 sf0 H0
            have C7 := CHr.trans (CHr.refl H0) c6
            have O8 := O0.keep K4 all0
            have K9 : Keep h0 T4.heap [] := Keep.trans (Keep.refl h0 []) K4 all0
            refine ⟨b4_0, b4_1, k4_0, (2 : Int32), [(.int ((p2 &&& (255 : Int32)).toInt8.toInt32)), (.int (((us8 p2) &&& (255 : Int32)).toInt8.toInt32))], T4, T4.heap, s.vm, _, _, X4.more (by decide) (by decide), rfl, N5, K9, ((State.WarmedH.refl s).since 0), (Nat.zero_le _), hZ, hown, C7, gb4_0, F4_0, F4_1, F4_3, F4_2, fun qq' => absurd qq' (by decide), fun qq' => absurd qq' (by decide), fun t qt => ?_⟩
            show SS p e below s₁ m 84 #[iv p1, iv p2, iv p3, iv p4, iv p5, iv p6, iv 0, .unset, .unset, .unset, .unset] [(.int ((us16 p3) &&& (255 : Int32))), (.int ((us8 p3) &&& (255 : Int32))), (.int (p3 &&& (255 : Int32))), (.int ((us24 p2) &&& (255 : Int32))), (.int ((us16 p2) &&& (255 : Int32))), (.int ((us8 p2) &&& (255 : Int32))), (.int (p2 &&& (255 : Int32))), (.int (p6 &&& (7 : Int32)))] _
            rw [qn]
            show SS p e below s₁ m 84 #[iv p1, iv p2, iv p3, iv p4, iv p5, iv p6, iv 0, .unset, .unset, .unset, .unset] [(.int ((us16 p3) &&& (255 : Int32))), (.int ((us8 p3) &&& (255 : Int32))), (.int (p3 &&& (255 : Int32))), (.int ((us24 p2) &&& (255 : Int32))), (.int ((us16 p2) &&& (255 : Int32))), (.int ((us8 p2) &&& (255 : Int32))), (.int (p2 &&& (255 : Int32))), (.int 2)] _
            refine st4 _ ?_
            refine XS.astore X4.here hx rfl (hb hby at_87) rfl rfl (l' := #[iv p1, iv p2, iv p3, iv p4, iv p5, iv p6, iv 0, rv b4_0, .unset, .unset, .unset]) rfl ?_
            refine XS.goto X4.here hx rfl (pc0 := 89) (pc' := 211) rfl (hb hby at_89) (by decide) (by decide) ?_
            exact qt
          · obtain ⟨_, T4, L4, X4, hQ4, st4⟩ := own_cs X1 hx hZ hown hml (W 0 rfl) (W 1 rfl) (W 2 rfl) (W 3 rfl) (rm46_str l Z a0 hw (p2 &&& (255 : Int32)) ((us8 p2) &&& (255 : Int32)) ((us16 p2) &&& (255 : Int32)) ((us24 p2) &&& (255 : Int32)) (p3 &&& (255 : Int32)) ((us8 p3) &&& (255 : Int32)) ((us16 p3) &&& (255 : Int32)) o_COMPACT_STRINGS h0 n0 O0 ((show nar .char (p2 &&& (255 : Int32)) = (p2 &&& (255 : Int32)) from (own_char _ (own_c255 p2).1 (own_c255 p2).2).1)) ((show nar .char ((us8 p2) &&& (255 : Int32)) = ((us8 p2) &&& (255 : Int32)) from (own_char _ (own_c255 (us8 p2)).1 (own_c255 (us8 p2)).2).1)) ((show nar .char ((us16 p2) &&& (255 : Int32)) = ((us16 p2) &&& (255 : Int32)) from (own_char _ (own_c255 (us16 p2)).1 (own_c255 (us16 p2)).2).1)) (S_o_COMPACT_STRINGS) (nz_o_COMPACT_STRINGS) ((own_c255 p2).1) ((own_c255 (us8 p2)).1) ((own_c255 (us16 p2)).1)) e0 (hb hby at_84) 0 #[iv p1, iv p2, iv p3, iv p4, iv p5, iv p6, iv 0, .unset, .unset, .unset, .unset] [(.int 3), (.int (p2 &&& (255 : Int32))), (.int ((us8 p2) &&& (255 : Int32))), (.int ((us16 p2) &&& (255 : Int32))), (.int ((us24 p2) &&& (255 : Int32))), (.int (p3 &&& (255 : Int32))), (.int ((us8 p3) &&& (255 : Int32))), (.int ((us16 p3) &&& (255 : Int32)))] [] pd_235
            obtain ⟨b4_0, b4_1, k4_0, rfl, N4q, K4, gb4_0, gb4_1, F4_0, F4_1, F4_2, F4_3, F4_4⟩ := hQ4
            have N5 := Fr.app N0 N4q
            have c6 := CHr.keep K4 sf0 H0
            have C7 := CHr.trans (CHr.refl H0) c6
            have O8 := O0.keep K4 all0
            have K9 : Keep h0 T4.heap [] := Keep.trans (Keep.refl h0 []) K4 all0
            refine ⟨b4_0, b4_1, k4_0, (3 : Int32), [(.int ((p2 &&& (255 : Int32)).toInt8.toInt32)), (.int (((us8 p2) &&& (255 : Int32)).toInt8.toInt32)), (.int (((us16 p2) &&& (255 : Int32)).toInt8.toInt32))], T4, T4.heap, s.vm, _, _, X4.more (by decide) (by decide), rfl, N5, K9, ((State.WarmedH.refl s).since 0), (Nat.zero_le _), hZ, hown, C7, gb4_0, F4_0, F4_1, F4_3, F4_2, fun qq' => absurd qq' (by decide), fun qq' => absurd qq' (by decide), fun t qt => ?_⟩
            show SS p e below s₁ m 84 #[iv p1, iv p2, iv p3, iv p4, iv p5, iv p6, iv 0, .unset, .unset, .unset, .unset] [(.int ((us16 p3) &&& (255 : Int32))), (.int ((us8 p3) &&& (255 : Int32))), (.int (p3 &&& (255 : Int32))), (.int ((us24 p2) &&& (255 : Int32))), (.int ((us16 p2) &&& (255 : Int32))), (.int ((us8 p2) &&& (255 : Int32))), (.int (p2 &&& (255 : Int32))), (.int (p6 &&& (7 : Int32)))] _
            rw [qn]
            show SS p e below s₁ m 84 #[iv p1, iv p2, iv p3, iv p4, iv p5, iv p6, iv 0, .unset, .unset, .unset, .unset] [(.int ((us16 p3) &&& (255 : Int32))), (.int ((us8 p3) &&& (255 : Int32))), (.int (p3 &&& (255 : Int32))), (.int ((us24 p2) &&& (255 : Int32))), (.int ((us16 p2) &&& (255 : Int32))), (.int ((us8 p2) &&& (255 : Int32))), (.int (p2 &&& (255 : Int32))), (.int 3)] _
            refine st4 _ ?_
            refine XS.astore X4.here hx rfl (hb hby at_87) rfl rfl (l' := #[iv p1, iv p2, iv p3, iv p4, iv p5, iv p6, iv 0, rv b4_0, .unset, .unset, .unset]) rfl ?_
            refine XS.goto X4.here hx rfl (pc0 := 89) (pc' := 211) rfl (hb hby at_89) (by decide) (by decide) ?_
            exact qt
          · obtain ⟨_, T4, L4, X4, hQ4, st4⟩ := own_cs X1 hx hZ hown hml (W 0 rfl) (W 1 rfl) (W 2 rfl) (W 3 rfl) (rm52_str l Z a0 hw (p2 &&& (255 : Int32)) ((us8 p2) &&& (255 : Int32)) ((us16 p2) &&& (255 : Int32)) ((us24 p2) &&& (255 : Int32)) (p3 &&& (255 : Int32)) ((us8 p3) &&& (255 : Int32)) ((us16 p3) &&& (255 : Int32)) o_COMPACT_STRINGS h0 n0 O0 ((show nar .char (p2 &&& (255 : Int32)) = (p2 &&& (255 : Int32)) from (own_char _ (own_c255 p2).1 (own_c255 p2).2).1)) ((show nar .char ((us8 p2) &&& (255 : Int32)) = ((us8 p2) &&& (255 : Int32)) from (own_char _ (own_c255 (us8 p2)).1 (own_c255 (us8 p2)).2).1)) ((show nar .char ((us16 p2) &&& (255 : Int32)) = ((us16 p2) &&& (255 : Int32)) from (own_char _ (own_c255 (us16 p2)).1 (own_c255 (us16 p2)).2).1)) ((show nar .char ((us24 p2) &&& (255 : Int32)) = ((us24 p2) &&& (255 : Int32)) from (own_char _ (own_c255 (us24 p2)).1 (own_c255 (us24 p2)).2).1)) (S_o_COMPACT_STRINGS) (nz_o_COMPACT_STRINGS) ((own_c255 p2).1) ((own_c255 (us8 p2)).1) ((own_c255 (us16 p2)).1) ((own_c255 (us24 p2)).1)) e0 (hb hby at_84) 0 #[iv p1, iv p2, iv p3, iv p4, iv p5, iv p6, iv 0, .unset, .unset, .unset, .unset] [(.int 4), (.int (p2 &&& (255 : Int32))), (.int ((us8 p2) &&& (255 : Int32))), (.int ((us16 p2) &&& (255 : Int32))), (.int ((us24 p2) &&& (255 : Int32))), (.int (p3 &&& (255 : Int32))), (.int ((us8 p3) &&& (255 : Int32))), (.int ((us16 p3) &&& (255 : Int32)))] [] pd_235
            obtain ⟨b4_0, b4_1, k4_0, rfl, N4q, K4, gb4_0, gb4_1, F4_0, F4_1, F4_2, F4_3, F4_4⟩ := hQ4
            have N5 := Fr.app N0 N4q
            have c6 := CHr.keep K4 sf0 H0
            have C7 := CHr.trans (CHr.refl H0) c6
            have O8 := O0.keep K4 all0
            have K9 : Keep h0 T4.heap [] := Keep.trans (Keep.refl h0 []) K4 all0
            refine ⟨b4_0, b4_1, k4_0, (4 : Int32), [(.int ((p2 &&& (255 : Int32)).toInt8.toInt32)), (.int (((us8 p2) &&& (255 : Int32)).toInt8.toInt32)), (.int (((us16 p2) &&& (255 : Int32)).toInt8.toInt32)), (.int (((us24 p2) &&& (255 : Int32)).toInt8.toInt32))], T4, T4.heap, s.vm, _, _, X4.more (by decide) (by decide), rfl, N5, K9, ((State.WarmedH.refl s).since 0), (Nat.zero_le _), hZ, hown, C7, gb4_0, F4_0, F4_1, F4_3, F4_2, fun qq' => absurd qq' (by decide), fun qq' => absurd qq' (by decide), fun t qt => ?_⟩
            show SS p e below s₁ m 84 #[iv p1, iv p2, iv p3, iv p4, iv p5, iv p6, iv 0, .unset, .unset, .unset, .unset] [(.int ((us16 p3) &&& (255 : Int32))), (.int ((us8 p3) &&& (255 : Int32))), (.int (p3 &&& (255 : Int32))), (.int ((us24 p2) &&& (255 : Int32))), (.int ((us16 p2) &&& (255 : Int32))), (.int ((us8 p2) &&& (255 : Int32))), (.int (p2 &&& (255 : Int32))), (.int (p6 &&& (7 : Int32)))] _
            rw [qn]
            show SS p e below s₁ m 84 #[iv p1, iv p2, iv p3, iv p4, iv p5, iv p6, iv 0, .unset, .unset, .unset, .unset] [(.int ((us16 p3) &&& (255 : Int32))), (.int ((us8 p3) &&& (255 : Int32))), (.int (p3 &&& (255 : Int32))), (.int ((us24 p2) &&& (255 : Int32))), (.int ((us16 p2) &&& (255 : Int32))), (.int ((us8 p2) &&& (255 : Int32))), (.int (p2 &&& (255 : Int32))), (.int 4)] _
            refine st4 _ ?_
            refine XS.astore X4.here hx rfl (hb hby at_87) rfl rfl (l' := #[iv p1, iv p2, iv p3, iv p4, iv p5, iv p6, iv 0, rv b4_0, .unset, .unset, .unset]) rfl ?_
            refine XS.goto X4.here hx rfl (pc0 := 89) (pc' := 211) rfl (hb hby at_89) (by decide) (by decide) ?_
            exact qt
          · obtain ⟨_, T4, L4, X4, hQ4, st4⟩ := own_cs X1 hx hZ hown hml (W 0 rfl) (W 1 rfl) (W 2 rfl) (W 3 rfl) (rm58_str l Z a0 hw (p2 &&& (255 : Int32)) ((us8 p2) &&& (255 : Int32)) ((us16 p2) &&& (255 : Int32)) ((us24 p2) &&& (255 : Int32)) (p3 &&& (255 : Int32)) ((us8 p3) &&& (255 : Int32)) ((us16 p3) &&& (255 : Int32)) o_COMPACT_STRINGS h0 n0 O0 ((show nar .char (p2 &&& (255 : Int32)) = (p2 &&& (255 : Int32)) from (own_char _ (own_c255 p2).1 (own_c255 p2).2).1)) ((show nar .char ((us8 p2) &&& (255 : Int32)) = ((us8 p2) &&& (255 : Int32)) from (own_char _ (own_c255 (us8 p2)).1 (own_c255 (us8 p2)).2).1)) ((show nar .char ((us16 p2) &&& (255 : Int32)) = ((us16 p2) &&& (255 : Int32)) from (own_char _ (own_c255 (us16 p2)).1 (own_c255 (us16 p2)).2).1)) ((show nar .char ((us24 p2) &&& (255 : Int32)) = ((us24 p2) &&& (255 : Int32)) from (own_char _ (own_c255 (us24 p2)).1 (own_c255 (us24 p2)).2).1)) ((show nar .char (p3 &&& (255 : Int32)) = (p3 &&& (255 : Int32)) from (own_char _ (own_c255 p3).1 (own_c255 p3).2).1)) (S_o_COMPACT_STRINGS) (nz_o_COMPACT_STRINGS) ((own_c255 p2).1) ((own_c255 (us8 p2)).1) ((own_c255 (us16 p2)).1) ((own_c255 (us24 p2)).1) ((own_c255 p3).1)) e0 (hb hby at_84) 0 #[iv p1, iv p2, iv p3, iv p4, iv p5, iv p6, iv 0, .unset, .unset, .unset, .unset] [(.int 5), (.int (p2 &&& (255 : Int32))), (.int ((us8 p2) &&& (255 : Int32))), (.int ((us16 p2) &&& (255 : Int32))), (.int ((us24 p2) &&& (255 : Int32))), (.int (p3 &&& (255 : Int32))), (.int ((us8 p3) &&& (255 : Int32))), (.int ((us16 p3) &&& (255 : Int32)))] [] pd_235
            obtain ⟨b4_0, b4_1, k4_0, rfl, N4q, K4, gb4_0, gb4_1, F4_0, F4_1, F4_2, F4_3, F4_4⟩ := hQ4
            have N5 := Fr.app N0 N4q
            have c6 := CHr.keep K4 sf0 H0
            have C7 := CHr.trans (CHr.refl H0) c6
            have O8 := O0.keep K4 all0
            have K9 : Keep h0 T4.heap [] := Keep.trans (Keep.refl h0 []) K4 all0
            refine ⟨b4_0, b4_1, k4_0, (5 : Int32), [(.int ((p2 &&& (255 : Int32)).toInt8.toInt32)), (.int (((us8 p2) &&& (255 : Int32)).toInt8.toInt32)), (.int (((us16 p2) &&& (255 : Int32)).toInt8.toInt32)), (.int (((us24 p2) &&& (255 : Int32)).toInt8.toInt32)), (.int ((p3 &&& (255 : Int32)).toInt8.toInt32))], T4, T4.heap, s.vm, _, _, X4.more (by decide) (by decide), rfl, N5, K9, ((State.WarmedH.refl s).since 0), (Nat.zero_le _), hZ, hown, C7, gb4_0, F4_0, F4_1, F4_3, F4_2, fun qq' => absurd qq' (by decide), fun qq' => absurd qq' (by decide), fun t qt => ?_⟩
            show SS p e below s₁ m 84 #[iv p1, iv p2, iv p3, iv p4, iv p5, iv p6, iv 0, .unset, .unset, .unset, .unset] [(.int ((us16 p3) &&& (255 : Int32))), (.int ((us8 p3) &&& (255 : Int32))), (.int (p3 &&& (255 : Int32))), (.int ((us24 p2) &&& (255 : Int32))), (.int ((us16 p2) &&& (255 : Int32))), (.int ((us8 p2) &&& (255 : Int32))), (.int (p2 &&& (255 : Int32))), (.int (p6 &&& (7 : Int32)))] _
            rw [qn]
            show SS p e below s₁ m 84 #[iv p1, iv p2, iv p3, iv p4, iv p5, iv p6, iv 0, .unset, .unset, .unset, .unset] [(.int ((us16 p3) &&& (255 : Int32))), (.int ((us8 p3) &&& (255 : Int32))), (.int (p3 &&& (255 : Int32))), (.int ((us24 p2) &&& (255 : Int32))), (.int ((us16 p2) &&& (255 : Int32))), (.int ((us8 p2) &&& (255 : Int32))), (.int (p2 &&& (255 : Int32))), (.int 5)] _
            refine st4 _ ?_
            refine XS.astore X4.here hx rfl (hb hby at_87) rfl rfl (l' := #[iv p1, iv p2, iv p3, iv p4, iv p5, iv p6, iv 0, rv b4_0, .unset, .unset, .unset]) rfl ?_
            refine XS.goto X4.here hx rfl (pc0 := 89) (pc' := 211) rfl (hb hby at_89) (by decide) (by decide) ?_
            exact qt
          · obtain ⟨_, T4, L4, X4, hQ4, st4⟩ := own_cs X1 hx hZ hown hml (W 0 rfl) (W 1 rfl) (W 2 rfl) (W 3 rfl) (rm64_str l Z a0 hw (p2 &&& (255 : Int32)) ((us8 p2) &&& (255 : Int32)) ((us16 p2) &&& (255 : Int32)) ((us24 p2) &&& (255 : Int32)) (p3 &&& (255 : Int32)) ((us8 p3) &&& (255 : Int32)) ((us16 p3) &&& (255 : Int32)) o_COMPACT_STRINGS h0 n0 O0 ((show nar .char (p2 &&& (255 : Int32)) = (p2 &&& (255 : Int32)) from (own_char _ (own_c255 p2).1 (own_c255 p2).2).1)) ((show nar .char ((us8 p2) &&& (255 : Int32)) = ((us8 p2) &&& (255 : Int32)) from (own_char _ (own_c255 (us8 p2)).1 (own_c255 (us8 p2)).2).1)) ((show nar .char ((us16 p2) &&& (255 : Int32)) = ((us16 p2) &&& (255 : Int32)) from (own_char _ (own_c255 (us16 p2)).1 (own_c255 (us16 p2)).2).1)) ((show nar .char ((us24 p2) &&& (255 : Int32)) = ((us24 p2) &&& (255 : Int32)) from (own_char _ (own_c255 (us24 p2)).1 (own_c255 (us24 p2)).2).1)) ((show nar .char (p3 &&& (255 : Int32)) = (p3 &&& (255 : Int32)) from (own_char _ (own_c255 p3).1 (own_c255 p3).2).1)) ((show nar .char ((us8 p3) &&& (255 : Int32)) = ((us8 p3) &&& (255 : Int32)) from (own_char _ (own_c255 (us8 p3)).1 (own_c255 (us8 p3)).2).1)) ((show nar .char ((us16 p3) &&& (255 : Int32)) = ((us16 p3) &&& (255 : Int32)) from (own_char _ (own_c255 (us16 p3)).1 (own_c255 (us16 p3)).2).1)) (S_o_COMPACT_STRINGS) (nz_o_COMPACT_STRINGS) ((own_c255 p2).1) ((own_c255 (us8 p2)).1) ((own_c255 (us16 p2)).1) ((own_c255 (us24 p2)).1) ((own_c255 p3).1) ((own_c255 (us8 p3)).1) ((own_c255 (us16 p3)).1)) e0 (hb hby at_84) 0 #[iv p1, iv p2, iv p3, iv p4, iv p5, iv p6, iv 0, .unset, .unset, .unset, .unset] [(.int 7), (.int (p2 &&& (255 : Int32))), (.int ((us8 p2) &&& (255 : Int32))), (.int ((us16 p2) &&& (255 : Int32))), (.int ((us24 p2) &&& (255 : Int32))), (.int (p3 &&& (255 : Int32))), (.int ((us8 p3) &&& (255 : Int32))), (.int ((us16 p3) &&& (255 : Int32)))] [] pd_235
            obtain ⟨b4_0, b4_1, k4_0, rfl, N4q, K4, gb4_0, gb4_1, F4_0, F4_1, F4_2, F4_3, F4_4⟩ := hQ4
            have N5 := Fr.app N0 N4q
            have c6 := CHr.keep K4 sf0 H0
            have C7 := CHr.trans (CHr.refl H0) c6
            have O8 := O0.keep K4 all0
            have K9 : Keep h0 T4.heap [] := Keep.trans (Keep.refl h0 []) K4 all0
            refine ⟨b4_0, b4_1, k4_0, (7 : Int32), [(.int ((p2 &&& (255 : Int32)).toInt8.toInt32)), (.int (((us8 p2) &&& (255 : Int32)).toInt8.toInt32)), (.int (((us16 p2) &&& (255 : Int32)).toInt8.toInt32)), (.int (((us24 p2) &&& (255 : Int32)).toInt8.toInt32)), (.int ((p3 &&& (255 : Int32)).toInt8.toInt32)), (.int (((us8 p3) &&& (255 : Int32)).toInt8.toInt32)), (.int (((us16 p3) &&& (255 : Int32)).toInt8.toInt32))], T4, T4.heap, s.vm, _, _, X4.more (by decide) (by decide), rfl, N5, K9, ((State.WarmedH.refl s).since 0), (Nat.zero_le _), hZ, hown, C7, gb4_0, F4_0, F4_1, F4_3, F4_2, fun qq' => absurd qq' (by decide), fun qq' => absurd qq' (by decide), fun t qt => ?_⟩
            show SS p e below s₁ m 84 #[iv p1, iv p2, iv p3, iv p4, iv p5, iv p6, iv 0, .unset, .unset, .unset, .unset] [(.int ((us16 p3) &&& (255 : Int32))), (.int ((us8 p3) &&& (255 : Int32))), (.int (p3 &&& (255 : Int32))), (.int ((us24 p2) &&& (255 : Int32))), (.int ((us16 p2) &&& (255 : Int32))), (.int ((us8 p2) &&& (255 : Int32))), (.int (p2 &&& (255 : Int32))), (.int (p6 &&& (7 : Int32)))] _
            rw [qn]
            show SS p e below s₁ m 84 #[iv p1, iv p2, iv p3, iv p4, iv p5, iv p6, iv 0, .unset, .unset, .unset, .unset] [(.int ((us16 p3) &&& (255 : Int32))), (.int ((us8 p3) &&& (255 : Int32))), (.int (p3 &&& (255 : Int32))), (.int ((us24 p2) &&& (255 : Int32))), (.int ((us16 p2) &&& (255 : Int32))), (.int ((us8 p2) &&& (255 : Int32))), (.int (p2 &&& (255 : Int32))), (.int 7)] _
            refine st4 _ ?_
            refine XS.astore X4.here hx rfl (hb hby at_87) rfl rfl (l' := #[iv p1, iv p2, iv p3, iv p4, iv p5, iv p6, iv 0, rv b4_0, .unset, .unset, .unset]) rfl ?_
            refine XS.goto X4.here hx rfl (pc0 := 89) (pc' := 211) rfl (hb hby at_89) (by decide) (by decide) ?_
            exact qt
          · obtain ⟨_, T4, L4, X4, hQ4, st4⟩ := own_cs X1 hx hZ hown hml (W 0 rfl) (W 1 rfl) (W 2 rfl) (W 3 rfl) (rm15_str l Z a0 hw (p2 &&& (255 : Int32)) ((us8 p2) &&& (255 : Int32)) ((us16 p2) &&& (255 : Int32)) ((us24 p2) &&& (255 : Int32)) (p3 &&& (255 : Int32)) ((us8 p3) &&& (255 : Int32)) ((us16 p3) &&& (255 : Int32)) o_COMPACT_STRINGS h0 n0 O0 ((show nar .char (p2 &&& (255 : Int32)) = (p2 &&& (255 : Int32)) from (own_char _ (own_c255 p2).1 (own_c255 p2).2).1)) ((show nar .char ((us8 p2) &&& (255 : Int32)) = ((us8 p2) &&& (255 : Int32)) from (own_char _ (own_c255 (us8 p2)).1 (own_c255 (us8 p2)).2).1)) ((show nar .char ((us16 p2) &&& (255 : Int32)) = ((us16 p2) &&& (255 : Int32)) from (own_char _ (own_c255 (us16 p2)).1 (own_c255 (us16 p2)).2).1)) ((show nar .char ((us24 p2) &&& (255 : Int32)) = ((us24 p2) &&& (255 : Int32)) from (own_char _ (own_c255 (us24 p2)).1 (own_c255 (us24 p2)).2).1)) ((show nar .char (p3 &&& (255 : Int32)) = (p3 &&& (255 : Int32)) from (own_char _ (own_c255 p3).1 (own_c255 p3).2).1)) ((show nar .char ((us8 p3) &&& (255 : Int32)) = ((us8 p3) &&& (255 : Int32)) from (own_char _ (own_c255 (us8 p3)).1 (own_c255 (us8 p3)).2).1)) (S_o_COMPACT_STRINGS) (nz_o_COMPACT_STRINGS) ((own_c255 p2).1) ((own_c255 (us8 p2)).1) ((own_c255 (us16 p2)).1) ((own_c255 (us24 p2)).1) ((own_c255 p3).1) ((own_c255 (us8 p3)).1)) e0 (hb hby at_84) 0 #[iv p1, iv p2, iv p3, iv p4, iv p5, iv p6, iv 0, .unset, .unset, .unset, .unset] [(.int 6), (.int (p2 &&& (255 : Int32))), (.int ((us8 p2) &&& (255 : Int32))), (.int ((us16 p2) &&& (255 : Int32))), (.int ((us24 p2) &&& (255 : Int32))), (.int (p3 &&& (255 : Int32))), (.int ((us8 p3) &&& (255 : Int32))), (.int ((us16 p3) &&& (255 : Int32)))] [] pd_235
            obtain ⟨b4_0, b4_1, k4_0, rfl, N4q, K4, gb4_0, gb4_1, F4_0, F4_1, F4_2, F4_3, F4_4⟩ := hQ4
            have N5 := Fr.app N0 N4q
            have c6 := CHr.keep K4 sf0 H0
            have C7 := CHr.trans (CHr.refl H0) c6
            have O8 := O0.keep K4 all0
            have K9 : Keep h0 T4.heap [] := Keep.trans (Keep.refl h0 []) K4 all0
            refine ⟨b4_0, b4_1, k4_0, (6 : Int32), [(.int ((p2 &&& (255 : Int32)).toInt8.toInt32)), (.int (((us8 p2) &&& (255 : Int32)).toInt8.toInt32)), (.int (((us16 p2) &&& (255 : Int32)).toInt8.toInt32)), (.int (((us24 p2) &&& (255 : Int32)).toInt8.toInt32)), (.int ((p3 &&& (255 : Int32)).toInt8.toInt32)), (.int (((us8 p3) &&& (255 : Int32)).toInt8.toInt32))], T4, T4.heap, s.vm, _, _, X4.more (by decide) (by decide), rfl, N5, K9, ((State.WarmedH.refl s).since 0), (Nat.zero_le _), hZ, hown, C7, gb4_0, F4_0, F4_1, F4_3, F4_2, fun _ => ⟨_, _, _, _, _, _, rfl, fun qq' => qu ⟨((own_char _ (own_c255 p2).1 (own_c255 p2).2).2.symm.trans (by rw [← qq'.1]; decide)), ((own_char _ (own_c255 (us8 p2)).1 (own_c255 (us8 p2)).2).2.symm.trans (by rw [← qq'.2.1]; decide)), ((own_char _ (own_c255 (us16 p2)).1 (own_c255 (us16 p2)).2).2.symm.trans (by rw [← qq'.2.2.1]; decide)), ((own_char _ (own_c255 (us24 p2)).1 (own_c255 (us24 p2)).2).2.symm.trans (by rw [← qq'.2.2.2.1]; decide)), ((own_char _ (own_c255 p3).1 (own_c255 p3).2).2.symm.trans (by rw [← qq'.2.2.2.2.1]; decide)), ((own_char _ (own_c255 (us8 p3)).1 (own_c255 (us8 p3)).2).2.symm.trans (by rw [← qq'.2.2.2.2.2]; decide))⟩⟩, fun _ => ⟨_, _, _, _, _, _, rfl, fun qq' => qv ⟨((own_char _ (own_c255 p2).1 (own_c255 p2).2).2.symm.trans (by rw [← qq'.1]; decide)), ((own_char _ (own_c255 (us8 p2)).1 (own_c255 (us8 p2)).2).2.symm.trans (by rw [← qq'.2.1]; decide)), ((own_char _ (own_c255 (us16 p2)).1 (own_c255 (us16 p2)).2).2.symm.trans (by rw [← qq'.2.2.1]; decide)), ((own_char _ (own_c255 (us24 p2)).1 (own_c255 (us24 p2)).2).2.symm.trans (by rw [← qq'.2.2.2.1]; decide)), ((own_char _ (own_c255 p3).1 (own_c255 p3).2).2.symm.trans (by rw [← qq'.2.2.2.2.1]; decide)), ((own_char _ (own_c255 (us8 p3)).1 (own_c255 (us8 p3)).2).2.symm.trans (by rw [← qq'.2.2.2.2.2]; decide))⟩⟩, fun t qt => ?_⟩
            show SS p e below s₁ m 84 #[iv p1, iv p2, iv p3, iv p4, iv p5, iv p6, iv 0, .unset, .unset, .unset, .unset] [(.int ((us16 p3) &&& (255 : Int32))), (.int ((us8 p3) &&& (255 : Int32))), (.int (p3 &&& (255 : Int32))), (.int ((us24 p2) &&& (255 : Int32))), (.int ((us16 p2) &&& (255 : Int32))), (.int ((us8 p2) &&& (255 : Int32))), (.int (p2 &&& (255 : Int32))), (.int (p6 &&& (7 : Int32)))] _
            rw [qn]
            show SS p e below s₁ m 84 #[iv p1, iv p2, iv p3, iv p4, iv p5, iv p6, iv 0, .unset, .unset, .unset, .unset] [(.int ((us16 p3) &&& (255 : Int32))), (.int ((us8 p3) &&& (255 : Int32))), (.int (p3 &&& (255 : Int32))), (.int ((us24 p2) &&& (255 : Int32))), (.int ((us16 p2) &&& (255 : Int32))), (.int ((us8 p2) &&& (255 : Int32))), (.int (p2 &&& (255 : Int32))), (.int 6)] _
            refine st4 _ ?_
            refine XS.astore X4.here hx rfl (hb hby at_87) rfl rfl (l' := #[iv p1, iv p2, iv p3, iv p4, iv p5, iv p6, iv 0, rv b4_0, .unset, .unset, .unset]) rfl ?_
            refine XS.goto X4.here hx rfl (pc0 := 89) (pc' := 211) rfl (hb hby at_89) (by decide) (by decide) ?_
            exact qt
        have C4 := CHr.trans (CHr.refl H0) c3
        have O5 := O0.keep K3 all0
        have K6 : Keep h0 h3 [] := Keep.trans (Keep.refl h0 []) K3 all0
        refine ⟨(0 : Int32), r3_0, r3_1, k3_2, i3_3, vs3_4, .unset, T3, h3, vm3, _, _, X3.more (by decide) (by decide), e3, N3, K6, hS3, hk3, hZ3, hown3, C4, J3_0, J3_1, J3_2, J3_3, J3_4, (Or.inl rfl), hPc, hPs, fun t qt => ?_⟩
        show SS p e below s₁ m 0 #[iv p1, iv p2, iv p3, iv p4, iv p5, iv p6, .unset, .unset, .unset, .unset, .unset] [] _
        refine XS.iloadN X1.here hx rfl (hb hby at_0) rfl ?_
        refine XS.iconst X1.here hx rfl (hb hby at_1) ?_
        show SS p e below s₁ m 2 #[iv p1, iv p2, iv p3, iv p4, iv p5, iv p6, .unset, .unset, .unset, .unset, .unset] [(.int 3), (.int p1)] _
        refine XS.iand X1.here hx rfl (hb hby at_2) rfl ?_
        rw [qm]
        show SS p e below s₁ m 3 #[iv p1, iv p2, iv p3, iv p4, iv p5, iv p6, .unset, .unset, .unset, .unset, .unset] [(.int 0)] _
        refine XS.istore X1.here hx rfl (hb hby at_3) rfl (l' := #[iv p1, iv p2, iv p3, iv p4, iv p5, iv p6, iv 0, .unset, .unset, .unset, .unset]) rfl ?_
        refine XS.iload X1.here hx rfl (hb hby at_5) rfl ?_
        refine XS.iconst X1.here hx rfl (hb hby at_7) ?_
        refine XS.icmpYes X1.here hx rfl (pc0 := 8) (pc' := 17) rfl (hb hby at_8) rfl (feq (by decide : ¬ ((0 : Int32) = (3 : Int32)))).2 (by decide) (by decide) ?_
        refine XS.iload X1.here hx rfl (hb hby at_17) rfl ?_
        refine XS.ifNo X1.here hx rfl (hb hby at_19) rfl ((if0 _ _).trans (teq (by decide : (0 : Int32) = (0 : Int32))).2) ?_
        refine XS.iload X1.here hx rfl (hb hby at_22) rfl ?_
        refine XS.bipush X1.here hx rfl (hb hby at_24) ?_
        show SS p e below s₁ m 26 #[iv p1, iv p2, iv p3, iv p4, iv p5, iv p6, iv 0, .unset, .unset, .unset, .unset] [(.int 7), (.int p6)] _
        refine XS.iand X1.here hx rfl (hb hby at_26) rfl ?_
        show SS p e below s₁ m 27 #[iv p1, iv p2, iv p3, iv p4, iv p5, iv p6, iv 0, .unset, .unset, .unset, .unset] [(.int (p6 &&& (7 : Int32)))] _
        refine XS.iloadN X1.here hx rfl (hb hby at_27) rfl ?_
        refine XS.sipush X1.here hx rfl (hb hby at_28) ?_
        show SS p e below s₁ m 31 #[iv p1, iv p2, iv p3, iv p4, iv p5, iv p6, iv 0, .unset, .unset, .unset, .unset] [(.int 255), (.int p2), (.int (p6 &&& (7 : Int32)))] _
        refine XS.iand X1.here hx rfl (hb hby at_31) rfl ?_
        show SS p e below s₁ m 32 #[iv p1, iv p2, iv p3, iv p4, iv p5, iv p6, iv 0, .unset, .unset, .unset, .unset] [(.int (p2 &&& (255 : Int32))), (.int (p6 &&& (7 : Int32)))] _
        refine XS.i2c X1.here hx rfl (hb hby at_32) rfl ?_
        rw [(i2c_mask p2)]
        show SS p e below s₁ m 33 #[iv p1, iv p2, iv p3, iv p4, iv p5, iv p6, iv 0, .unset, .unset, .unset, .unset] [(.int (p2 &&& (255 : Int32))), (.int (p6 &&& (7 : Int32)))] _
        refine XS.iloadN X1.here hx rfl (hb hby at_33) rfl ?_
        refine XS.bipush X1.here hx rfl (hb hby at_34) ?_
        show SS p e below s₁ m 36 #[iv p1, iv p2, iv p3, iv p4, iv p5, iv p6, iv 0, .unset, .unset, .unset, .unset] [(.int 8), (.int p2), (.int (p2 &&& (255 : Int32))), (.int (p6 &&& (7 : Int32)))] _
        refine XS.iushr X1.here hx rfl (hb hby at_36) rfl ?_
        show SS p e below s₁ m 37 #[iv p1, iv p2, iv p3, iv p4, iv p5, iv p6, iv 0, .unset, .unset, .unset, .unset] [(.int (us8 p2)), (.int (p2 &&& (255 : Int32))), (.int (p6 &&& (7 : Int32)))] _
        refine XS.sipush X1.here hx rfl (hb hby at_37) ?_
        refine XS.iand X1.here hx rfl (hb hby at_40) rfl ?_
        show SS p e below s₁ m 41 #[iv p1, iv p2, iv p3, iv p4, iv p5, iv p6, iv 0, .unset, .unset, .unset, .unset] [(.int ((us8 p2) &&& (255 : Int32))), (.int (p2 &&& (255 : Int32))), (.int (p6 &&& (7 : Int32)))] _
        refine XS.i2c X1.here hx rfl (hb hby at_41) rfl ?_
        rw [(i2c_mask (us8 p2))]
        show SS p e below s₁ m 42 #[iv p1, iv p2, iv p3, iv p4, iv p5, iv p6, iv 0, .unset, .unset, .unset, .unset] [(.int ((us8 p2) &&& (255 : Int32))), (.int (p2 &&& (255 : Int32))), (.int (p6 &&& (7 : Int32)))] _
        refine XS.iloadN X1.here hx rfl (hb hby at_42) rfl ?_
        refine XS.bipush X1.here hx rfl (hb hby at_43) ?_
        show SS p e below s₁ m 45 #[iv p1, iv p2, iv p3, iv p4, iv p5, iv p6, iv 0, .unset, .unset, .unset, .unset] [(.int 16), (.int p2), (.int ((us8 p2) &&& (255 : Int32))), (.int (p2 &&& (255 : Int32))), (.int (p6 &&& (7 : Int32)))] _
        refine XS.iushr X1.here hx rfl (hb hby at_45) rfl ?_
        show SS p e below s₁ m 46 #[iv p1, iv p2, iv p3, iv p4, iv p5, iv p6, iv 0, .unset, .unset, .unset, .unset] [(.int (us16 p2)), (.int ((us8 p2) &&& (255 : Int32))), (.int (p2 &&& (255 : Int32))), (.int (p6 &&& (7 : Int32)))] _
        refine XS.sipush X1.here hx rfl (hb hby at_46) ?_
        refine XS.iand X1.here hx rfl (hb hby at_49) rfl ?_
        show SS p e below s₁ m 50 #[iv p1, iv p2, iv p3, iv p4, iv p5, iv p6, iv 0, .unset, .unset, .unset, .unset] [(.int ((us16 p2) &&& (255 : Int32))), (.int ((us8 p2) &&& (255 : Int32))), (.int (p2 &&& (255 : Int32))), (.int (p6 &&& (7 : Int32)))] _
        refine XS.i2c X1.here hx rfl (hb hby at_50) rfl ?_
        rw [(i2c_mask (us16 p2))]
        show SS p e below s₁ m 51 #[iv p1, iv p2, iv p3, iv p4, iv p5, iv p6, iv 0, .unset, .unset, .unset, .unset] [(.int ((us16 p2) &&& (255 : Int32))), (.int ((us8 p2) &&& (255 : Int32))), (.int (p2 &&& (255 : Int32))), (.int (p6 &&& (7 : Int32)))] _
        refine XS.iloadN X1.here hx rfl (hb hby at_51) rfl ?_
        refine XS.bipush X1.here hx rfl (hb hby at_52) ?_
        show SS p e below s₁ m 54 #[iv p1, iv p2, iv p3, iv p4, iv p5, iv p6, iv 0, .unset, .unset, .unset, .unset] [(.int 24), (.int p2), (.int ((us16 p2) &&& (255 : Int32))), (.int ((us8 p2) &&& (255 : Int32))), (.int (p2 &&& (255 : Int32))), (.int (p6 &&& (7 : Int32)))] _
        refine XS.iushr X1.here hx rfl (hb hby at_54) rfl ?_
        show SS p e below s₁ m 55 #[iv p1, iv p2, iv p3, iv p4, iv p5, iv p6, iv 0, .unset, .unset, .unset, .unset] [(.int (us24 p2)), (.int ((us16 p2) &&& (255 : Int32))), (.int ((us8 p2) &&& (255 : Int32))), (.int (p2 &&& (255 : Int32))), (.int (p6 &&& (7 : Int32)))] _
        refine XS.sipush X1.here hx rfl (hb hby at_55) ?_
        refine XS.iand X1.here hx rfl (hb hby at_58) rfl ?_
        show SS p e below s₁ m 59 #[iv p1, iv p2, iv p3, iv p4, iv p5, iv p6, iv 0, .unset, .unset, .unset, .unset] [(.int ((us24 p2) &&& (255 : Int32))), (.int ((us16 p2) &&& (255 : Int32))), (.int ((us8 p2) &&& (255 : Int32))), (.int (p2 &&& (255 : Int32))), (.int (p6 &&& (7 : Int32)))] _
        refine XS.i2c X1.here hx rfl (hb hby at_59) rfl ?_
        rw [(i2c_mask (us24 p2))]
        show SS p e below s₁ m 60 #[iv p1, iv p2, iv p3, iv p4, iv p5, iv p6, iv 0, .unset, .unset, .unset, .unset] [(.int ((us24 p2) &&& (255 : Int32))), (.int ((us16 p2) &&& (255 : Int32))), (.int ((us8 p2) &&& (255 : Int32))), (.int (p2 &&& (255 : Int32))), (.int (p6 &&& (7 : Int32)))] _
        refine XS.iloadN X1.here hx rfl (hb hby at_60) rfl ?_
        refine XS.sipush X1.here hx rfl (hb hby at_61) ?_
        show SS p e below s₁ m 64 #[iv p1, iv p2, iv p3, iv p4, iv p5, iv p6, iv 0, .unset, .unset, .unset, .unset] [(.int 255), (.int p3), (.int ((us24 p2) &&& (255 : Int32))), (.int ((us16 p2) &&& (255 : Int32))), (.int ((us8 p2) &&& (255 : Int32))), (.int (p2 &&& (255 : Int32))), (.int (p6 &&& (7 : Int32)))] _
        refine XS.iand X1.here hx rfl (hb hby at_64) rfl ?_
        show SS p e below s₁ m 65 #[iv p1, iv p2, iv p3, iv p4, iv p5, iv p6, iv 0, .unset, .unset, .unset, .unset] [(.int (p3 &&& (255 : Int32))), (.int ((us24 p2) &&& (255 : Int32))), (.int ((us16 p2) &&& (255 : Int32))), (.int ((us8 p2) &&& (255 : Int32))), (.int (p2 &&& (255 : Int32))), (.int (p6 &&& (7 : Int32)))] _
        refine XS.i2c X1.here hx rfl (hb hby at_65) rfl ?_
        rw [(i2c_mask p3)]
        show SS p e below s₁ m 66 #[iv p1, iv p2, iv p3, iv p4, iv p5, iv p6, iv 0, .unset, .unset, .unset, .unset] [(.int (p3 &&& (255 : Int32))), (.int ((us24 p2) &&& (255 : Int32))), (.int ((us16 p2) &&& (255 : Int32))), (.int ((us8 p2) &&& (255 : Int32))), (.int (p2 &&& (255 : Int32))), (.int (p6 &&& (7 : Int32)))] _
        refine XS.iloadN X1.here hx rfl (hb hby at_66) rfl ?_
        refine XS.bipush X1.here hx rfl (hb hby at_67) ?_
        show SS p e below s₁ m 69 #[iv p1, iv p2, iv p3, iv p4, iv p5, iv p6, iv 0, .unset, .unset, .unset, .unset] [(.int 8), (.int p3), (.int (p3 &&& (255 : Int32))), (.int ((us24 p2) &&& (255 : Int32))), (.int ((us16 p2) &&& (255 : Int32))), (.int ((us8 p2) &&& (255 : Int32))), (.int (p2 &&& (255 : Int32))), (.int (p6 &&& (7 : Int32)))] _
        refine XS.iushr X1.here hx rfl (hb hby at_69) rfl ?_
        show SS p e below s₁ m 70 #[iv p1, iv p2, iv p3, iv p4, iv p5, iv p6, iv 0, .unset, .unset, .unset, .unset] [(.int (us8 p3)), (.int (p3 &&& (255 : Int32))), (.int ((us24 p2) &&& (255 : Int32))), (.int ((us16 p2) &&& (255 : Int32))), (.int ((us8 p2) &&& (255 : Int32))), (.int (p2 &&& (255 : Int32))), (.int (p6 &&& (7 : Int32)))] _
        refine XS.sipush X1.here hx rfl (hb hby at_70) ?_
        refine XS.iand X1.here hx rfl (hb hby at_73) rfl ?_
        show SS p e below s₁ m 74 #[iv p1, iv p2, iv p3, iv p4, iv p5, iv p6, iv 0, .unset, .unset, .unset, .unset] [(.int ((us8 p3) &&& (255 : Int32))), (.int (p3 &&& (255 : Int32))), (.int ((us24 p2) &&& (255 : Int32))), (.int ((us16 p2) &&& (255 : Int32))), (.int ((us8 p2) &&& (255 : Int32))), (.int (p2 &&& (255 : Int32))), (.int (p6 &&& (7 : Int32)))] _
        refine XS.i2c X1.here hx rfl (hb hby at_74) rfl ?_
        rw [(i2c_mask (us8 p3))]
        show SS p e below s₁ m 75 #[iv p1, iv p2, iv p3, iv p4, iv p5, iv p6, iv 0, .unset, .unset, .unset, .unset] [(.int ((us8 p3) &&& (255 : Int32))), (.int (p3 &&& (255 : Int32))), (.int ((us24 p2) &&& (255 : Int32))), (.int ((us16 p2) &&& (255 : Int32))), (.int ((us8 p2) &&& (255 : Int32))), (.int (p2 &&& (255 : Int32))), (.int (p6 &&& (7 : Int32)))] _
        refine XS.iloadN X1.here hx rfl (hb hby at_75) rfl ?_
        refine XS.bipush X1.here hx rfl (hb hby at_76) ?_
        show SS p e below s₁ m 78 #[iv p1, iv p2, iv p3, iv p4, iv p5, iv p6, iv 0, .unset, .unset, .unset, .unset] [(.int 16), (.int p3), (.int ((us8 p3) &&& (255 : Int32))), (.int (p3 &&& (255 : Int32))), (.int ((us24 p2) &&& (255 : Int32))), (.int ((us16 p2) &&& (255 : Int32))), (.int ((us8 p2) &&& (255 : Int32))), (.int (p2 &&& (255 : Int32))), (.int (p6 &&& (7 : Int32)))] _
        refine XS.iushr X1.here hx rfl (hb hby at_78) rfl ?_
        show SS p e below s₁ m 79 #[iv p1, iv p2, iv p3, iv p4, iv p5, iv p6, iv 0, .unset, .unset, .unset, .unset] [(.int (us16 p3)), (.int ((us8 p3) &&& (255 : Int32))), (.int (p3 &&& (255 : Int32))), (.int ((us24 p2) &&& (255 : Int32))), (.int ((us16 p2) &&& (255 : Int32))), (.int ((us8 p2) &&& (255 : Int32))), (.int (p2 &&& (255 : Int32))), (.int (p6 &&& (7 : Int32)))] _
        refine XS.sipush X1.here hx rfl (hb hby at_79) ?_
        refine XS.iand X1.here hx rfl (hb hby at_82) rfl ?_
        show SS p e below s₁ m 83 #[iv p1, iv p2, iv p3, iv p4, iv p5, iv p6, iv 0, .unset, .unset, .unset, .unset] [(.int ((us16 p3) &&& (255 : Int32))), (.int ((us8 p3) &&& (255 : Int32))), (.int (p3 &&& (255 : Int32))), (.int ((us24 p2) &&& (255 : Int32))), (.int ((us16 p2) &&& (255 : Int32))), (.int ((us8 p2) &&& (255 : Int32))), (.int (p2 &&& (255 : Int32))), (.int (p6 &&& (7 : Int32)))] _
        refine XS.i2c X1.here hx rfl (hb hby at_83) rfl ?_
        rw [(i2c_mask (us16 p3))]
        refine st3 _ ?_
        exact qt
      · obtain ⟨T3, h3, k3, X3, e3, E3, A3, B3, st3⟩ := newPE X1 hx hZ (W 7 rfl) e0 (g := (mkF m 100 #[iv p1, iv p2, iv p3, iv p4, iv p5, iv p6, iv 1, .unset, .unset, .unset, .unset] [(.int 6)])) rfl (hb hby at_100) rfl (by decide) (cap := 6) (by decide) (by decide) (by decide) (by decide) (ad := "[C") rfl
        obtain ⟨b3, g3⟩ : ∃ z, z = h0.size := ⟨_, rfl⟩
        rw [← g3] at A3 B3 st3
        have c4 := CHr.ext E3 H0
        have C5 := CHr.trans (CHr.refl H0) c4
        have O6 := O0.ext E3
        have K7 : Keep h0 h3 [] := Keep.ext (Keep.refl h0 []) E3
        have v8 : Arv Z h3 b3 k3 .char 6 [(.int 0), (.int 0), (.int 0), (.int 0), (.int 0), (.int 0)] (.int 0) := (Arv.new A3 (by decide)).pad (pad_rep [] (.int 0) 6)
        obtain ⟨c9, A9, q9, S9, N9, H9, G9⟩ := id v8
        have i10 : NB 0 c9 := inb_of S9 (by decide)
        obtain ⟨T10, h10, X10, e10, W10, st10⟩ := stC X3 hx hZ e3 A9 (j := 0) i10 (g := (mkF m 106 #[iv p1, iv p2, iv p3, iv p4, iv p5, iv p6, iv 1, .unset, .unset, .unset, .unset] [(.int 99), (.int 0), (.ref b3), (.ref b3)])) rfl rfl (hb hby at_106)
        have s11 := Safe.exa (EL := consts_1) hZ.alike B3 (by decide) (by decide)
        have c12 := CHr.wr W10 s11 c4.1
        have C13 := CHr.trans C5 c12
        have g14 : n0 ≤ b3 := Nat.le_trans (Nat.le_trans (Nat.le_of_eq O0.1.symm) O0.2.1) (Nat.le_of_eq g3.symm)
        have O15 := O6.wr W10 g14
        have K16 : Keep h0 h10 [] := Keep.wr K7 W10 (Or.inr (Nat.le_of_eq g3.symm))
        have v17 : Arv Z h10 b3 k3 .char 6 [(.int 99), (.int 0), (.int 0), (.int 0), (.int 0), (.int 0)] (.int 0) := Arv.set A9 q9 S9 N9 H9 G9 (fits_nar_char _) W10 0 rfl (Nat.le_of_ble_eq_true rfl)
        have N18 := Fr.snoc X10 N0 g14
        obtain ⟨c19, A19, q19, S19, N19, H19, G19⟩ := id v17
        have i20 : NB 1 c19 := inb_of S19 (by decide)
        obtain ⟨T20, h20, X20, e20, W20, st20⟩ := stC X10 hx hZ e10 A19 (j := 1) i20 (g := (mkF m 111 #[iv p1, iv p2, iv p3, iv p4, iv p5, iv p6, iv 1, .unset, .unset, .unset, .unset] [(.int 108), (.int 1), (.ref b3), (.ref b3)])) rfl rfl (hb hby at_111)
        have f21 := (B3.wr W10)
        have s22 := Safe.exa (EL := consts_1) hZ.alike f21 (by decide) (by decide)
        have c23 := CHr.wr W20 s22 c12.1
        have C24 := CHr.trans C13 c23
        have O25 := O15.wr W20 g14
        have K26 : Keep h0 h20 [] := Keep.wr K16 W20 (Or.inr (Nat.le_of_eq g3.symm))
        have v27 : Arv Z h20 b3 k3 .char 6 [(.int 99), (.int 108), (.int 0), (.int 0), (.int 0), (.int 0)] (.int 0) := Arv.set A19 q19 S19 N19 H19 G19 (fits_nar_char _) W20 1 rfl (Nat.le_of_ble_eq_true rfl)
        have N28 := Fr.snoc X20 N18 g14
        obtain ⟨c29, A29, q29, S29, N29, H29, G29⟩ := id v27
        have i30 : NB 2 c29 := inb_of S29 (by decide)
        obtain ⟨T30, h30, X30, e30, W30, st30⟩ := stC X20 hx hZ e20 A29 (j := 2) i30 (g := (mkF m 116 #[iv p1, iv p2, iv p3, iv p4, iv p5, iv p6, iv 1, .unset, .unset, .unset, .unset] [(.int 105), (.int 2), (.ref b3), (.ref b3)])) rfl rfl (hb hby at_116)
        have f31 := (f21.wr W20)
        have s32 := Safe.exa (EL := consts_1) hZ.alike f31 (by decide) (by decide)
        have c33 := CHr.wr W30 s32 c23.1
        have C34 := CHr.trans C24 c33
        have O35 := O25.wr W30 g14
        have K36 : Keep h0 h30 [] := Keep.wr K26 W30 (Or.inr (Nat.le_of_eq g3.symm))
        have v37 : Arv Z h30 b3 k3 .char 6 [(.int 99), (.int 108), (.int 105), (.int 0), (.int 0), (.int 0)] (.int 0) := Arv.set A29 q29 S29 N29 H29 G29 (fits_nar_char _) W30 2 rfl (Nat.le_of_ble_eq_true rfl)
        have N38 := Fr.snoc X30 N28 g14
        obtain ⟨c39, A39, q39, S39, N39, H39, G39⟩ := id v37
        have i40 : NB 3 c39 := inb_of S39 (by decide)
        obtain ⟨T40, h40, X40, e40, W40, st40⟩ := stC X30 hx hZ e30 A39 (j := 3) i40 (g := (mkF m 121 #[iv p1, iv p2, iv p3, iv p4, iv p5, iv p6, iv 1, .unset, .unset, .unset, .unset] [(.int 101), (.int 3), (.ref b3), (.ref b3)])) rfl rfl (hb hby at_121)
        have f41 := (f31.wr W30)
        have s42 := Safe.exa (EL := consts_1) hZ.alike f41 (by decide) (by decide)
        have c43 := CHr.wr W40 s42 c33.1
        have C44 := CHr.trans C34 c43
        have O45 := O35.wr W40 g14
        have K46 : Keep h0 h40 [] := Keep.wr K36 W40 (Or.inr (Nat.le_of_eq g3.symm))
        have v47 : Arv Z h40 b3 k3 .char 6 [(.int 99), (.int 108), (.int 105), (.int 101), (.int 0), (.int 0)] (.int 0) := Arv.set A39 q39 S39 N39 H39 G39 (fits_nar_char _) W40 3 rfl (Nat.le_of_ble_eq_true rfl)
        have N48 := Fr.snoc X40 N38 g14
        obtain ⟨c49, A49, q49, S49, N49, H49, G49⟩ := id v47
        have i50 : NB 4 c49 := inb_of S49 (by decide)
        obtain ⟨T50, h50, X50, e50, W50, st50⟩ := stC X40 hx hZ e40 A49 (j := 4) i50 (g := (mkF m 126 #[iv p1, iv p2, iv p3, iv p4, iv p5, iv p6, iv 1, .unset, .unset, .unset, .unset] [(.int 110), (.int 4), (.ref b3), (.ref b3)])) rfl rfl (hb hby at_126)
        have f51 := (f41.wr W40)
        have s52 := Safe.exa (EL := consts_1) hZ.alike f51 (by decide) (by decide)
        have c53 := CHr.wr W50 s52 c43.1
        have C54 := CHr.trans C44 c53
        have O55 := O45.wr W50 g14
        have K56 : Keep h0 h50 [] := Keep.wr K46 W50 (Or.inr (Nat.le_of_eq g3.symm))
        have v57 : Arv Z h50 b3 k3 .char 6 [(.int 99), (.int 108), (.int 105), (.int 101), (.int 110), (.int 0)] (.int 0) := Arv.set A49 q49 S49 N49 H49 G49 (fits_nar_char _) W50 4 rfl (Nat.le_of_ble_eq_true rfl)
        have N58 := Fr.snoc X50 N48 g14
        obtain ⟨c59, A59, q59, S59, N59, H59, G59⟩ := id v57
        have i60 : NB 5 c59 := inb_of S59 (by decide)
        obtain ⟨T60, h60, X60, e60, W60, st60⟩ := stC X50 hx hZ e50 A59 (j := 5) i60 (g := (mkF m 131 #[iv p1, iv p2, iv p3, iv p4, iv p5, iv p6, iv 1, .unset, .unset, .unset, .unset] [(.int 116), (.int 5), (.ref b3), (.ref b3)])) rfl rfl (hb hby at_131)
        have f61 := (f51.wr W50)
        have s62 := Safe.exa (EL := consts_1) hZ.alike f61 (by decide) (by decide)
        have c63 := CHr.wr W60 s62 c53.1
        have C64 := CHr.trans C54 c63
        have O65 := O55.wr W60 g14
        have K66 : Keep h0 h60 [] := Keep.wr K56 W60 (Or.inr (Nat.le_of_eq g3.symm))
        have v67 : Arv Z h60 b3 k3 .char 6 [(.int 99), (.int 108), (.int 105), (.int 101), (.int 110), (.int 116)] (.int 0) := Arv.set A59 q59 S59 N59 H59 G59 (fits_nar_char _) W60 5 rfl (Nat.le_of_ble_eq_true rfl)
        have N68 := Fr.snoc X60 N58 g14
        obtain ⟨i69_0, i69_1, i69_2, i69_3, i69_4, i69_5, T69, h69, vm69, k69, L69, X69, e69, N69, K69, hS69, hk69, hZ69, hown69, c69, J69_0, hN0, hN1, hi0, hi1, hi2, hi3, hi4, hi5, st69⟩ : ∃ (i69_0 : Int32) (i69_1 : Int32) (i69_2 : Int32) (i69_3 : Int32) (i69_4 : Int32) (i69_5 : Int32) (T69 : State) (h69 : Heap) (vm69 : Vm) (k69 : Nat) (L69 : List Loc), Stand p l e room_1 (s.setVm vm69) m #[(.int p1), (.int p2), (.int p3), (.int p4), (.int p5), (.int p6)] below meth c T69 L69 1 6 ∧ T69.heap = h69 ∧ Fr n0 L69 ∧ Keep h60 h69 [b3] ∧ s.Since vm69 k69 ∧ k69 ≤ h69.size ∧ Z.Warmed39 vm69 ∧ vm69.findClass "com/example/duplex/duplex/compliance/SideOfLabelPinLaw" = some m.cls ∧ CHr Z consts_1 s.vm h60 vm69 h69 ∧ Arv Z h69 b3 k3 .char 6 [(.int i69_0), (.int i69_1), (.int i69_2), (.int i69_3), (.int i69_4), (.int i69_5)] (.int 0) ∧ ¬ (i69_0 = (99 : Int32) ∧ i69_1 = (108 : Int32) ∧ i69_2 = (105 : Int32) ∧ i69_3 = (101 : Int32) ∧ i69_4 = (110 : Int32) ∧ i69_5 = (116 : Int32)) ∧ ¬ (i69_0 = (115 : Int32) ∧ i69_1 = (101 : Int32) ∧ i69_2 = (114 : Int32) ∧ i69_3 = (118 : Int32) ∧ i69_4 = (101 : Int32) ∧ i69_5 = (114 : Int32)) ∧ (¬ ((255 : Int32) < i69_0) ∧ ¬ (i69_0 < (0 : Int32))) ∧ (¬ ((255 : Int32) < i69_1) ∧ ¬ (i69_1 < (0 : Int32))) ∧ (¬ ((255 : Int32) < i69_2) ∧ ¬ (i69_2 < (0 : Int32))) ∧ (¬ ((255 : Int32) < i69_3) ∧ ¬ (i69_3 < (0 : Int32))) ∧ (¬ ((255 : Int32) < i69_4) ∧ ¬ (i69_4 < (0 : Int32))) ∧ (¬ ((255 : Int32) < i69_5) ∧ ¬ (i69_5 < (0 : Int32))) ∧ ∀ t, SS p e below T69 m 200 #[iv p1, iv p2, iv p3, iv p4, iv p5, iv p6, iv 1, .unset, rv b3, .unset, .unset] [] t → SS p e below T60 m 173 #[iv p1, iv p2, iv p3, iv p4, iv p5, iv p6, iv 1, .unset, rv b3, .unset, .unset] [] t := by
          rcases qr with ⟨qb, qq, qc⟩ | ⟨qb, qq, qc⟩ | ⟨qb, qq, qc⟩ | ⟨qb, qq, qc⟩ | ⟨qb, qq, qc⟩ | ⟨qb, qq, qc⟩
          · obtain ⟨c70, A70, q70, S70, N70, H70, G70⟩ := id v67
            have i71 : NB 0 c70 := inb_of S70 (by decide)
            obtain ⟨T71, h71, X71, e71, W71, st71⟩ := stC X60 hx hZ e60 A70 (j := 0) i71 (g := (mkF m 199 #[iv p1, iv p2, iv p3, iv p4, iv p5, iv p6, iv 1, .unset, rv b3, .unset, .unset] [(.int (p5 &&& (255 : Int32))), (.int 0), (.ref b3)])) rfl rfl (hb hby at_199)
            rw [(show nar .char (p5 &&& (255 : Int32)) = (p5 &&& (255 : Int32)) from (own_char _ (own_c255 p5).1 (own_c255 p5).2).1)] at W71
            have f72 := (f61.wr W60)
            have s73 := Safe.exa (EL := consts_1) hZ.alike f72 (by decide) (by decide)
            have c74 := CHr.wr W71 s73 c63.1
            have C75 := CHr.trans (CHr.refl c63.1) c74
            have O76 := O65.wr W71 g14
            have K77 : Keep h60 h71 [b3] := Keep.wr (Keep.refl h60 [b3]) W71 (Or.inl (List.mem_of_getElem? (i := 0) rfl))
            have v78 : Arv Z h71 b3 k3 .char 6 [(.int (p5 &&& (255 : Int32))), (.int 108), (.int 105), (.int 101), (.int 110), (.int 116)] (.int 0) := Arv.set A70 q70 S70 N70 H70 G70 (own_fput (by simp) (show nar .char (p5 &&& (255 : Int32)) = (p5 &&& (255 : Int32)) from (own_char _ (own_c255 p5).1 (own_c255 p5).2).1)) W71 0 rfl (Nat.le_of_ble_eq_true rfl)
            have N79 := Fr.snoc X71 N68 g14
            refine ⟨(p5 &&& (255 : Int32)), (108 : Int32), (105 : Int32), (101 : Int32), (110 : Int32), (116 : Int32), T71, h71, s.vm, _, _, X71.more (by decide) (by decide), e71, N79, K77, ((State.WarmedH.refl s).since 0), (Nat.zero_le _), hZ, hown, C75, v78, fun qq' => qc (qq'.1), fun qq' => absurd (qq'.2.1) (by decide), own_c255 p5, (by decide), (by decide), (by decide), (by decide), (by decide), fun t qt => ?_⟩
            show SS p e below T60 m 173 #[iv p1, iv p2, iv p3, iv p4, iv p5, iv p6, iv 1, .unset, rv b3, .unset, .unset] [] _
            refine XS.iload X60.here hx rfl (hb hby at_173) rfl ?_
            refine XS.bipush X60.here hx rfl (hb hby at_175) ?_
            show SS p e below T60 m 177 #[iv p1, iv p2, iv p3, iv p4, iv p5, iv p6, iv 1, .unset, rv b3, .unset, .unset] [(.int 8), (.int p5)] _
            refine XS.iushr X60.here hx rfl (hb hby at_177) rfl ?_
            show SS p e below T60 m 178 #[iv p1, iv p2, iv p3, iv p4, iv p5, iv p6, iv 1, .unset, rv b3, .unset, .unset] [(.int (us8 p5))] _
            refine XS.iconst X60.here hx rfl (hb hby at_178) ?_
            show SS p e below T60 m 179 #[iv p1, iv p2, iv p3, iv p4, iv p5, iv p6, iv 1, .unset, rv b3, .unset, .unset] [(.int 1), (.int (us8 p5))] _
            refine XS.iand X60.here hx rfl (hb hby at_179) rfl ?_
            rw [qb]
            show SS p e below T60 m 180 #[iv p1, iv p2, iv p3, iv p4, iv p5, iv p6, iv 1, .unset, rv b3, .unset, .unset] [(.int 1)] _
            refine XS.ifNo X60.here hx rfl (hb hby at_180) rfl ((if0 _ _).trans (feq (by decide : ¬ ((1 : Int32) = (0 : Int32)))).1) ?_
            refine XS.aload X60.here hx rfl (hb hby at_183) rfl rfl ?_
            refine XS.iloadN X60.here hx rfl (hb hby at_185) rfl ?_
            refine X60.ldcInt hx hown (mvT hZ (W 79 rfl)) (g := (mkF m 186 #[iv p1, iv p2, iv p3, iv p4, iv p5, iv p6, iv 1, .unset, rv b3, .unset, .unset] [(.int p4), (.ref b3)])) rfl (hb hby at_186) _ ?_
            show SS p e below T60 m 188 #[iv p1, iv p2, iv p3, iv p4, iv p5, iv p6, iv 1, .unset, rv b3, .unset, .unset] [(.int 2147483647), (.int p4), (.ref b3)] _
            refine XS.iand X60.here hx rfl (hb hby at_188) rfl ?_
            show SS p e below T60 m 189 #[iv p1, iv p2, iv p3, iv p4, iv p5, iv p6, iv 1, .unset, rv b3, .unset, .unset] [(.int (p4 &&& (2147483647 : Int32))), (.ref b3)] _
            refine XS.bipush X60.here hx rfl (hb hby at_189) ?_
            show SS p e below T60 m 191 #[iv p1, iv p2, iv p3, iv p4, iv p5, iv p6, iv 1, .unset, rv b3, .unset, .unset] [(.int 6), (.int (p4 &&& (2147483647 : Int32))), (.ref b3)] _
            refine iremM (g := (mkF m 191 #[iv p1, iv p2, iv p3, iv p4, iv p5, iv p6, iv 1, .unset, rv b3, .unset, .unset] [(.int 6), (.int (p4 &&& (2147483647 : Int32))), (.ref b3)])) X60 hx rfl (hb hby at_191) rfl (by decide : ¬ ((6 : Int32) = (0 : Int32))) ?_
            rw [qq]
            show SS p e below T60 m 192 #[iv p1, iv p2, iv p3, iv p4, iv p5, iv p6, iv 1, .unset, rv b3, .unset, .unset] [(.int 0), (.ref b3)] _
            refine XS.iload X60.here hx rfl (hb hby at_192) rfl ?_
            refine XS.sipush X60.here hx rfl (hb hby at_194) ?_
            show SS p e below T60 m 197 #[iv p1, iv p2, iv p3, iv p4, iv p5, iv p6, iv 1, .unset, rv b3, .unset, .unset] [(.int 255), (.int p5), (.int 0), (.ref b3)] _
            refine XS.iand X60.here hx rfl (hb hby at_197) rfl ?_
            show SS p e below T60 m 198 #[iv p1, iv p2, iv p3, iv p4, iv p5, iv p6, iv 1, .unset, rv b3, .unset, .unset] [(.int (p5 &&& (255 : Int32))), (.int 0), (.ref b3)] _
            refine XS.i2c X60.here hx rfl (hb hby at_198) rfl ?_
            rw [(i2c_mask p5)]
            show SS p e below T60 m 199 #[iv p1, iv p2, iv p3, iv p4, iv p5, iv p6, iv 1, .unset, rv b3, .unset, .unset] [(.int (p5 &&& (255 : Int32))), (.int 0), (.ref b3)] _
            refine st71 _ ?_
            exact qt
          · obtain ⟨c70, A70, q70, S70, N70, H70, G70⟩ := id v67
            have i71 : NB 1 c70 := inb_of S70 (by decide)
            obtain ⟨T71, h71, X71, e71, W71, st71⟩ := stC X60 hx hZ e60 A70 (j := 1) i71 (g := (mkF m 199 #[iv p1, iv p2, iv p3, iv p4, iv p5, iv p6, iv 1, .unset, rv b3, .unset, .unset] [(.int (p5 &&& (255 : Int32))), (.int 1), (.ref b3)])) rfl rfl (hb hby at_199)
            rw [(show nar .char (p5 &&& (255 : Int32)) = (p5 &&& (255 : Int32)) from (own_char _ (own_c255 p5).1 (own_c255 p5).2).1)] at W71
            have f72 := (f61.wr W60)
            have s73 := Safe.exa (EL := consts_1) hZ.alike f72 (by decide) (by decide)
            have c74 := CHr.wr W71 s73 c63.1
            have C75 := CHr.trans (CHr.refl c63.1) c74
            have O76 := O65.wr W71 g14
            have K77 : Keep h60 h71 [b3] := Keep.wr (Keep.refl h60 [b3]) W71 (Or.inl (List.mem_of_getElem? (i := 0) rfl))
            have v78 : Arv Z h71 b3 k3 .char 6 [(.int 99), (.int (p5 &&& (255 : Int32))), (.int 105), (.int 101), (.int 110), (.int 116)] (.int 0) := Arv.set A70 q70 S70 N70 H70 G70 (own_fput (by simp) (show nar .char (p5 &&& (255 : Int32)) = (p5 &&& (255 : Int32)) from (own_char _ (own_c255 p5).1 (own_c255 p5).2).1)) W71 1 rfl (Nat.le_of_ble_eq_true rfl)
            have N79 := Fr.snoc X71 N68 g14
            refine ⟨(99 : Int32), (p5 &&& (255 : Int32)), (105 : Int32), (101 : Int32), (110 : Int32), (116 : Int32), T71, h71, s.vm, _, _, X71.more (by decide) (by decide), e71, N79, K77, ((State.WarmedH.refl s).since 0), (Nat.zero_le _), hZ, hown, C75, v78, fun qq' => qc (qq'.2.1), fun qq' => absurd (qq'.1) (by decide), (by decide), own_c255 p5, (by decide), (by decide), (by decide), (by decide), fun t qt => ?_⟩
            show SS p e below T60 m 173 #[iv p1, iv p2, iv p3, iv p4, iv p5, iv p6, iv 1, .unset, rv b3, .unset, .unset] [] _
            refine XS.iload X60.here hx rfl (hb hby at_173) rfl ?_
            refine XS.bipush X60.here hx rfl (hb hby at_175) ?_
            show SS p e below T60 m 177 #[iv p1, iv p2, iv p3, iv p4, iv p5, iv p6, iv 1, .unset, rv b3, .unset, .unset] [(.int 8), (.int p5)] _
            refine XS.iushr X60.here hx rfl (hb hby at_177) rfl ?_
            show SS p e below T60 m 178 #[iv p1, iv p2, iv p3, iv p4, iv p5, iv p6, iv 1, .unset, rv b3, .unset, .unset] [(.int (us8 p5))] _
            refine XS.iconst X60.here hx rfl (hb hby at_178) ?_
            show SS p e below T60 m 179 #[iv p1, iv p2, iv p3, iv p4, iv p5, iv p6, iv 1, .unset, rv b3, .unset, .unset] [(.int 1), (.int (us8 p5))] _
            refine XS.iand X60.here hx rfl (hb hby at_179) rfl ?_
            rw [qb]
            show SS p e below T60 m 180 #[iv p1, iv p2, iv p3, iv p4, iv p5, iv p6, iv 1, .unset, rv b3, .unset, .unset] [(.int 1)] _
            refine XS.ifNo X60.here hx rfl (hb hby at_180) rfl ((if0 _ _).trans (feq (by decide : ¬ ((1 : Int32) = (0 : Int32)))).1) ?_
            refine XS.aload X60.here hx rfl (hb hby at_183) rfl rfl ?_
            refine XS.iloadN X60.here hx rfl (hb hby at_185) rfl ?_
            refine X60.ldcInt hx hown (mvT hZ (W 79 rfl)) (g := (mkF m 186 #[iv p1, iv p2, iv p3, iv p4, iv p5, iv p6, iv 1, .unset, rv b3, .unset, .unset] [(.int p4), (.ref b3)])) rfl (hb hby at_186) _ ?_
            show SS p e below T60 m 188 #[iv p1, iv p2, iv p3, iv p4, iv p5, iv p6, iv 1, .unset, rv b3, .unset, .unset] [(.int 2147483647), (.int p4), (.ref b3)] _
            refine XS.iand X60.here hx rfl (hb hby at_188) rfl ?_
            show SS p e below T60 m 189 #[iv p1, iv p2, iv p3, iv p4, iv p5, iv p6, iv 1, .unset, rv b3, .unset, .unset] [(.int (p4 &&& (2147483647 : Int32))), (.ref b3)] _
            refine XS.bipush X60.here hx rfl (hb hby at_189) ?_
            show SS p e below T60 m 191 #[iv p1, iv p2, iv p3, iv p4, iv p5, iv p6, iv 1, .unset, rv b3, .unset, .unset] [(.int 6), (.int (p4 &&& (2147483647 : Int32))), (.ref b3)] _
            refine iremM (g := (mkF m 191 #[iv p1, iv p2, iv p3, iv p4, iv p5, iv p6, iv 1, .unset, rv b3, .unset, .unset] [(.int 6), (.int (p4 &&& (2147483647 : Int32))), (.ref b3)])) X60 hx rfl (hb hby at_191) rfl (by decide : ¬ ((6 : Int32) = (0 : Int32))) ?_
            rw [qq]
            show SS p e below T60 m 192 #[iv p1, iv p2, iv p3, iv p4, iv p5, iv p6, iv 1, .unset, rv b3, .unset, .unset] [(.int 1), (.ref b3)] _
            refine XS.iload X60.here hx rfl (hb hby at_192) rfl ?_
            refine XS.sipush X60.here hx rfl (hb hby at_194) ?_
            show SS p e below T60 m 197 #[iv p1, iv p2, iv p3, iv p4, iv p5, iv p6, iv 1, .unset, rv b3, .unset, .unset] [(.int 255), (.int p5), (.int 1), (.ref b3)] _
            refine XS.iand X60.here hx rfl (hb hby at_197) rfl ?_
            show SS p e below T60 m 198 #[iv p1, iv p2, iv p3, iv p4, iv p5, iv p6, iv 1, .unset, rv b3, .unset, .unset] [(.int (p5 &&& (255 : Int32))), (.int 1), (.ref b3)] _
            refine XS.i2c X60.here hx rfl (hb hby at_198) rfl ?_
            rw [(i2c_mask p5)]
            show SS p e below T60 m 199 #[iv p1, iv p2, iv p3, iv p4, iv p5, iv p6, iv 1, .unset, rv b3, .unset, .unset] [(.int (p5 &&& (255 : Int32))), (.int 1), (.ref b3)] _
            refine st71 _ ?_
            exact qt
          · obtain ⟨c70, A70, q70, S70, N70, H70, G70⟩ := id v67
            have i71 : NB 2 c70 := inb_of S70 (by decide)
            obtain ⟨T71, h71, X71, e71, W71, st71⟩ := stC X60 hx hZ e60 A70 (j := 2) i71 (g := (mkF m 199 #[iv p1, iv p2, iv p3, iv p4, iv p5, iv p6, iv 1, .unset, rv b3, .unset, .unset] [(.int (p5 &&& (255 : Int32))), (.int 2), (.ref b3)])) rfl rfl (hb hby at_199)
            rw [(show nar .char (p5 &&& (255 : Int32)) = (p5 &&& (255 : Int32)) from (own_char _ (own_c255 p5).1 (own_c255 p5).2).1)] at W71
            have f72 := (f61.wr W60)
            have s73 := Safe.exa (EL := consts_1) hZ.alike f72 (by decide) (by decide)
            have c74 := CHr.wr W71 s73 c63.1
            have C75 := CHr.trans (CHr.refl c63.1) c74
            have O76 := O65.wr W71 g14
            have K77 : Keep h60 h71 [b3] := Keep.wr (Keep.refl h60 [b3]) W71 (Or.inl (List.mem_of_getElem? (i := 0) rfl))
            have v78 : Arv Z h71 b3 k3 .char 6 [(.int 99), (.int 108), (.int (p5 &&& (255 : Int32))), (.int 101), (.int 110), (.int 116)] (.int 0) := Arv.set A70 q70 S70 N70 H70 G70 (own_fput (by simp) (show nar .char (p5 &&& (255 : Int32)) = (p5 &&& (255 : Int32)) from (own_char _ (own_c255 p5).1 (own_c255 p5).2).1)) W71 2 rfl (Nat.le_of_ble_eq_true rfl)
            have N79 := Fr.snoc X71 N68 g14
            refine ⟨(99 : Int32), (108 : Int32), (p5 &&& (255 : Int32)), (101 : Int32), (110 : Int32), (116 : Int32), T71, h71, s.vm, _, _, X71.more (by decide) (by decide), e71, N79, K77, ((State.WarmedH.refl s).since 0), (Nat.zero_le _), hZ, hown, C75, v78, fun qq' => qc (qq'.2.2.1), fun qq' => absurd (qq'.1) (by decide), (by decide), (by decide), own_c255 p5, (by decide), (by decide), (by decide), fun t qt => ?_⟩
            show SS p e below T60 m 173 #[iv p1, iv p2, iv p3, iv p4, iv p5, iv p6, iv 1, .unset, rv b3, .unset, .unset] [] _
            refine XS.iload X60.here hx rfl (hb hby at_173) rfl ?_
            refine XS.bipush X60.here hx rfl (hb hby at_175) ?_
            show SS p e below T60 m 177 #[iv p1, iv p2, iv p3, iv p4, iv p5, iv p6, iv 1, .unset, rv b3, .unset, .unset] [(.int 8), (.int p5)] _
            refine XS.iushr X60.here hx rfl (hb hby at_177) rfl ?_
            show SS p e below T60 m 178 #[iv p1, iv p2, iv p3, iv p4, iv p5, iv p6, iv 1, .unset, rv b3, .unset, .unset] [(.int (us8 p5))] _
            refine XS.iconst X60.here hx rfl (hb hby at_178) ?_
            show SS p e below T60 m 179 #[iv p1, iv p2, iv p3, iv p4, iv p5, iv p6, iv 1, .unset, rv b3, .unset, .unset] [(.int 1), (.int (us8 p5))] _
            refine XS.iand X60.here hx rfl (hb hby at_179) rfl ?_
            rw [qb]
            show SS p e below T60 m 180 #[iv p1, iv p2, iv p3, iv p4, iv p5, iv p6, iv 1, .unset, rv b3, .unset, .unset] [(.int 1)] _
            refine XS.ifNo X60.here hx rfl (hb hby at_180) rfl ((if0 _ _).trans (feq (by decide : ¬ ((1 : Int32) = (0 : Int32)))).1) ?_
            refine XS.aload X60.here hx rfl (hb hby at_183) rfl rfl ?_
            refine XS.iloadN X60.here hx rfl (hb hby at_185) rfl ?_
            refine X60.ldcInt hx hown (mvT hZ (W 79 rfl)) (g := (mkF m 186 #[iv p1, iv p2, iv p3, iv p4, iv p5, iv p6, iv 1, .unset, rv b3, .unset, .unset] [(.int p4), (.ref b3)])) rfl (hb hby at_186) _ ?_
            show SS p e below T60 m 188 #[iv p1, iv p2, iv p3, iv p4, iv p5, iv p6, iv 1, .unset, rv b3, .unset, .unset] [(.int 2147483647), (.int p4), (.ref b3)] _
            refine XS.iand X60.here hx rfl (hb hby at_188) rfl ?_
            show SS p e below T60 m 189 #[iv p1, iv p2, iv p3, iv p4, iv p5, iv p6, iv 1, .unset, rv b3, .unset, .unset] [(.int (p4 &&& (2147483647 : Int32))), (.ref b3)] _
            refine XS.bipush X60.here hx rfl (hb hby at_189) ?_
            show SS p e below T60 m 191 #[iv p1, iv p2, iv p3, iv p4, iv p5, iv p6, iv 1, .unset, rv b3, .unset, .unset] [(.int 6), (.int (p4 &&& (2147483647 : Int32))), (.ref b3)] _
            refine iremM (g := (mkF m 191 #[iv p1, iv p2, iv p3, iv p4, iv p5, iv p6, iv 1, .unset, rv b3, .unset, .unset] [(.int 6), (.int (p4 &&& (2147483647 : Int32))), (.ref b3)])) X60 hx rfl (hb hby at_191) rfl (by decide : ¬ ((6 : Int32) = (0 : Int32))) ?_
            rw [qq]
            show SS p e below T60 m 192 #[iv p1, iv p2, iv p3, iv p4, iv p5, iv p6, iv 1, .unset, rv b3, .unset, .unset] [(.int 2), (.ref b3)] _
            refine XS.iload X60.here hx rfl (hb hby at_192) rfl ?_
            refine XS.sipush X60.here hx rfl (hb hby at_194) ?_
            show SS p e below T60 m 197 #[iv p1, iv p2, iv p3, iv p4, iv p5, iv p6, iv 1, .unset, rv b3, .unset, .unset] [(.int 255), (.int p5), (.int 2), (.ref b3)] _
            refine XS.iand X60.here hx rfl (hb hby at_197) rfl ?_
            show SS p e below T60 m 198 #[iv p1, iv p2, iv p3, iv p4, iv p5, iv p6, iv 1, .unset, rv b3, .unset, .unset] [(.int (p5 &&& (255 : Int32))), (.int 2), (.ref b3)] _
            refine XS.i2c X60.here hx rfl (hb hby at_198) rfl ?_
            rw [(i2c_mask p5)]
            show SS p e below T60 m 199 #[iv p1, iv p2, iv p3, iv p4, iv p5, iv p6, iv 1, .unset, rv b3, .unset, .unset] [(.int (p5 &&& (255 : Int32))), (.int 2), (.ref b3)] _
            refine st71 _ ?_
            exact qt
          · obtain ⟨c70, A70, q70, S70, N70, H70, G70⟩ := id v67
            have i71 : NB 3 c70 := inb_of S70 (by decide)
            obtain ⟨T71, h71, X71, e71, W71, st71⟩ := stC X60 hx hZ e60 A70 (j := 3) i71 (g := (mkF m 199 #[iv p1, iv p2, iv p3, iv p4, iv p5, iv p6, iv 1, .unset, rv b3, .unset, .unset] [(.int (p5 &&& (255 : Int32))), (.int 3), (.ref b3)])) rfl rfl (hb hby at_199)
            rw [(show nar .char (p5 &&& (255 : Int32)) = (p5 &&& (255 : Int32)) from (own_char _ (own_c255 p5).1 (own_c255 p5).2).1)] at W71
            have f72 := (f61.wr W60)
            have s73 := Safe.exa (EL := consts_1) hZ.alike f72 (by decide) (by decide)
            have c74 := CHr.wr W71 s73 c63.1
            have C75 := CHr.trans (CHr.refl c63.1) c74
            have O76 := O65.wr W71 g14
            have K77 : Keep h60 h71 [b3] := Keep.wr (Keep.refl h60 [b3]) W71 (Or.inl (List.mem_of_getElem? (i := 0) rfl))
            have v78 : Arv Z h71 b3 k3 .char 6 [(.int 99), (.int 108), (.int 105), (.int (p5 &&& (255 : Int32))), (.int 110), (.int 116)] (.int 0) := Arv.set A70 q70 S70 N70 H70 G70 (own_fput (by simp) (show nar .char (p5 &&& (255 : Int32)) = (p5 &&& (255 : Int32)) from (own_char _ (own_c255 p5).1 (own_c255 p5).2).1)) W71 3 rfl (Nat.le_of_ble_eq_true rfl)
            have N79 := Fr.snoc X71 N68 g14
            refine ⟨(99 : Int32), (108 : Int32), (105 : Int32), (p5 &&& (255 : Int32)), (110 : Int32), (116 : Int32), T71, h71, s.vm, _, _, X71.more (by decide) (by decide), e71, N79, K77, ((State.WarmedH.refl s).since 0), (Nat.zero_le _), hZ, hown, C75, v78, fun qq' => qc (qq'.2.2.2.1), fun qq' => absurd (qq'.1) (by decide), (by decide), (by decide), (by decide), own_c255 p5, (by decide), (by decide), fun t qt => ?_⟩
            show SS p e below T60 m 173 #[iv p1, iv p2, iv p3, iv p4, iv p5, iv p6, iv 1, .unset, rv b3, .unset, .unset] [] _
            refine XS.iload X60.here hx rfl (hb hby at_173) rfl ?_
            refine XS.bipush X60.here hx rfl (hb hby at_175) ?_
            show SS p e below T60 m 177 #[iv p1, iv p2, iv p3, iv p4, iv p5, iv p6, iv 1, .unset, rv b3, .unset, .unset] [(.int 8), (.int p5)] _
            refine XS.iushr X60.here hx rfl (hb hby at_177) rfl ?_
            show SS p e below T60 m 178 #[iv p1, iv p2, iv p3, iv p4, iv p5, iv p6, iv 1, .unset, rv b3, .unset, .unset] [(.int (us8 p5))] _
            refine XS.iconst X60.here hx rfl (hb hby at_178) ?_
            show SS p e below T60 m 179 #[iv p1, iv p2, iv p3, iv p4, iv p5, iv p6, iv 1, .unset, rv b3, .unset, .unset] [(.int 1), (.int (us8 p5))] _
            refine XS.iand X60.here hx rfl (hb hby at_179) rfl ?_
            rw [qb]
            show SS p e below T60 m 180 #[iv p1, iv p2, iv p3, iv p4, iv p5, iv p6, iv 1, .unset, rv b3, .unset, .unset] [(.int 1)] _
            refine XS.ifNo X60.here hx rfl (hb hby at_180) rfl ((if0 _ _).trans (feq (by decide : ¬ ((1 : Int32) = (0 : Int32)))).1) ?_
            refine XS.aload X60.here hx rfl (hb hby at_183) rfl rfl ?_
            refine XS.iloadN X60.here hx rfl (hb hby at_185) rfl ?_
            refine X60.ldcInt hx hown (mvT hZ (W 79 rfl)) (g := (mkF m 186 #[iv p1, iv p2, iv p3, iv p4, iv p5, iv p6, iv 1, .unset, rv b3, .unset, .unset] [(.int p4), (.ref b3)])) rfl (hb hby at_186) _ ?_
            show SS p e below T60 m 188 #[iv p1, iv p2, iv p3, iv p4, iv p5, iv p6, iv 1, .unset, rv b3, .unset, .unset] [(.int 2147483647), (.int p4), (.ref b3)] _
            refine XS.iand X60.here hx rfl (hb hby at_188) rfl ?_
            show SS p e below T60 m 189 #[iv p1, iv p2, iv p3, iv p4, iv p5, iv p6, iv 1, .unset, rv b3, .unset, .unset] [(.int (p4 &&& (2147483647 : Int32))), (.ref b3)] _
            refine XS.bipush X60.here hx rfl (hb hby at_189) ?_
            show SS p e below T60 m 191 #[iv p1, iv p2, iv p3, iv p4, iv p5, iv p6, iv 1, .unset, rv b3, .unset, .unset] [(.int 6), (.int (p4 &&& (2147483647 : Int32))), (.ref b3)] _
            refine iremM (g := (mkF m 191 #[iv p1, iv p2, iv p3, iv p4, iv p5, iv p6, iv 1, .unset, rv b3, .unset, .unset] [(.int 6), (.int (p4 &&& (2147483647 : Int32))), (.ref b3)])) X60 hx rfl (hb hby at_191) rfl (by decide : ¬ ((6 : Int32) = (0 : Int32))) ?_
            rw [qq]
            show SS p e below T60 m 192 #[iv p1, iv p2, iv p3, iv p4, iv p5, iv p6, iv 1, .unset, rv b3, .unset, .unset] [(.int 3), (.ref b3)] _
            refine XS.iload X60.here hx rfl (hb hby at_192) rfl ?_
            refine XS.sipush X60.here hx rfl (hb hby at_194) ?_
            show SS p e below T60 m 197 #[iv p1, iv p2, iv p3, iv p4, iv p5, iv p6, iv 1, .unset, rv b3, .unset, .unset] [(.int 255), (.int p5), (.int 3), (.ref b3)] _
            refine XS.iand X60.here hx rfl (hb hby at_197) rfl ?_
            show SS p e below T60 m 198 #[iv p1, iv p2, iv p3, iv p4, iv p5, iv p6, iv 1, .unset, rv b3, .unset, .unset] [(.int (p5 &&& (255 : Int32))), (.int 3), (.ref b3)] _
            refine XS.i2c X60.here hx rfl (hb hby at_198) rfl ?_
            rw [(i2c_mask p5)]
            show SS p e below T60 m 199 #[iv p1, iv p2, iv p3, iv p4, iv p5, iv p6, iv 1, .unset, rv b3, .unset, .unset] [(.int (p5 &&& (255 : Int32))), (.int 3), (.ref b3)] _
            refine st71 _ ?_
            exact qt
          · obtain ⟨c70, A70, q70, S70, N70, H70, G70⟩ := id v67
            have i71 : NB 4 c70 := inb_of S70 (by decide)
            obtain ⟨T71, h71, X71, e71, W71, st71⟩ := stC X60 hx hZ e60 A70 (j := 4) i71 (g := (mkF m 199 #[iv p1, iv p2, iv p3, iv p4, iv p5, iv p6, iv 1, .unset, rv b3, .unset, .unset] [(.int (p5 &&& (255 : Int32))), (.int 4), (.ref b3)])) rfl rfl (hb hby at_199)
            rw [(show nar .char (p5 &&& (255 : Int32)) = (p5 &&& (255 : Int32)) from (own_char _ (own_c255 p5).1 (own_c255 p5).2).1)] at W71
            have f72 := (f61.wr W60)
            have s73 := Safe.exa (EL := consts_1) hZ.alike f72 (by decide) (by decide)
            have c74 := CHr.wr W71 s73 c63.1
            have C75 := CHr.trans (CHr.refl c63.1) c74
            have O76 := O65.wr W71 g14
            have K77 : Keep h60 h71 [b3] := Keep.wr (Keep.refl h60 [b3]) W71 (Or.inl (List.mem_of_getElem? (i := 0) rfl))
            have v78 : Arv Z h71 b3 k3 .char 6 [(.int 99), (.int 108), (.int 105), (.int 101), (.int (p5 &&& (255 : Int32))), (.int 116)] (.int 0) := Arv.set A70 q70 S70 N70 H70 G70 (own_fput (by simp) (show nar .char (p5 &&& (255 : Int32)) = (p5 &&& (255 : Int32)) from (own_char _ (own_c255 p5).1 (own_c255 p5).2).1)) W71 4 rfl (Nat.le_of_ble_eq_true rfl)
            have N79 := Fr.snoc X71 N68 g14
            refine ⟨(99 : Int32), (108 : Int32), (105 : Int32), (101 : Int32), (p5 &&& (255 : Int32)), (116 : Int32), T71, h71, s.vm, _, _, X71.more (by decide) (by decide), e71, N79, K77, ((State.WarmedH.refl s).since 0), (Nat.zero_le _), hZ, hown, C75, v78, fun qq' => qc (qq'.2.2.2.2.1), fun qq' => absurd (qq'.1) (by decide), (by decide), (by decide), (by decide), (by decide), own_c255 p5, (by decide), fun t qt => ?_⟩
            show SS p e below T60 m 173 #[iv p1, iv p2, iv p3, iv p4, iv p5, iv p6, iv 1, .unset, rv b3, .unset, .unset] [] _
            refine XS.iload X60.here hx rfl (hb hby at_173) rfl ?_
            refine XS.bipush X60.here hx rfl (hb hby at_175) ?_
            show SS p e below T60 m 177 #[iv p1, iv p2, iv p3, iv p4, iv p5, iv p6, iv 1, .unset, rv b3, .unset, .unset] [(.int 8), (.int p5)] _
            refine XS.iushr X60.here hx rfl (hb hby at_177) rfl ?_
            show SS p e below T60 m 178 #[iv p1, iv p2, iv p3, iv p4, iv p5, iv p6, iv 1, .unset, rv b3, .unset, .unset] [(.int (us8 p5))] _
            refine XS.iconst X60.here hx rfl (hb hby at_178) ?_
            show SS p e below T60 m 179 #[iv p1, iv p2, iv p3, iv p4, iv p5, iv p6, iv 1, .unset, rv b3, .unset, .unset] [(.int 1), (.int (us8 p5))] _
            refine XS.iand X60.here hx rfl (hb hby at_179) rfl ?_
            rw [qb]
            show SS p e below T60 m 180 #[iv p1, iv p2, iv p3, iv p4, iv p5, iv p6, iv 1, .unset, rv b3, .unset, .unset] [(.int 1)] _
            refine XS.ifNo X60.here hx rfl (hb hby at_180) rfl ((if0 _ _).trans (feq (by decide : ¬ ((1 : Int32) = (0 : Int32)))).1) ?_
            refine XS.aload X60.here hx rfl (hb hby at_183) rfl rfl ?_
            refine XS.iloadN X60.here hx rfl (hb hby at_185) rfl ?_
            refine X60.ldcInt hx hown (mvT hZ (W 79 rfl)) (g := (mkF m 186 #[iv p1, iv p2, iv p3, iv p4, iv p5, iv p6, iv 1, .unset, rv b3, .unset, .unset] [(.int p4), (.ref b3)])) rfl (hb hby at_186) _ ?_
            show SS p e below T60 m 188 #[iv p1, iv p2, iv p3, iv p4, iv p5, iv p6, iv 1, .unset, rv b3, .unset, .unset] [(.int 2147483647), (.int p4), (.ref b3)] _
            refine XS.iand X60.here hx rfl (hb hby at_188) rfl ?_
            show SS p e below T60 m 189 #[iv p1, iv p2, iv p3, iv p4, iv p5, iv p6, iv 1, .unset, rv b3, .unset, .unset] [(.int (p4 &&& (2147483647 : Int32))), (.ref b3)] _
            refine XS.bipush X60.here hx rfl (hb hby at_189) ?_
            show SS p e below T60 m 191 #[iv p1, iv p2, iv p3, iv p4, iv p5, iv p6, iv 1, .unset, rv b3, .unset, .unset] [(.int 6), (.int (p4 &&& (2147483647 : Int32))), (.ref b3)] _
            refine iremM (g := (mkF m 191 #[iv p1, iv p2, iv p3, iv p4, iv p5, iv p6, iv 1, .unset, rv b3, .unset, .unset] [(.int 6), (.int (p4 &&& (2147483647 : Int32))), (.ref b3)])) X60 hx rfl (hb hby at_191) rfl (by decide : ¬ ((6 : Int32) = (0 : Int32))) ?_
            rw [qq]
            show SS p e below T60 m 192 #[iv p1, iv p2, iv p3, iv p4, iv p5, iv p6, iv 1, .unset, rv b3, .unset, .unset] [(.int 4), (.ref b3)] _
            refine XS.iload X60.here hx rfl (hb hby at_192) rfl ?_
            refine XS.sipush X60.here hx rfl (hb hby at_194) ?_
            show SS p e below T60 m 197 #[iv p1, iv p2, iv p3, iv p4, iv p5, iv p6, iv 1, .unset, rv b3, .unset, .unset] [(.int 255), (.int p5), (.int 4), (.ref b3)] _
            refine XS.iand X60.here hx rfl (hb hby at_197) rfl ?_
            show SS p e below T60 m 198 #[iv p1, iv p2, iv p3, iv p4, iv p5, iv p6, iv 1, .unset, rv b3, .unset, .unset] [(.int (p5 &&& (255 : Int32))), (.int 4), (.ref b3)] _
            refine XS.i2c X60.here hx rfl (hb hby at_198) rfl ?_
            rw [(i2c_mask p5)]
            show SS p e below T60 m 199 #[iv p1, iv p2, iv p3, iv p4, iv p5, iv p6, iv 1, .unset, rv b3, .unset, .unset] [(.int (p5 &&& (255 : Int32))), (.int 4), (.ref b3)] _
            refine st71 _ ?_
            exact qt
          · obtain ⟨c70, A70, q70, S70, N70, H70, G70⟩ := id v67
            have i71 : NB 5 c70 := inb_of S70 (by decide)
            obtain ⟨T71, h71, X71, e71, W71, st71⟩ := stC X60 hx hZ e60 A70 (j := 5) i71 (g := (mkF m 199 #[iv p1, iv p2, iv p3, iv p4, iv p5, iv p6, iv 1, .unset, rv b3, .unset, .unset] [(.int (p5 &&& (255 : Int32))), (.int 5), (.ref b3)])) rfl rfl (hb hby at_199)
            rw [(show nar .char (p5 &&& (255 : Int32)) = (p5 &&& (255 : Int32)) from (own_char _ (own_c255 p5).1 (own_c255 p5).2).1)] at W71
            have f72 := (f61.wr W60)
            have s73 := Safe.exa (EL := consts_1) hZ.alike f72 (by decide) (by decide)
            have c74 := CHr.wr W71 s73 c63.1
            have C75 := CHr.trans (CHr.refl c63.1) c74
            have O76 := O65.wr W71 g14
            have K77 : Keep h60 h71 [b3] := Keep.wr (Keep.refl h60 [b3]) W71 (Or.inl (List.mem_of_getElem? (i := 0) rfl))
            have v78 : Arv Z h71 b3 k3 .char 6 [(.int 99), (.int 108), (.int 105), (.int 101), (.int 110), (.int (p5 &&& (255 : Int32)))] (.int 0) := Arv.set A70 q70 S70 N70 H70 G70 (own_fput (by simp) (show nar .char (p5 &&& (255 : Int32)) = (p5 &&& (255 : Int32)) from (own_char _ (own_c255 p5).1 (own_c255 p5).2).1)) W71 5 rfl (Nat.le_of_ble_eq_true rfl)
            have N79 := Fr.snoc X71 N68 g14
            refine ⟨(99 : Int32), (108 : Int32), (105 : Int32), (101 : Int32), (110 : Int32), (p5 &&& (255 : Int32)), T71, h71, s.vm, _, _, X71.more (by decide) (by decide), e71, N79, K77, ((State.WarmedH.refl s).since 0), (Nat.zero_le _), hZ, hown, C75, v78, fun qq' => qc (qq'.2.2.2.2.2), fun qq' => absurd (qq'.1) (by decide), (by decide), (by decide), (by decide), (by decide), (by decide), own_c255 p5, fun t qt => ?_⟩
            show SS p e below T60 m 173 #[iv p1, iv p2, iv p3, iv p4, iv p5, iv p6, iv 1, .unset, rv b3, .unset, .unset] [] _
            refine XS.iload X60.here hx rfl (hb hby at_173) rfl ?_
            refine XS.bipush X60.here hx rfl (hb hby at_175) ?_
            show SS p e below T60 m 177 #[iv p1, iv p2, iv p3, iv p4, iv p5, iv p6, iv 1, .unset, rv b3, .unset, .unset] [(.int 8), (.int p5)] _
            refine XS.iushr X60.here hx rfl (hb hby at_177) rfl ?_
            show SS p e below T60 m 178 #[iv p1, iv p2, iv p3, iv p4, iv p5, iv p6, iv 1, .unset, rv b3, .unset, .unset] [(.int (us8 p5))] _
            refine XS.iconst X60.here hx rfl (hb hby at_178) ?_
            show SS p e below T60 m 179 #[iv p1, iv p2, iv p3, iv p4, iv p5, iv p6, iv 1, .unset, rv b3, .unset, .unset] [(.int 1), (.int (us8 p5))] _
            refine XS.iand X60.here hx rfl (hb hby at_179) rfl ?_
            rw [qb]
            show SS p e below T60 m 180 #[iv p1, iv p2, iv p3, iv p4, iv p5, iv p6, iv 1, .unset, rv b3, .unset, .unset] [(.int 1)] _
            refine XS.ifNo X60.here hx rfl (hb hby at_180) rfl ((if0 _ _).trans (feq (by decide : ¬ ((1 : Int32) = (0 : Int32)))).1) ?_
            refine XS.aload X60.here hx rfl (hb hby at_183) rfl rfl ?_
            refine XS.iloadN X60.here hx rfl (hb hby at_185) rfl ?_
            refine X60.ldcInt hx hown (mvT hZ (W 79 rfl)) (g := (mkF m 186 #[iv p1, iv p2, iv p3, iv p4, iv p5, iv p6, iv 1, .unset, rv b3, .unset, .unset] [(.int p4), (.ref b3)])) rfl (hb hby at_186) _ ?_
            show SS p e below T60 m 188 #[iv p1, iv p2, iv p3, iv p4, iv p5, iv p6, iv 1, .unset, rv b3, .unset, .unset] [(.int 2147483647), (.int p4), (.ref b3)] _
            refine XS.iand X60.here hx rfl (hb hby at_188) rfl ?_
            show SS p e below T60 m 189 #[iv p1, iv p2, iv p3, iv p4, iv p5, iv p6, iv 1, .unset, rv b3, .unset, .unset] [(.int (p4 &&& (2147483647 : Int32))), (.ref b3)] _
            refine XS.bipush X60.here hx rfl (hb hby at_189) ?_
            show SS p e below T60 m 191 #[iv p1, iv p2, iv p3, iv p4, iv p5, iv p6, iv 1, .unset, rv b3, .unset, .unset] [(.int 6), (.int (p4 &&& (2147483647 : Int32))), (.ref b3)] _
            refine iremM (g := (mkF m 191 #[iv p1, iv p2, iv p3, iv p4, iv p5, iv p6, iv 1, .unset, rv b3, .unset, .unset] [(.int 6), (.int (p4 &&& (2147483647 : Int32))), (.ref b3)])) X60 hx rfl (hb hby at_191) rfl (by decide : ¬ ((6 : Int32) = (0 : Int32))) ?_
            rw [qq]
            show SS p e below T60 m 192 #[iv p1, iv p2, iv p3, iv p4, iv p5, iv p6, iv 1, .unset, rv b3, .unset, .unset] [(.int 5), (.ref b3)] _
            refine XS.iload X60.here hx rfl (hb hby at_192) rfl ?_
            refine XS.sipush X60.here hx rfl (hb hby at_194) ?_
            show SS p e below T60 m 197 #[iv p1, iv p2, iv p3, iv p4, iv p5, iv p6, iv 1, .unset, rv b3, .unset, .unset] [(.int 255), (.int p5), (.int 5), (.ref b3)] _
            refine XS.iand X60.here hx rfl (hb hby at_197) rfl ?_
            show SS p e below T60 m 198 #[iv p1, iv p2, iv p3, iv p4, iv p5, iv p6, iv 1, .unset, rv b3, .unset, .unset] [(.int (p5 &&& (255 : Int32))), (.int 5), (.ref b3)] _
            refine XS.i2c X60.here hx rfl (hb hby at_198) rfl ?_
            rw [(i2c_mask p5)]
            show SS p e below T60 m 199 #[iv p1, iv p2, iv p3, iv p4, iv p5, iv p6, iv 1, .unset, rv b3, .unset, .unset] [(.int (p5 &&& (255 : Int32))), (.int 5), (.ref b3)] _
            refine st71 _ ?_
            exact qt
        have C70 := CHr.trans C64 c69
        have O71 := O65.keep K69 (allS g14 all0)
        have K72 : Keep h0 h69 [] := Keep.trans K66 K69 (allS (Or.inr (Nat.le_of_eq g3.symm)) all0)
        obtain ⟨T80, h80, X80, e80, E80, A80, D80, -, st80⟩ := newO X69 hx hZ69 hown69 (W 4 rfl) (W 5 rfl) (W 6 rfl) e69 (g := (mkF m 200 #[iv p1, iv p2, iv p3, iv p4, iv p5, iv p6, iv 1, .unset, rv b3, .unset, .unset] [])) rfl (hb hby at_200) (by decide) (by decide)
        obtain ⟨b80, g80⟩ : ∃ z, z = h69.size := ⟨_, rfl⟩
        rw [← g80] at A80 D80 st80
        have c81 := CHr.ext E80 c69.1
        have C82 := CHr.trans C70 c81
        have O83 := O71.ext E80
        have K84 : Keep h0 h80 [] := Keep.ext K72 E80
        have f86 := (J69_0.ext E80)
        have z87 : h3.size ≤ h10.size := (Nat.le_of_eq W10.size.symm)
        have z88 : h3.size ≤ h20.size := (Nat.le_trans z87 (Nat.le_of_eq W20.size.symm))
        have z89 : h3.size ≤ h30.size := (Nat.le_trans z88 (Nat.le_of_eq W30.size.symm))
        have z90 : h3.size ≤ h40.size := (Nat.le_trans z89 (Nat.le_of_eq W40.size.symm))
        have z91 : h3.size ≤ h50.size := (Nat.le_trans z90 (Nat.le_of_eq W50.size.symm))
        have z92 : h3.size ≤ h60.size := (Nat.le_trans z91 (Nat.le_of_eq W60.size.symm))
        have z93 : h3.size ≤ h69.size := (Nat.le_trans z92 K69.1)
        have z94 : h3.size ≤ h80.size := (Nat.le_trans z93 E80.1)
        have z95 : h0.size ≤ h3.size := E3.1
        have z96 : h0.size ≤ h10.size := (Nat.le_trans z95 (Nat.le_of_eq W10.size.symm))
        have z97 : h0.size ≤ h20.size := (Nat.le_trans z96 (Nat.le_of_eq W20.size.symm))
        have z98 : h0.size ≤ h30.size := (Nat.le_trans z97 (Nat.le_of_eq W30.size.symm))
        have z99 : h0.size ≤ h40.size := (Nat.le_trans z98 (Nat.le_of_eq W40.size.symm))
        have z100 : h0.size ≤ h50.size := (Nat.le_trans z99 (Nat.le_of_eq W50.size.symm))
        have z101 : h0.size ≤ h60.size := (Nat.le_trans z100 (Nat.le_of_eq W60.size.symm))
        have z102 : h0.size ≤ h69.size := (Nat.le_trans z101 K69.1)
        have g103 : n0 ≤ b80 := Nat.le_trans (Nat.le_trans (Nat.le_trans (Nat.le_of_eq O0.1.symm) O0.2.1) z102) (Nat.le_of_eq g80.symm)
        obtain ⟨_, T85, L85, X85, hQ85, st85⟩ := own_cp X80 hx hZ69 hown69 hml rfl (W 8 rfl) (W 9 rfl) (W 6 rfl) (W 10 rfl) (rm14_init l Z a0 hw b80 b3 k3 i69_0 i69_1 i69_2 i69_3 i69_4 i69_5 o_COMPACT_STRINGS h80 n0 O83 (f86) (S_o_COMPACT_STRINGS) (nz_o_COMPACT_STRINGS) (hi0.1) (hi1.1) (hi2.1) (hi3.1) (hi4.1) (hi5.1) (A80) ((D80 (Or.inr (W 31 rfl)) (ty := .byte) (by decide) : FA11 Z h80 b80 (.int 0))) ((D80 (Or.inr (W 33 rfl)) (ty := (.array .byte)) (by decide) : FA12 Z h80 b80 .null)) ((Nat.lt_of_lt_of_le A3.lt z94)) (g103) (A80.lt)) e80 (hb hby at_206) 1 #[iv p1, iv p2, iv p3, iv p4, iv p5, iv p6, iv 1, .unset, rv b3, .unset, .unset] b80 [(.ref b3)] [(.ref b80)] pd_231
        obtain ⟨b85_0, k85_0, rfl, N85q, K85, gb85_0, F85_0, F85_1, F85_2, F85_3⟩ := hQ85
        have N104 := Fr.app N69 N85q
        have f105 := (Safe.ext E80 c69.1 (Safe.new (Nat.le_of_eq g80.symm)))
        have c106 := CHr.keep K85 (sfS f105 sf0) c81.1
        have C107 := CHr.trans C82 c106
        have O108 := O83.keep K85 (allS g103 all0)
        have K109 : Keep h0 T85.heap [] := Keep.trans K84 K85 (allS (Or.inr (Nat.le_trans z102 (Nat.le_of_eq g80.symm))) all0)
        have f110 := (A80.keep K85)
        have z111 : h69.size ≤ h80.size := E80.1
        have z112 : h69.size ≤ T85.heap.size := (Nat.le_trans z111 K85.1)
        refine ⟨(1 : Int32), b80, b85_0, k85_0, (6 : Int32), [(.int (i69_0.toInt8.toInt32)), (.int (i69_1.toInt8.toInt32)), (.int (i69_2.toInt8.toInt32)), (.int (i69_3.toInt8.toInt32)), (.int (i69_4.toInt8.toInt32)), (.int (i69_5.toInt8.toInt32))], (rv b3), T85, T85.heap, vm69, _, _, X85.more (by decide) (by decide), rfl, N104, K109, hS69, (Nat.le_trans hk69 z112), hZ69, hown69, C107, (Nat.le_trans z102 (Nat.le_of_eq g80.symm)), f110, F85_2, F85_0, F85_3, (Or.inr ⟨_, rfl⟩), fun _ => ⟨_, _, _, _, _, _, rfl, fun qq' => hN0 ⟨((own_char _ hi0.1 hi0.2).2.symm.trans (by rw [← qq'.1]; decide)), ((own_char _ hi1.1 hi1.2).2.symm.trans (by rw [← qq'.2.1]; decide)), ((own_char _ hi2.1 hi2.2).2.symm.trans (by rw [← qq'.2.2.1]; decide)), ((own_char _ hi3.1 hi3.2).2.symm.trans (by rw [← qq'.2.2.2.1]; decide)), ((own_char _ hi4.1 hi4.2).2.symm.trans (by rw [← qq'.2.2.2.2.1]; decide)), ((own_char _ hi5.1 hi5.2).2.symm.trans (by rw [← qq'.2.2.2.2.2]; decide))⟩⟩, fun _ => ⟨_, _, _, _, _, _, rfl, fun qq' => hN1 ⟨((own_char _ hi0.1 hi0.2).2.symm.trans (by rw [← qq'.1]; decide)), ((own_char _ hi1.1 hi1.2).2.symm.trans (by rw [← qq'.2.1]; decide)), ((own_char _ hi2.1 hi2.2).2.symm.trans (by rw [← qq'.2.2.1]; decide)), ((own_char _ hi3.1 hi3.2).2.symm.trans (by rw [← qq'.2.2.2.1]; decide)), ((own_char _ hi4.1 hi4.2).2.symm.trans (by rw [← qq'.2.2.2.2.1]; decide)), ((own_char _ hi5.1 hi5.2).2.symm.trans (by rw [← qq'.2.2.2.2.2]; decide))⟩⟩, fun t qt => ?_⟩
        show SS p e below s₁ m 0 #[iv p1, iv p2, iv p3, iv p4, iv p5, iv p6, .unset, .unset, .unset, .unset, .unset] [] _
        refine XS.iloadN X1.here hx rfl (hb hby at_0) rfl ?_
        refine XS.iconst X1.here hx rfl (hb hby at_1) ?_
        show SS p e below s₁ m 2 #[iv p1, iv p2, iv p3, iv p4, iv p5, iv p6, .unset, .unset, .unset, .unset, .unset] [(.int 3), (.int p1)] _
        refine XS.iand X1.here hx rfl (hb hby at_2) rfl ?_
        rw [qm]
        show SS p e below s₁ m 3 #[iv p1, iv p2, iv p3, iv p4, iv p5, iv p6, .unset, .unset, .unset, .unset, .unset] [(.int 1)] _
        refine XS.istore X1.here hx rfl (hb hby at_3) rfl (l' := #[iv p1, iv p2, iv p3, iv p4, iv p5, iv p6, iv 1, .unset, .unset, .unset, .unset]) rfl ?_
        refine XS.iload X1.here hx rfl (hb hby at_5) rfl ?_
        refine XS.iconst X1.here hx rfl (hb hby at_7) ?_
        refine XS.icmpYes X1.here hx rfl (pc0 := 8) (pc' := 17) rfl (hb hby at_8) rfl (feq (by decide : ¬ ((1 : Int32) = (3 : Int32)))).2 (by decide) (by decide) ?_
        refine XS.iload X1.here hx rfl (hb hby at_17) rfl ?_
        refine XS.ifYes X1.here hx rfl (pc0 := 19) (pc' := 92) rfl (hb hby at_19) rfl ((if0 _ _).trans (feq (by decide : ¬ ((1 : Int32) = (0 : Int32)))).2) (by decide) (by decide) ?_
        refine XS.iload X1.here hx rfl (hb hby at_92) rfl ?_
        refine XS.iconst X1.here hx rfl (hb hby at_94) ?_
        refine XS.icmpNo X1.here hx rfl (hb hby at_95) rfl (teq (by decide : (1 : Int32) = (1 : Int32))).2 ?_
        refine XS.bipush X1.here hx rfl (hb hby at_98) ?_
        show SS p e below s₁ m 100 #[iv p1, iv p2, iv p3, iv p4, iv p5, iv p6, iv 1, .unset, .unset, .unset, .unset] [(.int 6)] _
        refine st3 _ ?_
        refine XS.dup X3.here hx rfl (hb hby at_102) rfl rfl ?_
        refine XS.iconst X3.here hx rfl (hb hby at_103) ?_
        refine XS.bipush X3.here hx rfl (hb hby at_104) ?_
        refine st10 _ ?_
        refine XS.dup X10.here hx rfl (hb hby at_107) rfl rfl ?_
        refine XS.iconst X10.here hx rfl (hb hby at_108) ?_
        refine XS.bipush X10.here hx rfl (hb hby at_109) ?_
        refine st20 _ ?_
        refine XS.dup X20.here hx rfl (hb hby at_112) rfl rfl ?_
        show SS p e below T20 m 113 #[iv p1, iv p2, iv p3, iv p4, iv p5, iv p6, iv 1, .unset, .unset, .unset, .unset] [(.ref b3), (.ref b3)] _
        refine XS.iconst X20.here hx rfl (hb hby at_113) ?_
        refine XS.bipush X20.here hx rfl (hb hby at_114) ?_
        refine st30 _ ?_
        refine XS.dup X30.here hx rfl (hb hby at_117) rfl rfl ?_
        refine XS.iconst X30.here hx rfl (hb hby at_118) ?_
        refine XS.bipush X30.here hx rfl (hb hby at_119) ?_
        refine st40 _ ?_
        refine XS.dup X40.here hx rfl (hb hby at_122) rfl rfl ?_
        refine XS.iconst X40.here hx rfl (hb hby at_123) ?_
        refine XS.bipush X40.here hx rfl (hb hby at_124) ?_
        show SS p e below T40 m 126 #[iv p1, iv p2, iv p3, iv p4, iv p5, iv p6, iv 1, .unset, .unset, .unset, .unset] [(.int 110), (.int 4), (.ref b3), (.ref b3)] _
        refine st50 _ ?_
        refine XS.dup X50.here hx rfl (hb hby at_127) rfl rfl ?_
        refine XS.iconst X50.here hx rfl (hb hby at_128) ?_
        refine XS.bipush X50.here hx rfl (hb hby at_129) ?_
        refine st60 _ ?_
        refine XS.astore X60.here hx rfl (hb hby at_132) rfl rfl (l' := #[iv p1, iv p2, iv p3, iv p4, iv p5, iv p6, iv 1, .unset, rv b3, .unset, .unset]) rfl ?_
        refine XS.goto X60.here hx rfl (pc0 := 134) (pc' := 173) rfl (hb hby at_134) (by decide) (by decide) ?_
        refine st69 _ ?_
        show SS p e below T69 m 200 #[iv p1, iv p2, iv p3, iv p4, iv p5, iv p6, iv 1, .unset, rv b3, .unset, .unset] [] _
        refine st80 _ ?_
        refine XS.dup X80.here hx rfl (hb hby at_203) rfl rfl ?_
        refine XS.aload X80.here hx rfl (hb hby at_204) rfl rfl ?_
        refine st85 _ ?_
        refine XS.astore X85.here hx rfl (hb hby at_209) rfl rfl (l' := #[iv p1, iv p2, iv p3, iv p4, iv p5, iv p6, iv 1, rv b80, rv b3, .unset, .unset]) rfl ?_
        exact qt
      · obtain ⟨T3, h3, k3, X3, e3, E3, A3, B3, st3⟩ := newPE X1 hx hZ (W 7 rfl) e0 (g := (mkF m 139 #[iv p1, iv p2, iv p3, iv p4, iv p5, iv p6, iv 2, .unset, .unset, .unset, .unset] [(.int 6)])) rfl (hb hby at_139) rfl (by decide) (cap := 6) (by decide) (by decide) (by decide) (by decide) (ad := "[C") rfl
        obtain ⟨b3, g3⟩ : ∃ z, z = h0.size := ⟨_, rfl⟩
        rw [← g3] at A3 B3 st3
        have c4 := CHr.ext E3 H0
        have C5 := CHr.trans (CHr.refl H0) c4
        have O6 := O0.ext E3
        have K7 : Keep h0 h3 [] := Keep.ext (Keep.refl h0 []) E3
        have v8 : Arv Z h3 b3 k3 .char 6 [(.int 0), (.int 0), (.int 0), (.int 0), (.int 0), (.int 0)] (.int 0) := (Arv.new A3 (by decide)).pad (pad_rep [] (.int 0) 6)
        obtain ⟨c9, A9, q9, S9, N9, H9, G9⟩ := id v8
        have i10 : NB 0 c9 := inb_of S9 (by decide)
        obtain ⟨T10, h10, X10, e10, W10, st10⟩ := stC X3 hx hZ e3 A9 (j := 0) i10 (g := (mkF m 145 #[iv p1, iv p2, iv p3, iv p4, iv p5, iv p6, iv 2, .unset, .unset, .unset, .unset] [(.int 115), (.int 0), (.ref b3), (.ref b3)])) rfl rfl (hb hby at_145)
        have s11 := Safe.exa (EL := consts_1) hZ.alike B3 (by decide) (by decide)
        have c12 := CHr.wr W10 s11 c4.1
        have C13 := CHr.trans C5 c12
        have g14 : n0 ≤ b3 := Nat.le_trans (Nat.le_trans (Nat.le_of_eq O0.1.symm) O0.2.1) (Nat.le_of_eq g3.symm)
        have O15 := O6.wr W10 g14
        have K16 : Keep h0 h10 [] := Keep.wr K7 W10 (Or.inr (Nat.le_of_eq g3.symm))
        have v17 : Arv Z h10 b3 k3 .char 6 [(.int 115), (.int 0), (.int 0), (.int 0), (.int 0), (.int 0)] (.int 0) := Arv.set A9 q9 S9 N9 H9 G9 (fits_nar_char _) W10 0 rfl (Nat.le_of_ble_eq_true rfl)
        have N18 := Fr.snoc X10 N0 g14
        obtain ⟨c19, A19, q19, S19, N19, H19, G19⟩ := id v17
        have i20 : NB 1 c19 := inb_of S19 (by decide)
        obtain ⟨T20, h20, X20, e20, W20, st20⟩ := stC X10 hx hZ e10 A19 (j := 1) i20 (g := (mkF m 150 #[iv p1, iv p2, iv p3, iv p4, iv p5, iv p6, iv 2, .unset, .unset, .unset, .unset] [(.int 101), (.int 1), (.ref b3), (.ref b3)])) rfl rfl (hb hby at_150)
        have f21 := (B3.wr W10)
        have s22 := Safe.exa (EL := consts_1) hZ.alike f21 (by decide) (by decide)
        have c23 := CHr.wr W20 s22 c12.1
        have C24 := CHr.trans C13 c23
        have O25 := O15.wr W20 g14
        have K26 : Keep h0 h20 [] := Keep.wr K16 W20 (Or.inr (Nat.le_of_eq g3.symm))
        have v27 : Arv Z h20 b3 k3 .char 6 [(.int 115), (.int 101), (.int 0), (.int 0), (.int 0), (.int 0)] (.int 0) := Arv.set A19 q19 S19 N19 H19 G19 (fits_nar_char _) W20 1 rfl (Nat.le_of_ble_eq_true rfl)
        have N28 := Fr.snoc X20 N18 g14
        obtain ⟨c29, A29, q29, S29, N29, H29, G29⟩ := id v27
        have i30 : NB 2 c29 := inb_of S29 (by decide)
        obtain ⟨T30, h30, X30, e30, W30, st30⟩ := stC X20 hx hZ e20 A29 (j := 2) i30 (g := (mkF m 155 #[iv p1, iv p2, iv p3, iv p4, iv p5, iv p6, iv 2, .unset, .unset, .unset, .unset] [(.int 114), (.int 2), (.ref b3), (.ref b3)])) rfl rfl (hb hby at_155)
        have f31 := (f21.wr W20)
        have s32 := Safe.exa (EL := consts_1) hZ.alike f31 (by decide) (by decide)
        have c33 := CHr.wr W30 s32 c23.1
        have C34 := CHr.trans C24 c33
        have O35 := O25.wr W30 g14
        have K36 : Keep h0 h30 [] := Keep.wr K26 W30 (Or.inr (Nat.le_of_eq g3.symm))
        have v37 : Arv Z h30 b3 k3 .char 6 [(.int 115), (.int 101), (.int 114), (.int 0), (.int 0), (.int 0)] (.int 0) := Arv.set A29 q29 S29 N29 H29 G29 (fits_nar_char _) W30 2 rfl (Nat.le_of_ble_eq_true rfl)
        have N38 := Fr.snoc X30 N28 g14
        obtain ⟨c39, A39, q39, S39, N39, H39, G39⟩ := id v37
        have i40 : NB 3 c39 := inb_of S39 (by decide)
        obtain ⟨T40, h40, X40, e40, W40, st40⟩ := stC X30 hx hZ e30 A39 (j := 3) i40 (g := (mkF m 160 #[iv p1, iv p2, iv p3, iv p4, iv p5, iv p6, iv 2, .unset, .unset, .unset, .unset] [(.int 118), (.int 3), (.ref b3), (.ref b3)])) rfl rfl (hb hby at_160)
        have f41 := (f31.wr W30)
        have s42 := Safe.exa (EL := consts_1) hZ.alike f41 (by decide) (by decide)
        have c43 := CHr.wr W40 s42 c33.1
        have C44 := CHr.trans C34 c43
        have O45 := O35.wr W40 g14
        have K46 : Keep h0 h40 [] := Keep.wr K36 W40 (Or.inr (Nat.le_of_eq g3.symm))
        have v47 : Arv Z h40 b3 k3 .char 6 [(.int 115), (.int 101), (.int 114), (.int 118), (.int 0), (.int 0)] (.int 0) := Arv.set A39 q39 S39 N39 H39 G39 (fits_nar_char _) W40 3 rfl (Nat.le_of_ble_eq_true rfl)
        have N48 := Fr.snoc X40 N38 g14
        obtain ⟨c49, A49, q49, S49, N49, H49, G49⟩ := id v47
        have i50 : NB 4 c49 := inb_of S49 (by decide)
        obtain ⟨T50, h50, X50, e50, W50, st50⟩ := stC X40 hx hZ e40 A49 (j := 4) i50 (g := (mkF m 165 #[iv p1, iv p2, iv p3, iv p4, iv p5, iv p6, iv 2, .unset, .unset, .unset, .unset] [(.int 101), (.int 4), (.ref b3), (.ref b3)])) rfl rfl (hb hby at_165)
        have f51 := (f41.wr W40)
        have s52 := Safe.exa (EL := consts_1) hZ.alike f51 (by decide) (by decide)
        have c53 := CHr.wr W50 s52 c43.1
        have C54 := CHr.trans C44 c53
        have O55 := O45.wr W50 g14
        have K56 : Keep h0 h50 [] := Keep.wr K46 W50 (Or.inr (Nat.le_of_eq g3.symm))
        have v57 : Arv Z h50 b3 k3 .char 6 [(.int 115), (.int 101), (.int 114), (.int 118), (.int 101), (.int 0)] (.int 0) := Arv.set A49 q49 S49 N49 H49 G49 (fits_nar_char _) W50 4 rfl (Nat.le_of_ble_eq_true rfl)
        have N58 := Fr.snoc X50 N48 g14
        obtain ⟨c59, A59, q59, S59, N59, H59, G59⟩ := id v57
        have i60 : NB 5 c59 := inb_of S59 (by decide)
        obtain ⟨T60, h60, X60, e60, W60, st60⟩ := stC X50 hx hZ e50 A59 (j := 5) i60 (g := (mkF m 170 #[iv p1, iv p2, iv p3, iv p4, iv p5, iv p6, iv 2, .unset, .unset, .unset, .unset] [(.int 114), (.int 5), (.ref b3), (.ref b3)])) rfl rfl (hb hby at_170)
        have f61 := (f51.wr W50)
        have s62 := Safe.exa (EL := consts_1) hZ.alike f61 (by decide) (by decide)
        have c63 := CHr.wr W60 s62 c53.1
        have C64 := CHr.trans C54 c63
        have O65 := O55.wr W60 g14
        have K66 : Keep h0 h60 [] := Keep.wr K56 W60 (Or.inr (Nat.le_of_eq g3.symm))
        have v67 : Arv Z h60 b3 k3 .char 6 [(.int 115), (.int 101), (.int 114), (.int 118), (.int 101), (.int 114)] (.int 0) := Arv.set A59 q59 S59 N59 H59 G59 (fits_nar_char _) W60 5 rfl (Nat.le_of_ble_eq_true rfl)
        have N68 := Fr.snoc X60 N58 g14
        obtain ⟨i69_0, i69_1, i69_2, i69_3, i69_4, i69_5, T69, h69, vm69, k69, L69, X69, e69, N69, K69, hS69, hk69, hZ69, hown69, c69, J69_0, hN0, hN1, hi0, hi1, hi2, hi3, hi4, hi5, st69⟩ : ∃ (i69_0 : Int32) (i69_1 : Int32) (i69_2 : Int32) (i69_3 : Int32) (i69_4 : Int32) (i69_5 : Int32) (T69 : State) (h69 : Heap) (vm69 : Vm) (k69 : Nat) (L69 : List Loc), Stand p l e room_1 (s.setVm vm69) m #[(.int p1), (.int p2), (.int p3), (.int p4), (.int p5), (.int p6)] below meth c T69 L69 1 6 ∧ T69.heap = h69 ∧ Fr n0 L69 ∧ Keep h60 h69 [b3] ∧ s.Since vm69 k69 ∧ k69 ≤ h69.size ∧ Z.Warmed39 vm69 ∧ vm69.findClass "com/example/duplex/duplex/compliance/SideOfLabelPinLaw" = some m.cls ∧ CHr Z consts_1 s.vm h60 vm69 h69 ∧ Arv Z h69 b3 k3 .char 6 [(.int i69_0), (.int i69_1), (.int i69_2), (.int i69_3), (.int i69_4), (.int i69_5)] (.int 0) ∧ ¬ (i69_0 = (99 : Int32) ∧ i69_1 = (108 : Int32) ∧ i69_2 = (105 : Int32) ∧ i69_3 = (101 : Int32) ∧ i69_4 = (110 : Int32) ∧ i69_5 = (116 : Int32)) ∧ ¬ (i69_0 = (115 : Int32) ∧ i69_1 = (101 : Int32) ∧ i69_2 = (114 : Int32) ∧ i69_3 = (118 : Int32) ∧ i69_4 = (101 : Int32) ∧ i69_5 = (114 : Int32)) ∧ (¬ ((255 : Int32) < i69_0) ∧ ¬ (i69_0 < (0 : Int32))) ∧ (¬ ((255 : Int32) < i69_1) ∧ ¬ (i69_1 < (0 : Int32))) ∧ (¬ ((255 : Int32) < i69_2) ∧ ¬ (i69_2 < (0 : Int32))) ∧ (¬ ((255 : Int32) < i69_3) ∧ ¬ (i69_3 < (0 : Int32))) ∧ (¬ ((255 : Int32) < i69_4) ∧ ¬ (i69_4 < (0 : Int32))) ∧ (¬ ((255 : Int32) < i69_5) ∧ ¬ (i69_5 < (0 : Int32))) ∧ ∀ t, SS p e below T69 m 200 #[iv p1, iv p2, iv p3, iv p4, iv p5, iv p6, iv 2, .unset, rv b3, .unset, .unset] [] t → SS p e below T60 m 173 #[iv p1, iv p2, iv p3, iv p4, iv p5, iv p6, iv 2, .unset, rv b3, .unset, .unset] [] t := by
          rcases qr with ⟨qb, qq, qc⟩ | ⟨qb, qq, qc⟩ | ⟨qb, qq, qc⟩ | ⟨qb, qq, qc⟩ | ⟨qb, qq, qc⟩ | ⟨qb, qq, qc⟩
          · obtain ⟨c70, A70, q70, S70, N70, H70, G70⟩ := id v67
            have i71 : NB 0 c70 := inb_of S70 (by decide)
            obtain ⟨T71, h71, X71, e71, W71, st71⟩ := stC X60 hx hZ e60 A70 (j := 0) i71 (g := (mkF m 199 #[iv p1, iv p2, iv p3, iv p4, iv p5, iv p6, iv 2, .unset, rv b3, .unset, .unset] [(.int (p5 &&& (255 : Int32))), (.int 0), (.ref b3)])) rfl rfl (hb hby at_199)
            rw [(show nar .char (p5 &&& (255 : Int32)) = (p5 &&& (255 : Int32)) from (own_char _ (own_c255 p5).1 (own_c255 p5).2).1)] at W71
            have f72 := (f61.wr W60)
            have s73 := Safe.exa (EL := consts_1) hZ.alike f72 (by decide) (by decide)
            have c74 := CHr.wr W71 s73 c63.1
            have C75 := CHr.trans (CHr.refl c63.1) c74
            have O76 := O65.wr W71 g14
            have K77 : Keep h60 h71 [b3] := Keep.wr (Keep.refl h60 [b3]) W71 (Or.inl (List.mem_of_getElem? (i := 0) rfl))
            have v78 : Arv Z h71 b3 k3 .char 6 [(.int (p5 &&& (255 : Int32))), (.int 101), (.int 114), (.int 118), (.int 101), (.int 114)] (.int 0) := Arv.set A70 q70 S70 N70 H70 G70 (own_fput (by simp) (show nar .char (p5 &&& (255 : Int32)) = (p5 &&& (255 : Int32)) from (own_char _ (own_c255 p5).1 (own_c255 p5).2).1)) W71 0 rfl (Nat.le_of_ble_eq_true rfl)
            have N79 := Fr.snoc X71 N68 g14
            refine ⟨(p5 &&& (255 : Int32)), (101 : Int32), (114 : Int32), (118 : Int32), (101 : Int32), (114 : Int32), T71, h71, s.vm, _, _, X71.more (by decide) (by decide), e71, N79, K77, ((State.WarmedH.refl s).since 0), (Nat.zero_le _), hZ, hown, C75, v78, fun qq' => absurd (qq'.2.1) (by decide), fun qq' => qc (qq'.1), own_c255 p5, (by decide), (by decide), (by decide), (by decide), (by decide), fun t qt => ?_⟩
            show SS p e below T60 m 173 #[iv p1, iv p2, iv p3, iv p4, iv p5, iv p6, iv 2, .unset, rv b3, .unset, .unset] [] _
            refine XS.iload X60.here hx rfl (hb hby at_173) rfl ?_
            refine XS.bipush X60.here hx rfl (hb hby at_175) ?_
            show SS p e below T60 m 177 #[iv p1, iv p2, iv p3, iv p4, iv p5, iv p6, iv 2, .unset, rv b3, .unset, .unset] [(.int 8), (.int p5)] _
            refine XS.iushr X60.here hx rfl (hb hby at_177) rfl ?_
            show SS p e below T60 m 178 #[iv p1, iv p2, iv p3, iv p4, iv p5, iv p6, iv 2, .unset, rv b3, .unset, .unset] [(.int (us8 p5))] _
            refine XS.iconst X60.here hx rfl (hb hby at_178) ?_
            show SS p e below T60 m 179 #[iv p1, iv p2, iv p3, iv p4, iv p5, iv p6, iv 2, .unset, rv b3, .unset, .unset] [(.int 1), (.int (us8 p5))] _
            refine XS.iand X60.here hx rfl (hb hby at_179) rfl ?_
            rw [qb]
            show SS p e below T60 m 180 #[iv p1, iv p2, iv p3, iv p4, iv p5, iv p6, iv 2, .unset, rv b3, .unset, .unset] [(.int 1)] _
            refine XS.ifNo X60.here hx rfl (hb hby at_180) rfl ((if0 _ _).trans (feq (by decide : ¬ ((1 : Int32) = (0 : Int32)))).1) ?_
            refine XS.aload X60.here hx rfl (hb hby at_183) rfl rfl ?_
            refine XS.iloadN X60.here hx rfl (hb hby at_185) rfl ?_
            refine X60.ldcInt hx hown (mvT hZ (W 79 rfl)) (g := (mkF m 186 #[iv p1, iv p2, iv p3, iv p4, iv p5, iv p6, iv 2, .unset, rv b3, .unset, .unset] [(.int p4), (.ref b3)])) rfl (hb hby at_186) _ ?_
            show SS p e below T60 m 188 #[iv p1, iv p2, iv p3, iv p4, iv p5, iv p6, iv 2, .unset, rv b3, .unset, .unset] [(.int 2147483647), (.int p4), (.ref b3)] _
            refine XS.iand X60.here hx rfl (hb hby at_188) rfl ?_
            show SS p e below T60 m 189 #[iv p1, iv p2, iv p3, iv p4, iv p5, iv p6, iv 2, .unset, rv b3, .unset, .unset] [(.int (p4 &&& (2147483647 : Int32))), (.ref b3)] _
            refine XS.bipush X60.here hx rfl (hb hby at_189) ?_
            show SS p e below T60 m 191 #[iv p1, iv p2, iv p3, iv p4, iv p5, iv p6, iv 2, .unset, rv b3, .unset, .unset] [(.int 6), (.int (p4 &&& (2147483647 : Int32))), (.ref b3)] _
            refine iremM (g := (mkF m 191 #[iv p1, iv p2, iv p3, iv p4, iv p5, iv p6, iv 2, .unset, rv b3, .unset, .unset] [(.int 6), (.int (p4 &&& (2147483647 : Int32))), (.ref b3)])) X60 hx rfl (hb hby at_191) rfl (by decide : ¬ ((6 : Int32) = (0 : Int32))) ?_
            rw [qq]
            show SS p e below T60 m 192 #[iv p1, iv p2, iv p3, iv p4, iv p5, iv p6, iv 2, .unset, rv b3, .unset, .unset] [(.int 0), (.ref b3)] _
            refine XS.iload X60.here hx rfl (hb hby at_192) rfl ?_
            refine XS.sipush X60.here hx rfl (hb hby at_194) ?_
            show SS p e below T60 m 197 #[iv p1, iv p2, iv p3, iv p4, iv p5, iv p6, iv 2, .unset, rv b3, .unset, .unset] [(.int 255), (.int p5), (.int 0), (.ref b3)] _
            refine XS.iand X60.here hx rfl (hb hby at_197) rfl ?_
            show SS p e below T60 m 198 #[iv p1, iv p2, iv p3, iv p4, iv p5, iv p6, iv 2, .unset, rv b3, .unset, .unset] [(.int (p5 &&& (255 : Int32))), (.int 0), (.ref b3)] _
            refine XS.i2c X60.here hx rfl (hb hby at_198) rfl ?_
            rw [(i2c_mask p5)]
            show SS p e below T60 m 199 #[iv p1, iv p2, iv p3, iv p4, iv p5, iv p6, iv 2, .unset, rv b3, .unset, .unset] [(.int (p5 &&& (255 : Int32))), (.int 0), (.ref b3)] _
            refine st71 _ ?_
            exact qt
          · obtain ⟨c70, A70, q70, S70, N70, H70, G70⟩ := id v67
            have i71 : NB 1 c70 := inb_of S70 (by decide)
            obtain ⟨T71, h71, X71, e71, W71, st71⟩ := stC X60 hx hZ e60 A70 (j := 1) i71 (g := (mkF m 199 #[iv p1, iv p2, iv p3, iv p4, iv p5, iv p6, iv 2, .unset, rv b3, .unset, .unset] [(.int (p5 &&& (255 : Int32))), (.int 1), (.ref b3)])) rfl rfl (hb hby at_199)
            rw [(show nar .char (p5 &&& (255 : Int32)) = (p5 &&& (255 : Int32)) from (own_char _ (own_c255 p5).1 (own_c255 p5).2).1)] at W71
            have f72 := (f61.wr W60)
            have s73 := Safe.exa (EL := consts_1) hZ.alike f72 (by decide) (by decide)
            have c74 := CHr.wr W71 s73 c63.1
            have C75 := CHr.trans (CHr.refl c63.1) c74
            have O76 := O65.wr W71 g14
            have K77 : Keep h60 h71 [b3] := Keep.wr (Keep.refl h60 [b3]) W71 (Or.inl (List.mem_of_getElem? (i := 0) rfl))
            have v78 : Arv Z h71 b3 k3 .char 6 [(.int 115), (.int (p5 &&& (255 : Int32))), (.int 114), (.int 118), (.int 101), (.int 114)] (.int 0) := Arv.set A70 q70 S70 N70 H70 G70 (own_fput (by simp) (show nar .char (p5 &&& (255 : Int32)) = (p5 &&& (255 : Int32)) from (own_char _ (own_c255 p5).1 (own_c255 p5).2).1)) W71 1 rfl (Nat.le_of_ble_eq_true rfl)
            have N79 := Fr.snoc X71 N68 g14
            refine ⟨(115 : Int32), (p5 &&& (255 : Int32)), (114 : Int32), (118 : Int32), (101 : Int32), (114 : Int32), T71, h71, s.vm, _, _, X71.more (by decide) (by decide), e71, N79, K77, ((State.WarmedH.refl s).since 0), (Nat.zero_le _), hZ, hown, C75, v78, fun qq' => absurd (qq'.1) (by decide), fun qq' => qc (qq'.2.1), (by decide), own_c255 p5, (by decide), (by decide), (by decide), (by decide), fun t qt => ?_⟩
            show SS p e below T60 m 173 #[iv p1, iv p2, iv p3, iv p4, iv p5, iv p6, iv 2, .unset, rv b3, .unset, .unset] [] _
            refine XS.iload X60.here hx rfl (hb hby at_173) rfl ?_
            refine XS.bipush X60.here hx rfl (hb hby at_175) ?_
            show SS p e below T60 m 177 #[iv p1, iv p2, iv p3, iv p4, iv p5, iv p6, iv 2, .unset, rv b3, .unset, .unset] [(.int 8), (.int p5)] _
            refine XS.iushr X60.here hx rfl (hb hby at_177) rfl ?_
            show SS p e below T60 m 178 #[iv p1, iv p2, iv p3, iv p4, iv p5, iv p6, iv 2, .unset, rv b3, .unset, .unset] [(.int (us8 p5))] _
            refine XS.iconst X60.here hx rfl (hb hby at_178) ?_
            show SS p e below T60 m 179 #[iv p1, iv p2, iv p3, iv p4, iv p5, iv p6, iv 2, .unset, rv b3, .unset, .unset] [(.int 1), (.int (us8 p5))] _
            refine XS.iand X60.here hx rfl (hb hby at_179) rfl ?_
            rw [qb]
            show SS p e below T60 m 180 #[iv p1, iv p2, iv p3, iv p4, iv p5, iv p6, iv 2, .unset, rv b3, .unset, .unset] [(.int 1)] _
            refine XS.ifNo X60.here hx rfl (hb hby at_180) rfl ((if0 _ _).trans (feq (by decide : ¬ ((1 : Int32) = (0 : Int32)))).1) ?_
            refine XS.aload X60.here hx rfl (hb hby at_183) rfl rfl ?_
            refine XS.iloadN X60.here hx rfl (hb hby at_185) rfl ?_
            refine X60.ldcInt hx hown (mvT hZ (W 79 rfl)) (g := (mkF m 186 #[iv p1, iv p2, iv p3, iv p4, iv p5, iv p6, iv 2, .unset, rv b3, .unset, .unset] [(.int p4), (.ref b3)])) rfl (hb hby at_186) _ ?_
            show SS p e below T60 m 188 #[iv p1, iv p2, iv p3, iv p4, iv p5, iv p6, iv 2, .unset, rv b3, .unset, .unset] [(.int 2147483647), (.int p4), (.ref b3)] _
            refine XS.iand X60.here hx rfl (hb hby at_188) rfl ?_
            show SS p e below T60 m 189 #[iv p1, iv p2, iv p3, iv p4, iv p5, iv p6, iv 2, .unset, rv b3, .unset, .unset] [(.int (p4 &&& (2147483647 : Int32))), (.ref b3)] _
            refine XS.bipush X60.here hx rfl (hb hby at_189) ?_
            show SS p e below T60 m 191 #[iv p1, iv p2, iv p3, iv p4, iv p5, iv p6, iv 2, .unset, rv b3, .unset, .unset] [(.int 6), (.int (p4 &&& (2147483647 : Int32))), (.ref b3)] _
            refine iremM (g := (mkF m 191 #[iv p1, iv p2, iv p3, iv p4, iv p5, iv p6, iv 2, .unset, rv b3, .unset, .unset] [(.int 6), (.int (p4 &&& (2147483647 : Int32))), (.ref b3)])) X60 hx rfl (hb hby at_191) rfl (by decide : ¬ ((6 : Int32) = (0 : Int32))) ?_
            rw [qq]
            show SS p e below T60 m 192 #[iv p1, iv p2, iv p3, iv p4, iv p5, iv p6, iv 2, .unset, rv b3, .unset, .unset] [(.int 1), (.ref b3)] _
            refine XS.iload X60.here hx rfl (hb hby at_192) rfl ?_
            refine XS.sipush X60.here hx rfl (hb hby at_194) ?_
            show SS p e below T60 m 197 #[iv p1, iv p2, iv p3, iv p4, iv p5, iv p6, iv 2, .unset, rv b3, .unset, .unset] [(.int 255), (.int p5), (.int 1), (.ref b3)] _
            refine XS.iand X60.here hx rfl (hb hby at_197) rfl ?_
            show SS p e below T60 m 198 #[iv p1, iv p2, iv p3, iv p4, iv p5, iv p6, iv 2, .unset, rv b3, .unset, .unset] [(.int (p5 &&& (255 : Int32))), (.int 1), (.ref b3)] _
            refine XS.i2c X60.here hx rfl (hb hby at_198) rfl ?_
            rw [(i2c_mask p5)]
            show SS p e below T60 m 199 #[iv p1, iv p2, iv p3, iv p4, iv p5, iv p6, iv 2, .unset, rv b3, .unset, .unset] [(.int (p5 &&& (255 : Int32))), (.int 1), (.ref b3)] _
            refine st71 _ ?_
            exact qt
          · obtain ⟨c70, A70, q70, S70, N70, H70, G70⟩ := id v67
            have i71 : NB 2 c70 := inb_of S70 (by decide)
            obtain ⟨T71, h71, X71, e71, W71, st71⟩ := stC X60 hx hZ e60 A70 (j := 2) i71 (g := (mkF m 199 #[iv p1, iv p2, iv p3, iv p4, iv p5, iv p6, iv 2, .unset, rv b3, .unset, .unset] [(.int (p5 &&& (255 : Int32))), (.int 2), (.ref b3)])) rfl rfl (hb hby at_199)
            rw [(show nar .char (p5 &&& (255 : Int32)) = (p5 &&& (255 : Int32)) from (own_char _ (own_c255 p5).1 (own_c255 p5).2).1)] at W71
            have f72 := (f61.wr W60)
            have s73 := Safe.exa (EL := consts_1) hZ.alike f72 (by decide) (by decide)
            have c74 := CHr.wr W71 s73 c63.1
            have C75 := CHr.trans (CHr.refl c63.1) c74
            have O76 := O65.wr W71 g14
            have K77 : Keep h60 h71 [b3] := Keep.wr (Keep.refl h60 [b3]) W71 (Or.inl (List.mem_of_getElem? (i := 0) rfl))
            have v78 : Arv Z h71 b3 k3 .char 6 [(.int 115), (.int 101), (.int (p5 &&& (255 : Int32))), (.int 118), (.int 101), (.int 114)] (.int 0) := Arv.set A70 q70 S70 N70 H70 G70 (own_fput (by simp) (show nar .char (p5 &&& (255 : Int32)) = (p5 &&& (255 : Int32)) from (own_char _ (own_c255 p5).1 (own_c255 p5).2).1)) W71 2 rfl (Nat.le_of_ble_eq_true rfl)
            have N79 := Fr.snoc X71 N68 g14
            refine ⟨(115 : Int32), (101 : Int32), (p5 &&& (255 : Int32)), (118 : Int32), (101 : Int32), (114 : Int32), T71, h71, s.vm, _, _, X71.more (by decide) (by decide), e71, N79, K77, ((State.WarmedH.refl s).since 0), (Nat.zero_le _), hZ, hown, C75, v78, fun qq' => absurd (qq'.1) (by decide), fun qq' => qc (qq'.2.2.1), (by decide), (by decide), own_c255 p5, (by decide), (by decide), (by decide), fun t qt => ?_⟩
            show SS p e below T60 m 173 #[iv p1, iv p2, iv p3, iv p4, iv p5, iv p6, iv 2, .unset, rv b3, .unset, .unset] [] _
            refine XS.iload X60.here hx rfl (hb hby at_173) rfl ?_
            refine XS.bipush X60.here hx rfl (hb hby at_175) ?_
            show SS p e below T60 m 177 #[iv p1, iv p2, iv p3, iv p4, iv p5, iv p6, iv 2, .unset, rv b3, .unset, .unset] [(.int 8), (.int p5)] _
            refine XS.iushr X60.here hx rfl (hb hby at_177) rfl ?_
            show SS p e below T60 m 178 #[iv p1, iv p2, iv p3, iv p4, iv p5, iv p6, iv 2, .unset, rv b3, .unset, .unset] [(.int (us8 p5))] _
            refine XS.iconst X60.here hx rfl (hb hby at_178) ?_
            show SS p e below T60 m 179 #[iv p1, iv p2, iv p3, iv p4, iv p5, iv p6, iv 2, .unset, rv b3, .unset, .unset] [(.int 1), (.int (us8 p5))] _
            refine XS.iand X60.here hx rfl (hb hby at_179) rfl ?_
            rw [qb]
            show SS p e below T60 m 180 #[iv p1, iv p2, iv p3, iv p4, iv p5, iv p6, iv 2, .unset, rv b3, .unset, .unset] [(.int 1)] _
            refine XS.ifNo X60.here hx rfl (hb hby at_180) rfl ((if0 _ _).trans (feq (by decide : ¬ ((1 : Int32) = (0 : Int32)))).1) ?_
            refine XS.aload X60.here hx rfl (hb hby at_183) rfl rfl ?_
            refine XS.iloadN X60.here hx rfl (hb hby at_185) rfl ?_
            refine X60.ldcInt hx hown (mvT hZ (W 79 rfl)) (g := (mkF m 186 #[iv p1, iv p2, iv p3, iv p4, iv p5, iv p6, iv 2, .unset, rv b3, .unset, .unset] [(.int p4), (.ref b3)])) rfl (hb hby at_186) _ ?_
            show SS p e below T60 m 188 #[iv p1, iv p2, iv p3, iv p4, iv p5, iv p6, iv 2, .unset, rv b3, .unset, .unset] [(.int 2147483647), (.int p4), (.ref b3)] _
            refine XS.iand X60.here hx rfl (hb hby at_188) rfl ?_
            show SS p e below T60 m 189 #[iv p1, iv p2, iv p3, iv p4, iv p5, iv p6, iv 2, .unset, rv b3, .unset, .unset] [(.int (p4 &&& (2147483647 : Int32))), (.ref b3)] _
            refine XS.bipush X60.here hx rfl (hb hby at_189) ?_
            show SS p e below T60 m 191 #[iv p1, iv p2, iv p3, iv p4, iv p5, iv p6, iv 2, .unset, rv b3, .unset, .unset] [(.int 6), (.int (p4 &&& (2147483647 : Int32))), (.ref b3)] _
            refine iremM (g := (mkF m 191 #[iv p1, iv p2, iv p3, iv p4, iv p5, iv p6, iv 2, .unset, rv b3, .unset, .unset] [(.int 6), (.int (p4 &&& (2147483647 : Int32))), (.ref b3)])) X60 hx rfl (hb hby at_191) rfl (by decide : ¬ ((6 : Int32) = (0 : Int32))) ?_
            rw [qq]
            show SS p e below T60 m 192 #[iv p1, iv p2, iv p3, iv p4, iv p5, iv p6, iv 2, .unset, rv b3, .unset, .unset] [(.int 2), (.ref b3)] _
            refine XS.iload X60.here hx rfl (hb hby at_192) rfl ?_
            refine XS.sipush X60.here hx rfl (hb hby at_194) ?_
            show SS p e below T60 m 197 #[iv p1, iv p2, iv p3, iv p4, iv p5, iv p6, iv 2, .unset, rv b3, .unset, .unset] [(.int 255), (.int p5), (.int 2), (.ref b3)] _
            refine XS.iand X60.here hx rfl (hb hby at_197) rfl ?_
            show SS p e below T60 m 198 #[iv p1, iv p2, iv p3, iv p4, iv p5, iv p6, iv 2, .unset, rv b3, .unset, .unset] [(.int (p5 &&& (255 : Int32))), (.int 2), (.ref b3)] _
            refine XS.i2c X60.here hx rfl (hb hby at_198) rfl ?_
            rw [(i2c_mask p5)]
            show SS p e below T60 m 199 #[iv p1, iv p2, iv p3, iv p4, iv p5, iv p6, iv 2, .unset, rv b3, .unset, .unset] [(.int (p5 &&& (255 : Int32))), (.int 2), (.ref b3)] _
            refine st71 _ ?_
            exact qt
          · obtain ⟨c70, A70, q70, S70, N70, H70, G70⟩ := id v67
            have i71 : NB 3 c70 := inb_of S70 (by decide)
            obtain ⟨T71, h71, X71, e71, W71, st71⟩ := stC X60 hx hZ e60 A70 (j := 3) i71 (g := (mkF m 199 #[iv p1, iv p2, iv p3, iv p4, iv p5, iv p6, iv 2, .unset, rv b3, .unset, .unset] [(.int (p5 &&& (255 : Int32))), (.int 3), (.ref b3)])) rfl rfl (hb hby at_199)
            rw [(show nar .char (p5 &&& (255 : Int32)) = (p5 &&& (255 : Int32)) from (own_char _ (own_c255 p5).1 (own_c255 p5).2).1)] at W71
            have f72 := (f61.wr W60)
            have s73 := Safe.exa (EL := consts_1) hZ.alike f72 (by decide) (by decide)
            have c74 := CHr.wr W71 s73 c63.1
            have C75 := CHr.trans (CHr.refl c63.1) c74
            have O76 := O65.wr W71 g14
            have K77 : Keep h60 h71 [b3] := Keep.wr (Keep.refl h60 [b3]) W71 (Or.inl (List.mem_of_getElem? (i := 0) rfl))
            have v78 : Arv Z h71 b3 k3 .char 6 [(.int 115), (.int 101), (.int 114), (.int (p5 &&& (255 : Int32))), (.int 101), (.int 114)] (.int 0) := Arv.set A70 q70 S70 N70 H70 G70 (own_fput (by simp) (show nar .char (p5 &&& (255 : Int32)) = (p5 &&& (255 : Int32)) from (own_char _ (own_c255 p5).1 (own_c255 p5).2).1)) W71 3 rfl (Nat.le_of_ble_eq_true rfl)
            have N79 := Fr.snoc X71 N68 g14
            refine ⟨(115 : Int32), (101 : Int32), (114 : Int32), (p5 &&& (255 : Int32)), (101 : Int32), (114 : Int32), T71, h71, s.vm, _, _, X71.more (by decide) (by decide), e71, N79, K77, ((State.WarmedH.refl s).since 0), (Nat.zero_le _), hZ, hown, C75, v78, fun qq' => absurd (qq'.1) (by decide), fun qq' => qc (qq'.2.2.2.1), (by decide), (by decide), (by decide), own_c255 p5, (by decide), (by decide), fun t qt => ?_⟩
            show SS p e below T60 m 173 #[iv p1, iv p2, iv p3, iv p4, iv p5, iv p6, iv 2, .unset, rv b3, .unset, .unset] [] _
            refine XS.iload X60.here hx rfl (hb hby at_173) rfl ?_
            refine XS.bipush X60.here hx rfl (hb hby at_175) ?_
            show SS p e below T60 m 177 #[iv p1, iv p2, iv p3, iv p4, iv p5, iv p6, iv 2, .unset, rv b3, .unset, .unset] [(.int 8), (.int p5)] _
            refine XS.iushr X60.here hx rfl (hb hby at_177) rfl ?_
            show SS p e below T60 m 178 #[iv p1, iv p2, iv p3, iv p4, iv p5, iv p6, iv 2, .unset, rv b3, .unset, .unset] [(.int (us8 p5))] _
            refine XS.iconst X60.here hx rfl (hb hby at_178) ?_
            show SS p e below T60 m 179 #[iv p1, iv p2, iv p3, iv p4, iv p5, iv p6, iv 2, .unset, rv b3, .unset, .unset] [(.int 1), (.int (us8 p5))] _
            refine XS.iand X60.here hx rfl (hb hby at_179) rfl ?_
            rw [qb]
            show SS p e below T60 m 180 #[iv p1, iv p2, iv p3, iv p4, iv p5, iv p6, iv 2, .unset, rv b3, .unset, .unset] [(.int 1)] _
            refine XS.ifNo X60.here hx rfl (hb hby at_180) rfl ((if0 _ _).trans (feq (by decide : ¬ ((1 : Int32) = (0 : Int32)))).1) ?_
            refine XS.aload X60.here hx rfl (hb hby at_183) rfl rfl ?_
            refine XS.iloadN X60.here hx rfl (hb hby at_185) rfl ?_
            refine X60.ldcInt hx hown (mvT hZ (W 79 rfl)) (g := (mkF m 186 #[iv p1, iv p2, iv p3, iv p4, iv p5, iv p6, iv 2, .unset, rv b3, .unset, .unset] [(.int p4), (.ref b3)])) rfl (hb hby at_186) _ ?_
            show SS p e below T60 m 188 #[iv p1, iv p2, iv p3, iv p4, iv p5, iv p6, iv 2, .unset, rv b3, .unset, .unset] [(.int 2147483647), (.int p4), (.ref b3)] _
            refine XS.iand X60.here hx rfl (hb hby at_188) rfl ?_
            show SS p e below T60 m 189 #[iv p1, iv p2, iv p3, iv p4, iv p5, iv p6, iv 2, .unset, rv b3, .unset, .unset] [(.int (p4 &&& (2147483647 : Int32))), (.ref b3)] _
            refine XS.bipush X60.here hx rfl (hb hby at_189) ?_
            show SS p e below T60 m 191 #[iv p1, iv p2, iv p3, iv p4, iv p5, iv p6, iv 2, .unset, rv b3, .unset, .unset] [(.int 6), (.int (p4 &&& (2147483647 : Int32))), (.ref b3)] _
            refine iremM (g := (mkF m 191 #[iv p1, iv p2, iv p3, iv p4, iv p5, iv p6, iv 2, .unset, rv b3, .unset, .unset] [(.int 6), (.int (p4 &&& (2147483647 : Int32))), (.ref b3)])) X60 hx rfl (hb hby at_191) rfl (by decide : ¬ ((6 : Int32) = (0 : Int32))) ?_
            rw [qq]
            show SS p e below T60 m 192 #[iv p1, iv p2, iv p3, iv p4, iv p5, iv p6, iv 2, .unset, rv b3, .unset, .unset] [(.int 3), (.ref b3)] _
            refine XS.iload X60.here hx rfl (hb hby at_192) rfl ?_
            refine XS.sipush X60.here hx rfl (hb hby at_194) ?_
            show SS p e below T60 m 197 #[iv p1, iv p2, iv p3, iv p4, iv p5, iv p6, iv 2, .unset, rv b3, .unset, .unset] [(.int 255), (.int p5), (.int 3), (.ref b3)] _
            refine XS.iand X60.here hx rfl (hb hby at_197) rfl ?_
            show SS p e below T60 m 198 #[iv p1, iv p2, iv p3, iv p4, iv p5, iv p6, iv 2, .unset, rv b3, .unset, .unset] [(.int (p5 &&& (255 : Int32))), (.int 3), (.ref b3)] _
            refine XS.i2c X60.here hx rfl (hb hby at_198) rfl ?_
            rw [(i2c_mask p5)]
            show SS p e below T60 m 199 #[iv p1, iv p2, iv p3, iv p4, iv p5, iv p6, iv 2, .unset, rv b3, .unset, .unset] [(.int (p5 &&& (255 : Int32))), (.int 3), (.ref b3)] _
            refine st71 _ ?_
            exact qt
          · obtain ⟨c70, A70, q70, S70, N70, H70, G70⟩ := id v67
            have i71 : NB 4 c70 := inb_of S70 (by decide)
            obtain ⟨T71, h71, X71, e71, W71, st71⟩ := stC X60 hx hZ e60 A70 (j := 4) i71 (g := (mkF m 199 #[iv p1, iv p2, iv p3, iv p4, iv p5, iv p6, iv 2, .unset, rv b3, .unset, .unset] [(.int (p5 &&& (255 : Int32))), (.int 4), (.ref b3)])) rfl rfl (hb hby at_199)
            rw [(show nar .char (p5 &&& (255 : Int32)) = (p5 &&& (255 : Int32)) from (own_char _ (own_c255 p5).1 (own_c255 p5).2).1)] at W71
            have f72 := (f61.wr W60)
            have s73 := Safe.exa (EL := consts_1) hZ.alike f72 (by decide) (by decide)
            have c74 := CHr.wr W71 s73 c63.1
            have C75 := CHr.trans (CHr.refl c63.1) c74
            have O76 := O65.wr W71 g14
            have K77 : Keep h60 h71 [b3] := Keep.wr (Keep.refl h60 [b3]) W71 (Or.inl (List.mem_of_getElem? (i := 0) rfl))
            have v78 : Arv Z h71 b3 k3 .char 6 [(.int 115), (.int 101), (.int 114), (.int 118), (.int (p5 &&& (255 : Int32))), (.int 114)] (.int 0) := Arv.set A70 q70 S70 N70 H70 G70 (own_fput (by simp) (show nar .char (p5 &&& (255 : Int32)) = (p5 &&& (255 : Int32)) from (own_char _ (own_c255 p5).1 (own_c255 p5).2).1)) W71 4 rfl (Nat.le_of_ble_eq_true rfl)
            have N79 := Fr.snoc X71 N68 g14
            refine ⟨(115 : Int32), (101 : Int32), (114 : Int32), (118 : Int32), (p5 &&& (255 : Int32)), (114 : Int32), T71, h71, s.vm, _, _, X71.more (by decide) (by decide), e71, N79, K77, ((State.WarmedH.refl s).since 0), (Nat.zero_le _), hZ, hown, C75, v78, fun qq' => absurd (qq'.1) (by decide), fun qq' => qc (qq'.2.2.2.2.1), (by decide), (by decide), (by decide), (by decide), own_c255 p5, (by decide), fun t qt => ?_⟩
            show SS p e below T60 m 173 #[iv p1, iv p2, iv p3, iv p4, iv p5, iv p6, iv 2, .unset, rv b3, .unset, .unset] [] _
            refine XS.iload X60.here hx rfl (hb hby at_173) rfl ?_
            refine XS.bipush X60.here hx rfl (hb hby at_175) ?_
            show SS p e below T60 m 177 #[iv p1, iv p2, iv p3, iv p4, iv p5, iv p6, iv 2, .unset, rv b3, .unset, .unset] [(.int 8), (.int p5)] _
            refine XS.iushr X60.here hx rfl (hb hby at_177) rfl ?_
            show SS p e below T60 m 178 #[iv p1, iv p2, iv p3, iv p4, iv p5, iv p6, iv 2, .unset, rv b3, .unset, .unset] [(.int (us8 p5))] _
            refine XS.iconst X60.here hx rfl (hb hby at_178) ?_
            show SS p e below T60 m 179 #[iv p1, iv p2, iv p3, iv p4, iv p5, iv p6, iv 2, .unset, rv b3, .unset, .unset] [(.int 1), (.int (us8 p5))] _
            refine XS.iand X60.here hx rfl (hb hby at_179) rfl ?_
            rw [qb]
            show SS p e below T60 m 180 #[iv p1, iv p2, iv p3, iv p4, iv p5, iv p6, iv 2, .unset, rv b3, .unset, .unset] [(.int 1)] _
            refine XS.ifNo X60.here hx rfl (hb hby at_180) rfl ((if0 _ _).trans (feq (by decide : ¬ ((1 : Int32) = (0 : Int32)))).1) ?_
            refine XS.aload X60.here hx rfl (hb hby at_183) rfl rfl ?_
            refine XS.iloadN X60.here hx rfl (hb hby at_185) rfl ?_
            refine X60.ldcInt hx hown (mvT hZ (W 79 rfl)) (g := (mkF m 186 #[iv p1, iv p2, iv p3, iv p4, iv p5, iv p6, iv 2, .unset, rv b3, .unset, .unset] [(.int p4), (.ref b3)])) rfl (hb hby at_186) _ ?_
            show SS p e below T60 m 188 #[iv p1, iv p2, iv p3, iv p4, iv p5, iv p6, iv 2, .unset, rv b3, .unset, .unset] [(.int 2147483647), (.int p4), (.ref b3)] _
            refine XS.iand X60.here hx rfl (hb hby at_188) rfl ?_
            show SS p e below T60 m 189 #[iv p1, iv p2, iv p3, iv p4, iv p5, iv p6, iv 2, .unset, rv b3, .unset, .unset] [(.int (p4 &&& (2147483647 : Int32))), (.ref b3)] _
            refine XS.bipush X60.here hx rfl (hb hby at_189) ?_
            show SS p e below T60 m 191 #[iv p1, iv p2, iv p3, iv p4, iv p5, iv p6, iv 2, .unset, rv b3, .unset, .unset] [(.int 6), (.int (p4 &&& (2147483647 : Int32))), (.ref b3)] _
            refine iremM (g := (mkF m 191 #[iv p1, iv p2, iv p3, iv p4, iv p5, iv p6, iv 2, .unset, rv b3, .unset, .unset] [(.int 6), (.int (p4 &&& (2147483647 : Int32))), (.ref b3)])) X60 hx rfl (hb hby at_191) rfl (by decide : ¬ ((6 : Int32) = (0 : Int32))) ?_
            rw [qq]
            show SS p e below T60 m 192 #[iv p1, iv p2, iv p3, iv p4, iv p5, iv p6, iv 2, .unset, rv b3, .unset, .unset] [(.int 4), (.ref b3)] _
            refine XS.iload X60.here hx rfl (hb hby at_192) rfl ?_
            refine XS.sipush X60.here hx rfl (hb hby at_194) ?_
            show SS p e below T60 m 197 #[iv p1, iv p2, iv p3, iv p4, iv p5, iv p6, iv 2, .unset, rv b3, .unset, .unset] [(.int 255), (.int p5), (.int 4), (.ref b3)] _
            refine XS.iand X60.here hx rfl (hb hby at_197) rfl ?_
            show SS p e below T60 m 198 #[iv p1, iv p2, iv p3, iv p4, iv p5, iv p6, iv 2, .unset, rv b3, .unset, .unset] [(.int (p5 &&& (255 : Int32))), (.int 4), (.ref b3)] _
            refine XS.i2c X60.here hx rfl (hb hby at_198) rfl ?_
            rw [(i2c_mask p5)]
            show SS p e below T60 m 199 #[iv p1, iv p2, iv p3, iv p4, iv p5, iv p6, iv 2, .unset, rv b3, .unset, .unset] [(.int (p5 &&& (255 : Int32))), (.int 4), (.ref b3)] _
            refine st71 _ ?_
            exact qt
          · obtain ⟨c70, A70, q70, S70, N70, H70, G70⟩ := id v67
            have i71 : NB 5 c70 := inb_of S70 (by decide)
            obtain ⟨T71, h71, X71, e71, W71, st71⟩ := stC X60 hx hZ e60 A70 (j := 5) i71 (g := (mkF m 199 #[iv p1, iv p2, iv p3, iv p4, iv p5, iv p6, iv 2, .unset, rv b3, .unset, .unset] [(.int (p5 &&& (255 : Int32))), (.int 5), (.ref b3)])) rfl rfl (hb hby at_199)
            rw [(show nar .char (p5 &&& (255 : Int32)) = (p5 &&& (255 : Int32)) from (own_char _ (own_c255 p5).1 (own_c255 p5).2).1)] at W71
            have f72 := (f61.wr W60)
            have s73 := Safe.exa (EL := consts_1) hZ.alike f72 (by decide) (by decide)
            have c74 := CHr.wr W71 s73 c63.1
            have C75 := CHr.trans (CHr.refl c63.1) c74
            have O76 := O65.wr W71 g14
            have K77 : Keep h60 h71 [b3] := Keep.wr (Keep.refl h60 [b3]) W71 (Or.inl (List.mem_of_getElem? (i := 0) rfl))
            have v78 : Arv Z h71 b3 k3 .char 6 [(.int 115), (.int 101), (.int 114), (.int 118), (.int 101), (.int (p5 &&& (255 : Int32)))] (.int 0) := Arv.set A70 q70 S70 N70 H70 G70 (own_fput (by simp) (show nar .char (p5 &&& (255 : Int32)) = (p5 &&& (255 : Int32)) from (own_char _ (own_c255 p5).1 (own_c255 p5).2).1)) W71 5 rfl (Nat.le_of_ble_eq_true rfl)
            have N79 := Fr.snoc X71 N68 g14
            refine ⟨(115 : Int32), (101 : Int32), (114 : Int32), (118 : Int32), (101 : Int32), (p5 &&& (255 : Int32)), T71, h71, s.vm, _, _, X71.more (by decide) (by decide), e71, N79, K77, ((State.WarmedH.refl s).since 0), (Nat.zero_le _), hZ, hown, C75, v78, fun qq' => absurd (qq'.1) (by decide), fun qq' => qc (qq'.2.2.2.2.2), (by decide), (by decide), (by decide), (by decide), (by decide), own_c255 p5, fun t qt => ?_⟩
            show SS p e below T60 m 173 #[iv p1, iv p2, iv p3, iv p4, iv p5, iv p6, iv 2, .unset, rv b3, .unset, .unset] [] _
            refine XS.iload X60.here hx rfl (hb hby at_173) rfl ?_
            refine XS.bipush X60.here hx rfl (hb hby at_175) ?_
            show SS p e below T60 m 177 #[iv p1, iv p2, iv p3, iv p4, iv p5, iv p6, iv 2, .unset, rv b3, .unset, .unset] [(.int 8), (.int p5)] _
            refine XS.iushr X60.here hx rfl (hb hby at_177) rfl ?_
            show SS p e below T60 m 178 #[iv p1, iv p2, iv p3, iv p4, iv p5, iv p6, iv 2, .unset, rv b3, .unset, .unset] [(.int (us8 p5))] _
            refine XS.iconst X60.here hx rfl (hb hby at_178) ?_
            show SS p e below T60 m 179 #[iv p1, iv p2, iv p3, iv p4, iv p5, iv p6, iv 2, .unset, rv b3, .unset, .unset] [(.int 1), (.int (us8 p5))] _
            refine XS.iand X60.here hx rfl (hb hby at_179) rfl ?_
            rw [qb]
            show SS p e below T60 m 180 #[iv p1, iv p2, iv p3, iv p4, iv p5, iv p6, iv 2, .unset, rv b3, .unset, .unset] [(.int 1)] _
            refine XS.ifNo X60.here hx rfl (hb hby at_180) rfl ((if0 _ _).trans (feq (by decide : ¬ ((1 : Int32) = (0 : Int32)))).1) ?_
            refine XS.aload X60.here hx rfl (hb hby at_183) rfl rfl ?_
            refine XS.iloadN X60.here hx rfl (hb hby at_185) rfl ?_
            refine X60.ldcInt hx hown (mvT hZ (W 79 rfl)) (g := (mkF m 186 #[iv p1, iv p2, iv p3, iv p4, iv p5, iv p6, iv 2, .unset, rv b3, .unset, .unset] [(.int p4), (.ref b3)])) rfl (hb hby at_186) _ ?_
            show SS p e below T60 m 188 #[iv p1, iv p2, iv p3, iv p4, iv p5, iv p6, iv 2, .unset, rv b3, .unset, .unset] [(.int 2147483647), (.int p4), (.ref b3)] _
            refine XS.iand X60.here hx rfl (hb hby at_188) rfl ?_
            show SS p e below T60 m 189 #[iv p1, iv p2, iv p3, iv p4, iv p5, iv p6, iv 2, .unset, rv b3, .unset, .unset] [(.int (p4 &&& (2147483647 : Int32))), (.ref b3)] _
            refine XS.bipush X60.here hx rfl (hb hby at_189) ?_
            show SS p e below T60 m 191 #[iv p1, iv p2, iv p3, iv p4, iv p5, iv p6, iv 2, .unset, rv b3, .unset, .unset] [(.int 6), (.int (p4 &&& (2147483647 : Int32))), (.ref b3)] _
            refine iremM (g := (mkF m 191 #[iv p1, iv p2, iv p3, iv p4, iv p5, iv p6, iv 2, .unset, rv b3, .unset, .unset] [(.int 6), (.int (p4 &&& (2147483647 : Int32))), (.ref b3)])) X60 hx rfl (hb hby at_191) rfl (by decide : ¬ ((6 : Int32) = (0 : Int32))) ?_
            rw [qq]
            show SS p e below T60 m 192 #[iv p1, iv p2, iv p3, iv p4, iv p5, iv p6, iv 2, .unset, rv b3, .unset, .unset] [(.int 5), (.ref b3)] _
            refine XS.iload X60.here hx rfl (hb hby at_192) rfl ?_
            refine XS.sipush X60.here hx rfl (hb hby at_194) ?_
            show SS p e below T60 m 197 #[iv p1, iv p2, iv p3, iv p4, iv p5, iv p6, iv 2, .unset, rv b3, .unset, .unset] [(.int 255), (.int p5), (.int 5), (.ref b3)] _
            refine XS.iand X60.here hx rfl (hb hby at_197) rfl ?_
            show SS p e below T60 m 198 #[iv p1, iv p2, iv p3, iv p4, iv p5, iv p6, iv 2, .unset, rv b3, .unset, .unset] [(.int (p5 &&& (255 : Int32))), (.int 5), (.ref b3)] _
            refine XS.i2c X60.here hx rfl (hb hby at_198) rfl ?_
            rw [(i2c_mask p5)]
            show SS p e below T60 m 199 #[iv p1, iv p2, iv p3, iv p4, iv p5, iv p6, iv 2, .unset, rv b3, .unset, .unset] [(.int (p5 &&& (255 : Int32))), (.int 5), (.ref b3)] _
            refine st71 _ ?_
            exact qt
        have C70 := CHr.trans C64 c69
        have O71 := O65.keep K69 (allS g14 all0)
        have K72 : Keep h0 h69 [] := Keep.trans K66 K69 (allS (Or.inr (Nat.le_of_eq g3.symm)) all0)
        obtain ⟨T80, h80, X80, e80, E80, A80, D80, -, st80⟩ := newO X69 hx hZ69 hown69 (W 4 rfl) (W 5 rfl) (W 6 rfl) e69 (g := (mkF m 200 #[iv p1, iv p2, iv p3, iv p4, iv p5, iv p6, iv 2, .unset, rv b3, .unset, .unset] [])) rfl (hb hby at_200) (by decide) (by decide)
        obtain ⟨b80, g80⟩ : ∃ z, z = h69.size := ⟨_, rfl⟩
        rw [← g80] at A80 D80 st80
        have c81 := CHr.ext E80 c69.1
        have C82 := CHr.trans C70 c81
        have O83 := O71.ext E80
        have K84 : Keep h0 h80 [] := Keep.ext K72 E80
        have f86 := (J69_0.ext E80)
        have z87 : h3.size ≤ h10.size := (Nat.le_of_eq W10.size.symm)
        have z88 : h3.size ≤ h20.size := (Nat.le_trans z87 (Nat.le_of_eq W20.size.symm))
        have z89 : h3.size ≤ h30.size := (Nat.le_trans z88 (Nat.le_of_eq W30.size.symm))
        have z90 : h3.size ≤ h40.size := (Nat.le_trans z89 (Nat.le_of_eq W40.size.symm))
        have z91 : h3.size ≤ h50.size := (Nat.le_trans z90 (Nat.le_of_eq W50.size.symm))
        have z92 : h3.size ≤ h60.size := (Nat.le_trans z91 (Nat.le_of_eq W60.size.symm))
        have z93 : h3.size ≤ h69.size := (Nat.le_trans z92 K69.1)
        have z94 : h3.size ≤ h80.size := (Nat.le_trans z93 E80.1)
        have z95 : h0.size ≤ h3.size := E3.1
        have z96 : h0.size ≤ h10.size := (Nat.le_trans z95 (Nat.le_of_eq W10.size.symm))
        have z97 : h0.size ≤ h20.size := (Nat.le_trans z96 (Nat.le_of_eq W20.size.symm))
        have z98 : h0.size ≤ h30.size := (Nat.le_trans z97 (Nat.le_of_eq W30.size.symm))
        have z99 : h0.size ≤ h40.size := (Nat.le_trans z98 (Nat.le_of_eq W40.size.symm))
        have z100 : h0.size ≤ h50.size := (Nat.le_trans z99 (Nat.le_of_eq W50.size.symm))
        have z101 : h0.size ≤ h60.size := (Nat.le_trans z100 (Nat.le_of_eq W60.size.symm))
        have z102 : h0.size ≤ h69.size := (Nat.le_trans z101 K69.1)
        have g103 : n0 ≤ b80 := Nat.le_trans (Nat.le_trans (Nat.le_trans (Nat.le_of_eq O0.1.symm) O0.2.1) z102) (Nat.le_of_eq g80.symm)
        obtain ⟨_, T85, L85, X85, hQ85, st85⟩ := own_cp X80 hx hZ69 hown69 hml rfl (W 8 rfl) (W 9 rfl) (W 6 rfl) (W 10 rfl) (rm14_init l Z a0 hw b80 b3 k3 i69_0 i69_1 i69_2 i69_3 i69_4 i69_5 o_COMPACT_STRINGS h80 n0 O83 (f86) (S_o_COMPACT_STRINGS) (nz_o_COMPACT_STRINGS) (hi0.1) (hi1.1) (hi2.1) (hi3.1) (hi4.1) (hi5.1) (A80) ((D80 (Or.inr (W 31 rfl)) (ty := .byte) (by decide) : FA11 Z h80 b80 (.int 0))) ((D80 (Or.inr (W 33 rfl)) (ty := (.array .byte)) (by decide) : FA12 Z h80 b80 .null)) ((Nat.lt_of_lt_of_le A3.lt z94)) (g103) (A80.lt)) e80 (hb hby at_206) 1 #[iv p1, iv p2, iv p3, iv p4, iv p5, iv p6, iv 2, .unset, rv b3, .unset, .unset] b80 [(.ref b3)] [(.ref b80)] pd_231
        obtain ⟨b85_0, k85_0, rfl, N85q, K85, gb85_0, F85_0, F85_1, F85_2, F85_3⟩ := hQ85
        have N104 := Fr.app N69 N85q
        have f105 := (Safe.ext E80 c69.1 (Safe.new (Nat.le_of_eq g80.symm)))
        have c106 := CHr.keep K85 (sfS f105 sf0) c81.1
        have C107 := CHr.trans C82 c106
        have O108 := O83.keep K85 (allS g103 all0)
        have K109 : Keep h0 T85.heap [] := Keep.trans K84 K85 (allS (Or.inr (Nat.le_trans z102 (Nat.le_of_eq g80.symm))) all0)
        have f110 := (A80.keep K85)
        have z111 : h69.size ≤ h80.size := E80.1
        have z112 : h69.size ≤ T85.heap.size := (Nat.le_trans z111 K85.1)
        refine ⟨(2 : Int32), b80, b85_0, k85_0, (6 : Int32), [(.int (i69_0.toInt8.toInt32)), (.int (i69_1.toInt8.toInt32)), (.int (i69_2.toInt8.toInt32)), (.int (i69_3.toInt8.toInt32)), (.int (i69_4.toInt8.toInt32)), (.int (i69_5.toInt8.toInt32))], (rv b3), T85, T85.heap, vm69, _, _, X85.more (by decide) (by decide), rfl, N104, K109, hS69, (Nat.le_trans hk69 z112), hZ69, hown69, C107, (Nat.le_trans z102 (Nat.le_of_eq g80.symm)), f110, F85_2, F85_0, F85_3, (Or.inr ⟨_, rfl⟩), fun _ => ⟨_, _, _, _, _, _, rfl, fun qq' => hN0 ⟨((own_char _ hi0.1 hi0.2).2.symm.trans (by rw [← qq'.1]; decide)), ((own_char _ hi1.1 hi1.2).2.symm.trans (by rw [← qq'.2.1]; decide)), ((own_char _ hi2.1 hi2.2).2.symm.trans (by rw [← qq'.2.2.1]; decide)), ((own_char _ hi3.1 hi3.2).2.symm.trans (by rw [← qq'.2.2.2.1]; decide)), ((own_char _ hi4.1 hi4.2).2.symm.trans (by rw [← qq'.2.2.2.2.1]; decide)), ((own_char _ hi5.1 hi5.2).2.symm.trans (by rw [← qq'.2.2.2.2.2]; decide))⟩⟩, fun _ => ⟨_, _, _, _, _, _, rfl, fun qq' => hN1 ⟨((own_char _ hi0.1 hi0.2).2.symm.trans (by rw [← qq'.1]; decide)), ((own_char _ hi1.1 hi1.2).2.symm.trans (by rw [← qq'.2.1]; decide)), ((own_char _ hi2.1 hi2.2).2.symm.trans (by rw [← qq'.2.2.1]; decide)), ((own_char _ hi3.1 hi3.2).2.symm.trans (by rw [← qq'.2.2.2.1]; decide)), ((own_char _ hi4.1 hi4.2).2.symm.trans (by rw [← qq'.2.2.2.2.1]; decide)), ((own_char _ hi5.1 hi5.2).2.symm.trans (by rw [← qq'.2.2.2.2.2]; decide))⟩⟩, fun t qt => ?_⟩
        show SS p e below s₁ m 0 #[iv p1, iv p2, iv p3, iv p4, iv p5, iv p6, .unset, .unset, .unset, .unset, .unset] [] _
        refine XS.iloadN X1.here hx rfl (hb hby at_0) rfl ?_
        refine XS.iconst X1.here hx rfl (hb hby at_1) ?_
        show SS p e below s₁ m 2 #[iv p1, iv p2, iv p3, iv p4, iv p5, iv p6, .unset, .unset, .unset, .unset, .unset] [(.int 3), (.int p1)] _
        refine XS.iand X1.here hx rfl (hb hby at_2) rfl ?_
        rw [qm]
        show SS p e below s₁ m 3 #[iv p1, iv p2, iv p3, iv p4, iv p5, iv p6, .unset, .unset, .unset, .unset, .unset] [(.int 2)] _
        refine XS.istore X1.here hx rfl (hb hby at_3) rfl (l' := #[iv p1, iv p2, iv p3, iv p4, iv p5, iv p6, iv 2, .unset, .unset, .unset, .unset]) rfl ?_
        refine XS.iload X1.here hx rfl (hb hby at_5) rfl ?_
        refine XS.iconst X1.here hx rfl (hb hby at_7) ?_
        refine XS.icmpYes X1.here hx rfl (pc0 := 8) (pc' := 17) rfl (hb hby at_8) rfl (feq (by decide : ¬ ((2 : Int32) = (3 : Int32)))).2 (by decide) (by decide) ?_
        refine XS.iload X1.here hx rfl (hb hby at_17) rfl ?_
        refine XS.ifYes X1.here hx rfl (pc0 := 19) (pc' := 92) rfl (hb hby at_19) rfl ((if0 _ _).trans (feq (by decide : ¬ ((2 : Int32) = (0 : Int32)))).2) (by decide) (by decide) ?_
        refine XS.iload X1.here hx rfl (hb hby at_92) rfl ?_
        refine XS.iconst X1.here hx rfl (hb hby at_94) ?_
        refine XS.icmpYes X1.here hx rfl (pc0 := 95) (pc' := 137) rfl (hb hby at_95) rfl (feq (by decide : ¬ ((2 : Int32) = (1 : Int32)))).2 (by decide) (by decide) ?_
        refine XS.bipush X1.here hx rfl (hb hby at_137) ?_
        show SS p e below s₁ m 139 #[iv p1, iv p2, iv p3, iv p4, iv p5, iv p6, iv 2, .unset, .unset, .unset, .unset] [(.int 6)] _
        refine st3 _ ?_
        refine XS.dup X3.here hx rfl (hb hby at_141) rfl rfl ?_
        refine XS.iconst X3.here hx rfl (hb hby at_142) ?_
        refine XS.bipush X3.here hx rfl (hb hby at_143) ?_
        refine st10 _ ?_
        refine XS.dup X10.here hx rfl (hb hby at_146) rfl rfl ?_
        refine XS.iconst X10.here hx rfl (hb hby at_147) ?_
        refine XS.bipush X10.here hx rfl (hb hby at_148) ?_
        refine st20 _ ?_
        refine XS.dup X20.here hx rfl (hb hby at_151) rfl rfl ?_
        show SS p e below T20 m 152 #[iv p1, iv p2, iv p3, iv p4, iv p5, iv p6, iv 2, .unset, .unset, .unset, .unset] [(.ref b3), (.ref b3)] _
        refine XS.iconst X20.here hx rfl (hb hby at_152) ?_
        refine XS.bipush X20.here hx rfl (hb hby at_153) ?_
        refine st30 _ ?_
        refine XS.dup X30.here hx rfl (hb hby at_156) rfl rfl ?_
        refine XS.iconst X30.here hx rfl (hb hby at_157) ?_
        refine XS.bipush X30.here hx rfl (hb hby at_158) ?_
        refine st40 _ ?_
        refine XS.dup X40.here hx rfl (hb hby at_161) rfl rfl ?_
        refine XS.iconst X40.here hx rfl (hb hby at_162) ?_
        refine XS.bipush X40.here hx rfl (hb hby at_163) ?_
        show SS p e below T40 m 165 #[iv p1, iv p2, iv p3, iv p4, iv p5, iv p6, iv 2, .unset, .unset, .unset, .unset] [(.int 101), (.int 4), (.ref b3), (.ref b3)] _
        refine st50 _ ?_
        refine XS.dup X50.here hx rfl (hb hby at_166) rfl rfl ?_
        refine XS.iconst X50.here hx rfl (hb hby at_167) ?_
        refine XS.bipush X50.here hx rfl (hb hby at_168) ?_
        refine st60 _ ?_
        refine XS.astore X60.here hx rfl (hb hby at_171) rfl rfl (l' := #[iv p1, iv p2, iv p3, iv p4, iv p5, iv p6, iv 2, .unset, rv b3, .unset, .unset]) rfl ?_
        refine st69 _ ?_
        show SS p e below T69 m 200 #[iv p1, iv p2, iv p3, iv p4, iv p5, iv p6, iv 2, .unset, rv b3, .unset, .unset] [] _
        refine st80 _ ?_
        refine XS.dup X80.here hx rfl (hb hby at_203) rfl rfl ?_
        refine XS.aload X80.here hx rfl (hb hby at_204) rfl rfl ?_
        refine st85 _ ?_
        refine XS.astore X85.here hx rfl (hb hby at_209) rfl rfl (l' := #[iv p1, iv p2, iv p3, iv p4, iv p5, iv p6, iv 2, rv b80, rv b3, .unset, .unset]) rfl ?_
        exact qt
    have C3 := CHr.trans C0 c2
    have O4 := O0.keep K2 all0
    have K5 : Keep h0 h2 [] := Keep.trans (Keep.refl h0 []) K2 all0
    obtain ⟨b113, T113, h113, k113, b113v, kc113, X113, e113, E113, hS113, hk113, hZ113, hown113, Le113, Lc113, Lv113, La113, Lx113, Lb113, c113, -, Ln113, st113⟩ := ldcCH (s := s) (vm0 := vm2) (EL := consts_1) X2 hx hZ2 hown2 (W 34 rfl) (own_str_236 hw) e2 hS2 hk2 (own_ew_237 hw) (List.mem_of_getElem? (i := 0) rfl) c2.1 (vs := [(.int 99), (.int 108), (.int 105), (.int 101), (.int 110), (.int 116)]) (z := (6 : Int32)) ⟨by decide, by decide⟩ (by decide) rfl (g := (mkF m 224 #[iv p1, iv p2, iv p3, iv p4, iv p5, iv p6, iv i2_0, rv r2_1, sl2_6, .unset, .unset] [(.ref r2_1)])) rfl (hb hby at_224) (n := 24) (by decide) (by decide) (by decide) (by decide)
    have C114 := CHr.trans C3 c113
    have O115 := O4.ext E113
    have K116 : Keep h0 h113 [] := Keep.ext K5 E113
    have f118 := (J2_1.ext E113)
    have f119 := (J2_2.ext E113)
    have f120 := (J2_4.ext E113)
    have f121 := (J2_3.ext E113)
    obtain ⟨_, T117, L117, X117, hQ117, st117⟩ := own_cv X113 hx hZ113 hown113 hml (W 37 rfl) (W 38 rfl) (notFace_of_selects (W 40 rfl)) (W 40 rfl) (W 39 rfl) (W 6 rfl) (W 41 rfl) (own_neC2 l Z a0 hw r2_1 b113 r2_2 b113v k2_3 kc113 (99 : Int32) (108 : Int32) (105 : Int32) (101 : Int32) (110 : Int32) (116 : Int32) i2_4 vs2_5 o_COMPACT_STRINGS h113 n0 O115 (f118) (f119) (f120) (f121) (Le113) (Lc113) (Lv113) (La113) (hPc) (S_o_COMPACT_STRINGS) (nz_o_COMPACT_STRINGS)) e113 f118 (hb hby at_226) 0 #[iv p1, iv p2, iv p3, iv p4, iv p5, iv p6, iv i2_0, rv r2_1, sl2_6, .unset, .unset] [(.ref b113)] [] pd_79
    obtain ⟨rfl, N117q, K117⟩ := hQ117
    have N122 := Fr.app N2 N117q
    obtain ⟨b123, T123, h123, k123, b123v, kc123, X123, e123, E123, hS123, hk123, hZ123, hown123, Le123, Lc123, Lv123, La123, Lx123, Lb123, c123, -, Ln123, st123⟩ := ldcCH (s := s) (vm0 := T113.vm) (EL := consts_1) X117 hx hZ113 hown113 (W 47 rfl) (own_str_236 hw) K117 hS113 hk113 (own_ew_237 hw) (List.mem_of_getElem? (i := 1) rfl) c113.1 (vs := [(.int 115), (.int 101), (.int 114), (.int 118), (.int 101), (.int 114)]) (z := (6 : Int32)) ⟨by decide, by decide⟩ (by decide) rfl (g := (mkF m 242 #[iv p1, iv p2, iv p3, iv p4, iv p5, iv p6, iv i2_0, rv r2_1, sl2_6, .unset, .unset] [(.ref r2_1)])) rfl (hb hby at_242) (n := 24) (by decide) (by decide) (by decide) (by decide)
    have C124 := CHr.trans C114 c123
    have O125 := O115.ext E123
    have K126 : Keep h0 h123 [] := Keep.ext K116 E123
    have f128 := (f118.ext E123)
    have f129 := (f119.ext E123)
    have f130 := (f120.ext E123)
    have f131 := (f121.ext E123)
    obtain ⟨_, T127, L127, X127, hQ127, st127⟩ := own_cv X123 hx hZ123 hown123 hml (W 37 rfl) (W 38 rfl) (notFace_of_selects (W 40 rfl)) (W 40 rfl) (W 39 rfl) (W 6 rfl) (W 41 rfl) (own_neC2 l Z a0 hw r2_1 b123 r2_2 b123v k2_3 kc123 (115 : Int32) (101 : Int32) (114 : Int32) (118 : Int32) (101 : Int32) (114 : Int32) i2_4 vs2_5 o_COMPACT_STRINGS h123 n0 O125 (f128) (f129) (f130) (f131) (Le123) (Lc123) (Lv123) (La123) (hPs) (S_o_COMPACT_STRINGS) (nz_o_COMPACT_STRINGS)) e123 f128 (hb hby at_244) 0 #[iv p1, iv p2, iv p3, iv p4, iv p5, iv p6, iv i2_0, rv r2_1, sl2_6, .unset, .unset] [(.ref b123)] [] pd_79
    obtain ⟨rfl, N127q, K127⟩ := hQ127
    have N132 := Fr.app N122 N127q
    obtain ⟨_, T133, L133, X133, hQ133, st133⟩ := own_cs X127 hx hZ123 hown123 hml (W 48 rfl) (W 49 rfl) (W 50 rfl) (W 51 rfl) (rm65_ofLabel l Z a0 hw r2_1 o__VALUES k_o__VALUES o_CLIENT o_SERVER o_CLIENT_label o_CLIENT_label_value k_o_CLIENT_label_value r2_2 k2_3 i2_4 vs2_5 o_COMPACT_STRINGS o_SERVER_label o_SERVER_label_value k_o_SERVER_label_value h123 n0 O125 (S_o__VALUES) (A_o__VALUES) (E_o__VALUES) (F_o_CLIENT_label) (E_o_CLIENT_label) (F_o_CLIENT_label_coder) (F_o_CLIENT_label_value) (A_o_CLIENT_label_value) (f128) (f129) (f130) (f131) (S_o_COMPACT_STRINGS) (hPc) (nz_o_COMPACT_STRINGS) (F_o_SERVER_label) (E_o_SERVER_label) (F_o_SERVER_label_coder) (F_o_SERVER_label_value) (A_o_SERVER_label_value) (hPs)) K127 (hb hby at_263) 0 #[iv p1, iv p2, iv p3, iv p4, iv p5, iv p6, iv i2_0, rv r2_1, .val .null, .unset, .unset] [(.ref r2_1)] [] pd_86
    obtain ⟨rfl, N133q, K133⟩ := hQ133
    have N134 := Fr.app N132 N133q
    have c135 := CHr.keep K133 sf0 c123.1
    have C136 := CHr.trans C124 c135
    have O137 := O125.keep K133 all0
    have K138 : Keep h0 T133.heap [] := Keep.trans K126 K133 all0
    obtain ⟨T139, X139, e139, st139⟩ := getS2 X133 hx hZ123 hown123 (host := "") (Or.inl (W 72 rfl)) Via.refl rfl (S_o_CLIENT.ext O137.2) (g := (mkF m 278 #[iv p1, iv p2, iv p3, iv p4, iv p5, iv p6, iv i2_0, rv r2_1, .val .null, iv 1, .unset] [])) rfl (hb hby at_278)
    obtain ⟨_, T140, L140, X140, hQ140, st140⟩ := own_cv X139 hx hZ123 hown123 hml (W 73 rfl) (W 74 rfl) (notFace_of_selects (W 76 rfl)) (W 76 rfl) (W 75 rfl) (W 50 rfl) (W 77 rfl) (rm4_label l Z a0 hw o_CLIENT o_CLIENT_label T133.heap n0 O137 (F_o_CLIENT_label)) e139 (E_o_CLIENT.ext O137.2) (hb hby at_281) 0 #[iv p1, iv p2, iv p3, iv p4, iv p5, iv p6, iv i2_0, rv r2_1, .val .null, iv 1, .unset] [] [] pd_91
    obtain ⟨rfl, N140q, K140⟩ := hQ140
    have N141 := Fr.app N134 N140q
    obtain ⟨_, T142, L142, X142, hQ142, st142⟩ := own_cs X140 hx hZ123 hown123 hml (W 48 rfl) (W 49 rfl) (W 50 rfl) (W 51 rfl) (rm6_ofLabel l Z a0 hw o_CLIENT_label o__VALUES k_o__VALUES o_CLIENT o_SERVER T133.heap n0 O137 (S_o__VALUES) (A_o__VALUES) (E_o__VALUES) (F_o_CLIENT_label) (E_o_CLIENT_label)) K140 (hb hby at_284) 0 #[iv p1, iv p2, iv p3, iv p4, iv p5, iv p6, iv i2_0, rv r2_1, .val .null, iv 1, .unset] [(.ref o_CLIENT_label)] [] pd_86
    obtain ⟨rfl, N142q, K142⟩ := hQ142
    have N143 := Fr.app N141 N142q
    have c144 := CHr.keep K142 sf0 c135.1
    have C145 := CHr.trans C136 c144
    have O146 := O137.keep K142 all0
    have K147 : Keep h0 T142.heap [] := Keep.trans K138 K142 all0
    obtain ⟨T148, X148, e148, st148⟩ := getS2 X142 hx hZ123 hown123 (host := "") (Or.inl (W 72 rfl)) Via.refl rfl (S_o_CLIENT.ext O146.2) (g := (mkF m 287 #[iv p1, iv p2, iv p3, iv p4, iv p5, iv p6, iv i2_0, rv r2_1, .val .null, iv 1, .unset] [(.ref o_CLIENT)])) rfl (hb hby at_287)
    obtain ⟨T149, X149, e149, st149⟩ := getS2 X148 hx hZ123 hown123 (host := "") (Or.inl (W 78 rfl)) Via.refl e148 (S_o_SERVER.ext O146.2) (g := (mkF m 293 #[iv p1, iv p2, iv p3, iv p4, iv p5, iv p6, iv i2_0, rv r2_1, .val .null, iv 1, .unset] [])) rfl (hb hby at_293)
    obtain ⟨_, T150, L150, X150, hQ150, st150⟩ := own_cv X149 hx hZ123 hown123 hml (W 73 rfl) (W 74 rfl) (notFace_of_selects (W 76 rfl)) (W 76 rfl) (W 75 rfl) (W 50 rfl) (W 77 rfl) (rm4_label l Z a0 hw o_SERVER o_SERVER_label T142.heap n0 O146 (F_o_SERVER_label)) e149 (E_o_SERVER.ext O146.2) (hb hby at_296) 0 #[iv p1, iv p2, iv p3, iv p4, iv p5, iv p6, iv i2_0, rv r2_1, .val .null, iv 1, .unset] [] [] pd_91
    obtain ⟨rfl, N150q, K150⟩ := hQ150
    have N151 := Fr.app N143 N150q
    obtain ⟨_, T152, L152, X152, hQ152, st152⟩ := own_cs X150 hx hZ123 hown123 hml (W 48 rfl) (W 49 rfl) (W 50 rfl) (W 51 rfl) (rm9_ofLabel l Z a0 hw o_SERVER_label o__VALUES k_o__VALUES o_CLIENT o_SERVER o_CLIENT_label o_CLIENT_label_value k_o_CLIENT_label_value o_SERVER_label_value k_o_SERVER_label_value o_COMPACT_STRINGS T142.heap n0 O146 (S_o__VALUES) (A_o__VALUES) (E_o__VALUES) (F_o_CLIENT_label) (E_o_CLIENT_label) (F_o_CLIENT_label_coder) (F_o_CLIENT_label_value) (A_o_CLIENT_label_value) (E_o_SERVER_label) (F_o_SERVER_label_coder) (F_o_SERVER_label_value) (A_o_SERVER_label_value) (S_o_COMPACT_STRINGS) (nz_o_COMPACT_STRINGS) (ne_o_CLIENT_label_o_SERVER_label) (F_o_SERVER_label)) K150 (hb hby at_299) 0 #[iv p1, iv p2, iv p3, iv p4, iv p5, iv p6, iv i2_0, rv r2_1, .val .null, iv 1, .unset] [(.ref o_SERVER_label)] [] pd_86
    obtain ⟨rfl, N152q, K152⟩ := hQ152
    have N153 := Fr.app N151 N152q
    have c154 := CHr.keep K152 sf0 c144.1
    have C155 := CHr.trans C145 c154
    have O156 := O146.keep K152 all0
    have K157 : Keep h0 T152.heap [] := Keep.trans K147 K152 all0
    obtain ⟨T158, X158, e158, st158⟩ := getS2 X152 hx hZ123 hown123 (host := "") (Or.inl (W 78 rfl)) Via.refl rfl (S_o_SERVER.ext O156.2) (g := (mkF m 302 #[iv p1, iv p2, iv p3, iv p4, iv p5, iv p6, iv i2_0, rv r2_1, .val .null, iv 1, .unset] [(.ref o_SERVER)])) rfl (hb hby at_302)
    have z159 : h123.size ≤ T133.heap.size := K133.1
    have z160 : h123.size ≤ T142.heap.size := (Nat.le_trans z159 K142.1)
    have z161 : h123.size ≤ T152.heap.size := (Nat.le_trans z160 K152.1)
    refine ⟨T158, some (.int 1), _, _, _, T123.vm, _, X158, hS123, (by rw [e158]; exact (Nat.le_trans hk123 z161)), by decide, by decide, nofun, ?_, own_che e158 (CHr.trans C155 (CHv.at (s := s) X158 hZ123 (own_ew_237 hw) c154.1)), fun fs hr => castTop (ef_413 m p1 p2 p3 p4 p5 p6) ?_⟩
    · exact ⟨rfl, N153⟩
    · refine st2 _ ?_
      show SS p e below T2 m 211 #[iv p1, iv p2, iv p3, iv p4, iv p5, iv p6, iv i2_0, rv r2_1, sl2_6, .unset, .unset] [] _
      refine XS.aload X2.here hx rfl (hb hby at_211) rfl rfl ?_
      refine XS.ifnonnullYes X2.here hx rfl (pc0 := 213) (pc' := 222) rfl (hb hby at_213) rfl (by decide) (by decide) ?_
      refine XS.aload X2.here hx rfl (hb hby at_222) rfl rfl ?_
      refine st113 _ ?_
      refine st117 _ ?_
      refine XS.ifYes X117.here hx rfl (pc0 := 229) (pc' := 240) rfl (hb hby at_229) rfl ((if0 _ _).trans (teq (by decide : (0 : Int32) = (0 : Int32))).1) (by decide) (by decide) ?_
      refine XS.aload X117.here hx rfl (hb hby at_240) rfl rfl ?_
      refine st123 _ ?_
      refine st127 _ ?_
      refine XS.ifYes X127.here hx rfl (pc0 := 247) (pc' := 258) rfl (hb hby at_247) rfl ((if0 _ _).trans (teq (by decide : (0 : Int32) = (0 : Int32))).1) (by decide) (by decide) ?_
      show SS p e below T127 m 258 #[iv p1, iv p2, iv p3, iv p4, iv p5, iv p6, iv i2_0, rv r2_1, sl2_6, .unset, .unset] [] _
      refine XS.aconstNull X127.here hx rfl (hb hby at_258) ?_
      refine XS.astore X127.here hx rfl (hb hby at_259) rfl rfl (l' := #[iv p1, iv p2, iv p3, iv p4, iv p5, iv p6, iv i2_0, rv r2_1, .val .null, .unset, .unset]) (by rcases J2_5 with q | ⟨_, q⟩ <;> subst q <;> rfl) ?_
      refine XS.aload X127.here hx rfl (hb hby at_261) rfl rfl ?_
      refine st133 _ ?_
      refine XS.aload X133.here hx rfl (hb hby at_266) rfl rfl ?_
      refine Jvm.RoadKit.acmp (g := (mkF m 268 #[iv p1, iv p2, iv p3, iv p4, iv p5, iv p6, iv i2_0, rv r2_1, .val .null, .unset, .unset] [.null, .null])) X133 hx rfl rfl rfl (pc0 := 268) (pc' := 271) (same := true) rfl (hb hby at_268) rfl (decide_eq_true rfl) (by decide) (by decide) ?_
      refine XS.iconst X133.here hx rfl (hb hby at_271) ?_
      refine XS.goto X133.here hx rfl (pc0 := 272) (pc' := 276) rfl (hb hby at_272) (by decide) (by decide) ?_
      refine XS.istore X133.here hx rfl (hb hby at_276) rfl (l' := #[iv p1, iv p2, iv p3, iv p4, iv p5, iv p6, iv i2_0, rv r2_1, .val .null, iv 1, .unset]) rfl ?_
      refine st139 _ ?_
      show SS p e below T139 m 281 #[iv p1, iv p2, iv p3, iv p4, iv p5, iv p6, iv i2_0, rv r2_1, .val .null, iv 1, .unset] [(.ref o_CLIENT)] _
      refine st140 _ ?_
      refine st142 _ ?_
      refine st148 _ ?_
      refine Jvm.RoadKit.acmp (g := (mkF m 290 #[iv p1, iv p2, iv p3, iv p4, iv p5, iv p6, iv i2_0, rv r2_1, .val .null, iv 1, .unset] [(.ref o_CLIENT), (.ref o_CLIENT)])) X148 hx rfl rfl rfl (pc0 := 290) (pc' := 293) (same := true) rfl (hb hby at_290) rfl (decide_eq_true rfl) (by decide) (by decide) ?_
      refine st149 _ ?_
      refine st150 _ ?_
      refine st152 _ ?_
      refine st158 _ ?_
      refine Jvm.RoadKit.acmp (g := (mkF m 305 #[iv p1, iv p2, iv p3, iv p4, iv p5, iv p6, iv i2_0, rv r2_1, .val .null, iv 1, .unset] [(.ref o_SERVER), (.ref o_SERVER)])) X158 hx rfl rfl rfl (pc0 := 305) (pc' := 308) (same := true) rfl (hb hby at_305) rfl (decide_eq_true rfl) (by decide) (by decide) ?_
      refine XS.iconst X158.here hx rfl (hb hby at_308) ?_
      show SS p e below T158 m 309 #[iv p1, iv p2, iv p3, iv p4, iv p5, iv p6, iv i2_0, rv r2_1, .val .null, iv 1, .unset] [(.int 1)] _
      refine XS.goto X158.here hx rfl (pc0 := 309) (pc' := 313) rfl (hb hby at_309) (by decide) (by decide) ?_
      refine XS.istore X158.here hx rfl (hb hby at_313) rfl (l' := #[iv p1, iv p2, iv p3, iv p4, iv p5, iv p6, iv i2_0, rv r2_1, .val .null, iv 1, iv 1]) rfl ?_
      refine XS.iload X158.here hx rfl (hb hby at_315) rfl ?_
      refine XS.ifNo X158.here hx rfl (hb hby at_317) rfl ((if0 _ _).trans (feq (by decide : ¬ ((1 : Int32) = (0 : Int32)))).1) ?_
      refine XS.iload X158.here hx rfl (hb hby at_320) rfl ?_
      refine XS.ifNo X158.here hx rfl (hb hby at_322) rfl ((if0 _ _).trans (feq (by decide : ¬ ((1 : Int32) = (0 : Int32)))).1) ?_
      refine XS.iconst X158.here hx rfl (hb hby at_325) ?_
      refine XS.goto X158.here hx rfl (pc0 := 326) (pc' := 330) rfl (hb hby at_326) (by decide) (by decide) ?_
      exact retN X158 hx (t := .boolean) hret (by simp) (hb hby at_330) hr
theorem comes_1 {Post : Tables → Env → Array Value → State → Outcome → State → Prop} (hpost : ∀ tb e args s v u, (limb_1_1.after args s (.returned v) u = true ∧ limb_1_2.after args s (.returned v) u = true ∧ True) → ReturnedEndW s (.returned v) u (Jvm.fieldLocs frame_1_writes args s ++ Jvm.arrayLocs frame_1_arrays args s ++ Jvm.staticLocs frame_1_statics s) 32 3200 → Post tb e args s (.returned v) u) :
    ArmFor flags0 classFile x code maxLocals ret World_1 tables_1 room_1 Calls_1 rest_1 Pre_1 Post := by
  intro l hfl _ _ p e ha hc hk s m args below hf hA hF happ hP
  obtain ⟨hcalls, hrest, hpre⟩ := hP
  obtain ⟨-, -, -, hnamed, -, -, -, hat⟩ := (Spec.applies_iff hf).mp happ
  obtain ⟨hg, hn⟩ := and_e (Cond.before_iff.mp (show (Jvm.Cond.and given_1 narrow_1).before args s = true from hpre))
  obtain ⟨hg0, hgr0⟩ := and_e hg
  obtain ⟨hg1, hgr1⟩ := and_e hgr0
  obtain ⟨hg2, hgr2⟩ := and_e hgr1
  obtain ⟨hg3, hgr3⟩ := and_e hgr2
  obtain ⟨hg4, hgr4⟩ := and_e hgr3
  obtain ⟨hg5, hg6⟩ := and_e hgr4
  obtain ⟨w0, w1, w2, w3, w4, w5, rfl⟩ : ∃ w0 w1 w2 w3 w4 w5 : Value, args = #[w0, w1, w2, w3, w4, w5] := by
    have hs : args.size = 6 := by simpa [Cond.value, given_1] using hg0
    obtain ⟨L⟩ := args
    match L, hs with
    | [w0, w1, w2, w3, w4, w5], _ => exact ⟨w0, w1, w2, w3, w4, w5, rfl⟩
  have hw := fun d (hd : d ∈ tables_1) => atoms_spec (ws := Jvm.Cond.code x code maxLocals ret :: tables_1) hat d (List.mem_cons_of_mem _ hd)
  have W := @own_W _ _ hw
  have hfit : Fit s := fun {y c} hc i hi => by
    obtain ⟨ha, rfl⟩ := Array.getElem?_eq_some_iff.mp hc
    have q := List.all_eq_true.mp ((Array.all_eq_true_iff_forall_mem.mp hF) _ (Array.getElem_mem ha)) i (List.mem_range.mpr hi)
    simpa [Array.getElem?_eq_getElem hi] using q
  obtain ⟨hsets, hown0⟩ := atoms_of _ (rest_1_c_eq ▸ (show rest_1_c.before _ s = true from hrest))
  have hr0 := Cond.before_iff.mp hown0
  obtain ⟨i0, ei0⟩ := is_v hg1
  obtain rfl : w0 = (.int i0) := Option.some.inj ei0
  obtain ⟨i1, ei1⟩ := is_v hg2
  obtain rfl : w1 = (.int i1) := Option.some.inj ei1
  obtain ⟨i2, ei2⟩ := is_v hg3
  obtain rfl : w2 = (.int i2) := Option.some.inj ei2
  obtain ⟨i3, ei3⟩ := is_v hg4
  obtain rfl : w3 = (.int i3) := Option.some.inj ei3
  obtain ⟨i4, ei4⟩ := is_v hg5
  obtain rfl : w4 = (.int i4) := Option.some.inj ei4
  obtain ⟨i5, ei5⟩ := is_v hg6
  obtain rfl : w5 = (.int i5) := Option.some.inj ei5
  obtain ⟨o_COMPACT_STRINGS, ev_o_COMPACT_STRINGS⟩ := is_v (Cond.before_iff.mp (hsets _ (List.mem_of_getElem? (i := 1) rfl)))
  have S_o_COMPACT_STRINGS := Sta.start ev_o_COMPACT_STRINGS (Or.inl (hsets _ (List.mem_of_getElem? (i := 0) rfl)))
  have nz_o_COMPACT_STRINGS : ¬ (o_COMPACT_STRINGS = (0 : Int32)) := own_neI ev_o_COMPACT_STRINGS (Cond.before_iff.mp (hsets _ (List.mem_of_getElem? (i := 2) rfl)))
  obtain ⟨o_SIOOBE_FORMATTER, ev_o_SIOOBE_FORMATTER, ir_o_SIOOBE_FORMATTER⟩ := isR_v (Cond.before_iff.mp (hsets _ (List.mem_of_getElem? (i := 8) rfl)))
  have S_o_SIOOBE_FORMATTER := Sta.start ev_o_SIOOBE_FORMATTER (Or.inl (hsets _ (List.mem_of_getElem? (i := 7) rfl)))
  obtain ⟨hn0, hr0⟩ := and_e hn
  obtain ⟨hn1, hr1⟩ := and_e hr0
  obtain ⟨hn2, hr2⟩ := and_e hr1
  obtain ⟨hn3, hr3⟩ := and_e hr2
  obtain ⟨hn4, hr4⟩ := and_e hr3
  obtain ⟨hn5, hr5⟩ := and_e hr4
  obtain ⟨hn6, hr6⟩ := and_e hr5
  obtain ⟨hn7, hr7⟩ := and_e hr6
  obtain ⟨hn8, hr8⟩ := and_e hr7
  obtain ⟨hn9, hr9⟩ := and_e hr8
  obtain ⟨hn10, hr10⟩ := and_e hr9
  obtain ⟨hn11, hr11⟩ := and_e hr10
  obtain ⟨hn12, hr12⟩ := and_e hr11
  obtain ⟨hn13, hr13⟩ := and_e hr12
  obtain ⟨hn14, hr14⟩ := and_e hr13
  obtain ⟨hn15, hr15⟩ := and_e hr14
  obtain ⟨hn16, hr16⟩ := and_e hr15
  obtain ⟨hn17, hr17⟩ := and_e hr16
  obtain ⟨hn18, hr18⟩ := and_e hr17
  obtain ⟨hn19, hr19⟩ := and_e hr18
  obtain ⟨hn20, hr20⟩ := and_e hr19
  obtain ⟨hn21, hr21⟩ := and_e hr20
  obtain ⟨hn22, hr22⟩ := and_e hr21
  obtain ⟨hn23, hr23⟩ := and_e hr22
  obtain ⟨hn24, hr24⟩ := and_e hr23
  obtain ⟨hn25, hr25⟩ := and_e hr24
  obtain ⟨hn26, hn27⟩ := and_e hr25
  obtain ⟨o__VALUES, ev_o__VALUES⟩ := arr_v hn0
  have S_o__VALUES := Sta.start ev_o__VALUES (Or.inl (W 66 rfl))
  have E_o__VALUES := Exa.start ev_o__VALUES hn1
  obtain ⟨o_CLIENT, ev_o_CLIENT⟩ := exa_v hn3
  have S_o_CLIENT := Sta.start ev_o_CLIENT (Or.inr ⟨(W 50 rfl), (W 64 rfl)⟩)
  have E_o_CLIENT := Exa.start ev_o_CLIENT hn3
  obtain ⟨o_SERVER, ev_o_SERVER⟩ := exa_v hn5
  have S_o_SERVER := Sta.start ev_o_SERVER (Or.inr ⟨(W 50 rfl), (W 65 rfl)⟩)
  have E_o_SERVER := Exa.start ev_o_SERVER hn5
  obtain ⟨o_CLIENT_label, ev_o_CLIENT_label⟩ := exa_v hn7
  have F_o_CLIENT_label := Fld.start ((fld_at ev_o_CLIENT).symm.trans ev_o_CLIENT_label)
  have E_o_CLIENT_label := Exa.start ev_o_CLIENT_label hn7
  obtain ⟨o_CLIENT_label_value, ev_o_CLIENT_label_value⟩ := arr_v hn9
  have F_o_CLIENT_label_value := Fld.start ((fld_at ev_o_CLIENT_label).symm.trans ev_o_CLIENT_label_value)
  obtain ⟨o_SERVER_label, ev_o_SERVER_label⟩ := exa_v hn11
  have F_o_SERVER_label := Fld.start ((fld_at ev_o_SERVER).symm.trans ev_o_SERVER_label)
  have E_o_SERVER_label := Exa.start ev_o_SERVER_label hn11
  obtain ⟨o_SERVER_label_value, ev_o_SERVER_label_value⟩ := arr_v hn13
  have F_o_SERVER_label_value := Fld.start ((fld_at ev_o_SERVER_label).symm.trans ev_o_SERVER_label_value)
  have F_o_CLIENT_label_coder := Fld.start ((fld_at ev_o_CLIENT_label).symm.trans (own_eqI hn8))
  have F_o_SERVER_label_coder := Fld.start ((fld_at ev_o_SERVER_label).symm.trans (own_eqI hn12))
  have ne_o_CLIENT_label_o_SERVER_label := own_neR ev_o_CLIENT_label ev_o_SERVER_label hn15
  obtain ⟨c_o__VALUES, R_o__VALUES⟩ := Arr.start ev_o__VALUES hn0
  obtain ⟨q1_o__VALUES, q2_o__VALUES⟩ := own_lenA ev_o__VALUES R_o__VALUES (own_eqI hn2)
  obtain ⟨k_o__VALUES, A_o__VALUES⟩ : ∃ k, Arv s s.heap o__VALUES k (.object "com/example/duplex/duplex/compliance/Side") (2 : Int32) [(.ref o_CLIENT), (.ref o_SERVER)] .null := ⟨_, Arv.start hfit R_o__VALUES q1_o__VALUES q2_o__VALUES (by decide) rfl ⟨own_elA ev_o__VALUES R_o__VALUES (j := 0) (by decide) (own_eqR ev_o_CLIENT hn4), own_elA ev_o__VALUES R_o__VALUES (j := 1) (by decide) (own_eqR ev_o_SERVER hn6), trivial⟩⟩
  obtain ⟨c_o_CLIENT_label_value, R_o_CLIENT_label_value⟩ := Arr.start ev_o_CLIENT_label_value hn9
  obtain ⟨q1_o_CLIENT_label_value, q2_o_CLIENT_label_value⟩ := own_lenA ev_o_CLIENT_label_value R_o_CLIENT_label_value (own_eqI hn10)
  obtain ⟨k_o_CLIENT_label_value, A_o_CLIENT_label_value⟩ : ∃ k, Arv s s.heap o_CLIENT_label_value k .byte 6 [(.int 99), (.int 108), (.int 105), (.int 101), (.int 110), (.int 116)] (.int 0) := ⟨_, Arv.start hfit R_o_CLIENT_label_value q1_o_CLIENT_label_value q2_o_CLIENT_label_value (by decide) rfl ⟨own_elA ev_o_CLIENT_label_value R_o_CLIENT_label_value (j := 0) (by decide) (own_eqI hn16), own_elA ev_o_CLIENT_label_value R_o_CLIENT_label_value (j := 1) (by decide) (own_eqI hn17), own_elA ev_o_CLIENT_label_value R_o_CLIENT_label_value (j := 2) (by decide) (own_eqI hn18), own_elA ev_o_CLIENT_label_value R_o_CLIENT_label_value (j := 3) (by decide) (own_eqI hn19), own_elA ev_o_CLIENT_label_value R_o_CLIENT_label_value (j := 4) (by decide) (own_eqI hn20), own_elA ev_o_CLIENT_label_value R_o_CLIENT_label_value (j := 5) (by decide) (own_eqI hn21), trivial⟩⟩
  obtain ⟨c_o_SERVER_label_value, R_o_SERVER_label_value⟩ := Arr.start ev_o_SERVER_label_value hn13
  obtain ⟨q1_o_SERVER_label_value, q2_o_SERVER_label_value⟩ := own_lenA ev_o_SERVER_label_value R_o_SERVER_label_value (own_eqI hn14)
  obtain ⟨k_o_SERVER_label_value, A_o_SERVER_label_value⟩ : ∃ k, Arv s s.heap o_SERVER_label_value k .byte 6 [(.int 115), (.int 101), (.int 114), (.int 118), (.int 101), (.int 114)] (.int 0) := ⟨_, Arv.start hfit R_o_SERVER_label_value q1_o_SERVER_label_value q2_o_SERVER_label_value (by decide) rfl ⟨own_elA ev_o_SERVER_label_value R_o_SERVER_label_value (j := 0) (by decide) (own_eqI hn22), own_elA ev_o_SERVER_label_value R_o_SERVER_label_value (j := 1) (by decide) (own_eqI hn23), own_elA ev_o_SERVER_label_value R_o_SERVER_label_value (j := 2) (by decide) (own_eqI hn24), own_elA ev_o_SERVER_label_value R_o_SERVER_label_value (j := 3) (by decide) (own_eqI hn25), own_elA ev_o_SERVER_label_value R_o_SERVER_label_value (j := 4) (by decide) (own_eqI hn26), own_elA ev_o_SERVER_label_value R_o_SERVER_label_value (j := 5) (by decide) (own_eqI hn27), trivial⟩⟩
  have hCH : CHv s consts_1 s.vm s.heap := CHv.start (a0 := _) (own_ew_237 hw) (fun p hp => hcalls.1 p hp) (hsets _ (List.mem_of_getElem? (i := 2) rfl)) (W 23 rfl) (W 5 rfl)
  obtain ⟨n, o, h1, h2, h3, _, L, rfl, ⟨rfl, N⟩, -, hq⟩ := rm0 l s _ hw tables_1 i0 i1 i2 i3 i4 i5 o_COMPACT_STRINGS o_SIOOBE_FORMATTER o__VALUES o_CLIENT o_SERVER o_CLIENT_label o_CLIENT_label_value o_SERVER_label o_SERVER_label_value k_o__VALUES k_o_CLIENT_label_value k_o_SERVER_label_value s.heap s.heap.size (Old.start s) S_o_COMPACT_STRINGS S_o_SIOOBE_FORMATTER S_o__VALUES E_o__VALUES S_o_CLIENT E_o_CLIENT S_o_SERVER E_o_SERVER F_o_CLIENT_label E_o_CLIENT_label F_o_CLIENT_label_value F_o_SERVER_label E_o_SERVER_label F_o_SERVER_label_value F_o_CLIENT_label_coder F_o_SERVER_label_coder A_o__VALUES A_o_CLIENT_label_value A_o_SERVER_label_value nz_o_COMPACT_STRINGS ir_o_SIOOBE_FORMATTER ne_o_CLIENT_label_o_SERVER_label p e ha hc hk s m _ below hf ((Spec.applies_iff_loose hf).mp happ).1 ⟨rfl, State.Warmed39.refl s, rfl, hCH, fun _ q => nomatch q⟩ trivial
  refine ⟨n, _, h1, h2, h3, hpost _ _ _ _ _ _ ⟨Cond.after_iff.mpr rfl, Cond.after_iff.mpr (eq_i res_at (Term.int_eval (1)) rfl), trivial⟩ ⟨hq.1, hq.2.1, hq.2.2.1, (hq.2.2.2.sift fun y hy => Or.inr (N y hy)).mono (by decide) (by decide)⟩⟩
theorem main_1_1 : Claimed_1_1 := comes_1 fun _ _ _ _ _ _ h hF => ⟨h.1, hF⟩
theorem main_1_2 : Claimed_1_2 := comes_1 fun _ _ _ _ _ _ h hF => ⟨h.2.1, hF⟩
end Jvm.Pilot.@@N@@
namespace Jvm.Pilot.@@N@@
open Jvm Jvm.ClassFile Sem Op Lib Jvm.Free Jvm.Stand Jvm.Pilot.@@N@@.Jvm.D
/-! MADE BY PROGRAM (witnessworld.py) out of the Statement's table words and the real class files: 22 classes; the members and pool entries that the words name. The judged class is class 1, her method 1. -/
namespace start1
open Jvm.ClassFile
def u (s : String) : CpInfo := .utf8 (stringToUtf16 s)
/-- a pool by its gaps: so many unusable entries, then the entry; so many at the end -/
def gap : Nat → List CpInfo → List CpInfo
  | 0, r => r
  | n + 1, r => .unusable :: gap n r
def poolList (es : List (Nat × CpInfo)) (last : Nat) : List CpInfo := es.foldr (fun e r => gap e.1 (e.2 :: r)) (gap last [])
def pool (es : List (Nat × CpInfo)) (last : Nat) : Array CpInfo := ⟨poolList es last⟩
def fileOf (pool : Array CpInfo) (this : Nat) (attrs : Array Attribute := #[]) (ms : Array MethodInfo := #[]) (fl : Nat := 33) (sup : Nat := 0) (ifs : Array Nat := #[]) (fds : Array FieldInfo := #[]) : ClassFile where
  minorVersion := 0
  majorVersion := 65
  constantPool := pool
  accessFlags := fl
  thisClass := this
  superClass := sup
  interfaces := ifs
  fields := fds
  methods := ms
  attributes := attrs
def plain (name : String) (sup : Option ClassId) : Class where
  name := name
  kind := .ordinary
  loader := none
  accessFlags := 33
  super := sup
  interfaces := #[]
  cf := none
  fields := #[]
  methods := #[]
  instanceTypes := #[]
  staticTypes := #[]
  resolved := #[]
  callSites := []
  init := .initialized
  statics := none
  mirror := none

def pool0 : Array CpInfo := pool [(5, u "<init>"), (0, u "()V"), (1, .class_ 10), (1, u "java/lang/Object"), (85, u "clone"), (0, u "()Ljava/lang/Object;")] 26

def k0c0 : Code := { maxStack := 0, maxLocals := 1, code := object_method_1_code, exceptionTable := #[], attributes := #[] }
def k0m0 : Method := { name := "<init>", desc := "()V", sig := { parameters := [], returnType := none }, accessFlags := 1, code := some k0c0 }
def k0m1 : Method := { name := "clone", desc := "()Ljava/lang/Object;", sig := { parameters := [], returnType := some (.object "java/lang/Object") }, accessFlags := 260, code := none }
/-- java/lang/Object -/
def k0 : Class := { plain "java/lang/Object" none with
  accessFlags := 33
  interfaces := #[]
  cf := some (fileOf pool0 8 #[] #[{ accessFlags := 1, nameIndex := 5, descriptorIndex := 6, attributes := #[] }, { accessFlags := 260, nameIndex := 96, descriptorIndex := 97, attributes := #[] }] 33 0 #[] #[])
  fields := #[]
  methods := #[k0m0, k0m1]
  instanceTypes := #[]
  staticTypes := #[]
  resolved := Array.replicate 124 none
  statics := none }

def pool1 : Array CpInfo := pool [(2, .class_ 4), (1, u "java/lang/Object"), (0, u "<init>"), (0, u "()V"), (0, .methodref 8 9), (0, .class_ 10), (0, .nameAndType 11 12), (0, u "com/example/duplex/duplex/compliance/SideOfLabelPinLaw"), (0, u "str"), (0, u "(ICCCCCCC)Ljava/lang/String;"), (0, .integer 2147483647), (0, .class_ 15), (0, u "java/lang/String"), (0, .methodref 14 17), (0, .nameAndType 5 18), (0, u "([C)V"), (0, .string 20), (0, u "client"), (0, .methodref 14 22), (0, .nameAndType 23 24), (0, u "equals"), (0, u "(Ljava/lang/Object;)Z"), (0, .fieldref 26 27), (0, .class_ 28), (0, .nameAndType 29 30), (0, u "com/example/duplex/duplex/compliance/Side"), (0, u "CLIENT"), (0, u "Lcom/example/duplex/duplex/compliance/Side;"), (0, .string 32), (0, u "server"), (0, .fieldref 26 34), (0, .nameAndType 35 30), (0, u "SERVER"), (0, .methodref 26 37), (0, .nameAndType 38 39), (0, u "ofLabel"), (0, u "(Ljava/lang/String;)Lcom/example/duplex/duplex/compliance/Side;"), (0, .methodref 26 41), (0, .nameAndType 42 43), (0, u "label"), (0, u "()Ljava/lang/String;"), (2, u "law"), (0, u "(IIIIII)Z")] 5

def k1m0 : Method := { name := "<init>", desc := "()V", sig := { parameters := [], returnType := none }, accessFlags := 1, code := none }
def k1c1 : Code := { maxStack := 9, maxLocals := 11, code := code, exceptionTable := #[], attributes := #[] }
def k1m1 : Method := { name := "law", desc := "(IIIIII)Z", sig := { parameters := [.int, .int, .int, .int, .int, .int], returnType := some .boolean }, accessFlags := 9, code := some k1c1 }
def k1c2 : Code := { maxStack := 6, maxLocals := 8, code := method_3_code, exceptionTable := #[], attributes := #[] }
def k1m2 : Method := { name := "str", desc := "(ICCCCCCC)Ljava/lang/String;", sig := { parameters := [.int, .char, .char, .char, .char, .char, .char, .char], returnType := some (.object "java/lang/String") }, accessFlags := 10, code := some k1c2 }
/-- com/example/duplex/duplex/compliance/SideOfLabelPinLaw -/
def k1 : Class := { plain "com/example/duplex/duplex/compliance/SideOfLabelPinLaw" (some 0) with
  accessFlags := 49
  interfaces := #[]
  cf := some (fileOf pool1 8 #[] #[{ accessFlags := 1, nameIndex := 5, descriptorIndex := 6, attributes := #[] }, { accessFlags := 9, nameIndex := 46, descriptorIndex := 47, attributes := #[] }, { accessFlags := 10, nameIndex := 11, descriptorIndex := 12, attributes := #[] }] 49 2 #[] #[])
  fields := #[]
  methods := #[k1m0, k1m1, k1m2]
  instanceTypes := #[]
  staticTypes := #[]
  resolved := Array.replicate 53 none
  statics := none }

def pool2 : Array CpInfo := pool [(1, .class_ 2), (0, u "java/io/Serializable"), (0, .class_ 4), (0, u "java/lang/Object")] 2

/-- java/io/Serializable -/
def k2 : Class := { plain "java/io/Serializable" (some 0) with
  accessFlags := 1537
  interfaces := #[]
  cf := some (fileOf pool2 1 #[] #[] 1537 3 #[] #[])
  fields := #[]
  methods := #[]
  instanceTypes := #[]
  staticTypes := #[]
  resolved := Array.replicate 7 none
  statics := none }

def pool3 : Array CpInfo := pool [(1, .class_ 2), (0, u "java/lang/Comparable"), (0, .class_ 4), (0, u "java/lang/Object")] 7

/-- java/lang/Comparable -/
def k3 : Class := { plain "java/lang/Comparable" (some 0) with
  accessFlags := 1537
  interfaces := #[]
  cf := some (fileOf pool3 1 #[] #[] 1537 3 #[] #[])
  fields := #[]
  methods := #[]
  instanceTypes := #[]
  staticTypes := #[]
  resolved := Array.replicate 12 none
  statics := none }

def pool4 : Array CpInfo := pool [(2, .class_ 4), (1, u "java/lang/CharSequence"), (42, .class_ 48), (0, u "java/lang/CharSequence$1CodePointIterator"), (10, .class_ 60), (0, u "java/lang/CharSequence$1CharIterator"), (5, .class_ 67), (0, u "java/lang/Object")] 63

/-- java/lang/CharSequence -/
def k4 : Class := { plain "java/lang/CharSequence" (some 0) with
  accessFlags := 1537
  interfaces := #[]
  cf := some (fileOf pool4 2 #[.nestMembers #[47, 59]] #[] 1537 66 #[] #[])
  fields := #[]
  methods := #[]
  instanceTypes := #[]
  staticTypes := #[]
  resolved := Array.replicate 131 none
  statics := none }

def pool5 : Array CpInfo := pool [(1, .class_ 2), (0, u "java/lang/constant/Constable"), (0, .class_ 4), (0, u "java/lang/Object")] 6

/-- java/lang/constant/Constable -/
def k5 : Class := { plain "java/lang/constant/Constable" (some 0) with
  accessFlags := 1537
  interfaces := #[]
  cf := some (fileOf pool5 1 #[] #[] 1537 3 #[] #[])
  fields := #[]
  methods := #[]
  instanceTypes := #[]
  staticTypes := #[]
  resolved := Array.replicate 11 none
  statics := none }

def pool6 : Array CpInfo := pool [(1, .class_ 2), (0, u "java/lang/constant/ConstantDesc"), (0, .class_ 4), (0, u "java/lang/Object")] 32

/-- java/lang/constant/ConstantDesc -/
def k6 : Class := { plain "java/lang/constant/ConstantDesc" (some 0) with
  accessFlags := 1537
  interfaces := #[]
  cf := some (fileOf pool6 1 #[] #[] 1537 3 #[] #[])
  fields := #[]
  methods := #[]
  instanceTypes := #[]
  staticTypes := #[]
  resolved := Array.replicate 37 none
  statics := none }

def pool7 : Array CpInfo := pool [(1, .methodref 2 3), (0, .class_ 4), (0, .nameAndType 5 6), (0, u "java/lang/Object"), (0, u "<init>"), (0, u "()V"), (0, .string 8), (0, u ""), (0, .fieldref 10 11), (0, .class_ 12), (0, .nameAndType 13 14), (0, u "java/lang/String"), (0, u "value"), (0, u "[B"), (0, .fieldref 10 16), (0, .nameAndType 17 18), (0, u "coder"), (0, u "B"), (2, u "hash"), (0, u "I"), (2, u "hashIsZero"), (0, u "Z"), (0, .methodref 10 28), (0, .nameAndType 5 29), (0, u "([CIILjava/lang/Void;)V"), (8, .fieldref 10 39), (0, .nameAndType 40 26), (0, u "COMPACT_STRINGS"), (1, .class_ 44), (1, u "java/lang/StringUTF16"), (0, u "compress"), (1, .methodref 42 48), (0, .nameAndType 49 50), (0, u "coderFromArrayLen"), (0, u "([BI)B"), (56, .class_ 109), (1, u "java/lang/StringLatin1"), (67, .methodref 42 178), (0, .nameAndType 45 179), (0, u "([CII)[B"), (361, .methodref 107 542), (0, .nameAndType 543 544), (0, u "equals"), (0, u "([B[B)Z"), (28, u "(Ljava/lang/Object;)Z"), (1, .class_ 576), (0, u "java/lang/CharSequence"), (22, u "CASE_INSENSITIVE_ORDER"), (0, u "Ljava/util/Comparator;"), (409, u "([C)V"), (90, u "serialPersistentFields"), (0, u "[Ljava/io/ObjectStreamField;"), (0, .class_ 1104), (0, u "java/lang/String$CaseInsensitiveComparator"), (1, .class_ 1107), (0, u "java/io/Serializable"), (0, .class_ 1109), (0, u "java/lang/Comparable"), (0, .class_ 1111), (0, u "java/lang/constant/Constable"), (0, .class_ 1113), (0, u "java/lang/constant/ConstantDesc"), (2, u "serialVersionUID"), (0, u "J"), (3, u "REPL"), (0, u "C"), (2, u "LATIN1"), (1, u "UTF16")] 323

def k7m0 : Method := { name := "<init>", desc := "()V", sig := { parameters := [], returnType := none }, accessFlags := 1, code := none }
def k7c1 : Code := { maxStack := 5, maxLocals := 2, code := jdk_42_method_3_code, exceptionTable := #[], attributes := #[] }
def k7m1 : Method := { name := "<init>", desc := "([C)V", sig := { parameters := [(.array .char)], returnType := none }, accessFlags := 1, code := some k7c1 }
def k7c2 : Code := { maxStack := 2, maxLocals := 3, code := jdk_42_method_66_code, exceptionTable := #[], attributes := #[] }
def k7m2 : Method := { name := "equals", desc := "(Ljava/lang/Object;)Z", sig := { parameters := [(.object "java/lang/Object")], returnType := some .boolean }, accessFlags := 1, code := some k7c2 }
def k7c3 : Code := { maxStack := 4, maxLocals := 6, code := jdk_42_method_149_code, exceptionTable := #[], attributes := #[] }
def k7m3 : Method := { name := "<init>", desc := "([CIILjava/lang/Void;)V", sig := { parameters := [(.array .char), .int, .int, (.object "java/lang/Void")], returnType := none }, accessFlags := 2, code := some k7c3 }
/-- java/lang/String -/
def k7 : Class := { plain "java/lang/String" (some 0) with
  accessFlags := 49
  interfaces := #[2, 3, 4, 5, 6]
  cf := some (fileOf pool7 10 #[.nestMembers #[1103]] #[{ accessFlags := 1, nameIndex := 5, descriptorIndex := 6, attributes := #[] }, { accessFlags := 1, nameIndex := 5, descriptorIndex := 1010, attributes := #[] }, { accessFlags := 1, nameIndex := 543, descriptorIndex := 573, attributes := #[] }, { accessFlags := 2, nameIndex := 5, descriptorIndex := 29, attributes := #[] }] 49 2 #[1106, 1108, 575, 1110, 1112] #[{ accessFlags := 18, nameIndex := 13, descriptorIndex := 14, attributes := #[] }, { accessFlags := 18, nameIndex := 17, descriptorIndex := 18, attributes := #[] }, { accessFlags := 2, nameIndex := 21, descriptorIndex := 22, attributes := #[] }, { accessFlags := 2, nameIndex := 25, descriptorIndex := 26, attributes := #[] }, { accessFlags := 26, nameIndex := 1116, descriptorIndex := 1117, attributes := #[] }, { accessFlags := 24, nameIndex := 40, descriptorIndex := 26, attributes := #[] }, { accessFlags := 26, nameIndex := 1101, descriptorIndex := 1102, attributes := #[] }, { accessFlags := 26, nameIndex := 1121, descriptorIndex := 1122, attributes := #[] }, { accessFlags := 25, nameIndex := 599, descriptorIndex := 600, attributes := #[] }, { accessFlags := 24, nameIndex := 1125, descriptorIndex := 18, attributes := #[] }, { accessFlags := 24, nameIndex := 1127, descriptorIndex := 18, attributes := #[] }])
  fields := #[{ name := "value", type := (.array .byte), accessFlags := 18, slot := 0, constantValue := 0 }, { name := "coder", type := .byte, accessFlags := 18, slot := 1, constantValue := 0 }, { name := "hash", type := .int, accessFlags := 2, slot := 2, constantValue := 0 }, { name := "hashIsZero", type := .boolean, accessFlags := 2, slot := 3, constantValue := 0 }, { name := "serialVersionUID", type := .long, accessFlags := 26, slot := 0, constantValue := 0 }, { name := "COMPACT_STRINGS", type := .boolean, accessFlags := 24, slot := 1, constantValue := 0 }, { name := "serialPersistentFields", type := (.array (.object "java/io/ObjectStreamField")), accessFlags := 26, slot := 2, constantValue := 0 }, { name := "REPL", type := .char, accessFlags := 26, slot := 3, constantValue := 0 }, { name := "CASE_INSENSITIVE_ORDER", type := (.object "java/util/Comparator"), accessFlags := 25, slot := 4, constantValue := 0 }, { name := "LATIN1", type := .byte, accessFlags := 24, slot := 5, constantValue := 0 }, { name := "UTF16", type := .byte, accessFlags := 24, slot := 6, constantValue := 0 }]
  methods := #[k7m0, k7m1, k7m2, k7m3]
  instanceTypes := #[(.array .byte), .byte, .int, .boolean]
  staticTypes := #[.long, .boolean, (.array (.object "java/io/ObjectStreamField")), .char, (.object "java/util/Comparator"), .byte, .byte]
  resolved := Array.replicate 1451 none
  statics := some 0 }

def pool8 : Array CpInfo := pool [(6, .class_ 8), (1, u "java/lang/Object"), (0, u "<init>"), (0, u "()V"), (1, .class_ 14), (1, u "java/lang/StringUTF16"), (31, u "$assertionsDisabled"), (0, u "Z"), (13, u "HI_BYTE_SHIFT"), (0, u "I"), (2, u "LO_BYTE_SHIFT"), (49, .methodref 12 116), (0, .nameAndType 117 118), (0, u "compress"), (0, u "([CI[BII)I"), (3, u "([CII)[B"), (138, u "coderFromArrayLen"), (0, u "([BI)B"), (106, .class_ 371), (1, u "java/lang/StringUTF16$LinesSpliterator"), (58, u "MAX_LENGTH"), (196, .class_ 628), (0, u "java/lang/StringUTF16$CodePointsSpliterator"), (0, .class_ 630), (0, u "java/lang/StringUTF16$CharsSpliterator")] 4

def k8m0 : Method := { name := "<init>", desc := "()V", sig := { parameters := [], returnType := none }, accessFlags := 0, code := none }
def k8c1 : Code := { maxStack := 2, maxLocals := 2, code := jdk_52_method_15_code, exceptionTable := #[], attributes := #[] }
def k8m1 : Method := { name := "coderFromArrayLen", desc := "([BI)B", sig := { parameters := [(.array .byte), .int], returnType := some .byte }, accessFlags := 8, code := some k8c1 }
def k8c2 : Code := { maxStack := 5, maxLocals := 6, code := jdk_52_method_16_code, exceptionTable := #[], attributes := #[] }
def k8m2 : Method := { name := "compress", desc := "([CII)[B", sig := { parameters := [(.array .char), .int, .int], returnType := some (.array .byte) }, accessFlags := 9, code := some k8c2 }
def k8c3 : Code := { maxStack := 3, maxLocals := 7, code := jdk_52_method_21_code, exceptionTable := #[], attributes := #[] }
def k8m3 : Method := { name := "compress", desc := "([CI[BII)I", sig := { parameters := [(.array .char), .int, (.array .byte), .int, .int], returnType := some .int }, accessFlags := 9, code := some k8c3 }
/-- java/lang/StringUTF16 -/
def k8 : Class := { plain "java/lang/StringUTF16" (some 0) with
  accessFlags := 48
  interfaces := #[]
  cf := some (fileOf pool8 12 #[.nestMembers #[627, 629, 369]] #[{ accessFlags := 0, nameIndex := 9, descriptorIndex := 10, attributes := #[] }, { accessFlags := 8, nameIndex := 261, descriptorIndex := 262, attributes := #[] }, { accessFlags := 9, nameIndex := 117, descriptorIndex := 122, attributes := #[] }, { accessFlags := 9, nameIndex := 117, descriptorIndex := 118, attributes := #[] }] 48 6 #[] #[{ accessFlags := 26, nameIndex := 61, descriptorIndex := 62, attributes := #[] }, { accessFlags := 26, nameIndex := 65, descriptorIndex := 62, attributes := #[] }, { accessFlags := 24, nameIndex := 430, descriptorIndex := 62, attributes := #[] }, { accessFlags := 4120, nameIndex := 46, descriptorIndex := 47, attributes := #[] }])
  fields := #[{ name := "HI_BYTE_SHIFT", type := .int, accessFlags := 26, slot := 0, constantValue := 0 }, { name := "LO_BYTE_SHIFT", type := .int, accessFlags := 26, slot := 1, constantValue := 0 }, { name := "MAX_LENGTH", type := .int, accessFlags := 24, slot := 2, constantValue := 0 }, { name := "$assertionsDisabled", type := .boolean, accessFlags := 4120, slot := 3, constantValue := 0 }]
  methods := #[k8m0, k8m1, k8m2, k8m3]
  instanceTypes := #[]
  staticTypes := #[.int, .int, .int, .boolean]
  resolved := Array.replicate 635 none
  statics := none }

def pool9 : Array CpInfo := pool [(4, .class_ 6), (1, u "java/lang/Object"), (0, u "<init>"), (0, u "()V"), (5, .class_ 16), (1, u "java/lang/StringLatin1"), (104, u "$assertionsDisabled"), (0, u "Z"), (98, .class_ 223), (1, u "java/lang/StringLatin1$LinesSpliterator"), (57, u "equals"), (0, u "([B[B)Z"), (107, .class_ 391), (0, u "java/lang/StringLatin1$CharsSpliterator")] 3

def k9m0 : Method := { name := "<init>", desc := "()V", sig := { parameters := [], returnType := none }, accessFlags := 0, code := none }
def k9c1 : Code := { maxStack := 3, maxLocals := 3, code := jdk_43_method_13_code, exceptionTable := #[], attributes := #[] }
def k9m1 : Method := { name := "equals", desc := "([B[B)Z", sig := { parameters := [(.array .byte), (.array .byte)], returnType := some .boolean }, accessFlags := 9, code := some k9c1 }
/-- java/lang/StringLatin1 -/
def k9 : Class := { plain "java/lang/StringLatin1" (some 0) with
  accessFlags := 48
  interfaces := #[]
  cf := some (fileOf pool9 14 #[.nestMembers #[390, 221]] #[{ accessFlags := 0, nameIndex := 7, descriptorIndex := 8, attributes := #[] }, { accessFlags := 9, nameIndex := 281, descriptorIndex := 282, attributes := #[] }] 48 4 #[] #[{ accessFlags := 4120, nameIndex := 121, descriptorIndex := 122, attributes := #[] }])
  fields := #[{ name := "$assertionsDisabled", type := .boolean, accessFlags := 4120, slot := 0, constantValue := 0 }]
  methods := #[k9m0, k9m1]
  instanceTypes := #[]
  staticTypes := #[.boolean]
  resolved := Array.replicate 395 none
  statics := none }

def pool10 : Array CpInfo := pool [(2, .class_ 4), (1, u "java/lang/Enum"), (0, u "name"), (0, u "Ljava/lang/String;"), (2, u "ordinal"), (0, u "I"), (1, .class_ 14), (1, u "java/lang/Object"), (4, u "hash"), (86, .class_ 108), (1, u "java/lang/Enum$EnumDesc"), (2, .class_ 112), (0, u "java/lang/constant/Constable"), (0, .class_ 114), (0, u "java/lang/Comparable"), (0, .class_ 116), (0, u "java/io/Serializable")] 87

/-- java/lang/Enum -/
def k10 : Class := { plain "java/lang/Enum" (some 0) with
  accessFlags := 1057
  interfaces := #[5, 3, 2]
  cf := some (fileOf pool10 2 #[.nestMembers #[106]] #[] 1057 12 #[111, 113, 115] #[{ accessFlags := 18, nameIndex := 5, descriptorIndex := 6, attributes := #[] }, { accessFlags := 18, nameIndex := 9, descriptorIndex := 10, attributes := #[] }, { accessFlags := 2, nameIndex := 19, descriptorIndex := 10, attributes := #[] }])
  fields := #[{ name := "name", type := (.object "java/lang/String"), accessFlags := 18, slot := 0, constantValue := 0 }, { name := "ordinal", type := .int, accessFlags := 18, slot := 1, constantValue := 0 }, { name := "hash", type := .int, accessFlags := 2, slot := 2, constantValue := 0 }]
  methods := #[]
  instanceTypes := #[(.object "java/lang/String"), .int, .int]
  staticTypes := #[]
  resolved := Array.replicate 204 none
  statics := none }

def pool11 : Array CpInfo := pool [(1, .class_ 2), (0, u "com/example/duplex/duplex/compliance/Side"), (2, u "CLIENT"), (0, u "Lcom/example/duplex/duplex/compliance/Side;"), (2, u "SERVER"), (0, .fieldref 1 11), (0, .nameAndType 12 13), (0, u "$VALUES"), (0, u "[Lcom/example/duplex/duplex/compliance/Side;"), (0, .methodref 15 16), (0, .class_ 13), (0, .nameAndType 17 18), (0, u "clone"), (0, u "()Ljava/lang/Object;"), (1, .class_ 22), (1, u "java/lang/Enum"), (6, .fieldref 1 30), (0, .nameAndType 31 32), (0, u "label"), (0, u "Ljava/lang/String;"), (0, .methodref 1 34), (0, .nameAndType 35 36), (0, u "values"), (0, u "()[Lcom/example/duplex/duplex/compliance/Side;"), (0, .methodref 38 39), (0, .class_ 40), (0, .nameAndType 41 42), (0, u "java/lang/String"), (0, u "equals"), (0, u "(Ljava/lang/Object;)Z"), (14, u "(Ljava/lang/String;)Lcom/example/duplex/duplex/compliance/Side;"), (3, u "()Ljava/lang/String;"), (0, u "ofLabel")] 6

def k11c0 : Code := { maxStack := 1, maxLocals := 0, code := prog_9_method_1_code, exceptionTable := #[], attributes := #[] }
def k11m0 : Method := { name := "values", desc := "()[Lcom/example/duplex/duplex/compliance/Side;", sig := { parameters := [], returnType := some (.array (.object "com/example/duplex/duplex/compliance/Side")) }, accessFlags := 9, code := some k11c0 }
def k11c1 : Code := { maxStack := 1, maxLocals := 1, code := prog_9_method_4_code, exceptionTable := #[], attributes := #[] }
def k11m1 : Method := { name := "label", desc := "()Ljava/lang/String;", sig := { parameters := [], returnType := some (.object "java/lang/String") }, accessFlags := 1, code := some k11c1 }
def k11c2 : Code := { maxStack := 2, maxLocals := 5, code := prog_9_method_5_code, exceptionTable := #[], attributes := #[] }
def k11m2 : Method := { name := "ofLabel", desc := "(Ljava/lang/String;)Lcom/example/duplex/duplex/compliance/Side;", sig := { parameters := [(.object "java/lang/String")], returnType := some (.object "com/example/duplex/duplex/compliance/Side") }, accessFlags := 9, code := some k11c2 }
/-- com/example/duplex/duplex/compliance/Side -/
def k11 : Class := { plain "com/example/duplex/duplex/compliance/Side" (some 10) with
  accessFlags := 16433
  interfaces := #[]
  cf := some (fileOf pool11 1 #[] #[{ accessFlags := 9, nameIndex := 35, descriptorIndex := 36, attributes := #[] }, { accessFlags := 1, nameIndex := 31, descriptorIndex := 61, attributes := #[] }, { accessFlags := 9, nameIndex := 62, descriptorIndex := 57, attributes := #[] }] 16433 20 #[] #[{ accessFlags := 16409, nameIndex := 5, descriptorIndex := 6, attributes := #[] }, { accessFlags := 16409, nameIndex := 9, descriptorIndex := 6, attributes := #[] }, { accessFlags := 18, nameIndex := 31, descriptorIndex := 32, attributes := #[] }, { accessFlags := 4122, nameIndex := 12, descriptorIndex := 13, attributes := #[] }])
  fields := #[{ name := "CLIENT", type := (.object "com/example/duplex/duplex/compliance/Side"), accessFlags := 16409, slot := 0, constantValue := 0 }, { name := "SERVER", type := (.object "com/example/duplex/duplex/compliance/Side"), accessFlags := 16409, slot := 1, constantValue := 0 }, { name := "label", type := (.object "java/lang/String"), accessFlags := 18, slot := 3, constantValue := 0 }, { name := "$VALUES", type := (.array (.object "com/example/duplex/duplex/compliance/Side")), accessFlags := 4122, slot := 2, constantValue := 0 }]
  methods := #[k11m0, k11m1, k11m2]
  instanceTypes := #[(.object "java/lang/String"), .int, .int, (.object "java/lang/String")]
  staticTypes := #[(.object "com/example/duplex/duplex/compliance/Side"), (.object "com/example/duplex/duplex/compliance/Side"), (.array (.object "com/example/duplex/duplex/compliance/Side"))]
  resolved := Array.replicate 69 none
  statics := some 1 }

def pool12 : Array CpInfo := pool [(1, .class_ 2), (0, u "java/lang/Cloneable"), (0, .class_ 4), (0, u "java/lang/Object")] 2

/-- java/lang/Cloneable -/
def k12 : Class := { plain "java/lang/Cloneable" (some 0) with
  accessFlags := 1537
  interfaces := #[]
  cf := some (fileOf pool12 1 #[] #[] 1537 3 #[] #[])
  fields := #[]
  methods := #[]
  instanceTypes := #[]
  staticTypes := #[]
  resolved := Array.replicate 7 none
  statics := none }

def pool13 : Array CpInfo := pool [(2, .class_ 4), (1, u "java/lang/Object"), (0, u "<init>"), (0, u "()V"), (17, .class_ 26), (1, u "jdk/internal/util/Preconditions"), (28, .class_ 56), (0, u "jdk/internal/util/Preconditions$4"), (57, .class_ 115), (0, u "jdk/internal/util/Preconditions$1"), (7, u "SIOOBE_FORMATTER"), (0, u "Ljava/util/function/BiFunction;"), (0, .class_ 126), (0, u "jdk/internal/util/Preconditions$2"), (3, u "AIOOBE_FORMATTER"), (0, .class_ 132), (0, u "jdk/internal/util/Preconditions$3"), (3, u "IOOBE_FORMATTER")] 57

def k13m0 : Method := { name := "<init>", desc := "()V", sig := { parameters := [], returnType := none }, accessFlags := 1, code := none }
/-- jdk/internal/util/Preconditions -/
def k13 : Class := { plain "jdk/internal/util/Preconditions" (some 0) with
  accessFlags := 33
  interfaces := #[]
  cf := some (fileOf pool13 24 #[.nestMembers #[55, 131, 125, 114]] #[{ accessFlags := 1, nameIndex := 5, descriptorIndex := 6, attributes := #[] }] 33 2 #[] #[{ accessFlags := 25, nameIndex := 123, descriptorIndex := 124, attributes := #[] }, { accessFlags := 25, nameIndex := 130, descriptorIndex := 124, attributes := #[] }, { accessFlags := 25, nameIndex := 136, descriptorIndex := 124, attributes := #[] }])
  fields := #[{ name := "SIOOBE_FORMATTER", type := (.object "java/util/function/BiFunction"), accessFlags := 25, slot := 0, constantValue := 0 }, { name := "AIOOBE_FORMATTER", type := (.object "java/util/function/BiFunction"), accessFlags := 25, slot := 1, constantValue := 0 }, { name := "IOOBE_FORMATTER", type := (.object "java/util/function/BiFunction"), accessFlags := 25, slot := 2, constantValue := 0 }]
  methods := #[k13m0]
  instanceTypes := #[]
  staticTypes := #[(.object "java/util/function/BiFunction"), (.object "java/util/function/BiFunction"), (.object "java/util/function/BiFunction")]
  resolved := Array.replicate 194 none
  statics := some 2 }

def pool14 : Array CpInfo := pool [(9, u "<init>"), (6, .class_ 18), (1, u "java/lang/Object"), (0, u "()V"), (1, .class_ 23), (1, u "jdk/internal/util/ArraysSupport"), (0, u "LOG2_ARRAY_LONG_INDEX_SCALE"), (0, u "I"), (2, u "U"), (0, u "Ljdk/internal/misc/Unsafe;"), (8, u "BIG_ENDIAN"), (0, u "Z"), (8, u "LOG2_BYTE_BIT_SIZE"), (4, u "LOG2_ARRAY_INT_INDEX_SCALE"), (54, u "JLA"), (0, u "Ljdk/internal/access/JavaLangAccess;"), (11, u "LOG2_ARRAY_BOOLEAN_INDEX_SCALE"), (9, u "LOG2_ARRAY_BYTE_INDEX_SCALE"), (5, u "LOG2_ARRAY_CHAR_INDEX_SCALE"), (5, u "LOG2_ARRAY_SHORT_INDEX_SCALE"), (18, u "LOG2_ARRAY_FLOAT_INDEX_SCALE"), (24, u "LOG2_ARRAY_DOUBLE_INDEX_SCALE"), (89, u "T_BOOLEAN"), (2, u "T_CHAR"), (1, u "T_FLOAT"), (1, u "T_DOUBLE"), (1, u "T_BYTE"), (1, u "T_SHORT"), (1, u "T_INT"), (1, u "T_LONG"), (1, u "SOFT_MAX_ARRAY_LENGTH")] 83

def k14m0 : Method := { name := "<init>", desc := "()V", sig := { parameters := [], returnType := none }, accessFlags := 2, code := none }
/-- jdk/internal/util/ArraysSupport -/
def k14 : Class := { plain "jdk/internal/util/ArraysSupport" (some 0) with
  accessFlags := 33
  interfaces := #[]
  cf := some (fileOf pool14 21 #[] #[{ accessFlags := 2, nameIndex := 9, descriptorIndex := 19, attributes := #[] }] 33 16 #[] #[{ accessFlags := 24, nameIndex := 28, descriptorIndex := 29, attributes := #[] }, { accessFlags := 26, nameIndex := 38, descriptorIndex := 39, attributes := #[] }, { accessFlags := 25, nameIndex := 121, descriptorIndex := 25, attributes := #[] }, { accessFlags := 25, nameIndex := 131, descriptorIndex := 25, attributes := #[] }, { accessFlags := 25, nameIndex := 137, descriptorIndex := 25, attributes := #[] }, { accessFlags := 25, nameIndex := 143, descriptorIndex := 25, attributes := #[] }, { accessFlags := 25, nameIndex := 53, descriptorIndex := 25, attributes := #[] }, { accessFlags := 25, nameIndex := 24, descriptorIndex := 25, attributes := #[] }, { accessFlags := 25, nameIndex := 162, descriptorIndex := 25, attributes := #[] }, { accessFlags := 25, nameIndex := 187, descriptorIndex := 25, attributes := #[] }, { accessFlags := 26, nameIndex := 48, descriptorIndex := 25, attributes := #[] }, { accessFlags := 25, nameIndex := 277, descriptorIndex := 25, attributes := #[] }, { accessFlags := 25, nameIndex := 280, descriptorIndex := 25, attributes := #[] }, { accessFlags := 25, nameIndex := 282, descriptorIndex := 25, attributes := #[] }, { accessFlags := 25, nameIndex := 284, descriptorIndex := 25, attributes := #[] }, { accessFlags := 25, nameIndex := 286, descriptorIndex := 25, attributes := #[] }, { accessFlags := 25, nameIndex := 288, descriptorIndex := 25, attributes := #[] }, { accessFlags := 25, nameIndex := 290, descriptorIndex := 25, attributes := #[] }, { accessFlags := 25, nameIndex := 292, descriptorIndex := 25, attributes := #[] }, { accessFlags := 26, nameIndex := 108, descriptorIndex := 109, attributes := #[] }, { accessFlags := 25, nameIndex := 294, descriptorIndex := 25, attributes := #[] }])
  fields := #[{ name := "U", type := (.object "jdk/internal/misc/Unsafe"), accessFlags := 24, slot := 0, constantValue := 0 }, { name := "BIG_ENDIAN", type := .boolean, accessFlags := 26, slot := 1, constantValue := 0 }, { name := "LOG2_ARRAY_BOOLEAN_INDEX_SCALE", type := .int, accessFlags := 25, slot := 2, constantValue := 0 }, { name := "LOG2_ARRAY_BYTE_INDEX_SCALE", type := .int, accessFlags := 25, slot := 3, constantValue := 0 }, { name := "LOG2_ARRAY_CHAR_INDEX_SCALE", type := .int, accessFlags := 25, slot := 4, constantValue := 0 }, { name := "LOG2_ARRAY_SHORT_INDEX_SCALE", type := .int, accessFlags := 25, slot := 5, constantValue := 0 }, { name := "LOG2_ARRAY_INT_INDEX_SCALE", type := .int, accessFlags := 25, slot := 6, constantValue := 0 }, { name := "LOG2_ARRAY_LONG_INDEX_SCALE", type := .int, accessFlags := 25, slot := 7, constantValue := 0 }, { name := "LOG2_ARRAY_FLOAT_INDEX_SCALE", type := .int, accessFlags := 25, slot := 8, constantValue := 0 }, { name := "LOG2_ARRAY_DOUBLE_INDEX_SCALE", type := .int, accessFlags := 25, slot := 9, constantValue := 0 }, { name := "LOG2_BYTE_BIT_SIZE", type := .int, accessFlags := 26, slot := 10, constantValue := 0 }, { name := "T_BOOLEAN", type := .int, accessFlags := 25, slot := 11, constantValue := 0 }, { name := "T_CHAR", type := .int, accessFlags := 25, slot := 12, constantValue := 0 }, { name := "T_FLOAT", type := .int, accessFlags := 25, slot := 13, constantValue := 0 }, { name := "T_DOUBLE", type := .int, accessFlags := 25, slot := 14, constantValue := 0 }, { name := "T_BYTE", type := .int, accessFlags := 25, slot := 15, constantValue := 0 }, { name := "T_SHORT", type := .int, accessFlags := 25, slot := 16, constantValue := 0 }, { name := "T_INT", type := .int, accessFlags := 25, slot := 17, constantValue := 0 }, { name := "T_LONG", type := .int, accessFlags := 25, slot := 18, constantValue := 0 }, { name := "JLA", type := (.object "jdk/internal/access/JavaLangAccess"), accessFlags := 26, slot := 19, constantValue := 0 }, { name := "SOFT_MAX_ARRAY_LENGTH", type := .int, accessFlags := 25, slot := 20, constantValue := 0 }]
  methods := #[k14m0]
  instanceTypes := #[]
  staticTypes := #[(.object "jdk/internal/misc/Unsafe"), .boolean, .int, .int, .int, .int, .int, .int, .int, .int, .int, .int, .int, .int, .int, .int, .int, .int, .int, (.object "jdk/internal/access/JavaLangAccess"), .int]
  resolved := Array.replicate 378 none
  statics := none }

/-- the primitive byte -/
def k15 : Class := { plain "byte" none with kind := .primitive 'B', accessFlags := 0x411 }
/-- [B -/
def k16 : Class := { plain "[B" (some 0) with kind := .array 15 .byte, interfaces := #[12, 2], accessFlags := 1041 }

/-- the primitive char -/
def k17 : Class := { plain "char" none with kind := .primitive 'C', accessFlags := 0x411 }
/-- [C -/
def k18 : Class := { plain "[C" (some 0) with kind := .array 17 .char, interfaces := #[12, 2], accessFlags := 1041 }

/-- the primitive int -/
def k19 : Class := { plain "int" none with kind := .primitive 'I', accessFlags := 0x411 }
/-- [I -/
def k20 : Class := { plain "[I" (some 0) with kind := .array 19 .int, interfaces := #[12, 2], accessFlags := 1041 }

/-- [Lcom/example/duplex/duplex/compliance/Side; -/
def k21 : Class := { plain "[Lcom/example/duplex/duplex/compliance/Side;" (some 0) with kind := .array 11 (.object "com/example/duplex/duplex/compliance/Side"), interfaces := #[12, 2], accessFlags := 1041 }

def heap : Heap := #[{ cls := 7, slots := #[.long 0, .int 1, .null, .int 0, .null, .int 0, .int 0], vm := .statics 7 },
  { cls := 11, slots := #[.ref 5, .ref 6, .ref 4], vm := .statics 11 },
  { cls := 13, slots := #[.null, .null, .null], vm := .statics 13 },
  { cls := 21, slots := #[.ref 5, .ref 6], vm := .none },
  { cls := 21, slots := #[.ref 5, .ref 6], vm := .none },
  { cls := 11, slots := #[.null, .int 0, .int 0, .ref 7], vm := .none },
  { cls := 11, slots := #[.null, .int 0, .int 0, .ref 9], vm := .none },
  { cls := 7, slots := #[.ref 8, .int 0, .int 0, .int 0], vm := .none },
  { cls := 16, slots := #[.int 99, .int 108, .int 105, .int 101, .int 110, .int 116], vm := .none },
  { cls := 7, slots := #[.ref 10, .int 0, .int 0, .int 0], vm := .none },
  { cls := 16, slots := #[.int 115, .int 101, .int 114, .int 118, .int 101, .int 114], vm := .none }]
def classes : Array Class := #[k0, k1, k2, k3, k4, k5, k6, k7, k8, k9, k10, k11, k12, k13, k14, k15, k16, k17, k18, k19, k20, k21]
def interned : List (Array UInt16 × Addr) := []
def slotsUsed : Nat := 45
def theMethod : MethodId := ⟨1, 1⟩
def args0 : Array Value := #[.int 1, .int 65, .int 66, .int 67, .int 68, .int 3]
def aboutOver (below : List Frame) : State where
  vm := { classes := classes, interned := interned.toArray }
  heap := heap
  slotsUsed := slotsUsed
  threads := #[{ frames := .invoking theMethod args0 :: below }]
def below0 : List Frame := [.native { method := ⟨0, 0⟩, args := #[] }]
def about1 : State := aboutOver below0
def p0 : Program := .bare "" "" ""
def e0 : Env := launch0.env 0 0 0
theorem w_frames : about1.frames = Frame.invoking theMethod args0 :: below0 := rfl
set_option maxRecDepth 65536 in
theorem w_args : argsFit about1.vm theMethod args0 = true := by decide +kernel
set_option maxRecDepth 65536 in
theorem w_heap : heapFits about1 = true := by decide +kernel
set_option maxRecDepth 65536 in
theorem w_runnable : about1.curStatus? = some .runnable := by decide +kernel
set_option maxRecDepth 65536 in
theorem w_alone : about1.alone = true := by decide +kernel
set_option maxRecDepth 65536 in
theorem w_named : about1.methodNamed? x = some theMethod := by decide +kernel
set_option maxRecDepth 65536 in
theorem w_hears : about1.hears theMethod below0 = true := by decide +kernel
set_option maxRecDepth 65536 in
theorem w_ripe : about1.ripe theMethod args0 below0 = true := by decide +kernel
theorem w_running : about1.status = .running := rfl
set_option maxRecDepth 65536 in
theorem w_room : about1.hasRoom e0.platform room_1 = true :=
  launch0.hasRoom_least _ room_1 (by decide +kernel) (by decide +kernel) (by decide +kernel) (by decide +kernel) (by decide +kernel) (by decide +kernel)
theorem allAtoms_all (ts : List Jvm.Cond) (a : Array Jvm.Value) (st : Jvm.State) : (allAtoms ts).before a st = ts.all (fun c => c.before a st) := by
  induction ts with
  | nil => rfl
  | cons c t ih =>
    show (Jvm.Cond.and c (allAtoms t)).before a st = _
    rw [Jvm.Cond.before_and, ih, List.all_cons]
def words1 : List Jvm.Cond := Jvm.Cond.code x code maxLocals ret :: tables_1
/-- a 'code' word, met by the world's own term for the bytes: nothing is compared byte by byte -/
theorem code_word {y : MethodName} {bytes : ByteArray} {mx : Nat} {rt : Option FieldType} {a : Array Value} {s : State} {m : MethodId} {meth : Method} {c : Code} (h1 : s.methodNamed? y = some m) (h2 : s.vm.method? m = some meth) (h3 : meth.code = some c) (h4 : c.code = bytes)
    (h5 : (c.maxLocals == mx && c.exceptionTable.isEmpty && decide (c.maxStack ≤ mostOperands) && decide (meth.sig.returnType = rt) && !meth.locks && decide (parseMethodDescriptor y.desc = some meth.sig)) = true) : (Jvm.Cond.code y bytes mx rt).before a s = true := by
  simp only [Bool.and_eq_true, beq_iff_eq, Bool.not_eq_true', decide_eq_true_eq] at h5
  obtain ⟨⟨⟨⟨⟨g1, g2⟩, g3⟩, g4⟩, g5⟩, g6⟩ := h5
  simp [Cond.before, Cond.holds, Cond.value, h1, h2, h3, h4, g1, g2, g3, g4, g5, g6]
def isCode : Jvm.Cond → Bool
  | .code _ _ _ _ => true
  | _ => false
theorem all_split {L : List Jvm.Cond} {P : Jvm.Cond → Bool} (h1 : L.all (fun c => isCode c || P c) = true) (h2 : ∀ c ∈ L.filter isCode, P c = true) : L.all P = true := by
  refine List.all_eq_true.mpr fun c hc => ?_
  have h := List.all_eq_true.mp h1 c hc
  rcases Bool.eq_false_or_eq_true (isCode c) with hi | hi
  · exact h2 c (List.mem_filter.mpr ⟨hc, hi⟩)
  · simpa [hi] using h
set_option maxRecDepth 65536 in
theorem w_c0 : (Jvm.Cond.code x code maxLocals ret).before args0 about1 = true := code_word (m := ⟨1, 1⟩) (meth := k1m1) (c := k1c1) (by decide +kernel) rfl rfl rfl (by decide +kernel)
set_option maxRecDepth 65536 in
theorem w_c1 : (Jvm.Cond.code ({ cls := "com/example/duplex/duplex/compliance/SideOfLabelPinLaw", name := "str", desc := "(ICCCCCCC)Ljava/lang/String;" } : Jvm.MethodName) method_3_code (8 : Nat) (Option.some (Jvm.ClassFile.FieldType.object "java/lang/String"))).before args0 about1 = true := code_word (m := ⟨1, 2⟩) (meth := k1m2) (c := k1c2) (by decide +kernel) rfl rfl rfl (by decide +kernel)
set_option maxRecDepth 65536 in
theorem w_c2 : (Jvm.Cond.code ({ cls := "java/lang/String", name := "<init>", desc := "([C)V" } : Jvm.MethodName) jdk_42_method_3_code (2 : Nat) (Option.none : Option Jvm.ClassFile.FieldType)).before args0 about1 = true := code_word (m := ⟨7, 1⟩) (meth := k7m1) (c := k7c1) (by decide +kernel) rfl rfl rfl (by decide +kernel)
set_option maxRecDepth 65536 in
theorem w_c3 : (Jvm.Cond.code ({ cls := "java/lang/String", name := "<init>", desc := "([CIILjava/lang/Void;)V" } : Jvm.MethodName) jdk_42_method_149_code (6 : Nat) (Option.none : Option Jvm.ClassFile.FieldType)).before args0 about1 = true := code_word (m := ⟨7, 3⟩) (meth := k7m3) (c := k7c3) (by decide +kernel) rfl rfl rfl (by decide +kernel)
set_option maxRecDepth 65536 in
theorem w_c4 : (Jvm.Cond.code ({ cls := "java/lang/Object", name := "<init>", desc := "()V" } : Jvm.MethodName) object_method_1_code (1 : Nat) (Option.none : Option Jvm.ClassFile.FieldType)).before args0 about1 = true := code_word (m := ⟨0, 0⟩) (meth := k0m0) (c := k0c0) (by decide +kernel) rfl rfl rfl (by decide +kernel)
set_option maxRecDepth 65536 in
theorem w_c5 : (Jvm.Cond.code ({ cls := "java/lang/StringUTF16", name := "compress", desc := "([CII)[B" } : Jvm.MethodName) jdk_52_method_16_code (6 : Nat) (Option.some (Jvm.ClassFile.FieldType.array Jvm.ClassFile.FieldType.byte))).before args0 about1 = true := code_word (m := ⟨8, 2⟩) (meth := k8m2) (c := k8c2) (by decide +kernel) rfl rfl rfl (by decide +kernel)
set_option maxRecDepth 65536 in
theorem w_c6 : (Jvm.Cond.code ({ cls := "java/lang/StringUTF16", name := "compress", desc := "([CI[BII)I" } : Jvm.MethodName) jdk_52_method_21_code (7 : Nat) (Option.some Jvm.ClassFile.FieldType.int)).before args0 about1 = true := code_word (m := ⟨8, 3⟩) (meth := k8m3) (c := k8c3) (by decide +kernel) rfl rfl rfl (by decide +kernel)
set_option maxRecDepth 65536 in
theorem w_c7 : (Jvm.Cond.code ({ cls := "java/lang/StringUTF16", name := "coderFromArrayLen", desc := "([BI)B" } : Jvm.MethodName) jdk_52_method_15_code (2 : Nat) (Option.some Jvm.ClassFile.FieldType.byte)).before args0 about1 = true := code_word (m := ⟨8, 1⟩) (meth := k8m1) (c := k8c1) (by decide +kernel) rfl rfl rfl (by decide +kernel)
set_option maxRecDepth 65536 in
theorem w_c8 : (Jvm.Cond.code ({ cls := "java/lang/String", name := "equals", desc := "(Ljava/lang/Object;)Z" } : Jvm.MethodName) jdk_42_method_66_code (3 : Nat) (Option.some Jvm.ClassFile.FieldType.boolean)).before args0 about1 = true := code_word (m := ⟨7, 2⟩) (meth := k7m2) (c := k7c2) (by decide +kernel) rfl rfl rfl (by decide +kernel)
set_option maxRecDepth 65536 in
theorem w_c9 : (Jvm.Cond.code ({ cls := "java/lang/StringLatin1", name := "equals", desc := "([B[B)Z" } : Jvm.MethodName) jdk_43_method_13_code (3 : Nat) (Option.some Jvm.ClassFile.FieldType.boolean)).before args0 about1 = true := code_word (m := ⟨9, 1⟩) (meth := k9m1) (c := k9c1) (by decide +kernel) rfl rfl rfl (by decide +kernel)
set_option maxRecDepth 65536 in
theorem w_c10 : (Jvm.Cond.code ({ cls := "com/example/duplex/duplex/compliance/Side", name := "ofLabel", desc := "(Ljava/lang/String;)Lcom/example/duplex/duplex/compliance/Side;" } : Jvm.MethodName) prog_9_method_5_code (5 : Nat) (Option.some (Jvm.ClassFile.FieldType.object "com/example/duplex/duplex/compliance/Side"))).before args0 about1 = true := code_word (m := ⟨11, 2⟩) (meth := k11m2) (c := k11c2) (by decide +kernel) rfl rfl rfl (by decide +kernel)
set_option maxRecDepth 65536 in
theorem w_c11 : (Jvm.Cond.code ({ cls := "com/example/duplex/duplex/compliance/Side", name := "values", desc := "()[Lcom/example/duplex/duplex/compliance/Side;" } : Jvm.MethodName) prog_9_method_1_code (0 : Nat) (Option.some (Jvm.ClassFile.FieldType.array (Jvm.ClassFile.FieldType.object "com/example/duplex/duplex/compliance/Side")))).before args0 about1 = true := code_word (m := ⟨11, 0⟩) (meth := k11m0) (c := k11c0) (by decide +kernel) rfl rfl rfl (by decide +kernel)
set_option maxRecDepth 65536 in
theorem w_c12 : (Jvm.Cond.code ({ cls := "com/example/duplex/duplex/compliance/Side", name := "label", desc := "()Ljava/lang/String;" } : Jvm.MethodName) prog_9_method_4_code (1 : Nat) (Option.some (Jvm.ClassFile.FieldType.object "java/lang/String"))).before args0 about1 = true := code_word (m := ⟨11, 1⟩) (meth := k11m1) (c := k11c1) (by decide +kernel) rfl rfl rfl (by decide +kernel)
def codes1 : List Jvm.Cond := [Jvm.Cond.code x code maxLocals ret, Jvm.Cond.code ({ cls := "com/example/duplex/duplex/compliance/SideOfLabelPinLaw", name := "str", desc := "(ICCCCCCC)Ljava/lang/String;" } : Jvm.MethodName) method_3_code (8 : Nat) (Option.some (Jvm.ClassFile.FieldType.object "java/lang/String")), Jvm.Cond.code ({ cls := "java/lang/String", name := "<init>", desc := "([C)V" } : Jvm.MethodName) jdk_42_method_3_code (2 : Nat) (Option.none : Option Jvm.ClassFile.FieldType), Jvm.Cond.code ({ cls := "java/lang/String", name := "<init>", desc := "([CIILjava/lang/Void;)V" } : Jvm.MethodName) jdk_42_method_149_code (6 : Nat) (Option.none : Option Jvm.ClassFile.FieldType), Jvm.Cond.code ({ cls := "java/lang/Object", name := "<init>", desc := "()V" } : Jvm.MethodName) object_method_1_code (1 : Nat) (Option.none : Option Jvm.ClassFile.FieldType), Jvm.Cond.code ({ cls := "java/lang/StringUTF16", name := "compress", desc := "([CII)[B" } : Jvm.MethodName) jdk_52_method_16_code (6 : Nat) (Option.some (Jvm.ClassFile.FieldType.array Jvm.ClassFile.FieldType.byte)), Jvm.Cond.code ({ cls := "java/lang/StringUTF16", name := "compress", desc := "([CI[BII)I" } : Jvm.MethodName) jdk_52_method_21_code (7 : Nat) (Option.some Jvm.ClassFile.FieldType.int), Jvm.Cond.code ({ cls := "java/lang/StringUTF16", name := "coderFromArrayLen", desc := "([BI)B" } : Jvm.MethodName) jdk_52_method_15_code (2 : Nat) (Option.some Jvm.ClassFile.FieldType.byte), Jvm.Cond.code ({ cls := "java/lang/String", name := "equals", desc := "(Ljava/lang/Object;)Z" } : Jvm.MethodName) jdk_42_method_66_code (3 : Nat) (Option.some Jvm.ClassFile.FieldType.boolean), Jvm.Cond.code ({ cls := "java/lang/StringLatin1", name := "equals", desc := "([B[B)Z" } : Jvm.MethodName) jdk_43_method_13_code (3 : Nat) (Option.some Jvm.ClassFile.FieldType.boolean), Jvm.Cond.code ({ cls := "com/example/duplex/duplex/compliance/Side", name := "ofLabel", desc := "(Ljava/lang/String;)Lcom/example/duplex/duplex/compliance/Side;" } : Jvm.MethodName) prog_9_method_5_code (5 : Nat) (Option.some (Jvm.ClassFile.FieldType.object "com/example/duplex/duplex/compliance/Side")), Jvm.Cond.code ({ cls := "com/example/duplex/duplex/compliance/Side", name := "values", desc := "()[Lcom/example/duplex/duplex/compliance/Side;" } : Jvm.MethodName) prog_9_method_1_code (0 : Nat) (Option.some (Jvm.ClassFile.FieldType.array (Jvm.ClassFile.FieldType.object "com/example/duplex/duplex/compliance/Side"))), Jvm.Cond.code ({ cls := "com/example/duplex/duplex/compliance/Side", name := "label", desc := "()Ljava/lang/String;" } : Jvm.MethodName) prog_9_method_4_code (1 : Nat) (Option.some (Jvm.ClassFile.FieldType.object "java/lang/String"))]
set_option maxRecDepth 65536 in
theorem codes_eq : words1.filter isCode = codes1 := rfl
theorem w_codes : ∀ c ∈ words1.filter isCode, c.before args0 about1 = true := by
  rw [codes_eq]
  intro c hc
  simp only [codes1, List.mem_cons, List.not_mem_nil, or_false] at hc
  rcases hc with rfl | rfl | rfl | rfl | rfl | rfl | rfl | rfl | rfl | rfl | rfl | rfl | rfl
  · exact w_c0
  · exact w_c1
  · exact w_c2
  · exact w_c3
  · exact w_c4
  · exact w_c5
  · exact w_c6
  · exact w_c7
  · exact w_c8
  · exact w_c9
  · exact w_c10
  · exact w_c11
  · exact w_c12
set_option maxRecDepth 65536 in
theorem w_t1 : (words1.take 24).all (fun c => isCode c || c.before args0 about1) = true := by decide +kernel
set_option maxRecDepth 65536 in
theorem w_t2 : ((words1.drop 24).take 24).all (fun c => isCode c || c.before args0 about1) = true := by decide +kernel
set_option maxRecDepth 65536 in
theorem w_t3 : (((words1.drop 24).drop 24).take 24).all (fun c => isCode c || c.before args0 about1) = true := by decide +kernel
set_option maxRecDepth 65536 in
theorem w_t4 : (((words1.drop 24).drop 24).drop 24).all (fun c => isCode c || c.before args0 about1) = true := by decide +kernel
theorem w_tables : (allAtoms (Jvm.Cond.code x code maxLocals ret :: tables_1)).before args0 about1 = true := by
  rw [allAtoms_all]
  show words1.all (fun c => c.before args0 about1) = true
  refine all_split ?_ w_codes
  rw [← List.take_append_drop 24 words1, List.all_append, w_t1, ← List.take_append_drop 24 (words1.drop 24), List.all_append, w_t2, ← List.take_append_drop 24 ((words1.drop 24).drop 24), List.all_append, w_t3, w_t4]
  rfl
set_option maxRecDepth 65536 in
theorem w_rest : rest_1_c.before args0 about1 = true := by decide +kernel
set_option maxRecDepth 65536 in
theorem w_case : (Jvm.Cond.and given_1 narrow_1).before args0 about1 = true := by decide +kernel
set_option maxRecDepth 65536 in
theorem w_consts : constsHeld consts_1 about1 := Jvm.Lit.constsHeldB_iff.mp (by decide +kernel)
theorem w_applies : (headSpec (Jvm.Cond.code x code maxLocals ret :: tables_1) room_1).applies x e0.platform about1 = true :=
  (Spec.applies_iff w_frames).mpr ⟨w_running, w_runnable, w_alone, w_named, w_hears, w_ripe, w_room, w_tables⟩
theorem atStart : AtStart classFile x code maxLocals ret World_1 tables_1 room_1 Calls_1 rest_1 Pre_1 launch0 p0 e0 about1 theMethod args0 below0 :=
  ⟨lists_1, trivial, launch0.admits_env _ _ _, launch0.least_env, fairChoices_fair.cas, fairChoices_fair.clock, w_frames, w_args, w_heap, w_applies, ⟨w_consts, trivial⟩, w_rest, w_case⟩
end start1
theorem witness_1 : WitnessClaimed_1 := ⟨start1.p0, start1.e0, start1.about1, start1.theMethod, start1.args0, start1.below0, start1.atStart⟩
end Jvm.Pilot.@@N@@
