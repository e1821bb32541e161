import JvmDerived
import JvmDerived.Pilot.@@N@@Statement
import JvmDerived.Pilot.@@N@@Code
set_option linter.unusedVariables false
set_option linter.unusedSimpArgs false
set_option maxRecDepth 65536
set_option maxHeartbeats 40000000
namespace Jvm.RoadKit
open Sem ClassFile Op Lib Jvm.Stand Jvm.Free Jvm.LawKit
section New
variable {p : Program} {l : Launch} {e : Env} {R : Room} {s : State} {m : MethodId} {args : Array Value} {below : List Frame} {meth : Method} {c : Code} {T : State} {locs : List Loc} {cells slots : Nat}
theorem retI (X : Stand p l e R s m args below meth c T locs cells slots) (hx : p.tables.exec = Jvm.exec) {pc : Nat} {Ls : Array Slot} {z : Int32} {rest : List Value} (hret : meth.sig.returnType = some .int) (hd : decode c.code pc = .ok (.ireturn, 1)) {fs : List Frame}
    (hl : ∀ (f : JFrame) (acts : List Action), f.method = m → f.locked = none → f.entered = [] → (doReturn e (T.setTop f) acts (some (.int z))).1 = T.setFrames fs) : Steps p.tables e below (T.setTop (mkF m pc Ls (.int z :: rest))) (T.setFrames fs) := by
  have hm' : T.vm.method? m = some meth := X.method'
  have hn : narrow .int (.int z) = .int z := rfl
  show Steps p.tables e below (T.setTop { method := m, pc := pc, locals := Ls, stack := _ :: rest, locked := none }) _
  jvm_step X.here [X.here.top, hx, hd, hm', hret, hn]
  first | (intro acts; rw [hl _ acts rfl rfl rfl]) | rw [hl _ _ rfl rfl rfl]
  exact Steps.refl _
end New
end Jvm.RoadKit
namespace Jvm.Pilot.@@N@@
open Jvm Jvm.ClassFile Sem Op Lib Jvm.Free Jvm.Stand Jvm.LawKit Jvm.RoadKit Bundle Jvm.Pilot.@@N@@.Jvm.D
theorem own_eqI {a : Array Value} {s : State} {t : Term} {n : Int32} (h : (Jvm.Cond.eq t (.int n)).value a s none s [] = some true) : t.eval a s none [] s = some (.int n) := by
  simp only [Cond.value, Term.eval] at h
  cases ht : t.eval a s none [] s with
  | none => simp [ht] at h
  | some x => cases x <;> simp [ht] at h; rw [h]
abbrev o0 : Value := .int (0 : Int32)
abbrev HW (Z : State) (a0 : Array Value) : Prop := ∀ d ∈ tables_1, d.before a0 Z = true
theorem own_W {Z : State} {a0 : Array Value} (hw : HW Z a0) (i : Nat) {c : Jvm.Cond} (q : tables_1[i]? = some c) : c.before a0 Z = true := hw c (List.mem_of_getElem? q)
abbrev Met (l : Launch) (Z : State) (ws : List Jvm.Cond) (y : MethodName) (bytes : ByteArray) (maxL : Nat) (ret : Option FieldType) (rm : Room) (as' : Array Value) (h0 : Heap) (Q : Option Value → Heap → List Loc → Prop) : Prop :=
  MetFree l y (head1 (Jvm.Cond.code y bytes maxL ret :: ws) rm) (fun a U => a = as' ∧ Z.Warmed39 U.vm ∧ U.heap = h0) (fun _ _ _ _ _ => True) (fun _ U o U' => ∃ v L, o = .returned v ∧ Q v U'.heap L ∧ FrameEnd U o U' L rm.cells rm.slots)
abbrev MetW (l : Launch) (Z : State) (ws : List Jvm.Cond) (y : MethodName) (bytes : ByteArray) (maxL : Nat) (ret : Option FieldType) (rm : Room) (as' : Array Value) (h0 : Heap) (Q : Option Value → Heap → List Loc → Prop) : Prop :=
  MetFree l y (head1 (Jvm.Cond.code y bytes maxL ret :: ws) rm) (fun a U => a = as' ∧ Z.Warmed39 U.vm ∧ U.heap = h0) (fun _ _ _ _ _ => True) (fun _ U o U' => ∃ v L, o = .returned v ∧ Q v U'.heap L ∧ ReturnedEndW U o U' L rm.cells rm.slots)
abbrev MetH (l : Launch) (Z : State) (ws : List Jvm.Cond) (y : MethodName) (bytes : ByteArray) (maxL : Nat) (ret : Option FieldType) (rm : Room) (as' : Array Value) (h0 : Heap) (EL : List (String × Nat)) (sf : List Addr) (Q : Option Value → Heap → List Loc → Prop) : Prop :=
  MetFree l y (head1 (Jvm.Cond.code y bytes maxL ret :: ws) rm) (fun a U => a = as' ∧ Z.Warmed39 U.vm ∧ U.heap = h0 ∧ CHv Z EL U.vm h0 ∧ ∀ x ∈ sf, Safe Z EL U.vm h0 x) (fun _ _ _ _ _ => True) (fun _ U o U' => ∃ v L, o = .returned v ∧ Q v U'.heap L ∧ CHr Z EL U.vm U.heap U'.vm U'.heap ∧ ReturnedEndW U o U' L rm.cells rm.slots)
section Own
variable {l : Launch} {Z : State} {ws : List Jvm.Cond} {y : MethodName} {bytes : ByteArray} {maxL : Nat} {ret : Option FieldType} {rm : Room} {as' : Array Value} {h0 : Heap} {EL : List (String × Nat)} {sf : List Addr} {Q : Option Value → Heap → List Loc → Prop}
theorem own_mk (hp : plainFor y = true)
    (body : ∀ (p : Program) (e : Env) (s : State) (m : MethodId) (below : List Frame) (meth : Method) (c : Code) (s₁ : State), Z.Warmed39 s.vm → p.tables.exec = Jvm.exec → c.code = bytes → c.maxLocals = maxL → s.vm.findClass y.cls = some m.cls → meth.name = y.name → meth.sig.returnType = ret → meth.locks = false → Stand p l e rm s m as' below meth c s₁ [] 0 0 → s₁.heap = h0 →
      ∃ (T : State) (v : Option Value) (L : List Loc) (k n : Nat), Stand p l e rm s m as' below meth c T L k n ∧ k ≤ rm.cells ∧ n ≤ rm.slots ∧ (ret = none → v = none) ∧ Q v T.heap L ∧ ∀ fs, (∀ (f : JFrame) (acts : List Action), f.method = m → f.locked = none → f.entered = [] → (doReturn e (T.setTop f) acts v).1 = T.setFrames fs) → Steps p.tables e below (s₁.setTop (entryFrame m as' maxL)) (T.setFrames fs)) : Met l Z ws y bytes maxL ret rm as' h0 Q := by
  refine MetFree.of_bodySF hp hisR ?_
  intro p e s m args below meth c s₁ Bd hml hP hK
  obtain ⟨rfl, hZ, hh⟩ := hP
  have e0 : s₁.heap = h0 := by rw [← hh, Bd.state]; rfl
  obtain ⟨T, v, L, k, n, X, hk, hn, hv, hQ, st⟩ := body p e s m below meth c s₁ hZ Bd.exec Bd.bytes hml (findClass_of_methodNamed Bd.named) (name_of_methodNamed Bd.named Bd.method).1 Bd.returns Bd.notSynchronized (Stand.of_body Bd) e0
  obtain ⟨fs, hr, hrun, hended, hW, hsame⟩ := X.leave (v := v) (fun q => hv (Bd.returns.symm.trans q))
  exact ⟨_, _, st fs hr, hrun, hended, _, _, rfl, hQ, ⟨_, rfl⟩, hW, hsame.mono hk hn⟩
theorem own_mkW (hp : plainFor y = true)
    (body : ∀ (p : Program) (e : Env) (s : State) (m : MethodId) (below : List Frame) (meth : Method) (c : Code) (s₁ : State), Z.Warmed39 s.vm → p.tables.exec = Jvm.exec → c.code = bytes → c.maxLocals = maxL → s.vm.findClass y.cls = some m.cls → meth.name = y.name → meth.sig.returnType = ret → meth.locks = false → Stand p l e rm s m as' below meth c s₁ [] 0 0 → s₁.heap = h0 →
      ∃ (T : State) (v : Option Value) (L : List Loc) (k n : Nat) (vm1 : Vm) (n1 : Nat), Stand p l e rm (s.setVm vm1) m as' below meth c T L k n ∧ s.Since vm1 n1 ∧ n1 ≤ T.heap.size ∧ k ≤ rm.cells ∧ n ≤ rm.slots ∧ (ret = none → v = none) ∧ Q v T.heap L ∧ ∀ fs, (∀ (f : JFrame) (acts : List Action), f.method = m → f.locked = none → f.entered = [] → (doReturn e (T.setTop f) acts v).1 = T.setFrames fs) → Steps p.tables e below (s₁.setTop (entryFrame m as' maxL)) (T.setFrames fs)) : MetW l Z ws y bytes maxL ret rm as' h0 Q := by
  refine MetFree.of_bodySF hp hisR ?_
  intro p e s m args below meth c s₁ Bd hml hP hK
  obtain ⟨rfl, hZ, hh⟩ := hP
  have e0 : s₁.heap = h0 := by rw [← hh, Bd.state]; rfl
  obtain ⟨T, v, L, k, n, vm1, n1, X, hS, hn1, hk, hn, hv, hQ, st⟩ := body p e s m below meth c s₁ hZ Bd.exec Bd.bytes hml (findClass_of_methodNamed Bd.named) (name_of_methodNamed Bd.named Bd.method).1 Bd.returns Bd.notSynchronized (Stand.of_body Bd) e0
  obtain ⟨fs, hr, hrun, hended, hW⟩ := Stand.leaveW X hS hn1 (v := v) (fun q => hv (Bd.returns.symm.trans q))
  exact ⟨_, _, st fs hr, hrun, hended, _, _, rfl, hQ, hW.1, hW.2.1, hW.2.2.1, hW.2.2.2.mono hk hn⟩
theorem own_mkH (hp : plainFor y = true)
    (body : ∀ (p : Program) (e : Env) (s : State) (m : MethodId) (below : List Frame) (meth : Method) (c : Code) (s₁ : State), Z.Warmed39 s.vm → p.tables.exec = Jvm.exec → c.code = bytes → c.maxLocals = maxL → s.vm.findClass y.cls = some m.cls → meth.name = y.name → meth.sig.returnType = ret → meth.locks = false → Stand p l e rm s m as' below meth c s₁ [] 0 0 → s₁.heap = h0 → CHv Z EL s.vm h0 → (∀ x ∈ sf, Safe Z EL s.vm h0 x) →
      ∃ (T : State) (v : Option Value) (L : List Loc) (k n : Nat) (vm1 : Vm) (n1 : Nat), Stand p l e rm (s.setVm vm1) m as' below meth c T L k n ∧ s.Since vm1 n1 ∧ n1 ≤ T.heap.size ∧ k ≤ rm.cells ∧ n ≤ rm.slots ∧ (ret = none → v = none) ∧ Q v T.heap L ∧ CHr Z EL s.vm h0 T.vm T.heap ∧ ∀ fs, (∀ (f : JFrame) (acts : List Action), f.method = m → f.locked = none → f.entered = [] → (doReturn e (T.setTop f) acts v).1 = T.setFrames fs) → Steps p.tables e below (s₁.setTop (entryFrame m as' maxL)) (T.setFrames fs)) : MetH l Z ws y bytes maxL ret rm as' h0 EL sf Q := by
  refine MetFree.of_bodySF hp hisR ?_
  intro p e s m args below meth c s₁ Bd hml hP hK
  obtain ⟨rfl, hZ, hh, H0, hsf⟩ := hP
  have e0 : s₁.heap = h0 := by rw [← hh, Bd.state]; rfl
  obtain ⟨T, v, L, k, n, vm1, n1, X, hS, hn1, hk, hn, hv, hQ, hC, st⟩ := body p e s m below meth c s₁ hZ Bd.exec Bd.bytes hml (findClass_of_methodNamed Bd.named) (name_of_methodNamed Bd.named Bd.method).1 Bd.returns Bd.notSynchronized (Stand.of_body Bd) e0 H0 hsf
  obtain ⟨fs, hr, hrun, hended, hW⟩ := Stand.leaveW X hS hn1 (v := v) (fun q => hv (Bd.returns.symm.trans q))
  have hC' : CHr Z EL s.vm s.heap (T.setFrames fs).vm (T.setFrames fs).heap := by
    have a : (T.setFrames fs).vm = T.vm := rfl
    have b : (T.setFrames fs).heap = T.heap := rfl
    rw [a, b, hh]; exact hC
  exact ⟨_, _, st fs hr, hrun, hended, _, _, rfl, hQ, hC', hW.1, hW.2.1, hW.2.2.1, hW.2.2.2.mono hk hn⟩
end Own
abbrev SS (p : Program) (e : Env) (b : List Frame) (T : State) (m : MethodId) (pc : Nat) (L : Array Slot) (S : List Value) (t : State) : Prop := Steps p.tables e b (T.setTop (mkF m pc L S)) t
section OwnC
variable {p : Program} {l : Launch} {e : Env} {R : Room} {s : State} {m : MethodId} {args : Array Value} {below : List Frame} {meth : Method} {c : Code} {T : State} {locs : List Loc} {cells slots : Nat} {Z : State} {a0 : Array Value} {h : Heap} {own : String} {index ml pc maxL : Nat} {y z : MethodName} {bytes : ByteArray} {ret : Option FieldType} {rm : Room} {as' : Array Value} {Q : Option Value → Heap → List Loc → Prop} {ps : List FieldType} {r : Option FieldType} {b : Addr} {C : String}
/-- what a call asks of the room -/
abbrev Rok (R rm : Room) (cells slots maxL W : Nat) (y : MethodName) : Prop := (y.cls ≠ "java/lang/invoke/MethodHandle" ∧ y.cls ≠ "java/lang/invoke/VarHandle") ∧ rm.frames + 1 ≤ R.frames ∧ W + (maxL + 11) + rm.locals ≤ R.locals ∧ cells + rm.cells ≤ R.cells ∧ slots + rm.slots ≤ R.slots
theorem own_cs (X : Stand p l e R s m args below meth c T locs cells slots) (hx : p.tables.exec = Jvm.exec) (hZ : Z.Warmed39 s.vm) (hown : s.vm.findClass own = some m.cls) (hml : c.maxLocals = ml) (w1 : (Jvm.Cond.methodLink own index y).before a0 Z = true) (w2 : (Jvm.Cond.static y).before a0 Z = true) (w3 : (Jvm.Cond.initialized y.cls).before a0 Z = true) (w4 : (Jvm.Cond.code y bytes maxL ret).before a0 Z = true)
    (hM : Met l Z [] y bytes maxL ret rm as' h Q) (eT : T.heap = h) (hd : decode c.code pc = .ok (.invokestatic index, 3)) (W : Nat) (Ls : Array Slot) (argsL rest : List Value) (pd : parseMethodDescriptor y.desc = some ⟨ps, r⟩) (ok : Rok R rm cells slots maxL W y := by decide) (hsz : Ls.size = ml := by rfl) (hln : argsL.length = ps.length := by rfl) (has : argsL.toArray = as' := by rfl) (hW : 2 * 0 + (rest.map fun v => v.category).sum ≤ W := by exact Nat.le_of_eq rfl) :
    ∃ v T' L', Stand p l e R s m args below meth c T' (locs ++ L') (cells + rm.cells) (slots + rm.slots) ∧ Q v T'.heap L' ∧ ∀ t, SS p e below T' m (pc + 3) Ls (v.toList ++ rest) t → SS p e below T m pc Ls (argsL.reverse ++ rest) t := by
  obtain ⟨v, _, ⟨T', L, k, n⟩, -, X', ⟨Lc, hQ, rfl, rfl, rfl⟩, st⟩ := Jvm.LawKit.callS X hx (y := y) hown (mvT hZ w1) (mvT hZ w2) (mvT hZ w3) (mvT hZ w4) ok.1 (backOf (W := W) hM hZ w4 w3 ok.2.1 ok.2.2.1) (g := mkF m pc Ls (argsL.reverse ++ rest)) rfl (hsz.trans hml.symm) (argsL := argsL) (rest := rest) (lenOf pd hln) rfl hW hd (fun _ _ => ⟨has, eT, ok.2.2.2.1, ok.2.2.2.2⟩)
  exact ⟨v, T', Lc, X', hQ, st⟩
theorem own_cp (X : Stand p l e R s m args below meth c T locs cells slots) (hx : p.tables.exec = Jvm.exec) (hZ : Z.Warmed39 s.vm) (hown : s.vm.findClass own = some m.cls) (hml : c.maxLocals = ml) (hy : y.name = "<init>") (w1 : (Jvm.Cond.methodLink own index y).before a0 Z = true) (w2 : (Jvm.Cond.instanceMethod y).before a0 Z = true) (w3 : (Jvm.Cond.initialized y.cls).before a0 Z = true) (w4 : (Jvm.Cond.code y bytes maxL none).before a0 Z = true)
    (hM : Met l Z [] y bytes maxL none rm as' h Q) (eT : T.heap = h) (hd : decode c.code pc = .ok (.invokespecial index, 3)) (W : Nat) (Ls : Array Slot) (b : Addr) (argsL rest : List Value) (pd : parseMethodDescriptor y.desc = some ⟨ps, r⟩) (ok : Rok R rm cells slots maxL W y := by decide) (hsz : Ls.size = ml := by rfl) (hln : argsL.length = ps.length := by rfl) (has : (.ref b :: argsL).toArray = as' := by rfl) (hW : 2 * 0 + (rest.map fun v => v.category).sum ≤ W := by exact Nat.le_of_eq rfl) :
    ∃ v T' L', Stand p l e R s m args below meth c T' (locs ++ L') (cells + rm.cells) (slots + rm.slots) ∧ Q v T'.heap L' ∧ ∀ t, SS p e below T' m (pc + 3) Ls (v.toList ++ rest) t → SS p e below T m pc Ls (argsL.reverse ++ .ref b :: rest) t := by
  obtain ⟨v, _, ⟨T', L, k, n⟩, -, X', ⟨Lc, hQ, rfl, rfl, rfl⟩, st⟩ := X.specialBack hx (y := y) hy hown (mvT hZ w1) (mvT hZ w2) (mvT hZ w4) ok.1 (backOf (W := W) hM hZ w4 w3 ok.2.1 ok.2.2.1) (g := mkF m pc Ls (argsL.reverse ++ .ref b :: rest)) rfl (hsz.trans hml.symm) (Steps.refl _) (a := b) (argsL := argsL) (rest := rest) (lenOf pd hln) rfl hW hd (fun _ _ => ⟨has, eT, ok.2.2.2.1, ok.2.2.2.2⟩)
  exact ⟨v, T', Lc, X', hQ, fun t q => st.trans q⟩
theorem own_cv (X : Stand p l e R s m args below meth c T locs cells slots) (hx : p.tables.exec = Jvm.exec) (hZ : Z.Warmed39 s.vm) (hown : s.vm.findClass own = some m.cls) (hml : c.maxLocals = ml) (w1 : (Jvm.Cond.methodLink own index y).before a0 Z = true) (w2 : (Jvm.Cond.declares y).before a0 Z = true) (nf : NotFace Z y) (ws : (Jvm.Cond.selects C y z).before a0 Z = true) (wi : (Jvm.Cond.instanceMethod z).before a0 Z = true) (w3 : (Jvm.Cond.initialized z.cls).before a0 Z = true) (w4 : (Jvm.Cond.code z bytes maxL ret).before a0 Z = true)
    (hM : Met l Z [] z bytes maxL ret rm as' h Q) (eT : T.heap = h) (E : Exa Z h b C) (hd : decode c.code pc = .ok (.invokevirtual index, 3)) (W : Nat) (Ls : Array Slot) (argsL rest : List Value) (pd : parseMethodDescriptor y.desc = some ⟨ps, r⟩) (ok : Rok R rm cells slots maxL W y := by decide) (hsz : Ls.size = ml := by rfl) (hln : argsL.length = ps.length := by rfl) (has : (.ref b :: argsL).toArray = as' := by rfl) (hW : 2 * 0 + (rest.map fun v => v.category).sum ≤ W := by exact Nat.le_of_eq rfl) :
    ∃ v T' L', Stand p l e R s m args below meth c T' (locs ++ L') (cells + rm.cells) (slots + rm.slots) ∧ Q v T'.heap L' ∧ ∀ t, SS p e below T' m (pc + 3) Ls (v.toList ++ rest) t → SS p e below T m pc Ls (argsL.reverse ++ .ref b :: rest) t := by
  obtain ⟨cB, kB, qa, qb, qc⟩ := isOf hZ eT E
  obtain ⟨v, _, ⟨T', L, k, n⟩, -, X', ⟨Lc, hQ, rfl, rfl, rfl⟩, st⟩ := X.virtualBack hx (y := y) (z := z) hown (mvT hZ w1) (mvT hZ w2) (nf.move hZ.alike) (mvT hZ ws) (mvT hZ wi) ok.1 (backOf (W := W) hM hZ w4 w3 ok.2.1 ok.2.2.1) qa qc (g := mkF m pc Ls (argsL.reverse ++ .ref b :: rest)) rfl (hsz.trans hml.symm) (Steps.refl _) (argsL := argsL) (rest := rest) (lenOf pd hln) rfl hW hd (fun _ _ => ⟨has, eT, ok.2.2.2.1, ok.2.2.2.2⟩)
  exact ⟨v, T', Lc, X', hQ, fun t q => st.trans q⟩
end OwnC
theorem own_che {Z T : State} {EL : List (String × Nat)} {vm : Vm} {h0 h : Heap} (e : T.heap = h) (C : CHr Z EL vm h0 T.vm h) : CHr Z EL vm h0 T.vm T.heap := by rw [e]; exact C
theorem own_sf0 {Z : State} {EL : List (String × Nat)} {vm : Vm} {h : Heap} : ∀ x ∈ ([] : List Addr), Safe Z EL vm h x ∧ x < h.size := fun _ q => nomatch q
theorem own_sfS {Z : State} {EL : List (String × Nat)} {vm : Vm} {h : Heap} {x : Addr} {ws : List Addr} (n : Safe Z EL vm h x) (lt : x < h.size) (r : ∀ y ∈ ws, Safe Z EL vm h y ∧ y < h.size) : ∀ y ∈ x :: ws, Safe Z EL vm h y ∧ y < h.size := fun y q => by
  rcases List.mem_cons.mp q with rfl | q
  · exact ⟨n, lt⟩
  · exact r y q
theorem own_backH {l : Launch} {R : Room} {p : Program} {e : Env} {below : List Frame} {Z s : State} {a0 args : Array Value} {EL : List (String × Nat)} {h : Heap} {vm0 : Vm} {y : MethodName} {bytes : ByteArray} {maxL : Nat} {ret : Option FieldType} {rm : Room} {len W : Nat} {as' : Array Value} {sf : List Addr} {Q : Option Value → Heap → List Loc → Prop}
    (hM : MetFree l y (head1 [Jvm.Cond.code y bytes maxL ret] rm) (fun a U => a = as' ∧ Z.Warmed39 U.vm ∧ U.heap = h ∧ CHv Z EL U.vm h ∧ ∀ x ∈ sf, Safe Z EL U.vm h x) (fun _ _ _ _ _ => True) (fun _ U o U' => ∃ v L, o = .returned v ∧ Q v U'.heap L ∧ CHr Z EL U.vm U.heap U'.vm U'.heap ∧ ReturnedEndW U o U' L rm.cells rm.slots))
    (hZ : Z.Warmed39 vm0) (wc : (Jvm.Cond.code y bytes maxL ret).before a0 Z = true) (wz : (Jvm.Cond.initialized y.cls).before a0 Z = true) (hf : rm.frames + 1 ≤ R.frames) (hl : W + (maxL + 11) + rm.locals ≤ R.locals) (hEL : EW Z a0 EL) (H : CHv Z EL vm0 h) (hs : ∀ x ∈ sf, Safe Z EL vm0 h x ∧ x < h.size) :
    BackS l R p e below (s.setVm vm0) args y len W (fun A a => a = as' ∧ A.U.heap = h ∧ A.cells + rm.cells ≤ R.cells ∧ A.slots + rm.slots ≤ R.slots)
      (fun A _ v B => ∃ L, Q v B.U.heap L ∧ B.locs = A.locs ++ L ∧ B.cells = A.cells + rm.cells ∧ B.slots = A.slots + rm.slots ∧ CHr Z EL vm0 h B.U.vm B.U.heap) := by
  refine BackS.of_freeW (bytes := bytes) (maxL := maxL) (ret := ret) (E := fun _ first o t L k n => (k = rm.cells ∧ n = rm.slots) ∧ (∃ v, o = .returned v ∧ Q v t.heap L) ∧ CHr Z EL first.vm first.heap t.vm t.heap) hM hf hl ?_ ?_ ?_ ?_ ?_
  · intro m meth c A a Y hp
    have hU : Z.Warmed39 A.U.vm := wtrans (s := s.setVm vm0) hZ Y.warmed
    refine ⟨?_, mv hU wc, mv hU wz, hp.2.2.1, hp.2.2.2⟩
    show (Jvm.Cond.and _ .tt).before a A.U = true
    rw [Cond.before_and, mv hU wc]; rfl
  · intro m meth c A a g mk Y hp
    have q := CHv.at Y hZ hEL H
    exact ⟨hp.1, wtrans (s := s.setVm vm0) hZ Y.warmed, hp.2.1, q.1, fun x hx => q.safe (hs x hx).2 (hs x hx).1⟩
  · intros; trivial
  · rintro _ _ _ _ ⟨v, L, h1, h2, h3, h4⟩
    exact ⟨L, _, _, h4, ⟨rfl, rfl⟩, ⟨v, h1, h2⟩, h3⟩
  · rintro m meth c A a g mk v t L k n Y hp - - ⟨⟨rfl, rfl⟩, ⟨v', e3, e4⟩, e5⟩
    cases e3
    refine ⟨L, e4, rfl, rfl, rfl, (CHv.at Y hZ hEL H).trans ?_⟩
    have e6 : (A.U.calling g mk a).heap = h := hp.2.1
    rw [e6] at e5
    exact e5
def Elt (Z : State) (h : Heap) (a : Addr) (ty : FieldType) (j : Int32) (v : Value) : Prop := ∃ c : Cell, Arr Z h a c ty ∧ ¬ (j < 0 ∨ c.slots.size ≤ j.toNatClampNeg) ∧ c.slots[j.toNatClampNeg]? = some v
theorem Elt.ext {Z : State} {h h' : Heap} {a : Addr} {ty : FieldType} {j : Int32} {v : Value} (F : Elt Z h a ty j v) (E : Ext h h') : Elt Z h' a ty j v := by obtain ⟨c, A, r⟩ := F; exact ⟨c, A.ext E, r⟩
theorem Elt.lt {Z : State} {h : Heap} {a : Addr} {ty : FieldType} {j : Int32} {v : Value} (F : Elt Z h a ty j v) : a < h.size := by obtain ⟨c, A, -⟩ := F; exact A.lt
theorem own_arvty {Z : State} {h : Heap} {a b : Addr} {k1 k2 : ClassId} {t1 t2 : FieldType} {z1 z2 : Int32} {v1 v2 : List Value} {d1 d2 : Value} (A : Arv Z h a k1 t1 z1 v1 d1) (B : Arv Z h b k2 t2 z2 v2 d2) (hn : t1 ≠ t2) : a ≠ b := fun e => by
  subst e
  obtain ⟨c1, ⟨a1, ⟨-, q1, r1, m1, w1⟩, -⟩, -⟩ := A
  obtain ⟨c2, ⟨a2, ⟨-, q2, r2, m2, w2⟩, -⟩, -⟩ := B
  cases a1.symm.trans a2
  cases r1.symm.trans r2
  rw [w1] at w2
  injection w2 with _ e2
  exact hn e2
theorem own_decl {args : Array Value} {s : State} {y : MethodName} {bytes : ByteArray} {maxL : Nat} {ret : Option FieldType} (hi : (Jvm.Cond.instanceMethod y).before args s = true) (hc : (Jvm.Cond.code y bytes maxL ret).before args s = true) : (Jvm.Cond.declares y).before args s = true := by
  obtain ⟨mk, methM, hnamed, hmethM, hst, hab⟩ := Cond.instanceMethod_spec hi
  obtain ⟨m2, cM, q1, -, -, -, -, -, -, hsig⟩ := Cond.code_spec hnamed hc
  cases hmethM.symm.trans q1
  simp [Cond.before, Cond.holds, Cond.value, hnamed, hmethM, hst, hsig]
theorem own_char (x : Int32) (h1 : ¬ ((255 : Int32) < x)) (h2 : ¬ (x < (0 : Int32))) : x.toUInt32.toUInt16.toUInt32.toInt32 = x ∧ (x.toInt8.toInt32 &&& (255 : Int32)) = x := by
  have e1 := c_i2c x
  have e2 := c_mask x.toInt8.toInt32 255 8 (by decide) (by decide)
  have e3 := c_i2b x
  simp only [Int32.lt_iff_toInt_lt, Int32.reduceToInt] at h1 h2
  constructor
  · rw [← Int32.toInt_inj]; omega
  · rw [← Int32.toInt_inj, e2]; omega
theorem own_c255 (x : Int32) : ¬ ((255 : Int32) < (x &&& (255 : Int32))) ∧ ¬ ((x &&& (255 : Int32)) < (0 : Int32)) := by
  have e2 := c_mask x 255 8 (by decide) (by decide)
  simp only [Int32.lt_iff_toInt_lt, Int32.reduceToInt, e2]
  omega
theorem own_narB (x : Int32) : nar .byte (x.toInt8.toInt32) = x.toInt8.toInt32 := by
  show x.toInt8.toInt32.toInt8.toInt32 = x.toInt8.toInt32
  simp
theorem own_narC (x : Int32) : nar .char (x.toUInt32.toUInt16.toUInt32.toInt32) = x.toUInt32.toUInt16.toUInt32.toInt32 := by
  show x.toUInt32.toUInt16.toUInt32.toInt32.toUInt32.toUInt16.toUInt32.toInt32 = _
  have e1 := c_i2c x
  have e2 := c_i2c (x.toUInt32.toUInt16.toUInt32.toInt32)
  rw [← Int32.toInt_inj]; omega
theorem own_nput {t : FieldType} {x : Int32} (ht : t = .boolean ∨ t = .byte ∨ t = .char ∨ t = .short) (h : nar t x = x) : narrow t (.int x) = .int x := by
  have q : narrow t (.int x) = .int (nar t x) := by rcases ht with rfl | rfl | rfl | rfl <;> rfl
  rw [q, h]
theorem own_fput {t : FieldType} {x : Int32} (ht : t = .boolean ∨ t = .byte ∨ t = .char ∨ t = .short) (h : nar t x = x) : fits t (.int x) = true := by
  rw [← h]
  rcases ht with rfl | rfl | rfl | rfl
  · exact fits_nar_bool x
  · exact fits_nar_byte x
  · exact fits_nar_char x
  · exact fits_nar_short x
theorem own_nf {args : Array Value} {s : State} {C : String} {x y z : MethodName} (e : z.cls = y.cls) (hsel : (Jvm.Cond.selects C x y).before args s = true) : NotFace s z := fun r0 h0 => by
  obtain ⟨c2, r2, m2, q1, q2, q3, q4, kP, hkP, hkPi⟩ := Cond.selects_spec hsel
  have a := findClass_of_methodNamed h0
  have b := findClass_of_methodNamed q3
  rw [e] at a
  have q : r0.cls = m2.cls := Option.some.inj (a.symm.trans b)
  exact ⟨kP, by rw [q]; exact hkP, hkPi⟩
theorem own_same {args : Array Value} {s : State} {y : MethodName} (hm : y.cls ≠ "java/lang/invoke/MethodHandle" ∧ y.cls ≠ "java/lang/invoke/VarHandle") (hd : (Jvm.Cond.instanceMethod y).before args s = true) (nf : NotFace s y) : (Jvm.Cond.sameMethod y.cls y.cls y.name y.desc).before args s = true := by
  obtain ⟨mk, methM, hnamed, hmethM, hstM, habM⟩ := Cond.instanceMethod_spec hd
  obtain ⟨k, hk, hni⟩ := nf mk hnamed
  have a := findClass_of_methodNamed hnamed
  have f := State.methodFound?_of_named hnamed hm
  have hnamed' : s.methodNamed? ⟨y.cls, y.name, y.desc⟩ = some mk := hnamed
  simp [Cond.before, Cond.holds, Cond.value, a, f, hnamed', hk, hni]
theorem own_neI {a : Array Value} {s : State} {t : Term} {n x : Int32} (e : t.eval a s none [] s = some (.int x)) (h : (Jvm.Cond.not (.eq t (.int n))).value a s none s [] = some true) : ¬ (x = n) := by
  have h := not_v h
  simp only [Cond.value, Term.eval, e] at h
  simpa using h
theorem own_nsroot {Z : State} {a0 : Array Value} {O K : String} {n : Nat} (w : (Jvm.Cond.noSuperclass O).before a0 Z = true) (wk : (Jvm.Cond.instantiable K n).before a0 Z = true) (hn : O ≠ K) : NS Z O K := by
  obtain ⟨c, k, h1, h2, h3, -, -⟩ := Cond.noSuperclass_spec w
  obtain ⟨t, k', g1, -⟩ := Cond.instantiable_spec wk
  have ne := ids_ne h1 g1 hn
  refine ⟨c, t, h1, g1, fun fuel => ?_⟩
  cases fuel with
  | zero => rfl
  | succ f => simp [Vm.isSubclassAux, ne, h2, h3]
theorem own_nsno {Z : State} {a0 : Array Value} {C S K : String} {n : Nat} (w : (Jvm.Cond.superclass C S).before a0 Z = true) (wk : (Jvm.Cond.instantiable K n).before a0 Z = true) (q : NS Z C K) (hn : C ≠ K) : ∃ c t, Z.vm.findClass C = some c ∧ Z.vm.findClass K = some t ∧ Z.vm.assignable c t = false := by
  obtain ⟨c, t, h0, g0, n3⟩ := q
  obtain ⟨p, k, kp, h1, h2, h3, h4, h5, -, h7⟩ := Cond.superclass_spec h0 w
  obtain ⟨t', k', g1, g2, g3, g4, -⟩ := Cond.instantiable_spec wk
  cases g0.symm.trans g1
  refine ⟨c, t, h0, g0, ?_⟩
  cases e : Z.vm.assignable c t with
  | false => rfl
  | true =>
    have g5 : k'.isInterface = false := by
      cases z : k'.isInterface with
      | false => rfl
      | true => simp [z] at g4
    have a := isSubclass_of_assignable h2 g2 h5 g3 g5 e
    have b : Z.vm.isSubclass c t = false := n3 _
    rw [b] at a; cases a
theorem own_eqR {a : Array Value} {s : State} {t u : Term} {b : Addr} (hu : u.eval a s none [] s = some (.ref b)) (h : (Jvm.Cond.eq t u).value a s none s [] = some true) : t.eval a s none [] s = some (.ref b) := by
  simp only [Cond.value, hu] at h
  cases ht : t.eval a s none [] s with
  | none => simp [ht] at h
  | some x => cases x <;> simp [ht] at h; rw [h]
abbrev MY0 : MethodName := ⟨"java/lang/Math", "min", "(II)I"⟩
abbrev MY1 : MethodName := ⟨"com/example/dossiertools/dossiertools/LeafReferenceEqualsPinLaw", "len", "(I)I"⟩
abbrev MY2 : MethodName := ⟨"com/example/dossiertools/dossiertools/LeafReferenceEqualsPinLaw", "same", "(IIII)Z"⟩
abbrev MY3 : MethodName := ⟨"java/lang/String", "<init>", "([CIILjava/lang/Void;)V"⟩
abbrev MY4 : MethodName := ⟨"java/lang/String", "<init>", "([C)V"⟩
abbrev MY5 : MethodName := ⟨"java/lang/StringLatin1", "canEncode", "(C)Z"⟩
abbrev MY6 : MethodName := ⟨"java/lang/StringLatin1", "toBytes", "(C)[B"⟩
abbrev MY7 : MethodName := ⟨"java/lang/String", "<init>", "([BB)V"⟩
abbrev MY8 : MethodName := ⟨"java/lang/String", "valueOf", "(C)Ljava/lang/String;"⟩
abbrev MY9 : MethodName := ⟨"java/lang/StringUTF16", "compress", "([CI[BII)I"⟩
abbrev MY10 : MethodName := ⟨"java/lang/StringUTF16", "compress", "([CII)[B"⟩
abbrev MY11 : MethodName := ⟨"java/lang/StringUTF16", "coderFromArrayLen", "([BI)B"⟩
abbrev MY12 : MethodName := ⟨"com/example/dossiertools/dossiertools/LeafReferenceEqualsPinLaw", "str", "(II)Ljava/lang/String;"⟩
abbrev MY13 : MethodName := ⟨"java/lang/StringLatin1", "equals", "([B[B)Z"⟩
abbrev MY14 : MethodName := ⟨"java/lang/String", "equals", "(Ljava/lang/Object;)Z"⟩
abbrev MY15 : MethodName := ⟨"com/example/dossiertools/dossiertools/LeafReference", "<init>", "(Ljava/lang/String;Ljava/lang/String;)V"⟩
abbrev MY16 : MethodName := ⟨"com/example/dossiertools/dossiertools/LeafReference", "equals", "(Ljava/lang/Object;)Z"⟩
abbrev FA17 (Z : State) (h : Heap) (a : Addr) (v : Value) : Prop := Fld Z h a "java/lang/String" "coder" "B" v
abbrev FA18 (Z : State) (h : Heap) (a : Addr) (v : Value) : Prop := Fld Z h a "java/lang/String" "value" "[B" v
abbrev FA19 (Z : State) (h : Heap) (a : Addr) (v : Value) : Prop := Fld Z h a "com/example/dossiertools/dossiertools/LeafReference" "sequence" "Ljava/lang/String;" v
abbrev FA20 (Z : State) (h : Heap) (a : Addr) (v : Value) : Prop := Fld Z h a "com/example/dossiertools/dossiertools/LeafReference" "id" "Ljava/lang/String;" v
abbrev EA21 (Z : State) (h : Heap) (a : Addr) : Prop := Exa Z h a "java/lang/String"
abbrev EA22 (Z : State) (h : Heap) (a : Addr) : Prop := Exa Z h a "[B"
abbrev EA23 (Z : State) (h : Heap) (a : Addr) : Prop := Exa Z h a "com/example/dossiertools/dossiertools/LeafReference"
abbrev SA24 (Z : State) (h : Heap) (v : Value) : Prop := Sta Z h "java/lang/String" "COMPACT_STRINGS" "Z" v
abbrev SA25 (Z : State) (h : Heap) (v : Value) : Prop := Sta Z h "jdk/internal/util/Preconditions" "SIOOBE_FORMATTER" "Ljava/util/function/BiFunction;" v
def Q0 (n0 : Nat) (v : Option Value) (L : List Loc) : Prop := v = some (.int (1 : Int32)) ∧ Fr n0 L
def QI (r : Int32) (h0 : Heap) (n0 : Nat) (v : Option Value) (h : Heap) (L : List Loc) : Prop := v = some (.int r) ∧ Fr n0 L ∧ h = h0
def own_len (b : Int32) : Int32 := if (2 : Int32) < (b &&& (3 : Int32)) then 2 else (b &&& (3 : Int32))
def own_sn (n : Int32) : Int32 := if n = 0 then 0 else if n = 1 then 1 else 2
def own_sl (n x y : Int32) : List Value := if n = 0 then [] else if n = 1 then [.int x] else [.int x, .int y]
def own_s8 (x : Int32) : Int32 := (x.toUInt32 >>> ((8 : Int32) &&& 31).toUInt32).toInt32
def own_tl (la x y : Int32) : Int32 := if la < 2 then 1 else if (own_s8 x &&& 255) = (own_s8 y &&& 255) then 1 else 0
def own_sm (la x lb y : Int32) : Int32 := if la = lb then (if la < 1 then own_tl la x y else if (x &&& 255) = (y &&& 255) then own_tl la x y else 0) else 0
def own_eqs (l1 x1 y1 l2 x2 y2 : Int32) : Int32 := if own_sn l1 = own_sn l2 then (if l1 = 0 then 1 else if x1 = x2 then (if l1 = 1 then 1 else if y1 = y2 then 1 else 0) else 0) else 0
theorem own_s3 (n x y : Int32) : (n = 0 ∧ own_sn n = 0 ∧ own_sl n x y = []) ∨ (n = 1 ∧ own_sn n = 1 ∧ own_sl n x y = [.int x]) ∨ (¬ (n = 0) ∧ ¬ (n = 1) ∧ own_sn n = 2 ∧ own_sl n x y = [.int x, .int y]) := by
  by_cases h0 : n = 0
  · subst h0; exact Or.inl ⟨rfl, rfl, rfl⟩
  · by_cases h1 : n = 1
    · subst h1; exact Or.inr (Or.inl ⟨rfl, rfl, rfl⟩)
    · exact Or.inr (Or.inr ⟨h0, h1, by rw [own_sn, if_neg h0, if_neg h1], by rw [own_sl, if_neg h0, if_neg h1]⟩)
def Qs (Z : State) (n : Int32) (vs : List Value) (h0 : Heap) (n0 : Nat) (v : Option Value) (h : Heap) (L : List Loc) : Prop := ∃ (b w : Addr) (k : ClassId), v = some (.ref b) ∧ Fr n0 L ∧ Keep h0 h [] ∧ h0.size ≤ b ∧ EA21 Z h b ∧ FA17 Z h b o0 ∧ FA18 Z h b (.ref w) ∧ Arv Z h w k .byte n vs o0
theorem d_0 : decode method_2_code 0 = .ok (.iload_n 0, 1) := by decide +kernel
theorem d_1 : decode method_2_code 1 = .ok (.iconst 3, 1) := by decide +kernel
theorem d_2 : decode method_2_code 2 = .ok (.iand, 1) := by decide +kernel
theorem d_3 : decode method_2_code 3 = .ok (.iconst 2, 1) := by decide +kernel
theorem d_4 : decode method_2_code 4 = .ok (.invokestatic 7, 3) := by decide +kernel
theorem d_5 : decode jdk_29_method_69_code 0 = .ok (.iload_n 0, 1) := by decide +kernel
theorem d_6 : decode jdk_29_method_69_code 1 = .ok (.iload_n 1, 1) := by decide +kernel
theorem d_7 : decode jdk_29_method_69_code 2 = .ok (.if_icmp .gt 7, 3) := by decide +kernel
theorem d_8 : decode jdk_29_method_69_code 9 = .ok (.iload_n 1, 1) := by decide +kernel
theorem d_9 : decode jdk_29_method_69_code 10 = .ok (.ireturn, 1) := by decide +kernel
theorem ef_10 (m : MethodId) (p1 : Int32) : entryFrame m #[(.int p1), (.int (2 : Int32))] 2 = mkF m 0 #[iv p1, iv (2 : Int32)] [] := by first | (simp [entryFrame, mkF, argsToLocals, Value.category]; done) | rfl
def Q1_min (Z : State) (p1 : Int32) (h0 : Heap) (n0 : Nat) (v : Option Value) (h : Heap) (L : List Loc) : Prop := v = some (.int (2 : Int32)) ∧ Fr n0 L ∧ h = h0
theorem rm1_min (l : Launch) (Z : State) (a0 : Array Value) (hw : HW Z a0) (p1 : Int32) (h0 : Heap) (n0 : Nat) (O0 : Old Z n0 h0) (hc_0 : (2 : Int32) < p1) :
    Met l Z [] MY0 jdk_29_method_69_code 2 (some .int) ({ frames := 0, cells := 0, slots := 0, locals := 0 } : Room) #[(.int p1), (.int (2 : Int32))] h0 (Q1_min Z p1 h0 n0) := by
  have W := @own_W _ _ hw
  refine own_mk (Jvm.Free.JP.mathPlain rfl (by decide +kernel)) ?_
  intro p e s m below meth c s₁ hZ hx hby hml hown hnm hret hlk X0 e0
  have N0 := Fr.nil n0
  refine ⟨s₁, some (.int (2 : Int32)), _, _, _, X0, by decide, by decide, nofun, ?_, fun fs hr => castTop (ef_10 m p1) ?_⟩
  · show Q1_min Z p1 h0 n0 _ s₁.heap _
    rw [e0]
    exact ⟨rfl, N0, rfl⟩
  · show SS p e below s₁ m 0 #[iv p1, iv (2 : Int32)] [] _
    refine XS.iloadN X0.here hx rfl (hb hby d_5) rfl ?_
    refine XS.iloadN X0.here hx rfl (hb hby d_6) rfl ?_
    refine XS.icmpYes X0.here hx rfl (pc0 := 2) (pc' := 9) rfl (hb hby d_7) rfl (tlt hc_0).2.2.1 (by decide) (by decide) ?_
    refine XS.iloadN X0.here hx rfl (hb hby d_8) rfl ?_
    exact retI X0 hx hret (hb hby d_9) hr
theorem pd_11 : parseMethodDescriptor "(II)I" = some ⟨[.int, .int], some .int⟩ := by decide +kernel
theorem d_12 : decode method_2_code 7 = .ok (.ireturn, 1) := by decide +kernel
theorem d_13 : decode jdk_29_method_69_code 5 = .ok (.iload_n 0, 1) := by decide +kernel
theorem d_14 : decode jdk_29_method_69_code 6 = .ok (.goto 4, 3) := by decide +kernel
def Q2_min (Z : State) (p1 : Int32) (h0 : Heap) (n0 : Nat) (v : Option Value) (h : Heap) (L : List Loc) : Prop := v = some (.int p1) ∧ Fr n0 L ∧ h = h0
theorem rm2_min (l : Launch) (Z : State) (a0 : Array Value) (hw : HW Z a0) (p1 : Int32) (h0 : Heap) (n0 : Nat) (O0 : Old Z n0 h0) (hc_0 : ¬ ((2 : Int32) < p1)) :
    Met l Z [] MY0 jdk_29_method_69_code 2 (some .int) ({ frames := 0, cells := 0, slots := 0, locals := 0 } : Room) #[(.int p1), (.int (2 : Int32))] h0 (Q2_min Z p1 h0 n0) := by
  have W := @own_W _ _ hw
  refine own_mk (Jvm.Free.JP.mathPlain rfl (by decide +kernel)) ?_
  intro p e s m below meth c s₁ hZ hx hby hml hown hnm hret hlk X0 e0
  have N0 := Fr.nil n0
  refine ⟨s₁, some (.int p1), _, _, _, X0, by decide, by decide, nofun, ?_, fun fs hr => castTop (ef_10 m p1) ?_⟩
  · show Q2_min Z p1 h0 n0 _ s₁.heap _
    rw [e0]
    exact ⟨rfl, N0, rfl⟩
  · show SS p e below s₁ m 0 #[iv p1, iv (2 : Int32)] [] _
    refine XS.iloadN X0.here hx rfl (hb hby d_5) rfl ?_
    refine XS.iloadN X0.here hx rfl (hb hby d_6) rfl ?_
    refine XS.icmpNo X0.here hx rfl (hb hby d_7) rfl (flt hc_0).2.2.1 ?_
    refine XS.iloadN X0.here hx rfl (hb hby d_13) rfl ?_
    refine XS.goto X0.here hx rfl (pc0 := 6) (pc' := 10) rfl (hb hby d_14) (by decide) (by decide) ?_
    exact retI X0 hx hret (hb hby d_9) hr
theorem ef_15 (m : MethodId) (p1 : Int32) : entryFrame m #[(.int p1)] 1 = mkF m 0 #[iv p1] [] := by first | (simp [entryFrame, mkF, argsToLocals, Value.category]; done) | rfl
theorem pn_16 : plainName "com/example/dossiertools/dossiertools/LeafReferenceEqualsPinLaw" = true := by first | (simp [plainName, overriddenIn]; done) | decide +kernel
theorem own_len1 (l : Launch) (Z : State) (a0 : Array Value) (hw : HW Z a0) (p1 : Int32) (h0 : Heap) (n0 : Nat) (O0 : Old Z n0 h0)  (h : (2 : Int32) < (p1 &&& (3 : Int32))) :
    Met l Z [] MY1 method_2_code 1 (some .int) ({ frames := 1, cells := 0, slots := 0, locals := 13 } : Room) #[(.int p1)] h0 (QI (2 : Int32) h0 n0) := by
  have W := @own_W _ _ hw
  refine own_mk (plainFor_of_name pn_16) ?_
  intro p e s m below meth c s₁ hZ hx hby hml hown hnm hret hlk X0 e0
  have N0 := Fr.nil n0
  obtain ⟨_, T1, L1, X1, hQ1, st1⟩ := own_cs X0 hx hZ hown hml (W 4 rfl) (W 5 rfl) (W 6 rfl) (W 7 rfl) (rm1_min l Z a0 hw (p1 &&& (3 : Int32)) h0 n0 O0 (h)) e0 (hb hby d_4) 0 #[iv p1] [(.int (p1 &&& (3 : Int32))), (.int (2 : Int32))] [] pd_11
  obtain ⟨rfl, N1q, K1⟩ := hQ1
  have N2 := Fr.app N0 N1q
  refine ⟨T1, some (.int (2 : Int32)), _, _, _, X1, by decide, by decide, nofun, ?_, fun fs hr => castTop (ef_15 m p1) ?_⟩
  · show QI (2 : Int32) h0 n0 _ T1.heap _
    rw [K1]
    exact ⟨rfl, N2, rfl⟩
  · show SS p e below s₁ m 0 #[iv p1] [] _
    refine XS.iloadN X0.here hx rfl (hb hby d_0) rfl ?_
    refine XS.iconst X0.here hx rfl (hb hby d_1) ?_
    show SS p e below s₁ m 2 #[iv p1] [(.int (3 : Int32)), (.int p1)] _
    refine XS.iand X0.here hx rfl (hb hby d_2) rfl ?_
    show SS p e below s₁ m 3 #[iv p1] [(.int (p1 &&& (3 : Int32)))] _
    refine XS.iconst X0.here hx rfl (hb hby d_3) ?_
    refine st1 _ ?_
    exact retI X1 hx hret (hb hby d_12) hr
theorem own_len0 (l : Launch) (Z : State) (a0 : Array Value) (hw : HW Z a0) (p1 : Int32) (h0 : Heap) (n0 : Nat) (O0 : Old Z n0 h0)  (h : ¬ (2 : Int32) < (p1 &&& (3 : Int32))) :
    Met l Z [] MY1 method_2_code 1 (some .int) ({ frames := 1, cells := 0, slots := 0, locals := 13 } : Room) #[(.int p1)] h0 (QI (p1 &&& (3 : Int32)) h0 n0) := by
  have W := @own_W _ _ hw
  refine own_mk (plainFor_of_name pn_16) ?_
  intro p e s m below meth c s₁ hZ hx hby hml hown hnm hret hlk X0 e0
  have N0 := Fr.nil n0
  obtain ⟨_, T1, L1, X1, hQ1, st1⟩ := own_cs X0 hx hZ hown hml (W 4 rfl) (W 5 rfl) (W 6 rfl) (W 7 rfl) (rm2_min l Z a0 hw (p1 &&& (3 : Int32)) h0 n0 O0 (h)) e0 (hb hby d_4) 0 #[iv p1] [(.int (p1 &&& (3 : Int32))), (.int (2 : Int32))] [] pd_11
  obtain ⟨rfl, N1q, K1⟩ := hQ1
  have N2 := Fr.app N0 N1q
  refine ⟨T1, some (.int (p1 &&& (3 : Int32))), _, _, _, X1, by decide, by decide, nofun, ?_, fun fs hr => castTop (ef_15 m p1) ?_⟩
  · show QI (p1 &&& (3 : Int32)) h0 n0 _ T1.heap _
    rw [K1]
    exact ⟨rfl, N2, rfl⟩
  · show SS p e below s₁ m 0 #[iv p1] [] _
    refine XS.iloadN X0.here hx rfl (hb hby d_0) rfl ?_
    refine XS.iconst X0.here hx rfl (hb hby d_1) ?_
    show SS p e below s₁ m 2 #[iv p1] [(.int (3 : Int32)), (.int p1)] _
    refine XS.iand X0.here hx rfl (hb hby d_2) rfl ?_
    show SS p e below s₁ m 3 #[iv p1] [(.int (p1 &&& (3 : Int32)))] _
    refine XS.iconst X0.here hx rfl (hb hby d_3) ?_
    refine st1 _ ?_
    exact retI X1 hx hret (hb hby d_12) hr
theorem own_lenC (l : Launch) (Z : State) (a0 : Array Value) (hw : HW Z a0) (p1 : Int32) (h0 : Heap) (n0 : Nat) (O0 : Old Z n0 h0)   :
    Met l Z [] MY1 method_2_code 1 (some .int) ({ frames := 1, cells := 0, slots := 0, locals := 13 } : Room) #[(.int p1)] h0 (QI (own_len p1) h0 n0) := by
  by_cases h : (2 : Int32) < (p1 &&& (3 : Int32))
  · rw [own_len, if_pos h]; exact own_len1 l Z a0 hw p1 h0 n0 O0  h
  · rw [own_len, if_neg h]; exact own_len0 l Z a0 hw p1 h0 n0 O0  h
theorem d_17 : decode method_4_code 0 = .ok (.iload_n 0, 1) := by decide +kernel
theorem d_18 : decode method_4_code 1 = .ok (.iload_n 2, 1) := by decide +kernel
theorem d_19 : decode method_4_code 2 = .ok (.if_icmp .eq 5, 3) := by decide +kernel
theorem d_20 : decode method_4_code 5 = .ok (.iconst 0, 1) := by decide +kernel
theorem d_21 : decode method_4_code 6 = .ok (.ireturn, 1) := by decide +kernel
theorem d_22 : decode method_4_code 7 = .ok (.iload_n 0, 1) := by decide +kernel
theorem d_23 : decode method_4_code 8 = .ok (.iconst 1, 1) := by decide +kernel
theorem d_24 : decode method_4_code 9 = .ok (.if_icmp .lt 18, 3) := by decide +kernel
theorem d_25 : decode method_4_code 27 = .ok (.iload_n 0, 1) := by decide +kernel
theorem d_26 : decode method_4_code 28 = .ok (.iconst 2, 1) := by decide +kernel
theorem d_27 : decode method_4_code 29 = .ok (.if_icmp .lt 24, 3) := by decide +kernel
theorem d_28 : decode method_4_code 53 = .ok (.iconst 1, 1) := by decide +kernel
theorem d_29 : decode method_4_code 54 = .ok (.ireturn, 1) := by decide +kernel
theorem d_30 : decode method_4_code 32 = .ok (.iload_n 1, 1) := by decide +kernel
theorem d_31 : decode method_4_code 33 = .ok (.bipush 8, 2) := by decide +kernel
theorem d_32 : decode method_4_code 35 = .ok (.iushr, 1) := by decide +kernel
theorem d_33 : decode method_4_code 36 = .ok (.sipush 255, 3) := by decide +kernel
theorem d_34 : decode method_4_code 39 = .ok (.iand, 1) := by decide +kernel
theorem d_35 : decode method_4_code 40 = .ok (.iload_n 3, 1) := by decide +kernel
theorem d_36 : decode method_4_code 41 = .ok (.bipush 8, 2) := by decide +kernel
theorem d_37 : decode method_4_code 43 = .ok (.iushr, 1) := by decide +kernel
theorem d_38 : decode method_4_code 44 = .ok (.sipush 255, 3) := by decide +kernel
theorem d_39 : decode method_4_code 47 = .ok (.iand, 1) := by decide +kernel
theorem d_40 : decode method_4_code 48 = .ok (.if_icmp .eq 5, 3) := by decide +kernel
theorem d_41 : decode method_4_code 51 = .ok (.iconst 0, 1) := by decide +kernel
theorem d_42 : decode method_4_code 52 = .ok (.ireturn, 1) := by decide +kernel
theorem d_43 : decode method_4_code 12 = .ok (.iload_n 1, 1) := by decide +kernel
theorem d_44 : decode method_4_code 13 = .ok (.sipush 255, 3) := by decide +kernel
theorem d_45 : decode method_4_code 16 = .ok (.iand, 1) := by decide +kernel
theorem d_46 : decode method_4_code 17 = .ok (.iload_n 3, 1) := by decide +kernel
theorem d_47 : decode method_4_code 18 = .ok (.sipush 255, 3) := by decide +kernel
theorem d_48 : decode method_4_code 21 = .ok (.iand, 1) := by decide +kernel
theorem d_49 : decode method_4_code 22 = .ok (.if_icmp .eq 5, 3) := by decide +kernel
theorem d_50 : decode method_4_code 25 = .ok (.iconst 0, 1) := by decide +kernel
theorem d_51 : decode method_4_code 26 = .ok (.ireturn, 1) := by decide +kernel
theorem ef_52 (m : MethodId) (p1 : Int32) (p2 : Int32) (p3 : Int32) (p4 : Int32) : entryFrame m #[(.int p1), (.int p2), (.int p3), (.int p4)] 4 = mkF m 0 #[iv p1, iv p2, iv p3, iv p4] [] := by first | (simp [entryFrame, mkF, argsToLocals, Value.category]; done) | rfl
theorem own_same_a (l : Launch) (Z : State) (a0 : Array Value) (hw : HW Z a0) (p1 : Int32) (p2 : Int32) (p3 : Int32) (p4 : Int32) (h0 : Heap) (n0 : Nat) (O0 : Old Z n0 h0)  (hA : ¬ (p1 = p3)) :
    Met l Z [] MY2 method_4_code 4 (some .boolean) ({ frames := 0, cells := 0, slots := 0, locals := 0 } : Room) #[(.int p1), (.int p2), (.int p3), (.int p4)] h0 (QI (0 : Int32) h0 n0) := by
  have W := @own_W _ _ hw
  refine own_mk (plainFor_of_name pn_16) ?_
  intro p e s m below meth c s₁ hZ hx hby hml hown hnm hret hlk X0 e0
  have N0 := Fr.nil n0
  refine ⟨s₁, some o0, _, _, _, X0, by decide, by decide, nofun, ?_, fun fs hr => castTop (ef_52 m p1 p2 p3 p4) ?_⟩
  · show QI (0 : Int32) h0 n0 _ s₁.heap _
    rw [e0]
    exact ⟨rfl, N0, rfl⟩
  · show SS p e below s₁ m 0 #[iv p1, iv p2, iv p3, iv p4] [] _
    refine XS.iloadN X0.here hx rfl (hb hby d_17) rfl ?_
    refine XS.iloadN X0.here hx rfl (hb hby d_18) rfl ?_
    refine XS.icmpNo X0.here hx rfl (hb hby d_19) rfl (feq hA).1 ?_
    refine XS.iconst X0.here hx rfl (hb hby d_20) ?_
    exact retN X0 hx (t := .boolean) hret (by simp) (hb hby d_21) hr
theorem own_same_ABD (l : Launch) (Z : State) (a0 : Array Value) (hw : HW Z a0) (p1 : Int32) (p2 : Int32) (p3 : Int32) (p4 : Int32) (h0 : Heap) (n0 : Nat) (O0 : Old Z n0 h0)  (hA : p1 = p3) (hB : p1 < (1 : Int32)) (hD : p1 < (2 : Int32)) :
    Met l Z [] MY2 method_4_code 4 (some .boolean) ({ frames := 0, cells := 0, slots := 0, locals := 0 } : Room) #[(.int p1), (.int p2), (.int p3), (.int p4)] h0 (QI (1 : Int32) h0 n0) := by
  have W := @own_W _ _ hw
  refine own_mk (plainFor_of_name pn_16) ?_
  intro p e s m below meth c s₁ hZ hx hby hml hown hnm hret hlk X0 e0
  have N0 := Fr.nil n0
  refine ⟨s₁, some (.int (1 : Int32)), _, _, _, X0, by decide, by decide, nofun, ?_, fun fs hr => castTop (ef_52 m p1 p2 p3 p4) ?_⟩
  · show QI (1 : Int32) h0 n0 _ s₁.heap _
    rw [e0]
    exact ⟨rfl, N0, rfl⟩
  · show SS p e below s₁ m 0 #[iv p1, iv p2, iv p3, iv p4] [] _
    refine XS.iloadN X0.here hx rfl (hb hby d_17) rfl ?_
    refine XS.iloadN X0.here hx rfl (hb hby d_18) rfl ?_
    refine XS.icmpYes X0.here hx rfl (pc0 := 2) (pc' := 7) rfl (hb hby d_19) rfl (teq hA).1 (by decide) (by decide) ?_
    refine XS.iloadN X0.here hx rfl (hb hby d_22) rfl ?_
    refine XS.iconst X0.here hx rfl (hb hby d_23) ?_
    refine XS.icmpYes X0.here hx rfl (pc0 := 9) (pc' := 27) rfl (hb hby d_24) rfl (tlt hB).1 (by decide) (by decide) ?_
    refine XS.iloadN X0.here hx rfl (hb hby d_25) rfl ?_
    refine XS.iconst X0.here hx rfl (hb hby d_26) ?_
    refine XS.icmpYes X0.here hx rfl (pc0 := 29) (pc' := 53) rfl (hb hby d_27) rfl (tlt hD).1 (by decide) (by decide) ?_
    refine XS.iconst X0.here hx rfl (hb hby d_28) ?_
    show SS p e below s₁ m 54 #[iv p1, iv p2, iv p3, iv p4] [(.int (1 : Int32))] _
    exact retN X0 hx (t := .boolean) hret (by simp) (hb hby d_29) hr
theorem own_same_ABdE (l : Launch) (Z : State) (a0 : Array Value) (hw : HW Z a0) (p1 : Int32) (p2 : Int32) (p3 : Int32) (p4 : Int32) (h0 : Heap) (n0 : Nat) (O0 : Old Z n0 h0)  (hA : p1 = p3) (hB : p1 < (1 : Int32)) (hD : ¬ (p1 < (2 : Int32))) (hE : (((p2.toUInt32 >>> ((8 : Int32) &&& 31).toUInt32).toInt32) &&& (255 : Int32)) = (((p4.toUInt32 >>> ((8 : Int32) &&& 31).toUInt32).toInt32) &&& (255 : Int32))) :
    Met l Z [] MY2 method_4_code 4 (some .boolean) ({ frames := 0, cells := 0, slots := 0, locals := 0 } : Room) #[(.int p1), (.int p2), (.int p3), (.int p4)] h0 (QI (1 : Int32) h0 n0) := by
  have W := @own_W _ _ hw
  refine own_mk (plainFor_of_name pn_16) ?_
  intro p e s m below meth c s₁ hZ hx hby hml hown hnm hret hlk X0 e0
  have N0 := Fr.nil n0
  refine ⟨s₁, some (.int (1 : Int32)), _, _, _, X0, by decide, by decide, nofun, ?_, fun fs hr => castTop (ef_52 m p1 p2 p3 p4) ?_⟩
  · show QI (1 : Int32) h0 n0 _ s₁.heap _
    rw [e0]
    exact ⟨rfl, N0, rfl⟩
  · show SS p e below s₁ m 0 #[iv p1, iv p2, iv p3, iv p4] [] _
    refine XS.iloadN X0.here hx rfl (hb hby d_17) rfl ?_
    refine XS.iloadN X0.here hx rfl (hb hby d_18) rfl ?_
    refine XS.icmpYes X0.here hx rfl (pc0 := 2) (pc' := 7) rfl (hb hby d_19) rfl (teq hA).1 (by decide) (by decide) ?_
    refine XS.iloadN X0.here hx rfl (hb hby d_22) rfl ?_
    refine XS.iconst X0.here hx rfl (hb hby d_23) ?_
    refine XS.icmpYes X0.here hx rfl (pc0 := 9) (pc' := 27) rfl (hb hby d_24) rfl (tlt hB).1 (by decide) (by decide) ?_
    refine XS.iloadN X0.here hx rfl (hb hby d_25) rfl ?_
    refine XS.iconst X0.here hx rfl (hb hby d_26) ?_
    refine XS.icmpNo X0.here hx rfl (hb hby d_27) rfl (flt hD).1 ?_
    refine XS.iloadN X0.here hx rfl (hb hby d_30) rfl ?_
    show SS p e below s₁ m 33 #[iv p1, iv p2, iv p3, iv p4] [(.int p2)] _
    refine XS.bipush X0.here hx rfl (hb hby d_31) ?_
    refine XS.iushr X0.here hx rfl (hb hby d_32) rfl ?_
    show SS p e below s₁ m 36 #[iv p1, iv p2, iv p3, iv p4] [(.int ((p2.toUInt32 >>> ((8 : Int32) &&& 31).toUInt32).toInt32))] _
    refine XS.sipush X0.here hx rfl (hb hby d_33) ?_
    refine XS.iand X0.here hx rfl (hb hby d_34) rfl ?_
    show SS p e below s₁ m 40 #[iv p1, iv p2, iv p3, iv p4] [(.int (((p2.toUInt32 >>> ((8 : Int32) &&& 31).toUInt32).toInt32) &&& (255 : Int32)))] _
    refine XS.iloadN X0.here hx rfl (hb hby d_35) rfl ?_
    refine XS.bipush X0.here hx rfl (hb hby d_36) ?_
    show SS p e below s₁ m 43 #[iv p1, iv p2, iv p3, iv p4] [(.int (8 : Int32)), (.int p4), (.int (((p2.toUInt32 >>> ((8 : Int32) &&& 31).toUInt32).toInt32) &&& (255 : Int32)))] _
    refine XS.iushr X0.here hx rfl (hb hby d_37) rfl ?_
    show SS p e below s₁ m 44 #[iv p1, iv p2, iv p3, iv p4] [(.int ((p4.toUInt32 >>> ((8 : Int32) &&& 31).toUInt32).toInt32)), (.int (((p2.toUInt32 >>> ((8 : Int32) &&& 31).toUInt32).toInt32) &&& (255 : Int32)))] _
    refine XS.sipush X0.here hx rfl (hb hby d_38) ?_
    refine XS.iand X0.here hx rfl (hb hby d_39) rfl ?_
    show SS p e below s₁ m 48 #[iv p1, iv p2, iv p3, iv p4] [(.int (((p4.toUInt32 >>> ((8 : Int32) &&& 31).toUInt32).toInt32) &&& (255 : Int32))), (.int (((p2.toUInt32 >>> ((8 : Int32) &&& 31).toUInt32).toInt32) &&& (255 : Int32)))] _
    refine XS.icmpYes X0.here hx rfl (pc0 := 48) (pc' := 53) rfl (hb hby d_40) rfl (teq hE).1 (by decide) (by decide) ?_
    refine XS.iconst X0.here hx rfl (hb hby d_28) ?_
    exact retN X0 hx (t := .boolean) hret (by simp) (hb hby d_29) hr
theorem own_same_ABde (l : Launch) (Z : State) (a0 : Array Value) (hw : HW Z a0) (p1 : Int32) (p2 : Int32) (p3 : Int32) (p4 : Int32) (h0 : Heap) (n0 : Nat) (O0 : Old Z n0 h0)  (hA : p1 = p3) (hB : p1 < (1 : Int32)) (hD : ¬ (p1 < (2 : Int32))) (hE : ¬ ((((p2.toUInt32 >>> ((8 : Int32) &&& 31).toUInt32).toInt32) &&& (255 : Int32)) = (((p4.toUInt32 >>> ((8 : Int32) &&& 31).toUInt32).toInt32) &&& (255 : Int32)))) :
    Met l Z [] MY2 method_4_code 4 (some .boolean) ({ frames := 0, cells := 0, slots := 0, locals := 0 } : Room) #[(.int p1), (.int p2), (.int p3), (.int p4)] h0 (QI (0 : Int32) h0 n0) := by
  have W := @own_W _ _ hw
  refine own_mk (plainFor_of_name pn_16) ?_
  intro p e s m below meth c s₁ hZ hx hby hml hown hnm hret hlk X0 e0
  have N0 := Fr.nil n0
  refine ⟨s₁, some o0, _, _, _, X0, by decide, by decide, nofun, ?_, fun fs hr => castTop (ef_52 m p1 p2 p3 p4) ?_⟩
  · show QI (0 : Int32) h0 n0 _ s₁.heap _
    rw [e0]
    exact ⟨rfl, N0, rfl⟩
  · show SS p e below s₁ m 0 #[iv p1, iv p2, iv p3, iv p4] [] _
    refine XS.iloadN X0.here hx rfl (hb hby d_17) rfl ?_
    refine XS.iloadN X0.here hx rfl (hb hby d_18) rfl ?_
    refine XS.icmpYes X0.here hx rfl (pc0 := 2) (pc' := 7) rfl (hb hby d_19) rfl (teq hA).1 (by decide) (by decide) ?_
    refine XS.iloadN X0.here hx rfl (hb hby d_22) rfl ?_
    refine XS.iconst X0.here hx rfl (hb hby d_23) ?_
    refine XS.icmpYes X0.here hx rfl (pc0 := 9) (pc' := 27) rfl (hb hby d_24) rfl (tlt hB).1 (by decide) (by decide) ?_
    refine XS.iloadN X0.here hx rfl (hb hby d_25) rfl ?_
    refine XS.iconst X0.here hx rfl (hb hby d_26) ?_
    refine XS.icmpNo X0.here hx rfl (hb hby d_27) rfl (flt hD).1 ?_
    refine XS.iloadN X0.here hx rfl (hb hby d_30) rfl ?_
    show SS p e below s₁ m 33 #[iv p1, iv p2, iv p3, iv p4] [(.int p2)] _
    refine XS.bipush X0.here hx rfl (hb hby d_31) ?_
    refine XS.iushr X0.here hx rfl (hb hby d_32) rfl ?_
    show SS p e below s₁ m 36 #[iv p1, iv p2, iv p3, iv p4] [(.int ((p2.toUInt32 >>> ((8 : Int32) &&& 31).toUInt32).toInt32))] _
    refine XS.sipush X0.here hx rfl (hb hby d_33) ?_
    refine XS.iand X0.here hx rfl (hb hby d_34) rfl ?_
    show SS p e below s₁ m 40 #[iv p1, iv p2, iv p3, iv p4] [(.int (((p2.toUInt32 >>> ((8 : Int32) &&& 31).toUInt32).toInt32) &&& (255 : Int32)))] _
    refine XS.iloadN X0.here hx rfl (hb hby d_35) rfl ?_
    refine XS.bipush X0.here hx rfl (hb hby d_36) ?_
    show SS p e below s₁ m 43 #[iv p1, iv p2, iv p3, iv p4] [(.int (8 : Int32)), (.int p4), (.int (((p2.toUInt32 >>> ((8 : Int32) &&& 31).toUInt32).toInt32) &&& (255 : Int32)))] _
    refine XS.iushr X0.here hx rfl (hb hby d_37) rfl ?_
    show SS p e below s₁ m 44 #[iv p1, iv p2, iv p3, iv p4] [(.int ((p4.toUInt32 >>> ((8 : Int32) &&& 31).toUInt32).toInt32)), (.int (((p2.toUInt32 >>> ((8 : Int32) &&& 31).toUInt32).toInt32) &&& (255 : Int32)))] _
    refine XS.sipush X0.here hx rfl (hb hby d_38) ?_
    refine XS.iand X0.here hx rfl (hb hby d_39) rfl ?_
    show SS p e below s₁ m 48 #[iv p1, iv p2, iv p3, iv p4] [(.int (((p4.toUInt32 >>> ((8 : Int32) &&& 31).toUInt32).toInt32) &&& (255 : Int32))), (.int (((p2.toUInt32 >>> ((8 : Int32) &&& 31).toUInt32).toInt32) &&& (255 : Int32)))] _
    refine XS.icmpNo X0.here hx rfl (hb hby d_40) rfl (feq hE).1 ?_
    refine XS.iconst X0.here hx rfl (hb hby d_41) ?_
    exact retN X0 hx (t := .boolean) hret (by simp) (hb hby d_42) hr
theorem own_same_Abc (l : Launch) (Z : State) (a0 : Array Value) (hw : HW Z a0) (p1 : Int32) (p2 : Int32) (p3 : Int32) (p4 : Int32) (h0 : Heap) (n0 : Nat) (O0 : Old Z n0 h0)  (hA : p1 = p3) (hB : ¬ (p1 < (1 : Int32))) (hC : ¬ ((p2 &&& (255 : Int32)) = (p4 &&& (255 : Int32)))) :
    Met l Z [] MY2 method_4_code 4 (some .boolean) ({ frames := 0, cells := 0, slots := 0, locals := 0 } : Room) #[(.int p1), (.int p2), (.int p3), (.int p4)] h0 (QI (0 : Int32) h0 n0) := by
  have W := @own_W _ _ hw
  refine own_mk (plainFor_of_name pn_16) ?_
  intro p e s m below meth c s₁ hZ hx hby hml hown hnm hret hlk X0 e0
  have N0 := Fr.nil n0
  refine ⟨s₁, some o0, _, _, _, X0, by decide, by decide, nofun, ?_, fun fs hr => castTop (ef_52 m p1 p2 p3 p4) ?_⟩
  · show QI (0 : Int32) h0 n0 _ s₁.heap _
    rw [e0]
    exact ⟨rfl, N0, rfl⟩
  · show SS p e below s₁ m 0 #[iv p1, iv p2, iv p3, iv p4] [] _
    refine XS.iloadN X0.here hx rfl (hb hby d_17) rfl ?_
    refine XS.iloadN X0.here hx rfl (hb hby d_18) rfl ?_
    refine XS.icmpYes X0.here hx rfl (pc0 := 2) (pc' := 7) rfl (hb hby d_19) rfl (teq hA).1 (by decide) (by decide) ?_
    refine XS.iloadN X0.here hx rfl (hb hby d_22) rfl ?_
    refine XS.iconst X0.here hx rfl (hb hby d_23) ?_
    refine XS.icmpNo X0.here hx rfl (hb hby d_24) rfl (flt hB).1 ?_
    refine XS.iloadN X0.here hx rfl (hb hby d_43) rfl ?_
    refine XS.sipush X0.here hx rfl (hb hby d_44) ?_
    show SS p e below s₁ m 16 #[iv p1, iv p2, iv p3, iv p4] [(.int (255 : Int32)), (.int p2)] _
    refine XS.iand X0.here hx rfl (hb hby d_45) rfl ?_
    show SS p e below s₁ m 17 #[iv p1, iv p2, iv p3, iv p4] [(.int (p2 &&& (255 : Int32)))] _
    refine XS.iloadN X0.here hx rfl (hb hby d_46) rfl ?_
    refine XS.sipush X0.here hx rfl (hb hby d_47) ?_
    show SS p e below s₁ m 21 #[iv p1, iv p2, iv p3, iv p4] [(.int (255 : Int32)), (.int p4), (.int (p2 &&& (255 : Int32)))] _
    refine XS.iand X0.here hx rfl (hb hby d_48) rfl ?_
    show SS p e below s₁ m 22 #[iv p1, iv p2, iv p3, iv p4] [(.int (p4 &&& (255 : Int32))), (.int (p2 &&& (255 : Int32)))] _
    refine XS.icmpNo X0.here hx rfl (hb hby d_49) rfl (feq hC).1 ?_
    refine XS.iconst X0.here hx rfl (hb hby d_50) ?_
    exact retN X0 hx (t := .boolean) hret (by simp) (hb hby d_51) hr
theorem own_same_AbCD (l : Launch) (Z : State) (a0 : Array Value) (hw : HW Z a0) (p1 : Int32) (p2 : Int32) (p3 : Int32) (p4 : Int32) (h0 : Heap) (n0 : Nat) (O0 : Old Z n0 h0)  (hA : p1 = p3) (hB : ¬ (p1 < (1 : Int32))) (hC : (p2 &&& (255 : Int32)) = (p4 &&& (255 : Int32))) (hD : p1 < (2 : Int32)) :
    Met l Z [] MY2 method_4_code 4 (some .boolean) ({ frames := 0, cells := 0, slots := 0, locals := 0 } : Room) #[(.int p1), (.int p2), (.int p3), (.int p4)] h0 (QI (1 : Int32) h0 n0) := by
  have W := @own_W _ _ hw
  refine own_mk (plainFor_of_name pn_16) ?_
  intro p e s m below meth c s₁ hZ hx hby hml hown hnm hret hlk X0 e0
  have N0 := Fr.nil n0
  refine ⟨s₁, some (.int (1 : Int32)), _, _, _, X0, by decide, by decide, nofun, ?_, fun fs hr => castTop (ef_52 m p1 p2 p3 p4) ?_⟩
  · show QI (1 : Int32) h0 n0 _ s₁.heap _
    rw [e0]
    exact ⟨rfl, N0, rfl⟩
  · show SS p e below s₁ m 0 #[iv p1, iv p2, iv p3, iv p4] [] _
    refine XS.iloadN X0.here hx rfl (hb hby d_17) rfl ?_
    refine XS.iloadN X0.here hx rfl (hb hby d_18) rfl ?_
    refine XS.icmpYes X0.here hx rfl (pc0 := 2) (pc' := 7) rfl (hb hby d_19) rfl (teq hA).1 (by decide) (by decide) ?_
    refine XS.iloadN X0.here hx rfl (hb hby d_22) rfl ?_
    refine XS.iconst X0.here hx rfl (hb hby d_23) ?_
    refine XS.icmpNo X0.here hx rfl (hb hby d_24) rfl (flt hB).1 ?_
    refine XS.iloadN X0.here hx rfl (hb hby d_43) rfl ?_
    refine XS.sipush X0.here hx rfl (hb hby d_44) ?_
    show SS p e below s₁ m 16 #[iv p1, iv p2, iv p3, iv p4] [(.int (255 : Int32)), (.int p2)] _
    refine XS.iand X0.here hx rfl (hb hby d_45) rfl ?_
    show SS p e below s₁ m 17 #[iv p1, iv p2, iv p3, iv p4] [(.int (p2 &&& (255 : Int32)))] _
    refine XS.iloadN X0.here hx rfl (hb hby d_46) rfl ?_
    refine XS.sipush X0.here hx rfl (hb hby d_47) ?_
    show SS p e below s₁ m 21 #[iv p1, iv p2, iv p3, iv p4] [(.int (255 : Int32)), (.int p4), (.int (p2 &&& (255 : Int32)))] _
    refine XS.iand X0.here hx rfl (hb hby d_48) rfl ?_
    show SS p e below s₁ m 22 #[iv p1, iv p2, iv p3, iv p4] [(.int (p4 &&& (255 : Int32))), (.int (p2 &&& (255 : Int32)))] _
    refine XS.icmpYes X0.here hx rfl (pc0 := 22) (pc' := 27) rfl (hb hby d_49) rfl (teq hC).1 (by decide) (by decide) ?_
    refine XS.iloadN X0.here hx rfl (hb hby d_25) rfl ?_
    refine XS.iconst X0.here hx rfl (hb hby d_26) ?_
    refine XS.icmpYes X0.here hx rfl (pc0 := 29) (pc' := 53) rfl (hb hby d_27) rfl (tlt hD).1 (by decide) (by decide) ?_
    refine XS.iconst X0.here hx rfl (hb hby d_28) ?_
    exact retN X0 hx (t := .boolean) hret (by simp) (hb hby d_29) hr
theorem own_same_AbCdE (l : Launch) (Z : State) (a0 : Array Value) (hw : HW Z a0) (p1 : Int32) (p2 : Int32) (p3 : Int32) (p4 : Int32) (h0 : Heap) (n0 : Nat) (O0 : Old Z n0 h0)  (hA : p1 = p3) (hB : ¬ (p1 < (1 : Int32))) (hC : (p2 &&& (255 : Int32)) = (p4 &&& (255 : Int32))) (hD : ¬ (p1 < (2 : Int32))) (hE : (((p2.toUInt32 >>> ((8 : Int32) &&& 31).toUInt32).toInt32) &&& (255 : Int32)) = (((p4.toUInt32 >>> ((8 : Int32) &&& 31).toUInt32).toInt32) &&& (255 : Int32))) :
    Met l Z [] MY2 method_4_code 4 (some .boolean) ({ frames := 0, cells := 0, slots := 0, locals := 0 } : Room) #[(.int p1), (.int p2), (.int p3), (.int p4)] h0 (QI (1 : Int32) h0 n0) := by
  have W := @own_W _ _ hw
  refine own_mk (plainFor_of_name pn_16) ?_
  intro p e s m below meth c s₁ hZ hx hby hml hown hnm hret hlk X0 e0
  have N0 := Fr.nil n0
  refine ⟨s₁, some (.int (1 : Int32)), _, _, _, X0, by decide, by decide, nofun, ?_, fun fs hr => castTop (ef_52 m p1 p2 p3 p4) ?_⟩
  · show QI (1 : Int32) h0 n0 _ s₁.heap _
    rw [e0]
    exact ⟨rfl, N0, rfl⟩
  · show SS p e below s₁ m 0 #[iv p1, iv p2, iv p3, iv p4] [] _
    refine XS.iloadN X0.here hx rfl (hb hby d_17) rfl ?_
    refine XS.iloadN X0.here hx rfl (hb hby d_18) rfl ?_
    refine XS.icmpYes X0.here hx rfl (pc0 := 2) (pc' := 7) rfl (hb hby d_19) rfl (teq hA).1 (by decide) (by decide) ?_
    refine XS.iloadN X0.here hx rfl (hb hby d_22) rfl ?_
    refine XS.iconst X0.here hx rfl (hb hby d_23) ?_
    refine XS.icmpNo X0.here hx rfl (hb hby d_24) rfl (flt hB).1 ?_
    refine XS.iloadN X0.here hx rfl (hb hby d_43) rfl ?_
    refine XS.sipush X0.here hx rfl (hb hby d_44) ?_
    show SS p e below s₁ m 16 #[iv p1, iv p2, iv p3, iv p4] [(.int (255 : Int32)), (.int p2)] _
    refine XS.iand X0.here hx rfl (hb hby d_45) rfl ?_
    show SS p e below s₁ m 17 #[iv p1, iv p2, iv p3, iv p4] [(.int (p2 &&& (255 : Int32)))] _
    refine XS.iloadN X0.here hx rfl (hb hby d_46) rfl ?_
    refine XS.sipush X0.here hx rfl (hb hby d_47) ?_
    show SS p e below s₁ m 21 #[iv p1, iv p2, iv p3, iv p4] [(.int (255 : Int32)), (.int p4), (.int (p2 &&& (255 : Int32)))] _
    refine XS.iand X0.here hx rfl (hb hby d_48) rfl ?_
    show SS p e below s₁ m 22 #[iv p1, iv p2, iv p3, iv p4] [(.int (p4 &&& (255 : Int32))), (.int (p2 &&& (255 : Int32)))] _
    refine XS.icmpYes X0.here hx rfl (pc0 := 22) (pc' := 27) rfl (hb hby d_49) rfl (teq hC).1 (by decide) (by decide) ?_
    refine XS.iloadN X0.here hx rfl (hb hby d_25) rfl ?_
    refine XS.iconst X0.here hx rfl (hb hby d_26) ?_
    refine XS.icmpNo X0.here hx rfl (hb hby d_27) rfl (flt hD).1 ?_
    refine XS.iloadN X0.here hx rfl (hb hby d_30) rfl ?_
    refine XS.bipush X0.here hx rfl (hb hby d_31) ?_
    show SS p e below s₁ m 35 #[iv p1, iv p2, iv p3, iv p4] [(.int (8 : Int32)), (.int p2)] _
    refine XS.iushr X0.here hx rfl (hb hby d_32) rfl ?_
    show SS p e below s₁ m 36 #[iv p1, iv p2, iv p3, iv p4] [(.int ((p2.toUInt32 >>> ((8 : Int32) &&& 31).toUInt32).toInt32))] _
    refine XS.sipush X0.here hx rfl (hb hby d_33) ?_
    refine XS.iand X0.here hx rfl (hb hby d_34) rfl ?_
    show SS p e below s₁ m 40 #[iv p1, iv p2, iv p3, iv p4] [(.int (((p2.toUInt32 >>> ((8 : Int32) &&& 31).toUInt32).toInt32) &&& (255 : Int32)))] _
    refine XS.iloadN X0.here hx rfl (hb hby d_35) rfl ?_
    refine XS.bipush X0.here hx rfl (hb hby d_36) ?_
    show SS p e below s₁ m 43 #[iv p1, iv p2, iv p3, iv p4] [(.int (8 : Int32)), (.int p4), (.int (((p2.toUInt32 >>> ((8 : Int32) &&& 31).toUInt32).toInt32) &&& (255 : Int32)))] _
    refine XS.iushr X0.here hx rfl (hb hby d_37) rfl ?_
    show SS p e below s₁ m 44 #[iv p1, iv p2, iv p3, iv p4] [(.int ((p4.toUInt32 >>> ((8 : Int32) &&& 31).toUInt32).toInt32)), (.int (((p2.toUInt32 >>> ((8 : Int32) &&& 31).toUInt32).toInt32) &&& (255 : Int32)))] _
    refine XS.sipush X0.here hx rfl (hb hby d_38) ?_
    refine XS.iand X0.here hx rfl (hb hby d_39) rfl ?_
    show SS p e below s₁ m 48 #[iv p1, iv p2, iv p3, iv p4] [(.int (((p4.toUInt32 >>> ((8 : Int32) &&& 31).toUInt32).toInt32) &&& (255 : Int32))), (.int (((p2.toUInt32 >>> ((8 : Int32) &&& 31).toUInt32).toInt32) &&& (255 : Int32)))] _
    refine XS.icmpYes X0.here hx rfl (pc0 := 48) (pc' := 53) rfl (hb hby d_40) rfl (teq hE).1 (by decide) (by decide) ?_
    refine XS.iconst X0.here hx rfl (hb hby d_28) ?_
    exact retN X0 hx (t := .boolean) hret (by simp) (hb hby d_29) hr
theorem own_same_AbCde (l : Launch) (Z : State) (a0 : Array Value) (hw : HW Z a0) (p1 : Int32) (p2 : Int32) (p3 : Int32) (p4 : Int32) (h0 : Heap) (n0 : Nat) (O0 : Old Z n0 h0)  (hA : p1 = p3) (hB : ¬ (p1 < (1 : Int32))) (hC : (p2 &&& (255 : Int32)) = (p4 &&& (255 : Int32))) (hD : ¬ (p1 < (2 : Int32))) (hE : ¬ ((((p2.toUInt32 >>> ((8 : Int32) &&& 31).toUInt32).toInt32) &&& (255 : Int32)) = (((p4.toUInt32 >>> ((8 : Int32) &&& 31).toUInt32).toInt32) &&& (255 : Int32)))) :
    Met l Z [] MY2 method_4_code 4 (some .boolean) ({ frames := 0, cells := 0, slots := 0, locals := 0 } : Room) #[(.int p1), (.int p2), (.int p3), (.int p4)] h0 (QI (0 : Int32) h0 n0) := by
  have W := @own_W _ _ hw
  refine own_mk (plainFor_of_name pn_16) ?_
  intro p e s m below meth c s₁ hZ hx hby hml hown hnm hret hlk X0 e0
  have N0 := Fr.nil n0
  refine ⟨s₁, some o0, _, _, _, X0, by decide, by decide, nofun, ?_, fun fs hr => castTop (ef_52 m p1 p2 p3 p4) ?_⟩
  · show QI (0 : Int32) h0 n0 _ s₁.heap _
    rw [e0]
    exact ⟨rfl, N0, rfl⟩
  · show SS p e below s₁ m 0 #[iv p1, iv p2, iv p3, iv p4] [] _
    refine XS.iloadN X0.here hx rfl (hb hby d_17) rfl ?_
    refine XS.iloadN X0.here hx rfl (hb hby d_18) rfl ?_
    refine XS.icmpYes X0.here hx rfl (pc0 := 2) (pc' := 7) rfl (hb hby d_19) rfl (teq hA).1 (by decide) (by decide) ?_
    refine XS.iloadN X0.here hx rfl (hb hby d_22) rfl ?_
    refine XS.iconst X0.here hx rfl (hb hby d_23) ?_
    refine XS.icmpNo X0.here hx rfl (hb hby d_24) rfl (flt hB).1 ?_
    refine XS.iloadN X0.here hx rfl (hb hby d_43) rfl ?_
    refine XS.sipush X0.here hx rfl (hb hby d_44) ?_
    show SS p e below s₁ m 16 #[iv p1, iv p2, iv p3, iv p4] [(.int (255 : Int32)), (.int p2)] _
    refine XS.iand X0.here hx rfl (hb hby d_45) rfl ?_
    show SS p e below s₁ m 17 #[iv p1, iv p2, iv p3, iv p4] [(.int (p2 &&& (255 : Int32)))] _
    refine XS.iloadN X0.here hx rfl (hb hby d_46) rfl ?_
    refine XS.sipush X0.here hx rfl (hb hby d_47) ?_
    show SS p e below s₁ m 21 #[iv p1, iv p2, iv p3, iv p4] [(.int (255 : Int32)), (.int p4), (.int (p2 &&& (255 : Int32)))] _
    refine XS.iand X0.here hx rfl (hb hby d_48) rfl ?_
    show SS p e below s₁ m 22 #[iv p1, iv p2, iv p3, iv p4] [(.int (p4 &&& (255 : Int32))), (.int (p2 &&& (255 : Int32)))] _
    refine XS.icmpYes X0.here hx rfl (pc0 := 22) (pc' := 27) rfl (hb hby d_49) rfl (teq hC).1 (by decide) (by decide) ?_
    refine XS.iloadN X0.here hx rfl (hb hby d_25) rfl ?_
    refine XS.iconst X0.here hx rfl (hb hby d_26) ?_
    refine XS.icmpNo X0.here hx rfl (hb hby d_27) rfl (flt hD).1 ?_
    refine XS.iloadN X0.here hx rfl (hb hby d_30) rfl ?_
    refine XS.bipush X0.here hx rfl (hb hby d_31) ?_
    show SS p e below s₁ m 35 #[iv p1, iv p2, iv p3, iv p4] [(.int (8 : Int32)), (.int p2)] _
    refine XS.iushr X0.here hx rfl (hb hby d_32) rfl ?_
    show SS p e below s₁ m 36 #[iv p1, iv p2, iv p3, iv p4] [(.int ((p2.toUInt32 >>> ((8 : Int32) &&& 31).toUInt32).toInt32))] _
    refine XS.sipush X0.here hx rfl (hb hby d_33) ?_
    refine XS.iand X0.here hx rfl (hb hby d_34) rfl ?_
    show SS p e below s₁ m 40 #[iv p1, iv p2, iv p3, iv p4] [(.int (((p2.toUInt32 >>> ((8 : Int32) &&& 31).toUInt32).toInt32) &&& (255 : Int32)))] _
    refine XS.iloadN X0.here hx rfl (hb hby d_35) rfl ?_
    refine XS.bipush X0.here hx rfl (hb hby d_36) ?_
    show SS p e below s₁ m 43 #[iv p1, iv p2, iv p3, iv p4] [(.int (8 : Int32)), (.int p4), (.int (((p2.toUInt32 >>> ((8 : Int32) &&& 31).toUInt32).toInt32) &&& (255 : Int32)))] _
    refine XS.iushr X0.here hx rfl (hb hby d_37) rfl ?_
    show SS p e below s₁ m 44 #[iv p1, iv p2, iv p3, iv p4] [(.int ((p4.toUInt32 >>> ((8 : Int32) &&& 31).toUInt32).toInt32)), (.int (((p2.toUInt32 >>> ((8 : Int32) &&& 31).toUInt32).toInt32) &&& (255 : Int32)))] _
    refine XS.sipush X0.here hx rfl (hb hby d_38) ?_
    refine XS.iand X0.here hx rfl (hb hby d_39) rfl ?_
    show SS p e below s₁ m 48 #[iv p1, iv p2, iv p3, iv p4] [(.int (((p4.toUInt32 >>> ((8 : Int32) &&& 31).toUInt32).toInt32) &&& (255 : Int32))), (.int (((p2.toUInt32 >>> ((8 : Int32) &&& 31).toUInt32).toInt32) &&& (255 : Int32)))] _
    refine XS.icmpNo X0.here hx rfl (hb hby d_40) rfl (feq hE).1 ?_
    refine XS.iconst X0.here hx rfl (hb hby d_41) ?_
    exact retN X0 hx (t := .boolean) hret (by simp) (hb hby d_42) hr
theorem own_sameC (l : Launch) (Z : State) (a0 : Array Value) (hw : HW Z a0) (p1 : Int32) (p2 : Int32) (p3 : Int32) (p4 : Int32) (h0 : Heap) (n0 : Nat) (O0 : Old Z n0 h0)   :
    Met l Z [] MY2 method_4_code 4 (some .boolean) ({ frames := 0, cells := 0, slots := 0, locals := 0 } : Room) #[(.int p1), (.int p2), (.int p3), (.int p4)] h0 (QI (own_sm p1 p2 p3 p4) h0 n0) := by
  by_cases hA : p1 = p3
  ·
    by_cases hB : p1 < (1 : Int32)
    ·
      by_cases hD : p1 < (2 : Int32)
      ·
        have q : own_sm p1 p2 p3 p4 = (1 : Int32) := by
          rw [own_sm, if_pos hA, if_pos hB]
          exact (by rw [own_tl, if_pos hD] : own_tl p1 p2 p4 = 1)
        rw [q]; exact own_same_ABD l Z a0 hw p1 p2 p3 p4 h0 n0 O0  hA hB hD
      ·
        by_cases hE : (((p2.toUInt32 >>> ((8 : Int32) &&& 31).toUInt32).toInt32) &&& (255 : Int32)) = (((p4.toUInt32 >>> ((8 : Int32) &&& 31).toUInt32).toInt32) &&& (255 : Int32))
        ·
          have q : own_sm p1 p2 p3 p4 = (1 : Int32) := by
            rw [own_sm, if_pos hA, if_pos hB]
            show own_tl p1 p2 p4 = _
            rw [own_tl, if_neg hD]; exact if_pos hE
          rw [q]; exact own_same_ABdE l Z a0 hw p1 p2 p3 p4 h0 n0 O0  hA hB hD hE
        ·
          have q : own_sm p1 p2 p3 p4 = (0 : Int32) := by
            rw [own_sm, if_pos hA, if_pos hB]
            show own_tl p1 p2 p4 = _
            rw [own_tl, if_neg hD]; exact if_neg hE
          rw [q]; exact own_same_ABde l Z a0 hw p1 p2 p3 p4 h0 n0 O0  hA hB hD hE
    ·
      by_cases hC : (p2 &&& (255 : Int32)) = (p4 &&& (255 : Int32))
      ·
        by_cases hD : p1 < (2 : Int32)
        ·
          have q : own_sm p1 p2 p3 p4 = (1 : Int32) := by
            rw [own_sm, if_pos hA, if_neg hB, if_pos hC]
            exact (by rw [own_tl, if_pos hD] : own_tl p1 p2 p4 = 1)
          rw [q]; exact own_same_AbCD l Z a0 hw p1 p2 p3 p4 h0 n0 O0  hA hB hC hD
        ·
          by_cases hE : (((p2.toUInt32 >>> ((8 : Int32) &&& 31).toUInt32).toInt32) &&& (255 : Int32)) = (((p4.toUInt32 >>> ((8 : Int32) &&& 31).toUInt32).toInt32) &&& (255 : Int32))
          ·
            have q : own_sm p1 p2 p3 p4 = (1 : Int32) := by
              rw [own_sm, if_pos hA, if_neg hB, if_pos hC]
              show own_tl p1 p2 p4 = _
              rw [own_tl, if_neg hD]; exact if_pos hE
            rw [q]; exact own_same_AbCdE l Z a0 hw p1 p2 p3 p4 h0 n0 O0  hA hB hC hD hE
          ·
            have q : own_sm p1 p2 p3 p4 = (0 : Int32) := by
              rw [own_sm, if_pos hA, if_neg hB, if_pos hC]
              show own_tl p1 p2 p4 = _
              rw [own_tl, if_neg hD]; exact if_neg hE
            rw [q]; exact own_same_AbCde l Z a0 hw p1 p2 p3 p4 h0 n0 O0  hA hB hC hD hE
      ·
        have q : own_sm p1 p2 p3 p4 = (0 : Int32) := by
          rw [own_sm, if_pos hA, if_neg hB, if_neg hC]
        rw [q]; exact own_same_Abc l Z a0 hw p1 p2 p3 p4 h0 n0 O0  hA hB hC
  ·
    have q : own_sm p1 p2 p3 p4 = (0 : Int32) := by
      rw [own_sm, if_neg hA]
    rw [q]; exact own_same_a l Z a0 hw p1 p2 p3 p4 h0 n0 O0  hA
theorem d_53 : decode method_3_code 0 = .ok (.iload_n 1, 1) := by decide +kernel
theorem d_54 : decode method_3_code 1 = .ok (.sipush 255, 3) := by decide +kernel
theorem d_55 : decode method_3_code 4 = .ok (.iand, 1) := by decide +kernel
theorem d_56 : decode method_3_code 5 = .ok (.i2c, 1) := by decide +kernel
theorem d_57 : decode method_3_code 6 = .ok (.istore_n 2, 1) := by decide +kernel
theorem d_58 : decode method_3_code 7 = .ok (.iload_n 1, 1) := by decide +kernel
theorem d_59 : decode method_3_code 8 = .ok (.bipush 8, 2) := by decide +kernel
theorem d_60 : decode method_3_code 10 = .ok (.iushr, 1) := by decide +kernel
theorem d_61 : decode method_3_code 11 = .ok (.sipush 255, 3) := by decide +kernel
theorem d_62 : decode method_3_code 14 = .ok (.iand, 1) := by decide +kernel
theorem d_63 : decode method_3_code 15 = .ok (.i2c, 1) := by decide +kernel
theorem d_64 : decode method_3_code 16 = .ok (.istore_n 3, 1) := by decide +kernel
theorem d_65 : decode method_3_code 17 = .ok (.iload_n 0, 1) := by decide +kernel
theorem d_66 : decode method_3_code 18 = .ok (.ifCond .ne 14, 3) := by decide +kernel
theorem d_67 : decode method_3_code 21 = .ok (.new 13, 3) := by decide +kernel
theorem d_68 : decode method_3_code 24 = .ok (.dup, 1) := by decide +kernel
theorem d_69 : decode method_3_code 25 = .ok (.iconst 0, 1) := by decide +kernel
theorem d_70 : decode method_3_code 26 = .ok (.newarray .char, 2) := by decide +kernel
theorem d_71 : decode method_3_code 28 = .ok (.invokespecial 15, 3) := by decide +kernel
theorem d_72 : decode jdk_42_method_3_code 0 = .ok (.aload_n 0, 1) := by decide +kernel
theorem d_73 : decode jdk_42_method_3_code 1 = .ok (.aload_n 1, 1) := by decide +kernel
theorem d_74 : decode jdk_42_method_3_code 2 = .ok (.iconst 0, 1) := by decide +kernel
theorem d_75 : decode jdk_42_method_3_code 3 = .ok (.aload_n 1, 1) := by decide +kernel
theorem d_76 : decode jdk_42_method_3_code 4 = .ok (.arraylength, 1) := by decide +kernel
theorem d_77 : decode jdk_42_method_3_code 5 = .ok (.aconst_null, 1) := by decide +kernel
theorem d_78 : decode jdk_42_method_3_code 6 = .ok (.invokespecial 27, 3) := by decide +kernel
theorem d_79 : decode jdk_42_method_149_code 0 = .ok (.aload_n 0, 1) := by decide +kernel
theorem d_80 : decode jdk_42_method_149_code 1 = .ok (.invokespecial 1, 3) := by decide +kernel
theorem d_81 : decode jdk_42_method_149_code 4 = .ok (.iload_n 3, 1) := by decide +kernel
theorem d_82 : decode jdk_42_method_149_code 5 = .ok (.ifCond .ne 22, 3) := by decide +kernel
theorem d_83 : decode jdk_42_method_149_code 8 = .ok (.aload_n 0, 1) := by decide +kernel
theorem d_84 : decode jdk_42_method_149_code 9 = .ok (.ldc 7, 2) := by decide +kernel
theorem own_str_85 {Z : State} {a0 : Array Value} (hw : HW Z a0) : ∀ a ∈ Bundle.stringAtoms, a.before a0 Z = true := by
  have W := @own_W _ _ hw
  intro a ha
  simp only [Bundle.stringAtoms, List.mem_cons, List.not_mem_nil, or_false] at ha
  rcases ha with rfl | rfl | rfl | rfl | rfl | rfl | rfl
  · exact (W 13 rfl)
  · exact (W 12 rfl)
  · exact (W 26 rfl)
  · exact (W 27 rfl)
  · exact (W 28 rfl)
  · exact (W 29 rfl)
  · exact (W 30 rfl)
theorem own_ew_86 {Z : State} {a0 : Array Value} (hw : HW Z a0) : EW Z a0 consts_1 := by
  have W := @own_W _ _ hw
  exact (EW.cons (W 25 rfl) (by decide) EW.nil)
theorem d_87 : decode jdk_42_method_149_code 11 = .ok (.getfield 9, 3) := by decide +kernel
theorem d_88 : decode jdk_42_method_149_code 14 = .ok (.putfield 9, 3) := by decide +kernel
theorem d_89 : decode jdk_42_method_149_code 17 = .ok (.aload_n 0, 1) := by decide +kernel
theorem d_90 : decode jdk_42_method_149_code 18 = .ok (.ldc 7, 2) := by decide +kernel
theorem d_91 : decode jdk_42_method_149_code 20 = .ok (.getfield 15, 3) := by decide +kernel
theorem d_92 : decode jdk_42_method_149_code 23 = .ok (.putfield 15, 3) := by decide +kernel
theorem d_93 : decode jdk_42_method_149_code 26 = .ok (.return_, 1) := by decide +kernel
theorem ef_94 (m : MethodId) (a1 : Addr) (a2 : Addr) : entryFrame m #[(.ref a1), (.ref a2), o0, o0, .null] 6 = mkF m 0 #[rv a1, rv a2, .val o0, .val o0, .val .null, .unset] [] := by first | (simp [entryFrame, mkF, argsToLocals, Value.category]; done) | rfl
theorem pn_95 : plainName "java/lang/String" = true := by first | (simp [plainName, overriddenIn]; done) | decide +kernel
def Q3_init (Z : State) (a1 : Addr) (a2 : Addr) (h0 : Heap) (n0 : Nat) (v : Option Value) (h : Heap) (L : List Loc) : Prop := ∃ (b3v : Addr) (kc3 : ClassId), v = none ∧ Fr n0 L ∧ Keep h0 h [a1] ∧ Arv Z h b3v kc3 .byte (0 : Int32) [] o0 ∧ FA18 Z h a1 (.ref b3v) ∧ FA17 Z h a1 o0
theorem rm3_init (l : Launch) (Z : State) (a0 : Array Value) (hw : HW Z a0) (a1 : Addr) (a2 : Addr) (h0 : Heap) (n0 : Nat) (O0 : Old Z n0 h0) (F_0 : EA21 Z h0 a1) (F_1 : FA18 Z h0 a1 .null) (lt_2 : a1 < h0.size) (g_3 : n0 ≤ a1) (F_4 : FA17 Z h0 a1 o0) :
    MetH l Z [] MY3 jdk_42_method_149_code 6 none ({ frames := 1, cells := 4, slots := 8, locals := 12 } : Room) #[(.ref a1), (.ref a2), o0, o0, .null] h0 consts_1 [a1] (Q3_init Z a1 a2 h0 n0) := by
  have W := @own_W _ _ hw
  refine own_mkH (plainFor_of_name pn_95) ?_
  intro p e s m below meth c s₁ hZ hx hby hml hown hnm hret hlk X0 e0 H0 hsf
  have N0 := Fr.nil n0
  have C0 := CHr.refl H0
  have X1 := (show Stand p l e _ (s.setVm s.vm) m _ below meth c _ _ _ _ from X0)
  obtain ⟨T2, X2, e2, st2⟩ := initO X1 hx hZ hown (W 22 rfl) (W 23 rfl) (W 24 rfl) e0 (g := (mkF m 1 #[rv a1, rv a2, .val o0, .val o0, .val .null, .unset] [(.ref a1)])) rfl (by rw [hml]; rfl) rfl (hb hby d_80) (by decide) (W := 0) (by show 2 * 0 + _ ≤ _; exact Nat.le_of_eq rfl) (by decide)
  obtain ⟨b3, T3, h3, k3, b3v, kc3, X3, e3, E3, hS3, hk3, hZ3, hown3, Le3, Lc3, Lv3, La3, Lx3, Lb3, c3, -, Ln3, st3⟩ := ldcCH (s := s) (vm0 := s.vm) (EL := consts_1) X2 hx hZ hown (W 25 rfl) (own_str_85 hw) e2 ((State.WarmedH.refl s).since 0) (Nat.zero_le _) (own_ew_86 hw) (List.mem_of_getElem? (i := 0) rfl) H0 (vs := []) (z := (0 : Int32)) ⟨by decide, by decide⟩ (by decide) rfl (g := (mkF m 9 #[rv a1, rv a2, .val o0, .val o0, .val .null, .unset] [(.ref a1)])) rfl (hb hby d_84) (n := 0) (by decide) (by decide) (by decide) (by decide)
  have C4 := CHr.trans C0 c3
  have O5 := O0.ext E3
  have K6 : Keep h0 h3 [a1] := Keep.ext (Keep.refl h0 [a1]) E3
  obtain ⟨T7, X7, e7, st7⟩ := getF X3 hx hZ3 hown3 (host := "") (Or.inl (W 31 rfl)) Via.refl e3 Lv3 (g := (mkF m 11 #[rv a1, rv a2, .val o0, .val o0, .val .null, .unset] [(.ref b3), (.ref a1)])) rfl rfl (hb hby d_87)
  have f9 := (F_1.ext E3)
  have f10 := (F_0.ext E3)
  obtain ⟨T8, h8, X8, e8, W8, st8⟩ := putF X7 hx hZ3 hown3 (host := "") (Or.inl (W 31 rfl)) Via.refl e7 f9 f10 (Or.inr ⟨(W 27 rfl), rfl, hnm⟩) (W 12 rfl) (ty := (.array .byte)) (by decide) rfl rfl (g := (mkF m 14 #[rv a1, rv a2, .val o0, .val o0, .val .null, .unset] [(.ref b3v), (.ref a1)])) rfl rfl (hb hby d_88)
  have f11 := (CHr.safe c3 lt_2 (hsf _ (List.mem_of_getElem? (i := 0) rfl)))
  have c12 := CHr.wr W8 f11 c3.1
  have C13 := CHr.trans C4 c12
  have O14 := O5.wr W8 g_3
  have K15 : Keep h0 h8 [a1] := Keep.wr K6 W8 (Or.inl (List.mem_of_getElem? (i := 0) rfl))
  have f16 : FA18 Z h8 a1 (.ref b3v) := (f9.same W8)
  have N17 := Fr.snoc X8 N0 g_3
  have z19 : h3.size ≤ h8.size := (Nat.le_of_eq W8.size.symm)
  obtain ⟨b18, T18, h18, k18, b18v, kc18, X18, e18, E18, hS18, hk18, hZ18, hown18, Le18, Lc18, Lv18, La18, Lx18, Lb18, c18, -, Ln18, st18⟩ := ldcCH (s := s) (vm0 := T3.vm) (EL := consts_1) X8 hx hZ3 hown3 (W 25 rfl) (own_str_85 hw) e8 hS3 (Nat.le_trans hk3 z19) (own_ew_86 hw) (List.mem_of_getElem? (i := 0) rfl) c12.1 (vs := []) (z := (0 : Int32)) ⟨by decide, by decide⟩ (by decide) rfl (g := (mkF m 18 #[rv a1, rv a2, .val o0, .val o0, .val .null, .unset] [(.ref a1)])) rfl (hb hby d_90) (n := 0) (by decide) (by decide) (by decide) (by decide)
  have C20 := CHr.trans C13 c18
  have O21 := O14.ext E18
  have K22 : Keep h0 h18 [a1] := Keep.ext K15 E18
  obtain ⟨T23, X23, e23, st23⟩ := getF X18 hx hZ18 hown18 (host := "") (Or.inl (W 32 rfl)) Via.refl e18 Lc18 (g := (mkF m 20 #[rv a1, rv a2, .val o0, .val o0, .val .null, .unset] [(.ref b18), (.ref a1)])) rfl rfl (hb hby d_91)
  have f25 := (((F_4.ext E3).other W8 (Or.inr (slot_ne (Or.inr (W 28 rfl)) (Or.inr (W 27 rfl)) (by decide) (t := .byte) (t' := (.array .byte)) (by decide) (by decide)))).ext E18)
  have f26 := ((f10.wr W8).ext E18)
  obtain ⟨T24, h24, X24, e24, W24, st24⟩ := putFN X23 hx hZ18 hown18 (W 32 rfl) Via.refl e23 f25 f26 (Or.inr ⟨(W 28 rfl), rfl, hnm⟩) (W 12 rfl) (ty := .byte) (v' := o0) (by decide) rfl rfl (g := (mkF m 23 #[rv a1, rv a2, .val o0, .val o0, .val .null, .unset] [o0, (.ref a1)])) rfl rfl (hb hby d_92)
  have z27 : h0.size ≤ h3.size := E3.1
  have z28 : h0.size ≤ h8.size := (Nat.le_trans z27 (Nat.le_of_eq W8.size.symm))
  have f29 := (CHr.safe c18 (Nat.lt_of_lt_of_le lt_2 z28) (Safe.wr W8 f11 c3.1 f11))
  have c30 := CHr.wr W24 f29 c18.1
  have C31 := CHr.trans C20 c30
  have O32 := O21.wr W24 g_3
  have K33 : Keep h0 h24 [a1] := Keep.wr K22 W24 (Or.inl (List.mem_of_getElem? (i := 0) rfl))
  have f34 : FA17 Z h24 a1 o0 := (f25.same W24)
  have N35 := Fr.snoc X24 N17 g_3
  have z36 : h18.size ≤ h24.size := (Nat.le_of_eq W24.size.symm)
  have f37 := (((La3.other W8 (Ne.symm ((Ln3 a1 (CHr.safe c3 lt_2 (hsf _ (List.mem_of_getElem? (i := 0) rfl)))).2))).ext E18).other W24 (Ne.symm ((Ln3 a1 (CHr.safe c3 lt_2 (hsf _ (List.mem_of_getElem? (i := 0) rfl)))).2)))
  have f38 := ((f16.ext E18).other W24 (Or.inr (slot_ne (Or.inr (W 27 rfl)) (Or.inr (W 28 rfl)) (by decide) (t := (.array .byte)) (t' := .byte) (by decide) (by decide))))
  refine ⟨T24, none, _, _, _, T18.vm, _, X24, hS18, (by rw [e24]; exact (Nat.le_trans hk18 z36)), by decide, by decide, (fun _ => rfl), ?_, own_che e24 (CHr.trans C31 (CHv.at (s := s) X24 hZ18 (own_ew_86 hw) c30.1)), fun fs hr => castTop (ef_94 m a1 a2) ?_⟩
  · show Q3_init Z a1 a2 h0 n0 _ T24.heap _
    rw [e24]
    exact ⟨b3v, kc3, rfl, N35, K33, f37, f38, f34⟩
  · show SS p e below s₁ m 0 #[rv a1, rv a2, .val o0, .val o0, .val .null, .unset] [] _
    refine XS.aloadN X1.here hx rfl (hb hby d_79) rfl rfl ?_
    refine st2 _ ?_
    refine XS.iloadN X2.here hx rfl (hb hby d_81) rfl ?_
    refine XS.ifNo X2.here hx rfl (hb hby d_82) rfl ((if0 _ _).trans (teq (by decide : (0 : Int32) = (0 : Int32))).2) ?_
    refine XS.aloadN X2.here hx rfl (hb hby d_83) rfl rfl ?_
    refine st3 _ ?_
    refine st7 _ ?_
    refine st8 _ ?_
    refine XS.aloadN X8.here hx rfl (hb hby d_89) rfl rfl ?_
    refine st18 _ ?_
    show SS p e below T18 m 20 #[rv a1, rv a2, .val o0, .val o0, .val .null, .unset] [(.ref b18), (.ref a1)] _
    refine st23 _ ?_
    refine st24 _ ?_
    exact X24.returnOut hx hret (hb hby d_93) hr
theorem pd_96 : parseMethodDescriptor "([CIILjava/lang/Void;)V" = some ⟨[(.array .char), .int, .int, (.object "java/lang/Void")], none⟩ := by decide +kernel
theorem d_97 : decode jdk_42_method_3_code 9 = .ok (.return_, 1) := by decide +kernel
theorem ef_98 (m : MethodId) (a1 : Addr) (a2 : Addr) : entryFrame m #[(.ref a1), (.ref a2)] 2 = mkF m 0 #[rv a1, rv a2] [] := by first | (simp [entryFrame, mkF, argsToLocals, Value.category]; done) | rfl
def Q4_init (Z : State) (a1 : Addr) (a2 : Addr) (k3 : ClassId) (h0 : Heap) (n0 : Nat) (v : Option Value) (h : Heap) (L : List Loc) : Prop := ∃ (b3_0 : Addr) (k3_0 : ClassId), v = none ∧ Fr n0 L ∧ Keep h0 h [a1] ∧ Arv Z h b3_0 k3_0 .byte (0 : Int32) [] o0 ∧ FA18 Z h a1 (.ref b3_0) ∧ FA17 Z h a1 o0
theorem rm4_init (l : Launch) (Z : State) (a0 : Array Value) (hw : HW Z a0) (a1 : Addr) (a2 : Addr) (k3 : ClassId) (h0 : Heap) (n0 : Nat) (O0 : Old Z n0 h0) (F_0 : Arv Z h0 a2 k3 .char (0 : Int32) [] o0) (F_1 : EA21 Z h0 a1) (F_2 : FA18 Z h0 a1 .null) (F_3 : FA17 Z h0 a1 o0) (lt_4 : a1 < h0.size) (g_5 : n0 ≤ a1) :
    MetH l Z [] MY4 jdk_42_method_3_code 2 none ({ frames := 2, cells := 4, slots := 8, locals := 29 } : Room) #[(.ref a1), (.ref a2)] h0 consts_1 [a1] (Q4_init Z a1 a2 k3 h0 n0) := by
  have W := @own_W _ _ hw
  refine own_mkH (plainFor_of_name pn_95) ?_
  intro p e s m below meth c s₁ hZ hx hby hml hown hnm hret hlk X0 e0 H0 hsf
  have N0 := Fr.nil n0
  have C0 := CHr.refl H0
  have X1 := (show Stand p l e _ (s.setVm s.vm) m _ below meth c _ _ _ _ from X0)
  obtain ⟨c2, A2, q2, S2, N2, H2, G2⟩ := id F_0
  obtain ⟨_, _, ⟨T3, L3, k3, n3⟩, -, Y3, hs3, hg3, ⟨Lc3, hQ3, l3, y3, z3, c3⟩, st3⟩ := X1.specialBackS hx (y := MY3) rfl hown (mvT hZ (W 18 rfl)) (mvT hZ (W 19 rfl)) (mvT hZ (W 21 rfl)) (by decide) (own_backH (s := s) (vm0 := s.vm) (W := 0) (rm3_init l Z a0 hw a1 a2 h0 n0 O0 (F_1) (F_2) (lt_4) (g_5) (F_3)) hZ (W 21 rfl) (W 13 rfl) (by decide) (by decide) (own_ew_86 hw) H0 (own_sfS (hsf _ (List.mem_of_getElem? (i := 0) rfl)) lt_4 own_sf0)) (g := (mkF m 6 #[rv a1, rv a2] [.null, o0, o0, (.ref a2), (.ref a1)])) rfl (by rw [hml]; rfl) (Steps.refl _) (a := a1) (argsL := [(.ref a2), o0, o0, .null]) (rest := []) (lenOf pd_96 rfl) rfl (by show 2 * 0 + _ ≤ _; exact Nat.le_of_eq rfl) (hb hby d_78) (fun _ _ => ⟨rfl, e0, (by decide : 0 + 4 ≤ _), (by decide : 0 + 8 ≤ _)⟩)
  dsimp only [Pt.U, Pt.locs, Pt.cells, Pt.slots] at Y3 l3 y3 z3 st3 hQ3 hs3 hg3 c3
  subst l3 y3 z3
  obtain ⟨X3, hS3, hZ3, hown3⟩ := rebS (s := s) (vm0 := s.vm) ((State.WarmedH.refl s).since 0) (Nat.zero_le _) Y3 hs3 hg3 hZ hown
  obtain ⟨b3_0, k3_0, rfl, N3q, K3, F3_0, F3_1, F3_2⟩ := hQ3
  have N4 := Fr.app N0 N3q
  have C5 := CHr.trans C0 c3
  have O6 := O0.keep K3 (allS g_5 all0)
  have K7 : Keep h0 T3.heap [a1] := Keep.trans (Keep.refl h0 [a1]) K3 (allS (Or.inl (List.mem_of_getElem? (i := 0) rfl)) all0)
  refine ⟨T3, none, _, _, _, T3.vm, _, X3, hS3, (Nat.le_refl _), by decide, by decide, (fun _ => rfl), ?_, own_che rfl (CHr.trans C5 (CHv.at (s := s) X3 hZ3 (own_ew_86 hw) c3.1)), fun fs hr => castTop (ef_98 m a1 a2) ?_⟩
  · show Q4_init Z a1 a2 k3 h0 n0 _ T3.heap _
    exact ⟨b3_0, k3_0, rfl, N4, K7, F3_0, F3_1, F3_2⟩
  · show SS p e below s₁ m 0 #[rv a1, rv a2] [] _
    refine XS.aloadN X1.here hx rfl (hb hby d_72) rfl rfl ?_
    refine XS.aloadN X1.here hx rfl (hb hby d_73) rfl rfl ?_
    refine XS.iconst X1.here hx rfl (hb hby d_74) ?_
    refine XS.aloadN X1.here hx rfl (hb hby d_75) rfl rfl ?_
    refine X1.arraylength hx (by rw [e0]; exact A2.1) (State.isArrayOf_alike hZ.alike A2.2.1) (g := (mkF m 4 #[rv a1, rv a2] [(.ref a2), o0, (.ref a2), (.ref a1)])) rfl rfl (hb hby d_76) _ ?_
    rw [len_of S2 N2]
    refine XS.aconstNull X1.here hx rfl (hb hby d_77) ?_
    refine st3.trans ?_
    exact X3.returnOut hx hret (hb hby d_97) hr
theorem pd_99 : parseMethodDescriptor "([C)V" = some ⟨[(.array .char)], none⟩ := by decide +kernel
theorem d_100 : decode method_3_code 31 = .ok (.areturn, 1) := by decide +kernel
theorem d_101 : decode method_3_code 32 = .ok (.iload_n 0, 1) := by decide +kernel
theorem d_102 : decode method_3_code 33 = .ok (.iconst 1, 1) := by decide +kernel
theorem d_103 : decode method_3_code 34 = .ok (.if_icmp .ne 8, 3) := by decide +kernel
theorem d_104 : decode method_3_code 37 = .ok (.iload_n 2, 1) := by decide +kernel
theorem d_105 : decode method_3_code 38 = .ok (.invokestatic 18, 3) := by decide +kernel
theorem d_106 : decode jdk_42_method_139_code 0 = .ok (.getstatic 38, 3) := by decide +kernel
theorem d_107 : decode jdk_42_method_139_code 3 = .ok (.ifCond .eq 23, 3) := by decide +kernel
theorem d_108 : decode jdk_42_method_139_code 6 = .ok (.iload_n 0, 1) := by decide +kernel
theorem d_109 : decode jdk_42_method_139_code 7 = .ok (.invokestatic 1015, 3) := by decide +kernel
theorem d_110 : decode jdk_43_method_3_code 0 = .ok (.iload_n 0, 1) := by decide +kernel
theorem d_111 : decode jdk_43_method_3_code 1 = .ok (.sipush 255, 3) := by decide +kernel
theorem d_112 : decode jdk_43_method_3_code 4 = .ok (.if_icmp .gt 7, 3) := by decide +kernel
theorem d_113 : decode jdk_43_method_3_code 7 = .ok (.iconst 1, 1) := by decide +kernel
theorem d_114 : decode jdk_43_method_3_code 8 = .ok (.goto 4, 3) := by decide +kernel
theorem d_115 : decode jdk_43_method_3_code 12 = .ok (.ireturn, 1) := by decide +kernel
theorem pn_116 : plainName "java/lang/StringLatin1" = true := by first | (simp [plainName, overriddenIn]; done) | decide +kernel
def Q5_canEncode (Z : State) (p1 : Int32) (h0 : Heap) (n0 : Nat) (v : Option Value) (h : Heap) (L : List Loc) : Prop := v = some (.int (1 : Int32)) ∧ Fr n0 L ∧ h = h0
theorem rm5_canEncode (l : Launch) (Z : State) (a0 : Array Value) (hw : HW Z a0) (p1 : Int32) (h0 : Heap) (n0 : Nat) (O0 : Old Z n0 h0) (hc_0 : ¬ ((255 : Int32) < p1)) :
    Met l Z [] MY5 jdk_43_method_3_code 1 (some .boolean) ({ frames := 0, cells := 0, slots := 0, locals := 0 } : Room) #[(.int p1)] h0 (Q5_canEncode Z p1 h0 n0) := by
  have W := @own_W _ _ hw
  refine own_mk (plainFor_of_name pn_116) ?_
  intro p e s m below meth c s₁ hZ hx hby hml hown hnm hret hlk X0 e0
  have N0 := Fr.nil n0
  refine ⟨s₁, some (.int (1 : Int32)), _, _, _, X0, by decide, by decide, nofun, ?_, fun fs hr => castTop (ef_15 m p1) ?_⟩
  · show Q5_canEncode Z p1 h0 n0 _ s₁.heap _
    rw [e0]
    exact ⟨rfl, N0, rfl⟩
  · show SS p e below s₁ m 0 #[iv p1] [] _
    refine XS.iloadN X0.here hx rfl (hb hby d_110) rfl ?_
    refine XS.sipush X0.here hx rfl (hb hby d_111) ?_
    refine XS.icmpNo X0.here hx rfl (hb hby d_112) rfl (flt hc_0).2.2.1 ?_
    refine XS.iconst X0.here hx rfl (hb hby d_113) ?_
    refine XS.goto X0.here hx rfl (pc0 := 8) (pc' := 12) rfl (hb hby d_114) (by decide) (by decide) ?_
    exact retN X0 hx (t := .boolean) hret (by simp) (hb hby d_115) hr
theorem pd_117 : parseMethodDescriptor "(C)Z" = some ⟨[.char], some .boolean⟩ := by decide +kernel
theorem d_118 : decode jdk_42_method_139_code 10 = .ok (.ifCond .eq 16, 3) := by decide +kernel
theorem d_119 : decode jdk_42_method_139_code 13 = .ok (.new 10, 3) := by decide +kernel
theorem d_120 : decode jdk_42_method_139_code 16 = .ok (.dup, 1) := by decide +kernel
theorem d_121 : decode jdk_42_method_139_code 17 = .ok (.iload_n 0, 1) := by decide +kernel
theorem d_122 : decode jdk_42_method_139_code 18 = .ok (.invokestatic 1018, 3) := by decide +kernel
theorem d_123 : decode jdk_43_method_46_code 0 = .ok (.iconst 1, 1) := by decide +kernel
theorem d_124 : decode jdk_43_method_46_code 1 = .ok (.newarray .byte, 2) := by decide +kernel
theorem d_125 : decode jdk_43_method_46_code 3 = .ok (.dup, 1) := by decide +kernel
theorem d_126 : decode jdk_43_method_46_code 4 = .ok (.iconst 0, 1) := by decide +kernel
theorem d_127 : decode jdk_43_method_46_code 5 = .ok (.iload_n 0, 1) := by decide +kernel
theorem d_128 : decode jdk_43_method_46_code 6 = .ok (.i2b, 1) := by decide +kernel
theorem d_129 : decode jdk_43_method_46_code 7 = .ok (.bastore, 1) := by decide +kernel
theorem d_130 : decode jdk_43_method_46_code 8 = .ok (.areturn, 1) := by decide +kernel
def Q6_toBytes (Z : State) (p1 : Int32) (h0 : Heap) (n0 : Nat) (v : Option Value) (h : Heap) (L : List Loc) : Prop := ∃ (b1 : Addr) (k1 : ClassId), v = some (.ref b1) ∧ Fr n0 L ∧ Keep h0 h [] ∧ h0.size ≤ b1 ∧ Arv Z h b1 k1 .byte (1 : Int32) [(.int (p1.toInt8.toInt32))] o0 ∧ EA22 Z h b1
theorem rm6_toBytes (l : Launch) (Z : State) (a0 : Array Value) (hw : HW Z a0) (p1 : Int32) (h0 : Heap) (n0 : Nat) (O0 : Old Z n0 h0)  :
    Met l Z [] MY6 jdk_43_method_46_code 1 (some (.array .byte)) ({ frames := 0, cells := 1, slots := 1, locals := 0 } : Room) #[(.int p1)] h0 (Q6_toBytes Z p1 h0 n0) := by
  have W := @own_W _ _ hw
  refine own_mk (plainFor_of_name pn_116) ?_
  intro p e s m below meth c s₁ hZ hx hby hml hown hnm hret hlk X0 e0
  have N0 := Fr.nil n0
  obtain ⟨T1, h1, k1, X1, e1, E1, A1, B1, st1⟩ := newPE X0 hx hZ (W 26 rfl) e0 (g := (mkF m 1 #[iv p1] [(.int (1 : Int32))])) rfl (hb hby d_124) rfl (by decide) (cap := 1) (by decide) (by decide) (by decide) (by decide) (ad := "[B") rfl
  obtain ⟨b1, g1⟩ : ∃ z, z = h0.size := ⟨_, rfl⟩
  rw [← g1] at A1 B1 st1
  have O2 := O0.ext E1
  have K3 : Keep h0 h1 [] := Keep.ext (Keep.refl h0 []) E1
  have v4 : Arv Z h1 b1 k1 .byte (1 : Int32) [o0] o0 := (Arv.new A1 (by decide)).pad (pad_rep [] o0 1)
  obtain ⟨c5, A5, q5, S5, N5, H5, G5⟩ := id v4
  have i6 : ¬ ((0 : Int32) < 0 ∨ c5.slots.size ≤ ((0 : Int32)).toNatClampNeg) := inb_of S5 ⟨by decide, by decide⟩
  obtain ⟨T6, h6, X6, e6, W6, st6⟩ := stB X1 hx hZ e1 A5 (j := (0 : Int32)) i6 (g := (mkF m 7 #[iv p1] [(.int (p1.toInt8.toInt32)), o0, (.ref b1), (.ref b1)])) rfl rfl (hb hby d_129)
  rw [(own_narB _)] at W6
  have g7 : n0 ≤ b1 := Nat.le_trans (Nat.le_trans (Nat.le_of_eq O0.1.symm) O0.2.1) (Nat.le_of_eq g1.symm)
  have O8 := O2.wr W6 g7
  have K9 : Keep h0 h6 [] := Keep.wr K3 W6 (Or.inr (Nat.le_of_eq g1.symm))
  have v10 : Arv Z h6 b1 k1 .byte (1 : Int32) [(.int (p1.toInt8.toInt32))] o0 := Arv.set A5 q5 S5 N5 H5 G5 (own_fput (by simp) (own_narB _)) W6 0 rfl (Nat.le_of_ble_eq_true rfl)
  have N11 := Fr.snoc X6 N0 g7
  have f12 := (B1.wr W6)
  refine ⟨T6, some (.ref b1), _, _, _, X6, by decide, by decide, nofun, ?_, fun fs hr => castTop (ef_15 m p1) ?_⟩
  · show Q6_toBytes Z p1 h0 n0 _ T6.heap _
    rw [e6]
    exact ⟨b1, k1, rfl, N11, K9, (Nat.le_of_eq g1.symm), v10, f12⟩
  · show SS p e below s₁ m 0 #[iv p1] [] _
    refine XS.iconst X0.here hx rfl (hb hby d_123) ?_
    refine st1 _ ?_
    refine XS.dup X1.here hx rfl (hb hby d_125) rfl rfl ?_
    refine XS.iconst X1.here hx rfl (hb hby d_126) ?_
    refine XS.iloadN X1.here hx rfl (hb hby d_127) rfl ?_
    show SS p e below T1 m 6 #[iv p1] [(.int p1), o0, (.ref b1), (.ref b1)] _
    refine XS.i2b X1.here hx rfl (hb hby d_128) rfl ?_
    show SS p e below T1 m 7 #[iv p1] [(.int (p1.toInt8.toInt32)), o0, (.ref b1), (.ref b1)] _
    refine st6 _ ?_
    exact retOut X6 hx hret rfl (Or.inr (Or.inr (Or.inr (Or.inr ⟨rfl, rfl, rfl⟩)))) (hb hby d_130) hr
theorem pd_131 : parseMethodDescriptor "(C)[B" = some ⟨[.char], some (.array .byte)⟩ := by decide +kernel
theorem d_132 : decode jdk_42_method_139_code 21 = .ok (.iconst 0, 1) := by decide +kernel
theorem d_133 : decode jdk_42_method_139_code 22 = .ok (.invokespecial 209, 3) := by decide +kernel
theorem d_134 : decode jdk_42_method_151_code 0 = .ok (.aload_n 0, 1) := by decide +kernel
theorem d_135 : decode jdk_42_method_151_code 1 = .ok (.invokespecial 1, 3) := by decide +kernel
theorem d_136 : decode jdk_42_method_151_code 4 = .ok (.aload_n 0, 1) := by decide +kernel
theorem d_137 : decode jdk_42_method_151_code 5 = .ok (.aload_n 1, 1) := by decide +kernel
theorem d_138 : decode jdk_42_method_151_code 6 = .ok (.putfield 9, 3) := by decide +kernel
theorem d_139 : decode jdk_42_method_151_code 9 = .ok (.aload_n 0, 1) := by decide +kernel
theorem d_140 : decode jdk_42_method_151_code 10 = .ok (.iload_n 2, 1) := by decide +kernel
theorem d_141 : decode jdk_42_method_151_code 11 = .ok (.putfield 15, 3) := by decide +kernel
theorem d_142 : decode jdk_42_method_151_code 14 = .ok (.return_, 1) := by decide +kernel
theorem ef_143 (m : MethodId) (a1 : Addr) (a2 : Addr) : entryFrame m #[(.ref a1), (.ref a2), o0] 3 = mkF m 0 #[rv a1, rv a2, .val o0] [] := by first | (simp [entryFrame, mkF, argsToLocals, Value.category]; done) | rfl
def Q7_init (Z : State) (a1 : Addr) (a2 : Addr) (h0 : Heap) (n0 : Nat) (v : Option Value) (h : Heap) (L : List Loc) : Prop := v = none ∧ Fr n0 L ∧ Keep h0 h [a1] ∧ FA18 Z h a1 (.ref a2) ∧ FA17 Z h a1 o0
theorem rm7_init (l : Launch) (Z : State) (a0 : Array Value) (hw : HW Z a0) (a1 : Addr) (a2 : Addr) (h0 : Heap) (n0 : Nat) (O0 : Old Z n0 h0) (F_0 : EA21 Z h0 a1) (F_1 : FA18 Z h0 a1 .null) (g_2 : n0 ≤ a1) (F_3 : FA17 Z h0 a1 o0) :
    Met l Z [] MY7 jdk_42_method_151_code 3 none ({ frames := 1, cells := 0, slots := 0, locals := 12 } : Room) #[(.ref a1), (.ref a2), o0] h0 (Q7_init Z a1 a2 h0 n0) := by
  have W := @own_W _ _ hw
  refine own_mk (plainFor_of_name pn_95) ?_
  intro p e s m below meth c s₁ hZ hx hby hml hown hnm hret hlk X0 e0
  have N0 := Fr.nil n0
  obtain ⟨T1, X1, e1, st1⟩ := initO X0 hx hZ hown (W 22 rfl) (W 23 rfl) (W 24 rfl) e0 (g := (mkF m 1 #[rv a1, rv a2, .val o0] [(.ref a1)])) rfl (by rw [hml]; rfl) rfl (hb hby d_135) (by decide) (W := 0) (by show 2 * 0 + _ ≤ _; exact Nat.le_of_eq rfl) (by decide)
  obtain ⟨T2, h2, X2, e2, W2, st2⟩ := putF X1 hx hZ hown (host := "") (Or.inl (W 31 rfl)) Via.refl e1 F_1 F_0 (Or.inr ⟨(W 27 rfl), rfl, hnm⟩) (W 12 rfl) (ty := (.array .byte)) (by decide) rfl rfl (g := (mkF m 6 #[rv a1, rv a2, .val o0] [(.ref a2), (.ref a1)])) rfl rfl (hb hby d_138)
  have O3 := O0.wr W2 g_2
  have K4 : Keep h0 h2 [a1] := Keep.wr (Keep.refl h0 [a1]) W2 (Or.inl (List.mem_of_getElem? (i := 0) rfl))
  have f5 : FA18 Z h2 a1 (.ref a2) := (F_1.same W2)
  have N6 := Fr.snoc X2 N0 g_2
  have f8 := (F_3.other W2 (Or.inr (slot_ne (Or.inr (W 28 rfl)) (Or.inr (W 27 rfl)) (by decide) (t := .byte) (t' := (.array .byte)) (by decide) (by decide))))
  have f9 := (F_0.wr W2)
  obtain ⟨T7, h7, X7, e7, W7, st7⟩ := putFN X2 hx hZ hown (W 32 rfl) Via.refl e2 f8 f9 (Or.inr ⟨(W 28 rfl), rfl, hnm⟩) (W 12 rfl) (ty := .byte) (v' := o0) (by decide) rfl rfl (g := (mkF m 11 #[rv a1, rv a2, .val o0] [o0, (.ref a1)])) rfl rfl (hb hby d_141)
  have O10 := O3.wr W7 g_2
  have K11 : Keep h0 h7 [a1] := Keep.wr K4 W7 (Or.inl (List.mem_of_getElem? (i := 0) rfl))
  have f12 : FA17 Z h7 a1 o0 := (f8.same W7)
  have N13 := Fr.snoc X7 N6 g_2
  have f14 := (f5.other W7 (Or.inr (slot_ne (Or.inr (W 27 rfl)) (Or.inr (W 28 rfl)) (by decide) (t := (.array .byte)) (t' := .byte) (by decide) (by decide))))
  refine ⟨T7, none, _, _, _, X7, by decide, by decide, (fun _ => rfl), ?_, fun fs hr => castTop (ef_143 m a1 a2) ?_⟩
  · show Q7_init Z a1 a2 h0 n0 _ T7.heap _
    rw [e7]
    exact ⟨rfl, N13, K11, f14, f12⟩
  · show SS p e below s₁ m 0 #[rv a1, rv a2, .val o0] [] _
    refine XS.aloadN X0.here hx rfl (hb hby d_134) rfl rfl ?_
    refine st1 _ ?_
    refine XS.aloadN X1.here hx rfl (hb hby d_136) rfl rfl ?_
    refine XS.aloadN X1.here hx rfl (hb hby d_137) rfl rfl ?_
    refine st2 _ ?_
    refine XS.aloadN X2.here hx rfl (hb hby d_139) rfl rfl ?_
    refine XS.iloadN X2.here hx rfl (hb hby d_140) rfl ?_
    refine st7 _ ?_
    exact X7.returnOut hx hret (hb hby d_142) hr
theorem pd_144 : parseMethodDescriptor "([BB)V" = some ⟨[(.array .byte), .byte], none⟩ := by decide +kernel
theorem d_145 : decode jdk_42_method_139_code 25 = .ok (.areturn, 1) := by decide +kernel
def Q8_valueOf (Z : State) (p1 : Int32) (p2 : Int32) (h0 : Heap) (n0 : Nat) (v : Option Value) (h : Heap) (L : List Loc) : Prop := ∃ (b4 : Addr) (b7_0 : Addr) (k7_0 : ClassId), v = some (.ref b4) ∧ Fr n0 L ∧ Keep h0 h [] ∧ h0.size ≤ b4 ∧ h0.size ≤ b7_0 ∧ EA21 Z h b4 ∧ FA18 Z h b4 (.ref b7_0) ∧ FA17 Z h b4 o0 ∧ Arv Z h b7_0 k7_0 .byte (1 : Int32) [(.int (p1.toInt8.toInt32))] o0 ∧ EA22 Z h b7_0
theorem rm8_valueOf (l : Launch) (Z : State) (a0 : Array Value) (hw : HW Z a0) (p1 : Int32) (p2 : Int32) (h0 : Heap) (n0 : Nat) (O0 : Old Z n0 h0) (S_0 : SA24 Z Z.heap (.int p2)) (hc_1 : ¬ (p2 = (0 : Int32))) (hc_2 : ¬ ((255 : Int32) < p1)) :
    Met l Z [] MY8 jdk_42_method_139_code 1 (some (.object "java/lang/String")) ({ frames := 2, cells := 2, slots := 5, locals := 27 } : Room) #[(.int p1)] h0 (Q8_valueOf Z p1 p2 h0 n0) := by
  have W := @own_W _ _ hw
  refine own_mk (plainFor_of_name pn_95) ?_
  intro p e s m below meth c s₁ hZ hx hby hml hown hnm hret hlk X0 e0
  have N0 := Fr.nil n0
  obtain ⟨T1, X1, e1, st1⟩ := getS2 X0 hx hZ hown (host := "") (Or.inl (W 60 rfl)) Via.refl e0 (S_0.ext O0.2) (g := (mkF m 0 #[iv p1] [])) rfl (hb hby d_106)
  obtain ⟨_, T2, L2, X2, hQ2, st2⟩ := own_cs X1 hx hZ hown hml (W 78 rfl) (W 79 rfl) (W 63 rfl) (W 80 rfl) (rm5_canEncode l Z a0 hw p1 h0 n0 O0 (hc_2)) e1 (hb hby d_109) 0 #[iv p1] [(.int p1)] [] pd_117
  obtain ⟨rfl, N2q, K2⟩ := hQ2
  have N3 := Fr.app N0 N2q
  obtain ⟨T4, h4, X4, e4, E4, A4, D4, -, st4⟩ := newO X2 hx hZ hown (W 59 rfl) (W 12 rfl) (W 13 rfl) K2 (g := (mkF m 13 #[iv p1] [])) rfl (hb hby d_119) (by decide) (by decide)
  obtain ⟨b4, g4⟩ : ∃ z, z = h0.size := ⟨_, rfl⟩
  rw [← g4] at A4 D4 st4
  have O5 := O0.ext E4
  have K6 : Keep h0 h4 [] := Keep.ext (Keep.refl h0 []) E4
  obtain ⟨_, T7, L7, X7, hQ7, st7⟩ := own_cs X4 hx hZ hown hml (W 81 rfl) (W 82 rfl) (W 63 rfl) (W 83 rfl) (rm6_toBytes l Z a0 hw p1 h4 n0 O5 ) e4 (hb hby d_122) 2 #[iv p1] [(.int p1)] [(.ref b4), (.ref b4)] pd_131
  obtain ⟨b7_0, k7_0, rfl, N7q, K7, gb7_0, F7_0, F7_1⟩ := hQ7
  have N8 := Fr.app N3 N7q
  have O9 := O5.keep K7 all0
  have K10 : Keep h0 T7.heap [] := Keep.trans K6 K7 all0
  have f12 := (A4.keep K7)
  have f13 := ((D4 (Or.inr (W 27 rfl)) (ty := (.array .byte)) (by decide) : FA18 Z h4 b4 .null).keep K7 nin0)
  have g14 : n0 ≤ b4 := Nat.le_trans (Nat.le_trans (Nat.le_of_eq O0.1.symm) O0.2.1) (Nat.le_of_eq g4.symm)
  have f15 := ((D4 (Or.inr (W 28 rfl)) (ty := .byte) (by decide) : FA17 Z h4 b4 o0).keep K7 nin0)
  obtain ⟨_, T11, L11, X11, hQ11, st11⟩ := own_cp X7 hx hZ hown hml rfl (W 84 rfl) (W 85 rfl) (W 13 rfl) (W 86 rfl) (rm7_init l Z a0 hw b4 b7_0 T7.heap n0 O9 (f12) (f13) (g14) (f15)) rfl (hb hby d_133) 1 #[iv p1] b4 [(.ref b7_0), o0] [(.ref b4)] pd_144
  obtain ⟨rfl, N11q, K11, F11_0, F11_1⟩ := hQ11
  have N16 := Fr.app N8 N11q
  have O17 := O9.keep K11 (allS g14 all0)
  have K18 : Keep h0 T11.heap [] := Keep.trans K10 K11 (allS (Or.inr (Nat.le_of_eq g4.symm)) all0)
  have f19 := (f12.keep K11)
  have f20 := (F7_0.keep K11 (ninS (Ne.symm (Nat.ne_of_lt (Nat.lt_of_lt_of_le A4.lt gb7_0))) nin0))
  have f21 := (F7_1.keep K11)
  have z22 : h0.size ≤ h4.size := E4.1
  refine ⟨T11, some (.ref b4), _, _, _, X11, by decide, by decide, nofun, ?_, fun fs hr => castTop (ef_15 m p1) ?_⟩
  · show Q8_valueOf Z p1 p2 h0 n0 _ T11.heap _
    exact ⟨b4, b7_0, k7_0, rfl, N16, K18, (Nat.le_of_eq g4.symm), (Nat.le_trans z22 gb7_0), f19, F11_0, F11_1, f20, f21⟩
  · show SS p e below s₁ m 0 #[iv p1] [] _
    refine st1 _ ?_
    refine XS.ifNo X1.here hx rfl (hb hby d_107) rfl ((if0 _ _).trans (feq hc_1).1) ?_
    refine XS.iloadN X1.here hx rfl (hb hby d_108) rfl ?_
    refine st2 _ ?_
    refine XS.ifNo X2.here hx rfl (hb hby d_118) rfl ((if0 _ _).trans (feq (by decide : ¬ ((1 : Int32) = (0 : Int32)))).1) ?_
    refine st4 _ ?_
    refine XS.dup X4.here hx rfl (hb hby d_120) rfl rfl ?_
    refine XS.iloadN X4.here hx rfl (hb hby d_121) rfl ?_
    refine st7 _ ?_
    refine XS.iconst X7.here hx rfl (hb hby d_132) ?_
    show SS p e below T7 m 22 #[iv p1] [o0, (.ref b7_0), (.ref b4), (.ref b4)] _
    refine st11 _ ?_
    exact retOut X11 hx hret rfl (Or.inr (Or.inr (Or.inr (Or.inr ⟨rfl, rfl, rfl⟩)))) (hb hby d_145) hr
theorem pd_146 : parseMethodDescriptor "(C)Ljava/lang/String;" = some ⟨[.char], some (.object "java/lang/String")⟩ := by decide +kernel
theorem d_147 : decode method_3_code 41 = .ok (.areturn, 1) := by decide +kernel
theorem d_148 : decode method_3_code 42 = .ok (.iconst 2, 1) := by decide +kernel
theorem d_149 : decode method_3_code 43 = .ok (.newarray .char, 2) := by decide +kernel
theorem d_150 : decode method_3_code 45 = .ok (.astore 4, 2) := by decide +kernel
theorem d_151 : decode method_3_code 47 = .ok (.aload 4, 2) := by decide +kernel
theorem d_152 : decode method_3_code 49 = .ok (.iconst 0, 1) := by decide +kernel
theorem d_153 : decode method_3_code 50 = .ok (.iload_n 2, 1) := by decide +kernel
theorem d_154 : decode method_3_code 51 = .ok (.castore, 1) := by decide +kernel
theorem d_155 : decode method_3_code 52 = .ok (.aload 4, 2) := by decide +kernel
theorem d_156 : decode method_3_code 54 = .ok (.iconst 1, 1) := by decide +kernel
theorem d_157 : decode method_3_code 55 = .ok (.iload_n 3, 1) := by decide +kernel
theorem d_158 : decode method_3_code 56 = .ok (.castore, 1) := by decide +kernel
theorem d_159 : decode method_3_code 57 = .ok (.new 13, 3) := by decide +kernel
theorem d_160 : decode method_3_code 60 = .ok (.dup, 1) := by decide +kernel
theorem d_161 : decode method_3_code 61 = .ok (.aload 4, 2) := by decide +kernel
theorem d_162 : decode method_3_code 63 = .ok (.invokespecial 15, 3) := by decide +kernel
theorem d_163 : decode jdk_42_method_149_code 27 = .ok (.getstatic 38, 3) := by decide +kernel
theorem d_164 : decode jdk_42_method_149_code 30 = .ok (.ifCond .eq 28, 3) := by decide +kernel
theorem d_165 : decode jdk_42_method_149_code 33 = .ok (.aload_n 1, 1) := by decide +kernel
theorem d_166 : decode jdk_42_method_149_code 34 = .ok (.iload_n 2, 1) := by decide +kernel
theorem d_167 : decode jdk_42_method_149_code 35 = .ok (.iload_n 3, 1) := by decide +kernel
theorem d_168 : decode jdk_42_method_149_code 36 = .ok (.invokestatic 177, 3) := by decide +kernel
theorem d_169 : decode jdk_52_method_16_code 0 = .ok (.iload_n 2, 1) := by decide +kernel
theorem d_170 : decode jdk_52_method_16_code 1 = .ok (.newarray .byte, 2) := by decide +kernel
theorem d_171 : decode jdk_52_method_16_code 3 = .ok (.astore_n 3, 1) := by decide +kernel
theorem d_172 : decode jdk_52_method_16_code 4 = .ok (.aload_n 0, 1) := by decide +kernel
theorem d_173 : decode jdk_52_method_16_code 5 = .ok (.iload_n 1, 1) := by decide +kernel
theorem d_174 : decode jdk_52_method_16_code 6 = .ok (.aload_n 3, 1) := by decide +kernel
theorem d_175 : decode jdk_52_method_16_code 7 = .ok (.iconst 0, 1) := by decide +kernel
theorem d_176 : decode jdk_52_method_16_code 8 = .ok (.iload_n 2, 1) := by decide +kernel
theorem d_177 : decode jdk_52_method_16_code 9 = .ok (.invokestatic 115, 3) := by decide +kernel
theorem d_178 : decode jdk_52_method_21_code 0 = .ok (.iconst 0, 1) := by decide +kernel
theorem d_179 : decode jdk_52_method_21_code 1 = .ok (.istore 5, 2) := by decide +kernel
theorem d_180 : decode jdk_52_method_21_code 3 = .ok (.iload 5, 2) := by decide +kernel
theorem d_181 : decode jdk_52_method_21_code 5 = .ok (.iload 4, 2) := by decide +kernel
theorem d_182 : decode jdk_52_method_21_code 7 = .ok (.if_icmp .ge 37, 3) := by decide +kernel
theorem d_183 : decode jdk_52_method_21_code 10 = .ok (.aload_n 0, 1) := by decide +kernel
theorem d_184 : decode jdk_52_method_21_code 11 = .ok (.iload_n 1, 1) := by decide +kernel
theorem d_185 : decode jdk_52_method_21_code 12 = .ok (.caload, 1) := by decide +kernel
theorem d_186 : decode jdk_52_method_21_code 13 = .ok (.istore 6, 2) := by decide +kernel
theorem d_187 : decode jdk_52_method_21_code 15 = .ok (.iload 6, 2) := by decide +kernel
theorem d_188 : decode jdk_52_method_21_code 17 = .ok (.sipush 255, 3) := by decide +kernel
theorem d_189 : decode jdk_52_method_21_code 20 = .ok (.if_icmp .le 6, 3) := by decide +kernel
theorem d_190 : decode jdk_52_method_21_code 26 = .ok (.aload_n 2, 1) := by decide +kernel
theorem d_191 : decode jdk_52_method_21_code 27 = .ok (.iload_n 3, 1) := by decide +kernel
theorem d_192 : decode jdk_52_method_21_code 28 = .ok (.iload 6, 2) := by decide +kernel
theorem d_193 : decode jdk_52_method_21_code 30 = .ok (.i2b, 1) := by decide +kernel
theorem d_194 : decode jdk_52_method_21_code 31 = .ok (.bastore, 1) := by decide +kernel
theorem d_195 : decode jdk_52_method_21_code 32 = .ok (.iinc 1 1, 3) := by decide +kernel
theorem d_196 : decode jdk_52_method_21_code 35 = .ok (.iinc 3 1, 3) := by decide +kernel
theorem d_197 : decode jdk_52_method_21_code 38 = .ok (.iinc 5 1, 3) := by decide +kernel
theorem d_198 : decode jdk_52_method_21_code 41 = .ok (.goto (-38), 3) := by decide +kernel
theorem d_199 : decode jdk_52_method_21_code 44 = .ok (.iload 4, 2) := by decide +kernel
theorem d_200 : decode jdk_52_method_21_code 46 = .ok (.ireturn, 1) := by decide +kernel
theorem ef_201 (m : MethodId) (a1 : Addr) (a2 : Addr) : entryFrame m #[(.ref a1), o0, (.ref a2), o0, (.int (2 : Int32))] 7 = mkF m 0 #[rv a1, .val o0, rv a2, .val o0, iv (2 : Int32), .unset, .unset] [] := by first | (simp [entryFrame, mkF, argsToLocals, Value.category]; done) | rfl
theorem pn_202 : plainName "java/lang/StringUTF16" = true := by first | (simp [plainName, overriddenIn]; done) | decide +kernel
def Q9_compress (Z : State) (a1 : Addr) (a2 : Addr) (k3 : ClassId) (p4 : Int32) (p5 : Int32) (k6 : ClassId) (h0 : Heap) (n0 : Nat) (v : Option Value) (h : Heap) (L : List Loc) : Prop := v = some (.int (2 : Int32)) ∧ Fr n0 L ∧ Keep h0 h [a2] ∧ Arv Z h a2 k6 .byte (2 : Int32) [(.int (p4.toInt8.toInt32)), (.int (p5.toInt8.toInt32))] o0
theorem rm9_compress (l : Launch) (Z : State) (a0 : Array Value) (hw : HW Z a0) (a1 : Addr) (a2 : Addr) (k3 : ClassId) (p4 : Int32) (p5 : Int32) (k6 : ClassId) (h0 : Heap) (n0 : Nat) (O0 : Old Z n0 h0) (F_0 : Arv Z h0 a1 k3 .char (2 : Int32) [(.int p4), (.int p5)] o0) (hc_1 : ¬ ((255 : Int32) < p4)) (F_2 : Arv Z h0 a2 k6 .byte (2 : Int32) [o0, o0] o0) (g_3 : n0 ≤ a2) (ne_4 : a1 ≠ a2) (hc_5 : ¬ ((255 : Int32) < p5)) :
    Met l Z [] MY9 jdk_52_method_21_code 7 (some .int) ({ frames := 0, cells := 0, slots := 0, locals := 0 } : Room) #[(.ref a1), o0, (.ref a2), o0, (.int (2 : Int32))] h0 (Q9_compress Z a1 a2 k3 p4 p5 k6 h0 n0) := by
  have W := @own_W _ _ hw
  refine own_mk (plainFor_of_name pn_202) ?_
  intro p e s m below meth c s₁ hZ hx hby hml hown hnm hret hlk X0 e0
  have N0 := Fr.nil n0
  obtain ⟨c1, A1, q1, S1, N1, H1, G1⟩ := id F_0
  have i2 : ¬ ((0 : Int32) < 0 ∨ c1.slots.size ≤ ((0 : Int32)).toNatClampNeg) := inb_of S1 ⟨by decide, by decide⟩
  obtain ⟨c3, A3, q3, S3, N3, H3, G3⟩ := id F_2
  have i4 : ¬ ((0 : Int32) < 0 ∨ c3.slots.size ≤ ((0 : Int32)).toNatClampNeg) := inb_of S3 ⟨by decide, by decide⟩
  obtain ⟨T4, h4, X4, e4, W4, st4⟩ := stB X0 hx hZ e0 A3 (j := (0 : Int32)) i4 (g := (mkF m 31 #[rv a1, .val o0, rv a2, .val o0, iv (2 : Int32), .val o0, iv p4] [(.int (p4.toInt8.toInt32)), o0, (.ref a2)])) rfl rfl (hb hby d_194)
  rw [(own_narB _)] at W4
  have O5 := O0.wr W4 g_3
  have K6 : Keep h0 h4 [a2] := Keep.wr (Keep.refl h0 [a2]) W4 (Or.inl (List.mem_of_getElem? (i := 0) rfl))
  have v7 : Arv Z h4 a2 k6 .byte (2 : Int32) [(.int (p4.toInt8.toInt32)), o0] o0 := Arv.set A3 q3 S3 N3 H3 G3 (own_fput (by simp) (own_narB _)) W4 0 rfl (Nat.le_of_ble_eq_true rfl)
  have N8 := Fr.snoc X4 N0 g_3
  have f10 := (F_0.other W4 ne_4)
  obtain ⟨c9, A9, q9, S9, N9, H9, G9⟩ := id f10
  have i11 : ¬ ((1 : Int32) < 0 ∨ c9.slots.size ≤ ((1 : Int32)).toNatClampNeg) := inb_of S9 ⟨by decide, by decide⟩
  obtain ⟨c12, A12, q12, S12, N12, H12, G12⟩ := id v7
  have i13 : ¬ ((1 : Int32) < 0 ∨ c12.slots.size ≤ ((1 : Int32)).toNatClampNeg) := inb_of S12 ⟨by decide, by decide⟩
  obtain ⟨T13, h13, X13, e13, W13, st13⟩ := stB X4 hx hZ e4 A12 (j := (1 : Int32)) i13 (g := (mkF m 31 #[rv a1, iv (1 : Int32), rv a2, iv (1 : Int32), iv (2 : Int32), iv (1 : Int32), iv p5] [(.int (p5.toInt8.toInt32)), (.int (1 : Int32)), (.ref a2)])) rfl rfl (hb hby d_194)
  rw [(own_narB _)] at W13
  have O14 := O5.wr W13 g_3
  have K15 : Keep h0 h13 [a2] := Keep.wr K6 W13 (Or.inl (List.mem_of_getElem? (i := 0) rfl))
  have v16 : Arv Z h13 a2 k6 .byte (2 : Int32) [(.int (p4.toInt8.toInt32)), (.int (p5.toInt8.toInt32))] o0 := Arv.set A12 q12 S12 N12 H12 G12 (own_fput (by simp) (own_narB _)) W13 1 rfl (Nat.le_of_ble_eq_true rfl)
  have N17 := Fr.snoc X13 N8 g_3
  refine ⟨T13, some (.int (2 : Int32)), _, _, _, X13, by decide, by decide, nofun, ?_, fun fs hr => castTop (ef_201 m a1 a2) ?_⟩
  · show Q9_compress Z a1 a2 k3 p4 p5 k6 h0 n0 _ T13.heap _
    rw [e13]
    exact ⟨rfl, N17, K15, v16⟩
  · show SS p e below s₁ m 0 #[rv a1, .val o0, rv a2, .val o0, iv (2 : Int32), .unset, .unset] [] _
    refine XS.iconst X0.here hx rfl (hb hby d_178) ?_
    refine XS.istore X0.here hx rfl (hb hby d_179) rfl (l' := #[rv a1, .val o0, rv a2, .val o0, iv (2 : Int32), .val o0, .unset]) rfl ?_
    refine XS.iload X0.here hx rfl (hb hby d_180) rfl ?_
    refine XS.iload X0.here hx rfl (hb hby d_181) rfl ?_
    refine XS.icmpNo X0.here hx rfl (hb hby d_182) rfl (tlt (by decide : (0 : Int32) < (2 : Int32))).2.1 ?_
    refine XS.aloadN X0.here hx rfl (hb hby d_183) rfl rfl ?_
    refine XS.iloadN X0.here hx rfl (hb hby d_184) rfl ?_
    refine X0.caload hx (j := (0 : Int32)) (v := (.int p4)) (by rw [e0]; exact A1.1) (State.isArrayOf_alike hZ.alike A1.2.1) A1.2.2 i2 (H1.at i2 rfl) (g := (mkF m 12 #[rv a1, .val o0, rv a2, .val o0, iv (2 : Int32), .val o0, .unset] [o0, (.ref a1)])) rfl rfl (hb hby d_185) _ ?_
    refine XS.istore X0.here hx rfl (hb hby d_186) rfl (l' := #[rv a1, .val o0, rv a2, .val o0, iv (2 : Int32), .val o0, iv p4]) rfl ?_
    refine XS.iload X0.here hx rfl (hb hby d_187) rfl ?_
    show SS p e below s₁ m 17 #[rv a1, .val o0, rv a2, .val o0, iv (2 : Int32), .val o0, iv p4] [(.int p4)] _
    refine XS.sipush X0.here hx rfl (hb hby d_188) ?_
    refine XS.icmpYes X0.here hx rfl (pc0 := 20) (pc' := 26) rfl (hb hby d_189) rfl (flt hc_1).2.2.2 (by decide) (by decide) ?_
    refine XS.aloadN X0.here hx rfl (hb hby d_190) rfl rfl ?_
    refine XS.iloadN X0.here hx rfl (hb hby d_191) rfl ?_
    refine XS.iload X0.here hx rfl (hb hby d_192) rfl ?_
    show SS p e below s₁ m 30 #[rv a1, .val o0, rv a2, .val o0, iv (2 : Int32), .val o0, iv p4] [(.int p4), o0, (.ref a2)] _
    refine XS.i2b X0.here hx rfl (hb hby d_193) rfl ?_
    show SS p e below s₁ m 31 #[rv a1, .val o0, rv a2, .val o0, iv (2 : Int32), .val o0, iv p4] [(.int (p4.toInt8.toInt32)), o0, (.ref a2)] _
    refine st4 _ ?_
    refine XS.iinc X4.here hx rfl (hb hby d_195) rfl (l' := #[rv a1, iv (1 : Int32), rv a2, .val o0, iv (2 : Int32), .val o0, iv p4]) rfl ?_
    show SS p e below T4 m 35 #[rv a1, iv (1 : Int32), rv a2, .val o0, iv (2 : Int32), .val o0, iv p4] [] _
    refine XS.iinc X4.here hx rfl (hb hby d_196) rfl (l' := #[rv a1, iv (1 : Int32), rv a2, iv (1 : Int32), iv (2 : Int32), .val o0, iv p4]) rfl ?_
    show SS p e below T4 m 38 #[rv a1, iv (1 : Int32), rv a2, iv (1 : Int32), iv (2 : Int32), .val o0, iv p4] [] _
    refine XS.iinc X4.here hx rfl (hb hby d_197) rfl (l' := #[rv a1, iv (1 : Int32), rv a2, iv (1 : Int32), iv (2 : Int32), iv (1 : Int32), iv p4]) rfl ?_
    show SS p e below T4 m 41 #[rv a1, iv (1 : Int32), rv a2, iv (1 : Int32), iv (2 : Int32), iv (1 : Int32), iv p4] [] _
    refine XS.goto X4.here hx rfl (pc0 := 41) (pc' := 3) rfl (hb hby d_198) (by decide) (by decide) ?_
    refine XS.iload X4.here hx rfl (hb hby d_180) rfl ?_
    refine XS.iload X4.here hx rfl (hb hby d_181) rfl ?_
    refine XS.icmpNo X4.here hx rfl (hb hby d_182) rfl (tlt (by decide : (1 : Int32) < (2 : Int32))).2.1 ?_
    refine XS.aloadN X4.here hx rfl (hb hby d_183) rfl rfl ?_
    refine XS.iloadN X4.here hx rfl (hb hby d_184) rfl ?_
    refine X4.caload hx (j := (1 : Int32)) (v := (.int p5)) (by rw [e4]; exact A9.1) (State.isArrayOf_alike hZ.alike A9.2.1) A9.2.2 i11 (H9.at i11 rfl) (g := (mkF m 12 #[rv a1, iv (1 : Int32), rv a2, iv (1 : Int32), iv (2 : Int32), iv (1 : Int32), iv p4] [(.int (1 : Int32)), (.ref a1)])) rfl rfl (hb hby d_185) _ ?_
    refine XS.istore X4.here hx rfl (hb hby d_186) rfl (l' := #[rv a1, iv (1 : Int32), rv a2, iv (1 : Int32), iv (2 : Int32), iv (1 : Int32), iv p5]) rfl ?_
    refine XS.iload X4.here hx rfl (hb hby d_187) rfl ?_
    refine XS.sipush X4.here hx rfl (hb hby d_188) ?_
    show SS p e below T4 m 20 #[rv a1, iv (1 : Int32), rv a2, iv (1 : Int32), iv (2 : Int32), iv (1 : Int32), iv p5] [(.int (255 : Int32)), (.int p5)] _
    refine XS.icmpYes X4.here hx rfl (pc0 := 20) (pc' := 26) rfl (hb hby d_189) rfl (flt hc_5).2.2.2 (by decide) (by decide) ?_
    refine XS.aloadN X4.here hx rfl (hb hby d_190) rfl rfl ?_
    refine XS.iloadN X4.here hx rfl (hb hby d_191) rfl ?_
    refine XS.iload X4.here hx rfl (hb hby d_192) rfl ?_
    show SS p e below T4 m 30 #[rv a1, iv (1 : Int32), rv a2, iv (1 : Int32), iv (2 : Int32), iv (1 : Int32), iv p5] [(.int p5), (.int (1 : Int32)), (.ref a2)] _
    refine XS.i2b X4.here hx rfl (hb hby d_193) rfl ?_
    show SS p e below T4 m 31 #[rv a1, iv (1 : Int32), rv a2, iv (1 : Int32), iv (2 : Int32), iv (1 : Int32), iv p5] [(.int (p5.toInt8.toInt32)), (.int (1 : Int32)), (.ref a2)] _
    refine st13 _ ?_
    refine XS.iinc X13.here hx rfl (hb hby d_195) rfl (l' := #[rv a1, iv (2 : Int32), rv a2, iv (1 : Int32), iv (2 : Int32), iv (1 : Int32), iv p5]) rfl ?_
    show SS p e below T13 m 35 #[rv a1, iv (2 : Int32), rv a2, iv (1 : Int32), iv (2 : Int32), iv (1 : Int32), iv p5] [] _
    refine XS.iinc X13.here hx rfl (hb hby d_196) rfl (l' := #[rv a1, iv (2 : Int32), rv a2, iv (2 : Int32), iv (2 : Int32), iv (1 : Int32), iv p5]) rfl ?_
    show SS p e below T13 m 38 #[rv a1, iv (2 : Int32), rv a2, iv (2 : Int32), iv (2 : Int32), iv (1 : Int32), iv p5] [] _
    refine XS.iinc X13.here hx rfl (hb hby d_197) rfl (l' := #[rv a1, iv (2 : Int32), rv a2, iv (2 : Int32), iv (2 : Int32), iv (2 : Int32), iv p5]) rfl ?_
    show SS p e below T13 m 41 #[rv a1, iv (2 : Int32), rv a2, iv (2 : Int32), iv (2 : Int32), iv (2 : Int32), iv p5] [] _
    refine XS.goto X13.here hx rfl (pc0 := 41) (pc' := 3) rfl (hb hby d_198) (by decide) (by decide) ?_
    refine XS.iload X13.here hx rfl (hb hby d_180) rfl ?_
    refine XS.iload X13.here hx rfl (hb hby d_181) rfl ?_
    refine XS.icmpYes X13.here hx rfl (pc0 := 7) (pc' := 44) rfl (hb hby d_182) rfl (flt (by decide : ¬ ((2 : Int32) < (2 : Int32)))).2.1 (by decide) (by decide) ?_
    refine XS.iload X13.here hx rfl (hb hby d_199) rfl ?_
    exact retI X13 hx hret (hb hby d_200) hr
theorem pd_203 : parseMethodDescriptor "([CI[BII)I" = some ⟨[(.array .char), .int, (.array .byte), .int, .int], some .int⟩ := by decide +kernel
theorem d_204 : decode jdk_52_method_16_code 12 = .ok (.istore 4, 2) := by decide +kernel
theorem d_205 : decode jdk_52_method_16_code 14 = .ok (.iload 4, 2) := by decide +kernel
theorem d_206 : decode jdk_52_method_16_code 16 = .ok (.iload_n 2, 1) := by decide +kernel
theorem d_207 : decode jdk_52_method_16_code 17 = .ok (.if_icmp .eq 40, 3) := by decide +kernel
theorem d_208 : decode jdk_52_method_16_code 57 = .ok (.aload_n 3, 1) := by decide +kernel
theorem d_209 : decode jdk_52_method_16_code 58 = .ok (.areturn, 1) := by decide +kernel
theorem ef_210 (m : MethodId) (a1 : Addr) : entryFrame m #[(.ref a1), o0, (.int (2 : Int32))] 6 = mkF m 0 #[rv a1, .val o0, iv (2 : Int32), .unset, .unset, .unset] [] := by first | (simp [entryFrame, mkF, argsToLocals, Value.category]; done) | rfl
def Q10_compress (Z : State) (a1 : Addr) (k2 : ClassId) (p3 : Int32) (p4 : Int32) (h0 : Heap) (n0 : Nat) (v : Option Value) (h : Heap) (L : List Loc) : Prop := ∃ (b1 : Addr) (k1 : ClassId), v = some (.ref b1) ∧ Fr n0 L ∧ Keep h0 h [] ∧ h0.size ≤ b1 ∧ Arv Z h b1 k1 .byte (2 : Int32) [(.int (p3.toInt8.toInt32)), (.int (p4.toInt8.toInt32))] o0 ∧ EA22 Z h b1
theorem rm10_compress (l : Launch) (Z : State) (a0 : Array Value) (hw : HW Z a0) (a1 : Addr) (k2 : ClassId) (p3 : Int32) (p4 : Int32) (h0 : Heap) (n0 : Nat) (O0 : Old Z n0 h0) (F_0 : Arv Z h0 a1 k2 .char (2 : Int32) [(.int p3), (.int p4)] o0) (hc_1 : ¬ ((255 : Int32) < p3)) (hc_2 : ¬ ((255 : Int32) < p4)) (lt_3 : a1 < h0.size) :
    Met l Z [] MY10 jdk_52_method_16_code 6 (some (.array .byte)) ({ frames := 1, cells := 1, slots := 2, locals := 18 } : Room) #[(.ref a1), o0, (.int (2 : Int32))] h0 (Q10_compress Z a1 k2 p3 p4 h0 n0) := by
  have W := @own_W _ _ hw
  refine own_mk (plainFor_of_name pn_202) ?_
  intro p e s m below meth c s₁ hZ hx hby hml hown hnm hret hlk X0 e0
  have N0 := Fr.nil n0
  obtain ⟨T1, h1, k1, X1, e1, E1, A1, B1, st1⟩ := newPE X0 hx hZ (W 26 rfl) e0 (g := (mkF m 1 #[rv a1, .val o0, iv (2 : Int32), .unset, .unset, .unset] [(.int (2 : Int32))])) rfl (hb hby d_170) rfl (by decide) (cap := 2) (by decide) (by decide) (by decide) (by decide) (ad := "[B") rfl
  obtain ⟨b1, g1⟩ : ∃ z, z = h0.size := ⟨_, rfl⟩
  rw [← g1] at A1 B1 st1
  have O2 := O0.ext E1
  have K3 : Keep h0 h1 [] := Keep.ext (Keep.refl h0 []) E1
  have v4 : Arv Z h1 b1 k1 .byte (2 : Int32) [o0, o0] o0 := (Arv.new A1 (by decide)).pad (pad_rep [] o0 2)
  have f6 := (F_0.ext E1)
  have g7 : n0 ≤ b1 := Nat.le_trans (Nat.le_trans (Nat.le_of_eq O0.1.symm) O0.2.1) (Nat.le_of_eq g1.symm)
  obtain ⟨_, T5, L5, X5, hQ5, st5⟩ := own_cs X1 hx hZ hown hml (W 69 rfl) (W 70 rfl) (W 67 rfl) (W 71 rfl) (rm9_compress l Z a0 hw a1 b1 k2 p3 p4 k1 h1 n0 O2 (f6) (hc_1) (v4) (g7) ((Nat.ne_of_lt (Nat.lt_of_lt_of_le lt_3 (Nat.le_of_eq g1.symm)))) (hc_2)) e1 (hb hby d_177) 0 #[rv a1, .val o0, iv (2 : Int32), rv b1, .unset, .unset] [(.ref a1), o0, (.ref b1), o0, (.int (2 : Int32))] [] pd_203
  obtain ⟨rfl, N5q, K5, F5_0⟩ := hQ5
  have N8 := Fr.app N0 N5q
  have O9 := O2.keep K5 (allS g7 all0)
  have K10 : Keep h0 T5.heap [] := Keep.trans K3 K5 (allS (Or.inr (Nat.le_of_eq g1.symm)) all0)
  have f11 := (B1.keep K5)
  refine ⟨T5, some (.ref b1), _, _, _, X5, by decide, by decide, nofun, ?_, fun fs hr => castTop (ef_210 m a1) ?_⟩
  · show Q10_compress Z a1 k2 p3 p4 h0 n0 _ T5.heap _
    exact ⟨b1, k1, rfl, N8, K10, (Nat.le_of_eq g1.symm), F5_0, f11⟩
  · show SS p e below s₁ m 0 #[rv a1, .val o0, iv (2 : Int32), .unset, .unset, .unset] [] _
    refine XS.iloadN X0.here hx rfl (hb hby d_169) rfl ?_
    refine st1 _ ?_
    refine XS.astoreN X1.here hx rfl (hb hby d_171) rfl rfl (l' := #[rv a1, .val o0, iv (2 : Int32), rv b1, .unset, .unset]) rfl ?_
    refine XS.aloadN X1.here hx rfl (hb hby d_172) rfl rfl ?_
    refine XS.iloadN X1.here hx rfl (hb hby d_173) rfl ?_
    refine XS.aloadN X1.here hx rfl (hb hby d_174) rfl rfl ?_
    refine XS.iconst X1.here hx rfl (hb hby d_175) ?_
    refine XS.iloadN X1.here hx rfl (hb hby d_176) rfl ?_
    refine st5 _ ?_
    refine XS.istore X5.here hx rfl (hb hby d_204) rfl (l' := #[rv a1, .val o0, iv (2 : Int32), rv b1, iv (2 : Int32), .unset]) rfl ?_
    show SS p e below T5 m 14 #[rv a1, .val o0, iv (2 : Int32), rv b1, iv (2 : Int32), .unset] [] _
    refine XS.iload X5.here hx rfl (hb hby d_205) rfl ?_
    refine XS.iloadN X5.here hx rfl (hb hby d_206) rfl ?_
    refine XS.icmpYes X5.here hx rfl (pc0 := 17) (pc' := 57) rfl (hb hby d_207) rfl (teq (by decide : (2 : Int32) = (2 : Int32))).1 (by decide) (by decide) ?_
    refine XS.aloadN X5.here hx rfl (hb hby d_208) rfl rfl ?_
    exact retOut X5 hx hret rfl (Or.inr (Or.inr (Or.inr (Or.inr ⟨rfl, rfl, rfl⟩)))) (hb hby d_209) hr
theorem pd_211 : parseMethodDescriptor "([CII)[B" = some ⟨[(.array .char), .int, .int], some (.array .byte)⟩ := by decide +kernel
theorem d_212 : decode jdk_42_method_149_code 39 = .ok (.astore 5, 2) := by decide +kernel
theorem d_213 : decode jdk_42_method_149_code 41 = .ok (.aload_n 0, 1) := by decide +kernel
theorem d_214 : decode jdk_42_method_149_code 42 = .ok (.aload 5, 2) := by decide +kernel
theorem d_215 : decode jdk_42_method_149_code 44 = .ok (.iload_n 3, 1) := by decide +kernel
theorem d_216 : decode jdk_42_method_149_code 45 = .ok (.invokestatic 47, 3) := by decide +kernel
theorem d_217 : decode jdk_52_method_15_code 0 = .ok (.iload_n 1, 1) := by decide +kernel
theorem d_218 : decode jdk_52_method_15_code 1 = .ok (.aload_n 0, 1) := by decide +kernel
theorem d_219 : decode jdk_52_method_15_code 2 = .ok (.arraylength, 1) := by decide +kernel
theorem d_220 : decode jdk_52_method_15_code 3 = .ok (.isub, 1) := by decide +kernel
theorem d_221 : decode jdk_52_method_15_code 4 = .ok (.bipush 31, 2) := by decide +kernel
theorem d_222 : decode jdk_52_method_15_code 6 = .ok (.iushr, 1) := by decide +kernel
theorem d_223 : decode jdk_52_method_15_code 7 = .ok (.i2b, 1) := by decide +kernel
theorem d_224 : decode jdk_52_method_15_code 8 = .ok (.ireturn, 1) := by decide +kernel
theorem ef_225 (m : MethodId) (a1 : Addr) : entryFrame m #[(.ref a1), (.int (2 : Int32))] 2 = mkF m 0 #[rv a1, iv (2 : Int32)] [] := by first | (simp [entryFrame, mkF, argsToLocals, Value.category]; done) | rfl
def Q11_coderFromArrayLen (Z : State) (a1 : Addr) (k2 : ClassId) (p3 : Int32) (p4 : Int32) (h0 : Heap) (n0 : Nat) (v : Option Value) (h : Heap) (L : List Loc) : Prop := v = some o0 ∧ Fr n0 L ∧ h = h0
theorem rm11_coderFromArrayLen (l : Launch) (Z : State) (a0 : Array Value) (hw : HW Z a0) (a1 : Addr) (k2 : ClassId) (p3 : Int32) (p4 : Int32) (h0 : Heap) (n0 : Nat) (O0 : Old Z n0 h0) (F_0 : Arv Z h0 a1 k2 .byte (2 : Int32) [(.int p3), (.int p4)] o0) :
    Met l Z [] MY11 jdk_52_method_15_code 2 (some .byte) ({ frames := 0, cells := 0, slots := 0, locals := 0 } : Room) #[(.ref a1), (.int (2 : Int32))] h0 (Q11_coderFromArrayLen Z a1 k2 p3 p4 h0 n0) := by
  have W := @own_W _ _ hw
  refine own_mk (plainFor_of_name pn_202) ?_
  intro p e s m below meth c s₁ hZ hx hby hml hown hnm hret hlk X0 e0
  have N0 := Fr.nil n0
  obtain ⟨c1, A1, q1, S1, N1, H1, G1⟩ := id F_0
  refine ⟨s₁, some o0, _, _, _, X0, by decide, by decide, nofun, ?_, fun fs hr => castTop (ef_225 m a1) ?_⟩
  · show Q11_coderFromArrayLen Z a1 k2 p3 p4 h0 n0 _ s₁.heap _
    rw [e0]
    exact ⟨rfl, N0, rfl⟩
  · show SS p e below s₁ m 0 #[rv a1, iv (2 : Int32)] [] _
    refine XS.iloadN X0.here hx rfl (hb hby d_217) rfl ?_
    refine XS.aloadN X0.here hx rfl (hb hby d_218) rfl rfl ?_
    refine X0.arraylength hx (by rw [e0]; exact A1.1) (State.isArrayOf_alike hZ.alike A1.2.1) (g := (mkF m 2 #[rv a1, iv (2 : Int32)] [(.ref a1), (.int (2 : Int32))])) rfl rfl (hb hby d_219) _ ?_
    rw [len_of S1 N1]
    refine XS.isub X0.here hx rfl (hb hby d_220) rfl ?_
    show SS p e below s₁ m 4 #[rv a1, iv (2 : Int32)] [o0] _
    refine XS.bipush X0.here hx rfl (hb hby d_221) ?_
    refine XS.iushr X0.here hx rfl (hb hby d_222) rfl ?_
    show SS p e below s₁ m 7 #[rv a1, iv (2 : Int32)] [o0] _
    refine XS.i2b X0.here hx rfl (hb hby d_223) rfl ?_
    show SS p e below s₁ m 8 #[rv a1, iv (2 : Int32)] [o0] _
    exact retN X0 hx (t := .byte) hret (by simp) (hb hby d_224) hr
theorem pd_226 : parseMethodDescriptor "([BI)B" = some ⟨[(.array .byte), .int], some .byte⟩ := by decide +kernel
theorem d_227 : decode jdk_42_method_149_code 48 = .ok (.putfield 15, 3) := by decide +kernel
theorem d_228 : decode jdk_42_method_149_code 51 = .ok (.aload_n 0, 1) := by decide +kernel
theorem d_229 : decode jdk_42_method_149_code 52 = .ok (.aload 5, 2) := by decide +kernel
theorem d_230 : decode jdk_42_method_149_code 54 = .ok (.putfield 9, 3) := by decide +kernel
theorem d_231 : decode jdk_42_method_149_code 57 = .ok (.return_, 1) := by decide +kernel
theorem ef_232 (m : MethodId) (a1 : Addr) (a2 : Addr) : entryFrame m #[(.ref a1), (.ref a2), o0, (.int (2 : Int32)), .null] 6 = mkF m 0 #[rv a1, rv a2, .val o0, iv (2 : Int32), .val .null, .unset] [] := by first | (simp [entryFrame, mkF, argsToLocals, Value.category]; done) | rfl
def Q12_init (Z : State) (a1 : Addr) (a2 : Addr) (p3 : Int32) (k4 : ClassId) (p5 : Int32) (p6 : Int32) (h0 : Heap) (n0 : Nat) (v : Option Value) (h : Heap) (L : List Loc) : Prop := ∃ (b3_0 : Addr) (k3_0 : ClassId), v = none ∧ Fr n0 L ∧ Keep h0 h [a1] ∧ h0.size ≤ b3_0 ∧ Arv Z h b3_0 k3_0 .byte (2 : Int32) [(.int (p5.toInt8.toInt32)), (.int (p6.toInt8.toInt32))] o0 ∧ EA22 Z h b3_0 ∧ FA17 Z h a1 o0 ∧ FA18 Z h a1 (.ref b3_0)
theorem rm12_init (l : Launch) (Z : State) (a0 : Array Value) (hw : HW Z a0) (a1 : Addr) (a2 : Addr) (p3 : Int32) (k4 : ClassId) (p5 : Int32) (p6 : Int32) (h0 : Heap) (n0 : Nat) (O0 : Old Z n0 h0) (S_0 : SA24 Z Z.heap (.int p3)) (hc_1 : ¬ (p3 = (0 : Int32))) (F_2 : Arv Z h0 a2 k4 .char (2 : Int32) [(.int p5), (.int p6)] o0) (hc_3 : ¬ ((255 : Int32) < p5)) (hc_4 : ¬ ((255 : Int32) < p6)) (lt_5 : a2 < h0.size) (F_6 : EA21 Z h0 a1) (F_7 : FA17 Z h0 a1 o0) (g_8 : n0 ≤ a1) (F_9 : FA18 Z h0 a1 .null) (lt_10 : a1 < h0.size) :
    Met l Z [] MY3 jdk_42_method_149_code 6 none ({ frames := 2, cells := 1, slots := 2, locals := 35 } : Room) #[(.ref a1), (.ref a2), o0, (.int (2 : Int32)), .null] h0 (Q12_init Z a1 a2 p3 k4 p5 p6 h0 n0) := by
  have W := @own_W _ _ hw
  refine own_mk (plainFor_of_name pn_95) ?_
  intro p e s m below meth c s₁ hZ hx hby hml hown hnm hret hlk X0 e0
  have N0 := Fr.nil n0
  obtain ⟨T1, X1, e1, st1⟩ := initO X0 hx hZ hown (W 22 rfl) (W 23 rfl) (W 24 rfl) e0 (g := (mkF m 1 #[rv a1, rv a2, .val o0, iv (2 : Int32), .val .null, .unset] [(.ref a1)])) rfl (by rw [hml]; rfl) rfl (hb hby d_80) (by decide) (W := 0) (by show 2 * 0 + _ ≤ _; exact Nat.le_of_eq rfl) (by decide)
  obtain ⟨T2, X2, e2, st2⟩ := getS2 X1 hx hZ hown (host := "") (Or.inl (W 60 rfl)) Via.refl e1 (S_0.ext O0.2) (g := (mkF m 27 #[rv a1, rv a2, .val o0, iv (2 : Int32), .val .null, .unset] [])) rfl (hb hby d_163)
  obtain ⟨_, T3, L3, X3, hQ3, st3⟩ := own_cs X2 hx hZ hown hml (W 65 rfl) (W 66 rfl) (W 67 rfl) (W 68 rfl) (rm10_compress l Z a0 hw a2 k4 p5 p6 h0 n0 O0 (F_2) (hc_3) (hc_4) (lt_5)) e2 (hb hby d_168) 0 #[rv a1, rv a2, .val o0, iv (2 : Int32), .val .null, .unset] [(.ref a2), o0, (.int (2 : Int32))] [] pd_211
  obtain ⟨b3_0, k3_0, rfl, N3q, K3, gb3_0, F3_0, F3_1⟩ := hQ3
  have N4 := Fr.app N0 N3q
  have O5 := O0.keep K3 all0
  have K6 : Keep h0 T3.heap [a1] := Keep.trans (Keep.refl h0 [a1]) K3 all0
  obtain ⟨_, T7, L7, X7, hQ7, st7⟩ := own_cs X3 hx hZ hown hml (W 72 rfl) (W 73 rfl) (W 67 rfl) (W 74 rfl) (rm11_coderFromArrayLen l Z a0 hw b3_0 k3_0 (p5.toInt8.toInt32) (p6.toInt8.toInt32) T3.heap n0 O5 (F3_0)) rfl (hb hby d_216) 1 #[rv a1, rv a2, .val o0, iv (2 : Int32), .val .null, rv b3_0] [(.ref b3_0), (.int (2 : Int32))] [(.ref a1)] pd_226
  obtain ⟨rfl, N7q, K7⟩ := hQ7
  have N8 := Fr.app N4 N7q
  have f10 := (F_7.keep K3 nin0)
  have f11 := (F_6.keep K3)
  obtain ⟨T9, h9, X9, e9, W9, st9⟩ := putFN X7 hx hZ hown (W 32 rfl) Via.refl K7 f10 f11 (Or.inr ⟨(W 28 rfl), rfl, hnm⟩) (W 12 rfl) (ty := .byte) (v' := o0) (by decide) rfl rfl (g := (mkF m 48 #[rv a1, rv a2, .val o0, iv (2 : Int32), .val .null, rv b3_0] [o0, (.ref a1)])) rfl rfl (hb hby d_227)
  have O12 := O5.wr W9 g_8
  have K13 : Keep h0 h9 [a1] := Keep.wr K6 W9 (Or.inl (List.mem_of_getElem? (i := 0) rfl))
  have f14 : FA17 Z h9 a1 o0 := (f10.same W9)
  have N15 := Fr.snoc X9 N8 g_8
  have f17 := ((F_9.keep K3 nin0).other W9 (Or.inr (slot_ne (Or.inr (W 27 rfl)) (Or.inr (W 28 rfl)) (by decide) (t := (.array .byte)) (t' := .byte) (by decide) (by decide))))
  have f18 := (f11.wr W9)
  obtain ⟨T16, h16, X16, e16, W16, st16⟩ := putF X9 hx hZ hown (host := "") (Or.inl (W 31 rfl)) Via.refl e9 f17 f18 (Or.inr ⟨(W 27 rfl), rfl, hnm⟩) (W 12 rfl) (ty := (.array .byte)) (by decide) rfl rfl (g := (mkF m 54 #[rv a1, rv a2, .val o0, iv (2 : Int32), .val .null, rv b3_0] [(.ref b3_0), (.ref a1)])) rfl rfl (hb hby d_230)
  have O19 := O12.wr W16 g_8
  have K20 : Keep h0 h16 [a1] := Keep.wr K13 W16 (Or.inl (List.mem_of_getElem? (i := 0) rfl))
  have f21 : FA18 Z h16 a1 (.ref b3_0) := (f17.same W16)
  have N22 := Fr.snoc X16 N15 g_8
  have f23 := ((F3_0.other W9 (Ne.symm (Nat.ne_of_lt (Nat.lt_of_lt_of_le lt_10 gb3_0)))).other W16 (Ne.symm (Nat.ne_of_lt (Nat.lt_of_lt_of_le lt_10 gb3_0))))
  have f24 := ((F3_1.wr W9).wr W16)
  have f25 := (f14.other W16 (Or.inr (slot_ne (Or.inr (W 28 rfl)) (Or.inr (W 27 rfl)) (by decide) (t := .byte) (t' := (.array .byte)) (by decide) (by decide))))
  refine ⟨T16, none, _, _, _, X16, by decide, by decide, (fun _ => rfl), ?_, fun fs hr => castTop (ef_232 m a1 a2) ?_⟩
  · show Q12_init Z a1 a2 p3 k4 p5 p6 h0 n0 _ T16.heap _
    rw [e16]
    exact ⟨b3_0, k3_0, rfl, N22, K20, gb3_0, f23, f24, f25, f21⟩
  · show SS p e below s₁ m 0 #[rv a1, rv a2, .val o0, iv (2 : Int32), .val .null, .unset] [] _
    refine XS.aloadN X0.here hx rfl (hb hby d_79) rfl rfl ?_
    refine st1 _ ?_
    refine XS.iloadN X1.here hx rfl (hb hby d_81) rfl ?_
    refine XS.ifYes X1.here hx rfl (pc0 := 5) (pc' := 27) rfl (hb hby d_82) rfl ((if0 _ _).trans (feq (by decide : ¬ ((2 : Int32) = (0 : Int32)))).2) (by decide) (by decide) ?_
    refine st2 _ ?_
    refine XS.ifNo X2.here hx rfl (hb hby d_164) rfl ((if0 _ _).trans (feq hc_1).1) ?_
    refine XS.aloadN X2.here hx rfl (hb hby d_165) rfl rfl ?_
    refine XS.iloadN X2.here hx rfl (hb hby d_166) rfl ?_
    refine XS.iloadN X2.here hx rfl (hb hby d_167) rfl ?_
    refine st3 _ ?_
    show SS p e below T3 m 39 #[rv a1, rv a2, .val o0, iv (2 : Int32), .val .null, .unset] [(.ref b3_0)] _
    refine XS.astore X3.here hx rfl (hb hby d_212) rfl rfl (l' := #[rv a1, rv a2, .val o0, iv (2 : Int32), .val .null, rv b3_0]) rfl ?_
    refine XS.aloadN X3.here hx rfl (hb hby d_213) rfl rfl ?_
    refine XS.aload X3.here hx rfl (hb hby d_214) rfl rfl ?_
    refine XS.iloadN X3.here hx rfl (hb hby d_215) rfl ?_
    refine st7 _ ?_
    refine st9 _ ?_
    refine XS.aloadN X9.here hx rfl (hb hby d_228) rfl rfl ?_
    refine XS.aload X9.here hx rfl (hb hby d_229) rfl rfl ?_
    refine st16 _ ?_
    exact X16.returnOut hx hret (hb hby d_231) hr
def Q13_init (Z : State) (a1 : Addr) (a2 : Addr) (k3 : ClassId) (p4 : Int32) (p5 : Int32) (p6 : Int32) (h0 : Heap) (n0 : Nat) (v : Option Value) (h : Heap) (L : List Loc) : Prop := ∃ (b2_0 : Addr) (k2_0 : ClassId), v = none ∧ Fr n0 L ∧ Keep h0 h [a1] ∧ h0.size ≤ b2_0 ∧ Arv Z h b2_0 k2_0 .byte (2 : Int32) [(.int (p4.toInt8.toInt32)), (.int (p5.toInt8.toInt32))] o0 ∧ EA22 Z h b2_0 ∧ FA17 Z h a1 o0 ∧ FA18 Z h a1 (.ref b2_0)
theorem rm13_init (l : Launch) (Z : State) (a0 : Array Value) (hw : HW Z a0) (a1 : Addr) (a2 : Addr) (k3 : ClassId) (p4 : Int32) (p5 : Int32) (p6 : Int32) (h0 : Heap) (n0 : Nat) (O0 : Old Z n0 h0) (F_0 : Arv Z h0 a2 k3 .char (2 : Int32) [(.int p4), (.int p5)] o0) (S_1 : SA24 Z Z.heap (.int p6)) (hc_2 : ¬ (p6 = (0 : Int32))) (hc_3 : ¬ ((255 : Int32) < p4)) (hc_4 : ¬ ((255 : Int32) < p5)) (F_5 : EA21 Z h0 a1) (F_6 : FA17 Z h0 a1 o0) (F_7 : FA18 Z h0 a1 .null) (lt_8 : a2 < h0.size) (g_9 : n0 ≤ a1) (lt_10 : a1 < h0.size) :
    Met l Z [] MY4 jdk_42_method_3_code 2 none ({ frames := 3, cells := 1, slots := 2, locals := 52 } : Room) #[(.ref a1), (.ref a2)] h0 (Q13_init Z a1 a2 k3 p4 p5 p6 h0 n0) := by
  have W := @own_W _ _ hw
  refine own_mk (plainFor_of_name pn_95) ?_
  intro p e s m below meth c s₁ hZ hx hby hml hown hnm hret hlk X0 e0
  have N0 := Fr.nil n0
  obtain ⟨c1, A1, q1, S1, N1, H1, G1⟩ := id F_0
  obtain ⟨_, T2, L2, X2, hQ2, st2⟩ := own_cp X0 hx hZ hown hml rfl (W 18 rfl) (W 19 rfl) (W 13 rfl) (W 21 rfl) (rm12_init l Z a0 hw a1 a2 p6 k3 p4 p5 h0 n0 O0 (S_1) (hc_2) (F_0) (hc_3) (hc_4) (lt_8) (F_5) (F_6) (g_9) (F_7) (lt_10)) e0 (hb hby d_78) 0 #[rv a1, rv a2] a1 [(.ref a2), o0, (.int (2 : Int32)), .null] [] pd_96
  obtain ⟨b2_0, k2_0, rfl, N2q, K2, gb2_0, F2_0, F2_1, F2_2, F2_3⟩ := hQ2
  have N3 := Fr.app N0 N2q
  have O4 := O0.keep K2 (allS g_9 all0)
  have K5 : Keep h0 T2.heap [a1] := Keep.trans (Keep.refl h0 [a1]) K2 (allS (Or.inl (List.mem_of_getElem? (i := 0) rfl)) all0)
  refine ⟨T2, none, _, _, _, X2, by decide, by decide, (fun _ => rfl), ?_, fun fs hr => castTop (ef_98 m a1 a2) ?_⟩
  · show Q13_init Z a1 a2 k3 p4 p5 p6 h0 n0 _ T2.heap _
    exact ⟨b2_0, k2_0, rfl, N3, K5, gb2_0, F2_0, F2_1, F2_2, F2_3⟩
  · show SS p e below s₁ m 0 #[rv a1, rv a2] [] _
    refine XS.aloadN X0.here hx rfl (hb hby d_72) rfl rfl ?_
    refine XS.aloadN X0.here hx rfl (hb hby d_73) rfl rfl ?_
    refine XS.iconst X0.here hx rfl (hb hby d_74) ?_
    refine XS.aloadN X0.here hx rfl (hb hby d_75) rfl rfl ?_
    refine X0.arraylength hx (by rw [e0]; exact A1.1) (State.isArrayOf_alike hZ.alike A1.2.1) (g := (mkF m 4 #[rv a1, rv a2] [(.ref a2), o0, (.ref a2), (.ref a1)])) rfl rfl (hb hby d_76) _ ?_
    rw [len_of S1 N1]
    refine XS.aconstNull X0.here hx rfl (hb hby d_77) ?_
    refine st2 _ ?_
    exact X2.returnOut hx hret (hb hby d_97) hr
theorem d_233 : decode method_3_code 66 = .ok (.areturn, 1) := by decide +kernel
theorem ef_234 (m : MethodId) (p2 : Int32) : entryFrame m #[o0, (.int p2)] 5 = mkF m 0 #[.val o0, iv p2, .unset, .unset, .unset] [] := by first | (simp [entryFrame, mkF, argsToLocals, Value.category]; done) | rfl
theorem own_str0 (l : Launch) (Z : State) (a0 : Array Value) (hw : HW Z a0) (p2 : Int32) (oC : Int32) (c0 : Int32) (c1 : Int32) (h0 : Heap) (n0 : Nat) (O0 : Old Z n0 h0) (S_oC : SA24 Z Z.heap (.int oC)) (nz_oC : ¬ (oC = (0 : Int32))) (h_c0 : ((p2 &&& (255 : Int32)).toUInt32.toUInt16.toUInt32.toInt32) = c0) (r_c0 : ¬ ((255 : Int32) < c0)) (n_c0 : ¬ (c0 < (0 : Int32))) (i_c0 : (c0.toUInt32.toUInt16.toUInt32.toInt32) = c0) (b_c0 : ((c0.toInt8.toInt32) &&& (255 : Int32)) = c0) (h_c1 : ((((p2.toUInt32 >>> ((8 : Int32) &&& 31).toUInt32).toInt32) &&& (255 : Int32)).toUInt32.toUInt16.toUInt32.toInt32) = c1) (r_c1 : ¬ ((255 : Int32) < c1)) (n_c1 : ¬ (c1 < (0 : Int32))) (i_c1 : (c1.toUInt32.toUInt16.toUInt32.toInt32) = c1) (b_c1 : ((c1.toInt8.toInt32) &&& (255 : Int32)) = c1) :
    MetH l Z [] MY12 method_3_code 5 (some (.object "java/lang/String")) ({ frames := 4, cells := 6, slots := 12, locals := 66 } : Room) #[o0, (.int p2)] h0 consts_1 [] (Qs Z (0 : Int32) [] h0 n0) := by
  have W := @own_W _ _ hw
  refine own_mkH (plainFor_of_name pn_16) ?_
  intro p e s m below meth c s₁ hZ hx hby hml hown hnm hret hlk X0 e0 H0 hsf
  have N0 := Fr.nil n0
  have C0 := CHr.refl H0
  have X1 := (show Stand p l e _ (s.setVm s.vm) m _ below meth c _ _ _ _ from X0)
  obtain ⟨T2, h2, X2, e2, E2, A2, D2, -, st2⟩ := newO X1 hx hZ hown (W 11 rfl) (W 12 rfl) (W 13 rfl) e0 (g := (mkF m 21 #[.val o0, iv p2, iv c0, iv c1, .unset] [])) rfl (hb hby d_67) (by decide) (by decide)
  obtain ⟨b2, g2⟩ : ∃ z, z = h0.size := ⟨_, rfl⟩
  rw [← g2] at A2 D2 st2
  have c3 := CHr.ext E2 H0
  have C4 := CHr.trans C0 c3
  have O5 := O0.ext E2
  have K6 : Keep h0 h2 [] := Keep.ext (Keep.refl h0 []) E2
  obtain ⟨T7, h7, k7, X7, e7, E7, A7, B7, st7⟩ := newPE X2 hx hZ (W 14 rfl) e2 (g := (mkF m 26 #[.val o0, iv p2, iv c0, iv c1, .unset] [o0, (.ref b2), (.ref b2)])) rfl (hb hby d_70) rfl (by decide) (cap := 0) (by decide) (by decide) (by decide) (by decide) (ad := "[C") rfl
  obtain ⟨b7, g7⟩ : ∃ z, z = h2.size := ⟨_, rfl⟩
  rw [← g7] at A7 B7 st7
  have c8 := CHr.ext E7 c3.1
  have C9 := CHr.trans C4 c8
  have O10 := O5.ext E7
  have K11 : Keep h0 h7 [] := Keep.ext K6 E7
  have v12 : Arv Z h7 b7 k7 .char (0 : Int32) [] o0 := (Arv.new A7 (by decide)).pad (pad_rep [] o0 0)
  have f14 := (A2.ext E7)
  have f15 := ((D2 (Or.inr (W 27 rfl)) (ty := (.array .byte)) (by decide) : FA18 Z h2 b2 .null).ext E7)
  have f16 := ((D2 (Or.inr (W 28 rfl)) (ty := .byte) (by decide) : FA17 Z h2 b2 o0).ext E7)
  have z17 : h2.size ≤ h7.size := E7.1
  have g18 : n0 ≤ b2 := Nat.le_trans (Nat.le_trans (Nat.le_of_eq O0.1.symm) O0.2.1) (Nat.le_of_eq g2.symm)
  have f19 := (Safe.ext E7 c3.1 (Safe.ext E2 H0 (Safe.new (Nat.le_of_eq g2.symm))))
  obtain ⟨_, _, ⟨T13, L13, k13, n13⟩, -, Y13, hs13, hg13, ⟨Lc13, hQ13, l13, y13, z13, c13⟩, st13⟩ := X7.specialBackS hx (y := MY4) rfl hown (mvT hZ (W 15 rfl)) (mvT hZ (W 16 rfl)) (mvT hZ (W 17 rfl)) (by decide) (own_backH (s := s) (vm0 := s.vm) (W := 1) (rm4_init l Z a0 hw b2 b7 k7 h7 n0 O10 (v12) (f14) (f15) (f16) ((Nat.lt_of_lt_of_le A2.lt z17)) (g18)) hZ (W 17 rfl) (W 13 rfl) (by decide) (by decide) (own_ew_86 hw) c8.1 (own_sfS f19 (Nat.lt_of_lt_of_le A2.lt z17) own_sf0)) (g := (mkF m 28 #[.val o0, iv p2, iv c0, iv c1, .unset] [(.ref b7), (.ref b2), (.ref b2)])) rfl (by rw [hml]; rfl) (Steps.refl _) (a := b2) (argsL := [(.ref b7)]) (rest := [(.ref b2)]) (lenOf pd_99 rfl) rfl (by show 2 * 0 + _ ≤ _; exact Nat.le_of_eq rfl) (hb hby d_71) (fun _ _ => ⟨rfl, e7, (by decide : 2 + 4 ≤ _), (by decide : 4 + 8 ≤ _)⟩)
  dsimp only [Pt.U, Pt.locs, Pt.cells, Pt.slots] at Y13 l13 y13 z13 st13 hQ13 hs13 hg13 c13
  subst l13 y13 z13
  obtain ⟨X13, hS13, hZ13, hown13⟩ := rebS (s := s) (vm0 := s.vm) ((State.WarmedH.refl s).since 0) (Nat.zero_le _) Y13 hs13 hg13 hZ hown
  obtain ⟨b13_0, k13_0, rfl, N13q, K13, F13_0, F13_1, F13_2⟩ := hQ13
  have N20 := Fr.app N0 N13q
  have C21 := CHr.trans C9 c13
  have O22 := O10.keep K13 (allS g18 all0)
  have K23 : Keep h0 T13.heap [] := Keep.trans K11 K13 (allS (Or.inr (Nat.le_of_eq g2.symm)) all0)
  have f24 := (f14.keep K13)
  refine ⟨T13, some (.ref b2), _, _, _, T13.vm, _, X13, hS13, (Nat.le_refl _), by decide, by decide, nofun, ?_, own_che rfl (CHr.trans C21 (CHv.at (s := s) X13 hZ13 (own_ew_86 hw) c13.1)), fun fs hr => castTop (ef_234 m p2) ?_⟩
  · show Qs Z (0 : Int32) [] h0 n0 _ T13.heap _
    exact ⟨b2, b13_0, k13_0, rfl, N20, K23, (Nat.le_of_eq g2.symm), f24, F13_2, F13_1, F13_0⟩
  · show SS p e below s₁ m 0 #[.val o0, iv p2, .unset, .unset, .unset] [] _
    refine XS.iloadN X1.here hx rfl (hb hby d_53) rfl ?_
    refine XS.sipush X1.here hx rfl (hb hby d_54) ?_
    show SS p e below s₁ m 4 #[.val o0, iv p2, .unset, .unset, .unset] [(.int (255 : Int32)), (.int p2)] _
    refine XS.iand X1.here hx rfl (hb hby d_55) rfl ?_
    show SS p e below s₁ m 5 #[.val o0, iv p2, .unset, .unset, .unset] [(.int (p2 &&& (255 : Int32)))] _
    refine XS.i2c X1.here hx rfl (hb hby d_56) rfl ?_
    rw [h_c0]
    show SS p e below s₁ m 6 #[.val o0, iv p2, .unset, .unset, .unset] [(.int c0)] _
    refine XS.istoreN X1.here hx rfl (hb hby d_57) rfl (l' := #[.val o0, iv p2, iv c0, .unset, .unset]) rfl ?_
    refine XS.iloadN X1.here hx rfl (hb hby d_58) rfl ?_
    refine XS.bipush X1.here hx rfl (hb hby d_59) ?_
    show SS p e below s₁ m 10 #[.val o0, iv p2, iv c0, .unset, .unset] [(.int (8 : Int32)), (.int p2)] _
    refine XS.iushr X1.here hx rfl (hb hby d_60) rfl ?_
    show SS p e below s₁ m 11 #[.val o0, iv p2, iv c0, .unset, .unset] [(.int ((p2.toUInt32 >>> ((8 : Int32) &&& 31).toUInt32).toInt32))] _
    refine XS.sipush X1.here hx rfl (hb hby d_61) ?_
    refine XS.iand X1.here hx rfl (hb hby d_62) rfl ?_
    show SS p e below s₁ m 15 #[.val o0, iv p2, iv c0, .unset, .unset] [(.int (((p2.toUInt32 >>> ((8 : Int32) &&& 31).toUInt32).toInt32) &&& (255 : Int32)))] _
    refine XS.i2c X1.here hx rfl (hb hby d_63) rfl ?_
    rw [h_c1]
    show SS p e below s₁ m 16 #[.val o0, iv p2, iv c0, .unset, .unset] [(.int c1)] _
    refine XS.istoreN X1.here hx rfl (hb hby d_64) rfl (l' := #[.val o0, iv p2, iv c0, iv c1, .unset]) rfl ?_
    refine XS.iloadN X1.here hx rfl (hb hby d_65) rfl ?_
    refine XS.ifNo X1.here hx rfl (hb hby d_66) rfl ((if0 _ _).trans (teq (by decide : (0 : Int32) = (0 : Int32))).2) ?_
    refine st2 _ ?_
    refine XS.dup X2.here hx rfl (hb hby d_68) rfl rfl ?_
    refine XS.iconst X2.here hx rfl (hb hby d_69) ?_
    refine st7 _ ?_
    refine st13.trans ?_
    exact retOut X13 hx hret rfl (Or.inr (Or.inr (Or.inr (Or.inr ⟨rfl, rfl, rfl⟩)))) (hb hby d_100) hr
theorem ef_235 (m : MethodId) (p2 : Int32) : entryFrame m #[(.int (1 : Int32)), (.int p2)] 5 = mkF m 0 #[iv (1 : Int32), iv p2, .unset, .unset, .unset] [] := by first | (simp [entryFrame, mkF, argsToLocals, Value.category]; done) | rfl
theorem own_str1 (l : Launch) (Z : State) (a0 : Array Value) (hw : HW Z a0) (p2 : Int32) (oC : Int32) (c0 : Int32) (c1 : Int32) (h0 : Heap) (n0 : Nat) (O0 : Old Z n0 h0) (S_oC : SA24 Z Z.heap (.int oC)) (nz_oC : ¬ (oC = (0 : Int32))) (h_c0 : ((p2 &&& (255 : Int32)).toUInt32.toUInt16.toUInt32.toInt32) = c0) (r_c0 : ¬ ((255 : Int32) < c0)) (n_c0 : ¬ (c0 < (0 : Int32))) (i_c0 : (c0.toUInt32.toUInt16.toUInt32.toInt32) = c0) (b_c0 : ((c0.toInt8.toInt32) &&& (255 : Int32)) = c0) (h_c1 : ((((p2.toUInt32 >>> ((8 : Int32) &&& 31).toUInt32).toInt32) &&& (255 : Int32)).toUInt32.toUInt16.toUInt32.toInt32) = c1) (r_c1 : ¬ ((255 : Int32) < c1)) (n_c1 : ¬ (c1 < (0 : Int32))) (i_c1 : (c1.toUInt32.toUInt16.toUInt32.toInt32) = c1) (b_c1 : ((c1.toInt8.toInt32) &&& (255 : Int32)) = c1) :
    MetH l Z [] MY12 method_3_code 5 (some (.object "java/lang/String")) ({ frames := 4, cells := 6, slots := 12, locals := 66 } : Room) #[(.int (1 : Int32)), (.int p2)] h0 consts_1 [] (Qs Z (1 : Int32) [.int (c0.toInt8.toInt32)] h0 n0) := by
  have W := @own_W _ _ hw
  refine own_mkH (plainFor_of_name pn_16) ?_
  intro p e s m below meth c s₁ hZ hx hby hml hown hnm hret hlk X0 e0 H0 hsf
  have N0 := Fr.nil n0
  have C0 := CHr.refl H0
  have X1 := (show Stand p l e _ (s.setVm s.vm) m _ below meth c _ _ _ _ from X0)
  obtain ⟨_, T2, L2, X2, hQ2, st2⟩ := own_cs X1 hx hZ hown hml (W 75 rfl) (W 76 rfl) (W 13 rfl) (W 77 rfl) (rm8_valueOf l Z a0 hw c0 oC h0 n0 O0 (S_oC) (nz_oC) (r_c0)) e0 (hb hby d_105) 0 #[iv (1 : Int32), iv p2, iv c0, iv c1, .unset] [(.int c0)] [] pd_146
  obtain ⟨b2_0, b2_1, k2_0, rfl, N2q, K2, gb2_0, gb2_1, F2_0, F2_1, F2_2, F2_3, F2_4⟩ := hQ2
  have N3 := Fr.app N0 N2q
  have c4 := CHr.keep K2 sf0 H0
  have C5 := CHr.trans C0 c4
  have O6 := O0.keep K2 all0
  have K7 : Keep h0 T2.heap [] := Keep.trans (Keep.refl h0 []) K2 all0
  refine ⟨T2, some (.ref b2_0), _, _, _, s.vm, _, X2, ((State.WarmedH.refl s).since 0), (Nat.zero_le _), by decide, by decide, nofun, ?_, own_che rfl (CHr.trans C5 (CHv.at (s := s) X2 hZ (own_ew_86 hw) c4.1)), fun fs hr => castTop (ef_235 m p2) ?_⟩
  · show Qs Z (1 : Int32) [.int (c0.toInt8.toInt32)] h0 n0 _ T2.heap _
    exact ⟨b2_0, b2_1, k2_0, rfl, N3, K7, gb2_0, F2_0, F2_2, F2_1, F2_3⟩
  · show SS p e below s₁ m 0 #[iv (1 : Int32), iv p2, .unset, .unset, .unset] [] _
    refine XS.iloadN X1.here hx rfl (hb hby d_53) rfl ?_
    refine XS.sipush X1.here hx rfl (hb hby d_54) ?_
    show SS p e below s₁ m 4 #[iv (1 : Int32), iv p2, .unset, .unset, .unset] [(.int (255 : Int32)), (.int p2)] _
    refine XS.iand X1.here hx rfl (hb hby d_55) rfl ?_
    show SS p e below s₁ m 5 #[iv (1 : Int32), iv p2, .unset, .unset, .unset] [(.int (p2 &&& (255 : Int32)))] _
    refine XS.i2c X1.here hx rfl (hb hby d_56) rfl ?_
    rw [h_c0]
    show SS p e below s₁ m 6 #[iv (1 : Int32), iv p2, .unset, .unset, .unset] [(.int c0)] _
    refine XS.istoreN X1.here hx rfl (hb hby d_57) rfl (l' := #[iv (1 : Int32), iv p2, iv c0, .unset, .unset]) rfl ?_
    refine XS.iloadN X1.here hx rfl (hb hby d_58) rfl ?_
    refine XS.bipush X1.here hx rfl (hb hby d_59) ?_
    show SS p e below s₁ m 10 #[iv (1 : Int32), iv p2, iv c0, .unset, .unset] [(.int (8 : Int32)), (.int p2)] _
    refine XS.iushr X1.here hx rfl (hb hby d_60) rfl ?_
    show SS p e below s₁ m 11 #[iv (1 : Int32), iv p2, iv c0, .unset, .unset] [(.int ((p2.toUInt32 >>> ((8 : Int32) &&& 31).toUInt32).toInt32))] _
    refine XS.sipush X1.here hx rfl (hb hby d_61) ?_
    refine XS.iand X1.here hx rfl (hb hby d_62) rfl ?_
    show SS p e below s₁ m 15 #[iv (1 : Int32), iv p2, iv c0, .unset, .unset] [(.int (((p2.toUInt32 >>> ((8 : Int32) &&& 31).toUInt32).toInt32) &&& (255 : Int32)))] _
    refine XS.i2c X1.here hx rfl (hb hby d_63) rfl ?_
    rw [h_c1]
    show SS p e below s₁ m 16 #[iv (1 : Int32), iv p2, iv c0, .unset, .unset] [(.int c1)] _
    refine XS.istoreN X1.here hx rfl (hb hby d_64) rfl (l' := #[iv (1 : Int32), iv p2, iv c0, iv c1, .unset]) rfl ?_
    refine XS.iloadN X1.here hx rfl (hb hby d_65) rfl ?_
    refine XS.ifYes X1.here hx rfl (pc0 := 18) (pc' := 32) rfl (hb hby d_66) rfl ((if0 _ _).trans (feq (by decide : ¬ ((1 : Int32) = (0 : Int32)))).2) (by decide) (by decide) ?_
    refine XS.iloadN X1.here hx rfl (hb hby d_101) rfl ?_
    refine XS.iconst X1.here hx rfl (hb hby d_102) ?_
    refine XS.icmpNo X1.here hx rfl (hb hby d_103) rfl (teq (by decide : (1 : Int32) = (1 : Int32))).2 ?_
    refine XS.iloadN X1.here hx rfl (hb hby d_104) rfl ?_
    refine st2 _ ?_
    exact retOut X2 hx hret rfl (Or.inr (Or.inr (Or.inr (Or.inr ⟨rfl, rfl, rfl⟩)))) (hb hby d_147) hr
theorem ef_236 (m : MethodId) (p1 : Int32) (p2 : Int32) : entryFrame m #[(.int p1), (.int p2)] 5 = mkF m 0 #[iv p1, iv p2, .unset, .unset, .unset] [] := by first | (simp [entryFrame, mkF, argsToLocals, Value.category]; done) | rfl
theorem own_str2 (l : Launch) (Z : State) (a0 : Array Value) (hw : HW Z a0) (p1 : Int32) (p2 : Int32) (oC : Int32) (c0 : Int32) (c1 : Int32) (h0 : Heap) (n0 : Nat) (O0 : Old Z n0 h0) (S_oC : SA24 Z Z.heap (.int oC)) (nz_oC : ¬ (oC = (0 : Int32))) (h_c0 : ((p2 &&& (255 : Int32)).toUInt32.toUInt16.toUInt32.toInt32) = c0) (r_c0 : ¬ ((255 : Int32) < c0)) (n_c0 : ¬ (c0 < (0 : Int32))) (i_c0 : (c0.toUInt32.toUInt16.toUInt32.toInt32) = c0) (b_c0 : ((c0.toInt8.toInt32) &&& (255 : Int32)) = c0) (h_c1 : ((((p2.toUInt32 >>> ((8 : Int32) &&& 31).toUInt32).toInt32) &&& (255 : Int32)).toUInt32.toUInt16.toUInt32.toInt32) = c1) (r_c1 : ¬ ((255 : Int32) < c1)) (n_c1 : ¬ (c1 < (0 : Int32))) (i_c1 : (c1.toUInt32.toUInt16.toUInt32.toInt32) = c1) (b_c1 : ((c1.toInt8.toInt32) &&& (255 : Int32)) = c1) (h0' : ¬ (p1 = (0 : Int32))) (h1' : ¬ (p1 = (1 : Int32))) :
    MetH l Z [] MY12 method_3_code 5 (some (.object "java/lang/String")) ({ frames := 4, cells := 6, slots := 12, locals := 66 } : Room) #[(.int p1), (.int p2)] h0 consts_1 [] (Qs Z (2 : Int32) [.int (c0.toInt8.toInt32), .int (c1.toInt8.toInt32)] h0 n0) := by
  have W := @own_W _ _ hw
  refine own_mkH (plainFor_of_name pn_16) ?_
  intro p e s m below meth c s₁ hZ hx hby hml hown hnm hret hlk X0 e0 H0 hsf
  have N0 := Fr.nil n0
  have C0 := CHr.refl H0
  have X1 := (show Stand p l e _ (s.setVm s.vm) m _ below meth c _ _ _ _ from X0)
  obtain ⟨T2, h2, k2, X2, e2, E2, A2, B2, st2⟩ := newPE X1 hx hZ (W 14 rfl) e0 (g := (mkF m 43 #[iv p1, iv p2, iv c0, iv c1, .unset] [(.int (2 : Int32))])) rfl (hb hby d_149) rfl (by decide) (cap := 2) (by decide) (by decide) (by decide) (by decide) (ad := "[C") rfl
  obtain ⟨b2, g2⟩ : ∃ z, z = h0.size := ⟨_, rfl⟩
  rw [← g2] at A2 B2 st2
  have c3 := CHr.ext E2 H0
  have C4 := CHr.trans C0 c3
  have O5 := O0.ext E2
  have K6 : Keep h0 h2 [] := Keep.ext (Keep.refl h0 []) E2
  have v7 : Arv Z h2 b2 k2 .char (2 : Int32) [o0, o0] o0 := (Arv.new A2 (by decide)).pad (pad_rep [] o0 2)
  obtain ⟨c8, A8, q8, S8, N8, H8, G8⟩ := id v7
  have i9 : ¬ ((0 : Int32) < 0 ∨ c8.slots.size ≤ ((0 : Int32)).toNatClampNeg) := inb_of S8 ⟨by decide, by decide⟩
  obtain ⟨T9, h9, X9, e9, W9, st9⟩ := stC X2 hx hZ e2 A8 (j := (0 : Int32)) i9 (g := (mkF m 51 #[iv p1, iv p2, iv c0, iv c1, rv b2] [(.int c0), o0, (.ref b2)])) rfl rfl (hb hby d_154)
  rw [(show nar .char c0 = c0 from i_c0)] at W9
  have s10 := Safe.exa (EL := consts_1) hZ.alike B2 (by decide) (by decide)
  have c11 := CHr.wr W9 s10 c3.1
  have C12 := CHr.trans C4 c11
  have g13 : n0 ≤ b2 := Nat.le_trans (Nat.le_trans (Nat.le_of_eq O0.1.symm) O0.2.1) (Nat.le_of_eq g2.symm)
  have O14 := O5.wr W9 g13
  have K15 : Keep h0 h9 [] := Keep.wr K6 W9 (Or.inr (Nat.le_of_eq g2.symm))
  have v16 : Arv Z h9 b2 k2 .char (2 : Int32) [(.int c0), o0] o0 := Arv.set A8 q8 S8 N8 H8 G8 (own_fput (by simp) (show nar .char c0 = c0 from i_c0)) W9 0 rfl (Nat.le_of_ble_eq_true rfl)
  have N17 := Fr.snoc X9 N0 g13
  obtain ⟨c18, A18, q18, S18, N18, H18, G18⟩ := id v16
  have i19 : ¬ ((1 : Int32) < 0 ∨ c18.slots.size ≤ ((1 : Int32)).toNatClampNeg) := inb_of S18 ⟨by decide, by decide⟩
  obtain ⟨T19, h19, X19, e19, W19, st19⟩ := stC X9 hx hZ e9 A18 (j := (1 : Int32)) i19 (g := (mkF m 56 #[iv p1, iv p2, iv c0, iv c1, rv b2] [(.int c1), (.int (1 : Int32)), (.ref b2)])) rfl rfl (hb hby d_158)
  rw [(show nar .char c1 = c1 from i_c1)] at W19
  have f20 := (B2.wr W9)
  have s21 := Safe.exa (EL := consts_1) hZ.alike f20 (by decide) (by decide)
  have c22 := CHr.wr W19 s21 c11.1
  have C23 := CHr.trans C12 c22
  have O24 := O14.wr W19 g13
  have K25 : Keep h0 h19 [] := Keep.wr K15 W19 (Or.inr (Nat.le_of_eq g2.symm))
  have v26 : Arv Z h19 b2 k2 .char (2 : Int32) [(.int c0), (.int c1)] o0 := Arv.set A18 q18 S18 N18 H18 G18 (own_fput (by simp) (show nar .char c1 = c1 from i_c1)) W19 1 rfl (Nat.le_of_ble_eq_true rfl)
  have N27 := Fr.snoc X19 N17 g13
  obtain ⟨T28, h28, X28, e28, E28, A28, D28, -, st28⟩ := newO X19 hx hZ hown (W 11 rfl) (W 12 rfl) (W 13 rfl) e19 (g := (mkF m 57 #[iv p1, iv p2, iv c0, iv c1, rv b2] [])) rfl (hb hby d_159) (by decide) (by decide)
  obtain ⟨b28, g28⟩ : ∃ z, z = h19.size := ⟨_, rfl⟩
  rw [← g28] at A28 D28 st28
  have c29 := CHr.ext E28 c22.1
  have C30 := CHr.trans C23 c29
  have O31 := O24.ext E28
  have K32 : Keep h0 h28 [] := Keep.ext K25 E28
  have f34 := (v26.ext E28)
  have z35 : h2.size ≤ h9.size := (Nat.le_of_eq W9.size.symm)
  have z36 : h2.size ≤ h19.size := (Nat.le_trans z35 (Nat.le_of_eq W19.size.symm))
  have z37 : h2.size ≤ h28.size := (Nat.le_trans z36 E28.1)
  have z38 : h0.size ≤ h2.size := E2.1
  have z39 : h0.size ≤ h9.size := (Nat.le_trans z38 (Nat.le_of_eq W9.size.symm))
  have z40 : h0.size ≤ h19.size := (Nat.le_trans z39 (Nat.le_of_eq W19.size.symm))
  have g41 : n0 ≤ b28 := Nat.le_trans (Nat.le_trans (Nat.le_trans (Nat.le_of_eq O0.1.symm) O0.2.1) z40) (Nat.le_of_eq g28.symm)
  obtain ⟨_, T33, L33, X33, hQ33, st33⟩ := own_cp X28 hx hZ hown hml rfl (W 15 rfl) (W 16 rfl) (W 13 rfl) (W 17 rfl) (rm13_init l Z a0 hw b28 b2 k2 c0 c1 oC h28 n0 O31 (f34) (S_oC) (nz_oC) (r_c0) (r_c1) (A28) ((D28 (Or.inr (W 28 rfl)) (ty := .byte) (by decide) : FA17 Z h28 b28 o0)) ((D28 (Or.inr (W 27 rfl)) (ty := (.array .byte)) (by decide) : FA18 Z h28 b28 .null)) ((Nat.lt_of_lt_of_le A2.lt z37)) (g41) (A28.lt)) e28 (hb hby d_162) 1 #[iv p1, iv p2, iv c0, iv c1, rv b2] b28 [(.ref b2)] [(.ref b28)] pd_99
  obtain ⟨b33_0, k33_0, rfl, N33q, K33, gb33_0, F33_0, F33_1, F33_2, F33_3⟩ := hQ33
  have N42 := Fr.app N27 N33q
  have f43 := (Safe.ext E28 c22.1 (Safe.new (Nat.le_of_eq g28.symm)))
  have c44 := CHr.keep K33 (sfS f43 sf0) c29.1
  have C45 := CHr.trans C30 c44
  have O46 := O31.keep K33 (allS g41 all0)
  have K47 : Keep h0 T33.heap [] := Keep.trans K32 K33 (allS (Or.inr (Nat.le_trans z40 (Nat.le_of_eq g28.symm))) all0)
  have f48 := (A28.keep K33)
  refine ⟨T33, some (.ref b28), _, _, _, s.vm, _, X33, ((State.WarmedH.refl s).since 0), (Nat.zero_le _), by decide, by decide, nofun, ?_, own_che rfl (CHr.trans C45 (CHv.at (s := s) X33 hZ (own_ew_86 hw) c44.1)), fun fs hr => castTop (ef_236 m p1 p2) ?_⟩
  · show Qs Z (2 : Int32) [.int (c0.toInt8.toInt32), .int (c1.toInt8.toInt32)] h0 n0 _ T33.heap _
    exact ⟨b28, b33_0, k33_0, rfl, N42, K47, (Nat.le_trans z40 (Nat.le_of_eq g28.symm)), f48, F33_2, F33_3, F33_0⟩
  · show SS p e below s₁ m 0 #[iv p1, iv p2, .unset, .unset, .unset] [] _
    refine XS.iloadN X1.here hx rfl (hb hby d_53) rfl ?_
    refine XS.sipush X1.here hx rfl (hb hby d_54) ?_
    show SS p e below s₁ m 4 #[iv p1, iv p2, .unset, .unset, .unset] [(.int (255 : Int32)), (.int p2)] _
    refine XS.iand X1.here hx rfl (hb hby d_55) rfl ?_
    show SS p e below s₁ m 5 #[iv p1, iv p2, .unset, .unset, .unset] [(.int (p2 &&& (255 : Int32)))] _
    refine XS.i2c X1.here hx rfl (hb hby d_56) rfl ?_
    rw [h_c0]
    show SS p e below s₁ m 6 #[iv p1, iv p2, .unset, .unset, .unset] [(.int c0)] _
    refine XS.istoreN X1.here hx rfl (hb hby d_57) rfl (l' := #[iv p1, iv p2, iv c0, .unset, .unset]) rfl ?_
    refine XS.iloadN X1.here hx rfl (hb hby d_58) rfl ?_
    refine XS.bipush X1.here hx rfl (hb hby d_59) ?_
    show SS p e below s₁ m 10 #[iv p1, iv p2, iv c0, .unset, .unset] [(.int (8 : Int32)), (.int p2)] _
    refine XS.iushr X1.here hx rfl (hb hby d_60) rfl ?_
    show SS p e below s₁ m 11 #[iv p1, iv p2, iv c0, .unset, .unset] [(.int ((p2.toUInt32 >>> ((8 : Int32) &&& 31).toUInt32).toInt32))] _
    refine XS.sipush X1.here hx rfl (hb hby d_61) ?_
    refine XS.iand X1.here hx rfl (hb hby d_62) rfl ?_
    show SS p e below s₁ m 15 #[iv p1, iv p2, iv c0, .unset, .unset] [(.int (((p2.toUInt32 >>> ((8 : Int32) &&& 31).toUInt32).toInt32) &&& (255 : Int32)))] _
    refine XS.i2c X1.here hx rfl (hb hby d_63) rfl ?_
    rw [h_c1]
    show SS p e below s₁ m 16 #[iv p1, iv p2, iv c0, .unset, .unset] [(.int c1)] _
    refine XS.istoreN X1.here hx rfl (hb hby d_64) rfl (l' := #[iv p1, iv p2, iv c0, iv c1, .unset]) rfl ?_
    refine XS.iloadN X1.here hx rfl (hb hby d_65) rfl ?_
    refine XS.ifYes X1.here hx rfl (pc0 := 18) (pc' := 32) rfl (hb hby d_66) rfl ((if0 _ _).trans (feq h0').2) (by decide) (by decide) ?_
    refine XS.iloadN X1.here hx rfl (hb hby d_101) rfl ?_
    refine XS.iconst X1.here hx rfl (hb hby d_102) ?_
    refine XS.icmpYes X1.here hx rfl (pc0 := 34) (pc' := 42) rfl (hb hby d_103) rfl (feq h1').2 (by decide) (by decide) ?_
    refine XS.iconst X1.here hx rfl (hb hby d_148) ?_
    refine st2 _ ?_
    refine XS.astore X2.here hx rfl (hb hby d_150) rfl rfl (l' := #[iv p1, iv p2, iv c0, iv c1, rv b2]) rfl ?_
    refine XS.aload X2.here hx rfl (hb hby d_151) rfl rfl ?_
    show SS p e below T2 m 49 #[iv p1, iv p2, iv c0, iv c1, rv b2] [(.ref b2)] _
    refine XS.iconst X2.here hx rfl (hb hby d_152) ?_
    refine XS.iloadN X2.here hx rfl (hb hby d_153) rfl ?_
    refine st9 _ ?_
    refine XS.aload X9.here hx rfl (hb hby d_155) rfl rfl ?_
    refine XS.iconst X9.here hx rfl (hb hby d_156) ?_
    refine XS.iloadN X9.here hx rfl (hb hby d_157) rfl ?_
    refine st19 _ ?_
    refine st28 _ ?_
    refine XS.dup X28.here hx rfl (hb hby d_160) rfl rfl ?_
    refine XS.aload X28.here hx rfl (hb hby d_161) rfl rfl ?_
    show SS p e below T28 m 63 #[iv p1, iv p2, iv c0, iv c1, rv b2] [(.ref b2), (.ref b28), (.ref b28)] _
    refine st33 _ ?_
    exact retOut X33 hx hret rfl (Or.inr (Or.inr (Or.inr (Or.inr ⟨rfl, rfl, rfl⟩)))) (hb hby d_233) hr
theorem own_strC (l : Launch) (Z : State) (a0 : Array Value) (hw : HW Z a0) (p1 : Int32) (p2 : Int32) (oC : Int32) (c0 : Int32) (c1 : Int32) (h0 : Heap) (n0 : Nat) (O0 : Old Z n0 h0) (S_oC : SA24 Z Z.heap (.int oC)) (nz_oC : ¬ (oC = (0 : Int32)))  (h_c0 : ((p2 &&& (255 : Int32)).toUInt32.toUInt16.toUInt32.toInt32) = c0) (r_c0 : ¬ ((255 : Int32) < c0)) (n_c0 : ¬ (c0 < (0 : Int32))) (i_c0 : (c0.toUInt32.toUInt16.toUInt32.toInt32) = c0) (b_c0 : ((c0.toInt8.toInt32) &&& (255 : Int32)) = c0) (h_c1 : ((((p2.toUInt32 >>> ((8 : Int32) &&& 31).toUInt32).toInt32) &&& (255 : Int32)).toUInt32.toUInt16.toUInt32.toInt32) = c1) (r_c1 : ¬ ((255 : Int32) < c1)) (n_c1 : ¬ (c1 < (0 : Int32))) (i_c1 : (c1.toUInt32.toUInt16.toUInt32.toInt32) = c1) (b_c1 : ((c1.toInt8.toInt32) &&& (255 : Int32)) = c1) :
    MetH l Z [] MY12 method_3_code 5 (some (.object "java/lang/String")) ({ frames := 4, cells := 6, slots := 12, locals := 66 } : Room) #[(.int p1), (.int p2)] h0 consts_1 [] (Qs Z (own_sn p1) (own_sl p1 (c0.toInt8.toInt32) (c1.toInt8.toInt32)) h0 n0) := by
  rcases own_s3 p1 (c0.toInt8.toInt32) (c1.toInt8.toInt32) with ⟨h, e, q⟩ | ⟨h, e, q⟩ | ⟨h, h', e, q⟩ <;> rw [e, q]
  · subst h; exact own_str0 l Z a0 hw p2 oC c0 c1 h0 n0 O0 S_oC nz_oC h_c0 r_c0 n_c0 i_c0 b_c0 h_c1 r_c1 n_c1 i_c1 b_c1
  · subst h; exact own_str1 l Z a0 hw p2 oC c0 c1 h0 n0 O0 S_oC nz_oC h_c0 r_c0 n_c0 i_c0 b_c0 h_c1 r_c1 n_c1 i_c1 b_c1
  · exact own_str2 l Z a0 hw p1 p2 oC c0 c1 h0 n0 O0 S_oC nz_oC h_c0 r_c0 n_c0 i_c0 b_c0 h_c1 r_c1 n_c1 i_c1 b_c1 h h'
theorem d_237 : decode jdk_42_method_66_code 0 = .ok (.aload_n 0, 1) := by decide +kernel
theorem d_238 : decode jdk_42_method_66_code 1 = .ok (.aload_n 1, 1) := by decide +kernel
theorem d_239 : decode jdk_42_method_66_code 2 = .ok (.if_acmp .ne 5, 3) := by decide +kernel
theorem d_240 : decode jdk_42_method_66_code 7 = .ok (.aload_n 1, 1) := by decide +kernel
theorem d_241 : decode jdk_42_method_66_code 8 = .ok (.instanceof 10, 3) := by decide +kernel
theorem d_242 : decode jdk_42_method_66_code 11 = .ok (.ifCond .eq 43, 3) := by decide +kernel
theorem d_243 : decode jdk_42_method_66_code 14 = .ok (.aload_n 1, 1) := by decide +kernel
theorem d_244 : decode jdk_42_method_66_code 15 = .ok (.checkcast 10, 3) := by decide +kernel
theorem d_245 : decode jdk_42_method_66_code 18 = .ok (.astore_n 2, 1) := by decide +kernel
theorem d_246 : decode jdk_42_method_66_code 19 = .ok (.getstatic 38, 3) := by decide +kernel
theorem d_247 : decode jdk_42_method_66_code 22 = .ok (.ifCond .eq 14, 3) := by decide +kernel
theorem d_248 : decode jdk_42_method_66_code 25 = .ok (.aload_n 0, 1) := by decide +kernel
theorem d_249 : decode jdk_42_method_66_code 26 = .ok (.getfield 15, 3) := by decide +kernel
theorem d_250 : decode jdk_42_method_66_code 29 = .ok (.aload_n 2, 1) := by decide +kernel
theorem d_251 : decode jdk_42_method_66_code 30 = .ok (.getfield 15, 3) := by decide +kernel
theorem d_252 : decode jdk_42_method_66_code 33 = .ok (.if_icmp .ne 21, 3) := by decide +kernel
theorem d_253 : decode jdk_42_method_66_code 36 = .ok (.aload_n 0, 1) := by decide +kernel
theorem d_254 : decode jdk_42_method_66_code 37 = .ok (.getfield 9, 3) := by decide +kernel
theorem d_255 : decode jdk_42_method_66_code 40 = .ok (.aload_n 2, 1) := by decide +kernel
theorem d_256 : decode jdk_42_method_66_code 41 = .ok (.getfield 9, 3) := by decide +kernel
theorem d_257 : decode jdk_42_method_66_code 44 = .ok (.invokestatic 541, 3) := by decide +kernel
theorem d_258 : decode jdk_43_method_13_code 0 = .ok (.aload_n 0, 1) := by decide +kernel
theorem d_259 : decode jdk_43_method_13_code 1 = .ok (.arraylength, 1) := by decide +kernel
theorem d_260 : decode jdk_43_method_13_code 2 = .ok (.aload_n 1, 1) := by decide +kernel
theorem d_261 : decode jdk_43_method_13_code 3 = .ok (.arraylength, 1) := by decide +kernel
theorem d_262 : decode jdk_43_method_13_code 4 = .ok (.if_icmp .ne 30, 3) := by decide +kernel
theorem d_263 : decode jdk_43_method_13_code 7 = .ok (.iconst 0, 1) := by decide +kernel
theorem d_264 : decode jdk_43_method_13_code 8 = .ok (.istore_n 2, 1) := by decide +kernel
theorem d_265 : decode jdk_43_method_13_code 9 = .ok (.iload_n 2, 1) := by decide +kernel
theorem d_266 : decode jdk_43_method_13_code 10 = .ok (.aload_n 0, 1) := by decide +kernel
theorem d_267 : decode jdk_43_method_13_code 11 = .ok (.arraylength, 1) := by decide +kernel
theorem d_268 : decode jdk_43_method_13_code 12 = .ok (.if_icmp .ge 20, 3) := by decide +kernel
theorem d_269 : decode jdk_43_method_13_code 32 = .ok (.iconst 1, 1) := by decide +kernel
theorem d_270 : decode jdk_43_method_13_code 33 = .ok (.ireturn, 1) := by decide +kernel
theorem ef_271 (m : MethodId) (a1 : Addr) (a2 : Addr) : entryFrame m #[(.ref a1), (.ref a2)] 3 = mkF m 0 #[rv a1, rv a2, .unset] [] := by first | (simp [entryFrame, mkF, argsToLocals, Value.category]; done) | rfl
def Q14_equals (Z : State) (a1 : Addr) (a2 : Addr) (k3 : ClassId) (k4 : ClassId) (h0 : Heap) (n0 : Nat) (v : Option Value) (h : Heap) (L : List Loc) : Prop := v = some (.int (1 : Int32)) ∧ Fr n0 L ∧ h = h0
theorem rm14_equals (l : Launch) (Z : State) (a0 : Array Value) (hw : HW Z a0) (a1 : Addr) (a2 : Addr) (k3 : ClassId) (k4 : ClassId) (h0 : Heap) (n0 : Nat) (O0 : Old Z n0 h0) (F_0 : Arv Z h0 a1 k3 .byte (0 : Int32) [] o0) (F_1 : Arv Z h0 a2 k4 .byte (0 : Int32) [] o0) :
    Met l Z [] MY13 jdk_43_method_13_code 3 (some .boolean) ({ frames := 0, cells := 0, slots := 0, locals := 0 } : Room) #[(.ref a1), (.ref a2)] h0 (Q14_equals Z a1 a2 k3 k4 h0 n0) := by
  have W := @own_W _ _ hw
  refine own_mk (plainFor_of_name pn_116) ?_
  intro p e s m below meth c s₁ hZ hx hby hml hown hnm hret hlk X0 e0
  have N0 := Fr.nil n0
  obtain ⟨c1, A1, q1, S1, N1, H1, G1⟩ := id F_0
  obtain ⟨c2, A2, q2, S2, N2, H2, G2⟩ := id F_1
  obtain ⟨c3, A3, q3, S3, N3, H3, G3⟩ := id F_0
  refine ⟨s₁, some (.int (1 : Int32)), _, _, _, X0, by decide, by decide, nofun, ?_, fun fs hr => castTop (ef_271 m a1 a2) ?_⟩
  · show Q14_equals Z a1 a2 k3 k4 h0 n0 _ s₁.heap _
    rw [e0]
    exact ⟨rfl, N0, rfl⟩
  · show SS p e below s₁ m 0 #[rv a1, rv a2, .unset] [] _
    refine XS.aloadN X0.here hx rfl (hb hby d_258) rfl rfl ?_
    refine X0.arraylength hx (by rw [e0]; exact A1.1) (State.isArrayOf_alike hZ.alike A1.2.1) (g := (mkF m 1 #[rv a1, rv a2, .unset] [(.ref a1)])) rfl rfl (hb hby d_259) _ ?_
    rw [len_of S1 N1]
    refine XS.aloadN X0.here hx rfl (hb hby d_260) rfl rfl ?_
    refine X0.arraylength hx (by rw [e0]; exact A2.1) (State.isArrayOf_alike hZ.alike A2.2.1) (g := (mkF m 3 #[rv a1, rv a2, .unset] [(.ref a2), o0])) rfl rfl (hb hby d_261) _ ?_
    rw [len_of S2 N2]
    refine XS.icmpNo X0.here hx rfl (hb hby d_262) rfl (teq (by decide : (0 : Int32) = (0 : Int32))).2 ?_
    refine XS.iconst X0.here hx rfl (hb hby d_263) ?_
    refine XS.istoreN X0.here hx rfl (hb hby d_264) rfl (l' := #[rv a1, rv a2, .val o0]) rfl ?_
    refine XS.iloadN X0.here hx rfl (hb hby d_265) rfl ?_
    refine XS.aloadN X0.here hx rfl (hb hby d_266) rfl rfl ?_
    refine X0.arraylength hx (by rw [e0]; exact A3.1) (State.isArrayOf_alike hZ.alike A3.2.1) (g := (mkF m 11 #[rv a1, rv a2, .val o0] [(.ref a1), o0])) rfl rfl (hb hby d_267) _ ?_
    rw [len_of S3 N3]
    show SS p e below s₁ m 12 #[rv a1, rv a2, .val o0] [o0, o0] _
    refine XS.icmpYes X0.here hx rfl (pc0 := 12) (pc' := 32) rfl (hb hby d_268) rfl (flt (by decide : ¬ ((0 : Int32) < (0 : Int32)))).2.1 (by decide) (by decide) ?_
    refine XS.iconst X0.here hx rfl (hb hby d_269) ?_
    exact retN X0 hx (t := .boolean) hret (by simp) (hb hby d_270) hr
theorem pd_272 : parseMethodDescriptor "([B[B)Z" = some ⟨[(.array .byte), (.array .byte)], some .boolean⟩ := by decide +kernel
theorem d_273 : decode jdk_42_method_66_code 47 = .ok (.ifCond .eq 7, 3) := by decide +kernel
theorem d_274 : decode jdk_42_method_66_code 50 = .ok (.iconst 1, 1) := by decide +kernel
theorem d_275 : decode jdk_42_method_66_code 51 = .ok (.goto 4, 3) := by decide +kernel
theorem d_276 : decode jdk_42_method_66_code 55 = .ok (.ireturn, 1) := by decide +kernel
theorem d_277 : decode jdk_43_method_13_code 34 = .ok (.iconst 0, 1) := by decide +kernel
theorem d_278 : decode jdk_43_method_13_code 35 = .ok (.ireturn, 1) := by decide +kernel
def Q15_equals (Z : State) (a1 : Addr) (a2 : Addr) (k3 : ClassId) (k4 : ClassId) (p5 : Int32) (h0 : Heap) (n0 : Nat) (v : Option Value) (h : Heap) (L : List Loc) : Prop := v = some o0 ∧ Fr n0 L ∧ h = h0
theorem rm15_equals (l : Launch) (Z : State) (a0 : Array Value) (hw : HW Z a0) (a1 : Addr) (a2 : Addr) (k3 : ClassId) (k4 : ClassId) (p5 : Int32) (h0 : Heap) (n0 : Nat) (O0 : Old Z n0 h0) (F_0 : Arv Z h0 a1 k3 .byte (0 : Int32) [] o0) (F_1 : Arv Z h0 a2 k4 .byte (1 : Int32) [(.int p5)] o0) :
    Met l Z [] MY13 jdk_43_method_13_code 3 (some .boolean) ({ frames := 0, cells := 0, slots := 0, locals := 0 } : Room) #[(.ref a1), (.ref a2)] h0 (Q15_equals Z a1 a2 k3 k4 p5 h0 n0) := by
  have W := @own_W _ _ hw
  refine own_mk (plainFor_of_name pn_116) ?_
  intro p e s m below meth c s₁ hZ hx hby hml hown hnm hret hlk X0 e0
  have N0 := Fr.nil n0
  obtain ⟨c1, A1, q1, S1, N1, H1, G1⟩ := id F_0
  obtain ⟨c2, A2, q2, S2, N2, H2, G2⟩ := id F_1
  refine ⟨s₁, some o0, _, _, _, X0, by decide, by decide, nofun, ?_, fun fs hr => castTop (ef_271 m a1 a2) ?_⟩
  · show Q15_equals Z a1 a2 k3 k4 p5 h0 n0 _ s₁.heap _
    rw [e0]
    exact ⟨rfl, N0, rfl⟩
  · show SS p e below s₁ m 0 #[rv a1, rv a2, .unset] [] _
    refine XS.aloadN X0.here hx rfl (hb hby d_258) rfl rfl ?_
    refine X0.arraylength hx (by rw [e0]; exact A1.1) (State.isArrayOf_alike hZ.alike A1.2.1) (g := (mkF m 1 #[rv a1, rv a2, .unset] [(.ref a1)])) rfl rfl (hb hby d_259) _ ?_
    rw [len_of S1 N1]
    refine XS.aloadN X0.here hx rfl (hb hby d_260) rfl rfl ?_
    refine X0.arraylength hx (by rw [e0]; exact A2.1) (State.isArrayOf_alike hZ.alike A2.2.1) (g := (mkF m 3 #[rv a1, rv a2, .unset] [(.ref a2), o0])) rfl rfl (hb hby d_261) _ ?_
    rw [len_of S2 N2]
    refine XS.icmpYes X0.here hx rfl (pc0 := 4) (pc' := 34) rfl (hb hby d_262) rfl (feq (by decide : ¬ ((0 : Int32) = (1 : Int32)))).2 (by decide) (by decide) ?_
    refine XS.iconst X0.here hx rfl (hb hby d_277) ?_
    exact retN X0 hx (t := .boolean) hret (by simp) (hb hby d_278) hr
theorem d_279 : decode jdk_42_method_66_code 54 = .ok (.iconst 0, 1) := by decide +kernel
def Q16_equals (Z : State) (a1 : Addr) (a2 : Addr) (k3 : ClassId) (k4 : ClassId) (p5 : Int32) (p6 : Int32) (h0 : Heap) (n0 : Nat) (v : Option Value) (h : Heap) (L : List Loc) : Prop := v = some o0 ∧ Fr n0 L ∧ h = h0
theorem rm16_equals (l : Launch) (Z : State) (a0 : Array Value) (hw : HW Z a0) (a1 : Addr) (a2 : Addr) (k3 : ClassId) (k4 : ClassId) (p5 : Int32) (p6 : Int32) (h0 : Heap) (n0 : Nat) (O0 : Old Z n0 h0) (F_0 : Arv Z h0 a1 k3 .byte (0 : Int32) [] o0) (F_1 : Arv Z h0 a2 k4 .byte (2 : Int32) [(.int p5), (.int p6)] o0) :
    Met l Z [] MY13 jdk_43_method_13_code 3 (some .boolean) ({ frames := 0, cells := 0, slots := 0, locals := 0 } : Room) #[(.ref a1), (.ref a2)] h0 (Q16_equals Z a1 a2 k3 k4 p5 p6 h0 n0) := by
  have W := @own_W _ _ hw
  refine own_mk (plainFor_of_name pn_116) ?_
  intro p e s m below meth c s₁ hZ hx hby hml hown hnm hret hlk X0 e0
  have N0 := Fr.nil n0
  obtain ⟨c1, A1, q1, S1, N1, H1, G1⟩ := id F_0
  obtain ⟨c2, A2, q2, S2, N2, H2, G2⟩ := id F_1
  refine ⟨s₁, some o0, _, _, _, X0, by decide, by decide, nofun, ?_, fun fs hr => castTop (ef_271 m a1 a2) ?_⟩
  · show Q16_equals Z a1 a2 k3 k4 p5 p6 h0 n0 _ s₁.heap _
    rw [e0]
    exact ⟨rfl, N0, rfl⟩
  · show SS p e below s₁ m 0 #[rv a1, rv a2, .unset] [] _
    refine XS.aloadN X0.here hx rfl (hb hby d_258) rfl rfl ?_
    refine X0.arraylength hx (by rw [e0]; exact A1.1) (State.isArrayOf_alike hZ.alike A1.2.1) (g := (mkF m 1 #[rv a1, rv a2, .unset] [(.ref a1)])) rfl rfl (hb hby d_259) _ ?_
    rw [len_of S1 N1]
    refine XS.aloadN X0.here hx rfl (hb hby d_260) rfl rfl ?_
    refine X0.arraylength hx (by rw [e0]; exact A2.1) (State.isArrayOf_alike hZ.alike A2.2.1) (g := (mkF m 3 #[rv a1, rv a2, .unset] [(.ref a2), o0])) rfl rfl (hb hby d_261) _ ?_
    rw [len_of S2 N2]
    refine XS.icmpYes X0.here hx rfl (pc0 := 4) (pc' := 34) rfl (hb hby d_262) rfl (feq (by decide : ¬ ((0 : Int32) = (2 : Int32)))).2 (by decide) (by decide) ?_
    refine XS.iconst X0.here hx rfl (hb hby d_277) ?_
    exact retN X0 hx (t := .boolean) hret (by simp) (hb hby d_278) hr
def Q17_equals (Z : State) (a1 : Addr) (a2 : Addr) (k3 : ClassId) (p4 : Int32) (k5 : ClassId) (h0 : Heap) (n0 : Nat) (v : Option Value) (h : Heap) (L : List Loc) : Prop := v = some o0 ∧ Fr n0 L ∧ h = h0
theorem rm17_equals (l : Launch) (Z : State) (a0 : Array Value) (hw : HW Z a0) (a1 : Addr) (a2 : Addr) (k3 : ClassId) (p4 : Int32) (k5 : ClassId) (h0 : Heap) (n0 : Nat) (O0 : Old Z n0 h0) (F_0 : Arv Z h0 a1 k3 .byte (1 : Int32) [(.int p4)] o0) (F_1 : Arv Z h0 a2 k5 .byte (0 : Int32) [] o0) :
    Met l Z [] MY13 jdk_43_method_13_code 3 (some .boolean) ({ frames := 0, cells := 0, slots := 0, locals := 0 } : Room) #[(.ref a1), (.ref a2)] h0 (Q17_equals Z a1 a2 k3 p4 k5 h0 n0) := by
  have W := @own_W _ _ hw
  refine own_mk (plainFor_of_name pn_116) ?_
  intro p e s m below meth c s₁ hZ hx hby hml hown hnm hret hlk X0 e0
  have N0 := Fr.nil n0
  obtain ⟨c1, A1, q1, S1, N1, H1, G1⟩ := id F_0
  obtain ⟨c2, A2, q2, S2, N2, H2, G2⟩ := id F_1
  refine ⟨s₁, some o0, _, _, _, X0, by decide, by decide, nofun, ?_, fun fs hr => castTop (ef_271 m a1 a2) ?_⟩
  · show Q17_equals Z a1 a2 k3 p4 k5 h0 n0 _ s₁.heap _
    rw [e0]
    exact ⟨rfl, N0, rfl⟩
  · show SS p e below s₁ m 0 #[rv a1, rv a2, .unset] [] _
    refine XS.aloadN X0.here hx rfl (hb hby d_258) rfl rfl ?_
    refine X0.arraylength hx (by rw [e0]; exact A1.1) (State.isArrayOf_alike hZ.alike A1.2.1) (g := (mkF m 1 #[rv a1, rv a2, .unset] [(.ref a1)])) rfl rfl (hb hby d_259) _ ?_
    rw [len_of S1 N1]
    refine XS.aloadN X0.here hx rfl (hb hby d_260) rfl rfl ?_
    refine X0.arraylength hx (by rw [e0]; exact A2.1) (State.isArrayOf_alike hZ.alike A2.2.1) (g := (mkF m 3 #[rv a1, rv a2, .unset] [(.ref a2), (.int (1 : Int32))])) rfl rfl (hb hby d_261) _ ?_
    rw [len_of S2 N2]
    refine XS.icmpYes X0.here hx rfl (pc0 := 4) (pc' := 34) rfl (hb hby d_262) rfl (feq (by decide : ¬ ((1 : Int32) = (0 : Int32)))).2 (by decide) (by decide) ?_
    refine XS.iconst X0.here hx rfl (hb hby d_277) ?_
    exact retN X0 hx (t := .boolean) hret (by simp) (hb hby d_278) hr
theorem d_280 : decode jdk_43_method_13_code 15 = .ok (.aload_n 0, 1) := by decide +kernel
theorem d_281 : decode jdk_43_method_13_code 16 = .ok (.iload_n 2, 1) := by decide +kernel
theorem d_282 : decode jdk_43_method_13_code 17 = .ok (.baload, 1) := by decide +kernel
theorem d_283 : decode jdk_43_method_13_code 18 = .ok (.aload_n 1, 1) := by decide +kernel
theorem d_284 : decode jdk_43_method_13_code 19 = .ok (.iload_n 2, 1) := by decide +kernel
theorem d_285 : decode jdk_43_method_13_code 20 = .ok (.baload, 1) := by decide +kernel
theorem d_286 : decode jdk_43_method_13_code 21 = .ok (.if_icmp .eq 5, 3) := by decide +kernel
theorem d_287 : decode jdk_43_method_13_code 26 = .ok (.iinc 2 1, 3) := by decide +kernel
theorem d_288 : decode jdk_43_method_13_code 29 = .ok (.goto (-20), 3) := by decide +kernel
def Q18_equals (Z : State) (a1 : Addr) (a2 : Addr) (k3 : ClassId) (p4 : Int32) (k5 : ClassId) (p6 : Int32) (h0 : Heap) (n0 : Nat) (v : Option Value) (h : Heap) (L : List Loc) : Prop := v = some (.int (1 : Int32)) ∧ Fr n0 L ∧ h = h0
theorem rm18_equals (l : Launch) (Z : State) (a0 : Array Value) (hw : HW Z a0) (a1 : Addr) (a2 : Addr) (k3 : ClassId) (p4 : Int32) (k5 : ClassId) (p6 : Int32) (h0 : Heap) (n0 : Nat) (O0 : Old Z n0 h0) (F_0 : Arv Z h0 a1 k3 .byte (1 : Int32) [(.int p4)] o0) (F_1 : Arv Z h0 a2 k5 .byte (1 : Int32) [(.int p6)] o0) (hc_2 : p4 = p6) :
    Met l Z [] MY13 jdk_43_method_13_code 3 (some .boolean) ({ frames := 0, cells := 0, slots := 0, locals := 0 } : Room) #[(.ref a1), (.ref a2)] h0 (Q18_equals Z a1 a2 k3 p4 k5 p6 h0 n0) := by
  have W := @own_W _ _ hw
  refine own_mk (plainFor_of_name pn_116) ?_
  intro p e s m below meth c s₁ hZ hx hby hml hown hnm hret hlk X0 e0
  have N0 := Fr.nil n0
  obtain ⟨c1, A1, q1, S1, N1, H1, G1⟩ := id F_0
  obtain ⟨c2, A2, q2, S2, N2, H2, G2⟩ := id F_1
  obtain ⟨c3, A3, q3, S3, N3, H3, G3⟩ := id F_0
  obtain ⟨c4, A4, q4, S4, N4, H4, G4⟩ := id F_0
  have i5 : ¬ ((0 : Int32) < 0 ∨ c4.slots.size ≤ ((0 : Int32)).toNatClampNeg) := inb_of S4 ⟨by decide, by decide⟩
  obtain ⟨c6, A6, q6, S6, N6, H6, G6⟩ := id F_1
  have i7 : ¬ ((0 : Int32) < 0 ∨ c6.slots.size ≤ ((0 : Int32)).toNatClampNeg) := inb_of S6 ⟨by decide, by decide⟩
  obtain ⟨c8, A8, q8, S8, N8, H8, G8⟩ := id F_0
  refine ⟨s₁, some (.int (1 : Int32)), _, _, _, X0, by decide, by decide, nofun, ?_, fun fs hr => castTop (ef_271 m a1 a2) ?_⟩
  · show Q18_equals Z a1 a2 k3 p4 k5 p6 h0 n0 _ s₁.heap _
    rw [e0]
    exact ⟨rfl, N0, rfl⟩
  · show SS p e below s₁ m 0 #[rv a1, rv a2, .unset] [] _
    refine XS.aloadN X0.here hx rfl (hb hby d_258) rfl rfl ?_
    refine X0.arraylength hx (by rw [e0]; exact A1.1) (State.isArrayOf_alike hZ.alike A1.2.1) (g := (mkF m 1 #[rv a1, rv a2, .unset] [(.ref a1)])) rfl rfl (hb hby d_259) _ ?_
    rw [len_of S1 N1]
    refine XS.aloadN X0.here hx rfl (hb hby d_260) rfl rfl ?_
    refine X0.arraylength hx (by rw [e0]; exact A2.1) (State.isArrayOf_alike hZ.alike A2.2.1) (g := (mkF m 3 #[rv a1, rv a2, .unset] [(.ref a2), (.int (1 : Int32))])) rfl rfl (hb hby d_261) _ ?_
    rw [len_of S2 N2]
    refine XS.icmpNo X0.here hx rfl (hb hby d_262) rfl (teq (by decide : (1 : Int32) = (1 : Int32))).2 ?_
    refine XS.iconst X0.here hx rfl (hb hby d_263) ?_
    refine XS.istoreN X0.here hx rfl (hb hby d_264) rfl (l' := #[rv a1, rv a2, .val o0]) rfl ?_
    refine XS.iloadN X0.here hx rfl (hb hby d_265) rfl ?_
    refine XS.aloadN X0.here hx rfl (hb hby d_266) rfl rfl ?_
    refine X0.arraylength hx (by rw [e0]; exact A3.1) (State.isArrayOf_alike hZ.alike A3.2.1) (g := (mkF m 11 #[rv a1, rv a2, .val o0] [(.ref a1), o0])) rfl rfl (hb hby d_267) _ ?_
    rw [len_of S3 N3]
    show SS p e below s₁ m 12 #[rv a1, rv a2, .val o0] [(.int (1 : Int32)), o0] _
    refine XS.icmpNo X0.here hx rfl (hb hby d_268) rfl (tlt (by decide : (0 : Int32) < (1 : Int32))).2.1 ?_
    refine XS.aloadN X0.here hx rfl (hb hby d_280) rfl rfl ?_
    refine XS.iloadN X0.here hx rfl (hb hby d_281) rfl ?_
    refine X0.baloadBytes hx (j := (0 : Int32)) (v := (.int p4)) (by rw [e0]; exact A4.1) (State.isArrayOf_alike hZ.alike A4.2.1) A4.2.2 i5 (H4.at i5 rfl) (g := (mkF m 17 #[rv a1, rv a2, .val o0] [o0, (.ref a1)])) rfl rfl (hb hby d_282) _ ?_
    refine XS.aloadN X0.here hx rfl (hb hby d_283) rfl rfl ?_
    refine XS.iloadN X0.here hx rfl (hb hby d_284) rfl ?_
    refine X0.baloadBytes hx (j := (0 : Int32)) (v := (.int p6)) (by rw [e0]; exact A6.1) (State.isArrayOf_alike hZ.alike A6.2.1) A6.2.2 i7 (H6.at i7 rfl) (g := (mkF m 20 #[rv a1, rv a2, .val o0] [o0, (.ref a2), (.int p4)])) rfl rfl (hb hby d_285) _ ?_
    refine XS.icmpYes X0.here hx rfl (pc0 := 21) (pc' := 26) rfl (hb hby d_286) rfl (teq hc_2).1 (by decide) (by decide) ?_
    refine XS.iinc X0.here hx rfl (hb hby d_287) rfl (l' := #[rv a1, rv a2, iv (1 : Int32)]) rfl ?_
    show SS p e below s₁ m 29 #[rv a1, rv a2, iv (1 : Int32)] [] _
    refine XS.goto X0.here hx rfl (pc0 := 29) (pc' := 9) rfl (hb hby d_288) (by decide) (by decide) ?_
    refine XS.iloadN X0.here hx rfl (hb hby d_265) rfl ?_
    refine XS.aloadN X0.here hx rfl (hb hby d_266) rfl rfl ?_
    refine X0.arraylength hx (by rw [e0]; exact A8.1) (State.isArrayOf_alike hZ.alike A8.2.1) (g := (mkF m 11 #[rv a1, rv a2, iv (1 : Int32)] [(.ref a1), (.int (1 : Int32))])) rfl rfl (hb hby d_267) _ ?_
    rw [len_of S8 N8]
    refine XS.icmpYes X0.here hx rfl (pc0 := 12) (pc' := 32) rfl (hb hby d_268) rfl (flt (by decide : ¬ ((1 : Int32) < (1 : Int32)))).2.1 (by decide) (by decide) ?_
    refine XS.iconst X0.here hx rfl (hb hby d_269) ?_
    exact retN X0 hx (t := .boolean) hret (by simp) (hb hby d_270) hr
theorem d_289 : decode jdk_43_method_13_code 24 = .ok (.iconst 0, 1) := by decide +kernel
theorem d_290 : decode jdk_43_method_13_code 25 = .ok (.ireturn, 1) := by decide +kernel
def Q19_equals (Z : State) (a1 : Addr) (a2 : Addr) (k3 : ClassId) (p4 : Int32) (k5 : ClassId) (p6 : Int32) (h0 : Heap) (n0 : Nat) (v : Option Value) (h : Heap) (L : List Loc) : Prop := v = some o0 ∧ Fr n0 L ∧ h = h0
theorem rm19_equals (l : Launch) (Z : State) (a0 : Array Value) (hw : HW Z a0) (a1 : Addr) (a2 : Addr) (k3 : ClassId) (p4 : Int32) (k5 : ClassId) (p6 : Int32) (h0 : Heap) (n0 : Nat) (O0 : Old Z n0 h0) (F_0 : Arv Z h0 a1 k3 .byte (1 : Int32) [(.int p4)] o0) (F_1 : Arv Z h0 a2 k5 .byte (1 : Int32) [(.int p6)] o0) (hc_2 : ¬ (p4 = p6)) :
    Met l Z [] MY13 jdk_43_method_13_code 3 (some .boolean) ({ frames := 0, cells := 0, slots := 0, locals := 0 } : Room) #[(.ref a1), (.ref a2)] h0 (Q19_equals Z a1 a2 k3 p4 k5 p6 h0 n0) := by
  have W := @own_W _ _ hw
  refine own_mk (plainFor_of_name pn_116) ?_
  intro p e s m below meth c s₁ hZ hx hby hml hown hnm hret hlk X0 e0
  have N0 := Fr.nil n0
  obtain ⟨c1, A1, q1, S1, N1, H1, G1⟩ := id F_0
  obtain ⟨c2, A2, q2, S2, N2, H2, G2⟩ := id F_1
  obtain ⟨c3, A3, q3, S3, N3, H3, G3⟩ := id F_0
  obtain ⟨c4, A4, q4, S4, N4, H4, G4⟩ := id F_0
  have i5 : ¬ ((0 : Int32) < 0 ∨ c4.slots.size ≤ ((0 : Int32)).toNatClampNeg) := inb_of S4 ⟨by decide, by decide⟩
  obtain ⟨c6, A6, q6, S6, N6, H6, G6⟩ := id F_1
  have i7 : ¬ ((0 : Int32) < 0 ∨ c6.slots.size ≤ ((0 : Int32)).toNatClampNeg) := inb_of S6 ⟨by decide, by decide⟩
  refine ⟨s₁, some o0, _, _, _, X0, by decide, by decide, nofun, ?_, fun fs hr => castTop (ef_271 m a1 a2) ?_⟩
  · show Q19_equals Z a1 a2 k3 p4 k5 p6 h0 n0 _ s₁.heap _
    rw [e0]
    exact ⟨rfl, N0, rfl⟩
  · show SS p e below s₁ m 0 #[rv a1, rv a2, .unset] [] _
    refine XS.aloadN X0.here hx rfl (hb hby d_258) rfl rfl ?_
    refine X0.arraylength hx (by rw [e0]; exact A1.1) (State.isArrayOf_alike hZ.alike A1.2.1) (g := (mkF m 1 #[rv a1, rv a2, .unset] [(.ref a1)])) rfl rfl (hb hby d_259) _ ?_
    rw [len_of S1 N1]
    refine XS.aloadN X0.here hx rfl (hb hby d_260) rfl rfl ?_
    refine X0.arraylength hx (by rw [e0]; exact A2.1) (State.isArrayOf_alike hZ.alike A2.2.1) (g := (mkF m 3 #[rv a1, rv a2, .unset] [(.ref a2), (.int (1 : Int32))])) rfl rfl (hb hby d_261) _ ?_
    rw [len_of S2 N2]
    refine XS.icmpNo X0.here hx rfl (hb hby d_262) rfl (teq (by decide : (1 : Int32) = (1 : Int32))).2 ?_
    refine XS.iconst X0.here hx rfl (hb hby d_263) ?_
    refine XS.istoreN X0.here hx rfl (hb hby d_264) rfl (l' := #[rv a1, rv a2, .val o0]) rfl ?_
    refine XS.iloadN X0.here hx rfl (hb hby d_265) rfl ?_
    refine XS.aloadN X0.here hx rfl (hb hby d_266) rfl rfl ?_
    refine X0.arraylength hx (by rw [e0]; exact A3.1) (State.isArrayOf_alike hZ.alike A3.2.1) (g := (mkF m 11 #[rv a1, rv a2, .val o0] [(.ref a1), o0])) rfl rfl (hb hby d_267) _ ?_
    rw [len_of S3 N3]
    show SS p e below s₁ m 12 #[rv a1, rv a2, .val o0] [(.int (1 : Int32)), o0] _
    refine XS.icmpNo X0.here hx rfl (hb hby d_268) rfl (tlt (by decide : (0 : Int32) < (1 : Int32))).2.1 ?_
    refine XS.aloadN X0.here hx rfl (hb hby d_280) rfl rfl ?_
    refine XS.iloadN X0.here hx rfl (hb hby d_281) rfl ?_
    refine X0.baloadBytes hx (j := (0 : Int32)) (v := (.int p4)) (by rw [e0]; exact A4.1) (State.isArrayOf_alike hZ.alike A4.2.1) A4.2.2 i5 (H4.at i5 rfl) (g := (mkF m 17 #[rv a1, rv a2, .val o0] [o0, (.ref a1)])) rfl rfl (hb hby d_282) _ ?_
    refine XS.aloadN X0.here hx rfl (hb hby d_283) rfl rfl ?_
    refine XS.iloadN X0.here hx rfl (hb hby d_284) rfl ?_
    refine X0.baloadBytes hx (j := (0 : Int32)) (v := (.int p6)) (by rw [e0]; exact A6.1) (State.isArrayOf_alike hZ.alike A6.2.1) A6.2.2 i7 (H6.at i7 rfl) (g := (mkF m 20 #[rv a1, rv a2, .val o0] [o0, (.ref a2), (.int p4)])) rfl rfl (hb hby d_285) _ ?_
    refine XS.icmpNo X0.here hx rfl (hb hby d_286) rfl (feq hc_2).1 ?_
    refine XS.iconst X0.here hx rfl (hb hby d_289) ?_
    exact retN X0 hx (t := .boolean) hret (by simp) (hb hby d_290) hr
def Q20_equals (Z : State) (a1 : Addr) (a2 : Addr) (k3 : ClassId) (p4 : Int32) (k5 : ClassId) (p6 : Int32) (p7 : Int32) (h0 : Heap) (n0 : Nat) (v : Option Value) (h : Heap) (L : List Loc) : Prop := v = some o0 ∧ Fr n0 L ∧ h = h0
theorem rm20_equals (l : Launch) (Z : State) (a0 : Array Value) (hw : HW Z a0) (a1 : Addr) (a2 : Addr) (k3 : ClassId) (p4 : Int32) (k5 : ClassId) (p6 : Int32) (p7 : Int32) (h0 : Heap) (n0 : Nat) (O0 : Old Z n0 h0) (F_0 : Arv Z h0 a1 k3 .byte (1 : Int32) [(.int p4)] o0) (F_1 : Arv Z h0 a2 k5 .byte (2 : Int32) [(.int p6), (.int p7)] o0) :
    Met l Z [] MY13 jdk_43_method_13_code 3 (some .boolean) ({ frames := 0, cells := 0, slots := 0, locals := 0 } : Room) #[(.ref a1), (.ref a2)] h0 (Q20_equals Z a1 a2 k3 p4 k5 p6 p7 h0 n0) := by
  have W := @own_W _ _ hw
  refine own_mk (plainFor_of_name pn_116) ?_
  intro p e s m below meth c s₁ hZ hx hby hml hown hnm hret hlk X0 e0
  have N0 := Fr.nil n0
  obtain ⟨c1, A1, q1, S1, N1, H1, G1⟩ := id F_0
  obtain ⟨c2, A2, q2, S2, N2, H2, G2⟩ := id F_1
  refine ⟨s₁, some o0, _, _, _, X0, by decide, by decide, nofun, ?_, fun fs hr => castTop (ef_271 m a1 a2) ?_⟩
  · show Q20_equals Z a1 a2 k3 p4 k5 p6 p7 h0 n0 _ s₁.heap _
    rw [e0]
    exact ⟨rfl, N0, rfl⟩
  · show SS p e below s₁ m 0 #[rv a1, rv a2, .unset] [] _
    refine XS.aloadN X0.here hx rfl (hb hby d_258) rfl rfl ?_
    refine X0.arraylength hx (by rw [e0]; exact A1.1) (State.isArrayOf_alike hZ.alike A1.2.1) (g := (mkF m 1 #[rv a1, rv a2, .unset] [(.ref a1)])) rfl rfl (hb hby d_259) _ ?_
    rw [len_of S1 N1]
    refine XS.aloadN X0.here hx rfl (hb hby d_260) rfl rfl ?_
    refine X0.arraylength hx (by rw [e0]; exact A2.1) (State.isArrayOf_alike hZ.alike A2.2.1) (g := (mkF m 3 #[rv a1, rv a2, .unset] [(.ref a2), (.int (1 : Int32))])) rfl rfl (hb hby d_261) _ ?_
    rw [len_of S2 N2]
    refine XS.icmpYes X0.here hx rfl (pc0 := 4) (pc' := 34) rfl (hb hby d_262) rfl (feq (by decide : ¬ ((1 : Int32) = (2 : Int32)))).2 (by decide) (by decide) ?_
    refine XS.iconst X0.here hx rfl (hb hby d_277) ?_
    exact retN X0 hx (t := .boolean) hret (by simp) (hb hby d_278) hr
def Q21_equals (Z : State) (a1 : Addr) (a2 : Addr) (k3 : ClassId) (p4 : Int32) (p5 : Int32) (k6 : ClassId) (h0 : Heap) (n0 : Nat) (v : Option Value) (h : Heap) (L : List Loc) : Prop := v = some o0 ∧ Fr n0 L ∧ h = h0
theorem rm21_equals (l : Launch) (Z : State) (a0 : Array Value) (hw : HW Z a0) (a1 : Addr) (a2 : Addr) (k3 : ClassId) (p4 : Int32) (p5 : Int32) (k6 : ClassId) (h0 : Heap) (n0 : Nat) (O0 : Old Z n0 h0) (F_0 : Arv Z h0 a1 k3 .byte (2 : Int32) [(.int p4), (.int p5)] o0) (F_1 : Arv Z h0 a2 k6 .byte (0 : Int32) [] o0) :
    Met l Z [] MY13 jdk_43_method_13_code 3 (some .boolean) ({ frames := 0, cells := 0, slots := 0, locals := 0 } : Room) #[(.ref a1), (.ref a2)] h0 (Q21_equals Z a1 a2 k3 p4 p5 k6 h0 n0) := by
  have W := @own_W _ _ hw
  refine own_mk (plainFor_of_name pn_116) ?_
  intro p e s m below meth c s₁ hZ hx hby hml hown hnm hret hlk X0 e0
  have N0 := Fr.nil n0
  obtain ⟨c1, A1, q1, S1, N1, H1, G1⟩ := id F_0
  obtain ⟨c2, A2, q2, S2, N2, H2, G2⟩ := id F_1
  refine ⟨s₁, some o0, _, _, _, X0, by decide, by decide, nofun, ?_, fun fs hr => castTop (ef_271 m a1 a2) ?_⟩
  · show Q21_equals Z a1 a2 k3 p4 p5 k6 h0 n0 _ s₁.heap _
    rw [e0]
    exact ⟨rfl, N0, rfl⟩
  · show SS p e below s₁ m 0 #[rv a1, rv a2, .unset] [] _
    refine XS.aloadN X0.here hx rfl (hb hby d_258) rfl rfl ?_
    refine X0.arraylength hx (by rw [e0]; exact A1.1) (State.isArrayOf_alike hZ.alike A1.2.1) (g := (mkF m 1 #[rv a1, rv a2, .unset] [(.ref a1)])) rfl rfl (hb hby d_259) _ ?_
    rw [len_of S1 N1]
    refine XS.aloadN X0.here hx rfl (hb hby d_260) rfl rfl ?_
    refine X0.arraylength hx (by rw [e0]; exact A2.1) (State.isArrayOf_alike hZ.alike A2.2.1) (g := (mkF m 3 #[rv a1, rv a2, .unset] [(.ref a2), (.int (2 : Int32))])) rfl rfl (hb hby d_261) _ ?_
    rw [len_of S2 N2]
    refine XS.icmpYes X0.here hx rfl (pc0 := 4) (pc' := 34) rfl (hb hby d_262) rfl (feq (by decide : ¬ ((2 : Int32) = (0 : Int32)))).2 (by decide) (by decide) ?_
    refine XS.iconst X0.here hx rfl (hb hby d_277) ?_
    exact retN X0 hx (t := .boolean) hret (by simp) (hb hby d_278) hr
def Q22_equals (Z : State) (a1 : Addr) (a2 : Addr) (k3 : ClassId) (p4 : Int32) (p5 : Int32) (k6 : ClassId) (p7 : Int32) (h0 : Heap) (n0 : Nat) (v : Option Value) (h : Heap) (L : List Loc) : Prop := v = some o0 ∧ Fr n0 L ∧ h = h0
theorem rm22_equals (l : Launch) (Z : State) (a0 : Array Value) (hw : HW Z a0) (a1 : Addr) (a2 : Addr) (k3 : ClassId) (p4 : Int32) (p5 : Int32) (k6 : ClassId) (p7 : Int32) (h0 : Heap) (n0 : Nat) (O0 : Old Z n0 h0) (F_0 : Arv Z h0 a1 k3 .byte (2 : Int32) [(.int p4), (.int p5)] o0) (F_1 : Arv Z h0 a2 k6 .byte (1 : Int32) [(.int p7)] o0) :
    Met l Z [] MY13 jdk_43_method_13_code 3 (some .boolean) ({ frames := 0, cells := 0, slots := 0, locals := 0 } : Room) #[(.ref a1), (.ref a2)] h0 (Q22_equals Z a1 a2 k3 p4 p5 k6 p7 h0 n0) := by
  have W := @own_W _ _ hw
  refine own_mk (plainFor_of_name pn_116) ?_
  intro p e s m below meth c s₁ hZ hx hby hml hown hnm hret hlk X0 e0
  have N0 := Fr.nil n0
  obtain ⟨c1, A1, q1, S1, N1, H1, G1⟩ := id F_0
  obtain ⟨c2, A2, q2, S2, N2, H2, G2⟩ := id F_1
  refine ⟨s₁, some o0, _, _, _, X0, by decide, by decide, nofun, ?_, fun fs hr => castTop (ef_271 m a1 a2) ?_⟩
  · show Q22_equals Z a1 a2 k3 p4 p5 k6 p7 h0 n0 _ s₁.heap _
    rw [e0]
    exact ⟨rfl, N0, rfl⟩
  · show SS p e below s₁ m 0 #[rv a1, rv a2, .unset] [] _
    refine XS.aloadN X0.here hx rfl (hb hby d_258) rfl rfl ?_
    refine X0.arraylength hx (by rw [e0]; exact A1.1) (State.isArrayOf_alike hZ.alike A1.2.1) (g := (mkF m 1 #[rv a1, rv a2, .unset] [(.ref a1)])) rfl rfl (hb hby d_259) _ ?_
    rw [len_of S1 N1]
    refine XS.aloadN X0.here hx rfl (hb hby d_260) rfl rfl ?_
    refine X0.arraylength hx (by rw [e0]; exact A2.1) (State.isArrayOf_alike hZ.alike A2.2.1) (g := (mkF m 3 #[rv a1, rv a2, .unset] [(.ref a2), (.int (2 : Int32))])) rfl rfl (hb hby d_261) _ ?_
    rw [len_of S2 N2]
    refine XS.icmpYes X0.here hx rfl (pc0 := 4) (pc' := 34) rfl (hb hby d_262) rfl (feq (by decide : ¬ ((2 : Int32) = (1 : Int32)))).2 (by decide) (by decide) ?_
    refine XS.iconst X0.here hx rfl (hb hby d_277) ?_
    exact retN X0 hx (t := .boolean) hret (by simp) (hb hby d_278) hr
def Q23_equals (Z : State) (a1 : Addr) (a2 : Addr) (k3 : ClassId) (p4 : Int32) (p5 : Int32) (k6 : ClassId) (p7 : Int32) (p8 : Int32) (h0 : Heap) (n0 : Nat) (v : Option Value) (h : Heap) (L : List Loc) : Prop := v = some (.int (1 : Int32)) ∧ Fr n0 L ∧ h = h0
theorem rm23_equals (l : Launch) (Z : State) (a0 : Array Value) (hw : HW Z a0) (a1 : Addr) (a2 : Addr) (k3 : ClassId) (p4 : Int32) (p5 : Int32) (k6 : ClassId) (p7 : Int32) (p8 : Int32) (h0 : Heap) (n0 : Nat) (O0 : Old Z n0 h0) (F_0 : Arv Z h0 a1 k3 .byte (2 : Int32) [(.int p4), (.int p5)] o0) (F_1 : Arv Z h0 a2 k6 .byte (2 : Int32) [(.int p7), (.int p8)] o0) (hc_2 : p4 = p7) (hc_3 : p5 = p8) :
    Met l Z [] MY13 jdk_43_method_13_code 3 (some .boolean) ({ frames := 0, cells := 0, slots := 0, locals := 0 } : Room) #[(.ref a1), (.ref a2)] h0 (Q23_equals Z a1 a2 k3 p4 p5 k6 p7 p8 h0 n0) := by
  have W := @own_W _ _ hw
  refine own_mk (plainFor_of_name pn_116) ?_
  intro p e s m below meth c s₁ hZ hx hby hml hown hnm hret hlk X0 e0
  have N0 := Fr.nil n0
  obtain ⟨c1, A1, q1, S1, N1, H1, G1⟩ := id F_0
  obtain ⟨c2, A2, q2, S2, N2, H2, G2⟩ := id F_1
  obtain ⟨c3, A3, q3, S3, N3, H3, G3⟩ := id F_0
  obtain ⟨c4, A4, q4, S4, N4, H4, G4⟩ := id F_0
  have i5 : ¬ ((0 : Int32) < 0 ∨ c4.slots.size ≤ ((0 : Int32)).toNatClampNeg) := inb_of S4 ⟨by decide, by decide⟩
  obtain ⟨c6, A6, q6, S6, N6, H6, G6⟩ := id F_1
  have i7 : ¬ ((0 : Int32) < 0 ∨ c6.slots.size ≤ ((0 : Int32)).toNatClampNeg) := inb_of S6 ⟨by decide, by decide⟩
  obtain ⟨c8, A8, q8, S8, N8, H8, G8⟩ := id F_0
  obtain ⟨c9, A9, q9, S9, N9, H9, G9⟩ := id F_0
  have i10 : ¬ ((1 : Int32) < 0 ∨ c9.slots.size ≤ ((1 : Int32)).toNatClampNeg) := inb_of S9 ⟨by decide, by decide⟩
  obtain ⟨c11, A11, q11, S11, N11, H11, G11⟩ := id F_1
  have i12 : ¬ ((1 : Int32) < 0 ∨ c11.slots.size ≤ ((1 : Int32)).toNatClampNeg) := inb_of S11 ⟨by decide, by decide⟩
  obtain ⟨c13, A13, q13, S13, N13, H13, G13⟩ := id F_0
  refine ⟨s₁, some (.int (1 : Int32)), _, _, _, X0, by decide, by decide, nofun, ?_, fun fs hr => castTop (ef_271 m a1 a2) ?_⟩
  · show Q23_equals Z a1 a2 k3 p4 p5 k6 p7 p8 h0 n0 _ s₁.heap _
    rw [e0]
    exact ⟨rfl, N0, rfl⟩
  · show SS p e below s₁ m 0 #[rv a1, rv a2, .unset] [] _
    refine XS.aloadN X0.here hx rfl (hb hby d_258) rfl rfl ?_
    refine X0.arraylength hx (by rw [e0]; exact A1.1) (State.isArrayOf_alike hZ.alike A1.2.1) (g := (mkF m 1 #[rv a1, rv a2, .unset] [(.ref a1)])) rfl rfl (hb hby d_259) _ ?_
    rw [len_of S1 N1]
    refine XS.aloadN X0.here hx rfl (hb hby d_260) rfl rfl ?_
    refine X0.arraylength hx (by rw [e0]; exact A2.1) (State.isArrayOf_alike hZ.alike A2.2.1) (g := (mkF m 3 #[rv a1, rv a2, .unset] [(.ref a2), (.int (2 : Int32))])) rfl rfl (hb hby d_261) _ ?_
    rw [len_of S2 N2]
    refine XS.icmpNo X0.here hx rfl (hb hby d_262) rfl (teq (by decide : (2 : Int32) = (2 : Int32))).2 ?_
    refine XS.iconst X0.here hx rfl (hb hby d_263) ?_
    refine XS.istoreN X0.here hx rfl (hb hby d_264) rfl (l' := #[rv a1, rv a2, .val o0]) rfl ?_
    refine XS.iloadN X0.here hx rfl (hb hby d_265) rfl ?_
    refine XS.aloadN X0.here hx rfl (hb hby d_266) rfl rfl ?_
    refine X0.arraylength hx (by rw [e0]; exact A3.1) (State.isArrayOf_alike hZ.alike A3.2.1) (g := (mkF m 11 #[rv a1, rv a2, .val o0] [(.ref a1), o0])) rfl rfl (hb hby d_267) _ ?_
    rw [len_of S3 N3]
    show SS p e below s₁ m 12 #[rv a1, rv a2, .val o0] [(.int (2 : Int32)), o0] _
    refine XS.icmpNo X0.here hx rfl (hb hby d_268) rfl (tlt (by decide : (0 : Int32) < (2 : Int32))).2.1 ?_
    refine XS.aloadN X0.here hx rfl (hb hby d_280) rfl rfl ?_
    refine XS.iloadN X0.here hx rfl (hb hby d_281) rfl ?_
    refine X0.baloadBytes hx (j := (0 : Int32)) (v := (.int p4)) (by rw [e0]; exact A4.1) (State.isArrayOf_alike hZ.alike A4.2.1) A4.2.2 i5 (H4.at i5 rfl) (g := (mkF m 17 #[rv a1, rv a2, .val o0] [o0, (.ref a1)])) rfl rfl (hb hby d_282) _ ?_
    refine XS.aloadN X0.here hx rfl (hb hby d_283) rfl rfl ?_
    refine XS.iloadN X0.here hx rfl (hb hby d_284) rfl ?_
    refine X0.baloadBytes hx (j := (0 : Int32)) (v := (.int p7)) (by rw [e0]; exact A6.1) (State.isArrayOf_alike hZ.alike A6.2.1) A6.2.2 i7 (H6.at i7 rfl) (g := (mkF m 20 #[rv a1, rv a2, .val o0] [o0, (.ref a2), (.int p4)])) rfl rfl (hb hby d_285) _ ?_
    refine XS.icmpYes X0.here hx rfl (pc0 := 21) (pc' := 26) rfl (hb hby d_286) rfl (teq hc_2).1 (by decide) (by decide) ?_
    refine XS.iinc X0.here hx rfl (hb hby d_287) rfl (l' := #[rv a1, rv a2, iv (1 : Int32)]) rfl ?_
    show SS p e below s₁ m 29 #[rv a1, rv a2, iv (1 : Int32)] [] _
    refine XS.goto X0.here hx rfl (pc0 := 29) (pc' := 9) rfl (hb hby d_288) (by decide) (by decide) ?_
    refine XS.iloadN X0.here hx rfl (hb hby d_265) rfl ?_
    refine XS.aloadN X0.here hx rfl (hb hby d_266) rfl rfl ?_
    refine X0.arraylength hx (by rw [e0]; exact A8.1) (State.isArrayOf_alike hZ.alike A8.2.1) (g := (mkF m 11 #[rv a1, rv a2, iv (1 : Int32)] [(.ref a1), (.int (1 : Int32))])) rfl rfl (hb hby d_267) _ ?_
    rw [len_of S8 N8]
    refine XS.icmpNo X0.here hx rfl (hb hby d_268) rfl (tlt (by decide : (1 : Int32) < (2 : Int32))).2.1 ?_
    refine XS.aloadN X0.here hx rfl (hb hby d_280) rfl rfl ?_
    refine XS.iloadN X0.here hx rfl (hb hby d_281) rfl ?_
    refine X0.baloadBytes hx (j := (1 : Int32)) (v := (.int p5)) (by rw [e0]; exact A9.1) (State.isArrayOf_alike hZ.alike A9.2.1) A9.2.2 i10 (H9.at i10 rfl) (g := (mkF m 17 #[rv a1, rv a2, iv (1 : Int32)] [(.int (1 : Int32)), (.ref a1)])) rfl rfl (hb hby d_282) _ ?_
    refine XS.aloadN X0.here hx rfl (hb hby d_283) rfl rfl ?_
    refine XS.iloadN X0.here hx rfl (hb hby d_284) rfl ?_
    show SS p e below s₁ m 20 #[rv a1, rv a2, iv (1 : Int32)] [(.int (1 : Int32)), (.ref a2), (.int p5)] _
    refine X0.baloadBytes hx (j := (1 : Int32)) (v := (.int p8)) (by rw [e0]; exact A11.1) (State.isArrayOf_alike hZ.alike A11.2.1) A11.2.2 i12 (H11.at i12 rfl) (g := (mkF m 20 #[rv a1, rv a2, iv (1 : Int32)] [(.int (1 : Int32)), (.ref a2), (.int p5)])) rfl rfl (hb hby d_285) _ ?_
    refine XS.icmpYes X0.here hx rfl (pc0 := 21) (pc' := 26) rfl (hb hby d_286) rfl (teq hc_3).1 (by decide) (by decide) ?_
    refine XS.iinc X0.here hx rfl (hb hby d_287) rfl (l' := #[rv a1, rv a2, iv (2 : Int32)]) rfl ?_
    show SS p e below s₁ m 29 #[rv a1, rv a2, iv (2 : Int32)] [] _
    refine XS.goto X0.here hx rfl (pc0 := 29) (pc' := 9) rfl (hb hby d_288) (by decide) (by decide) ?_
    refine XS.iloadN X0.here hx rfl (hb hby d_265) rfl ?_
    refine XS.aloadN X0.here hx rfl (hb hby d_266) rfl rfl ?_
    refine X0.arraylength hx (by rw [e0]; exact A13.1) (State.isArrayOf_alike hZ.alike A13.2.1) (g := (mkF m 11 #[rv a1, rv a2, iv (2 : Int32)] [(.ref a1), (.int (2 : Int32))])) rfl rfl (hb hby d_267) _ ?_
    rw [len_of S13 N13]
    refine XS.icmpYes X0.here hx rfl (pc0 := 12) (pc' := 32) rfl (hb hby d_268) rfl (flt (by decide : ¬ ((2 : Int32) < (2 : Int32)))).2.1 (by decide) (by decide) ?_
    refine XS.iconst X0.here hx rfl (hb hby d_269) ?_
    exact retN X0 hx (t := .boolean) hret (by simp) (hb hby d_270) hr
def Q24_equals (Z : State) (a1 : Addr) (a2 : Addr) (k3 : ClassId) (p4 : Int32) (p5 : Int32) (k6 : ClassId) (p7 : Int32) (p8 : Int32) (h0 : Heap) (n0 : Nat) (v : Option Value) (h : Heap) (L : List Loc) : Prop := v = some o0 ∧ Fr n0 L ∧ h = h0
theorem rm24_equals (l : Launch) (Z : State) (a0 : Array Value) (hw : HW Z a0) (a1 : Addr) (a2 : Addr) (k3 : ClassId) (p4 : Int32) (p5 : Int32) (k6 : ClassId) (p7 : Int32) (p8 : Int32) (h0 : Heap) (n0 : Nat) (O0 : Old Z n0 h0) (F_0 : Arv Z h0 a1 k3 .byte (2 : Int32) [(.int p4), (.int p5)] o0) (F_1 : Arv Z h0 a2 k6 .byte (2 : Int32) [(.int p7), (.int p8)] o0) (hc_2 : p4 = p7) (hc_3 : ¬ (p5 = p8)) :
    Met l Z [] MY13 jdk_43_method_13_code 3 (some .boolean) ({ frames := 0, cells := 0, slots := 0, locals := 0 } : Room) #[(.ref a1), (.ref a2)] h0 (Q24_equals Z a1 a2 k3 p4 p5 k6 p7 p8 h0 n0) := by
  have W := @own_W _ _ hw
  refine own_mk (plainFor_of_name pn_116) ?_
  intro p e s m below meth c s₁ hZ hx hby hml hown hnm hret hlk X0 e0
  have N0 := Fr.nil n0
  obtain ⟨c1, A1, q1, S1, N1, H1, G1⟩ := id F_0
  obtain ⟨c2, A2, q2, S2, N2, H2, G2⟩ := id F_1
  obtain ⟨c3, A3, q3, S3, N3, H3, G3⟩ := id F_0
  obtain ⟨c4, A4, q4, S4, N4, H4, G4⟩ := id F_0
  have i5 : ¬ ((0 : Int32) < 0 ∨ c4.slots.size ≤ ((0 : Int32)).toNatClampNeg) := inb_of S4 ⟨by decide, by decide⟩
  obtain ⟨c6, A6, q6, S6, N6, H6, G6⟩ := id F_1
  have i7 : ¬ ((0 : Int32) < 0 ∨ c6.slots.size ≤ ((0 : Int32)).toNatClampNeg) := inb_of S6 ⟨by decide, by decide⟩
  obtain ⟨c8, A8, q8, S8, N8, H8, G8⟩ := id F_0
  obtain ⟨c9, A9, q9, S9, N9, H9, G9⟩ := id F_0
  have i10 : ¬ ((1 : Int32) < 0 ∨ c9.slots.size ≤ ((1 : Int32)).toNatClampNeg) := inb_of S9 ⟨by decide, by decide⟩
  obtain ⟨c11, A11, q11, S11, N11, H11, G11⟩ := id F_1
  have i12 : ¬ ((1 : Int32) < 0 ∨ c11.slots.size ≤ ((1 : Int32)).toNatClampNeg) := inb_of S11 ⟨by decide, by decide⟩
  refine ⟨s₁, some o0, _, _, _, X0, by decide, by decide, nofun, ?_, fun fs hr => castTop (ef_271 m a1 a2) ?_⟩
  · show Q24_equals Z a1 a2 k3 p4 p5 k6 p7 p8 h0 n0 _ s₁.heap _
    rw [e0]
    exact ⟨rfl, N0, rfl⟩
  · show SS p e below s₁ m 0 #[rv a1, rv a2, .unset] [] _
    refine XS.aloadN X0.here hx rfl (hb hby d_258) rfl rfl ?_
    refine X0.arraylength hx (by rw [e0]; exact A1.1) (State.isArrayOf_alike hZ.alike A1.2.1) (g := (mkF m 1 #[rv a1, rv a2, .unset] [(.ref a1)])) rfl rfl (hb hby d_259) _ ?_
    rw [len_of S1 N1]
    refine XS.aloadN X0.here hx rfl (hb hby d_260) rfl rfl ?_
    refine X0.arraylength hx (by rw [e0]; exact A2.1) (State.isArrayOf_alike hZ.alike A2.2.1) (g := (mkF m 3 #[rv a1, rv a2, .unset] [(.ref a2), (.int (2 : Int32))])) rfl rfl (hb hby d_261) _ ?_
    rw [len_of S2 N2]
    refine XS.icmpNo X0.here hx rfl (hb hby d_262) rfl (teq (by decide : (2 : Int32) = (2 : Int32))).2 ?_
    refine XS.iconst X0.here hx rfl (hb hby d_263) ?_
    refine XS.istoreN X0.here hx rfl (hb hby d_264) rfl (l' := #[rv a1, rv a2, .val o0]) rfl ?_
    refine XS.iloadN X0.here hx rfl (hb hby d_265) rfl ?_
    refine XS.aloadN X0.here hx rfl (hb hby d_266) rfl rfl ?_
    refine X0.arraylength hx (by rw [e0]; exact A3.1) (State.isArrayOf_alike hZ.alike A3.2.1) (g := (mkF m 11 #[rv a1, rv a2, .val o0] [(.ref a1), o0])) rfl rfl (hb hby d_267) _ ?_
    rw [len_of S3 N3]
    show SS p e below s₁ m 12 #[rv a1, rv a2, .val o0] [(.int (2 : Int32)), o0] _
    refine XS.icmpNo X0.here hx rfl (hb hby d_268) rfl (tlt (by decide : (0 : Int32) < (2 : Int32))).2.1 ?_
    refine XS.aloadN X0.here hx rfl (hb hby d_280) rfl rfl ?_
    refine XS.iloadN X0.here hx rfl (hb hby d_281) rfl ?_
    refine X0.baloadBytes hx (j := (0 : Int32)) (v := (.int p4)) (by rw [e0]; exact A4.1) (State.isArrayOf_alike hZ.alike A4.2.1) A4.2.2 i5 (H4.at i5 rfl) (g := (mkF m 17 #[rv a1, rv a2, .val o0] [o0, (.ref a1)])) rfl rfl (hb hby d_282) _ ?_
    refine XS.aloadN X0.here hx rfl (hb hby d_283) rfl rfl ?_
    refine XS.iloadN X0.here hx rfl (hb hby d_284) rfl ?_
    refine X0.baloadBytes hx (j := (0 : Int32)) (v := (.int p7)) (by rw [e0]; exact A6.1) (State.isArrayOf_alike hZ.alike A6.2.1) A6.2.2 i7 (H6.at i7 rfl) (g := (mkF m 20 #[rv a1, rv a2, .val o0] [o0, (.ref a2), (.int p4)])) rfl rfl (hb hby d_285) _ ?_
    refine XS.icmpYes X0.here hx rfl (pc0 := 21) (pc' := 26) rfl (hb hby d_286) rfl (teq hc_2).1 (by decide) (by decide) ?_
    refine XS.iinc X0.here hx rfl (hb hby d_287) rfl (l' := #[rv a1, rv a2, iv (1 : Int32)]) rfl ?_
    show SS p e below s₁ m 29 #[rv a1, rv a2, iv (1 : Int32)] [] _
    refine XS.goto X0.here hx rfl (pc0 := 29) (pc' := 9) rfl (hb hby d_288) (by decide) (by decide) ?_
    refine XS.iloadN X0.here hx rfl (hb hby d_265) rfl ?_
    refine XS.aloadN X0.here hx rfl (hb hby d_266) rfl rfl ?_
    refine X0.arraylength hx (by rw [e0]; exact A8.1) (State.isArrayOf_alike hZ.alike A8.2.1) (g := (mkF m 11 #[rv a1, rv a2, iv (1 : Int32)] [(.ref a1), (.int (1 : Int32))])) rfl rfl (hb hby d_267) _ ?_
    rw [len_of S8 N8]
    refine XS.icmpNo X0.here hx rfl (hb hby d_268) rfl (tlt (by decide : (1 : Int32) < (2 : Int32))).2.1 ?_
    refine XS.aloadN X0.here hx rfl (hb hby d_280) rfl rfl ?_
    refine XS.iloadN X0.here hx rfl (hb hby d_281) rfl ?_
    refine X0.baloadBytes hx (j := (1 : Int32)) (v := (.int p5)) (by rw [e0]; exact A9.1) (State.isArrayOf_alike hZ.alike A9.2.1) A9.2.2 i10 (H9.at i10 rfl) (g := (mkF m 17 #[rv a1, rv a2, iv (1 : Int32)] [(.int (1 : Int32)), (.ref a1)])) rfl rfl (hb hby d_282) _ ?_
    refine XS.aloadN X0.here hx rfl (hb hby d_283) rfl rfl ?_
    refine XS.iloadN X0.here hx rfl (hb hby d_284) rfl ?_
    show SS p e below s₁ m 20 #[rv a1, rv a2, iv (1 : Int32)] [(.int (1 : Int32)), (.ref a2), (.int p5)] _
    refine X0.baloadBytes hx (j := (1 : Int32)) (v := (.int p8)) (by rw [e0]; exact A11.1) (State.isArrayOf_alike hZ.alike A11.2.1) A11.2.2 i12 (H11.at i12 rfl) (g := (mkF m 20 #[rv a1, rv a2, iv (1 : Int32)] [(.int (1 : Int32)), (.ref a2), (.int p5)])) rfl rfl (hb hby d_285) _ ?_
    refine XS.icmpNo X0.here hx rfl (hb hby d_286) rfl (feq hc_3).1 ?_
    refine XS.iconst X0.here hx rfl (hb hby d_289) ?_
    exact retN X0 hx (t := .boolean) hret (by simp) (hb hby d_290) hr
def Q25_equals (Z : State) (a1 : Addr) (a2 : Addr) (k3 : ClassId) (p4 : Int32) (p5 : Int32) (k6 : ClassId) (p7 : Int32) (p8 : Int32) (h0 : Heap) (n0 : Nat) (v : Option Value) (h : Heap) (L : List Loc) : Prop := v = some o0 ∧ Fr n0 L ∧ h = h0
theorem rm25_equals (l : Launch) (Z : State) (a0 : Array Value) (hw : HW Z a0) (a1 : Addr) (a2 : Addr) (k3 : ClassId) (p4 : Int32) (p5 : Int32) (k6 : ClassId) (p7 : Int32) (p8 : Int32) (h0 : Heap) (n0 : Nat) (O0 : Old Z n0 h0) (F_0 : Arv Z h0 a1 k3 .byte (2 : Int32) [(.int p4), (.int p5)] o0) (F_1 : Arv Z h0 a2 k6 .byte (2 : Int32) [(.int p7), (.int p8)] o0) (hc_2 : ¬ (p4 = p7)) :
    Met l Z [] MY13 jdk_43_method_13_code 3 (some .boolean) ({ frames := 0, cells := 0, slots := 0, locals := 0 } : Room) #[(.ref a1), (.ref a2)] h0 (Q25_equals Z a1 a2 k3 p4 p5 k6 p7 p8 h0 n0) := by
  have W := @own_W _ _ hw
  refine own_mk (plainFor_of_name pn_116) ?_
  intro p e s m below meth c s₁ hZ hx hby hml hown hnm hret hlk X0 e0
  have N0 := Fr.nil n0
  obtain ⟨c1, A1, q1, S1, N1, H1, G1⟩ := id F_0
  obtain ⟨c2, A2, q2, S2, N2, H2, G2⟩ := id F_1
  obtain ⟨c3, A3, q3, S3, N3, H3, G3⟩ := id F_0
  obtain ⟨c4, A4, q4, S4, N4, H4, G4⟩ := id F_0
  have i5 : ¬ ((0 : Int32) < 0 ∨ c4.slots.size ≤ ((0 : Int32)).toNatClampNeg) := inb_of S4 ⟨by decide, by decide⟩
  obtain ⟨c6, A6, q6, S6, N6, H6, G6⟩ := id F_1
  have i7 : ¬ ((0 : Int32) < 0 ∨ c6.slots.size ≤ ((0 : Int32)).toNatClampNeg) := inb_of S6 ⟨by decide, by decide⟩
  refine ⟨s₁, some o0, _, _, _, X0, by decide, by decide, nofun, ?_, fun fs hr => castTop (ef_271 m a1 a2) ?_⟩
  · show Q25_equals Z a1 a2 k3 p4 p5 k6 p7 p8 h0 n0 _ s₁.heap _
    rw [e0]
    exact ⟨rfl, N0, rfl⟩
  · show SS p e below s₁ m 0 #[rv a1, rv a2, .unset] [] _
    refine XS.aloadN X0.here hx rfl (hb hby d_258) rfl rfl ?_
    refine X0.arraylength hx (by rw [e0]; exact A1.1) (State.isArrayOf_alike hZ.alike A1.2.1) (g := (mkF m 1 #[rv a1, rv a2, .unset] [(.ref a1)])) rfl rfl (hb hby d_259) _ ?_
    rw [len_of S1 N1]
    refine XS.aloadN X0.here hx rfl (hb hby d_260) rfl rfl ?_
    refine X0.arraylength hx (by rw [e0]; exact A2.1) (State.isArrayOf_alike hZ.alike A2.2.1) (g := (mkF m 3 #[rv a1, rv a2, .unset] [(.ref a2), (.int (2 : Int32))])) rfl rfl (hb hby d_261) _ ?_
    rw [len_of S2 N2]
    refine XS.icmpNo X0.here hx rfl (hb hby d_262) rfl (teq (by decide : (2 : Int32) = (2 : Int32))).2 ?_
    refine XS.iconst X0.here hx rfl (hb hby d_263) ?_
    refine XS.istoreN X0.here hx rfl (hb hby d_264) rfl (l' := #[rv a1, rv a2, .val o0]) rfl ?_
    refine XS.iloadN X0.here hx rfl (hb hby d_265) rfl ?_
    refine XS.aloadN X0.here hx rfl (hb hby d_266) rfl rfl ?_
    refine X0.arraylength hx (by rw [e0]; exact A3.1) (State.isArrayOf_alike hZ.alike A3.2.1) (g := (mkF m 11 #[rv a1, rv a2, .val o0] [(.ref a1), o0])) rfl rfl (hb hby d_267) _ ?_
    rw [len_of S3 N3]
    show SS p e below s₁ m 12 #[rv a1, rv a2, .val o0] [(.int (2 : Int32)), o0] _
    refine XS.icmpNo X0.here hx rfl (hb hby d_268) rfl (tlt (by decide : (0 : Int32) < (2 : Int32))).2.1 ?_
    refine XS.aloadN X0.here hx rfl (hb hby d_280) rfl rfl ?_
    refine XS.iloadN X0.here hx rfl (hb hby d_281) rfl ?_
    refine X0.baloadBytes hx (j := (0 : Int32)) (v := (.int p4)) (by rw [e0]; exact A4.1) (State.isArrayOf_alike hZ.alike A4.2.1) A4.2.2 i5 (H4.at i5 rfl) (g := (mkF m 17 #[rv a1, rv a2, .val o0] [o0, (.ref a1)])) rfl rfl (hb hby d_282) _ ?_
    refine XS.aloadN X0.here hx rfl (hb hby d_283) rfl rfl ?_
    refine XS.iloadN X0.here hx rfl (hb hby d_284) rfl ?_
    refine X0.baloadBytes hx (j := (0 : Int32)) (v := (.int p7)) (by rw [e0]; exact A6.1) (State.isArrayOf_alike hZ.alike A6.2.1) A6.2.2 i7 (H6.at i7 rfl) (g := (mkF m 20 #[rv a1, rv a2, .val o0] [o0, (.ref a2), (.int p4)])) rfl rfl (hb hby d_285) _ ?_
    refine XS.icmpNo X0.here hx rfl (hb hby d_286) rfl (feq hc_2).1 ?_
    refine XS.iconst X0.here hx rfl (hb hby d_289) ?_
    exact retN X0 hx (t := .boolean) hret (by simp) (hb hby d_290) hr
theorem own_eq_00 (l : Launch) (Z : State) (a0 : Array Value) (hw : HW Z a0) (a1 : Addr) (a2 : Addr) (v1 : Addr) (v2 : Addr) (k1 : ClassId) (k2 : ClassId) (x1 : Int32) (y1 : Int32) (x2 : Int32) (y2 : Int32) (oC : Int32) (h0 : Heap) (n0 : Nat) (O0 : Old Z n0 h0) (E_a1 : EA21 Z h0 a1) (C_a1 : FA17 Z h0 a1 o0) (V_a1 : FA18 Z h0 a1 (.ref v1)) (A_a1 : Arv Z h0 v1 k1 .byte (0 : Int32) [] o0) (E_a2 : EA21 Z h0 a2) (C_a2 : FA17 Z h0 a2 o0) (V_a2 : FA18 Z h0 a2 (.ref v2)) (A_a2 : Arv Z h0 v2 k2 .byte (0 : Int32) [] o0) (ne12 : a1 ≠ a2) (S_oC : SA24 Z Z.heap (.int oC)) (nz_oC : ¬ (oC = (0 : Int32)))  :
    Met l Z [] MY14 jdk_42_method_66_code 3 (some .boolean) ({ frames := 1, cells := 0, slots := 0, locals := 14 } : Room) #[(.ref a1), (.ref a2)] h0 (QI (1 : Int32) h0 n0) := by
  have W := @own_W _ _ hw
  refine own_mk (plainFor_of_name pn_95) ?_
  intro p e s m below meth c s₁ hZ hx hby hml hown hnm hret hlk X0 e0
  have N0 := Fr.nil n0
  obtain ⟨T1, X1, e1, st1⟩ := instY X0 hx hZ hown (W 59 rfl) e0 (Ins.self E_a2) (g := (mkF m 8 #[rv a1, rv a2, .unset] [(.ref a2)])) rfl rfl (hb hby d_241)
  obtain ⟨T2, X2, e2, st2⟩ := castY X1 hx hZ hown (W 59 rfl) e1 (Ins.self E_a2) (g := (mkF m 15 #[rv a1, rv a2, .unset] [(.ref a2)])) rfl rfl (hb hby d_244)
  obtain ⟨T3, X3, e3, st3⟩ := getS2 X2 hx hZ hown (host := "") (Or.inl (W 60 rfl)) Via.refl e2 (S_oC.ext O0.2) (g := (mkF m 19 #[rv a1, rv a2, rv a2] [])) rfl (hb hby d_246)
  obtain ⟨T4, X4, e4, st4⟩ := getF X3 hx hZ hown (host := "") (Or.inl (W 32 rfl)) Via.refl e3 C_a1 (g := (mkF m 26 #[rv a1, rv a2, rv a2] [(.ref a1)])) rfl rfl (hb hby d_249)
  obtain ⟨T5, X5, e5, st5⟩ := getF X4 hx hZ hown (host := "") (Or.inl (W 32 rfl)) Via.refl e4 C_a2 (g := (mkF m 30 #[rv a1, rv a2, rv a2] [(.ref a2), o0])) rfl rfl (hb hby d_251)
  obtain ⟨T6, X6, e6, st6⟩ := getF X5 hx hZ hown (host := "") (Or.inl (W 31 rfl)) Via.refl e5 V_a1 (g := (mkF m 37 #[rv a1, rv a2, rv a2] [(.ref a1)])) rfl rfl (hb hby d_254)
  obtain ⟨T7, X7, e7, st7⟩ := getF X6 hx hZ hown (host := "") (Or.inl (W 31 rfl)) Via.refl e6 V_a2 (g := (mkF m 41 #[rv a1, rv a2, rv a2] [(.ref a2), (.ref v1)])) rfl rfl (hb hby d_256)
  obtain ⟨_, T8, L8, X8, hQ8, st8⟩ := own_cs X7 hx hZ hown hml (W 61 rfl) (W 62 rfl) (W 63 rfl) (W 64 rfl) (rm14_equals l Z a0 hw v1 v2 k1 k2 h0 n0 O0 (A_a1) (A_a2)) e7 (hb hby d_257) 0 #[rv a1, rv a2, rv a2] [(.ref v1), (.ref v2)] [] pd_272
  obtain ⟨rfl, N8q, K8⟩ := hQ8
  have N9 := Fr.app N0 N8q
  refine ⟨T8, some (.int (1 : Int32)), _, _, _, X8, by decide, by decide, nofun, ?_, fun fs hr => castTop (ef_271 m a1 a2) ?_⟩
  · show QI (1 : Int32) h0 n0 _ T8.heap _
    rw [K8]
    exact ⟨rfl, N9, rfl⟩
  · show SS p e below s₁ m 0 #[rv a1, rv a2, .unset] [] _
    refine XS.aloadN X0.here hx rfl (hb hby d_237) rfl rfl ?_
    refine XS.aloadN X0.here hx rfl (hb hby d_238) rfl rfl ?_
    refine Jvm.RoadKit.acmp (g := (mkF m 2 #[rv a1, rv a2, .unset] [(.ref a2), (.ref a1)])) X0 hx rfl rfl rfl (pc0 := 2) (pc' := 7) (same := false) rfl (hb hby d_239) rfl (decide_eq_false fun q => ne12 (Value.ref.inj q)) (by decide) (by decide) ?_
    refine XS.aloadN X0.here hx rfl (hb hby d_240) rfl rfl ?_
    refine st1 _ ?_
    refine XS.ifNo X1.here hx rfl (hb hby d_242) rfl ((if0 _ _).trans (feq (by decide : ¬ ((1 : Int32) = (0 : Int32)))).1) ?_
    refine XS.aloadN X1.here hx rfl (hb hby d_243) rfl rfl ?_
    refine st2 _ ?_
    refine XS.astoreN X2.here hx rfl (hb hby d_245) rfl rfl (l' := #[rv a1, rv a2, rv a2]) rfl ?_
    refine st3 _ ?_
    show SS p e below T3 m 22 #[rv a1, rv a2, rv a2] [(.int oC)] _
    refine XS.ifNo X3.here hx rfl (hb hby d_247) rfl ((if0 _ _).trans (feq nz_oC).1) ?_
    refine XS.aloadN X3.here hx rfl (hb hby d_248) rfl rfl ?_
    refine st4 _ ?_
    refine XS.aloadN X4.here hx rfl (hb hby d_250) rfl rfl ?_
    refine st5 _ ?_
    refine XS.icmpNo X5.here hx rfl (hb hby d_252) rfl (teq (by decide : (0 : Int32) = (0 : Int32))).2 ?_
    refine XS.aloadN X5.here hx rfl (hb hby d_253) rfl rfl ?_
    refine st6 _ ?_
    refine XS.aloadN X6.here hx rfl (hb hby d_255) rfl rfl ?_
    refine st7 _ ?_
    show SS p e below T7 m 44 #[rv a1, rv a2, rv a2] [(.ref v2), (.ref v1)] _
    refine st8 _ ?_
    refine XS.ifNo X8.here hx rfl (hb hby d_273) rfl ((if0 _ _).trans (feq (by decide : ¬ ((1 : Int32) = (0 : Int32)))).1) ?_
    refine XS.iconst X8.here hx rfl (hb hby d_274) ?_
    refine XS.goto X8.here hx rfl (pc0 := 51) (pc' := 55) rfl (hb hby d_275) (by decide) (by decide) ?_
    exact retN X8 hx (t := .boolean) hret (by simp) (hb hby d_276) hr
theorem own_eq_01 (l : Launch) (Z : State) (a0 : Array Value) (hw : HW Z a0) (a1 : Addr) (a2 : Addr) (v1 : Addr) (v2 : Addr) (k1 : ClassId) (k2 : ClassId) (x1 : Int32) (y1 : Int32) (x2 : Int32) (y2 : Int32) (oC : Int32) (h0 : Heap) (n0 : Nat) (O0 : Old Z n0 h0) (E_a1 : EA21 Z h0 a1) (C_a1 : FA17 Z h0 a1 o0) (V_a1 : FA18 Z h0 a1 (.ref v1)) (A_a1 : Arv Z h0 v1 k1 .byte (0 : Int32) [] o0) (E_a2 : EA21 Z h0 a2) (C_a2 : FA17 Z h0 a2 o0) (V_a2 : FA18 Z h0 a2 (.ref v2)) (A_a2 : Arv Z h0 v2 k2 .byte (1 : Int32) [(.int x2)] o0) (ne12 : a1 ≠ a2) (S_oC : SA24 Z Z.heap (.int oC)) (nz_oC : ¬ (oC = (0 : Int32)))  :
    Met l Z [] MY14 jdk_42_method_66_code 3 (some .boolean) ({ frames := 1, cells := 0, slots := 0, locals := 14 } : Room) #[(.ref a1), (.ref a2)] h0 (QI (0 : Int32) h0 n0) := by
  have W := @own_W _ _ hw
  refine own_mk (plainFor_of_name pn_95) ?_
  intro p e s m below meth c s₁ hZ hx hby hml hown hnm hret hlk X0 e0
  have N0 := Fr.nil n0
  obtain ⟨T1, X1, e1, st1⟩ := instY X0 hx hZ hown (W 59 rfl) e0 (Ins.self E_a2) (g := (mkF m 8 #[rv a1, rv a2, .unset] [(.ref a2)])) rfl rfl (hb hby d_241)
  obtain ⟨T2, X2, e2, st2⟩ := castY X1 hx hZ hown (W 59 rfl) e1 (Ins.self E_a2) (g := (mkF m 15 #[rv a1, rv a2, .unset] [(.ref a2)])) rfl rfl (hb hby d_244)
  obtain ⟨T3, X3, e3, st3⟩ := getS2 X2 hx hZ hown (host := "") (Or.inl (W 60 rfl)) Via.refl e2 (S_oC.ext O0.2) (g := (mkF m 19 #[rv a1, rv a2, rv a2] [])) rfl (hb hby d_246)
  obtain ⟨T4, X4, e4, st4⟩ := getF X3 hx hZ hown (host := "") (Or.inl (W 32 rfl)) Via.refl e3 C_a1 (g := (mkF m 26 #[rv a1, rv a2, rv a2] [(.ref a1)])) rfl rfl (hb hby d_249)
  obtain ⟨T5, X5, e5, st5⟩ := getF X4 hx hZ hown (host := "") (Or.inl (W 32 rfl)) Via.refl e4 C_a2 (g := (mkF m 30 #[rv a1, rv a2, rv a2] [(.ref a2), o0])) rfl rfl (hb hby d_251)
  obtain ⟨T6, X6, e6, st6⟩ := getF X5 hx hZ hown (host := "") (Or.inl (W 31 rfl)) Via.refl e5 V_a1 (g := (mkF m 37 #[rv a1, rv a2, rv a2] [(.ref a1)])) rfl rfl (hb hby d_254)
  obtain ⟨T7, X7, e7, st7⟩ := getF X6 hx hZ hown (host := "") (Or.inl (W 31 rfl)) Via.refl e6 V_a2 (g := (mkF m 41 #[rv a1, rv a2, rv a2] [(.ref a2), (.ref v1)])) rfl rfl (hb hby d_256)
  obtain ⟨_, T8, L8, X8, hQ8, st8⟩ := own_cs X7 hx hZ hown hml (W 61 rfl) (W 62 rfl) (W 63 rfl) (W 64 rfl) (rm15_equals l Z a0 hw v1 v2 k1 k2 x2 h0 n0 O0 (A_a1) (A_a2)) e7 (hb hby d_257) 0 #[rv a1, rv a2, rv a2] [(.ref v1), (.ref v2)] [] pd_272
  obtain ⟨rfl, N8q, K8⟩ := hQ8
  have N9 := Fr.app N0 N8q
  refine ⟨T8, some o0, _, _, _, X8, by decide, by decide, nofun, ?_, fun fs hr => castTop (ef_271 m a1 a2) ?_⟩
  · show QI (0 : Int32) h0 n0 _ T8.heap _
    rw [K8]
    exact ⟨rfl, N9, rfl⟩
  · show SS p e below s₁ m 0 #[rv a1, rv a2, .unset] [] _
    refine XS.aloadN X0.here hx rfl (hb hby d_237) rfl rfl ?_
    refine XS.aloadN X0.here hx rfl (hb hby d_238) rfl rfl ?_
    refine Jvm.RoadKit.acmp (g := (mkF m 2 #[rv a1, rv a2, .unset] [(.ref a2), (.ref a1)])) X0 hx rfl rfl rfl (pc0 := 2) (pc' := 7) (same := false) rfl (hb hby d_239) rfl (decide_eq_false fun q => ne12 (Value.ref.inj q)) (by decide) (by decide) ?_
    refine XS.aloadN X0.here hx rfl (hb hby d_240) rfl rfl ?_
    refine st1 _ ?_
    refine XS.ifNo X1.here hx rfl (hb hby d_242) rfl ((if0 _ _).trans (feq (by decide : ¬ ((1 : Int32) = (0 : Int32)))).1) ?_
    refine XS.aloadN X1.here hx rfl (hb hby d_243) rfl rfl ?_
    refine st2 _ ?_
    refine XS.astoreN X2.here hx rfl (hb hby d_245) rfl rfl (l' := #[rv a1, rv a2, rv a2]) rfl ?_
    refine st3 _ ?_
    show SS p e below T3 m 22 #[rv a1, rv a2, rv a2] [(.int oC)] _
    refine XS.ifNo X3.here hx rfl (hb hby d_247) rfl ((if0 _ _).trans (feq nz_oC).1) ?_
    refine XS.aloadN X3.here hx rfl (hb hby d_248) rfl rfl ?_
    refine st4 _ ?_
    refine XS.aloadN X4.here hx rfl (hb hby d_250) rfl rfl ?_
    refine st5 _ ?_
    refine XS.icmpNo X5.here hx rfl (hb hby d_252) rfl (teq (by decide : (0 : Int32) = (0 : Int32))).2 ?_
    refine XS.aloadN X5.here hx rfl (hb hby d_253) rfl rfl ?_
    refine st6 _ ?_
    refine XS.aloadN X6.here hx rfl (hb hby d_255) rfl rfl ?_
    refine st7 _ ?_
    show SS p e below T7 m 44 #[rv a1, rv a2, rv a2] [(.ref v2), (.ref v1)] _
    refine st8 _ ?_
    refine XS.ifYes X8.here hx rfl (pc0 := 47) (pc' := 54) rfl (hb hby d_273) rfl ((if0 _ _).trans (teq (by decide : (0 : Int32) = (0 : Int32))).1) (by decide) (by decide) ?_
    refine XS.iconst X8.here hx rfl (hb hby d_279) ?_
    exact retN X8 hx (t := .boolean) hret (by simp) (hb hby d_276) hr
theorem own_eq_02 (l : Launch) (Z : State) (a0 : Array Value) (hw : HW Z a0) (a1 : Addr) (a2 : Addr) (v1 : Addr) (v2 : Addr) (k1 : ClassId) (k2 : ClassId) (x1 : Int32) (y1 : Int32) (x2 : Int32) (y2 : Int32) (oC : Int32) (h0 : Heap) (n0 : Nat) (O0 : Old Z n0 h0) (E_a1 : EA21 Z h0 a1) (C_a1 : FA17 Z h0 a1 o0) (V_a1 : FA18 Z h0 a1 (.ref v1)) (A_a1 : Arv Z h0 v1 k1 .byte (0 : Int32) [] o0) (E_a2 : EA21 Z h0 a2) (C_a2 : FA17 Z h0 a2 o0) (V_a2 : FA18 Z h0 a2 (.ref v2)) (A_a2 : Arv Z h0 v2 k2 .byte (2 : Int32) [(.int x2), (.int y2)] o0) (ne12 : a1 ≠ a2) (S_oC : SA24 Z Z.heap (.int oC)) (nz_oC : ¬ (oC = (0 : Int32)))  :
    Met l Z [] MY14 jdk_42_method_66_code 3 (some .boolean) ({ frames := 1, cells := 0, slots := 0, locals := 14 } : Room) #[(.ref a1), (.ref a2)] h0 (QI (0 : Int32) h0 n0) := by
  have W := @own_W _ _ hw
  refine own_mk (plainFor_of_name pn_95) ?_
  intro p e s m below meth c s₁ hZ hx hby hml hown hnm hret hlk X0 e0
  have N0 := Fr.nil n0
  obtain ⟨T1, X1, e1, st1⟩ := instY X0 hx hZ hown (W 59 rfl) e0 (Ins.self E_a2) (g := (mkF m 8 #[rv a1, rv a2, .unset] [(.ref a2)])) rfl rfl (hb hby d_241)
  obtain ⟨T2, X2, e2, st2⟩ := castY X1 hx hZ hown (W 59 rfl) e1 (Ins.self E_a2) (g := (mkF m 15 #[rv a1, rv a2, .unset] [(.ref a2)])) rfl rfl (hb hby d_244)
  obtain ⟨T3, X3, e3, st3⟩ := getS2 X2 hx hZ hown (host := "") (Or.inl (W 60 rfl)) Via.refl e2 (S_oC.ext O0.2) (g := (mkF m 19 #[rv a1, rv a2, rv a2] [])) rfl (hb hby d_246)
  obtain ⟨T4, X4, e4, st4⟩ := getF X3 hx hZ hown (host := "") (Or.inl (W 32 rfl)) Via.refl e3 C_a1 (g := (mkF m 26 #[rv a1, rv a2, rv a2] [(.ref a1)])) rfl rfl (hb hby d_249)
  obtain ⟨T5, X5, e5, st5⟩ := getF X4 hx hZ hown (host := "") (Or.inl (W 32 rfl)) Via.refl e4 C_a2 (g := (mkF m 30 #[rv a1, rv a2, rv a2] [(.ref a2), o0])) rfl rfl (hb hby d_251)
  obtain ⟨T6, X6, e6, st6⟩ := getF X5 hx hZ hown (host := "") (Or.inl (W 31 rfl)) Via.refl e5 V_a1 (g := (mkF m 37 #[rv a1, rv a2, rv a2] [(.ref a1)])) rfl rfl (hb hby d_254)
  obtain ⟨T7, X7, e7, st7⟩ := getF X6 hx hZ hown (host := "") (Or.inl (W 31 rfl)) Via.refl e6 V_a2 (g := (mkF m 41 #[rv a1, rv a2, rv a2] [(.ref a2), (.ref v1)])) rfl rfl (hb hby d_256)
  obtain ⟨_, T8, L8, X8, hQ8, st8⟩ := own_cs X7 hx hZ hown hml (W 61 rfl) (W 62 rfl) (W 63 rfl) (W 64 rfl) (rm16_equals l Z a0 hw v1 v2 k1 k2 x2 y2 h0 n0 O0 (A_a1) (A_a2)) e7 (hb hby d_257) 0 #[rv a1, rv a2, rv a2] [(.ref v1), (.ref v2)] [] pd_272
  obtain ⟨rfl, N8q, K8⟩ := hQ8
  have N9 := Fr.app N0 N8q
  refine ⟨T8, some o0, _, _, _, X8, by decide, by decide, nofun, ?_, fun fs hr => castTop (ef_271 m a1 a2) ?_⟩
  · show QI (0 : Int32) h0 n0 _ T8.heap _
    rw [K8]
    exact ⟨rfl, N9, rfl⟩
  · show SS p e below s₁ m 0 #[rv a1, rv a2, .unset] [] _
    refine XS.aloadN X0.here hx rfl (hb hby d_237) rfl rfl ?_
    refine XS.aloadN X0.here hx rfl (hb hby d_238) rfl rfl ?_
    refine Jvm.RoadKit.acmp (g := (mkF m 2 #[rv a1, rv a2, .unset] [(.ref a2), (.ref a1)])) X0 hx rfl rfl rfl (pc0 := 2) (pc' := 7) (same := false) rfl (hb hby d_239) rfl (decide_eq_false fun q => ne12 (Value.ref.inj q)) (by decide) (by decide) ?_
    refine XS.aloadN X0.here hx rfl (hb hby d_240) rfl rfl ?_
    refine st1 _ ?_
    refine XS.ifNo X1.here hx rfl (hb hby d_242) rfl ((if0 _ _).trans (feq (by decide : ¬ ((1 : Int32) = (0 : Int32)))).1) ?_
    refine XS.aloadN X1.here hx rfl (hb hby d_243) rfl rfl ?_
    refine st2 _ ?_
    refine XS.astoreN X2.here hx rfl (hb hby d_245) rfl rfl (l' := #[rv a1, rv a2, rv a2]) rfl ?_
    refine st3 _ ?_
    show SS p e below T3 m 22 #[rv a1, rv a2, rv a2] [(.int oC)] _
    refine XS.ifNo X3.here hx rfl (hb hby d_247) rfl ((if0 _ _).trans (feq nz_oC).1) ?_
    refine XS.aloadN X3.here hx rfl (hb hby d_248) rfl rfl ?_
    refine st4 _ ?_
    refine XS.aloadN X4.here hx rfl (hb hby d_250) rfl rfl ?_
    refine st5 _ ?_
    refine XS.icmpNo X5.here hx rfl (hb hby d_252) rfl (teq (by decide : (0 : Int32) = (0 : Int32))).2 ?_
    refine XS.aloadN X5.here hx rfl (hb hby d_253) rfl rfl ?_
    refine st6 _ ?_
    refine XS.aloadN X6.here hx rfl (hb hby d_255) rfl rfl ?_
    refine st7 _ ?_
    show SS p e below T7 m 44 #[rv a1, rv a2, rv a2] [(.ref v2), (.ref v1)] _
    refine st8 _ ?_
    refine XS.ifYes X8.here hx rfl (pc0 := 47) (pc' := 54) rfl (hb hby d_273) rfl ((if0 _ _).trans (teq (by decide : (0 : Int32) = (0 : Int32))).1) (by decide) (by decide) ?_
    refine XS.iconst X8.here hx rfl (hb hby d_279) ?_
    exact retN X8 hx (t := .boolean) hret (by simp) (hb hby d_276) hr
theorem own_eq_10 (l : Launch) (Z : State) (a0 : Array Value) (hw : HW Z a0) (a1 : Addr) (a2 : Addr) (v1 : Addr) (v2 : Addr) (k1 : ClassId) (k2 : ClassId) (x1 : Int32) (y1 : Int32) (x2 : Int32) (y2 : Int32) (oC : Int32) (h0 : Heap) (n0 : Nat) (O0 : Old Z n0 h0) (E_a1 : EA21 Z h0 a1) (C_a1 : FA17 Z h0 a1 o0) (V_a1 : FA18 Z h0 a1 (.ref v1)) (A_a1 : Arv Z h0 v1 k1 .byte (1 : Int32) [(.int x1)] o0) (E_a2 : EA21 Z h0 a2) (C_a2 : FA17 Z h0 a2 o0) (V_a2 : FA18 Z h0 a2 (.ref v2)) (A_a2 : Arv Z h0 v2 k2 .byte (0 : Int32) [] o0) (ne12 : a1 ≠ a2) (S_oC : SA24 Z Z.heap (.int oC)) (nz_oC : ¬ (oC = (0 : Int32)))  :
    Met l Z [] MY14 jdk_42_method_66_code 3 (some .boolean) ({ frames := 1, cells := 0, slots := 0, locals := 14 } : Room) #[(.ref a1), (.ref a2)] h0 (QI (0 : Int32) h0 n0) := by
  have W := @own_W _ _ hw
  refine own_mk (plainFor_of_name pn_95) ?_
  intro p e s m below meth c s₁ hZ hx hby hml hown hnm hret hlk X0 e0
  have N0 := Fr.nil n0
  obtain ⟨T1, X1, e1, st1⟩ := instY X0 hx hZ hown (W 59 rfl) e0 (Ins.self E_a2) (g := (mkF m 8 #[rv a1, rv a2, .unset] [(.ref a2)])) rfl rfl (hb hby d_241)
  obtain ⟨T2, X2, e2, st2⟩ := castY X1 hx hZ hown (W 59 rfl) e1 (Ins.self E_a2) (g := (mkF m 15 #[rv a1, rv a2, .unset] [(.ref a2)])) rfl rfl (hb hby d_244)
  obtain ⟨T3, X3, e3, st3⟩ := getS2 X2 hx hZ hown (host := "") (Or.inl (W 60 rfl)) Via.refl e2 (S_oC.ext O0.2) (g := (mkF m 19 #[rv a1, rv a2, rv a2] [])) rfl (hb hby d_246)
  obtain ⟨T4, X4, e4, st4⟩ := getF X3 hx hZ hown (host := "") (Or.inl (W 32 rfl)) Via.refl e3 C_a1 (g := (mkF m 26 #[rv a1, rv a2, rv a2] [(.ref a1)])) rfl rfl (hb hby d_249)
  obtain ⟨T5, X5, e5, st5⟩ := getF X4 hx hZ hown (host := "") (Or.inl (W 32 rfl)) Via.refl e4 C_a2 (g := (mkF m 30 #[rv a1, rv a2, rv a2] [(.ref a2), o0])) rfl rfl (hb hby d_251)
  obtain ⟨T6, X6, e6, st6⟩ := getF X5 hx hZ hown (host := "") (Or.inl (W 31 rfl)) Via.refl e5 V_a1 (g := (mkF m 37 #[rv a1, rv a2, rv a2] [(.ref a1)])) rfl rfl (hb hby d_254)
  obtain ⟨T7, X7, e7, st7⟩ := getF X6 hx hZ hown (host := "") (Or.inl (W 31 rfl)) Via.refl e6 V_a2 (g := (mkF m 41 #[rv a1, rv a2, rv a2] [(.ref a2), (.ref v1)])) rfl rfl (hb hby d_256)
  obtain ⟨_, T8, L8, X8, hQ8, st8⟩ := own_cs X7 hx hZ hown hml (W 61 rfl) (W 62 rfl) (W 63 rfl) (W 64 rfl) (rm17_equals l Z a0 hw v1 v2 k1 x1 k2 h0 n0 O0 (A_a1) (A_a2)) e7 (hb hby d_257) 0 #[rv a1, rv a2, rv a2] [(.ref v1), (.ref v2)] [] pd_272
  obtain ⟨rfl, N8q, K8⟩ := hQ8
  have N9 := Fr.app N0 N8q
  refine ⟨T8, some o0, _, _, _, X8, by decide, by decide, nofun, ?_, fun fs hr => castTop (ef_271 m a1 a2) ?_⟩
  · show QI (0 : Int32) h0 n0 _ T8.heap _
    rw [K8]
    exact ⟨rfl, N9, rfl⟩
  · show SS p e below s₁ m 0 #[rv a1, rv a2, .unset] [] _
    refine XS.aloadN X0.here hx rfl (hb hby d_237) rfl rfl ?_
    refine XS.aloadN X0.here hx rfl (hb hby d_238) rfl rfl ?_
    refine Jvm.RoadKit.acmp (g := (mkF m 2 #[rv a1, rv a2, .unset] [(.ref a2), (.ref a1)])) X0 hx rfl rfl rfl (pc0 := 2) (pc' := 7) (same := false) rfl (hb hby d_239) rfl (decide_eq_false fun q => ne12 (Value.ref.inj q)) (by decide) (by decide) ?_
    refine XS.aloadN X0.here hx rfl (hb hby d_240) rfl rfl ?_
    refine st1 _ ?_
    refine XS.ifNo X1.here hx rfl (hb hby d_242) rfl ((if0 _ _).trans (feq (by decide : ¬ ((1 : Int32) = (0 : Int32)))).1) ?_
    refine XS.aloadN X1.here hx rfl (hb hby d_243) rfl rfl ?_
    refine st2 _ ?_
    refine XS.astoreN X2.here hx rfl (hb hby d_245) rfl rfl (l' := #[rv a1, rv a2, rv a2]) rfl ?_
    refine st3 _ ?_
    show SS p e below T3 m 22 #[rv a1, rv a2, rv a2] [(.int oC)] _
    refine XS.ifNo X3.here hx rfl (hb hby d_247) rfl ((if0 _ _).trans (feq nz_oC).1) ?_
    refine XS.aloadN X3.here hx rfl (hb hby d_248) rfl rfl ?_
    refine st4 _ ?_
    refine XS.aloadN X4.here hx rfl (hb hby d_250) rfl rfl ?_
    refine st5 _ ?_
    refine XS.icmpNo X5.here hx rfl (hb hby d_252) rfl (teq (by decide : (0 : Int32) = (0 : Int32))).2 ?_
    refine XS.aloadN X5.here hx rfl (hb hby d_253) rfl rfl ?_
    refine st6 _ ?_
    refine XS.aloadN X6.here hx rfl (hb hby d_255) rfl rfl ?_
    refine st7 _ ?_
    show SS p e below T7 m 44 #[rv a1, rv a2, rv a2] [(.ref v2), (.ref v1)] _
    refine st8 _ ?_
    refine XS.ifYes X8.here hx rfl (pc0 := 47) (pc' := 54) rfl (hb hby d_273) rfl ((if0 _ _).trans (teq (by decide : (0 : Int32) = (0 : Int32))).1) (by decide) (by decide) ?_
    refine XS.iconst X8.here hx rfl (hb hby d_279) ?_
    exact retN X8 hx (t := .boolean) hret (by simp) (hb hby d_276) hr
theorem own_eq_11t (l : Launch) (Z : State) (a0 : Array Value) (hw : HW Z a0) (a1 : Addr) (a2 : Addr) (v1 : Addr) (v2 : Addr) (k1 : ClassId) (k2 : ClassId) (x1 : Int32) (y1 : Int32) (x2 : Int32) (y2 : Int32) (oC : Int32) (h0 : Heap) (n0 : Nat) (O0 : Old Z n0 h0) (E_a1 : EA21 Z h0 a1) (C_a1 : FA17 Z h0 a1 o0) (V_a1 : FA18 Z h0 a1 (.ref v1)) (A_a1 : Arv Z h0 v1 k1 .byte (1 : Int32) [(.int x1)] o0) (E_a2 : EA21 Z h0 a2) (C_a2 : FA17 Z h0 a2 o0) (V_a2 : FA18 Z h0 a2 (.ref v2)) (A_a2 : Arv Z h0 v2 k2 .byte (1 : Int32) [(.int x2)] o0) (ne12 : a1 ≠ a2) (S_oC : SA24 Z Z.heap (.int oC)) (nz_oC : ¬ (oC = (0 : Int32))) (xe0 : x1 = x2) :
    Met l Z [] MY14 jdk_42_method_66_code 3 (some .boolean) ({ frames := 1, cells := 0, slots := 0, locals := 14 } : Room) #[(.ref a1), (.ref a2)] h0 (QI (1 : Int32) h0 n0) := by
  have W := @own_W _ _ hw
  refine own_mk (plainFor_of_name pn_95) ?_
  intro p e s m below meth c s₁ hZ hx hby hml hown hnm hret hlk X0 e0
  have N0 := Fr.nil n0
  obtain ⟨T1, X1, e1, st1⟩ := instY X0 hx hZ hown (W 59 rfl) e0 (Ins.self E_a2) (g := (mkF m 8 #[rv a1, rv a2, .unset] [(.ref a2)])) rfl rfl (hb hby d_241)
  obtain ⟨T2, X2, e2, st2⟩ := castY X1 hx hZ hown (W 59 rfl) e1 (Ins.self E_a2) (g := (mkF m 15 #[rv a1, rv a2, .unset] [(.ref a2)])) rfl rfl (hb hby d_244)
  obtain ⟨T3, X3, e3, st3⟩ := getS2 X2 hx hZ hown (host := "") (Or.inl (W 60 rfl)) Via.refl e2 (S_oC.ext O0.2) (g := (mkF m 19 #[rv a1, rv a2, rv a2] [])) rfl (hb hby d_246)
  obtain ⟨T4, X4, e4, st4⟩ := getF X3 hx hZ hown (host := "") (Or.inl (W 32 rfl)) Via.refl e3 C_a1 (g := (mkF m 26 #[rv a1, rv a2, rv a2] [(.ref a1)])) rfl rfl (hb hby d_249)
  obtain ⟨T5, X5, e5, st5⟩ := getF X4 hx hZ hown (host := "") (Or.inl (W 32 rfl)) Via.refl e4 C_a2 (g := (mkF m 30 #[rv a1, rv a2, rv a2] [(.ref a2), o0])) rfl rfl (hb hby d_251)
  obtain ⟨T6, X6, e6, st6⟩ := getF X5 hx hZ hown (host := "") (Or.inl (W 31 rfl)) Via.refl e5 V_a1 (g := (mkF m 37 #[rv a1, rv a2, rv a2] [(.ref a1)])) rfl rfl (hb hby d_254)
  obtain ⟨T7, X7, e7, st7⟩ := getF X6 hx hZ hown (host := "") (Or.inl (W 31 rfl)) Via.refl e6 V_a2 (g := (mkF m 41 #[rv a1, rv a2, rv a2] [(.ref a2), (.ref v1)])) rfl rfl (hb hby d_256)
  obtain ⟨_, T8, L8, X8, hQ8, st8⟩ := own_cs X7 hx hZ hown hml (W 61 rfl) (W 62 rfl) (W 63 rfl) (W 64 rfl) (rm18_equals l Z a0 hw v1 v2 k1 x1 k2 x2 h0 n0 O0 (A_a1) (A_a2) (xe0)) e7 (hb hby d_257) 0 #[rv a1, rv a2, rv a2] [(.ref v1), (.ref v2)] [] pd_272
  obtain ⟨rfl, N8q, K8⟩ := hQ8
  have N9 := Fr.app N0 N8q
  refine ⟨T8, some (.int (1 : Int32)), _, _, _, X8, by decide, by decide, nofun, ?_, fun fs hr => castTop (ef_271 m a1 a2) ?_⟩
  · show QI (1 : Int32) h0 n0 _ T8.heap _
    rw [K8]
    exact ⟨rfl, N9, rfl⟩
  · show SS p e below s₁ m 0 #[rv a1, rv a2, .unset] [] _
    refine XS.aloadN X0.here hx rfl (hb hby d_237) rfl rfl ?_
    refine XS.aloadN X0.here hx rfl (hb hby d_238) rfl rfl ?_
    refine Jvm.RoadKit.acmp (g := (mkF m 2 #[rv a1, rv a2, .unset] [(.ref a2), (.ref a1)])) X0 hx rfl rfl rfl (pc0 := 2) (pc' := 7) (same := false) rfl (hb hby d_239) rfl (decide_eq_false fun q => ne12 (Value.ref.inj q)) (by decide) (by decide) ?_
    refine XS.aloadN X0.here hx rfl (hb hby d_240) rfl rfl ?_
    refine st1 _ ?_
    refine XS.ifNo X1.here hx rfl (hb hby d_242) rfl ((if0 _ _).trans (feq (by decide : ¬ ((1 : Int32) = (0 : Int32)))).1) ?_
    refine XS.aloadN X1.here hx rfl (hb hby d_243) rfl rfl ?_
    refine st2 _ ?_
    refine XS.astoreN X2.here hx rfl (hb hby d_245) rfl rfl (l' := #[rv a1, rv a2, rv a2]) rfl ?_
    refine st3 _ ?_
    show SS p e below T3 m 22 #[rv a1, rv a2, rv a2] [(.int oC)] _
    refine XS.ifNo X3.here hx rfl (hb hby d_247) rfl ((if0 _ _).trans (feq nz_oC).1) ?_
    refine XS.aloadN X3.here hx rfl (hb hby d_248) rfl rfl ?_
    refine st4 _ ?_
    refine XS.aloadN X4.here hx rfl (hb hby d_250) rfl rfl ?_
    refine st5 _ ?_
    refine XS.icmpNo X5.here hx rfl (hb hby d_252) rfl (teq (by decide : (0 : Int32) = (0 : Int32))).2 ?_
    refine XS.aloadN X5.here hx rfl (hb hby d_253) rfl rfl ?_
    refine st6 _ ?_
    refine XS.aloadN X6.here hx rfl (hb hby d_255) rfl rfl ?_
    refine st7 _ ?_
    show SS p e below T7 m 44 #[rv a1, rv a2, rv a2] [(.ref v2), (.ref v1)] _
    refine st8 _ ?_
    refine XS.ifNo X8.here hx rfl (hb hby d_273) rfl ((if0 _ _).trans (feq (by decide : ¬ ((1 : Int32) = (0 : Int32)))).1) ?_
    refine XS.iconst X8.here hx rfl (hb hby d_274) ?_
    refine XS.goto X8.here hx rfl (pc0 := 51) (pc' := 55) rfl (hb hby d_275) (by decide) (by decide) ?_
    exact retN X8 hx (t := .boolean) hret (by simp) (hb hby d_276) hr
theorem own_eq_11f (l : Launch) (Z : State) (a0 : Array Value) (hw : HW Z a0) (a1 : Addr) (a2 : Addr) (v1 : Addr) (v2 : Addr) (k1 : ClassId) (k2 : ClassId) (x1 : Int32) (y1 : Int32) (x2 : Int32) (y2 : Int32) (oC : Int32) (h0 : Heap) (n0 : Nat) (O0 : Old Z n0 h0) (E_a1 : EA21 Z h0 a1) (C_a1 : FA17 Z h0 a1 o0) (V_a1 : FA18 Z h0 a1 (.ref v1)) (A_a1 : Arv Z h0 v1 k1 .byte (1 : Int32) [(.int x1)] o0) (E_a2 : EA21 Z h0 a2) (C_a2 : FA17 Z h0 a2 o0) (V_a2 : FA18 Z h0 a2 (.ref v2)) (A_a2 : Arv Z h0 v2 k2 .byte (1 : Int32) [(.int x2)] o0) (ne12 : a1 ≠ a2) (S_oC : SA24 Z Z.heap (.int oC)) (nz_oC : ¬ (oC = (0 : Int32))) (xe0 : ¬ (x1 = x2)) :
    Met l Z [] MY14 jdk_42_method_66_code 3 (some .boolean) ({ frames := 1, cells := 0, slots := 0, locals := 14 } : Room) #[(.ref a1), (.ref a2)] h0 (QI (0 : Int32) h0 n0) := by
  have W := @own_W _ _ hw
  refine own_mk (plainFor_of_name pn_95) ?_
  intro p e s m below meth c s₁ hZ hx hby hml hown hnm hret hlk X0 e0
  have N0 := Fr.nil n0
  obtain ⟨T1, X1, e1, st1⟩ := instY X0 hx hZ hown (W 59 rfl) e0 (Ins.self E_a2) (g := (mkF m 8 #[rv a1, rv a2, .unset] [(.ref a2)])) rfl rfl (hb hby d_241)
  obtain ⟨T2, X2, e2, st2⟩ := castY X1 hx hZ hown (W 59 rfl) e1 (Ins.self E_a2) (g := (mkF m 15 #[rv a1, rv a2, .unset] [(.ref a2)])) rfl rfl (hb hby d_244)
  obtain ⟨T3, X3, e3, st3⟩ := getS2 X2 hx hZ hown (host := "") (Or.inl (W 60 rfl)) Via.refl e2 (S_oC.ext O0.2) (g := (mkF m 19 #[rv a1, rv a2, rv a2] [])) rfl (hb hby d_246)
  obtain ⟨T4, X4, e4, st4⟩ := getF X3 hx hZ hown (host := "") (Or.inl (W 32 rfl)) Via.refl e3 C_a1 (g := (mkF m 26 #[rv a1, rv a2, rv a2] [(.ref a1)])) rfl rfl (hb hby d_249)
  obtain ⟨T5, X5, e5, st5⟩ := getF X4 hx hZ hown (host := "") (Or.inl (W 32 rfl)) Via.refl e4 C_a2 (g := (mkF m 30 #[rv a1, rv a2, rv a2] [(.ref a2), o0])) rfl rfl (hb hby d_251)
  obtain ⟨T6, X6, e6, st6⟩ := getF X5 hx hZ hown (host := "") (Or.inl (W 31 rfl)) Via.refl e5 V_a1 (g := (mkF m 37 #[rv a1, rv a2, rv a2] [(.ref a1)])) rfl rfl (hb hby d_254)
  obtain ⟨T7, X7, e7, st7⟩ := getF X6 hx hZ hown (host := "") (Or.inl (W 31 rfl)) Via.refl e6 V_a2 (g := (mkF m 41 #[rv a1, rv a2, rv a2] [(.ref a2), (.ref v1)])) rfl rfl (hb hby d_256)
  obtain ⟨_, T8, L8, X8, hQ8, st8⟩ := own_cs X7 hx hZ hown hml (W 61 rfl) (W 62 rfl) (W 63 rfl) (W 64 rfl) (rm19_equals l Z a0 hw v1 v2 k1 x1 k2 x2 h0 n0 O0 (A_a1) (A_a2) (xe0)) e7 (hb hby d_257) 0 #[rv a1, rv a2, rv a2] [(.ref v1), (.ref v2)] [] pd_272
  obtain ⟨rfl, N8q, K8⟩ := hQ8
  have N9 := Fr.app N0 N8q
  refine ⟨T8, some o0, _, _, _, X8, by decide, by decide, nofun, ?_, fun fs hr => castTop (ef_271 m a1 a2) ?_⟩
  · show QI (0 : Int32) h0 n0 _ T8.heap _
    rw [K8]
    exact ⟨rfl, N9, rfl⟩
  · show SS p e below s₁ m 0 #[rv a1, rv a2, .unset] [] _
    refine XS.aloadN X0.here hx rfl (hb hby d_237) rfl rfl ?_
    refine XS.aloadN X0.here hx rfl (hb hby d_238) rfl rfl ?_
    refine Jvm.RoadKit.acmp (g := (mkF m 2 #[rv a1, rv a2, .unset] [(.ref a2), (.ref a1)])) X0 hx rfl rfl rfl (pc0 := 2) (pc' := 7) (same := false) rfl (hb hby d_239) rfl (decide_eq_false fun q => ne12 (Value.ref.inj q)) (by decide) (by decide) ?_
    refine XS.aloadN X0.here hx rfl (hb hby d_240) rfl rfl ?_
    refine st1 _ ?_
    refine XS.ifNo X1.here hx rfl (hb hby d_242) rfl ((if0 _ _).trans (feq (by decide : ¬ ((1 : Int32) = (0 : Int32)))).1) ?_
    refine XS.aloadN X1.here hx rfl (hb hby d_243) rfl rfl ?_
    refine st2 _ ?_
    refine XS.astoreN X2.here hx rfl (hb hby d_245) rfl rfl (l' := #[rv a1, rv a2, rv a2]) rfl ?_
    refine st3 _ ?_
    show SS p e below T3 m 22 #[rv a1, rv a2, rv a2] [(.int oC)] _
    refine XS.ifNo X3.here hx rfl (hb hby d_247) rfl ((if0 _ _).trans (feq nz_oC).1) ?_
    refine XS.aloadN X3.here hx rfl (hb hby d_248) rfl rfl ?_
    refine st4 _ ?_
    refine XS.aloadN X4.here hx rfl (hb hby d_250) rfl rfl ?_
    refine st5 _ ?_
    refine XS.icmpNo X5.here hx rfl (hb hby d_252) rfl (teq (by decide : (0 : Int32) = (0 : Int32))).2 ?_
    refine XS.aloadN X5.here hx rfl (hb hby d_253) rfl rfl ?_
    refine st6 _ ?_
    refine XS.aloadN X6.here hx rfl (hb hby d_255) rfl rfl ?_
    refine st7 _ ?_
    show SS p e below T7 m 44 #[rv a1, rv a2, rv a2] [(.ref v2), (.ref v1)] _
    refine st8 _ ?_
    refine XS.ifYes X8.here hx rfl (pc0 := 47) (pc' := 54) rfl (hb hby d_273) rfl ((if0 _ _).trans (teq (by decide : (0 : Int32) = (0 : Int32))).1) (by decide) (by decide) ?_
    refine XS.iconst X8.here hx rfl (hb hby d_279) ?_
    exact retN X8 hx (t := .boolean) hret (by simp) (hb hby d_276) hr
theorem own_eq_12 (l : Launch) (Z : State) (a0 : Array Value) (hw : HW Z a0) (a1 : Addr) (a2 : Addr) (v1 : Addr) (v2 : Addr) (k1 : ClassId) (k2 : ClassId) (x1 : Int32) (y1 : Int32) (x2 : Int32) (y2 : Int32) (oC : Int32) (h0 : Heap) (n0 : Nat) (O0 : Old Z n0 h0) (E_a1 : EA21 Z h0 a1) (C_a1 : FA17 Z h0 a1 o0) (V_a1 : FA18 Z h0 a1 (.ref v1)) (A_a1 : Arv Z h0 v1 k1 .byte (1 : Int32) [(.int x1)] o0) (E_a2 : EA21 Z h0 a2) (C_a2 : FA17 Z h0 a2 o0) (V_a2 : FA18 Z h0 a2 (.ref v2)) (A_a2 : Arv Z h0 v2 k2 .byte (2 : Int32) [(.int x2), (.int y2)] o0) (ne12 : a1 ≠ a2) (S_oC : SA24 Z Z.heap (.int oC)) (nz_oC : ¬ (oC = (0 : Int32)))  :
    Met l Z [] MY14 jdk_42_method_66_code 3 (some .boolean) ({ frames := 1, cells := 0, slots := 0, locals := 14 } : Room) #[(.ref a1), (.ref a2)] h0 (QI (0 : Int32) h0 n0) := by
  have W := @own_W _ _ hw
  refine own_mk (plainFor_of_name pn_95) ?_
  intro p e s m below meth c s₁ hZ hx hby hml hown hnm hret hlk X0 e0
  have N0 := Fr.nil n0
  obtain ⟨T1, X1, e1, st1⟩ := instY X0 hx hZ hown (W 59 rfl) e0 (Ins.self E_a2) (g := (mkF m 8 #[rv a1, rv a2, .unset] [(.ref a2)])) rfl rfl (hb hby d_241)
  obtain ⟨T2, X2, e2, st2⟩ := castY X1 hx hZ hown (W 59 rfl) e1 (Ins.self E_a2) (g := (mkF m 15 #[rv a1, rv a2, .unset] [(.ref a2)])) rfl rfl (hb hby d_244)
  obtain ⟨T3, X3, e3, st3⟩ := getS2 X2 hx hZ hown (host := "") (Or.inl (W 60 rfl)) Via.refl e2 (S_oC.ext O0.2) (g := (mkF m 19 #[rv a1, rv a2, rv a2] [])) rfl (hb hby d_246)
  obtain ⟨T4, X4, e4, st4⟩ := getF X3 hx hZ hown (host := "") (Or.inl (W 32 rfl)) Via.refl e3 C_a1 (g := (mkF m 26 #[rv a1, rv a2, rv a2] [(.ref a1)])) rfl rfl (hb hby d_249)
  obtain ⟨T5, X5, e5, st5⟩ := getF X4 hx hZ hown (host := "") (Or.inl (W 32 rfl)) Via.refl e4 C_a2 (g := (mkF m 30 #[rv a1, rv a2, rv a2] [(.ref a2), o0])) rfl rfl (hb hby d_251)
  obtain ⟨T6, X6, e6, st6⟩ := getF X5 hx hZ hown (host := "") (Or.inl (W 31 rfl)) Via.refl e5 V_a1 (g := (mkF m 37 #[rv a1, rv a2, rv a2] [(.ref a1)])) rfl rfl (hb hby d_254)
  obtain ⟨T7, X7, e7, st7⟩ := getF X6 hx hZ hown (host := "") (Or.inl (W 31 rfl)) Via.refl e6 V_a2 (g := (mkF m 41 #[rv a1, rv a2, rv a2] [(.ref a2), (.ref v1)])) rfl rfl (hb hby d_256)
  obtain ⟨_, T8, L8, X8, hQ8, st8⟩ := own_cs X7 hx hZ hown hml (W 61 rfl) (W 62 rfl) (W 63 rfl) (W 64 rfl) (rm20_equals l Z a0 hw v1 v2 k1 x1 k2 x2 y2 h0 n0 O0 (A_a1) (A_a2)) e7 (hb hby d_257) 0 #[rv a1, rv a2, rv a2] [(.ref v1), (.ref v2)] [] pd_272
  obtain ⟨rfl, N8q, K8⟩ := hQ8
  have N9 := Fr.app N0 N8q
  refine ⟨T8, some o0, _, _, _, X8, by decide, by decide, nofun, ?_, fun fs hr => castTop (ef_271 m a1 a2) ?_⟩
  · show QI (0 : Int32) h0 n0 _ T8.heap _
    rw [K8]
    exact ⟨rfl, N9, rfl⟩
  · show SS p e below s₁ m 0 #[rv a1, rv a2, .unset] [] _
    refine XS.aloadN X0.here hx rfl (hb hby d_237) rfl rfl ?_
    refine XS.aloadN X0.here hx rfl (hb hby d_238) rfl rfl ?_
    refine Jvm.RoadKit.acmp (g := (mkF m 2 #[rv a1, rv a2, .unset] [(.ref a2), (.ref a1)])) X0 hx rfl rfl rfl (pc0 := 2) (pc' := 7) (same := false) rfl (hb hby d_239) rfl (decide_eq_false fun q => ne12 (Value.ref.inj q)) (by decide) (by decide) ?_
    refine XS.aloadN X0.here hx rfl (hb hby d_240) rfl rfl ?_
    refine st1 _ ?_
    refine XS.ifNo X1.here hx rfl (hb hby d_242) rfl ((if0 _ _).trans (feq (by decide : ¬ ((1 : Int32) = (0 : Int32)))).1) ?_
    refine XS.aloadN X1.here hx rfl (hb hby d_243) rfl rfl ?_
    refine st2 _ ?_
    refine XS.astoreN X2.here hx rfl (hb hby d_245) rfl rfl (l' := #[rv a1, rv a2, rv a2]) rfl ?_
    refine st3 _ ?_
    show SS p e below T3 m 22 #[rv a1, rv a2, rv a2] [(.int oC)] _
    refine XS.ifNo X3.here hx rfl (hb hby d_247) rfl ((if0 _ _).trans (feq nz_oC).1) ?_
    refine XS.aloadN X3.here hx rfl (hb hby d_248) rfl rfl ?_
    refine st4 _ ?_
    refine XS.aloadN X4.here hx rfl (hb hby d_250) rfl rfl ?_
    refine st5 _ ?_
    refine XS.icmpNo X5.here hx rfl (hb hby d_252) rfl (teq (by decide : (0 : Int32) = (0 : Int32))).2 ?_
    refine XS.aloadN X5.here hx rfl (hb hby d_253) rfl rfl ?_
    refine st6 _ ?_
    refine XS.aloadN X6.here hx rfl (hb hby d_255) rfl rfl ?_
    refine st7 _ ?_
    show SS p e below T7 m 44 #[rv a1, rv a2, rv a2] [(.ref v2), (.ref v1)] _
    refine st8 _ ?_
    refine XS.ifYes X8.here hx rfl (pc0 := 47) (pc' := 54) rfl (hb hby d_273) rfl ((if0 _ _).trans (teq (by decide : (0 : Int32) = (0 : Int32))).1) (by decide) (by decide) ?_
    refine XS.iconst X8.here hx rfl (hb hby d_279) ?_
    exact retN X8 hx (t := .boolean) hret (by simp) (hb hby d_276) hr
theorem own_eq_20 (l : Launch) (Z : State) (a0 : Array Value) (hw : HW Z a0) (a1 : Addr) (a2 : Addr) (v1 : Addr) (v2 : Addr) (k1 : ClassId) (k2 : ClassId) (x1 : Int32) (y1 : Int32) (x2 : Int32) (y2 : Int32) (oC : Int32) (h0 : Heap) (n0 : Nat) (O0 : Old Z n0 h0) (E_a1 : EA21 Z h0 a1) (C_a1 : FA17 Z h0 a1 o0) (V_a1 : FA18 Z h0 a1 (.ref v1)) (A_a1 : Arv Z h0 v1 k1 .byte (2 : Int32) [(.int x1), (.int y1)] o0) (E_a2 : EA21 Z h0 a2) (C_a2 : FA17 Z h0 a2 o0) (V_a2 : FA18 Z h0 a2 (.ref v2)) (A_a2 : Arv Z h0 v2 k2 .byte (0 : Int32) [] o0) (ne12 : a1 ≠ a2) (S_oC : SA24 Z Z.heap (.int oC)) (nz_oC : ¬ (oC = (0 : Int32)))  :
    Met l Z [] MY14 jdk_42_method_66_code 3 (some .boolean) ({ frames := 1, cells := 0, slots := 0, locals := 14 } : Room) #[(.ref a1), (.ref a2)] h0 (QI (0 : Int32) h0 n0) := by
  have W := @own_W _ _ hw
  refine own_mk (plainFor_of_name pn_95) ?_
  intro p e s m below meth c s₁ hZ hx hby hml hown hnm hret hlk X0 e0
  have N0 := Fr.nil n0
  obtain ⟨T1, X1, e1, st1⟩ := instY X0 hx hZ hown (W 59 rfl) e0 (Ins.self E_a2) (g := (mkF m 8 #[rv a1, rv a2, .unset] [(.ref a2)])) rfl rfl (hb hby d_241)
  obtain ⟨T2, X2, e2, st2⟩ := castY X1 hx hZ hown (W 59 rfl) e1 (Ins.self E_a2) (g := (mkF m 15 #[rv a1, rv a2, .unset] [(.ref a2)])) rfl rfl (hb hby d_244)
  obtain ⟨T3, X3, e3, st3⟩ := getS2 X2 hx hZ hown (host := "") (Or.inl (W 60 rfl)) Via.refl e2 (S_oC.ext O0.2) (g := (mkF m 19 #[rv a1, rv a2, rv a2] [])) rfl (hb hby d_246)
  obtain ⟨T4, X4, e4, st4⟩ := getF X3 hx hZ hown (host := "") (Or.inl (W 32 rfl)) Via.refl e3 C_a1 (g := (mkF m 26 #[rv a1, rv a2, rv a2] [(.ref a1)])) rfl rfl (hb hby d_249)
  obtain ⟨T5, X5, e5, st5⟩ := getF X4 hx hZ hown (host := "") (Or.inl (W 32 rfl)) Via.refl e4 C_a2 (g := (mkF m 30 #[rv a1, rv a2, rv a2] [(.ref a2), o0])) rfl rfl (hb hby d_251)
  obtain ⟨T6, X6, e6, st6⟩ := getF X5 hx hZ hown (host := "") (Or.inl (W 31 rfl)) Via.refl e5 V_a1 (g := (mkF m 37 #[rv a1, rv a2, rv a2] [(.ref a1)])) rfl rfl (hb hby d_254)
  obtain ⟨T7, X7, e7, st7⟩ := getF X6 hx hZ hown (host := "") (Or.inl (W 31 rfl)) Via.refl e6 V_a2 (g := (mkF m 41 #[rv a1, rv a2, rv a2] [(.ref a2), (.ref v1)])) rfl rfl (hb hby d_256)
  obtain ⟨_, T8, L8, X8, hQ8, st8⟩ := own_cs X7 hx hZ hown hml (W 61 rfl) (W 62 rfl) (W 63 rfl) (W 64 rfl) (rm21_equals l Z a0 hw v1 v2 k1 x1 y1 k2 h0 n0 O0 (A_a1) (A_a2)) e7 (hb hby d_257) 0 #[rv a1, rv a2, rv a2] [(.ref v1), (.ref v2)] [] pd_272
  obtain ⟨rfl, N8q, K8⟩ := hQ8
  have N9 := Fr.app N0 N8q
  refine ⟨T8, some o0, _, _, _, X8, by decide, by decide, nofun, ?_, fun fs hr => castTop (ef_271 m a1 a2) ?_⟩
  · show QI (0 : Int32) h0 n0 _ T8.heap _
    rw [K8]
    exact ⟨rfl, N9, rfl⟩
  · show SS p e below s₁ m 0 #[rv a1, rv a2, .unset] [] _
    refine XS.aloadN X0.here hx rfl (hb hby d_237) rfl rfl ?_
    refine XS.aloadN X0.here hx rfl (hb hby d_238) rfl rfl ?_
    refine Jvm.RoadKit.acmp (g := (mkF m 2 #[rv a1, rv a2, .unset] [(.ref a2), (.ref a1)])) X0 hx rfl rfl rfl (pc0 := 2) (pc' := 7) (same := false) rfl (hb hby d_239) rfl (decide_eq_false fun q => ne12 (Value.ref.inj q)) (by decide) (by decide) ?_
    refine XS.aloadN X0.here hx rfl (hb hby d_240) rfl rfl ?_
    refine st1 _ ?_
    refine XS.ifNo X1.here hx rfl (hb hby d_242) rfl ((if0 _ _).trans (feq (by decide : ¬ ((1 : Int32) = (0 : Int32)))).1) ?_
    refine XS.aloadN X1.here hx rfl (hb hby d_243) rfl rfl ?_
    refine st2 _ ?_
    refine XS.astoreN X2.here hx rfl (hb hby d_245) rfl rfl (l' := #[rv a1, rv a2, rv a2]) rfl ?_
    refine st3 _ ?_
    show SS p e below T3 m 22 #[rv a1, rv a2, rv a2] [(.int oC)] _
    refine XS.ifNo X3.here hx rfl (hb hby d_247) rfl ((if0 _ _).trans (feq nz_oC).1) ?_
    refine XS.aloadN X3.here hx rfl (hb hby d_248) rfl rfl ?_
    refine st4 _ ?_
    refine XS.aloadN X4.here hx rfl (hb hby d_250) rfl rfl ?_
    refine st5 _ ?_
    refine XS.icmpNo X5.here hx rfl (hb hby d_252) rfl (teq (by decide : (0 : Int32) = (0 : Int32))).2 ?_
    refine XS.aloadN X5.here hx rfl (hb hby d_253) rfl rfl ?_
    refine st6 _ ?_
    refine XS.aloadN X6.here hx rfl (hb hby d_255) rfl rfl ?_
    refine st7 _ ?_
    show SS p e below T7 m 44 #[rv a1, rv a2, rv a2] [(.ref v2), (.ref v1)] _
    refine st8 _ ?_
    refine XS.ifYes X8.here hx rfl (pc0 := 47) (pc' := 54) rfl (hb hby d_273) rfl ((if0 _ _).trans (teq (by decide : (0 : Int32) = (0 : Int32))).1) (by decide) (by decide) ?_
    refine XS.iconst X8.here hx rfl (hb hby d_279) ?_
    exact retN X8 hx (t := .boolean) hret (by simp) (hb hby d_276) hr
theorem own_eq_21 (l : Launch) (Z : State) (a0 : Array Value) (hw : HW Z a0) (a1 : Addr) (a2 : Addr) (v1 : Addr) (v2 : Addr) (k1 : ClassId) (k2 : ClassId) (x1 : Int32) (y1 : Int32) (x2 : Int32) (y2 : Int32) (oC : Int32) (h0 : Heap) (n0 : Nat) (O0 : Old Z n0 h0) (E_a1 : EA21 Z h0 a1) (C_a1 : FA17 Z h0 a1 o0) (V_a1 : FA18 Z h0 a1 (.ref v1)) (A_a1 : Arv Z h0 v1 k1 .byte (2 : Int32) [(.int x1), (.int y1)] o0) (E_a2 : EA21 Z h0 a2) (C_a2 : FA17 Z h0 a2 o0) (V_a2 : FA18 Z h0 a2 (.ref v2)) (A_a2 : Arv Z h0 v2 k2 .byte (1 : Int32) [(.int x2)] o0) (ne12 : a1 ≠ a2) (S_oC : SA24 Z Z.heap (.int oC)) (nz_oC : ¬ (oC = (0 : Int32)))  :
    Met l Z [] MY14 jdk_42_method_66_code 3 (some .boolean) ({ frames := 1, cells := 0, slots := 0, locals := 14 } : Room) #[(.ref a1), (.ref a2)] h0 (QI (0 : Int32) h0 n0) := by
  have W := @own_W _ _ hw
  refine own_mk (plainFor_of_name pn_95) ?_
  intro p e s m below meth c s₁ hZ hx hby hml hown hnm hret hlk X0 e0
  have N0 := Fr.nil n0
  obtain ⟨T1, X1, e1, st1⟩ := instY X0 hx hZ hown (W 59 rfl) e0 (Ins.self E_a2) (g := (mkF m 8 #[rv a1, rv a2, .unset] [(.ref a2)])) rfl rfl (hb hby d_241)
  obtain ⟨T2, X2, e2, st2⟩ := castY X1 hx hZ hown (W 59 rfl) e1 (Ins.self E_a2) (g := (mkF m 15 #[rv a1, rv a2, .unset] [(.ref a2)])) rfl rfl (hb hby d_244)
  obtain ⟨T3, X3, e3, st3⟩ := getS2 X2 hx hZ hown (host := "") (Or.inl (W 60 rfl)) Via.refl e2 (S_oC.ext O0.2) (g := (mkF m 19 #[rv a1, rv a2, rv a2] [])) rfl (hb hby d_246)
  obtain ⟨T4, X4, e4, st4⟩ := getF X3 hx hZ hown (host := "") (Or.inl (W 32 rfl)) Via.refl e3 C_a1 (g := (mkF m 26 #[rv a1, rv a2, rv a2] [(.ref a1)])) rfl rfl (hb hby d_249)
  obtain ⟨T5, X5, e5, st5⟩ := getF X4 hx hZ hown (host := "") (Or.inl (W 32 rfl)) Via.refl e4 C_a2 (g := (mkF m 30 #[rv a1, rv a2, rv a2] [(.ref a2), o0])) rfl rfl (hb hby d_251)
  obtain ⟨T6, X6, e6, st6⟩ := getF X5 hx hZ hown (host := "") (Or.inl (W 31 rfl)) Via.refl e5 V_a1 (g := (mkF m 37 #[rv a1, rv a2, rv a2] [(.ref a1)])) rfl rfl (hb hby d_254)
  obtain ⟨T7, X7, e7, st7⟩ := getF X6 hx hZ hown (host := "") (Or.inl (W 31 rfl)) Via.refl e6 V_a2 (g := (mkF m 41 #[rv a1, rv a2, rv a2] [(.ref a2), (.ref v1)])) rfl rfl (hb hby d_256)
  obtain ⟨_, T8, L8, X8, hQ8, st8⟩ := own_cs X7 hx hZ hown hml (W 61 rfl) (W 62 rfl) (W 63 rfl) (W 64 rfl) (rm22_equals l Z a0 hw v1 v2 k1 x1 y1 k2 x2 h0 n0 O0 (A_a1) (A_a2)) e7 (hb hby d_257) 0 #[rv a1, rv a2, rv a2] [(.ref v1), (.ref v2)] [] pd_272
  obtain ⟨rfl, N8q, K8⟩ := hQ8
  have N9 := Fr.app N0 N8q
  refine ⟨T8, some o0, _, _, _, X8, by decide, by decide, nofun, ?_, fun fs hr => castTop (ef_271 m a1 a2) ?_⟩
  · show QI (0 : Int32) h0 n0 _ T8.heap _
    rw [K8]
    exact ⟨rfl, N9, rfl⟩
  · show SS p e below s₁ m 0 #[rv a1, rv a2, .unset] [] _
    refine XS.aloadN X0.here hx rfl (hb hby d_237) rfl rfl ?_
    refine XS.aloadN X0.here hx rfl (hb hby d_238) rfl rfl ?_
    refine Jvm.RoadKit.acmp (g := (mkF m 2 #[rv a1, rv a2, .unset] [(.ref a2), (.ref a1)])) X0 hx rfl rfl rfl (pc0 := 2) (pc' := 7) (same := false) rfl (hb hby d_239) rfl (decide_eq_false fun q => ne12 (Value.ref.inj q)) (by decide) (by decide) ?_
    refine XS.aloadN X0.here hx rfl (hb hby d_240) rfl rfl ?_
    refine st1 _ ?_
    refine XS.ifNo X1.here hx rfl (hb hby d_242) rfl ((if0 _ _).trans (feq (by decide : ¬ ((1 : Int32) = (0 : Int32)))).1) ?_
    refine XS.aloadN X1.here hx rfl (hb hby d_243) rfl rfl ?_
    refine st2 _ ?_
    refine XS.astoreN X2.here hx rfl (hb hby d_245) rfl rfl (l' := #[rv a1, rv a2, rv a2]) rfl ?_
    refine st3 _ ?_
    show SS p e below T3 m 22 #[rv a1, rv a2, rv a2] [(.int oC)] _
    refine XS.ifNo X3.here hx rfl (hb hby d_247) rfl ((if0 _ _).trans (feq nz_oC).1) ?_
    refine XS.aloadN X3.here hx rfl (hb hby d_248) rfl rfl ?_
    refine st4 _ ?_
    refine XS.aloadN X4.here hx rfl (hb hby d_250) rfl rfl ?_
    refine st5 _ ?_
    refine XS.icmpNo X5.here hx rfl (hb hby d_252) rfl (teq (by decide : (0 : Int32) = (0 : Int32))).2 ?_
    refine XS.aloadN X5.here hx rfl (hb hby d_253) rfl rfl ?_
    refine st6 _ ?_
    refine XS.aloadN X6.here hx rfl (hb hby d_255) rfl rfl ?_
    refine st7 _ ?_
    show SS p e below T7 m 44 #[rv a1, rv a2, rv a2] [(.ref v2), (.ref v1)] _
    refine st8 _ ?_
    refine XS.ifYes X8.here hx rfl (pc0 := 47) (pc' := 54) rfl (hb hby d_273) rfl ((if0 _ _).trans (teq (by decide : (0 : Int32) = (0 : Int32))).1) (by decide) (by decide) ?_
    refine XS.iconst X8.here hx rfl (hb hby d_279) ?_
    exact retN X8 hx (t := .boolean) hret (by simp) (hb hby d_276) hr
theorem own_eq_22tt (l : Launch) (Z : State) (a0 : Array Value) (hw : HW Z a0) (a1 : Addr) (a2 : Addr) (v1 : Addr) (v2 : Addr) (k1 : ClassId) (k2 : ClassId) (x1 : Int32) (y1 : Int32) (x2 : Int32) (y2 : Int32) (oC : Int32) (h0 : Heap) (n0 : Nat) (O0 : Old Z n0 h0) (E_a1 : EA21 Z h0 a1) (C_a1 : FA17 Z h0 a1 o0) (V_a1 : FA18 Z h0 a1 (.ref v1)) (A_a1 : Arv Z h0 v1 k1 .byte (2 : Int32) [(.int x1), (.int y1)] o0) (E_a2 : EA21 Z h0 a2) (C_a2 : FA17 Z h0 a2 o0) (V_a2 : FA18 Z h0 a2 (.ref v2)) (A_a2 : Arv Z h0 v2 k2 .byte (2 : Int32) [(.int x2), (.int y2)] o0) (ne12 : a1 ≠ a2) (S_oC : SA24 Z Z.heap (.int oC)) (nz_oC : ¬ (oC = (0 : Int32))) (xe0 : x1 = x2) (xe1 : y1 = y2) :
    Met l Z [] MY14 jdk_42_method_66_code 3 (some .boolean) ({ frames := 1, cells := 0, slots := 0, locals := 14 } : Room) #[(.ref a1), (.ref a2)] h0 (QI (1 : Int32) h0 n0) := by
  have W := @own_W _ _ hw
  refine own_mk (plainFor_of_name pn_95) ?_
  intro p e s m below meth c s₁ hZ hx hby hml hown hnm hret hlk X0 e0
  have N0 := Fr.nil n0
  obtain ⟨T1, X1, e1, st1⟩ := instY X0 hx hZ hown (W 59 rfl) e0 (Ins.self E_a2) (g := (mkF m 8 #[rv a1, rv a2, .unset] [(.ref a2)])) rfl rfl (hb hby d_241)
  obtain ⟨T2, X2, e2, st2⟩ := castY X1 hx hZ hown (W 59 rfl) e1 (Ins.self E_a2) (g := (mkF m 15 #[rv a1, rv a2, .unset] [(.ref a2)])) rfl rfl (hb hby d_244)
  obtain ⟨T3, X3, e3, st3⟩ := getS2 X2 hx hZ hown (host := "") (Or.inl (W 60 rfl)) Via.refl e2 (S_oC.ext O0.2) (g := (mkF m 19 #[rv a1, rv a2, rv a2] [])) rfl (hb hby d_246)
  obtain ⟨T4, X4, e4, st4⟩ := getF X3 hx hZ hown (host := "") (Or.inl (W 32 rfl)) Via.refl e3 C_a1 (g := (mkF m 26 #[rv a1, rv a2, rv a2] [(.ref a1)])) rfl rfl (hb hby d_249)
  obtain ⟨T5, X5, e5, st5⟩ := getF X4 hx hZ hown (host := "") (Or.inl (W 32 rfl)) Via.refl e4 C_a2 (g := (mkF m 30 #[rv a1, rv a2, rv a2] [(.ref a2), o0])) rfl rfl (hb hby d_251)
  obtain ⟨T6, X6, e6, st6⟩ := getF X5 hx hZ hown (host := "") (Or.inl (W 31 rfl)) Via.refl e5 V_a1 (g := (mkF m 37 #[rv a1, rv a2, rv a2] [(.ref a1)])) rfl rfl (hb hby d_254)
  obtain ⟨T7, X7, e7, st7⟩ := getF X6 hx hZ hown (host := "") (Or.inl (W 31 rfl)) Via.refl e6 V_a2 (g := (mkF m 41 #[rv a1, rv a2, rv a2] [(.ref a2), (.ref v1)])) rfl rfl (hb hby d_256)
  obtain ⟨_, T8, L8, X8, hQ8, st8⟩ := own_cs X7 hx hZ hown hml (W 61 rfl) (W 62 rfl) (W 63 rfl) (W 64 rfl) (rm23_equals l Z a0 hw v1 v2 k1 x1 y1 k2 x2 y2 h0 n0 O0 (A_a1) (A_a2) (xe0) (xe1)) e7 (hb hby d_257) 0 #[rv a1, rv a2, rv a2] [(.ref v1), (.ref v2)] [] pd_272
  obtain ⟨rfl, N8q, K8⟩ := hQ8
  have N9 := Fr.app N0 N8q
  refine ⟨T8, some (.int (1 : Int32)), _, _, _, X8, by decide, by decide, nofun, ?_, fun fs hr => castTop (ef_271 m a1 a2) ?_⟩
  · show QI (1 : Int32) h0 n0 _ T8.heap _
    rw [K8]
    exact ⟨rfl, N9, rfl⟩
  · show SS p e below s₁ m 0 #[rv a1, rv a2, .unset] [] _
    refine XS.aloadN X0.here hx rfl (hb hby d_237) rfl rfl ?_
    refine XS.aloadN X0.here hx rfl (hb hby d_238) rfl rfl ?_
    refine Jvm.RoadKit.acmp (g := (mkF m 2 #[rv a1, rv a2, .unset] [(.ref a2), (.ref a1)])) X0 hx rfl rfl rfl (pc0 := 2) (pc' := 7) (same := false) rfl (hb hby d_239) rfl (decide_eq_false fun q => ne12 (Value.ref.inj q)) (by decide) (by decide) ?_
    refine XS.aloadN X0.here hx rfl (hb hby d_240) rfl rfl ?_
    refine st1 _ ?_
    refine XS.ifNo X1.here hx rfl (hb hby d_242) rfl ((if0 _ _).trans (feq (by decide : ¬ ((1 : Int32) = (0 : Int32)))).1) ?_
    refine XS.aloadN X1.here hx rfl (hb hby d_243) rfl rfl ?_
    refine st2 _ ?_
    refine XS.astoreN X2.here hx rfl (hb hby d_245) rfl rfl (l' := #[rv a1, rv a2, rv a2]) rfl ?_
    refine st3 _ ?_
    show SS p e below T3 m 22 #[rv a1, rv a2, rv a2] [(.int oC)] _
    refine XS.ifNo X3.here hx rfl (hb hby d_247) rfl ((if0 _ _).trans (feq nz_oC).1) ?_
    refine XS.aloadN X3.here hx rfl (hb hby d_248) rfl rfl ?_
    refine st4 _ ?_
    refine XS.aloadN X4.here hx rfl (hb hby d_250) rfl rfl ?_
    refine st5 _ ?_
    refine XS.icmpNo X5.here hx rfl (hb hby d_252) rfl (teq (by decide : (0 : Int32) = (0 : Int32))).2 ?_
    refine XS.aloadN X5.here hx rfl (hb hby d_253) rfl rfl ?_
    refine st6 _ ?_
    refine XS.aloadN X6.here hx rfl (hb hby d_255) rfl rfl ?_
    refine st7 _ ?_
    show SS p e below T7 m 44 #[rv a1, rv a2, rv a2] [(.ref v2), (.ref v1)] _
    refine st8 _ ?_
    refine XS.ifNo X8.here hx rfl (hb hby d_273) rfl ((if0 _ _).trans (feq (by decide : ¬ ((1 : Int32) = (0 : Int32)))).1) ?_
    refine XS.iconst X8.here hx rfl (hb hby d_274) ?_
    refine XS.goto X8.here hx rfl (pc0 := 51) (pc' := 55) rfl (hb hby d_275) (by decide) (by decide) ?_
    exact retN X8 hx (t := .boolean) hret (by simp) (hb hby d_276) hr
theorem own_eq_22tf (l : Launch) (Z : State) (a0 : Array Value) (hw : HW Z a0) (a1 : Addr) (a2 : Addr) (v1 : Addr) (v2 : Addr) (k1 : ClassId) (k2 : ClassId) (x1 : Int32) (y1 : Int32) (x2 : Int32) (y2 : Int32) (oC : Int32) (h0 : Heap) (n0 : Nat) (O0 : Old Z n0 h0) (E_a1 : EA21 Z h0 a1) (C_a1 : FA17 Z h0 a1 o0) (V_a1 : FA18 Z h0 a1 (.ref v1)) (A_a1 : Arv Z h0 v1 k1 .byte (2 : Int32) [(.int x1), (.int y1)] o0) (E_a2 : EA21 Z h0 a2) (C_a2 : FA17 Z h0 a2 o0) (V_a2 : FA18 Z h0 a2 (.ref v2)) (A_a2 : Arv Z h0 v2 k2 .byte (2 : Int32) [(.int x2), (.int y2)] o0) (ne12 : a1 ≠ a2) (S_oC : SA24 Z Z.heap (.int oC)) (nz_oC : ¬ (oC = (0 : Int32))) (xe0 : x1 = x2) (xe1 : ¬ (y1 = y2)) :
    Met l Z [] MY14 jdk_42_method_66_code 3 (some .boolean) ({ frames := 1, cells := 0, slots := 0, locals := 14 } : Room) #[(.ref a1), (.ref a2)] h0 (QI (0 : Int32) h0 n0) := by
  have W := @own_W _ _ hw
  refine own_mk (plainFor_of_name pn_95) ?_
  intro p e s m below meth c s₁ hZ hx hby hml hown hnm hret hlk X0 e0
  have N0 := Fr.nil n0
  obtain ⟨T1, X1, e1, st1⟩ := instY X0 hx hZ hown (W 59 rfl) e0 (Ins.self E_a2) (g := (mkF m 8 #[rv a1, rv a2, .unset] [(.ref a2)])) rfl rfl (hb hby d_241)
  obtain ⟨T2, X2, e2, st2⟩ := castY X1 hx hZ hown (W 59 rfl) e1 (Ins.self E_a2) (g := (mkF m 15 #[rv a1, rv a2, .unset] [(.ref a2)])) rfl rfl (hb hby d_244)
  obtain ⟨T3, X3, e3, st3⟩ := getS2 X2 hx hZ hown (host := "") (Or.inl (W 60 rfl)) Via.refl e2 (S_oC.ext O0.2) (g := (mkF m 19 #[rv a1, rv a2, rv a2] [])) rfl (hb hby d_246)
  obtain ⟨T4, X4, e4, st4⟩ := getF X3 hx hZ hown (host := "") (Or.inl (W 32 rfl)) Via.refl e3 C_a1 (g := (mkF m 26 #[rv a1, rv a2, rv a2] [(.ref a1)])) rfl rfl (hb hby d_249)
  obtain ⟨T5, X5, e5, st5⟩ := getF X4 hx hZ hown (host := "") (Or.inl (W 32 rfl)) Via.refl e4 C_a2 (g := (mkF m 30 #[rv a1, rv a2, rv a2] [(.ref a2), o0])) rfl rfl (hb hby d_251)
  obtain ⟨T6, X6, e6, st6⟩ := getF X5 hx hZ hown (host := "") (Or.inl (W 31 rfl)) Via.refl e5 V_a1 (g := (mkF m 37 #[rv a1, rv a2, rv a2] [(.ref a1)])) rfl rfl (hb hby d_254)
  obtain ⟨T7, X7, e7, st7⟩ := getF X6 hx hZ hown (host := "") (Or.inl (W 31 rfl)) Via.refl e6 V_a2 (g := (mkF m 41 #[rv a1, rv a2, rv a2] [(.ref a2), (.ref v1)])) rfl rfl (hb hby d_256)
  obtain ⟨_, T8, L8, X8, hQ8, st8⟩ := own_cs X7 hx hZ hown hml (W 61 rfl) (W 62 rfl) (W 63 rfl) (W 64 rfl) (rm24_equals l Z a0 hw v1 v2 k1 x1 y1 k2 x2 y2 h0 n0 O0 (A_a1) (A_a2) (xe0) (xe1)) e7 (hb hby d_257) 0 #[rv a1, rv a2, rv a2] [(.ref v1), (.ref v2)] [] pd_272
  obtain ⟨rfl, N8q, K8⟩ := hQ8
  have N9 := Fr.app N0 N8q
  refine ⟨T8, some o0, _, _, _, X8, by decide, by decide, nofun, ?_, fun fs hr => castTop (ef_271 m a1 a2) ?_⟩
  · show QI (0 : Int32) h0 n0 _ T8.heap _
    rw [K8]
    exact ⟨rfl, N9, rfl⟩
  · show SS p e below s₁ m 0 #[rv a1, rv a2, .unset] [] _
    refine XS.aloadN X0.here hx rfl (hb hby d_237) rfl rfl ?_
    refine XS.aloadN X0.here hx rfl (hb hby d_238) rfl rfl ?_
    refine Jvm.RoadKit.acmp (g := (mkF m 2 #[rv a1, rv a2, .unset] [(.ref a2), (.ref a1)])) X0 hx rfl rfl rfl (pc0 := 2) (pc' := 7) (same := false) rfl (hb hby d_239) rfl (decide_eq_false fun q => ne12 (Value.ref.inj q)) (by decide) (by decide) ?_
    refine XS.aloadN X0.here hx rfl (hb hby d_240) rfl rfl ?_
    refine st1 _ ?_
    refine XS.ifNo X1.here hx rfl (hb hby d_242) rfl ((if0 _ _).trans (feq (by decide : ¬ ((1 : Int32) = (0 : Int32)))).1) ?_
    refine XS.aloadN X1.here hx rfl (hb hby d_243) rfl rfl ?_
    refine st2 _ ?_
    refine XS.astoreN X2.here hx rfl (hb hby d_245) rfl rfl (l' := #[rv a1, rv a2, rv a2]) rfl ?_
    refine st3 _ ?_
    show SS p e below T3 m 22 #[rv a1, rv a2, rv a2] [(.int oC)] _
    refine XS.ifNo X3.here hx rfl (hb hby d_247) rfl ((if0 _ _).trans (feq nz_oC).1) ?_
    refine XS.aloadN X3.here hx rfl (hb hby d_248) rfl rfl ?_
    refine st4 _ ?_
    refine XS.aloadN X4.here hx rfl (hb hby d_250) rfl rfl ?_
    refine st5 _ ?_
    refine XS.icmpNo X5.here hx rfl (hb hby d_252) rfl (teq (by decide : (0 : Int32) = (0 : Int32))).2 ?_
    refine XS.aloadN X5.here hx rfl (hb hby d_253) rfl rfl ?_
    refine st6 _ ?_
    refine XS.aloadN X6.here hx rfl (hb hby d_255) rfl rfl ?_
    refine st7 _ ?_
    show SS p e below T7 m 44 #[rv a1, rv a2, rv a2] [(.ref v2), (.ref v1)] _
    refine st8 _ ?_
    refine XS.ifYes X8.here hx rfl (pc0 := 47) (pc' := 54) rfl (hb hby d_273) rfl ((if0 _ _).trans (teq (by decide : (0 : Int32) = (0 : Int32))).1) (by decide) (by decide) ?_
    refine XS.iconst X8.here hx rfl (hb hby d_279) ?_
    exact retN X8 hx (t := .boolean) hret (by simp) (hb hby d_276) hr
theorem own_eq_22f (l : Launch) (Z : State) (a0 : Array Value) (hw : HW Z a0) (a1 : Addr) (a2 : Addr) (v1 : Addr) (v2 : Addr) (k1 : ClassId) (k2 : ClassId) (x1 : Int32) (y1 : Int32) (x2 : Int32) (y2 : Int32) (oC : Int32) (h0 : Heap) (n0 : Nat) (O0 : Old Z n0 h0) (E_a1 : EA21 Z h0 a1) (C_a1 : FA17 Z h0 a1 o0) (V_a1 : FA18 Z h0 a1 (.ref v1)) (A_a1 : Arv Z h0 v1 k1 .byte (2 : Int32) [(.int x1), (.int y1)] o0) (E_a2 : EA21 Z h0 a2) (C_a2 : FA17 Z h0 a2 o0) (V_a2 : FA18 Z h0 a2 (.ref v2)) (A_a2 : Arv Z h0 v2 k2 .byte (2 : Int32) [(.int x2), (.int y2)] o0) (ne12 : a1 ≠ a2) (S_oC : SA24 Z Z.heap (.int oC)) (nz_oC : ¬ (oC = (0 : Int32))) (xe0 : ¬ (x1 = x2)) :
    Met l Z [] MY14 jdk_42_method_66_code 3 (some .boolean) ({ frames := 1, cells := 0, slots := 0, locals := 14 } : Room) #[(.ref a1), (.ref a2)] h0 (QI (0 : Int32) h0 n0) := by
  have W := @own_W _ _ hw
  refine own_mk (plainFor_of_name pn_95) ?_
  intro p e s m below meth c s₁ hZ hx hby hml hown hnm hret hlk X0 e0
  have N0 := Fr.nil n0
  obtain ⟨T1, X1, e1, st1⟩ := instY X0 hx hZ hown (W 59 rfl) e0 (Ins.self E_a2) (g := (mkF m 8 #[rv a1, rv a2, .unset] [(.ref a2)])) rfl rfl (hb hby d_241)
  obtain ⟨T2, X2, e2, st2⟩ := castY X1 hx hZ hown (W 59 rfl) e1 (Ins.self E_a2) (g := (mkF m 15 #[rv a1, rv a2, .unset] [(.ref a2)])) rfl rfl (hb hby d_244)
  obtain ⟨T3, X3, e3, st3⟩ := getS2 X2 hx hZ hown (host := "") (Or.inl (W 60 rfl)) Via.refl e2 (S_oC.ext O0.2) (g := (mkF m 19 #[rv a1, rv a2, rv a2] [])) rfl (hb hby d_246)
  obtain ⟨T4, X4, e4, st4⟩ := getF X3 hx hZ hown (host := "") (Or.inl (W 32 rfl)) Via.refl e3 C_a1 (g := (mkF m 26 #[rv a1, rv a2, rv a2] [(.ref a1)])) rfl rfl (hb hby d_249)
  obtain ⟨T5, X5, e5, st5⟩ := getF X4 hx hZ hown (host := "") (Or.inl (W 32 rfl)) Via.refl e4 C_a2 (g := (mkF m 30 #[rv a1, rv a2, rv a2] [(.ref a2), o0])) rfl rfl (hb hby d_251)
  obtain ⟨T6, X6, e6, st6⟩ := getF X5 hx hZ hown (host := "") (Or.inl (W 31 rfl)) Via.refl e5 V_a1 (g := (mkF m 37 #[rv a1, rv a2, rv a2] [(.ref a1)])) rfl rfl (hb hby d_254)
  obtain ⟨T7, X7, e7, st7⟩ := getF X6 hx hZ hown (host := "") (Or.inl (W 31 rfl)) Via.refl e6 V_a2 (g := (mkF m 41 #[rv a1, rv a2, rv a2] [(.ref a2), (.ref v1)])) rfl rfl (hb hby d_256)
  obtain ⟨_, T8, L8, X8, hQ8, st8⟩ := own_cs X7 hx hZ hown hml (W 61 rfl) (W 62 rfl) (W 63 rfl) (W 64 rfl) (rm25_equals l Z a0 hw v1 v2 k1 x1 y1 k2 x2 y2 h0 n0 O0 (A_a1) (A_a2) (xe0)) e7 (hb hby d_257) 0 #[rv a1, rv a2, rv a2] [(.ref v1), (.ref v2)] [] pd_272
  obtain ⟨rfl, N8q, K8⟩ := hQ8
  have N9 := Fr.app N0 N8q
  refine ⟨T8, some o0, _, _, _, X8, by decide, by decide, nofun, ?_, fun fs hr => castTop (ef_271 m a1 a2) ?_⟩
  · show QI (0 : Int32) h0 n0 _ T8.heap _
    rw [K8]
    exact ⟨rfl, N9, rfl⟩
  · show SS p e below s₁ m 0 #[rv a1, rv a2, .unset] [] _
    refine XS.aloadN X0.here hx rfl (hb hby d_237) rfl rfl ?_
    refine XS.aloadN X0.here hx rfl (hb hby d_238) rfl rfl ?_
    refine Jvm.RoadKit.acmp (g := (mkF m 2 #[rv a1, rv a2, .unset] [(.ref a2), (.ref a1)])) X0 hx rfl rfl rfl (pc0 := 2) (pc' := 7) (same := false) rfl (hb hby d_239) rfl (decide_eq_false fun q => ne12 (Value.ref.inj q)) (by decide) (by decide) ?_
    refine XS.aloadN X0.here hx rfl (hb hby d_240) rfl rfl ?_
    refine st1 _ ?_
    refine XS.ifNo X1.here hx rfl (hb hby d_242) rfl ((if0 _ _).trans (feq (by decide : ¬ ((1 : Int32) = (0 : Int32)))).1) ?_
    refine XS.aloadN X1.here hx rfl (hb hby d_243) rfl rfl ?_
    refine st2 _ ?_
    refine XS.astoreN X2.here hx rfl (hb hby d_245) rfl rfl (l' := #[rv a1, rv a2, rv a2]) rfl ?_
    refine st3 _ ?_
    show SS p e below T3 m 22 #[rv a1, rv a2, rv a2] [(.int oC)] _
    refine XS.ifNo X3.here hx rfl (hb hby d_247) rfl ((if0 _ _).trans (feq nz_oC).1) ?_
    refine XS.aloadN X3.here hx rfl (hb hby d_248) rfl rfl ?_
    refine st4 _ ?_
    refine XS.aloadN X4.here hx rfl (hb hby d_250) rfl rfl ?_
    refine st5 _ ?_
    refine XS.icmpNo X5.here hx rfl (hb hby d_252) rfl (teq (by decide : (0 : Int32) = (0 : Int32))).2 ?_
    refine XS.aloadN X5.here hx rfl (hb hby d_253) rfl rfl ?_
    refine st6 _ ?_
    refine XS.aloadN X6.here hx rfl (hb hby d_255) rfl rfl ?_
    refine st7 _ ?_
    show SS p e below T7 m 44 #[rv a1, rv a2, rv a2] [(.ref v2), (.ref v1)] _
    refine st8 _ ?_
    refine XS.ifYes X8.here hx rfl (pc0 := 47) (pc' := 54) rfl (hb hby d_273) rfl ((if0 _ _).trans (teq (by decide : (0 : Int32) = (0 : Int32))).1) (by decide) (by decide) ?_
    refine XS.iconst X8.here hx rfl (hb hby d_279) ?_
    exact retN X8 hx (t := .boolean) hret (by simp) (hb hby d_276) hr
theorem own_eqC (l : Launch) (Z : State) (a0 : Array Value) (hw : HW Z a0) (a1 : Addr) (a2 : Addr) (v1 : Addr) (v2 : Addr) (k1 : ClassId) (k2 : ClassId) (l1 : Int32) (x1 : Int32) (y1 : Int32) (l2 : Int32) (x2 : Int32) (y2 : Int32) (oC : Int32) (h0 : Heap) (n0 : Nat) (O0 : Old Z n0 h0) (E_a1 : EA21 Z h0 a1) (C_a1 : FA17 Z h0 a1 o0) (V_a1 : FA18 Z h0 a1 (.ref v1)) (A_a1 : Arv Z h0 v1 k1 .byte (own_sn l1) (own_sl l1 x1 y1) o0) (E_a2 : EA21 Z h0 a2) (C_a2 : FA17 Z h0 a2 o0) (V_a2 : FA18 Z h0 a2 (.ref v2)) (A_a2 : Arv Z h0 v2 k2 .byte (own_sn l2) (own_sl l2 x2 y2) o0) (ne12 : a1 ≠ a2) (S_oC : SA24 Z Z.heap (.int oC)) (nz_oC : ¬ (oC = (0 : Int32)))  :
    Met l Z [] MY14 jdk_42_method_66_code 3 (some .boolean) ({ frames := 1, cells := 0, slots := 0, locals := 14 } : Room) #[(.ref a1), (.ref a2)] h0 (QI (own_eqs l1 x1 y1 l2 x2 y2) h0 n0) := by
  rcases own_s3 l1 x1 y1 with ⟨h, e, q⟩ | ⟨h, e, q⟩ | ⟨h, h', e, q⟩ <;> rcases own_s3 l2 x2 y2 with ⟨u, f, r⟩ | ⟨u, f, r⟩ | ⟨u, u', f, r⟩ <;> rw [e, q] at A_a1 <;> rw [f, r] at A_a2
  · have z : own_eqs l1 x1 y1 l2 x2 y2 = 1 := by rw [own_eqs, e, f, if_pos rfl, if_pos h]
    rw [z]; exact own_eq_00 l Z a0 hw a1 a2 v1 v2 k1 k2 x1 y1 x2 y2 oC h0 n0 O0 E_a1 C_a1 V_a1 A_a1 E_a2 C_a2 V_a2 A_a2 ne12 S_oC nz_oC
  · have z : own_eqs l1 x1 y1 l2 x2 y2 = 0 := by rw [own_eqs, e, f]; rfl
    rw [z]; exact own_eq_01 l Z a0 hw a1 a2 v1 v2 k1 k2 x1 y1 x2 y2 oC h0 n0 O0 E_a1 C_a1 V_a1 A_a1 E_a2 C_a2 V_a2 A_a2 ne12 S_oC nz_oC
  · have z : own_eqs l1 x1 y1 l2 x2 y2 = 0 := by rw [own_eqs, e, f]; rfl
    rw [z]; exact own_eq_02 l Z a0 hw a1 a2 v1 v2 k1 k2 x1 y1 x2 y2 oC h0 n0 O0 E_a1 C_a1 V_a1 A_a1 E_a2 C_a2 V_a2 A_a2 ne12 S_oC nz_oC
  · have z : own_eqs l1 x1 y1 l2 x2 y2 = 0 := by rw [own_eqs, e, f]; rfl
    rw [z]; exact own_eq_10 l Z a0 hw a1 a2 v1 v2 k1 k2 x1 y1 x2 y2 oC h0 n0 O0 E_a1 C_a1 V_a1 A_a1 E_a2 C_a2 V_a2 A_a2 ne12 S_oC nz_oC
  · by_cases e0 : x1 = x2
    · have z : own_eqs l1 x1 y1 l2 x2 y2 = 1 := by rw [own_eqs, e, f, if_pos rfl, if_neg (by rw [h]; decide), if_pos e0, if_pos h]
      rw [z]; exact own_eq_11t l Z a0 hw a1 a2 v1 v2 k1 k2 x1 y1 x2 y2 oC h0 n0 O0 E_a1 C_a1 V_a1 A_a1 E_a2 C_a2 V_a2 A_a2 ne12 S_oC nz_oC e0
    · have z : own_eqs l1 x1 y1 l2 x2 y2 = 0 := by rw [own_eqs, e, f, if_pos rfl, if_neg (by rw [h]; decide), if_neg e0]
      rw [z]; exact own_eq_11f l Z a0 hw a1 a2 v1 v2 k1 k2 x1 y1 x2 y2 oC h0 n0 O0 E_a1 C_a1 V_a1 A_a1 E_a2 C_a2 V_a2 A_a2 ne12 S_oC nz_oC e0
  · have z : own_eqs l1 x1 y1 l2 x2 y2 = 0 := by rw [own_eqs, e, f]; rfl
    rw [z]; exact own_eq_12 l Z a0 hw a1 a2 v1 v2 k1 k2 x1 y1 x2 y2 oC h0 n0 O0 E_a1 C_a1 V_a1 A_a1 E_a2 C_a2 V_a2 A_a2 ne12 S_oC nz_oC
  · have z : own_eqs l1 x1 y1 l2 x2 y2 = 0 := by rw [own_eqs, e, f]; rfl
    rw [z]; exact own_eq_20 l Z a0 hw a1 a2 v1 v2 k1 k2 x1 y1 x2 y2 oC h0 n0 O0 E_a1 C_a1 V_a1 A_a1 E_a2 C_a2 V_a2 A_a2 ne12 S_oC nz_oC
  · have z : own_eqs l1 x1 y1 l2 x2 y2 = 0 := by rw [own_eqs, e, f]; rfl
    rw [z]; exact own_eq_21 l Z a0 hw a1 a2 v1 v2 k1 k2 x1 y1 x2 y2 oC h0 n0 O0 E_a1 C_a1 V_a1 A_a1 E_a2 C_a2 V_a2 A_a2 ne12 S_oC nz_oC
  · by_cases e0 : x1 = x2
    · by_cases e1 : y1 = y2
      · have z : own_eqs l1 x1 y1 l2 x2 y2 = 1 := by rw [own_eqs, e, f, if_pos rfl, if_neg h, if_pos e0, if_neg h', if_pos e1]
        rw [z]; exact own_eq_22tt l Z a0 hw a1 a2 v1 v2 k1 k2 x1 y1 x2 y2 oC h0 n0 O0 E_a1 C_a1 V_a1 A_a1 E_a2 C_a2 V_a2 A_a2 ne12 S_oC nz_oC e0 e1
      · have z : own_eqs l1 x1 y1 l2 x2 y2 = 0 := by rw [own_eqs, e, f, if_pos rfl, if_neg h, if_pos e0, if_neg h', if_neg e1]
        rw [z]; exact own_eq_22tf l Z a0 hw a1 a2 v1 v2 k1 k2 x1 y1 x2 y2 oC h0 n0 O0 E_a1 C_a1 V_a1 A_a1 E_a2 C_a2 V_a2 A_a2 ne12 S_oC nz_oC e0 e1
    · have z : own_eqs l1 x1 y1 l2 x2 y2 = 0 := by rw [own_eqs, e, f, if_pos rfl, if_neg h, if_neg e0]
      rw [z]; exact own_eq_22f l Z a0 hw a1 a2 v1 v2 k1 k2 x1 y1 x2 y2 oC h0 n0 O0 E_a1 C_a1 V_a1 A_a1 E_a2 C_a2 V_a2 A_a2 ne12 S_oC nz_oC e0
theorem own_len3 (b : Int32) : own_len b = 0 ∨ own_len b = 1 ∨ own_len b = 2 := by
  unfold own_len
  split
  · exact Or.inr (Or.inr rfl)
  · rename_i h
    have h1 := c_mask b 3 2 (by decide) (by decide)
    rw [Int32.lt_iff_toInt_lt] at h
    simp only [← Int32.toInt_inj, Int32.reduceToInt] at h h1 ⊢
    omega
theorem own_sn3 {l : Int32} (h : l = 0 ∨ l = 1 ∨ l = 2) : own_sn l = l := by rcases h with rfl | rfl | rfl <;> rfl
theorem own_bi {x y : Int32} (h : (x &&& (255 : Int32)).toInt8.toInt32 = (y &&& (255 : Int32)).toInt8.toInt32) : (x &&& (255 : Int32)) = (y &&& (255 : Int32)) := by
  rw [← (own_char _ (own_c255 x).1 (own_c255 x).2).2, ← (own_char _ (own_c255 y).1 (own_c255 y).2).2, h]
abbrev own_b0 (x : Int32) : Int32 := (x &&& (255 : Int32)).toInt8.toInt32
abbrev own_b1 (x : Int32) : Int32 := ((x.toUInt32 >>> ((8 : Int32) &&& 31).toUInt32).toInt32 &&& (255 : Int32)).toInt8.toInt32
theorem own_es {l1 l2 : Int32} (x y : Int32) (h1 : l1 = 0 ∨ l1 = 1 ∨ l1 = 2) (h2 : l2 = 0 ∨ l2 = 1 ∨ l2 = 2) : own_sm l1 x l2 y = own_eqs l1 (own_b0 x) (own_b1 x) l2 (own_b0 y) (own_b1 y) := by
  have b0 : (own_b0 x = own_b0 y) = ((x &&& (255 : Int32)) = (y &&& (255 : Int32))) := propext ⟨own_bi, fun h => by rw [own_b0, own_b0, h]⟩
  have b1 : (own_b1 x = own_b1 y) = ((own_s8 x &&& (255 : Int32)) = (own_s8 y &&& (255 : Int32))) := propext ⟨own_bi, fun h => by rw [own_s8, own_s8] at h; rw [own_b1, own_b1, h]⟩
  unfold own_sm own_eqs own_tl
  rw [own_sn3 h1, own_sn3 h2]
  simp only [b0, b1]
  by_cases hl : l1 = l2
  · subst hl
    rcases h1 with rfl | rfl | rfl <;> simp
  · simp [hl]
theorem own_ey {l1 l2 : Int32} (x1 y1 x2 y2 : Int32) (h1 : l1 = 0 ∨ l1 = 1 ∨ l1 = 2) (h2 : l2 = 0 ∨ l2 = 1 ∨ l2 = 2) : own_eqs l2 x2 y2 l1 x1 y1 = own_eqs l1 x1 y1 l2 x2 y2 := by
  unfold own_eqs
  rw [own_sn3 h1, own_sn3 h2]
  by_cases hl : l1 = l2
  · subst hl; simp only [eq_comm (a := x2), eq_comm (a := y2)]
  · simp [hl, Ne.symm hl]
theorem own_k4 (k : Int32) : k = 5 ∨ k = 6 ∨ k = 7 ∨ (¬ (k = 5) ∧ ¬ (k = 6) ∧ ¬ (k = 7)) := by
  by_cases h : k = 5
  · exact Or.inl h
  · by_cases h2 : k = 6
    · exact Or.inr (Or.inl h2)
    · by_cases h3 : k = 7
      · exact Or.inr (Or.inr (Or.inl h3))
      · exact Or.inr (Or.inr (Or.inr ⟨h, h2, h3⟩))
theorem own_e01 (l1 x1 y1 l2 x2 y2 : Int32) : ¬ (own_eqs l1 x1 y1 l2 x2 y2 = 0) ∨ own_eqs l1 x1 y1 l2 x2 y2 = 0 := by
  by_cases h : own_eqs l1 x1 y1 l2 x2 y2 = 0
  · exact Or.inr h
  · exact Or.inl h
theorem pd_291 : parseMethodDescriptor "(I)I" = some ⟨[.int], some .int⟩ := by decide +kernel
theorem pd_292 : parseMethodDescriptor "(II)Ljava/lang/String;" = some ⟨[.int, .int], some (.object "java/lang/String")⟩ := by decide +kernel
theorem d_293 : decode prog_37_method_1_code 0 = .ok (.aload_n 0, 1) := by decide +kernel
theorem d_294 : decode prog_37_method_1_code 1 = .ok (.invokespecial 1, 3) := by decide +kernel
theorem d_295 : decode prog_37_method_1_code 4 = .ok (.aload_n 0, 1) := by decide +kernel
theorem d_296 : decode prog_37_method_1_code 5 = .ok (.aload_n 1, 1) := by decide +kernel
theorem d_297 : decode prog_37_method_1_code 6 = .ok (.putfield 7, 3) := by decide +kernel
theorem d_298 : decode prog_37_method_1_code 9 = .ok (.aload_n 0, 1) := by decide +kernel
theorem d_299 : decode prog_37_method_1_code 10 = .ok (.aload_n 2, 1) := by decide +kernel
theorem d_300 : decode prog_37_method_1_code 11 = .ok (.putfield 13, 3) := by decide +kernel
theorem d_301 : decode prog_37_method_1_code 14 = .ok (.return_, 1) := by decide +kernel
theorem ef_302 (m : MethodId) (a1 : Addr) (a2 : Addr) (a3 : Addr) : entryFrame m #[(.ref a1), (.ref a2), (.ref a3)] 3 = mkF m 0 #[rv a1, rv a2, rv a3] [] := by first | (simp [entryFrame, mkF, argsToLocals, Value.category]; done) | rfl
theorem pn_303 : plainName "com/example/dossiertools/dossiertools/LeafReference" = true := by first | (simp [plainName, overriddenIn]; done) | decide +kernel
def Q26_init (Z : State) (a1 : Addr) (a2 : Addr) (a3 : Addr) (h0 : Heap) (n0 : Nat) (v : Option Value) (h : Heap) (L : List Loc) : Prop := v = none ∧ Fr n0 L ∧ Keep h0 h [a1] ∧ FA19 Z h a1 (.ref a2) ∧ FA20 Z h a1 (.ref a3)
theorem rm26_init (l : Launch) (Z : State) (a0 : Array Value) (hw : HW Z a0) (a1 : Addr) (a2 : Addr) (a3 : Addr) (h0 : Heap) (n0 : Nat) (O0 : Old Z n0 h0) (F_0 : EA23 Z h0 a1) (F_1 : FA19 Z h0 a1 .null) (g_2 : n0 ≤ a1) (F_3 : FA20 Z h0 a1 .null) :
    Met l Z [] MY15 prog_37_method_1_code 3 none ({ frames := 1, cells := 0, slots := 0, locals := 12 } : Room) #[(.ref a1), (.ref a2), (.ref a3)] h0 (Q26_init Z a1 a2 a3 h0 n0) := by
  have W := @own_W _ _ hw
  refine own_mk (plainFor_of_name pn_303) ?_
  intro p e s m below meth c s₁ hZ hx hby hml hown hnm hret hlk X0 e0
  have N0 := Fr.nil n0
  obtain ⟨T1, X1, e1, st1⟩ := initO X0 hx hZ hown (W 39 rfl) (W 23 rfl) (W 24 rfl) e0 (g := (mkF m 1 #[rv a1, rv a2, rv a3] [(.ref a1)])) rfl (by rw [hml]; rfl) rfl (hb hby d_294) (by decide) (W := 0) (by show 2 * 0 + _ ≤ _; exact Nat.le_of_eq rfl) (by decide)
  obtain ⟨T2, h2, X2, e2, W2, st2⟩ := putF X1 hx hZ hown (host := "") (Or.inl (W 40 rfl)) Via.refl e1 F_1 F_0 (Or.inr ⟨(W 41 rfl), rfl, hnm⟩) (W 34 rfl) (ty := (.object "java/lang/String")) (by decide) rfl rfl (g := (mkF m 6 #[rv a1, rv a2, rv a3] [(.ref a2), (.ref a1)])) rfl rfl (hb hby d_297)
  have O3 := O0.wr W2 g_2
  have K4 : Keep h0 h2 [a1] := Keep.wr (Keep.refl h0 [a1]) W2 (Or.inl (List.mem_of_getElem? (i := 0) rfl))
  have f5 : FA19 Z h2 a1 (.ref a2) := (F_1.same W2)
  have N6 := Fr.snoc X2 N0 g_2
  have f8 := (F_3.other W2 (Or.inr (slot_ne (Or.inr (W 43 rfl)) (Or.inr (W 41 rfl)) (by decide) (t := (.object "java/lang/String")) (t' := (.object "java/lang/String")) (by decide) (by decide))))
  have f9 := (F_0.wr W2)
  obtain ⟨T7, h7, X7, e7, W7, st7⟩ := putF X2 hx hZ hown (host := "") (Or.inl (W 42 rfl)) Via.refl e2 f8 f9 (Or.inr ⟨(W 43 rfl), rfl, hnm⟩) (W 34 rfl) (ty := (.object "java/lang/String")) (by decide) rfl rfl (g := (mkF m 11 #[rv a1, rv a2, rv a3] [(.ref a3), (.ref a1)])) rfl rfl (hb hby d_300)
  have O10 := O3.wr W7 g_2
  have K11 : Keep h0 h7 [a1] := Keep.wr K4 W7 (Or.inl (List.mem_of_getElem? (i := 0) rfl))
  have f12 : FA20 Z h7 a1 (.ref a3) := (f8.same W7)
  have N13 := Fr.snoc X7 N6 g_2
  have f14 := (f5.other W7 (Or.inr (slot_ne (Or.inr (W 41 rfl)) (Or.inr (W 43 rfl)) (by decide) (t := (.object "java/lang/String")) (t' := (.object "java/lang/String")) (by decide) (by decide))))
  refine ⟨T7, none, _, _, _, X7, by decide, by decide, (fun _ => rfl), ?_, fun fs hr => castTop (ef_302 m a1 a2 a3) ?_⟩
  · show Q26_init Z a1 a2 a3 h0 n0 _ T7.heap _
    rw [e7]
    exact ⟨rfl, N13, K11, f14, f12⟩
  · show SS p e below s₁ m 0 #[rv a1, rv a2, rv a3] [] _
    refine XS.aloadN X0.here hx rfl (hb hby d_293) rfl rfl ?_
    refine st1 _ ?_
    refine XS.aloadN X1.here hx rfl (hb hby d_295) rfl rfl ?_
    refine XS.aloadN X1.here hx rfl (hb hby d_296) rfl rfl ?_
    refine st2 _ ?_
    refine XS.aloadN X2.here hx rfl (hb hby d_298) rfl rfl ?_
    refine XS.aloadN X2.here hx rfl (hb hby d_299) rfl rfl ?_
    refine st7 _ ?_
    exact X7.returnOut hx hret (hb hby d_301) hr
theorem pd_304 : parseMethodDescriptor "(Ljava/lang/String;Ljava/lang/String;)V" = some ⟨[(.object "java/lang/String"), (.object "java/lang/String")], none⟩ := by decide +kernel
theorem d_305 : decode prog_37_method_5_code 0 = .ok (.aload_n 1, 1) := by decide +kernel
theorem d_306 : decode prog_37_method_5_code 1 = .ok (.instanceof 8, 3) := by decide +kernel
theorem d_307 : decode prog_37_method_5_code 4 = .ok (.ifCond .eq 40, 3) := by decide +kernel
theorem d_308 : decode prog_37_method_5_code 7 = .ok (.aload_n 1, 1) := by decide +kernel
theorem d_309 : decode prog_37_method_5_code 8 = .ok (.checkcast 8, 3) := by decide +kernel
theorem d_310 : decode prog_37_method_5_code 11 = .ok (.astore_n 2, 1) := by decide +kernel
theorem d_311 : decode prog_37_method_5_code 12 = .ok (.aload_n 0, 1) := by decide +kernel
theorem d_312 : decode prog_37_method_5_code 13 = .ok (.getfield 7, 3) := by decide +kernel
theorem d_313 : decode prog_37_method_5_code 16 = .ok (.aload_n 2, 1) := by decide +kernel
theorem d_314 : decode prog_37_method_5_code 17 = .ok (.getfield 7, 3) := by decide +kernel
theorem d_315 : decode prog_37_method_5_code 20 = .ok (.invokevirtual 58, 3) := by decide +kernel
theorem d_316 : decode jdk_42_method_66_code 5 = .ok (.iconst 1, 1) := by decide +kernel
theorem d_317 : decode jdk_42_method_66_code 6 = .ok (.ireturn, 1) := by decide +kernel
theorem ef_318 (m : MethodId) (a1 : Addr) : entryFrame m #[(.ref a1), (.ref a1)] 3 = mkF m 0 #[rv a1, rv a1, .unset] [] := by first | (simp [entryFrame, mkF, argsToLocals, Value.category]; done) | rfl
def Q27_equals (Z : State) (a1 : Addr) (h0 : Heap) (n0 : Nat) (v : Option Value) (h : Heap) (L : List Loc) : Prop := v = some (.int (1 : Int32)) ∧ Fr n0 L ∧ h = h0
theorem rm27_equals (l : Launch) (Z : State) (a0 : Array Value) (hw : HW Z a0) (a1 : Addr) (h0 : Heap) (n0 : Nat) (O0 : Old Z n0 h0)  :
    Met l Z [] MY14 jdk_42_method_66_code 3 (some .boolean) ({ frames := 0, cells := 0, slots := 0, locals := 0 } : Room) #[(.ref a1), (.ref a1)] h0 (Q27_equals Z a1 h0 n0) := by
  have W := @own_W _ _ hw
  refine own_mk (plainFor_of_name pn_95) ?_
  intro p e s m below meth c s₁ hZ hx hby hml hown hnm hret hlk X0 e0
  have N0 := Fr.nil n0
  refine ⟨s₁, some (.int (1 : Int32)), _, _, _, X0, by decide, by decide, nofun, ?_, fun fs hr => castTop (ef_318 m a1) ?_⟩
  · show Q27_equals Z a1 h0 n0 _ s₁.heap _
    rw [e0]
    exact ⟨rfl, N0, rfl⟩
  · show SS p e below s₁ m 0 #[rv a1, rv a1, .unset] [] _
    refine XS.aloadN X0.here hx rfl (hb hby d_237) rfl rfl ?_
    refine XS.aloadN X0.here hx rfl (hb hby d_238) rfl rfl ?_
    refine Jvm.RoadKit.acmp (g := (mkF m 2 #[rv a1, rv a1, .unset] [(.ref a1), (.ref a1)])) X0 hx rfl rfl rfl (pc0 := 2) (pc' := 5) (same := true) rfl (hb hby d_239) rfl (decide_eq_true rfl) (by decide) (by decide) ?_
    refine XS.iconst X0.here hx rfl (hb hby d_316) ?_
    exact retN X0 hx (t := .boolean) hret (by simp) (hb hby d_317) hr
theorem pd_319 : parseMethodDescriptor "(Ljava/lang/Object;)Z" = some ⟨[(.object "java/lang/Object")], some .boolean⟩ := by decide +kernel
theorem d_320 : decode prog_37_method_5_code 23 = .ok (.ifCond .eq 21, 3) := by decide +kernel
theorem d_321 : decode prog_37_method_5_code 26 = .ok (.aload_n 0, 1) := by decide +kernel
theorem d_322 : decode prog_37_method_5_code 27 = .ok (.getfield 13, 3) := by decide +kernel
theorem d_323 : decode prog_37_method_5_code 30 = .ok (.aload_n 2, 1) := by decide +kernel
theorem d_324 : decode prog_37_method_5_code 31 = .ok (.getfield 13, 3) := by decide +kernel
theorem d_325 : decode prog_37_method_5_code 34 = .ok (.invokevirtual 58, 3) := by decide +kernel
theorem d_326 : decode prog_37_method_5_code 37 = .ok (.ifCond .eq 7, 3) := by decide +kernel
theorem d_327 : decode prog_37_method_5_code 40 = .ok (.iconst 1, 1) := by decide +kernel
theorem d_328 : decode prog_37_method_5_code 41 = .ok (.goto 4, 3) := by decide +kernel
theorem d_329 : decode prog_37_method_5_code 45 = .ok (.ireturn, 1) := by decide +kernel
def Q28_equals (Z : State) (a1 : Addr) (a2 : Addr) (a3 : Addr) (h0 : Heap) (n0 : Nat) (v : Option Value) (h : Heap) (L : List Loc) : Prop := v = some (.int (1 : Int32)) ∧ Fr n0 L ∧ h = h0
theorem rm28_equals (l : Launch) (Z : State) (a0 : Array Value) (hw : HW Z a0) (a1 : Addr) (a2 : Addr) (a3 : Addr) (h0 : Heap) (n0 : Nat) (O0 : Old Z n0 h0) (F_0 : EA23 Z h0 a1) (F_1 : FA19 Z h0 a1 (.ref a2)) (F_2 : EA21 Z h0 a2) (F_3 : FA20 Z h0 a1 (.ref a3)) (F_4 : EA21 Z h0 a3) :
    Met l Z [] MY16 prog_37_method_5_code 3 (some .boolean) ({ frames := 1, cells := 0, slots := 0, locals := 14 } : Room) #[(.ref a1), (.ref a1)] h0 (Q28_equals Z a1 a2 a3 h0 n0) := by
  have W := @own_W _ _ hw
  refine own_mk (plainFor_of_name pn_303) ?_
  intro p e s m below meth c s₁ hZ hx hby hml hown hnm hret hlk X0 e0
  have N0 := Fr.nil n0
  obtain ⟨T1, X1, e1, st1⟩ := instY X0 hx hZ hown (W 52 rfl) e0 (Ins.self F_0) (g := (mkF m 1 #[rv a1, rv a1, .unset] [(.ref a1)])) rfl rfl (hb hby d_306)
  obtain ⟨T2, X2, e2, st2⟩ := castY X1 hx hZ hown (W 52 rfl) e1 (Ins.self F_0) (g := (mkF m 8 #[rv a1, rv a1, .unset] [(.ref a1)])) rfl rfl (hb hby d_309)
  obtain ⟨T3, X3, e3, st3⟩ := getF X2 hx hZ hown (host := "") (Or.inl (W 40 rfl)) Via.refl e2 F_1 (g := (mkF m 13 #[rv a1, rv a1, rv a1] [(.ref a1)])) rfl rfl (hb hby d_312)
  obtain ⟨T4, X4, e4, st4⟩ := getF X3 hx hZ hown (host := "") (Or.inl (W 40 rfl)) Via.refl e3 F_1 (g := (mkF m 17 #[rv a1, rv a1, rv a1] [(.ref a1), (.ref a2)])) rfl rfl (hb hby d_314)
  obtain ⟨_, T5, L5, X5, hQ5, st5⟩ := own_cv X4 hx hZ hown hml (W 54 rfl) (W 55 rfl) (notFace_of_selects (W 57 rfl)) (W 57 rfl) (W 56 rfl) (W 13 rfl) (W 58 rfl) (rm27_equals l Z a0 hw a2 h0 n0 O0 ) e4 F_2 (hb hby d_315) 0 #[rv a1, rv a1, rv a1] [(.ref a2)] [] pd_319
  obtain ⟨rfl, N5q, K5⟩ := hQ5
  have N6 := Fr.app N0 N5q
  obtain ⟨T7, X7, e7, st7⟩ := getF X5 hx hZ hown (host := "") (Or.inl (W 42 rfl)) Via.refl K5 F_3 (g := (mkF m 27 #[rv a1, rv a1, rv a1] [(.ref a1)])) rfl rfl (hb hby d_322)
  obtain ⟨T8, X8, e8, st8⟩ := getF X7 hx hZ hown (host := "") (Or.inl (W 42 rfl)) Via.refl e7 F_3 (g := (mkF m 31 #[rv a1, rv a1, rv a1] [(.ref a1), (.ref a3)])) rfl rfl (hb hby d_324)
  obtain ⟨_, T9, L9, X9, hQ9, st9⟩ := own_cv X8 hx hZ hown hml (W 54 rfl) (W 55 rfl) (notFace_of_selects (W 57 rfl)) (W 57 rfl) (W 56 rfl) (W 13 rfl) (W 58 rfl) (rm27_equals l Z a0 hw a3 h0 n0 O0 ) e8 F_4 (hb hby d_325) 0 #[rv a1, rv a1, rv a1] [(.ref a3)] [] pd_319
  obtain ⟨rfl, N9q, K9⟩ := hQ9
  have N10 := Fr.app N6 N9q
  refine ⟨T9, some (.int (1 : Int32)), _, _, _, X9, by decide, by decide, nofun, ?_, fun fs hr => castTop (ef_318 m a1) ?_⟩
  · show Q28_equals Z a1 a2 a3 h0 n0 _ T9.heap _
    rw [K9]
    exact ⟨rfl, N10, rfl⟩
  · show SS p e below s₁ m 0 #[rv a1, rv a1, .unset] [] _
    refine XS.aloadN X0.here hx rfl (hb hby d_305) rfl rfl ?_
    refine st1 _ ?_
    refine XS.ifNo X1.here hx rfl (hb hby d_307) rfl ((if0 _ _).trans (feq (by decide : ¬ ((1 : Int32) = (0 : Int32)))).1) ?_
    refine XS.aloadN X1.here hx rfl (hb hby d_308) rfl rfl ?_
    refine st2 _ ?_
    refine XS.astoreN X2.here hx rfl (hb hby d_310) rfl rfl (l' := #[rv a1, rv a1, rv a1]) rfl ?_
    refine XS.aloadN X2.here hx rfl (hb hby d_311) rfl rfl ?_
    refine st3 _ ?_
    refine XS.aloadN X3.here hx rfl (hb hby d_313) rfl rfl ?_
    refine st4 _ ?_
    show SS p e below T4 m 20 #[rv a1, rv a1, rv a1] [(.ref a2), (.ref a2)] _
    refine st5 _ ?_
    refine XS.ifNo X5.here hx rfl (hb hby d_320) rfl ((if0 _ _).trans (feq (by decide : ¬ ((1 : Int32) = (0 : Int32)))).1) ?_
    refine XS.aloadN X5.here hx rfl (hb hby d_321) rfl rfl ?_
    refine st7 _ ?_
    refine XS.aloadN X7.here hx rfl (hb hby d_323) rfl rfl ?_
    refine st8 _ ?_
    refine st9 _ ?_
    refine XS.ifNo X9.here hx rfl (hb hby d_326) rfl ((if0 _ _).trans (feq (by decide : ¬ ((1 : Int32) = (0 : Int32)))).1) ?_
    refine XS.iconst X9.here hx rfl (hb hby d_327) ?_
    refine XS.goto X9.here hx rfl (pc0 := 41) (pc' := 45) rfl (hb hby d_328) (by decide) (by decide) ?_
    show SS p e below T9 m 45 #[rv a1, rv a1, rv a1] [(.int (1 : Int32))] _
    exact retN X9 hx (t := .boolean) hret (by simp) (hb hby d_329) hr
theorem d_330 : decode prog_37_method_5_code 44 = .ok (.iconst 0, 1) := by decide +kernel
theorem ef_331 (m : MethodId) (a1 : Addr) : entryFrame m #[(.ref a1), .null] 3 = mkF m 0 #[rv a1, .val .null, .unset] [] := by first | (simp [entryFrame, mkF, argsToLocals, Value.category]; done) | rfl
def Q29_equals (Z : State) (a1 : Addr) (h0 : Heap) (n0 : Nat) (v : Option Value) (h : Heap) (L : List Loc) : Prop := v = some o0 ∧ Fr n0 L ∧ h = h0
theorem rm29_equals (l : Launch) (Z : State) (a0 : Array Value) (hw : HW Z a0) (a1 : Addr) (h0 : Heap) (n0 : Nat) (O0 : Old Z n0 h0)  :
    Met l Z [] MY16 prog_37_method_5_code 3 (some .boolean) ({ frames := 0, cells := 0, slots := 0, locals := 0 } : Room) #[(.ref a1), .null] h0 (Q29_equals Z a1 h0 n0) := by
  have W := @own_W _ _ hw
  refine own_mk (plainFor_of_name pn_303) ?_
  intro p e s m below meth c s₁ hZ hx hby hml hown hnm hret hlk X0 e0
  have N0 := Fr.nil n0
  refine ⟨s₁, some o0, _, _, _, X0, by decide, by decide, nofun, ?_, fun fs hr => castTop (ef_331 m a1) ?_⟩
  · show Q29_equals Z a1 h0 n0 _ s₁.heap _
    rw [e0]
    exact ⟨rfl, N0, rfl⟩
  · show SS p e below s₁ m 0 #[rv a1, .val .null, .unset] [] _
    refine XS.aloadN X0.here hx rfl (hb hby d_305) rfl rfl ?_
    refine X0.instanceofNull hx (g := (mkF m 1 #[rv a1, .val .null, .unset] [.null])) rfl rfl (hb hby d_306) _ ?_
    refine XS.ifYes X0.here hx rfl (pc0 := 4) (pc' := 44) rfl (hb hby d_307) rfl ((if0 _ _).trans (teq (by decide : (0 : Int32) = (0 : Int32))).1) (by decide) (by decide) ?_
    refine XS.iconst X0.here hx rfl (hb hby d_330) ?_
    exact retN X0 hx (t := .boolean) hret (by simp) (hb hby d_329) hr
def Q30_equals (Z : State) (a1 : Addr) (a2 : Addr) (h0 : Heap) (n0 : Nat) (v : Option Value) (h : Heap) (L : List Loc) : Prop := v = some o0 ∧ Fr n0 L ∧ h = h0
theorem rm30_equals (l : Launch) (Z : State) (a0 : Array Value) (hw : HW Z a0) (a1 : Addr) (a2 : Addr) (h0 : Heap) (n0 : Nat) (O0 : Old Z n0 h0) (F_0 : EA21 Z h0 a2) :
    Met l Z [] MY16 prog_37_method_5_code 3 (some .boolean) ({ frames := 0, cells := 0, slots := 0, locals := 0 } : Room) #[(.ref a1), (.ref a2)] h0 (Q30_equals Z a1 a2 h0 n0) := by
  have W := @own_W _ _ hw
  refine own_mk (plainFor_of_name pn_303) ?_
  intro p e s m below meth c s₁ hZ hx hby hml hown hnm hret hlk X0 e0
  have N0 := Fr.nil n0
  obtain ⟨T1, X1, e1, st1⟩ := instNo X0 hx hZ hown (W 52 rfl) e0 F_0 (own_nsno (W 87 rfl) (W 34 rfl) (NS.step (W 87 rfl) (own_nsroot (W 88 rfl) (W 34 rfl) (by decide)) (by decide)) (by decide)) (g := (mkF m 1 #[rv a1, rv a2, .unset] [(.ref a2)])) rfl rfl (hb hby d_306)
  refine ⟨T1, some o0, _, _, _, X1, by decide, by decide, nofun, ?_, fun fs hr => castTop (ef_271 m a1 a2) ?_⟩
  · show Q30_equals Z a1 a2 h0 n0 _ T1.heap _
    rw [e1]
    exact ⟨rfl, N0, rfl⟩
  · show SS p e below s₁ m 0 #[rv a1, rv a2, .unset] [] _
    refine XS.aloadN X0.here hx rfl (hb hby d_305) rfl rfl ?_
    refine st1 _ ?_
    refine XS.ifYes X1.here hx rfl (pc0 := 4) (pc' := 44) rfl (hb hby d_307) rfl ((if0 _ _).trans (teq (by decide : (0 : Int32) = (0 : Int32))).1) (by decide) (by decide) ?_
    refine XS.iconst X1.here hx rfl (hb hby d_330) ?_
    exact retN X1 hx (t := .boolean) hret (by simp) (hb hby d_329) hr
theorem pd_332 : parseMethodDescriptor "(IIII)Z" = some ⟨[.int, .int, .int, .int], some .boolean⟩ := by decide +kernel
def Q31_equals (Z : State) (a1 : Addr) (a2 : Addr) (a3 : Addr) (a4 : Addr) (a5 : Addr) (k6 : ClassId) (p7 : Int32) (p8 : Int32) (p9 : Int32) (a10 : Addr) (k11 : ClassId) (p12 : Int32) (p13 : Int32) (p14 : Int32) (p15 : Int32) (a16 : Addr) (a17 : Addr) (a18 : Addr) (k19 : ClassId) (p20 : Int32) (p21 : Int32) (p22 : Int32) (a23 : Addr) (k24 : ClassId) (p25 : Int32) (p26 : Int32) (p27 : Int32) (h0 : Heap) (n0 : Nat) (v : Option Value) (h : Heap) (L : List Loc) : Prop := v = some (.int (1 : Int32)) ∧ Fr n0 L ∧ h = h0
theorem rm31_equals (l : Launch) (Z : State) (a0 : Array Value) (hw : HW Z a0) (a1 : Addr) (a2 : Addr) (a3 : Addr) (a4 : Addr) (a5 : Addr) (k6 : ClassId) (p7 : Int32) (p8 : Int32) (p9 : Int32) (a10 : Addr) (k11 : ClassId) (p12 : Int32) (p13 : Int32) (p14 : Int32) (p15 : Int32) (a16 : Addr) (a17 : Addr) (a18 : Addr) (k19 : ClassId) (p20 : Int32) (p21 : Int32) (p22 : Int32) (a23 : Addr) (k24 : ClassId) (p25 : Int32) (p26 : Int32) (p27 : Int32) (h0 : Heap) (n0 : Nat) (O0 : Old Z n0 h0) (F_0 : EA23 Z h0 a2) (F_1 : FA19 Z h0 a1 (.ref a3)) (F_2 : FA19 Z h0 a2 (.ref a4)) (F_3 : EA21 Z h0 a3) (F_4 : FA17 Z h0 a3 o0) (F_5 : FA18 Z h0 a3 (.ref a5)) (F_6 : Arv Z h0 a5 k6 .byte (own_sn (own_len p7)) (own_sl (own_len p7) p8 p9) o0) (F_7 : EA21 Z h0 a4) (F_8 : FA17 Z h0 a4 o0) (F_9 : FA18 Z h0 a4 (.ref a10)) (F_10 : Arv Z h0 a10 k11 .byte (own_sn p12) (own_sl p12 p13 p14) o0) (S_11 : SA24 Z Z.heap (.int p15)) (ne_12 : a3 ≠ a4) (hc_13 : ¬ (p15 = (0 : Int32))) (hc_14 : ¬ ((own_eqs (own_len p7) p8 p9 p12 p13 p14) = (0 : Int32))) (F_15 : FA20 Z h0 a1 (.ref a16)) (F_16 : FA20 Z h0 a2 (.ref a17)) (F_17 : EA21 Z h0 a16) (F_18 : FA17 Z h0 a16 o0) (F_19 : FA18 Z h0 a16 (.ref a18)) (F_20 : Arv Z h0 a18 k19 .byte (own_sn (own_len p20)) (own_sl (own_len p20) p21 p22) o0) (F_21 : EA21 Z h0 a17) (F_22 : FA17 Z h0 a17 o0) (F_23 : FA18 Z h0 a17 (.ref a23)) (F_24 : Arv Z h0 a23 k24 .byte (own_sn p25) (own_sl p25 p26 p27) o0) (ne_25 : a16 ≠ a17) (hc_26 : ¬ ((own_eqs (own_len p20) p21 p22 p25 p26 p27) = (0 : Int32))) :
    Met l Z [] MY16 prog_37_method_5_code 3 (some .boolean) ({ frames := 2, cells := 0, slots := 0, locals := 28 } : Room) #[(.ref a1), (.ref a2)] h0 (Q31_equals Z a1 a2 a3 a4 a5 k6 p7 p8 p9 a10 k11 p12 p13 p14 p15 a16 a17 a18 k19 p20 p21 p22 a23 k24 p25 p26 p27 h0 n0) := by
  have W := @own_W _ _ hw
  refine own_mk (plainFor_of_name pn_303) ?_
  intro p e s m below meth c s₁ hZ hx hby hml hown hnm hret hlk X0 e0
  have N0 := Fr.nil n0
  obtain ⟨T1, X1, e1, st1⟩ := instY X0 hx hZ hown (W 52 rfl) e0 (Ins.self F_0) (g := (mkF m 1 #[rv a1, rv a2, .unset] [(.ref a2)])) rfl rfl (hb hby d_306)
  obtain ⟨T2, X2, e2, st2⟩ := castY X1 hx hZ hown (W 52 rfl) e1 (Ins.self F_0) (g := (mkF m 8 #[rv a1, rv a2, .unset] [(.ref a2)])) rfl rfl (hb hby d_309)
  obtain ⟨T3, X3, e3, st3⟩ := getF X2 hx hZ hown (host := "") (Or.inl (W 40 rfl)) Via.refl e2 F_1 (g := (mkF m 13 #[rv a1, rv a2, rv a2] [(.ref a1)])) rfl rfl (hb hby d_312)
  obtain ⟨T4, X4, e4, st4⟩ := getF X3 hx hZ hown (host := "") (Or.inl (W 40 rfl)) Via.refl e3 F_2 (g := (mkF m 17 #[rv a1, rv a2, rv a2] [(.ref a2), (.ref a3)])) rfl rfl (hb hby d_314)
  obtain ⟨_, T5, L5, X5, hQ5, st5⟩ := own_cv X4 hx hZ hown hml (W 54 rfl) (W 55 rfl) (notFace_of_selects (W 57 rfl)) (W 57 rfl) (W 56 rfl) (W 13 rfl) (W 58 rfl) (own_eqC l Z a0 hw a3 a4 a5 a10 k6 k11 (own_len p7) p8 p9 p12 p13 p14 p15 h0 n0 O0 (F_3) (F_4) (F_5) (F_6) (F_7) (F_8) (F_9) (F_10) (ne_12) (S_11) (hc_13)) e4 F_3 (hb hby d_315) 0 #[rv a1, rv a2, rv a2] [(.ref a4)] [] pd_319
  obtain ⟨rfl, N5q, K5⟩ := hQ5
  have N6 := Fr.app N0 N5q
  obtain ⟨T7, X7, e7, st7⟩ := getF X5 hx hZ hown (host := "") (Or.inl (W 42 rfl)) Via.refl K5 F_15 (g := (mkF m 27 #[rv a1, rv a2, rv a2] [(.ref a1)])) rfl rfl (hb hby d_322)
  obtain ⟨T8, X8, e8, st8⟩ := getF X7 hx hZ hown (host := "") (Or.inl (W 42 rfl)) Via.refl e7 F_16 (g := (mkF m 31 #[rv a1, rv a2, rv a2] [(.ref a2), (.ref a16)])) rfl rfl (hb hby d_324)
  obtain ⟨_, T9, L9, X9, hQ9, st9⟩ := own_cv X8 hx hZ hown hml (W 54 rfl) (W 55 rfl) (notFace_of_selects (W 57 rfl)) (W 57 rfl) (W 56 rfl) (W 13 rfl) (W 58 rfl) (own_eqC l Z a0 hw a16 a17 a18 a23 k19 k24 (own_len p20) p21 p22 p25 p26 p27 p15 h0 n0 O0 (F_17) (F_18) (F_19) (F_20) (F_21) (F_22) (F_23) (F_24) (ne_25) (S_11) (hc_13)) e8 F_17 (hb hby d_325) 0 #[rv a1, rv a2, rv a2] [(.ref a17)] [] pd_319
  obtain ⟨rfl, N9q, K9⟩ := hQ9
  have N10 := Fr.app N6 N9q
  refine ⟨T9, some (.int (1 : Int32)), _, _, _, X9, by decide, by decide, nofun, ?_, fun fs hr => castTop (ef_271 m a1 a2) ?_⟩
  · show Q31_equals Z a1 a2 a3 a4 a5 k6 p7 p8 p9 a10 k11 p12 p13 p14 p15 a16 a17 a18 k19 p20 p21 p22 a23 k24 p25 p26 p27 h0 n0 _ T9.heap _
    rw [K9]
    exact ⟨rfl, N10, rfl⟩
  · show SS p e below s₁ m 0 #[rv a1, rv a2, .unset] [] _
    refine XS.aloadN X0.here hx rfl (hb hby d_305) rfl rfl ?_
    refine st1 _ ?_
    refine XS.ifNo X1.here hx rfl (hb hby d_307) rfl ((if0 _ _).trans (feq (by decide : ¬ ((1 : Int32) = (0 : Int32)))).1) ?_
    refine XS.aloadN X1.here hx rfl (hb hby d_308) rfl rfl ?_
    refine st2 _ ?_
    refine XS.astoreN X2.here hx rfl (hb hby d_310) rfl rfl (l' := #[rv a1, rv a2, rv a2]) rfl ?_
    refine XS.aloadN X2.here hx rfl (hb hby d_311) rfl rfl ?_
    refine st3 _ ?_
    refine XS.aloadN X3.here hx rfl (hb hby d_313) rfl rfl ?_
    refine st4 _ ?_
    show SS p e below T4 m 20 #[rv a1, rv a2, rv a2] [(.ref a4), (.ref a3)] _
    refine st5 _ ?_
    refine XS.ifNo X5.here hx rfl (hb hby d_320) rfl ((if0 _ _).trans (feq hc_14).1) ?_
    refine XS.aloadN X5.here hx rfl (hb hby d_321) rfl rfl ?_
    refine st7 _ ?_
    refine XS.aloadN X7.here hx rfl (hb hby d_323) rfl rfl ?_
    refine st8 _ ?_
    refine st9 _ ?_
    refine XS.ifNo X9.here hx rfl (hb hby d_326) rfl ((if0 _ _).trans (feq hc_26).1) ?_
    refine XS.iconst X9.here hx rfl (hb hby d_327) ?_
    refine XS.goto X9.here hx rfl (pc0 := 41) (pc' := 45) rfl (hb hby d_328) (by decide) (by decide) ?_
    show SS p e below T9 m 45 #[rv a1, rv a2, rv a2] [(.int (1 : Int32))] _
    exact retN X9 hx (t := .boolean) hret (by simp) (hb hby d_329) hr
def Q32_equals (Z : State) (a1 : Addr) (a2 : Addr) (a3 : Addr) (a4 : Addr) (a5 : Addr) (k6 : ClassId) (p7 : Int32) (p8 : Int32) (p9 : Int32) (a10 : Addr) (k11 : ClassId) (p12 : Int32) (p13 : Int32) (p14 : Int32) (p15 : Int32) (a16 : Addr) (a17 : Addr) (a18 : Addr) (k19 : ClassId) (p20 : Int32) (p21 : Int32) (p22 : Int32) (a23 : Addr) (k24 : ClassId) (p25 : Int32) (p26 : Int32) (p27 : Int32) (h0 : Heap) (n0 : Nat) (v : Option Value) (h : Heap) (L : List Loc) : Prop := v = some (.int (1 : Int32)) ∧ Fr n0 L ∧ h = h0
theorem rm32_equals (l : Launch) (Z : State) (a0 : Array Value) (hw : HW Z a0) (a1 : Addr) (a2 : Addr) (a3 : Addr) (a4 : Addr) (a5 : Addr) (k6 : ClassId) (p7 : Int32) (p8 : Int32) (p9 : Int32) (a10 : Addr) (k11 : ClassId) (p12 : Int32) (p13 : Int32) (p14 : Int32) (p15 : Int32) (a16 : Addr) (a17 : Addr) (a18 : Addr) (k19 : ClassId) (p20 : Int32) (p21 : Int32) (p22 : Int32) (a23 : Addr) (k24 : ClassId) (p25 : Int32) (p26 : Int32) (p27 : Int32) (h0 : Heap) (n0 : Nat) (O0 : Old Z n0 h0) (F_0 : EA23 Z h0 a2) (F_1 : FA19 Z h0 a1 (.ref a3)) (F_2 : FA19 Z h0 a2 (.ref a4)) (F_3 : EA21 Z h0 a3) (F_4 : FA17 Z h0 a3 o0) (F_5 : FA18 Z h0 a3 (.ref a5)) (F_6 : Arv Z h0 a5 k6 .byte (own_sn p7) (own_sl p7 p8 p9) o0) (F_7 : EA21 Z h0 a4) (F_8 : FA17 Z h0 a4 o0) (F_9 : FA18 Z h0 a4 (.ref a10)) (F_10 : Arv Z h0 a10 k11 .byte (own_sn (own_len p12)) (own_sl (own_len p12) p13 p14) o0) (S_11 : SA24 Z Z.heap (.int p15)) (ne_12 : a3 ≠ a4) (hc_13 : ¬ (p15 = (0 : Int32))) (hc_14 : ¬ ((own_eqs p7 p8 p9 (own_len p12) p13 p14) = (0 : Int32))) (F_15 : FA20 Z h0 a1 (.ref a16)) (F_16 : FA20 Z h0 a2 (.ref a17)) (F_17 : EA21 Z h0 a16) (F_18 : FA17 Z h0 a16 o0) (F_19 : FA18 Z h0 a16 (.ref a18)) (F_20 : Arv Z h0 a18 k19 .byte (own_sn p20) (own_sl p20 p21 p22) o0) (F_21 : EA21 Z h0 a17) (F_22 : FA17 Z h0 a17 o0) (F_23 : FA18 Z h0 a17 (.ref a23)) (F_24 : Arv Z h0 a23 k24 .byte (own_sn (own_len p25)) (own_sl (own_len p25) p26 p27) o0) (ne_25 : a16 ≠ a17) (hc_26 : ¬ ((own_eqs p20 p21 p22 (own_len p25) p26 p27) = (0 : Int32))) :
    Met l Z [] MY16 prog_37_method_5_code 3 (some .boolean) ({ frames := 2, cells := 0, slots := 0, locals := 28 } : Room) #[(.ref a1), (.ref a2)] h0 (Q32_equals Z a1 a2 a3 a4 a5 k6 p7 p8 p9 a10 k11 p12 p13 p14 p15 a16 a17 a18 k19 p20 p21 p22 a23 k24 p25 p26 p27 h0 n0) := by
  have W := @own_W _ _ hw
  refine own_mk (plainFor_of_name pn_303) ?_
  intro p e s m below meth c s₁ hZ hx hby hml hown hnm hret hlk X0 e0
  have N0 := Fr.nil n0
  obtain ⟨T1, X1, e1, st1⟩ := instY X0 hx hZ hown (W 52 rfl) e0 (Ins.self F_0) (g := (mkF m 1 #[rv a1, rv a2, .unset] [(.ref a2)])) rfl rfl (hb hby d_306)
  obtain ⟨T2, X2, e2, st2⟩ := castY X1 hx hZ hown (W 52 rfl) e1 (Ins.self F_0) (g := (mkF m 8 #[rv a1, rv a2, .unset] [(.ref a2)])) rfl rfl (hb hby d_309)
  obtain ⟨T3, X3, e3, st3⟩ := getF X2 hx hZ hown (host := "") (Or.inl (W 40 rfl)) Via.refl e2 F_1 (g := (mkF m 13 #[rv a1, rv a2, rv a2] [(.ref a1)])) rfl rfl (hb hby d_312)
  obtain ⟨T4, X4, e4, st4⟩ := getF X3 hx hZ hown (host := "") (Or.inl (W 40 rfl)) Via.refl e3 F_2 (g := (mkF m 17 #[rv a1, rv a2, rv a2] [(.ref a2), (.ref a3)])) rfl rfl (hb hby d_314)
  obtain ⟨_, T5, L5, X5, hQ5, st5⟩ := own_cv X4 hx hZ hown hml (W 54 rfl) (W 55 rfl) (notFace_of_selects (W 57 rfl)) (W 57 rfl) (W 56 rfl) (W 13 rfl) (W 58 rfl) (own_eqC l Z a0 hw a3 a4 a5 a10 k6 k11 p7 p8 p9 (own_len p12) p13 p14 p15 h0 n0 O0 (F_3) (F_4) (F_5) (F_6) (F_7) (F_8) (F_9) (F_10) (ne_12) (S_11) (hc_13)) e4 F_3 (hb hby d_315) 0 #[rv a1, rv a2, rv a2] [(.ref a4)] [] pd_319
  obtain ⟨rfl, N5q, K5⟩ := hQ5
  have N6 := Fr.app N0 N5q
  obtain ⟨T7, X7, e7, st7⟩ := getF X5 hx hZ hown (host := "") (Or.inl (W 42 rfl)) Via.refl K5 F_15 (g := (mkF m 27 #[rv a1, rv a2, rv a2] [(.ref a1)])) rfl rfl (hb hby d_322)
  obtain ⟨T8, X8, e8, st8⟩ := getF X7 hx hZ hown (host := "") (Or.inl (W 42 rfl)) Via.refl e7 F_16 (g := (mkF m 31 #[rv a1, rv a2, rv a2] [(.ref a2), (.ref a16)])) rfl rfl (hb hby d_324)
  obtain ⟨_, T9, L9, X9, hQ9, st9⟩ := own_cv X8 hx hZ hown hml (W 54 rfl) (W 55 rfl) (notFace_of_selects (W 57 rfl)) (W 57 rfl) (W 56 rfl) (W 13 rfl) (W 58 rfl) (own_eqC l Z a0 hw a16 a17 a18 a23 k19 k24 p20 p21 p22 (own_len p25) p26 p27 p15 h0 n0 O0 (F_17) (F_18) (F_19) (F_20) (F_21) (F_22) (F_23) (F_24) (ne_25) (S_11) (hc_13)) e8 F_17 (hb hby d_325) 0 #[rv a1, rv a2, rv a2] [(.ref a17)] [] pd_319
  obtain ⟨rfl, N9q, K9⟩ := hQ9
  have N10 := Fr.app N6 N9q
  refine ⟨T9, some (.int (1 : Int32)), _, _, _, X9, by decide, by decide, nofun, ?_, fun fs hr => castTop (ef_271 m a1 a2) ?_⟩
  · show Q32_equals Z a1 a2 a3 a4 a5 k6 p7 p8 p9 a10 k11 p12 p13 p14 p15 a16 a17 a18 k19 p20 p21 p22 a23 k24 p25 p26 p27 h0 n0 _ T9.heap _
    rw [K9]
    exact ⟨rfl, N10, rfl⟩
  · show SS p e below s₁ m 0 #[rv a1, rv a2, .unset] [] _
    refine XS.aloadN X0.here hx rfl (hb hby d_305) rfl rfl ?_
    refine st1 _ ?_
    refine XS.ifNo X1.here hx rfl (hb hby d_307) rfl ((if0 _ _).trans (feq (by decide : ¬ ((1 : Int32) = (0 : Int32)))).1) ?_
    refine XS.aloadN X1.here hx rfl (hb hby d_308) rfl rfl ?_
    refine st2 _ ?_
    refine XS.astoreN X2.here hx rfl (hb hby d_310) rfl rfl (l' := #[rv a1, rv a2, rv a2]) rfl ?_
    refine XS.aloadN X2.here hx rfl (hb hby d_311) rfl rfl ?_
    refine st3 _ ?_
    refine XS.aloadN X3.here hx rfl (hb hby d_313) rfl rfl ?_
    refine st4 _ ?_
    show SS p e below T4 m 20 #[rv a1, rv a2, rv a2] [(.ref a4), (.ref a3)] _
    refine st5 _ ?_
    refine XS.ifNo X5.here hx rfl (hb hby d_320) rfl ((if0 _ _).trans (feq hc_14).1) ?_
    refine XS.aloadN X5.here hx rfl (hb hby d_321) rfl rfl ?_
    refine st7 _ ?_
    refine XS.aloadN X7.here hx rfl (hb hby d_323) rfl rfl ?_
    refine st8 _ ?_
    refine st9 _ ?_
    refine XS.ifNo X9.here hx rfl (hb hby d_326) rfl ((if0 _ _).trans (feq hc_26).1) ?_
    refine XS.iconst X9.here hx rfl (hb hby d_327) ?_
    refine XS.goto X9.here hx rfl (pc0 := 41) (pc' := 45) rfl (hb hby d_328) (by decide) (by decide) ?_
    show SS p e below T9 m 45 #[rv a1, rv a2, rv a2] [(.int (1 : Int32))] _
    exact retN X9 hx (t := .boolean) hret (by simp) (hb hby d_329) hr
def Q33_equals (Z : State) (a1 : Addr) (a2 : Addr) (a3 : Addr) (a4 : Addr) (a5 : Addr) (k6 : ClassId) (p7 : Int32) (p8 : Int32) (p9 : Int32) (a10 : Addr) (k11 : ClassId) (p12 : Int32) (p13 : Int32) (p14 : Int32) (p15 : Int32) (a16 : Addr) (a17 : Addr) (a18 : Addr) (k19 : ClassId) (p20 : Int32) (p21 : Int32) (p22 : Int32) (a23 : Addr) (k24 : ClassId) (p25 : Int32) (p26 : Int32) (p27 : Int32) (h0 : Heap) (n0 : Nat) (v : Option Value) (h : Heap) (L : List Loc) : Prop := v = some o0 ∧ Fr n0 L ∧ h = h0
theorem rm33_equals (l : Launch) (Z : State) (a0 : Array Value) (hw : HW Z a0) (a1 : Addr) (a2 : Addr) (a3 : Addr) (a4 : Addr) (a5 : Addr) (k6 : ClassId) (p7 : Int32) (p8 : Int32) (p9 : Int32) (a10 : Addr) (k11 : ClassId) (p12 : Int32) (p13 : Int32) (p14 : Int32) (p15 : Int32) (a16 : Addr) (a17 : Addr) (a18 : Addr) (k19 : ClassId) (p20 : Int32) (p21 : Int32) (p22 : Int32) (a23 : Addr) (k24 : ClassId) (p25 : Int32) (p26 : Int32) (p27 : Int32) (h0 : Heap) (n0 : Nat) (O0 : Old Z n0 h0) (F_0 : EA23 Z h0 a2) (F_1 : FA19 Z h0 a1 (.ref a3)) (F_2 : FA19 Z h0 a2 (.ref a4)) (F_3 : EA21 Z h0 a3) (F_4 : FA17 Z h0 a3 o0) (F_5 : FA18 Z h0 a3 (.ref a5)) (F_6 : Arv Z h0 a5 k6 .byte (own_sn (own_len p7)) (own_sl (own_len p7) p8 p9) o0) (F_7 : EA21 Z h0 a4) (F_8 : FA17 Z h0 a4 o0) (F_9 : FA18 Z h0 a4 (.ref a10)) (F_10 : Arv Z h0 a10 k11 .byte (own_sn p12) (own_sl p12 p13 p14) o0) (S_11 : SA24 Z Z.heap (.int p15)) (ne_12 : a3 ≠ a4) (hc_13 : ¬ (p15 = (0 : Int32))) (hc_14 : ¬ ((own_eqs (own_len p7) p8 p9 p12 p13 p14) = (0 : Int32))) (F_15 : FA20 Z h0 a1 (.ref a16)) (F_16 : FA20 Z h0 a2 (.ref a17)) (F_17 : EA21 Z h0 a16) (F_18 : FA17 Z h0 a16 o0) (F_19 : FA18 Z h0 a16 (.ref a18)) (F_20 : Arv Z h0 a18 k19 .byte (own_sn (own_len p20)) (own_sl (own_len p20) p21 p22) o0) (F_21 : EA21 Z h0 a17) (F_22 : FA17 Z h0 a17 o0) (F_23 : FA18 Z h0 a17 (.ref a23)) (F_24 : Arv Z h0 a23 k24 .byte (own_sn p25) (own_sl p25 p26 p27) o0) (ne_25 : a16 ≠ a17) (hc_26 : (own_eqs (own_len p20) p21 p22 p25 p26 p27) = (0 : Int32)) :
    Met l Z [] MY16 prog_37_method_5_code 3 (some .boolean) ({ frames := 2, cells := 0, slots := 0, locals := 28 } : Room) #[(.ref a1), (.ref a2)] h0 (Q33_equals Z a1 a2 a3 a4 a5 k6 p7 p8 p9 a10 k11 p12 p13 p14 p15 a16 a17 a18 k19 p20 p21 p22 a23 k24 p25 p26 p27 h0 n0) := by
  have W := @own_W _ _ hw
  refine own_mk (plainFor_of_name pn_303) ?_
  intro p e s m below meth c s₁ hZ hx hby hml hown hnm hret hlk X0 e0
  have N0 := Fr.nil n0
  obtain ⟨T1, X1, e1, st1⟩ := instY X0 hx hZ hown (W 52 rfl) e0 (Ins.self F_0) (g := (mkF m 1 #[rv a1, rv a2, .unset] [(.ref a2)])) rfl rfl (hb hby d_306)
  obtain ⟨T2, X2, e2, st2⟩ := castY X1 hx hZ hown (W 52 rfl) e1 (Ins.self F_0) (g := (mkF m 8 #[rv a1, rv a2, .unset] [(.ref a2)])) rfl rfl (hb hby d_309)
  obtain ⟨T3, X3, e3, st3⟩ := getF X2 hx hZ hown (host := "") (Or.inl (W 40 rfl)) Via.refl e2 F_1 (g := (mkF m 13 #[rv a1, rv a2, rv a2] [(.ref a1)])) rfl rfl (hb hby d_312)
  obtain ⟨T4, X4, e4, st4⟩ := getF X3 hx hZ hown (host := "") (Or.inl (W 40 rfl)) Via.refl e3 F_2 (g := (mkF m 17 #[rv a1, rv a2, rv a2] [(.ref a2), (.ref a3)])) rfl rfl (hb hby d_314)
  obtain ⟨_, T5, L5, X5, hQ5, st5⟩ := own_cv X4 hx hZ hown hml (W 54 rfl) (W 55 rfl) (notFace_of_selects (W 57 rfl)) (W 57 rfl) (W 56 rfl) (W 13 rfl) (W 58 rfl) (own_eqC l Z a0 hw a3 a4 a5 a10 k6 k11 (own_len p7) p8 p9 p12 p13 p14 p15 h0 n0 O0 (F_3) (F_4) (F_5) (F_6) (F_7) (F_8) (F_9) (F_10) (ne_12) (S_11) (hc_13)) e4 F_3 (hb hby d_315) 0 #[rv a1, rv a2, rv a2] [(.ref a4)] [] pd_319
  obtain ⟨rfl, N5q, K5⟩ := hQ5
  have N6 := Fr.app N0 N5q
  obtain ⟨T7, X7, e7, st7⟩ := getF X5 hx hZ hown (host := "") (Or.inl (W 42 rfl)) Via.refl K5 F_15 (g := (mkF m 27 #[rv a1, rv a2, rv a2] [(.ref a1)])) rfl rfl (hb hby d_322)
  obtain ⟨T8, X8, e8, st8⟩ := getF X7 hx hZ hown (host := "") (Or.inl (W 42 rfl)) Via.refl e7 F_16 (g := (mkF m 31 #[rv a1, rv a2, rv a2] [(.ref a2), (.ref a16)])) rfl rfl (hb hby d_324)
  obtain ⟨_, T9, L9, X9, hQ9, st9⟩ := own_cv X8 hx hZ hown hml (W 54 rfl) (W 55 rfl) (notFace_of_selects (W 57 rfl)) (W 57 rfl) (W 56 rfl) (W 13 rfl) (W 58 rfl) (own_eqC l Z a0 hw a16 a17 a18 a23 k19 k24 (own_len p20) p21 p22 p25 p26 p27 p15 h0 n0 O0 (F_17) (F_18) (F_19) (F_20) (F_21) (F_22) (F_23) (F_24) (ne_25) (S_11) (hc_13)) e8 F_17 (hb hby d_325) 0 #[rv a1, rv a2, rv a2] [(.ref a17)] [] pd_319
  obtain ⟨rfl, N9q, K9⟩ := hQ9
  have N10 := Fr.app N6 N9q
  refine ⟨T9, some o0, _, _, _, X9, by decide, by decide, nofun, ?_, fun fs hr => castTop (ef_271 m a1 a2) ?_⟩
  · show Q33_equals Z a1 a2 a3 a4 a5 k6 p7 p8 p9 a10 k11 p12 p13 p14 p15 a16 a17 a18 k19 p20 p21 p22 a23 k24 p25 p26 p27 h0 n0 _ T9.heap _
    rw [K9]
    exact ⟨rfl, N10, rfl⟩
  · show SS p e below s₁ m 0 #[rv a1, rv a2, .unset] [] _
    refine XS.aloadN X0.here hx rfl (hb hby d_305) rfl rfl ?_
    refine st1 _ ?_
    refine XS.ifNo X1.here hx rfl (hb hby d_307) rfl ((if0 _ _).trans (feq (by decide : ¬ ((1 : Int32) = (0 : Int32)))).1) ?_
    refine XS.aloadN X1.here hx rfl (hb hby d_308) rfl rfl ?_
    refine st2 _ ?_
    refine XS.astoreN X2.here hx rfl (hb hby d_310) rfl rfl (l' := #[rv a1, rv a2, rv a2]) rfl ?_
    refine XS.aloadN X2.here hx rfl (hb hby d_311) rfl rfl ?_
    refine st3 _ ?_
    refine XS.aloadN X3.here hx rfl (hb hby d_313) rfl rfl ?_
    refine st4 _ ?_
    show SS p e below T4 m 20 #[rv a1, rv a2, rv a2] [(.ref a4), (.ref a3)] _
    refine st5 _ ?_
    refine XS.ifNo X5.here hx rfl (hb hby d_320) rfl ((if0 _ _).trans (feq hc_14).1) ?_
    refine XS.aloadN X5.here hx rfl (hb hby d_321) rfl rfl ?_
    refine st7 _ ?_
    refine XS.aloadN X7.here hx rfl (hb hby d_323) rfl rfl ?_
    refine st8 _ ?_
    refine st9 _ ?_
    refine XS.ifYes X9.here hx rfl (pc0 := 37) (pc' := 44) rfl (hb hby d_326) rfl ((if0 _ _).trans (teq hc_26).1) (by decide) (by decide) ?_
    refine XS.iconst X9.here hx rfl (hb hby d_330) ?_
    exact retN X9 hx (t := .boolean) hret (by simp) (hb hby d_329) hr
def Q34_equals (Z : State) (a1 : Addr) (a2 : Addr) (a3 : Addr) (a4 : Addr) (a5 : Addr) (k6 : ClassId) (p7 : Int32) (p8 : Int32) (p9 : Int32) (a10 : Addr) (k11 : ClassId) (p12 : Int32) (p13 : Int32) (p14 : Int32) (p15 : Int32) (a16 : Addr) (a17 : Addr) (a18 : Addr) (k19 : ClassId) (p20 : Int32) (p21 : Int32) (p22 : Int32) (a23 : Addr) (k24 : ClassId) (p25 : Int32) (p26 : Int32) (p27 : Int32) (h0 : Heap) (n0 : Nat) (v : Option Value) (h : Heap) (L : List Loc) : Prop := v = some o0 ∧ Fr n0 L ∧ h = h0
theorem rm34_equals (l : Launch) (Z : State) (a0 : Array Value) (hw : HW Z a0) (a1 : Addr) (a2 : Addr) (a3 : Addr) (a4 : Addr) (a5 : Addr) (k6 : ClassId) (p7 : Int32) (p8 : Int32) (p9 : Int32) (a10 : Addr) (k11 : ClassId) (p12 : Int32) (p13 : Int32) (p14 : Int32) (p15 : Int32) (a16 : Addr) (a17 : Addr) (a18 : Addr) (k19 : ClassId) (p20 : Int32) (p21 : Int32) (p22 : Int32) (a23 : Addr) (k24 : ClassId) (p25 : Int32) (p26 : Int32) (p27 : Int32) (h0 : Heap) (n0 : Nat) (O0 : Old Z n0 h0) (F_0 : EA23 Z h0 a2) (F_1 : FA19 Z h0 a1 (.ref a3)) (F_2 : FA19 Z h0 a2 (.ref a4)) (F_3 : EA21 Z h0 a3) (F_4 : FA17 Z h0 a3 o0) (F_5 : FA18 Z h0 a3 (.ref a5)) (F_6 : Arv Z h0 a5 k6 .byte (own_sn p7) (own_sl p7 p8 p9) o0) (F_7 : EA21 Z h0 a4) (F_8 : FA17 Z h0 a4 o0) (F_9 : FA18 Z h0 a4 (.ref a10)) (F_10 : Arv Z h0 a10 k11 .byte (own_sn (own_len p12)) (own_sl (own_len p12) p13 p14) o0) (S_11 : SA24 Z Z.heap (.int p15)) (ne_12 : a3 ≠ a4) (hc_13 : ¬ (p15 = (0 : Int32))) (hc_14 : ¬ ((own_eqs p7 p8 p9 (own_len p12) p13 p14) = (0 : Int32))) (F_15 : FA20 Z h0 a1 (.ref a16)) (F_16 : FA20 Z h0 a2 (.ref a17)) (F_17 : EA21 Z h0 a16) (F_18 : FA17 Z h0 a16 o0) (F_19 : FA18 Z h0 a16 (.ref a18)) (F_20 : Arv Z h0 a18 k19 .byte (own_sn p20) (own_sl p20 p21 p22) o0) (F_21 : EA21 Z h0 a17) (F_22 : FA17 Z h0 a17 o0) (F_23 : FA18 Z h0 a17 (.ref a23)) (F_24 : Arv Z h0 a23 k24 .byte (own_sn (own_len p25)) (own_sl (own_len p25) p26 p27) o0) (ne_25 : a16 ≠ a17) (hc_26 : (own_eqs p20 p21 p22 (own_len p25) p26 p27) = (0 : Int32)) :
    Met l Z [] MY16 prog_37_method_5_code 3 (some .boolean) ({ frames := 2, cells := 0, slots := 0, locals := 28 } : Room) #[(.ref a1), (.ref a2)] h0 (Q34_equals Z a1 a2 a3 a4 a5 k6 p7 p8 p9 a10 k11 p12 p13 p14 p15 a16 a17 a18 k19 p20 p21 p22 a23 k24 p25 p26 p27 h0 n0) := by
  have W := @own_W _ _ hw
  refine own_mk (plainFor_of_name pn_303) ?_
  intro p e s m below meth c s₁ hZ hx hby hml hown hnm hret hlk X0 e0
  have N0 := Fr.nil n0
  obtain ⟨T1, X1, e1, st1⟩ := instY X0 hx hZ hown (W 52 rfl) e0 (Ins.self F_0) (g := (mkF m 1 #[rv a1, rv a2, .unset] [(.ref a2)])) rfl rfl (hb hby d_306)
  obtain ⟨T2, X2, e2, st2⟩ := castY X1 hx hZ hown (W 52 rfl) e1 (Ins.self F_0) (g := (mkF m 8 #[rv a1, rv a2, .unset] [(.ref a2)])) rfl rfl (hb hby d_309)
  obtain ⟨T3, X3, e3, st3⟩ := getF X2 hx hZ hown (host := "") (Or.inl (W 40 rfl)) Via.refl e2 F_1 (g := (mkF m 13 #[rv a1, rv a2, rv a2] [(.ref a1)])) rfl rfl (hb hby d_312)
  obtain ⟨T4, X4, e4, st4⟩ := getF X3 hx hZ hown (host := "") (Or.inl (W 40 rfl)) Via.refl e3 F_2 (g := (mkF m 17 #[rv a1, rv a2, rv a2] [(.ref a2), (.ref a3)])) rfl rfl (hb hby d_314)
  obtain ⟨_, T5, L5, X5, hQ5, st5⟩ := own_cv X4 hx hZ hown hml (W 54 rfl) (W 55 rfl) (notFace_of_selects (W 57 rfl)) (W 57 rfl) (W 56 rfl) (W 13 rfl) (W 58 rfl) (own_eqC l Z a0 hw a3 a4 a5 a10 k6 k11 p7 p8 p9 (own_len p12) p13 p14 p15 h0 n0 O0 (F_3) (F_4) (F_5) (F_6) (F_7) (F_8) (F_9) (F_10) (ne_12) (S_11) (hc_13)) e4 F_3 (hb hby d_315) 0 #[rv a1, rv a2, rv a2] [(.ref a4)] [] pd_319
  obtain ⟨rfl, N5q, K5⟩ := hQ5
  have N6 := Fr.app N0 N5q
  obtain ⟨T7, X7, e7, st7⟩ := getF X5 hx hZ hown (host := "") (Or.inl (W 42 rfl)) Via.refl K5 F_15 (g := (mkF m 27 #[rv a1, rv a2, rv a2] [(.ref a1)])) rfl rfl (hb hby d_322)
  obtain ⟨T8, X8, e8, st8⟩ := getF X7 hx hZ hown (host := "") (Or.inl (W 42 rfl)) Via.refl e7 F_16 (g := (mkF m 31 #[rv a1, rv a2, rv a2] [(.ref a2), (.ref a16)])) rfl rfl (hb hby d_324)
  obtain ⟨_, T9, L9, X9, hQ9, st9⟩ := own_cv X8 hx hZ hown hml (W 54 rfl) (W 55 rfl) (notFace_of_selects (W 57 rfl)) (W 57 rfl) (W 56 rfl) (W 13 rfl) (W 58 rfl) (own_eqC l Z a0 hw a16 a17 a18 a23 k19 k24 p20 p21 p22 (own_len p25) p26 p27 p15 h0 n0 O0 (F_17) (F_18) (F_19) (F_20) (F_21) (F_22) (F_23) (F_24) (ne_25) (S_11) (hc_13)) e8 F_17 (hb hby d_325) 0 #[rv a1, rv a2, rv a2] [(.ref a17)] [] pd_319
  obtain ⟨rfl, N9q, K9⟩ := hQ9
  have N10 := Fr.app N6 N9q
  refine ⟨T9, some o0, _, _, _, X9, by decide, by decide, nofun, ?_, fun fs hr => castTop (ef_271 m a1 a2) ?_⟩
  · show Q34_equals Z a1 a2 a3 a4 a5 k6 p7 p8 p9 a10 k11 p12 p13 p14 p15 a16 a17 a18 k19 p20 p21 p22 a23 k24 p25 p26 p27 h0 n0 _ T9.heap _
    rw [K9]
    exact ⟨rfl, N10, rfl⟩
  · show SS p e below s₁ m 0 #[rv a1, rv a2, .unset] [] _
    refine XS.aloadN X0.here hx rfl (hb hby d_305) rfl rfl ?_
    refine st1 _ ?_
    refine XS.ifNo X1.here hx rfl (hb hby d_307) rfl ((if0 _ _).trans (feq (by decide : ¬ ((1 : Int32) = (0 : Int32)))).1) ?_
    refine XS.aloadN X1.here hx rfl (hb hby d_308) rfl rfl ?_
    refine st2 _ ?_
    refine XS.astoreN X2.here hx rfl (hb hby d_310) rfl rfl (l' := #[rv a1, rv a2, rv a2]) rfl ?_
    refine XS.aloadN X2.here hx rfl (hb hby d_311) rfl rfl ?_
    refine st3 _ ?_
    refine XS.aloadN X3.here hx rfl (hb hby d_313) rfl rfl ?_
    refine st4 _ ?_
    show SS p e below T4 m 20 #[rv a1, rv a2, rv a2] [(.ref a4), (.ref a3)] _
    refine st5 _ ?_
    refine XS.ifNo X5.here hx rfl (hb hby d_320) rfl ((if0 _ _).trans (feq hc_14).1) ?_
    refine XS.aloadN X5.here hx rfl (hb hby d_321) rfl rfl ?_
    refine st7 _ ?_
    refine XS.aloadN X7.here hx rfl (hb hby d_323) rfl rfl ?_
    refine st8 _ ?_
    refine st9 _ ?_
    refine XS.ifYes X9.here hx rfl (pc0 := 37) (pc' := 44) rfl (hb hby d_326) rfl ((if0 _ _).trans (teq hc_26).1) (by decide) (by decide) ?_
    refine XS.iconst X9.here hx rfl (hb hby d_330) ?_
    exact retN X9 hx (t := .boolean) hret (by simp) (hb hby d_329) hr
def Q35_equals (Z : State) (a1 : Addr) (a2 : Addr) (a3 : Addr) (a4 : Addr) (a5 : Addr) (k6 : ClassId) (p7 : Int32) (p8 : Int32) (p9 : Int32) (a10 : Addr) (k11 : ClassId) (p12 : Int32) (p13 : Int32) (p14 : Int32) (p15 : Int32) (h0 : Heap) (n0 : Nat) (v : Option Value) (h : Heap) (L : List Loc) : Prop := v = some o0 ∧ Fr n0 L ∧ h = h0
theorem rm35_equals (l : Launch) (Z : State) (a0 : Array Value) (hw : HW Z a0) (a1 : Addr) (a2 : Addr) (a3 : Addr) (a4 : Addr) (a5 : Addr) (k6 : ClassId) (p7 : Int32) (p8 : Int32) (p9 : Int32) (a10 : Addr) (k11 : ClassId) (p12 : Int32) (p13 : Int32) (p14 : Int32) (p15 : Int32) (h0 : Heap) (n0 : Nat) (O0 : Old Z n0 h0) (F_0 : EA23 Z h0 a2) (F_1 : FA19 Z h0 a1 (.ref a3)) (F_2 : FA19 Z h0 a2 (.ref a4)) (F_3 : EA21 Z h0 a3) (F_4 : FA17 Z h0 a3 o0) (F_5 : FA18 Z h0 a3 (.ref a5)) (F_6 : Arv Z h0 a5 k6 .byte (own_sn (own_len p7)) (own_sl (own_len p7) p8 p9) o0) (F_7 : EA21 Z h0 a4) (F_8 : FA17 Z h0 a4 o0) (F_9 : FA18 Z h0 a4 (.ref a10)) (F_10 : Arv Z h0 a10 k11 .byte (own_sn p12) (own_sl p12 p13 p14) o0) (S_11 : SA24 Z Z.heap (.int p15)) (ne_12 : a3 ≠ a4) (hc_13 : ¬ (p15 = (0 : Int32))) (hc_14 : (own_eqs (own_len p7) p8 p9 p12 p13 p14) = (0 : Int32)) :
    Met l Z [] MY16 prog_37_method_5_code 3 (some .boolean) ({ frames := 2, cells := 0, slots := 0, locals := 28 } : Room) #[(.ref a1), (.ref a2)] h0 (Q35_equals Z a1 a2 a3 a4 a5 k6 p7 p8 p9 a10 k11 p12 p13 p14 p15 h0 n0) := by
  have W := @own_W _ _ hw
  refine own_mk (plainFor_of_name pn_303) ?_
  intro p e s m below meth c s₁ hZ hx hby hml hown hnm hret hlk X0 e0
  have N0 := Fr.nil n0
  obtain ⟨T1, X1, e1, st1⟩ := instY X0 hx hZ hown (W 52 rfl) e0 (Ins.self F_0) (g := (mkF m 1 #[rv a1, rv a2, .unset] [(.ref a2)])) rfl rfl (hb hby d_306)
  obtain ⟨T2, X2, e2, st2⟩ := castY X1 hx hZ hown (W 52 rfl) e1 (Ins.self F_0) (g := (mkF m 8 #[rv a1, rv a2, .unset] [(.ref a2)])) rfl rfl (hb hby d_309)
  obtain ⟨T3, X3, e3, st3⟩ := getF X2 hx hZ hown (host := "") (Or.inl (W 40 rfl)) Via.refl e2 F_1 (g := (mkF m 13 #[rv a1, rv a2, rv a2] [(.ref a1)])) rfl rfl (hb hby d_312)
  obtain ⟨T4, X4, e4, st4⟩ := getF X3 hx hZ hown (host := "") (Or.inl (W 40 rfl)) Via.refl e3 F_2 (g := (mkF m 17 #[rv a1, rv a2, rv a2] [(.ref a2), (.ref a3)])) rfl rfl (hb hby d_314)
  obtain ⟨_, T5, L5, X5, hQ5, st5⟩ := own_cv X4 hx hZ hown hml (W 54 rfl) (W 55 rfl) (notFace_of_selects (W 57 rfl)) (W 57 rfl) (W 56 rfl) (W 13 rfl) (W 58 rfl) (own_eqC l Z a0 hw a3 a4 a5 a10 k6 k11 (own_len p7) p8 p9 p12 p13 p14 p15 h0 n0 O0 (F_3) (F_4) (F_5) (F_6) (F_7) (F_8) (F_9) (F_10) (ne_12) (S_11) (hc_13)) e4 F_3 (hb hby d_315) 0 #[rv a1, rv a2, rv a2] [(.ref a4)] [] pd_319
  obtain ⟨rfl, N5q, K5⟩ := hQ5
  have N6 := Fr.app N0 N5q
  refine ⟨T5, some o0, _, _, _, X5, by decide, by decide, nofun, ?_, fun fs hr => castTop (ef_271 m a1 a2) ?_⟩
  · show Q35_equals Z a1 a2 a3 a4 a5 k6 p7 p8 p9 a10 k11 p12 p13 p14 p15 h0 n0 _ T5.heap _
    rw [K5]
    exact ⟨rfl, N6, rfl⟩
  · show SS p e below s₁ m 0 #[rv a1, rv a2, .unset] [] _
    refine XS.aloadN X0.here hx rfl (hb hby d_305) rfl rfl ?_
    refine st1 _ ?_
    refine XS.ifNo X1.here hx rfl (hb hby d_307) rfl ((if0 _ _).trans (feq (by decide : ¬ ((1 : Int32) = (0 : Int32)))).1) ?_
    refine XS.aloadN X1.here hx rfl (hb hby d_308) rfl rfl ?_
    refine st2 _ ?_
    refine XS.astoreN X2.here hx rfl (hb hby d_310) rfl rfl (l' := #[rv a1, rv a2, rv a2]) rfl ?_
    refine XS.aloadN X2.here hx rfl (hb hby d_311) rfl rfl ?_
    refine st3 _ ?_
    refine XS.aloadN X3.here hx rfl (hb hby d_313) rfl rfl ?_
    refine st4 _ ?_
    show SS p e below T4 m 20 #[rv a1, rv a2, rv a2] [(.ref a4), (.ref a3)] _
    refine st5 _ ?_
    refine XS.ifYes X5.here hx rfl (pc0 := 23) (pc' := 44) rfl (hb hby d_320) rfl ((if0 _ _).trans (teq hc_14).1) (by decide) (by decide) ?_
    refine XS.iconst X5.here hx rfl (hb hby d_330) ?_
    exact retN X5 hx (t := .boolean) hret (by simp) (hb hby d_329) hr
def Q36_equals (Z : State) (a1 : Addr) (a2 : Addr) (a3 : Addr) (a4 : Addr) (a5 : Addr) (k6 : ClassId) (p7 : Int32) (p8 : Int32) (p9 : Int32) (a10 : Addr) (k11 : ClassId) (p12 : Int32) (p13 : Int32) (p14 : Int32) (p15 : Int32) (h0 : Heap) (n0 : Nat) (v : Option Value) (h : Heap) (L : List Loc) : Prop := v = some o0 ∧ Fr n0 L ∧ h = h0
theorem rm36_equals (l : Launch) (Z : State) (a0 : Array Value) (hw : HW Z a0) (a1 : Addr) (a2 : Addr) (a3 : Addr) (a4 : Addr) (a5 : Addr) (k6 : ClassId) (p7 : Int32) (p8 : Int32) (p9 : Int32) (a10 : Addr) (k11 : ClassId) (p12 : Int32) (p13 : Int32) (p14 : Int32) (p15 : Int32) (h0 : Heap) (n0 : Nat) (O0 : Old Z n0 h0) (F_0 : EA23 Z h0 a2) (F_1 : FA19 Z h0 a1 (.ref a3)) (F_2 : FA19 Z h0 a2 (.ref a4)) (F_3 : EA21 Z h0 a3) (F_4 : FA17 Z h0 a3 o0) (F_5 : FA18 Z h0 a3 (.ref a5)) (F_6 : Arv Z h0 a5 k6 .byte (own_sn p7) (own_sl p7 p8 p9) o0) (F_7 : EA21 Z h0 a4) (F_8 : FA17 Z h0 a4 o0) (F_9 : FA18 Z h0 a4 (.ref a10)) (F_10 : Arv Z h0 a10 k11 .byte (own_sn (own_len p12)) (own_sl (own_len p12) p13 p14) o0) (S_11 : SA24 Z Z.heap (.int p15)) (ne_12 : a3 ≠ a4) (hc_13 : ¬ (p15 = (0 : Int32))) (hc_14 : (own_eqs p7 p8 p9 (own_len p12) p13 p14) = (0 : Int32)) :
    Met l Z [] MY16 prog_37_method_5_code 3 (some .boolean) ({ frames := 2, cells := 0, slots := 0, locals := 28 } : Room) #[(.ref a1), (.ref a2)] h0 (Q36_equals Z a1 a2 a3 a4 a5 k6 p7 p8 p9 a10 k11 p12 p13 p14 p15 h0 n0) := by
  have W := @own_W _ _ hw
  refine own_mk (plainFor_of_name pn_303) ?_
  intro p e s m below meth c s₁ hZ hx hby hml hown hnm hret hlk X0 e0
  have N0 := Fr.nil n0
  obtain ⟨T1, X1, e1, st1⟩ := instY X0 hx hZ hown (W 52 rfl) e0 (Ins.self F_0) (g := (mkF m 1 #[rv a1, rv a2, .unset] [(.ref a2)])) rfl rfl (hb hby d_306)
  obtain ⟨T2, X2, e2, st2⟩ := castY X1 hx hZ hown (W 52 rfl) e1 (Ins.self F_0) (g := (mkF m 8 #[rv a1, rv a2, .unset] [(.ref a2)])) rfl rfl (hb hby d_309)
  obtain ⟨T3, X3, e3, st3⟩ := getF X2 hx hZ hown (host := "") (Or.inl (W 40 rfl)) Via.refl e2 F_1 (g := (mkF m 13 #[rv a1, rv a2, rv a2] [(.ref a1)])) rfl rfl (hb hby d_312)
  obtain ⟨T4, X4, e4, st4⟩ := getF X3 hx hZ hown (host := "") (Or.inl (W 40 rfl)) Via.refl e3 F_2 (g := (mkF m 17 #[rv a1, rv a2, rv a2] [(.ref a2), (.ref a3)])) rfl rfl (hb hby d_314)
  obtain ⟨_, T5, L5, X5, hQ5, st5⟩ := own_cv X4 hx hZ hown hml (W 54 rfl) (W 55 rfl) (notFace_of_selects (W 57 rfl)) (W 57 rfl) (W 56 rfl) (W 13 rfl) (W 58 rfl) (own_eqC l Z a0 hw a3 a4 a5 a10 k6 k11 p7 p8 p9 (own_len p12) p13 p14 p15 h0 n0 O0 (F_3) (F_4) (F_5) (F_6) (F_7) (F_8) (F_9) (F_10) (ne_12) (S_11) (hc_13)) e4 F_3 (hb hby d_315) 0 #[rv a1, rv a2, rv a2] [(.ref a4)] [] pd_319
  obtain ⟨rfl, N5q, K5⟩ := hQ5
  have N6 := Fr.app N0 N5q
  refine ⟨T5, some o0, _, _, _, X5, by decide, by decide, nofun, ?_, fun fs hr => castTop (ef_271 m a1 a2) ?_⟩
  · show Q36_equals Z a1 a2 a3 a4 a5 k6 p7 p8 p9 a10 k11 p12 p13 p14 p15 h0 n0 _ T5.heap _
    rw [K5]
    exact ⟨rfl, N6, rfl⟩
  · show SS p e below s₁ m 0 #[rv a1, rv a2, .unset] [] _
    refine XS.aloadN X0.here hx rfl (hb hby d_305) rfl rfl ?_
    refine st1 _ ?_
    refine XS.ifNo X1.here hx rfl (hb hby d_307) rfl ((if0 _ _).trans (feq (by decide : ¬ ((1 : Int32) = (0 : Int32)))).1) ?_
    refine XS.aloadN X1.here hx rfl (hb hby d_308) rfl rfl ?_
    refine st2 _ ?_
    refine XS.astoreN X2.here hx rfl (hb hby d_310) rfl rfl (l' := #[rv a1, rv a2, rv a2]) rfl ?_
    refine XS.aloadN X2.here hx rfl (hb hby d_311) rfl rfl ?_
    refine st3 _ ?_
    refine XS.aloadN X3.here hx rfl (hb hby d_313) rfl rfl ?_
    refine st4 _ ?_
    show SS p e below T4 m 20 #[rv a1, rv a2, rv a2] [(.ref a4), (.ref a3)] _
    refine st5 _ ?_
    refine XS.ifYes X5.here hx rfl (pc0 := 23) (pc' := 44) rfl (hb hby d_320) rfl ((if0 _ _).trans (teq hc_14).1) (by decide) (by decide) ?_
    refine XS.iconst X5.here hx rfl (hb hby d_330) ?_
    exact retN X5 hx (t := .boolean) hret (by simp) (hb hby d_329) hr
theorem ef_333 (m : MethodId) (p1 : Int32) (p2 : Int32) (p3 : Int32) (p4 : Int32) (p5 : Int32) (p6 : Int32) : entryFrame m #[(.int p1), (.int p2), (.int p3), (.int p4), (.int p5), (.int p6)] maxLocals = mkF m 0 #[iv p1, iv p2, iv p3, iv p4, iv p5, iv p6, .unset, .unset, .unset, .unset, .unset, .unset, .unset, .unset, .unset, .unset, .unset, .unset, .unset, .unset, .unset, .unset, .unset] [] := by first | (simp [entryFrame, mkF, argsToLocals, Value.category, maxLocals]; done) | rfl
theorem rm0 (l : Launch) (Z : State) (a0 : Array Value) (hw : HW Z a0) (ws : List Jvm.Cond) (p1 : Int32) (p2 : Int32) (p3 : Int32) (p4 : Int32) (p5 : Int32) (p6 : Int32) (o_COMPACT_STRINGS : Int32) (o_SIOOBE_FORMATTER : Value) (h0 : Heap) (n0 : Nat) (O0 : Old Z n0 h0) (S_o_COMPACT_STRINGS : SA24 Z Z.heap (.int o_COMPACT_STRINGS)) (S_o_SIOOBE_FORMATTER : SA25 Z Z.heap o_SIOOBE_FORMATTER) (nz_o_COMPACT_STRINGS : ¬ (o_COMPACT_STRINGS = (0 : Int32))) (ir_o_SIOOBE_FORMATTER : o_SIOOBE_FORMATTER.isRef = true)  :
    MetH l Z ws x code maxLocals ret room_1 #[(.int p1), (.int p2), (.int p3), (.int p4), (.int p5), (.int p6)] h0 consts_1 [] (fun v _ L => Q0 n0 v L) := by
  have W := @own_W _ _ hw
  refine own_mkH (plainFor_of_name pn_16) ?_
  intro p e s m below meth c s₁ hZ hx hby hml hown hnm hret hlk X0 e0 H0 hsf
  have N0 := Fr.nil n0
  have C0 := CHr.refl H0
  have X1 := (show Stand p l e _ (s.setVm s.vm) m _ below meth c _ _ _ _ from X0)
  obtain ⟨_, T2, L2, X2, hQ2, st2⟩ := own_cs X1 hx hZ hown hml (W 0 rfl) (W 1 rfl) (W 2 rfl) (W 3 rfl) (own_lenC l Z a0 hw p5 h0 n0 O0 ) e0 (hb hby at_2) 0 #[iv p1, iv p2, iv p3, iv p4, iv p5, iv p6, .unset, .unset, .unset, .unset, .unset, .unset, .unset, .unset, .unset, .unset, .unset, .unset, .unset, .unset, .unset, .unset, .unset] [(.int p5)] [] pd_291
  obtain ⟨rfl, N2q, K2⟩ := hQ2
  have N3 := Fr.app N0 N2q
  obtain ⟨_, T4, L4, X4, hQ4, st4⟩ := own_cs X2 hx hZ hown hml (W 0 rfl) (W 1 rfl) (W 2 rfl) (W 3 rfl) (own_lenC l Z a0 hw ((p5.toUInt32 >>> ((2 : Int32) &&& 31).toUInt32).toInt32) h0 n0 O0 ) K2 (hb hby at_11) 0 #[iv p1, iv p2, iv p3, iv p4, iv p5, iv p6, iv (own_len p5), .unset, .unset, .unset, .unset, .unset, .unset, .unset, .unset, .unset, .unset, .unset, .unset, .unset, .unset, .unset, .unset] [(.int ((p5.toUInt32 >>> ((2 : Int32) &&& 31).toUInt32).toInt32))] [] pd_291
  obtain ⟨rfl, N4q, K4⟩ := hQ4
  have N5 := Fr.app N3 N4q
  obtain ⟨i6_0, i6_1, i6_2, i6_3, i6_4, i6_5, T6, h6, vm6, k6, L6, X6, e6, N6, K6, hS6, hk6, hZ6, hown6, c6, h3s, h3i, st6⟩ : ∃ (i6_0 : Int32) (i6_1 : Int32) (i6_2 : Int32) (i6_3 : Int32) (i6_4 : Int32) (i6_5 : Int32) (T6 : State) (h6 : Heap) (vm6 : Vm) (k6 : Nat) (L6 : List Loc), Stand p l e room_1 (s.setVm vm6) m #[(.int p1), (.int p2), (.int p3), (.int p4), (.int p5), (.int p6)] below meth c T6 L6 0 0 ∧ T6.heap = h6 ∧ Fr n0 L6 ∧ Keep h0 h6 [] ∧ s.Since vm6 k6 ∧ k6 ≤ h6.size ∧ Z.Warmed39 vm6 ∧ vm6.findClass "com/example/dossiertools/dossiertools/LeafReferenceEqualsPinLaw" = some m.cls ∧ CHr Z consts_1 s.vm h0 vm6 h6 ∧ (i6_2 = 0 ∨ i6_2 = 1 ∨ i6_2 = 2) ∧ (i6_4 = 0 ∨ i6_4 = 1 ∨ i6_4 = 2) ∧ ∀ t, SS p e below T6 m 107 #[iv p1, iv p2, iv p3, iv p4, iv p5, iv p6, iv (own_len p5), .val (.int (own_len ((p5.toUInt32 >>> ((2 : Int32) &&& 31).toUInt32).toInt32))), iv i6_0, iv i6_1, iv i6_2, iv i6_3, iv i6_4, iv i6_5, .unset, .unset, .unset, .unset, .unset, .unset, .unset, .unset, .unset] [] t → SS p e below T4 m 16 #[iv p1, iv p2, iv p3, iv p4, iv p5, iv p6, iv (own_len p5), .val (.int (own_len ((p5.toUInt32 >>> ((2 : Int32) &&& 31).toUInt32).toInt32))), .unset, .unset, .unset, .unset, .unset, .unset, .unset, .unset, .unset, .unset, .unset, .unset, .unset, .unset, .unset] [] t := by
    by_cases ja : (p6 &&& (1 : Int32)) = 0 <;> by_cases jb : (p6 &&& (2 : Int32)) = 0
    · obtain ⟨_, T7, L7, X7, hQ7, st7⟩ := own_cs X4 hx hZ hown hml (W 0 rfl) (W 1 rfl) (W 2 rfl) (W 3 rfl) (own_lenC l Z a0 hw ((p5.toUInt32 >>> ((4 : Int32) &&& 31).toUInt32).toInt32) h0 n0 O0 ) K4 (hb hby at_58) 0 #[iv p1, iv p2, iv p3, iv p4, iv p5, iv p6, iv (own_len p5), .val (.int (own_len ((p5.toUInt32 >>> ((2 : Int32) &&& 31).toUInt32).toInt32))), .val o0, .val o0, .unset, .unset, .unset, .unset, .unset, .unset, .unset, .unset, .unset, .unset, .unset, .unset, .unset] [(.int ((p5.toUInt32 >>> ((4 : Int32) &&& 31).toUInt32).toInt32))] [] pd_291
      obtain ⟨rfl, N7q, K7⟩ := hQ7
      have N8 := Fr.app N5 N7q
      obtain ⟨_, T9, L9, X9, hQ9, st9⟩ := own_cs X7 hx hZ hown hml (W 0 rfl) (W 1 rfl) (W 2 rfl) (W 3 rfl) (own_lenC l Z a0 hw ((p5.toUInt32 >>> ((6 : Int32) &&& 31).toUInt32).toInt32) h0 n0 O0 ) K7 (hb hby at_90) 0 #[iv p1, iv p2, iv p3, iv p4, iv p5, iv p6, iv (own_len p5), .val (.int (own_len ((p5.toUInt32 >>> ((2 : Int32) &&& 31).toUInt32).toInt32))), .val o0, .val o0, .val (.int (own_len ((p5.toUInt32 >>> ((4 : Int32) &&& 31).toUInt32).toInt32))), iv p2, .unset, .unset, .unset, .unset, .unset, .unset, .unset, .unset, .unset, .unset, .unset] [(.int ((p5.toUInt32 >>> ((6 : Int32) &&& 31).toUInt32).toInt32))] [] pd_291
      obtain ⟨rfl, N9q, K9⟩ := hQ9
      have N10 := Fr.app N8 N9q
      refine ⟨(0 : Int32), (0 : Int32), (own_len ((p5.toUInt32 >>> ((4 : Int32) &&& 31).toUInt32).toInt32)), p2, (own_len ((p5.toUInt32 >>> ((6 : Int32) &&& 31).toUInt32).toInt32)), p4, T9, h0, s.vm, _, _, X9.more (by decide) (by decide), K9, N10, (Keep.refl h0 []), ((State.WarmedH.refl s).since 0), (Nat.zero_le _), hZ, hown, (CHr.refl H0), own_len3 ((p5.toUInt32 >>> ((4 : Int32) &&& 31).toUInt32).toInt32), own_len3 ((p5.toUInt32 >>> ((6 : Int32) &&& 31).toUInt32).toInt32), fun t qt => ?_⟩
      show SS p e below T4 m 16 #[iv p1, iv p2, iv p3, iv p4, iv p5, iv p6, iv (own_len p5), .val (.int (own_len ((p5.toUInt32 >>> ((2 : Int32) &&& 31).toUInt32).toInt32))), .unset, .unset, .unset, .unset, .unset, .unset, .unset, .unset, .unset, .unset, .unset, .unset, .unset, .unset, .unset] [] _
      refine XS.iload X4.here hx rfl (hb hby at_16) rfl ?_
      refine XS.iconst X4.here hx rfl (hb hby at_18) ?_
      show SS p e below T4 m 19 #[iv p1, iv p2, iv p3, iv p4, iv p5, iv p6, iv (own_len p5), .val (.int (own_len ((p5.toUInt32 >>> ((2 : Int32) &&& 31).toUInt32).toInt32))), .unset, .unset, .unset, .unset, .unset, .unset, .unset, .unset, .unset, .unset, .unset, .unset, .unset, .unset, .unset] [(.int (1 : Int32)), (.int p6)] _
      refine XS.iand X4.here hx rfl (hb hby at_19) rfl ?_
      show SS p e below T4 m 20 #[iv p1, iv p2, iv p3, iv p4, iv p5, iv p6, iv (own_len p5), .val (.int (own_len ((p5.toUInt32 >>> ((2 : Int32) &&& 31).toUInt32).toInt32))), .unset, .unset, .unset, .unset, .unset, .unset, .unset, .unset, .unset, .unset, .unset, .unset, .unset, .unset, .unset] [(.int (p6 &&& (1 : Int32)))] _
      refine XS.ifYes X4.here hx rfl (pc0 := 20) (pc' := 27) rfl (hb hby at_20) rfl ((if0 _ _).trans (teq ja).1) (by decide) (by decide) ?_
      refine XS.iconst X4.here hx rfl (hb hby at_27) ?_
      refine XS.istore X4.here hx rfl (hb hby at_28) rfl (l' := #[iv p1, iv p2, iv p3, iv p4, iv p5, iv p6, iv (own_len p5), .val (.int (own_len ((p5.toUInt32 >>> ((2 : Int32) &&& 31).toUInt32).toInt32))), .val o0, .unset, .unset, .unset, .unset, .unset, .unset, .unset, .unset, .unset, .unset, .unset, .unset, .unset, .unset]) rfl ?_
      refine XS.iload X4.here hx rfl (hb hby at_30) rfl ?_
      refine XS.iconst X4.here hx rfl (hb hby at_32) ?_
      show SS p e below T4 m 33 #[iv p1, iv p2, iv p3, iv p4, iv p5, iv p6, iv (own_len p5), .val (.int (own_len ((p5.toUInt32 >>> ((2 : Int32) &&& 31).toUInt32).toInt32))), .val o0, .unset, .unset, .unset, .unset, .unset, .unset, .unset, .unset, .unset, .unset, .unset, .unset, .unset, .unset] [(.int (2 : Int32)), (.int p6)] _
      refine XS.iand X4.here hx rfl (hb hby at_33) rfl ?_
      show SS p e below T4 m 34 #[iv p1, iv p2, iv p3, iv p4, iv p5, iv p6, iv (own_len p5), .val (.int (own_len ((p5.toUInt32 >>> ((2 : Int32) &&& 31).toUInt32).toInt32))), .val o0, .unset, .unset, .unset, .unset, .unset, .unset, .unset, .unset, .unset, .unset, .unset, .unset, .unset, .unset] [(.int (p6 &&& (2 : Int32)))] _
      refine XS.ifYes X4.here hx rfl (pc0 := 34) (pc' := 41) rfl (hb hby at_34) rfl ((if0 _ _).trans (teq jb).1) (by decide) (by decide) ?_
      refine XS.iconst X4.here hx rfl (hb hby at_41) ?_
      refine XS.istore X4.here hx rfl (hb hby at_42) rfl (l' := #[iv p1, iv p2, iv p3, iv p4, iv p5, iv p6, iv (own_len p5), .val (.int (own_len ((p5.toUInt32 >>> ((2 : Int32) &&& 31).toUInt32).toInt32))), .val o0, .val o0, .unset, .unset, .unset, .unset, .unset, .unset, .unset, .unset, .unset, .unset, .unset, .unset, .unset]) rfl ?_
      refine XS.iload X4.here hx rfl (hb hby at_44) rfl ?_
      refine XS.ifYes X4.here hx rfl (pc0 := 46) (pc' := 54) rfl (hb hby at_46) rfl ((if0 _ _).trans (teq (by decide : (0 : Int32) = (0 : Int32))).1) (by decide) (by decide) ?_
      refine XS.iload X4.here hx rfl (hb hby at_54) rfl ?_
      refine XS.iconst X4.here hx rfl (hb hby at_56) ?_
      show SS p e below T4 m 57 #[iv p1, iv p2, iv p3, iv p4, iv p5, iv p6, iv (own_len p5), .val (.int (own_len ((p5.toUInt32 >>> ((2 : Int32) &&& 31).toUInt32).toInt32))), .val o0, .val o0, .unset, .unset, .unset, .unset, .unset, .unset, .unset, .unset, .unset, .unset, .unset, .unset, .unset] [(.int (4 : Int32)), (.int p5)] _
      refine XS.iushr X4.here hx rfl (hb hby at_57) rfl ?_
      show SS p e below T4 m 58 #[iv p1, iv p2, iv p3, iv p4, iv p5, iv p6, iv (own_len p5), .val (.int (own_len ((p5.toUInt32 >>> ((2 : Int32) &&& 31).toUInt32).toInt32))), .val o0, .val o0, .unset, .unset, .unset, .unset, .unset, .unset, .unset, .unset, .unset, .unset, .unset, .unset, .unset] [(.int ((p5.toUInt32 >>> ((4 : Int32) &&& 31).toUInt32).toInt32))] _
      refine st7 _ ?_
      refine XS.istore X7.here hx rfl (hb hby at_61) rfl (l' := #[iv p1, iv p2, iv p3, iv p4, iv p5, iv p6, iv (own_len p5), .val (.int (own_len ((p5.toUInt32 >>> ((2 : Int32) &&& 31).toUInt32).toInt32))), .val o0, .val o0, .val (.int (own_len ((p5.toUInt32 >>> ((4 : Int32) &&& 31).toUInt32).toInt32))), .unset, .unset, .unset, .unset, .unset, .unset, .unset, .unset, .unset, .unset, .unset, .unset]) rfl ?_
      refine XS.iload X7.here hx rfl (hb hby at_63) rfl ?_
      refine XS.ifYes X7.here hx rfl (pc0 := 65) (pc' := 72) rfl (hb hby at_65) rfl ((if0 _ _).trans (teq (by decide : (0 : Int32) = (0 : Int32))).1) (by decide) (by decide) ?_
      refine XS.iloadN X7.here hx rfl (hb hby at_72) rfl ?_
      refine XS.istore X7.here hx rfl (hb hby at_73) rfl (l' := #[iv p1, iv p2, iv p3, iv p4, iv p5, iv p6, iv (own_len p5), .val (.int (own_len ((p5.toUInt32 >>> ((2 : Int32) &&& 31).toUInt32).toInt32))), .val o0, .val o0, .val (.int (own_len ((p5.toUInt32 >>> ((4 : Int32) &&& 31).toUInt32).toInt32))), iv p2, .unset, .unset, .unset, .unset, .unset, .unset, .unset, .unset, .unset, .unset, .unset]) rfl ?_
      refine XS.iload X7.here hx rfl (hb hby at_75) rfl ?_
      refine XS.ifYes X7.here hx rfl (pc0 := 77) (pc' := 85) rfl (hb hby at_77) rfl ((if0 _ _).trans (teq (by decide : (0 : Int32) = (0 : Int32))).1) (by decide) (by decide) ?_
      refine XS.iload X7.here hx rfl (hb hby at_85) rfl ?_
      refine XS.bipush X7.here hx rfl (hb hby at_87) ?_
      show SS p e below T7 m 89 #[iv p1, iv p2, iv p3, iv p4, iv p5, iv p6, iv (own_len p5), .val (.int (own_len ((p5.toUInt32 >>> ((2 : Int32) &&& 31).toUInt32).toInt32))), .val o0, .val o0, .val (.int (own_len ((p5.toUInt32 >>> ((4 : Int32) &&& 31).toUInt32).toInt32))), iv p2, .unset, .unset, .unset, .unset, .unset, .unset, .unset, .unset, .unset, .unset, .unset] [(.int (6 : Int32)), (.int p5)] _
      refine XS.iushr X7.here hx rfl (hb hby at_89) rfl ?_
      show SS p e below T7 m 90 #[iv p1, iv p2, iv p3, iv p4, iv p5, iv p6, iv (own_len p5), .val (.int (own_len ((p5.toUInt32 >>> ((2 : Int32) &&& 31).toUInt32).toInt32))), .val o0, .val o0, .val (.int (own_len ((p5.toUInt32 >>> ((4 : Int32) &&& 31).toUInt32).toInt32))), iv p2, .unset, .unset, .unset, .unset, .unset, .unset, .unset, .unset, .unset, .unset, .unset] [(.int ((p5.toUInt32 >>> ((6 : Int32) &&& 31).toUInt32).toInt32))] _
      refine st9 _ ?_
      refine XS.istore X9.here hx rfl (hb hby at_93) rfl (l' := #[iv p1, iv p2, iv p3, iv p4, iv p5, iv p6, iv (own_len p5), .val (.int (own_len ((p5.toUInt32 >>> ((2 : Int32) &&& 31).toUInt32).toInt32))), .val o0, .val o0, .val (.int (own_len ((p5.toUInt32 >>> ((4 : Int32) &&& 31).toUInt32).toInt32))), iv p2, .val (.int (own_len ((p5.toUInt32 >>> ((6 : Int32) &&& 31).toUInt32).toInt32))), .unset, .unset, .unset, .unset, .unset, .unset, .unset, .unset, .unset, .unset]) rfl ?_
      refine XS.iload X9.here hx rfl (hb hby at_95) rfl ?_
      refine XS.ifYes X9.here hx rfl (pc0 := 97) (pc' := 104) rfl (hb hby at_97) rfl ((if0 _ _).trans (teq (by decide : (0 : Int32) = (0 : Int32))).1) (by decide) (by decide) ?_
      refine XS.iloadN X9.here hx rfl (hb hby at_104) rfl ?_
      refine XS.istore X9.here hx rfl (hb hby at_105) rfl (l' := #[iv p1, iv p2, iv p3, iv p4, iv p5, iv p6, iv (own_len p5), .val (.int (own_len ((p5.toUInt32 >>> ((2 : Int32) &&& 31).toUInt32).toInt32))), .val o0, .val o0, .val (.int (own_len ((p5.toUInt32 >>> ((4 : Int32) &&& 31).toUInt32).toInt32))), iv p2, .val (.int (own_len ((p5.toUInt32 >>> ((6 : Int32) &&& 31).toUInt32).toInt32))), iv p4, .unset, .unset, .unset, .unset, .unset, .unset, .unset, .unset, .unset]) rfl ?_
      exact qt
    · obtain ⟨_, T7, L7, X7, hQ7, st7⟩ := own_cs X4 hx hZ hown hml (W 0 rfl) (W 1 rfl) (W 2 rfl) (W 3 rfl) (own_lenC l Z a0 hw ((p5.toUInt32 >>> ((4 : Int32) &&& 31).toUInt32).toInt32) h0 n0 O0 ) K4 (hb hby at_58) 0 #[iv p1, iv p2, iv p3, iv p4, iv p5, iv p6, iv (own_len p5), .val (.int (own_len ((p5.toUInt32 >>> ((2 : Int32) &&& 31).toUInt32).toInt32))), .val o0, iv (1 : Int32), .unset, .unset, .unset, .unset, .unset, .unset, .unset, .unset, .unset, .unset, .unset, .unset, .unset] [(.int ((p5.toUInt32 >>> ((4 : Int32) &&& 31).toUInt32).toInt32))] [] pd_291
      obtain ⟨rfl, N7q, K7⟩ := hQ7
      have N8 := Fr.app N5 N7q
      refine ⟨(0 : Int32), (1 : Int32), (own_len ((p5.toUInt32 >>> ((4 : Int32) &&& 31).toUInt32).toInt32)), p2, (own_len ((p5.toUInt32 >>> ((2 : Int32) &&& 31).toUInt32).toInt32)), p3, T7, h0, s.vm, _, _, X7.more (by decide) (by decide), K7, N8, (Keep.refl h0 []), ((State.WarmedH.refl s).since 0), (Nat.zero_le _), hZ, hown, (CHr.refl H0), own_len3 ((p5.toUInt32 >>> ((4 : Int32) &&& 31).toUInt32).toInt32), own_len3 ((p5.toUInt32 >>> ((2 : Int32) &&& 31).toUInt32).toInt32), fun t qt => ?_⟩
      show SS p e below T4 m 16 #[iv p1, iv p2, iv p3, iv p4, iv p5, iv p6, iv (own_len p5), .val (.int (own_len ((p5.toUInt32 >>> ((2 : Int32) &&& 31).toUInt32).toInt32))), .unset, .unset, .unset, .unset, .unset, .unset, .unset, .unset, .unset, .unset, .unset, .unset, .unset, .unset, .unset] [] _
      refine XS.iload X4.here hx rfl (hb hby at_16) rfl ?_
      refine XS.iconst X4.here hx rfl (hb hby at_18) ?_
      show SS p e below T4 m 19 #[iv p1, iv p2, iv p3, iv p4, iv p5, iv p6, iv (own_len p5), .val (.int (own_len ((p5.toUInt32 >>> ((2 : Int32) &&& 31).toUInt32).toInt32))), .unset, .unset, .unset, .unset, .unset, .unset, .unset, .unset, .unset, .unset, .unset, .unset, .unset, .unset, .unset] [(.int (1 : Int32)), (.int p6)] _
      refine XS.iand X4.here hx rfl (hb hby at_19) rfl ?_
      show SS p e below T4 m 20 #[iv p1, iv p2, iv p3, iv p4, iv p5, iv p6, iv (own_len p5), .val (.int (own_len ((p5.toUInt32 >>> ((2 : Int32) &&& 31).toUInt32).toInt32))), .unset, .unset, .unset, .unset, .unset, .unset, .unset, .unset, .unset, .unset, .unset, .unset, .unset, .unset, .unset] [(.int (p6 &&& (1 : Int32)))] _
      refine XS.ifYes X4.here hx rfl (pc0 := 20) (pc' := 27) rfl (hb hby at_20) rfl ((if0 _ _).trans (teq ja).1) (by decide) (by decide) ?_
      refine XS.iconst X4.here hx rfl (hb hby at_27) ?_
      refine XS.istore X4.here hx rfl (hb hby at_28) rfl (l' := #[iv p1, iv p2, iv p3, iv p4, iv p5, iv p6, iv (own_len p5), .val (.int (own_len ((p5.toUInt32 >>> ((2 : Int32) &&& 31).toUInt32).toInt32))), .val o0, .unset, .unset, .unset, .unset, .unset, .unset, .unset, .unset, .unset, .unset, .unset, .unset, .unset, .unset]) rfl ?_
      refine XS.iload X4.here hx rfl (hb hby at_30) rfl ?_
      refine XS.iconst X4.here hx rfl (hb hby at_32) ?_
      show SS p e below T4 m 33 #[iv p1, iv p2, iv p3, iv p4, iv p5, iv p6, iv (own_len p5), .val (.int (own_len ((p5.toUInt32 >>> ((2 : Int32) &&& 31).toUInt32).toInt32))), .val o0, .unset, .unset, .unset, .unset, .unset, .unset, .unset, .unset, .unset, .unset, .unset, .unset, .unset, .unset] [(.int (2 : Int32)), (.int p6)] _
      refine XS.iand X4.here hx rfl (hb hby at_33) rfl ?_
      show SS p e below T4 m 34 #[iv p1, iv p2, iv p3, iv p4, iv p5, iv p6, iv (own_len p5), .val (.int (own_len ((p5.toUInt32 >>> ((2 : Int32) &&& 31).toUInt32).toInt32))), .val o0, .unset, .unset, .unset, .unset, .unset, .unset, .unset, .unset, .unset, .unset, .unset, .unset, .unset, .unset] [(.int (p6 &&& (2 : Int32)))] _
      refine XS.ifNo X4.here hx rfl (hb hby at_34) rfl ((if0 _ _).trans (feq jb).1) ?_
      refine XS.iconst X4.here hx rfl (hb hby at_37) ?_
      refine XS.goto X4.here hx rfl (pc0 := 38) (pc' := 42) rfl (hb hby at_38) (by decide) (by decide) ?_
      refine XS.istore X4.here hx rfl (hb hby at_42) rfl (l' := #[iv p1, iv p2, iv p3, iv p4, iv p5, iv p6, iv (own_len p5), .val (.int (own_len ((p5.toUInt32 >>> ((2 : Int32) &&& 31).toUInt32).toInt32))), .val o0, iv (1 : Int32), .unset, .unset, .unset, .unset, .unset, .unset, .unset, .unset, .unset, .unset, .unset, .unset, .unset]) rfl ?_
      refine XS.iload X4.here hx rfl (hb hby at_44) rfl ?_
      refine XS.ifYes X4.here hx rfl (pc0 := 46) (pc' := 54) rfl (hb hby at_46) rfl ((if0 _ _).trans (teq (by decide : (0 : Int32) = (0 : Int32))).1) (by decide) (by decide) ?_
      refine XS.iload X4.here hx rfl (hb hby at_54) rfl ?_
      refine XS.iconst X4.here hx rfl (hb hby at_56) ?_
      show SS p e below T4 m 57 #[iv p1, iv p2, iv p3, iv p4, iv p5, iv p6, iv (own_len p5), .val (.int (own_len ((p5.toUInt32 >>> ((2 : Int32) &&& 31).toUInt32).toInt32))), .val o0, iv (1 : Int32), .unset, .unset, .unset, .unset, .unset, .unset, .unset, .unset, .unset, .unset, .unset, .unset, .unset] [(.int (4 : Int32)), (.int p5)] _
      refine XS.iushr X4.here hx rfl (hb hby at_57) rfl ?_
      show SS p e below T4 m 58 #[iv p1, iv p2, iv p3, iv p4, iv p5, iv p6, iv (own_len p5), .val (.int (own_len ((p5.toUInt32 >>> ((2 : Int32) &&& 31).toUInt32).toInt32))), .val o0, iv (1 : Int32), .unset, .unset, .unset, .unset, .unset, .unset, .unset, .unset, .unset, .unset, .unset, .unset, .unset] [(.int ((p5.toUInt32 >>> ((4 : Int32) &&& 31).toUInt32).toInt32))] _
      refine st7 _ ?_
      refine XS.istore X7.here hx rfl (hb hby at_61) rfl (l' := #[iv p1, iv p2, iv p3, iv p4, iv p5, iv p6, iv (own_len p5), .val (.int (own_len ((p5.toUInt32 >>> ((2 : Int32) &&& 31).toUInt32).toInt32))), .val o0, iv (1 : Int32), .val (.int (own_len ((p5.toUInt32 >>> ((4 : Int32) &&& 31).toUInt32).toInt32))), .unset, .unset, .unset, .unset, .unset, .unset, .unset, .unset, .unset, .unset, .unset, .unset]) rfl ?_
      refine XS.iload X7.here hx rfl (hb hby at_63) rfl ?_
      refine XS.ifYes X7.here hx rfl (pc0 := 65) (pc' := 72) rfl (hb hby at_65) rfl ((if0 _ _).trans (teq (by decide : (0 : Int32) = (0 : Int32))).1) (by decide) (by decide) ?_
      refine XS.iloadN X7.here hx rfl (hb hby at_72) rfl ?_
      refine XS.istore X7.here hx rfl (hb hby at_73) rfl (l' := #[iv p1, iv p2, iv p3, iv p4, iv p5, iv p6, iv (own_len p5), .val (.int (own_len ((p5.toUInt32 >>> ((2 : Int32) &&& 31).toUInt32).toInt32))), .val o0, iv (1 : Int32), .val (.int (own_len ((p5.toUInt32 >>> ((4 : Int32) &&& 31).toUInt32).toInt32))), iv p2, .unset, .unset, .unset, .unset, .unset, .unset, .unset, .unset, .unset, .unset, .unset]) rfl ?_
      refine XS.iload X7.here hx rfl (hb hby at_75) rfl ?_
      refine XS.ifNo X7.here hx rfl (hb hby at_77) rfl ((if0 _ _).trans (feq (by decide : ¬ ((1 : Int32) = (0 : Int32)))).1) ?_
      refine XS.iload X7.here hx rfl (hb hby at_80) rfl ?_
      refine XS.goto X7.here hx rfl (pc0 := 82) (pc' := 93) rfl (hb hby at_82) (by decide) (by decide) ?_
      show SS p e below T7 m 93 #[iv p1, iv p2, iv p3, iv p4, iv p5, iv p6, iv (own_len p5), .val (.int (own_len ((p5.toUInt32 >>> ((2 : Int32) &&& 31).toUInt32).toInt32))), .val o0, iv (1 : Int32), .val (.int (own_len ((p5.toUInt32 >>> ((4 : Int32) &&& 31).toUInt32).toInt32))), iv p2, .unset, .unset, .unset, .unset, .unset, .unset, .unset, .unset, .unset, .unset, .unset] [(.int (own_len ((p5.toUInt32 >>> ((2 : Int32) &&& 31).toUInt32).toInt32)))] _
      refine XS.istore X7.here hx rfl (hb hby at_93) rfl (l' := #[iv p1, iv p2, iv p3, iv p4, iv p5, iv p6, iv (own_len p5), .val (.int (own_len ((p5.toUInt32 >>> ((2 : Int32) &&& 31).toUInt32).toInt32))), .val o0, iv (1 : Int32), .val (.int (own_len ((p5.toUInt32 >>> ((4 : Int32) &&& 31).toUInt32).toInt32))), iv p2, .val (.int (own_len ((p5.toUInt32 >>> ((2 : Int32) &&& 31).toUInt32).toInt32))), .unset, .unset, .unset, .unset, .unset, .unset, .unset, .unset, .unset, .unset]) rfl ?_
      refine XS.iload X7.here hx rfl (hb hby at_95) rfl ?_
      refine XS.ifNo X7.here hx rfl (hb hby at_97) rfl ((if0 _ _).trans (feq (by decide : ¬ ((1 : Int32) = (0 : Int32)))).1) ?_
      refine XS.iloadN X7.here hx rfl (hb hby at_100) rfl ?_
      refine XS.goto X7.here hx rfl (pc0 := 101) (pc' := 105) rfl (hb hby at_101) (by decide) (by decide) ?_
      refine XS.istore X7.here hx rfl (hb hby at_105) rfl (l' := #[iv p1, iv p2, iv p3, iv p4, iv p5, iv p6, iv (own_len p5), .val (.int (own_len ((p5.toUInt32 >>> ((2 : Int32) &&& 31).toUInt32).toInt32))), .val o0, iv (1 : Int32), .val (.int (own_len ((p5.toUInt32 >>> ((4 : Int32) &&& 31).toUInt32).toInt32))), iv p2, .val (.int (own_len ((p5.toUInt32 >>> ((2 : Int32) &&& 31).toUInt32).toInt32))), iv p3, .unset, .unset, .unset, .unset, .unset, .unset, .unset, .unset, .unset]) rfl ?_
      exact qt
    · obtain ⟨_, T7, L7, X7, hQ7, st7⟩ := own_cs X4 hx hZ hown hml (W 0 rfl) (W 1 rfl) (W 2 rfl) (W 3 rfl) (own_lenC l Z a0 hw ((p5.toUInt32 >>> ((6 : Int32) &&& 31).toUInt32).toInt32) h0 n0 O0 ) K4 (hb hby at_90) 0 #[iv p1, iv p2, iv p3, iv p4, iv p5, iv p6, iv (own_len p5), .val (.int (own_len ((p5.toUInt32 >>> ((2 : Int32) &&& 31).toUInt32).toInt32))), iv (1 : Int32), .val o0, iv (own_len p5), iv p1, .unset, .unset, .unset, .unset, .unset, .unset, .unset, .unset, .unset, .unset, .unset] [(.int ((p5.toUInt32 >>> ((6 : Int32) &&& 31).toUInt32).toInt32))] [] pd_291
      obtain ⟨rfl, N7q, K7⟩ := hQ7
      have N8 := Fr.app N5 N7q
      refine ⟨(1 : Int32), (0 : Int32), (own_len p5), p1, (own_len ((p5.toUInt32 >>> ((6 : Int32) &&& 31).toUInt32).toInt32)), p4, T7, h0, s.vm, _, _, X7.more (by decide) (by decide), K7, N8, (Keep.refl h0 []), ((State.WarmedH.refl s).since 0), (Nat.zero_le _), hZ, hown, (CHr.refl H0), own_len3 p5, own_len3 ((p5.toUInt32 >>> ((6 : Int32) &&& 31).toUInt32).toInt32), fun t qt => ?_⟩
      show SS p e below T4 m 16 #[iv p1, iv p2, iv p3, iv p4, iv p5, iv p6, iv (own_len p5), .val (.int (own_len ((p5.toUInt32 >>> ((2 : Int32) &&& 31).toUInt32).toInt32))), .unset, .unset, .unset, .unset, .unset, .unset, .unset, .unset, .unset, .unset, .unset, .unset, .unset, .unset, .unset] [] _
      refine XS.iload X4.here hx rfl (hb hby at_16) rfl ?_
      refine XS.iconst X4.here hx rfl (hb hby at_18) ?_
      show SS p e below T4 m 19 #[iv p1, iv p2, iv p3, iv p4, iv p5, iv p6, iv (own_len p5), .val (.int (own_len ((p5.toUInt32 >>> ((2 : Int32) &&& 31).toUInt32).toInt32))), .unset, .unset, .unset, .unset, .unset, .unset, .unset, .unset, .unset, .unset, .unset, .unset, .unset, .unset, .unset] [(.int (1 : Int32)), (.int p6)] _
      refine XS.iand X4.here hx rfl (hb hby at_19) rfl ?_
      show SS p e below T4 m 20 #[iv p1, iv p2, iv p3, iv p4, iv p5, iv p6, iv (own_len p5), .val (.int (own_len ((p5.toUInt32 >>> ((2 : Int32) &&& 31).toUInt32).toInt32))), .unset, .unset, .unset, .unset, .unset, .unset, .unset, .unset, .unset, .unset, .unset, .unset, .unset, .unset, .unset] [(.int (p6 &&& (1 : Int32)))] _
      refine XS.ifNo X4.here hx rfl (hb hby at_20) rfl ((if0 _ _).trans (feq ja).1) ?_
      refine XS.iconst X4.here hx rfl (hb hby at_23) ?_
      refine XS.goto X4.here hx rfl (pc0 := 24) (pc' := 28) rfl (hb hby at_24) (by decide) (by decide) ?_
      refine XS.istore X4.here hx rfl (hb hby at_28) rfl (l' := #[iv p1, iv p2, iv p3, iv p4, iv p5, iv p6, iv (own_len p5), .val (.int (own_len ((p5.toUInt32 >>> ((2 : Int32) &&& 31).toUInt32).toInt32))), iv (1 : Int32), .unset, .unset, .unset, .unset, .unset, .unset, .unset, .unset, .unset, .unset, .unset, .unset, .unset, .unset]) rfl ?_
      refine XS.iload X4.here hx rfl (hb hby at_30) rfl ?_
      refine XS.iconst X4.here hx rfl (hb hby at_32) ?_
      show SS p e below T4 m 33 #[iv p1, iv p2, iv p3, iv p4, iv p5, iv p6, iv (own_len p5), .val (.int (own_len ((p5.toUInt32 >>> ((2 : Int32) &&& 31).toUInt32).toInt32))), iv (1 : Int32), .unset, .unset, .unset, .unset, .unset, .unset, .unset, .unset, .unset, .unset, .unset, .unset, .unset, .unset] [(.int (2 : Int32)), (.int p6)] _
      refine XS.iand X4.here hx rfl (hb hby at_33) rfl ?_
      show SS p e below T4 m 34 #[iv p1, iv p2, iv p3, iv p4, iv p5, iv p6, iv (own_len p5), .val (.int (own_len ((p5.toUInt32 >>> ((2 : Int32) &&& 31).toUInt32).toInt32))), iv (1 : Int32), .unset, .unset, .unset, .unset, .unset, .unset, .unset, .unset, .unset, .unset, .unset, .unset, .unset, .unset] [(.int (p6 &&& (2 : Int32)))] _
      refine XS.ifYes X4.here hx rfl (pc0 := 34) (pc' := 41) rfl (hb hby at_34) rfl ((if0 _ _).trans (teq jb).1) (by decide) (by decide) ?_
      refine XS.iconst X4.here hx rfl (hb hby at_41) ?_
      refine XS.istore X4.here hx rfl (hb hby at_42) rfl (l' := #[iv p1, iv p2, iv p3, iv p4, iv p5, iv p6, iv (own_len p5), .val (.int (own_len ((p5.toUInt32 >>> ((2 : Int32) &&& 31).toUInt32).toInt32))), iv (1 : Int32), .val o0, .unset, .unset, .unset, .unset, .unset, .unset, .unset, .unset, .unset, .unset, .unset, .unset, .unset]) rfl ?_
      refine XS.iload X4.here hx rfl (hb hby at_44) rfl ?_
      refine XS.ifNo X4.here hx rfl (hb hby at_46) rfl ((if0 _ _).trans (feq (by decide : ¬ ((1 : Int32) = (0 : Int32)))).1) ?_
      refine XS.iload X4.here hx rfl (hb hby at_49) rfl ?_
      refine XS.goto X4.here hx rfl (pc0 := 51) (pc' := 61) rfl (hb hby at_51) (by decide) (by decide) ?_
      refine XS.istore X4.here hx rfl (hb hby at_61) rfl (l' := #[iv p1, iv p2, iv p3, iv p4, iv p5, iv p6, iv (own_len p5), .val (.int (own_len ((p5.toUInt32 >>> ((2 : Int32) &&& 31).toUInt32).toInt32))), iv (1 : Int32), .val o0, iv (own_len p5), .unset, .unset, .unset, .unset, .unset, .unset, .unset, .unset, .unset, .unset, .unset, .unset]) rfl ?_
      refine XS.iload X4.here hx rfl (hb hby at_63) rfl ?_
      refine XS.ifNo X4.here hx rfl (hb hby at_65) rfl ((if0 _ _).trans (feq (by decide : ¬ ((1 : Int32) = (0 : Int32)))).1) ?_
      show SS p e below T4 m 68 #[iv p1, iv p2, iv p3, iv p4, iv p5, iv p6, iv (own_len p5), .val (.int (own_len ((p5.toUInt32 >>> ((2 : Int32) &&& 31).toUInt32).toInt32))), iv (1 : Int32), .val o0, iv (own_len p5), .unset, .unset, .unset, .unset, .unset, .unset, .unset, .unset, .unset, .unset, .unset, .unset] [] _
      refine XS.iloadN X4.here hx rfl (hb hby at_68) rfl ?_
      refine XS.goto X4.here hx rfl (pc0 := 69) (pc' := 73) rfl (hb hby at_69) (by decide) (by decide) ?_
      refine XS.istore X4.here hx rfl (hb hby at_73) rfl (l' := #[iv p1, iv p2, iv p3, iv p4, iv p5, iv p6, iv (own_len p5), .val (.int (own_len ((p5.toUInt32 >>> ((2 : Int32) &&& 31).toUInt32).toInt32))), iv (1 : Int32), .val o0, iv (own_len p5), iv p1, .unset, .unset, .unset, .unset, .unset, .unset, .unset, .unset, .unset, .unset, .unset]) rfl ?_
      refine XS.iload X4.here hx rfl (hb hby at_75) rfl ?_
      refine XS.ifYes X4.here hx rfl (pc0 := 77) (pc' := 85) rfl (hb hby at_77) rfl ((if0 _ _).trans (teq (by decide : (0 : Int32) = (0 : Int32))).1) (by decide) (by decide) ?_
      refine XS.iload X4.here hx rfl (hb hby at_85) rfl ?_
      refine XS.bipush X4.here hx rfl (hb hby at_87) ?_
      show SS p e below T4 m 89 #[iv p1, iv p2, iv p3, iv p4, iv p5, iv p6, iv (own_len p5), .val (.int (own_len ((p5.toUInt32 >>> ((2 : Int32) &&& 31).toUInt32).toInt32))), iv (1 : Int32), .val o0, iv (own_len p5), iv p1, .unset, .unset, .unset, .unset, .unset, .unset, .unset, .unset, .unset, .unset, .unset] [(.int (6 : Int32)), (.int p5)] _
      refine XS.iushr X4.here hx rfl (hb hby at_89) rfl ?_
      show SS p e below T4 m 90 #[iv p1, iv p2, iv p3, iv p4, iv p5, iv p6, iv (own_len p5), .val (.int (own_len ((p5.toUInt32 >>> ((2 : Int32) &&& 31).toUInt32).toInt32))), iv (1 : Int32), .val o0, iv (own_len p5), iv p1, .unset, .unset, .unset, .unset, .unset, .unset, .unset, .unset, .unset, .unset, .unset] [(.int ((p5.toUInt32 >>> ((6 : Int32) &&& 31).toUInt32).toInt32))] _
      refine st7 _ ?_
      refine XS.istore X7.here hx rfl (hb hby at_93) rfl (l' := #[iv p1, iv p2, iv p3, iv p4, iv p5, iv p6, iv (own_len p5), .val (.int (own_len ((p5.toUInt32 >>> ((2 : Int32) &&& 31).toUInt32).toInt32))), iv (1 : Int32), .val o0, iv (own_len p5), iv p1, .val (.int (own_len ((p5.toUInt32 >>> ((6 : Int32) &&& 31).toUInt32).toInt32))), .unset, .unset, .unset, .unset, .unset, .unset, .unset, .unset, .unset, .unset]) rfl ?_
      refine XS.iload X7.here hx rfl (hb hby at_95) rfl ?_
      refine XS.ifYes X7.here hx rfl (pc0 := 97) (pc' := 104) rfl (hb hby at_97) rfl ((if0 _ _).trans (teq (by decide : (0 : Int32) = (0 : Int32))).1) (by decide) (by decide) ?_
      refine XS.iloadN X7.here hx rfl (hb hby at_104) rfl ?_
      refine XS.istore X7.here hx rfl (hb hby at_105) rfl (l' := #[iv p1, iv p2, iv p3, iv p4, iv p5, iv p6, iv (own_len p5), .val (.int (own_len ((p5.toUInt32 >>> ((2 : Int32) &&& 31).toUInt32).toInt32))), iv (1 : Int32), .val o0, iv (own_len p5), iv p1, .val (.int (own_len ((p5.toUInt32 >>> ((6 : Int32) &&& 31).toUInt32).toInt32))), iv p4, .unset, .unset, .unset, .unset, .unset, .unset, .unset, .unset, .unset]) rfl ?_
      exact qt
    · refine ⟨(1 : Int32), (1 : Int32), (own_len p5), p1, (own_len ((p5.toUInt32 >>> ((2 : Int32) &&& 31).toUInt32).toInt32)), p3, T4, h0, s.vm, _, _, X4.more (by decide) (by decide), K4, N5, (Keep.refl h0 []), ((State.WarmedH.refl s).since 0), (Nat.zero_le _), hZ, hown, (CHr.refl H0), own_len3 p5, own_len3 ((p5.toUInt32 >>> ((2 : Int32) &&& 31).toUInt32).toInt32), fun t qt => ?_⟩
      show SS p e below T4 m 16 #[iv p1, iv p2, iv p3, iv p4, iv p5, iv p6, iv (own_len p5), .val (.int (own_len ((p5.toUInt32 >>> ((2 : Int32) &&& 31).toUInt32).toInt32))), .unset, .unset, .unset, .unset, .unset, .unset, .unset, .unset, .unset, .unset, .unset, .unset, .unset, .unset, .unset] [] _
      refine XS.iload X4.here hx rfl (hb hby at_16) rfl ?_
      refine XS.iconst X4.here hx rfl (hb hby at_18) ?_
      show SS p e below T4 m 19 #[iv p1, iv p2, iv p3, iv p4, iv p5, iv p6, iv (own_len p5), .val (.int (own_len ((p5.toUInt32 >>> ((2 : Int32) &&& 31).toUInt32).toInt32))), .unset, .unset, .unset, .unset, .unset, .unset, .unset, .unset, .unset, .unset, .unset, .unset, .unset, .unset, .unset] [(.int (1 : Int32)), (.int p6)] _
      refine XS.iand X4.here hx rfl (hb hby at_19) rfl ?_
      show SS p e below T4 m 20 #[iv p1, iv p2, iv p3, iv p4, iv p5, iv p6, iv (own_len p5), .val (.int (own_len ((p5.toUInt32 >>> ((2 : Int32) &&& 31).toUInt32).toInt32))), .unset, .unset, .unset, .unset, .unset, .unset, .unset, .unset, .unset, .unset, .unset, .unset, .unset, .unset, .unset] [(.int (p6 &&& (1 : Int32)))] _
      refine XS.ifNo X4.here hx rfl (hb hby at_20) rfl ((if0 _ _).trans (feq ja).1) ?_
      refine XS.iconst X4.here hx rfl (hb hby at_23) ?_
      refine XS.goto X4.here hx rfl (pc0 := 24) (pc' := 28) rfl (hb hby at_24) (by decide) (by decide) ?_
      refine XS.istore X4.here hx rfl (hb hby at_28) rfl (l' := #[iv p1, iv p2, iv p3, iv p4, iv p5, iv p6, iv (own_len p5), .val (.int (own_len ((p5.toUInt32 >>> ((2 : Int32) &&& 31).toUInt32).toInt32))), iv (1 : Int32), .unset, .unset, .unset, .unset, .unset, .unset, .unset, .unset, .unset, .unset, .unset, .unset, .unset, .unset]) rfl ?_
      refine XS.iload X4.here hx rfl (hb hby at_30) rfl ?_
      refine XS.iconst X4.here hx rfl (hb hby at_32) ?_
      show SS p e below T4 m 33 #[iv p1, iv p2, iv p3, iv p4, iv p5, iv p6, iv (own_len p5), .val (.int (own_len ((p5.toUInt32 >>> ((2 : Int32) &&& 31).toUInt32).toInt32))), iv (1 : Int32), .unset, .unset, .unset, .unset, .unset, .unset, .unset, .unset, .unset, .unset, .unset, .unset, .unset, .unset] [(.int (2 : Int32)), (.int p6)] _
      refine XS.iand X4.here hx rfl (hb hby at_33) rfl ?_
      show SS p e below T4 m 34 #[iv p1, iv p2, iv p3, iv p4, iv p5, iv p6, iv (own_len p5), .val (.int (own_len ((p5.toUInt32 >>> ((2 : Int32) &&& 31).toUInt32).toInt32))), iv (1 : Int32), .unset, .unset, .unset, .unset, .unset, .unset, .unset, .unset, .unset, .unset, .unset, .unset, .unset, .unset] [(.int (p6 &&& (2 : Int32)))] _
      refine XS.ifNo X4.here hx rfl (hb hby at_34) rfl ((if0 _ _).trans (feq jb).1) ?_
      refine XS.iconst X4.here hx rfl (hb hby at_37) ?_
      refine XS.goto X4.here hx rfl (pc0 := 38) (pc' := 42) rfl (hb hby at_38) (by decide) (by decide) ?_
      refine XS.istore X4.here hx rfl (hb hby at_42) rfl (l' := #[iv p1, iv p2, iv p3, iv p4, iv p5, iv p6, iv (own_len p5), .val (.int (own_len ((p5.toUInt32 >>> ((2 : Int32) &&& 31).toUInt32).toInt32))), iv (1 : Int32), iv (1 : Int32), .unset, .unset, .unset, .unset, .unset, .unset, .unset, .unset, .unset, .unset, .unset, .unset, .unset]) rfl ?_
      refine XS.iload X4.here hx rfl (hb hby at_44) rfl ?_
      refine XS.ifNo X4.here hx rfl (hb hby at_46) rfl ((if0 _ _).trans (feq (by decide : ¬ ((1 : Int32) = (0 : Int32)))).1) ?_
      refine XS.iload X4.here hx rfl (hb hby at_49) rfl ?_
      refine XS.goto X4.here hx rfl (pc0 := 51) (pc' := 61) rfl (hb hby at_51) (by decide) (by decide) ?_
      refine XS.istore X4.here hx rfl (hb hby at_61) rfl (l' := #[iv p1, iv p2, iv p3, iv p4, iv p5, iv p6, iv (own_len p5), .val (.int (own_len ((p5.toUInt32 >>> ((2 : Int32) &&& 31).toUInt32).toInt32))), iv (1 : Int32), iv (1 : Int32), iv (own_len p5), .unset, .unset, .unset, .unset, .unset, .unset, .unset, .unset, .unset, .unset, .unset, .unset]) rfl ?_
      refine XS.iload X4.here hx rfl (hb hby at_63) rfl ?_
      show SS p e below T4 m 65 #[iv p1, iv p2, iv p3, iv p4, iv p5, iv p6, iv (own_len p5), .val (.int (own_len ((p5.toUInt32 >>> ((2 : Int32) &&& 31).toUInt32).toInt32))), iv (1 : Int32), iv (1 : Int32), iv (own_len p5), .unset, .unset, .unset, .unset, .unset, .unset, .unset, .unset, .unset, .unset, .unset, .unset] [(.int (1 : Int32))] _
      refine XS.ifNo X4.here hx rfl (hb hby at_65) rfl ((if0 _ _).trans (feq (by decide : ¬ ((1 : Int32) = (0 : Int32)))).1) ?_
      refine XS.iloadN X4.here hx rfl (hb hby at_68) rfl ?_
      refine XS.goto X4.here hx rfl (pc0 := 69) (pc' := 73) rfl (hb hby at_69) (by decide) (by decide) ?_
      refine XS.istore X4.here hx rfl (hb hby at_73) rfl (l' := #[iv p1, iv p2, iv p3, iv p4, iv p5, iv p6, iv (own_len p5), .val (.int (own_len ((p5.toUInt32 >>> ((2 : Int32) &&& 31).toUInt32).toInt32))), iv (1 : Int32), iv (1 : Int32), iv (own_len p5), iv p1, .unset, .unset, .unset, .unset, .unset, .unset, .unset, .unset, .unset, .unset, .unset]) rfl ?_
      refine XS.iload X4.here hx rfl (hb hby at_75) rfl ?_
      refine XS.ifNo X4.here hx rfl (hb hby at_77) rfl ((if0 _ _).trans (feq (by decide : ¬ ((1 : Int32) = (0 : Int32)))).1) ?_
      refine XS.iload X4.here hx rfl (hb hby at_80) rfl ?_
      refine XS.goto X4.here hx rfl (pc0 := 82) (pc' := 93) rfl (hb hby at_82) (by decide) (by decide) ?_
      refine XS.istore X4.here hx rfl (hb hby at_93) rfl (l' := #[iv p1, iv p2, iv p3, iv p4, iv p5, iv p6, iv (own_len p5), .val (.int (own_len ((p5.toUInt32 >>> ((2 : Int32) &&& 31).toUInt32).toInt32))), iv (1 : Int32), iv (1 : Int32), iv (own_len p5), iv p1, .val (.int (own_len ((p5.toUInt32 >>> ((2 : Int32) &&& 31).toUInt32).toInt32))), .unset, .unset, .unset, .unset, .unset, .unset, .unset, .unset, .unset, .unset]) rfl ?_
      refine XS.iload X4.here hx rfl (hb hby at_95) rfl ?_
      show SS p e below T4 m 97 #[iv p1, iv p2, iv p3, iv p4, iv p5, iv p6, iv (own_len p5), .val (.int (own_len ((p5.toUInt32 >>> ((2 : Int32) &&& 31).toUInt32).toInt32))), iv (1 : Int32), iv (1 : Int32), iv (own_len p5), iv p1, .val (.int (own_len ((p5.toUInt32 >>> ((2 : Int32) &&& 31).toUInt32).toInt32))), .unset, .unset, .unset, .unset, .unset, .unset, .unset, .unset, .unset, .unset] [(.int (1 : Int32))] _
      refine XS.ifNo X4.here hx rfl (hb hby at_97) rfl ((if0 _ _).trans (feq (by decide : ¬ ((1 : Int32) = (0 : Int32)))).1) ?_
      refine XS.iloadN X4.here hx rfl (hb hby at_100) rfl ?_
      refine XS.goto X4.here hx rfl (pc0 := 101) (pc' := 105) rfl (hb hby at_101) (by decide) (by decide) ?_
      refine XS.istore X4.here hx rfl (hb hby at_105) rfl (l' := #[iv p1, iv p2, iv p3, iv p4, iv p5, iv p6, iv (own_len p5), .val (.int (own_len ((p5.toUInt32 >>> ((2 : Int32) &&& 31).toUInt32).toInt32))), iv (1 : Int32), iv (1 : Int32), iv (own_len p5), iv p1, .val (.int (own_len ((p5.toUInt32 >>> ((2 : Int32) &&& 31).toUInt32).toInt32))), iv p3, .unset, .unset, .unset, .unset, .unset, .unset, .unset, .unset, .unset]) rfl ?_
      exact qt
  have C7 := CHr.trans C0 c6
  have O8 := O0.keep K6 all0
  have K9 : Keep h0 h6 [] := Keep.trans (Keep.refl h0 []) K6 all0
  obtain ⟨_, _, ⟨T11, L11, k11, n11⟩, -, Y11, hs11, hg11, ⟨Lc11, hQ11, l11, y11, z11, c11⟩, st11⟩ := callSS (s := s.setVm vm6) X6 hx (y := MY12) hown6 (mvT hZ6 (W 8 rfl)) (mvT hZ6 (W 9 rfl)) (mvT hZ6 (W 2 rfl)) (mvT hZ6 (W 10 rfl)) (by decide) (own_backH (s := s) (vm0 := vm6) (W := 0) (own_strC l Z a0 hw (own_len p5) p1 o_COMPACT_STRINGS (p1 &&& (255 : Int32)) (((p1.toUInt32 >>> ((8 : Int32) &&& 31).toUInt32).toInt32) &&& (255 : Int32)) h6 n0 O8 (S_o_COMPACT_STRINGS) (nz_o_COMPACT_STRINGS) (i2c_mask p1) ((own_c255 p1).1) ((own_c255 p1).2) ((own_char _ (own_c255 p1).1 (own_c255 p1).2).1) ((own_char _ (own_c255 p1).1 (own_c255 p1).2).2) (i2c_mask ((p1.toUInt32 >>> ((8 : Int32) &&& 31).toUInt32).toInt32)) ((own_c255 ((p1.toUInt32 >>> ((8 : Int32) &&& 31).toUInt32).toInt32)).1) ((own_c255 ((p1.toUInt32 >>> ((8 : Int32) &&& 31).toUInt32).toInt32)).2) ((own_char _ (own_c255 ((p1.toUInt32 >>> ((8 : Int32) &&& 31).toUInt32).toInt32)).1 (own_c255 ((p1.toUInt32 >>> ((8 : Int32) &&& 31).toUInt32).toInt32)).2).1) ((own_char _ (own_c255 ((p1.toUInt32 >>> ((8 : Int32) &&& 31).toUInt32).toInt32)).1 (own_c255 ((p1.toUInt32 >>> ((8 : Int32) &&& 31).toUInt32).toInt32)).2).2)) hZ6 (W 10 rfl) (W 2 rfl) (by decide) (by decide) (own_ew_86 hw) c6.1 own_sf0) (g := (mkF m 110 #[iv p1, iv p2, iv p3, iv p4, iv p5, iv p6, iv (own_len p5), .val (.int (own_len ((p5.toUInt32 >>> ((2 : Int32) &&& 31).toUInt32).toInt32))), iv i6_0, iv i6_1, iv i6_2, iv i6_3, iv i6_4, iv i6_5, .unset, .unset, .unset, .unset, .unset, .unset, .unset, .unset, .unset] [(.int p1), (.int (own_len p5))])) rfl (by rw [hml]; rfl) (argsL := [(.int (own_len p5)), (.int p1)]) (rest := []) (lenOf pd_292 rfl) rfl (by show 2 * 0 + _ ≤ _; exact Nat.le_of_eq rfl) (hb hby at_110) (fun _ _ => ⟨rfl, e6, (by decide : 0 + 6 ≤ _), (by decide : 0 + 12 ≤ _)⟩)
  dsimp only [Pt.U, Pt.locs, Pt.cells, Pt.slots] at Y11 l11 y11 z11 st11 hQ11 hs11 hg11 c11
  subst l11 y11 z11
  obtain ⟨X11, hS11, hZ11, hown11⟩ := rebS (s := s) (vm0 := vm6) hS6 (by rw [e6]; exact hk6) Y11 hs11 hg11 hZ6 hown6
  obtain ⟨b11_0, b11_1, k11_0, rfl, N11q, K11, gb11_0, F11_0, F11_1, F11_2, F11_3⟩ := hQ11
  have N12 := Fr.app N6 N11q
  have C13 := CHr.trans C7 c11
  have O14 := O8.keep K11 all0
  have K15 : Keep h0 T11.heap [] := Keep.trans K9 K11 all0
  obtain ⟨_, _, ⟨T16, L16, k16, n16⟩, -, Y16, hs16, hg16, ⟨Lc16, hQ16, l16, y16, z16, c16⟩, st16⟩ := callSS (s := s.setVm T11.vm) X11 hx (y := MY12) hown11 (mvT hZ11 (W 8 rfl)) (mvT hZ11 (W 9 rfl)) (mvT hZ11 (W 2 rfl)) (mvT hZ11 (W 10 rfl)) (by decide) (own_backH (s := s) (vm0 := T11.vm) (W := 0) (own_strC l Z a0 hw (own_len ((p5.toUInt32 >>> ((2 : Int32) &&& 31).toUInt32).toInt32)) p3 o_COMPACT_STRINGS (p3 &&& (255 : Int32)) (((p3.toUInt32 >>> ((8 : Int32) &&& 31).toUInt32).toInt32) &&& (255 : Int32)) T11.heap n0 O14 (S_o_COMPACT_STRINGS) (nz_o_COMPACT_STRINGS) (i2c_mask p3) ((own_c255 p3).1) ((own_c255 p3).2) ((own_char _ (own_c255 p3).1 (own_c255 p3).2).1) ((own_char _ (own_c255 p3).1 (own_c255 p3).2).2) (i2c_mask ((p3.toUInt32 >>> ((8 : Int32) &&& 31).toUInt32).toInt32)) ((own_c255 ((p3.toUInt32 >>> ((8 : Int32) &&& 31).toUInt32).toInt32)).1) ((own_c255 ((p3.toUInt32 >>> ((8 : Int32) &&& 31).toUInt32).toInt32)).2) ((own_char _ (own_c255 ((p3.toUInt32 >>> ((8 : Int32) &&& 31).toUInt32).toInt32)).1 (own_c255 ((p3.toUInt32 >>> ((8 : Int32) &&& 31).toUInt32).toInt32)).2).1) ((own_char _ (own_c255 ((p3.toUInt32 >>> ((8 : Int32) &&& 31).toUInt32).toInt32)).1 (own_c255 ((p3.toUInt32 >>> ((8 : Int32) &&& 31).toUInt32).toInt32)).2).2)) hZ11 (W 10 rfl) (W 2 rfl) (by decide) (by decide) (own_ew_86 hw) c11.1 own_sf0) (g := (mkF m 118 #[iv p1, iv p2, iv p3, iv p4, iv p5, iv p6, iv (own_len p5), .val (.int (own_len ((p5.toUInt32 >>> ((2 : Int32) &&& 31).toUInt32).toInt32))), iv i6_0, iv i6_1, iv i6_2, iv i6_3, iv i6_4, iv i6_5, rv b11_0, .unset, .unset, .unset, .unset, .unset, .unset, .unset, .unset] [(.int p3), (.int (own_len ((p5.toUInt32 >>> ((2 : Int32) &&& 31).toUInt32).toInt32)))])) rfl (by rw [hml]; rfl) (argsL := [(.int (own_len ((p5.toUInt32 >>> ((2 : Int32) &&& 31).toUInt32).toInt32))), (.int p3)]) (rest := []) (lenOf pd_292 rfl) rfl (by show 2 * 0 + _ ≤ _; exact Nat.le_of_eq rfl) (hb hby at_118) (fun _ _ => ⟨rfl, rfl, (by decide : 6 + 6 ≤ _), (by decide : 12 + 12 ≤ _)⟩)
  dsimp only [Pt.U, Pt.locs, Pt.cells, Pt.slots] at Y16 l16 y16 z16 st16 hQ16 hs16 hg16 c16
  subst l16 y16 z16
  obtain ⟨X16, hS16, hZ16, hown16⟩ := rebS (s := s) (vm0 := T11.vm) hS11 (Nat.le_refl _) Y16 hs16 hg16 hZ11 hown11
  obtain ⟨b16_0, b16_1, k16_0, rfl, N16q, K16, gb16_0, F16_0, F16_1, F16_2, F16_3⟩ := hQ16
  have N17 := Fr.app N12 N16q
  have C18 := CHr.trans C13 c16
  have O19 := O14.keep K16 all0
  have K20 : Keep h0 T16.heap [] := Keep.trans K15 K16 all0
  obtain ⟨_, _, ⟨T21, L21, k21, n21⟩, -, Y21, hs21, hg21, ⟨Lc21, hQ21, l21, y21, z21, c21⟩, st21⟩ := callSS (s := s.setVm T16.vm) X16 hx (y := MY12) hown16 (mvT hZ16 (W 8 rfl)) (mvT hZ16 (W 9 rfl)) (mvT hZ16 (W 2 rfl)) (mvT hZ16 (W 10 rfl)) (by decide) (own_backH (s := s) (vm0 := T16.vm) (W := 0) (own_strC l Z a0 hw i6_2 i6_3 o_COMPACT_STRINGS (i6_3 &&& (255 : Int32)) (((i6_3.toUInt32 >>> ((8 : Int32) &&& 31).toUInt32).toInt32) &&& (255 : Int32)) T16.heap n0 O19 (S_o_COMPACT_STRINGS) (nz_o_COMPACT_STRINGS) (i2c_mask i6_3) ((own_c255 i6_3).1) ((own_c255 i6_3).2) ((own_char _ (own_c255 i6_3).1 (own_c255 i6_3).2).1) ((own_char _ (own_c255 i6_3).1 (own_c255 i6_3).2).2) (i2c_mask ((i6_3.toUInt32 >>> ((8 : Int32) &&& 31).toUInt32).toInt32)) ((own_c255 ((i6_3.toUInt32 >>> ((8 : Int32) &&& 31).toUInt32).toInt32)).1) ((own_c255 ((i6_3.toUInt32 >>> ((8 : Int32) &&& 31).toUInt32).toInt32)).2) ((own_char _ (own_c255 ((i6_3.toUInt32 >>> ((8 : Int32) &&& 31).toUInt32).toInt32)).1 (own_c255 ((i6_3.toUInt32 >>> ((8 : Int32) &&& 31).toUInt32).toInt32)).2).1) ((own_char _ (own_c255 ((i6_3.toUInt32 >>> ((8 : Int32) &&& 31).toUInt32).toInt32)).1 (own_c255 ((i6_3.toUInt32 >>> ((8 : Int32) &&& 31).toUInt32).toInt32)).2).2)) hZ16 (W 10 rfl) (W 2 rfl) (by decide) (by decide) (own_ew_86 hw) c16.1 own_sf0) (g := (mkF m 127 #[iv p1, iv p2, iv p3, iv p4, iv p5, iv p6, iv (own_len p5), .val (.int (own_len ((p5.toUInt32 >>> ((2 : Int32) &&& 31).toUInt32).toInt32))), iv i6_0, iv i6_1, iv i6_2, iv i6_3, iv i6_4, iv i6_5, rv b11_0, rv b16_0, .unset, .unset, .unset, .unset, .unset, .unset, .unset] [(.int i6_3), (.int i6_2)])) rfl (by rw [hml]; rfl) (argsL := [(.int i6_2), (.int i6_3)]) (rest := []) (lenOf pd_292 rfl) rfl (by show 2 * 0 + _ ≤ _; exact Nat.le_of_eq rfl) (hb hby at_127) (fun _ _ => ⟨rfl, rfl, (by decide : 12 + 6 ≤ _), (by decide : 24 + 12 ≤ _)⟩)
  dsimp only [Pt.U, Pt.locs, Pt.cells, Pt.slots] at Y21 l21 y21 z21 st21 hQ21 hs21 hg21 c21
  subst l21 y21 z21
  obtain ⟨X21, hS21, hZ21, hown21⟩ := rebS (s := s) (vm0 := T16.vm) hS16 (Nat.le_refl _) Y21 hs21 hg21 hZ16 hown16
  obtain ⟨b21_0, b21_1, k21_0, rfl, N21q, K21, gb21_0, F21_0, F21_1, F21_2, F21_3⟩ := hQ21
  have N22 := Fr.app N17 N21q
  have C23 := CHr.trans C18 c21
  have O24 := O19.keep K21 all0
  have K25 : Keep h0 T21.heap [] := Keep.trans K20 K21 all0
  obtain ⟨_, _, ⟨T26, L26, k26, n26⟩, -, Y26, hs26, hg26, ⟨Lc26, hQ26, l26, y26, z26, c26⟩, st26⟩ := callSS (s := s.setVm T21.vm) X21 hx (y := MY12) hown21 (mvT hZ21 (W 8 rfl)) (mvT hZ21 (W 9 rfl)) (mvT hZ21 (W 2 rfl)) (mvT hZ21 (W 10 rfl)) (by decide) (own_backH (s := s) (vm0 := T21.vm) (W := 0) (own_strC l Z a0 hw i6_4 i6_5 o_COMPACT_STRINGS (i6_5 &&& (255 : Int32)) (((i6_5.toUInt32 >>> ((8 : Int32) &&& 31).toUInt32).toInt32) &&& (255 : Int32)) T21.heap n0 O24 (S_o_COMPACT_STRINGS) (nz_o_COMPACT_STRINGS) (i2c_mask i6_5) ((own_c255 i6_5).1) ((own_c255 i6_5).2) ((own_char _ (own_c255 i6_5).1 (own_c255 i6_5).2).1) ((own_char _ (own_c255 i6_5).1 (own_c255 i6_5).2).2) (i2c_mask ((i6_5.toUInt32 >>> ((8 : Int32) &&& 31).toUInt32).toInt32)) ((own_c255 ((i6_5.toUInt32 >>> ((8 : Int32) &&& 31).toUInt32).toInt32)).1) ((own_c255 ((i6_5.toUInt32 >>> ((8 : Int32) &&& 31).toUInt32).toInt32)).2) ((own_char _ (own_c255 ((i6_5.toUInt32 >>> ((8 : Int32) &&& 31).toUInt32).toInt32)).1 (own_c255 ((i6_5.toUInt32 >>> ((8 : Int32) &&& 31).toUInt32).toInt32)).2).1) ((own_char _ (own_c255 ((i6_5.toUInt32 >>> ((8 : Int32) &&& 31).toUInt32).toInt32)).1 (own_c255 ((i6_5.toUInt32 >>> ((8 : Int32) &&& 31).toUInt32).toInt32)).2).2)) hZ21 (W 10 rfl) (W 2 rfl) (by decide) (by decide) (own_ew_86 hw) c21.1 own_sf0) (g := (mkF m 136 #[iv p1, iv p2, iv p3, iv p4, iv p5, iv p6, iv (own_len p5), .val (.int (own_len ((p5.toUInt32 >>> ((2 : Int32) &&& 31).toUInt32).toInt32))), iv i6_0, iv i6_1, iv i6_2, iv i6_3, iv i6_4, iv i6_5, rv b11_0, rv b16_0, rv b21_0, .unset, .unset, .unset, .unset, .unset, .unset] [(.int i6_5), (.int i6_4)])) rfl (by rw [hml]; rfl) (argsL := [(.int i6_4), (.int i6_5)]) (rest := []) (lenOf pd_292 rfl) rfl (by show 2 * 0 + _ ≤ _; exact Nat.le_of_eq rfl) (hb hby at_136) (fun _ _ => ⟨rfl, rfl, (by decide : 18 + 6 ≤ _), (by decide : 36 + 12 ≤ _)⟩)
  dsimp only [Pt.U, Pt.locs, Pt.cells, Pt.slots] at Y26 l26 y26 z26 st26 hQ26 hs26 hg26 c26
  subst l26 y26 z26
  obtain ⟨X26, hS26, hZ26, hown26⟩ := rebS (s := s) (vm0 := T21.vm) hS21 (Nat.le_refl _) Y26 hs26 hg26 hZ21 hown21
  obtain ⟨b26_0, b26_1, k26_0, rfl, N26q, K26, gb26_0, F26_0, F26_1, F26_2, F26_3⟩ := hQ26
  have N27 := Fr.app N22 N26q
  have C28 := CHr.trans C23 c26
  have O29 := O24.keep K26 all0
  have K30 : Keep h0 T26.heap [] := Keep.trans K25 K26 all0
  obtain ⟨_, _, ⟨T31, L31, k31, n31⟩, -, Y31, hs31, hg31, ⟨Lc31, hQ31, l31, y31, z31, c31⟩, st31⟩ := callSS (s := s.setVm T26.vm) X26 hx (y := MY12) hown26 (mvT hZ26 (W 8 rfl)) (mvT hZ26 (W 9 rfl)) (mvT hZ26 (W 2 rfl)) (mvT hZ26 (W 10 rfl)) (by decide) (own_backH (s := s) (vm0 := T26.vm) (W := 0) (own_strC l Z a0 hw (own_len p5) p1 o_COMPACT_STRINGS (p1 &&& (255 : Int32)) (((p1.toUInt32 >>> ((8 : Int32) &&& 31).toUInt32).toInt32) &&& (255 : Int32)) T26.heap n0 O29 (S_o_COMPACT_STRINGS) (nz_o_COMPACT_STRINGS) (i2c_mask p1) ((own_c255 p1).1) ((own_c255 p1).2) ((own_char _ (own_c255 p1).1 (own_c255 p1).2).1) ((own_char _ (own_c255 p1).1 (own_c255 p1).2).2) (i2c_mask ((p1.toUInt32 >>> ((8 : Int32) &&& 31).toUInt32).toInt32)) ((own_c255 ((p1.toUInt32 >>> ((8 : Int32) &&& 31).toUInt32).toInt32)).1) ((own_c255 ((p1.toUInt32 >>> ((8 : Int32) &&& 31).toUInt32).toInt32)).2) ((own_char _ (own_c255 ((p1.toUInt32 >>> ((8 : Int32) &&& 31).toUInt32).toInt32)).1 (own_c255 ((p1.toUInt32 >>> ((8 : Int32) &&& 31).toUInt32).toInt32)).2).1) ((own_char _ (own_c255 ((p1.toUInt32 >>> ((8 : Int32) &&& 31).toUInt32).toInt32)).1 (own_c255 ((p1.toUInt32 >>> ((8 : Int32) &&& 31).toUInt32).toInt32)).2).2)) hZ26 (W 10 rfl) (W 2 rfl) (by decide) (by decide) (own_ew_86 hw) c26.1 own_sf0) (g := (mkF m 144 #[iv p1, iv p2, iv p3, iv p4, iv p5, iv p6, iv (own_len p5), .val (.int (own_len ((p5.toUInt32 >>> ((2 : Int32) &&& 31).toUInt32).toInt32))), iv i6_0, iv i6_1, iv i6_2, iv i6_3, iv i6_4, iv i6_5, rv b11_0, rv b16_0, rv b21_0, rv b26_0, .unset, .unset, .unset, .unset, .unset] [(.int p1), (.int (own_len p5))])) rfl (by rw [hml]; rfl) (argsL := [(.int (own_len p5)), (.int p1)]) (rest := []) (lenOf pd_292 rfl) rfl (by show 2 * 0 + _ ≤ _; exact Nat.le_of_eq rfl) (hb hby at_144) (fun _ _ => ⟨rfl, rfl, (by decide : 24 + 6 ≤ _), (by decide : 48 + 12 ≤ _)⟩)
  dsimp only [Pt.U, Pt.locs, Pt.cells, Pt.slots] at Y31 l31 y31 z31 st31 hQ31 hs31 hg31 c31
  subst l31 y31 z31
  obtain ⟨X31, hS31, hZ31, hown31⟩ := rebS (s := s) (vm0 := T26.vm) hS26 (Nat.le_refl _) Y31 hs31 hg31 hZ26 hown26
  obtain ⟨b31_0, b31_1, k31_0, rfl, N31q, K31, gb31_0, F31_0, F31_1, F31_2, F31_3⟩ := hQ31
  have N32 := Fr.app N27 N31q
  have C33 := CHr.trans C28 c31
  have O34 := O29.keep K31 all0
  have K35 : Keep h0 T31.heap [] := Keep.trans K30 K31 all0
  obtain ⟨T36, h36, X36, e36, E36, A36, D36, -, st36⟩ := newO X31 hx hZ31 hown31 (W 33 rfl) (W 34 rfl) (W 35 rfl) rfl (g := (mkF m 149 #[iv p1, iv p2, iv p3, iv p4, iv p5, iv p6, iv (own_len p5), .val (.int (own_len ((p5.toUInt32 >>> ((2 : Int32) &&& 31).toUInt32).toInt32))), iv i6_0, iv i6_1, iv i6_2, iv i6_3, iv i6_4, iv i6_5, rv b11_0, rv b16_0, rv b21_0, rv b26_0, rv b31_0, .unset, .unset, .unset, .unset] [])) rfl (hb hby at_149) (by decide) (by decide)
  obtain ⟨b36, g36⟩ : ∃ z, z = T31.heap.size := ⟨_, rfl⟩
  rw [← g36] at A36 D36 st36
  have c37 := CHr.ext E36 c31.1
  have C38 := CHr.trans C33 c37
  have O39 := O34.ext E36
  have K40 : Keep h0 h36 [] := Keep.ext K35 E36
  have z42 : h0.size ≤ h6.size := K6.1
  have z43 : h0.size ≤ T11.heap.size := (Nat.le_trans z42 K11.1)
  have z44 : h0.size ≤ T16.heap.size := (Nat.le_trans z43 K16.1)
  have z45 : h0.size ≤ T21.heap.size := (Nat.le_trans z44 K21.1)
  have z46 : h0.size ≤ T26.heap.size := (Nat.le_trans z45 K26.1)
  have z47 : h0.size ≤ T31.heap.size := (Nat.le_trans z46 K31.1)
  have g48 : n0 ≤ b36 := Nat.le_trans (Nat.le_trans (Nat.le_trans (Nat.le_of_eq O0.1.symm) O0.2.1) z47) (Nat.le_of_eq g36.symm)
  obtain ⟨_, T41, L41, X41, hQ41, st41⟩ := own_cp X36 hx hZ31 hown31 hml rfl (W 36 rfl) (W 37 rfl) (W 35 rfl) (W 38 rfl) (rm26_init l Z a0 hw b36 b11_0 b16_0 h36 n0 O39 (A36) ((D36 (Or.inr (W 41 rfl)) (ty := (.object "java/lang/String")) (by decide) : FA19 Z h36 b36 .null)) (g48) ((D36 (Or.inr (W 43 rfl)) (ty := (.object "java/lang/String")) (by decide) : FA20 Z h36 b36 .null))) e36 (hb hby at_157) 1 #[iv p1, iv p2, iv p3, iv p4, iv p5, iv p6, iv (own_len p5), .val (.int (own_len ((p5.toUInt32 >>> ((2 : Int32) &&& 31).toUInt32).toInt32))), iv i6_0, iv i6_1, iv i6_2, iv i6_3, iv i6_4, iv i6_5, rv b11_0, rv b16_0, rv b21_0, rv b26_0, rv b31_0, .unset, .unset, .unset, .unset] b36 [(.ref b11_0), (.ref b16_0)] [(.ref b36)] pd_304
  obtain ⟨rfl, N41q, K41, F41_0, F41_1⟩ := hQ41
  have N49 := Fr.app N32 N41q
  have s50 := Safe.exa (EL := consts_1) hZ31.alike A36 (by decide) (by decide)
  have c51 := CHr.keep K41 (sfS s50 sf0) c37.1
  have C52 := CHr.trans C38 c51
  have O53 := O39.keep K41 (allS g48 all0)
  have K54 : Keep h0 T41.heap [] := Keep.trans K40 K41 (allS (Or.inr (Nat.le_trans z47 (Nat.le_of_eq g36.symm))) all0)
  have stc55 : ∀ t, SS p e below T41 m 171 #[iv p1, iv p2, iv p3, iv p4, iv p5, iv p6, iv (own_len p5), .val (.int (own_len ((p5.toUInt32 >>> ((2 : Int32) &&& 31).toUInt32).toInt32))), iv i6_0, iv i6_1, iv i6_2, iv i6_3, iv i6_4, iv i6_5, rv b11_0, rv b16_0, rv b21_0, rv b26_0, rv b31_0, rv b36, .val (.int (((p6.toUInt32 >>> ((2 : Int32) &&& 31).toUInt32).toInt32) &&& (7 : Int32))), .unset, .unset] [] t → SS p e below s₁ m 0 #[iv p1, iv p2, iv p3, iv p4, iv p5, iv p6, .unset, .unset, .unset, .unset, .unset, .unset, .unset, .unset, .unset, .unset, .unset, .unset, .unset, .unset, .unset, .unset, .unset] [] t := by
    intro t qt
    show SS p e below s₁ m 0 #[iv p1, iv p2, iv p3, iv p4, iv p5, iv p6, .unset, .unset, .unset, .unset, .unset, .unset, .unset, .unset, .unset, .unset, .unset, .unset, .unset, .unset, .unset, .unset, .unset] [] _
    refine XS.iload X1.here hx rfl (hb hby at_0) rfl ?_
    refine st2 _ ?_
    refine XS.istore X2.here hx rfl (hb hby at_5) rfl (l' := #[iv p1, iv p2, iv p3, iv p4, iv p5, iv p6, iv (own_len p5), .unset, .unset, .unset, .unset, .unset, .unset, .unset, .unset, .unset, .unset, .unset, .unset, .unset, .unset, .unset, .unset]) rfl ?_
    refine XS.iload X2.here hx rfl (hb hby at_7) rfl ?_
    refine XS.iconst X2.here hx rfl (hb hby at_9) ?_
    show SS p e below T2 m 10 #[iv p1, iv p2, iv p3, iv p4, iv p5, iv p6, iv (own_len p5), .unset, .unset, .unset, .unset, .unset, .unset, .unset, .unset, .unset, .unset, .unset, .unset, .unset, .unset, .unset, .unset] [(.int (2 : Int32)), (.int p5)] _
    refine XS.iushr X2.here hx rfl (hb hby at_10) rfl ?_
    show SS p e below T2 m 11 #[iv p1, iv p2, iv p3, iv p4, iv p5, iv p6, iv (own_len p5), .unset, .unset, .unset, .unset, .unset, .unset, .unset, .unset, .unset, .unset, .unset, .unset, .unset, .unset, .unset, .unset] [(.int ((p5.toUInt32 >>> ((2 : Int32) &&& 31).toUInt32).toInt32))] _
    refine st4 _ ?_
    refine XS.istore X4.here hx rfl (hb hby at_14) rfl (l' := #[iv p1, iv p2, iv p3, iv p4, iv p5, iv p6, iv (own_len p5), .val (.int (own_len ((p5.toUInt32 >>> ((2 : Int32) &&& 31).toUInt32).toInt32))), .unset, .unset, .unset, .unset, .unset, .unset, .unset, .unset, .unset, .unset, .unset, .unset, .unset, .unset, .unset]) rfl ?_
    refine st6 _ ?_
    show SS p e below T6 m 107 #[iv p1, iv p2, iv p3, iv p4, iv p5, iv p6, iv (own_len p5), .val (.int (own_len ((p5.toUInt32 >>> ((2 : Int32) &&& 31).toUInt32).toInt32))), iv i6_0, iv i6_1, iv i6_2, iv i6_3, iv i6_4, iv i6_5, .unset, .unset, .unset, .unset, .unset, .unset, .unset, .unset, .unset] [] _
    refine XS.iload X6.here hx rfl (hb hby at_107) rfl ?_
    refine XS.iloadN X6.here hx rfl (hb hby at_109) rfl ?_
    refine st11.trans ?_
    refine XS.astore X11.here hx rfl (hb hby at_113) rfl rfl (l' := #[iv p1, iv p2, iv p3, iv p4, iv p5, iv p6, iv (own_len p5), .val (.int (own_len ((p5.toUInt32 >>> ((2 : Int32) &&& 31).toUInt32).toInt32))), iv i6_0, iv i6_1, iv i6_2, iv i6_3, iv i6_4, iv i6_5, rv b11_0, .unset, .unset, .unset, .unset, .unset, .unset, .unset, .unset]) rfl ?_
    refine XS.iload X11.here hx rfl (hb hby at_115) rfl ?_
    refine XS.iloadN X11.here hx rfl (hb hby at_117) rfl ?_
    refine st16.trans ?_
    refine XS.astore X16.here hx rfl (hb hby at_121) rfl rfl (l' := #[iv p1, iv p2, iv p3, iv p4, iv p5, iv p6, iv (own_len p5), .val (.int (own_len ((p5.toUInt32 >>> ((2 : Int32) &&& 31).toUInt32).toInt32))), iv i6_0, iv i6_1, iv i6_2, iv i6_3, iv i6_4, iv i6_5, rv b11_0, rv b16_0, .unset, .unset, .unset, .unset, .unset, .unset, .unset]) rfl ?_
    refine XS.iload X16.here hx rfl (hb hby at_123) rfl ?_
    refine XS.iload X16.here hx rfl (hb hby at_125) rfl ?_
    show SS p e below T16 m 127 #[iv p1, iv p2, iv p3, iv p4, iv p5, iv p6, iv (own_len p5), .val (.int (own_len ((p5.toUInt32 >>> ((2 : Int32) &&& 31).toUInt32).toInt32))), iv i6_0, iv i6_1, iv i6_2, iv i6_3, iv i6_4, iv i6_5, rv b11_0, rv b16_0, .unset, .unset, .unset, .unset, .unset, .unset, .unset] [(.int i6_3), (.int i6_2)] _
    refine st21.trans ?_
    refine XS.astore X21.here hx rfl (hb hby at_130) rfl rfl (l' := #[iv p1, iv p2, iv p3, iv p4, iv p5, iv p6, iv (own_len p5), .val (.int (own_len ((p5.toUInt32 >>> ((2 : Int32) &&& 31).toUInt32).toInt32))), iv i6_0, iv i6_1, iv i6_2, iv i6_3, iv i6_4, iv i6_5, rv b11_0, rv b16_0, rv b21_0, .unset, .unset, .unset, .unset, .unset, .unset]) rfl ?_
    refine XS.iload X21.here hx rfl (hb hby at_132) rfl ?_
    refine XS.iload X21.here hx rfl (hb hby at_134) rfl ?_
    refine st26.trans ?_
    refine XS.astore X26.here hx rfl (hb hby at_139) rfl rfl (l' := #[iv p1, iv p2, iv p3, iv p4, iv p5, iv p6, iv (own_len p5), .val (.int (own_len ((p5.toUInt32 >>> ((2 : Int32) &&& 31).toUInt32).toInt32))), iv i6_0, iv i6_1, iv i6_2, iv i6_3, iv i6_4, iv i6_5, rv b11_0, rv b16_0, rv b21_0, rv b26_0, .unset, .unset, .unset, .unset, .unset]) rfl ?_
    refine XS.iload X26.here hx rfl (hb hby at_141) rfl ?_
    refine XS.iloadN X26.here hx rfl (hb hby at_143) rfl ?_
    refine st31.trans ?_
    refine XS.astore X31.here hx rfl (hb hby at_147) rfl rfl (l' := #[iv p1, iv p2, iv p3, iv p4, iv p5, iv p6, iv (own_len p5), .val (.int (own_len ((p5.toUInt32 >>> ((2 : Int32) &&& 31).toUInt32).toInt32))), iv i6_0, iv i6_1, iv i6_2, iv i6_3, iv i6_4, iv i6_5, rv b11_0, rv b16_0, rv b21_0, rv b26_0, rv b31_0, .unset, .unset, .unset, .unset]) rfl ?_
    show SS p e below T31 m 149 #[iv p1, iv p2, iv p3, iv p4, iv p5, iv p6, iv (own_len p5), .val (.int (own_len ((p5.toUInt32 >>> ((2 : Int32) &&& 31).toUInt32).toInt32))), iv i6_0, iv i6_1, iv i6_2, iv i6_3, iv i6_4, iv i6_5, rv b11_0, rv b16_0, rv b21_0, rv b26_0, rv b31_0, .unset, .unset, .unset, .unset] [] _
    refine st36 _ ?_
    refine XS.dup X36.here hx rfl (hb hby at_152) rfl rfl ?_
    refine XS.aload X36.here hx rfl (hb hby at_153) rfl rfl ?_
    refine XS.aload X36.here hx rfl (hb hby at_155) rfl rfl ?_
    refine st41 _ ?_
    refine XS.astore X41.here hx rfl (hb hby at_160) rfl rfl (l' := #[iv p1, iv p2, iv p3, iv p4, iv p5, iv p6, iv (own_len p5), .val (.int (own_len ((p5.toUInt32 >>> ((2 : Int32) &&& 31).toUInt32).toInt32))), iv i6_0, iv i6_1, iv i6_2, iv i6_3, iv i6_4, iv i6_5, rv b11_0, rv b16_0, rv b21_0, rv b26_0, rv b31_0, rv b36, .unset, .unset, .unset]) rfl ?_
    refine XS.iload X41.here hx rfl (hb hby at_162) rfl ?_
    refine XS.iconst X41.here hx rfl (hb hby at_164) ?_
    show SS p e below T41 m 165 #[iv p1, iv p2, iv p3, iv p4, iv p5, iv p6, iv (own_len p5), .val (.int (own_len ((p5.toUInt32 >>> ((2 : Int32) &&& 31).toUInt32).toInt32))), iv i6_0, iv i6_1, iv i6_2, iv i6_3, iv i6_4, iv i6_5, rv b11_0, rv b16_0, rv b21_0, rv b26_0, rv b31_0, rv b36, .unset, .unset, .unset] [(.int (2 : Int32)), (.int p6)] _
    refine XS.iushr X41.here hx rfl (hb hby at_165) rfl ?_
    show SS p e below T41 m 166 #[iv p1, iv p2, iv p3, iv p4, iv p5, iv p6, iv (own_len p5), .val (.int (own_len ((p5.toUInt32 >>> ((2 : Int32) &&& 31).toUInt32).toInt32))), iv i6_0, iv i6_1, iv i6_2, iv i6_3, iv i6_4, iv i6_5, rv b11_0, rv b16_0, rv b21_0, rv b26_0, rv b31_0, rv b36, .unset, .unset, .unset] [(.int ((p6.toUInt32 >>> ((2 : Int32) &&& 31).toUInt32).toInt32))] _
    refine XS.bipush X41.here hx rfl (hb hby at_166) ?_
    refine XS.iand X41.here hx rfl (hb hby at_168) rfl ?_
    show SS p e below T41 m 169 #[iv p1, iv p2, iv p3, iv p4, iv p5, iv p6, iv (own_len p5), .val (.int (own_len ((p5.toUInt32 >>> ((2 : Int32) &&& 31).toUInt32).toInt32))), iv i6_0, iv i6_1, iv i6_2, iv i6_3, iv i6_4, iv i6_5, rv b11_0, rv b16_0, rv b21_0, rv b26_0, rv b31_0, rv b36, .unset, .unset, .unset] [(.int (((p6.toUInt32 >>> ((2 : Int32) &&& 31).toUInt32).toInt32) &&& (7 : Int32)))] _
    refine XS.istore X41.here hx rfl (hb hby at_169) rfl (l' := #[iv p1, iv p2, iv p3, iv p4, iv p5, iv p6, iv (own_len p5), .val (.int (own_len ((p5.toUInt32 >>> ((2 : Int32) &&& 31).toUInt32).toInt32))), iv i6_0, iv i6_1, iv i6_2, iv i6_3, iv i6_4, iv i6_5, rv b11_0, rv b16_0, rv b21_0, rv b26_0, rv b31_0, rv b36, .val (.int (((p6.toUInt32 >>> ((2 : Int32) &&& 31).toUInt32).toInt32) &&& (7 : Int32))), .unset, .unset]) rfl ?_
    exact qt
  rcases own_k4 (((p6.toUInt32 >>> ((2 : Int32) &&& 31).toUInt32).toInt32) &&& (7 : Int32)) with hk | hk | hk | ⟨hk5, hk6, hk7⟩
  · have f57 := (A36.keep K41)
    have f58 := ((((((F11_0.keep K16).keep K21).keep K26).keep K31).ext E36).keep K41)
    have f59 := (((((F16_0.keep K21).keep K26).keep K31).ext E36).keep K41)
    obtain ⟨_, T56, L56, X56, hQ56, st56⟩ := own_cv X41 hx hZ31 hown31 hml (W 47 rfl) (W 48 rfl) (notFace_of_selects (W 50 rfl)) (W 50 rfl) (W 49 rfl) (W 35 rfl) (W 51 rfl) (rm28_equals l Z a0 hw b36 b11_0 b16_0 T41.heap n0 O53 (f57) (F41_0) (f58) (F41_1) (f59)) rfl f57 (hb hby at_181) 0 #[iv p1, iv p2, iv p3, iv p4, iv p5, iv p6, iv (own_len p5), .val (.int (own_len ((p5.toUInt32 >>> ((2 : Int32) &&& 31).toUInt32).toInt32))), iv i6_0, iv i6_1, iv i6_2, iv i6_3, iv i6_4, iv i6_5, rv b11_0, rv b16_0, rv b21_0, rv b26_0, rv b31_0, rv b36, .val (.int (((p6.toUInt32 >>> ((2 : Int32) &&& 31).toUInt32).toInt32) &&& (7 : Int32))), .unset, .unset] [(.ref b36)] [] pd_319
    obtain ⟨rfl, N56q, K56⟩ := hQ56
    have N60 := Fr.app N49 N56q
    have z61 : T31.heap.size ≤ h36.size := E36.1
    have z62 : T31.heap.size ≤ T41.heap.size := (Nat.le_trans z61 K41.1)
    refine ⟨T56, some (.int (1 : Int32)), _, _, _, T31.vm, _, X56, hS31, (by rw [K56]; exact (Nat.le_trans (Nat.le_refl _) z62)), by decide, by decide, nofun, ?_, own_che K56 (CHr.trans C52 (CHv.at (s := s) X56 hZ31 (own_ew_86 hw) c51.1)), fun fs hr => castTop (ef_333 m p1 p2 p3 p4 p5 p6) ?_⟩
    · exact ⟨rfl, N60⟩
    · refine stc55 _ ?_
      show SS p e below T41 m 171 #[iv p1, iv p2, iv p3, iv p4, iv p5, iv p6, iv (own_len p5), .val (.int (own_len ((p5.toUInt32 >>> ((2 : Int32) &&& 31).toUInt32).toInt32))), iv i6_0, iv i6_1, iv i6_2, iv i6_3, iv i6_4, iv i6_5, rv b11_0, rv b16_0, rv b21_0, rv b26_0, rv b31_0, rv b36, .val (.int (((p6.toUInt32 >>> ((2 : Int32) &&& 31).toUInt32).toInt32) &&& (7 : Int32))), .unset, .unset] [] _
      refine XS.iload X41.here hx rfl (hb hby at_171) rfl ?_
      refine XS.iconst X41.here hx rfl (hb hby at_173) ?_
      refine XS.icmpNo X41.here hx rfl (hb hby at_174) rfl (teq hk).2 ?_
      refine XS.aload X41.here hx rfl (hb hby at_177) rfl rfl ?_
      refine XS.aload X41.here hx rfl (hb hby at_179) rfl rfl ?_
      refine st56 _ ?_
      exact retN X56 hx (t := .boolean) hret (by simp) (hb hby at_184) hr
  · have f57 := (A36.keep K41)
    obtain ⟨_, T56, L56, X56, hQ56, st56⟩ := own_cv X41 hx hZ31 hown31 hml (W 47 rfl) (W 48 rfl) (notFace_of_selects (W 50 rfl)) (W 50 rfl) (W 49 rfl) (W 35 rfl) (W 51 rfl) (rm29_equals l Z a0 hw b36 T41.heap n0 O53 ) rfl f57 (hb hby at_195) 0 #[iv p1, iv p2, iv p3, iv p4, iv p5, iv p6, iv (own_len p5), .val (.int (own_len ((p5.toUInt32 >>> ((2 : Int32) &&& 31).toUInt32).toInt32))), iv i6_0, iv i6_1, iv i6_2, iv i6_3, iv i6_4, iv i6_5, rv b11_0, rv b16_0, rv b21_0, rv b26_0, rv b31_0, rv b36, .val (.int (((p6.toUInt32 >>> ((2 : Int32) &&& 31).toUInt32).toInt32) &&& (7 : Int32))), .unset, .unset] [.null] [] pd_319
    obtain ⟨rfl, N56q, K56⟩ := hQ56
    have N58 := Fr.app N49 N56q
    have z59 : T31.heap.size ≤ h36.size := E36.1
    have z60 : T31.heap.size ≤ T41.heap.size := (Nat.le_trans z59 K41.1)
    refine ⟨T56, some (.int (1 : Int32)), _, _, _, T31.vm, _, X56, hS31, (by rw [K56]; exact (Nat.le_trans (Nat.le_refl _) z60)), by decide, by decide, nofun, ?_, own_che K56 (CHr.trans C52 (CHv.at (s := s) X56 hZ31 (own_ew_86 hw) c51.1)), fun fs hr => castTop (ef_333 m p1 p2 p3 p4 p5 p6) ?_⟩
    · exact ⟨rfl, N58⟩
    · refine stc55 _ ?_
      show SS p e below T41 m 171 #[iv p1, iv p2, iv p3, iv p4, iv p5, iv p6, iv (own_len p5), .val (.int (own_len ((p5.toUInt32 >>> ((2 : Int32) &&& 31).toUInt32).toInt32))), iv i6_0, iv i6_1, iv i6_2, iv i6_3, iv i6_4, iv i6_5, rv b11_0, rv b16_0, rv b21_0, rv b26_0, rv b31_0, rv b36, .val (.int (((p6.toUInt32 >>> ((2 : Int32) &&& 31).toUInt32).toInt32) &&& (7 : Int32))), .unset, .unset] [] _
      refine XS.iload X41.here hx rfl (hb hby at_171) rfl ?_
      refine XS.iconst X41.here hx rfl (hb hby at_173) ?_
      refine XS.icmpYes X41.here hx rfl (pc0 := 174) (pc' := 185) rfl (hb hby at_174) rfl (feq (by rw [hk]; decide)).2 (by decide) (by decide) ?_
      refine XS.iload X41.here hx rfl (hb hby at_185) rfl ?_
      refine XS.bipush X41.here hx rfl (hb hby at_187) ?_
      refine XS.icmpNo X41.here hx rfl (hb hby at_189) rfl (teq hk).2 ?_
      refine XS.aload X41.here hx rfl (hb hby at_192) rfl rfl ?_
      refine XS.aconstNull X41.here hx rfl (hb hby at_194) ?_
      refine st56 _ ?_
      refine XS.ifNo X56.here hx rfl (hb hby at_198) rfl ((if0 _ _).trans (teq (by decide : (0 : Int32) = (0 : Int32))).2) ?_
      show SS p e below T56 m 201 #[iv p1, iv p2, iv p3, iv p4, iv p5, iv p6, iv (own_len p5), .val (.int (own_len ((p5.toUInt32 >>> ((2 : Int32) &&& 31).toUInt32).toInt32))), iv i6_0, iv i6_1, iv i6_2, iv i6_3, iv i6_4, iv i6_5, rv b11_0, rv b16_0, rv b21_0, rv b26_0, rv b31_0, rv b36, .val (.int (((p6.toUInt32 >>> ((2 : Int32) &&& 31).toUInt32).toInt32) &&& (7 : Int32))), .unset, .unset] [] _
      refine XS.iconst X56.here hx rfl (hb hby at_201) ?_
      refine XS.goto X56.here hx rfl (pc0 := 202) (pc' := 206) rfl (hb hby at_202) (by decide) (by decide) ?_
      exact retN X56 hx (t := .boolean) hret (by simp) (hb hby at_206) hr
  · have f57 := ((F31_0.ext E36).keep K41)
    have f58 := (A36.keep K41)
    obtain ⟨_, T56, L56, X56, hQ56, st56⟩ := own_cv X41 hx hZ31 hown31 hml (W 47 rfl) (W 48 rfl) (notFace_of_selects (W 50 rfl)) (W 50 rfl) (W 49 rfl) (W 35 rfl) (W 51 rfl) (rm30_equals l Z a0 hw b36 b31_0 T41.heap n0 O53 (f57)) rfl f58 (hb hby at_218) 0 #[iv p1, iv p2, iv p3, iv p4, iv p5, iv p6, iv (own_len p5), .val (.int (own_len ((p5.toUInt32 >>> ((2 : Int32) &&& 31).toUInt32).toInt32))), iv i6_0, iv i6_1, iv i6_2, iv i6_3, iv i6_4, iv i6_5, rv b11_0, rv b16_0, rv b21_0, rv b26_0, rv b31_0, rv b36, .val (.int (((p6.toUInt32 >>> ((2 : Int32) &&& 31).toUInt32).toInt32) &&& (7 : Int32))), .unset, .unset] [(.ref b31_0)] [] pd_319
    obtain ⟨rfl, N56q, K56⟩ := hQ56
    have N59 := Fr.app N49 N56q
    have z60 : T31.heap.size ≤ h36.size := E36.1
    have z61 : T31.heap.size ≤ T41.heap.size := (Nat.le_trans z60 K41.1)
    refine ⟨T56, some (.int (1 : Int32)), _, _, _, T31.vm, _, X56, hS31, (by rw [K56]; exact (Nat.le_trans (Nat.le_refl _) z61)), by decide, by decide, nofun, ?_, own_che K56 (CHr.trans C52 (CHv.at (s := s) X56 hZ31 (own_ew_86 hw) c51.1)), fun fs hr => castTop (ef_333 m p1 p2 p3 p4 p5 p6) ?_⟩
    · exact ⟨rfl, N59⟩
    · refine stc55 _ ?_
      show SS p e below T41 m 171 #[iv p1, iv p2, iv p3, iv p4, iv p5, iv p6, iv (own_len p5), .val (.int (own_len ((p5.toUInt32 >>> ((2 : Int32) &&& 31).toUInt32).toInt32))), iv i6_0, iv i6_1, iv i6_2, iv i6_3, iv i6_4, iv i6_5, rv b11_0, rv b16_0, rv b21_0, rv b26_0, rv b31_0, rv b36, .val (.int (((p6.toUInt32 >>> ((2 : Int32) &&& 31).toUInt32).toInt32) &&& (7 : Int32))), .unset, .unset] [] _
      refine XS.iload X41.here hx rfl (hb hby at_171) rfl ?_
      refine XS.iconst X41.here hx rfl (hb hby at_173) ?_
      refine XS.icmpYes X41.here hx rfl (pc0 := 174) (pc' := 185) rfl (hb hby at_174) rfl (feq (by rw [hk]; decide)).2 (by decide) (by decide) ?_
      refine XS.iload X41.here hx rfl (hb hby at_185) rfl ?_
      refine XS.bipush X41.here hx rfl (hb hby at_187) ?_
      refine XS.icmpYes X41.here hx rfl (pc0 := 189) (pc' := 207) rfl (hb hby at_189) rfl (feq (by rw [hk]; decide)).2 (by decide) (by decide) ?_
      refine XS.iload X41.here hx rfl (hb hby at_207) rfl ?_
      refine XS.bipush X41.here hx rfl (hb hby at_209) ?_
      refine XS.icmpNo X41.here hx rfl (hb hby at_211) rfl (teq hk).2 ?_
      refine XS.aload X41.here hx rfl (hb hby at_214) rfl rfl ?_
      show SS p e below T41 m 216 #[iv p1, iv p2, iv p3, iv p4, iv p5, iv p6, iv (own_len p5), .val (.int (own_len ((p5.toUInt32 >>> ((2 : Int32) &&& 31).toUInt32).toInt32))), iv i6_0, iv i6_1, iv i6_2, iv i6_3, iv i6_4, iv i6_5, rv b11_0, rv b16_0, rv b21_0, rv b26_0, rv b31_0, rv b36, .val (.int (((p6.toUInt32 >>> ((2 : Int32) &&& 31).toUInt32).toInt32) &&& (7 : Int32))), .unset, .unset] [(.ref b36)] _
      refine XS.aload X41.here hx rfl (hb hby at_216) rfl rfl ?_
      refine st56 _ ?_
      refine XS.ifNo X56.here hx rfl (hb hby at_221) rfl ((if0 _ _).trans (teq (by decide : (0 : Int32) = (0 : Int32))).2) ?_
      refine XS.iconst X56.here hx rfl (hb hby at_224) ?_
      refine XS.goto X56.here hx rfl (pc0 := 225) (pc' := 229) rfl (hb hby at_225) (by decide) (by decide) ?_
      exact retN X56 hx (t := .boolean) hret (by simp) (hb hby at_229) hr
  · rcases own_e01 (own_len p5) ((p1 &&& (255 : Int32)).toInt8.toInt32) ((((p1.toUInt32 >>> ((8 : Int32) &&& 31).toUInt32).toInt32) &&& (255 : Int32)).toInt8.toInt32) i6_2 ((i6_3 &&& (255 : Int32)).toInt8.toInt32) ((((i6_3.toUInt32 >>> ((8 : Int32) &&& 31).toUInt32).toInt32) &&& (255 : Int32)).toInt8.toInt32) with q1 | q1
    · rcases own_e01 (own_len ((p5.toUInt32 >>> ((2 : Int32) &&& 31).toUInt32).toInt32)) ((p3 &&& (255 : Int32)).toInt8.toInt32) ((((p3.toUInt32 >>> ((8 : Int32) &&& 31).toUInt32).toInt32) &&& (255 : Int32)).toInt8.toInt32) i6_4 ((i6_5 &&& (255 : Int32)).toInt8.toInt32) ((((i6_5.toUInt32 >>> ((8 : Int32) &&& 31).toUInt32).toInt32) &&& (255 : Int32)).toInt8.toInt32) with q2 | q2
      · obtain ⟨T56, h56, X56, e56, E56, A56, D56, -, st56⟩ := newO X41 hx hZ31 hown31 (W 33 rfl) (W 34 rfl) (W 35 rfl) rfl (g := (mkF m 230 #[iv p1, iv p2, iv p3, iv p4, iv p5, iv p6, iv (own_len p5), .val (.int (own_len ((p5.toUInt32 >>> ((2 : Int32) &&& 31).toUInt32).toInt32))), iv i6_0, iv i6_1, iv i6_2, iv i6_3, iv i6_4, iv i6_5, rv b11_0, rv b16_0, rv b21_0, rv b26_0, rv b31_0, rv b36, .val (.int (((p6.toUInt32 >>> ((2 : Int32) &&& 31).toUInt32).toInt32) &&& (7 : Int32))), .unset, .unset] [])) rfl (hb hby at_230) (by decide) (by decide)
        obtain ⟨b56, g56⟩ : ∃ z, z = T41.heap.size := ⟨_, rfl⟩
        rw [← g56] at A56 D56 st56
        have c57 := CHr.ext E56 c51.1
        have C58 := CHr.trans C52 c57
        have O59 := O53.ext E56
        have K60 : Keep h0 h56 [] := Keep.ext K54 E56
        have z62 : h0.size ≤ h36.size := (Nat.le_trans z47 E36.1)
        have z63 : h0.size ≤ T41.heap.size := (Nat.le_trans z62 K41.1)
        have g64 : n0 ≤ b56 := Nat.le_trans (Nat.le_trans (Nat.le_trans (Nat.le_of_eq O0.1.symm) O0.2.1) z63) (Nat.le_of_eq g56.symm)
        obtain ⟨_, T61, L61, X61, hQ61, st61⟩ := own_cp X56 hx hZ31 hown31 hml rfl (W 36 rfl) (W 37 rfl) (W 35 rfl) (W 38 rfl) (rm26_init l Z a0 hw b56 b21_0 b26_0 h56 n0 O59 (A56) ((D56 (Or.inr (W 41 rfl)) (ty := (.object "java/lang/String")) (by decide) : FA19 Z h56 b56 .null)) (g64) ((D56 (Or.inr (W 43 rfl)) (ty := (.object "java/lang/String")) (by decide) : FA20 Z h56 b56 .null))) e56 (hb hby at_238) 1 #[iv p1, iv p2, iv p3, iv p4, iv p5, iv p6, iv (own_len p5), .val (.int (own_len ((p5.toUInt32 >>> ((2 : Int32) &&& 31).toUInt32).toInt32))), iv i6_0, iv i6_1, iv i6_2, iv i6_3, iv i6_4, iv i6_5, rv b11_0, rv b16_0, rv b21_0, rv b26_0, rv b31_0, rv b36, .val (.int (((p6.toUInt32 >>> ((2 : Int32) &&& 31).toUInt32).toInt32) &&& (7 : Int32))), .unset, .unset] b56 [(.ref b21_0), (.ref b26_0)] [(.ref b56)] pd_304
        obtain ⟨rfl, N61q, K61, F61_0, F61_1⟩ := hQ61
        have N65 := Fr.app N49 N61q
        have s66 := Safe.exa (EL := consts_1) hZ31.alike A56 (by decide) (by decide)
        have c67 := CHr.keep K61 (sfS s66 sf0) c57.1
        have C68 := CHr.trans C58 c67
        have O69 := O59.keep K61 (allS g64 all0)
        have K70 : Keep h0 T61.heap [] := Keep.trans K60 K61 (allS (Or.inr (Nat.le_trans z63 (Nat.le_of_eq g56.symm))) all0)
        obtain ⟨_, T71, L71, X71, hQ71, st71⟩ := own_cs X61 hx hZ31 hown31 hml (W 44 rfl) (W 45 rfl) (W 2 rfl) (W 46 rfl) (own_sameC l Z a0 hw (own_len p5) p1 i6_2 i6_3 T61.heap n0 O69 ) rfl (hb hby at_250) 0 #[iv p1, iv p2, iv p3, iv p4, iv p5, iv p6, iv (own_len p5), .val (.int (own_len ((p5.toUInt32 >>> ((2 : Int32) &&& 31).toUInt32).toInt32))), iv i6_0, iv i6_1, iv i6_2, iv i6_3, iv i6_4, iv i6_5, rv b11_0, rv b16_0, rv b21_0, rv b26_0, rv b31_0, rv b36, .val (.int (((p6.toUInt32 >>> ((2 : Int32) &&& 31).toUInt32).toInt32) &&& (7 : Int32))), rv b56, .unset] [(.int (own_len p5)), (.int p1), (.int i6_2), (.int i6_3)] [] pd_332
        obtain ⟨rfl, N71q, K71⟩ := hQ71
        have N72 := Fr.app N65 N71q
        obtain ⟨_, T73, L73, X73, hQ73, st73⟩ := own_cs X71 hx hZ31 hown31 hml (W 44 rfl) (W 45 rfl) (W 2 rfl) (W 46 rfl) (own_sameC l Z a0 hw (own_len ((p5.toUInt32 >>> ((2 : Int32) &&& 31).toUInt32).toInt32)) p3 i6_4 i6_5 T61.heap n0 O69 ) K71 (hb hby at_263) 0 #[iv p1, iv p2, iv p3, iv p4, iv p5, iv p6, iv (own_len p5), .val (.int (own_len ((p5.toUInt32 >>> ((2 : Int32) &&& 31).toUInt32).toInt32))), iv i6_0, iv i6_1, iv i6_2, iv i6_3, iv i6_4, iv i6_5, rv b11_0, rv b16_0, rv b21_0, rv b26_0, rv b31_0, rv b36, .val (.int (((p6.toUInt32 >>> ((2 : Int32) &&& 31).toUInt32).toInt32) &&& (7 : Int32))), rv b56, .unset] [(.int (own_len ((p5.toUInt32 >>> ((2 : Int32) &&& 31).toUInt32).toInt32))), (.int p3), (.int i6_4), (.int i6_5)] [] pd_332
        obtain ⟨rfl, N73q, K73⟩ := hQ73
        have N74 := Fr.app N72 N73q
        have f76 := (A56.keep K61)
        have z77 : h36.size ≤ T41.heap.size := K41.1
        have f78 := ((F41_0.ext E56).keep K61 (ninS (Nat.ne_of_lt (Nat.lt_of_lt_of_le (Nat.lt_of_lt_of_le A36.lt z77) (Nat.le_of_eq g56.symm))) nin0))
        have f79 := ((((((((F11_0.keep K16).keep K21).keep K26).keep K31).ext E36).keep K41).ext E56).keep K61)
        have z80 : T11.heap.size ≤ T16.heap.size := K16.1
        have z81 : T11.heap.size ≤ T21.heap.size := (Nat.le_trans z80 K21.1)
        have z82 : T11.heap.size ≤ T26.heap.size := (Nat.le_trans z81 K26.1)
        have z83 : T11.heap.size ≤ T31.heap.size := (Nat.le_trans z82 K31.1)
        have z84 : T11.heap.size ≤ h36.size := (Nat.le_trans z83 E36.1)
        have z85 : T11.heap.size ≤ T41.heap.size := (Nat.le_trans z84 K41.1)
        have f86 := ((((((((F11_1.keep K16 nin0).keep K21 nin0).keep K26 nin0).keep K31 nin0).ext E36).keep K41 (ninS (Nat.ne_of_lt (Nat.lt_of_lt_of_le (Nat.lt_of_lt_of_le F11_0.lt z83) (Nat.le_of_eq g36.symm))) nin0)).ext E56).keep K61 (ninS (Nat.ne_of_lt (Nat.lt_of_lt_of_le (Nat.lt_of_lt_of_le F11_0.lt z85) (Nat.le_of_eq g56.symm))) nin0))
        have f87 := ((((((((F11_2.keep K16 nin0).keep K21 nin0).keep K26 nin0).keep K31 nin0).ext E36).keep K41 (ninS (Nat.ne_of_lt (Nat.lt_of_lt_of_le (Nat.lt_of_lt_of_le F11_0.lt z83) (Nat.le_of_eq g36.symm))) nin0)).ext E56).keep K61 (ninS (Nat.ne_of_lt (Nat.lt_of_lt_of_le (Nat.lt_of_lt_of_le F11_0.lt z85) (Nat.le_of_eq g56.symm))) nin0))
        have f88 := ((((((((F11_3.keep K16 nin0).keep K21 nin0).keep K26 nin0).keep K31 nin0).ext E36).keep K41 (ninS (Nat.ne_of_lt (Nat.lt_of_lt_of_le (Nat.lt_of_lt_of_le F11_3.lt z83) (Nat.le_of_eq g36.symm))) nin0)).ext E56).keep K61 (ninS (Nat.ne_of_lt (Nat.lt_of_lt_of_le (Nat.lt_of_lt_of_le F11_3.lt z85) (Nat.le_of_eq g56.symm))) nin0))
        have f89 := ((((((F21_0.keep K26).keep K31).ext E36).keep K41).ext E56).keep K61)
        have z90 : T21.heap.size ≤ T26.heap.size := K26.1
        have z91 : T21.heap.size ≤ T31.heap.size := (Nat.le_trans z90 K31.1)
        have z92 : T21.heap.size ≤ h36.size := (Nat.le_trans z91 E36.1)
        have z93 : T21.heap.size ≤ T41.heap.size := (Nat.le_trans z92 K41.1)
        have f94 := ((((((F21_1.keep K26 nin0).keep K31 nin0).ext E36).keep K41 (ninS (Nat.ne_of_lt (Nat.lt_of_lt_of_le (Nat.lt_of_lt_of_le F21_0.lt z91) (Nat.le_of_eq g36.symm))) nin0)).ext E56).keep K61 (ninS (Nat.ne_of_lt (Nat.lt_of_lt_of_le (Nat.lt_of_lt_of_le F21_0.lt z93) (Nat.le_of_eq g56.symm))) nin0))
        have f95 := ((((((F21_2.keep K26 nin0).keep K31 nin0).ext E36).keep K41 (ninS (Nat.ne_of_lt (Nat.lt_of_lt_of_le (Nat.lt_of_lt_of_le F21_0.lt z91) (Nat.le_of_eq g36.symm))) nin0)).ext E56).keep K61 (ninS (Nat.ne_of_lt (Nat.lt_of_lt_of_le (Nat.lt_of_lt_of_le F21_0.lt z93) (Nat.le_of_eq g56.symm))) nin0))
        have f96 := ((((((F21_3.keep K26 nin0).keep K31 nin0).ext E36).keep K41 (ninS (Nat.ne_of_lt (Nat.lt_of_lt_of_le (Nat.lt_of_lt_of_le F21_3.lt z91) (Nat.le_of_eq g36.symm))) nin0)).ext E56).keep K61 (ninS (Nat.ne_of_lt (Nat.lt_of_lt_of_le (Nat.lt_of_lt_of_le F21_3.lt z93) (Nat.le_of_eq g56.symm))) nin0))
        have f97 := ((F41_1.ext E56).keep K61 (ninS (Nat.ne_of_lt (Nat.lt_of_lt_of_le (Nat.lt_of_lt_of_le A36.lt z77) (Nat.le_of_eq g56.symm))) nin0))
        have f98 := (((((((F16_0.keep K21).keep K26).keep K31).ext E36).keep K41).ext E56).keep K61)
        have z99 : T16.heap.size ≤ T21.heap.size := K21.1
        have z100 : T16.heap.size ≤ T26.heap.size := (Nat.le_trans z99 K26.1)
        have z101 : T16.heap.size ≤ T31.heap.size := (Nat.le_trans z100 K31.1)
        have z102 : T16.heap.size ≤ h36.size := (Nat.le_trans z101 E36.1)
        have z103 : T16.heap.size ≤ T41.heap.size := (Nat.le_trans z102 K41.1)
        have f104 := (((((((F16_1.keep K21 nin0).keep K26 nin0).keep K31 nin0).ext E36).keep K41 (ninS (Nat.ne_of_lt (Nat.lt_of_lt_of_le (Nat.lt_of_lt_of_le F16_0.lt z101) (Nat.le_of_eq g36.symm))) nin0)).ext E56).keep K61 (ninS (Nat.ne_of_lt (Nat.lt_of_lt_of_le (Nat.lt_of_lt_of_le F16_0.lt z103) (Nat.le_of_eq g56.symm))) nin0))
        have f105 := (((((((F16_2.keep K21 nin0).keep K26 nin0).keep K31 nin0).ext E36).keep K41 (ninS (Nat.ne_of_lt (Nat.lt_of_lt_of_le (Nat.lt_of_lt_of_le F16_0.lt z101) (Nat.le_of_eq g36.symm))) nin0)).ext E56).keep K61 (ninS (Nat.ne_of_lt (Nat.lt_of_lt_of_le (Nat.lt_of_lt_of_le F16_0.lt z103) (Nat.le_of_eq g56.symm))) nin0))
        have f106 := (((((((F16_3.keep K21 nin0).keep K26 nin0).keep K31 nin0).ext E36).keep K41 (ninS (Nat.ne_of_lt (Nat.lt_of_lt_of_le (Nat.lt_of_lt_of_le F16_3.lt z101) (Nat.le_of_eq g36.symm))) nin0)).ext E56).keep K61 (ninS (Nat.ne_of_lt (Nat.lt_of_lt_of_le (Nat.lt_of_lt_of_le F16_3.lt z103) (Nat.le_of_eq g56.symm))) nin0))
        have f107 := (((((F26_0.keep K31).ext E36).keep K41).ext E56).keep K61)
        have z108 : T26.heap.size ≤ T31.heap.size := K31.1
        have z109 : T26.heap.size ≤ h36.size := (Nat.le_trans z108 E36.1)
        have z110 : T26.heap.size ≤ T41.heap.size := (Nat.le_trans z109 K41.1)
        have f111 := (((((F26_1.keep K31 nin0).ext E36).keep K41 (ninS (Nat.ne_of_lt (Nat.lt_of_lt_of_le (Nat.lt_of_lt_of_le F26_0.lt z108) (Nat.le_of_eq g36.symm))) nin0)).ext E56).keep K61 (ninS (Nat.ne_of_lt (Nat.lt_of_lt_of_le (Nat.lt_of_lt_of_le F26_0.lt z110) (Nat.le_of_eq g56.symm))) nin0))
        have f112 := (((((F26_2.keep K31 nin0).ext E36).keep K41 (ninS (Nat.ne_of_lt (Nat.lt_of_lt_of_le (Nat.lt_of_lt_of_le F26_0.lt z108) (Nat.le_of_eq g36.symm))) nin0)).ext E56).keep K61 (ninS (Nat.ne_of_lt (Nat.lt_of_lt_of_le (Nat.lt_of_lt_of_le F26_0.lt z110) (Nat.le_of_eq g56.symm))) nin0))
        have f113 := (((((F26_3.keep K31 nin0).ext E36).keep K41 (ninS (Nat.ne_of_lt (Nat.lt_of_lt_of_le (Nat.lt_of_lt_of_le F26_3.lt z108) (Nat.le_of_eq g36.symm))) nin0)).ext E56).keep K61 (ninS (Nat.ne_of_lt (Nat.lt_of_lt_of_le (Nat.lt_of_lt_of_le F26_3.lt z110) (Nat.le_of_eq g56.symm))) nin0))
        have f114 := (((A36.keep K41).ext E56).keep K61)
        obtain ⟨_, T75, L75, X75, hQ75, st75⟩ := own_cv X73 hx hZ31 hown31 hml (W 47 rfl) (W 48 rfl) (notFace_of_selects (W 50 rfl)) (W 50 rfl) (W 49 rfl) (W 35 rfl) (W 51 rfl) (rm31_equals l Z a0 hw b36 b56 b11_0 b21_0 b11_1 k11_0 p5 ((p1 &&& (255 : Int32)).toInt8.toInt32) ((((p1.toUInt32 >>> ((8 : Int32) &&& 31).toUInt32).toInt32) &&& (255 : Int32)).toInt8.toInt32) b21_1 k21_0 i6_2 ((i6_3 &&& (255 : Int32)).toInt8.toInt32) ((((i6_3.toUInt32 >>> ((8 : Int32) &&& 31).toUInt32).toInt32) &&& (255 : Int32)).toInt8.toInt32) o_COMPACT_STRINGS b16_0 b26_0 b16_1 k16_0 ((p5.toUInt32 >>> ((2 : Int32) &&& 31).toUInt32).toInt32) ((p3 &&& (255 : Int32)).toInt8.toInt32) ((((p3.toUInt32 >>> ((8 : Int32) &&& 31).toUInt32).toInt32) &&& (255 : Int32)).toInt8.toInt32) b26_1 k26_0 i6_4 ((i6_5 &&& (255 : Int32)).toInt8.toInt32) ((((i6_5.toUInt32 >>> ((8 : Int32) &&& 31).toUInt32).toInt32) &&& (255 : Int32)).toInt8.toInt32) T61.heap n0 O69 (f76) (f78) (F61_0) (f79) (f86) (f87) (f88) (f89) (f94) (f95) (f96) (S_o_COMPACT_STRINGS) ((Nat.ne_of_lt (Nat.lt_of_lt_of_le (Nat.lt_of_lt_of_le F11_0.lt z80) gb21_0))) (nz_o_COMPACT_STRINGS) (q1) (f97) (F61_1) (f98) (f104) (f105) (f106) (f107) (f111) (f112) (f113) ((Nat.ne_of_lt (Nat.lt_of_lt_of_le (Nat.lt_of_lt_of_le F16_0.lt z99) gb26_0))) (q2)) K73 f114 (hb hby at_280) 0 #[iv p1, iv p2, iv p3, iv p4, iv p5, iv p6, iv (own_len p5), .val (.int (own_len ((p5.toUInt32 >>> ((2 : Int32) &&& 31).toUInt32).toInt32))), iv i6_0, iv i6_1, iv i6_2, iv i6_3, iv i6_4, iv i6_5, rv b11_0, rv b16_0, rv b21_0, rv b26_0, rv b31_0, rv b36, .val (.int (((p6.toUInt32 >>> ((2 : Int32) &&& 31).toUInt32).toInt32) &&& (7 : Int32))), rv b56, iv (1 : Int32)] [(.ref b56)] [] pd_319
        obtain ⟨rfl, N75q, K75⟩ := hQ75
        have N115 := Fr.app N74 N75q
        obtain ⟨_, T116, L116, X116, hQ116, st116⟩ := own_cv X75 hx hZ31 hown31 hml (W 47 rfl) (W 48 rfl) (notFace_of_selects (W 50 rfl)) (W 50 rfl) (W 49 rfl) (W 35 rfl) (W 51 rfl) (rm32_equals l Z a0 hw b56 b36 b21_0 b11_0 b21_1 k21_0 i6_2 ((i6_3 &&& (255 : Int32)).toInt8.toInt32) ((((i6_3.toUInt32 >>> ((8 : Int32) &&& 31).toUInt32).toInt32) &&& (255 : Int32)).toInt8.toInt32) b11_1 k11_0 p5 ((p1 &&& (255 : Int32)).toInt8.toInt32) ((((p1.toUInt32 >>> ((8 : Int32) &&& 31).toUInt32).toInt32) &&& (255 : Int32)).toInt8.toInt32) o_COMPACT_STRINGS b26_0 b16_0 b26_1 k26_0 i6_4 ((i6_5 &&& (255 : Int32)).toInt8.toInt32) ((((i6_5.toUInt32 >>> ((8 : Int32) &&& 31).toUInt32).toInt32) &&& (255 : Int32)).toInt8.toInt32) b16_1 k16_0 ((p5.toUInt32 >>> ((2 : Int32) &&& 31).toUInt32).toInt32) ((p3 &&& (255 : Int32)).toInt8.toInt32) ((((p3.toUInt32 >>> ((8 : Int32) &&& 31).toUInt32).toInt32) &&& (255 : Int32)).toInt8.toInt32) T61.heap n0 O69 (f114) (F61_0) (f78) (f89) (f94) (f95) (f96) (f79) (f86) (f87) (f88) (S_o_COMPACT_STRINGS) ((Ne.symm (Nat.ne_of_lt (Nat.lt_of_lt_of_le (Nat.lt_of_lt_of_le F11_0.lt z80) gb21_0)))) (nz_o_COMPACT_STRINGS) ((by rw [own_ey _ _ _ _ (own_len3 _) h3s]; exact q1)) (F61_1) (f97) (f107) (f111) (f112) (f113) (f98) (f104) (f105) (f106) ((Ne.symm (Nat.ne_of_lt (Nat.lt_of_lt_of_le (Nat.lt_of_lt_of_le F16_0.lt z99) gb26_0)))) ((by rw [own_ey _ _ _ _ (own_len3 _) h3i]; exact q2))) K75 f76 (hb hby at_292) 0 #[iv p1, iv p2, iv p3, iv p4, iv p5, iv p6, iv (own_len p5), .val (.int (own_len ((p5.toUInt32 >>> ((2 : Int32) &&& 31).toUInt32).toInt32))), iv i6_0, iv i6_1, iv i6_2, iv i6_3, iv i6_4, iv i6_5, rv b11_0, rv b16_0, rv b21_0, rv b26_0, rv b31_0, rv b36, .val (.int (((p6.toUInt32 >>> ((2 : Int32) &&& 31).toUInt32).toInt32) &&& (7 : Int32))), rv b56, iv (1 : Int32)] [(.ref b36)] [] pd_319
        obtain ⟨rfl, N116q, K116⟩ := hQ116
        have N117 := Fr.app N115 N116q
        have z118 : T31.heap.size ≤ h36.size := E36.1
        have z119 : T31.heap.size ≤ T41.heap.size := (Nat.le_trans z118 K41.1)
        have z120 : T31.heap.size ≤ h56.size := (Nat.le_trans z119 E56.1)
        have z121 : T31.heap.size ≤ T61.heap.size := (Nat.le_trans z120 K61.1)
        refine ⟨T116, some (.int (1 : Int32)), _, _, _, T31.vm, _, X116, hS31, (by rw [K116]; exact (Nat.le_trans (Nat.le_refl _) z121)), by decide, by decide, nofun, ?_, own_che K116 (CHr.trans C68 (CHv.at (s := s) X116 hZ31 (own_ew_86 hw) c67.1)), fun fs hr => castTop (ef_333 m p1 p2 p3 p4 p5 p6) ?_⟩
        · exact ⟨rfl, N117⟩
        · refine stc55 _ ?_
          show SS p e below T41 m 171 #[iv p1, iv p2, iv p3, iv p4, iv p5, iv p6, iv (own_len p5), .val (.int (own_len ((p5.toUInt32 >>> ((2 : Int32) &&& 31).toUInt32).toInt32))), iv i6_0, iv i6_1, iv i6_2, iv i6_3, iv i6_4, iv i6_5, rv b11_0, rv b16_0, rv b21_0, rv b26_0, rv b31_0, rv b36, .val (.int (((p6.toUInt32 >>> ((2 : Int32) &&& 31).toUInt32).toInt32) &&& (7 : Int32))), .unset, .unset] [] _
          refine XS.iload X41.here hx rfl (hb hby at_171) rfl ?_
          refine XS.iconst X41.here hx rfl (hb hby at_173) ?_
          refine XS.icmpYes X41.here hx rfl (pc0 := 174) (pc' := 185) rfl (hb hby at_174) rfl (feq hk5).2 (by decide) (by decide) ?_
          refine XS.iload X41.here hx rfl (hb hby at_185) rfl ?_
          refine XS.bipush X41.here hx rfl (hb hby at_187) ?_
          refine XS.icmpYes X41.here hx rfl (pc0 := 189) (pc' := 207) rfl (hb hby at_189) rfl (feq hk6).2 (by decide) (by decide) ?_
          refine XS.iload X41.here hx rfl (hb hby at_207) rfl ?_
          refine XS.bipush X41.here hx rfl (hb hby at_209) ?_
          refine XS.icmpYes X41.here hx rfl (pc0 := 211) (pc' := 230) rfl (hb hby at_211) rfl (feq hk7).2 (by decide) (by decide) ?_
          refine st56 _ ?_
          show SS p e below T56 m 233 #[iv p1, iv p2, iv p3, iv p4, iv p5, iv p6, iv (own_len p5), .val (.int (own_len ((p5.toUInt32 >>> ((2 : Int32) &&& 31).toUInt32).toInt32))), iv i6_0, iv i6_1, iv i6_2, iv i6_3, iv i6_4, iv i6_5, rv b11_0, rv b16_0, rv b21_0, rv b26_0, rv b31_0, rv b36, .val (.int (((p6.toUInt32 >>> ((2 : Int32) &&& 31).toUInt32).toInt32) &&& (7 : Int32))), .unset, .unset] [(.ref b56)] _
          refine XS.dup X56.here hx rfl (hb hby at_233) rfl rfl ?_
          refine XS.aload X56.here hx rfl (hb hby at_234) rfl rfl ?_
          refine XS.aload X56.here hx rfl (hb hby at_236) rfl rfl ?_
          refine st61 _ ?_
          refine XS.astore X61.here hx rfl (hb hby at_241) rfl rfl (l' := #[iv p1, iv p2, iv p3, iv p4, iv p5, iv p6, iv (own_len p5), .val (.int (own_len ((p5.toUInt32 >>> ((2 : Int32) &&& 31).toUInt32).toInt32))), iv i6_0, iv i6_1, iv i6_2, iv i6_3, iv i6_4, iv i6_5, rv b11_0, rv b16_0, rv b21_0, rv b26_0, rv b31_0, rv b36, .val (.int (((p6.toUInt32 >>> ((2 : Int32) &&& 31).toUInt32).toInt32) &&& (7 : Int32))), rv b56, .unset]) rfl ?_
          refine XS.iload X61.here hx rfl (hb hby at_243) rfl ?_
          refine XS.iloadN X61.here hx rfl (hb hby at_245) rfl ?_
          refine XS.iload X61.here hx rfl (hb hby at_246) rfl ?_
          refine XS.iload X61.here hx rfl (hb hby at_248) rfl ?_
          refine st71 _ ?_
          show SS p e below T71 m 253 #[iv p1, iv p2, iv p3, iv p4, iv p5, iv p6, iv (own_len p5), .val (.int (own_len ((p5.toUInt32 >>> ((2 : Int32) &&& 31).toUInt32).toInt32))), iv i6_0, iv i6_1, iv i6_2, iv i6_3, iv i6_4, iv i6_5, rv b11_0, rv b16_0, rv b21_0, rv b26_0, rv b31_0, rv b36, .val (.int (((p6.toUInt32 >>> ((2 : Int32) &&& 31).toUInt32).toInt32) &&& (7 : Int32))), rv b56, .unset] [(.int (own_sm (own_len p5) p1 i6_2 i6_3))] _
          refine XS.ifNo X71.here hx rfl (hb hby at_253) rfl ((if0 _ _).trans (feq (by rw [own_es _ _ (own_len3 _) h3s]; exact q1)).1) ?_
          refine XS.iload X71.here hx rfl (hb hby at_256) rfl ?_
          refine XS.iloadN X71.here hx rfl (hb hby at_258) rfl ?_
          refine XS.iload X71.here hx rfl (hb hby at_259) rfl ?_
          refine XS.iload X71.here hx rfl (hb hby at_261) rfl ?_
          refine st73 _ ?_
          refine XS.ifNo X73.here hx rfl (hb hby at_266) rfl ((if0 _ _).trans (feq (by rw [own_es _ _ (own_len3 _) h3i]; exact q2)).1) ?_
          refine XS.iconst X73.here hx rfl (hb hby at_269) ?_
          refine XS.goto X73.here hx rfl (pc0 := 270) (pc' := 274) rfl (hb hby at_270) (by decide) (by decide) ?_
          refine XS.istore X73.here hx rfl (hb hby at_274) rfl (l' := #[iv p1, iv p2, iv p3, iv p4, iv p5, iv p6, iv (own_len p5), .val (.int (own_len ((p5.toUInt32 >>> ((2 : Int32) &&& 31).toUInt32).toInt32))), iv i6_0, iv i6_1, iv i6_2, iv i6_3, iv i6_4, iv i6_5, rv b11_0, rv b16_0, rv b21_0, rv b26_0, rv b31_0, rv b36, .val (.int (((p6.toUInt32 >>> ((2 : Int32) &&& 31).toUInt32).toInt32) &&& (7 : Int32))), rv b56, iv (1 : Int32)]) rfl ?_
          show SS p e below T73 m 276 #[iv p1, iv p2, iv p3, iv p4, iv p5, iv p6, iv (own_len p5), .val (.int (own_len ((p5.toUInt32 >>> ((2 : Int32) &&& 31).toUInt32).toInt32))), iv i6_0, iv i6_1, iv i6_2, iv i6_3, iv i6_4, iv i6_5, rv b11_0, rv b16_0, rv b21_0, rv b26_0, rv b31_0, rv b36, .val (.int (((p6.toUInt32 >>> ((2 : Int32) &&& 31).toUInt32).toInt32) &&& (7 : Int32))), rv b56, iv (1 : Int32)] [] _
          refine XS.aload X73.here hx rfl (hb hby at_276) rfl rfl ?_
          refine XS.aload X73.here hx rfl (hb hby at_278) rfl rfl ?_
          refine st75 _ ?_
          refine XS.iload X75.here hx rfl (hb hby at_283) rfl ?_
          refine XS.icmpNo X75.here hx rfl (hb hby at_285) rfl (teq (by decide : (1 : Int32) = (1 : Int32))).2 ?_
          refine XS.aload X75.here hx rfl (hb hby at_288) rfl rfl ?_
          refine XS.aload X75.here hx rfl (hb hby at_290) rfl rfl ?_
          refine st116 _ ?_
          refine XS.iload X116.here hx rfl (hb hby at_295) rfl ?_
          refine XS.icmpNo X116.here hx rfl (hb hby at_297) rfl (teq (by decide : (1 : Int32) = (1 : Int32))).2 ?_
          show SS p e below T116 m 300 #[iv p1, iv p2, iv p3, iv p4, iv p5, iv p6, iv (own_len p5), .val (.int (own_len ((p5.toUInt32 >>> ((2 : Int32) &&& 31).toUInt32).toInt32))), iv i6_0, iv i6_1, iv i6_2, iv i6_3, iv i6_4, iv i6_5, rv b11_0, rv b16_0, rv b21_0, rv b26_0, rv b31_0, rv b36, .val (.int (((p6.toUInt32 >>> ((2 : Int32) &&& 31).toUInt32).toInt32) &&& (7 : Int32))), rv b56, iv (1 : Int32)] [] _
          refine XS.iconst X116.here hx rfl (hb hby at_300) ?_
          refine XS.goto X116.here hx rfl (pc0 := 301) (pc' := 305) rfl (hb hby at_301) (by decide) (by decide) ?_
          exact retN X116 hx (t := .boolean) hret (by simp) (hb hby at_305) hr
      · obtain ⟨T56, h56, X56, e56, E56, A56, D56, -, st56⟩ := newO X41 hx hZ31 hown31 (W 33 rfl) (W 34 rfl) (W 35 rfl) rfl (g := (mkF m 230 #[iv p1, iv p2, iv p3, iv p4, iv p5, iv p6, iv (own_len p5), .val (.int (own_len ((p5.toUInt32 >>> ((2 : Int32) &&& 31).toUInt32).toInt32))), iv i6_0, iv i6_1, iv i6_2, iv i6_3, iv i6_4, iv i6_5, rv b11_0, rv b16_0, rv b21_0, rv b26_0, rv b31_0, rv b36, .val (.int (((p6.toUInt32 >>> ((2 : Int32) &&& 31).toUInt32).toInt32) &&& (7 : Int32))), .unset, .unset] [])) rfl (hb hby at_230) (by decide) (by decide)
        obtain ⟨b56, g56⟩ : ∃ z, z = T41.heap.size := ⟨_, rfl⟩
        rw [← g56] at A56 D56 st56
        have c57 := CHr.ext E56 c51.1
        have C58 := CHr.trans C52 c57
        have O59 := O53.ext E56
        have K60 : Keep h0 h56 [] := Keep.ext K54 E56
        have z62 : h0.size ≤ h36.size := (Nat.le_trans z47 E36.1)
        have z63 : h0.size ≤ T41.heap.size := (Nat.le_trans z62 K41.1)
        have g64 : n0 ≤ b56 := Nat.le_trans (Nat.le_trans (Nat.le_trans (Nat.le_of_eq O0.1.symm) O0.2.1) z63) (Nat.le_of_eq g56.symm)
        obtain ⟨_, T61, L61, X61, hQ61, st61⟩ := own_cp X56 hx hZ31 hown31 hml rfl (W 36 rfl) (W 37 rfl) (W 35 rfl) (W 38 rfl) (rm26_init l Z a0 hw b56 b21_0 b26_0 h56 n0 O59 (A56) ((D56 (Or.inr (W 41 rfl)) (ty := (.object "java/lang/String")) (by decide) : FA19 Z h56 b56 .null)) (g64) ((D56 (Or.inr (W 43 rfl)) (ty := (.object "java/lang/String")) (by decide) : FA20 Z h56 b56 .null))) e56 (hb hby at_238) 1 #[iv p1, iv p2, iv p3, iv p4, iv p5, iv p6, iv (own_len p5), .val (.int (own_len ((p5.toUInt32 >>> ((2 : Int32) &&& 31).toUInt32).toInt32))), iv i6_0, iv i6_1, iv i6_2, iv i6_3, iv i6_4, iv i6_5, rv b11_0, rv b16_0, rv b21_0, rv b26_0, rv b31_0, rv b36, .val (.int (((p6.toUInt32 >>> ((2 : Int32) &&& 31).toUInt32).toInt32) &&& (7 : Int32))), .unset, .unset] b56 [(.ref b21_0), (.ref b26_0)] [(.ref b56)] pd_304
        obtain ⟨rfl, N61q, K61, F61_0, F61_1⟩ := hQ61
        have N65 := Fr.app N49 N61q
        have s66 := Safe.exa (EL := consts_1) hZ31.alike A56 (by decide) (by decide)
        have c67 := CHr.keep K61 (sfS s66 sf0) c57.1
        have C68 := CHr.trans C58 c67
        have O69 := O59.keep K61 (allS g64 all0)
        have K70 : Keep h0 T61.heap [] := Keep.trans K60 K61 (allS (Or.inr (Nat.le_trans z63 (Nat.le_of_eq g56.symm))) all0)
        obtain ⟨_, T71, L71, X71, hQ71, st71⟩ := own_cs X61 hx hZ31 hown31 hml (W 44 rfl) (W 45 rfl) (W 2 rfl) (W 46 rfl) (own_sameC l Z a0 hw (own_len p5) p1 i6_2 i6_3 T61.heap n0 O69 ) rfl (hb hby at_250) 0 #[iv p1, iv p2, iv p3, iv p4, iv p5, iv p6, iv (own_len p5), .val (.int (own_len ((p5.toUInt32 >>> ((2 : Int32) &&& 31).toUInt32).toInt32))), iv i6_0, iv i6_1, iv i6_2, iv i6_3, iv i6_4, iv i6_5, rv b11_0, rv b16_0, rv b21_0, rv b26_0, rv b31_0, rv b36, .val (.int (((p6.toUInt32 >>> ((2 : Int32) &&& 31).toUInt32).toInt32) &&& (7 : Int32))), rv b56, .unset] [(.int (own_len p5)), (.int p1), (.int i6_2), (.int i6_3)] [] pd_332
        obtain ⟨rfl, N71q, K71⟩ := hQ71
        have N72 := Fr.app N65 N71q
        obtain ⟨_, T73, L73, X73, hQ73, st73⟩ := own_cs X71 hx hZ31 hown31 hml (W 44 rfl) (W 45 rfl) (W 2 rfl) (W 46 rfl) (own_sameC l Z a0 hw (own_len ((p5.toUInt32 >>> ((2 : Int32) &&& 31).toUInt32).toInt32)) p3 i6_4 i6_5 T61.heap n0 O69 ) K71 (hb hby at_263) 0 #[iv p1, iv p2, iv p3, iv p4, iv p5, iv p6, iv (own_len p5), .val (.int (own_len ((p5.toUInt32 >>> ((2 : Int32) &&& 31).toUInt32).toInt32))), iv i6_0, iv i6_1, iv i6_2, iv i6_3, iv i6_4, iv i6_5, rv b11_0, rv b16_0, rv b21_0, rv b26_0, rv b31_0, rv b36, .val (.int (((p6.toUInt32 >>> ((2 : Int32) &&& 31).toUInt32).toInt32) &&& (7 : Int32))), rv b56, .unset] [(.int (own_len ((p5.toUInt32 >>> ((2 : Int32) &&& 31).toUInt32).toInt32))), (.int p3), (.int i6_4), (.int i6_5)] [] pd_332
        obtain ⟨rfl, N73q, K73⟩ := hQ73
        have N74 := Fr.app N72 N73q
        have f76 := (A56.keep K61)
        have z77 : h36.size ≤ T41.heap.size := K41.1
        have f78 := ((F41_0.ext E56).keep K61 (ninS (Nat.ne_of_lt (Nat.lt_of_lt_of_le (Nat.lt_of_lt_of_le A36.lt z77) (Nat.le_of_eq g56.symm))) nin0))
        have f79 := ((((((((F11_0.keep K16).keep K21).keep K26).keep K31).ext E36).keep K41).ext E56).keep K61)
        have z80 : T11.heap.size ≤ T16.heap.size := K16.1
        have z81 : T11.heap.size ≤ T21.heap.size := (Nat.le_trans z80 K21.1)
        have z82 : T11.heap.size ≤ T26.heap.size := (Nat.le_trans z81 K26.1)
        have z83 : T11.heap.size ≤ T31.heap.size := (Nat.le_trans z82 K31.1)
        have z84 : T11.heap.size ≤ h36.size := (Nat.le_trans z83 E36.1)
        have z85 : T11.heap.size ≤ T41.heap.size := (Nat.le_trans z84 K41.1)
        have f86 := ((((((((F11_1.keep K16 nin0).keep K21 nin0).keep K26 nin0).keep K31 nin0).ext E36).keep K41 (ninS (Nat.ne_of_lt (Nat.lt_of_lt_of_le (Nat.lt_of_lt_of_le F11_0.lt z83) (Nat.le_of_eq g36.symm))) nin0)).ext E56).keep K61 (ninS (Nat.ne_of_lt (Nat.lt_of_lt_of_le (Nat.lt_of_lt_of_le F11_0.lt z85) (Nat.le_of_eq g56.symm))) nin0))
        have f87 := ((((((((F11_2.keep K16 nin0).keep K21 nin0).keep K26 nin0).keep K31 nin0).ext E36).keep K41 (ninS (Nat.ne_of_lt (Nat.lt_of_lt_of_le (Nat.lt_of_lt_of_le F11_0.lt z83) (Nat.le_of_eq g36.symm))) nin0)).ext E56).keep K61 (ninS (Nat.ne_of_lt (Nat.lt_of_lt_of_le (Nat.lt_of_lt_of_le F11_0.lt z85) (Nat.le_of_eq g56.symm))) nin0))
        have f88 := ((((((((F11_3.keep K16 nin0).keep K21 nin0).keep K26 nin0).keep K31 nin0).ext E36).keep K41 (ninS (Nat.ne_of_lt (Nat.lt_of_lt_of_le (Nat.lt_of_lt_of_le F11_3.lt z83) (Nat.le_of_eq g36.symm))) nin0)).ext E56).keep K61 (ninS (Nat.ne_of_lt (Nat.lt_of_lt_of_le (Nat.lt_of_lt_of_le F11_3.lt z85) (Nat.le_of_eq g56.symm))) nin0))
        have f89 := ((((((F21_0.keep K26).keep K31).ext E36).keep K41).ext E56).keep K61)
        have z90 : T21.heap.size ≤ T26.heap.size := K26.1
        have z91 : T21.heap.size ≤ T31.heap.size := (Nat.le_trans z90 K31.1)
        have z92 : T21.heap.size ≤ h36.size := (Nat.le_trans z91 E36.1)
        have z93 : T21.heap.size ≤ T41.heap.size := (Nat.le_trans z92 K41.1)
        have f94 := ((((((F21_1.keep K26 nin0).keep K31 nin0).ext E36).keep K41 (ninS (Nat.ne_of_lt (Nat.lt_of_lt_of_le (Nat.lt_of_lt_of_le F21_0.lt z91) (Nat.le_of_eq g36.symm))) nin0)).ext E56).keep K61 (ninS (Nat.ne_of_lt (Nat.lt_of_lt_of_le (Nat.lt_of_lt_of_le F21_0.lt z93) (Nat.le_of_eq g56.symm))) nin0))
        have f95 := ((((((F21_2.keep K26 nin0).keep K31 nin0).ext E36).keep K41 (ninS (Nat.ne_of_lt (Nat.lt_of_lt_of_le (Nat.lt_of_lt_of_le F21_0.lt z91) (Nat.le_of_eq g36.symm))) nin0)).ext E56).keep K61 (ninS (Nat.ne_of_lt (Nat.lt_of_lt_of_le (Nat.lt_of_lt_of_le F21_0.lt z93) (Nat.le_of_eq g56.symm))) nin0))
        have f96 := ((((((F21_3.keep K26 nin0).keep K31 nin0).ext E36).keep K41 (ninS (Nat.ne_of_lt (Nat.lt_of_lt_of_le (Nat.lt_of_lt_of_le F21_3.lt z91) (Nat.le_of_eq g36.symm))) nin0)).ext E56).keep K61 (ninS (Nat.ne_of_lt (Nat.lt_of_lt_of_le (Nat.lt_of_lt_of_le F21_3.lt z93) (Nat.le_of_eq g56.symm))) nin0))
        have f97 := ((F41_1.ext E56).keep K61 (ninS (Nat.ne_of_lt (Nat.lt_of_lt_of_le (Nat.lt_of_lt_of_le A36.lt z77) (Nat.le_of_eq g56.symm))) nin0))
        have f98 := (((((((F16_0.keep K21).keep K26).keep K31).ext E36).keep K41).ext E56).keep K61)
        have z99 : T16.heap.size ≤ T21.heap.size := K21.1
        have z100 : T16.heap.size ≤ T26.heap.size := (Nat.le_trans z99 K26.1)
        have z101 : T16.heap.size ≤ T31.heap.size := (Nat.le_trans z100 K31.1)
        have z102 : T16.heap.size ≤ h36.size := (Nat.le_trans z101 E36.1)
        have z103 : T16.heap.size ≤ T41.heap.size := (Nat.le_trans z102 K41.1)
        have f104 := (((((((F16_1.keep K21 nin0).keep K26 nin0).keep K31 nin0).ext E36).keep K41 (ninS (Nat.ne_of_lt (Nat.lt_of_lt_of_le (Nat.lt_of_lt_of_le F16_0.lt z101) (Nat.le_of_eq g36.symm))) nin0)).ext E56).keep K61 (ninS (Nat.ne_of_lt (Nat.lt_of_lt_of_le (Nat.lt_of_lt_of_le F16_0.lt z103) (Nat.le_of_eq g56.symm))) nin0))
        have f105 := (((((((F16_2.keep K21 nin0).keep K26 nin0).keep K31 nin0).ext E36).keep K41 (ninS (Nat.ne_of_lt (Nat.lt_of_lt_of_le (Nat.lt_of_lt_of_le F16_0.lt z101) (Nat.le_of_eq g36.symm))) nin0)).ext E56).keep K61 (ninS (Nat.ne_of_lt (Nat.lt_of_lt_of_le (Nat.lt_of_lt_of_le F16_0.lt z103) (Nat.le_of_eq g56.symm))) nin0))
        have f106 := (((((((F16_3.keep K21 nin0).keep K26 nin0).keep K31 nin0).ext E36).keep K41 (ninS (Nat.ne_of_lt (Nat.lt_of_lt_of_le (Nat.lt_of_lt_of_le F16_3.lt z101) (Nat.le_of_eq g36.symm))) nin0)).ext E56).keep K61 (ninS (Nat.ne_of_lt (Nat.lt_of_lt_of_le (Nat.lt_of_lt_of_le F16_3.lt z103) (Nat.le_of_eq g56.symm))) nin0))
        have f107 := (((((F26_0.keep K31).ext E36).keep K41).ext E56).keep K61)
        have z108 : T26.heap.size ≤ T31.heap.size := K31.1
        have z109 : T26.heap.size ≤ h36.size := (Nat.le_trans z108 E36.1)
        have z110 : T26.heap.size ≤ T41.heap.size := (Nat.le_trans z109 K41.1)
        have f111 := (((((F26_1.keep K31 nin0).ext E36).keep K41 (ninS (Nat.ne_of_lt (Nat.lt_of_lt_of_le (Nat.lt_of_lt_of_le F26_0.lt z108) (Nat.le_of_eq g36.symm))) nin0)).ext E56).keep K61 (ninS (Nat.ne_of_lt (Nat.lt_of_lt_of_le (Nat.lt_of_lt_of_le F26_0.lt z110) (Nat.le_of_eq g56.symm))) nin0))
        have f112 := (((((F26_2.keep K31 nin0).ext E36).keep K41 (ninS (Nat.ne_of_lt (Nat.lt_of_lt_of_le (Nat.lt_of_lt_of_le F26_0.lt z108) (Nat.le_of_eq g36.symm))) nin0)).ext E56).keep K61 (ninS (Nat.ne_of_lt (Nat.lt_of_lt_of_le (Nat.lt_of_lt_of_le F26_0.lt z110) (Nat.le_of_eq g56.symm))) nin0))
        have f113 := (((((F26_3.keep K31 nin0).ext E36).keep K41 (ninS (Nat.ne_of_lt (Nat.lt_of_lt_of_le (Nat.lt_of_lt_of_le F26_3.lt z108) (Nat.le_of_eq g36.symm))) nin0)).ext E56).keep K61 (ninS (Nat.ne_of_lt (Nat.lt_of_lt_of_le (Nat.lt_of_lt_of_le F26_3.lt z110) (Nat.le_of_eq g56.symm))) nin0))
        have f114 := (((A36.keep K41).ext E56).keep K61)
        obtain ⟨_, T75, L75, X75, hQ75, st75⟩ := own_cv X73 hx hZ31 hown31 hml (W 47 rfl) (W 48 rfl) (notFace_of_selects (W 50 rfl)) (W 50 rfl) (W 49 rfl) (W 35 rfl) (W 51 rfl) (rm33_equals l Z a0 hw b36 b56 b11_0 b21_0 b11_1 k11_0 p5 ((p1 &&& (255 : Int32)).toInt8.toInt32) ((((p1.toUInt32 >>> ((8 : Int32) &&& 31).toUInt32).toInt32) &&& (255 : Int32)).toInt8.toInt32) b21_1 k21_0 i6_2 ((i6_3 &&& (255 : Int32)).toInt8.toInt32) ((((i6_3.toUInt32 >>> ((8 : Int32) &&& 31).toUInt32).toInt32) &&& (255 : Int32)).toInt8.toInt32) o_COMPACT_STRINGS b16_0 b26_0 b16_1 k16_0 ((p5.toUInt32 >>> ((2 : Int32) &&& 31).toUInt32).toInt32) ((p3 &&& (255 : Int32)).toInt8.toInt32) ((((p3.toUInt32 >>> ((8 : Int32) &&& 31).toUInt32).toInt32) &&& (255 : Int32)).toInt8.toInt32) b26_1 k26_0 i6_4 ((i6_5 &&& (255 : Int32)).toInt8.toInt32) ((((i6_5.toUInt32 >>> ((8 : Int32) &&& 31).toUInt32).toInt32) &&& (255 : Int32)).toInt8.toInt32) T61.heap n0 O69 (f76) (f78) (F61_0) (f79) (f86) (f87) (f88) (f89) (f94) (f95) (f96) (S_o_COMPACT_STRINGS) ((Nat.ne_of_lt (Nat.lt_of_lt_of_le (Nat.lt_of_lt_of_le F11_0.lt z80) gb21_0))) (nz_o_COMPACT_STRINGS) (q1) (f97) (F61_1) (f98) (f104) (f105) (f106) (f107) (f111) (f112) (f113) ((Nat.ne_of_lt (Nat.lt_of_lt_of_le (Nat.lt_of_lt_of_le F16_0.lt z99) gb26_0))) (q2)) K73 f114 (hb hby at_280) 0 #[iv p1, iv p2, iv p3, iv p4, iv p5, iv p6, iv (own_len p5), .val (.int (own_len ((p5.toUInt32 >>> ((2 : Int32) &&& 31).toUInt32).toInt32))), iv i6_0, iv i6_1, iv i6_2, iv i6_3, iv i6_4, iv i6_5, rv b11_0, rv b16_0, rv b21_0, rv b26_0, rv b31_0, rv b36, .val (.int (((p6.toUInt32 >>> ((2 : Int32) &&& 31).toUInt32).toInt32) &&& (7 : Int32))), rv b56, .val o0] [(.ref b56)] [] pd_319
        obtain ⟨rfl, N75q, K75⟩ := hQ75
        have N115 := Fr.app N74 N75q
        obtain ⟨_, T116, L116, X116, hQ116, st116⟩ := own_cv X75 hx hZ31 hown31 hml (W 47 rfl) (W 48 rfl) (notFace_of_selects (W 50 rfl)) (W 50 rfl) (W 49 rfl) (W 35 rfl) (W 51 rfl) (rm34_equals l Z a0 hw b56 b36 b21_0 b11_0 b21_1 k21_0 i6_2 ((i6_3 &&& (255 : Int32)).toInt8.toInt32) ((((i6_3.toUInt32 >>> ((8 : Int32) &&& 31).toUInt32).toInt32) &&& (255 : Int32)).toInt8.toInt32) b11_1 k11_0 p5 ((p1 &&& (255 : Int32)).toInt8.toInt32) ((((p1.toUInt32 >>> ((8 : Int32) &&& 31).toUInt32).toInt32) &&& (255 : Int32)).toInt8.toInt32) o_COMPACT_STRINGS b26_0 b16_0 b26_1 k26_0 i6_4 ((i6_5 &&& (255 : Int32)).toInt8.toInt32) ((((i6_5.toUInt32 >>> ((8 : Int32) &&& 31).toUInt32).toInt32) &&& (255 : Int32)).toInt8.toInt32) b16_1 k16_0 ((p5.toUInt32 >>> ((2 : Int32) &&& 31).toUInt32).toInt32) ((p3 &&& (255 : Int32)).toInt8.toInt32) ((((p3.toUInt32 >>> ((8 : Int32) &&& 31).toUInt32).toInt32) &&& (255 : Int32)).toInt8.toInt32) T61.heap n0 O69 (f114) (F61_0) (f78) (f89) (f94) (f95) (f96) (f79) (f86) (f87) (f88) (S_o_COMPACT_STRINGS) ((Ne.symm (Nat.ne_of_lt (Nat.lt_of_lt_of_le (Nat.lt_of_lt_of_le F11_0.lt z80) gb21_0)))) (nz_o_COMPACT_STRINGS) ((by rw [own_ey _ _ _ _ (own_len3 _) h3s]; exact q1)) (F61_1) (f97) (f107) (f111) (f112) (f113) (f98) (f104) (f105) (f106) ((Ne.symm (Nat.ne_of_lt (Nat.lt_of_lt_of_le (Nat.lt_of_lt_of_le F16_0.lt z99) gb26_0)))) ((by rw [own_ey _ _ _ _ (own_len3 _) h3i]; exact q2))) K75 f76 (hb hby at_292) 0 #[iv p1, iv p2, iv p3, iv p4, iv p5, iv p6, iv (own_len p5), .val (.int (own_len ((p5.toUInt32 >>> ((2 : Int32) &&& 31).toUInt32).toInt32))), iv i6_0, iv i6_1, iv i6_2, iv i6_3, iv i6_4, iv i6_5, rv b11_0, rv b16_0, rv b21_0, rv b26_0, rv b31_0, rv b36, .val (.int (((p6.toUInt32 >>> ((2 : Int32) &&& 31).toUInt32).toInt32) &&& (7 : Int32))), rv b56, .val o0] [(.ref b36)] [] pd_319
        obtain ⟨rfl, N116q, K116⟩ := hQ116
        have N117 := Fr.app N115 N116q
        have z118 : T31.heap.size ≤ h36.size := E36.1
        have z119 : T31.heap.size ≤ T41.heap.size := (Nat.le_trans z118 K41.1)
        have z120 : T31.heap.size ≤ h56.size := (Nat.le_trans z119 E56.1)
        have z121 : T31.heap.size ≤ T61.heap.size := (Nat.le_trans z120 K61.1)
        refine ⟨T116, some (.int (1 : Int32)), _, _, _, T31.vm, _, X116, hS31, (by rw [K116]; exact (Nat.le_trans (Nat.le_refl _) z121)), by decide, by decide, nofun, ?_, own_che K116 (CHr.trans C68 (CHv.at (s := s) X116 hZ31 (own_ew_86 hw) c67.1)), fun fs hr => castTop (ef_333 m p1 p2 p3 p4 p5 p6) ?_⟩
        · exact ⟨rfl, N117⟩
        · refine stc55 _ ?_
          show SS p e below T41 m 171 #[iv p1, iv p2, iv p3, iv p4, iv p5, iv p6, iv (own_len p5), .val (.int (own_len ((p5.toUInt32 >>> ((2 : Int32) &&& 31).toUInt32).toInt32))), iv i6_0, iv i6_1, iv i6_2, iv i6_3, iv i6_4, iv i6_5, rv b11_0, rv b16_0, rv b21_0, rv b26_0, rv b31_0, rv b36, .val (.int (((p6.toUInt32 >>> ((2 : Int32) &&& 31).toUInt32).toInt32) &&& (7 : Int32))), .unset, .unset] [] _
          refine XS.iload X41.here hx rfl (hb hby at_171) rfl ?_
          refine XS.iconst X41.here hx rfl (hb hby at_173) ?_
          refine XS.icmpYes X41.here hx rfl (pc0 := 174) (pc' := 185) rfl (hb hby at_174) rfl (feq hk5).2 (by decide) (by decide) ?_
          refine XS.iload X41.here hx rfl (hb hby at_185) rfl ?_
          refine XS.bipush X41.here hx rfl (hb hby at_187) ?_
          refine XS.icmpYes X41.here hx rfl (pc0 := 189) (pc' := 207) rfl (hb hby at_189) rfl (feq hk6).2 (by decide) (by decide) ?_
          refine XS.iload X41.here hx rfl (hb hby at_207) rfl ?_
          refine XS.bipush X41.here hx rfl (hb hby at_209) ?_
          refine XS.icmpYes X41.here hx rfl (pc0 := 211) (pc' := 230) rfl (hb hby at_211) rfl (feq hk7).2 (by decide) (by decide) ?_
          refine st56 _ ?_
          show SS p e below T56 m 233 #[iv p1, iv p2, iv p3, iv p4, iv p5, iv p6, iv (own_len p5), .val (.int (own_len ((p5.toUInt32 >>> ((2 : Int32) &&& 31).toUInt32).toInt32))), iv i6_0, iv i6_1, iv i6_2, iv i6_3, iv i6_4, iv i6_5, rv b11_0, rv b16_0, rv b21_0, rv b26_0, rv b31_0, rv b36, .val (.int (((p6.toUInt32 >>> ((2 : Int32) &&& 31).toUInt32).toInt32) &&& (7 : Int32))), .unset, .unset] [(.ref b56)] _
          refine XS.dup X56.here hx rfl (hb hby at_233) rfl rfl ?_
          refine XS.aload X56.here hx rfl (hb hby at_234) rfl rfl ?_
          refine XS.aload X56.here hx rfl (hb hby at_236) rfl rfl ?_
          refine st61 _ ?_
          refine XS.astore X61.here hx rfl (hb hby at_241) rfl rfl (l' := #[iv p1, iv p2, iv p3, iv p4, iv p5, iv p6, iv (own_len p5), .val (.int (own_len ((p5.toUInt32 >>> ((2 : Int32) &&& 31).toUInt32).toInt32))), iv i6_0, iv i6_1, iv i6_2, iv i6_3, iv i6_4, iv i6_5, rv b11_0, rv b16_0, rv b21_0, rv b26_0, rv b31_0, rv b36, .val (.int (((p6.toUInt32 >>> ((2 : Int32) &&& 31).toUInt32).toInt32) &&& (7 : Int32))), rv b56, .unset]) rfl ?_
          refine XS.iload X61.here hx rfl (hb hby at_243) rfl ?_
          refine XS.iloadN X61.here hx rfl (hb hby at_245) rfl ?_
          refine XS.iload X61.here hx rfl (hb hby at_246) rfl ?_
          refine XS.iload X61.here hx rfl (hb hby at_248) rfl ?_
          refine st71 _ ?_
          show SS p e below T71 m 253 #[iv p1, iv p2, iv p3, iv p4, iv p5, iv p6, iv (own_len p5), .val (.int (own_len ((p5.toUInt32 >>> ((2 : Int32) &&& 31).toUInt32).toInt32))), iv i6_0, iv i6_1, iv i6_2, iv i6_3, iv i6_4, iv i6_5, rv b11_0, rv b16_0, rv b21_0, rv b26_0, rv b31_0, rv b36, .val (.int (((p6.toUInt32 >>> ((2 : Int32) &&& 31).toUInt32).toInt32) &&& (7 : Int32))), rv b56, .unset] [(.int (own_sm (own_len p5) p1 i6_2 i6_3))] _
          refine XS.ifNo X71.here hx rfl (hb hby at_253) rfl ((if0 _ _).trans (feq (by rw [own_es _ _ (own_len3 _) h3s]; exact q1)).1) ?_
          refine XS.iload X71.here hx rfl (hb hby at_256) rfl ?_
          refine XS.iloadN X71.here hx rfl (hb hby at_258) rfl ?_
          refine XS.iload X71.here hx rfl (hb hby at_259) rfl ?_
          refine XS.iload X71.here hx rfl (hb hby at_261) rfl ?_
          refine st73 _ ?_
          refine XS.ifYes X73.here hx rfl (pc0 := 266) (pc' := 273) rfl (hb hby at_266) rfl ((if0 _ _).trans (teq (by rw [own_es _ _ (own_len3 _) h3i]; exact q2)).1) (by decide) (by decide) ?_
          refine XS.iconst X73.here hx rfl (hb hby at_273) ?_
          refine XS.istore X73.here hx rfl (hb hby at_274) rfl (l' := #[iv p1, iv p2, iv p3, iv p4, iv p5, iv p6, iv (own_len p5), .val (.int (own_len ((p5.toUInt32 >>> ((2 : Int32) &&& 31).toUInt32).toInt32))), iv i6_0, iv i6_1, iv i6_2, iv i6_3, iv i6_4, iv i6_5, rv b11_0, rv b16_0, rv b21_0, rv b26_0, rv b31_0, rv b36, .val (.int (((p6.toUInt32 >>> ((2 : Int32) &&& 31).toUInt32).toInt32) &&& (7 : Int32))), rv b56, .val o0]) rfl ?_
          refine XS.aload X73.here hx rfl (hb hby at_276) rfl rfl ?_
          show SS p e below T73 m 278 #[iv p1, iv p2, iv p3, iv p4, iv p5, iv p6, iv (own_len p5), .val (.int (own_len ((p5.toUInt32 >>> ((2 : Int32) &&& 31).toUInt32).toInt32))), iv i6_0, iv i6_1, iv i6_2, iv i6_3, iv i6_4, iv i6_5, rv b11_0, rv b16_0, rv b21_0, rv b26_0, rv b31_0, rv b36, .val (.int (((p6.toUInt32 >>> ((2 : Int32) &&& 31).toUInt32).toInt32) &&& (7 : Int32))), rv b56, .val o0] [(.ref b36)] _
          refine XS.aload X73.here hx rfl (hb hby at_278) rfl rfl ?_
          refine st75 _ ?_
          refine XS.iload X75.here hx rfl (hb hby at_283) rfl ?_
          refine XS.icmpNo X75.here hx rfl (hb hby at_285) rfl (teq (by decide : (0 : Int32) = (0 : Int32))).2 ?_
          refine XS.aload X75.here hx rfl (hb hby at_288) rfl rfl ?_
          refine XS.aload X75.here hx rfl (hb hby at_290) rfl rfl ?_
          refine st116 _ ?_
          refine XS.iload X116.here hx rfl (hb hby at_295) rfl ?_
          refine XS.icmpNo X116.here hx rfl (hb hby at_297) rfl (teq (by decide : (0 : Int32) = (0 : Int32))).2 ?_
          refine XS.iconst X116.here hx rfl (hb hby at_300) ?_
          show SS p e below T116 m 301 #[iv p1, iv p2, iv p3, iv p4, iv p5, iv p6, iv (own_len p5), .val (.int (own_len ((p5.toUInt32 >>> ((2 : Int32) &&& 31).toUInt32).toInt32))), iv i6_0, iv i6_1, iv i6_2, iv i6_3, iv i6_4, iv i6_5, rv b11_0, rv b16_0, rv b21_0, rv b26_0, rv b31_0, rv b36, .val (.int (((p6.toUInt32 >>> ((2 : Int32) &&& 31).toUInt32).toInt32) &&& (7 : Int32))), rv b56, .val o0] [(.int (1 : Int32))] _
          refine XS.goto X116.here hx rfl (pc0 := 301) (pc' := 305) rfl (hb hby at_301) (by decide) (by decide) ?_
          exact retN X116 hx (t := .boolean) hret (by simp) (hb hby at_305) hr
    · obtain ⟨T56, h56, X56, e56, E56, A56, D56, -, st56⟩ := newO X41 hx hZ31 hown31 (W 33 rfl) (W 34 rfl) (W 35 rfl) rfl (g := (mkF m 230 #[iv p1, iv p2, iv p3, iv p4, iv p5, iv p6, iv (own_len p5), .val (.int (own_len ((p5.toUInt32 >>> ((2 : Int32) &&& 31).toUInt32).toInt32))), iv i6_0, iv i6_1, iv i6_2, iv i6_3, iv i6_4, iv i6_5, rv b11_0, rv b16_0, rv b21_0, rv b26_0, rv b31_0, rv b36, .val (.int (((p6.toUInt32 >>> ((2 : Int32) &&& 31).toUInt32).toInt32) &&& (7 : Int32))), .unset, .unset] [])) rfl (hb hby at_230) (by decide) (by decide)
      obtain ⟨b56, g56⟩ : ∃ z, z = T41.heap.size := ⟨_, rfl⟩
      rw [← g56] at A56 D56 st56
      have c57 := CHr.ext E56 c51.1
      have C58 := CHr.trans C52 c57
      have O59 := O53.ext E56
      have K60 : Keep h0 h56 [] := Keep.ext K54 E56
      have z62 : h0.size ≤ h36.size := (Nat.le_trans z47 E36.1)
      have z63 : h0.size ≤ T41.heap.size := (Nat.le_trans z62 K41.1)
      have g64 : n0 ≤ b56 := Nat.le_trans (Nat.le_trans (Nat.le_trans (Nat.le_of_eq O0.1.symm) O0.2.1) z63) (Nat.le_of_eq g56.symm)
      obtain ⟨_, T61, L61, X61, hQ61, st61⟩ := own_cp X56 hx hZ31 hown31 hml rfl (W 36 rfl) (W 37 rfl) (W 35 rfl) (W 38 rfl) (rm26_init l Z a0 hw b56 b21_0 b26_0 h56 n0 O59 (A56) ((D56 (Or.inr (W 41 rfl)) (ty := (.object "java/lang/String")) (by decide) : FA19 Z h56 b56 .null)) (g64) ((D56 (Or.inr (W 43 rfl)) (ty := (.object "java/lang/String")) (by decide) : FA20 Z h56 b56 .null))) e56 (hb hby at_238) 1 #[iv p1, iv p2, iv p3, iv p4, iv p5, iv p6, iv (own_len p5), .val (.int (own_len ((p5.toUInt32 >>> ((2 : Int32) &&& 31).toUInt32).toInt32))), iv i6_0, iv i6_1, iv i6_2, iv i6_3, iv i6_4, iv i6_5, rv b11_0, rv b16_0, rv b21_0, rv b26_0, rv b31_0, rv b36, .val (.int (((p6.toUInt32 >>> ((2 : Int32) &&& 31).toUInt32).toInt32) &&& (7 : Int32))), .unset, .unset] b56 [(.ref b21_0), (.ref b26_0)] [(.ref b56)] pd_304
      obtain ⟨rfl, N61q, K61, F61_0, F61_1⟩ := hQ61
      have N65 := Fr.app N49 N61q
      have s66 := Safe.exa (EL := consts_1) hZ31.alike A56 (by decide) (by decide)
      have c67 := CHr.keep K61 (sfS s66 sf0) c57.1
      have C68 := CHr.trans C58 c67
      have O69 := O59.keep K61 (allS g64 all0)
      have K70 : Keep h0 T61.heap [] := Keep.trans K60 K61 (allS (Or.inr (Nat.le_trans z63 (Nat.le_of_eq g56.symm))) all0)
      obtain ⟨_, T71, L71, X71, hQ71, st71⟩ := own_cs X61 hx hZ31 hown31 hml (W 44 rfl) (W 45 rfl) (W 2 rfl) (W 46 rfl) (own_sameC l Z a0 hw (own_len p5) p1 i6_2 i6_3 T61.heap n0 O69 ) rfl (hb hby at_250) 0 #[iv p1, iv p2, iv p3, iv p4, iv p5, iv p6, iv (own_len p5), .val (.int (own_len ((p5.toUInt32 >>> ((2 : Int32) &&& 31).toUInt32).toInt32))), iv i6_0, iv i6_1, iv i6_2, iv i6_3, iv i6_4, iv i6_5, rv b11_0, rv b16_0, rv b21_0, rv b26_0, rv b31_0, rv b36, .val (.int (((p6.toUInt32 >>> ((2 : Int32) &&& 31).toUInt32).toInt32) &&& (7 : Int32))), rv b56, .unset] [(.int (own_len p5)), (.int p1), (.int i6_2), (.int i6_3)] [] pd_332
      obtain ⟨rfl, N71q, K71⟩ := hQ71
      have N72 := Fr.app N65 N71q
      have f74 := (A56.keep K61)
      have z75 : h36.size ≤ T41.heap.size := K41.1
      have f76 := ((F41_0.ext E56).keep K61 (ninS (Nat.ne_of_lt (Nat.lt_of_lt_of_le (Nat.lt_of_lt_of_le A36.lt z75) (Nat.le_of_eq g56.symm))) nin0))
      have f77 := ((((((((F11_0.keep K16).keep K21).keep K26).keep K31).ext E36).keep K41).ext E56).keep K61)
      have z78 : T11.heap.size ≤ T16.heap.size := K16.1
      have z79 : T11.heap.size ≤ T21.heap.size := (Nat.le_trans z78 K21.1)
      have z80 : T11.heap.size ≤ T26.heap.size := (Nat.le_trans z79 K26.1)
      have z81 : T11.heap.size ≤ T31.heap.size := (Nat.le_trans z80 K31.1)
      have z82 : T11.heap.size ≤ h36.size := (Nat.le_trans z81 E36.1)
      have z83 : T11.heap.size ≤ T41.heap.size := (Nat.le_trans z82 K41.1)
      have f84 := ((((((((F11_1.keep K16 nin0).keep K21 nin0).keep K26 nin0).keep K31 nin0).ext E36).keep K41 (ninS (Nat.ne_of_lt (Nat.lt_of_lt_of_le (Nat.lt_of_lt_of_le F11_0.lt z81) (Nat.le_of_eq g36.symm))) nin0)).ext E56).keep K61 (ninS (Nat.ne_of_lt (Nat.lt_of_lt_of_le (Nat.lt_of_lt_of_le F11_0.lt z83) (Nat.le_of_eq g56.symm))) nin0))
      have f85 := ((((((((F11_2.keep K16 nin0).keep K21 nin0).keep K26 nin0).keep K31 nin0).ext E36).keep K41 (ninS (Nat.ne_of_lt (Nat.lt_of_lt_of_le (Nat.lt_of_lt_of_le F11_0.lt z81) (Nat.le_of_eq g36.symm))) nin0)).ext E56).keep K61 (ninS (Nat.ne_of_lt (Nat.lt_of_lt_of_le (Nat.lt_of_lt_of_le F11_0.lt z83) (Nat.le_of_eq g56.symm))) nin0))
      have f86 := ((((((((F11_3.keep K16 nin0).keep K21 nin0).keep K26 nin0).keep K31 nin0).ext E36).keep K41 (ninS (Nat.ne_of_lt (Nat.lt_of_lt_of_le (Nat.lt_of_lt_of_le F11_3.lt z81) (Nat.le_of_eq g36.symm))) nin0)).ext E56).keep K61 (ninS (Nat.ne_of_lt (Nat.lt_of_lt_of_le (Nat.lt_of_lt_of_le F11_3.lt z83) (Nat.le_of_eq g56.symm))) nin0))
      have f87 := ((((((F21_0.keep K26).keep K31).ext E36).keep K41).ext E56).keep K61)
      have z88 : T21.heap.size ≤ T26.heap.size := K26.1
      have z89 : T21.heap.size ≤ T31.heap.size := (Nat.le_trans z88 K31.1)
      have z90 : T21.heap.size ≤ h36.size := (Nat.le_trans z89 E36.1)
      have z91 : T21.heap.size ≤ T41.heap.size := (Nat.le_trans z90 K41.1)
      have f92 := ((((((F21_1.keep K26 nin0).keep K31 nin0).ext E36).keep K41 (ninS (Nat.ne_of_lt (Nat.lt_of_lt_of_le (Nat.lt_of_lt_of_le F21_0.lt z89) (Nat.le_of_eq g36.symm))) nin0)).ext E56).keep K61 (ninS (Nat.ne_of_lt (Nat.lt_of_lt_of_le (Nat.lt_of_lt_of_le F21_0.lt z91) (Nat.le_of_eq g56.symm))) nin0))
      have f93 := ((((((F21_2.keep K26 nin0).keep K31 nin0).ext E36).keep K41 (ninS (Nat.ne_of_lt (Nat.lt_of_lt_of_le (Nat.lt_of_lt_of_le F21_0.lt z89) (Nat.le_of_eq g36.symm))) nin0)).ext E56).keep K61 (ninS (Nat.ne_of_lt (Nat.lt_of_lt_of_le (Nat.lt_of_lt_of_le F21_0.lt z91) (Nat.le_of_eq g56.symm))) nin0))
      have f94 := ((((((F21_3.keep K26 nin0).keep K31 nin0).ext E36).keep K41 (ninS (Nat.ne_of_lt (Nat.lt_of_lt_of_le (Nat.lt_of_lt_of_le F21_3.lt z89) (Nat.le_of_eq g36.symm))) nin0)).ext E56).keep K61 (ninS (Nat.ne_of_lt (Nat.lt_of_lt_of_le (Nat.lt_of_lt_of_le F21_3.lt z91) (Nat.le_of_eq g56.symm))) nin0))
      have f95 := (((A36.keep K41).ext E56).keep K61)
      obtain ⟨_, T73, L73, X73, hQ73, st73⟩ := own_cv X71 hx hZ31 hown31 hml (W 47 rfl) (W 48 rfl) (notFace_of_selects (W 50 rfl)) (W 50 rfl) (W 49 rfl) (W 35 rfl) (W 51 rfl) (rm35_equals l Z a0 hw b36 b56 b11_0 b21_0 b11_1 k11_0 p5 ((p1 &&& (255 : Int32)).toInt8.toInt32) ((((p1.toUInt32 >>> ((8 : Int32) &&& 31).toUInt32).toInt32) &&& (255 : Int32)).toInt8.toInt32) b21_1 k21_0 i6_2 ((i6_3 &&& (255 : Int32)).toInt8.toInt32) ((((i6_3.toUInt32 >>> ((8 : Int32) &&& 31).toUInt32).toInt32) &&& (255 : Int32)).toInt8.toInt32) o_COMPACT_STRINGS T61.heap n0 O69 (f74) (f76) (F61_0) (f77) (f84) (f85) (f86) (f87) (f92) (f93) (f94) (S_o_COMPACT_STRINGS) ((Nat.ne_of_lt (Nat.lt_of_lt_of_le (Nat.lt_of_lt_of_le F11_0.lt z78) gb21_0))) (nz_o_COMPACT_STRINGS) (q1)) K71 f95 (hb hby at_280) 0 #[iv p1, iv p2, iv p3, iv p4, iv p5, iv p6, iv (own_len p5), .val (.int (own_len ((p5.toUInt32 >>> ((2 : Int32) &&& 31).toUInt32).toInt32))), iv i6_0, iv i6_1, iv i6_2, iv i6_3, iv i6_4, iv i6_5, rv b11_0, rv b16_0, rv b21_0, rv b26_0, rv b31_0, rv b36, .val (.int (((p6.toUInt32 >>> ((2 : Int32) &&& 31).toUInt32).toInt32) &&& (7 : Int32))), rv b56, .val o0] [(.ref b56)] [] pd_319
      obtain ⟨rfl, N73q, K73⟩ := hQ73
      have N96 := Fr.app N72 N73q
      obtain ⟨_, T97, L97, X97, hQ97, st97⟩ := own_cv X73 hx hZ31 hown31 hml (W 47 rfl) (W 48 rfl) (notFace_of_selects (W 50 rfl)) (W 50 rfl) (W 49 rfl) (W 35 rfl) (W 51 rfl) (rm36_equals l Z a0 hw b56 b36 b21_0 b11_0 b21_1 k21_0 i6_2 ((i6_3 &&& (255 : Int32)).toInt8.toInt32) ((((i6_3.toUInt32 >>> ((8 : Int32) &&& 31).toUInt32).toInt32) &&& (255 : Int32)).toInt8.toInt32) b11_1 k11_0 p5 ((p1 &&& (255 : Int32)).toInt8.toInt32) ((((p1.toUInt32 >>> ((8 : Int32) &&& 31).toUInt32).toInt32) &&& (255 : Int32)).toInt8.toInt32) o_COMPACT_STRINGS T61.heap n0 O69 (f95) (F61_0) (f76) (f87) (f92) (f93) (f94) (f77) (f84) (f85) (f86) (S_o_COMPACT_STRINGS) ((Ne.symm (Nat.ne_of_lt (Nat.lt_of_lt_of_le (Nat.lt_of_lt_of_le F11_0.lt z78) gb21_0)))) (nz_o_COMPACT_STRINGS) ((by rw [own_ey _ _ _ _ (own_len3 _) h3s]; exact q1))) K73 f74 (hb hby at_292) 0 #[iv p1, iv p2, iv p3, iv p4, iv p5, iv p6, iv (own_len p5), .val (.int (own_len ((p5.toUInt32 >>> ((2 : Int32) &&& 31).toUInt32).toInt32))), iv i6_0, iv i6_1, iv i6_2, iv i6_3, iv i6_4, iv i6_5, rv b11_0, rv b16_0, rv b21_0, rv b26_0, rv b31_0, rv b36, .val (.int (((p6.toUInt32 >>> ((2 : Int32) &&& 31).toUInt32).toInt32) &&& (7 : Int32))), rv b56, .val o0] [(.ref b36)] [] pd_319
      obtain ⟨rfl, N97q, K97⟩ := hQ97
      have N98 := Fr.app N96 N97q
      have z99 : T31.heap.size ≤ h36.size := E36.1
      have z100 : T31.heap.size ≤ T41.heap.size := (Nat.le_trans z99 K41.1)
      have z101 : T31.heap.size ≤ h56.size := (Nat.le_trans z100 E56.1)
      have z102 : T31.heap.size ≤ T61.heap.size := (Nat.le_trans z101 K61.1)
      refine ⟨T97, some (.int (1 : Int32)), _, _, _, T31.vm, _, X97, hS31, (by rw [K97]; exact (Nat.le_trans (Nat.le_refl _) z102)), by decide, by decide, nofun, ?_, own_che K97 (CHr.trans C68 (CHv.at (s := s) X97 hZ31 (own_ew_86 hw) c67.1)), fun fs hr => castTop (ef_333 m p1 p2 p3 p4 p5 p6) ?_⟩
      · exact ⟨rfl, N98⟩
      · refine stc55 _ ?_
        show SS p e below T41 m 171 #[iv p1, iv p2, iv p3, iv p4, iv p5, iv p6, iv (own_len p5), .val (.int (own_len ((p5.toUInt32 >>> ((2 : Int32) &&& 31).toUInt32).toInt32))), iv i6_0, iv i6_1, iv i6_2, iv i6_3, iv i6_4, iv i6_5, rv b11_0, rv b16_0, rv b21_0, rv b26_0, rv b31_0, rv b36, .val (.int (((p6.toUInt32 >>> ((2 : Int32) &&& 31).toUInt32).toInt32) &&& (7 : Int32))), .unset, .unset] [] _
        refine XS.iload X41.here hx rfl (hb hby at_171) rfl ?_
        refine XS.iconst X41.here hx rfl (hb hby at_173) ?_
        refine XS.icmpYes X41.here hx rfl (pc0 := 174) (pc' := 185) rfl (hb hby at_174) rfl (feq hk5).2 (by decide) (by decide) ?_
        refine XS.iload X41.here hx rfl (hb hby at_185) rfl ?_
        refine XS.bipush X41.here hx rfl (hb hby at_187) ?_
        refine XS.icmpYes X41.here hx rfl (pc0 := 189) (pc' := 207) rfl (hb hby at_189) rfl (feq hk6).2 (by decide) (by decide) ?_
        refine XS.iload X41.here hx rfl (hb hby at_207) rfl ?_
        refine XS.bipush X41.here hx rfl (hb hby at_209) ?_
        refine XS.icmpYes X41.here hx rfl (pc0 := 211) (pc' := 230) rfl (hb hby at_211) rfl (feq hk7).2 (by decide) (by decide) ?_
        refine st56 _ ?_
        show SS p e below T56 m 233 #[iv p1, iv p2, iv p3, iv p4, iv p5, iv p6, iv (own_len p5), .val (.int (own_len ((p5.toUInt32 >>> ((2 : Int32) &&& 31).toUInt32).toInt32))), iv i6_0, iv i6_1, iv i6_2, iv i6_3, iv i6_4, iv i6_5, rv b11_0, rv b16_0, rv b21_0, rv b26_0, rv b31_0, rv b36, .val (.int (((p6.toUInt32 >>> ((2 : Int32) &&& 31).toUInt32).toInt32) &&& (7 : Int32))), .unset, .unset] [(.ref b56)] _
        refine XS.dup X56.here hx rfl (hb hby at_233) rfl rfl ?_
        refine XS.aload X56.here hx rfl (hb hby at_234) rfl rfl ?_
        refine XS.aload X56.here hx rfl (hb hby at_236) rfl rfl ?_
        refine st61 _ ?_
        refine XS.astore X61.here hx rfl (hb hby at_241) rfl rfl (l' := #[iv p1, iv p2, iv p3, iv p4, iv p5, iv p6, iv (own_len p5), .val (.int (own_len ((p5.toUInt32 >>> ((2 : Int32) &&& 31).toUInt32).toInt32))), iv i6_0, iv i6_1, iv i6_2, iv i6_3, iv i6_4, iv i6_5, rv b11_0, rv b16_0, rv b21_0, rv b26_0, rv b31_0, rv b36, .val (.int (((p6.toUInt32 >>> ((2 : Int32) &&& 31).toUInt32).toInt32) &&& (7 : Int32))), rv b56, .unset]) rfl ?_
        refine XS.iload X61.here hx rfl (hb hby at_243) rfl ?_
        refine XS.iloadN X61.here hx rfl (hb hby at_245) rfl ?_
        refine XS.iload X61.here hx rfl (hb hby at_246) rfl ?_
        refine XS.iload X61.here hx rfl (hb hby at_248) rfl ?_
        refine st71 _ ?_
        show SS p e below T71 m 253 #[iv p1, iv p2, iv p3, iv p4, iv p5, iv p6, iv (own_len p5), .val (.int (own_len ((p5.toUInt32 >>> ((2 : Int32) &&& 31).toUInt32).toInt32))), iv i6_0, iv i6_1, iv i6_2, iv i6_3, iv i6_4, iv i6_5, rv b11_0, rv b16_0, rv b21_0, rv b26_0, rv b31_0, rv b36, .val (.int (((p6.toUInt32 >>> ((2 : Int32) &&& 31).toUInt32).toInt32) &&& (7 : Int32))), rv b56, .unset] [(.int (own_sm (own_len p5) p1 i6_2 i6_3))] _
        refine XS.ifYes X71.here hx rfl (pc0 := 253) (pc' := 273) rfl (hb hby at_253) rfl ((if0 _ _).trans (teq (by rw [own_es _ _ (own_len3 _) h3s]; exact q1)).1) (by decide) (by decide) ?_
        refine XS.iconst X71.here hx rfl (hb hby at_273) ?_
        refine XS.istore X71.here hx rfl (hb hby at_274) rfl (l' := #[iv p1, iv p2, iv p3, iv p4, iv p5, iv p6, iv (own_len p5), .val (.int (own_len ((p5.toUInt32 >>> ((2 : Int32) &&& 31).toUInt32).toInt32))), iv i6_0, iv i6_1, iv i6_2, iv i6_3, iv i6_4, iv i6_5, rv b11_0, rv b16_0, rv b21_0, rv b26_0, rv b31_0, rv b36, .val (.int (((p6.toUInt32 >>> ((2 : Int32) &&& 31).toUInt32).toInt32) &&& (7 : Int32))), rv b56, .val o0]) rfl ?_
        refine XS.aload X71.here hx rfl (hb hby at_276) rfl rfl ?_
        refine XS.aload X71.here hx rfl (hb hby at_278) rfl rfl ?_
        refine st73 _ ?_
        refine XS.iload X73.here hx rfl (hb hby at_283) rfl ?_
        refine XS.icmpNo X73.here hx rfl (hb hby at_285) rfl (teq (by decide : (0 : Int32) = (0 : Int32))).2 ?_
        refine XS.aload X73.here hx rfl (hb hby at_288) rfl rfl ?_
        refine XS.aload X73.here hx rfl (hb hby at_290) rfl rfl ?_
        show SS p e below T73 m 292 #[iv p1, iv p2, iv p3, iv p4, iv p5, iv p6, iv (own_len p5), .val (.int (own_len ((p5.toUInt32 >>> ((2 : Int32) &&& 31).toUInt32).toInt32))), iv i6_0, iv i6_1, iv i6_2, iv i6_3, iv i6_4, iv i6_5, rv b11_0, rv b16_0, rv b21_0, rv b26_0, rv b31_0, rv b36, .val (.int (((p6.toUInt32 >>> ((2 : Int32) &&& 31).toUInt32).toInt32) &&& (7 : Int32))), rv b56, .val o0] [(.ref b36), (.ref b56)] _
        refine st97 _ ?_
        refine XS.iload X97.here hx rfl (hb hby at_295) rfl ?_
        refine XS.icmpNo X97.here hx rfl (hb hby at_297) rfl (teq (by decide : (0 : Int32) = (0 : Int32))).2 ?_
        refine XS.iconst X97.here hx rfl (hb hby at_300) ?_
        refine XS.goto X97.here hx rfl (pc0 := 301) (pc' := 305) rfl (hb hby at_301) (by decide) (by decide) ?_
        exact retN X97 hx (t := .boolean) hret (by simp) (hb hby at_305) hr
theorem comes_1 {Post : Tables → Env → Array Value → State → Outcome → State → Prop} (hpost : ∀ tb e args s v u, (limb_1_1.after args s (.returned v) u = true ∧ limb_1_2.after args s (.returned v) u = true ∧ True) → ReturnedEndW s (.returned v) u (Jvm.fieldLocs frame_1_writes args s ++ Jvm.arrayLocs frame_1_arrays args s ++ Jvm.staticLocs frame_1_statics s) 48 1216 → Post tb e args s (.returned v) u) :
    ArmFor flags0 classFile x code maxLocals ret World_1 tables_1 room_1 Calls_1 rest_1 Pre_1 Post := by
  intro l hfl _ _ p e ha hc hk s m args below hf hA hF happ hP
  obtain ⟨hcalls, hrest, hpre⟩ := hP
  obtain ⟨-, -, -, hnamed, -, -, -, hat⟩ := (Spec.applies_iff hf).mp happ
  obtain ⟨hg, hn⟩ := and_e (Cond.before_iff.mp (show (Jvm.Cond.and given_1 narrow_1).before args s = true from hpre))
  obtain ⟨hg0, hgr0⟩ := and_e hg
  obtain ⟨hg1, hgr1⟩ := and_e hgr0
  obtain ⟨hg2, hgr2⟩ := and_e hgr1
  obtain ⟨hg3, hgr3⟩ := and_e hgr2
  obtain ⟨hg4, hgr4⟩ := and_e hgr3
  obtain ⟨hg5, hg6⟩ := and_e hgr4
  obtain ⟨w0, w1, w2, w3, w4, w5, rfl⟩ : ∃ w0 w1 w2 w3 w4 w5 : Value, args = #[w0, w1, w2, w3, w4, w5] := by
    have hs : args.size = 6 := by simpa [Cond.value, given_1] using hg0
    obtain ⟨L⟩ := args
    match L, hs with
    | [w0, w1, w2, w3, w4, w5], _ => exact ⟨w0, w1, w2, w3, w4, w5, rfl⟩
  have hw := fun d (hd : d ∈ tables_1) => atoms_spec (ws := Jvm.Cond.code x code maxLocals ret :: tables_1) hat d (List.mem_cons_of_mem _ hd)
  have W := @own_W _ _ hw
  have hfit : Fit s := fun {y c} hc i hi => by
    obtain ⟨ha, rfl⟩ := Array.getElem?_eq_some_iff.mp hc
    have q := List.all_eq_true.mp ((Array.all_eq_true_iff_forall_mem.mp hF) _ (Array.getElem_mem ha)) i (List.mem_range.mpr hi)
    simpa [Array.getElem?_eq_getElem hi] using q
  obtain ⟨hsets, hown0⟩ := atoms_of _ (rest_1_c_eq ▸ (show rest_1_c.before _ s = true from hrest))
  have hr0 := Cond.before_iff.mp hown0
  obtain ⟨i0, ei0⟩ := is_v hg1
  obtain rfl : w0 = (.int i0) := Option.some.inj ei0
  obtain ⟨i1, ei1⟩ := is_v hg2
  obtain rfl : w1 = (.int i1) := Option.some.inj ei1
  obtain ⟨i2, ei2⟩ := is_v hg3
  obtain rfl : w2 = (.int i2) := Option.some.inj ei2
  obtain ⟨i3, ei3⟩ := is_v hg4
  obtain rfl : w3 = (.int i3) := Option.some.inj ei3
  obtain ⟨i4, ei4⟩ := is_v hg5
  obtain rfl : w4 = (.int i4) := Option.some.inj ei4
  obtain ⟨i5, ei5⟩ := is_v hg6
  obtain rfl : w5 = (.int i5) := Option.some.inj ei5
  obtain ⟨o_COMPACT_STRINGS, ev_o_COMPACT_STRINGS⟩ := is_v (Cond.before_iff.mp (hsets _ (List.mem_of_getElem? (i := 1) rfl)))
  have S_o_COMPACT_STRINGS := Sta.start ev_o_COMPACT_STRINGS (Or.inl (hsets _ (List.mem_of_getElem? (i := 0) rfl)))
  have nz_o_COMPACT_STRINGS : ¬ (o_COMPACT_STRINGS = (0 : Int32)) := own_neI ev_o_COMPACT_STRINGS (Cond.before_iff.mp (hsets _ (List.mem_of_getElem? (i := 2) rfl)))
  obtain ⟨o_SIOOBE_FORMATTER, ev_o_SIOOBE_FORMATTER, ir_o_SIOOBE_FORMATTER⟩ := isR_v (Cond.before_iff.mp (hsets _ (List.mem_of_getElem? (i := 8) rfl)))
  have S_o_SIOOBE_FORMATTER := Sta.start ev_o_SIOOBE_FORMATTER (Or.inl (hsets _ (List.mem_of_getElem? (i := 7) rfl)))
  have hCH : CHv s consts_1 s.vm s.heap := CHv.start (a0 := _) (own_ew_86 hw) (fun p hp => hcalls.1 p hp) (hsets _ (List.mem_of_getElem? (i := 2) rfl)) (W 26 rfl) (W 12 rfl)
  obtain ⟨n, o, h1, h2, h3, _, L, rfl, ⟨rfl, N⟩, -, hq⟩ := rm0 l s _ hw tables_1 i0 i1 i2 i3 i4 i5 o_COMPACT_STRINGS o_SIOOBE_FORMATTER s.heap s.heap.size (Old.start s) S_o_COMPACT_STRINGS S_o_SIOOBE_FORMATTER nz_o_COMPACT_STRINGS ir_o_SIOOBE_FORMATTER p e ha hc hk s m _ below hf ((Spec.applies_iff_loose hf).mp happ).1 ⟨rfl, State.Warmed39.refl s, rfl, hCH, fun _ q => nomatch q⟩ trivial
  refine ⟨n, _, h1, h2, h3, hpost _ _ _ _ _ _ ⟨Cond.after_iff.mpr rfl, Cond.after_iff.mpr (eq_i res_at (Term.int_eval (1)) rfl), trivial⟩ ⟨hq.1, hq.2.1, hq.2.2.1, (hq.2.2.2.sift fun y hy => Or.inr (N y hy)).mono (by decide) (by decide)⟩⟩
theorem main_1_1 : Claimed_1_1 := comes_1 fun _ _ _ _ _ _ h hF => ⟨h.1, hF⟩
theorem main_1_2 : Claimed_1_2 := comes_1 fun _ _ _ _ _ _ h hF => ⟨h.2.1, hF⟩
end Jvm.Pilot.@@N@@
namespace Jvm.Pilot.@@N@@
open Jvm Jvm.ClassFile Sem Op Lib Jvm.Free Jvm.Stand Jvm.Pilot.@@N@@.Jvm.D
/-! MADE BY PROGRAM (witnessworld.py) out of the Statement's table words and the real class files: 21 classes; the members and pool entries that the words name. The judged class is class 1, her method 4. -/
namespace start1
open Jvm.ClassFile
def u (s : String) : CpInfo := .utf8 (stringToUtf16 s)
/-- a pool by its gaps: so many unusable entries, then the entry; so many at the end -/
def gap : Nat → List CpInfo → List CpInfo
  | 0, r => r
  | n + 1, r => .unusable :: gap n r
def poolList (es : List (Nat × CpInfo)) (last : Nat) : List CpInfo := es.foldr (fun e r => gap e.1 (e.2 :: r)) (gap last [])
def pool (es : List (Nat × CpInfo)) (last : Nat) : Array CpInfo := ⟨poolList es last⟩
def fileOf (pool : Array CpInfo) (this : Nat) (attrs : Array Attribute := #[]) (ms : Array MethodInfo := #[]) (fl : Nat := 33) (sup : Nat := 0) (ifs : Array Nat := #[]) (fds : Array FieldInfo := #[]) : ClassFile where
  minorVersion := 0
  majorVersion := 65
  constantPool := pool
  accessFlags := fl
  thisClass := this
  superClass := sup
  interfaces := ifs
  fields := fds
  methods := ms
  attributes := attrs
def plain (name : String) (sup : Option ClassId) : Class where
  name := name
  kind := .ordinary
  loader := none
  accessFlags := 33
  super := sup
  interfaces := #[]
  cf := none
  fields := #[]
  methods := #[]
  instanceTypes := #[]
  staticTypes := #[]
  resolved := #[]
  callSites := []
  init := .initialized
  statics := none
  mirror := none

def pool0 : Array CpInfo := pool [(5, u "<init>"), (0, u "()V"), (1, .class_ 10), (1, u "java/lang/Object")] 113

def k0c0 : Code := { maxStack := 0, maxLocals := 1, code := object_method_1_code, exceptionTable := #[], attributes := #[] }
def k0m0 : Method := { name := "<init>", desc := "()V", sig := { parameters := [], returnType := none }, accessFlags := 1, code := some k0c0 }
/-- java/lang/Object -/
def k0 : Class := { plain "java/lang/Object" none with
  accessFlags := 33
  interfaces := #[]
  cf := some (fileOf pool0 8 #[] #[{ accessFlags := 1, nameIndex := 5, descriptorIndex := 6, attributes := #[] }] 33 0 #[] #[])
  fields := #[]
  methods := #[k0m0]
  instanceTypes := #[]
  staticTypes := #[]
  resolved := Array.replicate 124 none
  statics := none }

def pool1 : Array CpInfo := pool [(2, .class_ 4), (1, u "java/lang/Object"), (0, u "<init>"), (0, u "()V"), (0, .methodref 8 9), (0, .class_ 10), (0, .nameAndType 11 12), (0, u "java/lang/Math"), (0, u "min"), (0, u "(II)I"), (0, .class_ 14), (0, u "java/lang/String"), (0, .methodref 13 16), (0, .nameAndType 5 17), (0, u "([C)V"), (0, .methodref 13 19), (0, .nameAndType 20 21), (0, u "valueOf"), (0, u "(C)Ljava/lang/String;"), (0, .methodref 23 24), (0, .class_ 25), (0, .nameAndType 26 27), (0, u "com/example/dossiertools/dossiertools/LeafReferenceEqualsPinLaw"), (0, u "len"), (0, u "(I)I"), (0, .methodref 23 29), (0, .nameAndType 30 31), (0, u "str"), (0, u "(II)Ljava/lang/String;"), (0, .class_ 33), (0, u "com/example/dossiertools/dossiertools/LeafReference"), (0, .methodref 32 35), (0, .nameAndType 5 36), (0, u "(Ljava/lang/String;Ljava/lang/String;)V"), (0, .methodref 32 38), (0, .nameAndType 39 40), (0, u "equals"), (0, u "(Ljava/lang/Object;)Z"), (0, .methodref 23 42), (0, .nameAndType 43 44), (0, u "same"), (0, u "(IIII)Z"), (3, u "law"), (0, u "(IIIIII)Z")] 2

def k1m0 : Method := { name := "<init>", desc := "()V", sig := { parameters := [], returnType := none }, accessFlags := 1, code := none }
def k1c1 : Code := { maxStack := 2, maxLocals := 1, code := method_2_code, exceptionTable := #[], attributes := #[] }
def k1m1 : Method := { name := "len", desc := "(I)I", sig := { parameters := [.int], returnType := some .int }, accessFlags := 10, code := some k1c1 }
def k1c2 : Code := { maxStack := 3, maxLocals := 5, code := method_3_code, exceptionTable := #[], attributes := #[] }
def k1m2 : Method := { name := "str", desc := "(II)Ljava/lang/String;", sig := { parameters := [.int, .int], returnType := some (.object "java/lang/String") }, accessFlags := 10, code := some k1c2 }
def k1c3 : Code := { maxStack := 3, maxLocals := 4, code := method_4_code, exceptionTable := #[], attributes := #[] }
def k1m3 : Method := { name := "same", desc := "(IIII)Z", sig := { parameters := [.int, .int, .int, .int], returnType := some .boolean }, accessFlags := 10, code := some k1c3 }
def k1c4 : Code := { maxStack := 4, maxLocals := 23, code := code, exceptionTable := #[], attributes := #[] }
def k1m4 : Method := { name := "law", desc := "(IIIIII)Z", sig := { parameters := [.int, .int, .int, .int, .int, .int], returnType := some .boolean }, accessFlags := 9, code := some k1c4 }
/-- com/example/dossiertools/dossiertools/LeafReferenceEqualsPinLaw -/
def k1 : Class := { plain "com/example/dossiertools/dossiertools/LeafReferenceEqualsPinLaw" (some 0) with
  accessFlags := 49
  interfaces := #[]
  cf := some (fileOf pool1 23 #[] #[{ accessFlags := 1, nameIndex := 5, descriptorIndex := 6, attributes := #[] }, { accessFlags := 10, nameIndex := 26, descriptorIndex := 27, attributes := #[] }, { accessFlags := 10, nameIndex := 30, descriptorIndex := 31, attributes := #[] }, { accessFlags := 10, nameIndex := 43, descriptorIndex := 44, attributes := #[] }, { accessFlags := 9, nameIndex := 48, descriptorIndex := 49, attributes := #[] }] 49 2 #[] #[])
  fields := #[]
  methods := #[k1m0, k1m1, k1m2, k1m3, k1m4]
  instanceTypes := #[]
  staticTypes := #[]
  resolved := Array.replicate 52 none
  statics := none }

def pool2 : Array CpInfo := pool [(1, .class_ 2), (0, u "java/lang/Math"), (1, .class_ 6), (1, u "java/lang/Object"), (0, u "<init>"), (0, u "()V"), (89, .class_ 100), (1, u "java/lang/Math$RandomNumberGeneratorHolder"), (71, u "negativeZeroFloatBits"), (0, u "J"), (2, u "negativeZeroDoubleBits"), (24, u "min"), (43, u "$assertionsDisabled"), (0, u "Z"), (88, u "(II)I"), (2, u "twoToTheDoubleScaleDown"), (0, u "D"), (4, u "twoToTheDoubleScaleUp"), (9, u "E"), (3, u "PI"), (2, u "TAU"), (2, u "DEGREES_TO_RADIANS"), (0, u "RADIANS_TO_DEGREES")] 94

def k2m0 : Method := { name := "<init>", desc := "()V", sig := { parameters := [], returnType := none }, accessFlags := 2, code := none }
def k2c1 : Code := { maxStack := 2, maxLocals := 2, code := jdk_29_method_69_code, exceptionTable := #[], attributes := #[] }
def k2m1 : Method := { name := "min", desc := "(II)I", sig := { parameters := [.int, .int], returnType := some .int }, accessFlags := 9, code := some k2c1 }
/-- java/lang/Math -/
def k2 : Class := { plain "java/lang/Math" (some 0) with
  accessFlags := 49
  interfaces := #[]
  cf := some (fileOf pool2 1 #[.nestMembers #[98]] #[{ accessFlags := 2, nameIndex := 7, descriptorIndex := 8, attributes := #[] }, { accessFlags := 9, nameIndex := 201, descriptorIndex := 335, attributes := #[] }] 49 4 #[] #[{ accessFlags := 25, nameIndex := 354, descriptorIndex := 339, attributes := #[] }, { accessFlags := 25, nameIndex := 358, descriptorIndex := 339, attributes := #[] }, { accessFlags := 25, nameIndex := 361, descriptorIndex := 339, attributes := #[] }, { accessFlags := 26, nameIndex := 364, descriptorIndex := 339, attributes := #[] }, { accessFlags := 26, nameIndex := 365, descriptorIndex := 339, attributes := #[] }, { accessFlags := 26, nameIndex := 172, descriptorIndex := 173, attributes := #[] }, { accessFlags := 26, nameIndex := 176, descriptorIndex := 173, attributes := #[] }, { accessFlags := 8, nameIndex := 344, descriptorIndex := 339, attributes := #[] }, { accessFlags := 8, nameIndex := 338, descriptorIndex := 339, attributes := #[] }, { accessFlags := 4120, nameIndex := 245, descriptorIndex := 246, attributes := #[] }])
  fields := #[{ name := "E", type := .double, accessFlags := 25, slot := 0, constantValue := 0 }, { name := "PI", type := .double, accessFlags := 25, slot := 1, constantValue := 0 }, { name := "TAU", type := .double, accessFlags := 25, slot := 2, constantValue := 0 }, { name := "DEGREES_TO_RADIANS", type := .double, accessFlags := 26, slot := 3, constantValue := 0 }, { name := "RADIANS_TO_DEGREES", type := .double, accessFlags := 26, slot := 4, constantValue := 0 }, { name := "negativeZeroFloatBits", type := .long, accessFlags := 26, slot := 5, constantValue := 0 }, { name := "negativeZeroDoubleBits", type := .long, accessFlags := 26, slot := 6, constantValue := 0 }, { name := "twoToTheDoubleScaleUp", type := .double, accessFlags := 8, slot := 7, constantValue := 0 }, { name := "twoToTheDoubleScaleDown", type := .double, accessFlags := 8, slot := 8, constantValue := 0 }, { name := "$assertionsDisabled", type := .boolean, accessFlags := 4120, slot := 9, constantValue := 0 }]
  methods := #[k2m0, k2m1]
  instanceTypes := #[]
  staticTypes := #[.double, .double, .double, .double, .double, .long, .long, .double, .double, .boolean]
  resolved := Array.replicate 460 none
  statics := none }

def pool3 : Array CpInfo := pool [(1, .class_ 2), (0, u "java/io/Serializable"), (0, .class_ 4), (0, u "java/lang/Object")] 2

/-- java/io/Serializable -/
def k3 : Class := { plain "java/io/Serializable" (some 0) with
  accessFlags := 1537
  interfaces := #[]
  cf := some (fileOf pool3 1 #[] #[] 1537 3 #[] #[])
  fields := #[]
  methods := #[]
  instanceTypes := #[]
  staticTypes := #[]
  resolved := Array.replicate 7 none
  statics := none }

def pool4 : Array CpInfo := pool [(1, .class_ 2), (0, u "java/lang/Comparable"), (0, .class_ 4), (0, u "java/lang/Object")] 7

/-- java/lang/Comparable -/
def k4 : Class := { plain "java/lang/Comparable" (some 0) with
  accessFlags := 1537
  interfaces := #[]
  cf := some (fileOf pool4 1 #[] #[] 1537 3 #[] #[])
  fields := #[]
  methods := #[]
  instanceTypes := #[]
  staticTypes := #[]
  resolved := Array.replicate 12 none
  statics := none }

def pool5 : Array CpInfo := pool [(2, .class_ 4), (1, u "java/lang/CharSequence"), (42, .class_ 48), (0, u "java/lang/CharSequence$1CodePointIterator"), (10, .class_ 60), (0, u "java/lang/CharSequence$1CharIterator"), (5, .class_ 67), (0, u "java/lang/Object")] 63

/-- java/lang/CharSequence -/
def k5 : Class := { plain "java/lang/CharSequence" (some 0) with
  accessFlags := 1537
  interfaces := #[]
  cf := some (fileOf pool5 2 #[.nestMembers #[47, 59]] #[] 1537 66 #[] #[])
  fields := #[]
  methods := #[]
  instanceTypes := #[]
  staticTypes := #[]
  resolved := Array.replicate 131 none
  statics := none }

def pool6 : Array CpInfo := pool [(1, .class_ 2), (0, u "java/lang/constant/Constable"), (0, .class_ 4), (0, u "java/lang/Object")] 6

/-- java/lang/constant/Constable -/
def k6 : Class := { plain "java/lang/constant/Constable" (some 0) with
  accessFlags := 1537
  interfaces := #[]
  cf := some (fileOf pool6 1 #[] #[] 1537 3 #[] #[])
  fields := #[]
  methods := #[]
  instanceTypes := #[]
  staticTypes := #[]
  resolved := Array.replicate 11 none
  statics := none }

def pool7 : Array CpInfo := pool [(1, .class_ 2), (0, u "java/lang/constant/ConstantDesc"), (0, .class_ 4), (0, u "java/lang/Object")] 32

/-- java/lang/constant/ConstantDesc -/
def k7 : Class := { plain "java/lang/constant/ConstantDesc" (some 0) with
  accessFlags := 1537
  interfaces := #[]
  cf := some (fileOf pool7 1 #[] #[] 1537 3 #[] #[])
  fields := #[]
  methods := #[]
  instanceTypes := #[]
  staticTypes := #[]
  resolved := Array.replicate 37 none
  statics := none }

def pool8 : Array CpInfo := pool [(1, .methodref 2 3), (0, .class_ 4), (0, .nameAndType 5 6), (0, u "java/lang/Object"), (0, u "<init>"), (0, u "()V"), (0, .string 8), (0, u ""), (0, .fieldref 10 11), (0, .class_ 12), (0, .nameAndType 13 14), (0, u "java/lang/String"), (0, u "value"), (0, u "[B"), (0, .fieldref 10 16), (0, .nameAndType 17 18), (0, u "coder"), (0, u "B"), (2, u "hash"), (0, u "I"), (2, u "hashIsZero"), (0, u "Z"), (0, .methodref 10 28), (0, .nameAndType 5 29), (0, u "([CIILjava/lang/Void;)V"), (8, .fieldref 10 39), (0, .nameAndType 40 26), (0, u "COMPACT_STRINGS"), (1, .class_ 44), (1, u "java/lang/StringUTF16"), (0, u "compress"), (1, .methodref 42 48), (0, .nameAndType 49 50), (0, u "coderFromArrayLen"), (0, u "([BI)B"), (2, u "toBytes"), (53, .class_ 109), (1, u "java/lang/StringLatin1"), (67, .methodref 42 178), (0, .nameAndType 45 179), (0, u "([CII)[B"), (29, .methodref 10 210), (0, .nameAndType 5 211), (0, u "([BB)V"), (157, u "(C)Z"), (171, .methodref 107 542), (0, .nameAndType 543 544), (0, u "equals"), (0, u "([B[B)Z"), (28, u "(Ljava/lang/Object;)Z"), (1, .class_ 576), (0, u "java/lang/CharSequence"), (22, u "CASE_INSENSITIVE_ORDER"), (0, u "Ljava/util/Comparator;"), (181, u "valueOf"), (0, u "(C)Ljava/lang/String;"), (226, u "([C)V"), (4, .methodref 107 1016), (0, .nameAndType 1017 369), (0, u "canEncode"), (0, .methodref 107 1019), (0, .nameAndType 53 1020), (0, u "(C)[B"), (80, u "serialPersistentFields"), (0, u "[Ljava/io/ObjectStreamField;"), (0, .class_ 1104), (0, u "java/lang/String$CaseInsensitiveComparator"), (1, .class_ 1107), (0, u "java/io/Serializable"), (0, .class_ 1109), (0, u "java/lang/Comparable"), (0, .class_ 1111), (0, u "java/lang/constant/Constable"), (0, .class_ 1113), (0, u "java/lang/constant/ConstantDesc"), (2, u "serialVersionUID"), (0, u "J"), (3, u "REPL"), (0, u "C"), (2, u "LATIN1"), (1, u "UTF16")] 323

def k8m0 : Method := { name := "<init>", desc := "()V", sig := { parameters := [], returnType := none }, accessFlags := 1, code := none }
def k8c1 : Code := { maxStack := 5, maxLocals := 2, code := jdk_42_method_3_code, exceptionTable := #[], attributes := #[] }
def k8m1 : Method := { name := "<init>", desc := "([C)V", sig := { parameters := [(.array .char)], returnType := none }, accessFlags := 1, code := some k8c1 }
def k8c2 : Code := { maxStack := 2, maxLocals := 3, code := jdk_42_method_66_code, exceptionTable := #[], attributes := #[] }
def k8m2 : Method := { name := "equals", desc := "(Ljava/lang/Object;)Z", sig := { parameters := [(.object "java/lang/Object")], returnType := some .boolean }, accessFlags := 1, code := some k8c2 }
def k8c3 : Code := { maxStack := 4, maxLocals := 1, code := jdk_42_method_139_code, exceptionTable := #[], attributes := #[] }
def k8m3 : Method := { name := "valueOf", desc := "(C)Ljava/lang/String;", sig := { parameters := [.char], returnType := some (.object "java/lang/String") }, accessFlags := 9, code := some k8c3 }
def k8c4 : Code := { maxStack := 4, maxLocals := 6, code := jdk_42_method_149_code, exceptionTable := #[], attributes := #[] }
def k8m4 : Method := { name := "<init>", desc := "([CIILjava/lang/Void;)V", sig := { parameters := [(.array .char), .int, .int, (.object "java/lang/Void")], returnType := none }, accessFlags := 2, code := some k8c4 }
def k8c5 : Code := { maxStack := 2, maxLocals := 3, code := jdk_42_method_151_code, exceptionTable := #[], attributes := #[] }
def k8m5 : Method := { name := "<init>", desc := "([BB)V", sig := { parameters := [(.array .byte), .byte], returnType := none }, accessFlags := 0, code := some k8c5 }
/-- java/lang/String -/
def k8 : Class := { plain "java/lang/String" (some 0) with
  accessFlags := 49
  interfaces := #[3, 4, 5, 6, 7]
  cf := some (fileOf pool8 10 #[.nestMembers #[1103]] #[{ accessFlags := 1, nameIndex := 5, descriptorIndex := 6, attributes := #[] }, { accessFlags := 1, nameIndex := 5, descriptorIndex := 1010, attributes := #[] }, { accessFlags := 1, nameIndex := 543, descriptorIndex := 573, attributes := #[] }, { accessFlags := 9, nameIndex := 782, descriptorIndex := 783, attributes := #[] }, { accessFlags := 2, nameIndex := 5, descriptorIndex := 29, attributes := #[] }, { accessFlags := 0, nameIndex := 5, descriptorIndex := 211, attributes := #[] }] 49 2 #[1106, 1108, 575, 1110, 1112] #[{ accessFlags := 18, nameIndex := 13, descriptorIndex := 14, attributes := #[] }, { accessFlags := 18, nameIndex := 17, descriptorIndex := 18, attributes := #[] }, { accessFlags := 2, nameIndex := 21, descriptorIndex := 22, attributes := #[] }, { accessFlags := 2, nameIndex := 25, descriptorIndex := 26, attributes := #[] }, { accessFlags := 26, nameIndex := 1116, descriptorIndex := 1117, attributes := #[] }, { accessFlags := 24, nameIndex := 40, descriptorIndex := 26, attributes := #[] }, { accessFlags := 26, nameIndex := 1101, descriptorIndex := 1102, attributes := #[] }, { accessFlags := 26, nameIndex := 1121, descriptorIndex := 1122, attributes := #[] }, { accessFlags := 25, nameIndex := 599, descriptorIndex := 600, attributes := #[] }, { accessFlags := 24, nameIndex := 1125, descriptorIndex := 18, attributes := #[] }, { accessFlags := 24, nameIndex := 1127, descriptorIndex := 18, attributes := #[] }])
  fields := #[{ name := "value", type := (.array .byte), accessFlags := 18, slot := 0, constantValue := 0 }, { name := "coder", type := .byte, accessFlags := 18, slot := 1, constantValue := 0 }, { name := "hash", type := .int, accessFlags := 2, slot := 2, constantValue := 0 }, { name := "hashIsZero", type := .boolean, accessFlags := 2, slot := 3, constantValue := 0 }, { name := "serialVersionUID", type := .long, accessFlags := 26, slot := 0, constantValue := 0 }, { name := "COMPACT_STRINGS", type := .boolean, accessFlags := 24, slot := 1, constantValue := 0 }, { name := "serialPersistentFields", type := (.array (.object "java/io/ObjectStreamField")), accessFlags := 26, slot := 2, constantValue := 0 }, { name := "REPL", type := .char, accessFlags := 26, slot := 3, constantValue := 0 }, { name := "CASE_INSENSITIVE_ORDER", type := (.object "java/util/Comparator"), accessFlags := 25, slot := 4, constantValue := 0 }, { name := "LATIN1", type := .byte, accessFlags := 24, slot := 5, constantValue := 0 }, { name := "UTF16", type := .byte, accessFlags := 24, slot := 6, constantValue := 0 }]
  methods := #[k8m0, k8m1, k8m2, k8m3, k8m4, k8m5]
  instanceTypes := #[(.array .byte), .byte, .int, .boolean]
  staticTypes := #[.long, .boolean, (.array (.object "java/io/ObjectStreamField")), .char, (.object "java/util/Comparator"), .byte, .byte]
  resolved := Array.replicate 1451 none
  statics := some 0 }

def pool9 : Array CpInfo := pool [(1, .methodref 2 3), (0, .class_ 4), (0, .nameAndType 5 6), (0, u "java/lang/Object"), (0, u "<init>"), (0, u "()V"), (0, .fieldref 8 9), (0, .class_ 10), (0, .nameAndType 11 12), (0, u "com/example/dossiertools/dossiertools/LeafReference"), (0, u "sequence"), (0, u "Ljava/lang/String;"), (0, .fieldref 8 14), (0, .nameAndType 15 12), (0, u "id"), (1, .class_ 19), (1, u "java/lang/String"), (14, u "MODIFIED_FILE"), (0, u "Ljava/util/regex/Pattern;"), (17, u "(Ljava/lang/String;Ljava/lang/String;)V"), (4, .methodref 17 59), (0, .nameAndType 60 61), (0, u "equals"), (0, u "(Ljava/lang/Object;)Z")] 57

def k9c0 : Code := { maxStack := 2, maxLocals := 3, code := prog_37_method_1_code, exceptionTable := #[], attributes := #[] }
def k9m0 : Method := { name := "<init>", desc := "(Ljava/lang/String;Ljava/lang/String;)V", sig := { parameters := [(.object "java/lang/String"), (.object "java/lang/String")], returnType := none }, accessFlags := 1, code := some k9c0 }
def k9c1 : Code := { maxStack := 2, maxLocals := 3, code := prog_37_method_5_code, exceptionTable := #[], attributes := #[] }
def k9m1 : Method := { name := "equals", desc := "(Ljava/lang/Object;)Z", sig := { parameters := [(.object "java/lang/Object")], returnType := some .boolean }, accessFlags := 1, code := some k9c1 }
/-- com/example/dossiertools/dossiertools/LeafReference -/
def k9 : Class := { plain "com/example/dossiertools/dossiertools/LeafReference" (some 0) with
  accessFlags := 49
  interfaces := #[]
  cf := some (fileOf pool9 8 #[] #[{ accessFlags := 1, nameIndex := 5, descriptorIndex := 53, attributes := #[] }, { accessFlags := 1, nameIndex := 60, descriptorIndex := 61, attributes := #[] }] 49 2 #[] #[{ accessFlags := 26, nameIndex := 34, descriptorIndex := 35, attributes := #[] }, { accessFlags := 18, nameIndex := 11, descriptorIndex := 12, attributes := #[] }, { accessFlags := 18, nameIndex := 15, descriptorIndex := 12, attributes := #[] }])
  fields := #[{ name := "MODIFIED_FILE", type := (.object "java/util/regex/Pattern"), accessFlags := 26, slot := 0, constantValue := 0 }, { name := "sequence", type := (.object "java/lang/String"), accessFlags := 18, slot := 0, constantValue := 0 }, { name := "id", type := (.object "java/lang/String"), accessFlags := 18, slot := 1, constantValue := 0 }]
  methods := #[k9m0, k9m1]
  instanceTypes := #[(.object "java/lang/String"), (.object "java/lang/String")]
  staticTypes := #[(.object "java/util/regex/Pattern")]
  resolved := Array.replicate 119 none
  statics := none }

def pool10 : Array CpInfo := pool [(4, .class_ 6), (1, u "java/lang/Object"), (0, u "<init>"), (0, u "()V"), (5, .class_ 16), (1, u "java/lang/StringLatin1"), (73, u "canEncode"), (14, u "(C)Z"), (15, u "$assertionsDisabled"), (0, u "Z"), (98, .class_ 223), (1, u "java/lang/StringLatin1$LinesSpliterator"), (57, u "equals"), (0, u "([B[B)Z"), (97, u "toBytes"), (1, u "(C)[B"), (7, .class_ 391), (0, u "java/lang/StringLatin1$CharsSpliterator")] 3

def k10m0 : Method := { name := "<init>", desc := "()V", sig := { parameters := [], returnType := none }, accessFlags := 0, code := none }
def k10c1 : Code := { maxStack := 2, maxLocals := 1, code := jdk_43_method_3_code, exceptionTable := #[], attributes := #[] }
def k10m1 : Method := { name := "canEncode", desc := "(C)Z", sig := { parameters := [.char], returnType := some .boolean }, accessFlags := 9, code := some k10c1 }
def k10c2 : Code := { maxStack := 3, maxLocals := 3, code := jdk_43_method_13_code, exceptionTable := #[], attributes := #[] }
def k10m2 : Method := { name := "equals", desc := "([B[B)Z", sig := { parameters := [(.array .byte), (.array .byte)], returnType := some .boolean }, accessFlags := 9, code := some k10c2 }
def k10c3 : Code := { maxStack := 4, maxLocals := 1, code := jdk_43_method_46_code, exceptionTable := #[], attributes := #[] }
def k10m3 : Method := { name := "toBytes", desc := "(C)[B", sig := { parameters := [.char], returnType := some (.array .byte) }, accessFlags := 9, code := some k10c3 }
/-- java/lang/StringLatin1 -/
def k10 : Class := { plain "java/lang/StringLatin1" (some 0) with
  accessFlags := 48
  interfaces := #[]
  cf := some (fileOf pool10 14 #[.nestMembers #[390, 221]] #[{ accessFlags := 0, nameIndex := 7, descriptorIndex := 8, attributes := #[] }, { accessFlags := 9, nameIndex := 90, descriptorIndex := 105, attributes := #[] }, { accessFlags := 9, nameIndex := 281, descriptorIndex := 282, attributes := #[] }, { accessFlags := 9, nameIndex := 380, descriptorIndex := 382, attributes := #[] }] 48 4 #[] #[{ accessFlags := 4120, nameIndex := 121, descriptorIndex := 122, attributes := #[] }])
  fields := #[{ name := "$assertionsDisabled", type := .boolean, accessFlags := 4120, slot := 0, constantValue := 0 }]
  methods := #[k10m0, k10m1, k10m2, k10m3]
  instanceTypes := #[]
  staticTypes := #[.boolean]
  resolved := Array.replicate 395 none
  statics := none }

def pool11 : Array CpInfo := pool [(6, .class_ 8), (1, u "java/lang/Object"), (0, u "<init>"), (0, u "()V"), (1, .class_ 14), (1, u "java/lang/StringUTF16"), (31, u "$assertionsDisabled"), (0, u "Z"), (13, u "HI_BYTE_SHIFT"), (0, u "I"), (2, u "LO_BYTE_SHIFT"), (49, .methodref 12 116), (0, .nameAndType 117 118), (0, u "compress"), (0, u "([CI[BII)I"), (3, u "([CII)[B"), (138, u "coderFromArrayLen"), (0, u "([BI)B"), (106, .class_ 371), (1, u "java/lang/StringUTF16$LinesSpliterator"), (58, u "MAX_LENGTH"), (196, .class_ 628), (0, u "java/lang/StringUTF16$CodePointsSpliterator"), (0, .class_ 630), (0, u "java/lang/StringUTF16$CharsSpliterator")] 4

def k11m0 : Method := { name := "<init>", desc := "()V", sig := { parameters := [], returnType := none }, accessFlags := 0, code := none }
def k11c1 : Code := { maxStack := 2, maxLocals := 2, code := jdk_52_method_15_code, exceptionTable := #[], attributes := #[] }
def k11m1 : Method := { name := "coderFromArrayLen", desc := "([BI)B", sig := { parameters := [(.array .byte), .int], returnType := some .byte }, accessFlags := 8, code := some k11c1 }
def k11c2 : Code := { maxStack := 5, maxLocals := 6, code := jdk_52_method_16_code, exceptionTable := #[], attributes := #[] }
def k11m2 : Method := { name := "compress", desc := "([CII)[B", sig := { parameters := [(.array .char), .int, .int], returnType := some (.array .byte) }, accessFlags := 9, code := some k11c2 }
def k11c3 : Code := { maxStack := 3, maxLocals := 7, code := jdk_52_method_21_code, exceptionTable := #[], attributes := #[] }
def k11m3 : Method := { name := "compress", desc := "([CI[BII)I", sig := { parameters := [(.array .char), .int, (.array .byte), .int, .int], returnType := some .int }, accessFlags := 9, code := some k11c3 }
/-- java/lang/StringUTF16 -/
def k11 : Class := { plain "java/lang/StringUTF16" (some 0) with
  accessFlags := 48
  interfaces := #[]
  cf := some (fileOf pool11 12 #[.nestMembers #[627, 629, 369]] #[{ accessFlags := 0, nameIndex := 9, descriptorIndex := 10, attributes := #[] }, { accessFlags := 8, nameIndex := 261, descriptorIndex := 262, attributes := #[] }, { accessFlags := 9, nameIndex := 117, descriptorIndex := 122, attributes := #[] }, { accessFlags := 9, nameIndex := 117, descriptorIndex := 118, attributes := #[] }] 48 6 #[] #[{ accessFlags := 26, nameIndex := 61, descriptorIndex := 62, attributes := #[] }, { accessFlags := 26, nameIndex := 65, descriptorIndex := 62, attributes := #[] }, { accessFlags := 24, nameIndex := 430, descriptorIndex := 62, attributes := #[] }, { accessFlags := 4120, nameIndex := 46, descriptorIndex := 47, attributes := #[] }])
  fields := #[{ name := "HI_BYTE_SHIFT", type := .int, accessFlags := 26, slot := 0, constantValue := 0 }, { name := "LO_BYTE_SHIFT", type := .int, accessFlags := 26, slot := 1, constantValue := 0 }, { name := "MAX_LENGTH", type := .int, accessFlags := 24, slot := 2, constantValue := 0 }, { name := "$assertionsDisabled", type := .boolean, accessFlags := 4120, slot := 3, constantValue := 0 }]
  methods := #[k11m0, k11m1, k11m2, k11m3]
  instanceTypes := #[]
  staticTypes := #[.int, .int, .int, .boolean]
  resolved := Array.replicate 635 none
  statics := none }

def pool12 : Array CpInfo := pool [(2, .class_ 4), (1, u "java/lang/Object"), (0, u "<init>"), (0, u "()V"), (17, .class_ 26), (1, u "jdk/internal/util/Preconditions"), (28, .class_ 56), (0, u "jdk/internal/util/Preconditions$4"), (57, .class_ 115), (0, u "jdk/internal/util/Preconditions$1"), (7, u "SIOOBE_FORMATTER"), (0, u "Ljava/util/function/BiFunction;"), (0, .class_ 126), (0, u "jdk/internal/util/Preconditions$2"), (3, u "AIOOBE_FORMATTER"), (0, .class_ 132), (0, u "jdk/internal/util/Preconditions$3"), (3, u "IOOBE_FORMATTER")] 57

def k12m0 : Method := { name := "<init>", desc := "()V", sig := { parameters := [], returnType := none }, accessFlags := 1, code := none }
/-- jdk/internal/util/Preconditions -/
def k12 : Class := { plain "jdk/internal/util/Preconditions" (some 0) with
  accessFlags := 33
  interfaces := #[]
  cf := some (fileOf pool12 24 #[.nestMembers #[55, 131, 125, 114]] #[{ accessFlags := 1, nameIndex := 5, descriptorIndex := 6, attributes := #[] }] 33 2 #[] #[{ accessFlags := 25, nameIndex := 123, descriptorIndex := 124, attributes := #[] }, { accessFlags := 25, nameIndex := 130, descriptorIndex := 124, attributes := #[] }, { accessFlags := 25, nameIndex := 136, descriptorIndex := 124, attributes := #[] }])
  fields := #[{ name := "SIOOBE_FORMATTER", type := (.object "java/util/function/BiFunction"), accessFlags := 25, slot := 0, constantValue := 0 }, { name := "AIOOBE_FORMATTER", type := (.object "java/util/function/BiFunction"), accessFlags := 25, slot := 1, constantValue := 0 }, { name := "IOOBE_FORMATTER", type := (.object "java/util/function/BiFunction"), accessFlags := 25, slot := 2, constantValue := 0 }]
  methods := #[k12m0]
  instanceTypes := #[]
  staticTypes := #[(.object "java/util/function/BiFunction"), (.object "java/util/function/BiFunction"), (.object "java/util/function/BiFunction")]
  resolved := Array.replicate 194 none
  statics := some 1 }

def pool13 : Array CpInfo := pool [(9, u "<init>"), (6, .class_ 18), (1, u "java/lang/Object"), (0, u "()V"), (1, .class_ 23), (1, u "jdk/internal/util/ArraysSupport"), (0, u "LOG2_ARRAY_LONG_INDEX_SCALE"), (0, u "I"), (2, u "U"), (0, u "Ljdk/internal/misc/Unsafe;"), (8, u "BIG_ENDIAN"), (0, u "Z"), (8, u "LOG2_BYTE_BIT_SIZE"), (4, u "LOG2_ARRAY_INT_INDEX_SCALE"), (54, u "JLA"), (0, u "Ljdk/internal/access/JavaLangAccess;"), (11, u "LOG2_ARRAY_BOOLEAN_INDEX_SCALE"), (9, u "LOG2_ARRAY_BYTE_INDEX_SCALE"), (5, u "LOG2_ARRAY_CHAR_INDEX_SCALE"), (5, u "LOG2_ARRAY_SHORT_INDEX_SCALE"), (18, u "LOG2_ARRAY_FLOAT_INDEX_SCALE"), (24, u "LOG2_ARRAY_DOUBLE_INDEX_SCALE"), (89, u "T_BOOLEAN"), (2, u "T_CHAR"), (1, u "T_FLOAT"), (1, u "T_DOUBLE"), (1, u "T_BYTE"), (1, u "T_SHORT"), (1, u "T_INT"), (1, u "T_LONG"), (1, u "SOFT_MAX_ARRAY_LENGTH")] 83

def k13m0 : Method := { name := "<init>", desc := "()V", sig := { parameters := [], returnType := none }, accessFlags := 2, code := none }
/-- jdk/internal/util/ArraysSupport -/
def k13 : Class := { plain "jdk/internal/util/ArraysSupport" (some 0) with
  accessFlags := 33
  interfaces := #[]
  cf := some (fileOf pool13 21 #[] #[{ accessFlags := 2, nameIndex := 9, descriptorIndex := 19, attributes := #[] }] 33 16 #[] #[{ accessFlags := 24, nameIndex := 28, descriptorIndex := 29, attributes := #[] }, { accessFlags := 26, nameIndex := 38, descriptorIndex := 39, attributes := #[] }, { accessFlags := 25, nameIndex := 121, descriptorIndex := 25, attributes := #[] }, { accessFlags := 25, nameIndex := 131, descriptorIndex := 25, attributes := #[] }, { accessFlags := 25, nameIndex := 137, descriptorIndex := 25, attributes := #[] }, { accessFlags := 25, nameIndex := 143, descriptorIndex := 25, attributes := #[] }, { accessFlags := 25, nameIndex := 53, descriptorIndex := 25, attributes := #[] }, { accessFlags := 25, nameIndex := 24, descriptorIndex := 25, attributes := #[] }, { accessFlags := 25, nameIndex := 162, descriptorIndex := 25, attributes := #[] }, { accessFlags := 25, nameIndex := 187, descriptorIndex := 25, attributes := #[] }, { accessFlags := 26, nameIndex := 48, descriptorIndex := 25, attributes := #[] }, { accessFlags := 25, nameIndex := 277, descriptorIndex := 25, attributes := #[] }, { accessFlags := 25, nameIndex := 280, descriptorIndex := 25, attributes := #[] }, { accessFlags := 25, nameIndex := 282, descriptorIndex := 25, attributes := #[] }, { accessFlags := 25, nameIndex := 284, descriptorIndex := 25, attributes := #[] }, { accessFlags := 25, nameIndex := 286, descriptorIndex := 25, attributes := #[] }, { accessFlags := 25, nameIndex := 288, descriptorIndex := 25, attributes := #[] }, { accessFlags := 25, nameIndex := 290, descriptorIndex := 25, attributes := #[] }, { accessFlags := 25, nameIndex := 292, descriptorIndex := 25, attributes := #[] }, { accessFlags := 26, nameIndex := 108, descriptorIndex := 109, attributes := #[] }, { accessFlags := 25, nameIndex := 294, descriptorIndex := 25, attributes := #[] }])
  fields := #[{ name := "U", type := (.object "jdk/internal/misc/Unsafe"), accessFlags := 24, slot := 0, constantValue := 0 }, { name := "BIG_ENDIAN", type := .boolean, accessFlags := 26, slot := 1, constantValue := 0 }, { name := "LOG2_ARRAY_BOOLEAN_INDEX_SCALE", type := .int, accessFlags := 25, slot := 2, constantValue := 0 }, { name := "LOG2_ARRAY_BYTE_INDEX_SCALE", type := .int, accessFlags := 25, slot := 3, constantValue := 0 }, { name := "LOG2_ARRAY_CHAR_INDEX_SCALE", type := .int, accessFlags := 25, slot := 4, constantValue := 0 }, { name := "LOG2_ARRAY_SHORT_INDEX_SCALE", type := .int, accessFlags := 25, slot := 5, constantValue := 0 }, { name := "LOG2_ARRAY_INT_INDEX_SCALE", type := .int, accessFlags := 25, slot := 6, constantValue := 0 }, { name := "LOG2_ARRAY_LONG_INDEX_SCALE", type := .int, accessFlags := 25, slot := 7, constantValue := 0 }, { name := "LOG2_ARRAY_FLOAT_INDEX_SCALE", type := .int, accessFlags := 25, slot := 8, constantValue := 0 }, { name := "LOG2_ARRAY_DOUBLE_INDEX_SCALE", type := .int, accessFlags := 25, slot := 9, constantValue := 0 }, { name := "LOG2_BYTE_BIT_SIZE", type := .int, accessFlags := 26, slot := 10, constantValue := 0 }, { name := "T_BOOLEAN", type := .int, accessFlags := 25, slot := 11, constantValue := 0 }, { name := "T_CHAR", type := .int, accessFlags := 25, slot := 12, constantValue := 0 }, { name := "T_FLOAT", type := .int, accessFlags := 25, slot := 13, constantValue := 0 }, { name := "T_DOUBLE", type := .int, accessFlags := 25, slot := 14, constantValue := 0 }, { name := "T_BYTE", type := .int, accessFlags := 25, slot := 15, constantValue := 0 }, { name := "T_SHORT", type := .int, accessFlags := 25, slot := 16, constantValue := 0 }, { name := "T_INT", type := .int, accessFlags := 25, slot := 17, constantValue := 0 }, { name := "T_LONG", type := .int, accessFlags := 25, slot := 18, constantValue := 0 }, { name := "JLA", type := (.object "jdk/internal/access/JavaLangAccess"), accessFlags := 26, slot := 19, constantValue := 0 }, { name := "SOFT_MAX_ARRAY_LENGTH", type := .int, accessFlags := 25, slot := 20, constantValue := 0 }]
  methods := #[k13m0]
  instanceTypes := #[]
  staticTypes := #[(.object "jdk/internal/misc/Unsafe"), .boolean, .int, .int, .int, .int, .int, .int, .int, .int, .int, .int, .int, .int, .int, .int, .int, .int, .int, (.object "jdk/internal/access/JavaLangAccess"), .int]
  resolved := Array.replicate 378 none
  statics := none }

def pool14 : Array CpInfo := pool [(1, u "java/lang/Cloneable"), (0, .class_ 1), (0, u "java/lang/Object"), (0, .class_ 3)] 3

/-- java/lang/Cloneable -/
def k14 : Class := { plain "java/lang/Cloneable" (some 0) with
  accessFlags := 1537
  interfaces := #[]
  cf := some (fileOf pool14 2 #[] #[] 1537 4 #[] #[])
  fields := #[]
  methods := #[]
  instanceTypes := #[]
  staticTypes := #[]
  resolved := Array.replicate 8 none
  statics := none }

/-- the primitive byte -/
def k15 : Class := { plain "byte" none with kind := .primitive 'B', accessFlags := 0x411 }
/-- [B -/
def k16 : Class := { plain "[B" (some 0) with kind := .array 15 .byte, interfaces := #[14, 3], accessFlags := 1041 }

/-- the primitive char -/
def k17 : Class := { plain "char" none with kind := .primitive 'C', accessFlags := 0x411 }
/-- [C -/
def k18 : Class := { plain "[C" (some 0) with kind := .array 17 .char, interfaces := #[14, 3], accessFlags := 1041 }

/-- the primitive int -/
def k19 : Class := { plain "int" none with kind := .primitive 'I', accessFlags := 0x411 }
/-- [I -/
def k20 : Class := { plain "[I" (some 0) with kind := .array 19 .int, interfaces := #[14, 3], accessFlags := 1041 }

def heap : Heap := #[{ cls := 8, slots := #[.long 0, .int 1, .null, .int 0, .null, .int 0, .int 0], vm := .statics 8 },
  { cls := 12, slots := #[.null, .null, .null], vm := .statics 12 }]
def classes : Array Class := #[k0, k1, k2, k3, k4, k5, k6, k7, k8, k9, k10, k11, k12, k13, k14, k15, k16, k17, k18, k19, k20]
def interned : List (Array UInt16 × Addr) := []
def slotsUsed : Nat := 10
def theMethod : MethodId := ⟨1, 4⟩
def args0 : Array Value := #[.int 5, .int 6, .int 7, .int 8, .int 9, .int 1]
def aboutOver (below : List Frame) : State where
  vm := { classes := classes, interned := interned.toArray }
  heap := heap
  slotsUsed := slotsUsed
  threads := #[{ frames := .invoking theMethod args0 :: below }]
def below0 : List Frame := [.native { method := ⟨0, 0⟩, args := #[] }]
def about1 : State := aboutOver below0
def p0 : Program := .bare "" "" ""
def e0 : Env := launch0.env 0 0 0
theorem w_frames : about1.frames = Frame.invoking theMethod args0 :: below0 := rfl
set_option maxRecDepth 65536 in
theorem w_args : argsFit about1.vm theMethod args0 = true := by decide +kernel
set_option maxRecDepth 65536 in
theorem w_heap : heapFits about1 = true := by decide +kernel
set_option maxRecDepth 65536 in
theorem w_runnable : about1.curStatus? = some .runnable := by decide +kernel
set_option maxRecDepth 65536 in
theorem w_alone : about1.alone = true := by decide +kernel
set_option maxRecDepth 65536 in
theorem w_named : about1.methodNamed? x = some theMethod := by decide +kernel
set_option maxRecDepth 65536 in
theorem w_hears : about1.hears theMethod below0 = true := by decide +kernel
set_option maxRecDepth 65536 in
theorem w_ripe : about1.ripe theMethod args0 below0 = true := by decide +kernel
theorem w_running : about1.status = .running := rfl
set_option maxRecDepth 65536 in
theorem w_room : about1.hasRoom e0.platform room_1 = true :=
  launch0.hasRoom_least _ room_1 (by decide +kernel) (by decide +kernel) (by decide +kernel) (by decide +kernel) (by decide +kernel) (by decide +kernel)
theorem allAtoms_all (ts : List Jvm.Cond) (a : Array Jvm.Value) (st : Jvm.State) : (allAtoms ts).before a st = ts.all (fun c => c.before a st) := by
  induction ts with
  | nil => rfl
  | cons c t ih =>
    show (Jvm.Cond.and c (allAtoms t)).before a st = _
    rw [Jvm.Cond.before_and, ih, List.all_cons]
def words1 : List Jvm.Cond := Jvm.Cond.code x code maxLocals ret :: tables_1
/-- a 'code' word, met by the world's own term for the bytes: nothing is compared byte by byte -/
theorem code_word {y : MethodName} {bytes : ByteArray} {mx : Nat} {rt : Option FieldType} {a : Array Value} {s : State} {m : MethodId} {meth : Method} {c : Code} (h1 : s.methodNamed? y = some m) (h2 : s.vm.method? m = some meth) (h3 : meth.code = some c) (h4 : c.code = bytes)
    (h5 : (c.maxLocals == mx && c.exceptionTable.isEmpty && decide (c.maxStack ≤ mostOperands) && decide (meth.sig.returnType = rt) && !meth.locks && decide (parseMethodDescriptor y.desc = some meth.sig)) = true) : (Jvm.Cond.code y bytes mx rt).before a s = true := by
  simp only [Bool.and_eq_true, beq_iff_eq, Bool.not_eq_true', decide_eq_true_eq] at h5
  obtain ⟨⟨⟨⟨⟨g1, g2⟩, g3⟩, g4⟩, g5⟩, g6⟩ := h5
  simp [Cond.before, Cond.holds, Cond.value, h1, h2, h3, h4, g1, g2, g3, g4, g5, g6]
def isCode : Jvm.Cond → Bool
  | .code _ _ _ _ => true
  | _ => false
theorem all_split {L : List Jvm.Cond} {P : Jvm.Cond → Bool} (h1 : L.all (fun c => isCode c || P c) = true) (h2 : ∀ c ∈ L.filter isCode, P c = true) : L.all P = true := by
  refine List.all_eq_true.mpr fun c hc => ?_
  have h := List.all_eq_true.mp h1 c hc
  rcases Bool.eq_false_or_eq_true (isCode c) with hi | hi
  · exact h2 c (List.mem_filter.mpr ⟨hc, hi⟩)
  · simpa [hi] using h
set_option maxRecDepth 65536 in
theorem w_c0 : (Jvm.Cond.code x code maxLocals ret).before args0 about1 = true := code_word (m := ⟨1, 4⟩) (meth := k1m4) (c := k1c4) (by decide +kernel) rfl rfl rfl (by decide +kernel)
set_option maxRecDepth 65536 in
theorem w_c1 : (Jvm.Cond.code ({ cls := "com/example/dossiertools/dossiertools/LeafReferenceEqualsPinLaw", name := "len", desc := "(I)I" } : Jvm.MethodName) method_2_code (1 : Nat) (Option.some Jvm.ClassFile.FieldType.int)).before args0 about1 = true := code_word (m := ⟨1, 1⟩) (meth := k1m1) (c := k1c1) (by decide +kernel) rfl rfl rfl (by decide +kernel)
set_option maxRecDepth 65536 in
theorem w_c2 : (Jvm.Cond.code ({ cls := "java/lang/Math", name := "min", desc := "(II)I" } : Jvm.MethodName) jdk_29_method_69_code (2 : Nat) (Option.some Jvm.ClassFile.FieldType.int)).before args0 about1 = true := code_word (m := ⟨2, 1⟩) (meth := k2m1) (c := k2c1) (by decide +kernel) rfl rfl rfl (by decide +kernel)
set_option maxRecDepth 65536 in
theorem w_c3 : (Jvm.Cond.code ({ cls := "com/example/dossiertools/dossiertools/LeafReferenceEqualsPinLaw", name := "str", desc := "(II)Ljava/lang/String;" } : Jvm.MethodName) method_3_code (5 : Nat) (Option.some (Jvm.ClassFile.FieldType.object "java/lang/String"))).before args0 about1 = true := code_word (m := ⟨1, 2⟩) (meth := k1m2) (c := k1c2) (by decide +kernel) rfl rfl rfl (by decide +kernel)
set_option maxRecDepth 65536 in
theorem w_c4 : (Jvm.Cond.code ({ cls := "java/lang/String", name := "<init>", desc := "([C)V" } : Jvm.MethodName) jdk_42_method_3_code (2 : Nat) (Option.none : Option Jvm.ClassFile.FieldType)).before args0 about1 = true := code_word (m := ⟨8, 1⟩) (meth := k8m1) (c := k8c1) (by decide +kernel) rfl rfl rfl (by decide +kernel)
set_option maxRecDepth 65536 in
theorem w_c5 : (Jvm.Cond.code ({ cls := "java/lang/String", name := "<init>", desc := "([CIILjava/lang/Void;)V" } : Jvm.MethodName) jdk_42_method_149_code (6 : Nat) (Option.none : Option Jvm.ClassFile.FieldType)).before args0 about1 = true := code_word (m := ⟨8, 4⟩) (meth := k8m4) (c := k8c4) (by decide +kernel) rfl rfl rfl (by decide +kernel)
set_option maxRecDepth 65536 in
theorem w_c6 : (Jvm.Cond.code ({ cls := "java/lang/Object", name := "<init>", desc := "()V" } : Jvm.MethodName) object_method_1_code (1 : Nat) (Option.none : Option Jvm.ClassFile.FieldType)).before args0 about1 = true := code_word (m := ⟨0, 0⟩) (meth := k0m0) (c := k0c0) (by decide +kernel) rfl rfl rfl (by decide +kernel)
set_option maxRecDepth 65536 in
theorem w_c7 : (Jvm.Cond.code ({ cls := "com/example/dossiertools/dossiertools/LeafReference", name := "<init>", desc := "(Ljava/lang/String;Ljava/lang/String;)V" } : Jvm.MethodName) prog_37_method_1_code (3 : Nat) (Option.none : Option Jvm.ClassFile.FieldType)).before args0 about1 = true := code_word (m := ⟨9, 0⟩) (meth := k9m0) (c := k9c0) (by decide +kernel) rfl rfl rfl (by decide +kernel)
set_option maxRecDepth 65536 in
theorem w_c8 : (Jvm.Cond.code ({ cls := "com/example/dossiertools/dossiertools/LeafReferenceEqualsPinLaw", name := "same", desc := "(IIII)Z" } : Jvm.MethodName) method_4_code (4 : Nat) (Option.some Jvm.ClassFile.FieldType.boolean)).before args0 about1 = true := code_word (m := ⟨1, 3⟩) (meth := k1m3) (c := k1c3) (by decide +kernel) rfl rfl rfl (by decide +kernel)
set_option maxRecDepth 65536 in
theorem w_c9 : (Jvm.Cond.code ({ cls := "com/example/dossiertools/dossiertools/LeafReference", name := "equals", desc := "(Ljava/lang/Object;)Z" } : Jvm.MethodName) prog_37_method_5_code (3 : Nat) (Option.some Jvm.ClassFile.FieldType.boolean)).before args0 about1 = true := code_word (m := ⟨9, 1⟩) (meth := k9m1) (c := k9c1) (by decide +kernel) rfl rfl rfl (by decide +kernel)
set_option maxRecDepth 65536 in
theorem w_c10 : (Jvm.Cond.code ({ cls := "java/lang/String", name := "equals", desc := "(Ljava/lang/Object;)Z" } : Jvm.MethodName) jdk_42_method_66_code (3 : Nat) (Option.some Jvm.ClassFile.FieldType.boolean)).before args0 about1 = true := code_word (m := ⟨8, 2⟩) (meth := k8m2) (c := k8c2) (by decide +kernel) rfl rfl rfl (by decide +kernel)
set_option maxRecDepth 65536 in
theorem w_c11 : (Jvm.Cond.code ({ cls := "java/lang/StringLatin1", name := "equals", desc := "([B[B)Z" } : Jvm.MethodName) jdk_43_method_13_code (3 : Nat) (Option.some Jvm.ClassFile.FieldType.boolean)).before args0 about1 = true := code_word (m := ⟨10, 2⟩) (meth := k10m2) (c := k10c2) (by decide +kernel) rfl rfl rfl (by decide +kernel)
set_option maxRecDepth 65536 in
theorem w_c12 : (Jvm.Cond.code ({ cls := "java/lang/StringUTF16", name := "compress", desc := "([CII)[B" } : Jvm.MethodName) jdk_52_method_16_code (6 : Nat) (Option.some (Jvm.ClassFile.FieldType.array Jvm.ClassFile.FieldType.byte))).before args0 about1 = true := code_word (m := ⟨11, 2⟩) (meth := k11m2) (c := k11c2) (by decide +kernel) rfl rfl rfl (by decide +kernel)
set_option maxRecDepth 65536 in
theorem w_c13 : (Jvm.Cond.code ({ cls := "java/lang/StringUTF16", name := "compress", desc := "([CI[BII)I" } : Jvm.MethodName) jdk_52_method_21_code (7 : Nat) (Option.some Jvm.ClassFile.FieldType.int)).before args0 about1 = true := code_word (m := ⟨11, 3⟩) (meth := k11m3) (c := k11c3) (by decide +kernel) rfl rfl rfl (by decide +kernel)
set_option maxRecDepth 65536 in
theorem w_c14 : (Jvm.Cond.code ({ cls := "java/lang/StringUTF16", name := "coderFromArrayLen", desc := "([BI)B" } : Jvm.MethodName) jdk_52_method_15_code (2 : Nat) (Option.some Jvm.ClassFile.FieldType.byte)).before args0 about1 = true := code_word (m := ⟨11, 1⟩) (meth := k11m1) (c := k11c1) (by decide +kernel) rfl rfl rfl (by decide +kernel)
set_option maxRecDepth 65536 in
theorem w_c15 : (Jvm.Cond.code ({ cls := "java/lang/String", name := "valueOf", desc := "(C)Ljava/lang/String;" } : Jvm.MethodName) jdk_42_method_139_code (1 : Nat) (Option.some (Jvm.ClassFile.FieldType.object "java/lang/String"))).before args0 about1 = true := code_word (m := ⟨8, 3⟩) (meth := k8m3) (c := k8c3) (by decide +kernel) rfl rfl rfl (by decide +kernel)
set_option maxRecDepth 65536 in
theorem w_c16 : (Jvm.Cond.code ({ cls := "java/lang/StringLatin1", name := "canEncode", desc := "(C)Z" } : Jvm.MethodName) jdk_43_method_3_code (1 : Nat) (Option.some Jvm.ClassFile.FieldType.boolean)).before args0 about1 = true := code_word (m := ⟨10, 1⟩) (meth := k10m1) (c := k10c1) (by decide +kernel) rfl rfl rfl (by decide +kernel)
set_option maxRecDepth 65536 in
theorem w_c17 : (Jvm.Cond.code ({ cls := "java/lang/StringLatin1", name := "toBytes", desc := "(C)[B" } : Jvm.MethodName) jdk_43_method_46_code (1 : Nat) (Option.some (Jvm.ClassFile.FieldType.array Jvm.ClassFile.FieldType.byte))).before args0 about1 = true := code_word (m := ⟨10, 3⟩) (meth := k10m3) (c := k10c3) (by decide +kernel) rfl rfl rfl (by decide +kernel)
set_option maxRecDepth 65536 in
theorem w_c18 : (Jvm.Cond.code ({ cls := "java/lang/String", name := "<init>", desc := "([BB)V" } : Jvm.MethodName) jdk_42_method_151_code (3 : Nat) (Option.none : Option Jvm.ClassFile.FieldType)).before args0 about1 = true := code_word (m := ⟨8, 5⟩) (meth := k8m5) (c := k8c5) (by decide +kernel) rfl rfl rfl (by decide +kernel)
def codes1 : List Jvm.Cond := [Jvm.Cond.code x code maxLocals ret, Jvm.Cond.code ({ cls := "com/example/dossiertools/dossiertools/LeafReferenceEqualsPinLaw", name := "len", desc := "(I)I" } : Jvm.MethodName) method_2_code (1 : Nat) (Option.some Jvm.ClassFile.FieldType.int), Jvm.Cond.code ({ cls := "java/lang/Math", name := "min", desc := "(II)I" } : Jvm.MethodName) jdk_29_method_69_code (2 : Nat) (Option.some Jvm.ClassFile.FieldType.int), Jvm.Cond.code ({ cls := "com/example/dossiertools/dossiertools/LeafReferenceEqualsPinLaw", name := "str", desc := "(II)Ljava/lang/String;" } : Jvm.MethodName) method_3_code (5 : Nat) (Option.some (Jvm.ClassFile.FieldType.object "java/lang/String")), Jvm.Cond.code ({ cls := "java/lang/String", name := "<init>", desc := "([C)V" } : Jvm.MethodName) jdk_42_method_3_code (2 : Nat) (Option.none : Option Jvm.ClassFile.FieldType), Jvm.Cond.code ({ cls := "java/lang/String", name := "<init>", desc := "([CIILjava/lang/Void;)V" } : Jvm.MethodName) jdk_42_method_149_code (6 : Nat) (Option.none : Option Jvm.ClassFile.FieldType), Jvm.Cond.code ({ cls := "java/lang/Object", name := "<init>", desc := "()V" } : Jvm.MethodName) object_method_1_code (1 : Nat) (Option.none : Option Jvm.ClassFile.FieldType), Jvm.Cond.code ({ cls := "com/example/dossiertools/dossiertools/LeafReference", name := "<init>", desc := "(Ljava/lang/String;Ljava/lang/String;)V" } : Jvm.MethodName) prog_37_method_1_code (3 : Nat) (Option.none : Option Jvm.ClassFile.FieldType), Jvm.Cond.code ({ cls := "com/example/dossiertools/dossiertools/LeafReferenceEqualsPinLaw", name := "same", desc := "(IIII)Z" } : Jvm.MethodName) method_4_code (4 : Nat) (Option.some Jvm.ClassFile.FieldType.boolean), Jvm.Cond.code ({ cls := "com/example/dossiertools/dossiertools/LeafReference", name := "equals", desc := "(Ljava/lang/Object;)Z" } : Jvm.MethodName) prog_37_method_5_code (3 : Nat) (Option.some Jvm.ClassFile.FieldType.boolean), Jvm.Cond.code ({ cls := "java/lang/String", name := "equals", desc := "(Ljava/lang/Object;)Z" } : Jvm.MethodName) jdk_42_method_66_code (3 : Nat) (Option.some Jvm.ClassFile.FieldType.boolean), Jvm.Cond.code ({ cls := "java/lang/StringLatin1", name := "equals", desc := "([B[B)Z" } : Jvm.MethodName) jdk_43_method_13_code (3 : Nat) (Option.some Jvm.ClassFile.FieldType.boolean), Jvm.Cond.code ({ cls := "java/lang/StringUTF16", name := "compress", desc := "([CII)[B" } : Jvm.MethodName) jdk_52_method_16_code (6 : Nat) (Option.some (Jvm.ClassFile.FieldType.array Jvm.ClassFile.FieldType.byte)), Jvm.Cond.code ({ cls := "java/lang/StringUTF16", name := "compress", desc := "([CI[BII)I" } : Jvm.MethodName) jdk_52_method_21_code (7 : Nat) (Option.some Jvm.ClassFile.FieldType.int), Jvm.Cond.code ({ cls := "java/lang/StringUTF16", name := "coderFromArrayLen", desc := "([BI)B" } : Jvm.MethodName) jdk_52_method_15_code (2 : Nat) (Option.some Jvm.ClassFile.FieldType.byte), Jvm.Cond.code ({ cls := "java/lang/String", name := "valueOf", desc := "(C)Ljava/lang/String;" } : Jvm.MethodName) jdk_42_method_139_code (1 : Nat) (Option.some (Jvm.ClassFile.FieldType.object "java/lang/String")), Jvm.Cond.code ({ cls := "java/lang/StringLatin1", name := "canEncode", desc := "(C)Z" } : Jvm.MethodName) jdk_43_method_3_code (1 : Nat) (Option.some Jvm.ClassFile.FieldType.boolean), Jvm.Cond.code ({ cls := "java/lang/StringLatin1", name := "toBytes", desc := "(C)[B" } : Jvm.MethodName) jdk_43_method_46_code (1 : Nat) (Option.some (Jvm.ClassFile.FieldType.array Jvm.ClassFile.FieldType.byte)), Jvm.Cond.code ({ cls := "java/lang/String", name := "<init>", desc := "([BB)V" } : Jvm.MethodName) jdk_42_method_151_code (3 : Nat) (Option.none : Option Jvm.ClassFile.FieldType)]
set_option maxRecDepth 65536 in
theorem codes_eq : words1.filter isCode = codes1 := rfl
theorem w_codes : ∀ c ∈ words1.filter isCode, c.before args0 about1 = true := by
  rw [codes_eq]
  intro c hc
  simp only [codes1, List.mem_cons, List.not_mem_nil, or_false] at hc
  rcases hc with rfl | rfl | rfl | rfl | rfl | rfl | rfl | rfl | rfl | rfl | rfl | rfl | rfl | rfl | rfl | rfl | rfl | rfl | rfl
  · exact w_c0
  · exact w_c1
  · exact w_c2
  · exact w_c3
  · exact w_c4
  · exact w_c5
  · exact w_c6
  · exact w_c7
  · exact w_c8
  · exact w_c9
  · exact w_c10
  · exact w_c11
  · exact w_c12
  · exact w_c13
  · exact w_c14
  · exact w_c15
  · exact w_c16
  · exact w_c17
  · exact w_c18
set_option maxRecDepth 65536 in
theorem w_t1 : (words1.take 24).all (fun c => isCode c || c.before args0 about1) = true := by decide +kernel
set_option maxRecDepth 65536 in
theorem w_t2 : ((words1.drop 24).take 24).all (fun c => isCode c || c.before args0 about1) = true := by decide +kernel
set_option maxRecDepth 65536 in
theorem w_t3 : (((words1.drop 24).drop 24).take 24).all (fun c => isCode c || c.before args0 about1) = true := by decide +kernel
set_option maxRecDepth 65536 in
theorem w_t4 : (((words1.drop 24).drop 24).drop 24).all (fun c => isCode c || c.before args0 about1) = true := by decide +kernel
theorem w_tables : (allAtoms (Jvm.Cond.code x code maxLocals ret :: tables_1)).before args0 about1 = true := by
  rw [allAtoms_all]
  show words1.all (fun c => c.before args0 about1) = true
  refine all_split ?_ w_codes
  rw [← List.take_append_drop 24 words1, List.all_append, w_t1, ← List.take_append_drop 24 (words1.drop 24), List.all_append, w_t2, ← List.take_append_drop 24 ((words1.drop 24).drop 24), List.all_append, w_t3, w_t4]
  rfl
set_option maxRecDepth 65536 in
theorem w_rest : rest_1_c.before args0 about1 = true := by decide +kernel
set_option maxRecDepth 65536 in
theorem w_case : (Jvm.Cond.and given_1 narrow_1).before args0 about1 = true := by decide +kernel
set_option maxRecDepth 65536 in
theorem w_consts : constsHeld consts_1 about1 := Jvm.Lit.constsHeldB_iff.mp (by decide +kernel)
theorem w_applies : (headSpec (Jvm.Cond.code x code maxLocals ret :: tables_1) room_1).applies x e0.platform about1 = true :=
  (Spec.applies_iff w_frames).mpr ⟨w_running, w_runnable, w_alone, w_named, w_hears, w_ripe, w_room, w_tables⟩
theorem atStart : AtStart classFile x code maxLocals ret World_1 tables_1 room_1 Calls_1 rest_1 Pre_1 launch0 p0 e0 about1 theMethod args0 below0 :=
  ⟨lists_1, trivial, launch0.admits_env _ _ _, launch0.least_env, fairChoices_fair.cas, fairChoices_fair.clock, w_frames, w_args, w_heap, w_applies, ⟨w_consts, trivial⟩, w_rest, w_case⟩
end start1
theorem witness_1 : WitnessClaimed_1 := ⟨start1.p0, start1.e0, start1.about1, start1.theMethod, start1.args0, start1.below0, start1.atStart⟩
end Jvm.Pilot.@@N@@
