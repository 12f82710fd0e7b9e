import JvmDerived
import JvmDerived.Pilot.@@N@@Statement
import JvmDerived.Pilot.@@N@@Code
set_option linter.unusedVariables false
set_option linter.unusedSimpArgs false
namespace Jvm.GoKit
open Sem ClassFile Op Lib Jvm.Stand Jvm.Free Jvm.LawKit Jvm.RoadKit
/-! A small logic of walks: 'Go .. h kc ks SL pc L S': from pc, with locals L, stack S, heap h, the body comes to its end and Q holds. -/
def Sfs (Z : State) (EL : List (String × Nat)) (vm : Vm) (h : Heap) (SL : List Addr) : Prop := ∀ x ∈ SL, x < h.size ∧ Safe Z EL vm h x
def En (w : Bool) (s : State) (o : Outcome) (t : State) (L : List Loc) (k n : Nat) : Prop := ReturnedEndW s o t L k n ∧ (w = false → s.WarmedH t.vm)
def Wk (l : Launch) (Z : State) (y : MethodName) (bytes : ByteArray) (mx : Nat) (rt : Option FieldType) (R : Room) (EL : List (String × Nat)) (n0 : Nat) (w : Bool) (p : Program) (e : Env) (s : State) (m : MethodId) (args : Array Value) (below : List Frame) (meth : Method) (c : Code) (T : State) (h : Heap) (kc ks : Nat) (SL : List Addr) : Prop :=
  (p.tables.exec = Jvm.exec ∧ c.code = bytes ∧ c.maxLocals = mx ∧ meth.sig.returnType = rt ∧ meth.locks = false ∧ meth.name = y.name ∧ ∃ a0, EW Z a0 EL) ∧
  ∃ k0 locs, Stand p l e R (s.setVm T.vm) m args below meth c T locs kc ks ∧ T.heap = h ∧ s.Since T.vm k0 ∧ k0 ≤ h.size ∧ Z.Warmed39 T.vm ∧ T.vm.findClass y.cls = some m.cls ∧ CHr Z EL s.vm s.heap T.vm h ∧ Fr n0 locs ∧ (w = false → s.WarmedH T.vm) ∧ Sfs Z EL T.vm h SL
def Go (l : Launch) (Z : State) (y : MethodName) (bytes : ByteArray) (mx : Nat) (rt : Option FieldType) (R : Room) (EL : List (String × Nat)) (n0 : Nat) (w : Bool) (Q : Option Value → Heap → List Addr → Prop) (h : Heap) (kc ks : Nat) (SL : List Addr) (pc : Nat) (L : Array Slot) (S : List Value) : Prop :=
  ∀ p e s m args below meth c T, Wk l Z y bytes mx rt R EL n0 w p e s m args below meth c T h kc ks SL →
    ∃ s₂ o, Steps p.tables e below (T.setTop (mkF m pc L S)) s₂ ∧ s₂.status = .running ∧ Ended s₂ below o ∧
      ∃ v Ls N, o = .returned v ∧ Q v s₂.heap N ∧ Fr n0 Ls ∧ CHr Z EL s.vm s.heap s₂.vm s₂.heap ∧ Sfs Z EL s₂.vm s₂.heap N ∧ En w s o s₂ Ls R.cells R.slots
/-- a method's contract, for one array of arguments and one heap -/
def Ct (l : Launch) (Z : State) (y : MethodName) (bytes : ByteArray) (mx : Nat) (rt : Option FieldType) (R : Room) (EL : List (String × Nat)) (n0 : Nat) (w : Bool) (ws : List Jvm.Cond) (as' : Array Value) (h0 : Heap) (SL : List Addr) (Q : Option Value → Heap → List Addr → Prop) : Prop :=
  MetFree l y (head1 (Jvm.Cond.code y bytes mx rt :: ws) R) (fun a U => a = as' ∧ Z.Warmed39 U.vm ∧ U.heap = h0 ∧ CHv Z EL U.vm h0 ∧ Sfs Z EL U.vm h0 SL) (fun _ _ _ _ _ => True)
    (fun _ U o U' => ∃ v Ls N, o = .returned v ∧ Q v U'.heap N ∧ Fr n0 Ls ∧ CHr Z EL U.vm U.heap U'.vm U'.heap ∧ Sfs Z EL U'.vm U'.heap N ∧ En w U o U' Ls R.cells R.slots)
theorem nlt {a b : Nat} (h : a < b) : a < b := h
theorem nle {a b : Nat} (h : a ≤ b) : a ≤ b := h
theorem neq {a b : Nat} (h : a = b) : a = b := h
theorem nne {a b : Nat} (h : a ≠ b) : a ≠ b := h
theorem nne2 {x a b : Nat} (h : x ≠ a ∧ x ≠ b) : x ≠ a ∧ x ≠ b := h
theorem sta_keep {Z : State} {h h' : Heap} {C n d : String} {v : Value} {ws : List Addr} (F : Sta Z h C n d v) (K : Keep h h' ws) (q : ∀ x ∈ ws, ∀ cell : Cell, h[x]? = some cell → cell.vm.isStatics = false) : Sta Z h' C n d v := by
  obtain ⟨cf, i, k, f, st, cell, h1, h2, h3, h4, h5, h6, h7⟩ := F
  exact ⟨cf, i, k, f, st, cell, h1, h2, h3, h4, K.2.1 st cell h5 (fun m => by rw [q st m cell h5] at h6; cases h6), h6, h7⟩
theorem arr_keep {Z : State} {h h' : Heap} {a : Addr} {c : Cell} {ty : FieldType} {ws : List Addr} (F : RoadKit.Arr Z h a c ty) (K : Keep h h' ws) (q : a ∉ ws) : RoadKit.Arr Z h' a c ty := ⟨K.2.1 a c F.1 q, F.2⟩
section Closure
variable {l : Launch} {Z : State} {y : MethodName} {bytes : ByteArray} {mx : Nat} {rt : Option FieldType} {R : Room} {EL : List (String × Nat)} {n0 : Nat} {w : Bool} {Q : Option Value → Heap → List Addr → Prop} {h h' : Heap} {kc ks kc' ks' : Nat} {SL SL' : List Addr} {pc pc' : Nat} {L L' : Array Slot} {S S' : List Value} {a0 : Array Value}
variable {p : Program} {e : Env} {s : State} {m : MethodId} {args : Array Value} {below : List Frame} {meth : Method} {c : Code} {T T' : State} {locs' : List Loc}
theorem Sfs.mono (F : Sfs Z EL T.vm h SL) (q : ∀ x ∈ SL', x ∈ SL) : Sfs Z EL T.vm h SL' := fun x hx => F x (q x hx)
theorem Sfs.chr {vm vm1 : Vm} (F : Sfs Z EL vm h SL) (A : CHr Z EL vm h vm1 h') : Sfs Z EL vm1 h' SL := fun x hx => ⟨Nat.lt_of_lt_of_le (F x hx).1 A.2.1, A.safe (F x hx).1 (F x hx).2⟩
theorem Wk.mono (W : Wk l Z y bytes mx rt R EL n0 w p e s m args below meth c T h kc ks SL) (q : ∀ x ∈ SL', x ∈ SL) : Wk l Z y bytes mx rt R EL n0 w p e s m args below meth c T h kc ks SL' := by
  obtain ⟨A, k0, locs, X, e1, h1, h2, h3, h4, h5, h6, h7, h8⟩ := W
  exact ⟨A, k0, locs, X, e1, h1, h2, h3, h4, h5, h6, h7, h8.mono q⟩
/-- a step that interns nothing -/
theorem Wk.next (W : Wk l Z y bytes mx rt R EL n0 w p e s m args below meth c T h kc ks SL) (X' : Stand p l e R (s.setVm T.vm) m args below meth c T' locs' kc' ks') (e' : T'.heap = h') (hC : CHr Z EL T.vm h T.vm h') (N : Fr n0 locs') (hSf : Sfs Z EL T.vm h' SL') :
    Wk l Z y bytes mx rt R EL n0 w p e s m args below meth c T' h' kc' ks' SL' := by
  obtain ⟨⟨b1, b2, b3, b4, b5, b6, a0, b7⟩, k0, locs, X, e1, h1, h2, h3, h4, h5, h6, h7, h8⟩ := W
  have hW : (s.setVm T.vm).WarmedH T'.vm := X'.warmed
  have A := CHv.at X' h3 b7 hC.1
  have Xr : Stand p l e R (s.setVm T'.vm) m args below meth c T' locs' kc' ks' := X'.retabled hW.wide
  refine ⟨⟨b1, b2, b3, b4, b5, b6, a0, b7⟩, k0, locs', Xr, e', h1.trans (hW.since _) (Nat.le_refl _), Nat.le_trans h2 hC.2.1, State.Warmed39.trans (t := s.setVm T.vm) h3 hW.wide, ?_, (h5.trans hC).trans A, N, fun q => State.WarmedH.trans (t := s.setVm T.vm) (h7 q) hW, hSf.chr A⟩
  rw [hW.alike.findClass]; exact h4
/-- a step that may intern -/
theorem Wk.nextS (W : Wk l Z y bytes mx rt R EL n0 w p e s m args below meth c T h kc ks SL) (X' : Stand p l e R (s.setVm T'.vm) m args below meth c T' locs' kc' ks') (e' : T'.heap = h') {n1 : Nat} (hS : (s.setVm T.vm).Since T'.vm n1) (hn1 : h.size ≤ n1) (hn : n1 ≤ h'.size) (hC : CHr Z EL T.vm h T'.vm h') (N : Fr n0 locs') (hw : w = false → (s.setVm T.vm).WarmedH T'.vm) (hSf : Sfs Z EL T'.vm h' SL') :
    Wk l Z y bytes mx rt R EL n0 w p e s m args below meth c T' h' kc' ks' SL' := by
  obtain ⟨⟨b1, b2, b3, b4, b5, b6, a0, b7⟩, k0, locs, X, e1, h1, h2, h3, h4, h5, h6, h7, h8⟩ := W
  refine ⟨⟨b1, b2, b3, b4, b5, b6, a0, b7⟩, n1, locs', X', e', h1.trans hS (Nat.le_trans h2 hn1), hn, State.Warmed39.trans (t := s.setVm T.vm) h3 hS.1, ?_, h5.trans hC, N, fun q => State.WarmedH.trans (t := s.setVm T.vm) (h7 q) (hw q), hSf⟩
  rw [hS.1.alike.findClass]; exact h4
theorem Go.st (hst : ∀ {p : Program} {e : Env} {s : State} {m : MethodId} {args : Array Value} {below : List Frame} {meth : Method} {c : Code} {T : State}, Wk l Z y bytes mx rt R EL n0 w p e s m args below meth c T h kc ks SL → ∀ t, Steps p.tables e below (T.setTop (mkF m pc' L' S')) t → Steps p.tables e below (T.setTop (mkF m pc L S)) t)
    (k : Go l Z y bytes mx rt R EL n0 w Q h kc ks SL pc' L' S') : Go l Z y bytes mx rt R EL n0 w Q h kc ks SL pc L S := by
  intro p e s m args below meth c T W
  obtain ⟨s₂, o, st, r⟩ := k p e s m args below meth c T W
  exact ⟨s₂, o, hst W _ st, r⟩
theorem Go.mono (q : ∀ x ∈ SL', x ∈ SL) (k : Go l Z y bytes mx rt R EL n0 w Q h kc ks SL' pc L S) : Go l Z y bytes mx rt R EL n0 w Q h kc ks SL pc L S := fun p e s m args below meth c T W => k p e s m args below meth c T (W.mono q)
theorem Go.post {Q' : Option Value → Heap → List Addr → Prop} (q : ∀ v h N, Q' v h N → Q v h N) (k : Go l Z y bytes mx rt R EL n0 w Q' h kc ks SL pc L S) : Go l Z y bytes mx rt R EL n0 w Q h kc ks SL pc L S := fun p e s m args below meth c T W => by
  obtain ⟨s₂, o, st, r1, r2, v, Ls, N, r3, r4, r5⟩ := k p e s m args below meth c T W
  exact ⟨s₂, o, st, r1, r2, v, Ls, N, r3, q _ _ _ r4, r5⟩
theorem Ct.of {ws : List Jvm.Cond} {as' : Array Value} {h0 : Heap} (hp : plainFor y = true) (hEL : EW Z a0 EL) {L0 : Array Slot} (hE : ∀ m, entryFrame m as' mx = mkF m 0 L0 []) (G : Go l Z y bytes mx rt R EL n0 w Q h0 0 0 SL 0 L0 []) :
    Ct l Z y bytes mx rt R EL n0 w ws as' h0 SL Q := by
  refine MetFree.of_bodySF hp hisR ?_
  intro p e s m args below meth c s₁ Bd hml0 hP hK
  obtain ⟨rfl, hZ, hh, hC, hSf⟩ := hP
  have X0 : Stand p l e R (s.setVm s.vm) m args below meth c s₁ [] 0 0 := Stand.of_body Bd
  have e0 : s₁.heap = h0 := by rw [← hh, Bd.state]; rfl
  have hW : s.WarmedH s₁.vm := X0.warmed
  have A := CHv.at X0 hZ hEL hC
  have hl : meth.locks = false := BodyLoose.notSynchronized Bd
  rw [hE]
  refine G p e s m args below meth c s₁ ⟨⟨Bd.exec, Bd.bytes, hml0, Bd.returns, hl, (name_of_methodNamed Bd.named Bd.method).1, a0, hEL⟩, h0.size, [], X0.retabled hW.wide, e0, hW.since _, Nat.le_refl _, State.Warmed39.trans (t := s) hZ hW.wide, ?_, ?_, Fr.nil n0, fun _ => hW, hSf.chr A⟩
  · rw [hW.alike.findClass]; exact findClass_of_methodNamed Bd.named
  · rw [hh]; exact A
/-- a callee's contract pays the call -/
theorem Ct.pay {z : MethodName} {bytesZ : ByteArray} {mxZ : Nat} {rtZ : Option FieldType} {rm : Room} {as' : Array Value} {QZ : Option Value → Heap → List Addr → Prop} {len W : Nat} {vm0 : Vm} (hM : Ct l Z z bytesZ mxZ rtZ rm EL n0 w [] as' h SL' QZ)
    (hZ : Z.Warmed39 vm0) (hEL : EW Z a0 EL) (H : CHv Z EL vm0 h) (hSf : Sfs Z EL vm0 h SL') {a1 : Array Value} (wc : (Jvm.Cond.code z bytesZ mxZ rtZ).before a1 Z = true) (wz : (Jvm.Cond.initialized z.cls).before a1 Z = true) (hf : rm.frames + 1 ≤ R.frames) (hl : W + (mxZ + 11) + rm.locals ≤ R.locals) :
    BackS l R p e below (s.setVm vm0) args z len W (fun A a => a = as' ∧ A.U.heap = h ∧ A.cells + rm.cells ≤ R.cells ∧ A.slots + rm.slots ≤ R.slots)
      (fun A _ v B => ∃ Ls N, QZ v B.U.heap N ∧ Fr n0 Ls ∧ B.locs = A.locs ++ Ls ∧ B.cells = A.cells + rm.cells ∧ B.slots = A.slots + rm.slots ∧ CHr Z EL vm0 h B.U.vm B.U.heap ∧ Sfs Z EL B.U.vm B.U.heap N ∧ (w = false → (s.setVm vm0).WarmedH B.U.vm)) :=
  BackS.of_freeW (bytes := bytesZ) (maxL := mxZ) (ret := rtZ) (E := fun _ first o t L k n => k = rm.cells ∧ n = rm.slots ∧ (∃ v N, o = .returned v ∧ QZ v t.heap N ∧ Fr n0 L ∧ Sfs Z EL t.vm t.heap N) ∧ CHr Z EL first.vm first.heap t.vm t.heap ∧ (w = false → first.WarmedH t.vm)) hM hf hl
    (fun m meth c A a Y hp => have hU : Z.Warmed39 A.U.vm := wtrans (s := s.setVm vm0) hZ Y.warmed
      ⟨by show (Jvm.Cond.and _ .tt).before a A.U = true; rw [Cond.before_and, mv hU wc]; rfl, mv hU wc, mv hU wz, hp.2.2.1, hp.2.2.2⟩)
    (fun m meth c A a g mk Y hp => have A9 : CHr Z EL vm0 h A.U.vm h := CHv.at (T := A.U) Y hZ hEL H
      ⟨hp.1, wtrans (s := s.setVm vm0) hZ Y.warmed, hp.2.1, A9.1, hSf.chr A9⟩) (fun _ _ _ _ _ _ _ _ _ => trivial)
    (fun _ _ _ _ ⟨v, L, N, h1, h2, h3, h4, h5, h6⟩ => ⟨L, _, _, h6.1, rfl, rfl, ⟨v, N, h1, h2, h3, h5⟩, h4, h6.2⟩)
    (fun m meth c A a g mk v t L k n Y hp _ _ ⟨e1, e2, ⟨v', N, e3, e4, e5, e6⟩, e7, e8⟩ => by
      cases e3; subst e1 e2
      refine ⟨L, N, e4, e5, rfl, rfl, rfl, (CHv.at Y hZ hEL H).trans ?_, e6, fun q => State.WarmedH.trans (s := s.setVm vm0) (t := A.U) Y.warmed (e8 q)⟩
      rw [← hp.2.1]; exact e7)
end Closure
section Rules
abbrev usr (x y : Int32) : Int32 := (x.toUInt32 >>> (y &&& 31).toUInt32).toInt32
def cP : ClassFile.Cond → Int32 → Int32 → Prop
  | .eq, x, y => x = y
  | .ne, x, y => ¬ x = y
  | .lt, x, y => x < y
  | .ge, x, y => ¬ x < y
  | .gt, x, y => y < x
  | .le, x, y => ¬ y < x
def cneg : ClassFile.Cond → ClassFile.Cond
  | .eq => .ne
  | .ne => .eq
  | .lt => .ge
  | .ge => .lt
  | .gt => .le
  | .le => .gt
theorem ic_t {cd : ClassFile.Cond} {x y : Int32} (h : cP cd x y) : if_icmp.holds cd x y = true := by
  cases cd
  · exact (teq h).1
  · exact (feq h).2
  · exact (tlt h).1
  · exact (flt h).2.1
  · exact (tlt h).2.2.1
  · exact (flt h).2.2.2
theorem ic_f {cd : ClassFile.Cond} {x y : Int32} (h : cP (cneg cd) x y) : if_icmp.holds cd x y = false := by
  cases cd
  · exact (feq h).1
  · exact (teq h).2
  · exact (flt h).1
  · exact (tlt h).2.1
  · exact (flt h).2.2.1
  · exact (tlt h).2.2.2
theorem if_ic (cd : ClassFile.Cond) (x : Int32) : ifCond.holds cd x = if_icmp.holds cd x 0 := by cases cd <;> rfl
theorem if_t {cd : ClassFile.Cond} {x : Int32} (h : cP cd x 0) : ifCond.holds cd x = true := (if_ic cd x).trans (ic_t h)
theorem if_f {cd : ClassFile.Cond} {x : Int32} (h : cP (cneg cd) x 0) : ifCond.holds cd x = false := (if_ic cd x).trans (ic_f h)
theorem cP_em (cd : ClassFile.Cond) (x y : Int32) : cP cd x y ∨ cP (cneg cd) x y := by
  cases cd <;> simp only [cP, cneg] <;> first | exact Decidable.em _ | exact (Decidable.em _).symm
variable {l : Launch} {Z : State} {y : MethodName} {bytes : ByteArray} {mx : Nat} {rt : Option FieldType} {R : Room} {EL : List (String × Nat)} {n0 : Nat} {w : Bool} {Q : Option Value → Heap → List Addr → Prop} {h h' : Heap} {kc ks kc' ks' : Nat} {SL SL' : List Addr} {pc pc' pc'' : Nat} {L L' : Array Slot} {S S' : List Value} {a0 a1 : Array Value}
theorem Go.re (q1 : pc = pc') (q2 : L = L') (q3 : S = S') (K : Go l Z y bytes mx rt R EL n0 w Q h kc ks SL pc' L' S') : Go l Z y bytes mx rt R EL n0 w Q h kc ks SL pc L S := by subst q1 q2 q3; exact K
theorem Go.aloadN {k : Fin 4} {v : Value} (hd : decode bytes pc = .ok (.aload_n k, 1)) (hl : L[k.val]? = some (.val v)) (hv : v.isRef = true) (q : pc + 1 = pc') (K : Go l Z y bytes mx rt R EL n0 w Q h kc ks SL pc' L (v :: S)) : Go l Z y bytes mx rt R EL n0 w Q h kc ks SL pc L S := Go.st (fun W t kk => by obtain ⟨⟨hx, hby, -⟩, _, _, X, -⟩ := W; subst q; exact XS.aloadN X.here hx rfl (hb hby hd) hl hv kk) K
theorem Go.aload {k : Nat} {v : Value} (hd : decode bytes pc = .ok (.aload k, 2)) (hl : L[k]? = some (.val v)) (hv : v.isRef = true) (q : pc + 2 = pc') (K : Go l Z y bytes mx rt R EL n0 w Q h kc ks SL pc' L (v :: S)) : Go l Z y bytes mx rt R EL n0 w Q h kc ks SL pc L S := Go.st (fun W t kk => by obtain ⟨⟨hx, hby, -⟩, _, _, X, -⟩ := W; subst q; exact XS.aload X.here hx rfl (hb hby hd) hl hv kk) K
theorem Go.iloadN {k : Fin 4} {v : Int32} (hd : decode bytes pc = .ok (.iload_n k, 1)) (hl : L[k.val]? = some (.val (.int v))) (q : pc + 1 = pc') (K : Go l Z y bytes mx rt R EL n0 w Q h kc ks SL pc' L (.int v :: S)) : Go l Z y bytes mx rt R EL n0 w Q h kc ks SL pc L S := Go.st (fun W t kk => by obtain ⟨⟨hx, hby, -⟩, _, _, X, -⟩ := W; subst q; exact XS.iloadN X.here hx rfl (hb hby hd) hl kk) K
theorem Go.iload {k : Nat} {v : Int32} (hd : decode bytes pc = .ok (.iload k, 2)) (hl : L[k]? = some (.val (.int v))) (q : pc + 2 = pc') (K : Go l Z y bytes mx rt R EL n0 w Q h kc ks SL pc' L (.int v :: S)) : Go l Z y bytes mx rt R EL n0 w Q h kc ks SL pc L S := Go.st (fun W t kk => by obtain ⟨⟨hx, hby, -⟩, _, _, X, -⟩ := W; subst q; exact XS.iload X.here hx rfl (hb hby hd) hl kk) K
theorem Go.lloadN {k : Fin 4} {v : Int64} (hd : decode bytes pc = .ok (.lload_n k, 1)) (hl : L[k.val]? = some (.val (.long v))) (q : pc + 1 = pc') (K : Go l Z y bytes mx rt R EL n0 w Q h kc ks SL pc' L (.long v :: S)) : Go l Z y bytes mx rt R EL n0 w Q h kc ks SL pc L S := Go.st (fun W t kk => by obtain ⟨⟨hx, hby, -⟩, _, _, X, -⟩ := W; subst q; exact XS.lloadN X.here hx rfl (hb hby hd) hl kk) K
theorem Go.lload {k : Nat} {v : Int64} (hd : decode bytes pc = .ok (.lload k, 2)) (hl : L[k]? = some (.val (.long v))) (q : pc + 2 = pc') (K : Go l Z y bytes mx rt R EL n0 w Q h kc ks SL pc' L (.long v :: S)) : Go l Z y bytes mx rt R EL n0 w Q h kc ks SL pc L S := Go.st (fun W t kk => by obtain ⟨⟨hx, hby, -⟩, _, _, X, -⟩ := W; subst q; exact XS.lload X.here hx rfl (hb hby hd) hl kk) K
theorem Go.istoreN {k : Fin 4} {v : Int32} (L' : Array Slot) (hd : decode bytes pc = .ok (.istore_n k, 1)) (hl : storeLocals L k.val (.int v) = some L') (q : pc + 1 = pc') (K : Go l Z y bytes mx rt R EL n0 w Q h kc ks SL pc' L' S) : Go l Z y bytes mx rt R EL n0 w Q h kc ks SL pc L (.int v :: S) := Go.st (fun W t kk => by obtain ⟨⟨hx, hby, -⟩, _, _, X, -⟩ := W; subst q; exact XS.istoreN X.here hx rfl (hb hby hd) rfl hl kk) K
theorem Go.istore {k : Nat} {v : Int32} (L' : Array Slot) (hd : decode bytes pc = .ok (.istore k, 2)) (hl : storeLocals L k (.int v) = some L') (q : pc + 2 = pc') (K : Go l Z y bytes mx rt R EL n0 w Q h kc ks SL pc' L' S) : Go l Z y bytes mx rt R EL n0 w Q h kc ks SL pc L (.int v :: S) := Go.st (fun W t kk => by obtain ⟨⟨hx, hby, -⟩, _, _, X, -⟩ := W; subst q; exact XS.istore X.here hx rfl (hb hby hd) rfl hl kk) K
theorem Go.lstoreN {k : Fin 4} {v : Int64} (L' : Array Slot) (hd : decode bytes pc = .ok (.lstore_n k, 1)) (hl : storeLocals L k.val (.long v) = some L') (q : pc + 1 = pc') (K : Go l Z y bytes mx rt R EL n0 w Q h kc ks SL pc' L' S) : Go l Z y bytes mx rt R EL n0 w Q h kc ks SL pc L (.long v :: S) := Go.st (fun W t kk => by obtain ⟨⟨hx, hby, -⟩, _, _, X, -⟩ := W; subst q; exact XS.lstoreN X.here hx rfl (hb hby hd) rfl hl kk) K
theorem Go.lstore {k : Nat} {v : Int64} (L' : Array Slot) (hd : decode bytes pc = .ok (.lstore k, 2)) (hl : storeLocals L k (.long v) = some L') (q : pc + 2 = pc') (K : Go l Z y bytes mx rt R EL n0 w Q h kc ks SL pc' L' S) : Go l Z y bytes mx rt R EL n0 w Q h kc ks SL pc L (.long v :: S) := Go.st (fun W t kk => by obtain ⟨⟨hx, hby, -⟩, _, _, X, -⟩ := W; subst q; exact XS.lstore X.here hx rfl (hb hby hd) rfl hl kk) K
theorem Go.astoreN {k : Fin 4} {v : Value} (L' : Array Slot) (hd : decode bytes pc = .ok (.astore_n k, 1)) (hv : v.isRef = true) (hl : storeLocals L k.val v = some L') (q : pc + 1 = pc') (K : Go l Z y bytes mx rt R EL n0 w Q h kc ks SL pc' L' S) : Go l Z y bytes mx rt R EL n0 w Q h kc ks SL pc L (v :: S) := Go.st (fun W t kk => by obtain ⟨⟨hx, hby, -⟩, _, _, X, -⟩ := W; subst q; exact XS.astoreN X.here hx rfl (hb hby hd) rfl hv hl kk) K
theorem Go.astore {k : Nat} {v : Value} (L' : Array Slot) (hd : decode bytes pc = .ok (.astore k, 2)) (hv : v.isRef = true) (hl : storeLocals L k v = some L') (q : pc + 2 = pc') (K : Go l Z y bytes mx rt R EL n0 w Q h kc ks SL pc' L' S) : Go l Z y bytes mx rt R EL n0 w Q h kc ks SL pc L (v :: S) := Go.st (fun W t kk => by obtain ⟨⟨hx, hby, -⟩, _, _, X, -⟩ := W; subst q; exact XS.astore X.here hx rfl (hb hby hd) rfl hv hl kk) K
theorem Go.iconst {i : Int} (z : Int32) (hd : decode bytes pc = .ok (.iconst i, 1)) (hz : Int32.ofInt i = z) (q : pc + 1 = pc') (K : Go l Z y bytes mx rt R EL n0 w Q h kc ks SL pc' L (.int z :: S)) : Go l Z y bytes mx rt R EL n0 w Q h kc ks SL pc L S := Go.st (fun W t kk => by obtain ⟨⟨hx, hby, -⟩, _, _, X, -⟩ := W; subst q; subst hz; exact XS.iconst X.here hx rfl (hb hby hd) kk) K
theorem Go.bipush {i : Int} (z : Int32) (hd : decode bytes pc = .ok (.bipush i, 2)) (hz : (Int8.ofInt i).toInt32 = z) (q : pc + 2 = pc') (K : Go l Z y bytes mx rt R EL n0 w Q h kc ks SL pc' L (.int z :: S)) : Go l Z y bytes mx rt R EL n0 w Q h kc ks SL pc L S := Go.st (fun W t kk => by obtain ⟨⟨hx, hby, -⟩, _, _, X, -⟩ := W; subst q; subst hz; exact XS.bipush X.here hx rfl (hb hby hd) kk) K
theorem Go.sipush {i : Int} (z : Int32) (hd : decode bytes pc = .ok (.sipush i, 3)) (hz : (Int16.ofInt i).toInt32 = z) (q : pc + 3 = pc') (K : Go l Z y bytes mx rt R EL n0 w Q h kc ks SL pc' L (.int z :: S)) : Go l Z y bytes mx rt R EL n0 w Q h kc ks SL pc L S := Go.st (fun W t kk => by obtain ⟨⟨hx, hby, -⟩, _, _, X, -⟩ := W; subst q; subst hz; exact XS.sipush X.here hx rfl (hb hby hd) kk) K
theorem Go.lconst {k : Fin 2} (z : Int64) (hd : decode bytes pc = .ok (.lconst k, 1)) (hz : Int64.ofNat k.val = z) (q : pc + 1 = pc') (K : Go l Z y bytes mx rt R EL n0 w Q h kc ks SL pc' L (.long z :: S)) : Go l Z y bytes mx rt R EL n0 w Q h kc ks SL pc L S := Go.st (fun W t kk => by obtain ⟨⟨hx, hby, -⟩, _, _, X, -⟩ := W; subst q; subst hz; exact XS.lconst X.here hx rfl (hb hby hd) kk) K
theorem Go.aconstNull (hd : decode bytes pc = .ok (.aconst_null, 1)) (q : pc + 1 = pc') (K : Go l Z y bytes mx rt R EL n0 w Q h kc ks SL pc' L (.null :: S)) : Go l Z y bytes mx rt R EL n0 w Q h kc ks SL pc L S := Go.st (fun W t kk => by obtain ⟨⟨hx, hby, -⟩, _, _, X, -⟩ := W; subst q; exact XS.aconstNull X.here hx rfl (hb hby hd) kk) K
theorem Go.iadd {x y' : Int32} (hd : decode bytes pc = .ok (.iadd, 1)) (q : pc + 1 = pc') (K : Go l Z y bytes mx rt R EL n0 w Q h kc ks SL pc' L (.int (x + y') :: S)) : Go l Z y bytes mx rt R EL n0 w Q h kc ks SL pc L (.int y' :: .int x :: S) := Go.st (fun W t kk => by obtain ⟨⟨hx, hby, -⟩, _, _, X, -⟩ := W; subst q; exact XS.iadd X.here hx rfl (hb hby hd) rfl kk) K
theorem Go.isub {x y' : Int32} (hd : decode bytes pc = .ok (.isub, 1)) (q : pc + 1 = pc') (K : Go l Z y bytes mx rt R EL n0 w Q h kc ks SL pc' L (.int (x - y') :: S)) : Go l Z y bytes mx rt R EL n0 w Q h kc ks SL pc L (.int y' :: .int x :: S) := Go.st (fun W t kk => by obtain ⟨⟨hx, hby, -⟩, _, _, X, -⟩ := W; subst q; exact XS.isub X.here hx rfl (hb hby hd) rfl kk) K
theorem Go.iand {x y' : Int32} (hd : decode bytes pc = .ok (.iand, 1)) (q : pc + 1 = pc') (K : Go l Z y bytes mx rt R EL n0 w Q h kc ks SL pc' L (.int (x &&& y') :: S)) : Go l Z y bytes mx rt R EL n0 w Q h kc ks SL pc L (.int y' :: .int x :: S) := Go.st (fun W t kk => by obtain ⟨⟨hx, hby, -⟩, _, _, X, -⟩ := W; subst q; exact XS.iand X.here hx rfl (hb hby hd) rfl kk) K
theorem Go.ior {x y' : Int32} (hd : decode bytes pc = .ok (.ior, 1)) (q : pc + 1 = pc') (K : Go l Z y bytes mx rt R EL n0 w Q h kc ks SL pc' L (.int (x ||| y') :: S)) : Go l Z y bytes mx rt R EL n0 w Q h kc ks SL pc L (.int y' :: .int x :: S) := Go.st (fun W t kk => by obtain ⟨⟨hx, hby, -⟩, _, _, X, -⟩ := W; subst q; exact XS.ior X.here hx rfl (hb hby hd) rfl kk) K
theorem Go.ixor {x y' : Int32} (hd : decode bytes pc = .ok (.ixor, 1)) (q : pc + 1 = pc') (K : Go l Z y bytes mx rt R EL n0 w Q h kc ks SL pc' L (.int (x ^^^ y') :: S)) : Go l Z y bytes mx rt R EL n0 w Q h kc ks SL pc L (.int y' :: .int x :: S) := Go.st (fun W t kk => by obtain ⟨⟨hx, hby, -⟩, _, _, X, -⟩ := W; subst q; exact XS.ixor X.here hx rfl (hb hby hd) rfl kk) K
theorem Go.imul {x y' : Int32} (hd : decode bytes pc = .ok (.imul, 1)) (q : pc + 1 = pc') (K : Go l Z y bytes mx rt R EL n0 w Q h kc ks SL pc' L (.int (x * y') :: S)) : Go l Z y bytes mx rt R EL n0 w Q h kc ks SL pc L (.int y' :: .int x :: S) := Go.st (fun W t kk => by obtain ⟨⟨hx, hby, -⟩, _, _, X, -⟩ := W; subst q; exact XS.imul X.here hx rfl (hb hby hd) rfl kk) K
theorem Go.ishl {x y' : Int32} (hd : decode bytes pc = .ok (.ishl, 1)) (q : pc + 1 = pc') (K : Go l Z y bytes mx rt R EL n0 w Q h kc ks SL pc' L (.int (x <<< (y' &&& 31)) :: S)) : Go l Z y bytes mx rt R EL n0 w Q h kc ks SL pc L (.int y' :: .int x :: S) := Go.st (fun W t kk => by obtain ⟨⟨hx, hby, -⟩, _, _, X, -⟩ := W; subst q; exact XS.ishl X.here hx rfl (hb hby hd) rfl kk) K
theorem Go.ishr {x y' : Int32} (hd : decode bytes pc = .ok (.ishr, 1)) (q : pc + 1 = pc') (K : Go l Z y bytes mx rt R EL n0 w Q h kc ks SL pc' L (.int (x >>> (y' &&& 31)) :: S)) : Go l Z y bytes mx rt R EL n0 w Q h kc ks SL pc L (.int y' :: .int x :: S) := Go.st (fun W t kk => by obtain ⟨⟨hx, hby, -⟩, _, _, X, -⟩ := W; subst q; exact XS.ishr X.here hx rfl (hb hby hd) rfl kk) K
theorem Go.iushr {x y' : Int32} (hd : decode bytes pc = .ok (.iushr, 1)) (q : pc + 1 = pc') (K : Go l Z y bytes mx rt R EL n0 w Q h kc ks SL pc' L (.int (usr x y') :: S)) : Go l Z y bytes mx rt R EL n0 w Q h kc ks SL pc L (.int y' :: .int x :: S) := Go.st (fun W t kk => by obtain ⟨⟨hx, hby, -⟩, _, _, X, -⟩ := W; subst q; exact XS.iushr X.here hx rfl (hb hby hd) rfl kk) K
theorem Go.ladd {x y' : Int64} (hd : decode bytes pc = .ok (.ladd, 1)) (q : pc + 1 = pc') (K : Go l Z y bytes mx rt R EL n0 w Q h kc ks SL pc' L (.long (x + y') :: S)) : Go l Z y bytes mx rt R EL n0 w Q h kc ks SL pc L (.long y' :: .long x :: S) := Go.st (fun W t kk => by obtain ⟨⟨hx, hby, -⟩, _, _, X, -⟩ := W; subst q; exact XS.ladd X.here hx rfl (hb hby hd) rfl kk) K
theorem Go.lsub {x y' : Int64} (hd : decode bytes pc = .ok (.lsub, 1)) (q : pc + 1 = pc') (K : Go l Z y bytes mx rt R EL n0 w Q h kc ks SL pc' L (.long (x - y') :: S)) : Go l Z y bytes mx rt R EL n0 w Q h kc ks SL pc L (.long y' :: .long x :: S) := Go.st (fun W t kk => by obtain ⟨⟨hx, hby, -⟩, _, _, X, -⟩ := W; subst q; exact XS.lsub X.here hx rfl (hb hby hd) rfl kk) K
theorem Go.land {x y' : Int64} (hd : decode bytes pc = .ok (.land, 1)) (q : pc + 1 = pc') (K : Go l Z y bytes mx rt R EL n0 w Q h kc ks SL pc' L (.long (x &&& y') :: S)) : Go l Z y bytes mx rt R EL n0 w Q h kc ks SL pc L (.long y' :: .long x :: S) := Go.st (fun W t kk => by obtain ⟨⟨hx, hby, -⟩, _, _, X, -⟩ := W; subst q; exact XS.land X.here hx rfl (hb hby hd) rfl kk) K
theorem Go.lor {x y' : Int64} (hd : decode bytes pc = .ok (.lor, 1)) (q : pc + 1 = pc') (K : Go l Z y bytes mx rt R EL n0 w Q h kc ks SL pc' L (.long (x ||| y') :: S)) : Go l Z y bytes mx rt R EL n0 w Q h kc ks SL pc L (.long y' :: .long x :: S) := Go.st (fun W t kk => by obtain ⟨⟨hx, hby, -⟩, _, _, X, -⟩ := W; subst q; exact XS.lor X.here hx rfl (hb hby hd) rfl kk) K
theorem Go.lxor {x y' : Int64} (hd : decode bytes pc = .ok (.lxor, 1)) (q : pc + 1 = pc') (K : Go l Z y bytes mx rt R EL n0 w Q h kc ks SL pc' L (.long (x ^^^ y') :: S)) : Go l Z y bytes mx rt R EL n0 w Q h kc ks SL pc L (.long y' :: .long x :: S) := Go.st (fun W t kk => by obtain ⟨⟨hx, hby, -⟩, _, _, X, -⟩ := W; subst q; exact XS.lxor X.here hx rfl (hb hby hd) rfl kk) K
theorem Go.lmul {x y' : Int64} (hd : decode bytes pc = .ok (.lmul, 1)) (q : pc + 1 = pc') (K : Go l Z y bytes mx rt R EL n0 w Q h kc ks SL pc' L (.long (x * y') :: S)) : Go l Z y bytes mx rt R EL n0 w Q h kc ks SL pc L (.long y' :: .long x :: S) := Go.st (fun W t kk => by obtain ⟨⟨hx, hby, -⟩, _, _, X, -⟩ := W; subst q; exact XS.lmul X.here hx rfl (hb hby hd) rfl kk) K
theorem Go.irem {x y' : Int32} (hd : decode bytes pc = .ok (.irem, 1)) (hy : y' ≠ 0) (q : pc + 1 = pc') (K : Go l Z y bytes mx rt R EL n0 w Q h kc ks SL pc' L (.int (x % y') :: S)) : Go l Z y bytes mx rt R EL n0 w Q h kc ks SL pc L (.int y' :: .int x :: S) := Go.st (fun W t kk => by obtain ⟨⟨hx, hby, -⟩, _, _, X, -⟩ := W; subst q; exact iremM X hx rfl (hb hby hd) rfl hy kk) K
theorem Go.idiv {x y' : Int32} (hd : decode bytes pc = .ok (.idiv, 1)) (hy : y' ≠ 0) (q : pc + 1 = pc') (K : Go l Z y bytes mx rt R EL n0 w Q h kc ks SL pc' L (.int (x / y') :: S)) : Go l Z y bytes mx rt R EL n0 w Q h kc ks SL pc L (.int y' :: .int x :: S) := Go.st (fun W t kk => by obtain ⟨⟨hx, hby, -⟩, _, _, X, -⟩ := W; subst q; exact XS.idiv X.here hx rfl (hb hby hd) rfl hy kk) K
theorem Go.ineg {x : Int32} (hd : decode bytes pc = .ok (.ineg, 1)) (q : pc + 1 = pc') (K : Go l Z y bytes mx rt R EL n0 w Q h kc ks SL pc' L (.int (-x) :: S)) : Go l Z y bytes mx rt R EL n0 w Q h kc ks SL pc L (.int x :: S) := Go.st (fun W t kk => by obtain ⟨⟨hx, hby, -⟩, _, _, X, -⟩ := W; subst q; exact XS.ineg X.here hx rfl (hb hby hd) rfl kk) K
theorem Go.lcmp {x y' : Int64} (hd : decode bytes pc = .ok (.lcmp, 1)) (q : pc + 1 = pc') (K : Go l Z y bytes mx rt R EL n0 w Q h kc ks SL pc' L (.int (lcmpW x y') :: S)) : Go l Z y bytes mx rt R EL n0 w Q h kc ks SL pc L (.long y' :: .long x :: S) := Go.st (fun W t kk => by obtain ⟨⟨hx, hby, -⟩, _, _, X, -⟩ := W; subst q; exact XS.lcmp X.here hx rfl (hb hby hd) rfl kk) K
theorem Go.dup {x : Value} (hd : decode bytes pc = .ok (.dup, 1)) (hc : x.category = 1) (q : pc + 1 = pc') (K : Go l Z y bytes mx rt R EL n0 w Q h kc ks SL pc' L (x :: x :: S)) : Go l Z y bytes mx rt R EL n0 w Q h kc ks SL pc L (x :: S) := Go.st (fun W t kk => by obtain ⟨⟨hx, hby, -⟩, _, _, X, -⟩ := W; subst q; exact XS.dup X.here hx rfl (hb hby hd) rfl hc kk) K
theorem Go.dupX1 {x x2 : Value} (hd : decode bytes pc = .ok (.dup_x1, 1)) (hc : x.category = 1) (hc' : x2.category = 1) (q : pc + 1 = pc') (K : Go l Z y bytes mx rt R EL n0 w Q h kc ks SL pc' L (x :: x2 :: x :: S)) : Go l Z y bytes mx rt R EL n0 w Q h kc ks SL pc L (x :: x2 :: S) := Go.st (fun W t kk => by obtain ⟨⟨hx, hby, -⟩, _, _, X, -⟩ := W; subst q; exact XS.dupX1 X.here hx rfl (hb hby hd) rfl hc hc' kk) K
theorem Go.pop {x : Value} (hd : decode bytes pc = .ok (.pop, 1)) (hc : x.category = 1) (q : pc + 1 = pc') (K : Go l Z y bytes mx rt R EL n0 w Q h kc ks SL pc' L S) : Go l Z y bytes mx rt R EL n0 w Q h kc ks SL pc L (x :: S) := Go.st (fun W t kk => by obtain ⟨⟨hx, hby, -⟩, _, _, X, -⟩ := W; subst q; exact XS.pop X.here hx rfl (hb hby hd) rfl hc kk) K
theorem Go.iinc {k : Nat} {cst : Int} {x : Int32} (z : Int32) (L' : Array Slot) (hd : decode bytes pc = .ok (.iinc k cst, 3)) (hl : L[k]? = some (.val (.int x))) (hz : x + Int32.ofInt cst = z) (hl' : storeLocals L k (.int z) = some L') (q : pc + 3 = pc') (K : Go l Z y bytes mx rt R EL n0 w Q h kc ks SL pc' L' S) : Go l Z y bytes mx rt R EL n0 w Q h kc ks SL pc L S := Go.st (fun W t kk => by obtain ⟨⟨hx, hby, -⟩, _, _, X, -⟩ := W; subst q; subst hz; exact XS.iinc X.here hx rfl (hb hby hd) hl hl' kk) K
theorem Go.i2b {x : Int32} (hd : decode bytes pc = .ok (.i2b, 1)) (q : pc + 1 = pc') (K : Go l Z y bytes mx rt R EL n0 w Q h kc ks SL pc' L (.int (x.toInt8.toInt32) :: S)) : Go l Z y bytes mx rt R EL n0 w Q h kc ks SL pc L (.int x :: S) := Go.st (fun W t kk => by obtain ⟨⟨hx, hby, -⟩, _, _, X, -⟩ := W; subst q; exact XS.i2b X.here hx rfl (hb hby hd) rfl kk) K
theorem Go.i2c {x : Int32} (hd : decode bytes pc = .ok (.i2c, 1)) (q : pc + 1 = pc') (K : Go l Z y bytes mx rt R EL n0 w Q h kc ks SL pc' L (.int (nar .char x) :: S)) : Go l Z y bytes mx rt R EL n0 w Q h kc ks SL pc L (.int x :: S) := Go.st (fun W t kk => by obtain ⟨⟨hx, hby, -⟩, _, _, X, -⟩ := W; subst q; exact XS.i2c X.here hx rfl (hb hby hd) rfl kk) K
theorem Go.i2s {x : Int32} (hd : decode bytes pc = .ok (.i2s, 1)) (q : pc + 1 = pc') (K : Go l Z y bytes mx rt R EL n0 w Q h kc ks SL pc' L (.int (x.toInt16.toInt32) :: S)) : Go l Z y bytes mx rt R EL n0 w Q h kc ks SL pc L (.int x :: S) := Go.st (fun W t kk => by obtain ⟨⟨hx, hby, -⟩, _, _, X, -⟩ := W; subst q; exact XS.i2s X.here hx rfl (hb hby hd) rfl kk) K
theorem Go.i2l {x : Int32} (hd : decode bytes pc = .ok (.i2l, 1)) (q : pc + 1 = pc') (K : Go l Z y bytes mx rt R EL n0 w Q h kc ks SL pc' L (.long x.toInt64 :: S)) : Go l Z y bytes mx rt R EL n0 w Q h kc ks SL pc L (.int x :: S) := Go.st (fun W t kk => by obtain ⟨⟨hx, hby, -⟩, _, _, X, -⟩ := W; subst q; exact XS.i2l X.here hx rfl (hb hby hd) rfl kk) K
theorem Go.l2i {x : Int64} (hd : decode bytes pc = .ok (.l2i, 1)) (q : pc + 1 = pc') (K : Go l Z y bytes mx rt R EL n0 w Q h kc ks SL pc' L (.int x.toInt32 :: S)) : Go l Z y bytes mx rt R EL n0 w Q h kc ks SL pc L (.long x :: S) := Go.st (fun W t kk => by obtain ⟨⟨hx, hby, -⟩, _, _, X, -⟩ := W; subst q; exact XS.l2i X.here hx rfl (hb hby hd) rfl kk) K
theorem Go.goto {o : Int} (hd : decode bytes pc = .ok (.goto o, 3)) (ho : 0 ≤ (pc : Int) + o) (hp : ((pc : Int) + o).toNat = pc') (K : Go l Z y bytes mx rt R EL n0 w Q h kc ks SL pc' L S) : Go l Z y bytes mx rt R EL n0 w Q h kc ks SL pc L S := Go.st (fun W t kk => by obtain ⟨⟨hx, hby, -⟩, _, _, X, -⟩ := W; exact XS.goto X.here hx rfl rfl (hb hby hd) ho hp kk) K
theorem Go.ifT {cd : ClassFile.Cond} {x : Int32} {o : Int} (hd : decode bytes pc = .ok (.ifCond cd o, 3)) (hc : cP cd x 0) (ho : 0 ≤ (pc : Int) + o) (hp : ((pc : Int) + o).toNat = pc') (K : Go l Z y bytes mx rt R EL n0 w Q h kc ks SL pc' L S) : Go l Z y bytes mx rt R EL n0 w Q h kc ks SL pc L (.int x :: S) := Go.st (fun W t kk => by obtain ⟨⟨hx, hby, -⟩, _, _, X, -⟩ := W; exact XS.ifYes X.here hx rfl rfl (hb hby hd) rfl (if_t hc) ho hp kk) K
theorem Go.ifF {cd : ClassFile.Cond} {x : Int32} {o : Int} (hd : decode bytes pc = .ok (.ifCond cd o, 3)) (hc : cP (cneg cd) x 0) (q : pc + 3 = pc') (K : Go l Z y bytes mx rt R EL n0 w Q h kc ks SL pc' L S) : Go l Z y bytes mx rt R EL n0 w Q h kc ks SL pc L (.int x :: S) := Go.st (fun W t kk => by obtain ⟨⟨hx, hby, -⟩, _, _, X, -⟩ := W; subst q; exact XS.ifNo X.here hx rfl (hb hby hd) rfl (if_f hc) kk) K
theorem Go.icmpT {cd : ClassFile.Cond} {x x2 : Int32} {o : Int} (hd : decode bytes pc = .ok (.if_icmp cd o, 3)) (hc : cP cd x x2) (ho : 0 ≤ (pc : Int) + o) (hp : ((pc : Int) + o).toNat = pc') (K : Go l Z y bytes mx rt R EL n0 w Q h kc ks SL pc' L S) : Go l Z y bytes mx rt R EL n0 w Q h kc ks SL pc L (.int x2 :: .int x :: S) := Go.st (fun W t kk => by obtain ⟨⟨hx, hby, -⟩, _, _, X, -⟩ := W; exact XS.icmpYes X.here hx rfl rfl (hb hby hd) rfl (ic_t hc) ho hp kk) K
theorem Go.icmpF {cd : ClassFile.Cond} {x x2 : Int32} {o : Int} (hd : decode bytes pc = .ok (.if_icmp cd o, 3)) (hc : cP (cneg cd) x x2) (q : pc + 3 = pc') (K : Go l Z y bytes mx rt R EL n0 w Q h kc ks SL pc' L S) : Go l Z y bytes mx rt R EL n0 w Q h kc ks SL pc L (.int x2 :: .int x :: S) := Go.st (fun W t kk => by obtain ⟨⟨hx, hby, -⟩, _, _, X, -⟩ := W; subst q; exact XS.icmpNo X.here hx rfl (hb hby hd) rfl (ic_f hc) kk) K
theorem Go.ifnullT {o : Int} (hd : decode bytes pc = .ok (.ifnull o, 3)) (ho : 0 ≤ (pc : Int) + o) (hp : ((pc : Int) + o).toNat = pc') (K : Go l Z y bytes mx rt R EL n0 w Q h kc ks SL pc' L S) : Go l Z y bytes mx rt R EL n0 w Q h kc ks SL pc L (.null :: S) := Go.st (fun W t kk => by obtain ⟨⟨hx, hby, -⟩, _, _, X, -⟩ := W; exact XS.ifnullYes X.here hx rfl rfl (hb hby hd) rfl ho hp kk) K
theorem Go.ifnullF {o : Int} {b : Addr} (hd : decode bytes pc = .ok (.ifnull o, 3)) (q : pc + 3 = pc') (K : Go l Z y bytes mx rt R EL n0 w Q h kc ks SL pc' L S) : Go l Z y bytes mx rt R EL n0 w Q h kc ks SL pc L (.ref b :: S) := Go.st (fun W t kk => by obtain ⟨⟨hx, hby, -⟩, _, _, X, -⟩ := W; subst q; exact XS.ifnullNo X.here hx rfl (hb hby hd) rfl kk) K
theorem Go.ifnonnullT {o : Int} {b : Addr} (hd : decode bytes pc = .ok (.ifnonnull o, 3)) (ho : 0 ≤ (pc : Int) + o) (hp : ((pc : Int) + o).toNat = pc') (K : Go l Z y bytes mx rt R EL n0 w Q h kc ks SL pc' L S) : Go l Z y bytes mx rt R EL n0 w Q h kc ks SL pc L (.ref b :: S) := Go.st (fun W t kk => by obtain ⟨⟨hx, hby, -⟩, _, _, X, -⟩ := W; exact XS.ifnonnullYes X.here hx rfl rfl (hb hby hd) rfl ho hp kk) K
theorem Go.ifnonnullF {o : Int} (hd : decode bytes pc = .ok (.ifnonnull o, 3)) (q : pc + 3 = pc') (K : Go l Z y bytes mx rt R EL n0 w Q h kc ks SL pc' L S) : Go l Z y bytes mx rt R EL n0 w Q h kc ks SL pc L (.null :: S) := Go.st (fun W t kk => by obtain ⟨⟨hx, hby, -⟩, _, _, X, -⟩ := W; subst q; exact XS.ifnonnullNo X.here hx rfl (hb hby hd) rfl kk) K
theorem Go.acmp {cd : ClassFile.ACond} {x x2 : Value} {o : Int} (same : Bool) (hd : decode bytes pc = .ok (.if_acmp cd o, 3)) (h1 : x.isRef = true) (h2 : x2.isRef = true) (hq : decide (x = x2) = same) (ho : 0 ≤ (pc : Int) + o) (hp : pc' = if acV cd same = true then ((pc : Int) + o).toNat else pc + 3) (K : Go l Z y bytes mx rt R EL n0 w Q h kc ks SL pc' L S) : Go l Z y bytes mx rt R EL n0 w Q h kc ks SL pc L (x2 :: x :: S) := Go.st (fun W t kk => by obtain ⟨⟨hx, hby, -⟩, _, _, X, -⟩ := W; exact RoadKit.acmp X hx rfl h1 h2 rfl (hb hby hd) rfl hq ho hp kk) K
theorem Go.st1 {n : Nat} (q : pc + n = pc') (hst : ∀ {p : Program} {e : Env} {s : State} {m : MethodId} {args : Array Value} {below : List Frame} {meth : Method} {c : Code} {T : State} {locs : List Loc}, Stand p l e R (s.setVm T.vm) m args below meth c T locs kc ks → T.heap = h → p.tables.exec = Jvm.exec → c.code = bytes → Z.Warmed39 T.vm → T.vm.findClass y.cls = some m.cls → ∀ t, Steps p.tables e below (T.setTop (mkF m (pc + n) L' S')) t → Steps p.tables e below (T.setTop (mkF m pc L S)) t)
    (K : Go l Z y bytes mx rt R EL n0 w Q h kc ks SL pc' L' S') : Go l Z y bytes mx rt R EL n0 w Q h kc ks SL pc L S := by
  subst q
  exact Go.st (fun W t kk => by
    obtain ⟨⟨hx, hby, -⟩, _, _, X, e1, -, -, hZ, hown, -⟩ := W
    exact hst X e1 hx hby hZ hown t kk) K
/-- both ways of a branch -/
theorem Go.icmp {cd : ClassFile.Cond} {x x2 : Int32} {o : Int} (hd : decode bytes pc = .ok (.if_icmp cd o, 3)) (ho : 0 ≤ (pc : Int) + o) (hp : ((pc : Int) + o).toNat = pc') (q : pc + 3 = pc'') (Kt : cP cd x x2 → Go l Z y bytes mx rt R EL n0 w Q h kc ks SL pc' L S) (Kf : cP (cneg cd) x x2 → Go l Z y bytes mx rt R EL n0 w Q h kc ks SL pc'' L S) : Go l Z y bytes mx rt R EL n0 w Q h kc ks SL pc L (.int x2 :: .int x :: S) :=
  (cP_em cd x x2).elim (fun hc => Go.icmpT hd hc ho hp (Kt hc)) (fun hc => Go.icmpF hd hc q (Kf hc))
theorem Go.ifc {cd : ClassFile.Cond} {x : Int32} {o : Int} (hd : decode bytes pc = .ok (.ifCond cd o, 3)) (ho : 0 ≤ (pc : Int) + o) (hp : ((pc : Int) + o).toNat = pc') (q : pc + 3 = pc'') (Kt : cP cd x 0 → Go l Z y bytes mx rt R EL n0 w Q h kc ks SL pc' L S) (Kf : cP (cneg cd) x 0 → Go l Z y bytes mx rt R EL n0 w Q h kc ks SL pc'' L S) : Go l Z y bytes mx rt R EL n0 w Q h kc ks SL pc L (.int x :: S) :=
  (cP_em cd x 0).elim (fun hc => Go.ifT hd hc ho hp (Kt hc)) (fun hc => Go.ifF hd hc q (Kf hc))
theorem Go.ldcI {index : Nat} {z : Int32} (hd : decode bytes pc = .ok (.ldc index, 2)) (wd : (Jvm.Cond.constant y.cls index z).before a1 Z = true) (q : pc + 2 = pc') (K : Go l Z y bytes mx rt R EL n0 w Q h kc ks SL pc' L (.int z :: S)) : Go l Z y bytes mx rt R EL n0 w Q h kc ks SL pc L S :=
  Go.st1 q (fun X e1 hx hby hZ hown t kk => X.ldcInt hx hown (mv (s := State.setVm _ _) hZ wd) (g := mkF _ pc L S) rfl (hb hby hd) t kk) K
theorem Go.ldc2J {index : Nat} {z : Int64} (hd : decode bytes pc = .ok (.ldc2_w index, 3)) (wd : (Jvm.Cond.constantLong y.cls index z).before a1 Z = true) (q : pc + 3 = pc') (K : Go l Z y bytes mx rt R EL n0 w Q h kc ks SL pc' L (.long z :: S)) : Go l Z y bytes mx rt R EL n0 w Q h kc ks SL pc L S :=
  Go.st1 q (fun X e1 hx hby hZ hown t kk => X.ldc2Long hx hown (mv (s := State.setVm _ _) hZ wd) (g := mkF _ pc L S) rfl (hb hby hd) t kk) K
theorem Go.getF {R0 O n d host : String} {index : Nat} {a : Addr} {v : Value} (hd : decode bytes pc = .ok (.getfield index, 3)) (wd : (Jvm.Cond.fieldLink y.cls index R0 n d).before a1 Z = true ∨ (Jvm.Cond.fieldLinkNest y.cls index R0 n d host).before a1 Z = true) (via : Via Z R0 O n d) (F : Fld Z h a O n d v) (q : pc + 3 = pc')
    (K : Go l Z y bytes mx rt R EL n0 w Q h kc ks SL pc' L (v :: S)) : Go l Z y bytes mx rt R EL n0 w Q h kc ks SL pc L (.ref a :: S) := by
  intro p e s m args below meth c T W
  subst q
  have W0 := W
  obtain ⟨⟨hx, hby, -⟩, k0, locs, X, e1, -, -, hZ, hown, hC, N, -, hSf⟩ := W
  obtain ⟨T', X', e', st⟩ := RoadKit.getF X hx hZ hown wd via e1 F (g := mkF m pc L (.ref a :: S)) rfl rfl (hb hby hd)
  obtain ⟨s₂, o, st2, r⟩ := K p e s m args below meth c T' (W0.next X' e' (CHr.refl hC.1) N hSf)
  exact ⟨s₂, o, st _ st2, r⟩
theorem Go.getS {R0 O n d host : String} {index : Nat} {v : Value} (hd : decode bytes pc = .ok (.getstatic index, 3)) (wd : (Jvm.Cond.fieldLink y.cls index R0 n d).before a1 Z = true ∨ (Jvm.Cond.fieldLinkNest y.cls index R0 n d host).before a1 Z = true) (via : Via Z R0 O n d) (F : Sta Z h O n d v) (q : pc + 3 = pc')
    (K : Go l Z y bytes mx rt R EL n0 w Q h kc ks SL pc' L (v :: S)) : Go l Z y bytes mx rt R EL n0 w Q h kc ks SL pc L S := by
  intro p e s m args below meth c T W
  subst q
  have W0 := W
  obtain ⟨⟨hx, hby, -⟩, k0, locs, X, e1, -, -, hZ, hown, hC, N, -, hSf⟩ := W
  obtain ⟨T', X', e', st⟩ := RoadKit.getS2 X hx hZ hown wd via e1 F (g := mkF m pc L S) rfl (hb hby hd)
  obtain ⟨s₂, o, st2, r⟩ := K p e s m args below meth c T' (W0.next X' e' (CHr.refl hC.1) N hSf)
  exact ⟨s₂, o, st _ st2, r⟩
/-- the cell at a is no literal's -/
def Sf (Z : State) (EL : List (String × Nat)) (SL : List Addr) (h : Heap) (a : Addr) : Prop := ∀ vm, Z.Warmed39 vm → Sfs Z EL vm h SL → Safe Z EL vm h a
theorem Sf.exa {a : Addr} {C : String} (E : Exa Z h a C) (h1 : C ≠ "java/lang/String") (h2 : C ≠ "[B") : Sf Z EL SL h a := fun vm hZ _ => Safe.exa hZ.alike E h1 h2
theorem Sf.mem {a : Addr} (hm : a ∈ SL) : Sf Z EL SL h a := fun vm _ F => (F a hm).2
theorem Sf.nil {a : Addr} : Sf Z [] SL h a := fun vm _ _ B => by obtain ⟨p, hp, -⟩ := B; cases hp
theorem Sf.arr {a : Addr} {cl : Cell} {ty : FieldType} (A : Arr Z h a cl ty) (ht : ty ≠ .byte) : Sf Z EL SL h a := fun vm hZ _ => Safe.arr hZ.alike A ht
theorem Go.putF {R0 O n d host C : String} {index kk : Nat} {ty : FieldType} {a : Addr} {v old : Value} (hd : decode bytes pc = .ok (.putfield index, 3)) (wd : (Jvm.Cond.fieldLink y.cls index R0 n d).before a1 Z = true ∨ (Jvm.Cond.fieldLinkNest y.cls index R0 n d host).before a1 Z = true) (via : Via Z R0 O n d) (F : Fld Z h a O n d old) (E : Exa Z h a C)
    (Ly : (Jvm.Cond.lays C O n d).before a1 Z = true ∨ ((Jvm.Cond.laysFinal C O n d).before a1 Z = true ∧ y.cls = O ∧ y.name = "<init>")) (wi : (Jvm.Cond.instantiable C kk).before a1 Z = true) (hty : parseFieldDescriptor d = some ty) (hn : narrow ty v = v) (hf : fits ty v = true) (hsafe : Sf Z EL SL h a) (ha : n0 ≤ a) (q : pc + 3 = pc')
    (K : ∀ h', Wr h h' a (RoadKit.slotOf Z O n d) v → Go l Z y bytes mx rt R EL n0 w Q h' kc ks SL pc' L S) : Go l Z y bytes mx rt R EL n0 w Q h kc ks SL pc L (v :: .ref a :: S) := by
  intro p e s m args below meth c T W
  subst q
  have W0 := W
  obtain ⟨⟨hx, hby, -, -, -, hnm, -⟩, k0, locs, X, e1, -, -, hZ, hown, hC, N, -, hSf⟩ := W
  obtain ⟨T', h', X', e', Wr', st⟩ := RoadKit.putF X hx hZ hown wd via e1 F E (Ly.imp id fun q => ⟨q.1, q.2.1, hnm.trans q.2.2⟩) wi hty hn hf (g := mkF m pc L (v :: .ref a :: S)) rfl rfl (hb hby hd)
  have A := CHr.wr Wr' (hsafe _ hZ hSf) hC.1
  obtain ⟨s₂, o, st2, r⟩ := K h' Wr' p e s m args below meth c T' (W0.next X' e' A (Fr.snoc X' N ha) (hSf.chr A))
  exact ⟨s₂, o, st _ st2, r⟩
theorem Go.newO {C : String} {index n : Nat} (hd : decode bytes pc = .ok (.new index, 3)) (wd : (Jvm.Cond.classLink y.cls index C).before a1 Z = true) (wi : (Jvm.Cond.instantiable C n).before a1 Z = true) (wz : (Jvm.Cond.initialized C).before a1 Z = true) (hc : kc + 1 ≤ R.cells) (hl : ks + n ≤ R.slots) (q : pc + 3 = pc')
    (K : ∀ (a : Addr) (h' : Heap), a = h.size → Ext h h' → Exa Z h' a C → (∀ {O nm d : String} {ty : FieldType}, Laid Z a1 C O nm d → parseFieldDescriptor d = some ty → Fld Z h' a O nm d (defaultValue ty)) → Go l Z y bytes mx rt R EL n0 w Q h' (kc + 1) (ks + n) (a :: SL) pc' L (.ref a :: S)) : Go l Z y bytes mx rt R EL n0 w Q h kc ks SL pc L S := by
  intro p e s m args below meth c T W
  subst q
  have W0 := W
  obtain ⟨⟨hx, hby, -⟩, k0, locs, X, e1, -, -, hZ, hown, hC, N, -, hSf⟩ := W
  obtain ⟨T', h', X', e', E, A, D, -, st⟩ := RoadKit.newO X hx hZ hown wd wi wz e1 (g := mkF m pc L S) rfl (hb hby hd) hc hl
  have B := CHr.ext (vm := T.vm) (EL := EL) (Z := Z) E hC.1
  have hS2 : Sfs Z EL T.vm h' (h.size :: SL) := fun x hx' => by
    rcases List.mem_cons.mp hx' with rfl | q
    · exact ⟨A.lt, Safe.ext E hC.1 (Safe.new (Nat.le_refl _))⟩
    · exact hSf.chr B x q
  obtain ⟨s₂, o, st2, r⟩ := K h.size h' rfl E A D p e s m args below meth c T' (W0.next X' e' B N hS2)
  exact ⟨s₂, o, st _ st2, r⟩
theorem Go.newP {aty : ArrayType} {n : Int32} (cap : Nat) (hd : decode bytes pc = .ok (.newarray aty, 2)) (wd : (Jvm.Cond.arrayClass (newarray.typeOf aty)).before a1 Z = true) (hn : ¬ n < 0) (hcap : n.toNatClampNeg ≤ cap) (hb' : cap * 8 ≤ 536870912) (hc : kc + 1 ≤ R.cells) (hl : ks + cap ≤ R.slots) (q : pc + 2 = pc')
    (K : ∀ (a : Addr) (h' : Heap) (cA : ClassId), a = h.size → Ext h h' → Arr Z h' a (newA cA (newarray.typeOf aty) n) (newarray.typeOf aty) → Go l Z y bytes mx rt R EL n0 w Q h' (kc + 1) (ks + cap) (a :: SL) pc' L (.ref a :: S)) : Go l Z y bytes mx rt R EL n0 w Q h kc ks SL pc L (.int n :: S) := by
  intro p e s m args below meth c T W
  subst q
  have W0 := W
  obtain ⟨⟨hx, hby, -⟩, k0, locs, X, e1, -, -, hZ, hown, hC, N, -, hSf⟩ := W
  obtain ⟨T', h', cA, X', e', E, A, st⟩ := RoadKit.newP X hx hZ wd e1 (g := mkF m pc L (.int n :: S)) rfl (hb hby hd) rfl hn hcap hb' hc hl
  have B := CHr.ext (vm := T.vm) (EL := EL) (Z := Z) E hC.1
  have hS2 : Sfs Z EL T.vm h' (h.size :: SL) := fun x hx' => by
    rcases List.mem_cons.mp hx' with rfl | q
    · exact ⟨A.lt, Safe.ext E hC.1 (Safe.new (Nat.le_refl _))⟩
    · exact hSf.chr B x q
  obtain ⟨s₂, o, st2, r⟩ := K h.size h' cA rfl E A p e s m args below meth c T' (W0.next X' e' B N hS2)
  exact ⟨s₂, o, st _ st2, r⟩
theorem Go.initO {index : Nat} {a : Addr} (hd : decode bytes pc = .ok (.invokespecial index, 3)) (w1 : (Jvm.Cond.methodLink y.cls index Lib.objectInit).before a1 Z = true) (w2 : (Jvm.Cond.instanceMethod Lib.objectInit).before a1 Z = true) (w3 : (Jvm.Cond.code Lib.objectInit ⟨#[0xb1]⟩ 1 none).before a1 Z = true) (hL : L.size = mx) (hf : 1 ≤ R.frames) (Wd : Nat) (hW : (S.map fun v => v.category).sum = Wd) (hl : Wd + 12 ≤ R.locals) (q : pc + 3 = pc')
    (K : Go l Z y bytes mx rt R EL n0 w Q h kc ks SL pc' L S) : Go l Z y bytes mx rt R EL n0 w Q h kc ks SL pc L (.ref a :: S) := by
  intro p e s m args below meth c T W
  subst q
  have W0 := W
  obtain ⟨⟨hx, hby, hml, -⟩, k0, locs, X, e1, -, -, hZ, hown, hC, N, -, hSf⟩ := W
  obtain ⟨T', X', e', st⟩ := RoadKit.initO X hx hZ hown w1 w2 w3 e1 (g := mkF m pc L (.ref a :: S)) rfl (hL.trans hml.symm) rfl (hb hby hd) hf (W := Wd) (by show 2 * 0 + _ ≤ _; omega) hl
  obtain ⟨s₂, o, st2, r⟩ := K p e s m args below meth c T' (W0.next X' e' (CHr.refl hC.1) N hSf)
  exact ⟨s₂, o, st _ st2, r⟩
/-- a String constant, unread -/
theorem Go.ldcO {index : Nat} {text : String} (n : Nat) (hd : decode bytes pc = .ok (.ldc index, 2)) (hw : w = true) (wd : (Jvm.Cond.stringLink y.cls index text).before a1 Z = true) (wS : ∀ d ∈ Bundle.stringAtoms, d.before a1 Z = true) (hn : 4 * text.toList.length ≤ n) (hbig : n ≤ 536870912) (hc : kc + 2 ≤ R.cells) (hl : ks + (n + 4) ≤ R.slots) (q : pc + 2 = pc') (hEL : EW Z a1 EL)
    (K : ∀ (a : Addr) (h' : Heap), Ext h h' → Go l Z y bytes mx rt R EL n0 w Q h' (kc + 2) (ks + (n + 4)) SL pc' L (.ref a :: S)) : Go l Z y bytes mx rt R EL n0 w Q h kc ks SL pc L S := by
  intro p e s m args below meth c T W
  subst q
  have W0 := W
  obtain ⟨⟨hx, hby, -⟩, k0, locs, X, e1, hS, hk, hZ, hown, hC, N, -, hSf⟩ := W
  obtain ⟨a, T', h', k1, X', e', E, hS', hk', hZ', hown', hC', -, st⟩ := RoadKit.ldcOH (s := s.setVm T.vm) (vm0 := T.vm) X hx hZ hown wd wS e1 (k0 := h.size) ((State.WarmedH.refl _).since _) (Nat.le_refl _) hEL hC.1 (g := mkF m pc L S) rfl (hb hby hd) hn hbig hc hl
  have hS2 : (s.setVm T.vm).Since T'.vm h'.size := ⟨hS'.1, fun j p hj hp => by obtain ⟨z1, z2⟩ := hS'.2 j p hj hp; exact ⟨z1, Nat.lt_of_lt_of_le z2 hk'⟩⟩
  obtain ⟨s₂, o, st2, r⟩ := K a h' E p e s m args below meth c T' (W0.nextS X' e' hS2 E.1 (Nat.le_refl _) hC' N (fun q => by rw [hw] at q; cases q) (hSf.chr hC'))
  exact ⟨s₂, o, st _ st2, r⟩
/-- a String constant, read -/
theorem Go.ldcR {index : Nat} {text : String} (n : Nat) {vs : List Value} {z : Int32} (hd : decode bytes pc = .ok (.ldc index, 2)) (hw : w = true) (wd : (Jvm.Cond.stringLink y.cls index text).before a1 Z = true) (wS : ∀ d ∈ Bundle.stringAtoms, d.before a1 Z = true) (hn : 4 * text.toList.length ≤ n) (hbig : n ≤ 536870912) (hc : kc + 2 ≤ R.cells) (hl : ks + (n + 4) ≤ R.slots) (q : pc + 2 = pc') (hEL : EW Z a1 EL) (hmem : (y.cls, index) ∈ EL)
    (ht : (∀ c ∈ text.toList, c.toNat < 256) ∧ text.toList.map (fun c => Value.int (Jvm.Lit.byteI c.toNat.toUInt16)) = vs) (hz : ¬ z < 0) (hzl : z.toNatClampNeg = vs.length)
    (K : ∀ (a : Addr) (h' : Heap) (b : Addr) (k : ClassId), Ext h h' → Exa Z h' a "java/lang/String" → Fld Z h' a "java/lang/String" "coder" "B" (.int 0) → Fld Z h' a "java/lang/String" "value" "[B" (.ref b) → Arv Z h' b k .byte z vs (.int 0) → (∀ x ∈ SL, x ≠ a ∧ x ≠ b) → Go l Z y bytes mx rt R EL n0 w Q h' (kc + 2) (ks + (n + 4)) SL pc' L (.ref a :: S)) : Go l Z y bytes mx rt R EL n0 w Q h kc ks SL pc L S := by
  intro p e s m args below meth c T W
  subst q
  have W0 := W
  obtain ⟨⟨hx, hby, -⟩, k0, locs, X, e1, hS, hk, hZ, hown, hC, N, -, hSf⟩ := W
  obtain ⟨a, T', h', k1, b, k, X', e', E, hS', hk', hZ', hown', E1, E2, E3, E4, -, -, hC', -, hne, st⟩ := RoadKit.ldcCH (s := s.setVm T.vm) (vm0 := T.vm) X hx hZ hown wd wS e1 (k0 := h.size) ((State.WarmedH.refl _).since _) (Nat.le_refl _) hEL hmem hC.1 ht hz hzl (g := mkF m pc L S) rfl (hb hby hd) hn hbig hc hl
  have hS2 : (s.setVm T.vm).Since T'.vm h'.size := ⟨hS'.1, fun j p hj hp => by obtain ⟨z1, z2⟩ := hS'.2 j p hj hp; exact ⟨z1, Nat.lt_of_lt_of_le z2 hk'⟩⟩
  obtain ⟨s₂, o, st2, r⟩ := K a h' b k E E1 E2 E3 E4 (fun x hx' => hne x ((hSf.chr hC') x hx').2) p e s m args below meth c T' (W0.nextS X' e' hS2 E.1 (Nat.le_refl _) hC' N (fun q => by rw [hw] at q; cases q) (hSf.chr hC'))
  exact ⟨s₂, o, st _ st2, r⟩
section Calls
variable {z yy : MethodName} {bytesZ : ByteArray} {mxZ : Nat} {rtZ : Option FieldType} {rm : Room} {QZ : Option Value → Heap → List Addr → Prop} {argsL rest : List Value} {index : Nat}
theorem Go.callS (hM : Ct l Z z bytesZ mxZ rtZ rm EL n0 w [] argsL.toArray h SL' QZ) (hd : decode bytes pc = .ok (.invokestatic index, 3)) (w1 : (Jvm.Cond.methodLink y.cls index z).before a1 Z = true) (w2 : (Jvm.Cond.static z).before a1 Z = true) (w3 : (Jvm.Cond.initialized z.cls).before a1 Z = true) (w4 : (Jvm.Cond.code z bytesZ mxZ rtZ).before a1 Z = true)
    (hy : z.cls ≠ "java/lang/invoke/MethodHandle" ∧ z.cls ≠ "java/lang/invoke/VarHandle") (hlen : ∀ sig, parseMethodDescriptor z.desc = some sig → argsL.length = sig.parameters.length) (hst : S = argsL.reverse ++ rest) (Wd : Nat) (hW : (rest.map fun v => v.category).sum = Wd) (hL : L.size = mx) (hf : rm.frames + 1 ≤ R.frames) (hl : Wd + (mxZ + 11) + rm.locals ≤ R.locals) (hc : kc + rm.cells ≤ R.cells) (hs : ks + rm.slots ≤ R.slots) (hSL : ∀ x ∈ SL', x ∈ SL) (q : pc + 3 = pc')
    (K : ∀ v h' N, QZ v h' N → h.size ≤ h'.size → Go l Z y bytes mx rt R EL n0 w Q h' (kc + rm.cells) (ks + rm.slots) (N ++ SL) pc' L (v.toList ++ rest)) : Go l Z y bytes mx rt R EL n0 w Q h kc ks SL pc L S := by
  intro p e s m args below meth c T W
  subst q
  have W0 := W
  obtain ⟨⟨hx, hby, hml, -, -, -, a2, hEW⟩, k0, locs, X, e1, hS, hk, hZ, hown, hC, N, -, hSf⟩ := W
  obtain ⟨v, vm₁, ⟨T', Lt, kt, nt⟩, -, X', hS', hgr, ⟨Ls, N', hQ, hFr, l1, l2, l3, hC', hSf', hw'⟩, st⟩ := RoadKit.callSS X hx hown (mvT (s := s.setVm T.vm) hZ w1) (mvT (s := s.setVm T.vm) hZ w2) (mvT (s := s.setVm T.vm) hZ w3) (mvT (s := s.setVm T.vm) hZ w4) hy (Ct.pay (W := Wd) hM hZ hEW hC.1 (hSf.mono hSL) w4 w3 hf hl) (g := mkF m pc L S) rfl (hL.trans hml.symm) (argsL := argsL) (rest := rest) hlen hst (by show 2 * 0 + _ ≤ _; omega) (hb hby hd) (fun _ _ => ⟨rfl, e1, hc, hs⟩)
  dsimp only [Pt.U, Pt.locs, Pt.cells, Pt.slots] at X' l1 l2 l3 st hQ hC' hSf' hw' hgr hS'
  subst l1 l2 l3
  have hS2 : Sfs Z EL T'.vm T'.heap (N' ++ SL) := fun x hx' => (List.mem_append.mp hx').elim (hSf' x) (hSf.chr hC' x)
  obtain ⟨s₂, o, st2, r⟩ := K v _ N' hQ hC'.2.1 p e s m args below meth c T' (W0.nextS X' rfl hS' hC'.2.1 (Nat.le_refl _) hC' (N.app hFr) hw' hS2)
  exact ⟨s₂, o, st.trans st2, r⟩
theorem Go.callN {a : Addr} (hM : Ct l Z z bytesZ mxZ none rm EL n0 w [] (.ref a :: argsL).toArray h SL' QZ) (hd : decode bytes pc = .ok (.invokespecial index, 3)) (hz1 : z.name = "<init>") (w1 : (Jvm.Cond.methodLink y.cls index z).before a1 Z = true) (w2 : (Jvm.Cond.instanceMethod z).before a1 Z = true) (w3 : (Jvm.Cond.initialized z.cls).before a1 Z = true) (w4 : (Jvm.Cond.code z bytesZ mxZ none).before a1 Z = true)
    (hy : z.cls ≠ "java/lang/invoke/MethodHandle" ∧ z.cls ≠ "java/lang/invoke/VarHandle") (hlen : ∀ sig, parseMethodDescriptor z.desc = some sig → argsL.length = sig.parameters.length) (hst : S = argsL.reverse ++ .ref a :: rest) (Wd : Nat) (hW : (rest.map fun v => v.category).sum = Wd) (hL : L.size = mx) (hf : rm.frames + 1 ≤ R.frames) (hl : Wd + (mxZ + 11) + rm.locals ≤ R.locals) (hc : kc + rm.cells ≤ R.cells) (hs : ks + rm.slots ≤ R.slots) (hSL : ∀ x ∈ SL', x ∈ SL) (q : pc + 3 = pc')
    (K : ∀ v h' N, QZ v h' N → h.size ≤ h'.size → Go l Z y bytes mx rt R EL n0 w Q h' (kc + rm.cells) (ks + rm.slots) (N ++ SL) pc' L (v.toList ++ rest)) : Go l Z y bytes mx rt R EL n0 w Q h kc ks SL pc L S := by
  intro p e s m args below meth c T W
  subst q
  have W0 := W
  obtain ⟨⟨hx, hby, hml, -, -, -, a2, hEW⟩, k0, locs, X, e1, hS, hk, hZ, hown, hC, N, -, hSf⟩ := W
  obtain ⟨v, vm₁, ⟨T', Lt, kt, nt⟩, -, X', hS', hgr, ⟨Ls, N', hQ, hFr, l1, l2, l3, hC', hSf', hw'⟩, st⟩ := X.specialBackS hx hz1 hown (mvT (s := s.setVm T.vm) hZ w1) (mvT (s := s.setVm T.vm) hZ w2) (mvT (s := s.setVm T.vm) hZ w4) hy (Ct.pay (W := Wd) hM hZ hEW hC.1 (hSf.mono hSL) w4 w3 hf hl) (g := mkF m pc L S) rfl (hL.trans hml.symm) (Steps.refl _) (a := a) (argsL := argsL) (rest := rest) hlen hst (by show 2 * 0 + _ ≤ _; omega) (hb hby hd) (fun _ _ => ⟨rfl, e1, hc, hs⟩)
  dsimp only [Pt.U, Pt.locs, Pt.cells, Pt.slots] at X' l1 l2 l3 st hQ hC' hSf' hw' hgr hS'
  subst l1 l2 l3
  have hS2 : Sfs Z EL T'.vm T'.heap (N' ++ SL) := fun x hx' => (List.mem_append.mp hx').elim (hSf' x) (hSf.chr hC' x)
  obtain ⟨s₂, o, st2, r⟩ := K v _ N' hQ hC'.2.1 p e s m args below meth c T' (W0.nextS X' rfl hS' hC'.2.1 (Nat.le_refl _) hC' (N.app hFr) hw' hS2)
  exact ⟨s₂, o, st.trans st2, r⟩
theorem Go.callV {a : Addr} {C : String} (hM : Ct l Z z bytesZ mxZ rtZ rm EL n0 w [] (.ref a :: argsL).toArray h SL' QZ) (hd : decode bytes pc = .ok (.invokevirtual index, 3)) (w1 : (Jvm.Cond.methodLink y.cls index yy).before a1 Z = true) (wdec : (Jvm.Cond.declares yy).before a1 Z = true) (wnf : (Jvm.Cond.selects yy.cls yy yy).before a1 Z = true) (wsel : (Jvm.Cond.selects C yy z).before a1 Z = true) (w2 : (Jvm.Cond.instanceMethod z).before a1 Z = true) (w3 : (Jvm.Cond.initialized z.cls).before a1 Z = true) (w4 : (Jvm.Cond.code z bytesZ mxZ rtZ).before a1 Z = true) (E : Exa Z h a C)
    (hy : yy.cls ≠ "java/lang/invoke/MethodHandle" ∧ yy.cls ≠ "java/lang/invoke/VarHandle") (hlen : ∀ sig, parseMethodDescriptor yy.desc = some sig → argsL.length = sig.parameters.length) (hst : S = argsL.reverse ++ .ref a :: rest) (Wd : Nat) (hW : (rest.map fun v => v.category).sum = Wd) (hL : L.size = mx) (hf : rm.frames + 1 ≤ R.frames) (hl : Wd + (mxZ + 11) + rm.locals ≤ R.locals) (hc : kc + rm.cells ≤ R.cells) (hs : ks + rm.slots ≤ R.slots) (hSL : ∀ x ∈ SL', x ∈ SL) (q : pc + 3 = pc')
    (K : ∀ v h' N, QZ v h' N → h.size ≤ h'.size → Go l Z y bytes mx rt R EL n0 w Q h' (kc + rm.cells) (ks + rm.slots) (N ++ SL) pc' L (v.toList ++ rest)) : Go l Z y bytes mx rt R EL n0 w Q h kc ks SL pc L S := by
  intro p e s m args below meth c T W
  subst q
  have W0 := W
  obtain ⟨⟨hx, hby, hml, -, -, -, a2, hEW⟩, k0, locs, X, e1, hS, hk, hZ, hown, hC, N, -, hSf⟩ := W
  obtain ⟨cq, kq, qa, qb, qc⟩ := isOf (s := s.setVm T.vm) hZ e1 E
  obtain ⟨v, vm₁, ⟨T', Lt, kt, nt⟩, -, X', hS', hgr, ⟨Ls, N', hQ, hFr, l1, l2, l3, hC', hSf', hw'⟩, st⟩ := X.virtualBackS hx hown (mvT (s := s.setVm T.vm) hZ w1) (mvT (s := s.setVm T.vm) hZ wdec) (notFace_of_selects (args := #[]) (mvT (s := s.setVm T.vm) hZ wnf)) (mvT (s := s.setVm T.vm) hZ wsel) (mvT (s := s.setVm T.vm) hZ w2) hy (Ct.pay (W := Wd) hM hZ hEW hC.1 (hSf.mono hSL) w4 w3 hf hl) qa qc (g := mkF m pc L S) rfl (hL.trans hml.symm) (Steps.refl _) (argsL := argsL) (rest := rest) hlen hst (by show 2 * 0 + _ ≤ _; omega) (hb hby hd) (fun _ _ => ⟨rfl, e1, hc, hs⟩)
  dsimp only [Pt.U, Pt.locs, Pt.cells, Pt.slots] at X' l1 l2 l3 st hQ hC' hSf' hw' hgr hS'
  subst l1 l2 l3
  have hS2 : Sfs Z EL T'.vm T'.heap (N' ++ SL) := fun x hx' => (List.mem_append.mp hx').elim (hSf' x) (hSf.chr hC' x)
  obtain ⟨s₂, o, st2, r⟩ := K v _ N' hQ hC'.2.1 p e s m args below meth c T' (W0.nextS X' rfl hS' hC'.2.1 (Nat.le_refl _) hC' (N.app hFr) hw' hS2)
  exact ⟨s₂, o, st.trans st2, r⟩
end Calls
/-- the end of a body -/
theorem Go.out {v : Option Value} (hv : rt = none → v = none) (N : List Addr) (hN : ∀ x ∈ N, x ∈ SL) (hQ : Q v h N) (hc : kc ≤ R.cells) (hs : ks ≤ R.slots)
    (hst : ∀ {p : Program} {e : Env} {s : State} {m : MethodId} {args : Array Value} {below : List Frame} {meth : Method} {c : Code} {T : State} {locs : List Loc}, p.tables.exec = Jvm.exec → c.code = bytes → meth.sig.returnType = rt → Stand p l e R (s.setVm T.vm) m args below meth c T locs kc ks → ∀ fs, (∀ (f : JFrame) (acts : List Action), f.method = m → f.locked = none → f.entered = [] → (doReturn e (T.setTop f) acts v).1 = T.setFrames fs) → Steps p.tables e below (T.setTop (mkF m pc L S)) (T.setFrames fs)) :
    Go l Z y bytes mx rt R EL n0 w Q h kc ks SL pc L S := by
  intro p e s m args below meth c T W
  obtain ⟨⟨hx, hby, hml, hrt, hlk, -⟩, k0, locs, X, e1, hS, hk, hZ, hown, hC, Nn, hw', hSf⟩ := W
  obtain ⟨fs, hr, hrun, hended, hW⟩ := X.leaveW hS (by rw [e1]; exact hk) (v := v) (fun q => hv (hrt.symm.trans q)) hlk
  refine ⟨_, _, hst hx hby hrt X fs hr, hrun, hended, v, locs, N, rfl, ?_, Nn, ?_, ?_, ⟨hW.1, hW.2.1, hW.2.2.1, hW.2.2.2.mono hc hs⟩, hw'⟩
  · show Q v T.heap N; rw [e1]; exact hQ
  · show CHr Z EL s.vm s.heap T.vm T.heap; rw [e1]; exact hC
  · show Sfs Z EL T.vm T.heap N; rw [e1]; exact hSf.mono hN
theorem Go.ret0 (hr : rt = none) (N : List Addr) (hN : ∀ x ∈ N, x ∈ SL) (hd : decode bytes pc = .ok (.return_, 1)) (hc : kc ≤ R.cells) (hs : ks ≤ R.slots) (hQ : Q none h N) : Go l Z y bytes mx rt R EL n0 w Q h kc ks SL pc L [] :=
  Go.out (v := none) (fun _ => rfl) N hN hQ hc hs (fun hx hby hrt X fs hl => X.returnOut hx (hrt.trans hr) (hb hby hd) hl)
/-- a boolean, byte, char, short -/
theorem Go.retN {t : FieldType} {z : Int32} (z' : Int32) (hr : rt = some t) (ht : t = .boolean ∨ t = .byte ∨ t = .char ∨ t = .short) (hz : nar t z = z') (N : List Addr) (hN : ∀ x ∈ N, x ∈ SL) (hd : decode bytes pc = .ok (.ireturn, 1)) (hc : kc ≤ R.cells) (hs : ks ≤ R.slots) (hQ : Q (some (.int z')) h N) : Go l Z y bytes mx rt R EL n0 w Q h kc ks SL pc L (.int z :: S) :=
  Go.out (v := some (.int z')) (fun q => by rw [hr] at q; cases q) N hN hQ hc hs (fun hx hby hrt X fs hl => RoadKit.retN X hx (hrt.trans hr) ht (hb hby hd) (by rw [hz]; exact hl))
theorem Go.retI {z : Int32} (hr : rt = some .int) (N : List Addr) (hN : ∀ x ∈ N, x ∈ SL) (hd : decode bytes pc = .ok (.ireturn, 1)) (hc : kc ≤ R.cells) (hs : ks ≤ R.slots) (hQ : Q (some (.int z)) h N) : Go l Z y bytes mx rt R EL n0 w Q h kc ks SL pc L (.int z :: S) :=
  Go.out (v := some (.int z)) (fun q => by rw [hr] at q; cases q) N hN hQ hc hs (fun hx hby hrt X fs hl => RoadKit.retOut X hx (hrt.trans hr) rfl (Or.inl ⟨rfl, Or.inl rfl, _, rfl⟩) (hb hby hd) hl)
theorem Go.retJ {z : Int64} (hr : rt = some .long) (N : List Addr) (hN : ∀ x ∈ N, x ∈ SL) (hd : decode bytes pc = .ok (.lreturn, 1)) (hc : kc ≤ R.cells) (hs : ks ≤ R.slots) (hQ : Q (some (.long z)) h N) : Go l Z y bytes mx rt R EL n0 w Q h kc ks SL pc L (.long z :: S) :=
  Go.out (v := some (.long z)) (fun q => by rw [hr] at q; cases q) N hN hQ hc hs (fun hx hby hrt X fs hl => RoadKit.retOut X hx (hrt.trans hr) rfl (Or.inr (Or.inl ⟨rfl, rfl, _, rfl⟩)) (hb hby hd) hl)
theorem narrow_ref {t : FieldType} {v : Value} (ht : t.isReference = true) : narrow t v = v := by cases t <;> cases v <;> simp_all [FieldType.isReference, narrow]
theorem fits_r {t : FieldType} {v : Value} (ht : t.isReference = true) (hv : v.isRef = true) : fits t v = true := by cases t <;> cases v <;> simp_all [FieldType.isReference, fits, Value.isRef]
theorem Go.retA {t : FieldType} {v : Value} (hr : rt = some t) (ht : t.isReference = true) (hv : v.isRef = true) (N : List Addr) (hN : ∀ x ∈ N, x ∈ SL) (hd : decode bytes pc = .ok (.areturn, 1)) (hc : kc ≤ R.cells) (hs : ks ≤ R.slots) (hQ : Q (some v) h N) : Go l Z y bytes mx rt R EL n0 w Q h kc ks SL pc L (v :: S) :=
  Go.out (v := some v) (fun q => by rw [hr] at q; cases q) N hN hQ hc hs (fun hx hby hrt X fs hl => RoadKit.retOut X hx (hrt.trans hr) (narrow_ref ht) (Or.inr (Or.inr (Or.inr (Or.inr ⟨rfl, ht, hv⟩)))) (hb hby hd) hl)
/-! arrays -/
theorem Go.alen {a : Addr} {cl : Cell} {ty : FieldType} {n : Int32} (hd : decode bytes pc = .ok (.arraylength, 1)) (A : Arr Z h a cl ty) (hn : cl.slots.size.toInt32 = n) (q : pc + 1 = pc') (K : Go l Z y bytes mx rt R EL n0 w Q h kc ks SL pc' L (.int n :: S)) : Go l Z y bytes mx rt R EL n0 w Q h kc ks SL pc L (.ref a :: S) :=
  Go.st1 q (fun X e1 hx hby hZ hown t kk => X.arraylength hx (cell := cl) (ty := ty) (e1.symm ▸ A.1) (State.isArrayOf_alike hZ.alike A.2.1) (g := mkF _ pc L (.ref a :: S)) rfl rfl (hb hby hd) t (hn.symm ▸ kk)) K
theorem Go.aaload {a : Addr} {cl : Cell} {ty : FieldType} {j : Int32} {v : Value} (hd : decode bytes pc = .ok (.aaload, 1)) (A : Arr Z h a cl ty) (hty : ty.isReference = true) (hin : ¬ (j < 0 ∨ cl.slots.size ≤ j.toNatClampNeg)) (hv : cl.slots[j.toNatClampNeg]? = some v) (q : pc + 1 = pc') (K : Go l Z y bytes mx rt R EL n0 w Q h kc ks SL pc' L (v :: S)) : Go l Z y bytes mx rt R EL n0 w Q h kc ks SL pc L (.int j :: .ref a :: S) :=
  Go.st1 q (fun X e1 hx hby hZ hown t kk => X.aaload hx (cell := cl) (e1.symm ▸ A.1) (State.isArrayOf_alike hZ.alike A.2.1) hty A.2.2 hin hv (g := mkF _ pc L (.int j :: .ref a :: S)) rfl rfl (hb hby hd) t kk) K
theorem Go.iaload {a : Addr} {cl : Cell} {j : Int32} {v : Value} (hd : decode bytes pc = .ok (.iaload, 1)) (A : Arr Z h a cl .int) (hin : ¬ (j < 0 ∨ cl.slots.size ≤ j.toNatClampNeg)) (hv : cl.slots[j.toNatClampNeg]? = some v) (q : pc + 1 = pc') (K : Go l Z y bytes mx rt R EL n0 w Q h kc ks SL pc' L (v :: S)) : Go l Z y bytes mx rt R EL n0 w Q h kc ks SL pc L (.int j :: .ref a :: S) :=
  Go.st1 q (fun X e1 hx hby hZ hown t kk => X.iaload hx (cell := cl) (e1.symm ▸ A.1) (State.isArrayOf_alike hZ.alike A.2.1) A.2.2 hin hv (g := mkF _ pc L (.int j :: .ref a :: S)) rfl rfl (hb hby hd) t kk) K
theorem Go.baload {a : Addr} {cl : Cell} {j : Int32} {v : Value} (hd : decode bytes pc = .ok (.baload, 1)) (A : Arr Z h a cl .byte) (hin : ¬ (j < 0 ∨ cl.slots.size ≤ j.toNatClampNeg)) (hv : cl.slots[j.toNatClampNeg]? = some v) (q : pc + 1 = pc') (K : Go l Z y bytes mx rt R EL n0 w Q h kc ks SL pc' L (v :: S)) : Go l Z y bytes mx rt R EL n0 w Q h kc ks SL pc L (.int j :: .ref a :: S) :=
  Go.st1 q (fun X e1 hx hby hZ hown t kk => X.baloadBytes hx (cell := cl) (e1.symm ▸ A.1) (State.isArrayOf_alike hZ.alike A.2.1) A.2.2 hin hv (g := mkF _ pc L (.int j :: .ref a :: S)) rfl rfl (hb hby hd) t kk) K
theorem Go.caload {a : Addr} {cl : Cell} {j : Int32} {v : Value} (hd : decode bytes pc = .ok (.caload, 1)) (A : Arr Z h a cl .char) (hin : ¬ (j < 0 ∨ cl.slots.size ≤ j.toNatClampNeg)) (hv : cl.slots[j.toNatClampNeg]? = some v) (q : pc + 1 = pc') (K : Go l Z y bytes mx rt R EL n0 w Q h kc ks SL pc' L (v :: S)) : Go l Z y bytes mx rt R EL n0 w Q h kc ks SL pc L (.int j :: .ref a :: S) :=
  Go.st1 q (fun X e1 hx hby hZ hown t kk => X.caload hx (cell := cl) (e1.symm ▸ A.1) (State.isArrayOf_alike hZ.alike A.2.1) A.2.2 hin hv (g := mkF _ pc L (.int j :: .ref a :: S)) rfl rfl (hb hby hd) t kk) K
theorem Go.castore {a : Addr} {cl : Cell} {j x : Int32} (hd : decode bytes pc = .ok (.castore, 1)) (A : Arr Z h a cl .char) (hin : ¬ (j < 0 ∨ cl.slots.size ≤ j.toNatClampNeg)) (ha : n0 ≤ a) (q : pc + 1 = pc')
    (K : ∀ h', Wr h h' a j.toNatClampNeg (.int (nar .char x)) → Go l Z y bytes mx rt R EL n0 w Q h' kc ks SL pc' L S) : Go l Z y bytes mx rt R EL n0 w Q h kc ks SL pc L (.int x :: .int j :: .ref a :: S) := by
  intro p e s m args below meth c T W
  subst q
  have W0 := W
  obtain ⟨⟨hx, hby, -⟩, k0, locs, X, e1, -, -, hZ, hown, hC, N, -, hSf⟩ := W
  obtain ⟨T', h', X', e', Wr', st⟩ := RoadKit.stC X hx hZ e1 A hin (g := mkF m pc L (.int x :: .int j :: .ref a :: S)) rfl rfl (hb hby hd)
  have B := CHr.wr Wr' (Safe.arr hZ.alike A (by decide)) hC.1
  obtain ⟨s₂, o, st2, r⟩ := K h' Wr' p e s m args below meth c T' (W0.next X' e' B (Fr.snoc X' N ha) (hSf.chr B))
  exact ⟨s₂, o, st _ st2, r⟩
theorem Go.bastore {a : Addr} {cl : Cell} {j x : Int32} (hd : decode bytes pc = .ok (.bastore, 1)) (A : Arr Z h a cl .byte) (hin : ¬ (j < 0 ∨ cl.slots.size ≤ j.toNatClampNeg)) (hsafe : Sf Z EL SL h a) (ha : n0 ≤ a) (q : pc + 1 = pc')
    (K : ∀ h', Wr h h' a j.toNatClampNeg (.int (nar .byte x)) → Go l Z y bytes mx rt R EL n0 w Q h' kc ks SL pc' L S) : Go l Z y bytes mx rt R EL n0 w Q h kc ks SL pc L (.int x :: .int j :: .ref a :: S) := by
  intro p e s m args below meth c T W
  subst q
  have W0 := W
  obtain ⟨⟨hx, hby, -⟩, k0, locs, X, e1, -, -, hZ, hown, hC, N, -, hSf⟩ := W
  obtain ⟨T', h', X', e', Wr', st⟩ := RoadKit.stB X hx hZ e1 A hin (g := mkF m pc L (.int x :: .int j :: .ref a :: S)) rfl rfl (hb hby hd)
  have B := CHr.wr Wr' (hsafe _ hZ hSf) hC.1
  obtain ⟨s₂, o, st2, r⟩ := K h' Wr' p e s m args below meth c T' (W0.next X' e' B (Fr.snoc X' N ha) (hSf.chr B))
  exact ⟨s₂, o, st _ st2, r⟩
/-- two roads that meet: the rest is walked once -/
theorem Go.cut {α : Type} (pcJ : Nat) (LJ : α → Array Slot) (SJ : α → List Value) (K : ∀ r, Go l Z y bytes mx rt R EL n0 w Q h kc ks SL pcJ (LJ r) (SJ r)) (K2 : (∀ r, Go l Z y bytes mx rt R EL n0 w Q h kc ks SL pcJ (LJ r) (SJ r)) → Go l Z y bytes mx rt R EL n0 w Q h kc ks SL pc L S) : Go l Z y bytes mx rt R EL n0 w Q h kc ks SL pc L S := K2 K
end Rules
end Jvm.GoKit
namespace Jvm.Pilot.@@N@@
open Jvm Jvm.ClassFile Sem Op Lib Jvm.Free Jvm.Stand Jvm.LawKit Jvm.RoadKit Jvm.GoKit Bundle Jvm.Pilot.@@N@@.Jvm.D
def EL1 : List (String × Nat) := []
theorem own_ew {Z : State} {a0 : Array Value} (hw : ∀ d ∈ tables_1, d.before a0 Z = true) : EW Z a0 EL1 := EW.nil
theorem pn_com_example_vestwright_vestwright_schedule_AllocationType : plainName "com/example/vestwright/vestwright/schedule/AllocationType" = true := by first | (simp [plainName, overriddenIn]; done) | decide +kernel
theorem d_prog_19_method_4_code_0 : decode prog_19_method_4_code 0 = .ok (.aload_n 0, 1) := by decide +kernel
theorem d_prog_19_method_4_code_1 : decode prog_19_method_4_code 1 = .ok (.getstatic 22, 3) := by decide +kernel
theorem d_prog_19_method_4_code_4 : decode prog_19_method_4_code 4 = .ok (.if_acmp .eq 7, 3) := by decide +kernel
theorem d_prog_19_method_4_code_7 : decode prog_19_method_4_code 7 = .ok (.iconst 1, 1) := by decide +kernel
theorem d_prog_19_method_4_code_8 : decode prog_19_method_4_code 8 = .ok (.goto 4, 3) := by decide +kernel
theorem d_prog_19_method_4_code_12 : decode prog_19_method_4_code 12 = .ok (.ireturn, 1) := by decide +kernel
set_option maxRecDepth 65536 in
set_option maxHeartbeats 40000000 in
theorem ct_whole (l : Launch) (Z : State) (a0 : Array Value) (hw : ∀ d ∈ tables_1, d.before a0 Z = true) (n0 : Nat) (h0 : Heap) (a1 f1 : Addr) (S1 : Sta Z h0 "com/example/vestwright/vestwright/schedule/AllocationType" "FRACTIONAL" "Lcom/example/vestwright/vestwright/schedule/AllocationType;" (.ref f1)) (hne : a1 ≠ f1) :
    Ct l Z (⟨"com/example/vestwright/vestwright/schedule/AllocationType", "wholeShares", "()Z"⟩ : MethodName) prog_19_method_4_code 1 (some .boolean) ({ frames := 0, cells := 0, slots := 0, locals := 0 } : Room) EL1 n0 false [] #[(.ref a1)] h0 [] (fun v h N => h0 = h ∧ v = some (.int 1)) := by
  refine Ct.of (a0 := a0) (plainFor_of_name pn_com_example_vestwright_vestwright_schedule_AllocationType) (own_ew hw) (L0 := #[.val (.ref a1)]) (fun m => by first | (simp [entryFrame, mkF, argsToLocals, Value.category]; done) | rfl) ?_
  refine Go.aloadN (pc' := 1) d_prog_19_method_4_code_0 rfl rfl rfl ?_
  refine Go.getS (pc' := 4) (host := "") (a1 := a0) d_prog_19_method_4_code_1 (Or.inl (hw _ (List.mem_of_getElem? (i := 9) rfl))) Via.refl S1 rfl ?_
  refine Go.acmp (pc' := 7) false d_prog_19_method_4_code_4 rfl rfl (decide_eq_false (fun q => hne (Value.ref.inj q))) (by decide) (by decide) ?_
  refine Go.iconst (pc' := 8) 1 d_prog_19_method_4_code_7 rfl rfl ?_
  refine Go.goto (pc' := 12) d_prog_19_method_4_code_8 (by decide) (by decide) ?_
  refine Go.retN (t := .boolean) (1 : Int32) rfl (by simp) rfl [] (fun _ q => nomatch q) d_prog_19_method_4_code_12 (by decide) (by decide) ?_
  exact ⟨rfl, rfl⟩
theorem d_prog_19_method_4_code_11 : decode prog_19_method_4_code 11 = .ok (.iconst 0, 1) := by decide +kernel
set_option maxRecDepth 65536 in
set_option maxHeartbeats 40000000 in
theorem ct_wholeF (l : Launch) (Z : State) (a0 : Array Value) (hw : ∀ d ∈ tables_1, d.before a0 Z = true) (n0 : Nat) (h0 : Heap) (f1 : Addr) (S1 : Sta Z h0 "com/example/vestwright/vestwright/schedule/AllocationType" "FRACTIONAL" "Lcom/example/vestwright/vestwright/schedule/AllocationType;" (.ref f1)) :
    Ct l Z (⟨"com/example/vestwright/vestwright/schedule/AllocationType", "wholeShares", "()Z"⟩ : MethodName) prog_19_method_4_code 1 (some .boolean) ({ frames := 0, cells := 0, slots := 0, locals := 0 } : Room) EL1 n0 false [] #[(.ref f1)] h0 [] (fun v h N => h0 = h ∧ v = some (.int 0)) := by
  refine Ct.of (a0 := a0) (plainFor_of_name pn_com_example_vestwright_vestwright_schedule_AllocationType) (own_ew hw) (L0 := #[.val (.ref f1)]) (fun m => by first | (simp [entryFrame, mkF, argsToLocals, Value.category]; done) | rfl) ?_
  refine Go.aloadN (pc' := 1) d_prog_19_method_4_code_0 rfl rfl rfl ?_
  refine Go.getS (pc' := 4) (host := "") (a1 := a0) d_prog_19_method_4_code_1 (Or.inl (hw _ (List.mem_of_getElem? (i := 9) rfl))) Via.refl S1 rfl ?_
  refine Go.acmp (pc' := 11) true d_prog_19_method_4_code_4 rfl rfl (decide_eq_true rfl) (by decide) (by decide) ?_
  refine Go.iconst (pc' := 12) 0 d_prog_19_method_4_code_11 rfl rfl ?_
  refine Go.retN (t := .boolean) (0 : Int32) rfl (by simp) rfl [] (fun _ q => nomatch q) d_prog_19_method_4_code_12 (by decide) (by decide) ?_
  exact ⟨rfl, rfl⟩
theorem pn_com_example_vestwright_vestwright_schedule_AllocationTypeWholeSharesPinLaw : plainName "com/example/vestwright/vestwright/schedule/AllocationTypeWholeSharesPinLaw" = true := by first | (simp [plainName, overriddenIn]; done) | decide +kernel
theorem pd__28_29Z : parseMethodDescriptor "()Z" = some ⟨[], (some .boolean)⟩ := by decide +kernel
set_option maxRecDepth 65536 in
set_option maxHeartbeats 40000000 in
theorem ct_law (l : Launch) (Z : State) (a0 : Array Value) (hw : ∀ d ∈ tables_1, d.before a0 Z = true) (n0 : Nat) (h0 : Heap) (p0 : Int32) (o_CUMULATIVE_ROUNDING : Addr) (S_CUMULATIVE_ROUNDING : Sta Z h0 "com/example/vestwright/vestwright/schedule/AllocationType" "CUMULATIVE_ROUNDING" "Lcom/example/vestwright/vestwright/schedule/AllocationType;" (.ref o_CUMULATIVE_ROUNDING)) (X_CUMULATIVE_ROUNDING : Exa Z h0 o_CUMULATIVE_ROUNDING "com/example/vestwright/vestwright/schedule/AllocationType") (o_FRACTIONAL : Addr) (S_FRACTIONAL : Sta Z h0 "com/example/vestwright/vestwright/schedule/AllocationType" "FRACTIONAL" "Lcom/example/vestwright/vestwright/schedule/AllocationType;" (.ref o_FRACTIONAL)) (X_FRACTIONAL : Exa Z h0 o_FRACTIONAL "com/example/vestwright/vestwright/schedule/AllocationType") (F_CUMULATIVE_ROUNDING_ordinal : Fld Z h0 o_CUMULATIVE_ROUNDING "java/lang/Enum" "ordinal" "I" (.int (0 : Int32))) (F_FRACTIONAL_ordinal : Fld Z h0 o_FRACTIONAL "java/lang/Enum" "ordinal" "I" (.int (6 : Int32))) (o_BACK_LOADED : Addr) (S_BACK_LOADED : Sta Z h0 "com/example/vestwright/vestwright/schedule/AllocationType" "BACK_LOADED" "Lcom/example/vestwright/vestwright/schedule/AllocationType;" (.ref o_BACK_LOADED)) (X_BACK_LOADED : Exa Z h0 o_BACK_LOADED "com/example/vestwright/vestwright/schedule/AllocationType") (F_BACK_LOADED_ordinal : Fld Z h0 o_BACK_LOADED "java/lang/Enum" "ordinal" "I" (.int (3 : Int32))) (o_BACK_LOADED_TO_SINGLE_TRANCHE : Addr) (S_BACK_LOADED_TO_SINGLE_TRANCHE : Sta Z h0 "com/example/vestwright/vestwright/schedule/AllocationType" "BACK_LOADED_TO_SINGLE_TRANCHE" "Lcom/example/vestwright/vestwright/schedule/AllocationType;" (.ref o_BACK_LOADED_TO_SINGLE_TRANCHE)) (X_BACK_LOADED_TO_SINGLE_TRANCHE : Exa Z h0 o_BACK_LOADED_TO_SINGLE_TRANCHE "com/example/vestwright/vestwright/schedule/AllocationType") (F_BACK_LOADED_TO_SINGLE_TRANCHE_ordinal : Fld Z h0 o_BACK_LOADED_TO_SINGLE_TRANCHE "java/lang/Enum" "ordinal" "I" (.int (5 : Int32))) (o_FRONT_LOADED_TO_SINGLE_TRANCHE : Addr) (S_FRONT_LOADED_TO_SINGLE_TRANCHE : Sta Z h0 "com/example/vestwright/vestwright/schedule/AllocationType" "FRONT_LOADED_TO_SINGLE_TRANCHE" "Lcom/example/vestwright/vestwright/schedule/AllocationType;" (.ref o_FRONT_LOADED_TO_SINGLE_TRANCHE)) (X_FRONT_LOADED_TO_SINGLE_TRANCHE : Exa Z h0 o_FRONT_LOADED_TO_SINGLE_TRANCHE "com/example/vestwright/vestwright/schedule/AllocationType") (F_FRONT_LOADED_TO_SINGLE_TRANCHE_ordinal : Fld Z h0 o_FRONT_LOADED_TO_SINGLE_TRANCHE "java/lang/Enum" "ordinal" "I" (.int (4 : Int32))) (o_FRONT_LOADED : Addr) (S_FRONT_LOADED : Sta Z h0 "com/example/vestwright/vestwright/schedule/AllocationType" "FRONT_LOADED" "Lcom/example/vestwright/vestwright/schedule/AllocationType;" (.ref o_FRONT_LOADED)) (X_FRONT_LOADED : Exa Z h0 o_FRONT_LOADED "com/example/vestwright/vestwright/schedule/AllocationType") (F_FRONT_LOADED_ordinal : Fld Z h0 o_FRONT_LOADED "java/lang/Enum" "ordinal" "I" (.int (2 : Int32))) (o_CUMULATIVE_ROUND_DOWN : Addr) (S_CUMULATIVE_ROUND_DOWN : Sta Z h0 "com/example/vestwright/vestwright/schedule/AllocationType" "CUMULATIVE_ROUND_DOWN" "Lcom/example/vestwright/vestwright/schedule/AllocationType;" (.ref o_CUMULATIVE_ROUND_DOWN)) (X_CUMULATIVE_ROUND_DOWN : Exa Z h0 o_CUMULATIVE_ROUND_DOWN "com/example/vestwright/vestwright/schedule/AllocationType") (F_CUMULATIVE_ROUND_DOWN_ordinal : Fld Z h0 o_CUMULATIVE_ROUND_DOWN "java/lang/Enum" "ordinal" "I" (.int (1 : Int32))) :
    Ct l Z x code maxLocals ret room_1 EL1 n0 false tables_1 #[(.int p0)] h0 [] (fun v h N => h0 = h ∧ v = some (.int 1)) := by
  refine Ct.of (a0 := a0) (plainFor_of_name pn_com_example_vestwright_vestwright_schedule_AllocationTypeWholeSharesPinLaw) (own_ew hw) (L0 := #[.val (.int p0), .unset]) (fun m => by first | (simp [entryFrame, mkF, argsToLocals, Value.category, maxLocals]; done) | rfl) ?_
  refine Go.iloadN (pc' := 1) at_0 rfl rfl ?_
  refine Go.ldcI (pc' := 3) (a1 := a0) at_1 (hw _ (List.mem_of_getElem? (i := 0) rfl)) rfl ?_
  refine Go.iand (pc' := 4) at_3 rfl ?_
  refine Go.bipush (pc' := 6) 7 at_4 rfl rfl ?_
  refine Go.irem (pc' := 7) at_6 (by decide) rfl ?_
  refine Go.istoreN (pc' := 8) #[.val (.int p0), .val (.int ((p0 &&& (2147483647 : Int32)) % (7 : Int32)))] at_7 rfl rfl ?_
  refine Go.iloadN (pc' := 9) at_8 rfl rfl ?_
  refine Go.ifc (pc' := 28) (pc'' := 12) at_9 (by decide) (by decide) rfl (fun hc_1 => ?_) (fun hc_1 => ?_)
  · have hc_1 : ¬ (((p0 &&& (2147483647 : Int32)) % (7 : Int32)) = 0) := hc_1
    refine Go.iloadN (pc' := 29) at_28 rfl rfl ?_
    refine Go.iconst (pc' := 30) 1 at_29 rfl rfl ?_
    refine Go.icmp (pc' := 49) (pc'' := 33) at_30 (by decide) (by decide) rfl (fun hc_2 => ?_) (fun hc_2 => ?_)
    · have hc_2 : ¬ (((p0 &&& (2147483647 : Int32)) % (7 : Int32)) = (1 : Int32)) := hc_2
      refine Go.iloadN (pc' := 50) at_49 rfl rfl ?_
      refine Go.iconst (pc' := 51) 2 at_50 rfl rfl ?_
      refine Go.icmp (pc' := 70) (pc'' := 54) at_51 (by decide) (by decide) rfl (fun hc_3 => ?_) (fun hc_3 => ?_)
      · have hc_3 : ¬ (((p0 &&& (2147483647 : Int32)) % (7 : Int32)) = (2 : Int32)) := hc_3
        refine Go.iloadN (pc' := 71) at_70 rfl rfl ?_
        refine Go.iconst (pc' := 72) 3 at_71 rfl rfl ?_
        refine Go.icmp (pc' := 91) (pc'' := 75) at_72 (by decide) (by decide) rfl (fun hc_4 => ?_) (fun hc_4 => ?_)
        · have hc_4 : ¬ (((p0 &&& (2147483647 : Int32)) % (7 : Int32)) = (3 : Int32)) := hc_4
          refine Go.iloadN (pc' := 92) at_91 rfl rfl ?_
          refine Go.iconst (pc' := 93) 4 at_92 rfl rfl ?_
          refine Go.icmp (pc' := 112) (pc'' := 96) at_93 (by decide) (by decide) rfl (fun hc_5 => ?_) (fun hc_5 => ?_)
          · have hc_5 : ¬ (((p0 &&& (2147483647 : Int32)) % (7 : Int32)) = (4 : Int32)) := hc_5
            refine Go.iloadN (pc' := 113) at_112 rfl rfl ?_
            refine Go.iconst (pc' := 114) 5 at_113 rfl rfl ?_
            refine Go.icmp (pc' := 133) (pc'' := 117) at_114 (by decide) (by decide) rfl (fun hc_6 => ?_) (fun hc_6 => ?_)
            · have hc_6 : ¬ (((p0 &&& (2147483647 : Int32)) % (7 : Int32)) = (5 : Int32)) := hc_6
              refine Go.getS (pc' := 136) (host := "") (a1 := a0) at_133 (Or.inl (hw _ (List.mem_of_getElem? (i := 15) rfl))) Via.refl S_FRACTIONAL rfl ?_
              refine Go.callV (a1 := a0) (pc' := 139) (argsL := []) (rest := []) (ct_wholeF l Z a0 hw n0 h0 o_FRACTIONAL S_FRACTIONAL) at_136 (hw _ (List.mem_of_getElem? (i := 4) rfl)) (hw _ (List.mem_of_getElem? (i := 5) rfl)) (hw _ (List.mem_of_getElem? (i := 7) rfl)) (hw _ (List.mem_of_getElem? (i := 7) rfl)) (hw _ (List.mem_of_getElem? (i := 6) rfl)) (hw _ (List.mem_of_getElem? (i := 2) rfl)) (hw _ (List.mem_of_getElem? (i := 8) rfl)) X_FRACTIONAL (by decide) (lenOf pd__28_29Z rfl) rfl 0 rfl rfl (by decide) (by decide) (by decide) (by decide) (fun _ q => nomatch q) rfl (fun v_7 h_8 N_9 hQ_10 hle_11 => ?_)
              obtain ⟨rfl, rfl⟩ := hQ_10
              refine Go.re (pc' := 139) (L' := #[.val (.int p0), .val (.int ((p0 &&& (2147483647 : Int32)) % (7 : Int32)))]) (S' := [(.int (0 : Int32))]) rfl rfl rfl ?_
              refine Go.ifF (pc' := 142) at_139 ((rfl : (0 : Int32) = 0)) rfl ?_
              refine Go.iconst (pc' := 143) 1 at_142 rfl rfl ?_
              refine Go.goto (pc' := 147) at_143 (by decide) (by decide) ?_
              refine Go.retN (t := .boolean) (1 : Int32) rfl (by simp) rfl [] (fun _ q => nomatch q) at_147 (by decide) (by decide) ?_
              exact ⟨rfl, rfl⟩
            · have hc_6 : ((p0 &&& (2147483647 : Int32)) % (7 : Int32)) = (5 : Int32) := hc_6
              refine Go.getS (pc' := 120) (host := "") (a1 := a0) at_117 (Or.inl (hw _ (List.mem_of_getElem? (i := 13) rfl))) Via.refl S_BACK_LOADED_TO_SINGLE_TRANCHE rfl ?_
              refine Go.callV (a1 := a0) (pc' := 123) (argsL := []) (rest := []) (ct_whole l Z a0 hw n0 h0 o_BACK_LOADED_TO_SINGLE_TRANCHE o_FRACTIONAL S_FRACTIONAL (Fld.ne F_BACK_LOADED_TO_SINGLE_TRANCHE_ordinal F_FRACTIONAL_ordinal (by decide))) at_120 (hw _ (List.mem_of_getElem? (i := 4) rfl)) (hw _ (List.mem_of_getElem? (i := 5) rfl)) (hw _ (List.mem_of_getElem? (i := 7) rfl)) (hw _ (List.mem_of_getElem? (i := 7) rfl)) (hw _ (List.mem_of_getElem? (i := 6) rfl)) (hw _ (List.mem_of_getElem? (i := 2) rfl)) (hw _ (List.mem_of_getElem? (i := 8) rfl)) X_BACK_LOADED_TO_SINGLE_TRANCHE (by decide) (lenOf pd__28_29Z rfl) rfl 0 rfl rfl (by decide) (by decide) (by decide) (by decide) (fun _ q => nomatch q) rfl (fun v_12 h_13 N_14 hQ_15 hle_16 => ?_)
              obtain ⟨rfl, rfl⟩ := hQ_15
              refine Go.re (pc' := 123) (L' := #[.val (.int p0), .val (.int ((p0 &&& (2147483647 : Int32)) % (7 : Int32)))]) (S' := [(.int (1 : Int32))]) rfl rfl rfl ?_
              refine Go.iconst (pc' := 124) 1 at_123 rfl rfl ?_
              refine Go.icmpF (pc' := 127) at_124 ((rfl : (1 : Int32) = 1)) rfl ?_
              refine Go.iconst (pc' := 128) 1 at_127 rfl rfl ?_
              refine Go.goto (pc' := 132) at_128 (by decide) (by decide) ?_
              refine Go.retN (t := .boolean) (1 : Int32) rfl (by simp) rfl [] (fun _ q => nomatch q) at_132 (by decide) (by decide) ?_
              exact ⟨rfl, rfl⟩
          · have hc_5 : ((p0 &&& (2147483647 : Int32)) % (7 : Int32)) = (4 : Int32) := hc_5
            refine Go.getS (pc' := 99) (host := "") (a1 := a0) at_96 (Or.inl (hw _ (List.mem_of_getElem? (i := 16) rfl))) Via.refl S_FRONT_LOADED_TO_SINGLE_TRANCHE rfl ?_
            refine Go.callV (a1 := a0) (pc' := 102) (argsL := []) (rest := []) (ct_whole l Z a0 hw n0 h0 o_FRONT_LOADED_TO_SINGLE_TRANCHE o_FRACTIONAL S_FRACTIONAL (Fld.ne F_FRONT_LOADED_TO_SINGLE_TRANCHE_ordinal F_FRACTIONAL_ordinal (by decide))) at_99 (hw _ (List.mem_of_getElem? (i := 4) rfl)) (hw _ (List.mem_of_getElem? (i := 5) rfl)) (hw _ (List.mem_of_getElem? (i := 7) rfl)) (hw _ (List.mem_of_getElem? (i := 7) rfl)) (hw _ (List.mem_of_getElem? (i := 6) rfl)) (hw _ (List.mem_of_getElem? (i := 2) rfl)) (hw _ (List.mem_of_getElem? (i := 8) rfl)) X_FRONT_LOADED_TO_SINGLE_TRANCHE (by decide) (lenOf pd__28_29Z rfl) rfl 0 rfl rfl (by decide) (by decide) (by decide) (by decide) (fun _ q => nomatch q) rfl (fun v_17 h_18 N_19 hQ_20 hle_21 => ?_)
            obtain ⟨rfl, rfl⟩ := hQ_20
            refine Go.re (pc' := 102) (L' := #[.val (.int p0), .val (.int ((p0 &&& (2147483647 : Int32)) % (7 : Int32)))]) (S' := [(.int (1 : Int32))]) rfl rfl rfl ?_
            refine Go.iconst (pc' := 103) 1 at_102 rfl rfl ?_
            refine Go.icmpF (pc' := 106) at_103 ((rfl : (1 : Int32) = 1)) rfl ?_
            refine Go.iconst (pc' := 107) 1 at_106 rfl rfl ?_
            refine Go.goto (pc' := 111) at_107 (by decide) (by decide) ?_
            refine Go.retN (t := .boolean) (1 : Int32) rfl (by simp) rfl [] (fun _ q => nomatch q) at_111 (by decide) (by decide) ?_
            exact ⟨rfl, rfl⟩
        · have hc_4 : ((p0 &&& (2147483647 : Int32)) % (7 : Int32)) = (3 : Int32) := hc_4
          refine Go.getS (pc' := 78) (host := "") (a1 := a0) at_75 (Or.inl (hw _ (List.mem_of_getElem? (i := 11) rfl))) Via.refl S_BACK_LOADED rfl ?_
          refine Go.callV (a1 := a0) (pc' := 81) (argsL := []) (rest := []) (ct_whole l Z a0 hw n0 h0 o_BACK_LOADED o_FRACTIONAL S_FRACTIONAL (Fld.ne F_BACK_LOADED_ordinal F_FRACTIONAL_ordinal (by decide))) at_78 (hw _ (List.mem_of_getElem? (i := 4) rfl)) (hw _ (List.mem_of_getElem? (i := 5) rfl)) (hw _ (List.mem_of_getElem? (i := 7) rfl)) (hw _ (List.mem_of_getElem? (i := 7) rfl)) (hw _ (List.mem_of_getElem? (i := 6) rfl)) (hw _ (List.mem_of_getElem? (i := 2) rfl)) (hw _ (List.mem_of_getElem? (i := 8) rfl)) X_BACK_LOADED (by decide) (lenOf pd__28_29Z rfl) rfl 0 rfl rfl (by decide) (by decide) (by decide) (by decide) (fun _ q => nomatch q) rfl (fun v_22 h_23 N_24 hQ_25 hle_26 => ?_)
          obtain ⟨rfl, rfl⟩ := hQ_25
          refine Go.re (pc' := 81) (L' := #[.val (.int p0), .val (.int ((p0 &&& (2147483647 : Int32)) % (7 : Int32)))]) (S' := [(.int (1 : Int32))]) rfl rfl rfl ?_
          refine Go.iconst (pc' := 82) 1 at_81 rfl rfl ?_
          refine Go.icmpF (pc' := 85) at_82 ((rfl : (1 : Int32) = 1)) rfl ?_
          refine Go.iconst (pc' := 86) 1 at_85 rfl rfl ?_
          refine Go.goto (pc' := 90) at_86 (by decide) (by decide) ?_
          refine Go.retN (t := .boolean) (1 : Int32) rfl (by simp) rfl [] (fun _ q => nomatch q) at_90 (by decide) (by decide) ?_
          exact ⟨rfl, rfl⟩
      · have hc_3 : ((p0 &&& (2147483647 : Int32)) % (7 : Int32)) = (2 : Int32) := hc_3
        refine Go.getS (pc' := 57) (host := "") (a1 := a0) at_54 (Or.inl (hw _ (List.mem_of_getElem? (i := 18) rfl))) Via.refl S_FRONT_LOADED rfl ?_
        refine Go.callV (a1 := a0) (pc' := 60) (argsL := []) (rest := []) (ct_whole l Z a0 hw n0 h0 o_FRONT_LOADED o_FRACTIONAL S_FRACTIONAL (Fld.ne F_FRONT_LOADED_ordinal F_FRACTIONAL_ordinal (by decide))) at_57 (hw _ (List.mem_of_getElem? (i := 4) rfl)) (hw _ (List.mem_of_getElem? (i := 5) rfl)) (hw _ (List.mem_of_getElem? (i := 7) rfl)) (hw _ (List.mem_of_getElem? (i := 7) rfl)) (hw _ (List.mem_of_getElem? (i := 6) rfl)) (hw _ (List.mem_of_getElem? (i := 2) rfl)) (hw _ (List.mem_of_getElem? (i := 8) rfl)) X_FRONT_LOADED (by decide) (lenOf pd__28_29Z rfl) rfl 0 rfl rfl (by decide) (by decide) (by decide) (by decide) (fun _ q => nomatch q) rfl (fun v_27 h_28 N_29 hQ_30 hle_31 => ?_)
        obtain ⟨rfl, rfl⟩ := hQ_30
        refine Go.re (pc' := 60) (L' := #[.val (.int p0), .val (.int ((p0 &&& (2147483647 : Int32)) % (7 : Int32)))]) (S' := [(.int (1 : Int32))]) rfl rfl rfl ?_
        refine Go.iconst (pc' := 61) 1 at_60 rfl rfl ?_
        refine Go.icmpF (pc' := 64) at_61 ((rfl : (1 : Int32) = 1)) rfl ?_
        refine Go.iconst (pc' := 65) 1 at_64 rfl rfl ?_
        refine Go.goto (pc' := 69) at_65 (by decide) (by decide) ?_
        refine Go.retN (t := .boolean) (1 : Int32) rfl (by simp) rfl [] (fun _ q => nomatch q) at_69 (by decide) (by decide) ?_
        exact ⟨rfl, rfl⟩
    · have hc_2 : ((p0 &&& (2147483647 : Int32)) % (7 : Int32)) = (1 : Int32) := hc_2
      refine Go.getS (pc' := 36) (host := "") (a1 := a0) at_33 (Or.inl (hw _ (List.mem_of_getElem? (i := 20) rfl))) Via.refl S_CUMULATIVE_ROUND_DOWN rfl ?_
      refine Go.callV (a1 := a0) (pc' := 39) (argsL := []) (rest := []) (ct_whole l Z a0 hw n0 h0 o_CUMULATIVE_ROUND_DOWN o_FRACTIONAL S_FRACTIONAL (Fld.ne F_CUMULATIVE_ROUND_DOWN_ordinal F_FRACTIONAL_ordinal (by decide))) at_36 (hw _ (List.mem_of_getElem? (i := 4) rfl)) (hw _ (List.mem_of_getElem? (i := 5) rfl)) (hw _ (List.mem_of_getElem? (i := 7) rfl)) (hw _ (List.mem_of_getElem? (i := 7) rfl)) (hw _ (List.mem_of_getElem? (i := 6) rfl)) (hw _ (List.mem_of_getElem? (i := 2) rfl)) (hw _ (List.mem_of_getElem? (i := 8) rfl)) X_CUMULATIVE_ROUND_DOWN (by decide) (lenOf pd__28_29Z rfl) rfl 0 rfl rfl (by decide) (by decide) (by decide) (by decide) (fun _ q => nomatch q) rfl (fun v_32 h_33 N_34 hQ_35 hle_36 => ?_)
      obtain ⟨rfl, rfl⟩ := hQ_35
      refine Go.re (pc' := 39) (L' := #[.val (.int p0), .val (.int ((p0 &&& (2147483647 : Int32)) % (7 : Int32)))]) (S' := [(.int (1 : Int32))]) rfl rfl rfl ?_
      refine Go.iconst (pc' := 40) 1 at_39 rfl rfl ?_
      refine Go.icmpF (pc' := 43) at_40 ((rfl : (1 : Int32) = 1)) rfl ?_
      refine Go.iconst (pc' := 44) 1 at_43 rfl rfl ?_
      refine Go.goto (pc' := 48) at_44 (by decide) (by decide) ?_
      refine Go.retN (t := .boolean) (1 : Int32) rfl (by simp) rfl [] (fun _ q => nomatch q) at_48 (by decide) (by decide) ?_
      exact ⟨rfl, rfl⟩
  · have hc_1 : ((p0 &&& (2147483647 : Int32)) % (7 : Int32)) = 0 := hc_1
    refine Go.getS (pc' := 15) (host := "") (a1 := a0) at_12 (Or.inl (hw _ (List.mem_of_getElem? (i := 1) rfl))) Via.refl S_CUMULATIVE_ROUNDING rfl ?_
    refine Go.callV (a1 := a0) (pc' := 18) (argsL := []) (rest := []) (ct_whole l Z a0 hw n0 h0 o_CUMULATIVE_ROUNDING o_FRACTIONAL S_FRACTIONAL (Fld.ne F_CUMULATIVE_ROUNDING_ordinal F_FRACTIONAL_ordinal (by decide))) at_15 (hw _ (List.mem_of_getElem? (i := 4) rfl)) (hw _ (List.mem_of_getElem? (i := 5) rfl)) (hw _ (List.mem_of_getElem? (i := 7) rfl)) (hw _ (List.mem_of_getElem? (i := 7) rfl)) (hw _ (List.mem_of_getElem? (i := 6) rfl)) (hw _ (List.mem_of_getElem? (i := 2) rfl)) (hw _ (List.mem_of_getElem? (i := 8) rfl)) X_CUMULATIVE_ROUNDING (by decide) (lenOf pd__28_29Z rfl) rfl 0 rfl rfl (by decide) (by decide) (by decide) (by decide) (fun _ q => nomatch q) rfl (fun v_37 h_38 N_39 hQ_40 hle_41 => ?_)
    obtain ⟨rfl, rfl⟩ := hQ_40
    refine Go.re (pc' := 18) (L' := #[.val (.int p0), .val (.int ((p0 &&& (2147483647 : Int32)) % (7 : Int32)))]) (S' := [(.int (1 : Int32))]) rfl rfl rfl ?_
    refine Go.iconst (pc' := 19) 1 at_18 rfl rfl ?_
    refine Go.icmpF (pc' := 22) at_19 ((rfl : (1 : Int32) = 1)) rfl ?_
    refine Go.iconst (pc' := 23) 1 at_22 rfl rfl ?_
    refine Go.goto (pc' := 27) at_23 (by decide) (by decide) ?_
    refine Go.retN (t := .boolean) (1 : Int32) rfl (by simp) rfl [] (fun _ q => nomatch q) at_27 (by decide) (by decide) ?_
    exact ⟨rfl, rfl⟩
set_option maxRecDepth 65536 in
set_option maxHeartbeats 40000000 in
theorem comes_1 {Post : Tables → Env → Array Value → State → Outcome → State → Prop} (hpost : ∀ tb e args s v u, (limb_1_1.after args s (.returned v) u = true ∧ limb_1_2.after args s (.returned v) u = true ∧ True) → FrameEnd s (.returned v) u (Jvm.fieldLocs frame_1_writes args s ++ Jvm.arrayLocs frame_1_arrays args s ++ Jvm.staticLocs frame_1_statics s) 0 0 → Post tb e args s (.returned v) u) :
    ArmFor flags0 classFile x code maxLocals ret World_1 tables_1 room_1 Calls_1 rest_1 Pre_1 Post := by
  intro l hfl _ _ p e ha hc hk s m args below hf hA hF happ hP
  obtain ⟨hcalls, hrest, hpre⟩ := hP
  obtain ⟨-, -, -, hnamed, -, -, -, hat⟩ := (Spec.applies_iff hf).mp happ
  obtain ⟨hg, hn⟩ := and_e (Cond.before_iff.mp (show (Jvm.Cond.and given_1 narrow_1).before args s = true from hpre))
  obtain ⟨g0, hg⟩ := and_e hg
  obtain ⟨w0, rfl⟩ : ∃ w0 : Value, args = #[w0] := by
    have hs : args.size = 1 := by simpa [Cond.value, given_1] using g0
    obtain ⟨L⟩ := args
    match L, hs with
    | [w0], _ => exact ⟨w0, rfl⟩
  have hw := fun d (hd : d ∈ tables_1) => atoms_spec (ws := Jvm.Cond.code x code maxLocals ret :: tables_1) hat d (List.mem_cons_of_mem _ hd)
  have hfit : Fit s := fun {y c} hc i hi => by
    obtain ⟨ha, rfl⟩ := Array.getElem?_eq_some_iff.mp hc
    have q := List.all_eq_true.mp ((Array.all_eq_true_iff_forall_mem.mp hF) _ (Array.getElem_mem ha)) i (List.mem_range.mpr hi)
    simpa [Array.getElem?_eq_getElem hi] using q
  have g1 := hg
  obtain ⟨p0, e0⟩ := is_v g1
  obtain rfl : w0 = (.int p0) := Option.some.inj e0
  obtain ⟨c0, hn⟩ := and_e hn
  obtain ⟨c1, hn⟩ := and_e hn
  obtain ⟨c2, hn⟩ := and_e hn
  obtain ⟨c3, hn⟩ := and_e hn
  obtain ⟨c4, hn⟩ := and_e hn
  obtain ⟨c5, hn⟩ := and_e hn
  obtain ⟨c6, hn⟩ := and_e hn
  obtain ⟨c7, hn⟩ := and_e hn
  obtain ⟨c8, hn⟩ := and_e hn
  obtain ⟨c9, hn⟩ := and_e hn
  obtain ⟨c10, hn⟩ := and_e hn
  obtain ⟨c11, hn⟩ := and_e hn
  obtain ⟨c12, hn⟩ := and_e hn
  have c13 := hn
  obtain ⟨o_CUMULATIVE_ROUNDING, ev_CUMULATIVE_ROUNDING⟩ := exa_v c0
  have S_CUMULATIVE_ROUNDING := Sta.start ev_CUMULATIVE_ROUNDING (Or.inr ⟨(hw _ (List.mem_of_getElem? (i := 2) rfl)), (hw _ (List.mem_of_getElem? (i := 3) rfl))⟩)
  have X_CUMULATIVE_ROUNDING := Exa.start ev_CUMULATIVE_ROUNDING c0
  obtain ⟨o_FRACTIONAL, ev_FRACTIONAL⟩ := exa_v c1
  have S_FRACTIONAL := Sta.start ev_FRACTIONAL (Or.inr ⟨(hw _ (List.mem_of_getElem? (i := 2) rfl)), (hw _ (List.mem_of_getElem? (i := 10) rfl))⟩)
  have X_FRACTIONAL := Exa.start ev_FRACTIONAL c1
  have F_CUMULATIVE_ROUNDING_ordinal := Fld.start ((fld_at ev_CUMULATIVE_ROUNDING).symm.trans (eqv_i (Term.int_eval (0)) c2))
  have F_FRACTIONAL_ordinal := Fld.start ((fld_at ev_FRACTIONAL).symm.trans (eqv_i (Term.int_eval (6)) c3))
  obtain ⟨o_BACK_LOADED, ev_BACK_LOADED⟩ := exa_v c4
  have S_BACK_LOADED := Sta.start ev_BACK_LOADED (Or.inr ⟨(hw _ (List.mem_of_getElem? (i := 2) rfl)), (hw _ (List.mem_of_getElem? (i := 12) rfl))⟩)
  have X_BACK_LOADED := Exa.start ev_BACK_LOADED c4
  have F_BACK_LOADED_ordinal := Fld.start ((fld_at ev_BACK_LOADED).symm.trans (eqv_i (Term.int_eval (3)) c5))
  obtain ⟨o_BACK_LOADED_TO_SINGLE_TRANCHE, ev_BACK_LOADED_TO_SINGLE_TRANCHE⟩ := exa_v c6
  have S_BACK_LOADED_TO_SINGLE_TRANCHE := Sta.start ev_BACK_LOADED_TO_SINGLE_TRANCHE (Or.inr ⟨(hw _ (List.mem_of_getElem? (i := 2) rfl)), (hw _ (List.mem_of_getElem? (i := 14) rfl))⟩)
  have X_BACK_LOADED_TO_SINGLE_TRANCHE := Exa.start ev_BACK_LOADED_TO_SINGLE_TRANCHE c6
  have F_BACK_LOADED_TO_SINGLE_TRANCHE_ordinal := Fld.start ((fld_at ev_BACK_LOADED_TO_SINGLE_TRANCHE).symm.trans (eqv_i (Term.int_eval (5)) c7))
  obtain ⟨o_FRONT_LOADED_TO_SINGLE_TRANCHE, ev_FRONT_LOADED_TO_SINGLE_TRANCHE⟩ := exa_v c8
  have S_FRONT_LOADED_TO_SINGLE_TRANCHE := Sta.start ev_FRONT_LOADED_TO_SINGLE_TRANCHE (Or.inr ⟨(hw _ (List.mem_of_getElem? (i := 2) rfl)), (hw _ (List.mem_of_getElem? (i := 17) rfl))⟩)
  have X_FRONT_LOADED_TO_SINGLE_TRANCHE := Exa.start ev_FRONT_LOADED_TO_SINGLE_TRANCHE c8
  have F_FRONT_LOADED_TO_SINGLE_TRANCHE_ordinal := Fld.start ((fld_at ev_FRONT_LOADED_TO_SINGLE_TRANCHE).symm.trans (eqv_i (Term.int_eval (4)) c9))
  obtain ⟨o_FRONT_LOADED, ev_FRONT_LOADED⟩ := exa_v c10
  have S_FRONT_LOADED := Sta.start ev_FRONT_LOADED (Or.inr ⟨(hw _ (List.mem_of_getElem? (i := 2) rfl)), (hw _ (List.mem_of_getElem? (i := 19) rfl))⟩)
  have X_FRONT_LOADED := Exa.start ev_FRONT_LOADED c10
  have F_FRONT_LOADED_ordinal := Fld.start ((fld_at ev_FRONT_LOADED).symm.trans (eqv_i (Term.int_eval (2)) c11))
  obtain ⟨o_CUMULATIVE_ROUND_DOWN, ev_CUMULATIVE_ROUND_DOWN⟩ := exa_v c12
  have S_CUMULATIVE_ROUND_DOWN := Sta.start ev_CUMULATIVE_ROUND_DOWN (Or.inr ⟨(hw _ (List.mem_of_getElem? (i := 2) rfl)), (hw _ (List.mem_of_getElem? (i := 21) rfl))⟩)
  have X_CUMULATIVE_ROUND_DOWN := Exa.start ev_CUMULATIVE_ROUND_DOWN c12
  have F_CUMULATIVE_ROUND_DOWN_ordinal := Fld.start ((fld_at ev_CUMULATIVE_ROUND_DOWN).symm.trans (eqv_i (Term.int_eval (1)) c13))
  obtain ⟨n, o, h1, h2, h3, v, Ls, N, rfl, ⟨hh, rfl⟩, hFr, -, -, hEn⟩ := ct_law l s _ hw s.heap.size s.heap p0 o_CUMULATIVE_ROUNDING S_CUMULATIVE_ROUNDING X_CUMULATIVE_ROUNDING o_FRACTIONAL S_FRACTIONAL X_FRACTIONAL F_CUMULATIVE_ROUNDING_ordinal F_FRACTIONAL_ordinal o_BACK_LOADED S_BACK_LOADED X_BACK_LOADED F_BACK_LOADED_ordinal o_BACK_LOADED_TO_SINGLE_TRANCHE S_BACK_LOADED_TO_SINGLE_TRANCHE X_BACK_LOADED_TO_SINGLE_TRANCHE F_BACK_LOADED_TO_SINGLE_TRANCHE_ordinal o_FRONT_LOADED_TO_SINGLE_TRANCHE S_FRONT_LOADED_TO_SINGLE_TRANCHE X_FRONT_LOADED_TO_SINGLE_TRANCHE F_FRONT_LOADED_TO_SINGLE_TRANCHE_ordinal o_FRONT_LOADED S_FRONT_LOADED X_FRONT_LOADED F_FRONT_LOADED_ordinal o_CUMULATIVE_ROUND_DOWN S_CUMULATIVE_ROUND_DOWN X_CUMULATIVE_ROUND_DOWN F_CUMULATIVE_ROUND_DOWN_ordinal p e ha hc hk s m _ below hf ((Spec.applies_iff_loose hf).mp happ).1 ⟨rfl, State.Warmed39.refl s, rfl, (fun p hp => nomatch hp), (fun x q => nomatch q)⟩ trivial
  refine ⟨n, _, h1, h2, h3, hpost _ _ _ _ _ _ ⟨Cond.after_iff.mpr rfl, Cond.after_iff.mpr (eq_i res_at (Term.int_eval (1)) rfl), trivial⟩ ⟨⟨_, rfl⟩, hEn.2 rfl, (hEn.1.2.2.2.sift fun y hy => Or.inr (hFr y hy)).mono (by decide) (by decide)⟩⟩
theorem main_1_1 : Claimed_1_1 := comes_1 fun _ _ _ _ _ _ h hF => ⟨h.1, hF⟩
theorem main_1_2 : Claimed_1_2 := comes_1 fun _ _ _ _ _ _ h hF => ⟨h.2.1, hF⟩
end Jvm.Pilot.@@N@@
namespace Jvm.Pilot.@@N@@
open Jvm Jvm.ClassFile Sem Op Lib Jvm.Free Jvm.Stand Jvm.Pilot.@@N@@.Jvm.D
/-! MADE BY PROGRAM (witnessworld.py) out of the Statement's table words and the real class files: 12 classes; the members and pool entries that the words name. The judged class is class 1, her method 1. -/
namespace start1
open Jvm.ClassFile
def u (s : String) : CpInfo := .utf8 (stringToUtf16 s)
/-- a pool by its gaps: so many unusable entries, then the entry; so many at the end -/
def gap : Nat → List CpInfo → List CpInfo
  | 0, r => r
  | n + 1, r => .unusable :: gap n r
def poolList (es : List (Nat × CpInfo)) (last : Nat) : List CpInfo := es.foldr (fun e r => gap e.1 (e.2 :: r)) (gap last [])
def pool (es : List (Nat × CpInfo)) (last : Nat) : Array CpInfo := ⟨poolList es last⟩
def fileOf (pool : Array CpInfo) (this : Nat) (attrs : Array Attribute := #[]) (ms : Array MethodInfo := #[]) (fl : Nat := 33) (sup : Nat := 0) (ifs : Array Nat := #[]) (fds : Array FieldInfo := #[]) : ClassFile where
  minorVersion := 0
  majorVersion := 65
  constantPool := pool
  accessFlags := fl
  thisClass := this
  superClass := sup
  interfaces := ifs
  fields := fds
  methods := ms
  attributes := attrs
def plain (name : String) (sup : Option ClassId) : Class where
  name := name
  kind := .ordinary
  loader := none
  accessFlags := 33
  super := sup
  interfaces := #[]
  cf := none
  fields := #[]
  methods := #[]
  instanceTypes := #[]
  staticTypes := #[]
  resolved := #[]
  callSites := []
  init := .initialized
  statics := none
  mirror := none

def pool0 : Array CpInfo := pool [(5, u "<init>"), (0, u "()V"), (1, .class_ 10), (1, u "java/lang/Object")] 113

def k0m0 : Method := { name := "<init>", desc := "()V", sig := { parameters := [], returnType := none }, accessFlags := 1, code := none }
/-- java/lang/Object -/
def k0 : Class := { plain "java/lang/Object" none with
  accessFlags := 33
  interfaces := #[]
  cf := some (fileOf pool0 8 #[] #[{ accessFlags := 1, nameIndex := 5, descriptorIndex := 6, attributes := #[] }] 33 0 #[] #[])
  fields := #[]
  methods := #[k0m0]
  instanceTypes := #[]
  staticTypes := #[]
  resolved := Array.replicate 124 none
  statics := none }

def pool1 : Array CpInfo := pool [(2, .class_ 4), (1, u "java/lang/Object"), (0, u "<init>"), (0, u "()V"), (0, .integer 2147483647), (0, .fieldref 9 10), (0, .class_ 11), (0, .nameAndType 12 13), (0, u "com/example/vestwright/vestwright/schedule/AllocationType"), (0, u "CUMULATIVE_ROUNDING"), (0, u "Lcom/example/vestwright/vestwright/schedule/AllocationType;"), (0, .methodref 9 15), (0, .nameAndType 16 17), (0, u "wholeShares"), (0, u "()Z"), (0, .fieldref 9 19), (0, .nameAndType 20 13), (0, u "CUMULATIVE_ROUND_DOWN"), (0, .fieldref 9 22), (0, .nameAndType 23 13), (0, u "FRONT_LOADED"), (0, .fieldref 9 25), (0, .nameAndType 26 13), (0, u "BACK_LOADED"), (0, .fieldref 9 28), (0, .nameAndType 29 13), (0, u "FRONT_LOADED_TO_SINGLE_TRANCHE"), (0, .fieldref 9 31), (0, .nameAndType 32 13), (0, u "BACK_LOADED_TO_SINGLE_TRANCHE"), (0, .fieldref 9 34), (0, .nameAndType 35 13), (0, u "FRACTIONAL"), (0, .class_ 37), (0, u "com/example/vestwright/vestwright/schedule/AllocationTypeWholeSharesPinLaw"), (2, u "law"), (0, u "(I)Z")] 3

def k1m0 : Method := { name := "<init>", desc := "()V", sig := { parameters := [], returnType := none }, accessFlags := 2, code := none }
def k1c1 : Code := { maxStack := 2, maxLocals := 2, code := code, exceptionTable := #[], attributes := #[] }
def k1m1 : Method := { name := "law", desc := "(I)Z", sig := { parameters := [.int], returnType := some .boolean }, accessFlags := 9, code := some k1c1 }
/-- com/example/vestwright/vestwright/schedule/AllocationTypeWholeSharesPinLaw -/
def k1 : Class := { plain "com/example/vestwright/vestwright/schedule/AllocationTypeWholeSharesPinLaw" (some 0) with
  accessFlags := 49
  interfaces := #[]
  cf := some (fileOf pool1 36 #[] #[{ accessFlags := 2, nameIndex := 5, descriptorIndex := 6, attributes := #[] }, { accessFlags := 9, nameIndex := 40, descriptorIndex := 41, attributes := #[] }] 49 2 #[] #[])
  fields := #[]
  methods := #[k1m0, k1m1]
  instanceTypes := #[]
  staticTypes := #[]
  resolved := Array.replicate 45 none
  statics := none }

def pool2 : Array CpInfo := pool [(1, .class_ 2), (0, u "java/lang/constant/Constable"), (0, .class_ 4), (0, u "java/lang/Object")] 6

/-- java/lang/constant/Constable -/
def k2 : Class := { plain "java/lang/constant/Constable" (some 0) with
  accessFlags := 1537
  interfaces := #[]
  cf := some (fileOf pool2 1 #[] #[] 1537 3 #[] #[])
  fields := #[]
  methods := #[]
  instanceTypes := #[]
  staticTypes := #[]
  resolved := Array.replicate 11 none
  statics := none }

def pool3 : Array CpInfo := pool [(1, .class_ 2), (0, u "java/lang/Comparable"), (0, .class_ 4), (0, u "java/lang/Object")] 7

/-- java/lang/Comparable -/
def k3 : Class := { plain "java/lang/Comparable" (some 0) with
  accessFlags := 1537
  interfaces := #[]
  cf := some (fileOf pool3 1 #[] #[] 1537 3 #[] #[])
  fields := #[]
  methods := #[]
  instanceTypes := #[]
  staticTypes := #[]
  resolved := Array.replicate 12 none
  statics := none }

def pool4 : Array CpInfo := pool [(1, .class_ 2), (0, u "java/io/Serializable"), (0, .class_ 4), (0, u "java/lang/Object")] 2

/-- java/io/Serializable -/
def k4 : Class := { plain "java/io/Serializable" (some 0) with
  accessFlags := 1537
  interfaces := #[]
  cf := some (fileOf pool4 1 #[] #[] 1537 3 #[] #[])
  fields := #[]
  methods := #[]
  instanceTypes := #[]
  staticTypes := #[]
  resolved := Array.replicate 7 none
  statics := none }

def pool5 : Array CpInfo := pool [(2, .class_ 4), (1, u "java/lang/Enum"), (0, u "name"), (0, u "Ljava/lang/String;"), (2, u "ordinal"), (0, u "I"), (1, .class_ 14), (1, u "java/lang/Object"), (4, u "hash"), (86, .class_ 108), (1, u "java/lang/Enum$EnumDesc"), (2, .class_ 112), (0, u "java/lang/constant/Constable"), (0, .class_ 114), (0, u "java/lang/Comparable"), (0, .class_ 116), (0, u "java/io/Serializable")] 87

/-- java/lang/Enum -/
def k5 : Class := { plain "java/lang/Enum" (some 0) with
  accessFlags := 1057
  interfaces := #[2, 3, 4]
  cf := some (fileOf pool5 2 #[.nestMembers #[106]] #[] 1057 12 #[111, 113, 115] #[{ accessFlags := 18, nameIndex := 5, descriptorIndex := 6, attributes := #[] }, { accessFlags := 18, nameIndex := 9, descriptorIndex := 10, attributes := #[] }, { accessFlags := 2, nameIndex := 19, descriptorIndex := 10, attributes := #[] }])
  fields := #[{ name := "name", type := (.object "java/lang/String"), accessFlags := 18, slot := 0, constantValue := 0 }, { name := "ordinal", type := .int, accessFlags := 18, slot := 1, constantValue := 0 }, { name := "hash", type := .int, accessFlags := 2, slot := 2, constantValue := 0 }]
  methods := #[]
  instanceTypes := #[(.object "java/lang/String"), .int, .int]
  staticTypes := #[]
  resolved := Array.replicate 204 none
  statics := none }

def pool6 : Array CpInfo := pool [(1, .class_ 2), (0, u "com/example/vestwright/vestwright/schedule/AllocationType"), (2, u "CUMULATIVE_ROUNDING"), (0, u "Lcom/example/vestwright/vestwright/schedule/AllocationType;"), (2, u "CUMULATIVE_ROUND_DOWN"), (2, u "FRONT_LOADED"), (2, u "BACK_LOADED"), (2, u "FRONT_LOADED_TO_SINGLE_TRANCHE"), (2, u "BACK_LOADED_TO_SINGLE_TRANCHE"), (0, .fieldref 1 23), (0, .nameAndType 24 6), (0, u "FRACTIONAL"), (2, u "$VALUES"), (0, u "[Lcom/example/vestwright/vestwright/schedule/AllocationType;"), (6, .class_ 37), (1, u "java/lang/Enum"), (62, u "()Z"), (50, u "FRACTIONAL_DECIMALS"), (0, u "I"), (9, u "wholeShares")] 10

def k6c0 : Code := { maxStack := 2, maxLocals := 1, code := prog_19_method_4_code, exceptionTable := #[], attributes := #[] }
def k6m0 : Method := { name := "wholeShares", desc := "()Z", sig := { parameters := [], returnType := some .boolean }, accessFlags := 0, code := some k6c0 }
/-- com/example/vestwright/vestwright/schedule/AllocationType -/
def k6 : Class := { plain "com/example/vestwright/vestwright/schedule/AllocationType" (some 5) with
  accessFlags := 16432
  interfaces := #[]
  cf := some (fileOf pool6 1 #[] #[{ accessFlags := 0, nameIndex := 162, descriptorIndex := 100, attributes := #[] }] 16432 35 #[] #[{ accessFlags := 16409, nameIndex := 5, descriptorIndex := 6, attributes := #[] }, { accessFlags := 16409, nameIndex := 9, descriptorIndex := 6, attributes := #[] }, { accessFlags := 16409, nameIndex := 12, descriptorIndex := 6, attributes := #[] }, { accessFlags := 16409, nameIndex := 15, descriptorIndex := 6, attributes := #[] }, { accessFlags := 16409, nameIndex := 18, descriptorIndex := 6, attributes := #[] }, { accessFlags := 16409, nameIndex := 21, descriptorIndex := 6, attributes := #[] }, { accessFlags := 16409, nameIndex := 24, descriptorIndex := 6, attributes := #[] }, { accessFlags := 26, nameIndex := 151, descriptorIndex := 152, attributes := #[] }, { accessFlags := 4122, nameIndex := 27, descriptorIndex := 28, attributes := #[] }])
  fields := #[{ name := "CUMULATIVE_ROUNDING", type := (.object "com/example/vestwright/vestwright/schedule/AllocationType"), accessFlags := 16409, slot := 0, constantValue := 0 }, { name := "CUMULATIVE_ROUND_DOWN", type := (.object "com/example/vestwright/vestwright/schedule/AllocationType"), accessFlags := 16409, slot := 1, constantValue := 0 }, { name := "FRONT_LOADED", type := (.object "com/example/vestwright/vestwright/schedule/AllocationType"), accessFlags := 16409, slot := 2, constantValue := 0 }, { name := "BACK_LOADED", type := (.object "com/example/vestwright/vestwright/schedule/AllocationType"), accessFlags := 16409, slot := 3, constantValue := 0 }, { name := "FRONT_LOADED_TO_SINGLE_TRANCHE", type := (.object "com/example/vestwright/vestwright/schedule/AllocationType"), accessFlags := 16409, slot := 4, constantValue := 0 }, { name := "BACK_LOADED_TO_SINGLE_TRANCHE", type := (.object "com/example/vestwright/vestwright/schedule/AllocationType"), accessFlags := 16409, slot := 5, constantValue := 0 }, { name := "FRACTIONAL", type := (.object "com/example/vestwright/vestwright/schedule/AllocationType"), accessFlags := 16409, slot := 6, constantValue := 0 }, { name := "FRACTIONAL_DECIMALS", type := .int, accessFlags := 26, slot := 7, constantValue := 0 }, { name := "$VALUES", type := (.array (.object "com/example/vestwright/vestwright/schedule/AllocationType")), accessFlags := 4122, slot := 8, constantValue := 0 }]
  methods := #[k6m0]
  instanceTypes := #[(.object "java/lang/String"), .int, .int]
  staticTypes := #[(.object "com/example/vestwright/vestwright/schedule/AllocationType"), (.object "com/example/vestwright/vestwright/schedule/AllocationType"), (.object "com/example/vestwright/vestwright/schedule/AllocationType"), (.object "com/example/vestwright/vestwright/schedule/AllocationType"), (.object "com/example/vestwright/vestwright/schedule/AllocationType"), (.object "com/example/vestwright/vestwright/schedule/AllocationType"), (.object "com/example/vestwright/vestwright/schedule/AllocationType"), .int, (.array (.object "com/example/vestwright/vestwright/schedule/AllocationType"))]
  resolved := Array.replicate 173 none
  statics := some 0 }

def pool7 : Array CpInfo := pool [(1, u "java/lang/Cloneable"), (0, .class_ 1), (0, u "java/lang/Object"), (0, .class_ 3)] 3

/-- java/lang/Cloneable -/
def k7 : Class := { plain "java/lang/Cloneable" (some 0) with
  accessFlags := 1537
  interfaces := #[]
  cf := some (fileOf pool7 2 #[] #[] 1537 4 #[] #[])
  fields := #[]
  methods := #[]
  instanceTypes := #[]
  staticTypes := #[]
  resolved := Array.replicate 8 none
  statics := none }

/-- the primitive byte -/
def k8 : Class := { plain "byte" none with kind := .primitive 'B', accessFlags := 0x411 }
/-- [B -/
def k9 : Class := { plain "[B" (some 0) with kind := .array 8 .byte, interfaces := #[7, 4], accessFlags := 1041 }

/-- the primitive int -/
def k10 : Class := { plain "int" none with kind := .primitive 'I', accessFlags := 0x411 }
/-- [I -/
def k11 : Class := { plain "[I" (some 0) with kind := .array 10 .int, interfaces := #[7, 4], accessFlags := 1041 }

def heap : Heap := #[{ cls := 6, slots := #[.ref 1, .ref 7, .ref 6, .ref 3, .ref 5, .ref 4, .ref 2, .int 0, .null], vm := .statics 6 },
  { cls := 6, slots := #[.null, .int 0, .int 0], vm := .none },
  { cls := 6, slots := #[.null, .int 6, .int 0], vm := .none },
  { cls := 6, slots := #[.null, .int 3, .int 0], vm := .none },
  { cls := 6, slots := #[.null, .int 5, .int 0], vm := .none },
  { cls := 6, slots := #[.null, .int 4, .int 0], vm := .none },
  { cls := 6, slots := #[.null, .int 2, .int 0], vm := .none },
  { cls := 6, slots := #[.null, .int 1, .int 0], vm := .none }]
def classes : Array Class := #[k0, k1, k2, k3, k4, k5, k6, k7, k8, k9, k10, k11]
def interned : List (Array UInt16 × Addr) := []
def slotsUsed : Nat := 30
def theMethod : MethodId := ⟨1, 1⟩
def args0 : Array Value := #[.int 5]
def aboutOver (below : List Frame) : State where
  vm := { classes := classes, interned := interned.toArray }
  heap := heap
  slotsUsed := slotsUsed
  threads := #[{ frames := .invoking theMethod args0 :: below }]
def below0 : List Frame := [.native { method := ⟨0, 0⟩, args := #[] }]
def about1 : State := aboutOver below0
def p0 : Program := .bare "" "" ""
def e0 : Env := launch0.env 0 0 0
theorem w_frames : about1.frames = Frame.invoking theMethod args0 :: below0 := rfl
set_option maxRecDepth 65536 in
theorem w_args : argsFit about1.vm theMethod args0 = true := by decide +kernel
set_option maxRecDepth 65536 in
theorem w_heap : heapFits about1 = true := by decide +kernel
set_option maxRecDepth 65536 in
theorem w_runnable : about1.curStatus? = some .runnable := by decide +kernel
set_option maxRecDepth 65536 in
theorem w_alone : about1.alone = true := by decide +kernel
set_option maxRecDepth 65536 in
theorem w_named : about1.methodNamed? x = some theMethod := by decide +kernel
set_option maxRecDepth 65536 in
theorem w_hears : about1.hears theMethod below0 = true := by decide +kernel
set_option maxRecDepth 65536 in
theorem w_ripe : about1.ripe theMethod args0 below0 = true := by decide +kernel
theorem w_running : about1.status = .running := rfl
set_option maxRecDepth 65536 in
theorem w_room : about1.hasRoom e0.platform room_1 = true :=
  launch0.hasRoom_least _ room_1 (by decide +kernel) (by decide +kernel) (by decide +kernel) (by decide +kernel) (by decide +kernel) (by decide +kernel)
theorem allAtoms_all (ts : List Jvm.Cond) (a : Array Jvm.Value) (st : Jvm.State) : (allAtoms ts).before a st = ts.all (fun c => c.before a st) := by
  induction ts with
  | nil => rfl
  | cons c t ih =>
    show (Jvm.Cond.and c (allAtoms t)).before a st = _
    rw [Jvm.Cond.before_and, ih, List.all_cons]
def words1 : List Jvm.Cond := Jvm.Cond.code x code maxLocals ret :: tables_1
/-- a 'code' word, met by the world's own term for the bytes: nothing is compared byte by byte -/
theorem code_word {y : MethodName} {bytes : ByteArray} {mx : Nat} {rt : Option FieldType} {a : Array Value} {s : State} {m : MethodId} {meth : Method} {c : Code} (h1 : s.methodNamed? y = some m) (h2 : s.vm.method? m = some meth) (h3 : meth.code = some c) (h4 : c.code = bytes)
    (h5 : (c.maxLocals == mx && c.exceptionTable.isEmpty && decide (c.maxStack ≤ mostOperands) && decide (meth.sig.returnType = rt) && !meth.locks && decide (parseMethodDescriptor y.desc = some meth.sig)) = true) : (Jvm.Cond.code y bytes mx rt).before a s = true := by
  simp only [Bool.and_eq_true, beq_iff_eq, Bool.not_eq_true', decide_eq_true_eq] at h5
  obtain ⟨⟨⟨⟨⟨g1, g2⟩, g3⟩, g4⟩, g5⟩, g6⟩ := h5
  simp [Cond.before, Cond.holds, Cond.value, h1, h2, h3, h4, g1, g2, g3, g4, g5, g6]
def isCode : Jvm.Cond → Bool
  | .code _ _ _ _ => true
  | _ => false
theorem all_split {L : List Jvm.Cond} {P : Jvm.Cond → Bool} (h1 : L.all (fun c => isCode c || P c) = true) (h2 : ∀ c ∈ L.filter isCode, P c = true) : L.all P = true := by
  refine List.all_eq_true.mpr fun c hc => ?_
  have h := List.all_eq_true.mp h1 c hc
  rcases Bool.eq_false_or_eq_true (isCode c) with hi | hi
  · exact h2 c (List.mem_filter.mpr ⟨hc, hi⟩)
  · simpa [hi] using h
set_option maxRecDepth 65536 in
theorem w_c0 : (Jvm.Cond.code x code maxLocals ret).before args0 about1 = true := code_word (m := ⟨1, 1⟩) (meth := k1m1) (c := k1c1) (by decide +kernel) rfl rfl rfl (by decide +kernel)
set_option maxRecDepth 65536 in
theorem w_c1 : (Jvm.Cond.code ({ cls := "com/example/vestwright/vestwright/schedule/AllocationType", name := "wholeShares", desc := "()Z" } : Jvm.MethodName) prog_19_method_4_code (1 : Nat) (Option.some Jvm.ClassFile.FieldType.boolean)).before args0 about1 = true := code_word (m := ⟨6, 0⟩) (meth := k6m0) (c := k6c0) (by decide +kernel) rfl rfl rfl (by decide +kernel)
def codes1 : List Jvm.Cond := [Jvm.Cond.code x code maxLocals ret, Jvm.Cond.code ({ cls := "com/example/vestwright/vestwright/schedule/AllocationType", name := "wholeShares", desc := "()Z" } : Jvm.MethodName) prog_19_method_4_code (1 : Nat) (Option.some Jvm.ClassFile.FieldType.boolean)]
set_option maxRecDepth 65536 in
theorem codes_eq : words1.filter isCode = codes1 := rfl
theorem w_codes : ∀ c ∈ words1.filter isCode, c.before args0 about1 = true := by
  rw [codes_eq]
  intro c hc
  simp only [codes1, List.mem_cons, List.not_mem_nil, or_false] at hc
  rcases hc with rfl | rfl
  · exact w_c0
  · exact w_c1
set_option maxRecDepth 65536 in
theorem w_t1 : words1.all (fun c => isCode c || c.before args0 about1) = true := by decide +kernel
theorem w_tables : (allAtoms (Jvm.Cond.code x code maxLocals ret :: tables_1)).before args0 about1 = true := by
  rw [allAtoms_all]
  show words1.all (fun c => c.before args0 about1) = true
  refine all_split ?_ w_codes
  rw [w_t1]
set_option maxRecDepth 65536 in
theorem w_case : (Jvm.Cond.and given_1 narrow_1).before args0 about1 = true := by decide +kernel
theorem w_applies : (headSpec (Jvm.Cond.code x code maxLocals ret :: tables_1) room_1).applies x e0.platform about1 = true :=
  (Spec.applies_iff w_frames).mpr ⟨w_running, w_runnable, w_alone, w_named, w_hears, w_ripe, w_room, w_tables⟩
theorem atStart : AtStart classFile x code maxLocals ret World_1 tables_1 room_1 Calls_1 rest_1 Pre_1 launch0 p0 e0 about1 theMethod args0 below0 :=
  ⟨lists_1, trivial, launch0.admits_env _ _ _, launch0.least_env, fairChoices_fair.cas, fairChoices_fair.clock, w_frames, w_args, w_heap, w_applies, trivial, trivial, w_case⟩
end start1
theorem witness_1 : WitnessClaimed_1 := ⟨start1.p0, start1.e0, start1.about1, start1.theMethod, start1.args0, start1.below0, start1.atStart⟩
end Jvm.Pilot.@@N@@
