import JvmDerived
import JvmDerived.Pilot.@@N@@Statement
import JvmDerived.Pilot.@@N@@Code
set_option linter.unusedVariables false
set_option linter.unusedSimpArgs false
namespace Jvm.GoKit
open Sem ClassFile Op Lib Jvm.Stand Jvm.Free Jvm.LawKit Jvm.RoadKit
/-! A small logic of walks: 'Go .. h kc ks SL pc L S': from pc, with locals L, stack S, heap h, the body comes to its end and Q holds. -/
def Sfs (Z : State) (EL : List (String × Nat)) (vm : Vm) (h : Heap) (SL : List Addr) : Prop := ∀ x ∈ SL, x < h.size ∧ Safe Z EL vm h x
def En (w : Bool) (s : State) (o : Outcome) (t : State) (L : List Loc) (k n : Nat) : Prop := ReturnedEndW s o t L k n ∧ (w = false → s.WarmedH t.vm)
def Wk (l : Launch) (Z : State) (y : MethodName) (bytes : ByteArray) (mx : Nat) (rt : Option FieldType) (R : Room) (EL : List (String × Nat)) (n0 : Nat) (w : Bool) (p : Program) (e : Env) (s : State) (m : MethodId) (args : Array Value) (below : List Frame) (meth : Method) (c : Code) (T : State) (h : Heap) (kc ks : Nat) (SL : List Addr) : Prop :=
  (p.tables.exec = Jvm.exec ∧ c.code = bytes ∧ c.maxLocals = mx ∧ meth.sig.returnType = rt ∧ meth.locks = false ∧ meth.name = y.name ∧ ∃ a0, EW Z a0 EL) ∧
  ∃ k0 locs, Stand p l e R (s.setVm T.vm) m args below meth c T locs kc ks ∧ T.heap = h ∧ s.Since T.vm k0 ∧ k0 ≤ h.size ∧ Z.Warmed39 T.vm ∧ T.vm.findClass y.cls = some m.cls ∧ CHr Z EL s.vm s.heap T.vm h ∧ Fr n0 locs ∧ (w = false → s.WarmedH T.vm) ∧ Sfs Z EL T.vm h SL
def Go (l : Launch) (Z : State) (y : MethodName) (bytes : ByteArray) (mx : Nat) (rt : Option FieldType) (R : Room) (EL : List (String × Nat)) (n0 : Nat) (w : Bool) (Q : Option Value → Heap → List Addr → Prop) (h : Heap) (kc ks : Nat) (SL : List Addr) (pc : Nat) (L : Array Slot) (S : List Value) : Prop :=
  ∀ p e s m args below meth c T, Wk l Z y bytes mx rt R EL n0 w p e s m args below meth c T h kc ks SL →
    ∃ s₂ o, Steps p.tables e below (T.setTop (mkF m pc L S)) s₂ ∧ s₂.status = .running ∧ Ended s₂ below o ∧
      ∃ v Ls N, o = .returned v ∧ Q v s₂.heap N ∧ Fr n0 Ls ∧ CHr Z EL s.vm s.heap s₂.vm s₂.heap ∧ Sfs Z EL s₂.vm s₂.heap N ∧ En w s o s₂ Ls R.cells R.slots
/-- a method's contract, for one array of arguments and one heap -/
def Ct (l : Launch) (Z : State) (y : MethodName) (bytes : ByteArray) (mx : Nat) (rt : Option FieldType) (R : Room) (EL : List (String × Nat)) (n0 : Nat) (w : Bool) (ws : List Jvm.Cond) (as' : Array Value) (h0 : Heap) (SL : List Addr) (Q : Option Value → Heap → List Addr → Prop) : Prop :=
  MetFree l y (head1 (Jvm.Cond.code y bytes mx rt :: ws) R) (fun a U => a = as' ∧ Z.Warmed39 U.vm ∧ U.heap = h0 ∧ CHv Z EL U.vm h0 ∧ Sfs Z EL U.vm h0 SL) (fun _ _ _ _ _ => True)
    (fun _ U o U' => ∃ v Ls N, o = .returned v ∧ Q v U'.heap N ∧ Fr n0 Ls ∧ CHr Z EL U.vm U.heap U'.vm U'.heap ∧ Sfs Z EL U'.vm U'.heap N ∧ En w U o U' Ls R.cells R.slots)
theorem nlt {a b : Nat} (h : a < b) : a < b := h
theorem nle {a b : Nat} (h : a ≤ b) : a ≤ b := h
theorem neq {a b : Nat} (h : a = b) : a = b := h
theorem nne {a b : Nat} (h : a ≠ b) : a ≠ b := h
theorem nne2 {x a b : Nat} (h : x ≠ a ∧ x ≠ b) : x ≠ a ∧ x ≠ b := h
theorem sta_keep {Z : State} {h h' : Heap} {C n d : String} {v : Value} {ws : List Addr} (F : Sta Z h C n d v) (K : Keep h h' ws) (q : ∀ x ∈ ws, ∀ cell : Cell, h[x]? = some cell → cell.vm.isStatics = false) : Sta Z h' C n d v := by
  obtain ⟨cf, i, k, f, st, cell, h1, h2, h3, h4, h5, h6, h7⟩ := F
  exact ⟨cf, i, k, f, st, cell, h1, h2, h3, h4, K.2.1 st cell h5 (fun m => by rw [q st m cell h5] at h6; cases h6), h6, h7⟩
theorem arr_keep {Z : State} {h h' : Heap} {a : Addr} {c : Cell} {ty : FieldType} {ws : List Addr} (F : RoadKit.Arr Z h a c ty) (K : Keep h h' ws) (q : a ∉ ws) : RoadKit.Arr Z h' a c ty := ⟨K.2.1 a c F.1 q, F.2⟩
section Closure
variable {l : Launch} {Z : State} {y : MethodName} {bytes : ByteArray} {mx : Nat} {rt : Option FieldType} {R : Room} {EL : List (String × Nat)} {n0 : Nat} {w : Bool} {Q : Option Value → Heap → List Addr → Prop} {h h' : Heap} {kc ks kc' ks' : Nat} {SL SL' : List Addr} {pc pc' : Nat} {L L' : Array Slot} {S S' : List Value} {a0 : Array Value}
variable {p : Program} {e : Env} {s : State} {m : MethodId} {args : Array Value} {below : List Frame} {meth : Method} {c : Code} {T T' : State} {locs' : List Loc}
theorem Sfs.mono (F : Sfs Z EL T.vm h SL) (q : ∀ x ∈ SL', x ∈ SL) : Sfs Z EL T.vm h SL' := fun x hx => F x (q x hx)
theorem Sfs.chr {vm vm1 : Vm} (F : Sfs Z EL vm h SL) (A : CHr Z EL vm h vm1 h') : Sfs Z EL vm1 h' SL := fun x hx => ⟨Nat.lt_of_lt_of_le (F x hx).1 A.2.1, A.safe (F x hx).1 (F x hx).2⟩
theorem Wk.mono (W : Wk l Z y bytes mx rt R EL n0 w p e s m args below meth c T h kc ks SL) (q : ∀ x ∈ SL', x ∈ SL) : Wk l Z y bytes mx rt R EL n0 w p e s m args below meth c T h kc ks SL' := by
  obtain ⟨A, k0, locs, X, e1, h1, h2, h3, h4, h5, h6, h7, h8⟩ := W
  exact ⟨A, k0, locs, X, e1, h1, h2, h3, h4, h5, h6, h7, h8.mono q⟩
/-- a step that interns nothing -/
theorem Wk.next (W : Wk l Z y bytes mx rt R EL n0 w p e s m args below meth c T h kc ks SL) (X' : Stand p l e R (s.setVm T.vm) m args below meth c T' locs' kc' ks') (e' : T'.heap = h') (hC : CHr Z EL T.vm h T.vm h') (N : Fr n0 locs') (hSf : Sfs Z EL T.vm h' SL') :
    Wk l Z y bytes mx rt R EL n0 w p e s m args below meth c T' h' kc' ks' SL' := by
  obtain ⟨⟨b1, b2, b3, b4, b5, b6, a0, b7⟩, k0, locs, X, e1, h1, h2, h3, h4, h5, h6, h7, h8⟩ := W
  have hW : (s.setVm T.vm).WarmedH T'.vm := X'.warmed
  have A := CHv.at X' h3 b7 hC.1
  have Xr : Stand p l e R (s.setVm T'.vm) m args below meth c T' locs' kc' ks' := X'.retabled hW.wide
  refine ⟨⟨b1, b2, b3, b4, b5, b6, a0, b7⟩, k0, locs', Xr, e', h1.trans (hW.since _) (Nat.le_refl _), Nat.le_trans h2 hC.2.1, State.Warmed39.trans (t := s.setVm T.vm) h3 hW.wide, ?_, (h5.trans hC).trans A, N, fun q => State.WarmedH.trans (t := s.setVm T.vm) (h7 q) hW, hSf.chr A⟩
  rw [hW.alike.findClass]; exact h4
/-- a step that may intern -/
theorem Wk.nextS (W : Wk l Z y bytes mx rt R EL n0 w p e s m args below meth c T h kc ks SL) (X' : Stand p l e R (s.setVm T'.vm) m args below meth c T' locs' kc' ks') (e' : T'.heap = h') {n1 : Nat} (hS : (s.setVm T.vm).Since T'.vm n1) (hn1 : h.size ≤ n1) (hn : n1 ≤ h'.size) (hC : CHr Z EL T.vm h T'.vm h') (N : Fr n0 locs') (hw : w = false → (s.setVm T.vm).WarmedH T'.vm) (hSf : Sfs Z EL T'.vm h' SL') :
    Wk l Z y bytes mx rt R EL n0 w p e s m args below meth c T' h' kc' ks' SL' := by
  obtain ⟨⟨b1, b2, b3, b4, b5, b6, a0, b7⟩, k0, locs, X, e1, h1, h2, h3, h4, h5, h6, h7, h8⟩ := W
  refine ⟨⟨b1, b2, b3, b4, b5, b6, a0, b7⟩, n1, locs', X', e', h1.trans hS (Nat.le_trans h2 hn1), hn, State.Warmed39.trans (t := s.setVm T.vm) h3 hS.1, ?_, h5.trans hC, N, fun q => State.WarmedH.trans (t := s.setVm T.vm) (h7 q) (hw q), hSf⟩
  rw [hS.1.alike.findClass]; exact h4
theorem Go.st (hst : ∀ {p : Program} {e : Env} {s : State} {m : MethodId} {args : Array Value} {below : List Frame} {meth : Method} {c : Code} {T : State}, Wk l Z y bytes mx rt R EL n0 w p e s m args below meth c T h kc ks SL → ∀ t, Steps p.tables e below (T.setTop (mkF m pc' L' S')) t → Steps p.tables e below (T.setTop (mkF m pc L S)) t)
    (k : Go l Z y bytes mx rt R EL n0 w Q h kc ks SL pc' L' S') : Go l Z y bytes mx rt R EL n0 w Q h kc ks SL pc L S := by
  intro p e s m args below meth c T W
  obtain ⟨s₂, o, st, r⟩ := k p e s m args below meth c T W
  exact ⟨s₂, o, hst W _ st, r⟩
theorem Go.mono (q : ∀ x ∈ SL', x ∈ SL) (k : Go l Z y bytes mx rt R EL n0 w Q h kc ks SL' pc L S) : Go l Z y bytes mx rt R EL n0 w Q h kc ks SL pc L S := fun p e s m args below meth c T W => k p e s m args below meth c T (W.mono q)
theorem Go.post {Q' : Option Value → Heap → List Addr → Prop} (q : ∀ v h N, Q' v h N → Q v h N) (k : Go l Z y bytes mx rt R EL n0 w Q' h kc ks SL pc L S) : Go l Z y bytes mx rt R EL n0 w Q h kc ks SL pc L S := fun p e s m args below meth c T W => by
  obtain ⟨s₂, o, st, r1, r2, v, Ls, N, r3, r4, r5⟩ := k p e s m args below meth c T W
  exact ⟨s₂, o, st, r1, r2, v, Ls, N, r3, q _ _ _ r4, r5⟩
theorem Ct.of {ws : List Jvm.Cond} {as' : Array Value} {h0 : Heap} (hp : plainFor y = true) (hEL : EW Z a0 EL) {L0 : Array Slot} (hE : ∀ m, entryFrame m as' mx = mkF m 0 L0 []) (G : Go l Z y bytes mx rt R EL n0 w Q h0 0 0 SL 0 L0 []) :
    Ct l Z y bytes mx rt R EL n0 w ws as' h0 SL Q := by
  refine MetFree.of_bodySF hp hisR ?_
  intro p e s m args below meth c s₁ Bd hml0 hP hK
  obtain ⟨rfl, hZ, hh, hC, hSf⟩ := hP
  have X0 : Stand p l e R (s.setVm s.vm) m args below meth c s₁ [] 0 0 := Stand.of_body Bd
  have e0 : s₁.heap = h0 := by rw [← hh, Bd.state]; rfl
  have hW : s.WarmedH s₁.vm := X0.warmed
  have A := CHv.at X0 hZ hEL hC
  have hl : meth.locks = false := BodyLoose.notSynchronized Bd
  rw [hE]
  refine G p e s m args below meth c s₁ ⟨⟨Bd.exec, Bd.bytes, hml0, Bd.returns, hl, (name_of_methodNamed Bd.named Bd.method).1, a0, hEL⟩, h0.size, [], X0.retabled hW.wide, e0, hW.since _, Nat.le_refl _, State.Warmed39.trans (t := s) hZ hW.wide, ?_, ?_, Fr.nil n0, fun _ => hW, hSf.chr A⟩
  · rw [hW.alike.findClass]; exact findClass_of_methodNamed Bd.named
  · rw [hh]; exact A
/-- a callee's contract pays the call -/
theorem Ct.pay {z : MethodName} {bytesZ : ByteArray} {mxZ : Nat} {rtZ : Option FieldType} {rm : Room} {as' : Array Value} {QZ : Option Value → Heap → List Addr → Prop} {len W : Nat} {vm0 : Vm} (hM : Ct l Z z bytesZ mxZ rtZ rm EL n0 w [] as' h SL' QZ)
    (hZ : Z.Warmed39 vm0) (hEL : EW Z a0 EL) (H : CHv Z EL vm0 h) (hSf : Sfs Z EL vm0 h SL') {a1 : Array Value} (wc : (Jvm.Cond.code z bytesZ mxZ rtZ).before a1 Z = true) (wz : (Jvm.Cond.initialized z.cls).before a1 Z = true) (hf : rm.frames + 1 ≤ R.frames) (hl : W + (mxZ + 11) + rm.locals ≤ R.locals) :
    BackS l R p e below (s.setVm vm0) args z len W (fun A a => a = as' ∧ A.U.heap = h ∧ A.cells + rm.cells ≤ R.cells ∧ A.slots + rm.slots ≤ R.slots)
      (fun A _ v B => ∃ Ls N, QZ v B.U.heap N ∧ Fr n0 Ls ∧ B.locs = A.locs ++ Ls ∧ B.cells = A.cells + rm.cells ∧ B.slots = A.slots + rm.slots ∧ CHr Z EL vm0 h B.U.vm B.U.heap ∧ Sfs Z EL B.U.vm B.U.heap N ∧ (w = false → (s.setVm vm0).WarmedH B.U.vm)) :=
  BackS.of_freeW (bytes := bytesZ) (maxL := mxZ) (ret := rtZ) (E := fun _ first o t L k n => k = rm.cells ∧ n = rm.slots ∧ (∃ v N, o = .returned v ∧ QZ v t.heap N ∧ Fr n0 L ∧ Sfs Z EL t.vm t.heap N) ∧ CHr Z EL first.vm first.heap t.vm t.heap ∧ (w = false → first.WarmedH t.vm)) hM hf hl
    (fun m meth c A a Y hp => have hU : Z.Warmed39 A.U.vm := wtrans (s := s.setVm vm0) hZ Y.warmed
      ⟨by show (Jvm.Cond.and _ .tt).before a A.U = true; rw [Cond.before_and, mv hU wc]; rfl, mv hU wc, mv hU wz, hp.2.2.1, hp.2.2.2⟩)
    (fun m meth c A a g mk Y hp => have A9 : CHr Z EL vm0 h A.U.vm h := CHv.at (T := A.U) Y hZ hEL H
      ⟨hp.1, wtrans (s := s.setVm vm0) hZ Y.warmed, hp.2.1, A9.1, hSf.chr A9⟩) (fun _ _ _ _ _ _ _ _ _ => trivial)
    (fun _ _ _ _ ⟨v, L, N, h1, h2, h3, h4, h5, h6⟩ => ⟨L, _, _, h6.1, rfl, rfl, ⟨v, N, h1, h2, h3, h5⟩, h4, h6.2⟩)
    (fun m meth c A a g mk v t L k n Y hp _ _ ⟨e1, e2, ⟨v', N, e3, e4, e5, e6⟩, e7, e8⟩ => by
      cases e3; subst e1 e2
      refine ⟨L, N, e4, e5, rfl, rfl, rfl, (CHv.at Y hZ hEL H).trans ?_, e6, fun q => State.WarmedH.trans (s := s.setVm vm0) (t := A.U) Y.warmed (e8 q)⟩
      rw [← hp.2.1]; exact e7)
end Closure
section Rules
abbrev usr (x y : Int32) : Int32 := (x.toUInt32 >>> (y &&& 31).toUInt32).toInt32
def cP : ClassFile.Cond → Int32 → Int32 → Prop
  | .eq, x, y => x = y
  | .ne, x, y => ¬ x = y
  | .lt, x, y => x < y
  | .ge, x, y => ¬ x < y
  | .gt, x, y => y < x
  | .le, x, y => ¬ y < x
def cneg : ClassFile.Cond → ClassFile.Cond
  | .eq => .ne
  | .ne => .eq
  | .lt => .ge
  | .ge => .lt
  | .gt => .le
  | .le => .gt
theorem ic_t {cd : ClassFile.Cond} {x y : Int32} (h : cP cd x y) : if_icmp.holds cd x y = true := by
  cases cd
  · exact (teq h).1
  · exact (feq h).2
  · exact (tlt h).1
  · exact (flt h).2.1
  · exact (tlt h).2.2.1
  · exact (flt h).2.2.2
theorem ic_f {cd : ClassFile.Cond} {x y : Int32} (h : cP (cneg cd) x y) : if_icmp.holds cd x y = false := by
  cases cd
  · exact (feq h).1
  · exact (teq h).2
  · exact (flt h).1
  · exact (tlt h).2.1
  · exact (flt h).2.2.1
  · exact (tlt h).2.2.2
theorem if_ic (cd : ClassFile.Cond) (x : Int32) : ifCond.holds cd x = if_icmp.holds cd x 0 := by cases cd <;> rfl
theorem if_t {cd : ClassFile.Cond} {x : Int32} (h : cP cd x 0) : ifCond.holds cd x = true := (if_ic cd x).trans (ic_t h)
theorem if_f {cd : ClassFile.Cond} {x : Int32} (h : cP (cneg cd) x 0) : ifCond.holds cd x = false := (if_ic cd x).trans (ic_f h)
theorem cP_em (cd : ClassFile.Cond) (x y : Int32) : cP cd x y ∨ cP (cneg cd) x y := by
  cases cd <;> simp only [cP, cneg] <;> first | exact Decidable.em _ | exact (Decidable.em _).symm
variable {l : Launch} {Z : State} {y : MethodName} {bytes : ByteArray} {mx : Nat} {rt : Option FieldType} {R : Room} {EL : List (String × Nat)} {n0 : Nat} {w : Bool} {Q : Option Value → Heap → List Addr → Prop} {h h' : Heap} {kc ks kc' ks' : Nat} {SL SL' : List Addr} {pc pc' pc'' : Nat} {L L' : Array Slot} {S S' : List Value} {a0 a1 : Array Value}
theorem Go.re (q1 : pc = pc') (q2 : L = L') (q3 : S = S') (K : Go l Z y bytes mx rt R EL n0 w Q h kc ks SL pc' L' S') : Go l Z y bytes mx rt R EL n0 w Q h kc ks SL pc L S := by subst q1 q2 q3; exact K
theorem Go.aloadN {k : Fin 4} {v : Value} (hd : decode bytes pc = .ok (.aload_n k, 1)) (hl : L[k.val]? = some (.val v)) (hv : v.isRef = true) (q : pc + 1 = pc') (K : Go l Z y bytes mx rt R EL n0 w Q h kc ks SL pc' L (v :: S)) : Go l Z y bytes mx rt R EL n0 w Q h kc ks SL pc L S := Go.st (fun W t kk => by obtain ⟨⟨hx, hby, -⟩, _, _, X, -⟩ := W; subst q; exact XS.aloadN X.here hx rfl (hb hby hd) hl hv kk) K
theorem Go.aload {k : Nat} {v : Value} (hd : decode bytes pc = .ok (.aload k, 2)) (hl : L[k]? = some (.val v)) (hv : v.isRef = true) (q : pc + 2 = pc') (K : Go l Z y bytes mx rt R EL n0 w Q h kc ks SL pc' L (v :: S)) : Go l Z y bytes mx rt R EL n0 w Q h kc ks SL pc L S := Go.st (fun W t kk => by obtain ⟨⟨hx, hby, -⟩, _, _, X, -⟩ := W; subst q; exact XS.aload X.here hx rfl (hb hby hd) hl hv kk) K
theorem Go.iloadN {k : Fin 4} {v : Int32} (hd : decode bytes pc = .ok (.iload_n k, 1)) (hl : L[k.val]? = some (.val (.int v))) (q : pc + 1 = pc') (K : Go l Z y bytes mx rt R EL n0 w Q h kc ks SL pc' L (.int v :: S)) : Go l Z y bytes mx rt R EL n0 w Q h kc ks SL pc L S := Go.st (fun W t kk => by obtain ⟨⟨hx, hby, -⟩, _, _, X, -⟩ := W; subst q; exact XS.iloadN X.here hx rfl (hb hby hd) hl kk) K
theorem Go.iload {k : Nat} {v : Int32} (hd : decode bytes pc = .ok (.iload k, 2)) (hl : L[k]? = some (.val (.int v))) (q : pc + 2 = pc') (K : Go l Z y bytes mx rt R EL n0 w Q h kc ks SL pc' L (.int v :: S)) : Go l Z y bytes mx rt R EL n0 w Q h kc ks SL pc L S := Go.st (fun W t kk => by obtain ⟨⟨hx, hby, -⟩, _, _, X, -⟩ := W; subst q; exact XS.iload X.here hx rfl (hb hby hd) hl kk) K
theorem Go.lloadN {k : Fin 4} {v : Int64} (hd : decode bytes pc = .ok (.lload_n k, 1)) (hl : L[k.val]? = some (.val (.long v))) (q : pc + 1 = pc') (K : Go l Z y bytes mx rt R EL n0 w Q h kc ks SL pc' L (.long v :: S)) : Go l Z y bytes mx rt R EL n0 w Q h kc ks SL pc L S := Go.st (fun W t kk => by obtain ⟨⟨hx, hby, -⟩, _, _, X, -⟩ := W; subst q; exact XS.lloadN X.here hx rfl (hb hby hd) hl kk) K
theorem Go.lload {k : Nat} {v : Int64} (hd : decode bytes pc = .ok (.lload k, 2)) (hl : L[k]? = some (.val (.long v))) (q : pc + 2 = pc') (K : Go l Z y bytes mx rt R EL n0 w Q h kc ks SL pc' L (.long v :: S)) : Go l Z y bytes mx rt R EL n0 w Q h kc ks SL pc L S := Go.st (fun W t kk => by obtain ⟨⟨hx, hby, -⟩, _, _, X, -⟩ := W; subst q; exact XS.lload X.here hx rfl (hb hby hd) hl kk) K
theorem Go.istoreN {k : Fin 4} {v : Int32} (L' : Array Slot) (hd : decode bytes pc = .ok (.istore_n k, 1)) (hl : storeLocals L k.val (.int v) = some L') (q : pc + 1 = pc') (K : Go l Z y bytes mx rt R EL n0 w Q h kc ks SL pc' L' S) : Go l Z y bytes mx rt R EL n0 w Q h kc ks SL pc L (.int v :: S) := Go.st (fun W t kk => by obtain ⟨⟨hx, hby, -⟩, _, _, X, -⟩ := W; subst q; exact XS.istoreN X.here hx rfl (hb hby hd) rfl hl kk) K
theorem Go.istore {k : Nat} {v : Int32} (L' : Array Slot) (hd : decode bytes pc = .ok (.istore k, 2)) (hl : storeLocals L k (.int v) = some L') (q : pc + 2 = pc') (K : Go l Z y bytes mx rt R EL n0 w Q h kc ks SL pc' L' S) : Go l Z y bytes mx rt R EL n0 w Q h kc ks SL pc L (.int v :: S) := Go.st (fun W t kk => by obtain ⟨⟨hx, hby, -⟩, _, _, X, -⟩ := W; subst q; exact XS.istore X.here hx rfl (hb hby hd) rfl hl kk) K
theorem Go.lstoreN {k : Fin 4} {v : Int64} (L' : Array Slot) (hd : decode bytes pc = .ok (.lstore_n k, 1)) (hl : storeLocals L k.val (.long v) = some L') (q : pc + 1 = pc') (K : Go l Z y bytes mx rt R EL n0 w Q h kc ks SL pc' L' S) : Go l Z y bytes mx rt R EL n0 w Q h kc ks SL pc L (.long v :: S) := Go.st (fun W t kk => by obtain ⟨⟨hx, hby, -⟩, _, _, X, -⟩ := W; subst q; exact XS.lstoreN X.here hx rfl (hb hby hd) rfl hl kk) K
theorem Go.lstore {k : Nat} {v : Int64} (L' : Array Slot) (hd : decode bytes pc = .ok (.lstore k, 2)) (hl : storeLocals L k (.long v) = some L') (q : pc + 2 = pc') (K : Go l Z y bytes mx rt R EL n0 w Q h kc ks SL pc' L' S) : Go l Z y bytes mx rt R EL n0 w Q h kc ks SL pc L (.long v :: S) := Go.st (fun W t kk => by obtain ⟨⟨hx, hby, -⟩, _, _, X, -⟩ := W; subst q; exact XS.lstore X.here hx rfl (hb hby hd) rfl hl kk) K
theorem Go.astoreN {k : Fin 4} {v : Value} (L' : Array Slot) (hd : decode bytes pc = .ok (.astore_n k, 1)) (hv : v.isRef = true) (hl : storeLocals L k.val v = some L') (q : pc + 1 = pc') (K : Go l Z y bytes mx rt R EL n0 w Q h kc ks SL pc' L' S) : Go l Z y bytes mx rt R EL n0 w Q h kc ks SL pc L (v :: S) := Go.st (fun W t kk => by obtain ⟨⟨hx, hby, -⟩, _, _, X, -⟩ := W; subst q; exact XS.astoreN X.here hx rfl (hb hby hd) rfl hv hl kk) K
theorem Go.astore {k : Nat} {v : Value} (L' : Array Slot) (hd : decode bytes pc = .ok (.astore k, 2)) (hv : v.isRef = true) (hl : storeLocals L k v = some L') (q : pc + 2 = pc') (K : Go l Z y bytes mx rt R EL n0 w Q h kc ks SL pc' L' S) : Go l Z y bytes mx rt R EL n0 w Q h kc ks SL pc L (v :: S) := Go.st (fun W t kk => by obtain ⟨⟨hx, hby, -⟩, _, _, X, -⟩ := W; subst q; exact XS.astore X.here hx rfl (hb hby hd) rfl hv hl kk) K
theorem Go.iconst {i : Int} (z : Int32) (hd : decode bytes pc = .ok (.iconst i, 1)) (hz : Int32.ofInt i = z) (q : pc + 1 = pc') (K : Go l Z y bytes mx rt R EL n0 w Q h kc ks SL pc' L (.int z :: S)) : Go l Z y bytes mx rt R EL n0 w Q h kc ks SL pc L S := Go.st (fun W t kk => by obtain ⟨⟨hx, hby, -⟩, _, _, X, -⟩ := W; subst q; subst hz; exact XS.iconst X.here hx rfl (hb hby hd) kk) K
theorem Go.bipush {i : Int} (z : Int32) (hd : decode bytes pc = .ok (.bipush i, 2)) (hz : (Int8.ofInt i).toInt32 = z) (q : pc + 2 = pc') (K : Go l Z y bytes mx rt R EL n0 w Q h kc ks SL pc' L (.int z :: S)) : Go l Z y bytes mx rt R EL n0 w Q h kc ks SL pc L S := Go.st (fun W t kk => by obtain ⟨⟨hx, hby, -⟩, _, _, X, -⟩ := W; subst q; subst hz; exact XS.bipush X.here hx rfl (hb hby hd) kk) K
theorem Go.sipush {i : Int} (z : Int32) (hd : decode bytes pc = .ok (.sipush i, 3)) (hz : (Int16.ofInt i).toInt32 = z) (q : pc + 3 = pc') (K : Go l Z y bytes mx rt R EL n0 w Q h kc ks SL pc' L (.int z :: S)) : Go l Z y bytes mx rt R EL n0 w Q h kc ks SL pc L S := Go.st (fun W t kk => by obtain ⟨⟨hx, hby, -⟩, _, _, X, -⟩ := W; subst q; subst hz; exact XS.sipush X.here hx rfl (hb hby hd) kk) K
theorem Go.lconst {k : Fin 2} (z : Int64) (hd : decode bytes pc = .ok (.lconst k, 1)) (hz : Int64.ofNat k.val = z) (q : pc + 1 = pc') (K : Go l Z y bytes mx rt R EL n0 w Q h kc ks SL pc' L (.long z :: S)) : Go l Z y bytes mx rt R EL n0 w Q h kc ks SL pc L S := Go.st (fun W t kk => by obtain ⟨⟨hx, hby, -⟩, _, _, X, -⟩ := W; subst q; subst hz; exact XS.lconst X.here hx rfl (hb hby hd) kk) K
theorem Go.aconstNull (hd : decode bytes pc = .ok (.aconst_null, 1)) (q : pc + 1 = pc') (K : Go l Z y bytes mx rt R EL n0 w Q h kc ks SL pc' L (.null :: S)) : Go l Z y bytes mx rt R EL n0 w Q h kc ks SL pc L S := Go.st (fun W t kk => by obtain ⟨⟨hx, hby, -⟩, _, _, X, -⟩ := W; subst q; exact XS.aconstNull X.here hx rfl (hb hby hd) kk) K
theorem Go.iadd {x y' : Int32} (hd : decode bytes pc = .ok (.iadd, 1)) (q : pc + 1 = pc') (K : Go l Z y bytes mx rt R EL n0 w Q h kc ks SL pc' L (.int (x + y') :: S)) : Go l Z y bytes mx rt R EL n0 w Q h kc ks SL pc L (.int y' :: .int x :: S) := Go.st (fun W t kk => by obtain ⟨⟨hx, hby, -⟩, _, _, X, -⟩ := W; subst q; exact XS.iadd X.here hx rfl (hb hby hd) rfl kk) K
theorem Go.isub {x y' : Int32} (hd : decode bytes pc = .ok (.isub, 1)) (q : pc + 1 = pc') (K : Go l Z y bytes mx rt R EL n0 w Q h kc ks SL pc' L (.int (x - y') :: S)) : Go l Z y bytes mx rt R EL n0 w Q h kc ks SL pc L (.int y' :: .int x :: S) := Go.st (fun W t kk => by obtain ⟨⟨hx, hby, -⟩, _, _, X, -⟩ := W; subst q; exact XS.isub X.here hx rfl (hb hby hd) rfl kk) K
theorem Go.iand {x y' : Int32} (hd : decode bytes pc = .ok (.iand, 1)) (q : pc + 1 = pc') (K : Go l Z y bytes mx rt R EL n0 w Q h kc ks SL pc' L (.int (x &&& y') :: S)) : Go l Z y bytes mx rt R EL n0 w Q h kc ks SL pc L (.int y' :: .int x :: S) := Go.st (fun W t kk => by obtain ⟨⟨hx, hby, -⟩, _, _, X, -⟩ := W; subst q; exact XS.iand X.here hx rfl (hb hby hd) rfl kk) K
theorem Go.ior {x y' : Int32} (hd : decode bytes pc = .ok (.ior, 1)) (q : pc + 1 = pc') (K : Go l Z y bytes mx rt R EL n0 w Q h kc ks SL pc' L (.int (x ||| y') :: S)) : Go l Z y bytes mx rt R EL n0 w Q h kc ks SL pc L (.int y' :: .int x :: S) := Go.st (fun W t kk => by obtain ⟨⟨hx, hby, -⟩, _, _, X, -⟩ := W; subst q; exact XS.ior X.here hx rfl (hb hby hd) rfl kk) K
theorem Go.ixor {x y' : Int32} (hd : decode bytes pc = .ok (.ixor, 1)) (q : pc + 1 = pc') (K : Go l Z y bytes mx rt R EL n0 w Q h kc ks SL pc' L (.int (x ^^^ y') :: S)) : Go l Z y bytes mx rt R EL n0 w Q h kc ks SL pc L (.int y' :: .int x :: S) := Go.st (fun W t kk => by obtain ⟨⟨hx, hby, -⟩, _, _, X, -⟩ := W; subst q; exact XS.ixor X.here hx rfl (hb hby hd) rfl kk) K
theorem Go.imul {x y' : Int32} (hd : decode bytes pc = .ok (.imul, 1)) (q : pc + 1 = pc') (K : Go l Z y bytes mx rt R EL n0 w Q h kc ks SL pc' L (.int (x * y') :: S)) : Go l Z y bytes mx rt R EL n0 w Q h kc ks SL pc L (.int y' :: .int x :: S) := Go.st (fun W t kk => by obtain ⟨⟨hx, hby, -⟩, _, _, X, -⟩ := W; subst q; exact XS.imul X.here hx rfl (hb hby hd) rfl kk) K
theorem Go.ishl {x y' : Int32} (hd : decode bytes pc = .ok (.ishl, 1)) (q : pc + 1 = pc') (K : Go l Z y bytes mx rt R EL n0 w Q h kc ks SL pc' L (.int (x <<< (y' &&& 31)) :: S)) : Go l Z y bytes mx rt R EL n0 w Q h kc ks SL pc L (.int y' :: .int x :: S) := Go.st (fun W t kk => by obtain ⟨⟨hx, hby, -⟩, _, _, X, -⟩ := W; subst q; exact XS.ishl X.here hx rfl (hb hby hd) rfl kk) K
theorem Go.ishr {x y' : Int32} (hd : decode bytes pc = .ok (.ishr, 1)) (q : pc + 1 = pc') (K : Go l Z y bytes mx rt R EL n0 w Q h kc ks SL pc' L (.int (x >>> (y' &&& 31)) :: S)) : Go l Z y bytes mx rt R EL n0 w Q h kc ks SL pc L (.int y' :: .int x :: S) := Go.st (fun W t kk => by obtain ⟨⟨hx, hby, -⟩, _, _, X, -⟩ := W; subst q; exact XS.ishr X.here hx rfl (hb hby hd) rfl kk) K
theorem Go.iushr {x y' : Int32} (hd : decode bytes pc = .ok (.iushr, 1)) (q : pc + 1 = pc') (K : Go l Z y bytes mx rt R EL n0 w Q h kc ks SL pc' L (.int (usr x y') :: S)) : Go l Z y bytes mx rt R EL n0 w Q h kc ks SL pc L (.int y' :: .int x :: S) := Go.st (fun W t kk => by obtain ⟨⟨hx, hby, -⟩, _, _, X, -⟩ := W; subst q; exact XS.iushr X.here hx rfl (hb hby hd) rfl kk) K
theorem Go.ladd {x y' : Int64} (hd : decode bytes pc = .ok (.ladd, 1)) (q : pc + 1 = pc') (K : Go l Z y bytes mx rt R EL n0 w Q h kc ks SL pc' L (.long (x + y') :: S)) : Go l Z y bytes mx rt R EL n0 w Q h kc ks SL pc L (.long y' :: .long x :: S) := Go.st (fun W t kk => by obtain ⟨⟨hx, hby, -⟩, _, _, X, -⟩ := W; subst q; exact XS.ladd X.here hx rfl (hb hby hd) rfl kk) K
theorem Go.lsub {x y' : Int64} (hd : decode bytes pc = .ok (.lsub, 1)) (q : pc + 1 = pc') (K : Go l Z y bytes mx rt R EL n0 w Q h kc ks SL pc' L (.long (x - y') :: S)) : Go l Z y bytes mx rt R EL n0 w Q h kc ks SL pc L (.long y' :: .long x :: S) := Go.st (fun W t kk => by obtain ⟨⟨hx, hby, -⟩, _, _, X, -⟩ := W; subst q; exact XS.lsub X.here hx rfl (hb hby hd) rfl kk) K
theorem Go.land {x y' : Int64} (hd : decode bytes pc = .ok (.land, 1)) (q : pc + 1 = pc') (K : Go l Z y bytes mx rt R EL n0 w Q h kc ks SL pc' L (.long (x &&& y') :: S)) : Go l Z y bytes mx rt R EL n0 w Q h kc ks SL pc L (.long y' :: .long x :: S) := Go.st (fun W t kk => by obtain ⟨⟨hx, hby, -⟩, _, _, X, -⟩ := W; subst q; exact XS.land X.here hx rfl (hb hby hd) rfl kk) K
theorem Go.lor {x y' : Int64} (hd : decode bytes pc = .ok (.lor, 1)) (q : pc + 1 = pc') (K : Go l Z y bytes mx rt R EL n0 w Q h kc ks SL pc' L (.long (x ||| y') :: S)) : Go l Z y bytes mx rt R EL n0 w Q h kc ks SL pc L (.long y' :: .long x :: S) := Go.st (fun W t kk => by obtain ⟨⟨hx, hby, -⟩, _, _, X, -⟩ := W; subst q; exact XS.lor X.here hx rfl (hb hby hd) rfl kk) K
theorem Go.lxor {x y' : Int64} (hd : decode bytes pc = .ok (.lxor, 1)) (q : pc + 1 = pc') (K : Go l Z y bytes mx rt R EL n0 w Q h kc ks SL pc' L (.long (x ^^^ y') :: S)) : Go l Z y bytes mx rt R EL n0 w Q h kc ks SL pc L (.long y' :: .long x :: S) := Go.st (fun W t kk => by obtain ⟨⟨hx, hby, -⟩, _, _, X, -⟩ := W; subst q; exact XS.lxor X.here hx rfl (hb hby hd) rfl kk) K
theorem Go.lmul {x y' : Int64} (hd : decode bytes pc = .ok (.lmul, 1)) (q : pc + 1 = pc') (K : Go l Z y bytes mx rt R EL n0 w Q h kc ks SL pc' L (.long (x * y') :: S)) : Go l Z y bytes mx rt R EL n0 w Q h kc ks SL pc L (.long y' :: .long x :: S) := Go.st (fun W t kk => by obtain ⟨⟨hx, hby, -⟩, _, _, X, -⟩ := W; subst q; exact XS.lmul X.here hx rfl (hb hby hd) rfl kk) K
theorem Go.irem {x y' : Int32} (hd : decode bytes pc = .ok (.irem, 1)) (hy : y' ≠ 0) (q : pc + 1 = pc') (K : Go l Z y bytes mx rt R EL n0 w Q h kc ks SL pc' L (.int (x % y') :: S)) : Go l Z y bytes mx rt R EL n0 w Q h kc ks SL pc L (.int y' :: .int x :: S) := Go.st (fun W t kk => by obtain ⟨⟨hx, hby, -⟩, _, _, X, -⟩ := W; subst q; exact iremM X hx rfl (hb hby hd) rfl hy kk) K
theorem Go.idiv {x y' : Int32} (hd : decode bytes pc = .ok (.idiv, 1)) (hy : y' ≠ 0) (q : pc + 1 = pc') (K : Go l Z y bytes mx rt R EL n0 w Q h kc ks SL pc' L (.int (x / y') :: S)) : Go l Z y bytes mx rt R EL n0 w Q h kc ks SL pc L (.int y' :: .int x :: S) := Go.st (fun W t kk => by obtain ⟨⟨hx, hby, -⟩, _, _, X, -⟩ := W; subst q; exact XS.idiv X.here hx rfl (hb hby hd) rfl hy kk) K
theorem Go.ineg {x : Int32} (hd : decode bytes pc = .ok (.ineg, 1)) (q : pc + 1 = pc') (K : Go l Z y bytes mx rt R EL n0 w Q h kc ks SL pc' L (.int (-x) :: S)) : Go l Z y bytes mx rt R EL n0 w Q h kc ks SL pc L (.int x :: S) := Go.st (fun W t kk => by obtain ⟨⟨hx, hby, -⟩, _, _, X, -⟩ := W; subst q; exact XS.ineg X.here hx rfl (hb hby hd) rfl kk) K
theorem Go.lcmp {x y' : Int64} (hd : decode bytes pc = .ok (.lcmp, 1)) (q : pc + 1 = pc') (K : Go l Z y bytes mx rt R EL n0 w Q h kc ks SL pc' L (.int (lcmpW x y') :: S)) : Go l Z y bytes mx rt R EL n0 w Q h kc ks SL pc L (.long y' :: .long x :: S) := Go.st (fun W t kk => by obtain ⟨⟨hx, hby, -⟩, _, _, X, -⟩ := W; subst q; exact XS.lcmp X.here hx rfl (hb hby hd) rfl kk) K
theorem Go.dup {x : Value} (hd : decode bytes pc = .ok (.dup, 1)) (hc : x.category = 1) (q : pc + 1 = pc') (K : Go l Z y bytes mx rt R EL n0 w Q h kc ks SL pc' L (x :: x :: S)) : Go l Z y bytes mx rt R EL n0 w Q h kc ks SL pc L (x :: S) := Go.st (fun W t kk => by obtain ⟨⟨hx, hby, -⟩, _, _, X, -⟩ := W; subst q; exact XS.dup X.here hx rfl (hb hby hd) rfl hc kk) K
theorem Go.dupX1 {x x2 : Value} (hd : decode bytes pc = .ok (.dup_x1, 1)) (hc : x.category = 1) (hc' : x2.category = 1) (q : pc + 1 = pc') (K : Go l Z y bytes mx rt R EL n0 w Q h kc ks SL pc' L (x :: x2 :: x :: S)) : Go l Z y bytes mx rt R EL n0 w Q h kc ks SL pc L (x :: x2 :: S) := Go.st (fun W t kk => by obtain ⟨⟨hx, hby, -⟩, _, _, X, -⟩ := W; subst q; exact XS.dupX1 X.here hx rfl (hb hby hd) rfl hc hc' kk) K
theorem Go.pop {x : Value} (hd : decode bytes pc = .ok (.pop, 1)) (hc : x.category = 1) (q : pc + 1 = pc') (K : Go l Z y bytes mx rt R EL n0 w Q h kc ks SL pc' L S) : Go l Z y bytes mx rt R EL n0 w Q h kc ks SL pc L (x :: S) := Go.st (fun W t kk => by obtain ⟨⟨hx, hby, -⟩, _, _, X, -⟩ := W; subst q; exact XS.pop X.here hx rfl (hb hby hd) rfl hc kk) K
theorem Go.iinc {k : Nat} {cst : Int} {x : Int32} (z : Int32) (L' : Array Slot) (hd : decode bytes pc = .ok (.iinc k cst, 3)) (hl : L[k]? = some (.val (.int x))) (hz : x + Int32.ofInt cst = z) (hl' : storeLocals L k (.int z) = some L') (q : pc + 3 = pc') (K : Go l Z y bytes mx rt R EL n0 w Q h kc ks SL pc' L' S) : Go l Z y bytes mx rt R EL n0 w Q h kc ks SL pc L S := Go.st (fun W t kk => by obtain ⟨⟨hx, hby, -⟩, _, _, X, -⟩ := W; subst q; subst hz; exact XS.iinc X.here hx rfl (hb hby hd) hl hl' kk) K
theorem Go.i2b {x : Int32} (hd : decode bytes pc = .ok (.i2b, 1)) (q : pc + 1 = pc') (K : Go l Z y bytes mx rt R EL n0 w Q h kc ks SL pc' L (.int (x.toInt8.toInt32) :: S)) : Go l Z y bytes mx rt R EL n0 w Q h kc ks SL pc L (.int x :: S) := Go.st (fun W t kk => by obtain ⟨⟨hx, hby, -⟩, _, _, X, -⟩ := W; subst q; exact XS.i2b X.here hx rfl (hb hby hd) rfl kk) K
theorem Go.i2c {x : Int32} (hd : decode bytes pc = .ok (.i2c, 1)) (q : pc + 1 = pc') (K : Go l Z y bytes mx rt R EL n0 w Q h kc ks SL pc' L (.int (nar .char x) :: S)) : Go l Z y bytes mx rt R EL n0 w Q h kc ks SL pc L (.int x :: S) := Go.st (fun W t kk => by obtain ⟨⟨hx, hby, -⟩, _, _, X, -⟩ := W; subst q; exact XS.i2c X.here hx rfl (hb hby hd) rfl kk) K
theorem Go.i2s {x : Int32} (hd : decode bytes pc = .ok (.i2s, 1)) (q : pc + 1 = pc') (K : Go l Z y bytes mx rt R EL n0 w Q h kc ks SL pc' L (.int (x.toInt16.toInt32) :: S)) : Go l Z y bytes mx rt R EL n0 w Q h kc ks SL pc L (.int x :: S) := Go.st (fun W t kk => by obtain ⟨⟨hx, hby, -⟩, _, _, X, -⟩ := W; subst q; exact XS.i2s X.here hx rfl (hb hby hd) rfl kk) K
theorem Go.i2l {x : Int32} (hd : decode bytes pc = .ok (.i2l, 1)) (q : pc + 1 = pc') (K : Go l Z y bytes mx rt R EL n0 w Q h kc ks SL pc' L (.long x.toInt64 :: S)) : Go l Z y bytes mx rt R EL n0 w Q h kc ks SL pc L (.int x :: S) := Go.st (fun W t kk => by obtain ⟨⟨hx, hby, -⟩, _, _, X, -⟩ := W; subst q; exact XS.i2l X.here hx rfl (hb hby hd) rfl kk) K
theorem Go.l2i {x : Int64} (hd : decode bytes pc = .ok (.l2i, 1)) (q : pc + 1 = pc') (K : Go l Z y bytes mx rt R EL n0 w Q h kc ks SL pc' L (.int x.toInt32 :: S)) : Go l Z y bytes mx rt R EL n0 w Q h kc ks SL pc L (.long x :: S) := Go.st (fun W t kk => by obtain ⟨⟨hx, hby, -⟩, _, _, X, -⟩ := W; subst q; exact XS.l2i X.here hx rfl (hb hby hd) rfl kk) K
theorem Go.goto {o : Int} (hd : decode bytes pc = .ok (.goto o, 3)) (ho : 0 ≤ (pc : Int) + o) (hp : ((pc : Int) + o).toNat = pc') (K : Go l Z y bytes mx rt R EL n0 w Q h kc ks SL pc' L S) : Go l Z y bytes mx rt R EL n0 w Q h kc ks SL pc L S := Go.st (fun W t kk => by obtain ⟨⟨hx, hby, -⟩, _, _, X, -⟩ := W; exact XS.goto X.here hx rfl rfl (hb hby hd) ho hp kk) K
theorem Go.ifT {cd : ClassFile.Cond} {x : Int32} {o : Int} (hd : decode bytes pc = .ok (.ifCond cd o, 3)) (hc : cP cd x 0) (ho : 0 ≤ (pc : Int) + o) (hp : ((pc : Int) + o).toNat = pc') (K : Go l Z y bytes mx rt R EL n0 w Q h kc ks SL pc' L S) : Go l Z y bytes mx rt R EL n0 w Q h kc ks SL pc L (.int x :: S) := Go.st (fun W t kk => by obtain ⟨⟨hx, hby, -⟩, _, _, X, -⟩ := W; exact XS.ifYes X.here hx rfl rfl (hb hby hd) rfl (if_t hc) ho hp kk) K
theorem Go.ifF {cd : ClassFile.Cond} {x : Int32} {o : Int} (hd : decode bytes pc = .ok (.ifCond cd o, 3)) (hc : cP (cneg cd) x 0) (q : pc + 3 = pc') (K : Go l Z y bytes mx rt R EL n0 w Q h kc ks SL pc' L S) : Go l Z y bytes mx rt R EL n0 w Q h kc ks SL pc L (.int x :: S) := Go.st (fun W t kk => by obtain ⟨⟨hx, hby, -⟩, _, _, X, -⟩ := W; subst q; exact XS.ifNo X.here hx rfl (hb hby hd) rfl (if_f hc) kk) K
theorem Go.icmpT {cd : ClassFile.Cond} {x x2 : Int32} {o : Int} (hd : decode bytes pc = .ok (.if_icmp cd o, 3)) (hc : cP cd x x2) (ho : 0 ≤ (pc : Int) + o) (hp : ((pc : Int) + o).toNat = pc') (K : Go l Z y bytes mx rt R EL n0 w Q h kc ks SL pc' L S) : Go l Z y bytes mx rt R EL n0 w Q h kc ks SL pc L (.int x2 :: .int x :: S) := Go.st (fun W t kk => by obtain ⟨⟨hx, hby, -⟩, _, _, X, -⟩ := W; exact XS.icmpYes X.here hx rfl rfl (hb hby hd) rfl (ic_t hc) ho hp kk) K
theorem Go.icmpF {cd : ClassFile.Cond} {x x2 : Int32} {o : Int} (hd : decode bytes pc = .ok (.if_icmp cd o, 3)) (hc : cP (cneg cd) x x2) (q : pc + 3 = pc') (K : Go l Z y bytes mx rt R EL n0 w Q h kc ks SL pc' L S) : Go l Z y bytes mx rt R EL n0 w Q h kc ks SL pc L (.int x2 :: .int x :: S) := Go.st (fun W t kk => by obtain ⟨⟨hx, hby, -⟩, _, _, X, -⟩ := W; subst q; exact XS.icmpNo X.here hx rfl (hb hby hd) rfl (ic_f hc) kk) K
theorem Go.ifnullT {o : Int} (hd : decode bytes pc = .ok (.ifnull o, 3)) (ho : 0 ≤ (pc : Int) + o) (hp : ((pc : Int) + o).toNat = pc') (K : Go l Z y bytes mx rt R EL n0 w Q h kc ks SL pc' L S) : Go l Z y bytes mx rt R EL n0 w Q h kc ks SL pc L (.null :: S) := Go.st (fun W t kk => by obtain ⟨⟨hx, hby, -⟩, _, _, X, -⟩ := W; exact XS.ifnullYes X.here hx rfl rfl (hb hby hd) rfl ho hp kk) K
theorem Go.ifnullF {o : Int} {b : Addr} (hd : decode bytes pc = .ok (.ifnull o, 3)) (q : pc + 3 = pc') (K : Go l Z y bytes mx rt R EL n0 w Q h kc ks SL pc' L S) : Go l Z y bytes mx rt R EL n0 w Q h kc ks SL pc L (.ref b :: S) := Go.st (fun W t kk => by obtain ⟨⟨hx, hby, -⟩, _, _, X, -⟩ := W; subst q; exact XS.ifnullNo X.here hx rfl (hb hby hd) rfl kk) K
theorem Go.ifnonnullT {o : Int} {b : Addr} (hd : decode bytes pc = .ok (.ifnonnull o, 3)) (ho : 0 ≤ (pc : Int) + o) (hp : ((pc : Int) + o).toNat = pc') (K : Go l Z y bytes mx rt R EL n0 w Q h kc ks SL pc' L S) : Go l Z y bytes mx rt R EL n0 w Q h kc ks SL pc L (.ref b :: S) := Go.st (fun W t kk => by obtain ⟨⟨hx, hby, -⟩, _, _, X, -⟩ := W; exact XS.ifnonnullYes X.here hx rfl rfl (hb hby hd) rfl ho hp kk) K
theorem Go.ifnonnullF {o : Int} (hd : decode bytes pc = .ok (.ifnonnull o, 3)) (q : pc + 3 = pc') (K : Go l Z y bytes mx rt R EL n0 w Q h kc ks SL pc' L S) : Go l Z y bytes mx rt R EL n0 w Q h kc ks SL pc L (.null :: S) := Go.st (fun W t kk => by obtain ⟨⟨hx, hby, -⟩, _, _, X, -⟩ := W; subst q; exact XS.ifnonnullNo X.here hx rfl (hb hby hd) rfl kk) K
theorem Go.acmp {cd : ClassFile.ACond} {x x2 : Value} {o : Int} (same : Bool) (hd : decode bytes pc = .ok (.if_acmp cd o, 3)) (h1 : x.isRef = true) (h2 : x2.isRef = true) (hq : decide (x = x2) = same) (ho : 0 ≤ (pc : Int) + o) (hp : pc' = if acV cd same = true then ((pc : Int) + o).toNat else pc + 3) (K : Go l Z y bytes mx rt R EL n0 w Q h kc ks SL pc' L S) : Go l Z y bytes mx rt R EL n0 w Q h kc ks SL pc L (x2 :: x :: S) := Go.st (fun W t kk => by obtain ⟨⟨hx, hby, -⟩, _, _, X, -⟩ := W; exact RoadKit.acmp X hx rfl h1 h2 rfl (hb hby hd) rfl hq ho hp kk) K
theorem Go.st1 {n : Nat} (q : pc + n = pc') (hst : ∀ {p : Program} {e : Env} {s : State} {m : MethodId} {args : Array Value} {below : List Frame} {meth : Method} {c : Code} {T : State} {locs : List Loc}, Stand p l e R (s.setVm T.vm) m args below meth c T locs kc ks → T.heap = h → p.tables.exec = Jvm.exec → c.code = bytes → Z.Warmed39 T.vm → T.vm.findClass y.cls = some m.cls → ∀ t, Steps p.tables e below (T.setTop (mkF m (pc + n) L' S')) t → Steps p.tables e below (T.setTop (mkF m pc L S)) t)
    (K : Go l Z y bytes mx rt R EL n0 w Q h kc ks SL pc' L' S') : Go l Z y bytes mx rt R EL n0 w Q h kc ks SL pc L S := by
  subst q
  exact Go.st (fun W t kk => by
    obtain ⟨⟨hx, hby, -⟩, _, _, X, e1, -, -, hZ, hown, -⟩ := W
    exact hst X e1 hx hby hZ hown t kk) K
/-- both ways of a branch -/
theorem Go.icmp {cd : ClassFile.Cond} {x x2 : Int32} {o : Int} (hd : decode bytes pc = .ok (.if_icmp cd o, 3)) (ho : 0 ≤ (pc : Int) + o) (hp : ((pc : Int) + o).toNat = pc') (q : pc + 3 = pc'') (Kt : cP cd x x2 → Go l Z y bytes mx rt R EL n0 w Q h kc ks SL pc' L S) (Kf : cP (cneg cd) x x2 → Go l Z y bytes mx rt R EL n0 w Q h kc ks SL pc'' L S) : Go l Z y bytes mx rt R EL n0 w Q h kc ks SL pc L (.int x2 :: .int x :: S) :=
  (cP_em cd x x2).elim (fun hc => Go.icmpT hd hc ho hp (Kt hc)) (fun hc => Go.icmpF hd hc q (Kf hc))
theorem Go.ifc {cd : ClassFile.Cond} {x : Int32} {o : Int} (hd : decode bytes pc = .ok (.ifCond cd o, 3)) (ho : 0 ≤ (pc : Int) + o) (hp : ((pc : Int) + o).toNat = pc') (q : pc + 3 = pc'') (Kt : cP cd x 0 → Go l Z y bytes mx rt R EL n0 w Q h kc ks SL pc' L S) (Kf : cP (cneg cd) x 0 → Go l Z y bytes mx rt R EL n0 w Q h kc ks SL pc'' L S) : Go l Z y bytes mx rt R EL n0 w Q h kc ks SL pc L (.int x :: S) :=
  (cP_em cd x 0).elim (fun hc => Go.ifT hd hc ho hp (Kt hc)) (fun hc => Go.ifF hd hc q (Kf hc))
theorem Go.ldcI {index : Nat} {z : Int32} (hd : decode bytes pc = .ok (.ldc index, 2)) (wd : (Jvm.Cond.constant y.cls index z).before a1 Z = true) (q : pc + 2 = pc') (K : Go l Z y bytes mx rt R EL n0 w Q h kc ks SL pc' L (.int z :: S)) : Go l Z y bytes mx rt R EL n0 w Q h kc ks SL pc L S :=
  Go.st1 q (fun X e1 hx hby hZ hown t kk => X.ldcInt hx hown (mv (s := State.setVm _ _) hZ wd) (g := mkF _ pc L S) rfl (hb hby hd) t kk) K
theorem Go.ldc2J {index : Nat} {z : Int64} (hd : decode bytes pc = .ok (.ldc2_w index, 3)) (wd : (Jvm.Cond.constantLong y.cls index z).before a1 Z = true) (q : pc + 3 = pc') (K : Go l Z y bytes mx rt R EL n0 w Q h kc ks SL pc' L (.long z :: S)) : Go l Z y bytes mx rt R EL n0 w Q h kc ks SL pc L S :=
  Go.st1 q (fun X e1 hx hby hZ hown t kk => X.ldc2Long hx hown (mv (s := State.setVm _ _) hZ wd) (g := mkF _ pc L S) rfl (hb hby hd) t kk) K
theorem Go.getF {R0 O n d host : String} {index : Nat} {a : Addr} {v : Value} (hd : decode bytes pc = .ok (.getfield index, 3)) (wd : (Jvm.Cond.fieldLink y.cls index R0 n d).before a1 Z = true ∨ (Jvm.Cond.fieldLinkNest y.cls index R0 n d host).before a1 Z = true) (via : Via Z R0 O n d) (F : Fld Z h a O n d v) (q : pc + 3 = pc')
    (K : Go l Z y bytes mx rt R EL n0 w Q h kc ks SL pc' L (v :: S)) : Go l Z y bytes mx rt R EL n0 w Q h kc ks SL pc L (.ref a :: S) := by
  intro p e s m args below meth c T W
  subst q
  have W0 := W
  obtain ⟨⟨hx, hby, -⟩, k0, locs, X, e1, -, -, hZ, hown, hC, N, -, hSf⟩ := W
  obtain ⟨T', X', e', st⟩ := RoadKit.getF X hx hZ hown wd via e1 F (g := mkF m pc L (.ref a :: S)) rfl rfl (hb hby hd)
  obtain ⟨s₂, o, st2, r⟩ := K p e s m args below meth c T' (W0.next X' e' (CHr.refl hC.1) N hSf)
  exact ⟨s₂, o, st _ st2, r⟩
theorem Go.getS {R0 O n d host : String} {index : Nat} {v : Value} (hd : decode bytes pc = .ok (.getstatic index, 3)) (wd : (Jvm.Cond.fieldLink y.cls index R0 n d).before a1 Z = true ∨ (Jvm.Cond.fieldLinkNest y.cls index R0 n d host).before a1 Z = true) (via : Via Z R0 O n d) (F : Sta Z h O n d v) (q : pc + 3 = pc')
    (K : Go l Z y bytes mx rt R EL n0 w Q h kc ks SL pc' L (v :: S)) : Go l Z y bytes mx rt R EL n0 w Q h kc ks SL pc L S := by
  intro p e s m args below meth c T W
  subst q
  have W0 := W
  obtain ⟨⟨hx, hby, -⟩, k0, locs, X, e1, -, -, hZ, hown, hC, N, -, hSf⟩ := W
  obtain ⟨T', X', e', st⟩ := RoadKit.getS2 X hx hZ hown wd via e1 F (g := mkF m pc L S) rfl (hb hby hd)
  obtain ⟨s₂, o, st2, r⟩ := K p e s m args below meth c T' (W0.next X' e' (CHr.refl hC.1) N hSf)
  exact ⟨s₂, o, st _ st2, r⟩
/-- the cell at a is no literal's -/
def Sf (Z : State) (EL : List (String × Nat)) (SL : List Addr) (h : Heap) (a : Addr) : Prop := ∀ vm, Z.Warmed39 vm → Sfs Z EL vm h SL → Safe Z EL vm h a
theorem Sf.exa {a : Addr} {C : String} (E : Exa Z h a C) (h1 : C ≠ "java/lang/String") (h2 : C ≠ "[B") : Sf Z EL SL h a := fun vm hZ _ => Safe.exa hZ.alike E h1 h2
theorem Sf.mem {a : Addr} (hm : a ∈ SL) : Sf Z EL SL h a := fun vm _ F => (F a hm).2
theorem Sf.nil {a : Addr} : Sf Z [] SL h a := fun vm _ _ B => by obtain ⟨p, hp, -⟩ := B; cases hp
theorem Sf.arr {a : Addr} {cl : Cell} {ty : FieldType} (A : Arr Z h a cl ty) (ht : ty ≠ .byte) : Sf Z EL SL h a := fun vm hZ _ => Safe.arr hZ.alike A ht
theorem Go.putF {R0 O n d host C : String} {index kk : Nat} {ty : FieldType} {a : Addr} {v old : Value} (hd : decode bytes pc = .ok (.putfield index, 3)) (wd : (Jvm.Cond.fieldLink y.cls index R0 n d).before a1 Z = true ∨ (Jvm.Cond.fieldLinkNest y.cls index R0 n d host).before a1 Z = true) (via : Via Z R0 O n d) (F : Fld Z h a O n d old) (E : Exa Z h a C)
    (Ly : (Jvm.Cond.lays C O n d).before a1 Z = true ∨ ((Jvm.Cond.laysFinal C O n d).before a1 Z = true ∧ y.cls = O ∧ y.name = "<init>")) (wi : (Jvm.Cond.instantiable C kk).before a1 Z = true) (hty : parseFieldDescriptor d = some ty) (hn : narrow ty v = v) (hf : fits ty v = true) (hsafe : Sf Z EL SL h a) (ha : n0 ≤ a) (q : pc + 3 = pc')
    (K : ∀ h', Wr h h' a (RoadKit.slotOf Z O n d) v → Go l Z y bytes mx rt R EL n0 w Q h' kc ks SL pc' L S) : Go l Z y bytes mx rt R EL n0 w Q h kc ks SL pc L (v :: .ref a :: S) := by
  intro p e s m args below meth c T W
  subst q
  have W0 := W
  obtain ⟨⟨hx, hby, -, -, -, hnm, -⟩, k0, locs, X, e1, -, -, hZ, hown, hC, N, -, hSf⟩ := W
  obtain ⟨T', h', X', e', Wr', st⟩ := RoadKit.putF X hx hZ hown wd via e1 F E (Ly.imp id fun q => ⟨q.1, q.2.1, hnm.trans q.2.2⟩) wi hty hn hf (g := mkF m pc L (v :: .ref a :: S)) rfl rfl (hb hby hd)
  have A := CHr.wr Wr' (hsafe _ hZ hSf) hC.1
  obtain ⟨s₂, o, st2, r⟩ := K h' Wr' p e s m args below meth c T' (W0.next X' e' A (Fr.snoc X' N ha) (hSf.chr A))
  exact ⟨s₂, o, st _ st2, r⟩
theorem Go.newO {C : String} {index n : Nat} (hd : decode bytes pc = .ok (.new index, 3)) (wd : (Jvm.Cond.classLink y.cls index C).before a1 Z = true) (wi : (Jvm.Cond.instantiable C n).before a1 Z = true) (wz : (Jvm.Cond.initialized C).before a1 Z = true) (hc : kc + 1 ≤ R.cells) (hl : ks + n ≤ R.slots) (q : pc + 3 = pc')
    (K : ∀ (a : Addr) (h' : Heap), a = h.size → Ext h h' → Exa Z h' a C → (∀ {O nm d : String} {ty : FieldType}, Laid Z a1 C O nm d → parseFieldDescriptor d = some ty → Fld Z h' a O nm d (defaultValue ty)) → Go l Z y bytes mx rt R EL n0 w Q h' (kc + 1) (ks + n) (a :: SL) pc' L (.ref a :: S)) : Go l Z y bytes mx rt R EL n0 w Q h kc ks SL pc L S := by
  intro p e s m args below meth c T W
  subst q
  have W0 := W
  obtain ⟨⟨hx, hby, -⟩, k0, locs, X, e1, -, -, hZ, hown, hC, N, -, hSf⟩ := W
  obtain ⟨T', h', X', e', E, A, D, -, st⟩ := RoadKit.newO X hx hZ hown wd wi wz e1 (g := mkF m pc L S) rfl (hb hby hd) hc hl
  have B := CHr.ext (vm := T.vm) (EL := EL) (Z := Z) E hC.1
  have hS2 : Sfs Z EL T.vm h' (h.size :: SL) := fun x hx' => by
    rcases List.mem_cons.mp hx' with rfl | q
    · exact ⟨A.lt, Safe.ext E hC.1 (Safe.new (Nat.le_refl _))⟩
    · exact hSf.chr B x q
  obtain ⟨s₂, o, st2, r⟩ := K h.size h' rfl E A D p e s m args below meth c T' (W0.next X' e' B N hS2)
  exact ⟨s₂, o, st _ st2, r⟩
theorem Go.newP {aty : ArrayType} {n : Int32} (cap : Nat) (hd : decode bytes pc = .ok (.newarray aty, 2)) (wd : (Jvm.Cond.arrayClass (newarray.typeOf aty)).before a1 Z = true) (hn : ¬ n < 0) (hcap : n.toNatClampNeg ≤ cap) (hb' : cap * 8 ≤ 536870912) (hc : kc + 1 ≤ R.cells) (hl : ks + cap ≤ R.slots) (q : pc + 2 = pc')
    (K : ∀ (a : Addr) (h' : Heap) (cA : ClassId), a = h.size → Ext h h' → Arr Z h' a (newA cA (newarray.typeOf aty) n) (newarray.typeOf aty) → Go l Z y bytes mx rt R EL n0 w Q h' (kc + 1) (ks + cap) (a :: SL) pc' L (.ref a :: S)) : Go l Z y bytes mx rt R EL n0 w Q h kc ks SL pc L (.int n :: S) := by
  intro p e s m args below meth c T W
  subst q
  have W0 := W
  obtain ⟨⟨hx, hby, -⟩, k0, locs, X, e1, -, -, hZ, hown, hC, N, -, hSf⟩ := W
  obtain ⟨T', h', cA, X', e', E, A, st⟩ := RoadKit.newP X hx hZ wd e1 (g := mkF m pc L (.int n :: S)) rfl (hb hby hd) rfl hn hcap hb' hc hl
  have B := CHr.ext (vm := T.vm) (EL := EL) (Z := Z) E hC.1
  have hS2 : Sfs Z EL T.vm h' (h.size :: SL) := fun x hx' => by
    rcases List.mem_cons.mp hx' with rfl | q
    · exact ⟨A.lt, Safe.ext E hC.1 (Safe.new (Nat.le_refl _))⟩
    · exact hSf.chr B x q
  obtain ⟨s₂, o, st2, r⟩ := K h.size h' cA rfl E A p e s m args below meth c T' (W0.next X' e' B N hS2)
  exact ⟨s₂, o, st _ st2, r⟩
theorem Go.initO {index : Nat} {a : Addr} (hd : decode bytes pc = .ok (.invokespecial index, 3)) (w1 : (Jvm.Cond.methodLink y.cls index Lib.objectInit).before a1 Z = true) (w2 : (Jvm.Cond.instanceMethod Lib.objectInit).before a1 Z = true) (w3 : (Jvm.Cond.code Lib.objectInit ⟨#[0xb1]⟩ 1 none).before a1 Z = true) (hL : L.size = mx) (hf : 1 ≤ R.frames) (Wd : Nat) (hW : (S.map fun v => v.category).sum = Wd) (hl : Wd + 12 ≤ R.locals) (q : pc + 3 = pc')
    (K : Go l Z y bytes mx rt R EL n0 w Q h kc ks SL pc' L S) : Go l Z y bytes mx rt R EL n0 w Q h kc ks SL pc L (.ref a :: S) := by
  intro p e s m args below meth c T W
  subst q
  have W0 := W
  obtain ⟨⟨hx, hby, hml, -⟩, k0, locs, X, e1, -, -, hZ, hown, hC, N, -, hSf⟩ := W
  obtain ⟨T', X', e', st⟩ := RoadKit.initO X hx hZ hown w1 w2 w3 e1 (g := mkF m pc L (.ref a :: S)) rfl (hL.trans hml.symm) rfl (hb hby hd) hf (W := Wd) (by show 2 * 0 + _ ≤ _; omega) hl
  obtain ⟨s₂, o, st2, r⟩ := K p e s m args below meth c T' (W0.next X' e' (CHr.refl hC.1) N hSf)
  exact ⟨s₂, o, st _ st2, r⟩
/-- a String constant, unread -/
theorem Go.ldcO {index : Nat} {text : String} (n : Nat) (hd : decode bytes pc = .ok (.ldc index, 2)) (hw : w = true) (wd : (Jvm.Cond.stringLink y.cls index text).before a1 Z = true) (wS : ∀ d ∈ Bundle.stringAtoms, d.before a1 Z = true) (hn : 4 * text.toList.length ≤ n) (hbig : n ≤ 536870912) (hc : kc + 2 ≤ R.cells) (hl : ks + (n + 4) ≤ R.slots) (q : pc + 2 = pc') (hEL : EW Z a1 EL)
    (K : ∀ (a : Addr) (h' : Heap), Ext h h' → Go l Z y bytes mx rt R EL n0 w Q h' (kc + 2) (ks + (n + 4)) SL pc' L (.ref a :: S)) : Go l Z y bytes mx rt R EL n0 w Q h kc ks SL pc L S := by
  intro p e s m args below meth c T W
  subst q
  have W0 := W
  obtain ⟨⟨hx, hby, -⟩, k0, locs, X, e1, hS, hk, hZ, hown, hC, N, -, hSf⟩ := W
  obtain ⟨a, T', h', k1, X', e', E, hS', hk', hZ', hown', hC', -, st⟩ := RoadKit.ldcOH (s := s.setVm T.vm) (vm0 := T.vm) X hx hZ hown wd wS e1 (k0 := h.size) ((State.WarmedH.refl _).since _) (Nat.le_refl _) hEL hC.1 (g := mkF m pc L S) rfl (hb hby hd) hn hbig hc hl
  have hS2 : (s.setVm T.vm).Since T'.vm h'.size := ⟨hS'.1, fun j p hj hp => by obtain ⟨z1, z2⟩ := hS'.2 j p hj hp; exact ⟨z1, Nat.lt_of_lt_of_le z2 hk'⟩⟩
  obtain ⟨s₂, o, st2, r⟩ := K a h' E p e s m args below meth c T' (W0.nextS X' e' hS2 E.1 (Nat.le_refl _) hC' N (fun q => by rw [hw] at q; cases q) (hSf.chr hC'))
  exact ⟨s₂, o, st _ st2, r⟩
/-- a String constant, read -/
theorem Go.ldcR {index : Nat} {text : String} (n : Nat) {vs : List Value} {z : Int32} (hd : decode bytes pc = .ok (.ldc index, 2)) (hw : w = true) (wd : (Jvm.Cond.stringLink y.cls index text).before a1 Z = true) (wS : ∀ d ∈ Bundle.stringAtoms, d.before a1 Z = true) (hn : 4 * text.toList.length ≤ n) (hbig : n ≤ 536870912) (hc : kc + 2 ≤ R.cells) (hl : ks + (n + 4) ≤ R.slots) (q : pc + 2 = pc') (hEL : EW Z a1 EL) (hmem : (y.cls, index) ∈ EL)
    (ht : (∀ c ∈ text.toList, c.toNat < 256) ∧ text.toList.map (fun c => Value.int (Jvm.Lit.byteI c.toNat.toUInt16)) = vs) (hz : ¬ z < 0) (hzl : z.toNatClampNeg = vs.length)
    (K : ∀ (a : Addr) (h' : Heap) (b : Addr) (k : ClassId), Ext h h' → Exa Z h' a "java/lang/String" → Fld Z h' a "java/lang/String" "coder" "B" (.int 0) → Fld Z h' a "java/lang/String" "value" "[B" (.ref b) → Arv Z h' b k .byte z vs (.int 0) → (∀ x ∈ SL, x ≠ a ∧ x ≠ b) → Go l Z y bytes mx rt R EL n0 w Q h' (kc + 2) (ks + (n + 4)) SL pc' L (.ref a :: S)) : Go l Z y bytes mx rt R EL n0 w Q h kc ks SL pc L S := by
  intro p e s m args below meth c T W
  subst q
  have W0 := W
  obtain ⟨⟨hx, hby, -⟩, k0, locs, X, e1, hS, hk, hZ, hown, hC, N, -, hSf⟩ := W
  obtain ⟨a, T', h', k1, b, k, X', e', E, hS', hk', hZ', hown', E1, E2, E3, E4, -, -, hC', -, hne, st⟩ := RoadKit.ldcCH (s := s.setVm T.vm) (vm0 := T.vm) X hx hZ hown wd wS e1 (k0 := h.size) ((State.WarmedH.refl _).since _) (Nat.le_refl _) hEL hmem hC.1 ht hz hzl (g := mkF m pc L S) rfl (hb hby hd) hn hbig hc hl
  have hS2 : (s.setVm T.vm).Since T'.vm h'.size := ⟨hS'.1, fun j p hj hp => by obtain ⟨z1, z2⟩ := hS'.2 j p hj hp; exact ⟨z1, Nat.lt_of_lt_of_le z2 hk'⟩⟩
  obtain ⟨s₂, o, st2, r⟩ := K a h' b k E E1 E2 E3 E4 (fun x hx' => hne x ((hSf.chr hC') x hx').2) p e s m args below meth c T' (W0.nextS X' e' hS2 E.1 (Nat.le_refl _) hC' N (fun q => by rw [hw] at q; cases q) (hSf.chr hC'))
  exact ⟨s₂, o, st _ st2, r⟩
section Calls
variable {z yy : MethodName} {bytesZ : ByteArray} {mxZ : Nat} {rtZ : Option FieldType} {rm : Room} {QZ : Option Value → Heap → List Addr → Prop} {argsL rest : List Value} {index : Nat}
theorem Go.callS (hM : Ct l Z z bytesZ mxZ rtZ rm EL n0 w [] argsL.toArray h SL' QZ) (hd : decode bytes pc = .ok (.invokestatic index, 3)) (w1 : (Jvm.Cond.methodLink y.cls index z).before a1 Z = true) (w2 : (Jvm.Cond.static z).before a1 Z = true) (w3 : (Jvm.Cond.initialized z.cls).before a1 Z = true) (w4 : (Jvm.Cond.code z bytesZ mxZ rtZ).before a1 Z = true)
    (hy : z.cls ≠ "java/lang/invoke/MethodHandle" ∧ z.cls ≠ "java/lang/invoke/VarHandle") (hlen : ∀ sig, parseMethodDescriptor z.desc = some sig → argsL.length = sig.parameters.length) (hst : S = argsL.reverse ++ rest) (Wd : Nat) (hW : (rest.map fun v => v.category).sum = Wd) (hL : L.size = mx) (hf : rm.frames + 1 ≤ R.frames) (hl : Wd + (mxZ + 11) + rm.locals ≤ R.locals) (hc : kc + rm.cells ≤ R.cells) (hs : ks + rm.slots ≤ R.slots) (hSL : ∀ x ∈ SL', x ∈ SL) (q : pc + 3 = pc')
    (K : ∀ v h' N, QZ v h' N → h.size ≤ h'.size → Go l Z y bytes mx rt R EL n0 w Q h' (kc + rm.cells) (ks + rm.slots) (N ++ SL) pc' L (v.toList ++ rest)) : Go l Z y bytes mx rt R EL n0 w Q h kc ks SL pc L S := by
  intro p e s m args below meth c T W
  subst q
  have W0 := W
  obtain ⟨⟨hx, hby, hml, -, -, -, a2, hEW⟩, k0, locs, X, e1, hS, hk, hZ, hown, hC, N, -, hSf⟩ := W
  obtain ⟨v, vm₁, ⟨T', Lt, kt, nt⟩, -, X', hS', hgr, ⟨Ls, N', hQ, hFr, l1, l2, l3, hC', hSf', hw'⟩, st⟩ := RoadKit.callSS X hx hown (mvT (s := s.setVm T.vm) hZ w1) (mvT (s := s.setVm T.vm) hZ w2) (mvT (s := s.setVm T.vm) hZ w3) (mvT (s := s.setVm T.vm) hZ w4) hy (Ct.pay (W := Wd) hM hZ hEW hC.1 (hSf.mono hSL) w4 w3 hf hl) (g := mkF m pc L S) rfl (hL.trans hml.symm) (argsL := argsL) (rest := rest) hlen hst (by show 2 * 0 + _ ≤ _; omega) (hb hby hd) (fun _ _ => ⟨rfl, e1, hc, hs⟩)
  dsimp only [Pt.U, Pt.locs, Pt.cells, Pt.slots] at X' l1 l2 l3 st hQ hC' hSf' hw' hgr hS'
  subst l1 l2 l3
  have hS2 : Sfs Z EL T'.vm T'.heap (N' ++ SL) := fun x hx' => (List.mem_append.mp hx').elim (hSf' x) (hSf.chr hC' x)
  obtain ⟨s₂, o, st2, r⟩ := K v _ N' hQ hC'.2.1 p e s m args below meth c T' (W0.nextS X' rfl hS' hC'.2.1 (Nat.le_refl _) hC' (N.app hFr) hw' hS2)
  exact ⟨s₂, o, st.trans st2, r⟩
theorem Go.callN {a : Addr} (hM : Ct l Z z bytesZ mxZ none rm EL n0 w [] (.ref a :: argsL).toArray h SL' QZ) (hd : decode bytes pc = .ok (.invokespecial index, 3)) (hz1 : z.name = "<init>") (w1 : (Jvm.Cond.methodLink y.cls index z).before a1 Z = true) (w2 : (Jvm.Cond.instanceMethod z).before a1 Z = true) (w3 : (Jvm.Cond.initialized z.cls).before a1 Z = true) (w4 : (Jvm.Cond.code z bytesZ mxZ none).before a1 Z = true)
    (hy : z.cls ≠ "java/lang/invoke/MethodHandle" ∧ z.cls ≠ "java/lang/invoke/VarHandle") (hlen : ∀ sig, parseMethodDescriptor z.desc = some sig → argsL.length = sig.parameters.length) (hst : S = argsL.reverse ++ .ref a :: rest) (Wd : Nat) (hW : (rest.map fun v => v.category).sum = Wd) (hL : L.size = mx) (hf : rm.frames + 1 ≤ R.frames) (hl : Wd + (mxZ + 11) + rm.locals ≤ R.locals) (hc : kc + rm.cells ≤ R.cells) (hs : ks + rm.slots ≤ R.slots) (hSL : ∀ x ∈ SL', x ∈ SL) (q : pc + 3 = pc')
    (K : ∀ v h' N, QZ v h' N → h.size ≤ h'.size → Go l Z y bytes mx rt R EL n0 w Q h' (kc + rm.cells) (ks + rm.slots) (N ++ SL) pc' L (v.toList ++ rest)) : Go l Z y bytes mx rt R EL n0 w Q h kc ks SL pc L S := by
  intro p e s m args below meth c T W
  subst q
  have W0 := W
  obtain ⟨⟨hx, hby, hml, -, -, -, a2, hEW⟩, k0, locs, X, e1, hS, hk, hZ, hown, hC, N, -, hSf⟩ := W
  obtain ⟨v, vm₁, ⟨T', Lt, kt, nt⟩, -, X', hS', hgr, ⟨Ls, N', hQ, hFr, l1, l2, l3, hC', hSf', hw'⟩, st⟩ := X.specialBackS hx hz1 hown (mvT (s := s.setVm T.vm) hZ w1) (mvT (s := s.setVm T.vm) hZ w2) (mvT (s := s.setVm T.vm) hZ w4) hy (Ct.pay (W := Wd) hM hZ hEW hC.1 (hSf.mono hSL) w4 w3 hf hl) (g := mkF m pc L S) rfl (hL.trans hml.symm) (Steps.refl _) (a := a) (argsL := argsL) (rest := rest) hlen hst (by show 2 * 0 + _ ≤ _; omega) (hb hby hd) (fun _ _ => ⟨rfl, e1, hc, hs⟩)
  dsimp only [Pt.U, Pt.locs, Pt.cells, Pt.slots] at X' l1 l2 l3 st hQ hC' hSf' hw' hgr hS'
  subst l1 l2 l3
  have hS2 : Sfs Z EL T'.vm T'.heap (N' ++ SL) := fun x hx' => (List.mem_append.mp hx').elim (hSf' x) (hSf.chr hC' x)
  obtain ⟨s₂, o, st2, r⟩ := K v _ N' hQ hC'.2.1 p e s m args below meth c T' (W0.nextS X' rfl hS' hC'.2.1 (Nat.le_refl _) hC' (N.app hFr) hw' hS2)
  exact ⟨s₂, o, st.trans st2, r⟩
theorem Go.callV {a : Addr} {C : String} (hM : Ct l Z z bytesZ mxZ rtZ rm EL n0 w [] (.ref a :: argsL).toArray h SL' QZ) (hd : decode bytes pc = .ok (.invokevirtual index, 3)) (w1 : (Jvm.Cond.methodLink y.cls index yy).before a1 Z = true) (wdec : (Jvm.Cond.declares yy).before a1 Z = true) (wnf : (Jvm.Cond.selects yy.cls yy yy).before a1 Z = true) (wsel : (Jvm.Cond.selects C yy z).before a1 Z = true) (w2 : (Jvm.Cond.instanceMethod z).before a1 Z = true) (w3 : (Jvm.Cond.initialized z.cls).before a1 Z = true) (w4 : (Jvm.Cond.code z bytesZ mxZ rtZ).before a1 Z = true) (E : Exa Z h a C)
    (hy : yy.cls ≠ "java/lang/invoke/MethodHandle" ∧ yy.cls ≠ "java/lang/invoke/VarHandle") (hlen : ∀ sig, parseMethodDescriptor yy.desc = some sig → argsL.length = sig.parameters.length) (hst : S = argsL.reverse ++ .ref a :: rest) (Wd : Nat) (hW : (rest.map fun v => v.category).sum = Wd) (hL : L.size = mx) (hf : rm.frames + 1 ≤ R.frames) (hl : Wd + (mxZ + 11) + rm.locals ≤ R.locals) (hc : kc + rm.cells ≤ R.cells) (hs : ks + rm.slots ≤ R.slots) (hSL : ∀ x ∈ SL', x ∈ SL) (q : pc + 3 = pc')
    (K : ∀ v h' N, QZ v h' N → h.size ≤ h'.size → Go l Z y bytes mx rt R EL n0 w Q h' (kc + rm.cells) (ks + rm.slots) (N ++ SL) pc' L (v.toList ++ rest)) : Go l Z y bytes mx rt R EL n0 w Q h kc ks SL pc L S := by
  intro p e s m args below meth c T W
  subst q
  have W0 := W
  obtain ⟨⟨hx, hby, hml, -, -, -, a2, hEW⟩, k0, locs, X, e1, hS, hk, hZ, hown, hC, N, -, hSf⟩ := W
  obtain ⟨cq, kq, qa, qb, qc⟩ := isOf (s := s.setVm T.vm) hZ e1 E
  obtain ⟨v, vm₁, ⟨T', Lt, kt, nt⟩, -, X', hS', hgr, ⟨Ls, N', hQ, hFr, l1, l2, l3, hC', hSf', hw'⟩, st⟩ := X.virtualBackS hx hown (mvT (s := s.setVm T.vm) hZ w1) (mvT (s := s.setVm T.vm) hZ wdec) (notFace_of_selects (args := #[]) (mvT (s := s.setVm T.vm) hZ wnf)) (mvT (s := s.setVm T.vm) hZ wsel) (mvT (s := s.setVm T.vm) hZ w2) hy (Ct.pay (W := Wd) hM hZ hEW hC.1 (hSf.mono hSL) w4 w3 hf hl) qa qc (g := mkF m pc L S) rfl (hL.trans hml.symm) (Steps.refl _) (argsL := argsL) (rest := rest) hlen hst (by show 2 * 0 + _ ≤ _; omega) (hb hby hd) (fun _ _ => ⟨rfl, e1, hc, hs⟩)
  dsimp only [Pt.U, Pt.locs, Pt.cells, Pt.slots] at X' l1 l2 l3 st hQ hC' hSf' hw' hgr hS'
  subst l1 l2 l3
  have hS2 : Sfs Z EL T'.vm T'.heap (N' ++ SL) := fun x hx' => (List.mem_append.mp hx').elim (hSf' x) (hSf.chr hC' x)
  obtain ⟨s₂, o, st2, r⟩ := K v _ N' hQ hC'.2.1 p e s m args below meth c T' (W0.nextS X' rfl hS' hC'.2.1 (Nat.le_refl _) hC' (N.app hFr) hw' hS2)
  exact ⟨s₂, o, st.trans st2, r⟩
end Calls
/-- the end of a body -/
theorem Go.out {v : Option Value} (hv : rt = none → v = none) (N : List Addr) (hN : ∀ x ∈ N, x ∈ SL) (hQ : Q v h N) (hc : kc ≤ R.cells) (hs : ks ≤ R.slots)
    (hst : ∀ {p : Program} {e : Env} {s : State} {m : MethodId} {args : Array Value} {below : List Frame} {meth : Method} {c : Code} {T : State} {locs : List Loc}, p.tables.exec = Jvm.exec → c.code = bytes → meth.sig.returnType = rt → Stand p l e R (s.setVm T.vm) m args below meth c T locs kc ks → ∀ fs, (∀ (f : JFrame) (acts : List Action), f.method = m → f.locked = none → f.entered = [] → (doReturn e (T.setTop f) acts v).1 = T.setFrames fs) → Steps p.tables e below (T.setTop (mkF m pc L S)) (T.setFrames fs)) :
    Go l Z y bytes mx rt R EL n0 w Q h kc ks SL pc L S := by
  intro p e s m args below meth c T W
  obtain ⟨⟨hx, hby, hml, hrt, hlk, -⟩, k0, locs, X, e1, hS, hk, hZ, hown, hC, Nn, hw', hSf⟩ := W
  obtain ⟨fs, hr, hrun, hended, hW⟩ := X.leaveW hS (by rw [e1]; exact hk) (v := v) (fun q => hv (hrt.symm.trans q)) hlk
  refine ⟨_, _, hst hx hby hrt X fs hr, hrun, hended, v, locs, N, rfl, ?_, Nn, ?_, ?_, ⟨hW.1, hW.2.1, hW.2.2.1, hW.2.2.2.mono hc hs⟩, hw'⟩
  · show Q v T.heap N; rw [e1]; exact hQ
  · show CHr Z EL s.vm s.heap T.vm T.heap; rw [e1]; exact hC
  · show Sfs Z EL T.vm T.heap N; rw [e1]; exact hSf.mono hN
theorem Go.ret0 (hr : rt = none) (N : List Addr) (hN : ∀ x ∈ N, x ∈ SL) (hd : decode bytes pc = .ok (.return_, 1)) (hc : kc ≤ R.cells) (hs : ks ≤ R.slots) (hQ : Q none h N) : Go l Z y bytes mx rt R EL n0 w Q h kc ks SL pc L [] :=
  Go.out (v := none) (fun _ => rfl) N hN hQ hc hs (fun hx hby hrt X fs hl => X.returnOut hx (hrt.trans hr) (hb hby hd) hl)
/-- a boolean, byte, char, short -/
theorem Go.retN {t : FieldType} {z : Int32} (z' : Int32) (hr : rt = some t) (ht : t = .boolean ∨ t = .byte ∨ t = .char ∨ t = .short) (hz : nar t z = z') (N : List Addr) (hN : ∀ x ∈ N, x ∈ SL) (hd : decode bytes pc = .ok (.ireturn, 1)) (hc : kc ≤ R.cells) (hs : ks ≤ R.slots) (hQ : Q (some (.int z')) h N) : Go l Z y bytes mx rt R EL n0 w Q h kc ks SL pc L (.int z :: S) :=
  Go.out (v := some (.int z')) (fun q => by rw [hr] at q; cases q) N hN hQ hc hs (fun hx hby hrt X fs hl => RoadKit.retN X hx (hrt.trans hr) ht (hb hby hd) (by rw [hz]; exact hl))
theorem Go.retI {z : Int32} (hr : rt = some .int) (N : List Addr) (hN : ∀ x ∈ N, x ∈ SL) (hd : decode bytes pc = .ok (.ireturn, 1)) (hc : kc ≤ R.cells) (hs : ks ≤ R.slots) (hQ : Q (some (.int z)) h N) : Go l Z y bytes mx rt R EL n0 w Q h kc ks SL pc L (.int z :: S) :=
  Go.out (v := some (.int z)) (fun q => by rw [hr] at q; cases q) N hN hQ hc hs (fun hx hby hrt X fs hl => RoadKit.retOut X hx (hrt.trans hr) rfl (Or.inl ⟨rfl, Or.inl rfl, _, rfl⟩) (hb hby hd) hl)
theorem Go.retJ {z : Int64} (hr : rt = some .long) (N : List Addr) (hN : ∀ x ∈ N, x ∈ SL) (hd : decode bytes pc = .ok (.lreturn, 1)) (hc : kc ≤ R.cells) (hs : ks ≤ R.slots) (hQ : Q (some (.long z)) h N) : Go l Z y bytes mx rt R EL n0 w Q h kc ks SL pc L (.long z :: S) :=
  Go.out (v := some (.long z)) (fun q => by rw [hr] at q; cases q) N hN hQ hc hs (fun hx hby hrt X fs hl => RoadKit.retOut X hx (hrt.trans hr) rfl (Or.inr (Or.inl ⟨rfl, rfl, _, rfl⟩)) (hb hby hd) hl)
theorem narrow_ref {t : FieldType} {v : Value} (ht : t.isReference = true) : narrow t v = v := by cases t <;> cases v <;> simp_all [FieldType.isReference, narrow]
theorem fits_r {t : FieldType} {v : Value} (ht : t.isReference = true) (hv : v.isRef = true) : fits t v = true := by cases t <;> cases v <;> simp_all [FieldType.isReference, fits, Value.isRef]
theorem Go.retA {t : FieldType} {v : Value} (hr : rt = some t) (ht : t.isReference = true) (hv : v.isRef = true) (N : List Addr) (hN : ∀ x ∈ N, x ∈ SL) (hd : decode bytes pc = .ok (.areturn, 1)) (hc : kc ≤ R.cells) (hs : ks ≤ R.slots) (hQ : Q (some v) h N) : Go l Z y bytes mx rt R EL n0 w Q h kc ks SL pc L (v :: S) :=
  Go.out (v := some v) (fun q => by rw [hr] at q; cases q) N hN hQ hc hs (fun hx hby hrt X fs hl => RoadKit.retOut X hx (hrt.trans hr) (narrow_ref ht) (Or.inr (Or.inr (Or.inr (Or.inr ⟨rfl, ht, hv⟩)))) (hb hby hd) hl)
/-! arrays -/
theorem Go.alen {a : Addr} {cl : Cell} {ty : FieldType} {n : Int32} (hd : decode bytes pc = .ok (.arraylength, 1)) (A : Arr Z h a cl ty) (hn : cl.slots.size.toInt32 = n) (q : pc + 1 = pc') (K : Go l Z y bytes mx rt R EL n0 w Q h kc ks SL pc' L (.int n :: S)) : Go l Z y bytes mx rt R EL n0 w Q h kc ks SL pc L (.ref a :: S) :=
  Go.st1 q (fun X e1 hx hby hZ hown t kk => X.arraylength hx (cell := cl) (ty := ty) (e1.symm ▸ A.1) (State.isArrayOf_alike hZ.alike A.2.1) (g := mkF _ pc L (.ref a :: S)) rfl rfl (hb hby hd) t (hn.symm ▸ kk)) K
theorem Go.aaload {a : Addr} {cl : Cell} {ty : FieldType} {j : Int32} {v : Value} (hd : decode bytes pc = .ok (.aaload, 1)) (A : Arr Z h a cl ty) (hty : ty.isReference = true) (hin : ¬ (j < 0 ∨ cl.slots.size ≤ j.toNatClampNeg)) (hv : cl.slots[j.toNatClampNeg]? = some v) (q : pc + 1 = pc') (K : Go l Z y bytes mx rt R EL n0 w Q h kc ks SL pc' L (v :: S)) : Go l Z y bytes mx rt R EL n0 w Q h kc ks SL pc L (.int j :: .ref a :: S) :=
  Go.st1 q (fun X e1 hx hby hZ hown t kk => X.aaload hx (cell := cl) (e1.symm ▸ A.1) (State.isArrayOf_alike hZ.alike A.2.1) hty A.2.2 hin hv (g := mkF _ pc L (.int j :: .ref a :: S)) rfl rfl (hb hby hd) t kk) K
theorem Go.iaload {a : Addr} {cl : Cell} {j : Int32} {v : Value} (hd : decode bytes pc = .ok (.iaload, 1)) (A : Arr Z h a cl .int) (hin : ¬ (j < 0 ∨ cl.slots.size ≤ j.toNatClampNeg)) (hv : cl.slots[j.toNatClampNeg]? = some v) (q : pc + 1 = pc') (K : Go l Z y bytes mx rt R EL n0 w Q h kc ks SL pc' L (v :: S)) : Go l Z y bytes mx rt R EL n0 w Q h kc ks SL pc L (.int j :: .ref a :: S) :=
  Go.st1 q (fun X e1 hx hby hZ hown t kk => X.iaload hx (cell := cl) (e1.symm ▸ A.1) (State.isArrayOf_alike hZ.alike A.2.1) A.2.2 hin hv (g := mkF _ pc L (.int j :: .ref a :: S)) rfl rfl (hb hby hd) t kk) K
theorem Go.baload {a : Addr} {cl : Cell} {j : Int32} {v : Value} (hd : decode bytes pc = .ok (.baload, 1)) (A : Arr Z h a cl .byte) (hin : ¬ (j < 0 ∨ cl.slots.size ≤ j.toNatClampNeg)) (hv : cl.slots[j.toNatClampNeg]? = some v) (q : pc + 1 = pc') (K : Go l Z y bytes mx rt R EL n0 w Q h kc ks SL pc' L (v :: S)) : Go l Z y bytes mx rt R EL n0 w Q h kc ks SL pc L (.int j :: .ref a :: S) :=
  Go.st1 q (fun X e1 hx hby hZ hown t kk => X.baloadBytes hx (cell := cl) (e1.symm ▸ A.1) (State.isArrayOf_alike hZ.alike A.2.1) A.2.2 hin hv (g := mkF _ pc L (.int j :: .ref a :: S)) rfl rfl (hb hby hd) t kk) K
theorem Go.caload {a : Addr} {cl : Cell} {j : Int32} {v : Value} (hd : decode bytes pc = .ok (.caload, 1)) (A : Arr Z h a cl .char) (hin : ¬ (j < 0 ∨ cl.slots.size ≤ j.toNatClampNeg)) (hv : cl.slots[j.toNatClampNeg]? = some v) (q : pc + 1 = pc') (K : Go l Z y bytes mx rt R EL n0 w Q h kc ks SL pc' L (v :: S)) : Go l Z y bytes mx rt R EL n0 w Q h kc ks SL pc L (.int j :: .ref a :: S) :=
  Go.st1 q (fun X e1 hx hby hZ hown t kk => X.caload hx (cell := cl) (e1.symm ▸ A.1) (State.isArrayOf_alike hZ.alike A.2.1) A.2.2 hin hv (g := mkF _ pc L (.int j :: .ref a :: S)) rfl rfl (hb hby hd) t kk) K
theorem Go.castore {a : Addr} {cl : Cell} {j x : Int32} (hd : decode bytes pc = .ok (.castore, 1)) (A : Arr Z h a cl .char) (hin : ¬ (j < 0 ∨ cl.slots.size ≤ j.toNatClampNeg)) (ha : n0 ≤ a) (q : pc + 1 = pc')
    (K : ∀ h', Wr h h' a j.toNatClampNeg (.int (nar .char x)) → Go l Z y bytes mx rt R EL n0 w Q h' kc ks SL pc' L S) : Go l Z y bytes mx rt R EL n0 w Q h kc ks SL pc L (.int x :: .int j :: .ref a :: S) := by
  intro p e s m args below meth c T W
  subst q
  have W0 := W
  obtain ⟨⟨hx, hby, -⟩, k0, locs, X, e1, -, -, hZ, hown, hC, N, -, hSf⟩ := W
  obtain ⟨T', h', X', e', Wr', st⟩ := RoadKit.stC X hx hZ e1 A hin (g := mkF m pc L (.int x :: .int j :: .ref a :: S)) rfl rfl (hb hby hd)
  have B := CHr.wr Wr' (Safe.arr hZ.alike A (by decide)) hC.1
  obtain ⟨s₂, o, st2, r⟩ := K h' Wr' p e s m args below meth c T' (W0.next X' e' B (Fr.snoc X' N ha) (hSf.chr B))
  exact ⟨s₂, o, st _ st2, r⟩
theorem Go.bastore {a : Addr} {cl : Cell} {j x : Int32} (hd : decode bytes pc = .ok (.bastore, 1)) (A : Arr Z h a cl .byte) (hin : ¬ (j < 0 ∨ cl.slots.size ≤ j.toNatClampNeg)) (hsafe : Sf Z EL SL h a) (ha : n0 ≤ a) (q : pc + 1 = pc')
    (K : ∀ h', Wr h h' a j.toNatClampNeg (.int (nar .byte x)) → Go l Z y bytes mx rt R EL n0 w Q h' kc ks SL pc' L S) : Go l Z y bytes mx rt R EL n0 w Q h kc ks SL pc L (.int x :: .int j :: .ref a :: S) := by
  intro p e s m args below meth c T W
  subst q
  have W0 := W
  obtain ⟨⟨hx, hby, -⟩, k0, locs, X, e1, -, -, hZ, hown, hC, N, -, hSf⟩ := W
  obtain ⟨T', h', X', e', Wr', st⟩ := RoadKit.stB X hx hZ e1 A hin (g := mkF m pc L (.int x :: .int j :: .ref a :: S)) rfl rfl (hb hby hd)
  have B := CHr.wr Wr' (hsafe _ hZ hSf) hC.1
  obtain ⟨s₂, o, st2, r⟩ := K h' Wr' p e s m args below meth c T' (W0.next X' e' B (Fr.snoc X' N ha) (hSf.chr B))
  exact ⟨s₂, o, st _ st2, r⟩
/-- two roads that meet: the rest is walked once -/
theorem Go.cut {α : Type} (pcJ : Nat) (LJ : α → Array Slot) (SJ : α → List Value) (K : ∀ r, Go l Z y bytes mx rt R EL n0 w Q h kc ks SL pcJ (LJ r) (SJ r)) (K2 : (∀ r, Go l Z y bytes mx rt R EL n0 w Q h kc ks SL pcJ (LJ r) (SJ r)) → Go l Z y bytes mx rt R EL n0 w Q h kc ks SL pc L S) : Go l Z y bytes mx rt R EL n0 w Q h kc ks SL pc L S := K2 K
end Rules
end Jvm.GoKit
namespace Jvm.GoKit
open Sem ClassFile Op Lib Jvm.Stand Jvm.Free Jvm.LawKit Jvm.RoadKit
section RulesV
variable {l : Launch} {Z : State} {y : MethodName} {bytes : ByteArray} {mx : Nat} {rt : Option FieldType} {R : Room} {EL : List (String × Nat)} {n0 : Nat} {w : Bool} {Q : Option Value → Heap → List Addr → Prop} {h h' : Heap} {kc ks kc' ks' : Nat} {SL SL' : List Addr} {pc pc' pc'' : Nat} {L L' : Array Slot} {S S' : List Value} {a0 a1 : Array Value}
variable {a : Addr} {k : ClassId} {ty : FieldType} {n j x : Int32} {vs : List Value} {d v : Value}
theorem Go.alenV (hd : decode bytes pc = .ok (.arraylength, 1)) (F : Arv Z h a k ty n vs d) (q : pc + 1 = pc') (K : Go l Z y bytes mx rt R EL n0 w Q h kc ks SL pc' L (.int n :: S)) : Go l Z y bytes mx rt R EL n0 w Q h kc ks SL pc L (.ref a :: S) := by
  obtain ⟨c, A, -, s1, s2, -⟩ := F
  exact Go.alen hd A (len_of s1 s2) q K
theorem Go.baloadV (hd : decode bytes pc = .ok (.baload, 1)) (F : Arv Z h a k .byte n vs d) (hj : ¬ j < 0 ∧ j < n) (hv : vs.getD j.toNatClampNeg d = v) (q : pc + 1 = pc') (K : Go l Z y bytes mx rt R EL n0 w Q h kc ks SL pc' L (v :: S)) : Go l Z y bytes mx rt R EL n0 w Q h kc ks SL pc L (.int j :: .ref a :: S) := by
  obtain ⟨c, A, -, s1, s2, H, -⟩ := F
  exact Go.baload hd A (inb_of s1 hj) (H.at (inb_of s1 hj) hv) q K
theorem Go.caloadV (hd : decode bytes pc = .ok (.caload, 1)) (F : Arv Z h a k .char n vs d) (hj : ¬ j < 0 ∧ j < n) (hv : vs.getD j.toNatClampNeg d = v) (q : pc + 1 = pc') (K : Go l Z y bytes mx rt R EL n0 w Q h kc ks SL pc' L (v :: S)) : Go l Z y bytes mx rt R EL n0 w Q h kc ks SL pc L (.int j :: .ref a :: S) := by
  obtain ⟨c, A, -, s1, s2, H, -⟩ := F
  exact Go.caload hd A (inb_of s1 hj) (H.at (inb_of s1 hj) hv) q K
theorem Go.ialoadV (hd : decode bytes pc = .ok (.iaload, 1)) (F : Arv Z h a k .int n vs d) (hj : ¬ j < 0 ∧ j < n) (hv : vs.getD j.toNatClampNeg d = v) (q : pc + 1 = pc') (K : Go l Z y bytes mx rt R EL n0 w Q h kc ks SL pc' L (v :: S)) : Go l Z y bytes mx rt R EL n0 w Q h kc ks SL pc L (.int j :: .ref a :: S) := by
  obtain ⟨c, A, -, s1, s2, H, -⟩ := F
  exact Go.iaload hd A (inb_of s1 hj) (H.at (inb_of s1 hj) hv) q K
theorem Go.newPV {aty : ArrayType} (cap : Nat) (vs : List Value) (hd : decode bytes pc = .ok (.newarray aty, 2)) (wd : (Jvm.Cond.arrayClass (newarray.typeOf aty)).before a1 Z = true) (hn : ¬ n < 0) (hcap : n.toNatClampNeg ≤ cap) (hb' : cap * 8 ≤ 536870912) (hc : kc + 1 ≤ R.cells) (hl : ks + cap ≤ R.slots) (hvs : vs = List.replicate n.toNatClampNeg (defaultValue (newarray.typeOf aty))) (q : pc + 2 = pc')
    (K : ∀ (a : Addr) (h' : Heap) (cA : ClassId), a = h.size → Ext h h' → Arv Z h' a cA (newarray.typeOf aty) n vs (defaultValue (newarray.typeOf aty)) → Go l Z y bytes mx rt R EL n0 w Q h' (kc + 1) (ks + cap) (a :: SL) pc' L (.ref a :: S)) : Go l Z y bytes mx rt R EL n0 w Q h kc ks SL pc L (.int n :: S) :=
  Go.newP cap hd wd hn hcap hb' hc hl q (fun a h' cA e E A => K a h' cA e E ((Arv.new A hn).pad (by rw [hvs, ← List.nil_append (List.replicate _ _)]; exact pad_rep _ _ _)))
theorem Go.castoreV (i : Nat) (hd : decode bytes pc = .ok (.castore, 1)) (F : Arv Z h a k .char n vs d) (hj : ¬ j < 0 ∧ j < n) (hi : j.toNatClampNeg = i) (hl : i < vs.length) (ha : n0 ≤ a) (q : pc + 1 = pc')
    (K : ∀ h', Wr h h' a j.toNatClampNeg (.int (nar .char x)) → Arv Z h' a k .char n (vs.set i (.int (nar .char x))) d → Go l Z y bytes mx rt R EL n0 w Q h' kc ks SL pc' L S) : Go l Z y bytes mx rt R EL n0 w Q h kc ks SL pc L (.int x :: .int j :: .ref a :: S) := by
  obtain ⟨c, A, q1, s1, s2, H, G⟩ := F
  exact Go.castore hd A (inb_of s1 hj) ha q (fun h' W => K h' W (Arv.set A q1 s1 s2 H G (fits_nar_char x) W i hi hl))
theorem fits_nar_byte (x : Int32) : fits .byte (.int (nar .byte x)) = true := by
  have h1 := Int8.toInt_lt x.toInt8
  have h2 := Int8.le_toInt x.toInt8
  have e : (x.toInt8.toInt32).toInt = x.toInt8.toInt := Int8.toInt_toInt32 _
  simp only [fits, nar, Bool.and_eq_true, decide_eq_true_eq, Int32.le_iff_toInt_le]
  rw [e]
  first
    | exact ⟨by have : ((-128 : Int32)).toInt = -128 := by decide
                omega, by have : ((127 : Int32)).toInt = 127 := by decide
                          omega⟩
    | omega
theorem Go.bastoreV (i : Nat) (hd : decode bytes pc = .ok (.bastore, 1)) (F : Arv Z h a k .byte n vs d) (hj : ¬ j < 0 ∧ j < n) (hi : j.toNatClampNeg = i) (hl : i < vs.length) (hsafe : Sf Z EL SL h a) (ha : n0 ≤ a) (q : pc + 1 = pc')
    (K : ∀ h', Wr h h' a j.toNatClampNeg (.int (nar .byte x)) → Arv Z h' a k .byte n (vs.set i (.int (nar .byte x))) d → Go l Z y bytes mx rt R EL n0 w Q h' kc ks SL pc' L S) : Go l Z y bytes mx rt R EL n0 w Q h kc ks SL pc L (.int x :: .int j :: .ref a :: S) := by
  obtain ⟨c, A, q1, s1, s2, H, G⟩ := F
  exact Go.bastore hd A (inb_of s1 hj) hsafe ha q (fun h' W => K h' W (Arv.set A q1 s1 s2 H G (fits_nar_byte x) W i hi hl))
theorem Go.cast {K0 : String} {index : Nat} (hd : decode bytes pc = .ok (.checkcast index, 3)) (wd : (Jvm.Cond.classLink y.cls index K0).before a1 Z = true) (F : Ins Z h a K0 true) (q : pc + 3 = pc') (K : Go l Z y bytes mx rt R EL n0 w Q h kc ks SL pc' L (.ref a :: S)) : Go l Z y bytes mx rt R EL n0 w Q h kc ks SL pc L (.ref a :: S) := by
  intro p e s m args below meth c T W
  subst q
  have W0 := W
  obtain ⟨⟨hx, hby, -⟩, k0, locs, X, e1, -, -, hZ, hown, hC, N, -, hSf⟩ := W
  obtain ⟨T', X', e', st⟩ := RoadKit.castY X hx hZ hown wd e1 F (g := mkF m pc L (.ref a :: S)) rfl rfl (hb hby hd)
  obtain ⟨s₂, o, st2, r⟩ := K p e s m args below meth c T' (W0.next X' e' (CHr.refl hC.1) N hSf)
  exact ⟨s₂, o, st _ st2, r⟩
theorem Go.inst {K0 : String} {index : Nat} (hd : decode bytes pc = .ok (.instanceof index, 3)) (wd : (Jvm.Cond.classLink y.cls index K0).before a1 Z = true) (F : Ins Z h a K0 true) (q : pc + 3 = pc') (K : Go l Z y bytes mx rt R EL n0 w Q h kc ks SL pc' L (.int 1 :: S)) : Go l Z y bytes mx rt R EL n0 w Q h kc ks SL pc L (.ref a :: S) := by
  intro p e s m args below meth c T W
  subst q
  have W0 := W
  obtain ⟨⟨hx, hby, -⟩, k0, locs, X, e1, -, -, hZ, hown, hC, N, -, hSf⟩ := W
  obtain ⟨T', X', e', st⟩ := RoadKit.instY X hx hZ hown wd e1 F (g := mkF m pc L (.ref a :: S)) rfl rfl (hb hby hd)
  obtain ⟨s₂, o, st2, r⟩ := K p e s m args below meth c T' (W0.next X' e' (CHr.refl hC.1) N hSf)
  exact ⟨s₂, o, st _ st2, r⟩
theorem Go.acopy {index : Nat} {b : Addr} {k' : ClassId} {z z' sp dp nn : Int32} {vd us : List Value} {dv dd : Value} (hd : decode bytes pc = .ok (.invokestatic index, 3)) (w1 : (Jvm.Cond.methodLink y.cls index Jvm.Stand.acN).before a1 Z = true) (w2 : (Jvm.Cond.native Jvm.Stand.acN).before a1 Z = true) (w3 : (Jvm.Cond.static Jvm.Stand.acN).before a1 Z = true) (w4 : (Jvm.Cond.initialized "java/lang/System").before a1 Z = true)
    (A : Arv Z h a k ty z vs dv) (B : Arv Z h b k' ty z' vd dd) (hty : refKind ty = false) (h1 : ¬ sp < 0) (h2 : ¬ dp < 0) (h3 : ¬ nn < 0) (h4 : sp.toNatClampNeg + nn.toNatClampNeg ≤ z.toNatClampNeg) (h5 : dp.toNatClampNeg + nn.toNatClampNeg ≤ z'.toNatClampNeg) (hus : us = (List.range nn.toNatClampNeg).map fun i => vs.getD (sp.toNatClampNeg + i) dv) (hl : dp.toNatClampNeg + nn.toNatClampNeg ≤ vd.length)
    (hsafe : Sf Z EL SL h b) (ge : n0 ≤ b) (hL : L.size = mx) (hf : 1 ≤ R.frames) (Wd : Nat) (hW : (S.map fun v => v.category).sum = Wd) (hlo : Wd + (nativeFrameWords "java/lang/System" "arraycopy" 5 + 11) ≤ R.locals) (q : pc + 3 = pc')
    (K : ∀ h', Keep h h' [b] → Arv Z h' b k' ty z' (vd.take dp.toNatClampNeg ++ us ++ vd.drop (dp.toNatClampNeg + nn.toNatClampNeg)) dd → Go l Z y bytes mx rt R EL n0 w Q h' kc ks SL pc' L S) : Go l Z y bytes mx rt R EL n0 w Q h kc ks SL pc L (.int nn :: .int dp :: .ref b :: .int sp :: .ref a :: S) := by
  intro p e s m args below meth c T W
  subst q
  have W0 := W
  obtain ⟨⟨hx, hby, hml, -⟩, k0, locs, X, e1, -, -, hZ, hown, hC, N, -, hSf⟩ := W
  obtain ⟨T', h', L', X', e', N', Kp, A', st⟩ := RoadKit.cpA X hx hZ hown w1 w2 w3 w4 e1 A B (Or.inl ⟨rfl, hty⟩) h1 h2 h3 h4 h5 hus hl N ge (g := mkF m pc L (.int nn :: .int dp :: .ref b :: .int sp :: .ref a :: S)) rfl (hL.trans hml.symm) rfl (hb hby hd) hf (W := Wd) (by show 2 * 0 + _ ≤ _; omega) hlo
  have Bk := CHr.keep (vm := T.vm) Kp (fun x hx' => by cases List.mem_singleton.mp hx'; exact hsafe _ hZ hSf) hC.1
  obtain ⟨s₂, o, st2, r⟩ := K h' Kp A' p e s m args below meth c T' (W0.next X' e' Bk N' (hSf.chr Bk))
  exact ⟨s₂, o, st _ st2, r⟩
/-- a loop: the head is reached again with a smaller measure -/
theorem Go.ind {α : Type} (μ : α → Nat) (P : α → Prop) (hJ : α → Heap) (LJ : α → Array Slot) (SJ : α → List Value) (step : ∀ x, P x → (∀ x', μ x' < μ x → P x' → Go l Z y bytes mx rt R EL n0 w Q (hJ x') kc ks SL pc (LJ x') (SJ x')) → Go l Z y bytes mx rt R EL n0 w Q (hJ x) kc ks SL pc (LJ x) (SJ x)) (x : α) (hx : P x) (e1 : h = hJ x) (e2 : L = LJ x) (e3 : S = SJ x) : Go l Z y bytes mx rt R EL n0 w Q h kc ks SL pc L S := by
  have key : ∀ n x, μ x < n → P x → Go l Z y bytes mx rt R EL n0 w Q (hJ x) kc ks SL pc (LJ x) (SJ x) := by
    intro n
    induction n with
    | zero => intro x q; exact absurd q (Nat.not_lt_zero _)
    | succ n ih => intro x q hP; exact step x hP (fun x' q' hP' => ih x' (by omega) hP')
  subst e1 e2 e3
  exact key _ x (Nat.lt_succ_self _) hx
theorem shr0 (n : Int32) : n >>> ((0 : Int32) &&& 31) = n := by
  have e : (0 : Int32) &&& 31 = 0 := by decide
  rw [e]; simp
theorem nar_i2b (x : Int32) : nar .byte (x.toInt8.toInt32) = x.toInt8.toInt32 := by simp [nar]
theorem ofN_lt {i n : Nat} (hi : i < 2 ^ 31) (hn : n < 2 ^ 31) : (Int32.ofNat i < Int32.ofNat n) ↔ i < n := by
  rw [Int32.lt_iff_toInt_lt, Int32.toInt_ofNat_of_lt hi, Int32.toInt_ofNat_of_lt hn]; omega
theorem ofN_eq {i n : Nat} (hi : i < 2 ^ 31) (hn : n < 2 ^ 31) : (Int32.ofNat i = Int32.ofNat n) ↔ i = n := by
  rw [← Int32.toInt_inj, Int32.toInt_ofNat_of_lt hi, Int32.toInt_ofNat_of_lt hn]; omega
theorem ofN_nn {i : Nat} (hi : i < 2 ^ 31) : ¬ Int32.ofNat i < 0 := by
  rw [Int32.lt_iff_toInt_lt, Int32.toInt_ofNat_of_lt hi]
  have e : (0 : Int32).toInt = 0 := by decide
  omega
theorem ofN_nat {i : Nat} (hi : i < 2 ^ 31) : (Int32.ofNat i).toNatClampNeg = i := by
  have e : (Int32.ofNat i).toNatClampNeg = (Int32.ofNat i).toInt.toNat := rfl
  rw [e, Int32.toInt_ofNat_of_lt hi]; omega
theorem ofN_succ (i : Nat) : Int32.ofNat i + 1 = Int32.ofNat (i + 1) := by
  rw [Int32.ofNat_add]; rfl
end RulesV
end Jvm.GoKit
namespace Jvm.Pilot.@@N@@
open Jvm Jvm.ClassFile Sem Op Lib Jvm.Free Jvm.Stand Jvm.LawKit Jvm.RoadKit Jvm.GoKit Bundle Jvm.Pilot.@@N@@.Jvm.D
abbrev EL1 : List (String × Nat) := consts_1
theorem own_ew {Z : State} {a0 : Array Value} (hw : ∀ d ∈ tables_1, d.before a0 Z = true) : EW Z a0 EL1 := EW.cons (hw _ (List.mem_of_getElem? (i := 26) rfl)) (by decide) (EW.cons (hw _ (List.mem_of_getElem? (i := 79) rfl)) (by decide) (EW.cons (hw _ (List.mem_of_getElem? (i := 80) rfl)) (by decide) (EW.cons (hw _ (List.mem_of_getElem? (i := 81) rfl)) (by decide) (EW.cons (hw _ (List.mem_of_getElem? (i := 4) rfl)) (by decide) (EW.cons (hw _ (List.mem_of_getElem? (i := 12) rfl)) (by decide) (EW.cons (hw _ (List.mem_of_getElem? (i := 13) rfl)) (by decide) (EW.cons (hw _ (List.mem_of_getElem? (i := 14) rfl)) (by decide) (EW.nil))))))))
theorem own_ws {Z : State} {a0 : Array Value} (hw : ∀ d ∈ tables_1, d.before a0 Z = true) : ∀ d ∈ Bundle.stringAtoms, d.before a0 Z = true := fun d hd => by
  simp only [Bundle.stringAtoms, List.mem_cons, List.not_mem_nil, or_false] at hd
  rcases hd with rfl | rfl | rfl | rfl | rfl | rfl | rfl
  · exact (hw _ (List.mem_of_getElem? (i := 5) rfl))
  · exact (hw _ (List.mem_of_getElem? (i := 6) rfl))
  · exact (hw _ (List.mem_of_getElem? (i := 7) rfl))
  · exact (hw _ (List.mem_of_getElem? (i := 8) rfl))
  · exact (hw _ (List.mem_of_getElem? (i := 9) rfl))
  · exact (hw _ (List.mem_of_getElem? (i := 10) rfl))
  · exact (hw _ (List.mem_of_getElem? (i := 11) rfl))
theorem pn_java_lang_Record : plainName "java/lang/Record" = true := by first | (simp [plainName, overriddenIn]; done) | decide +kernel
theorem d_jdk_30_method_1_code_0 : decode jdk_30_method_1_code 0 = .ok (.aload_n 0, 1) := by decide +kernel
theorem d_jdk_30_method_1_code_1 : decode jdk_30_method_1_code 1 = .ok (.invokespecial 1, 3) := by decide +kernel
theorem d_jdk_30_method_1_code_4 : decode jdk_30_method_1_code 4 = .ok (.return_, 1) := by decide +kernel
set_option maxRecDepth 65536 in
set_option maxHeartbeats 40000000 in
theorem ct_record (l : Launch) (Z : State) (a0 : Array Value) (hw : ∀ d ∈ tables_1, d.before a0 Z = true) (n0 : Nat) (h0 : Heap) (a1 : Addr) :
    Ct l Z (⟨"java/lang/Record", "<init>", "()V"⟩ : MethodName) jdk_30_method_1_code 1 none ({ frames := 1, cells := 0, slots := 0, locals := 12 } : Room) EL1 n0 true [] #[(.ref a1)] h0 [] (fun v h N => h0 = h ∧ v = none) := by
  refine Ct.of (a0 := a0) (plainFor_of_name pn_java_lang_Record) (own_ew hw) (L0 := #[.val (.ref a1)]) (fun m => by first | (simp [entryFrame, mkF, argsToLocals, Value.category]; done) | rfl) ?_
  refine Go.aloadN (pc' := 1) d_jdk_30_method_1_code_0 rfl rfl rfl ?_
  refine Go.initO (pc' := 4) (a1 := a0) d_jdk_30_method_1_code_1 (hw _ (List.mem_of_getElem? (i := 23) rfl)) (hw _ (List.mem_of_getElem? (i := 24) rfl)) (hw _ (List.mem_of_getElem? (i := 25) rfl)) rfl (by decide) 0 rfl (by decide) rfl ?_
  refine Go.ret0 rfl [] (fun _ q => nomatch q) d_jdk_30_method_1_code_4 (by decide) (by decide) ?_
  exact ⟨rfl, rfl⟩
theorem pn_java_util_Objects : plainName "java/util/Objects" = true := by first | (simp [plainName, overriddenIn]; done) | decide +kernel
theorem d_jdk_31_method_11_code_0 : decode jdk_31_method_11_code 0 = .ok (.aload_n 0, 1) := by decide +kernel
theorem d_jdk_31_method_11_code_1 : decode jdk_31_method_11_code 1 = .ok (.ifnonnull 12, 3) := by decide +kernel
theorem d_jdk_31_method_11_code_13 : decode jdk_31_method_11_code 13 = .ok (.aload_n 0, 1) := by decide +kernel
theorem d_jdk_31_method_11_code_14 : decode jdk_31_method_11_code 14 = .ok (.areturn, 1) := by decide +kernel
set_option maxRecDepth 65536 in
set_option maxHeartbeats 40000000 in
theorem ct_rnn (l : Launch) (Z : State) (a0 : Array Value) (hw : ∀ d ∈ tables_1, d.before a0 Z = true) (n0 : Nat) (h0 : Heap) (a1 b1 : Addr) :
    Ct l Z (⟨"java/util/Objects", "requireNonNull", "(Ljava/lang/Object;Ljava/lang/String;)Ljava/lang/Object;"⟩ : MethodName) jdk_31_method_11_code 2 (some (.object "java/lang/Object")) ({ frames := 0, cells := 0, slots := 0, locals := 0 } : Room) EL1 n0 true [] #[(.ref a1), (.ref b1)] h0 [] (fun v h N => h0 = h ∧ v = some (.ref a1)) := by
  refine Ct.of (a0 := a0) (plainFor_of_name pn_java_util_Objects) (own_ew hw) (L0 := #[.val (.ref a1), .val (.ref b1)]) (fun m => by first | (simp [entryFrame, mkF, argsToLocals, Value.category]; done) | rfl) ?_
  refine Go.aloadN (pc' := 1) d_jdk_31_method_11_code_0 rfl rfl rfl ?_
  refine Go.ifnonnullT (pc' := 13) d_jdk_31_method_11_code_1 (by decide) (by decide) ?_
  refine Go.aloadN (pc' := 14) d_jdk_31_method_11_code_13 rfl rfl rfl ?_
  refine Go.retA rfl rfl rfl [] (fun _ q => nomatch q) d_jdk_31_method_11_code_14 (by decide) (by decide) ?_
  exact ⟨rfl, rfl⟩
theorem d_jdk_31_method_10_code_0 : decode jdk_31_method_10_code 0 = .ok (.aload_n 0, 1) := by decide +kernel
theorem d_jdk_31_method_10_code_1 : decode jdk_31_method_10_code 1 = .ok (.ifnonnull 11, 3) := by decide +kernel
theorem d_jdk_31_method_10_code_12 : decode jdk_31_method_10_code 12 = .ok (.aload_n 0, 1) := by decide +kernel
theorem d_jdk_31_method_10_code_13 : decode jdk_31_method_10_code 13 = .ok (.areturn, 1) := by decide +kernel
set_option maxRecDepth 65536 in
set_option maxHeartbeats 40000000 in
theorem ct_rnn1 (l : Launch) (Z : State) (a0 : Array Value) (hw : ∀ d ∈ tables_1, d.before a0 Z = true) (n0 : Nat) (h0 : Heap) (a1 : Addr) :
    Ct l Z (⟨"java/util/Objects", "requireNonNull", "(Ljava/lang/Object;)Ljava/lang/Object;"⟩ : MethodName) jdk_31_method_10_code 1 (some (.object "java/lang/Object")) ({ frames := 0, cells := 0, slots := 0, locals := 0 } : Room) EL1 n0 true [] #[(.ref a1)] h0 [] (fun v h N => h0 = h ∧ v = some (.ref a1)) := by
  refine Ct.of (a0 := a0) (plainFor_of_name pn_java_util_Objects) (own_ew hw) (L0 := #[.val (.ref a1)]) (fun m => by first | (simp [entryFrame, mkF, argsToLocals, Value.category]; done) | rfl) ?_
  refine Go.aloadN (pc' := 1) d_jdk_31_method_10_code_0 rfl rfl rfl ?_
  refine Go.ifnonnullT (pc' := 12) d_jdk_31_method_10_code_1 (by decide) (by decide) ?_
  refine Go.aloadN (pc' := 13) d_jdk_31_method_10_code_12 rfl rfl rfl ?_
  refine Go.retA rfl rfl rfl [] (fun _ q => nomatch q) d_jdk_31_method_10_code_13 (by decide) (by decide) ?_
  exact ⟨rfl, rfl⟩
theorem pn_java_lang_String : plainName "java/lang/String" = true := by first | (simp [plainName, overriddenIn]; done) | decide +kernel
theorem d_jdk_42_method_152_code_0 : decode jdk_42_method_152_code 0 = .ok (.getstatic 38, 3) := by decide +kernel
theorem d_jdk_42_method_152_code_3 : decode jdk_42_method_152_code 3 = .ok (.ifCond .eq 10, 3) := by decide +kernel
theorem d_jdk_42_method_152_code_6 : decode jdk_42_method_152_code 6 = .ok (.aload_n 0, 1) := by decide +kernel
theorem d_jdk_42_method_152_code_7 : decode jdk_42_method_152_code 7 = .ok (.getfield 15, 3) := by decide +kernel
theorem d_jdk_42_method_152_code_10 : decode jdk_42_method_152_code 10 = .ok (.goto 4, 3) := by decide +kernel
theorem d_jdk_42_method_152_code_14 : decode jdk_42_method_152_code 14 = .ok (.ireturn, 1) := by decide +kernel
set_option maxRecDepth 65536 in
set_option maxHeartbeats 40000000 in
theorem ct_coder (l : Launch) (Z : State) (a0 : Array Value) (hw : ∀ d ∈ tables_1, d.before a0 Z = true) (n0 : Nat) (h0 : Heap) (a1 : Addr) (cs : Int32) (S_cs : Sta Z h0 "java/lang/String" "COMPACT_STRINGS" "Z" (.int cs)) (hcs : ¬ cs = 0) (FC : Fld Z h0 a1 "java/lang/String" "coder" "B" (.int (0 : Int32))) :
    Ct l Z (⟨"java/lang/String", "coder", "()B"⟩ : MethodName) jdk_42_method_152_code 1 (some .byte) ({ frames := 0, cells := 0, slots := 0, locals := 0 } : Room) EL1 n0 true [] #[(.ref a1)] h0 [] (fun v h N => h0 = h ∧ v = some (.int 0)) := by
  refine Ct.of (a0 := a0) (plainFor_of_name pn_java_lang_String) (own_ew hw) (L0 := #[.val (.ref a1)]) (fun m => by first | (simp [entryFrame, mkF, argsToLocals, Value.category]; done) | rfl) ?_
  refine Go.getS (pc' := 3) (host := "") (a1 := a0) d_jdk_42_method_152_code_0 (Or.inl (hw _ (List.mem_of_getElem? (i := 49) rfl))) Via.refl S_cs rfl ?_
  refine Go.ifF (pc' := 6) d_jdk_42_method_152_code_3 (hcs) rfl ?_
  refine Go.aloadN (pc' := 7) d_jdk_42_method_152_code_6 rfl rfl rfl ?_
  refine Go.getF (pc' := 10) (host := "") (a1 := a0) d_jdk_42_method_152_code_7 (Or.inl (hw _ (List.mem_of_getElem? (i := 50) rfl))) Via.refl FC rfl ?_
  refine Go.goto (pc' := 14) d_jdk_42_method_152_code_10 (by decide) (by decide) ?_
  refine Go.retN (t := .byte) (0 : Int32) rfl (by simp) rfl [] (fun _ q => nomatch q) d_jdk_42_method_152_code_14 (by decide) (by decide) ?_
  exact ⟨rfl, rfl⟩
theorem d_jdk_42_method_154_code_0 : decode jdk_42_method_154_code 0 = .ok (.getstatic 38, 3) := by decide +kernel
theorem d_jdk_42_method_154_code_3 : decode jdk_42_method_154_code 3 = .ok (.ifCond .eq 14, 3) := by decide +kernel
theorem d_jdk_42_method_154_code_6 : decode jdk_42_method_154_code 6 = .ok (.aload_n 0, 1) := by decide +kernel
theorem d_jdk_42_method_154_code_7 : decode jdk_42_method_154_code 7 = .ok (.getfield 15, 3) := by decide +kernel
theorem d_jdk_42_method_154_code_10 : decode jdk_42_method_154_code 10 = .ok (.ifCond .ne 7, 3) := by decide +kernel
theorem d_jdk_42_method_154_code_13 : decode jdk_42_method_154_code 13 = .ok (.iconst 1, 1) := by decide +kernel
theorem d_jdk_42_method_154_code_14 : decode jdk_42_method_154_code 14 = .ok (.goto 4, 3) := by decide +kernel
theorem d_jdk_42_method_154_code_18 : decode jdk_42_method_154_code 18 = .ok (.ireturn, 1) := by decide +kernel
set_option maxRecDepth 65536 in
set_option maxHeartbeats 40000000 in
theorem ct_isLatin1 (l : Launch) (Z : State) (a0 : Array Value) (hw : ∀ d ∈ tables_1, d.before a0 Z = true) (n0 : Nat) (h0 : Heap) (a1 : Addr) (cs : Int32) (S_cs : Sta Z h0 "java/lang/String" "COMPACT_STRINGS" "Z" (.int cs)) (hcs : ¬ cs = 0) (FC : Fld Z h0 a1 "java/lang/String" "coder" "B" (.int (0 : Int32))) :
    Ct l Z (⟨"java/lang/String", "isLatin1", "()Z"⟩ : MethodName) jdk_42_method_154_code 1 (some .boolean) ({ frames := 0, cells := 0, slots := 0, locals := 0 } : Room) EL1 n0 true [] #[(.ref a1)] h0 [] (fun v h N => h0 = h ∧ v = some (.int 1)) := by
  refine Ct.of (a0 := a0) (plainFor_of_name pn_java_lang_String) (own_ew hw) (L0 := #[.val (.ref a1)]) (fun m => by first | (simp [entryFrame, mkF, argsToLocals, Value.category]; done) | rfl) ?_
  refine Go.getS (pc' := 3) (host := "") (a1 := a0) d_jdk_42_method_154_code_0 (Or.inl (hw _ (List.mem_of_getElem? (i := 49) rfl))) Via.refl S_cs rfl ?_
  refine Go.ifF (pc' := 6) d_jdk_42_method_154_code_3 (hcs) rfl ?_
  refine Go.aloadN (pc' := 7) d_jdk_42_method_154_code_6 rfl rfl rfl ?_
  refine Go.getF (pc' := 10) (host := "") (a1 := a0) d_jdk_42_method_154_code_7 (Or.inl (hw _ (List.mem_of_getElem? (i := 50) rfl))) Via.refl FC rfl ?_
  refine Go.ifF (pc' := 13) d_jdk_42_method_154_code_10 (show (0 : Int32) = (0 : Int32) by decide) rfl ?_
  refine Go.iconst (pc' := 14) 1 d_jdk_42_method_154_code_13 rfl rfl ?_
  refine Go.goto (pc' := 18) d_jdk_42_method_154_code_14 (by decide) (by decide) ?_
  refine Go.retN (t := .boolean) (1 : Int32) rfl (by simp) rfl [] (fun _ q => nomatch q) d_jdk_42_method_154_code_18 (by decide) (by decide) ?_
  exact ⟨rfl, rfl⟩
theorem d_jdk_42_method_54_code_0 : decode jdk_42_method_54_code 0 = .ok (.aload_n 0, 1) := by decide +kernel
theorem d_jdk_42_method_54_code_1 : decode jdk_42_method_54_code 1 = .ok (.getfield 9, 3) := by decide +kernel
theorem d_jdk_42_method_54_code_4 : decode jdk_42_method_54_code 4 = .ok (.arraylength, 1) := by decide +kernel
theorem d_jdk_42_method_54_code_5 : decode jdk_42_method_54_code 5 = .ok (.aload_n 0, 1) := by decide +kernel
theorem pd__28_29B : parseMethodDescriptor "()B" = some ⟨[], (some .byte)⟩ := by decide +kernel
theorem d_jdk_42_method_54_code_6 : decode jdk_42_method_54_code 6 = .ok (.invokevirtual 335, 3) := by decide +kernel
theorem d_jdk_42_method_54_code_9 : decode jdk_42_method_54_code 9 = .ok (.ishr, 1) := by decide +kernel
theorem d_jdk_42_method_54_code_10 : decode jdk_42_method_54_code 10 = .ok (.ireturn, 1) := by decide +kernel
set_option maxRecDepth 65536 in
set_option maxHeartbeats 40000000 in
theorem ct_length (l : Launch) (Z : State) (a0 : Array Value) (hw : ∀ d ∈ tables_1, d.before a0 Z = true) (n0 : Nat) (h0 : Heap) (a1 b : Addr) (k : ClassId) (n : Int32) (vs : List Value) (cs : Int32) (S_cs : Sta Z h0 "java/lang/String" "COMPACT_STRINGS" "Z" (.int cs)) (hcs : ¬ cs = 0) (E : Exa Z h0 a1 "java/lang/String") (FC : Fld Z h0 a1 "java/lang/String" "coder" "B" (.int (0 : Int32))) (FV : Fld Z h0 a1 "java/lang/String" "value" "[B" (.ref b)) (AV : Arv Z h0 b k .byte n vs (.int 0)) :
    Ct l Z (⟨"java/lang/String", "length", "()I"⟩ : MethodName) jdk_42_method_54_code 1 (some .int) ({ frames := 1, cells := 0, slots := 0, locals := 13 } : Room) EL1 n0 true [] #[(.ref a1)] h0 [] (fun v h N => h0 = h ∧ v = some (.int n)) := by
  refine Ct.of (a0 := a0) (plainFor_of_name pn_java_lang_String) (own_ew hw) (L0 := #[.val (.ref a1)]) (fun m => by first | (simp [entryFrame, mkF, argsToLocals, Value.category]; done) | rfl) ?_
  have l0_E := nlt E.lt
  have l0_AV := nlt AV.lt
  refine Go.aloadN (pc' := 1) d_jdk_42_method_54_code_0 rfl rfl rfl ?_
  refine Go.getF (pc' := 4) (host := "") (a1 := a0) d_jdk_42_method_54_code_1 (Or.inl (hw _ (List.mem_of_getElem? (i := 51) rfl))) Via.refl FV rfl ?_
  refine Go.alenV (pc' := 5) d_jdk_42_method_54_code_4 AV rfl ?_
  refine Go.aloadN (pc' := 6) d_jdk_42_method_54_code_5 rfl rfl rfl ?_
  refine Go.callV (a1 := a0) (pc' := 9) (argsL := []) (rest := [(.int n)]) (ct_coder l Z a0 hw n0 h0 a1 cs S_cs hcs FC) d_jdk_42_method_54_code_6 (hw _ (List.mem_of_getElem? (i := 57) rfl)) (hw _ (List.mem_of_getElem? (i := 58) rfl)) (hw _ (List.mem_of_getElem? (i := 60) rfl)) (hw _ (List.mem_of_getElem? (i := 60) rfl)) (hw _ (List.mem_of_getElem? (i := 59) rfl)) (hw _ (List.mem_of_getElem? (i := 5) rfl)) (hw _ (List.mem_of_getElem? (i := 61) rfl)) E (by decide) (lenOf pd__28_29B rfl) rfl 1 rfl rfl (by decide) (by decide) (by decide) (by decide) (fun _ q => nomatch q) rfl (fun v_1 h_2 N_3 hQ_4 hle_5 => ?_)
  obtain ⟨rfl, rfl⟩ := hQ_4
  refine Go.re (pc' := 9) (L' := #[.val (.ref a1)]) (S' := [(.int (0 : Int32)), (.int n)]) rfl rfl rfl ?_
  refine Go.ishr (pc' := 10) d_jdk_42_method_54_code_9 rfl ?_
  refine Go.re (pc' := 10) (L' := #[.val (.ref a1)]) (S' := [.int n]) rfl rfl (by rw [shr0]) ?_
  refine Go.retI rfl [] (fun _ q => nomatch q) d_jdk_42_method_54_code_10 (by decide) (by decide) ?_
  exact ⟨rfl, rfl⟩
theorem d_jdk_29_method_65_code_0 : decode jdk_29_method_65_code 0 = .ok (.iload_n 0, 1) := by decide +kernel
theorem d_jdk_29_method_65_code_1 : decode jdk_29_method_65_code 1 = .ok (.iload_n 1, 1) := by decide +kernel
theorem d_jdk_29_method_65_code_2 : decode jdk_29_method_65_code 2 = .ok (.if_icmp .lt 7, 3) := by decide +kernel
theorem d_jdk_29_method_65_code_5 : decode jdk_29_method_65_code 5 = .ok (.iload_n 0, 1) := by decide +kernel
theorem d_jdk_29_method_65_code_6 : decode jdk_29_method_65_code 6 = .ok (.goto 4, 3) := by decide +kernel
theorem d_jdk_29_method_65_code_10 : decode jdk_29_method_65_code 10 = .ok (.ireturn, 1) := by decide +kernel
set_option maxRecDepth 65536 in
set_option maxHeartbeats 40000000 in
theorem ct_max (l : Launch) (Z : State) (a0 : Array Value) (hw : ∀ d ∈ tables_1, d.before a0 Z = true) (n0 : Nat) (h0 : Heap)  :
    Ct l Z (⟨"java/lang/Math", "max", "(II)I"⟩ : MethodName) jdk_29_method_65_code 2 (some .int) ({ frames := 0, cells := 0, slots := 0, locals := 0 } : Room) EL1 n0 true [] #[(.int (0 : Int32)), (.int (0 : Int32))] h0 [] (fun v h N => h0 = h ∧ v = some (.int (0 : Int32))) := by
  refine Ct.of (a0 := a0) (Jvm.Free.JP.mathPlain rfl (by decide +kernel)) (own_ew hw) (L0 := #[.val (.int (0 : Int32)), .val (.int (0 : Int32))]) (fun m => by first | (simp [entryFrame, mkF, argsToLocals, Value.category]; done) | rfl) ?_
  refine Go.iloadN (pc' := 1) d_jdk_29_method_65_code_0 rfl rfl ?_
  refine Go.iloadN (pc' := 2) d_jdk_29_method_65_code_1 rfl rfl ?_
  refine Go.icmpF (pc' := 5) d_jdk_29_method_65_code_2 (show ¬ ((0 : Int32) < (0 : Int32)) by decide) rfl ?_
  refine Go.iloadN (pc' := 6) d_jdk_29_method_65_code_5 rfl rfl ?_
  refine Go.goto (pc' := 10) d_jdk_29_method_65_code_6 (by decide) (by decide) ?_
  refine Go.retI rfl [] (fun _ q => nomatch q) d_jdk_29_method_65_code_10 (by decide) (by decide) ?_
  exact ⟨rfl, rfl⟩
theorem d_jdk_29_method_69_code_0 : decode jdk_29_method_69_code 0 = .ok (.iload_n 0, 1) := by decide +kernel
theorem d_jdk_29_method_69_code_1 : decode jdk_29_method_69_code 1 = .ok (.iload_n 1, 1) := by decide +kernel
theorem d_jdk_29_method_69_code_2 : decode jdk_29_method_69_code 2 = .ok (.if_icmp .gt 7, 3) := by decide +kernel
theorem d_jdk_29_method_69_code_5 : decode jdk_29_method_69_code 5 = .ok (.iload_n 0, 1) := by decide +kernel
theorem d_jdk_29_method_69_code_6 : decode jdk_29_method_69_code 6 = .ok (.goto 4, 3) := by decide +kernel
theorem d_jdk_29_method_69_code_10 : decode jdk_29_method_69_code 10 = .ok (.ireturn, 1) := by decide +kernel
set_option maxRecDepth 65536 in
set_option maxHeartbeats 40000000 in
theorem ct_min (l : Launch) (Z : State) (a0 : Array Value) (hw : ∀ d ∈ tables_1, d.before a0 Z = true) (n0 : Nat) (h0 : Heap)  :
    Ct l Z (⟨"java/lang/Math", "min", "(II)I"⟩ : MethodName) jdk_29_method_69_code 2 (some .int) ({ frames := 0, cells := 0, slots := 0, locals := 0 } : Room) EL1 n0 true [] #[(.int (1 : Int32)), (.int (1 : Int32))] h0 [] (fun v h N => h0 = h ∧ v = some (.int (1 : Int32))) := by
  refine Ct.of (a0 := a0) (Jvm.Free.JP.mathPlain rfl (by decide +kernel)) (own_ew hw) (L0 := #[.val (.int (1 : Int32)), .val (.int (1 : Int32))]) (fun m => by first | (simp [entryFrame, mkF, argsToLocals, Value.category]; done) | rfl) ?_
  refine Go.iloadN (pc' := 1) d_jdk_29_method_69_code_0 rfl rfl ?_
  refine Go.iloadN (pc' := 2) d_jdk_29_method_69_code_1 rfl rfl ?_
  refine Go.icmpF (pc' := 5) d_jdk_29_method_69_code_2 (show ¬ ((1 : Int32) < (1 : Int32)) by decide) rfl ?_
  refine Go.iloadN (pc' := 6) d_jdk_29_method_69_code_5 rfl rfl ?_
  refine Go.goto (pc' := 10) d_jdk_29_method_69_code_6 (by decide) (by decide) ?_
  refine Go.retI rfl [] (fun _ q => nomatch q) d_jdk_29_method_69_code_10 (by decide) (by decide) ?_
  exact ⟨rfl, rfl⟩
theorem pn_java_lang_StringLatin1 : plainName "java/lang/StringLatin1" = true := by first | (simp [plainName, overriddenIn]; done) | decide +kernel
theorem d_jdk_43_method_4_code_0 : decode jdk_43_method_4_code 0 = .ok (.iload_n 0, 1) := by decide +kernel
theorem d_jdk_43_method_4_code_1 : decode jdk_43_method_4_code 1 = .ok (.ifCond .lt 14, 3) := by decide +kernel
theorem d_jdk_43_method_4_code_4 : decode jdk_43_method_4_code 4 = .ok (.iload_n 0, 1) := by decide +kernel
theorem d_jdk_43_method_4_code_5 : decode jdk_43_method_4_code 5 = .ok (.sipush 255, 3) := by decide +kernel
theorem d_jdk_43_method_4_code_8 : decode jdk_43_method_4_code 8 = .ok (.if_icmp .gt 7, 3) := by decide +kernel
theorem d_jdk_43_method_4_code_11 : decode jdk_43_method_4_code 11 = .ok (.iconst 1, 1) := by decide +kernel
theorem d_jdk_43_method_4_code_12 : decode jdk_43_method_4_code 12 = .ok (.goto 4, 3) := by decide +kernel
theorem d_jdk_43_method_4_code_16 : decode jdk_43_method_4_code 16 = .ok (.ireturn, 1) := by decide +kernel
set_option maxRecDepth 65536 in
set_option maxHeartbeats 40000000 in
theorem ct_canEnc (l : Launch) (Z : State) (a0 : Array Value) (hw : ∀ d ∈ tables_1, d.before a0 Z = true) (n0 : Nat) (h0 : Heap) (p1 : Int32) (h1 : ¬ p1 < 0) (h2 : ¬ 255 < p1) :
    Ct l Z (⟨"java/lang/StringLatin1", "canEncode", "(I)Z"⟩ : MethodName) jdk_43_method_4_code 1 (some .boolean) ({ frames := 0, cells := 0, slots := 0, locals := 0 } : Room) EL1 n0 true [] #[(.int p1)] h0 [] (fun v h N => h0 = h ∧ v = some (.int 1)) := by
  refine Ct.of (a0 := a0) (plainFor_of_name pn_java_lang_StringLatin1) (own_ew hw) (L0 := #[.val (.int p1)]) (fun m => by first | (simp [entryFrame, mkF, argsToLocals, Value.category]; done) | rfl) ?_
  refine Go.iloadN (pc' := 1) d_jdk_43_method_4_code_0 rfl rfl ?_
  refine Go.ifF (pc' := 4) d_jdk_43_method_4_code_1 (h1) rfl ?_
  refine Go.iloadN (pc' := 5) d_jdk_43_method_4_code_4 rfl rfl ?_
  refine Go.sipush (pc' := 8) 255 d_jdk_43_method_4_code_5 rfl rfl ?_
  refine Go.icmpF (pc' := 11) d_jdk_43_method_4_code_8 (h2) rfl ?_
  refine Go.iconst (pc' := 12) 1 d_jdk_43_method_4_code_11 rfl rfl ?_
  refine Go.goto (pc' := 16) d_jdk_43_method_4_code_12 (by decide) (by decide) ?_
  refine Go.retN (t := .boolean) (1 : Int32) rfl (by simp) rfl [] (fun _ q => nomatch q) d_jdk_43_method_4_code_16 (by decide) (by decide) ?_
  exact ⟨rfl, rfl⟩
theorem d_jdk_43_method_23_code_0 : decode jdk_43_method_23_code 0 = .ok (.iload_n 1, 1) := by decide +kernel
theorem d_jdk_43_method_23_code_1 : decode jdk_43_method_23_code 1 = .ok (.i2b, 1) := by decide +kernel
theorem d_jdk_43_method_23_code_2 : decode jdk_43_method_23_code 2 = .ok (.istore 4, 2) := by decide +kernel
theorem d_jdk_43_method_23_code_4 : decode jdk_43_method_23_code 4 = .ok (.iload_n 2, 1) := by decide +kernel
theorem d_jdk_43_method_23_code_5 : decode jdk_43_method_23_code 5 = .ok (.istore 5, 2) := by decide +kernel
theorem d_jdk_43_method_23_code_7 : decode jdk_43_method_23_code 7 = .ok (.iload 5, 2) := by decide +kernel
theorem d_jdk_43_method_23_code_9 : decode jdk_43_method_23_code 9 = .ok (.iload_n 3, 1) := by decide +kernel
theorem d_jdk_43_method_23_code_10 : decode jdk_43_method_23_code 10 = .ok (.if_icmp .ge 21, 3) := by decide +kernel
theorem d_jdk_43_method_23_code_13 : decode jdk_43_method_23_code 13 = .ok (.aload_n 0, 1) := by decide +kernel
theorem d_jdk_43_method_23_code_14 : decode jdk_43_method_23_code 14 = .ok (.iload 5, 2) := by decide +kernel
theorem d_jdk_43_method_23_code_16 : decode jdk_43_method_23_code 16 = .ok (.baload, 1) := by decide +kernel
theorem d_jdk_43_method_23_code_17 : decode jdk_43_method_23_code 17 = .ok (.iload 4, 2) := by decide +kernel
theorem d_jdk_43_method_23_code_19 : decode jdk_43_method_23_code 19 = .ok (.if_icmp .ne 6, 3) := by decide +kernel
theorem d_jdk_43_method_23_code_25 : decode jdk_43_method_23_code 25 = .ok (.iinc 5 1, 3) := by decide +kernel
theorem d_jdk_43_method_23_code_28 : decode jdk_43_method_23_code 28 = .ok (.goto (-21), 3) := by decide +kernel
theorem d_jdk_43_method_23_code_31 : decode jdk_43_method_23_code 31 = .ok (.iconst (-1), 1) := by decide +kernel
theorem d_jdk_43_method_23_code_32 : decode jdk_43_method_23_code 32 = .ok (.ireturn, 1) := by decide +kernel
set_option maxRecDepth 65536 in
set_option maxHeartbeats 40000000 in
theorem ct_ioc (l : Launch) (Z : State) (a0 : Array Value) (hw : ∀ d ∈ tables_1, d.before a0 Z = true) (n0 : Nat) (h0 : Heap) (b : Addr) (k : ClassId) (p1 v0 : Int32) (AV : Arv Z h0 b k .byte (1 : Int32) [.int v0] (.int 0)) (hne : ¬ v0 = p1.toInt8.toInt32) :
    Ct l Z (⟨"java/lang/StringLatin1", "indexOfChar", "([BIII)I"⟩ : MethodName) jdk_43_method_23_code 6 (some .int) ({ frames := 0, cells := 0, slots := 0, locals := 0 } : Room) EL1 n0 true [] #[(.ref b), (.int p1), (.int (0 : Int32)), (.int (1 : Int32))] h0 [] (fun v h N => h0 = h ∧ v = some (.int (-1))) := by
  refine Ct.of (a0 := a0) (plainFor_of_name pn_java_lang_StringLatin1) (own_ew hw) (L0 := #[.val (.ref b), .val (.int p1), .val (.int (0 : Int32)), .val (.int (1 : Int32)), .unset, .unset]) (fun m => by first | (simp [entryFrame, mkF, argsToLocals, Value.category]; done) | rfl) ?_
  have l0_AV := nlt AV.lt
  refine Go.iloadN (pc' := 1) d_jdk_43_method_23_code_0 rfl rfl ?_
  refine Go.i2b (pc' := 2) d_jdk_43_method_23_code_1 rfl ?_
  refine Go.istore (pc' := 4) #[.val (.ref b), .val (.int p1), .val (.int (0 : Int32)), .val (.int (1 : Int32)), .val (.int (p1).toInt8.toInt32), .unset] d_jdk_43_method_23_code_2 rfl rfl ?_
  refine Go.iloadN (pc' := 5) d_jdk_43_method_23_code_4 rfl rfl ?_
  refine Go.istore (pc' := 7) #[.val (.ref b), .val (.int p1), .val (.int (0 : Int32)), .val (.int (1 : Int32)), .val (.int (p1).toInt8.toInt32), .val (.int (0 : Int32))] d_jdk_43_method_23_code_5 rfl rfl ?_
  refine Go.iload (pc' := 9) d_jdk_43_method_23_code_7 rfl rfl ?_
  refine Go.iloadN (pc' := 10) d_jdk_43_method_23_code_9 rfl rfl ?_
  refine Go.icmpF (pc' := 13) d_jdk_43_method_23_code_10 (show (0 : Int32) < (1 : Int32) by decide) rfl ?_
  refine Go.aloadN (pc' := 14) d_jdk_43_method_23_code_13 rfl rfl rfl ?_
  refine Go.iload (pc' := 16) d_jdk_43_method_23_code_14 rfl rfl ?_
  refine Go.baloadV (pc' := 17) d_jdk_43_method_23_code_16 AV (by decide) rfl rfl ?_
  refine Go.iload (pc' := 19) d_jdk_43_method_23_code_17 rfl rfl ?_
  refine Go.icmpT (pc' := 25) d_jdk_43_method_23_code_19 (hne) (by decide) (by decide) ?_
  refine Go.iinc (pc' := 28) (1 : Int32) #[.val (.ref b), .val (.int p1), .val (.int (0 : Int32)), .val (.int (1 : Int32)), .val (.int (p1).toInt8.toInt32), .val (.int (1 : Int32))] d_jdk_43_method_23_code_25 rfl (by decide) rfl rfl ?_
  refine Go.goto (pc' := 7) d_jdk_43_method_23_code_28 (by decide) (by decide) ?_
  refine Go.iload (pc' := 9) d_jdk_43_method_23_code_7 rfl rfl ?_
  refine Go.iloadN (pc' := 10) d_jdk_43_method_23_code_9 rfl rfl ?_
  refine Go.icmpT (pc' := 31) d_jdk_43_method_23_code_10 (show ¬ ((1 : Int32) < (1 : Int32)) by decide) (by decide) (by decide) ?_
  refine Go.iconst (pc' := 32) (-1) d_jdk_43_method_23_code_31 rfl rfl ?_
  refine Go.retI rfl [] (fun _ q => nomatch q) d_jdk_43_method_23_code_32 (by decide) (by decide) ?_
  exact ⟨rfl, rfl⟩
theorem d_jdk_43_method_22_code_0 : decode jdk_43_method_22_code 0 = .ok (.iload_n 1, 1) := by decide +kernel
theorem pd__28I_29Z : parseMethodDescriptor "(I)Z" = some ⟨[.int], (some .boolean)⟩ := by decide +kernel
theorem d_jdk_43_method_22_code_1 : decode jdk_43_method_22_code 1 = .ok (.invokestatic 88, 3) := by decide +kernel
theorem d_jdk_43_method_22_code_4 : decode jdk_43_method_22_code 4 = .ok (.ifCond .ne 5, 3) := by decide +kernel
theorem d_jdk_43_method_22_code_9 : decode jdk_43_method_22_code 9 = .ok (.iload_n 2, 1) := by decide +kernel
theorem d_jdk_43_method_22_code_10 : decode jdk_43_method_22_code 10 = .ok (.iconst 0, 1) := by decide +kernel
theorem pd__28II_29I : parseMethodDescriptor "(II)I" = some ⟨[.int, .int], (some .int)⟩ := by decide +kernel
theorem d_jdk_43_method_22_code_11 : decode jdk_43_method_22_code 11 = .ok (.invokestatic 92, 3) := by decide +kernel
theorem d_jdk_43_method_22_code_14 : decode jdk_43_method_22_code 14 = .ok (.istore_n 2, 1) := by decide +kernel
theorem d_jdk_43_method_22_code_15 : decode jdk_43_method_22_code 15 = .ok (.iload_n 3, 1) := by decide +kernel
theorem d_jdk_43_method_22_code_16 : decode jdk_43_method_22_code 16 = .ok (.aload_n 0, 1) := by decide +kernel
theorem d_jdk_43_method_22_code_17 : decode jdk_43_method_22_code 17 = .ok (.arraylength, 1) := by decide +kernel
theorem d_jdk_43_method_22_code_18 : decode jdk_43_method_22_code 18 = .ok (.invokestatic 38, 3) := by decide +kernel
theorem d_jdk_43_method_22_code_21 : decode jdk_43_method_22_code 21 = .ok (.istore_n 3, 1) := by decide +kernel
theorem d_jdk_43_method_22_code_22 : decode jdk_43_method_22_code 22 = .ok (.iload_n 2, 1) := by decide +kernel
theorem d_jdk_43_method_22_code_23 : decode jdk_43_method_22_code 23 = .ok (.iload_n 3, 1) := by decide +kernel
theorem d_jdk_43_method_22_code_24 : decode jdk_43_method_22_code 24 = .ok (.if_icmp .lt 5, 3) := by decide +kernel
theorem d_jdk_43_method_22_code_29 : decode jdk_43_method_22_code 29 = .ok (.aload_n 0, 1) := by decide +kernel
theorem d_jdk_43_method_22_code_30 : decode jdk_43_method_22_code 30 = .ok (.iload_n 1, 1) := by decide +kernel
theorem d_jdk_43_method_22_code_31 : decode jdk_43_method_22_code 31 = .ok (.iload_n 2, 1) := by decide +kernel
theorem d_jdk_43_method_22_code_32 : decode jdk_43_method_22_code 32 = .ok (.iload_n 3, 1) := by decide +kernel
theorem pd__28_5bBIII_29I : parseMethodDescriptor "([BIII)I" = some ⟨[(.array .byte), .int, .int, .int], (some .int)⟩ := by decide +kernel
theorem d_jdk_43_method_22_code_33 : decode jdk_43_method_22_code 33 = .ok (.invokestatic 95, 3) := by decide +kernel
theorem d_jdk_43_method_22_code_36 : decode jdk_43_method_22_code 36 = .ok (.ireturn, 1) := by decide +kernel
set_option maxRecDepth 65536 in
set_option maxHeartbeats 40000000 in
theorem ct_slio (l : Launch) (Z : State) (a0 : Array Value) (hw : ∀ d ∈ tables_1, d.before a0 Z = true) (n0 : Nat) (h0 : Heap) (b : Addr) (k : ClassId) (p1 v0 : Int32) (AV : Arv Z h0 b k .byte (1 : Int32) [.int v0] (.int 0)) (h1 : ¬ p1 < 0) (h2 : ¬ 255 < p1) (hne : ¬ v0 = p1.toInt8.toInt32) :
    Ct l Z (⟨"java/lang/StringLatin1", "indexOf", "([BIII)I"⟩ : MethodName) jdk_43_method_22_code 4 (some .int) ({ frames := 1, cells := 0, slots := 0, locals := 17 } : Room) EL1 n0 true [] #[(.ref b), (.int p1), (.int (0 : Int32)), (.int (1 : Int32))] h0 [] (fun v h N => h0 = h ∧ v = some (.int (-1))) := by
  refine Ct.of (a0 := a0) (plainFor_of_name pn_java_lang_StringLatin1) (own_ew hw) (L0 := #[.val (.ref b), .val (.int p1), .val (.int (0 : Int32)), .val (.int (1 : Int32))]) (fun m => by first | (simp [entryFrame, mkF, argsToLocals, Value.category]; done) | rfl) ?_
  have l0_AV := nlt AV.lt
  refine Go.iloadN (pc' := 1) d_jdk_43_method_22_code_0 rfl rfl ?_
  refine Go.callS (a1 := a0) (pc' := 4) (argsL := [(.int p1)]) (rest := []) (ct_canEnc l Z a0 hw n0 h0 p1 h1 h2) d_jdk_43_method_22_code_1 (hw _ (List.mem_of_getElem? (i := 66) rfl)) (hw _ (List.mem_of_getElem? (i := 67) rfl)) (hw _ (List.mem_of_getElem? (i := 64) rfl)) (hw _ (List.mem_of_getElem? (i := 68) rfl)) (by decide) (lenOf pd__28I_29Z rfl) rfl 0 rfl rfl (by decide) (by decide) (by decide) (by decide) (fun _ q => nomatch q) rfl (fun v_1 h_2 N_3 hQ_4 hle_5 => ?_)
  obtain ⟨rfl, rfl⟩ := hQ_4
  refine Go.re (pc' := 4) (L' := #[.val (.ref b), .val (.int p1), .val (.int (0 : Int32)), .val (.int (1 : Int32))]) (S' := [(.int (1 : Int32))]) rfl rfl rfl ?_
  refine Go.ifT (pc' := 9) d_jdk_43_method_22_code_4 (show ¬ ((1 : Int32) = (0 : Int32)) by decide) (by decide) (by decide) ?_
  refine Go.iloadN (pc' := 10) d_jdk_43_method_22_code_9 rfl rfl ?_
  refine Go.iconst (pc' := 11) 0 d_jdk_43_method_22_code_10 rfl rfl ?_
  refine Go.callS (a1 := a0) (pc' := 14) (argsL := [(.int (0 : Int32)), (.int (0 : Int32))]) (rest := []) (ct_max l Z a0 hw n0 h0 ) d_jdk_43_method_22_code_11 (hw _ (List.mem_of_getElem? (i := 69) rfl)) (hw _ (List.mem_of_getElem? (i := 70) rfl)) (hw _ (List.mem_of_getElem? (i := 71) rfl)) (hw _ (List.mem_of_getElem? (i := 72) rfl)) (by decide) (lenOf pd__28II_29I rfl) rfl 0 rfl rfl (by decide) (by decide) (by decide) (by decide) (fun _ q => nomatch q) rfl (fun v_6 h_7 N_8 hQ_9 hle_10 => ?_)
  obtain ⟨rfl, rfl⟩ := hQ_9
  refine Go.re (pc' := 14) (L' := #[.val (.ref b), .val (.int p1), .val (.int (0 : Int32)), .val (.int (1 : Int32))]) (S' := [(.int (0 : Int32))]) rfl rfl rfl ?_
  refine Go.istoreN (pc' := 15) #[.val (.ref b), .val (.int p1), .val (.int (0 : Int32)), .val (.int (1 : Int32))] d_jdk_43_method_22_code_14 rfl rfl ?_
  refine Go.iloadN (pc' := 16) d_jdk_43_method_22_code_15 rfl rfl ?_
  refine Go.aloadN (pc' := 17) d_jdk_43_method_22_code_16 rfl rfl rfl ?_
  refine Go.alenV (pc' := 18) d_jdk_43_method_22_code_17 AV rfl ?_
  refine Go.callS (a1 := a0) (pc' := 21) (argsL := [(.int (1 : Int32)), (.int (1 : Int32))]) (rest := []) (ct_min l Z a0 hw n0 h0 ) d_jdk_43_method_22_code_18 (hw _ (List.mem_of_getElem? (i := 73) rfl)) (hw _ (List.mem_of_getElem? (i := 74) rfl)) (hw _ (List.mem_of_getElem? (i := 71) rfl)) (hw _ (List.mem_of_getElem? (i := 75) rfl)) (by decide) (lenOf pd__28II_29I rfl) rfl 0 rfl rfl (by decide) (by decide) (by decide) (by decide) (fun _ q => nomatch q) rfl (fun v_11 h_12 N_13 hQ_14 hle_15 => ?_)
  obtain ⟨rfl, rfl⟩ := hQ_14
  refine Go.re (pc' := 21) (L' := #[.val (.ref b), .val (.int p1), .val (.int (0 : Int32)), .val (.int (1 : Int32))]) (S' := [(.int (1 : Int32))]) rfl rfl rfl ?_
  refine Go.istoreN (pc' := 22) #[.val (.ref b), .val (.int p1), .val (.int (0 : Int32)), .val (.int (1 : Int32))] d_jdk_43_method_22_code_21 rfl rfl ?_
  refine Go.iloadN (pc' := 23) d_jdk_43_method_22_code_22 rfl rfl ?_
  refine Go.iloadN (pc' := 24) d_jdk_43_method_22_code_23 rfl rfl ?_
  refine Go.icmpT (pc' := 29) d_jdk_43_method_22_code_24 (show (0 : Int32) < (1 : Int32) by decide) (by decide) (by decide) ?_
  refine Go.aloadN (pc' := 30) d_jdk_43_method_22_code_29 rfl rfl rfl ?_
  refine Go.iloadN (pc' := 31) d_jdk_43_method_22_code_30 rfl rfl ?_
  refine Go.iloadN (pc' := 32) d_jdk_43_method_22_code_31 rfl rfl ?_
  refine Go.iloadN (pc' := 33) d_jdk_43_method_22_code_32 rfl rfl ?_
  refine Go.callS (a1 := a0) (pc' := 36) (argsL := [(.ref b), (.int p1), (.int (0 : Int32)), (.int (1 : Int32))]) (rest := []) (ct_ioc l Z a0 hw n0 h0 b k p1 v0 AV hne) d_jdk_43_method_22_code_33 (hw _ (List.mem_of_getElem? (i := 76) rfl)) (hw _ (List.mem_of_getElem? (i := 77) rfl)) (hw _ (List.mem_of_getElem? (i := 64) rfl)) (hw _ (List.mem_of_getElem? (i := 78) rfl)) (by decide) (lenOf pd__28_5bBIII_29I rfl) rfl 0 rfl rfl (by decide) (by decide) (by decide) (by decide) (fun _ q => nomatch q) rfl (fun v_16 h_17 N_18 hQ_19 hle_20 => ?_)
  obtain ⟨rfl, rfl⟩ := hQ_19
  refine Go.re (pc' := 36) (L' := #[.val (.ref b), .val (.int p1), .val (.int (0 : Int32)), .val (.int (1 : Int32))]) (S' := [(.int (-1 : Int32))]) rfl rfl rfl ?_
  refine Go.retI rfl [] (fun _ q => nomatch q) d_jdk_43_method_22_code_36 (by decide) (by decide) ?_
  exact ⟨rfl, rfl⟩
theorem d_jdk_42_method_80_code_0 : decode jdk_42_method_80_code 0 = .ok (.aload_n 0, 1) := by decide +kernel
theorem pd__28_29Z : parseMethodDescriptor "()Z" = some ⟨[], (some .boolean)⟩ := by decide +kernel
theorem d_jdk_42_method_80_code_1 : decode jdk_42_method_80_code 1 = .ok (.invokevirtual 492, 3) := by decide +kernel
theorem d_jdk_42_method_80_code_4 : decode jdk_42_method_80_code 4 = .ok (.ifCond .eq 19, 3) := by decide +kernel
theorem d_jdk_42_method_80_code_7 : decode jdk_42_method_80_code 7 = .ok (.aload_n 0, 1) := by decide +kernel
theorem d_jdk_42_method_80_code_8 : decode jdk_42_method_80_code 8 = .ok (.getfield 9, 3) := by decide +kernel
theorem d_jdk_42_method_80_code_11 : decode jdk_42_method_80_code 11 = .ok (.iload_n 1, 1) := by decide +kernel
theorem d_jdk_42_method_80_code_12 : decode jdk_42_method_80_code 12 = .ok (.iload_n 2, 1) := by decide +kernel
theorem d_jdk_42_method_80_code_13 : decode jdk_42_method_80_code 13 = .ok (.aload_n 0, 1) := by decide +kernel
theorem pd__28_29I : parseMethodDescriptor "()I" = some ⟨[], (some .int)⟩ := by decide +kernel
theorem d_jdk_42_method_80_code_14 : decode jdk_42_method_80_code 14 = .ok (.invokevirtual 505, 3) := by decide +kernel
theorem d_jdk_42_method_80_code_17 : decode jdk_42_method_80_code 17 = .ok (.invokestatic 637, 3) := by decide +kernel
theorem d_jdk_42_method_80_code_20 : decode jdk_42_method_80_code 20 = .ok (.goto 16, 3) := by decide +kernel
theorem d_jdk_42_method_80_code_36 : decode jdk_42_method_80_code 36 = .ok (.ireturn, 1) := by decide +kernel
set_option maxRecDepth 65536 in
set_option maxHeartbeats 40000000 in
theorem ct_io3 (l : Launch) (Z : State) (a0 : Array Value) (hw : ∀ d ∈ tables_1, d.before a0 Z = true) (n0 : Nat) (h0 : Heap) (a1 b : Addr) (k : ClassId) (p1 v0 : Int32) (cs : Int32) (S_cs : Sta Z h0 "java/lang/String" "COMPACT_STRINGS" "Z" (.int cs)) (hcs : ¬ cs = 0) (E : Exa Z h0 a1 "java/lang/String") (FC : Fld Z h0 a1 "java/lang/String" "coder" "B" (.int (0 : Int32))) (FV : Fld Z h0 a1 "java/lang/String" "value" "[B" (.ref b)) (AV : Arv Z h0 b k .byte (1 : Int32) [.int v0] (.int 0)) (h1 : ¬ p1 < 0) (h2 : ¬ 255 < p1) (hne : ¬ v0 = p1.toInt8.toInt32) :
    Ct l Z (⟨"java/lang/String", "indexOf", "(II)I"⟩ : MethodName) jdk_42_method_80_code 3 (some .int) ({ frames := 2, cells := 0, slots := 0, locals := 32 } : Room) EL1 n0 true [] #[(.ref a1), (.int p1), (.int (0 : Int32))] h0 [] (fun v h N => h0 = h ∧ v = some (.int (-1))) := by
  refine Ct.of (a0 := a0) (plainFor_of_name pn_java_lang_String) (own_ew hw) (L0 := #[.val (.ref a1), .val (.int p1), .val (.int (0 : Int32))]) (fun m => by first | (simp [entryFrame, mkF, argsToLocals, Value.category]; done) | rfl) ?_
  have l0_E := nlt E.lt
  have l0_AV := nlt AV.lt
  refine Go.aloadN (pc' := 1) d_jdk_42_method_80_code_0 rfl rfl rfl ?_
  refine Go.callV (a1 := a0) (pc' := 4) (argsL := []) (rest := []) (ct_isLatin1 l Z a0 hw n0 h0 a1 cs S_cs hcs FC) d_jdk_42_method_80_code_1 (hw _ (List.mem_of_getElem? (i := 44) rfl)) (hw _ (List.mem_of_getElem? (i := 45) rfl)) (hw _ (List.mem_of_getElem? (i := 47) rfl)) (hw _ (List.mem_of_getElem? (i := 47) rfl)) (hw _ (List.mem_of_getElem? (i := 46) rfl)) (hw _ (List.mem_of_getElem? (i := 5) rfl)) (hw _ (List.mem_of_getElem? (i := 48) rfl)) E (by decide) (lenOf pd__28_29Z rfl) rfl 0 rfl rfl (by decide) (by decide) (by decide) (by decide) (fun _ q => nomatch q) rfl (fun v_1 h_2 N_3 hQ_4 hle_5 => ?_)
  obtain ⟨rfl, rfl⟩ := hQ_4
  refine Go.re (pc' := 4) (L' := #[.val (.ref a1), .val (.int p1), .val (.int (0 : Int32))]) (S' := [(.int (1 : Int32))]) rfl rfl rfl ?_
  refine Go.ifF (pc' := 7) d_jdk_42_method_80_code_4 (show ¬ ((1 : Int32) = (0 : Int32)) by decide) rfl ?_
  refine Go.aloadN (pc' := 8) d_jdk_42_method_80_code_7 rfl rfl rfl ?_
  refine Go.getF (pc' := 11) (host := "") (a1 := a0) d_jdk_42_method_80_code_8 (Or.inl (hw _ (List.mem_of_getElem? (i := 51) rfl))) Via.refl FV rfl ?_
  refine Go.iloadN (pc' := 12) d_jdk_42_method_80_code_11 rfl rfl ?_
  refine Go.iloadN (pc' := 13) d_jdk_42_method_80_code_12 rfl rfl ?_
  refine Go.aloadN (pc' := 14) d_jdk_42_method_80_code_13 rfl rfl rfl ?_
  refine Go.callV (a1 := a0) (pc' := 17) (argsL := []) (rest := [(.int (0 : Int32)), (.int p1), (.ref b)]) (ct_length l Z a0 hw n0 h0 a1 b k (1 : Int32) [(.int v0)] cs S_cs hcs E FC FV AV) d_jdk_42_method_80_code_14 (hw _ (List.mem_of_getElem? (i := 52) rfl)) (hw _ (List.mem_of_getElem? (i := 53) rfl)) (hw _ (List.mem_of_getElem? (i := 55) rfl)) (hw _ (List.mem_of_getElem? (i := 55) rfl)) (hw _ (List.mem_of_getElem? (i := 54) rfl)) (hw _ (List.mem_of_getElem? (i := 5) rfl)) (hw _ (List.mem_of_getElem? (i := 56) rfl)) E (by decide) (lenOf pd__28_29I rfl) rfl 3 rfl rfl (by decide) (by decide) (by decide) (by decide) (fun _ q => nomatch q) rfl (fun v_6 h_7 N_8 hQ_9 hle_10 => ?_)
  obtain ⟨rfl, rfl⟩ := hQ_9
  refine Go.re (pc' := 17) (L' := #[.val (.ref a1), .val (.int p1), .val (.int (0 : Int32))]) (S' := [(.int (1 : Int32)), (.int (0 : Int32)), (.int p1), (.ref b)]) rfl rfl rfl ?_
  refine Go.callS (a1 := a0) (pc' := 20) (argsL := [(.ref b), (.int p1), (.int (0 : Int32)), (.int (1 : Int32))]) (rest := []) (ct_slio l Z a0 hw n0 h0 b k p1 v0 AV h1 h2 hne) d_jdk_42_method_80_code_17 (hw _ (List.mem_of_getElem? (i := 62) rfl)) (hw _ (List.mem_of_getElem? (i := 63) rfl)) (hw _ (List.mem_of_getElem? (i := 64) rfl)) (hw _ (List.mem_of_getElem? (i := 65) rfl)) (by decide) (lenOf pd__28_5bBIII_29I rfl) rfl 0 rfl rfl (by decide) (by decide) (by decide) (by decide) (fun _ q => nomatch q) rfl (fun v_11 h_12 N_13 hQ_14 hle_15 => ?_)
  obtain ⟨rfl, rfl⟩ := hQ_14
  refine Go.re (pc' := 20) (L' := #[.val (.ref a1), .val (.int p1), .val (.int (0 : Int32))]) (S' := [(.int (-1 : Int32))]) rfl rfl rfl ?_
  refine Go.goto (pc' := 36) d_jdk_42_method_80_code_20 (by decide) (by decide) ?_
  refine Go.retI rfl [] (fun _ q => nomatch q) d_jdk_42_method_80_code_36 (by decide) (by decide) ?_
  exact ⟨rfl, rfl⟩
theorem d_jdk_42_method_79_code_0 : decode jdk_42_method_79_code 0 = .ok (.aload_n 0, 1) := by decide +kernel
theorem d_jdk_42_method_79_code_1 : decode jdk_42_method_79_code 1 = .ok (.iload_n 1, 1) := by decide +kernel
theorem d_jdk_42_method_79_code_2 : decode jdk_42_method_79_code 2 = .ok (.iconst 0, 1) := by decide +kernel
theorem d_jdk_42_method_79_code_3 : decode jdk_42_method_79_code 3 = .ok (.invokevirtual 633, 3) := by decide +kernel
theorem d_jdk_42_method_79_code_6 : decode jdk_42_method_79_code 6 = .ok (.ireturn, 1) := by decide +kernel
set_option maxRecDepth 65536 in
set_option maxHeartbeats 40000000 in
theorem ct_io2 (l : Launch) (Z : State) (a0 : Array Value) (hw : ∀ d ∈ tables_1, d.before a0 Z = true) (n0 : Nat) (h0 : Heap) (a1 b : Addr) (k : ClassId) (p1 v0 : Int32) (cs : Int32) (S_cs : Sta Z h0 "java/lang/String" "COMPACT_STRINGS" "Z" (.int cs)) (hcs : ¬ cs = 0) (E : Exa Z h0 a1 "java/lang/String") (FC : Fld Z h0 a1 "java/lang/String" "coder" "B" (.int (0 : Int32))) (FV : Fld Z h0 a1 "java/lang/String" "value" "[B" (.ref b)) (AV : Arv Z h0 b k .byte (1 : Int32) [.int v0] (.int 0)) (h1 : ¬ p1 < 0) (h2 : ¬ 255 < p1) (hne : ¬ v0 = p1.toInt8.toInt32) :
    Ct l Z (⟨"java/lang/String", "indexOf", "(I)I"⟩ : MethodName) jdk_42_method_79_code 2 (some .int) ({ frames := 3, cells := 0, slots := 0, locals := 46 } : Room) EL1 n0 true [] #[(.ref a1), (.int p1)] h0 [] (fun v h N => h0 = h ∧ v = some (.int (-1))) := by
  refine Ct.of (a0 := a0) (plainFor_of_name pn_java_lang_String) (own_ew hw) (L0 := #[.val (.ref a1), .val (.int p1)]) (fun m => by first | (simp [entryFrame, mkF, argsToLocals, Value.category]; done) | rfl) ?_
  have l0_E := nlt E.lt
  have l0_AV := nlt AV.lt
  refine Go.aloadN (pc' := 1) d_jdk_42_method_79_code_0 rfl rfl rfl ?_
  refine Go.iloadN (pc' := 2) d_jdk_42_method_79_code_1 rfl rfl ?_
  refine Go.iconst (pc' := 3) 0 d_jdk_42_method_79_code_2 rfl rfl ?_
  refine Go.callV (a1 := a0) (pc' := 6) (argsL := [(.int p1), (.int (0 : Int32))]) (rest := []) (ct_io3 l Z a0 hw n0 h0 a1 b k p1 v0 cs S_cs hcs E FC FV AV h1 h2 hne) d_jdk_42_method_79_code_3 (hw _ (List.mem_of_getElem? (i := 39) rfl)) (hw _ (List.mem_of_getElem? (i := 40) rfl)) (hw _ (List.mem_of_getElem? (i := 42) rfl)) (hw _ (List.mem_of_getElem? (i := 42) rfl)) (hw _ (List.mem_of_getElem? (i := 41) rfl)) (hw _ (List.mem_of_getElem? (i := 5) rfl)) (hw _ (List.mem_of_getElem? (i := 43) rfl)) E (by decide) (lenOf pd__28II_29I rfl) rfl 0 rfl rfl (by decide) (by decide) (by decide) (by decide) (fun _ q => nomatch q) rfl (fun v_1 h_2 N_3 hQ_4 hle_5 => ?_)
  obtain ⟨rfl, rfl⟩ := hQ_4
  refine Go.re (pc' := 6) (L' := #[.val (.ref a1), .val (.int p1)]) (S' := [(.int (-1 : Int32))]) rfl rfl rfl ?_
  refine Go.retI rfl [] (fun _ q => nomatch q) d_jdk_42_method_79_code_6 (by decide) (by decide) ?_
  exact ⟨rfl, rfl⟩
theorem pn_com_example_coat_check_coatcheck_client_LicenseResponseData : plainName "com/example/coat_check/coatcheck/client/LicenseResponseData" = true := by first | (simp [plainName, overriddenIn]; done) | decide +kernel
theorem d_prog_18_method_5_code_0 : decode prog_18_method_5_code 0 = .ok (.aload_n 0, 1) := by decide +kernel
theorem d_prog_18_method_5_code_1 : decode prog_18_method_5_code 1 = .ok (.aload_n 1, 1) := by decide +kernel
theorem pd__28Ljava_2flang_2fObject_3bLjava_2flang_2fString_3b_29Ljava_2flang_2fObject_3b : parseMethodDescriptor "(Ljava/lang/Object;Ljava/lang/String;)Ljava/lang/Object;" = some ⟨[(.object "java/lang/Object"), (.object "java/lang/String")], (some (.object "java/lang/Object"))⟩ := by decide +kernel
theorem d_prog_18_method_5_code_2 : decode prog_18_method_5_code 2 = .ok (.invokestatic 21, 3) := by decide +kernel
theorem d_prog_18_method_5_code_5 : decode prog_18_method_5_code 5 = .ok (.pop, 1) := by decide +kernel
theorem d_prog_18_method_5_code_6 : decode prog_18_method_5_code 6 = .ok (.aload_n 0, 1) := by decide +kernel
theorem d_prog_18_method_5_code_7 : decode prog_18_method_5_code 7 = .ok (.bipush 124, 2) := by decide +kernel
theorem pd__28I_29I : parseMethodDescriptor "(I)I" = some ⟨[.int], (some .int)⟩ := by decide +kernel
theorem d_prog_18_method_5_code_9 : decode prog_18_method_5_code 9 = .ok (.invokevirtual 72, 3) := by decide +kernel
theorem d_prog_18_method_5_code_12 : decode prog_18_method_5_code 12 = .ok (.ifCond .ge 12, 3) := by decide +kernel
theorem d_prog_18_method_5_code_15 : decode prog_18_method_5_code 15 = .ok (.aload_n 0, 1) := by decide +kernel
theorem d_prog_18_method_5_code_16 : decode prog_18_method_5_code 16 = .ok (.bipush 58, 2) := by decide +kernel
theorem d_prog_18_method_5_code_18 : decode prog_18_method_5_code 18 = .ok (.invokevirtual 72, 3) := by decide +kernel
theorem d_prog_18_method_5_code_21 : decode prog_18_method_5_code 21 = .ok (.ifCond .lt 18, 3) := by decide +kernel
theorem d_prog_18_method_5_code_39 : decode prog_18_method_5_code 39 = .ok (.return_, 1) := by decide +kernel
set_option maxRecDepth 65536 in
set_option maxHeartbeats 40000000 in
theorem ct_nosep (l : Launch) (Z : State) (a0 : Array Value) (hw : ∀ d ∈ tables_1, d.before a0 Z = true) (n0 : Nat) (h0 : Heap) (a1 b c1 : Addr) (k : ClassId) (v0 : Int32) (cs : Int32) (S_cs : Sta Z h0 "java/lang/String" "COMPACT_STRINGS" "Z" (.int cs)) (hcs : ¬ cs = 0) (E : Exa Z h0 a1 "java/lang/String") (FC : Fld Z h0 a1 "java/lang/String" "coder" "B" (.int (0 : Int32))) (FV : Fld Z h0 a1 "java/lang/String" "value" "[B" (.ref b)) (AV : Arv Z h0 b k .byte (1 : Int32) [.int v0] (.int 0)) (hn124 : ¬ v0 = (124 : Int32).toInt8.toInt32) (hn58 : ¬ v0 = (58 : Int32).toInt8.toInt32) :
    Ct l Z (⟨"com/example/coat_check/coatcheck/client/LicenseResponseData", "requireNoSeparator", "(Ljava/lang/String;Ljava/lang/String;)V"⟩ : MethodName) prog_18_method_5_code 2 none ({ frames := 4, cells := 0, slots := 0, locals := 59 } : Room) EL1 n0 true [] #[(.ref a1), (.ref c1)] h0 [] (fun v h N => h0 = h ∧ v = none) := by
  refine Ct.of (a0 := a0) (plainFor_of_name pn_com_example_coat_check_coatcheck_client_LicenseResponseData) (own_ew hw) (L0 := #[.val (.ref a1), .val (.ref c1)]) (fun m => by first | (simp [entryFrame, mkF, argsToLocals, Value.category]; done) | rfl) ?_
  have l0_E := nlt E.lt
  have l0_AV := nlt AV.lt
  refine Go.aloadN (pc' := 1) d_prog_18_method_5_code_0 rfl rfl rfl ?_
  refine Go.aloadN (pc' := 2) d_prog_18_method_5_code_1 rfl rfl rfl ?_
  refine Go.callS (a1 := a0) (pc' := 5) (argsL := [(.ref a1), (.ref c1)]) (rest := []) (ct_rnn l Z a0 hw n0 h0 a1 c1) d_prog_18_method_5_code_2 (hw _ (List.mem_of_getElem? (i := 30) rfl)) (hw _ (List.mem_of_getElem? (i := 31) rfl)) (hw _ (List.mem_of_getElem? (i := 32) rfl)) (hw _ (List.mem_of_getElem? (i := 33) rfl)) (by decide) (lenOf pd__28Ljava_2flang_2fObject_3bLjava_2flang_2fString_3b_29Ljava_2flang_2fObject_3b rfl) rfl 0 rfl rfl (by decide) (by decide) (by decide) (by decide) (fun _ q => nomatch q) rfl (fun v_1 h_2 N_3 hQ_4 hle_5 => ?_)
  obtain ⟨rfl, rfl⟩ := hQ_4
  refine Go.re (pc' := 5) (L' := #[.val (.ref a1), .val (.ref c1)]) (S' := [(.ref a1)]) rfl rfl rfl ?_
  refine Go.pop (pc' := 6) d_prog_18_method_5_code_5 rfl rfl ?_
  refine Go.aloadN (pc' := 7) d_prog_18_method_5_code_6 rfl rfl rfl ?_
  refine Go.bipush (pc' := 9) 124 d_prog_18_method_5_code_7 rfl rfl ?_
  refine Go.callV (a1 := a0) (pc' := 12) (argsL := [(.int (124 : Int32))]) (rest := []) (ct_io2 l Z a0 hw n0 h0 a1 b k (124 : Int32) v0 cs S_cs hcs E FC FV AV (by decide) (by decide) hn124) d_prog_18_method_5_code_9 (hw _ (List.mem_of_getElem? (i := 34) rfl)) (hw _ (List.mem_of_getElem? (i := 35) rfl)) (hw _ (List.mem_of_getElem? (i := 37) rfl)) (hw _ (List.mem_of_getElem? (i := 37) rfl)) (hw _ (List.mem_of_getElem? (i := 36) rfl)) (hw _ (List.mem_of_getElem? (i := 5) rfl)) (hw _ (List.mem_of_getElem? (i := 38) rfl)) E (by decide) (lenOf pd__28I_29I rfl) rfl 0 rfl rfl (by decide) (by decide) (by decide) (by decide) (fun _ q => nomatch q) rfl (fun v_6 h_7 N_8 hQ_9 hle_10 => ?_)
  obtain ⟨rfl, rfl⟩ := hQ_9
  refine Go.re (pc' := 12) (L' := #[.val (.ref a1), .val (.ref c1)]) (S' := [(.int (-1 : Int32))]) rfl rfl rfl ?_
  refine Go.ifF (pc' := 15) d_prog_18_method_5_code_12 (show (-1 : Int32) < (0 : Int32) by decide) rfl ?_
  refine Go.aloadN (pc' := 16) d_prog_18_method_5_code_15 rfl rfl rfl ?_
  refine Go.bipush (pc' := 18) 58 d_prog_18_method_5_code_16 rfl rfl ?_
  refine Go.callV (a1 := a0) (pc' := 21) (argsL := [(.int (58 : Int32))]) (rest := []) (ct_io2 l Z a0 hw n0 h0 a1 b k (58 : Int32) v0 cs S_cs hcs E FC FV AV (by decide) (by decide) hn58) d_prog_18_method_5_code_18 (hw _ (List.mem_of_getElem? (i := 34) rfl)) (hw _ (List.mem_of_getElem? (i := 35) rfl)) (hw _ (List.mem_of_getElem? (i := 37) rfl)) (hw _ (List.mem_of_getElem? (i := 37) rfl)) (hw _ (List.mem_of_getElem? (i := 36) rfl)) (hw _ (List.mem_of_getElem? (i := 5) rfl)) (hw _ (List.mem_of_getElem? (i := 38) rfl)) E (by decide) (lenOf pd__28I_29I rfl) rfl 0 rfl rfl (by decide) (by decide) (by decide) (by decide) (fun _ q => nomatch q) rfl (fun v_11 h_12 N_13 hQ_14 hle_15 => ?_)
  obtain ⟨rfl, rfl⟩ := hQ_14
  refine Go.re (pc' := 21) (L' := #[.val (.ref a1), .val (.ref c1)]) (S' := [(.int (-1 : Int32))]) rfl rfl rfl ?_
  refine Go.ifT (pc' := 39) d_prog_18_method_5_code_21 (show (-1 : Int32) < (0 : Int32) by decide) (by decide) (by decide) ?_
  refine Go.ret0 rfl [] (fun _ q => nomatch q) d_prog_18_method_5_code_39 (by decide) (by decide) ?_
  exact ⟨rfl, rfl⟩
theorem d_prog_18_method_1_code_0 : decode prog_18_method_1_code 0 = .ok (.aload_n 0, 1) := by decide +kernel
theorem pd__28_29V : parseMethodDescriptor "()V" = some ⟨[], none⟩ := by decide +kernel
theorem d_prog_18_method_1_code_1 : decode prog_18_method_1_code 1 = .ok (.invokespecial 1, 3) := by decide +kernel
theorem d_prog_18_method_1_code_4 : decode prog_18_method_1_code 4 = .ok (.aload_n 3, 1) := by decide +kernel
theorem d_prog_18_method_1_code_5 : decode prog_18_method_1_code 5 = .ok (.ldc 7, 2) := by decide +kernel
theorem pd__28Ljava_2flang_2fString_3bLjava_2flang_2fString_3b_29V : parseMethodDescriptor "(Ljava/lang/String;Ljava/lang/String;)V" = some ⟨[(.object "java/lang/String"), (.object "java/lang/String")], none⟩ := by decide +kernel
theorem d_prog_18_method_1_code_7 : decode prog_18_method_1_code 7 = .ok (.invokestatic 9, 3) := by decide +kernel
theorem d_prog_18_method_1_code_10 : decode prog_18_method_1_code 10 = .ok (.aload 4, 2) := by decide +kernel
theorem d_prog_18_method_1_code_12 : decode prog_18_method_1_code 12 = .ok (.ldc 15, 2) := by decide +kernel
theorem d_prog_18_method_1_code_14 : decode prog_18_method_1_code 14 = .ok (.invokestatic 9, 3) := by decide +kernel
theorem d_prog_18_method_1_code_17 : decode prog_18_method_1_code 17 = .ok (.aload 5, 2) := by decide +kernel
theorem d_prog_18_method_1_code_19 : decode prog_18_method_1_code 19 = .ok (.ldc 17, 2) := by decide +kernel
theorem d_prog_18_method_1_code_21 : decode prog_18_method_1_code 21 = .ok (.invokestatic 9, 3) := by decide +kernel
theorem d_prog_18_method_1_code_24 : decode prog_18_method_1_code 24 = .ok (.aload 8, 2) := by decide +kernel
theorem d_prog_18_method_1_code_26 : decode prog_18_method_1_code 26 = .ok (.ldc 19, 2) := by decide +kernel
theorem d_prog_18_method_1_code_28 : decode prog_18_method_1_code 28 = .ok (.invokestatic 21, 3) := by decide +kernel
theorem d_prog_18_method_1_code_31 : decode prog_18_method_1_code 31 = .ok (.pop, 1) := by decide +kernel
theorem d_prog_18_method_1_code_32 : decode prog_18_method_1_code 32 = .ok (.aload_n 0, 1) := by decide +kernel
theorem d_prog_18_method_1_code_33 : decode prog_18_method_1_code 33 = .ok (.iload_n 1, 1) := by decide +kernel
theorem d_prog_18_method_1_code_34 : decode prog_18_method_1_code 34 = .ok (.putfield 27, 3) := by decide +kernel
theorem d_prog_18_method_1_code_37 : decode prog_18_method_1_code 37 = .ok (.aload_n 0, 1) := by decide +kernel
theorem d_prog_18_method_1_code_38 : decode prog_18_method_1_code 38 = .ok (.iload_n 2, 1) := by decide +kernel
theorem d_prog_18_method_1_code_39 : decode prog_18_method_1_code 39 = .ok (.putfield 31, 3) := by decide +kernel
theorem d_prog_18_method_1_code_42 : decode prog_18_method_1_code 42 = .ok (.aload_n 0, 1) := by decide +kernel
theorem d_prog_18_method_1_code_43 : decode prog_18_method_1_code 43 = .ok (.aload_n 3, 1) := by decide +kernel
theorem d_prog_18_method_1_code_44 : decode prog_18_method_1_code 44 = .ok (.putfield 34, 3) := by decide +kernel
theorem d_prog_18_method_1_code_47 : decode prog_18_method_1_code 47 = .ok (.aload_n 0, 1) := by decide +kernel
theorem d_prog_18_method_1_code_48 : decode prog_18_method_1_code 48 = .ok (.aload 4, 2) := by decide +kernel
theorem d_prog_18_method_1_code_50 : decode prog_18_method_1_code 50 = .ok (.putfield 37, 3) := by decide +kernel
theorem d_prog_18_method_1_code_53 : decode prog_18_method_1_code 53 = .ok (.aload_n 0, 1) := by decide +kernel
theorem d_prog_18_method_1_code_54 : decode prog_18_method_1_code 54 = .ok (.aload 5, 2) := by decide +kernel
theorem d_prog_18_method_1_code_56 : decode prog_18_method_1_code 56 = .ok (.putfield 39, 3) := by decide +kernel
theorem d_prog_18_method_1_code_59 : decode prog_18_method_1_code 59 = .ok (.aload_n 0, 1) := by decide +kernel
theorem d_prog_18_method_1_code_60 : decode prog_18_method_1_code 60 = .ok (.lload 6, 2) := by decide +kernel
theorem d_prog_18_method_1_code_62 : decode prog_18_method_1_code 62 = .ok (.putfield 41, 3) := by decide +kernel
theorem d_prog_18_method_1_code_65 : decode prog_18_method_1_code 65 = .ok (.aload_n 0, 1) := by decide +kernel
theorem d_prog_18_method_1_code_66 : decode prog_18_method_1_code 66 = .ok (.aload 8, 2) := by decide +kernel
theorem d_prog_18_method_1_code_68 : decode prog_18_method_1_code 68 = .ok (.putfield 45, 3) := by decide +kernel
theorem d_prog_18_method_1_code_71 : decode prog_18_method_1_code 71 = .ok (.return_, 1) := by decide +kernel
set_option maxRecDepth 65536 in
set_option maxHeartbeats 40000000 in
theorem ct_lrd (l : Launch) (Z : State) (a0 : Array Value) (hw : ∀ d ∈ tables_1, d.before a0 Z = true) (n0 : Nat) (h0 : Heap) (a1 : Addr) (p1 p2 : Int32) (p6 : Int64) (s1 s2 s3 s4 : Addr) (ha1 : n0 ≤ a1) (E1 : Exa Z h0 a1 "com/example/coat_check/coatcheck/client/LicenseResponseData") (cs : Int32) (S_cs : Sta Z h0 "java/lang/String" "COMPACT_STRINGS" "Z" (.int cs)) (hcs : ¬ cs = 0) (G0 : Fld Z h0 a1 "com/example/coat_check/coatcheck/client/LicenseResponseData" "responseCode" "I" (.int (0 : Int32))) (G1 : Fld Z h0 a1 "com/example/coat_check/coatcheck/client/LicenseResponseData" "nonce" "I" (.int (0 : Int32))) (G2 : Fld Z h0 a1 "com/example/coat_check/coatcheck/client/LicenseResponseData" "packageName" "Ljava/lang/String;" (.null)) (G3 : Fld Z h0 a1 "com/example/coat_check/coatcheck/client/LicenseResponseData" "versionCode" "Ljava/lang/String;" (.null)) (G4 : Fld Z h0 a1 "com/example/coat_check/coatcheck/client/LicenseResponseData" "userId" "Ljava/lang/String;" (.null)) (G5 : Fld Z h0 a1 "com/example/coat_check/coatcheck/client/LicenseResponseData" "timestamp" "J" (.long (0 : Int64))) (G6 : Fld Z h0 a1 "com/example/coat_check/coatcheck/client/LicenseResponseData" "extras" "Ljava/lang/String;" (.null)) (b1 : Addr) (k1 : ClassId) (u1 : Int32) (Es1 : Exa Z h0 s1 "java/lang/String") (FCs1 : Fld Z h0 s1 "java/lang/String" "coder" "B" (.int (0 : Int32))) (FVs1 : Fld Z h0 s1 "java/lang/String" "value" "[B" (.ref b1)) (AVs1 : Arv Z h0 b1 k1 .byte (1 : Int32) [.int u1] (.int 0)) (hs1 : ¬ u1 = (124 : Int32).toInt8.toInt32) (ht1 : ¬ u1 = (58 : Int32).toInt8.toInt32) (b2 : Addr) (k2 : ClassId) (u2 : Int32) (Es2 : Exa Z h0 s2 "java/lang/String") (FCs2 : Fld Z h0 s2 "java/lang/String" "coder" "B" (.int (0 : Int32))) (FVs2 : Fld Z h0 s2 "java/lang/String" "value" "[B" (.ref b2)) (AVs2 : Arv Z h0 b2 k2 .byte (1 : Int32) [.int u2] (.int 0)) (hs2 : ¬ u2 = (124 : Int32).toInt8.toInt32) (ht2 : ¬ u2 = (58 : Int32).toInt8.toInt32) (b3 : Addr) (k3 : ClassId) (u3 : Int32) (Es3 : Exa Z h0 s3 "java/lang/String") (FCs3 : Fld Z h0 s3 "java/lang/String" "coder" "B" (.int (0 : Int32))) (FVs3 : Fld Z h0 s3 "java/lang/String" "value" "[B" (.ref b3)) (AVs3 : Arv Z h0 b3 k3 .byte (1 : Int32) [.int u3] (.int 0)) (hs3 : ¬ u3 = (124 : Int32).toInt8.toInt32) (ht3 : ¬ u3 = (58 : Int32).toInt8.toInt32) :
    Ct l Z (⟨"com/example/coat_check/coatcheck/client/LicenseResponseData", "<init>", "(IILjava/lang/String;Ljava/lang/String;Ljava/lang/String;JLjava/lang/String;)V"⟩ : MethodName) prog_18_method_1_code 9 none ({ frames := 5, cells := 8, slots := 152, locals := 72 } : Room) EL1 n0 true [] #[(.ref a1), (.int p1), (.int p2), (.ref s1), (.ref s2), (.ref s3), (.long p6), (.ref s4)] h0 [] (fun v h N => v = none ∧ Keep h0 h [a1]) := by
  refine Ct.of (a0 := a0) (plainFor_of_name pn_com_example_coat_check_coatcheck_client_LicenseResponseData) (own_ew hw) (L0 := #[.val (.ref a1), .val (.int p1), .val (.int p2), .val (.ref s1), .val (.ref s2), .val (.ref s3), .val (.long p6), .second, .val (.ref s4)]) (fun m => by first | (simp [entryFrame, mkF, argsToLocals, Value.category]; done) | rfl) ?_
  have lta1 := nlt E1.lt
  have l0_E1 := nlt E1.lt
  have l0_Es1 := nlt Es1.lt
  have l0_AVs1 := nlt AVs1.lt
  have l0_Es2 := nlt Es2.lt
  have l0_AVs2 := nlt AVs2.lt
  have l0_Es3 := nlt Es3.lt
  have l0_AVs3 := nlt AVs3.lt
  refine Go.aloadN (pc' := 1) d_prog_18_method_1_code_0 rfl rfl rfl ?_
  refine Go.callN (a1 := a0) (pc' := 4) (argsL := []) (rest := []) (ct_record l Z a0 hw n0 h0 a1) d_prog_18_method_1_code_1 rfl (hw _ (List.mem_of_getElem? (i := 18) rfl)) (hw _ (List.mem_of_getElem? (i := 19) rfl)) (hw _ (List.mem_of_getElem? (i := 21) rfl)) (hw _ (List.mem_of_getElem? (i := 22) rfl)) (by decide) (lenOf pd__28_29V rfl) rfl 0 rfl rfl (by decide) (by decide) (by decide) (by decide) (fun _ q => nomatch q) rfl (fun v_1 h_2 N_3 hQ_4 hle_5 => ?_)
  obtain ⟨rfl, rfl⟩ := hQ_4
  refine Go.re (pc' := 4) (L' := #[.val (.ref a1), .val (.int p1), .val (.int p2), .val (.ref s1), .val (.ref s2), .val (.ref s3), .val (.long p6), .second, .val (.ref s4)]) (S' := []) rfl rfl rfl ?_
  refine Go.aloadN (pc' := 5) d_prog_18_method_1_code_4 rfl rfl rfl ?_
  refine Go.ldcR (pc' := 7) (a1 := a0) 44 (vs := [(.int (112 : Int32)), (.int (97 : Int32)), (.int (99 : Int32)), (.int (107 : Int32)), (.int (97 : Int32)), (.int (103 : Int32)), (.int (101 : Int32)), (.int (78 : Int32)), (.int (97 : Int32)), (.int (109 : Int32)), (.int (101 : Int32))]) (z := 11) d_prog_18_method_1_code_5 rfl (hw _ (List.mem_of_getElem? (i := 26) rfl)) (own_ws hw) (by decide) (by decide) (by decide) (by decide) rfl (own_ew hw) (List.mem_of_getElem? (i := 0) rfl) ⟨by decide, by decide⟩ (by decide) (by decide) (fun a_6 h_7 b_8 k_9 E_10 X_11 F_12 F_13 A_14 ne_15 => ?_)
  have szh_7 : h0.size ≤ h_7.size := E_10.1
  have lta_6 := nlt X_11.lt
  have ltb_8 := nlt A_14.lt
  have F_16 : Exa Z h_7 s1 "java/lang/String" := (Exa.ext E_10 Es1)
  have F_17 : Fld Z h_7 s1 "java/lang/String" "coder" "B" (.int (0 : Int32)) := (Fld.ext E_10 FCs1)
  have F_18 : Fld Z h_7 s1 "java/lang/String" "value" "[B" (.ref b1) := (Fld.ext E_10 FVs1)
  have F_19 : Arv Z h_7 b1 k1 .byte (1 : Int32) [(.int u1)] (.int 0) := (Arv.ext AVs1 E_10)
  have F_20 : Sta Z h_7 "java/lang/String" "COMPACT_STRINGS" "Z" (.int cs) := (Sta.ext E_10 S_cs)
  refine Go.callS (a1 := a0) (pc' := 10) (argsL := [(.ref s1), (.ref a_6)]) (rest := []) (ct_nosep l Z a0 hw n0 h_7 s1 b1 a_6 k1 u1 cs F_20 hcs F_16 F_17 F_18 F_19 hs1 ht1) d_prog_18_method_1_code_7 (hw _ (List.mem_of_getElem? (i := 27) rfl)) (hw _ (List.mem_of_getElem? (i := 28) rfl)) (hw _ (List.mem_of_getElem? (i := 3) rfl)) (hw _ (List.mem_of_getElem? (i := 29) rfl)) (by decide) (lenOf pd__28Ljava_2flang_2fString_3bLjava_2flang_2fString_3b_29V rfl) rfl 0 rfl rfl (by decide) (by decide) (by decide) (by decide) (fun _ q => nomatch q) rfl (fun v_21 h_22 N_23 hQ_24 hle_25 => ?_)
  obtain ⟨rfl, rfl⟩ := hQ_24
  refine Go.re (pc' := 10) (L' := #[.val (.ref a1), .val (.int p1), .val (.int p2), .val (.ref s1), .val (.ref s2), .val (.ref s3), .val (.long p6), .second, .val (.ref s4)]) (S' := []) rfl rfl rfl ?_
  refine Go.aload (pc' := 12) d_prog_18_method_1_code_10 rfl rfl rfl ?_
  refine Go.ldcR (pc' := 14) (a1 := a0) 44 (vs := [(.int (118 : Int32)), (.int (101 : Int32)), (.int (114 : Int32)), (.int (115 : Int32)), (.int (105 : Int32)), (.int (111 : Int32)), (.int (110 : Int32)), (.int (67 : Int32)), (.int (111 : Int32)), (.int (100 : Int32)), (.int (101 : Int32))]) (z := 11) d_prog_18_method_1_code_12 rfl (hw _ (List.mem_of_getElem? (i := 79) rfl)) (own_ws hw) (by decide) (by decide) (by decide) (by decide) rfl (own_ew hw) (List.mem_of_getElem? (i := 1) rfl) ⟨by decide, by decide⟩ (by decide) (by decide) (fun a_26 h_27 b_28 k_29 E_30 X_31 F_32 F_33 A_34 ne_35 => ?_)
  have szh_27 : h_7.size ≤ h_27.size := E_30.1
  have lta_26 := nlt X_31.lt
  have ltb_28 := nlt A_34.lt
  have F_36 : Exa Z h_27 s2 "java/lang/String" := (Exa.ext E_30 (Exa.ext E_10 Es2))
  have F_37 : Fld Z h_27 s2 "java/lang/String" "coder" "B" (.int (0 : Int32)) := (Fld.ext E_30 (Fld.ext E_10 FCs2))
  have F_38 : Fld Z h_27 s2 "java/lang/String" "value" "[B" (.ref b2) := (Fld.ext E_30 (Fld.ext E_10 FVs2))
  have F_39 : Arv Z h_27 b2 k2 .byte (1 : Int32) [(.int u2)] (.int 0) := (Arv.ext (Arv.ext AVs2 E_10) E_30)
  have F_40 : Sta Z h_27 "java/lang/String" "COMPACT_STRINGS" "Z" (.int cs) := (Sta.ext E_30 F_20)
  refine Go.callS (a1 := a0) (pc' := 17) (argsL := [(.ref s2), (.ref a_26)]) (rest := []) (ct_nosep l Z a0 hw n0 h_27 s2 b2 a_26 k2 u2 cs F_40 hcs F_36 F_37 F_38 F_39 hs2 ht2) d_prog_18_method_1_code_14 (hw _ (List.mem_of_getElem? (i := 27) rfl)) (hw _ (List.mem_of_getElem? (i := 28) rfl)) (hw _ (List.mem_of_getElem? (i := 3) rfl)) (hw _ (List.mem_of_getElem? (i := 29) rfl)) (by decide) (lenOf pd__28Ljava_2flang_2fString_3bLjava_2flang_2fString_3b_29V rfl) rfl 0 rfl rfl (by decide) (by decide) (by decide) (by decide) (fun _ q => nomatch q) rfl (fun v_41 h_42 N_43 hQ_44 hle_45 => ?_)
  obtain ⟨rfl, rfl⟩ := hQ_44
  refine Go.re (pc' := 17) (L' := #[.val (.ref a1), .val (.int p1), .val (.int p2), .val (.ref s1), .val (.ref s2), .val (.ref s3), .val (.long p6), .second, .val (.ref s4)]) (S' := []) rfl rfl rfl ?_
  refine Go.aload (pc' := 19) d_prog_18_method_1_code_17 rfl rfl rfl ?_
  refine Go.ldcR (pc' := 21) (a1 := a0) 24 (vs := [(.int (117 : Int32)), (.int (115 : Int32)), (.int (101 : Int32)), (.int (114 : Int32)), (.int (73 : Int32)), (.int (100 : Int32))]) (z := 6) d_prog_18_method_1_code_19 rfl (hw _ (List.mem_of_getElem? (i := 80) rfl)) (own_ws hw) (by decide) (by decide) (by decide) (by decide) rfl (own_ew hw) (List.mem_of_getElem? (i := 2) rfl) ⟨by decide, by decide⟩ (by decide) (by decide) (fun a_46 h_47 b_48 k_49 E_50 X_51 F_52 F_53 A_54 ne_55 => ?_)
  have szh_47 : h_27.size ≤ h_47.size := E_50.1
  have lta_46 := nlt X_51.lt
  have ltb_48 := nlt A_54.lt
  have F_56 : Exa Z h_47 s3 "java/lang/String" := (Exa.ext E_50 (Exa.ext E_30 (Exa.ext E_10 Es3)))
  have F_57 : Fld Z h_47 s3 "java/lang/String" "coder" "B" (.int (0 : Int32)) := (Fld.ext E_50 (Fld.ext E_30 (Fld.ext E_10 FCs3)))
  have F_58 : Fld Z h_47 s3 "java/lang/String" "value" "[B" (.ref b3) := (Fld.ext E_50 (Fld.ext E_30 (Fld.ext E_10 FVs3)))
  have F_59 : Arv Z h_47 b3 k3 .byte (1 : Int32) [(.int u3)] (.int 0) := (Arv.ext (Arv.ext (Arv.ext AVs3 E_10) E_30) E_50)
  have F_60 : Sta Z h_47 "java/lang/String" "COMPACT_STRINGS" "Z" (.int cs) := (Sta.ext E_50 F_40)
  refine Go.callS (a1 := a0) (pc' := 24) (argsL := [(.ref s3), (.ref a_46)]) (rest := []) (ct_nosep l Z a0 hw n0 h_47 s3 b3 a_46 k3 u3 cs F_60 hcs F_56 F_57 F_58 F_59 hs3 ht3) d_prog_18_method_1_code_21 (hw _ (List.mem_of_getElem? (i := 27) rfl)) (hw _ (List.mem_of_getElem? (i := 28) rfl)) (hw _ (List.mem_of_getElem? (i := 3) rfl)) (hw _ (List.mem_of_getElem? (i := 29) rfl)) (by decide) (lenOf pd__28Ljava_2flang_2fString_3bLjava_2flang_2fString_3b_29V rfl) rfl 0 rfl rfl (by decide) (by decide) (by decide) (by decide) (fun _ q => nomatch q) rfl (fun v_61 h_62 N_63 hQ_64 hle_65 => ?_)
  obtain ⟨rfl, rfl⟩ := hQ_64
  refine Go.re (pc' := 24) (L' := #[.val (.ref a1), .val (.int p1), .val (.int p2), .val (.ref s1), .val (.ref s2), .val (.ref s3), .val (.long p6), .second, .val (.ref s4)]) (S' := []) rfl rfl rfl ?_
  refine Go.aload (pc' := 26) d_prog_18_method_1_code_24 rfl rfl rfl ?_
  refine Go.ldcR (pc' := 28) (a1 := a0) 24 (vs := [(.int (101 : Int32)), (.int (120 : Int32)), (.int (116 : Int32)), (.int (114 : Int32)), (.int (97 : Int32)), (.int (115 : Int32))]) (z := 6) d_prog_18_method_1_code_26 rfl (hw _ (List.mem_of_getElem? (i := 81) rfl)) (own_ws hw) (by decide) (by decide) (by decide) (by decide) rfl (own_ew hw) (List.mem_of_getElem? (i := 3) rfl) ⟨by decide, by decide⟩ (by decide) (by decide) (fun a_66 h_67 b_68 k_69 E_70 X_71 F_72 F_73 A_74 ne_75 => ?_)
  have szh_67 : h_47.size ≤ h_67.size := E_70.1
  have lta_66 := nlt X_71.lt
  have ltb_68 := nlt A_74.lt
  refine Go.callS (a1 := a0) (pc' := 31) (argsL := [(.ref s4), (.ref a_66)]) (rest := []) (ct_rnn l Z a0 hw n0 h_67 s4 a_66) d_prog_18_method_1_code_28 (hw _ (List.mem_of_getElem? (i := 30) rfl)) (hw _ (List.mem_of_getElem? (i := 31) rfl)) (hw _ (List.mem_of_getElem? (i := 32) rfl)) (hw _ (List.mem_of_getElem? (i := 33) rfl)) (by decide) (lenOf pd__28Ljava_2flang_2fObject_3bLjava_2flang_2fString_3b_29Ljava_2flang_2fObject_3b rfl) rfl 0 rfl rfl (by decide) (by decide) (by decide) (by decide) (fun _ q => nomatch q) rfl (fun v_76 h_77 N_78 hQ_79 hle_80 => ?_)
  obtain ⟨rfl, rfl⟩ := hQ_79
  refine Go.re (pc' := 31) (L' := #[.val (.ref a1), .val (.int p1), .val (.int p2), .val (.ref s1), .val (.ref s2), .val (.ref s3), .val (.long p6), .second, .val (.ref s4)]) (S' := [(.ref s4)]) rfl rfl rfl ?_
  refine Go.pop (pc' := 32) d_prog_18_method_1_code_31 rfl rfl ?_
  refine Go.aloadN (pc' := 33) d_prog_18_method_1_code_32 rfl rfl rfl ?_
  refine Go.iloadN (pc' := 34) d_prog_18_method_1_code_33 rfl rfl ?_
  have F_81 : Fld Z h_67 a1 "com/example/coat_check/coatcheck/client/LicenseResponseData" "responseCode" "I" (.int (0 : Int32)) := (Fld.ext E_70 (Fld.ext E_50 (Fld.ext E_30 (Fld.ext E_10 G0))))
  have F_82 : Exa Z h_67 a1 "com/example/coat_check/coatcheck/client/LicenseResponseData" := (Exa.ext E_70 (Exa.ext E_50 (Exa.ext E_30 (Exa.ext E_10 E1))))
  refine Go.putF (pc' := 37) (host := "") (a1 := a0) d_prog_18_method_1_code_34 (Or.inl (hw _ (List.mem_of_getElem? (i := 82) rfl))) Via.refl F_81 F_82 (Or.inr ⟨(hw _ (List.mem_of_getElem? (i := 83) rfl)), rfl, rfl⟩) (hw _ (List.mem_of_getElem? (i := 2) rfl)) (ty := .int) (by decide) rfl rfl (Sf.exa F_82 (by decide) (by decide)) (by omega) rfl (fun h_83 W_84 => ?_)
  have szh_83 : h_83.size = h_67.size := Wr.size W_84
  have F_85 : Fld Z h_83 a1 "com/example/coat_check/coatcheck/client/LicenseResponseData" "responseCode" "I" (.int p1) := Fld.same W_84 F_81
  refine Go.aloadN (pc' := 38) d_prog_18_method_1_code_37 rfl rfl rfl ?_
  refine Go.iloadN (pc' := 39) d_prog_18_method_1_code_38 rfl rfl ?_
  have F_86 : Fld Z h_83 a1 "com/example/coat_check/coatcheck/client/LicenseResponseData" "nonce" "I" (.int (0 : Int32)) := (Fld.other W_84 (Fld.ext E_70 (Fld.ext E_50 (Fld.ext E_30 (Fld.ext E_10 G1)))) (Or.inr (slot_ne (Or.inr (hw _ (List.mem_of_getElem? (i := 85) rfl))) (Or.inr (hw _ (List.mem_of_getElem? (i := 83) rfl))) (by decide) (t := .int) (t' := .int) (by decide) (by decide))))
  have F_87 : Exa Z h_83 a1 "com/example/coat_check/coatcheck/client/LicenseResponseData" := (Exa.wr W_84 F_82)
  refine Go.putF (pc' := 42) (host := "") (a1 := a0) d_prog_18_method_1_code_39 (Or.inl (hw _ (List.mem_of_getElem? (i := 84) rfl))) Via.refl F_86 F_87 (Or.inr ⟨(hw _ (List.mem_of_getElem? (i := 85) rfl)), rfl, rfl⟩) (hw _ (List.mem_of_getElem? (i := 2) rfl)) (ty := .int) (by decide) rfl rfl (Sf.exa F_87 (by decide) (by decide)) (by omega) rfl (fun h_88 W_89 => ?_)
  have szh_88 : h_88.size = h_83.size := Wr.size W_89
  have F_90 : Fld Z h_88 a1 "com/example/coat_check/coatcheck/client/LicenseResponseData" "nonce" "I" (.int p2) := Fld.same W_89 F_86
  refine Go.aloadN (pc' := 43) d_prog_18_method_1_code_42 rfl rfl rfl ?_
  refine Go.aloadN (pc' := 44) d_prog_18_method_1_code_43 rfl rfl rfl ?_
  have F_91 : Fld Z h_88 a1 "com/example/coat_check/coatcheck/client/LicenseResponseData" "packageName" "Ljava/lang/String;" (.null) := (Fld.other W_89 (Fld.other W_84 (Fld.ext E_70 (Fld.ext E_50 (Fld.ext E_30 (Fld.ext E_10 G2)))) (Or.inr (slot_ne (Or.inr (hw _ (List.mem_of_getElem? (i := 87) rfl))) (Or.inr (hw _ (List.mem_of_getElem? (i := 83) rfl))) (by decide) (t := (.object "java/lang/String")) (t' := .int) (by decide) (by decide)))) (Or.inr (slot_ne (Or.inr (hw _ (List.mem_of_getElem? (i := 87) rfl))) (Or.inr (hw _ (List.mem_of_getElem? (i := 85) rfl))) (by decide) (t := (.object "java/lang/String")) (t' := .int) (by decide) (by decide))))
  have F_92 : Exa Z h_88 a1 "com/example/coat_check/coatcheck/client/LicenseResponseData" := (Exa.wr W_89 F_87)
  refine Go.putF (pc' := 47) (host := "") (a1 := a0) d_prog_18_method_1_code_44 (Or.inl (hw _ (List.mem_of_getElem? (i := 86) rfl))) Via.refl F_91 F_92 (Or.inr ⟨(hw _ (List.mem_of_getElem? (i := 87) rfl)), rfl, rfl⟩) (hw _ (List.mem_of_getElem? (i := 2) rfl)) (ty := (.object "java/lang/String")) (by decide) rfl rfl (Sf.exa F_92 (by decide) (by decide)) (by omega) rfl (fun h_93 W_94 => ?_)
  have szh_93 : h_93.size = h_88.size := Wr.size W_94
  have F_95 : Fld Z h_93 a1 "com/example/coat_check/coatcheck/client/LicenseResponseData" "packageName" "Ljava/lang/String;" (.ref s1) := Fld.same W_94 F_91
  refine Go.aloadN (pc' := 48) d_prog_18_method_1_code_47 rfl rfl rfl ?_
  refine Go.aload (pc' := 50) d_prog_18_method_1_code_48 rfl rfl rfl ?_
  have F_96 : Fld Z h_93 a1 "com/example/coat_check/coatcheck/client/LicenseResponseData" "versionCode" "Ljava/lang/String;" (.null) := (Fld.other W_94 (Fld.other W_89 (Fld.other W_84 (Fld.ext E_70 (Fld.ext E_50 (Fld.ext E_30 (Fld.ext E_10 G3)))) (Or.inr (slot_ne (Or.inr (hw _ (List.mem_of_getElem? (i := 89) rfl))) (Or.inr (hw _ (List.mem_of_getElem? (i := 83) rfl))) (by decide) (t := (.object "java/lang/String")) (t' := .int) (by decide) (by decide)))) (Or.inr (slot_ne (Or.inr (hw _ (List.mem_of_getElem? (i := 89) rfl))) (Or.inr (hw _ (List.mem_of_getElem? (i := 85) rfl))) (by decide) (t := (.object "java/lang/String")) (t' := .int) (by decide) (by decide)))) (Or.inr (slot_ne (Or.inr (hw _ (List.mem_of_getElem? (i := 89) rfl))) (Or.inr (hw _ (List.mem_of_getElem? (i := 87) rfl))) (by decide) (t := (.object "java/lang/String")) (t' := (.object "java/lang/String")) (by decide) (by decide))))
  have F_97 : Exa Z h_93 a1 "com/example/coat_check/coatcheck/client/LicenseResponseData" := (Exa.wr W_94 F_92)
  refine Go.putF (pc' := 53) (host := "") (a1 := a0) d_prog_18_method_1_code_50 (Or.inl (hw _ (List.mem_of_getElem? (i := 88) rfl))) Via.refl F_96 F_97 (Or.inr ⟨(hw _ (List.mem_of_getElem? (i := 89) rfl)), rfl, rfl⟩) (hw _ (List.mem_of_getElem? (i := 2) rfl)) (ty := (.object "java/lang/String")) (by decide) rfl rfl (Sf.exa F_97 (by decide) (by decide)) (by omega) rfl (fun h_98 W_99 => ?_)
  have szh_98 : h_98.size = h_93.size := Wr.size W_99
  have F_100 : Fld Z h_98 a1 "com/example/coat_check/coatcheck/client/LicenseResponseData" "versionCode" "Ljava/lang/String;" (.ref s2) := Fld.same W_99 F_96
  refine Go.aloadN (pc' := 54) d_prog_18_method_1_code_53 rfl rfl rfl ?_
  refine Go.aload (pc' := 56) d_prog_18_method_1_code_54 rfl rfl rfl ?_
  have F_101 : Fld Z h_98 a1 "com/example/coat_check/coatcheck/client/LicenseResponseData" "userId" "Ljava/lang/String;" (.null) := (Fld.other W_99 (Fld.other W_94 (Fld.other W_89 (Fld.other W_84 (Fld.ext E_70 (Fld.ext E_50 (Fld.ext E_30 (Fld.ext E_10 G4)))) (Or.inr (slot_ne (Or.inr (hw _ (List.mem_of_getElem? (i := 91) rfl))) (Or.inr (hw _ (List.mem_of_getElem? (i := 83) rfl))) (by decide) (t := (.object "java/lang/String")) (t' := .int) (by decide) (by decide)))) (Or.inr (slot_ne (Or.inr (hw _ (List.mem_of_getElem? (i := 91) rfl))) (Or.inr (hw _ (List.mem_of_getElem? (i := 85) rfl))) (by decide) (t := (.object "java/lang/String")) (t' := .int) (by decide) (by decide)))) (Or.inr (slot_ne (Or.inr (hw _ (List.mem_of_getElem? (i := 91) rfl))) (Or.inr (hw _ (List.mem_of_getElem? (i := 87) rfl))) (by decide) (t := (.object "java/lang/String")) (t' := (.object "java/lang/String")) (by decide) (by decide)))) (Or.inr (slot_ne (Or.inr (hw _ (List.mem_of_getElem? (i := 91) rfl))) (Or.inr (hw _ (List.mem_of_getElem? (i := 89) rfl))) (by decide) (t := (.object "java/lang/String")) (t' := (.object "java/lang/String")) (by decide) (by decide))))
  have F_102 : Exa Z h_98 a1 "com/example/coat_check/coatcheck/client/LicenseResponseData" := (Exa.wr W_99 F_97)
  refine Go.putF (pc' := 59) (host := "") (a1 := a0) d_prog_18_method_1_code_56 (Or.inl (hw _ (List.mem_of_getElem? (i := 90) rfl))) Via.refl F_101 F_102 (Or.inr ⟨(hw _ (List.mem_of_getElem? (i := 91) rfl)), rfl, rfl⟩) (hw _ (List.mem_of_getElem? (i := 2) rfl)) (ty := (.object "java/lang/String")) (by decide) rfl rfl (Sf.exa F_102 (by decide) (by decide)) (by omega) rfl (fun h_103 W_104 => ?_)
  have szh_103 : h_103.size = h_98.size := Wr.size W_104
  have F_105 : Fld Z h_103 a1 "com/example/coat_check/coatcheck/client/LicenseResponseData" "userId" "Ljava/lang/String;" (.ref s3) := Fld.same W_104 F_101
  refine Go.aloadN (pc' := 60) d_prog_18_method_1_code_59 rfl rfl rfl ?_
  refine Go.lload (pc' := 62) d_prog_18_method_1_code_60 rfl rfl ?_
  have F_106 : Fld Z h_103 a1 "com/example/coat_check/coatcheck/client/LicenseResponseData" "timestamp" "J" (.long (0 : Int64)) := (Fld.other W_104 (Fld.other W_99 (Fld.other W_94 (Fld.other W_89 (Fld.other W_84 (Fld.ext E_70 (Fld.ext E_50 (Fld.ext E_30 (Fld.ext E_10 G5)))) (Or.inr (slot_ne (Or.inr (hw _ (List.mem_of_getElem? (i := 93) rfl))) (Or.inr (hw _ (List.mem_of_getElem? (i := 83) rfl))) (by decide) (t := .long) (t' := .int) (by decide) (by decide)))) (Or.inr (slot_ne (Or.inr (hw _ (List.mem_of_getElem? (i := 93) rfl))) (Or.inr (hw _ (List.mem_of_getElem? (i := 85) rfl))) (by decide) (t := .long) (t' := .int) (by decide) (by decide)))) (Or.inr (slot_ne (Or.inr (hw _ (List.mem_of_getElem? (i := 93) rfl))) (Or.inr (hw _ (List.mem_of_getElem? (i := 87) rfl))) (by decide) (t := .long) (t' := (.object "java/lang/String")) (by decide) (by decide)))) (Or.inr (slot_ne (Or.inr (hw _ (List.mem_of_getElem? (i := 93) rfl))) (Or.inr (hw _ (List.mem_of_getElem? (i := 89) rfl))) (by decide) (t := .long) (t' := (.object "java/lang/String")) (by decide) (by decide)))) (Or.inr (slot_ne (Or.inr (hw _ (List.mem_of_getElem? (i := 93) rfl))) (Or.inr (hw _ (List.mem_of_getElem? (i := 91) rfl))) (by decide) (t := .long) (t' := (.object "java/lang/String")) (by decide) (by decide))))
  have F_107 : Exa Z h_103 a1 "com/example/coat_check/coatcheck/client/LicenseResponseData" := (Exa.wr W_104 F_102)
  refine Go.putF (pc' := 65) (host := "") (a1 := a0) d_prog_18_method_1_code_62 (Or.inl (hw _ (List.mem_of_getElem? (i := 92) rfl))) Via.refl F_106 F_107 (Or.inr ⟨(hw _ (List.mem_of_getElem? (i := 93) rfl)), rfl, rfl⟩) (hw _ (List.mem_of_getElem? (i := 2) rfl)) (ty := .long) (by decide) rfl rfl (Sf.exa F_107 (by decide) (by decide)) (by omega) rfl (fun h_108 W_109 => ?_)
  have szh_108 : h_108.size = h_103.size := Wr.size W_109
  have F_110 : Fld Z h_108 a1 "com/example/coat_check/coatcheck/client/LicenseResponseData" "timestamp" "J" (.long p6) := Fld.same W_109 F_106
  refine Go.aloadN (pc' := 66) d_prog_18_method_1_code_65 rfl rfl rfl ?_
  refine Go.aload (pc' := 68) d_prog_18_method_1_code_66 rfl rfl rfl ?_
  have F_111 : Fld Z h_108 a1 "com/example/coat_check/coatcheck/client/LicenseResponseData" "extras" "Ljava/lang/String;" (.null) := (Fld.other W_109 (Fld.other W_104 (Fld.other W_99 (Fld.other W_94 (Fld.other W_89 (Fld.other W_84 (Fld.ext E_70 (Fld.ext E_50 (Fld.ext E_30 (Fld.ext E_10 G6)))) (Or.inr (slot_ne (Or.inr (hw _ (List.mem_of_getElem? (i := 95) rfl))) (Or.inr (hw _ (List.mem_of_getElem? (i := 83) rfl))) (by decide) (t := (.object "java/lang/String")) (t' := .int) (by decide) (by decide)))) (Or.inr (slot_ne (Or.inr (hw _ (List.mem_of_getElem? (i := 95) rfl))) (Or.inr (hw _ (List.mem_of_getElem? (i := 85) rfl))) (by decide) (t := (.object "java/lang/String")) (t' := .int) (by decide) (by decide)))) (Or.inr (slot_ne (Or.inr (hw _ (List.mem_of_getElem? (i := 95) rfl))) (Or.inr (hw _ (List.mem_of_getElem? (i := 87) rfl))) (by decide) (t := (.object "java/lang/String")) (t' := (.object "java/lang/String")) (by decide) (by decide)))) (Or.inr (slot_ne (Or.inr (hw _ (List.mem_of_getElem? (i := 95) rfl))) (Or.inr (hw _ (List.mem_of_getElem? (i := 89) rfl))) (by decide) (t := (.object "java/lang/String")) (t' := (.object "java/lang/String")) (by decide) (by decide)))) (Or.inr (slot_ne (Or.inr (hw _ (List.mem_of_getElem? (i := 95) rfl))) (Or.inr (hw _ (List.mem_of_getElem? (i := 91) rfl))) (by decide) (t := (.object "java/lang/String")) (t' := (.object "java/lang/String")) (by decide) (by decide)))) (Or.inr (slot_ne (Or.inr (hw _ (List.mem_of_getElem? (i := 95) rfl))) (Or.inr (hw _ (List.mem_of_getElem? (i := 93) rfl))) (by decide) (t := (.object "java/lang/String")) (t' := .long) (by decide) (by decide))))
  have F_112 : Exa Z h_108 a1 "com/example/coat_check/coatcheck/client/LicenseResponseData" := (Exa.wr W_109 F_107)
  refine Go.putF (pc' := 71) (host := "") (a1 := a0) d_prog_18_method_1_code_68 (Or.inl (hw _ (List.mem_of_getElem? (i := 94) rfl))) Via.refl F_111 F_112 (Or.inr ⟨(hw _ (List.mem_of_getElem? (i := 95) rfl)), rfl, rfl⟩) (hw _ (List.mem_of_getElem? (i := 2) rfl)) (ty := (.object "java/lang/String")) (by decide) rfl rfl (Sf.exa F_112 (by decide) (by decide)) (by omega) rfl (fun h_113 W_114 => ?_)
  have szh_113 : h_113.size = h_108.size := Wr.size W_114
  have F_115 : Fld Z h_113 a1 "com/example/coat_check/coatcheck/client/LicenseResponseData" "extras" "Ljava/lang/String;" (.ref s4) := Fld.same W_114 F_111
  refine Go.ret0 rfl [] (fun _ q => nomatch q) d_prog_18_method_1_code_71 (by decide) (by decide) ?_
  exact ⟨rfl, (Keep.wr (Keep.wr (Keep.wr (Keep.wr (Keep.wr (Keep.wr (Keep.wr (Keep.ext (Keep.ext (Keep.ext (Keep.ext (Keep.refl _ [a1]) E_10) E_30) E_50) E_70) W_84 (Or.inl (by simp))) W_89 (Or.inl (by simp))) W_94 (Or.inl (by simp))) W_99 (Or.inl (by simp))) W_104 (Or.inl (by simp))) W_109 (Or.inl (by simp))) W_114 (Or.inl (by simp)))⟩
theorem pn_java_util_Optional : plainName "java/util/Optional" = true := by first | (simp [plainName, overriddenIn]; done) | decide +kernel
theorem d_jdk_32_method_2_code_0 : decode jdk_32_method_2_code 0 = .ok (.aload_n 0, 1) := by decide +kernel
theorem d_jdk_32_method_2_code_1 : decode jdk_32_method_2_code 1 = .ok (.invokespecial 7, 3) := by decide +kernel
theorem d_jdk_32_method_2_code_4 : decode jdk_32_method_2_code 4 = .ok (.aload_n 0, 1) := by decide +kernel
theorem d_jdk_32_method_2_code_5 : decode jdk_32_method_2_code 5 = .ok (.aload_n 1, 1) := by decide +kernel
theorem d_jdk_32_method_2_code_6 : decode jdk_32_method_2_code 6 = .ok (.putfield 13, 3) := by decide +kernel
theorem d_jdk_32_method_2_code_9 : decode jdk_32_method_2_code 9 = .ok (.return_, 1) := by decide +kernel
set_option maxRecDepth 65536 in
set_option maxHeartbeats 40000000 in
theorem ct_opt0 (l : Launch) (Z : State) (a0 : Array Value) (hw : ∀ d ∈ tables_1, d.before a0 Z = true) (n0 : Nat) (h0 : Heap) (a1 b1 : Addr) (ha1 : n0 ≤ a1) (E1 : Exa Z h0 a1 "java/util/Optional") (G0 : Fld Z h0 a1 "java/util/Optional" "value" "Ljava/lang/Object;" .null) :
    Ct l Z (⟨"java/util/Optional", "<init>", "(Ljava/lang/Object;)V"⟩ : MethodName) jdk_32_method_2_code 2 none ({ frames := 1, cells := 0, slots := 0, locals := 12 } : Room) EL1 n0 true [] #[(.ref a1), (.ref b1)] h0 [] (fun v h N => v = none ∧ Keep h0 h [a1]) := by
  refine Ct.of (a0 := a0) (plainFor_of_name pn_java_util_Optional) (own_ew hw) (L0 := #[.val (.ref a1), .val (.ref b1)]) (fun m => by first | (simp [entryFrame, mkF, argsToLocals, Value.category]; done) | rfl) ?_
  have lta1 := nlt E1.lt
  have l0_E1 := nlt E1.lt
  refine Go.aloadN (pc' := 1) d_jdk_32_method_2_code_0 rfl rfl rfl ?_
  refine Go.initO (pc' := 4) (a1 := a0) d_jdk_32_method_2_code_1 (hw _ (List.mem_of_getElem? (i := 109) rfl)) (hw _ (List.mem_of_getElem? (i := 24) rfl)) (hw _ (List.mem_of_getElem? (i := 25) rfl)) rfl (by decide) 0 rfl (by decide) rfl ?_
  refine Go.aloadN (pc' := 5) d_jdk_32_method_2_code_4 rfl rfl rfl ?_
  refine Go.aloadN (pc' := 6) d_jdk_32_method_2_code_5 rfl rfl rfl ?_
  refine Go.putF (pc' := 9) (host := "") (a1 := a0) d_jdk_32_method_2_code_6 (Or.inl (hw _ (List.mem_of_getElem? (i := 110) rfl))) Via.refl G0 E1 (Or.inr ⟨(hw _ (List.mem_of_getElem? (i := 111) rfl)), rfl, rfl⟩) (hw _ (List.mem_of_getElem? (i := 101) rfl)) (ty := (.object "java/lang/Object")) (by decide) rfl rfl (Sf.exa E1 (by decide) (by decide)) (by omega) rfl (fun h_1 W_2 => ?_)
  have szh_1 : h_1.size = h0.size := Wr.size W_2
  have F_3 : Fld Z h_1 a1 "java/util/Optional" "value" "Ljava/lang/Object;" (.ref b1) := Fld.same W_2 G0
  refine Go.ret0 rfl [] (fun _ q => nomatch q) d_jdk_32_method_2_code_9 (by decide) (by decide) ?_
  exact ⟨rfl, (Keep.wr (Keep.refl _ [a1]) W_2 (Or.inl (by simp)))⟩
theorem d_jdk_32_method_3_code_0 : decode jdk_32_method_3_code 0 = .ok (.new 2, 3) := by decide +kernel
theorem d_jdk_32_method_3_code_3 : decode jdk_32_method_3_code 3 = .ok (.dup, 1) := by decide +kernel
theorem d_jdk_32_method_3_code_4 : decode jdk_32_method_3_code 4 = .ok (.aload_n 0, 1) := by decide +kernel
theorem pd__28Ljava_2flang_2fObject_3b_29Ljava_2flang_2fObject_3b : parseMethodDescriptor "(Ljava/lang/Object;)Ljava/lang/Object;" = some ⟨[(.object "java/lang/Object")], (some (.object "java/lang/Object"))⟩ := by decide +kernel
theorem d_jdk_32_method_3_code_5 : decode jdk_32_method_3_code 5 = .ok (.invokestatic 17, 3) := by decide +kernel
theorem pd__28Ljava_2flang_2fObject_3b_29V : parseMethodDescriptor "(Ljava/lang/Object;)V" = some ⟨[(.object "java/lang/Object")], none⟩ := by decide +kernel
theorem d_jdk_32_method_3_code_8 : decode jdk_32_method_3_code 8 = .ok (.invokespecial 23, 3) := by decide +kernel
theorem d_jdk_32_method_3_code_11 : decode jdk_32_method_3_code 11 = .ok (.areturn, 1) := by decide +kernel
set_option maxRecDepth 65536 in
set_option maxHeartbeats 40000000 in
theorem ct_of (l : Launch) (Z : State) (a0 : Array Value) (hw : ∀ d ∈ tables_1, d.before a0 Z = true) (n0 : Nat) (h0 : Heap) (b1 : Addr) (hn0 : n0 ≤ h0.size) :
    Ct l Z (⟨"java/util/Optional", "of", "(Ljava/lang/Object;)Ljava/util/Optional;"⟩ : MethodName) jdk_32_method_3_code 1 (some (.object "java/util/Optional")) ({ frames := 2, cells := 1, slots := 1, locals := 26 } : Room) EL1 n0 true [] #[(.ref b1)] h0 [] (fun v h N => ∃ a, v = some (.ref a) ∧ Keep h0 h []) := by
  refine Ct.of (a0 := a0) (plainFor_of_name pn_java_util_Optional) (own_ew hw) (L0 := #[.val (.ref b1)]) (fun m => by first | (simp [entryFrame, mkF, argsToLocals, Value.category]; done) | rfl) ?_
  refine Go.newO (pc' := 3) (a1 := a0) d_jdk_32_method_3_code_0 (hw _ (List.mem_of_getElem? (i := 100) rfl)) (hw _ (List.mem_of_getElem? (i := 101) rfl)) (hw _ (List.mem_of_getElem? (i := 98) rfl)) (by decide) (by decide) rfl (fun a_1 h_2 ha_4 E_3 X_5 Df_6 => ?_)
  have szh_2 : h0.size ≤ h_2.size := E_3.1
  have lta_1 := nlt X_5.lt
  have qa_1 := neq ha_4
  have F_7 : Fld Z h_2 a_1 "java/util/Optional" "value" "Ljava/lang/Object;" (.null) := Df_6 (Or.inr (hw _ (List.mem_of_getElem? (i := 111) rfl))) (ty := (.object "java/lang/Object")) (by decide)
  refine Go.dup (pc' := 4) d_jdk_32_method_3_code_3 rfl rfl ?_
  refine Go.aloadN (pc' := 5) d_jdk_32_method_3_code_4 rfl rfl rfl ?_
  refine Go.callS (a1 := a0) (pc' := 8) (argsL := [(.ref b1)]) (rest := [(.ref a_1), (.ref a_1)]) (ct_rnn1 l Z a0 hw n0 h_2 b1) d_jdk_32_method_3_code_5 (hw _ (List.mem_of_getElem? (i := 102) rfl)) (hw _ (List.mem_of_getElem? (i := 103) rfl)) (hw _ (List.mem_of_getElem? (i := 32) rfl)) (hw _ (List.mem_of_getElem? (i := 104) rfl)) (by decide) (lenOf pd__28Ljava_2flang_2fObject_3b_29Ljava_2flang_2fObject_3b rfl) rfl 2 rfl rfl (by decide) (by decide) (by decide) (by decide) (fun _ q => nomatch q) rfl (fun v_8 h_9 N_10 hQ_11 hle_12 => ?_)
  obtain ⟨rfl, rfl⟩ := hQ_11
  refine Go.re (pc' := 8) (L' := #[.val (.ref b1)]) (S' := [(.ref b1), (.ref a_1), (.ref a_1)]) rfl rfl rfl ?_
  refine Go.callN (a1 := a0) (pc' := 11) (argsL := [(.ref b1)]) (rest := [(.ref a_1)]) (ct_opt0 l Z a0 hw n0 h_2 a_1 b1 (by omega) X_5 F_7) d_jdk_32_method_3_code_8 rfl (hw _ (List.mem_of_getElem? (i := 105) rfl)) (hw _ (List.mem_of_getElem? (i := 106) rfl)) (hw _ (List.mem_of_getElem? (i := 98) rfl)) (hw _ (List.mem_of_getElem? (i := 108) rfl)) (by decide) (lenOf pd__28Ljava_2flang_2fObject_3b_29V rfl) rfl 1 rfl rfl (by decide) (by decide) (by decide) (by decide) (fun _ q => nomatch q) rfl (fun v_14 h_15 N_16 hQ_17 hle_18 => ?_)
  obtain ⟨rfl, K_13⟩ := hQ_17
  refine Go.re (pc' := 11) (L' := #[.val (.ref b1)]) (S' := [(.ref a_1)]) rfl rfl rfl ?_
  refine Go.retA rfl rfl rfl [] (fun _ q => nomatch q) d_jdk_32_method_3_code_11 (by decide) (by decide) ?_
  exact ⟨a_1, rfl, (Keep.trans (Keep.ext (Keep.refl _ []) E_3) K_13 (allS (Or.inr (by omega)) all0))⟩
theorem d_jdk_32_method_1_code_0 : decode jdk_32_method_1_code 0 = .ok (.getstatic 1, 3) := by decide +kernel
theorem d_jdk_32_method_1_code_3 : decode jdk_32_method_1_code 3 = .ok (.astore_n 0, 1) := by decide +kernel
theorem d_jdk_32_method_1_code_4 : decode jdk_32_method_1_code 4 = .ok (.aload_n 0, 1) := by decide +kernel
theorem d_jdk_32_method_1_code_5 : decode jdk_32_method_1_code 5 = .ok (.areturn, 1) := by decide +kernel
set_option maxRecDepth 65536 in
set_option maxHeartbeats 40000000 in
theorem ct_empty (l : Launch) (Z : State) (a0 : Array Value) (hw : ∀ d ∈ tables_1, d.before a0 Z = true) (n0 : Nat) (h0 : Heap) (o_E : Addr) (S_E : Sta Z h0 "java/util/Optional" "EMPTY" "Ljava/util/Optional;" (.ref o_E)) :
    Ct l Z (⟨"java/util/Optional", "empty", "()Ljava/util/Optional;"⟩ : MethodName) jdk_32_method_1_code 1 (some (.object "java/util/Optional")) ({ frames := 0, cells := 0, slots := 0, locals := 0 } : Room) EL1 n0 true [] #[] h0 [] (fun v h N => h0 = h ∧ v = some (.ref o_E)) := by
  refine Ct.of (a0 := a0) (plainFor_of_name pn_java_util_Optional) (own_ew hw) (L0 := #[.unset]) (fun m => by first | (simp [entryFrame, mkF, argsToLocals, Value.category]; done) | rfl) ?_
  refine Go.getS (pc' := 3) (host := "") (a1 := a0) d_jdk_32_method_1_code_0 (Or.inl (hw _ (List.mem_of_getElem? (i := 115) rfl))) Via.refl S_E rfl ?_
  refine Go.astoreN (pc' := 4) #[.val (.ref o_E)] d_jdk_32_method_1_code_3 rfl rfl rfl ?_
  refine Go.aloadN (pc' := 5) d_jdk_32_method_1_code_4 rfl rfl rfl ?_
  refine Go.retA rfl rfl rfl [] (fun _ q => nomatch q) d_jdk_32_method_1_code_5 (by decide) (by decide) ?_
  exact ⟨rfl, rfl⟩
theorem pn_com_example_coat_check_coatcheck_client_StrictPolicy : plainName "com/example/coat_check/coatcheck/client/StrictPolicy" = true := by first | (simp [plainName, overriddenIn]; done) | decide +kernel
theorem d_prog_34_method_1_code_0 : decode prog_34_method_1_code 0 = .ok (.aload_n 0, 1) := by decide +kernel
theorem d_prog_34_method_1_code_1 : decode prog_34_method_1_code 1 = .ok (.invokespecial 1, 3) := by decide +kernel
theorem d_prog_34_method_1_code_4 : decode prog_34_method_1_code 4 = .ok (.return_, 1) := by decide +kernel
set_option maxRecDepth 65536 in
set_option maxHeartbeats 40000000 in
theorem ct_sp0 (l : Launch) (Z : State) (a0 : Array Value) (hw : ∀ d ∈ tables_1, d.before a0 Z = true) (n0 : Nat) (h0 : Heap) (a1 : Addr) :
    Ct l Z (⟨"com/example/coat_check/coatcheck/client/StrictPolicy", "<init>", "()V"⟩ : MethodName) prog_34_method_1_code 1 none ({ frames := 1, cells := 0, slots := 0, locals := 12 } : Room) EL1 n0 true [] #[(.ref a1)] h0 [] (fun v h N => h0 = h ∧ v = none) := by
  refine Ct.of (a0 := a0) (plainFor_of_name pn_com_example_coat_check_coatcheck_client_StrictPolicy) (own_ew hw) (L0 := #[.val (.ref a1)]) (fun m => by first | (simp [entryFrame, mkF, argsToLocals, Value.category]; done) | rfl) ?_
  refine Go.aloadN (pc' := 1) d_prog_34_method_1_code_0 rfl rfl rfl ?_
  refine Go.initO (pc' := 4) (a1 := a0) d_prog_34_method_1_code_1 (hw _ (List.mem_of_getElem? (i := 122) rfl)) (hw _ (List.mem_of_getElem? (i := 24) rfl)) (hw _ (List.mem_of_getElem? (i := 25) rfl)) rfl (by decide) 0 rfl (by decide) rfl ?_
  refine Go.ret0 rfl [] (fun _ q => nomatch q) d_prog_34_method_1_code_4 (by decide) (by decide) ?_
  exact ⟨rfl, rfl⟩
theorem d_prog_34_method_3_code_0 : decode prog_34_method_3_code 0 = .ok (.aload_n 0, 1) := by decide +kernel
theorem d_prog_34_method_3_code_1 : decode prog_34_method_3_code 1 = .ok (.getfield 13, 3) := by decide +kernel
theorem d_prog_34_method_3_code_4 : decode prog_34_method_3_code 4 = .ok (.ireturn, 1) := by decide +kernel
set_option maxRecDepth 65536 in
set_option maxHeartbeats 40000000 in
theorem ct_allow (l : Launch) (Z : State) (a0 : Array Value) (hw : ∀ d ∈ tables_1, d.before a0 Z = true) (n0 : Nat) (h0 : Heap) (a1 : Addr) (p1 : Int32) (hz : nar .boolean p1 = p1) (G0 : Fld Z h0 a1 "com/example/coat_check/coatcheck/client/StrictPolicy" "licensed" "Z" (.int p1)) :
    Ct l Z (⟨"com/example/coat_check/coatcheck/client/StrictPolicy", "allowAccess", "()Z"⟩ : MethodName) prog_34_method_3_code 1 (some .boolean) ({ frames := 0, cells := 0, slots := 0, locals := 0 } : Room) EL1 n0 true [] #[(.ref a1)] h0 [] (fun v h N => h0 = h ∧ v = some (.int p1)) := by
  refine Ct.of (a0 := a0) (plainFor_of_name pn_com_example_coat_check_coatcheck_client_StrictPolicy) (own_ew hw) (L0 := #[.val (.ref a1)]) (fun m => by first | (simp [entryFrame, mkF, argsToLocals, Value.category]; done) | rfl) ?_
  refine Go.aloadN (pc' := 1) d_prog_34_method_3_code_0 rfl rfl rfl ?_
  refine Go.getF (pc' := 4) (host := "") (a1 := a0) d_prog_34_method_3_code_1 (Or.inl (hw _ (List.mem_of_getElem? (i := 128) rfl))) Via.refl G0 rfl ?_
  refine Go.retN (t := .boolean) p1 rfl (by simp) (by assumption) [] (fun _ q => nomatch q) d_prog_34_method_3_code_4 (by decide) (by decide) ?_
  exact ⟨rfl, rfl⟩
theorem pn_com_example_coat_check_coatcheck_client_StrictPolicyProcessServerResponsePinLaw : plainName "com/example/coat_check/coatcheck/client/StrictPolicyProcessServerResponsePinLaw" = true := by first | (simp [plainName, overriddenIn]; done) | decide +kernel
theorem d_method_2_code_0 : decode method_2_code 0 = .ok (.iload_n 0, 1) := by decide +kernel
theorem d_method_2_code_1 : decode method_2_code 1 = .ok (.ifCond .ne 7, 3) := by decide +kernel
theorem d_method_2_code_8 : decode method_2_code 8 = .ok (.iload_n 0, 1) := by decide +kernel
theorem d_method_2_code_9 : decode method_2_code 9 = .ok (.iconst 1, 1) := by decide +kernel
theorem d_method_2_code_10 : decode method_2_code 10 = .ok (.if_icmp .ne 7, 3) := by decide +kernel
theorem d_method_2_code_17 : decode method_2_code 17 = .ok (.getstatic 16, 3) := by decide +kernel
theorem d_method_2_code_20 : decode method_2_code 20 = .ok (.areturn, 1) := by decide +kernel
theorem d_method_2_code_13 : decode method_2_code 13 = .ok (.getstatic 13, 3) := by decide +kernel
theorem d_method_2_code_16 : decode method_2_code 16 = .ok (.areturn, 1) := by decide +kernel
theorem d_method_2_code_4 : decode method_2_code 4 = .ok (.getstatic 7, 3) := by decide +kernel
theorem d_method_2_code_7 : decode method_2_code 7 = .ok (.areturn, 1) := by decide +kernel
set_option maxRecDepth 65536 in
set_option maxHeartbeats 40000000 in
theorem ct_reason (l : Launch) (Z : State) (a0 : Array Value) (hw : ∀ d ∈ tables_1, d.before a0 Z = true) (n0 : Nat) (h0 : Heap) (p1 : Int32) (o_LICENSED : Addr) (S_LICENSED : Sta Z h0 "com/example/coat_check/coatcheck/client/Reason" "LICENSED" "Lcom/example/coat_check/coatcheck/client/Reason;" (.ref o_LICENSED)) (o_NOT_LICENSED : Addr) (S_NOT_LICENSED : Sta Z h0 "com/example/coat_check/coatcheck/client/Reason" "NOT_LICENSED" "Lcom/example/coat_check/coatcheck/client/Reason;" (.ref o_NOT_LICENSED)) (o_RETRY : Addr) (S_RETRY : Sta Z h0 "com/example/coat_check/coatcheck/client/Reason" "RETRY" "Lcom/example/coat_check/coatcheck/client/Reason;" (.ref o_RETRY)) :
    Ct l Z (⟨"com/example/coat_check/coatcheck/client/StrictPolicyProcessServerResponsePinLaw", "reason", "(I)Lcom/example/coat_check/coatcheck/client/Reason;"⟩ : MethodName) method_2_code 1 (some (.object "com/example/coat_check/coatcheck/client/Reason")) ({ frames := 0, cells := 0, slots := 0, locals := 0 } : Room) EL1 n0 true [] #[(.int p1)] h0 [] (fun v h N => h0 = h ∧ ((p1 = 0 ∧ v = some (.ref o_LICENSED)) ∨ (¬ p1 = 0 ∧ v = some (.ref o_NOT_LICENSED)) ∨ (¬ p1 = 0 ∧ v = some (.ref o_RETRY)))) := by
  refine Ct.of (a0 := a0) (plainFor_of_name pn_com_example_coat_check_coatcheck_client_StrictPolicyProcessServerResponsePinLaw) (own_ew hw) (L0 := #[.val (.int p1)]) (fun m => by first | (simp [entryFrame, mkF, argsToLocals, Value.category]; done) | rfl) ?_
  refine Go.iloadN (pc' := 1) d_method_2_code_0 rfl rfl ?_
  refine Go.ifc (pc' := 8) (pc'' := 4) d_method_2_code_1 (by decide) (by decide) rfl (fun hc_1 => ?_) (fun hc_1 => ?_)
  · have hc_1 : ¬ (p1 = 0) := hc_1
    refine Go.iloadN (pc' := 9) d_method_2_code_8 rfl rfl ?_
    refine Go.iconst (pc' := 10) 1 d_method_2_code_9 rfl rfl ?_
    refine Go.icmp (pc' := 17) (pc'' := 13) d_method_2_code_10 (by decide) (by decide) rfl (fun hc_2 => ?_) (fun hc_2 => ?_)
    · have hc_2 : ¬ (p1 = (1 : Int32)) := hc_2
      refine Go.getS (pc' := 20) (host := "") (a1 := a0) d_method_2_code_17 (Or.inl (hw _ (List.mem_of_getElem? (i := 145) rfl))) Via.refl S_RETRY rfl ?_
      refine Go.retA rfl rfl rfl [] (fun _ q => nomatch q) d_method_2_code_20 (by decide) (by decide) ?_
      exact ⟨rfl, Or.inr (Or.inr ⟨hc_1, rfl⟩)⟩
    · have hc_2 : p1 = (1 : Int32) := hc_2
      refine Go.getS (pc' := 16) (host := "") (a1 := a0) d_method_2_code_13 (Or.inl (hw _ (List.mem_of_getElem? (i := 143) rfl))) Via.refl S_NOT_LICENSED rfl ?_
      refine Go.retA rfl rfl rfl [] (fun _ q => nomatch q) d_method_2_code_16 (by decide) (by decide) ?_
      exact ⟨rfl, Or.inr (Or.inl ⟨hc_1, rfl⟩)⟩
  · have hc_1 : p1 = 0 := hc_1
    refine Go.getS (pc' := 7) (host := "") (a1 := a0) d_method_2_code_4 (Or.inl (hw _ (List.mem_of_getElem? (i := 134) rfl))) Via.refl S_LICENSED rfl ?_
    refine Go.retA rfl rfl rfl [] (fun _ q => nomatch q) d_method_2_code_7 (by decide) (by decide) ?_
    exact ⟨rfl, Or.inl ⟨hc_1, rfl⟩⟩
theorem d_prog_34_method_2_code_0 : decode prog_34_method_2_code 0 = .ok (.aload_n 0, 1) := by decide +kernel
theorem d_prog_34_method_2_code_1 : decode prog_34_method_2_code 1 = .ok (.aload_n 1, 1) := by decide +kernel
theorem d_prog_34_method_2_code_2 : decode prog_34_method_2_code 2 = .ok (.getstatic 7, 3) := by decide +kernel
theorem d_prog_34_method_2_code_5 : decode prog_34_method_2_code 5 = .ok (.if_acmp .ne 7, 3) := by decide +kernel
theorem d_prog_34_method_2_code_8 : decode prog_34_method_2_code 8 = .ok (.iconst 1, 1) := by decide +kernel
theorem d_prog_34_method_2_code_9 : decode prog_34_method_2_code 9 = .ok (.goto 4, 3) := by decide +kernel
theorem d_prog_34_method_2_code_13 : decode prog_34_method_2_code 13 = .ok (.putfield 13, 3) := by decide +kernel
theorem d_prog_34_method_2_code_16 : decode prog_34_method_2_code 16 = .ok (.return_, 1) := by decide +kernel
set_option maxRecDepth 65536 in
set_option maxHeartbeats 40000000 in
theorem ct_psrY (l : Launch) (Z : State) (a0 : Array Value) (hw : ∀ d ∈ tables_1, d.before a0 Z = true) (n0 : Nat) (h0 : Heap) (a1 d1 o_L : Addr) (p1 : Int32)  (ha1 : n0 ≤ a1) (S_L : Sta Z h0 "com/example/coat_check/coatcheck/client/Reason" "LICENSED" "Lcom/example/coat_check/coatcheck/client/Reason;" (.ref o_L)) (E1 : Exa Z h0 a1 "com/example/coat_check/coatcheck/client/StrictPolicy") (G0 : Fld Z h0 a1 "com/example/coat_check/coatcheck/client/StrictPolicy" "licensed" "Z" (.int p1)) :
    Ct l Z (⟨"com/example/coat_check/coatcheck/client/StrictPolicy", "processServerResponse", "(Lcom/example/coat_check/coatcheck/client/Reason;Ljava/util/Optional;)V"⟩ : MethodName) prog_34_method_2_code 3 none ({ frames := 0, cells := 0, slots := 0, locals := 0 } : Room) EL1 n0 true [] #[(.ref a1), (.ref o_L), (.ref d1)] h0 [] (fun v h N => v = none ∧ Keep h0 h [a1] ∧ Exa Z h a1 "com/example/coat_check/coatcheck/client/StrictPolicy" ∧ Fld Z h a1 "com/example/coat_check/coatcheck/client/StrictPolicy" "licensed" "Z" (.int (1 : Int32))) := by
  refine Ct.of (a0 := a0) (plainFor_of_name pn_com_example_coat_check_coatcheck_client_StrictPolicy) (own_ew hw) (L0 := #[.val (.ref a1), .val (.ref o_L), .val (.ref d1)]) (fun m => by first | (simp [entryFrame, mkF, argsToLocals, Value.category]; done) | rfl) ?_
  have lta1 := nlt E1.lt
  have l0_E1 := nlt E1.lt
  refine Go.aloadN (pc' := 1) d_prog_34_method_2_code_0 rfl rfl rfl ?_
  refine Go.aloadN (pc' := 2) d_prog_34_method_2_code_1 rfl rfl rfl ?_
  refine Go.getS (pc' := 5) (host := "") (a1 := a0) d_prog_34_method_2_code_2 (Or.inl (hw _ (List.mem_of_getElem? (i := 142) rfl))) Via.refl S_L rfl ?_
  refine Go.acmp (pc' := 8) true d_prog_34_method_2_code_5 rfl rfl (decide_eq_true rfl) (by decide) (by decide) ?_
  refine Go.iconst (pc' := 9) 1 d_prog_34_method_2_code_8 rfl rfl ?_
  refine Go.goto (pc' := 13) d_prog_34_method_2_code_9 (by decide) (by decide) ?_
  refine Go.putF (pc' := 16) (host := "") (a1 := a0) d_prog_34_method_2_code_13 (Or.inl (hw _ (List.mem_of_getElem? (i := 128) rfl))) Via.refl G0 E1 (Or.inl (hw _ (List.mem_of_getElem? (i := 129) rfl))) (hw _ (List.mem_of_getElem? (i := 117) rfl)) (ty := .boolean) (by decide) rfl rfl (Sf.exa E1 (by decide) (by decide)) (by omega) rfl (fun h_1 W_2 => ?_)
  have szh_1 : h_1.size = h0.size := Wr.size W_2
  have F_3 : Fld Z h_1 a1 "com/example/coat_check/coatcheck/client/StrictPolicy" "licensed" "Z" (.int (1 : Int32)) := Fld.same W_2 G0
  have F_4 : Exa Z h_1 a1 "com/example/coat_check/coatcheck/client/StrictPolicy" := (Exa.wr W_2 E1)
  refine Go.ret0 rfl [] (fun _ q => nomatch q) d_prog_34_method_2_code_16 (by decide) (by decide) ?_
  exact ⟨rfl, (Keep.wr (Keep.refl _ [a1]) W_2 (Or.inl (by simp))), F_4, F_3⟩
theorem d_prog_34_method_2_code_12 : decode prog_34_method_2_code 12 = .ok (.iconst 0, 1) := by decide +kernel
set_option maxRecDepth 65536 in
set_option maxHeartbeats 40000000 in
theorem ct_psrN (l : Launch) (Z : State) (a0 : Array Value) (hw : ∀ d ∈ tables_1, d.before a0 Z = true) (n0 : Nat) (h0 : Heap) (a1 d1 o_L : Addr) (p1 : Int32) (r1 : Addr) (hne : r1 ≠ o_L) (ha1 : n0 ≤ a1) (S_L : Sta Z h0 "com/example/coat_check/coatcheck/client/Reason" "LICENSED" "Lcom/example/coat_check/coatcheck/client/Reason;" (.ref o_L)) (E1 : Exa Z h0 a1 "com/example/coat_check/coatcheck/client/StrictPolicy") (G0 : Fld Z h0 a1 "com/example/coat_check/coatcheck/client/StrictPolicy" "licensed" "Z" (.int p1)) :
    Ct l Z (⟨"com/example/coat_check/coatcheck/client/StrictPolicy", "processServerResponse", "(Lcom/example/coat_check/coatcheck/client/Reason;Ljava/util/Optional;)V"⟩ : MethodName) prog_34_method_2_code 3 none ({ frames := 0, cells := 0, slots := 0, locals := 0 } : Room) EL1 n0 true [] #[(.ref a1), (.ref r1), (.ref d1)] h0 [] (fun v h N => v = none ∧ Keep h0 h [a1] ∧ Exa Z h a1 "com/example/coat_check/coatcheck/client/StrictPolicy" ∧ Fld Z h a1 "com/example/coat_check/coatcheck/client/StrictPolicy" "licensed" "Z" (.int (0 : Int32))) := by
  refine Ct.of (a0 := a0) (plainFor_of_name pn_com_example_coat_check_coatcheck_client_StrictPolicy) (own_ew hw) (L0 := #[.val (.ref a1), .val (.ref r1), .val (.ref d1)]) (fun m => by first | (simp [entryFrame, mkF, argsToLocals, Value.category]; done) | rfl) ?_
  have lta1 := nlt E1.lt
  have l0_E1 := nlt E1.lt
  refine Go.aloadN (pc' := 1) d_prog_34_method_2_code_0 rfl rfl rfl ?_
  refine Go.aloadN (pc' := 2) d_prog_34_method_2_code_1 rfl rfl rfl ?_
  refine Go.getS (pc' := 5) (host := "") (a1 := a0) d_prog_34_method_2_code_2 (Or.inl (hw _ (List.mem_of_getElem? (i := 142) rfl))) Via.refl S_L rfl ?_
  refine Go.acmp (pc' := 12) false d_prog_34_method_2_code_5 rfl rfl (decide_eq_false (fun q => hne (Value.ref.inj q))) (by decide) (by decide) ?_
  refine Go.iconst (pc' := 13) 0 d_prog_34_method_2_code_12 rfl rfl ?_
  refine Go.putF (pc' := 16) (host := "") (a1 := a0) d_prog_34_method_2_code_13 (Or.inl (hw _ (List.mem_of_getElem? (i := 128) rfl))) Via.refl G0 E1 (Or.inl (hw _ (List.mem_of_getElem? (i := 129) rfl))) (hw _ (List.mem_of_getElem? (i := 117) rfl)) (ty := .boolean) (by decide) rfl rfl (Sf.exa E1 (by decide) (by decide)) (by omega) rfl (fun h_1 W_2 => ?_)
  have szh_1 : h_1.size = h0.size := Wr.size W_2
  have F_3 : Fld Z h_1 a1 "com/example/coat_check/coatcheck/client/StrictPolicy" "licensed" "Z" (.int (0 : Int32)) := Fld.same W_2 G0
  have F_4 : Exa Z h_1 a1 "com/example/coat_check/coatcheck/client/StrictPolicy" := (Exa.wr W_2 E1)
  refine Go.ret0 rfl [] (fun _ q => nomatch q) d_prog_34_method_2_code_16 (by decide) (by decide) ?_
  exact ⟨rfl, (Keep.wr (Keep.refl _ [a1]) W_2 (Or.inl (by simp))), F_4, F_3⟩
theorem pd__28IILjava_2flang_2fString_3bLjava_2flang_2fString_3bLjava_2flang_2fString_3bJLjava_2flang_2fString_3b_29V : parseMethodDescriptor "(IILjava/lang/String;Ljava/lang/String;Ljava/lang/String;JLjava/lang/String;)V" = some ⟨[.int, .int, (.object "java/lang/String"), (.object "java/lang/String"), (.object "java/lang/String"), .long, (.object "java/lang/String")], none⟩ := by decide +kernel
theorem pd__28Ljava_2flang_2fObject_3b_29Ljava_2futil_2fOptional_3b : parseMethodDescriptor "(Ljava/lang/Object;)Ljava/util/Optional;" = some ⟨[(.object "java/lang/Object")], (some (.object "java/util/Optional"))⟩ := by decide +kernel
theorem pd__28_29Ljava_2futil_2fOptional_3b : parseMethodDescriptor "()Ljava/util/Optional;" = some ⟨[], (some (.object "java/util/Optional"))⟩ := by decide +kernel
theorem pd__28I_29Lcom_2fexample_2fcoat_check_2fcoatcheck_2fclient_2fReason_3b : parseMethodDescriptor "(I)Lcom/example/coat_check/coatcheck/client/Reason;" = some ⟨[.int], (some (.object "com/example/coat_check/coatcheck/client/Reason"))⟩ := by decide +kernel
theorem pd__28Lcom_2fexample_2fcoat_check_2fcoatcheck_2fclient_2fReason_3bLjava_2futil_2fOptional_3b_29V : parseMethodDescriptor "(Lcom/example/coat_check/coatcheck/client/Reason;Ljava/util/Optional;)V" = some ⟨[(.object "com/example/coat_check/coatcheck/client/Reason"), (.object "java/util/Optional")], none⟩ := by decide +kernel
set_option maxRecDepth 65536 in
set_option maxHeartbeats 40000000 in
theorem ct_law (l : Launch) (Z : State) (a0 : Array Value) (hw : ∀ d ∈ tables_1, d.before a0 Z = true) (n0 : Nat) (h0 : Heap) (p0 p1 p2 p3 p4 : Int32) (p5 : Int64) (hn0 : n0 ≤ h0.size) (o_LICENSED : Addr) (S_LICENSED : Sta Z h0 "com/example/coat_check/coatcheck/client/Reason" "LICENSED" "Lcom/example/coat_check/coatcheck/client/Reason;" (.ref o_LICENSED)) (X_LICENSED : Exa Z h0 o_LICENSED "com/example/coat_check/coatcheck/client/Reason") (o_NOT_LICENSED : Addr) (S_NOT_LICENSED : Sta Z h0 "com/example/coat_check/coatcheck/client/Reason" "NOT_LICENSED" "Lcom/example/coat_check/coatcheck/client/Reason;" (.ref o_NOT_LICENSED)) (X_NOT_LICENSED : Exa Z h0 o_NOT_LICENSED "com/example/coat_check/coatcheck/client/Reason") (F_NOT_LICENSED_ordinal : Fld Z h0 o_NOT_LICENSED "java/lang/Enum" "ordinal" "I" (.int (1 : Int32))) (F_LICENSED_ordinal : Fld Z h0 o_LICENSED "java/lang/Enum" "ordinal" "I" (.int (0 : Int32))) (o_RETRY : Addr) (S_RETRY : Sta Z h0 "com/example/coat_check/coatcheck/client/Reason" "RETRY" "Lcom/example/coat_check/coatcheck/client/Reason;" (.ref o_RETRY)) (X_RETRY : Exa Z h0 o_RETRY "com/example/coat_check/coatcheck/client/Reason") (F_RETRY_ordinal : Fld Z h0 o_RETRY "java/lang/Enum" "ordinal" "I" (.int (2 : Int32))) (o_E : Addr) (S_E : Sta Z h0 "java/util/Optional" "EMPTY" "Ljava/util/Optional;" (.ref o_E)) (cs : Int32) (S_cs : Sta Z h0 "java/lang/String" "COMPACT_STRINGS" "Z" (.int cs)) (hcs : ¬ cs = 0) :
    Ct l Z x code maxLocals ret room_1 EL1 n0 true tables_1 #[(.int p0), (.int p1), (.int p2), (.int p3), (.int p4), (.long p5)] h0 [] (fun v h N => v = some (.int 1)) := by
  refine Ct.of (a0 := a0) (plainFor_of_name pn_com_example_coat_check_coatcheck_client_StrictPolicyProcessServerResponsePinLaw) (own_ew hw) (L0 := #[.val (.int p0), .val (.int p1), .val (.int p2), .val (.int p3), .val (.int p4), .val (.long p5), .second, .unset, .unset, .unset, .unset, .unset, .unset, .unset, .unset, .unset, .unset, .unset]) (fun m => by first | (simp [entryFrame, mkF, argsToLocals, Value.category, maxLocals]; done) | rfl) ?_
  have l0_X_LICENSED := nlt X_LICENSED.lt
  have l0_X_NOT_LICENSED := nlt X_NOT_LICENSED.lt
  have l0_X_RETRY := nlt X_RETRY.lt
  refine Go.iloadN (pc' := 1) at_0 rfl rfl ?_
  refine Go.ldcI (pc' := 3) (a1 := a0) at_1 (hw _ (List.mem_of_getElem? (i := 0) rfl)) rfl ?_
  refine Go.iand (pc' := 4) at_3 rfl ?_
  refine Go.iconst (pc' := 5) 3 at_4 rfl rfl ?_
  refine Go.irem (pc' := 6) at_5 (by decide) rfl ?_
  refine Go.istore (pc' := 8) #[.val (.int p0), .val (.int p1), .val (.int p2), .val (.int p3), .val (.int p4), .val (.long p5), .second, .val (.int ((p0 &&& (2147483647 : Int32)) % (3 : Int32))), .unset, .unset, .unset, .unset, .unset, .unset, .unset, .unset, .unset, .unset] at_6 rfl rfl ?_
  refine Go.iloadN (pc' := 9) at_8 rfl rfl ?_
  refine Go.ldcI (pc' := 11) (a1 := a0) at_9 (hw _ (List.mem_of_getElem? (i := 0) rfl)) rfl ?_
  refine Go.iand (pc' := 12) at_11 rfl ?_
  refine Go.iconst (pc' := 13) 3 at_12 rfl rfl ?_
  refine Go.irem (pc' := 14) at_13 (by decide) rfl ?_
  refine Go.istore (pc' := 16) #[.val (.int p0), .val (.int p1), .val (.int p2), .val (.int p3), .val (.int p4), .val (.long p5), .second, .val (.int ((p0 &&& (2147483647 : Int32)) % (3 : Int32))), .val (.int ((p1 &&& (2147483647 : Int32)) % (3 : Int32))), .unset, .unset, .unset, .unset, .unset, .unset, .unset, .unset, .unset] at_14 rfl rfl ?_
  refine Go.newO (pc' := 19) (a1 := a0) at_16 (hw _ (List.mem_of_getElem? (i := 1) rfl)) (hw _ (List.mem_of_getElem? (i := 2) rfl)) (hw _ (List.mem_of_getElem? (i := 3) rfl)) (by decide) (by decide) rfl (fun a_1 h_2 ha_4 E_3 X_5 Df_6 => ?_)
  have szh_2 : h0.size ≤ h_2.size := E_3.1
  have lta_1 := nlt X_5.lt
  have qa_1 := neq ha_4
  have F_7 : Fld Z h_2 a_1 "com/example/coat_check/coatcheck/client/LicenseResponseData" "responseCode" "I" (.int (0 : Int32)) := Df_6 (Or.inr (hw _ (List.mem_of_getElem? (i := 83) rfl))) (ty := .int) (by decide)
  have F_8 : Fld Z h_2 a_1 "com/example/coat_check/coatcheck/client/LicenseResponseData" "nonce" "I" (.int (0 : Int32)) := Df_6 (Or.inr (hw _ (List.mem_of_getElem? (i := 85) rfl))) (ty := .int) (by decide)
  have F_9 : Fld Z h_2 a_1 "com/example/coat_check/coatcheck/client/LicenseResponseData" "packageName" "Ljava/lang/String;" (.null) := Df_6 (Or.inr (hw _ (List.mem_of_getElem? (i := 87) rfl))) (ty := (.object "java/lang/String")) (by decide)
  have F_10 : Fld Z h_2 a_1 "com/example/coat_check/coatcheck/client/LicenseResponseData" "versionCode" "Ljava/lang/String;" (.null) := Df_6 (Or.inr (hw _ (List.mem_of_getElem? (i := 89) rfl))) (ty := (.object "java/lang/String")) (by decide)
  have F_11 : Fld Z h_2 a_1 "com/example/coat_check/coatcheck/client/LicenseResponseData" "userId" "Ljava/lang/String;" (.null) := Df_6 (Or.inr (hw _ (List.mem_of_getElem? (i := 91) rfl))) (ty := (.object "java/lang/String")) (by decide)
  have F_12 : Fld Z h_2 a_1 "com/example/coat_check/coatcheck/client/LicenseResponseData" "timestamp" "J" (.long (0 : Int64)) := Df_6 (Or.inr (hw _ (List.mem_of_getElem? (i := 93) rfl))) (ty := .long) (by decide)
  have F_13 : Fld Z h_2 a_1 "com/example/coat_check/coatcheck/client/LicenseResponseData" "extras" "Ljava/lang/String;" (.null) := Df_6 (Or.inr (hw _ (List.mem_of_getElem? (i := 95) rfl))) (ty := (.object "java/lang/String")) (by decide)
  refine Go.dup (pc' := 20) at_19 rfl rfl ?_
  refine Go.iloadN (pc' := 21) at_20 rfl rfl ?_
  refine Go.iload (pc' := 23) at_21 rfl rfl ?_
  refine Go.ldcR (pc' := 25) (a1 := a0) 4 (vs := [(.int (112 : Int32))]) (z := 1) at_23 rfl (hw _ (List.mem_of_getElem? (i := 4) rfl)) (own_ws hw) (by decide) (by decide) (by decide) (by decide) rfl (own_ew hw) (List.mem_of_getElem? (i := 4) rfl) ⟨by decide, by decide⟩ (by decide) (by decide) (fun a_14 h_15 b_16 k_17 E_18 X_19 F_20 F_21 A_22 ne_23 => ?_)
  have szh_15 : h_2.size ≤ h_15.size := E_18.1
  have lta_14 := nlt X_19.lt
  have ltb_16 := nlt A_22.lt
  have nx_24 := nne2 (ne_23 a_1 (by simp))
  refine Go.ldcR (pc' := 27) (a1 := a0) 4 (vs := [(.int (49 : Int32))]) (z := 1) at_25 rfl (hw _ (List.mem_of_getElem? (i := 12) rfl)) (own_ws hw) (by decide) (by decide) (by decide) (by decide) rfl (own_ew hw) (List.mem_of_getElem? (i := 5) rfl) ⟨by decide, by decide⟩ (by decide) (by decide) (fun a_25 h_26 b_27 k_28 E_29 X_30 F_31 F_32 A_33 ne_34 => ?_)
  have szh_26 : h_15.size ≤ h_26.size := E_29.1
  have lta_25 := nlt X_30.lt
  have ltb_27 := nlt A_33.lt
  have nx_35 := nne2 (ne_34 a_1 (by simp))
  refine Go.ldcR (pc' := 29) (a1 := a0) 4 (vs := [(.int (117 : Int32))]) (z := 1) at_27 rfl (hw _ (List.mem_of_getElem? (i := 13) rfl)) (own_ws hw) (by decide) (by decide) (by decide) (by decide) rfl (own_ew hw) (List.mem_of_getElem? (i := 6) rfl) ⟨by decide, by decide⟩ (by decide) (by decide) (fun a_36 h_37 b_38 k_39 E_40 X_41 F_42 F_43 A_44 ne_45 => ?_)
  have szh_37 : h_26.size ≤ h_37.size := E_40.1
  have lta_36 := nlt X_41.lt
  have ltb_38 := nlt A_44.lt
  have nx_46 := nne2 (ne_45 a_1 (by simp))
  refine Go.lload (pc' := 31) at_29 rfl rfl ?_
  refine Go.ldcR (pc' := 33) (a1 := a0) 0 (vs := []) (z := 0) at_31 rfl (hw _ (List.mem_of_getElem? (i := 14) rfl)) (own_ws hw) (by decide) (by decide) (by decide) (by decide) rfl (own_ew hw) (List.mem_of_getElem? (i := 7) rfl) ⟨by decide, by decide⟩ (by decide) (by decide) (fun a_47 h_48 b_49 k_50 E_51 X_52 F_53 F_54 A_55 ne_56 => ?_)
  have szh_48 : h_37.size ≤ h_48.size := E_51.1
  have lta_47 := nlt X_52.lt
  have ltb_49 := nlt A_55.lt
  have nx_57 := nne2 (ne_56 a_1 (by simp))
  have F_58 : Exa Z h_48 a_14 "java/lang/String" := (Exa.ext E_51 (Exa.ext E_40 (Exa.ext E_29 X_19)))
  have F_59 : Fld Z h_48 a_14 "java/lang/String" "coder" "B" (.int (0 : Int32)) := (Fld.ext E_51 (Fld.ext E_40 (Fld.ext E_29 F_20)))
  have F_60 : Fld Z h_48 a_14 "java/lang/String" "value" "[B" (.ref b_16) := (Fld.ext E_51 (Fld.ext E_40 (Fld.ext E_29 F_21)))
  have F_61 : Arv Z h_48 b_16 k_17 .byte (1 : Int32) [(.int (112 : Int32))] (.int 0) := (Arv.ext (Arv.ext (Arv.ext A_22 E_29) E_40) E_51)
  have F_62 : Exa Z h_48 a_25 "java/lang/String" := (Exa.ext E_51 (Exa.ext E_40 X_30))
  have F_63 : Fld Z h_48 a_25 "java/lang/String" "coder" "B" (.int (0 : Int32)) := (Fld.ext E_51 (Fld.ext E_40 F_31))
  have F_64 : Fld Z h_48 a_25 "java/lang/String" "value" "[B" (.ref b_27) := (Fld.ext E_51 (Fld.ext E_40 F_32))
  have F_65 : Arv Z h_48 b_27 k_28 .byte (1 : Int32) [(.int (49 : Int32))] (.int 0) := (Arv.ext (Arv.ext A_33 E_40) E_51)
  have F_66 : Exa Z h_48 a_36 "java/lang/String" := (Exa.ext E_51 X_41)
  have F_67 : Fld Z h_48 a_36 "java/lang/String" "coder" "B" (.int (0 : Int32)) := (Fld.ext E_51 F_42)
  have F_68 : Fld Z h_48 a_36 "java/lang/String" "value" "[B" (.ref b_38) := (Fld.ext E_51 F_43)
  have F_69 : Arv Z h_48 b_38 k_39 .byte (1 : Int32) [(.int (117 : Int32))] (.int 0) := (Arv.ext A_44 E_51)
  have F_70 : Exa Z h_48 a_1 "com/example/coat_check/coatcheck/client/LicenseResponseData" := (Exa.ext E_51 (Exa.ext E_40 (Exa.ext E_29 (Exa.ext E_18 X_5))))
  have F_71 : Sta Z h_48 "java/lang/String" "COMPACT_STRINGS" "Z" (.int cs) := (Sta.ext E_51 (Sta.ext E_40 (Sta.ext E_29 (Sta.ext E_18 (Sta.ext E_3 S_cs)))))
  have F_72 : Fld Z h_48 a_1 "com/example/coat_check/coatcheck/client/LicenseResponseData" "responseCode" "I" (.int (0 : Int32)) := (Fld.ext E_51 (Fld.ext E_40 (Fld.ext E_29 (Fld.ext E_18 F_7))))
  have F_73 : Fld Z h_48 a_1 "com/example/coat_check/coatcheck/client/LicenseResponseData" "nonce" "I" (.int (0 : Int32)) := (Fld.ext E_51 (Fld.ext E_40 (Fld.ext E_29 (Fld.ext E_18 F_8))))
  have F_74 : Fld Z h_48 a_1 "com/example/coat_check/coatcheck/client/LicenseResponseData" "packageName" "Ljava/lang/String;" (.null) := (Fld.ext E_51 (Fld.ext E_40 (Fld.ext E_29 (Fld.ext E_18 F_9))))
  have F_75 : Fld Z h_48 a_1 "com/example/coat_check/coatcheck/client/LicenseResponseData" "versionCode" "Ljava/lang/String;" (.null) := (Fld.ext E_51 (Fld.ext E_40 (Fld.ext E_29 (Fld.ext E_18 F_10))))
  have F_76 : Fld Z h_48 a_1 "com/example/coat_check/coatcheck/client/LicenseResponseData" "userId" "Ljava/lang/String;" (.null) := (Fld.ext E_51 (Fld.ext E_40 (Fld.ext E_29 (Fld.ext E_18 F_11))))
  have F_77 : Fld Z h_48 a_1 "com/example/coat_check/coatcheck/client/LicenseResponseData" "timestamp" "J" (.long (0 : Int64)) := (Fld.ext E_51 (Fld.ext E_40 (Fld.ext E_29 (Fld.ext E_18 F_12))))
  have F_78 : Fld Z h_48 a_1 "com/example/coat_check/coatcheck/client/LicenseResponseData" "extras" "Ljava/lang/String;" (.null) := (Fld.ext E_51 (Fld.ext E_40 (Fld.ext E_29 (Fld.ext E_18 F_13))))
  refine Go.callN (a1 := a0) (pc' := 36) (argsL := [(.int p3), (.int p4), (.ref a_14), (.ref a_25), (.ref a_36), (.long p5), (.ref a_47)]) (rest := [(.ref a_1)]) (ct_lrd l Z a0 hw n0 h_48 a_1 p3 p4 p5 a_14 a_25 a_36 a_47 (by omega) F_70 cs F_71 hcs F_72 F_73 F_74 F_75 F_76 F_77 F_78 b_16 k_17 (112 : Int32) F_58 F_59 F_60 F_61 (by decide) (by decide) b_27 k_28 (49 : Int32) F_62 F_63 F_64 F_65 (by decide) (by decide) b_38 k_39 (117 : Int32) F_66 F_67 F_68 F_69 (by decide) (by decide)) at_33 rfl (hw _ (List.mem_of_getElem? (i := 15) rfl)) (hw _ (List.mem_of_getElem? (i := 16) rfl)) (hw _ (List.mem_of_getElem? (i := 3) rfl)) (hw _ (List.mem_of_getElem? (i := 17) rfl)) (by decide) (lenOf pd__28IILjava_2flang_2fString_3bLjava_2flang_2fString_3bLjava_2flang_2fString_3bJLjava_2flang_2fString_3b_29V rfl) rfl 1 rfl rfl (by decide) (by decide) (by decide) (by decide) (fun _ q => nomatch q) rfl (fun v_80 h_81 N_82 hQ_83 hle_84 => ?_)
  obtain ⟨rfl, K_79⟩ := hQ_83
  refine Go.re (pc' := 36) (L' := #[.val (.int p0), .val (.int p1), .val (.int p2), .val (.int p3), .val (.int p4), .val (.long p5), .second, .val (.int ((p0 &&& (2147483647 : Int32)) % (3 : Int32))), .val (.int ((p1 &&& (2147483647 : Int32)) % (3 : Int32))), .unset, .unset, .unset, .unset, .unset, .unset, .unset, .unset, .unset]) (S' := [(.ref a_1)]) rfl rfl rfl ?_
  refine Go.astore (pc' := 38) #[.val (.int p0), .val (.int p1), .val (.int p2), .val (.int p3), .val (.int p4), .val (.long p5), .second, .val (.int ((p0 &&& (2147483647 : Int32)) % (3 : Int32))), .val (.int ((p1 &&& (2147483647 : Int32)) % (3 : Int32))), .val (.ref a_1), .unset, .unset, .unset, .unset, .unset, .unset, .unset, .unset] at_36 rfl rfl rfl ?_
  refine Go.aload (pc' := 40) at_38 rfl rfl rfl ?_
  refine Go.callS (a1 := a0) (pc' := 43) (argsL := [(.ref a_1)]) (rest := []) (ct_of l Z a0 hw n0 h_81 a_1 (by omega)) at_40 (hw _ (List.mem_of_getElem? (i := 96) rfl)) (hw _ (List.mem_of_getElem? (i := 97) rfl)) (hw _ (List.mem_of_getElem? (i := 98) rfl)) (hw _ (List.mem_of_getElem? (i := 99) rfl)) (by decide) (lenOf pd__28Ljava_2flang_2fObject_3b_29Ljava_2futil_2fOptional_3b rfl) rfl 0 rfl rfl (by decide) (by decide) (by decide) (by decide) (fun _ q => nomatch q) rfl (fun v_87 h_88 N_89 hQ_90 hle_91 => ?_)
  obtain ⟨a_85, rfl, K_86⟩ := hQ_90
  refine Go.re (pc' := 43) (L' := #[.val (.int p0), .val (.int p1), .val (.int p2), .val (.int p3), .val (.int p4), .val (.long p5), .second, .val (.int ((p0 &&& (2147483647 : Int32)) % (3 : Int32))), .val (.int ((p1 &&& (2147483647 : Int32)) % (3 : Int32))), .val (.ref a_1), .unset, .unset, .unset, .unset, .unset, .unset, .unset, .unset]) (S' := [(.ref a_85)]) rfl rfl rfl ?_
  refine Go.astore (pc' := 45) #[.val (.int p0), .val (.int p1), .val (.int p2), .val (.int p3), .val (.int p4), .val (.long p5), .second, .val (.int ((p0 &&& (2147483647 : Int32)) % (3 : Int32))), .val (.int ((p1 &&& (2147483647 : Int32)) % (3 : Int32))), .val (.ref a_1), .val (.ref a_85), .unset, .unset, .unset, .unset, .unset, .unset, .unset] at_43 rfl rfl rfl ?_
  have F_92 : Sta Z h_88 "java/util/Optional" "EMPTY" "Ljava/util/Optional;" (.ref o_E) := (sta_keep (sta_keep (Sta.ext E_51 (Sta.ext E_40 (Sta.ext E_29 (Sta.ext E_18 (Sta.ext E_3 S_E))))) K_79 (nsS (Exa.nostat F_70) ns0)) K_86 ns0)
  refine Go.callS (a1 := a0) (pc' := 48) (argsL := []) (rest := []) (ct_empty l Z a0 hw n0 h_88 o_E F_92) at_45 (hw _ (List.mem_of_getElem? (i := 112) rfl)) (hw _ (List.mem_of_getElem? (i := 113) rfl)) (hw _ (List.mem_of_getElem? (i := 98) rfl)) (hw _ (List.mem_of_getElem? (i := 114) rfl)) (by decide) (lenOf pd__28_29Ljava_2futil_2fOptional_3b rfl) rfl 0 rfl rfl (by decide) (by decide) (by decide) (by decide) (fun _ q => nomatch q) rfl (fun v_93 h_94 N_95 hQ_96 hle_97 => ?_)
  obtain ⟨rfl, rfl⟩ := hQ_96
  refine Go.re (pc' := 48) (L' := #[.val (.int p0), .val (.int p1), .val (.int p2), .val (.int p3), .val (.int p4), .val (.long p5), .second, .val (.int ((p0 &&& (2147483647 : Int32)) % (3 : Int32))), .val (.int ((p1 &&& (2147483647 : Int32)) % (3 : Int32))), .val (.ref a_1), .val (.ref a_85), .unset, .unset, .unset, .unset, .unset, .unset, .unset]) (S' := [(.ref o_E)]) rfl rfl rfl ?_
  refine Go.astore (pc' := 50) #[.val (.int p0), .val (.int p1), .val (.int p2), .val (.int p3), .val (.int p4), .val (.long p5), .second, .val (.int ((p0 &&& (2147483647 : Int32)) % (3 : Int32))), .val (.int ((p1 &&& (2147483647 : Int32)) % (3 : Int32))), .val (.ref a_1), .val (.ref a_85), .val (.ref o_E), .unset, .unset, .unset, .unset, .unset, .unset] at_48 rfl rfl rfl ?_
  refine Go.iloadN (pc' := 51) at_50 rfl rfl ?_
  refine Go.iconst (pc' := 52) 1 at_51 rfl rfl ?_
  refine Go.iand (pc' := 53) at_52 rfl ?_
  refine Go.cut (α := Addr) 63 (fun r_98 => #[.val (.int p0), .val (.int p1), .val (.int p2), .val (.int p3), .val (.int p4), .val (.long p5), .second, .val (.int ((p0 &&& (2147483647 : Int32)) % (3 : Int32))), .val (.int ((p1 &&& (2147483647 : Int32)) % (3 : Int32))), .val (.ref a_1), .val (.ref a_85), .val (.ref o_E), .unset, .unset, .unset, .unset, .unset, .unset]) (fun r_98 => [(.ref r_98)]) (fun r_98 => ?_) (fun cut63 => ?_)
  · refine Go.re (pc' := 63) (L' := #[.val (.int p0), .val (.int p1), .val (.int p2), .val (.int p3), .val (.int p4), .val (.long p5), .second, .val (.int ((p0 &&& (2147483647 : Int32)) % (3 : Int32))), .val (.int ((p1 &&& (2147483647 : Int32)) % (3 : Int32))), .val (.ref a_1), .val (.ref a_85), .val (.ref o_E), .unset, .unset, .unset, .unset, .unset, .unset]) (S' := [(.ref r_98)]) rfl rfl rfl ?_
    refine Go.astore (pc' := 65) #[.val (.int p0), .val (.int p1), .val (.int p2), .val (.int p3), .val (.int p4), .val (.long p5), .second, .val (.int ((p0 &&& (2147483647 : Int32)) % (3 : Int32))), .val (.int ((p1 &&& (2147483647 : Int32)) % (3 : Int32))), .val (.ref a_1), .val (.ref a_85), .val (.ref o_E), .val (.ref r_98), .unset, .unset, .unset, .unset, .unset] at_63 rfl rfl rfl ?_
    refine Go.iloadN (pc' := 66) at_65 rfl rfl ?_
    refine Go.iconst (pc' := 67) 2 at_66 rfl rfl ?_
    refine Go.iand (pc' := 68) at_67 rfl ?_
    refine Go.cut (α := Addr) 78 (fun r_99 => #[.val (.int p0), .val (.int p1), .val (.int p2), .val (.int p3), .val (.int p4), .val (.long p5), .second, .val (.int ((p0 &&& (2147483647 : Int32)) % (3 : Int32))), .val (.int ((p1 &&& (2147483647 : Int32)) % (3 : Int32))), .val (.ref a_1), .val (.ref a_85), .val (.ref o_E), .val (.ref r_98), .unset, .unset, .unset, .unset, .unset]) (fun r_99 => [(.ref r_99)]) (fun r_99 => ?_) (fun cut78 => ?_)
    · refine Go.re (pc' := 78) (L' := #[.val (.int p0), .val (.int p1), .val (.int p2), .val (.int p3), .val (.int p4), .val (.long p5), .second, .val (.int ((p0 &&& (2147483647 : Int32)) % (3 : Int32))), .val (.int ((p1 &&& (2147483647 : Int32)) % (3 : Int32))), .val (.ref a_1), .val (.ref a_85), .val (.ref o_E), .val (.ref r_98), .unset, .unset, .unset, .unset, .unset]) (S' := [(.ref r_99)]) rfl rfl rfl ?_
      refine Go.astore (pc' := 80) #[.val (.int p0), .val (.int p1), .val (.int p2), .val (.int p3), .val (.int p4), .val (.long p5), .second, .val (.int ((p0 &&& (2147483647 : Int32)) % (3 : Int32))), .val (.int ((p1 &&& (2147483647 : Int32)) % (3 : Int32))), .val (.ref a_1), .val (.ref a_85), .val (.ref o_E), .val (.ref r_98), .val (.ref r_99), .unset, .unset, .unset, .unset] at_78 rfl rfl rfl ?_
      refine Go.newO (pc' := 83) (a1 := a0) at_80 (hw _ (List.mem_of_getElem? (i := 116) rfl)) (hw _ (List.mem_of_getElem? (i := 117) rfl)) (hw _ (List.mem_of_getElem? (i := 118) rfl)) (by decide) (by decide) rfl (fun a_100 h_101 ha_103 E_102 X_104 Df_105 => ?_)
      have szh_101 : h_88.size ≤ h_101.size := E_102.1
      have lta_100 := nlt X_104.lt
      have qa_100 := neq ha_103
      have F_106 : Fld Z h_101 a_100 "com/example/coat_check/coatcheck/client/StrictPolicy" "licensed" "Z" (.int (0 : Int32)) := Df_105 (Or.inl (hw _ (List.mem_of_getElem? (i := 129) rfl))) (ty := .boolean) (by decide)
      refine Go.dup (pc' := 84) at_83 rfl rfl ?_
      refine Go.callN (a1 := a0) (pc' := 87) (argsL := []) (rest := [(.ref a_100)]) (ct_sp0 l Z a0 hw n0 h_101 a_100) at_84 rfl (hw _ (List.mem_of_getElem? (i := 119) rfl)) (hw _ (List.mem_of_getElem? (i := 120) rfl)) (hw _ (List.mem_of_getElem? (i := 118) rfl)) (hw _ (List.mem_of_getElem? (i := 121) rfl)) (by decide) (lenOf pd__28_29V rfl) rfl 1 rfl rfl (by decide) (by decide) (by decide) (by decide) (fun _ q => nomatch q) rfl (fun v_107 h_108 N_109 hQ_110 hle_111 => ?_)
      obtain ⟨rfl, rfl⟩ := hQ_110
      refine Go.re (pc' := 87) (L' := #[.val (.int p0), .val (.int p1), .val (.int p2), .val (.int p3), .val (.int p4), .val (.long p5), .second, .val (.int ((p0 &&& (2147483647 : Int32)) % (3 : Int32))), .val (.int ((p1 &&& (2147483647 : Int32)) % (3 : Int32))), .val (.ref a_1), .val (.ref a_85), .val (.ref o_E), .val (.ref r_98), .val (.ref r_99), .unset, .unset, .unset, .unset]) (S' := [(.ref a_100)]) rfl rfl rfl ?_
      refine Go.astore (pc' := 89) #[.val (.int p0), .val (.int p1), .val (.int p2), .val (.int p3), .val (.int p4), .val (.long p5), .second, .val (.int ((p0 &&& (2147483647 : Int32)) % (3 : Int32))), .val (.int ((p1 &&& (2147483647 : Int32)) % (3 : Int32))), .val (.ref a_1), .val (.ref a_85), .val (.ref o_E), .val (.ref r_98), .val (.ref r_99), .val (.ref a_100), .unset, .unset, .unset] at_87 rfl rfl rfl ?_
      refine Go.aload (pc' := 91) at_89 rfl rfl rfl ?_
      refine Go.callV (a1 := a0) (pc' := 94) (argsL := []) (rest := []) (ct_allow l Z a0 hw n0 h_101 a_100 (0 : Int32) (by decide) F_106) at_91 (hw _ (List.mem_of_getElem? (i := 123) rfl)) (hw _ (List.mem_of_getElem? (i := 124) rfl)) (hw _ (List.mem_of_getElem? (i := 126) rfl)) (hw _ (List.mem_of_getElem? (i := 126) rfl)) (hw _ (List.mem_of_getElem? (i := 125) rfl)) (hw _ (List.mem_of_getElem? (i := 118) rfl)) (hw _ (List.mem_of_getElem? (i := 127) rfl)) X_104 (by decide) (lenOf pd__28_29Z rfl) rfl 0 rfl rfl (by decide) (by decide) (by decide) (by decide) (fun _ q => nomatch q) rfl (fun v_112 h_113 N_114 hQ_115 hle_116 => ?_)
      obtain ⟨rfl, rfl⟩ := hQ_115
      refine Go.re (pc' := 94) (L' := #[.val (.int p0), .val (.int p1), .val (.int p2), .val (.int p3), .val (.int p4), .val (.long p5), .second, .val (.int ((p0 &&& (2147483647 : Int32)) % (3 : Int32))), .val (.int ((p1 &&& (2147483647 : Int32)) % (3 : Int32))), .val (.ref a_1), .val (.ref a_85), .val (.ref o_E), .val (.ref r_98), .val (.ref r_99), .val (.ref a_100), .unset, .unset, .unset]) (S' := [(.int (0 : Int32))]) rfl rfl rfl ?_
      refine Go.istore (pc' := 96) #[.val (.int p0), .val (.int p1), .val (.int p2), .val (.int p3), .val (.int p4), .val (.long p5), .second, .val (.int ((p0 &&& (2147483647 : Int32)) % (3 : Int32))), .val (.int ((p1 &&& (2147483647 : Int32)) % (3 : Int32))), .val (.ref a_1), .val (.ref a_85), .val (.ref o_E), .val (.ref r_98), .val (.ref r_99), .val (.ref a_100), .val (.int (0 : Int32)), .unset, .unset] at_94 rfl rfl ?_
      refine Go.aload (pc' := 98) at_96 rfl rfl rfl ?_
      refine Go.iload (pc' := 100) at_98 rfl rfl ?_
      have F_118 : Sta Z h_101 "com/example/coat_check/coatcheck/client/Reason" "LICENSED" "Lcom/example/coat_check/coatcheck/client/Reason;" (.ref o_LICENSED) := (Sta.ext E_102 (sta_keep (sta_keep (Sta.ext E_51 (Sta.ext E_40 (Sta.ext E_29 (Sta.ext E_18 (Sta.ext E_3 S_LICENSED))))) K_79 (nsS (Exa.nostat F_70) ns0)) K_86 ns0))
      have F_119 : Sta Z h_101 "com/example/coat_check/coatcheck/client/Reason" "NOT_LICENSED" "Lcom/example/coat_check/coatcheck/client/Reason;" (.ref o_NOT_LICENSED) := (Sta.ext E_102 (sta_keep (sta_keep (Sta.ext E_51 (Sta.ext E_40 (Sta.ext E_29 (Sta.ext E_18 (Sta.ext E_3 S_NOT_LICENSED))))) K_79 (nsS (Exa.nostat F_70) ns0)) K_86 ns0))
      have F_120 : Sta Z h_101 "com/example/coat_check/coatcheck/client/Reason" "RETRY" "Lcom/example/coat_check/coatcheck/client/Reason;" (.ref o_RETRY) := (Sta.ext E_102 (sta_keep (sta_keep (Sta.ext E_51 (Sta.ext E_40 (Sta.ext E_29 (Sta.ext E_18 (Sta.ext E_3 S_RETRY))))) K_79 (nsS (Exa.nostat F_70) ns0)) K_86 ns0))
      refine Go.callS (a1 := a0) (pc' := 103) (argsL := [(.int ((p0 &&& (2147483647 : Int32)) % (3 : Int32)))]) (rest := [(.ref a_100)]) (ct_reason l Z a0 hw n0 h_101 ((p0 &&& (2147483647 : Int32)) % (3 : Int32)) o_LICENSED F_118 o_NOT_LICENSED F_119 o_RETRY F_120) at_100 (hw _ (List.mem_of_getElem? (i := 130) rfl)) (hw _ (List.mem_of_getElem? (i := 131) rfl)) (hw _ (List.mem_of_getElem? (i := 132) rfl)) (hw _ (List.mem_of_getElem? (i := 133) rfl)) (by decide) (lenOf pd__28I_29Lcom_2fexample_2fcoat_check_2fcoatcheck_2fclient_2fReason_3b rfl) rfl 1 rfl rfl (by decide) (by decide) (by decide) (by decide) (fun _ q => nomatch q) rfl (fun v_121 h_122 N_123 hQ_124 hle_125 => ?_)
      obtain ⟨rfl, hi_117⟩ := hQ_124
      rcases hi_117 with ⟨hi_117, rfl⟩ | ⟨hi_117, rfl⟩ | ⟨hi_117, rfl⟩
      · refine Go.re (pc' := 103) (L' := #[.val (.int p0), .val (.int p1), .val (.int p2), .val (.int p3), .val (.int p4), .val (.long p5), .second, .val (.int ((p0 &&& (2147483647 : Int32)) % (3 : Int32))), .val (.int ((p1 &&& (2147483647 : Int32)) % (3 : Int32))), .val (.ref a_1), .val (.ref a_85), .val (.ref o_E), .val (.ref r_98), .val (.ref r_99), .val (.ref a_100), .val (.int (0 : Int32)), .unset, .unset]) (S' := [(.ref o_LICENSED), (.ref a_100)]) rfl rfl rfl ?_
        refine Go.aload (pc' := 105) at_103 rfl rfl rfl ?_
        refine Go.callV (a1 := a0) (pc' := 108) (argsL := [(.ref o_LICENSED), (.ref r_98)]) (rest := []) (ct_psrY l Z a0 hw n0 h_101 a_100 r_98 o_LICENSED (0 : Int32) (by omega) F_118 X_104 F_106) at_105 (hw _ (List.mem_of_getElem? (i := 137) rfl)) (hw _ (List.mem_of_getElem? (i := 138) rfl)) (hw _ (List.mem_of_getElem? (i := 140) rfl)) (hw _ (List.mem_of_getElem? (i := 140) rfl)) (hw _ (List.mem_of_getElem? (i := 139) rfl)) (hw _ (List.mem_of_getElem? (i := 118) rfl)) (hw _ (List.mem_of_getElem? (i := 141) rfl)) X_104 (by decide) (lenOf pd__28Lcom_2fexample_2fcoat_check_2fcoatcheck_2fclient_2fReason_3bLjava_2futil_2fOptional_3b_29V rfl) rfl 0 rfl rfl (by decide) (by decide) (by decide) (by decide) (fun _ q => nomatch q) rfl (fun v_129 h_130 N_131 hQ_132 hle_133 => ?_)
        obtain ⟨rfl, K_126, X_127, F_128⟩ := hQ_132
        refine Go.re (pc' := 108) (L' := #[.val (.int p0), .val (.int p1), .val (.int p2), .val (.int p3), .val (.int p4), .val (.long p5), .second, .val (.int ((p0 &&& (2147483647 : Int32)) % (3 : Int32))), .val (.int ((p1 &&& (2147483647 : Int32)) % (3 : Int32))), .val (.ref a_1), .val (.ref a_85), .val (.ref o_E), .val (.ref r_98), .val (.ref r_99), .val (.ref a_100), .val (.int (0 : Int32)), .unset, .unset]) (S' := []) rfl rfl rfl ?_
        refine Go.aload (pc' := 110) at_108 rfl rfl rfl ?_
        refine Go.callV (a1 := a0) (pc' := 113) (argsL := []) (rest := []) (ct_allow l Z a0 hw n0 h_130 a_100 (1 : Int32) (by decide) F_128) at_110 (hw _ (List.mem_of_getElem? (i := 123) rfl)) (hw _ (List.mem_of_getElem? (i := 124) rfl)) (hw _ (List.mem_of_getElem? (i := 126) rfl)) (hw _ (List.mem_of_getElem? (i := 126) rfl)) (hw _ (List.mem_of_getElem? (i := 125) rfl)) (hw _ (List.mem_of_getElem? (i := 118) rfl)) (hw _ (List.mem_of_getElem? (i := 127) rfl)) X_127 (by decide) (lenOf pd__28_29Z rfl) rfl 0 rfl rfl (by decide) (by decide) (by decide) (by decide) (fun _ q => nomatch q) rfl (fun v_134 h_135 N_136 hQ_137 hle_138 => ?_)
        obtain ⟨rfl, rfl⟩ := hQ_137
        refine Go.re (pc' := 113) (L' := #[.val (.int p0), .val (.int p1), .val (.int p2), .val (.int p3), .val (.int p4), .val (.long p5), .second, .val (.int ((p0 &&& (2147483647 : Int32)) % (3 : Int32))), .val (.int ((p1 &&& (2147483647 : Int32)) % (3 : Int32))), .val (.ref a_1), .val (.ref a_85), .val (.ref o_E), .val (.ref r_98), .val (.ref r_99), .val (.ref a_100), .val (.int (0 : Int32)), .unset, .unset]) (S' := [(.int (1 : Int32))]) rfl rfl rfl ?_
        refine Go.istore (pc' := 115) #[.val (.int p0), .val (.int p1), .val (.int p2), .val (.int p3), .val (.int p4), .val (.long p5), .second, .val (.int ((p0 &&& (2147483647 : Int32)) % (3 : Int32))), .val (.int ((p1 &&& (2147483647 : Int32)) % (3 : Int32))), .val (.ref a_1), .val (.ref a_85), .val (.ref o_E), .val (.ref r_98), .val (.ref r_99), .val (.ref a_100), .val (.int (0 : Int32)), .val (.int (1 : Int32)), .unset] at_113 rfl rfl ?_
        refine Go.aload (pc' := 117) at_115 rfl rfl rfl ?_
        refine Go.iload (pc' := 119) at_117 rfl rfl ?_
        have F_140 : Sta Z h_130 "com/example/coat_check/coatcheck/client/Reason" "LICENSED" "Lcom/example/coat_check/coatcheck/client/Reason;" (.ref o_LICENSED) := (sta_keep F_118 K_126 (nsS (Exa.nostat X_104) ns0))
        have F_141 : Sta Z h_130 "com/example/coat_check/coatcheck/client/Reason" "NOT_LICENSED" "Lcom/example/coat_check/coatcheck/client/Reason;" (.ref o_NOT_LICENSED) := (sta_keep F_119 K_126 (nsS (Exa.nostat X_104) ns0))
        have F_142 : Sta Z h_130 "com/example/coat_check/coatcheck/client/Reason" "RETRY" "Lcom/example/coat_check/coatcheck/client/Reason;" (.ref o_RETRY) := (sta_keep F_120 K_126 (nsS (Exa.nostat X_104) ns0))
        refine Go.callS (a1 := a0) (pc' := 122) (argsL := [(.int ((p1 &&& (2147483647 : Int32)) % (3 : Int32)))]) (rest := [(.ref a_100)]) (ct_reason l Z a0 hw n0 h_130 ((p1 &&& (2147483647 : Int32)) % (3 : Int32)) o_LICENSED F_140 o_NOT_LICENSED F_141 o_RETRY F_142) at_119 (hw _ (List.mem_of_getElem? (i := 130) rfl)) (hw _ (List.mem_of_getElem? (i := 131) rfl)) (hw _ (List.mem_of_getElem? (i := 132) rfl)) (hw _ (List.mem_of_getElem? (i := 133) rfl)) (by decide) (lenOf pd__28I_29Lcom_2fexample_2fcoat_check_2fcoatcheck_2fclient_2fReason_3b rfl) rfl 1 rfl rfl (by decide) (by decide) (by decide) (by decide) (fun _ q => nomatch q) rfl (fun v_143 h_144 N_145 hQ_146 hle_147 => ?_)
        obtain ⟨rfl, hi_139⟩ := hQ_146
        rcases hi_139 with ⟨hi_139, rfl⟩ | ⟨hi_139, rfl⟩ | ⟨hi_139, rfl⟩
        · refine Go.re (pc' := 122) (L' := #[.val (.int p0), .val (.int p1), .val (.int p2), .val (.int p3), .val (.int p4), .val (.long p5), .second, .val (.int ((p0 &&& (2147483647 : Int32)) % (3 : Int32))), .val (.int ((p1 &&& (2147483647 : Int32)) % (3 : Int32))), .val (.ref a_1), .val (.ref a_85), .val (.ref o_E), .val (.ref r_98), .val (.ref r_99), .val (.ref a_100), .val (.int (0 : Int32)), .val (.int (1 : Int32)), .unset]) (S' := [(.ref o_LICENSED), (.ref a_100)]) rfl rfl rfl ?_
          refine Go.aload (pc' := 124) at_122 rfl rfl rfl ?_
          refine Go.callV (a1 := a0) (pc' := 127) (argsL := [(.ref o_LICENSED), (.ref r_99)]) (rest := []) (ct_psrY l Z a0 hw n0 h_130 a_100 r_99 o_LICENSED (1 : Int32) (by omega) F_140 X_127 F_128) at_124 (hw _ (List.mem_of_getElem? (i := 137) rfl)) (hw _ (List.mem_of_getElem? (i := 138) rfl)) (hw _ (List.mem_of_getElem? (i := 140) rfl)) (hw _ (List.mem_of_getElem? (i := 140) rfl)) (hw _ (List.mem_of_getElem? (i := 139) rfl)) (hw _ (List.mem_of_getElem? (i := 118) rfl)) (hw _ (List.mem_of_getElem? (i := 141) rfl)) X_127 (by decide) (lenOf pd__28Lcom_2fexample_2fcoat_check_2fcoatcheck_2fclient_2fReason_3bLjava_2futil_2fOptional_3b_29V rfl) rfl 0 rfl rfl (by decide) (by decide) (by decide) (by decide) (fun _ q => nomatch q) rfl (fun v_151 h_152 N_153 hQ_154 hle_155 => ?_)
          obtain ⟨rfl, K_148, X_149, F_150⟩ := hQ_154
          refine Go.re (pc' := 127) (L' := #[.val (.int p0), .val (.int p1), .val (.int p2), .val (.int p3), .val (.int p4), .val (.long p5), .second, .val (.int ((p0 &&& (2147483647 : Int32)) % (3 : Int32))), .val (.int ((p1 &&& (2147483647 : Int32)) % (3 : Int32))), .val (.ref a_1), .val (.ref a_85), .val (.ref o_E), .val (.ref r_98), .val (.ref r_99), .val (.ref a_100), .val (.int (0 : Int32)), .val (.int (1 : Int32)), .unset]) (S' := []) rfl rfl rfl ?_
          refine Go.aload (pc' := 129) at_127 rfl rfl rfl ?_
          refine Go.callV (a1 := a0) (pc' := 132) (argsL := []) (rest := []) (ct_allow l Z a0 hw n0 h_152 a_100 (1 : Int32) (by decide) F_150) at_129 (hw _ (List.mem_of_getElem? (i := 123) rfl)) (hw _ (List.mem_of_getElem? (i := 124) rfl)) (hw _ (List.mem_of_getElem? (i := 126) rfl)) (hw _ (List.mem_of_getElem? (i := 126) rfl)) (hw _ (List.mem_of_getElem? (i := 125) rfl)) (hw _ (List.mem_of_getElem? (i := 118) rfl)) (hw _ (List.mem_of_getElem? (i := 127) rfl)) X_149 (by decide) (lenOf pd__28_29Z rfl) rfl 0 rfl rfl (by decide) (by decide) (by decide) (by decide) (fun _ q => nomatch q) rfl (fun v_156 h_157 N_158 hQ_159 hle_160 => ?_)
          obtain ⟨rfl, rfl⟩ := hQ_159
          refine Go.re (pc' := 132) (L' := #[.val (.int p0), .val (.int p1), .val (.int p2), .val (.int p3), .val (.int p4), .val (.long p5), .second, .val (.int ((p0 &&& (2147483647 : Int32)) % (3 : Int32))), .val (.int ((p1 &&& (2147483647 : Int32)) % (3 : Int32))), .val (.ref a_1), .val (.ref a_85), .val (.ref o_E), .val (.ref r_98), .val (.ref r_99), .val (.ref a_100), .val (.int (0 : Int32)), .val (.int (1 : Int32)), .unset]) (S' := [(.int (1 : Int32))]) rfl rfl rfl ?_
          refine Go.istore (pc' := 134) #[.val (.int p0), .val (.int p1), .val (.int p2), .val (.int p3), .val (.int p4), .val (.long p5), .second, .val (.int ((p0 &&& (2147483647 : Int32)) % (3 : Int32))), .val (.int ((p1 &&& (2147483647 : Int32)) % (3 : Int32))), .val (.ref a_1), .val (.ref a_85), .val (.ref o_E), .val (.ref r_98), .val (.ref r_99), .val (.ref a_100), .val (.int (0 : Int32)), .val (.int (1 : Int32)), .val (.int (1 : Int32))] at_132 rfl rfl ?_
          refine Go.iload (pc' := 136) at_134 rfl rfl ?_
          refine Go.ifF (pc' := 139) at_136 (show (0 : Int32) = (0 : Int32) by decide) rfl ?_
          refine Go.iload (pc' := 141) at_139 rfl rfl ?_
          refine Go.iload (pc' := 143) at_141 rfl rfl ?_
          refine Go.ifF (pc' := 146) at_143 (hi_117) rfl ?_
          refine Go.iconst (pc' := 147) 1 at_146 rfl rfl ?_
          refine Go.goto (pc' := 151) at_147 (by decide) (by decide) ?_
          refine Go.icmpF (pc' := 154) at_151 (show (1 : Int32) = (1 : Int32) by decide) rfl ?_
          refine Go.iload (pc' := 156) at_154 rfl rfl ?_
          refine Go.iload (pc' := 158) at_156 rfl rfl ?_
          refine Go.ifF (pc' := 161) at_158 (hi_139) rfl ?_
          refine Go.iconst (pc' := 162) 1 at_161 rfl rfl ?_
          refine Go.goto (pc' := 166) at_162 (by decide) (by decide) ?_
          refine Go.icmpF (pc' := 169) at_166 (show (1 : Int32) = (1 : Int32) by decide) rfl ?_
          refine Go.iconst (pc' := 170) 1 at_169 rfl rfl ?_
          refine Go.goto (pc' := 174) at_170 (by decide) (by decide) ?_
          refine Go.retN (t := .boolean) (1 : Int32) rfl (by simp) rfl [] (fun _ q => nomatch q) at_174 (by decide) (by decide) ?_
          exact rfl
        · refine Go.re (pc' := 122) (L' := #[.val (.int p0), .val (.int p1), .val (.int p2), .val (.int p3), .val (.int p4), .val (.long p5), .second, .val (.int ((p0 &&& (2147483647 : Int32)) % (3 : Int32))), .val (.int ((p1 &&& (2147483647 : Int32)) % (3 : Int32))), .val (.ref a_1), .val (.ref a_85), .val (.ref o_E), .val (.ref r_98), .val (.ref r_99), .val (.ref a_100), .val (.int (0 : Int32)), .val (.int (1 : Int32)), .unset]) (S' := [(.ref o_NOT_LICENSED), (.ref a_100)]) rfl rfl rfl ?_
          refine Go.aload (pc' := 124) at_122 rfl rfl rfl ?_
          have F_164 : Fld Z h_130 o_NOT_LICENSED "java/lang/Enum" "ordinal" "I" (.int (1 : Int32)) := (Fld.keep (Fld.ext E_102 (Fld.keep (Fld.keep (Fld.ext E_51 (Fld.ext E_40 (Fld.ext E_29 (Fld.ext E_18 (Fld.ext E_3 F_NOT_LICENSED_ordinal))))) K_79 (ninS (nne (by omega)) nin0)) K_86 nin0)) K_126 (ninS (nne (by omega)) nin0))
          have F_165 : Fld Z h_130 o_LICENSED "java/lang/Enum" "ordinal" "I" (.int (0 : Int32)) := (Fld.keep (Fld.ext E_102 (Fld.keep (Fld.keep (Fld.ext E_51 (Fld.ext E_40 (Fld.ext E_29 (Fld.ext E_18 (Fld.ext E_3 F_LICENSED_ordinal))))) K_79 (ninS (nne (by omega)) nin0)) K_86 nin0)) K_126 (ninS (nne (by omega)) nin0))
          refine Go.callV (a1 := a0) (pc' := 127) (argsL := [(.ref o_NOT_LICENSED), (.ref r_99)]) (rest := []) (ct_psrN l Z a0 hw n0 h_130 a_100 r_99 o_LICENSED (1 : Int32) o_NOT_LICENSED (Fld.ne F_164 F_165 (by decide)) (by omega) F_140 X_127 F_128) at_124 (hw _ (List.mem_of_getElem? (i := 137) rfl)) (hw _ (List.mem_of_getElem? (i := 138) rfl)) (hw _ (List.mem_of_getElem? (i := 140) rfl)) (hw _ (List.mem_of_getElem? (i := 140) rfl)) (hw _ (List.mem_of_getElem? (i := 139) rfl)) (hw _ (List.mem_of_getElem? (i := 118) rfl)) (hw _ (List.mem_of_getElem? (i := 141) rfl)) X_127 (by decide) (lenOf pd__28Lcom_2fexample_2fcoat_check_2fcoatcheck_2fclient_2fReason_3bLjava_2futil_2fOptional_3b_29V rfl) rfl 0 rfl rfl (by decide) (by decide) (by decide) (by decide) (fun _ q => nomatch q) rfl (fun v_166 h_167 N_168 hQ_169 hle_170 => ?_)
          obtain ⟨rfl, K_161, X_162, F_163⟩ := hQ_169
          refine Go.re (pc' := 127) (L' := #[.val (.int p0), .val (.int p1), .val (.int p2), .val (.int p3), .val (.int p4), .val (.long p5), .second, .val (.int ((p0 &&& (2147483647 : Int32)) % (3 : Int32))), .val (.int ((p1 &&& (2147483647 : Int32)) % (3 : Int32))), .val (.ref a_1), .val (.ref a_85), .val (.ref o_E), .val (.ref r_98), .val (.ref r_99), .val (.ref a_100), .val (.int (0 : Int32)), .val (.int (1 : Int32)), .unset]) (S' := []) rfl rfl rfl ?_
          refine Go.aload (pc' := 129) at_127 rfl rfl rfl ?_
          refine Go.callV (a1 := a0) (pc' := 132) (argsL := []) (rest := []) (ct_allow l Z a0 hw n0 h_167 a_100 (0 : Int32) (by decide) F_163) at_129 (hw _ (List.mem_of_getElem? (i := 123) rfl)) (hw _ (List.mem_of_getElem? (i := 124) rfl)) (hw _ (List.mem_of_getElem? (i := 126) rfl)) (hw _ (List.mem_of_getElem? (i := 126) rfl)) (hw _ (List.mem_of_getElem? (i := 125) rfl)) (hw _ (List.mem_of_getElem? (i := 118) rfl)) (hw _ (List.mem_of_getElem? (i := 127) rfl)) X_162 (by decide) (lenOf pd__28_29Z rfl) rfl 0 rfl rfl (by decide) (by decide) (by decide) (by decide) (fun _ q => nomatch q) rfl (fun v_171 h_172 N_173 hQ_174 hle_175 => ?_)
          obtain ⟨rfl, rfl⟩ := hQ_174
          refine Go.re (pc' := 132) (L' := #[.val (.int p0), .val (.int p1), .val (.int p2), .val (.int p3), .val (.int p4), .val (.long p5), .second, .val (.int ((p0 &&& (2147483647 : Int32)) % (3 : Int32))), .val (.int ((p1 &&& (2147483647 : Int32)) % (3 : Int32))), .val (.ref a_1), .val (.ref a_85), .val (.ref o_E), .val (.ref r_98), .val (.ref r_99), .val (.ref a_100), .val (.int (0 : Int32)), .val (.int (1 : Int32)), .unset]) (S' := [(.int (0 : Int32))]) rfl rfl rfl ?_
          refine Go.istore (pc' := 134) #[.val (.int p0), .val (.int p1), .val (.int p2), .val (.int p3), .val (.int p4), .val (.long p5), .second, .val (.int ((p0 &&& (2147483647 : Int32)) % (3 : Int32))), .val (.int ((p1 &&& (2147483647 : Int32)) % (3 : Int32))), .val (.ref a_1), .val (.ref a_85), .val (.ref o_E), .val (.ref r_98), .val (.ref r_99), .val (.ref a_100), .val (.int (0 : Int32)), .val (.int (1 : Int32)), .val (.int (0 : Int32))] at_132 rfl rfl ?_
          refine Go.iload (pc' := 136) at_134 rfl rfl ?_
          refine Go.ifF (pc' := 139) at_136 (show (0 : Int32) = (0 : Int32) by decide) rfl ?_
          refine Go.iload (pc' := 141) at_139 rfl rfl ?_
          refine Go.iload (pc' := 143) at_141 rfl rfl ?_
          refine Go.ifF (pc' := 146) at_143 (hi_117) rfl ?_
          refine Go.iconst (pc' := 147) 1 at_146 rfl rfl ?_
          refine Go.goto (pc' := 151) at_147 (by decide) (by decide) ?_
          refine Go.icmpF (pc' := 154) at_151 (show (1 : Int32) = (1 : Int32) by decide) rfl ?_
          refine Go.iload (pc' := 156) at_154 rfl rfl ?_
          refine Go.iload (pc' := 158) at_156 rfl rfl ?_
          refine Go.ifT (pc' := 165) at_158 (hi_139) (by decide) (by decide) ?_
          refine Go.iconst (pc' := 166) 0 at_165 rfl rfl ?_
          refine Go.icmpF (pc' := 169) at_166 (show (0 : Int32) = (0 : Int32) by decide) rfl ?_
          refine Go.iconst (pc' := 170) 1 at_169 rfl rfl ?_
          refine Go.goto (pc' := 174) at_170 (by decide) (by decide) ?_
          refine Go.retN (t := .boolean) (1 : Int32) rfl (by simp) rfl [] (fun _ q => nomatch q) at_174 (by decide) (by decide) ?_
          exact rfl
        · refine Go.re (pc' := 122) (L' := #[.val (.int p0), .val (.int p1), .val (.int p2), .val (.int p3), .val (.int p4), .val (.long p5), .second, .val (.int ((p0 &&& (2147483647 : Int32)) % (3 : Int32))), .val (.int ((p1 &&& (2147483647 : Int32)) % (3 : Int32))), .val (.ref a_1), .val (.ref a_85), .val (.ref o_E), .val (.ref r_98), .val (.ref r_99), .val (.ref a_100), .val (.int (0 : Int32)), .val (.int (1 : Int32)), .unset]) (S' := [(.ref o_RETRY), (.ref a_100)]) rfl rfl rfl ?_
          refine Go.aload (pc' := 124) at_122 rfl rfl rfl ?_
          have F_179 : Fld Z h_130 o_RETRY "java/lang/Enum" "ordinal" "I" (.int (2 : Int32)) := (Fld.keep (Fld.ext E_102 (Fld.keep (Fld.keep (Fld.ext E_51 (Fld.ext E_40 (Fld.ext E_29 (Fld.ext E_18 (Fld.ext E_3 F_RETRY_ordinal))))) K_79 (ninS (nne (by omega)) nin0)) K_86 nin0)) K_126 (ninS (nne (by omega)) nin0))
          have F_180 : Fld Z h_130 o_LICENSED "java/lang/Enum" "ordinal" "I" (.int (0 : Int32)) := (Fld.keep (Fld.ext E_102 (Fld.keep (Fld.keep (Fld.ext E_51 (Fld.ext E_40 (Fld.ext E_29 (Fld.ext E_18 (Fld.ext E_3 F_LICENSED_ordinal))))) K_79 (ninS (nne (by omega)) nin0)) K_86 nin0)) K_126 (ninS (nne (by omega)) nin0))
          refine Go.callV (a1 := a0) (pc' := 127) (argsL := [(.ref o_RETRY), (.ref r_99)]) (rest := []) (ct_psrN l Z a0 hw n0 h_130 a_100 r_99 o_LICENSED (1 : Int32) o_RETRY (Fld.ne F_179 F_180 (by decide)) (by omega) F_140 X_127 F_128) at_124 (hw _ (List.mem_of_getElem? (i := 137) rfl)) (hw _ (List.mem_of_getElem? (i := 138) rfl)) (hw _ (List.mem_of_getElem? (i := 140) rfl)) (hw _ (List.mem_of_getElem? (i := 140) rfl)) (hw _ (List.mem_of_getElem? (i := 139) rfl)) (hw _ (List.mem_of_getElem? (i := 118) rfl)) (hw _ (List.mem_of_getElem? (i := 141) rfl)) X_127 (by decide) (lenOf pd__28Lcom_2fexample_2fcoat_check_2fcoatcheck_2fclient_2fReason_3bLjava_2futil_2fOptional_3b_29V rfl) rfl 0 rfl rfl (by decide) (by decide) (by decide) (by decide) (fun _ q => nomatch q) rfl (fun v_181 h_182 N_183 hQ_184 hle_185 => ?_)
          obtain ⟨rfl, K_176, X_177, F_178⟩ := hQ_184
          refine Go.re (pc' := 127) (L' := #[.val (.int p0), .val (.int p1), .val (.int p2), .val (.int p3), .val (.int p4), .val (.long p5), .second, .val (.int ((p0 &&& (2147483647 : Int32)) % (3 : Int32))), .val (.int ((p1 &&& (2147483647 : Int32)) % (3 : Int32))), .val (.ref a_1), .val (.ref a_85), .val (.ref o_E), .val (.ref r_98), .val (.ref r_99), .val (.ref a_100), .val (.int (0 : Int32)), .val (.int (1 : Int32)), .unset]) (S' := []) rfl rfl rfl ?_
          refine Go.aload (pc' := 129) at_127 rfl rfl rfl ?_
          refine Go.callV (a1 := a0) (pc' := 132) (argsL := []) (rest := []) (ct_allow l Z a0 hw n0 h_182 a_100 (0 : Int32) (by decide) F_178) at_129 (hw _ (List.mem_of_getElem? (i := 123) rfl)) (hw _ (List.mem_of_getElem? (i := 124) rfl)) (hw _ (List.mem_of_getElem? (i := 126) rfl)) (hw _ (List.mem_of_getElem? (i := 126) rfl)) (hw _ (List.mem_of_getElem? (i := 125) rfl)) (hw _ (List.mem_of_getElem? (i := 118) rfl)) (hw _ (List.mem_of_getElem? (i := 127) rfl)) X_177 (by decide) (lenOf pd__28_29Z rfl) rfl 0 rfl rfl (by decide) (by decide) (by decide) (by decide) (fun _ q => nomatch q) rfl (fun v_186 h_187 N_188 hQ_189 hle_190 => ?_)
          obtain ⟨rfl, rfl⟩ := hQ_189
          refine Go.re (pc' := 132) (L' := #[.val (.int p0), .val (.int p1), .val (.int p2), .val (.int p3), .val (.int p4), .val (.long p5), .second, .val (.int ((p0 &&& (2147483647 : Int32)) % (3 : Int32))), .val (.int ((p1 &&& (2147483647 : Int32)) % (3 : Int32))), .val (.ref a_1), .val (.ref a_85), .val (.ref o_E), .val (.ref r_98), .val (.ref r_99), .val (.ref a_100), .val (.int (0 : Int32)), .val (.int (1 : Int32)), .unset]) (S' := [(.int (0 : Int32))]) rfl rfl rfl ?_
          refine Go.istore (pc' := 134) #[.val (.int p0), .val (.int p1), .val (.int p2), .val (.int p3), .val (.int p4), .val (.long p5), .second, .val (.int ((p0 &&& (2147483647 : Int32)) % (3 : Int32))), .val (.int ((p1 &&& (2147483647 : Int32)) % (3 : Int32))), .val (.ref a_1), .val (.ref a_85), .val (.ref o_E), .val (.ref r_98), .val (.ref r_99), .val (.ref a_100), .val (.int (0 : Int32)), .val (.int (1 : Int32)), .val (.int (0 : Int32))] at_132 rfl rfl ?_
          refine Go.iload (pc' := 136) at_134 rfl rfl ?_
          refine Go.ifF (pc' := 139) at_136 (show (0 : Int32) = (0 : Int32) by decide) rfl ?_
          refine Go.iload (pc' := 141) at_139 rfl rfl ?_
          refine Go.iload (pc' := 143) at_141 rfl rfl ?_
          refine Go.ifF (pc' := 146) at_143 (hi_117) rfl ?_
          refine Go.iconst (pc' := 147) 1 at_146 rfl rfl ?_
          refine Go.goto (pc' := 151) at_147 (by decide) (by decide) ?_
          refine Go.icmpF (pc' := 154) at_151 (show (1 : Int32) = (1 : Int32) by decide) rfl ?_
          refine Go.iload (pc' := 156) at_154 rfl rfl ?_
          refine Go.iload (pc' := 158) at_156 rfl rfl ?_
          refine Go.ifT (pc' := 165) at_158 (hi_139) (by decide) (by decide) ?_
          refine Go.iconst (pc' := 166) 0 at_165 rfl rfl ?_
          refine Go.icmpF (pc' := 169) at_166 (show (0 : Int32) = (0 : Int32) by decide) rfl ?_
          refine Go.iconst (pc' := 170) 1 at_169 rfl rfl ?_
          refine Go.goto (pc' := 174) at_170 (by decide) (by decide) ?_
          refine Go.retN (t := .boolean) (1 : Int32) rfl (by simp) rfl [] (fun _ q => nomatch q) at_174 (by decide) (by decide) ?_
          exact rfl
      · refine Go.re (pc' := 103) (L' := #[.val (.int p0), .val (.int p1), .val (.int p2), .val (.int p3), .val (.int p4), .val (.long p5), .second, .val (.int ((p0 &&& (2147483647 : Int32)) % (3 : Int32))), .val (.int ((p1 &&& (2147483647 : Int32)) % (3 : Int32))), .val (.ref a_1), .val (.ref a_85), .val (.ref o_E), .val (.ref r_98), .val (.ref r_99), .val (.ref a_100), .val (.int (0 : Int32)), .unset, .unset]) (S' := [(.ref o_NOT_LICENSED), (.ref a_100)]) rfl rfl rfl ?_
        refine Go.aload (pc' := 105) at_103 rfl rfl rfl ?_
        have F_194 : Fld Z h_101 o_NOT_LICENSED "java/lang/Enum" "ordinal" "I" (.int (1 : Int32)) := (Fld.ext E_102 (Fld.keep (Fld.keep (Fld.ext E_51 (Fld.ext E_40 (Fld.ext E_29 (Fld.ext E_18 (Fld.ext E_3 F_NOT_LICENSED_ordinal))))) K_79 (ninS (nne (by omega)) nin0)) K_86 nin0))
        have F_195 : Fld Z h_101 o_LICENSED "java/lang/Enum" "ordinal" "I" (.int (0 : Int32)) := (Fld.ext E_102 (Fld.keep (Fld.keep (Fld.ext E_51 (Fld.ext E_40 (Fld.ext E_29 (Fld.ext E_18 (Fld.ext E_3 F_LICENSED_ordinal))))) K_79 (ninS (nne (by omega)) nin0)) K_86 nin0))
        refine Go.callV (a1 := a0) (pc' := 108) (argsL := [(.ref o_NOT_LICENSED), (.ref r_98)]) (rest := []) (ct_psrN l Z a0 hw n0 h_101 a_100 r_98 o_LICENSED (0 : Int32) o_NOT_LICENSED (Fld.ne F_194 F_195 (by decide)) (by omega) F_118 X_104 F_106) at_105 (hw _ (List.mem_of_getElem? (i := 137) rfl)) (hw _ (List.mem_of_getElem? (i := 138) rfl)) (hw _ (List.mem_of_getElem? (i := 140) rfl)) (hw _ (List.mem_of_getElem? (i := 140) rfl)) (hw _ (List.mem_of_getElem? (i := 139) rfl)) (hw _ (List.mem_of_getElem? (i := 118) rfl)) (hw _ (List.mem_of_getElem? (i := 141) rfl)) X_104 (by decide) (lenOf pd__28Lcom_2fexample_2fcoat_check_2fcoatcheck_2fclient_2fReason_3bLjava_2futil_2fOptional_3b_29V rfl) rfl 0 rfl rfl (by decide) (by decide) (by decide) (by decide) (fun _ q => nomatch q) rfl (fun v_196 h_197 N_198 hQ_199 hle_200 => ?_)
        obtain ⟨rfl, K_191, X_192, F_193⟩ := hQ_199
        refine Go.re (pc' := 108) (L' := #[.val (.int p0), .val (.int p1), .val (.int p2), .val (.int p3), .val (.int p4), .val (.long p5), .second, .val (.int ((p0 &&& (2147483647 : Int32)) % (3 : Int32))), .val (.int ((p1 &&& (2147483647 : Int32)) % (3 : Int32))), .val (.ref a_1), .val (.ref a_85), .val (.ref o_E), .val (.ref r_98), .val (.ref r_99), .val (.ref a_100), .val (.int (0 : Int32)), .unset, .unset]) (S' := []) rfl rfl rfl ?_
        refine Go.aload (pc' := 110) at_108 rfl rfl rfl ?_
        refine Go.callV (a1 := a0) (pc' := 113) (argsL := []) (rest := []) (ct_allow l Z a0 hw n0 h_197 a_100 (0 : Int32) (by decide) F_193) at_110 (hw _ (List.mem_of_getElem? (i := 123) rfl)) (hw _ (List.mem_of_getElem? (i := 124) rfl)) (hw _ (List.mem_of_getElem? (i := 126) rfl)) (hw _ (List.mem_of_getElem? (i := 126) rfl)) (hw _ (List.mem_of_getElem? (i := 125) rfl)) (hw _ (List.mem_of_getElem? (i := 118) rfl)) (hw _ (List.mem_of_getElem? (i := 127) rfl)) X_192 (by decide) (lenOf pd__28_29Z rfl) rfl 0 rfl rfl (by decide) (by decide) (by decide) (by decide) (fun _ q => nomatch q) rfl (fun v_201 h_202 N_203 hQ_204 hle_205 => ?_)
        obtain ⟨rfl, rfl⟩ := hQ_204
        refine Go.re (pc' := 113) (L' := #[.val (.int p0), .val (.int p1), .val (.int p2), .val (.int p3), .val (.int p4), .val (.long p5), .second, .val (.int ((p0 &&& (2147483647 : Int32)) % (3 : Int32))), .val (.int ((p1 &&& (2147483647 : Int32)) % (3 : Int32))), .val (.ref a_1), .val (.ref a_85), .val (.ref o_E), .val (.ref r_98), .val (.ref r_99), .val (.ref a_100), .val (.int (0 : Int32)), .unset, .unset]) (S' := [(.int (0 : Int32))]) rfl rfl rfl ?_
        refine Go.istore (pc' := 115) #[.val (.int p0), .val (.int p1), .val (.int p2), .val (.int p3), .val (.int p4), .val (.long p5), .second, .val (.int ((p0 &&& (2147483647 : Int32)) % (3 : Int32))), .val (.int ((p1 &&& (2147483647 : Int32)) % (3 : Int32))), .val (.ref a_1), .val (.ref a_85), .val (.ref o_E), .val (.ref r_98), .val (.ref r_99), .val (.ref a_100), .val (.int (0 : Int32)), .val (.int (0 : Int32)), .unset] at_113 rfl rfl ?_
        refine Go.aload (pc' := 117) at_115 rfl rfl rfl ?_
        refine Go.iload (pc' := 119) at_117 rfl rfl ?_
        have F_207 : Sta Z h_197 "com/example/coat_check/coatcheck/client/Reason" "LICENSED" "Lcom/example/coat_check/coatcheck/client/Reason;" (.ref o_LICENSED) := (sta_keep F_118 K_191 (nsS (Exa.nostat X_104) ns0))
        have F_208 : Sta Z h_197 "com/example/coat_check/coatcheck/client/Reason" "NOT_LICENSED" "Lcom/example/coat_check/coatcheck/client/Reason;" (.ref o_NOT_LICENSED) := (sta_keep F_119 K_191 (nsS (Exa.nostat X_104) ns0))
        have F_209 : Sta Z h_197 "com/example/coat_check/coatcheck/client/Reason" "RETRY" "Lcom/example/coat_check/coatcheck/client/Reason;" (.ref o_RETRY) := (sta_keep F_120 K_191 (nsS (Exa.nostat X_104) ns0))
        refine Go.callS (a1 := a0) (pc' := 122) (argsL := [(.int ((p1 &&& (2147483647 : Int32)) % (3 : Int32)))]) (rest := [(.ref a_100)]) (ct_reason l Z a0 hw n0 h_197 ((p1 &&& (2147483647 : Int32)) % (3 : Int32)) o_LICENSED F_207 o_NOT_LICENSED F_208 o_RETRY F_209) at_119 (hw _ (List.mem_of_getElem? (i := 130) rfl)) (hw _ (List.mem_of_getElem? (i := 131) rfl)) (hw _ (List.mem_of_getElem? (i := 132) rfl)) (hw _ (List.mem_of_getElem? (i := 133) rfl)) (by decide) (lenOf pd__28I_29Lcom_2fexample_2fcoat_check_2fcoatcheck_2fclient_2fReason_3b rfl) rfl 1 rfl rfl (by decide) (by decide) (by decide) (by decide) (fun _ q => nomatch q) rfl (fun v_210 h_211 N_212 hQ_213 hle_214 => ?_)
        obtain ⟨rfl, hi_206⟩ := hQ_213
        rcases hi_206 with ⟨hi_206, rfl⟩ | ⟨hi_206, rfl⟩ | ⟨hi_206, rfl⟩
        · refine Go.re (pc' := 122) (L' := #[.val (.int p0), .val (.int p1), .val (.int p2), .val (.int p3), .val (.int p4), .val (.long p5), .second, .val (.int ((p0 &&& (2147483647 : Int32)) % (3 : Int32))), .val (.int ((p1 &&& (2147483647 : Int32)) % (3 : Int32))), .val (.ref a_1), .val (.ref a_85), .val (.ref o_E), .val (.ref r_98), .val (.ref r_99), .val (.ref a_100), .val (.int (0 : Int32)), .val (.int (0 : Int32)), .unset]) (S' := [(.ref o_LICENSED), (.ref a_100)]) rfl rfl rfl ?_
          refine Go.aload (pc' := 124) at_122 rfl rfl rfl ?_
          refine Go.callV (a1 := a0) (pc' := 127) (argsL := [(.ref o_LICENSED), (.ref r_99)]) (rest := []) (ct_psrY l Z a0 hw n0 h_197 a_100 r_99 o_LICENSED (0 : Int32) (by omega) F_207 X_192 F_193) at_124 (hw _ (List.mem_of_getElem? (i := 137) rfl)) (hw _ (List.mem_of_getElem? (i := 138) rfl)) (hw _ (List.mem_of_getElem? (i := 140) rfl)) (hw _ (List.mem_of_getElem? (i := 140) rfl)) (hw _ (List.mem_of_getElem? (i := 139) rfl)) (hw _ (List.mem_of_getElem? (i := 118) rfl)) (hw _ (List.mem_of_getElem? (i := 141) rfl)) X_192 (by decide) (lenOf pd__28Lcom_2fexample_2fcoat_check_2fcoatcheck_2fclient_2fReason_3bLjava_2futil_2fOptional_3b_29V rfl) rfl 0 rfl rfl (by decide) (by decide) (by decide) (by decide) (fun _ q => nomatch q) rfl (fun v_218 h_219 N_220 hQ_221 hle_222 => ?_)
          obtain ⟨rfl, K_215, X_216, F_217⟩ := hQ_221
          refine Go.re (pc' := 127) (L' := #[.val (.int p0), .val (.int p1), .val (.int p2), .val (.int p3), .val (.int p4), .val (.long p5), .second, .val (.int ((p0 &&& (2147483647 : Int32)) % (3 : Int32))), .val (.int ((p1 &&& (2147483647 : Int32)) % (3 : Int32))), .val (.ref a_1), .val (.ref a_85), .val (.ref o_E), .val (.ref r_98), .val (.ref r_99), .val (.ref a_100), .val (.int (0 : Int32)), .val (.int (0 : Int32)), .unset]) (S' := []) rfl rfl rfl ?_
          refine Go.aload (pc' := 129) at_127 rfl rfl rfl ?_
          refine Go.callV (a1 := a0) (pc' := 132) (argsL := []) (rest := []) (ct_allow l Z a0 hw n0 h_219 a_100 (1 : Int32) (by decide) F_217) at_129 (hw _ (List.mem_of_getElem? (i := 123) rfl)) (hw _ (List.mem_of_getElem? (i := 124) rfl)) (hw _ (List.mem_of_getElem? (i := 126) rfl)) (hw _ (List.mem_of_getElem? (i := 126) rfl)) (hw _ (List.mem_of_getElem? (i := 125) rfl)) (hw _ (List.mem_of_getElem? (i := 118) rfl)) (hw _ (List.mem_of_getElem? (i := 127) rfl)) X_216 (by decide) (lenOf pd__28_29Z rfl) rfl 0 rfl rfl (by decide) (by decide) (by decide) (by decide) (fun _ q => nomatch q) rfl (fun v_223 h_224 N_225 hQ_226 hle_227 => ?_)
          obtain ⟨rfl, rfl⟩ := hQ_226
          refine Go.re (pc' := 132) (L' := #[.val (.int p0), .val (.int p1), .val (.int p2), .val (.int p3), .val (.int p4), .val (.long p5), .second, .val (.int ((p0 &&& (2147483647 : Int32)) % (3 : Int32))), .val (.int ((p1 &&& (2147483647 : Int32)) % (3 : Int32))), .val (.ref a_1), .val (.ref a_85), .val (.ref o_E), .val (.ref r_98), .val (.ref r_99), .val (.ref a_100), .val (.int (0 : Int32)), .val (.int (0 : Int32)), .unset]) (S' := [(.int (1 : Int32))]) rfl rfl rfl ?_
          refine Go.istore (pc' := 134) #[.val (.int p0), .val (.int p1), .val (.int p2), .val (.int p3), .val (.int p4), .val (.long p5), .second, .val (.int ((p0 &&& (2147483647 : Int32)) % (3 : Int32))), .val (.int ((p1 &&& (2147483647 : Int32)) % (3 : Int32))), .val (.ref a_1), .val (.ref a_85), .val (.ref o_E), .val (.ref r_98), .val (.ref r_99), .val (.ref a_100), .val (.int (0 : Int32)), .val (.int (0 : Int32)), .val (.int (1 : Int32))] at_132 rfl rfl ?_
          refine Go.iload (pc' := 136) at_134 rfl rfl ?_
          refine Go.ifF (pc' := 139) at_136 (show (0 : Int32) = (0 : Int32) by decide) rfl ?_
          refine Go.iload (pc' := 141) at_139 rfl rfl ?_
          refine Go.iload (pc' := 143) at_141 rfl rfl ?_
          refine Go.ifT (pc' := 150) at_143 (hi_117) (by decide) (by decide) ?_
          refine Go.iconst (pc' := 151) 0 at_150 rfl rfl ?_
          refine Go.icmpF (pc' := 154) at_151 (show (0 : Int32) = (0 : Int32) by decide) rfl ?_
          refine Go.iload (pc' := 156) at_154 rfl rfl ?_
          refine Go.iload (pc' := 158) at_156 rfl rfl ?_
          refine Go.ifF (pc' := 161) at_158 (hi_206) rfl ?_
          refine Go.iconst (pc' := 162) 1 at_161 rfl rfl ?_
          refine Go.goto (pc' := 166) at_162 (by decide) (by decide) ?_
          refine Go.icmpF (pc' := 169) at_166 (show (1 : Int32) = (1 : Int32) by decide) rfl ?_
          refine Go.iconst (pc' := 170) 1 at_169 rfl rfl ?_
          refine Go.goto (pc' := 174) at_170 (by decide) (by decide) ?_
          refine Go.retN (t := .boolean) (1 : Int32) rfl (by simp) rfl [] (fun _ q => nomatch q) at_174 (by decide) (by decide) ?_
          exact rfl
        · refine Go.re (pc' := 122) (L' := #[.val (.int p0), .val (.int p1), .val (.int p2), .val (.int p3), .val (.int p4), .val (.long p5), .second, .val (.int ((p0 &&& (2147483647 : Int32)) % (3 : Int32))), .val (.int ((p1 &&& (2147483647 : Int32)) % (3 : Int32))), .val (.ref a_1), .val (.ref a_85), .val (.ref o_E), .val (.ref r_98), .val (.ref r_99), .val (.ref a_100), .val (.int (0 : Int32)), .val (.int (0 : Int32)), .unset]) (S' := [(.ref o_NOT_LICENSED), (.ref a_100)]) rfl rfl rfl ?_
          refine Go.aload (pc' := 124) at_122 rfl rfl rfl ?_
          have F_231 : Fld Z h_197 o_NOT_LICENSED "java/lang/Enum" "ordinal" "I" (.int (1 : Int32)) := (Fld.keep F_194 K_191 (ninS (nne (by omega)) nin0))
          have F_232 : Fld Z h_197 o_LICENSED "java/lang/Enum" "ordinal" "I" (.int (0 : Int32)) := (Fld.keep F_195 K_191 (ninS (nne (by omega)) nin0))
          refine Go.callV (a1 := a0) (pc' := 127) (argsL := [(.ref o_NOT_LICENSED), (.ref r_99)]) (rest := []) (ct_psrN l Z a0 hw n0 h_197 a_100 r_99 o_LICENSED (0 : Int32) o_NOT_LICENSED (Fld.ne F_231 F_232 (by decide)) (by omega) F_207 X_192 F_193) at_124 (hw _ (List.mem_of_getElem? (i := 137) rfl)) (hw _ (List.mem_of_getElem? (i := 138) rfl)) (hw _ (List.mem_of_getElem? (i := 140) rfl)) (hw _ (List.mem_of_getElem? (i := 140) rfl)) (hw _ (List.mem_of_getElem? (i := 139) rfl)) (hw _ (List.mem_of_getElem? (i := 118) rfl)) (hw _ (List.mem_of_getElem? (i := 141) rfl)) X_192 (by decide) (lenOf pd__28Lcom_2fexample_2fcoat_check_2fcoatcheck_2fclient_2fReason_3bLjava_2futil_2fOptional_3b_29V rfl) rfl 0 rfl rfl (by decide) (by decide) (by decide) (by decide) (fun _ q => nomatch q) rfl (fun v_233 h_234 N_235 hQ_236 hle_237 => ?_)
          obtain ⟨rfl, K_228, X_229, F_230⟩ := hQ_236
          refine Go.re (pc' := 127) (L' := #[.val (.int p0), .val (.int p1), .val (.int p2), .val (.int p3), .val (.int p4), .val (.long p5), .second, .val (.int ((p0 &&& (2147483647 : Int32)) % (3 : Int32))), .val (.int ((p1 &&& (2147483647 : Int32)) % (3 : Int32))), .val (.ref a_1), .val (.ref a_85), .val (.ref o_E), .val (.ref r_98), .val (.ref r_99), .val (.ref a_100), .val (.int (0 : Int32)), .val (.int (0 : Int32)), .unset]) (S' := []) rfl rfl rfl ?_
          refine Go.aload (pc' := 129) at_127 rfl rfl rfl ?_
          refine Go.callV (a1 := a0) (pc' := 132) (argsL := []) (rest := []) (ct_allow l Z a0 hw n0 h_234 a_100 (0 : Int32) (by decide) F_230) at_129 (hw _ (List.mem_of_getElem? (i := 123) rfl)) (hw _ (List.mem_of_getElem? (i := 124) rfl)) (hw _ (List.mem_of_getElem? (i := 126) rfl)) (hw _ (List.mem_of_getElem? (i := 126) rfl)) (hw _ (List.mem_of_getElem? (i := 125) rfl)) (hw _ (List.mem_of_getElem? (i := 118) rfl)) (hw _ (List.mem_of_getElem? (i := 127) rfl)) X_229 (by decide) (lenOf pd__28_29Z rfl) rfl 0 rfl rfl (by decide) (by decide) (by decide) (by decide) (fun _ q => nomatch q) rfl (fun v_238 h_239 N_240 hQ_241 hle_242 => ?_)
          obtain ⟨rfl, rfl⟩ := hQ_241
          refine Go.re (pc' := 132) (L' := #[.val (.int p0), .val (.int p1), .val (.int p2), .val (.int p3), .val (.int p4), .val (.long p5), .second, .val (.int ((p0 &&& (2147483647 : Int32)) % (3 : Int32))), .val (.int ((p1 &&& (2147483647 : Int32)) % (3 : Int32))), .val (.ref a_1), .val (.ref a_85), .val (.ref o_E), .val (.ref r_98), .val (.ref r_99), .val (.ref a_100), .val (.int (0 : Int32)), .val (.int (0 : Int32)), .unset]) (S' := [(.int (0 : Int32))]) rfl rfl rfl ?_
          refine Go.istore (pc' := 134) #[.val (.int p0), .val (.int p1), .val (.int p2), .val (.int p3), .val (.int p4), .val (.long p5), .second, .val (.int ((p0 &&& (2147483647 : Int32)) % (3 : Int32))), .val (.int ((p1 &&& (2147483647 : Int32)) % (3 : Int32))), .val (.ref a_1), .val (.ref a_85), .val (.ref o_E), .val (.ref r_98), .val (.ref r_99), .val (.ref a_100), .val (.int (0 : Int32)), .val (.int (0 : Int32)), .val (.int (0 : Int32))] at_132 rfl rfl ?_
          refine Go.iload (pc' := 136) at_134 rfl rfl ?_
          refine Go.ifF (pc' := 139) at_136 (show (0 : Int32) = (0 : Int32) by decide) rfl ?_
          refine Go.iload (pc' := 141) at_139 rfl rfl ?_
          refine Go.iload (pc' := 143) at_141 rfl rfl ?_
          refine Go.ifT (pc' := 150) at_143 (hi_117) (by decide) (by decide) ?_
          refine Go.iconst (pc' := 151) 0 at_150 rfl rfl ?_
          refine Go.icmpF (pc' := 154) at_151 (show (0 : Int32) = (0 : Int32) by decide) rfl ?_
          refine Go.iload (pc' := 156) at_154 rfl rfl ?_
          refine Go.iload (pc' := 158) at_156 rfl rfl ?_
          refine Go.ifT (pc' := 165) at_158 (hi_206) (by decide) (by decide) ?_
          refine Go.iconst (pc' := 166) 0 at_165 rfl rfl ?_
          refine Go.icmpF (pc' := 169) at_166 (show (0 : Int32) = (0 : Int32) by decide) rfl ?_
          refine Go.iconst (pc' := 170) 1 at_169 rfl rfl ?_
          refine Go.goto (pc' := 174) at_170 (by decide) (by decide) ?_
          refine Go.retN (t := .boolean) (1 : Int32) rfl (by simp) rfl [] (fun _ q => nomatch q) at_174 (by decide) (by decide) ?_
          exact rfl
        · refine Go.re (pc' := 122) (L' := #[.val (.int p0), .val (.int p1), .val (.int p2), .val (.int p3), .val (.int p4), .val (.long p5), .second, .val (.int ((p0 &&& (2147483647 : Int32)) % (3 : Int32))), .val (.int ((p1 &&& (2147483647 : Int32)) % (3 : Int32))), .val (.ref a_1), .val (.ref a_85), .val (.ref o_E), .val (.ref r_98), .val (.ref r_99), .val (.ref a_100), .val (.int (0 : Int32)), .val (.int (0 : Int32)), .unset]) (S' := [(.ref o_RETRY), (.ref a_100)]) rfl rfl rfl ?_
          refine Go.aload (pc' := 124) at_122 rfl rfl rfl ?_
          have F_246 : Fld Z h_197 o_RETRY "java/lang/Enum" "ordinal" "I" (.int (2 : Int32)) := (Fld.keep (Fld.ext E_102 (Fld.keep (Fld.keep (Fld.ext E_51 (Fld.ext E_40 (Fld.ext E_29 (Fld.ext E_18 (Fld.ext E_3 F_RETRY_ordinal))))) K_79 (ninS (nne (by omega)) nin0)) K_86 nin0)) K_191 (ninS (nne (by omega)) nin0))
          have F_247 : Fld Z h_197 o_LICENSED "java/lang/Enum" "ordinal" "I" (.int (0 : Int32)) := (Fld.keep F_195 K_191 (ninS (nne (by omega)) nin0))
          refine Go.callV (a1 := a0) (pc' := 127) (argsL := [(.ref o_RETRY), (.ref r_99)]) (rest := []) (ct_psrN l Z a0 hw n0 h_197 a_100 r_99 o_LICENSED (0 : Int32) o_RETRY (Fld.ne F_246 F_247 (by decide)) (by omega) F_207 X_192 F_193) at_124 (hw _ (List.mem_of_getElem? (i := 137) rfl)) (hw _ (List.mem_of_getElem? (i := 138) rfl)) (hw _ (List.mem_of_getElem? (i := 140) rfl)) (hw _ (List.mem_of_getElem? (i := 140) rfl)) (hw _ (List.mem_of_getElem? (i := 139) rfl)) (hw _ (List.mem_of_getElem? (i := 118) rfl)) (hw _ (List.mem_of_getElem? (i := 141) rfl)) X_192 (by decide) (lenOf pd__28Lcom_2fexample_2fcoat_check_2fcoatcheck_2fclient_2fReason_3bLjava_2futil_2fOptional_3b_29V rfl) rfl 0 rfl rfl (by decide) (by decide) (by decide) (by decide) (fun _ q => nomatch q) rfl (fun v_248 h_249 N_250 hQ_251 hle_252 => ?_)
          obtain ⟨rfl, K_243, X_244, F_245⟩ := hQ_251
          refine Go.re (pc' := 127) (L' := #[.val (.int p0), .val (.int p1), .val (.int p2), .val (.int p3), .val (.int p4), .val (.long p5), .second, .val (.int ((p0 &&& (2147483647 : Int32)) % (3 : Int32))), .val (.int ((p1 &&& (2147483647 : Int32)) % (3 : Int32))), .val (.ref a_1), .val (.ref a_85), .val (.ref o_E), .val (.ref r_98), .val (.ref r_99), .val (.ref a_100), .val (.int (0 : Int32)), .val (.int (0 : Int32)), .unset]) (S' := []) rfl rfl rfl ?_
          refine Go.aload (pc' := 129) at_127 rfl rfl rfl ?_
          refine Go.callV (a1 := a0) (pc' := 132) (argsL := []) (rest := []) (ct_allow l Z a0 hw n0 h_249 a_100 (0 : Int32) (by decide) F_245) at_129 (hw _ (List.mem_of_getElem? (i := 123) rfl)) (hw _ (List.mem_of_getElem? (i := 124) rfl)) (hw _ (List.mem_of_getElem? (i := 126) rfl)) (hw _ (List.mem_of_getElem? (i := 126) rfl)) (hw _ (List.mem_of_getElem? (i := 125) rfl)) (hw _ (List.mem_of_getElem? (i := 118) rfl)) (hw _ (List.mem_of_getElem? (i := 127) rfl)) X_244 (by decide) (lenOf pd__28_29Z rfl) rfl 0 rfl rfl (by decide) (by decide) (by decide) (by decide) (fun _ q => nomatch q) rfl (fun v_253 h_254 N_255 hQ_256 hle_257 => ?_)
          obtain ⟨rfl, rfl⟩ := hQ_256
          refine Go.re (pc' := 132) (L' := #[.val (.int p0), .val (.int p1), .val (.int p2), .val (.int p3), .val (.int p4), .val (.long p5), .second, .val (.int ((p0 &&& (2147483647 : Int32)) % (3 : Int32))), .val (.int ((p1 &&& (2147483647 : Int32)) % (3 : Int32))), .val (.ref a_1), .val (.ref a_85), .val (.ref o_E), .val (.ref r_98), .val (.ref r_99), .val (.ref a_100), .val (.int (0 : Int32)), .val (.int (0 : Int32)), .unset]) (S' := [(.int (0 : Int32))]) rfl rfl rfl ?_
          refine Go.istore (pc' := 134) #[.val (.int p0), .val (.int p1), .val (.int p2), .val (.int p3), .val (.int p4), .val (.long p5), .second, .val (.int ((p0 &&& (2147483647 : Int32)) % (3 : Int32))), .val (.int ((p1 &&& (2147483647 : Int32)) % (3 : Int32))), .val (.ref a_1), .val (.ref a_85), .val (.ref o_E), .val (.ref r_98), .val (.ref r_99), .val (.ref a_100), .val (.int (0 : Int32)), .val (.int (0 : Int32)), .val (.int (0 : Int32))] at_132 rfl rfl ?_
          refine Go.iload (pc' := 136) at_134 rfl rfl ?_
          refine Go.ifF (pc' := 139) at_136 (show (0 : Int32) = (0 : Int32) by decide) rfl ?_
          refine Go.iload (pc' := 141) at_139 rfl rfl ?_
          refine Go.iload (pc' := 143) at_141 rfl rfl ?_
          refine Go.ifT (pc' := 150) at_143 (hi_117) (by decide) (by decide) ?_
          refine Go.iconst (pc' := 151) 0 at_150 rfl rfl ?_
          refine Go.icmpF (pc' := 154) at_151 (show (0 : Int32) = (0 : Int32) by decide) rfl ?_
          refine Go.iload (pc' := 156) at_154 rfl rfl ?_
          refine Go.iload (pc' := 158) at_156 rfl rfl ?_
          refine Go.ifT (pc' := 165) at_158 (hi_206) (by decide) (by decide) ?_
          refine Go.iconst (pc' := 166) 0 at_165 rfl rfl ?_
          refine Go.icmpF (pc' := 169) at_166 (show (0 : Int32) = (0 : Int32) by decide) rfl ?_
          refine Go.iconst (pc' := 170) 1 at_169 rfl rfl ?_
          refine Go.goto (pc' := 174) at_170 (by decide) (by decide) ?_
          refine Go.retN (t := .boolean) (1 : Int32) rfl (by simp) rfl [] (fun _ q => nomatch q) at_174 (by decide) (by decide) ?_
          exact rfl
      · refine Go.re (pc' := 103) (L' := #[.val (.int p0), .val (.int p1), .val (.int p2), .val (.int p3), .val (.int p4), .val (.long p5), .second, .val (.int ((p0 &&& (2147483647 : Int32)) % (3 : Int32))), .val (.int ((p1 &&& (2147483647 : Int32)) % (3 : Int32))), .val (.ref a_1), .val (.ref a_85), .val (.ref o_E), .val (.ref r_98), .val (.ref r_99), .val (.ref a_100), .val (.int (0 : Int32)), .unset, .unset]) (S' := [(.ref o_RETRY), (.ref a_100)]) rfl rfl rfl ?_
        refine Go.aload (pc' := 105) at_103 rfl rfl rfl ?_
        have F_261 : Fld Z h_101 o_RETRY "java/lang/Enum" "ordinal" "I" (.int (2 : Int32)) := (Fld.ext E_102 (Fld.keep (Fld.keep (Fld.ext E_51 (Fld.ext E_40 (Fld.ext E_29 (Fld.ext E_18 (Fld.ext E_3 F_RETRY_ordinal))))) K_79 (ninS (nne (by omega)) nin0)) K_86 nin0))
        have F_262 : Fld Z h_101 o_LICENSED "java/lang/Enum" "ordinal" "I" (.int (0 : Int32)) := (Fld.ext E_102 (Fld.keep (Fld.keep (Fld.ext E_51 (Fld.ext E_40 (Fld.ext E_29 (Fld.ext E_18 (Fld.ext E_3 F_LICENSED_ordinal))))) K_79 (ninS (nne (by omega)) nin0)) K_86 nin0))
        refine Go.callV (a1 := a0) (pc' := 108) (argsL := [(.ref o_RETRY), (.ref r_98)]) (rest := []) (ct_psrN l Z a0 hw n0 h_101 a_100 r_98 o_LICENSED (0 : Int32) o_RETRY (Fld.ne F_261 F_262 (by decide)) (by omega) F_118 X_104 F_106) at_105 (hw _ (List.mem_of_getElem? (i := 137) rfl)) (hw _ (List.mem_of_getElem? (i := 138) rfl)) (hw _ (List.mem_of_getElem? (i := 140) rfl)) (hw _ (List.mem_of_getElem? (i := 140) rfl)) (hw _ (List.mem_of_getElem? (i := 139) rfl)) (hw _ (List.mem_of_getElem? (i := 118) rfl)) (hw _ (List.mem_of_getElem? (i := 141) rfl)) X_104 (by decide) (lenOf pd__28Lcom_2fexample_2fcoat_check_2fcoatcheck_2fclient_2fReason_3bLjava_2futil_2fOptional_3b_29V rfl) rfl 0 rfl rfl (by decide) (by decide) (by decide) (by decide) (fun _ q => nomatch q) rfl (fun v_263 h_264 N_265 hQ_266 hle_267 => ?_)
        obtain ⟨rfl, K_258, X_259, F_260⟩ := hQ_266
        refine Go.re (pc' := 108) (L' := #[.val (.int p0), .val (.int p1), .val (.int p2), .val (.int p3), .val (.int p4), .val (.long p5), .second, .val (.int ((p0 &&& (2147483647 : Int32)) % (3 : Int32))), .val (.int ((p1 &&& (2147483647 : Int32)) % (3 : Int32))), .val (.ref a_1), .val (.ref a_85), .val (.ref o_E), .val (.ref r_98), .val (.ref r_99), .val (.ref a_100), .val (.int (0 : Int32)), .unset, .unset]) (S' := []) rfl rfl rfl ?_
        refine Go.aload (pc' := 110) at_108 rfl rfl rfl ?_
        refine Go.callV (a1 := a0) (pc' := 113) (argsL := []) (rest := []) (ct_allow l Z a0 hw n0 h_264 a_100 (0 : Int32) (by decide) F_260) at_110 (hw _ (List.mem_of_getElem? (i := 123) rfl)) (hw _ (List.mem_of_getElem? (i := 124) rfl)) (hw _ (List.mem_of_getElem? (i := 126) rfl)) (hw _ (List.mem_of_getElem? (i := 126) rfl)) (hw _ (List.mem_of_getElem? (i := 125) rfl)) (hw _ (List.mem_of_getElem? (i := 118) rfl)) (hw _ (List.mem_of_getElem? (i := 127) rfl)) X_259 (by decide) (lenOf pd__28_29Z rfl) rfl 0 rfl rfl (by decide) (by decide) (by decide) (by decide) (fun _ q => nomatch q) rfl (fun v_268 h_269 N_270 hQ_271 hle_272 => ?_)
        obtain ⟨rfl, rfl⟩ := hQ_271
        refine Go.re (pc' := 113) (L' := #[.val (.int p0), .val (.int p1), .val (.int p2), .val (.int p3), .val (.int p4), .val (.long p5), .second, .val (.int ((p0 &&& (2147483647 : Int32)) % (3 : Int32))), .val (.int ((p1 &&& (2147483647 : Int32)) % (3 : Int32))), .val (.ref a_1), .val (.ref a_85), .val (.ref o_E), .val (.ref r_98), .val (.ref r_99), .val (.ref a_100), .val (.int (0 : Int32)), .unset, .unset]) (S' := [(.int (0 : Int32))]) rfl rfl rfl ?_
        refine Go.istore (pc' := 115) #[.val (.int p0), .val (.int p1), .val (.int p2), .val (.int p3), .val (.int p4), .val (.long p5), .second, .val (.int ((p0 &&& (2147483647 : Int32)) % (3 : Int32))), .val (.int ((p1 &&& (2147483647 : Int32)) % (3 : Int32))), .val (.ref a_1), .val (.ref a_85), .val (.ref o_E), .val (.ref r_98), .val (.ref r_99), .val (.ref a_100), .val (.int (0 : Int32)), .val (.int (0 : Int32)), .unset] at_113 rfl rfl ?_
        refine Go.aload (pc' := 117) at_115 rfl rfl rfl ?_
        refine Go.iload (pc' := 119) at_117 rfl rfl ?_
        have F_274 : Sta Z h_264 "com/example/coat_check/coatcheck/client/Reason" "LICENSED" "Lcom/example/coat_check/coatcheck/client/Reason;" (.ref o_LICENSED) := (sta_keep F_118 K_258 (nsS (Exa.nostat X_104) ns0))
        have F_275 : Sta Z h_264 "com/example/coat_check/coatcheck/client/Reason" "NOT_LICENSED" "Lcom/example/coat_check/coatcheck/client/Reason;" (.ref o_NOT_LICENSED) := (sta_keep F_119 K_258 (nsS (Exa.nostat X_104) ns0))
        have F_276 : Sta Z h_264 "com/example/coat_check/coatcheck/client/Reason" "RETRY" "Lcom/example/coat_check/coatcheck/client/Reason;" (.ref o_RETRY) := (sta_keep F_120 K_258 (nsS (Exa.nostat X_104) ns0))
        refine Go.callS (a1 := a0) (pc' := 122) (argsL := [(.int ((p1 &&& (2147483647 : Int32)) % (3 : Int32)))]) (rest := [(.ref a_100)]) (ct_reason l Z a0 hw n0 h_264 ((p1 &&& (2147483647 : Int32)) % (3 : Int32)) o_LICENSED F_274 o_NOT_LICENSED F_275 o_RETRY F_276) at_119 (hw _ (List.mem_of_getElem? (i := 130) rfl)) (hw _ (List.mem_of_getElem? (i := 131) rfl)) (hw _ (List.mem_of_getElem? (i := 132) rfl)) (hw _ (List.mem_of_getElem? (i := 133) rfl)) (by decide) (lenOf pd__28I_29Lcom_2fexample_2fcoat_check_2fcoatcheck_2fclient_2fReason_3b rfl) rfl 1 rfl rfl (by decide) (by decide) (by decide) (by decide) (fun _ q => nomatch q) rfl (fun v_277 h_278 N_279 hQ_280 hle_281 => ?_)
        obtain ⟨rfl, hi_273⟩ := hQ_280
        rcases hi_273 with ⟨hi_273, rfl⟩ | ⟨hi_273, rfl⟩ | ⟨hi_273, rfl⟩
        · refine Go.re (pc' := 122) (L' := #[.val (.int p0), .val (.int p1), .val (.int p2), .val (.int p3), .val (.int p4), .val (.long p5), .second, .val (.int ((p0 &&& (2147483647 : Int32)) % (3 : Int32))), .val (.int ((p1 &&& (2147483647 : Int32)) % (3 : Int32))), .val (.ref a_1), .val (.ref a_85), .val (.ref o_E), .val (.ref r_98), .val (.ref r_99), .val (.ref a_100), .val (.int (0 : Int32)), .val (.int (0 : Int32)), .unset]) (S' := [(.ref o_LICENSED), (.ref a_100)]) rfl rfl rfl ?_
          refine Go.aload (pc' := 124) at_122 rfl rfl rfl ?_
          refine Go.callV (a1 := a0) (pc' := 127) (argsL := [(.ref o_LICENSED), (.ref r_99)]) (rest := []) (ct_psrY l Z a0 hw n0 h_264 a_100 r_99 o_LICENSED (0 : Int32) (by omega) F_274 X_259 F_260) at_124 (hw _ (List.mem_of_getElem? (i := 137) rfl)) (hw _ (List.mem_of_getElem? (i := 138) rfl)) (hw _ (List.mem_of_getElem? (i := 140) rfl)) (hw _ (List.mem_of_getElem? (i := 140) rfl)) (hw _ (List.mem_of_getElem? (i := 139) rfl)) (hw _ (List.mem_of_getElem? (i := 118) rfl)) (hw _ (List.mem_of_getElem? (i := 141) rfl)) X_259 (by decide) (lenOf pd__28Lcom_2fexample_2fcoat_check_2fcoatcheck_2fclient_2fReason_3bLjava_2futil_2fOptional_3b_29V rfl) rfl 0 rfl rfl (by decide) (by decide) (by decide) (by decide) (fun _ q => nomatch q) rfl (fun v_285 h_286 N_287 hQ_288 hle_289 => ?_)
          obtain ⟨rfl, K_282, X_283, F_284⟩ := hQ_288
          refine Go.re (pc' := 127) (L' := #[.val (.int p0), .val (.int p1), .val (.int p2), .val (.int p3), .val (.int p4), .val (.long p5), .second, .val (.int ((p0 &&& (2147483647 : Int32)) % (3 : Int32))), .val (.int ((p1 &&& (2147483647 : Int32)) % (3 : Int32))), .val (.ref a_1), .val (.ref a_85), .val (.ref o_E), .val (.ref r_98), .val (.ref r_99), .val (.ref a_100), .val (.int (0 : Int32)), .val (.int (0 : Int32)), .unset]) (S' := []) rfl rfl rfl ?_
          refine Go.aload (pc' := 129) at_127 rfl rfl rfl ?_
          refine Go.callV (a1 := a0) (pc' := 132) (argsL := []) (rest := []) (ct_allow l Z a0 hw n0 h_286 a_100 (1 : Int32) (by decide) F_284) at_129 (hw _ (List.mem_of_getElem? (i := 123) rfl)) (hw _ (List.mem_of_getElem? (i := 124) rfl)) (hw _ (List.mem_of_getElem? (i := 126) rfl)) (hw _ (List.mem_of_getElem? (i := 126) rfl)) (hw _ (List.mem_of_getElem? (i := 125) rfl)) (hw _ (List.mem_of_getElem? (i := 118) rfl)) (hw _ (List.mem_of_getElem? (i := 127) rfl)) X_283 (by decide) (lenOf pd__28_29Z rfl) rfl 0 rfl rfl (by decide) (by decide) (by decide) (by decide) (fun _ q => nomatch q) rfl (fun v_290 h_291 N_292 hQ_293 hle_294 => ?_)
          obtain ⟨rfl, rfl⟩ := hQ_293
          refine Go.re (pc' := 132) (L' := #[.val (.int p0), .val (.int p1), .val (.int p2), .val (.int p3), .val (.int p4), .val (.long p5), .second, .val (.int ((p0 &&& (2147483647 : Int32)) % (3 : Int32))), .val (.int ((p1 &&& (2147483647 : Int32)) % (3 : Int32))), .val (.ref a_1), .val (.ref a_85), .val (.ref o_E), .val (.ref r_98), .val (.ref r_99), .val (.ref a_100), .val (.int (0 : Int32)), .val (.int (0 : Int32)), .unset]) (S' := [(.int (1 : Int32))]) rfl rfl rfl ?_
          refine Go.istore (pc' := 134) #[.val (.int p0), .val (.int p1), .val (.int p2), .val (.int p3), .val (.int p4), .val (.long p5), .second, .val (.int ((p0 &&& (2147483647 : Int32)) % (3 : Int32))), .val (.int ((p1 &&& (2147483647 : Int32)) % (3 : Int32))), .val (.ref a_1), .val (.ref a_85), .val (.ref o_E), .val (.ref r_98), .val (.ref r_99), .val (.ref a_100), .val (.int (0 : Int32)), .val (.int (0 : Int32)), .val (.int (1 : Int32))] at_132 rfl rfl ?_
          refine Go.iload (pc' := 136) at_134 rfl rfl ?_
          refine Go.ifF (pc' := 139) at_136 (show (0 : Int32) = (0 : Int32) by decide) rfl ?_
          refine Go.iload (pc' := 141) at_139 rfl rfl ?_
          refine Go.iload (pc' := 143) at_141 rfl rfl ?_
          refine Go.ifT (pc' := 150) at_143 (hi_117) (by decide) (by decide) ?_
          refine Go.iconst (pc' := 151) 0 at_150 rfl rfl ?_
          refine Go.icmpF (pc' := 154) at_151 (show (0 : Int32) = (0 : Int32) by decide) rfl ?_
          refine Go.iload (pc' := 156) at_154 rfl rfl ?_
          refine Go.iload (pc' := 158) at_156 rfl rfl ?_
          refine Go.ifF (pc' := 161) at_158 (hi_273) rfl ?_
          refine Go.iconst (pc' := 162) 1 at_161 rfl rfl ?_
          refine Go.goto (pc' := 166) at_162 (by decide) (by decide) ?_
          refine Go.icmpF (pc' := 169) at_166 (show (1 : Int32) = (1 : Int32) by decide) rfl ?_
          refine Go.iconst (pc' := 170) 1 at_169 rfl rfl ?_
          refine Go.goto (pc' := 174) at_170 (by decide) (by decide) ?_
          refine Go.retN (t := .boolean) (1 : Int32) rfl (by simp) rfl [] (fun _ q => nomatch q) at_174 (by decide) (by decide) ?_
          exact rfl
        · refine Go.re (pc' := 122) (L' := #[.val (.int p0), .val (.int p1), .val (.int p2), .val (.int p3), .val (.int p4), .val (.long p5), .second, .val (.int ((p0 &&& (2147483647 : Int32)) % (3 : Int32))), .val (.int ((p1 &&& (2147483647 : Int32)) % (3 : Int32))), .val (.ref a_1), .val (.ref a_85), .val (.ref o_E), .val (.ref r_98), .val (.ref r_99), .val (.ref a_100), .val (.int (0 : Int32)), .val (.int (0 : Int32)), .unset]) (S' := [(.ref o_NOT_LICENSED), (.ref a_100)]) rfl rfl rfl ?_
          refine Go.aload (pc' := 124) at_122 rfl rfl rfl ?_
          have F_298 : Fld Z h_264 o_NOT_LICENSED "java/lang/Enum" "ordinal" "I" (.int (1 : Int32)) := (Fld.keep (Fld.ext E_102 (Fld.keep (Fld.keep (Fld.ext E_51 (Fld.ext E_40 (Fld.ext E_29 (Fld.ext E_18 (Fld.ext E_3 F_NOT_LICENSED_ordinal))))) K_79 (ninS (nne (by omega)) nin0)) K_86 nin0)) K_258 (ninS (nne (by omega)) nin0))
          have F_299 : Fld Z h_264 o_LICENSED "java/lang/Enum" "ordinal" "I" (.int (0 : Int32)) := (Fld.keep F_262 K_258 (ninS (nne (by omega)) nin0))
          refine Go.callV (a1 := a0) (pc' := 127) (argsL := [(.ref o_NOT_LICENSED), (.ref r_99)]) (rest := []) (ct_psrN l Z a0 hw n0 h_264 a_100 r_99 o_LICENSED (0 : Int32) o_NOT_LICENSED (Fld.ne F_298 F_299 (by decide)) (by omega) F_274 X_259 F_260) at_124 (hw _ (List.mem_of_getElem? (i := 137) rfl)) (hw _ (List.mem_of_getElem? (i := 138) rfl)) (hw _ (List.mem_of_getElem? (i := 140) rfl)) (hw _ (List.mem_of_getElem? (i := 140) rfl)) (hw _ (List.mem_of_getElem? (i := 139) rfl)) (hw _ (List.mem_of_getElem? (i := 118) rfl)) (hw _ (List.mem_of_getElem? (i := 141) rfl)) X_259 (by decide) (lenOf pd__28Lcom_2fexample_2fcoat_check_2fcoatcheck_2fclient_2fReason_3bLjava_2futil_2fOptional_3b_29V rfl) rfl 0 rfl rfl (by decide) (by decide) (by decide) (by decide) (fun _ q => nomatch q) rfl (fun v_300 h_301 N_302 hQ_303 hle_304 => ?_)
          obtain ⟨rfl, K_295, X_296, F_297⟩ := hQ_303
          refine Go.re (pc' := 127) (L' := #[.val (.int p0), .val (.int p1), .val (.int p2), .val (.int p3), .val (.int p4), .val (.long p5), .second, .val (.int ((p0 &&& (2147483647 : Int32)) % (3 : Int32))), .val (.int ((p1 &&& (2147483647 : Int32)) % (3 : Int32))), .val (.ref a_1), .val (.ref a_85), .val (.ref o_E), .val (.ref r_98), .val (.ref r_99), .val (.ref a_100), .val (.int (0 : Int32)), .val (.int (0 : Int32)), .unset]) (S' := []) rfl rfl rfl ?_
          refine Go.aload (pc' := 129) at_127 rfl rfl rfl ?_
          refine Go.callV (a1 := a0) (pc' := 132) (argsL := []) (rest := []) (ct_allow l Z a0 hw n0 h_301 a_100 (0 : Int32) (by decide) F_297) at_129 (hw _ (List.mem_of_getElem? (i := 123) rfl)) (hw _ (List.mem_of_getElem? (i := 124) rfl)) (hw _ (List.mem_of_getElem? (i := 126) rfl)) (hw _ (List.mem_of_getElem? (i := 126) rfl)) (hw _ (List.mem_of_getElem? (i := 125) rfl)) (hw _ (List.mem_of_getElem? (i := 118) rfl)) (hw _ (List.mem_of_getElem? (i := 127) rfl)) X_296 (by decide) (lenOf pd__28_29Z rfl) rfl 0 rfl rfl (by decide) (by decide) (by decide) (by decide) (fun _ q => nomatch q) rfl (fun v_305 h_306 N_307 hQ_308 hle_309 => ?_)
          obtain ⟨rfl, rfl⟩ := hQ_308
          refine Go.re (pc' := 132) (L' := #[.val (.int p0), .val (.int p1), .val (.int p2), .val (.int p3), .val (.int p4), .val (.long p5), .second, .val (.int ((p0 &&& (2147483647 : Int32)) % (3 : Int32))), .val (.int ((p1 &&& (2147483647 : Int32)) % (3 : Int32))), .val (.ref a_1), .val (.ref a_85), .val (.ref o_E), .val (.ref r_98), .val (.ref r_99), .val (.ref a_100), .val (.int (0 : Int32)), .val (.int (0 : Int32)), .unset]) (S' := [(.int (0 : Int32))]) rfl rfl rfl ?_
          refine Go.istore (pc' := 134) #[.val (.int p0), .val (.int p1), .val (.int p2), .val (.int p3), .val (.int p4), .val (.long p5), .second, .val (.int ((p0 &&& (2147483647 : Int32)) % (3 : Int32))), .val (.int ((p1 &&& (2147483647 : Int32)) % (3 : Int32))), .val (.ref a_1), .val (.ref a_85), .val (.ref o_E), .val (.ref r_98), .val (.ref r_99), .val (.ref a_100), .val (.int (0 : Int32)), .val (.int (0 : Int32)), .val (.int (0 : Int32))] at_132 rfl rfl ?_
          refine Go.iload (pc' := 136) at_134 rfl rfl ?_
          refine Go.ifF (pc' := 139) at_136 (show (0 : Int32) = (0 : Int32) by decide) rfl ?_
          refine Go.iload (pc' := 141) at_139 rfl rfl ?_
          refine Go.iload (pc' := 143) at_141 rfl rfl ?_
          refine Go.ifT (pc' := 150) at_143 (hi_117) (by decide) (by decide) ?_
          refine Go.iconst (pc' := 151) 0 at_150 rfl rfl ?_
          refine Go.icmpF (pc' := 154) at_151 (show (0 : Int32) = (0 : Int32) by decide) rfl ?_
          refine Go.iload (pc' := 156) at_154 rfl rfl ?_
          refine Go.iload (pc' := 158) at_156 rfl rfl ?_
          refine Go.ifT (pc' := 165) at_158 (hi_273) (by decide) (by decide) ?_
          refine Go.iconst (pc' := 166) 0 at_165 rfl rfl ?_
          refine Go.icmpF (pc' := 169) at_166 (show (0 : Int32) = (0 : Int32) by decide) rfl ?_
          refine Go.iconst (pc' := 170) 1 at_169 rfl rfl ?_
          refine Go.goto (pc' := 174) at_170 (by decide) (by decide) ?_
          refine Go.retN (t := .boolean) (1 : Int32) rfl (by simp) rfl [] (fun _ q => nomatch q) at_174 (by decide) (by decide) ?_
          exact rfl
        · refine Go.re (pc' := 122) (L' := #[.val (.int p0), .val (.int p1), .val (.int p2), .val (.int p3), .val (.int p4), .val (.long p5), .second, .val (.int ((p0 &&& (2147483647 : Int32)) % (3 : Int32))), .val (.int ((p1 &&& (2147483647 : Int32)) % (3 : Int32))), .val (.ref a_1), .val (.ref a_85), .val (.ref o_E), .val (.ref r_98), .val (.ref r_99), .val (.ref a_100), .val (.int (0 : Int32)), .val (.int (0 : Int32)), .unset]) (S' := [(.ref o_RETRY), (.ref a_100)]) rfl rfl rfl ?_
          refine Go.aload (pc' := 124) at_122 rfl rfl rfl ?_
          have F_313 : Fld Z h_264 o_RETRY "java/lang/Enum" "ordinal" "I" (.int (2 : Int32)) := (Fld.keep F_261 K_258 (ninS (nne (by omega)) nin0))
          have F_314 : Fld Z h_264 o_LICENSED "java/lang/Enum" "ordinal" "I" (.int (0 : Int32)) := (Fld.keep F_262 K_258 (ninS (nne (by omega)) nin0))
          refine Go.callV (a1 := a0) (pc' := 127) (argsL := [(.ref o_RETRY), (.ref r_99)]) (rest := []) (ct_psrN l Z a0 hw n0 h_264 a_100 r_99 o_LICENSED (0 : Int32) o_RETRY (Fld.ne F_313 F_314 (by decide)) (by omega) F_274 X_259 F_260) at_124 (hw _ (List.mem_of_getElem? (i := 137) rfl)) (hw _ (List.mem_of_getElem? (i := 138) rfl)) (hw _ (List.mem_of_getElem? (i := 140) rfl)) (hw _ (List.mem_of_getElem? (i := 140) rfl)) (hw _ (List.mem_of_getElem? (i := 139) rfl)) (hw _ (List.mem_of_getElem? (i := 118) rfl)) (hw _ (List.mem_of_getElem? (i := 141) rfl)) X_259 (by decide) (lenOf pd__28Lcom_2fexample_2fcoat_check_2fcoatcheck_2fclient_2fReason_3bLjava_2futil_2fOptional_3b_29V rfl) rfl 0 rfl rfl (by decide) (by decide) (by decide) (by decide) (fun _ q => nomatch q) rfl (fun v_315 h_316 N_317 hQ_318 hle_319 => ?_)
          obtain ⟨rfl, K_310, X_311, F_312⟩ := hQ_318
          refine Go.re (pc' := 127) (L' := #[.val (.int p0), .val (.int p1), .val (.int p2), .val (.int p3), .val (.int p4), .val (.long p5), .second, .val (.int ((p0 &&& (2147483647 : Int32)) % (3 : Int32))), .val (.int ((p1 &&& (2147483647 : Int32)) % (3 : Int32))), .val (.ref a_1), .val (.ref a_85), .val (.ref o_E), .val (.ref r_98), .val (.ref r_99), .val (.ref a_100), .val (.int (0 : Int32)), .val (.int (0 : Int32)), .unset]) (S' := []) rfl rfl rfl ?_
          refine Go.aload (pc' := 129) at_127 rfl rfl rfl ?_
          refine Go.callV (a1 := a0) (pc' := 132) (argsL := []) (rest := []) (ct_allow l Z a0 hw n0 h_316 a_100 (0 : Int32) (by decide) F_312) at_129 (hw _ (List.mem_of_getElem? (i := 123) rfl)) (hw _ (List.mem_of_getElem? (i := 124) rfl)) (hw _ (List.mem_of_getElem? (i := 126) rfl)) (hw _ (List.mem_of_getElem? (i := 126) rfl)) (hw _ (List.mem_of_getElem? (i := 125) rfl)) (hw _ (List.mem_of_getElem? (i := 118) rfl)) (hw _ (List.mem_of_getElem? (i := 127) rfl)) X_311 (by decide) (lenOf pd__28_29Z rfl) rfl 0 rfl rfl (by decide) (by decide) (by decide) (by decide) (fun _ q => nomatch q) rfl (fun v_320 h_321 N_322 hQ_323 hle_324 => ?_)
          obtain ⟨rfl, rfl⟩ := hQ_323
          refine Go.re (pc' := 132) (L' := #[.val (.int p0), .val (.int p1), .val (.int p2), .val (.int p3), .val (.int p4), .val (.long p5), .second, .val (.int ((p0 &&& (2147483647 : Int32)) % (3 : Int32))), .val (.int ((p1 &&& (2147483647 : Int32)) % (3 : Int32))), .val (.ref a_1), .val (.ref a_85), .val (.ref o_E), .val (.ref r_98), .val (.ref r_99), .val (.ref a_100), .val (.int (0 : Int32)), .val (.int (0 : Int32)), .unset]) (S' := [(.int (0 : Int32))]) rfl rfl rfl ?_
          refine Go.istore (pc' := 134) #[.val (.int p0), .val (.int p1), .val (.int p2), .val (.int p3), .val (.int p4), .val (.long p5), .second, .val (.int ((p0 &&& (2147483647 : Int32)) % (3 : Int32))), .val (.int ((p1 &&& (2147483647 : Int32)) % (3 : Int32))), .val (.ref a_1), .val (.ref a_85), .val (.ref o_E), .val (.ref r_98), .val (.ref r_99), .val (.ref a_100), .val (.int (0 : Int32)), .val (.int (0 : Int32)), .val (.int (0 : Int32))] at_132 rfl rfl ?_
          refine Go.iload (pc' := 136) at_134 rfl rfl ?_
          refine Go.ifF (pc' := 139) at_136 (show (0 : Int32) = (0 : Int32) by decide) rfl ?_
          refine Go.iload (pc' := 141) at_139 rfl rfl ?_
          refine Go.iload (pc' := 143) at_141 rfl rfl ?_
          refine Go.ifT (pc' := 150) at_143 (hi_117) (by decide) (by decide) ?_
          refine Go.iconst (pc' := 151) 0 at_150 rfl rfl ?_
          refine Go.icmpF (pc' := 154) at_151 (show (0 : Int32) = (0 : Int32) by decide) rfl ?_
          refine Go.iload (pc' := 156) at_154 rfl rfl ?_
          refine Go.iload (pc' := 158) at_156 rfl rfl ?_
          refine Go.ifT (pc' := 165) at_158 (hi_273) (by decide) (by decide) ?_
          refine Go.iconst (pc' := 166) 0 at_165 rfl rfl ?_
          refine Go.icmpF (pc' := 169) at_166 (show (0 : Int32) = (0 : Int32) by decide) rfl ?_
          refine Go.iconst (pc' := 170) 1 at_169 rfl rfl ?_
          refine Go.goto (pc' := 174) at_170 (by decide) (by decide) ?_
          refine Go.retN (t := .boolean) (1 : Int32) rfl (by simp) rfl [] (fun _ q => nomatch q) at_174 (by decide) (by decide) ?_
          exact rfl
    · refine Go.ifc (pc' := 76) (pc'' := 71) at_68 (by decide) (by decide) rfl (fun hc_325 => ?_) (fun hc_325 => ?_)
      · have hc_325 : (p2 &&& (2 : Int32)) = 0 := hc_325
        refine Go.aload (pc' := 78) at_76 rfl rfl rfl ?_
        exact cut78 o_E
      · have hc_325 : ¬ ((p2 &&& (2 : Int32)) = 0) := hc_325
        refine Go.aload (pc' := 73) at_71 rfl rfl rfl ?_
        refine Go.goto (pc' := 78) at_73 (by decide) (by decide) ?_
        exact cut78 a_85
  · refine Go.ifc (pc' := 61) (pc'' := 56) at_53 (by decide) (by decide) rfl (fun hc_326 => ?_) (fun hc_326 => ?_)
    · have hc_326 : (p2 &&& (1 : Int32)) = 0 := hc_326
      refine Go.aload (pc' := 63) at_61 rfl rfl rfl ?_
      exact cut63 o_E
    · have hc_326 : ¬ ((p2 &&& (1 : Int32)) = 0) := hc_326
      refine Go.aload (pc' := 58) at_56 rfl rfl rfl ?_
      refine Go.goto (pc' := 63) at_58 (by decide) (by decide) ?_
      exact cut63 a_85
set_option maxRecDepth 65536 in
set_option maxHeartbeats 40000000 in
theorem comes_1 {Post : Tables → Env → Array Value → State → Outcome → State → Prop} (hpost : ∀ tb e args s v u, (limb_1_1.after args s (.returned v) u = true ∧ limb_1_2.after args s (.returned v) u = true ∧ True) → ReturnedEndW s (.returned v) u (Jvm.fieldLocs frame_1_writes args s ++ Jvm.arrayLocs frame_1_arrays args s ++ Jvm.staticLocs frame_1_statics s) 32 8320 → Post tb e args s (.returned v) u) :
    ArmFor flags0 classFile x code maxLocals ret World_1 tables_1 room_1 Calls_1 rest_1 Pre_1 Post := by
  intro l hfl _ _ p e ha hc hk s m args below hf hA hF happ hP
  obtain ⟨hcalls, hrest, hpre⟩ := hP
  obtain ⟨-, -, -, hnamed, -, -, -, hat⟩ := (Spec.applies_iff hf).mp happ
  obtain ⟨hg, hn⟩ := and_e (Cond.before_iff.mp (show (Jvm.Cond.and given_1 narrow_1).before args s = true from hpre))
  obtain ⟨g0, hg⟩ := and_e hg
  obtain ⟨w0, w1, w2, w3, w4, w5, rfl⟩ : ∃ w0 w1 w2 w3 w4 w5 : Value, args = #[w0, w1, w2, w3, w4, w5] := by
    have hs : args.size = 6 := by simpa [Cond.value, given_1] using g0
    obtain ⟨L⟩ := args
    match L, hs with
    | [w0, w1, w2, w3, w4, w5], _ => exact ⟨w0, w1, w2, w3, w4, w5, rfl⟩
  have hw := fun d (hd : d ∈ tables_1) => atoms_spec (ws := Jvm.Cond.code x code maxLocals ret :: tables_1) hat d (List.mem_cons_of_mem _ hd)
  have hfit : Fit s := fun {y c} hc i hi => by
    obtain ⟨ha, rfl⟩ := Array.getElem?_eq_some_iff.mp hc
    have q := List.all_eq_true.mp ((Array.all_eq_true_iff_forall_mem.mp hF) _ (Array.getElem_mem ha)) i (List.mem_range.mpr hi)
    simpa [Array.getElem?_eq_getElem hi] using q
  obtain ⟨g1, hg⟩ := and_e hg
  obtain ⟨g2, hg⟩ := and_e hg
  obtain ⟨g3, hg⟩ := and_e hg
  obtain ⟨g4, hg⟩ := and_e hg
  obtain ⟨g5, hg⟩ := and_e hg
  have g6 := hg
  obtain ⟨p0, e0⟩ := is_v g1
  obtain rfl : w0 = (.int p0) := Option.some.inj e0
  obtain ⟨p1, e1⟩ := is_v g2
  obtain rfl : w1 = (.int p1) := Option.some.inj e1
  obtain ⟨p2, e2⟩ := is_v g3
  obtain rfl : w2 = (.int p2) := Option.some.inj e2
  obtain ⟨p3, e3⟩ := is_v g4
  obtain rfl : w3 = (.int p3) := Option.some.inj e3
  obtain ⟨p4, e4⟩ := is_v g5
  obtain rfl : w4 = (.int p4) := Option.some.inj e4
  obtain ⟨p5, e5⟩ := isL_v g6
  obtain rfl : w5 = (.long p5) := Option.some.inj e5
  obtain ⟨c0, hn⟩ := and_e hn
  obtain ⟨c1, hn⟩ := and_e hn
  obtain ⟨c2, hn⟩ := and_e hn
  obtain ⟨c3, hn⟩ := and_e hn
  obtain ⟨c4, hn⟩ := and_e hn
  have c5 := hn
  obtain ⟨o_LICENSED, ev_LICENSED⟩ := exa_v c0
  have S_LICENSED := Sta.start ev_LICENSED (Or.inr ⟨(hw _ (List.mem_of_getElem? (i := 135) rfl)), (hw _ (List.mem_of_getElem? (i := 136) rfl))⟩)
  have X_LICENSED := Exa.start ev_LICENSED c0
  obtain ⟨o_NOT_LICENSED, ev_NOT_LICENSED⟩ := exa_v c1
  have S_NOT_LICENSED := Sta.start ev_NOT_LICENSED (Or.inr ⟨(hw _ (List.mem_of_getElem? (i := 135) rfl)), (hw _ (List.mem_of_getElem? (i := 144) rfl))⟩)
  have X_NOT_LICENSED := Exa.start ev_NOT_LICENSED c1
  have F_NOT_LICENSED_ordinal := Fld.start ((fld_at ev_NOT_LICENSED).symm.trans (eqv_i (Term.int_eval (1)) c2))
  have F_LICENSED_ordinal := Fld.start ((fld_at ev_LICENSED).symm.trans (eqv_i (Term.int_eval (0)) c3))
  obtain ⟨o_RETRY, ev_RETRY⟩ := exa_v c4
  have S_RETRY := Sta.start ev_RETRY (Or.inr ⟨(hw _ (List.mem_of_getElem? (i := 135) rfl)), (hw _ (List.mem_of_getElem? (i := 146) rfl))⟩)
  have X_RETRY := Exa.start ev_RETRY c4
  have F_RETRY_ordinal := Fld.start ((fld_at ev_RETRY).symm.trans (eqv_i (Term.int_eval (2)) c5))
  obtain ⟨hsets, hown0⟩ := atoms_of _ (rest_1_c_eq ▸ (show rest_1_c.before _ s = true from hrest))
  have ncs := not_v (Cond.before_iff.mp (hsets _ (List.mem_of_getElem? (i := 2) rfl)))
  obtain ⟨cs, ecs⟩ := is_v (Cond.before_iff.mp (hsets _ (List.mem_of_getElem? (i := 1) rfl)))
  have S_cs : Sta s s.heap "java/lang/String" "COMPACT_STRINGS" "Z" (.int cs) := Sta.start ecs (Or.inl (hsets _ (List.mem_of_getElem? (i := 0) rfl)))
  have hcs : ¬ (cs = (0 : Int32)) := gotF (Cond.eq_ints ecs (Term.int_eval (0))) ncs
  obtain ⟨o_E, ev_E⟩ := exa_v (Cond.before_iff.mp (hsets _ (List.mem_of_getElem? (i := 11) rfl)))
  have S_E := Sta.start ev_E (Or.inl (hsets _ (List.mem_of_getElem? (i := 10) rfl)))
  obtain ⟨n, o, h1, h2, h3, v, Ls, N, rfl, rfl, hFr, -, -, hEn⟩ := ct_law l s _ hw s.heap.size s.heap p0 p1 p2 p3 p4 p5 (Nat.le_refl _) o_LICENSED S_LICENSED X_LICENSED o_NOT_LICENSED S_NOT_LICENSED X_NOT_LICENSED F_NOT_LICENSED_ordinal F_LICENSED_ordinal o_RETRY S_RETRY X_RETRY F_RETRY_ordinal o_E S_E cs S_cs hcs p e ha hc hk s m _ below hf ((Spec.applies_iff_loose hf).mp happ).1 ⟨rfl, State.Warmed39.refl s, rfl, (CHv.start (own_ew hw) (fun p hp => hcalls.1 p hp) (hsets _ (List.mem_of_getElem? (i := 2) rfl)) (hw _ (List.mem_of_getElem? (i := 7) rfl)) (hw _ (List.mem_of_getElem? (i := 6) rfl))), (fun x q => nomatch q)⟩ trivial
  refine ⟨n, _, h1, h2, h3, hpost _ _ _ _ _ _ ⟨Cond.after_iff.mpr rfl, Cond.after_iff.mpr (eq_i res_at (Term.int_eval (1)) rfl), trivial⟩ ⟨⟨_, rfl⟩, hEn.1.2.1, hEn.1.2.2.1, (hEn.1.2.2.2.sift fun y hy => Or.inr (hFr y hy)).mono (by decide) (by decide)⟩⟩
theorem main_1_1 : Claimed_1_1 := comes_1 fun _ _ _ _ _ _ h hF => ⟨h.1, hF⟩
theorem main_1_2 : Claimed_1_2 := comes_1 fun _ _ _ _ _ _ h hF => ⟨h.2.1, hF⟩
end Jvm.Pilot.@@N@@
namespace Jvm.Pilot.@@N@@
open Jvm Jvm.ClassFile Sem Op Lib Jvm.Free Jvm.Stand Jvm.Pilot.@@N@@.Jvm.D
/-! MADE BY PROGRAM (witnessworld.py) out of the Statement's table words and the real class files: 25 classes; the members and pool entries that the words name. The judged class is class 1, her method 2. -/
namespace start1
open Jvm.ClassFile
def u (s : String) : CpInfo := .utf8 (stringToUtf16 s)
/-- a pool by its gaps: so many unusable entries, then the entry; so many at the end -/
def gap : Nat → List CpInfo → List CpInfo
  | 0, r => r
  | n + 1, r => .unusable :: gap n r
def poolList (es : List (Nat × CpInfo)) (last : Nat) : List CpInfo := es.foldr (fun e r => gap e.1 (e.2 :: r)) (gap last [])
def pool (es : List (Nat × CpInfo)) (last : Nat) : Array CpInfo := ⟨poolList es last⟩
def fileOf (pool : Array CpInfo) (this : Nat) (attrs : Array Attribute := #[]) (ms : Array MethodInfo := #[]) (fl : Nat := 33) (sup : Nat := 0) (ifs : Array Nat := #[]) (fds : Array FieldInfo := #[]) : ClassFile where
  minorVersion := 0
  majorVersion := 65
  constantPool := pool
  accessFlags := fl
  thisClass := this
  superClass := sup
  interfaces := ifs
  fields := fds
  methods := ms
  attributes := attrs
def plain (name : String) (sup : Option ClassId) : Class where
  name := name
  kind := .ordinary
  loader := none
  accessFlags := 33
  super := sup
  interfaces := #[]
  cf := none
  fields := #[]
  methods := #[]
  instanceTypes := #[]
  staticTypes := #[]
  resolved := #[]
  callSites := []
  init := .initialized
  statics := none
  mirror := none

def pool0 : Array CpInfo := pool [(5, u "<init>"), (0, u "()V"), (1, .class_ 10), (1, u "java/lang/Object")] 113

def k0c0 : Code := { maxStack := 0, maxLocals := 1, code := object_method_1_code, exceptionTable := #[], attributes := #[] }
def k0m0 : Method := { name := "<init>", desc := "()V", sig := { parameters := [], returnType := none }, accessFlags := 1, code := some k0c0 }
/-- java/lang/Object -/
def k0 : Class := { plain "java/lang/Object" none with
  accessFlags := 33
  interfaces := #[]
  cf := some (fileOf pool0 8 #[] #[{ accessFlags := 1, nameIndex := 5, descriptorIndex := 6, attributes := #[] }] 33 0 #[] #[])
  fields := #[]
  methods := #[k0m0]
  instanceTypes := #[]
  staticTypes := #[]
  resolved := Array.replicate 124 none
  statics := none }

def pool1 : Array CpInfo := pool [(2, .class_ 4), (0, .nameAndType 5 6), (0, u "java/lang/Object"), (0, u "<init>"), (0, u "()V"), (0, .fieldref 8 9), (0, .class_ 10), (0, .nameAndType 11 12), (0, u "com/example/coat_check/coatcheck/client/Reason"), (0, u "LICENSED"), (0, u "Lcom/example/coat_check/coatcheck/client/Reason;"), (0, .fieldref 8 14), (0, .nameAndType 15 12), (0, u "NOT_LICENSED"), (0, .fieldref 8 17), (0, .nameAndType 18 12), (0, u "RETRY"), (0, .integer 2147483647), (0, .class_ 21), (0, u "com/example/coat_check/coatcheck/client/LicenseResponseData"), (0, .string 23), (0, u "p"), (0, .string 25), (0, u "1"), (0, .string 27), (0, u "u"), (0, .string 29), (0, u ""), (0, .methodref 20 31), (0, .nameAndType 5 32), (0, u "(IILjava/lang/String;Ljava/lang/String;Ljava/lang/String;JLjava/lang/String;)V"), (0, .methodref 34 35), (0, .class_ 36), (0, .nameAndType 37 38), (0, u "java/util/Optional"), (0, u "of"), (0, u "(Ljava/lang/Object;)Ljava/util/Optional;"), (0, .methodref 34 40), (0, .nameAndType 41 42), (0, u "empty"), (0, u "()Ljava/util/Optional;"), (0, .class_ 44), (0, u "com/example/coat_check/coatcheck/client/StrictPolicy"), (0, .methodref 43 3), (0, .methodref 43 47), (0, .nameAndType 48 49), (0, u "allowAccess"), (0, u "()Z"), (0, .methodref 51 52), (0, .class_ 53), (0, .nameAndType 54 55), (0, u "com/example/coat_check/coatcheck/client/StrictPolicyProcessServerResponsePinLaw"), (0, u "reason"), (0, u "(I)Lcom/example/coat_check/coatcheck/client/Reason;"), (0, .methodref 43 57), (0, .nameAndType 58 59), (0, u "processServerResponse"), (0, u "(Lcom/example/coat_check/coatcheck/client/Reason;Ljava/util/Optional;)V"), (3, u "law"), (0, u "(IIIIIJ)Z")] 2

def k1m0 : Method := { name := "<init>", desc := "()V", sig := { parameters := [], returnType := none }, accessFlags := 2, code := none }
def k1c1 : Code := { maxStack := 2, maxLocals := 1, code := method_2_code, exceptionTable := #[], attributes := #[] }
def k1m1 : Method := { name := "reason", desc := "(I)Lcom/example/coat_check/coatcheck/client/Reason;", sig := { parameters := [.int], returnType := some (.object "com/example/coat_check/coatcheck/client/Reason") }, accessFlags := 10, code := some k1c1 }
def k1c2 : Code := { maxStack := 10, maxLocals := 18, code := code, exceptionTable := #[], attributes := #[] }
def k1m2 : Method := { name := "law", desc := "(IIIIIJ)Z", sig := { parameters := [.int, .int, .int, .int, .int, .long], returnType := some .boolean }, accessFlags := 9, code := some k1c2 }
/-- com/example/coat_check/coatcheck/client/StrictPolicyProcessServerResponsePinLaw -/
def k1 : Class := { plain "com/example/coat_check/coatcheck/client/StrictPolicyProcessServerResponsePinLaw" (some 0) with
  accessFlags := 49
  interfaces := #[]
  cf := some (fileOf pool1 51 #[] #[{ accessFlags := 2, nameIndex := 5, descriptorIndex := 6, attributes := #[] }, { accessFlags := 10, nameIndex := 54, descriptorIndex := 55, attributes := #[] }, { accessFlags := 9, nameIndex := 63, descriptorIndex := 64, attributes := #[] }] 49 2 #[] #[])
  fields := #[]
  methods := #[k1m0, k1m1, k1m2]
  instanceTypes := #[]
  staticTypes := #[]
  resolved := Array.replicate 67 none
  statics := none }

def pool2 : Array CpInfo := pool [(1, .methodref 2 3), (0, .class_ 4), (0, .nameAndType 5 6), (0, u "java/lang/Object"), (0, u "<init>"), (0, u "()V"), (0, .class_ 8), (0, u "java/lang/Record")] 13

def k2c0 : Code := { maxStack := 1, maxLocals := 1, code := jdk_30_method_1_code, exceptionTable := #[], attributes := #[] }
def k2m0 : Method := { name := "<init>", desc := "()V", sig := { parameters := [], returnType := none }, accessFlags := 4, code := some k2c0 }
/-- java/lang/Record -/
def k2 : Class := { plain "java/lang/Record" (some 0) with
  accessFlags := 1057
  interfaces := #[]
  cf := some (fileOf pool2 7 #[] #[{ accessFlags := 4, nameIndex := 5, descriptorIndex := 6, attributes := #[] }] 1057 2 #[] #[])
  fields := #[]
  methods := #[k2m0]
  instanceTypes := #[]
  staticTypes := #[]
  resolved := Array.replicate 22 none
  statics := none }

def pool3 : Array CpInfo := pool [(1, .methodref 2 3), (0, .class_ 4), (0, .nameAndType 5 6), (0, u "java/lang/Record"), (0, u "<init>"), (0, u "()V"), (0, .string 8), (0, u "packageName"), (0, .methodref 10 11), (0, .class_ 12), (0, .nameAndType 13 14), (0, u "com/example/coat_check/coatcheck/client/LicenseResponseData"), (0, u "requireNoSeparator"), (0, u "(Ljava/lang/String;Ljava/lang/String;)V"), (0, .string 16), (0, u "versionCode"), (0, .string 18), (0, u "userId"), (0, .string 20), (0, u "extras"), (0, .methodref 22 23), (0, .class_ 24), (0, .nameAndType 25 26), (0, u "java/util/Objects"), (0, u "requireNonNull"), (0, u "(Ljava/lang/Object;Ljava/lang/String;)Ljava/lang/Object;"), (0, .fieldref 10 28), (0, .nameAndType 29 30), (0, u "responseCode"), (0, u "I"), (0, .fieldref 10 32), (0, .nameAndType 33 30), (0, u "nonce"), (0, .fieldref 10 35), (0, .nameAndType 8 36), (0, u "Ljava/lang/String;"), (0, .fieldref 10 38), (0, .nameAndType 16 36), (0, .fieldref 10 40), (0, .nameAndType 18 36), (0, .fieldref 10 42), (0, .nameAndType 43 44), (0, u "timestamp"), (0, u "J"), (0, .fieldref 10 46), (0, .nameAndType 20 36), (16, .class_ 65), (1, u "java/lang/String"), (6, .methodref 63 73), (0, .nameAndType 74 75), (0, u "indexOf"), (0, u "(I)I"), (38, u "(IILjava/lang/String;Ljava/lang/String;Ljava/lang/String;JLjava/lang/String;)V"), (29, u "FIELDS")] 54

def k3c0 : Code := { maxStack := 3, maxLocals := 9, code := prog_18_method_1_code, exceptionTable := #[], attributes := #[] }
def k3m0 : Method := { name := "<init>", desc := "(IILjava/lang/String;Ljava/lang/String;Ljava/lang/String;JLjava/lang/String;)V", sig := { parameters := [.int, .int, (.object "java/lang/String"), (.object "java/lang/String"), (.object "java/lang/String"), .long, (.object "java/lang/String")], returnType := none }, accessFlags := 1, code := some k3c0 }
def k3c1 : Code := { maxStack := 4, maxLocals := 2, code := prog_18_method_5_code, exceptionTable := #[], attributes := #[] }
def k3m1 : Method := { name := "requireNoSeparator", desc := "(Ljava/lang/String;Ljava/lang/String;)V", sig := { parameters := [(.object "java/lang/String"), (.object "java/lang/String")], returnType := none }, accessFlags := 10, code := some k3c1 }
/-- com/example/coat_check/coatcheck/client/LicenseResponseData -/
def k3 : Class := { plain "com/example/coat_check/coatcheck/client/LicenseResponseData" (some 2) with
  accessFlags := 49
  interfaces := #[]
  cf := some (fileOf pool3 10 #[] #[{ accessFlags := 1, nameIndex := 5, descriptorIndex := 114, attributes := #[] }, { accessFlags := 10, nameIndex := 13, descriptorIndex := 14, attributes := #[] }] 49 2 #[] #[{ accessFlags := 18, nameIndex := 29, descriptorIndex := 30, attributes := #[] }, { accessFlags := 18, nameIndex := 33, descriptorIndex := 30, attributes := #[] }, { accessFlags := 18, nameIndex := 8, descriptorIndex := 36, attributes := #[] }, { accessFlags := 18, nameIndex := 16, descriptorIndex := 36, attributes := #[] }, { accessFlags := 18, nameIndex := 18, descriptorIndex := 36, attributes := #[] }, { accessFlags := 18, nameIndex := 43, descriptorIndex := 44, attributes := #[] }, { accessFlags := 18, nameIndex := 20, descriptorIndex := 36, attributes := #[] }, { accessFlags := 26, nameIndex := 144, descriptorIndex := 30, attributes := #[] }])
  fields := #[{ name := "responseCode", type := .int, accessFlags := 18, slot := 0, constantValue := 0 }, { name := "nonce", type := .int, accessFlags := 18, slot := 1, constantValue := 0 }, { name := "packageName", type := (.object "java/lang/String"), accessFlags := 18, slot := 2, constantValue := 0 }, { name := "versionCode", type := (.object "java/lang/String"), accessFlags := 18, slot := 3, constantValue := 0 }, { name := "userId", type := (.object "java/lang/String"), accessFlags := 18, slot := 4, constantValue := 0 }, { name := "timestamp", type := .long, accessFlags := 18, slot := 5, constantValue := 0 }, { name := "extras", type := (.object "java/lang/String"), accessFlags := 18, slot := 6, constantValue := 0 }, { name := "FIELDS", type := .int, accessFlags := 26, slot := 0, constantValue := 0 }]
  methods := #[k3m0, k3m1]
  instanceTypes := #[.int, .int, (.object "java/lang/String"), (.object "java/lang/String"), (.object "java/lang/String"), .long, (.object "java/lang/String")]
  staticTypes := #[.int]
  resolved := Array.replicate 199 none
  statics := none }

def pool4 : Array CpInfo := pool [(1, .class_ 2), (0, u "java/io/Serializable"), (0, .class_ 4), (0, u "java/lang/Object")] 2

/-- java/io/Serializable -/
def k4 : Class := { plain "java/io/Serializable" (some 0) with
  accessFlags := 1537
  interfaces := #[]
  cf := some (fileOf pool4 1 #[] #[] 1537 3 #[] #[])
  fields := #[]
  methods := #[]
  instanceTypes := #[]
  staticTypes := #[]
  resolved := Array.replicate 7 none
  statics := none }

def pool5 : Array CpInfo := pool [(1, .class_ 2), (0, u "java/lang/Comparable"), (0, .class_ 4), (0, u "java/lang/Object")] 7

/-- java/lang/Comparable -/
def k5 : Class := { plain "java/lang/Comparable" (some 0) with
  accessFlags := 1537
  interfaces := #[]
  cf := some (fileOf pool5 1 #[] #[] 1537 3 #[] #[])
  fields := #[]
  methods := #[]
  instanceTypes := #[]
  staticTypes := #[]
  resolved := Array.replicate 12 none
  statics := none }

def pool6 : Array CpInfo := pool [(2, .class_ 4), (1, u "java/lang/CharSequence"), (42, .class_ 48), (0, u "java/lang/CharSequence$1CodePointIterator"), (10, .class_ 60), (0, u "java/lang/CharSequence$1CharIterator"), (5, .class_ 67), (0, u "java/lang/Object")] 63

/-- java/lang/CharSequence -/
def k6 : Class := { plain "java/lang/CharSequence" (some 0) with
  accessFlags := 1537
  interfaces := #[]
  cf := some (fileOf pool6 2 #[.nestMembers #[47, 59]] #[] 1537 66 #[] #[])
  fields := #[]
  methods := #[]
  instanceTypes := #[]
  staticTypes := #[]
  resolved := Array.replicate 131 none
  statics := none }

def pool7 : Array CpInfo := pool [(1, .class_ 2), (0, u "java/lang/constant/Constable"), (0, .class_ 4), (0, u "java/lang/Object")] 6

/-- java/lang/constant/Constable -/
def k7 : Class := { plain "java/lang/constant/Constable" (some 0) with
  accessFlags := 1537
  interfaces := #[]
  cf := some (fileOf pool7 1 #[] #[] 1537 3 #[] #[])
  fields := #[]
  methods := #[]
  instanceTypes := #[]
  staticTypes := #[]
  resolved := Array.replicate 11 none
  statics := none }

def pool8 : Array CpInfo := pool [(1, .class_ 2), (0, u "java/lang/constant/ConstantDesc"), (0, .class_ 4), (0, u "java/lang/Object")] 32

/-- java/lang/constant/ConstantDesc -/
def k8 : Class := { plain "java/lang/constant/ConstantDesc" (some 0) with
  accessFlags := 1537
  interfaces := #[]
  cf := some (fileOf pool8 1 #[] #[] 1537 3 #[] #[])
  fields := #[]
  methods := #[]
  instanceTypes := #[]
  staticTypes := #[]
  resolved := Array.replicate 37 none
  statics := none }

def pool9 : Array CpInfo := pool [(2, .class_ 4), (1, u "java/lang/Object"), (0, u "<init>"), (0, u "()V"), (2, .fieldref 10 11), (0, .class_ 12), (0, .nameAndType 13 14), (0, u "java/lang/String"), (0, u "value"), (0, u "[B"), (0, .fieldref 10 16), (0, .nameAndType 17 18), (0, u "coder"), (0, u "B"), (2, u "hash"), (0, u "I"), (2, u "hashIsZero"), (0, u "Z"), (11, .fieldref 10 39), (0, .nameAndType 40 26), (0, u "COMPACT_STRINGS"), (66, .class_ 109), (1, u "java/lang/StringLatin1"), (32, u "()Z"), (191, u "()I"), (0, .methodref 10 336), (0, .nameAndType 17 337), (0, u "()B"), (154, .methodref 10 493), (0, .nameAndType 494 142), (0, u "isLatin1"), (10, .methodref 10 506), (0, .nameAndType 507 334), (0, u "length"), (67, .class_ 576), (0, u "java/lang/CharSequence"), (22, u "CASE_INSENSITIVE_ORDER"), (0, u "Ljava/util/Comparator;"), (32, .methodref 10 634), (0, .nameAndType 635 636), (0, u "indexOf"), (0, u "(II)I"), (0, .methodref 107 638), (0, .nameAndType 635 639), (0, u "([BIII)I"), (125, u "(I)I"), (335, u "serialPersistentFields"), (0, u "[Ljava/io/ObjectStreamField;"), (0, .class_ 1104), (0, u "java/lang/String$CaseInsensitiveComparator"), (1, .class_ 1107), (0, u "java/io/Serializable"), (0, .class_ 1109), (0, u "java/lang/Comparable"), (0, .class_ 1111), (0, u "java/lang/constant/Constable"), (0, .class_ 1113), (0, u "java/lang/constant/ConstantDesc"), (2, u "serialVersionUID"), (0, u "J"), (3, u "REPL"), (0, u "C"), (2, u "LATIN1"), (1, u "UTF16")] 323

def k9m0 : Method := { name := "<init>", desc := "()V", sig := { parameters := [], returnType := none }, accessFlags := 1, code := none }
def k9c1 : Code := { maxStack := 2, maxLocals := 1, code := jdk_42_method_54_code, exceptionTable := #[], attributes := #[] }
def k9m1 : Method := { name := "length", desc := "()I", sig := { parameters := [], returnType := some .int }, accessFlags := 1, code := some k9c1 }
def k9c2 : Code := { maxStack := 3, maxLocals := 2, code := jdk_42_method_79_code, exceptionTable := #[], attributes := #[] }
def k9m2 : Method := { name := "indexOf", desc := "(I)I", sig := { parameters := [.int], returnType := some .int }, accessFlags := 1, code := some k9c2 }
def k9c3 : Code := { maxStack := 4, maxLocals := 3, code := jdk_42_method_80_code, exceptionTable := #[], attributes := #[] }
def k9m3 : Method := { name := "indexOf", desc := "(II)I", sig := { parameters := [.int, .int], returnType := some .int }, accessFlags := 1, code := some k9c3 }
def k9c4 : Code := { maxStack := 1, maxLocals := 1, code := jdk_42_method_152_code, exceptionTable := #[], attributes := #[] }
def k9m4 : Method := { name := "coder", desc := "()B", sig := { parameters := [], returnType := some .byte }, accessFlags := 0, code := some k9c4 }
def k9c5 : Code := { maxStack := 1, maxLocals := 1, code := jdk_42_method_154_code, exceptionTable := #[], attributes := #[] }
def k9m5 : Method := { name := "isLatin1", desc := "()Z", sig := { parameters := [], returnType := some .boolean }, accessFlags := 0, code := some k9c5 }
/-- java/lang/String -/
def k9 : Class := { plain "java/lang/String" (some 0) with
  accessFlags := 49
  interfaces := #[4, 5, 6, 7, 8]
  cf := some (fileOf pool9 10 #[.nestMembers #[1103]] #[{ accessFlags := 1, nameIndex := 5, descriptorIndex := 6, attributes := #[] }, { accessFlags := 1, nameIndex := 507, descriptorIndex := 334, attributes := #[] }, { accessFlags := 1, nameIndex := 635, descriptorIndex := 765, attributes := #[] }, { accessFlags := 1, nameIndex := 635, descriptorIndex := 636, attributes := #[] }, { accessFlags := 0, nameIndex := 17, descriptorIndex := 337, attributes := #[] }, { accessFlags := 0, nameIndex := 494, descriptorIndex := 142, attributes := #[] }] 49 2 #[1106, 1108, 575, 1110, 1112] #[{ accessFlags := 18, nameIndex := 13, descriptorIndex := 14, attributes := #[] }, { accessFlags := 18, nameIndex := 17, descriptorIndex := 18, attributes := #[] }, { accessFlags := 2, nameIndex := 21, descriptorIndex := 22, attributes := #[] }, { accessFlags := 2, nameIndex := 25, descriptorIndex := 26, attributes := #[] }, { accessFlags := 26, nameIndex := 1116, descriptorIndex := 1117, attributes := #[] }, { accessFlags := 24, nameIndex := 40, descriptorIndex := 26, attributes := #[] }, { accessFlags := 26, nameIndex := 1101, descriptorIndex := 1102, attributes := #[] }, { accessFlags := 26, nameIndex := 1121, descriptorIndex := 1122, attributes := #[] }, { accessFlags := 25, nameIndex := 599, descriptorIndex := 600, attributes := #[] }, { accessFlags := 24, nameIndex := 1125, descriptorIndex := 18, attributes := #[] }, { accessFlags := 24, nameIndex := 1127, descriptorIndex := 18, attributes := #[] }])
  fields := #[{ name := "value", type := (.array .byte), accessFlags := 18, slot := 0, constantValue := 0 }, { name := "coder", type := .byte, accessFlags := 18, slot := 1, constantValue := 0 }, { name := "hash", type := .int, accessFlags := 2, slot := 2, constantValue := 0 }, { name := "hashIsZero", type := .boolean, accessFlags := 2, slot := 3, constantValue := 0 }, { name := "serialVersionUID", type := .long, accessFlags := 26, slot := 0, constantValue := 0 }, { name := "COMPACT_STRINGS", type := .boolean, accessFlags := 24, slot := 1, constantValue := 0 }, { name := "serialPersistentFields", type := (.array (.object "java/io/ObjectStreamField")), accessFlags := 26, slot := 2, constantValue := 0 }, { name := "REPL", type := .char, accessFlags := 26, slot := 3, constantValue := 0 }, { name := "CASE_INSENSITIVE_ORDER", type := (.object "java/util/Comparator"), accessFlags := 25, slot := 4, constantValue := 0 }, { name := "LATIN1", type := .byte, accessFlags := 24, slot := 5, constantValue := 0 }, { name := "UTF16", type := .byte, accessFlags := 24, slot := 6, constantValue := 0 }]
  methods := #[k9m0, k9m1, k9m2, k9m3, k9m4, k9m5]
  instanceTypes := #[(.array .byte), .byte, .int, .boolean]
  staticTypes := #[.long, .boolean, (.array (.object "java/io/ObjectStreamField")), .char, (.object "java/util/Comparator"), .byte, .byte]
  resolved := Array.replicate 1451 none
  statics := some 0 }

def pool10 : Array CpInfo := pool [(2, .class_ 4), (1, u "java/lang/Object"), (0, u "<init>"), (0, u "()V"), (35, .class_ 44), (1, u "java/util/Objects"), (0, u "requireNonNull"), (0, u "(Ljava/lang/Object;)Ljava/lang/Object;"), (47, u "(Ljava/lang/Object;Ljava/lang/String;)Ljava/lang/Object;")] 89

def k10m0 : Method := { name := "<init>", desc := "()V", sig := { parameters := [], returnType := none }, accessFlags := 2, code := none }
def k10c1 : Code := { maxStack := 2, maxLocals := 1, code := jdk_31_method_10_code, exceptionTable := #[], attributes := #[] }
def k10m1 : Method := { name := "requireNonNull", desc := "(Ljava/lang/Object;)Ljava/lang/Object;", sig := { parameters := [(.object "java/lang/Object")], returnType := some (.object "java/lang/Object") }, accessFlags := 9, code := some k10c1 }
def k10c2 : Code := { maxStack := 3, maxLocals := 2, code := jdk_31_method_11_code, exceptionTable := #[], attributes := #[] }
def k10m2 : Method := { name := "requireNonNull", desc := "(Ljava/lang/Object;Ljava/lang/String;)Ljava/lang/Object;", sig := { parameters := [(.object "java/lang/Object"), (.object "java/lang/String")], returnType := some (.object "java/lang/Object") }, accessFlags := 9, code := some k10c2 }
/-- java/util/Objects -/
def k10 : Class := { plain "java/util/Objects" (some 0) with
  accessFlags := 49
  interfaces := #[]
  cf := some (fileOf pool10 42 #[] #[{ accessFlags := 2, nameIndex := 5, descriptorIndex := 6, attributes := #[] }, { accessFlags := 9, nameIndex := 45, descriptorIndex := 46, attributes := #[] }, { accessFlags := 9, nameIndex := 45, descriptorIndex := 94, attributes := #[] }] 49 2 #[] #[])
  fields := #[]
  methods := #[k10m0, k10m1, k10m2]
  instanceTypes := #[]
  staticTypes := #[]
  resolved := Array.replicate 184 none
  statics := none }

def pool11 : Array CpInfo := pool [(4, .class_ 6), (1, u "java/lang/Object"), (0, u "<init>"), (0, u "()V"), (5, .class_ 16), (1, u "java/lang/StringLatin1"), (21, .methodref 39 40), (0, .class_ 41), (0, .nameAndType 42 43), (0, u "java/lang/Math"), (0, u "min"), (0, u "(II)I"), (44, .methodref 14 89), (0, .nameAndType 90 91), (0, u "canEncode"), (0, u "(I)Z"), (0, .methodref 39 93), (0, .nameAndType 94 43), (0, u "max"), (0, .methodref 14 96), (0, .nameAndType 97 98), (0, u "indexOfChar"), (0, u "([BIII)I"), (2, u "indexOf"), (19, u "$assertionsDisabled"), (0, u "Z"), (98, .class_ 223), (1, u "java/lang/StringLatin1$LinesSpliterator"), (166, .class_ 391), (0, u "java/lang/StringLatin1$CharsSpliterator")] 3

def k11m0 : Method := { name := "<init>", desc := "()V", sig := { parameters := [], returnType := none }, accessFlags := 0, code := none }
def k11c1 : Code := { maxStack := 2, maxLocals := 1, code := jdk_43_method_4_code, exceptionTable := #[], attributes := #[] }
def k11m1 : Method := { name := "canEncode", desc := "(I)Z", sig := { parameters := [.int], returnType := some .boolean }, accessFlags := 9, code := some k11c1 }
def k11c2 : Code := { maxStack := 4, maxLocals := 4, code := jdk_43_method_22_code, exceptionTable := #[], attributes := #[] }
def k11m2 : Method := { name := "indexOf", desc := "([BIII)I", sig := { parameters := [(.array .byte), .int, .int, .int], returnType := some .int }, accessFlags := 9, code := some k11c2 }
def k11c3 : Code := { maxStack := 2, maxLocals := 6, code := jdk_43_method_23_code, exceptionTable := #[], attributes := #[] }
def k11m3 : Method := { name := "indexOfChar", desc := "([BIII)I", sig := { parameters := [(.array .byte), .int, .int, .int], returnType := some .int }, accessFlags := 10, code := some k11c3 }
/-- java/lang/StringLatin1 -/
def k11 : Class := { plain "java/lang/StringLatin1" (some 0) with
  accessFlags := 48
  interfaces := #[]
  cf := some (fileOf pool11 14 #[.nestMembers #[390, 221]] #[{ accessFlags := 0, nameIndex := 7, descriptorIndex := 8, attributes := #[] }, { accessFlags := 9, nameIndex := 90, descriptorIndex := 91, attributes := #[] }, { accessFlags := 9, nameIndex := 101, descriptorIndex := 98, attributes := #[] }, { accessFlags := 10, nameIndex := 97, descriptorIndex := 98, attributes := #[] }] 48 4 #[] #[{ accessFlags := 4120, nameIndex := 121, descriptorIndex := 122, attributes := #[] }])
  fields := #[{ name := "$assertionsDisabled", type := .boolean, accessFlags := 4120, slot := 0, constantValue := 0 }]
  methods := #[k11m0, k11m1, k11m2, k11m3]
  instanceTypes := #[]
  staticTypes := #[.boolean]
  resolved := Array.replicate 395 none
  statics := none }

def pool12 : Array CpInfo := pool [(1, .class_ 2), (0, u "java/lang/Math"), (1, .class_ 6), (1, u "java/lang/Object"), (0, u "<init>"), (0, u "()V"), (89, .class_ 100), (1, u "java/lang/Math$RandomNumberGeneratorHolder"), (71, u "negativeZeroFloatBits"), (0, u "J"), (2, u "negativeZeroDoubleBits"), (21, u "max"), (2, u "min"), (43, u "$assertionsDisabled"), (0, u "Z"), (88, u "(II)I"), (2, u "twoToTheDoubleScaleDown"), (0, u "D"), (4, u "twoToTheDoubleScaleUp"), (9, u "E"), (3, u "PI"), (2, u "TAU"), (2, u "DEGREES_TO_RADIANS"), (0, u "RADIANS_TO_DEGREES")] 94

def k12m0 : Method := { name := "<init>", desc := "()V", sig := { parameters := [], returnType := none }, accessFlags := 2, code := none }
def k12c1 : Code := { maxStack := 2, maxLocals := 2, code := jdk_29_method_65_code, exceptionTable := #[], attributes := #[] }
def k12m1 : Method := { name := "max", desc := "(II)I", sig := { parameters := [.int, .int], returnType := some .int }, accessFlags := 9, code := some k12c1 }
def k12c2 : Code := { maxStack := 2, maxLocals := 2, code := jdk_29_method_69_code, exceptionTable := #[], attributes := #[] }
def k12m2 : Method := { name := "min", desc := "(II)I", sig := { parameters := [.int, .int], returnType := some .int }, accessFlags := 9, code := some k12c2 }
/-- java/lang/Math -/
def k12 : Class := { plain "java/lang/Math" (some 0) with
  accessFlags := 49
  interfaces := #[]
  cf := some (fileOf pool12 1 #[.nestMembers #[98]] #[{ accessFlags := 2, nameIndex := 7, descriptorIndex := 8, attributes := #[] }, { accessFlags := 9, nameIndex := 198, descriptorIndex := 335, attributes := #[] }, { accessFlags := 9, nameIndex := 201, descriptorIndex := 335, attributes := #[] }] 49 4 #[] #[{ accessFlags := 25, nameIndex := 354, descriptorIndex := 339, attributes := #[] }, { accessFlags := 25, nameIndex := 358, descriptorIndex := 339, attributes := #[] }, { accessFlags := 25, nameIndex := 361, descriptorIndex := 339, attributes := #[] }, { accessFlags := 26, nameIndex := 364, descriptorIndex := 339, attributes := #[] }, { accessFlags := 26, nameIndex := 365, descriptorIndex := 339, attributes := #[] }, { accessFlags := 26, nameIndex := 172, descriptorIndex := 173, attributes := #[] }, { accessFlags := 26, nameIndex := 176, descriptorIndex := 173, attributes := #[] }, { accessFlags := 8, nameIndex := 344, descriptorIndex := 339, attributes := #[] }, { accessFlags := 8, nameIndex := 338, descriptorIndex := 339, attributes := #[] }, { accessFlags := 4120, nameIndex := 245, descriptorIndex := 246, attributes := #[] }])
  fields := #[{ name := "E", type := .double, accessFlags := 25, slot := 0, constantValue := 0 }, { name := "PI", type := .double, accessFlags := 25, slot := 1, constantValue := 0 }, { name := "TAU", type := .double, accessFlags := 25, slot := 2, constantValue := 0 }, { name := "DEGREES_TO_RADIANS", type := .double, accessFlags := 26, slot := 3, constantValue := 0 }, { name := "RADIANS_TO_DEGREES", type := .double, accessFlags := 26, slot := 4, constantValue := 0 }, { name := "negativeZeroFloatBits", type := .long, accessFlags := 26, slot := 5, constantValue := 0 }, { name := "negativeZeroDoubleBits", type := .long, accessFlags := 26, slot := 6, constantValue := 0 }, { name := "twoToTheDoubleScaleUp", type := .double, accessFlags := 8, slot := 7, constantValue := 0 }, { name := "twoToTheDoubleScaleDown", type := .double, accessFlags := 8, slot := 8, constantValue := 0 }, { name := "$assertionsDisabled", type := .boolean, accessFlags := 4120, slot := 9, constantValue := 0 }]
  methods := #[k12m0, k12m1, k12m2]
  instanceTypes := #[]
  staticTypes := #[.double, .double, .double, .double, .double, .long, .long, .double, .double, .boolean]
  resolved := Array.replicate 460 none
  statics := none }

def pool13 : Array CpInfo := pool [(1, .fieldref 2 3), (0, .class_ 4), (0, .nameAndType 5 6), (0, u "java/util/Optional"), (0, u "EMPTY"), (0, u "Ljava/util/Optional;"), (0, .methodref 8 9), (0, .class_ 10), (0, .nameAndType 11 12), (0, u "java/lang/Object"), (0, u "<init>"), (0, u "()V"), (0, .fieldref 2 14), (0, .nameAndType 15 16), (0, u "value"), (0, u "Ljava/lang/Object;"), (0, .methodref 18 19), (0, .class_ 20), (0, .nameAndType 21 22), (0, u "java/util/Objects"), (0, u "requireNonNull"), (0, u "(Ljava/lang/Object;)Ljava/lang/Object;"), (0, .methodref 2 24), (0, .nameAndType 11 25), (0, u "(Ljava/lang/Object;)V"), (29, u "empty"), (0, u "()Ljava/util/Optional;"), (8, u "(Ljava/lang/Object;)Ljava/util/Optional;"), (16, u "of")] 104

def k13c0 : Code := { maxStack := 1, maxLocals := 1, code := jdk_32_method_1_code, exceptionTable := #[], attributes := #[] }
def k13m0 : Method := { name := "empty", desc := "()Ljava/util/Optional;", sig := { parameters := [], returnType := some (.object "java/util/Optional") }, accessFlags := 9, code := some k13c0 }
def k13c1 : Code := { maxStack := 2, maxLocals := 2, code := jdk_32_method_2_code, exceptionTable := #[], attributes := #[] }
def k13m1 : Method := { name := "<init>", desc := "(Ljava/lang/Object;)V", sig := { parameters := [(.object "java/lang/Object")], returnType := none }, accessFlags := 2, code := some k13c1 }
def k13c2 : Code := { maxStack := 3, maxLocals := 1, code := jdk_32_method_3_code, exceptionTable := #[], attributes := #[] }
def k13m2 : Method := { name := "of", desc := "(Ljava/lang/Object;)Ljava/util/Optional;", sig := { parameters := [(.object "java/lang/Object")], returnType := some (.object "java/util/Optional") }, accessFlags := 9, code := some k13c2 }
/-- java/util/Optional -/
def k13 : Class := { plain "java/util/Optional" (some 0) with
  accessFlags := 49
  interfaces := #[]
  cf := some (fileOf pool13 2 #[] #[{ accessFlags := 9, nameIndex := 55, descriptorIndex := 56, attributes := #[] }, { accessFlags := 2, nameIndex := 11, descriptorIndex := 25, attributes := #[] }, { accessFlags := 9, nameIndex := 82, descriptorIndex := 65, attributes := #[] }] 49 8 #[] #[{ accessFlags := 26, nameIndex := 5, descriptorIndex := 6, attributes := #[] }, { accessFlags := 18, nameIndex := 15, descriptorIndex := 16, attributes := #[] }])
  fields := #[{ name := "EMPTY", type := (.object "java/util/Optional"), accessFlags := 26, slot := 0, constantValue := 0 }, { name := "value", type := (.object "java/lang/Object"), accessFlags := 18, slot := 0, constantValue := 0 }]
  methods := #[k13m0, k13m1, k13m2]
  instanceTypes := #[(.object "java/lang/Object")]
  staticTypes := #[(.object "java/util/Optional")]
  resolved := Array.replicate 187 none
  statics := some 1 }

def pool14 : Array CpInfo := pool [(7, .class_ 8), (0, u "com/example/coat_check/coatcheck/client/Policy"), (0, .class_ 10), (0, u "java/lang/Object")] 12

/-- com/example/coat_check/coatcheck/client/Policy -/
def k14 : Class := { plain "com/example/coat_check/coatcheck/client/Policy" (some 0) with
  accessFlags := 1537
  interfaces := #[]
  cf := some (fileOf pool14 7 #[] #[] 1537 9 #[] #[])
  fields := #[]
  methods := #[]
  instanceTypes := #[]
  staticTypes := #[]
  resolved := Array.replicate 23 none
  statics := none }

def pool15 : Array CpInfo := pool [(1, .methodref 2 3), (0, .class_ 4), (0, .nameAndType 5 6), (0, u "java/lang/Object"), (0, u "<init>"), (0, u "()V"), (0, .fieldref 8 9), (0, .class_ 10), (0, .nameAndType 11 12), (0, u "com/example/coat_check/coatcheck/client/Reason"), (0, u "LICENSED"), (0, u "Lcom/example/coat_check/coatcheck/client/Reason;"), (0, .fieldref 14 15), (0, .class_ 16), (0, .nameAndType 17 18), (0, u "com/example/coat_check/coatcheck/client/StrictPolicy"), (0, u "licensed"), (0, u "Z"), (0, .class_ 20), (0, u "com/example/coat_check/coatcheck/client/Policy"), (2, u "processServerResponse"), (0, u "(Lcom/example/coat_check/coatcheck/client/Reason;Ljava/util/Optional;)V"), (5, u "allowAccess"), (0, u "()Z")] 2

def k15c0 : Code := { maxStack := 1, maxLocals := 1, code := prog_34_method_1_code, exceptionTable := #[], attributes := #[] }
def k15m0 : Method := { name := "<init>", desc := "()V", sig := { parameters := [], returnType := none }, accessFlags := 1, code := some k15c0 }
def k15c1 : Code := { maxStack := 3, maxLocals := 3, code := prog_34_method_2_code, exceptionTable := #[], attributes := #[] }
def k15m1 : Method := { name := "processServerResponse", desc := "(Lcom/example/coat_check/coatcheck/client/Reason;Ljava/util/Optional;)V", sig := { parameters := [(.object "com/example/coat_check/coatcheck/client/Reason"), (.object "java/util/Optional")], returnType := none }, accessFlags := 1, code := some k15c1 }
def k15c2 : Code := { maxStack := 1, maxLocals := 1, code := prog_34_method_3_code, exceptionTable := #[], attributes := #[] }
def k15m2 : Method := { name := "allowAccess", desc := "()Z", sig := { parameters := [], returnType := some .boolean }, accessFlags := 1, code := some k15c2 }
/-- com/example/coat_check/coatcheck/client/StrictPolicy -/
def k15 : Class := { plain "com/example/coat_check/coatcheck/client/StrictPolicy" (some 0) with
  accessFlags := 49
  interfaces := #[14]
  cf := some (fileOf pool15 14 #[] #[{ accessFlags := 1, nameIndex := 5, descriptorIndex := 6, attributes := #[] }, { accessFlags := 1, nameIndex := 23, descriptorIndex := 24, attributes := #[] }, { accessFlags := 1, nameIndex := 30, descriptorIndex := 31, attributes := #[] }] 49 2 #[19] #[{ accessFlags := 66, nameIndex := 17, descriptorIndex := 18, attributes := #[] }])
  fields := #[{ name := "licensed", type := .boolean, accessFlags := 66, slot := 0, constantValue := 0 }]
  methods := #[k15m0, k15m1, k15m2]
  instanceTypes := #[.boolean]
  staticTypes := #[]
  resolved := Array.replicate 34 none
  statics := none }

def pool16 : Array CpInfo := pool [(2, .class_ 4), (1, u "java/lang/Enum"), (0, u "name"), (0, u "Ljava/lang/String;"), (2, u "ordinal"), (0, u "I"), (1, .class_ 14), (1, u "java/lang/Object"), (4, u "hash"), (86, .class_ 108), (1, u "java/lang/Enum$EnumDesc"), (2, .class_ 112), (0, u "java/lang/constant/Constable"), (0, .class_ 114), (0, u "java/lang/Comparable"), (0, .class_ 116), (0, u "java/io/Serializable")] 87

/-- java/lang/Enum -/
def k16 : Class := { plain "java/lang/Enum" (some 0) with
  accessFlags := 1057
  interfaces := #[7, 5, 4]
  cf := some (fileOf pool16 2 #[.nestMembers #[106]] #[] 1057 12 #[111, 113, 115] #[{ accessFlags := 18, nameIndex := 5, descriptorIndex := 6, attributes := #[] }, { accessFlags := 18, nameIndex := 9, descriptorIndex := 10, attributes := #[] }, { accessFlags := 2, nameIndex := 19, descriptorIndex := 10, attributes := #[] }])
  fields := #[{ name := "name", type := (.object "java/lang/String"), accessFlags := 18, slot := 0, constantValue := 0 }, { name := "ordinal", type := .int, accessFlags := 18, slot := 1, constantValue := 0 }, { name := "hash", type := .int, accessFlags := 2, slot := 2, constantValue := 0 }]
  methods := #[]
  instanceTypes := #[(.object "java/lang/String"), .int, .int]
  staticTypes := #[]
  resolved := Array.replicate 204 none
  statics := none }

def pool17 : Array CpInfo := pool [(1, .class_ 2), (0, u "com/example/coat_check/coatcheck/client/Reason"), (2, u "LICENSED"), (0, u "Lcom/example/coat_check/coatcheck/client/Reason;"), (2, u "NOT_LICENSED"), (2, u "RETRY"), (2, u "INVALID_RESPONSE"), (2, u "$VALUES"), (0, u "[Lcom/example/coat_check/coatcheck/client/Reason;"), (6, .class_ 28), (1, u "java/lang/Enum")] 26

/-- com/example/coat_check/coatcheck/client/Reason -/
def k17 : Class := { plain "com/example/coat_check/coatcheck/client/Reason" (some 16) with
  accessFlags := 16433
  interfaces := #[]
  cf := some (fileOf pool17 1 #[] #[] 16433 26 #[] #[{ accessFlags := 16409, nameIndex := 5, descriptorIndex := 6, attributes := #[] }, { accessFlags := 16409, nameIndex := 9, descriptorIndex := 6, attributes := #[] }, { accessFlags := 16409, nameIndex := 12, descriptorIndex := 6, attributes := #[] }, { accessFlags := 16409, nameIndex := 15, descriptorIndex := 6, attributes := #[] }, { accessFlags := 4122, nameIndex := 18, descriptorIndex := 19, attributes := #[] }])
  fields := #[{ name := "LICENSED", type := (.object "com/example/coat_check/coatcheck/client/Reason"), accessFlags := 16409, slot := 0, constantValue := 0 }, { name := "NOT_LICENSED", type := (.object "com/example/coat_check/coatcheck/client/Reason"), accessFlags := 16409, slot := 1, constantValue := 0 }, { name := "RETRY", type := (.object "com/example/coat_check/coatcheck/client/Reason"), accessFlags := 16409, slot := 2, constantValue := 0 }, { name := "INVALID_RESPONSE", type := (.object "com/example/coat_check/coatcheck/client/Reason"), accessFlags := 16409, slot := 3, constantValue := 0 }, { name := "$VALUES", type := (.array (.object "com/example/coat_check/coatcheck/client/Reason")), accessFlags := 4122, slot := 4, constantValue := 0 }]
  methods := #[]
  instanceTypes := #[(.object "java/lang/String"), .int, .int]
  staticTypes := #[(.object "com/example/coat_check/coatcheck/client/Reason"), (.object "com/example/coat_check/coatcheck/client/Reason"), (.object "com/example/coat_check/coatcheck/client/Reason"), (.object "com/example/coat_check/coatcheck/client/Reason"), (.array (.object "com/example/coat_check/coatcheck/client/Reason"))]
  resolved := Array.replicate 55 none
  statics := some 2 }

def pool18 : Array CpInfo := pool [(2, .class_ 4), (1, u "java/lang/Object"), (0, u "<init>"), (0, u "()V"), (17, .class_ 26), (1, u "jdk/internal/util/Preconditions"), (28, .class_ 56), (0, u "jdk/internal/util/Preconditions$4"), (57, .class_ 115), (0, u "jdk/internal/util/Preconditions$1"), (7, u "SIOOBE_FORMATTER"), (0, u "Ljava/util/function/BiFunction;"), (0, .class_ 126), (0, u "jdk/internal/util/Preconditions$2"), (3, u "AIOOBE_FORMATTER"), (0, .class_ 132), (0, u "jdk/internal/util/Preconditions$3"), (3, u "IOOBE_FORMATTER")] 57

def k18m0 : Method := { name := "<init>", desc := "()V", sig := { parameters := [], returnType := none }, accessFlags := 1, code := none }
/-- jdk/internal/util/Preconditions -/
def k18 : Class := { plain "jdk/internal/util/Preconditions" (some 0) with
  accessFlags := 33
  interfaces := #[]
  cf := some (fileOf pool18 24 #[.nestMembers #[55, 131, 125, 114]] #[{ accessFlags := 1, nameIndex := 5, descriptorIndex := 6, attributes := #[] }] 33 2 #[] #[{ accessFlags := 25, nameIndex := 123, descriptorIndex := 124, attributes := #[] }, { accessFlags := 25, nameIndex := 130, descriptorIndex := 124, attributes := #[] }, { accessFlags := 25, nameIndex := 136, descriptorIndex := 124, attributes := #[] }])
  fields := #[{ name := "SIOOBE_FORMATTER", type := (.object "java/util/function/BiFunction"), accessFlags := 25, slot := 0, constantValue := 0 }, { name := "AIOOBE_FORMATTER", type := (.object "java/util/function/BiFunction"), accessFlags := 25, slot := 1, constantValue := 0 }, { name := "IOOBE_FORMATTER", type := (.object "java/util/function/BiFunction"), accessFlags := 25, slot := 2, constantValue := 0 }]
  methods := #[k18m0]
  instanceTypes := #[]
  staticTypes := #[(.object "java/util/function/BiFunction"), (.object "java/util/function/BiFunction"), (.object "java/util/function/BiFunction")]
  resolved := Array.replicate 194 none
  statics := some 3 }

def pool19 : Array CpInfo := pool [(9, u "<init>"), (6, .class_ 18), (1, u "java/lang/Object"), (0, u "()V"), (1, .class_ 23), (1, u "jdk/internal/util/ArraysSupport"), (0, u "LOG2_ARRAY_LONG_INDEX_SCALE"), (0, u "I"), (2, u "U"), (0, u "Ljdk/internal/misc/Unsafe;"), (8, u "BIG_ENDIAN"), (0, u "Z"), (8, u "LOG2_BYTE_BIT_SIZE"), (4, u "LOG2_ARRAY_INT_INDEX_SCALE"), (54, u "JLA"), (0, u "Ljdk/internal/access/JavaLangAccess;"), (11, u "LOG2_ARRAY_BOOLEAN_INDEX_SCALE"), (9, u "LOG2_ARRAY_BYTE_INDEX_SCALE"), (5, u "LOG2_ARRAY_CHAR_INDEX_SCALE"), (5, u "LOG2_ARRAY_SHORT_INDEX_SCALE"), (18, u "LOG2_ARRAY_FLOAT_INDEX_SCALE"), (24, u "LOG2_ARRAY_DOUBLE_INDEX_SCALE"), (89, u "T_BOOLEAN"), (2, u "T_CHAR"), (1, u "T_FLOAT"), (1, u "T_DOUBLE"), (1, u "T_BYTE"), (1, u "T_SHORT"), (1, u "T_INT"), (1, u "T_LONG"), (1, u "SOFT_MAX_ARRAY_LENGTH")] 83

def k19m0 : Method := { name := "<init>", desc := "()V", sig := { parameters := [], returnType := none }, accessFlags := 2, code := none }
/-- jdk/internal/util/ArraysSupport -/
def k19 : Class := { plain "jdk/internal/util/ArraysSupport" (some 0) with
  accessFlags := 33
  interfaces := #[]
  cf := some (fileOf pool19 21 #[] #[{ accessFlags := 2, nameIndex := 9, descriptorIndex := 19, attributes := #[] }] 33 16 #[] #[{ accessFlags := 24, nameIndex := 28, descriptorIndex := 29, attributes := #[] }, { accessFlags := 26, nameIndex := 38, descriptorIndex := 39, attributes := #[] }, { accessFlags := 25, nameIndex := 121, descriptorIndex := 25, attributes := #[] }, { accessFlags := 25, nameIndex := 131, descriptorIndex := 25, attributes := #[] }, { accessFlags := 25, nameIndex := 137, descriptorIndex := 25, attributes := #[] }, { accessFlags := 25, nameIndex := 143, descriptorIndex := 25, attributes := #[] }, { accessFlags := 25, nameIndex := 53, descriptorIndex := 25, attributes := #[] }, { accessFlags := 25, nameIndex := 24, descriptorIndex := 25, attributes := #[] }, { accessFlags := 25, nameIndex := 162, descriptorIndex := 25, attributes := #[] }, { accessFlags := 25, nameIndex := 187, descriptorIndex := 25, attributes := #[] }, { accessFlags := 26, nameIndex := 48, descriptorIndex := 25, attributes := #[] }, { accessFlags := 25, nameIndex := 277, descriptorIndex := 25, attributes := #[] }, { accessFlags := 25, nameIndex := 280, descriptorIndex := 25, attributes := #[] }, { accessFlags := 25, nameIndex := 282, descriptorIndex := 25, attributes := #[] }, { accessFlags := 25, nameIndex := 284, descriptorIndex := 25, attributes := #[] }, { accessFlags := 25, nameIndex := 286, descriptorIndex := 25, attributes := #[] }, { accessFlags := 25, nameIndex := 288, descriptorIndex := 25, attributes := #[] }, { accessFlags := 25, nameIndex := 290, descriptorIndex := 25, attributes := #[] }, { accessFlags := 25, nameIndex := 292, descriptorIndex := 25, attributes := #[] }, { accessFlags := 26, nameIndex := 108, descriptorIndex := 109, attributes := #[] }, { accessFlags := 25, nameIndex := 294, descriptorIndex := 25, attributes := #[] }])
  fields := #[{ name := "U", type := (.object "jdk/internal/misc/Unsafe"), accessFlags := 24, slot := 0, constantValue := 0 }, { name := "BIG_ENDIAN", type := .boolean, accessFlags := 26, slot := 1, constantValue := 0 }, { name := "LOG2_ARRAY_BOOLEAN_INDEX_SCALE", type := .int, accessFlags := 25, slot := 2, constantValue := 0 }, { name := "LOG2_ARRAY_BYTE_INDEX_SCALE", type := .int, accessFlags := 25, slot := 3, constantValue := 0 }, { name := "LOG2_ARRAY_CHAR_INDEX_SCALE", type := .int, accessFlags := 25, slot := 4, constantValue := 0 }, { name := "LOG2_ARRAY_SHORT_INDEX_SCALE", type := .int, accessFlags := 25, slot := 5, constantValue := 0 }, { name := "LOG2_ARRAY_INT_INDEX_SCALE", type := .int, accessFlags := 25, slot := 6, constantValue := 0 }, { name := "LOG2_ARRAY_LONG_INDEX_SCALE", type := .int, accessFlags := 25, slot := 7, constantValue := 0 }, { name := "LOG2_ARRAY_FLOAT_INDEX_SCALE", type := .int, accessFlags := 25, slot := 8, constantValue := 0 }, { name := "LOG2_ARRAY_DOUBLE_INDEX_SCALE", type := .int, accessFlags := 25, slot := 9, constantValue := 0 }, { name := "LOG2_BYTE_BIT_SIZE", type := .int, accessFlags := 26, slot := 10, constantValue := 0 }, { name := "T_BOOLEAN", type := .int, accessFlags := 25, slot := 11, constantValue := 0 }, { name := "T_CHAR", type := .int, accessFlags := 25, slot := 12, constantValue := 0 }, { name := "T_FLOAT", type := .int, accessFlags := 25, slot := 13, constantValue := 0 }, { name := "T_DOUBLE", type := .int, accessFlags := 25, slot := 14, constantValue := 0 }, { name := "T_BYTE", type := .int, accessFlags := 25, slot := 15, constantValue := 0 }, { name := "T_SHORT", type := .int, accessFlags := 25, slot := 16, constantValue := 0 }, { name := "T_INT", type := .int, accessFlags := 25, slot := 17, constantValue := 0 }, { name := "T_LONG", type := .int, accessFlags := 25, slot := 18, constantValue := 0 }, { name := "JLA", type := (.object "jdk/internal/access/JavaLangAccess"), accessFlags := 26, slot := 19, constantValue := 0 }, { name := "SOFT_MAX_ARRAY_LENGTH", type := .int, accessFlags := 25, slot := 20, constantValue := 0 }]
  methods := #[k19m0]
  instanceTypes := #[]
  staticTypes := #[(.object "jdk/internal/misc/Unsafe"), .boolean, .int, .int, .int, .int, .int, .int, .int, .int, .int, .int, .int, .int, .int, .int, .int, .int, .int, (.object "jdk/internal/access/JavaLangAccess"), .int]
  resolved := Array.replicate 378 none
  statics := none }

def pool20 : Array CpInfo := pool [(1, u "java/lang/Cloneable"), (0, .class_ 1), (0, u "java/lang/Object"), (0, .class_ 3)] 3

/-- java/lang/Cloneable -/
def k20 : Class := { plain "java/lang/Cloneable" (some 0) with
  accessFlags := 1537
  interfaces := #[]
  cf := some (fileOf pool20 2 #[] #[] 1537 4 #[] #[])
  fields := #[]
  methods := #[]
  instanceTypes := #[]
  staticTypes := #[]
  resolved := Array.replicate 8 none
  statics := none }

/-- the primitive byte -/
def k21 : Class := { plain "byte" none with kind := .primitive 'B', accessFlags := 0x411 }
/-- [B -/
def k22 : Class := { plain "[B" (some 0) with kind := .array 21 .byte, interfaces := #[20, 4], accessFlags := 1041 }

/-- the primitive int -/
def k23 : Class := { plain "int" none with kind := .primitive 'I', accessFlags := 0x411 }
/-- [I -/
def k24 : Class := { plain "[I" (some 0) with kind := .array 23 .int, interfaces := #[20, 4], accessFlags := 1041 }

def heap : Heap := #[{ cls := 9, slots := #[.long 0, .int 1, .null, .int 0, .null, .int 0, .int 0], vm := .statics 9 },
  { cls := 13, slots := #[.ref 7], vm := .statics 13 },
  { cls := 17, slots := #[.ref 4, .ref 5, .ref 6, .null, .null], vm := .statics 17 },
  { cls := 18, slots := #[.null, .null, .null], vm := .statics 18 },
  { cls := 17, slots := #[.null, .int 0, .int 0], vm := .none },
  { cls := 17, slots := #[.null, .int 1, .int 0], vm := .none },
  { cls := 17, slots := #[.null, .int 2, .int 0], vm := .none },
  { cls := 13, slots := #[.null], vm := .none }]
def classes : Array Class := #[k0, k1, k2, k3, k4, k5, k6, k7, k8, k9, k10, k11, k12, k13, k14, k15, k16, k17, k18, k19, k20, k21, k22, k23, k24]
def interned : List (Array UInt16 × Addr) := []
def slotsUsed : Nat := 26
def theMethod : MethodId := ⟨1, 2⟩
def args0 : Array Value := #[.int 5, .int 5, .int 5, .int 5, .int 5, .long 5]
def aboutOver (below : List Frame) : State where
  vm := { classes := classes, interned := interned.toArray }
  heap := heap
  slotsUsed := slotsUsed
  threads := #[{ frames := .invoking theMethod args0 :: below }]
def below0 : List Frame := [.native { method := ⟨0, 0⟩, args := #[] }]
def about1 : State := aboutOver below0
def p0 : Program := .bare "" "" ""
def e0 : Env := launch0.env 0 0 0
theorem w_frames : about1.frames = Frame.invoking theMethod args0 :: below0 := rfl
set_option maxRecDepth 65536 in
theorem w_args : argsFit about1.vm theMethod args0 = true := by decide +kernel
set_option maxRecDepth 65536 in
theorem w_heap : heapFits about1 = true := by decide +kernel
set_option maxRecDepth 65536 in
theorem w_runnable : about1.curStatus? = some .runnable := by decide +kernel
set_option maxRecDepth 65536 in
theorem w_alone : about1.alone = true := by decide +kernel
set_option maxRecDepth 65536 in
theorem w_named : about1.methodNamed? x = some theMethod := by decide +kernel
set_option maxRecDepth 65536 in
theorem w_hears : about1.hears theMethod below0 = true := by decide +kernel
set_option maxRecDepth 65536 in
theorem w_ripe : about1.ripe theMethod args0 below0 = true := by decide +kernel
theorem w_running : about1.status = .running := rfl
set_option maxRecDepth 65536 in
theorem w_room : about1.hasRoom e0.platform room_1 = true :=
  launch0.hasRoom_least _ room_1 (by decide +kernel) (by decide +kernel) (by decide +kernel) (by decide +kernel) (by decide +kernel) (by decide +kernel)
theorem allAtoms_all (ts : List Jvm.Cond) (a : Array Jvm.Value) (st : Jvm.State) : (allAtoms ts).before a st = ts.all (fun c => c.before a st) := by
  induction ts with
  | nil => rfl
  | cons c t ih =>
    show (Jvm.Cond.and c (allAtoms t)).before a st = _
    rw [Jvm.Cond.before_and, ih, List.all_cons]
def words1 : List Jvm.Cond := Jvm.Cond.code x code maxLocals ret :: tables_1
/-- a 'code' word, met by the world's own term for the bytes: nothing is compared byte by byte -/
theorem code_word {y : MethodName} {bytes : ByteArray} {mx : Nat} {rt : Option FieldType} {a : Array Value} {s : State} {m : MethodId} {meth : Method} {c : Code} (h1 : s.methodNamed? y = some m) (h2 : s.vm.method? m = some meth) (h3 : meth.code = some c) (h4 : c.code = bytes)
    (h5 : (c.maxLocals == mx && c.exceptionTable.isEmpty && decide (c.maxStack ≤ mostOperands) && decide (meth.sig.returnType = rt) && !meth.locks && decide (parseMethodDescriptor y.desc = some meth.sig)) = true) : (Jvm.Cond.code y bytes mx rt).before a s = true := by
  simp only [Bool.and_eq_true, beq_iff_eq, Bool.not_eq_true', decide_eq_true_eq] at h5
  obtain ⟨⟨⟨⟨⟨g1, g2⟩, g3⟩, g4⟩, g5⟩, g6⟩ := h5
  simp [Cond.before, Cond.holds, Cond.value, h1, h2, h3, h4, g1, g2, g3, g4, g5, g6]
def isCode : Jvm.Cond → Bool
  | .code _ _ _ _ => true
  | _ => false
theorem all_split {L : List Jvm.Cond} {P : Jvm.Cond → Bool} (h1 : L.all (fun c => isCode c || P c) = true) (h2 : ∀ c ∈ L.filter isCode, P c = true) : L.all P = true := by
  refine List.all_eq_true.mpr fun c hc => ?_
  have h := List.all_eq_true.mp h1 c hc
  rcases Bool.eq_false_or_eq_true (isCode c) with hi | hi
  · exact h2 c (List.mem_filter.mpr ⟨hc, hi⟩)
  · simpa [hi] using h
set_option maxRecDepth 65536 in
theorem w_c0 : (Jvm.Cond.code x code maxLocals ret).before args0 about1 = true := code_word (m := ⟨1, 2⟩) (meth := k1m2) (c := k1c2) (by decide +kernel) rfl rfl rfl (by decide +kernel)
set_option maxRecDepth 65536 in
theorem w_c1 : (Jvm.Cond.code ({ cls := "com/example/coat_check/coatcheck/client/LicenseResponseData", name := "<init>", desc := "(IILjava/lang/String;Ljava/lang/String;Ljava/lang/String;JLjava/lang/String;)V" } : Jvm.MethodName) prog_18_method_1_code (9 : Nat) (Option.none : Option Jvm.ClassFile.FieldType)).before args0 about1 = true := code_word (m := ⟨3, 0⟩) (meth := k3m0) (c := k3c0) (by decide +kernel) rfl rfl rfl (by decide +kernel)
set_option maxRecDepth 65536 in
theorem w_c2 : (Jvm.Cond.code ({ cls := "java/lang/Record", name := "<init>", desc := "()V" } : Jvm.MethodName) jdk_30_method_1_code (1 : Nat) (Option.none : Option Jvm.ClassFile.FieldType)).before args0 about1 = true := code_word (m := ⟨2, 0⟩) (meth := k2m0) (c := k2c0) (by decide +kernel) rfl rfl rfl (by decide +kernel)
set_option maxRecDepth 65536 in
theorem w_c3 : (Jvm.Cond.code ({ cls := "java/lang/Object", name := "<init>", desc := "()V" } : Jvm.MethodName) object_method_1_code (1 : Nat) (Option.none : Option Jvm.ClassFile.FieldType)).before args0 about1 = true := code_word (m := ⟨0, 0⟩) (meth := k0m0) (c := k0c0) (by decide +kernel) rfl rfl rfl (by decide +kernel)
set_option maxRecDepth 65536 in
theorem w_c4 : (Jvm.Cond.code ({ cls := "com/example/coat_check/coatcheck/client/LicenseResponseData", name := "requireNoSeparator", desc := "(Ljava/lang/String;Ljava/lang/String;)V" } : Jvm.MethodName) prog_18_method_5_code (2 : Nat) (Option.none : Option Jvm.ClassFile.FieldType)).before args0 about1 = true := code_word (m := ⟨3, 1⟩) (meth := k3m1) (c := k3c1) (by decide +kernel) rfl rfl rfl (by decide +kernel)
set_option maxRecDepth 65536 in
theorem w_c5 : (Jvm.Cond.code ({ cls := "java/util/Objects", name := "requireNonNull", desc := "(Ljava/lang/Object;Ljava/lang/String;)Ljava/lang/Object;" } : Jvm.MethodName) jdk_31_method_11_code (2 : Nat) (Option.some (Jvm.ClassFile.FieldType.object "java/lang/Object"))).before args0 about1 = true := code_word (m := ⟨10, 2⟩) (meth := k10m2) (c := k10c2) (by decide +kernel) rfl rfl rfl (by decide +kernel)
set_option maxRecDepth 65536 in
theorem w_c6 : (Jvm.Cond.code ({ cls := "java/lang/String", name := "indexOf", desc := "(I)I" } : Jvm.MethodName) jdk_42_method_79_code (2 : Nat) (Option.some Jvm.ClassFile.FieldType.int)).before args0 about1 = true := code_word (m := ⟨9, 2⟩) (meth := k9m2) (c := k9c2) (by decide +kernel) rfl rfl rfl (by decide +kernel)
set_option maxRecDepth 65536 in
theorem w_c7 : (Jvm.Cond.code ({ cls := "java/lang/String", name := "indexOf", desc := "(II)I" } : Jvm.MethodName) jdk_42_method_80_code (3 : Nat) (Option.some Jvm.ClassFile.FieldType.int)).before args0 about1 = true := code_word (m := ⟨9, 3⟩) (meth := k9m3) (c := k9c3) (by decide +kernel) rfl rfl rfl (by decide +kernel)
set_option maxRecDepth 65536 in
theorem w_c8 : (Jvm.Cond.code ({ cls := "java/lang/String", name := "isLatin1", desc := "()Z" } : Jvm.MethodName) jdk_42_method_154_code (1 : Nat) (Option.some Jvm.ClassFile.FieldType.boolean)).before args0 about1 = true := code_word (m := ⟨9, 5⟩) (meth := k9m5) (c := k9c5) (by decide +kernel) rfl rfl rfl (by decide +kernel)
set_option maxRecDepth 65536 in
theorem w_c9 : (Jvm.Cond.code ({ cls := "java/lang/String", name := "length", desc := "()I" } : Jvm.MethodName) jdk_42_method_54_code (1 : Nat) (Option.some Jvm.ClassFile.FieldType.int)).before args0 about1 = true := code_word (m := ⟨9, 1⟩) (meth := k9m1) (c := k9c1) (by decide +kernel) rfl rfl rfl (by decide +kernel)
set_option maxRecDepth 65536 in
theorem w_c10 : (Jvm.Cond.code ({ cls := "java/lang/String", name := "coder", desc := "()B" } : Jvm.MethodName) jdk_42_method_152_code (1 : Nat) (Option.some Jvm.ClassFile.FieldType.byte)).before args0 about1 = true := code_word (m := ⟨9, 4⟩) (meth := k9m4) (c := k9c4) (by decide +kernel) rfl rfl rfl (by decide +kernel)
set_option maxRecDepth 65536 in
theorem w_c11 : (Jvm.Cond.code ({ cls := "java/lang/StringLatin1", name := "indexOf", desc := "([BIII)I" } : Jvm.MethodName) jdk_43_method_22_code (4 : Nat) (Option.some Jvm.ClassFile.FieldType.int)).before args0 about1 = true := code_word (m := ⟨11, 2⟩) (meth := k11m2) (c := k11c2) (by decide +kernel) rfl rfl rfl (by decide +kernel)
set_option maxRecDepth 65536 in
theorem w_c12 : (Jvm.Cond.code ({ cls := "java/lang/StringLatin1", name := "canEncode", desc := "(I)Z" } : Jvm.MethodName) jdk_43_method_4_code (1 : Nat) (Option.some Jvm.ClassFile.FieldType.boolean)).before args0 about1 = true := code_word (m := ⟨11, 1⟩) (meth := k11m1) (c := k11c1) (by decide +kernel) rfl rfl rfl (by decide +kernel)
set_option maxRecDepth 65536 in
theorem w_c13 : (Jvm.Cond.code ({ cls := "java/lang/Math", name := "max", desc := "(II)I" } : Jvm.MethodName) jdk_29_method_65_code (2 : Nat) (Option.some Jvm.ClassFile.FieldType.int)).before args0 about1 = true := code_word (m := ⟨12, 1⟩) (meth := k12m1) (c := k12c1) (by decide +kernel) rfl rfl rfl (by decide +kernel)
set_option maxRecDepth 65536 in
theorem w_c14 : (Jvm.Cond.code ({ cls := "java/lang/Math", name := "min", desc := "(II)I" } : Jvm.MethodName) jdk_29_method_69_code (2 : Nat) (Option.some Jvm.ClassFile.FieldType.int)).before args0 about1 = true := code_word (m := ⟨12, 2⟩) (meth := k12m2) (c := k12c2) (by decide +kernel) rfl rfl rfl (by decide +kernel)
set_option maxRecDepth 65536 in
theorem w_c15 : (Jvm.Cond.code ({ cls := "java/lang/StringLatin1", name := "indexOfChar", desc := "([BIII)I" } : Jvm.MethodName) jdk_43_method_23_code (6 : Nat) (Option.some Jvm.ClassFile.FieldType.int)).before args0 about1 = true := code_word (m := ⟨11, 3⟩) (meth := k11m3) (c := k11c3) (by decide +kernel) rfl rfl rfl (by decide +kernel)
set_option maxRecDepth 65536 in
theorem w_c16 : (Jvm.Cond.code ({ cls := "java/util/Optional", name := "of", desc := "(Ljava/lang/Object;)Ljava/util/Optional;" } : Jvm.MethodName) jdk_32_method_3_code (1 : Nat) (Option.some (Jvm.ClassFile.FieldType.object "java/util/Optional"))).before args0 about1 = true := code_word (m := ⟨13, 2⟩) (meth := k13m2) (c := k13c2) (by decide +kernel) rfl rfl rfl (by decide +kernel)
set_option maxRecDepth 65536 in
theorem w_c17 : (Jvm.Cond.code ({ cls := "java/util/Objects", name := "requireNonNull", desc := "(Ljava/lang/Object;)Ljava/lang/Object;" } : Jvm.MethodName) jdk_31_method_10_code (1 : Nat) (Option.some (Jvm.ClassFile.FieldType.object "java/lang/Object"))).before args0 about1 = true := code_word (m := ⟨10, 1⟩) (meth := k10m1) (c := k10c1) (by decide +kernel) rfl rfl rfl (by decide +kernel)
set_option maxRecDepth 65536 in
theorem w_c18 : (Jvm.Cond.code ({ cls := "java/util/Optional", name := "<init>", desc := "(Ljava/lang/Object;)V" } : Jvm.MethodName) jdk_32_method_2_code (2 : Nat) (Option.none : Option Jvm.ClassFile.FieldType)).before args0 about1 = true := code_word (m := ⟨13, 1⟩) (meth := k13m1) (c := k13c1) (by decide +kernel) rfl rfl rfl (by decide +kernel)
set_option maxRecDepth 65536 in
theorem w_c19 : (Jvm.Cond.code ({ cls := "java/util/Optional", name := "empty", desc := "()Ljava/util/Optional;" } : Jvm.MethodName) jdk_32_method_1_code (1 : Nat) (Option.some (Jvm.ClassFile.FieldType.object "java/util/Optional"))).before args0 about1 = true := code_word (m := ⟨13, 0⟩) (meth := k13m0) (c := k13c0) (by decide +kernel) rfl rfl rfl (by decide +kernel)
set_option maxRecDepth 65536 in
theorem w_c20 : (Jvm.Cond.code ({ cls := "com/example/coat_check/coatcheck/client/StrictPolicy", name := "<init>", desc := "()V" } : Jvm.MethodName) prog_34_method_1_code (1 : Nat) (Option.none : Option Jvm.ClassFile.FieldType)).before args0 about1 = true := code_word (m := ⟨15, 0⟩) (meth := k15m0) (c := k15c0) (by decide +kernel) rfl rfl rfl (by decide +kernel)
set_option maxRecDepth 65536 in
theorem w_c21 : (Jvm.Cond.code ({ cls := "com/example/coat_check/coatcheck/client/StrictPolicy", name := "allowAccess", desc := "()Z" } : Jvm.MethodName) prog_34_method_3_code (1 : Nat) (Option.some Jvm.ClassFile.FieldType.boolean)).before args0 about1 = true := code_word (m := ⟨15, 2⟩) (meth := k15m2) (c := k15c2) (by decide +kernel) rfl rfl rfl (by decide +kernel)
set_option maxRecDepth 65536 in
theorem w_c22 : (Jvm.Cond.code ({ cls := "com/example/coat_check/coatcheck/client/StrictPolicyProcessServerResponsePinLaw", name := "reason", desc := "(I)Lcom/example/coat_check/coatcheck/client/Reason;" } : Jvm.MethodName) method_2_code (1 : Nat) (Option.some (Jvm.ClassFile.FieldType.object "com/example/coat_check/coatcheck/client/Reason"))).before args0 about1 = true := code_word (m := ⟨1, 1⟩) (meth := k1m1) (c := k1c1) (by decide +kernel) rfl rfl rfl (by decide +kernel)
set_option maxRecDepth 65536 in
theorem w_c23 : (Jvm.Cond.code ({ cls := "com/example/coat_check/coatcheck/client/StrictPolicy", name := "processServerResponse", desc := "(Lcom/example/coat_check/coatcheck/client/Reason;Ljava/util/Optional;)V" } : Jvm.MethodName) prog_34_method_2_code (3 : Nat) (Option.none : Option Jvm.ClassFile.FieldType)).before args0 about1 = true := code_word (m := ⟨15, 1⟩) (meth := k15m1) (c := k15c1) (by decide +kernel) rfl rfl rfl (by decide +kernel)
def codes1 : List Jvm.Cond := [Jvm.Cond.code x code maxLocals ret, Jvm.Cond.code ({ cls := "com/example/coat_check/coatcheck/client/LicenseResponseData", name := "<init>", desc := "(IILjava/lang/String;Ljava/lang/String;Ljava/lang/String;JLjava/lang/String;)V" } : Jvm.MethodName) prog_18_method_1_code (9 : Nat) (Option.none : Option Jvm.ClassFile.FieldType), Jvm.Cond.code ({ cls := "java/lang/Record", name := "<init>", desc := "()V" } : Jvm.MethodName) jdk_30_method_1_code (1 : Nat) (Option.none : Option Jvm.ClassFile.FieldType), Jvm.Cond.code ({ cls := "java/lang/Object", name := "<init>", desc := "()V" } : Jvm.MethodName) object_method_1_code (1 : Nat) (Option.none : Option Jvm.ClassFile.FieldType), Jvm.Cond.code ({ cls := "com/example/coat_check/coatcheck/client/LicenseResponseData", name := "requireNoSeparator", desc := "(Ljava/lang/String;Ljava/lang/String;)V" } : Jvm.MethodName) prog_18_method_5_code (2 : Nat) (Option.none : Option Jvm.ClassFile.FieldType), Jvm.Cond.code ({ cls := "java/util/Objects", name := "requireNonNull", desc := "(Ljava/lang/Object;Ljava/lang/String;)Ljava/lang/Object;" } : Jvm.MethodName) jdk_31_method_11_code (2 : Nat) (Option.some (Jvm.ClassFile.FieldType.object "java/lang/Object")), Jvm.Cond.code ({ cls := "java/lang/String", name := "indexOf", desc := "(I)I" } : Jvm.MethodName) jdk_42_method_79_code (2 : Nat) (Option.some Jvm.ClassFile.FieldType.int), Jvm.Cond.code ({ cls := "java/lang/String", name := "indexOf", desc := "(II)I" } : Jvm.MethodName) jdk_42_method_80_code (3 : Nat) (Option.some Jvm.ClassFile.FieldType.int), Jvm.Cond.code ({ cls := "java/lang/String", name := "isLatin1", desc := "()Z" } : Jvm.MethodName) jdk_42_method_154_code (1 : Nat) (Option.some Jvm.ClassFile.FieldType.boolean), Jvm.Cond.code ({ cls := "java/lang/String", name := "length", desc := "()I" } : Jvm.MethodName) jdk_42_method_54_code (1 : Nat) (Option.some Jvm.ClassFile.FieldType.int), Jvm.Cond.code ({ cls := "java/lang/String", name := "coder", desc := "()B" } : Jvm.MethodName) jdk_42_method_152_code (1 : Nat) (Option.some Jvm.ClassFile.FieldType.byte), Jvm.Cond.code ({ cls := "java/lang/StringLatin1", name := "indexOf", desc := "([BIII)I" } : Jvm.MethodName) jdk_43_method_22_code (4 : Nat) (Option.some Jvm.ClassFile.FieldType.int), Jvm.Cond.code ({ cls := "java/lang/StringLatin1", name := "canEncode", desc := "(I)Z" } : Jvm.MethodName) jdk_43_method_4_code (1 : Nat) (Option.some Jvm.ClassFile.FieldType.boolean), Jvm.Cond.code ({ cls := "java/lang/Math", name := "max", desc := "(II)I" } : Jvm.MethodName) jdk_29_method_65_code (2 : Nat) (Option.some Jvm.ClassFile.FieldType.int), Jvm.Cond.code ({ cls := "java/lang/Math", name := "min", desc := "(II)I" } : Jvm.MethodName) jdk_29_method_69_code (2 : Nat) (Option.some Jvm.ClassFile.FieldType.int), Jvm.Cond.code ({ cls := "java/lang/StringLatin1", name := "indexOfChar", desc := "([BIII)I" } : Jvm.MethodName) jdk_43_method_23_code (6 : Nat) (Option.some Jvm.ClassFile.FieldType.int), Jvm.Cond.code ({ cls := "java/util/Optional", name := "of", desc := "(Ljava/lang/Object;)Ljava/util/Optional;" } : Jvm.MethodName) jdk_32_method_3_code (1 : Nat) (Option.some (Jvm.ClassFile.FieldType.object "java/util/Optional")), Jvm.Cond.code ({ cls := "java/util/Objects", name := "requireNonNull", desc := "(Ljava/lang/Object;)Ljava/lang/Object;" } : Jvm.MethodName) jdk_31_method_10_code (1 : Nat) (Option.some (Jvm.ClassFile.FieldType.object "java/lang/Object")), Jvm.Cond.code ({ cls := "java/util/Optional", name := "<init>", desc := "(Ljava/lang/Object;)V" } : Jvm.MethodName) jdk_32_method_2_code (2 : Nat) (Option.none : Option Jvm.ClassFile.FieldType), Jvm.Cond.code ({ cls := "java/util/Optional", name := "empty", desc := "()Ljava/util/Optional;" } : Jvm.MethodName) jdk_32_method_1_code (1 : Nat) (Option.some (Jvm.ClassFile.FieldType.object "java/util/Optional")), Jvm.Cond.code ({ cls := "com/example/coat_check/coatcheck/client/StrictPolicy", name := "<init>", desc := "()V" } : Jvm.MethodName) prog_34_method_1_code (1 : Nat) (Option.none : Option Jvm.ClassFile.FieldType), Jvm.Cond.code ({ cls := "com/example/coat_check/coatcheck/client/StrictPolicy", name := "allowAccess", desc := "()Z" } : Jvm.MethodName) prog_34_method_3_code (1 : Nat) (Option.some Jvm.ClassFile.FieldType.boolean), Jvm.Cond.code ({ cls := "com/example/coat_check/coatcheck/client/StrictPolicyProcessServerResponsePinLaw", name := "reason", desc := "(I)Lcom/example/coat_check/coatcheck/client/Reason;" } : Jvm.MethodName) method_2_code (1 : Nat) (Option.some (Jvm.ClassFile.FieldType.object "com/example/coat_check/coatcheck/client/Reason")), Jvm.Cond.code ({ cls := "com/example/coat_check/coatcheck/client/StrictPolicy", name := "processServerResponse", desc := "(Lcom/example/coat_check/coatcheck/client/Reason;Ljava/util/Optional;)V" } : Jvm.MethodName) prog_34_method_2_code (3 : Nat) (Option.none : Option Jvm.ClassFile.FieldType)]
set_option maxRecDepth 65536 in
theorem codes_eq : words1.filter isCode = codes1 := rfl
theorem w_codes : ∀ c ∈ words1.filter isCode, c.before args0 about1 = true := by
  rw [codes_eq]
  intro c hc
  simp only [codes1, List.mem_cons, List.not_mem_nil, or_false] at hc
  rcases hc with rfl | rfl | rfl | rfl | rfl | rfl | rfl | rfl | rfl | rfl | rfl | rfl | rfl | rfl | rfl | rfl | rfl | rfl | rfl | rfl | rfl | rfl | rfl | rfl
  · exact w_c0
  · exact w_c1
  · exact w_c2
  · exact w_c3
  · exact w_c4
  · exact w_c5
  · exact w_c6
  · exact w_c7
  · exact w_c8
  · exact w_c9
  · exact w_c10
  · exact w_c11
  · exact w_c12
  · exact w_c13
  · exact w_c14
  · exact w_c15
  · exact w_c16
  · exact w_c17
  · exact w_c18
  · exact w_c19
  · exact w_c20
  · exact w_c21
  · exact w_c22
  · exact w_c23
set_option maxRecDepth 65536 in
theorem w_t1 : (words1.take 24).all (fun c => isCode c || c.before args0 about1) = true := by decide +kernel
set_option maxRecDepth 65536 in
theorem w_t2 : ((words1.drop 24).take 24).all (fun c => isCode c || c.before args0 about1) = true := by decide +kernel
set_option maxRecDepth 65536 in
theorem w_t3 : (((words1.drop 24).drop 24).take 24).all (fun c => isCode c || c.before args0 about1) = true := by decide +kernel
set_option maxRecDepth 65536 in
theorem w_t4 : ((((words1.drop 24).drop 24).drop 24).take 24).all (fun c => isCode c || c.before args0 about1) = true := by decide +kernel
set_option maxRecDepth 65536 in
theorem w_t5 : (((((words1.drop 24).drop 24).drop 24).drop 24).take 24).all (fun c => isCode c || c.before args0 about1) = true := by decide +kernel
set_option maxRecDepth 65536 in
theorem w_t6 : ((((((words1.drop 24).drop 24).drop 24).drop 24).drop 24).take 24).all (fun c => isCode c || c.before args0 about1) = true := by decide +kernel
set_option maxRecDepth 65536 in
theorem w_t7 : ((((((words1.drop 24).drop 24).drop 24).drop 24).drop 24).drop 24).all (fun c => isCode c || c.before args0 about1) = true := by decide +kernel
theorem w_tables : (allAtoms (Jvm.Cond.code x code maxLocals ret :: tables_1)).before args0 about1 = true := by
  rw [allAtoms_all]
  show words1.all (fun c => c.before args0 about1) = true
  refine all_split ?_ w_codes
  rw [← List.take_append_drop 24 words1, List.all_append, w_t1, ← List.take_append_drop 24 (words1.drop 24), List.all_append, w_t2, ← List.take_append_drop 24 ((words1.drop 24).drop 24), List.all_append, w_t3, ← List.take_append_drop 24 (((words1.drop 24).drop 24).drop 24), List.all_append, w_t4, ← List.take_append_drop 24 ((((words1.drop 24).drop 24).drop 24).drop 24), List.all_append, w_t5, ← List.take_append_drop 24 (((((words1.drop 24).drop 24).drop 24).drop 24).drop 24), List.all_append, w_t6, w_t7]
  rfl
set_option maxRecDepth 65536 in
theorem w_rest : rest_1_c.before args0 about1 = true := by decide +kernel
set_option maxRecDepth 65536 in
theorem w_case : (Jvm.Cond.and given_1 narrow_1).before args0 about1 = true := by decide +kernel
set_option maxRecDepth 65536 in
theorem w_consts : constsHeld consts_1 about1 := Jvm.Lit.constsHeldB_iff.mp (by decide +kernel)
theorem w_applies : (headSpec (Jvm.Cond.code x code maxLocals ret :: tables_1) room_1).applies x e0.platform about1 = true :=
  (Spec.applies_iff w_frames).mpr ⟨w_running, w_runnable, w_alone, w_named, w_hears, w_ripe, w_room, w_tables⟩
theorem atStart : AtStart classFile x code maxLocals ret World_1 tables_1 room_1 Calls_1 rest_1 Pre_1 launch0 p0 e0 about1 theMethod args0 below0 :=
  ⟨lists_1, trivial, launch0.admits_env _ _ _, launch0.least_env, fairChoices_fair.cas, fairChoices_fair.clock, w_frames, w_args, w_heap, w_applies, ⟨w_consts, trivial⟩, w_rest, w_case⟩
end start1
theorem witness_1 : WitnessClaimed_1 := ⟨start1.p0, start1.e0, start1.about1, start1.theMethod, start1.args0, start1.below0, start1.atStart⟩
end Jvm.Pilot.@@N@@
