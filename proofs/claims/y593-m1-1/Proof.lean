import JvmDerived
import JvmDerived.Pilot.@@N@@Statement
import JvmDerived.Pilot.@@N@@Code
set_option linter.unusedVariables false
set_option linter.unusedSimpArgs false
namespace Jvm.GoKit
open Sem ClassFile Op Lib Jvm.Stand Jvm.Free Jvm.LawKit Jvm.RoadKit
/-! A small logic of walks: 'Go .. h kc ks SL pc L S': from pc, with locals L, stack S, heap h, the body comes to its end and Q holds. -/
def Sfs (Z : State) (EL : List (String × Nat)) (vm : Vm) (h : Heap) (SL : List Addr) : Prop := ∀ x ∈ SL, x < h.size ∧ Safe Z EL vm h x
def En (w : Bool) (s : State) (o : Outcome) (t : State) (L : List Loc) (k n : Nat) : Prop := ReturnedEndW s o t L k n ∧ (w = false → s.WarmedH t.vm)
def Wk (l : Launch) (Z : State) (y : MethodName) (bytes : ByteArray) (mx : Nat) (rt : Option FieldType) (R : Room) (EL : List (String × Nat)) (n0 : Nat) (w : Bool) (p : Program) (e : Env) (s : State) (m : MethodId) (args : Array Value) (below : List Frame) (meth : Method) (c : Code) (T : State) (h : Heap) (kc ks : Nat) (SL : List Addr) : Prop :=
  (p.tables.exec = Jvm.exec ∧ c.code = bytes ∧ c.maxLocals = mx ∧ meth.sig.returnType = rt ∧ meth.locks = false ∧ meth.name = y.name ∧ ∃ a0, EW Z a0 EL) ∧
  ∃ k0 locs, Stand p l e R (s.setVm T.vm) m args below meth c T locs kc ks ∧ T.heap = h ∧ s.Since T.vm k0 ∧ k0 ≤ h.size ∧ Z.Warmed39 T.vm ∧ T.vm.findClass y.cls = some m.cls ∧ CHr Z EL s.vm s.heap T.vm h ∧ Fr n0 locs ∧ (w = false → s.WarmedH T.vm) ∧ Sfs Z EL T.vm h SL
def Go (l : Launch) (Z : State) (y : MethodName) (bytes : ByteArray) (mx : Nat) (rt : Option FieldType) (R : Room) (EL : List (String × Nat)) (n0 : Nat) (w : Bool) (Q : Option Value → Heap → List Addr → Prop) (h : Heap) (kc ks : Nat) (SL : List Addr) (pc : Nat) (L : Array Slot) (S : List Value) : Prop :=
  ∀ p e s m args below meth c T, Wk l Z y bytes mx rt R EL n0 w p e s m args below meth c T h kc ks SL →
    ∃ s₂ o, Steps p.tables e below (T.setTop (mkF m pc L S)) s₂ ∧ s₂.status = .running ∧ Ended s₂ below o ∧
      ∃ v Ls N, o = .returned v ∧ Q v s₂.heap N ∧ Fr n0 Ls ∧ CHr Z EL s.vm s.heap s₂.vm s₂.heap ∧ Sfs Z EL s₂.vm s₂.heap N ∧ En w s o s₂ Ls R.cells R.slots
/-- a method's contract, for one array of arguments and one heap -/
def Ct (l : Launch) (Z : State) (y : MethodName) (bytes : ByteArray) (mx : Nat) (rt : Option FieldType) (R : Room) (EL : List (String × Nat)) (n0 : Nat) (w : Bool) (ws : List Jvm.Cond) (as' : Array Value) (h0 : Heap) (SL : List Addr) (Q : Option Value → Heap → List Addr → Prop) : Prop :=
  MetFree l y (head1 (Jvm.Cond.code y bytes mx rt :: ws) R) (fun a U => a = as' ∧ Z.Warmed39 U.vm ∧ U.heap = h0 ∧ CHv Z EL U.vm h0 ∧ Sfs Z EL U.vm h0 SL) (fun _ _ _ _ _ => True)
    (fun _ U o U' => ∃ v Ls N, o = .returned v ∧ Q v U'.heap N ∧ Fr n0 Ls ∧ CHr Z EL U.vm U.heap U'.vm U'.heap ∧ Sfs Z EL U'.vm U'.heap N ∧ En w U o U' Ls R.cells R.slots)
theorem nlt {a b : Nat} (h : a < b) : a < b := h
theorem nle {a b : Nat} (h : a ≤ b) : a ≤ b := h
theorem neq {a b : Nat} (h : a = b) : a = b := h
theorem nne {a b : Nat} (h : a ≠ b) : a ≠ b := h
theorem nne2 {x a b : Nat} (h : x ≠ a ∧ x ≠ b) : x ≠ a ∧ x ≠ b := h
theorem sta_keep {Z : State} {h h' : Heap} {C n d : String} {v : Value} {ws : List Addr} (F : Sta Z h C n d v) (K : Keep h h' ws) (q : ∀ x ∈ ws, ∀ cell : Cell, h[x]? = some cell → cell.vm.isStatics = false) : Sta Z h' C n d v := by
  obtain ⟨cf, i, k, f, st, cell, h1, h2, h3, h4, h5, h6, h7⟩ := F
  exact ⟨cf, i, k, f, st, cell, h1, h2, h3, h4, K.2.1 st cell h5 (fun m => by rw [q st m cell h5] at h6; cases h6), h6, h7⟩
theorem arr_keep {Z : State} {h h' : Heap} {a : Addr} {c : Cell} {ty : FieldType} {ws : List Addr} (F : RoadKit.Arr Z h a c ty) (K : Keep h h' ws) (q : a ∉ ws) : RoadKit.Arr Z h' a c ty := ⟨K.2.1 a c F.1 q, F.2⟩
section Closure
variable {l : Launch} {Z : State} {y : MethodName} {bytes : ByteArray} {mx : Nat} {rt : Option FieldType} {R : Room} {EL : List (String × Nat)} {n0 : Nat} {w : Bool} {Q : Option Value → Heap → List Addr → Prop} {h h' : Heap} {kc ks kc' ks' : Nat} {SL SL' : List Addr} {pc pc' : Nat} {L L' : Array Slot} {S S' : List Value} {a0 : Array Value}
variable {p : Program} {e : Env} {s : State} {m : MethodId} {args : Array Value} {below : List Frame} {meth : Method} {c : Code} {T T' : State} {locs' : List Loc}
theorem Sfs.mono (F : Sfs Z EL T.vm h SL) (q : ∀ x ∈ SL', x ∈ SL) : Sfs Z EL T.vm h SL' := fun x hx => F x (q x hx)
theorem Sfs.chr {vm vm1 : Vm} (F : Sfs Z EL vm h SL) (A : CHr Z EL vm h vm1 h') : Sfs Z EL vm1 h' SL := fun x hx => ⟨Nat.lt_of_lt_of_le (F x hx).1 A.2.1, A.safe (F x hx).1 (F x hx).2⟩
theorem Wk.mono (W : Wk l Z y bytes mx rt R EL n0 w p e s m args below meth c T h kc ks SL) (q : ∀ x ∈ SL', x ∈ SL) : Wk l Z y bytes mx rt R EL n0 w p e s m args below meth c T h kc ks SL' := by
  obtain ⟨A, k0, locs, X, e1, h1, h2, h3, h4, h5, h6, h7, h8⟩ := W
  exact ⟨A, k0, locs, X, e1, h1, h2, h3, h4, h5, h6, h7, h8.mono q⟩
/-- a step that interns nothing -/
theorem Wk.next (W : Wk l Z y bytes mx rt R EL n0 w p e s m args below meth c T h kc ks SL) (X' : Stand p l e R (s.setVm T.vm) m args below meth c T' locs' kc' ks') (e' : T'.heap = h') (hC : CHr Z EL T.vm h T.vm h') (N : Fr n0 locs') (hSf : Sfs Z EL T.vm h' SL') :
    Wk l Z y bytes mx rt R EL n0 w p e s m args below meth c T' h' kc' ks' SL' := by
  obtain ⟨⟨b1, b2, b3, b4, b5, b6, a0, b7⟩, k0, locs, X, e1, h1, h2, h3, h4, h5, h6, h7, h8⟩ := W
  have hW : (s.setVm T.vm).WarmedH T'.vm := X'.warmed
  have A := CHv.at X' h3 b7 hC.1
  have Xr : Stand p l e R (s.setVm T'.vm) m args below meth c T' locs' kc' ks' := X'.retabled hW.wide
  refine ⟨⟨b1, b2, b3, b4, b5, b6, a0, b7⟩, k0, locs', Xr, e', h1.trans (hW.since _) (Nat.le_refl _), Nat.le_trans h2 hC.2.1, State.Warmed39.trans (t := s.setVm T.vm) h3 hW.wide, ?_, (h5.trans hC).trans A, N, fun q => State.WarmedH.trans (t := s.setVm T.vm) (h7 q) hW, hSf.chr A⟩
  rw [hW.alike.findClass]; exact h4
/-- a step that may intern -/
theorem Wk.nextS (W : Wk l Z y bytes mx rt R EL n0 w p e s m args below meth c T h kc ks SL) (X' : Stand p l e R (s.setVm T'.vm) m args below meth c T' locs' kc' ks') (e' : T'.heap = h') {n1 : Nat} (hS : (s.setVm T.vm).Since T'.vm n1) (hn1 : h.size ≤ n1) (hn : n1 ≤ h'.size) (hC : CHr Z EL T.vm h T'.vm h') (N : Fr n0 locs') (hw : w = false → (s.setVm T.vm).WarmedH T'.vm) (hSf : Sfs Z EL T'.vm h' SL') :
    Wk l Z y bytes mx rt R EL n0 w p e s m args below meth c T' h' kc' ks' SL' := by
  obtain ⟨⟨b1, b2, b3, b4, b5, b6, a0, b7⟩, k0, locs, X, e1, h1, h2, h3, h4, h5, h6, h7, h8⟩ := W
  refine ⟨⟨b1, b2, b3, b4, b5, b6, a0, b7⟩, n1, locs', X', e', h1.trans hS (Nat.le_trans h2 hn1), hn, State.Warmed39.trans (t := s.setVm T.vm) h3 hS.1, ?_, h5.trans hC, N, fun q => State.WarmedH.trans (t := s.setVm T.vm) (h7 q) (hw q), hSf⟩
  rw [hS.1.alike.findClass]; exact h4
theorem Go.st (hst : ∀ {p : Program} {e : Env} {s : State} {m : MethodId} {args : Array Value} {below : List Frame} {meth : Method} {c : Code} {T : State}, Wk l Z y bytes mx rt R EL n0 w p e s m args below meth c T h kc ks SL → ∀ t, Steps p.tables e below (T.setTop (mkF m pc' L' S')) t → Steps p.tables e below (T.setTop (mkF m pc L S)) t)
    (k : Go l Z y bytes mx rt R EL n0 w Q h kc ks SL pc' L' S') : Go l Z y bytes mx rt R EL n0 w Q h kc ks SL pc L S := by
  intro p e s m args below meth c T W
  obtain ⟨s₂, o, st, r⟩ := k p e s m args below meth c T W
  exact ⟨s₂, o, hst W _ st, r⟩
theorem Go.mono (q : ∀ x ∈ SL', x ∈ SL) (k : Go l Z y bytes mx rt R EL n0 w Q h kc ks SL' pc L S) : Go l Z y bytes mx rt R EL n0 w Q h kc ks SL pc L S := fun p e s m args below meth c T W => k p e s m args below meth c T (W.mono q)
theorem Go.post {Q' : Option Value → Heap → List Addr → Prop} (q : ∀ v h N, Q' v h N → Q v h N) (k : Go l Z y bytes mx rt R EL n0 w Q' h kc ks SL pc L S) : Go l Z y bytes mx rt R EL n0 w Q h kc ks SL pc L S := fun p e s m args below meth c T W => by
  obtain ⟨s₂, o, st, r1, r2, v, Ls, N, r3, r4, r5⟩ := k p e s m args below meth c T W
  exact ⟨s₂, o, st, r1, r2, v, Ls, N, r3, q _ _ _ r4, r5⟩
theorem Ct.of {ws : List Jvm.Cond} {as' : Array Value} {h0 : Heap} (hp : plainFor y = true) (hEL : EW Z a0 EL) {L0 : Array Slot} (hE : ∀ m, entryFrame m as' mx = mkF m 0 L0 []) (G : Go l Z y bytes mx rt R EL n0 w Q h0 0 0 SL 0 L0 []) :
    Ct l Z y bytes mx rt R EL n0 w ws as' h0 SL Q := by
  refine MetFree.of_bodySF hp hisR ?_
  intro p e s m args below meth c s₁ Bd hml0 hP hK
  obtain ⟨rfl, hZ, hh, hC, hSf⟩ := hP
  have X0 : Stand p l e R (s.setVm s.vm) m args below meth c s₁ [] 0 0 := Stand.of_body Bd
  have e0 : s₁.heap = h0 := by rw [← hh, Bd.state]; rfl
  have hW : s.WarmedH s₁.vm := X0.warmed
  have A := CHv.at X0 hZ hEL hC
  have hl : meth.locks = false := BodyLoose.notSynchronized Bd
  rw [hE]
  refine G p e s m args below meth c s₁ ⟨⟨Bd.exec, Bd.bytes, hml0, Bd.returns, hl, (name_of_methodNamed Bd.named Bd.method).1, a0, hEL⟩, h0.size, [], X0.retabled hW.wide, e0, hW.since _, Nat.le_refl _, State.Warmed39.trans (t := s) hZ hW.wide, ?_, ?_, Fr.nil n0, fun _ => hW, hSf.chr A⟩
  · rw [hW.alike.findClass]; exact findClass_of_methodNamed Bd.named
  · rw [hh]; exact A
/-- a callee's contract pays the call -/
theorem Ct.pay {z : MethodName} {bytesZ : ByteArray} {mxZ : Nat} {rtZ : Option FieldType} {rm : Room} {as' : Array Value} {QZ : Option Value → Heap → List Addr → Prop} {len W : Nat} {vm0 : Vm} (hM : Ct l Z z bytesZ mxZ rtZ rm EL n0 w [] as' h SL' QZ)
    (hZ : Z.Warmed39 vm0) (hEL : EW Z a0 EL) (H : CHv Z EL vm0 h) (hSf : Sfs Z EL vm0 h SL') {a1 : Array Value} (wc : (Jvm.Cond.code z bytesZ mxZ rtZ).before a1 Z = true) (wz : (Jvm.Cond.initialized z.cls).before a1 Z = true) (hf : rm.frames + 1 ≤ R.frames) (hl : W + (mxZ + 11) + rm.locals ≤ R.locals) :
    BackS l R p e below (s.setVm vm0) args z len W (fun A a => a = as' ∧ A.U.heap = h ∧ A.cells + rm.cells ≤ R.cells ∧ A.slots + rm.slots ≤ R.slots)
      (fun A _ v B => ∃ Ls N, QZ v B.U.heap N ∧ Fr n0 Ls ∧ B.locs = A.locs ++ Ls ∧ B.cells = A.cells + rm.cells ∧ B.slots = A.slots + rm.slots ∧ CHr Z EL vm0 h B.U.vm B.U.heap ∧ Sfs Z EL B.U.vm B.U.heap N ∧ (w = false → (s.setVm vm0).WarmedH B.U.vm)) :=
  BackS.of_freeW (bytes := bytesZ) (maxL := mxZ) (ret := rtZ) (E := fun _ first o t L k n => k = rm.cells ∧ n = rm.slots ∧ (∃ v N, o = .returned v ∧ QZ v t.heap N ∧ Fr n0 L ∧ Sfs Z EL t.vm t.heap N) ∧ CHr Z EL first.vm first.heap t.vm t.heap ∧ (w = false → first.WarmedH t.vm)) hM hf hl
    (fun m meth c A a Y hp => have hU : Z.Warmed39 A.U.vm := wtrans (s := s.setVm vm0) hZ Y.warmed
      ⟨by show (Jvm.Cond.and _ .tt).before a A.U = true; rw [Cond.before_and, mv hU wc]; rfl, mv hU wc, mv hU wz, hp.2.2.1, hp.2.2.2⟩)
    (fun m meth c A a g mk Y hp => have A9 : CHr Z EL vm0 h A.U.vm h := CHv.at (T := A.U) Y hZ hEL H
      ⟨hp.1, wtrans (s := s.setVm vm0) hZ Y.warmed, hp.2.1, A9.1, hSf.chr A9⟩) (fun _ _ _ _ _ _ _ _ _ => trivial)
    (fun _ _ _ _ ⟨v, L, N, h1, h2, h3, h4, h5, h6⟩ => ⟨L, _, _, h6.1, rfl, rfl, ⟨v, N, h1, h2, h3, h5⟩, h4, h6.2⟩)
    (fun m meth c A a g mk v t L k n Y hp _ _ ⟨e1, e2, ⟨v', N, e3, e4, e5, e6⟩, e7, e8⟩ => by
      cases e3; subst e1 e2
      refine ⟨L, N, e4, e5, rfl, rfl, rfl, (CHv.at Y hZ hEL H).trans ?_, e6, fun q => State.WarmedH.trans (s := s.setVm vm0) (t := A.U) Y.warmed (e8 q)⟩
      rw [← hp.2.1]; exact e7)
end Closure
section Rules
abbrev usr (x y : Int32) : Int32 := (x.toUInt32 >>> (y &&& 31).toUInt32).toInt32
def cP : ClassFile.Cond → Int32 → Int32 → Prop
  | .eq, x, y => x = y
  | .ne, x, y => ¬ x = y
  | .lt, x, y => x < y
  | .ge, x, y => ¬ x < y
  | .gt, x, y => y < x
  | .le, x, y => ¬ y < x
def cneg : ClassFile.Cond → ClassFile.Cond
  | .eq => .ne
  | .ne => .eq
  | .lt => .ge
  | .ge => .lt
  | .gt => .le
  | .le => .gt
theorem ic_t {cd : ClassFile.Cond} {x y : Int32} (h : cP cd x y) : if_icmp.holds cd x y = true := by
  cases cd
  · exact (teq h).1
  · exact (feq h).2
  · exact (tlt h).1
  · exact (flt h).2.1
  · exact (tlt h).2.2.1
  · exact (flt h).2.2.2
theorem ic_f {cd : ClassFile.Cond} {x y : Int32} (h : cP (cneg cd) x y) : if_icmp.holds cd x y = false := by
  cases cd
  · exact (feq h).1
  · exact (teq h).2
  · exact (flt h).1
  · exact (tlt h).2.1
  · exact (flt h).2.2.1
  · exact (tlt h).2.2.2
theorem if_ic (cd : ClassFile.Cond) (x : Int32) : ifCond.holds cd x = if_icmp.holds cd x 0 := by cases cd <;> rfl
theorem if_t {cd : ClassFile.Cond} {x : Int32} (h : cP cd x 0) : ifCond.holds cd x = true := (if_ic cd x).trans (ic_t h)
theorem if_f {cd : ClassFile.Cond} {x : Int32} (h : cP (cneg cd) x 0) : ifCond.holds cd x = false := (if_ic cd x).trans (ic_f h)
theorem cP_em (cd : ClassFile.Cond) (x y : Int32) : cP cd x y ∨ cP (cneg cd) x y := by
  cases cd <;> simp only [cP, cneg] <;> first | exact Decidable.em _ | exact (Decidable.em _).symm
variable {l : Launch} {Z : State} {y : MethodName} {bytes : ByteArray} {mx : Nat} {rt : Option FieldType} {R : Room} {EL : List (String × Nat)} {n0 : Nat} {w : Bool} {Q : Option Value → Heap → List Addr → Prop} {h h' : Heap} {kc ks kc' ks' : Nat} {SL SL' : List Addr} {pc pc' pc'' : Nat} {L L' : Array Slot} {S S' : List Value} {a0 a1 : Array Value}
theorem Go.re (q1 : pc = pc') (q2 : L = L') (q3 : S = S') (K : Go l Z y bytes mx rt R EL n0 w Q h kc ks SL pc' L' S') : Go l Z y bytes mx rt R EL n0 w Q h kc ks SL pc L S := by subst q1 q2 q3; exact K
theorem Go.aloadN {k : Fin 4} {v : Value} (hd : decode bytes pc = .ok (.aload_n k, 1)) (hl : L[k.val]? = some (.val v)) (hv : v.isRef = true) (q : pc + 1 = pc') (K : Go l Z y bytes mx rt R EL n0 w Q h kc ks SL pc' L (v :: S)) : Go l Z y bytes mx rt R EL n0 w Q h kc ks SL pc L S := Go.st (fun W t kk => by obtain ⟨⟨hx, hby, -⟩, _, _, X, -⟩ := W; subst q; exact XS.aloadN X.here hx rfl (hb hby hd) hl hv kk) K
theorem Go.aload {k : Nat} {v : Value} (hd : decode bytes pc = .ok (.aload k, 2)) (hl : L[k]? = some (.val v)) (hv : v.isRef = true) (q : pc + 2 = pc') (K : Go l Z y bytes mx rt R EL n0 w Q h kc ks SL pc' L (v :: S)) : Go l Z y bytes mx rt R EL n0 w Q h kc ks SL pc L S := Go.st (fun W t kk => by obtain ⟨⟨hx, hby, -⟩, _, _, X, -⟩ := W; subst q; exact XS.aload X.here hx rfl (hb hby hd) hl hv kk) K
theorem Go.iloadN {k : Fin 4} {v : Int32} (hd : decode bytes pc = .ok (.iload_n k, 1)) (hl : L[k.val]? = some (.val (.int v))) (q : pc + 1 = pc') (K : Go l Z y bytes mx rt R EL n0 w Q h kc ks SL pc' L (.int v :: S)) : Go l Z y bytes mx rt R EL n0 w Q h kc ks SL pc L S := Go.st (fun W t kk => by obtain ⟨⟨hx, hby, -⟩, _, _, X, -⟩ := W; subst q; exact XS.iloadN X.here hx rfl (hb hby hd) hl kk) K
theorem Go.iload {k : Nat} {v : Int32} (hd : decode bytes pc = .ok (.iload k, 2)) (hl : L[k]? = some (.val (.int v))) (q : pc + 2 = pc') (K : Go l Z y bytes mx rt R EL n0 w Q h kc ks SL pc' L (.int v :: S)) : Go l Z y bytes mx rt R EL n0 w Q h kc ks SL pc L S := Go.st (fun W t kk => by obtain ⟨⟨hx, hby, -⟩, _, _, X, -⟩ := W; subst q; exact XS.iload X.here hx rfl (hb hby hd) hl kk) K
theorem Go.lloadN {k : Fin 4} {v : Int64} (hd : decode bytes pc = .ok (.lload_n k, 1)) (hl : L[k.val]? = some (.val (.long v))) (q : pc + 1 = pc') (K : Go l Z y bytes mx rt R EL n0 w Q h kc ks SL pc' L (.long v :: S)) : Go l Z y bytes mx rt R EL n0 w Q h kc ks SL pc L S := Go.st (fun W t kk => by obtain ⟨⟨hx, hby, -⟩, _, _, X, -⟩ := W; subst q; exact XS.lloadN X.here hx rfl (hb hby hd) hl kk) K
theorem Go.lload {k : Nat} {v : Int64} (hd : decode bytes pc = .ok (.lload k, 2)) (hl : L[k]? = some (.val (.long v))) (q : pc + 2 = pc') (K : Go l Z y bytes mx rt R EL n0 w Q h kc ks SL pc' L (.long v :: S)) : Go l Z y bytes mx rt R EL n0 w Q h kc ks SL pc L S := Go.st (fun W t kk => by obtain ⟨⟨hx, hby, -⟩, _, _, X, -⟩ := W; subst q; exact XS.lload X.here hx rfl (hb hby hd) hl kk) K
theorem Go.istoreN {k : Fin 4} {v : Int32} (L' : Array Slot) (hd : decode bytes pc = .ok (.istore_n k, 1)) (hl : storeLocals L k.val (.int v) = some L') (q : pc + 1 = pc') (K : Go l Z y bytes mx rt R EL n0 w Q h kc ks SL pc' L' S) : Go l Z y bytes mx rt R EL n0 w Q h kc ks SL pc L (.int v :: S) := Go.st (fun W t kk => by obtain ⟨⟨hx, hby, -⟩, _, _, X, -⟩ := W; subst q; exact XS.istoreN X.here hx rfl (hb hby hd) rfl hl kk) K
theorem Go.istore {k : Nat} {v : Int32} (L' : Array Slot) (hd : decode bytes pc = .ok (.istore k, 2)) (hl : storeLocals L k (.int v) = some L') (q : pc + 2 = pc') (K : Go l Z y bytes mx rt R EL n0 w Q h kc ks SL pc' L' S) : Go l Z y bytes mx rt R EL n0 w Q h kc ks SL pc L (.int v :: S) := Go.st (fun W t kk => by obtain ⟨⟨hx, hby, -⟩, _, _, X, -⟩ := W; subst q; exact XS.istore X.here hx rfl (hb hby hd) rfl hl kk) K
theorem Go.lstoreN {k : Fin 4} {v : Int64} (L' : Array Slot) (hd : decode bytes pc = .ok (.lstore_n k, 1)) (hl : storeLocals L k.val (.long v) = some L') (q : pc + 1 = pc') (K : Go l Z y bytes mx rt R EL n0 w Q h kc ks SL pc' L' S) : Go l Z y bytes mx rt R EL n0 w Q h kc ks SL pc L (.long v :: S) := Go.st (fun W t kk => by obtain ⟨⟨hx, hby, -⟩, _, _, X, -⟩ := W; subst q; exact XS.lstoreN X.here hx rfl (hb hby hd) rfl hl kk) K
theorem Go.lstore {k : Nat} {v : Int64} (L' : Array Slot) (hd : decode bytes pc = .ok (.lstore k, 2)) (hl : storeLocals L k (.long v) = some L') (q : pc + 2 = pc') (K : Go l Z y bytes mx rt R EL n0 w Q h kc ks SL pc' L' S) : Go l Z y bytes mx rt R EL n0 w Q h kc ks SL pc L (.long v :: S) := Go.st (fun W t kk => by obtain ⟨⟨hx, hby, -⟩, _, _, X, -⟩ := W; subst q; exact XS.lstore X.here hx rfl (hb hby hd) rfl hl kk) K
theorem Go.astoreN {k : Fin 4} {v : Value} (L' : Array Slot) (hd : decode bytes pc = .ok (.astore_n k, 1)) (hv : v.isRef = true) (hl : storeLocals L k.val v = some L') (q : pc + 1 = pc') (K : Go l Z y bytes mx rt R EL n0 w Q h kc ks SL pc' L' S) : Go l Z y bytes mx rt R EL n0 w Q h kc ks SL pc L (v :: S) := Go.st (fun W t kk => by obtain ⟨⟨hx, hby, -⟩, _, _, X, -⟩ := W; subst q; exact XS.astoreN X.here hx rfl (hb hby hd) rfl hv hl kk) K
theorem Go.astore {k : Nat} {v : Value} (L' : Array Slot) (hd : decode bytes pc = .ok (.astore k, 2)) (hv : v.isRef = true) (hl : storeLocals L k v = some L') (q : pc + 2 = pc') (K : Go l Z y bytes mx rt R EL n0 w Q h kc ks SL pc' L' S) : Go l Z y bytes mx rt R EL n0 w Q h kc ks SL pc L (v :: S) := Go.st (fun W t kk => by obtain ⟨⟨hx, hby, -⟩, _, _, X, -⟩ := W; subst q; exact XS.astore X.here hx rfl (hb hby hd) rfl hv hl kk) K
theorem Go.iconst {i : Int} (z : Int32) (hd : decode bytes pc = .ok (.iconst i, 1)) (hz : Int32.ofInt i = z) (q : pc + 1 = pc') (K : Go l Z y bytes mx rt R EL n0 w Q h kc ks SL pc' L (.int z :: S)) : Go l Z y bytes mx rt R EL n0 w Q h kc ks SL pc L S := Go.st (fun W t kk => by obtain ⟨⟨hx, hby, -⟩, _, _, X, -⟩ := W; subst q; subst hz; exact XS.iconst X.here hx rfl (hb hby hd) kk) K
theorem Go.bipush {i : Int} (z : Int32) (hd : decode bytes pc = .ok (.bipush i, 2)) (hz : (Int8.ofInt i).toInt32 = z) (q : pc + 2 = pc') (K : Go l Z y bytes mx rt R EL n0 w Q h kc ks SL pc' L (.int z :: S)) : Go l Z y bytes mx rt R EL n0 w Q h kc ks SL pc L S := Go.st (fun W t kk => by obtain ⟨⟨hx, hby, -⟩, _, _, X, -⟩ := W; subst q; subst hz; exact XS.bipush X.here hx rfl (hb hby hd) kk) K
theorem Go.sipush {i : Int} (z : Int32) (hd : decode bytes pc = .ok (.sipush i, 3)) (hz : (Int16.ofInt i).toInt32 = z) (q : pc + 3 = pc') (K : Go l Z y bytes mx rt R EL n0 w Q h kc ks SL pc' L (.int z :: S)) : Go l Z y bytes mx rt R EL n0 w Q h kc ks SL pc L S := Go.st (fun W t kk => by obtain ⟨⟨hx, hby, -⟩, _, _, X, -⟩ := W; subst q; subst hz; exact XS.sipush X.here hx rfl (hb hby hd) kk) K
theorem Go.lconst {k : Fin 2} (z : Int64) (hd : decode bytes pc = .ok (.lconst k, 1)) (hz : Int64.ofNat k.val = z) (q : pc + 1 = pc') (K : Go l Z y bytes mx rt R EL n0 w Q h kc ks SL pc' L (.long z :: S)) : Go l Z y bytes mx rt R EL n0 w Q h kc ks SL pc L S := Go.st (fun W t kk => by obtain ⟨⟨hx, hby, -⟩, _, _, X, -⟩ := W; subst q; subst hz; exact XS.lconst X.here hx rfl (hb hby hd) kk) K
theorem Go.aconstNull (hd : decode bytes pc = .ok (.aconst_null, 1)) (q : pc + 1 = pc') (K : Go l Z y bytes mx rt R EL n0 w Q h kc ks SL pc' L (.null :: S)) : Go l Z y bytes mx rt R EL n0 w Q h kc ks SL pc L S := Go.st (fun W t kk => by obtain ⟨⟨hx, hby, -⟩, _, _, X, -⟩ := W; subst q; exact XS.aconstNull X.here hx rfl (hb hby hd) kk) K
theorem Go.iadd {x y' : Int32} (hd : decode bytes pc = .ok (.iadd, 1)) (q : pc + 1 = pc') (K : Go l Z y bytes mx rt R EL n0 w Q h kc ks SL pc' L (.int (x + y') :: S)) : Go l Z y bytes mx rt R EL n0 w Q h kc ks SL pc L (.int y' :: .int x :: S) := Go.st (fun W t kk => by obtain ⟨⟨hx, hby, -⟩, _, _, X, -⟩ := W; subst q; exact XS.iadd X.here hx rfl (hb hby hd) rfl kk) K
theorem Go.isub {x y' : Int32} (hd : decode bytes pc = .ok (.isub, 1)) (q : pc + 1 = pc') (K : Go l Z y bytes mx rt R EL n0 w Q h kc ks SL pc' L (.int (x - y') :: S)) : Go l Z y bytes mx rt R EL n0 w Q h kc ks SL pc L (.int y' :: .int x :: S) := Go.st (fun W t kk => by obtain ⟨⟨hx, hby, -⟩, _, _, X, -⟩ := W; subst q; exact XS.isub X.here hx rfl (hb hby hd) rfl kk) K
theorem Go.iand {x y' : Int32} (hd : decode bytes pc = .ok (.iand, 1)) (q : pc + 1 = pc') (K : Go l Z y bytes mx rt R EL n0 w Q h kc ks SL pc' L (.int (x &&& y') :: S)) : Go l Z y bytes mx rt R EL n0 w Q h kc ks SL pc L (.int y' :: .int x :: S) := Go.st (fun W t kk => by obtain ⟨⟨hx, hby, -⟩, _, _, X, -⟩ := W; subst q; exact XS.iand X.here hx rfl (hb hby hd) rfl kk) K
theorem Go.ior {x y' : Int32} (hd : decode bytes pc = .ok (.ior, 1)) (q : pc + 1 = pc') (K : Go l Z y bytes mx rt R EL n0 w Q h kc ks SL pc' L (.int (x ||| y') :: S)) : Go l Z y bytes mx rt R EL n0 w Q h kc ks SL pc L (.int y' :: .int x :: S) := Go.st (fun W t kk => by obtain ⟨⟨hx, hby, -⟩, _, _, X, -⟩ := W; subst q; exact XS.ior X.here hx rfl (hb hby hd) rfl kk) K
theorem Go.ixor {x y' : Int32} (hd : decode bytes pc = .ok (.ixor, 1)) (q : pc + 1 = pc') (K : Go l Z y bytes mx rt R EL n0 w Q h kc ks SL pc' L (.int (x ^^^ y') :: S)) : Go l Z y bytes mx rt R EL n0 w Q h kc ks SL pc L (.int y' :: .int x :: S) := Go.st (fun W t kk => by obtain ⟨⟨hx, hby, -⟩, _, _, X, -⟩ := W; subst q; exact XS.ixor X.here hx rfl (hb hby hd) rfl kk) K
theorem Go.imul {x y' : Int32} (hd : decode bytes pc = .ok (.imul, 1)) (q : pc + 1 = pc') (K : Go l Z y bytes mx rt R EL n0 w Q h kc ks SL pc' L (.int (x * y') :: S)) : Go l Z y bytes mx rt R EL n0 w Q h kc ks SL pc L (.int y' :: .int x :: S) := Go.st (fun W t kk => by obtain ⟨⟨hx, hby, -⟩, _, _, X, -⟩ := W; subst q; exact XS.imul X.here hx rfl (hb hby hd) rfl kk) K
theorem Go.ishl {x y' : Int32} (hd : decode bytes pc = .ok (.ishl, 1)) (q : pc + 1 = pc') (K : Go l Z y bytes mx rt R EL n0 w Q h kc ks SL pc' L (.int (x <<< (y' &&& 31)) :: S)) : Go l Z y bytes mx rt R EL n0 w Q h kc ks SL pc L (.int y' :: .int x :: S) := Go.st (fun W t kk => by obtain ⟨⟨hx, hby, -⟩, _, _, X, -⟩ := W; subst q; exact XS.ishl X.here hx rfl (hb hby hd) rfl kk) K
theorem Go.ishr {x y' : Int32} (hd : decode bytes pc = .ok (.ishr, 1)) (q : pc + 1 = pc') (K : Go l Z y bytes mx rt R EL n0 w Q h kc ks SL pc' L (.int (x >>> (y' &&& 31)) :: S)) : Go l Z y bytes mx rt R EL n0 w Q h kc ks SL pc L (.int y' :: .int x :: S) := Go.st (fun W t kk => by obtain ⟨⟨hx, hby, -⟩, _, _, X, -⟩ := W; subst q; exact XS.ishr X.here hx rfl (hb hby hd) rfl kk) K
theorem Go.iushr {x y' : Int32} (hd : decode bytes pc = .ok (.iushr, 1)) (q : pc + 1 = pc') (K : Go l Z y bytes mx rt R EL n0 w Q h kc ks SL pc' L (.int (usr x y') :: S)) : Go l Z y bytes mx rt R EL n0 w Q h kc ks SL pc L (.int y' :: .int x :: S) := Go.st (fun W t kk => by obtain ⟨⟨hx, hby, -⟩, _, _, X, -⟩ := W; subst q; exact XS.iushr X.here hx rfl (hb hby hd) rfl kk) K
theorem Go.ladd {x y' : Int64} (hd : decode bytes pc = .ok (.ladd, 1)) (q : pc + 1 = pc') (K : Go l Z y bytes mx rt R EL n0 w Q h kc ks SL pc' L (.long (x + y') :: S)) : Go l Z y bytes mx rt R EL n0 w Q h kc ks SL pc L (.long y' :: .long x :: S) := Go.st (fun W t kk => by obtain ⟨⟨hx, hby, -⟩, _, _, X, -⟩ := W; subst q; exact XS.ladd X.here hx rfl (hb hby hd) rfl kk) K
theorem Go.lsub {x y' : Int64} (hd : decode bytes pc = .ok (.lsub, 1)) (q : pc + 1 = pc') (K : Go l Z y bytes mx rt R EL n0 w Q h kc ks SL pc' L (.long (x - y') :: S)) : Go l Z y bytes mx rt R EL n0 w Q h kc ks SL pc L (.long y' :: .long x :: S) := Go.st (fun W t kk => by obtain ⟨⟨hx, hby, -⟩, _, _, X, -⟩ := W; subst q; exact XS.lsub X.here hx rfl (hb hby hd) rfl kk) K
theorem Go.land {x y' : Int64} (hd : decode bytes pc = .ok (.land, 1)) (q : pc + 1 = pc') (K : Go l Z y bytes mx rt R EL n0 w Q h kc ks SL pc' L (.long (x &&& y') :: S)) : Go l Z y bytes mx rt R EL n0 w Q h kc ks SL pc L (.long y' :: .long x :: S) := Go.st (fun W t kk => by obtain ⟨⟨hx, hby, -⟩, _, _, X, -⟩ := W; subst q; exact XS.land X.here hx rfl (hb hby hd) rfl kk) K
theorem Go.lor {x y' : Int64} (hd : decode bytes pc = .ok (.lor, 1)) (q : pc + 1 = pc') (K : Go l Z y bytes mx rt R EL n0 w Q h kc ks SL pc' L (.long (x ||| y') :: S)) : Go l Z y bytes mx rt R EL n0 w Q h kc ks SL pc L (.long y' :: .long x :: S) := Go.st (fun W t kk => by obtain ⟨⟨hx, hby, -⟩, _, _, X, -⟩ := W; subst q; exact XS.lor X.here hx rfl (hb hby hd) rfl kk) K
theorem Go.lxor {x y' : Int64} (hd : decode bytes pc = .ok (.lxor, 1)) (q : pc + 1 = pc') (K : Go l Z y bytes mx rt R EL n0 w Q h kc ks SL pc' L (.long (x ^^^ y') :: S)) : Go l Z y bytes mx rt R EL n0 w Q h kc ks SL pc L (.long y' :: .long x :: S) := Go.st (fun W t kk => by obtain ⟨⟨hx, hby, -⟩, _, _, X, -⟩ := W; subst q; exact XS.lxor X.here hx rfl (hb hby hd) rfl kk) K
theorem Go.lmul {x y' : Int64} (hd : decode bytes pc = .ok (.lmul, 1)) (q : pc + 1 = pc') (K : Go l Z y bytes mx rt R EL n0 w Q h kc ks SL pc' L (.long (x * y') :: S)) : Go l Z y bytes mx rt R EL n0 w Q h kc ks SL pc L (.long y' :: .long x :: S) := Go.st (fun W t kk => by obtain ⟨⟨hx, hby, -⟩, _, _, X, -⟩ := W; subst q; exact XS.lmul X.here hx rfl (hb hby hd) rfl kk) K
theorem Go.irem {x y' : Int32} (hd : decode bytes pc = .ok (.irem, 1)) (hy : y' ≠ 0) (q : pc + 1 = pc') (K : Go l Z y bytes mx rt R EL n0 w Q h kc ks SL pc' L (.int (x % y') :: S)) : Go l Z y bytes mx rt R EL n0 w Q h kc ks SL pc L (.int y' :: .int x :: S) := Go.st (fun W t kk => by obtain ⟨⟨hx, hby, -⟩, _, _, X, -⟩ := W; subst q; exact iremM X hx rfl (hb hby hd) rfl hy kk) K
theorem Go.idiv {x y' : Int32} (hd : decode bytes pc = .ok (.idiv, 1)) (hy : y' ≠ 0) (q : pc + 1 = pc') (K : Go l Z y bytes mx rt R EL n0 w Q h kc ks SL pc' L (.int (x / y') :: S)) : Go l Z y bytes mx rt R EL n0 w Q h kc ks SL pc L (.int y' :: .int x :: S) := Go.st (fun W t kk => by obtain ⟨⟨hx, hby, -⟩, _, _, X, -⟩ := W; subst q; exact XS.idiv X.here hx rfl (hb hby hd) rfl hy kk) K
theorem Go.ineg {x : Int32} (hd : decode bytes pc = .ok (.ineg, 1)) (q : pc + 1 = pc') (K : Go l Z y bytes mx rt R EL n0 w Q h kc ks SL pc' L (.int (-x) :: S)) : Go l Z y bytes mx rt R EL n0 w Q h kc ks SL pc L (.int x :: S) := Go.st (fun W t kk => by obtain ⟨⟨hx, hby, -⟩, _, _, X, -⟩ := W; subst q; exact XS.ineg X.here hx rfl (hb hby hd) rfl kk) K
theorem Go.lcmp {x y' : Int64} (hd : decode bytes pc = .ok (.lcmp, 1)) (q : pc + 1 = pc') (K : Go l Z y bytes mx rt R EL n0 w Q h kc ks SL pc' L (.int (lcmpW x y') :: S)) : Go l Z y bytes mx rt R EL n0 w Q h kc ks SL pc L (.long y' :: .long x :: S) := Go.st (fun W t kk => by obtain ⟨⟨hx, hby, -⟩, _, _, X, -⟩ := W; subst q; exact XS.lcmp X.here hx rfl (hb hby hd) rfl kk) K
theorem Go.dup {x : Value} (hd : decode bytes pc = .ok (.dup, 1)) (hc : x.category = 1) (q : pc + 1 = pc') (K : Go l Z y bytes mx rt R EL n0 w Q h kc ks SL pc' L (x :: x :: S)) : Go l Z y bytes mx rt R EL n0 w Q h kc ks SL pc L (x :: S) := Go.st (fun W t kk => by obtain ⟨⟨hx, hby, -⟩, _, _, X, -⟩ := W; subst q; exact XS.dup X.here hx rfl (hb hby hd) rfl hc kk) K
theorem Go.dupX1 {x x2 : Value} (hd : decode bytes pc = .ok (.dup_x1, 1)) (hc : x.category = 1) (hc' : x2.category = 1) (q : pc + 1 = pc') (K : Go l Z y bytes mx rt R EL n0 w Q h kc ks SL pc' L (x :: x2 :: x :: S)) : Go l Z y bytes mx rt R EL n0 w Q h kc ks SL pc L (x :: x2 :: S) := Go.st (fun W t kk => by obtain ⟨⟨hx, hby, -⟩, _, _, X, -⟩ := W; subst q; exact XS.dupX1 X.here hx rfl (hb hby hd) rfl hc hc' kk) K
theorem Go.pop {x : Value} (hd : decode bytes pc = .ok (.pop, 1)) (hc : x.category = 1) (q : pc + 1 = pc') (K : Go l Z y bytes mx rt R EL n0 w Q h kc ks SL pc' L S) : Go l Z y bytes mx rt R EL n0 w Q h kc ks SL pc L (x :: S) := Go.st (fun W t kk => by obtain ⟨⟨hx, hby, -⟩, _, _, X, -⟩ := W; subst q; exact XS.pop X.here hx rfl (hb hby hd) rfl hc kk) K
theorem Go.iinc {k : Nat} {cst : Int} {x : Int32} (z : Int32) (L' : Array Slot) (hd : decode bytes pc = .ok (.iinc k cst, 3)) (hl : L[k]? = some (.val (.int x))) (hz : x + Int32.ofInt cst = z) (hl' : storeLocals L k (.int z) = some L') (q : pc + 3 = pc') (K : Go l Z y bytes mx rt R EL n0 w Q h kc ks SL pc' L' S) : Go l Z y bytes mx rt R EL n0 w Q h kc ks SL pc L S := Go.st (fun W t kk => by obtain ⟨⟨hx, hby, -⟩, _, _, X, -⟩ := W; subst q; subst hz; exact XS.iinc X.here hx rfl (hb hby hd) hl hl' kk) K
theorem Go.i2b {x : Int32} (hd : decode bytes pc = .ok (.i2b, 1)) (q : pc + 1 = pc') (K : Go l Z y bytes mx rt R EL n0 w Q h kc ks SL pc' L (.int (x.toInt8.toInt32) :: S)) : Go l Z y bytes mx rt R EL n0 w Q h kc ks SL pc L (.int x :: S) := Go.st (fun W t kk => by obtain ⟨⟨hx, hby, -⟩, _, _, X, -⟩ := W; subst q; exact XS.i2b X.here hx rfl (hb hby hd) rfl kk) K
theorem Go.i2c {x : Int32} (hd : decode bytes pc = .ok (.i2c, 1)) (q : pc + 1 = pc') (K : Go l Z y bytes mx rt R EL n0 w Q h kc ks SL pc' L (.int (nar .char x) :: S)) : Go l Z y bytes mx rt R EL n0 w Q h kc ks SL pc L (.int x :: S) := Go.st (fun W t kk => by obtain ⟨⟨hx, hby, -⟩, _, _, X, -⟩ := W; subst q; exact XS.i2c X.here hx rfl (hb hby hd) rfl kk) K
theorem Go.i2s {x : Int32} (hd : decode bytes pc = .ok (.i2s, 1)) (q : pc + 1 = pc') (K : Go l Z y bytes mx rt R EL n0 w Q h kc ks SL pc' L (.int (x.toInt16.toInt32) :: S)) : Go l Z y bytes mx rt R EL n0 w Q h kc ks SL pc L (.int x :: S) := Go.st (fun W t kk => by obtain ⟨⟨hx, hby, -⟩, _, _, X, -⟩ := W; subst q; exact XS.i2s X.here hx rfl (hb hby hd) rfl kk) K
theorem Go.i2l {x : Int32} (hd : decode bytes pc = .ok (.i2l, 1)) (q : pc + 1 = pc') (K : Go l Z y bytes mx rt R EL n0 w Q h kc ks SL pc' L (.long x.toInt64 :: S)) : Go l Z y bytes mx rt R EL n0 w Q h kc ks SL pc L (.int x :: S) := Go.st (fun W t kk => by obtain ⟨⟨hx, hby, -⟩, _, _, X, -⟩ := W; subst q; exact XS.i2l X.here hx rfl (hb hby hd) rfl kk) K
theorem Go.l2i {x : Int64} (hd : decode bytes pc = .ok (.l2i, 1)) (q : pc + 1 = pc') (K : Go l Z y bytes mx rt R EL n0 w Q h kc ks SL pc' L (.int x.toInt32 :: S)) : Go l Z y bytes mx rt R EL n0 w Q h kc ks SL pc L (.long x :: S) := Go.st (fun W t kk => by obtain ⟨⟨hx, hby, -⟩, _, _, X, -⟩ := W; subst q; exact XS.l2i X.here hx rfl (hb hby hd) rfl kk) K
theorem Go.goto {o : Int} (hd : decode bytes pc = .ok (.goto o, 3)) (ho : 0 ≤ (pc : Int) + o) (hp : ((pc : Int) + o).toNat = pc') (K : Go l Z y bytes mx rt R EL n0 w Q h kc ks SL pc' L S) : Go l Z y bytes mx rt R EL n0 w Q h kc ks SL pc L S := Go.st (fun W t kk => by obtain ⟨⟨hx, hby, -⟩, _, _, X, -⟩ := W; exact XS.goto X.here hx rfl rfl (hb hby hd) ho hp kk) K
theorem Go.ifT {cd : ClassFile.Cond} {x : Int32} {o : Int} (hd : decode bytes pc = .ok (.ifCond cd o, 3)) (hc : cP cd x 0) (ho : 0 ≤ (pc : Int) + o) (hp : ((pc : Int) + o).toNat = pc') (K : Go l Z y bytes mx rt R EL n0 w Q h kc ks SL pc' L S) : Go l Z y bytes mx rt R EL n0 w Q h kc ks SL pc L (.int x :: S) := Go.st (fun W t kk => by obtain ⟨⟨hx, hby, -⟩, _, _, X, -⟩ := W; exact XS.ifYes X.here hx rfl rfl (hb hby hd) rfl (if_t hc) ho hp kk) K
theorem Go.ifF {cd : ClassFile.Cond} {x : Int32} {o : Int} (hd : decode bytes pc = .ok (.ifCond cd o, 3)) (hc : cP (cneg cd) x 0) (q : pc + 3 = pc') (K : Go l Z y bytes mx rt R EL n0 w Q h kc ks SL pc' L S) : Go l Z y bytes mx rt R EL n0 w Q h kc ks SL pc L (.int x :: S) := Go.st (fun W t kk => by obtain ⟨⟨hx, hby, -⟩, _, _, X, -⟩ := W; subst q; exact XS.ifNo X.here hx rfl (hb hby hd) rfl (if_f hc) kk) K
theorem Go.icmpT {cd : ClassFile.Cond} {x x2 : Int32} {o : Int} (hd : decode bytes pc = .ok (.if_icmp cd o, 3)) (hc : cP cd x x2) (ho : 0 ≤ (pc : Int) + o) (hp : ((pc : Int) + o).toNat = pc') (K : Go l Z y bytes mx rt R EL n0 w Q h kc ks SL pc' L S) : Go l Z y bytes mx rt R EL n0 w Q h kc ks SL pc L (.int x2 :: .int x :: S) := Go.st (fun W t kk => by obtain ⟨⟨hx, hby, -⟩, _, _, X, -⟩ := W; exact XS.icmpYes X.here hx rfl rfl (hb hby hd) rfl (ic_t hc) ho hp kk) K
theorem Go.icmpF {cd : ClassFile.Cond} {x x2 : Int32} {o : Int} (hd : decode bytes pc = .ok (.if_icmp cd o, 3)) (hc : cP (cneg cd) x x2) (q : pc + 3 = pc') (K : Go l Z y bytes mx rt R EL n0 w Q h kc ks SL pc' L S) : Go l Z y bytes mx rt R EL n0 w Q h kc ks SL pc L (.int x2 :: .int x :: S) := Go.st (fun W t kk => by obtain ⟨⟨hx, hby, -⟩, _, _, X, -⟩ := W; subst q; exact XS.icmpNo X.here hx rfl (hb hby hd) rfl (ic_f hc) kk) K
theorem Go.ifnullT {o : Int} (hd : decode bytes pc = .ok (.ifnull o, 3)) (ho : 0 ≤ (pc : Int) + o) (hp : ((pc : Int) + o).toNat = pc') (K : Go l Z y bytes mx rt R EL n0 w Q h kc ks SL pc' L S) : Go l Z y bytes mx rt R EL n0 w Q h kc ks SL pc L (.null :: S) := Go.st (fun W t kk => by obtain ⟨⟨hx, hby, -⟩, _, _, X, -⟩ := W; exact XS.ifnullYes X.here hx rfl rfl (hb hby hd) rfl ho hp kk) K
theorem Go.ifnullF {o : Int} {b : Addr} (hd : decode bytes pc = .ok (.ifnull o, 3)) (q : pc + 3 = pc') (K : Go l Z y bytes mx rt R EL n0 w Q h kc ks SL pc' L S) : Go l Z y bytes mx rt R EL n0 w Q h kc ks SL pc L (.ref b :: S) := Go.st (fun W t kk => by obtain ⟨⟨hx, hby, -⟩, _, _, X, -⟩ := W; subst q; exact XS.ifnullNo X.here hx rfl (hb hby hd) rfl kk) K
theorem Go.ifnonnullT {o : Int} {b : Addr} (hd : decode bytes pc = .ok (.ifnonnull o, 3)) (ho : 0 ≤ (pc : Int) + o) (hp : ((pc : Int) + o).toNat = pc') (K : Go l Z y bytes mx rt R EL n0 w Q h kc ks SL pc' L S) : Go l Z y bytes mx rt R EL n0 w Q h kc ks SL pc L (.ref b :: S) := Go.st (fun W t kk => by obtain ⟨⟨hx, hby, -⟩, _, _, X, -⟩ := W; exact XS.ifnonnullYes X.here hx rfl rfl (hb hby hd) rfl ho hp kk) K
theorem Go.ifnonnullF {o : Int} (hd : decode bytes pc = .ok (.ifnonnull o, 3)) (q : pc + 3 = pc') (K : Go l Z y bytes mx rt R EL n0 w Q h kc ks SL pc' L S) : Go l Z y bytes mx rt R EL n0 w Q h kc ks SL pc L (.null :: S) := Go.st (fun W t kk => by obtain ⟨⟨hx, hby, -⟩, _, _, X, -⟩ := W; subst q; exact XS.ifnonnullNo X.here hx rfl (hb hby hd) rfl kk) K
theorem Go.acmp {cd : ClassFile.ACond} {x x2 : Value} {o : Int} (same : Bool) (hd : decode bytes pc = .ok (.if_acmp cd o, 3)) (h1 : x.isRef = true) (h2 : x2.isRef = true) (hq : decide (x = x2) = same) (ho : 0 ≤ (pc : Int) + o) (hp : pc' = if acV cd same = true then ((pc : Int) + o).toNat else pc + 3) (K : Go l Z y bytes mx rt R EL n0 w Q h kc ks SL pc' L S) : Go l Z y bytes mx rt R EL n0 w Q h kc ks SL pc L (x2 :: x :: S) := Go.st (fun W t kk => by obtain ⟨⟨hx, hby, -⟩, _, _, X, -⟩ := W; exact RoadKit.acmp X hx rfl h1 h2 rfl (hb hby hd) rfl hq ho hp kk) K
theorem Go.st1 {n : Nat} (q : pc + n = pc') (hst : ∀ {p : Program} {e : Env} {s : State} {m : MethodId} {args : Array Value} {below : List Frame} {meth : Method} {c : Code} {T : State} {locs : List Loc}, Stand p l e R (s.setVm T.vm) m args below meth c T locs kc ks → T.heap = h → p.tables.exec = Jvm.exec → c.code = bytes → Z.Warmed39 T.vm → T.vm.findClass y.cls = some m.cls → ∀ t, Steps p.tables e below (T.setTop (mkF m (pc + n) L' S')) t → Steps p.tables e below (T.setTop (mkF m pc L S)) t)
    (K : Go l Z y bytes mx rt R EL n0 w Q h kc ks SL pc' L' S') : Go l Z y bytes mx rt R EL n0 w Q h kc ks SL pc L S := by
  subst q
  exact Go.st (fun W t kk => by
    obtain ⟨⟨hx, hby, -⟩, _, _, X, e1, -, -, hZ, hown, -⟩ := W
    exact hst X e1 hx hby hZ hown t kk) K
/-- both ways of a branch -/
theorem Go.icmp {cd : ClassFile.Cond} {x x2 : Int32} {o : Int} (hd : decode bytes pc = .ok (.if_icmp cd o, 3)) (ho : 0 ≤ (pc : Int) + o) (hp : ((pc : Int) + o).toNat = pc') (q : pc + 3 = pc'') (Kt : cP cd x x2 → Go l Z y bytes mx rt R EL n0 w Q h kc ks SL pc' L S) (Kf : cP (cneg cd) x x2 → Go l Z y bytes mx rt R EL n0 w Q h kc ks SL pc'' L S) : Go l Z y bytes mx rt R EL n0 w Q h kc ks SL pc L (.int x2 :: .int x :: S) :=
  (cP_em cd x x2).elim (fun hc => Go.icmpT hd hc ho hp (Kt hc)) (fun hc => Go.icmpF hd hc q (Kf hc))
theorem Go.ifc {cd : ClassFile.Cond} {x : Int32} {o : Int} (hd : decode bytes pc = .ok (.ifCond cd o, 3)) (ho : 0 ≤ (pc : Int) + o) (hp : ((pc : Int) + o).toNat = pc') (q : pc + 3 = pc'') (Kt : cP cd x 0 → Go l Z y bytes mx rt R EL n0 w Q h kc ks SL pc' L S) (Kf : cP (cneg cd) x 0 → Go l Z y bytes mx rt R EL n0 w Q h kc ks SL pc'' L S) : Go l Z y bytes mx rt R EL n0 w Q h kc ks SL pc L (.int x :: S) :=
  (cP_em cd x 0).elim (fun hc => Go.ifT hd hc ho hp (Kt hc)) (fun hc => Go.ifF hd hc q (Kf hc))
theorem Go.ldcI {index : Nat} {z : Int32} (hd : decode bytes pc = .ok (.ldc index, 2)) (wd : (Jvm.Cond.constant y.cls index z).before a1 Z = true) (q : pc + 2 = pc') (K : Go l Z y bytes mx rt R EL n0 w Q h kc ks SL pc' L (.int z :: S)) : Go l Z y bytes mx rt R EL n0 w Q h kc ks SL pc L S :=
  Go.st1 q (fun X e1 hx hby hZ hown t kk => X.ldcInt hx hown (mv (s := State.setVm _ _) hZ wd) (g := mkF _ pc L S) rfl (hb hby hd) t kk) K
theorem Go.ldc2J {index : Nat} {z : Int64} (hd : decode bytes pc = .ok (.ldc2_w index, 3)) (wd : (Jvm.Cond.constantLong y.cls index z).before a1 Z = true) (q : pc + 3 = pc') (K : Go l Z y bytes mx rt R EL n0 w Q h kc ks SL pc' L (.long z :: S)) : Go l Z y bytes mx rt R EL n0 w Q h kc ks SL pc L S :=
  Go.st1 q (fun X e1 hx hby hZ hown t kk => X.ldc2Long hx hown (mv (s := State.setVm _ _) hZ wd) (g := mkF _ pc L S) rfl (hb hby hd) t kk) K
theorem Go.getF {R0 O n d host : String} {index : Nat} {a : Addr} {v : Value} (hd : decode bytes pc = .ok (.getfield index, 3)) (wd : (Jvm.Cond.fieldLink y.cls index R0 n d).before a1 Z = true ∨ (Jvm.Cond.fieldLinkNest y.cls index R0 n d host).before a1 Z = true) (via : Via Z R0 O n d) (F : Fld Z h a O n d v) (q : pc + 3 = pc')
    (K : Go l Z y bytes mx rt R EL n0 w Q h kc ks SL pc' L (v :: S)) : Go l Z y bytes mx rt R EL n0 w Q h kc ks SL pc L (.ref a :: S) := by
  intro p e s m args below meth c T W
  subst q
  have W0 := W
  obtain ⟨⟨hx, hby, -⟩, k0, locs, X, e1, -, -, hZ, hown, hC, N, -, hSf⟩ := W
  obtain ⟨T', X', e', st⟩ := RoadKit.getF X hx hZ hown wd via e1 F (g := mkF m pc L (.ref a :: S)) rfl rfl (hb hby hd)
  obtain ⟨s₂, o, st2, r⟩ := K p e s m args below meth c T' (W0.next X' e' (CHr.refl hC.1) N hSf)
  exact ⟨s₂, o, st _ st2, r⟩
theorem Go.getS {R0 O n d host : String} {index : Nat} {v : Value} (hd : decode bytes pc = .ok (.getstatic index, 3)) (wd : (Jvm.Cond.fieldLink y.cls index R0 n d).before a1 Z = true ∨ (Jvm.Cond.fieldLinkNest y.cls index R0 n d host).before a1 Z = true) (via : Via Z R0 O n d) (F : Sta Z h O n d v) (q : pc + 3 = pc')
    (K : Go l Z y bytes mx rt R EL n0 w Q h kc ks SL pc' L (v :: S)) : Go l Z y bytes mx rt R EL n0 w Q h kc ks SL pc L S := by
  intro p e s m args below meth c T W
  subst q
  have W0 := W
  obtain ⟨⟨hx, hby, -⟩, k0, locs, X, e1, -, -, hZ, hown, hC, N, -, hSf⟩ := W
  obtain ⟨T', X', e', st⟩ := RoadKit.getS2 X hx hZ hown wd via e1 F (g := mkF m pc L S) rfl (hb hby hd)
  obtain ⟨s₂, o, st2, r⟩ := K p e s m args below meth c T' (W0.next X' e' (CHr.refl hC.1) N hSf)
  exact ⟨s₂, o, st _ st2, r⟩
/-- the cell at a is no literal's -/
def Sf (Z : State) (EL : List (String × Nat)) (SL : List Addr) (h : Heap) (a : Addr) : Prop := ∀ vm, Z.Warmed39 vm → Sfs Z EL vm h SL → Safe Z EL vm h a
theorem Sf.exa {a : Addr} {C : String} (E : Exa Z h a C) (h1 : C ≠ "java/lang/String") (h2 : C ≠ "[B") : Sf Z EL SL h a := fun vm hZ _ => Safe.exa hZ.alike E h1 h2
theorem Sf.mem {a : Addr} (hm : a ∈ SL) : Sf Z EL SL h a := fun vm _ F => (F a hm).2
theorem Sf.nil {a : Addr} : Sf Z [] SL h a := fun vm _ _ B => by obtain ⟨p, hp, -⟩ := B; cases hp
theorem Sf.arr {a : Addr} {cl : Cell} {ty : FieldType} (A : Arr Z h a cl ty) (ht : ty ≠ .byte) : Sf Z EL SL h a := fun vm hZ _ => Safe.arr hZ.alike A ht
theorem Go.putF {R0 O n d host C : String} {index kk : Nat} {ty : FieldType} {a : Addr} {v old : Value} (hd : decode bytes pc = .ok (.putfield index, 3)) (wd : (Jvm.Cond.fieldLink y.cls index R0 n d).before a1 Z = true ∨ (Jvm.Cond.fieldLinkNest y.cls index R0 n d host).before a1 Z = true) (via : Via Z R0 O n d) (F : Fld Z h a O n d old) (E : Exa Z h a C)
    (Ly : (Jvm.Cond.lays C O n d).before a1 Z = true ∨ ((Jvm.Cond.laysFinal C O n d).before a1 Z = true ∧ y.cls = O ∧ y.name = "<init>")) (wi : (Jvm.Cond.instantiable C kk).before a1 Z = true) (hty : parseFieldDescriptor d = some ty) (hn : narrow ty v = v) (hf : fits ty v = true) (hsafe : Sf Z EL SL h a) (ha : n0 ≤ a) (q : pc + 3 = pc')
    (K : ∀ h', Wr h h' a (RoadKit.slotOf Z O n d) v → Go l Z y bytes mx rt R EL n0 w Q h' kc ks SL pc' L S) : Go l Z y bytes mx rt R EL n0 w Q h kc ks SL pc L (v :: .ref a :: S) := by
  intro p e s m args below meth c T W
  subst q
  have W0 := W
  obtain ⟨⟨hx, hby, -, -, -, hnm, -⟩, k0, locs, X, e1, -, -, hZ, hown, hC, N, -, hSf⟩ := W
  obtain ⟨T', h', X', e', Wr', st⟩ := RoadKit.putF X hx hZ hown wd via e1 F E (Ly.imp id fun q => ⟨q.1, q.2.1, hnm.trans q.2.2⟩) wi hty hn hf (g := mkF m pc L (v :: .ref a :: S)) rfl rfl (hb hby hd)
  have A := CHr.wr Wr' (hsafe _ hZ hSf) hC.1
  obtain ⟨s₂, o, st2, r⟩ := K h' Wr' p e s m args below meth c T' (W0.next X' e' A (Fr.snoc X' N ha) (hSf.chr A))
  exact ⟨s₂, o, st _ st2, r⟩
theorem Go.newO {C : String} {index n : Nat} (hd : decode bytes pc = .ok (.new index, 3)) (wd : (Jvm.Cond.classLink y.cls index C).before a1 Z = true) (wi : (Jvm.Cond.instantiable C n).before a1 Z = true) (wz : (Jvm.Cond.initialized C).before a1 Z = true) (hc : kc + 1 ≤ R.cells) (hl : ks + n ≤ R.slots) (q : pc + 3 = pc')
    (K : ∀ (a : Addr) (h' : Heap), a = h.size → Ext h h' → Exa Z h' a C → (∀ {O nm d : String} {ty : FieldType}, Laid Z a1 C O nm d → parseFieldDescriptor d = some ty → Fld Z h' a O nm d (defaultValue ty)) → Go l Z y bytes mx rt R EL n0 w Q h' (kc + 1) (ks + n) (a :: SL) pc' L (.ref a :: S)) : Go l Z y bytes mx rt R EL n0 w Q h kc ks SL pc L S := by
  intro p e s m args below meth c T W
  subst q
  have W0 := W
  obtain ⟨⟨hx, hby, -⟩, k0, locs, X, e1, -, -, hZ, hown, hC, N, -, hSf⟩ := W
  obtain ⟨T', h', X', e', E, A, D, -, st⟩ := RoadKit.newO X hx hZ hown wd wi wz e1 (g := mkF m pc L S) rfl (hb hby hd) hc hl
  have B := CHr.ext (vm := T.vm) (EL := EL) (Z := Z) E hC.1
  have hS2 : Sfs Z EL T.vm h' (h.size :: SL) := fun x hx' => by
    rcases List.mem_cons.mp hx' with rfl | q
    · exact ⟨A.lt, Safe.ext E hC.1 (Safe.new (Nat.le_refl _))⟩
    · exact hSf.chr B x q
  obtain ⟨s₂, o, st2, r⟩ := K h.size h' rfl E A D p e s m args below meth c T' (W0.next X' e' B N hS2)
  exact ⟨s₂, o, st _ st2, r⟩
theorem Go.newP {aty : ArrayType} {n : Int32} (cap : Nat) (hd : decode bytes pc = .ok (.newarray aty, 2)) (wd : (Jvm.Cond.arrayClass (newarray.typeOf aty)).before a1 Z = true) (hn : ¬ n < 0) (hcap : n.toNatClampNeg ≤ cap) (hb' : cap * 8 ≤ 536870912) (hc : kc + 1 ≤ R.cells) (hl : ks + cap ≤ R.slots) (q : pc + 2 = pc')
    (K : ∀ (a : Addr) (h' : Heap) (cA : ClassId), a = h.size → Ext h h' → Arr Z h' a (newA cA (newarray.typeOf aty) n) (newarray.typeOf aty) → Go l Z y bytes mx rt R EL n0 w Q h' (kc + 1) (ks + cap) (a :: SL) pc' L (.ref a :: S)) : Go l Z y bytes mx rt R EL n0 w Q h kc ks SL pc L (.int n :: S) := by
  intro p e s m args below meth c T W
  subst q
  have W0 := W
  obtain ⟨⟨hx, hby, -⟩, k0, locs, X, e1, -, -, hZ, hown, hC, N, -, hSf⟩ := W
  obtain ⟨T', h', cA, X', e', E, A, st⟩ := RoadKit.newP X hx hZ wd e1 (g := mkF m pc L (.int n :: S)) rfl (hb hby hd) rfl hn hcap hb' hc hl
  have B := CHr.ext (vm := T.vm) (EL := EL) (Z := Z) E hC.1
  have hS2 : Sfs Z EL T.vm h' (h.size :: SL) := fun x hx' => by
    rcases List.mem_cons.mp hx' with rfl | q
    · exact ⟨A.lt, Safe.ext E hC.1 (Safe.new (Nat.le_refl _))⟩
    · exact hSf.chr B x q
  obtain ⟨s₂, o, st2, r⟩ := K h.size h' cA rfl E A p e s m args below meth c T' (W0.next X' e' B N hS2)
  exact ⟨s₂, o, st _ st2, r⟩
theorem Go.initO {index : Nat} {a : Addr} (hd : decode bytes pc = .ok (.invokespecial index, 3)) (w1 : (Jvm.Cond.methodLink y.cls index Lib.objectInit).before a1 Z = true) (w2 : (Jvm.Cond.instanceMethod Lib.objectInit).before a1 Z = true) (w3 : (Jvm.Cond.code Lib.objectInit ⟨#[0xb1]⟩ 1 none).before a1 Z = true) (hL : L.size = mx) (hf : 1 ≤ R.frames) (Wd : Nat) (hW : (S.map fun v => v.category).sum = Wd) (hl : Wd + 12 ≤ R.locals) (q : pc + 3 = pc')
    (K : Go l Z y bytes mx rt R EL n0 w Q h kc ks SL pc' L S) : Go l Z y bytes mx rt R EL n0 w Q h kc ks SL pc L (.ref a :: S) := by
  intro p e s m args below meth c T W
  subst q
  have W0 := W
  obtain ⟨⟨hx, hby, hml, -⟩, k0, locs, X, e1, -, -, hZ, hown, hC, N, -, hSf⟩ := W
  obtain ⟨T', X', e', st⟩ := RoadKit.initO X hx hZ hown w1 w2 w3 e1 (g := mkF m pc L (.ref a :: S)) rfl (hL.trans hml.symm) rfl (hb hby hd) hf (W := Wd) (by show 2 * 0 + _ ≤ _; omega) hl
  obtain ⟨s₂, o, st2, r⟩ := K p e s m args below meth c T' (W0.next X' e' (CHr.refl hC.1) N hSf)
  exact ⟨s₂, o, st _ st2, r⟩
/-- a String constant, unread -/
theorem Go.ldcO {index : Nat} {text : String} (n : Nat) (hd : decode bytes pc = .ok (.ldc index, 2)) (hw : w = true) (wd : (Jvm.Cond.stringLink y.cls index text).before a1 Z = true) (wS : ∀ d ∈ Bundle.stringAtoms, d.before a1 Z = true) (hn : 4 * text.toList.length ≤ n) (hbig : n ≤ 536870912) (hc : kc + 2 ≤ R.cells) (hl : ks + (n + 4) ≤ R.slots) (q : pc + 2 = pc') (hEL : EW Z a1 EL)
    (K : ∀ (a : Addr) (h' : Heap), Ext h h' → Go l Z y bytes mx rt R EL n0 w Q h' (kc + 2) (ks + (n + 4)) SL pc' L (.ref a :: S)) : Go l Z y bytes mx rt R EL n0 w Q h kc ks SL pc L S := by
  intro p e s m args below meth c T W
  subst q
  have W0 := W
  obtain ⟨⟨hx, hby, -⟩, k0, locs, X, e1, hS, hk, hZ, hown, hC, N, -, hSf⟩ := W
  obtain ⟨a, T', h', k1, X', e', E, hS', hk', hZ', hown', hC', -, st⟩ := RoadKit.ldcOH (s := s.setVm T.vm) (vm0 := T.vm) X hx hZ hown wd wS e1 (k0 := h.size) ((State.WarmedH.refl _).since _) (Nat.le_refl _) hEL hC.1 (g := mkF m pc L S) rfl (hb hby hd) hn hbig hc hl
  have hS2 : (s.setVm T.vm).Since T'.vm h'.size := ⟨hS'.1, fun j p hj hp => by obtain ⟨z1, z2⟩ := hS'.2 j p hj hp; exact ⟨z1, Nat.lt_of_lt_of_le z2 hk'⟩⟩
  obtain ⟨s₂, o, st2, r⟩ := K a h' E p e s m args below meth c T' (W0.nextS X' e' hS2 E.1 (Nat.le_refl _) hC' N (fun q => by rw [hw] at q; cases q) (hSf.chr hC'))
  exact ⟨s₂, o, st _ st2, r⟩
/-- a String constant, read -/
theorem Go.ldcR {index : Nat} {text : String} (n : Nat) {vs : List Value} {z : Int32} (hd : decode bytes pc = .ok (.ldc index, 2)) (hw : w = true) (wd : (Jvm.Cond.stringLink y.cls index text).before a1 Z = true) (wS : ∀ d ∈ Bundle.stringAtoms, d.before a1 Z = true) (hn : 4 * text.toList.length ≤ n) (hbig : n ≤ 536870912) (hc : kc + 2 ≤ R.cells) (hl : ks + (n + 4) ≤ R.slots) (q : pc + 2 = pc') (hEL : EW Z a1 EL) (hmem : (y.cls, index) ∈ EL)
    (ht : (∀ c ∈ text.toList, c.toNat < 256) ∧ text.toList.map (fun c => Value.int (Jvm.Lit.byteI c.toNat.toUInt16)) = vs) (hz : ¬ z < 0) (hzl : z.toNatClampNeg = vs.length)
    (K : ∀ (a : Addr) (h' : Heap) (b : Addr) (k : ClassId), Ext h h' → Exa Z h' a "java/lang/String" → Fld Z h' a "java/lang/String" "coder" "B" (.int 0) → Fld Z h' a "java/lang/String" "value" "[B" (.ref b) → Arv Z h' b k .byte z vs (.int 0) → (∀ x ∈ SL, x ≠ a ∧ x ≠ b) → Go l Z y bytes mx rt R EL n0 w Q h' (kc + 2) (ks + (n + 4)) SL pc' L (.ref a :: S)) : Go l Z y bytes mx rt R EL n0 w Q h kc ks SL pc L S := by
  intro p e s m args below meth c T W
  subst q
  have W0 := W
  obtain ⟨⟨hx, hby, -⟩, k0, locs, X, e1, hS, hk, hZ, hown, hC, N, -, hSf⟩ := W
  obtain ⟨a, T', h', k1, b, k, X', e', E, hS', hk', hZ', hown', E1, E2, E3, E4, -, -, hC', -, hne, st⟩ := RoadKit.ldcCH (s := s.setVm T.vm) (vm0 := T.vm) X hx hZ hown wd wS e1 (k0 := h.size) ((State.WarmedH.refl _).since _) (Nat.le_refl _) hEL hmem hC.1 ht hz hzl (g := mkF m pc L S) rfl (hb hby hd) hn hbig hc hl
  have hS2 : (s.setVm T.vm).Since T'.vm h'.size := ⟨hS'.1, fun j p hj hp => by obtain ⟨z1, z2⟩ := hS'.2 j p hj hp; exact ⟨z1, Nat.lt_of_lt_of_le z2 hk'⟩⟩
  obtain ⟨s₂, o, st2, r⟩ := K a h' b k E E1 E2 E3 E4 (fun x hx' => hne x ((hSf.chr hC') x hx').2) p e s m args below meth c T' (W0.nextS X' e' hS2 E.1 (Nat.le_refl _) hC' N (fun q => by rw [hw] at q; cases q) (hSf.chr hC'))
  exact ⟨s₂, o, st _ st2, r⟩
section Calls
variable {z yy : MethodName} {bytesZ : ByteArray} {mxZ : Nat} {rtZ : Option FieldType} {rm : Room} {QZ : Option Value → Heap → List Addr → Prop} {argsL rest : List Value} {index : Nat}
theorem Go.callS (hM : Ct l Z z bytesZ mxZ rtZ rm EL n0 w [] argsL.toArray h SL' QZ) (hd : decode bytes pc = .ok (.invokestatic index, 3)) (w1 : (Jvm.Cond.methodLink y.cls index z).before a1 Z = true) (w2 : (Jvm.Cond.static z).before a1 Z = true) (w3 : (Jvm.Cond.initialized z.cls).before a1 Z = true) (w4 : (Jvm.Cond.code z bytesZ mxZ rtZ).before a1 Z = true)
    (hy : z.cls ≠ "java/lang/invoke/MethodHandle" ∧ z.cls ≠ "java/lang/invoke/VarHandle") (hlen : ∀ sig, parseMethodDescriptor z.desc = some sig → argsL.length = sig.parameters.length) (hst : S = argsL.reverse ++ rest) (Wd : Nat) (hW : (rest.map fun v => v.category).sum = Wd) (hL : L.size = mx) (hf : rm.frames + 1 ≤ R.frames) (hl : Wd + (mxZ + 11) + rm.locals ≤ R.locals) (hc : kc + rm.cells ≤ R.cells) (hs : ks + rm.slots ≤ R.slots) (hSL : ∀ x ∈ SL', x ∈ SL) (q : pc + 3 = pc')
    (K : ∀ v h' N, QZ v h' N → h.size ≤ h'.size → Go l Z y bytes mx rt R EL n0 w Q h' (kc + rm.cells) (ks + rm.slots) (N ++ SL) pc' L (v.toList ++ rest)) : Go l Z y bytes mx rt R EL n0 w Q h kc ks SL pc L S := by
  intro p e s m args below meth c T W
  subst q
  have W0 := W
  obtain ⟨⟨hx, hby, hml, -, -, -, a2, hEW⟩, k0, locs, X, e1, hS, hk, hZ, hown, hC, N, -, hSf⟩ := W
  obtain ⟨v, vm₁, ⟨T', Lt, kt, nt⟩, -, X', hS', hgr, ⟨Ls, N', hQ, hFr, l1, l2, l3, hC', hSf', hw'⟩, st⟩ := RoadKit.callSS X hx hown (mvT (s := s.setVm T.vm) hZ w1) (mvT (s := s.setVm T.vm) hZ w2) (mvT (s := s.setVm T.vm) hZ w3) (mvT (s := s.setVm T.vm) hZ w4) hy (Ct.pay (W := Wd) hM hZ hEW hC.1 (hSf.mono hSL) w4 w3 hf hl) (g := mkF m pc L S) rfl (hL.trans hml.symm) (argsL := argsL) (rest := rest) hlen hst (by show 2 * 0 + _ ≤ _; omega) (hb hby hd) (fun _ _ => ⟨rfl, e1, hc, hs⟩)
  dsimp only [Pt.U, Pt.locs, Pt.cells, Pt.slots] at X' l1 l2 l3 st hQ hC' hSf' hw' hgr hS'
  subst l1 l2 l3
  have hS2 : Sfs Z EL T'.vm T'.heap (N' ++ SL) := fun x hx' => (List.mem_append.mp hx').elim (hSf' x) (hSf.chr hC' x)
  obtain ⟨s₂, o, st2, r⟩ := K v _ N' hQ hC'.2.1 p e s m args below meth c T' (W0.nextS X' rfl hS' hC'.2.1 (Nat.le_refl _) hC' (N.app hFr) hw' hS2)
  exact ⟨s₂, o, st.trans st2, r⟩
theorem Go.callN {a : Addr} (hM : Ct l Z z bytesZ mxZ none rm EL n0 w [] (.ref a :: argsL).toArray h SL' QZ) (hd : decode bytes pc = .ok (.invokespecial index, 3)) (hz1 : z.name = "<init>") (w1 : (Jvm.Cond.methodLink y.cls index z).before a1 Z = true) (w2 : (Jvm.Cond.instanceMethod z).before a1 Z = true) (w3 : (Jvm.Cond.initialized z.cls).before a1 Z = true) (w4 : (Jvm.Cond.code z bytesZ mxZ none).before a1 Z = true)
    (hy : z.cls ≠ "java/lang/invoke/MethodHandle" ∧ z.cls ≠ "java/lang/invoke/VarHandle") (hlen : ∀ sig, parseMethodDescriptor z.desc = some sig → argsL.length = sig.parameters.length) (hst : S = argsL.reverse ++ .ref a :: rest) (Wd : Nat) (hW : (rest.map fun v => v.category).sum = Wd) (hL : L.size = mx) (hf : rm.frames + 1 ≤ R.frames) (hl : Wd + (mxZ + 11) + rm.locals ≤ R.locals) (hc : kc + rm.cells ≤ R.cells) (hs : ks + rm.slots ≤ R.slots) (hSL : ∀ x ∈ SL', x ∈ SL) (q : pc + 3 = pc')
    (K : ∀ v h' N, QZ v h' N → h.size ≤ h'.size → Go l Z y bytes mx rt R EL n0 w Q h' (kc + rm.cells) (ks + rm.slots) (N ++ SL) pc' L (v.toList ++ rest)) : Go l Z y bytes mx rt R EL n0 w Q h kc ks SL pc L S := by
  intro p e s m args below meth c T W
  subst q
  have W0 := W
  obtain ⟨⟨hx, hby, hml, -, -, -, a2, hEW⟩, k0, locs, X, e1, hS, hk, hZ, hown, hC, N, -, hSf⟩ := W
  obtain ⟨v, vm₁, ⟨T', Lt, kt, nt⟩, -, X', hS', hgr, ⟨Ls, N', hQ, hFr, l1, l2, l3, hC', hSf', hw'⟩, st⟩ := X.specialBackS hx hz1 hown (mvT (s := s.setVm T.vm) hZ w1) (mvT (s := s.setVm T.vm) hZ w2) (mvT (s := s.setVm T.vm) hZ w4) hy (Ct.pay (W := Wd) hM hZ hEW hC.1 (hSf.mono hSL) w4 w3 hf hl) (g := mkF m pc L S) rfl (hL.trans hml.symm) (Steps.refl _) (a := a) (argsL := argsL) (rest := rest) hlen hst (by show 2 * 0 + _ ≤ _; omega) (hb hby hd) (fun _ _ => ⟨rfl, e1, hc, hs⟩)
  dsimp only [Pt.U, Pt.locs, Pt.cells, Pt.slots] at X' l1 l2 l3 st hQ hC' hSf' hw' hgr hS'
  subst l1 l2 l3
  have hS2 : Sfs Z EL T'.vm T'.heap (N' ++ SL) := fun x hx' => (List.mem_append.mp hx').elim (hSf' x) (hSf.chr hC' x)
  obtain ⟨s₂, o, st2, r⟩ := K v _ N' hQ hC'.2.1 p e s m args below meth c T' (W0.nextS X' rfl hS' hC'.2.1 (Nat.le_refl _) hC' (N.app hFr) hw' hS2)
  exact ⟨s₂, o, st.trans st2, r⟩
theorem Go.callV {a : Addr} {C : String} (hM : Ct l Z z bytesZ mxZ rtZ rm EL n0 w [] (.ref a :: argsL).toArray h SL' QZ) (hd : decode bytes pc = .ok (.invokevirtual index, 3)) (w1 : (Jvm.Cond.methodLink y.cls index yy).before a1 Z = true) (wdec : (Jvm.Cond.declares yy).before a1 Z = true) (wnf : (Jvm.Cond.selects yy.cls yy yy).before a1 Z = true) (wsel : (Jvm.Cond.selects C yy z).before a1 Z = true) (w2 : (Jvm.Cond.instanceMethod z).before a1 Z = true) (w3 : (Jvm.Cond.initialized z.cls).before a1 Z = true) (w4 : (Jvm.Cond.code z bytesZ mxZ rtZ).before a1 Z = true) (E : Exa Z h a C)
    (hy : yy.cls ≠ "java/lang/invoke/MethodHandle" ∧ yy.cls ≠ "java/lang/invoke/VarHandle") (hlen : ∀ sig, parseMethodDescriptor yy.desc = some sig → argsL.length = sig.parameters.length) (hst : S = argsL.reverse ++ .ref a :: rest) (Wd : Nat) (hW : (rest.map fun v => v.category).sum = Wd) (hL : L.size = mx) (hf : rm.frames + 1 ≤ R.frames) (hl : Wd + (mxZ + 11) + rm.locals ≤ R.locals) (hc : kc + rm.cells ≤ R.cells) (hs : ks + rm.slots ≤ R.slots) (hSL : ∀ x ∈ SL', x ∈ SL) (q : pc + 3 = pc')
    (K : ∀ v h' N, QZ v h' N → h.size ≤ h'.size → Go l Z y bytes mx rt R EL n0 w Q h' (kc + rm.cells) (ks + rm.slots) (N ++ SL) pc' L (v.toList ++ rest)) : Go l Z y bytes mx rt R EL n0 w Q h kc ks SL pc L S := by
  intro p e s m args below meth c T W
  subst q
  have W0 := W
  obtain ⟨⟨hx, hby, hml, -, -, -, a2, hEW⟩, k0, locs, X, e1, hS, hk, hZ, hown, hC, N, -, hSf⟩ := W
  obtain ⟨cq, kq, qa, qb, qc⟩ := isOf (s := s.setVm T.vm) hZ e1 E
  obtain ⟨v, vm₁, ⟨T', Lt, kt, nt⟩, -, X', hS', hgr, ⟨Ls, N', hQ, hFr, l1, l2, l3, hC', hSf', hw'⟩, st⟩ := X.virtualBackS hx hown (mvT (s := s.setVm T.vm) hZ w1) (mvT (s := s.setVm T.vm) hZ wdec) (notFace_of_selects (args := #[]) (mvT (s := s.setVm T.vm) hZ wnf)) (mvT (s := s.setVm T.vm) hZ wsel) (mvT (s := s.setVm T.vm) hZ w2) hy (Ct.pay (W := Wd) hM hZ hEW hC.1 (hSf.mono hSL) w4 w3 hf hl) qa qc (g := mkF m pc L S) rfl (hL.trans hml.symm) (Steps.refl _) (argsL := argsL) (rest := rest) hlen hst (by show 2 * 0 + _ ≤ _; omega) (hb hby hd) (fun _ _ => ⟨rfl, e1, hc, hs⟩)
  dsimp only [Pt.U, Pt.locs, Pt.cells, Pt.slots] at X' l1 l2 l3 st hQ hC' hSf' hw' hgr hS'
  subst l1 l2 l3
  have hS2 : Sfs Z EL T'.vm T'.heap (N' ++ SL) := fun x hx' => (List.mem_append.mp hx').elim (hSf' x) (hSf.chr hC' x)
  obtain ⟨s₂, o, st2, r⟩ := K v _ N' hQ hC'.2.1 p e s m args below meth c T' (W0.nextS X' rfl hS' hC'.2.1 (Nat.le_refl _) hC' (N.app hFr) hw' hS2)
  exact ⟨s₂, o, st.trans st2, r⟩
end Calls
/-- the end of a body -/
theorem Go.out {v : Option Value} (hv : rt = none → v = none) (N : List Addr) (hN : ∀ x ∈ N, x ∈ SL) (hQ : Q v h N) (hc : kc ≤ R.cells) (hs : ks ≤ R.slots)
    (hst : ∀ {p : Program} {e : Env} {s : State} {m : MethodId} {args : Array Value} {below : List Frame} {meth : Method} {c : Code} {T : State} {locs : List Loc}, p.tables.exec = Jvm.exec → c.code = bytes → meth.sig.returnType = rt → Stand p l e R (s.setVm T.vm) m args below meth c T locs kc ks → ∀ fs, (∀ (f : JFrame) (acts : List Action), f.method = m → f.locked = none → f.entered = [] → (doReturn e (T.setTop f) acts v).1 = T.setFrames fs) → Steps p.tables e below (T.setTop (mkF m pc L S)) (T.setFrames fs)) :
    Go l Z y bytes mx rt R EL n0 w Q h kc ks SL pc L S := by
  intro p e s m args below meth c T W
  obtain ⟨⟨hx, hby, hml, hrt, hlk, -⟩, k0, locs, X, e1, hS, hk, hZ, hown, hC, Nn, hw', hSf⟩ := W
  obtain ⟨fs, hr, hrun, hended, hW⟩ := X.leaveW hS (by rw [e1]; exact hk) (v := v) (fun q => hv (hrt.symm.trans q)) hlk
  refine ⟨_, _, hst hx hby hrt X fs hr, hrun, hended, v, locs, N, rfl, ?_, Nn, ?_, ?_, ⟨hW.1, hW.2.1, hW.2.2.1, hW.2.2.2.mono hc hs⟩, hw'⟩
  · show Q v T.heap N; rw [e1]; exact hQ
  · show CHr Z EL s.vm s.heap T.vm T.heap; rw [e1]; exact hC
  · show Sfs Z EL T.vm T.heap N; rw [e1]; exact hSf.mono hN
theorem Go.ret0 (hr : rt = none) (N : List Addr) (hN : ∀ x ∈ N, x ∈ SL) (hd : decode bytes pc = .ok (.return_, 1)) (hc : kc ≤ R.cells) (hs : ks ≤ R.slots) (hQ : Q none h N) : Go l Z y bytes mx rt R EL n0 w Q h kc ks SL pc L [] :=
  Go.out (v := none) (fun _ => rfl) N hN hQ hc hs (fun hx hby hrt X fs hl => X.returnOut hx (hrt.trans hr) (hb hby hd) hl)
/-- a boolean, byte, char, short -/
theorem Go.retN {t : FieldType} {z : Int32} (z' : Int32) (hr : rt = some t) (ht : t = .boolean ∨ t = .byte ∨ t = .char ∨ t = .short) (hz : nar t z = z') (N : List Addr) (hN : ∀ x ∈ N, x ∈ SL) (hd : decode bytes pc = .ok (.ireturn, 1)) (hc : kc ≤ R.cells) (hs : ks ≤ R.slots) (hQ : Q (some (.int z')) h N) : Go l Z y bytes mx rt R EL n0 w Q h kc ks SL pc L (.int z :: S) :=
  Go.out (v := some (.int z')) (fun q => by rw [hr] at q; cases q) N hN hQ hc hs (fun hx hby hrt X fs hl => RoadKit.retN X hx (hrt.trans hr) ht (hb hby hd) (by rw [hz]; exact hl))
theorem Go.retI {z : Int32} (hr : rt = some .int) (N : List Addr) (hN : ∀ x ∈ N, x ∈ SL) (hd : decode bytes pc = .ok (.ireturn, 1)) (hc : kc ≤ R.cells) (hs : ks ≤ R.slots) (hQ : Q (some (.int z)) h N) : Go l Z y bytes mx rt R EL n0 w Q h kc ks SL pc L (.int z :: S) :=
  Go.out (v := some (.int z)) (fun q => by rw [hr] at q; cases q) N hN hQ hc hs (fun hx hby hrt X fs hl => RoadKit.retOut X hx (hrt.trans hr) rfl (Or.inl ⟨rfl, Or.inl rfl, _, rfl⟩) (hb hby hd) hl)
theorem Go.retJ {z : Int64} (hr : rt = some .long) (N : List Addr) (hN : ∀ x ∈ N, x ∈ SL) (hd : decode bytes pc = .ok (.lreturn, 1)) (hc : kc ≤ R.cells) (hs : ks ≤ R.slots) (hQ : Q (some (.long z)) h N) : Go l Z y bytes mx rt R EL n0 w Q h kc ks SL pc L (.long z :: S) :=
  Go.out (v := some (.long z)) (fun q => by rw [hr] at q; cases q) N hN hQ hc hs (fun hx hby hrt X fs hl => RoadKit.retOut X hx (hrt.trans hr) rfl (Or.inr (Or.inl ⟨rfl, rfl, _, rfl⟩)) (hb hby hd) hl)
theorem narrow_ref {t : FieldType} {v : Value} (ht : t.isReference = true) : narrow t v = v := by cases t <;> cases v <;> simp_all [FieldType.isReference, narrow]
theorem fits_r {t : FieldType} {v : Value} (ht : t.isReference = true) (hv : v.isRef = true) : fits t v = true := by cases t <;> cases v <;> simp_all [FieldType.isReference, fits, Value.isRef]
theorem Go.retA {t : FieldType} {v : Value} (hr : rt = some t) (ht : t.isReference = true) (hv : v.isRef = true) (N : List Addr) (hN : ∀ x ∈ N, x ∈ SL) (hd : decode bytes pc = .ok (.areturn, 1)) (hc : kc ≤ R.cells) (hs : ks ≤ R.slots) (hQ : Q (some v) h N) : Go l Z y bytes mx rt R EL n0 w Q h kc ks SL pc L (v :: S) :=
  Go.out (v := some v) (fun q => by rw [hr] at q; cases q) N hN hQ hc hs (fun hx hby hrt X fs hl => RoadKit.retOut X hx (hrt.trans hr) (narrow_ref ht) (Or.inr (Or.inr (Or.inr (Or.inr ⟨rfl, ht, hv⟩)))) (hb hby hd) hl)
/-! arrays -/
theorem Go.alen {a : Addr} {cl : Cell} {ty : FieldType} {n : Int32} (hd : decode bytes pc = .ok (.arraylength, 1)) (A : Arr Z h a cl ty) (hn : cl.slots.size.toInt32 = n) (q : pc + 1 = pc') (K : Go l Z y bytes mx rt R EL n0 w Q h kc ks SL pc' L (.int n :: S)) : Go l Z y bytes mx rt R EL n0 w Q h kc ks SL pc L (.ref a :: S) :=
  Go.st1 q (fun X e1 hx hby hZ hown t kk => X.arraylength hx (cell := cl) (ty := ty) (e1.symm ▸ A.1) (State.isArrayOf_alike hZ.alike A.2.1) (g := mkF _ pc L (.ref a :: S)) rfl rfl (hb hby hd) t (hn.symm ▸ kk)) K
theorem Go.aaload {a : Addr} {cl : Cell} {ty : FieldType} {j : Int32} {v : Value} (hd : decode bytes pc = .ok (.aaload, 1)) (A : Arr Z h a cl ty) (hty : ty.isReference = true) (hin : ¬ (j < 0 ∨ cl.slots.size ≤ j.toNatClampNeg)) (hv : cl.slots[j.toNatClampNeg]? = some v) (q : pc + 1 = pc') (K : Go l Z y bytes mx rt R EL n0 w Q h kc ks SL pc' L (v :: S)) : Go l Z y bytes mx rt R EL n0 w Q h kc ks SL pc L (.int j :: .ref a :: S) :=
  Go.st1 q (fun X e1 hx hby hZ hown t kk => X.aaload hx (cell := cl) (e1.symm ▸ A.1) (State.isArrayOf_alike hZ.alike A.2.1) hty A.2.2 hin hv (g := mkF _ pc L (.int j :: .ref a :: S)) rfl rfl (hb hby hd) t kk) K
theorem Go.iaload {a : Addr} {cl : Cell} {j : Int32} {v : Value} (hd : decode bytes pc = .ok (.iaload, 1)) (A : Arr Z h a cl .int) (hin : ¬ (j < 0 ∨ cl.slots.size ≤ j.toNatClampNeg)) (hv : cl.slots[j.toNatClampNeg]? = some v) (q : pc + 1 = pc') (K : Go l Z y bytes mx rt R EL n0 w Q h kc ks SL pc' L (v :: S)) : Go l Z y bytes mx rt R EL n0 w Q h kc ks SL pc L (.int j :: .ref a :: S) :=
  Go.st1 q (fun X e1 hx hby hZ hown t kk => X.iaload hx (cell := cl) (e1.symm ▸ A.1) (State.isArrayOf_alike hZ.alike A.2.1) A.2.2 hin hv (g := mkF _ pc L (.int j :: .ref a :: S)) rfl rfl (hb hby hd) t kk) K
theorem Go.baload {a : Addr} {cl : Cell} {j : Int32} {v : Value} (hd : decode bytes pc = .ok (.baload, 1)) (A : Arr Z h a cl .byte) (hin : ¬ (j < 0 ∨ cl.slots.size ≤ j.toNatClampNeg)) (hv : cl.slots[j.toNatClampNeg]? = some v) (q : pc + 1 = pc') (K : Go l Z y bytes mx rt R EL n0 w Q h kc ks SL pc' L (v :: S)) : Go l Z y bytes mx rt R EL n0 w Q h kc ks SL pc L (.int j :: .ref a :: S) :=
  Go.st1 q (fun X e1 hx hby hZ hown t kk => X.baloadBytes hx (cell := cl) (e1.symm ▸ A.1) (State.isArrayOf_alike hZ.alike A.2.1) A.2.2 hin hv (g := mkF _ pc L (.int j :: .ref a :: S)) rfl rfl (hb hby hd) t kk) K
theorem Go.caload {a : Addr} {cl : Cell} {j : Int32} {v : Value} (hd : decode bytes pc = .ok (.caload, 1)) (A : Arr Z h a cl .char) (hin : ¬ (j < 0 ∨ cl.slots.size ≤ j.toNatClampNeg)) (hv : cl.slots[j.toNatClampNeg]? = some v) (q : pc + 1 = pc') (K : Go l Z y bytes mx rt R EL n0 w Q h kc ks SL pc' L (v :: S)) : Go l Z y bytes mx rt R EL n0 w Q h kc ks SL pc L (.int j :: .ref a :: S) :=
  Go.st1 q (fun X e1 hx hby hZ hown t kk => X.caload hx (cell := cl) (e1.symm ▸ A.1) (State.isArrayOf_alike hZ.alike A.2.1) A.2.2 hin hv (g := mkF _ pc L (.int j :: .ref a :: S)) rfl rfl (hb hby hd) t kk) K
theorem Go.castore {a : Addr} {cl : Cell} {j x : Int32} (hd : decode bytes pc = .ok (.castore, 1)) (A : Arr Z h a cl .char) (hin : ¬ (j < 0 ∨ cl.slots.size ≤ j.toNatClampNeg)) (ha : n0 ≤ a) (q : pc + 1 = pc')
    (K : ∀ h', Wr h h' a j.toNatClampNeg (.int (nar .char x)) → Go l Z y bytes mx rt R EL n0 w Q h' kc ks SL pc' L S) : Go l Z y bytes mx rt R EL n0 w Q h kc ks SL pc L (.int x :: .int j :: .ref a :: S) := by
  intro p e s m args below meth c T W
  subst q
  have W0 := W
  obtain ⟨⟨hx, hby, -⟩, k0, locs, X, e1, -, -, hZ, hown, hC, N, -, hSf⟩ := W
  obtain ⟨T', h', X', e', Wr', st⟩ := RoadKit.stC X hx hZ e1 A hin (g := mkF m pc L (.int x :: .int j :: .ref a :: S)) rfl rfl (hb hby hd)
  have B := CHr.wr Wr' (Safe.arr hZ.alike A (by decide)) hC.1
  obtain ⟨s₂, o, st2, r⟩ := K h' Wr' p e s m args below meth c T' (W0.next X' e' B (Fr.snoc X' N ha) (hSf.chr B))
  exact ⟨s₂, o, st _ st2, r⟩
theorem Go.bastore {a : Addr} {cl : Cell} {j x : Int32} (hd : decode bytes pc = .ok (.bastore, 1)) (A : Arr Z h a cl .byte) (hin : ¬ (j < 0 ∨ cl.slots.size ≤ j.toNatClampNeg)) (hsafe : Sf Z EL SL h a) (ha : n0 ≤ a) (q : pc + 1 = pc')
    (K : ∀ h', Wr h h' a j.toNatClampNeg (.int (nar .byte x)) → Go l Z y bytes mx rt R EL n0 w Q h' kc ks SL pc' L S) : Go l Z y bytes mx rt R EL n0 w Q h kc ks SL pc L (.int x :: .int j :: .ref a :: S) := by
  intro p e s m args below meth c T W
  subst q
  have W0 := W
  obtain ⟨⟨hx, hby, -⟩, k0, locs, X, e1, -, -, hZ, hown, hC, N, -, hSf⟩ := W
  obtain ⟨T', h', X', e', Wr', st⟩ := RoadKit.stB X hx hZ e1 A hin (g := mkF m pc L (.int x :: .int j :: .ref a :: S)) rfl rfl (hb hby hd)
  have B := CHr.wr Wr' (hsafe _ hZ hSf) hC.1
  obtain ⟨s₂, o, st2, r⟩ := K h' Wr' p e s m args below meth c T' (W0.next X' e' B (Fr.snoc X' N ha) (hSf.chr B))
  exact ⟨s₂, o, st _ st2, r⟩
/-- two roads that meet: the rest is walked once -/
theorem Go.cut {α : Type} (pcJ : Nat) (LJ : α → Array Slot) (SJ : α → List Value) (K : ∀ r, Go l Z y bytes mx rt R EL n0 w Q h kc ks SL pcJ (LJ r) (SJ r)) (K2 : (∀ r, Go l Z y bytes mx rt R EL n0 w Q h kc ks SL pcJ (LJ r) (SJ r)) → Go l Z y bytes mx rt R EL n0 w Q h kc ks SL pc L S) : Go l Z y bytes mx rt R EL n0 w Q h kc ks SL pc L S := K2 K
end Rules
end Jvm.GoKit
namespace Jvm.Pilot.@@N@@
open Jvm Jvm.ClassFile Sem Op Lib Jvm.Free Jvm.Stand Jvm.LawKit Jvm.RoadKit Jvm.GoKit Bundle Jvm.Pilot.@@N@@.Jvm.D
def EL1 : List (String × Nat) := []
theorem own_ew {Z : State} {a0 : Array Value} (hw : ∀ d ∈ tables_1, d.before a0 Z = true) : EW Z a0 EL1 := EW.nil
def own_rf (os : List Addr) (u : Addr) (x : Int32) : Addr := if x < 0 ∨ ¬ x < 17 then u else os.getD x.toNatClampNeg u
theorem own_ref {Z : State} {args : Array Value} {X F : Term} {idx : List Nat} {y : Addr} (hF : F.eval args Z none idx Z = some (.ref y)) (h : (Cond.eq X F).value args Z none Z idx = some true) : X.eval args Z none idx Z = some (.ref y) := by
  cases hX : X.eval args Z none idx Z with
  | none => simp [Cond.value, hF, hX] at h
  | some v => cases v <;> simp [Cond.value, hF, hX] at h ⊢; exact h
theorem own_in {x : Int32} (h1 : ¬ x < 0) (h2 : x < 17) : x.toNatClampNeg < 17 := by
  rw [Int32.lt_iff_toInt_lt] at h1 h2
  have e1 : (0 : Int32).toInt = 0 := by decide
  have e2 : (17 : Int32).toInt = 17 := by decide
  have e3 : x.toNatClampNeg = x.toInt.toNat := rfl
  omega
theorem own_out {x : Int32} (n0 : ¬ x = 0) (n1 : ¬ x = 1) (n2 : ¬ x = 2) (n3 : ¬ x = 3) (n4 : ¬ x = 4) (n5 : ¬ x = 5) (n6 : ¬ x = 6) (n7 : ¬ x = 7) (n8 : ¬ x = 8) (n9 : ¬ x = 9) (n10 : ¬ x = 10) (n11 : ¬ x = 11) (n12 : ¬ x = 12) (n13 : ¬ x = 13) (n14 : ¬ x = 14) (n15 : ¬ x = 15) (n16 : ¬ x = 16) : x < 0 ∨ ¬ x < 17 := by
  rw [Int32.lt_iff_toInt_lt, Int32.lt_iff_toInt_lt]
  have e1 : (0 : Int32).toInt = 0 := by decide
  have m0 : x.toInt ≠ 0 := fun q => n0 (Int32.toInt_inj.mp (q.trans (by decide)))
  have m1 : x.toInt ≠ 1 := fun q => n1 (Int32.toInt_inj.mp (q.trans (by decide)))
  have m2 : x.toInt ≠ 2 := fun q => n2 (Int32.toInt_inj.mp (q.trans (by decide)))
  have m3 : x.toInt ≠ 3 := fun q => n3 (Int32.toInt_inj.mp (q.trans (by decide)))
  have m4 : x.toInt ≠ 4 := fun q => n4 (Int32.toInt_inj.mp (q.trans (by decide)))
  have m5 : x.toInt ≠ 5 := fun q => n5 (Int32.toInt_inj.mp (q.trans (by decide)))
  have m6 : x.toInt ≠ 6 := fun q => n6 (Int32.toInt_inj.mp (q.trans (by decide)))
  have m7 : x.toInt ≠ 7 := fun q => n7 (Int32.toInt_inj.mp (q.trans (by decide)))
  have m8 : x.toInt ≠ 8 := fun q => n8 (Int32.toInt_inj.mp (q.trans (by decide)))
  have m9 : x.toInt ≠ 9 := fun q => n9 (Int32.toInt_inj.mp (q.trans (by decide)))
  have m10 : x.toInt ≠ 10 := fun q => n10 (Int32.toInt_inj.mp (q.trans (by decide)))
  have m11 : x.toInt ≠ 11 := fun q => n11 (Int32.toInt_inj.mp (q.trans (by decide)))
  have m12 : x.toInt ≠ 12 := fun q => n12 (Int32.toInt_inj.mp (q.trans (by decide)))
  have m13 : x.toInt ≠ 13 := fun q => n13 (Int32.toInt_inj.mp (q.trans (by decide)))
  have m14 : x.toInt ≠ 14 := fun q => n14 (Int32.toInt_inj.mp (q.trans (by decide)))
  have m15 : x.toInt ≠ 15 := fun q => n15 (Int32.toInt_inj.mp (q.trans (by decide)))
  have m16 : x.toInt ≠ 16 := fun q => n16 (Int32.toInt_inj.mp (q.trans (by decide)))
  have e2 : (17 : Int32).toInt = 17 := by decide
  omega
theorem own_el {cl : Cell} (o_OK : Addr) (o_CANCELLED : Addr) (o_UNKNOWN : Addr) (o_INVALID_ARGUMENT : Addr) (o_DEADLINE_EXCEEDED : Addr) (o_NOT_FOUND : Addr) (o_ALREADY_EXISTS : Addr) (o_PERMISSION_DENIED : Addr) (o_RESOURCE_EXHAUSTED : Addr) (o_FAILED_PRECONDITION : Addr) (o_ABORTED : Addr) (o_OUT_OF_RANGE : Addr) (o_UNIMPLEMENTED : Addr) (o_INTERNAL : Addr) (o_UNAVAILABLE : Addr) (o_DATA_LOSS : Addr) (o_UNAUTHENTICATED : Addr) (he_0 : cl.slots[0]? = some (.ref o_OK)) (he_1 : cl.slots[1]? = some (.ref o_CANCELLED)) (he_2 : cl.slots[2]? = some (.ref o_UNKNOWN)) (he_3 : cl.slots[3]? = some (.ref o_INVALID_ARGUMENT)) (he_4 : cl.slots[4]? = some (.ref o_DEADLINE_EXCEEDED)) (he_5 : cl.slots[5]? = some (.ref o_NOT_FOUND)) (he_6 : cl.slots[6]? = some (.ref o_ALREADY_EXISTS)) (he_7 : cl.slots[7]? = some (.ref o_PERMISSION_DENIED)) (he_8 : cl.slots[8]? = some (.ref o_RESOURCE_EXHAUSTED)) (he_9 : cl.slots[9]? = some (.ref o_FAILED_PRECONDITION)) (he_10 : cl.slots[10]? = some (.ref o_ABORTED)) (he_11 : cl.slots[11]? = some (.ref o_OUT_OF_RANGE)) (he_12 : cl.slots[12]? = some (.ref o_UNIMPLEMENTED)) (he_13 : cl.slots[13]? = some (.ref o_INTERNAL)) (he_14 : cl.slots[14]? = some (.ref o_UNAVAILABLE)) (he_15 : cl.slots[15]? = some (.ref o_DATA_LOSS)) (he_16 : cl.slots[16]? = some (.ref o_UNAUTHENTICATED)) (u : Addr) {n : Nat} (hn : n < 17) : cl.slots[n]? = some (.ref ([o_OK, o_CANCELLED, o_UNKNOWN, o_INVALID_ARGUMENT, o_DEADLINE_EXCEEDED, o_NOT_FOUND, o_ALREADY_EXISTS, o_PERMISSION_DENIED, o_RESOURCE_EXHAUSTED, o_FAILED_PRECONDITION, o_ABORTED, o_OUT_OF_RANGE, o_UNIMPLEMENTED, o_INTERNAL, o_UNAVAILABLE, o_DATA_LOSS, o_UNAUTHENTICATED].getD n u)) := by
  have h : n = 0 ∨ n = 1 ∨ n = 2 ∨ n = 3 ∨ n = 4 ∨ n = 5 ∨ n = 6 ∨ n = 7 ∨ n = 8 ∨ n = 9 ∨ n = 10 ∨ n = 11 ∨ n = 12 ∨ n = 13 ∨ n = 14 ∨ n = 15 ∨ n = 16 := by omega
  rcases h with rfl | rfl | rfl | rfl | rfl | rfl | rfl | rfl | rfl | rfl | rfl | rfl | rfl | rfl | rfl | rfl | rfl
  · exact he_0
  · exact he_1
  · exact he_2
  · exact he_3
  · exact he_4
  · exact he_5
  · exact he_6
  · exact he_7
  · exact he_8
  · exact he_9
  · exact he_10
  · exact he_11
  · exact he_12
  · exact he_13
  · exact he_14
  · exact he_15
  · exact he_16
theorem pn_com_example_fairlead_fairlead_StatusCode : plainName "com/example/fairlead/fairlead/StatusCode" = true := by first | (simp [plainName, overriddenIn]; done) | decide +kernel
theorem d_prog_13_method_5_code_0 : decode prog_13_method_5_code 0 = .ok (.iload_n 0, 1) := by decide +kernel
theorem d_prog_13_method_5_code_1 : decode prog_13_method_5_code 1 = .ok (.ifCond .lt 11, 3) := by decide +kernel
theorem d_prog_13_method_5_code_12 : decode prog_13_method_5_code 12 = .ok (.getstatic 10, 3) := by decide +kernel
theorem d_prog_13_method_5_code_15 : decode prog_13_method_5_code 15 = .ok (.areturn, 1) := by decide +kernel
theorem d_prog_13_method_5_code_4 : decode prog_13_method_5_code 4 = .ok (.iload_n 0, 1) := by decide +kernel
theorem d_prog_13_method_5_code_5 : decode prog_13_method_5_code 5 = .ok (.getstatic 78, 3) := by decide +kernel
theorem d_prog_13_method_5_code_8 : decode prog_13_method_5_code 8 = .ok (.arraylength, 1) := by decide +kernel
theorem d_prog_13_method_5_code_9 : decode prog_13_method_5_code 9 = .ok (.if_icmp .lt 7, 3) := by decide +kernel
theorem d_prog_13_method_5_code_16 : decode prog_13_method_5_code 16 = .ok (.getstatic 78, 3) := by decide +kernel
theorem d_prog_13_method_5_code_19 : decode prog_13_method_5_code 19 = .ok (.iload_n 0, 1) := by decide +kernel
theorem d_prog_13_method_5_code_20 : decode prog_13_method_5_code 20 = .ok (.aaload, 1) := by decide +kernel
theorem d_prog_13_method_5_code_21 : decode prog_13_method_5_code 21 = .ok (.areturn, 1) := by decide +kernel
set_option maxRecDepth 65536 in
set_option maxHeartbeats 40000000 in
theorem ct_from (l : Launch) (Z : State) (a0 : Array Value) (hw : ∀ d ∈ tables_1, d.before a0 Z = true) (n0 : Nat) (h0 : Heap) (p1 : Int32) (b1 : Addr) (cl : Cell) (o_OK : Addr) (o_CANCELLED : Addr) (o_UNKNOWN : Addr) (o_INVALID_ARGUMENT : Addr) (o_DEADLINE_EXCEEDED : Addr) (o_NOT_FOUND : Addr) (o_ALREADY_EXISTS : Addr) (o_PERMISSION_DENIED : Addr) (o_RESOURCE_EXHAUSTED : Addr) (o_FAILED_PRECONDITION : Addr) (o_ABORTED : Addr) (o_OUT_OF_RANGE : Addr) (o_UNIMPLEMENTED : Addr) (o_INTERNAL : Addr) (o_UNAVAILABLE : Addr) (o_DATA_LOSS : Addr) (o_UNAUTHENTICATED : Addr) (S_B : Sta Z h0 "com/example/fairlead/fairlead/StatusCode" "BY_VALUE" "[Lcom/example/fairlead/fairlead/StatusCode;" (.ref b1)) (A_B : RoadKit.Arr Z h0 b1 cl (.object "com/example/fairlead/fairlead/StatusCode")) (hlen : cl.slots.size.toInt32 = 17) (hge : 17 ≤ cl.slots.size) (S_UNKNOWN : Sta Z h0 "com/example/fairlead/fairlead/StatusCode" "UNKNOWN" "Lcom/example/fairlead/fairlead/StatusCode;" (.ref o_UNKNOWN)) (hel : ∀ n, n < 17 → cl.slots[n]? = some (.ref ([o_OK, o_CANCELLED, o_UNKNOWN, o_INVALID_ARGUMENT, o_DEADLINE_EXCEEDED, o_NOT_FOUND, o_ALREADY_EXISTS, o_PERMISSION_DENIED, o_RESOURCE_EXHAUSTED, o_FAILED_PRECONDITION, o_ABORTED, o_OUT_OF_RANGE, o_UNIMPLEMENTED, o_INTERNAL, o_UNAVAILABLE, o_DATA_LOSS, o_UNAUTHENTICATED].getD n o_UNKNOWN))) :
    Ct l Z (⟨"com/example/fairlead/fairlead/StatusCode", "fromValue", "(I)Lcom/example/fairlead/fairlead/StatusCode;"⟩ : MethodName) prog_13_method_5_code 1 (some (.object "com/example/fairlead/fairlead/StatusCode")) ({ frames := 0, cells := 0, slots := 0, locals := 0 } : Room) EL1 n0 false [] #[(.int p1)] h0 [] (fun v h N => h0 = h ∧ v = some (.ref (own_rf [o_OK, o_CANCELLED, o_UNKNOWN, o_INVALID_ARGUMENT, o_DEADLINE_EXCEEDED, o_NOT_FOUND, o_ALREADY_EXISTS, o_PERMISSION_DENIED, o_RESOURCE_EXHAUSTED, o_FAILED_PRECONDITION, o_ABORTED, o_OUT_OF_RANGE, o_UNIMPLEMENTED, o_INTERNAL, o_UNAVAILABLE, o_DATA_LOSS, o_UNAUTHENTICATED] o_UNKNOWN p1))) := by
  refine Ct.of (a0 := a0) (plainFor_of_name pn_com_example_fairlead_fairlead_StatusCode) (own_ew hw) (L0 := #[.val (.int p1)]) (fun m => by first | (simp [entryFrame, mkF, argsToLocals, Value.category]; done) | rfl) ?_
  refine Go.iloadN (pc' := 1) d_prog_13_method_5_code_0 rfl rfl ?_
  refine Go.ifc (pc' := 12) (pc'' := 4) d_prog_13_method_5_code_1 (by decide) (by decide) rfl (fun hc_1 => ?_) (fun hc_1 => ?_)
  · have hc_1 : p1 < 0 := hc_1
    refine Go.getS (pc' := 15) (host := "") (a1 := a0) d_prog_13_method_5_code_12 (Or.inl (hw _ (List.mem_of_getElem? (i := 7) rfl))) Via.refl S_UNKNOWN rfl ?_
    refine Go.retA rfl rfl rfl [] (fun _ q => nomatch q) d_prog_13_method_5_code_15 (by decide) (by decide) ?_
    exact ⟨rfl, by rw [own_rf, if_pos (Or.inl hc_1)]⟩
  · have hc_1 : ¬ (p1 < 0) := hc_1
    refine Go.iloadN (pc' := 5) d_prog_13_method_5_code_4 rfl rfl ?_
    refine Go.getS (pc' := 8) (host := "") (a1 := a0) d_prog_13_method_5_code_5 (Or.inl (hw _ (List.mem_of_getElem? (i := 4) rfl))) Via.refl S_B rfl ?_
    refine Go.alen (pc' := 9) d_prog_13_method_5_code_8 A_B hlen rfl ?_
    refine Go.icmp (pc' := 16) (pc'' := 12) d_prog_13_method_5_code_9 (by decide) (by decide) rfl (fun hc_2 => ?_) (fun hc_2 => ?_)
    · have hc_2 : p1 < (17 : Int32) := hc_2
      refine Go.getS (pc' := 19) (host := "") (a1 := a0) d_prog_13_method_5_code_16 (Or.inl (hw _ (List.mem_of_getElem? (i := 4) rfl))) Via.refl S_B rfl ?_
      refine Go.iloadN (pc' := 20) d_prog_13_method_5_code_19 rfl rfl ?_
      have hin : p1.toNatClampNeg < 17 := own_in hc_1 hc_2
      refine Go.aaload (pc' := 21) d_prog_13_method_5_code_20 A_B rfl (fun q => q.elim hc_1 (fun z => absurd (Nat.lt_of_lt_of_le hin hge) (Nat.not_lt.mpr z))) (hel _ hin) rfl ?_
      refine Go.retA rfl rfl rfl [] (fun _ q => nomatch q) d_prog_13_method_5_code_21 (by decide) (by decide) ?_
      exact ⟨rfl, by rw [own_rf, if_neg (fun q => q.elim hc_1 (fun z => z hc_2))]⟩
    · have hc_2 : ¬ (p1 < (17 : Int32)) := hc_2
      refine Go.getS (pc' := 15) (host := "") (a1 := a0) d_prog_13_method_5_code_12 (Or.inl (hw _ (List.mem_of_getElem? (i := 7) rfl))) Via.refl S_UNKNOWN rfl ?_
      refine Go.retA rfl rfl rfl [] (fun _ q => nomatch q) d_prog_13_method_5_code_15 (by decide) (by decide) ?_
      exact ⟨rfl, by rw [own_rf, if_pos (Or.inr hc_2)]⟩
theorem pn_com_example_fairlead_fairlead_StatusCodeFromValuePinLaw : plainName "com/example/fairlead/fairlead/StatusCodeFromValuePinLaw" = true := by first | (simp [plainName, overriddenIn]; done) | decide +kernel
theorem d_method_2_code_0 : decode method_2_code 0 = .ok (.iload_n 0, 1) := by decide +kernel
theorem d_method_2_code_1 : decode method_2_code 1 = .ok (.ifCond .ne 7, 3) := by decide +kernel
theorem d_method_2_code_8 : decode method_2_code 8 = .ok (.iload_n 0, 1) := by decide +kernel
theorem d_method_2_code_9 : decode method_2_code 9 = .ok (.iconst 1, 1) := by decide +kernel
theorem d_method_2_code_10 : decode method_2_code 10 = .ok (.if_icmp .ne 7, 3) := by decide +kernel
theorem d_method_2_code_17 : decode method_2_code 17 = .ok (.iload_n 0, 1) := by decide +kernel
theorem d_method_2_code_18 : decode method_2_code 18 = .ok (.iconst 2, 1) := by decide +kernel
theorem d_method_2_code_19 : decode method_2_code 19 = .ok (.if_icmp .ne 7, 3) := by decide +kernel
theorem d_method_2_code_26 : decode method_2_code 26 = .ok (.iload_n 0, 1) := by decide +kernel
theorem d_method_2_code_27 : decode method_2_code 27 = .ok (.iconst 3, 1) := by decide +kernel
theorem d_method_2_code_28 : decode method_2_code 28 = .ok (.if_icmp .ne 7, 3) := by decide +kernel
theorem d_method_2_code_35 : decode method_2_code 35 = .ok (.iload_n 0, 1) := by decide +kernel
theorem d_method_2_code_36 : decode method_2_code 36 = .ok (.iconst 4, 1) := by decide +kernel
theorem d_method_2_code_37 : decode method_2_code 37 = .ok (.if_icmp .ne 7, 3) := by decide +kernel
theorem d_method_2_code_44 : decode method_2_code 44 = .ok (.iload_n 0, 1) := by decide +kernel
theorem d_method_2_code_45 : decode method_2_code 45 = .ok (.iconst 5, 1) := by decide +kernel
theorem d_method_2_code_46 : decode method_2_code 46 = .ok (.if_icmp .ne 7, 3) := by decide +kernel
theorem d_method_2_code_53 : decode method_2_code 53 = .ok (.iload_n 0, 1) := by decide +kernel
theorem d_method_2_code_54 : decode method_2_code 54 = .ok (.bipush 6, 2) := by decide +kernel
theorem d_method_2_code_56 : decode method_2_code 56 = .ok (.if_icmp .ne 7, 3) := by decide +kernel
theorem d_method_2_code_63 : decode method_2_code 63 = .ok (.iload_n 0, 1) := by decide +kernel
theorem d_method_2_code_64 : decode method_2_code 64 = .ok (.bipush 7, 2) := by decide +kernel
theorem d_method_2_code_66 : decode method_2_code 66 = .ok (.if_icmp .ne 7, 3) := by decide +kernel
theorem d_method_2_code_73 : decode method_2_code 73 = .ok (.iload_n 0, 1) := by decide +kernel
theorem d_method_2_code_74 : decode method_2_code 74 = .ok (.bipush 8, 2) := by decide +kernel
theorem d_method_2_code_76 : decode method_2_code 76 = .ok (.if_icmp .ne 7, 3) := by decide +kernel
theorem d_method_2_code_83 : decode method_2_code 83 = .ok (.iload_n 0, 1) := by decide +kernel
theorem d_method_2_code_84 : decode method_2_code 84 = .ok (.bipush 9, 2) := by decide +kernel
theorem d_method_2_code_86 : decode method_2_code 86 = .ok (.if_icmp .ne 7, 3) := by decide +kernel
theorem d_method_2_code_93 : decode method_2_code 93 = .ok (.iload_n 0, 1) := by decide +kernel
theorem d_method_2_code_94 : decode method_2_code 94 = .ok (.bipush 10, 2) := by decide +kernel
theorem d_method_2_code_96 : decode method_2_code 96 = .ok (.if_icmp .ne 7, 3) := by decide +kernel
theorem d_method_2_code_103 : decode method_2_code 103 = .ok (.iload_n 0, 1) := by decide +kernel
theorem d_method_2_code_104 : decode method_2_code 104 = .ok (.bipush 11, 2) := by decide +kernel
theorem d_method_2_code_106 : decode method_2_code 106 = .ok (.if_icmp .ne 7, 3) := by decide +kernel
theorem d_method_2_code_113 : decode method_2_code 113 = .ok (.iload_n 0, 1) := by decide +kernel
theorem d_method_2_code_114 : decode method_2_code 114 = .ok (.bipush 12, 2) := by decide +kernel
theorem d_method_2_code_116 : decode method_2_code 116 = .ok (.if_icmp .ne 7, 3) := by decide +kernel
theorem d_method_2_code_123 : decode method_2_code 123 = .ok (.iload_n 0, 1) := by decide +kernel
theorem d_method_2_code_124 : decode method_2_code 124 = .ok (.bipush 13, 2) := by decide +kernel
theorem d_method_2_code_126 : decode method_2_code 126 = .ok (.if_icmp .ne 7, 3) := by decide +kernel
theorem d_method_2_code_133 : decode method_2_code 133 = .ok (.iload_n 0, 1) := by decide +kernel
theorem d_method_2_code_134 : decode method_2_code 134 = .ok (.bipush 14, 2) := by decide +kernel
theorem d_method_2_code_136 : decode method_2_code 136 = .ok (.if_icmp .ne 7, 3) := by decide +kernel
theorem d_method_2_code_143 : decode method_2_code 143 = .ok (.iload_n 0, 1) := by decide +kernel
theorem d_method_2_code_144 : decode method_2_code 144 = .ok (.bipush 15, 2) := by decide +kernel
theorem d_method_2_code_146 : decode method_2_code 146 = .ok (.if_icmp .ne 7, 3) := by decide +kernel
theorem d_method_2_code_153 : decode method_2_code 153 = .ok (.iload_n 0, 1) := by decide +kernel
theorem d_method_2_code_154 : decode method_2_code 154 = .ok (.bipush 16, 2) := by decide +kernel
theorem d_method_2_code_156 : decode method_2_code 156 = .ok (.if_icmp .ne 7, 3) := by decide +kernel
theorem d_method_2_code_163 : decode method_2_code 163 = .ok (.getstatic 16, 3) := by decide +kernel
theorem d_method_2_code_166 : decode method_2_code 166 = .ok (.areturn, 1) := by decide +kernel
theorem d_method_2_code_159 : decode method_2_code 159 = .ok (.getstatic 58, 3) := by decide +kernel
theorem d_method_2_code_162 : decode method_2_code 162 = .ok (.areturn, 1) := by decide +kernel
theorem d_method_2_code_149 : decode method_2_code 149 = .ok (.getstatic 55, 3) := by decide +kernel
theorem d_method_2_code_152 : decode method_2_code 152 = .ok (.areturn, 1) := by decide +kernel
theorem d_method_2_code_139 : decode method_2_code 139 = .ok (.getstatic 52, 3) := by decide +kernel
theorem d_method_2_code_142 : decode method_2_code 142 = .ok (.areturn, 1) := by decide +kernel
theorem d_method_2_code_129 : decode method_2_code 129 = .ok (.getstatic 49, 3) := by decide +kernel
theorem d_method_2_code_132 : decode method_2_code 132 = .ok (.areturn, 1) := by decide +kernel
theorem d_method_2_code_119 : decode method_2_code 119 = .ok (.getstatic 46, 3) := by decide +kernel
theorem d_method_2_code_122 : decode method_2_code 122 = .ok (.areturn, 1) := by decide +kernel
theorem d_method_2_code_109 : decode method_2_code 109 = .ok (.getstatic 43, 3) := by decide +kernel
theorem d_method_2_code_112 : decode method_2_code 112 = .ok (.areturn, 1) := by decide +kernel
theorem d_method_2_code_99 : decode method_2_code 99 = .ok (.getstatic 40, 3) := by decide +kernel
theorem d_method_2_code_102 : decode method_2_code 102 = .ok (.areturn, 1) := by decide +kernel
theorem d_method_2_code_89 : decode method_2_code 89 = .ok (.getstatic 37, 3) := by decide +kernel
theorem d_method_2_code_92 : decode method_2_code 92 = .ok (.areturn, 1) := by decide +kernel
theorem d_method_2_code_79 : decode method_2_code 79 = .ok (.getstatic 34, 3) := by decide +kernel
theorem d_method_2_code_82 : decode method_2_code 82 = .ok (.areturn, 1) := by decide +kernel
theorem d_method_2_code_69 : decode method_2_code 69 = .ok (.getstatic 31, 3) := by decide +kernel
theorem d_method_2_code_72 : decode method_2_code 72 = .ok (.areturn, 1) := by decide +kernel
theorem d_method_2_code_59 : decode method_2_code 59 = .ok (.getstatic 28, 3) := by decide +kernel
theorem d_method_2_code_62 : decode method_2_code 62 = .ok (.areturn, 1) := by decide +kernel
theorem d_method_2_code_49 : decode method_2_code 49 = .ok (.getstatic 25, 3) := by decide +kernel
theorem d_method_2_code_52 : decode method_2_code 52 = .ok (.areturn, 1) := by decide +kernel
theorem d_method_2_code_40 : decode method_2_code 40 = .ok (.getstatic 22, 3) := by decide +kernel
theorem d_method_2_code_43 : decode method_2_code 43 = .ok (.areturn, 1) := by decide +kernel
theorem d_method_2_code_31 : decode method_2_code 31 = .ok (.getstatic 19, 3) := by decide +kernel
theorem d_method_2_code_34 : decode method_2_code 34 = .ok (.areturn, 1) := by decide +kernel
theorem d_method_2_code_22 : decode method_2_code 22 = .ok (.getstatic 16, 3) := by decide +kernel
theorem d_method_2_code_25 : decode method_2_code 25 = .ok (.areturn, 1) := by decide +kernel
theorem d_method_2_code_13 : decode method_2_code 13 = .ok (.getstatic 13, 3) := by decide +kernel
theorem d_method_2_code_16 : decode method_2_code 16 = .ok (.areturn, 1) := by decide +kernel
theorem d_method_2_code_4 : decode method_2_code 4 = .ok (.getstatic 7, 3) := by decide +kernel
theorem d_method_2_code_7 : decode method_2_code 7 = .ok (.areturn, 1) := by decide +kernel
set_option maxRecDepth 65536 in
set_option maxHeartbeats 40000000 in
theorem ct_ref (l : Launch) (Z : State) (a0 : Array Value) (hw : ∀ d ∈ tables_1, d.before a0 Z = true) (n0 : Nat) (h0 : Heap) (p1 : Int32) (o_OK : Addr) (o_CANCELLED : Addr) (o_UNKNOWN : Addr) (o_INVALID_ARGUMENT : Addr) (o_DEADLINE_EXCEEDED : Addr) (o_NOT_FOUND : Addr) (o_ALREADY_EXISTS : Addr) (o_PERMISSION_DENIED : Addr) (o_RESOURCE_EXHAUSTED : Addr) (o_FAILED_PRECONDITION : Addr) (o_ABORTED : Addr) (o_OUT_OF_RANGE : Addr) (o_UNIMPLEMENTED : Addr) (o_INTERNAL : Addr) (o_UNAVAILABLE : Addr) (o_DATA_LOSS : Addr) (o_UNAUTHENTICATED : Addr) (S_OK : Sta Z h0 "com/example/fairlead/fairlead/StatusCode" "OK" "Lcom/example/fairlead/fairlead/StatusCode;" (.ref o_OK)) (S_CANCELLED : Sta Z h0 "com/example/fairlead/fairlead/StatusCode" "CANCELLED" "Lcom/example/fairlead/fairlead/StatusCode;" (.ref o_CANCELLED)) (S_UNKNOWN : Sta Z h0 "com/example/fairlead/fairlead/StatusCode" "UNKNOWN" "Lcom/example/fairlead/fairlead/StatusCode;" (.ref o_UNKNOWN)) (S_INVALID_ARGUMENT : Sta Z h0 "com/example/fairlead/fairlead/StatusCode" "INVALID_ARGUMENT" "Lcom/example/fairlead/fairlead/StatusCode;" (.ref o_INVALID_ARGUMENT)) (S_DEADLINE_EXCEEDED : Sta Z h0 "com/example/fairlead/fairlead/StatusCode" "DEADLINE_EXCEEDED" "Lcom/example/fairlead/fairlead/StatusCode;" (.ref o_DEADLINE_EXCEEDED)) (S_NOT_FOUND : Sta Z h0 "com/example/fairlead/fairlead/StatusCode" "NOT_FOUND" "Lcom/example/fairlead/fairlead/StatusCode;" (.ref o_NOT_FOUND)) (S_ALREADY_EXISTS : Sta Z h0 "com/example/fairlead/fairlead/StatusCode" "ALREADY_EXISTS" "Lcom/example/fairlead/fairlead/StatusCode;" (.ref o_ALREADY_EXISTS)) (S_PERMISSION_DENIED : Sta Z h0 "com/example/fairlead/fairlead/StatusCode" "PERMISSION_DENIED" "Lcom/example/fairlead/fairlead/StatusCode;" (.ref o_PERMISSION_DENIED)) (S_RESOURCE_EXHAUSTED : Sta Z h0 "com/example/fairlead/fairlead/StatusCode" "RESOURCE_EXHAUSTED" "Lcom/example/fairlead/fairlead/StatusCode;" (.ref o_RESOURCE_EXHAUSTED)) (S_FAILED_PRECONDITION : Sta Z h0 "com/example/fairlead/fairlead/StatusCode" "FAILED_PRECONDITION" "Lcom/example/fairlead/fairlead/StatusCode;" (.ref o_FAILED_PRECONDITION)) (S_ABORTED : Sta Z h0 "com/example/fairlead/fairlead/StatusCode" "ABORTED" "Lcom/example/fairlead/fairlead/StatusCode;" (.ref o_ABORTED)) (S_OUT_OF_RANGE : Sta Z h0 "com/example/fairlead/fairlead/StatusCode" "OUT_OF_RANGE" "Lcom/example/fairlead/fairlead/StatusCode;" (.ref o_OUT_OF_RANGE)) (S_UNIMPLEMENTED : Sta Z h0 "com/example/fairlead/fairlead/StatusCode" "UNIMPLEMENTED" "Lcom/example/fairlead/fairlead/StatusCode;" (.ref o_UNIMPLEMENTED)) (S_INTERNAL : Sta Z h0 "com/example/fairlead/fairlead/StatusCode" "INTERNAL" "Lcom/example/fairlead/fairlead/StatusCode;" (.ref o_INTERNAL)) (S_UNAVAILABLE : Sta Z h0 "com/example/fairlead/fairlead/StatusCode" "UNAVAILABLE" "Lcom/example/fairlead/fairlead/StatusCode;" (.ref o_UNAVAILABLE)) (S_DATA_LOSS : Sta Z h0 "com/example/fairlead/fairlead/StatusCode" "DATA_LOSS" "Lcom/example/fairlead/fairlead/StatusCode;" (.ref o_DATA_LOSS)) (S_UNAUTHENTICATED : Sta Z h0 "com/example/fairlead/fairlead/StatusCode" "UNAUTHENTICATED" "Lcom/example/fairlead/fairlead/StatusCode;" (.ref o_UNAUTHENTICATED)) :
    Ct l Z (⟨"com/example/fairlead/fairlead/StatusCodeFromValuePinLaw", "ref", "(I)Lcom/example/fairlead/fairlead/StatusCode;"⟩ : MethodName) method_2_code 1 (some (.object "com/example/fairlead/fairlead/StatusCode")) ({ frames := 0, cells := 0, slots := 0, locals := 0 } : Room) EL1 n0 false [] #[(.int p1)] h0 [] (fun v h N => h0 = h ∧ v = some (.ref (own_rf [o_OK, o_CANCELLED, o_UNKNOWN, o_INVALID_ARGUMENT, o_DEADLINE_EXCEEDED, o_NOT_FOUND, o_ALREADY_EXISTS, o_PERMISSION_DENIED, o_RESOURCE_EXHAUSTED, o_FAILED_PRECONDITION, o_ABORTED, o_OUT_OF_RANGE, o_UNIMPLEMENTED, o_INTERNAL, o_UNAVAILABLE, o_DATA_LOSS, o_UNAUTHENTICATED] o_UNKNOWN p1))) := by
  refine Ct.of (a0 := a0) (plainFor_of_name pn_com_example_fairlead_fairlead_StatusCodeFromValuePinLaw) (own_ew hw) (L0 := #[.val (.int p1)]) (fun m => by first | (simp [entryFrame, mkF, argsToLocals, Value.category]; done) | rfl) ?_
  refine Go.iloadN (pc' := 1) d_method_2_code_0 rfl rfl ?_
  refine Go.ifc (pc' := 8) (pc'' := 4) d_method_2_code_1 (by decide) (by decide) rfl (fun hc_1 => ?_) (fun hc_1 => ?_)
  · have hc_1 : ¬ (p1 = 0) := hc_1
    refine Go.iloadN (pc' := 9) d_method_2_code_8 rfl rfl ?_
    refine Go.iconst (pc' := 10) 1 d_method_2_code_9 rfl rfl ?_
    refine Go.icmp (pc' := 17) (pc'' := 13) d_method_2_code_10 (by decide) (by decide) rfl (fun hc_2 => ?_) (fun hc_2 => ?_)
    · have hc_2 : ¬ (p1 = (1 : Int32)) := hc_2
      refine Go.iloadN (pc' := 18) d_method_2_code_17 rfl rfl ?_
      refine Go.iconst (pc' := 19) 2 d_method_2_code_18 rfl rfl ?_
      refine Go.icmp (pc' := 26) (pc'' := 22) d_method_2_code_19 (by decide) (by decide) rfl (fun hc_3 => ?_) (fun hc_3 => ?_)
      · have hc_3 : ¬ (p1 = (2 : Int32)) := hc_3
        refine Go.iloadN (pc' := 27) d_method_2_code_26 rfl rfl ?_
        refine Go.iconst (pc' := 28) 3 d_method_2_code_27 rfl rfl ?_
        refine Go.icmp (pc' := 35) (pc'' := 31) d_method_2_code_28 (by decide) (by decide) rfl (fun hc_4 => ?_) (fun hc_4 => ?_)
        · have hc_4 : ¬ (p1 = (3 : Int32)) := hc_4
          refine Go.iloadN (pc' := 36) d_method_2_code_35 rfl rfl ?_
          refine Go.iconst (pc' := 37) 4 d_method_2_code_36 rfl rfl ?_
          refine Go.icmp (pc' := 44) (pc'' := 40) d_method_2_code_37 (by decide) (by decide) rfl (fun hc_5 => ?_) (fun hc_5 => ?_)
          · have hc_5 : ¬ (p1 = (4 : Int32)) := hc_5
            refine Go.iloadN (pc' := 45) d_method_2_code_44 rfl rfl ?_
            refine Go.iconst (pc' := 46) 5 d_method_2_code_45 rfl rfl ?_
            refine Go.icmp (pc' := 53) (pc'' := 49) d_method_2_code_46 (by decide) (by decide) rfl (fun hc_6 => ?_) (fun hc_6 => ?_)
            · have hc_6 : ¬ (p1 = (5 : Int32)) := hc_6
              refine Go.iloadN (pc' := 54) d_method_2_code_53 rfl rfl ?_
              refine Go.bipush (pc' := 56) 6 d_method_2_code_54 rfl rfl ?_
              refine Go.icmp (pc' := 63) (pc'' := 59) d_method_2_code_56 (by decide) (by decide) rfl (fun hc_7 => ?_) (fun hc_7 => ?_)
              · have hc_7 : ¬ (p1 = (6 : Int32)) := hc_7
                refine Go.iloadN (pc' := 64) d_method_2_code_63 rfl rfl ?_
                refine Go.bipush (pc' := 66) 7 d_method_2_code_64 rfl rfl ?_
                refine Go.icmp (pc' := 73) (pc'' := 69) d_method_2_code_66 (by decide) (by decide) rfl (fun hc_8 => ?_) (fun hc_8 => ?_)
                · have hc_8 : ¬ (p1 = (7 : Int32)) := hc_8
                  refine Go.iloadN (pc' := 74) d_method_2_code_73 rfl rfl ?_
                  refine Go.bipush (pc' := 76) 8 d_method_2_code_74 rfl rfl ?_
                  refine Go.icmp (pc' := 83) (pc'' := 79) d_method_2_code_76 (by decide) (by decide) rfl (fun hc_9 => ?_) (fun hc_9 => ?_)
                  · have hc_9 : ¬ (p1 = (8 : Int32)) := hc_9
                    refine Go.iloadN (pc' := 84) d_method_2_code_83 rfl rfl ?_
                    refine Go.bipush (pc' := 86) 9 d_method_2_code_84 rfl rfl ?_
                    refine Go.icmp (pc' := 93) (pc'' := 89) d_method_2_code_86 (by decide) (by decide) rfl (fun hc_10 => ?_) (fun hc_10 => ?_)
                    · have hc_10 : ¬ (p1 = (9 : Int32)) := hc_10
                      refine Go.iloadN (pc' := 94) d_method_2_code_93 rfl rfl ?_
                      refine Go.bipush (pc' := 96) 10 d_method_2_code_94 rfl rfl ?_
                      refine Go.icmp (pc' := 103) (pc'' := 99) d_method_2_code_96 (by decide) (by decide) rfl (fun hc_11 => ?_) (fun hc_11 => ?_)
                      · have hc_11 : ¬ (p1 = (10 : Int32)) := hc_11
                        refine Go.iloadN (pc' := 104) d_method_2_code_103 rfl rfl ?_
                        refine Go.bipush (pc' := 106) 11 d_method_2_code_104 rfl rfl ?_
                        refine Go.icmp (pc' := 113) (pc'' := 109) d_method_2_code_106 (by decide) (by decide) rfl (fun hc_12 => ?_) (fun hc_12 => ?_)
                        · have hc_12 : ¬ (p1 = (11 : Int32)) := hc_12
                          refine Go.iloadN (pc' := 114) d_method_2_code_113 rfl rfl ?_
                          refine Go.bipush (pc' := 116) 12 d_method_2_code_114 rfl rfl ?_
                          refine Go.icmp (pc' := 123) (pc'' := 119) d_method_2_code_116 (by decide) (by decide) rfl (fun hc_13 => ?_) (fun hc_13 => ?_)
                          · have hc_13 : ¬ (p1 = (12 : Int32)) := hc_13
                            refine Go.iloadN (pc' := 124) d_method_2_code_123 rfl rfl ?_
                            refine Go.bipush (pc' := 126) 13 d_method_2_code_124 rfl rfl ?_
                            refine Go.icmp (pc' := 133) (pc'' := 129) d_method_2_code_126 (by decide) (by decide) rfl (fun hc_14 => ?_) (fun hc_14 => ?_)
                            · have hc_14 : ¬ (p1 = (13 : Int32)) := hc_14
                              refine Go.iloadN (pc' := 134) d_method_2_code_133 rfl rfl ?_
                              refine Go.bipush (pc' := 136) 14 d_method_2_code_134 rfl rfl ?_
                              refine Go.icmp (pc' := 143) (pc'' := 139) d_method_2_code_136 (by decide) (by decide) rfl (fun hc_15 => ?_) (fun hc_15 => ?_)
                              · have hc_15 : ¬ (p1 = (14 : Int32)) := hc_15
                                refine Go.iloadN (pc' := 144) d_method_2_code_143 rfl rfl ?_
                                refine Go.bipush (pc' := 146) 15 d_method_2_code_144 rfl rfl ?_
                                refine Go.icmp (pc' := 153) (pc'' := 149) d_method_2_code_146 (by decide) (by decide) rfl (fun hc_16 => ?_) (fun hc_16 => ?_)
                                · have hc_16 : ¬ (p1 = (15 : Int32)) := hc_16
                                  refine Go.iloadN (pc' := 154) d_method_2_code_153 rfl rfl ?_
                                  refine Go.bipush (pc' := 156) 16 d_method_2_code_154 rfl rfl ?_
                                  refine Go.icmp (pc' := 163) (pc'' := 159) d_method_2_code_156 (by decide) (by decide) rfl (fun hc_17 => ?_) (fun hc_17 => ?_)
                                  · have hc_17 : ¬ (p1 = (16 : Int32)) := hc_17
                                    refine Go.getS (pc' := 166) (host := "") (a1 := a0) d_method_2_code_163 (Or.inl (hw _ (List.mem_of_getElem? (i := 14) rfl))) Via.refl S_UNKNOWN rfl ?_
                                    refine Go.retA rfl rfl rfl [] (fun _ q => nomatch q) d_method_2_code_166 (by decide) (by decide) ?_
                                    exact ⟨rfl, by rw [own_rf, if_pos (own_out hc_1 hc_2 hc_3 hc_4 hc_5 hc_6 hc_7 hc_8 hc_9 hc_10 hc_11 hc_12 hc_13 hc_14 hc_15 hc_16 hc_17)]⟩
                                  · have hc_17 : p1 = (16 : Int32) := hc_17
                                    refine Go.getS (pc' := 162) (host := "") (a1 := a0) d_method_2_code_159 (Or.inl (hw _ (List.mem_of_getElem? (i := 40) rfl))) Via.refl S_UNAUTHENTICATED rfl ?_
                                    refine Go.retA rfl rfl rfl [] (fun _ q => nomatch q) d_method_2_code_162 (by decide) (by decide) ?_
                                    exact ⟨rfl, by rw [hc_17]; rfl⟩
                                · have hc_16 : p1 = (15 : Int32) := hc_16
                                  refine Go.getS (pc' := 152) (host := "") (a1 := a0) d_method_2_code_149 (Or.inl (hw _ (List.mem_of_getElem? (i := 28) rfl))) Via.refl S_DATA_LOSS rfl ?_
                                  refine Go.retA rfl rfl rfl [] (fun _ q => nomatch q) d_method_2_code_152 (by decide) (by decide) ?_
                                  exact ⟨rfl, by rw [hc_16]; rfl⟩
                              · have hc_15 : p1 = (14 : Int32) := hc_15
                                refine Go.getS (pc' := 142) (host := "") (a1 := a0) d_method_2_code_139 (Or.inl (hw _ (List.mem_of_getElem? (i := 16) rfl))) Via.refl S_UNAVAILABLE rfl ?_
                                refine Go.retA rfl rfl rfl [] (fun _ q => nomatch q) d_method_2_code_142 (by decide) (by decide) ?_
                                exact ⟨rfl, by rw [hc_15]; rfl⟩
                            · have hc_14 : p1 = (13 : Int32) := hc_14
                              refine Go.getS (pc' := 132) (host := "") (a1 := a0) d_method_2_code_129 (Or.inl (hw _ (List.mem_of_getElem? (i := 44) rfl))) Via.refl S_INTERNAL rfl ?_
                              refine Go.retA rfl rfl rfl [] (fun _ q => nomatch q) d_method_2_code_132 (by decide) (by decide) ?_
                              exact ⟨rfl, by rw [hc_14]; rfl⟩
                          · have hc_13 : p1 = (12 : Int32) := hc_13
                            refine Go.getS (pc' := 122) (host := "") (a1 := a0) d_method_2_code_119 (Or.inl (hw _ (List.mem_of_getElem? (i := 18) rfl))) Via.refl S_UNIMPLEMENTED rfl ?_
                            refine Go.retA rfl rfl rfl [] (fun _ q => nomatch q) d_method_2_code_122 (by decide) (by decide) ?_
                            exact ⟨rfl, by rw [hc_13]; rfl⟩
                        · have hc_12 : p1 = (11 : Int32) := hc_12
                          refine Go.getS (pc' := 112) (host := "") (a1 := a0) d_method_2_code_109 (Or.inl (hw _ (List.mem_of_getElem? (i := 34) rfl))) Via.refl S_OUT_OF_RANGE rfl ?_
                          refine Go.retA rfl rfl rfl [] (fun _ q => nomatch q) d_method_2_code_112 (by decide) (by decide) ?_
                          exact ⟨rfl, by rw [hc_12]; rfl⟩
                      · have hc_11 : p1 = (10 : Int32) := hc_11
                        refine Go.getS (pc' := 102) (host := "") (a1 := a0) d_method_2_code_99 (Or.inl (hw _ (List.mem_of_getElem? (i := 32) rfl))) Via.refl S_ABORTED rfl ?_
                        refine Go.retA rfl rfl rfl [] (fun _ q => nomatch q) d_method_2_code_102 (by decide) (by decide) ?_
                        exact ⟨rfl, by rw [hc_11]; rfl⟩
                    · have hc_10 : p1 = (9 : Int32) := hc_10
                      refine Go.getS (pc' := 92) (host := "") (a1 := a0) d_method_2_code_89 (Or.inl (hw _ (List.mem_of_getElem? (i := 42) rfl))) Via.refl S_FAILED_PRECONDITION rfl ?_
                      refine Go.retA rfl rfl rfl [] (fun _ q => nomatch q) d_method_2_code_92 (by decide) (by decide) ?_
                      exact ⟨rfl, by rw [hc_10]; rfl⟩
                  · have hc_9 : p1 = (8 : Int32) := hc_9
                    refine Go.getS (pc' := 82) (host := "") (a1 := a0) d_method_2_code_79 (Or.inl (hw _ (List.mem_of_getElem? (i := 24) rfl))) Via.refl S_RESOURCE_EXHAUSTED rfl ?_
                    refine Go.retA rfl rfl rfl [] (fun _ q => nomatch q) d_method_2_code_82 (by decide) (by decide) ?_
                    exact ⟨rfl, by rw [hc_9]; rfl⟩
                · have hc_8 : p1 = (7 : Int32) := hc_8
                  refine Go.getS (pc' := 72) (host := "") (a1 := a0) d_method_2_code_69 (Or.inl (hw _ (List.mem_of_getElem? (i := 36) rfl))) Via.refl S_PERMISSION_DENIED rfl ?_
                  refine Go.retA rfl rfl rfl [] (fun _ q => nomatch q) d_method_2_code_72 (by decide) (by decide) ?_
                  exact ⟨rfl, by rw [hc_8]; rfl⟩
              · have hc_7 : p1 = (6 : Int32) := hc_7
                refine Go.getS (pc' := 62) (host := "") (a1 := a0) d_method_2_code_59 (Or.inl (hw _ (List.mem_of_getElem? (i := 22) rfl))) Via.refl S_ALREADY_EXISTS rfl ?_
                refine Go.retA rfl rfl rfl [] (fun _ q => nomatch q) d_method_2_code_62 (by decide) (by decide) ?_
                exact ⟨rfl, by rw [hc_7]; rfl⟩
            · have hc_6 : p1 = (5 : Int32) := hc_6
              refine Go.getS (pc' := 52) (host := "") (a1 := a0) d_method_2_code_49 (Or.inl (hw _ (List.mem_of_getElem? (i := 20) rfl))) Via.refl S_NOT_FOUND rfl ?_
              refine Go.retA rfl rfl rfl [] (fun _ q => nomatch q) d_method_2_code_52 (by decide) (by decide) ?_
              exact ⟨rfl, by rw [hc_6]; rfl⟩
          · have hc_5 : p1 = (4 : Int32) := hc_5
            refine Go.getS (pc' := 43) (host := "") (a1 := a0) d_method_2_code_40 (Or.inl (hw _ (List.mem_of_getElem? (i := 38) rfl))) Via.refl S_DEADLINE_EXCEEDED rfl ?_
            refine Go.retA rfl rfl rfl [] (fun _ q => nomatch q) d_method_2_code_43 (by decide) (by decide) ?_
            exact ⟨rfl, by rw [hc_5]; rfl⟩
        · have hc_4 : p1 = (3 : Int32) := hc_4
          refine Go.getS (pc' := 34) (host := "") (a1 := a0) d_method_2_code_31 (Or.inl (hw _ (List.mem_of_getElem? (i := 26) rfl))) Via.refl S_INVALID_ARGUMENT rfl ?_
          refine Go.retA rfl rfl rfl [] (fun _ q => nomatch q) d_method_2_code_34 (by decide) (by decide) ?_
          exact ⟨rfl, by rw [hc_4]; rfl⟩
      · have hc_3 : p1 = (2 : Int32) := hc_3
        refine Go.getS (pc' := 25) (host := "") (a1 := a0) d_method_2_code_22 (Or.inl (hw _ (List.mem_of_getElem? (i := 14) rfl))) Via.refl S_UNKNOWN rfl ?_
        refine Go.retA rfl rfl rfl [] (fun _ q => nomatch q) d_method_2_code_25 (by decide) (by decide) ?_
        exact ⟨rfl, by rw [hc_3]; rfl⟩
    · have hc_2 : p1 = (1 : Int32) := hc_2
      refine Go.getS (pc' := 16) (host := "") (a1 := a0) d_method_2_code_13 (Or.inl (hw _ (List.mem_of_getElem? (i := 30) rfl))) Via.refl S_CANCELLED rfl ?_
      refine Go.retA rfl rfl rfl [] (fun _ q => nomatch q) d_method_2_code_16 (by decide) (by decide) ?_
      exact ⟨rfl, by rw [hc_2]; rfl⟩
  · have hc_1 : p1 = 0 := hc_1
    refine Go.getS (pc' := 7) (host := "") (a1 := a0) d_method_2_code_4 (Or.inl (hw _ (List.mem_of_getElem? (i := 13) rfl))) Via.refl S_OK rfl ?_
    refine Go.retA rfl rfl rfl [] (fun _ q => nomatch q) d_method_2_code_7 (by decide) (by decide) ?_
    exact ⟨rfl, by rw [hc_1]; rfl⟩
theorem pd__28I_29Lcom_2fexample_2ffairlead_2ffairlead_2fStatusCode_3b : parseMethodDescriptor "(I)Lcom/example/fairlead/fairlead/StatusCode;" = some ⟨[.int], (some (.object "com/example/fairlead/fairlead/StatusCode"))⟩ := by decide +kernel
set_option maxRecDepth 65536 in
set_option maxHeartbeats 40000000 in
theorem ct_law (l : Launch) (Z : State) (a0 : Array Value) (hw : ∀ d ∈ tables_1, d.before a0 Z = true) (n0 : Nat) (h0 : Heap) (p0 p1 : Int32) (b1 : Addr) (cl : Cell) (o_OK : Addr) (o_CANCELLED : Addr) (o_UNKNOWN : Addr) (o_INVALID_ARGUMENT : Addr) (o_DEADLINE_EXCEEDED : Addr) (o_NOT_FOUND : Addr) (o_ALREADY_EXISTS : Addr) (o_PERMISSION_DENIED : Addr) (o_RESOURCE_EXHAUSTED : Addr) (o_FAILED_PRECONDITION : Addr) (o_ABORTED : Addr) (o_OUT_OF_RANGE : Addr) (o_UNIMPLEMENTED : Addr) (o_INTERNAL : Addr) (o_UNAVAILABLE : Addr) (o_DATA_LOSS : Addr) (o_UNAUTHENTICATED : Addr) (S_B : Sta Z h0 "com/example/fairlead/fairlead/StatusCode" "BY_VALUE" "[Lcom/example/fairlead/fairlead/StatusCode;" (.ref b1)) (A_B : RoadKit.Arr Z h0 b1 cl (.object "com/example/fairlead/fairlead/StatusCode")) (hlen : cl.slots.size.toInt32 = 17) (hge : 17 ≤ cl.slots.size) (S_OK : Sta Z h0 "com/example/fairlead/fairlead/StatusCode" "OK" "Lcom/example/fairlead/fairlead/StatusCode;" (.ref o_OK)) (S_CANCELLED : Sta Z h0 "com/example/fairlead/fairlead/StatusCode" "CANCELLED" "Lcom/example/fairlead/fairlead/StatusCode;" (.ref o_CANCELLED)) (S_UNKNOWN : Sta Z h0 "com/example/fairlead/fairlead/StatusCode" "UNKNOWN" "Lcom/example/fairlead/fairlead/StatusCode;" (.ref o_UNKNOWN)) (S_INVALID_ARGUMENT : Sta Z h0 "com/example/fairlead/fairlead/StatusCode" "INVALID_ARGUMENT" "Lcom/example/fairlead/fairlead/StatusCode;" (.ref o_INVALID_ARGUMENT)) (S_DEADLINE_EXCEEDED : Sta Z h0 "com/example/fairlead/fairlead/StatusCode" "DEADLINE_EXCEEDED" "Lcom/example/fairlead/fairlead/StatusCode;" (.ref o_DEADLINE_EXCEEDED)) (S_NOT_FOUND : Sta Z h0 "com/example/fairlead/fairlead/StatusCode" "NOT_FOUND" "Lcom/example/fairlead/fairlead/StatusCode;" (.ref o_NOT_FOUND)) (S_ALREADY_EXISTS : Sta Z h0 "com/example/fairlead/fairlead/StatusCode" "ALREADY_EXISTS" "Lcom/example/fairlead/fairlead/StatusCode;" (.ref o_ALREADY_EXISTS)) (S_PERMISSION_DENIED : Sta Z h0 "com/example/fairlead/fairlead/StatusCode" "PERMISSION_DENIED" "Lcom/example/fairlead/fairlead/StatusCode;" (.ref o_PERMISSION_DENIED)) (S_RESOURCE_EXHAUSTED : Sta Z h0 "com/example/fairlead/fairlead/StatusCode" "RESOURCE_EXHAUSTED" "Lcom/example/fairlead/fairlead/StatusCode;" (.ref o_RESOURCE_EXHAUSTED)) (S_FAILED_PRECONDITION : Sta Z h0 "com/example/fairlead/fairlead/StatusCode" "FAILED_PRECONDITION" "Lcom/example/fairlead/fairlead/StatusCode;" (.ref o_FAILED_PRECONDITION)) (S_ABORTED : Sta Z h0 "com/example/fairlead/fairlead/StatusCode" "ABORTED" "Lcom/example/fairlead/fairlead/StatusCode;" (.ref o_ABORTED)) (S_OUT_OF_RANGE : Sta Z h0 "com/example/fairlead/fairlead/StatusCode" "OUT_OF_RANGE" "Lcom/example/fairlead/fairlead/StatusCode;" (.ref o_OUT_OF_RANGE)) (S_UNIMPLEMENTED : Sta Z h0 "com/example/fairlead/fairlead/StatusCode" "UNIMPLEMENTED" "Lcom/example/fairlead/fairlead/StatusCode;" (.ref o_UNIMPLEMENTED)) (S_INTERNAL : Sta Z h0 "com/example/fairlead/fairlead/StatusCode" "INTERNAL" "Lcom/example/fairlead/fairlead/StatusCode;" (.ref o_INTERNAL)) (S_UNAVAILABLE : Sta Z h0 "com/example/fairlead/fairlead/StatusCode" "UNAVAILABLE" "Lcom/example/fairlead/fairlead/StatusCode;" (.ref o_UNAVAILABLE)) (S_DATA_LOSS : Sta Z h0 "com/example/fairlead/fairlead/StatusCode" "DATA_LOSS" "Lcom/example/fairlead/fairlead/StatusCode;" (.ref o_DATA_LOSS)) (S_UNAUTHENTICATED : Sta Z h0 "com/example/fairlead/fairlead/StatusCode" "UNAUTHENTICATED" "Lcom/example/fairlead/fairlead/StatusCode;" (.ref o_UNAUTHENTICATED)) (hel : ∀ n, n < 17 → cl.slots[n]? = some (.ref ([o_OK, o_CANCELLED, o_UNKNOWN, o_INVALID_ARGUMENT, o_DEADLINE_EXCEEDED, o_NOT_FOUND, o_ALREADY_EXISTS, o_PERMISSION_DENIED, o_RESOURCE_EXHAUSTED, o_FAILED_PRECONDITION, o_ABORTED, o_OUT_OF_RANGE, o_UNIMPLEMENTED, o_INTERNAL, o_UNAVAILABLE, o_DATA_LOSS, o_UNAUTHENTICATED].getD n o_UNKNOWN))) :
    Ct l Z x code maxLocals ret room_1 EL1 n0 false tables_1 #[(.int p0), (.int p1)] h0 [] (fun v h N => h0 = h ∧ v = some (.int 1)) := by
  refine Ct.of (a0 := a0) (plainFor_of_name pn_com_example_fairlead_fairlead_StatusCodeFromValuePinLaw) (own_ew hw) (L0 := #[.val (.int p0), .val (.int p1), .unset, .unset, .unset]) (fun m => by first | (simp [entryFrame, mkF, argsToLocals, Value.category, maxLocals]; done) | rfl) ?_
  refine Go.iloadN (pc' := 1) at_0 rfl rfl ?_
  refine Go.bipush (pc' := 3) 31 at_1 rfl rfl ?_
  refine Go.iand (pc' := 4) at_3 rfl ?_
  refine Go.bipush (pc' := 6) 8 at_4 rfl rfl ?_
  refine Go.isub (pc' := 7) at_6 rfl ?_
  refine Go.istoreN (pc' := 8) #[.val (.int p0), .val (.int p1), .val (.int ((p1 &&& (31 : Int32)) - (8 : Int32))), .unset, .unset] at_7 rfl rfl ?_
  refine Go.iloadN (pc' := 9) at_8 rfl rfl ?_
  refine Go.callS (a1 := a0) (pc' := 12) (argsL := [(.int p0)]) (rest := []) (ct_from l Z a0 hw n0 h0 p0 b1 cl o_OK o_CANCELLED o_UNKNOWN o_INVALID_ARGUMENT o_DEADLINE_EXCEEDED o_NOT_FOUND o_ALREADY_EXISTS o_PERMISSION_DENIED o_RESOURCE_EXHAUSTED o_FAILED_PRECONDITION o_ABORTED o_OUT_OF_RANGE o_UNIMPLEMENTED o_INTERNAL o_UNAVAILABLE o_DATA_LOSS o_UNAUTHENTICATED S_B A_B hlen hge S_UNKNOWN hel) at_9 (hw _ (List.mem_of_getElem? (i := 0) rfl)) (hw _ (List.mem_of_getElem? (i := 1) rfl)) (hw _ (List.mem_of_getElem? (i := 2) rfl)) (hw _ (List.mem_of_getElem? (i := 3) rfl)) (by decide) (lenOf pd__28I_29Lcom_2fexample_2ffairlead_2ffairlead_2fStatusCode_3b rfl) rfl 0 rfl rfl (by decide) (by decide) (by decide) (by decide) (fun _ q => nomatch q) rfl (fun v_1 h_2 N_3 hQ_4 hle_5 => ?_)
  obtain ⟨rfl, rfl⟩ := hQ_4
  refine Go.re (pc' := 12) (L' := #[.val (.int p0), .val (.int p1), .val (.int ((p1 &&& (31 : Int32)) - (8 : Int32))), .unset, .unset]) (S' := [(.ref (own_rf [o_OK, o_CANCELLED, o_UNKNOWN, o_INVALID_ARGUMENT, o_DEADLINE_EXCEEDED, o_NOT_FOUND, o_ALREADY_EXISTS, o_PERMISSION_DENIED, o_RESOURCE_EXHAUSTED, o_FAILED_PRECONDITION, o_ABORTED, o_OUT_OF_RANGE, o_UNIMPLEMENTED, o_INTERNAL, o_UNAVAILABLE, o_DATA_LOSS, o_UNAUTHENTICATED] o_UNKNOWN p0))]) rfl rfl rfl ?_
  refine Go.astoreN (pc' := 13) #[.val (.int p0), .val (.int p1), .val (.int ((p1 &&& (31 : Int32)) - (8 : Int32))), .val (.ref (own_rf [o_OK, o_CANCELLED, o_UNKNOWN, o_INVALID_ARGUMENT, o_DEADLINE_EXCEEDED, o_NOT_FOUND, o_ALREADY_EXISTS, o_PERMISSION_DENIED, o_RESOURCE_EXHAUSTED, o_FAILED_PRECONDITION, o_ABORTED, o_OUT_OF_RANGE, o_UNIMPLEMENTED, o_INTERNAL, o_UNAVAILABLE, o_DATA_LOSS, o_UNAUTHENTICATED] o_UNKNOWN p0)), .unset] at_12 rfl rfl rfl ?_
  refine Go.iloadN (pc' := 14) at_13 rfl rfl ?_
  refine Go.callS (a1 := a0) (pc' := 17) (argsL := [(.int ((p1 &&& (31 : Int32)) - (8 : Int32)))]) (rest := []) (ct_from l Z a0 hw n0 h0 ((p1 &&& (31 : Int32)) - (8 : Int32)) b1 cl o_OK o_CANCELLED o_UNKNOWN o_INVALID_ARGUMENT o_DEADLINE_EXCEEDED o_NOT_FOUND o_ALREADY_EXISTS o_PERMISSION_DENIED o_RESOURCE_EXHAUSTED o_FAILED_PRECONDITION o_ABORTED o_OUT_OF_RANGE o_UNIMPLEMENTED o_INTERNAL o_UNAVAILABLE o_DATA_LOSS o_UNAUTHENTICATED S_B A_B hlen hge S_UNKNOWN hel) at_14 (hw _ (List.mem_of_getElem? (i := 0) rfl)) (hw _ (List.mem_of_getElem? (i := 1) rfl)) (hw _ (List.mem_of_getElem? (i := 2) rfl)) (hw _ (List.mem_of_getElem? (i := 3) rfl)) (by decide) (lenOf pd__28I_29Lcom_2fexample_2ffairlead_2ffairlead_2fStatusCode_3b rfl) rfl 0 rfl rfl (by decide) (by decide) (by decide) (by decide) (fun _ q => nomatch q) rfl (fun v_6 h_7 N_8 hQ_9 hle_10 => ?_)
  obtain ⟨rfl, rfl⟩ := hQ_9
  refine Go.re (pc' := 17) (L' := #[.val (.int p0), .val (.int p1), .val (.int ((p1 &&& (31 : Int32)) - (8 : Int32))), .val (.ref (own_rf [o_OK, o_CANCELLED, o_UNKNOWN, o_INVALID_ARGUMENT, o_DEADLINE_EXCEEDED, o_NOT_FOUND, o_ALREADY_EXISTS, o_PERMISSION_DENIED, o_RESOURCE_EXHAUSTED, o_FAILED_PRECONDITION, o_ABORTED, o_OUT_OF_RANGE, o_UNIMPLEMENTED, o_INTERNAL, o_UNAVAILABLE, o_DATA_LOSS, o_UNAUTHENTICATED] o_UNKNOWN p0)), .unset]) (S' := [(.ref (own_rf [o_OK, o_CANCELLED, o_UNKNOWN, o_INVALID_ARGUMENT, o_DEADLINE_EXCEEDED, o_NOT_FOUND, o_ALREADY_EXISTS, o_PERMISSION_DENIED, o_RESOURCE_EXHAUSTED, o_FAILED_PRECONDITION, o_ABORTED, o_OUT_OF_RANGE, o_UNIMPLEMENTED, o_INTERNAL, o_UNAVAILABLE, o_DATA_LOSS, o_UNAUTHENTICATED] o_UNKNOWN ((p1 &&& (31 : Int32)) - (8 : Int32))))]) rfl rfl rfl ?_
  refine Go.astore (pc' := 19) #[.val (.int p0), .val (.int p1), .val (.int ((p1 &&& (31 : Int32)) - (8 : Int32))), .val (.ref (own_rf [o_OK, o_CANCELLED, o_UNKNOWN, o_INVALID_ARGUMENT, o_DEADLINE_EXCEEDED, o_NOT_FOUND, o_ALREADY_EXISTS, o_PERMISSION_DENIED, o_RESOURCE_EXHAUSTED, o_FAILED_PRECONDITION, o_ABORTED, o_OUT_OF_RANGE, o_UNIMPLEMENTED, o_INTERNAL, o_UNAVAILABLE, o_DATA_LOSS, o_UNAUTHENTICATED] o_UNKNOWN p0)), .val (.ref (own_rf [o_OK, o_CANCELLED, o_UNKNOWN, o_INVALID_ARGUMENT, o_DEADLINE_EXCEEDED, o_NOT_FOUND, o_ALREADY_EXISTS, o_PERMISSION_DENIED, o_RESOURCE_EXHAUSTED, o_FAILED_PRECONDITION, o_ABORTED, o_OUT_OF_RANGE, o_UNIMPLEMENTED, o_INTERNAL, o_UNAVAILABLE, o_DATA_LOSS, o_UNAUTHENTICATED] o_UNKNOWN ((p1 &&& (31 : Int32)) - (8 : Int32))))] at_17 rfl rfl rfl ?_
  refine Go.aloadN (pc' := 20) at_19 rfl rfl rfl ?_
  refine Go.iloadN (pc' := 21) at_20 rfl rfl ?_
  refine Go.callS (a1 := a0) (pc' := 24) (argsL := [(.int p0)]) (rest := [(.ref (own_rf [o_OK, o_CANCELLED, o_UNKNOWN, o_INVALID_ARGUMENT, o_DEADLINE_EXCEEDED, o_NOT_FOUND, o_ALREADY_EXISTS, o_PERMISSION_DENIED, o_RESOURCE_EXHAUSTED, o_FAILED_PRECONDITION, o_ABORTED, o_OUT_OF_RANGE, o_UNIMPLEMENTED, o_INTERNAL, o_UNAVAILABLE, o_DATA_LOSS, o_UNAUTHENTICATED] o_UNKNOWN p0))]) (ct_ref l Z a0 hw n0 h0 p0 o_OK o_CANCELLED o_UNKNOWN o_INVALID_ARGUMENT o_DEADLINE_EXCEEDED o_NOT_FOUND o_ALREADY_EXISTS o_PERMISSION_DENIED o_RESOURCE_EXHAUSTED o_FAILED_PRECONDITION o_ABORTED o_OUT_OF_RANGE o_UNIMPLEMENTED o_INTERNAL o_UNAVAILABLE o_DATA_LOSS o_UNAUTHENTICATED S_OK S_CANCELLED S_UNKNOWN S_INVALID_ARGUMENT S_DEADLINE_EXCEEDED S_NOT_FOUND S_ALREADY_EXISTS S_PERMISSION_DENIED S_RESOURCE_EXHAUSTED S_FAILED_PRECONDITION S_ABORTED S_OUT_OF_RANGE S_UNIMPLEMENTED S_INTERNAL S_UNAVAILABLE S_DATA_LOSS S_UNAUTHENTICATED) at_21 (hw _ (List.mem_of_getElem? (i := 9) rfl)) (hw _ (List.mem_of_getElem? (i := 10) rfl)) (hw _ (List.mem_of_getElem? (i := 11) rfl)) (hw _ (List.mem_of_getElem? (i := 12) rfl)) (by decide) (lenOf pd__28I_29Lcom_2fexample_2ffairlead_2ffairlead_2fStatusCode_3b rfl) rfl 1 rfl rfl (by decide) (by decide) (by decide) (by decide) (fun _ q => nomatch q) rfl (fun v_11 h_12 N_13 hQ_14 hle_15 => ?_)
  obtain ⟨rfl, rfl⟩ := hQ_14
  refine Go.re (pc' := 24) (L' := #[.val (.int p0), .val (.int p1), .val (.int ((p1 &&& (31 : Int32)) - (8 : Int32))), .val (.ref (own_rf [o_OK, o_CANCELLED, o_UNKNOWN, o_INVALID_ARGUMENT, o_DEADLINE_EXCEEDED, o_NOT_FOUND, o_ALREADY_EXISTS, o_PERMISSION_DENIED, o_RESOURCE_EXHAUSTED, o_FAILED_PRECONDITION, o_ABORTED, o_OUT_OF_RANGE, o_UNIMPLEMENTED, o_INTERNAL, o_UNAVAILABLE, o_DATA_LOSS, o_UNAUTHENTICATED] o_UNKNOWN p0)), .val (.ref (own_rf [o_OK, o_CANCELLED, o_UNKNOWN, o_INVALID_ARGUMENT, o_DEADLINE_EXCEEDED, o_NOT_FOUND, o_ALREADY_EXISTS, o_PERMISSION_DENIED, o_RESOURCE_EXHAUSTED, o_FAILED_PRECONDITION, o_ABORTED, o_OUT_OF_RANGE, o_UNIMPLEMENTED, o_INTERNAL, o_UNAVAILABLE, o_DATA_LOSS, o_UNAUTHENTICATED] o_UNKNOWN ((p1 &&& (31 : Int32)) - (8 : Int32))))]) (S' := [(.ref (own_rf [o_OK, o_CANCELLED, o_UNKNOWN, o_INVALID_ARGUMENT, o_DEADLINE_EXCEEDED, o_NOT_FOUND, o_ALREADY_EXISTS, o_PERMISSION_DENIED, o_RESOURCE_EXHAUSTED, o_FAILED_PRECONDITION, o_ABORTED, o_OUT_OF_RANGE, o_UNIMPLEMENTED, o_INTERNAL, o_UNAVAILABLE, o_DATA_LOSS, o_UNAUTHENTICATED] o_UNKNOWN p0)), (.ref (own_rf [o_OK, o_CANCELLED, o_UNKNOWN, o_INVALID_ARGUMENT, o_DEADLINE_EXCEEDED, o_NOT_FOUND, o_ALREADY_EXISTS, o_PERMISSION_DENIED, o_RESOURCE_EXHAUSTED, o_FAILED_PRECONDITION, o_ABORTED, o_OUT_OF_RANGE, o_UNIMPLEMENTED, o_INTERNAL, o_UNAVAILABLE, o_DATA_LOSS, o_UNAUTHENTICATED] o_UNKNOWN p0))]) rfl rfl rfl ?_
  refine Go.acmp (pc' := 27) true at_24 rfl rfl (decide_eq_true rfl) (by decide) (by decide) ?_
  refine Go.aload (pc' := 29) at_27 rfl rfl rfl ?_
  refine Go.iloadN (pc' := 30) at_29 rfl rfl ?_
  refine Go.callS (a1 := a0) (pc' := 33) (argsL := [(.int ((p1 &&& (31 : Int32)) - (8 : Int32)))]) (rest := [(.ref (own_rf [o_OK, o_CANCELLED, o_UNKNOWN, o_INVALID_ARGUMENT, o_DEADLINE_EXCEEDED, o_NOT_FOUND, o_ALREADY_EXISTS, o_PERMISSION_DENIED, o_RESOURCE_EXHAUSTED, o_FAILED_PRECONDITION, o_ABORTED, o_OUT_OF_RANGE, o_UNIMPLEMENTED, o_INTERNAL, o_UNAVAILABLE, o_DATA_LOSS, o_UNAUTHENTICATED] o_UNKNOWN ((p1 &&& (31 : Int32)) - (8 : Int32))))]) (ct_ref l Z a0 hw n0 h0 ((p1 &&& (31 : Int32)) - (8 : Int32)) o_OK o_CANCELLED o_UNKNOWN o_INVALID_ARGUMENT o_DEADLINE_EXCEEDED o_NOT_FOUND o_ALREADY_EXISTS o_PERMISSION_DENIED o_RESOURCE_EXHAUSTED o_FAILED_PRECONDITION o_ABORTED o_OUT_OF_RANGE o_UNIMPLEMENTED o_INTERNAL o_UNAVAILABLE o_DATA_LOSS o_UNAUTHENTICATED S_OK S_CANCELLED S_UNKNOWN S_INVALID_ARGUMENT S_DEADLINE_EXCEEDED S_NOT_FOUND S_ALREADY_EXISTS S_PERMISSION_DENIED S_RESOURCE_EXHAUSTED S_FAILED_PRECONDITION S_ABORTED S_OUT_OF_RANGE S_UNIMPLEMENTED S_INTERNAL S_UNAVAILABLE S_DATA_LOSS S_UNAUTHENTICATED) at_30 (hw _ (List.mem_of_getElem? (i := 9) rfl)) (hw _ (List.mem_of_getElem? (i := 10) rfl)) (hw _ (List.mem_of_getElem? (i := 11) rfl)) (hw _ (List.mem_of_getElem? (i := 12) rfl)) (by decide) (lenOf pd__28I_29Lcom_2fexample_2ffairlead_2ffairlead_2fStatusCode_3b rfl) rfl 1 rfl rfl (by decide) (by decide) (by decide) (by decide) (fun _ q => nomatch q) rfl (fun v_16 h_17 N_18 hQ_19 hle_20 => ?_)
  obtain ⟨rfl, rfl⟩ := hQ_19
  refine Go.re (pc' := 33) (L' := #[.val (.int p0), .val (.int p1), .val (.int ((p1 &&& (31 : Int32)) - (8 : Int32))), .val (.ref (own_rf [o_OK, o_CANCELLED, o_UNKNOWN, o_INVALID_ARGUMENT, o_DEADLINE_EXCEEDED, o_NOT_FOUND, o_ALREADY_EXISTS, o_PERMISSION_DENIED, o_RESOURCE_EXHAUSTED, o_FAILED_PRECONDITION, o_ABORTED, o_OUT_OF_RANGE, o_UNIMPLEMENTED, o_INTERNAL, o_UNAVAILABLE, o_DATA_LOSS, o_UNAUTHENTICATED] o_UNKNOWN p0)), .val (.ref (own_rf [o_OK, o_CANCELLED, o_UNKNOWN, o_INVALID_ARGUMENT, o_DEADLINE_EXCEEDED, o_NOT_FOUND, o_ALREADY_EXISTS, o_PERMISSION_DENIED, o_RESOURCE_EXHAUSTED, o_FAILED_PRECONDITION, o_ABORTED, o_OUT_OF_RANGE, o_UNIMPLEMENTED, o_INTERNAL, o_UNAVAILABLE, o_DATA_LOSS, o_UNAUTHENTICATED] o_UNKNOWN ((p1 &&& (31 : Int32)) - (8 : Int32))))]) (S' := [(.ref (own_rf [o_OK, o_CANCELLED, o_UNKNOWN, o_INVALID_ARGUMENT, o_DEADLINE_EXCEEDED, o_NOT_FOUND, o_ALREADY_EXISTS, o_PERMISSION_DENIED, o_RESOURCE_EXHAUSTED, o_FAILED_PRECONDITION, o_ABORTED, o_OUT_OF_RANGE, o_UNIMPLEMENTED, o_INTERNAL, o_UNAVAILABLE, o_DATA_LOSS, o_UNAUTHENTICATED] o_UNKNOWN ((p1 &&& (31 : Int32)) - (8 : Int32)))), (.ref (own_rf [o_OK, o_CANCELLED, o_UNKNOWN, o_INVALID_ARGUMENT, o_DEADLINE_EXCEEDED, o_NOT_FOUND, o_ALREADY_EXISTS, o_PERMISSION_DENIED, o_RESOURCE_EXHAUSTED, o_FAILED_PRECONDITION, o_ABORTED, o_OUT_OF_RANGE, o_UNIMPLEMENTED, o_INTERNAL, o_UNAVAILABLE, o_DATA_LOSS, o_UNAUTHENTICATED] o_UNKNOWN ((p1 &&& (31 : Int32)) - (8 : Int32))))]) rfl rfl rfl ?_
  refine Go.acmp (pc' := 36) true at_33 rfl rfl (decide_eq_true rfl) (by decide) (by decide) ?_
  refine Go.iconst (pc' := 37) 1 at_36 rfl rfl ?_
  refine Go.goto (pc' := 41) at_37 (by decide) (by decide) ?_
  refine Go.retN (t := .boolean) (1 : Int32) rfl (by simp) rfl [] (fun _ q => nomatch q) at_41 (by decide) (by decide) ?_
  exact ⟨rfl, rfl⟩
set_option maxRecDepth 65536 in
set_option maxHeartbeats 40000000 in
theorem comes_1 {Post : Tables → Env → Array Value → State → Outcome → State → Prop} (hpost : ∀ tb e args s v u, (limb_1_1.after args s (.returned v) u = true ∧ limb_1_2.after args s (.returned v) u = true ∧ True) → FrameEnd s (.returned v) u (Jvm.fieldLocs frame_1_writes args s ++ Jvm.arrayLocs frame_1_arrays args s ++ Jvm.staticLocs frame_1_statics s) 0 0 → Post tb e args s (.returned v) u) :
    ArmFor flags0 classFile x code maxLocals ret World_1 tables_1 room_1 Calls_1 rest_1 Pre_1 Post := by
  intro l hfl _ _ p e ha hc hk s m args below hf hA hF happ hP
  obtain ⟨hcalls, hrest, hpre⟩ := hP
  obtain ⟨-, -, -, hnamed, -, -, -, hat⟩ := (Spec.applies_iff hf).mp happ
  obtain ⟨hg, hn⟩ := and_e (Cond.before_iff.mp (show (Jvm.Cond.and given_1 narrow_1).before args s = true from hpre))
  obtain ⟨g0, hg⟩ := and_e hg
  obtain ⟨w0, w1, rfl⟩ : ∃ w0 w1 : Value, args = #[w0, w1] := by
    have hs : args.size = 2 := by simpa [Cond.value, given_1] using g0
    obtain ⟨L⟩ := args
    match L, hs with
    | [w0, w1], _ => exact ⟨w0, w1, rfl⟩
  have hw := fun d (hd : d ∈ tables_1) => atoms_spec (ws := Jvm.Cond.code x code maxLocals ret :: tables_1) hat d (List.mem_cons_of_mem _ hd)
  have hfit : Fit s := fun {y c} hc i hi => by
    obtain ⟨ha, rfl⟩ := Array.getElem?_eq_some_iff.mp hc
    have q := List.all_eq_true.mp ((Array.all_eq_true_iff_forall_mem.mp hF) _ (Array.getElem_mem ha)) i (List.mem_range.mpr hi)
    simpa [Array.getElem?_eq_getElem hi] using q
  obtain ⟨g1, hg⟩ := and_e hg
  have g2 := hg
  obtain ⟨p0, e0⟩ := is_v g1
  obtain rfl : w0 = (.int p0) := Option.some.inj e0
  obtain ⟨p1, e1⟩ := is_v g2
  obtain rfl : w1 = (.int p1) := Option.some.inj e1
  obtain ⟨c0, hn⟩ := and_e hn
  obtain ⟨c1, hn⟩ := and_e hn
  obtain ⟨c2, hn⟩ := and_e hn
  obtain ⟨c3, hn⟩ := and_e hn
  obtain ⟨c4, hn⟩ := and_e hn
  obtain ⟨c5, hn⟩ := and_e hn
  obtain ⟨c6, hn⟩ := and_e hn
  obtain ⟨c7, hn⟩ := and_e hn
  obtain ⟨c8, hn⟩ := and_e hn
  obtain ⟨c9, hn⟩ := and_e hn
  obtain ⟨c10, hn⟩ := and_e hn
  obtain ⟨c11, hn⟩ := and_e hn
  obtain ⟨c12, hn⟩ := and_e hn
  obtain ⟨c13, hn⟩ := and_e hn
  obtain ⟨c14, hn⟩ := and_e hn
  obtain ⟨c15, hn⟩ := and_e hn
  obtain ⟨c16, hn⟩ := and_e hn
  obtain ⟨c17, hn⟩ := and_e hn
  obtain ⟨c18, hn⟩ := and_e hn
  obtain ⟨c19, hn⟩ := and_e hn
  obtain ⟨c20, hn⟩ := and_e hn
  obtain ⟨c21, hn⟩ := and_e hn
  obtain ⟨c22, hn⟩ := and_e hn
  obtain ⟨c23, hn⟩ := and_e hn
  obtain ⟨c24, hn⟩ := and_e hn
  obtain ⟨c25, hn⟩ := and_e hn
  obtain ⟨c26, hn⟩ := and_e hn
  obtain ⟨c27, hn⟩ := and_e hn
  obtain ⟨c28, hn⟩ := and_e hn
  obtain ⟨c29, hn⟩ := and_e hn
  obtain ⟨c30, hn⟩ := and_e hn
  obtain ⟨c31, hn⟩ := and_e hn
  obtain ⟨c32, hn⟩ := and_e hn
  obtain ⟨c33, hn⟩ := and_e hn
  obtain ⟨c34, hn⟩ := and_e hn
  have c35 := hn
  obtain ⟨o_OK, ev_OK⟩ := exa_v c2
  have S_OK := Sta.start ev_OK (Or.inr ⟨(hw _ (List.mem_of_getElem? (i := 2) rfl)), (hw _ (List.mem_of_getElem? (i := 6) rfl))⟩)
  have X_OK := Exa.start ev_OK c2
  obtain ⟨o_UNKNOWN, ev_UNKNOWN⟩ := exa_v c4
  have S_UNKNOWN := Sta.start ev_UNKNOWN (Or.inr ⟨(hw _ (List.mem_of_getElem? (i := 2) rfl)), (hw _ (List.mem_of_getElem? (i := 8) rfl))⟩)
  have X_UNKNOWN := Exa.start ev_UNKNOWN c4
  obtain ⟨o_UNAVAILABLE, ev_UNAVAILABLE⟩ := exa_v c5
  have S_UNAVAILABLE := Sta.start ev_UNAVAILABLE (Or.inr ⟨(hw _ (List.mem_of_getElem? (i := 2) rfl)), (hw _ (List.mem_of_getElem? (i := 15) rfl))⟩)
  have X_UNAVAILABLE := Exa.start ev_UNAVAILABLE c5
  obtain ⟨o_UNIMPLEMENTED, ev_UNIMPLEMENTED⟩ := exa_v c7
  have S_UNIMPLEMENTED := Sta.start ev_UNIMPLEMENTED (Or.inr ⟨(hw _ (List.mem_of_getElem? (i := 2) rfl)), (hw _ (List.mem_of_getElem? (i := 17) rfl))⟩)
  have X_UNIMPLEMENTED := Exa.start ev_UNIMPLEMENTED c7
  obtain ⟨o_NOT_FOUND, ev_NOT_FOUND⟩ := exa_v c9
  have S_NOT_FOUND := Sta.start ev_NOT_FOUND (Or.inr ⟨(hw _ (List.mem_of_getElem? (i := 2) rfl)), (hw _ (List.mem_of_getElem? (i := 19) rfl))⟩)
  have X_NOT_FOUND := Exa.start ev_NOT_FOUND c9
  obtain ⟨o_ALREADY_EXISTS, ev_ALREADY_EXISTS⟩ := exa_v c11
  have S_ALREADY_EXISTS := Sta.start ev_ALREADY_EXISTS (Or.inr ⟨(hw _ (List.mem_of_getElem? (i := 2) rfl)), (hw _ (List.mem_of_getElem? (i := 21) rfl))⟩)
  have X_ALREADY_EXISTS := Exa.start ev_ALREADY_EXISTS c11
  obtain ⟨o_RESOURCE_EXHAUSTED, ev_RESOURCE_EXHAUSTED⟩ := exa_v c13
  have S_RESOURCE_EXHAUSTED := Sta.start ev_RESOURCE_EXHAUSTED (Or.inr ⟨(hw _ (List.mem_of_getElem? (i := 2) rfl)), (hw _ (List.mem_of_getElem? (i := 23) rfl))⟩)
  have X_RESOURCE_EXHAUSTED := Exa.start ev_RESOURCE_EXHAUSTED c13
  obtain ⟨o_INVALID_ARGUMENT, ev_INVALID_ARGUMENT⟩ := exa_v c15
  have S_INVALID_ARGUMENT := Sta.start ev_INVALID_ARGUMENT (Or.inr ⟨(hw _ (List.mem_of_getElem? (i := 2) rfl)), (hw _ (List.mem_of_getElem? (i := 25) rfl))⟩)
  have X_INVALID_ARGUMENT := Exa.start ev_INVALID_ARGUMENT c15
  obtain ⟨o_DATA_LOSS, ev_DATA_LOSS⟩ := exa_v c17
  have S_DATA_LOSS := Sta.start ev_DATA_LOSS (Or.inr ⟨(hw _ (List.mem_of_getElem? (i := 2) rfl)), (hw _ (List.mem_of_getElem? (i := 27) rfl))⟩)
  have X_DATA_LOSS := Exa.start ev_DATA_LOSS c17
  obtain ⟨o_CANCELLED, ev_CANCELLED⟩ := exa_v c19
  have S_CANCELLED := Sta.start ev_CANCELLED (Or.inr ⟨(hw _ (List.mem_of_getElem? (i := 2) rfl)), (hw _ (List.mem_of_getElem? (i := 29) rfl))⟩)
  have X_CANCELLED := Exa.start ev_CANCELLED c19
  obtain ⟨o_ABORTED, ev_ABORTED⟩ := exa_v c22
  have S_ABORTED := Sta.start ev_ABORTED (Or.inr ⟨(hw _ (List.mem_of_getElem? (i := 2) rfl)), (hw _ (List.mem_of_getElem? (i := 31) rfl))⟩)
  have X_ABORTED := Exa.start ev_ABORTED c22
  obtain ⟨o_OUT_OF_RANGE, ev_OUT_OF_RANGE⟩ := exa_v c24
  have S_OUT_OF_RANGE := Sta.start ev_OUT_OF_RANGE (Or.inr ⟨(hw _ (List.mem_of_getElem? (i := 2) rfl)), (hw _ (List.mem_of_getElem? (i := 33) rfl))⟩)
  have X_OUT_OF_RANGE := Exa.start ev_OUT_OF_RANGE c24
  obtain ⟨o_PERMISSION_DENIED, ev_PERMISSION_DENIED⟩ := exa_v c26
  have S_PERMISSION_DENIED := Sta.start ev_PERMISSION_DENIED (Or.inr ⟨(hw _ (List.mem_of_getElem? (i := 2) rfl)), (hw _ (List.mem_of_getElem? (i := 35) rfl))⟩)
  have X_PERMISSION_DENIED := Exa.start ev_PERMISSION_DENIED c26
  obtain ⟨o_DEADLINE_EXCEEDED, ev_DEADLINE_EXCEEDED⟩ := exa_v c28
  have S_DEADLINE_EXCEEDED := Sta.start ev_DEADLINE_EXCEEDED (Or.inr ⟨(hw _ (List.mem_of_getElem? (i := 2) rfl)), (hw _ (List.mem_of_getElem? (i := 37) rfl))⟩)
  have X_DEADLINE_EXCEEDED := Exa.start ev_DEADLINE_EXCEEDED c28
  obtain ⟨o_UNAUTHENTICATED, ev_UNAUTHENTICATED⟩ := exa_v c30
  have S_UNAUTHENTICATED := Sta.start ev_UNAUTHENTICATED (Or.inr ⟨(hw _ (List.mem_of_getElem? (i := 2) rfl)), (hw _ (List.mem_of_getElem? (i := 39) rfl))⟩)
  have X_UNAUTHENTICATED := Exa.start ev_UNAUTHENTICATED c30
  obtain ⟨o_FAILED_PRECONDITION, ev_FAILED_PRECONDITION⟩ := exa_v c32
  have S_FAILED_PRECONDITION := Sta.start ev_FAILED_PRECONDITION (Or.inr ⟨(hw _ (List.mem_of_getElem? (i := 2) rfl)), (hw _ (List.mem_of_getElem? (i := 41) rfl))⟩)
  have X_FAILED_PRECONDITION := Exa.start ev_FAILED_PRECONDITION c32
  obtain ⟨o_INTERNAL, ev_INTERNAL⟩ := exa_v c34
  have S_INTERNAL := Sta.start ev_INTERNAL (Or.inr ⟨(hw _ (List.mem_of_getElem? (i := 2) rfl)), (hw _ (List.mem_of_getElem? (i := 43) rfl))⟩)
  have X_INTERNAL := Exa.start ev_INTERNAL c34
  have hl_B := eqv_i (Term.int_eval (17)) c1
  obtain ⟨b1, ev_B⟩ := len_v hl_B
  have S_B := Sta.start ev_B (Or.inr ⟨(hw _ (List.mem_of_getElem? (i := 2) rfl)), (hw _ (List.mem_of_getElem? (i := 5) rfl))⟩)
  obtain ⟨cl, A_B⟩ := Arr.start ev_B c0
  have hlen : cl.slots.size.toInt32 = 17 := by
    obtain ⟨a9, c9, z1, z2, z3⟩ := Term.length_spec hl_B
    cases ev_B.symm.trans z1
    cases (A_B.fin (Vm.Alike.refl _)).symm.trans z2
    exact (Value.int.inj z3).symm
  have z_0 := elem_in (own_ref ev_OK c3) ev_B (Term.int_eval (0)) A_B.1
  have he_0 : cl.slots[0]? = some (.ref o_OK) := z_0.2
  have z_1 := elem_in (own_ref ev_CANCELLED c20) ev_B (Term.int_eval (1)) A_B.1
  have he_1 : cl.slots[1]? = some (.ref o_CANCELLED) := z_1.2
  have z_2 := elem_in (own_ref ev_UNKNOWN c21) ev_B (Term.int_eval (2)) A_B.1
  have he_2 : cl.slots[2]? = some (.ref o_UNKNOWN) := z_2.2
  have z_3 := elem_in (own_ref ev_INVALID_ARGUMENT c16) ev_B (Term.int_eval (3)) A_B.1
  have he_3 : cl.slots[3]? = some (.ref o_INVALID_ARGUMENT) := z_3.2
  have z_4 := elem_in (own_ref ev_DEADLINE_EXCEEDED c29) ev_B (Term.int_eval (4)) A_B.1
  have he_4 : cl.slots[4]? = some (.ref o_DEADLINE_EXCEEDED) := z_4.2
  have z_5 := elem_in (own_ref ev_NOT_FOUND c10) ev_B (Term.int_eval (5)) A_B.1
  have he_5 : cl.slots[5]? = some (.ref o_NOT_FOUND) := z_5.2
  have z_6 := elem_in (own_ref ev_ALREADY_EXISTS c12) ev_B (Term.int_eval (6)) A_B.1
  have he_6 : cl.slots[6]? = some (.ref o_ALREADY_EXISTS) := z_6.2
  have z_7 := elem_in (own_ref ev_PERMISSION_DENIED c27) ev_B (Term.int_eval (7)) A_B.1
  have he_7 : cl.slots[7]? = some (.ref o_PERMISSION_DENIED) := z_7.2
  have z_8 := elem_in (own_ref ev_RESOURCE_EXHAUSTED c14) ev_B (Term.int_eval (8)) A_B.1
  have he_8 : cl.slots[8]? = some (.ref o_RESOURCE_EXHAUSTED) := z_8.2
  have z_9 := elem_in (own_ref ev_FAILED_PRECONDITION c33) ev_B (Term.int_eval (9)) A_B.1
  have he_9 : cl.slots[9]? = some (.ref o_FAILED_PRECONDITION) := z_9.2
  have z_10 := elem_in (own_ref ev_ABORTED c23) ev_B (Term.int_eval (10)) A_B.1
  have he_10 : cl.slots[10]? = some (.ref o_ABORTED) := z_10.2
  have z_11 := elem_in (own_ref ev_OUT_OF_RANGE c25) ev_B (Term.int_eval (11)) A_B.1
  have he_11 : cl.slots[11]? = some (.ref o_OUT_OF_RANGE) := z_11.2
  have z_12 := elem_in (own_ref ev_UNIMPLEMENTED c8) ev_B (Term.int_eval (12)) A_B.1
  have he_12 : cl.slots[12]? = some (.ref o_UNIMPLEMENTED) := z_12.2
  have z_13 := elem_in (own_ref ev_INTERNAL c35) ev_B (Term.int_eval (13)) A_B.1
  have he_13 : cl.slots[13]? = some (.ref o_INTERNAL) := z_13.2
  have z_14 := elem_in (own_ref ev_UNAVAILABLE c6) ev_B (Term.int_eval (14)) A_B.1
  have he_14 : cl.slots[14]? = some (.ref o_UNAVAILABLE) := z_14.2
  have z_15 := elem_in (own_ref ev_DATA_LOSS c18) ev_B (Term.int_eval (15)) A_B.1
  have he_15 : cl.slots[15]? = some (.ref o_DATA_LOSS) := z_15.2
  have z_16 := elem_in (own_ref ev_UNAUTHENTICATED c31) ev_B (Term.int_eval (16)) A_B.1
  have he_16 : cl.slots[16]? = some (.ref o_UNAUTHENTICATED) := z_16.2
  have hge : 17 ≤ cl.slots.size := by
    by_cases q : 17 ≤ cl.slots.size
    · exact q
    · exact absurd (Or.inr (show cl.slots.size ≤ (16 : Int32).toNatClampNeg from (show cl.slots.size ≤ 16 by omega))) z_16.1
  obtain ⟨n, o, h1, h2, h3, v, Ls, N, rfl, ⟨hh, rfl⟩, hFr, -, -, hEn⟩ := ct_law l s _ hw s.heap.size s.heap p0 p1 b1 cl o_OK o_CANCELLED o_UNKNOWN o_INVALID_ARGUMENT o_DEADLINE_EXCEEDED o_NOT_FOUND o_ALREADY_EXISTS o_PERMISSION_DENIED o_RESOURCE_EXHAUSTED o_FAILED_PRECONDITION o_ABORTED o_OUT_OF_RANGE o_UNIMPLEMENTED o_INTERNAL o_UNAVAILABLE o_DATA_LOSS o_UNAUTHENTICATED S_B A_B hlen hge S_OK S_CANCELLED S_UNKNOWN S_INVALID_ARGUMENT S_DEADLINE_EXCEEDED S_NOT_FOUND S_ALREADY_EXISTS S_PERMISSION_DENIED S_RESOURCE_EXHAUSTED S_FAILED_PRECONDITION S_ABORTED S_OUT_OF_RANGE S_UNIMPLEMENTED S_INTERNAL S_UNAVAILABLE S_DATA_LOSS S_UNAUTHENTICATED (fun n hn => own_el o_OK o_CANCELLED o_UNKNOWN o_INVALID_ARGUMENT o_DEADLINE_EXCEEDED o_NOT_FOUND o_ALREADY_EXISTS o_PERMISSION_DENIED o_RESOURCE_EXHAUSTED o_FAILED_PRECONDITION o_ABORTED o_OUT_OF_RANGE o_UNIMPLEMENTED o_INTERNAL o_UNAVAILABLE o_DATA_LOSS o_UNAUTHENTICATED he_0 he_1 he_2 he_3 he_4 he_5 he_6 he_7 he_8 he_9 he_10 he_11 he_12 he_13 he_14 he_15 he_16 _ hn) p e ha hc hk s m _ below hf ((Spec.applies_iff_loose hf).mp happ).1 ⟨rfl, State.Warmed39.refl s, rfl, (fun p hp => nomatch hp), (fun x q => nomatch q)⟩ trivial
  refine ⟨n, _, h1, h2, h3, hpost _ _ _ _ _ _ ⟨Cond.after_iff.mpr rfl, Cond.after_iff.mpr (eq_i res_at (Term.int_eval (1)) rfl), trivial⟩ ⟨⟨_, rfl⟩, hEn.2 rfl, (hEn.1.2.2.2.sift fun y hy => Or.inr (hFr y hy)).mono (by decide) (by decide)⟩⟩
theorem main_1_1 : Claimed_1_1 := comes_1 fun _ _ _ _ _ _ h hF => ⟨h.1, hF⟩
theorem main_1_2 : Claimed_1_2 := comes_1 fun _ _ _ _ _ _ h hF => ⟨h.2.1, hF⟩
end Jvm.Pilot.@@N@@
namespace Jvm.Pilot.@@N@@
open Jvm Jvm.ClassFile Sem Op Lib Jvm.Free Jvm.Stand Jvm.Pilot.@@N@@.Jvm.D
/-! MADE BY PROGRAM (witnessworld.py) out of the Statement's table words and the real class files: 13 classes; the members and pool entries that the words name. The judged class is class 1, her method 2. -/
namespace start1
open Jvm.ClassFile
def u (s : String) : CpInfo := .utf8 (stringToUtf16 s)
/-- a pool by its gaps: so many unusable entries, then the entry; so many at the end -/
def gap : Nat → List CpInfo → List CpInfo
  | 0, r => r
  | n + 1, r => .unusable :: gap n r
def poolList (es : List (Nat × CpInfo)) (last : Nat) : List CpInfo := es.foldr (fun e r => gap e.1 (e.2 :: r)) (gap last [])
def pool (es : List (Nat × CpInfo)) (last : Nat) : Array CpInfo := ⟨poolList es last⟩
def fileOf (pool : Array CpInfo) (this : Nat) (attrs : Array Attribute := #[]) (ms : Array MethodInfo := #[]) (fl : Nat := 33) (sup : Nat := 0) (ifs : Array Nat := #[]) (fds : Array FieldInfo := #[]) : ClassFile where
  minorVersion := 0
  majorVersion := 65
  constantPool := pool
  accessFlags := fl
  thisClass := this
  superClass := sup
  interfaces := ifs
  fields := fds
  methods := ms
  attributes := attrs
def plain (name : String) (sup : Option ClassId) : Class where
  name := name
  kind := .ordinary
  loader := none
  accessFlags := 33
  super := sup
  interfaces := #[]
  cf := none
  fields := #[]
  methods := #[]
  instanceTypes := #[]
  staticTypes := #[]
  resolved := #[]
  callSites := []
  init := .initialized
  statics := none
  mirror := none

def pool0 : Array CpInfo := pool [(5, u "<init>"), (0, u "()V"), (1, .class_ 10), (1, u "java/lang/Object")] 113

def k0m0 : Method := { name := "<init>", desc := "()V", sig := { parameters := [], returnType := none }, accessFlags := 1, code := none }
/-- java/lang/Object -/
def k0 : Class := { plain "java/lang/Object" none with
  accessFlags := 33
  interfaces := #[]
  cf := some (fileOf pool0 8 #[] #[{ accessFlags := 1, nameIndex := 5, descriptorIndex := 6, attributes := #[] }] 33 0 #[] #[])
  fields := #[]
  methods := #[k0m0]
  instanceTypes := #[]
  staticTypes := #[]
  resolved := Array.replicate 124 none
  statics := none }

def pool1 : Array CpInfo := pool [(2, .class_ 4), (1, u "java/lang/Object"), (0, u "<init>"), (0, u "()V"), (0, .fieldref 8 9), (0, .class_ 10), (0, .nameAndType 11 12), (0, u "com/example/fairlead/fairlead/StatusCode"), (0, u "OK"), (0, u "Lcom/example/fairlead/fairlead/StatusCode;"), (0, .fieldref 8 14), (0, .nameAndType 15 12), (0, u "CANCELLED"), (0, .fieldref 8 17), (0, .nameAndType 18 12), (0, u "UNKNOWN"), (0, .fieldref 8 20), (0, .nameAndType 21 12), (0, u "INVALID_ARGUMENT"), (0, .fieldref 8 23), (0, .nameAndType 24 12), (0, u "DEADLINE_EXCEEDED"), (0, .fieldref 8 26), (0, .nameAndType 27 12), (0, u "NOT_FOUND"), (0, .fieldref 8 29), (0, .nameAndType 30 12), (0, u "ALREADY_EXISTS"), (0, .fieldref 8 32), (0, .nameAndType 33 12), (0, u "PERMISSION_DENIED"), (0, .fieldref 8 35), (0, .nameAndType 36 12), (0, u "RESOURCE_EXHAUSTED"), (0, .fieldref 8 38), (0, .nameAndType 39 12), (0, u "FAILED_PRECONDITION"), (0, .fieldref 8 41), (0, .nameAndType 42 12), (0, u "ABORTED"), (0, .fieldref 8 44), (0, .nameAndType 45 12), (0, u "OUT_OF_RANGE"), (0, .fieldref 8 47), (0, .nameAndType 48 12), (0, u "UNIMPLEMENTED"), (0, .fieldref 8 50), (0, .nameAndType 51 12), (0, u "INTERNAL"), (0, .fieldref 8 53), (0, .nameAndType 54 12), (0, u "UNAVAILABLE"), (0, .fieldref 8 56), (0, .nameAndType 57 12), (0, u "DATA_LOSS"), (0, .fieldref 8 59), (0, .nameAndType 60 12), (0, u "UNAUTHENTICATED"), (0, .methodref 8 62), (0, .nameAndType 63 64), (0, u "fromValue"), (0, u "(I)Lcom/example/fairlead/fairlead/StatusCode;"), (0, .methodref 66 67), (0, .class_ 68), (0, .nameAndType 69 64), (0, u "com/example/fairlead/fairlead/StatusCodeFromValuePinLaw"), (0, u "ref"), (3, u "law"), (0, u "(II)Z")] 2

def k1m0 : Method := { name := "<init>", desc := "()V", sig := { parameters := [], returnType := none }, accessFlags := 2, code := none }
def k1c1 : Code := { maxStack := 2, maxLocals := 1, code := method_2_code, exceptionTable := #[], attributes := #[] }
def k1m1 : Method := { name := "ref", desc := "(I)Lcom/example/fairlead/fairlead/StatusCode;", sig := { parameters := [.int], returnType := some (.object "com/example/fairlead/fairlead/StatusCode") }, accessFlags := 10, code := some k1c1 }
def k1c2 : Code := { maxStack := 2, maxLocals := 5, code := code, exceptionTable := #[], attributes := #[] }
def k1m2 : Method := { name := "law", desc := "(II)Z", sig := { parameters := [.int, .int], returnType := some .boolean }, accessFlags := 9, code := some k1c2 }
/-- com/example/fairlead/fairlead/StatusCodeFromValuePinLaw -/
def k1 : Class := { plain "com/example/fairlead/fairlead/StatusCodeFromValuePinLaw" (some 0) with
  accessFlags := 49
  interfaces := #[]
  cf := some (fileOf pool1 66 #[] #[{ accessFlags := 2, nameIndex := 5, descriptorIndex := 6, attributes := #[] }, { accessFlags := 10, nameIndex := 69, descriptorIndex := 64, attributes := #[] }, { accessFlags := 9, nameIndex := 73, descriptorIndex := 74, attributes := #[] }] 49 2 #[] #[])
  fields := #[]
  methods := #[k1m0, k1m1, k1m2]
  instanceTypes := #[]
  staticTypes := #[]
  resolved := Array.replicate 77 none
  statics := none }

def pool2 : Array CpInfo := pool [(1, .class_ 2), (0, u "java/lang/constant/Constable"), (0, .class_ 4), (0, u "java/lang/Object")] 6

/-- java/lang/constant/Constable -/
def k2 : Class := { plain "java/lang/constant/Constable" (some 0) with
  accessFlags := 1537
  interfaces := #[]
  cf := some (fileOf pool2 1 #[] #[] 1537 3 #[] #[])
  fields := #[]
  methods := #[]
  instanceTypes := #[]
  staticTypes := #[]
  resolved := Array.replicate 11 none
  statics := none }

def pool3 : Array CpInfo := pool [(1, .class_ 2), (0, u "java/lang/Comparable"), (0, .class_ 4), (0, u "java/lang/Object")] 7

/-- java/lang/Comparable -/
def k3 : Class := { plain "java/lang/Comparable" (some 0) with
  accessFlags := 1537
  interfaces := #[]
  cf := some (fileOf pool3 1 #[] #[] 1537 3 #[] #[])
  fields := #[]
  methods := #[]
  instanceTypes := #[]
  staticTypes := #[]
  resolved := Array.replicate 12 none
  statics := none }

def pool4 : Array CpInfo := pool [(1, .class_ 2), (0, u "java/io/Serializable"), (0, .class_ 4), (0, u "java/lang/Object")] 2

/-- java/io/Serializable -/
def k4 : Class := { plain "java/io/Serializable" (some 0) with
  accessFlags := 1537
  interfaces := #[]
  cf := some (fileOf pool4 1 #[] #[] 1537 3 #[] #[])
  fields := #[]
  methods := #[]
  instanceTypes := #[]
  staticTypes := #[]
  resolved := Array.replicate 7 none
  statics := none }

def pool5 : Array CpInfo := pool [(2, .class_ 4), (1, u "java/lang/Enum"), (0, u "name"), (0, u "Ljava/lang/String;"), (2, u "ordinal"), (0, u "I"), (1, .class_ 14), (1, u "java/lang/Object"), (4, u "hash"), (86, .class_ 108), (1, u "java/lang/Enum$EnumDesc"), (2, .class_ 112), (0, u "java/lang/constant/Constable"), (0, .class_ 114), (0, u "java/lang/Comparable"), (0, .class_ 116), (0, u "java/io/Serializable")] 87

/-- java/lang/Enum -/
def k5 : Class := { plain "java/lang/Enum" (some 0) with
  accessFlags := 1057
  interfaces := #[2, 3, 4]
  cf := some (fileOf pool5 2 #[.nestMembers #[106]] #[] 1057 12 #[111, 113, 115] #[{ accessFlags := 18, nameIndex := 5, descriptorIndex := 6, attributes := #[] }, { accessFlags := 18, nameIndex := 9, descriptorIndex := 10, attributes := #[] }, { accessFlags := 2, nameIndex := 19, descriptorIndex := 10, attributes := #[] }])
  fields := #[{ name := "name", type := (.object "java/lang/String"), accessFlags := 18, slot := 0, constantValue := 0 }, { name := "ordinal", type := .int, accessFlags := 18, slot := 1, constantValue := 0 }, { name := "hash", type := .int, accessFlags := 2, slot := 2, constantValue := 0 }]
  methods := #[]
  instanceTypes := #[(.object "java/lang/String"), .int, .int]
  staticTypes := #[]
  resolved := Array.replicate 204 none
  statics := none }

def pool6 : Array CpInfo := pool [(1, .class_ 2), (0, u "com/example/fairlead/fairlead/StatusCode"), (2, u "OK"), (0, u "Lcom/example/fairlead/fairlead/StatusCode;"), (2, u "CANCELLED"), (0, .fieldref 1 11), (0, .nameAndType 12 6), (0, u "UNKNOWN"), (2, u "INVALID_ARGUMENT"), (2, u "DEADLINE_EXCEEDED"), (2, u "NOT_FOUND"), (2, u "ALREADY_EXISTS"), (2, u "PERMISSION_DENIED"), (2, u "RESOURCE_EXHAUSTED"), (2, u "FAILED_PRECONDITION"), (2, u "ABORTED"), (2, u "OUT_OF_RANGE"), (2, u "UNIMPLEMENTED"), (2, u "INTERNAL"), (2, u "UNAVAILABLE"), (2, u "DATA_LOSS"), (2, u "UNAUTHENTICATED"), (2, u "$VALUES"), (0, u "[Lcom/example/fairlead/fairlead/StatusCode;"), (6, .class_ 67), (1, u "java/lang/Enum"), (8, u "value"), (0, u "I"), (0, .fieldref 1 79), (0, .nameAndType 80 58), (0, u "BY_VALUE"), (34, u "fromValue"), (0, u "(I)Lcom/example/fairlead/fairlead/StatusCode;")] 6

def k6c0 : Code := { maxStack := 2, maxLocals := 1, code := prog_13_method_5_code, exceptionTable := #[], attributes := #[] }
def k6m0 : Method := { name := "fromValue", desc := "(I)Lcom/example/fairlead/fairlead/StatusCode;", sig := { parameters := [.int], returnType := some (.object "com/example/fairlead/fairlead/StatusCode") }, accessFlags := 9, code := some k6c0 }
/-- com/example/fairlead/fairlead/StatusCode -/
def k6 : Class := { plain "com/example/fairlead/fairlead/StatusCode" (some 5) with
  accessFlags := 16433
  interfaces := #[]
  cf := some (fileOf pool6 1 #[] #[{ accessFlags := 9, nameIndex := 115, descriptorIndex := 116, attributes := #[] }] 16433 65 #[] #[{ accessFlags := 16409, nameIndex := 5, descriptorIndex := 6, attributes := #[] }, { accessFlags := 16409, nameIndex := 9, descriptorIndex := 6, attributes := #[] }, { accessFlags := 16409, nameIndex := 12, descriptorIndex := 6, attributes := #[] }, { accessFlags := 16409, nameIndex := 15, descriptorIndex := 6, attributes := #[] }, { accessFlags := 16409, nameIndex := 18, descriptorIndex := 6, attributes := #[] }, { accessFlags := 16409, nameIndex := 21, descriptorIndex := 6, attributes := #[] }, { accessFlags := 16409, nameIndex := 24, descriptorIndex := 6, attributes := #[] }, { accessFlags := 16409, nameIndex := 27, descriptorIndex := 6, attributes := #[] }, { accessFlags := 16409, nameIndex := 30, descriptorIndex := 6, attributes := #[] }, { accessFlags := 16409, nameIndex := 33, descriptorIndex := 6, attributes := #[] }, { accessFlags := 16409, nameIndex := 36, descriptorIndex := 6, attributes := #[] }, { accessFlags := 16409, nameIndex := 39, descriptorIndex := 6, attributes := #[] }, { accessFlags := 16409, nameIndex := 42, descriptorIndex := 6, attributes := #[] }, { accessFlags := 16409, nameIndex := 45, descriptorIndex := 6, attributes := #[] }, { accessFlags := 16409, nameIndex := 48, descriptorIndex := 6, attributes := #[] }, { accessFlags := 16409, nameIndex := 51, descriptorIndex := 6, attributes := #[] }, { accessFlags := 16409, nameIndex := 54, descriptorIndex := 6, attributes := #[] }, { accessFlags := 26, nameIndex := 80, descriptorIndex := 58, attributes := #[] }, { accessFlags := 18, nameIndex := 76, descriptorIndex := 77, attributes := #[] }, { accessFlags := 4122, nameIndex := 57, descriptorIndex := 58, attributes := #[] }])
  fields := #[{ name := "OK", type := (.object "com/example/fairlead/fairlead/StatusCode"), accessFlags := 16409, slot := 0, constantValue := 0 }, { name := "CANCELLED", type := (.object "com/example/fairlead/fairlead/StatusCode"), accessFlags := 16409, slot := 1, constantValue := 0 }, { name := "UNKNOWN", type := (.object "com/example/fairlead/fairlead/StatusCode"), accessFlags := 16409, slot := 2, constantValue := 0 }, { name := "INVALID_ARGUMENT", type := (.object "com/example/fairlead/fairlead/StatusCode"), accessFlags := 16409, slot := 3, constantValue := 0 }, { name := "DEADLINE_EXCEEDED", type := (.object "com/example/fairlead/fairlead/StatusCode"), accessFlags := 16409, slot := 4, constantValue := 0 }, { name := "NOT_FOUND", type := (.object "com/example/fairlead/fairlead/StatusCode"), accessFlags := 16409, slot := 5, constantValue := 0 }, { name := "ALREADY_EXISTS", type := (.object "com/example/fairlead/fairlead/StatusCode"), accessFlags := 16409, slot := 6, constantValue := 0 }, { name := "PERMISSION_DENIED", type := (.object "com/example/fairlead/fairlead/StatusCode"), accessFlags := 16409, slot := 7, constantValue := 0 }, { name := "RESOURCE_EXHAUSTED", type := (.object "com/example/fairlead/fairlead/StatusCode"), accessFlags := 16409, slot := 8, constantValue := 0 }, { name := "FAILED_PRECONDITION", type := (.object "com/example/fairlead/fairlead/StatusCode"), accessFlags := 16409, slot := 9, constantValue := 0 }, { name := "ABORTED", type := (.object "com/example/fairlead/fairlead/StatusCode"), accessFlags := 16409, slot := 10, constantValue := 0 }, { name := "OUT_OF_RANGE", type := (.object "com/example/fairlead/fairlead/StatusCode"), accessFlags := 16409, slot := 11, constantValue := 0 }, { name := "UNIMPLEMENTED", type := (.object "com/example/fairlead/fairlead/StatusCode"), accessFlags := 16409, slot := 12, constantValue := 0 }, { name := "INTERNAL", type := (.object "com/example/fairlead/fairlead/StatusCode"), accessFlags := 16409, slot := 13, constantValue := 0 }, { name := "UNAVAILABLE", type := (.object "com/example/fairlead/fairlead/StatusCode"), accessFlags := 16409, slot := 14, constantValue := 0 }, { name := "DATA_LOSS", type := (.object "com/example/fairlead/fairlead/StatusCode"), accessFlags := 16409, slot := 15, constantValue := 0 }, { name := "UNAUTHENTICATED", type := (.object "com/example/fairlead/fairlead/StatusCode"), accessFlags := 16409, slot := 16, constantValue := 0 }, { name := "BY_VALUE", type := (.array (.object "com/example/fairlead/fairlead/StatusCode")), accessFlags := 26, slot := 17, constantValue := 0 }, { name := "value", type := .int, accessFlags := 18, slot := 3, constantValue := 0 }, { name := "$VALUES", type := (.array (.object "com/example/fairlead/fairlead/StatusCode")), accessFlags := 4122, slot := 18, constantValue := 0 }]
  methods := #[k6m0]
  instanceTypes := #[(.object "java/lang/String"), .int, .int, .int]
  staticTypes := #[(.object "com/example/fairlead/fairlead/StatusCode"), (.object "com/example/fairlead/fairlead/StatusCode"), (.object "com/example/fairlead/fairlead/StatusCode"), (.object "com/example/fairlead/fairlead/StatusCode"), (.object "com/example/fairlead/fairlead/StatusCode"), (.object "com/example/fairlead/fairlead/StatusCode"), (.object "com/example/fairlead/fairlead/StatusCode"), (.object "com/example/fairlead/fairlead/StatusCode"), (.object "com/example/fairlead/fairlead/StatusCode"), (.object "com/example/fairlead/fairlead/StatusCode"), (.object "com/example/fairlead/fairlead/StatusCode"), (.object "com/example/fairlead/fairlead/StatusCode"), (.object "com/example/fairlead/fairlead/StatusCode"), (.object "com/example/fairlead/fairlead/StatusCode"), (.object "com/example/fairlead/fairlead/StatusCode"), (.object "com/example/fairlead/fairlead/StatusCode"), (.object "com/example/fairlead/fairlead/StatusCode"), (.array (.object "com/example/fairlead/fairlead/StatusCode")), (.array (.object "com/example/fairlead/fairlead/StatusCode"))]
  resolved := Array.replicate 123 none
  statics := some 0 }

def pool7 : Array CpInfo := pool [(1, u "java/lang/Cloneable"), (0, .class_ 1), (0, u "java/lang/Object"), (0, .class_ 3)] 3

/-- java/lang/Cloneable -/
def k7 : Class := { plain "java/lang/Cloneable" (some 0) with
  accessFlags := 1537
  interfaces := #[]
  cf := some (fileOf pool7 2 #[] #[] 1537 4 #[] #[])
  fields := #[]
  methods := #[]
  instanceTypes := #[]
  staticTypes := #[]
  resolved := Array.replicate 8 none
  statics := none }

/-- the primitive byte -/
def k8 : Class := { plain "byte" none with kind := .primitive 'B', accessFlags := 0x411 }
/-- [B -/
def k9 : Class := { plain "[B" (some 0) with kind := .array 8 .byte, interfaces := #[7, 4], accessFlags := 1041 }

/-- the primitive int -/
def k10 : Class := { plain "int" none with kind := .primitive 'I', accessFlags := 0x411 }
/-- [I -/
def k11 : Class := { plain "[I" (some 0) with kind := .array 10 .int, interfaces := #[7, 4], accessFlags := 1041 }

/-- [Lcom/example/fairlead/fairlead/StatusCode; -/
def k12 : Class := { plain "[Lcom/example/fairlead/fairlead/StatusCode;" (some 0) with kind := .array 6 (.object "com/example/fairlead/fairlead/StatusCode"), interfaces := #[7, 4], accessFlags := 1041 }

def heap : Heap := #[{ cls := 6, slots := #[.ref 2, .ref 11, .ref 3, .ref 9, .ref 15, .ref 6, .ref 7, .ref 14, .ref 8, .ref 17, .ref 12, .ref 13, .ref 5, .ref 18, .ref 4, .ref 10, .ref 16, .ref 1, .null], vm := .statics 6 },
  { cls := 12, slots := #[.ref 2, .ref 11, .ref 3, .ref 9, .ref 15, .ref 6, .ref 7, .ref 14, .ref 8, .ref 17, .ref 12, .ref 13, .ref 5, .ref 18, .ref 4, .ref 10, .ref 16], vm := .none },
  { cls := 6, slots := #[.null, .int 0, .int 0, .int 0], vm := .none },
  { cls := 6, slots := #[.null, .int 0, .int 0, .int 0], vm := .none },
  { cls := 6, slots := #[.null, .int 0, .int 0, .int 0], vm := .none },
  { cls := 6, slots := #[.null, .int 0, .int 0, .int 0], vm := .none },
  { cls := 6, slots := #[.null, .int 0, .int 0, .int 0], vm := .none },
  { cls := 6, slots := #[.null, .int 0, .int 0, .int 0], vm := .none },
  { cls := 6, slots := #[.null, .int 0, .int 0, .int 0], vm := .none },
  { cls := 6, slots := #[.null, .int 0, .int 0, .int 0], vm := .none },
  { cls := 6, slots := #[.null, .int 0, .int 0, .int 0], vm := .none },
  { cls := 6, slots := #[.null, .int 0, .int 0, .int 0], vm := .none },
  { cls := 6, slots := #[.null, .int 0, .int 0, .int 0], vm := .none },
  { cls := 6, slots := #[.null, .int 0, .int 0, .int 0], vm := .none },
  { cls := 6, slots := #[.null, .int 0, .int 0, .int 0], vm := .none },
  { cls := 6, slots := #[.null, .int 0, .int 0, .int 0], vm := .none },
  { cls := 6, slots := #[.null, .int 0, .int 0, .int 0], vm := .none },
  { cls := 6, slots := #[.null, .int 0, .int 0, .int 0], vm := .none },
  { cls := 6, slots := #[.null, .int 0, .int 0, .int 0], vm := .none }]
def classes : Array Class := #[k0, k1, k2, k3, k4, k5, k6, k7, k8, k9, k10, k11, k12]
def interned : List (Array UInt16 × Addr) := []
def slotsUsed : Nat := 104
def theMethod : MethodId := ⟨1, 2⟩
def args0 : Array Value := #[.int 5, .int 5]
def aboutOver (below : List Frame) : State where
  vm := { classes := classes, interned := interned.toArray }
  heap := heap
  slotsUsed := slotsUsed
  threads := #[{ frames := .invoking theMethod args0 :: below }]
def below0 : List Frame := [.native { method := ⟨0, 0⟩, args := #[] }]
def about1 : State := aboutOver below0
def p0 : Program := .bare "" "" ""
def e0 : Env := launch0.env 0 0 0
theorem w_frames : about1.frames = Frame.invoking theMethod args0 :: below0 := rfl
set_option maxRecDepth 65536 in
theorem w_args : argsFit about1.vm theMethod args0 = true := by decide +kernel
set_option maxRecDepth 65536 in
theorem w_heap : heapFits about1 = true := by decide +kernel
set_option maxRecDepth 65536 in
theorem w_runnable : about1.curStatus? = some .runnable := by decide +kernel
set_option maxRecDepth 65536 in
theorem w_alone : about1.alone = true := by decide +kernel
set_option maxRecDepth 65536 in
theorem w_named : about1.methodNamed? x = some theMethod := by decide +kernel
set_option maxRecDepth 65536 in
theorem w_hears : about1.hears theMethod below0 = true := by decide +kernel
set_option maxRecDepth 65536 in
theorem w_ripe : about1.ripe theMethod args0 below0 = true := by decide +kernel
theorem w_running : about1.status = .running := rfl
set_option maxRecDepth 65536 in
theorem w_room : about1.hasRoom e0.platform room_1 = true :=
  launch0.hasRoom_least _ room_1 (by decide +kernel) (by decide +kernel) (by decide +kernel) (by decide +kernel) (by decide +kernel) (by decide +kernel)
theorem allAtoms_all (ts : List Jvm.Cond) (a : Array Jvm.Value) (st : Jvm.State) : (allAtoms ts).before a st = ts.all (fun c => c.before a st) := by
  induction ts with
  | nil => rfl
  | cons c t ih =>
    show (Jvm.Cond.and c (allAtoms t)).before a st = _
    rw [Jvm.Cond.before_and, ih, List.all_cons]
def words1 : List Jvm.Cond := Jvm.Cond.code x code maxLocals ret :: tables_1
/-- a 'code' word, met by the world's own term for the bytes: nothing is compared byte by byte -/
theorem code_word {y : MethodName} {bytes : ByteArray} {mx : Nat} {rt : Option FieldType} {a : Array Value} {s : State} {m : MethodId} {meth : Method} {c : Code} (h1 : s.methodNamed? y = some m) (h2 : s.vm.method? m = some meth) (h3 : meth.code = some c) (h4 : c.code = bytes)
    (h5 : (c.maxLocals == mx && c.exceptionTable.isEmpty && decide (c.maxStack ≤ mostOperands) && decide (meth.sig.returnType = rt) && !meth.locks && decide (parseMethodDescriptor y.desc = some meth.sig)) = true) : (Jvm.Cond.code y bytes mx rt).before a s = true := by
  simp only [Bool.and_eq_true, beq_iff_eq, Bool.not_eq_true', decide_eq_true_eq] at h5
  obtain ⟨⟨⟨⟨⟨g1, g2⟩, g3⟩, g4⟩, g5⟩, g6⟩ := h5
  simp [Cond.before, Cond.holds, Cond.value, h1, h2, h3, h4, g1, g2, g3, g4, g5, g6]
def isCode : Jvm.Cond → Bool
  | .code _ _ _ _ => true
  | _ => false
theorem all_split {L : List Jvm.Cond} {P : Jvm.Cond → Bool} (h1 : L.all (fun c => isCode c || P c) = true) (h2 : ∀ c ∈ L.filter isCode, P c = true) : L.all P = true := by
  refine List.all_eq_true.mpr fun c hc => ?_
  have h := List.all_eq_true.mp h1 c hc
  rcases Bool.eq_false_or_eq_true (isCode c) with hi | hi
  · exact h2 c (List.mem_filter.mpr ⟨hc, hi⟩)
  · simpa [hi] using h
set_option maxRecDepth 65536 in
theorem w_c0 : (Jvm.Cond.code x code maxLocals ret).before args0 about1 = true := code_word (m := ⟨1, 2⟩) (meth := k1m2) (c := k1c2) (by decide +kernel) rfl rfl rfl (by decide +kernel)
set_option maxRecDepth 65536 in
theorem w_c1 : (Jvm.Cond.code ({ cls := "com/example/fairlead/fairlead/StatusCode", name := "fromValue", desc := "(I)Lcom/example/fairlead/fairlead/StatusCode;" } : Jvm.MethodName) prog_13_method_5_code (1 : Nat) (Option.some (Jvm.ClassFile.FieldType.object "com/example/fairlead/fairlead/StatusCode"))).before args0 about1 = true := code_word (m := ⟨6, 0⟩) (meth := k6m0) (c := k6c0) (by decide +kernel) rfl rfl rfl (by decide +kernel)
set_option maxRecDepth 65536 in
theorem w_c2 : (Jvm.Cond.code ({ cls := "com/example/fairlead/fairlead/StatusCodeFromValuePinLaw", name := "ref", desc := "(I)Lcom/example/fairlead/fairlead/StatusCode;" } : Jvm.MethodName) method_2_code (1 : Nat) (Option.some (Jvm.ClassFile.FieldType.object "com/example/fairlead/fairlead/StatusCode"))).before args0 about1 = true := code_word (m := ⟨1, 1⟩) (meth := k1m1) (c := k1c1) (by decide +kernel) rfl rfl rfl (by decide +kernel)
def codes1 : List Jvm.Cond := [Jvm.Cond.code x code maxLocals ret, Jvm.Cond.code ({ cls := "com/example/fairlead/fairlead/StatusCode", name := "fromValue", desc := "(I)Lcom/example/fairlead/fairlead/StatusCode;" } : Jvm.MethodName) prog_13_method_5_code (1 : Nat) (Option.some (Jvm.ClassFile.FieldType.object "com/example/fairlead/fairlead/StatusCode")), Jvm.Cond.code ({ cls := "com/example/fairlead/fairlead/StatusCodeFromValuePinLaw", name := "ref", desc := "(I)Lcom/example/fairlead/fairlead/StatusCode;" } : Jvm.MethodName) method_2_code (1 : Nat) (Option.some (Jvm.ClassFile.FieldType.object "com/example/fairlead/fairlead/StatusCode"))]
set_option maxRecDepth 65536 in
theorem codes_eq : words1.filter isCode = codes1 := rfl
theorem w_codes : ∀ c ∈ words1.filter isCode, c.before args0 about1 = true := by
  rw [codes_eq]
  intro c hc
  simp only [codes1, List.mem_cons, List.not_mem_nil, or_false] at hc
  rcases hc with rfl | rfl | rfl
  · exact w_c0
  · exact w_c1
  · exact w_c2
set_option maxRecDepth 65536 in
theorem w_t1 : (words1.take 24).all (fun c => isCode c || c.before args0 about1) = true := by decide +kernel
set_option maxRecDepth 65536 in
theorem w_t2 : (words1.drop 24).all (fun c => isCode c || c.before args0 about1) = true := by decide +kernel
theorem w_tables : (allAtoms (Jvm.Cond.code x code maxLocals ret :: tables_1)).before args0 about1 = true := by
  rw [allAtoms_all]
  show words1.all (fun c => c.before args0 about1) = true
  refine all_split ?_ w_codes
  rw [← List.take_append_drop 24 words1, List.all_append, w_t1, w_t2]
  rfl
set_option maxRecDepth 65536 in
theorem w_case : (Jvm.Cond.and given_1 narrow_1).before args0 about1 = true := by decide +kernel
theorem w_applies : (headSpec (Jvm.Cond.code x code maxLocals ret :: tables_1) room_1).applies x e0.platform about1 = true :=
  (Spec.applies_iff w_frames).mpr ⟨w_running, w_runnable, w_alone, w_named, w_hears, w_ripe, w_room, w_tables⟩
theorem atStart : AtStart classFile x code maxLocals ret World_1 tables_1 room_1 Calls_1 rest_1 Pre_1 launch0 p0 e0 about1 theMethod args0 below0 :=
  ⟨lists_1, trivial, launch0.admits_env _ _ _, launch0.least_env, fairChoices_fair.cas, fairChoices_fair.clock, w_frames, w_args, w_heap, w_applies, trivial, trivial, w_case⟩
end start1
theorem witness_1 : WitnessClaimed_1 := ⟨start1.p0, start1.e0, start1.about1, start1.theMethod, start1.args0, start1.below0, start1.atStart⟩
end Jvm.Pilot.@@N@@
