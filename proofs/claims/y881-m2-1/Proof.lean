import JvmDerived
import JvmDerived.Pilot.@@N@@Statement
import JvmDerived.Pilot.@@N@@Code
set_option linter.unusedVariables false
set_option linter.unusedSimpArgs false
namespace Jvm.GoKit
open Sem ClassFile Op Lib Jvm.Stand Jvm.Free Jvm.LawKit Jvm.RoadKit
/-! A small logic of walks: 'Go .. h kc ks SL pc L S': from pc, with locals L, stack S, heap h, the body comes to its end and Q holds. -/
def Sfs (Z : State) (EL : List (String × Nat)) (vm : Vm) (h : Heap) (SL : List Addr) : Prop := ∀ x ∈ SL, x < h.size ∧ Safe Z EL vm h x
def En (w : Bool) (s : State) (o : Outcome) (t : State) (L : List Loc) (k n : Nat) : Prop := ReturnedEndW s o t L k n ∧ (w = false → s.WarmedH t.vm)
def Wk (l : Launch) (Z : State) (y : MethodName) (bytes : ByteArray) (mx : Nat) (rt : Option FieldType) (R : Room) (EL : List (String × Nat)) (n0 : Nat) (w : Bool) (p : Program) (e : Env) (s : State) (m : MethodId) (args : Array Value) (below : List Frame) (meth : Method) (c : Code) (T : State) (h : Heap) (kc ks : Nat) (SL : List Addr) : Prop :=
  (p.tables.exec = Jvm.exec ∧ c.code = bytes ∧ c.maxLocals = mx ∧ meth.sig.returnType = rt ∧ meth.locks = false ∧ meth.name = y.name ∧ ∃ a0, EW Z a0 EL) ∧
  ∃ k0 locs, Stand p l e R (s.setVm T.vm) m args below meth c T locs kc ks ∧ T.heap = h ∧ s.Since T.vm k0 ∧ k0 ≤ h.size ∧ Z.Warmed39 T.vm ∧ T.vm.findClass y.cls = some m.cls ∧ CHr Z EL s.vm s.heap T.vm h ∧ Fr n0 locs ∧ (w = false → s.WarmedH T.vm) ∧ Sfs Z EL T.vm h SL
def Go (l : Launch) (Z : State) (y : MethodName) (bytes : ByteArray) (mx : Nat) (rt : Option FieldType) (R : Room) (EL : List (String × Nat)) (n0 : Nat) (w : Bool) (Q : Option Value → Heap → List Addr → Prop) (h : Heap) (kc ks : Nat) (SL : List Addr) (pc : Nat) (L : Array Slot) (S : List Value) : Prop :=
  ∀ p e s m args below meth c T, Wk l Z y bytes mx rt R EL n0 w p e s m args below meth c T h kc ks SL →
    ∃ s₂ o, Steps p.tables e below (T.setTop (mkF m pc L S)) s₂ ∧ s₂.status = .running ∧ Ended s₂ below o ∧
      ∃ v Ls N, o = .returned v ∧ Q v s₂.heap N ∧ Fr n0 Ls ∧ CHr Z EL s.vm s.heap s₂.vm s₂.heap ∧ Sfs Z EL s₂.vm s₂.heap N ∧ En w s o s₂ Ls R.cells R.slots
/-- a method's contract, for one array of arguments and one heap -/
def Ct (l : Launch) (Z : State) (y : MethodName) (bytes : ByteArray) (mx : Nat) (rt : Option FieldType) (R : Room) (EL : List (String × Nat)) (n0 : Nat) (w : Bool) (ws : List Jvm.Cond) (as' : Array Value) (h0 : Heap) (SL : List Addr) (Q : Option Value → Heap → List Addr → Prop) : Prop :=
  MetFree l y (head1 (Jvm.Cond.code y bytes mx rt :: ws) R) (fun a U => a = as' ∧ Z.Warmed39 U.vm ∧ U.heap = h0 ∧ CHv Z EL U.vm h0 ∧ Sfs Z EL U.vm h0 SL) (fun _ _ _ _ _ => True)
    (fun _ U o U' => ∃ v Ls N, o = .returned v ∧ Q v U'.heap N ∧ Fr n0 Ls ∧ CHr Z EL U.vm U.heap U'.vm U'.heap ∧ Sfs Z EL U'.vm U'.heap N ∧ En w U o U' Ls R.cells R.slots)
theorem nlt {a b : Nat} (h : a < b) : a < b := h
theorem nle {a b : Nat} (h : a ≤ b) : a ≤ b := h
theorem neq {a b : Nat} (h : a = b) : a = b := h
theorem nne {a b : Nat} (h : a ≠ b) : a ≠ b := h
theorem nne2 {x a b : Nat} (h : x ≠ a ∧ x ≠ b) : x ≠ a ∧ x ≠ b := h
theorem sta_keep {Z : State} {h h' : Heap} {C n d : String} {v : Value} {ws : List Addr} (F : Sta Z h C n d v) (K : Keep h h' ws) (q : ∀ x ∈ ws, ∀ cell : Cell, h[x]? = some cell → cell.vm.isStatics = false) : Sta Z h' C n d v := by
  obtain ⟨cf, i, k, f, st, cell, h1, h2, h3, h4, h5, h6, h7⟩ := F
  exact ⟨cf, i, k, f, st, cell, h1, h2, h3, h4, K.2.1 st cell h5 (fun m => by rw [q st m cell h5] at h6; cases h6), h6, h7⟩
theorem arr_keep {Z : State} {h h' : Heap} {a : Addr} {c : Cell} {ty : FieldType} {ws : List Addr} (F : RoadKit.Arr Z h a c ty) (K : Keep h h' ws) (q : a ∉ ws) : RoadKit.Arr Z h' a c ty := ⟨K.2.1 a c F.1 q, F.2⟩
section Closure
variable {l : Launch} {Z : State} {y : MethodName} {bytes : ByteArray} {mx : Nat} {rt : Option FieldType} {R : Room} {EL : List (String × Nat)} {n0 : Nat} {w : Bool} {Q : Option Value → Heap → List Addr → Prop} {h h' : Heap} {kc ks kc' ks' : Nat} {SL SL' : List Addr} {pc pc' : Nat} {L L' : Array Slot} {S S' : List Value} {a0 : Array Value}
variable {p : Program} {e : Env} {s : State} {m : MethodId} {args : Array Value} {below : List Frame} {meth : Method} {c : Code} {T T' : State} {locs' : List Loc}
theorem Sfs.mono (F : Sfs Z EL T.vm h SL) (q : ∀ x ∈ SL', x ∈ SL) : Sfs Z EL T.vm h SL' := fun x hx => F x (q x hx)
theorem Sfs.chr {vm vm1 : Vm} (F : Sfs Z EL vm h SL) (A : CHr Z EL vm h vm1 h') : Sfs Z EL vm1 h' SL := fun x hx => ⟨Nat.lt_of_lt_of_le (F x hx).1 A.2.1, A.safe (F x hx).1 (F x hx).2⟩
theorem Wk.mono (W : Wk l Z y bytes mx rt R EL n0 w p e s m args below meth c T h kc ks SL) (q : ∀ x ∈ SL', x ∈ SL) : Wk l Z y bytes mx rt R EL n0 w p e s m args below meth c T h kc ks SL' := by
  obtain ⟨A, k0, locs, X, e1, h1, h2, h3, h4, h5, h6, h7, h8⟩ := W
  exact ⟨A, k0, locs, X, e1, h1, h2, h3, h4, h5, h6, h7, h8.mono q⟩
/-- a step that interns nothing -/
theorem Wk.next (W : Wk l Z y bytes mx rt R EL n0 w p e s m args below meth c T h kc ks SL) (X' : Stand p l e R (s.setVm T.vm) m args below meth c T' locs' kc' ks') (e' : T'.heap = h') (hC : CHr Z EL T.vm h T.vm h') (N : Fr n0 locs') (hSf : Sfs Z EL T.vm h' SL') :
    Wk l Z y bytes mx rt R EL n0 w p e s m args below meth c T' h' kc' ks' SL' := by
  obtain ⟨⟨b1, b2, b3, b4, b5, b6, a0, b7⟩, k0, locs, X, e1, h1, h2, h3, h4, h5, h6, h7, h8⟩ := W
  have hW : (s.setVm T.vm).WarmedH T'.vm := X'.warmed
  have A := CHv.at X' h3 b7 hC.1
  have Xr : Stand p l e R (s.setVm T'.vm) m args below meth c T' locs' kc' ks' := X'.retabled hW.wide
  refine ⟨⟨b1, b2, b3, b4, b5, b6, a0, b7⟩, k0, locs', Xr, e', h1.trans (hW.since _) (Nat.le_refl _), Nat.le_trans h2 hC.2.1, State.Warmed39.trans (t := s.setVm T.vm) h3 hW.wide, ?_, (h5.trans hC).trans A, N, fun q => State.WarmedH.trans (t := s.setVm T.vm) (h7 q) hW, hSf.chr A⟩
  rw [hW.alike.findClass]; exact h4
/-- a step that may intern -/
theorem Wk.nextS (W : Wk l Z y bytes mx rt R EL n0 w p e s m args below meth c T h kc ks SL) (X' : Stand p l e R (s.setVm T'.vm) m args below meth c T' locs' kc' ks') (e' : T'.heap = h') {n1 : Nat} (hS : (s.setVm T.vm).Since T'.vm n1) (hn1 : h.size ≤ n1) (hn : n1 ≤ h'.size) (hC : CHr Z EL T.vm h T'.vm h') (N : Fr n0 locs') (hw : w = false → (s.setVm T.vm).WarmedH T'.vm) (hSf : Sfs Z EL T'.vm h' SL') :
    Wk l Z y bytes mx rt R EL n0 w p e s m args below meth c T' h' kc' ks' SL' := by
  obtain ⟨⟨b1, b2, b3, b4, b5, b6, a0, b7⟩, k0, locs, X, e1, h1, h2, h3, h4, h5, h6, h7, h8⟩ := W
  refine ⟨⟨b1, b2, b3, b4, b5, b6, a0, b7⟩, n1, locs', X', e', h1.trans hS (Nat.le_trans h2 hn1), hn, State.Warmed39.trans (t := s.setVm T.vm) h3 hS.1, ?_, h5.trans hC, N, fun q => State.WarmedH.trans (t := s.setVm T.vm) (h7 q) (hw q), hSf⟩
  rw [hS.1.alike.findClass]; exact h4
theorem Go.st (hst : ∀ {p : Program} {e : Env} {s : State} {m : MethodId} {args : Array Value} {below : List Frame} {meth : Method} {c : Code} {T : State}, Wk l Z y bytes mx rt R EL n0 w p e s m args below meth c T h kc ks SL → ∀ t, Steps p.tables e below (T.setTop (mkF m pc' L' S')) t → Steps p.tables e below (T.setTop (mkF m pc L S)) t)
    (k : Go l Z y bytes mx rt R EL n0 w Q h kc ks SL pc' L' S') : Go l Z y bytes mx rt R EL n0 w Q h kc ks SL pc L S := by
  intro p e s m args below meth c T W
  obtain ⟨s₂, o, st, r⟩ := k p e s m args below meth c T W
  exact ⟨s₂, o, hst W _ st, r⟩
theorem Go.mono (q : ∀ x ∈ SL', x ∈ SL) (k : Go l Z y bytes mx rt R EL n0 w Q h kc ks SL' pc L S) : Go l Z y bytes mx rt R EL n0 w Q h kc ks SL pc L S := fun p e s m args below meth c T W => k p e s m args below meth c T (W.mono q)
theorem Go.post {Q' : Option Value → Heap → List Addr → Prop} (q : ∀ v h N, Q' v h N → Q v h N) (k : Go l Z y bytes mx rt R EL n0 w Q' h kc ks SL pc L S) : Go l Z y bytes mx rt R EL n0 w Q h kc ks SL pc L S := fun p e s m args below meth c T W => by
  obtain ⟨s₂, o, st, r1, r2, v, Ls, N, r3, r4, r5⟩ := k p e s m args below meth c T W
  exact ⟨s₂, o, st, r1, r2, v, Ls, N, r3, q _ _ _ r4, r5⟩
theorem Ct.of {ws : List Jvm.Cond} {as' : Array Value} {h0 : Heap} (hp : plainFor y = true) (hEL : EW Z a0 EL) {L0 : Array Slot} (hE : ∀ m, entryFrame m as' mx = mkF m 0 L0 []) (G : Go l Z y bytes mx rt R EL n0 w Q h0 0 0 SL 0 L0 []) :
    Ct l Z y bytes mx rt R EL n0 w ws as' h0 SL Q := by
  refine MetFree.of_bodySF hp hisR ?_
  intro p e s m args below meth c s₁ Bd hml0 hP hK
  obtain ⟨rfl, hZ, hh, hC, hSf⟩ := hP
  have X0 : Stand p l e R (s.setVm s.vm) m args below meth c s₁ [] 0 0 := Stand.of_body Bd
  have e0 : s₁.heap = h0 := by rw [← hh, Bd.state]; rfl
  have hW : s.WarmedH s₁.vm := X0.warmed
  have A := CHv.at X0 hZ hEL hC
  have hl : meth.locks = false := BodyLoose.notSynchronized Bd
  rw [hE]
  refine G p e s m args below meth c s₁ ⟨⟨Bd.exec, Bd.bytes, hml0, Bd.returns, hl, (name_of_methodNamed Bd.named Bd.method).1, a0, hEL⟩, h0.size, [], X0.retabled hW.wide, e0, hW.since _, Nat.le_refl _, State.Warmed39.trans (t := s) hZ hW.wide, ?_, ?_, Fr.nil n0, fun _ => hW, hSf.chr A⟩
  · rw [hW.alike.findClass]; exact findClass_of_methodNamed Bd.named
  · rw [hh]; exact A
/-- a callee's contract pays the call -/
theorem Ct.pay {z : MethodName} {bytesZ : ByteArray} {mxZ : Nat} {rtZ : Option FieldType} {rm : Room} {as' : Array Value} {QZ : Option Value → Heap → List Addr → Prop} {len W : Nat} {vm0 : Vm} (hM : Ct l Z z bytesZ mxZ rtZ rm EL n0 w [] as' h SL' QZ)
    (hZ : Z.Warmed39 vm0) (hEL : EW Z a0 EL) (H : CHv Z EL vm0 h) (hSf : Sfs Z EL vm0 h SL') {a1 : Array Value} (wc : (Jvm.Cond.code z bytesZ mxZ rtZ).before a1 Z = true) (wz : (Jvm.Cond.initialized z.cls).before a1 Z = true) (hf : rm.frames + 1 ≤ R.frames) (hl : W + (mxZ + 11) + rm.locals ≤ R.locals) :
    BackS l R p e below (s.setVm vm0) args z len W (fun A a => a = as' ∧ A.U.heap = h ∧ A.cells + rm.cells ≤ R.cells ∧ A.slots + rm.slots ≤ R.slots)
      (fun A _ v B => ∃ Ls N, QZ v B.U.heap N ∧ Fr n0 Ls ∧ B.locs = A.locs ++ Ls ∧ B.cells = A.cells + rm.cells ∧ B.slots = A.slots + rm.slots ∧ CHr Z EL vm0 h B.U.vm B.U.heap ∧ Sfs Z EL B.U.vm B.U.heap N ∧ (w = false → (s.setVm vm0).WarmedH B.U.vm)) :=
  BackS.of_freeW (bytes := bytesZ) (maxL := mxZ) (ret := rtZ) (E := fun _ first o t L k n => k = rm.cells ∧ n = rm.slots ∧ (∃ v N, o = .returned v ∧ QZ v t.heap N ∧ Fr n0 L ∧ Sfs Z EL t.vm t.heap N) ∧ CHr Z EL first.vm first.heap t.vm t.heap ∧ (w = false → first.WarmedH t.vm)) hM hf hl
    (fun m meth c A a Y hp => have hU : Z.Warmed39 A.U.vm := wtrans (s := s.setVm vm0) hZ Y.warmed
      ⟨by show (Jvm.Cond.and _ .tt).before a A.U = true; rw [Cond.before_and, mv hU wc]; rfl, mv hU wc, mv hU wz, hp.2.2.1, hp.2.2.2⟩)
    (fun m meth c A a g mk Y hp => have A9 : CHr Z EL vm0 h A.U.vm h := CHv.at (T := A.U) Y hZ hEL H
      ⟨hp.1, wtrans (s := s.setVm vm0) hZ Y.warmed, hp.2.1, A9.1, hSf.chr A9⟩) (fun _ _ _ _ _ _ _ _ _ => trivial)
    (fun _ _ _ _ ⟨v, L, N, h1, h2, h3, h4, h5, h6⟩ => ⟨L, _, _, h6.1, rfl, rfl, ⟨v, N, h1, h2, h3, h5⟩, h4, h6.2⟩)
    (fun m meth c A a g mk v t L k n Y hp _ _ ⟨e1, e2, ⟨v', N, e3, e4, e5, e6⟩, e7, e8⟩ => by
      cases e3; subst e1 e2
      refine ⟨L, N, e4, e5, rfl, rfl, rfl, (CHv.at Y hZ hEL H).trans ?_, e6, fun q => State.WarmedH.trans (s := s.setVm vm0) (t := A.U) Y.warmed (e8 q)⟩
      rw [← hp.2.1]; exact e7)
end Closure
section Rules
abbrev usr (x y : Int32) : Int32 := (x.toUInt32 >>> (y &&& 31).toUInt32).toInt32
def cP : ClassFile.Cond → Int32 → Int32 → Prop
  | .eq, x, y => x = y
  | .ne, x, y => ¬ x = y
  | .lt, x, y => x < y
  | .ge, x, y => ¬ x < y
  | .gt, x, y => y < x
  | .le, x, y => ¬ y < x
def cneg : ClassFile.Cond → ClassFile.Cond
  | .eq => .ne
  | .ne => .eq
  | .lt => .ge
  | .ge => .lt
  | .gt => .le
  | .le => .gt
theorem ic_t {cd : ClassFile.Cond} {x y : Int32} (h : cP cd x y) : if_icmp.holds cd x y = true := by
  cases cd
  · exact (teq h).1
  · exact (feq h).2
  · exact (tlt h).1
  · exact (flt h).2.1
  · exact (tlt h).2.2.1
  · exact (flt h).2.2.2
theorem ic_f {cd : ClassFile.Cond} {x y : Int32} (h : cP (cneg cd) x y) : if_icmp.holds cd x y = false := by
  cases cd
  · exact (feq h).1
  · exact (teq h).2
  · exact (flt h).1
  · exact (tlt h).2.1
  · exact (flt h).2.2.1
  · exact (tlt h).2.2.2
theorem if_ic (cd : ClassFile.Cond) (x : Int32) : ifCond.holds cd x = if_icmp.holds cd x 0 := by cases cd <;> rfl
theorem if_t {cd : ClassFile.Cond} {x : Int32} (h : cP cd x 0) : ifCond.holds cd x = true := (if_ic cd x).trans (ic_t h)
theorem if_f {cd : ClassFile.Cond} {x : Int32} (h : cP (cneg cd) x 0) : ifCond.holds cd x = false := (if_ic cd x).trans (ic_f h)
theorem cP_em (cd : ClassFile.Cond) (x y : Int32) : cP cd x y ∨ cP (cneg cd) x y := by
  cases cd <;> simp only [cP, cneg] <;> first | exact Decidable.em _ | exact (Decidable.em _).symm
variable {l : Launch} {Z : State} {y : MethodName} {bytes : ByteArray} {mx : Nat} {rt : Option FieldType} {R : Room} {EL : List (String × Nat)} {n0 : Nat} {w : Bool} {Q : Option Value → Heap → List Addr → Prop} {h h' : Heap} {kc ks kc' ks' : Nat} {SL SL' : List Addr} {pc pc' pc'' : Nat} {L L' : Array Slot} {S S' : List Value} {a0 a1 : Array Value}
theorem Go.re (q1 : pc = pc') (q2 : L = L') (q3 : S = S') (K : Go l Z y bytes mx rt R EL n0 w Q h kc ks SL pc' L' S') : Go l Z y bytes mx rt R EL n0 w Q h kc ks SL pc L S := by subst q1 q2 q3; exact K
theorem Go.aloadN {k : Fin 4} {v : Value} (hd : decode bytes pc = .ok (.aload_n k, 1)) (hl : L[k.val]? = some (.val v)) (hv : v.isRef = true) (q : pc + 1 = pc') (K : Go l Z y bytes mx rt R EL n0 w Q h kc ks SL pc' L (v :: S)) : Go l Z y bytes mx rt R EL n0 w Q h kc ks SL pc L S := Go.st (fun W t kk => by obtain ⟨⟨hx, hby, -⟩, _, _, X, -⟩ := W; subst q; exact XS.aloadN X.here hx rfl (hb hby hd) hl hv kk) K
theorem Go.aload {k : Nat} {v : Value} (hd : decode bytes pc = .ok (.aload k, 2)) (hl : L[k]? = some (.val v)) (hv : v.isRef = true) (q : pc + 2 = pc') (K : Go l Z y bytes mx rt R EL n0 w Q h kc ks SL pc' L (v :: S)) : Go l Z y bytes mx rt R EL n0 w Q h kc ks SL pc L S := Go.st (fun W t kk => by obtain ⟨⟨hx, hby, -⟩, _, _, X, -⟩ := W; subst q; exact XS.aload X.here hx rfl (hb hby hd) hl hv kk) K
theorem Go.iloadN {k : Fin 4} {v : Int32} (hd : decode bytes pc = .ok (.iload_n k, 1)) (hl : L[k.val]? = some (.val (.int v))) (q : pc + 1 = pc') (K : Go l Z y bytes mx rt R EL n0 w Q h kc ks SL pc' L (.int v :: S)) : Go l Z y bytes mx rt R EL n0 w Q h kc ks SL pc L S := Go.st (fun W t kk => by obtain ⟨⟨hx, hby, -⟩, _, _, X, -⟩ := W; subst q; exact XS.iloadN X.here hx rfl (hb hby hd) hl kk) K
theorem Go.iload {k : Nat} {v : Int32} (hd : decode bytes pc = .ok (.iload k, 2)) (hl : L[k]? = some (.val (.int v))) (q : pc + 2 = pc') (K : Go l Z y bytes mx rt R EL n0 w Q h kc ks SL pc' L (.int v :: S)) : Go l Z y bytes mx rt R EL n0 w Q h kc ks SL pc L S := Go.st (fun W t kk => by obtain ⟨⟨hx, hby, -⟩, _, _, X, -⟩ := W; subst q; exact XS.iload X.here hx rfl (hb hby hd) hl kk) K
theorem Go.lloadN {k : Fin 4} {v : Int64} (hd : decode bytes pc = .ok (.lload_n k, 1)) (hl : L[k.val]? = some (.val (.long v))) (q : pc + 1 = pc') (K : Go l Z y bytes mx rt R EL n0 w Q h kc ks SL pc' L (.long v :: S)) : Go l Z y bytes mx rt R EL n0 w Q h kc ks SL pc L S := Go.st (fun W t kk => by obtain ⟨⟨hx, hby, -⟩, _, _, X, -⟩ := W; subst q; exact XS.lloadN X.here hx rfl (hb hby hd) hl kk) K
theorem Go.lload {k : Nat} {v : Int64} (hd : decode bytes pc = .ok (.lload k, 2)) (hl : L[k]? = some (.val (.long v))) (q : pc + 2 = pc') (K : Go l Z y bytes mx rt R EL n0 w Q h kc ks SL pc' L (.long v :: S)) : Go l Z y bytes mx rt R EL n0 w Q h kc ks SL pc L S := Go.st (fun W t kk => by obtain ⟨⟨hx, hby, -⟩, _, _, X, -⟩ := W; subst q; exact XS.lload X.here hx rfl (hb hby hd) hl kk) K
theorem Go.istoreN {k : Fin 4} {v : Int32} (L' : Array Slot) (hd : decode bytes pc = .ok (.istore_n k, 1)) (hl : storeLocals L k.val (.int v) = some L') (q : pc + 1 = pc') (K : Go l Z y bytes mx rt R EL n0 w Q h kc ks SL pc' L' S) : Go l Z y bytes mx rt R EL n0 w Q h kc ks SL pc L (.int v :: S) := Go.st (fun W t kk => by obtain ⟨⟨hx, hby, -⟩, _, _, X, -⟩ := W; subst q; exact XS.istoreN X.here hx rfl (hb hby hd) rfl hl kk) K
theorem Go.istore {k : Nat} {v : Int32} (L' : Array Slot) (hd : decode bytes pc = .ok (.istore k, 2)) (hl : storeLocals L k (.int v) = some L') (q : pc + 2 = pc') (K : Go l Z y bytes mx rt R EL n0 w Q h kc ks SL pc' L' S) : Go l Z y bytes mx rt R EL n0 w Q h kc ks SL pc L (.int v :: S) := Go.st (fun W t kk => by obtain ⟨⟨hx, hby, -⟩, _, _, X, -⟩ := W; subst q; exact XS.istore X.here hx rfl (hb hby hd) rfl hl kk) K
theorem Go.lstoreN {k : Fin 4} {v : Int64} (L' : Array Slot) (hd : decode bytes pc = .ok (.lstore_n k, 1)) (hl : storeLocals L k.val (.long v) = some L') (q : pc + 1 = pc') (K : Go l Z y bytes mx rt R EL n0 w Q h kc ks SL pc' L' S) : Go l Z y bytes mx rt R EL n0 w Q h kc ks SL pc L (.long v :: S) := Go.st (fun W t kk => by obtain ⟨⟨hx, hby, -⟩, _, _, X, -⟩ := W; subst q; exact XS.lstoreN X.here hx rfl (hb hby hd) rfl hl kk) K
theorem Go.lstore {k : Nat} {v : Int64} (L' : Array Slot) (hd : decode bytes pc = .ok (.lstore k, 2)) (hl : storeLocals L k (.long v) = some L') (q : pc + 2 = pc') (K : Go l Z y bytes mx rt R EL n0 w Q h kc ks SL pc' L' S) : Go l Z y bytes mx rt R EL n0 w Q h kc ks SL pc L (.long v :: S) := Go.st (fun W t kk => by obtain ⟨⟨hx, hby, -⟩, _, _, X, -⟩ := W; subst q; exact XS.lstore X.here hx rfl (hb hby hd) rfl hl kk) K
theorem Go.astoreN {k : Fin 4} {v : Value} (L' : Array Slot) (hd : decode bytes pc = .ok (.astore_n k, 1)) (hv : v.isRef = true) (hl : storeLocals L k.val v = some L') (q : pc + 1 = pc') (K : Go l Z y bytes mx rt R EL n0 w Q h kc ks SL pc' L' S) : Go l Z y bytes mx rt R EL n0 w Q h kc ks SL pc L (v :: S) := Go.st (fun W t kk => by obtain ⟨⟨hx, hby, -⟩, _, _, X, -⟩ := W; subst q; exact XS.astoreN X.here hx rfl (hb hby hd) rfl hv hl kk) K
theorem Go.astore {k : Nat} {v : Value} (L' : Array Slot) (hd : decode bytes pc = .ok (.astore k, 2)) (hv : v.isRef = true) (hl : storeLocals L k v = some L') (q : pc + 2 = pc') (K : Go l Z y bytes mx rt R EL n0 w Q h kc ks SL pc' L' S) : Go l Z y bytes mx rt R EL n0 w Q h kc ks SL pc L (v :: S) := Go.st (fun W t kk => by obtain ⟨⟨hx, hby, -⟩, _, _, X, -⟩ := W; subst q; exact XS.astore X.here hx rfl (hb hby hd) rfl hv hl kk) K
theorem Go.iconst {i : Int} (z : Int32) (hd : decode bytes pc = .ok (.iconst i, 1)) (hz : Int32.ofInt i = z) (q : pc + 1 = pc') (K : Go l Z y bytes mx rt R EL n0 w Q h kc ks SL pc' L (.int z :: S)) : Go l Z y bytes mx rt R EL n0 w Q h kc ks SL pc L S := Go.st (fun W t kk => by obtain ⟨⟨hx, hby, -⟩, _, _, X, -⟩ := W; subst q; subst hz; exact XS.iconst X.here hx rfl (hb hby hd) kk) K
theorem Go.bipush {i : Int} (z : Int32) (hd : decode bytes pc = .ok (.bipush i, 2)) (hz : (Int8.ofInt i).toInt32 = z) (q : pc + 2 = pc') (K : Go l Z y bytes mx rt R EL n0 w Q h kc ks SL pc' L (.int z :: S)) : Go l Z y bytes mx rt R EL n0 w Q h kc ks SL pc L S := Go.st (fun W t kk => by obtain ⟨⟨hx, hby, -⟩, _, _, X, -⟩ := W; subst q; subst hz; exact XS.bipush X.here hx rfl (hb hby hd) kk) K
theorem Go.sipush {i : Int} (z : Int32) (hd : decode bytes pc = .ok (.sipush i, 3)) (hz : (Int16.ofInt i).toInt32 = z) (q : pc + 3 = pc') (K : Go l Z y bytes mx rt R EL n0 w Q h kc ks SL pc' L (.int z :: S)) : Go l Z y bytes mx rt R EL n0 w Q h kc ks SL pc L S := Go.st (fun W t kk => by obtain ⟨⟨hx, hby, -⟩, _, _, X, -⟩ := W; subst q; subst hz; exact XS.sipush X.here hx rfl (hb hby hd) kk) K
theorem Go.lconst {k : Fin 2} (z : Int64) (hd : decode bytes pc = .ok (.lconst k, 1)) (hz : Int64.ofNat k.val = z) (q : pc + 1 = pc') (K : Go l Z y bytes mx rt R EL n0 w Q h kc ks SL pc' L (.long z :: S)) : Go l Z y bytes mx rt R EL n0 w Q h kc ks SL pc L S := Go.st (fun W t kk => by obtain ⟨⟨hx, hby, -⟩, _, _, X, -⟩ := W; subst q; subst hz; exact XS.lconst X.here hx rfl (hb hby hd) kk) K
theorem Go.aconstNull (hd : decode bytes pc = .ok (.aconst_null, 1)) (q : pc + 1 = pc') (K : Go l Z y bytes mx rt R EL n0 w Q h kc ks SL pc' L (.null :: S)) : Go l Z y bytes mx rt R EL n0 w Q h kc ks SL pc L S := Go.st (fun W t kk => by obtain ⟨⟨hx, hby, -⟩, _, _, X, -⟩ := W; subst q; exact XS.aconstNull X.here hx rfl (hb hby hd) kk) K
theorem Go.iadd {x y' : Int32} (hd : decode bytes pc = .ok (.iadd, 1)) (q : pc + 1 = pc') (K : Go l Z y bytes mx rt R EL n0 w Q h kc ks SL pc' L (.int (x + y') :: S)) : Go l Z y bytes mx rt R EL n0 w Q h kc ks SL pc L (.int y' :: .int x :: S) := Go.st (fun W t kk => by obtain ⟨⟨hx, hby, -⟩, _, _, X, -⟩ := W; subst q; exact XS.iadd X.here hx rfl (hb hby hd) rfl kk) K
theorem Go.isub {x y' : Int32} (hd : decode bytes pc = .ok (.isub, 1)) (q : pc + 1 = pc') (K : Go l Z y bytes mx rt R EL n0 w Q h kc ks SL pc' L (.int (x - y') :: S)) : Go l Z y bytes mx rt R EL n0 w Q h kc ks SL pc L (.int y' :: .int x :: S) := Go.st (fun W t kk => by obtain ⟨⟨hx, hby, -⟩, _, _, X, -⟩ := W; subst q; exact XS.isub X.here hx rfl (hb hby hd) rfl kk) K
theorem Go.iand {x y' : Int32} (hd : decode bytes pc = .ok (.iand, 1)) (q : pc + 1 = pc') (K : Go l Z y bytes mx rt R EL n0 w Q h kc ks SL pc' L (.int (x &&& y') :: S)) : Go l Z y bytes mx rt R EL n0 w Q h kc ks SL pc L (.int y' :: .int x :: S) := Go.st (fun W t kk => by obtain ⟨⟨hx, hby, -⟩, _, _, X, -⟩ := W; subst q; exact XS.iand X.here hx rfl (hb hby hd) rfl kk) K
theorem Go.ior {x y' : Int32} (hd : decode bytes pc = .ok (.ior, 1)) (q : pc + 1 = pc') (K : Go l Z y bytes mx rt R EL n0 w Q h kc ks SL pc' L (.int (x ||| y') :: S)) : Go l Z y bytes mx rt R EL n0 w Q h kc ks SL pc L (.int y' :: .int x :: S) := Go.st (fun W t kk => by obtain ⟨⟨hx, hby, -⟩, _, _, X, -⟩ := W; subst q; exact XS.ior X.here hx rfl (hb hby hd) rfl kk) K
theorem Go.ixor {x y' : Int32} (hd : decode bytes pc = .ok (.ixor, 1)) (q : pc + 1 = pc') (K : Go l Z y bytes mx rt R EL n0 w Q h kc ks SL pc' L (.int (x ^^^ y') :: S)) : Go l Z y bytes mx rt R EL n0 w Q h kc ks SL pc L (.int y' :: .int x :: S) := Go.st (fun W t kk => by obtain ⟨⟨hx, hby, -⟩, _, _, X, -⟩ := W; subst q; exact XS.ixor X.here hx rfl (hb hby hd) rfl kk) K
theorem Go.imul {x y' : Int32} (hd : decode bytes pc = .ok (.imul, 1)) (q : pc + 1 = pc') (K : Go l Z y bytes mx rt R EL n0 w Q h kc ks SL pc' L (.int (x * y') :: S)) : Go l Z y bytes mx rt R EL n0 w Q h kc ks SL pc L (.int y' :: .int x :: S) := Go.st (fun W t kk => by obtain ⟨⟨hx, hby, -⟩, _, _, X, -⟩ := W; subst q; exact XS.imul X.here hx rfl (hb hby hd) rfl kk) K
theorem Go.ishl {x y' : Int32} (hd : decode bytes pc = .ok (.ishl, 1)) (q : pc + 1 = pc') (K : Go l Z y bytes mx rt R EL n0 w Q h kc ks SL pc' L (.int (x <<< (y' &&& 31)) :: S)) : Go l Z y bytes mx rt R EL n0 w Q h kc ks SL pc L (.int y' :: .int x :: S) := Go.st (fun W t kk => by obtain ⟨⟨hx, hby, -⟩, _, _, X, -⟩ := W; subst q; exact XS.ishl X.here hx rfl (hb hby hd) rfl kk) K
theorem Go.ishr {x y' : Int32} (hd : decode bytes pc = .ok (.ishr, 1)) (q : pc + 1 = pc') (K : Go l Z y bytes mx rt R EL n0 w Q h kc ks SL pc' L (.int (x >>> (y' &&& 31)) :: S)) : Go l Z y bytes mx rt R EL n0 w Q h kc ks SL pc L (.int y' :: .int x :: S) := Go.st (fun W t kk => by obtain ⟨⟨hx, hby, -⟩, _, _, X, -⟩ := W; subst q; exact XS.ishr X.here hx rfl (hb hby hd) rfl kk) K
theorem Go.iushr {x y' : Int32} (hd : decode bytes pc = .ok (.iushr, 1)) (q : pc + 1 = pc') (K : Go l Z y bytes mx rt R EL n0 w Q h kc ks SL pc' L (.int (usr x y') :: S)) : Go l Z y bytes mx rt R EL n0 w Q h kc ks SL pc L (.int y' :: .int x :: S) := Go.st (fun W t kk => by obtain ⟨⟨hx, hby, -⟩, _, _, X, -⟩ := W; subst q; exact XS.iushr X.here hx rfl (hb hby hd) rfl kk) K
theorem Go.ladd {x y' : Int64} (hd : decode bytes pc = .ok (.ladd, 1)) (q : pc + 1 = pc') (K : Go l Z y bytes mx rt R EL n0 w Q h kc ks SL pc' L (.long (x + y') :: S)) : Go l Z y bytes mx rt R EL n0 w Q h kc ks SL pc L (.long y' :: .long x :: S) := Go.st (fun W t kk => by obtain ⟨⟨hx, hby, -⟩, _, _, X, -⟩ := W; subst q; exact XS.ladd X.here hx rfl (hb hby hd) rfl kk) K
theorem Go.lsub {x y' : Int64} (hd : decode bytes pc = .ok (.lsub, 1)) (q : pc + 1 = pc') (K : Go l Z y bytes mx rt R EL n0 w Q h kc ks SL pc' L (.long (x - y') :: S)) : Go l Z y bytes mx rt R EL n0 w Q h kc ks SL pc L (.long y' :: .long x :: S) := Go.st (fun W t kk => by obtain ⟨⟨hx, hby, -⟩, _, _, X, -⟩ := W; subst q; exact XS.lsub X.here hx rfl (hb hby hd) rfl kk) K
theorem Go.land {x y' : Int64} (hd : decode bytes pc = .ok (.land, 1)) (q : pc + 1 = pc') (K : Go l Z y bytes mx rt R EL n0 w Q h kc ks SL pc' L (.long (x &&& y') :: S)) : Go l Z y bytes mx rt R EL n0 w Q h kc ks SL pc L (.long y' :: .long x :: S) := Go.st (fun W t kk => by obtain ⟨⟨hx, hby, -⟩, _, _, X, -⟩ := W; subst q; exact XS.land X.here hx rfl (hb hby hd) rfl kk) K
theorem Go.lor {x y' : Int64} (hd : decode bytes pc = .ok (.lor, 1)) (q : pc + 1 = pc') (K : Go l Z y bytes mx rt R EL n0 w Q h kc ks SL pc' L (.long (x ||| y') :: S)) : Go l Z y bytes mx rt R EL n0 w Q h kc ks SL pc L (.long y' :: .long x :: S) := Go.st (fun W t kk => by obtain ⟨⟨hx, hby, -⟩, _, _, X, -⟩ := W; subst q; exact XS.lor X.here hx rfl (hb hby hd) rfl kk) K
theorem Go.lxor {x y' : Int64} (hd : decode bytes pc = .ok (.lxor, 1)) (q : pc + 1 = pc') (K : Go l Z y bytes mx rt R EL n0 w Q h kc ks SL pc' L (.long (x ^^^ y') :: S)) : Go l Z y bytes mx rt R EL n0 w Q h kc ks SL pc L (.long y' :: .long x :: S) := Go.st (fun W t kk => by obtain ⟨⟨hx, hby, -⟩, _, _, X, -⟩ := W; subst q; exact XS.lxor X.here hx rfl (hb hby hd) rfl kk) K
theorem Go.lmul {x y' : Int64} (hd : decode bytes pc = .ok (.lmul, 1)) (q : pc + 1 = pc') (K : Go l Z y bytes mx rt R EL n0 w Q h kc ks SL pc' L (.long (x * y') :: S)) : Go l Z y bytes mx rt R EL n0 w Q h kc ks SL pc L (.long y' :: .long x :: S) := Go.st (fun W t kk => by obtain ⟨⟨hx, hby, -⟩, _, _, X, -⟩ := W; subst q; exact XS.lmul X.here hx rfl (hb hby hd) rfl kk) K
theorem Go.irem {x y' : Int32} (hd : decode bytes pc = .ok (.irem, 1)) (hy : y' ≠ 0) (q : pc + 1 = pc') (K : Go l Z y bytes mx rt R EL n0 w Q h kc ks SL pc' L (.int (x % y') :: S)) : Go l Z y bytes mx rt R EL n0 w Q h kc ks SL pc L (.int y' :: .int x :: S) := Go.st (fun W t kk => by obtain ⟨⟨hx, hby, -⟩, _, _, X, -⟩ := W; subst q; exact iremM X hx rfl (hb hby hd) rfl hy kk) K
theorem Go.idiv {x y' : Int32} (hd : decode bytes pc = .ok (.idiv, 1)) (hy : y' ≠ 0) (q : pc + 1 = pc') (K : Go l Z y bytes mx rt R EL n0 w Q h kc ks SL pc' L (.int (x / y') :: S)) : Go l Z y bytes mx rt R EL n0 w Q h kc ks SL pc L (.int y' :: .int x :: S) := Go.st (fun W t kk => by obtain ⟨⟨hx, hby, -⟩, _, _, X, -⟩ := W; subst q; exact XS.idiv X.here hx rfl (hb hby hd) rfl hy kk) K
theorem Go.ineg {x : Int32} (hd : decode bytes pc = .ok (.ineg, 1)) (q : pc + 1 = pc') (K : Go l Z y bytes mx rt R EL n0 w Q h kc ks SL pc' L (.int (-x) :: S)) : Go l Z y bytes mx rt R EL n0 w Q h kc ks SL pc L (.int x :: S) := Go.st (fun W t kk => by obtain ⟨⟨hx, hby, -⟩, _, _, X, -⟩ := W; subst q; exact XS.ineg X.here hx rfl (hb hby hd) rfl kk) K
theorem Go.lcmp {x y' : Int64} (hd : decode bytes pc = .ok (.lcmp, 1)) (q : pc + 1 = pc') (K : Go l Z y bytes mx rt R EL n0 w Q h kc ks SL pc' L (.int (lcmpW x y') :: S)) : Go l Z y bytes mx rt R EL n0 w Q h kc ks SL pc L (.long y' :: .long x :: S) := Go.st (fun W t kk => by obtain ⟨⟨hx, hby, -⟩, _, _, X, -⟩ := W; subst q; exact XS.lcmp X.here hx rfl (hb hby hd) rfl kk) K
theorem Go.dup {x : Value} (hd : decode bytes pc = .ok (.dup, 1)) (hc : x.category = 1) (q : pc + 1 = pc') (K : Go l Z y bytes mx rt R EL n0 w Q h kc ks SL pc' L (x :: x :: S)) : Go l Z y bytes mx rt R EL n0 w Q h kc ks SL pc L (x :: S) := Go.st (fun W t kk => by obtain ⟨⟨hx, hby, -⟩, _, _, X, -⟩ := W; subst q; exact XS.dup X.here hx rfl (hb hby hd) rfl hc kk) K
theorem Go.dupX1 {x x2 : Value} (hd : decode bytes pc = .ok (.dup_x1, 1)) (hc : x.category = 1) (hc' : x2.category = 1) (q : pc + 1 = pc') (K : Go l Z y bytes mx rt R EL n0 w Q h kc ks SL pc' L (x :: x2 :: x :: S)) : Go l Z y bytes mx rt R EL n0 w Q h kc ks SL pc L (x :: x2 :: S) := Go.st (fun W t kk => by obtain ⟨⟨hx, hby, -⟩, _, _, X, -⟩ := W; subst q; exact XS.dupX1 X.here hx rfl (hb hby hd) rfl hc hc' kk) K
theorem Go.pop {x : Value} (hd : decode bytes pc = .ok (.pop, 1)) (hc : x.category = 1) (q : pc + 1 = pc') (K : Go l Z y bytes mx rt R EL n0 w Q h kc ks SL pc' L S) : Go l Z y bytes mx rt R EL n0 w Q h kc ks SL pc L (x :: S) := Go.st (fun W t kk => by obtain ⟨⟨hx, hby, -⟩, _, _, X, -⟩ := W; subst q; exact XS.pop X.here hx rfl (hb hby hd) rfl hc kk) K
theorem Go.iinc {k : Nat} {cst : Int} {x : Int32} (z : Int32) (L' : Array Slot) (hd : decode bytes pc = .ok (.iinc k cst, 3)) (hl : L[k]? = some (.val (.int x))) (hz : x + Int32.ofInt cst = z) (hl' : storeLocals L k (.int z) = some L') (q : pc + 3 = pc') (K : Go l Z y bytes mx rt R EL n0 w Q h kc ks SL pc' L' S) : Go l Z y bytes mx rt R EL n0 w Q h kc ks SL pc L S := Go.st (fun W t kk => by obtain ⟨⟨hx, hby, -⟩, _, _, X, -⟩ := W; subst q; subst hz; exact XS.iinc X.here hx rfl (hb hby hd) hl hl' kk) K
theorem Go.i2b {x : Int32} (hd : decode bytes pc = .ok (.i2b, 1)) (q : pc + 1 = pc') (K : Go l Z y bytes mx rt R EL n0 w Q h kc ks SL pc' L (.int (x.toInt8.toInt32) :: S)) : Go l Z y bytes mx rt R EL n0 w Q h kc ks SL pc L (.int x :: S) := Go.st (fun W t kk => by obtain ⟨⟨hx, hby, -⟩, _, _, X, -⟩ := W; subst q; exact XS.i2b X.here hx rfl (hb hby hd) rfl kk) K
theorem Go.i2c {x : Int32} (hd : decode bytes pc = .ok (.i2c, 1)) (q : pc + 1 = pc') (K : Go l Z y bytes mx rt R EL n0 w Q h kc ks SL pc' L (.int (nar .char x) :: S)) : Go l Z y bytes mx rt R EL n0 w Q h kc ks SL pc L (.int x :: S) := Go.st (fun W t kk => by obtain ⟨⟨hx, hby, -⟩, _, _, X, -⟩ := W; subst q; exact XS.i2c X.here hx rfl (hb hby hd) rfl kk) K
theorem Go.i2s {x : Int32} (hd : decode bytes pc = .ok (.i2s, 1)) (q : pc + 1 = pc') (K : Go l Z y bytes mx rt R EL n0 w Q h kc ks SL pc' L (.int (x.toInt16.toInt32) :: S)) : Go l Z y bytes mx rt R EL n0 w Q h kc ks SL pc L (.int x :: S) := Go.st (fun W t kk => by obtain ⟨⟨hx, hby, -⟩, _, _, X, -⟩ := W; subst q; exact XS.i2s X.here hx rfl (hb hby hd) rfl kk) K
theorem Go.i2l {x : Int32} (hd : decode bytes pc = .ok (.i2l, 1)) (q : pc + 1 = pc') (K : Go l Z y bytes mx rt R EL n0 w Q h kc ks SL pc' L (.long x.toInt64 :: S)) : Go l Z y bytes mx rt R EL n0 w Q h kc ks SL pc L (.int x :: S) := Go.st (fun W t kk => by obtain ⟨⟨hx, hby, -⟩, _, _, X, -⟩ := W; subst q; exact XS.i2l X.here hx rfl (hb hby hd) rfl kk) K
theorem Go.l2i {x : Int64} (hd : decode bytes pc = .ok (.l2i, 1)) (q : pc + 1 = pc') (K : Go l Z y bytes mx rt R EL n0 w Q h kc ks SL pc' L (.int x.toInt32 :: S)) : Go l Z y bytes mx rt R EL n0 w Q h kc ks SL pc L (.long x :: S) := Go.st (fun W t kk => by obtain ⟨⟨hx, hby, -⟩, _, _, X, -⟩ := W; subst q; exact XS.l2i X.here hx rfl (hb hby hd) rfl kk) K
theorem Go.goto {o : Int} (hd : decode bytes pc = .ok (.goto o, 3)) (ho : 0 ≤ (pc : Int) + o) (hp : ((pc : Int) + o).toNat = pc') (K : Go l Z y bytes mx rt R EL n0 w Q h kc ks SL pc' L S) : Go l Z y bytes mx rt R EL n0 w Q h kc ks SL pc L S := Go.st (fun W t kk => by obtain ⟨⟨hx, hby, -⟩, _, _, X, -⟩ := W; exact XS.goto X.here hx rfl rfl (hb hby hd) ho hp kk) K
theorem Go.ifT {cd : ClassFile.Cond} {x : Int32} {o : Int} (hd : decode bytes pc = .ok (.ifCond cd o, 3)) (hc : cP cd x 0) (ho : 0 ≤ (pc : Int) + o) (hp : ((pc : Int) + o).toNat = pc') (K : Go l Z y bytes mx rt R EL n0 w Q h kc ks SL pc' L S) : Go l Z y bytes mx rt R EL n0 w Q h kc ks SL pc L (.int x :: S) := Go.st (fun W t kk => by obtain ⟨⟨hx, hby, -⟩, _, _, X, -⟩ := W; exact XS.ifYes X.here hx rfl rfl (hb hby hd) rfl (if_t hc) ho hp kk) K
theorem Go.ifF {cd : ClassFile.Cond} {x : Int32} {o : Int} (hd : decode bytes pc = .ok (.ifCond cd o, 3)) (hc : cP (cneg cd) x 0) (q : pc + 3 = pc') (K : Go l Z y bytes mx rt R EL n0 w Q h kc ks SL pc' L S) : Go l Z y bytes mx rt R EL n0 w Q h kc ks SL pc L (.int x :: S) := Go.st (fun W t kk => by obtain ⟨⟨hx, hby, -⟩, _, _, X, -⟩ := W; subst q; exact XS.ifNo X.here hx rfl (hb hby hd) rfl (if_f hc) kk) K
theorem Go.icmpT {cd : ClassFile.Cond} {x x2 : Int32} {o : Int} (hd : decode bytes pc = .ok (.if_icmp cd o, 3)) (hc : cP cd x x2) (ho : 0 ≤ (pc : Int) + o) (hp : ((pc : Int) + o).toNat = pc') (K : Go l Z y bytes mx rt R EL n0 w Q h kc ks SL pc' L S) : Go l Z y bytes mx rt R EL n0 w Q h kc ks SL pc L (.int x2 :: .int x :: S) := Go.st (fun W t kk => by obtain ⟨⟨hx, hby, -⟩, _, _, X, -⟩ := W; exact XS.icmpYes X.here hx rfl rfl (hb hby hd) rfl (ic_t hc) ho hp kk) K
theorem Go.icmpF {cd : ClassFile.Cond} {x x2 : Int32} {o : Int} (hd : decode bytes pc = .ok (.if_icmp cd o, 3)) (hc : cP (cneg cd) x x2) (q : pc + 3 = pc') (K : Go l Z y bytes mx rt R EL n0 w Q h kc ks SL pc' L S) : Go l Z y bytes mx rt R EL n0 w Q h kc ks SL pc L (.int x2 :: .int x :: S) := Go.st (fun W t kk => by obtain ⟨⟨hx, hby, -⟩, _, _, X, -⟩ := W; subst q; exact XS.icmpNo X.here hx rfl (hb hby hd) rfl (ic_f hc) kk) K
theorem Go.ifnullT {o : Int} (hd : decode bytes pc = .ok (.ifnull o, 3)) (ho : 0 ≤ (pc : Int) + o) (hp : ((pc : Int) + o).toNat = pc') (K : Go l Z y bytes mx rt R EL n0 w Q h kc ks SL pc' L S) : Go l Z y bytes mx rt R EL n0 w Q h kc ks SL pc L (.null :: S) := Go.st (fun W t kk => by obtain ⟨⟨hx, hby, -⟩, _, _, X, -⟩ := W; exact XS.ifnullYes X.here hx rfl rfl (hb hby hd) rfl ho hp kk) K
theorem Go.ifnullF {o : Int} {b : Addr} (hd : decode bytes pc = .ok (.ifnull o, 3)) (q : pc + 3 = pc') (K : Go l Z y bytes mx rt R EL n0 w Q h kc ks SL pc' L S) : Go l Z y bytes mx rt R EL n0 w Q h kc ks SL pc L (.ref b :: S) := Go.st (fun W t kk => by obtain ⟨⟨hx, hby, -⟩, _, _, X, -⟩ := W; subst q; exact XS.ifnullNo X.here hx rfl (hb hby hd) rfl kk) K
theorem Go.ifnonnullT {o : Int} {b : Addr} (hd : decode bytes pc = .ok (.ifnonnull o, 3)) (ho : 0 ≤ (pc : Int) + o) (hp : ((pc : Int) + o).toNat = pc') (K : Go l Z y bytes mx rt R EL n0 w Q h kc ks SL pc' L S) : Go l Z y bytes mx rt R EL n0 w Q h kc ks SL pc L (.ref b :: S) := Go.st (fun W t kk => by obtain ⟨⟨hx, hby, -⟩, _, _, X, -⟩ := W; exact XS.ifnonnullYes X.here hx rfl rfl (hb hby hd) rfl ho hp kk) K
theorem Go.ifnonnullF {o : Int} (hd : decode bytes pc = .ok (.ifnonnull o, 3)) (q : pc + 3 = pc') (K : Go l Z y bytes mx rt R EL n0 w Q h kc ks SL pc' L S) : Go l Z y bytes mx rt R EL n0 w Q h kc ks SL pc L (.null :: S) := Go.st (fun W t kk => by obtain ⟨⟨hx, hby, -⟩, _, _, X, -⟩ := W; subst q; exact XS.ifnonnullNo X.here hx rfl (hb hby hd) rfl kk) K
theorem Go.acmp {cd : ClassFile.ACond} {x x2 : Value} {o : Int} (same : Bool) (hd : decode bytes pc = .ok (.if_acmp cd o, 3)) (h1 : x.isRef = true) (h2 : x2.isRef = true) (hq : decide (x = x2) = same) (ho : 0 ≤ (pc : Int) + o) (hp : pc' = if acV cd same = true then ((pc : Int) + o).toNat else pc + 3) (K : Go l Z y bytes mx rt R EL n0 w Q h kc ks SL pc' L S) : Go l Z y bytes mx rt R EL n0 w Q h kc ks SL pc L (x2 :: x :: S) := Go.st (fun W t kk => by obtain ⟨⟨hx, hby, -⟩, _, _, X, -⟩ := W; exact RoadKit.acmp X hx rfl h1 h2 rfl (hb hby hd) rfl hq ho hp kk) K
theorem Go.st1 {n : Nat} (q : pc + n = pc') (hst : ∀ {p : Program} {e : Env} {s : State} {m : MethodId} {args : Array Value} {below : List Frame} {meth : Method} {c : Code} {T : State} {locs : List Loc}, Stand p l e R (s.setVm T.vm) m args below meth c T locs kc ks → T.heap = h → p.tables.exec = Jvm.exec → c.code = bytes → Z.Warmed39 T.vm → T.vm.findClass y.cls = some m.cls → ∀ t, Steps p.tables e below (T.setTop (mkF m (pc + n) L' S')) t → Steps p.tables e below (T.setTop (mkF m pc L S)) t)
    (K : Go l Z y bytes mx rt R EL n0 w Q h kc ks SL pc' L' S') : Go l Z y bytes mx rt R EL n0 w Q h kc ks SL pc L S := by
  subst q
  exact Go.st (fun W t kk => by
    obtain ⟨⟨hx, hby, -⟩, _, _, X, e1, -, -, hZ, hown, -⟩ := W
    exact hst X e1 hx hby hZ hown t kk) K
/-- both ways of a branch -/
theorem Go.icmp {cd : ClassFile.Cond} {x x2 : Int32} {o : Int} (hd : decode bytes pc = .ok (.if_icmp cd o, 3)) (ho : 0 ≤ (pc : Int) + o) (hp : ((pc : Int) + o).toNat = pc') (q : pc + 3 = pc'') (Kt : cP cd x x2 → Go l Z y bytes mx rt R EL n0 w Q h kc ks SL pc' L S) (Kf : cP (cneg cd) x x2 → Go l Z y bytes mx rt R EL n0 w Q h kc ks SL pc'' L S) : Go l Z y bytes mx rt R EL n0 w Q h kc ks SL pc L (.int x2 :: .int x :: S) :=
  (cP_em cd x x2).elim (fun hc => Go.icmpT hd hc ho hp (Kt hc)) (fun hc => Go.icmpF hd hc q (Kf hc))
theorem Go.ifc {cd : ClassFile.Cond} {x : Int32} {o : Int} (hd : decode bytes pc = .ok (.ifCond cd o, 3)) (ho : 0 ≤ (pc : Int) + o) (hp : ((pc : Int) + o).toNat = pc') (q : pc + 3 = pc'') (Kt : cP cd x 0 → Go l Z y bytes mx rt R EL n0 w Q h kc ks SL pc' L S) (Kf : cP (cneg cd) x 0 → Go l Z y bytes mx rt R EL n0 w Q h kc ks SL pc'' L S) : Go l Z y bytes mx rt R EL n0 w Q h kc ks SL pc L (.int x :: S) :=
  (cP_em cd x 0).elim (fun hc => Go.ifT hd hc ho hp (Kt hc)) (fun hc => Go.ifF hd hc q (Kf hc))
theorem Go.ldcI {index : Nat} {z : Int32} (hd : decode bytes pc = .ok (.ldc index, 2)) (wd : (Jvm.Cond.constant y.cls index z).before a1 Z = true) (q : pc + 2 = pc') (K : Go l Z y bytes mx rt R EL n0 w Q h kc ks SL pc' L (.int z :: S)) : Go l Z y bytes mx rt R EL n0 w Q h kc ks SL pc L S :=
  Go.st1 q (fun X e1 hx hby hZ hown t kk => X.ldcInt hx hown (mv (s := State.setVm _ _) hZ wd) (g := mkF _ pc L S) rfl (hb hby hd) t kk) K
theorem Go.ldc2J {index : Nat} {z : Int64} (hd : decode bytes pc = .ok (.ldc2_w index, 3)) (wd : (Jvm.Cond.constantLong y.cls index z).before a1 Z = true) (q : pc + 3 = pc') (K : Go l Z y bytes mx rt R EL n0 w Q h kc ks SL pc' L (.long z :: S)) : Go l Z y bytes mx rt R EL n0 w Q h kc ks SL pc L S :=
  Go.st1 q (fun X e1 hx hby hZ hown t kk => X.ldc2Long hx hown (mv (s := State.setVm _ _) hZ wd) (g := mkF _ pc L S) rfl (hb hby hd) t kk) K
theorem Go.getF {R0 O n d host : String} {index : Nat} {a : Addr} {v : Value} (hd : decode bytes pc = .ok (.getfield index, 3)) (wd : (Jvm.Cond.fieldLink y.cls index R0 n d).before a1 Z = true ∨ (Jvm.Cond.fieldLinkNest y.cls index R0 n d host).before a1 Z = true) (via : Via Z R0 O n d) (F : Fld Z h a O n d v) (q : pc + 3 = pc')
    (K : Go l Z y bytes mx rt R EL n0 w Q h kc ks SL pc' L (v :: S)) : Go l Z y bytes mx rt R EL n0 w Q h kc ks SL pc L (.ref a :: S) := by
  intro p e s m args below meth c T W
  subst q
  have W0 := W
  obtain ⟨⟨hx, hby, -⟩, k0, locs, X, e1, -, -, hZ, hown, hC, N, -, hSf⟩ := W
  obtain ⟨T', X', e', st⟩ := RoadKit.getF X hx hZ hown wd via e1 F (g := mkF m pc L (.ref a :: S)) rfl rfl (hb hby hd)
  obtain ⟨s₂, o, st2, r⟩ := K p e s m args below meth c T' (W0.next X' e' (CHr.refl hC.1) N hSf)
  exact ⟨s₂, o, st _ st2, r⟩
theorem Go.getS {R0 O n d host : String} {index : Nat} {v : Value} (hd : decode bytes pc = .ok (.getstatic index, 3)) (wd : (Jvm.Cond.fieldLink y.cls index R0 n d).before a1 Z = true ∨ (Jvm.Cond.fieldLinkNest y.cls index R0 n d host).before a1 Z = true) (via : Via Z R0 O n d) (F : Sta Z h O n d v) (q : pc + 3 = pc')
    (K : Go l Z y bytes mx rt R EL n0 w Q h kc ks SL pc' L (v :: S)) : Go l Z y bytes mx rt R EL n0 w Q h kc ks SL pc L S := by
  intro p e s m args below meth c T W
  subst q
  have W0 := W
  obtain ⟨⟨hx, hby, -⟩, k0, locs, X, e1, -, -, hZ, hown, hC, N, -, hSf⟩ := W
  obtain ⟨T', X', e', st⟩ := RoadKit.getS2 X hx hZ hown wd via e1 F (g := mkF m pc L S) rfl (hb hby hd)
  obtain ⟨s₂, o, st2, r⟩ := K p e s m args below meth c T' (W0.next X' e' (CHr.refl hC.1) N hSf)
  exact ⟨s₂, o, st _ st2, r⟩
/-- the cell at a is no literal's -/
def Sf (Z : State) (EL : List (String × Nat)) (SL : List Addr) (h : Heap) (a : Addr) : Prop := ∀ vm, Z.Warmed39 vm → Sfs Z EL vm h SL → Safe Z EL vm h a
theorem Sf.exa {a : Addr} {C : String} (E : Exa Z h a C) (h1 : C ≠ "java/lang/String") (h2 : C ≠ "[B") : Sf Z EL SL h a := fun vm hZ _ => Safe.exa hZ.alike E h1 h2
theorem Sf.mem {a : Addr} (hm : a ∈ SL) : Sf Z EL SL h a := fun vm _ F => (F a hm).2
theorem Sf.nil {a : Addr} : Sf Z [] SL h a := fun vm _ _ B => by obtain ⟨p, hp, -⟩ := B; cases hp
theorem Sf.arr {a : Addr} {cl : Cell} {ty : FieldType} (A : Arr Z h a cl ty) (ht : ty ≠ .byte) : Sf Z EL SL h a := fun vm hZ _ => Safe.arr hZ.alike A ht
theorem Go.putF {R0 O n d host C : String} {index kk : Nat} {ty : FieldType} {a : Addr} {v old : Value} (hd : decode bytes pc = .ok (.putfield index, 3)) (wd : (Jvm.Cond.fieldLink y.cls index R0 n d).before a1 Z = true ∨ (Jvm.Cond.fieldLinkNest y.cls index R0 n d host).before a1 Z = true) (via : Via Z R0 O n d) (F : Fld Z h a O n d old) (E : Exa Z h a C)
    (Ly : (Jvm.Cond.lays C O n d).before a1 Z = true ∨ ((Jvm.Cond.laysFinal C O n d).before a1 Z = true ∧ y.cls = O ∧ y.name = "<init>")) (wi : (Jvm.Cond.instantiable C kk).before a1 Z = true) (hty : parseFieldDescriptor d = some ty) (hn : narrow ty v = v) (hf : fits ty v = true) (hsafe : Sf Z EL SL h a) (ha : n0 ≤ a) (q : pc + 3 = pc')
    (K : ∀ h', Wr h h' a (RoadKit.slotOf Z O n d) v → Go l Z y bytes mx rt R EL n0 w Q h' kc ks SL pc' L S) : Go l Z y bytes mx rt R EL n0 w Q h kc ks SL pc L (v :: .ref a :: S) := by
  intro p e s m args below meth c T W
  subst q
  have W0 := W
  obtain ⟨⟨hx, hby, -, -, -, hnm, -⟩, k0, locs, X, e1, -, -, hZ, hown, hC, N, -, hSf⟩ := W
  obtain ⟨T', h', X', e', Wr', st⟩ := RoadKit.putF X hx hZ hown wd via e1 F E (Ly.imp id fun q => ⟨q.1, q.2.1, hnm.trans q.2.2⟩) wi hty hn hf (g := mkF m pc L (v :: .ref a :: S)) rfl rfl (hb hby hd)
  have A := CHr.wr Wr' (hsafe _ hZ hSf) hC.1
  obtain ⟨s₂, o, st2, r⟩ := K h' Wr' p e s m args below meth c T' (W0.next X' e' A (Fr.snoc X' N ha) (hSf.chr A))
  exact ⟨s₂, o, st _ st2, r⟩
theorem Go.newO {C : String} {index n : Nat} (hd : decode bytes pc = .ok (.new index, 3)) (wd : (Jvm.Cond.classLink y.cls index C).before a1 Z = true) (wi : (Jvm.Cond.instantiable C n).before a1 Z = true) (wz : (Jvm.Cond.initialized C).before a1 Z = true) (hc : kc + 1 ≤ R.cells) (hl : ks + n ≤ R.slots) (q : pc + 3 = pc')
    (K : ∀ (a : Addr) (h' : Heap), a = h.size → Ext h h' → Exa Z h' a C → (∀ {O nm d : String} {ty : FieldType}, Laid Z a1 C O nm d → parseFieldDescriptor d = some ty → Fld Z h' a O nm d (defaultValue ty)) → Go l Z y bytes mx rt R EL n0 w Q h' (kc + 1) (ks + n) (a :: SL) pc' L (.ref a :: S)) : Go l Z y bytes mx rt R EL n0 w Q h kc ks SL pc L S := by
  intro p e s m args below meth c T W
  subst q
  have W0 := W
  obtain ⟨⟨hx, hby, -⟩, k0, locs, X, e1, -, -, hZ, hown, hC, N, -, hSf⟩ := W
  obtain ⟨T', h', X', e', E, A, D, -, st⟩ := RoadKit.newO X hx hZ hown wd wi wz e1 (g := mkF m pc L S) rfl (hb hby hd) hc hl
  have B := CHr.ext (vm := T.vm) (EL := EL) (Z := Z) E hC.1
  have hS2 : Sfs Z EL T.vm h' (h.size :: SL) := fun x hx' => by
    rcases List.mem_cons.mp hx' with rfl | q
    · exact ⟨A.lt, Safe.ext E hC.1 (Safe.new (Nat.le_refl _))⟩
    · exact hSf.chr B x q
  obtain ⟨s₂, o, st2, r⟩ := K h.size h' rfl E A D p e s m args below meth c T' (W0.next X' e' B N hS2)
  exact ⟨s₂, o, st _ st2, r⟩
theorem Go.newP {aty : ArrayType} {n : Int32} (cap : Nat) (hd : decode bytes pc = .ok (.newarray aty, 2)) (wd : (Jvm.Cond.arrayClass (newarray.typeOf aty)).before a1 Z = true) (hn : ¬ n < 0) (hcap : n.toNatClampNeg ≤ cap) (hb' : cap * 8 ≤ 536870912) (hc : kc + 1 ≤ R.cells) (hl : ks + cap ≤ R.slots) (q : pc + 2 = pc')
    (K : ∀ (a : Addr) (h' : Heap) (cA : ClassId), a = h.size → Ext h h' → Arr Z h' a (newA cA (newarray.typeOf aty) n) (newarray.typeOf aty) → Go l Z y bytes mx rt R EL n0 w Q h' (kc + 1) (ks + cap) (a :: SL) pc' L (.ref a :: S)) : Go l Z y bytes mx rt R EL n0 w Q h kc ks SL pc L (.int n :: S) := by
  intro p e s m args below meth c T W
  subst q
  have W0 := W
  obtain ⟨⟨hx, hby, -⟩, k0, locs, X, e1, -, -, hZ, hown, hC, N, -, hSf⟩ := W
  obtain ⟨T', h', cA, X', e', E, A, st⟩ := RoadKit.newP X hx hZ wd e1 (g := mkF m pc L (.int n :: S)) rfl (hb hby hd) rfl hn hcap hb' hc hl
  have B := CHr.ext (vm := T.vm) (EL := EL) (Z := Z) E hC.1
  have hS2 : Sfs Z EL T.vm h' (h.size :: SL) := fun x hx' => by
    rcases List.mem_cons.mp hx' with rfl | q
    · exact ⟨A.lt, Safe.ext E hC.1 (Safe.new (Nat.le_refl _))⟩
    · exact hSf.chr B x q
  obtain ⟨s₂, o, st2, r⟩ := K h.size h' cA rfl E A p e s m args below meth c T' (W0.next X' e' B N hS2)
  exact ⟨s₂, o, st _ st2, r⟩
theorem Go.initO {index : Nat} {a : Addr} (hd : decode bytes pc = .ok (.invokespecial index, 3)) (w1 : (Jvm.Cond.methodLink y.cls index Lib.objectInit).before a1 Z = true) (w2 : (Jvm.Cond.instanceMethod Lib.objectInit).before a1 Z = true) (w3 : (Jvm.Cond.code Lib.objectInit ⟨#[0xb1]⟩ 1 none).before a1 Z = true) (hL : L.size = mx) (hf : 1 ≤ R.frames) (Wd : Nat) (hW : (S.map fun v => v.category).sum = Wd) (hl : Wd + 12 ≤ R.locals) (q : pc + 3 = pc')
    (K : Go l Z y bytes mx rt R EL n0 w Q h kc ks SL pc' L S) : Go l Z y bytes mx rt R EL n0 w Q h kc ks SL pc L (.ref a :: S) := by
  intro p e s m args below meth c T W
  subst q
  have W0 := W
  obtain ⟨⟨hx, hby, hml, -⟩, k0, locs, X, e1, -, -, hZ, hown, hC, N, -, hSf⟩ := W
  obtain ⟨T', X', e', st⟩ := RoadKit.initO X hx hZ hown w1 w2 w3 e1 (g := mkF m pc L (.ref a :: S)) rfl (hL.trans hml.symm) rfl (hb hby hd) hf (W := Wd) (by show 2 * 0 + _ ≤ _; omega) hl
  obtain ⟨s₂, o, st2, r⟩ := K p e s m args below meth c T' (W0.next X' e' (CHr.refl hC.1) N hSf)
  exact ⟨s₂, o, st _ st2, r⟩
/-- a String constant, unread -/
theorem Go.ldcO {index : Nat} {text : String} (n : Nat) (hd : decode bytes pc = .ok (.ldc index, 2)) (hw : w = true) (wd : (Jvm.Cond.stringLink y.cls index text).before a1 Z = true) (wS : ∀ d ∈ Bundle.stringAtoms, d.before a1 Z = true) (hn : 4 * text.toList.length ≤ n) (hbig : n ≤ 536870912) (hc : kc + 2 ≤ R.cells) (hl : ks + (n + 4) ≤ R.slots) (q : pc + 2 = pc') (hEL : EW Z a1 EL)
    (K : ∀ (a : Addr) (h' : Heap), Ext h h' → Go l Z y bytes mx rt R EL n0 w Q h' (kc + 2) (ks + (n + 4)) SL pc' L (.ref a :: S)) : Go l Z y bytes mx rt R EL n0 w Q h kc ks SL pc L S := by
  intro p e s m args below meth c T W
  subst q
  have W0 := W
  obtain ⟨⟨hx, hby, -⟩, k0, locs, X, e1, hS, hk, hZ, hown, hC, N, -, hSf⟩ := W
  obtain ⟨a, T', h', k1, X', e', E, hS', hk', hZ', hown', hC', -, st⟩ := RoadKit.ldcOH (s := s.setVm T.vm) (vm0 := T.vm) X hx hZ hown wd wS e1 (k0 := h.size) ((State.WarmedH.refl _).since _) (Nat.le_refl _) hEL hC.1 (g := mkF m pc L S) rfl (hb hby hd) hn hbig hc hl
  have hS2 : (s.setVm T.vm).Since T'.vm h'.size := ⟨hS'.1, fun j p hj hp => by obtain ⟨z1, z2⟩ := hS'.2 j p hj hp; exact ⟨z1, Nat.lt_of_lt_of_le z2 hk'⟩⟩
  obtain ⟨s₂, o, st2, r⟩ := K a h' E p e s m args below meth c T' (W0.nextS X' e' hS2 E.1 (Nat.le_refl _) hC' N (fun q => by rw [hw] at q; cases q) (hSf.chr hC'))
  exact ⟨s₂, o, st _ st2, r⟩
/-- a String constant, read -/
theorem Go.ldcR {index : Nat} {text : String} (n : Nat) {vs : List Value} {z : Int32} (hd : decode bytes pc = .ok (.ldc index, 2)) (hw : w = true) (wd : (Jvm.Cond.stringLink y.cls index text).before a1 Z = true) (wS : ∀ d ∈ Bundle.stringAtoms, d.before a1 Z = true) (hn : 4 * text.toList.length ≤ n) (hbig : n ≤ 536870912) (hc : kc + 2 ≤ R.cells) (hl : ks + (n + 4) ≤ R.slots) (q : pc + 2 = pc') (hEL : EW Z a1 EL) (hmem : (y.cls, index) ∈ EL)
    (ht : (∀ c ∈ text.toList, c.toNat < 256) ∧ text.toList.map (fun c => Value.int (Jvm.Lit.byteI c.toNat.toUInt16)) = vs) (hz : ¬ z < 0) (hzl : z.toNatClampNeg = vs.length)
    (K : ∀ (a : Addr) (h' : Heap) (b : Addr) (k : ClassId), Ext h h' → Exa Z h' a "java/lang/String" → Fld Z h' a "java/lang/String" "coder" "B" (.int 0) → Fld Z h' a "java/lang/String" "value" "[B" (.ref b) → Arv Z h' b k .byte z vs (.int 0) → (∀ x ∈ SL, x ≠ a ∧ x ≠ b) → Go l Z y bytes mx rt R EL n0 w Q h' (kc + 2) (ks + (n + 4)) SL pc' L (.ref a :: S)) : Go l Z y bytes mx rt R EL n0 w Q h kc ks SL pc L S := by
  intro p e s m args below meth c T W
  subst q
  have W0 := W
  obtain ⟨⟨hx, hby, -⟩, k0, locs, X, e1, hS, hk, hZ, hown, hC, N, -, hSf⟩ := W
  obtain ⟨a, T', h', k1, b, k, X', e', E, hS', hk', hZ', hown', E1, E2, E3, E4, -, -, hC', -, hne, st⟩ := RoadKit.ldcCH (s := s.setVm T.vm) (vm0 := T.vm) X hx hZ hown wd wS e1 (k0 := h.size) ((State.WarmedH.refl _).since _) (Nat.le_refl _) hEL hmem hC.1 ht hz hzl (g := mkF m pc L S) rfl (hb hby hd) hn hbig hc hl
  have hS2 : (s.setVm T.vm).Since T'.vm h'.size := ⟨hS'.1, fun j p hj hp => by obtain ⟨z1, z2⟩ := hS'.2 j p hj hp; exact ⟨z1, Nat.lt_of_lt_of_le z2 hk'⟩⟩
  obtain ⟨s₂, o, st2, r⟩ := K a h' b k E E1 E2 E3 E4 (fun x hx' => hne x ((hSf.chr hC') x hx').2) p e s m args below meth c T' (W0.nextS X' e' hS2 E.1 (Nat.le_refl _) hC' N (fun q => by rw [hw] at q; cases q) (hSf.chr hC'))
  exact ⟨s₂, o, st _ st2, r⟩
section Calls
variable {z yy : MethodName} {bytesZ : ByteArray} {mxZ : Nat} {rtZ : Option FieldType} {rm : Room} {QZ : Option Value → Heap → List Addr → Prop} {argsL rest : List Value} {index : Nat}
theorem Go.callS (hM : Ct l Z z bytesZ mxZ rtZ rm EL n0 w [] argsL.toArray h SL' QZ) (hd : decode bytes pc = .ok (.invokestatic index, 3)) (w1 : (Jvm.Cond.methodLink y.cls index z).before a1 Z = true) (w2 : (Jvm.Cond.static z).before a1 Z = true) (w3 : (Jvm.Cond.initialized z.cls).before a1 Z = true) (w4 : (Jvm.Cond.code z bytesZ mxZ rtZ).before a1 Z = true)
    (hy : z.cls ≠ "java/lang/invoke/MethodHandle" ∧ z.cls ≠ "java/lang/invoke/VarHandle") (hlen : ∀ sig, parseMethodDescriptor z.desc = some sig → argsL.length = sig.parameters.length) (hst : S = argsL.reverse ++ rest) (Wd : Nat) (hW : (rest.map fun v => v.category).sum = Wd) (hL : L.size = mx) (hf : rm.frames + 1 ≤ R.frames) (hl : Wd + (mxZ + 11) + rm.locals ≤ R.locals) (hc : kc + rm.cells ≤ R.cells) (hs : ks + rm.slots ≤ R.slots) (hSL : ∀ x ∈ SL', x ∈ SL) (q : pc + 3 = pc')
    (K : ∀ v h' N, QZ v h' N → h.size ≤ h'.size → Go l Z y bytes mx rt R EL n0 w Q h' (kc + rm.cells) (ks + rm.slots) (N ++ SL) pc' L (v.toList ++ rest)) : Go l Z y bytes mx rt R EL n0 w Q h kc ks SL pc L S := by
  intro p e s m args below meth c T W
  subst q
  have W0 := W
  obtain ⟨⟨hx, hby, hml, -, -, -, a2, hEW⟩, k0, locs, X, e1, hS, hk, hZ, hown, hC, N, -, hSf⟩ := W
  obtain ⟨v, vm₁, ⟨T', Lt, kt, nt⟩, -, X', hS', hgr, ⟨Ls, N', hQ, hFr, l1, l2, l3, hC', hSf', hw'⟩, st⟩ := RoadKit.callSS X hx hown (mvT (s := s.setVm T.vm) hZ w1) (mvT (s := s.setVm T.vm) hZ w2) (mvT (s := s.setVm T.vm) hZ w3) (mvT (s := s.setVm T.vm) hZ w4) hy (Ct.pay (W := Wd) hM hZ hEW hC.1 (hSf.mono hSL) w4 w3 hf hl) (g := mkF m pc L S) rfl (hL.trans hml.symm) (argsL := argsL) (rest := rest) hlen hst (by show 2 * 0 + _ ≤ _; omega) (hb hby hd) (fun _ _ => ⟨rfl, e1, hc, hs⟩)
  dsimp only [Pt.U, Pt.locs, Pt.cells, Pt.slots] at X' l1 l2 l3 st hQ hC' hSf' hw' hgr hS'
  subst l1 l2 l3
  have hS2 : Sfs Z EL T'.vm T'.heap (N' ++ SL) := fun x hx' => (List.mem_append.mp hx').elim (hSf' x) (hSf.chr hC' x)
  obtain ⟨s₂, o, st2, r⟩ := K v _ N' hQ hC'.2.1 p e s m args below meth c T' (W0.nextS X' rfl hS' hC'.2.1 (Nat.le_refl _) hC' (N.app hFr) hw' hS2)
  exact ⟨s₂, o, st.trans st2, r⟩
theorem Go.callN {a : Addr} (hM : Ct l Z z bytesZ mxZ none rm EL n0 w [] (.ref a :: argsL).toArray h SL' QZ) (hd : decode bytes pc = .ok (.invokespecial index, 3)) (hz1 : z.name = "<init>") (w1 : (Jvm.Cond.methodLink y.cls index z).before a1 Z = true) (w2 : (Jvm.Cond.instanceMethod z).before a1 Z = true) (w3 : (Jvm.Cond.initialized z.cls).before a1 Z = true) (w4 : (Jvm.Cond.code z bytesZ mxZ none).before a1 Z = true)
    (hy : z.cls ≠ "java/lang/invoke/MethodHandle" ∧ z.cls ≠ "java/lang/invoke/VarHandle") (hlen : ∀ sig, parseMethodDescriptor z.desc = some sig → argsL.length = sig.parameters.length) (hst : S = argsL.reverse ++ .ref a :: rest) (Wd : Nat) (hW : (rest.map fun v => v.category).sum = Wd) (hL : L.size = mx) (hf : rm.frames + 1 ≤ R.frames) (hl : Wd + (mxZ + 11) + rm.locals ≤ R.locals) (hc : kc + rm.cells ≤ R.cells) (hs : ks + rm.slots ≤ R.slots) (hSL : ∀ x ∈ SL', x ∈ SL) (q : pc + 3 = pc')
    (K : ∀ v h' N, QZ v h' N → h.size ≤ h'.size → Go l Z y bytes mx rt R EL n0 w Q h' (kc + rm.cells) (ks + rm.slots) (N ++ SL) pc' L (v.toList ++ rest)) : Go l Z y bytes mx rt R EL n0 w Q h kc ks SL pc L S := by
  intro p e s m args below meth c T W
  subst q
  have W0 := W
  obtain ⟨⟨hx, hby, hml, -, -, -, a2, hEW⟩, k0, locs, X, e1, hS, hk, hZ, hown, hC, N, -, hSf⟩ := W
  obtain ⟨v, vm₁, ⟨T', Lt, kt, nt⟩, -, X', hS', hgr, ⟨Ls, N', hQ, hFr, l1, l2, l3, hC', hSf', hw'⟩, st⟩ := X.specialBackS hx hz1 hown (mvT (s := s.setVm T.vm) hZ w1) (mvT (s := s.setVm T.vm) hZ w2) (mvT (s := s.setVm T.vm) hZ w4) hy (Ct.pay (W := Wd) hM hZ hEW hC.1 (hSf.mono hSL) w4 w3 hf hl) (g := mkF m pc L S) rfl (hL.trans hml.symm) (Steps.refl _) (a := a) (argsL := argsL) (rest := rest) hlen hst (by show 2 * 0 + _ ≤ _; omega) (hb hby hd) (fun _ _ => ⟨rfl, e1, hc, hs⟩)
  dsimp only [Pt.U, Pt.locs, Pt.cells, Pt.slots] at X' l1 l2 l3 st hQ hC' hSf' hw' hgr hS'
  subst l1 l2 l3
  have hS2 : Sfs Z EL T'.vm T'.heap (N' ++ SL) := fun x hx' => (List.mem_append.mp hx').elim (hSf' x) (hSf.chr hC' x)
  obtain ⟨s₂, o, st2, r⟩ := K v _ N' hQ hC'.2.1 p e s m args below meth c T' (W0.nextS X' rfl hS' hC'.2.1 (Nat.le_refl _) hC' (N.app hFr) hw' hS2)
  exact ⟨s₂, o, st.trans st2, r⟩
theorem Go.callV {a : Addr} {C : String} (hM : Ct l Z z bytesZ mxZ rtZ rm EL n0 w [] (.ref a :: argsL).toArray h SL' QZ) (hd : decode bytes pc = .ok (.invokevirtual index, 3)) (w1 : (Jvm.Cond.methodLink y.cls index yy).before a1 Z = true) (wdec : (Jvm.Cond.declares yy).before a1 Z = true) (wnf : (Jvm.Cond.selects yy.cls yy yy).before a1 Z = true) (wsel : (Jvm.Cond.selects C yy z).before a1 Z = true) (w2 : (Jvm.Cond.instanceMethod z).before a1 Z = true) (w3 : (Jvm.Cond.initialized z.cls).before a1 Z = true) (w4 : (Jvm.Cond.code z bytesZ mxZ rtZ).before a1 Z = true) (E : Exa Z h a C)
    (hy : yy.cls ≠ "java/lang/invoke/MethodHandle" ∧ yy.cls ≠ "java/lang/invoke/VarHandle") (hlen : ∀ sig, parseMethodDescriptor yy.desc = some sig → argsL.length = sig.parameters.length) (hst : S = argsL.reverse ++ .ref a :: rest) (Wd : Nat) (hW : (rest.map fun v => v.category).sum = Wd) (hL : L.size = mx) (hf : rm.frames + 1 ≤ R.frames) (hl : Wd + (mxZ + 11) + rm.locals ≤ R.locals) (hc : kc + rm.cells ≤ R.cells) (hs : ks + rm.slots ≤ R.slots) (hSL : ∀ x ∈ SL', x ∈ SL) (q : pc + 3 = pc')
    (K : ∀ v h' N, QZ v h' N → h.size ≤ h'.size → Go l Z y bytes mx rt R EL n0 w Q h' (kc + rm.cells) (ks + rm.slots) (N ++ SL) pc' L (v.toList ++ rest)) : Go l Z y bytes mx rt R EL n0 w Q h kc ks SL pc L S := by
  intro p e s m args below meth c T W
  subst q
  have W0 := W
  obtain ⟨⟨hx, hby, hml, -, -, -, a2, hEW⟩, k0, locs, X, e1, hS, hk, hZ, hown, hC, N, -, hSf⟩ := W
  obtain ⟨cq, kq, qa, qb, qc⟩ := isOf (s := s.setVm T.vm) hZ e1 E
  obtain ⟨v, vm₁, ⟨T', Lt, kt, nt⟩, -, X', hS', hgr, ⟨Ls, N', hQ, hFr, l1, l2, l3, hC', hSf', hw'⟩, st⟩ := X.virtualBackS hx hown (mvT (s := s.setVm T.vm) hZ w1) (mvT (s := s.setVm T.vm) hZ wdec) (notFace_of_selects (args := #[]) (mvT (s := s.setVm T.vm) hZ wnf)) (mvT (s := s.setVm T.vm) hZ wsel) (mvT (s := s.setVm T.vm) hZ w2) hy (Ct.pay (W := Wd) hM hZ hEW hC.1 (hSf.mono hSL) w4 w3 hf hl) qa qc (g := mkF m pc L S) rfl (hL.trans hml.symm) (Steps.refl _) (argsL := argsL) (rest := rest) hlen hst (by show 2 * 0 + _ ≤ _; omega) (hb hby hd) (fun _ _ => ⟨rfl, e1, hc, hs⟩)
  dsimp only [Pt.U, Pt.locs, Pt.cells, Pt.slots] at X' l1 l2 l3 st hQ hC' hSf' hw' hgr hS'
  subst l1 l2 l3
  have hS2 : Sfs Z EL T'.vm T'.heap (N' ++ SL) := fun x hx' => (List.mem_append.mp hx').elim (hSf' x) (hSf.chr hC' x)
  obtain ⟨s₂, o, st2, r⟩ := K v _ N' hQ hC'.2.1 p e s m args below meth c T' (W0.nextS X' rfl hS' hC'.2.1 (Nat.le_refl _) hC' (N.app hFr) hw' hS2)
  exact ⟨s₂, o, st.trans st2, r⟩
end Calls
/-- the end of a body -/
theorem Go.out {v : Option Value} (hv : rt = none → v = none) (N : List Addr) (hN : ∀ x ∈ N, x ∈ SL) (hQ : Q v h N) (hc : kc ≤ R.cells) (hs : ks ≤ R.slots)
    (hst : ∀ {p : Program} {e : Env} {s : State} {m : MethodId} {args : Array Value} {below : List Frame} {meth : Method} {c : Code} {T : State} {locs : List Loc}, p.tables.exec = Jvm.exec → c.code = bytes → meth.sig.returnType = rt → Stand p l e R (s.setVm T.vm) m args below meth c T locs kc ks → ∀ fs, (∀ (f : JFrame) (acts : List Action), f.method = m → f.locked = none → f.entered = [] → (doReturn e (T.setTop f) acts v).1 = T.setFrames fs) → Steps p.tables e below (T.setTop (mkF m pc L S)) (T.setFrames fs)) :
    Go l Z y bytes mx rt R EL n0 w Q h kc ks SL pc L S := by
  intro p e s m args below meth c T W
  obtain ⟨⟨hx, hby, hml, hrt, hlk, -⟩, k0, locs, X, e1, hS, hk, hZ, hown, hC, Nn, hw', hSf⟩ := W
  obtain ⟨fs, hr, hrun, hended, hW⟩ := X.leaveW hS (by rw [e1]; exact hk) (v := v) (fun q => hv (hrt.symm.trans q)) hlk
  refine ⟨_, _, hst hx hby hrt X fs hr, hrun, hended, v, locs, N, rfl, ?_, Nn, ?_, ?_, ⟨hW.1, hW.2.1, hW.2.2.1, hW.2.2.2.mono hc hs⟩, hw'⟩
  · show Q v T.heap N; rw [e1]; exact hQ
  · show CHr Z EL s.vm s.heap T.vm T.heap; rw [e1]; exact hC
  · show Sfs Z EL T.vm T.heap N; rw [e1]; exact hSf.mono hN
theorem Go.ret0 (hr : rt = none) (N : List Addr) (hN : ∀ x ∈ N, x ∈ SL) (hd : decode bytes pc = .ok (.return_, 1)) (hc : kc ≤ R.cells) (hs : ks ≤ R.slots) (hQ : Q none h N) : Go l Z y bytes mx rt R EL n0 w Q h kc ks SL pc L [] :=
  Go.out (v := none) (fun _ => rfl) N hN hQ hc hs (fun hx hby hrt X fs hl => X.returnOut hx (hrt.trans hr) (hb hby hd) hl)
/-- a boolean, byte, char, short -/
theorem Go.retN {t : FieldType} {z : Int32} (z' : Int32) (hr : rt = some t) (ht : t = .boolean ∨ t = .byte ∨ t = .char ∨ t = .short) (hz : nar t z = z') (N : List Addr) (hN : ∀ x ∈ N, x ∈ SL) (hd : decode bytes pc = .ok (.ireturn, 1)) (hc : kc ≤ R.cells) (hs : ks ≤ R.slots) (hQ : Q (some (.int z')) h N) : Go l Z y bytes mx rt R EL n0 w Q h kc ks SL pc L (.int z :: S) :=
  Go.out (v := some (.int z')) (fun q => by rw [hr] at q; cases q) N hN hQ hc hs (fun hx hby hrt X fs hl => RoadKit.retN X hx (hrt.trans hr) ht (hb hby hd) (by rw [hz]; exact hl))
theorem Go.retI {z : Int32} (hr : rt = some .int) (N : List Addr) (hN : ∀ x ∈ N, x ∈ SL) (hd : decode bytes pc = .ok (.ireturn, 1)) (hc : kc ≤ R.cells) (hs : ks ≤ R.slots) (hQ : Q (some (.int z)) h N) : Go l Z y bytes mx rt R EL n0 w Q h kc ks SL pc L (.int z :: S) :=
  Go.out (v := some (.int z)) (fun q => by rw [hr] at q; cases q) N hN hQ hc hs (fun hx hby hrt X fs hl => RoadKit.retOut X hx (hrt.trans hr) rfl (Or.inl ⟨rfl, Or.inl rfl, _, rfl⟩) (hb hby hd) hl)
theorem Go.retJ {z : Int64} (hr : rt = some .long) (N : List Addr) (hN : ∀ x ∈ N, x ∈ SL) (hd : decode bytes pc = .ok (.lreturn, 1)) (hc : kc ≤ R.cells) (hs : ks ≤ R.slots) (hQ : Q (some (.long z)) h N) : Go l Z y bytes mx rt R EL n0 w Q h kc ks SL pc L (.long z :: S) :=
  Go.out (v := some (.long z)) (fun q => by rw [hr] at q; cases q) N hN hQ hc hs (fun hx hby hrt X fs hl => RoadKit.retOut X hx (hrt.trans hr) rfl (Or.inr (Or.inl ⟨rfl, rfl, _, rfl⟩)) (hb hby hd) hl)
theorem narrow_ref {t : FieldType} {v : Value} (ht : t.isReference = true) : narrow t v = v := by cases t <;> cases v <;> simp_all [FieldType.isReference, narrow]
theorem fits_r {t : FieldType} {v : Value} (ht : t.isReference = true) (hv : v.isRef = true) : fits t v = true := by cases t <;> cases v <;> simp_all [FieldType.isReference, fits, Value.isRef]
theorem Go.retA {t : FieldType} {v : Value} (hr : rt = some t) (ht : t.isReference = true) (hv : v.isRef = true) (N : List Addr) (hN : ∀ x ∈ N, x ∈ SL) (hd : decode bytes pc = .ok (.areturn, 1)) (hc : kc ≤ R.cells) (hs : ks ≤ R.slots) (hQ : Q (some v) h N) : Go l Z y bytes mx rt R EL n0 w Q h kc ks SL pc L (v :: S) :=
  Go.out (v := some v) (fun q => by rw [hr] at q; cases q) N hN hQ hc hs (fun hx hby hrt X fs hl => RoadKit.retOut X hx (hrt.trans hr) (narrow_ref ht) (Or.inr (Or.inr (Or.inr (Or.inr ⟨rfl, ht, hv⟩)))) (hb hby hd) hl)
/-! arrays -/
theorem Go.alen {a : Addr} {cl : Cell} {ty : FieldType} {n : Int32} (hd : decode bytes pc = .ok (.arraylength, 1)) (A : Arr Z h a cl ty) (hn : cl.slots.size.toInt32 = n) (q : pc + 1 = pc') (K : Go l Z y bytes mx rt R EL n0 w Q h kc ks SL pc' L (.int n :: S)) : Go l Z y bytes mx rt R EL n0 w Q h kc ks SL pc L (.ref a :: S) :=
  Go.st1 q (fun X e1 hx hby hZ hown t kk => X.arraylength hx (cell := cl) (ty := ty) (e1.symm ▸ A.1) (State.isArrayOf_alike hZ.alike A.2.1) (g := mkF _ pc L (.ref a :: S)) rfl rfl (hb hby hd) t (hn.symm ▸ kk)) K
theorem Go.aaload {a : Addr} {cl : Cell} {ty : FieldType} {j : Int32} {v : Value} (hd : decode bytes pc = .ok (.aaload, 1)) (A : Arr Z h a cl ty) (hty : ty.isReference = true) (hin : ¬ (j < 0 ∨ cl.slots.size ≤ j.toNatClampNeg)) (hv : cl.slots[j.toNatClampNeg]? = some v) (q : pc + 1 = pc') (K : Go l Z y bytes mx rt R EL n0 w Q h kc ks SL pc' L (v :: S)) : Go l Z y bytes mx rt R EL n0 w Q h kc ks SL pc L (.int j :: .ref a :: S) :=
  Go.st1 q (fun X e1 hx hby hZ hown t kk => X.aaload hx (cell := cl) (e1.symm ▸ A.1) (State.isArrayOf_alike hZ.alike A.2.1) hty A.2.2 hin hv (g := mkF _ pc L (.int j :: .ref a :: S)) rfl rfl (hb hby hd) t kk) K
theorem Go.iaload {a : Addr} {cl : Cell} {j : Int32} {v : Value} (hd : decode bytes pc = .ok (.iaload, 1)) (A : Arr Z h a cl .int) (hin : ¬ (j < 0 ∨ cl.slots.size ≤ j.toNatClampNeg)) (hv : cl.slots[j.toNatClampNeg]? = some v) (q : pc + 1 = pc') (K : Go l Z y bytes mx rt R EL n0 w Q h kc ks SL pc' L (v :: S)) : Go l Z y bytes mx rt R EL n0 w Q h kc ks SL pc L (.int j :: .ref a :: S) :=
  Go.st1 q (fun X e1 hx hby hZ hown t kk => X.iaload hx (cell := cl) (e1.symm ▸ A.1) (State.isArrayOf_alike hZ.alike A.2.1) A.2.2 hin hv (g := mkF _ pc L (.int j :: .ref a :: S)) rfl rfl (hb hby hd) t kk) K
theorem Go.baload {a : Addr} {cl : Cell} {j : Int32} {v : Value} (hd : decode bytes pc = .ok (.baload, 1)) (A : Arr Z h a cl .byte) (hin : ¬ (j < 0 ∨ cl.slots.size ≤ j.toNatClampNeg)) (hv : cl.slots[j.toNatClampNeg]? = some v) (q : pc + 1 = pc') (K : Go l Z y bytes mx rt R EL n0 w Q h kc ks SL pc' L (v :: S)) : Go l Z y bytes mx rt R EL n0 w Q h kc ks SL pc L (.int j :: .ref a :: S) :=
  Go.st1 q (fun X e1 hx hby hZ hown t kk => X.baloadBytes hx (cell := cl) (e1.symm ▸ A.1) (State.isArrayOf_alike hZ.alike A.2.1) A.2.2 hin hv (g := mkF _ pc L (.int j :: .ref a :: S)) rfl rfl (hb hby hd) t kk) K
theorem Go.caload {a : Addr} {cl : Cell} {j : Int32} {v : Value} (hd : decode bytes pc = .ok (.caload, 1)) (A : Arr Z h a cl .char) (hin : ¬ (j < 0 ∨ cl.slots.size ≤ j.toNatClampNeg)) (hv : cl.slots[j.toNatClampNeg]? = some v) (q : pc + 1 = pc') (K : Go l Z y bytes mx rt R EL n0 w Q h kc ks SL pc' L (v :: S)) : Go l Z y bytes mx rt R EL n0 w Q h kc ks SL pc L (.int j :: .ref a :: S) :=
  Go.st1 q (fun X e1 hx hby hZ hown t kk => X.caload hx (cell := cl) (e1.symm ▸ A.1) (State.isArrayOf_alike hZ.alike A.2.1) A.2.2 hin hv (g := mkF _ pc L (.int j :: .ref a :: S)) rfl rfl (hb hby hd) t kk) K
theorem Go.castore {a : Addr} {cl : Cell} {j x : Int32} (hd : decode bytes pc = .ok (.castore, 1)) (A : Arr Z h a cl .char) (hin : ¬ (j < 0 ∨ cl.slots.size ≤ j.toNatClampNeg)) (ha : n0 ≤ a) (q : pc + 1 = pc')
    (K : ∀ h', Wr h h' a j.toNatClampNeg (.int (nar .char x)) → Go l Z y bytes mx rt R EL n0 w Q h' kc ks SL pc' L S) : Go l Z y bytes mx rt R EL n0 w Q h kc ks SL pc L (.int x :: .int j :: .ref a :: S) := by
  intro p e s m args below meth c T W
  subst q
  have W0 := W
  obtain ⟨⟨hx, hby, -⟩, k0, locs, X, e1, -, -, hZ, hown, hC, N, -, hSf⟩ := W
  obtain ⟨T', h', X', e', Wr', st⟩ := RoadKit.stC X hx hZ e1 A hin (g := mkF m pc L (.int x :: .int j :: .ref a :: S)) rfl rfl (hb hby hd)
  have B := CHr.wr Wr' (Safe.arr hZ.alike A (by decide)) hC.1
  obtain ⟨s₂, o, st2, r⟩ := K h' Wr' p e s m args below meth c T' (W0.next X' e' B (Fr.snoc X' N ha) (hSf.chr B))
  exact ⟨s₂, o, st _ st2, r⟩
theorem Go.bastore {a : Addr} {cl : Cell} {j x : Int32} (hd : decode bytes pc = .ok (.bastore, 1)) (A : Arr Z h a cl .byte) (hin : ¬ (j < 0 ∨ cl.slots.size ≤ j.toNatClampNeg)) (hsafe : Sf Z EL SL h a) (ha : n0 ≤ a) (q : pc + 1 = pc')
    (K : ∀ h', Wr h h' a j.toNatClampNeg (.int (nar .byte x)) → Go l Z y bytes mx rt R EL n0 w Q h' kc ks SL pc' L S) : Go l Z y bytes mx rt R EL n0 w Q h kc ks SL pc L (.int x :: .int j :: .ref a :: S) := by
  intro p e s m args below meth c T W
  subst q
  have W0 := W
  obtain ⟨⟨hx, hby, -⟩, k0, locs, X, e1, -, -, hZ, hown, hC, N, -, hSf⟩ := W
  obtain ⟨T', h', X', e', Wr', st⟩ := RoadKit.stB X hx hZ e1 A hin (g := mkF m pc L (.int x :: .int j :: .ref a :: S)) rfl rfl (hb hby hd)
  have B := CHr.wr Wr' (hsafe _ hZ hSf) hC.1
  obtain ⟨s₂, o, st2, r⟩ := K h' Wr' p e s m args below meth c T' (W0.next X' e' B (Fr.snoc X' N ha) (hSf.chr B))
  exact ⟨s₂, o, st _ st2, r⟩
/-- two roads that meet: the rest is walked once -/
theorem Go.cut {α : Type} (pcJ : Nat) (LJ : α → Array Slot) (SJ : α → List Value) (K : ∀ r, Go l Z y bytes mx rt R EL n0 w Q h kc ks SL pcJ (LJ r) (SJ r)) (K2 : (∀ r, Go l Z y bytes mx rt R EL n0 w Q h kc ks SL pcJ (LJ r) (SJ r)) → Go l Z y bytes mx rt R EL n0 w Q h kc ks SL pc L S) : Go l Z y bytes mx rt R EL n0 w Q h kc ks SL pc L S := K2 K
end Rules
end Jvm.GoKit
namespace Jvm.GoKit
open Sem ClassFile Op Lib Jvm.Stand Jvm.Free Jvm.LawKit Jvm.RoadKit
section RulesV
variable {l : Launch} {Z : State} {y : MethodName} {bytes : ByteArray} {mx : Nat} {rt : Option FieldType} {R : Room} {EL : List (String × Nat)} {n0 : Nat} {w : Bool} {Q : Option Value → Heap → List Addr → Prop} {h h' : Heap} {kc ks kc' ks' : Nat} {SL SL' : List Addr} {pc pc' pc'' : Nat} {L L' : Array Slot} {S S' : List Value} {a0 a1 : Array Value}
variable {a : Addr} {k : ClassId} {ty : FieldType} {n j x : Int32} {vs : List Value} {d v : Value}
theorem Go.alenV (hd : decode bytes pc = .ok (.arraylength, 1)) (F : Arv Z h a k ty n vs d) (q : pc + 1 = pc') (K : Go l Z y bytes mx rt R EL n0 w Q h kc ks SL pc' L (.int n :: S)) : Go l Z y bytes mx rt R EL n0 w Q h kc ks SL pc L (.ref a :: S) := by
  obtain ⟨c, A, -, s1, s2, -⟩ := F
  exact Go.alen hd A (len_of s1 s2) q K
theorem Go.baloadV (hd : decode bytes pc = .ok (.baload, 1)) (F : Arv Z h a k .byte n vs d) (hj : ¬ j < 0 ∧ j < n) (hv : vs.getD j.toNatClampNeg d = v) (q : pc + 1 = pc') (K : Go l Z y bytes mx rt R EL n0 w Q h kc ks SL pc' L (v :: S)) : Go l Z y bytes mx rt R EL n0 w Q h kc ks SL pc L (.int j :: .ref a :: S) := by
  obtain ⟨c, A, -, s1, s2, H, -⟩ := F
  exact Go.baload hd A (inb_of s1 hj) (H.at (inb_of s1 hj) hv) q K
theorem Go.caloadV (hd : decode bytes pc = .ok (.caload, 1)) (F : Arv Z h a k .char n vs d) (hj : ¬ j < 0 ∧ j < n) (hv : vs.getD j.toNatClampNeg d = v) (q : pc + 1 = pc') (K : Go l Z y bytes mx rt R EL n0 w Q h kc ks SL pc' L (v :: S)) : Go l Z y bytes mx rt R EL n0 w Q h kc ks SL pc L (.int j :: .ref a :: S) := by
  obtain ⟨c, A, -, s1, s2, H, -⟩ := F
  exact Go.caload hd A (inb_of s1 hj) (H.at (inb_of s1 hj) hv) q K
theorem Go.ialoadV (hd : decode bytes pc = .ok (.iaload, 1)) (F : Arv Z h a k .int n vs d) (hj : ¬ j < 0 ∧ j < n) (hv : vs.getD j.toNatClampNeg d = v) (q : pc + 1 = pc') (K : Go l Z y bytes mx rt R EL n0 w Q h kc ks SL pc' L (v :: S)) : Go l Z y bytes mx rt R EL n0 w Q h kc ks SL pc L (.int j :: .ref a :: S) := by
  obtain ⟨c, A, -, s1, s2, H, -⟩ := F
  exact Go.iaload hd A (inb_of s1 hj) (H.at (inb_of s1 hj) hv) q K
theorem Go.newPV {aty : ArrayType} (cap : Nat) (vs : List Value) (hd : decode bytes pc = .ok (.newarray aty, 2)) (wd : (Jvm.Cond.arrayClass (newarray.typeOf aty)).before a1 Z = true) (hn : ¬ n < 0) (hcap : n.toNatClampNeg ≤ cap) (hb' : cap * 8 ≤ 536870912) (hc : kc + 1 ≤ R.cells) (hl : ks + cap ≤ R.slots) (hvs : vs = List.replicate n.toNatClampNeg (defaultValue (newarray.typeOf aty))) (q : pc + 2 = pc')
    (K : ∀ (a : Addr) (h' : Heap) (cA : ClassId), a = h.size → Ext h h' → Arv Z h' a cA (newarray.typeOf aty) n vs (defaultValue (newarray.typeOf aty)) → Go l Z y bytes mx rt R EL n0 w Q h' (kc + 1) (ks + cap) (a :: SL) pc' L (.ref a :: S)) : Go l Z y bytes mx rt R EL n0 w Q h kc ks SL pc L (.int n :: S) :=
  Go.newP cap hd wd hn hcap hb' hc hl q (fun a h' cA e E A => K a h' cA e E ((Arv.new A hn).pad (by rw [hvs, ← List.nil_append (List.replicate _ _)]; exact pad_rep _ _ _)))
theorem Go.castoreV (i : Nat) (hd : decode bytes pc = .ok (.castore, 1)) (F : Arv Z h a k .char n vs d) (hj : ¬ j < 0 ∧ j < n) (hi : j.toNatClampNeg = i) (hl : i < vs.length) (ha : n0 ≤ a) (q : pc + 1 = pc')
    (K : ∀ h', Wr h h' a j.toNatClampNeg (.int (nar .char x)) → Arv Z h' a k .char n (vs.set i (.int (nar .char x))) d → Go l Z y bytes mx rt R EL n0 w Q h' kc ks SL pc' L S) : Go l Z y bytes mx rt R EL n0 w Q h kc ks SL pc L (.int x :: .int j :: .ref a :: S) := by
  obtain ⟨c, A, q1, s1, s2, H, G⟩ := F
  exact Go.castore hd A (inb_of s1 hj) ha q (fun h' W => K h' W (Arv.set A q1 s1 s2 H G (fits_nar_char x) W i hi hl))
theorem fits_nar_byte (x : Int32) : fits .byte (.int (nar .byte x)) = true := by
  have h1 := Int8.toInt_lt x.toInt8
  have h2 := Int8.le_toInt x.toInt8
  have e : (x.toInt8.toInt32).toInt = x.toInt8.toInt := Int8.toInt_toInt32 _
  simp only [fits, nar, Bool.and_eq_true, decide_eq_true_eq, Int32.le_iff_toInt_le]
  rw [e]
  first
    | exact ⟨by have : ((-128 : Int32)).toInt = -128 := by decide
                omega, by have : ((127 : Int32)).toInt = 127 := by decide
                          omega⟩
    | omega
theorem Go.bastoreV (i : Nat) (hd : decode bytes pc = .ok (.bastore, 1)) (F : Arv Z h a k .byte n vs d) (hj : ¬ j < 0 ∧ j < n) (hi : j.toNatClampNeg = i) (hl : i < vs.length) (hsafe : Sf Z EL SL h a) (ha : n0 ≤ a) (q : pc + 1 = pc')
    (K : ∀ h', Wr h h' a j.toNatClampNeg (.int (nar .byte x)) → Arv Z h' a k .byte n (vs.set i (.int (nar .byte x))) d → Go l Z y bytes mx rt R EL n0 w Q h' kc ks SL pc' L S) : Go l Z y bytes mx rt R EL n0 w Q h kc ks SL pc L (.int x :: .int j :: .ref a :: S) := by
  obtain ⟨c, A, q1, s1, s2, H, G⟩ := F
  exact Go.bastore hd A (inb_of s1 hj) hsafe ha q (fun h' W => K h' W (Arv.set A q1 s1 s2 H G (fits_nar_byte x) W i hi hl))
theorem Go.cast {K0 : String} {index : Nat} (hd : decode bytes pc = .ok (.checkcast index, 3)) (wd : (Jvm.Cond.classLink y.cls index K0).before a1 Z = true) (F : Ins Z h a K0 true) (q : pc + 3 = pc') (K : Go l Z y bytes mx rt R EL n0 w Q h kc ks SL pc' L (.ref a :: S)) : Go l Z y bytes mx rt R EL n0 w Q h kc ks SL pc L (.ref a :: S) := by
  intro p e s m args below meth c T W
  subst q
  have W0 := W
  obtain ⟨⟨hx, hby, -⟩, k0, locs, X, e1, -, -, hZ, hown, hC, N, -, hSf⟩ := W
  obtain ⟨T', X', e', st⟩ := RoadKit.castY X hx hZ hown wd e1 F (g := mkF m pc L (.ref a :: S)) rfl rfl (hb hby hd)
  obtain ⟨s₂, o, st2, r⟩ := K p e s m args below meth c T' (W0.next X' e' (CHr.refl hC.1) N hSf)
  exact ⟨s₂, o, st _ st2, r⟩
theorem Go.inst {K0 : String} {index : Nat} (hd : decode bytes pc = .ok (.instanceof index, 3)) (wd : (Jvm.Cond.classLink y.cls index K0).before a1 Z = true) (F : Ins Z h a K0 true) (q : pc + 3 = pc') (K : Go l Z y bytes mx rt R EL n0 w Q h kc ks SL pc' L (.int 1 :: S)) : Go l Z y bytes mx rt R EL n0 w Q h kc ks SL pc L (.ref a :: S) := by
  intro p e s m args below meth c T W
  subst q
  have W0 := W
  obtain ⟨⟨hx, hby, -⟩, k0, locs, X, e1, -, -, hZ, hown, hC, N, -, hSf⟩ := W
  obtain ⟨T', X', e', st⟩ := RoadKit.instY X hx hZ hown wd e1 F (g := mkF m pc L (.ref a :: S)) rfl rfl (hb hby hd)
  obtain ⟨s₂, o, st2, r⟩ := K p e s m args below meth c T' (W0.next X' e' (CHr.refl hC.1) N hSf)
  exact ⟨s₂, o, st _ st2, r⟩
theorem Go.acopy {index : Nat} {b : Addr} {k' : ClassId} {z z' sp dp nn : Int32} {vd us : List Value} {dv dd : Value} (hd : decode bytes pc = .ok (.invokestatic index, 3)) (w1 : (Jvm.Cond.methodLink y.cls index Jvm.Stand.acN).before a1 Z = true) (w2 : (Jvm.Cond.native Jvm.Stand.acN).before a1 Z = true) (w3 : (Jvm.Cond.static Jvm.Stand.acN).before a1 Z = true) (w4 : (Jvm.Cond.initialized "java/lang/System").before a1 Z = true)
    (A : Arv Z h a k ty z vs dv) (B : Arv Z h b k' ty z' vd dd) (hty : refKind ty = false) (h1 : ¬ sp < 0) (h2 : ¬ dp < 0) (h3 : ¬ nn < 0) (h4 : sp.toNatClampNeg + nn.toNatClampNeg ≤ z.toNatClampNeg) (h5 : dp.toNatClampNeg + nn.toNatClampNeg ≤ z'.toNatClampNeg) (hus : us = (List.range nn.toNatClampNeg).map fun i => vs.getD (sp.toNatClampNeg + i) dv) (hl : dp.toNatClampNeg + nn.toNatClampNeg ≤ vd.length)
    (hsafe : Sf Z EL SL h b) (ge : n0 ≤ b) (hL : L.size = mx) (hf : 1 ≤ R.frames) (Wd : Nat) (hW : (S.map fun v => v.category).sum = Wd) (hlo : Wd + (nativeFrameWords "java/lang/System" "arraycopy" 5 + 11) ≤ R.locals) (q : pc + 3 = pc')
    (K : ∀ h', Keep h h' [b] → Arv Z h' b k' ty z' (vd.take dp.toNatClampNeg ++ us ++ vd.drop (dp.toNatClampNeg + nn.toNatClampNeg)) dd → Go l Z y bytes mx rt R EL n0 w Q h' kc ks SL pc' L S) : Go l Z y bytes mx rt R EL n0 w Q h kc ks SL pc L (.int nn :: .int dp :: .ref b :: .int sp :: .ref a :: S) := by
  intro p e s m args below meth c T W
  subst q
  have W0 := W
  obtain ⟨⟨hx, hby, hml, -⟩, k0, locs, X, e1, -, -, hZ, hown, hC, N, -, hSf⟩ := W
  obtain ⟨T', h', L', X', e', N', Kp, A', st⟩ := RoadKit.cpA X hx hZ hown w1 w2 w3 w4 e1 A B (Or.inl ⟨rfl, hty⟩) h1 h2 h3 h4 h5 hus hl N ge (g := mkF m pc L (.int nn :: .int dp :: .ref b :: .int sp :: .ref a :: S)) rfl (hL.trans hml.symm) rfl (hb hby hd) hf (W := Wd) (by show 2 * 0 + _ ≤ _; omega) hlo
  have Bk := CHr.keep (vm := T.vm) Kp (fun x hx' => by cases List.mem_singleton.mp hx'; exact hsafe _ hZ hSf) hC.1
  obtain ⟨s₂, o, st2, r⟩ := K h' Kp A' p e s m args below meth c T' (W0.next X' e' Bk N' (hSf.chr Bk))
  exact ⟨s₂, o, st _ st2, r⟩
/-- a loop: the head is reached again with a smaller measure -/
theorem Go.ind {α : Type} (μ : α → Nat) (P : α → Prop) (hJ : α → Heap) (LJ : α → Array Slot) (SJ : α → List Value) (step : ∀ x, P x → (∀ x', μ x' < μ x → P x' → Go l Z y bytes mx rt R EL n0 w Q (hJ x') kc ks SL pc (LJ x') (SJ x')) → Go l Z y bytes mx rt R EL n0 w Q (hJ x) kc ks SL pc (LJ x) (SJ x)) (x : α) (hx : P x) (e1 : h = hJ x) (e2 : L = LJ x) (e3 : S = SJ x) : Go l Z y bytes mx rt R EL n0 w Q h kc ks SL pc L S := by
  have key : ∀ n x, μ x < n → P x → Go l Z y bytes mx rt R EL n0 w Q (hJ x) kc ks SL pc (LJ x) (SJ x) := by
    intro n
    induction n with
    | zero => intro x q; exact absurd q (Nat.not_lt_zero _)
    | succ n ih => intro x q hP; exact step x hP (fun x' q' hP' => ih x' (by omega) hP')
  subst e1 e2 e3
  exact key _ x (Nat.lt_succ_self _) hx
theorem shr0 (n : Int32) : n >>> ((0 : Int32) &&& 31) = n := by
  have e : (0 : Int32) &&& 31 = 0 := by decide
  rw [e]; simp
theorem nar_i2b (x : Int32) : nar .byte (x.toInt8.toInt32) = x.toInt8.toInt32 := by simp [nar]
theorem ofN_lt {i n : Nat} (hi : i < 2 ^ 31) (hn : n < 2 ^ 31) : (Int32.ofNat i < Int32.ofNat n) ↔ i < n := by
  rw [Int32.lt_iff_toInt_lt, Int32.toInt_ofNat_of_lt hi, Int32.toInt_ofNat_of_lt hn]; omega
theorem ofN_eq {i n : Nat} (hi : i < 2 ^ 31) (hn : n < 2 ^ 31) : (Int32.ofNat i = Int32.ofNat n) ↔ i = n := by
  rw [← Int32.toInt_inj, Int32.toInt_ofNat_of_lt hi, Int32.toInt_ofNat_of_lt hn]; omega
theorem ofN_nn {i : Nat} (hi : i < 2 ^ 31) : ¬ Int32.ofNat i < 0 := by
  rw [Int32.lt_iff_toInt_lt, Int32.toInt_ofNat_of_lt hi]
  have e : (0 : Int32).toInt = 0 := by decide
  omega
theorem ofN_nat {i : Nat} (hi : i < 2 ^ 31) : (Int32.ofNat i).toNatClampNeg = i := by
  have e : (Int32.ofNat i).toNatClampNeg = (Int32.ofNat i).toInt.toNat := rfl
  rw [e, Int32.toInt_ofNat_of_lt hi]; omega
theorem ofN_succ (i : Nat) : Int32.ofNat i + 1 = Int32.ofNat (i + 1) := by
  rw [Int32.ofNat_add]; rfl
end RulesV
end Jvm.GoKit
namespace Jvm.GoKit
open Sem ClassFile Op Lib Jvm.Stand Jvm.Free Jvm.LawKit Jvm.RoadKit
section RulesW
variable {l : Launch} {Z : State} {y : MethodName} {bytes : ByteArray} {mx : Nat} {rt : Option FieldType} {R : Room} {EL : List (String × Nat)} {n0 : Nat} {w : Bool} {Q : Option Value → Heap → List Addr → Prop} {h h' : Heap} {kc ks kc' ks' : Nat} {SL SL' : List Addr} {pc pc' pc'' : Nat} {L L' : Array Slot} {S S' : List Value} {a0 a1 : Array Value}
/-- two roads that meet, with what is known there -/
theorem Go.cutP {P : Prop} (pcJ : Nat) (LJ : Array Slot) (SJ : List Value) (K : P → Go l Z y bytes mx rt R EL n0 w Q h kc ks SL pcJ LJ SJ) (K2 : (P → Go l Z y bytes mx rt R EL n0 w Q h kc ks SL pcJ LJ SJ) → Go l Z y bytes mx rt R EL n0 w Q h kc ks SL pc L S) : Go l Z y bytes mx rt R EL n0 w Q h kc ks SL pc L S := K2 K
theorem Ct.post {Q' : Option Value → Heap → List Addr → Prop} {ws : List Jvm.Cond} {as' : Array Value} {h0 : Heap} (q : ∀ v h N, Q v h N → Q' v h N) (hM : Ct l Z y bytes mx rt R EL n0 w ws as' h0 SL Q) : Ct l Z y bytes mx rt R EL n0 w ws as' h0 SL Q' := by
  intro p e ha hc hk s m args below hf happ hP hK
  obtain ⟨n, o, h1, h2, h3, v, Ls, N, e1, e2, r⟩ := hM p e ha hc hk s m args below hf happ hP hK
  exact ⟨n, o, h1, h2, h3, v, Ls, N, e1, q _ _ _ e2, r⟩
/-- fewer cells used than said -/
theorem Go.more (hk : kc ≤ kc') (hs : ks ≤ ks') (K : Go l Z y bytes mx rt R EL n0 w Q h kc' ks' SL pc L S) : Go l Z y bytes mx rt R EL n0 w Q h kc ks SL pc L S := fun p e s m args below meth c T W => by
  obtain ⟨A, k0, locs, X, r⟩ := W
  exact K p e s m args below meth c T ⟨A, k0, locs, X.more hk hs, r⟩
/-- a loop that makes cells -/
theorem Go.indK {α : Type} (μ : α → Nat) (P : α → Prop) (hJ : α → Heap) (kJ sJ : α → Nat) (LJ : α → Array Slot) (SJ : α → List Value) (step : ∀ x, P x → (∀ x', μ x' < μ x → P x' → Go l Z y bytes mx rt R EL n0 w Q (hJ x') (kJ x') (sJ x') SL pc (LJ x') (SJ x')) → Go l Z y bytes mx rt R EL n0 w Q (hJ x) (kJ x) (sJ x) SL pc (LJ x) (SJ x)) (x : α) (hx : P x) (e1 : h = hJ x) (ek : kc = kJ x) (es : ks = sJ x) (e2 : L = LJ x) (e3 : S = SJ x) : Go l Z y bytes mx rt R EL n0 w Q h kc ks SL pc L S := by
  have key : ∀ n x, μ x < n → P x → Go l Z y bytes mx rt R EL n0 w Q (hJ x) (kJ x) (sJ x) SL pc (LJ x) (SJ x) := by
    intro n
    induction n with
    | zero => intro x q; exact absurd q (Nat.not_lt_zero _)
    | succ n ih => intro x q hP; exact step x hP (fun x' q' hP' => ih x' (by omega) hP')
  subst e1 ek es e2 e3
  exact key _ x (Nat.lt_succ_self _) hx
end RulesW
end Jvm.GoKit
namespace Jvm.GoKit
open Jvm Jvm.RoadKit Jvm.Free
abbrev by8 (c : Int32) : Int32 := c.toInt8.toInt32
theorem nn_nat {c : Int32} (h0 : ¬ c < 0) : (c.toInt = c.toBitVec.toNat) := by
  rw [Int32.lt_iff_toInt_lt] at h0
  have e0 : (0 : Int32).toInt = 0 := by decide
  have h1 : c.toInt = c.toBitVec.toInt := rfl
  rw [BitVec.toInt_eq_toNat_cond] at h1
  have := c.toBitVec.isLt
  split at h1 <;> omega
theorem hi_bits {c : Int32} (h0 : ¬ c < 0) (h1 : ¬ 65535 < c) (i : Nat) (hi : 16 ≤ i) : c.toBitVec.getLsbD i = false := by
  have e := nn_nat h0
  rw [Int32.lt_iff_toInt_lt] at h1
  have e1 : (65535 : Int32).toInt = 65535 := by decide
  have hn : c.toBitVec.toNat < 2 ^ 16 := by omega
  show c.toBitVec.toNat.testBit i = false
  exact Nat.testBit_lt_two_pow (Nat.lt_of_lt_of_le hn (Nat.pow_le_pow_right (by decide) hi))
theorem shr1 {m : Nat} (h : m < 2 ^ 20) : Int32.ofNat (2 * m) >>> ((1 : Int32) &&& 31) = Int32.ofNat m := by
  have e : (1 : Int32) &&& 31 = 1 := by decide
  rw [e]
  apply Int32.toBitVec_inj.mp
  rw [Int32.toBitVec_shiftRight]
  have e2 : (1 : Int32).toBitVec.smod 32 = 1#32 := by decide
  rw [e2]
  apply BitVec.eq_of_toInt_eq
  show (BitVec.sshiftRight (Int32.ofNat (2 * m)).toBitVec 1).toInt = (Int32.ofNat m).toInt
  rw [BitVec.toInt_sshiftRight]
  show (Int32.ofNat (2 * m)).toInt >>> 1 = _
  rw [Int32.toInt_ofNat_of_lt (by omega), Int32.toInt_ofNat_of_lt (by omega)]
  rw [Int.shiftRight_eq_div_pow]
  omega
theorem shl1 {m : Nat} : Int32.ofNat m <<< ((1 : Int32) &&& 31) = Int32.ofNat (2 * m) := by
  have e : (1 : Int32) &&& 31 = 1 := by decide
  rw [e]
  apply Int32.toBitVec_inj.mp
  rw [Int32.toBitVec_shiftLeft]
  have e2 : (1 : Int32).toBitVec.smod 32 = 1#32 := by decide
  rw [e2]
  apply BitVec.eq_of_toNat_eq
  show ((BitVec.ofNat 32 m) <<< 1).toNat = (BitVec.ofNat 32 (2 * m)).toNat
  simp [BitVec.toNat_shiftLeft, Nat.shiftLeft_eq]
  omega
theorem gchar {c : Int32} (h0 : ¬ c < 0) (h1 : ¬ 65535 < c) : nar .char (((by8 (c >>> ((0 : Int32) &&& 31)) &&& 255) <<< ((0 : Int32) &&& 31)) ||| ((by8 (c >>> ((8 : Int32) &&& 31)) &&& 255) <<< ((8 : Int32) &&& 31))) = c := by
  have e0 : (0 : Int32) &&& 31 = 0 := by decide
  have e8 : (8 : Int32) &&& 31 = 8 := by decide
  rw [e0, e8]
  apply Int32.toBitVec_inj.mp
  apply BitVec.eq_of_getLsbD_eq
  intro i hi
  have z0 : (0 : Int32).toBitVec.smod 32 = 0#32 := by decide
  have z8 : (8 : Int32).toBitVec.smod 32 = 8#32 := by decide
  have m255 : (255 : Int32).toBitVec = 255#32 := by decide
  have hb : ∀ j, 16 ≤ j → c.toBitVec.getLsbD j = false := fun j hj => hi_bits h0 h1 j hj
  show ((BitVec.setWidth 32 (BitVec.setWidth 16 (Int32.toBitVec _)))).getLsbD i = _
  simp only [Int32.toBitVec_or, Int32.toBitVec_and, Int32.toBitVec_shiftLeft, Int32.toBitVec_shiftRight, Int8.toBitVec_toInt32, Int32.toBitVec_toInt8, z0, z8, m255]
  have hm : ∀ j, (255#32).getLsbD j = decide (j < 8) := by
    intro j
    by_cases q : j < 32
    · have := (show ∀ j : Fin 32, (255#32).getLsbD j.val = decide (j.val < 8) by decide) ⟨j, q⟩
      exact this
    · rw [BitVec.getLsbD_of_ge _ _ (by omega)]; simp; omega
  simp only [BitVec.getLsbD_setWidth, BitVec.getLsbD_or, BitVec.getLsbD_and, BitVec.getLsbD_shiftLeft, BitVec.getLsbD_signExtend, BitVec.sshiftRight', BitVec.getLsbD_sshiftRight, BitVec.shiftLeft_eq', hm, BitVec.toNat_ofNat]
  by_cases q8 : i < 8
  · simp [q8, hi, show i < 16 by omega, show i < 32 by omega]
  · by_cases q16 : i < 16
    · simp [q8, q16, hi, show i - 8 < 8 by omega, show i - 8 < 32 by omega, show 8 + (i - 8) = i by omega, show ¬ 32 ≤ i - 8 by omega]
    · simp [q8, q16, hb i (by omega)]
theorem lchar {c : Int32} (h0 : ¬ c < 0) (h1 : ¬ 255 < c) : nar .char (by8 c &&& 255) = c := by
  have e := nn_nat h0
  rw [Int32.lt_iff_toInt_lt] at h1
  have e1 : (255 : Int32).toInt = 255 := by decide
  have hb : ∀ j, 8 ≤ j → c.toBitVec.getLsbD j = false := fun j hj => by
    show c.toBitVec.toNat.testBit j = false
    exact Nat.testBit_lt_two_pow (Nat.lt_of_lt_of_le (show c.toBitVec.toNat < 2 ^ 8 by omega) (Nat.pow_le_pow_right (by decide) hj))
  have m255 : (255 : Int32).toBitVec = 255#32 := by decide
  apply Int32.toBitVec_inj.mp
  apply BitVec.eq_of_getLsbD_eq
  intro i hi
  show ((BitVec.setWidth 32 (BitVec.setWidth 16 (Int32.toBitVec _)))).getLsbD i = _
  simp only [Int32.toBitVec_and, Int8.toBitVec_toInt32, Int32.toBitVec_toInt8, m255]
  have hm : ∀ j, (255#32).getLsbD j = decide (j < 8) := by
    intro j
    by_cases q : j < 32
    · exact (show ∀ j : Fin 32, (255#32).getLsbD j.val = decide (j.val < 8) by decide) ⟨j, q⟩
    · rw [BitVec.getLsbD_of_ge _ _ (by omega)]; simp; omega
  simp only [BitVec.getLsbD_setWidth, BitVec.getLsbD_and, BitVec.getLsbD_signExtend, hm]
  by_cases q8 : i < 8
  · simp [q8, hi, show i < 16 by omega]
  · simp [q8, hb i (by omega)]
theorem by8_eq {c : Int32} {v : Int32} (h0 : ¬ c < 0) (h1 : ¬ 255 < c) (hv0 : ¬ v < 0) (hv1 : ¬ 127 < v) : (v = c.toInt8.toInt32) ↔ c = v := by
  rw [Int32.lt_iff_toInt_lt] at h0 h1 hv0 hv1
  have e0 : (0 : Int32).toInt = 0 := by decide
  have e1 : (255 : Int32).toInt = 255 := by decide
  have e2 : (127 : Int32).toInt = 127 := by decide
  rw [← Int32.toInt_inj, ← Int32.toInt_inj, Int8.toInt_toInt32, Int32.toInt_toInt8]
  simp only [Int.bmod]
  omega
theorem nar_cc (x : Int32) : nar .char (nar .char x) = nar .char x := by
  apply Int32.toBitVec_inj.mp
  show BitVec.setWidth 32 (BitVec.setWidth 16 (BitVec.setWidth 32 (BitVec.setWidth 16 x.toBitVec))) = BitVec.setWidth 32 (BitVec.setWidth 16 x.toBitVec)
  congr 1
  apply BitVec.eq_of_toNat_eq
  simp [BitVec.toNat_setWidth]
theorem nar_rng (x : Int32) : ¬ nar .char x < 0 ∧ ¬ 65535 < nar .char x := by
  have hn : (nar .char x).toBitVec.toNat < 65536 := by
    show (BitVec.setWidth 32 (BitVec.setWidth 16 x.toBitVec)).toNat < 65536
    simp [BitVec.toNat_setWidth]
    omega
  have hi : (nar .char x).toInt = (nar .char x).toBitVec.toNat := by
    show (nar .char x).toBitVec.toInt = _
    rw [BitVec.toInt_eq_toNat_of_lt (by omega)]
  have e0 : (0 : Int32).toInt = 0 := by decide
  have e1 : (65535 : Int32).toInt = 65535 := by decide
  rw [Int32.lt_iff_toInt_lt, Int32.lt_iff_toInt_lt, hi, e0, e1]
  omega
end Jvm.GoKit
namespace Jvm.Pilot.@@N@@
open Jvm Jvm.ClassFile Sem Op Lib Jvm.Free Jvm.Stand Jvm.LawKit Jvm.RoadKit Jvm.GoKit Bundle Jvm.Pilot.@@N@@.Jvm.D
abbrev EL1 : List (String × Nat) := consts_1
theorem own_ew {Z : State} {a0 : Array Value} (hw : ∀ d ∈ tables_1, d.before a0 Z = true) : EW Z a0 EL1 := EW.cons (hw _ (List.mem_of_getElem? (i := 84) rfl)) (by decide) (EW.cons (hw _ (List.mem_of_getElem? (i := 21) rfl)) (by decide) (EW.nil))
theorem own_ws {Z : State} {a0 : Array Value} (hw : ∀ d ∈ tables_1, d.before a0 Z = true) : ∀ d ∈ Bundle.stringAtoms, d.before a0 Z = true := fun d hd => by
  simp only [Bundle.stringAtoms, List.mem_cons, List.not_mem_nil, or_false] at hd
  rcases hd with rfl | rfl | rfl | rfl | rfl | rfl | rfl
  · exact (hw _ (List.mem_of_getElem? (i := 10) rfl))
  · exact (hw _ (List.mem_of_getElem? (i := 9) rfl))
  · exact (hw _ (List.mem_of_getElem? (i := 22) rfl))
  · exact (hw _ (List.mem_of_getElem? (i := 23) rfl))
  · exact (hw _ (List.mem_of_getElem? (i := 24) rfl))
  · exact (hw _ (List.mem_of_getElem? (i := 25) rfl))
  · exact (hw _ (List.mem_of_getElem? (i := 26) rfl))
def own_u16 : List Int32 → List Int32
  | [] => []
  | c :: r => by8 (c >>> ((0 : Int32) &&& 31)) :: by8 (c >>> ((8 : Int32) &&& 31)) :: own_u16 r
theorem own_u16_len : ∀ cs : List Int32, (own_u16 cs).length = 2 * cs.length
  | [] => rfl
  | _ :: r => by show (own_u16 r).length + 1 + 1 = 2 * (r.length + 1); rw [own_u16_len r]; omega
theorem own_u16_0 : ∀ (cs : List Int32) (i : Nat), i < cs.length → (own_u16 cs).getD (2 * i) 0 = by8 (cs.getD i 0 >>> ((0 : Int32) &&& 31))
  | [], _, h => absurd h (Nat.not_lt_zero _)
  | _ :: _, 0, _ => rfl
  | c :: r, i + 1, h => by
    have := own_u16_0 r i (Nat.lt_of_succ_lt_succ h)
    rw [show 2 * (i + 1) = (2 * i) + 1 + 1 by omega]
    exact this
theorem own_u16_1 : ∀ (cs : List Int32) (i : Nat), i < cs.length → (own_u16 cs).getD (2 * i + 1) 0 = by8 (cs.getD i 0 >>> ((8 : Int32) &&& 31))
  | [], _, h => absurd h (Nat.not_lt_zero _)
  | _ :: _, 0, _ => rfl
  | c :: r, i + 1, h => by
    have := own_u16_1 r i (Nat.lt_of_succ_lt_succ h)
    rw [show 2 * (i + 1) + 1 = (2 * i + 1) + 1 + 1 by omega]
    exact this
/-- a String whose chars are cs, in either form -/
def Sx (Z : State) (h : Heap) (a : Addr) (cs : List Int32) : Prop :=
  Exa Z h a "java/lang/String" ∧ ∃ b k, Fld Z h a "java/lang/String" "value" "[B" (.ref b) ∧
    ((Fld Z h a "java/lang/String" "coder" "B" (.int (0 : Int32)) ∧ Arv Z h b k .byte (Int32.ofNat cs.length) ((cs.map by8).map Value.int) (.int 0) ∧ ∀ i, i < cs.length → ¬ 255 < cs.getD i 0) ∨
     (Fld Z h a "java/lang/String" "coder" "B" (.int (1 : Int32)) ∧ Arv Z h b k .byte (Int32.ofNat (2 * cs.length)) ((own_u16 cs).map Value.int) (.int 0)))
theorem Sx.ext {Z : State} {h h' : Heap} {a : Addr} {cs : List Int32} (S : Sx Z h a cs) (E : Ext h h') : Sx Z h' a cs := by
  obtain ⟨x, b, k, v, q⟩ := S
  refine ⟨x.ext E, b, k, v.ext E, ?_⟩
  rcases q with ⟨c, r, z⟩ | ⟨c, r⟩
  · exact Or.inl ⟨c.ext E, r.ext E, z⟩
  · exact Or.inr ⟨c.ext E, r.ext E⟩
theorem map_getD (cs : List Int32) (i : Nat) (h : i < cs.length) : (cs.map by8).getD i 0 = by8 (cs.getD i 0) := by
  simp [List.getD_eq_getElem?_getD, h]
theorem getD_int (l : List Int32) (i : Nat) : (l.map Value.int).getD i (.int 0) = .int (l.getD i 0) := by
  simp only [List.getD_eq_getElem?_getD, List.getElem?_map]; cases l[i]? <;> rfl
theorem list_ext0 {l1 l2 : List Int32} (hl : l1.length = l2.length) (h : ∀ j, j < l1.length → l1.getD j 0 = l2.getD j 0) : l1 = l2 := by
  apply List.ext_getElem hl
  intro j h1 h2
  have := h j h1
  simpa [List.getD_eq_getElem?_getD, h1, h2] using this
theorem pn_java_lang_StringUTF16 : plainName "java/lang/StringUTF16" = true := by first | (simp [plainName, overriddenIn]; done) | decide +kernel
theorem d_jdk_52_method_3_code_0 : decode jdk_52_method_3_code 0 = .ok (.iload_n 0, 1) := by decide +kernel
theorem d_jdk_52_method_3_code_1 : decode jdk_52_method_3_code 1 = .ok (.ifCond .ge 11, 3) := by decide +kernel
theorem d_jdk_52_method_3_code_12 : decode jdk_52_method_3_code 12 = .ok (.iload_n 0, 1) := by decide +kernel
theorem d_jdk_52_method_3_code_13 : decode jdk_52_method_3_code 13 = .ok (.ldc 20, 2) := by decide +kernel
theorem d_jdk_52_method_3_code_15 : decode jdk_52_method_3_code 15 = .ok (.if_icmp .lt 40, 3) := by decide +kernel
theorem d_jdk_52_method_3_code_55 : decode jdk_52_method_3_code 55 = .ok (.iload_n 0, 1) := by decide +kernel
theorem d_jdk_52_method_3_code_56 : decode jdk_52_method_3_code 56 = .ok (.iconst 1, 1) := by decide +kernel
theorem d_jdk_52_method_3_code_57 : decode jdk_52_method_3_code 57 = .ok (.ishl, 1) := by decide +kernel
theorem d_jdk_52_method_3_code_58 : decode jdk_52_method_3_code 58 = .ok (.ireturn, 1) := by decide +kernel
set_option maxRecDepth 65536 in
set_option maxHeartbeats 40000000 in
theorem ct_nbl (l : Launch) (Z : State) (a0 : Array Value) (hw : ∀ d ∈ tables_1, d.before a0 Z = true) (n0 : Nat) (h0 : Heap) (p1 : Int32) (h1 : ¬ p1 < 0) (h2 : p1 < 1073741823) :
    Ct l Z (⟨"java/lang/StringUTF16", "newBytesLength", "(I)I"⟩ : MethodName) jdk_52_method_3_code 1 (some .int) ({ frames := 0, cells := 0, slots := 0, locals := 0 } : Room) EL1 n0 true [] #[(.int p1)] h0 [] (fun v h N => h0 = h ∧ v = some (.int (p1 <<< ((1 : Int32) &&& 31)))) := by
  refine Ct.of (a0 := a0) (plainFor_of_name pn_java_lang_StringUTF16) (own_ew hw) (L0 := #[.val (.int p1)]) (fun m => by first | (simp [entryFrame, mkF, argsToLocals, Value.category]; done) | rfl) ?_
  refine Go.iloadN (pc' := 1) d_jdk_52_method_3_code_0 rfl rfl ?_
  refine Go.ifT (pc' := 12) d_jdk_52_method_3_code_1 (h1) (by decide) (by decide) ?_
  refine Go.iloadN (pc' := 13) d_jdk_52_method_3_code_12 rfl rfl ?_
  refine Go.ldcI (pc' := 15) (a1 := a0) d_jdk_52_method_3_code_13 (hw _ (List.mem_of_getElem? (i := 121) rfl)) rfl ?_
  refine Go.icmpT (pc' := 55) d_jdk_52_method_3_code_15 (h2) (by decide) (by decide) ?_
  refine Go.iloadN (pc' := 56) d_jdk_52_method_3_code_55 rfl rfl ?_
  refine Go.iconst (pc' := 57) 1 d_jdk_52_method_3_code_56 rfl rfl ?_
  refine Go.ishl (pc' := 58) d_jdk_52_method_3_code_57 rfl ?_
  refine Go.retI rfl [] (fun _ q => nomatch q) d_jdk_52_method_3_code_58 (by decide) (by decide) ?_
  exact ⟨rfl, rfl⟩
theorem d_jdk_52_method_2_code_0 : decode jdk_52_method_2_code 0 = .ok (.iload_n 0, 1) := by decide +kernel
theorem pd__28I_29I : parseMethodDescriptor "(I)I" = some ⟨[.int], (some .int)⟩ := by decide +kernel
theorem d_jdk_52_method_2_code_1 : decode jdk_52_method_2_code 1 = .ok (.invokestatic 11, 3) := by decide +kernel
theorem d_jdk_52_method_2_code_4 : decode jdk_52_method_2_code 4 = .ok (.newarray .byte, 2) := by decide +kernel
theorem d_jdk_52_method_2_code_6 : decode jdk_52_method_2_code 6 = .ok (.areturn, 1) := by decide +kernel
set_option maxRecDepth 65536 in
set_option maxHeartbeats 40000000 in
theorem ct_nbf_1 (l : Launch) (Z : State) (a0 : Array Value) (hw : ∀ d ∈ tables_1, d.before a0 Z = true) (n0 : Nat) (h0 : Heap) (hn0 : n0 ≤ h0.size) :
    Ct l Z (⟨"java/lang/StringUTF16", "newBytesFor", "(I)[B"⟩ : MethodName) jdk_52_method_2_code 1 (some (.array .byte)) ({ frames := 1, cells := 1, slots := 2, locals := 12 } : Room) EL1 n0 true [] #[(.int (1 : Int32))] h0 [] (fun v h N => ∃ a k, v = some (.ref a) ∧ N = [a] ∧ h0.size ≤ a ∧ a < h.size ∧ Keep h0 h [] ∧ Arv Z h a k .byte (2 : Int32) [(.int (0 : Int32)), (.int (0 : Int32))] (.int 0)) := by
  refine Ct.of (a0 := a0) (plainFor_of_name pn_java_lang_StringUTF16) (own_ew hw) (L0 := #[.val (.int (1 : Int32))]) (fun m => by first | (simp [entryFrame, mkF, argsToLocals, Value.category]; done) | rfl) ?_
  refine Go.iloadN (pc' := 1) d_jdk_52_method_2_code_0 rfl rfl ?_
  refine Go.callS (a1 := a0) (pc' := 4) (argsL := [(.int (1 : Int32))]) (rest := []) (ct_nbl l Z a0 hw n0 h0 (1 : Int32) (by decide) (by decide)) d_jdk_52_method_2_code_1 (hw _ (List.mem_of_getElem? (i := 118) rfl)) (hw _ (List.mem_of_getElem? (i := 119) rfl)) (hw _ (List.mem_of_getElem? (i := 41) rfl)) (hw _ (List.mem_of_getElem? (i := 120) rfl)) (by decide) (lenOf pd__28I_29I rfl) rfl 0 rfl rfl (by decide) (by decide) (by decide) (by decide) (fun _ q => nomatch q) rfl (fun v_1 h_2 N_3 hQ_4 hle_5 => ?_)
  obtain ⟨rfl, rfl⟩ := hQ_4
  refine Go.re (pc' := 4) (L' := #[.val (.int (1 : Int32))]) (S' := [(.int (2 : Int32))]) rfl rfl (congrArg (fun z => Value.int z :: _) (show (1 : Int32) <<< ((1 : Int32) &&& 31) = 2 by decide)) ?_
  refine Go.newPV (pc' := 6) (a1 := a0) 2 [(.int (0 : Int32)), (.int (0 : Int32))] d_jdk_52_method_2_code_4 (hw _ (List.mem_of_getElem? (i := 22) rfl)) (by decide) (by decide) (by decide) (by decide) (by decide) rfl rfl (fun a_6 h_7 cA_8 ha_9 E_10 A_11 => ?_)
  have szh_7 : h0.size ≤ h_7.size := E_10.1
  have lta_6 := nlt A_11.lt
  have qa_6 := neq ha_9
  have F_12 : Arv Z h_7 a_6 cA_8 .byte (2 : Int32) [(.int (0 : Int32)), (.int (0 : Int32))] (.int 0) := A_11
  refine Go.retA rfl rfl rfl [a_6] (by simp) d_jdk_52_method_2_code_6 (by decide) (by decide) ?_
  exact ⟨a_6, _, rfl, rfl, by omega, F_12.lt, (Keep.ext (Keep.refl _ []) E_10), F_12⟩
set_option maxRecDepth 65536 in
set_option maxHeartbeats 40000000 in
theorem ct_nbf_2 (l : Launch) (Z : State) (a0 : Array Value) (hw : ∀ d ∈ tables_1, d.before a0 Z = true) (n0 : Nat) (h0 : Heap) (hn0 : n0 ≤ h0.size) :
    Ct l Z (⟨"java/lang/StringUTF16", "newBytesFor", "(I)[B"⟩ : MethodName) jdk_52_method_2_code 1 (some (.array .byte)) ({ frames := 1, cells := 1, slots := 4, locals := 12 } : Room) EL1 n0 true [] #[(.int (2 : Int32))] h0 [] (fun v h N => ∃ a k, v = some (.ref a) ∧ N = [a] ∧ h0.size ≤ a ∧ a < h.size ∧ Keep h0 h [] ∧ Arv Z h a k .byte (4 : Int32) [(.int (0 : Int32)), (.int (0 : Int32)), (.int (0 : Int32)), (.int (0 : Int32))] (.int 0)) := by
  refine Ct.of (a0 := a0) (plainFor_of_name pn_java_lang_StringUTF16) (own_ew hw) (L0 := #[.val (.int (2 : Int32))]) (fun m => by first | (simp [entryFrame, mkF, argsToLocals, Value.category]; done) | rfl) ?_
  refine Go.iloadN (pc' := 1) d_jdk_52_method_2_code_0 rfl rfl ?_
  refine Go.callS (a1 := a0) (pc' := 4) (argsL := [(.int (2 : Int32))]) (rest := []) (ct_nbl l Z a0 hw n0 h0 (2 : Int32) (by decide) (by decide)) d_jdk_52_method_2_code_1 (hw _ (List.mem_of_getElem? (i := 118) rfl)) (hw _ (List.mem_of_getElem? (i := 119) rfl)) (hw _ (List.mem_of_getElem? (i := 41) rfl)) (hw _ (List.mem_of_getElem? (i := 120) rfl)) (by decide) (lenOf pd__28I_29I rfl) rfl 0 rfl rfl (by decide) (by decide) (by decide) (by decide) (fun _ q => nomatch q) rfl (fun v_1 h_2 N_3 hQ_4 hle_5 => ?_)
  obtain ⟨rfl, rfl⟩ := hQ_4
  refine Go.re (pc' := 4) (L' := #[.val (.int (2 : Int32))]) (S' := [(.int (4 : Int32))]) rfl rfl (congrArg (fun z => Value.int z :: _) (show (2 : Int32) <<< ((1 : Int32) &&& 31) = 4 by decide)) ?_
  refine Go.newPV (pc' := 6) (a1 := a0) 4 [(.int (0 : Int32)), (.int (0 : Int32)), (.int (0 : Int32)), (.int (0 : Int32))] d_jdk_52_method_2_code_4 (hw _ (List.mem_of_getElem? (i := 22) rfl)) (by decide) (by decide) (by decide) (by decide) (by decide) rfl rfl (fun a_6 h_7 cA_8 ha_9 E_10 A_11 => ?_)
  have szh_7 : h0.size ≤ h_7.size := E_10.1
  have lta_6 := nlt A_11.lt
  have qa_6 := neq ha_9
  have F_12 : Arv Z h_7 a_6 cA_8 .byte (4 : Int32) [(.int (0 : Int32)), (.int (0 : Int32)), (.int (0 : Int32)), (.int (0 : Int32))] (.int 0) := A_11
  refine Go.retA rfl rfl rfl [a_6] (by simp) d_jdk_52_method_2_code_6 (by decide) (by decide) ?_
  exact ⟨a_6, _, rfl, rfl, by omega, F_12.lt, (Keep.ext (Keep.refl _ []) E_10), F_12⟩
set_option maxRecDepth 65536 in
set_option maxHeartbeats 40000000 in
theorem ct_nbf_3 (l : Launch) (Z : State) (a0 : Array Value) (hw : ∀ d ∈ tables_1, d.before a0 Z = true) (n0 : Nat) (h0 : Heap) (hn0 : n0 ≤ h0.size) :
    Ct l Z (⟨"java/lang/StringUTF16", "newBytesFor", "(I)[B"⟩ : MethodName) jdk_52_method_2_code 1 (some (.array .byte)) ({ frames := 1, cells := 1, slots := 6, locals := 12 } : Room) EL1 n0 true [] #[(.int (3 : Int32))] h0 [] (fun v h N => ∃ a k, v = some (.ref a) ∧ N = [a] ∧ h0.size ≤ a ∧ a < h.size ∧ Keep h0 h [] ∧ Arv Z h a k .byte (6 : Int32) [(.int (0 : Int32)), (.int (0 : Int32)), (.int (0 : Int32)), (.int (0 : Int32)), (.int (0 : Int32)), (.int (0 : Int32))] (.int 0)) := by
  refine Ct.of (a0 := a0) (plainFor_of_name pn_java_lang_StringUTF16) (own_ew hw) (L0 := #[.val (.int (3 : Int32))]) (fun m => by first | (simp [entryFrame, mkF, argsToLocals, Value.category]; done) | rfl) ?_
  refine Go.iloadN (pc' := 1) d_jdk_52_method_2_code_0 rfl rfl ?_
  refine Go.callS (a1 := a0) (pc' := 4) (argsL := [(.int (3 : Int32))]) (rest := []) (ct_nbl l Z a0 hw n0 h0 (3 : Int32) (by decide) (by decide)) d_jdk_52_method_2_code_1 (hw _ (List.mem_of_getElem? (i := 118) rfl)) (hw _ (List.mem_of_getElem? (i := 119) rfl)) (hw _ (List.mem_of_getElem? (i := 41) rfl)) (hw _ (List.mem_of_getElem? (i := 120) rfl)) (by decide) (lenOf pd__28I_29I rfl) rfl 0 rfl rfl (by decide) (by decide) (by decide) (by decide) (fun _ q => nomatch q) rfl (fun v_1 h_2 N_3 hQ_4 hle_5 => ?_)
  obtain ⟨rfl, rfl⟩ := hQ_4
  refine Go.re (pc' := 4) (L' := #[.val (.int (3 : Int32))]) (S' := [(.int (6 : Int32))]) rfl rfl (congrArg (fun z => Value.int z :: _) (show (3 : Int32) <<< ((1 : Int32) &&& 31) = 6 by decide)) ?_
  refine Go.newPV (pc' := 6) (a1 := a0) 6 [(.int (0 : Int32)), (.int (0 : Int32)), (.int (0 : Int32)), (.int (0 : Int32)), (.int (0 : Int32)), (.int (0 : Int32))] d_jdk_52_method_2_code_4 (hw _ (List.mem_of_getElem? (i := 22) rfl)) (by decide) (by decide) (by decide) (by decide) (by decide) rfl rfl (fun a_6 h_7 cA_8 ha_9 E_10 A_11 => ?_)
  have szh_7 : h0.size ≤ h_7.size := E_10.1
  have lta_6 := nlt A_11.lt
  have qa_6 := neq ha_9
  have F_12 : Arv Z h_7 a_6 cA_8 .byte (6 : Int32) [(.int (0 : Int32)), (.int (0 : Int32)), (.int (0 : Int32)), (.int (0 : Int32)), (.int (0 : Int32)), (.int (0 : Int32))] (.int 0) := A_11
  refine Go.retA rfl rfl rfl [a_6] (by simp) d_jdk_52_method_2_code_6 (by decide) (by decide) ?_
  exact ⟨a_6, _, rfl, rfl, by omega, F_12.lt, (Keep.ext (Keep.refl _ []) E_10), F_12⟩
set_option maxRecDepth 65536 in
set_option maxHeartbeats 40000000 in
theorem ct_nbf_4 (l : Launch) (Z : State) (a0 : Array Value) (hw : ∀ d ∈ tables_1, d.before a0 Z = true) (n0 : Nat) (h0 : Heap) (hn0 : n0 ≤ h0.size) :
    Ct l Z (⟨"java/lang/StringUTF16", "newBytesFor", "(I)[B"⟩ : MethodName) jdk_52_method_2_code 1 (some (.array .byte)) ({ frames := 1, cells := 1, slots := 8, locals := 12 } : Room) EL1 n0 true [] #[(.int (4 : Int32))] h0 [] (fun v h N => ∃ a k, v = some (.ref a) ∧ N = [a] ∧ h0.size ≤ a ∧ a < h.size ∧ Keep h0 h [] ∧ Arv Z h a k .byte (8 : Int32) [(.int (0 : Int32)), (.int (0 : Int32)), (.int (0 : Int32)), (.int (0 : Int32)), (.int (0 : Int32)), (.int (0 : Int32)), (.int (0 : Int32)), (.int (0 : Int32))] (.int 0)) := by
  refine Ct.of (a0 := a0) (plainFor_of_name pn_java_lang_StringUTF16) (own_ew hw) (L0 := #[.val (.int (4 : Int32))]) (fun m => by first | (simp [entryFrame, mkF, argsToLocals, Value.category]; done) | rfl) ?_
  refine Go.iloadN (pc' := 1) d_jdk_52_method_2_code_0 rfl rfl ?_
  refine Go.callS (a1 := a0) (pc' := 4) (argsL := [(.int (4 : Int32))]) (rest := []) (ct_nbl l Z a0 hw n0 h0 (4 : Int32) (by decide) (by decide)) d_jdk_52_method_2_code_1 (hw _ (List.mem_of_getElem? (i := 118) rfl)) (hw _ (List.mem_of_getElem? (i := 119) rfl)) (hw _ (List.mem_of_getElem? (i := 41) rfl)) (hw _ (List.mem_of_getElem? (i := 120) rfl)) (by decide) (lenOf pd__28I_29I rfl) rfl 0 rfl rfl (by decide) (by decide) (by decide) (by decide) (fun _ q => nomatch q) rfl (fun v_1 h_2 N_3 hQ_4 hle_5 => ?_)
  obtain ⟨rfl, rfl⟩ := hQ_4
  refine Go.re (pc' := 4) (L' := #[.val (.int (4 : Int32))]) (S' := [(.int (8 : Int32))]) rfl rfl (congrArg (fun z => Value.int z :: _) (show (4 : Int32) <<< ((1 : Int32) &&& 31) = 8 by decide)) ?_
  refine Go.newPV (pc' := 6) (a1 := a0) 8 [(.int (0 : Int32)), (.int (0 : Int32)), (.int (0 : Int32)), (.int (0 : Int32)), (.int (0 : Int32)), (.int (0 : Int32)), (.int (0 : Int32)), (.int (0 : Int32))] d_jdk_52_method_2_code_4 (hw _ (List.mem_of_getElem? (i := 22) rfl)) (by decide) (by decide) (by decide) (by decide) (by decide) rfl rfl (fun a_6 h_7 cA_8 ha_9 E_10 A_11 => ?_)
  have szh_7 : h0.size ≤ h_7.size := E_10.1
  have lta_6 := nlt A_11.lt
  have qa_6 := neq ha_9
  have F_12 : Arv Z h_7 a_6 cA_8 .byte (8 : Int32) [(.int (0 : Int32)), (.int (0 : Int32)), (.int (0 : Int32)), (.int (0 : Int32)), (.int (0 : Int32)), (.int (0 : Int32)), (.int (0 : Int32)), (.int (0 : Int32))] (.int 0) := A_11
  refine Go.retA rfl rfl rfl [a_6] (by simp) d_jdk_52_method_2_code_6 (by decide) (by decide) ?_
  exact ⟨a_6, _, rfl, rfl, by omega, F_12.lt, (Keep.ext (Keep.refl _ []) E_10), F_12⟩
theorem d_jdk_52_method_4_code_0 : decode jdk_52_method_4_code 0 = .ok (.getstatic 44, 3) := by decide +kernel
theorem d_jdk_52_method_4_code_3 : decode jdk_52_method_4_code 3 = .ok (.ifCond .ne 25, 3) := by decide +kernel
theorem d_jdk_52_method_4_code_28 : decode jdk_52_method_4_code 28 = .ok (.iload_n 1, 1) := by decide +kernel
theorem d_jdk_52_method_4_code_29 : decode jdk_52_method_4_code 29 = .ok (.iconst 1, 1) := by decide +kernel
theorem d_jdk_52_method_4_code_30 : decode jdk_52_method_4_code 30 = .ok (.ishl, 1) := by decide +kernel
theorem d_jdk_52_method_4_code_31 : decode jdk_52_method_4_code 31 = .ok (.istore_n 1, 1) := by decide +kernel
theorem d_jdk_52_method_4_code_32 : decode jdk_52_method_4_code 32 = .ok (.aload_n 0, 1) := by decide +kernel
theorem d_jdk_52_method_4_code_33 : decode jdk_52_method_4_code 33 = .ok (.iload_n 1, 1) := by decide +kernel
theorem d_jdk_52_method_4_code_34 : decode jdk_52_method_4_code 34 = .ok (.iinc 1 1, 3) := by decide +kernel
theorem d_jdk_52_method_4_code_37 : decode jdk_52_method_4_code 37 = .ok (.iload_n 2, 1) := by decide +kernel
theorem d_jdk_52_method_4_code_38 : decode jdk_52_method_4_code 38 = .ok (.getstatic 59, 3) := by decide +kernel
theorem d_jdk_52_method_4_code_41 : decode jdk_52_method_4_code 41 = .ok (.ishr, 1) := by decide +kernel
theorem d_jdk_52_method_4_code_42 : decode jdk_52_method_4_code 42 = .ok (.i2b, 1) := by decide +kernel
theorem d_jdk_52_method_4_code_43 : decode jdk_52_method_4_code 43 = .ok (.bastore, 1) := by decide +kernel
theorem d_jdk_52_method_4_code_44 : decode jdk_52_method_4_code 44 = .ok (.aload_n 0, 1) := by decide +kernel
theorem d_jdk_52_method_4_code_45 : decode jdk_52_method_4_code 45 = .ok (.iload_n 1, 1) := by decide +kernel
theorem d_jdk_52_method_4_code_46 : decode jdk_52_method_4_code 46 = .ok (.iload_n 2, 1) := by decide +kernel
theorem d_jdk_52_method_4_code_47 : decode jdk_52_method_4_code 47 = .ok (.getstatic 63, 3) := by decide +kernel
theorem d_jdk_52_method_4_code_50 : decode jdk_52_method_4_code 50 = .ok (.ishr, 1) := by decide +kernel
theorem d_jdk_52_method_4_code_51 : decode jdk_52_method_4_code 51 = .ok (.i2b, 1) := by decide +kernel
theorem d_jdk_52_method_4_code_52 : decode jdk_52_method_4_code 52 = .ok (.bastore, 1) := by decide +kernel
theorem d_jdk_52_method_4_code_53 : decode jdk_52_method_4_code 53 = .ok (.return_, 1) := by decide +kernel
set_option maxRecDepth 65536 in
set_option maxHeartbeats 40000000 in
theorem ct_put (l : Launch) (Z : State) (a0 : Array Value) (hw : ∀ d ∈ tables_1, d.before a0 Z = true) (n0 : Nat) (h0 : Heap) (d : Addr) (kd : ClassId) (m i : Nat) (vs : List Value) (c : Int32) (AD : Arv Z h0 d kd .byte (Int32.ofNat m) vs (.int 0)) (hm : vs.length = m) (hi : 2 * i + 1 < m) (hm2 : m < 2 ^ 20) (ha : n0 ≤ d) (S_ad : Sta Z h0 "java/lang/StringUTF16" "$assertionsDisabled" "Z" (.int (1 : Int32))) (S_hi : Sta Z h0 "java/lang/StringUTF16" "HI_BYTE_SHIFT" "I" (.int (0 : Int32))) (S_lo : Sta Z h0 "java/lang/StringUTF16" "LO_BYTE_SHIFT" "I" (.int (8 : Int32))) :
    Ct l Z (⟨"java/lang/StringUTF16", "putChar", "([BII)V"⟩ : MethodName) jdk_52_method_4_code 3 none ({ frames := 0, cells := 0, slots := 0, locals := 0 } : Room) EL1 n0 true [] #[(.ref d), (.int (Int32.ofNat i)), (.int c)] h0 [d] (fun v h N => v = none ∧ Keep h0 h [d] ∧ Arv Z h d kd .byte (Int32.ofNat m) ((vs.set (2 * i) (.int (c >>> ((0 : Int32) &&& 31)).toInt8.toInt32)).set (2 * i + 1) (.int (c >>> ((8 : Int32) &&& 31)).toInt8.toInt32)) (.int 0)) := by
  refine Ct.of (a0 := a0) (plainFor_of_name pn_java_lang_StringUTF16) (own_ew hw) (L0 := #[.val (.ref d), .val (.int (Int32.ofNat i)), .val (.int c)]) (fun m => by first | (simp [entryFrame, mkF, argsToLocals, Value.category]; done) | rfl) ?_
  have l0_AD := nlt AD.lt
  refine Go.getS (pc' := 3) (host := "") (a1 := a0) d_jdk_52_method_4_code_0 (Or.inl (hw _ (List.mem_of_getElem? (i := 125) rfl))) Via.refl S_ad rfl ?_
  refine Go.ifT (pc' := 28) d_jdk_52_method_4_code_3 (show ¬ ((1 : Int32) = (0 : Int32)) by decide) (by decide) (by decide) ?_
  refine Go.iloadN (pc' := 29) d_jdk_52_method_4_code_28 rfl rfl ?_
  refine Go.iconst (pc' := 30) 1 d_jdk_52_method_4_code_29 rfl rfl ?_
  refine Go.ishl (pc' := 31) d_jdk_52_method_4_code_30 rfl ?_
  refine Go.re (pc' := 31) (L' := #[.val (.ref d), .val (.int (Int32.ofNat i)), .val (.int c)]) (S' := [.int (Int32.ofNat (2 * i))]) rfl rfl (by rw [shl1]) ?_
  refine Go.istoreN (pc' := 32) #[.val (.ref d), .val (.int (Int32.ofNat (2 * i))), .val (.int c)] d_jdk_52_method_4_code_31 rfl rfl ?_
  refine Go.aloadN (pc' := 33) d_jdk_52_method_4_code_32 rfl rfl rfl ?_
  refine Go.iloadN (pc' := 34) d_jdk_52_method_4_code_33 rfl rfl ?_
  refine Go.iinc (pc' := 37) (Int32.ofNat (2 * i + 1)) #[.val (.ref d), .val (.int (Int32.ofNat (2 * i + 1))), .val (.int c)] d_jdk_52_method_4_code_34 rfl (ofN_succ _) rfl rfl ?_
  refine Go.iloadN (pc' := 38) d_jdk_52_method_4_code_37 rfl rfl ?_
  refine Go.getS (pc' := 41) (host := "") (a1 := a0) d_jdk_52_method_4_code_38 (Or.inl (hw _ (List.mem_of_getElem? (i := 126) rfl))) Via.refl S_hi rfl ?_
  refine Go.ishr (pc' := 42) d_jdk_52_method_4_code_41 rfl ?_
  refine Go.i2b (pc' := 43) d_jdk_52_method_4_code_42 rfl ?_
  refine Go.bastoreV (pc' := 44) (2 * i) d_jdk_52_method_4_code_43 AD ⟨ofN_nn (by omega), (ofN_lt (by omega) (by omega)).mpr (by omega)⟩ (ofN_nat (by omega)) (by rw [hm]; omega) (Sf.mem (by simp)) ha rfl (fun h_1 W_2 A_3 => ?_)
  have szh_1 : h_1.size = h0.size := Wr.size W_2
  have F_4 : Arv Z h_1 d kd .byte (Int32.ofNat m) (vs.set (2 * i) (.int ((c >>> ((0 : Int32) &&& 31))).toInt8.toInt32)) (.int 0) := by have q := A_3; rw [nar_i2b] at q; exact q
  refine Go.aloadN (pc' := 45) d_jdk_52_method_4_code_44 rfl rfl rfl ?_
  refine Go.iloadN (pc' := 46) d_jdk_52_method_4_code_45 rfl rfl ?_
  refine Go.iloadN (pc' := 47) d_jdk_52_method_4_code_46 rfl rfl ?_
  have F_5 : Sta Z h_1 "java/lang/StringUTF16" "LO_BYTE_SHIFT" "I" (.int (8 : Int32)) := (Sta.wr W_2 S_lo)
  refine Go.getS (pc' := 50) (host := "") (a1 := a0) d_jdk_52_method_4_code_47 (Or.inl (hw _ (List.mem_of_getElem? (i := 127) rfl))) Via.refl F_5 rfl ?_
  refine Go.ishr (pc' := 51) d_jdk_52_method_4_code_50 rfl ?_
  refine Go.i2b (pc' := 52) d_jdk_52_method_4_code_51 rfl ?_
  refine Go.bastoreV (pc' := 53) (2 * i + 1) d_jdk_52_method_4_code_52 F_4 ⟨ofN_nn (by omega), (ofN_lt (by omega) (by omega)).mpr (by omega)⟩ (ofN_nat (by omega)) (by rw [List.length_set]; rw [hm]; omega) (Sf.mem (by simp)) ha rfl (fun h_6 W_7 A_8 => ?_)
  have szh_6 : h_6.size = h_1.size := Wr.size W_7
  have F_9 : Arv Z h_6 d kd .byte (Int32.ofNat m) ((vs.set (2 * i) (.int ((c >>> ((0 : Int32) &&& 31))).toInt8.toInt32)).set (2 * i + 1) (.int ((c >>> ((8 : Int32) &&& 31))).toInt8.toInt32)) (.int 0) := by have q := A_8; rw [nar_i2b] at q; exact q
  refine Go.ret0 rfl [] (fun _ q => nomatch q) d_jdk_52_method_4_code_53 (by decide) (by decide) ?_
  exact ⟨rfl, (Keep.wr (Keep.wr (Keep.refl _ [d]) W_2 (Or.inl (by simp))) W_7 (Or.inl (by simp))), F_9⟩
theorem d_jdk_52_method_14_code_0 : decode jdk_52_method_14_code 0 = .ok (.iload_n 2, 1) := by decide +kernel
theorem pd__28I_29_5bB : parseMethodDescriptor "(I)[B" = some ⟨[.int], (some (.array .byte))⟩ := by decide +kernel
theorem d_jdk_52_method_14_code_1 : decode jdk_52_method_14_code 1 = .ok (.invokestatic 107, 3) := by decide +kernel
theorem d_jdk_52_method_14_code_4 : decode jdk_52_method_14_code 4 = .ok (.astore_n 3, 1) := by decide +kernel
theorem d_jdk_52_method_14_code_5 : decode jdk_52_method_14_code 5 = .ok (.iconst 0, 1) := by decide +kernel
theorem d_jdk_52_method_14_code_6 : decode jdk_52_method_14_code 6 = .ok (.istore 4, 2) := by decide +kernel
theorem d_jdk_52_method_14_code_8 : decode jdk_52_method_14_code 8 = .ok (.iload 4, 2) := by decide +kernel
theorem d_jdk_52_method_14_code_10 : decode jdk_52_method_14_code 10 = .ok (.iload_n 2, 1) := by decide +kernel
theorem d_jdk_52_method_14_code_11 : decode jdk_52_method_14_code 11 = .ok (.if_icmp .ge 21, 3) := by decide +kernel
theorem d_jdk_52_method_14_code_14 : decode jdk_52_method_14_code 14 = .ok (.aload_n 3, 1) := by decide +kernel
theorem d_jdk_52_method_14_code_15 : decode jdk_52_method_14_code 15 = .ok (.iload 4, 2) := by decide +kernel
theorem d_jdk_52_method_14_code_17 : decode jdk_52_method_14_code 17 = .ok (.aload_n 0, 1) := by decide +kernel
theorem d_jdk_52_method_14_code_18 : decode jdk_52_method_14_code 18 = .ok (.iload_n 1, 1) := by decide +kernel
theorem d_jdk_52_method_14_code_19 : decode jdk_52_method_14_code 19 = .ok (.caload, 1) := by decide +kernel
theorem pd__28_5bBII_29V : parseMethodDescriptor "([BII)V" = some ⟨[(.array .byte), .int, .int], none⟩ := by decide +kernel
theorem d_jdk_52_method_14_code_20 : decode jdk_52_method_14_code 20 = .ok (.invokestatic 111, 3) := by decide +kernel
theorem d_jdk_52_method_14_code_23 : decode jdk_52_method_14_code 23 = .ok (.iinc 1 1, 3) := by decide +kernel
theorem d_jdk_52_method_14_code_26 : decode jdk_52_method_14_code 26 = .ok (.iinc 4 1, 3) := by decide +kernel
theorem d_jdk_52_method_14_code_29 : decode jdk_52_method_14_code 29 = .ok (.goto (-21), 3) := by decide +kernel
theorem d_jdk_52_method_14_code_32 : decode jdk_52_method_14_code 32 = .ok (.aload_n 3, 1) := by decide +kernel
theorem d_jdk_52_method_14_code_33 : decode jdk_52_method_14_code 33 = .ok (.areturn, 1) := by decide +kernel
set_option maxRecDepth 65536 in
set_option maxHeartbeats 40000000 in
theorem ct_tb_1 (l : Launch) (Z : State) (a0 : Array Value) (hw : ∀ d ∈ tables_1, d.before a0 Z = true) (n0 : Nat) (h0 : Heap) (c : Addr) (kc : ClassId) (c0 : Int32) (AC : Arv Z h0 c kc .char (1 : Int32) [(.int c0)] (.int 0)) (hn0 : n0 ≤ h0.size) (S_ad : Sta Z h0 "java/lang/StringUTF16" "$assertionsDisabled" "Z" (.int (1 : Int32))) (S_hi : Sta Z h0 "java/lang/StringUTF16" "HI_BYTE_SHIFT" "I" (.int (0 : Int32))) (S_lo : Sta Z h0 "java/lang/StringUTF16" "LO_BYTE_SHIFT" "I" (.int (8 : Int32))) :
    Ct l Z (⟨"java/lang/StringUTF16", "toBytes", "([CII)[B"⟩ : MethodName) jdk_52_method_14_code 5 (some (.array .byte)) ({ frames := 2, cells := 1, slots := 2, locals := 24 } : Room) EL1 n0 true [] #[(.ref c), (.int (0 : Int32)), (.int (1 : Int32))] h0 [] (fun v h N => ∃ e ke, v = some (.ref e) ∧ h0.size ≤ e ∧ e < h.size ∧ Keep h0 h [] ∧ Arv Z h e ke .byte (2 : Int32) [(.int (c0 >>> ((0 : Int32) &&& 31)).toInt8.toInt32), (.int (c0 >>> ((8 : Int32) &&& 31)).toInt8.toInt32)] (.int 0)) := by
  refine Ct.of (a0 := a0) (plainFor_of_name pn_java_lang_StringUTF16) (own_ew hw) (L0 := #[.val (.ref c), .val (.int (0 : Int32)), .val (.int (1 : Int32)), .unset, .unset]) (fun m => by first | (simp [entryFrame, mkF, argsToLocals, Value.category]; done) | rfl) ?_
  have l0_AC := nlt AC.lt
  refine Go.iloadN (pc' := 1) d_jdk_52_method_14_code_0 rfl rfl ?_
  refine Go.callS (a1 := a0) (pc' := 4) (argsL := [(.int (1 : Int32))]) (rest := []) (ct_nbf_1 l Z a0 hw n0 h0 (by omega)) d_jdk_52_method_14_code_1 (hw _ (List.mem_of_getElem? (i := 115) rfl)) (hw _ (List.mem_of_getElem? (i := 116) rfl)) (hw _ (List.mem_of_getElem? (i := 41) rfl)) (hw _ (List.mem_of_getElem? (i := 117) rfl)) (by decide) (lenOf pd__28I_29_5bB rfl) rfl 0 rfl rfl (by decide) (by decide) (by decide) (by decide) (fun _ q => nomatch q) rfl (fun v_7 h_8 N_9 hQ_10 hle_11 => ?_)
  obtain ⟨a_1, k_2, rfl, rfl, g_3, g_4, K_5, A_6⟩ := hQ_10
  have lta_1 := nlt g_4
  refine Go.re (pc' := 4) (L' := #[.val (.ref c), .val (.int (0 : Int32)), .val (.int (1 : Int32)), .unset, .unset]) (S' := [(.ref a_1)]) rfl rfl rfl ?_
  refine Go.astoreN (pc' := 5) #[.val (.ref c), .val (.int (0 : Int32)), .val (.int (1 : Int32)), .val (.ref a_1), .unset] d_jdk_52_method_14_code_4 rfl rfl rfl ?_
  refine Go.iconst (pc' := 6) 0 d_jdk_52_method_14_code_5 rfl rfl ?_
  refine Go.istore (pc' := 8) #[.val (.ref c), .val (.int (0 : Int32)), .val (.int (1 : Int32)), .val (.ref a_1), .val (.int (0 : Int32))] d_jdk_52_method_14_code_6 rfl rfl ?_
  refine Go.iload (pc' := 10) d_jdk_52_method_14_code_8 rfl rfl ?_
  refine Go.iloadN (pc' := 11) d_jdk_52_method_14_code_10 rfl rfl ?_
  refine Go.icmpF (pc' := 14) d_jdk_52_method_14_code_11 (show (0 : Int32) < (1 : Int32) by decide) rfl ?_
  refine Go.aloadN (pc' := 15) d_jdk_52_method_14_code_14 rfl rfl rfl ?_
  refine Go.iload (pc' := 17) d_jdk_52_method_14_code_15 rfl rfl ?_
  refine Go.aloadN (pc' := 18) d_jdk_52_method_14_code_17 rfl rfl rfl ?_
  refine Go.iloadN (pc' := 19) d_jdk_52_method_14_code_18 rfl rfl ?_
  have F_12 : Arv Z h_8 c kc .char (1 : Int32) [(.int c0)] (.int 0) := (Arv.keep AC K_5 nin0)
  refine Go.caloadV (pc' := 20) d_jdk_52_method_14_code_19 F_12 (by decide) rfl rfl ?_
  have F_16 : Sta Z h_8 "java/lang/StringUTF16" "$assertionsDisabled" "Z" (.int (1 : Int32)) := (sta_keep S_ad K_5 ns0)
  have F_17 : Sta Z h_8 "java/lang/StringUTF16" "HI_BYTE_SHIFT" "I" (.int (0 : Int32)) := (sta_keep S_hi K_5 ns0)
  have F_18 : Sta Z h_8 "java/lang/StringUTF16" "LO_BYTE_SHIFT" "I" (.int (8 : Int32)) := (sta_keep S_lo K_5 ns0)
  refine Go.callS (a1 := a0) (pc' := 23) (argsL := [(.ref a_1), (.int (0 : Int32)), (.int c0)]) (rest := []) (ct_put l Z a0 hw n0 h_8 a_1 k_2 2 0 [(.int (0 : Int32)), (.int (0 : Int32))] c0 A_6 rfl (by decide) (by decide) (by omega) F_16 F_17 F_18) d_jdk_52_method_14_code_20 (hw _ (List.mem_of_getElem? (i := 122) rfl)) (hw _ (List.mem_of_getElem? (i := 123) rfl)) (hw _ (List.mem_of_getElem? (i := 41) rfl)) (hw _ (List.mem_of_getElem? (i := 124) rfl)) (by decide) (lenOf pd__28_5bBII_29V rfl) rfl 0 rfl rfl (by decide) (by decide) (by decide) (by decide) (by intro x hx; simp only [List.mem_cons, List.not_mem_nil, or_false] at hx; rcases hx with rfl; all_goals simp) rfl (fun v_19 h_20 N_21 hQ_22 hle_23 => ?_)
  obtain ⟨rfl, K_13, A_14⟩ := hQ_22
  have F_15 : Arv Z h_20 a_1 k_2 .byte (2 : Int32) [(.int (c0 >>> ((0 : Int32) &&& 31)).toInt8.toInt32), (.int (c0 >>> ((8 : Int32) &&& 31)).toInt8.toInt32)] (.int 0) := A_14
  refine Go.re (pc' := 23) (L' := #[.val (.ref c), .val (.int (0 : Int32)), .val (.int (1 : Int32)), .val (.ref a_1), .val (.int (0 : Int32))]) (S' := []) rfl rfl rfl ?_
  refine Go.iinc (pc' := 26) (1 : Int32) #[.val (.ref c), .val (.int (1 : Int32)), .val (.int (1 : Int32)), .val (.ref a_1), .val (.int (0 : Int32))] d_jdk_52_method_14_code_23 rfl (by decide) rfl rfl ?_
  refine Go.iinc (pc' := 29) (1 : Int32) #[.val (.ref c), .val (.int (1 : Int32)), .val (.int (1 : Int32)), .val (.ref a_1), .val (.int (1 : Int32))] d_jdk_52_method_14_code_26 rfl (by decide) rfl rfl ?_
  refine Go.goto (pc' := 8) d_jdk_52_method_14_code_29 (by decide) (by decide) ?_
  refine Go.iload (pc' := 10) d_jdk_52_method_14_code_8 rfl rfl ?_
  refine Go.iloadN (pc' := 11) d_jdk_52_method_14_code_10 rfl rfl ?_
  refine Go.icmpT (pc' := 32) d_jdk_52_method_14_code_11 (show ¬ ((1 : Int32) < (1 : Int32)) by decide) (by decide) (by decide) ?_
  refine Go.aloadN (pc' := 33) d_jdk_52_method_14_code_32 rfl rfl rfl ?_
  refine Go.retA rfl rfl rfl [] (fun _ q => nomatch q) d_jdk_52_method_14_code_33 (by decide) (by decide) ?_
  exact ⟨a_1, _, rfl, by omega, F_15.lt, (Keep.trans (Keep.trans (Keep.refl _ []) K_5 all0) K_13 (allS (Or.inr (by omega)) all0)), F_15⟩
set_option maxRecDepth 65536 in
set_option maxHeartbeats 40000000 in
theorem ct_tb_2 (l : Launch) (Z : State) (a0 : Array Value) (hw : ∀ d ∈ tables_1, d.before a0 Z = true) (n0 : Nat) (h0 : Heap) (c : Addr) (kc : ClassId) (c0 c1 : Int32) (AC : Arv Z h0 c kc .char (2 : Int32) [(.int c0), (.int c1)] (.int 0)) (hn0 : n0 ≤ h0.size) (S_ad : Sta Z h0 "java/lang/StringUTF16" "$assertionsDisabled" "Z" (.int (1 : Int32))) (S_hi : Sta Z h0 "java/lang/StringUTF16" "HI_BYTE_SHIFT" "I" (.int (0 : Int32))) (S_lo : Sta Z h0 "java/lang/StringUTF16" "LO_BYTE_SHIFT" "I" (.int (8 : Int32))) :
    Ct l Z (⟨"java/lang/StringUTF16", "toBytes", "([CII)[B"⟩ : MethodName) jdk_52_method_14_code 5 (some (.array .byte)) ({ frames := 2, cells := 1, slots := 4, locals := 24 } : Room) EL1 n0 true [] #[(.ref c), (.int (0 : Int32)), (.int (2 : Int32))] h0 [] (fun v h N => ∃ e ke, v = some (.ref e) ∧ h0.size ≤ e ∧ e < h.size ∧ Keep h0 h [] ∧ Arv Z h e ke .byte (4 : Int32) [(.int (c0 >>> ((0 : Int32) &&& 31)).toInt8.toInt32), (.int (c0 >>> ((8 : Int32) &&& 31)).toInt8.toInt32), (.int (c1 >>> ((0 : Int32) &&& 31)).toInt8.toInt32), (.int (c1 >>> ((8 : Int32) &&& 31)).toInt8.toInt32)] (.int 0)) := by
  refine Ct.of (a0 := a0) (plainFor_of_name pn_java_lang_StringUTF16) (own_ew hw) (L0 := #[.val (.ref c), .val (.int (0 : Int32)), .val (.int (2 : Int32)), .unset, .unset]) (fun m => by first | (simp [entryFrame, mkF, argsToLocals, Value.category]; done) | rfl) ?_
  have l0_AC := nlt AC.lt
  refine Go.iloadN (pc' := 1) d_jdk_52_method_14_code_0 rfl rfl ?_
  refine Go.callS (a1 := a0) (pc' := 4) (argsL := [(.int (2 : Int32))]) (rest := []) (ct_nbf_2 l Z a0 hw n0 h0 (by omega)) d_jdk_52_method_14_code_1 (hw _ (List.mem_of_getElem? (i := 115) rfl)) (hw _ (List.mem_of_getElem? (i := 116) rfl)) (hw _ (List.mem_of_getElem? (i := 41) rfl)) (hw _ (List.mem_of_getElem? (i := 117) rfl)) (by decide) (lenOf pd__28I_29_5bB rfl) rfl 0 rfl rfl (by decide) (by decide) (by decide) (by decide) (fun _ q => nomatch q) rfl (fun v_7 h_8 N_9 hQ_10 hle_11 => ?_)
  obtain ⟨a_1, k_2, rfl, rfl, g_3, g_4, K_5, A_6⟩ := hQ_10
  have lta_1 := nlt g_4
  refine Go.re (pc' := 4) (L' := #[.val (.ref c), .val (.int (0 : Int32)), .val (.int (2 : Int32)), .unset, .unset]) (S' := [(.ref a_1)]) rfl rfl rfl ?_
  refine Go.astoreN (pc' := 5) #[.val (.ref c), .val (.int (0 : Int32)), .val (.int (2 : Int32)), .val (.ref a_1), .unset] d_jdk_52_method_14_code_4 rfl rfl rfl ?_
  refine Go.iconst (pc' := 6) 0 d_jdk_52_method_14_code_5 rfl rfl ?_
  refine Go.istore (pc' := 8) #[.val (.ref c), .val (.int (0 : Int32)), .val (.int (2 : Int32)), .val (.ref a_1), .val (.int (0 : Int32))] d_jdk_52_method_14_code_6 rfl rfl ?_
  refine Go.iload (pc' := 10) d_jdk_52_method_14_code_8 rfl rfl ?_
  refine Go.iloadN (pc' := 11) d_jdk_52_method_14_code_10 rfl rfl ?_
  refine Go.icmpF (pc' := 14) d_jdk_52_method_14_code_11 (show (0 : Int32) < (2 : Int32) by decide) rfl ?_
  refine Go.aloadN (pc' := 15) d_jdk_52_method_14_code_14 rfl rfl rfl ?_
  refine Go.iload (pc' := 17) d_jdk_52_method_14_code_15 rfl rfl ?_
  refine Go.aloadN (pc' := 18) d_jdk_52_method_14_code_17 rfl rfl rfl ?_
  refine Go.iloadN (pc' := 19) d_jdk_52_method_14_code_18 rfl rfl ?_
  have F_12 : Arv Z h_8 c kc .char (2 : Int32) [(.int c0), (.int c1)] (.int 0) := (Arv.keep AC K_5 nin0)
  refine Go.caloadV (pc' := 20) d_jdk_52_method_14_code_19 F_12 (by decide) rfl rfl ?_
  have F_16 : Sta Z h_8 "java/lang/StringUTF16" "$assertionsDisabled" "Z" (.int (1 : Int32)) := (sta_keep S_ad K_5 ns0)
  have F_17 : Sta Z h_8 "java/lang/StringUTF16" "HI_BYTE_SHIFT" "I" (.int (0 : Int32)) := (sta_keep S_hi K_5 ns0)
  have F_18 : Sta Z h_8 "java/lang/StringUTF16" "LO_BYTE_SHIFT" "I" (.int (8 : Int32)) := (sta_keep S_lo K_5 ns0)
  refine Go.callS (a1 := a0) (pc' := 23) (argsL := [(.ref a_1), (.int (0 : Int32)), (.int c0)]) (rest := []) (ct_put l Z a0 hw n0 h_8 a_1 k_2 4 0 [(.int (0 : Int32)), (.int (0 : Int32)), (.int (0 : Int32)), (.int (0 : Int32))] c0 A_6 rfl (by decide) (by decide) (by omega) F_16 F_17 F_18) d_jdk_52_method_14_code_20 (hw _ (List.mem_of_getElem? (i := 122) rfl)) (hw _ (List.mem_of_getElem? (i := 123) rfl)) (hw _ (List.mem_of_getElem? (i := 41) rfl)) (hw _ (List.mem_of_getElem? (i := 124) rfl)) (by decide) (lenOf pd__28_5bBII_29V rfl) rfl 0 rfl rfl (by decide) (by decide) (by decide) (by decide) (by intro x hx; simp only [List.mem_cons, List.not_mem_nil, or_false] at hx; rcases hx with rfl; all_goals simp) rfl (fun v_19 h_20 N_21 hQ_22 hle_23 => ?_)
  obtain ⟨rfl, K_13, A_14⟩ := hQ_22
  have F_15 : Arv Z h_20 a_1 k_2 .byte (4 : Int32) [(.int (c0 >>> ((0 : Int32) &&& 31)).toInt8.toInt32), (.int (c0 >>> ((8 : Int32) &&& 31)).toInt8.toInt32), (.int (0 : Int32)), (.int (0 : Int32))] (.int 0) := A_14
  refine Go.re (pc' := 23) (L' := #[.val (.ref c), .val (.int (0 : Int32)), .val (.int (2 : Int32)), .val (.ref a_1), .val (.int (0 : Int32))]) (S' := []) rfl rfl rfl ?_
  refine Go.iinc (pc' := 26) (1 : Int32) #[.val (.ref c), .val (.int (1 : Int32)), .val (.int (2 : Int32)), .val (.ref a_1), .val (.int (0 : Int32))] d_jdk_52_method_14_code_23 rfl (by decide) rfl rfl ?_
  refine Go.iinc (pc' := 29) (1 : Int32) #[.val (.ref c), .val (.int (1 : Int32)), .val (.int (2 : Int32)), .val (.ref a_1), .val (.int (1 : Int32))] d_jdk_52_method_14_code_26 rfl (by decide) rfl rfl ?_
  refine Go.goto (pc' := 8) d_jdk_52_method_14_code_29 (by decide) (by decide) ?_
  refine Go.iload (pc' := 10) d_jdk_52_method_14_code_8 rfl rfl ?_
  refine Go.iloadN (pc' := 11) d_jdk_52_method_14_code_10 rfl rfl ?_
  refine Go.icmpF (pc' := 14) d_jdk_52_method_14_code_11 (show (1 : Int32) < (2 : Int32) by decide) rfl ?_
  refine Go.aloadN (pc' := 15) d_jdk_52_method_14_code_14 rfl rfl rfl ?_
  refine Go.iload (pc' := 17) d_jdk_52_method_14_code_15 rfl rfl ?_
  refine Go.aloadN (pc' := 18) d_jdk_52_method_14_code_17 rfl rfl rfl ?_
  refine Go.iloadN (pc' := 19) d_jdk_52_method_14_code_18 rfl rfl ?_
  have F_24 : Arv Z h_20 c kc .char (2 : Int32) [(.int c0), (.int c1)] (.int 0) := (Arv.keep F_12 K_13 (ninS (nne (by omega)) nin0))
  refine Go.caloadV (pc' := 20) d_jdk_52_method_14_code_19 F_24 (by decide) rfl rfl ?_
  have F_28 : Sta Z h_20 "java/lang/StringUTF16" "$assertionsDisabled" "Z" (.int (1 : Int32)) := (sta_keep F_16 K_13 (nsS (Arv.nostat A_6) ns0))
  have F_29 : Sta Z h_20 "java/lang/StringUTF16" "HI_BYTE_SHIFT" "I" (.int (0 : Int32)) := (sta_keep F_17 K_13 (nsS (Arv.nostat A_6) ns0))
  have F_30 : Sta Z h_20 "java/lang/StringUTF16" "LO_BYTE_SHIFT" "I" (.int (8 : Int32)) := (sta_keep F_18 K_13 (nsS (Arv.nostat A_6) ns0))
  refine Go.callS (a1 := a0) (pc' := 23) (argsL := [(.ref a_1), (.int (1 : Int32)), (.int c1)]) (rest := []) (ct_put l Z a0 hw n0 h_20 a_1 k_2 4 1 [(.int (c0 >>> ((0 : Int32) &&& 31)).toInt8.toInt32), (.int (c0 >>> ((8 : Int32) &&& 31)).toInt8.toInt32), (.int (0 : Int32)), (.int (0 : Int32))] c1 F_15 rfl (by decide) (by decide) (by omega) F_28 F_29 F_30) d_jdk_52_method_14_code_20 (hw _ (List.mem_of_getElem? (i := 122) rfl)) (hw _ (List.mem_of_getElem? (i := 123) rfl)) (hw _ (List.mem_of_getElem? (i := 41) rfl)) (hw _ (List.mem_of_getElem? (i := 124) rfl)) (by decide) (lenOf pd__28_5bBII_29V rfl) rfl 0 rfl rfl (by decide) (by decide) (by decide) (by decide) (by intro x hx; simp only [List.mem_cons, List.not_mem_nil, or_false] at hx; rcases hx with rfl; all_goals simp) rfl (fun v_31 h_32 N_33 hQ_34 hle_35 => ?_)
  obtain ⟨rfl, K_25, A_26⟩ := hQ_34
  have F_27 : Arv Z h_32 a_1 k_2 .byte (4 : Int32) [(.int (c0 >>> ((0 : Int32) &&& 31)).toInt8.toInt32), (.int (c0 >>> ((8 : Int32) &&& 31)).toInt8.toInt32), (.int (c1 >>> ((0 : Int32) &&& 31)).toInt8.toInt32), (.int (c1 >>> ((8 : Int32) &&& 31)).toInt8.toInt32)] (.int 0) := A_26
  refine Go.re (pc' := 23) (L' := #[.val (.ref c), .val (.int (1 : Int32)), .val (.int (2 : Int32)), .val (.ref a_1), .val (.int (1 : Int32))]) (S' := []) rfl rfl rfl ?_
  refine Go.iinc (pc' := 26) (2 : Int32) #[.val (.ref c), .val (.int (2 : Int32)), .val (.int (2 : Int32)), .val (.ref a_1), .val (.int (1 : Int32))] d_jdk_52_method_14_code_23 rfl (by decide) rfl rfl ?_
  refine Go.iinc (pc' := 29) (2 : Int32) #[.val (.ref c), .val (.int (2 : Int32)), .val (.int (2 : Int32)), .val (.ref a_1), .val (.int (2 : Int32))] d_jdk_52_method_14_code_26 rfl (by decide) rfl rfl ?_
  refine Go.goto (pc' := 8) d_jdk_52_method_14_code_29 (by decide) (by decide) ?_
  refine Go.iload (pc' := 10) d_jdk_52_method_14_code_8 rfl rfl ?_
  refine Go.iloadN (pc' := 11) d_jdk_52_method_14_code_10 rfl rfl ?_
  refine Go.icmpT (pc' := 32) d_jdk_52_method_14_code_11 (show ¬ ((2 : Int32) < (2 : Int32)) by decide) (by decide) (by decide) ?_
  refine Go.aloadN (pc' := 33) d_jdk_52_method_14_code_32 rfl rfl rfl ?_
  refine Go.retA rfl rfl rfl [] (fun _ q => nomatch q) d_jdk_52_method_14_code_33 (by decide) (by decide) ?_
  exact ⟨a_1, _, rfl, by omega, F_27.lt, (Keep.trans (Keep.trans (Keep.trans (Keep.refl _ []) K_5 all0) K_13 (allS (Or.inr (by omega)) all0)) K_25 (allS (Or.inr (by omega)) all0)), F_27⟩
set_option maxRecDepth 65536 in
set_option maxHeartbeats 40000000 in
theorem ct_tb_3 (l : Launch) (Z : State) (a0 : Array Value) (hw : ∀ d ∈ tables_1, d.before a0 Z = true) (n0 : Nat) (h0 : Heap) (c : Addr) (kc : ClassId) (c0 c1 c2 : Int32) (AC : Arv Z h0 c kc .char (3 : Int32) [(.int c0), (.int c1), (.int c2)] (.int 0)) (hn0 : n0 ≤ h0.size) (S_ad : Sta Z h0 "java/lang/StringUTF16" "$assertionsDisabled" "Z" (.int (1 : Int32))) (S_hi : Sta Z h0 "java/lang/StringUTF16" "HI_BYTE_SHIFT" "I" (.int (0 : Int32))) (S_lo : Sta Z h0 "java/lang/StringUTF16" "LO_BYTE_SHIFT" "I" (.int (8 : Int32))) :
    Ct l Z (⟨"java/lang/StringUTF16", "toBytes", "([CII)[B"⟩ : MethodName) jdk_52_method_14_code 5 (some (.array .byte)) ({ frames := 2, cells := 1, slots := 6, locals := 24 } : Room) EL1 n0 true [] #[(.ref c), (.int (0 : Int32)), (.int (3 : Int32))] h0 [] (fun v h N => ∃ e ke, v = some (.ref e) ∧ h0.size ≤ e ∧ e < h.size ∧ Keep h0 h [] ∧ Arv Z h e ke .byte (6 : Int32) [(.int (c0 >>> ((0 : Int32) &&& 31)).toInt8.toInt32), (.int (c0 >>> ((8 : Int32) &&& 31)).toInt8.toInt32), (.int (c1 >>> ((0 : Int32) &&& 31)).toInt8.toInt32), (.int (c1 >>> ((8 : Int32) &&& 31)).toInt8.toInt32), (.int (c2 >>> ((0 : Int32) &&& 31)).toInt8.toInt32), (.int (c2 >>> ((8 : Int32) &&& 31)).toInt8.toInt32)] (.int 0)) := by
  refine Ct.of (a0 := a0) (plainFor_of_name pn_java_lang_StringUTF16) (own_ew hw) (L0 := #[.val (.ref c), .val (.int (0 : Int32)), .val (.int (3 : Int32)), .unset, .unset]) (fun m => by first | (simp [entryFrame, mkF, argsToLocals, Value.category]; done) | rfl) ?_
  have l0_AC := nlt AC.lt
  refine Go.iloadN (pc' := 1) d_jdk_52_method_14_code_0 rfl rfl ?_
  refine Go.callS (a1 := a0) (pc' := 4) (argsL := [(.int (3 : Int32))]) (rest := []) (ct_nbf_3 l Z a0 hw n0 h0 (by omega)) d_jdk_52_method_14_code_1 (hw _ (List.mem_of_getElem? (i := 115) rfl)) (hw _ (List.mem_of_getElem? (i := 116) rfl)) (hw _ (List.mem_of_getElem? (i := 41) rfl)) (hw _ (List.mem_of_getElem? (i := 117) rfl)) (by decide) (lenOf pd__28I_29_5bB rfl) rfl 0 rfl rfl (by decide) (by decide) (by decide) (by decide) (fun _ q => nomatch q) rfl (fun v_7 h_8 N_9 hQ_10 hle_11 => ?_)
  obtain ⟨a_1, k_2, rfl, rfl, g_3, g_4, K_5, A_6⟩ := hQ_10
  have lta_1 := nlt g_4
  refine Go.re (pc' := 4) (L' := #[.val (.ref c), .val (.int (0 : Int32)), .val (.int (3 : Int32)), .unset, .unset]) (S' := [(.ref a_1)]) rfl rfl rfl ?_
  refine Go.astoreN (pc' := 5) #[.val (.ref c), .val (.int (0 : Int32)), .val (.int (3 : Int32)), .val (.ref a_1), .unset] d_jdk_52_method_14_code_4 rfl rfl rfl ?_
  refine Go.iconst (pc' := 6) 0 d_jdk_52_method_14_code_5 rfl rfl ?_
  refine Go.istore (pc' := 8) #[.val (.ref c), .val (.int (0 : Int32)), .val (.int (3 : Int32)), .val (.ref a_1), .val (.int (0 : Int32))] d_jdk_52_method_14_code_6 rfl rfl ?_
  refine Go.iload (pc' := 10) d_jdk_52_method_14_code_8 rfl rfl ?_
  refine Go.iloadN (pc' := 11) d_jdk_52_method_14_code_10 rfl rfl ?_
  refine Go.icmpF (pc' := 14) d_jdk_52_method_14_code_11 (show (0 : Int32) < (3 : Int32) by decide) rfl ?_
  refine Go.aloadN (pc' := 15) d_jdk_52_method_14_code_14 rfl rfl rfl ?_
  refine Go.iload (pc' := 17) d_jdk_52_method_14_code_15 rfl rfl ?_
  refine Go.aloadN (pc' := 18) d_jdk_52_method_14_code_17 rfl rfl rfl ?_
  refine Go.iloadN (pc' := 19) d_jdk_52_method_14_code_18 rfl rfl ?_
  have F_12 : Arv Z h_8 c kc .char (3 : Int32) [(.int c0), (.int c1), (.int c2)] (.int 0) := (Arv.keep AC K_5 nin0)
  refine Go.caloadV (pc' := 20) d_jdk_52_method_14_code_19 F_12 (by decide) rfl rfl ?_
  have F_16 : Sta Z h_8 "java/lang/StringUTF16" "$assertionsDisabled" "Z" (.int (1 : Int32)) := (sta_keep S_ad K_5 ns0)
  have F_17 : Sta Z h_8 "java/lang/StringUTF16" "HI_BYTE_SHIFT" "I" (.int (0 : Int32)) := (sta_keep S_hi K_5 ns0)
  have F_18 : Sta Z h_8 "java/lang/StringUTF16" "LO_BYTE_SHIFT" "I" (.int (8 : Int32)) := (sta_keep S_lo K_5 ns0)
  refine Go.callS (a1 := a0) (pc' := 23) (argsL := [(.ref a_1), (.int (0 : Int32)), (.int c0)]) (rest := []) (ct_put l Z a0 hw n0 h_8 a_1 k_2 6 0 [(.int (0 : Int32)), (.int (0 : Int32)), (.int (0 : Int32)), (.int (0 : Int32)), (.int (0 : Int32)), (.int (0 : Int32))] c0 A_6 rfl (by decide) (by decide) (by omega) F_16 F_17 F_18) d_jdk_52_method_14_code_20 (hw _ (List.mem_of_getElem? (i := 122) rfl)) (hw _ (List.mem_of_getElem? (i := 123) rfl)) (hw _ (List.mem_of_getElem? (i := 41) rfl)) (hw _ (List.mem_of_getElem? (i := 124) rfl)) (by decide) (lenOf pd__28_5bBII_29V rfl) rfl 0 rfl rfl (by decide) (by decide) (by decide) (by decide) (by intro x hx; simp only [List.mem_cons, List.not_mem_nil, or_false] at hx; rcases hx with rfl; all_goals simp) rfl (fun v_19 h_20 N_21 hQ_22 hle_23 => ?_)
  obtain ⟨rfl, K_13, A_14⟩ := hQ_22
  have F_15 : Arv Z h_20 a_1 k_2 .byte (6 : Int32) [(.int (c0 >>> ((0 : Int32) &&& 31)).toInt8.toInt32), (.int (c0 >>> ((8 : Int32) &&& 31)).toInt8.toInt32), (.int (0 : Int32)), (.int (0 : Int32)), (.int (0 : Int32)), (.int (0 : Int32))] (.int 0) := A_14
  refine Go.re (pc' := 23) (L' := #[.val (.ref c), .val (.int (0 : Int32)), .val (.int (3 : Int32)), .val (.ref a_1), .val (.int (0 : Int32))]) (S' := []) rfl rfl rfl ?_
  refine Go.iinc (pc' := 26) (1 : Int32) #[.val (.ref c), .val (.int (1 : Int32)), .val (.int (3 : Int32)), .val (.ref a_1), .val (.int (0 : Int32))] d_jdk_52_method_14_code_23 rfl (by decide) rfl rfl ?_
  refine Go.iinc (pc' := 29) (1 : Int32) #[.val (.ref c), .val (.int (1 : Int32)), .val (.int (3 : Int32)), .val (.ref a_1), .val (.int (1 : Int32))] d_jdk_52_method_14_code_26 rfl (by decide) rfl rfl ?_
  refine Go.goto (pc' := 8) d_jdk_52_method_14_code_29 (by decide) (by decide) ?_
  refine Go.iload (pc' := 10) d_jdk_52_method_14_code_8 rfl rfl ?_
  refine Go.iloadN (pc' := 11) d_jdk_52_method_14_code_10 rfl rfl ?_
  refine Go.icmpF (pc' := 14) d_jdk_52_method_14_code_11 (show (1 : Int32) < (3 : Int32) by decide) rfl ?_
  refine Go.aloadN (pc' := 15) d_jdk_52_method_14_code_14 rfl rfl rfl ?_
  refine Go.iload (pc' := 17) d_jdk_52_method_14_code_15 rfl rfl ?_
  refine Go.aloadN (pc' := 18) d_jdk_52_method_14_code_17 rfl rfl rfl ?_
  refine Go.iloadN (pc' := 19) d_jdk_52_method_14_code_18 rfl rfl ?_
  have F_24 : Arv Z h_20 c kc .char (3 : Int32) [(.int c0), (.int c1), (.int c2)] (.int 0) := (Arv.keep F_12 K_13 (ninS (nne (by omega)) nin0))
  refine Go.caloadV (pc' := 20) d_jdk_52_method_14_code_19 F_24 (by decide) rfl rfl ?_
  have F_28 : Sta Z h_20 "java/lang/StringUTF16" "$assertionsDisabled" "Z" (.int (1 : Int32)) := (sta_keep F_16 K_13 (nsS (Arv.nostat A_6) ns0))
  have F_29 : Sta Z h_20 "java/lang/StringUTF16" "HI_BYTE_SHIFT" "I" (.int (0 : Int32)) := (sta_keep F_17 K_13 (nsS (Arv.nostat A_6) ns0))
  have F_30 : Sta Z h_20 "java/lang/StringUTF16" "LO_BYTE_SHIFT" "I" (.int (8 : Int32)) := (sta_keep F_18 K_13 (nsS (Arv.nostat A_6) ns0))
  refine Go.callS (a1 := a0) (pc' := 23) (argsL := [(.ref a_1), (.int (1 : Int32)), (.int c1)]) (rest := []) (ct_put l Z a0 hw n0 h_20 a_1 k_2 6 1 [(.int (c0 >>> ((0 : Int32) &&& 31)).toInt8.toInt32), (.int (c0 >>> ((8 : Int32) &&& 31)).toInt8.toInt32), (.int (0 : Int32)), (.int (0 : Int32)), (.int (0 : Int32)), (.int (0 : Int32))] c1 F_15 rfl (by decide) (by decide) (by omega) F_28 F_29 F_30) d_jdk_52_method_14_code_20 (hw _ (List.mem_of_getElem? (i := 122) rfl)) (hw _ (List.mem_of_getElem? (i := 123) rfl)) (hw _ (List.mem_of_getElem? (i := 41) rfl)) (hw _ (List.mem_of_getElem? (i := 124) rfl)) (by decide) (lenOf pd__28_5bBII_29V rfl) rfl 0 rfl rfl (by decide) (by decide) (by decide) (by decide) (by intro x hx; simp only [List.mem_cons, List.not_mem_nil, or_false] at hx; rcases hx with rfl; all_goals simp) rfl (fun v_31 h_32 N_33 hQ_34 hle_35 => ?_)
  obtain ⟨rfl, K_25, A_26⟩ := hQ_34
  have F_27 : Arv Z h_32 a_1 k_2 .byte (6 : Int32) [(.int (c0 >>> ((0 : Int32) &&& 31)).toInt8.toInt32), (.int (c0 >>> ((8 : Int32) &&& 31)).toInt8.toInt32), (.int (c1 >>> ((0 : Int32) &&& 31)).toInt8.toInt32), (.int (c1 >>> ((8 : Int32) &&& 31)).toInt8.toInt32), (.int (0 : Int32)), (.int (0 : Int32))] (.int 0) := A_26
  refine Go.re (pc' := 23) (L' := #[.val (.ref c), .val (.int (1 : Int32)), .val (.int (3 : Int32)), .val (.ref a_1), .val (.int (1 : Int32))]) (S' := []) rfl rfl rfl ?_
  refine Go.iinc (pc' := 26) (2 : Int32) #[.val (.ref c), .val (.int (2 : Int32)), .val (.int (3 : Int32)), .val (.ref a_1), .val (.int (1 : Int32))] d_jdk_52_method_14_code_23 rfl (by decide) rfl rfl ?_
  refine Go.iinc (pc' := 29) (2 : Int32) #[.val (.ref c), .val (.int (2 : Int32)), .val (.int (3 : Int32)), .val (.ref a_1), .val (.int (2 : Int32))] d_jdk_52_method_14_code_26 rfl (by decide) rfl rfl ?_
  refine Go.goto (pc' := 8) d_jdk_52_method_14_code_29 (by decide) (by decide) ?_
  refine Go.iload (pc' := 10) d_jdk_52_method_14_code_8 rfl rfl ?_
  refine Go.iloadN (pc' := 11) d_jdk_52_method_14_code_10 rfl rfl ?_
  refine Go.icmpF (pc' := 14) d_jdk_52_method_14_code_11 (show (2 : Int32) < (3 : Int32) by decide) rfl ?_
  refine Go.aloadN (pc' := 15) d_jdk_52_method_14_code_14 rfl rfl rfl ?_
  refine Go.iload (pc' := 17) d_jdk_52_method_14_code_15 rfl rfl ?_
  refine Go.aloadN (pc' := 18) d_jdk_52_method_14_code_17 rfl rfl rfl ?_
  refine Go.iloadN (pc' := 19) d_jdk_52_method_14_code_18 rfl rfl ?_
  have F_36 : Arv Z h_32 c kc .char (3 : Int32) [(.int c0), (.int c1), (.int c2)] (.int 0) := (Arv.keep F_24 K_25 (ninS (nne (by omega)) nin0))
  refine Go.caloadV (pc' := 20) d_jdk_52_method_14_code_19 F_36 (by decide) rfl rfl ?_
  have F_40 : Sta Z h_32 "java/lang/StringUTF16" "$assertionsDisabled" "Z" (.int (1 : Int32)) := (sta_keep F_28 K_25 (nsS (Arv.nostat F_15) ns0))
  have F_41 : Sta Z h_32 "java/lang/StringUTF16" "HI_BYTE_SHIFT" "I" (.int (0 : Int32)) := (sta_keep F_29 K_25 (nsS (Arv.nostat F_15) ns0))
  have F_42 : Sta Z h_32 "java/lang/StringUTF16" "LO_BYTE_SHIFT" "I" (.int (8 : Int32)) := (sta_keep F_30 K_25 (nsS (Arv.nostat F_15) ns0))
  refine Go.callS (a1 := a0) (pc' := 23) (argsL := [(.ref a_1), (.int (2 : Int32)), (.int c2)]) (rest := []) (ct_put l Z a0 hw n0 h_32 a_1 k_2 6 2 [(.int (c0 >>> ((0 : Int32) &&& 31)).toInt8.toInt32), (.int (c0 >>> ((8 : Int32) &&& 31)).toInt8.toInt32), (.int (c1 >>> ((0 : Int32) &&& 31)).toInt8.toInt32), (.int (c1 >>> ((8 : Int32) &&& 31)).toInt8.toInt32), (.int (0 : Int32)), (.int (0 : Int32))] c2 F_27 rfl (by decide) (by decide) (by omega) F_40 F_41 F_42) d_jdk_52_method_14_code_20 (hw _ (List.mem_of_getElem? (i := 122) rfl)) (hw _ (List.mem_of_getElem? (i := 123) rfl)) (hw _ (List.mem_of_getElem? (i := 41) rfl)) (hw _ (List.mem_of_getElem? (i := 124) rfl)) (by decide) (lenOf pd__28_5bBII_29V rfl) rfl 0 rfl rfl (by decide) (by decide) (by decide) (by decide) (by intro x hx; simp only [List.mem_cons, List.not_mem_nil, or_false] at hx; rcases hx with rfl; all_goals simp) rfl (fun v_43 h_44 N_45 hQ_46 hle_47 => ?_)
  obtain ⟨rfl, K_37, A_38⟩ := hQ_46
  have F_39 : Arv Z h_44 a_1 k_2 .byte (6 : Int32) [(.int (c0 >>> ((0 : Int32) &&& 31)).toInt8.toInt32), (.int (c0 >>> ((8 : Int32) &&& 31)).toInt8.toInt32), (.int (c1 >>> ((0 : Int32) &&& 31)).toInt8.toInt32), (.int (c1 >>> ((8 : Int32) &&& 31)).toInt8.toInt32), (.int (c2 >>> ((0 : Int32) &&& 31)).toInt8.toInt32), (.int (c2 >>> ((8 : Int32) &&& 31)).toInt8.toInt32)] (.int 0) := A_38
  refine Go.re (pc' := 23) (L' := #[.val (.ref c), .val (.int (2 : Int32)), .val (.int (3 : Int32)), .val (.ref a_1), .val (.int (2 : Int32))]) (S' := []) rfl rfl rfl ?_
  refine Go.iinc (pc' := 26) (3 : Int32) #[.val (.ref c), .val (.int (3 : Int32)), .val (.int (3 : Int32)), .val (.ref a_1), .val (.int (2 : Int32))] d_jdk_52_method_14_code_23 rfl (by decide) rfl rfl ?_
  refine Go.iinc (pc' := 29) (3 : Int32) #[.val (.ref c), .val (.int (3 : Int32)), .val (.int (3 : Int32)), .val (.ref a_1), .val (.int (3 : Int32))] d_jdk_52_method_14_code_26 rfl (by decide) rfl rfl ?_
  refine Go.goto (pc' := 8) d_jdk_52_method_14_code_29 (by decide) (by decide) ?_
  refine Go.iload (pc' := 10) d_jdk_52_method_14_code_8 rfl rfl ?_
  refine Go.iloadN (pc' := 11) d_jdk_52_method_14_code_10 rfl rfl ?_
  refine Go.icmpT (pc' := 32) d_jdk_52_method_14_code_11 (show ¬ ((3 : Int32) < (3 : Int32)) by decide) (by decide) (by decide) ?_
  refine Go.aloadN (pc' := 33) d_jdk_52_method_14_code_32 rfl rfl rfl ?_
  refine Go.retA rfl rfl rfl [] (fun _ q => nomatch q) d_jdk_52_method_14_code_33 (by decide) (by decide) ?_
  exact ⟨a_1, _, rfl, by omega, F_39.lt, (Keep.trans (Keep.trans (Keep.trans (Keep.trans (Keep.refl _ []) K_5 all0) K_13 (allS (Or.inr (by omega)) all0)) K_25 (allS (Or.inr (by omega)) all0)) K_37 (allS (Or.inr (by omega)) all0)), F_39⟩
set_option maxRecDepth 65536 in
set_option maxHeartbeats 40000000 in
theorem ct_tb_4 (l : Launch) (Z : State) (a0 : Array Value) (hw : ∀ d ∈ tables_1, d.before a0 Z = true) (n0 : Nat) (h0 : Heap) (c : Addr) (kc : ClassId) (c0 c1 c2 c3 : Int32) (AC : Arv Z h0 c kc .char (4 : Int32) [(.int c0), (.int c1), (.int c2), (.int c3)] (.int 0)) (hn0 : n0 ≤ h0.size) (S_ad : Sta Z h0 "java/lang/StringUTF16" "$assertionsDisabled" "Z" (.int (1 : Int32))) (S_hi : Sta Z h0 "java/lang/StringUTF16" "HI_BYTE_SHIFT" "I" (.int (0 : Int32))) (S_lo : Sta Z h0 "java/lang/StringUTF16" "LO_BYTE_SHIFT" "I" (.int (8 : Int32))) :
    Ct l Z (⟨"java/lang/StringUTF16", "toBytes", "([CII)[B"⟩ : MethodName) jdk_52_method_14_code 5 (some (.array .byte)) ({ frames := 2, cells := 1, slots := 8, locals := 24 } : Room) EL1 n0 true [] #[(.ref c), (.int (0 : Int32)), (.int (4 : Int32))] h0 [] (fun v h N => ∃ e ke, v = some (.ref e) ∧ h0.size ≤ e ∧ e < h.size ∧ Keep h0 h [] ∧ Arv Z h e ke .byte (8 : Int32) [(.int (c0 >>> ((0 : Int32) &&& 31)).toInt8.toInt32), (.int (c0 >>> ((8 : Int32) &&& 31)).toInt8.toInt32), (.int (c1 >>> ((0 : Int32) &&& 31)).toInt8.toInt32), (.int (c1 >>> ((8 : Int32) &&& 31)).toInt8.toInt32), (.int (c2 >>> ((0 : Int32) &&& 31)).toInt8.toInt32), (.int (c2 >>> ((8 : Int32) &&& 31)).toInt8.toInt32), (.int (c3 >>> ((0 : Int32) &&& 31)).toInt8.toInt32), (.int (c3 >>> ((8 : Int32) &&& 31)).toInt8.toInt32)] (.int 0)) := by
  refine Ct.of (a0 := a0) (plainFor_of_name pn_java_lang_StringUTF16) (own_ew hw) (L0 := #[.val (.ref c), .val (.int (0 : Int32)), .val (.int (4 : Int32)), .unset, .unset]) (fun m => by first | (simp [entryFrame, mkF, argsToLocals, Value.category]; done) | rfl) ?_
  have l0_AC := nlt AC.lt
  refine Go.iloadN (pc' := 1) d_jdk_52_method_14_code_0 rfl rfl ?_
  refine Go.callS (a1 := a0) (pc' := 4) (argsL := [(.int (4 : Int32))]) (rest := []) (ct_nbf_4 l Z a0 hw n0 h0 (by omega)) d_jdk_52_method_14_code_1 (hw _ (List.mem_of_getElem? (i := 115) rfl)) (hw _ (List.mem_of_getElem? (i := 116) rfl)) (hw _ (List.mem_of_getElem? (i := 41) rfl)) (hw _ (List.mem_of_getElem? (i := 117) rfl)) (by decide) (lenOf pd__28I_29_5bB rfl) rfl 0 rfl rfl (by decide) (by decide) (by decide) (by decide) (fun _ q => nomatch q) rfl (fun v_7 h_8 N_9 hQ_10 hle_11 => ?_)
  obtain ⟨a_1, k_2, rfl, rfl, g_3, g_4, K_5, A_6⟩ := hQ_10
  have lta_1 := nlt g_4
  refine Go.re (pc' := 4) (L' := #[.val (.ref c), .val (.int (0 : Int32)), .val (.int (4 : Int32)), .unset, .unset]) (S' := [(.ref a_1)]) rfl rfl rfl ?_
  refine Go.astoreN (pc' := 5) #[.val (.ref c), .val (.int (0 : Int32)), .val (.int (4 : Int32)), .val (.ref a_1), .unset] d_jdk_52_method_14_code_4 rfl rfl rfl ?_
  refine Go.iconst (pc' := 6) 0 d_jdk_52_method_14_code_5 rfl rfl ?_
  refine Go.istore (pc' := 8) #[.val (.ref c), .val (.int (0 : Int32)), .val (.int (4 : Int32)), .val (.ref a_1), .val (.int (0 : Int32))] d_jdk_52_method_14_code_6 rfl rfl ?_
  refine Go.iload (pc' := 10) d_jdk_52_method_14_code_8 rfl rfl ?_
  refine Go.iloadN (pc' := 11) d_jdk_52_method_14_code_10 rfl rfl ?_
  refine Go.icmpF (pc' := 14) d_jdk_52_method_14_code_11 (show (0 : Int32) < (4 : Int32) by decide) rfl ?_
  refine Go.aloadN (pc' := 15) d_jdk_52_method_14_code_14 rfl rfl rfl ?_
  refine Go.iload (pc' := 17) d_jdk_52_method_14_code_15 rfl rfl ?_
  refine Go.aloadN (pc' := 18) d_jdk_52_method_14_code_17 rfl rfl rfl ?_
  refine Go.iloadN (pc' := 19) d_jdk_52_method_14_code_18 rfl rfl ?_
  have F_12 : Arv Z h_8 c kc .char (4 : Int32) [(.int c0), (.int c1), (.int c2), (.int c3)] (.int 0) := (Arv.keep AC K_5 nin0)
  refine Go.caloadV (pc' := 20) d_jdk_52_method_14_code_19 F_12 (by decide) rfl rfl ?_
  have F_16 : Sta Z h_8 "java/lang/StringUTF16" "$assertionsDisabled" "Z" (.int (1 : Int32)) := (sta_keep S_ad K_5 ns0)
  have F_17 : Sta Z h_8 "java/lang/StringUTF16" "HI_BYTE_SHIFT" "I" (.int (0 : Int32)) := (sta_keep S_hi K_5 ns0)
  have F_18 : Sta Z h_8 "java/lang/StringUTF16" "LO_BYTE_SHIFT" "I" (.int (8 : Int32)) := (sta_keep S_lo K_5 ns0)
  refine Go.callS (a1 := a0) (pc' := 23) (argsL := [(.ref a_1), (.int (0 : Int32)), (.int c0)]) (rest := []) (ct_put l Z a0 hw n0 h_8 a_1 k_2 8 0 [(.int (0 : Int32)), (.int (0 : Int32)), (.int (0 : Int32)), (.int (0 : Int32)), (.int (0 : Int32)), (.int (0 : Int32)), (.int (0 : Int32)), (.int (0 : Int32))] c0 A_6 rfl (by decide) (by decide) (by omega) F_16 F_17 F_18) d_jdk_52_method_14_code_20 (hw _ (List.mem_of_getElem? (i := 122) rfl)) (hw _ (List.mem_of_getElem? (i := 123) rfl)) (hw _ (List.mem_of_getElem? (i := 41) rfl)) (hw _ (List.mem_of_getElem? (i := 124) rfl)) (by decide) (lenOf pd__28_5bBII_29V rfl) rfl 0 rfl rfl (by decide) (by decide) (by decide) (by decide) (by intro x hx; simp only [List.mem_cons, List.not_mem_nil, or_false] at hx; rcases hx with rfl; all_goals simp) rfl (fun v_19 h_20 N_21 hQ_22 hle_23 => ?_)
  obtain ⟨rfl, K_13, A_14⟩ := hQ_22
  have F_15 : Arv Z h_20 a_1 k_2 .byte (8 : Int32) [(.int (c0 >>> ((0 : Int32) &&& 31)).toInt8.toInt32), (.int (c0 >>> ((8 : Int32) &&& 31)).toInt8.toInt32), (.int (0 : Int32)), (.int (0 : Int32)), (.int (0 : Int32)), (.int (0 : Int32)), (.int (0 : Int32)), (.int (0 : Int32))] (.int 0) := A_14
  refine Go.re (pc' := 23) (L' := #[.val (.ref c), .val (.int (0 : Int32)), .val (.int (4 : Int32)), .val (.ref a_1), .val (.int (0 : Int32))]) (S' := []) rfl rfl rfl ?_
  refine Go.iinc (pc' := 26) (1 : Int32) #[.val (.ref c), .val (.int (1 : Int32)), .val (.int (4 : Int32)), .val (.ref a_1), .val (.int (0 : Int32))] d_jdk_52_method_14_code_23 rfl (by decide) rfl rfl ?_
  refine Go.iinc (pc' := 29) (1 : Int32) #[.val (.ref c), .val (.int (1 : Int32)), .val (.int (4 : Int32)), .val (.ref a_1), .val (.int (1 : Int32))] d_jdk_52_method_14_code_26 rfl (by decide) rfl rfl ?_
  refine Go.goto (pc' := 8) d_jdk_52_method_14_code_29 (by decide) (by decide) ?_
  refine Go.iload (pc' := 10) d_jdk_52_method_14_code_8 rfl rfl ?_
  refine Go.iloadN (pc' := 11) d_jdk_52_method_14_code_10 rfl rfl ?_
  refine Go.icmpF (pc' := 14) d_jdk_52_method_14_code_11 (show (1 : Int32) < (4 : Int32) by decide) rfl ?_
  refine Go.aloadN (pc' := 15) d_jdk_52_method_14_code_14 rfl rfl rfl ?_
  refine Go.iload (pc' := 17) d_jdk_52_method_14_code_15 rfl rfl ?_
  refine Go.aloadN (pc' := 18) d_jdk_52_method_14_code_17 rfl rfl rfl ?_
  refine Go.iloadN (pc' := 19) d_jdk_52_method_14_code_18 rfl rfl ?_
  have F_24 : Arv Z h_20 c kc .char (4 : Int32) [(.int c0), (.int c1), (.int c2), (.int c3)] (.int 0) := (Arv.keep F_12 K_13 (ninS (nne (by omega)) nin0))
  refine Go.caloadV (pc' := 20) d_jdk_52_method_14_code_19 F_24 (by decide) rfl rfl ?_
  have F_28 : Sta Z h_20 "java/lang/StringUTF16" "$assertionsDisabled" "Z" (.int (1 : Int32)) := (sta_keep F_16 K_13 (nsS (Arv.nostat A_6) ns0))
  have F_29 : Sta Z h_20 "java/lang/StringUTF16" "HI_BYTE_SHIFT" "I" (.int (0 : Int32)) := (sta_keep F_17 K_13 (nsS (Arv.nostat A_6) ns0))
  have F_30 : Sta Z h_20 "java/lang/StringUTF16" "LO_BYTE_SHIFT" "I" (.int (8 : Int32)) := (sta_keep F_18 K_13 (nsS (Arv.nostat A_6) ns0))
  refine Go.callS (a1 := a0) (pc' := 23) (argsL := [(.ref a_1), (.int (1 : Int32)), (.int c1)]) (rest := []) (ct_put l Z a0 hw n0 h_20 a_1 k_2 8 1 [(.int (c0 >>> ((0 : Int32) &&& 31)).toInt8.toInt32), (.int (c0 >>> ((8 : Int32) &&& 31)).toInt8.toInt32), (.int (0 : Int32)), (.int (0 : Int32)), (.int (0 : Int32)), (.int (0 : Int32)), (.int (0 : Int32)), (.int (0 : Int32))] c1 F_15 rfl (by decide) (by decide) (by omega) F_28 F_29 F_30) d_jdk_52_method_14_code_20 (hw _ (List.mem_of_getElem? (i := 122) rfl)) (hw _ (List.mem_of_getElem? (i := 123) rfl)) (hw _ (List.mem_of_getElem? (i := 41) rfl)) (hw _ (List.mem_of_getElem? (i := 124) rfl)) (by decide) (lenOf pd__28_5bBII_29V rfl) rfl 0 rfl rfl (by decide) (by decide) (by decide) (by decide) (by intro x hx; simp only [List.mem_cons, List.not_mem_nil, or_false] at hx; rcases hx with rfl; all_goals simp) rfl (fun v_31 h_32 N_33 hQ_34 hle_35 => ?_)
  obtain ⟨rfl, K_25, A_26⟩ := hQ_34
  have F_27 : Arv Z h_32 a_1 k_2 .byte (8 : Int32) [(.int (c0 >>> ((0 : Int32) &&& 31)).toInt8.toInt32), (.int (c0 >>> ((8 : Int32) &&& 31)).toInt8.toInt32), (.int (c1 >>> ((0 : Int32) &&& 31)).toInt8.toInt32), (.int (c1 >>> ((8 : Int32) &&& 31)).toInt8.toInt32), (.int (0 : Int32)), (.int (0 : Int32)), (.int (0 : Int32)), (.int (0 : Int32))] (.int 0) := A_26
  refine Go.re (pc' := 23) (L' := #[.val (.ref c), .val (.int (1 : Int32)), .val (.int (4 : Int32)), .val (.ref a_1), .val (.int (1 : Int32))]) (S' := []) rfl rfl rfl ?_
  refine Go.iinc (pc' := 26) (2 : Int32) #[.val (.ref c), .val (.int (2 : Int32)), .val (.int (4 : Int32)), .val (.ref a_1), .val (.int (1 : Int32))] d_jdk_52_method_14_code_23 rfl (by decide) rfl rfl ?_
  refine Go.iinc (pc' := 29) (2 : Int32) #[.val (.ref c), .val (.int (2 : Int32)), .val (.int (4 : Int32)), .val (.ref a_1), .val (.int (2 : Int32))] d_jdk_52_method_14_code_26 rfl (by decide) rfl rfl ?_
  refine Go.goto (pc' := 8) d_jdk_52_method_14_code_29 (by decide) (by decide) ?_
  refine Go.iload (pc' := 10) d_jdk_52_method_14_code_8 rfl rfl ?_
  refine Go.iloadN (pc' := 11) d_jdk_52_method_14_code_10 rfl rfl ?_
  refine Go.icmpF (pc' := 14) d_jdk_52_method_14_code_11 (show (2 : Int32) < (4 : Int32) by decide) rfl ?_
  refine Go.aloadN (pc' := 15) d_jdk_52_method_14_code_14 rfl rfl rfl ?_
  refine Go.iload (pc' := 17) d_jdk_52_method_14_code_15 rfl rfl ?_
  refine Go.aloadN (pc' := 18) d_jdk_52_method_14_code_17 rfl rfl rfl ?_
  refine Go.iloadN (pc' := 19) d_jdk_52_method_14_code_18 rfl rfl ?_
  have F_36 : Arv Z h_32 c kc .char (4 : Int32) [(.int c0), (.int c1), (.int c2), (.int c3)] (.int 0) := (Arv.keep F_24 K_25 (ninS (nne (by omega)) nin0))
  refine Go.caloadV (pc' := 20) d_jdk_52_method_14_code_19 F_36 (by decide) rfl rfl ?_
  have F_40 : Sta Z h_32 "java/lang/StringUTF16" "$assertionsDisabled" "Z" (.int (1 : Int32)) := (sta_keep F_28 K_25 (nsS (Arv.nostat F_15) ns0))
  have F_41 : Sta Z h_32 "java/lang/StringUTF16" "HI_BYTE_SHIFT" "I" (.int (0 : Int32)) := (sta_keep F_29 K_25 (nsS (Arv.nostat F_15) ns0))
  have F_42 : Sta Z h_32 "java/lang/StringUTF16" "LO_BYTE_SHIFT" "I" (.int (8 : Int32)) := (sta_keep F_30 K_25 (nsS (Arv.nostat F_15) ns0))
  refine Go.callS (a1 := a0) (pc' := 23) (argsL := [(.ref a_1), (.int (2 : Int32)), (.int c2)]) (rest := []) (ct_put l Z a0 hw n0 h_32 a_1 k_2 8 2 [(.int (c0 >>> ((0 : Int32) &&& 31)).toInt8.toInt32), (.int (c0 >>> ((8 : Int32) &&& 31)).toInt8.toInt32), (.int (c1 >>> ((0 : Int32) &&& 31)).toInt8.toInt32), (.int (c1 >>> ((8 : Int32) &&& 31)).toInt8.toInt32), (.int (0 : Int32)), (.int (0 : Int32)), (.int (0 : Int32)), (.int (0 : Int32))] c2 F_27 rfl (by decide) (by decide) (by omega) F_40 F_41 F_42) d_jdk_52_method_14_code_20 (hw _ (List.mem_of_getElem? (i := 122) rfl)) (hw _ (List.mem_of_getElem? (i := 123) rfl)) (hw _ (List.mem_of_getElem? (i := 41) rfl)) (hw _ (List.mem_of_getElem? (i := 124) rfl)) (by decide) (lenOf pd__28_5bBII_29V rfl) rfl 0 rfl rfl (by decide) (by decide) (by decide) (by decide) (by intro x hx; simp only [List.mem_cons, List.not_mem_nil, or_false] at hx; rcases hx with rfl; all_goals simp) rfl (fun v_43 h_44 N_45 hQ_46 hle_47 => ?_)
  obtain ⟨rfl, K_37, A_38⟩ := hQ_46
  have F_39 : Arv Z h_44 a_1 k_2 .byte (8 : Int32) [(.int (c0 >>> ((0 : Int32) &&& 31)).toInt8.toInt32), (.int (c0 >>> ((8 : Int32) &&& 31)).toInt8.toInt32), (.int (c1 >>> ((0 : Int32) &&& 31)).toInt8.toInt32), (.int (c1 >>> ((8 : Int32) &&& 31)).toInt8.toInt32), (.int (c2 >>> ((0 : Int32) &&& 31)).toInt8.toInt32), (.int (c2 >>> ((8 : Int32) &&& 31)).toInt8.toInt32), (.int (0 : Int32)), (.int (0 : Int32))] (.int 0) := A_38
  refine Go.re (pc' := 23) (L' := #[.val (.ref c), .val (.int (2 : Int32)), .val (.int (4 : Int32)), .val (.ref a_1), .val (.int (2 : Int32))]) (S' := []) rfl rfl rfl ?_
  refine Go.iinc (pc' := 26) (3 : Int32) #[.val (.ref c), .val (.int (3 : Int32)), .val (.int (4 : Int32)), .val (.ref a_1), .val (.int (2 : Int32))] d_jdk_52_method_14_code_23 rfl (by decide) rfl rfl ?_
  refine Go.iinc (pc' := 29) (3 : Int32) #[.val (.ref c), .val (.int (3 : Int32)), .val (.int (4 : Int32)), .val (.ref a_1), .val (.int (3 : Int32))] d_jdk_52_method_14_code_26 rfl (by decide) rfl rfl ?_
  refine Go.goto (pc' := 8) d_jdk_52_method_14_code_29 (by decide) (by decide) ?_
  refine Go.iload (pc' := 10) d_jdk_52_method_14_code_8 rfl rfl ?_
  refine Go.iloadN (pc' := 11) d_jdk_52_method_14_code_10 rfl rfl ?_
  refine Go.icmpF (pc' := 14) d_jdk_52_method_14_code_11 (show (3 : Int32) < (4 : Int32) by decide) rfl ?_
  refine Go.aloadN (pc' := 15) d_jdk_52_method_14_code_14 rfl rfl rfl ?_
  refine Go.iload (pc' := 17) d_jdk_52_method_14_code_15 rfl rfl ?_
  refine Go.aloadN (pc' := 18) d_jdk_52_method_14_code_17 rfl rfl rfl ?_
  refine Go.iloadN (pc' := 19) d_jdk_52_method_14_code_18 rfl rfl ?_
  have F_48 : Arv Z h_44 c kc .char (4 : Int32) [(.int c0), (.int c1), (.int c2), (.int c3)] (.int 0) := (Arv.keep F_36 K_37 (ninS (nne (by omega)) nin0))
  refine Go.caloadV (pc' := 20) d_jdk_52_method_14_code_19 F_48 (by decide) rfl rfl ?_
  have F_52 : Sta Z h_44 "java/lang/StringUTF16" "$assertionsDisabled" "Z" (.int (1 : Int32)) := (sta_keep F_40 K_37 (nsS (Arv.nostat F_27) ns0))
  have F_53 : Sta Z h_44 "java/lang/StringUTF16" "HI_BYTE_SHIFT" "I" (.int (0 : Int32)) := (sta_keep F_41 K_37 (nsS (Arv.nostat F_27) ns0))
  have F_54 : Sta Z h_44 "java/lang/StringUTF16" "LO_BYTE_SHIFT" "I" (.int (8 : Int32)) := (sta_keep F_42 K_37 (nsS (Arv.nostat F_27) ns0))
  refine Go.callS (a1 := a0) (pc' := 23) (argsL := [(.ref a_1), (.int (3 : Int32)), (.int c3)]) (rest := []) (ct_put l Z a0 hw n0 h_44 a_1 k_2 8 3 [(.int (c0 >>> ((0 : Int32) &&& 31)).toInt8.toInt32), (.int (c0 >>> ((8 : Int32) &&& 31)).toInt8.toInt32), (.int (c1 >>> ((0 : Int32) &&& 31)).toInt8.toInt32), (.int (c1 >>> ((8 : Int32) &&& 31)).toInt8.toInt32), (.int (c2 >>> ((0 : Int32) &&& 31)).toInt8.toInt32), (.int (c2 >>> ((8 : Int32) &&& 31)).toInt8.toInt32), (.int (0 : Int32)), (.int (0 : Int32))] c3 F_39 rfl (by decide) (by decide) (by omega) F_52 F_53 F_54) d_jdk_52_method_14_code_20 (hw _ (List.mem_of_getElem? (i := 122) rfl)) (hw _ (List.mem_of_getElem? (i := 123) rfl)) (hw _ (List.mem_of_getElem? (i := 41) rfl)) (hw _ (List.mem_of_getElem? (i := 124) rfl)) (by decide) (lenOf pd__28_5bBII_29V rfl) rfl 0 rfl rfl (by decide) (by decide) (by decide) (by decide) (by intro x hx; simp only [List.mem_cons, List.not_mem_nil, or_false] at hx; rcases hx with rfl; all_goals simp) rfl (fun v_55 h_56 N_57 hQ_58 hle_59 => ?_)
  obtain ⟨rfl, K_49, A_50⟩ := hQ_58
  have F_51 : Arv Z h_56 a_1 k_2 .byte (8 : Int32) [(.int (c0 >>> ((0 : Int32) &&& 31)).toInt8.toInt32), (.int (c0 >>> ((8 : Int32) &&& 31)).toInt8.toInt32), (.int (c1 >>> ((0 : Int32) &&& 31)).toInt8.toInt32), (.int (c1 >>> ((8 : Int32) &&& 31)).toInt8.toInt32), (.int (c2 >>> ((0 : Int32) &&& 31)).toInt8.toInt32), (.int (c2 >>> ((8 : Int32) &&& 31)).toInt8.toInt32), (.int (c3 >>> ((0 : Int32) &&& 31)).toInt8.toInt32), (.int (c3 >>> ((8 : Int32) &&& 31)).toInt8.toInt32)] (.int 0) := A_50
  refine Go.re (pc' := 23) (L' := #[.val (.ref c), .val (.int (3 : Int32)), .val (.int (4 : Int32)), .val (.ref a_1), .val (.int (3 : Int32))]) (S' := []) rfl rfl rfl ?_
  refine Go.iinc (pc' := 26) (4 : Int32) #[.val (.ref c), .val (.int (4 : Int32)), .val (.int (4 : Int32)), .val (.ref a_1), .val (.int (3 : Int32))] d_jdk_52_method_14_code_23 rfl (by decide) rfl rfl ?_
  refine Go.iinc (pc' := 29) (4 : Int32) #[.val (.ref c), .val (.int (4 : Int32)), .val (.int (4 : Int32)), .val (.ref a_1), .val (.int (4 : Int32))] d_jdk_52_method_14_code_26 rfl (by decide) rfl rfl ?_
  refine Go.goto (pc' := 8) d_jdk_52_method_14_code_29 (by decide) (by decide) ?_
  refine Go.iload (pc' := 10) d_jdk_52_method_14_code_8 rfl rfl ?_
  refine Go.iloadN (pc' := 11) d_jdk_52_method_14_code_10 rfl rfl ?_
  refine Go.icmpT (pc' := 32) d_jdk_52_method_14_code_11 (show ¬ ((4 : Int32) < (4 : Int32)) by decide) (by decide) (by decide) ?_
  refine Go.aloadN (pc' := 33) d_jdk_52_method_14_code_32 rfl rfl rfl ?_
  refine Go.retA rfl rfl rfl [] (fun _ q => nomatch q) d_jdk_52_method_14_code_33 (by decide) (by decide) ?_
  exact ⟨a_1, _, rfl, by omega, F_51.lt, (Keep.trans (Keep.trans (Keep.trans (Keep.trans (Keep.trans (Keep.refl _ []) K_5 all0) K_13 (allS (Or.inr (by omega)) all0)) K_25 (allS (Or.inr (by omega)) all0)) K_37 (allS (Or.inr (by omega)) all0)) K_49 (allS (Or.inr (by omega)) all0)), F_51⟩
theorem d_jdk_52_method_5_code_0 : decode jdk_52_method_5_code 0 = .ok (.getstatic 44, 3) := by decide +kernel
theorem d_jdk_52_method_5_code_3 : decode jdk_52_method_5_code 3 = .ok (.ifCond .ne 25, 3) := by decide +kernel
theorem d_jdk_52_method_5_code_28 : decode jdk_52_method_5_code 28 = .ok (.iload_n 1, 1) := by decide +kernel
theorem d_jdk_52_method_5_code_29 : decode jdk_52_method_5_code 29 = .ok (.iconst 1, 1) := by decide +kernel
theorem d_jdk_52_method_5_code_30 : decode jdk_52_method_5_code 30 = .ok (.ishl, 1) := by decide +kernel
theorem d_jdk_52_method_5_code_31 : decode jdk_52_method_5_code 31 = .ok (.istore_n 1, 1) := by decide +kernel
theorem d_jdk_52_method_5_code_32 : decode jdk_52_method_5_code 32 = .ok (.aload_n 0, 1) := by decide +kernel
theorem d_jdk_52_method_5_code_33 : decode jdk_52_method_5_code 33 = .ok (.iload_n 1, 1) := by decide +kernel
theorem d_jdk_52_method_5_code_34 : decode jdk_52_method_5_code 34 = .ok (.iinc 1 1, 3) := by decide +kernel
theorem d_jdk_52_method_5_code_37 : decode jdk_52_method_5_code 37 = .ok (.baload, 1) := by decide +kernel
theorem d_jdk_52_method_5_code_38 : decode jdk_52_method_5_code 38 = .ok (.sipush 255, 3) := by decide +kernel
theorem d_jdk_52_method_5_code_41 : decode jdk_52_method_5_code 41 = .ok (.iand, 1) := by decide +kernel
theorem d_jdk_52_method_5_code_42 : decode jdk_52_method_5_code 42 = .ok (.getstatic 59, 3) := by decide +kernel
theorem d_jdk_52_method_5_code_45 : decode jdk_52_method_5_code 45 = .ok (.ishl, 1) := by decide +kernel
theorem d_jdk_52_method_5_code_46 : decode jdk_52_method_5_code 46 = .ok (.aload_n 0, 1) := by decide +kernel
theorem d_jdk_52_method_5_code_47 : decode jdk_52_method_5_code 47 = .ok (.iload_n 1, 1) := by decide +kernel
theorem d_jdk_52_method_5_code_48 : decode jdk_52_method_5_code 48 = .ok (.baload, 1) := by decide +kernel
theorem d_jdk_52_method_5_code_49 : decode jdk_52_method_5_code 49 = .ok (.sipush 255, 3) := by decide +kernel
theorem d_jdk_52_method_5_code_52 : decode jdk_52_method_5_code 52 = .ok (.iand, 1) := by decide +kernel
theorem d_jdk_52_method_5_code_53 : decode jdk_52_method_5_code 53 = .ok (.getstatic 63, 3) := by decide +kernel
theorem d_jdk_52_method_5_code_56 : decode jdk_52_method_5_code 56 = .ok (.ishl, 1) := by decide +kernel
theorem d_jdk_52_method_5_code_57 : decode jdk_52_method_5_code 57 = .ok (.ior, 1) := by decide +kernel
theorem d_jdk_52_method_5_code_58 : decode jdk_52_method_5_code 58 = .ok (.i2c, 1) := by decide +kernel
theorem d_jdk_52_method_5_code_59 : decode jdk_52_method_5_code 59 = .ok (.ireturn, 1) := by decide +kernel
set_option maxRecDepth 65536 in
set_option maxHeartbeats 40000000 in
theorem ct_get (l : Launch) (Z : State) (a0 : Array Value) (hw : ∀ d ∈ tables_1, d.before a0 Z = true) (n0 : Nat) (h0 : Heap) (b : Addr) (k : ClassId) (m i : Nat) (ll : List Int32) (AV : Arv Z h0 b k .byte (Int32.ofNat m) (ll.map Value.int) (.int 0)) (hi : 2 * i + 1 < m) (hm2 : m < 2 ^ 20) (S_ad : Sta Z h0 "java/lang/StringUTF16" "$assertionsDisabled" "Z" (.int (1 : Int32))) (S_hi : Sta Z h0 "java/lang/StringUTF16" "HI_BYTE_SHIFT" "I" (.int (0 : Int32))) (S_lo : Sta Z h0 "java/lang/StringUTF16" "LO_BYTE_SHIFT" "I" (.int (8 : Int32))) :
    Ct l Z (⟨"java/lang/StringUTF16", "getChar", "([BI)C"⟩ : MethodName) jdk_52_method_5_code 2 (some .char) ({ frames := 0, cells := 0, slots := 0, locals := 0 } : Room) EL1 n0 true [] #[(.ref b), (.int (Int32.ofNat i))] h0 [] (fun v h N => h0 = h ∧ v = some (.int (nar .char ((((ll.getD (2 * i) 0) &&& (255 : Int32)) <<< ((0 : Int32) &&& 31)) ||| (((ll.getD (2 * i + 1) 0) &&& (255 : Int32)) <<< ((8 : Int32) &&& 31)))))) := by
  refine Ct.of (a0 := a0) (plainFor_of_name pn_java_lang_StringUTF16) (own_ew hw) (L0 := #[.val (.ref b), .val (.int (Int32.ofNat i))]) (fun m => by first | (simp [entryFrame, mkF, argsToLocals, Value.category]; done) | rfl) ?_
  have l0_AV := nlt AV.lt
  refine Go.getS (pc' := 3) (host := "") (a1 := a0) d_jdk_52_method_5_code_0 (Or.inl (hw _ (List.mem_of_getElem? (i := 125) rfl))) Via.refl S_ad rfl ?_
  refine Go.ifT (pc' := 28) d_jdk_52_method_5_code_3 (show ¬ ((1 : Int32) = (0 : Int32)) by decide) (by decide) (by decide) ?_
  refine Go.iloadN (pc' := 29) d_jdk_52_method_5_code_28 rfl rfl ?_
  refine Go.iconst (pc' := 30) 1 d_jdk_52_method_5_code_29 rfl rfl ?_
  refine Go.ishl (pc' := 31) d_jdk_52_method_5_code_30 rfl ?_
  refine Go.re (pc' := 31) (L' := #[.val (.ref b), .val (.int (Int32.ofNat i))]) (S' := [.int (Int32.ofNat (2 * i))]) rfl rfl (by rw [shl1]) ?_
  refine Go.istoreN (pc' := 32) #[.val (.ref b), .val (.int (Int32.ofNat (2 * i)))] d_jdk_52_method_5_code_31 rfl rfl ?_
  refine Go.aloadN (pc' := 33) d_jdk_52_method_5_code_32 rfl rfl rfl ?_
  refine Go.iloadN (pc' := 34) d_jdk_52_method_5_code_33 rfl rfl ?_
  refine Go.iinc (pc' := 37) (Int32.ofNat (2 * i + 1)) #[.val (.ref b), .val (.int (Int32.ofNat (2 * i + 1)))] d_jdk_52_method_5_code_34 rfl (ofN_succ _) rfl rfl ?_
  refine Go.baloadV (pc' := 38) (v := .int (ll.getD (2 * i) 0)) d_jdk_52_method_5_code_37 AV ⟨ofN_nn (by omega), (ofN_lt (by omega) (by omega)).mpr (by omega)⟩ (by rw [ofN_nat (by omega)]; exact getD_int _ _) rfl ?_
  refine Go.sipush (pc' := 41) 255 d_jdk_52_method_5_code_38 rfl rfl ?_
  refine Go.iand (pc' := 42) d_jdk_52_method_5_code_41 rfl ?_
  refine Go.getS (pc' := 45) (host := "") (a1 := a0) d_jdk_52_method_5_code_42 (Or.inl (hw _ (List.mem_of_getElem? (i := 126) rfl))) Via.refl S_hi rfl ?_
  refine Go.ishl (pc' := 46) d_jdk_52_method_5_code_45 rfl ?_
  refine Go.aloadN (pc' := 47) d_jdk_52_method_5_code_46 rfl rfl rfl ?_
  refine Go.iloadN (pc' := 48) d_jdk_52_method_5_code_47 rfl rfl ?_
  refine Go.baloadV (pc' := 49) (v := .int (ll.getD (2 * i + 1) 0)) d_jdk_52_method_5_code_48 AV ⟨ofN_nn (by omega), (ofN_lt (by omega) (by omega)).mpr (by omega)⟩ (by rw [ofN_nat (by omega)]; exact getD_int _ _) rfl ?_
  refine Go.sipush (pc' := 52) 255 d_jdk_52_method_5_code_49 rfl rfl ?_
  refine Go.iand (pc' := 53) d_jdk_52_method_5_code_52 rfl ?_
  refine Go.getS (pc' := 56) (host := "") (a1 := a0) d_jdk_52_method_5_code_53 (Or.inl (hw _ (List.mem_of_getElem? (i := 127) rfl))) Via.refl S_lo rfl ?_
  refine Go.ishl (pc' := 57) d_jdk_52_method_5_code_56 rfl ?_
  refine Go.ior (pc' := 58) d_jdk_52_method_5_code_57 rfl ?_
  refine Go.i2c (pc' := 59) d_jdk_52_method_5_code_58 rfl ?_
  refine Go.retN (t := .char) (nar .char ((((ll.getD (2 * i) 0) &&& (255 : Int32)) <<< ((0 : Int32) &&& 31)) ||| (((ll.getD (2 * i + 1) 0) &&& (255 : Int32)) <<< ((8 : Int32) &&& 31)))) rfl (by simp) (nar_cc _) [] (fun _ q => nomatch q) d_jdk_52_method_5_code_59 (by decide) (by decide) ?_
  exact ⟨rfl, rfl⟩
theorem d_jdk_52_method_21_code_0 : decode jdk_52_method_21_code 0 = .ok (.iconst 0, 1) := by decide +kernel
theorem d_jdk_52_method_21_code_1 : decode jdk_52_method_21_code 1 = .ok (.istore 5, 2) := by decide +kernel
theorem d_jdk_52_method_21_code_3 : decode jdk_52_method_21_code 3 = .ok (.iload 5, 2) := by decide +kernel
theorem d_jdk_52_method_21_code_5 : decode jdk_52_method_21_code 5 = .ok (.iload 4, 2) := by decide +kernel
theorem d_jdk_52_method_21_code_7 : decode jdk_52_method_21_code 7 = .ok (.if_icmp .ge 37, 3) := by decide +kernel
theorem d_jdk_52_method_21_code_10 : decode jdk_52_method_21_code 10 = .ok (.aload_n 0, 1) := by decide +kernel
theorem d_jdk_52_method_21_code_11 : decode jdk_52_method_21_code 11 = .ok (.iload_n 1, 1) := by decide +kernel
theorem d_jdk_52_method_21_code_12 : decode jdk_52_method_21_code 12 = .ok (.caload, 1) := by decide +kernel
theorem d_jdk_52_method_21_code_13 : decode jdk_52_method_21_code 13 = .ok (.istore 6, 2) := by decide +kernel
theorem d_jdk_52_method_21_code_15 : decode jdk_52_method_21_code 15 = .ok (.iload 6, 2) := by decide +kernel
theorem d_jdk_52_method_21_code_17 : decode jdk_52_method_21_code 17 = .ok (.sipush 255, 3) := by decide +kernel
theorem d_jdk_52_method_21_code_20 : decode jdk_52_method_21_code 20 = .ok (.if_icmp .le 6, 3) := by decide +kernel
theorem d_jdk_52_method_21_code_26 : decode jdk_52_method_21_code 26 = .ok (.aload_n 2, 1) := by decide +kernel
theorem d_jdk_52_method_21_code_27 : decode jdk_52_method_21_code 27 = .ok (.iload_n 3, 1) := by decide +kernel
theorem d_jdk_52_method_21_code_28 : decode jdk_52_method_21_code 28 = .ok (.iload 6, 2) := by decide +kernel
theorem d_jdk_52_method_21_code_30 : decode jdk_52_method_21_code 30 = .ok (.i2b, 1) := by decide +kernel
theorem d_jdk_52_method_21_code_31 : decode jdk_52_method_21_code 31 = .ok (.bastore, 1) := by decide +kernel
theorem d_jdk_52_method_21_code_32 : decode jdk_52_method_21_code 32 = .ok (.iinc 1 1, 3) := by decide +kernel
theorem d_jdk_52_method_21_code_35 : decode jdk_52_method_21_code 35 = .ok (.iinc 3 1, 3) := by decide +kernel
theorem d_jdk_52_method_21_code_38 : decode jdk_52_method_21_code 38 = .ok (.iinc 5 1, 3) := by decide +kernel
theorem d_jdk_52_method_21_code_41 : decode jdk_52_method_21_code 41 = .ok (.goto (-38), 3) := by decide +kernel
theorem d_jdk_52_method_21_code_44 : decode jdk_52_method_21_code 44 = .ok (.iload 4, 2) := by decide +kernel
theorem d_jdk_52_method_21_code_46 : decode jdk_52_method_21_code 46 = .ok (.ireturn, 1) := by decide +kernel
theorem d_jdk_52_method_21_code_23 : decode jdk_52_method_21_code 23 = .ok (.iload 5, 2) := by decide +kernel
theorem d_jdk_52_method_21_code_25 : decode jdk_52_method_21_code 25 = .ok (.ireturn, 1) := by decide +kernel
set_option maxRecDepth 65536 in
set_option maxHeartbeats 40000000 in
theorem ct_c5_1 (l : Launch) (Z : State) (a0 : Array Value) (hw : ∀ d ∈ tables_1, d.before a0 Z = true) (n0 : Nat) (h0 : Heap) (c d : Addr) (kc kd : ClassId) (c0 : Int32) (AC : Arv Z h0 c kc .char (1 : Int32) [(.int c0)] (.int 0)) (AD : Arv Z h0 d kd .byte (1 : Int32) [(.int (0 : Int32))] (.int 0)) (hd : n0 ≤ d) (hcd : c ≠ d) :
    Ct l Z (⟨"java/lang/StringUTF16", "compress", "([CI[BII)I"⟩ : MethodName) jdk_52_method_21_code 7 (some .int) ({ frames := 0, cells := 0, slots := 0, locals := 0 } : Room) EL1 n0 true [] #[(.ref c), (.int (0 : Int32)), (.ref d), (.int (0 : Int32)), (.int (1 : Int32))] h0 [d] (fun v h N => Keep h0 h [d] ∧ ((v = some (.int (1 : Int32)) ∧ Arv Z h d kd .byte (1 : Int32) [(.int (c0).toInt8.toInt32)] (.int 0) ∧ ¬ 255 < c0) ∨ (v = some (.int (0 : Int32)) ∧ 255 < c0))) := by
  refine Ct.of (a0 := a0) (plainFor_of_name pn_java_lang_StringUTF16) (own_ew hw) (L0 := #[.val (.ref c), .val (.int (0 : Int32)), .val (.ref d), .val (.int (0 : Int32)), .val (.int (1 : Int32)), .unset, .unset]) (fun m => by first | (simp [entryFrame, mkF, argsToLocals, Value.category]; done) | rfl) ?_
  have hcd9 := nne hcd
  have l0_AC := nlt AC.lt
  have l0_AD := nlt AD.lt
  refine Go.iconst (pc' := 1) 0 d_jdk_52_method_21_code_0 rfl rfl ?_
  refine Go.istore (pc' := 3) #[.val (.ref c), .val (.int (0 : Int32)), .val (.ref d), .val (.int (0 : Int32)), .val (.int (1 : Int32)), .val (.int (0 : Int32)), .unset] d_jdk_52_method_21_code_1 rfl rfl ?_
  refine Go.iload (pc' := 5) d_jdk_52_method_21_code_3 rfl rfl ?_
  refine Go.iload (pc' := 7) d_jdk_52_method_21_code_5 rfl rfl ?_
  refine Go.icmpF (pc' := 10) d_jdk_52_method_21_code_7 (show (0 : Int32) < (1 : Int32) by decide) rfl ?_
  refine Go.aloadN (pc' := 11) d_jdk_52_method_21_code_10 rfl rfl rfl ?_
  refine Go.iloadN (pc' := 12) d_jdk_52_method_21_code_11 rfl rfl ?_
  refine Go.caloadV (pc' := 13) d_jdk_52_method_21_code_12 AC (by decide) rfl rfl ?_
  refine Go.istore (pc' := 15) #[.val (.ref c), .val (.int (0 : Int32)), .val (.ref d), .val (.int (0 : Int32)), .val (.int (1 : Int32)), .val (.int (0 : Int32)), .val (.int c0)] d_jdk_52_method_21_code_13 rfl rfl ?_
  refine Go.iload (pc' := 17) d_jdk_52_method_21_code_15 rfl rfl ?_
  refine Go.sipush (pc' := 20) 255 d_jdk_52_method_21_code_17 rfl rfl ?_
  refine Go.icmp (pc' := 26) (pc'' := 23) d_jdk_52_method_21_code_20 (by decide) (by decide) rfl (fun hc_1 => ?_) (fun hc_1 => ?_)
  · have hc_1 : ¬ ((255 : Int32) < c0) := hc_1
    refine Go.aloadN (pc' := 27) d_jdk_52_method_21_code_26 rfl rfl rfl ?_
    refine Go.iloadN (pc' := 28) d_jdk_52_method_21_code_27 rfl rfl ?_
    refine Go.iload (pc' := 30) d_jdk_52_method_21_code_28 rfl rfl ?_
    refine Go.i2b (pc' := 31) d_jdk_52_method_21_code_30 rfl ?_
    refine Go.bastoreV (pc' := 32) 0 d_jdk_52_method_21_code_31 AD (by decide) rfl (show 0 < 1 by decide) (Sf.mem (by simp)) (by omega) rfl (fun h_2 W_3 A_4 => ?_)
    have szh_2 : h_2.size = h0.size := Wr.size W_3
    have F_5 : Arv Z h_2 d kd .byte (1 : Int32) [(.int (c0).toInt8.toInt32)] (.int 0) := by have q := A_4; rw [nar_i2b] at q; exact q
    refine Go.iinc (pc' := 35) (1 : Int32) #[.val (.ref c), .val (.int (1 : Int32)), .val (.ref d), .val (.int (0 : Int32)), .val (.int (1 : Int32)), .val (.int (0 : Int32)), .val (.int c0)] d_jdk_52_method_21_code_32 rfl (by decide) rfl rfl ?_
    refine Go.iinc (pc' := 38) (1 : Int32) #[.val (.ref c), .val (.int (1 : Int32)), .val (.ref d), .val (.int (1 : Int32)), .val (.int (1 : Int32)), .val (.int (0 : Int32)), .val (.int c0)] d_jdk_52_method_21_code_35 rfl (by decide) rfl rfl ?_
    refine Go.iinc (pc' := 41) (1 : Int32) #[.val (.ref c), .val (.int (1 : Int32)), .val (.ref d), .val (.int (1 : Int32)), .val (.int (1 : Int32)), .val (.int (1 : Int32)), .val (.int c0)] d_jdk_52_method_21_code_38 rfl (by decide) rfl rfl ?_
    refine Go.goto (pc' := 3) d_jdk_52_method_21_code_41 (by decide) (by decide) ?_
    refine Go.iload (pc' := 5) d_jdk_52_method_21_code_3 rfl rfl ?_
    refine Go.iload (pc' := 7) d_jdk_52_method_21_code_5 rfl rfl ?_
    refine Go.icmpT (pc' := 44) d_jdk_52_method_21_code_7 (show ¬ ((1 : Int32) < (1 : Int32)) by decide) (by decide) (by decide) ?_
    refine Go.iload (pc' := 46) d_jdk_52_method_21_code_44 rfl rfl ?_
    refine Go.retI rfl [] (fun _ q => nomatch q) d_jdk_52_method_21_code_46 (by decide) (by decide) ?_
    exact ⟨(Keep.wr (Keep.refl _ [d]) W_3 (Or.inl (by simp))), Or.inl ⟨rfl, F_5, hc_1⟩⟩
  · have hc_1 : (255 : Int32) < c0 := hc_1
    refine Go.iload (pc' := 25) d_jdk_52_method_21_code_23 rfl rfl ?_
    refine Go.retI rfl [] (fun _ q => nomatch q) d_jdk_52_method_21_code_25 (by decide) (by decide) ?_
    exact ⟨(Keep.refl _ [d]), Or.inr (⟨rfl, hc_1⟩)⟩
theorem d_jdk_52_method_16_code_0 : decode jdk_52_method_16_code 0 = .ok (.iload_n 2, 1) := by decide +kernel
theorem d_jdk_52_method_16_code_1 : decode jdk_52_method_16_code 1 = .ok (.newarray .byte, 2) := by decide +kernel
theorem d_jdk_52_method_16_code_3 : decode jdk_52_method_16_code 3 = .ok (.astore_n 3, 1) := by decide +kernel
theorem d_jdk_52_method_16_code_4 : decode jdk_52_method_16_code 4 = .ok (.aload_n 0, 1) := by decide +kernel
theorem d_jdk_52_method_16_code_5 : decode jdk_52_method_16_code 5 = .ok (.iload_n 1, 1) := by decide +kernel
theorem d_jdk_52_method_16_code_6 : decode jdk_52_method_16_code 6 = .ok (.aload_n 3, 1) := by decide +kernel
theorem d_jdk_52_method_16_code_7 : decode jdk_52_method_16_code 7 = .ok (.iconst 0, 1) := by decide +kernel
theorem d_jdk_52_method_16_code_8 : decode jdk_52_method_16_code 8 = .ok (.iload_n 2, 1) := by decide +kernel
theorem pd__28_5bCI_5bBII_29I : parseMethodDescriptor "([CI[BII)I" = some ⟨[(.array .char), .int, (.array .byte), .int, .int], (some .int)⟩ := by decide +kernel
theorem d_jdk_52_method_16_code_9 : decode jdk_52_method_16_code 9 = .ok (.invokestatic 115, 3) := by decide +kernel
theorem d_jdk_52_method_16_code_12 : decode jdk_52_method_16_code 12 = .ok (.istore 4, 2) := by decide +kernel
theorem d_jdk_52_method_16_code_14 : decode jdk_52_method_16_code 14 = .ok (.iload 4, 2) := by decide +kernel
theorem d_jdk_52_method_16_code_16 : decode jdk_52_method_16_code 16 = .ok (.iload_n 2, 1) := by decide +kernel
theorem d_jdk_52_method_16_code_17 : decode jdk_52_method_16_code 17 = .ok (.if_icmp .eq 40, 3) := by decide +kernel
theorem d_jdk_52_method_16_code_57 : decode jdk_52_method_16_code 57 = .ok (.aload_n 3, 1) := by decide +kernel
theorem d_jdk_52_method_16_code_58 : decode jdk_52_method_16_code 58 = .ok (.areturn, 1) := by decide +kernel
theorem d_jdk_52_method_16_code_20 : decode jdk_52_method_16_code 20 = .ok (.aload_n 0, 1) := by decide +kernel
theorem d_jdk_52_method_16_code_21 : decode jdk_52_method_16_code 21 = .ok (.iload_n 1, 1) := by decide +kernel
theorem d_jdk_52_method_16_code_22 : decode jdk_52_method_16_code 22 = .ok (.iload_n 2, 1) := by decide +kernel
theorem pd__28_5bCII_29_5bB : parseMethodDescriptor "([CII)[B" = some ⟨[(.array .char), .int, .int], (some (.array .byte))⟩ := by decide +kernel
theorem d_jdk_52_method_16_code_23 : decode jdk_52_method_16_code 23 = .ok (.invokestatic 119, 3) := by decide +kernel
theorem d_jdk_52_method_16_code_26 : decode jdk_52_method_16_code 26 = .ok (.astore 5, 2) := by decide +kernel
theorem d_jdk_52_method_16_code_28 : decode jdk_52_method_16_code 28 = .ok (.aload 5, 2) := by decide +kernel
theorem d_jdk_52_method_16_code_30 : decode jdk_52_method_16_code 30 = .ok (.iload 4, 2) := by decide +kernel
theorem pd__28_5bBI_29C : parseMethodDescriptor "([BI)C" = some ⟨[(.array .byte), .int], (some .char)⟩ := by decide +kernel
theorem d_jdk_52_method_16_code_32 : decode jdk_52_method_16_code 32 = .ok (.invokestatic 71, 3) := by decide +kernel
theorem d_jdk_52_method_16_code_35 : decode jdk_52_method_16_code 35 = .ok (.sipush 255, 3) := by decide +kernel
theorem d_jdk_52_method_16_code_38 : decode jdk_52_method_16_code 38 = .ok (.if_icmp .gt 16, 3) := by decide +kernel
theorem d_jdk_52_method_16_code_54 : decode jdk_52_method_16_code 54 = .ok (.aload 5, 2) := by decide +kernel
theorem d_jdk_52_method_16_code_56 : decode jdk_52_method_16_code 56 = .ok (.areturn, 1) := by decide +kernel
set_option maxRecDepth 65536 in
set_option maxHeartbeats 40000000 in
theorem ct_c3_1 (l : Launch) (Z : State) (a0 : Array Value) (hw : ∀ d ∈ tables_1, d.before a0 Z = true) (n0 : Nat) (h0 : Heap) (c : Addr) (kc : ClassId) (c0 : Int32) (AC : Arv Z h0 c kc .char (1 : Int32) [(.int c0)] (.int 0)) (hr0 : ¬ c0 < 0) (hs0 : ¬ 65535 < c0) (hn0 : n0 ≤ h0.size) (S_ad : Sta Z h0 "java/lang/StringUTF16" "$assertionsDisabled" "Z" (.int (1 : Int32))) (S_hi : Sta Z h0 "java/lang/StringUTF16" "HI_BYTE_SHIFT" "I" (.int (0 : Int32))) (S_lo : Sta Z h0 "java/lang/StringUTF16" "LO_BYTE_SHIFT" "I" (.int (8 : Int32))) :
    Ct l Z (⟨"java/lang/StringUTF16", "compress", "([CII)[B"⟩ : MethodName) jdk_52_method_16_code 6 (some (.array .byte)) ({ frames := 3, cells := 2, slots := 3, locals := 40 } : Room) EL1 n0 true [] #[(.ref c), (.int (0 : Int32)), (.int (1 : Int32))] h0 [] (fun v h N => ∃ d kd, v = some (.ref d) ∧ h0.size ≤ d ∧ d < h.size ∧ Keep h0 h [] ∧ ((Arv Z h d kd .byte (1 : Int32) [(.int (c0).toInt8.toInt32)] (.int 0) ∧ ¬ 255 < c0) ∨ Arv Z h d kd .byte (2 : Int32) [(.int (c0 >>> ((0 : Int32) &&& 31)).toInt8.toInt32), (.int (c0 >>> ((8 : Int32) &&& 31)).toInt8.toInt32)] (.int 0))) := by
  refine Ct.of (a0 := a0) (plainFor_of_name pn_java_lang_StringUTF16) (own_ew hw) (L0 := #[.val (.ref c), .val (.int (0 : Int32)), .val (.int (1 : Int32)), .unset, .unset, .unset]) (fun m => by first | (simp [entryFrame, mkF, argsToLocals, Value.category]; done) | rfl) ?_
  have l0_AC := nlt AC.lt
  refine Go.iloadN (pc' := 1) d_jdk_52_method_16_code_0 rfl rfl ?_
  refine Go.newPV (pc' := 3) (a1 := a0) 1 [(.int (0 : Int32))] d_jdk_52_method_16_code_1 (hw _ (List.mem_of_getElem? (i := 22) rfl)) (by decide) (by decide) (by decide) (by decide) (by decide) rfl rfl (fun a_1 h_2 cA_3 ha_4 E_5 A_6 => ?_)
  have szh_2 : h0.size ≤ h_2.size := E_5.1
  have lta_1 := nlt A_6.lt
  have qa_1 := neq ha_4
  have F_7 : Arv Z h_2 a_1 cA_3 .byte (1 : Int32) [(.int (0 : Int32))] (.int 0) := A_6
  refine Go.astoreN (pc' := 4) #[.val (.ref c), .val (.int (0 : Int32)), .val (.int (1 : Int32)), .val (.ref a_1), .unset, .unset] d_jdk_52_method_16_code_3 rfl rfl rfl ?_
  refine Go.aloadN (pc' := 5) d_jdk_52_method_16_code_4 rfl rfl rfl ?_
  refine Go.iloadN (pc' := 6) d_jdk_52_method_16_code_5 rfl rfl ?_
  refine Go.aloadN (pc' := 7) d_jdk_52_method_16_code_6 rfl rfl rfl ?_
  refine Go.iconst (pc' := 8) 0 d_jdk_52_method_16_code_7 rfl rfl ?_
  refine Go.iloadN (pc' := 9) d_jdk_52_method_16_code_8 rfl rfl ?_
  have F_11 : Arv Z h_2 c kc .char (1 : Int32) [(.int c0)] (.int 0) := (Arv.ext AC E_5)
  refine Go.callS (a1 := a0) (pc' := 12) (argsL := [(.ref c), (.int (0 : Int32)), (.ref a_1), (.int (0 : Int32)), (.int (1 : Int32))]) (rest := []) (ct_c5_1 l Z a0 hw n0 h_2 c a_1 kc cA_3 c0 F_11 F_7 (by omega) (nne (by omega))) d_jdk_52_method_16_code_9 (hw _ (List.mem_of_getElem? (i := 43) rfl)) (hw _ (List.mem_of_getElem? (i := 44) rfl)) (hw _ (List.mem_of_getElem? (i := 41) rfl)) (hw _ (List.mem_of_getElem? (i := 45) rfl)) (by decide) (lenOf pd__28_5bCI_5bBII_29I rfl) rfl 0 rfl rfl (by decide) (by decide) (by decide) (by decide) (by intro x hx; simp only [List.mem_cons, List.not_mem_nil, or_false] at hx; rcases hx with rfl; all_goals simp) rfl (fun v_12 h_13 N_14 hQ_15 hle_16 => ?_)
  obtain ⟨K_8, hi_9⟩ := hQ_15
  rcases hi_9 with ⟨rfl, A_10, hi_9⟩ | ⟨rfl, hi_9⟩
  · refine Go.re (pc' := 12) (L' := #[.val (.ref c), .val (.int (0 : Int32)), .val (.int (1 : Int32)), .val (.ref a_1), .unset, .unset]) (S' := [(.int (1 : Int32))]) rfl rfl rfl ?_
    refine Go.istore (pc' := 14) #[.val (.ref c), .val (.int (0 : Int32)), .val (.int (1 : Int32)), .val (.ref a_1), .val (.int (1 : Int32)), .unset] d_jdk_52_method_16_code_12 rfl rfl ?_
    refine Go.iload (pc' := 16) d_jdk_52_method_16_code_14 rfl rfl ?_
    refine Go.iloadN (pc' := 17) d_jdk_52_method_16_code_16 rfl rfl ?_
    refine Go.icmpT (pc' := 57) d_jdk_52_method_16_code_17 (show (1 : Int32) = (1 : Int32) by decide) (by decide) (by decide) ?_
    refine Go.aloadN (pc' := 58) d_jdk_52_method_16_code_57 rfl rfl rfl ?_
    refine Go.retA rfl rfl rfl [] (fun _ q => nomatch q) d_jdk_52_method_16_code_58 (by decide) (by decide) ?_
    exact ⟨a_1, _, rfl, by omega, A_10.lt, (Keep.trans (Keep.ext (Keep.refl _ []) E_5) K_8 (allS (Or.inr (by omega)) all0)), Or.inl ⟨A_10, hi_9⟩⟩
  · refine Go.re (pc' := 12) (L' := #[.val (.ref c), .val (.int (0 : Int32)), .val (.int (1 : Int32)), .val (.ref a_1), .unset, .unset]) (S' := [(.int (0 : Int32))]) rfl rfl rfl ?_
    refine Go.istore (pc' := 14) #[.val (.ref c), .val (.int (0 : Int32)), .val (.int (1 : Int32)), .val (.ref a_1), .val (.int (0 : Int32)), .unset] d_jdk_52_method_16_code_12 rfl rfl ?_
    refine Go.iload (pc' := 16) d_jdk_52_method_16_code_14 rfl rfl ?_
    refine Go.iloadN (pc' := 17) d_jdk_52_method_16_code_16 rfl rfl ?_
    refine Go.icmpF (pc' := 20) d_jdk_52_method_16_code_17 (show ¬ ((0 : Int32) = (1 : Int32)) by decide) rfl ?_
    refine Go.aloadN (pc' := 21) d_jdk_52_method_16_code_20 rfl rfl rfl ?_
    refine Go.iloadN (pc' := 22) d_jdk_52_method_16_code_21 rfl rfl ?_
    refine Go.iloadN (pc' := 23) d_jdk_52_method_16_code_22 rfl rfl ?_
    have F_23 : Arv Z h_13 c kc .char (1 : Int32) [(.int c0)] (.int 0) := (Arv.keep F_11 K_8 (ninS (nne (by omega)) nin0))
    have F_24 : Sta Z h_13 "java/lang/StringUTF16" "$assertionsDisabled" "Z" (.int (1 : Int32)) := (sta_keep (Sta.ext E_5 S_ad) K_8 (nsS (Arv.nostat F_7) ns0))
    have F_25 : Sta Z h_13 "java/lang/StringUTF16" "HI_BYTE_SHIFT" "I" (.int (0 : Int32)) := (sta_keep (Sta.ext E_5 S_hi) K_8 (nsS (Arv.nostat F_7) ns0))
    have F_26 : Sta Z h_13 "java/lang/StringUTF16" "LO_BYTE_SHIFT" "I" (.int (8 : Int32)) := (sta_keep (Sta.ext E_5 S_lo) K_8 (nsS (Arv.nostat F_7) ns0))
    refine Go.callS (a1 := a0) (pc' := 26) (argsL := [(.ref c), (.int (0 : Int32)), (.int (1 : Int32))]) (rest := []) (ct_tb_1 l Z a0 hw n0 h_13 c kc c0 F_23 (by omega) F_24 F_25 F_26) d_jdk_52_method_16_code_23 (hw _ (List.mem_of_getElem? (i := 112) rfl)) (hw _ (List.mem_of_getElem? (i := 113) rfl)) (hw _ (List.mem_of_getElem? (i := 41) rfl)) (hw _ (List.mem_of_getElem? (i := 114) rfl)) (by decide) (lenOf pd__28_5bCII_29_5bB rfl) rfl 0 rfl rfl (by decide) (by decide) (by decide) (by decide) (fun _ q => nomatch q) rfl (fun v_27 h_28 N_29 hQ_30 hle_31 => ?_)
    obtain ⟨e_17, ke_18, rfl, g_19, g_20, K_21, F_22⟩ := hQ_30
    have lte_17 := nlt g_20
    refine Go.re (pc' := 26) (L' := #[.val (.ref c), .val (.int (0 : Int32)), .val (.int (1 : Int32)), .val (.ref a_1), .val (.int (0 : Int32)), .unset]) (S' := [(.ref e_17)]) rfl rfl rfl ?_
    refine Go.astore (pc' := 28) #[.val (.ref c), .val (.int (0 : Int32)), .val (.int (1 : Int32)), .val (.ref a_1), .val (.int (0 : Int32)), .val (.ref e_17)] d_jdk_52_method_16_code_26 rfl rfl rfl ?_
    refine Go.aload (pc' := 30) d_jdk_52_method_16_code_28 rfl rfl rfl ?_
    refine Go.iload (pc' := 32) d_jdk_52_method_16_code_30 rfl rfl ?_
    have F_32 : Sta Z h_28 "java/lang/StringUTF16" "$assertionsDisabled" "Z" (.int (1 : Int32)) := (sta_keep F_24 K_21 ns0)
    have F_33 : Sta Z h_28 "java/lang/StringUTF16" "HI_BYTE_SHIFT" "I" (.int (0 : Int32)) := (sta_keep F_25 K_21 ns0)
    have F_34 : Sta Z h_28 "java/lang/StringUTF16" "LO_BYTE_SHIFT" "I" (.int (8 : Int32)) := (sta_keep F_26 K_21 ns0)
    refine Go.callS (a1 := a0) (pc' := 35) (argsL := [(.ref e_17), (.int (0 : Int32))]) (rest := []) (ct_get l Z a0 hw n0 h_28 e_17 ke_18 2 0 [(c0 >>> ((0 : Int32) &&& 31)).toInt8.toInt32, (c0 >>> ((8 : Int32) &&& 31)).toInt8.toInt32] F_22 (by decide) (by decide) F_32 F_33 F_34) d_jdk_52_method_16_code_32 (hw _ (List.mem_of_getElem? (i := 128) rfl)) (hw _ (List.mem_of_getElem? (i := 129) rfl)) (hw _ (List.mem_of_getElem? (i := 41) rfl)) (hw _ (List.mem_of_getElem? (i := 130) rfl)) (by decide) (lenOf pd__28_5bBI_29C rfl) rfl 0 rfl rfl (by decide) (by decide) (by decide) (by decide) (fun _ q => nomatch q) rfl (fun v_35 h_36 N_37 hQ_38 hle_39 => ?_)
    obtain ⟨rfl, rfl⟩ := hQ_38
    refine Go.re (pc' := 35) (L' := #[.val (.ref c), .val (.int (0 : Int32)), .val (.int (1 : Int32)), .val (.ref a_1), .val (.int (0 : Int32)), .val (.ref e_17)]) (S' := [(.int c0)]) rfl rfl (congrArg (fun z => Value.int z :: _) (show (nar .char ((((c0 >>> ((0 : Int32) &&& 31)).toInt8.toInt32 &&& (255 : Int32)) <<< ((0 : Int32) &&& 31)) ||| (((c0 >>> ((8 : Int32) &&& 31)).toInt8.toInt32 &&& (255 : Int32)) <<< ((8 : Int32) &&& 31)))) = c0 from gchar hr0 hs0)) ?_
    refine Go.sipush (pc' := 38) 255 d_jdk_52_method_16_code_35 rfl rfl ?_
    refine Go.icmpT (pc' := 54) d_jdk_52_method_16_code_38 (hi_9) (by decide) (by decide) ?_
    refine Go.aload (pc' := 56) d_jdk_52_method_16_code_54 rfl rfl rfl ?_
    refine Go.retA rfl rfl rfl [] (fun _ q => nomatch q) d_jdk_52_method_16_code_56 (by decide) (by decide) ?_
    exact ⟨e_17, _, rfl, by omega, F_22.lt, (Keep.trans (Keep.trans (Keep.ext (Keep.refl _ []) E_5) K_8 (allS (Or.inr (by omega)) all0)) K_21 all0), Or.inr F_22⟩
set_option maxRecDepth 65536 in
set_option maxHeartbeats 40000000 in
theorem ct_c5_2 (l : Launch) (Z : State) (a0 : Array Value) (hw : ∀ d ∈ tables_1, d.before a0 Z = true) (n0 : Nat) (h0 : Heap) (c d : Addr) (kc kd : ClassId) (c0 c1 : Int32) (AC : Arv Z h0 c kc .char (2 : Int32) [(.int c0), (.int c1)] (.int 0)) (AD : Arv Z h0 d kd .byte (2 : Int32) [(.int (0 : Int32)), (.int (0 : Int32))] (.int 0)) (hd : n0 ≤ d) (hcd : c ≠ d) :
    Ct l Z (⟨"java/lang/StringUTF16", "compress", "([CI[BII)I"⟩ : MethodName) jdk_52_method_21_code 7 (some .int) ({ frames := 0, cells := 0, slots := 0, locals := 0 } : Room) EL1 n0 true [] #[(.ref c), (.int (0 : Int32)), (.ref d), (.int (0 : Int32)), (.int (2 : Int32))] h0 [d] (fun v h N => Keep h0 h [d] ∧ ((v = some (.int (2 : Int32)) ∧ Arv Z h d kd .byte (2 : Int32) [(.int (c0).toInt8.toInt32), (.int (c1).toInt8.toInt32)] (.int 0) ∧ ¬ 255 < c0 ∧ ¬ 255 < c1) ∨ (v = some (.int (0 : Int32)) ∧ 255 < c0) ∨ (v = some (.int (1 : Int32)) ∧ 255 < c1))) := by
  refine Ct.of (a0 := a0) (plainFor_of_name pn_java_lang_StringUTF16) (own_ew hw) (L0 := #[.val (.ref c), .val (.int (0 : Int32)), .val (.ref d), .val (.int (0 : Int32)), .val (.int (2 : Int32)), .unset, .unset]) (fun m => by first | (simp [entryFrame, mkF, argsToLocals, Value.category]; done) | rfl) ?_
  have hcd9 := nne hcd
  have l0_AC := nlt AC.lt
  have l0_AD := nlt AD.lt
  refine Go.iconst (pc' := 1) 0 d_jdk_52_method_21_code_0 rfl rfl ?_
  refine Go.istore (pc' := 3) #[.val (.ref c), .val (.int (0 : Int32)), .val (.ref d), .val (.int (0 : Int32)), .val (.int (2 : Int32)), .val (.int (0 : Int32)), .unset] d_jdk_52_method_21_code_1 rfl rfl ?_
  refine Go.iload (pc' := 5) d_jdk_52_method_21_code_3 rfl rfl ?_
  refine Go.iload (pc' := 7) d_jdk_52_method_21_code_5 rfl rfl ?_
  refine Go.icmpF (pc' := 10) d_jdk_52_method_21_code_7 (show (0 : Int32) < (2 : Int32) by decide) rfl ?_
  refine Go.aloadN (pc' := 11) d_jdk_52_method_21_code_10 rfl rfl rfl ?_
  refine Go.iloadN (pc' := 12) d_jdk_52_method_21_code_11 rfl rfl ?_
  refine Go.caloadV (pc' := 13) d_jdk_52_method_21_code_12 AC (by decide) rfl rfl ?_
  refine Go.istore (pc' := 15) #[.val (.ref c), .val (.int (0 : Int32)), .val (.ref d), .val (.int (0 : Int32)), .val (.int (2 : Int32)), .val (.int (0 : Int32)), .val (.int c0)] d_jdk_52_method_21_code_13 rfl rfl ?_
  refine Go.iload (pc' := 17) d_jdk_52_method_21_code_15 rfl rfl ?_
  refine Go.sipush (pc' := 20) 255 d_jdk_52_method_21_code_17 rfl rfl ?_
  refine Go.icmp (pc' := 26) (pc'' := 23) d_jdk_52_method_21_code_20 (by decide) (by decide) rfl (fun hc_1 => ?_) (fun hc_1 => ?_)
  · have hc_1 : ¬ ((255 : Int32) < c0) := hc_1
    refine Go.aloadN (pc' := 27) d_jdk_52_method_21_code_26 rfl rfl rfl ?_
    refine Go.iloadN (pc' := 28) d_jdk_52_method_21_code_27 rfl rfl ?_
    refine Go.iload (pc' := 30) d_jdk_52_method_21_code_28 rfl rfl ?_
    refine Go.i2b (pc' := 31) d_jdk_52_method_21_code_30 rfl ?_
    refine Go.bastoreV (pc' := 32) 0 d_jdk_52_method_21_code_31 AD (by decide) rfl (show 0 < 2 by decide) (Sf.mem (by simp)) (by omega) rfl (fun h_2 W_3 A_4 => ?_)
    have szh_2 : h_2.size = h0.size := Wr.size W_3
    have F_5 : Arv Z h_2 d kd .byte (2 : Int32) [(.int (c0).toInt8.toInt32), (.int (0 : Int32))] (.int 0) := by have q := A_4; rw [nar_i2b] at q; exact q
    refine Go.iinc (pc' := 35) (1 : Int32) #[.val (.ref c), .val (.int (1 : Int32)), .val (.ref d), .val (.int (0 : Int32)), .val (.int (2 : Int32)), .val (.int (0 : Int32)), .val (.int c0)] d_jdk_52_method_21_code_32 rfl (by decide) rfl rfl ?_
    refine Go.iinc (pc' := 38) (1 : Int32) #[.val (.ref c), .val (.int (1 : Int32)), .val (.ref d), .val (.int (1 : Int32)), .val (.int (2 : Int32)), .val (.int (0 : Int32)), .val (.int c0)] d_jdk_52_method_21_code_35 rfl (by decide) rfl rfl ?_
    refine Go.iinc (pc' := 41) (1 : Int32) #[.val (.ref c), .val (.int (1 : Int32)), .val (.ref d), .val (.int (1 : Int32)), .val (.int (2 : Int32)), .val (.int (1 : Int32)), .val (.int c0)] d_jdk_52_method_21_code_38 rfl (by decide) rfl rfl ?_
    refine Go.goto (pc' := 3) d_jdk_52_method_21_code_41 (by decide) (by decide) ?_
    refine Go.iload (pc' := 5) d_jdk_52_method_21_code_3 rfl rfl ?_
    refine Go.iload (pc' := 7) d_jdk_52_method_21_code_5 rfl rfl ?_
    refine Go.icmpF (pc' := 10) d_jdk_52_method_21_code_7 (show (1 : Int32) < (2 : Int32) by decide) rfl ?_
    refine Go.aloadN (pc' := 11) d_jdk_52_method_21_code_10 rfl rfl rfl ?_
    refine Go.iloadN (pc' := 12) d_jdk_52_method_21_code_11 rfl rfl ?_
    have F_6 : Arv Z h_2 c kc .char (2 : Int32) [(.int c0), (.int c1)] (.int 0) := (Arv.other AC W_3 (nne (by omega)))
    refine Go.caloadV (pc' := 13) d_jdk_52_method_21_code_12 F_6 (by decide) rfl rfl ?_
    refine Go.istore (pc' := 15) #[.val (.ref c), .val (.int (1 : Int32)), .val (.ref d), .val (.int (1 : Int32)), .val (.int (2 : Int32)), .val (.int (1 : Int32)), .val (.int c1)] d_jdk_52_method_21_code_13 rfl rfl ?_
    refine Go.iload (pc' := 17) d_jdk_52_method_21_code_15 rfl rfl ?_
    refine Go.sipush (pc' := 20) 255 d_jdk_52_method_21_code_17 rfl rfl ?_
    refine Go.icmp (pc' := 26) (pc'' := 23) d_jdk_52_method_21_code_20 (by decide) (by decide) rfl (fun hc_7 => ?_) (fun hc_7 => ?_)
    · have hc_7 : ¬ ((255 : Int32) < c1) := hc_7
      refine Go.aloadN (pc' := 27) d_jdk_52_method_21_code_26 rfl rfl rfl ?_
      refine Go.iloadN (pc' := 28) d_jdk_52_method_21_code_27 rfl rfl ?_
      refine Go.iload (pc' := 30) d_jdk_52_method_21_code_28 rfl rfl ?_
      refine Go.i2b (pc' := 31) d_jdk_52_method_21_code_30 rfl ?_
      refine Go.bastoreV (pc' := 32) 1 d_jdk_52_method_21_code_31 F_5 (by decide) rfl (show 1 < 2 by decide) (Sf.mem (by simp)) (by omega) rfl (fun h_8 W_9 A_10 => ?_)
      have szh_8 : h_8.size = h_2.size := Wr.size W_9
      have F_11 : Arv Z h_8 d kd .byte (2 : Int32) [(.int (c0).toInt8.toInt32), (.int (c1).toInt8.toInt32)] (.int 0) := by have q := A_10; rw [nar_i2b] at q; exact q
      refine Go.iinc (pc' := 35) (2 : Int32) #[.val (.ref c), .val (.int (2 : Int32)), .val (.ref d), .val (.int (1 : Int32)), .val (.int (2 : Int32)), .val (.int (1 : Int32)), .val (.int c1)] d_jdk_52_method_21_code_32 rfl (by decide) rfl rfl ?_
      refine Go.iinc (pc' := 38) (2 : Int32) #[.val (.ref c), .val (.int (2 : Int32)), .val (.ref d), .val (.int (2 : Int32)), .val (.int (2 : Int32)), .val (.int (1 : Int32)), .val (.int c1)] d_jdk_52_method_21_code_35 rfl (by decide) rfl rfl ?_
      refine Go.iinc (pc' := 41) (2 : Int32) #[.val (.ref c), .val (.int (2 : Int32)), .val (.ref d), .val (.int (2 : Int32)), .val (.int (2 : Int32)), .val (.int (2 : Int32)), .val (.int c1)] d_jdk_52_method_21_code_38 rfl (by decide) rfl rfl ?_
      refine Go.goto (pc' := 3) d_jdk_52_method_21_code_41 (by decide) (by decide) ?_
      refine Go.iload (pc' := 5) d_jdk_52_method_21_code_3 rfl rfl ?_
      refine Go.iload (pc' := 7) d_jdk_52_method_21_code_5 rfl rfl ?_
      refine Go.icmpT (pc' := 44) d_jdk_52_method_21_code_7 (show ¬ ((2 : Int32) < (2 : Int32)) by decide) (by decide) (by decide) ?_
      refine Go.iload (pc' := 46) d_jdk_52_method_21_code_44 rfl rfl ?_
      refine Go.retI rfl [] (fun _ q => nomatch q) d_jdk_52_method_21_code_46 (by decide) (by decide) ?_
      exact ⟨(Keep.wr (Keep.wr (Keep.refl _ [d]) W_3 (Or.inl (by simp))) W_9 (Or.inl (by simp))), Or.inl ⟨rfl, F_11, ⟨hc_1, hc_7⟩⟩⟩
    · have hc_7 : (255 : Int32) < c1 := hc_7
      refine Go.iload (pc' := 25) d_jdk_52_method_21_code_23 rfl rfl ?_
      refine Go.retI rfl [] (fun _ q => nomatch q) d_jdk_52_method_21_code_25 (by decide) (by decide) ?_
      exact ⟨(Keep.wr (Keep.refl _ [d]) W_3 (Or.inl (by simp))), Or.inr (Or.inr (⟨rfl, hc_7⟩))⟩
  · have hc_1 : (255 : Int32) < c0 := hc_1
    refine Go.iload (pc' := 25) d_jdk_52_method_21_code_23 rfl rfl ?_
    refine Go.retI rfl [] (fun _ q => nomatch q) d_jdk_52_method_21_code_25 (by decide) (by decide) ?_
    exact ⟨(Keep.refl _ [d]), Or.inr (Or.inl ⟨rfl, hc_1⟩)⟩
set_option maxRecDepth 65536 in
set_option maxHeartbeats 40000000 in
theorem ct_c3_2 (l : Launch) (Z : State) (a0 : Array Value) (hw : ∀ d ∈ tables_1, d.before a0 Z = true) (n0 : Nat) (h0 : Heap) (c : Addr) (kc : ClassId) (c0 c1 : Int32) (AC : Arv Z h0 c kc .char (2 : Int32) [(.int c0), (.int c1)] (.int 0)) (hr0 : ¬ c0 < 0) (hs0 : ¬ 65535 < c0) (hr1 : ¬ c1 < 0) (hs1 : ¬ 65535 < c1) (hn0 : n0 ≤ h0.size) (S_ad : Sta Z h0 "java/lang/StringUTF16" "$assertionsDisabled" "Z" (.int (1 : Int32))) (S_hi : Sta Z h0 "java/lang/StringUTF16" "HI_BYTE_SHIFT" "I" (.int (0 : Int32))) (S_lo : Sta Z h0 "java/lang/StringUTF16" "LO_BYTE_SHIFT" "I" (.int (8 : Int32))) :
    Ct l Z (⟨"java/lang/StringUTF16", "compress", "([CII)[B"⟩ : MethodName) jdk_52_method_16_code 6 (some (.array .byte)) ({ frames := 3, cells := 2, slots := 6, locals := 40 } : Room) EL1 n0 true [] #[(.ref c), (.int (0 : Int32)), (.int (2 : Int32))] h0 [] (fun v h N => ∃ d kd, v = some (.ref d) ∧ h0.size ≤ d ∧ d < h.size ∧ Keep h0 h [] ∧ ((Arv Z h d kd .byte (2 : Int32) [(.int (c0).toInt8.toInt32), (.int (c1).toInt8.toInt32)] (.int 0) ∧ ¬ 255 < c0 ∧ ¬ 255 < c1) ∨ Arv Z h d kd .byte (4 : Int32) [(.int (c0 >>> ((0 : Int32) &&& 31)).toInt8.toInt32), (.int (c0 >>> ((8 : Int32) &&& 31)).toInt8.toInt32), (.int (c1 >>> ((0 : Int32) &&& 31)).toInt8.toInt32), (.int (c1 >>> ((8 : Int32) &&& 31)).toInt8.toInt32)] (.int 0))) := by
  refine Ct.of (a0 := a0) (plainFor_of_name pn_java_lang_StringUTF16) (own_ew hw) (L0 := #[.val (.ref c), .val (.int (0 : Int32)), .val (.int (2 : Int32)), .unset, .unset, .unset]) (fun m => by first | (simp [entryFrame, mkF, argsToLocals, Value.category]; done) | rfl) ?_
  have l0_AC := nlt AC.lt
  refine Go.iloadN (pc' := 1) d_jdk_52_method_16_code_0 rfl rfl ?_
  refine Go.newPV (pc' := 3) (a1 := a0) 2 [(.int (0 : Int32)), (.int (0 : Int32))] d_jdk_52_method_16_code_1 (hw _ (List.mem_of_getElem? (i := 22) rfl)) (by decide) (by decide) (by decide) (by decide) (by decide) rfl rfl (fun a_1 h_2 cA_3 ha_4 E_5 A_6 => ?_)
  have szh_2 : h0.size ≤ h_2.size := E_5.1
  have lta_1 := nlt A_6.lt
  have qa_1 := neq ha_4
  have F_7 : Arv Z h_2 a_1 cA_3 .byte (2 : Int32) [(.int (0 : Int32)), (.int (0 : Int32))] (.int 0) := A_6
  refine Go.astoreN (pc' := 4) #[.val (.ref c), .val (.int (0 : Int32)), .val (.int (2 : Int32)), .val (.ref a_1), .unset, .unset] d_jdk_52_method_16_code_3 rfl rfl rfl ?_
  refine Go.aloadN (pc' := 5) d_jdk_52_method_16_code_4 rfl rfl rfl ?_
  refine Go.iloadN (pc' := 6) d_jdk_52_method_16_code_5 rfl rfl ?_
  refine Go.aloadN (pc' := 7) d_jdk_52_method_16_code_6 rfl rfl rfl ?_
  refine Go.iconst (pc' := 8) 0 d_jdk_52_method_16_code_7 rfl rfl ?_
  refine Go.iloadN (pc' := 9) d_jdk_52_method_16_code_8 rfl rfl ?_
  have F_11 : Arv Z h_2 c kc .char (2 : Int32) [(.int c0), (.int c1)] (.int 0) := (Arv.ext AC E_5)
  refine Go.callS (a1 := a0) (pc' := 12) (argsL := [(.ref c), (.int (0 : Int32)), (.ref a_1), (.int (0 : Int32)), (.int (2 : Int32))]) (rest := []) (ct_c5_2 l Z a0 hw n0 h_2 c a_1 kc cA_3 c0 c1 F_11 F_7 (by omega) (nne (by omega))) d_jdk_52_method_16_code_9 (hw _ (List.mem_of_getElem? (i := 43) rfl)) (hw _ (List.mem_of_getElem? (i := 44) rfl)) (hw _ (List.mem_of_getElem? (i := 41) rfl)) (hw _ (List.mem_of_getElem? (i := 45) rfl)) (by decide) (lenOf pd__28_5bCI_5bBII_29I rfl) rfl 0 rfl rfl (by decide) (by decide) (by decide) (by decide) (by intro x hx; simp only [List.mem_cons, List.not_mem_nil, or_false] at hx; rcases hx with rfl; all_goals simp) rfl (fun v_12 h_13 N_14 hQ_15 hle_16 => ?_)
  obtain ⟨K_8, hi_9⟩ := hQ_15
  rcases hi_9 with ⟨rfl, A_10, hi_9⟩ | ⟨rfl, hi_9⟩ | ⟨rfl, hi_9⟩
  · refine Go.re (pc' := 12) (L' := #[.val (.ref c), .val (.int (0 : Int32)), .val (.int (2 : Int32)), .val (.ref a_1), .unset, .unset]) (S' := [(.int (2 : Int32))]) rfl rfl rfl ?_
    refine Go.istore (pc' := 14) #[.val (.ref c), .val (.int (0 : Int32)), .val (.int (2 : Int32)), .val (.ref a_1), .val (.int (2 : Int32)), .unset] d_jdk_52_method_16_code_12 rfl rfl ?_
    refine Go.iload (pc' := 16) d_jdk_52_method_16_code_14 rfl rfl ?_
    refine Go.iloadN (pc' := 17) d_jdk_52_method_16_code_16 rfl rfl ?_
    refine Go.icmpT (pc' := 57) d_jdk_52_method_16_code_17 (show (2 : Int32) = (2 : Int32) by decide) (by decide) (by decide) ?_
    refine Go.aloadN (pc' := 58) d_jdk_52_method_16_code_57 rfl rfl rfl ?_
    refine Go.retA rfl rfl rfl [] (fun _ q => nomatch q) d_jdk_52_method_16_code_58 (by decide) (by decide) ?_
    exact ⟨a_1, _, rfl, by omega, A_10.lt, (Keep.trans (Keep.ext (Keep.refl _ []) E_5) K_8 (allS (Or.inr (by omega)) all0)), Or.inl ⟨A_10, hi_9⟩⟩
  · refine Go.re (pc' := 12) (L' := #[.val (.ref c), .val (.int (0 : Int32)), .val (.int (2 : Int32)), .val (.ref a_1), .unset, .unset]) (S' := [(.int (0 : Int32))]) rfl rfl rfl ?_
    refine Go.istore (pc' := 14) #[.val (.ref c), .val (.int (0 : Int32)), .val (.int (2 : Int32)), .val (.ref a_1), .val (.int (0 : Int32)), .unset] d_jdk_52_method_16_code_12 rfl rfl ?_
    refine Go.iload (pc' := 16) d_jdk_52_method_16_code_14 rfl rfl ?_
    refine Go.iloadN (pc' := 17) d_jdk_52_method_16_code_16 rfl rfl ?_
    refine Go.icmpF (pc' := 20) d_jdk_52_method_16_code_17 (show ¬ ((0 : Int32) = (2 : Int32)) by decide) rfl ?_
    refine Go.aloadN (pc' := 21) d_jdk_52_method_16_code_20 rfl rfl rfl ?_
    refine Go.iloadN (pc' := 22) d_jdk_52_method_16_code_21 rfl rfl ?_
    refine Go.iloadN (pc' := 23) d_jdk_52_method_16_code_22 rfl rfl ?_
    have F_23 : Arv Z h_13 c kc .char (2 : Int32) [(.int c0), (.int c1)] (.int 0) := (Arv.keep F_11 K_8 (ninS (nne (by omega)) nin0))
    have F_24 : Sta Z h_13 "java/lang/StringUTF16" "$assertionsDisabled" "Z" (.int (1 : Int32)) := (sta_keep (Sta.ext E_5 S_ad) K_8 (nsS (Arv.nostat F_7) ns0))
    have F_25 : Sta Z h_13 "java/lang/StringUTF16" "HI_BYTE_SHIFT" "I" (.int (0 : Int32)) := (sta_keep (Sta.ext E_5 S_hi) K_8 (nsS (Arv.nostat F_7) ns0))
    have F_26 : Sta Z h_13 "java/lang/StringUTF16" "LO_BYTE_SHIFT" "I" (.int (8 : Int32)) := (sta_keep (Sta.ext E_5 S_lo) K_8 (nsS (Arv.nostat F_7) ns0))
    refine Go.callS (a1 := a0) (pc' := 26) (argsL := [(.ref c), (.int (0 : Int32)), (.int (2 : Int32))]) (rest := []) (ct_tb_2 l Z a0 hw n0 h_13 c kc c0 c1 F_23 (by omega) F_24 F_25 F_26) d_jdk_52_method_16_code_23 (hw _ (List.mem_of_getElem? (i := 112) rfl)) (hw _ (List.mem_of_getElem? (i := 113) rfl)) (hw _ (List.mem_of_getElem? (i := 41) rfl)) (hw _ (List.mem_of_getElem? (i := 114) rfl)) (by decide) (lenOf pd__28_5bCII_29_5bB rfl) rfl 0 rfl rfl (by decide) (by decide) (by decide) (by decide) (fun _ q => nomatch q) rfl (fun v_27 h_28 N_29 hQ_30 hle_31 => ?_)
    obtain ⟨e_17, ke_18, rfl, g_19, g_20, K_21, F_22⟩ := hQ_30
    have lte_17 := nlt g_20
    refine Go.re (pc' := 26) (L' := #[.val (.ref c), .val (.int (0 : Int32)), .val (.int (2 : Int32)), .val (.ref a_1), .val (.int (0 : Int32)), .unset]) (S' := [(.ref e_17)]) rfl rfl rfl ?_
    refine Go.astore (pc' := 28) #[.val (.ref c), .val (.int (0 : Int32)), .val (.int (2 : Int32)), .val (.ref a_1), .val (.int (0 : Int32)), .val (.ref e_17)] d_jdk_52_method_16_code_26 rfl rfl rfl ?_
    refine Go.aload (pc' := 30) d_jdk_52_method_16_code_28 rfl rfl rfl ?_
    refine Go.iload (pc' := 32) d_jdk_52_method_16_code_30 rfl rfl ?_
    have F_32 : Sta Z h_28 "java/lang/StringUTF16" "$assertionsDisabled" "Z" (.int (1 : Int32)) := (sta_keep F_24 K_21 ns0)
    have F_33 : Sta Z h_28 "java/lang/StringUTF16" "HI_BYTE_SHIFT" "I" (.int (0 : Int32)) := (sta_keep F_25 K_21 ns0)
    have F_34 : Sta Z h_28 "java/lang/StringUTF16" "LO_BYTE_SHIFT" "I" (.int (8 : Int32)) := (sta_keep F_26 K_21 ns0)
    refine Go.callS (a1 := a0) (pc' := 35) (argsL := [(.ref e_17), (.int (0 : Int32))]) (rest := []) (ct_get l Z a0 hw n0 h_28 e_17 ke_18 4 0 [(c0 >>> ((0 : Int32) &&& 31)).toInt8.toInt32, (c0 >>> ((8 : Int32) &&& 31)).toInt8.toInt32, (c1 >>> ((0 : Int32) &&& 31)).toInt8.toInt32, (c1 >>> ((8 : Int32) &&& 31)).toInt8.toInt32] F_22 (by decide) (by decide) F_32 F_33 F_34) d_jdk_52_method_16_code_32 (hw _ (List.mem_of_getElem? (i := 128) rfl)) (hw _ (List.mem_of_getElem? (i := 129) rfl)) (hw _ (List.mem_of_getElem? (i := 41) rfl)) (hw _ (List.mem_of_getElem? (i := 130) rfl)) (by decide) (lenOf pd__28_5bBI_29C rfl) rfl 0 rfl rfl (by decide) (by decide) (by decide) (by decide) (fun _ q => nomatch q) rfl (fun v_35 h_36 N_37 hQ_38 hle_39 => ?_)
    obtain ⟨rfl, rfl⟩ := hQ_38
    refine Go.re (pc' := 35) (L' := #[.val (.ref c), .val (.int (0 : Int32)), .val (.int (2 : Int32)), .val (.ref a_1), .val (.int (0 : Int32)), .val (.ref e_17)]) (S' := [(.int c0)]) rfl rfl (congrArg (fun z => Value.int z :: _) (show (nar .char ((((c0 >>> ((0 : Int32) &&& 31)).toInt8.toInt32 &&& (255 : Int32)) <<< ((0 : Int32) &&& 31)) ||| (((c0 >>> ((8 : Int32) &&& 31)).toInt8.toInt32 &&& (255 : Int32)) <<< ((8 : Int32) &&& 31)))) = c0 from gchar hr0 hs0)) ?_
    refine Go.sipush (pc' := 38) 255 d_jdk_52_method_16_code_35 rfl rfl ?_
    refine Go.icmpT (pc' := 54) d_jdk_52_method_16_code_38 (hi_9) (by decide) (by decide) ?_
    refine Go.aload (pc' := 56) d_jdk_52_method_16_code_54 rfl rfl rfl ?_
    refine Go.retA rfl rfl rfl [] (fun _ q => nomatch q) d_jdk_52_method_16_code_56 (by decide) (by decide) ?_
    exact ⟨e_17, _, rfl, by omega, F_22.lt, (Keep.trans (Keep.trans (Keep.ext (Keep.refl _ []) E_5) K_8 (allS (Or.inr (by omega)) all0)) K_21 all0), Or.inr F_22⟩
  · refine Go.re (pc' := 12) (L' := #[.val (.ref c), .val (.int (0 : Int32)), .val (.int (2 : Int32)), .val (.ref a_1), .unset, .unset]) (S' := [(.int (1 : Int32))]) rfl rfl rfl ?_
    refine Go.istore (pc' := 14) #[.val (.ref c), .val (.int (0 : Int32)), .val (.int (2 : Int32)), .val (.ref a_1), .val (.int (1 : Int32)), .unset] d_jdk_52_method_16_code_12 rfl rfl ?_
    refine Go.iload (pc' := 16) d_jdk_52_method_16_code_14 rfl rfl ?_
    refine Go.iloadN (pc' := 17) d_jdk_52_method_16_code_16 rfl rfl ?_
    refine Go.icmpF (pc' := 20) d_jdk_52_method_16_code_17 (show ¬ ((1 : Int32) = (2 : Int32)) by decide) rfl ?_
    refine Go.aloadN (pc' := 21) d_jdk_52_method_16_code_20 rfl rfl rfl ?_
    refine Go.iloadN (pc' := 22) d_jdk_52_method_16_code_21 rfl rfl ?_
    refine Go.iloadN (pc' := 23) d_jdk_52_method_16_code_22 rfl rfl ?_
    have F_46 : Arv Z h_13 c kc .char (2 : Int32) [(.int c0), (.int c1)] (.int 0) := (Arv.keep F_11 K_8 (ninS (nne (by omega)) nin0))
    have F_47 : Sta Z h_13 "java/lang/StringUTF16" "$assertionsDisabled" "Z" (.int (1 : Int32)) := (sta_keep (Sta.ext E_5 S_ad) K_8 (nsS (Arv.nostat F_7) ns0))
    have F_48 : Sta Z h_13 "java/lang/StringUTF16" "HI_BYTE_SHIFT" "I" (.int (0 : Int32)) := (sta_keep (Sta.ext E_5 S_hi) K_8 (nsS (Arv.nostat F_7) ns0))
    have F_49 : Sta Z h_13 "java/lang/StringUTF16" "LO_BYTE_SHIFT" "I" (.int (8 : Int32)) := (sta_keep (Sta.ext E_5 S_lo) K_8 (nsS (Arv.nostat F_7) ns0))
    refine Go.callS (a1 := a0) (pc' := 26) (argsL := [(.ref c), (.int (0 : Int32)), (.int (2 : Int32))]) (rest := []) (ct_tb_2 l Z a0 hw n0 h_13 c kc c0 c1 F_46 (by omega) F_47 F_48 F_49) d_jdk_52_method_16_code_23 (hw _ (List.mem_of_getElem? (i := 112) rfl)) (hw _ (List.mem_of_getElem? (i := 113) rfl)) (hw _ (List.mem_of_getElem? (i := 41) rfl)) (hw _ (List.mem_of_getElem? (i := 114) rfl)) (by decide) (lenOf pd__28_5bCII_29_5bB rfl) rfl 0 rfl rfl (by decide) (by decide) (by decide) (by decide) (fun _ q => nomatch q) rfl (fun v_50 h_51 N_52 hQ_53 hle_54 => ?_)
    obtain ⟨e_40, ke_41, rfl, g_42, g_43, K_44, F_45⟩ := hQ_53
    have lte_40 := nlt g_43
    refine Go.re (pc' := 26) (L' := #[.val (.ref c), .val (.int (0 : Int32)), .val (.int (2 : Int32)), .val (.ref a_1), .val (.int (1 : Int32)), .unset]) (S' := [(.ref e_40)]) rfl rfl rfl ?_
    refine Go.astore (pc' := 28) #[.val (.ref c), .val (.int (0 : Int32)), .val (.int (2 : Int32)), .val (.ref a_1), .val (.int (1 : Int32)), .val (.ref e_40)] d_jdk_52_method_16_code_26 rfl rfl rfl ?_
    refine Go.aload (pc' := 30) d_jdk_52_method_16_code_28 rfl rfl rfl ?_
    refine Go.iload (pc' := 32) d_jdk_52_method_16_code_30 rfl rfl ?_
    have F_55 : Sta Z h_51 "java/lang/StringUTF16" "$assertionsDisabled" "Z" (.int (1 : Int32)) := (sta_keep F_47 K_44 ns0)
    have F_56 : Sta Z h_51 "java/lang/StringUTF16" "HI_BYTE_SHIFT" "I" (.int (0 : Int32)) := (sta_keep F_48 K_44 ns0)
    have F_57 : Sta Z h_51 "java/lang/StringUTF16" "LO_BYTE_SHIFT" "I" (.int (8 : Int32)) := (sta_keep F_49 K_44 ns0)
    refine Go.callS (a1 := a0) (pc' := 35) (argsL := [(.ref e_40), (.int (1 : Int32))]) (rest := []) (ct_get l Z a0 hw n0 h_51 e_40 ke_41 4 1 [(c0 >>> ((0 : Int32) &&& 31)).toInt8.toInt32, (c0 >>> ((8 : Int32) &&& 31)).toInt8.toInt32, (c1 >>> ((0 : Int32) &&& 31)).toInt8.toInt32, (c1 >>> ((8 : Int32) &&& 31)).toInt8.toInt32] F_45 (by decide) (by decide) F_55 F_56 F_57) d_jdk_52_method_16_code_32 (hw _ (List.mem_of_getElem? (i := 128) rfl)) (hw _ (List.mem_of_getElem? (i := 129) rfl)) (hw _ (List.mem_of_getElem? (i := 41) rfl)) (hw _ (List.mem_of_getElem? (i := 130) rfl)) (by decide) (lenOf pd__28_5bBI_29C rfl) rfl 0 rfl rfl (by decide) (by decide) (by decide) (by decide) (fun _ q => nomatch q) rfl (fun v_58 h_59 N_60 hQ_61 hle_62 => ?_)
    obtain ⟨rfl, rfl⟩ := hQ_61
    refine Go.re (pc' := 35) (L' := #[.val (.ref c), .val (.int (0 : Int32)), .val (.int (2 : Int32)), .val (.ref a_1), .val (.int (1 : Int32)), .val (.ref e_40)]) (S' := [(.int c1)]) rfl rfl (congrArg (fun z => Value.int z :: _) (show (nar .char ((((c1 >>> ((0 : Int32) &&& 31)).toInt8.toInt32 &&& (255 : Int32)) <<< ((0 : Int32) &&& 31)) ||| (((c1 >>> ((8 : Int32) &&& 31)).toInt8.toInt32 &&& (255 : Int32)) <<< ((8 : Int32) &&& 31)))) = c1 from gchar hr1 hs1)) ?_
    refine Go.sipush (pc' := 38) 255 d_jdk_52_method_16_code_35 rfl rfl ?_
    refine Go.icmpT (pc' := 54) d_jdk_52_method_16_code_38 (hi_9) (by decide) (by decide) ?_
    refine Go.aload (pc' := 56) d_jdk_52_method_16_code_54 rfl rfl rfl ?_
    refine Go.retA rfl rfl rfl [] (fun _ q => nomatch q) d_jdk_52_method_16_code_56 (by decide) (by decide) ?_
    exact ⟨e_40, _, rfl, by omega, F_45.lt, (Keep.trans (Keep.trans (Keep.ext (Keep.refl _ []) E_5) K_8 (allS (Or.inr (by omega)) all0)) K_44 all0), Or.inr F_45⟩
set_option maxRecDepth 65536 in
set_option maxHeartbeats 40000000 in
theorem ct_c5_3 (l : Launch) (Z : State) (a0 : Array Value) (hw : ∀ d ∈ tables_1, d.before a0 Z = true) (n0 : Nat) (h0 : Heap) (c d : Addr) (kc kd : ClassId) (c0 c1 c2 : Int32) (AC : Arv Z h0 c kc .char (3 : Int32) [(.int c0), (.int c1), (.int c2)] (.int 0)) (AD : Arv Z h0 d kd .byte (3 : Int32) [(.int (0 : Int32)), (.int (0 : Int32)), (.int (0 : Int32))] (.int 0)) (hd : n0 ≤ d) (hcd : c ≠ d) :
    Ct l Z (⟨"java/lang/StringUTF16", "compress", "([CI[BII)I"⟩ : MethodName) jdk_52_method_21_code 7 (some .int) ({ frames := 0, cells := 0, slots := 0, locals := 0 } : Room) EL1 n0 true [] #[(.ref c), (.int (0 : Int32)), (.ref d), (.int (0 : Int32)), (.int (3 : Int32))] h0 [d] (fun v h N => Keep h0 h [d] ∧ ((v = some (.int (3 : Int32)) ∧ Arv Z h d kd .byte (3 : Int32) [(.int (c0).toInt8.toInt32), (.int (c1).toInt8.toInt32), (.int (c2).toInt8.toInt32)] (.int 0) ∧ ¬ 255 < c0 ∧ ¬ 255 < c1 ∧ ¬ 255 < c2) ∨ (v = some (.int (0 : Int32)) ∧ 255 < c0) ∨ (v = some (.int (1 : Int32)) ∧ 255 < c1) ∨ (v = some (.int (2 : Int32)) ∧ 255 < c2))) := by
  refine Ct.of (a0 := a0) (plainFor_of_name pn_java_lang_StringUTF16) (own_ew hw) (L0 := #[.val (.ref c), .val (.int (0 : Int32)), .val (.ref d), .val (.int (0 : Int32)), .val (.int (3 : Int32)), .unset, .unset]) (fun m => by first | (simp [entryFrame, mkF, argsToLocals, Value.category]; done) | rfl) ?_
  have hcd9 := nne hcd
  have l0_AC := nlt AC.lt
  have l0_AD := nlt AD.lt
  refine Go.iconst (pc' := 1) 0 d_jdk_52_method_21_code_0 rfl rfl ?_
  refine Go.istore (pc' := 3) #[.val (.ref c), .val (.int (0 : Int32)), .val (.ref d), .val (.int (0 : Int32)), .val (.int (3 : Int32)), .val (.int (0 : Int32)), .unset] d_jdk_52_method_21_code_1 rfl rfl ?_
  refine Go.iload (pc' := 5) d_jdk_52_method_21_code_3 rfl rfl ?_
  refine Go.iload (pc' := 7) d_jdk_52_method_21_code_5 rfl rfl ?_
  refine Go.icmpF (pc' := 10) d_jdk_52_method_21_code_7 (show (0 : Int32) < (3 : Int32) by decide) rfl ?_
  refine Go.aloadN (pc' := 11) d_jdk_52_method_21_code_10 rfl rfl rfl ?_
  refine Go.iloadN (pc' := 12) d_jdk_52_method_21_code_11 rfl rfl ?_
  refine Go.caloadV (pc' := 13) d_jdk_52_method_21_code_12 AC (by decide) rfl rfl ?_
  refine Go.istore (pc' := 15) #[.val (.ref c), .val (.int (0 : Int32)), .val (.ref d), .val (.int (0 : Int32)), .val (.int (3 : Int32)), .val (.int (0 : Int32)), .val (.int c0)] d_jdk_52_method_21_code_13 rfl rfl ?_
  refine Go.iload (pc' := 17) d_jdk_52_method_21_code_15 rfl rfl ?_
  refine Go.sipush (pc' := 20) 255 d_jdk_52_method_21_code_17 rfl rfl ?_
  refine Go.icmp (pc' := 26) (pc'' := 23) d_jdk_52_method_21_code_20 (by decide) (by decide) rfl (fun hc_1 => ?_) (fun hc_1 => ?_)
  · have hc_1 : ¬ ((255 : Int32) < c0) := hc_1
    refine Go.aloadN (pc' := 27) d_jdk_52_method_21_code_26 rfl rfl rfl ?_
    refine Go.iloadN (pc' := 28) d_jdk_52_method_21_code_27 rfl rfl ?_
    refine Go.iload (pc' := 30) d_jdk_52_method_21_code_28 rfl rfl ?_
    refine Go.i2b (pc' := 31) d_jdk_52_method_21_code_30 rfl ?_
    refine Go.bastoreV (pc' := 32) 0 d_jdk_52_method_21_code_31 AD (by decide) rfl (show 0 < 3 by decide) (Sf.mem (by simp)) (by omega) rfl (fun h_2 W_3 A_4 => ?_)
    have szh_2 : h_2.size = h0.size := Wr.size W_3
    have F_5 : Arv Z h_2 d kd .byte (3 : Int32) [(.int (c0).toInt8.toInt32), (.int (0 : Int32)), (.int (0 : Int32))] (.int 0) := by have q := A_4; rw [nar_i2b] at q; exact q
    refine Go.iinc (pc' := 35) (1 : Int32) #[.val (.ref c), .val (.int (1 : Int32)), .val (.ref d), .val (.int (0 : Int32)), .val (.int (3 : Int32)), .val (.int (0 : Int32)), .val (.int c0)] d_jdk_52_method_21_code_32 rfl (by decide) rfl rfl ?_
    refine Go.iinc (pc' := 38) (1 : Int32) #[.val (.ref c), .val (.int (1 : Int32)), .val (.ref d), .val (.int (1 : Int32)), .val (.int (3 : Int32)), .val (.int (0 : Int32)), .val (.int c0)] d_jdk_52_method_21_code_35 rfl (by decide) rfl rfl ?_
    refine Go.iinc (pc' := 41) (1 : Int32) #[.val (.ref c), .val (.int (1 : Int32)), .val (.ref d), .val (.int (1 : Int32)), .val (.int (3 : Int32)), .val (.int (1 : Int32)), .val (.int c0)] d_jdk_52_method_21_code_38 rfl (by decide) rfl rfl ?_
    refine Go.goto (pc' := 3) d_jdk_52_method_21_code_41 (by decide) (by decide) ?_
    refine Go.iload (pc' := 5) d_jdk_52_method_21_code_3 rfl rfl ?_
    refine Go.iload (pc' := 7) d_jdk_52_method_21_code_5 rfl rfl ?_
    refine Go.icmpF (pc' := 10) d_jdk_52_method_21_code_7 (show (1 : Int32) < (3 : Int32) by decide) rfl ?_
    refine Go.aloadN (pc' := 11) d_jdk_52_method_21_code_10 rfl rfl rfl ?_
    refine Go.iloadN (pc' := 12) d_jdk_52_method_21_code_11 rfl rfl ?_
    have F_6 : Arv Z h_2 c kc .char (3 : Int32) [(.int c0), (.int c1), (.int c2)] (.int 0) := (Arv.other AC W_3 (nne (by omega)))
    refine Go.caloadV (pc' := 13) d_jdk_52_method_21_code_12 F_6 (by decide) rfl rfl ?_
    refine Go.istore (pc' := 15) #[.val (.ref c), .val (.int (1 : Int32)), .val (.ref d), .val (.int (1 : Int32)), .val (.int (3 : Int32)), .val (.int (1 : Int32)), .val (.int c1)] d_jdk_52_method_21_code_13 rfl rfl ?_
    refine Go.iload (pc' := 17) d_jdk_52_method_21_code_15 rfl rfl ?_
    refine Go.sipush (pc' := 20) 255 d_jdk_52_method_21_code_17 rfl rfl ?_
    refine Go.icmp (pc' := 26) (pc'' := 23) d_jdk_52_method_21_code_20 (by decide) (by decide) rfl (fun hc_7 => ?_) (fun hc_7 => ?_)
    · have hc_7 : ¬ ((255 : Int32) < c1) := hc_7
      refine Go.aloadN (pc' := 27) d_jdk_52_method_21_code_26 rfl rfl rfl ?_
      refine Go.iloadN (pc' := 28) d_jdk_52_method_21_code_27 rfl rfl ?_
      refine Go.iload (pc' := 30) d_jdk_52_method_21_code_28 rfl rfl ?_
      refine Go.i2b (pc' := 31) d_jdk_52_method_21_code_30 rfl ?_
      refine Go.bastoreV (pc' := 32) 1 d_jdk_52_method_21_code_31 F_5 (by decide) rfl (show 1 < 3 by decide) (Sf.mem (by simp)) (by omega) rfl (fun h_8 W_9 A_10 => ?_)
      have szh_8 : h_8.size = h_2.size := Wr.size W_9
      have F_11 : Arv Z h_8 d kd .byte (3 : Int32) [(.int (c0).toInt8.toInt32), (.int (c1).toInt8.toInt32), (.int (0 : Int32))] (.int 0) := by have q := A_10; rw [nar_i2b] at q; exact q
      refine Go.iinc (pc' := 35) (2 : Int32) #[.val (.ref c), .val (.int (2 : Int32)), .val (.ref d), .val (.int (1 : Int32)), .val (.int (3 : Int32)), .val (.int (1 : Int32)), .val (.int c1)] d_jdk_52_method_21_code_32 rfl (by decide) rfl rfl ?_
      refine Go.iinc (pc' := 38) (2 : Int32) #[.val (.ref c), .val (.int (2 : Int32)), .val (.ref d), .val (.int (2 : Int32)), .val (.int (3 : Int32)), .val (.int (1 : Int32)), .val (.int c1)] d_jdk_52_method_21_code_35 rfl (by decide) rfl rfl ?_
      refine Go.iinc (pc' := 41) (2 : Int32) #[.val (.ref c), .val (.int (2 : Int32)), .val (.ref d), .val (.int (2 : Int32)), .val (.int (3 : Int32)), .val (.int (2 : Int32)), .val (.int c1)] d_jdk_52_method_21_code_38 rfl (by decide) rfl rfl ?_
      refine Go.goto (pc' := 3) d_jdk_52_method_21_code_41 (by decide) (by decide) ?_
      refine Go.iload (pc' := 5) d_jdk_52_method_21_code_3 rfl rfl ?_
      refine Go.iload (pc' := 7) d_jdk_52_method_21_code_5 rfl rfl ?_
      refine Go.icmpF (pc' := 10) d_jdk_52_method_21_code_7 (show (2 : Int32) < (3 : Int32) by decide) rfl ?_
      refine Go.aloadN (pc' := 11) d_jdk_52_method_21_code_10 rfl rfl rfl ?_
      refine Go.iloadN (pc' := 12) d_jdk_52_method_21_code_11 rfl rfl ?_
      have F_12 : Arv Z h_8 c kc .char (3 : Int32) [(.int c0), (.int c1), (.int c2)] (.int 0) := (Arv.other F_6 W_9 (nne (by omega)))
      refine Go.caloadV (pc' := 13) d_jdk_52_method_21_code_12 F_12 (by decide) rfl rfl ?_
      refine Go.istore (pc' := 15) #[.val (.ref c), .val (.int (2 : Int32)), .val (.ref d), .val (.int (2 : Int32)), .val (.int (3 : Int32)), .val (.int (2 : Int32)), .val (.int c2)] d_jdk_52_method_21_code_13 rfl rfl ?_
      refine Go.iload (pc' := 17) d_jdk_52_method_21_code_15 rfl rfl ?_
      refine Go.sipush (pc' := 20) 255 d_jdk_52_method_21_code_17 rfl rfl ?_
      refine Go.icmp (pc' := 26) (pc'' := 23) d_jdk_52_method_21_code_20 (by decide) (by decide) rfl (fun hc_13 => ?_) (fun hc_13 => ?_)
      · have hc_13 : ¬ ((255 : Int32) < c2) := hc_13
        refine Go.aloadN (pc' := 27) d_jdk_52_method_21_code_26 rfl rfl rfl ?_
        refine Go.iloadN (pc' := 28) d_jdk_52_method_21_code_27 rfl rfl ?_
        refine Go.iload (pc' := 30) d_jdk_52_method_21_code_28 rfl rfl ?_
        refine Go.i2b (pc' := 31) d_jdk_52_method_21_code_30 rfl ?_
        refine Go.bastoreV (pc' := 32) 2 d_jdk_52_method_21_code_31 F_11 (by decide) rfl (show 2 < 3 by decide) (Sf.mem (by simp)) (by omega) rfl (fun h_14 W_15 A_16 => ?_)
        have szh_14 : h_14.size = h_8.size := Wr.size W_15
        have F_17 : Arv Z h_14 d kd .byte (3 : Int32) [(.int (c0).toInt8.toInt32), (.int (c1).toInt8.toInt32), (.int (c2).toInt8.toInt32)] (.int 0) := by have q := A_16; rw [nar_i2b] at q; exact q
        refine Go.iinc (pc' := 35) (3 : Int32) #[.val (.ref c), .val (.int (3 : Int32)), .val (.ref d), .val (.int (2 : Int32)), .val (.int (3 : Int32)), .val (.int (2 : Int32)), .val (.int c2)] d_jdk_52_method_21_code_32 rfl (by decide) rfl rfl ?_
        refine Go.iinc (pc' := 38) (3 : Int32) #[.val (.ref c), .val (.int (3 : Int32)), .val (.ref d), .val (.int (3 : Int32)), .val (.int (3 : Int32)), .val (.int (2 : Int32)), .val (.int c2)] d_jdk_52_method_21_code_35 rfl (by decide) rfl rfl ?_
        refine Go.iinc (pc' := 41) (3 : Int32) #[.val (.ref c), .val (.int (3 : Int32)), .val (.ref d), .val (.int (3 : Int32)), .val (.int (3 : Int32)), .val (.int (3 : Int32)), .val (.int c2)] d_jdk_52_method_21_code_38 rfl (by decide) rfl rfl ?_
        refine Go.goto (pc' := 3) d_jdk_52_method_21_code_41 (by decide) (by decide) ?_
        refine Go.iload (pc' := 5) d_jdk_52_method_21_code_3 rfl rfl ?_
        refine Go.iload (pc' := 7) d_jdk_52_method_21_code_5 rfl rfl ?_
        refine Go.icmpT (pc' := 44) d_jdk_52_method_21_code_7 (show ¬ ((3 : Int32) < (3 : Int32)) by decide) (by decide) (by decide) ?_
        refine Go.iload (pc' := 46) d_jdk_52_method_21_code_44 rfl rfl ?_
        refine Go.retI rfl [] (fun _ q => nomatch q) d_jdk_52_method_21_code_46 (by decide) (by decide) ?_
        exact ⟨(Keep.wr (Keep.wr (Keep.wr (Keep.refl _ [d]) W_3 (Or.inl (by simp))) W_9 (Or.inl (by simp))) W_15 (Or.inl (by simp))), Or.inl ⟨rfl, F_17, ⟨hc_1, hc_7, hc_13⟩⟩⟩
      · have hc_13 : (255 : Int32) < c2 := hc_13
        refine Go.iload (pc' := 25) d_jdk_52_method_21_code_23 rfl rfl ?_
        refine Go.retI rfl [] (fun _ q => nomatch q) d_jdk_52_method_21_code_25 (by decide) (by decide) ?_
        exact ⟨(Keep.wr (Keep.wr (Keep.refl _ [d]) W_3 (Or.inl (by simp))) W_9 (Or.inl (by simp))), Or.inr (Or.inr (Or.inr (⟨rfl, hc_13⟩)))⟩
    · have hc_7 : (255 : Int32) < c1 := hc_7
      refine Go.iload (pc' := 25) d_jdk_52_method_21_code_23 rfl rfl ?_
      refine Go.retI rfl [] (fun _ q => nomatch q) d_jdk_52_method_21_code_25 (by decide) (by decide) ?_
      exact ⟨(Keep.wr (Keep.refl _ [d]) W_3 (Or.inl (by simp))), Or.inr (Or.inr (Or.inl ⟨rfl, hc_7⟩))⟩
  · have hc_1 : (255 : Int32) < c0 := hc_1
    refine Go.iload (pc' := 25) d_jdk_52_method_21_code_23 rfl rfl ?_
    refine Go.retI rfl [] (fun _ q => nomatch q) d_jdk_52_method_21_code_25 (by decide) (by decide) ?_
    exact ⟨(Keep.refl _ [d]), Or.inr (Or.inl ⟨rfl, hc_1⟩)⟩
set_option maxRecDepth 65536 in
set_option maxHeartbeats 40000000 in
theorem ct_c3_3 (l : Launch) (Z : State) (a0 : Array Value) (hw : ∀ d ∈ tables_1, d.before a0 Z = true) (n0 : Nat) (h0 : Heap) (c : Addr) (kc : ClassId) (c0 c1 c2 : Int32) (AC : Arv Z h0 c kc .char (3 : Int32) [(.int c0), (.int c1), (.int c2)] (.int 0)) (hr0 : ¬ c0 < 0) (hs0 : ¬ 65535 < c0) (hr1 : ¬ c1 < 0) (hs1 : ¬ 65535 < c1) (hr2 : ¬ c2 < 0) (hs2 : ¬ 65535 < c2) (hn0 : n0 ≤ h0.size) (S_ad : Sta Z h0 "java/lang/StringUTF16" "$assertionsDisabled" "Z" (.int (1 : Int32))) (S_hi : Sta Z h0 "java/lang/StringUTF16" "HI_BYTE_SHIFT" "I" (.int (0 : Int32))) (S_lo : Sta Z h0 "java/lang/StringUTF16" "LO_BYTE_SHIFT" "I" (.int (8 : Int32))) :
    Ct l Z (⟨"java/lang/StringUTF16", "compress", "([CII)[B"⟩ : MethodName) jdk_52_method_16_code 6 (some (.array .byte)) ({ frames := 3, cells := 2, slots := 9, locals := 40 } : Room) EL1 n0 true [] #[(.ref c), (.int (0 : Int32)), (.int (3 : Int32))] h0 [] (fun v h N => ∃ d kd, v = some (.ref d) ∧ h0.size ≤ d ∧ d < h.size ∧ Keep h0 h [] ∧ ((Arv Z h d kd .byte (3 : Int32) [(.int (c0).toInt8.toInt32), (.int (c1).toInt8.toInt32), (.int (c2).toInt8.toInt32)] (.int 0) ∧ ¬ 255 < c0 ∧ ¬ 255 < c1 ∧ ¬ 255 < c2) ∨ Arv Z h d kd .byte (6 : Int32) [(.int (c0 >>> ((0 : Int32) &&& 31)).toInt8.toInt32), (.int (c0 >>> ((8 : Int32) &&& 31)).toInt8.toInt32), (.int (c1 >>> ((0 : Int32) &&& 31)).toInt8.toInt32), (.int (c1 >>> ((8 : Int32) &&& 31)).toInt8.toInt32), (.int (c2 >>> ((0 : Int32) &&& 31)).toInt8.toInt32), (.int (c2 >>> ((8 : Int32) &&& 31)).toInt8.toInt32)] (.int 0))) := by
  refine Ct.of (a0 := a0) (plainFor_of_name pn_java_lang_StringUTF16) (own_ew hw) (L0 := #[.val (.ref c), .val (.int (0 : Int32)), .val (.int (3 : Int32)), .unset, .unset, .unset]) (fun m => by first | (simp [entryFrame, mkF, argsToLocals, Value.category]; done) | rfl) ?_
  have l0_AC := nlt AC.lt
  refine Go.iloadN (pc' := 1) d_jdk_52_method_16_code_0 rfl rfl ?_
  refine Go.newPV (pc' := 3) (a1 := a0) 3 [(.int (0 : Int32)), (.int (0 : Int32)), (.int (0 : Int32))] d_jdk_52_method_16_code_1 (hw _ (List.mem_of_getElem? (i := 22) rfl)) (by decide) (by decide) (by decide) (by decide) (by decide) rfl rfl (fun a_1 h_2 cA_3 ha_4 E_5 A_6 => ?_)
  have szh_2 : h0.size ≤ h_2.size := E_5.1
  have lta_1 := nlt A_6.lt
  have qa_1 := neq ha_4
  have F_7 : Arv Z h_2 a_1 cA_3 .byte (3 : Int32) [(.int (0 : Int32)), (.int (0 : Int32)), (.int (0 : Int32))] (.int 0) := A_6
  refine Go.astoreN (pc' := 4) #[.val (.ref c), .val (.int (0 : Int32)), .val (.int (3 : Int32)), .val (.ref a_1), .unset, .unset] d_jdk_52_method_16_code_3 rfl rfl rfl ?_
  refine Go.aloadN (pc' := 5) d_jdk_52_method_16_code_4 rfl rfl rfl ?_
  refine Go.iloadN (pc' := 6) d_jdk_52_method_16_code_5 rfl rfl ?_
  refine Go.aloadN (pc' := 7) d_jdk_52_method_16_code_6 rfl rfl rfl ?_
  refine Go.iconst (pc' := 8) 0 d_jdk_52_method_16_code_7 rfl rfl ?_
  refine Go.iloadN (pc' := 9) d_jdk_52_method_16_code_8 rfl rfl ?_
  have F_11 : Arv Z h_2 c kc .char (3 : Int32) [(.int c0), (.int c1), (.int c2)] (.int 0) := (Arv.ext AC E_5)
  refine Go.callS (a1 := a0) (pc' := 12) (argsL := [(.ref c), (.int (0 : Int32)), (.ref a_1), (.int (0 : Int32)), (.int (3 : Int32))]) (rest := []) (ct_c5_3 l Z a0 hw n0 h_2 c a_1 kc cA_3 c0 c1 c2 F_11 F_7 (by omega) (nne (by omega))) d_jdk_52_method_16_code_9 (hw _ (List.mem_of_getElem? (i := 43) rfl)) (hw _ (List.mem_of_getElem? (i := 44) rfl)) (hw _ (List.mem_of_getElem? (i := 41) rfl)) (hw _ (List.mem_of_getElem? (i := 45) rfl)) (by decide) (lenOf pd__28_5bCI_5bBII_29I rfl) rfl 0 rfl rfl (by decide) (by decide) (by decide) (by decide) (by intro x hx; simp only [List.mem_cons, List.not_mem_nil, or_false] at hx; rcases hx with rfl; all_goals simp) rfl (fun v_12 h_13 N_14 hQ_15 hle_16 => ?_)
  obtain ⟨K_8, hi_9⟩ := hQ_15
  rcases hi_9 with ⟨rfl, A_10, hi_9⟩ | ⟨rfl, hi_9⟩ | ⟨rfl, hi_9⟩ | ⟨rfl, hi_9⟩
  · refine Go.re (pc' := 12) (L' := #[.val (.ref c), .val (.int (0 : Int32)), .val (.int (3 : Int32)), .val (.ref a_1), .unset, .unset]) (S' := [(.int (3 : Int32))]) rfl rfl rfl ?_
    refine Go.istore (pc' := 14) #[.val (.ref c), .val (.int (0 : Int32)), .val (.int (3 : Int32)), .val (.ref a_1), .val (.int (3 : Int32)), .unset] d_jdk_52_method_16_code_12 rfl rfl ?_
    refine Go.iload (pc' := 16) d_jdk_52_method_16_code_14 rfl rfl ?_
    refine Go.iloadN (pc' := 17) d_jdk_52_method_16_code_16 rfl rfl ?_
    refine Go.icmpT (pc' := 57) d_jdk_52_method_16_code_17 (show (3 : Int32) = (3 : Int32) by decide) (by decide) (by decide) ?_
    refine Go.aloadN (pc' := 58) d_jdk_52_method_16_code_57 rfl rfl rfl ?_
    refine Go.retA rfl rfl rfl [] (fun _ q => nomatch q) d_jdk_52_method_16_code_58 (by decide) (by decide) ?_
    exact ⟨a_1, _, rfl, by omega, A_10.lt, (Keep.trans (Keep.ext (Keep.refl _ []) E_5) K_8 (allS (Or.inr (by omega)) all0)), Or.inl ⟨A_10, hi_9⟩⟩
  · refine Go.re (pc' := 12) (L' := #[.val (.ref c), .val (.int (0 : Int32)), .val (.int (3 : Int32)), .val (.ref a_1), .unset, .unset]) (S' := [(.int (0 : Int32))]) rfl rfl rfl ?_
    refine Go.istore (pc' := 14) #[.val (.ref c), .val (.int (0 : Int32)), .val (.int (3 : Int32)), .val (.ref a_1), .val (.int (0 : Int32)), .unset] d_jdk_52_method_16_code_12 rfl rfl ?_
    refine Go.iload (pc' := 16) d_jdk_52_method_16_code_14 rfl rfl ?_
    refine Go.iloadN (pc' := 17) d_jdk_52_method_16_code_16 rfl rfl ?_
    refine Go.icmpF (pc' := 20) d_jdk_52_method_16_code_17 (show ¬ ((0 : Int32) = (3 : Int32)) by decide) rfl ?_
    refine Go.aloadN (pc' := 21) d_jdk_52_method_16_code_20 rfl rfl rfl ?_
    refine Go.iloadN (pc' := 22) d_jdk_52_method_16_code_21 rfl rfl ?_
    refine Go.iloadN (pc' := 23) d_jdk_52_method_16_code_22 rfl rfl ?_
    have F_23 : Arv Z h_13 c kc .char (3 : Int32) [(.int c0), (.int c1), (.int c2)] (.int 0) := (Arv.keep F_11 K_8 (ninS (nne (by omega)) nin0))
    have F_24 : Sta Z h_13 "java/lang/StringUTF16" "$assertionsDisabled" "Z" (.int (1 : Int32)) := (sta_keep (Sta.ext E_5 S_ad) K_8 (nsS (Arv.nostat F_7) ns0))
    have F_25 : Sta Z h_13 "java/lang/StringUTF16" "HI_BYTE_SHIFT" "I" (.int (0 : Int32)) := (sta_keep (Sta.ext E_5 S_hi) K_8 (nsS (Arv.nostat F_7) ns0))
    have F_26 : Sta Z h_13 "java/lang/StringUTF16" "LO_BYTE_SHIFT" "I" (.int (8 : Int32)) := (sta_keep (Sta.ext E_5 S_lo) K_8 (nsS (Arv.nostat F_7) ns0))
    refine Go.callS (a1 := a0) (pc' := 26) (argsL := [(.ref c), (.int (0 : Int32)), (.int (3 : Int32))]) (rest := []) (ct_tb_3 l Z a0 hw n0 h_13 c kc c0 c1 c2 F_23 (by omega) F_24 F_25 F_26) d_jdk_52_method_16_code_23 (hw _ (List.mem_of_getElem? (i := 112) rfl)) (hw _ (List.mem_of_getElem? (i := 113) rfl)) (hw _ (List.mem_of_getElem? (i := 41) rfl)) (hw _ (List.mem_of_getElem? (i := 114) rfl)) (by decide) (lenOf pd__28_5bCII_29_5bB rfl) rfl 0 rfl rfl (by decide) (by decide) (by decide) (by decide) (fun _ q => nomatch q) rfl (fun v_27 h_28 N_29 hQ_30 hle_31 => ?_)
    obtain ⟨e_17, ke_18, rfl, g_19, g_20, K_21, F_22⟩ := hQ_30
    have lte_17 := nlt g_20
    refine Go.re (pc' := 26) (L' := #[.val (.ref c), .val (.int (0 : Int32)), .val (.int (3 : Int32)), .val (.ref a_1), .val (.int (0 : Int32)), .unset]) (S' := [(.ref e_17)]) rfl rfl rfl ?_
    refine Go.astore (pc' := 28) #[.val (.ref c), .val (.int (0 : Int32)), .val (.int (3 : Int32)), .val (.ref a_1), .val (.int (0 : Int32)), .val (.ref e_17)] d_jdk_52_method_16_code_26 rfl rfl rfl ?_
    refine Go.aload (pc' := 30) d_jdk_52_method_16_code_28 rfl rfl rfl ?_
    refine Go.iload (pc' := 32) d_jdk_52_method_16_code_30 rfl rfl ?_
    have F_32 : Sta Z h_28 "java/lang/StringUTF16" "$assertionsDisabled" "Z" (.int (1 : Int32)) := (sta_keep F_24 K_21 ns0)
    have F_33 : Sta Z h_28 "java/lang/StringUTF16" "HI_BYTE_SHIFT" "I" (.int (0 : Int32)) := (sta_keep F_25 K_21 ns0)
    have F_34 : Sta Z h_28 "java/lang/StringUTF16" "LO_BYTE_SHIFT" "I" (.int (8 : Int32)) := (sta_keep F_26 K_21 ns0)
    refine Go.callS (a1 := a0) (pc' := 35) (argsL := [(.ref e_17), (.int (0 : Int32))]) (rest := []) (ct_get l Z a0 hw n0 h_28 e_17 ke_18 6 0 [(c0 >>> ((0 : Int32) &&& 31)).toInt8.toInt32, (c0 >>> ((8 : Int32) &&& 31)).toInt8.toInt32, (c1 >>> ((0 : Int32) &&& 31)).toInt8.toInt32, (c1 >>> ((8 : Int32) &&& 31)).toInt8.toInt32, (c2 >>> ((0 : Int32) &&& 31)).toInt8.toInt32, (c2 >>> ((8 : Int32) &&& 31)).toInt8.toInt32] F_22 (by decide) (by decide) F_32 F_33 F_34) d_jdk_52_method_16_code_32 (hw _ (List.mem_of_getElem? (i := 128) rfl)) (hw _ (List.mem_of_getElem? (i := 129) rfl)) (hw _ (List.mem_of_getElem? (i := 41) rfl)) (hw _ (List.mem_of_getElem? (i := 130) rfl)) (by decide) (lenOf pd__28_5bBI_29C rfl) rfl 0 rfl rfl (by decide) (by decide) (by decide) (by decide) (fun _ q => nomatch q) rfl (fun v_35 h_36 N_37 hQ_38 hle_39 => ?_)
    obtain ⟨rfl, rfl⟩ := hQ_38
    refine Go.re (pc' := 35) (L' := #[.val (.ref c), .val (.int (0 : Int32)), .val (.int (3 : Int32)), .val (.ref a_1), .val (.int (0 : Int32)), .val (.ref e_17)]) (S' := [(.int c0)]) rfl rfl (congrArg (fun z => Value.int z :: _) (show (nar .char ((((c0 >>> ((0 : Int32) &&& 31)).toInt8.toInt32 &&& (255 : Int32)) <<< ((0 : Int32) &&& 31)) ||| (((c0 >>> ((8 : Int32) &&& 31)).toInt8.toInt32 &&& (255 : Int32)) <<< ((8 : Int32) &&& 31)))) = c0 from gchar hr0 hs0)) ?_
    refine Go.sipush (pc' := 38) 255 d_jdk_52_method_16_code_35 rfl rfl ?_
    refine Go.icmpT (pc' := 54) d_jdk_52_method_16_code_38 (hi_9) (by decide) (by decide) ?_
    refine Go.aload (pc' := 56) d_jdk_52_method_16_code_54 rfl rfl rfl ?_
    refine Go.retA rfl rfl rfl [] (fun _ q => nomatch q) d_jdk_52_method_16_code_56 (by decide) (by decide) ?_
    exact ⟨e_17, _, rfl, by omega, F_22.lt, (Keep.trans (Keep.trans (Keep.ext (Keep.refl _ []) E_5) K_8 (allS (Or.inr (by omega)) all0)) K_21 all0), Or.inr F_22⟩
  · refine Go.re (pc' := 12) (L' := #[.val (.ref c), .val (.int (0 : Int32)), .val (.int (3 : Int32)), .val (.ref a_1), .unset, .unset]) (S' := [(.int (1 : Int32))]) rfl rfl rfl ?_
    refine Go.istore (pc' := 14) #[.val (.ref c), .val (.int (0 : Int32)), .val (.int (3 : Int32)), .val (.ref a_1), .val (.int (1 : Int32)), .unset] d_jdk_52_method_16_code_12 rfl rfl ?_
    refine Go.iload (pc' := 16) d_jdk_52_method_16_code_14 rfl rfl ?_
    refine Go.iloadN (pc' := 17) d_jdk_52_method_16_code_16 rfl rfl ?_
    refine Go.icmpF (pc' := 20) d_jdk_52_method_16_code_17 (show ¬ ((1 : Int32) = (3 : Int32)) by decide) rfl ?_
    refine Go.aloadN (pc' := 21) d_jdk_52_method_16_code_20 rfl rfl rfl ?_
    refine Go.iloadN (pc' := 22) d_jdk_52_method_16_code_21 rfl rfl ?_
    refine Go.iloadN (pc' := 23) d_jdk_52_method_16_code_22 rfl rfl ?_
    have F_46 : Arv Z h_13 c kc .char (3 : Int32) [(.int c0), (.int c1), (.int c2)] (.int 0) := (Arv.keep F_11 K_8 (ninS (nne (by omega)) nin0))
    have F_47 : Sta Z h_13 "java/lang/StringUTF16" "$assertionsDisabled" "Z" (.int (1 : Int32)) := (sta_keep (Sta.ext E_5 S_ad) K_8 (nsS (Arv.nostat F_7) ns0))
    have F_48 : Sta Z h_13 "java/lang/StringUTF16" "HI_BYTE_SHIFT" "I" (.int (0 : Int32)) := (sta_keep (Sta.ext E_5 S_hi) K_8 (nsS (Arv.nostat F_7) ns0))
    have F_49 : Sta Z h_13 "java/lang/StringUTF16" "LO_BYTE_SHIFT" "I" (.int (8 : Int32)) := (sta_keep (Sta.ext E_5 S_lo) K_8 (nsS (Arv.nostat F_7) ns0))
    refine Go.callS (a1 := a0) (pc' := 26) (argsL := [(.ref c), (.int (0 : Int32)), (.int (3 : Int32))]) (rest := []) (ct_tb_3 l Z a0 hw n0 h_13 c kc c0 c1 c2 F_46 (by omega) F_47 F_48 F_49) d_jdk_52_method_16_code_23 (hw _ (List.mem_of_getElem? (i := 112) rfl)) (hw _ (List.mem_of_getElem? (i := 113) rfl)) (hw _ (List.mem_of_getElem? (i := 41) rfl)) (hw _ (List.mem_of_getElem? (i := 114) rfl)) (by decide) (lenOf pd__28_5bCII_29_5bB rfl) rfl 0 rfl rfl (by decide) (by decide) (by decide) (by decide) (fun _ q => nomatch q) rfl (fun v_50 h_51 N_52 hQ_53 hle_54 => ?_)
    obtain ⟨e_40, ke_41, rfl, g_42, g_43, K_44, F_45⟩ := hQ_53
    have lte_40 := nlt g_43
    refine Go.re (pc' := 26) (L' := #[.val (.ref c), .val (.int (0 : Int32)), .val (.int (3 : Int32)), .val (.ref a_1), .val (.int (1 : Int32)), .unset]) (S' := [(.ref e_40)]) rfl rfl rfl ?_
    refine Go.astore (pc' := 28) #[.val (.ref c), .val (.int (0 : Int32)), .val (.int (3 : Int32)), .val (.ref a_1), .val (.int (1 : Int32)), .val (.ref e_40)] d_jdk_52_method_16_code_26 rfl rfl rfl ?_
    refine Go.aload (pc' := 30) d_jdk_52_method_16_code_28 rfl rfl rfl ?_
    refine Go.iload (pc' := 32) d_jdk_52_method_16_code_30 rfl rfl ?_
    have F_55 : Sta Z h_51 "java/lang/StringUTF16" "$assertionsDisabled" "Z" (.int (1 : Int32)) := (sta_keep F_47 K_44 ns0)
    have F_56 : Sta Z h_51 "java/lang/StringUTF16" "HI_BYTE_SHIFT" "I" (.int (0 : Int32)) := (sta_keep F_48 K_44 ns0)
    have F_57 : Sta Z h_51 "java/lang/StringUTF16" "LO_BYTE_SHIFT" "I" (.int (8 : Int32)) := (sta_keep F_49 K_44 ns0)
    refine Go.callS (a1 := a0) (pc' := 35) (argsL := [(.ref e_40), (.int (1 : Int32))]) (rest := []) (ct_get l Z a0 hw n0 h_51 e_40 ke_41 6 1 [(c0 >>> ((0 : Int32) &&& 31)).toInt8.toInt32, (c0 >>> ((8 : Int32) &&& 31)).toInt8.toInt32, (c1 >>> ((0 : Int32) &&& 31)).toInt8.toInt32, (c1 >>> ((8 : Int32) &&& 31)).toInt8.toInt32, (c2 >>> ((0 : Int32) &&& 31)).toInt8.toInt32, (c2 >>> ((8 : Int32) &&& 31)).toInt8.toInt32] F_45 (by decide) (by decide) F_55 F_56 F_57) d_jdk_52_method_16_code_32 (hw _ (List.mem_of_getElem? (i := 128) rfl)) (hw _ (List.mem_of_getElem? (i := 129) rfl)) (hw _ (List.mem_of_getElem? (i := 41) rfl)) (hw _ (List.mem_of_getElem? (i := 130) rfl)) (by decide) (lenOf pd__28_5bBI_29C rfl) rfl 0 rfl rfl (by decide) (by decide) (by decide) (by decide) (fun _ q => nomatch q) rfl (fun v_58 h_59 N_60 hQ_61 hle_62 => ?_)
    obtain ⟨rfl, rfl⟩ := hQ_61
    refine Go.re (pc' := 35) (L' := #[.val (.ref c), .val (.int (0 : Int32)), .val (.int (3 : Int32)), .val (.ref a_1), .val (.int (1 : Int32)), .val (.ref e_40)]) (S' := [(.int c1)]) rfl rfl (congrArg (fun z => Value.int z :: _) (show (nar .char ((((c1 >>> ((0 : Int32) &&& 31)).toInt8.toInt32 &&& (255 : Int32)) <<< ((0 : Int32) &&& 31)) ||| (((c1 >>> ((8 : Int32) &&& 31)).toInt8.toInt32 &&& (255 : Int32)) <<< ((8 : Int32) &&& 31)))) = c1 from gchar hr1 hs1)) ?_
    refine Go.sipush (pc' := 38) 255 d_jdk_52_method_16_code_35 rfl rfl ?_
    refine Go.icmpT (pc' := 54) d_jdk_52_method_16_code_38 (hi_9) (by decide) (by decide) ?_
    refine Go.aload (pc' := 56) d_jdk_52_method_16_code_54 rfl rfl rfl ?_
    refine Go.retA rfl rfl rfl [] (fun _ q => nomatch q) d_jdk_52_method_16_code_56 (by decide) (by decide) ?_
    exact ⟨e_40, _, rfl, by omega, F_45.lt, (Keep.trans (Keep.trans (Keep.ext (Keep.refl _ []) E_5) K_8 (allS (Or.inr (by omega)) all0)) K_44 all0), Or.inr F_45⟩
  · refine Go.re (pc' := 12) (L' := #[.val (.ref c), .val (.int (0 : Int32)), .val (.int (3 : Int32)), .val (.ref a_1), .unset, .unset]) (S' := [(.int (2 : Int32))]) rfl rfl rfl ?_
    refine Go.istore (pc' := 14) #[.val (.ref c), .val (.int (0 : Int32)), .val (.int (3 : Int32)), .val (.ref a_1), .val (.int (2 : Int32)), .unset] d_jdk_52_method_16_code_12 rfl rfl ?_
    refine Go.iload (pc' := 16) d_jdk_52_method_16_code_14 rfl rfl ?_
    refine Go.iloadN (pc' := 17) d_jdk_52_method_16_code_16 rfl rfl ?_
    refine Go.icmpF (pc' := 20) d_jdk_52_method_16_code_17 (show ¬ ((2 : Int32) = (3 : Int32)) by decide) rfl ?_
    refine Go.aloadN (pc' := 21) d_jdk_52_method_16_code_20 rfl rfl rfl ?_
    refine Go.iloadN (pc' := 22) d_jdk_52_method_16_code_21 rfl rfl ?_
    refine Go.iloadN (pc' := 23) d_jdk_52_method_16_code_22 rfl rfl ?_
    have F_69 : Arv Z h_13 c kc .char (3 : Int32) [(.int c0), (.int c1), (.int c2)] (.int 0) := (Arv.keep F_11 K_8 (ninS (nne (by omega)) nin0))
    have F_70 : Sta Z h_13 "java/lang/StringUTF16" "$assertionsDisabled" "Z" (.int (1 : Int32)) := (sta_keep (Sta.ext E_5 S_ad) K_8 (nsS (Arv.nostat F_7) ns0))
    have F_71 : Sta Z h_13 "java/lang/StringUTF16" "HI_BYTE_SHIFT" "I" (.int (0 : Int32)) := (sta_keep (Sta.ext E_5 S_hi) K_8 (nsS (Arv.nostat F_7) ns0))
    have F_72 : Sta Z h_13 "java/lang/StringUTF16" "LO_BYTE_SHIFT" "I" (.int (8 : Int32)) := (sta_keep (Sta.ext E_5 S_lo) K_8 (nsS (Arv.nostat F_7) ns0))
    refine Go.callS (a1 := a0) (pc' := 26) (argsL := [(.ref c), (.int (0 : Int32)), (.int (3 : Int32))]) (rest := []) (ct_tb_3 l Z a0 hw n0 h_13 c kc c0 c1 c2 F_69 (by omega) F_70 F_71 F_72) d_jdk_52_method_16_code_23 (hw _ (List.mem_of_getElem? (i := 112) rfl)) (hw _ (List.mem_of_getElem? (i := 113) rfl)) (hw _ (List.mem_of_getElem? (i := 41) rfl)) (hw _ (List.mem_of_getElem? (i := 114) rfl)) (by decide) (lenOf pd__28_5bCII_29_5bB rfl) rfl 0 rfl rfl (by decide) (by decide) (by decide) (by decide) (fun _ q => nomatch q) rfl (fun v_73 h_74 N_75 hQ_76 hle_77 => ?_)
    obtain ⟨e_63, ke_64, rfl, g_65, g_66, K_67, F_68⟩ := hQ_76
    have lte_63 := nlt g_66
    refine Go.re (pc' := 26) (L' := #[.val (.ref c), .val (.int (0 : Int32)), .val (.int (3 : Int32)), .val (.ref a_1), .val (.int (2 : Int32)), .unset]) (S' := [(.ref e_63)]) rfl rfl rfl ?_
    refine Go.astore (pc' := 28) #[.val (.ref c), .val (.int (0 : Int32)), .val (.int (3 : Int32)), .val (.ref a_1), .val (.int (2 : Int32)), .val (.ref e_63)] d_jdk_52_method_16_code_26 rfl rfl rfl ?_
    refine Go.aload (pc' := 30) d_jdk_52_method_16_code_28 rfl rfl rfl ?_
    refine Go.iload (pc' := 32) d_jdk_52_method_16_code_30 rfl rfl ?_
    have F_78 : Sta Z h_74 "java/lang/StringUTF16" "$assertionsDisabled" "Z" (.int (1 : Int32)) := (sta_keep F_70 K_67 ns0)
    have F_79 : Sta Z h_74 "java/lang/StringUTF16" "HI_BYTE_SHIFT" "I" (.int (0 : Int32)) := (sta_keep F_71 K_67 ns0)
    have F_80 : Sta Z h_74 "java/lang/StringUTF16" "LO_BYTE_SHIFT" "I" (.int (8 : Int32)) := (sta_keep F_72 K_67 ns0)
    refine Go.callS (a1 := a0) (pc' := 35) (argsL := [(.ref e_63), (.int (2 : Int32))]) (rest := []) (ct_get l Z a0 hw n0 h_74 e_63 ke_64 6 2 [(c0 >>> ((0 : Int32) &&& 31)).toInt8.toInt32, (c0 >>> ((8 : Int32) &&& 31)).toInt8.toInt32, (c1 >>> ((0 : Int32) &&& 31)).toInt8.toInt32, (c1 >>> ((8 : Int32) &&& 31)).toInt8.toInt32, (c2 >>> ((0 : Int32) &&& 31)).toInt8.toInt32, (c2 >>> ((8 : Int32) &&& 31)).toInt8.toInt32] F_68 (by decide) (by decide) F_78 F_79 F_80) d_jdk_52_method_16_code_32 (hw _ (List.mem_of_getElem? (i := 128) rfl)) (hw _ (List.mem_of_getElem? (i := 129) rfl)) (hw _ (List.mem_of_getElem? (i := 41) rfl)) (hw _ (List.mem_of_getElem? (i := 130) rfl)) (by decide) (lenOf pd__28_5bBI_29C rfl) rfl 0 rfl rfl (by decide) (by decide) (by decide) (by decide) (fun _ q => nomatch q) rfl (fun v_81 h_82 N_83 hQ_84 hle_85 => ?_)
    obtain ⟨rfl, rfl⟩ := hQ_84
    refine Go.re (pc' := 35) (L' := #[.val (.ref c), .val (.int (0 : Int32)), .val (.int (3 : Int32)), .val (.ref a_1), .val (.int (2 : Int32)), .val (.ref e_63)]) (S' := [(.int c2)]) rfl rfl (congrArg (fun z => Value.int z :: _) (show (nar .char ((((c2 >>> ((0 : Int32) &&& 31)).toInt8.toInt32 &&& (255 : Int32)) <<< ((0 : Int32) &&& 31)) ||| (((c2 >>> ((8 : Int32) &&& 31)).toInt8.toInt32 &&& (255 : Int32)) <<< ((8 : Int32) &&& 31)))) = c2 from gchar hr2 hs2)) ?_
    refine Go.sipush (pc' := 38) 255 d_jdk_52_method_16_code_35 rfl rfl ?_
    refine Go.icmpT (pc' := 54) d_jdk_52_method_16_code_38 (hi_9) (by decide) (by decide) ?_
    refine Go.aload (pc' := 56) d_jdk_52_method_16_code_54 rfl rfl rfl ?_
    refine Go.retA rfl rfl rfl [] (fun _ q => nomatch q) d_jdk_52_method_16_code_56 (by decide) (by decide) ?_
    exact ⟨e_63, _, rfl, by omega, F_68.lt, (Keep.trans (Keep.trans (Keep.ext (Keep.refl _ []) E_5) K_8 (allS (Or.inr (by omega)) all0)) K_67 all0), Or.inr F_68⟩
set_option maxRecDepth 65536 in
set_option maxHeartbeats 40000000 in
theorem ct_c5_4 (l : Launch) (Z : State) (a0 : Array Value) (hw : ∀ d ∈ tables_1, d.before a0 Z = true) (n0 : Nat) (h0 : Heap) (c d : Addr) (kc kd : ClassId) (c0 c1 c2 c3 : Int32) (AC : Arv Z h0 c kc .char (4 : Int32) [(.int c0), (.int c1), (.int c2), (.int c3)] (.int 0)) (AD : Arv Z h0 d kd .byte (4 : Int32) [(.int (0 : Int32)), (.int (0 : Int32)), (.int (0 : Int32)), (.int (0 : Int32))] (.int 0)) (hd : n0 ≤ d) (hcd : c ≠ d) :
    Ct l Z (⟨"java/lang/StringUTF16", "compress", "([CI[BII)I"⟩ : MethodName) jdk_52_method_21_code 7 (some .int) ({ frames := 0, cells := 0, slots := 0, locals := 0 } : Room) EL1 n0 true [] #[(.ref c), (.int (0 : Int32)), (.ref d), (.int (0 : Int32)), (.int (4 : Int32))] h0 [d] (fun v h N => Keep h0 h [d] ∧ ((v = some (.int (4 : Int32)) ∧ Arv Z h d kd .byte (4 : Int32) [(.int (c0).toInt8.toInt32), (.int (c1).toInt8.toInt32), (.int (c2).toInt8.toInt32), (.int (c3).toInt8.toInt32)] (.int 0) ∧ ¬ 255 < c0 ∧ ¬ 255 < c1 ∧ ¬ 255 < c2 ∧ ¬ 255 < c3) ∨ (v = some (.int (0 : Int32)) ∧ 255 < c0) ∨ (v = some (.int (1 : Int32)) ∧ 255 < c1) ∨ (v = some (.int (2 : Int32)) ∧ 255 < c2) ∨ (v = some (.int (3 : Int32)) ∧ 255 < c3))) := by
  refine Ct.of (a0 := a0) (plainFor_of_name pn_java_lang_StringUTF16) (own_ew hw) (L0 := #[.val (.ref c), .val (.int (0 : Int32)), .val (.ref d), .val (.int (0 : Int32)), .val (.int (4 : Int32)), .unset, .unset]) (fun m => by first | (simp [entryFrame, mkF, argsToLocals, Value.category]; done) | rfl) ?_
  have hcd9 := nne hcd
  have l0_AC := nlt AC.lt
  have l0_AD := nlt AD.lt
  refine Go.iconst (pc' := 1) 0 d_jdk_52_method_21_code_0 rfl rfl ?_
  refine Go.istore (pc' := 3) #[.val (.ref c), .val (.int (0 : Int32)), .val (.ref d), .val (.int (0 : Int32)), .val (.int (4 : Int32)), .val (.int (0 : Int32)), .unset] d_jdk_52_method_21_code_1 rfl rfl ?_
  refine Go.iload (pc' := 5) d_jdk_52_method_21_code_3 rfl rfl ?_
  refine Go.iload (pc' := 7) d_jdk_52_method_21_code_5 rfl rfl ?_
  refine Go.icmpF (pc' := 10) d_jdk_52_method_21_code_7 (show (0 : Int32) < (4 : Int32) by decide) rfl ?_
  refine Go.aloadN (pc' := 11) d_jdk_52_method_21_code_10 rfl rfl rfl ?_
  refine Go.iloadN (pc' := 12) d_jdk_52_method_21_code_11 rfl rfl ?_
  refine Go.caloadV (pc' := 13) d_jdk_52_method_21_code_12 AC (by decide) rfl rfl ?_
  refine Go.istore (pc' := 15) #[.val (.ref c), .val (.int (0 : Int32)), .val (.ref d), .val (.int (0 : Int32)), .val (.int (4 : Int32)), .val (.int (0 : Int32)), .val (.int c0)] d_jdk_52_method_21_code_13 rfl rfl ?_
  refine Go.iload (pc' := 17) d_jdk_52_method_21_code_15 rfl rfl ?_
  refine Go.sipush (pc' := 20) 255 d_jdk_52_method_21_code_17 rfl rfl ?_
  refine Go.icmp (pc' := 26) (pc'' := 23) d_jdk_52_method_21_code_20 (by decide) (by decide) rfl (fun hc_1 => ?_) (fun hc_1 => ?_)
  · have hc_1 : ¬ ((255 : Int32) < c0) := hc_1
    refine Go.aloadN (pc' := 27) d_jdk_52_method_21_code_26 rfl rfl rfl ?_
    refine Go.iloadN (pc' := 28) d_jdk_52_method_21_code_27 rfl rfl ?_
    refine Go.iload (pc' := 30) d_jdk_52_method_21_code_28 rfl rfl ?_
    refine Go.i2b (pc' := 31) d_jdk_52_method_21_code_30 rfl ?_
    refine Go.bastoreV (pc' := 32) 0 d_jdk_52_method_21_code_31 AD (by decide) rfl (show 0 < 4 by decide) (Sf.mem (by simp)) (by omega) rfl (fun h_2 W_3 A_4 => ?_)
    have szh_2 : h_2.size = h0.size := Wr.size W_3
    have F_5 : Arv Z h_2 d kd .byte (4 : Int32) [(.int (c0).toInt8.toInt32), (.int (0 : Int32)), (.int (0 : Int32)), (.int (0 : Int32))] (.int 0) := by have q := A_4; rw [nar_i2b] at q; exact q
    refine Go.iinc (pc' := 35) (1 : Int32) #[.val (.ref c), .val (.int (1 : Int32)), .val (.ref d), .val (.int (0 : Int32)), .val (.int (4 : Int32)), .val (.int (0 : Int32)), .val (.int c0)] d_jdk_52_method_21_code_32 rfl (by decide) rfl rfl ?_
    refine Go.iinc (pc' := 38) (1 : Int32) #[.val (.ref c), .val (.int (1 : Int32)), .val (.ref d), .val (.int (1 : Int32)), .val (.int (4 : Int32)), .val (.int (0 : Int32)), .val (.int c0)] d_jdk_52_method_21_code_35 rfl (by decide) rfl rfl ?_
    refine Go.iinc (pc' := 41) (1 : Int32) #[.val (.ref c), .val (.int (1 : Int32)), .val (.ref d), .val (.int (1 : Int32)), .val (.int (4 : Int32)), .val (.int (1 : Int32)), .val (.int c0)] d_jdk_52_method_21_code_38 rfl (by decide) rfl rfl ?_
    refine Go.goto (pc' := 3) d_jdk_52_method_21_code_41 (by decide) (by decide) ?_
    refine Go.iload (pc' := 5) d_jdk_52_method_21_code_3 rfl rfl ?_
    refine Go.iload (pc' := 7) d_jdk_52_method_21_code_5 rfl rfl ?_
    refine Go.icmpF (pc' := 10) d_jdk_52_method_21_code_7 (show (1 : Int32) < (4 : Int32) by decide) rfl ?_
    refine Go.aloadN (pc' := 11) d_jdk_52_method_21_code_10 rfl rfl rfl ?_
    refine Go.iloadN (pc' := 12) d_jdk_52_method_21_code_11 rfl rfl ?_
    have F_6 : Arv Z h_2 c kc .char (4 : Int32) [(.int c0), (.int c1), (.int c2), (.int c3)] (.int 0) := (Arv.other AC W_3 (nne (by omega)))
    refine Go.caloadV (pc' := 13) d_jdk_52_method_21_code_12 F_6 (by decide) rfl rfl ?_
    refine Go.istore (pc' := 15) #[.val (.ref c), .val (.int (1 : Int32)), .val (.ref d), .val (.int (1 : Int32)), .val (.int (4 : Int32)), .val (.int (1 : Int32)), .val (.int c1)] d_jdk_52_method_21_code_13 rfl rfl ?_
    refine Go.iload (pc' := 17) d_jdk_52_method_21_code_15 rfl rfl ?_
    refine Go.sipush (pc' := 20) 255 d_jdk_52_method_21_code_17 rfl rfl ?_
    refine Go.icmp (pc' := 26) (pc'' := 23) d_jdk_52_method_21_code_20 (by decide) (by decide) rfl (fun hc_7 => ?_) (fun hc_7 => ?_)
    · have hc_7 : ¬ ((255 : Int32) < c1) := hc_7
      refine Go.aloadN (pc' := 27) d_jdk_52_method_21_code_26 rfl rfl rfl ?_
      refine Go.iloadN (pc' := 28) d_jdk_52_method_21_code_27 rfl rfl ?_
      refine Go.iload (pc' := 30) d_jdk_52_method_21_code_28 rfl rfl ?_
      refine Go.i2b (pc' := 31) d_jdk_52_method_21_code_30 rfl ?_
      refine Go.bastoreV (pc' := 32) 1 d_jdk_52_method_21_code_31 F_5 (by decide) rfl (show 1 < 4 by decide) (Sf.mem (by simp)) (by omega) rfl (fun h_8 W_9 A_10 => ?_)
      have szh_8 : h_8.size = h_2.size := Wr.size W_9
      have F_11 : Arv Z h_8 d kd .byte (4 : Int32) [(.int (c0).toInt8.toInt32), (.int (c1).toInt8.toInt32), (.int (0 : Int32)), (.int (0 : Int32))] (.int 0) := by have q := A_10; rw [nar_i2b] at q; exact q
      refine Go.iinc (pc' := 35) (2 : Int32) #[.val (.ref c), .val (.int (2 : Int32)), .val (.ref d), .val (.int (1 : Int32)), .val (.int (4 : Int32)), .val (.int (1 : Int32)), .val (.int c1)] d_jdk_52_method_21_code_32 rfl (by decide) rfl rfl ?_
      refine Go.iinc (pc' := 38) (2 : Int32) #[.val (.ref c), .val (.int (2 : Int32)), .val (.ref d), .val (.int (2 : Int32)), .val (.int (4 : Int32)), .val (.int (1 : Int32)), .val (.int c1)] d_jdk_52_method_21_code_35 rfl (by decide) rfl rfl ?_
      refine Go.iinc (pc' := 41) (2 : Int32) #[.val (.ref c), .val (.int (2 : Int32)), .val (.ref d), .val (.int (2 : Int32)), .val (.int (4 : Int32)), .val (.int (2 : Int32)), .val (.int c1)] d_jdk_52_method_21_code_38 rfl (by decide) rfl rfl ?_
      refine Go.goto (pc' := 3) d_jdk_52_method_21_code_41 (by decide) (by decide) ?_
      refine Go.iload (pc' := 5) d_jdk_52_method_21_code_3 rfl rfl ?_
      refine Go.iload (pc' := 7) d_jdk_52_method_21_code_5 rfl rfl ?_
      refine Go.icmpF (pc' := 10) d_jdk_52_method_21_code_7 (show (2 : Int32) < (4 : Int32) by decide) rfl ?_
      refine Go.aloadN (pc' := 11) d_jdk_52_method_21_code_10 rfl rfl rfl ?_
      refine Go.iloadN (pc' := 12) d_jdk_52_method_21_code_11 rfl rfl ?_
      have F_12 : Arv Z h_8 c kc .char (4 : Int32) [(.int c0), (.int c1), (.int c2), (.int c3)] (.int 0) := (Arv.other F_6 W_9 (nne (by omega)))
      refine Go.caloadV (pc' := 13) d_jdk_52_method_21_code_12 F_12 (by decide) rfl rfl ?_
      refine Go.istore (pc' := 15) #[.val (.ref c), .val (.int (2 : Int32)), .val (.ref d), .val (.int (2 : Int32)), .val (.int (4 : Int32)), .val (.int (2 : Int32)), .val (.int c2)] d_jdk_52_method_21_code_13 rfl rfl ?_
      refine Go.iload (pc' := 17) d_jdk_52_method_21_code_15 rfl rfl ?_
      refine Go.sipush (pc' := 20) 255 d_jdk_52_method_21_code_17 rfl rfl ?_
      refine Go.icmp (pc' := 26) (pc'' := 23) d_jdk_52_method_21_code_20 (by decide) (by decide) rfl (fun hc_13 => ?_) (fun hc_13 => ?_)
      · have hc_13 : ¬ ((255 : Int32) < c2) := hc_13
        refine Go.aloadN (pc' := 27) d_jdk_52_method_21_code_26 rfl rfl rfl ?_
        refine Go.iloadN (pc' := 28) d_jdk_52_method_21_code_27 rfl rfl ?_
        refine Go.iload (pc' := 30) d_jdk_52_method_21_code_28 rfl rfl ?_
        refine Go.i2b (pc' := 31) d_jdk_52_method_21_code_30 rfl ?_
        refine Go.bastoreV (pc' := 32) 2 d_jdk_52_method_21_code_31 F_11 (by decide) rfl (show 2 < 4 by decide) (Sf.mem (by simp)) (by omega) rfl (fun h_14 W_15 A_16 => ?_)
        have szh_14 : h_14.size = h_8.size := Wr.size W_15
        have F_17 : Arv Z h_14 d kd .byte (4 : Int32) [(.int (c0).toInt8.toInt32), (.int (c1).toInt8.toInt32), (.int (c2).toInt8.toInt32), (.int (0 : Int32))] (.int 0) := by have q := A_16; rw [nar_i2b] at q; exact q
        refine Go.iinc (pc' := 35) (3 : Int32) #[.val (.ref c), .val (.int (3 : Int32)), .val (.ref d), .val (.int (2 : Int32)), .val (.int (4 : Int32)), .val (.int (2 : Int32)), .val (.int c2)] d_jdk_52_method_21_code_32 rfl (by decide) rfl rfl ?_
        refine Go.iinc (pc' := 38) (3 : Int32) #[.val (.ref c), .val (.int (3 : Int32)), .val (.ref d), .val (.int (3 : Int32)), .val (.int (4 : Int32)), .val (.int (2 : Int32)), .val (.int c2)] d_jdk_52_method_21_code_35 rfl (by decide) rfl rfl ?_
        refine Go.iinc (pc' := 41) (3 : Int32) #[.val (.ref c), .val (.int (3 : Int32)), .val (.ref d), .val (.int (3 : Int32)), .val (.int (4 : Int32)), .val (.int (3 : Int32)), .val (.int c2)] d_jdk_52_method_21_code_38 rfl (by decide) rfl rfl ?_
        refine Go.goto (pc' := 3) d_jdk_52_method_21_code_41 (by decide) (by decide) ?_
        refine Go.iload (pc' := 5) d_jdk_52_method_21_code_3 rfl rfl ?_
        refine Go.iload (pc' := 7) d_jdk_52_method_21_code_5 rfl rfl ?_
        refine Go.icmpF (pc' := 10) d_jdk_52_method_21_code_7 (show (3 : Int32) < (4 : Int32) by decide) rfl ?_
        refine Go.aloadN (pc' := 11) d_jdk_52_method_21_code_10 rfl rfl rfl ?_
        refine Go.iloadN (pc' := 12) d_jdk_52_method_21_code_11 rfl rfl ?_
        have F_18 : Arv Z h_14 c kc .char (4 : Int32) [(.int c0), (.int c1), (.int c2), (.int c3)] (.int 0) := (Arv.other F_12 W_15 (nne (by omega)))
        refine Go.caloadV (pc' := 13) d_jdk_52_method_21_code_12 F_18 (by decide) rfl rfl ?_
        refine Go.istore (pc' := 15) #[.val (.ref c), .val (.int (3 : Int32)), .val (.ref d), .val (.int (3 : Int32)), .val (.int (4 : Int32)), .val (.int (3 : Int32)), .val (.int c3)] d_jdk_52_method_21_code_13 rfl rfl ?_
        refine Go.iload (pc' := 17) d_jdk_52_method_21_code_15 rfl rfl ?_
        refine Go.sipush (pc' := 20) 255 d_jdk_52_method_21_code_17 rfl rfl ?_
        refine Go.icmp (pc' := 26) (pc'' := 23) d_jdk_52_method_21_code_20 (by decide) (by decide) rfl (fun hc_19 => ?_) (fun hc_19 => ?_)
        · have hc_19 : ¬ ((255 : Int32) < c3) := hc_19
          refine Go.aloadN (pc' := 27) d_jdk_52_method_21_code_26 rfl rfl rfl ?_
          refine Go.iloadN (pc' := 28) d_jdk_52_method_21_code_27 rfl rfl ?_
          refine Go.iload (pc' := 30) d_jdk_52_method_21_code_28 rfl rfl ?_
          refine Go.i2b (pc' := 31) d_jdk_52_method_21_code_30 rfl ?_
          refine Go.bastoreV (pc' := 32) 3 d_jdk_52_method_21_code_31 F_17 (by decide) rfl (show 3 < 4 by decide) (Sf.mem (by simp)) (by omega) rfl (fun h_20 W_21 A_22 => ?_)
          have szh_20 : h_20.size = h_14.size := Wr.size W_21
          have F_23 : Arv Z h_20 d kd .byte (4 : Int32) [(.int (c0).toInt8.toInt32), (.int (c1).toInt8.toInt32), (.int (c2).toInt8.toInt32), (.int (c3).toInt8.toInt32)] (.int 0) := by have q := A_22; rw [nar_i2b] at q; exact q
          refine Go.iinc (pc' := 35) (4 : Int32) #[.val (.ref c), .val (.int (4 : Int32)), .val (.ref d), .val (.int (3 : Int32)), .val (.int (4 : Int32)), .val (.int (3 : Int32)), .val (.int c3)] d_jdk_52_method_21_code_32 rfl (by decide) rfl rfl ?_
          refine Go.iinc (pc' := 38) (4 : Int32) #[.val (.ref c), .val (.int (4 : Int32)), .val (.ref d), .val (.int (4 : Int32)), .val (.int (4 : Int32)), .val (.int (3 : Int32)), .val (.int c3)] d_jdk_52_method_21_code_35 rfl (by decide) rfl rfl ?_
          refine Go.iinc (pc' := 41) (4 : Int32) #[.val (.ref c), .val (.int (4 : Int32)), .val (.ref d), .val (.int (4 : Int32)), .val (.int (4 : Int32)), .val (.int (4 : Int32)), .val (.int c3)] d_jdk_52_method_21_code_38 rfl (by decide) rfl rfl ?_
          refine Go.goto (pc' := 3) d_jdk_52_method_21_code_41 (by decide) (by decide) ?_
          refine Go.iload (pc' := 5) d_jdk_52_method_21_code_3 rfl rfl ?_
          refine Go.iload (pc' := 7) d_jdk_52_method_21_code_5 rfl rfl ?_
          refine Go.icmpT (pc' := 44) d_jdk_52_method_21_code_7 (show ¬ ((4 : Int32) < (4 : Int32)) by decide) (by decide) (by decide) ?_
          refine Go.iload (pc' := 46) d_jdk_52_method_21_code_44 rfl rfl ?_
          refine Go.retI rfl [] (fun _ q => nomatch q) d_jdk_52_method_21_code_46 (by decide) (by decide) ?_
          exact ⟨(Keep.wr (Keep.wr (Keep.wr (Keep.wr (Keep.refl _ [d]) W_3 (Or.inl (by simp))) W_9 (Or.inl (by simp))) W_15 (Or.inl (by simp))) W_21 (Or.inl (by simp))), Or.inl ⟨rfl, F_23, ⟨hc_1, hc_7, hc_13, hc_19⟩⟩⟩
        · have hc_19 : (255 : Int32) < c3 := hc_19
          refine Go.iload (pc' := 25) d_jdk_52_method_21_code_23 rfl rfl ?_
          refine Go.retI rfl [] (fun _ q => nomatch q) d_jdk_52_method_21_code_25 (by decide) (by decide) ?_
          exact ⟨(Keep.wr (Keep.wr (Keep.wr (Keep.refl _ [d]) W_3 (Or.inl (by simp))) W_9 (Or.inl (by simp))) W_15 (Or.inl (by simp))), Or.inr (Or.inr (Or.inr (Or.inr (⟨rfl, hc_19⟩))))⟩
      · have hc_13 : (255 : Int32) < c2 := hc_13
        refine Go.iload (pc' := 25) d_jdk_52_method_21_code_23 rfl rfl ?_
        refine Go.retI rfl [] (fun _ q => nomatch q) d_jdk_52_method_21_code_25 (by decide) (by decide) ?_
        exact ⟨(Keep.wr (Keep.wr (Keep.refl _ [d]) W_3 (Or.inl (by simp))) W_9 (Or.inl (by simp))), Or.inr (Or.inr (Or.inr (Or.inl ⟨rfl, hc_13⟩)))⟩
    · have hc_7 : (255 : Int32) < c1 := hc_7
      refine Go.iload (pc' := 25) d_jdk_52_method_21_code_23 rfl rfl ?_
      refine Go.retI rfl [] (fun _ q => nomatch q) d_jdk_52_method_21_code_25 (by decide) (by decide) ?_
      exact ⟨(Keep.wr (Keep.refl _ [d]) W_3 (Or.inl (by simp))), Or.inr (Or.inr (Or.inl ⟨rfl, hc_7⟩))⟩
  · have hc_1 : (255 : Int32) < c0 := hc_1
    refine Go.iload (pc' := 25) d_jdk_52_method_21_code_23 rfl rfl ?_
    refine Go.retI rfl [] (fun _ q => nomatch q) d_jdk_52_method_21_code_25 (by decide) (by decide) ?_
    exact ⟨(Keep.refl _ [d]), Or.inr (Or.inl ⟨rfl, hc_1⟩)⟩
set_option maxRecDepth 65536 in
set_option maxHeartbeats 40000000 in
theorem ct_c3_4 (l : Launch) (Z : State) (a0 : Array Value) (hw : ∀ d ∈ tables_1, d.before a0 Z = true) (n0 : Nat) (h0 : Heap) (c : Addr) (kc : ClassId) (c0 c1 c2 c3 : Int32) (AC : Arv Z h0 c kc .char (4 : Int32) [(.int c0), (.int c1), (.int c2), (.int c3)] (.int 0)) (hr0 : ¬ c0 < 0) (hs0 : ¬ 65535 < c0) (hr1 : ¬ c1 < 0) (hs1 : ¬ 65535 < c1) (hr2 : ¬ c2 < 0) (hs2 : ¬ 65535 < c2) (hr3 : ¬ c3 < 0) (hs3 : ¬ 65535 < c3) (hn0 : n0 ≤ h0.size) (S_ad : Sta Z h0 "java/lang/StringUTF16" "$assertionsDisabled" "Z" (.int (1 : Int32))) (S_hi : Sta Z h0 "java/lang/StringUTF16" "HI_BYTE_SHIFT" "I" (.int (0 : Int32))) (S_lo : Sta Z h0 "java/lang/StringUTF16" "LO_BYTE_SHIFT" "I" (.int (8 : Int32))) :
    Ct l Z (⟨"java/lang/StringUTF16", "compress", "([CII)[B"⟩ : MethodName) jdk_52_method_16_code 6 (some (.array .byte)) ({ frames := 3, cells := 2, slots := 12, locals := 40 } : Room) EL1 n0 true [] #[(.ref c), (.int (0 : Int32)), (.int (4 : Int32))] h0 [] (fun v h N => ∃ d kd, v = some (.ref d) ∧ h0.size ≤ d ∧ d < h.size ∧ Keep h0 h [] ∧ ((Arv Z h d kd .byte (4 : Int32) [(.int (c0).toInt8.toInt32), (.int (c1).toInt8.toInt32), (.int (c2).toInt8.toInt32), (.int (c3).toInt8.toInt32)] (.int 0) ∧ ¬ 255 < c0 ∧ ¬ 255 < c1 ∧ ¬ 255 < c2 ∧ ¬ 255 < c3) ∨ Arv Z h d kd .byte (8 : Int32) [(.int (c0 >>> ((0 : Int32) &&& 31)).toInt8.toInt32), (.int (c0 >>> ((8 : Int32) &&& 31)).toInt8.toInt32), (.int (c1 >>> ((0 : Int32) &&& 31)).toInt8.toInt32), (.int (c1 >>> ((8 : Int32) &&& 31)).toInt8.toInt32), (.int (c2 >>> ((0 : Int32) &&& 31)).toInt8.toInt32), (.int (c2 >>> ((8 : Int32) &&& 31)).toInt8.toInt32), (.int (c3 >>> ((0 : Int32) &&& 31)).toInt8.toInt32), (.int (c3 >>> ((8 : Int32) &&& 31)).toInt8.toInt32)] (.int 0))) := by
  refine Ct.of (a0 := a0) (plainFor_of_name pn_java_lang_StringUTF16) (own_ew hw) (L0 := #[.val (.ref c), .val (.int (0 : Int32)), .val (.int (4 : Int32)), .unset, .unset, .unset]) (fun m => by first | (simp [entryFrame, mkF, argsToLocals, Value.category]; done) | rfl) ?_
  have l0_AC := nlt AC.lt
  refine Go.iloadN (pc' := 1) d_jdk_52_method_16_code_0 rfl rfl ?_
  refine Go.newPV (pc' := 3) (a1 := a0) 4 [(.int (0 : Int32)), (.int (0 : Int32)), (.int (0 : Int32)), (.int (0 : Int32))] d_jdk_52_method_16_code_1 (hw _ (List.mem_of_getElem? (i := 22) rfl)) (by decide) (by decide) (by decide) (by decide) (by decide) rfl rfl (fun a_1 h_2 cA_3 ha_4 E_5 A_6 => ?_)
  have szh_2 : h0.size ≤ h_2.size := E_5.1
  have lta_1 := nlt A_6.lt
  have qa_1 := neq ha_4
  have F_7 : Arv Z h_2 a_1 cA_3 .byte (4 : Int32) [(.int (0 : Int32)), (.int (0 : Int32)), (.int (0 : Int32)), (.int (0 : Int32))] (.int 0) := A_6
  refine Go.astoreN (pc' := 4) #[.val (.ref c), .val (.int (0 : Int32)), .val (.int (4 : Int32)), .val (.ref a_1), .unset, .unset] d_jdk_52_method_16_code_3 rfl rfl rfl ?_
  refine Go.aloadN (pc' := 5) d_jdk_52_method_16_code_4 rfl rfl rfl ?_
  refine Go.iloadN (pc' := 6) d_jdk_52_method_16_code_5 rfl rfl ?_
  refine Go.aloadN (pc' := 7) d_jdk_52_method_16_code_6 rfl rfl rfl ?_
  refine Go.iconst (pc' := 8) 0 d_jdk_52_method_16_code_7 rfl rfl ?_
  refine Go.iloadN (pc' := 9) d_jdk_52_method_16_code_8 rfl rfl ?_
  have F_11 : Arv Z h_2 c kc .char (4 : Int32) [(.int c0), (.int c1), (.int c2), (.int c3)] (.int 0) := (Arv.ext AC E_5)
  refine Go.callS (a1 := a0) (pc' := 12) (argsL := [(.ref c), (.int (0 : Int32)), (.ref a_1), (.int (0 : Int32)), (.int (4 : Int32))]) (rest := []) (ct_c5_4 l Z a0 hw n0 h_2 c a_1 kc cA_3 c0 c1 c2 c3 F_11 F_7 (by omega) (nne (by omega))) d_jdk_52_method_16_code_9 (hw _ (List.mem_of_getElem? (i := 43) rfl)) (hw _ (List.mem_of_getElem? (i := 44) rfl)) (hw _ (List.mem_of_getElem? (i := 41) rfl)) (hw _ (List.mem_of_getElem? (i := 45) rfl)) (by decide) (lenOf pd__28_5bCI_5bBII_29I rfl) rfl 0 rfl rfl (by decide) (by decide) (by decide) (by decide) (by intro x hx; simp only [List.mem_cons, List.not_mem_nil, or_false] at hx; rcases hx with rfl; all_goals simp) rfl (fun v_12 h_13 N_14 hQ_15 hle_16 => ?_)
  obtain ⟨K_8, hi_9⟩ := hQ_15
  rcases hi_9 with ⟨rfl, A_10, hi_9⟩ | ⟨rfl, hi_9⟩ | ⟨rfl, hi_9⟩ | ⟨rfl, hi_9⟩ | ⟨rfl, hi_9⟩
  · refine Go.re (pc' := 12) (L' := #[.val (.ref c), .val (.int (0 : Int32)), .val (.int (4 : Int32)), .val (.ref a_1), .unset, .unset]) (S' := [(.int (4 : Int32))]) rfl rfl rfl ?_
    refine Go.istore (pc' := 14) #[.val (.ref c), .val (.int (0 : Int32)), .val (.int (4 : Int32)), .val (.ref a_1), .val (.int (4 : Int32)), .unset] d_jdk_52_method_16_code_12 rfl rfl ?_
    refine Go.iload (pc' := 16) d_jdk_52_method_16_code_14 rfl rfl ?_
    refine Go.iloadN (pc' := 17) d_jdk_52_method_16_code_16 rfl rfl ?_
    refine Go.icmpT (pc' := 57) d_jdk_52_method_16_code_17 (show (4 : Int32) = (4 : Int32) by decide) (by decide) (by decide) ?_
    refine Go.aloadN (pc' := 58) d_jdk_52_method_16_code_57 rfl rfl rfl ?_
    refine Go.retA rfl rfl rfl [] (fun _ q => nomatch q) d_jdk_52_method_16_code_58 (by decide) (by decide) ?_
    exact ⟨a_1, _, rfl, by omega, A_10.lt, (Keep.trans (Keep.ext (Keep.refl _ []) E_5) K_8 (allS (Or.inr (by omega)) all0)), Or.inl ⟨A_10, hi_9⟩⟩
  · refine Go.re (pc' := 12) (L' := #[.val (.ref c), .val (.int (0 : Int32)), .val (.int (4 : Int32)), .val (.ref a_1), .unset, .unset]) (S' := [(.int (0 : Int32))]) rfl rfl rfl ?_
    refine Go.istore (pc' := 14) #[.val (.ref c), .val (.int (0 : Int32)), .val (.int (4 : Int32)), .val (.ref a_1), .val (.int (0 : Int32)), .unset] d_jdk_52_method_16_code_12 rfl rfl ?_
    refine Go.iload (pc' := 16) d_jdk_52_method_16_code_14 rfl rfl ?_
    refine Go.iloadN (pc' := 17) d_jdk_52_method_16_code_16 rfl rfl ?_
    refine Go.icmpF (pc' := 20) d_jdk_52_method_16_code_17 (show ¬ ((0 : Int32) = (4 : Int32)) by decide) rfl ?_
    refine Go.aloadN (pc' := 21) d_jdk_52_method_16_code_20 rfl rfl rfl ?_
    refine Go.iloadN (pc' := 22) d_jdk_52_method_16_code_21 rfl rfl ?_
    refine Go.iloadN (pc' := 23) d_jdk_52_method_16_code_22 rfl rfl ?_
    have F_23 : Arv Z h_13 c kc .char (4 : Int32) [(.int c0), (.int c1), (.int c2), (.int c3)] (.int 0) := (Arv.keep F_11 K_8 (ninS (nne (by omega)) nin0))
    have F_24 : Sta Z h_13 "java/lang/StringUTF16" "$assertionsDisabled" "Z" (.int (1 : Int32)) := (sta_keep (Sta.ext E_5 S_ad) K_8 (nsS (Arv.nostat F_7) ns0))
    have F_25 : Sta Z h_13 "java/lang/StringUTF16" "HI_BYTE_SHIFT" "I" (.int (0 : Int32)) := (sta_keep (Sta.ext E_5 S_hi) K_8 (nsS (Arv.nostat F_7) ns0))
    have F_26 : Sta Z h_13 "java/lang/StringUTF16" "LO_BYTE_SHIFT" "I" (.int (8 : Int32)) := (sta_keep (Sta.ext E_5 S_lo) K_8 (nsS (Arv.nostat F_7) ns0))
    refine Go.callS (a1 := a0) (pc' := 26) (argsL := [(.ref c), (.int (0 : Int32)), (.int (4 : Int32))]) (rest := []) (ct_tb_4 l Z a0 hw n0 h_13 c kc c0 c1 c2 c3 F_23 (by omega) F_24 F_25 F_26) d_jdk_52_method_16_code_23 (hw _ (List.mem_of_getElem? (i := 112) rfl)) (hw _ (List.mem_of_getElem? (i := 113) rfl)) (hw _ (List.mem_of_getElem? (i := 41) rfl)) (hw _ (List.mem_of_getElem? (i := 114) rfl)) (by decide) (lenOf pd__28_5bCII_29_5bB rfl) rfl 0 rfl rfl (by decide) (by decide) (by decide) (by decide) (fun _ q => nomatch q) rfl (fun v_27 h_28 N_29 hQ_30 hle_31 => ?_)
    obtain ⟨e_17, ke_18, rfl, g_19, g_20, K_21, F_22⟩ := hQ_30
    have lte_17 := nlt g_20
    refine Go.re (pc' := 26) (L' := #[.val (.ref c), .val (.int (0 : Int32)), .val (.int (4 : Int32)), .val (.ref a_1), .val (.int (0 : Int32)), .unset]) (S' := [(.ref e_17)]) rfl rfl rfl ?_
    refine Go.astore (pc' := 28) #[.val (.ref c), .val (.int (0 : Int32)), .val (.int (4 : Int32)), .val (.ref a_1), .val (.int (0 : Int32)), .val (.ref e_17)] d_jdk_52_method_16_code_26 rfl rfl rfl ?_
    refine Go.aload (pc' := 30) d_jdk_52_method_16_code_28 rfl rfl rfl ?_
    refine Go.iload (pc' := 32) d_jdk_52_method_16_code_30 rfl rfl ?_
    have F_32 : Sta Z h_28 "java/lang/StringUTF16" "$assertionsDisabled" "Z" (.int (1 : Int32)) := (sta_keep F_24 K_21 ns0)
    have F_33 : Sta Z h_28 "java/lang/StringUTF16" "HI_BYTE_SHIFT" "I" (.int (0 : Int32)) := (sta_keep F_25 K_21 ns0)
    have F_34 : Sta Z h_28 "java/lang/StringUTF16" "LO_BYTE_SHIFT" "I" (.int (8 : Int32)) := (sta_keep F_26 K_21 ns0)
    refine Go.callS (a1 := a0) (pc' := 35) (argsL := [(.ref e_17), (.int (0 : Int32))]) (rest := []) (ct_get l Z a0 hw n0 h_28 e_17 ke_18 8 0 [(c0 >>> ((0 : Int32) &&& 31)).toInt8.toInt32, (c0 >>> ((8 : Int32) &&& 31)).toInt8.toInt32, (c1 >>> ((0 : Int32) &&& 31)).toInt8.toInt32, (c1 >>> ((8 : Int32) &&& 31)).toInt8.toInt32, (c2 >>> ((0 : Int32) &&& 31)).toInt8.toInt32, (c2 >>> ((8 : Int32) &&& 31)).toInt8.toInt32, (c3 >>> ((0 : Int32) &&& 31)).toInt8.toInt32, (c3 >>> ((8 : Int32) &&& 31)).toInt8.toInt32] F_22 (by decide) (by decide) F_32 F_33 F_34) d_jdk_52_method_16_code_32 (hw _ (List.mem_of_getElem? (i := 128) rfl)) (hw _ (List.mem_of_getElem? (i := 129) rfl)) (hw _ (List.mem_of_getElem? (i := 41) rfl)) (hw _ (List.mem_of_getElem? (i := 130) rfl)) (by decide) (lenOf pd__28_5bBI_29C rfl) rfl 0 rfl rfl (by decide) (by decide) (by decide) (by decide) (fun _ q => nomatch q) rfl (fun v_35 h_36 N_37 hQ_38 hle_39 => ?_)
    obtain ⟨rfl, rfl⟩ := hQ_38
    refine Go.re (pc' := 35) (L' := #[.val (.ref c), .val (.int (0 : Int32)), .val (.int (4 : Int32)), .val (.ref a_1), .val (.int (0 : Int32)), .val (.ref e_17)]) (S' := [(.int c0)]) rfl rfl (congrArg (fun z => Value.int z :: _) (show (nar .char ((((c0 >>> ((0 : Int32) &&& 31)).toInt8.toInt32 &&& (255 : Int32)) <<< ((0 : Int32) &&& 31)) ||| (((c0 >>> ((8 : Int32) &&& 31)).toInt8.toInt32 &&& (255 : Int32)) <<< ((8 : Int32) &&& 31)))) = c0 from gchar hr0 hs0)) ?_
    refine Go.sipush (pc' := 38) 255 d_jdk_52_method_16_code_35 rfl rfl ?_
    refine Go.icmpT (pc' := 54) d_jdk_52_method_16_code_38 (hi_9) (by decide) (by decide) ?_
    refine Go.aload (pc' := 56) d_jdk_52_method_16_code_54 rfl rfl rfl ?_
    refine Go.retA rfl rfl rfl [] (fun _ q => nomatch q) d_jdk_52_method_16_code_56 (by decide) (by decide) ?_
    exact ⟨e_17, _, rfl, by omega, F_22.lt, (Keep.trans (Keep.trans (Keep.ext (Keep.refl _ []) E_5) K_8 (allS (Or.inr (by omega)) all0)) K_21 all0), Or.inr F_22⟩
  · refine Go.re (pc' := 12) (L' := #[.val (.ref c), .val (.int (0 : Int32)), .val (.int (4 : Int32)), .val (.ref a_1), .unset, .unset]) (S' := [(.int (1 : Int32))]) rfl rfl rfl ?_
    refine Go.istore (pc' := 14) #[.val (.ref c), .val (.int (0 : Int32)), .val (.int (4 : Int32)), .val (.ref a_1), .val (.int (1 : Int32)), .unset] d_jdk_52_method_16_code_12 rfl rfl ?_
    refine Go.iload (pc' := 16) d_jdk_52_method_16_code_14 rfl rfl ?_
    refine Go.iloadN (pc' := 17) d_jdk_52_method_16_code_16 rfl rfl ?_
    refine Go.icmpF (pc' := 20) d_jdk_52_method_16_code_17 (show ¬ ((1 : Int32) = (4 : Int32)) by decide) rfl ?_
    refine Go.aloadN (pc' := 21) d_jdk_52_method_16_code_20 rfl rfl rfl ?_
    refine Go.iloadN (pc' := 22) d_jdk_52_method_16_code_21 rfl rfl ?_
    refine Go.iloadN (pc' := 23) d_jdk_52_method_16_code_22 rfl rfl ?_
    have F_46 : Arv Z h_13 c kc .char (4 : Int32) [(.int c0), (.int c1), (.int c2), (.int c3)] (.int 0) := (Arv.keep F_11 K_8 (ninS (nne (by omega)) nin0))
    have F_47 : Sta Z h_13 "java/lang/StringUTF16" "$assertionsDisabled" "Z" (.int (1 : Int32)) := (sta_keep (Sta.ext E_5 S_ad) K_8 (nsS (Arv.nostat F_7) ns0))
    have F_48 : Sta Z h_13 "java/lang/StringUTF16" "HI_BYTE_SHIFT" "I" (.int (0 : Int32)) := (sta_keep (Sta.ext E_5 S_hi) K_8 (nsS (Arv.nostat F_7) ns0))
    have F_49 : Sta Z h_13 "java/lang/StringUTF16" "LO_BYTE_SHIFT" "I" (.int (8 : Int32)) := (sta_keep (Sta.ext E_5 S_lo) K_8 (nsS (Arv.nostat F_7) ns0))
    refine Go.callS (a1 := a0) (pc' := 26) (argsL := [(.ref c), (.int (0 : Int32)), (.int (4 : Int32))]) (rest := []) (ct_tb_4 l Z a0 hw n0 h_13 c kc c0 c1 c2 c3 F_46 (by omega) F_47 F_48 F_49) d_jdk_52_method_16_code_23 (hw _ (List.mem_of_getElem? (i := 112) rfl)) (hw _ (List.mem_of_getElem? (i := 113) rfl)) (hw _ (List.mem_of_getElem? (i := 41) rfl)) (hw _ (List.mem_of_getElem? (i := 114) rfl)) (by decide) (lenOf pd__28_5bCII_29_5bB rfl) rfl 0 rfl rfl (by decide) (by decide) (by decide) (by decide) (fun _ q => nomatch q) rfl (fun v_50 h_51 N_52 hQ_53 hle_54 => ?_)
    obtain ⟨e_40, ke_41, rfl, g_42, g_43, K_44, F_45⟩ := hQ_53
    have lte_40 := nlt g_43
    refine Go.re (pc' := 26) (L' := #[.val (.ref c), .val (.int (0 : Int32)), .val (.int (4 : Int32)), .val (.ref a_1), .val (.int (1 : Int32)), .unset]) (S' := [(.ref e_40)]) rfl rfl rfl ?_
    refine Go.astore (pc' := 28) #[.val (.ref c), .val (.int (0 : Int32)), .val (.int (4 : Int32)), .val (.ref a_1), .val (.int (1 : Int32)), .val (.ref e_40)] d_jdk_52_method_16_code_26 rfl rfl rfl ?_
    refine Go.aload (pc' := 30) d_jdk_52_method_16_code_28 rfl rfl rfl ?_
    refine Go.iload (pc' := 32) d_jdk_52_method_16_code_30 rfl rfl ?_
    have F_55 : Sta Z h_51 "java/lang/StringUTF16" "$assertionsDisabled" "Z" (.int (1 : Int32)) := (sta_keep F_47 K_44 ns0)
    have F_56 : Sta Z h_51 "java/lang/StringUTF16" "HI_BYTE_SHIFT" "I" (.int (0 : Int32)) := (sta_keep F_48 K_44 ns0)
    have F_57 : Sta Z h_51 "java/lang/StringUTF16" "LO_BYTE_SHIFT" "I" (.int (8 : Int32)) := (sta_keep F_49 K_44 ns0)
    refine Go.callS (a1 := a0) (pc' := 35) (argsL := [(.ref e_40), (.int (1 : Int32))]) (rest := []) (ct_get l Z a0 hw n0 h_51 e_40 ke_41 8 1 [(c0 >>> ((0 : Int32) &&& 31)).toInt8.toInt32, (c0 >>> ((8 : Int32) &&& 31)).toInt8.toInt32, (c1 >>> ((0 : Int32) &&& 31)).toInt8.toInt32, (c1 >>> ((8 : Int32) &&& 31)).toInt8.toInt32, (c2 >>> ((0 : Int32) &&& 31)).toInt8.toInt32, (c2 >>> ((8 : Int32) &&& 31)).toInt8.toInt32, (c3 >>> ((0 : Int32) &&& 31)).toInt8.toInt32, (c3 >>> ((8 : Int32) &&& 31)).toInt8.toInt32] F_45 (by decide) (by decide) F_55 F_56 F_57) d_jdk_52_method_16_code_32 (hw _ (List.mem_of_getElem? (i := 128) rfl)) (hw _ (List.mem_of_getElem? (i := 129) rfl)) (hw _ (List.mem_of_getElem? (i := 41) rfl)) (hw _ (List.mem_of_getElem? (i := 130) rfl)) (by decide) (lenOf pd__28_5bBI_29C rfl) rfl 0 rfl rfl (by decide) (by decide) (by decide) (by decide) (fun _ q => nomatch q) rfl (fun v_58 h_59 N_60 hQ_61 hle_62 => ?_)
    obtain ⟨rfl, rfl⟩ := hQ_61
    refine Go.re (pc' := 35) (L' := #[.val (.ref c), .val (.int (0 : Int32)), .val (.int (4 : Int32)), .val (.ref a_1), .val (.int (1 : Int32)), .val (.ref e_40)]) (S' := [(.int c1)]) rfl rfl (congrArg (fun z => Value.int z :: _) (show (nar .char ((((c1 >>> ((0 : Int32) &&& 31)).toInt8.toInt32 &&& (255 : Int32)) <<< ((0 : Int32) &&& 31)) ||| (((c1 >>> ((8 : Int32) &&& 31)).toInt8.toInt32 &&& (255 : Int32)) <<< ((8 : Int32) &&& 31)))) = c1 from gchar hr1 hs1)) ?_
    refine Go.sipush (pc' := 38) 255 d_jdk_52_method_16_code_35 rfl rfl ?_
    refine Go.icmpT (pc' := 54) d_jdk_52_method_16_code_38 (hi_9) (by decide) (by decide) ?_
    refine Go.aload (pc' := 56) d_jdk_52_method_16_code_54 rfl rfl rfl ?_
    refine Go.retA rfl rfl rfl [] (fun _ q => nomatch q) d_jdk_52_method_16_code_56 (by decide) (by decide) ?_
    exact ⟨e_40, _, rfl, by omega, F_45.lt, (Keep.trans (Keep.trans (Keep.ext (Keep.refl _ []) E_5) K_8 (allS (Or.inr (by omega)) all0)) K_44 all0), Or.inr F_45⟩
  · refine Go.re (pc' := 12) (L' := #[.val (.ref c), .val (.int (0 : Int32)), .val (.int (4 : Int32)), .val (.ref a_1), .unset, .unset]) (S' := [(.int (2 : Int32))]) rfl rfl rfl ?_
    refine Go.istore (pc' := 14) #[.val (.ref c), .val (.int (0 : Int32)), .val (.int (4 : Int32)), .val (.ref a_1), .val (.int (2 : Int32)), .unset] d_jdk_52_method_16_code_12 rfl rfl ?_
    refine Go.iload (pc' := 16) d_jdk_52_method_16_code_14 rfl rfl ?_
    refine Go.iloadN (pc' := 17) d_jdk_52_method_16_code_16 rfl rfl ?_
    refine Go.icmpF (pc' := 20) d_jdk_52_method_16_code_17 (show ¬ ((2 : Int32) = (4 : Int32)) by decide) rfl ?_
    refine Go.aloadN (pc' := 21) d_jdk_52_method_16_code_20 rfl rfl rfl ?_
    refine Go.iloadN (pc' := 22) d_jdk_52_method_16_code_21 rfl rfl ?_
    refine Go.iloadN (pc' := 23) d_jdk_52_method_16_code_22 rfl rfl ?_
    have F_69 : Arv Z h_13 c kc .char (4 : Int32) [(.int c0), (.int c1), (.int c2), (.int c3)] (.int 0) := (Arv.keep F_11 K_8 (ninS (nne (by omega)) nin0))
    have F_70 : Sta Z h_13 "java/lang/StringUTF16" "$assertionsDisabled" "Z" (.int (1 : Int32)) := (sta_keep (Sta.ext E_5 S_ad) K_8 (nsS (Arv.nostat F_7) ns0))
    have F_71 : Sta Z h_13 "java/lang/StringUTF16" "HI_BYTE_SHIFT" "I" (.int (0 : Int32)) := (sta_keep (Sta.ext E_5 S_hi) K_8 (nsS (Arv.nostat F_7) ns0))
    have F_72 : Sta Z h_13 "java/lang/StringUTF16" "LO_BYTE_SHIFT" "I" (.int (8 : Int32)) := (sta_keep (Sta.ext E_5 S_lo) K_8 (nsS (Arv.nostat F_7) ns0))
    refine Go.callS (a1 := a0) (pc' := 26) (argsL := [(.ref c), (.int (0 : Int32)), (.int (4 : Int32))]) (rest := []) (ct_tb_4 l Z a0 hw n0 h_13 c kc c0 c1 c2 c3 F_69 (by omega) F_70 F_71 F_72) d_jdk_52_method_16_code_23 (hw _ (List.mem_of_getElem? (i := 112) rfl)) (hw _ (List.mem_of_getElem? (i := 113) rfl)) (hw _ (List.mem_of_getElem? (i := 41) rfl)) (hw _ (List.mem_of_getElem? (i := 114) rfl)) (by decide) (lenOf pd__28_5bCII_29_5bB rfl) rfl 0 rfl rfl (by decide) (by decide) (by decide) (by decide) (fun _ q => nomatch q) rfl (fun v_73 h_74 N_75 hQ_76 hle_77 => ?_)
    obtain ⟨e_63, ke_64, rfl, g_65, g_66, K_67, F_68⟩ := hQ_76
    have lte_63 := nlt g_66
    refine Go.re (pc' := 26) (L' := #[.val (.ref c), .val (.int (0 : Int32)), .val (.int (4 : Int32)), .val (.ref a_1), .val (.int (2 : Int32)), .unset]) (S' := [(.ref e_63)]) rfl rfl rfl ?_
    refine Go.astore (pc' := 28) #[.val (.ref c), .val (.int (0 : Int32)), .val (.int (4 : Int32)), .val (.ref a_1), .val (.int (2 : Int32)), .val (.ref e_63)] d_jdk_52_method_16_code_26 rfl rfl rfl ?_
    refine Go.aload (pc' := 30) d_jdk_52_method_16_code_28 rfl rfl rfl ?_
    refine Go.iload (pc' := 32) d_jdk_52_method_16_code_30 rfl rfl ?_
    have F_78 : Sta Z h_74 "java/lang/StringUTF16" "$assertionsDisabled" "Z" (.int (1 : Int32)) := (sta_keep F_70 K_67 ns0)
    have F_79 : Sta Z h_74 "java/lang/StringUTF16" "HI_BYTE_SHIFT" "I" (.int (0 : Int32)) := (sta_keep F_71 K_67 ns0)
    have F_80 : Sta Z h_74 "java/lang/StringUTF16" "LO_BYTE_SHIFT" "I" (.int (8 : Int32)) := (sta_keep F_72 K_67 ns0)
    refine Go.callS (a1 := a0) (pc' := 35) (argsL := [(.ref e_63), (.int (2 : Int32))]) (rest := []) (ct_get l Z a0 hw n0 h_74 e_63 ke_64 8 2 [(c0 >>> ((0 : Int32) &&& 31)).toInt8.toInt32, (c0 >>> ((8 : Int32) &&& 31)).toInt8.toInt32, (c1 >>> ((0 : Int32) &&& 31)).toInt8.toInt32, (c1 >>> ((8 : Int32) &&& 31)).toInt8.toInt32, (c2 >>> ((0 : Int32) &&& 31)).toInt8.toInt32, (c2 >>> ((8 : Int32) &&& 31)).toInt8.toInt32, (c3 >>> ((0 : Int32) &&& 31)).toInt8.toInt32, (c3 >>> ((8 : Int32) &&& 31)).toInt8.toInt32] F_68 (by decide) (by decide) F_78 F_79 F_80) d_jdk_52_method_16_code_32 (hw _ (List.mem_of_getElem? (i := 128) rfl)) (hw _ (List.mem_of_getElem? (i := 129) rfl)) (hw _ (List.mem_of_getElem? (i := 41) rfl)) (hw _ (List.mem_of_getElem? (i := 130) rfl)) (by decide) (lenOf pd__28_5bBI_29C rfl) rfl 0 rfl rfl (by decide) (by decide) (by decide) (by decide) (fun _ q => nomatch q) rfl (fun v_81 h_82 N_83 hQ_84 hle_85 => ?_)
    obtain ⟨rfl, rfl⟩ := hQ_84
    refine Go.re (pc' := 35) (L' := #[.val (.ref c), .val (.int (0 : Int32)), .val (.int (4 : Int32)), .val (.ref a_1), .val (.int (2 : Int32)), .val (.ref e_63)]) (S' := [(.int c2)]) rfl rfl (congrArg (fun z => Value.int z :: _) (show (nar .char ((((c2 >>> ((0 : Int32) &&& 31)).toInt8.toInt32 &&& (255 : Int32)) <<< ((0 : Int32) &&& 31)) ||| (((c2 >>> ((8 : Int32) &&& 31)).toInt8.toInt32 &&& (255 : Int32)) <<< ((8 : Int32) &&& 31)))) = c2 from gchar hr2 hs2)) ?_
    refine Go.sipush (pc' := 38) 255 d_jdk_52_method_16_code_35 rfl rfl ?_
    refine Go.icmpT (pc' := 54) d_jdk_52_method_16_code_38 (hi_9) (by decide) (by decide) ?_
    refine Go.aload (pc' := 56) d_jdk_52_method_16_code_54 rfl rfl rfl ?_
    refine Go.retA rfl rfl rfl [] (fun _ q => nomatch q) d_jdk_52_method_16_code_56 (by decide) (by decide) ?_
    exact ⟨e_63, _, rfl, by omega, F_68.lt, (Keep.trans (Keep.trans (Keep.ext (Keep.refl _ []) E_5) K_8 (allS (Or.inr (by omega)) all0)) K_67 all0), Or.inr F_68⟩
  · refine Go.re (pc' := 12) (L' := #[.val (.ref c), .val (.int (0 : Int32)), .val (.int (4 : Int32)), .val (.ref a_1), .unset, .unset]) (S' := [(.int (3 : Int32))]) rfl rfl rfl ?_
    refine Go.istore (pc' := 14) #[.val (.ref c), .val (.int (0 : Int32)), .val (.int (4 : Int32)), .val (.ref a_1), .val (.int (3 : Int32)), .unset] d_jdk_52_method_16_code_12 rfl rfl ?_
    refine Go.iload (pc' := 16) d_jdk_52_method_16_code_14 rfl rfl ?_
    refine Go.iloadN (pc' := 17) d_jdk_52_method_16_code_16 rfl rfl ?_
    refine Go.icmpF (pc' := 20) d_jdk_52_method_16_code_17 (show ¬ ((3 : Int32) = (4 : Int32)) by decide) rfl ?_
    refine Go.aloadN (pc' := 21) d_jdk_52_method_16_code_20 rfl rfl rfl ?_
    refine Go.iloadN (pc' := 22) d_jdk_52_method_16_code_21 rfl rfl ?_
    refine Go.iloadN (pc' := 23) d_jdk_52_method_16_code_22 rfl rfl ?_
    have F_92 : Arv Z h_13 c kc .char (4 : Int32) [(.int c0), (.int c1), (.int c2), (.int c3)] (.int 0) := (Arv.keep F_11 K_8 (ninS (nne (by omega)) nin0))
    have F_93 : Sta Z h_13 "java/lang/StringUTF16" "$assertionsDisabled" "Z" (.int (1 : Int32)) := (sta_keep (Sta.ext E_5 S_ad) K_8 (nsS (Arv.nostat F_7) ns0))
    have F_94 : Sta Z h_13 "java/lang/StringUTF16" "HI_BYTE_SHIFT" "I" (.int (0 : Int32)) := (sta_keep (Sta.ext E_5 S_hi) K_8 (nsS (Arv.nostat F_7) ns0))
    have F_95 : Sta Z h_13 "java/lang/StringUTF16" "LO_BYTE_SHIFT" "I" (.int (8 : Int32)) := (sta_keep (Sta.ext E_5 S_lo) K_8 (nsS (Arv.nostat F_7) ns0))
    refine Go.callS (a1 := a0) (pc' := 26) (argsL := [(.ref c), (.int (0 : Int32)), (.int (4 : Int32))]) (rest := []) (ct_tb_4 l Z a0 hw n0 h_13 c kc c0 c1 c2 c3 F_92 (by omega) F_93 F_94 F_95) d_jdk_52_method_16_code_23 (hw _ (List.mem_of_getElem? (i := 112) rfl)) (hw _ (List.mem_of_getElem? (i := 113) rfl)) (hw _ (List.mem_of_getElem? (i := 41) rfl)) (hw _ (List.mem_of_getElem? (i := 114) rfl)) (by decide) (lenOf pd__28_5bCII_29_5bB rfl) rfl 0 rfl rfl (by decide) (by decide) (by decide) (by decide) (fun _ q => nomatch q) rfl (fun v_96 h_97 N_98 hQ_99 hle_100 => ?_)
    obtain ⟨e_86, ke_87, rfl, g_88, g_89, K_90, F_91⟩ := hQ_99
    have lte_86 := nlt g_89
    refine Go.re (pc' := 26) (L' := #[.val (.ref c), .val (.int (0 : Int32)), .val (.int (4 : Int32)), .val (.ref a_1), .val (.int (3 : Int32)), .unset]) (S' := [(.ref e_86)]) rfl rfl rfl ?_
    refine Go.astore (pc' := 28) #[.val (.ref c), .val (.int (0 : Int32)), .val (.int (4 : Int32)), .val (.ref a_1), .val (.int (3 : Int32)), .val (.ref e_86)] d_jdk_52_method_16_code_26 rfl rfl rfl ?_
    refine Go.aload (pc' := 30) d_jdk_52_method_16_code_28 rfl rfl rfl ?_
    refine Go.iload (pc' := 32) d_jdk_52_method_16_code_30 rfl rfl ?_
    have F_101 : Sta Z h_97 "java/lang/StringUTF16" "$assertionsDisabled" "Z" (.int (1 : Int32)) := (sta_keep F_93 K_90 ns0)
    have F_102 : Sta Z h_97 "java/lang/StringUTF16" "HI_BYTE_SHIFT" "I" (.int (0 : Int32)) := (sta_keep F_94 K_90 ns0)
    have F_103 : Sta Z h_97 "java/lang/StringUTF16" "LO_BYTE_SHIFT" "I" (.int (8 : Int32)) := (sta_keep F_95 K_90 ns0)
    refine Go.callS (a1 := a0) (pc' := 35) (argsL := [(.ref e_86), (.int (3 : Int32))]) (rest := []) (ct_get l Z a0 hw n0 h_97 e_86 ke_87 8 3 [(c0 >>> ((0 : Int32) &&& 31)).toInt8.toInt32, (c0 >>> ((8 : Int32) &&& 31)).toInt8.toInt32, (c1 >>> ((0 : Int32) &&& 31)).toInt8.toInt32, (c1 >>> ((8 : Int32) &&& 31)).toInt8.toInt32, (c2 >>> ((0 : Int32) &&& 31)).toInt8.toInt32, (c2 >>> ((8 : Int32) &&& 31)).toInt8.toInt32, (c3 >>> ((0 : Int32) &&& 31)).toInt8.toInt32, (c3 >>> ((8 : Int32) &&& 31)).toInt8.toInt32] F_91 (by decide) (by decide) F_101 F_102 F_103) d_jdk_52_method_16_code_32 (hw _ (List.mem_of_getElem? (i := 128) rfl)) (hw _ (List.mem_of_getElem? (i := 129) rfl)) (hw _ (List.mem_of_getElem? (i := 41) rfl)) (hw _ (List.mem_of_getElem? (i := 130) rfl)) (by decide) (lenOf pd__28_5bBI_29C rfl) rfl 0 rfl rfl (by decide) (by decide) (by decide) (by decide) (fun _ q => nomatch q) rfl (fun v_104 h_105 N_106 hQ_107 hle_108 => ?_)
    obtain ⟨rfl, rfl⟩ := hQ_107
    refine Go.re (pc' := 35) (L' := #[.val (.ref c), .val (.int (0 : Int32)), .val (.int (4 : Int32)), .val (.ref a_1), .val (.int (3 : Int32)), .val (.ref e_86)]) (S' := [(.int c3)]) rfl rfl (congrArg (fun z => Value.int z :: _) (show (nar .char ((((c3 >>> ((0 : Int32) &&& 31)).toInt8.toInt32 &&& (255 : Int32)) <<< ((0 : Int32) &&& 31)) ||| (((c3 >>> ((8 : Int32) &&& 31)).toInt8.toInt32 &&& (255 : Int32)) <<< ((8 : Int32) &&& 31)))) = c3 from gchar hr3 hs3)) ?_
    refine Go.sipush (pc' := 38) 255 d_jdk_52_method_16_code_35 rfl rfl ?_
    refine Go.icmpT (pc' := 54) d_jdk_52_method_16_code_38 (hi_9) (by decide) (by decide) ?_
    refine Go.aload (pc' := 56) d_jdk_52_method_16_code_54 rfl rfl rfl ?_
    refine Go.retA rfl rfl rfl [] (fun _ q => nomatch q) d_jdk_52_method_16_code_56 (by decide) (by decide) ?_
    exact ⟨e_86, _, rfl, by omega, F_91.lt, (Keep.trans (Keep.trans (Keep.ext (Keep.refl _ []) E_5) K_8 (allS (Or.inr (by omega)) all0)) K_90 all0), Or.inr F_91⟩
theorem d_jdk_52_method_15_code_0 : decode jdk_52_method_15_code 0 = .ok (.iload_n 1, 1) := by decide +kernel
theorem d_jdk_52_method_15_code_1 : decode jdk_52_method_15_code 1 = .ok (.aload_n 0, 1) := by decide +kernel
theorem d_jdk_52_method_15_code_2 : decode jdk_52_method_15_code 2 = .ok (.arraylength, 1) := by decide +kernel
theorem d_jdk_52_method_15_code_3 : decode jdk_52_method_15_code 3 = .ok (.isub, 1) := by decide +kernel
theorem d_jdk_52_method_15_code_4 : decode jdk_52_method_15_code 4 = .ok (.bipush 31, 2) := by decide +kernel
theorem d_jdk_52_method_15_code_6 : decode jdk_52_method_15_code 6 = .ok (.iushr, 1) := by decide +kernel
theorem d_jdk_52_method_15_code_7 : decode jdk_52_method_15_code 7 = .ok (.i2b, 1) := by decide +kernel
theorem d_jdk_52_method_15_code_8 : decode jdk_52_method_15_code 8 = .ok (.ireturn, 1) := by decide +kernel
set_option maxRecDepth 65536 in
set_option maxHeartbeats 40000000 in
theorem ct_cf_1_1 (l : Launch) (Z : State) (a0 : Array Value) (hw : ∀ d ∈ tables_1, d.before a0 Z = true) (n0 : Nat) (h0 : Heap) (b : Addr) (k : ClassId) (vs : List Value) (AV : Arv Z h0 b k .byte (1 : Int32) vs (.int 0)) :
    Ct l Z (⟨"java/lang/StringUTF16", "coderFromArrayLen", "([BI)B"⟩ : MethodName) jdk_52_method_15_code 2 (some .byte) ({ frames := 0, cells := 0, slots := 0, locals := 0 } : Room) EL1 n0 true [] #[(.ref b), (.int (1 : Int32))] h0 [] (fun v h N => h0 = h ∧ v = some (.int (0 : Int32))) := by
  refine Ct.of (a0 := a0) (plainFor_of_name pn_java_lang_StringUTF16) (own_ew hw) (L0 := #[.val (.ref b), .val (.int (1 : Int32))]) (fun m => by first | (simp [entryFrame, mkF, argsToLocals, Value.category]; done) | rfl) ?_
  have l0_AV := nlt AV.lt
  refine Go.iloadN (pc' := 1) d_jdk_52_method_15_code_0 rfl rfl ?_
  refine Go.aloadN (pc' := 2) d_jdk_52_method_15_code_1 rfl rfl rfl ?_
  refine Go.alenV (pc' := 3) d_jdk_52_method_15_code_2 AV rfl ?_
  refine Go.isub (pc' := 4) d_jdk_52_method_15_code_3 rfl ?_
  refine Go.re (pc' := 4) (L' := #[.val (.ref b), .val (.int (1 : Int32))]) (S' := [(.int (0 : Int32))]) rfl rfl (congrArg (fun z => Value.int z :: _) (show (1 : Int32) - 1 = 0 by decide)) ?_
  refine Go.bipush (pc' := 6) 31 d_jdk_52_method_15_code_4 rfl rfl ?_
  refine Go.iushr (pc' := 7) d_jdk_52_method_15_code_6 rfl ?_
  refine Go.re (pc' := 7) (L' := #[.val (.ref b), .val (.int (1 : Int32))]) (S' := [(.int (0 : Int32))]) rfl rfl (congrArg (fun z => Value.int z :: _) (show (usr (0 : Int32) (31 : Int32)) = 0 by decide)) ?_
  refine Go.i2b (pc' := 8) d_jdk_52_method_15_code_7 rfl ?_
  refine Go.re (pc' := 8) (L' := #[.val (.ref b), .val (.int (1 : Int32))]) (S' := [(.int (0 : Int32))]) rfl rfl rfl ?_
  refine Go.retN (t := .byte) (0 : Int32) rfl (by simp) rfl [] (fun _ q => nomatch q) d_jdk_52_method_15_code_8 (by decide) (by decide) ?_
  exact ⟨rfl, rfl⟩
set_option maxRecDepth 65536 in
set_option maxHeartbeats 40000000 in
theorem ct_cf_1_2 (l : Launch) (Z : State) (a0 : Array Value) (hw : ∀ d ∈ tables_1, d.before a0 Z = true) (n0 : Nat) (h0 : Heap) (b : Addr) (k : ClassId) (vs : List Value) (AV : Arv Z h0 b k .byte (2 : Int32) vs (.int 0)) :
    Ct l Z (⟨"java/lang/StringUTF16", "coderFromArrayLen", "([BI)B"⟩ : MethodName) jdk_52_method_15_code 2 (some .byte) ({ frames := 0, cells := 0, slots := 0, locals := 0 } : Room) EL1 n0 true [] #[(.ref b), (.int (1 : Int32))] h0 [] (fun v h N => h0 = h ∧ v = some (.int (1 : Int32))) := by
  refine Ct.of (a0 := a0) (plainFor_of_name pn_java_lang_StringUTF16) (own_ew hw) (L0 := #[.val (.ref b), .val (.int (1 : Int32))]) (fun m => by first | (simp [entryFrame, mkF, argsToLocals, Value.category]; done) | rfl) ?_
  have l0_AV := nlt AV.lt
  refine Go.iloadN (pc' := 1) d_jdk_52_method_15_code_0 rfl rfl ?_
  refine Go.aloadN (pc' := 2) d_jdk_52_method_15_code_1 rfl rfl rfl ?_
  refine Go.alenV (pc' := 3) d_jdk_52_method_15_code_2 AV rfl ?_
  refine Go.isub (pc' := 4) d_jdk_52_method_15_code_3 rfl ?_
  refine Go.re (pc' := 4) (L' := #[.val (.ref b), .val (.int (1 : Int32))]) (S' := [(.int (-1 : Int32))]) rfl rfl (congrArg (fun z => Value.int z :: _) (show (1 : Int32) - 2 = -1 by decide)) ?_
  refine Go.bipush (pc' := 6) 31 d_jdk_52_method_15_code_4 rfl rfl ?_
  refine Go.iushr (pc' := 7) d_jdk_52_method_15_code_6 rfl ?_
  refine Go.re (pc' := 7) (L' := #[.val (.ref b), .val (.int (1 : Int32))]) (S' := [(.int (1 : Int32))]) rfl rfl (congrArg (fun z => Value.int z :: _) (show (usr (-1 : Int32) (31 : Int32)) = 1 by decide)) ?_
  refine Go.i2b (pc' := 8) d_jdk_52_method_15_code_7 rfl ?_
  refine Go.re (pc' := 8) (L' := #[.val (.ref b), .val (.int (1 : Int32))]) (S' := [(.int (1 : Int32))]) rfl rfl rfl ?_
  refine Go.retN (t := .byte) (1 : Int32) rfl (by simp) rfl [] (fun _ q => nomatch q) d_jdk_52_method_15_code_8 (by decide) (by decide) ?_
  exact ⟨rfl, rfl⟩
set_option maxRecDepth 65536 in
set_option maxHeartbeats 40000000 in
theorem ct_cf_2_2 (l : Launch) (Z : State) (a0 : Array Value) (hw : ∀ d ∈ tables_1, d.before a0 Z = true) (n0 : Nat) (h0 : Heap) (b : Addr) (k : ClassId) (vs : List Value) (AV : Arv Z h0 b k .byte (2 : Int32) vs (.int 0)) :
    Ct l Z (⟨"java/lang/StringUTF16", "coderFromArrayLen", "([BI)B"⟩ : MethodName) jdk_52_method_15_code 2 (some .byte) ({ frames := 0, cells := 0, slots := 0, locals := 0 } : Room) EL1 n0 true [] #[(.ref b), (.int (2 : Int32))] h0 [] (fun v h N => h0 = h ∧ v = some (.int (0 : Int32))) := by
  refine Ct.of (a0 := a0) (plainFor_of_name pn_java_lang_StringUTF16) (own_ew hw) (L0 := #[.val (.ref b), .val (.int (2 : Int32))]) (fun m => by first | (simp [entryFrame, mkF, argsToLocals, Value.category]; done) | rfl) ?_
  have l0_AV := nlt AV.lt
  refine Go.iloadN (pc' := 1) d_jdk_52_method_15_code_0 rfl rfl ?_
  refine Go.aloadN (pc' := 2) d_jdk_52_method_15_code_1 rfl rfl rfl ?_
  refine Go.alenV (pc' := 3) d_jdk_52_method_15_code_2 AV rfl ?_
  refine Go.isub (pc' := 4) d_jdk_52_method_15_code_3 rfl ?_
  refine Go.re (pc' := 4) (L' := #[.val (.ref b), .val (.int (2 : Int32))]) (S' := [(.int (0 : Int32))]) rfl rfl (congrArg (fun z => Value.int z :: _) (show (2 : Int32) - 2 = 0 by decide)) ?_
  refine Go.bipush (pc' := 6) 31 d_jdk_52_method_15_code_4 rfl rfl ?_
  refine Go.iushr (pc' := 7) d_jdk_52_method_15_code_6 rfl ?_
  refine Go.re (pc' := 7) (L' := #[.val (.ref b), .val (.int (2 : Int32))]) (S' := [(.int (0 : Int32))]) rfl rfl (congrArg (fun z => Value.int z :: _) (show (usr (0 : Int32) (31 : Int32)) = 0 by decide)) ?_
  refine Go.i2b (pc' := 8) d_jdk_52_method_15_code_7 rfl ?_
  refine Go.re (pc' := 8) (L' := #[.val (.ref b), .val (.int (2 : Int32))]) (S' := [(.int (0 : Int32))]) rfl rfl rfl ?_
  refine Go.retN (t := .byte) (0 : Int32) rfl (by simp) rfl [] (fun _ q => nomatch q) d_jdk_52_method_15_code_8 (by decide) (by decide) ?_
  exact ⟨rfl, rfl⟩
set_option maxRecDepth 65536 in
set_option maxHeartbeats 40000000 in
theorem ct_cf_2_4 (l : Launch) (Z : State) (a0 : Array Value) (hw : ∀ d ∈ tables_1, d.before a0 Z = true) (n0 : Nat) (h0 : Heap) (b : Addr) (k : ClassId) (vs : List Value) (AV : Arv Z h0 b k .byte (4 : Int32) vs (.int 0)) :
    Ct l Z (⟨"java/lang/StringUTF16", "coderFromArrayLen", "([BI)B"⟩ : MethodName) jdk_52_method_15_code 2 (some .byte) ({ frames := 0, cells := 0, slots := 0, locals := 0 } : Room) EL1 n0 true [] #[(.ref b), (.int (2 : Int32))] h0 [] (fun v h N => h0 = h ∧ v = some (.int (1 : Int32))) := by
  refine Ct.of (a0 := a0) (plainFor_of_name pn_java_lang_StringUTF16) (own_ew hw) (L0 := #[.val (.ref b), .val (.int (2 : Int32))]) (fun m => by first | (simp [entryFrame, mkF, argsToLocals, Value.category]; done) | rfl) ?_
  have l0_AV := nlt AV.lt
  refine Go.iloadN (pc' := 1) d_jdk_52_method_15_code_0 rfl rfl ?_
  refine Go.aloadN (pc' := 2) d_jdk_52_method_15_code_1 rfl rfl rfl ?_
  refine Go.alenV (pc' := 3) d_jdk_52_method_15_code_2 AV rfl ?_
  refine Go.isub (pc' := 4) d_jdk_52_method_15_code_3 rfl ?_
  refine Go.re (pc' := 4) (L' := #[.val (.ref b), .val (.int (2 : Int32))]) (S' := [(.int (-2 : Int32))]) rfl rfl (congrArg (fun z => Value.int z :: _) (show (2 : Int32) - 4 = -2 by decide)) ?_
  refine Go.bipush (pc' := 6) 31 d_jdk_52_method_15_code_4 rfl rfl ?_
  refine Go.iushr (pc' := 7) d_jdk_52_method_15_code_6 rfl ?_
  refine Go.re (pc' := 7) (L' := #[.val (.ref b), .val (.int (2 : Int32))]) (S' := [(.int (1 : Int32))]) rfl rfl (congrArg (fun z => Value.int z :: _) (show (usr (-2 : Int32) (31 : Int32)) = 1 by decide)) ?_
  refine Go.i2b (pc' := 8) d_jdk_52_method_15_code_7 rfl ?_
  refine Go.re (pc' := 8) (L' := #[.val (.ref b), .val (.int (2 : Int32))]) (S' := [(.int (1 : Int32))]) rfl rfl rfl ?_
  refine Go.retN (t := .byte) (1 : Int32) rfl (by simp) rfl [] (fun _ q => nomatch q) d_jdk_52_method_15_code_8 (by decide) (by decide) ?_
  exact ⟨rfl, rfl⟩
set_option maxRecDepth 65536 in
set_option maxHeartbeats 40000000 in
theorem ct_cf_3_3 (l : Launch) (Z : State) (a0 : Array Value) (hw : ∀ d ∈ tables_1, d.before a0 Z = true) (n0 : Nat) (h0 : Heap) (b : Addr) (k : ClassId) (vs : List Value) (AV : Arv Z h0 b k .byte (3 : Int32) vs (.int 0)) :
    Ct l Z (⟨"java/lang/StringUTF16", "coderFromArrayLen", "([BI)B"⟩ : MethodName) jdk_52_method_15_code 2 (some .byte) ({ frames := 0, cells := 0, slots := 0, locals := 0 } : Room) EL1 n0 true [] #[(.ref b), (.int (3 : Int32))] h0 [] (fun v h N => h0 = h ∧ v = some (.int (0 : Int32))) := by
  refine Ct.of (a0 := a0) (plainFor_of_name pn_java_lang_StringUTF16) (own_ew hw) (L0 := #[.val (.ref b), .val (.int (3 : Int32))]) (fun m => by first | (simp [entryFrame, mkF, argsToLocals, Value.category]; done) | rfl) ?_
  have l0_AV := nlt AV.lt
  refine Go.iloadN (pc' := 1) d_jdk_52_method_15_code_0 rfl rfl ?_
  refine Go.aloadN (pc' := 2) d_jdk_52_method_15_code_1 rfl rfl rfl ?_
  refine Go.alenV (pc' := 3) d_jdk_52_method_15_code_2 AV rfl ?_
  refine Go.isub (pc' := 4) d_jdk_52_method_15_code_3 rfl ?_
  refine Go.re (pc' := 4) (L' := #[.val (.ref b), .val (.int (3 : Int32))]) (S' := [(.int (0 : Int32))]) rfl rfl (congrArg (fun z => Value.int z :: _) (show (3 : Int32) - 3 = 0 by decide)) ?_
  refine Go.bipush (pc' := 6) 31 d_jdk_52_method_15_code_4 rfl rfl ?_
  refine Go.iushr (pc' := 7) d_jdk_52_method_15_code_6 rfl ?_
  refine Go.re (pc' := 7) (L' := #[.val (.ref b), .val (.int (3 : Int32))]) (S' := [(.int (0 : Int32))]) rfl rfl (congrArg (fun z => Value.int z :: _) (show (usr (0 : Int32) (31 : Int32)) = 0 by decide)) ?_
  refine Go.i2b (pc' := 8) d_jdk_52_method_15_code_7 rfl ?_
  refine Go.re (pc' := 8) (L' := #[.val (.ref b), .val (.int (3 : Int32))]) (S' := [(.int (0 : Int32))]) rfl rfl rfl ?_
  refine Go.retN (t := .byte) (0 : Int32) rfl (by simp) rfl [] (fun _ q => nomatch q) d_jdk_52_method_15_code_8 (by decide) (by decide) ?_
  exact ⟨rfl, rfl⟩
set_option maxRecDepth 65536 in
set_option maxHeartbeats 40000000 in
theorem ct_cf_3_6 (l : Launch) (Z : State) (a0 : Array Value) (hw : ∀ d ∈ tables_1, d.before a0 Z = true) (n0 : Nat) (h0 : Heap) (b : Addr) (k : ClassId) (vs : List Value) (AV : Arv Z h0 b k .byte (6 : Int32) vs (.int 0)) :
    Ct l Z (⟨"java/lang/StringUTF16", "coderFromArrayLen", "([BI)B"⟩ : MethodName) jdk_52_method_15_code 2 (some .byte) ({ frames := 0, cells := 0, slots := 0, locals := 0 } : Room) EL1 n0 true [] #[(.ref b), (.int (3 : Int32))] h0 [] (fun v h N => h0 = h ∧ v = some (.int (1 : Int32))) := by
  refine Ct.of (a0 := a0) (plainFor_of_name pn_java_lang_StringUTF16) (own_ew hw) (L0 := #[.val (.ref b), .val (.int (3 : Int32))]) (fun m => by first | (simp [entryFrame, mkF, argsToLocals, Value.category]; done) | rfl) ?_
  have l0_AV := nlt AV.lt
  refine Go.iloadN (pc' := 1) d_jdk_52_method_15_code_0 rfl rfl ?_
  refine Go.aloadN (pc' := 2) d_jdk_52_method_15_code_1 rfl rfl rfl ?_
  refine Go.alenV (pc' := 3) d_jdk_52_method_15_code_2 AV rfl ?_
  refine Go.isub (pc' := 4) d_jdk_52_method_15_code_3 rfl ?_
  refine Go.re (pc' := 4) (L' := #[.val (.ref b), .val (.int (3 : Int32))]) (S' := [(.int (-3 : Int32))]) rfl rfl (congrArg (fun z => Value.int z :: _) (show (3 : Int32) - 6 = -3 by decide)) ?_
  refine Go.bipush (pc' := 6) 31 d_jdk_52_method_15_code_4 rfl rfl ?_
  refine Go.iushr (pc' := 7) d_jdk_52_method_15_code_6 rfl ?_
  refine Go.re (pc' := 7) (L' := #[.val (.ref b), .val (.int (3 : Int32))]) (S' := [(.int (1 : Int32))]) rfl rfl (congrArg (fun z => Value.int z :: _) (show (usr (-3 : Int32) (31 : Int32)) = 1 by decide)) ?_
  refine Go.i2b (pc' := 8) d_jdk_52_method_15_code_7 rfl ?_
  refine Go.re (pc' := 8) (L' := #[.val (.ref b), .val (.int (3 : Int32))]) (S' := [(.int (1 : Int32))]) rfl rfl rfl ?_
  refine Go.retN (t := .byte) (1 : Int32) rfl (by simp) rfl [] (fun _ q => nomatch q) d_jdk_52_method_15_code_8 (by decide) (by decide) ?_
  exact ⟨rfl, rfl⟩
set_option maxRecDepth 65536 in
set_option maxHeartbeats 40000000 in
theorem ct_cf_4_4 (l : Launch) (Z : State) (a0 : Array Value) (hw : ∀ d ∈ tables_1, d.before a0 Z = true) (n0 : Nat) (h0 : Heap) (b : Addr) (k : ClassId) (vs : List Value) (AV : Arv Z h0 b k .byte (4 : Int32) vs (.int 0)) :
    Ct l Z (⟨"java/lang/StringUTF16", "coderFromArrayLen", "([BI)B"⟩ : MethodName) jdk_52_method_15_code 2 (some .byte) ({ frames := 0, cells := 0, slots := 0, locals := 0 } : Room) EL1 n0 true [] #[(.ref b), (.int (4 : Int32))] h0 [] (fun v h N => h0 = h ∧ v = some (.int (0 : Int32))) := by
  refine Ct.of (a0 := a0) (plainFor_of_name pn_java_lang_StringUTF16) (own_ew hw) (L0 := #[.val (.ref b), .val (.int (4 : Int32))]) (fun m => by first | (simp [entryFrame, mkF, argsToLocals, Value.category]; done) | rfl) ?_
  have l0_AV := nlt AV.lt
  refine Go.iloadN (pc' := 1) d_jdk_52_method_15_code_0 rfl rfl ?_
  refine Go.aloadN (pc' := 2) d_jdk_52_method_15_code_1 rfl rfl rfl ?_
  refine Go.alenV (pc' := 3) d_jdk_52_method_15_code_2 AV rfl ?_
  refine Go.isub (pc' := 4) d_jdk_52_method_15_code_3 rfl ?_
  refine Go.re (pc' := 4) (L' := #[.val (.ref b), .val (.int (4 : Int32))]) (S' := [(.int (0 : Int32))]) rfl rfl (congrArg (fun z => Value.int z :: _) (show (4 : Int32) - 4 = 0 by decide)) ?_
  refine Go.bipush (pc' := 6) 31 d_jdk_52_method_15_code_4 rfl rfl ?_
  refine Go.iushr (pc' := 7) d_jdk_52_method_15_code_6 rfl ?_
  refine Go.re (pc' := 7) (L' := #[.val (.ref b), .val (.int (4 : Int32))]) (S' := [(.int (0 : Int32))]) rfl rfl (congrArg (fun z => Value.int z :: _) (show (usr (0 : Int32) (31 : Int32)) = 0 by decide)) ?_
  refine Go.i2b (pc' := 8) d_jdk_52_method_15_code_7 rfl ?_
  refine Go.re (pc' := 8) (L' := #[.val (.ref b), .val (.int (4 : Int32))]) (S' := [(.int (0 : Int32))]) rfl rfl rfl ?_
  refine Go.retN (t := .byte) (0 : Int32) rfl (by simp) rfl [] (fun _ q => nomatch q) d_jdk_52_method_15_code_8 (by decide) (by decide) ?_
  exact ⟨rfl, rfl⟩
set_option maxRecDepth 65536 in
set_option maxHeartbeats 40000000 in
theorem ct_cf_4_8 (l : Launch) (Z : State) (a0 : Array Value) (hw : ∀ d ∈ tables_1, d.before a0 Z = true) (n0 : Nat) (h0 : Heap) (b : Addr) (k : ClassId) (vs : List Value) (AV : Arv Z h0 b k .byte (8 : Int32) vs (.int 0)) :
    Ct l Z (⟨"java/lang/StringUTF16", "coderFromArrayLen", "([BI)B"⟩ : MethodName) jdk_52_method_15_code 2 (some .byte) ({ frames := 0, cells := 0, slots := 0, locals := 0 } : Room) EL1 n0 true [] #[(.ref b), (.int (4 : Int32))] h0 [] (fun v h N => h0 = h ∧ v = some (.int (1 : Int32))) := by
  refine Ct.of (a0 := a0) (plainFor_of_name pn_java_lang_StringUTF16) (own_ew hw) (L0 := #[.val (.ref b), .val (.int (4 : Int32))]) (fun m => by first | (simp [entryFrame, mkF, argsToLocals, Value.category]; done) | rfl) ?_
  have l0_AV := nlt AV.lt
  refine Go.iloadN (pc' := 1) d_jdk_52_method_15_code_0 rfl rfl ?_
  refine Go.aloadN (pc' := 2) d_jdk_52_method_15_code_1 rfl rfl rfl ?_
  refine Go.alenV (pc' := 3) d_jdk_52_method_15_code_2 AV rfl ?_
  refine Go.isub (pc' := 4) d_jdk_52_method_15_code_3 rfl ?_
  refine Go.re (pc' := 4) (L' := #[.val (.ref b), .val (.int (4 : Int32))]) (S' := [(.int (-4 : Int32))]) rfl rfl (congrArg (fun z => Value.int z :: _) (show (4 : Int32) - 8 = -4 by decide)) ?_
  refine Go.bipush (pc' := 6) 31 d_jdk_52_method_15_code_4 rfl rfl ?_
  refine Go.iushr (pc' := 7) d_jdk_52_method_15_code_6 rfl ?_
  refine Go.re (pc' := 7) (L' := #[.val (.ref b), .val (.int (4 : Int32))]) (S' := [(.int (1 : Int32))]) rfl rfl (congrArg (fun z => Value.int z :: _) (show (usr (-4 : Int32) (31 : Int32)) = 1 by decide)) ?_
  refine Go.i2b (pc' := 8) d_jdk_52_method_15_code_7 rfl ?_
  refine Go.re (pc' := 8) (L' := #[.val (.ref b), .val (.int (4 : Int32))]) (S' := [(.int (1 : Int32))]) rfl rfl rfl ?_
  refine Go.retN (t := .byte) (1 : Int32) rfl (by simp) rfl [] (fun _ q => nomatch q) d_jdk_52_method_15_code_8 (by decide) (by decide) ?_
  exact ⟨rfl, rfl⟩
theorem pn_java_lang_String : plainName "java/lang/String" = true := by first | (simp [plainName, overriddenIn]; done) | decide +kernel
theorem d_jdk_42_method_149_code_0 : decode jdk_42_method_149_code 0 = .ok (.aload_n 0, 1) := by decide +kernel
theorem d_jdk_42_method_149_code_1 : decode jdk_42_method_149_code 1 = .ok (.invokespecial 1, 3) := by decide +kernel
theorem d_jdk_42_method_149_code_4 : decode jdk_42_method_149_code 4 = .ok (.iload_n 3, 1) := by decide +kernel
theorem d_jdk_42_method_149_code_5 : decode jdk_42_method_149_code 5 = .ok (.ifCond .ne 22, 3) := by decide +kernel
theorem d_jdk_42_method_149_code_27 : decode jdk_42_method_149_code 27 = .ok (.getstatic 38, 3) := by decide +kernel
theorem d_jdk_42_method_149_code_30 : decode jdk_42_method_149_code 30 = .ok (.ifCond .eq 28, 3) := by decide +kernel
theorem d_jdk_42_method_149_code_33 : decode jdk_42_method_149_code 33 = .ok (.aload_n 1, 1) := by decide +kernel
theorem d_jdk_42_method_149_code_34 : decode jdk_42_method_149_code 34 = .ok (.iload_n 2, 1) := by decide +kernel
theorem d_jdk_42_method_149_code_35 : decode jdk_42_method_149_code 35 = .ok (.iload_n 3, 1) := by decide +kernel
theorem d_jdk_42_method_149_code_36 : decode jdk_42_method_149_code 36 = .ok (.invokestatic 177, 3) := by decide +kernel
theorem d_jdk_42_method_149_code_39 : decode jdk_42_method_149_code 39 = .ok (.astore 5, 2) := by decide +kernel
theorem d_jdk_42_method_149_code_41 : decode jdk_42_method_149_code 41 = .ok (.aload_n 0, 1) := by decide +kernel
theorem d_jdk_42_method_149_code_42 : decode jdk_42_method_149_code 42 = .ok (.aload 5, 2) := by decide +kernel
theorem d_jdk_42_method_149_code_44 : decode jdk_42_method_149_code 44 = .ok (.iload_n 3, 1) := by decide +kernel
theorem pd__28_5bBI_29B : parseMethodDescriptor "([BI)B" = some ⟨[(.array .byte), .int], (some .byte)⟩ := by decide +kernel
theorem d_jdk_42_method_149_code_45 : decode jdk_42_method_149_code 45 = .ok (.invokestatic 47, 3) := by decide +kernel
theorem d_jdk_42_method_149_code_48 : decode jdk_42_method_149_code 48 = .ok (.putfield 15, 3) := by decide +kernel
theorem d_jdk_42_method_149_code_51 : decode jdk_42_method_149_code 51 = .ok (.aload_n 0, 1) := by decide +kernel
theorem d_jdk_42_method_149_code_52 : decode jdk_42_method_149_code 52 = .ok (.aload 5, 2) := by decide +kernel
theorem d_jdk_42_method_149_code_54 : decode jdk_42_method_149_code 54 = .ok (.putfield 9, 3) := by decide +kernel
theorem d_jdk_42_method_149_code_57 : decode jdk_42_method_149_code 57 = .ok (.return_, 1) := by decide +kernel
set_option maxRecDepth 65536 in
set_option maxHeartbeats 40000000 in
theorem ct_i4_1 (l : Launch) (Z : State) (a0 : Array Value) (hw : ∀ d ∈ tables_1, d.before a0 Z = true) (n0 : Nat) (h0 : Heap) (a1 : Addr) (ha1 : n0 ≤ a1) (E1 : Exa Z h0 a1 "java/lang/String") (G1 : Fld Z h0 a1 "java/lang/String" "value" "[B" .null) (G2 : Fld Z h0 a1 "java/lang/String" "coder" "B" (.int (0 : Int32))) (c : Addr) (kc : ClassId) (c0 : Int32) (AC : Arv Z h0 c kc .char (1 : Int32) [(.int c0)] (.int 0)) (hr0 : ¬ c0 < 0) (hs0 : ¬ 65535 < c0) (cs : Int32) (S_cs : Sta Z h0 "java/lang/String" "COMPACT_STRINGS" "Z" (.int cs)) (hcs : ¬ cs = 0) (S_ad : Sta Z h0 "java/lang/StringUTF16" "$assertionsDisabled" "Z" (.int (1 : Int32))) (S_hi : Sta Z h0 "java/lang/StringUTF16" "HI_BYTE_SHIFT" "I" (.int (0 : Int32))) (S_lo : Sta Z h0 "java/lang/StringUTF16" "LO_BYTE_SHIFT" "I" (.int (8 : Int32))) :
    Ct l Z (⟨"java/lang/String", "<init>", "([CIILjava/lang/Void;)V"⟩ : MethodName) jdk_42_method_149_code 6 none ({ frames := 4, cells := 2, slots := 3, locals := 57 } : Room) EL1 n0 true [] #[(.ref a1), (.ref c), (.int (0 : Int32)), (.int (1 : Int32)), (.null)] h0 [a1] (fun v h N => v = none ∧ Keep h0 h [a1] ∧ Sx Z h a1 [c0]) := by
  refine Ct.of (a0 := a0) (plainFor_of_name pn_java_lang_String) (own_ew hw) (L0 := #[.val (.ref a1), .val (.ref c), .val (.int (0 : Int32)), .val (.int (1 : Int32)), .val (.null), .unset]) (fun m => by first | (simp [entryFrame, mkF, argsToLocals, Value.category]; done) | rfl) ?_
  have l0_E1 := nlt E1.lt
  have l0_AC := nlt AC.lt
  refine Go.aloadN (pc' := 1) d_jdk_42_method_149_code_0 rfl rfl rfl ?_
  refine Go.initO (pc' := 4) (a1 := a0) d_jdk_42_method_149_code_1 (hw _ (List.mem_of_getElem? (i := 18) rfl)) (hw _ (List.mem_of_getElem? (i := 19) rfl)) (hw _ (List.mem_of_getElem? (i := 20) rfl)) rfl (by decide) 0 rfl (by decide) rfl ?_
  refine Go.iloadN (pc' := 5) d_jdk_42_method_149_code_4 rfl rfl ?_
  refine Go.ifT (pc' := 27) d_jdk_42_method_149_code_5 (show ¬ ((1 : Int32) = (0 : Int32)) by decide) (by decide) (by decide) ?_
  refine Go.getS (pc' := 30) (host := "") (a1 := a0) d_jdk_42_method_149_code_27 (Or.inl (hw _ (List.mem_of_getElem? (i := 38) rfl))) Via.refl S_cs rfl ?_
  refine Go.ifF (pc' := 33) d_jdk_42_method_149_code_30 (hcs) rfl ?_
  refine Go.aloadN (pc' := 34) d_jdk_42_method_149_code_33 rfl rfl rfl ?_
  refine Go.iloadN (pc' := 35) d_jdk_42_method_149_code_34 rfl rfl ?_
  refine Go.iloadN (pc' := 36) d_jdk_42_method_149_code_35 rfl rfl ?_
  refine Go.callS (a1 := a0) (pc' := 39) (argsL := [(.ref c), (.int (0 : Int32)), (.int (1 : Int32))]) (rest := []) (ct_c3_1 l Z a0 hw n0 h0 c kc c0 AC hr0 hs0 (by omega) S_ad S_hi S_lo) d_jdk_42_method_149_code_36 (hw _ (List.mem_of_getElem? (i := 39) rfl)) (hw _ (List.mem_of_getElem? (i := 40) rfl)) (hw _ (List.mem_of_getElem? (i := 41) rfl)) (hw _ (List.mem_of_getElem? (i := 42) rfl)) (by decide) (lenOf pd__28_5bCII_29_5bB rfl) rfl 0 rfl rfl (by decide) (by decide) (by decide) (by decide) (fun _ q => nomatch q) rfl (fun v_8 h_9 N_10 hQ_11 hle_12 => ?_)
  obtain ⟨d_1, kd_2, rfl, g_3, g_4, K_5, hi_6⟩ := hQ_11
  have ltd_1 := nlt g_4
  refine Go.re (pc' := 39) (L' := #[.val (.ref a1), .val (.ref c), .val (.int (0 : Int32)), .val (.int (1 : Int32)), .val (.null), .unset]) (S' := [(.ref d_1)]) rfl rfl rfl ?_
  rcases hi_6 with ⟨F_7, hi_6⟩ | F_7
  · refine Go.re (pc' := 39) (L' := #[.val (.ref a1), .val (.ref c), .val (.int (0 : Int32)), .val (.int (1 : Int32)), .val (.null), .unset]) (S' := [(.ref d_1)]) rfl rfl rfl ?_
    refine Go.astore (pc' := 41) #[.val (.ref a1), .val (.ref c), .val (.int (0 : Int32)), .val (.int (1 : Int32)), .val (.null), .val (.ref d_1)] d_jdk_42_method_149_code_39 rfl rfl rfl ?_
    refine Go.aloadN (pc' := 42) d_jdk_42_method_149_code_41 rfl rfl rfl ?_
    refine Go.aload (pc' := 44) d_jdk_42_method_149_code_42 rfl rfl rfl ?_
    refine Go.iloadN (pc' := 45) d_jdk_42_method_149_code_44 rfl rfl ?_
    refine Go.callS (a1 := a0) (pc' := 48) (argsL := [(.ref d_1), (.int (1 : Int32))]) (rest := [(.ref a1)]) (ct_cf_1_1 l Z a0 hw n0 h_9 d_1 kd_2 [(.int (c0).toInt8.toInt32)] F_7) d_jdk_42_method_149_code_45 (hw _ (List.mem_of_getElem? (i := 46) rfl)) (hw _ (List.mem_of_getElem? (i := 47) rfl)) (hw _ (List.mem_of_getElem? (i := 41) rfl)) (hw _ (List.mem_of_getElem? (i := 48) rfl)) (by decide) (lenOf pd__28_5bBI_29B rfl) rfl 1 rfl rfl (by decide) (by decide) (by decide) (by decide) (fun _ q => nomatch q) rfl (fun v_13 h_14 N_15 hQ_16 hle_17 => ?_)
    obtain ⟨rfl, rfl⟩ := hQ_16
    refine Go.re (pc' := 48) (L' := #[.val (.ref a1), .val (.ref c), .val (.int (0 : Int32)), .val (.int (1 : Int32)), .val (.null), .val (.ref d_1)]) (S' := [(.int (0 : Int32)), (.ref a1)]) rfl rfl rfl ?_
    have F_18 : Fld Z h_9 a1 "java/lang/String" "coder" "B" (.int (0 : Int32)) := (Fld.keep G2 K_5 nin0)
    have F_19 : Exa Z h_9 a1 "java/lang/String" := (Exa.keep E1 K_5)
    refine Go.putF (pc' := 51) (host := "") (a1 := a0) d_jdk_42_method_149_code_48 (Or.inl (hw _ (List.mem_of_getElem? (i := 28) rfl))) Via.refl F_18 F_19 (Or.inr ⟨(hw _ (List.mem_of_getElem? (i := 24) rfl)), rfl, rfl⟩) (hw _ (List.mem_of_getElem? (i := 9) rfl)) (ty := .byte) (by decide) rfl rfl (Sf.mem (by simp)) (by omega) rfl (fun h_20 W_21 => ?_)
    have szh_20 : h_20.size = h_9.size := Wr.size W_21
    have F_22 : Fld Z h_20 a1 "java/lang/String" "coder" "B" (.int (0 : Int32)) := Fld.same W_21 F_18
    refine Go.aloadN (pc' := 52) d_jdk_42_method_149_code_51 rfl rfl rfl ?_
    refine Go.aload (pc' := 54) d_jdk_42_method_149_code_52 rfl rfl rfl ?_
    have F_23 : Fld Z h_20 a1 "java/lang/String" "value" "[B" (.null) := (Fld.other W_21 (Fld.keep G1 K_5 nin0) (Or.inr (slot_ne (Or.inr (hw _ (List.mem_of_getElem? (i := 23) rfl))) (Or.inr (hw _ (List.mem_of_getElem? (i := 24) rfl))) (by decide) (t := (.array .byte)) (t' := .byte) (by decide) (by decide))))
    have F_24 : Exa Z h_20 a1 "java/lang/String" := (Exa.wr W_21 F_19)
    refine Go.putF (pc' := 57) (host := "") (a1 := a0) d_jdk_42_method_149_code_54 (Or.inl (hw _ (List.mem_of_getElem? (i := 27) rfl))) Via.refl F_23 F_24 (Or.inr ⟨(hw _ (List.mem_of_getElem? (i := 23) rfl)), rfl, rfl⟩) (hw _ (List.mem_of_getElem? (i := 9) rfl)) (ty := (.array .byte)) (by decide) rfl rfl (Sf.mem (by simp)) (by omega) rfl (fun h_25 W_26 => ?_)
    have szh_25 : h_25.size = h_20.size := Wr.size W_26
    have F_27 : Fld Z h_25 a1 "java/lang/String" "value" "[B" (.ref d_1) := Fld.same W_26 F_23
    have F_28 : Arv Z h_25 d_1 kd_2 .byte (1 : Int32) [(.int (c0).toInt8.toInt32)] (.int 0) := (Arv.other (Arv.other F_7 W_21 (nne (by omega))) W_26 (nne (by omega)))
    have F_29 : Fld Z h_25 a1 "java/lang/String" "coder" "B" (.int (0 : Int32)) := (Fld.other W_26 F_22 (Or.inr (slot_ne (Or.inr (hw _ (List.mem_of_getElem? (i := 24) rfl))) (Or.inr (hw _ (List.mem_of_getElem? (i := 23) rfl))) (by decide) (t := .byte) (t' := (.array .byte)) (by decide) (by decide))))
    have F_30 : Exa Z h_25 a1 "java/lang/String" := (Exa.wr W_26 F_24)
    refine Go.ret0 rfl [] (fun _ q => nomatch q) d_jdk_42_method_149_code_57 (by decide) (by decide) ?_
    exact ⟨rfl, (Keep.wr (Keep.wr (Keep.trans (Keep.refl _ [a1]) K_5 all0) W_21 (Or.inl (by simp))) W_26 (Or.inl (by simp))), F_30, d_1, _, F_27, Or.inl ⟨F_29, F_28, (fun i hi9 => by have q := hi_6; match i, hi9 with | 0, _ => exact q)⟩⟩
  · refine Go.re (pc' := 39) (L' := #[.val (.ref a1), .val (.ref c), .val (.int (0 : Int32)), .val (.int (1 : Int32)), .val (.null), .unset]) (S' := [(.ref d_1)]) rfl rfl rfl ?_
    refine Go.astore (pc' := 41) #[.val (.ref a1), .val (.ref c), .val (.int (0 : Int32)), .val (.int (1 : Int32)), .val (.null), .val (.ref d_1)] d_jdk_42_method_149_code_39 rfl rfl rfl ?_
    refine Go.aloadN (pc' := 42) d_jdk_42_method_149_code_41 rfl rfl rfl ?_
    refine Go.aload (pc' := 44) d_jdk_42_method_149_code_42 rfl rfl rfl ?_
    refine Go.iloadN (pc' := 45) d_jdk_42_method_149_code_44 rfl rfl ?_
    refine Go.callS (a1 := a0) (pc' := 48) (argsL := [(.ref d_1), (.int (1 : Int32))]) (rest := [(.ref a1)]) (ct_cf_1_2 l Z a0 hw n0 h_9 d_1 kd_2 [(.int (c0 >>> ((0 : Int32) &&& 31)).toInt8.toInt32), (.int (c0 >>> ((8 : Int32) &&& 31)).toInt8.toInt32)] F_7) d_jdk_42_method_149_code_45 (hw _ (List.mem_of_getElem? (i := 46) rfl)) (hw _ (List.mem_of_getElem? (i := 47) rfl)) (hw _ (List.mem_of_getElem? (i := 41) rfl)) (hw _ (List.mem_of_getElem? (i := 48) rfl)) (by decide) (lenOf pd__28_5bBI_29B rfl) rfl 1 rfl rfl (by decide) (by decide) (by decide) (by decide) (fun _ q => nomatch q) rfl (fun v_31 h_32 N_33 hQ_34 hle_35 => ?_)
    obtain ⟨rfl, rfl⟩ := hQ_34
    refine Go.re (pc' := 48) (L' := #[.val (.ref a1), .val (.ref c), .val (.int (0 : Int32)), .val (.int (1 : Int32)), .val (.null), .val (.ref d_1)]) (S' := [(.int (1 : Int32)), (.ref a1)]) rfl rfl rfl ?_
    have F_36 : Fld Z h_9 a1 "java/lang/String" "coder" "B" (.int (0 : Int32)) := (Fld.keep G2 K_5 nin0)
    have F_37 : Exa Z h_9 a1 "java/lang/String" := (Exa.keep E1 K_5)
    refine Go.putF (pc' := 51) (host := "") (a1 := a0) d_jdk_42_method_149_code_48 (Or.inl (hw _ (List.mem_of_getElem? (i := 28) rfl))) Via.refl F_36 F_37 (Or.inr ⟨(hw _ (List.mem_of_getElem? (i := 24) rfl)), rfl, rfl⟩) (hw _ (List.mem_of_getElem? (i := 9) rfl)) (ty := .byte) (by decide) rfl rfl (Sf.mem (by simp)) (by omega) rfl (fun h_38 W_39 => ?_)
    have szh_38 : h_38.size = h_9.size := Wr.size W_39
    have F_40 : Fld Z h_38 a1 "java/lang/String" "coder" "B" (.int (1 : Int32)) := Fld.same W_39 F_36
    refine Go.aloadN (pc' := 52) d_jdk_42_method_149_code_51 rfl rfl rfl ?_
    refine Go.aload (pc' := 54) d_jdk_42_method_149_code_52 rfl rfl rfl ?_
    have F_41 : Fld Z h_38 a1 "java/lang/String" "value" "[B" (.null) := (Fld.other W_39 (Fld.keep G1 K_5 nin0) (Or.inr (slot_ne (Or.inr (hw _ (List.mem_of_getElem? (i := 23) rfl))) (Or.inr (hw _ (List.mem_of_getElem? (i := 24) rfl))) (by decide) (t := (.array .byte)) (t' := .byte) (by decide) (by decide))))
    have F_42 : Exa Z h_38 a1 "java/lang/String" := (Exa.wr W_39 F_37)
    refine Go.putF (pc' := 57) (host := "") (a1 := a0) d_jdk_42_method_149_code_54 (Or.inl (hw _ (List.mem_of_getElem? (i := 27) rfl))) Via.refl F_41 F_42 (Or.inr ⟨(hw _ (List.mem_of_getElem? (i := 23) rfl)), rfl, rfl⟩) (hw _ (List.mem_of_getElem? (i := 9) rfl)) (ty := (.array .byte)) (by decide) rfl rfl (Sf.mem (by simp)) (by omega) rfl (fun h_43 W_44 => ?_)
    have szh_43 : h_43.size = h_38.size := Wr.size W_44
    have F_45 : Fld Z h_43 a1 "java/lang/String" "value" "[B" (.ref d_1) := Fld.same W_44 F_41
    have F_46 : Arv Z h_43 d_1 kd_2 .byte (2 : Int32) [(.int (c0 >>> ((0 : Int32) &&& 31)).toInt8.toInt32), (.int (c0 >>> ((8 : Int32) &&& 31)).toInt8.toInt32)] (.int 0) := (Arv.other (Arv.other F_7 W_39 (nne (by omega))) W_44 (nne (by omega)))
    have F_47 : Fld Z h_43 a1 "java/lang/String" "coder" "B" (.int (1 : Int32)) := (Fld.other W_44 F_40 (Or.inr (slot_ne (Or.inr (hw _ (List.mem_of_getElem? (i := 24) rfl))) (Or.inr (hw _ (List.mem_of_getElem? (i := 23) rfl))) (by decide) (t := .byte) (t' := (.array .byte)) (by decide) (by decide))))
    have F_48 : Exa Z h_43 a1 "java/lang/String" := (Exa.wr W_44 F_42)
    refine Go.ret0 rfl [] (fun _ q => nomatch q) d_jdk_42_method_149_code_57 (by decide) (by decide) ?_
    exact ⟨rfl, (Keep.wr (Keep.wr (Keep.trans (Keep.refl _ [a1]) K_5 all0) W_39 (Or.inl (by simp))) W_44 (Or.inl (by simp))), F_48, d_1, _, F_45, Or.inr ⟨F_47, F_46⟩⟩
theorem d_jdk_42_method_3_code_0 : decode jdk_42_method_3_code 0 = .ok (.aload_n 0, 1) := by decide +kernel
theorem d_jdk_42_method_3_code_1 : decode jdk_42_method_3_code 1 = .ok (.aload_n 1, 1) := by decide +kernel
theorem d_jdk_42_method_3_code_2 : decode jdk_42_method_3_code 2 = .ok (.iconst 0, 1) := by decide +kernel
theorem d_jdk_42_method_3_code_3 : decode jdk_42_method_3_code 3 = .ok (.aload_n 1, 1) := by decide +kernel
theorem d_jdk_42_method_3_code_4 : decode jdk_42_method_3_code 4 = .ok (.arraylength, 1) := by decide +kernel
theorem d_jdk_42_method_3_code_5 : decode jdk_42_method_3_code 5 = .ok (.aconst_null, 1) := by decide +kernel
theorem pd__28_5bCIILjava_2flang_2fVoid_3b_29V : parseMethodDescriptor "([CIILjava/lang/Void;)V" = some ⟨[(.array .char), .int, .int, (.object "java/lang/Void")], none⟩ := by decide +kernel
theorem d_jdk_42_method_3_code_6 : decode jdk_42_method_3_code 6 = .ok (.invokespecial 27, 3) := by decide +kernel
theorem d_jdk_42_method_3_code_9 : decode jdk_42_method_3_code 9 = .ok (.return_, 1) := by decide +kernel
set_option maxRecDepth 65536 in
set_option maxHeartbeats 40000000 in
theorem ct_i1_1 (l : Launch) (Z : State) (a0 : Array Value) (hw : ∀ d ∈ tables_1, d.before a0 Z = true) (n0 : Nat) (h0 : Heap) (a1 : Addr) (ha1 : n0 ≤ a1) (E1 : Exa Z h0 a1 "java/lang/String") (G1 : Fld Z h0 a1 "java/lang/String" "value" "[B" .null) (G2 : Fld Z h0 a1 "java/lang/String" "coder" "B" (.int (0 : Int32))) (c : Addr) (kc : ClassId) (c0 : Int32) (AC : Arv Z h0 c kc .char (1 : Int32) [(.int c0)] (.int 0)) (hr0 : ¬ c0 < 0) (hs0 : ¬ 65535 < c0) (cs : Int32) (S_cs : Sta Z h0 "java/lang/String" "COMPACT_STRINGS" "Z" (.int cs)) (hcs : ¬ cs = 0) (S_ad : Sta Z h0 "java/lang/StringUTF16" "$assertionsDisabled" "Z" (.int (1 : Int32))) (S_hi : Sta Z h0 "java/lang/StringUTF16" "HI_BYTE_SHIFT" "I" (.int (0 : Int32))) (S_lo : Sta Z h0 "java/lang/StringUTF16" "LO_BYTE_SHIFT" "I" (.int (8 : Int32))) :
    Ct l Z (⟨"java/lang/String", "<init>", "([C)V"⟩ : MethodName) jdk_42_method_3_code 2 none ({ frames := 5, cells := 2, slots := 3, locals := 74 } : Room) EL1 n0 true [] #[(.ref a1), (.ref c)] h0 [a1] (fun v h N => v = none ∧ Keep h0 h [a1] ∧ Sx Z h a1 [c0]) := by
  refine Ct.of (a0 := a0) (plainFor_of_name pn_java_lang_String) (own_ew hw) (L0 := #[.val (.ref a1), .val (.ref c)]) (fun m => by first | (simp [entryFrame, mkF, argsToLocals, Value.category]; done) | rfl) ?_
  have l0_E1 := nlt E1.lt
  have l0_AC := nlt AC.lt
  refine Go.aloadN (pc' := 1) d_jdk_42_method_3_code_0 rfl rfl rfl ?_
  refine Go.aloadN (pc' := 2) d_jdk_42_method_3_code_1 rfl rfl rfl ?_
  refine Go.iconst (pc' := 3) 0 d_jdk_42_method_3_code_2 rfl rfl ?_
  refine Go.aloadN (pc' := 4) d_jdk_42_method_3_code_3 rfl rfl rfl ?_
  refine Go.alenV (pc' := 5) d_jdk_42_method_3_code_4 AC rfl ?_
  refine Go.aconstNull (pc' := 6) d_jdk_42_method_3_code_5 rfl ?_
  refine Go.callN (a1 := a0) (pc' := 9) (argsL := [(.ref c), (.int (0 : Int32)), (.int (1 : Int32)), (.null)]) (rest := []) (ct_i4_1 l Z a0 hw n0 h0 a1 (by omega) E1 G1 G2 c kc c0 AC hr0 hs0 cs S_cs hcs S_ad S_hi S_lo) d_jdk_42_method_3_code_6 rfl (hw _ (List.mem_of_getElem? (i := 14) rfl)) (hw _ (List.mem_of_getElem? (i := 15) rfl)) (hw _ (List.mem_of_getElem? (i := 10) rfl)) (hw _ (List.mem_of_getElem? (i := 17) rfl)) (by decide) (lenOf pd__28_5bCIILjava_2flang_2fVoid_3b_29V rfl) rfl 0 rfl rfl (by decide) (by decide) (by decide) (by decide) (by intro x hx; simp only [List.mem_cons, List.not_mem_nil, or_false] at hx; rcases hx with rfl; all_goals simp) rfl (fun v_3 h_4 N_5 hQ_6 hle_7 => ?_)
  obtain ⟨rfl, K_1, X_2⟩ := hQ_6
  refine Go.re (pc' := 9) (L' := #[.val (.ref a1), .val (.ref c)]) (S' := []) rfl rfl rfl ?_
  refine Go.ret0 rfl [] (fun _ q => nomatch q) d_jdk_42_method_3_code_9 (by decide) (by decide) ?_
  exact ⟨rfl, (Keep.trans (Keep.refl _ [a1]) K_1 (allS (Or.inl (by simp)) all0)), X_2⟩
set_option maxRecDepth 65536 in
set_option maxHeartbeats 40000000 in
theorem ct_i4_2 (l : Launch) (Z : State) (a0 : Array Value) (hw : ∀ d ∈ tables_1, d.before a0 Z = true) (n0 : Nat) (h0 : Heap) (a1 : Addr) (ha1 : n0 ≤ a1) (E1 : Exa Z h0 a1 "java/lang/String") (G1 : Fld Z h0 a1 "java/lang/String" "value" "[B" .null) (G2 : Fld Z h0 a1 "java/lang/String" "coder" "B" (.int (0 : Int32))) (c : Addr) (kc : ClassId) (c0 c1 : Int32) (AC : Arv Z h0 c kc .char (2 : Int32) [(.int c0), (.int c1)] (.int 0)) (hr0 : ¬ c0 < 0) (hs0 : ¬ 65535 < c0) (hr1 : ¬ c1 < 0) (hs1 : ¬ 65535 < c1) (cs : Int32) (S_cs : Sta Z h0 "java/lang/String" "COMPACT_STRINGS" "Z" (.int cs)) (hcs : ¬ cs = 0) (S_ad : Sta Z h0 "java/lang/StringUTF16" "$assertionsDisabled" "Z" (.int (1 : Int32))) (S_hi : Sta Z h0 "java/lang/StringUTF16" "HI_BYTE_SHIFT" "I" (.int (0 : Int32))) (S_lo : Sta Z h0 "java/lang/StringUTF16" "LO_BYTE_SHIFT" "I" (.int (8 : Int32))) :
    Ct l Z (⟨"java/lang/String", "<init>", "([CIILjava/lang/Void;)V"⟩ : MethodName) jdk_42_method_149_code 6 none ({ frames := 4, cells := 2, slots := 6, locals := 57 } : Room) EL1 n0 true [] #[(.ref a1), (.ref c), (.int (0 : Int32)), (.int (2 : Int32)), (.null)] h0 [a1] (fun v h N => v = none ∧ Keep h0 h [a1] ∧ Sx Z h a1 [c0, c1]) := by
  refine Ct.of (a0 := a0) (plainFor_of_name pn_java_lang_String) (own_ew hw) (L0 := #[.val (.ref a1), .val (.ref c), .val (.int (0 : Int32)), .val (.int (2 : Int32)), .val (.null), .unset]) (fun m => by first | (simp [entryFrame, mkF, argsToLocals, Value.category]; done) | rfl) ?_
  have l0_E1 := nlt E1.lt
  have l0_AC := nlt AC.lt
  refine Go.aloadN (pc' := 1) d_jdk_42_method_149_code_0 rfl rfl rfl ?_
  refine Go.initO (pc' := 4) (a1 := a0) d_jdk_42_method_149_code_1 (hw _ (List.mem_of_getElem? (i := 18) rfl)) (hw _ (List.mem_of_getElem? (i := 19) rfl)) (hw _ (List.mem_of_getElem? (i := 20) rfl)) rfl (by decide) 0 rfl (by decide) rfl ?_
  refine Go.iloadN (pc' := 5) d_jdk_42_method_149_code_4 rfl rfl ?_
  refine Go.ifT (pc' := 27) d_jdk_42_method_149_code_5 (show ¬ ((2 : Int32) = (0 : Int32)) by decide) (by decide) (by decide) ?_
  refine Go.getS (pc' := 30) (host := "") (a1 := a0) d_jdk_42_method_149_code_27 (Or.inl (hw _ (List.mem_of_getElem? (i := 38) rfl))) Via.refl S_cs rfl ?_
  refine Go.ifF (pc' := 33) d_jdk_42_method_149_code_30 (hcs) rfl ?_
  refine Go.aloadN (pc' := 34) d_jdk_42_method_149_code_33 rfl rfl rfl ?_
  refine Go.iloadN (pc' := 35) d_jdk_42_method_149_code_34 rfl rfl ?_
  refine Go.iloadN (pc' := 36) d_jdk_42_method_149_code_35 rfl rfl ?_
  refine Go.callS (a1 := a0) (pc' := 39) (argsL := [(.ref c), (.int (0 : Int32)), (.int (2 : Int32))]) (rest := []) (ct_c3_2 l Z a0 hw n0 h0 c kc c0 c1 AC hr0 hs0 hr1 hs1 (by omega) S_ad S_hi S_lo) d_jdk_42_method_149_code_36 (hw _ (List.mem_of_getElem? (i := 39) rfl)) (hw _ (List.mem_of_getElem? (i := 40) rfl)) (hw _ (List.mem_of_getElem? (i := 41) rfl)) (hw _ (List.mem_of_getElem? (i := 42) rfl)) (by decide) (lenOf pd__28_5bCII_29_5bB rfl) rfl 0 rfl rfl (by decide) (by decide) (by decide) (by decide) (fun _ q => nomatch q) rfl (fun v_8 h_9 N_10 hQ_11 hle_12 => ?_)
  obtain ⟨d_1, kd_2, rfl, g_3, g_4, K_5, hi_6⟩ := hQ_11
  have ltd_1 := nlt g_4
  refine Go.re (pc' := 39) (L' := #[.val (.ref a1), .val (.ref c), .val (.int (0 : Int32)), .val (.int (2 : Int32)), .val (.null), .unset]) (S' := [(.ref d_1)]) rfl rfl rfl ?_
  rcases hi_6 with ⟨F_7, hi_6⟩ | F_7
  · refine Go.re (pc' := 39) (L' := #[.val (.ref a1), .val (.ref c), .val (.int (0 : Int32)), .val (.int (2 : Int32)), .val (.null), .unset]) (S' := [(.ref d_1)]) rfl rfl rfl ?_
    refine Go.astore (pc' := 41) #[.val (.ref a1), .val (.ref c), .val (.int (0 : Int32)), .val (.int (2 : Int32)), .val (.null), .val (.ref d_1)] d_jdk_42_method_149_code_39 rfl rfl rfl ?_
    refine Go.aloadN (pc' := 42) d_jdk_42_method_149_code_41 rfl rfl rfl ?_
    refine Go.aload (pc' := 44) d_jdk_42_method_149_code_42 rfl rfl rfl ?_
    refine Go.iloadN (pc' := 45) d_jdk_42_method_149_code_44 rfl rfl ?_
    refine Go.callS (a1 := a0) (pc' := 48) (argsL := [(.ref d_1), (.int (2 : Int32))]) (rest := [(.ref a1)]) (ct_cf_2_2 l Z a0 hw n0 h_9 d_1 kd_2 [(.int (c0).toInt8.toInt32), (.int (c1).toInt8.toInt32)] F_7) d_jdk_42_method_149_code_45 (hw _ (List.mem_of_getElem? (i := 46) rfl)) (hw _ (List.mem_of_getElem? (i := 47) rfl)) (hw _ (List.mem_of_getElem? (i := 41) rfl)) (hw _ (List.mem_of_getElem? (i := 48) rfl)) (by decide) (lenOf pd__28_5bBI_29B rfl) rfl 1 rfl rfl (by decide) (by decide) (by decide) (by decide) (fun _ q => nomatch q) rfl (fun v_13 h_14 N_15 hQ_16 hle_17 => ?_)
    obtain ⟨rfl, rfl⟩ := hQ_16
    refine Go.re (pc' := 48) (L' := #[.val (.ref a1), .val (.ref c), .val (.int (0 : Int32)), .val (.int (2 : Int32)), .val (.null), .val (.ref d_1)]) (S' := [(.int (0 : Int32)), (.ref a1)]) rfl rfl rfl ?_
    have F_18 : Fld Z h_9 a1 "java/lang/String" "coder" "B" (.int (0 : Int32)) := (Fld.keep G2 K_5 nin0)
    have F_19 : Exa Z h_9 a1 "java/lang/String" := (Exa.keep E1 K_5)
    refine Go.putF (pc' := 51) (host := "") (a1 := a0) d_jdk_42_method_149_code_48 (Or.inl (hw _ (List.mem_of_getElem? (i := 28) rfl))) Via.refl F_18 F_19 (Or.inr ⟨(hw _ (List.mem_of_getElem? (i := 24) rfl)), rfl, rfl⟩) (hw _ (List.mem_of_getElem? (i := 9) rfl)) (ty := .byte) (by decide) rfl rfl (Sf.mem (by simp)) (by omega) rfl (fun h_20 W_21 => ?_)
    have szh_20 : h_20.size = h_9.size := Wr.size W_21
    have F_22 : Fld Z h_20 a1 "java/lang/String" "coder" "B" (.int (0 : Int32)) := Fld.same W_21 F_18
    refine Go.aloadN (pc' := 52) d_jdk_42_method_149_code_51 rfl rfl rfl ?_
    refine Go.aload (pc' := 54) d_jdk_42_method_149_code_52 rfl rfl rfl ?_
    have F_23 : Fld Z h_20 a1 "java/lang/String" "value" "[B" (.null) := (Fld.other W_21 (Fld.keep G1 K_5 nin0) (Or.inr (slot_ne (Or.inr (hw _ (List.mem_of_getElem? (i := 23) rfl))) (Or.inr (hw _ (List.mem_of_getElem? (i := 24) rfl))) (by decide) (t := (.array .byte)) (t' := .byte) (by decide) (by decide))))
    have F_24 : Exa Z h_20 a1 "java/lang/String" := (Exa.wr W_21 F_19)
    refine Go.putF (pc' := 57) (host := "") (a1 := a0) d_jdk_42_method_149_code_54 (Or.inl (hw _ (List.mem_of_getElem? (i := 27) rfl))) Via.refl F_23 F_24 (Or.inr ⟨(hw _ (List.mem_of_getElem? (i := 23) rfl)), rfl, rfl⟩) (hw _ (List.mem_of_getElem? (i := 9) rfl)) (ty := (.array .byte)) (by decide) rfl rfl (Sf.mem (by simp)) (by omega) rfl (fun h_25 W_26 => ?_)
    have szh_25 : h_25.size = h_20.size := Wr.size W_26
    have F_27 : Fld Z h_25 a1 "java/lang/String" "value" "[B" (.ref d_1) := Fld.same W_26 F_23
    have F_28 : Arv Z h_25 d_1 kd_2 .byte (2 : Int32) [(.int (c0).toInt8.toInt32), (.int (c1).toInt8.toInt32)] (.int 0) := (Arv.other (Arv.other F_7 W_21 (nne (by omega))) W_26 (nne (by omega)))
    have F_29 : Fld Z h_25 a1 "java/lang/String" "coder" "B" (.int (0 : Int32)) := (Fld.other W_26 F_22 (Or.inr (slot_ne (Or.inr (hw _ (List.mem_of_getElem? (i := 24) rfl))) (Or.inr (hw _ (List.mem_of_getElem? (i := 23) rfl))) (by decide) (t := .byte) (t' := (.array .byte)) (by decide) (by decide))))
    have F_30 : Exa Z h_25 a1 "java/lang/String" := (Exa.wr W_26 F_24)
    refine Go.ret0 rfl [] (fun _ q => nomatch q) d_jdk_42_method_149_code_57 (by decide) (by decide) ?_
    exact ⟨rfl, (Keep.wr (Keep.wr (Keep.trans (Keep.refl _ [a1]) K_5 all0) W_21 (Or.inl (by simp))) W_26 (Or.inl (by simp))), F_30, d_1, _, F_27, Or.inl ⟨F_29, F_28, (fun i hi9 => by have q := hi_6; match i, hi9 with | 0, _ => exact q.1 | 1, _ => exact q.2)⟩⟩
  · refine Go.re (pc' := 39) (L' := #[.val (.ref a1), .val (.ref c), .val (.int (0 : Int32)), .val (.int (2 : Int32)), .val (.null), .unset]) (S' := [(.ref d_1)]) rfl rfl rfl ?_
    refine Go.astore (pc' := 41) #[.val (.ref a1), .val (.ref c), .val (.int (0 : Int32)), .val (.int (2 : Int32)), .val (.null), .val (.ref d_1)] d_jdk_42_method_149_code_39 rfl rfl rfl ?_
    refine Go.aloadN (pc' := 42) d_jdk_42_method_149_code_41 rfl rfl rfl ?_
    refine Go.aload (pc' := 44) d_jdk_42_method_149_code_42 rfl rfl rfl ?_
    refine Go.iloadN (pc' := 45) d_jdk_42_method_149_code_44 rfl rfl ?_
    refine Go.callS (a1 := a0) (pc' := 48) (argsL := [(.ref d_1), (.int (2 : Int32))]) (rest := [(.ref a1)]) (ct_cf_2_4 l Z a0 hw n0 h_9 d_1 kd_2 [(.int (c0 >>> ((0 : Int32) &&& 31)).toInt8.toInt32), (.int (c0 >>> ((8 : Int32) &&& 31)).toInt8.toInt32), (.int (c1 >>> ((0 : Int32) &&& 31)).toInt8.toInt32), (.int (c1 >>> ((8 : Int32) &&& 31)).toInt8.toInt32)] F_7) d_jdk_42_method_149_code_45 (hw _ (List.mem_of_getElem? (i := 46) rfl)) (hw _ (List.mem_of_getElem? (i := 47) rfl)) (hw _ (List.mem_of_getElem? (i := 41) rfl)) (hw _ (List.mem_of_getElem? (i := 48) rfl)) (by decide) (lenOf pd__28_5bBI_29B rfl) rfl 1 rfl rfl (by decide) (by decide) (by decide) (by decide) (fun _ q => nomatch q) rfl (fun v_31 h_32 N_33 hQ_34 hle_35 => ?_)
    obtain ⟨rfl, rfl⟩ := hQ_34
    refine Go.re (pc' := 48) (L' := #[.val (.ref a1), .val (.ref c), .val (.int (0 : Int32)), .val (.int (2 : Int32)), .val (.null), .val (.ref d_1)]) (S' := [(.int (1 : Int32)), (.ref a1)]) rfl rfl rfl ?_
    have F_36 : Fld Z h_9 a1 "java/lang/String" "coder" "B" (.int (0 : Int32)) := (Fld.keep G2 K_5 nin0)
    have F_37 : Exa Z h_9 a1 "java/lang/String" := (Exa.keep E1 K_5)
    refine Go.putF (pc' := 51) (host := "") (a1 := a0) d_jdk_42_method_149_code_48 (Or.inl (hw _ (List.mem_of_getElem? (i := 28) rfl))) Via.refl F_36 F_37 (Or.inr ⟨(hw _ (List.mem_of_getElem? (i := 24) rfl)), rfl, rfl⟩) (hw _ (List.mem_of_getElem? (i := 9) rfl)) (ty := .byte) (by decide) rfl rfl (Sf.mem (by simp)) (by omega) rfl (fun h_38 W_39 => ?_)
    have szh_38 : h_38.size = h_9.size := Wr.size W_39
    have F_40 : Fld Z h_38 a1 "java/lang/String" "coder" "B" (.int (1 : Int32)) := Fld.same W_39 F_36
    refine Go.aloadN (pc' := 52) d_jdk_42_method_149_code_51 rfl rfl rfl ?_
    refine Go.aload (pc' := 54) d_jdk_42_method_149_code_52 rfl rfl rfl ?_
    have F_41 : Fld Z h_38 a1 "java/lang/String" "value" "[B" (.null) := (Fld.other W_39 (Fld.keep G1 K_5 nin0) (Or.inr (slot_ne (Or.inr (hw _ (List.mem_of_getElem? (i := 23) rfl))) (Or.inr (hw _ (List.mem_of_getElem? (i := 24) rfl))) (by decide) (t := (.array .byte)) (t' := .byte) (by decide) (by decide))))
    have F_42 : Exa Z h_38 a1 "java/lang/String" := (Exa.wr W_39 F_37)
    refine Go.putF (pc' := 57) (host := "") (a1 := a0) d_jdk_42_method_149_code_54 (Or.inl (hw _ (List.mem_of_getElem? (i := 27) rfl))) Via.refl F_41 F_42 (Or.inr ⟨(hw _ (List.mem_of_getElem? (i := 23) rfl)), rfl, rfl⟩) (hw _ (List.mem_of_getElem? (i := 9) rfl)) (ty := (.array .byte)) (by decide) rfl rfl (Sf.mem (by simp)) (by omega) rfl (fun h_43 W_44 => ?_)
    have szh_43 : h_43.size = h_38.size := Wr.size W_44
    have F_45 : Fld Z h_43 a1 "java/lang/String" "value" "[B" (.ref d_1) := Fld.same W_44 F_41
    have F_46 : Arv Z h_43 d_1 kd_2 .byte (4 : Int32) [(.int (c0 >>> ((0 : Int32) &&& 31)).toInt8.toInt32), (.int (c0 >>> ((8 : Int32) &&& 31)).toInt8.toInt32), (.int (c1 >>> ((0 : Int32) &&& 31)).toInt8.toInt32), (.int (c1 >>> ((8 : Int32) &&& 31)).toInt8.toInt32)] (.int 0) := (Arv.other (Arv.other F_7 W_39 (nne (by omega))) W_44 (nne (by omega)))
    have F_47 : Fld Z h_43 a1 "java/lang/String" "coder" "B" (.int (1 : Int32)) := (Fld.other W_44 F_40 (Or.inr (slot_ne (Or.inr (hw _ (List.mem_of_getElem? (i := 24) rfl))) (Or.inr (hw _ (List.mem_of_getElem? (i := 23) rfl))) (by decide) (t := .byte) (t' := (.array .byte)) (by decide) (by decide))))
    have F_48 : Exa Z h_43 a1 "java/lang/String" := (Exa.wr W_44 F_42)
    refine Go.ret0 rfl [] (fun _ q => nomatch q) d_jdk_42_method_149_code_57 (by decide) (by decide) ?_
    exact ⟨rfl, (Keep.wr (Keep.wr (Keep.trans (Keep.refl _ [a1]) K_5 all0) W_39 (Or.inl (by simp))) W_44 (Or.inl (by simp))), F_48, d_1, _, F_45, Or.inr ⟨F_47, F_46⟩⟩
set_option maxRecDepth 65536 in
set_option maxHeartbeats 40000000 in
theorem ct_i1_2 (l : Launch) (Z : State) (a0 : Array Value) (hw : ∀ d ∈ tables_1, d.before a0 Z = true) (n0 : Nat) (h0 : Heap) (a1 : Addr) (ha1 : n0 ≤ a1) (E1 : Exa Z h0 a1 "java/lang/String") (G1 : Fld Z h0 a1 "java/lang/String" "value" "[B" .null) (G2 : Fld Z h0 a1 "java/lang/String" "coder" "B" (.int (0 : Int32))) (c : Addr) (kc : ClassId) (c0 c1 : Int32) (AC : Arv Z h0 c kc .char (2 : Int32) [(.int c0), (.int c1)] (.int 0)) (hr0 : ¬ c0 < 0) (hs0 : ¬ 65535 < c0) (hr1 : ¬ c1 < 0) (hs1 : ¬ 65535 < c1) (cs : Int32) (S_cs : Sta Z h0 "java/lang/String" "COMPACT_STRINGS" "Z" (.int cs)) (hcs : ¬ cs = 0) (S_ad : Sta Z h0 "java/lang/StringUTF16" "$assertionsDisabled" "Z" (.int (1 : Int32))) (S_hi : Sta Z h0 "java/lang/StringUTF16" "HI_BYTE_SHIFT" "I" (.int (0 : Int32))) (S_lo : Sta Z h0 "java/lang/StringUTF16" "LO_BYTE_SHIFT" "I" (.int (8 : Int32))) :
    Ct l Z (⟨"java/lang/String", "<init>", "([C)V"⟩ : MethodName) jdk_42_method_3_code 2 none ({ frames := 5, cells := 2, slots := 6, locals := 74 } : Room) EL1 n0 true [] #[(.ref a1), (.ref c)] h0 [a1] (fun v h N => v = none ∧ Keep h0 h [a1] ∧ Sx Z h a1 [c0, c1]) := by
  refine Ct.of (a0 := a0) (plainFor_of_name pn_java_lang_String) (own_ew hw) (L0 := #[.val (.ref a1), .val (.ref c)]) (fun m => by first | (simp [entryFrame, mkF, argsToLocals, Value.category]; done) | rfl) ?_
  have l0_E1 := nlt E1.lt
  have l0_AC := nlt AC.lt
  refine Go.aloadN (pc' := 1) d_jdk_42_method_3_code_0 rfl rfl rfl ?_
  refine Go.aloadN (pc' := 2) d_jdk_42_method_3_code_1 rfl rfl rfl ?_
  refine Go.iconst (pc' := 3) 0 d_jdk_42_method_3_code_2 rfl rfl ?_
  refine Go.aloadN (pc' := 4) d_jdk_42_method_3_code_3 rfl rfl rfl ?_
  refine Go.alenV (pc' := 5) d_jdk_42_method_3_code_4 AC rfl ?_
  refine Go.aconstNull (pc' := 6) d_jdk_42_method_3_code_5 rfl ?_
  refine Go.callN (a1 := a0) (pc' := 9) (argsL := [(.ref c), (.int (0 : Int32)), (.int (2 : Int32)), (.null)]) (rest := []) (ct_i4_2 l Z a0 hw n0 h0 a1 (by omega) E1 G1 G2 c kc c0 c1 AC hr0 hs0 hr1 hs1 cs S_cs hcs S_ad S_hi S_lo) d_jdk_42_method_3_code_6 rfl (hw _ (List.mem_of_getElem? (i := 14) rfl)) (hw _ (List.mem_of_getElem? (i := 15) rfl)) (hw _ (List.mem_of_getElem? (i := 10) rfl)) (hw _ (List.mem_of_getElem? (i := 17) rfl)) (by decide) (lenOf pd__28_5bCIILjava_2flang_2fVoid_3b_29V rfl) rfl 0 rfl rfl (by decide) (by decide) (by decide) (by decide) (by intro x hx; simp only [List.mem_cons, List.not_mem_nil, or_false] at hx; rcases hx with rfl; all_goals simp) rfl (fun v_3 h_4 N_5 hQ_6 hle_7 => ?_)
  obtain ⟨rfl, K_1, X_2⟩ := hQ_6
  refine Go.re (pc' := 9) (L' := #[.val (.ref a1), .val (.ref c)]) (S' := []) rfl rfl rfl ?_
  refine Go.ret0 rfl [] (fun _ q => nomatch q) d_jdk_42_method_3_code_9 (by decide) (by decide) ?_
  exact ⟨rfl, (Keep.trans (Keep.refl _ [a1]) K_1 (allS (Or.inl (by simp)) all0)), X_2⟩
set_option maxRecDepth 65536 in
set_option maxHeartbeats 40000000 in
theorem ct_i4_3 (l : Launch) (Z : State) (a0 : Array Value) (hw : ∀ d ∈ tables_1, d.before a0 Z = true) (n0 : Nat) (h0 : Heap) (a1 : Addr) (ha1 : n0 ≤ a1) (E1 : Exa Z h0 a1 "java/lang/String") (G1 : Fld Z h0 a1 "java/lang/String" "value" "[B" .null) (G2 : Fld Z h0 a1 "java/lang/String" "coder" "B" (.int (0 : Int32))) (c : Addr) (kc : ClassId) (c0 c1 c2 : Int32) (AC : Arv Z h0 c kc .char (3 : Int32) [(.int c0), (.int c1), (.int c2)] (.int 0)) (hr0 : ¬ c0 < 0) (hs0 : ¬ 65535 < c0) (hr1 : ¬ c1 < 0) (hs1 : ¬ 65535 < c1) (hr2 : ¬ c2 < 0) (hs2 : ¬ 65535 < c2) (cs : Int32) (S_cs : Sta Z h0 "java/lang/String" "COMPACT_STRINGS" "Z" (.int cs)) (hcs : ¬ cs = 0) (S_ad : Sta Z h0 "java/lang/StringUTF16" "$assertionsDisabled" "Z" (.int (1 : Int32))) (S_hi : Sta Z h0 "java/lang/StringUTF16" "HI_BYTE_SHIFT" "I" (.int (0 : Int32))) (S_lo : Sta Z h0 "java/lang/StringUTF16" "LO_BYTE_SHIFT" "I" (.int (8 : Int32))) :
    Ct l Z (⟨"java/lang/String", "<init>", "([CIILjava/lang/Void;)V"⟩ : MethodName) jdk_42_method_149_code 6 none ({ frames := 4, cells := 2, slots := 9, locals := 57 } : Room) EL1 n0 true [] #[(.ref a1), (.ref c), (.int (0 : Int32)), (.int (3 : Int32)), (.null)] h0 [a1] (fun v h N => v = none ∧ Keep h0 h [a1] ∧ Sx Z h a1 [c0, c1, c2]) := by
  refine Ct.of (a0 := a0) (plainFor_of_name pn_java_lang_String) (own_ew hw) (L0 := #[.val (.ref a1), .val (.ref c), .val (.int (0 : Int32)), .val (.int (3 : Int32)), .val (.null), .unset]) (fun m => by first | (simp [entryFrame, mkF, argsToLocals, Value.category]; done) | rfl) ?_
  have l0_E1 := nlt E1.lt
  have l0_AC := nlt AC.lt
  refine Go.aloadN (pc' := 1) d_jdk_42_method_149_code_0 rfl rfl rfl ?_
  refine Go.initO (pc' := 4) (a1 := a0) d_jdk_42_method_149_code_1 (hw _ (List.mem_of_getElem? (i := 18) rfl)) (hw _ (List.mem_of_getElem? (i := 19) rfl)) (hw _ (List.mem_of_getElem? (i := 20) rfl)) rfl (by decide) 0 rfl (by decide) rfl ?_
  refine Go.iloadN (pc' := 5) d_jdk_42_method_149_code_4 rfl rfl ?_
  refine Go.ifT (pc' := 27) d_jdk_42_method_149_code_5 (show ¬ ((3 : Int32) = (0 : Int32)) by decide) (by decide) (by decide) ?_
  refine Go.getS (pc' := 30) (host := "") (a1 := a0) d_jdk_42_method_149_code_27 (Or.inl (hw _ (List.mem_of_getElem? (i := 38) rfl))) Via.refl S_cs rfl ?_
  refine Go.ifF (pc' := 33) d_jdk_42_method_149_code_30 (hcs) rfl ?_
  refine Go.aloadN (pc' := 34) d_jdk_42_method_149_code_33 rfl rfl rfl ?_
  refine Go.iloadN (pc' := 35) d_jdk_42_method_149_code_34 rfl rfl ?_
  refine Go.iloadN (pc' := 36) d_jdk_42_method_149_code_35 rfl rfl ?_
  refine Go.callS (a1 := a0) (pc' := 39) (argsL := [(.ref c), (.int (0 : Int32)), (.int (3 : Int32))]) (rest := []) (ct_c3_3 l Z a0 hw n0 h0 c kc c0 c1 c2 AC hr0 hs0 hr1 hs1 hr2 hs2 (by omega) S_ad S_hi S_lo) d_jdk_42_method_149_code_36 (hw _ (List.mem_of_getElem? (i := 39) rfl)) (hw _ (List.mem_of_getElem? (i := 40) rfl)) (hw _ (List.mem_of_getElem? (i := 41) rfl)) (hw _ (List.mem_of_getElem? (i := 42) rfl)) (by decide) (lenOf pd__28_5bCII_29_5bB rfl) rfl 0 rfl rfl (by decide) (by decide) (by decide) (by decide) (fun _ q => nomatch q) rfl (fun v_8 h_9 N_10 hQ_11 hle_12 => ?_)
  obtain ⟨d_1, kd_2, rfl, g_3, g_4, K_5, hi_6⟩ := hQ_11
  have ltd_1 := nlt g_4
  refine Go.re (pc' := 39) (L' := #[.val (.ref a1), .val (.ref c), .val (.int (0 : Int32)), .val (.int (3 : Int32)), .val (.null), .unset]) (S' := [(.ref d_1)]) rfl rfl rfl ?_
  rcases hi_6 with ⟨F_7, hi_6⟩ | F_7
  · refine Go.re (pc' := 39) (L' := #[.val (.ref a1), .val (.ref c), .val (.int (0 : Int32)), .val (.int (3 : Int32)), .val (.null), .unset]) (S' := [(.ref d_1)]) rfl rfl rfl ?_
    refine Go.astore (pc' := 41) #[.val (.ref a1), .val (.ref c), .val (.int (0 : Int32)), .val (.int (3 : Int32)), .val (.null), .val (.ref d_1)] d_jdk_42_method_149_code_39 rfl rfl rfl ?_
    refine Go.aloadN (pc' := 42) d_jdk_42_method_149_code_41 rfl rfl rfl ?_
    refine Go.aload (pc' := 44) d_jdk_42_method_149_code_42 rfl rfl rfl ?_
    refine Go.iloadN (pc' := 45) d_jdk_42_method_149_code_44 rfl rfl ?_
    refine Go.callS (a1 := a0) (pc' := 48) (argsL := [(.ref d_1), (.int (3 : Int32))]) (rest := [(.ref a1)]) (ct_cf_3_3 l Z a0 hw n0 h_9 d_1 kd_2 [(.int (c0).toInt8.toInt32), (.int (c1).toInt8.toInt32), (.int (c2).toInt8.toInt32)] F_7) d_jdk_42_method_149_code_45 (hw _ (List.mem_of_getElem? (i := 46) rfl)) (hw _ (List.mem_of_getElem? (i := 47) rfl)) (hw _ (List.mem_of_getElem? (i := 41) rfl)) (hw _ (List.mem_of_getElem? (i := 48) rfl)) (by decide) (lenOf pd__28_5bBI_29B rfl) rfl 1 rfl rfl (by decide) (by decide) (by decide) (by decide) (fun _ q => nomatch q) rfl (fun v_13 h_14 N_15 hQ_16 hle_17 => ?_)
    obtain ⟨rfl, rfl⟩ := hQ_16
    refine Go.re (pc' := 48) (L' := #[.val (.ref a1), .val (.ref c), .val (.int (0 : Int32)), .val (.int (3 : Int32)), .val (.null), .val (.ref d_1)]) (S' := [(.int (0 : Int32)), (.ref a1)]) rfl rfl rfl ?_
    have F_18 : Fld Z h_9 a1 "java/lang/String" "coder" "B" (.int (0 : Int32)) := (Fld.keep G2 K_5 nin0)
    have F_19 : Exa Z h_9 a1 "java/lang/String" := (Exa.keep E1 K_5)
    refine Go.putF (pc' := 51) (host := "") (a1 := a0) d_jdk_42_method_149_code_48 (Or.inl (hw _ (List.mem_of_getElem? (i := 28) rfl))) Via.refl F_18 F_19 (Or.inr ⟨(hw _ (List.mem_of_getElem? (i := 24) rfl)), rfl, rfl⟩) (hw _ (List.mem_of_getElem? (i := 9) rfl)) (ty := .byte) (by decide) rfl rfl (Sf.mem (by simp)) (by omega) rfl (fun h_20 W_21 => ?_)
    have szh_20 : h_20.size = h_9.size := Wr.size W_21
    have F_22 : Fld Z h_20 a1 "java/lang/String" "coder" "B" (.int (0 : Int32)) := Fld.same W_21 F_18
    refine Go.aloadN (pc' := 52) d_jdk_42_method_149_code_51 rfl rfl rfl ?_
    refine Go.aload (pc' := 54) d_jdk_42_method_149_code_52 rfl rfl rfl ?_
    have F_23 : Fld Z h_20 a1 "java/lang/String" "value" "[B" (.null) := (Fld.other W_21 (Fld.keep G1 K_5 nin0) (Or.inr (slot_ne (Or.inr (hw _ (List.mem_of_getElem? (i := 23) rfl))) (Or.inr (hw _ (List.mem_of_getElem? (i := 24) rfl))) (by decide) (t := (.array .byte)) (t' := .byte) (by decide) (by decide))))
    have F_24 : Exa Z h_20 a1 "java/lang/String" := (Exa.wr W_21 F_19)
    refine Go.putF (pc' := 57) (host := "") (a1 := a0) d_jdk_42_method_149_code_54 (Or.inl (hw _ (List.mem_of_getElem? (i := 27) rfl))) Via.refl F_23 F_24 (Or.inr ⟨(hw _ (List.mem_of_getElem? (i := 23) rfl)), rfl, rfl⟩) (hw _ (List.mem_of_getElem? (i := 9) rfl)) (ty := (.array .byte)) (by decide) rfl rfl (Sf.mem (by simp)) (by omega) rfl (fun h_25 W_26 => ?_)
    have szh_25 : h_25.size = h_20.size := Wr.size W_26
    have F_27 : Fld Z h_25 a1 "java/lang/String" "value" "[B" (.ref d_1) := Fld.same W_26 F_23
    have F_28 : Arv Z h_25 d_1 kd_2 .byte (3 : Int32) [(.int (c0).toInt8.toInt32), (.int (c1).toInt8.toInt32), (.int (c2).toInt8.toInt32)] (.int 0) := (Arv.other (Arv.other F_7 W_21 (nne (by omega))) W_26 (nne (by omega)))
    have F_29 : Fld Z h_25 a1 "java/lang/String" "coder" "B" (.int (0 : Int32)) := (Fld.other W_26 F_22 (Or.inr (slot_ne (Or.inr (hw _ (List.mem_of_getElem? (i := 24) rfl))) (Or.inr (hw _ (List.mem_of_getElem? (i := 23) rfl))) (by decide) (t := .byte) (t' := (.array .byte)) (by decide) (by decide))))
    have F_30 : Exa Z h_25 a1 "java/lang/String" := (Exa.wr W_26 F_24)
    refine Go.ret0 rfl [] (fun _ q => nomatch q) d_jdk_42_method_149_code_57 (by decide) (by decide) ?_
    exact ⟨rfl, (Keep.wr (Keep.wr (Keep.trans (Keep.refl _ [a1]) K_5 all0) W_21 (Or.inl (by simp))) W_26 (Or.inl (by simp))), F_30, d_1, _, F_27, Or.inl ⟨F_29, F_28, (fun i hi9 => by have q := hi_6; match i, hi9 with | 0, _ => exact q.1 | 1, _ => exact q.2.1 | 2, _ => exact q.2.2)⟩⟩
  · refine Go.re (pc' := 39) (L' := #[.val (.ref a1), .val (.ref c), .val (.int (0 : Int32)), .val (.int (3 : Int32)), .val (.null), .unset]) (S' := [(.ref d_1)]) rfl rfl rfl ?_
    refine Go.astore (pc' := 41) #[.val (.ref a1), .val (.ref c), .val (.int (0 : Int32)), .val (.int (3 : Int32)), .val (.null), .val (.ref d_1)] d_jdk_42_method_149_code_39 rfl rfl rfl ?_
    refine Go.aloadN (pc' := 42) d_jdk_42_method_149_code_41 rfl rfl rfl ?_
    refine Go.aload (pc' := 44) d_jdk_42_method_149_code_42 rfl rfl rfl ?_
    refine Go.iloadN (pc' := 45) d_jdk_42_method_149_code_44 rfl rfl ?_
    refine Go.callS (a1 := a0) (pc' := 48) (argsL := [(.ref d_1), (.int (3 : Int32))]) (rest := [(.ref a1)]) (ct_cf_3_6 l Z a0 hw n0 h_9 d_1 kd_2 [(.int (c0 >>> ((0 : Int32) &&& 31)).toInt8.toInt32), (.int (c0 >>> ((8 : Int32) &&& 31)).toInt8.toInt32), (.int (c1 >>> ((0 : Int32) &&& 31)).toInt8.toInt32), (.int (c1 >>> ((8 : Int32) &&& 31)).toInt8.toInt32), (.int (c2 >>> ((0 : Int32) &&& 31)).toInt8.toInt32), (.int (c2 >>> ((8 : Int32) &&& 31)).toInt8.toInt32)] F_7) d_jdk_42_method_149_code_45 (hw _ (List.mem_of_getElem? (i := 46) rfl)) (hw _ (List.mem_of_getElem? (i := 47) rfl)) (hw _ (List.mem_of_getElem? (i := 41) rfl)) (hw _ (List.mem_of_getElem? (i := 48) rfl)) (by decide) (lenOf pd__28_5bBI_29B rfl) rfl 1 rfl rfl (by decide) (by decide) (by decide) (by decide) (fun _ q => nomatch q) rfl (fun v_31 h_32 N_33 hQ_34 hle_35 => ?_)
    obtain ⟨rfl, rfl⟩ := hQ_34
    refine Go.re (pc' := 48) (L' := #[.val (.ref a1), .val (.ref c), .val (.int (0 : Int32)), .val (.int (3 : Int32)), .val (.null), .val (.ref d_1)]) (S' := [(.int (1 : Int32)), (.ref a1)]) rfl rfl rfl ?_
    have F_36 : Fld Z h_9 a1 "java/lang/String" "coder" "B" (.int (0 : Int32)) := (Fld.keep G2 K_5 nin0)
    have F_37 : Exa Z h_9 a1 "java/lang/String" := (Exa.keep E1 K_5)
    refine Go.putF (pc' := 51) (host := "") (a1 := a0) d_jdk_42_method_149_code_48 (Or.inl (hw _ (List.mem_of_getElem? (i := 28) rfl))) Via.refl F_36 F_37 (Or.inr ⟨(hw _ (List.mem_of_getElem? (i := 24) rfl)), rfl, rfl⟩) (hw _ (List.mem_of_getElem? (i := 9) rfl)) (ty := .byte) (by decide) rfl rfl (Sf.mem (by simp)) (by omega) rfl (fun h_38 W_39 => ?_)
    have szh_38 : h_38.size = h_9.size := Wr.size W_39
    have F_40 : Fld Z h_38 a1 "java/lang/String" "coder" "B" (.int (1 : Int32)) := Fld.same W_39 F_36
    refine Go.aloadN (pc' := 52) d_jdk_42_method_149_code_51 rfl rfl rfl ?_
    refine Go.aload (pc' := 54) d_jdk_42_method_149_code_52 rfl rfl rfl ?_
    have F_41 : Fld Z h_38 a1 "java/lang/String" "value" "[B" (.null) := (Fld.other W_39 (Fld.keep G1 K_5 nin0) (Or.inr (slot_ne (Or.inr (hw _ (List.mem_of_getElem? (i := 23) rfl))) (Or.inr (hw _ (List.mem_of_getElem? (i := 24) rfl))) (by decide) (t := (.array .byte)) (t' := .byte) (by decide) (by decide))))
    have F_42 : Exa Z h_38 a1 "java/lang/String" := (Exa.wr W_39 F_37)
    refine Go.putF (pc' := 57) (host := "") (a1 := a0) d_jdk_42_method_149_code_54 (Or.inl (hw _ (List.mem_of_getElem? (i := 27) rfl))) Via.refl F_41 F_42 (Or.inr ⟨(hw _ (List.mem_of_getElem? (i := 23) rfl)), rfl, rfl⟩) (hw _ (List.mem_of_getElem? (i := 9) rfl)) (ty := (.array .byte)) (by decide) rfl rfl (Sf.mem (by simp)) (by omega) rfl (fun h_43 W_44 => ?_)
    have szh_43 : h_43.size = h_38.size := Wr.size W_44
    have F_45 : Fld Z h_43 a1 "java/lang/String" "value" "[B" (.ref d_1) := Fld.same W_44 F_41
    have F_46 : Arv Z h_43 d_1 kd_2 .byte (6 : Int32) [(.int (c0 >>> ((0 : Int32) &&& 31)).toInt8.toInt32), (.int (c0 >>> ((8 : Int32) &&& 31)).toInt8.toInt32), (.int (c1 >>> ((0 : Int32) &&& 31)).toInt8.toInt32), (.int (c1 >>> ((8 : Int32) &&& 31)).toInt8.toInt32), (.int (c2 >>> ((0 : Int32) &&& 31)).toInt8.toInt32), (.int (c2 >>> ((8 : Int32) &&& 31)).toInt8.toInt32)] (.int 0) := (Arv.other (Arv.other F_7 W_39 (nne (by omega))) W_44 (nne (by omega)))
    have F_47 : Fld Z h_43 a1 "java/lang/String" "coder" "B" (.int (1 : Int32)) := (Fld.other W_44 F_40 (Or.inr (slot_ne (Or.inr (hw _ (List.mem_of_getElem? (i := 24) rfl))) (Or.inr (hw _ (List.mem_of_getElem? (i := 23) rfl))) (by decide) (t := .byte) (t' := (.array .byte)) (by decide) (by decide))))
    have F_48 : Exa Z h_43 a1 "java/lang/String" := (Exa.wr W_44 F_42)
    refine Go.ret0 rfl [] (fun _ q => nomatch q) d_jdk_42_method_149_code_57 (by decide) (by decide) ?_
    exact ⟨rfl, (Keep.wr (Keep.wr (Keep.trans (Keep.refl _ [a1]) K_5 all0) W_39 (Or.inl (by simp))) W_44 (Or.inl (by simp))), F_48, d_1, _, F_45, Or.inr ⟨F_47, F_46⟩⟩
set_option maxRecDepth 65536 in
set_option maxHeartbeats 40000000 in
theorem ct_i1_3 (l : Launch) (Z : State) (a0 : Array Value) (hw : ∀ d ∈ tables_1, d.before a0 Z = true) (n0 : Nat) (h0 : Heap) (a1 : Addr) (ha1 : n0 ≤ a1) (E1 : Exa Z h0 a1 "java/lang/String") (G1 : Fld Z h0 a1 "java/lang/String" "value" "[B" .null) (G2 : Fld Z h0 a1 "java/lang/String" "coder" "B" (.int (0 : Int32))) (c : Addr) (kc : ClassId) (c0 c1 c2 : Int32) (AC : Arv Z h0 c kc .char (3 : Int32) [(.int c0), (.int c1), (.int c2)] (.int 0)) (hr0 : ¬ c0 < 0) (hs0 : ¬ 65535 < c0) (hr1 : ¬ c1 < 0) (hs1 : ¬ 65535 < c1) (hr2 : ¬ c2 < 0) (hs2 : ¬ 65535 < c2) (cs : Int32) (S_cs : Sta Z h0 "java/lang/String" "COMPACT_STRINGS" "Z" (.int cs)) (hcs : ¬ cs = 0) (S_ad : Sta Z h0 "java/lang/StringUTF16" "$assertionsDisabled" "Z" (.int (1 : Int32))) (S_hi : Sta Z h0 "java/lang/StringUTF16" "HI_BYTE_SHIFT" "I" (.int (0 : Int32))) (S_lo : Sta Z h0 "java/lang/StringUTF16" "LO_BYTE_SHIFT" "I" (.int (8 : Int32))) :
    Ct l Z (⟨"java/lang/String", "<init>", "([C)V"⟩ : MethodName) jdk_42_method_3_code 2 none ({ frames := 5, cells := 2, slots := 9, locals := 74 } : Room) EL1 n0 true [] #[(.ref a1), (.ref c)] h0 [a1] (fun v h N => v = none ∧ Keep h0 h [a1] ∧ Sx Z h a1 [c0, c1, c2]) := by
  refine Ct.of (a0 := a0) (plainFor_of_name pn_java_lang_String) (own_ew hw) (L0 := #[.val (.ref a1), .val (.ref c)]) (fun m => by first | (simp [entryFrame, mkF, argsToLocals, Value.category]; done) | rfl) ?_
  have l0_E1 := nlt E1.lt
  have l0_AC := nlt AC.lt
  refine Go.aloadN (pc' := 1) d_jdk_42_method_3_code_0 rfl rfl rfl ?_
  refine Go.aloadN (pc' := 2) d_jdk_42_method_3_code_1 rfl rfl rfl ?_
  refine Go.iconst (pc' := 3) 0 d_jdk_42_method_3_code_2 rfl rfl ?_
  refine Go.aloadN (pc' := 4) d_jdk_42_method_3_code_3 rfl rfl rfl ?_
  refine Go.alenV (pc' := 5) d_jdk_42_method_3_code_4 AC rfl ?_
  refine Go.aconstNull (pc' := 6) d_jdk_42_method_3_code_5 rfl ?_
  refine Go.callN (a1 := a0) (pc' := 9) (argsL := [(.ref c), (.int (0 : Int32)), (.int (3 : Int32)), (.null)]) (rest := []) (ct_i4_3 l Z a0 hw n0 h0 a1 (by omega) E1 G1 G2 c kc c0 c1 c2 AC hr0 hs0 hr1 hs1 hr2 hs2 cs S_cs hcs S_ad S_hi S_lo) d_jdk_42_method_3_code_6 rfl (hw _ (List.mem_of_getElem? (i := 14) rfl)) (hw _ (List.mem_of_getElem? (i := 15) rfl)) (hw _ (List.mem_of_getElem? (i := 10) rfl)) (hw _ (List.mem_of_getElem? (i := 17) rfl)) (by decide) (lenOf pd__28_5bCIILjava_2flang_2fVoid_3b_29V rfl) rfl 0 rfl rfl (by decide) (by decide) (by decide) (by decide) (by intro x hx; simp only [List.mem_cons, List.not_mem_nil, or_false] at hx; rcases hx with rfl; all_goals simp) rfl (fun v_3 h_4 N_5 hQ_6 hle_7 => ?_)
  obtain ⟨rfl, K_1, X_2⟩ := hQ_6
  refine Go.re (pc' := 9) (L' := #[.val (.ref a1), .val (.ref c)]) (S' := []) rfl rfl rfl ?_
  refine Go.ret0 rfl [] (fun _ q => nomatch q) d_jdk_42_method_3_code_9 (by decide) (by decide) ?_
  exact ⟨rfl, (Keep.trans (Keep.refl _ [a1]) K_1 (allS (Or.inl (by simp)) all0)), X_2⟩
set_option maxRecDepth 65536 in
set_option maxHeartbeats 40000000 in
theorem ct_i4_4 (l : Launch) (Z : State) (a0 : Array Value) (hw : ∀ d ∈ tables_1, d.before a0 Z = true) (n0 : Nat) (h0 : Heap) (a1 : Addr) (ha1 : n0 ≤ a1) (E1 : Exa Z h0 a1 "java/lang/String") (G1 : Fld Z h0 a1 "java/lang/String" "value" "[B" .null) (G2 : Fld Z h0 a1 "java/lang/String" "coder" "B" (.int (0 : Int32))) (c : Addr) (kc : ClassId) (c0 c1 c2 c3 : Int32) (AC : Arv Z h0 c kc .char (4 : Int32) [(.int c0), (.int c1), (.int c2), (.int c3)] (.int 0)) (hr0 : ¬ c0 < 0) (hs0 : ¬ 65535 < c0) (hr1 : ¬ c1 < 0) (hs1 : ¬ 65535 < c1) (hr2 : ¬ c2 < 0) (hs2 : ¬ 65535 < c2) (hr3 : ¬ c3 < 0) (hs3 : ¬ 65535 < c3) (cs : Int32) (S_cs : Sta Z h0 "java/lang/String" "COMPACT_STRINGS" "Z" (.int cs)) (hcs : ¬ cs = 0) (S_ad : Sta Z h0 "java/lang/StringUTF16" "$assertionsDisabled" "Z" (.int (1 : Int32))) (S_hi : Sta Z h0 "java/lang/StringUTF16" "HI_BYTE_SHIFT" "I" (.int (0 : Int32))) (S_lo : Sta Z h0 "java/lang/StringUTF16" "LO_BYTE_SHIFT" "I" (.int (8 : Int32))) :
    Ct l Z (⟨"java/lang/String", "<init>", "([CIILjava/lang/Void;)V"⟩ : MethodName) jdk_42_method_149_code 6 none ({ frames := 4, cells := 2, slots := 12, locals := 57 } : Room) EL1 n0 true [] #[(.ref a1), (.ref c), (.int (0 : Int32)), (.int (4 : Int32)), (.null)] h0 [a1] (fun v h N => v = none ∧ Keep h0 h [a1] ∧ Sx Z h a1 [c0, c1, c2, c3]) := by
  refine Ct.of (a0 := a0) (plainFor_of_name pn_java_lang_String) (own_ew hw) (L0 := #[.val (.ref a1), .val (.ref c), .val (.int (0 : Int32)), .val (.int (4 : Int32)), .val (.null), .unset]) (fun m => by first | (simp [entryFrame, mkF, argsToLocals, Value.category]; done) | rfl) ?_
  have l0_E1 := nlt E1.lt
  have l0_AC := nlt AC.lt
  refine Go.aloadN (pc' := 1) d_jdk_42_method_149_code_0 rfl rfl rfl ?_
  refine Go.initO (pc' := 4) (a1 := a0) d_jdk_42_method_149_code_1 (hw _ (List.mem_of_getElem? (i := 18) rfl)) (hw _ (List.mem_of_getElem? (i := 19) rfl)) (hw _ (List.mem_of_getElem? (i := 20) rfl)) rfl (by decide) 0 rfl (by decide) rfl ?_
  refine Go.iloadN (pc' := 5) d_jdk_42_method_149_code_4 rfl rfl ?_
  refine Go.ifT (pc' := 27) d_jdk_42_method_149_code_5 (show ¬ ((4 : Int32) = (0 : Int32)) by decide) (by decide) (by decide) ?_
  refine Go.getS (pc' := 30) (host := "") (a1 := a0) d_jdk_42_method_149_code_27 (Or.inl (hw _ (List.mem_of_getElem? (i := 38) rfl))) Via.refl S_cs rfl ?_
  refine Go.ifF (pc' := 33) d_jdk_42_method_149_code_30 (hcs) rfl ?_
  refine Go.aloadN (pc' := 34) d_jdk_42_method_149_code_33 rfl rfl rfl ?_
  refine Go.iloadN (pc' := 35) d_jdk_42_method_149_code_34 rfl rfl ?_
  refine Go.iloadN (pc' := 36) d_jdk_42_method_149_code_35 rfl rfl ?_
  refine Go.callS (a1 := a0) (pc' := 39) (argsL := [(.ref c), (.int (0 : Int32)), (.int (4 : Int32))]) (rest := []) (ct_c3_4 l Z a0 hw n0 h0 c kc c0 c1 c2 c3 AC hr0 hs0 hr1 hs1 hr2 hs2 hr3 hs3 (by omega) S_ad S_hi S_lo) d_jdk_42_method_149_code_36 (hw _ (List.mem_of_getElem? (i := 39) rfl)) (hw _ (List.mem_of_getElem? (i := 40) rfl)) (hw _ (List.mem_of_getElem? (i := 41) rfl)) (hw _ (List.mem_of_getElem? (i := 42) rfl)) (by decide) (lenOf pd__28_5bCII_29_5bB rfl) rfl 0 rfl rfl (by decide) (by decide) (by decide) (by decide) (fun _ q => nomatch q) rfl (fun v_8 h_9 N_10 hQ_11 hle_12 => ?_)
  obtain ⟨d_1, kd_2, rfl, g_3, g_4, K_5, hi_6⟩ := hQ_11
  have ltd_1 := nlt g_4
  refine Go.re (pc' := 39) (L' := #[.val (.ref a1), .val (.ref c), .val (.int (0 : Int32)), .val (.int (4 : Int32)), .val (.null), .unset]) (S' := [(.ref d_1)]) rfl rfl rfl ?_
  rcases hi_6 with ⟨F_7, hi_6⟩ | F_7
  · refine Go.re (pc' := 39) (L' := #[.val (.ref a1), .val (.ref c), .val (.int (0 : Int32)), .val (.int (4 : Int32)), .val (.null), .unset]) (S' := [(.ref d_1)]) rfl rfl rfl ?_
    refine Go.astore (pc' := 41) #[.val (.ref a1), .val (.ref c), .val (.int (0 : Int32)), .val (.int (4 : Int32)), .val (.null), .val (.ref d_1)] d_jdk_42_method_149_code_39 rfl rfl rfl ?_
    refine Go.aloadN (pc' := 42) d_jdk_42_method_149_code_41 rfl rfl rfl ?_
    refine Go.aload (pc' := 44) d_jdk_42_method_149_code_42 rfl rfl rfl ?_
    refine Go.iloadN (pc' := 45) d_jdk_42_method_149_code_44 rfl rfl ?_
    refine Go.callS (a1 := a0) (pc' := 48) (argsL := [(.ref d_1), (.int (4 : Int32))]) (rest := [(.ref a1)]) (ct_cf_4_4 l Z a0 hw n0 h_9 d_1 kd_2 [(.int (c0).toInt8.toInt32), (.int (c1).toInt8.toInt32), (.int (c2).toInt8.toInt32), (.int (c3).toInt8.toInt32)] F_7) d_jdk_42_method_149_code_45 (hw _ (List.mem_of_getElem? (i := 46) rfl)) (hw _ (List.mem_of_getElem? (i := 47) rfl)) (hw _ (List.mem_of_getElem? (i := 41) rfl)) (hw _ (List.mem_of_getElem? (i := 48) rfl)) (by decide) (lenOf pd__28_5bBI_29B rfl) rfl 1 rfl rfl (by decide) (by decide) (by decide) (by decide) (fun _ q => nomatch q) rfl (fun v_13 h_14 N_15 hQ_16 hle_17 => ?_)
    obtain ⟨rfl, rfl⟩ := hQ_16
    refine Go.re (pc' := 48) (L' := #[.val (.ref a1), .val (.ref c), .val (.int (0 : Int32)), .val (.int (4 : Int32)), .val (.null), .val (.ref d_1)]) (S' := [(.int (0 : Int32)), (.ref a1)]) rfl rfl rfl ?_
    have F_18 : Fld Z h_9 a1 "java/lang/String" "coder" "B" (.int (0 : Int32)) := (Fld.keep G2 K_5 nin0)
    have F_19 : Exa Z h_9 a1 "java/lang/String" := (Exa.keep E1 K_5)
    refine Go.putF (pc' := 51) (host := "") (a1 := a0) d_jdk_42_method_149_code_48 (Or.inl (hw _ (List.mem_of_getElem? (i := 28) rfl))) Via.refl F_18 F_19 (Or.inr ⟨(hw _ (List.mem_of_getElem? (i := 24) rfl)), rfl, rfl⟩) (hw _ (List.mem_of_getElem? (i := 9) rfl)) (ty := .byte) (by decide) rfl rfl (Sf.mem (by simp)) (by omega) rfl (fun h_20 W_21 => ?_)
    have szh_20 : h_20.size = h_9.size := Wr.size W_21
    have F_22 : Fld Z h_20 a1 "java/lang/String" "coder" "B" (.int (0 : Int32)) := Fld.same W_21 F_18
    refine Go.aloadN (pc' := 52) d_jdk_42_method_149_code_51 rfl rfl rfl ?_
    refine Go.aload (pc' := 54) d_jdk_42_method_149_code_52 rfl rfl rfl ?_
    have F_23 : Fld Z h_20 a1 "java/lang/String" "value" "[B" (.null) := (Fld.other W_21 (Fld.keep G1 K_5 nin0) (Or.inr (slot_ne (Or.inr (hw _ (List.mem_of_getElem? (i := 23) rfl))) (Or.inr (hw _ (List.mem_of_getElem? (i := 24) rfl))) (by decide) (t := (.array .byte)) (t' := .byte) (by decide) (by decide))))
    have F_24 : Exa Z h_20 a1 "java/lang/String" := (Exa.wr W_21 F_19)
    refine Go.putF (pc' := 57) (host := "") (a1 := a0) d_jdk_42_method_149_code_54 (Or.inl (hw _ (List.mem_of_getElem? (i := 27) rfl))) Via.refl F_23 F_24 (Or.inr ⟨(hw _ (List.mem_of_getElem? (i := 23) rfl)), rfl, rfl⟩) (hw _ (List.mem_of_getElem? (i := 9) rfl)) (ty := (.array .byte)) (by decide) rfl rfl (Sf.mem (by simp)) (by omega) rfl (fun h_25 W_26 => ?_)
    have szh_25 : h_25.size = h_20.size := Wr.size W_26
    have F_27 : Fld Z h_25 a1 "java/lang/String" "value" "[B" (.ref d_1) := Fld.same W_26 F_23
    have F_28 : Arv Z h_25 d_1 kd_2 .byte (4 : Int32) [(.int (c0).toInt8.toInt32), (.int (c1).toInt8.toInt32), (.int (c2).toInt8.toInt32), (.int (c3).toInt8.toInt32)] (.int 0) := (Arv.other (Arv.other F_7 W_21 (nne (by omega))) W_26 (nne (by omega)))
    have F_29 : Fld Z h_25 a1 "java/lang/String" "coder" "B" (.int (0 : Int32)) := (Fld.other W_26 F_22 (Or.inr (slot_ne (Or.inr (hw _ (List.mem_of_getElem? (i := 24) rfl))) (Or.inr (hw _ (List.mem_of_getElem? (i := 23) rfl))) (by decide) (t := .byte) (t' := (.array .byte)) (by decide) (by decide))))
    have F_30 : Exa Z h_25 a1 "java/lang/String" := (Exa.wr W_26 F_24)
    refine Go.ret0 rfl [] (fun _ q => nomatch q) d_jdk_42_method_149_code_57 (by decide) (by decide) ?_
    exact ⟨rfl, (Keep.wr (Keep.wr (Keep.trans (Keep.refl _ [a1]) K_5 all0) W_21 (Or.inl (by simp))) W_26 (Or.inl (by simp))), F_30, d_1, _, F_27, Or.inl ⟨F_29, F_28, (fun i hi9 => by have q := hi_6; match i, hi9 with | 0, _ => exact q.1 | 1, _ => exact q.2.1 | 2, _ => exact q.2.2.1 | 3, _ => exact q.2.2.2)⟩⟩
  · refine Go.re (pc' := 39) (L' := #[.val (.ref a1), .val (.ref c), .val (.int (0 : Int32)), .val (.int (4 : Int32)), .val (.null), .unset]) (S' := [(.ref d_1)]) rfl rfl rfl ?_
    refine Go.astore (pc' := 41) #[.val (.ref a1), .val (.ref c), .val (.int (0 : Int32)), .val (.int (4 : Int32)), .val (.null), .val (.ref d_1)] d_jdk_42_method_149_code_39 rfl rfl rfl ?_
    refine Go.aloadN (pc' := 42) d_jdk_42_method_149_code_41 rfl rfl rfl ?_
    refine Go.aload (pc' := 44) d_jdk_42_method_149_code_42 rfl rfl rfl ?_
    refine Go.iloadN (pc' := 45) d_jdk_42_method_149_code_44 rfl rfl ?_
    refine Go.callS (a1 := a0) (pc' := 48) (argsL := [(.ref d_1), (.int (4 : Int32))]) (rest := [(.ref a1)]) (ct_cf_4_8 l Z a0 hw n0 h_9 d_1 kd_2 [(.int (c0 >>> ((0 : Int32) &&& 31)).toInt8.toInt32), (.int (c0 >>> ((8 : Int32) &&& 31)).toInt8.toInt32), (.int (c1 >>> ((0 : Int32) &&& 31)).toInt8.toInt32), (.int (c1 >>> ((8 : Int32) &&& 31)).toInt8.toInt32), (.int (c2 >>> ((0 : Int32) &&& 31)).toInt8.toInt32), (.int (c2 >>> ((8 : Int32) &&& 31)).toInt8.toInt32), (.int (c3 >>> ((0 : Int32) &&& 31)).toInt8.toInt32), (.int (c3 >>> ((8 : Int32) &&& 31)).toInt8.toInt32)] F_7) d_jdk_42_method_149_code_45 (hw _ (List.mem_of_getElem? (i := 46) rfl)) (hw _ (List.mem_of_getElem? (i := 47) rfl)) (hw _ (List.mem_of_getElem? (i := 41) rfl)) (hw _ (List.mem_of_getElem? (i := 48) rfl)) (by decide) (lenOf pd__28_5bBI_29B rfl) rfl 1 rfl rfl (by decide) (by decide) (by decide) (by decide) (fun _ q => nomatch q) rfl (fun v_31 h_32 N_33 hQ_34 hle_35 => ?_)
    obtain ⟨rfl, rfl⟩ := hQ_34
    refine Go.re (pc' := 48) (L' := #[.val (.ref a1), .val (.ref c), .val (.int (0 : Int32)), .val (.int (4 : Int32)), .val (.null), .val (.ref d_1)]) (S' := [(.int (1 : Int32)), (.ref a1)]) rfl rfl rfl ?_
    have F_36 : Fld Z h_9 a1 "java/lang/String" "coder" "B" (.int (0 : Int32)) := (Fld.keep G2 K_5 nin0)
    have F_37 : Exa Z h_9 a1 "java/lang/String" := (Exa.keep E1 K_5)
    refine Go.putF (pc' := 51) (host := "") (a1 := a0) d_jdk_42_method_149_code_48 (Or.inl (hw _ (List.mem_of_getElem? (i := 28) rfl))) Via.refl F_36 F_37 (Or.inr ⟨(hw _ (List.mem_of_getElem? (i := 24) rfl)), rfl, rfl⟩) (hw _ (List.mem_of_getElem? (i := 9) rfl)) (ty := .byte) (by decide) rfl rfl (Sf.mem (by simp)) (by omega) rfl (fun h_38 W_39 => ?_)
    have szh_38 : h_38.size = h_9.size := Wr.size W_39
    have F_40 : Fld Z h_38 a1 "java/lang/String" "coder" "B" (.int (1 : Int32)) := Fld.same W_39 F_36
    refine Go.aloadN (pc' := 52) d_jdk_42_method_149_code_51 rfl rfl rfl ?_
    refine Go.aload (pc' := 54) d_jdk_42_method_149_code_52 rfl rfl rfl ?_
    have F_41 : Fld Z h_38 a1 "java/lang/String" "value" "[B" (.null) := (Fld.other W_39 (Fld.keep G1 K_5 nin0) (Or.inr (slot_ne (Or.inr (hw _ (List.mem_of_getElem? (i := 23) rfl))) (Or.inr (hw _ (List.mem_of_getElem? (i := 24) rfl))) (by decide) (t := (.array .byte)) (t' := .byte) (by decide) (by decide))))
    have F_42 : Exa Z h_38 a1 "java/lang/String" := (Exa.wr W_39 F_37)
    refine Go.putF (pc' := 57) (host := "") (a1 := a0) d_jdk_42_method_149_code_54 (Or.inl (hw _ (List.mem_of_getElem? (i := 27) rfl))) Via.refl F_41 F_42 (Or.inr ⟨(hw _ (List.mem_of_getElem? (i := 23) rfl)), rfl, rfl⟩) (hw _ (List.mem_of_getElem? (i := 9) rfl)) (ty := (.array .byte)) (by decide) rfl rfl (Sf.mem (by simp)) (by omega) rfl (fun h_43 W_44 => ?_)
    have szh_43 : h_43.size = h_38.size := Wr.size W_44
    have F_45 : Fld Z h_43 a1 "java/lang/String" "value" "[B" (.ref d_1) := Fld.same W_44 F_41
    have F_46 : Arv Z h_43 d_1 kd_2 .byte (8 : Int32) [(.int (c0 >>> ((0 : Int32) &&& 31)).toInt8.toInt32), (.int (c0 >>> ((8 : Int32) &&& 31)).toInt8.toInt32), (.int (c1 >>> ((0 : Int32) &&& 31)).toInt8.toInt32), (.int (c1 >>> ((8 : Int32) &&& 31)).toInt8.toInt32), (.int (c2 >>> ((0 : Int32) &&& 31)).toInt8.toInt32), (.int (c2 >>> ((8 : Int32) &&& 31)).toInt8.toInt32), (.int (c3 >>> ((0 : Int32) &&& 31)).toInt8.toInt32), (.int (c3 >>> ((8 : Int32) &&& 31)).toInt8.toInt32)] (.int 0) := (Arv.other (Arv.other F_7 W_39 (nne (by omega))) W_44 (nne (by omega)))
    have F_47 : Fld Z h_43 a1 "java/lang/String" "coder" "B" (.int (1 : Int32)) := (Fld.other W_44 F_40 (Or.inr (slot_ne (Or.inr (hw _ (List.mem_of_getElem? (i := 24) rfl))) (Or.inr (hw _ (List.mem_of_getElem? (i := 23) rfl))) (by decide) (t := .byte) (t' := (.array .byte)) (by decide) (by decide))))
    have F_48 : Exa Z h_43 a1 "java/lang/String" := (Exa.wr W_44 F_42)
    refine Go.ret0 rfl [] (fun _ q => nomatch q) d_jdk_42_method_149_code_57 (by decide) (by decide) ?_
    exact ⟨rfl, (Keep.wr (Keep.wr (Keep.trans (Keep.refl _ [a1]) K_5 all0) W_39 (Or.inl (by simp))) W_44 (Or.inl (by simp))), F_48, d_1, _, F_45, Or.inr ⟨F_47, F_46⟩⟩
set_option maxRecDepth 65536 in
set_option maxHeartbeats 40000000 in
theorem ct_i1_4 (l : Launch) (Z : State) (a0 : Array Value) (hw : ∀ d ∈ tables_1, d.before a0 Z = true) (n0 : Nat) (h0 : Heap) (a1 : Addr) (ha1 : n0 ≤ a1) (E1 : Exa Z h0 a1 "java/lang/String") (G1 : Fld Z h0 a1 "java/lang/String" "value" "[B" .null) (G2 : Fld Z h0 a1 "java/lang/String" "coder" "B" (.int (0 : Int32))) (c : Addr) (kc : ClassId) (c0 c1 c2 c3 : Int32) (AC : Arv Z h0 c kc .char (4 : Int32) [(.int c0), (.int c1), (.int c2), (.int c3)] (.int 0)) (hr0 : ¬ c0 < 0) (hs0 : ¬ 65535 < c0) (hr1 : ¬ c1 < 0) (hs1 : ¬ 65535 < c1) (hr2 : ¬ c2 < 0) (hs2 : ¬ 65535 < c2) (hr3 : ¬ c3 < 0) (hs3 : ¬ 65535 < c3) (cs : Int32) (S_cs : Sta Z h0 "java/lang/String" "COMPACT_STRINGS" "Z" (.int cs)) (hcs : ¬ cs = 0) (S_ad : Sta Z h0 "java/lang/StringUTF16" "$assertionsDisabled" "Z" (.int (1 : Int32))) (S_hi : Sta Z h0 "java/lang/StringUTF16" "HI_BYTE_SHIFT" "I" (.int (0 : Int32))) (S_lo : Sta Z h0 "java/lang/StringUTF16" "LO_BYTE_SHIFT" "I" (.int (8 : Int32))) :
    Ct l Z (⟨"java/lang/String", "<init>", "([C)V"⟩ : MethodName) jdk_42_method_3_code 2 none ({ frames := 5, cells := 2, slots := 12, locals := 74 } : Room) EL1 n0 true [] #[(.ref a1), (.ref c)] h0 [a1] (fun v h N => v = none ∧ Keep h0 h [a1] ∧ Sx Z h a1 [c0, c1, c2, c3]) := by
  refine Ct.of (a0 := a0) (plainFor_of_name pn_java_lang_String) (own_ew hw) (L0 := #[.val (.ref a1), .val (.ref c)]) (fun m => by first | (simp [entryFrame, mkF, argsToLocals, Value.category]; done) | rfl) ?_
  have l0_E1 := nlt E1.lt
  have l0_AC := nlt AC.lt
  refine Go.aloadN (pc' := 1) d_jdk_42_method_3_code_0 rfl rfl rfl ?_
  refine Go.aloadN (pc' := 2) d_jdk_42_method_3_code_1 rfl rfl rfl ?_
  refine Go.iconst (pc' := 3) 0 d_jdk_42_method_3_code_2 rfl rfl ?_
  refine Go.aloadN (pc' := 4) d_jdk_42_method_3_code_3 rfl rfl rfl ?_
  refine Go.alenV (pc' := 5) d_jdk_42_method_3_code_4 AC rfl ?_
  refine Go.aconstNull (pc' := 6) d_jdk_42_method_3_code_5 rfl ?_
  refine Go.callN (a1 := a0) (pc' := 9) (argsL := [(.ref c), (.int (0 : Int32)), (.int (4 : Int32)), (.null)]) (rest := []) (ct_i4_4 l Z a0 hw n0 h0 a1 (by omega) E1 G1 G2 c kc c0 c1 c2 c3 AC hr0 hs0 hr1 hs1 hr2 hs2 hr3 hs3 cs S_cs hcs S_ad S_hi S_lo) d_jdk_42_method_3_code_6 rfl (hw _ (List.mem_of_getElem? (i := 14) rfl)) (hw _ (List.mem_of_getElem? (i := 15) rfl)) (hw _ (List.mem_of_getElem? (i := 10) rfl)) (hw _ (List.mem_of_getElem? (i := 17) rfl)) (by decide) (lenOf pd__28_5bCIILjava_2flang_2fVoid_3b_29V rfl) rfl 0 rfl rfl (by decide) (by decide) (by decide) (by decide) (by intro x hx; simp only [List.mem_cons, List.not_mem_nil, or_false] at hx; rcases hx with rfl; all_goals simp) rfl (fun v_3 h_4 N_5 hQ_6 hle_7 => ?_)
  obtain ⟨rfl, K_1, X_2⟩ := hQ_6
  refine Go.re (pc' := 9) (L' := #[.val (.ref a1), .val (.ref c)]) (S' := []) rfl rfl rfl ?_
  refine Go.ret0 rfl [] (fun _ q => nomatch q) d_jdk_42_method_3_code_9 (by decide) (by decide) ?_
  exact ⟨rfl, (Keep.trans (Keep.refl _ [a1]) K_1 (allS (Or.inl (by simp)) all0)), X_2⟩
theorem d_jdk_42_method_149_code_8 : decode jdk_42_method_149_code 8 = .ok (.aload_n 0, 1) := by decide +kernel
theorem d_jdk_42_method_149_code_9 : decode jdk_42_method_149_code 9 = .ok (.ldc 7, 2) := by decide +kernel
theorem d_jdk_42_method_149_code_11 : decode jdk_42_method_149_code 11 = .ok (.getfield 9, 3) := by decide +kernel
theorem d_jdk_42_method_149_code_14 : decode jdk_42_method_149_code 14 = .ok (.putfield 9, 3) := by decide +kernel
theorem d_jdk_42_method_149_code_17 : decode jdk_42_method_149_code 17 = .ok (.aload_n 0, 1) := by decide +kernel
theorem d_jdk_42_method_149_code_18 : decode jdk_42_method_149_code 18 = .ok (.ldc 7, 2) := by decide +kernel
theorem d_jdk_42_method_149_code_20 : decode jdk_42_method_149_code 20 = .ok (.getfield 15, 3) := by decide +kernel
theorem d_jdk_42_method_149_code_23 : decode jdk_42_method_149_code 23 = .ok (.putfield 15, 3) := by decide +kernel
theorem d_jdk_42_method_149_code_26 : decode jdk_42_method_149_code 26 = .ok (.return_, 1) := by decide +kernel
set_option maxRecDepth 65536 in
set_option maxHeartbeats 40000000 in
theorem ct_i4_0 (l : Launch) (Z : State) (a0 : Array Value) (hw : ∀ d ∈ tables_1, d.before a0 Z = true) (n0 : Nat) (h0 : Heap) (a1 : Addr) (ha1 : n0 ≤ a1) (E1 : Exa Z h0 a1 "java/lang/String") (G1 : Fld Z h0 a1 "java/lang/String" "value" "[B" .null) (G2 : Fld Z h0 a1 "java/lang/String" "coder" "B" (.int (0 : Int32))) (c : Addr) :
    Ct l Z (⟨"java/lang/String", "<init>", "([CIILjava/lang/Void;)V"⟩ : MethodName) jdk_42_method_149_code 6 none ({ frames := 1, cells := 4, slots := 8, locals := 12 } : Room) EL1 n0 true [] #[(.ref a1), (.ref c), (.int (0 : Int32)), (.int (0 : Int32)), (.null)] h0 [a1] (fun v h N => v = none ∧ Keep h0 h [a1] ∧ Sx Z h a1 []) := by
  refine Ct.of (a0 := a0) (plainFor_of_name pn_java_lang_String) (own_ew hw) (L0 := #[.val (.ref a1), .val (.ref c), .val (.int (0 : Int32)), .val (.int (0 : Int32)), .val (.null), .unset]) (fun m => by first | (simp [entryFrame, mkF, argsToLocals, Value.category]; done) | rfl) ?_
  have l0_E1 := nlt E1.lt
  refine Go.aloadN (pc' := 1) d_jdk_42_method_149_code_0 rfl rfl rfl ?_
  refine Go.initO (pc' := 4) (a1 := a0) d_jdk_42_method_149_code_1 (hw _ (List.mem_of_getElem? (i := 18) rfl)) (hw _ (List.mem_of_getElem? (i := 19) rfl)) (hw _ (List.mem_of_getElem? (i := 20) rfl)) rfl (by decide) 0 rfl (by decide) rfl ?_
  refine Go.iloadN (pc' := 5) d_jdk_42_method_149_code_4 rfl rfl ?_
  refine Go.ifF (pc' := 8) d_jdk_42_method_149_code_5 (show (0 : Int32) = (0 : Int32) by decide) rfl ?_
  refine Go.aloadN (pc' := 9) d_jdk_42_method_149_code_8 rfl rfl rfl ?_
  refine Go.ldcR (pc' := 11) (a1 := a0) 0 (vs := []) (z := 0) d_jdk_42_method_149_code_9 rfl (hw _ (List.mem_of_getElem? (i := 21) rfl)) (own_ws hw) (by decide) (by decide) (by decide) (by decide) rfl (own_ew hw) (List.mem_of_getElem? (i := 1) rfl) ⟨by decide, by decide⟩ (by decide) (by decide) (fun a_1 h_2 b_3 k_4 E_5 X_6 F_7 F_8 A_9 ne_10 => ?_)
  have szh_2 : h0.size ≤ h_2.size := E_5.1
  have lta_1 := nlt X_6.lt
  have ltb_3 := nlt A_9.lt
  have nx_11 := nne2 (ne_10 a1 (by simp))
  refine Go.getF (pc' := 14) (host := "") (a1 := a0) d_jdk_42_method_149_code_11 (Or.inl (hw _ (List.mem_of_getElem? (i := 27) rfl))) Via.refl F_8 rfl ?_
  have F_12 : Fld Z h_2 a1 "java/lang/String" "value" "[B" (.null) := (Fld.ext E_5 G1)
  have F_13 : Exa Z h_2 a1 "java/lang/String" := (Exa.ext E_5 E1)
  refine Go.putF (pc' := 17) (host := "") (a1 := a0) d_jdk_42_method_149_code_14 (Or.inl (hw _ (List.mem_of_getElem? (i := 27) rfl))) Via.refl F_12 F_13 (Or.inr ⟨(hw _ (List.mem_of_getElem? (i := 23) rfl)), rfl, rfl⟩) (hw _ (List.mem_of_getElem? (i := 9) rfl)) (ty := (.array .byte)) (by decide) rfl rfl (Sf.mem (by simp)) (by omega) rfl (fun h_14 W_15 => ?_)
  have szh_14 : h_14.size = h_2.size := Wr.size W_15
  have F_16 : Fld Z h_14 a1 "java/lang/String" "value" "[B" (.ref b_3) := Fld.same W_15 F_12
  refine Go.aloadN (pc' := 18) d_jdk_42_method_149_code_17 rfl rfl rfl ?_
  refine Go.ldcR (pc' := 20) (a1 := a0) 0 (vs := []) (z := 0) d_jdk_42_method_149_code_18 rfl (hw _ (List.mem_of_getElem? (i := 21) rfl)) (own_ws hw) (by decide) (by decide) (by decide) (by decide) rfl (own_ew hw) (List.mem_of_getElem? (i := 1) rfl) ⟨by decide, by decide⟩ (by decide) (by decide) (fun a_17 h_18 b_19 k_20 E_21 X_22 F_23 F_24 A_25 ne_26 => ?_)
  have szh_18 : h_14.size ≤ h_18.size := E_21.1
  have lta_17 := nlt X_22.lt
  have ltb_19 := nlt A_25.lt
  have nx_27 := nne2 (ne_26 a1 (by simp))
  refine Go.getF (pc' := 23) (host := "") (a1 := a0) d_jdk_42_method_149_code_20 (Or.inl (hw _ (List.mem_of_getElem? (i := 28) rfl))) Via.refl F_23 rfl ?_
  have F_28 : Fld Z h_18 a1 "java/lang/String" "coder" "B" (.int (0 : Int32)) := (Fld.ext E_21 (Fld.other W_15 (Fld.ext E_5 G2) (Or.inr (slot_ne (Or.inr (hw _ (List.mem_of_getElem? (i := 24) rfl))) (Or.inr (hw _ (List.mem_of_getElem? (i := 23) rfl))) (by decide) (t := .byte) (t' := (.array .byte)) (by decide) (by decide)))))
  have F_29 : Exa Z h_18 a1 "java/lang/String" := (Exa.ext E_21 (Exa.wr W_15 F_13))
  refine Go.putF (pc' := 26) (host := "") (a1 := a0) d_jdk_42_method_149_code_23 (Or.inl (hw _ (List.mem_of_getElem? (i := 28) rfl))) Via.refl F_28 F_29 (Or.inr ⟨(hw _ (List.mem_of_getElem? (i := 24) rfl)), rfl, rfl⟩) (hw _ (List.mem_of_getElem? (i := 9) rfl)) (ty := .byte) (by decide) rfl rfl (Sf.mem (by simp)) (by omega) rfl (fun h_30 W_31 => ?_)
  have szh_30 : h_30.size = h_18.size := Wr.size W_31
  have F_32 : Fld Z h_30 a1 "java/lang/String" "coder" "B" (.int (0 : Int32)) := Fld.same W_31 F_28
  have F_33 : Exa Z h_30 a1 "java/lang/String" := (Exa.wr W_31 F_29)
  have F_34 : Fld Z h_30 a1 "java/lang/String" "value" "[B" (.ref b_3) := (Fld.other W_31 (Fld.ext E_21 F_16) (Or.inr (slot_ne (Or.inr (hw _ (List.mem_of_getElem? (i := 23) rfl))) (Or.inr (hw _ (List.mem_of_getElem? (i := 24) rfl))) (by decide) (t := (.array .byte)) (t' := .byte) (by decide) (by decide))))
  have F_35 : Arv Z h_30 b_3 k_4 .byte (0 : Int32) [] (.int 0) := (Arv.other (Arv.ext (Arv.other A_9 W_15 (nne (by omega))) E_21) W_31 (nne (by omega)))
  refine Go.ret0 rfl [] (fun _ q => nomatch q) d_jdk_42_method_149_code_26 (by decide) (by decide) ?_
  exact ⟨rfl, (Keep.wr (Keep.ext (Keep.wr (Keep.ext (Keep.refl _ [a1]) E_5) W_15 (Or.inl (by simp))) E_21) W_31 (Or.inl (by simp))), F_33, b_3, _, F_34, Or.inl ⟨F_32, F_35, fun i hi9 => absurd hi9 (Nat.not_lt_zero _)⟩⟩
set_option maxRecDepth 65536 in
set_option maxHeartbeats 40000000 in
theorem ct_i1_0 (l : Launch) (Z : State) (a0 : Array Value) (hw : ∀ d ∈ tables_1, d.before a0 Z = true) (n0 : Nat) (h0 : Heap) (a1 : Addr) (ha1 : n0 ≤ a1) (E1 : Exa Z h0 a1 "java/lang/String") (G1 : Fld Z h0 a1 "java/lang/String" "value" "[B" .null) (G2 : Fld Z h0 a1 "java/lang/String" "coder" "B" (.int (0 : Int32))) (c : Addr) (kc : ClassId) (AC : Arv Z h0 c kc .char (0 : Int32) [] (.int 0)) :
    Ct l Z (⟨"java/lang/String", "<init>", "([C)V"⟩ : MethodName) jdk_42_method_3_code 2 none ({ frames := 2, cells := 4, slots := 8, locals := 29 } : Room) EL1 n0 true [] #[(.ref a1), (.ref c)] h0 [a1] (fun v h N => v = none ∧ Keep h0 h [a1] ∧ Sx Z h a1 []) := by
  refine Ct.of (a0 := a0) (plainFor_of_name pn_java_lang_String) (own_ew hw) (L0 := #[.val (.ref a1), .val (.ref c)]) (fun m => by first | (simp [entryFrame, mkF, argsToLocals, Value.category]; done) | rfl) ?_
  have l0_E1 := nlt E1.lt
  have l0_AC := nlt AC.lt
  refine Go.aloadN (pc' := 1) d_jdk_42_method_3_code_0 rfl rfl rfl ?_
  refine Go.aloadN (pc' := 2) d_jdk_42_method_3_code_1 rfl rfl rfl ?_
  refine Go.iconst (pc' := 3) 0 d_jdk_42_method_3_code_2 rfl rfl ?_
  refine Go.aloadN (pc' := 4) d_jdk_42_method_3_code_3 rfl rfl rfl ?_
  refine Go.alenV (pc' := 5) d_jdk_42_method_3_code_4 AC rfl ?_
  refine Go.aconstNull (pc' := 6) d_jdk_42_method_3_code_5 rfl ?_
  refine Go.callN (a1 := a0) (pc' := 9) (argsL := [(.ref c), (.int (0 : Int32)), (.int (0 : Int32)), (.null)]) (rest := []) (ct_i4_0 l Z a0 hw n0 h0 a1 (by omega) E1 G1 G2 c) d_jdk_42_method_3_code_6 rfl (hw _ (List.mem_of_getElem? (i := 14) rfl)) (hw _ (List.mem_of_getElem? (i := 15) rfl)) (hw _ (List.mem_of_getElem? (i := 10) rfl)) (hw _ (List.mem_of_getElem? (i := 17) rfl)) (by decide) (lenOf pd__28_5bCIILjava_2flang_2fVoid_3b_29V rfl) rfl 0 rfl rfl (by decide) (by decide) (by decide) (by decide) (by intro x hx; simp only [List.mem_cons, List.not_mem_nil, or_false] at hx; rcases hx with rfl; all_goals simp) rfl (fun v_3 h_4 N_5 hQ_6 hle_7 => ?_)
  obtain ⟨rfl, K_1, X_2⟩ := hQ_6
  refine Go.re (pc' := 9) (L' := #[.val (.ref a1), .val (.ref c)]) (S' := []) rfl rfl rfl ?_
  refine Go.ret0 rfl [] (fun _ q => nomatch q) d_jdk_42_method_3_code_9 (by decide) (by decide) ?_
  exact ⟨rfl, (Keep.trans (Keep.refl _ [a1]) K_1 (allS (Or.inl (by simp)) all0)), X_2⟩
theorem pn_jdk_internal_util_Preconditions : plainName "jdk/internal/util/Preconditions" = true := by first | (simp [plainName, overriddenIn]; done) | decide +kernel
theorem d_jdk_41_method_11_code_0 : decode jdk_41_method_11_code 0 = .ok (.iload_n 0, 1) := by decide +kernel
theorem d_jdk_41_method_11_code_1 : decode jdk_41_method_11_code 1 = .ok (.ifCond .lt 8, 3) := by decide +kernel
theorem d_jdk_41_method_11_code_4 : decode jdk_41_method_11_code 4 = .ok (.iload_n 0, 1) := by decide +kernel
theorem d_jdk_41_method_11_code_5 : decode jdk_41_method_11_code 5 = .ok (.iload_n 1, 1) := by decide +kernel
theorem d_jdk_41_method_11_code_6 : decode jdk_41_method_11_code 6 = .ok (.if_icmp .lt 10, 3) := by decide +kernel
theorem d_jdk_41_method_11_code_16 : decode jdk_41_method_11_code 16 = .ok (.iload_n 0, 1) := by decide +kernel
theorem d_jdk_41_method_11_code_17 : decode jdk_41_method_11_code 17 = .ok (.ireturn, 1) := by decide +kernel
set_option maxRecDepth 65536 in
set_option maxHeartbeats 40000000 in
theorem ct_pchk (l : Launch) (Z : State) (a0 : Array Value) (hw : ∀ d ∈ tables_1, d.before a0 Z = true) (n0 : Nat) (h0 : Heap) (p1 p2 : Int32) (sf : Value) (hsf : sf.isRef = true) (h1 : ¬ p1 < 0) (h2 : p1 < p2) :
    Ct l Z (⟨"jdk/internal/util/Preconditions", "checkIndex", "(IILjava/util/function/BiFunction;)I"⟩ : MethodName) jdk_41_method_11_code 3 (some .int) ({ frames := 0, cells := 0, slots := 0, locals := 0 } : Room) EL1 n0 true [] #[(.int p1), (.int p2), sf] h0 [] (fun v h N => h0 = h ∧ v = some (.int p1)) := by
  refine Ct.of (a0 := a0) (plainFor_of_name pn_jdk_internal_util_Preconditions) (own_ew hw) (L0 := #[.val (.int p1), .val (.int p2), .val (sf)]) (fun m => by rcases ref_cases hsf with rfl | ⟨_, rfl⟩ <;> first | (simp [entryFrame, mkF, argsToLocals, Value.category]; done) | rfl) ?_
  refine Go.iloadN (pc' := 1) d_jdk_41_method_11_code_0 rfl rfl ?_
  refine Go.ifF (pc' := 4) d_jdk_41_method_11_code_1 (h1) rfl ?_
  refine Go.iloadN (pc' := 5) d_jdk_41_method_11_code_4 rfl rfl ?_
  refine Go.iloadN (pc' := 6) d_jdk_41_method_11_code_5 rfl rfl ?_
  refine Go.icmpT (pc' := 16) d_jdk_41_method_11_code_6 (h2) (by decide) (by decide) ?_
  refine Go.iloadN (pc' := 17) d_jdk_41_method_11_code_16 rfl rfl ?_
  refine Go.retI rfl [] (fun _ q => nomatch q) d_jdk_41_method_11_code_17 (by decide) (by decide) ?_
  exact ⟨rfl, rfl⟩
theorem d_jdk_42_method_155_code_0 : decode jdk_42_method_155_code 0 = .ok (.iload_n 0, 1) := by decide +kernel
theorem d_jdk_42_method_155_code_1 : decode jdk_42_method_155_code 1 = .ok (.iload_n 1, 1) := by decide +kernel
theorem d_jdk_42_method_155_code_2 : decode jdk_42_method_155_code 2 = .ok (.getstatic 1053, 3) := by decide +kernel
theorem pd__28IILjava_2futil_2ffunction_2fBiFunction_3b_29I : parseMethodDescriptor "(IILjava/util/function/BiFunction;)I" = some ⟨[.int, .int, (.object "java/util/function/BiFunction")], (some .int)⟩ := by decide +kernel
theorem d_jdk_42_method_155_code_5 : decode jdk_42_method_155_code 5 = .ok (.invokestatic 1059, 3) := by decide +kernel
theorem d_jdk_42_method_155_code_8 : decode jdk_42_method_155_code 8 = .ok (.pop, 1) := by decide +kernel
theorem d_jdk_42_method_155_code_9 : decode jdk_42_method_155_code 9 = .ok (.return_, 1) := by decide +kernel
set_option maxRecDepth 65536 in
set_option maxHeartbeats 40000000 in
theorem ct_schk (l : Launch) (Z : State) (a0 : Array Value) (hw : ∀ d ∈ tables_1, d.before a0 Z = true) (n0 : Nat) (h0 : Heap) (p1 p2 : Int32) (sf : Value) (hsf : sf.isRef = true) (S_sf : Sta Z h0 "jdk/internal/util/Preconditions" "SIOOBE_FORMATTER" "Ljava/util/function/BiFunction;" sf) (h1 : ¬ p1 < 0) (h2 : p1 < p2) :
    Ct l Z (⟨"java/lang/String", "checkIndex", "(II)V"⟩ : MethodName) jdk_42_method_155_code 2 none ({ frames := 1, cells := 0, slots := 0, locals := 14 } : Room) EL1 n0 true [] #[(.int p1), (.int p2)] h0 [] (fun v h N => h0 = h ∧ v = none) := by
  refine Ct.of (a0 := a0) (plainFor_of_name pn_java_lang_String) (own_ew hw) (L0 := #[.val (.int p1), .val (.int p2)]) (fun m => by first | (simp [entryFrame, mkF, argsToLocals, Value.category]; done) | rfl) ?_
  refine Go.iloadN (pc' := 1) d_jdk_42_method_155_code_0 rfl rfl ?_
  refine Go.iloadN (pc' := 2) d_jdk_42_method_155_code_1 rfl rfl ?_
  refine Go.getS (pc' := 5) (host := "") (a1 := a0) d_jdk_42_method_155_code_2 (Or.inl (hw _ (List.mem_of_getElem? (i := 79) rfl))) Via.refl S_sf rfl ?_
  refine Go.callS (a1 := a0) (pc' := 8) (argsL := [(.int p1), (.int p2), sf]) (rest := []) (ct_pchk l Z a0 hw n0 h0 p1 p2 sf hsf h1 h2) d_jdk_42_method_155_code_5 (hw _ (List.mem_of_getElem? (i := 81) rfl)) (hw _ (List.mem_of_getElem? (i := 82) rfl)) (hw _ (List.mem_of_getElem? (i := 80) rfl)) (hw _ (List.mem_of_getElem? (i := 83) rfl)) (by decide) (lenOf pd__28IILjava_2futil_2ffunction_2fBiFunction_3b_29I rfl) rfl 0 rfl rfl (by decide) (by decide) (by decide) (by decide) (fun _ q => nomatch q) rfl (fun v_1 h_2 N_3 hQ_4 hle_5 => ?_)
  obtain ⟨rfl, rfl⟩ := hQ_4
  refine Go.re (pc' := 8) (L' := #[.val (.int p1), .val (.int p2)]) (S' := [(.int p1)]) rfl rfl rfl ?_
  refine Go.pop (pc' := 9) d_jdk_42_method_155_code_8 rfl rfl ?_
  refine Go.ret0 rfl [] (fun _ q => nomatch q) d_jdk_42_method_155_code_9 (by decide) (by decide) ?_
  exact ⟨rfl, rfl⟩
theorem d_jdk_42_method_55_code_0 : decode jdk_42_method_55_code 0 = .ok (.aload_n 0, 1) := by decide +kernel
theorem d_jdk_42_method_55_code_1 : decode jdk_42_method_55_code 1 = .ok (.getfield 9, 3) := by decide +kernel
theorem d_jdk_42_method_55_code_4 : decode jdk_42_method_55_code 4 = .ok (.arraylength, 1) := by decide +kernel
theorem d_jdk_42_method_55_code_5 : decode jdk_42_method_55_code 5 = .ok (.ifCond .ne 7, 3) := by decide +kernel
theorem d_jdk_42_method_55_code_12 : decode jdk_42_method_55_code 12 = .ok (.iconst 0, 1) := by decide +kernel
theorem d_jdk_42_method_55_code_13 : decode jdk_42_method_55_code 13 = .ok (.ireturn, 1) := by decide +kernel
theorem d_jdk_42_method_55_code_8 : decode jdk_42_method_55_code 8 = .ok (.iconst 1, 1) := by decide +kernel
theorem d_jdk_42_method_55_code_9 : decode jdk_42_method_55_code 9 = .ok (.goto 4, 3) := by decide +kernel
set_option maxRecDepth 65536 in
set_option maxHeartbeats 40000000 in
theorem ct_isEmptyM (l : Launch) (Z : State) (a0 : Array Value) (hw : ∀ d ∈ tables_1, d.before a0 Z = true) (n0 : Nat) (h0 : Heap) (a1 b : Addr) (k : ClassId) (m : Nat) (vs : List Value) (hm : m < 2 ^ 31) (FV : Fld Z h0 a1 "java/lang/String" "value" "[B" (.ref b)) (AV : Arv Z h0 b k .byte (Int32.ofNat m) vs (.int 0)) :
    Ct l Z (⟨"java/lang/String", "isEmpty", "()Z"⟩ : MethodName) jdk_42_method_55_code 1 (some .boolean) ({ frames := 0, cells := 0, slots := 0, locals := 0 } : Room) EL1 n0 true [] #[(.ref a1)] h0 [] (fun v h N => h0 = h ∧ v = some (.int (if m = 0 then (1 : Int32) else 0))) := by
  refine Ct.of (a0 := a0) (plainFor_of_name pn_java_lang_String) (own_ew hw) (L0 := #[.val (.ref a1)]) (fun m => by first | (simp [entryFrame, mkF, argsToLocals, Value.category]; done) | rfl) ?_
  have l0_AV := nlt AV.lt
  refine Go.aloadN (pc' := 1) d_jdk_42_method_55_code_0 rfl rfl rfl ?_
  refine Go.getF (pc' := 4) (host := "") (a1 := a0) d_jdk_42_method_55_code_1 (Or.inl (hw _ (List.mem_of_getElem? (i := 27) rfl))) Via.refl FV rfl ?_
  refine Go.alenV (pc' := 5) d_jdk_42_method_55_code_4 AV rfl ?_
  refine Go.ifc (pc' := 12) (pc'' := 8) d_jdk_42_method_55_code_5 (by decide) (by decide) rfl (fun hc_1 => ?_) (fun hc_1 => ?_)
  · have hc_1 : ¬ ((Int32.ofNat m) = 0) := hc_1
    refine Go.iconst (pc' := 13) 0 d_jdk_42_method_55_code_12 rfl rfl ?_
    refine Go.retN (t := .boolean) (0 : Int32) rfl (by simp) rfl [] (fun _ q => nomatch q) d_jdk_42_method_55_code_13 (by decide) (by decide) ?_
    exact ⟨rfl, by rw [if_neg (fun q => hc_1 (by rw [q]; rfl))]⟩
  · have hc_1 : (Int32.ofNat m) = 0 := hc_1
    refine Go.iconst (pc' := 9) 1 d_jdk_42_method_55_code_8 rfl rfl ?_
    refine Go.goto (pc' := 13) d_jdk_42_method_55_code_9 (by decide) (by decide) ?_
    refine Go.retN (t := .boolean) (1 : Int32) rfl (by simp) rfl [] (fun _ q => nomatch q) d_jdk_42_method_55_code_13 (by decide) (by decide) ?_
    exact ⟨rfl, by rw [if_pos ((ofN_eq hm (by decide)).mp hc_1)]⟩
theorem ct_isEmpty (l : Launch) (Z : State) (a0 : Array Value) (hw : ∀ d ∈ tables_1, d.before a0 Z = true) (n0 : Nat) (h0 : Heap) (a1 : Addr) (cs : List Int32) (hl : cs.length < 2 ^ 18) (S : Sx Z h0 a1 cs) :
    Ct l Z (⟨"java/lang/String", "isEmpty", "()Z"⟩ : MethodName) jdk_42_method_55_code 1 (some .boolean) ({ frames := 0, cells := 0, slots := 0, locals := 0 } : Room) EL1 n0 true [] #[(.ref a1)] h0 [] (fun v h N => h0 = h ∧ v = some (.int (if cs = [] then (1 : Int32) else 0))) := by
  obtain ⟨x, b, k, v, q⟩ := S
  rcases q with ⟨c, r, z⟩ | ⟨c, r⟩
  · refine Ct.post ?_ (ct_isEmptyM l Z a0 hw n0 h0 a1 b k _ _ (by omega) v r)
    rintro v h N ⟨e1, e2⟩
    exact ⟨e1, e2.trans (by cases cs <;> simp)⟩
  · refine Ct.post ?_ (ct_isEmptyM l Z a0 hw n0 h0 a1 b k _ _ (by omega) v r)
    rintro v h N ⟨e1, e2⟩
    exact ⟨e1, e2.trans (by cases cs <;> simp)⟩
theorem d_jdk_42_method_152_code_0 : decode jdk_42_method_152_code 0 = .ok (.getstatic 38, 3) := by decide +kernel
theorem d_jdk_42_method_152_code_3 : decode jdk_42_method_152_code 3 = .ok (.ifCond .eq 10, 3) := by decide +kernel
theorem d_jdk_42_method_152_code_6 : decode jdk_42_method_152_code 6 = .ok (.aload_n 0, 1) := by decide +kernel
theorem d_jdk_42_method_152_code_7 : decode jdk_42_method_152_code 7 = .ok (.getfield 15, 3) := by decide +kernel
theorem d_jdk_42_method_152_code_10 : decode jdk_42_method_152_code 10 = .ok (.goto 4, 3) := by decide +kernel
theorem d_jdk_42_method_152_code_14 : decode jdk_42_method_152_code 14 = .ok (.ireturn, 1) := by decide +kernel
set_option maxRecDepth 65536 in
set_option maxHeartbeats 40000000 in
theorem ct_coder (l : Launch) (Z : State) (a0 : Array Value) (hw : ∀ d ∈ tables_1, d.before a0 Z = true) (n0 : Nat) (h0 : Heap) (a1 : Addr) (cs : Int32) (S_cs : Sta Z h0 "java/lang/String" "COMPACT_STRINGS" "Z" (.int cs)) (hcs : ¬ cs = 0) (FC : Fld Z h0 a1 "java/lang/String" "coder" "B" (.int (0 : Int32))) :
    Ct l Z (⟨"java/lang/String", "coder", "()B"⟩ : MethodName) jdk_42_method_152_code 1 (some .byte) ({ frames := 0, cells := 0, slots := 0, locals := 0 } : Room) EL1 n0 true [] #[(.ref a1)] h0 [] (fun v h N => h0 = h ∧ v = some (.int 0)) := by
  refine Ct.of (a0 := a0) (plainFor_of_name pn_java_lang_String) (own_ew hw) (L0 := #[.val (.ref a1)]) (fun m => by first | (simp [entryFrame, mkF, argsToLocals, Value.category]; done) | rfl) ?_
  refine Go.getS (pc' := 3) (host := "") (a1 := a0) d_jdk_42_method_152_code_0 (Or.inl (hw _ (List.mem_of_getElem? (i := 38) rfl))) Via.refl S_cs rfl ?_
  refine Go.ifF (pc' := 6) d_jdk_42_method_152_code_3 (hcs) rfl ?_
  refine Go.aloadN (pc' := 7) d_jdk_42_method_152_code_6 rfl rfl rfl ?_
  refine Go.getF (pc' := 10) (host := "") (a1 := a0) d_jdk_42_method_152_code_7 (Or.inl (hw _ (List.mem_of_getElem? (i := 28) rfl))) Via.refl FC rfl ?_
  refine Go.goto (pc' := 14) d_jdk_42_method_152_code_10 (by decide) (by decide) ?_
  refine Go.retN (t := .byte) (0 : Int32) rfl (by simp) rfl [] (fun _ q => nomatch q) d_jdk_42_method_152_code_14 (by decide) (by decide) ?_
  exact ⟨rfl, rfl⟩
theorem d_jdk_42_method_154_code_0 : decode jdk_42_method_154_code 0 = .ok (.getstatic 38, 3) := by decide +kernel
theorem d_jdk_42_method_154_code_3 : decode jdk_42_method_154_code 3 = .ok (.ifCond .eq 14, 3) := by decide +kernel
theorem d_jdk_42_method_154_code_6 : decode jdk_42_method_154_code 6 = .ok (.aload_n 0, 1) := by decide +kernel
theorem d_jdk_42_method_154_code_7 : decode jdk_42_method_154_code 7 = .ok (.getfield 15, 3) := by decide +kernel
theorem d_jdk_42_method_154_code_10 : decode jdk_42_method_154_code 10 = .ok (.ifCond .ne 7, 3) := by decide +kernel
theorem d_jdk_42_method_154_code_13 : decode jdk_42_method_154_code 13 = .ok (.iconst 1, 1) := by decide +kernel
theorem d_jdk_42_method_154_code_14 : decode jdk_42_method_154_code 14 = .ok (.goto 4, 3) := by decide +kernel
theorem d_jdk_42_method_154_code_18 : decode jdk_42_method_154_code 18 = .ok (.ireturn, 1) := by decide +kernel
set_option maxRecDepth 65536 in
set_option maxHeartbeats 40000000 in
theorem ct_isLatin1 (l : Launch) (Z : State) (a0 : Array Value) (hw : ∀ d ∈ tables_1, d.before a0 Z = true) (n0 : Nat) (h0 : Heap) (a1 : Addr) (cs : Int32) (S_cs : Sta Z h0 "java/lang/String" "COMPACT_STRINGS" "Z" (.int cs)) (hcs : ¬ cs = 0) (FC : Fld Z h0 a1 "java/lang/String" "coder" "B" (.int (0 : Int32))) :
    Ct l Z (⟨"java/lang/String", "isLatin1", "()Z"⟩ : MethodName) jdk_42_method_154_code 1 (some .boolean) ({ frames := 0, cells := 0, slots := 0, locals := 0 } : Room) EL1 n0 true [] #[(.ref a1)] h0 [] (fun v h N => h0 = h ∧ v = some (.int 1)) := by
  refine Ct.of (a0 := a0) (plainFor_of_name pn_java_lang_String) (own_ew hw) (L0 := #[.val (.ref a1)]) (fun m => by first | (simp [entryFrame, mkF, argsToLocals, Value.category]; done) | rfl) ?_
  refine Go.getS (pc' := 3) (host := "") (a1 := a0) d_jdk_42_method_154_code_0 (Or.inl (hw _ (List.mem_of_getElem? (i := 38) rfl))) Via.refl S_cs rfl ?_
  refine Go.ifF (pc' := 6) d_jdk_42_method_154_code_3 (hcs) rfl ?_
  refine Go.aloadN (pc' := 7) d_jdk_42_method_154_code_6 rfl rfl rfl ?_
  refine Go.getF (pc' := 10) (host := "") (a1 := a0) d_jdk_42_method_154_code_7 (Or.inl (hw _ (List.mem_of_getElem? (i := 28) rfl))) Via.refl FC rfl ?_
  refine Go.ifF (pc' := 13) d_jdk_42_method_154_code_10 (show (0 : Int32) = (0 : Int32) by decide) rfl ?_
  refine Go.iconst (pc' := 14) 1 d_jdk_42_method_154_code_13 rfl rfl ?_
  refine Go.goto (pc' := 18) d_jdk_42_method_154_code_14 (by decide) (by decide) ?_
  refine Go.retN (t := .boolean) (1 : Int32) rfl (by simp) rfl [] (fun _ q => nomatch q) d_jdk_42_method_154_code_18 (by decide) (by decide) ?_
  exact ⟨rfl, rfl⟩
set_option maxRecDepth 65536 in
set_option maxHeartbeats 40000000 in
theorem ct_coderU (l : Launch) (Z : State) (a0 : Array Value) (hw : ∀ d ∈ tables_1, d.before a0 Z = true) (n0 : Nat) (h0 : Heap) (a1 : Addr) (cs : Int32) (S_cs : Sta Z h0 "java/lang/String" "COMPACT_STRINGS" "Z" (.int cs)) (hcs : ¬ cs = 0) (FC : Fld Z h0 a1 "java/lang/String" "coder" "B" (.int (1 : Int32))) :
    Ct l Z (⟨"java/lang/String", "coder", "()B"⟩ : MethodName) jdk_42_method_152_code 1 (some .byte) ({ frames := 0, cells := 0, slots := 0, locals := 0 } : Room) EL1 n0 true [] #[(.ref a1)] h0 [] (fun v h N => h0 = h ∧ v = some (.int 1)) := by
  refine Ct.of (a0 := a0) (plainFor_of_name pn_java_lang_String) (own_ew hw) (L0 := #[.val (.ref a1)]) (fun m => by first | (simp [entryFrame, mkF, argsToLocals, Value.category]; done) | rfl) ?_
  refine Go.getS (pc' := 3) (host := "") (a1 := a0) d_jdk_42_method_152_code_0 (Or.inl (hw _ (List.mem_of_getElem? (i := 38) rfl))) Via.refl S_cs rfl ?_
  refine Go.ifF (pc' := 6) d_jdk_42_method_152_code_3 (hcs) rfl ?_
  refine Go.aloadN (pc' := 7) d_jdk_42_method_152_code_6 rfl rfl rfl ?_
  refine Go.getF (pc' := 10) (host := "") (a1 := a0) d_jdk_42_method_152_code_7 (Or.inl (hw _ (List.mem_of_getElem? (i := 28) rfl))) Via.refl FC rfl ?_
  refine Go.goto (pc' := 14) d_jdk_42_method_152_code_10 (by decide) (by decide) ?_
  refine Go.retN (t := .byte) (1 : Int32) rfl (by simp) rfl [] (fun _ q => nomatch q) d_jdk_42_method_152_code_14 (by decide) (by decide) ?_
  exact ⟨rfl, rfl⟩
theorem d_jdk_42_method_154_code_17 : decode jdk_42_method_154_code 17 = .ok (.iconst 0, 1) := by decide +kernel
set_option maxRecDepth 65536 in
set_option maxHeartbeats 40000000 in
theorem ct_isLatin1U (l : Launch) (Z : State) (a0 : Array Value) (hw : ∀ d ∈ tables_1, d.before a0 Z = true) (n0 : Nat) (h0 : Heap) (a1 : Addr) (cs : Int32) (S_cs : Sta Z h0 "java/lang/String" "COMPACT_STRINGS" "Z" (.int cs)) (hcs : ¬ cs = 0) (FC : Fld Z h0 a1 "java/lang/String" "coder" "B" (.int (1 : Int32))) :
    Ct l Z (⟨"java/lang/String", "isLatin1", "()Z"⟩ : MethodName) jdk_42_method_154_code 1 (some .boolean) ({ frames := 0, cells := 0, slots := 0, locals := 0 } : Room) EL1 n0 true [] #[(.ref a1)] h0 [] (fun v h N => h0 = h ∧ v = some (.int 0)) := by
  refine Ct.of (a0 := a0) (plainFor_of_name pn_java_lang_String) (own_ew hw) (L0 := #[.val (.ref a1)]) (fun m => by first | (simp [entryFrame, mkF, argsToLocals, Value.category]; done) | rfl) ?_
  refine Go.getS (pc' := 3) (host := "") (a1 := a0) d_jdk_42_method_154_code_0 (Or.inl (hw _ (List.mem_of_getElem? (i := 38) rfl))) Via.refl S_cs rfl ?_
  refine Go.ifF (pc' := 6) d_jdk_42_method_154_code_3 (hcs) rfl ?_
  refine Go.aloadN (pc' := 7) d_jdk_42_method_154_code_6 rfl rfl rfl ?_
  refine Go.getF (pc' := 10) (host := "") (a1 := a0) d_jdk_42_method_154_code_7 (Or.inl (hw _ (List.mem_of_getElem? (i := 28) rfl))) Via.refl FC rfl ?_
  refine Go.ifT (pc' := 17) d_jdk_42_method_154_code_10 (show ¬ ((1 : Int32) = (0 : Int32)) by decide) (by decide) (by decide) ?_
  refine Go.iconst (pc' := 18) 0 d_jdk_42_method_154_code_17 rfl rfl ?_
  refine Go.retN (t := .boolean) (0 : Int32) rfl (by simp) rfl [] (fun _ q => nomatch q) d_jdk_42_method_154_code_18 (by decide) (by decide) ?_
  exact ⟨rfl, rfl⟩
theorem d_jdk_42_method_54_code_0 : decode jdk_42_method_54_code 0 = .ok (.aload_n 0, 1) := by decide +kernel
theorem d_jdk_42_method_54_code_1 : decode jdk_42_method_54_code 1 = .ok (.getfield 9, 3) := by decide +kernel
theorem d_jdk_42_method_54_code_4 : decode jdk_42_method_54_code 4 = .ok (.arraylength, 1) := by decide +kernel
theorem d_jdk_42_method_54_code_5 : decode jdk_42_method_54_code 5 = .ok (.aload_n 0, 1) := by decide +kernel
theorem pd__28_29B : parseMethodDescriptor "()B" = some ⟨[], (some .byte)⟩ := by decide +kernel
theorem d_jdk_42_method_54_code_6 : decode jdk_42_method_54_code 6 = .ok (.invokevirtual 335, 3) := by decide +kernel
theorem d_jdk_42_method_54_code_9 : decode jdk_42_method_54_code 9 = .ok (.ishr, 1) := by decide +kernel
theorem d_jdk_42_method_54_code_10 : decode jdk_42_method_54_code 10 = .ok (.ireturn, 1) := by decide +kernel
set_option maxRecDepth 65536 in
set_option maxHeartbeats 40000000 in
theorem ct_lengthL (l : Launch) (Z : State) (a0 : Array Value) (hw : ∀ d ∈ tables_1, d.before a0 Z = true) (n0 : Nat) (h0 : Heap) (a1 b : Addr) (k : ClassId) (m : Nat) (vs : List Value) (hm : m < 2 ^ 18) (cs : Int32) (S_cs : Sta Z h0 "java/lang/String" "COMPACT_STRINGS" "Z" (.int cs)) (hcs : ¬ cs = 0) (E : Exa Z h0 a1 "java/lang/String") (FC : Fld Z h0 a1 "java/lang/String" "coder" "B" (.int (0 : Int32))) (FV : Fld Z h0 a1 "java/lang/String" "value" "[B" (.ref b)) (AV : Arv Z h0 b k .byte (Int32.ofNat m) vs (.int 0)) :
    Ct l Z (⟨"java/lang/String", "length", "()I"⟩ : MethodName) jdk_42_method_54_code 1 (some .int) ({ frames := 1, cells := 0, slots := 0, locals := 13 } : Room) EL1 n0 true [] #[(.ref a1)] h0 [] (fun v h N => h0 = h ∧ v = some (.int (Int32.ofNat m))) := by
  refine Ct.of (a0 := a0) (plainFor_of_name pn_java_lang_String) (own_ew hw) (L0 := #[.val (.ref a1)]) (fun m => by first | (simp [entryFrame, mkF, argsToLocals, Value.category]; done) | rfl) ?_
  have l0_E := nlt E.lt
  have l0_AV := nlt AV.lt
  refine Go.aloadN (pc' := 1) d_jdk_42_method_54_code_0 rfl rfl rfl ?_
  refine Go.getF (pc' := 4) (host := "") (a1 := a0) d_jdk_42_method_54_code_1 (Or.inl (hw _ (List.mem_of_getElem? (i := 27) rfl))) Via.refl FV rfl ?_
  refine Go.alenV (pc' := 5) d_jdk_42_method_54_code_4 AV rfl ?_
  refine Go.aloadN (pc' := 6) d_jdk_42_method_54_code_5 rfl rfl rfl ?_
  refine Go.callV (a1 := a0) (pc' := 9) (argsL := []) (rest := [(.int (Int32.ofNat m))]) (ct_coder l Z a0 hw n0 h0 a1 cs S_cs hcs FC) d_jdk_42_method_54_code_6 (hw _ (List.mem_of_getElem? (i := 57) rfl)) (hw _ (List.mem_of_getElem? (i := 58) rfl)) (hw _ (List.mem_of_getElem? (i := 60) rfl)) (hw _ (List.mem_of_getElem? (i := 60) rfl)) (hw _ (List.mem_of_getElem? (i := 59) rfl)) (hw _ (List.mem_of_getElem? (i := 10) rfl)) (hw _ (List.mem_of_getElem? (i := 61) rfl)) E (by decide) (lenOf pd__28_29B rfl) rfl 1 rfl rfl (by decide) (by decide) (by decide) (by decide) (fun _ q => nomatch q) rfl (fun v_1 h_2 N_3 hQ_4 hle_5 => ?_)
  obtain ⟨rfl, rfl⟩ := hQ_4
  refine Go.re (pc' := 9) (L' := #[.val (.ref a1)]) (S' := [(.int (0 : Int32)), (.int (Int32.ofNat m))]) rfl rfl rfl ?_
  refine Go.ishr (pc' := 10) d_jdk_42_method_54_code_9 rfl ?_
  refine Go.re (pc' := 10) (L' := #[.val (.ref a1)]) (S' := [.int (Int32.ofNat m)]) rfl rfl (by rw [shr0]) ?_
  refine Go.retI rfl [] (fun _ q => nomatch q) d_jdk_42_method_54_code_10 (by decide) (by decide) ?_
  exact ⟨rfl, rfl⟩
set_option maxRecDepth 65536 in
set_option maxHeartbeats 40000000 in
theorem ct_lengthU (l : Launch) (Z : State) (a0 : Array Value) (hw : ∀ d ∈ tables_1, d.before a0 Z = true) (n0 : Nat) (h0 : Heap) (a1 b : Addr) (k : ClassId) (m : Nat) (vs : List Value) (hm : m < 2 ^ 18) (cs : Int32) (S_cs : Sta Z h0 "java/lang/String" "COMPACT_STRINGS" "Z" (.int cs)) (hcs : ¬ cs = 0) (E : Exa Z h0 a1 "java/lang/String") (FC : Fld Z h0 a1 "java/lang/String" "coder" "B" (.int (1 : Int32))) (FV : Fld Z h0 a1 "java/lang/String" "value" "[B" (.ref b)) (AV : Arv Z h0 b k .byte (Int32.ofNat (2 * m)) vs (.int 0)) :
    Ct l Z (⟨"java/lang/String", "length", "()I"⟩ : MethodName) jdk_42_method_54_code 1 (some .int) ({ frames := 1, cells := 0, slots := 0, locals := 13 } : Room) EL1 n0 true [] #[(.ref a1)] h0 [] (fun v h N => h0 = h ∧ v = some (.int (Int32.ofNat m))) := by
  refine Ct.of (a0 := a0) (plainFor_of_name pn_java_lang_String) (own_ew hw) (L0 := #[.val (.ref a1)]) (fun m => by first | (simp [entryFrame, mkF, argsToLocals, Value.category]; done) | rfl) ?_
  have l0_E := nlt E.lt
  have l0_AV := nlt AV.lt
  refine Go.aloadN (pc' := 1) d_jdk_42_method_54_code_0 rfl rfl rfl ?_
  refine Go.getF (pc' := 4) (host := "") (a1 := a0) d_jdk_42_method_54_code_1 (Or.inl (hw _ (List.mem_of_getElem? (i := 27) rfl))) Via.refl FV rfl ?_
  refine Go.alenV (pc' := 5) d_jdk_42_method_54_code_4 AV rfl ?_
  refine Go.aloadN (pc' := 6) d_jdk_42_method_54_code_5 rfl rfl rfl ?_
  refine Go.callV (a1 := a0) (pc' := 9) (argsL := []) (rest := [(.int (Int32.ofNat (2 * m)))]) (ct_coderU l Z a0 hw n0 h0 a1 cs S_cs hcs FC) d_jdk_42_method_54_code_6 (hw _ (List.mem_of_getElem? (i := 57) rfl)) (hw _ (List.mem_of_getElem? (i := 58) rfl)) (hw _ (List.mem_of_getElem? (i := 60) rfl)) (hw _ (List.mem_of_getElem? (i := 60) rfl)) (hw _ (List.mem_of_getElem? (i := 59) rfl)) (hw _ (List.mem_of_getElem? (i := 10) rfl)) (hw _ (List.mem_of_getElem? (i := 61) rfl)) E (by decide) (lenOf pd__28_29B rfl) rfl 1 rfl rfl (by decide) (by decide) (by decide) (by decide) (fun _ q => nomatch q) rfl (fun v_1 h_2 N_3 hQ_4 hle_5 => ?_)
  obtain ⟨rfl, rfl⟩ := hQ_4
  refine Go.re (pc' := 9) (L' := #[.val (.ref a1)]) (S' := [(.int (1 : Int32)), (.int (Int32.ofNat (2 * m)))]) rfl rfl rfl ?_
  refine Go.ishr (pc' := 10) d_jdk_42_method_54_code_9 rfl ?_
  refine Go.re (pc' := 10) (L' := #[.val (.ref a1)]) (S' := [.int (Int32.ofNat m)]) rfl rfl (by rw [shr1 (by omega)]) ?_
  refine Go.retI rfl [] (fun _ q => nomatch q) d_jdk_42_method_54_code_10 (by decide) (by decide) ?_
  exact ⟨rfl, rfl⟩
theorem ct_lengthX (l : Launch) (Z : State) (a0 : Array Value) (hw : ∀ d ∈ tables_1, d.before a0 Z = true) (n0 : Nat) (h0 : Heap) (a1 : Addr) (cs : List Int32) (hl : cs.length < 2 ^ 18) (S : Sx Z h0 a1 cs) (cs_ : Int32) (S_cs : Sta Z h0 "java/lang/String" "COMPACT_STRINGS" "Z" (.int cs_)) (hcs : ¬ cs_ = 0) :
    Ct l Z (⟨"java/lang/String", "length", "()I"⟩ : MethodName) jdk_42_method_54_code 1 (some .int) ({ frames := 1, cells := 0, slots := 0, locals := 13 } : Room) EL1 n0 true [] #[(.ref a1)] h0 [] (fun v h N => h0 = h ∧ v = some (.int (Int32.ofNat cs.length))) := by
  obtain ⟨x, b, k, v, q⟩ := S
  rcases q with ⟨c, r, z⟩ | ⟨c, r⟩
  · exact ct_lengthL l Z a0 hw n0 h0 a1 b k _ _ hl cs_ S_cs hcs x c v r
  · exact ct_lengthU l Z a0 hw n0 h0 a1 b k _ _ hl cs_ S_cs hcs x c v r
theorem d_jdk_52_method_6_code_0 : decode jdk_52_method_6_code 0 = .ok (.aload_n 0, 1) := by decide +kernel
theorem d_jdk_52_method_6_code_1 : decode jdk_52_method_6_code 1 = .ok (.arraylength, 1) := by decide +kernel
theorem d_jdk_52_method_6_code_2 : decode jdk_52_method_6_code 2 = .ok (.iconst 1, 1) := by decide +kernel
theorem d_jdk_52_method_6_code_3 : decode jdk_52_method_6_code 3 = .ok (.ishr, 1) := by decide +kernel
theorem d_jdk_52_method_6_code_4 : decode jdk_52_method_6_code 4 = .ok (.ireturn, 1) := by decide +kernel
set_option maxRecDepth 65536 in
set_option maxHeartbeats 40000000 in
theorem ct_ulen (l : Launch) (Z : State) (a0 : Array Value) (hw : ∀ d ∈ tables_1, d.before a0 Z = true) (n0 : Nat) (h0 : Heap) (b : Addr) (k : ClassId) (m : Nat) (ll : List Int32) (AV : Arv Z h0 b k .byte (Int32.ofNat (2 * m)) (ll.map Value.int) (.int 0)) (hm : m < 2 ^ 18) :
    Ct l Z (⟨"java/lang/StringUTF16", "length", "([B)I"⟩ : MethodName) jdk_52_method_6_code 1 (some .int) ({ frames := 0, cells := 0, slots := 0, locals := 0 } : Room) EL1 n0 true [] #[(.ref b)] h0 [] (fun v h N => h0 = h ∧ v = some (.int (Int32.ofNat m))) := by
  refine Ct.of (a0 := a0) (plainFor_of_name pn_java_lang_StringUTF16) (own_ew hw) (L0 := #[.val (.ref b)]) (fun m => by first | (simp [entryFrame, mkF, argsToLocals, Value.category]; done) | rfl) ?_
  have l0_AV := nlt AV.lt
  refine Go.aloadN (pc' := 1) d_jdk_52_method_6_code_0 rfl rfl rfl ?_
  refine Go.alenV (pc' := 2) d_jdk_52_method_6_code_1 AV rfl ?_
  refine Go.iconst (pc' := 3) 1 d_jdk_52_method_6_code_2 rfl rfl ?_
  refine Go.ishr (pc' := 4) d_jdk_52_method_6_code_3 rfl ?_
  refine Go.re (pc' := 4) (L' := #[.val (.ref b)]) (S' := [.int (Int32.ofNat m)]) rfl rfl (by rw [shr1 (by omega)]) ?_
  refine Go.retI rfl [] (fun _ q => nomatch q) d_jdk_52_method_6_code_4 (by decide) (by decide) ?_
  exact ⟨rfl, rfl⟩
theorem d_jdk_52_method_91_code_0 : decode jdk_52_method_91_code 0 = .ok (.iload_n 0, 1) := by decide +kernel
theorem d_jdk_52_method_91_code_1 : decode jdk_52_method_91_code 1 = .ok (.aload_n 1, 1) := by decide +kernel
theorem pd__28_5bB_29I : parseMethodDescriptor "([B)I" = some ⟨[(.array .byte)], (some .int)⟩ := by decide +kernel
theorem d_jdk_52_method_91_code_2 : decode jdk_52_method_91_code 2 = .ok (.invokestatic 48, 3) := by decide +kernel
theorem pd__28II_29V : parseMethodDescriptor "(II)V" = some ⟨[.int, .int], none⟩ := by decide +kernel
theorem d_jdk_52_method_91_code_5 : decode jdk_52_method_91_code 5 = .ok (.invokestatic 414, 3) := by decide +kernel
theorem d_jdk_52_method_91_code_8 : decode jdk_52_method_91_code 8 = .ok (.return_, 1) := by decide +kernel
set_option maxRecDepth 65536 in
set_option maxHeartbeats 40000000 in
theorem ct_uchk (l : Launch) (Z : State) (a0 : Array Value) (hw : ∀ d ∈ tables_1, d.before a0 Z = true) (n0 : Nat) (h0 : Heap) (b : Addr) (k : ClassId) (m i : Nat) (ll : List Int32) (AV : Arv Z h0 b k .byte (Int32.ofNat (2 * m)) (ll.map Value.int) (.int 0)) (hm : m < 2 ^ 18) (hi : i < m) (sf : Value) (hsf : sf.isRef = true) (S_sf : Sta Z h0 "jdk/internal/util/Preconditions" "SIOOBE_FORMATTER" "Ljava/util/function/BiFunction;" sf) :
    Ct l Z (⟨"java/lang/StringUTF16", "checkIndex", "(I[B)V"⟩ : MethodName) jdk_52_method_91_code 2 none ({ frames := 2, cells := 0, slots := 0, locals := 27 } : Room) EL1 n0 true [] #[(.int (Int32.ofNat i)), (.ref b)] h0 [] (fun v h N => h0 = h ∧ v = none) := by
  refine Ct.of (a0 := a0) (plainFor_of_name pn_java_lang_StringUTF16) (own_ew hw) (L0 := #[.val (.int (Int32.ofNat i)), .val (.ref b)]) (fun m => by first | (simp [entryFrame, mkF, argsToLocals, Value.category]; done) | rfl) ?_
  have l0_AV := nlt AV.lt
  refine Go.iloadN (pc' := 1) d_jdk_52_method_91_code_0 rfl rfl ?_
  refine Go.aloadN (pc' := 2) d_jdk_52_method_91_code_1 rfl rfl rfl ?_
  refine Go.callS (a1 := a0) (pc' := 5) (argsL := [(.ref b)]) (rest := [(.int (Int32.ofNat i))]) (ct_ulen l Z a0 hw n0 h0 b k m ll AV hm) d_jdk_52_method_91_code_2 (hw _ (List.mem_of_getElem? (i := 137) rfl)) (hw _ (List.mem_of_getElem? (i := 138) rfl)) (hw _ (List.mem_of_getElem? (i := 41) rfl)) (hw _ (List.mem_of_getElem? (i := 139) rfl)) (by decide) (lenOf pd__28_5bB_29I rfl) rfl 1 rfl rfl (by decide) (by decide) (by decide) (by decide) (fun _ q => nomatch q) rfl (fun v_1 h_2 N_3 hQ_4 hle_5 => ?_)
  obtain ⟨rfl, rfl⟩ := hQ_4
  refine Go.re (pc' := 5) (L' := #[.val (.int (Int32.ofNat i)), .val (.ref b)]) (S' := [(.int (Int32.ofNat m)), (.int (Int32.ofNat i))]) rfl rfl rfl ?_
  refine Go.callS (a1 := a0) (pc' := 8) (argsL := [(.int (Int32.ofNat i)), (.int (Int32.ofNat m))]) (rest := []) (ct_schk l Z a0 hw n0 h0 (Int32.ofNat i) (Int32.ofNat m) sf hsf S_sf (ofN_nn (by omega)) ((ofN_lt (by omega) (by omega)).mpr (by omega))) d_jdk_52_method_91_code_5 (hw _ (List.mem_of_getElem? (i := 140) rfl)) (hw _ (List.mem_of_getElem? (i := 77) rfl)) (hw _ (List.mem_of_getElem? (i := 10) rfl)) (hw _ (List.mem_of_getElem? (i := 78) rfl)) (by decide) (lenOf pd__28II_29V rfl) rfl 0 rfl rfl (by decide) (by decide) (by decide) (by decide) (fun _ q => nomatch q) rfl (fun v_6 h_7 N_8 hQ_9 hle_10 => ?_)
  obtain ⟨rfl, rfl⟩ := hQ_9
  refine Go.re (pc' := 8) (L' := #[.val (.int (Int32.ofNat i)), .val (.ref b)]) (S' := []) rfl rfl rfl ?_
  refine Go.ret0 rfl [] (fun _ q => nomatch q) d_jdk_52_method_91_code_8 (by decide) (by decide) ?_
  exact ⟨rfl, rfl⟩
theorem d_jdk_52_method_83_code_0 : decode jdk_52_method_83_code 0 = .ok (.iload_n 1, 1) := by decide +kernel
theorem d_jdk_52_method_83_code_1 : decode jdk_52_method_83_code 1 = .ok (.aload_n 0, 1) := by decide +kernel
theorem pd__28I_5bB_29V : parseMethodDescriptor "(I[B)V" = some ⟨[.int, (.array .byte)], none⟩ := by decide +kernel
theorem d_jdk_52_method_83_code_2 : decode jdk_52_method_83_code 2 = .ok (.invokestatic 67, 3) := by decide +kernel
theorem d_jdk_52_method_83_code_5 : decode jdk_52_method_83_code 5 = .ok (.aload_n 0, 1) := by decide +kernel
theorem d_jdk_52_method_83_code_6 : decode jdk_52_method_83_code 6 = .ok (.iload_n 1, 1) := by decide +kernel
theorem d_jdk_52_method_83_code_7 : decode jdk_52_method_83_code 7 = .ok (.invokestatic 71, 3) := by decide +kernel
theorem d_jdk_52_method_83_code_10 : decode jdk_52_method_83_code 10 = .ok (.ireturn, 1) := by decide +kernel
set_option maxRecDepth 65536 in
set_option maxHeartbeats 40000000 in
theorem ct_uchar (l : Launch) (Z : State) (a0 : Array Value) (hw : ∀ d ∈ tables_1, d.before a0 Z = true) (n0 : Nat) (h0 : Heap) (b : Addr) (k : ClassId) (m i : Nat) (ll : List Int32) (AV : Arv Z h0 b k .byte (Int32.ofNat (2 * m)) (ll.map Value.int) (.int 0)) (hm : m < 2 ^ 18) (hi : i < m) (sf : Value) (hsf : sf.isRef = true) (S_sf : Sta Z h0 "jdk/internal/util/Preconditions" "SIOOBE_FORMATTER" "Ljava/util/function/BiFunction;" sf) (S_ad : Sta Z h0 "java/lang/StringUTF16" "$assertionsDisabled" "Z" (.int (1 : Int32))) (S_hi : Sta Z h0 "java/lang/StringUTF16" "HI_BYTE_SHIFT" "I" (.int (0 : Int32))) (S_lo : Sta Z h0 "java/lang/StringUTF16" "LO_BYTE_SHIFT" "I" (.int (8 : Int32))) :
    Ct l Z (⟨"java/lang/StringUTF16", "charAt", "([BI)C"⟩ : MethodName) jdk_52_method_83_code 2 (some .char) ({ frames := 3, cells := 0, slots := 0, locals := 40 } : Room) EL1 n0 true [] #[(.ref b), (.int (Int32.ofNat i))] h0 [] (fun v h N => h0 = h ∧ v = some (.int (nar .char ((((ll.getD (2 * i) 0) &&& (255 : Int32)) <<< ((0 : Int32) &&& 31)) ||| (((ll.getD (2 * i + 1) 0) &&& (255 : Int32)) <<< ((8 : Int32) &&& 31)))))) := by
  refine Ct.of (a0 := a0) (plainFor_of_name pn_java_lang_StringUTF16) (own_ew hw) (L0 := #[.val (.ref b), .val (.int (Int32.ofNat i))]) (fun m => by first | (simp [entryFrame, mkF, argsToLocals, Value.category]; done) | rfl) ?_
  have l0_AV := nlt AV.lt
  refine Go.iloadN (pc' := 1) d_jdk_52_method_83_code_0 rfl rfl ?_
  refine Go.aloadN (pc' := 2) d_jdk_52_method_83_code_1 rfl rfl rfl ?_
  refine Go.callS (a1 := a0) (pc' := 5) (argsL := [(.int (Int32.ofNat i)), (.ref b)]) (rest := []) (ct_uchk l Z a0 hw n0 h0 b k m i ll AV hm hi sf hsf S_sf) d_jdk_52_method_83_code_2 (hw _ (List.mem_of_getElem? (i := 134) rfl)) (hw _ (List.mem_of_getElem? (i := 135) rfl)) (hw _ (List.mem_of_getElem? (i := 41) rfl)) (hw _ (List.mem_of_getElem? (i := 136) rfl)) (by decide) (lenOf pd__28I_5bB_29V rfl) rfl 0 rfl rfl (by decide) (by decide) (by decide) (by decide) (fun _ q => nomatch q) rfl (fun v_1 h_2 N_3 hQ_4 hle_5 => ?_)
  obtain ⟨rfl, rfl⟩ := hQ_4
  refine Go.re (pc' := 5) (L' := #[.val (.ref b), .val (.int (Int32.ofNat i))]) (S' := []) rfl rfl rfl ?_
  refine Go.aloadN (pc' := 6) d_jdk_52_method_83_code_5 rfl rfl rfl ?_
  refine Go.iloadN (pc' := 7) d_jdk_52_method_83_code_6 rfl rfl ?_
  refine Go.callS (a1 := a0) (pc' := 10) (argsL := [(.ref b), (.int (Int32.ofNat i))]) (rest := []) (ct_get l Z a0 hw n0 h0 b k (2 * m) i ll AV (by omega) (by omega) S_ad S_hi S_lo) d_jdk_52_method_83_code_7 (hw _ (List.mem_of_getElem? (i := 128) rfl)) (hw _ (List.mem_of_getElem? (i := 129) rfl)) (hw _ (List.mem_of_getElem? (i := 41) rfl)) (hw _ (List.mem_of_getElem? (i := 130) rfl)) (by decide) (lenOf pd__28_5bBI_29C rfl) rfl 0 rfl rfl (by decide) (by decide) (by decide) (by decide) (fun _ q => nomatch q) rfl (fun v_6 h_7 N_8 hQ_9 hle_10 => ?_)
  obtain ⟨rfl, rfl⟩ := hQ_9
  refine Go.re (pc' := 10) (L' := #[.val (.ref b), .val (.int (Int32.ofNat i))]) (S' := [(.int (nar .char ((((ll.getD (2 * i) 0) &&& (255 : Int32)) <<< ((0 : Int32) &&& 31)) ||| (((ll.getD (2 * i + 1) 0) &&& (255 : Int32)) <<< ((8 : Int32) &&& 31)))))]) rfl rfl rfl ?_
  refine Go.retN (t := .char) (nar .char ((((ll.getD (2 * i) 0) &&& (255 : Int32)) <<< ((0 : Int32) &&& 31)) ||| (((ll.getD (2 * i + 1) 0) &&& (255 : Int32)) <<< ((8 : Int32) &&& 31)))) rfl (by simp) (nar_cc _) [] (fun _ q => nomatch q) d_jdk_52_method_83_code_10 (by decide) (by decide) ?_
  exact ⟨rfl, rfl⟩
theorem pn_java_lang_StringLatin1 : plainName "java/lang/StringLatin1" = true := by first | (simp [plainName, overriddenIn]; done) | decide +kernel
theorem d_jdk_43_method_2_code_0 : decode jdk_43_method_2_code 0 = .ok (.iload_n 1, 1) := by decide +kernel
theorem d_jdk_43_method_2_code_1 : decode jdk_43_method_2_code 1 = .ok (.aload_n 0, 1) := by decide +kernel
theorem d_jdk_43_method_2_code_2 : decode jdk_43_method_2_code 2 = .ok (.arraylength, 1) := by decide +kernel
theorem d_jdk_43_method_2_code_3 : decode jdk_43_method_2_code 3 = .ok (.invokestatic 9, 3) := by decide +kernel
theorem d_jdk_43_method_2_code_6 : decode jdk_43_method_2_code 6 = .ok (.aload_n 0, 1) := by decide +kernel
theorem d_jdk_43_method_2_code_7 : decode jdk_43_method_2_code 7 = .ok (.iload_n 1, 1) := by decide +kernel
theorem d_jdk_43_method_2_code_8 : decode jdk_43_method_2_code 8 = .ok (.baload, 1) := by decide +kernel
theorem d_jdk_43_method_2_code_9 : decode jdk_43_method_2_code 9 = .ok (.sipush 255, 3) := by decide +kernel
theorem d_jdk_43_method_2_code_12 : decode jdk_43_method_2_code 12 = .ok (.iand, 1) := by decide +kernel
theorem d_jdk_43_method_2_code_13 : decode jdk_43_method_2_code 13 = .ok (.i2c, 1) := by decide +kernel
theorem d_jdk_43_method_2_code_14 : decode jdk_43_method_2_code 14 = .ok (.ireturn, 1) := by decide +kernel
set_option maxRecDepth 65536 in
set_option maxHeartbeats 40000000 in
theorem ct_lchar (l : Launch) (Z : State) (a0 : Array Value) (hw : ∀ d ∈ tables_1, d.before a0 Z = true) (n0 : Nat) (h0 : Heap) (b : Addr) (k : ClassId) (m : Nat) (ll : List Int32) (i : Nat) (sf : Value) (hsf : sf.isRef = true) (S_sf : Sta Z h0 "jdk/internal/util/Preconditions" "SIOOBE_FORMATTER" "Ljava/util/function/BiFunction;" sf) (AV : Arv Z h0 b k .byte (Int32.ofNat m) (ll.map Value.int) (.int 0)) (hi : i < m) (hm : m < 2 ^ 31) :
    Ct l Z (⟨"java/lang/StringLatin1", "charAt", "([BI)C"⟩ : MethodName) jdk_43_method_2_code 2 (some .char) ({ frames := 2, cells := 0, slots := 0, locals := 27 } : Room) EL1 n0 true [] #[(.ref b), (.int (Int32.ofNat i))] h0 [] (fun v h N => h0 = h ∧ v = some (.int (nar .char (ll.getD i 0 &&& (255 : Int32))))) := by
  refine Ct.of (a0 := a0) (plainFor_of_name pn_java_lang_StringLatin1) (own_ew hw) (L0 := #[.val (.ref b), .val (.int (Int32.ofNat i))]) (fun m => by first | (simp [entryFrame, mkF, argsToLocals, Value.category]; done) | rfl) ?_
  have l0_AV := nlt AV.lt
  refine Go.iloadN (pc' := 1) d_jdk_43_method_2_code_0 rfl rfl ?_
  refine Go.aloadN (pc' := 2) d_jdk_43_method_2_code_1 rfl rfl rfl ?_
  refine Go.alenV (pc' := 3) d_jdk_43_method_2_code_2 AV rfl ?_
  refine Go.callS (a1 := a0) (pc' := 6) (argsL := [(.int (Int32.ofNat i)), (.int (Int32.ofNat m))]) (rest := []) (ct_schk l Z a0 hw n0 h0 (Int32.ofNat i) (Int32.ofNat m) sf hsf S_sf (ofN_nn (by omega)) ((ofN_lt (by omega) (by omega)).mpr (by omega))) d_jdk_43_method_2_code_3 (hw _ (List.mem_of_getElem? (i := 76) rfl)) (hw _ (List.mem_of_getElem? (i := 77) rfl)) (hw _ (List.mem_of_getElem? (i := 10) rfl)) (hw _ (List.mem_of_getElem? (i := 78) rfl)) (by decide) (lenOf pd__28II_29V rfl) rfl 0 rfl rfl (by decide) (by decide) (by decide) (by decide) (fun _ q => nomatch q) rfl (fun v_1 h_2 N_3 hQ_4 hle_5 => ?_)
  obtain ⟨rfl, rfl⟩ := hQ_4
  refine Go.re (pc' := 6) (L' := #[.val (.ref b), .val (.int (Int32.ofNat i))]) (S' := []) rfl rfl rfl ?_
  refine Go.aloadN (pc' := 7) d_jdk_43_method_2_code_6 rfl rfl rfl ?_
  refine Go.iloadN (pc' := 8) d_jdk_43_method_2_code_7 rfl rfl ?_
  refine Go.baloadV (pc' := 9) (v := .int (ll.getD i 0)) d_jdk_43_method_2_code_8 AV ⟨ofN_nn (by omega), (ofN_lt (by omega) hm).mpr hi⟩ (by rw [ofN_nat (by omega)]; exact getD_int _ _) rfl ?_
  refine Go.sipush (pc' := 12) 255 d_jdk_43_method_2_code_9 rfl rfl ?_
  refine Go.iand (pc' := 13) d_jdk_43_method_2_code_12 rfl ?_
  refine Go.i2c (pc' := 14) d_jdk_43_method_2_code_13 rfl ?_
  refine Go.retN (t := .char) (nar .char ((ll.getD i 0) &&& (255 : Int32))) rfl (by simp) (nar_cc _) [] (fun _ q => nomatch q) d_jdk_43_method_2_code_14 (by decide) (by decide) ?_
  exact ⟨rfl, rfl⟩
theorem d_jdk_42_method_56_code_0 : decode jdk_42_method_56_code 0 = .ok (.aload_n 0, 1) := by decide +kernel
theorem pd__28_29Z : parseMethodDescriptor "()Z" = some ⟨[], (some .boolean)⟩ := by decide +kernel
theorem d_jdk_42_method_56_code_1 : decode jdk_42_method_56_code 1 = .ok (.invokevirtual 492, 3) := by decide +kernel
theorem d_jdk_42_method_56_code_4 : decode jdk_42_method_56_code 4 = .ok (.ifCond .eq 12, 3) := by decide +kernel
theorem d_jdk_42_method_56_code_7 : decode jdk_42_method_56_code 7 = .ok (.aload_n 0, 1) := by decide +kernel
theorem d_jdk_42_method_56_code_8 : decode jdk_42_method_56_code 8 = .ok (.getfield 9, 3) := by decide +kernel
theorem d_jdk_42_method_56_code_11 : decode jdk_42_method_56_code 11 = .ok (.iload_n 1, 1) := by decide +kernel
theorem d_jdk_42_method_56_code_12 : decode jdk_42_method_56_code 12 = .ok (.invokestatic 495, 3) := by decide +kernel
theorem d_jdk_42_method_56_code_15 : decode jdk_42_method_56_code 15 = .ok (.ireturn, 1) := by decide +kernel
set_option maxRecDepth 65536 in
set_option maxHeartbeats 40000000 in
theorem ct_charAt (l : Launch) (Z : State) (a0 : Array Value) (hw : ∀ d ∈ tables_1, d.before a0 Z = true) (n0 : Nat) (h0 : Heap) (a1 b : Addr) (k : ClassId) (m : Nat) (ll : List Int32) (i : Nat) (sf : Value) (hsf : sf.isRef = true) (S_sf : Sta Z h0 "jdk/internal/util/Preconditions" "SIOOBE_FORMATTER" "Ljava/util/function/BiFunction;" sf) (cs : Int32) (S_cs : Sta Z h0 "java/lang/String" "COMPACT_STRINGS" "Z" (.int cs)) (hcs : ¬ cs = 0) (E : Exa Z h0 a1 "java/lang/String") (FC : Fld Z h0 a1 "java/lang/String" "coder" "B" (.int (0 : Int32))) (FV : Fld Z h0 a1 "java/lang/String" "value" "[B" (.ref b)) (AV : Arv Z h0 b k .byte (Int32.ofNat m) (ll.map Value.int) (.int 0)) (hi : i < m) (hm : m < 2 ^ 31) :
    Ct l Z (⟨"java/lang/String", "charAt", "(I)C"⟩ : MethodName) jdk_42_method_56_code 2 (some .char) ({ frames := 4, cells := 0, slots := 0, locals := 53 } : Room) EL1 n0 true [] #[(.ref a1), (.int (Int32.ofNat i))] h0 [] (fun v h N => h0 = h ∧ v = some (.int (nar .char (ll.getD i 0 &&& (255 : Int32))))) := by
  refine Ct.of (a0 := a0) (plainFor_of_name pn_java_lang_String) (own_ew hw) (L0 := #[.val (.ref a1), .val (.int (Int32.ofNat i))]) (fun m => by first | (simp [entryFrame, mkF, argsToLocals, Value.category]; done) | rfl) ?_
  have l0_E := nlt E.lt
  have l0_AV := nlt AV.lt
  refine Go.aloadN (pc' := 1) d_jdk_42_method_56_code_0 rfl rfl rfl ?_
  refine Go.callV (a1 := a0) (pc' := 4) (argsL := []) (rest := []) (ct_isLatin1 l Z a0 hw n0 h0 a1 cs S_cs hcs FC) d_jdk_42_method_56_code_1 (hw _ (List.mem_of_getElem? (i := 67) rfl)) (hw _ (List.mem_of_getElem? (i := 68) rfl)) (hw _ (List.mem_of_getElem? (i := 70) rfl)) (hw _ (List.mem_of_getElem? (i := 70) rfl)) (hw _ (List.mem_of_getElem? (i := 69) rfl)) (hw _ (List.mem_of_getElem? (i := 10) rfl)) (hw _ (List.mem_of_getElem? (i := 71) rfl)) E (by decide) (lenOf pd__28_29Z rfl) rfl 0 rfl rfl (by decide) (by decide) (by decide) (by decide) (fun _ q => nomatch q) rfl (fun v_1 h_2 N_3 hQ_4 hle_5 => ?_)
  obtain ⟨rfl, rfl⟩ := hQ_4
  refine Go.re (pc' := 4) (L' := #[.val (.ref a1), .val (.int (Int32.ofNat i))]) (S' := [(.int (1 : Int32))]) rfl rfl rfl ?_
  refine Go.ifF (pc' := 7) d_jdk_42_method_56_code_4 (show ¬ ((1 : Int32) = (0 : Int32)) by decide) rfl ?_
  refine Go.aloadN (pc' := 8) d_jdk_42_method_56_code_7 rfl rfl rfl ?_
  refine Go.getF (pc' := 11) (host := "") (a1 := a0) d_jdk_42_method_56_code_8 (Or.inl (hw _ (List.mem_of_getElem? (i := 27) rfl))) Via.refl FV rfl ?_
  refine Go.iloadN (pc' := 12) d_jdk_42_method_56_code_11 rfl rfl ?_
  refine Go.callS (a1 := a0) (pc' := 15) (argsL := [(.ref b), (.int (Int32.ofNat i))]) (rest := []) (ct_lchar l Z a0 hw n0 h0 b k m ll i sf hsf S_sf AV hi hm) d_jdk_42_method_56_code_12 (hw _ (List.mem_of_getElem? (i := 72) rfl)) (hw _ (List.mem_of_getElem? (i := 73) rfl)) (hw _ (List.mem_of_getElem? (i := 74) rfl)) (hw _ (List.mem_of_getElem? (i := 75) rfl)) (by decide) (lenOf pd__28_5bBI_29C rfl) rfl 0 rfl rfl (by decide) (by decide) (by decide) (by decide) (fun _ q => nomatch q) rfl (fun v_6 h_7 N_8 hQ_9 hle_10 => ?_)
  obtain ⟨rfl, rfl⟩ := hQ_9
  refine Go.re (pc' := 15) (L' := #[.val (.ref a1), .val (.int (Int32.ofNat i))]) (S' := [(.int (nar .char (ll.getD i 0 &&& (255 : Int32))))]) rfl rfl rfl ?_
  refine Go.retN (t := .char) (nar .char (ll.getD i 0 &&& (255 : Int32))) rfl (by simp) (nar_cc _) [] (fun _ q => nomatch q) d_jdk_42_method_56_code_15 (by decide) (by decide) ?_
  exact ⟨rfl, rfl⟩
theorem d_jdk_42_method_56_code_16 : decode jdk_42_method_56_code 16 = .ok (.aload_n 0, 1) := by decide +kernel
theorem d_jdk_42_method_56_code_17 : decode jdk_42_method_56_code 17 = .ok (.getfield 9, 3) := by decide +kernel
theorem d_jdk_42_method_56_code_20 : decode jdk_42_method_56_code 20 = .ok (.iload_n 1, 1) := by decide +kernel
theorem d_jdk_42_method_56_code_21 : decode jdk_42_method_56_code 21 = .ok (.invokestatic 498, 3) := by decide +kernel
theorem d_jdk_42_method_56_code_24 : decode jdk_42_method_56_code 24 = .ok (.ireturn, 1) := by decide +kernel
set_option maxRecDepth 65536 in
set_option maxHeartbeats 40000000 in
theorem ct_charAtU (l : Launch) (Z : State) (a0 : Array Value) (hw : ∀ d ∈ tables_1, d.before a0 Z = true) (n0 : Nat) (h0 : Heap) (a1 : Addr) (b : Addr) (k : ClassId) (m i : Nat) (ll : List Int32) (AV : Arv Z h0 b k .byte (Int32.ofNat (2 * m)) (ll.map Value.int) (.int 0)) (hm : m < 2 ^ 18) (hi : i < m) (sf : Value) (hsf : sf.isRef = true) (S_sf : Sta Z h0 "jdk/internal/util/Preconditions" "SIOOBE_FORMATTER" "Ljava/util/function/BiFunction;" sf) (cs : Int32) (S_cs : Sta Z h0 "java/lang/String" "COMPACT_STRINGS" "Z" (.int cs)) (hcs : ¬ cs = 0) (S_ad : Sta Z h0 "java/lang/StringUTF16" "$assertionsDisabled" "Z" (.int (1 : Int32))) (S_hi : Sta Z h0 "java/lang/StringUTF16" "HI_BYTE_SHIFT" "I" (.int (0 : Int32))) (S_lo : Sta Z h0 "java/lang/StringUTF16" "LO_BYTE_SHIFT" "I" (.int (8 : Int32))) (E : Exa Z h0 a1 "java/lang/String") (FC : Fld Z h0 a1 "java/lang/String" "coder" "B" (.int (1 : Int32))) (FV : Fld Z h0 a1 "java/lang/String" "value" "[B" (.ref b)) :
    Ct l Z (⟨"java/lang/String", "charAt", "(I)C"⟩ : MethodName) jdk_42_method_56_code 2 (some .char) ({ frames := 4, cells := 0, slots := 0, locals := 53 } : Room) EL1 n0 true [] #[(.ref a1), (.int (Int32.ofNat i))] h0 [] (fun v h N => h0 = h ∧ v = some (.int (nar .char ((((ll.getD (2 * i) 0) &&& (255 : Int32)) <<< ((0 : Int32) &&& 31)) ||| (((ll.getD (2 * i + 1) 0) &&& (255 : Int32)) <<< ((8 : Int32) &&& 31)))))) := by
  refine Ct.of (a0 := a0) (plainFor_of_name pn_java_lang_String) (own_ew hw) (L0 := #[.val (.ref a1), .val (.int (Int32.ofNat i))]) (fun m => by first | (simp [entryFrame, mkF, argsToLocals, Value.category]; done) | rfl) ?_
  have l0_E := nlt E.lt
  have l0_AV := nlt AV.lt
  refine Go.aloadN (pc' := 1) d_jdk_42_method_56_code_0 rfl rfl rfl ?_
  refine Go.callV (a1 := a0) (pc' := 4) (argsL := []) (rest := []) (ct_isLatin1U l Z a0 hw n0 h0 a1 cs S_cs hcs FC) d_jdk_42_method_56_code_1 (hw _ (List.mem_of_getElem? (i := 67) rfl)) (hw _ (List.mem_of_getElem? (i := 68) rfl)) (hw _ (List.mem_of_getElem? (i := 70) rfl)) (hw _ (List.mem_of_getElem? (i := 70) rfl)) (hw _ (List.mem_of_getElem? (i := 69) rfl)) (hw _ (List.mem_of_getElem? (i := 10) rfl)) (hw _ (List.mem_of_getElem? (i := 71) rfl)) E (by decide) (lenOf pd__28_29Z rfl) rfl 0 rfl rfl (by decide) (by decide) (by decide) (by decide) (fun _ q => nomatch q) rfl (fun v_1 h_2 N_3 hQ_4 hle_5 => ?_)
  obtain ⟨rfl, rfl⟩ := hQ_4
  refine Go.re (pc' := 4) (L' := #[.val (.ref a1), .val (.int (Int32.ofNat i))]) (S' := [(.int (0 : Int32))]) rfl rfl rfl ?_
  refine Go.ifT (pc' := 16) d_jdk_42_method_56_code_4 (show (0 : Int32) = (0 : Int32) by decide) (by decide) (by decide) ?_
  refine Go.aloadN (pc' := 17) d_jdk_42_method_56_code_16 rfl rfl rfl ?_
  refine Go.getF (pc' := 20) (host := "") (a1 := a0) d_jdk_42_method_56_code_17 (Or.inl (hw _ (List.mem_of_getElem? (i := 27) rfl))) Via.refl FV rfl ?_
  refine Go.iloadN (pc' := 21) d_jdk_42_method_56_code_20 rfl rfl ?_
  refine Go.callS (a1 := a0) (pc' := 24) (argsL := [(.ref b), (.int (Int32.ofNat i))]) (rest := []) (ct_uchar l Z a0 hw n0 h0 b k m i ll AV hm hi sf hsf S_sf S_ad S_hi S_lo) d_jdk_42_method_56_code_21 (hw _ (List.mem_of_getElem? (i := 131) rfl)) (hw _ (List.mem_of_getElem? (i := 132) rfl)) (hw _ (List.mem_of_getElem? (i := 41) rfl)) (hw _ (List.mem_of_getElem? (i := 133) rfl)) (by decide) (lenOf pd__28_5bBI_29C rfl) rfl 0 rfl rfl (by decide) (by decide) (by decide) (by decide) (fun _ q => nomatch q) rfl (fun v_6 h_7 N_8 hQ_9 hle_10 => ?_)
  obtain ⟨rfl, rfl⟩ := hQ_9
  refine Go.re (pc' := 24) (L' := #[.val (.ref a1), .val (.int (Int32.ofNat i))]) (S' := [(.int (nar .char ((((ll.getD (2 * i) 0) &&& (255 : Int32)) <<< ((0 : Int32) &&& 31)) ||| (((ll.getD (2 * i + 1) 0) &&& (255 : Int32)) <<< ((8 : Int32) &&& 31)))))]) rfl rfl rfl ?_
  refine Go.retN (t := .char) (nar .char ((((ll.getD (2 * i) 0) &&& (255 : Int32)) <<< ((0 : Int32) &&& 31)) ||| (((ll.getD (2 * i + 1) 0) &&& (255 : Int32)) <<< ((8 : Int32) &&& 31)))) rfl (by simp) (nar_cc _) [] (fun _ q => nomatch q) d_jdk_42_method_56_code_24 (by decide) (by decide) ?_
  exact ⟨rfl, rfl⟩
theorem ct_charAtX (l : Launch) (Z : State) (a0 : Array Value) (hw : ∀ d ∈ tables_1, d.before a0 Z = true) (n0 : Nat) (h0 : Heap) (a1 : Addr) (cs : List Int32) (hl : cs.length < 2 ^ 18) (S : Sx Z h0 a1 cs) (hrg : ∀ i, i < cs.length → ¬ cs.getD i 0 < 0 ∧ ¬ 65535 < cs.getD i 0) (i : Nat) (hi : i < cs.length) (sf : Value) (hsf : sf.isRef = true) (S_sf : Sta Z h0 "jdk/internal/util/Preconditions" "SIOOBE_FORMATTER" "Ljava/util/function/BiFunction;" sf) (cs_ : Int32) (S_cs : Sta Z h0 "java/lang/String" "COMPACT_STRINGS" "Z" (.int cs_)) (hcs : ¬ cs_ = 0) (S_ad : Sta Z h0 "java/lang/StringUTF16" "$assertionsDisabled" "Z" (.int (1 : Int32))) (S_hi : Sta Z h0 "java/lang/StringUTF16" "HI_BYTE_SHIFT" "I" (.int (0 : Int32))) (S_lo : Sta Z h0 "java/lang/StringUTF16" "LO_BYTE_SHIFT" "I" (.int (8 : Int32))) :
    Ct l Z (⟨"java/lang/String", "charAt", "(I)C"⟩ : MethodName) jdk_42_method_56_code 2 (some .char) ({ frames := 4, cells := 0, slots := 0, locals := 53 } : Room) EL1 n0 true [] #[(.ref a1), (.int (Int32.ofNat i))] h0 [] (fun v h N => h0 = h ∧ v = some (.int (cs.getD i 0))) := by
  obtain ⟨x, b, k, v, q⟩ := S
  rcases q with ⟨c, r, z⟩ | ⟨c, r⟩
  · refine Ct.post ?_ (ct_charAt l Z a0 hw n0 h0 a1 b k _ _ i sf hsf S_sf cs_ S_cs hcs x c v r hi (by omega))
    rintro v h N ⟨e1, e2⟩
    refine ⟨e1, e2.trans ?_⟩
    rw [map_getD cs i hi, lchar (hrg i hi).1 (z i hi)]
  · refine Ct.post ?_ (ct_charAtU l Z a0 hw n0 h0 a1 b k _ i _ r hl hi sf hsf S_sf cs_ S_cs hcs S_ad S_hi S_lo x c v)
    rintro v h N ⟨e1, e2⟩
    refine ⟨e1, e2.trans ?_⟩
    rw [own_u16_0 cs i hi, own_u16_1 cs i hi]
    exact congrArg (fun z => some (Value.int z)) (gchar (hrg i hi).1 (hrg i hi).2)
def own_an (c : Int32) : Prop := (¬ c < 97 ∧ ¬ 122 < c) ∨ (¬ c < 65 ∧ ¬ 90 < c) ∨ (¬ c < 48 ∧ ¬ 57 < c)
def own_sym (c : Int32) : Prop := c = 33 ∨ c = 35 ∨ c = 36 ∨ c = 37 ∨ c = 38 ∨ c = 39 ∨ c = 42 ∨ c = 43 ∨ c = 45 ∨ c = 46 ∨ c = 94 ∨ c = 95 ∨ c = 96 ∨ c = 124 ∨ c = 126
def own_tc (c : Int32) : Prop := own_an c ∨ own_sym c
theorem own_sym_small {c : Int32} (h : own_sym c) : ¬ 255 < c := by
  unfold own_sym at h
  rcases h with rfl | rfl | rfl | rfl | rfl | rfl | rfl | rfl | rfl | rfl | rfl | rfl | rfl | rfl | rfl <;> decide
theorem d_jdk_43_method_23_code_0 : decode jdk_43_method_23_code 0 = .ok (.iload_n 1, 1) := by decide +kernel
theorem d_jdk_43_method_23_code_1 : decode jdk_43_method_23_code 1 = .ok (.i2b, 1) := by decide +kernel
theorem d_jdk_43_method_23_code_2 : decode jdk_43_method_23_code 2 = .ok (.istore 4, 2) := by decide +kernel
theorem d_jdk_43_method_23_code_4 : decode jdk_43_method_23_code 4 = .ok (.iload_n 2, 1) := by decide +kernel
theorem d_jdk_43_method_23_code_5 : decode jdk_43_method_23_code 5 = .ok (.istore 5, 2) := by decide +kernel
theorem d_jdk_43_method_23_code_7 : decode jdk_43_method_23_code 7 = .ok (.iload 5, 2) := by decide +kernel
theorem d_jdk_43_method_23_code_9 : decode jdk_43_method_23_code 9 = .ok (.iload_n 3, 1) := by decide +kernel
theorem d_jdk_43_method_23_code_10 : decode jdk_43_method_23_code 10 = .ok (.if_icmp .ge 21, 3) := by decide +kernel
theorem d_jdk_43_method_23_code_13 : decode jdk_43_method_23_code 13 = .ok (.aload_n 0, 1) := by decide +kernel
theorem d_jdk_43_method_23_code_14 : decode jdk_43_method_23_code 14 = .ok (.iload 5, 2) := by decide +kernel
theorem d_jdk_43_method_23_code_16 : decode jdk_43_method_23_code 16 = .ok (.baload, 1) := by decide +kernel
theorem d_jdk_43_method_23_code_17 : decode jdk_43_method_23_code 17 = .ok (.iload 4, 2) := by decide +kernel
theorem d_jdk_43_method_23_code_19 : decode jdk_43_method_23_code 19 = .ok (.if_icmp .ne 6, 3) := by decide +kernel
theorem d_jdk_43_method_23_code_25 : decode jdk_43_method_23_code 25 = .ok (.iinc 5 1, 3) := by decide +kernel
theorem d_jdk_43_method_23_code_28 : decode jdk_43_method_23_code 28 = .ok (.goto (-21), 3) := by decide +kernel
theorem d_jdk_43_method_23_code_31 : decode jdk_43_method_23_code 31 = .ok (.iconst (-1), 1) := by decide +kernel
theorem d_jdk_43_method_23_code_32 : decode jdk_43_method_23_code 32 = .ok (.ireturn, 1) := by decide +kernel
theorem d_jdk_43_method_23_code_22 : decode jdk_43_method_23_code 22 = .ok (.iload 5, 2) := by decide +kernel
theorem d_jdk_43_method_23_code_24 : decode jdk_43_method_23_code 24 = .ok (.ireturn, 1) := by decide +kernel
set_option maxRecDepth 65536 in
set_option maxHeartbeats 40000000 in
theorem ct_ioc (l : Launch) (Z : State) (a0 : Array Value) (hw : ∀ d ∈ tables_1, d.before a0 Z = true) (n0 : Nat) (h0 : Heap) (b : Addr) (k : ClassId) (c : Int32) (AV : Arv Z h0 b k .byte (15 : Int32) [(.int (33 : Int32)), (.int (35 : Int32)), (.int (36 : Int32)), (.int (37 : Int32)), (.int (38 : Int32)), (.int (39 : Int32)), (.int (42 : Int32)), (.int (43 : Int32)), (.int (45 : Int32)), (.int (46 : Int32)), (.int (94 : Int32)), (.int (95 : Int32)), (.int (96 : Int32)), (.int (124 : Int32)), (.int (126 : Int32))] (.int 0)) (h0_ : ¬ c < 0) (h1_ : ¬ 255 < c) :
    Ct l Z (⟨"java/lang/StringLatin1", "indexOfChar", "([BIII)I"⟩ : MethodName) jdk_43_method_23_code 6 (some .int) ({ frames := 0, cells := 0, slots := 0, locals := 0 } : Room) EL1 n0 true [] #[(.ref b), (.int c), (.int (0 : Int32)), (.int (15 : Int32))] h0 [] (fun v h N => h0 = h ∧ ((own_sym c ∧ ∃ r, v = some (.int r) ∧ ¬ r < 0) ∨ (¬ own_sym c ∧ v = some (.int (-1 : Int32))))) := by
  refine Ct.of (a0 := a0) (plainFor_of_name pn_java_lang_StringLatin1) (own_ew hw) (L0 := #[.val (.ref b), .val (.int c), .val (.int (0 : Int32)), .val (.int (15 : Int32)), .unset, .unset]) (fun m => by first | (simp [entryFrame, mkF, argsToLocals, Value.category]; done) | rfl) ?_
  have l0_AV := nlt AV.lt
  refine Go.iloadN (pc' := 1) d_jdk_43_method_23_code_0 rfl rfl ?_
  refine Go.i2b (pc' := 2) d_jdk_43_method_23_code_1 rfl ?_
  refine Go.istore (pc' := 4) #[.val (.ref b), .val (.int c), .val (.int (0 : Int32)), .val (.int (15 : Int32)), .val (.int (c).toInt8.toInt32), .unset] d_jdk_43_method_23_code_2 rfl rfl ?_
  refine Go.iloadN (pc' := 5) d_jdk_43_method_23_code_4 rfl rfl ?_
  refine Go.istore (pc' := 7) #[.val (.ref b), .val (.int c), .val (.int (0 : Int32)), .val (.int (15 : Int32)), .val (.int (c).toInt8.toInt32), .val (.int (0 : Int32))] d_jdk_43_method_23_code_5 rfl rfl ?_
  refine Go.iload (pc' := 9) d_jdk_43_method_23_code_7 rfl rfl ?_
  refine Go.iloadN (pc' := 10) d_jdk_43_method_23_code_9 rfl rfl ?_
  refine Go.icmpF (pc' := 13) d_jdk_43_method_23_code_10 (show (0 : Int32) < (15 : Int32) by decide) rfl ?_
  refine Go.aloadN (pc' := 14) d_jdk_43_method_23_code_13 rfl rfl rfl ?_
  refine Go.iload (pc' := 16) d_jdk_43_method_23_code_14 rfl rfl ?_
  refine Go.baloadV (pc' := 17) d_jdk_43_method_23_code_16 AV (by decide) rfl rfl ?_
  refine Go.iload (pc' := 19) d_jdk_43_method_23_code_17 rfl rfl ?_
  refine Go.icmp (pc' := 25) (pc'' := 22) d_jdk_43_method_23_code_19 (by decide) (by decide) rfl (fun hc_1 => ?_) (fun hc_1 => ?_)
  · have hc_1 : ¬ ((33 : Int32) = (c).toInt8.toInt32) := hc_1
    refine Go.iinc (pc' := 28) (1 : Int32) #[.val (.ref b), .val (.int c), .val (.int (0 : Int32)), .val (.int (15 : Int32)), .val (.int (c).toInt8.toInt32), .val (.int (1 : Int32))] d_jdk_43_method_23_code_25 rfl (by decide) rfl rfl ?_
    refine Go.goto (pc' := 7) d_jdk_43_method_23_code_28 (by decide) (by decide) ?_
    refine Go.iload (pc' := 9) d_jdk_43_method_23_code_7 rfl rfl ?_
    refine Go.iloadN (pc' := 10) d_jdk_43_method_23_code_9 rfl rfl ?_
    refine Go.icmpF (pc' := 13) d_jdk_43_method_23_code_10 (show (1 : Int32) < (15 : Int32) by decide) rfl ?_
    refine Go.aloadN (pc' := 14) d_jdk_43_method_23_code_13 rfl rfl rfl ?_
    refine Go.iload (pc' := 16) d_jdk_43_method_23_code_14 rfl rfl ?_
    refine Go.baloadV (pc' := 17) d_jdk_43_method_23_code_16 AV (by decide) rfl rfl ?_
    refine Go.iload (pc' := 19) d_jdk_43_method_23_code_17 rfl rfl ?_
    refine Go.icmp (pc' := 25) (pc'' := 22) d_jdk_43_method_23_code_19 (by decide) (by decide) rfl (fun hc_2 => ?_) (fun hc_2 => ?_)
    · have hc_2 : ¬ ((35 : Int32) = (c).toInt8.toInt32) := hc_2
      refine Go.iinc (pc' := 28) (2 : Int32) #[.val (.ref b), .val (.int c), .val (.int (0 : Int32)), .val (.int (15 : Int32)), .val (.int (c).toInt8.toInt32), .val (.int (2 : Int32))] d_jdk_43_method_23_code_25 rfl (by decide) rfl rfl ?_
      refine Go.goto (pc' := 7) d_jdk_43_method_23_code_28 (by decide) (by decide) ?_
      refine Go.iload (pc' := 9) d_jdk_43_method_23_code_7 rfl rfl ?_
      refine Go.iloadN (pc' := 10) d_jdk_43_method_23_code_9 rfl rfl ?_
      refine Go.icmpF (pc' := 13) d_jdk_43_method_23_code_10 (show (2 : Int32) < (15 : Int32) by decide) rfl ?_
      refine Go.aloadN (pc' := 14) d_jdk_43_method_23_code_13 rfl rfl rfl ?_
      refine Go.iload (pc' := 16) d_jdk_43_method_23_code_14 rfl rfl ?_
      refine Go.baloadV (pc' := 17) d_jdk_43_method_23_code_16 AV (by decide) rfl rfl ?_
      refine Go.iload (pc' := 19) d_jdk_43_method_23_code_17 rfl rfl ?_
      refine Go.icmp (pc' := 25) (pc'' := 22) d_jdk_43_method_23_code_19 (by decide) (by decide) rfl (fun hc_3 => ?_) (fun hc_3 => ?_)
      · have hc_3 : ¬ ((36 : Int32) = (c).toInt8.toInt32) := hc_3
        refine Go.iinc (pc' := 28) (3 : Int32) #[.val (.ref b), .val (.int c), .val (.int (0 : Int32)), .val (.int (15 : Int32)), .val (.int (c).toInt8.toInt32), .val (.int (3 : Int32))] d_jdk_43_method_23_code_25 rfl (by decide) rfl rfl ?_
        refine Go.goto (pc' := 7) d_jdk_43_method_23_code_28 (by decide) (by decide) ?_
        refine Go.iload (pc' := 9) d_jdk_43_method_23_code_7 rfl rfl ?_
        refine Go.iloadN (pc' := 10) d_jdk_43_method_23_code_9 rfl rfl ?_
        refine Go.icmpF (pc' := 13) d_jdk_43_method_23_code_10 (show (3 : Int32) < (15 : Int32) by decide) rfl ?_
        refine Go.aloadN (pc' := 14) d_jdk_43_method_23_code_13 rfl rfl rfl ?_
        refine Go.iload (pc' := 16) d_jdk_43_method_23_code_14 rfl rfl ?_
        refine Go.baloadV (pc' := 17) d_jdk_43_method_23_code_16 AV (by decide) rfl rfl ?_
        refine Go.iload (pc' := 19) d_jdk_43_method_23_code_17 rfl rfl ?_
        refine Go.icmp (pc' := 25) (pc'' := 22) d_jdk_43_method_23_code_19 (by decide) (by decide) rfl (fun hc_4 => ?_) (fun hc_4 => ?_)
        · have hc_4 : ¬ ((37 : Int32) = (c).toInt8.toInt32) := hc_4
          refine Go.iinc (pc' := 28) (4 : Int32) #[.val (.ref b), .val (.int c), .val (.int (0 : Int32)), .val (.int (15 : Int32)), .val (.int (c).toInt8.toInt32), .val (.int (4 : Int32))] d_jdk_43_method_23_code_25 rfl (by decide) rfl rfl ?_
          refine Go.goto (pc' := 7) d_jdk_43_method_23_code_28 (by decide) (by decide) ?_
          refine Go.iload (pc' := 9) d_jdk_43_method_23_code_7 rfl rfl ?_
          refine Go.iloadN (pc' := 10) d_jdk_43_method_23_code_9 rfl rfl ?_
          refine Go.icmpF (pc' := 13) d_jdk_43_method_23_code_10 (show (4 : Int32) < (15 : Int32) by decide) rfl ?_
          refine Go.aloadN (pc' := 14) d_jdk_43_method_23_code_13 rfl rfl rfl ?_
          refine Go.iload (pc' := 16) d_jdk_43_method_23_code_14 rfl rfl ?_
          refine Go.baloadV (pc' := 17) d_jdk_43_method_23_code_16 AV (by decide) rfl rfl ?_
          refine Go.iload (pc' := 19) d_jdk_43_method_23_code_17 rfl rfl ?_
          refine Go.icmp (pc' := 25) (pc'' := 22) d_jdk_43_method_23_code_19 (by decide) (by decide) rfl (fun hc_5 => ?_) (fun hc_5 => ?_)
          · have hc_5 : ¬ ((38 : Int32) = (c).toInt8.toInt32) := hc_5
            refine Go.iinc (pc' := 28) (5 : Int32) #[.val (.ref b), .val (.int c), .val (.int (0 : Int32)), .val (.int (15 : Int32)), .val (.int (c).toInt8.toInt32), .val (.int (5 : Int32))] d_jdk_43_method_23_code_25 rfl (by decide) rfl rfl ?_
            refine Go.goto (pc' := 7) d_jdk_43_method_23_code_28 (by decide) (by decide) ?_
            refine Go.iload (pc' := 9) d_jdk_43_method_23_code_7 rfl rfl ?_
            refine Go.iloadN (pc' := 10) d_jdk_43_method_23_code_9 rfl rfl ?_
            refine Go.icmpF (pc' := 13) d_jdk_43_method_23_code_10 (show (5 : Int32) < (15 : Int32) by decide) rfl ?_
            refine Go.aloadN (pc' := 14) d_jdk_43_method_23_code_13 rfl rfl rfl ?_
            refine Go.iload (pc' := 16) d_jdk_43_method_23_code_14 rfl rfl ?_
            refine Go.baloadV (pc' := 17) d_jdk_43_method_23_code_16 AV (by decide) rfl rfl ?_
            refine Go.iload (pc' := 19) d_jdk_43_method_23_code_17 rfl rfl ?_
            refine Go.icmp (pc' := 25) (pc'' := 22) d_jdk_43_method_23_code_19 (by decide) (by decide) rfl (fun hc_6 => ?_) (fun hc_6 => ?_)
            · have hc_6 : ¬ ((39 : Int32) = (c).toInt8.toInt32) := hc_6
              refine Go.iinc (pc' := 28) (6 : Int32) #[.val (.ref b), .val (.int c), .val (.int (0 : Int32)), .val (.int (15 : Int32)), .val (.int (c).toInt8.toInt32), .val (.int (6 : Int32))] d_jdk_43_method_23_code_25 rfl (by decide) rfl rfl ?_
              refine Go.goto (pc' := 7) d_jdk_43_method_23_code_28 (by decide) (by decide) ?_
              refine Go.iload (pc' := 9) d_jdk_43_method_23_code_7 rfl rfl ?_
              refine Go.iloadN (pc' := 10) d_jdk_43_method_23_code_9 rfl rfl ?_
              refine Go.icmpF (pc' := 13) d_jdk_43_method_23_code_10 (show (6 : Int32) < (15 : Int32) by decide) rfl ?_
              refine Go.aloadN (pc' := 14) d_jdk_43_method_23_code_13 rfl rfl rfl ?_
              refine Go.iload (pc' := 16) d_jdk_43_method_23_code_14 rfl rfl ?_
              refine Go.baloadV (pc' := 17) d_jdk_43_method_23_code_16 AV (by decide) rfl rfl ?_
              refine Go.iload (pc' := 19) d_jdk_43_method_23_code_17 rfl rfl ?_
              refine Go.icmp (pc' := 25) (pc'' := 22) d_jdk_43_method_23_code_19 (by decide) (by decide) rfl (fun hc_7 => ?_) (fun hc_7 => ?_)
              · have hc_7 : ¬ ((42 : Int32) = (c).toInt8.toInt32) := hc_7
                refine Go.iinc (pc' := 28) (7 : Int32) #[.val (.ref b), .val (.int c), .val (.int (0 : Int32)), .val (.int (15 : Int32)), .val (.int (c).toInt8.toInt32), .val (.int (7 : Int32))] d_jdk_43_method_23_code_25 rfl (by decide) rfl rfl ?_
                refine Go.goto (pc' := 7) d_jdk_43_method_23_code_28 (by decide) (by decide) ?_
                refine Go.iload (pc' := 9) d_jdk_43_method_23_code_7 rfl rfl ?_
                refine Go.iloadN (pc' := 10) d_jdk_43_method_23_code_9 rfl rfl ?_
                refine Go.icmpF (pc' := 13) d_jdk_43_method_23_code_10 (show (7 : Int32) < (15 : Int32) by decide) rfl ?_
                refine Go.aloadN (pc' := 14) d_jdk_43_method_23_code_13 rfl rfl rfl ?_
                refine Go.iload (pc' := 16) d_jdk_43_method_23_code_14 rfl rfl ?_
                refine Go.baloadV (pc' := 17) d_jdk_43_method_23_code_16 AV (by decide) rfl rfl ?_
                refine Go.iload (pc' := 19) d_jdk_43_method_23_code_17 rfl rfl ?_
                refine Go.icmp (pc' := 25) (pc'' := 22) d_jdk_43_method_23_code_19 (by decide) (by decide) rfl (fun hc_8 => ?_) (fun hc_8 => ?_)
                · have hc_8 : ¬ ((43 : Int32) = (c).toInt8.toInt32) := hc_8
                  refine Go.iinc (pc' := 28) (8 : Int32) #[.val (.ref b), .val (.int c), .val (.int (0 : Int32)), .val (.int (15 : Int32)), .val (.int (c).toInt8.toInt32), .val (.int (8 : Int32))] d_jdk_43_method_23_code_25 rfl (by decide) rfl rfl ?_
                  refine Go.goto (pc' := 7) d_jdk_43_method_23_code_28 (by decide) (by decide) ?_
                  refine Go.iload (pc' := 9) d_jdk_43_method_23_code_7 rfl rfl ?_
                  refine Go.iloadN (pc' := 10) d_jdk_43_method_23_code_9 rfl rfl ?_
                  refine Go.icmpF (pc' := 13) d_jdk_43_method_23_code_10 (show (8 : Int32) < (15 : Int32) by decide) rfl ?_
                  refine Go.aloadN (pc' := 14) d_jdk_43_method_23_code_13 rfl rfl rfl ?_
                  refine Go.iload (pc' := 16) d_jdk_43_method_23_code_14 rfl rfl ?_
                  refine Go.baloadV (pc' := 17) d_jdk_43_method_23_code_16 AV (by decide) rfl rfl ?_
                  refine Go.iload (pc' := 19) d_jdk_43_method_23_code_17 rfl rfl ?_
                  refine Go.icmp (pc' := 25) (pc'' := 22) d_jdk_43_method_23_code_19 (by decide) (by decide) rfl (fun hc_9 => ?_) (fun hc_9 => ?_)
                  · have hc_9 : ¬ ((45 : Int32) = (c).toInt8.toInt32) := hc_9
                    refine Go.iinc (pc' := 28) (9 : Int32) #[.val (.ref b), .val (.int c), .val (.int (0 : Int32)), .val (.int (15 : Int32)), .val (.int (c).toInt8.toInt32), .val (.int (9 : Int32))] d_jdk_43_method_23_code_25 rfl (by decide) rfl rfl ?_
                    refine Go.goto (pc' := 7) d_jdk_43_method_23_code_28 (by decide) (by decide) ?_
                    refine Go.iload (pc' := 9) d_jdk_43_method_23_code_7 rfl rfl ?_
                    refine Go.iloadN (pc' := 10) d_jdk_43_method_23_code_9 rfl rfl ?_
                    refine Go.icmpF (pc' := 13) d_jdk_43_method_23_code_10 (show (9 : Int32) < (15 : Int32) by decide) rfl ?_
                    refine Go.aloadN (pc' := 14) d_jdk_43_method_23_code_13 rfl rfl rfl ?_
                    refine Go.iload (pc' := 16) d_jdk_43_method_23_code_14 rfl rfl ?_
                    refine Go.baloadV (pc' := 17) d_jdk_43_method_23_code_16 AV (by decide) rfl rfl ?_
                    refine Go.iload (pc' := 19) d_jdk_43_method_23_code_17 rfl rfl ?_
                    refine Go.icmp (pc' := 25) (pc'' := 22) d_jdk_43_method_23_code_19 (by decide) (by decide) rfl (fun hc_10 => ?_) (fun hc_10 => ?_)
                    · have hc_10 : ¬ ((46 : Int32) = (c).toInt8.toInt32) := hc_10
                      refine Go.iinc (pc' := 28) (10 : Int32) #[.val (.ref b), .val (.int c), .val (.int (0 : Int32)), .val (.int (15 : Int32)), .val (.int (c).toInt8.toInt32), .val (.int (10 : Int32))] d_jdk_43_method_23_code_25 rfl (by decide) rfl rfl ?_
                      refine Go.goto (pc' := 7) d_jdk_43_method_23_code_28 (by decide) (by decide) ?_
                      refine Go.iload (pc' := 9) d_jdk_43_method_23_code_7 rfl rfl ?_
                      refine Go.iloadN (pc' := 10) d_jdk_43_method_23_code_9 rfl rfl ?_
                      refine Go.icmpF (pc' := 13) d_jdk_43_method_23_code_10 (show (10 : Int32) < (15 : Int32) by decide) rfl ?_
                      refine Go.aloadN (pc' := 14) d_jdk_43_method_23_code_13 rfl rfl rfl ?_
                      refine Go.iload (pc' := 16) d_jdk_43_method_23_code_14 rfl rfl ?_
                      refine Go.baloadV (pc' := 17) d_jdk_43_method_23_code_16 AV (by decide) rfl rfl ?_
                      refine Go.iload (pc' := 19) d_jdk_43_method_23_code_17 rfl rfl ?_
                      refine Go.icmp (pc' := 25) (pc'' := 22) d_jdk_43_method_23_code_19 (by decide) (by decide) rfl (fun hc_11 => ?_) (fun hc_11 => ?_)
                      · have hc_11 : ¬ ((94 : Int32) = (c).toInt8.toInt32) := hc_11
                        refine Go.iinc (pc' := 28) (11 : Int32) #[.val (.ref b), .val (.int c), .val (.int (0 : Int32)), .val (.int (15 : Int32)), .val (.int (c).toInt8.toInt32), .val (.int (11 : Int32))] d_jdk_43_method_23_code_25 rfl (by decide) rfl rfl ?_
                        refine Go.goto (pc' := 7) d_jdk_43_method_23_code_28 (by decide) (by decide) ?_
                        refine Go.iload (pc' := 9) d_jdk_43_method_23_code_7 rfl rfl ?_
                        refine Go.iloadN (pc' := 10) d_jdk_43_method_23_code_9 rfl rfl ?_
                        refine Go.icmpF (pc' := 13) d_jdk_43_method_23_code_10 (show (11 : Int32) < (15 : Int32) by decide) rfl ?_
                        refine Go.aloadN (pc' := 14) d_jdk_43_method_23_code_13 rfl rfl rfl ?_
                        refine Go.iload (pc' := 16) d_jdk_43_method_23_code_14 rfl rfl ?_
                        refine Go.baloadV (pc' := 17) d_jdk_43_method_23_code_16 AV (by decide) rfl rfl ?_
                        refine Go.iload (pc' := 19) d_jdk_43_method_23_code_17 rfl rfl ?_
                        refine Go.icmp (pc' := 25) (pc'' := 22) d_jdk_43_method_23_code_19 (by decide) (by decide) rfl (fun hc_12 => ?_) (fun hc_12 => ?_)
                        · have hc_12 : ¬ ((95 : Int32) = (c).toInt8.toInt32) := hc_12
                          refine Go.iinc (pc' := 28) (12 : Int32) #[.val (.ref b), .val (.int c), .val (.int (0 : Int32)), .val (.int (15 : Int32)), .val (.int (c).toInt8.toInt32), .val (.int (12 : Int32))] d_jdk_43_method_23_code_25 rfl (by decide) rfl rfl ?_
                          refine Go.goto (pc' := 7) d_jdk_43_method_23_code_28 (by decide) (by decide) ?_
                          refine Go.iload (pc' := 9) d_jdk_43_method_23_code_7 rfl rfl ?_
                          refine Go.iloadN (pc' := 10) d_jdk_43_method_23_code_9 rfl rfl ?_
                          refine Go.icmpF (pc' := 13) d_jdk_43_method_23_code_10 (show (12 : Int32) < (15 : Int32) by decide) rfl ?_
                          refine Go.aloadN (pc' := 14) d_jdk_43_method_23_code_13 rfl rfl rfl ?_
                          refine Go.iload (pc' := 16) d_jdk_43_method_23_code_14 rfl rfl ?_
                          refine Go.baloadV (pc' := 17) d_jdk_43_method_23_code_16 AV (by decide) rfl rfl ?_
                          refine Go.iload (pc' := 19) d_jdk_43_method_23_code_17 rfl rfl ?_
                          refine Go.icmp (pc' := 25) (pc'' := 22) d_jdk_43_method_23_code_19 (by decide) (by decide) rfl (fun hc_13 => ?_) (fun hc_13 => ?_)
                          · have hc_13 : ¬ ((96 : Int32) = (c).toInt8.toInt32) := hc_13
                            refine Go.iinc (pc' := 28) (13 : Int32) #[.val (.ref b), .val (.int c), .val (.int (0 : Int32)), .val (.int (15 : Int32)), .val (.int (c).toInt8.toInt32), .val (.int (13 : Int32))] d_jdk_43_method_23_code_25 rfl (by decide) rfl rfl ?_
                            refine Go.goto (pc' := 7) d_jdk_43_method_23_code_28 (by decide) (by decide) ?_
                            refine Go.iload (pc' := 9) d_jdk_43_method_23_code_7 rfl rfl ?_
                            refine Go.iloadN (pc' := 10) d_jdk_43_method_23_code_9 rfl rfl ?_
                            refine Go.icmpF (pc' := 13) d_jdk_43_method_23_code_10 (show (13 : Int32) < (15 : Int32) by decide) rfl ?_
                            refine Go.aloadN (pc' := 14) d_jdk_43_method_23_code_13 rfl rfl rfl ?_
                            refine Go.iload (pc' := 16) d_jdk_43_method_23_code_14 rfl rfl ?_
                            refine Go.baloadV (pc' := 17) d_jdk_43_method_23_code_16 AV (by decide) rfl rfl ?_
                            refine Go.iload (pc' := 19) d_jdk_43_method_23_code_17 rfl rfl ?_
                            refine Go.icmp (pc' := 25) (pc'' := 22) d_jdk_43_method_23_code_19 (by decide) (by decide) rfl (fun hc_14 => ?_) (fun hc_14 => ?_)
                            · have hc_14 : ¬ ((124 : Int32) = (c).toInt8.toInt32) := hc_14
                              refine Go.iinc (pc' := 28) (14 : Int32) #[.val (.ref b), .val (.int c), .val (.int (0 : Int32)), .val (.int (15 : Int32)), .val (.int (c).toInt8.toInt32), .val (.int (14 : Int32))] d_jdk_43_method_23_code_25 rfl (by decide) rfl rfl ?_
                              refine Go.goto (pc' := 7) d_jdk_43_method_23_code_28 (by decide) (by decide) ?_
                              refine Go.iload (pc' := 9) d_jdk_43_method_23_code_7 rfl rfl ?_
                              refine Go.iloadN (pc' := 10) d_jdk_43_method_23_code_9 rfl rfl ?_
                              refine Go.icmpF (pc' := 13) d_jdk_43_method_23_code_10 (show (14 : Int32) < (15 : Int32) by decide) rfl ?_
                              refine Go.aloadN (pc' := 14) d_jdk_43_method_23_code_13 rfl rfl rfl ?_
                              refine Go.iload (pc' := 16) d_jdk_43_method_23_code_14 rfl rfl ?_
                              refine Go.baloadV (pc' := 17) d_jdk_43_method_23_code_16 AV (by decide) rfl rfl ?_
                              refine Go.iload (pc' := 19) d_jdk_43_method_23_code_17 rfl rfl ?_
                              refine Go.icmp (pc' := 25) (pc'' := 22) d_jdk_43_method_23_code_19 (by decide) (by decide) rfl (fun hc_15 => ?_) (fun hc_15 => ?_)
                              · have hc_15 : ¬ ((126 : Int32) = (c).toInt8.toInt32) := hc_15
                                refine Go.iinc (pc' := 28) (15 : Int32) #[.val (.ref b), .val (.int c), .val (.int (0 : Int32)), .val (.int (15 : Int32)), .val (.int (c).toInt8.toInt32), .val (.int (15 : Int32))] d_jdk_43_method_23_code_25 rfl (by decide) rfl rfl ?_
                                refine Go.goto (pc' := 7) d_jdk_43_method_23_code_28 (by decide) (by decide) ?_
                                refine Go.iload (pc' := 9) d_jdk_43_method_23_code_7 rfl rfl ?_
                                refine Go.iloadN (pc' := 10) d_jdk_43_method_23_code_9 rfl rfl ?_
                                refine Go.icmpT (pc' := 31) d_jdk_43_method_23_code_10 (show ¬ ((15 : Int32) < (15 : Int32)) by decide) (by decide) (by decide) ?_
                                refine Go.iconst (pc' := 32) (-1) d_jdk_43_method_23_code_31 rfl rfl ?_
                                refine Go.retI rfl [] (fun _ q => nomatch q) d_jdk_43_method_23_code_32 (by decide) (by decide) ?_
                                refine ⟨rfl, Or.inr ⟨fun q => ?_, rfl⟩⟩
                                unfold own_sym at q
                                rcases q with q | q | q | q | q | q | q | q | q | q | q | q | q | q | q
                                · exact hc_1 ((by8_eq h0_ h1_ (by decide) (by decide)).mpr q)
                                · exact hc_2 ((by8_eq h0_ h1_ (by decide) (by decide)).mpr q)
                                · exact hc_3 ((by8_eq h0_ h1_ (by decide) (by decide)).mpr q)
                                · exact hc_4 ((by8_eq h0_ h1_ (by decide) (by decide)).mpr q)
                                · exact hc_5 ((by8_eq h0_ h1_ (by decide) (by decide)).mpr q)
                                · exact hc_6 ((by8_eq h0_ h1_ (by decide) (by decide)).mpr q)
                                · exact hc_7 ((by8_eq h0_ h1_ (by decide) (by decide)).mpr q)
                                · exact hc_8 ((by8_eq h0_ h1_ (by decide) (by decide)).mpr q)
                                · exact hc_9 ((by8_eq h0_ h1_ (by decide) (by decide)).mpr q)
                                · exact hc_10 ((by8_eq h0_ h1_ (by decide) (by decide)).mpr q)
                                · exact hc_11 ((by8_eq h0_ h1_ (by decide) (by decide)).mpr q)
                                · exact hc_12 ((by8_eq h0_ h1_ (by decide) (by decide)).mpr q)
                                · exact hc_13 ((by8_eq h0_ h1_ (by decide) (by decide)).mpr q)
                                · exact hc_14 ((by8_eq h0_ h1_ (by decide) (by decide)).mpr q)
                                · exact hc_15 ((by8_eq h0_ h1_ (by decide) (by decide)).mpr q)
                              · have hc_15 : (126 : Int32) = (c).toInt8.toInt32 := hc_15
                                refine Go.iload (pc' := 24) d_jdk_43_method_23_code_22 rfl rfl ?_
                                refine Go.retI rfl [] (fun _ q => nomatch q) d_jdk_43_method_23_code_24 (by decide) (by decide) ?_
                                exact ⟨rfl, Or.inl ⟨Or.inr (Or.inr (Or.inr (Or.inr (Or.inr (Or.inr (Or.inr (Or.inr (Or.inr (Or.inr (Or.inr (Or.inr (Or.inr (Or.inr (((by8_eq h0_ h1_ (by decide) (by decide)).mp hc_15))))))))))))))), _, rfl, by decide⟩⟩
                            · have hc_14 : (124 : Int32) = (c).toInt8.toInt32 := hc_14
                              refine Go.iload (pc' := 24) d_jdk_43_method_23_code_22 rfl rfl ?_
                              refine Go.retI rfl [] (fun _ q => nomatch q) d_jdk_43_method_23_code_24 (by decide) (by decide) ?_
                              exact ⟨rfl, Or.inl ⟨Or.inr (Or.inr (Or.inr (Or.inr (Or.inr (Or.inr (Or.inr (Or.inr (Or.inr (Or.inr (Or.inr (Or.inr (Or.inr (Or.inl ((by8_eq h0_ h1_ (by decide) (by decide)).mp hc_14)))))))))))))), _, rfl, by decide⟩⟩
                          · have hc_13 : (96 : Int32) = (c).toInt8.toInt32 := hc_13
                            refine Go.iload (pc' := 24) d_jdk_43_method_23_code_22 rfl rfl ?_
                            refine Go.retI rfl [] (fun _ q => nomatch q) d_jdk_43_method_23_code_24 (by decide) (by decide) ?_
                            exact ⟨rfl, Or.inl ⟨Or.inr (Or.inr (Or.inr (Or.inr (Or.inr (Or.inr (Or.inr (Or.inr (Or.inr (Or.inr (Or.inr (Or.inr (Or.inl ((by8_eq h0_ h1_ (by decide) (by decide)).mp hc_13))))))))))))), _, rfl, by decide⟩⟩
                        · have hc_12 : (95 : Int32) = (c).toInt8.toInt32 := hc_12
                          refine Go.iload (pc' := 24) d_jdk_43_method_23_code_22 rfl rfl ?_
                          refine Go.retI rfl [] (fun _ q => nomatch q) d_jdk_43_method_23_code_24 (by decide) (by decide) ?_
                          exact ⟨rfl, Or.inl ⟨Or.inr (Or.inr (Or.inr (Or.inr (Or.inr (Or.inr (Or.inr (Or.inr (Or.inr (Or.inr (Or.inr (Or.inl ((by8_eq h0_ h1_ (by decide) (by decide)).mp hc_12)))))))))))), _, rfl, by decide⟩⟩
                      · have hc_11 : (94 : Int32) = (c).toInt8.toInt32 := hc_11
                        refine Go.iload (pc' := 24) d_jdk_43_method_23_code_22 rfl rfl ?_
                        refine Go.retI rfl [] (fun _ q => nomatch q) d_jdk_43_method_23_code_24 (by decide) (by decide) ?_
                        exact ⟨rfl, Or.inl ⟨Or.inr (Or.inr (Or.inr (Or.inr (Or.inr (Or.inr (Or.inr (Or.inr (Or.inr (Or.inr (Or.inl ((by8_eq h0_ h1_ (by decide) (by decide)).mp hc_11))))))))))), _, rfl, by decide⟩⟩
                    · have hc_10 : (46 : Int32) = (c).toInt8.toInt32 := hc_10
                      refine Go.iload (pc' := 24) d_jdk_43_method_23_code_22 rfl rfl ?_
                      refine Go.retI rfl [] (fun _ q => nomatch q) d_jdk_43_method_23_code_24 (by decide) (by decide) ?_
                      exact ⟨rfl, Or.inl ⟨Or.inr (Or.inr (Or.inr (Or.inr (Or.inr (Or.inr (Or.inr (Or.inr (Or.inr (Or.inl ((by8_eq h0_ h1_ (by decide) (by decide)).mp hc_10)))))))))), _, rfl, by decide⟩⟩
                  · have hc_9 : (45 : Int32) = (c).toInt8.toInt32 := hc_9
                    refine Go.iload (pc' := 24) d_jdk_43_method_23_code_22 rfl rfl ?_
                    refine Go.retI rfl [] (fun _ q => nomatch q) d_jdk_43_method_23_code_24 (by decide) (by decide) ?_
                    exact ⟨rfl, Or.inl ⟨Or.inr (Or.inr (Or.inr (Or.inr (Or.inr (Or.inr (Or.inr (Or.inr (Or.inl ((by8_eq h0_ h1_ (by decide) (by decide)).mp hc_9))))))))), _, rfl, by decide⟩⟩
                · have hc_8 : (43 : Int32) = (c).toInt8.toInt32 := hc_8
                  refine Go.iload (pc' := 24) d_jdk_43_method_23_code_22 rfl rfl ?_
                  refine Go.retI rfl [] (fun _ q => nomatch q) d_jdk_43_method_23_code_24 (by decide) (by decide) ?_
                  exact ⟨rfl, Or.inl ⟨Or.inr (Or.inr (Or.inr (Or.inr (Or.inr (Or.inr (Or.inr (Or.inl ((by8_eq h0_ h1_ (by decide) (by decide)).mp hc_8)))))))), _, rfl, by decide⟩⟩
              · have hc_7 : (42 : Int32) = (c).toInt8.toInt32 := hc_7
                refine Go.iload (pc' := 24) d_jdk_43_method_23_code_22 rfl rfl ?_
                refine Go.retI rfl [] (fun _ q => nomatch q) d_jdk_43_method_23_code_24 (by decide) (by decide) ?_
                exact ⟨rfl, Or.inl ⟨Or.inr (Or.inr (Or.inr (Or.inr (Or.inr (Or.inr (Or.inl ((by8_eq h0_ h1_ (by decide) (by decide)).mp hc_7))))))), _, rfl, by decide⟩⟩
            · have hc_6 : (39 : Int32) = (c).toInt8.toInt32 := hc_6
              refine Go.iload (pc' := 24) d_jdk_43_method_23_code_22 rfl rfl ?_
              refine Go.retI rfl [] (fun _ q => nomatch q) d_jdk_43_method_23_code_24 (by decide) (by decide) ?_
              exact ⟨rfl, Or.inl ⟨Or.inr (Or.inr (Or.inr (Or.inr (Or.inr (Or.inl ((by8_eq h0_ h1_ (by decide) (by decide)).mp hc_6)))))), _, rfl, by decide⟩⟩
          · have hc_5 : (38 : Int32) = (c).toInt8.toInt32 := hc_5
            refine Go.iload (pc' := 24) d_jdk_43_method_23_code_22 rfl rfl ?_
            refine Go.retI rfl [] (fun _ q => nomatch q) d_jdk_43_method_23_code_24 (by decide) (by decide) ?_
            exact ⟨rfl, Or.inl ⟨Or.inr (Or.inr (Or.inr (Or.inr (Or.inl ((by8_eq h0_ h1_ (by decide) (by decide)).mp hc_5))))), _, rfl, by decide⟩⟩
        · have hc_4 : (37 : Int32) = (c).toInt8.toInt32 := hc_4
          refine Go.iload (pc' := 24) d_jdk_43_method_23_code_22 rfl rfl ?_
          refine Go.retI rfl [] (fun _ q => nomatch q) d_jdk_43_method_23_code_24 (by decide) (by decide) ?_
          exact ⟨rfl, Or.inl ⟨Or.inr (Or.inr (Or.inr (Or.inl ((by8_eq h0_ h1_ (by decide) (by decide)).mp hc_4)))), _, rfl, by decide⟩⟩
      · have hc_3 : (36 : Int32) = (c).toInt8.toInt32 := hc_3
        refine Go.iload (pc' := 24) d_jdk_43_method_23_code_22 rfl rfl ?_
        refine Go.retI rfl [] (fun _ q => nomatch q) d_jdk_43_method_23_code_24 (by decide) (by decide) ?_
        exact ⟨rfl, Or.inl ⟨Or.inr (Or.inr (Or.inl ((by8_eq h0_ h1_ (by decide) (by decide)).mp hc_3))), _, rfl, by decide⟩⟩
    · have hc_2 : (35 : Int32) = (c).toInt8.toInt32 := hc_2
      refine Go.iload (pc' := 24) d_jdk_43_method_23_code_22 rfl rfl ?_
      refine Go.retI rfl [] (fun _ q => nomatch q) d_jdk_43_method_23_code_24 (by decide) (by decide) ?_
      exact ⟨rfl, Or.inl ⟨Or.inr (Or.inl ((by8_eq h0_ h1_ (by decide) (by decide)).mp hc_2)), _, rfl, by decide⟩⟩
  · have hc_1 : (33 : Int32) = (c).toInt8.toInt32 := hc_1
    refine Go.iload (pc' := 24) d_jdk_43_method_23_code_22 rfl rfl ?_
    refine Go.retI rfl [] (fun _ q => nomatch q) d_jdk_43_method_23_code_24 (by decide) (by decide) ?_
    exact ⟨rfl, Or.inl ⟨Or.inl ((by8_eq h0_ h1_ (by decide) (by decide)).mp hc_1), _, rfl, by decide⟩⟩
theorem d_jdk_43_method_4_code_0 : decode jdk_43_method_4_code 0 = .ok (.iload_n 0, 1) := by decide +kernel
theorem d_jdk_43_method_4_code_1 : decode jdk_43_method_4_code 1 = .ok (.ifCond .lt 14, 3) := by decide +kernel
theorem d_jdk_43_method_4_code_4 : decode jdk_43_method_4_code 4 = .ok (.iload_n 0, 1) := by decide +kernel
theorem d_jdk_43_method_4_code_5 : decode jdk_43_method_4_code 5 = .ok (.sipush 255, 3) := by decide +kernel
theorem d_jdk_43_method_4_code_8 : decode jdk_43_method_4_code 8 = .ok (.if_icmp .gt 7, 3) := by decide +kernel
theorem d_jdk_43_method_4_code_15 : decode jdk_43_method_4_code 15 = .ok (.iconst 0, 1) := by decide +kernel
theorem d_jdk_43_method_4_code_16 : decode jdk_43_method_4_code 16 = .ok (.ireturn, 1) := by decide +kernel
theorem d_jdk_43_method_4_code_11 : decode jdk_43_method_4_code 11 = .ok (.iconst 1, 1) := by decide +kernel
theorem d_jdk_43_method_4_code_12 : decode jdk_43_method_4_code 12 = .ok (.goto 4, 3) := by decide +kernel
set_option maxRecDepth 65536 in
set_option maxHeartbeats 40000000 in
theorem ct_canEnc (l : Launch) (Z : State) (a0 : Array Value) (hw : ∀ d ∈ tables_1, d.before a0 Z = true) (n0 : Nat) (h0 : Heap) (c : Int32) (h0_ : ¬ c < 0) :
    Ct l Z (⟨"java/lang/StringLatin1", "canEncode", "(I)Z"⟩ : MethodName) jdk_43_method_4_code 1 (some .boolean) ({ frames := 0, cells := 0, slots := 0, locals := 0 } : Room) EL1 n0 true [] #[(.int c)] h0 [] (fun v h N => h0 = h ∧ ((v = some (.int (1 : Int32)) ∧ ¬ 255 < c) ∨ (v = some (.int (0 : Int32)) ∧ 255 < c))) := by
  refine Ct.of (a0 := a0) (plainFor_of_name pn_java_lang_StringLatin1) (own_ew hw) (L0 := #[.val (.int c)]) (fun m => by first | (simp [entryFrame, mkF, argsToLocals, Value.category]; done) | rfl) ?_
  refine Go.iloadN (pc' := 1) d_jdk_43_method_4_code_0 rfl rfl ?_
  refine Go.ifF (pc' := 4) d_jdk_43_method_4_code_1 (h0_) rfl ?_
  refine Go.iloadN (pc' := 5) d_jdk_43_method_4_code_4 rfl rfl ?_
  refine Go.sipush (pc' := 8) 255 d_jdk_43_method_4_code_5 rfl rfl ?_
  refine Go.icmp (pc' := 15) (pc'' := 11) d_jdk_43_method_4_code_8 (by decide) (by decide) rfl (fun hc_1 => ?_) (fun hc_1 => ?_)
  · have hc_1 : (255 : Int32) < c := hc_1
    refine Go.iconst (pc' := 16) 0 d_jdk_43_method_4_code_15 rfl rfl ?_
    refine Go.retN (t := .boolean) (0 : Int32) rfl (by simp) rfl [] (fun _ q => nomatch q) d_jdk_43_method_4_code_16 (by decide) (by decide) ?_
    exact ⟨rfl, Or.inr ⟨rfl, hc_1⟩⟩
  · have hc_1 : ¬ ((255 : Int32) < c) := hc_1
    refine Go.iconst (pc' := 12) 1 d_jdk_43_method_4_code_11 rfl rfl ?_
    refine Go.goto (pc' := 16) d_jdk_43_method_4_code_12 (by decide) (by decide) ?_
    refine Go.retN (t := .boolean) (1 : Int32) rfl (by simp) rfl [] (fun _ q => nomatch q) d_jdk_43_method_4_code_16 (by decide) (by decide) ?_
    exact ⟨rfl, Or.inl ⟨rfl, hc_1⟩⟩
theorem d_jdk_29_method_65_code_0 : decode jdk_29_method_65_code 0 = .ok (.iload_n 0, 1) := by decide +kernel
theorem d_jdk_29_method_65_code_1 : decode jdk_29_method_65_code 1 = .ok (.iload_n 1, 1) := by decide +kernel
theorem d_jdk_29_method_65_code_2 : decode jdk_29_method_65_code 2 = .ok (.if_icmp .lt 7, 3) := by decide +kernel
theorem d_jdk_29_method_65_code_5 : decode jdk_29_method_65_code 5 = .ok (.iload_n 0, 1) := by decide +kernel
theorem d_jdk_29_method_65_code_6 : decode jdk_29_method_65_code 6 = .ok (.goto 4, 3) := by decide +kernel
theorem d_jdk_29_method_65_code_10 : decode jdk_29_method_65_code 10 = .ok (.ireturn, 1) := by decide +kernel
set_option maxRecDepth 65536 in
set_option maxHeartbeats 40000000 in
theorem ct_max (l : Launch) (Z : State) (a0 : Array Value) (hw : ∀ d ∈ tables_1, d.before a0 Z = true) (n0 : Nat) (h0 : Heap)  :
    Ct l Z (⟨"java/lang/Math", "max", "(II)I"⟩ : MethodName) jdk_29_method_65_code 2 (some .int) ({ frames := 0, cells := 0, slots := 0, locals := 0 } : Room) EL1 n0 true [] #[(.int (0 : Int32)), (.int (0 : Int32))] h0 [] (fun v h N => h0 = h ∧ v = some (.int (0 : Int32))) := by
  refine Ct.of (a0 := a0) (Jvm.Free.JP.mathPlain rfl (by decide +kernel)) (own_ew hw) (L0 := #[.val (.int (0 : Int32)), .val (.int (0 : Int32))]) (fun m => by first | (simp [entryFrame, mkF, argsToLocals, Value.category]; done) | rfl) ?_
  refine Go.iloadN (pc' := 1) d_jdk_29_method_65_code_0 rfl rfl ?_
  refine Go.iloadN (pc' := 2) d_jdk_29_method_65_code_1 rfl rfl ?_
  refine Go.icmpF (pc' := 5) d_jdk_29_method_65_code_2 (show ¬ ((0 : Int32) < (0 : Int32)) by decide) rfl ?_
  refine Go.iloadN (pc' := 6) d_jdk_29_method_65_code_5 rfl rfl ?_
  refine Go.goto (pc' := 10) d_jdk_29_method_65_code_6 (by decide) (by decide) ?_
  refine Go.retI rfl [] (fun _ q => nomatch q) d_jdk_29_method_65_code_10 (by decide) (by decide) ?_
  exact ⟨rfl, rfl⟩
theorem d_jdk_29_method_69_code_0 : decode jdk_29_method_69_code 0 = .ok (.iload_n 0, 1) := by decide +kernel
theorem d_jdk_29_method_69_code_1 : decode jdk_29_method_69_code 1 = .ok (.iload_n 1, 1) := by decide +kernel
theorem d_jdk_29_method_69_code_2 : decode jdk_29_method_69_code 2 = .ok (.if_icmp .gt 7, 3) := by decide +kernel
theorem d_jdk_29_method_69_code_5 : decode jdk_29_method_69_code 5 = .ok (.iload_n 0, 1) := by decide +kernel
theorem d_jdk_29_method_69_code_6 : decode jdk_29_method_69_code 6 = .ok (.goto 4, 3) := by decide +kernel
theorem d_jdk_29_method_69_code_10 : decode jdk_29_method_69_code 10 = .ok (.ireturn, 1) := by decide +kernel
set_option maxRecDepth 65536 in
set_option maxHeartbeats 40000000 in
theorem ct_min (l : Launch) (Z : State) (a0 : Array Value) (hw : ∀ d ∈ tables_1, d.before a0 Z = true) (n0 : Nat) (h0 : Heap)  :
    Ct l Z (⟨"java/lang/Math", "min", "(II)I"⟩ : MethodName) jdk_29_method_69_code 2 (some .int) ({ frames := 0, cells := 0, slots := 0, locals := 0 } : Room) EL1 n0 true [] #[(.int (15 : Int32)), (.int (15 : Int32))] h0 [] (fun v h N => h0 = h ∧ v = some (.int (15 : Int32))) := by
  refine Ct.of (a0 := a0) (Jvm.Free.JP.mathPlain rfl (by decide +kernel)) (own_ew hw) (L0 := #[.val (.int (15 : Int32)), .val (.int (15 : Int32))]) (fun m => by first | (simp [entryFrame, mkF, argsToLocals, Value.category]; done) | rfl) ?_
  refine Go.iloadN (pc' := 1) d_jdk_29_method_69_code_0 rfl rfl ?_
  refine Go.iloadN (pc' := 2) d_jdk_29_method_69_code_1 rfl rfl ?_
  refine Go.icmpF (pc' := 5) d_jdk_29_method_69_code_2 (show ¬ ((15 : Int32) < (15 : Int32)) by decide) rfl ?_
  refine Go.iloadN (pc' := 6) d_jdk_29_method_69_code_5 rfl rfl ?_
  refine Go.goto (pc' := 10) d_jdk_29_method_69_code_6 (by decide) (by decide) ?_
  refine Go.retI rfl [] (fun _ q => nomatch q) d_jdk_29_method_69_code_10 (by decide) (by decide) ?_
  exact ⟨rfl, rfl⟩
theorem d_jdk_43_method_22_code_0 : decode jdk_43_method_22_code 0 = .ok (.iload_n 1, 1) := by decide +kernel
theorem pd__28I_29Z : parseMethodDescriptor "(I)Z" = some ⟨[.int], (some .boolean)⟩ := by decide +kernel
theorem d_jdk_43_method_22_code_1 : decode jdk_43_method_22_code 1 = .ok (.invokestatic 88, 3) := by decide +kernel
theorem d_jdk_43_method_22_code_4 : decode jdk_43_method_22_code 4 = .ok (.ifCond .ne 5, 3) := by decide +kernel
theorem d_jdk_43_method_22_code_9 : decode jdk_43_method_22_code 9 = .ok (.iload_n 2, 1) := by decide +kernel
theorem d_jdk_43_method_22_code_10 : decode jdk_43_method_22_code 10 = .ok (.iconst 0, 1) := by decide +kernel
theorem pd__28II_29I : parseMethodDescriptor "(II)I" = some ⟨[.int, .int], (some .int)⟩ := by decide +kernel
theorem d_jdk_43_method_22_code_11 : decode jdk_43_method_22_code 11 = .ok (.invokestatic 92, 3) := by decide +kernel
theorem d_jdk_43_method_22_code_14 : decode jdk_43_method_22_code 14 = .ok (.istore_n 2, 1) := by decide +kernel
theorem d_jdk_43_method_22_code_15 : decode jdk_43_method_22_code 15 = .ok (.iload_n 3, 1) := by decide +kernel
theorem d_jdk_43_method_22_code_16 : decode jdk_43_method_22_code 16 = .ok (.aload_n 0, 1) := by decide +kernel
theorem d_jdk_43_method_22_code_17 : decode jdk_43_method_22_code 17 = .ok (.arraylength, 1) := by decide +kernel
theorem d_jdk_43_method_22_code_18 : decode jdk_43_method_22_code 18 = .ok (.invokestatic 38, 3) := by decide +kernel
theorem d_jdk_43_method_22_code_21 : decode jdk_43_method_22_code 21 = .ok (.istore_n 3, 1) := by decide +kernel
theorem d_jdk_43_method_22_code_22 : decode jdk_43_method_22_code 22 = .ok (.iload_n 2, 1) := by decide +kernel
theorem d_jdk_43_method_22_code_23 : decode jdk_43_method_22_code 23 = .ok (.iload_n 3, 1) := by decide +kernel
theorem d_jdk_43_method_22_code_24 : decode jdk_43_method_22_code 24 = .ok (.if_icmp .lt 5, 3) := by decide +kernel
theorem d_jdk_43_method_22_code_29 : decode jdk_43_method_22_code 29 = .ok (.aload_n 0, 1) := by decide +kernel
theorem d_jdk_43_method_22_code_30 : decode jdk_43_method_22_code 30 = .ok (.iload_n 1, 1) := by decide +kernel
theorem d_jdk_43_method_22_code_31 : decode jdk_43_method_22_code 31 = .ok (.iload_n 2, 1) := by decide +kernel
theorem d_jdk_43_method_22_code_32 : decode jdk_43_method_22_code 32 = .ok (.iload_n 3, 1) := by decide +kernel
theorem pd__28_5bBIII_29I : parseMethodDescriptor "([BIII)I" = some ⟨[(.array .byte), .int, .int, .int], (some .int)⟩ := by decide +kernel
theorem d_jdk_43_method_22_code_33 : decode jdk_43_method_22_code 33 = .ok (.invokestatic 95, 3) := by decide +kernel
theorem d_jdk_43_method_22_code_36 : decode jdk_43_method_22_code 36 = .ok (.ireturn, 1) := by decide +kernel
theorem d_jdk_43_method_22_code_7 : decode jdk_43_method_22_code 7 = .ok (.iconst (-1), 1) := by decide +kernel
theorem d_jdk_43_method_22_code_8 : decode jdk_43_method_22_code 8 = .ok (.ireturn, 1) := by decide +kernel
set_option maxRecDepth 65536 in
set_option maxHeartbeats 40000000 in
theorem ct_slio (l : Launch) (Z : State) (a0 : Array Value) (hw : ∀ d ∈ tables_1, d.before a0 Z = true) (n0 : Nat) (h0 : Heap) (b : Addr) (k : ClassId) (c : Int32) (AV : Arv Z h0 b k .byte (15 : Int32) [(.int (33 : Int32)), (.int (35 : Int32)), (.int (36 : Int32)), (.int (37 : Int32)), (.int (38 : Int32)), (.int (39 : Int32)), (.int (42 : Int32)), (.int (43 : Int32)), (.int (45 : Int32)), (.int (46 : Int32)), (.int (94 : Int32)), (.int (95 : Int32)), (.int (96 : Int32)), (.int (124 : Int32)), (.int (126 : Int32))] (.int 0)) (h0_ : ¬ c < 0) :
    Ct l Z (⟨"java/lang/StringLatin1", "indexOf", "([BIII)I"⟩ : MethodName) jdk_43_method_22_code 4 (some .int) ({ frames := 1, cells := 0, slots := 0, locals := 17 } : Room) EL1 n0 true [] #[(.ref b), (.int c), (.int (0 : Int32)), (.int (15 : Int32))] h0 [] (fun v h N => h0 = h ∧ ((own_sym c ∧ ∃ r, v = some (.int r) ∧ ¬ r < 0) ∨ (¬ own_sym c ∧ v = some (.int (-1 : Int32))))) := by
  refine Ct.of (a0 := a0) (plainFor_of_name pn_java_lang_StringLatin1) (own_ew hw) (L0 := #[.val (.ref b), .val (.int c), .val (.int (0 : Int32)), .val (.int (15 : Int32))]) (fun m => by first | (simp [entryFrame, mkF, argsToLocals, Value.category]; done) | rfl) ?_
  have l0_AV := nlt AV.lt
  refine Go.iloadN (pc' := 1) d_jdk_43_method_22_code_0 rfl rfl ?_
  refine Go.callS (a1 := a0) (pc' := 4) (argsL := [(.int c)]) (rest := []) (ct_canEnc l Z a0 hw n0 h0 c h0_) d_jdk_43_method_22_code_1 (hw _ (List.mem_of_getElem? (i := 99) rfl)) (hw _ (List.mem_of_getElem? (i := 100) rfl)) (hw _ (List.mem_of_getElem? (i := 74) rfl)) (hw _ (List.mem_of_getElem? (i := 101) rfl)) (by decide) (lenOf pd__28I_29Z rfl) rfl 0 rfl rfl (by decide) (by decide) (by decide) (by decide) (fun _ q => nomatch q) rfl (fun v_2 h_3 N_4 hQ_5 hle_6 => ?_)
  obtain ⟨rfl, hi_1⟩ := hQ_5
  rcases hi_1 with ⟨rfl, hi_1⟩ | ⟨rfl, hi_1⟩
  · refine Go.re (pc' := 4) (L' := #[.val (.ref b), .val (.int c), .val (.int (0 : Int32)), .val (.int (15 : Int32))]) (S' := [(.int (1 : Int32))]) rfl rfl rfl ?_
    refine Go.ifT (pc' := 9) d_jdk_43_method_22_code_4 (show ¬ ((1 : Int32) = (0 : Int32)) by decide) (by decide) (by decide) ?_
    refine Go.iloadN (pc' := 10) d_jdk_43_method_22_code_9 rfl rfl ?_
    refine Go.iconst (pc' := 11) 0 d_jdk_43_method_22_code_10 rfl rfl ?_
    refine Go.callS (a1 := a0) (pc' := 14) (argsL := [(.int (0 : Int32)), (.int (0 : Int32))]) (rest := []) (ct_max l Z a0 hw n0 h0 ) d_jdk_43_method_22_code_11 (hw _ (List.mem_of_getElem? (i := 102) rfl)) (hw _ (List.mem_of_getElem? (i := 103) rfl)) (hw _ (List.mem_of_getElem? (i := 104) rfl)) (hw _ (List.mem_of_getElem? (i := 105) rfl)) (by decide) (lenOf pd__28II_29I rfl) rfl 0 rfl rfl (by decide) (by decide) (by decide) (by decide) (fun _ q => nomatch q) rfl (fun v_7 h_8 N_9 hQ_10 hle_11 => ?_)
    obtain ⟨rfl, rfl⟩ := hQ_10
    refine Go.re (pc' := 14) (L' := #[.val (.ref b), .val (.int c), .val (.int (0 : Int32)), .val (.int (15 : Int32))]) (S' := [(.int (0 : Int32))]) rfl rfl rfl ?_
    refine Go.istoreN (pc' := 15) #[.val (.ref b), .val (.int c), .val (.int (0 : Int32)), .val (.int (15 : Int32))] d_jdk_43_method_22_code_14 rfl rfl ?_
    refine Go.iloadN (pc' := 16) d_jdk_43_method_22_code_15 rfl rfl ?_
    refine Go.aloadN (pc' := 17) d_jdk_43_method_22_code_16 rfl rfl rfl ?_
    refine Go.alenV (pc' := 18) d_jdk_43_method_22_code_17 AV rfl ?_
    refine Go.callS (a1 := a0) (pc' := 21) (argsL := [(.int (15 : Int32)), (.int (15 : Int32))]) (rest := []) (ct_min l Z a0 hw n0 h0 ) d_jdk_43_method_22_code_18 (hw _ (List.mem_of_getElem? (i := 106) rfl)) (hw _ (List.mem_of_getElem? (i := 107) rfl)) (hw _ (List.mem_of_getElem? (i := 104) rfl)) (hw _ (List.mem_of_getElem? (i := 108) rfl)) (by decide) (lenOf pd__28II_29I rfl) rfl 0 rfl rfl (by decide) (by decide) (by decide) (by decide) (fun _ q => nomatch q) rfl (fun v_12 h_13 N_14 hQ_15 hle_16 => ?_)
    obtain ⟨rfl, rfl⟩ := hQ_15
    refine Go.re (pc' := 21) (L' := #[.val (.ref b), .val (.int c), .val (.int (0 : Int32)), .val (.int (15 : Int32))]) (S' := [(.int (15 : Int32))]) rfl rfl rfl ?_
    refine Go.istoreN (pc' := 22) #[.val (.ref b), .val (.int c), .val (.int (0 : Int32)), .val (.int (15 : Int32))] d_jdk_43_method_22_code_21 rfl rfl ?_
    refine Go.iloadN (pc' := 23) d_jdk_43_method_22_code_22 rfl rfl ?_
    refine Go.iloadN (pc' := 24) d_jdk_43_method_22_code_23 rfl rfl ?_
    refine Go.icmpT (pc' := 29) d_jdk_43_method_22_code_24 (show (0 : Int32) < (15 : Int32) by decide) (by decide) (by decide) ?_
    refine Go.aloadN (pc' := 30) d_jdk_43_method_22_code_29 rfl rfl rfl ?_
    refine Go.iloadN (pc' := 31) d_jdk_43_method_22_code_30 rfl rfl ?_
    refine Go.iloadN (pc' := 32) d_jdk_43_method_22_code_31 rfl rfl ?_
    refine Go.iloadN (pc' := 33) d_jdk_43_method_22_code_32 rfl rfl ?_
    refine Go.callS (a1 := a0) (pc' := 36) (argsL := [(.ref b), (.int c), (.int (0 : Int32)), (.int (15 : Int32))]) (rest := []) (ct_ioc l Z a0 hw n0 h0 b k c AV h0_ hi_1) d_jdk_43_method_22_code_33 (hw _ (List.mem_of_getElem? (i := 109) rfl)) (hw _ (List.mem_of_getElem? (i := 110) rfl)) (hw _ (List.mem_of_getElem? (i := 74) rfl)) (hw _ (List.mem_of_getElem? (i := 111) rfl)) (by decide) (lenOf pd__28_5bBIII_29I rfl) rfl 0 rfl rfl (by decide) (by decide) (by decide) (by decide) (fun _ q => nomatch q) rfl (fun v_19 h_20 N_21 hQ_22 hle_23 => ?_)
    obtain ⟨rfl, hi_17⟩ := hQ_22
    rcases hi_17 with ⟨hi_17, r_18, rfl, hr_r_18⟩ | ⟨hi_17, rfl⟩
    · refine Go.re (pc' := 36) (L' := #[.val (.ref b), .val (.int c), .val (.int (0 : Int32)), .val (.int (15 : Int32))]) (S' := [(.int r_18)]) rfl rfl rfl ?_
      refine Go.retI rfl [] (fun _ q => nomatch q) d_jdk_43_method_22_code_36 (by decide) (by decide) ?_
      exact ⟨rfl, Or.inl ⟨hi_17, _, rfl, hr_r_18⟩⟩
    · refine Go.re (pc' := 36) (L' := #[.val (.ref b), .val (.int c), .val (.int (0 : Int32)), .val (.int (15 : Int32))]) (S' := [(.int (-1 : Int32))]) rfl rfl rfl ?_
      refine Go.retI rfl [] (fun _ q => nomatch q) d_jdk_43_method_22_code_36 (by decide) (by decide) ?_
      exact ⟨rfl, Or.inr ⟨hi_17, rfl⟩⟩
  · refine Go.re (pc' := 4) (L' := #[.val (.ref b), .val (.int c), .val (.int (0 : Int32)), .val (.int (15 : Int32))]) (S' := [(.int (0 : Int32))]) rfl rfl rfl ?_
    refine Go.ifF (pc' := 7) d_jdk_43_method_22_code_4 (show (0 : Int32) = (0 : Int32) by decide) rfl ?_
    refine Go.iconst (pc' := 8) (-1) d_jdk_43_method_22_code_7 rfl rfl ?_
    refine Go.retI rfl [] (fun _ q => nomatch q) d_jdk_43_method_22_code_8 (by decide) (by decide) ?_
    exact ⟨rfl, Or.inr ⟨fun q => own_sym_small q hi_1, rfl⟩⟩
theorem d_jdk_42_method_80_code_0 : decode jdk_42_method_80_code 0 = .ok (.aload_n 0, 1) := by decide +kernel
theorem d_jdk_42_method_80_code_1 : decode jdk_42_method_80_code 1 = .ok (.invokevirtual 492, 3) := by decide +kernel
theorem d_jdk_42_method_80_code_4 : decode jdk_42_method_80_code 4 = .ok (.ifCond .eq 19, 3) := by decide +kernel
theorem d_jdk_42_method_80_code_7 : decode jdk_42_method_80_code 7 = .ok (.aload_n 0, 1) := by decide +kernel
theorem d_jdk_42_method_80_code_8 : decode jdk_42_method_80_code 8 = .ok (.getfield 9, 3) := by decide +kernel
theorem d_jdk_42_method_80_code_11 : decode jdk_42_method_80_code 11 = .ok (.iload_n 1, 1) := by decide +kernel
theorem d_jdk_42_method_80_code_12 : decode jdk_42_method_80_code 12 = .ok (.iload_n 2, 1) := by decide +kernel
theorem d_jdk_42_method_80_code_13 : decode jdk_42_method_80_code 13 = .ok (.aload_n 0, 1) := by decide +kernel
theorem pd__28_29I : parseMethodDescriptor "()I" = some ⟨[], (some .int)⟩ := by decide +kernel
theorem d_jdk_42_method_80_code_14 : decode jdk_42_method_80_code 14 = .ok (.invokevirtual 505, 3) := by decide +kernel
theorem d_jdk_42_method_80_code_17 : decode jdk_42_method_80_code 17 = .ok (.invokestatic 637, 3) := by decide +kernel
theorem d_jdk_42_method_80_code_20 : decode jdk_42_method_80_code 20 = .ok (.goto 16, 3) := by decide +kernel
theorem d_jdk_42_method_80_code_36 : decode jdk_42_method_80_code 36 = .ok (.ireturn, 1) := by decide +kernel
set_option maxRecDepth 65536 in
set_option maxHeartbeats 40000000 in
theorem ct_io3 (l : Launch) (Z : State) (a0 : Array Value) (hw : ∀ d ∈ tables_1, d.before a0 Z = true) (n0 : Nat) (h0 : Heap) (a1 b : Addr) (k : ClassId) (c : Int32) (h0_ : ¬ c < 0) (cs : Int32) (S_cs : Sta Z h0 "java/lang/String" "COMPACT_STRINGS" "Z" (.int cs)) (hcs : ¬ cs = 0) (E : Exa Z h0 a1 "java/lang/String") (FC : Fld Z h0 a1 "java/lang/String" "coder" "B" (.int (0 : Int32))) (FV : Fld Z h0 a1 "java/lang/String" "value" "[B" (.ref b)) (AV : Arv Z h0 b k .byte (15 : Int32) [(.int (33 : Int32)), (.int (35 : Int32)), (.int (36 : Int32)), (.int (37 : Int32)), (.int (38 : Int32)), (.int (39 : Int32)), (.int (42 : Int32)), (.int (43 : Int32)), (.int (45 : Int32)), (.int (46 : Int32)), (.int (94 : Int32)), (.int (95 : Int32)), (.int (96 : Int32)), (.int (124 : Int32)), (.int (126 : Int32))] (.int 0)) :
    Ct l Z (⟨"java/lang/String", "indexOf", "(II)I"⟩ : MethodName) jdk_42_method_80_code 3 (some .int) ({ frames := 2, cells := 0, slots := 0, locals := 32 } : Room) EL1 n0 true [] #[(.ref a1), (.int c), (.int (0 : Int32))] h0 [] (fun v h N => h0 = h ∧ ((own_sym c ∧ ∃ r, v = some (.int r) ∧ ¬ r < 0) ∨ (¬ own_sym c ∧ v = some (.int (-1 : Int32))))) := by
  refine Ct.of (a0 := a0) (plainFor_of_name pn_java_lang_String) (own_ew hw) (L0 := #[.val (.ref a1), .val (.int c), .val (.int (0 : Int32))]) (fun m => by first | (simp [entryFrame, mkF, argsToLocals, Value.category]; done) | rfl) ?_
  have l0_E := nlt E.lt
  have l0_AV := nlt AV.lt
  refine Go.aloadN (pc' := 1) d_jdk_42_method_80_code_0 rfl rfl rfl ?_
  refine Go.callV (a1 := a0) (pc' := 4) (argsL := []) (rest := []) (ct_isLatin1 l Z a0 hw n0 h0 a1 cs S_cs hcs FC) d_jdk_42_method_80_code_1 (hw _ (List.mem_of_getElem? (i := 67) rfl)) (hw _ (List.mem_of_getElem? (i := 68) rfl)) (hw _ (List.mem_of_getElem? (i := 70) rfl)) (hw _ (List.mem_of_getElem? (i := 70) rfl)) (hw _ (List.mem_of_getElem? (i := 69) rfl)) (hw _ (List.mem_of_getElem? (i := 10) rfl)) (hw _ (List.mem_of_getElem? (i := 71) rfl)) E (by decide) (lenOf pd__28_29Z rfl) rfl 0 rfl rfl (by decide) (by decide) (by decide) (by decide) (fun _ q => nomatch q) rfl (fun v_1 h_2 N_3 hQ_4 hle_5 => ?_)
  obtain ⟨rfl, rfl⟩ := hQ_4
  refine Go.re (pc' := 4) (L' := #[.val (.ref a1), .val (.int c), .val (.int (0 : Int32))]) (S' := [(.int (1 : Int32))]) rfl rfl rfl ?_
  refine Go.ifF (pc' := 7) d_jdk_42_method_80_code_4 (show ¬ ((1 : Int32) = (0 : Int32)) by decide) rfl ?_
  refine Go.aloadN (pc' := 8) d_jdk_42_method_80_code_7 rfl rfl rfl ?_
  refine Go.getF (pc' := 11) (host := "") (a1 := a0) d_jdk_42_method_80_code_8 (Or.inl (hw _ (List.mem_of_getElem? (i := 27) rfl))) Via.refl FV rfl ?_
  refine Go.iloadN (pc' := 12) d_jdk_42_method_80_code_11 rfl rfl ?_
  refine Go.iloadN (pc' := 13) d_jdk_42_method_80_code_12 rfl rfl ?_
  refine Go.aloadN (pc' := 14) d_jdk_42_method_80_code_13 rfl rfl rfl ?_
  refine Go.callV (a1 := a0) (pc' := 17) (argsL := []) (rest := [(.int (0 : Int32)), (.int c), (.ref b)]) (ct_lengthL l Z a0 hw n0 h0 a1 b k 15 [(.int (33 : Int32)), (.int (35 : Int32)), (.int (36 : Int32)), (.int (37 : Int32)), (.int (38 : Int32)), (.int (39 : Int32)), (.int (42 : Int32)), (.int (43 : Int32)), (.int (45 : Int32)), (.int (46 : Int32)), (.int (94 : Int32)), (.int (95 : Int32)), (.int (96 : Int32)), (.int (124 : Int32)), (.int (126 : Int32))] (by decide) cs S_cs hcs E FC FV AV) d_jdk_42_method_80_code_14 (hw _ (List.mem_of_getElem? (i := 95) rfl)) (hw _ (List.mem_of_getElem? (i := 53) rfl)) (hw _ (List.mem_of_getElem? (i := 55) rfl)) (hw _ (List.mem_of_getElem? (i := 55) rfl)) (hw _ (List.mem_of_getElem? (i := 54) rfl)) (hw _ (List.mem_of_getElem? (i := 10) rfl)) (hw _ (List.mem_of_getElem? (i := 56) rfl)) E (by decide) (lenOf pd__28_29I rfl) rfl 3 rfl rfl (by decide) (by decide) (by decide) (by decide) (fun _ q => nomatch q) rfl (fun v_6 h_7 N_8 hQ_9 hle_10 => ?_)
  obtain ⟨rfl, rfl⟩ := hQ_9
  refine Go.re (pc' := 17) (L' := #[.val (.ref a1), .val (.int c), .val (.int (0 : Int32))]) (S' := [(.int (15 : Int32)), (.int (0 : Int32)), (.int c), (.ref b)]) rfl rfl rfl ?_
  refine Go.callS (a1 := a0) (pc' := 20) (argsL := [(.ref b), (.int c), (.int (0 : Int32)), (.int (15 : Int32))]) (rest := []) (ct_slio l Z a0 hw n0 h0 b k c AV h0_) d_jdk_42_method_80_code_17 (hw _ (List.mem_of_getElem? (i := 96) rfl)) (hw _ (List.mem_of_getElem? (i := 97) rfl)) (hw _ (List.mem_of_getElem? (i := 74) rfl)) (hw _ (List.mem_of_getElem? (i := 98) rfl)) (by decide) (lenOf pd__28_5bBIII_29I rfl) rfl 0 rfl rfl (by decide) (by decide) (by decide) (by decide) (fun _ q => nomatch q) rfl (fun v_13 h_14 N_15 hQ_16 hle_17 => ?_)
  obtain ⟨rfl, hi_11⟩ := hQ_16
  rcases hi_11 with ⟨hi_11, r_12, rfl, hr_r_12⟩ | ⟨hi_11, rfl⟩
  · refine Go.re (pc' := 20) (L' := #[.val (.ref a1), .val (.int c), .val (.int (0 : Int32))]) (S' := [(.int r_12)]) rfl rfl rfl ?_
    refine Go.goto (pc' := 36) d_jdk_42_method_80_code_20 (by decide) (by decide) ?_
    refine Go.retI rfl [] (fun _ q => nomatch q) d_jdk_42_method_80_code_36 (by decide) (by decide) ?_
    exact ⟨rfl, Or.inl ⟨hi_11, _, rfl, hr_r_12⟩⟩
  · refine Go.re (pc' := 20) (L' := #[.val (.ref a1), .val (.int c), .val (.int (0 : Int32))]) (S' := [(.int (-1 : Int32))]) rfl rfl rfl ?_
    refine Go.goto (pc' := 36) d_jdk_42_method_80_code_20 (by decide) (by decide) ?_
    refine Go.retI rfl [] (fun _ q => nomatch q) d_jdk_42_method_80_code_36 (by decide) (by decide) ?_
    exact ⟨rfl, Or.inr ⟨hi_11, rfl⟩⟩
theorem d_jdk_42_method_79_code_0 : decode jdk_42_method_79_code 0 = .ok (.aload_n 0, 1) := by decide +kernel
theorem d_jdk_42_method_79_code_1 : decode jdk_42_method_79_code 1 = .ok (.iload_n 1, 1) := by decide +kernel
theorem d_jdk_42_method_79_code_2 : decode jdk_42_method_79_code 2 = .ok (.iconst 0, 1) := by decide +kernel
theorem d_jdk_42_method_79_code_3 : decode jdk_42_method_79_code 3 = .ok (.invokevirtual 633, 3) := by decide +kernel
theorem d_jdk_42_method_79_code_6 : decode jdk_42_method_79_code 6 = .ok (.ireturn, 1) := by decide +kernel
set_option maxRecDepth 65536 in
set_option maxHeartbeats 40000000 in
theorem ct_io2 (l : Launch) (Z : State) (a0 : Array Value) (hw : ∀ d ∈ tables_1, d.before a0 Z = true) (n0 : Nat) (h0 : Heap) (a1 b : Addr) (k : ClassId) (c : Int32) (h0_ : ¬ c < 0) (cs : Int32) (S_cs : Sta Z h0 "java/lang/String" "COMPACT_STRINGS" "Z" (.int cs)) (hcs : ¬ cs = 0) (E : Exa Z h0 a1 "java/lang/String") (FC : Fld Z h0 a1 "java/lang/String" "coder" "B" (.int (0 : Int32))) (FV : Fld Z h0 a1 "java/lang/String" "value" "[B" (.ref b)) (AV : Arv Z h0 b k .byte (15 : Int32) [(.int (33 : Int32)), (.int (35 : Int32)), (.int (36 : Int32)), (.int (37 : Int32)), (.int (38 : Int32)), (.int (39 : Int32)), (.int (42 : Int32)), (.int (43 : Int32)), (.int (45 : Int32)), (.int (46 : Int32)), (.int (94 : Int32)), (.int (95 : Int32)), (.int (96 : Int32)), (.int (124 : Int32)), (.int (126 : Int32))] (.int 0)) :
    Ct l Z (⟨"java/lang/String", "indexOf", "(I)I"⟩ : MethodName) jdk_42_method_79_code 2 (some .int) ({ frames := 3, cells := 0, slots := 0, locals := 46 } : Room) EL1 n0 true [] #[(.ref a1), (.int c)] h0 [] (fun v h N => h0 = h ∧ ((own_sym c ∧ ∃ r, v = some (.int r) ∧ ¬ r < 0) ∨ (¬ own_sym c ∧ v = some (.int (-1 : Int32))))) := by
  refine Ct.of (a0 := a0) (plainFor_of_name pn_java_lang_String) (own_ew hw) (L0 := #[.val (.ref a1), .val (.int c)]) (fun m => by first | (simp [entryFrame, mkF, argsToLocals, Value.category]; done) | rfl) ?_
  have l0_E := nlt E.lt
  have l0_AV := nlt AV.lt
  refine Go.aloadN (pc' := 1) d_jdk_42_method_79_code_0 rfl rfl rfl ?_
  refine Go.iloadN (pc' := 2) d_jdk_42_method_79_code_1 rfl rfl ?_
  refine Go.iconst (pc' := 3) 0 d_jdk_42_method_79_code_2 rfl rfl ?_
  refine Go.callV (a1 := a0) (pc' := 6) (argsL := [(.int c), (.int (0 : Int32))]) (rest := []) (ct_io3 l Z a0 hw n0 h0 a1 b k c h0_ cs S_cs hcs E FC FV AV) d_jdk_42_method_79_code_3 (hw _ (List.mem_of_getElem? (i := 90) rfl)) (hw _ (List.mem_of_getElem? (i := 91) rfl)) (hw _ (List.mem_of_getElem? (i := 93) rfl)) (hw _ (List.mem_of_getElem? (i := 93) rfl)) (hw _ (List.mem_of_getElem? (i := 92) rfl)) (hw _ (List.mem_of_getElem? (i := 10) rfl)) (hw _ (List.mem_of_getElem? (i := 94) rfl)) E (by decide) (lenOf pd__28II_29I rfl) rfl 0 rfl rfl (by decide) (by decide) (by decide) (by decide) (fun _ q => nomatch q) rfl (fun v_3 h_4 N_5 hQ_6 hle_7 => ?_)
  obtain ⟨rfl, hi_1⟩ := hQ_6
  rcases hi_1 with ⟨hi_1, r_2, rfl, hr_r_2⟩ | ⟨hi_1, rfl⟩
  · refine Go.re (pc' := 6) (L' := #[.val (.ref a1), .val (.int c)]) (S' := [(.int r_2)]) rfl rfl rfl ?_
    refine Go.retI rfl [] (fun _ q => nomatch q) d_jdk_42_method_79_code_6 (by decide) (by decide) ?_
    exact ⟨rfl, Or.inl ⟨hi_1, _, rfl, hr_r_2⟩⟩
  · refine Go.re (pc' := 6) (L' := #[.val (.ref a1), .val (.int c)]) (S' := [(.int (-1 : Int32))]) rfl rfl rfl ?_
    refine Go.retI rfl [] (fun _ q => nomatch q) d_jdk_42_method_79_code_6 (by decide) (by decide) ?_
    exact ⟨rfl, Or.inr ⟨hi_1, rfl⟩⟩
theorem pn_com_example_idempotency_key_store_idempotencykeystore_MediaTypesIsTokenPinLaw : plainName "com/example/idempotency_key_store/idempotencykeystore/MediaTypesIsTokenPinLaw" = true := by first | (simp [plainName, overriddenIn]; done) | decide +kernel
theorem d_method_3_code_132 : decode method_3_code 132 = .ok (.iconst 1, 1) := by decide +kernel
theorem d_method_3_code_133 : decode method_3_code 133 = .ok (.goto 4, 3) := by decide +kernel
theorem d_method_3_code_137 : decode method_3_code 137 = .ok (.ireturn, 1) := by decide +kernel
theorem d_method_3_code_42 : decode method_3_code 42 = .ok (.iload_n 0, 1) := by decide +kernel
theorem d_method_3_code_43 : decode method_3_code 43 = .ok (.bipush 33, 2) := by decide +kernel
theorem d_method_3_code_45 : decode method_3_code 45 = .ok (.if_icmp .eq 87, 3) := by decide +kernel
theorem d_method_3_code_48 : decode method_3_code 48 = .ok (.iload_n 0, 1) := by decide +kernel
theorem d_method_3_code_49 : decode method_3_code 49 = .ok (.bipush 35, 2) := by decide +kernel
theorem d_method_3_code_51 : decode method_3_code 51 = .ok (.if_icmp .eq 81, 3) := by decide +kernel
theorem d_method_3_code_54 : decode method_3_code 54 = .ok (.iload_n 0, 1) := by decide +kernel
theorem d_method_3_code_55 : decode method_3_code 55 = .ok (.bipush 36, 2) := by decide +kernel
theorem d_method_3_code_57 : decode method_3_code 57 = .ok (.if_icmp .eq 75, 3) := by decide +kernel
theorem d_method_3_code_60 : decode method_3_code 60 = .ok (.iload_n 0, 1) := by decide +kernel
theorem d_method_3_code_61 : decode method_3_code 61 = .ok (.bipush 37, 2) := by decide +kernel
theorem d_method_3_code_63 : decode method_3_code 63 = .ok (.if_icmp .eq 69, 3) := by decide +kernel
theorem d_method_3_code_66 : decode method_3_code 66 = .ok (.iload_n 0, 1) := by decide +kernel
theorem d_method_3_code_67 : decode method_3_code 67 = .ok (.bipush 38, 2) := by decide +kernel
theorem d_method_3_code_69 : decode method_3_code 69 = .ok (.if_icmp .eq 63, 3) := by decide +kernel
theorem d_method_3_code_72 : decode method_3_code 72 = .ok (.iload_n 0, 1) := by decide +kernel
theorem d_method_3_code_73 : decode method_3_code 73 = .ok (.bipush 39, 2) := by decide +kernel
theorem d_method_3_code_75 : decode method_3_code 75 = .ok (.if_icmp .eq 57, 3) := by decide +kernel
theorem d_method_3_code_78 : decode method_3_code 78 = .ok (.iload_n 0, 1) := by decide +kernel
theorem d_method_3_code_79 : decode method_3_code 79 = .ok (.bipush 42, 2) := by decide +kernel
theorem d_method_3_code_81 : decode method_3_code 81 = .ok (.if_icmp .eq 51, 3) := by decide +kernel
theorem d_method_3_code_84 : decode method_3_code 84 = .ok (.iload_n 0, 1) := by decide +kernel
theorem d_method_3_code_85 : decode method_3_code 85 = .ok (.bipush 43, 2) := by decide +kernel
theorem d_method_3_code_87 : decode method_3_code 87 = .ok (.if_icmp .eq 45, 3) := by decide +kernel
theorem d_method_3_code_90 : decode method_3_code 90 = .ok (.iload_n 0, 1) := by decide +kernel
theorem d_method_3_code_91 : decode method_3_code 91 = .ok (.bipush 45, 2) := by decide +kernel
theorem d_method_3_code_93 : decode method_3_code 93 = .ok (.if_icmp .eq 39, 3) := by decide +kernel
theorem d_method_3_code_96 : decode method_3_code 96 = .ok (.iload_n 0, 1) := by decide +kernel
theorem d_method_3_code_97 : decode method_3_code 97 = .ok (.bipush 46, 2) := by decide +kernel
theorem d_method_3_code_99 : decode method_3_code 99 = .ok (.if_icmp .eq 33, 3) := by decide +kernel
theorem d_method_3_code_102 : decode method_3_code 102 = .ok (.iload_n 0, 1) := by decide +kernel
theorem d_method_3_code_103 : decode method_3_code 103 = .ok (.bipush 94, 2) := by decide +kernel
theorem d_method_3_code_105 : decode method_3_code 105 = .ok (.if_icmp .eq 27, 3) := by decide +kernel
theorem d_method_3_code_108 : decode method_3_code 108 = .ok (.iload_n 0, 1) := by decide +kernel
theorem d_method_3_code_109 : decode method_3_code 109 = .ok (.bipush 95, 2) := by decide +kernel
theorem d_method_3_code_111 : decode method_3_code 111 = .ok (.if_icmp .eq 21, 3) := by decide +kernel
theorem d_method_3_code_114 : decode method_3_code 114 = .ok (.iload_n 0, 1) := by decide +kernel
theorem d_method_3_code_115 : decode method_3_code 115 = .ok (.bipush 96, 2) := by decide +kernel
theorem d_method_3_code_117 : decode method_3_code 117 = .ok (.if_icmp .eq 15, 3) := by decide +kernel
theorem d_method_3_code_120 : decode method_3_code 120 = .ok (.iload_n 0, 1) := by decide +kernel
theorem d_method_3_code_121 : decode method_3_code 121 = .ok (.bipush 124, 2) := by decide +kernel
theorem d_method_3_code_123 : decode method_3_code 123 = .ok (.if_icmp .eq 9, 3) := by decide +kernel
theorem d_method_3_code_126 : decode method_3_code 126 = .ok (.iload_n 0, 1) := by decide +kernel
theorem d_method_3_code_127 : decode method_3_code 127 = .ok (.bipush 126, 2) := by decide +kernel
theorem d_method_3_code_129 : decode method_3_code 129 = .ok (.if_icmp .ne 7, 3) := by decide +kernel
theorem d_method_3_code_136 : decode method_3_code 136 = .ok (.iconst 0, 1) := by decide +kernel
theorem d_method_3_code_28 : decode method_3_code 28 = .ok (.iload_n 0, 1) := by decide +kernel
theorem d_method_3_code_29 : decode method_3_code 29 = .ok (.bipush 48, 2) := by decide +kernel
theorem d_method_3_code_31 : decode method_3_code 31 = .ok (.if_icmp .lt 11, 3) := by decide +kernel
theorem d_method_3_code_34 : decode method_3_code 34 = .ok (.iload_n 0, 1) := by decide +kernel
theorem d_method_3_code_35 : decode method_3_code 35 = .ok (.bipush 57, 2) := by decide +kernel
theorem d_method_3_code_37 : decode method_3_code 37 = .ok (.if_icmp .gt 5, 3) := by decide +kernel
theorem d_method_3_code_40 : decode method_3_code 40 = .ok (.iconst 1, 1) := by decide +kernel
theorem d_method_3_code_41 : decode method_3_code 41 = .ok (.ireturn, 1) := by decide +kernel
theorem d_method_3_code_14 : decode method_3_code 14 = .ok (.iload_n 0, 1) := by decide +kernel
theorem d_method_3_code_15 : decode method_3_code 15 = .ok (.bipush 65, 2) := by decide +kernel
theorem d_method_3_code_17 : decode method_3_code 17 = .ok (.if_icmp .lt 11, 3) := by decide +kernel
theorem d_method_3_code_20 : decode method_3_code 20 = .ok (.iload_n 0, 1) := by decide +kernel
theorem d_method_3_code_21 : decode method_3_code 21 = .ok (.bipush 90, 2) := by decide +kernel
theorem d_method_3_code_23 : decode method_3_code 23 = .ok (.if_icmp .gt 5, 3) := by decide +kernel
theorem d_method_3_code_26 : decode method_3_code 26 = .ok (.iconst 1, 1) := by decide +kernel
theorem d_method_3_code_27 : decode method_3_code 27 = .ok (.ireturn, 1) := by decide +kernel
theorem d_method_3_code_0 : decode method_3_code 0 = .ok (.iload_n 0, 1) := by decide +kernel
theorem d_method_3_code_1 : decode method_3_code 1 = .ok (.bipush 97, 2) := by decide +kernel
theorem d_method_3_code_3 : decode method_3_code 3 = .ok (.if_icmp .lt 11, 3) := by decide +kernel
theorem d_method_3_code_6 : decode method_3_code 6 = .ok (.iload_n 0, 1) := by decide +kernel
theorem d_method_3_code_7 : decode method_3_code 7 = .ok (.bipush 122, 2) := by decide +kernel
theorem d_method_3_code_9 : decode method_3_code 9 = .ok (.if_icmp .gt 5, 3) := by decide +kernel
theorem d_method_3_code_12 : decode method_3_code 12 = .ok (.iconst 1, 1) := by decide +kernel
theorem d_method_3_code_13 : decode method_3_code 13 = .ok (.ireturn, 1) := by decide +kernel
set_option maxRecDepth 65536 in
set_option maxHeartbeats 40000000 in
theorem ct_tchar (l : Launch) (Z : State) (a0 : Array Value) (hw : ∀ d ∈ tables_1, d.before a0 Z = true) (n0 : Nat) (h0 : Heap) (c : Int32) :
    Ct l Z (⟨"com/example/idempotency_key_store/idempotencykeystore/MediaTypesIsTokenPinLaw", "tchar", "(C)Z"⟩ : MethodName) method_3_code 1 (some .boolean) ({ frames := 0, cells := 0, slots := 0, locals := 0 } : Room) EL1 n0 true [] #[(.int c)] h0 [] (fun v h N => h0 = h ∧ ((own_tc c ∧ v = some (.int (1 : Int32))) ∨ (¬ own_tc c ∧ v = some (.int (0 : Int32))))) := by
  refine Ct.of (a0 := a0) (plainFor_of_name pn_com_example_idempotency_key_store_idempotencykeystore_MediaTypesIsTokenPinLaw) (own_ew hw) (L0 := #[.val (.int c)]) (fun m => by first | (simp [entryFrame, mkF, argsToLocals, Value.category]; done) | rfl) ?_
  refine Go.cutP (P := ¬ (¬ c < 97 ∧ ¬ 122 < c)) 14 #[.val (.int c)] [] (fun hP_1 => ?_) (fun cut14 => ?_)
  · refine Go.re (pc' := 14) (L' := #[.val (.int c)]) (S' := []) rfl rfl rfl ?_
    refine Go.cutP (P := ¬ (¬ c < 65 ∧ ¬ 90 < c)) 28 #[.val (.int c)] [] (fun hP_2 => ?_) (fun cut28 => ?_)
    · refine Go.re (pc' := 28) (L' := #[.val (.int c)]) (S' := []) rfl rfl rfl ?_
      refine Go.cutP (P := ¬ (¬ c < 48 ∧ ¬ 57 < c)) 42 #[.val (.int c)] [] (fun hP_3 => ?_) (fun cut42 => ?_)
      · refine Go.re (pc' := 42) (L' := #[.val (.int c)]) (S' := []) rfl rfl rfl ?_
        refine Go.cutP (P := own_sym c) 132 #[.val (.int c)] [] (fun hP_4 => ?_) (fun cut132 => ?_)
        · refine Go.re (pc' := 132) (L' := #[.val (.int c)]) (S' := []) rfl rfl rfl ?_
          refine Go.iconst (pc' := 133) 1 d_method_3_code_132 rfl rfl ?_
          refine Go.goto (pc' := 137) d_method_3_code_133 (by decide) (by decide) ?_
          refine Go.retN (t := .boolean) (1 : Int32) rfl (by simp) rfl [] (fun _ q => nomatch q) d_method_3_code_137 (by decide) (by decide) ?_
          exact ⟨rfl, Or.inl ⟨Or.inr hP_4, rfl⟩⟩
        · refine Go.iloadN (pc' := 43) d_method_3_code_42 rfl rfl ?_
          refine Go.bipush (pc' := 45) 33 d_method_3_code_43 rfl rfl ?_
          refine Go.icmp (pc' := 132) (pc'' := 48) d_method_3_code_45 (by decide) (by decide) rfl (fun hc_5 => ?_) (fun hc_5 => ?_)
          · have hc_5 : c = (33 : Int32) := hc_5
            exact cut132 (Or.inl hc_5)
          · have hc_5 : ¬ (c = (33 : Int32)) := hc_5
            refine Go.iloadN (pc' := 49) d_method_3_code_48 rfl rfl ?_
            refine Go.bipush (pc' := 51) 35 d_method_3_code_49 rfl rfl ?_
            refine Go.icmp (pc' := 132) (pc'' := 54) d_method_3_code_51 (by decide) (by decide) rfl (fun hc_6 => ?_) (fun hc_6 => ?_)
            · have hc_6 : c = (35 : Int32) := hc_6
              exact cut132 (Or.inr (Or.inl hc_6))
            · have hc_6 : ¬ (c = (35 : Int32)) := hc_6
              refine Go.iloadN (pc' := 55) d_method_3_code_54 rfl rfl ?_
              refine Go.bipush (pc' := 57) 36 d_method_3_code_55 rfl rfl ?_
              refine Go.icmp (pc' := 132) (pc'' := 60) d_method_3_code_57 (by decide) (by decide) rfl (fun hc_7 => ?_) (fun hc_7 => ?_)
              · have hc_7 : c = (36 : Int32) := hc_7
                exact cut132 (Or.inr (Or.inr (Or.inl hc_7)))
              · have hc_7 : ¬ (c = (36 : Int32)) := hc_7
                refine Go.iloadN (pc' := 61) d_method_3_code_60 rfl rfl ?_
                refine Go.bipush (pc' := 63) 37 d_method_3_code_61 rfl rfl ?_
                refine Go.icmp (pc' := 132) (pc'' := 66) d_method_3_code_63 (by decide) (by decide) rfl (fun hc_8 => ?_) (fun hc_8 => ?_)
                · have hc_8 : c = (37 : Int32) := hc_8
                  exact cut132 (Or.inr (Or.inr (Or.inr (Or.inl hc_8))))
                · have hc_8 : ¬ (c = (37 : Int32)) := hc_8
                  refine Go.iloadN (pc' := 67) d_method_3_code_66 rfl rfl ?_
                  refine Go.bipush (pc' := 69) 38 d_method_3_code_67 rfl rfl ?_
                  refine Go.icmp (pc' := 132) (pc'' := 72) d_method_3_code_69 (by decide) (by decide) rfl (fun hc_9 => ?_) (fun hc_9 => ?_)
                  · have hc_9 : c = (38 : Int32) := hc_9
                    exact cut132 (Or.inr (Or.inr (Or.inr (Or.inr (Or.inl hc_9)))))
                  · have hc_9 : ¬ (c = (38 : Int32)) := hc_9
                    refine Go.iloadN (pc' := 73) d_method_3_code_72 rfl rfl ?_
                    refine Go.bipush (pc' := 75) 39 d_method_3_code_73 rfl rfl ?_
                    refine Go.icmp (pc' := 132) (pc'' := 78) d_method_3_code_75 (by decide) (by decide) rfl (fun hc_10 => ?_) (fun hc_10 => ?_)
                    · have hc_10 : c = (39 : Int32) := hc_10
                      exact cut132 (Or.inr (Or.inr (Or.inr (Or.inr (Or.inr (Or.inl hc_10))))))
                    · have hc_10 : ¬ (c = (39 : Int32)) := hc_10
                      refine Go.iloadN (pc' := 79) d_method_3_code_78 rfl rfl ?_
                      refine Go.bipush (pc' := 81) 42 d_method_3_code_79 rfl rfl ?_
                      refine Go.icmp (pc' := 132) (pc'' := 84) d_method_3_code_81 (by decide) (by decide) rfl (fun hc_11 => ?_) (fun hc_11 => ?_)
                      · have hc_11 : c = (42 : Int32) := hc_11
                        exact cut132 (Or.inr (Or.inr (Or.inr (Or.inr (Or.inr (Or.inr (Or.inl hc_11)))))))
                      · have hc_11 : ¬ (c = (42 : Int32)) := hc_11
                        refine Go.iloadN (pc' := 85) d_method_3_code_84 rfl rfl ?_
                        refine Go.bipush (pc' := 87) 43 d_method_3_code_85 rfl rfl ?_
                        refine Go.icmp (pc' := 132) (pc'' := 90) d_method_3_code_87 (by decide) (by decide) rfl (fun hc_12 => ?_) (fun hc_12 => ?_)
                        · have hc_12 : c = (43 : Int32) := hc_12
                          exact cut132 (Or.inr (Or.inr (Or.inr (Or.inr (Or.inr (Or.inr (Or.inr (Or.inl hc_12))))))))
                        · have hc_12 : ¬ (c = (43 : Int32)) := hc_12
                          refine Go.iloadN (pc' := 91) d_method_3_code_90 rfl rfl ?_
                          refine Go.bipush (pc' := 93) 45 d_method_3_code_91 rfl rfl ?_
                          refine Go.icmp (pc' := 132) (pc'' := 96) d_method_3_code_93 (by decide) (by decide) rfl (fun hc_13 => ?_) (fun hc_13 => ?_)
                          · have hc_13 : c = (45 : Int32) := hc_13
                            exact cut132 (Or.inr (Or.inr (Or.inr (Or.inr (Or.inr (Or.inr (Or.inr (Or.inr (Or.inl hc_13)))))))))
                          · have hc_13 : ¬ (c = (45 : Int32)) := hc_13
                            refine Go.iloadN (pc' := 97) d_method_3_code_96 rfl rfl ?_
                            refine Go.bipush (pc' := 99) 46 d_method_3_code_97 rfl rfl ?_
                            refine Go.icmp (pc' := 132) (pc'' := 102) d_method_3_code_99 (by decide) (by decide) rfl (fun hc_14 => ?_) (fun hc_14 => ?_)
                            · have hc_14 : c = (46 : Int32) := hc_14
                              exact cut132 (Or.inr (Or.inr (Or.inr (Or.inr (Or.inr (Or.inr (Or.inr (Or.inr (Or.inr (Or.inl hc_14))))))))))
                            · have hc_14 : ¬ (c = (46 : Int32)) := hc_14
                              refine Go.iloadN (pc' := 103) d_method_3_code_102 rfl rfl ?_
                              refine Go.bipush (pc' := 105) 94 d_method_3_code_103 rfl rfl ?_
                              refine Go.icmp (pc' := 132) (pc'' := 108) d_method_3_code_105 (by decide) (by decide) rfl (fun hc_15 => ?_) (fun hc_15 => ?_)
                              · have hc_15 : c = (94 : Int32) := hc_15
                                exact cut132 (Or.inr (Or.inr (Or.inr (Or.inr (Or.inr (Or.inr (Or.inr (Or.inr (Or.inr (Or.inr (Or.inl hc_15)))))))))))
                              · have hc_15 : ¬ (c = (94 : Int32)) := hc_15
                                refine Go.iloadN (pc' := 109) d_method_3_code_108 rfl rfl ?_
                                refine Go.bipush (pc' := 111) 95 d_method_3_code_109 rfl rfl ?_
                                refine Go.icmp (pc' := 132) (pc'' := 114) d_method_3_code_111 (by decide) (by decide) rfl (fun hc_16 => ?_) (fun hc_16 => ?_)
                                · have hc_16 : c = (95 : Int32) := hc_16
                                  exact cut132 (Or.inr (Or.inr (Or.inr (Or.inr (Or.inr (Or.inr (Or.inr (Or.inr (Or.inr (Or.inr (Or.inr (Or.inl hc_16))))))))))))
                                · have hc_16 : ¬ (c = (95 : Int32)) := hc_16
                                  refine Go.iloadN (pc' := 115) d_method_3_code_114 rfl rfl ?_
                                  refine Go.bipush (pc' := 117) 96 d_method_3_code_115 rfl rfl ?_
                                  refine Go.icmp (pc' := 132) (pc'' := 120) d_method_3_code_117 (by decide) (by decide) rfl (fun hc_17 => ?_) (fun hc_17 => ?_)
                                  · have hc_17 : c = (96 : Int32) := hc_17
                                    exact cut132 (Or.inr (Or.inr (Or.inr (Or.inr (Or.inr (Or.inr (Or.inr (Or.inr (Or.inr (Or.inr (Or.inr (Or.inr (Or.inl hc_17)))))))))))))
                                  · have hc_17 : ¬ (c = (96 : Int32)) := hc_17
                                    refine Go.iloadN (pc' := 121) d_method_3_code_120 rfl rfl ?_
                                    refine Go.bipush (pc' := 123) 124 d_method_3_code_121 rfl rfl ?_
                                    refine Go.icmp (pc' := 132) (pc'' := 126) d_method_3_code_123 (by decide) (by decide) rfl (fun hc_18 => ?_) (fun hc_18 => ?_)
                                    · have hc_18 : c = (124 : Int32) := hc_18
                                      exact cut132 (Or.inr (Or.inr (Or.inr (Or.inr (Or.inr (Or.inr (Or.inr (Or.inr (Or.inr (Or.inr (Or.inr (Or.inr (Or.inr (Or.inl hc_18))))))))))))))
                                    · have hc_18 : ¬ (c = (124 : Int32)) := hc_18
                                      refine Go.iloadN (pc' := 127) d_method_3_code_126 rfl rfl ?_
                                      refine Go.bipush (pc' := 129) 126 d_method_3_code_127 rfl rfl ?_
                                      refine Go.icmp (pc' := 136) (pc'' := 132) d_method_3_code_129 (by decide) (by decide) rfl (fun hc_19 => ?_) (fun hc_19 => ?_)
                                      · have hc_19 : ¬ (c = (126 : Int32)) := hc_19
                                        refine Go.iconst (pc' := 137) 0 d_method_3_code_136 rfl rfl ?_
                                        refine Go.retN (t := .boolean) (0 : Int32) rfl (by simp) rfl [] (fun _ q => nomatch q) d_method_3_code_137 (by decide) (by decide) ?_
                                        refine ⟨rfl, Or.inr ⟨fun q => ?_, rfl⟩⟩
                                        rcases q with q | q
                                        · exact q.elim hP_1 (fun q => q.elim hP_2 hP_3)
                                        · unfold own_sym at q
                                          rcases q with q | q | q | q | q | q | q | q | q | q | q | q | q | q | q
                                          · exact hc_5 q
                                          · exact hc_6 q
                                          · exact hc_7 q
                                          · exact hc_8 q
                                          · exact hc_9 q
                                          · exact hc_10 q
                                          · exact hc_11 q
                                          · exact hc_12 q
                                          · exact hc_13 q
                                          · exact hc_14 q
                                          · exact hc_15 q
                                          · exact hc_16 q
                                          · exact hc_17 q
                                          · exact hc_18 q
                                          · exact hc_19 q
                                      · have hc_19 : c = (126 : Int32) := hc_19
                                        exact cut132 (Or.inr (Or.inr (Or.inr (Or.inr (Or.inr (Or.inr (Or.inr (Or.inr (Or.inr (Or.inr (Or.inr (Or.inr (Or.inr (Or.inr (hc_19)))))))))))))))
      · refine Go.iloadN (pc' := 29) d_method_3_code_28 rfl rfl ?_
        refine Go.bipush (pc' := 31) 48 d_method_3_code_29 rfl rfl ?_
        refine Go.icmp (pc' := 42) (pc'' := 34) d_method_3_code_31 (by decide) (by decide) rfl (fun hc_20 => ?_) (fun hc_20 => ?_)
        · have hc_20 : c < (48 : Int32) := hc_20
          exact cut42 (fun q => absurd hc_20 q.1)
        · have hc_20 : ¬ (c < (48 : Int32)) := hc_20
          refine Go.iloadN (pc' := 35) d_method_3_code_34 rfl rfl ?_
          refine Go.bipush (pc' := 37) 57 d_method_3_code_35 rfl rfl ?_
          refine Go.icmp (pc' := 42) (pc'' := 40) d_method_3_code_37 (by decide) (by decide) rfl (fun hc_21 => ?_) (fun hc_21 => ?_)
          · have hc_21 : (57 : Int32) < c := hc_21
            exact cut42 (fun q => absurd hc_21 q.2)
          · have hc_21 : ¬ ((57 : Int32) < c) := hc_21
            refine Go.iconst (pc' := 41) 1 d_method_3_code_40 rfl rfl ?_
            refine Go.retN (t := .boolean) (1 : Int32) rfl (by simp) rfl [] (fun _ q => nomatch q) d_method_3_code_41 (by decide) (by decide) ?_
            exact ⟨rfl, Or.inl ⟨Or.inl (Or.inr (Or.inr (⟨hc_20, hc_21⟩))), rfl⟩⟩
    · refine Go.iloadN (pc' := 15) d_method_3_code_14 rfl rfl ?_
      refine Go.bipush (pc' := 17) 65 d_method_3_code_15 rfl rfl ?_
      refine Go.icmp (pc' := 28) (pc'' := 20) d_method_3_code_17 (by decide) (by decide) rfl (fun hc_22 => ?_) (fun hc_22 => ?_)
      · have hc_22 : c < (65 : Int32) := hc_22
        exact cut28 (fun q => absurd hc_22 q.1)
      · have hc_22 : ¬ (c < (65 : Int32)) := hc_22
        refine Go.iloadN (pc' := 21) d_method_3_code_20 rfl rfl ?_
        refine Go.bipush (pc' := 23) 90 d_method_3_code_21 rfl rfl ?_
        refine Go.icmp (pc' := 28) (pc'' := 26) d_method_3_code_23 (by decide) (by decide) rfl (fun hc_23 => ?_) (fun hc_23 => ?_)
        · have hc_23 : (90 : Int32) < c := hc_23
          exact cut28 (fun q => absurd hc_23 q.2)
        · have hc_23 : ¬ ((90 : Int32) < c) := hc_23
          refine Go.iconst (pc' := 27) 1 d_method_3_code_26 rfl rfl ?_
          refine Go.retN (t := .boolean) (1 : Int32) rfl (by simp) rfl [] (fun _ q => nomatch q) d_method_3_code_27 (by decide) (by decide) ?_
          exact ⟨rfl, Or.inl ⟨Or.inl (Or.inr (Or.inl ⟨hc_22, hc_23⟩)), rfl⟩⟩
  · refine Go.iloadN (pc' := 1) d_method_3_code_0 rfl rfl ?_
    refine Go.bipush (pc' := 3) 97 d_method_3_code_1 rfl rfl ?_
    refine Go.icmp (pc' := 14) (pc'' := 6) d_method_3_code_3 (by decide) (by decide) rfl (fun hc_24 => ?_) (fun hc_24 => ?_)
    · have hc_24 : c < (97 : Int32) := hc_24
      exact cut14 (fun q => absurd hc_24 q.1)
    · have hc_24 : ¬ (c < (97 : Int32)) := hc_24
      refine Go.iloadN (pc' := 7) d_method_3_code_6 rfl rfl ?_
      refine Go.bipush (pc' := 9) 122 d_method_3_code_7 rfl rfl ?_
      refine Go.icmp (pc' := 14) (pc'' := 12) d_method_3_code_9 (by decide) (by decide) rfl (fun hc_25 => ?_) (fun hc_25 => ?_)
      · have hc_25 : (122 : Int32) < c := hc_25
        exact cut14 (fun q => absurd hc_25 q.2)
      · have hc_25 : ¬ ((122 : Int32) < c) := hc_25
        refine Go.iconst (pc' := 13) 1 d_method_3_code_12 rfl rfl ?_
        refine Go.retN (t := .boolean) (1 : Int32) rfl (by simp) rfl [] (fun _ q => nomatch q) d_method_3_code_13 (by decide) (by decide) ?_
        exact ⟨rfl, Or.inl ⟨Or.inl (Or.inl ⟨hc_24, hc_25⟩), rfl⟩⟩
theorem pn_com_example_idempotency_key_store_idempotencykeystore_MediaTypes : plainName "com/example/idempotency_key_store/idempotencykeystore/MediaTypes" = true := by first | (simp [plainName, overriddenIn]; done) | decide +kernel
theorem d_prog_23_method_6_code_0 : decode prog_23_method_6_code 0 = .ok (.aload_n 0, 1) := by decide +kernel
theorem d_prog_23_method_6_code_1 : decode prog_23_method_6_code 1 = .ok (.invokevirtual 100, 3) := by decide +kernel
theorem d_prog_23_method_6_code_4 : decode prog_23_method_6_code 4 = .ok (.ifCond .eq 5, 3) := by decide +kernel
theorem d_prog_23_method_6_code_9 : decode prog_23_method_6_code 9 = .ok (.iconst 0, 1) := by decide +kernel
theorem d_prog_23_method_6_code_10 : decode prog_23_method_6_code 10 = .ok (.istore_n 1, 1) := by decide +kernel
theorem d_prog_23_method_6_code_11 : decode prog_23_method_6_code 11 = .ok (.iload_n 1, 1) := by decide +kernel
theorem d_prog_23_method_6_code_12 : decode prog_23_method_6_code 12 = .ok (.aload_n 0, 1) := by decide +kernel
theorem d_prog_23_method_6_code_13 : decode prog_23_method_6_code 13 = .ok (.invokevirtual 34, 3) := by decide +kernel
theorem d_prog_23_method_6_code_16 : decode prog_23_method_6_code 16 = .ok (.if_icmp .ge 72, 3) := by decide +kernel
theorem d_prog_23_method_6_code_88 : decode prog_23_method_6_code 88 = .ok (.iconst 1, 1) := by decide +kernel
theorem d_prog_23_method_6_code_89 : decode prog_23_method_6_code 89 = .ok (.ireturn, 1) := by decide +kernel
theorem d_prog_23_method_6_code_19 : decode prog_23_method_6_code 19 = .ok (.aload_n 0, 1) := by decide +kernel
theorem d_prog_23_method_6_code_20 : decode prog_23_method_6_code 20 = .ok (.iload_n 1, 1) := by decide +kernel
theorem pd__28I_29C : parseMethodDescriptor "(I)C" = some ⟨[.int], (some .char)⟩ := by decide +kernel
theorem d_prog_23_method_6_code_21 : decode prog_23_method_6_code 21 = .ok (.invokevirtual 74, 3) := by decide +kernel
theorem d_prog_23_method_6_code_24 : decode prog_23_method_6_code 24 = .ok (.istore_n 2, 1) := by decide +kernel
theorem d_prog_23_method_6_code_61 : decode prog_23_method_6_code 61 = .ok (.iconst 1, 1) := by decide +kernel
theorem d_prog_23_method_6_code_62 : decode prog_23_method_6_code 62 = .ok (.goto 4, 3) := by decide +kernel
theorem d_prog_23_method_6_code_66 : decode prog_23_method_6_code 66 = .ok (.istore_n 3, 1) := by decide +kernel
theorem d_prog_23_method_6_code_67 : decode prog_23_method_6_code 67 = .ok (.iload_n 3, 1) := by decide +kernel
theorem d_prog_23_method_6_code_68 : decode prog_23_method_6_code 68 = .ok (.ifCond .ne 14, 3) := by decide +kernel
theorem d_prog_23_method_6_code_82 : decode prog_23_method_6_code 82 = .ok (.iinc 1 1, 3) := by decide +kernel
theorem d_prog_23_method_6_code_85 : decode prog_23_method_6_code 85 = .ok (.goto (-74), 3) := by decide +kernel
theorem d_prog_23_method_6_code_65 : decode prog_23_method_6_code 65 = .ok (.iconst 0, 1) := by decide +kernel
theorem d_prog_23_method_6_code_71 : decode prog_23_method_6_code 71 = .ok (.ldc 103, 2) := by decide +kernel
theorem d_prog_23_method_6_code_73 : decode prog_23_method_6_code 73 = .ok (.iload_n 2, 1) := by decide +kernel
theorem d_prog_23_method_6_code_74 : decode prog_23_method_6_code 74 = .ok (.invokevirtual 7, 3) := by decide +kernel
theorem d_prog_23_method_6_code_77 : decode prog_23_method_6_code 77 = .ok (.ifCond .ge 5, 3) := by decide +kernel
theorem d_prog_23_method_6_code_80 : decode prog_23_method_6_code 80 = .ok (.iconst 0, 1) := by decide +kernel
theorem d_prog_23_method_6_code_81 : decode prog_23_method_6_code 81 = .ok (.ireturn, 1) := by decide +kernel
theorem d_prog_23_method_6_code_25 : decode prog_23_method_6_code 25 = .ok (.iload_n 2, 1) := by decide +kernel
theorem d_prog_23_method_6_code_26 : decode prog_23_method_6_code 26 = .ok (.bipush 97, 2) := by decide +kernel
theorem d_prog_23_method_6_code_28 : decode prog_23_method_6_code 28 = .ok (.if_icmp .lt 9, 3) := by decide +kernel
theorem d_prog_23_method_6_code_37 : decode prog_23_method_6_code 37 = .ok (.iload_n 2, 1) := by decide +kernel
theorem d_prog_23_method_6_code_38 : decode prog_23_method_6_code 38 = .ok (.bipush 65, 2) := by decide +kernel
theorem d_prog_23_method_6_code_40 : decode prog_23_method_6_code 40 = .ok (.if_icmp .lt 9, 3) := by decide +kernel
theorem d_prog_23_method_6_code_49 : decode prog_23_method_6_code 49 = .ok (.iload_n 2, 1) := by decide +kernel
theorem d_prog_23_method_6_code_50 : decode prog_23_method_6_code 50 = .ok (.bipush 48, 2) := by decide +kernel
theorem d_prog_23_method_6_code_52 : decode prog_23_method_6_code 52 = .ok (.if_icmp .lt 13, 3) := by decide +kernel
theorem d_prog_23_method_6_code_55 : decode prog_23_method_6_code 55 = .ok (.iload_n 2, 1) := by decide +kernel
theorem d_prog_23_method_6_code_56 : decode prog_23_method_6_code 56 = .ok (.bipush 57, 2) := by decide +kernel
theorem d_prog_23_method_6_code_58 : decode prog_23_method_6_code 58 = .ok (.if_icmp .gt 7, 3) := by decide +kernel
theorem d_prog_23_method_6_code_43 : decode prog_23_method_6_code 43 = .ok (.iload_n 2, 1) := by decide +kernel
theorem d_prog_23_method_6_code_44 : decode prog_23_method_6_code 44 = .ok (.bipush 90, 2) := by decide +kernel
theorem d_prog_23_method_6_code_46 : decode prog_23_method_6_code 46 = .ok (.if_icmp .le 15, 3) := by decide +kernel
theorem d_prog_23_method_6_code_31 : decode prog_23_method_6_code 31 = .ok (.iload_n 2, 1) := by decide +kernel
theorem d_prog_23_method_6_code_32 : decode prog_23_method_6_code 32 = .ok (.bipush 122, 2) := by decide +kernel
theorem d_prog_23_method_6_code_34 : decode prog_23_method_6_code 34 = .ok (.if_icmp .le 27, 3) := by decide +kernel
theorem d_prog_23_method_6_code_7 : decode prog_23_method_6_code 7 = .ok (.iconst 0, 1) := by decide +kernel
theorem d_prog_23_method_6_code_8 : decode prog_23_method_6_code 8 = .ok (.ireturn, 1) := by decide +kernel
set_option maxRecDepth 65536 in
set_option maxHeartbeats 40000000 in
theorem ct_isToken (l : Launch) (Z : State) (a0 : Array Value) (hw : ∀ d ∈ tables_1, d.before a0 Z = true) (n0 : Nat) (h0 : Heap) (a1 : Addr) (cs : List Int32) (hl : cs.length ≤ 4) (SX : Sx Z h0 a1 cs) (hrg : ∀ i, i < cs.length → ¬ cs.getD i 0 < 0 ∧ ¬ 65535 < cs.getD i 0) (sf : Value) (hsf : sf.isRef = true) (S_sf : Sta Z h0 "jdk/internal/util/Preconditions" "SIOOBE_FORMATTER" "Ljava/util/function/BiFunction;" sf) (cs_ : Int32) (S_cs : Sta Z h0 "java/lang/String" "COMPACT_STRINGS" "Z" (.int cs_)) (hcs : ¬ cs_ = 0) (S_ad : Sta Z h0 "java/lang/StringUTF16" "$assertionsDisabled" "Z" (.int (1 : Int32))) (S_hi : Sta Z h0 "java/lang/StringUTF16" "HI_BYTE_SHIFT" "I" (.int (0 : Int32))) (S_lo : Sta Z h0 "java/lang/StringUTF16" "LO_BYTE_SHIFT" "I" (.int (8 : Int32))) :
    Ct l Z (⟨"com/example/idempotency_key_store/idempotencykeystore/MediaTypes", "isToken", "(Ljava/lang/String;)Z"⟩ : MethodName) prog_23_method_6_code 4 (some .boolean) ({ frames := 5, cells := 8, slots := 256, locals := 100 } : Room) EL1 n0 true [] #[(.ref a1)] h0 [] (fun v h N => Keep h0 h [] ∧ ((v = some (.int (1 : Int32)) ∧ cs ≠ [] ∧ ∀ j, j < cs.length → own_tc (cs.getD j 0)) ∨ (v = some (.int (0 : Int32)) ∧ (cs = [] ∨ ∃ j, j < cs.length ∧ ¬ own_tc (cs.getD j 0))))) := by
  refine Ct.of (a0 := a0) (plainFor_of_name pn_com_example_idempotency_key_store_idempotencykeystore_MediaTypes) (own_ew hw) (L0 := #[.val (.ref a1), .unset, .unset, .unset]) (fun m => by first | (simp [entryFrame, mkF, argsToLocals, Value.category]; done) | rfl) ?_
  have EX1 := SX.1
  have l0_EX1 := nlt EX1.lt
  refine Go.aloadN (pc' := 1) d_prog_23_method_6_code_0 rfl rfl rfl ?_
  refine Go.callV (a1 := a0) (pc' := 4) (argsL := []) (rest := []) (ct_isEmpty l Z a0 hw n0 h0 a1 cs (by omega) SX) d_prog_23_method_6_code_1 (hw _ (List.mem_of_getElem? (i := 33) rfl)) (hw _ (List.mem_of_getElem? (i := 34) rfl)) (hw _ (List.mem_of_getElem? (i := 36) rfl)) (hw _ (List.mem_of_getElem? (i := 36) rfl)) (hw _ (List.mem_of_getElem? (i := 35) rfl)) (hw _ (List.mem_of_getElem? (i := 10) rfl)) (hw _ (List.mem_of_getElem? (i := 37) rfl)) EX1 (by decide) (lenOf pd__28_29Z rfl) rfl 0 rfl rfl (by decide) (by decide) (by decide) (by decide) (fun _ q => nomatch q) rfl (fun v_1 h_2 N_3 hQ_4 hle_5 => ?_)
  obtain ⟨rfl, rfl⟩ := hQ_4
  refine Go.re (pc' := 4) (L' := #[.val (.ref a1), .unset, .unset, .unset]) (S' := [(.int (if cs = [] then (1 : Int32) else 0))]) rfl rfl rfl ?_
  refine Go.ifc (pc' := 9) (pc'' := 7) d_prog_23_method_6_code_4 (by decide) (by decide) rfl (fun hc_6 => ?_) (fun hc_6 => ?_)
  · have hc_6 : (if cs = [] then (1 : Int32) else 0) = 0 := hc_6
    refine Go.iconst (pc' := 10) 0 d_prog_23_method_6_code_9 rfl rfl ?_
    refine Go.istoreN (pc' := 11) #[.val (.ref a1), .val (.int (0 : Int32)), .unset, .unset] d_prog_23_method_6_code_10 rfl rfl ?_
    refine Go.mono (SL' := []) (fun _ q => nomatch q) ?_
    refine Go.indK (α := Nat × Heap × Slot × Slot) (fun x => cs.length - x.1) (fun x => x.1 ≤ cs.length ∧ Ext h0 x.2.1 ∧ (x.2.2.1 = .unset ∨ ∃ w, x.2.2.1 = .val w ∧ w.category = 1) ∧ (x.2.2.2 = .unset ∨ ∃ w, x.2.2.2 = .val w ∧ w.category = 1) ∧ ∀ j, j < x.1 → own_tc (cs.getD j 0)) (fun x => x.2.1) (fun x => 2 * x.1) (fun x => 64 * x.1) (fun x => #[.val (.ref a1), .val (.int (Int32.ofNat x.1)), x.2.2.1, x.2.2.2]) (fun _ => []) (fun x hx IH => ?_) (0, h0, .unset, .unset) ⟨Nat.zero_le _, ⟨Nat.le_refl _, fun _ _ q => q⟩, Or.inl rfl, Or.inl rfl, fun j hj => absurd hj (Nat.not_lt_zero _)⟩ rfl rfl rfl rfl rfl
    obtain ⟨i, h, t2, t3⟩ := x
    obtain ⟨hi, hE, ho_t2, ho_t3, hall⟩ := hx
    dsimp only at hi hE ho_t2 ho_t3 hall IH ⊢
    have SXh := SX.ext hE
    have szh : h0.size ≤ h.size := hE.1
    refine Go.iloadN (pc' := 12) d_prog_23_method_6_code_11 rfl rfl ?_
    refine Go.aloadN (pc' := 13) d_prog_23_method_6_code_12 rfl rfl rfl ?_
    have F_7 : Sta Z h "java/lang/String" "COMPACT_STRINGS" "Z" (.int cs_) := (Sta.ext hE S_cs)
    have F_13 : Exa Z h a1 "java/lang/String" := (Exa.ext hE EX1)
    refine Go.callV (a1 := a0) (pc' := 16) (argsL := []) (rest := [(.int (Int32.ofNat i))]) (ct_lengthX l Z a0 hw n0 h a1 cs (by omega) SXh cs_ F_7 hcs) d_prog_23_method_6_code_13 (hw _ (List.mem_of_getElem? (i := 52) rfl)) (hw _ (List.mem_of_getElem? (i := 53) rfl)) (hw _ (List.mem_of_getElem? (i := 55) rfl)) (hw _ (List.mem_of_getElem? (i := 55) rfl)) (hw _ (List.mem_of_getElem? (i := 54) rfl)) (hw _ (List.mem_of_getElem? (i := 10) rfl)) (hw _ (List.mem_of_getElem? (i := 56) rfl)) F_13 (by decide) (lenOf pd__28_29I rfl) rfl 1 rfl rfl (by decide) (by decide) (show 2 * i + 0 + 0 ≤ 8 by omega) (show 64 * i + 0 + 0 ≤ 256 by omega) (fun _ q => nomatch q) rfl (fun v_8 h_9 N_10 hQ_11 hle_12 => ?_)
    obtain ⟨rfl, rfl⟩ := hQ_11
    refine Go.re (pc' := 16) (L' := #[.val (.ref a1), .val (.int (Int32.ofNat i)), t2, t3]) (S' := [(.int (Int32.ofNat cs.length)), (.int (Int32.ofNat i))]) rfl rfl rfl ?_
    refine Go.icmp (pc' := 88) (pc'' := 19) d_prog_23_method_6_code_16 (by decide) (by decide) rfl (fun hc_14 => ?_) (fun hc_14 => ?_)
    · have hc_14 : ¬ ((Int32.ofNat i) < (Int32.ofNat cs.length)) := hc_14
      refine Go.iconst (pc' := 89) 1 d_prog_23_method_6_code_88 rfl rfl ?_
      refine Go.retN (t := .boolean) (1 : Int32) rfl (by simp) rfl [] (fun _ q => nomatch q) d_prog_23_method_6_code_89 (show 2 * i + 0 ≤ 8 by omega) (show 64 * i + 0 ≤ 256 by omega) ?_
      exact ⟨(Keep.ext (Keep.refl _ []) hE), Or.inl ⟨rfl, fun z => by have q := hc_6; rw [if_pos z] at q; exact absurd q (by decide), fun j hj => hall j (by have q := hc_14; rw [ofN_lt (by omega) (by omega)] at q; omega)⟩⟩
    · have hc_14 : (Int32.ofNat i) < (Int32.ofNat cs.length) := hc_14
      refine Go.aloadN (pc' := 20) d_prog_23_method_6_code_19 rfl rfl rfl ?_
      refine Go.iloadN (pc' := 21) d_prog_23_method_6_code_20 rfl rfl ?_
      have hil : i < cs.length := (ofN_lt (by omega) (by omega)).mp hc_14
      have hch0 := (hrg i hil).1
      have F_15 : Sta Z h "jdk/internal/util/Preconditions" "SIOOBE_FORMATTER" "Ljava/util/function/BiFunction;" sf := (Sta.ext hE S_sf)
      have F_16 : Sta Z h "java/lang/StringUTF16" "$assertionsDisabled" "Z" (.int (1 : Int32)) := (Sta.ext hE S_ad)
      have F_17 : Sta Z h "java/lang/StringUTF16" "HI_BYTE_SHIFT" "I" (.int (0 : Int32)) := (Sta.ext hE S_hi)
      have F_18 : Sta Z h "java/lang/StringUTF16" "LO_BYTE_SHIFT" "I" (.int (8 : Int32)) := (Sta.ext hE S_lo)
      refine Go.callV (a1 := a0) (pc' := 24) (argsL := [(.int (Int32.ofNat i))]) (rest := []) (ct_charAtX l Z a0 hw n0 h a1 cs (by omega) SXh hrg i hil sf hsf F_15 cs_ F_7 hcs F_16 F_17 F_18) d_prog_23_method_6_code_21 (hw _ (List.mem_of_getElem? (i := 62) rfl)) (hw _ (List.mem_of_getElem? (i := 63) rfl)) (hw _ (List.mem_of_getElem? (i := 65) rfl)) (hw _ (List.mem_of_getElem? (i := 65) rfl)) (hw _ (List.mem_of_getElem? (i := 64) rfl)) (hw _ (List.mem_of_getElem? (i := 10) rfl)) (hw _ (List.mem_of_getElem? (i := 66) rfl)) F_13 (by decide) (lenOf pd__28I_29C rfl) rfl 0 rfl rfl (by decide) (by decide) (show 2 * i + 0 + 0 ≤ 8 by omega) (show 64 * i + 0 + 0 ≤ 256 by omega) (fun _ q => nomatch q) rfl (fun v_19 h_20 N_21 hQ_22 hle_23 => ?_)
      obtain ⟨rfl, rfl⟩ := hQ_22
      refine Go.re (pc' := 24) (L' := #[.val (.ref a1), .val (.int (Int32.ofNat i)), t2, t3]) (S' := [(.int (cs.getD i 0))]) rfl rfl rfl ?_
      refine Go.istoreN (pc' := 25) #[.val (.ref a1), .val (.int (Int32.ofNat i)), .val (.int (cs.getD i 0)), t3] d_prog_23_method_6_code_24 (XS.store1 (o := t2) rfl ho_t2 rfl) rfl ?_
      refine Go.cutP (P := own_an (cs.getD i 0)) 61 #[.val (.ref a1), .val (.int (Int32.ofNat i)), .val (.int (cs.getD i 0)), t3] [] (fun hP_24 => ?_) (fun cut61 => ?_)
      · refine Go.re (pc' := 61) (L' := #[.val (.ref a1), .val (.int (Int32.ofNat i)), .val (.int (cs.getD i 0)), t3]) (S' := []) rfl rfl rfl ?_
        refine Go.iconst (pc' := 62) 1 d_prog_23_method_6_code_61 rfl rfl ?_
        refine Go.goto (pc' := 66) d_prog_23_method_6_code_62 (by decide) (by decide) ?_
        refine Go.istoreN (pc' := 67) #[.val (.ref a1), .val (.int (Int32.ofNat i)), .val (.int (cs.getD i 0)), .val (.int (1 : Int32))] d_prog_23_method_6_code_66 (XS.store1 (o := t3) rfl ho_t3 rfl) rfl ?_
        refine Go.iloadN (pc' := 68) d_prog_23_method_6_code_67 rfl rfl ?_
        refine Go.ifT (pc' := 82) d_prog_23_method_6_code_68 (show ¬ ((1 : Int32) = (0 : Int32)) by decide) (by decide) (by decide) ?_
        refine Go.iinc (pc' := 85) (Int32.ofNat (i + 1)) #[.val (.ref a1), .val (.int (Int32.ofNat (i + 1))), .val (.int (cs.getD i 0)), .val (.int (1 : Int32))] d_prog_23_method_6_code_82 rfl (ofN_succ _) rfl rfl ?_
        refine Go.goto (pc' := 11) d_prog_23_method_6_code_85 (by decide) (by decide) ?_
        refine Go.more (kc' := 2 * (i + 1)) (ks' := 64 * (i + 1)) (show 2 * i + 0 ≤ 2 * (i + 1) by omega) (show 64 * i + 0 ≤ 64 * (i + 1) by omega) ?_
        refine Go.mono (SL' := []) (fun _ q => nomatch q) ?_
        exact IH (i + 1, h, .val (.int (cs.getD i 0)), .val (.int (1 : Int32))) (show cs.length - (i + 1) < cs.length - i by omega) ⟨show i + 1 ≤ cs.length by omega, hE, Or.inr ⟨_, rfl, rfl⟩, Or.inr ⟨_, rfl, rfl⟩, fun j hj => by rcases Nat.lt_succ_iff_lt_or_eq.mp hj with q | rfl; exact hall j q; exact Or.inl hP_24⟩
      · refine Go.cutP (P := ¬ own_an (cs.getD i 0)) 65 #[.val (.ref a1), .val (.int (Int32.ofNat i)), .val (.int (cs.getD i 0)), t3] [] (fun hP_25 => ?_) (fun cut65 => ?_)
        · refine Go.re (pc' := 65) (L' := #[.val (.ref a1), .val (.int (Int32.ofNat i)), .val (.int (cs.getD i 0)), t3]) (S' := []) rfl rfl rfl ?_
          refine Go.iconst (pc' := 66) 0 d_prog_23_method_6_code_65 rfl rfl ?_
          refine Go.istoreN (pc' := 67) #[.val (.ref a1), .val (.int (Int32.ofNat i)), .val (.int (cs.getD i 0)), .val (.int (0 : Int32))] d_prog_23_method_6_code_66 (XS.store1 (o := t3) rfl ho_t3 rfl) rfl ?_
          refine Go.iloadN (pc' := 68) d_prog_23_method_6_code_67 rfl rfl ?_
          refine Go.ifF (pc' := 71) d_prog_23_method_6_code_68 (show (0 : Int32) = (0 : Int32) by decide) rfl ?_
          refine Go.ldcR (pc' := 73) (a1 := a0) 60 (vs := [(.int (33 : Int32)), (.int (35 : Int32)), (.int (36 : Int32)), (.int (37 : Int32)), (.int (38 : Int32)), (.int (39 : Int32)), (.int (42 : Int32)), (.int (43 : Int32)), (.int (45 : Int32)), (.int (46 : Int32)), (.int (94 : Int32)), (.int (95 : Int32)), (.int (96 : Int32)), (.int (124 : Int32)), (.int (126 : Int32))]) (z := 15) d_prog_23_method_6_code_71 rfl (hw _ (List.mem_of_getElem? (i := 84) rfl)) (own_ws hw) (by decide) (by decide) (show 2 * i + 0 + 2 ≤ 8 by omega) (show 64 * i + 0 + 64 ≤ 256 by omega) rfl (own_ew hw) (List.mem_of_getElem? (i := 0) rfl) ⟨by decide, by decide⟩ (by decide) (by decide) (fun a_26 h_27 b_28 k_29 E_30 X_31 F_32 F_33 A_34 ne_35 => ?_)
          have szh_27 : h.size ≤ h_27.size := E_30.1
          have lta_26 := nlt X_31.lt
          have ltb_28 := nlt A_34.lt
          refine Go.iloadN (pc' := 74) d_prog_23_method_6_code_73 rfl rfl ?_
          have F_38 : Sta Z h_27 "java/lang/String" "COMPACT_STRINGS" "Z" (.int cs_) := (Sta.ext E_30 F_7)
          refine Go.callV (a1 := a0) (pc' := 77) (argsL := [(.int (cs.getD i 0))]) (rest := []) (ct_io2 l Z a0 hw n0 h_27 a_26 b_28 k_29 (cs.getD i 0) hch0 cs_ F_38 hcs X_31 F_32 F_33 A_34) d_prog_23_method_6_code_74 (hw _ (List.mem_of_getElem? (i := 85) rfl)) (hw _ (List.mem_of_getElem? (i := 86) rfl)) (hw _ (List.mem_of_getElem? (i := 88) rfl)) (hw _ (List.mem_of_getElem? (i := 88) rfl)) (hw _ (List.mem_of_getElem? (i := 87) rfl)) (hw _ (List.mem_of_getElem? (i := 10) rfl)) (hw _ (List.mem_of_getElem? (i := 89) rfl)) X_31 (by decide) (lenOf pd__28I_29I rfl) rfl 0 rfl rfl (by decide) (by decide) (show 2 * i + 2 + 0 ≤ 8 by omega) (show 64 * i + 64 + 0 ≤ 256 by omega) (fun _ q => nomatch q) rfl (fun v_39 h_40 N_41 hQ_42 hle_43 => ?_)
          obtain ⟨rfl, hi_36⟩ := hQ_42
          rcases hi_36 with ⟨hi_36, r_37, rfl, hr_r_37⟩ | ⟨hi_36, rfl⟩
          · refine Go.re (pc' := 77) (L' := #[.val (.ref a1), .val (.int (Int32.ofNat i)), .val (.int (cs.getD i 0)), .val (.int (0 : Int32))]) (S' := [(.int r_37)]) rfl rfl rfl ?_
            refine Go.ifT (pc' := 82) d_prog_23_method_6_code_77 (hr_r_37) (by decide) (by decide) ?_
            refine Go.iinc (pc' := 85) (Int32.ofNat (i + 1)) #[.val (.ref a1), .val (.int (Int32.ofNat (i + 1))), .val (.int (cs.getD i 0)), .val (.int (0 : Int32))] d_prog_23_method_6_code_82 rfl (ofN_succ _) rfl rfl ?_
            refine Go.goto (pc' := 11) d_prog_23_method_6_code_85 (by decide) (by decide) ?_
            refine Go.more (kc' := 2 * (i + 1)) (ks' := 64 * (i + 1)) (show 2 * i + 2 ≤ 2 * (i + 1) by omega) (show 64 * i + 64 ≤ 64 * (i + 1) by omega) ?_
            refine Go.mono (SL' := []) (fun _ q => nomatch q) ?_
            exact IH (i + 1, h_27, .val (.int (cs.getD i 0)), .val (.int (0 : Int32))) (show cs.length - (i + 1) < cs.length - i by omega) ⟨show i + 1 ≤ cs.length by omega, ⟨Nat.le_trans hE.1 E_30.1, fun a c q => E_30.2 a c (hE.2 a c q)⟩, Or.inr ⟨_, rfl, rfl⟩, Or.inr ⟨_, rfl, rfl⟩, fun j hj => by rcases Nat.lt_succ_iff_lt_or_eq.mp hj with q | rfl; exact hall j q; exact Or.inr hi_36⟩
          · refine Go.re (pc' := 77) (L' := #[.val (.ref a1), .val (.int (Int32.ofNat i)), .val (.int (cs.getD i 0)), .val (.int (0 : Int32))]) (S' := [(.int (-1 : Int32))]) rfl rfl rfl ?_
            refine Go.ifF (pc' := 80) d_prog_23_method_6_code_77 (show (-1 : Int32) < (0 : Int32) by decide) rfl ?_
            refine Go.iconst (pc' := 81) 0 d_prog_23_method_6_code_80 rfl rfl ?_
            refine Go.retN (t := .boolean) (0 : Int32) rfl (by simp) rfl [] (fun _ q => nomatch q) d_prog_23_method_6_code_81 (show 2 * i + 2 ≤ 8 by omega) (show 64 * i + 64 ≤ 256 by omega) ?_
            exact ⟨(Keep.ext (Keep.ext (Keep.refl _ []) hE) E_30), Or.inr ⟨rfl, Or.inr ⟨i, hil, fun q => q.elim hP_25 hi_36⟩⟩⟩
        · refine Go.iloadN (pc' := 26) d_prog_23_method_6_code_25 rfl rfl ?_
          refine Go.bipush (pc' := 28) 97 d_prog_23_method_6_code_26 rfl rfl ?_
          refine Go.icmp (pc' := 37) (pc'' := 31) d_prog_23_method_6_code_28 (by decide) (by decide) rfl (fun hc_44 => ?_) (fun hc_44 => ?_)
          · have hc_44 : (cs.getD i 0) < (97 : Int32) := hc_44
            refine Go.iloadN (pc' := 38) d_prog_23_method_6_code_37 rfl rfl ?_
            refine Go.bipush (pc' := 40) 65 d_prog_23_method_6_code_38 rfl rfl ?_
            refine Go.icmp (pc' := 49) (pc'' := 43) d_prog_23_method_6_code_40 (by decide) (by decide) rfl (fun hc_45 => ?_) (fun hc_45 => ?_)
            · have hc_45 : (cs.getD i 0) < (65 : Int32) := hc_45
              refine Go.iloadN (pc' := 50) d_prog_23_method_6_code_49 rfl rfl ?_
              refine Go.bipush (pc' := 52) 48 d_prog_23_method_6_code_50 rfl rfl ?_
              refine Go.icmp (pc' := 65) (pc'' := 55) d_prog_23_method_6_code_52 (by decide) (by decide) rfl (fun hc_46 => ?_) (fun hc_46 => ?_)
              · have hc_46 : (cs.getD i 0) < (48 : Int32) := hc_46
                exact cut65 (fun q => q.elim (fun z => absurd hc_44 z.1) (fun q => q.elim (fun z => absurd hc_45 z.1) (fun z => absurd hc_46 z.1)))
              · have hc_46 : ¬ ((cs.getD i 0) < (48 : Int32)) := hc_46
                refine Go.iloadN (pc' := 56) d_prog_23_method_6_code_55 rfl rfl ?_
                refine Go.bipush (pc' := 58) 57 d_prog_23_method_6_code_56 rfl rfl ?_
                refine Go.icmp (pc' := 65) (pc'' := 61) d_prog_23_method_6_code_58 (by decide) (by decide) rfl (fun hc_47 => ?_) (fun hc_47 => ?_)
                · have hc_47 : (57 : Int32) < (cs.getD i 0) := hc_47
                  exact cut65 (fun q => q.elim (fun z => absurd hc_44 z.1) (fun q => q.elim (fun z => absurd hc_45 z.1) (fun z => absurd hc_47 z.2)))
                · have hc_47 : ¬ ((57 : Int32) < (cs.getD i 0)) := hc_47
                  exact cut61 (Or.inr (Or.inr ⟨hc_46, hc_47⟩))
            · have hc_45 : ¬ ((cs.getD i 0) < (65 : Int32)) := hc_45
              refine Go.iloadN (pc' := 44) d_prog_23_method_6_code_43 rfl rfl ?_
              refine Go.bipush (pc' := 46) 90 d_prog_23_method_6_code_44 rfl rfl ?_
              refine Go.icmp (pc' := 61) (pc'' := 49) d_prog_23_method_6_code_46 (by decide) (by decide) rfl (fun hc_48 => ?_) (fun hc_48 => ?_)
              · have hc_48 : ¬ ((90 : Int32) < (cs.getD i 0)) := hc_48
                exact cut61 (Or.inr (Or.inl ⟨hc_45, hc_48⟩))
              · have hc_48 : (90 : Int32) < (cs.getD i 0) := hc_48
                refine Go.iloadN (pc' := 50) d_prog_23_method_6_code_49 rfl rfl ?_
                refine Go.bipush (pc' := 52) 48 d_prog_23_method_6_code_50 rfl rfl ?_
                refine Go.icmp (pc' := 65) (pc'' := 55) d_prog_23_method_6_code_52 (by decide) (by decide) rfl (fun hc_49 => ?_) (fun hc_49 => ?_)
                · have hc_49 : (cs.getD i 0) < (48 : Int32) := hc_49
                  exact cut65 (fun q => q.elim (fun z => absurd hc_44 z.1) (fun q => q.elim (fun z => absurd hc_48 z.2) (fun z => absurd hc_49 z.1)))
                · have hc_49 : ¬ ((cs.getD i 0) < (48 : Int32)) := hc_49
                  refine Go.iloadN (pc' := 56) d_prog_23_method_6_code_55 rfl rfl ?_
                  refine Go.bipush (pc' := 58) 57 d_prog_23_method_6_code_56 rfl rfl ?_
                  refine Go.icmp (pc' := 65) (pc'' := 61) d_prog_23_method_6_code_58 (by decide) (by decide) rfl (fun hc_50 => ?_) (fun hc_50 => ?_)
                  · have hc_50 : (57 : Int32) < (cs.getD i 0) := hc_50
                    exact cut65 (fun q => q.elim (fun z => absurd hc_44 z.1) (fun q => q.elim (fun z => absurd hc_48 z.2) (fun z => absurd hc_50 z.2)))
                  · have hc_50 : ¬ ((57 : Int32) < (cs.getD i 0)) := hc_50
                    exact cut61 (Or.inr (Or.inr ⟨hc_49, hc_50⟩))
          · have hc_44 : ¬ ((cs.getD i 0) < (97 : Int32)) := hc_44
            refine Go.iloadN (pc' := 32) d_prog_23_method_6_code_31 rfl rfl ?_
            refine Go.bipush (pc' := 34) 122 d_prog_23_method_6_code_32 rfl rfl ?_
            refine Go.icmp (pc' := 61) (pc'' := 37) d_prog_23_method_6_code_34 (by decide) (by decide) rfl (fun hc_51 => ?_) (fun hc_51 => ?_)
            · have hc_51 : ¬ ((122 : Int32) < (cs.getD i 0)) := hc_51
              exact cut61 (Or.inl ⟨hc_44, hc_51⟩)
            · have hc_51 : (122 : Int32) < (cs.getD i 0) := hc_51
              refine Go.iloadN (pc' := 38) d_prog_23_method_6_code_37 rfl rfl ?_
              refine Go.bipush (pc' := 40) 65 d_prog_23_method_6_code_38 rfl rfl ?_
              refine Go.icmp (pc' := 49) (pc'' := 43) d_prog_23_method_6_code_40 (by decide) (by decide) rfl (fun hc_52 => ?_) (fun hc_52 => ?_)
              · have hc_52 : (cs.getD i 0) < (65 : Int32) := hc_52
                refine Go.iloadN (pc' := 50) d_prog_23_method_6_code_49 rfl rfl ?_
                refine Go.bipush (pc' := 52) 48 d_prog_23_method_6_code_50 rfl rfl ?_
                refine Go.icmp (pc' := 65) (pc'' := 55) d_prog_23_method_6_code_52 (by decide) (by decide) rfl (fun hc_53 => ?_) (fun hc_53 => ?_)
                · have hc_53 : (cs.getD i 0) < (48 : Int32) := hc_53
                  exact cut65 (fun q => q.elim (fun z => absurd hc_51 z.2) (fun q => q.elim (fun z => absurd hc_52 z.1) (fun z => absurd hc_53 z.1)))
                · have hc_53 : ¬ ((cs.getD i 0) < (48 : Int32)) := hc_53
                  refine Go.iloadN (pc' := 56) d_prog_23_method_6_code_55 rfl rfl ?_
                  refine Go.bipush (pc' := 58) 57 d_prog_23_method_6_code_56 rfl rfl ?_
                  refine Go.icmp (pc' := 65) (pc'' := 61) d_prog_23_method_6_code_58 (by decide) (by decide) rfl (fun hc_54 => ?_) (fun hc_54 => ?_)
                  · have hc_54 : (57 : Int32) < (cs.getD i 0) := hc_54
                    exact cut65 (fun q => q.elim (fun z => absurd hc_51 z.2) (fun q => q.elim (fun z => absurd hc_52 z.1) (fun z => absurd hc_54 z.2)))
                  · have hc_54 : ¬ ((57 : Int32) < (cs.getD i 0)) := hc_54
                    exact cut61 (Or.inr (Or.inr ⟨hc_53, hc_54⟩))
              · have hc_52 : ¬ ((cs.getD i 0) < (65 : Int32)) := hc_52
                refine Go.iloadN (pc' := 44) d_prog_23_method_6_code_43 rfl rfl ?_
                refine Go.bipush (pc' := 46) 90 d_prog_23_method_6_code_44 rfl rfl ?_
                refine Go.icmp (pc' := 61) (pc'' := 49) d_prog_23_method_6_code_46 (by decide) (by decide) rfl (fun hc_55 => ?_) (fun hc_55 => ?_)
                · have hc_55 : ¬ ((90 : Int32) < (cs.getD i 0)) := hc_55
                  exact cut61 (Or.inr (Or.inl ⟨hc_52, hc_55⟩))
                · have hc_55 : (90 : Int32) < (cs.getD i 0) := hc_55
                  refine Go.iloadN (pc' := 50) d_prog_23_method_6_code_49 rfl rfl ?_
                  refine Go.bipush (pc' := 52) 48 d_prog_23_method_6_code_50 rfl rfl ?_
                  refine Go.icmp (pc' := 65) (pc'' := 55) d_prog_23_method_6_code_52 (by decide) (by decide) rfl (fun hc_56 => ?_) (fun hc_56 => ?_)
                  · have hc_56 : (cs.getD i 0) < (48 : Int32) := hc_56
                    exact cut65 (fun q => q.elim (fun z => absurd hc_51 z.2) (fun q => q.elim (fun z => absurd hc_55 z.2) (fun z => absurd hc_56 z.1)))
                  · have hc_56 : ¬ ((cs.getD i 0) < (48 : Int32)) := hc_56
                    refine Go.iloadN (pc' := 56) d_prog_23_method_6_code_55 rfl rfl ?_
                    refine Go.bipush (pc' := 58) 57 d_prog_23_method_6_code_56 rfl rfl ?_
                    refine Go.icmp (pc' := 65) (pc'' := 61) d_prog_23_method_6_code_58 (by decide) (by decide) rfl (fun hc_57 => ?_) (fun hc_57 => ?_)
                    · have hc_57 : (57 : Int32) < (cs.getD i 0) := hc_57
                      exact cut65 (fun q => q.elim (fun z => absurd hc_51 z.2) (fun q => q.elim (fun z => absurd hc_55 z.2) (fun z => absurd hc_57 z.2)))
                    · have hc_57 : ¬ ((57 : Int32) < (cs.getD i 0)) := hc_57
                      exact cut61 (Or.inr (Or.inr ⟨hc_56, hc_57⟩))
  · have hc_6 : ¬ ((if cs = [] then (1 : Int32) else 0) = 0) := hc_6
    refine Go.iconst (pc' := 8) 0 d_prog_23_method_6_code_7 rfl rfl ?_
    refine Go.retN (t := .boolean) (0 : Int32) rfl (by simp) rfl [] (fun _ q => nomatch q) d_prog_23_method_6_code_8 (by decide) (by decide) ?_
    exact ⟨(Keep.refl _ []), Or.inr ⟨rfl, Or.inl (by have q := hc_6; by_cases z : cs = []; exact z; rw [if_neg z] at q; exact absurd rfl q)⟩⟩
theorem d_method_2_code_0 : decode method_2_code 0 = .ok (.iload_n 0, 1) := by decide +kernel
theorem d_method_2_code_1 : decode method_2_code 1 = .ok (.ldc 7, 2) := by decide +kernel
theorem d_method_2_code_3 : decode method_2_code 3 = .ok (.iand, 1) := by decide +kernel
theorem d_method_2_code_4 : decode method_2_code 4 = .ok (.ifCond .eq 11, 3) := by decide +kernel
theorem d_method_2_code_15 : decode method_2_code 15 = .ok (.iload_n 0, 1) := by decide +kernel
theorem d_method_2_code_16 : decode method_2_code 16 = .ok (.ldc 8, 2) := by decide +kernel
theorem d_method_2_code_18 : decode method_2_code 18 = .ok (.iand, 1) := by decide +kernel
theorem d_method_2_code_19 : decode method_2_code 19 = .ok (.i2c, 1) := by decide +kernel
theorem d_method_2_code_20 : decode method_2_code 20 = .ok (.ireturn, 1) := by decide +kernel
theorem d_method_2_code_7 : decode method_2_code 7 = .ok (.iload_n 0, 1) := by decide +kernel
theorem d_method_2_code_8 : decode method_2_code 8 = .ok (.bipush 127, 2) := by decide +kernel
theorem d_method_2_code_10 : decode method_2_code 10 = .ok (.iand, 1) := by decide +kernel
theorem d_method_2_code_11 : decode method_2_code 11 = .ok (.i2c, 1) := by decide +kernel
theorem d_method_2_code_12 : decode method_2_code 12 = .ok (.goto 8, 3) := by decide +kernel
set_option maxRecDepth 65536 in
set_option maxHeartbeats 40000000 in
theorem ct_draw (l : Launch) (Z : State) (a0 : Array Value) (hw : ∀ d ∈ tables_1, d.before a0 Z = true) (n0 : Nat) (h0 : Heap) (p1 : Int32) :
    Ct l Z (⟨"com/example/idempotency_key_store/idempotencykeystore/MediaTypesIsTokenPinLaw", "draw", "(I)C"⟩ : MethodName) method_2_code 1 (some .char) ({ frames := 0, cells := 0, slots := 0, locals := 0 } : Room) EL1 n0 true [] #[(.int p1)] h0 [] (fun v h N => h0 = h ∧ ∃ x, v = some (.int (nar .char x))) := by
  refine Ct.of (a0 := a0) (plainFor_of_name pn_com_example_idempotency_key_store_idempotencykeystore_MediaTypesIsTokenPinLaw) (own_ew hw) (L0 := #[.val (.int p1)]) (fun m => by first | (simp [entryFrame, mkF, argsToLocals, Value.category]; done) | rfl) ?_
  refine Go.iloadN (pc' := 1) d_method_2_code_0 rfl rfl ?_
  refine Go.ldcI (pc' := 3) (a1 := a0) d_method_2_code_1 (hw _ (List.mem_of_getElem? (i := 5) rfl)) rfl ?_
  refine Go.iand (pc' := 4) d_method_2_code_3 rfl ?_
  refine Go.ifc (pc' := 15) (pc'' := 7) d_method_2_code_4 (by decide) (by decide) rfl (fun hc_1 => ?_) (fun hc_1 => ?_)
  · have hc_1 : (p1 &&& (65536 : Int32)) = 0 := hc_1
    refine Go.iloadN (pc' := 16) d_method_2_code_15 rfl rfl ?_
    refine Go.ldcI (pc' := 18) (a1 := a0) d_method_2_code_16 (hw _ (List.mem_of_getElem? (i := 6) rfl)) rfl ?_
    refine Go.iand (pc' := 19) d_method_2_code_18 rfl ?_
    refine Go.i2c (pc' := 20) d_method_2_code_19 rfl ?_
    refine Go.retN (t := .char) (nar .char (p1 &&& (65535 : Int32))) rfl (by simp) (nar_cc _) [] (fun _ q => nomatch q) d_method_2_code_20 (by decide) (by decide) ?_
    exact ⟨rfl, _, rfl⟩
  · have hc_1 : ¬ ((p1 &&& (65536 : Int32)) = 0) := hc_1
    refine Go.iloadN (pc' := 8) d_method_2_code_7 rfl rfl ?_
    refine Go.bipush (pc' := 10) 127 d_method_2_code_8 rfl rfl ?_
    refine Go.iand (pc' := 11) d_method_2_code_10 rfl ?_
    refine Go.i2c (pc' := 12) d_method_2_code_11 rfl ?_
    refine Go.goto (pc' := 20) d_method_2_code_12 (by decide) (by decide) ?_
    refine Go.retN (t := .char) (nar .char (p1 &&& (127 : Int32))) rfl (by simp) (nar_cc _) [] (fun _ q => nomatch q) d_method_2_code_20 (by decide) (by decide) ?_
    exact ⟨rfl, _, rfl⟩
theorem own_m5 (x : Int32) : (x &&& 2147483647) % 5 = 0 ∨ (x &&& 2147483647) % 5 = 1 ∨ (x &&& 2147483647) % 5 = 2 ∨ (x &&& 2147483647) % 5 = 3 ∨ (x &&& 2147483647) % 5 = 4 := by
  have h1 : ¬ (x &&& 2147483647) < 0 := by
    intro z
    exact absurd ((XT.and_neg32 x 2147483647).mp z).2 (by decide)
  generalize (x &&& 2147483647) = y at *
  rw [Int32.lt_iff_toInt_lt] at h1
  have e0 : (0 : Int32).toInt = 0 := by decide
  have e3 : (5 : Int32).toInt = 5 := by decide
  have hm : (y % 5).toInt = y.toInt.tmod 5 := by rw [Int32.toInt_mod, e3]
  have hb : y.toInt.tmod 5 = y.toInt % 5 := Int.tmod_eq_emod_of_nonneg (by omega)
  have h3 : (y % 5).toInt = 0 ∨ (y % 5).toInt = 1 ∨ (y % 5).toInt = 2 ∨ (y % 5).toInt = 3 ∨ (y % 5).toInt = 4 := by omega
  rcases h3 with q | q | q | q | q
  · exact Or.inl (Int32.toInt_inj.mp (q.trans (by decide)))
  · exact Or.inr (Or.inl (Int32.toInt_inj.mp (q.trans (by decide))))
  · exact Or.inr (Or.inr (Or.inl (Int32.toInt_inj.mp (q.trans (by decide)))))
  · exact Or.inr (Or.inr (Or.inr (Or.inl (Int32.toInt_inj.mp (q.trans (by decide))))))
  · exact Or.inr (Or.inr (Or.inr (Or.inr (Int32.toInt_inj.mp (q.trans (by decide))))))
theorem own_no1 {c0 : Int32} (h0 : own_tc c0) : ¬ ([c0] = [] ∨ ∃ j, j < [c0].length ∧ ¬ own_tc ([c0].getD j 0)) := by
  rintro (q | ⟨j, hj, q⟩)
  · cases q
  · match j, hj with
    | 0, _ => exact q h0
theorem own_no2 {c0 c1 : Int32} (h0 : own_tc c0) (h1 : own_tc c1) : ¬ ([c0, c1] = [] ∨ ∃ j, j < [c0, c1].length ∧ ¬ own_tc ([c0, c1].getD j 0)) := by
  rintro (q | ⟨j, hj, q⟩)
  · cases q
  · match j, hj with
    | 0, _ => exact q h0
    | 1, _ => exact q h1
theorem own_no3 {c0 c1 c2 : Int32} (h0 : own_tc c0) (h1 : own_tc c1) (h2 : own_tc c2) : ¬ ([c0, c1, c2] = [] ∨ ∃ j, j < [c0, c1, c2].length ∧ ¬ own_tc ([c0, c1, c2].getD j 0)) := by
  rintro (q | ⟨j, hj, q⟩)
  · cases q
  · match j, hj with
    | 0, _ => exact q h0
    | 1, _ => exact q h1
    | 2, _ => exact q h2
theorem own_no4 {c0 c1 c2 c3 : Int32} (h0 : own_tc c0) (h1 : own_tc c1) (h2 : own_tc c2) (h3 : own_tc c3) : ¬ ([c0, c1, c2, c3] = [] ∨ ∃ j, j < [c0, c1, c2, c3].length ∧ ¬ own_tc ([c0, c1, c2, c3].getD j 0)) := by
  rintro (q | ⟨j, hj, q⟩)
  · cases q
  · match j, hj with
    | 0, _ => exact q h0
    | 1, _ => exact q h1
    | 2, _ => exact q h2
    | 3, _ => exact q h3
theorem pd__28_5bC_29V : parseMethodDescriptor "([C)V" = some ⟨[(.array .char)], none⟩ := by decide +kernel
theorem pd__28Ljava_2flang_2fString_3b_29Z : parseMethodDescriptor "(Ljava/lang/String;)Z" = some ⟨[(.object "java/lang/String")], (some .boolean)⟩ := by decide +kernel
theorem pd__28C_29Z : parseMethodDescriptor "(C)Z" = some ⟨[.char], (some .boolean)⟩ := by decide +kernel
set_option maxRecDepth 65536 in
set_option maxHeartbeats 40000000 in
theorem ct_law (l : Launch) (Z : State) (a0 : Array Value) (hw : ∀ d ∈ tables_1, d.before a0 Z = true) (n0 : Nat) (h0 : Heap) (p0 p1 p2 p3 p4 : Int32) (hn0 : n0 ≤ h0.size) (sf : Value) (hsf : sf.isRef = true) (S_sf : Sta Z h0 "jdk/internal/util/Preconditions" "SIOOBE_FORMATTER" "Ljava/util/function/BiFunction;" sf) (cs : Int32) (S_cs : Sta Z h0 "java/lang/String" "COMPACT_STRINGS" "Z" (.int cs)) (hcs : ¬ cs = 0) (S_ad : Sta Z h0 "java/lang/StringUTF16" "$assertionsDisabled" "Z" (.int (1 : Int32))) (S_hi : Sta Z h0 "java/lang/StringUTF16" "HI_BYTE_SHIFT" "I" (.int (0 : Int32))) (S_lo : Sta Z h0 "java/lang/StringUTF16" "LO_BYTE_SHIFT" "I" (.int (8 : Int32))) :
    Ct l Z x code maxLocals ret room_1 EL1 n0 true tables_1 #[(.int p0), (.int p1), (.int p2), (.int p3), (.int p4)] h0 [] (fun v h N => v = some (.int 1)) := by
  refine Ct.of (a0 := a0) (plainFor_of_name pn_com_example_idempotency_key_store_idempotencykeystore_MediaTypesIsTokenPinLaw) (own_ew hw) (L0 := #[.val (.int p0), .val (.int p1), .val (.int p2), .val (.int p3), .val (.int p4), .unset, .unset, .unset, .unset, .unset, .unset, .unset, .unset]) (fun m => by first | (simp [entryFrame, mkF, argsToLocals, Value.category, maxLocals]; done) | rfl) ?_
  refine Go.iload (pc' := 2) at_0 rfl rfl ?_
  refine Go.ldcI (pc' := 4) (a1 := a0) at_2 (hw _ (List.mem_of_getElem? (i := 0) rfl)) rfl ?_
  refine Go.iand (pc' := 5) at_4 rfl ?_
  refine Go.iconst (pc' := 6) 5 at_5 rfl rfl ?_
  refine Go.irem (pc' := 7) at_6 (by decide) rfl ?_
  rcases own_m5 p4 with hn_1 | hn_1 | hn_1 | hn_1 | hn_1
  · refine Go.re (pc' := 7) (L' := #[.val (.int p0), .val (.int p1), .val (.int p2), .val (.int p3), .val (.int p4), .unset, .unset, .unset, .unset, .unset, .unset, .unset, .unset]) (S' := [(.int (0 : Int32))]) rfl rfl (congrArg (fun z => Value.int z :: _) hn_1) ?_
    refine Go.istore (pc' := 9) #[.val (.int p0), .val (.int p1), .val (.int p2), .val (.int p3), .val (.int p4), .val (.int (0 : Int32)), .unset, .unset, .unset, .unset, .unset, .unset, .unset] at_7 rfl rfl ?_
    refine Go.iloadN (pc' := 10) at_9 rfl rfl ?_
    refine Go.callS (a1 := a0) (pc' := 13) (argsL := [(.int p0)]) (rest := []) (ct_draw l Z a0 hw n0 h0 p0) at_10 (hw _ (List.mem_of_getElem? (i := 1) rfl)) (hw _ (List.mem_of_getElem? (i := 2) rfl)) (hw _ (List.mem_of_getElem? (i := 3) rfl)) (hw _ (List.mem_of_getElem? (i := 4) rfl)) (by decide) (lenOf pd__28I_29C rfl) rfl 0 rfl rfl (by decide) (by decide) (by decide) (by decide) (fun _ q => nomatch q) rfl (fun v_3 h_4 N_5 hQ_6 hle_7 => ?_)
    obtain ⟨rfl, x_2, rfl⟩ := hQ_6
    refine Go.re (pc' := 13) (L' := #[.val (.int p0), .val (.int p1), .val (.int p2), .val (.int p3), .val (.int p4), .val (.int (0 : Int32)), .unset, .unset, .unset, .unset, .unset, .unset, .unset]) (S' := [(.int (nar .char x_2))]) rfl rfl rfl ?_
    refine Go.istore (pc' := 15) #[.val (.int p0), .val (.int p1), .val (.int p2), .val (.int p3), .val (.int p4), .val (.int (0 : Int32)), .val (.int (nar .char x_2)), .unset, .unset, .unset, .unset, .unset, .unset] at_13 rfl rfl ?_
    refine Go.iloadN (pc' := 16) at_15 rfl rfl ?_
    refine Go.callS (a1 := a0) (pc' := 19) (argsL := [(.int p1)]) (rest := []) (ct_draw l Z a0 hw n0 h0 p1) at_16 (hw _ (List.mem_of_getElem? (i := 1) rfl)) (hw _ (List.mem_of_getElem? (i := 2) rfl)) (hw _ (List.mem_of_getElem? (i := 3) rfl)) (hw _ (List.mem_of_getElem? (i := 4) rfl)) (by decide) (lenOf pd__28I_29C rfl) rfl 0 rfl rfl (by decide) (by decide) (by decide) (by decide) (fun _ q => nomatch q) rfl (fun v_9 h_10 N_11 hQ_12 hle_13 => ?_)
    obtain ⟨rfl, x_8, rfl⟩ := hQ_12
    refine Go.re (pc' := 19) (L' := #[.val (.int p0), .val (.int p1), .val (.int p2), .val (.int p3), .val (.int p4), .val (.int (0 : Int32)), .val (.int (nar .char x_2)), .unset, .unset, .unset, .unset, .unset, .unset]) (S' := [(.int (nar .char x_8))]) rfl rfl rfl ?_
    refine Go.istore (pc' := 21) #[.val (.int p0), .val (.int p1), .val (.int p2), .val (.int p3), .val (.int p4), .val (.int (0 : Int32)), .val (.int (nar .char x_2)), .val (.int (nar .char x_8)), .unset, .unset, .unset, .unset, .unset] at_19 rfl rfl ?_
    refine Go.iloadN (pc' := 22) at_21 rfl rfl ?_
    refine Go.callS (a1 := a0) (pc' := 25) (argsL := [(.int p2)]) (rest := []) (ct_draw l Z a0 hw n0 h0 p2) at_22 (hw _ (List.mem_of_getElem? (i := 1) rfl)) (hw _ (List.mem_of_getElem? (i := 2) rfl)) (hw _ (List.mem_of_getElem? (i := 3) rfl)) (hw _ (List.mem_of_getElem? (i := 4) rfl)) (by decide) (lenOf pd__28I_29C rfl) rfl 0 rfl rfl (by decide) (by decide) (by decide) (by decide) (fun _ q => nomatch q) rfl (fun v_15 h_16 N_17 hQ_18 hle_19 => ?_)
    obtain ⟨rfl, x_14, rfl⟩ := hQ_18
    refine Go.re (pc' := 25) (L' := #[.val (.int p0), .val (.int p1), .val (.int p2), .val (.int p3), .val (.int p4), .val (.int (0 : Int32)), .val (.int (nar .char x_2)), .val (.int (nar .char x_8)), .unset, .unset, .unset, .unset, .unset]) (S' := [(.int (nar .char x_14))]) rfl rfl rfl ?_
    refine Go.istore (pc' := 27) #[.val (.int p0), .val (.int p1), .val (.int p2), .val (.int p3), .val (.int p4), .val (.int (0 : Int32)), .val (.int (nar .char x_2)), .val (.int (nar .char x_8)), .val (.int (nar .char x_14)), .unset, .unset, .unset, .unset] at_25 rfl rfl ?_
    refine Go.iloadN (pc' := 28) at_27 rfl rfl ?_
    refine Go.callS (a1 := a0) (pc' := 31) (argsL := [(.int p3)]) (rest := []) (ct_draw l Z a0 hw n0 h0 p3) at_28 (hw _ (List.mem_of_getElem? (i := 1) rfl)) (hw _ (List.mem_of_getElem? (i := 2) rfl)) (hw _ (List.mem_of_getElem? (i := 3) rfl)) (hw _ (List.mem_of_getElem? (i := 4) rfl)) (by decide) (lenOf pd__28I_29C rfl) rfl 0 rfl rfl (by decide) (by decide) (by decide) (by decide) (fun _ q => nomatch q) rfl (fun v_21 h_22 N_23 hQ_24 hle_25 => ?_)
    obtain ⟨rfl, x_20, rfl⟩ := hQ_24
    refine Go.re (pc' := 31) (L' := #[.val (.int p0), .val (.int p1), .val (.int p2), .val (.int p3), .val (.int p4), .val (.int (0 : Int32)), .val (.int (nar .char x_2)), .val (.int (nar .char x_8)), .val (.int (nar .char x_14)), .unset, .unset, .unset, .unset]) (S' := [(.int (nar .char x_20))]) rfl rfl rfl ?_
    refine Go.istore (pc' := 33) #[.val (.int p0), .val (.int p1), .val (.int p2), .val (.int p3), .val (.int p4), .val (.int (0 : Int32)), .val (.int (nar .char x_2)), .val (.int (nar .char x_8)), .val (.int (nar .char x_14)), .val (.int (nar .char x_20)), .unset, .unset, .unset] at_31 rfl rfl ?_
    refine Go.iload (pc' := 35) at_33 rfl rfl ?_
    refine Go.ifF (pc' := 38) at_35 (show (0 : Int32) = (0 : Int32) by decide) rfl ?_
    refine Go.iconst (pc' := 39) 0 at_38 rfl rfl ?_
    refine Go.newPV (pc' := 41) (a1 := a0) 0 [] at_39 (hw _ (List.mem_of_getElem? (i := 7) rfl)) (by decide) (by decide) (by decide) (by decide) (by decide) rfl rfl (fun a_26 h_27 cA_28 ha_29 E_30 A_31 => ?_)
    have szh_27 : h0.size ≤ h_27.size := E_30.1
    have lta_26 := nlt A_31.lt
    have qa_26 := neq ha_29
    have F_32 : Arv Z h_27 a_26 cA_28 .char (0 : Int32) [] (.int 0) := A_31
    refine Go.astore (pc' := 43) #[.val (.int p0), .val (.int p1), .val (.int p2), .val (.int p3), .val (.int p4), .val (.int (0 : Int32)), .val (.int (nar .char x_2)), .val (.int (nar .char x_8)), .val (.int (nar .char x_14)), .val (.int (nar .char x_20)), .val (.ref a_26), .unset, .unset] at_41 rfl rfl rfl ?_
    refine Go.goto (pc' := 143) at_43 (by decide) (by decide) ?_
    refine Go.newO (pc' := 146) (a1 := a0) at_143 (hw _ (List.mem_of_getElem? (i := 8) rfl)) (hw _ (List.mem_of_getElem? (i := 9) rfl)) (hw _ (List.mem_of_getElem? (i := 10) rfl)) (by decide) (by decide) rfl (fun a_33 h_34 ha_36 E_35 X_37 Df_38 => ?_)
    have szh_34 : h_27.size ≤ h_34.size := E_35.1
    have lta_33 := nlt X_37.lt
    have qa_33 := neq ha_36
    have F_39 : Fld Z h_34 a_33 "java/lang/String" "value" "[B" (.null) := Df_38 (Or.inr (hw _ (List.mem_of_getElem? (i := 23) rfl))) (ty := (.array .byte)) (by decide)
    have F_40 : Fld Z h_34 a_33 "java/lang/String" "coder" "B" (.int (0 : Int32)) := Df_38 (Or.inr (hw _ (List.mem_of_getElem? (i := 24) rfl))) (ty := .byte) (by decide)
    refine Go.dup (pc' := 147) at_146 rfl rfl ?_
    refine Go.aload (pc' := 149) at_147 rfl rfl rfl ?_
    have F_43 : Arv Z h_34 a_26 cA_28 .char (0 : Int32) [] (.int 0) := (Arv.ext F_32 E_35)
    refine Go.callN (a1 := a0) (pc' := 152) (argsL := [(.ref a_26)]) (rest := [(.ref a_33)]) (ct_i1_0 l Z a0 hw n0 h_34 a_33 (by omega) X_37 F_39 F_40 a_26 cA_28 F_43) at_149 rfl (hw _ (List.mem_of_getElem? (i := 11) rfl)) (hw _ (List.mem_of_getElem? (i := 12) rfl)) (hw _ (List.mem_of_getElem? (i := 10) rfl)) (hw _ (List.mem_of_getElem? (i := 13) rfl)) (by decide) (lenOf pd__28_5bC_29V rfl) rfl 1 rfl rfl (by decide) (by decide) (by decide) (by decide) (by intro x hx; simp only [List.mem_cons, List.not_mem_nil, or_false] at hx; rcases hx with rfl; all_goals simp) rfl (fun v_44 h_45 N_46 hQ_47 hle_48 => ?_)
    obtain ⟨rfl, K_41, X_42⟩ := hQ_47
    refine Go.re (pc' := 152) (L' := #[.val (.int p0), .val (.int p1), .val (.int p2), .val (.int p3), .val (.int p4), .val (.int (0 : Int32)), .val (.int (nar .char x_2)), .val (.int (nar .char x_8)), .val (.int (nar .char x_14)), .val (.int (nar .char x_20)), .val (.ref a_26), .unset, .unset]) (S' := [(.ref a_33)]) rfl rfl rfl ?_
    refine Go.astore (pc' := 154) #[.val (.int p0), .val (.int p1), .val (.int p2), .val (.int p3), .val (.int p4), .val (.int (0 : Int32)), .val (.int (nar .char x_2)), .val (.int (nar .char x_8)), .val (.int (nar .char x_14)), .val (.int (nar .char x_20)), .val (.ref a_26), .val (.ref a_33), .unset] at_152 rfl rfl rfl ?_
    refine Go.iload (pc' := 156) at_154 rfl rfl ?_
    refine Go.ifT (pc' := 213) at_156 (show ¬ ((0 : Int32) < (0 : Int32)) by decide) (by decide) (by decide) ?_
    refine Go.iconst (pc' := 214) 0 at_213 rfl rfl ?_
    refine Go.istore (pc' := 216) #[.val (.int p0), .val (.int p1), .val (.int p2), .val (.int p3), .val (.int p4), .val (.int (0 : Int32)), .val (.int (nar .char x_2)), .val (.int (nar .char x_8)), .val (.int (nar .char x_14)), .val (.int (nar .char x_20)), .val (.ref a_26), .val (.ref a_33), .val (.int (0 : Int32))] at_214 rfl rfl ?_
    refine Go.aload (pc' := 218) at_216 rfl rfl rfl ?_
    have F_51 : Sta Z h_45 "jdk/internal/util/Preconditions" "SIOOBE_FORMATTER" "Ljava/util/function/BiFunction;" sf := (sta_keep (Sta.ext E_35 (Sta.ext E_30 S_sf)) K_41 (nsS (Exa.nostat X_37) ns0))
    have F_52 : Sta Z h_45 "java/lang/String" "COMPACT_STRINGS" "Z" (.int cs) := (sta_keep (Sta.ext E_35 (Sta.ext E_30 S_cs)) K_41 (nsS (Exa.nostat X_37) ns0))
    have F_53 : Sta Z h_45 "java/lang/StringUTF16" "$assertionsDisabled" "Z" (.int (1 : Int32)) := (sta_keep (Sta.ext E_35 (Sta.ext E_30 S_ad)) K_41 (nsS (Exa.nostat X_37) ns0))
    have F_54 : Sta Z h_45 "java/lang/StringUTF16" "HI_BYTE_SHIFT" "I" (.int (0 : Int32)) := (sta_keep (Sta.ext E_35 (Sta.ext E_30 S_hi)) K_41 (nsS (Exa.nostat X_37) ns0))
    have F_55 : Sta Z h_45 "java/lang/StringUTF16" "LO_BYTE_SHIFT" "I" (.int (8 : Int32)) := (sta_keep (Sta.ext E_35 (Sta.ext E_30 S_lo)) K_41 (nsS (Exa.nostat X_37) ns0))
    refine Go.callS (a1 := a0) (pc' := 221) (argsL := [(.ref a_33)]) (rest := []) (ct_isToken l Z a0 hw n0 h_45 a_33 [] (by simp) X_42 (fun i hi9 => absurd hi9 (Nat.not_lt_zero _)) sf hsf F_51 cs F_52 hcs F_53 F_54 F_55) at_218 (hw _ (List.mem_of_getElem? (i := 29) rfl)) (hw _ (List.mem_of_getElem? (i := 30) rfl)) (hw _ (List.mem_of_getElem? (i := 31) rfl)) (hw _ (List.mem_of_getElem? (i := 32) rfl)) (by decide) (lenOf pd__28Ljava_2flang_2fString_3b_29Z rfl) rfl 0 rfl rfl (by decide) (by decide) (by decide) (by decide) (fun _ q => nomatch q) rfl (fun v_56 h_57 N_58 hQ_59 hle_60 => ?_)
    obtain ⟨K_50, hk_49⟩ := hQ_59
    rcases hk_49 with ⟨rfl, hk_49⟩ | ⟨rfl, hk_49⟩
    · exact absurd rfl hk_49.1
    · refine Go.re (pc' := 221) (L' := #[.val (.int p0), .val (.int p1), .val (.int p2), .val (.int p3), .val (.int p4), .val (.int (0 : Int32)), .val (.int (nar .char x_2)), .val (.int (nar .char x_8)), .val (.int (nar .char x_14)), .val (.int (nar .char x_20)), .val (.ref a_26), .val (.ref a_33), .val (.int (0 : Int32))]) (S' := [(.int (0 : Int32))]) rfl rfl rfl ?_
      refine Go.iload (pc' := 223) at_221 rfl rfl ?_
      refine Go.icmpF (pc' := 226) at_223 (show (0 : Int32) = (0 : Int32) by decide) rfl ?_
      refine Go.iconst (pc' := 227) 1 at_226 rfl rfl ?_
      refine Go.goto (pc' := 231) at_227 (by decide) (by decide) ?_
      refine Go.retN (t := .boolean) (1 : Int32) rfl (by simp) rfl [] (fun _ q => nomatch q) at_231 (by decide) (by decide) ?_
      exact rfl
  · refine Go.re (pc' := 7) (L' := #[.val (.int p0), .val (.int p1), .val (.int p2), .val (.int p3), .val (.int p4), .unset, .unset, .unset, .unset, .unset, .unset, .unset, .unset]) (S' := [(.int (1 : Int32))]) rfl rfl (congrArg (fun z => Value.int z :: _) hn_1) ?_
    refine Go.istore (pc' := 9) #[.val (.int p0), .val (.int p1), .val (.int p2), .val (.int p3), .val (.int p4), .val (.int (1 : Int32)), .unset, .unset, .unset, .unset, .unset, .unset, .unset] at_7 rfl rfl ?_
    refine Go.iloadN (pc' := 10) at_9 rfl rfl ?_
    refine Go.callS (a1 := a0) (pc' := 13) (argsL := [(.int p0)]) (rest := []) (ct_draw l Z a0 hw n0 h0 p0) at_10 (hw _ (List.mem_of_getElem? (i := 1) rfl)) (hw _ (List.mem_of_getElem? (i := 2) rfl)) (hw _ (List.mem_of_getElem? (i := 3) rfl)) (hw _ (List.mem_of_getElem? (i := 4) rfl)) (by decide) (lenOf pd__28I_29C rfl) rfl 0 rfl rfl (by decide) (by decide) (by decide) (by decide) (fun _ q => nomatch q) rfl (fun v_62 h_63 N_64 hQ_65 hle_66 => ?_)
    obtain ⟨rfl, x_61, rfl⟩ := hQ_65
    refine Go.re (pc' := 13) (L' := #[.val (.int p0), .val (.int p1), .val (.int p2), .val (.int p3), .val (.int p4), .val (.int (1 : Int32)), .unset, .unset, .unset, .unset, .unset, .unset, .unset]) (S' := [(.int (nar .char x_61))]) rfl rfl rfl ?_
    refine Go.istore (pc' := 15) #[.val (.int p0), .val (.int p1), .val (.int p2), .val (.int p3), .val (.int p4), .val (.int (1 : Int32)), .val (.int (nar .char x_61)), .unset, .unset, .unset, .unset, .unset, .unset] at_13 rfl rfl ?_
    refine Go.iloadN (pc' := 16) at_15 rfl rfl ?_
    refine Go.callS (a1 := a0) (pc' := 19) (argsL := [(.int p1)]) (rest := []) (ct_draw l Z a0 hw n0 h0 p1) at_16 (hw _ (List.mem_of_getElem? (i := 1) rfl)) (hw _ (List.mem_of_getElem? (i := 2) rfl)) (hw _ (List.mem_of_getElem? (i := 3) rfl)) (hw _ (List.mem_of_getElem? (i := 4) rfl)) (by decide) (lenOf pd__28I_29C rfl) rfl 0 rfl rfl (by decide) (by decide) (by decide) (by decide) (fun _ q => nomatch q) rfl (fun v_68 h_69 N_70 hQ_71 hle_72 => ?_)
    obtain ⟨rfl, x_67, rfl⟩ := hQ_71
    refine Go.re (pc' := 19) (L' := #[.val (.int p0), .val (.int p1), .val (.int p2), .val (.int p3), .val (.int p4), .val (.int (1 : Int32)), .val (.int (nar .char x_61)), .unset, .unset, .unset, .unset, .unset, .unset]) (S' := [(.int (nar .char x_67))]) rfl rfl rfl ?_
    refine Go.istore (pc' := 21) #[.val (.int p0), .val (.int p1), .val (.int p2), .val (.int p3), .val (.int p4), .val (.int (1 : Int32)), .val (.int (nar .char x_61)), .val (.int (nar .char x_67)), .unset, .unset, .unset, .unset, .unset] at_19 rfl rfl ?_
    refine Go.iloadN (pc' := 22) at_21 rfl rfl ?_
    refine Go.callS (a1 := a0) (pc' := 25) (argsL := [(.int p2)]) (rest := []) (ct_draw l Z a0 hw n0 h0 p2) at_22 (hw _ (List.mem_of_getElem? (i := 1) rfl)) (hw _ (List.mem_of_getElem? (i := 2) rfl)) (hw _ (List.mem_of_getElem? (i := 3) rfl)) (hw _ (List.mem_of_getElem? (i := 4) rfl)) (by decide) (lenOf pd__28I_29C rfl) rfl 0 rfl rfl (by decide) (by decide) (by decide) (by decide) (fun _ q => nomatch q) rfl (fun v_74 h_75 N_76 hQ_77 hle_78 => ?_)
    obtain ⟨rfl, x_73, rfl⟩ := hQ_77
    refine Go.re (pc' := 25) (L' := #[.val (.int p0), .val (.int p1), .val (.int p2), .val (.int p3), .val (.int p4), .val (.int (1 : Int32)), .val (.int (nar .char x_61)), .val (.int (nar .char x_67)), .unset, .unset, .unset, .unset, .unset]) (S' := [(.int (nar .char x_73))]) rfl rfl rfl ?_
    refine Go.istore (pc' := 27) #[.val (.int p0), .val (.int p1), .val (.int p2), .val (.int p3), .val (.int p4), .val (.int (1 : Int32)), .val (.int (nar .char x_61)), .val (.int (nar .char x_67)), .val (.int (nar .char x_73)), .unset, .unset, .unset, .unset] at_25 rfl rfl ?_
    refine Go.iloadN (pc' := 28) at_27 rfl rfl ?_
    refine Go.callS (a1 := a0) (pc' := 31) (argsL := [(.int p3)]) (rest := []) (ct_draw l Z a0 hw n0 h0 p3) at_28 (hw _ (List.mem_of_getElem? (i := 1) rfl)) (hw _ (List.mem_of_getElem? (i := 2) rfl)) (hw _ (List.mem_of_getElem? (i := 3) rfl)) (hw _ (List.mem_of_getElem? (i := 4) rfl)) (by decide) (lenOf pd__28I_29C rfl) rfl 0 rfl rfl (by decide) (by decide) (by decide) (by decide) (fun _ q => nomatch q) rfl (fun v_80 h_81 N_82 hQ_83 hle_84 => ?_)
    obtain ⟨rfl, x_79, rfl⟩ := hQ_83
    refine Go.re (pc' := 31) (L' := #[.val (.int p0), .val (.int p1), .val (.int p2), .val (.int p3), .val (.int p4), .val (.int (1 : Int32)), .val (.int (nar .char x_61)), .val (.int (nar .char x_67)), .val (.int (nar .char x_73)), .unset, .unset, .unset, .unset]) (S' := [(.int (nar .char x_79))]) rfl rfl rfl ?_
    refine Go.istore (pc' := 33) #[.val (.int p0), .val (.int p1), .val (.int p2), .val (.int p3), .val (.int p4), .val (.int (1 : Int32)), .val (.int (nar .char x_61)), .val (.int (nar .char x_67)), .val (.int (nar .char x_73)), .val (.int (nar .char x_79)), .unset, .unset, .unset] at_31 rfl rfl ?_
    refine Go.iload (pc' := 35) at_33 rfl rfl ?_
    refine Go.ifT (pc' := 46) at_35 (show ¬ ((1 : Int32) = (0 : Int32)) by decide) (by decide) (by decide) ?_
    refine Go.iload (pc' := 48) at_46 rfl rfl ?_
    refine Go.iconst (pc' := 49) 1 at_48 rfl rfl ?_
    refine Go.icmpF (pc' := 52) at_49 (show (1 : Int32) = (1 : Int32) by decide) rfl ?_
    refine Go.iconst (pc' := 53) 1 at_52 rfl rfl ?_
    refine Go.newPV (pc' := 55) (a1 := a0) 1 [(.int (0 : Int32))] at_53 (hw _ (List.mem_of_getElem? (i := 7) rfl)) (by decide) (by decide) (by decide) (by decide) (by decide) rfl rfl (fun a_85 h_86 cA_87 ha_88 E_89 A_90 => ?_)
    have szh_86 : h0.size ≤ h_86.size := E_89.1
    have lta_85 := nlt A_90.lt
    have qa_85 := neq ha_88
    have F_91 : Arv Z h_86 a_85 cA_87 .char (1 : Int32) [(.int (0 : Int32))] (.int 0) := A_90
    refine Go.dup (pc' := 56) at_55 rfl rfl ?_
    refine Go.iconst (pc' := 57) 0 at_56 rfl rfl ?_
    refine Go.iload (pc' := 59) at_57 rfl rfl ?_
    refine Go.castoreV (pc' := 60) 0 at_59 F_91 (by decide) rfl (show 0 < 1 by decide) (by omega) rfl (fun h_92 W_93 A_94 => ?_)
    have szh_92 : h_92.size = h_86.size := Wr.size W_93
    have F_95 : Arv Z h_92 a_85 cA_87 .char (1 : Int32) [(.int (nar .char x_61))] (.int 0) := by have q := A_94; rw [nar_cc] at q; exact q
    refine Go.astore (pc' := 62) #[.val (.int p0), .val (.int p1), .val (.int p2), .val (.int p3), .val (.int p4), .val (.int (1 : Int32)), .val (.int (nar .char x_61)), .val (.int (nar .char x_67)), .val (.int (nar .char x_73)), .val (.int (nar .char x_79)), .val (.ref a_85), .unset, .unset] at_60 rfl rfl rfl ?_
    refine Go.goto (pc' := 143) at_62 (by decide) (by decide) ?_
    refine Go.newO (pc' := 146) (a1 := a0) at_143 (hw _ (List.mem_of_getElem? (i := 8) rfl)) (hw _ (List.mem_of_getElem? (i := 9) rfl)) (hw _ (List.mem_of_getElem? (i := 10) rfl)) (by decide) (by decide) rfl (fun a_96 h_97 ha_99 E_98 X_100 Df_101 => ?_)
    have szh_97 : h_92.size ≤ h_97.size := E_98.1
    have lta_96 := nlt X_100.lt
    have qa_96 := neq ha_99
    have F_102 : Fld Z h_97 a_96 "java/lang/String" "value" "[B" (.null) := Df_101 (Or.inr (hw _ (List.mem_of_getElem? (i := 23) rfl))) (ty := (.array .byte)) (by decide)
    have F_103 : Fld Z h_97 a_96 "java/lang/String" "coder" "B" (.int (0 : Int32)) := Df_101 (Or.inr (hw _ (List.mem_of_getElem? (i := 24) rfl))) (ty := .byte) (by decide)
    refine Go.dup (pc' := 147) at_146 rfl rfl ?_
    refine Go.aload (pc' := 149) at_147 rfl rfl rfl ?_
    have F_106 : Arv Z h_97 a_85 cA_87 .char (1 : Int32) [(.int (nar .char x_61))] (.int 0) := (Arv.ext F_95 E_98)
    have F_107 : Sta Z h_97 "java/lang/String" "COMPACT_STRINGS" "Z" (.int cs) := (Sta.ext E_98 (Sta.wr W_93 (Sta.ext E_89 S_cs)))
    have F_108 : Sta Z h_97 "java/lang/StringUTF16" "$assertionsDisabled" "Z" (.int (1 : Int32)) := (Sta.ext E_98 (Sta.wr W_93 (Sta.ext E_89 S_ad)))
    have F_109 : Sta Z h_97 "java/lang/StringUTF16" "HI_BYTE_SHIFT" "I" (.int (0 : Int32)) := (Sta.ext E_98 (Sta.wr W_93 (Sta.ext E_89 S_hi)))
    have F_110 : Sta Z h_97 "java/lang/StringUTF16" "LO_BYTE_SHIFT" "I" (.int (8 : Int32)) := (Sta.ext E_98 (Sta.wr W_93 (Sta.ext E_89 S_lo)))
    refine Go.callN (a1 := a0) (pc' := 152) (argsL := [(.ref a_85)]) (rest := [(.ref a_96)]) (ct_i1_1 l Z a0 hw n0 h_97 a_96 (by omega) X_100 F_102 F_103 a_85 cA_87 (nar .char x_61) F_106 (nar_rng x_61).1 (nar_rng x_61).2 cs F_107 hcs F_108 F_109 F_110) at_149 rfl (hw _ (List.mem_of_getElem? (i := 11) rfl)) (hw _ (List.mem_of_getElem? (i := 12) rfl)) (hw _ (List.mem_of_getElem? (i := 10) rfl)) (hw _ (List.mem_of_getElem? (i := 13) rfl)) (by decide) (lenOf pd__28_5bC_29V rfl) rfl 1 rfl rfl (by decide) (by decide) (by decide) (by decide) (by intro x hx; simp only [List.mem_cons, List.not_mem_nil, or_false] at hx; rcases hx with rfl; all_goals simp) rfl (fun v_111 h_112 N_113 hQ_114 hle_115 => ?_)
    obtain ⟨rfl, K_104, X_105⟩ := hQ_114
    refine Go.re (pc' := 152) (L' := #[.val (.int p0), .val (.int p1), .val (.int p2), .val (.int p3), .val (.int p4), .val (.int (1 : Int32)), .val (.int (nar .char x_61)), .val (.int (nar .char x_67)), .val (.int (nar .char x_73)), .val (.int (nar .char x_79)), .val (.ref a_85), .unset, .unset]) (S' := [(.ref a_96)]) rfl rfl rfl ?_
    refine Go.astore (pc' := 154) #[.val (.int p0), .val (.int p1), .val (.int p2), .val (.int p3), .val (.int p4), .val (.int (1 : Int32)), .val (.int (nar .char x_61)), .val (.int (nar .char x_67)), .val (.int (nar .char x_73)), .val (.int (nar .char x_79)), .val (.ref a_85), .val (.ref a_96), .unset] at_152 rfl rfl rfl ?_
    refine Go.iload (pc' := 156) at_154 rfl rfl ?_
    refine Go.ifF (pc' := 159) at_156 (show (0 : Int32) < (1 : Int32) by decide) rfl ?_
    refine Go.iload (pc' := 161) at_159 rfl rfl ?_
    refine Go.callS (a1 := a0) (pc' := 164) (argsL := [(.int (nar .char x_61))]) (rest := []) (ct_tchar l Z a0 hw n0 h_112 (nar .char x_61)) at_161 (hw _ (List.mem_of_getElem? (i := 49) rfl)) (hw _ (List.mem_of_getElem? (i := 50) rfl)) (hw _ (List.mem_of_getElem? (i := 3) rfl)) (hw _ (List.mem_of_getElem? (i := 51) rfl)) (by decide) (lenOf pd__28C_29Z rfl) rfl 0 rfl rfl (by decide) (by decide) (by decide) (by decide) (fun _ q => nomatch q) rfl (fun v_117 h_118 N_119 hQ_120 hle_121 => ?_)
    obtain ⟨rfl, ht_116⟩ := hQ_120
    rcases ht_116 with ⟨ht_116, rfl⟩ | ⟨ht_116, rfl⟩
    · refine Go.re (pc' := 164) (L' := #[.val (.int p0), .val (.int p1), .val (.int p2), .val (.int p3), .val (.int p4), .val (.int (1 : Int32)), .val (.int (nar .char x_61)), .val (.int (nar .char x_67)), .val (.int (nar .char x_73)), .val (.int (nar .char x_79)), .val (.ref a_85), .val (.ref a_96), .unset]) (S' := [(.int (1 : Int32))]) rfl rfl rfl ?_
      refine Go.ifF (pc' := 167) at_164 (show ¬ ((1 : Int32) = (0 : Int32)) by decide) rfl ?_
      refine Go.iload (pc' := 169) at_167 rfl rfl ?_
      refine Go.iconst (pc' := 170) 2 at_169 rfl rfl ?_
      refine Go.icmpT (pc' := 181) at_170 (show (1 : Int32) < (2 : Int32) by decide) (by decide) (by decide) ?_
      refine Go.iload (pc' := 183) at_181 rfl rfl ?_
      refine Go.iconst (pc' := 184) 3 at_183 rfl rfl ?_
      refine Go.icmpT (pc' := 195) at_184 (show (1 : Int32) < (3 : Int32) by decide) (by decide) (by decide) ?_
      refine Go.iload (pc' := 197) at_195 rfl rfl ?_
      refine Go.iconst (pc' := 198) 4 at_197 rfl rfl ?_
      refine Go.icmpT (pc' := 209) at_198 (show (1 : Int32) < (4 : Int32) by decide) (by decide) (by decide) ?_
      refine Go.iconst (pc' := 210) 1 at_209 rfl rfl ?_
      refine Go.goto (pc' := 214) at_210 (by decide) (by decide) ?_
      refine Go.istore (pc' := 216) #[.val (.int p0), .val (.int p1), .val (.int p2), .val (.int p3), .val (.int p4), .val (.int (1 : Int32)), .val (.int (nar .char x_61)), .val (.int (nar .char x_67)), .val (.int (nar .char x_73)), .val (.int (nar .char x_79)), .val (.ref a_85), .val (.ref a_96), .val (.int (1 : Int32))] at_214 rfl rfl ?_
      refine Go.aload (pc' := 218) at_216 rfl rfl rfl ?_
      have F_124 : Sta Z h_112 "jdk/internal/util/Preconditions" "SIOOBE_FORMATTER" "Ljava/util/function/BiFunction;" sf := (sta_keep (Sta.ext E_98 (Sta.wr W_93 (Sta.ext E_89 S_sf))) K_104 (nsS (Exa.nostat X_100) ns0))
      have F_125 : Sta Z h_112 "java/lang/String" "COMPACT_STRINGS" "Z" (.int cs) := (sta_keep F_107 K_104 (nsS (Exa.nostat X_100) ns0))
      have F_126 : Sta Z h_112 "java/lang/StringUTF16" "$assertionsDisabled" "Z" (.int (1 : Int32)) := (sta_keep F_108 K_104 (nsS (Exa.nostat X_100) ns0))
      have F_127 : Sta Z h_112 "java/lang/StringUTF16" "HI_BYTE_SHIFT" "I" (.int (0 : Int32)) := (sta_keep F_109 K_104 (nsS (Exa.nostat X_100) ns0))
      have F_128 : Sta Z h_112 "java/lang/StringUTF16" "LO_BYTE_SHIFT" "I" (.int (8 : Int32)) := (sta_keep F_110 K_104 (nsS (Exa.nostat X_100) ns0))
      refine Go.callS (a1 := a0) (pc' := 221) (argsL := [(.ref a_96)]) (rest := []) (ct_isToken l Z a0 hw n0 h_112 a_96 [(nar .char x_61)] (by simp) X_105 (fun i hi9 => by match i, hi9 with | 0, _ => exact nar_rng x_61) sf hsf F_124 cs F_125 hcs F_126 F_127 F_128) at_218 (hw _ (List.mem_of_getElem? (i := 29) rfl)) (hw _ (List.mem_of_getElem? (i := 30) rfl)) (hw _ (List.mem_of_getElem? (i := 31) rfl)) (hw _ (List.mem_of_getElem? (i := 32) rfl)) (by decide) (lenOf pd__28Ljava_2flang_2fString_3b_29Z rfl) rfl 0 rfl rfl (by decide) (by decide) (by decide) (by decide) (fun _ q => nomatch q) rfl (fun v_129 h_130 N_131 hQ_132 hle_133 => ?_)
      obtain ⟨K_123, hk_122⟩ := hQ_132
      rcases hk_122 with ⟨rfl, hk_122⟩ | ⟨rfl, hk_122⟩
      · refine Go.re (pc' := 221) (L' := #[.val (.int p0), .val (.int p1), .val (.int p2), .val (.int p3), .val (.int p4), .val (.int (1 : Int32)), .val (.int (nar .char x_61)), .val (.int (nar .char x_67)), .val (.int (nar .char x_73)), .val (.int (nar .char x_79)), .val (.ref a_85), .val (.ref a_96), .val (.int (1 : Int32))]) (S' := [(.int (1 : Int32))]) rfl rfl rfl ?_
        refine Go.iload (pc' := 223) at_221 rfl rfl ?_
        refine Go.icmpF (pc' := 226) at_223 (show (1 : Int32) = (1 : Int32) by decide) rfl ?_
        refine Go.iconst (pc' := 227) 1 at_226 rfl rfl ?_
        refine Go.goto (pc' := 231) at_227 (by decide) (by decide) ?_
        refine Go.retN (t := .boolean) (1 : Int32) rfl (by simp) rfl [] (fun _ q => nomatch q) at_231 (by decide) (by decide) ?_
        exact rfl
      · exact absurd hk_122 (own_no1 ht_116)
    · refine Go.re (pc' := 164) (L' := #[.val (.int p0), .val (.int p1), .val (.int p2), .val (.int p3), .val (.int p4), .val (.int (1 : Int32)), .val (.int (nar .char x_61)), .val (.int (nar .char x_67)), .val (.int (nar .char x_73)), .val (.int (nar .char x_79)), .val (.ref a_85), .val (.ref a_96), .unset]) (S' := [(.int (0 : Int32))]) rfl rfl rfl ?_
      refine Go.ifT (pc' := 213) at_164 (show (0 : Int32) = (0 : Int32) by decide) (by decide) (by decide) ?_
      refine Go.iconst (pc' := 214) 0 at_213 rfl rfl ?_
      refine Go.istore (pc' := 216) #[.val (.int p0), .val (.int p1), .val (.int p2), .val (.int p3), .val (.int p4), .val (.int (1 : Int32)), .val (.int (nar .char x_61)), .val (.int (nar .char x_67)), .val (.int (nar .char x_73)), .val (.int (nar .char x_79)), .val (.ref a_85), .val (.ref a_96), .val (.int (0 : Int32))] at_214 rfl rfl ?_
      refine Go.aload (pc' := 218) at_216 rfl rfl rfl ?_
      have F_136 : Sta Z h_112 "jdk/internal/util/Preconditions" "SIOOBE_FORMATTER" "Ljava/util/function/BiFunction;" sf := (sta_keep (Sta.ext E_98 (Sta.wr W_93 (Sta.ext E_89 S_sf))) K_104 (nsS (Exa.nostat X_100) ns0))
      have F_137 : Sta Z h_112 "java/lang/String" "COMPACT_STRINGS" "Z" (.int cs) := (sta_keep F_107 K_104 (nsS (Exa.nostat X_100) ns0))
      have F_138 : Sta Z h_112 "java/lang/StringUTF16" "$assertionsDisabled" "Z" (.int (1 : Int32)) := (sta_keep F_108 K_104 (nsS (Exa.nostat X_100) ns0))
      have F_139 : Sta Z h_112 "java/lang/StringUTF16" "HI_BYTE_SHIFT" "I" (.int (0 : Int32)) := (sta_keep F_109 K_104 (nsS (Exa.nostat X_100) ns0))
      have F_140 : Sta Z h_112 "java/lang/StringUTF16" "LO_BYTE_SHIFT" "I" (.int (8 : Int32)) := (sta_keep F_110 K_104 (nsS (Exa.nostat X_100) ns0))
      refine Go.callS (a1 := a0) (pc' := 221) (argsL := [(.ref a_96)]) (rest := []) (ct_isToken l Z a0 hw n0 h_112 a_96 [(nar .char x_61)] (by simp) X_105 (fun i hi9 => by match i, hi9 with | 0, _ => exact nar_rng x_61) sf hsf F_136 cs F_137 hcs F_138 F_139 F_140) at_218 (hw _ (List.mem_of_getElem? (i := 29) rfl)) (hw _ (List.mem_of_getElem? (i := 30) rfl)) (hw _ (List.mem_of_getElem? (i := 31) rfl)) (hw _ (List.mem_of_getElem? (i := 32) rfl)) (by decide) (lenOf pd__28Ljava_2flang_2fString_3b_29Z rfl) rfl 0 rfl rfl (by decide) (by decide) (by decide) (by decide) (fun _ q => nomatch q) rfl (fun v_141 h_142 N_143 hQ_144 hle_145 => ?_)
      obtain ⟨K_135, hk_134⟩ := hQ_144
      rcases hk_134 with ⟨rfl, hk_134⟩ | ⟨rfl, hk_134⟩
      · exact absurd (hk_134.2 0 (by simp)) ht_116
      · refine Go.re (pc' := 221) (L' := #[.val (.int p0), .val (.int p1), .val (.int p2), .val (.int p3), .val (.int p4), .val (.int (1 : Int32)), .val (.int (nar .char x_61)), .val (.int (nar .char x_67)), .val (.int (nar .char x_73)), .val (.int (nar .char x_79)), .val (.ref a_85), .val (.ref a_96), .val (.int (0 : Int32))]) (S' := [(.int (0 : Int32))]) rfl rfl rfl ?_
        refine Go.iload (pc' := 223) at_221 rfl rfl ?_
        refine Go.icmpF (pc' := 226) at_223 (show (0 : Int32) = (0 : Int32) by decide) rfl ?_
        refine Go.iconst (pc' := 227) 1 at_226 rfl rfl ?_
        refine Go.goto (pc' := 231) at_227 (by decide) (by decide) ?_
        refine Go.retN (t := .boolean) (1 : Int32) rfl (by simp) rfl [] (fun _ q => nomatch q) at_231 (by decide) (by decide) ?_
        exact rfl
  · refine Go.re (pc' := 7) (L' := #[.val (.int p0), .val (.int p1), .val (.int p2), .val (.int p3), .val (.int p4), .unset, .unset, .unset, .unset, .unset, .unset, .unset, .unset]) (S' := [(.int (2 : Int32))]) rfl rfl (congrArg (fun z => Value.int z :: _) hn_1) ?_
    refine Go.istore (pc' := 9) #[.val (.int p0), .val (.int p1), .val (.int p2), .val (.int p3), .val (.int p4), .val (.int (2 : Int32)), .unset, .unset, .unset, .unset, .unset, .unset, .unset] at_7 rfl rfl ?_
    refine Go.iloadN (pc' := 10) at_9 rfl rfl ?_
    refine Go.callS (a1 := a0) (pc' := 13) (argsL := [(.int p0)]) (rest := []) (ct_draw l Z a0 hw n0 h0 p0) at_10 (hw _ (List.mem_of_getElem? (i := 1) rfl)) (hw _ (List.mem_of_getElem? (i := 2) rfl)) (hw _ (List.mem_of_getElem? (i := 3) rfl)) (hw _ (List.mem_of_getElem? (i := 4) rfl)) (by decide) (lenOf pd__28I_29C rfl) rfl 0 rfl rfl (by decide) (by decide) (by decide) (by decide) (fun _ q => nomatch q) rfl (fun v_147 h_148 N_149 hQ_150 hle_151 => ?_)
    obtain ⟨rfl, x_146, rfl⟩ := hQ_150
    refine Go.re (pc' := 13) (L' := #[.val (.int p0), .val (.int p1), .val (.int p2), .val (.int p3), .val (.int p4), .val (.int (2 : Int32)), .unset, .unset, .unset, .unset, .unset, .unset, .unset]) (S' := [(.int (nar .char x_146))]) rfl rfl rfl ?_
    refine Go.istore (pc' := 15) #[.val (.int p0), .val (.int p1), .val (.int p2), .val (.int p3), .val (.int p4), .val (.int (2 : Int32)), .val (.int (nar .char x_146)), .unset, .unset, .unset, .unset, .unset, .unset] at_13 rfl rfl ?_
    refine Go.iloadN (pc' := 16) at_15 rfl rfl ?_
    refine Go.callS (a1 := a0) (pc' := 19) (argsL := [(.int p1)]) (rest := []) (ct_draw l Z a0 hw n0 h0 p1) at_16 (hw _ (List.mem_of_getElem? (i := 1) rfl)) (hw _ (List.mem_of_getElem? (i := 2) rfl)) (hw _ (List.mem_of_getElem? (i := 3) rfl)) (hw _ (List.mem_of_getElem? (i := 4) rfl)) (by decide) (lenOf pd__28I_29C rfl) rfl 0 rfl rfl (by decide) (by decide) (by decide) (by decide) (fun _ q => nomatch q) rfl (fun v_153 h_154 N_155 hQ_156 hle_157 => ?_)
    obtain ⟨rfl, x_152, rfl⟩ := hQ_156
    refine Go.re (pc' := 19) (L' := #[.val (.int p0), .val (.int p1), .val (.int p2), .val (.int p3), .val (.int p4), .val (.int (2 : Int32)), .val (.int (nar .char x_146)), .unset, .unset, .unset, .unset, .unset, .unset]) (S' := [(.int (nar .char x_152))]) rfl rfl rfl ?_
    refine Go.istore (pc' := 21) #[.val (.int p0), .val (.int p1), .val (.int p2), .val (.int p3), .val (.int p4), .val (.int (2 : Int32)), .val (.int (nar .char x_146)), .val (.int (nar .char x_152)), .unset, .unset, .unset, .unset, .unset] at_19 rfl rfl ?_
    refine Go.iloadN (pc' := 22) at_21 rfl rfl ?_
    refine Go.callS (a1 := a0) (pc' := 25) (argsL := [(.int p2)]) (rest := []) (ct_draw l Z a0 hw n0 h0 p2) at_22 (hw _ (List.mem_of_getElem? (i := 1) rfl)) (hw _ (List.mem_of_getElem? (i := 2) rfl)) (hw _ (List.mem_of_getElem? (i := 3) rfl)) (hw _ (List.mem_of_getElem? (i := 4) rfl)) (by decide) (lenOf pd__28I_29C rfl) rfl 0 rfl rfl (by decide) (by decide) (by decide) (by decide) (fun _ q => nomatch q) rfl (fun v_159 h_160 N_161 hQ_162 hle_163 => ?_)
    obtain ⟨rfl, x_158, rfl⟩ := hQ_162
    refine Go.re (pc' := 25) (L' := #[.val (.int p0), .val (.int p1), .val (.int p2), .val (.int p3), .val (.int p4), .val (.int (2 : Int32)), .val (.int (nar .char x_146)), .val (.int (nar .char x_152)), .unset, .unset, .unset, .unset, .unset]) (S' := [(.int (nar .char x_158))]) rfl rfl rfl ?_
    refine Go.istore (pc' := 27) #[.val (.int p0), .val (.int p1), .val (.int p2), .val (.int p3), .val (.int p4), .val (.int (2 : Int32)), .val (.int (nar .char x_146)), .val (.int (nar .char x_152)), .val (.int (nar .char x_158)), .unset, .unset, .unset, .unset] at_25 rfl rfl ?_
    refine Go.iloadN (pc' := 28) at_27 rfl rfl ?_
    refine Go.callS (a1 := a0) (pc' := 31) (argsL := [(.int p3)]) (rest := []) (ct_draw l Z a0 hw n0 h0 p3) at_28 (hw _ (List.mem_of_getElem? (i := 1) rfl)) (hw _ (List.mem_of_getElem? (i := 2) rfl)) (hw _ (List.mem_of_getElem? (i := 3) rfl)) (hw _ (List.mem_of_getElem? (i := 4) rfl)) (by decide) (lenOf pd__28I_29C rfl) rfl 0 rfl rfl (by decide) (by decide) (by decide) (by decide) (fun _ q => nomatch q) rfl (fun v_165 h_166 N_167 hQ_168 hle_169 => ?_)
    obtain ⟨rfl, x_164, rfl⟩ := hQ_168
    refine Go.re (pc' := 31) (L' := #[.val (.int p0), .val (.int p1), .val (.int p2), .val (.int p3), .val (.int p4), .val (.int (2 : Int32)), .val (.int (nar .char x_146)), .val (.int (nar .char x_152)), .val (.int (nar .char x_158)), .unset, .unset, .unset, .unset]) (S' := [(.int (nar .char x_164))]) rfl rfl rfl ?_
    refine Go.istore (pc' := 33) #[.val (.int p0), .val (.int p1), .val (.int p2), .val (.int p3), .val (.int p4), .val (.int (2 : Int32)), .val (.int (nar .char x_146)), .val (.int (nar .char x_152)), .val (.int (nar .char x_158)), .val (.int (nar .char x_164)), .unset, .unset, .unset] at_31 rfl rfl ?_
    refine Go.iload (pc' := 35) at_33 rfl rfl ?_
    refine Go.ifT (pc' := 46) at_35 (show ¬ ((2 : Int32) = (0 : Int32)) by decide) (by decide) (by decide) ?_
    refine Go.iload (pc' := 48) at_46 rfl rfl ?_
    refine Go.iconst (pc' := 49) 1 at_48 rfl rfl ?_
    refine Go.icmpT (pc' := 65) at_49 (show ¬ ((2 : Int32) = (1 : Int32)) by decide) (by decide) (by decide) ?_
    refine Go.iload (pc' := 67) at_65 rfl rfl ?_
    refine Go.iconst (pc' := 68) 2 at_67 rfl rfl ?_
    refine Go.icmpF (pc' := 71) at_68 (show (2 : Int32) = (2 : Int32) by decide) rfl ?_
    refine Go.iconst (pc' := 72) 2 at_71 rfl rfl ?_
    refine Go.newPV (pc' := 74) (a1 := a0) 2 [(.int (0 : Int32)), (.int (0 : Int32))] at_72 (hw _ (List.mem_of_getElem? (i := 7) rfl)) (by decide) (by decide) (by decide) (by decide) (by decide) rfl rfl (fun a_170 h_171 cA_172 ha_173 E_174 A_175 => ?_)
    have szh_171 : h0.size ≤ h_171.size := E_174.1
    have lta_170 := nlt A_175.lt
    have qa_170 := neq ha_173
    have F_176 : Arv Z h_171 a_170 cA_172 .char (2 : Int32) [(.int (0 : Int32)), (.int (0 : Int32))] (.int 0) := A_175
    refine Go.dup (pc' := 75) at_74 rfl rfl ?_
    refine Go.iconst (pc' := 76) 0 at_75 rfl rfl ?_
    refine Go.iload (pc' := 78) at_76 rfl rfl ?_
    refine Go.castoreV (pc' := 79) 0 at_78 F_176 (by decide) rfl (show 0 < 2 by decide) (by omega) rfl (fun h_177 W_178 A_179 => ?_)
    have szh_177 : h_177.size = h_171.size := Wr.size W_178
    have F_180 : Arv Z h_177 a_170 cA_172 .char (2 : Int32) [(.int (nar .char x_146)), (.int (0 : Int32))] (.int 0) := by have q := A_179; rw [nar_cc] at q; exact q
    refine Go.dup (pc' := 80) at_79 rfl rfl ?_
    refine Go.iconst (pc' := 81) 1 at_80 rfl rfl ?_
    refine Go.iload (pc' := 83) at_81 rfl rfl ?_
    refine Go.castoreV (pc' := 84) 1 at_83 F_180 (by decide) rfl (show 1 < 2 by decide) (by omega) rfl (fun h_181 W_182 A_183 => ?_)
    have szh_181 : h_181.size = h_177.size := Wr.size W_182
    have F_184 : Arv Z h_181 a_170 cA_172 .char (2 : Int32) [(.int (nar .char x_146)), (.int (nar .char x_152))] (.int 0) := by have q := A_183; rw [nar_cc] at q; exact q
    refine Go.astore (pc' := 86) #[.val (.int p0), .val (.int p1), .val (.int p2), .val (.int p3), .val (.int p4), .val (.int (2 : Int32)), .val (.int (nar .char x_146)), .val (.int (nar .char x_152)), .val (.int (nar .char x_158)), .val (.int (nar .char x_164)), .val (.ref a_170), .unset, .unset] at_84 rfl rfl rfl ?_
    refine Go.goto (pc' := 143) at_86 (by decide) (by decide) ?_
    refine Go.newO (pc' := 146) (a1 := a0) at_143 (hw _ (List.mem_of_getElem? (i := 8) rfl)) (hw _ (List.mem_of_getElem? (i := 9) rfl)) (hw _ (List.mem_of_getElem? (i := 10) rfl)) (by decide) (by decide) rfl (fun a_185 h_186 ha_188 E_187 X_189 Df_190 => ?_)
    have szh_186 : h_181.size ≤ h_186.size := E_187.1
    have lta_185 := nlt X_189.lt
    have qa_185 := neq ha_188
    have F_191 : Fld Z h_186 a_185 "java/lang/String" "value" "[B" (.null) := Df_190 (Or.inr (hw _ (List.mem_of_getElem? (i := 23) rfl))) (ty := (.array .byte)) (by decide)
    have F_192 : Fld Z h_186 a_185 "java/lang/String" "coder" "B" (.int (0 : Int32)) := Df_190 (Or.inr (hw _ (List.mem_of_getElem? (i := 24) rfl))) (ty := .byte) (by decide)
    refine Go.dup (pc' := 147) at_146 rfl rfl ?_
    refine Go.aload (pc' := 149) at_147 rfl rfl rfl ?_
    have F_195 : Arv Z h_186 a_170 cA_172 .char (2 : Int32) [(.int (nar .char x_146)), (.int (nar .char x_152))] (.int 0) := (Arv.ext F_184 E_187)
    have F_196 : Sta Z h_186 "java/lang/String" "COMPACT_STRINGS" "Z" (.int cs) := (Sta.ext E_187 (Sta.wr W_182 (Sta.wr W_178 (Sta.ext E_174 S_cs))))
    have F_197 : Sta Z h_186 "java/lang/StringUTF16" "$assertionsDisabled" "Z" (.int (1 : Int32)) := (Sta.ext E_187 (Sta.wr W_182 (Sta.wr W_178 (Sta.ext E_174 S_ad))))
    have F_198 : Sta Z h_186 "java/lang/StringUTF16" "HI_BYTE_SHIFT" "I" (.int (0 : Int32)) := (Sta.ext E_187 (Sta.wr W_182 (Sta.wr W_178 (Sta.ext E_174 S_hi))))
    have F_199 : Sta Z h_186 "java/lang/StringUTF16" "LO_BYTE_SHIFT" "I" (.int (8 : Int32)) := (Sta.ext E_187 (Sta.wr W_182 (Sta.wr W_178 (Sta.ext E_174 S_lo))))
    refine Go.callN (a1 := a0) (pc' := 152) (argsL := [(.ref a_170)]) (rest := [(.ref a_185)]) (ct_i1_2 l Z a0 hw n0 h_186 a_185 (by omega) X_189 F_191 F_192 a_170 cA_172 (nar .char x_146) (nar .char x_152) F_195 (nar_rng x_146).1 (nar_rng x_146).2 (nar_rng x_152).1 (nar_rng x_152).2 cs F_196 hcs F_197 F_198 F_199) at_149 rfl (hw _ (List.mem_of_getElem? (i := 11) rfl)) (hw _ (List.mem_of_getElem? (i := 12) rfl)) (hw _ (List.mem_of_getElem? (i := 10) rfl)) (hw _ (List.mem_of_getElem? (i := 13) rfl)) (by decide) (lenOf pd__28_5bC_29V rfl) rfl 1 rfl rfl (by decide) (by decide) (by decide) (by decide) (by intro x hx; simp only [List.mem_cons, List.not_mem_nil, or_false] at hx; rcases hx with rfl; all_goals simp) rfl (fun v_200 h_201 N_202 hQ_203 hle_204 => ?_)
    obtain ⟨rfl, K_193, X_194⟩ := hQ_203
    refine Go.re (pc' := 152) (L' := #[.val (.int p0), .val (.int p1), .val (.int p2), .val (.int p3), .val (.int p4), .val (.int (2 : Int32)), .val (.int (nar .char x_146)), .val (.int (nar .char x_152)), .val (.int (nar .char x_158)), .val (.int (nar .char x_164)), .val (.ref a_170), .unset, .unset]) (S' := [(.ref a_185)]) rfl rfl rfl ?_
    refine Go.astore (pc' := 154) #[.val (.int p0), .val (.int p1), .val (.int p2), .val (.int p3), .val (.int p4), .val (.int (2 : Int32)), .val (.int (nar .char x_146)), .val (.int (nar .char x_152)), .val (.int (nar .char x_158)), .val (.int (nar .char x_164)), .val (.ref a_170), .val (.ref a_185), .unset] at_152 rfl rfl rfl ?_
    refine Go.iload (pc' := 156) at_154 rfl rfl ?_
    refine Go.ifF (pc' := 159) at_156 (show (0 : Int32) < (2 : Int32) by decide) rfl ?_
    refine Go.iload (pc' := 161) at_159 rfl rfl ?_
    refine Go.callS (a1 := a0) (pc' := 164) (argsL := [(.int (nar .char x_146))]) (rest := []) (ct_tchar l Z a0 hw n0 h_201 (nar .char x_146)) at_161 (hw _ (List.mem_of_getElem? (i := 49) rfl)) (hw _ (List.mem_of_getElem? (i := 50) rfl)) (hw _ (List.mem_of_getElem? (i := 3) rfl)) (hw _ (List.mem_of_getElem? (i := 51) rfl)) (by decide) (lenOf pd__28C_29Z rfl) rfl 0 rfl rfl (by decide) (by decide) (by decide) (by decide) (fun _ q => nomatch q) rfl (fun v_206 h_207 N_208 hQ_209 hle_210 => ?_)
    obtain ⟨rfl, ht_205⟩ := hQ_209
    rcases ht_205 with ⟨ht_205, rfl⟩ | ⟨ht_205, rfl⟩
    · refine Go.re (pc' := 164) (L' := #[.val (.int p0), .val (.int p1), .val (.int p2), .val (.int p3), .val (.int p4), .val (.int (2 : Int32)), .val (.int (nar .char x_146)), .val (.int (nar .char x_152)), .val (.int (nar .char x_158)), .val (.int (nar .char x_164)), .val (.ref a_170), .val (.ref a_185), .unset]) (S' := [(.int (1 : Int32))]) rfl rfl rfl ?_
      refine Go.ifF (pc' := 167) at_164 (show ¬ ((1 : Int32) = (0 : Int32)) by decide) rfl ?_
      refine Go.iload (pc' := 169) at_167 rfl rfl ?_
      refine Go.iconst (pc' := 170) 2 at_169 rfl rfl ?_
      refine Go.icmpF (pc' := 173) at_170 (show ¬ ((2 : Int32) < (2 : Int32)) by decide) rfl ?_
      refine Go.iload (pc' := 175) at_173 rfl rfl ?_
      refine Go.callS (a1 := a0) (pc' := 178) (argsL := [(.int (nar .char x_152))]) (rest := []) (ct_tchar l Z a0 hw n0 h_201 (nar .char x_152)) at_175 (hw _ (List.mem_of_getElem? (i := 49) rfl)) (hw _ (List.mem_of_getElem? (i := 50) rfl)) (hw _ (List.mem_of_getElem? (i := 3) rfl)) (hw _ (List.mem_of_getElem? (i := 51) rfl)) (by decide) (lenOf pd__28C_29Z rfl) rfl 0 rfl rfl (by decide) (by decide) (by decide) (by decide) (fun _ q => nomatch q) rfl (fun v_212 h_213 N_214 hQ_215 hle_216 => ?_)
      obtain ⟨rfl, ht_211⟩ := hQ_215
      rcases ht_211 with ⟨ht_211, rfl⟩ | ⟨ht_211, rfl⟩
      · refine Go.re (pc' := 178) (L' := #[.val (.int p0), .val (.int p1), .val (.int p2), .val (.int p3), .val (.int p4), .val (.int (2 : Int32)), .val (.int (nar .char x_146)), .val (.int (nar .char x_152)), .val (.int (nar .char x_158)), .val (.int (nar .char x_164)), .val (.ref a_170), .val (.ref a_185), .unset]) (S' := [(.int (1 : Int32))]) rfl rfl rfl ?_
        refine Go.ifF (pc' := 181) at_178 (show ¬ ((1 : Int32) = (0 : Int32)) by decide) rfl ?_
        refine Go.iload (pc' := 183) at_181 rfl rfl ?_
        refine Go.iconst (pc' := 184) 3 at_183 rfl rfl ?_
        refine Go.icmpT (pc' := 195) at_184 (show (2 : Int32) < (3 : Int32) by decide) (by decide) (by decide) ?_
        refine Go.iload (pc' := 197) at_195 rfl rfl ?_
        refine Go.iconst (pc' := 198) 4 at_197 rfl rfl ?_
        refine Go.icmpT (pc' := 209) at_198 (show (2 : Int32) < (4 : Int32) by decide) (by decide) (by decide) ?_
        refine Go.iconst (pc' := 210) 1 at_209 rfl rfl ?_
        refine Go.goto (pc' := 214) at_210 (by decide) (by decide) ?_
        refine Go.istore (pc' := 216) #[.val (.int p0), .val (.int p1), .val (.int p2), .val (.int p3), .val (.int p4), .val (.int (2 : Int32)), .val (.int (nar .char x_146)), .val (.int (nar .char x_152)), .val (.int (nar .char x_158)), .val (.int (nar .char x_164)), .val (.ref a_170), .val (.ref a_185), .val (.int (1 : Int32))] at_214 rfl rfl ?_
        refine Go.aload (pc' := 218) at_216 rfl rfl rfl ?_
        have F_219 : Sta Z h_201 "jdk/internal/util/Preconditions" "SIOOBE_FORMATTER" "Ljava/util/function/BiFunction;" sf := (sta_keep (Sta.ext E_187 (Sta.wr W_182 (Sta.wr W_178 (Sta.ext E_174 S_sf)))) K_193 (nsS (Exa.nostat X_189) ns0))
        have F_220 : Sta Z h_201 "java/lang/String" "COMPACT_STRINGS" "Z" (.int cs) := (sta_keep F_196 K_193 (nsS (Exa.nostat X_189) ns0))
        have F_221 : Sta Z h_201 "java/lang/StringUTF16" "$assertionsDisabled" "Z" (.int (1 : Int32)) := (sta_keep F_197 K_193 (nsS (Exa.nostat X_189) ns0))
        have F_222 : Sta Z h_201 "java/lang/StringUTF16" "HI_BYTE_SHIFT" "I" (.int (0 : Int32)) := (sta_keep F_198 K_193 (nsS (Exa.nostat X_189) ns0))
        have F_223 : Sta Z h_201 "java/lang/StringUTF16" "LO_BYTE_SHIFT" "I" (.int (8 : Int32)) := (sta_keep F_199 K_193 (nsS (Exa.nostat X_189) ns0))
        refine Go.callS (a1 := a0) (pc' := 221) (argsL := [(.ref a_185)]) (rest := []) (ct_isToken l Z a0 hw n0 h_201 a_185 [(nar .char x_146), (nar .char x_152)] (by simp) X_194 (fun i hi9 => by match i, hi9 with | 0, _ => exact nar_rng x_146 | 1, _ => exact nar_rng x_152) sf hsf F_219 cs F_220 hcs F_221 F_222 F_223) at_218 (hw _ (List.mem_of_getElem? (i := 29) rfl)) (hw _ (List.mem_of_getElem? (i := 30) rfl)) (hw _ (List.mem_of_getElem? (i := 31) rfl)) (hw _ (List.mem_of_getElem? (i := 32) rfl)) (by decide) (lenOf pd__28Ljava_2flang_2fString_3b_29Z rfl) rfl 0 rfl rfl (by decide) (by decide) (by decide) (by decide) (fun _ q => nomatch q) rfl (fun v_224 h_225 N_226 hQ_227 hle_228 => ?_)
        obtain ⟨K_218, hk_217⟩ := hQ_227
        rcases hk_217 with ⟨rfl, hk_217⟩ | ⟨rfl, hk_217⟩
        · refine Go.re (pc' := 221) (L' := #[.val (.int p0), .val (.int p1), .val (.int p2), .val (.int p3), .val (.int p4), .val (.int (2 : Int32)), .val (.int (nar .char x_146)), .val (.int (nar .char x_152)), .val (.int (nar .char x_158)), .val (.int (nar .char x_164)), .val (.ref a_170), .val (.ref a_185), .val (.int (1 : Int32))]) (S' := [(.int (1 : Int32))]) rfl rfl rfl ?_
          refine Go.iload (pc' := 223) at_221 rfl rfl ?_
          refine Go.icmpF (pc' := 226) at_223 (show (1 : Int32) = (1 : Int32) by decide) rfl ?_
          refine Go.iconst (pc' := 227) 1 at_226 rfl rfl ?_
          refine Go.goto (pc' := 231) at_227 (by decide) (by decide) ?_
          refine Go.retN (t := .boolean) (1 : Int32) rfl (by simp) rfl [] (fun _ q => nomatch q) at_231 (by decide) (by decide) ?_
          exact rfl
        · exact absurd hk_217 (own_no2 ht_205 ht_211)
      · refine Go.re (pc' := 178) (L' := #[.val (.int p0), .val (.int p1), .val (.int p2), .val (.int p3), .val (.int p4), .val (.int (2 : Int32)), .val (.int (nar .char x_146)), .val (.int (nar .char x_152)), .val (.int (nar .char x_158)), .val (.int (nar .char x_164)), .val (.ref a_170), .val (.ref a_185), .unset]) (S' := [(.int (0 : Int32))]) rfl rfl rfl ?_
        refine Go.ifT (pc' := 213) at_178 (show (0 : Int32) = (0 : Int32) by decide) (by decide) (by decide) ?_
        refine Go.iconst (pc' := 214) 0 at_213 rfl rfl ?_
        refine Go.istore (pc' := 216) #[.val (.int p0), .val (.int p1), .val (.int p2), .val (.int p3), .val (.int p4), .val (.int (2 : Int32)), .val (.int (nar .char x_146)), .val (.int (nar .char x_152)), .val (.int (nar .char x_158)), .val (.int (nar .char x_164)), .val (.ref a_170), .val (.ref a_185), .val (.int (0 : Int32))] at_214 rfl rfl ?_
        refine Go.aload (pc' := 218) at_216 rfl rfl rfl ?_
        have F_231 : Sta Z h_201 "jdk/internal/util/Preconditions" "SIOOBE_FORMATTER" "Ljava/util/function/BiFunction;" sf := (sta_keep (Sta.ext E_187 (Sta.wr W_182 (Sta.wr W_178 (Sta.ext E_174 S_sf)))) K_193 (nsS (Exa.nostat X_189) ns0))
        have F_232 : Sta Z h_201 "java/lang/String" "COMPACT_STRINGS" "Z" (.int cs) := (sta_keep F_196 K_193 (nsS (Exa.nostat X_189) ns0))
        have F_233 : Sta Z h_201 "java/lang/StringUTF16" "$assertionsDisabled" "Z" (.int (1 : Int32)) := (sta_keep F_197 K_193 (nsS (Exa.nostat X_189) ns0))
        have F_234 : Sta Z h_201 "java/lang/StringUTF16" "HI_BYTE_SHIFT" "I" (.int (0 : Int32)) := (sta_keep F_198 K_193 (nsS (Exa.nostat X_189) ns0))
        have F_235 : Sta Z h_201 "java/lang/StringUTF16" "LO_BYTE_SHIFT" "I" (.int (8 : Int32)) := (sta_keep F_199 K_193 (nsS (Exa.nostat X_189) ns0))
        refine Go.callS (a1 := a0) (pc' := 221) (argsL := [(.ref a_185)]) (rest := []) (ct_isToken l Z a0 hw n0 h_201 a_185 [(nar .char x_146), (nar .char x_152)] (by simp) X_194 (fun i hi9 => by match i, hi9 with | 0, _ => exact nar_rng x_146 | 1, _ => exact nar_rng x_152) sf hsf F_231 cs F_232 hcs F_233 F_234 F_235) at_218 (hw _ (List.mem_of_getElem? (i := 29) rfl)) (hw _ (List.mem_of_getElem? (i := 30) rfl)) (hw _ (List.mem_of_getElem? (i := 31) rfl)) (hw _ (List.mem_of_getElem? (i := 32) rfl)) (by decide) (lenOf pd__28Ljava_2flang_2fString_3b_29Z rfl) rfl 0 rfl rfl (by decide) (by decide) (by decide) (by decide) (fun _ q => nomatch q) rfl (fun v_236 h_237 N_238 hQ_239 hle_240 => ?_)
        obtain ⟨K_230, hk_229⟩ := hQ_239
        rcases hk_229 with ⟨rfl, hk_229⟩ | ⟨rfl, hk_229⟩
        · exact absurd (hk_229.2 1 (by simp)) ht_211
        · refine Go.re (pc' := 221) (L' := #[.val (.int p0), .val (.int p1), .val (.int p2), .val (.int p3), .val (.int p4), .val (.int (2 : Int32)), .val (.int (nar .char x_146)), .val (.int (nar .char x_152)), .val (.int (nar .char x_158)), .val (.int (nar .char x_164)), .val (.ref a_170), .val (.ref a_185), .val (.int (0 : Int32))]) (S' := [(.int (0 : Int32))]) rfl rfl rfl ?_
          refine Go.iload (pc' := 223) at_221 rfl rfl ?_
          refine Go.icmpF (pc' := 226) at_223 (show (0 : Int32) = (0 : Int32) by decide) rfl ?_
          refine Go.iconst (pc' := 227) 1 at_226 rfl rfl ?_
          refine Go.goto (pc' := 231) at_227 (by decide) (by decide) ?_
          refine Go.retN (t := .boolean) (1 : Int32) rfl (by simp) rfl [] (fun _ q => nomatch q) at_231 (by decide) (by decide) ?_
          exact rfl
    · refine Go.re (pc' := 164) (L' := #[.val (.int p0), .val (.int p1), .val (.int p2), .val (.int p3), .val (.int p4), .val (.int (2 : Int32)), .val (.int (nar .char x_146)), .val (.int (nar .char x_152)), .val (.int (nar .char x_158)), .val (.int (nar .char x_164)), .val (.ref a_170), .val (.ref a_185), .unset]) (S' := [(.int (0 : Int32))]) rfl rfl rfl ?_
      refine Go.ifT (pc' := 213) at_164 (show (0 : Int32) = (0 : Int32) by decide) (by decide) (by decide) ?_
      refine Go.iconst (pc' := 214) 0 at_213 rfl rfl ?_
      refine Go.istore (pc' := 216) #[.val (.int p0), .val (.int p1), .val (.int p2), .val (.int p3), .val (.int p4), .val (.int (2 : Int32)), .val (.int (nar .char x_146)), .val (.int (nar .char x_152)), .val (.int (nar .char x_158)), .val (.int (nar .char x_164)), .val (.ref a_170), .val (.ref a_185), .val (.int (0 : Int32))] at_214 rfl rfl ?_
      refine Go.aload (pc' := 218) at_216 rfl rfl rfl ?_
      have F_243 : Sta Z h_201 "jdk/internal/util/Preconditions" "SIOOBE_FORMATTER" "Ljava/util/function/BiFunction;" sf := (sta_keep (Sta.ext E_187 (Sta.wr W_182 (Sta.wr W_178 (Sta.ext E_174 S_sf)))) K_193 (nsS (Exa.nostat X_189) ns0))
      have F_244 : Sta Z h_201 "java/lang/String" "COMPACT_STRINGS" "Z" (.int cs) := (sta_keep F_196 K_193 (nsS (Exa.nostat X_189) ns0))
      have F_245 : Sta Z h_201 "java/lang/StringUTF16" "$assertionsDisabled" "Z" (.int (1 : Int32)) := (sta_keep F_197 K_193 (nsS (Exa.nostat X_189) ns0))
      have F_246 : Sta Z h_201 "java/lang/StringUTF16" "HI_BYTE_SHIFT" "I" (.int (0 : Int32)) := (sta_keep F_198 K_193 (nsS (Exa.nostat X_189) ns0))
      have F_247 : Sta Z h_201 "java/lang/StringUTF16" "LO_BYTE_SHIFT" "I" (.int (8 : Int32)) := (sta_keep F_199 K_193 (nsS (Exa.nostat X_189) ns0))
      refine Go.callS (a1 := a0) (pc' := 221) (argsL := [(.ref a_185)]) (rest := []) (ct_isToken l Z a0 hw n0 h_201 a_185 [(nar .char x_146), (nar .char x_152)] (by simp) X_194 (fun i hi9 => by match i, hi9 with | 0, _ => exact nar_rng x_146 | 1, _ => exact nar_rng x_152) sf hsf F_243 cs F_244 hcs F_245 F_246 F_247) at_218 (hw _ (List.mem_of_getElem? (i := 29) rfl)) (hw _ (List.mem_of_getElem? (i := 30) rfl)) (hw _ (List.mem_of_getElem? (i := 31) rfl)) (hw _ (List.mem_of_getElem? (i := 32) rfl)) (by decide) (lenOf pd__28Ljava_2flang_2fString_3b_29Z rfl) rfl 0 rfl rfl (by decide) (by decide) (by decide) (by decide) (fun _ q => nomatch q) rfl (fun v_248 h_249 N_250 hQ_251 hle_252 => ?_)
      obtain ⟨K_242, hk_241⟩ := hQ_251
      rcases hk_241 with ⟨rfl, hk_241⟩ | ⟨rfl, hk_241⟩
      · exact absurd (hk_241.2 0 (by simp)) ht_205
      · refine Go.re (pc' := 221) (L' := #[.val (.int p0), .val (.int p1), .val (.int p2), .val (.int p3), .val (.int p4), .val (.int (2 : Int32)), .val (.int (nar .char x_146)), .val (.int (nar .char x_152)), .val (.int (nar .char x_158)), .val (.int (nar .char x_164)), .val (.ref a_170), .val (.ref a_185), .val (.int (0 : Int32))]) (S' := [(.int (0 : Int32))]) rfl rfl rfl ?_
        refine Go.iload (pc' := 223) at_221 rfl rfl ?_
        refine Go.icmpF (pc' := 226) at_223 (show (0 : Int32) = (0 : Int32) by decide) rfl ?_
        refine Go.iconst (pc' := 227) 1 at_226 rfl rfl ?_
        refine Go.goto (pc' := 231) at_227 (by decide) (by decide) ?_
        refine Go.retN (t := .boolean) (1 : Int32) rfl (by simp) rfl [] (fun _ q => nomatch q) at_231 (by decide) (by decide) ?_
        exact rfl
  · refine Go.re (pc' := 7) (L' := #[.val (.int p0), .val (.int p1), .val (.int p2), .val (.int p3), .val (.int p4), .unset, .unset, .unset, .unset, .unset, .unset, .unset, .unset]) (S' := [(.int (3 : Int32))]) rfl rfl (congrArg (fun z => Value.int z :: _) hn_1) ?_
    refine Go.istore (pc' := 9) #[.val (.int p0), .val (.int p1), .val (.int p2), .val (.int p3), .val (.int p4), .val (.int (3 : Int32)), .unset, .unset, .unset, .unset, .unset, .unset, .unset] at_7 rfl rfl ?_
    refine Go.iloadN (pc' := 10) at_9 rfl rfl ?_
    refine Go.callS (a1 := a0) (pc' := 13) (argsL := [(.int p0)]) (rest := []) (ct_draw l Z a0 hw n0 h0 p0) at_10 (hw _ (List.mem_of_getElem? (i := 1) rfl)) (hw _ (List.mem_of_getElem? (i := 2) rfl)) (hw _ (List.mem_of_getElem? (i := 3) rfl)) (hw _ (List.mem_of_getElem? (i := 4) rfl)) (by decide) (lenOf pd__28I_29C rfl) rfl 0 rfl rfl (by decide) (by decide) (by decide) (by decide) (fun _ q => nomatch q) rfl (fun v_254 h_255 N_256 hQ_257 hle_258 => ?_)
    obtain ⟨rfl, x_253, rfl⟩ := hQ_257
    refine Go.re (pc' := 13) (L' := #[.val (.int p0), .val (.int p1), .val (.int p2), .val (.int p3), .val (.int p4), .val (.int (3 : Int32)), .unset, .unset, .unset, .unset, .unset, .unset, .unset]) (S' := [(.int (nar .char x_253))]) rfl rfl rfl ?_
    refine Go.istore (pc' := 15) #[.val (.int p0), .val (.int p1), .val (.int p2), .val (.int p3), .val (.int p4), .val (.int (3 : Int32)), .val (.int (nar .char x_253)), .unset, .unset, .unset, .unset, .unset, .unset] at_13 rfl rfl ?_
    refine Go.iloadN (pc' := 16) at_15 rfl rfl ?_
    refine Go.callS (a1 := a0) (pc' := 19) (argsL := [(.int p1)]) (rest := []) (ct_draw l Z a0 hw n0 h0 p1) at_16 (hw _ (List.mem_of_getElem? (i := 1) rfl)) (hw _ (List.mem_of_getElem? (i := 2) rfl)) (hw _ (List.mem_of_getElem? (i := 3) rfl)) (hw _ (List.mem_of_getElem? (i := 4) rfl)) (by decide) (lenOf pd__28I_29C rfl) rfl 0 rfl rfl (by decide) (by decide) (by decide) (by decide) (fun _ q => nomatch q) rfl (fun v_260 h_261 N_262 hQ_263 hle_264 => ?_)
    obtain ⟨rfl, x_259, rfl⟩ := hQ_263
    refine Go.re (pc' := 19) (L' := #[.val (.int p0), .val (.int p1), .val (.int p2), .val (.int p3), .val (.int p4), .val (.int (3 : Int32)), .val (.int (nar .char x_253)), .unset, .unset, .unset, .unset, .unset, .unset]) (S' := [(.int (nar .char x_259))]) rfl rfl rfl ?_
    refine Go.istore (pc' := 21) #[.val (.int p0), .val (.int p1), .val (.int p2), .val (.int p3), .val (.int p4), .val (.int (3 : Int32)), .val (.int (nar .char x_253)), .val (.int (nar .char x_259)), .unset, .unset, .unset, .unset, .unset] at_19 rfl rfl ?_
    refine Go.iloadN (pc' := 22) at_21 rfl rfl ?_
    refine Go.callS (a1 := a0) (pc' := 25) (argsL := [(.int p2)]) (rest := []) (ct_draw l Z a0 hw n0 h0 p2) at_22 (hw _ (List.mem_of_getElem? (i := 1) rfl)) (hw _ (List.mem_of_getElem? (i := 2) rfl)) (hw _ (List.mem_of_getElem? (i := 3) rfl)) (hw _ (List.mem_of_getElem? (i := 4) rfl)) (by decide) (lenOf pd__28I_29C rfl) rfl 0 rfl rfl (by decide) (by decide) (by decide) (by decide) (fun _ q => nomatch q) rfl (fun v_266 h_267 N_268 hQ_269 hle_270 => ?_)
    obtain ⟨rfl, x_265, rfl⟩ := hQ_269
    refine Go.re (pc' := 25) (L' := #[.val (.int p0), .val (.int p1), .val (.int p2), .val (.int p3), .val (.int p4), .val (.int (3 : Int32)), .val (.int (nar .char x_253)), .val (.int (nar .char x_259)), .unset, .unset, .unset, .unset, .unset]) (S' := [(.int (nar .char x_265))]) rfl rfl rfl ?_
    refine Go.istore (pc' := 27) #[.val (.int p0), .val (.int p1), .val (.int p2), .val (.int p3), .val (.int p4), .val (.int (3 : Int32)), .val (.int (nar .char x_253)), .val (.int (nar .char x_259)), .val (.int (nar .char x_265)), .unset, .unset, .unset, .unset] at_25 rfl rfl ?_
    refine Go.iloadN (pc' := 28) at_27 rfl rfl ?_
    refine Go.callS (a1 := a0) (pc' := 31) (argsL := [(.int p3)]) (rest := []) (ct_draw l Z a0 hw n0 h0 p3) at_28 (hw _ (List.mem_of_getElem? (i := 1) rfl)) (hw _ (List.mem_of_getElem? (i := 2) rfl)) (hw _ (List.mem_of_getElem? (i := 3) rfl)) (hw _ (List.mem_of_getElem? (i := 4) rfl)) (by decide) (lenOf pd__28I_29C rfl) rfl 0 rfl rfl (by decide) (by decide) (by decide) (by decide) (fun _ q => nomatch q) rfl (fun v_272 h_273 N_274 hQ_275 hle_276 => ?_)
    obtain ⟨rfl, x_271, rfl⟩ := hQ_275
    refine Go.re (pc' := 31) (L' := #[.val (.int p0), .val (.int p1), .val (.int p2), .val (.int p3), .val (.int p4), .val (.int (3 : Int32)), .val (.int (nar .char x_253)), .val (.int (nar .char x_259)), .val (.int (nar .char x_265)), .unset, .unset, .unset, .unset]) (S' := [(.int (nar .char x_271))]) rfl rfl rfl ?_
    refine Go.istore (pc' := 33) #[.val (.int p0), .val (.int p1), .val (.int p2), .val (.int p3), .val (.int p4), .val (.int (3 : Int32)), .val (.int (nar .char x_253)), .val (.int (nar .char x_259)), .val (.int (nar .char x_265)), .val (.int (nar .char x_271)), .unset, .unset, .unset] at_31 rfl rfl ?_
    refine Go.iload (pc' := 35) at_33 rfl rfl ?_
    refine Go.ifT (pc' := 46) at_35 (show ¬ ((3 : Int32) = (0 : Int32)) by decide) (by decide) (by decide) ?_
    refine Go.iload (pc' := 48) at_46 rfl rfl ?_
    refine Go.iconst (pc' := 49) 1 at_48 rfl rfl ?_
    refine Go.icmpT (pc' := 65) at_49 (show ¬ ((3 : Int32) = (1 : Int32)) by decide) (by decide) (by decide) ?_
    refine Go.iload (pc' := 67) at_65 rfl rfl ?_
    refine Go.iconst (pc' := 68) 2 at_67 rfl rfl ?_
    refine Go.icmpT (pc' := 89) at_68 (show ¬ ((3 : Int32) = (2 : Int32)) by decide) (by decide) (by decide) ?_
    refine Go.iload (pc' := 91) at_89 rfl rfl ?_
    refine Go.iconst (pc' := 92) 3 at_91 rfl rfl ?_
    refine Go.icmpF (pc' := 95) at_92 (show (3 : Int32) = (3 : Int32) by decide) rfl ?_
    refine Go.iconst (pc' := 96) 3 at_95 rfl rfl ?_
    refine Go.newPV (pc' := 98) (a1 := a0) 3 [(.int (0 : Int32)), (.int (0 : Int32)), (.int (0 : Int32))] at_96 (hw _ (List.mem_of_getElem? (i := 7) rfl)) (by decide) (by decide) (by decide) (by decide) (by decide) rfl rfl (fun a_277 h_278 cA_279 ha_280 E_281 A_282 => ?_)
    have szh_278 : h0.size ≤ h_278.size := E_281.1
    have lta_277 := nlt A_282.lt
    have qa_277 := neq ha_280
    have F_283 : Arv Z h_278 a_277 cA_279 .char (3 : Int32) [(.int (0 : Int32)), (.int (0 : Int32)), (.int (0 : Int32))] (.int 0) := A_282
    refine Go.dup (pc' := 99) at_98 rfl rfl ?_
    refine Go.iconst (pc' := 100) 0 at_99 rfl rfl ?_
    refine Go.iload (pc' := 102) at_100 rfl rfl ?_
    refine Go.castoreV (pc' := 103) 0 at_102 F_283 (by decide) rfl (show 0 < 3 by decide) (by omega) rfl (fun h_284 W_285 A_286 => ?_)
    have szh_284 : h_284.size = h_278.size := Wr.size W_285
    have F_287 : Arv Z h_284 a_277 cA_279 .char (3 : Int32) [(.int (nar .char x_253)), (.int (0 : Int32)), (.int (0 : Int32))] (.int 0) := by have q := A_286; rw [nar_cc] at q; exact q
    refine Go.dup (pc' := 104) at_103 rfl rfl ?_
    refine Go.iconst (pc' := 105) 1 at_104 rfl rfl ?_
    refine Go.iload (pc' := 107) at_105 rfl rfl ?_
    refine Go.castoreV (pc' := 108) 1 at_107 F_287 (by decide) rfl (show 1 < 3 by decide) (by omega) rfl (fun h_288 W_289 A_290 => ?_)
    have szh_288 : h_288.size = h_284.size := Wr.size W_289
    have F_291 : Arv Z h_288 a_277 cA_279 .char (3 : Int32) [(.int (nar .char x_253)), (.int (nar .char x_259)), (.int (0 : Int32))] (.int 0) := by have q := A_290; rw [nar_cc] at q; exact q
    refine Go.dup (pc' := 109) at_108 rfl rfl ?_
    refine Go.iconst (pc' := 110) 2 at_109 rfl rfl ?_
    refine Go.iload (pc' := 112) at_110 rfl rfl ?_
    refine Go.castoreV (pc' := 113) 2 at_112 F_291 (by decide) rfl (show 2 < 3 by decide) (by omega) rfl (fun h_292 W_293 A_294 => ?_)
    have szh_292 : h_292.size = h_288.size := Wr.size W_293
    have F_295 : Arv Z h_292 a_277 cA_279 .char (3 : Int32) [(.int (nar .char x_253)), (.int (nar .char x_259)), (.int (nar .char x_265))] (.int 0) := by have q := A_294; rw [nar_cc] at q; exact q
    refine Go.astore (pc' := 115) #[.val (.int p0), .val (.int p1), .val (.int p2), .val (.int p3), .val (.int p4), .val (.int (3 : Int32)), .val (.int (nar .char x_253)), .val (.int (nar .char x_259)), .val (.int (nar .char x_265)), .val (.int (nar .char x_271)), .val (.ref a_277), .unset, .unset] at_113 rfl rfl rfl ?_
    refine Go.goto (pc' := 143) at_115 (by decide) (by decide) ?_
    refine Go.newO (pc' := 146) (a1 := a0) at_143 (hw _ (List.mem_of_getElem? (i := 8) rfl)) (hw _ (List.mem_of_getElem? (i := 9) rfl)) (hw _ (List.mem_of_getElem? (i := 10) rfl)) (by decide) (by decide) rfl (fun a_296 h_297 ha_299 E_298 X_300 Df_301 => ?_)
    have szh_297 : h_292.size ≤ h_297.size := E_298.1
    have lta_296 := nlt X_300.lt
    have qa_296 := neq ha_299
    have F_302 : Fld Z h_297 a_296 "java/lang/String" "value" "[B" (.null) := Df_301 (Or.inr (hw _ (List.mem_of_getElem? (i := 23) rfl))) (ty := (.array .byte)) (by decide)
    have F_303 : Fld Z h_297 a_296 "java/lang/String" "coder" "B" (.int (0 : Int32)) := Df_301 (Or.inr (hw _ (List.mem_of_getElem? (i := 24) rfl))) (ty := .byte) (by decide)
    refine Go.dup (pc' := 147) at_146 rfl rfl ?_
    refine Go.aload (pc' := 149) at_147 rfl rfl rfl ?_
    have F_306 : Arv Z h_297 a_277 cA_279 .char (3 : Int32) [(.int (nar .char x_253)), (.int (nar .char x_259)), (.int (nar .char x_265))] (.int 0) := (Arv.ext F_295 E_298)
    have F_307 : Sta Z h_297 "java/lang/String" "COMPACT_STRINGS" "Z" (.int cs) := (Sta.ext E_298 (Sta.wr W_293 (Sta.wr W_289 (Sta.wr W_285 (Sta.ext E_281 S_cs)))))
    have F_308 : Sta Z h_297 "java/lang/StringUTF16" "$assertionsDisabled" "Z" (.int (1 : Int32)) := (Sta.ext E_298 (Sta.wr W_293 (Sta.wr W_289 (Sta.wr W_285 (Sta.ext E_281 S_ad)))))
    have F_309 : Sta Z h_297 "java/lang/StringUTF16" "HI_BYTE_SHIFT" "I" (.int (0 : Int32)) := (Sta.ext E_298 (Sta.wr W_293 (Sta.wr W_289 (Sta.wr W_285 (Sta.ext E_281 S_hi)))))
    have F_310 : Sta Z h_297 "java/lang/StringUTF16" "LO_BYTE_SHIFT" "I" (.int (8 : Int32)) := (Sta.ext E_298 (Sta.wr W_293 (Sta.wr W_289 (Sta.wr W_285 (Sta.ext E_281 S_lo)))))
    refine Go.callN (a1 := a0) (pc' := 152) (argsL := [(.ref a_277)]) (rest := [(.ref a_296)]) (ct_i1_3 l Z a0 hw n0 h_297 a_296 (by omega) X_300 F_302 F_303 a_277 cA_279 (nar .char x_253) (nar .char x_259) (nar .char x_265) F_306 (nar_rng x_253).1 (nar_rng x_253).2 (nar_rng x_259).1 (nar_rng x_259).2 (nar_rng x_265).1 (nar_rng x_265).2 cs F_307 hcs F_308 F_309 F_310) at_149 rfl (hw _ (List.mem_of_getElem? (i := 11) rfl)) (hw _ (List.mem_of_getElem? (i := 12) rfl)) (hw _ (List.mem_of_getElem? (i := 10) rfl)) (hw _ (List.mem_of_getElem? (i := 13) rfl)) (by decide) (lenOf pd__28_5bC_29V rfl) rfl 1 rfl rfl (by decide) (by decide) (by decide) (by decide) (by intro x hx; simp only [List.mem_cons, List.not_mem_nil, or_false] at hx; rcases hx with rfl; all_goals simp) rfl (fun v_311 h_312 N_313 hQ_314 hle_315 => ?_)
    obtain ⟨rfl, K_304, X_305⟩ := hQ_314
    refine Go.re (pc' := 152) (L' := #[.val (.int p0), .val (.int p1), .val (.int p2), .val (.int p3), .val (.int p4), .val (.int (3 : Int32)), .val (.int (nar .char x_253)), .val (.int (nar .char x_259)), .val (.int (nar .char x_265)), .val (.int (nar .char x_271)), .val (.ref a_277), .unset, .unset]) (S' := [(.ref a_296)]) rfl rfl rfl ?_
    refine Go.astore (pc' := 154) #[.val (.int p0), .val (.int p1), .val (.int p2), .val (.int p3), .val (.int p4), .val (.int (3 : Int32)), .val (.int (nar .char x_253)), .val (.int (nar .char x_259)), .val (.int (nar .char x_265)), .val (.int (nar .char x_271)), .val (.ref a_277), .val (.ref a_296), .unset] at_152 rfl rfl rfl ?_
    refine Go.iload (pc' := 156) at_154 rfl rfl ?_
    refine Go.ifF (pc' := 159) at_156 (show (0 : Int32) < (3 : Int32) by decide) rfl ?_
    refine Go.iload (pc' := 161) at_159 rfl rfl ?_
    refine Go.callS (a1 := a0) (pc' := 164) (argsL := [(.int (nar .char x_253))]) (rest := []) (ct_tchar l Z a0 hw n0 h_312 (nar .char x_253)) at_161 (hw _ (List.mem_of_getElem? (i := 49) rfl)) (hw _ (List.mem_of_getElem? (i := 50) rfl)) (hw _ (List.mem_of_getElem? (i := 3) rfl)) (hw _ (List.mem_of_getElem? (i := 51) rfl)) (by decide) (lenOf pd__28C_29Z rfl) rfl 0 rfl rfl (by decide) (by decide) (by decide) (by decide) (fun _ q => nomatch q) rfl (fun v_317 h_318 N_319 hQ_320 hle_321 => ?_)
    obtain ⟨rfl, ht_316⟩ := hQ_320
    rcases ht_316 with ⟨ht_316, rfl⟩ | ⟨ht_316, rfl⟩
    · refine Go.re (pc' := 164) (L' := #[.val (.int p0), .val (.int p1), .val (.int p2), .val (.int p3), .val (.int p4), .val (.int (3 : Int32)), .val (.int (nar .char x_253)), .val (.int (nar .char x_259)), .val (.int (nar .char x_265)), .val (.int (nar .char x_271)), .val (.ref a_277), .val (.ref a_296), .unset]) (S' := [(.int (1 : Int32))]) rfl rfl rfl ?_
      refine Go.ifF (pc' := 167) at_164 (show ¬ ((1 : Int32) = (0 : Int32)) by decide) rfl ?_
      refine Go.iload (pc' := 169) at_167 rfl rfl ?_
      refine Go.iconst (pc' := 170) 2 at_169 rfl rfl ?_
      refine Go.icmpF (pc' := 173) at_170 (show ¬ ((3 : Int32) < (2 : Int32)) by decide) rfl ?_
      refine Go.iload (pc' := 175) at_173 rfl rfl ?_
      refine Go.callS (a1 := a0) (pc' := 178) (argsL := [(.int (nar .char x_259))]) (rest := []) (ct_tchar l Z a0 hw n0 h_312 (nar .char x_259)) at_175 (hw _ (List.mem_of_getElem? (i := 49) rfl)) (hw _ (List.mem_of_getElem? (i := 50) rfl)) (hw _ (List.mem_of_getElem? (i := 3) rfl)) (hw _ (List.mem_of_getElem? (i := 51) rfl)) (by decide) (lenOf pd__28C_29Z rfl) rfl 0 rfl rfl (by decide) (by decide) (by decide) (by decide) (fun _ q => nomatch q) rfl (fun v_323 h_324 N_325 hQ_326 hle_327 => ?_)
      obtain ⟨rfl, ht_322⟩ := hQ_326
      rcases ht_322 with ⟨ht_322, rfl⟩ | ⟨ht_322, rfl⟩
      · refine Go.re (pc' := 178) (L' := #[.val (.int p0), .val (.int p1), .val (.int p2), .val (.int p3), .val (.int p4), .val (.int (3 : Int32)), .val (.int (nar .char x_253)), .val (.int (nar .char x_259)), .val (.int (nar .char x_265)), .val (.int (nar .char x_271)), .val (.ref a_277), .val (.ref a_296), .unset]) (S' := [(.int (1 : Int32))]) rfl rfl rfl ?_
        refine Go.ifF (pc' := 181) at_178 (show ¬ ((1 : Int32) = (0 : Int32)) by decide) rfl ?_
        refine Go.iload (pc' := 183) at_181 rfl rfl ?_
        refine Go.iconst (pc' := 184) 3 at_183 rfl rfl ?_
        refine Go.icmpF (pc' := 187) at_184 (show ¬ ((3 : Int32) < (3 : Int32)) by decide) rfl ?_
        refine Go.iload (pc' := 189) at_187 rfl rfl ?_
        refine Go.callS (a1 := a0) (pc' := 192) (argsL := [(.int (nar .char x_265))]) (rest := []) (ct_tchar l Z a0 hw n0 h_312 (nar .char x_265)) at_189 (hw _ (List.mem_of_getElem? (i := 49) rfl)) (hw _ (List.mem_of_getElem? (i := 50) rfl)) (hw _ (List.mem_of_getElem? (i := 3) rfl)) (hw _ (List.mem_of_getElem? (i := 51) rfl)) (by decide) (lenOf pd__28C_29Z rfl) rfl 0 rfl rfl (by decide) (by decide) (by decide) (by decide) (fun _ q => nomatch q) rfl (fun v_329 h_330 N_331 hQ_332 hle_333 => ?_)
        obtain ⟨rfl, ht_328⟩ := hQ_332
        rcases ht_328 with ⟨ht_328, rfl⟩ | ⟨ht_328, rfl⟩
        · refine Go.re (pc' := 192) (L' := #[.val (.int p0), .val (.int p1), .val (.int p2), .val (.int p3), .val (.int p4), .val (.int (3 : Int32)), .val (.int (nar .char x_253)), .val (.int (nar .char x_259)), .val (.int (nar .char x_265)), .val (.int (nar .char x_271)), .val (.ref a_277), .val (.ref a_296), .unset]) (S' := [(.int (1 : Int32))]) rfl rfl rfl ?_
          refine Go.ifF (pc' := 195) at_192 (show ¬ ((1 : Int32) = (0 : Int32)) by decide) rfl ?_
          refine Go.iload (pc' := 197) at_195 rfl rfl ?_
          refine Go.iconst (pc' := 198) 4 at_197 rfl rfl ?_
          refine Go.icmpT (pc' := 209) at_198 (show (3 : Int32) < (4 : Int32) by decide) (by decide) (by decide) ?_
          refine Go.iconst (pc' := 210) 1 at_209 rfl rfl ?_
          refine Go.goto (pc' := 214) at_210 (by decide) (by decide) ?_
          refine Go.istore (pc' := 216) #[.val (.int p0), .val (.int p1), .val (.int p2), .val (.int p3), .val (.int p4), .val (.int (3 : Int32)), .val (.int (nar .char x_253)), .val (.int (nar .char x_259)), .val (.int (nar .char x_265)), .val (.int (nar .char x_271)), .val (.ref a_277), .val (.ref a_296), .val (.int (1 : Int32))] at_214 rfl rfl ?_
          refine Go.aload (pc' := 218) at_216 rfl rfl rfl ?_
          have F_336 : Sta Z h_312 "jdk/internal/util/Preconditions" "SIOOBE_FORMATTER" "Ljava/util/function/BiFunction;" sf := (sta_keep (Sta.ext E_298 (Sta.wr W_293 (Sta.wr W_289 (Sta.wr W_285 (Sta.ext E_281 S_sf))))) K_304 (nsS (Exa.nostat X_300) ns0))
          have F_337 : Sta Z h_312 "java/lang/String" "COMPACT_STRINGS" "Z" (.int cs) := (sta_keep F_307 K_304 (nsS (Exa.nostat X_300) ns0))
          have F_338 : Sta Z h_312 "java/lang/StringUTF16" "$assertionsDisabled" "Z" (.int (1 : Int32)) := (sta_keep F_308 K_304 (nsS (Exa.nostat X_300) ns0))
          have F_339 : Sta Z h_312 "java/lang/StringUTF16" "HI_BYTE_SHIFT" "I" (.int (0 : Int32)) := (sta_keep F_309 K_304 (nsS (Exa.nostat X_300) ns0))
          have F_340 : Sta Z h_312 "java/lang/StringUTF16" "LO_BYTE_SHIFT" "I" (.int (8 : Int32)) := (sta_keep F_310 K_304 (nsS (Exa.nostat X_300) ns0))
          refine Go.callS (a1 := a0) (pc' := 221) (argsL := [(.ref a_296)]) (rest := []) (ct_isToken l Z a0 hw n0 h_312 a_296 [(nar .char x_253), (nar .char x_259), (nar .char x_265)] (by simp) X_305 (fun i hi9 => by match i, hi9 with | 0, _ => exact nar_rng x_253 | 1, _ => exact nar_rng x_259 | 2, _ => exact nar_rng x_265) sf hsf F_336 cs F_337 hcs F_338 F_339 F_340) at_218 (hw _ (List.mem_of_getElem? (i := 29) rfl)) (hw _ (List.mem_of_getElem? (i := 30) rfl)) (hw _ (List.mem_of_getElem? (i := 31) rfl)) (hw _ (List.mem_of_getElem? (i := 32) rfl)) (by decide) (lenOf pd__28Ljava_2flang_2fString_3b_29Z rfl) rfl 0 rfl rfl (by decide) (by decide) (by decide) (by decide) (fun _ q => nomatch q) rfl (fun v_341 h_342 N_343 hQ_344 hle_345 => ?_)
          obtain ⟨K_335, hk_334⟩ := hQ_344
          rcases hk_334 with ⟨rfl, hk_334⟩ | ⟨rfl, hk_334⟩
          · refine Go.re (pc' := 221) (L' := #[.val (.int p0), .val (.int p1), .val (.int p2), .val (.int p3), .val (.int p4), .val (.int (3 : Int32)), .val (.int (nar .char x_253)), .val (.int (nar .char x_259)), .val (.int (nar .char x_265)), .val (.int (nar .char x_271)), .val (.ref a_277), .val (.ref a_296), .val (.int (1 : Int32))]) (S' := [(.int (1 : Int32))]) rfl rfl rfl ?_
            refine Go.iload (pc' := 223) at_221 rfl rfl ?_
            refine Go.icmpF (pc' := 226) at_223 (show (1 : Int32) = (1 : Int32) by decide) rfl ?_
            refine Go.iconst (pc' := 227) 1 at_226 rfl rfl ?_
            refine Go.goto (pc' := 231) at_227 (by decide) (by decide) ?_
            refine Go.retN (t := .boolean) (1 : Int32) rfl (by simp) rfl [] (fun _ q => nomatch q) at_231 (by decide) (by decide) ?_
            exact rfl
          · exact absurd hk_334 (own_no3 ht_316 ht_322 ht_328)
        · refine Go.re (pc' := 192) (L' := #[.val (.int p0), .val (.int p1), .val (.int p2), .val (.int p3), .val (.int p4), .val (.int (3 : Int32)), .val (.int (nar .char x_253)), .val (.int (nar .char x_259)), .val (.int (nar .char x_265)), .val (.int (nar .char x_271)), .val (.ref a_277), .val (.ref a_296), .unset]) (S' := [(.int (0 : Int32))]) rfl rfl rfl ?_
          refine Go.ifT (pc' := 213) at_192 (show (0 : Int32) = (0 : Int32) by decide) (by decide) (by decide) ?_
          refine Go.iconst (pc' := 214) 0 at_213 rfl rfl ?_
          refine Go.istore (pc' := 216) #[.val (.int p0), .val (.int p1), .val (.int p2), .val (.int p3), .val (.int p4), .val (.int (3 : Int32)), .val (.int (nar .char x_253)), .val (.int (nar .char x_259)), .val (.int (nar .char x_265)), .val (.int (nar .char x_271)), .val (.ref a_277), .val (.ref a_296), .val (.int (0 : Int32))] at_214 rfl rfl ?_
          refine Go.aload (pc' := 218) at_216 rfl rfl rfl ?_
          have F_348 : Sta Z h_312 "jdk/internal/util/Preconditions" "SIOOBE_FORMATTER" "Ljava/util/function/BiFunction;" sf := (sta_keep (Sta.ext E_298 (Sta.wr W_293 (Sta.wr W_289 (Sta.wr W_285 (Sta.ext E_281 S_sf))))) K_304 (nsS (Exa.nostat X_300) ns0))
          have F_349 : Sta Z h_312 "java/lang/String" "COMPACT_STRINGS" "Z" (.int cs) := (sta_keep F_307 K_304 (nsS (Exa.nostat X_300) ns0))
          have F_350 : Sta Z h_312 "java/lang/StringUTF16" "$assertionsDisabled" "Z" (.int (1 : Int32)) := (sta_keep F_308 K_304 (nsS (Exa.nostat X_300) ns0))
          have F_351 : Sta Z h_312 "java/lang/StringUTF16" "HI_BYTE_SHIFT" "I" (.int (0 : Int32)) := (sta_keep F_309 K_304 (nsS (Exa.nostat X_300) ns0))
          have F_352 : Sta Z h_312 "java/lang/StringUTF16" "LO_BYTE_SHIFT" "I" (.int (8 : Int32)) := (sta_keep F_310 K_304 (nsS (Exa.nostat X_300) ns0))
          refine Go.callS (a1 := a0) (pc' := 221) (argsL := [(.ref a_296)]) (rest := []) (ct_isToken l Z a0 hw n0 h_312 a_296 [(nar .char x_253), (nar .char x_259), (nar .char x_265)] (by simp) X_305 (fun i hi9 => by match i, hi9 with | 0, _ => exact nar_rng x_253 | 1, _ => exact nar_rng x_259 | 2, _ => exact nar_rng x_265) sf hsf F_348 cs F_349 hcs F_350 F_351 F_352) at_218 (hw _ (List.mem_of_getElem? (i := 29) rfl)) (hw _ (List.mem_of_getElem? (i := 30) rfl)) (hw _ (List.mem_of_getElem? (i := 31) rfl)) (hw _ (List.mem_of_getElem? (i := 32) rfl)) (by decide) (lenOf pd__28Ljava_2flang_2fString_3b_29Z rfl) rfl 0 rfl rfl (by decide) (by decide) (by decide) (by decide) (fun _ q => nomatch q) rfl (fun v_353 h_354 N_355 hQ_356 hle_357 => ?_)
          obtain ⟨K_347, hk_346⟩ := hQ_356
          rcases hk_346 with ⟨rfl, hk_346⟩ | ⟨rfl, hk_346⟩
          · exact absurd (hk_346.2 2 (by simp)) ht_328
          · refine Go.re (pc' := 221) (L' := #[.val (.int p0), .val (.int p1), .val (.int p2), .val (.int p3), .val (.int p4), .val (.int (3 : Int32)), .val (.int (nar .char x_253)), .val (.int (nar .char x_259)), .val (.int (nar .char x_265)), .val (.int (nar .char x_271)), .val (.ref a_277), .val (.ref a_296), .val (.int (0 : Int32))]) (S' := [(.int (0 : Int32))]) rfl rfl rfl ?_
            refine Go.iload (pc' := 223) at_221 rfl rfl ?_
            refine Go.icmpF (pc' := 226) at_223 (show (0 : Int32) = (0 : Int32) by decide) rfl ?_
            refine Go.iconst (pc' := 227) 1 at_226 rfl rfl ?_
            refine Go.goto (pc' := 231) at_227 (by decide) (by decide) ?_
            refine Go.retN (t := .boolean) (1 : Int32) rfl (by simp) rfl [] (fun _ q => nomatch q) at_231 (by decide) (by decide) ?_
            exact rfl
      · refine Go.re (pc' := 178) (L' := #[.val (.int p0), .val (.int p1), .val (.int p2), .val (.int p3), .val (.int p4), .val (.int (3 : Int32)), .val (.int (nar .char x_253)), .val (.int (nar .char x_259)), .val (.int (nar .char x_265)), .val (.int (nar .char x_271)), .val (.ref a_277), .val (.ref a_296), .unset]) (S' := [(.int (0 : Int32))]) rfl rfl rfl ?_
        refine Go.ifT (pc' := 213) at_178 (show (0 : Int32) = (0 : Int32) by decide) (by decide) (by decide) ?_
        refine Go.iconst (pc' := 214) 0 at_213 rfl rfl ?_
        refine Go.istore (pc' := 216) #[.val (.int p0), .val (.int p1), .val (.int p2), .val (.int p3), .val (.int p4), .val (.int (3 : Int32)), .val (.int (nar .char x_253)), .val (.int (nar .char x_259)), .val (.int (nar .char x_265)), .val (.int (nar .char x_271)), .val (.ref a_277), .val (.ref a_296), .val (.int (0 : Int32))] at_214 rfl rfl ?_
        refine Go.aload (pc' := 218) at_216 rfl rfl rfl ?_
        have F_360 : Sta Z h_312 "jdk/internal/util/Preconditions" "SIOOBE_FORMATTER" "Ljava/util/function/BiFunction;" sf := (sta_keep (Sta.ext E_298 (Sta.wr W_293 (Sta.wr W_289 (Sta.wr W_285 (Sta.ext E_281 S_sf))))) K_304 (nsS (Exa.nostat X_300) ns0))
        have F_361 : Sta Z h_312 "java/lang/String" "COMPACT_STRINGS" "Z" (.int cs) := (sta_keep F_307 K_304 (nsS (Exa.nostat X_300) ns0))
        have F_362 : Sta Z h_312 "java/lang/StringUTF16" "$assertionsDisabled" "Z" (.int (1 : Int32)) := (sta_keep F_308 K_304 (nsS (Exa.nostat X_300) ns0))
        have F_363 : Sta Z h_312 "java/lang/StringUTF16" "HI_BYTE_SHIFT" "I" (.int (0 : Int32)) := (sta_keep F_309 K_304 (nsS (Exa.nostat X_300) ns0))
        have F_364 : Sta Z h_312 "java/lang/StringUTF16" "LO_BYTE_SHIFT" "I" (.int (8 : Int32)) := (sta_keep F_310 K_304 (nsS (Exa.nostat X_300) ns0))
        refine Go.callS (a1 := a0) (pc' := 221) (argsL := [(.ref a_296)]) (rest := []) (ct_isToken l Z a0 hw n0 h_312 a_296 [(nar .char x_253), (nar .char x_259), (nar .char x_265)] (by simp) X_305 (fun i hi9 => by match i, hi9 with | 0, _ => exact nar_rng x_253 | 1, _ => exact nar_rng x_259 | 2, _ => exact nar_rng x_265) sf hsf F_360 cs F_361 hcs F_362 F_363 F_364) at_218 (hw _ (List.mem_of_getElem? (i := 29) rfl)) (hw _ (List.mem_of_getElem? (i := 30) rfl)) (hw _ (List.mem_of_getElem? (i := 31) rfl)) (hw _ (List.mem_of_getElem? (i := 32) rfl)) (by decide) (lenOf pd__28Ljava_2flang_2fString_3b_29Z rfl) rfl 0 rfl rfl (by decide) (by decide) (by decide) (by decide) (fun _ q => nomatch q) rfl (fun v_365 h_366 N_367 hQ_368 hle_369 => ?_)
        obtain ⟨K_359, hk_358⟩ := hQ_368
        rcases hk_358 with ⟨rfl, hk_358⟩ | ⟨rfl, hk_358⟩
        · exact absurd (hk_358.2 1 (by simp)) ht_322
        · refine Go.re (pc' := 221) (L' := #[.val (.int p0), .val (.int p1), .val (.int p2), .val (.int p3), .val (.int p4), .val (.int (3 : Int32)), .val (.int (nar .char x_253)), .val (.int (nar .char x_259)), .val (.int (nar .char x_265)), .val (.int (nar .char x_271)), .val (.ref a_277), .val (.ref a_296), .val (.int (0 : Int32))]) (S' := [(.int (0 : Int32))]) rfl rfl rfl ?_
          refine Go.iload (pc' := 223) at_221 rfl rfl ?_
          refine Go.icmpF (pc' := 226) at_223 (show (0 : Int32) = (0 : Int32) by decide) rfl ?_
          refine Go.iconst (pc' := 227) 1 at_226 rfl rfl ?_
          refine Go.goto (pc' := 231) at_227 (by decide) (by decide) ?_
          refine Go.retN (t := .boolean) (1 : Int32) rfl (by simp) rfl [] (fun _ q => nomatch q) at_231 (by decide) (by decide) ?_
          exact rfl
    · refine Go.re (pc' := 164) (L' := #[.val (.int p0), .val (.int p1), .val (.int p2), .val (.int p3), .val (.int p4), .val (.int (3 : Int32)), .val (.int (nar .char x_253)), .val (.int (nar .char x_259)), .val (.int (nar .char x_265)), .val (.int (nar .char x_271)), .val (.ref a_277), .val (.ref a_296), .unset]) (S' := [(.int (0 : Int32))]) rfl rfl rfl ?_
      refine Go.ifT (pc' := 213) at_164 (show (0 : Int32) = (0 : Int32) by decide) (by decide) (by decide) ?_
      refine Go.iconst (pc' := 214) 0 at_213 rfl rfl ?_
      refine Go.istore (pc' := 216) #[.val (.int p0), .val (.int p1), .val (.int p2), .val (.int p3), .val (.int p4), .val (.int (3 : Int32)), .val (.int (nar .char x_253)), .val (.int (nar .char x_259)), .val (.int (nar .char x_265)), .val (.int (nar .char x_271)), .val (.ref a_277), .val (.ref a_296), .val (.int (0 : Int32))] at_214 rfl rfl ?_
      refine Go.aload (pc' := 218) at_216 rfl rfl rfl ?_
      have F_372 : Sta Z h_312 "jdk/internal/util/Preconditions" "SIOOBE_FORMATTER" "Ljava/util/function/BiFunction;" sf := (sta_keep (Sta.ext E_298 (Sta.wr W_293 (Sta.wr W_289 (Sta.wr W_285 (Sta.ext E_281 S_sf))))) K_304 (nsS (Exa.nostat X_300) ns0))
      have F_373 : Sta Z h_312 "java/lang/String" "COMPACT_STRINGS" "Z" (.int cs) := (sta_keep F_307 K_304 (nsS (Exa.nostat X_300) ns0))
      have F_374 : Sta Z h_312 "java/lang/StringUTF16" "$assertionsDisabled" "Z" (.int (1 : Int32)) := (sta_keep F_308 K_304 (nsS (Exa.nostat X_300) ns0))
      have F_375 : Sta Z h_312 "java/lang/StringUTF16" "HI_BYTE_SHIFT" "I" (.int (0 : Int32)) := (sta_keep F_309 K_304 (nsS (Exa.nostat X_300) ns0))
      have F_376 : Sta Z h_312 "java/lang/StringUTF16" "LO_BYTE_SHIFT" "I" (.int (8 : Int32)) := (sta_keep F_310 K_304 (nsS (Exa.nostat X_300) ns0))
      refine Go.callS (a1 := a0) (pc' := 221) (argsL := [(.ref a_296)]) (rest := []) (ct_isToken l Z a0 hw n0 h_312 a_296 [(nar .char x_253), (nar .char x_259), (nar .char x_265)] (by simp) X_305 (fun i hi9 => by match i, hi9 with | 0, _ => exact nar_rng x_253 | 1, _ => exact nar_rng x_259 | 2, _ => exact nar_rng x_265) sf hsf F_372 cs F_373 hcs F_374 F_375 F_376) at_218 (hw _ (List.mem_of_getElem? (i := 29) rfl)) (hw _ (List.mem_of_getElem? (i := 30) rfl)) (hw _ (List.mem_of_getElem? (i := 31) rfl)) (hw _ (List.mem_of_getElem? (i := 32) rfl)) (by decide) (lenOf pd__28Ljava_2flang_2fString_3b_29Z rfl) rfl 0 rfl rfl (by decide) (by decide) (by decide) (by decide) (fun _ q => nomatch q) rfl (fun v_377 h_378 N_379 hQ_380 hle_381 => ?_)
      obtain ⟨K_371, hk_370⟩ := hQ_380
      rcases hk_370 with ⟨rfl, hk_370⟩ | ⟨rfl, hk_370⟩
      · exact absurd (hk_370.2 0 (by simp)) ht_316
      · refine Go.re (pc' := 221) (L' := #[.val (.int p0), .val (.int p1), .val (.int p2), .val (.int p3), .val (.int p4), .val (.int (3 : Int32)), .val (.int (nar .char x_253)), .val (.int (nar .char x_259)), .val (.int (nar .char x_265)), .val (.int (nar .char x_271)), .val (.ref a_277), .val (.ref a_296), .val (.int (0 : Int32))]) (S' := [(.int (0 : Int32))]) rfl rfl rfl ?_
        refine Go.iload (pc' := 223) at_221 rfl rfl ?_
        refine Go.icmpF (pc' := 226) at_223 (show (0 : Int32) = (0 : Int32) by decide) rfl ?_
        refine Go.iconst (pc' := 227) 1 at_226 rfl rfl ?_
        refine Go.goto (pc' := 231) at_227 (by decide) (by decide) ?_
        refine Go.retN (t := .boolean) (1 : Int32) rfl (by simp) rfl [] (fun _ q => nomatch q) at_231 (by decide) (by decide) ?_
        exact rfl
  · refine Go.re (pc' := 7) (L' := #[.val (.int p0), .val (.int p1), .val (.int p2), .val (.int p3), .val (.int p4), .unset, .unset, .unset, .unset, .unset, .unset, .unset, .unset]) (S' := [(.int (4 : Int32))]) rfl rfl (congrArg (fun z => Value.int z :: _) hn_1) ?_
    refine Go.istore (pc' := 9) #[.val (.int p0), .val (.int p1), .val (.int p2), .val (.int p3), .val (.int p4), .val (.int (4 : Int32)), .unset, .unset, .unset, .unset, .unset, .unset, .unset] at_7 rfl rfl ?_
    refine Go.iloadN (pc' := 10) at_9 rfl rfl ?_
    refine Go.callS (a1 := a0) (pc' := 13) (argsL := [(.int p0)]) (rest := []) (ct_draw l Z a0 hw n0 h0 p0) at_10 (hw _ (List.mem_of_getElem? (i := 1) rfl)) (hw _ (List.mem_of_getElem? (i := 2) rfl)) (hw _ (List.mem_of_getElem? (i := 3) rfl)) (hw _ (List.mem_of_getElem? (i := 4) rfl)) (by decide) (lenOf pd__28I_29C rfl) rfl 0 rfl rfl (by decide) (by decide) (by decide) (by decide) (fun _ q => nomatch q) rfl (fun v_383 h_384 N_385 hQ_386 hle_387 => ?_)
    obtain ⟨rfl, x_382, rfl⟩ := hQ_386
    refine Go.re (pc' := 13) (L' := #[.val (.int p0), .val (.int p1), .val (.int p2), .val (.int p3), .val (.int p4), .val (.int (4 : Int32)), .unset, .unset, .unset, .unset, .unset, .unset, .unset]) (S' := [(.int (nar .char x_382))]) rfl rfl rfl ?_
    refine Go.istore (pc' := 15) #[.val (.int p0), .val (.int p1), .val (.int p2), .val (.int p3), .val (.int p4), .val (.int (4 : Int32)), .val (.int (nar .char x_382)), .unset, .unset, .unset, .unset, .unset, .unset] at_13 rfl rfl ?_
    refine Go.iloadN (pc' := 16) at_15 rfl rfl ?_
    refine Go.callS (a1 := a0) (pc' := 19) (argsL := [(.int p1)]) (rest := []) (ct_draw l Z a0 hw n0 h0 p1) at_16 (hw _ (List.mem_of_getElem? (i := 1) rfl)) (hw _ (List.mem_of_getElem? (i := 2) rfl)) (hw _ (List.mem_of_getElem? (i := 3) rfl)) (hw _ (List.mem_of_getElem? (i := 4) rfl)) (by decide) (lenOf pd__28I_29C rfl) rfl 0 rfl rfl (by decide) (by decide) (by decide) (by decide) (fun _ q => nomatch q) rfl (fun v_389 h_390 N_391 hQ_392 hle_393 => ?_)
    obtain ⟨rfl, x_388, rfl⟩ := hQ_392
    refine Go.re (pc' := 19) (L' := #[.val (.int p0), .val (.int p1), .val (.int p2), .val (.int p3), .val (.int p4), .val (.int (4 : Int32)), .val (.int (nar .char x_382)), .unset, .unset, .unset, .unset, .unset, .unset]) (S' := [(.int (nar .char x_388))]) rfl rfl rfl ?_
    refine Go.istore (pc' := 21) #[.val (.int p0), .val (.int p1), .val (.int p2), .val (.int p3), .val (.int p4), .val (.int (4 : Int32)), .val (.int (nar .char x_382)), .val (.int (nar .char x_388)), .unset, .unset, .unset, .unset, .unset] at_19 rfl rfl ?_
    refine Go.iloadN (pc' := 22) at_21 rfl rfl ?_
    refine Go.callS (a1 := a0) (pc' := 25) (argsL := [(.int p2)]) (rest := []) (ct_draw l Z a0 hw n0 h0 p2) at_22 (hw _ (List.mem_of_getElem? (i := 1) rfl)) (hw _ (List.mem_of_getElem? (i := 2) rfl)) (hw _ (List.mem_of_getElem? (i := 3) rfl)) (hw _ (List.mem_of_getElem? (i := 4) rfl)) (by decide) (lenOf pd__28I_29C rfl) rfl 0 rfl rfl (by decide) (by decide) (by decide) (by decide) (fun _ q => nomatch q) rfl (fun v_395 h_396 N_397 hQ_398 hle_399 => ?_)
    obtain ⟨rfl, x_394, rfl⟩ := hQ_398
    refine Go.re (pc' := 25) (L' := #[.val (.int p0), .val (.int p1), .val (.int p2), .val (.int p3), .val (.int p4), .val (.int (4 : Int32)), .val (.int (nar .char x_382)), .val (.int (nar .char x_388)), .unset, .unset, .unset, .unset, .unset]) (S' := [(.int (nar .char x_394))]) rfl rfl rfl ?_
    refine Go.istore (pc' := 27) #[.val (.int p0), .val (.int p1), .val (.int p2), .val (.int p3), .val (.int p4), .val (.int (4 : Int32)), .val (.int (nar .char x_382)), .val (.int (nar .char x_388)), .val (.int (nar .char x_394)), .unset, .unset, .unset, .unset] at_25 rfl rfl ?_
    refine Go.iloadN (pc' := 28) at_27 rfl rfl ?_
    refine Go.callS (a1 := a0) (pc' := 31) (argsL := [(.int p3)]) (rest := []) (ct_draw l Z a0 hw n0 h0 p3) at_28 (hw _ (List.mem_of_getElem? (i := 1) rfl)) (hw _ (List.mem_of_getElem? (i := 2) rfl)) (hw _ (List.mem_of_getElem? (i := 3) rfl)) (hw _ (List.mem_of_getElem? (i := 4) rfl)) (by decide) (lenOf pd__28I_29C rfl) rfl 0 rfl rfl (by decide) (by decide) (by decide) (by decide) (fun _ q => nomatch q) rfl (fun v_401 h_402 N_403 hQ_404 hle_405 => ?_)
    obtain ⟨rfl, x_400, rfl⟩ := hQ_404
    refine Go.re (pc' := 31) (L' := #[.val (.int p0), .val (.int p1), .val (.int p2), .val (.int p3), .val (.int p4), .val (.int (4 : Int32)), .val (.int (nar .char x_382)), .val (.int (nar .char x_388)), .val (.int (nar .char x_394)), .unset, .unset, .unset, .unset]) (S' := [(.int (nar .char x_400))]) rfl rfl rfl ?_
    refine Go.istore (pc' := 33) #[.val (.int p0), .val (.int p1), .val (.int p2), .val (.int p3), .val (.int p4), .val (.int (4 : Int32)), .val (.int (nar .char x_382)), .val (.int (nar .char x_388)), .val (.int (nar .char x_394)), .val (.int (nar .char x_400)), .unset, .unset, .unset] at_31 rfl rfl ?_
    refine Go.iload (pc' := 35) at_33 rfl rfl ?_
    refine Go.ifT (pc' := 46) at_35 (show ¬ ((4 : Int32) = (0 : Int32)) by decide) (by decide) (by decide) ?_
    refine Go.iload (pc' := 48) at_46 rfl rfl ?_
    refine Go.iconst (pc' := 49) 1 at_48 rfl rfl ?_
    refine Go.icmpT (pc' := 65) at_49 (show ¬ ((4 : Int32) = (1 : Int32)) by decide) (by decide) (by decide) ?_
    refine Go.iload (pc' := 67) at_65 rfl rfl ?_
    refine Go.iconst (pc' := 68) 2 at_67 rfl rfl ?_
    refine Go.icmpT (pc' := 89) at_68 (show ¬ ((4 : Int32) = (2 : Int32)) by decide) (by decide) (by decide) ?_
    refine Go.iload (pc' := 91) at_89 rfl rfl ?_
    refine Go.iconst (pc' := 92) 3 at_91 rfl rfl ?_
    refine Go.icmpT (pc' := 118) at_92 (show ¬ ((4 : Int32) = (3 : Int32)) by decide) (by decide) (by decide) ?_
    refine Go.iconst (pc' := 119) 4 at_118 rfl rfl ?_
    refine Go.newPV (pc' := 121) (a1 := a0) 4 [(.int (0 : Int32)), (.int (0 : Int32)), (.int (0 : Int32)), (.int (0 : Int32))] at_119 (hw _ (List.mem_of_getElem? (i := 7) rfl)) (by decide) (by decide) (by decide) (by decide) (by decide) rfl rfl (fun a_406 h_407 cA_408 ha_409 E_410 A_411 => ?_)
    have szh_407 : h0.size ≤ h_407.size := E_410.1
    have lta_406 := nlt A_411.lt
    have qa_406 := neq ha_409
    have F_412 : Arv Z h_407 a_406 cA_408 .char (4 : Int32) [(.int (0 : Int32)), (.int (0 : Int32)), (.int (0 : Int32)), (.int (0 : Int32))] (.int 0) := A_411
    refine Go.dup (pc' := 122) at_121 rfl rfl ?_
    refine Go.iconst (pc' := 123) 0 at_122 rfl rfl ?_
    refine Go.iload (pc' := 125) at_123 rfl rfl ?_
    refine Go.castoreV (pc' := 126) 0 at_125 F_412 (by decide) rfl (show 0 < 4 by decide) (by omega) rfl (fun h_413 W_414 A_415 => ?_)
    have szh_413 : h_413.size = h_407.size := Wr.size W_414
    have F_416 : Arv Z h_413 a_406 cA_408 .char (4 : Int32) [(.int (nar .char x_382)), (.int (0 : Int32)), (.int (0 : Int32)), (.int (0 : Int32))] (.int 0) := by have q := A_415; rw [nar_cc] at q; exact q
    refine Go.dup (pc' := 127) at_126 rfl rfl ?_
    refine Go.iconst (pc' := 128) 1 at_127 rfl rfl ?_
    refine Go.iload (pc' := 130) at_128 rfl rfl ?_
    refine Go.castoreV (pc' := 131) 1 at_130 F_416 (by decide) rfl (show 1 < 4 by decide) (by omega) rfl (fun h_417 W_418 A_419 => ?_)
    have szh_417 : h_417.size = h_413.size := Wr.size W_418
    have F_420 : Arv Z h_417 a_406 cA_408 .char (4 : Int32) [(.int (nar .char x_382)), (.int (nar .char x_388)), (.int (0 : Int32)), (.int (0 : Int32))] (.int 0) := by have q := A_419; rw [nar_cc] at q; exact q
    refine Go.dup (pc' := 132) at_131 rfl rfl ?_
    refine Go.iconst (pc' := 133) 2 at_132 rfl rfl ?_
    refine Go.iload (pc' := 135) at_133 rfl rfl ?_
    refine Go.castoreV (pc' := 136) 2 at_135 F_420 (by decide) rfl (show 2 < 4 by decide) (by omega) rfl (fun h_421 W_422 A_423 => ?_)
    have szh_421 : h_421.size = h_417.size := Wr.size W_422
    have F_424 : Arv Z h_421 a_406 cA_408 .char (4 : Int32) [(.int (nar .char x_382)), (.int (nar .char x_388)), (.int (nar .char x_394)), (.int (0 : Int32))] (.int 0) := by have q := A_423; rw [nar_cc] at q; exact q
    refine Go.dup (pc' := 137) at_136 rfl rfl ?_
    refine Go.iconst (pc' := 138) 3 at_137 rfl rfl ?_
    refine Go.iload (pc' := 140) at_138 rfl rfl ?_
    refine Go.castoreV (pc' := 141) 3 at_140 F_424 (by decide) rfl (show 3 < 4 by decide) (by omega) rfl (fun h_425 W_426 A_427 => ?_)
    have szh_425 : h_425.size = h_421.size := Wr.size W_426
    have F_428 : Arv Z h_425 a_406 cA_408 .char (4 : Int32) [(.int (nar .char x_382)), (.int (nar .char x_388)), (.int (nar .char x_394)), (.int (nar .char x_400))] (.int 0) := by have q := A_427; rw [nar_cc] at q; exact q
    refine Go.astore (pc' := 143) #[.val (.int p0), .val (.int p1), .val (.int p2), .val (.int p3), .val (.int p4), .val (.int (4 : Int32)), .val (.int (nar .char x_382)), .val (.int (nar .char x_388)), .val (.int (nar .char x_394)), .val (.int (nar .char x_400)), .val (.ref a_406), .unset, .unset] at_141 rfl rfl rfl ?_
    refine Go.newO (pc' := 146) (a1 := a0) at_143 (hw _ (List.mem_of_getElem? (i := 8) rfl)) (hw _ (List.mem_of_getElem? (i := 9) rfl)) (hw _ (List.mem_of_getElem? (i := 10) rfl)) (by decide) (by decide) rfl (fun a_429 h_430 ha_432 E_431 X_433 Df_434 => ?_)
    have szh_430 : h_425.size ≤ h_430.size := E_431.1
    have lta_429 := nlt X_433.lt
    have qa_429 := neq ha_432
    have F_435 : Fld Z h_430 a_429 "java/lang/String" "value" "[B" (.null) := Df_434 (Or.inr (hw _ (List.mem_of_getElem? (i := 23) rfl))) (ty := (.array .byte)) (by decide)
    have F_436 : Fld Z h_430 a_429 "java/lang/String" "coder" "B" (.int (0 : Int32)) := Df_434 (Or.inr (hw _ (List.mem_of_getElem? (i := 24) rfl))) (ty := .byte) (by decide)
    refine Go.dup (pc' := 147) at_146 rfl rfl ?_
    refine Go.aload (pc' := 149) at_147 rfl rfl rfl ?_
    have F_439 : Arv Z h_430 a_406 cA_408 .char (4 : Int32) [(.int (nar .char x_382)), (.int (nar .char x_388)), (.int (nar .char x_394)), (.int (nar .char x_400))] (.int 0) := (Arv.ext F_428 E_431)
    have F_440 : Sta Z h_430 "java/lang/String" "COMPACT_STRINGS" "Z" (.int cs) := (Sta.ext E_431 (Sta.wr W_426 (Sta.wr W_422 (Sta.wr W_418 (Sta.wr W_414 (Sta.ext E_410 S_cs))))))
    have F_441 : Sta Z h_430 "java/lang/StringUTF16" "$assertionsDisabled" "Z" (.int (1 : Int32)) := (Sta.ext E_431 (Sta.wr W_426 (Sta.wr W_422 (Sta.wr W_418 (Sta.wr W_414 (Sta.ext E_410 S_ad))))))
    have F_442 : Sta Z h_430 "java/lang/StringUTF16" "HI_BYTE_SHIFT" "I" (.int (0 : Int32)) := (Sta.ext E_431 (Sta.wr W_426 (Sta.wr W_422 (Sta.wr W_418 (Sta.wr W_414 (Sta.ext E_410 S_hi))))))
    have F_443 : Sta Z h_430 "java/lang/StringUTF16" "LO_BYTE_SHIFT" "I" (.int (8 : Int32)) := (Sta.ext E_431 (Sta.wr W_426 (Sta.wr W_422 (Sta.wr W_418 (Sta.wr W_414 (Sta.ext E_410 S_lo))))))
    refine Go.callN (a1 := a0) (pc' := 152) (argsL := [(.ref a_406)]) (rest := [(.ref a_429)]) (ct_i1_4 l Z a0 hw n0 h_430 a_429 (by omega) X_433 F_435 F_436 a_406 cA_408 (nar .char x_382) (nar .char x_388) (nar .char x_394) (nar .char x_400) F_439 (nar_rng x_382).1 (nar_rng x_382).2 (nar_rng x_388).1 (nar_rng x_388).2 (nar_rng x_394).1 (nar_rng x_394).2 (nar_rng x_400).1 (nar_rng x_400).2 cs F_440 hcs F_441 F_442 F_443) at_149 rfl (hw _ (List.mem_of_getElem? (i := 11) rfl)) (hw _ (List.mem_of_getElem? (i := 12) rfl)) (hw _ (List.mem_of_getElem? (i := 10) rfl)) (hw _ (List.mem_of_getElem? (i := 13) rfl)) (by decide) (lenOf pd__28_5bC_29V rfl) rfl 1 rfl rfl (by decide) (by decide) (by decide) (by decide) (by intro x hx; simp only [List.mem_cons, List.not_mem_nil, or_false] at hx; rcases hx with rfl; all_goals simp) rfl (fun v_444 h_445 N_446 hQ_447 hle_448 => ?_)
    obtain ⟨rfl, K_437, X_438⟩ := hQ_447
    refine Go.re (pc' := 152) (L' := #[.val (.int p0), .val (.int p1), .val (.int p2), .val (.int p3), .val (.int p4), .val (.int (4 : Int32)), .val (.int (nar .char x_382)), .val (.int (nar .char x_388)), .val (.int (nar .char x_394)), .val (.int (nar .char x_400)), .val (.ref a_406), .unset, .unset]) (S' := [(.ref a_429)]) rfl rfl rfl ?_
    refine Go.astore (pc' := 154) #[.val (.int p0), .val (.int p1), .val (.int p2), .val (.int p3), .val (.int p4), .val (.int (4 : Int32)), .val (.int (nar .char x_382)), .val (.int (nar .char x_388)), .val (.int (nar .char x_394)), .val (.int (nar .char x_400)), .val (.ref a_406), .val (.ref a_429), .unset] at_152 rfl rfl rfl ?_
    refine Go.iload (pc' := 156) at_154 rfl rfl ?_
    refine Go.ifF (pc' := 159) at_156 (show (0 : Int32) < (4 : Int32) by decide) rfl ?_
    refine Go.iload (pc' := 161) at_159 rfl rfl ?_
    refine Go.callS (a1 := a0) (pc' := 164) (argsL := [(.int (nar .char x_382))]) (rest := []) (ct_tchar l Z a0 hw n0 h_445 (nar .char x_382)) at_161 (hw _ (List.mem_of_getElem? (i := 49) rfl)) (hw _ (List.mem_of_getElem? (i := 50) rfl)) (hw _ (List.mem_of_getElem? (i := 3) rfl)) (hw _ (List.mem_of_getElem? (i := 51) rfl)) (by decide) (lenOf pd__28C_29Z rfl) rfl 0 rfl rfl (by decide) (by decide) (by decide) (by decide) (fun _ q => nomatch q) rfl (fun v_450 h_451 N_452 hQ_453 hle_454 => ?_)
    obtain ⟨rfl, ht_449⟩ := hQ_453
    rcases ht_449 with ⟨ht_449, rfl⟩ | ⟨ht_449, rfl⟩
    · refine Go.re (pc' := 164) (L' := #[.val (.int p0), .val (.int p1), .val (.int p2), .val (.int p3), .val (.int p4), .val (.int (4 : Int32)), .val (.int (nar .char x_382)), .val (.int (nar .char x_388)), .val (.int (nar .char x_394)), .val (.int (nar .char x_400)), .val (.ref a_406), .val (.ref a_429), .unset]) (S' := [(.int (1 : Int32))]) rfl rfl rfl ?_
      refine Go.ifF (pc' := 167) at_164 (show ¬ ((1 : Int32) = (0 : Int32)) by decide) rfl ?_
      refine Go.iload (pc' := 169) at_167 rfl rfl ?_
      refine Go.iconst (pc' := 170) 2 at_169 rfl rfl ?_
      refine Go.icmpF (pc' := 173) at_170 (show ¬ ((4 : Int32) < (2 : Int32)) by decide) rfl ?_
      refine Go.iload (pc' := 175) at_173 rfl rfl ?_
      refine Go.callS (a1 := a0) (pc' := 178) (argsL := [(.int (nar .char x_388))]) (rest := []) (ct_tchar l Z a0 hw n0 h_445 (nar .char x_388)) at_175 (hw _ (List.mem_of_getElem? (i := 49) rfl)) (hw _ (List.mem_of_getElem? (i := 50) rfl)) (hw _ (List.mem_of_getElem? (i := 3) rfl)) (hw _ (List.mem_of_getElem? (i := 51) rfl)) (by decide) (lenOf pd__28C_29Z rfl) rfl 0 rfl rfl (by decide) (by decide) (by decide) (by decide) (fun _ q => nomatch q) rfl (fun v_456 h_457 N_458 hQ_459 hle_460 => ?_)
      obtain ⟨rfl, ht_455⟩ := hQ_459
      rcases ht_455 with ⟨ht_455, rfl⟩ | ⟨ht_455, rfl⟩
      · refine Go.re (pc' := 178) (L' := #[.val (.int p0), .val (.int p1), .val (.int p2), .val (.int p3), .val (.int p4), .val (.int (4 : Int32)), .val (.int (nar .char x_382)), .val (.int (nar .char x_388)), .val (.int (nar .char x_394)), .val (.int (nar .char x_400)), .val (.ref a_406), .val (.ref a_429), .unset]) (S' := [(.int (1 : Int32))]) rfl rfl rfl ?_
        refine Go.ifF (pc' := 181) at_178 (show ¬ ((1 : Int32) = (0 : Int32)) by decide) rfl ?_
        refine Go.iload (pc' := 183) at_181 rfl rfl ?_
        refine Go.iconst (pc' := 184) 3 at_183 rfl rfl ?_
        refine Go.icmpF (pc' := 187) at_184 (show ¬ ((4 : Int32) < (3 : Int32)) by decide) rfl ?_
        refine Go.iload (pc' := 189) at_187 rfl rfl ?_
        refine Go.callS (a1 := a0) (pc' := 192) (argsL := [(.int (nar .char x_394))]) (rest := []) (ct_tchar l Z a0 hw n0 h_445 (nar .char x_394)) at_189 (hw _ (List.mem_of_getElem? (i := 49) rfl)) (hw _ (List.mem_of_getElem? (i := 50) rfl)) (hw _ (List.mem_of_getElem? (i := 3) rfl)) (hw _ (List.mem_of_getElem? (i := 51) rfl)) (by decide) (lenOf pd__28C_29Z rfl) rfl 0 rfl rfl (by decide) (by decide) (by decide) (by decide) (fun _ q => nomatch q) rfl (fun v_462 h_463 N_464 hQ_465 hle_466 => ?_)
        obtain ⟨rfl, ht_461⟩ := hQ_465
        rcases ht_461 with ⟨ht_461, rfl⟩ | ⟨ht_461, rfl⟩
        · refine Go.re (pc' := 192) (L' := #[.val (.int p0), .val (.int p1), .val (.int p2), .val (.int p3), .val (.int p4), .val (.int (4 : Int32)), .val (.int (nar .char x_382)), .val (.int (nar .char x_388)), .val (.int (nar .char x_394)), .val (.int (nar .char x_400)), .val (.ref a_406), .val (.ref a_429), .unset]) (S' := [(.int (1 : Int32))]) rfl rfl rfl ?_
          refine Go.ifF (pc' := 195) at_192 (show ¬ ((1 : Int32) = (0 : Int32)) by decide) rfl ?_
          refine Go.iload (pc' := 197) at_195 rfl rfl ?_
          refine Go.iconst (pc' := 198) 4 at_197 rfl rfl ?_
          refine Go.icmpF (pc' := 201) at_198 (show ¬ ((4 : Int32) < (4 : Int32)) by decide) rfl ?_
          refine Go.iload (pc' := 203) at_201 rfl rfl ?_
          refine Go.callS (a1 := a0) (pc' := 206) (argsL := [(.int (nar .char x_400))]) (rest := []) (ct_tchar l Z a0 hw n0 h_445 (nar .char x_400)) at_203 (hw _ (List.mem_of_getElem? (i := 49) rfl)) (hw _ (List.mem_of_getElem? (i := 50) rfl)) (hw _ (List.mem_of_getElem? (i := 3) rfl)) (hw _ (List.mem_of_getElem? (i := 51) rfl)) (by decide) (lenOf pd__28C_29Z rfl) rfl 0 rfl rfl (by decide) (by decide) (by decide) (by decide) (fun _ q => nomatch q) rfl (fun v_468 h_469 N_470 hQ_471 hle_472 => ?_)
          obtain ⟨rfl, ht_467⟩ := hQ_471
          rcases ht_467 with ⟨ht_467, rfl⟩ | ⟨ht_467, rfl⟩
          · refine Go.re (pc' := 206) (L' := #[.val (.int p0), .val (.int p1), .val (.int p2), .val (.int p3), .val (.int p4), .val (.int (4 : Int32)), .val (.int (nar .char x_382)), .val (.int (nar .char x_388)), .val (.int (nar .char x_394)), .val (.int (nar .char x_400)), .val (.ref a_406), .val (.ref a_429), .unset]) (S' := [(.int (1 : Int32))]) rfl rfl rfl ?_
            refine Go.ifF (pc' := 209) at_206 (show ¬ ((1 : Int32) = (0 : Int32)) by decide) rfl ?_
            refine Go.iconst (pc' := 210) 1 at_209 rfl rfl ?_
            refine Go.goto (pc' := 214) at_210 (by decide) (by decide) ?_
            refine Go.istore (pc' := 216) #[.val (.int p0), .val (.int p1), .val (.int p2), .val (.int p3), .val (.int p4), .val (.int (4 : Int32)), .val (.int (nar .char x_382)), .val (.int (nar .char x_388)), .val (.int (nar .char x_394)), .val (.int (nar .char x_400)), .val (.ref a_406), .val (.ref a_429), .val (.int (1 : Int32))] at_214 rfl rfl ?_
            refine Go.aload (pc' := 218) at_216 rfl rfl rfl ?_
            have F_475 : Sta Z h_445 "jdk/internal/util/Preconditions" "SIOOBE_FORMATTER" "Ljava/util/function/BiFunction;" sf := (sta_keep (Sta.ext E_431 (Sta.wr W_426 (Sta.wr W_422 (Sta.wr W_418 (Sta.wr W_414 (Sta.ext E_410 S_sf)))))) K_437 (nsS (Exa.nostat X_433) ns0))
            have F_476 : Sta Z h_445 "java/lang/String" "COMPACT_STRINGS" "Z" (.int cs) := (sta_keep F_440 K_437 (nsS (Exa.nostat X_433) ns0))
            have F_477 : Sta Z h_445 "java/lang/StringUTF16" "$assertionsDisabled" "Z" (.int (1 : Int32)) := (sta_keep F_441 K_437 (nsS (Exa.nostat X_433) ns0))
            have F_478 : Sta Z h_445 "java/lang/StringUTF16" "HI_BYTE_SHIFT" "I" (.int (0 : Int32)) := (sta_keep F_442 K_437 (nsS (Exa.nostat X_433) ns0))
            have F_479 : Sta Z h_445 "java/lang/StringUTF16" "LO_BYTE_SHIFT" "I" (.int (8 : Int32)) := (sta_keep F_443 K_437 (nsS (Exa.nostat X_433) ns0))
            refine Go.callS (a1 := a0) (pc' := 221) (argsL := [(.ref a_429)]) (rest := []) (ct_isToken l Z a0 hw n0 h_445 a_429 [(nar .char x_382), (nar .char x_388), (nar .char x_394), (nar .char x_400)] (by simp) X_438 (fun i hi9 => by match i, hi9 with | 0, _ => exact nar_rng x_382 | 1, _ => exact nar_rng x_388 | 2, _ => exact nar_rng x_394 | 3, _ => exact nar_rng x_400) sf hsf F_475 cs F_476 hcs F_477 F_478 F_479) at_218 (hw _ (List.mem_of_getElem? (i := 29) rfl)) (hw _ (List.mem_of_getElem? (i := 30) rfl)) (hw _ (List.mem_of_getElem? (i := 31) rfl)) (hw _ (List.mem_of_getElem? (i := 32) rfl)) (by decide) (lenOf pd__28Ljava_2flang_2fString_3b_29Z rfl) rfl 0 rfl rfl (by decide) (by decide) (by decide) (by decide) (fun _ q => nomatch q) rfl (fun v_480 h_481 N_482 hQ_483 hle_484 => ?_)
            obtain ⟨K_474, hk_473⟩ := hQ_483
            rcases hk_473 with ⟨rfl, hk_473⟩ | ⟨rfl, hk_473⟩
            · refine Go.re (pc' := 221) (L' := #[.val (.int p0), .val (.int p1), .val (.int p2), .val (.int p3), .val (.int p4), .val (.int (4 : Int32)), .val (.int (nar .char x_382)), .val (.int (nar .char x_388)), .val (.int (nar .char x_394)), .val (.int (nar .char x_400)), .val (.ref a_406), .val (.ref a_429), .val (.int (1 : Int32))]) (S' := [(.int (1 : Int32))]) rfl rfl rfl ?_
              refine Go.iload (pc' := 223) at_221 rfl rfl ?_
              refine Go.icmpF (pc' := 226) at_223 (show (1 : Int32) = (1 : Int32) by decide) rfl ?_
              refine Go.iconst (pc' := 227) 1 at_226 rfl rfl ?_
              refine Go.goto (pc' := 231) at_227 (by decide) (by decide) ?_
              refine Go.retN (t := .boolean) (1 : Int32) rfl (by simp) rfl [] (fun _ q => nomatch q) at_231 (by decide) (by decide) ?_
              exact rfl
            · exact absurd hk_473 (own_no4 ht_449 ht_455 ht_461 ht_467)
          · refine Go.re (pc' := 206) (L' := #[.val (.int p0), .val (.int p1), .val (.int p2), .val (.int p3), .val (.int p4), .val (.int (4 : Int32)), .val (.int (nar .char x_382)), .val (.int (nar .char x_388)), .val (.int (nar .char x_394)), .val (.int (nar .char x_400)), .val (.ref a_406), .val (.ref a_429), .unset]) (S' := [(.int (0 : Int32))]) rfl rfl rfl ?_
            refine Go.ifT (pc' := 213) at_206 (show (0 : Int32) = (0 : Int32) by decide) (by decide) (by decide) ?_
            refine Go.iconst (pc' := 214) 0 at_213 rfl rfl ?_
            refine Go.istore (pc' := 216) #[.val (.int p0), .val (.int p1), .val (.int p2), .val (.int p3), .val (.int p4), .val (.int (4 : Int32)), .val (.int (nar .char x_382)), .val (.int (nar .char x_388)), .val (.int (nar .char x_394)), .val (.int (nar .char x_400)), .val (.ref a_406), .val (.ref a_429), .val (.int (0 : Int32))] at_214 rfl rfl ?_
            refine Go.aload (pc' := 218) at_216 rfl rfl rfl ?_
            have F_487 : Sta Z h_445 "jdk/internal/util/Preconditions" "SIOOBE_FORMATTER" "Ljava/util/function/BiFunction;" sf := (sta_keep (Sta.ext E_431 (Sta.wr W_426 (Sta.wr W_422 (Sta.wr W_418 (Sta.wr W_414 (Sta.ext E_410 S_sf)))))) K_437 (nsS (Exa.nostat X_433) ns0))
            have F_488 : Sta Z h_445 "java/lang/String" "COMPACT_STRINGS" "Z" (.int cs) := (sta_keep F_440 K_437 (nsS (Exa.nostat X_433) ns0))
            have F_489 : Sta Z h_445 "java/lang/StringUTF16" "$assertionsDisabled" "Z" (.int (1 : Int32)) := (sta_keep F_441 K_437 (nsS (Exa.nostat X_433) ns0))
            have F_490 : Sta Z h_445 "java/lang/StringUTF16" "HI_BYTE_SHIFT" "I" (.int (0 : Int32)) := (sta_keep F_442 K_437 (nsS (Exa.nostat X_433) ns0))
            have F_491 : Sta Z h_445 "java/lang/StringUTF16" "LO_BYTE_SHIFT" "I" (.int (8 : Int32)) := (sta_keep F_443 K_437 (nsS (Exa.nostat X_433) ns0))
            refine Go.callS (a1 := a0) (pc' := 221) (argsL := [(.ref a_429)]) (rest := []) (ct_isToken l Z a0 hw n0 h_445 a_429 [(nar .char x_382), (nar .char x_388), (nar .char x_394), (nar .char x_400)] (by simp) X_438 (fun i hi9 => by match i, hi9 with | 0, _ => exact nar_rng x_382 | 1, _ => exact nar_rng x_388 | 2, _ => exact nar_rng x_394 | 3, _ => exact nar_rng x_400) sf hsf F_487 cs F_488 hcs F_489 F_490 F_491) at_218 (hw _ (List.mem_of_getElem? (i := 29) rfl)) (hw _ (List.mem_of_getElem? (i := 30) rfl)) (hw _ (List.mem_of_getElem? (i := 31) rfl)) (hw _ (List.mem_of_getElem? (i := 32) rfl)) (by decide) (lenOf pd__28Ljava_2flang_2fString_3b_29Z rfl) rfl 0 rfl rfl (by decide) (by decide) (by decide) (by decide) (fun _ q => nomatch q) rfl (fun v_492 h_493 N_494 hQ_495 hle_496 => ?_)
            obtain ⟨K_486, hk_485⟩ := hQ_495
            rcases hk_485 with ⟨rfl, hk_485⟩ | ⟨rfl, hk_485⟩
            · exact absurd (hk_485.2 3 (by simp)) ht_467
            · refine Go.re (pc' := 221) (L' := #[.val (.int p0), .val (.int p1), .val (.int p2), .val (.int p3), .val (.int p4), .val (.int (4 : Int32)), .val (.int (nar .char x_382)), .val (.int (nar .char x_388)), .val (.int (nar .char x_394)), .val (.int (nar .char x_400)), .val (.ref a_406), .val (.ref a_429), .val (.int (0 : Int32))]) (S' := [(.int (0 : Int32))]) rfl rfl rfl ?_
              refine Go.iload (pc' := 223) at_221 rfl rfl ?_
              refine Go.icmpF (pc' := 226) at_223 (show (0 : Int32) = (0 : Int32) by decide) rfl ?_
              refine Go.iconst (pc' := 227) 1 at_226 rfl rfl ?_
              refine Go.goto (pc' := 231) at_227 (by decide) (by decide) ?_
              refine Go.retN (t := .boolean) (1 : Int32) rfl (by simp) rfl [] (fun _ q => nomatch q) at_231 (by decide) (by decide) ?_
              exact rfl
        · refine Go.re (pc' := 192) (L' := #[.val (.int p0), .val (.int p1), .val (.int p2), .val (.int p3), .val (.int p4), .val (.int (4 : Int32)), .val (.int (nar .char x_382)), .val (.int (nar .char x_388)), .val (.int (nar .char x_394)), .val (.int (nar .char x_400)), .val (.ref a_406), .val (.ref a_429), .unset]) (S' := [(.int (0 : Int32))]) rfl rfl rfl ?_
          refine Go.ifT (pc' := 213) at_192 (show (0 : Int32) = (0 : Int32) by decide) (by decide) (by decide) ?_
          refine Go.iconst (pc' := 214) 0 at_213 rfl rfl ?_
          refine Go.istore (pc' := 216) #[.val (.int p0), .val (.int p1), .val (.int p2), .val (.int p3), .val (.int p4), .val (.int (4 : Int32)), .val (.int (nar .char x_382)), .val (.int (nar .char x_388)), .val (.int (nar .char x_394)), .val (.int (nar .char x_400)), .val (.ref a_406), .val (.ref a_429), .val (.int (0 : Int32))] at_214 rfl rfl ?_
          refine Go.aload (pc' := 218) at_216 rfl rfl rfl ?_
          have F_499 : Sta Z h_445 "jdk/internal/util/Preconditions" "SIOOBE_FORMATTER" "Ljava/util/function/BiFunction;" sf := (sta_keep (Sta.ext E_431 (Sta.wr W_426 (Sta.wr W_422 (Sta.wr W_418 (Sta.wr W_414 (Sta.ext E_410 S_sf)))))) K_437 (nsS (Exa.nostat X_433) ns0))
          have F_500 : Sta Z h_445 "java/lang/String" "COMPACT_STRINGS" "Z" (.int cs) := (sta_keep F_440 K_437 (nsS (Exa.nostat X_433) ns0))
          have F_501 : Sta Z h_445 "java/lang/StringUTF16" "$assertionsDisabled" "Z" (.int (1 : Int32)) := (sta_keep F_441 K_437 (nsS (Exa.nostat X_433) ns0))
          have F_502 : Sta Z h_445 "java/lang/StringUTF16" "HI_BYTE_SHIFT" "I" (.int (0 : Int32)) := (sta_keep F_442 K_437 (nsS (Exa.nostat X_433) ns0))
          have F_503 : Sta Z h_445 "java/lang/StringUTF16" "LO_BYTE_SHIFT" "I" (.int (8 : Int32)) := (sta_keep F_443 K_437 (nsS (Exa.nostat X_433) ns0))
          refine Go.callS (a1 := a0) (pc' := 221) (argsL := [(.ref a_429)]) (rest := []) (ct_isToken l Z a0 hw n0 h_445 a_429 [(nar .char x_382), (nar .char x_388), (nar .char x_394), (nar .char x_400)] (by simp) X_438 (fun i hi9 => by match i, hi9 with | 0, _ => exact nar_rng x_382 | 1, _ => exact nar_rng x_388 | 2, _ => exact nar_rng x_394 | 3, _ => exact nar_rng x_400) sf hsf F_499 cs F_500 hcs F_501 F_502 F_503) at_218 (hw _ (List.mem_of_getElem? (i := 29) rfl)) (hw _ (List.mem_of_getElem? (i := 30) rfl)) (hw _ (List.mem_of_getElem? (i := 31) rfl)) (hw _ (List.mem_of_getElem? (i := 32) rfl)) (by decide) (lenOf pd__28Ljava_2flang_2fString_3b_29Z rfl) rfl 0 rfl rfl (by decide) (by decide) (by decide) (by decide) (fun _ q => nomatch q) rfl (fun v_504 h_505 N_506 hQ_507 hle_508 => ?_)
          obtain ⟨K_498, hk_497⟩ := hQ_507
          rcases hk_497 with ⟨rfl, hk_497⟩ | ⟨rfl, hk_497⟩
          · exact absurd (hk_497.2 2 (by simp)) ht_461
          · refine Go.re (pc' := 221) (L' := #[.val (.int p0), .val (.int p1), .val (.int p2), .val (.int p3), .val (.int p4), .val (.int (4 : Int32)), .val (.int (nar .char x_382)), .val (.int (nar .char x_388)), .val (.int (nar .char x_394)), .val (.int (nar .char x_400)), .val (.ref a_406), .val (.ref a_429), .val (.int (0 : Int32))]) (S' := [(.int (0 : Int32))]) rfl rfl rfl ?_
            refine Go.iload (pc' := 223) at_221 rfl rfl ?_
            refine Go.icmpF (pc' := 226) at_223 (show (0 : Int32) = (0 : Int32) by decide) rfl ?_
            refine Go.iconst (pc' := 227) 1 at_226 rfl rfl ?_
            refine Go.goto (pc' := 231) at_227 (by decide) (by decide) ?_
            refine Go.retN (t := .boolean) (1 : Int32) rfl (by simp) rfl [] (fun _ q => nomatch q) at_231 (by decide) (by decide) ?_
            exact rfl
      · refine Go.re (pc' := 178) (L' := #[.val (.int p0), .val (.int p1), .val (.int p2), .val (.int p3), .val (.int p4), .val (.int (4 : Int32)), .val (.int (nar .char x_382)), .val (.int (nar .char x_388)), .val (.int (nar .char x_394)), .val (.int (nar .char x_400)), .val (.ref a_406), .val (.ref a_429), .unset]) (S' := [(.int (0 : Int32))]) rfl rfl rfl ?_
        refine Go.ifT (pc' := 213) at_178 (show (0 : Int32) = (0 : Int32) by decide) (by decide) (by decide) ?_
        refine Go.iconst (pc' := 214) 0 at_213 rfl rfl ?_
        refine Go.istore (pc' := 216) #[.val (.int p0), .val (.int p1), .val (.int p2), .val (.int p3), .val (.int p4), .val (.int (4 : Int32)), .val (.int (nar .char x_382)), .val (.int (nar .char x_388)), .val (.int (nar .char x_394)), .val (.int (nar .char x_400)), .val (.ref a_406), .val (.ref a_429), .val (.int (0 : Int32))] at_214 rfl rfl ?_
        refine Go.aload (pc' := 218) at_216 rfl rfl rfl ?_
        have F_511 : Sta Z h_445 "jdk/internal/util/Preconditions" "SIOOBE_FORMATTER" "Ljava/util/function/BiFunction;" sf := (sta_keep (Sta.ext E_431 (Sta.wr W_426 (Sta.wr W_422 (Sta.wr W_418 (Sta.wr W_414 (Sta.ext E_410 S_sf)))))) K_437 (nsS (Exa.nostat X_433) ns0))
        have F_512 : Sta Z h_445 "java/lang/String" "COMPACT_STRINGS" "Z" (.int cs) := (sta_keep F_440 K_437 (nsS (Exa.nostat X_433) ns0))
        have F_513 : Sta Z h_445 "java/lang/StringUTF16" "$assertionsDisabled" "Z" (.int (1 : Int32)) := (sta_keep F_441 K_437 (nsS (Exa.nostat X_433) ns0))
        have F_514 : Sta Z h_445 "java/lang/StringUTF16" "HI_BYTE_SHIFT" "I" (.int (0 : Int32)) := (sta_keep F_442 K_437 (nsS (Exa.nostat X_433) ns0))
        have F_515 : Sta Z h_445 "java/lang/StringUTF16" "LO_BYTE_SHIFT" "I" (.int (8 : Int32)) := (sta_keep F_443 K_437 (nsS (Exa.nostat X_433) ns0))
        refine Go.callS (a1 := a0) (pc' := 221) (argsL := [(.ref a_429)]) (rest := []) (ct_isToken l Z a0 hw n0 h_445 a_429 [(nar .char x_382), (nar .char x_388), (nar .char x_394), (nar .char x_400)] (by simp) X_438 (fun i hi9 => by match i, hi9 with | 0, _ => exact nar_rng x_382 | 1, _ => exact nar_rng x_388 | 2, _ => exact nar_rng x_394 | 3, _ => exact nar_rng x_400) sf hsf F_511 cs F_512 hcs F_513 F_514 F_515) at_218 (hw _ (List.mem_of_getElem? (i := 29) rfl)) (hw _ (List.mem_of_getElem? (i := 30) rfl)) (hw _ (List.mem_of_getElem? (i := 31) rfl)) (hw _ (List.mem_of_getElem? (i := 32) rfl)) (by decide) (lenOf pd__28Ljava_2flang_2fString_3b_29Z rfl) rfl 0 rfl rfl (by decide) (by decide) (by decide) (by decide) (fun _ q => nomatch q) rfl (fun v_516 h_517 N_518 hQ_519 hle_520 => ?_)
        obtain ⟨K_510, hk_509⟩ := hQ_519
        rcases hk_509 with ⟨rfl, hk_509⟩ | ⟨rfl, hk_509⟩
        · exact absurd (hk_509.2 1 (by simp)) ht_455
        · refine Go.re (pc' := 221) (L' := #[.val (.int p0), .val (.int p1), .val (.int p2), .val (.int p3), .val (.int p4), .val (.int (4 : Int32)), .val (.int (nar .char x_382)), .val (.int (nar .char x_388)), .val (.int (nar .char x_394)), .val (.int (nar .char x_400)), .val (.ref a_406), .val (.ref a_429), .val (.int (0 : Int32))]) (S' := [(.int (0 : Int32))]) rfl rfl rfl ?_
          refine Go.iload (pc' := 223) at_221 rfl rfl ?_
          refine Go.icmpF (pc' := 226) at_223 (show (0 : Int32) = (0 : Int32) by decide) rfl ?_
          refine Go.iconst (pc' := 227) 1 at_226 rfl rfl ?_
          refine Go.goto (pc' := 231) at_227 (by decide) (by decide) ?_
          refine Go.retN (t := .boolean) (1 : Int32) rfl (by simp) rfl [] (fun _ q => nomatch q) at_231 (by decide) (by decide) ?_
          exact rfl
    · refine Go.re (pc' := 164) (L' := #[.val (.int p0), .val (.int p1), .val (.int p2), .val (.int p3), .val (.int p4), .val (.int (4 : Int32)), .val (.int (nar .char x_382)), .val (.int (nar .char x_388)), .val (.int (nar .char x_394)), .val (.int (nar .char x_400)), .val (.ref a_406), .val (.ref a_429), .unset]) (S' := [(.int (0 : Int32))]) rfl rfl rfl ?_
      refine Go.ifT (pc' := 213) at_164 (show (0 : Int32) = (0 : Int32) by decide) (by decide) (by decide) ?_
      refine Go.iconst (pc' := 214) 0 at_213 rfl rfl ?_
      refine Go.istore (pc' := 216) #[.val (.int p0), .val (.int p1), .val (.int p2), .val (.int p3), .val (.int p4), .val (.int (4 : Int32)), .val (.int (nar .char x_382)), .val (.int (nar .char x_388)), .val (.int (nar .char x_394)), .val (.int (nar .char x_400)), .val (.ref a_406), .val (.ref a_429), .val (.int (0 : Int32))] at_214 rfl rfl ?_
      refine Go.aload (pc' := 218) at_216 rfl rfl rfl ?_
      have F_523 : Sta Z h_445 "jdk/internal/util/Preconditions" "SIOOBE_FORMATTER" "Ljava/util/function/BiFunction;" sf := (sta_keep (Sta.ext E_431 (Sta.wr W_426 (Sta.wr W_422 (Sta.wr W_418 (Sta.wr W_414 (Sta.ext E_410 S_sf)))))) K_437 (nsS (Exa.nostat X_433) ns0))
      have F_524 : Sta Z h_445 "java/lang/String" "COMPACT_STRINGS" "Z" (.int cs) := (sta_keep F_440 K_437 (nsS (Exa.nostat X_433) ns0))
      have F_525 : Sta Z h_445 "java/lang/StringUTF16" "$assertionsDisabled" "Z" (.int (1 : Int32)) := (sta_keep F_441 K_437 (nsS (Exa.nostat X_433) ns0))
      have F_526 : Sta Z h_445 "java/lang/StringUTF16" "HI_BYTE_SHIFT" "I" (.int (0 : Int32)) := (sta_keep F_442 K_437 (nsS (Exa.nostat X_433) ns0))
      have F_527 : Sta Z h_445 "java/lang/StringUTF16" "LO_BYTE_SHIFT" "I" (.int (8 : Int32)) := (sta_keep F_443 K_437 (nsS (Exa.nostat X_433) ns0))
      refine Go.callS (a1 := a0) (pc' := 221) (argsL := [(.ref a_429)]) (rest := []) (ct_isToken l Z a0 hw n0 h_445 a_429 [(nar .char x_382), (nar .char x_388), (nar .char x_394), (nar .char x_400)] (by simp) X_438 (fun i hi9 => by match i, hi9 with | 0, _ => exact nar_rng x_382 | 1, _ => exact nar_rng x_388 | 2, _ => exact nar_rng x_394 | 3, _ => exact nar_rng x_400) sf hsf F_523 cs F_524 hcs F_525 F_526 F_527) at_218 (hw _ (List.mem_of_getElem? (i := 29) rfl)) (hw _ (List.mem_of_getElem? (i := 30) rfl)) (hw _ (List.mem_of_getElem? (i := 31) rfl)) (hw _ (List.mem_of_getElem? (i := 32) rfl)) (by decide) (lenOf pd__28Ljava_2flang_2fString_3b_29Z rfl) rfl 0 rfl rfl (by decide) (by decide) (by decide) (by decide) (fun _ q => nomatch q) rfl (fun v_528 h_529 N_530 hQ_531 hle_532 => ?_)
      obtain ⟨K_522, hk_521⟩ := hQ_531
      rcases hk_521 with ⟨rfl, hk_521⟩ | ⟨rfl, hk_521⟩
      · exact absurd (hk_521.2 0 (by simp)) ht_449
      · refine Go.re (pc' := 221) (L' := #[.val (.int p0), .val (.int p1), .val (.int p2), .val (.int p3), .val (.int p4), .val (.int (4 : Int32)), .val (.int (nar .char x_382)), .val (.int (nar .char x_388)), .val (.int (nar .char x_394)), .val (.int (nar .char x_400)), .val (.ref a_406), .val (.ref a_429), .val (.int (0 : Int32))]) (S' := [(.int (0 : Int32))]) rfl rfl rfl ?_
        refine Go.iload (pc' := 223) at_221 rfl rfl ?_
        refine Go.icmpF (pc' := 226) at_223 (show (0 : Int32) = (0 : Int32) by decide) rfl ?_
        refine Go.iconst (pc' := 227) 1 at_226 rfl rfl ?_
        refine Go.goto (pc' := 231) at_227 (by decide) (by decide) ?_
        refine Go.retN (t := .boolean) (1 : Int32) rfl (by simp) rfl [] (fun _ q => nomatch q) at_231 (by decide) (by decide) ?_
        exact rfl
set_option maxRecDepth 65536 in
set_option maxHeartbeats 40000000 in
theorem comes_1 {Post : Tables → Env → Array Value → State → Outcome → State → Prop} (hpost : ∀ tb e args s v u, (limb_1_1.after args s (.returned v) u = true ∧ limb_1_2.after args s (.returned v) u = true ∧ True) → ReturnedEndW s (.returned v) u (Jvm.fieldLocs frame_1_writes args s ++ Jvm.arrayLocs frame_1_arrays args s ++ Jvm.staticLocs frame_1_statics s) 24 2176 → Post tb e args s (.returned v) u) :
    ArmFor flags0 classFile x code maxLocals ret World_1 tables_1 room_1 Calls_1 rest_1 Pre_1 Post := by
  intro l hfl _ _ p e ha hc hk s m args below hf hA hF happ hP
  obtain ⟨hcalls, hrest, hpre⟩ := hP
  obtain ⟨-, -, -, hnamed, -, -, -, hat⟩ := (Spec.applies_iff hf).mp happ
  obtain ⟨hg, hn⟩ := and_e (Cond.before_iff.mp (show (Jvm.Cond.and given_1 narrow_1).before args s = true from hpre))
  obtain ⟨g0, hg⟩ := and_e hg
  obtain ⟨w0, w1, w2, w3, w4, rfl⟩ : ∃ w0 w1 w2 w3 w4 : Value, args = #[w0, w1, w2, w3, w4] := by
    have hs : args.size = 5 := by simpa [Cond.value, given_1] using g0
    obtain ⟨L⟩ := args
    match L, hs with
    | [w0, w1, w2, w3, w4], _ => exact ⟨w0, w1, w2, w3, w4, rfl⟩
  have hw := fun d (hd : d ∈ tables_1) => atoms_spec (ws := Jvm.Cond.code x code maxLocals ret :: tables_1) hat d (List.mem_cons_of_mem _ hd)
  have hfit : Fit s := fun {y c} hc i hi => by
    obtain ⟨ha, rfl⟩ := Array.getElem?_eq_some_iff.mp hc
    have q := List.all_eq_true.mp ((Array.all_eq_true_iff_forall_mem.mp hF) _ (Array.getElem_mem ha)) i (List.mem_range.mpr hi)
    simpa [Array.getElem?_eq_getElem hi] using q
  obtain ⟨g1, hg⟩ := and_e hg
  obtain ⟨g2, hg⟩ := and_e hg
  obtain ⟨g3, hg⟩ := and_e hg
  obtain ⟨g4, hg⟩ := and_e hg
  have g5 := hg
  obtain ⟨p0, e0⟩ := is_v g1
  obtain rfl : w0 = (.int p0) := Option.some.inj e0
  obtain ⟨p1, e1⟩ := is_v g2
  obtain rfl : w1 = (.int p1) := Option.some.inj e1
  obtain ⟨p2, e2⟩ := is_v g3
  obtain rfl : w2 = (.int p2) := Option.some.inj e2
  obtain ⟨p3, e3⟩ := is_v g4
  obtain rfl : w3 = (.int p3) := Option.some.inj e3
  obtain ⟨p4, e4⟩ := is_v g5
  obtain rfl : w4 = (.int p4) := Option.some.inj e4
  obtain ⟨hsets, hown0⟩ := atoms_of _ (rest_1_c_eq ▸ (show rest_1_c.before _ s = true from hrest))
  have ncs := not_v (Cond.before_iff.mp (hsets _ (List.mem_of_getElem? (i := 2) rfl)))
  obtain ⟨cs, ecs⟩ := is_v (Cond.before_iff.mp (hsets _ (List.mem_of_getElem? (i := 1) rfl)))
  have S_cs : Sta s s.heap "java/lang/String" "COMPACT_STRINGS" "Z" (.int cs) := Sta.start ecs (Or.inl (hsets _ (List.mem_of_getElem? (i := 0) rfl)))
  have hcs : ¬ (cs = (0 : Int32)) := gotF (Cond.eq_ints ecs (Term.int_eval (0))) ncs
  obtain ⟨sf, esf, hsf⟩ := isR_v (Cond.before_iff.mp (hsets _ (List.mem_of_getElem? (i := 8) rfl)))
  have S_sf : Sta s s.heap "jdk/internal/util/Preconditions" "SIOOBE_FORMATTER" "Ljava/util/function/BiFunction;" sf := Sta.start esf (Or.inl (hsets _ (List.mem_of_getElem? (i := 7) rfl)))
  have S_ad := Sta.start (eqv_i (Term.int_eval (1)) (Cond.before_iff.mp (hsets _ (List.mem_of_getElem? (i := 12) rfl)))) (Or.inl (hsets _ (List.mem_of_getElem? (i := 11) rfl)))
  have S_hi := Sta.start (eqv_i (Term.int_eval (0)) (Cond.before_iff.mp (hsets _ (List.mem_of_getElem? (i := 15) rfl)))) (Or.inl (hsets _ (List.mem_of_getElem? (i := 14) rfl)))
  have S_lo := Sta.start (eqv_i (Term.int_eval (8)) (Cond.before_iff.mp (hsets _ (List.mem_of_getElem? (i := 18) rfl)))) (Or.inl (hsets _ (List.mem_of_getElem? (i := 17) rfl)))
  obtain ⟨n, o, h1, h2, h3, v, Ls, N, rfl, rfl, hFr, -, -, hEn⟩ := ct_law l s _ hw s.heap.size s.heap p0 p1 p2 p3 p4 (Nat.le_refl _) sf hsf S_sf cs S_cs hcs S_ad S_hi S_lo p e ha hc hk s m _ below hf ((Spec.applies_iff_loose hf).mp happ).1 ⟨rfl, State.Warmed39.refl s, rfl, (CHv.start (own_ew hw) (fun p hp => hcalls.1 p hp) (hsets _ (List.mem_of_getElem? (i := 2) rfl)) (hw _ (List.mem_of_getElem? (i := 22) rfl)) (hw _ (List.mem_of_getElem? (i := 9) rfl))), (fun x q => nomatch q)⟩ trivial
  refine ⟨n, _, h1, h2, h3, hpost _ _ _ _ _ _ ⟨Cond.after_iff.mpr rfl, Cond.after_iff.mpr (eq_i res_at (Term.int_eval (1)) rfl), trivial⟩ ⟨⟨_, rfl⟩, hEn.1.2.1, hEn.1.2.2.1, (hEn.1.2.2.2.sift fun y hy => Or.inr (hFr y hy)).mono (by decide) (by decide)⟩⟩
theorem main_1_1 : Claimed_1_1 := comes_1 fun _ _ _ _ _ _ h hF => ⟨h.1, hF⟩
theorem main_1_2 : Claimed_1_2 := comes_1 fun _ _ _ _ _ _ h hF => ⟨h.2.1, hF⟩
end Jvm.Pilot.@@N@@
namespace Jvm.Pilot.@@N@@
open Jvm Jvm.ClassFile Sem Op Lib Jvm.Free Jvm.Stand Jvm.Pilot.@@N@@.Jvm.D
/-! MADE BY PROGRAM (witnessworld.py) out of the Statement's table words and the real class files: 21 classes; the members and pool entries that the words name. The judged class is class 1, her method 3. -/
namespace start1
open Jvm.ClassFile
def u (s : String) : CpInfo := .utf8 (stringToUtf16 s)
/-- a pool by its gaps: so many unusable entries, then the entry; so many at the end -/
def gap : Nat → List CpInfo → List CpInfo
  | 0, r => r
  | n + 1, r => .unusable :: gap n r
def poolList (es : List (Nat × CpInfo)) (last : Nat) : List CpInfo := es.foldr (fun e r => gap e.1 (e.2 :: r)) (gap last [])
def pool (es : List (Nat × CpInfo)) (last : Nat) : Array CpInfo := ⟨poolList es last⟩
def fileOf (pool : Array CpInfo) (this : Nat) (attrs : Array Attribute := #[]) (ms : Array MethodInfo := #[]) (fl : Nat := 33) (sup : Nat := 0) (ifs : Array Nat := #[]) (fds : Array FieldInfo := #[]) : ClassFile where
  minorVersion := 0
  majorVersion := 65
  constantPool := pool
  accessFlags := fl
  thisClass := this
  superClass := sup
  interfaces := ifs
  fields := fds
  methods := ms
  attributes := attrs
def plain (name : String) (sup : Option ClassId) : Class where
  name := name
  kind := .ordinary
  loader := none
  accessFlags := 33
  super := sup
  interfaces := #[]
  cf := none
  fields := #[]
  methods := #[]
  instanceTypes := #[]
  staticTypes := #[]
  resolved := #[]
  callSites := []
  init := .initialized
  statics := none
  mirror := none

def pool0 : Array CpInfo := pool [(5, u "<init>"), (0, u "()V"), (1, .class_ 10), (1, u "java/lang/Object")] 113

def k0c0 : Code := { maxStack := 0, maxLocals := 1, code := object_method_1_code, exceptionTable := #[], attributes := #[] }
def k0m0 : Method := { name := "<init>", desc := "()V", sig := { parameters := [], returnType := none }, accessFlags := 1, code := some k0c0 }
/-- java/lang/Object -/
def k0 : Class := { plain "java/lang/Object" none with
  accessFlags := 33
  interfaces := #[]
  cf := some (fileOf pool0 8 #[] #[{ accessFlags := 1, nameIndex := 5, descriptorIndex := 6, attributes := #[] }] 33 0 #[] #[])
  fields := #[]
  methods := #[k0m0]
  instanceTypes := #[]
  staticTypes := #[]
  resolved := Array.replicate 124 none
  statics := none }

def pool1 : Array CpInfo := pool [(2, .class_ 4), (1, u "java/lang/Object"), (0, u "<init>"), (0, u "()V"), (0, .integer 65536), (0, .integer 65535), (0, .integer 2147483647), (0, .methodref 11 12), (0, .class_ 13), (0, .nameAndType 14 15), (0, u "com/example/idempotency_key_store/idempotencykeystore/MediaTypesIsTokenPinLaw"), (0, u "draw"), (0, u "(I)C"), (0, .class_ 17), (0, u "java/lang/String"), (0, .methodref 16 19), (0, .nameAndType 5 20), (0, u "([C)V"), (0, .methodref 11 22), (0, .nameAndType 23 24), (0, u "tchar"), (0, u "(C)Z"), (0, .methodref 26 27), (0, .class_ 28), (0, .nameAndType 29 30), (0, u "com/example/idempotency_key_store/idempotencykeystore/MediaTypes"), (0, u "isToken"), (0, u "(Ljava/lang/String;)Z"), (3, u "law"), (0, u "(IIIII)Z")] 4

def k1m0 : Method := { name := "<init>", desc := "()V", sig := { parameters := [], returnType := none }, accessFlags := 2, code := none }
def k1c1 : Code := { maxStack := 2, maxLocals := 1, code := method_2_code, exceptionTable := #[], attributes := #[] }
def k1m1 : Method := { name := "draw", desc := "(I)C", sig := { parameters := [.int], returnType := some .char }, accessFlags := 10, code := some k1c1 }
def k1c2 : Code := { maxStack := 2, maxLocals := 1, code := method_3_code, exceptionTable := #[], attributes := #[] }
def k1m2 : Method := { name := "tchar", desc := "(C)Z", sig := { parameters := [.char], returnType := some .boolean }, accessFlags := 10, code := some k1c2 }
def k1c3 : Code := { maxStack := 4, maxLocals := 13, code := code, exceptionTable := #[], attributes := #[] }
def k1m3 : Method := { name := "law", desc := "(IIIII)Z", sig := { parameters := [.int, .int, .int, .int, .int], returnType := some .boolean }, accessFlags := 9, code := some k1c3 }
/-- com/example/idempotency_key_store/idempotencykeystore/MediaTypesIsTokenPinLaw -/
def k1 : Class := { plain "com/example/idempotency_key_store/idempotencykeystore/MediaTypesIsTokenPinLaw" (some 0) with
  accessFlags := 49
  interfaces := #[]
  cf := some (fileOf pool1 11 #[] #[{ accessFlags := 2, nameIndex := 5, descriptorIndex := 6, attributes := #[] }, { accessFlags := 10, nameIndex := 14, descriptorIndex := 15, attributes := #[] }, { accessFlags := 10, nameIndex := 23, descriptorIndex := 24, attributes := #[] }, { accessFlags := 9, nameIndex := 34, descriptorIndex := 35, attributes := #[] }] 49 2 #[] #[])
  fields := #[]
  methods := #[k1m0, k1m1, k1m2, k1m3]
  instanceTypes := #[]
  staticTypes := #[]
  resolved := Array.replicate 40 none
  statics := none }

def pool2 : Array CpInfo := pool [(1, .class_ 2), (0, u "java/io/Serializable"), (0, .class_ 4), (0, u "java/lang/Object")] 2

/-- java/io/Serializable -/
def k2 : Class := { plain "java/io/Serializable" (some 0) with
  accessFlags := 1537
  interfaces := #[]
  cf := some (fileOf pool2 1 #[] #[] 1537 3 #[] #[])
  fields := #[]
  methods := #[]
  instanceTypes := #[]
  staticTypes := #[]
  resolved := Array.replicate 7 none
  statics := none }

def pool3 : Array CpInfo := pool [(1, .class_ 2), (0, u "java/lang/Comparable"), (0, .class_ 4), (0, u "java/lang/Object")] 7

/-- java/lang/Comparable -/
def k3 : Class := { plain "java/lang/Comparable" (some 0) with
  accessFlags := 1537
  interfaces := #[]
  cf := some (fileOf pool3 1 #[] #[] 1537 3 #[] #[])
  fields := #[]
  methods := #[]
  instanceTypes := #[]
  staticTypes := #[]
  resolved := Array.replicate 12 none
  statics := none }

def pool4 : Array CpInfo := pool [(2, .class_ 4), (1, u "java/lang/CharSequence"), (42, .class_ 48), (0, u "java/lang/CharSequence$1CodePointIterator"), (10, .class_ 60), (0, u "java/lang/CharSequence$1CharIterator"), (5, .class_ 67), (0, u "java/lang/Object")] 63

/-- java/lang/CharSequence -/
def k4 : Class := { plain "java/lang/CharSequence" (some 0) with
  accessFlags := 1537
  interfaces := #[]
  cf := some (fileOf pool4 2 #[.nestMembers #[47, 59]] #[] 1537 66 #[] #[])
  fields := #[]
  methods := #[]
  instanceTypes := #[]
  staticTypes := #[]
  resolved := Array.replicate 131 none
  statics := none }

def pool5 : Array CpInfo := pool [(1, .class_ 2), (0, u "java/lang/constant/Constable"), (0, .class_ 4), (0, u "java/lang/Object")] 6

/-- java/lang/constant/Constable -/
def k5 : Class := { plain "java/lang/constant/Constable" (some 0) with
  accessFlags := 1537
  interfaces := #[]
  cf := some (fileOf pool5 1 #[] #[] 1537 3 #[] #[])
  fields := #[]
  methods := #[]
  instanceTypes := #[]
  staticTypes := #[]
  resolved := Array.replicate 11 none
  statics := none }

def pool6 : Array CpInfo := pool [(1, .class_ 2), (0, u "java/lang/constant/ConstantDesc"), (0, .class_ 4), (0, u "java/lang/Object")] 32

/-- java/lang/constant/ConstantDesc -/
def k6 : Class := { plain "java/lang/constant/ConstantDesc" (some 0) with
  accessFlags := 1537
  interfaces := #[]
  cf := some (fileOf pool6 1 #[] #[] 1537 3 #[] #[])
  fields := #[]
  methods := #[]
  instanceTypes := #[]
  staticTypes := #[]
  resolved := Array.replicate 37 none
  statics := none }

def pool7 : Array CpInfo := pool [(1, .methodref 2 3), (0, .class_ 4), (0, .nameAndType 5 6), (0, u "java/lang/Object"), (0, u "<init>"), (0, u "()V"), (0, .string 8), (0, u ""), (0, .fieldref 10 11), (0, .class_ 12), (0, .nameAndType 13 14), (0, u "java/lang/String"), (0, u "value"), (0, u "[B"), (0, .fieldref 10 16), (0, .nameAndType 17 18), (0, u "coder"), (0, u "B"), (2, u "hash"), (0, u "I"), (2, u "hashIsZero"), (0, u "Z"), (0, .methodref 10 28), (0, .nameAndType 5 29), (0, u "([CIILjava/lang/Void;)V"), (8, .fieldref 10 39), (0, .nameAndType 40 26), (0, u "COMPACT_STRINGS"), (1, .class_ 44), (1, u "java/lang/StringUTF16"), (0, u "compress"), (1, .methodref 42 48), (0, .nameAndType 49 50), (0, u "coderFromArrayLen"), (0, u "([BI)B"), (56, .class_ 109), (1, u "java/lang/StringLatin1"), (32, u "()Z"), (34, .methodref 42 178), (0, .nameAndType 45 179), (0, u "([CII)[B"), (154, u "()I"), (0, .methodref 10 336), (0, .nameAndType 17 337), (0, u "()B"), (25, u "([BI)C"), (27, u "(II)V"), (35, u "(I)C"), (64, .methodref 10 493), (0, .nameAndType 494 142), (0, u "isLatin1"), (0, .methodref 107 496), (0, .nameAndType 497 363), (0, u "charAt"), (0, .methodref 42 496), (2, u "checkIndex"), (3, .methodref 10 506), (0, .nameAndType 507 334), (0, u "length"), (67, .class_ 576), (0, u "java/lang/CharSequence"), (22, u "CASE_INSENSITIVE_ORDER"), (0, u "Ljava/util/Comparator;"), (32, .methodref 10 634), (0, .nameAndType 635 636), (0, u "indexOf"), (0, u "(II)I"), (0, .methodref 107 638), (0, .nameAndType 635 639), (0, u "([BIII)I"), (52, u "isEmpty"), (72, u "(I)I"), (244, u "([C)V"), (42, .fieldref 1054 1055), (0, .class_ 1056), (0, .nameAndType 1057 1058), (0, u "jdk/internal/util/Preconditions"), (0, u "SIOOBE_FORMATTER"), (0, u "Ljava/util/function/BiFunction;"), (0, .methodref 1054 1060), (0, .nameAndType 501 1061), (0, u "(IILjava/util/function/BiFunction;)I"), (39, u "serialPersistentFields"), (0, u "[Ljava/io/ObjectStreamField;"), (0, .class_ 1104), (0, u "java/lang/String$CaseInsensitiveComparator"), (1, .class_ 1107), (0, u "java/io/Serializable"), (0, .class_ 1109), (0, u "java/lang/Comparable"), (0, .class_ 1111), (0, u "java/lang/constant/Constable"), (0, .class_ 1113), (0, u "java/lang/constant/ConstantDesc"), (2, u "serialVersionUID"), (0, u "J"), (3, u "REPL"), (0, u "C"), (2, u "LATIN1"), (1, u "UTF16")] 323

def k7m0 : Method := { name := "<init>", desc := "()V", sig := { parameters := [], returnType := none }, accessFlags := 1, code := none }
def k7c1 : Code := { maxStack := 5, maxLocals := 2, code := jdk_42_method_3_code, exceptionTable := #[], attributes := #[] }
def k7m1 : Method := { name := "<init>", desc := "([C)V", sig := { parameters := [(.array .char)], returnType := none }, accessFlags := 1, code := some k7c1 }
def k7c2 : Code := { maxStack := 2, maxLocals := 1, code := jdk_42_method_54_code, exceptionTable := #[], attributes := #[] }
def k7m2 : Method := { name := "length", desc := "()I", sig := { parameters := [], returnType := some .int }, accessFlags := 1, code := some k7c2 }
def k7c3 : Code := { maxStack := 1, maxLocals := 1, code := jdk_42_method_55_code, exceptionTable := #[], attributes := #[] }
def k7m3 : Method := { name := "isEmpty", desc := "()Z", sig := { parameters := [], returnType := some .boolean }, accessFlags := 1, code := some k7c3 }
def k7c4 : Code := { maxStack := 2, maxLocals := 2, code := jdk_42_method_56_code, exceptionTable := #[], attributes := #[] }
def k7m4 : Method := { name := "charAt", desc := "(I)C", sig := { parameters := [.int], returnType := some .char }, accessFlags := 1, code := some k7c4 }
def k7c5 : Code := { maxStack := 3, maxLocals := 2, code := jdk_42_method_79_code, exceptionTable := #[], attributes := #[] }
def k7m5 : Method := { name := "indexOf", desc := "(I)I", sig := { parameters := [.int], returnType := some .int }, accessFlags := 1, code := some k7c5 }
def k7c6 : Code := { maxStack := 4, maxLocals := 3, code := jdk_42_method_80_code, exceptionTable := #[], attributes := #[] }
def k7m6 : Method := { name := "indexOf", desc := "(II)I", sig := { parameters := [.int, .int], returnType := some .int }, accessFlags := 1, code := some k7c6 }
def k7c7 : Code := { maxStack := 4, maxLocals := 6, code := jdk_42_method_149_code, exceptionTable := #[], attributes := #[] }
def k7m7 : Method := { name := "<init>", desc := "([CIILjava/lang/Void;)V", sig := { parameters := [(.array .char), .int, .int, (.object "java/lang/Void")], returnType := none }, accessFlags := 2, code := some k7c7 }
def k7c8 : Code := { maxStack := 1, maxLocals := 1, code := jdk_42_method_152_code, exceptionTable := #[], attributes := #[] }
def k7m8 : Method := { name := "coder", desc := "()B", sig := { parameters := [], returnType := some .byte }, accessFlags := 0, code := some k7c8 }
def k7c9 : Code := { maxStack := 1, maxLocals := 1, code := jdk_42_method_154_code, exceptionTable := #[], attributes := #[] }
def k7m9 : Method := { name := "isLatin1", desc := "()Z", sig := { parameters := [], returnType := some .boolean }, accessFlags := 0, code := some k7c9 }
def k7c10 : Code := { maxStack := 3, maxLocals := 2, code := jdk_42_method_155_code, exceptionTable := #[], attributes := #[] }
def k7m10 : Method := { name := "checkIndex", desc := "(II)V", sig := { parameters := [.int, .int], returnType := none }, accessFlags := 8, code := some k7c10 }
/-- java/lang/String -/
def k7 : Class := { plain "java/lang/String" (some 0) with
  accessFlags := 49
  interfaces := #[2, 3, 4, 5, 6]
  cf := some (fileOf pool7 10 #[.nestMembers #[1103]] #[{ accessFlags := 1, nameIndex := 5, descriptorIndex := 6, attributes := #[] }, { accessFlags := 1, nameIndex := 5, descriptorIndex := 1010, attributes := #[] }, { accessFlags := 1, nameIndex := 507, descriptorIndex := 334, attributes := #[] }, { accessFlags := 1, nameIndex := 692, descriptorIndex := 142, attributes := #[] }, { accessFlags := 1, nameIndex := 497, descriptorIndex := 427, attributes := #[] }, { accessFlags := 1, nameIndex := 635, descriptorIndex := 765, attributes := #[] }, { accessFlags := 1, nameIndex := 635, descriptorIndex := 636, attributes := #[] }, { accessFlags := 2, nameIndex := 5, descriptorIndex := 29, attributes := #[] }, { accessFlags := 0, nameIndex := 17, descriptorIndex := 337, attributes := #[] }, { accessFlags := 0, nameIndex := 494, descriptorIndex := 142, attributes := #[] }, { accessFlags := 8, nameIndex := 501, descriptorIndex := 391, attributes := #[] }] 49 2 #[1106, 1108, 575, 1110, 1112] #[{ accessFlags := 18, nameIndex := 13, descriptorIndex := 14, attributes := #[] }, { accessFlags := 18, nameIndex := 17, descriptorIndex := 18, attributes := #[] }, { accessFlags := 2, nameIndex := 21, descriptorIndex := 22, attributes := #[] }, { accessFlags := 2, nameIndex := 25, descriptorIndex := 26, attributes := #[] }, { accessFlags := 26, nameIndex := 1116, descriptorIndex := 1117, attributes := #[] }, { accessFlags := 24, nameIndex := 40, descriptorIndex := 26, attributes := #[] }, { accessFlags := 26, nameIndex := 1101, descriptorIndex := 1102, attributes := #[] }, { accessFlags := 26, nameIndex := 1121, descriptorIndex := 1122, attributes := #[] }, { accessFlags := 25, nameIndex := 599, descriptorIndex := 600, attributes := #[] }, { accessFlags := 24, nameIndex := 1125, descriptorIndex := 18, attributes := #[] }, { accessFlags := 24, nameIndex := 1127, descriptorIndex := 18, attributes := #[] }])
  fields := #[{ name := "value", type := (.array .byte), accessFlags := 18, slot := 0, constantValue := 0 }, { name := "coder", type := .byte, accessFlags := 18, slot := 1, constantValue := 0 }, { name := "hash", type := .int, accessFlags := 2, slot := 2, constantValue := 0 }, { name := "hashIsZero", type := .boolean, accessFlags := 2, slot := 3, constantValue := 0 }, { name := "serialVersionUID", type := .long, accessFlags := 26, slot := 0, constantValue := 0 }, { name := "COMPACT_STRINGS", type := .boolean, accessFlags := 24, slot := 1, constantValue := 0 }, { name := "serialPersistentFields", type := (.array (.object "java/io/ObjectStreamField")), accessFlags := 26, slot := 2, constantValue := 0 }, { name := "REPL", type := .char, accessFlags := 26, slot := 3, constantValue := 0 }, { name := "CASE_INSENSITIVE_ORDER", type := (.object "java/util/Comparator"), accessFlags := 25, slot := 4, constantValue := 0 }, { name := "LATIN1", type := .byte, accessFlags := 24, slot := 5, constantValue := 0 }, { name := "UTF16", type := .byte, accessFlags := 24, slot := 6, constantValue := 0 }]
  methods := #[k7m0, k7m1, k7m2, k7m3, k7m4, k7m5, k7m6, k7m7, k7m8, k7m9, k7m10]
  instanceTypes := #[(.array .byte), .byte, .int, .boolean]
  staticTypes := #[.long, .boolean, (.array (.object "java/io/ObjectStreamField")), .char, (.object "java/util/Comparator"), .byte, .byte]
  resolved := Array.replicate 1451 none
  statics := some 0 }

def pool8 : Array CpInfo := pool [(2, .class_ 4), (1, u "java/lang/Object"), (0, u "<init>"), (0, u "()V"), (0, .methodref 8 9), (0, .class_ 10), (0, .nameAndType 11 12), (0, u "java/lang/String"), (0, u "indexOf"), (0, u "(I)I"), (21, .methodref 8 35), (0, .nameAndType 36 37), (0, u "length"), (0, u "()I"), (3, u "()Z"), (8, .class_ 52), (1, u "com/example/idempotency_key_store/idempotencykeystore/MediaTypes"), (0, u "isToken"), (0, u "(Ljava/lang/String;)Z"), (19, .methodref 8 75), (0, .nameAndType 76 77), (0, u "charAt"), (0, u "(I)C"), (22, .methodref 8 101), (0, .nameAndType 102 41), (0, u "isEmpty"), (0, .string 104), (0, u "!#$%&'*+-.^_`|~"), (0, u "TOKEN_SYMBOLS"), (0, u "Ljava/lang/String;")] 12

def k8m0 : Method := { name := "<init>", desc := "()V", sig := { parameters := [], returnType := none }, accessFlags := 2, code := none }
def k8c1 : Code := { maxStack := 2, maxLocals := 4, code := prog_23_method_6_code, exceptionTable := #[], attributes := #[] }
def k8m1 : Method := { name := "isToken", desc := "(Ljava/lang/String;)Z", sig := { parameters := [(.object "java/lang/String")], returnType := some .boolean }, accessFlags := 8, code := some k8c1 }
/-- com/example/idempotency_key_store/idempotencykeystore/MediaTypes -/
def k8 : Class := { plain "com/example/idempotency_key_store/idempotencykeystore/MediaTypes" (some 0) with
  accessFlags := 48
  interfaces := #[]
  cf := some (fileOf pool8 50 #[] #[{ accessFlags := 2, nameIndex := 5, descriptorIndex := 6, attributes := #[] }, { accessFlags := 8, nameIndex := 53, descriptorIndex := 54, attributes := #[] }] 48 2 #[] #[{ accessFlags := 26, nameIndex := 105, descriptorIndex := 106, attributes := #[] }])
  fields := #[{ name := "TOKEN_SYMBOLS", type := (.object "java/lang/String"), accessFlags := 26, slot := 0, constantValue := 0 }]
  methods := #[k8m0, k8m1]
  instanceTypes := #[]
  staticTypes := #[(.object "java/lang/String")]
  resolved := Array.replicate 119 none
  statics := none }

def pool9 : Array CpInfo := pool [(3, .class_ 4), (0, u "java/lang/String"), (1, .class_ 8), (1, u "java/lang/Object"), (0, u "<init>"), (0, u "()V"), (0, .methodref 12 13), (0, .class_ 14), (0, .nameAndType 15 16), (0, u "java/lang/StringUTF16"), (0, u "newBytesLength"), (0, u "(I)I"), (3, .integer 1073741823), (23, .fieldref 12 45), (0, .nameAndType 46 47), (0, u "$assertionsDisabled"), (0, u "Z"), (0, .methodref 12 49), (0, .nameAndType 50 51), (0, u "length"), (0, u "([B)I"), (7, .fieldref 12 60), (0, .nameAndType 61 62), (0, u "HI_BYTE_SHIFT"), (0, u "I"), (0, .fieldref 12 64), (0, .nameAndType 65 62), (0, u "LO_BYTE_SHIFT"), (1, .methodref 12 68), (0, .nameAndType 69 70), (0, u "checkIndex"), (0, u "(I[B)V"), (0, .methodref 12 72), (0, .nameAndType 73 74), (0, u "getChar"), (0, u "([BI)C"), (32, .methodref 12 108), (0, .nameAndType 109 110), (0, u "newBytesFor"), (0, u "(I)[B"), (0, .methodref 12 112), (0, .nameAndType 113 114), (0, u "putChar"), (0, u "([BII)V"), (0, .methodref 12 116), (0, .nameAndType 117 118), (0, u "compress"), (0, u "([CI[BII)I"), (0, .methodref 12 120), (0, .nameAndType 121 122), (0, u "toBytes"), (0, u "([CII)[B"), (138, u "coderFromArrayLen"), (0, u "([BI)B"), (106, .class_ 371), (1, u "java/lang/StringUTF16$LinesSpliterator"), (20, u "charAt"), (21, .methodref 3 415), (0, .nameAndType 69 416), (0, u "(II)V"), (13, u "MAX_LENGTH"), (196, .class_ 628), (0, u "java/lang/StringUTF16$CodePointsSpliterator"), (0, .class_ 630), (0, u "java/lang/StringUTF16$CharsSpliterator")] 4

def k9m0 : Method := { name := "<init>", desc := "()V", sig := { parameters := [], returnType := none }, accessFlags := 0, code := none }
def k9c1 : Code := { maxStack := 1, maxLocals := 1, code := jdk_52_method_2_code, exceptionTable := #[], attributes := #[] }
def k9m1 : Method := { name := "newBytesFor", desc := "(I)[B", sig := { parameters := [.int], returnType := some (.array .byte) }, accessFlags := 9, code := some k9c1 }
def k9c2 : Code := { maxStack := 4, maxLocals := 1, code := jdk_52_method_3_code, exceptionTable := #[], attributes := #[] }
def k9m2 : Method := { name := "newBytesLength", desc := "(I)I", sig := { parameters := [.int], returnType := some .int }, accessFlags := 9, code := some k9c2 }
def k9c3 : Code := { maxStack := 4, maxLocals := 3, code := jdk_52_method_4_code, exceptionTable := #[], attributes := #[] }
def k9m3 : Method := { name := "putChar", desc := "([BII)V", sig := { parameters := [(.array .byte), .int, .int], returnType := none }, accessFlags := 8, code := some k9c3 }
def k9c4 : Code := { maxStack := 3, maxLocals := 2, code := jdk_52_method_5_code, exceptionTable := #[], attributes := #[] }
def k9m4 : Method := { name := "getChar", desc := "([BI)C", sig := { parameters := [(.array .byte), .int], returnType := some .char }, accessFlags := 8, code := some k9c4 }
def k9c5 : Code := { maxStack := 2, maxLocals := 1, code := jdk_52_method_6_code, exceptionTable := #[], attributes := #[] }
def k9m5 : Method := { name := "length", desc := "([B)I", sig := { parameters := [(.array .byte)], returnType := some .int }, accessFlags := 9, code := some k9c5 }
def k9c6 : Code := { maxStack := 4, maxLocals := 5, code := jdk_52_method_14_code, exceptionTable := #[], attributes := #[] }
def k9m6 : Method := { name := "toBytes", desc := "([CII)[B", sig := { parameters := [(.array .char), .int, .int], returnType := some (.array .byte) }, accessFlags := 9, code := some k9c6 }
def k9c7 : Code := { maxStack := 2, maxLocals := 2, code := jdk_52_method_15_code, exceptionTable := #[], attributes := #[] }
def k9m7 : Method := { name := "coderFromArrayLen", desc := "([BI)B", sig := { parameters := [(.array .byte), .int], returnType := some .byte }, accessFlags := 8, code := some k9c7 }
def k9c8 : Code := { maxStack := 5, maxLocals := 6, code := jdk_52_method_16_code, exceptionTable := #[], attributes := #[] }
def k9m8 : Method := { name := "compress", desc := "([CII)[B", sig := { parameters := [(.array .char), .int, .int], returnType := some (.array .byte) }, accessFlags := 9, code := some k9c8 }
def k9c9 : Code := { maxStack := 3, maxLocals := 7, code := jdk_52_method_21_code, exceptionTable := #[], attributes := #[] }
def k9m9 : Method := { name := "compress", desc := "([CI[BII)I", sig := { parameters := [(.array .char), .int, (.array .byte), .int, .int], returnType := some .int }, accessFlags := 9, code := some k9c9 }
def k9c10 : Code := { maxStack := 2, maxLocals := 2, code := jdk_52_method_83_code, exceptionTable := #[], attributes := #[] }
def k9m10 : Method := { name := "charAt", desc := "([BI)C", sig := { parameters := [(.array .byte), .int], returnType := some .char }, accessFlags := 9, code := some k9c10 }
def k9c11 : Code := { maxStack := 2, maxLocals := 2, code := jdk_52_method_91_code, exceptionTable := #[], attributes := #[] }
def k9m11 : Method := { name := "checkIndex", desc := "(I[B)V", sig := { parameters := [.int, (.array .byte)], returnType := none }, accessFlags := 9, code := some k9c11 }
/-- java/lang/StringUTF16 -/
def k9 : Class := { plain "java/lang/StringUTF16" (some 0) with
  accessFlags := 48
  interfaces := #[]
  cf := some (fileOf pool9 12 #[.nestMembers #[627, 629, 369]] #[{ accessFlags := 0, nameIndex := 9, descriptorIndex := 10, attributes := #[] }, { accessFlags := 9, nameIndex := 109, descriptorIndex := 110, attributes := #[] }, { accessFlags := 9, nameIndex := 15, descriptorIndex := 16, attributes := #[] }, { accessFlags := 8, nameIndex := 113, descriptorIndex := 114, attributes := #[] }, { accessFlags := 8, nameIndex := 73, descriptorIndex := 74, attributes := #[] }, { accessFlags := 9, nameIndex := 50, descriptorIndex := 51, attributes := #[] }, { accessFlags := 9, nameIndex := 121, descriptorIndex := 122, attributes := #[] }, { accessFlags := 8, nameIndex := 261, descriptorIndex := 262, attributes := #[] }, { accessFlags := 9, nameIndex := 117, descriptorIndex := 122, attributes := #[] }, { accessFlags := 9, nameIndex := 117, descriptorIndex := 118, attributes := #[] }, { accessFlags := 9, nameIndex := 392, descriptorIndex := 74, attributes := #[] }, { accessFlags := 9, nameIndex := 69, descriptorIndex := 70, attributes := #[] }] 48 6 #[] #[{ accessFlags := 26, nameIndex := 61, descriptorIndex := 62, attributes := #[] }, { accessFlags := 26, nameIndex := 65, descriptorIndex := 62, attributes := #[] }, { accessFlags := 24, nameIndex := 430, descriptorIndex := 62, attributes := #[] }, { accessFlags := 4120, nameIndex := 46, descriptorIndex := 47, attributes := #[] }])
  fields := #[{ name := "HI_BYTE_SHIFT", type := .int, accessFlags := 26, slot := 0, constantValue := 0 }, { name := "LO_BYTE_SHIFT", type := .int, accessFlags := 26, slot := 1, constantValue := 0 }, { name := "MAX_LENGTH", type := .int, accessFlags := 24, slot := 2, constantValue := 0 }, { name := "$assertionsDisabled", type := .boolean, accessFlags := 4120, slot := 3, constantValue := 0 }]
  methods := #[k9m0, k9m1, k9m2, k9m3, k9m4, k9m5, k9m6, k9m7, k9m8, k9m9, k9m10, k9m11]
  instanceTypes := #[]
  staticTypes := #[.int, .int, .int, .boolean]
  resolved := Array.replicate 635 none
  statics := some 1 }

def pool10 : Array CpInfo := pool [(1, .class_ 2), (0, u "java/lang/String"), (1, .class_ 6), (1, u "java/lang/Object"), (0, u "<init>"), (0, u "()V"), (0, .methodref 1 10), (0, .nameAndType 11 12), (0, u "checkIndex"), (0, u "(II)V"), (1, .class_ 16), (1, u "java/lang/StringLatin1"), (21, .methodref 39 40), (0, .class_ 41), (0, .nameAndType 42 43), (0, u "java/lang/Math"), (0, u "min"), (0, u "(II)I"), (9, u "([BI)C"), (34, .methodref 14 89), (0, .nameAndType 90 91), (0, u "canEncode"), (0, u "(I)Z"), (0, .methodref 39 93), (0, .nameAndType 94 43), (0, u "max"), (0, .methodref 14 96), (0, .nameAndType 97 98), (0, u "indexOfChar"), (0, u "([BIII)I"), (2, u "indexOf"), (19, u "$assertionsDisabled"), (0, u "Z"), (98, .class_ 223), (1, u "java/lang/StringLatin1$LinesSpliterator"), (28, u "charAt"), (137, .class_ 391), (0, u "java/lang/StringLatin1$CharsSpliterator")] 3

def k10m0 : Method := { name := "<init>", desc := "()V", sig := { parameters := [], returnType := none }, accessFlags := 0, code := none }
def k10c1 : Code := { maxStack := 2, maxLocals := 2, code := jdk_43_method_2_code, exceptionTable := #[], attributes := #[] }
def k10m1 : Method := { name := "charAt", desc := "([BI)C", sig := { parameters := [(.array .byte), .int], returnType := some .char }, accessFlags := 9, code := some k10c1 }
def k10c2 : Code := { maxStack := 2, maxLocals := 1, code := jdk_43_method_4_code, exceptionTable := #[], attributes := #[] }
def k10m2 : Method := { name := "canEncode", desc := "(I)Z", sig := { parameters := [.int], returnType := some .boolean }, accessFlags := 9, code := some k10c2 }
def k10c3 : Code := { maxStack := 4, maxLocals := 4, code := jdk_43_method_22_code, exceptionTable := #[], attributes := #[] }
def k10m3 : Method := { name := "indexOf", desc := "([BIII)I", sig := { parameters := [(.array .byte), .int, .int, .int], returnType := some .int }, accessFlags := 9, code := some k10c3 }
def k10c4 : Code := { maxStack := 2, maxLocals := 6, code := jdk_43_method_23_code, exceptionTable := #[], attributes := #[] }
def k10m4 : Method := { name := "indexOfChar", desc := "([BIII)I", sig := { parameters := [(.array .byte), .int, .int, .int], returnType := some .int }, accessFlags := 10, code := some k10c4 }
/-- java/lang/StringLatin1 -/
def k10 : Class := { plain "java/lang/StringLatin1" (some 0) with
  accessFlags := 48
  interfaces := #[]
  cf := some (fileOf pool10 14 #[.nestMembers #[390, 221]] #[{ accessFlags := 0, nameIndex := 7, descriptorIndex := 8, attributes := #[] }, { accessFlags := 9, nameIndex := 252, descriptorIndex := 53, attributes := #[] }, { accessFlags := 9, nameIndex := 90, descriptorIndex := 91, attributes := #[] }, { accessFlags := 9, nameIndex := 101, descriptorIndex := 98, attributes := #[] }, { accessFlags := 10, nameIndex := 97, descriptorIndex := 98, attributes := #[] }] 48 4 #[] #[{ accessFlags := 4120, nameIndex := 121, descriptorIndex := 122, attributes := #[] }])
  fields := #[{ name := "$assertionsDisabled", type := .boolean, accessFlags := 4120, slot := 0, constantValue := 0 }]
  methods := #[k10m0, k10m1, k10m2, k10m3, k10m4]
  instanceTypes := #[]
  staticTypes := #[.boolean]
  resolved := Array.replicate 395 none
  statics := none }

def pool11 : Array CpInfo := pool [(2, .class_ 4), (1, u "java/lang/Object"), (0, u "<init>"), (0, u "()V"), (17, .class_ 26), (1, u "jdk/internal/util/Preconditions"), (6, u "checkIndex"), (21, .class_ 56), (0, u "jdk/internal/util/Preconditions$4"), (57, .class_ 115), (0, u "jdk/internal/util/Preconditions$1"), (7, u "SIOOBE_FORMATTER"), (0, u "Ljava/util/function/BiFunction;"), (0, .class_ 126), (0, u "jdk/internal/util/Preconditions$2"), (3, u "AIOOBE_FORMATTER"), (0, .class_ 132), (0, u "jdk/internal/util/Preconditions$3"), (3, u "IOOBE_FORMATTER"), (41, u "(IILjava/util/function/BiFunction;)I")] 15

def k11m0 : Method := { name := "<init>", desc := "()V", sig := { parameters := [], returnType := none }, accessFlags := 1, code := none }
def k11c1 : Code := { maxStack := 3, maxLocals := 3, code := jdk_41_method_11_code, exceptionTable := #[], attributes := #[] }
def k11m1 : Method := { name := "checkIndex", desc := "(IILjava/util/function/BiFunction;)I", sig := { parameters := [.int, .int, (.object "java/util/function/BiFunction")], returnType := some .int }, accessFlags := 9, code := some k11c1 }
/-- jdk/internal/util/Preconditions -/
def k11 : Class := { plain "jdk/internal/util/Preconditions" (some 0) with
  accessFlags := 33
  interfaces := #[]
  cf := some (fileOf pool11 24 #[.nestMembers #[55, 131, 125, 114]] #[{ accessFlags := 1, nameIndex := 5, descriptorIndex := 6, attributes := #[] }, { accessFlags := 9, nameIndex := 33, descriptorIndex := 178, attributes := #[] }] 33 2 #[] #[{ accessFlags := 25, nameIndex := 123, descriptorIndex := 124, attributes := #[] }, { accessFlags := 25, nameIndex := 130, descriptorIndex := 124, attributes := #[] }, { accessFlags := 25, nameIndex := 136, descriptorIndex := 124, attributes := #[] }])
  fields := #[{ name := "SIOOBE_FORMATTER", type := (.object "java/util/function/BiFunction"), accessFlags := 25, slot := 0, constantValue := 0 }, { name := "AIOOBE_FORMATTER", type := (.object "java/util/function/BiFunction"), accessFlags := 25, slot := 1, constantValue := 0 }, { name := "IOOBE_FORMATTER", type := (.object "java/util/function/BiFunction"), accessFlags := 25, slot := 2, constantValue := 0 }]
  methods := #[k11m0, k11m1]
  instanceTypes := #[]
  staticTypes := #[(.object "java/util/function/BiFunction"), (.object "java/util/function/BiFunction"), (.object "java/util/function/BiFunction")]
  resolved := Array.replicate 194 none
  statics := some 2 }

def pool12 : Array CpInfo := pool [(1, .class_ 2), (0, u "java/lang/Math"), (1, .class_ 6), (1, u "java/lang/Object"), (0, u "<init>"), (0, u "()V"), (89, .class_ 100), (1, u "java/lang/Math$RandomNumberGeneratorHolder"), (71, u "negativeZeroFloatBits"), (0, u "J"), (2, u "negativeZeroDoubleBits"), (21, u "max"), (2, u "min"), (43, u "$assertionsDisabled"), (0, u "Z"), (88, u "(II)I"), (2, u "twoToTheDoubleScaleDown"), (0, u "D"), (4, u "twoToTheDoubleScaleUp"), (9, u "E"), (3, u "PI"), (2, u "TAU"), (2, u "DEGREES_TO_RADIANS"), (0, u "RADIANS_TO_DEGREES")] 94

def k12m0 : Method := { name := "<init>", desc := "()V", sig := { parameters := [], returnType := none }, accessFlags := 2, code := none }
def k12c1 : Code := { maxStack := 2, maxLocals := 2, code := jdk_29_method_65_code, exceptionTable := #[], attributes := #[] }
def k12m1 : Method := { name := "max", desc := "(II)I", sig := { parameters := [.int, .int], returnType := some .int }, accessFlags := 9, code := some k12c1 }
def k12c2 : Code := { maxStack := 2, maxLocals := 2, code := jdk_29_method_69_code, exceptionTable := #[], attributes := #[] }
def k12m2 : Method := { name := "min", desc := "(II)I", sig := { parameters := [.int, .int], returnType := some .int }, accessFlags := 9, code := some k12c2 }
/-- java/lang/Math -/
def k12 : Class := { plain "java/lang/Math" (some 0) with
  accessFlags := 49
  interfaces := #[]
  cf := some (fileOf pool12 1 #[.nestMembers #[98]] #[{ accessFlags := 2, nameIndex := 7, descriptorIndex := 8, attributes := #[] }, { accessFlags := 9, nameIndex := 198, descriptorIndex := 335, attributes := #[] }, { accessFlags := 9, nameIndex := 201, descriptorIndex := 335, attributes := #[] }] 49 4 #[] #[{ accessFlags := 25, nameIndex := 354, descriptorIndex := 339, attributes := #[] }, { accessFlags := 25, nameIndex := 358, descriptorIndex := 339, attributes := #[] }, { accessFlags := 25, nameIndex := 361, descriptorIndex := 339, attributes := #[] }, { accessFlags := 26, nameIndex := 364, descriptorIndex := 339, attributes := #[] }, { accessFlags := 26, nameIndex := 365, descriptorIndex := 339, attributes := #[] }, { accessFlags := 26, nameIndex := 172, descriptorIndex := 173, attributes := #[] }, { accessFlags := 26, nameIndex := 176, descriptorIndex := 173, attributes := #[] }, { accessFlags := 8, nameIndex := 344, descriptorIndex := 339, attributes := #[] }, { accessFlags := 8, nameIndex := 338, descriptorIndex := 339, attributes := #[] }, { accessFlags := 4120, nameIndex := 245, descriptorIndex := 246, attributes := #[] }])
  fields := #[{ name := "E", type := .double, accessFlags := 25, slot := 0, constantValue := 0 }, { name := "PI", type := .double, accessFlags := 25, slot := 1, constantValue := 0 }, { name := "TAU", type := .double, accessFlags := 25, slot := 2, constantValue := 0 }, { name := "DEGREES_TO_RADIANS", type := .double, accessFlags := 26, slot := 3, constantValue := 0 }, { name := "RADIANS_TO_DEGREES", type := .double, accessFlags := 26, slot := 4, constantValue := 0 }, { name := "negativeZeroFloatBits", type := .long, accessFlags := 26, slot := 5, constantValue := 0 }, { name := "negativeZeroDoubleBits", type := .long, accessFlags := 26, slot := 6, constantValue := 0 }, { name := "twoToTheDoubleScaleUp", type := .double, accessFlags := 8, slot := 7, constantValue := 0 }, { name := "twoToTheDoubleScaleDown", type := .double, accessFlags := 8, slot := 8, constantValue := 0 }, { name := "$assertionsDisabled", type := .boolean, accessFlags := 4120, slot := 9, constantValue := 0 }]
  methods := #[k12m0, k12m1, k12m2]
  instanceTypes := #[]
  staticTypes := #[.double, .double, .double, .double, .double, .long, .long, .double, .double, .boolean]
  resolved := Array.replicate 460 none
  statics := none }

def pool13 : Array CpInfo := pool [(9, u "<init>"), (6, .class_ 18), (1, u "java/lang/Object"), (0, u "()V"), (1, .class_ 23), (1, u "jdk/internal/util/ArraysSupport"), (0, u "LOG2_ARRAY_LONG_INDEX_SCALE"), (0, u "I"), (2, u "U"), (0, u "Ljdk/internal/misc/Unsafe;"), (8, u "BIG_ENDIAN"), (0, u "Z"), (8, u "LOG2_BYTE_BIT_SIZE"), (4, u "LOG2_ARRAY_INT_INDEX_SCALE"), (54, u "JLA"), (0, u "Ljdk/internal/access/JavaLangAccess;"), (11, u "LOG2_ARRAY_BOOLEAN_INDEX_SCALE"), (9, u "LOG2_ARRAY_BYTE_INDEX_SCALE"), (5, u "LOG2_ARRAY_CHAR_INDEX_SCALE"), (5, u "LOG2_ARRAY_SHORT_INDEX_SCALE"), (18, u "LOG2_ARRAY_FLOAT_INDEX_SCALE"), (24, u "LOG2_ARRAY_DOUBLE_INDEX_SCALE"), (89, u "T_BOOLEAN"), (2, u "T_CHAR"), (1, u "T_FLOAT"), (1, u "T_DOUBLE"), (1, u "T_BYTE"), (1, u "T_SHORT"), (1, u "T_INT"), (1, u "T_LONG"), (1, u "SOFT_MAX_ARRAY_LENGTH")] 83

def k13m0 : Method := { name := "<init>", desc := "()V", sig := { parameters := [], returnType := none }, accessFlags := 2, code := none }
/-- jdk/internal/util/ArraysSupport -/
def k13 : Class := { plain "jdk/internal/util/ArraysSupport" (some 0) with
  accessFlags := 33
  interfaces := #[]
  cf := some (fileOf pool13 21 #[] #[{ accessFlags := 2, nameIndex := 9, descriptorIndex := 19, attributes := #[] }] 33 16 #[] #[{ accessFlags := 24, nameIndex := 28, descriptorIndex := 29, attributes := #[] }, { accessFlags := 26, nameIndex := 38, descriptorIndex := 39, attributes := #[] }, { accessFlags := 25, nameIndex := 121, descriptorIndex := 25, attributes := #[] }, { accessFlags := 25, nameIndex := 131, descriptorIndex := 25, attributes := #[] }, { accessFlags := 25, nameIndex := 137, descriptorIndex := 25, attributes := #[] }, { accessFlags := 25, nameIndex := 143, descriptorIndex := 25, attributes := #[] }, { accessFlags := 25, nameIndex := 53, descriptorIndex := 25, attributes := #[] }, { accessFlags := 25, nameIndex := 24, descriptorIndex := 25, attributes := #[] }, { accessFlags := 25, nameIndex := 162, descriptorIndex := 25, attributes := #[] }, { accessFlags := 25, nameIndex := 187, descriptorIndex := 25, attributes := #[] }, { accessFlags := 26, nameIndex := 48, descriptorIndex := 25, attributes := #[] }, { accessFlags := 25, nameIndex := 277, descriptorIndex := 25, attributes := #[] }, { accessFlags := 25, nameIndex := 280, descriptorIndex := 25, attributes := #[] }, { accessFlags := 25, nameIndex := 282, descriptorIndex := 25, attributes := #[] }, { accessFlags := 25, nameIndex := 284, descriptorIndex := 25, attributes := #[] }, { accessFlags := 25, nameIndex := 286, descriptorIndex := 25, attributes := #[] }, { accessFlags := 25, nameIndex := 288, descriptorIndex := 25, attributes := #[] }, { accessFlags := 25, nameIndex := 290, descriptorIndex := 25, attributes := #[] }, { accessFlags := 25, nameIndex := 292, descriptorIndex := 25, attributes := #[] }, { accessFlags := 26, nameIndex := 108, descriptorIndex := 109, attributes := #[] }, { accessFlags := 25, nameIndex := 294, descriptorIndex := 25, attributes := #[] }])
  fields := #[{ name := "U", type := (.object "jdk/internal/misc/Unsafe"), accessFlags := 24, slot := 0, constantValue := 0 }, { name := "BIG_ENDIAN", type := .boolean, accessFlags := 26, slot := 1, constantValue := 0 }, { name := "LOG2_ARRAY_BOOLEAN_INDEX_SCALE", type := .int, accessFlags := 25, slot := 2, constantValue := 0 }, { name := "LOG2_ARRAY_BYTE_INDEX_SCALE", type := .int, accessFlags := 25, slot := 3, constantValue := 0 }, { name := "LOG2_ARRAY_CHAR_INDEX_SCALE", type := .int, accessFlags := 25, slot := 4, constantValue := 0 }, { name := "LOG2_ARRAY_SHORT_INDEX_SCALE", type := .int, accessFlags := 25, slot := 5, constantValue := 0 }, { name := "LOG2_ARRAY_INT_INDEX_SCALE", type := .int, accessFlags := 25, slot := 6, constantValue := 0 }, { name := "LOG2_ARRAY_LONG_INDEX_SCALE", type := .int, accessFlags := 25, slot := 7, constantValue := 0 }, { name := "LOG2_ARRAY_FLOAT_INDEX_SCALE", type := .int, accessFlags := 25, slot := 8, constantValue := 0 }, { name := "LOG2_ARRAY_DOUBLE_INDEX_SCALE", type := .int, accessFlags := 25, slot := 9, constantValue := 0 }, { name := "LOG2_BYTE_BIT_SIZE", type := .int, accessFlags := 26, slot := 10, constantValue := 0 }, { name := "T_BOOLEAN", type := .int, accessFlags := 25, slot := 11, constantValue := 0 }, { name := "T_CHAR", type := .int, accessFlags := 25, slot := 12, constantValue := 0 }, { name := "T_FLOAT", type := .int, accessFlags := 25, slot := 13, constantValue := 0 }, { name := "T_DOUBLE", type := .int, accessFlags := 25, slot := 14, constantValue := 0 }, { name := "T_BYTE", type := .int, accessFlags := 25, slot := 15, constantValue := 0 }, { name := "T_SHORT", type := .int, accessFlags := 25, slot := 16, constantValue := 0 }, { name := "T_INT", type := .int, accessFlags := 25, slot := 17, constantValue := 0 }, { name := "T_LONG", type := .int, accessFlags := 25, slot := 18, constantValue := 0 }, { name := "JLA", type := (.object "jdk/internal/access/JavaLangAccess"), accessFlags := 26, slot := 19, constantValue := 0 }, { name := "SOFT_MAX_ARRAY_LENGTH", type := .int, accessFlags := 25, slot := 20, constantValue := 0 }]
  methods := #[k13m0]
  instanceTypes := #[]
  staticTypes := #[(.object "jdk/internal/misc/Unsafe"), .boolean, .int, .int, .int, .int, .int, .int, .int, .int, .int, .int, .int, .int, .int, .int, .int, .int, .int, (.object "jdk/internal/access/JavaLangAccess"), .int]
  resolved := Array.replicate 378 none
  statics := none }

def pool14 : Array CpInfo := pool [(1, u "java/lang/Cloneable"), (0, .class_ 1), (0, u "java/lang/Object"), (0, .class_ 3)] 3

/-- java/lang/Cloneable -/
def k14 : Class := { plain "java/lang/Cloneable" (some 0) with
  accessFlags := 1537
  interfaces := #[]
  cf := some (fileOf pool14 2 #[] #[] 1537 4 #[] #[])
  fields := #[]
  methods := #[]
  instanceTypes := #[]
  staticTypes := #[]
  resolved := Array.replicate 8 none
  statics := none }

/-- the primitive byte -/
def k15 : Class := { plain "byte" none with kind := .primitive 'B', accessFlags := 0x411 }
/-- [B -/
def k16 : Class := { plain "[B" (some 0) with kind := .array 15 .byte, interfaces := #[14, 2], accessFlags := 1041 }

/-- the primitive char -/
def k17 : Class := { plain "char" none with kind := .primitive 'C', accessFlags := 0x411 }
/-- [C -/
def k18 : Class := { plain "[C" (some 0) with kind := .array 17 .char, interfaces := #[14, 2], accessFlags := 1041 }

/-- the primitive int -/
def k19 : Class := { plain "int" none with kind := .primitive 'I', accessFlags := 0x411 }
/-- [I -/
def k20 : Class := { plain "[I" (some 0) with kind := .array 19 .int, interfaces := #[14, 2], accessFlags := 1041 }

def heap : Heap := #[{ cls := 7, slots := #[.long 0, .int 1, .null, .int 0, .null, .int 0, .int 0], vm := .statics 7 },
  { cls := 9, slots := #[.int 0, .int 8, .int 0, .int 1], vm := .statics 9 },
  { cls := 11, slots := #[.null, .null, .null], vm := .statics 11 }]
def classes : Array Class := #[k0, k1, k2, k3, k4, k5, k6, k7, k8, k9, k10, k11, k12, k13, k14, k15, k16, k17, k18, k19, k20]
def interned : List (Array UInt16 × Addr) := []
def slotsUsed : Nat := 14
def theMethod : MethodId := ⟨1, 3⟩
def args0 : Array Value := #[.int 5, .int 5, .int 5, .int 5, .int 5]
def aboutOver (below : List Frame) : State where
  vm := { classes := classes, interned := interned.toArray }
  heap := heap
  slotsUsed := slotsUsed
  threads := #[{ frames := .invoking theMethod args0 :: below }]
def below0 : List Frame := [.native { method := ⟨0, 0⟩, args := #[] }]
def about1 : State := aboutOver below0
def p0 : Program := .bare "" "" ""
def e0 : Env := launch0.env 0 0 0
theorem w_frames : about1.frames = Frame.invoking theMethod args0 :: below0 := rfl
set_option maxRecDepth 65536 in
theorem w_args : argsFit about1.vm theMethod args0 = true := by decide +kernel
set_option maxRecDepth 65536 in
theorem w_heap : heapFits about1 = true := by decide +kernel
set_option maxRecDepth 65536 in
theorem w_runnable : about1.curStatus? = some .runnable := by decide +kernel
set_option maxRecDepth 65536 in
theorem w_alone : about1.alone = true := by decide +kernel
set_option maxRecDepth 65536 in
theorem w_named : about1.methodNamed? x = some theMethod := by decide +kernel
set_option maxRecDepth 65536 in
theorem w_hears : about1.hears theMethod below0 = true := by decide +kernel
set_option maxRecDepth 65536 in
theorem w_ripe : about1.ripe theMethod args0 below0 = true := by decide +kernel
theorem w_running : about1.status = .running := rfl
set_option maxRecDepth 65536 in
theorem w_room : about1.hasRoom e0.platform room_1 = true :=
  launch0.hasRoom_least _ room_1 (by decide +kernel) (by decide +kernel) (by decide +kernel) (by decide +kernel) (by decide +kernel) (by decide +kernel)
theorem allAtoms_all (ts : List Jvm.Cond) (a : Array Jvm.Value) (st : Jvm.State) : (allAtoms ts).before a st = ts.all (fun c => c.before a st) := by
  induction ts with
  | nil => rfl
  | cons c t ih =>
    show (Jvm.Cond.and c (allAtoms t)).before a st = _
    rw [Jvm.Cond.before_and, ih, List.all_cons]
def words1 : List Jvm.Cond := Jvm.Cond.code x code maxLocals ret :: tables_1
/-- a 'code' word, met by the world's own term for the bytes: nothing is compared byte by byte -/
theorem code_word {y : MethodName} {bytes : ByteArray} {mx : Nat} {rt : Option FieldType} {a : Array Value} {s : State} {m : MethodId} {meth : Method} {c : Code} (h1 : s.methodNamed? y = some m) (h2 : s.vm.method? m = some meth) (h3 : meth.code = some c) (h4 : c.code = bytes)
    (h5 : (c.maxLocals == mx && c.exceptionTable.isEmpty && decide (c.maxStack ≤ mostOperands) && decide (meth.sig.returnType = rt) && !meth.locks && decide (parseMethodDescriptor y.desc = some meth.sig)) = true) : (Jvm.Cond.code y bytes mx rt).before a s = true := by
  simp only [Bool.and_eq_true, beq_iff_eq, Bool.not_eq_true', decide_eq_true_eq] at h5
  obtain ⟨⟨⟨⟨⟨g1, g2⟩, g3⟩, g4⟩, g5⟩, g6⟩ := h5
  simp [Cond.before, Cond.holds, Cond.value, h1, h2, h3, h4, g1, g2, g3, g4, g5, g6]
def isCode : Jvm.Cond → Bool
  | .code _ _ _ _ => true
  | _ => false
theorem all_split {L : List Jvm.Cond} {P : Jvm.Cond → Bool} (h1 : L.all (fun c => isCode c || P c) = true) (h2 : ∀ c ∈ L.filter isCode, P c = true) : L.all P = true := by
  refine List.all_eq_true.mpr fun c hc => ?_
  have h := List.all_eq_true.mp h1 c hc
  rcases Bool.eq_false_or_eq_true (isCode c) with hi | hi
  · exact h2 c (List.mem_filter.mpr ⟨hc, hi⟩)
  · simpa [hi] using h
set_option maxRecDepth 65536 in
theorem w_c0 : (Jvm.Cond.code x code maxLocals ret).before args0 about1 = true := code_word (m := ⟨1, 3⟩) (meth := k1m3) (c := k1c3) (by decide +kernel) rfl rfl rfl (by decide +kernel)
set_option maxRecDepth 65536 in
theorem w_c1 : (Jvm.Cond.code ({ cls := "com/example/idempotency_key_store/idempotencykeystore/MediaTypesIsTokenPinLaw", name := "draw", desc := "(I)C" } : Jvm.MethodName) method_2_code (1 : Nat) (Option.some Jvm.ClassFile.FieldType.char)).before args0 about1 = true := code_word (m := ⟨1, 1⟩) (meth := k1m1) (c := k1c1) (by decide +kernel) rfl rfl rfl (by decide +kernel)
set_option maxRecDepth 65536 in
theorem w_c2 : (Jvm.Cond.code ({ cls := "java/lang/String", name := "<init>", desc := "([C)V" } : Jvm.MethodName) jdk_42_method_3_code (2 : Nat) (Option.none : Option Jvm.ClassFile.FieldType)).before args0 about1 = true := code_word (m := ⟨7, 1⟩) (meth := k7m1) (c := k7c1) (by decide +kernel) rfl rfl rfl (by decide +kernel)
set_option maxRecDepth 65536 in
theorem w_c3 : (Jvm.Cond.code ({ cls := "java/lang/String", name := "<init>", desc := "([CIILjava/lang/Void;)V" } : Jvm.MethodName) jdk_42_method_149_code (6 : Nat) (Option.none : Option Jvm.ClassFile.FieldType)).before args0 about1 = true := code_word (m := ⟨7, 7⟩) (meth := k7m7) (c := k7c7) (by decide +kernel) rfl rfl rfl (by decide +kernel)
set_option maxRecDepth 65536 in
theorem w_c4 : (Jvm.Cond.code ({ cls := "java/lang/Object", name := "<init>", desc := "()V" } : Jvm.MethodName) object_method_1_code (1 : Nat) (Option.none : Option Jvm.ClassFile.FieldType)).before args0 about1 = true := code_word (m := ⟨0, 0⟩) (meth := k0m0) (c := k0c0) (by decide +kernel) rfl rfl rfl (by decide +kernel)
set_option maxRecDepth 65536 in
theorem w_c5 : (Jvm.Cond.code ({ cls := "com/example/idempotency_key_store/idempotencykeystore/MediaTypes", name := "isToken", desc := "(Ljava/lang/String;)Z" } : Jvm.MethodName) prog_23_method_6_code (4 : Nat) (Option.some Jvm.ClassFile.FieldType.boolean)).before args0 about1 = true := code_word (m := ⟨8, 1⟩) (meth := k8m1) (c := k8c1) (by decide +kernel) rfl rfl rfl (by decide +kernel)
set_option maxRecDepth 65536 in
theorem w_c6 : (Jvm.Cond.code ({ cls := "java/lang/String", name := "isEmpty", desc := "()Z" } : Jvm.MethodName) jdk_42_method_55_code (1 : Nat) (Option.some Jvm.ClassFile.FieldType.boolean)).before args0 about1 = true := code_word (m := ⟨7, 3⟩) (meth := k7m3) (c := k7c3) (by decide +kernel) rfl rfl rfl (by decide +kernel)
set_option maxRecDepth 65536 in
theorem w_c7 : (Jvm.Cond.code ({ cls := "java/lang/StringUTF16", name := "compress", desc := "([CII)[B" } : Jvm.MethodName) jdk_52_method_16_code (6 : Nat) (Option.some (Jvm.ClassFile.FieldType.array Jvm.ClassFile.FieldType.byte))).before args0 about1 = true := code_word (m := ⟨9, 8⟩) (meth := k9m8) (c := k9c8) (by decide +kernel) rfl rfl rfl (by decide +kernel)
set_option maxRecDepth 65536 in
theorem w_c8 : (Jvm.Cond.code ({ cls := "java/lang/StringUTF16", name := "compress", desc := "([CI[BII)I" } : Jvm.MethodName) jdk_52_method_21_code (7 : Nat) (Option.some Jvm.ClassFile.FieldType.int)).before args0 about1 = true := code_word (m := ⟨9, 9⟩) (meth := k9m9) (c := k9c9) (by decide +kernel) rfl rfl rfl (by decide +kernel)
set_option maxRecDepth 65536 in
theorem w_c9 : (Jvm.Cond.code ({ cls := "java/lang/StringUTF16", name := "coderFromArrayLen", desc := "([BI)B" } : Jvm.MethodName) jdk_52_method_15_code (2 : Nat) (Option.some Jvm.ClassFile.FieldType.byte)).before args0 about1 = true := code_word (m := ⟨9, 7⟩) (meth := k9m7) (c := k9c7) (by decide +kernel) rfl rfl rfl (by decide +kernel)
set_option maxRecDepth 65536 in
theorem w_c10 : (Jvm.Cond.code ({ cls := "com/example/idempotency_key_store/idempotencykeystore/MediaTypesIsTokenPinLaw", name := "tchar", desc := "(C)Z" } : Jvm.MethodName) method_3_code (1 : Nat) (Option.some Jvm.ClassFile.FieldType.boolean)).before args0 about1 = true := code_word (m := ⟨1, 2⟩) (meth := k1m2) (c := k1c2) (by decide +kernel) rfl rfl rfl (by decide +kernel)
set_option maxRecDepth 65536 in
theorem w_c11 : (Jvm.Cond.code ({ cls := "java/lang/String", name := "length", desc := "()I" } : Jvm.MethodName) jdk_42_method_54_code (1 : Nat) (Option.some Jvm.ClassFile.FieldType.int)).before args0 about1 = true := code_word (m := ⟨7, 2⟩) (meth := k7m2) (c := k7c2) (by decide +kernel) rfl rfl rfl (by decide +kernel)
set_option maxRecDepth 65536 in
theorem w_c12 : (Jvm.Cond.code ({ cls := "java/lang/String", name := "coder", desc := "()B" } : Jvm.MethodName) jdk_42_method_152_code (1 : Nat) (Option.some Jvm.ClassFile.FieldType.byte)).before args0 about1 = true := code_word (m := ⟨7, 8⟩) (meth := k7m8) (c := k7c8) (by decide +kernel) rfl rfl rfl (by decide +kernel)
set_option maxRecDepth 65536 in
theorem w_c13 : (Jvm.Cond.code ({ cls := "java/lang/String", name := "charAt", desc := "(I)C" } : Jvm.MethodName) jdk_42_method_56_code (2 : Nat) (Option.some Jvm.ClassFile.FieldType.char)).before args0 about1 = true := code_word (m := ⟨7, 4⟩) (meth := k7m4) (c := k7c4) (by decide +kernel) rfl rfl rfl (by decide +kernel)
set_option maxRecDepth 65536 in
theorem w_c14 : (Jvm.Cond.code ({ cls := "java/lang/String", name := "isLatin1", desc := "()Z" } : Jvm.MethodName) jdk_42_method_154_code (1 : Nat) (Option.some Jvm.ClassFile.FieldType.boolean)).before args0 about1 = true := code_word (m := ⟨7, 9⟩) (meth := k7m9) (c := k7c9) (by decide +kernel) rfl rfl rfl (by decide +kernel)
set_option maxRecDepth 65536 in
theorem w_c15 : (Jvm.Cond.code ({ cls := "java/lang/StringLatin1", name := "charAt", desc := "([BI)C" } : Jvm.MethodName) jdk_43_method_2_code (2 : Nat) (Option.some Jvm.ClassFile.FieldType.char)).before args0 about1 = true := code_word (m := ⟨10, 1⟩) (meth := k10m1) (c := k10c1) (by decide +kernel) rfl rfl rfl (by decide +kernel)
set_option maxRecDepth 65536 in
theorem w_c16 : (Jvm.Cond.code ({ cls := "java/lang/String", name := "checkIndex", desc := "(II)V" } : Jvm.MethodName) jdk_42_method_155_code (2 : Nat) (Option.none : Option Jvm.ClassFile.FieldType)).before args0 about1 = true := code_word (m := ⟨7, 10⟩) (meth := k7m10) (c := k7c10) (by decide +kernel) rfl rfl rfl (by decide +kernel)
set_option maxRecDepth 65536 in
theorem w_c17 : (Jvm.Cond.code ({ cls := "jdk/internal/util/Preconditions", name := "checkIndex", desc := "(IILjava/util/function/BiFunction;)I" } : Jvm.MethodName) jdk_41_method_11_code (3 : Nat) (Option.some Jvm.ClassFile.FieldType.int)).before args0 about1 = true := code_word (m := ⟨11, 1⟩) (meth := k11m1) (c := k11c1) (by decide +kernel) rfl rfl rfl (by decide +kernel)
set_option maxRecDepth 65536 in
theorem w_c18 : (Jvm.Cond.code ({ cls := "java/lang/String", name := "indexOf", desc := "(I)I" } : Jvm.MethodName) jdk_42_method_79_code (2 : Nat) (Option.some Jvm.ClassFile.FieldType.int)).before args0 about1 = true := code_word (m := ⟨7, 5⟩) (meth := k7m5) (c := k7c5) (by decide +kernel) rfl rfl rfl (by decide +kernel)
set_option maxRecDepth 65536 in
theorem w_c19 : (Jvm.Cond.code ({ cls := "java/lang/String", name := "indexOf", desc := "(II)I" } : Jvm.MethodName) jdk_42_method_80_code (3 : Nat) (Option.some Jvm.ClassFile.FieldType.int)).before args0 about1 = true := code_word (m := ⟨7, 6⟩) (meth := k7m6) (c := k7c6) (by decide +kernel) rfl rfl rfl (by decide +kernel)
set_option maxRecDepth 65536 in
theorem w_c20 : (Jvm.Cond.code ({ cls := "java/lang/StringLatin1", name := "indexOf", desc := "([BIII)I" } : Jvm.MethodName) jdk_43_method_22_code (4 : Nat) (Option.some Jvm.ClassFile.FieldType.int)).before args0 about1 = true := code_word (m := ⟨10, 3⟩) (meth := k10m3) (c := k10c3) (by decide +kernel) rfl rfl rfl (by decide +kernel)
set_option maxRecDepth 65536 in
theorem w_c21 : (Jvm.Cond.code ({ cls := "java/lang/StringLatin1", name := "canEncode", desc := "(I)Z" } : Jvm.MethodName) jdk_43_method_4_code (1 : Nat) (Option.some Jvm.ClassFile.FieldType.boolean)).before args0 about1 = true := code_word (m := ⟨10, 2⟩) (meth := k10m2) (c := k10c2) (by decide +kernel) rfl rfl rfl (by decide +kernel)
set_option maxRecDepth 65536 in
theorem w_c22 : (Jvm.Cond.code ({ cls := "java/lang/Math", name := "max", desc := "(II)I" } : Jvm.MethodName) jdk_29_method_65_code (2 : Nat) (Option.some Jvm.ClassFile.FieldType.int)).before args0 about1 = true := code_word (m := ⟨12, 1⟩) (meth := k12m1) (c := k12c1) (by decide +kernel) rfl rfl rfl (by decide +kernel)
set_option maxRecDepth 65536 in
theorem w_c23 : (Jvm.Cond.code ({ cls := "java/lang/Math", name := "min", desc := "(II)I" } : Jvm.MethodName) jdk_29_method_69_code (2 : Nat) (Option.some Jvm.ClassFile.FieldType.int)).before args0 about1 = true := code_word (m := ⟨12, 2⟩) (meth := k12m2) (c := k12c2) (by decide +kernel) rfl rfl rfl (by decide +kernel)
set_option maxRecDepth 65536 in
theorem w_c24 : (Jvm.Cond.code ({ cls := "java/lang/StringLatin1", name := "indexOfChar", desc := "([BIII)I" } : Jvm.MethodName) jdk_43_method_23_code (6 : Nat) (Option.some Jvm.ClassFile.FieldType.int)).before args0 about1 = true := code_word (m := ⟨10, 4⟩) (meth := k10m4) (c := k10c4) (by decide +kernel) rfl rfl rfl (by decide +kernel)
set_option maxRecDepth 65536 in
theorem w_c25 : (Jvm.Cond.code ({ cls := "java/lang/StringUTF16", name := "toBytes", desc := "([CII)[B" } : Jvm.MethodName) jdk_52_method_14_code (5 : Nat) (Option.some (Jvm.ClassFile.FieldType.array Jvm.ClassFile.FieldType.byte))).before args0 about1 = true := code_word (m := ⟨9, 6⟩) (meth := k9m6) (c := k9c6) (by decide +kernel) rfl rfl rfl (by decide +kernel)
set_option maxRecDepth 65536 in
theorem w_c26 : (Jvm.Cond.code ({ cls := "java/lang/StringUTF16", name := "newBytesFor", desc := "(I)[B" } : Jvm.MethodName) jdk_52_method_2_code (1 : Nat) (Option.some (Jvm.ClassFile.FieldType.array Jvm.ClassFile.FieldType.byte))).before args0 about1 = true := code_word (m := ⟨9, 1⟩) (meth := k9m1) (c := k9c1) (by decide +kernel) rfl rfl rfl (by decide +kernel)
set_option maxRecDepth 65536 in
theorem w_c27 : (Jvm.Cond.code ({ cls := "java/lang/StringUTF16", name := "newBytesLength", desc := "(I)I" } : Jvm.MethodName) jdk_52_method_3_code (1 : Nat) (Option.some Jvm.ClassFile.FieldType.int)).before args0 about1 = true := code_word (m := ⟨9, 2⟩) (meth := k9m2) (c := k9c2) (by decide +kernel) rfl rfl rfl (by decide +kernel)
set_option maxRecDepth 65536 in
theorem w_c28 : (Jvm.Cond.code ({ cls := "java/lang/StringUTF16", name := "putChar", desc := "([BII)V" } : Jvm.MethodName) jdk_52_method_4_code (3 : Nat) (Option.none : Option Jvm.ClassFile.FieldType)).before args0 about1 = true := code_word (m := ⟨9, 3⟩) (meth := k9m3) (c := k9c3) (by decide +kernel) rfl rfl rfl (by decide +kernel)
set_option maxRecDepth 65536 in
theorem w_c29 : (Jvm.Cond.code ({ cls := "java/lang/StringUTF16", name := "getChar", desc := "([BI)C" } : Jvm.MethodName) jdk_52_method_5_code (2 : Nat) (Option.some Jvm.ClassFile.FieldType.char)).before args0 about1 = true := code_word (m := ⟨9, 4⟩) (meth := k9m4) (c := k9c4) (by decide +kernel) rfl rfl rfl (by decide +kernel)
set_option maxRecDepth 65536 in
theorem w_c30 : (Jvm.Cond.code ({ cls := "java/lang/StringUTF16", name := "charAt", desc := "([BI)C" } : Jvm.MethodName) jdk_52_method_83_code (2 : Nat) (Option.some Jvm.ClassFile.FieldType.char)).before args0 about1 = true := code_word (m := ⟨9, 10⟩) (meth := k9m10) (c := k9c10) (by decide +kernel) rfl rfl rfl (by decide +kernel)
set_option maxRecDepth 65536 in
theorem w_c31 : (Jvm.Cond.code ({ cls := "java/lang/StringUTF16", name := "checkIndex", desc := "(I[B)V" } : Jvm.MethodName) jdk_52_method_91_code (2 : Nat) (Option.none : Option Jvm.ClassFile.FieldType)).before args0 about1 = true := code_word (m := ⟨9, 11⟩) (meth := k9m11) (c := k9c11) (by decide +kernel) rfl rfl rfl (by decide +kernel)
set_option maxRecDepth 65536 in
theorem w_c32 : (Jvm.Cond.code ({ cls := "java/lang/StringUTF16", name := "length", desc := "([B)I" } : Jvm.MethodName) jdk_52_method_6_code (1 : Nat) (Option.some Jvm.ClassFile.FieldType.int)).before args0 about1 = true := code_word (m := ⟨9, 5⟩) (meth := k9m5) (c := k9c5) (by decide +kernel) rfl rfl rfl (by decide +kernel)
def codes1 : List Jvm.Cond := [Jvm.Cond.code x code maxLocals ret, Jvm.Cond.code ({ cls := "com/example/idempotency_key_store/idempotencykeystore/MediaTypesIsTokenPinLaw", name := "draw", desc := "(I)C" } : Jvm.MethodName) method_2_code (1 : Nat) (Option.some Jvm.ClassFile.FieldType.char), Jvm.Cond.code ({ cls := "java/lang/String", name := "<init>", desc := "([C)V" } : Jvm.MethodName) jdk_42_method_3_code (2 : Nat) (Option.none : Option Jvm.ClassFile.FieldType), Jvm.Cond.code ({ cls := "java/lang/String", name := "<init>", desc := "([CIILjava/lang/Void;)V" } : Jvm.MethodName) jdk_42_method_149_code (6 : Nat) (Option.none : Option Jvm.ClassFile.FieldType), Jvm.Cond.code ({ cls := "java/lang/Object", name := "<init>", desc := "()V" } : Jvm.MethodName) object_method_1_code (1 : Nat) (Option.none : Option Jvm.ClassFile.FieldType), Jvm.Cond.code ({ cls := "com/example/idempotency_key_store/idempotencykeystore/MediaTypes", name := "isToken", desc := "(Ljava/lang/String;)Z" } : Jvm.MethodName) prog_23_method_6_code (4 : Nat) (Option.some Jvm.ClassFile.FieldType.boolean), Jvm.Cond.code ({ cls := "java/lang/String", name := "isEmpty", desc := "()Z" } : Jvm.MethodName) jdk_42_method_55_code (1 : Nat) (Option.some Jvm.ClassFile.FieldType.boolean), Jvm.Cond.code ({ cls := "java/lang/StringUTF16", name := "compress", desc := "([CII)[B" } : Jvm.MethodName) jdk_52_method_16_code (6 : Nat) (Option.some (Jvm.ClassFile.FieldType.array Jvm.ClassFile.FieldType.byte)), Jvm.Cond.code ({ cls := "java/lang/StringUTF16", name := "compress", desc := "([CI[BII)I" } : Jvm.MethodName) jdk_52_method_21_code (7 : Nat) (Option.some Jvm.ClassFile.FieldType.int), Jvm.Cond.code ({ cls := "java/lang/StringUTF16", name := "coderFromArrayLen", desc := "([BI)B" } : Jvm.MethodName) jdk_52_method_15_code (2 : Nat) (Option.some Jvm.ClassFile.FieldType.byte), Jvm.Cond.code ({ cls := "com/example/idempotency_key_store/idempotencykeystore/MediaTypesIsTokenPinLaw", name := "tchar", desc := "(C)Z" } : Jvm.MethodName) method_3_code (1 : Nat) (Option.some Jvm.ClassFile.FieldType.boolean), Jvm.Cond.code ({ cls := "java/lang/String", name := "length", desc := "()I" } : Jvm.MethodName) jdk_42_method_54_code (1 : Nat) (Option.some Jvm.ClassFile.FieldType.int), Jvm.Cond.code ({ cls := "java/lang/String", name := "coder", desc := "()B" } : Jvm.MethodName) jdk_42_method_152_code (1 : Nat) (Option.some Jvm.ClassFile.FieldType.byte), Jvm.Cond.code ({ cls := "java/lang/String", name := "charAt", desc := "(I)C" } : Jvm.MethodName) jdk_42_method_56_code (2 : Nat) (Option.some Jvm.ClassFile.FieldType.char), Jvm.Cond.code ({ cls := "java/lang/String", name := "isLatin1", desc := "()Z" } : Jvm.MethodName) jdk_42_method_154_code (1 : Nat) (Option.some Jvm.ClassFile.FieldType.boolean), Jvm.Cond.code ({ cls := "java/lang/StringLatin1", name := "charAt", desc := "([BI)C" } : Jvm.MethodName) jdk_43_method_2_code (2 : Nat) (Option.some Jvm.ClassFile.FieldType.char), Jvm.Cond.code ({ cls := "java/lang/String", name := "checkIndex", desc := "(II)V" } : Jvm.MethodName) jdk_42_method_155_code (2 : Nat) (Option.none : Option Jvm.ClassFile.FieldType), Jvm.Cond.code ({ cls := "jdk/internal/util/Preconditions", name := "checkIndex", desc := "(IILjava/util/function/BiFunction;)I" } : Jvm.MethodName) jdk_41_method_11_code (3 : Nat) (Option.some Jvm.ClassFile.FieldType.int), Jvm.Cond.code ({ cls := "java/lang/String", name := "indexOf", desc := "(I)I" } : Jvm.MethodName) jdk_42_method_79_code (2 : Nat) (Option.some Jvm.ClassFile.FieldType.int), Jvm.Cond.code ({ cls := "java/lang/String", name := "indexOf", desc := "(II)I" } : Jvm.MethodName) jdk_42_method_80_code (3 : Nat) (Option.some Jvm.ClassFile.FieldType.int), Jvm.Cond.code ({ cls := "java/lang/StringLatin1", name := "indexOf", desc := "([BIII)I" } : Jvm.MethodName) jdk_43_method_22_code (4 : Nat) (Option.some Jvm.ClassFile.FieldType.int), Jvm.Cond.code ({ cls := "java/lang/StringLatin1", name := "canEncode", desc := "(I)Z" } : Jvm.MethodName) jdk_43_method_4_code (1 : Nat) (Option.some Jvm.ClassFile.FieldType.boolean), Jvm.Cond.code ({ cls := "java/lang/Math", name := "max", desc := "(II)I" } : Jvm.MethodName) jdk_29_method_65_code (2 : Nat) (Option.some Jvm.ClassFile.FieldType.int), Jvm.Cond.code ({ cls := "java/lang/Math", name := "min", desc := "(II)I" } : Jvm.MethodName) jdk_29_method_69_code (2 : Nat) (Option.some Jvm.ClassFile.FieldType.int), Jvm.Cond.code ({ cls := "java/lang/StringLatin1", name := "indexOfChar", desc := "([BIII)I" } : Jvm.MethodName) jdk_43_method_23_code (6 : Nat) (Option.some Jvm.ClassFile.FieldType.int), Jvm.Cond.code ({ cls := "java/lang/StringUTF16", name := "toBytes", desc := "([CII)[B" } : Jvm.MethodName) jdk_52_method_14_code (5 : Nat) (Option.some (Jvm.ClassFile.FieldType.array Jvm.ClassFile.FieldType.byte)), Jvm.Cond.code ({ cls := "java/lang/StringUTF16", name := "newBytesFor", desc := "(I)[B" } : Jvm.MethodName) jdk_52_method_2_code (1 : Nat) (Option.some (Jvm.ClassFile.FieldType.array Jvm.ClassFile.FieldType.byte)), Jvm.Cond.code ({ cls := "java/lang/StringUTF16", name := "newBytesLength", desc := "(I)I" } : Jvm.MethodName) jdk_52_method_3_code (1 : Nat) (Option.some Jvm.ClassFile.FieldType.int), Jvm.Cond.code ({ cls := "java/lang/StringUTF16", name := "putChar", desc := "([BII)V" } : Jvm.MethodName) jdk_52_method_4_code (3 : Nat) (Option.none : Option Jvm.ClassFile.FieldType), Jvm.Cond.code ({ cls := "java/lang/StringUTF16", name := "getChar", desc := "([BI)C" } : Jvm.MethodName) jdk_52_method_5_code (2 : Nat) (Option.some Jvm.ClassFile.FieldType.char), Jvm.Cond.code ({ cls := "java/lang/StringUTF16", name := "charAt", desc := "([BI)C" } : Jvm.MethodName) jdk_52_method_83_code (2 : Nat) (Option.some Jvm.ClassFile.FieldType.char), Jvm.Cond.code ({ cls := "java/lang/StringUTF16", name := "checkIndex", desc := "(I[B)V" } : Jvm.MethodName) jdk_52_method_91_code (2 : Nat) (Option.none : Option Jvm.ClassFile.FieldType), Jvm.Cond.code ({ cls := "java/lang/StringUTF16", name := "length", desc := "([B)I" } : Jvm.MethodName) jdk_52_method_6_code (1 : Nat) (Option.some Jvm.ClassFile.FieldType.int)]
set_option maxRecDepth 65536 in
theorem codes_eq : words1.filter isCode = codes1 := rfl
theorem w_codes : ∀ c ∈ words1.filter isCode, c.before args0 about1 = true := by
  rw [codes_eq]
  intro c hc
  simp only [codes1, List.mem_cons, List.not_mem_nil, or_false] at hc
  rcases hc with rfl | rfl | rfl | rfl | rfl | rfl | rfl | rfl | rfl | rfl | rfl | rfl | rfl | rfl | rfl | rfl | rfl | rfl | rfl | rfl | rfl | rfl | rfl | rfl | rfl | rfl | rfl | rfl | rfl | rfl | rfl | rfl | rfl
  · exact w_c0
  · exact w_c1
  · exact w_c2
  · exact w_c3
  · exact w_c4
  · exact w_c5
  · exact w_c6
  · exact w_c7
  · exact w_c8
  · exact w_c9
  · exact w_c10
  · exact w_c11
  · exact w_c12
  · exact w_c13
  · exact w_c14
  · exact w_c15
  · exact w_c16
  · exact w_c17
  · exact w_c18
  · exact w_c19
  · exact w_c20
  · exact w_c21
  · exact w_c22
  · exact w_c23
  · exact w_c24
  · exact w_c25
  · exact w_c26
  · exact w_c27
  · exact w_c28
  · exact w_c29
  · exact w_c30
  · exact w_c31
  · exact w_c32
set_option maxRecDepth 65536 in
theorem w_t1 : (words1.take 24).all (fun c => isCode c || c.before args0 about1) = true := by decide +kernel
set_option maxRecDepth 65536 in
theorem w_t2 : ((words1.drop 24).take 24).all (fun c => isCode c || c.before args0 about1) = true := by decide +kernel
set_option maxRecDepth 65536 in
theorem w_t3 : (((words1.drop 24).drop 24).take 24).all (fun c => isCode c || c.before args0 about1) = true := by decide +kernel
set_option maxRecDepth 65536 in
theorem w_t4 : ((((words1.drop 24).drop 24).drop 24).take 24).all (fun c => isCode c || c.before args0 about1) = true := by decide +kernel
set_option maxRecDepth 65536 in
theorem w_t5 : (((((words1.drop 24).drop 24).drop 24).drop 24).take 24).all (fun c => isCode c || c.before args0 about1) = true := by decide +kernel
set_option maxRecDepth 65536 in
theorem w_t6 : (((((words1.drop 24).drop 24).drop 24).drop 24).drop 24).all (fun c => isCode c || c.before args0 about1) = true := by decide +kernel
theorem w_tables : (allAtoms (Jvm.Cond.code x code maxLocals ret :: tables_1)).before args0 about1 = true := by
  rw [allAtoms_all]
  show words1.all (fun c => c.before args0 about1) = true
  refine all_split ?_ w_codes
  rw [← List.take_append_drop 24 words1, List.all_append, w_t1, ← List.take_append_drop 24 (words1.drop 24), List.all_append, w_t2, ← List.take_append_drop 24 ((words1.drop 24).drop 24), List.all_append, w_t3, ← List.take_append_drop 24 (((words1.drop 24).drop 24).drop 24), List.all_append, w_t4, ← List.take_append_drop 24 ((((words1.drop 24).drop 24).drop 24).drop 24), List.all_append, w_t5, w_t6]
  rfl
set_option maxRecDepth 65536 in
theorem w_rest : rest_1_c.before args0 about1 = true := by decide +kernel
set_option maxRecDepth 65536 in
theorem w_case : (Jvm.Cond.and given_1 narrow_1).before args0 about1 = true := by decide +kernel
set_option maxRecDepth 65536 in
theorem w_consts : constsHeld consts_1 about1 := Jvm.Lit.constsHeldB_iff.mp (by decide +kernel)
theorem w_applies : (headSpec (Jvm.Cond.code x code maxLocals ret :: tables_1) room_1).applies x e0.platform about1 = true :=
  (Spec.applies_iff w_frames).mpr ⟨w_running, w_runnable, w_alone, w_named, w_hears, w_ripe, w_room, w_tables⟩
theorem atStart : AtStart classFile x code maxLocals ret World_1 tables_1 room_1 Calls_1 rest_1 Pre_1 launch0 p0 e0 about1 theMethod args0 below0 :=
  ⟨lists_1, trivial, launch0.admits_env _ _ _, launch0.least_env, fairChoices_fair.cas, fairChoices_fair.clock, w_frames, w_args, w_heap, w_applies, ⟨w_consts, trivial⟩, w_rest, w_case⟩
end start1
theorem witness_1 : WitnessClaimed_1 := ⟨start1.p0, start1.e0, start1.about1, start1.theMethod, start1.args0, start1.below0, start1.atStart⟩
end Jvm.Pilot.@@N@@
