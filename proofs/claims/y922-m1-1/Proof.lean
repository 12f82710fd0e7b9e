import JvmDerived
import JvmDerived.Pilot.@@N@@Statement
import JvmDerived.Pilot.@@N@@Code
set_option linter.unusedVariables false
set_option linter.unusedSimpArgs false
namespace Jvm.GoKit
open Sem ClassFile Op Lib Jvm.Stand Jvm.Free Jvm.LawKit Jvm.RoadKit
/-! A small logic of walks: 'Go .. h kc ks SL pc L S': from pc, with locals L, stack S, heap h, the body comes to its end and Q holds. -/
def Sfs (Z : State) (EL : List (String × Nat)) (vm : Vm) (h : Heap) (SL : List Addr) : Prop := ∀ x ∈ SL, x < h.size ∧ Safe Z EL vm h x
def En (w : Bool) (s : State) (o : Outcome) (t : State) (L : List Loc) (k n : Nat) : Prop := ReturnedEndW s o t L k n ∧ (w = false → s.WarmedH t.vm)
def Wk (l : Launch) (Z : State) (y : MethodName) (bytes : ByteArray) (mx : Nat) (rt : Option FieldType) (R : Room) (EL : List (String × Nat)) (n0 : Nat) (w : Bool) (p : Program) (e : Env) (s : State) (m : MethodId) (args : Array Value) (below : List Frame) (meth : Method) (c : Code) (T : State) (h : Heap) (kc ks : Nat) (SL : List Addr) : Prop :=
  (p.tables.exec = Jvm.exec ∧ c.code = bytes ∧ c.maxLocals = mx ∧ meth.sig.returnType = rt ∧ meth.locks = false ∧ meth.name = y.name ∧ ∃ a0, EW Z a0 EL) ∧
  ∃ k0 locs, Stand p l e R (s.setVm T.vm) m args below meth c T locs kc ks ∧ T.heap = h ∧ s.Since T.vm k0 ∧ k0 ≤ h.size ∧ Z.Warmed39 T.vm ∧ T.vm.findClass y.cls = some m.cls ∧ CHr Z EL s.vm s.heap T.vm h ∧ Fr n0 locs ∧ (w = false → s.WarmedH T.vm) ∧ Sfs Z EL T.vm h SL
def Go (l : Launch) (Z : State) (y : MethodName) (bytes : ByteArray) (mx : Nat) (rt : Option FieldType) (R : Room) (EL : List (String × Nat)) (n0 : Nat) (w : Bool) (Q : Option Value → Heap → List Addr → Prop) (h : Heap) (kc ks : Nat) (SL : List Addr) (pc : Nat) (L : Array Slot) (S : List Value) : Prop :=
  ∀ p e s m args below meth c T, Wk l Z y bytes mx rt R EL n0 w p e s m args below meth c T h kc ks SL →
    ∃ s₂ o, Steps p.tables e below (T.setTop (mkF m pc L S)) s₂ ∧ s₂.status = .running ∧ Ended s₂ below o ∧
      ∃ v Ls N, o = .returned v ∧ Q v s₂.heap N ∧ Fr n0 Ls ∧ CHr Z EL s.vm s.heap s₂.vm s₂.heap ∧ Sfs Z EL s₂.vm s₂.heap N ∧ En w s o s₂ Ls R.cells R.slots
/-- a method's contract, for one array of arguments and one heap -/
def Ct (l : Launch) (Z : State) (y : MethodName) (bytes : ByteArray) (mx : Nat) (rt : Option FieldType) (R : Room) (EL : List (String × Nat)) (n0 : Nat) (w : Bool) (ws : List Jvm.Cond) (as' : Array Value) (h0 : Heap) (SL : List Addr) (Q : Option Value → Heap → List Addr → Prop) : Prop :=
  MetFree l y (head1 (Jvm.Cond.code y bytes mx rt :: ws) R) (fun a U => a = as' ∧ Z.Warmed39 U.vm ∧ U.heap = h0 ∧ CHv Z EL U.vm h0 ∧ Sfs Z EL U.vm h0 SL) (fun _ _ _ _ _ => True)
    (fun _ U o U' => ∃ v Ls N, o = .returned v ∧ Q v U'.heap N ∧ Fr n0 Ls ∧ CHr Z EL U.vm U.heap U'.vm U'.heap ∧ Sfs Z EL U'.vm U'.heap N ∧ En w U o U' Ls R.cells R.slots)
theorem nlt {a b : Nat} (h : a < b) : a < b := h
theorem nle {a b : Nat} (h : a ≤ b) : a ≤ b := h
theorem neq {a b : Nat} (h : a = b) : a = b := h
theorem nne {a b : Nat} (h : a ≠ b) : a ≠ b := h
theorem nne2 {x a b : Nat} (h : x ≠ a ∧ x ≠ b) : x ≠ a ∧ x ≠ b := h
theorem sta_keep {Z : State} {h h' : Heap} {C n d : String} {v : Value} {ws : List Addr} (F : Sta Z h C n d v) (K : Keep h h' ws) (q : ∀ x ∈ ws, ∀ cell : Cell, h[x]? = some cell → cell.vm.isStatics = false) : Sta Z h' C n d v := by
  obtain ⟨cf, i, k, f, st, cell, h1, h2, h3, h4, h5, h6, h7⟩ := F
  exact ⟨cf, i, k, f, st, cell, h1, h2, h3, h4, K.2.1 st cell h5 (fun m => by rw [q st m cell h5] at h6; cases h6), h6, h7⟩
theorem arr_keep {Z : State} {h h' : Heap} {a : Addr} {c : Cell} {ty : FieldType} {ws : List Addr} (F : RoadKit.Arr Z h a c ty) (K : Keep h h' ws) (q : a ∉ ws) : RoadKit.Arr Z h' a c ty := ⟨K.2.1 a c F.1 q, F.2⟩
section Closure
variable {l : Launch} {Z : State} {y : MethodName} {bytes : ByteArray} {mx : Nat} {rt : Option FieldType} {R : Room} {EL : List (String × Nat)} {n0 : Nat} {w : Bool} {Q : Option Value → Heap → List Addr → Prop} {h h' : Heap} {kc ks kc' ks' : Nat} {SL SL' : List Addr} {pc pc' : Nat} {L L' : Array Slot} {S S' : List Value} {a0 : Array Value}
variable {p : Program} {e : Env} {s : State} {m : MethodId} {args : Array Value} {below : List Frame} {meth : Method} {c : Code} {T T' : State} {locs' : List Loc}
theorem Sfs.mono (F : Sfs Z EL T.vm h SL) (q : ∀ x ∈ SL', x ∈ SL) : Sfs Z EL T.vm h SL' := fun x hx => F x (q x hx)
theorem Sfs.chr {vm vm1 : Vm} (F : Sfs Z EL vm h SL) (A : CHr Z EL vm h vm1 h') : Sfs Z EL vm1 h' SL := fun x hx => ⟨Nat.lt_of_lt_of_le (F x hx).1 A.2.1, A.safe (F x hx).1 (F x hx).2⟩
theorem Wk.mono (W : Wk l Z y bytes mx rt R EL n0 w p e s m args below meth c T h kc ks SL) (q : ∀ x ∈ SL', x ∈ SL) : Wk l Z y bytes mx rt R EL n0 w p e s m args below meth c T h kc ks SL' := by
  obtain ⟨A, k0, locs, X, e1, h1, h2, h3, h4, h5, h6, h7, h8⟩ := W
  exact ⟨A, k0, locs, X, e1, h1, h2, h3, h4, h5, h6, h7, h8.mono q⟩
/-- a step that interns nothing -/
theorem Wk.next (W : Wk l Z y bytes mx rt R EL n0 w p e s m args below meth c T h kc ks SL) (X' : Stand p l e R (s.setVm T.vm) m args below meth c T' locs' kc' ks') (e' : T'.heap = h') (hC : CHr Z EL T.vm h T.vm h') (N : Fr n0 locs') (hSf : Sfs Z EL T.vm h' SL') :
    Wk l Z y bytes mx rt R EL n0 w p e s m args below meth c T' h' kc' ks' SL' := by
  obtain ⟨⟨b1, b2, b3, b4, b5, b6, a0, b7⟩, k0, locs, X, e1, h1, h2, h3, h4, h5, h6, h7, h8⟩ := W
  have hW : (s.setVm T.vm).WarmedH T'.vm := X'.warmed
  have A := CHv.at X' h3 b7 hC.1
  have Xr : Stand p l e R (s.setVm T'.vm) m args below meth c T' locs' kc' ks' := X'.retabled hW.wide
  refine ⟨⟨b1, b2, b3, b4, b5, b6, a0, b7⟩, k0, locs', Xr, e', h1.trans (hW.since _) (Nat.le_refl _), Nat.le_trans h2 hC.2.1, State.Warmed39.trans (t := s.setVm T.vm) h3 hW.wide, ?_, (h5.trans hC).trans A, N, fun q => State.WarmedH.trans (t := s.setVm T.vm) (h7 q) hW, hSf.chr A⟩
  rw [hW.alike.findClass]; exact h4
/-- a step that may intern -/
theorem Wk.nextS (W : Wk l Z y bytes mx rt R EL n0 w p e s m args below meth c T h kc ks SL) (X' : Stand p l e R (s.setVm T'.vm) m args below meth c T' locs' kc' ks') (e' : T'.heap = h') {n1 : Nat} (hS : (s.setVm T.vm).Since T'.vm n1) (hn1 : h.size ≤ n1) (hn : n1 ≤ h'.size) (hC : CHr Z EL T.vm h T'.vm h') (N : Fr n0 locs') (hw : w = false → (s.setVm T.vm).WarmedH T'.vm) (hSf : Sfs Z EL T'.vm h' SL') :
    Wk l Z y bytes mx rt R EL n0 w p e s m args below meth c T' h' kc' ks' SL' := by
  obtain ⟨⟨b1, b2, b3, b4, b5, b6, a0, b7⟩, k0, locs, X, e1, h1, h2, h3, h4, h5, h6, h7, h8⟩ := W
  refine ⟨⟨b1, b2, b3, b4, b5, b6, a0, b7⟩, n1, locs', X', e', h1.trans hS (Nat.le_trans h2 hn1), hn, State.Warmed39.trans (t := s.setVm T.vm) h3 hS.1, ?_, h5.trans hC, N, fun q => State.WarmedH.trans (t := s.setVm T.vm) (h7 q) (hw q), hSf⟩
  rw [hS.1.alike.findClass]; exact h4
theorem Go.st (hst : ∀ {p : Program} {e : Env} {s : State} {m : MethodId} {args : Array Value} {below : List Frame} {meth : Method} {c : Code} {T : State}, Wk l Z y bytes mx rt R EL n0 w p e s m args below meth c T h kc ks SL → ∀ t, Steps p.tables e below (T.setTop (mkF m pc' L' S')) t → Steps p.tables e below (T.setTop (mkF m pc L S)) t)
    (k : Go l Z y bytes mx rt R EL n0 w Q h kc ks SL pc' L' S') : Go l Z y bytes mx rt R EL n0 w Q h kc ks SL pc L S := by
  intro p e s m args below meth c T W
  obtain ⟨s₂, o, st, r⟩ := k p e s m args below meth c T W
  exact ⟨s₂, o, hst W _ st, r⟩
theorem Go.mono (q : ∀ x ∈ SL', x ∈ SL) (k : Go l Z y bytes mx rt R EL n0 w Q h kc ks SL' pc L S) : Go l Z y bytes mx rt R EL n0 w Q h kc ks SL pc L S := fun p e s m args below meth c T W => k p e s m args below meth c T (W.mono q)
theorem Go.post {Q' : Option Value → Heap → List Addr → Prop} (q : ∀ v h N, Q' v h N → Q v h N) (k : Go l Z y bytes mx rt R EL n0 w Q' h kc ks SL pc L S) : Go l Z y bytes mx rt R EL n0 w Q h kc ks SL pc L S := fun p e s m args below meth c T W => by
  obtain ⟨s₂, o, st, r1, r2, v, Ls, N, r3, r4, r5⟩ := k p e s m args below meth c T W
  exact ⟨s₂, o, st, r1, r2, v, Ls, N, r3, q _ _ _ r4, r5⟩
theorem Ct.of {ws : List Jvm.Cond} {as' : Array Value} {h0 : Heap} (hp : plainFor y = true) (hEL : EW Z a0 EL) {L0 : Array Slot} (hE : ∀ m, entryFrame m as' mx = mkF m 0 L0 []) (G : Go l Z y bytes mx rt R EL n0 w Q h0 0 0 SL 0 L0 []) :
    Ct l Z y bytes mx rt R EL n0 w ws as' h0 SL Q := by
  refine MetFree.of_bodySF hp hisR ?_
  intro p e s m args below meth c s₁ Bd hml0 hP hK
  obtain ⟨rfl, hZ, hh, hC, hSf⟩ := hP
  have X0 : Stand p l e R (s.setVm s.vm) m args below meth c s₁ [] 0 0 := Stand.of_body Bd
  have e0 : s₁.heap = h0 := by rw [← hh, Bd.state]; rfl
  have hW : s.WarmedH s₁.vm := X0.warmed
  have A := CHv.at X0 hZ hEL hC
  have hl : meth.locks = false := BodyLoose.notSynchronized Bd
  rw [hE]
  refine G p e s m args below meth c s₁ ⟨⟨Bd.exec, Bd.bytes, hml0, Bd.returns, hl, (name_of_methodNamed Bd.named Bd.method).1, a0, hEL⟩, h0.size, [], X0.retabled hW.wide, e0, hW.since _, Nat.le_refl _, State.Warmed39.trans (t := s) hZ hW.wide, ?_, ?_, Fr.nil n0, fun _ => hW, hSf.chr A⟩
  · rw [hW.alike.findClass]; exact findClass_of_methodNamed Bd.named
  · rw [hh]; exact A
/-- a callee's contract pays the call -/
theorem Ct.pay {z : MethodName} {bytesZ : ByteArray} {mxZ : Nat} {rtZ : Option FieldType} {rm : Room} {as' : Array Value} {QZ : Option Value → Heap → List Addr → Prop} {len W : Nat} {vm0 : Vm} (hM : Ct l Z z bytesZ mxZ rtZ rm EL n0 w [] as' h SL' QZ)
    (hZ : Z.Warmed39 vm0) (hEL : EW Z a0 EL) (H : CHv Z EL vm0 h) (hSf : Sfs Z EL vm0 h SL') {a1 : Array Value} (wc : (Jvm.Cond.code z bytesZ mxZ rtZ).before a1 Z = true) (wz : (Jvm.Cond.initialized z.cls).before a1 Z = true) (hf : rm.frames + 1 ≤ R.frames) (hl : W + (mxZ + 11) + rm.locals ≤ R.locals) :
    BackS l R p e below (s.setVm vm0) args z len W (fun A a => a = as' ∧ A.U.heap = h ∧ A.cells + rm.cells ≤ R.cells ∧ A.slots + rm.slots ≤ R.slots)
      (fun A _ v B => ∃ Ls N, QZ v B.U.heap N ∧ Fr n0 Ls ∧ B.locs = A.locs ++ Ls ∧ B.cells = A.cells + rm.cells ∧ B.slots = A.slots + rm.slots ∧ CHr Z EL vm0 h B.U.vm B.U.heap ∧ Sfs Z EL B.U.vm B.U.heap N ∧ (w = false → (s.setVm vm0).WarmedH B.U.vm)) :=
  BackS.of_freeW (bytes := bytesZ) (maxL := mxZ) (ret := rtZ) (E := fun _ first o t L k n => k = rm.cells ∧ n = rm.slots ∧ (∃ v N, o = .returned v ∧ QZ v t.heap N ∧ Fr n0 L ∧ Sfs Z EL t.vm t.heap N) ∧ CHr Z EL first.vm first.heap t.vm t.heap ∧ (w = false → first.WarmedH t.vm)) hM hf hl
    (fun m meth c A a Y hp => have hU : Z.Warmed39 A.U.vm := wtrans (s := s.setVm vm0) hZ Y.warmed
      ⟨by show (Jvm.Cond.and _ .tt).before a A.U = true; rw [Cond.before_and, mv hU wc]; rfl, mv hU wc, mv hU wz, hp.2.2.1, hp.2.2.2⟩)
    (fun m meth c A a g mk Y hp => have A9 : CHr Z EL vm0 h A.U.vm h := CHv.at (T := A.U) Y hZ hEL H
      ⟨hp.1, wtrans (s := s.setVm vm0) hZ Y.warmed, hp.2.1, A9.1, hSf.chr A9⟩) (fun _ _ _ _ _ _ _ _ _ => trivial)
    (fun _ _ _ _ ⟨v, L, N, h1, h2, h3, h4, h5, h6⟩ => ⟨L, _, _, h6.1, rfl, rfl, ⟨v, N, h1, h2, h3, h5⟩, h4, h6.2⟩)
    (fun m meth c A a g mk v t L k n Y hp _ _ ⟨e1, e2, ⟨v', N, e3, e4, e5, e6⟩, e7, e8⟩ => by
      cases e3; subst e1 e2
      refine ⟨L, N, e4, e5, rfl, rfl, rfl, (CHv.at Y hZ hEL H).trans ?_, e6, fun q => State.WarmedH.trans (s := s.setVm vm0) (t := A.U) Y.warmed (e8 q)⟩
      rw [← hp.2.1]; exact e7)
end Closure
section Rules
abbrev usr (x y : Int32) : Int32 := (x.toUInt32 >>> (y &&& 31).toUInt32).toInt32
def cP : ClassFile.Cond → Int32 → Int32 → Prop
  | .eq, x, y => x = y
  | .ne, x, y => ¬ x = y
  | .lt, x, y => x < y
  | .ge, x, y => ¬ x < y
  | .gt, x, y => y < x
  | .le, x, y => ¬ y < x
def cneg : ClassFile.Cond → ClassFile.Cond
  | .eq => .ne
  | .ne => .eq
  | .lt => .ge
  | .ge => .lt
  | .gt => .le
  | .le => .gt
theorem ic_t {cd : ClassFile.Cond} {x y : Int32} (h : cP cd x y) : if_icmp.holds cd x y = true := by
  cases cd
  · exact (teq h).1
  · exact (feq h).2
  · exact (tlt h).1
  · exact (flt h).2.1
  · exact (tlt h).2.2.1
  · exact (flt h).2.2.2
theorem ic_f {cd : ClassFile.Cond} {x y : Int32} (h : cP (cneg cd) x y) : if_icmp.holds cd x y = false := by
  cases cd
  · exact (feq h).1
  · exact (teq h).2
  · exact (flt h).1
  · exact (tlt h).2.1
  · exact (flt h).2.2.1
  · exact (tlt h).2.2.2
theorem if_ic (cd : ClassFile.Cond) (x : Int32) : ifCond.holds cd x = if_icmp.holds cd x 0 := by cases cd <;> rfl
theorem if_t {cd : ClassFile.Cond} {x : Int32} (h : cP cd x 0) : ifCond.holds cd x = true := (if_ic cd x).trans (ic_t h)
theorem if_f {cd : ClassFile.Cond} {x : Int32} (h : cP (cneg cd) x 0) : ifCond.holds cd x = false := (if_ic cd x).trans (ic_f h)
theorem cP_em (cd : ClassFile.Cond) (x y : Int32) : cP cd x y ∨ cP (cneg cd) x y := by
  cases cd <;> simp only [cP, cneg] <;> first | exact Decidable.em _ | exact (Decidable.em _).symm
variable {l : Launch} {Z : State} {y : MethodName} {bytes : ByteArray} {mx : Nat} {rt : Option FieldType} {R : Room} {EL : List (String × Nat)} {n0 : Nat} {w : Bool} {Q : Option Value → Heap → List Addr → Prop} {h h' : Heap} {kc ks kc' ks' : Nat} {SL SL' : List Addr} {pc pc' pc'' : Nat} {L L' : Array Slot} {S S' : List Value} {a0 a1 : Array Value}
theorem Go.re (q1 : pc = pc') (q2 : L = L') (q3 : S = S') (K : Go l Z y bytes mx rt R EL n0 w Q h kc ks SL pc' L' S') : Go l Z y bytes mx rt R EL n0 w Q h kc ks SL pc L S := by subst q1 q2 q3; exact K
theorem Go.aloadN {k : Fin 4} {v : Value} (hd : decode bytes pc = .ok (.aload_n k, 1)) (hl : L[k.val]? = some (.val v)) (hv : v.isRef = true) (q : pc + 1 = pc') (K : Go l Z y bytes mx rt R EL n0 w Q h kc ks SL pc' L (v :: S)) : Go l Z y bytes mx rt R EL n0 w Q h kc ks SL pc L S := Go.st (fun W t kk => by obtain ⟨⟨hx, hby, -⟩, _, _, X, -⟩ := W; subst q; exact XS.aloadN X.here hx rfl (hb hby hd) hl hv kk) K
theorem Go.aload {k : Nat} {v : Value} (hd : decode bytes pc = .ok (.aload k, 2)) (hl : L[k]? = some (.val v)) (hv : v.isRef = true) (q : pc + 2 = pc') (K : Go l Z y bytes mx rt R EL n0 w Q h kc ks SL pc' L (v :: S)) : Go l Z y bytes mx rt R EL n0 w Q h kc ks SL pc L S := Go.st (fun W t kk => by obtain ⟨⟨hx, hby, -⟩, _, _, X, -⟩ := W; subst q; exact XS.aload X.here hx rfl (hb hby hd) hl hv kk) K
theorem Go.iloadN {k : Fin 4} {v : Int32} (hd : decode bytes pc = .ok (.iload_n k, 1)) (hl : L[k.val]? = some (.val (.int v))) (q : pc + 1 = pc') (K : Go l Z y bytes mx rt R EL n0 w Q h kc ks SL pc' L (.int v :: S)) : Go l Z y bytes mx rt R EL n0 w Q h kc ks SL pc L S := Go.st (fun W t kk => by obtain ⟨⟨hx, hby, -⟩, _, _, X, -⟩ := W; subst q; exact XS.iloadN X.here hx rfl (hb hby hd) hl kk) K
theorem Go.iload {k : Nat} {v : Int32} (hd : decode bytes pc = .ok (.iload k, 2)) (hl : L[k]? = some (.val (.int v))) (q : pc + 2 = pc') (K : Go l Z y bytes mx rt R EL n0 w Q h kc ks SL pc' L (.int v :: S)) : Go l Z y bytes mx rt R EL n0 w Q h kc ks SL pc L S := Go.st (fun W t kk => by obtain ⟨⟨hx, hby, -⟩, _, _, X, -⟩ := W; subst q; exact XS.iload X.here hx rfl (hb hby hd) hl kk) K
theorem Go.lloadN {k : Fin 4} {v : Int64} (hd : decode bytes pc = .ok (.lload_n k, 1)) (hl : L[k.val]? = some (.val (.long v))) (q : pc + 1 = pc') (K : Go l Z y bytes mx rt R EL n0 w Q h kc ks SL pc' L (.long v :: S)) : Go l Z y bytes mx rt R EL n0 w Q h kc ks SL pc L S := Go.st (fun W t kk => by obtain ⟨⟨hx, hby, -⟩, _, _, X, -⟩ := W; subst q; exact XS.lloadN X.here hx rfl (hb hby hd) hl kk) K
theorem Go.lload {k : Nat} {v : Int64} (hd : decode bytes pc = .ok (.lload k, 2)) (hl : L[k]? = some (.val (.long v))) (q : pc + 2 = pc') (K : Go l Z y bytes mx rt R EL n0 w Q h kc ks SL pc' L (.long v :: S)) : Go l Z y bytes mx rt R EL n0 w Q h kc ks SL pc L S := Go.st (fun W t kk => by obtain ⟨⟨hx, hby, -⟩, _, _, X, -⟩ := W; subst q; exact XS.lload X.here hx rfl (hb hby hd) hl kk) K
theorem Go.istoreN {k : Fin 4} {v : Int32} (L' : Array Slot) (hd : decode bytes pc = .ok (.istore_n k, 1)) (hl : storeLocals L k.val (.int v) = some L') (q : pc + 1 = pc') (K : Go l Z y bytes mx rt R EL n0 w Q h kc ks SL pc' L' S) : Go l Z y bytes mx rt R EL n0 w Q h kc ks SL pc L (.int v :: S) := Go.st (fun W t kk => by obtain ⟨⟨hx, hby, -⟩, _, _, X, -⟩ := W; subst q; exact XS.istoreN X.here hx rfl (hb hby hd) rfl hl kk) K
theorem Go.istore {k : Nat} {v : Int32} (L' : Array Slot) (hd : decode bytes pc = .ok (.istore k, 2)) (hl : storeLocals L k (.int v) = some L') (q : pc + 2 = pc') (K : Go l Z y bytes mx rt R EL n0 w Q h kc ks SL pc' L' S) : Go l Z y bytes mx rt R EL n0 w Q h kc ks SL pc L (.int v :: S) := Go.st (fun W t kk => by obtain ⟨⟨hx, hby, -⟩, _, _, X, -⟩ := W; subst q; exact XS.istore X.here hx rfl (hb hby hd) rfl hl kk) K
theorem Go.lstoreN {k : Fin 4} {v : Int64} (L' : Array Slot) (hd : decode bytes pc = .ok (.lstore_n k, 1)) (hl : storeLocals L k.val (.long v) = some L') (q : pc + 1 = pc') (K : Go l Z y bytes mx rt R EL n0 w Q h kc ks SL pc' L' S) : Go l Z y bytes mx rt R EL n0 w Q h kc ks SL pc L (.long v :: S) := Go.st (fun W t kk => by obtain ⟨⟨hx, hby, -⟩, _, _, X, -⟩ := W; subst q; exact XS.lstoreN X.here hx rfl (hb hby hd) rfl hl kk) K
theorem Go.lstore {k : Nat} {v : Int64} (L' : Array Slot) (hd : decode bytes pc = .ok (.lstore k, 2)) (hl : storeLocals L k (.long v) = some L') (q : pc + 2 = pc') (K : Go l Z y bytes mx rt R EL n0 w Q h kc ks SL pc' L' S) : Go l Z y bytes mx rt R EL n0 w Q h kc ks SL pc L (.long v :: S) := Go.st (fun W t kk => by obtain ⟨⟨hx, hby, -⟩, _, _, X, -⟩ := W; subst q; exact XS.lstore X.here hx rfl (hb hby hd) rfl hl kk) K
theorem Go.astoreN {k : Fin 4} {v : Value} (L' : Array Slot) (hd : decode bytes pc = .ok (.astore_n k, 1)) (hv : v.isRef = true) (hl : storeLocals L k.val v = some L') (q : pc + 1 = pc') (K : Go l Z y bytes mx rt R EL n0 w Q h kc ks SL pc' L' S) : Go l Z y bytes mx rt R EL n0 w Q h kc ks SL pc L (v :: S) := Go.st (fun W t kk => by obtain ⟨⟨hx, hby, -⟩, _, _, X, -⟩ := W; subst q; exact XS.astoreN X.here hx rfl (hb hby hd) rfl hv hl kk) K
theorem Go.astore {k : Nat} {v : Value} (L' : Array Slot) (hd : decode bytes pc = .ok (.astore k, 2)) (hv : v.isRef = true) (hl : storeLocals L k v = some L') (q : pc + 2 = pc') (K : Go l Z y bytes mx rt R EL n0 w Q h kc ks SL pc' L' S) : Go l Z y bytes mx rt R EL n0 w Q h kc ks SL pc L (v :: S) := Go.st (fun W t kk => by obtain ⟨⟨hx, hby, -⟩, _, _, X, -⟩ := W; subst q; exact XS.astore X.here hx rfl (hb hby hd) rfl hv hl kk) K
theorem Go.iconst {i : Int} (z : Int32) (hd : decode bytes pc = .ok (.iconst i, 1)) (hz : Int32.ofInt i = z) (q : pc + 1 = pc') (K : Go l Z y bytes mx rt R EL n0 w Q h kc ks SL pc' L (.int z :: S)) : Go l Z y bytes mx rt R EL n0 w Q h kc ks SL pc L S := Go.st (fun W t kk => by obtain ⟨⟨hx, hby, -⟩, _, _, X, -⟩ := W; subst q; subst hz; exact XS.iconst X.here hx rfl (hb hby hd) kk) K
theorem Go.bipush {i : Int} (z : Int32) (hd : decode bytes pc = .ok (.bipush i, 2)) (hz : (Int8.ofInt i).toInt32 = z) (q : pc + 2 = pc') (K : Go l Z y bytes mx rt R EL n0 w Q h kc ks SL pc' L (.int z :: S)) : Go l Z y bytes mx rt R EL n0 w Q h kc ks SL pc L S := Go.st (fun W t kk => by obtain ⟨⟨hx, hby, -⟩, _, _, X, -⟩ := W; subst q; subst hz; exact XS.bipush X.here hx rfl (hb hby hd) kk) K
theorem Go.sipush {i : Int} (z : Int32) (hd : decode bytes pc = .ok (.sipush i, 3)) (hz : (Int16.ofInt i).toInt32 = z) (q : pc + 3 = pc') (K : Go l Z y bytes mx rt R EL n0 w Q h kc ks SL pc' L (.int z :: S)) : Go l Z y bytes mx rt R EL n0 w Q h kc ks SL pc L S := Go.st (fun W t kk => by obtain ⟨⟨hx, hby, -⟩, _, _, X, -⟩ := W; subst q; subst hz; exact XS.sipush X.here hx rfl (hb hby hd) kk) K
theorem Go.lconst {k : Fin 2} (z : Int64) (hd : decode bytes pc = .ok (.lconst k, 1)) (hz : Int64.ofNat k.val = z) (q : pc + 1 = pc') (K : Go l Z y bytes mx rt R EL n0 w Q h kc ks SL pc' L (.long z :: S)) : Go l Z y bytes mx rt R EL n0 w Q h kc ks SL pc L S := Go.st (fun W t kk => by obtain ⟨⟨hx, hby, -⟩, _, _, X, -⟩ := W; subst q; subst hz; exact XS.lconst X.here hx rfl (hb hby hd) kk) K
theorem Go.aconstNull (hd : decode bytes pc = .ok (.aconst_null, 1)) (q : pc + 1 = pc') (K : Go l Z y bytes mx rt R EL n0 w Q h kc ks SL pc' L (.null :: S)) : Go l Z y bytes mx rt R EL n0 w Q h kc ks SL pc L S := Go.st (fun W t kk => by obtain ⟨⟨hx, hby, -⟩, _, _, X, -⟩ := W; subst q; exact XS.aconstNull X.here hx rfl (hb hby hd) kk) K
theorem Go.iadd {x y' : Int32} (hd : decode bytes pc = .ok (.iadd, 1)) (q : pc + 1 = pc') (K : Go l Z y bytes mx rt R EL n0 w Q h kc ks SL pc' L (.int (x + y') :: S)) : Go l Z y bytes mx rt R EL n0 w Q h kc ks SL pc L (.int y' :: .int x :: S) := Go.st (fun W t kk => by obtain ⟨⟨hx, hby, -⟩, _, _, X, -⟩ := W; subst q; exact XS.iadd X.here hx rfl (hb hby hd) rfl kk) K
theorem Go.isub {x y' : Int32} (hd : decode bytes pc = .ok (.isub, 1)) (q : pc + 1 = pc') (K : Go l Z y bytes mx rt R EL n0 w Q h kc ks SL pc' L (.int (x - y') :: S)) : Go l Z y bytes mx rt R EL n0 w Q h kc ks SL pc L (.int y' :: .int x :: S) := Go.st (fun W t kk => by obtain ⟨⟨hx, hby, -⟩, _, _, X, -⟩ := W; subst q; exact XS.isub X.here hx rfl (hb hby hd) rfl kk) K
theorem Go.iand {x y' : Int32} (hd : decode bytes pc = .ok (.iand, 1)) (q : pc + 1 = pc') (K : Go l Z y bytes mx rt R EL n0 w Q h kc ks SL pc' L (.int (x &&& y') :: S)) : Go l Z y bytes mx rt R EL n0 w Q h kc ks SL pc L (.int y' :: .int x :: S) := Go.st (fun W t kk => by obtain ⟨⟨hx, hby, -⟩, _, _, X, -⟩ := W; subst q; exact XS.iand X.here hx rfl (hb hby hd) rfl kk) K
theorem Go.ior {x y' : Int32} (hd : decode bytes pc = .ok (.ior, 1)) (q : pc + 1 = pc') (K : Go l Z y bytes mx rt R EL n0 w Q h kc ks SL pc' L (.int (x ||| y') :: S)) : Go l Z y bytes mx rt R EL n0 w Q h kc ks SL pc L (.int y' :: .int x :: S) := Go.st (fun W t kk => by obtain ⟨⟨hx, hby, -⟩, _, _, X, -⟩ := W; subst q; exact XS.ior X.here hx rfl (hb hby hd) rfl kk) K
theorem Go.ixor {x y' : Int32} (hd : decode bytes pc = .ok (.ixor, 1)) (q : pc + 1 = pc') (K : Go l Z y bytes mx rt R EL n0 w Q h kc ks SL pc' L (.int (x ^^^ y') :: S)) : Go l Z y bytes mx rt R EL n0 w Q h kc ks SL pc L (.int y' :: .int x :: S) := Go.st (fun W t kk => by obtain ⟨⟨hx, hby, -⟩, _, _, X, -⟩ := W; subst q; exact XS.ixor X.here hx rfl (hb hby hd) rfl kk) K
theorem Go.imul {x y' : Int32} (hd : decode bytes pc = .ok (.imul, 1)) (q : pc + 1 = pc') (K : Go l Z y bytes mx rt R EL n0 w Q h kc ks SL pc' L (.int (x * y') :: S)) : Go l Z y bytes mx rt R EL n0 w Q h kc ks SL pc L (.int y' :: .int x :: S) := Go.st (fun W t kk => by obtain ⟨⟨hx, hby, -⟩, _, _, X, -⟩ := W; subst q; exact XS.imul X.here hx rfl (hb hby hd) rfl kk) K
theorem Go.ishl {x y' : Int32} (hd : decode bytes pc = .ok (.ishl, 1)) (q : pc + 1 = pc') (K : Go l Z y bytes mx rt R EL n0 w Q h kc ks SL pc' L (.int (x <<< (y' &&& 31)) :: S)) : Go l Z y bytes mx rt R EL n0 w Q h kc ks SL pc L (.int y' :: .int x :: S) := Go.st (fun W t kk => by obtain ⟨⟨hx, hby, -⟩, _, _, X, -⟩ := W; subst q; exact XS.ishl X.here hx rfl (hb hby hd) rfl kk) K
theorem Go.ishr {x y' : Int32} (hd : decode bytes pc = .ok (.ishr, 1)) (q : pc + 1 = pc') (K : Go l Z y bytes mx rt R EL n0 w Q h kc ks SL pc' L (.int (x >>> (y' &&& 31)) :: S)) : Go l Z y bytes mx rt R EL n0 w Q h kc ks SL pc L (.int y' :: .int x :: S) := Go.st (fun W t kk => by obtain ⟨⟨hx, hby, -⟩, _, _, X, -⟩ := W; subst q; exact XS.ishr X.here hx rfl (hb hby hd) rfl kk) K
theorem Go.iushr {x y' : Int32} (hd : decode bytes pc = .ok (.iushr, 1)) (q : pc + 1 = pc') (K : Go l Z y bytes mx rt R EL n0 w Q h kc ks SL pc' L (.int (usr x y') :: S)) : Go l Z y bytes mx rt R EL n0 w Q h kc ks SL pc L (.int y' :: .int x :: S) := Go.st (fun W t kk => by obtain ⟨⟨hx, hby, -⟩, _, _, X, -⟩ := W; subst q; exact XS.iushr X.here hx rfl (hb hby hd) rfl kk) K
theorem Go.ladd {x y' : Int64} (hd : decode bytes pc = .ok (.ladd, 1)) (q : pc + 1 = pc') (K : Go l Z y bytes mx rt R EL n0 w Q h kc ks SL pc' L (.long (x + y') :: S)) : Go l Z y bytes mx rt R EL n0 w Q h kc ks SL pc L (.long y' :: .long x :: S) := Go.st (fun W t kk => by obtain ⟨⟨hx, hby, -⟩, _, _, X, -⟩ := W; subst q; exact XS.ladd X.here hx rfl (hb hby hd) rfl kk) K
theorem Go.lsub {x y' : Int64} (hd : decode bytes pc = .ok (.lsub, 1)) (q : pc + 1 = pc') (K : Go l Z y bytes mx rt R EL n0 w Q h kc ks SL pc' L (.long (x - y') :: S)) : Go l Z y bytes mx rt R EL n0 w Q h kc ks SL pc L (.long y' :: .long x :: S) := Go.st (fun W t kk => by obtain ⟨⟨hx, hby, -⟩, _, _, X, -⟩ := W; subst q; exact XS.lsub X.here hx rfl (hb hby hd) rfl kk) K
theorem Go.land {x y' : Int64} (hd : decode bytes pc = .ok (.land, 1)) (q : pc + 1 = pc') (K : Go l Z y bytes mx rt R EL n0 w Q h kc ks SL pc' L (.long (x &&& y') :: S)) : Go l Z y bytes mx rt R EL n0 w Q h kc ks SL pc L (.long y' :: .long x :: S) := Go.st (fun W t kk => by obtain ⟨⟨hx, hby, -⟩, _, _, X, -⟩ := W; subst q; exact XS.land X.here hx rfl (hb hby hd) rfl kk) K
theorem Go.lor {x y' : Int64} (hd : decode bytes pc = .ok (.lor, 1)) (q : pc + 1 = pc') (K : Go l Z y bytes mx rt R EL n0 w Q h kc ks SL pc' L (.long (x ||| y') :: S)) : Go l Z y bytes mx rt R EL n0 w Q h kc ks SL pc L (.long y' :: .long x :: S) := Go.st (fun W t kk => by obtain ⟨⟨hx, hby, -⟩, _, _, X, -⟩ := W; subst q; exact XS.lor X.here hx rfl (hb hby hd) rfl kk) K
theorem Go.lxor {x y' : Int64} (hd : decode bytes pc = .ok (.lxor, 1)) (q : pc + 1 = pc') (K : Go l Z y bytes mx rt R EL n0 w Q h kc ks SL pc' L (.long (x ^^^ y') :: S)) : Go l Z y bytes mx rt R EL n0 w Q h kc ks SL pc L (.long y' :: .long x :: S) := Go.st (fun W t kk => by obtain ⟨⟨hx, hby, -⟩, _, _, X, -⟩ := W; subst q; exact XS.lxor X.here hx rfl (hb hby hd) rfl kk) K
theorem Go.lmul {x y' : Int64} (hd : decode bytes pc = .ok (.lmul, 1)) (q : pc + 1 = pc') (K : Go l Z y bytes mx rt R EL n0 w Q h kc ks SL pc' L (.long (x * y') :: S)) : Go l Z y bytes mx rt R EL n0 w Q h kc ks SL pc L (.long y' :: .long x :: S) := Go.st (fun W t kk => by obtain ⟨⟨hx, hby, -⟩, _, _, X, -⟩ := W; subst q; exact XS.lmul X.here hx rfl (hb hby hd) rfl kk) K
theorem Go.irem {x y' : Int32} (hd : decode bytes pc = .ok (.irem, 1)) (hy : y' ≠ 0) (q : pc + 1 = pc') (K : Go l Z y bytes mx rt R EL n0 w Q h kc ks SL pc' L (.int (x % y') :: S)) : Go l Z y bytes mx rt R EL n0 w Q h kc ks SL pc L (.int y' :: .int x :: S) := Go.st (fun W t kk => by obtain ⟨⟨hx, hby, -⟩, _, _, X, -⟩ := W; subst q; exact iremM X hx rfl (hb hby hd) rfl hy kk) K
theorem Go.idiv {x y' : Int32} (hd : decode bytes pc = .ok (.idiv, 1)) (hy : y' ≠ 0) (q : pc + 1 = pc') (K : Go l Z y bytes mx rt R EL n0 w Q h kc ks SL pc' L (.int (x / y') :: S)) : Go l Z y bytes mx rt R EL n0 w Q h kc ks SL pc L (.int y' :: .int x :: S) := Go.st (fun W t kk => by obtain ⟨⟨hx, hby, -⟩, _, _, X, -⟩ := W; subst q; exact XS.idiv X.here hx rfl (hb hby hd) rfl hy kk) K
theorem Go.ineg {x : Int32} (hd : decode bytes pc = .ok (.ineg, 1)) (q : pc + 1 = pc') (K : Go l Z y bytes mx rt R EL n0 w Q h kc ks SL pc' L (.int (-x) :: S)) : Go l Z y bytes mx rt R EL n0 w Q h kc ks SL pc L (.int x :: S) := Go.st (fun W t kk => by obtain ⟨⟨hx, hby, -⟩, _, _, X, -⟩ := W; subst q; exact XS.ineg X.here hx rfl (hb hby hd) rfl kk) K
theorem Go.lcmp {x y' : Int64} (hd : decode bytes pc = .ok (.lcmp, 1)) (q : pc + 1 = pc') (K : Go l Z y bytes mx rt R EL n0 w Q h kc ks SL pc' L (.int (lcmpW x y') :: S)) : Go l Z y bytes mx rt R EL n0 w Q h kc ks SL pc L (.long y' :: .long x :: S) := Go.st (fun W t kk => by obtain ⟨⟨hx, hby, -⟩, _, _, X, -⟩ := W; subst q; exact XS.lcmp X.here hx rfl (hb hby hd) rfl kk) K
theorem Go.dup {x : Value} (hd : decode bytes pc = .ok (.dup, 1)) (hc : x.category = 1) (q : pc + 1 = pc') (K : Go l Z y bytes mx rt R EL n0 w Q h kc ks SL pc' L (x :: x :: S)) : Go l Z y bytes mx rt R EL n0 w Q h kc ks SL pc L (x :: S) := Go.st (fun W t kk => by obtain ⟨⟨hx, hby, -⟩, _, _, X, -⟩ := W; subst q; exact XS.dup X.here hx rfl (hb hby hd) rfl hc kk) K
theorem Go.dupX1 {x x2 : Value} (hd : decode bytes pc = .ok (.dup_x1, 1)) (hc : x.category = 1) (hc' : x2.category = 1) (q : pc + 1 = pc') (K : Go l Z y bytes mx rt R EL n0 w Q h kc ks SL pc' L (x :: x2 :: x :: S)) : Go l Z y bytes mx rt R EL n0 w Q h kc ks SL pc L (x :: x2 :: S) := Go.st (fun W t kk => by obtain ⟨⟨hx, hby, -⟩, _, _, X, -⟩ := W; subst q; exact XS.dupX1 X.here hx rfl (hb hby hd) rfl hc hc' kk) K
theorem Go.pop {x : Value} (hd : decode bytes pc = .ok (.pop, 1)) (hc : x.category = 1) (q : pc + 1 = pc') (K : Go l Z y bytes mx rt R EL n0 w Q h kc ks SL pc' L S) : Go l Z y bytes mx rt R EL n0 w Q h kc ks SL pc L (x :: S) := Go.st (fun W t kk => by obtain ⟨⟨hx, hby, -⟩, _, _, X, -⟩ := W; subst q; exact XS.pop X.here hx rfl (hb hby hd) rfl hc kk) K
theorem Go.iinc {k : Nat} {cst : Int} {x : Int32} (z : Int32) (L' : Array Slot) (hd : decode bytes pc = .ok (.iinc k cst, 3)) (hl : L[k]? = some (.val (.int x))) (hz : x + Int32.ofInt cst = z) (hl' : storeLocals L k (.int z) = some L') (q : pc + 3 = pc') (K : Go l Z y bytes mx rt R EL n0 w Q h kc ks SL pc' L' S) : Go l Z y bytes mx rt R EL n0 w Q h kc ks SL pc L S := Go.st (fun W t kk => by obtain ⟨⟨hx, hby, -⟩, _, _, X, -⟩ := W; subst q; subst hz; exact XS.iinc X.here hx rfl (hb hby hd) hl hl' kk) K
theorem Go.i2b {x : Int32} (hd : decode bytes pc = .ok (.i2b, 1)) (q : pc + 1 = pc') (K : Go l Z y bytes mx rt R EL n0 w Q h kc ks SL pc' L (.int (x.toInt8.toInt32) :: S)) : Go l Z y bytes mx rt R EL n0 w Q h kc ks SL pc L (.int x :: S) := Go.st (fun W t kk => by obtain ⟨⟨hx, hby, -⟩, _, _, X, -⟩ := W; subst q; exact XS.i2b X.here hx rfl (hb hby hd) rfl kk) K
theorem Go.i2c {x : Int32} (hd : decode bytes pc = .ok (.i2c, 1)) (q : pc + 1 = pc') (K : Go l Z y bytes mx rt R EL n0 w Q h kc ks SL pc' L (.int (nar .char x) :: S)) : Go l Z y bytes mx rt R EL n0 w Q h kc ks SL pc L (.int x :: S) := Go.st (fun W t kk => by obtain ⟨⟨hx, hby, -⟩, _, _, X, -⟩ := W; subst q; exact XS.i2c X.here hx rfl (hb hby hd) rfl kk) K
theorem Go.i2s {x : Int32} (hd : decode bytes pc = .ok (.i2s, 1)) (q : pc + 1 = pc') (K : Go l Z y bytes mx rt R EL n0 w Q h kc ks SL pc' L (.int (x.toInt16.toInt32) :: S)) : Go l Z y bytes mx rt R EL n0 w Q h kc ks SL pc L (.int x :: S) := Go.st (fun W t kk => by obtain ⟨⟨hx, hby, -⟩, _, _, X, -⟩ := W; subst q; exact XS.i2s X.here hx rfl (hb hby hd) rfl kk) K
theorem Go.i2l {x : Int32} (hd : decode bytes pc = .ok (.i2l, 1)) (q : pc + 1 = pc') (K : Go l Z y bytes mx rt R EL n0 w Q h kc ks SL pc' L (.long x.toInt64 :: S)) : Go l Z y bytes mx rt R EL n0 w Q h kc ks SL pc L (.int x :: S) := Go.st (fun W t kk => by obtain ⟨⟨hx, hby, -⟩, _, _, X, -⟩ := W; subst q; exact XS.i2l X.here hx rfl (hb hby hd) rfl kk) K
theorem Go.l2i {x : Int64} (hd : decode bytes pc = .ok (.l2i, 1)) (q : pc + 1 = pc') (K : Go l Z y bytes mx rt R EL n0 w Q h kc ks SL pc' L (.int x.toInt32 :: S)) : Go l Z y bytes mx rt R EL n0 w Q h kc ks SL pc L (.long x :: S) := Go.st (fun W t kk => by obtain ⟨⟨hx, hby, -⟩, _, _, X, -⟩ := W; subst q; exact XS.l2i X.here hx rfl (hb hby hd) rfl kk) K
theorem Go.goto {o : Int} (hd : decode bytes pc = .ok (.goto o, 3)) (ho : 0 ≤ (pc : Int) + o) (hp : ((pc : Int) + o).toNat = pc') (K : Go l Z y bytes mx rt R EL n0 w Q h kc ks SL pc' L S) : Go l Z y bytes mx rt R EL n0 w Q h kc ks SL pc L S := Go.st (fun W t kk => by obtain ⟨⟨hx, hby, -⟩, _, _, X, -⟩ := W; exact XS.goto X.here hx rfl rfl (hb hby hd) ho hp kk) K
theorem Go.ifT {cd : ClassFile.Cond} {x : Int32} {o : Int} (hd : decode bytes pc = .ok (.ifCond cd o, 3)) (hc : cP cd x 0) (ho : 0 ≤ (pc : Int) + o) (hp : ((pc : Int) + o).toNat = pc') (K : Go l Z y bytes mx rt R EL n0 w Q h kc ks SL pc' L S) : Go l Z y bytes mx rt R EL n0 w Q h kc ks SL pc L (.int x :: S) := Go.st (fun W t kk => by obtain ⟨⟨hx, hby, -⟩, _, _, X, -⟩ := W; exact XS.ifYes X.here hx rfl rfl (hb hby hd) rfl (if_t hc) ho hp kk) K
theorem Go.ifF {cd : ClassFile.Cond} {x : Int32} {o : Int} (hd : decode bytes pc = .ok (.ifCond cd o, 3)) (hc : cP (cneg cd) x 0) (q : pc + 3 = pc') (K : Go l Z y bytes mx rt R EL n0 w Q h kc ks SL pc' L S) : Go l Z y bytes mx rt R EL n0 w Q h kc ks SL pc L (.int x :: S) := Go.st (fun W t kk => by obtain ⟨⟨hx, hby, -⟩, _, _, X, -⟩ := W; subst q; exact XS.ifNo X.here hx rfl (hb hby hd) rfl (if_f hc) kk) K
theorem Go.icmpT {cd : ClassFile.Cond} {x x2 : Int32} {o : Int} (hd : decode bytes pc = .ok (.if_icmp cd o, 3)) (hc : cP cd x x2) (ho : 0 ≤ (pc : Int) + o) (hp : ((pc : Int) + o).toNat = pc') (K : Go l Z y bytes mx rt R EL n0 w Q h kc ks SL pc' L S) : Go l Z y bytes mx rt R EL n0 w Q h kc ks SL pc L (.int x2 :: .int x :: S) := Go.st (fun W t kk => by obtain ⟨⟨hx, hby, -⟩, _, _, X, -⟩ := W; exact XS.icmpYes X.here hx rfl rfl (hb hby hd) rfl (ic_t hc) ho hp kk) K
theorem Go.icmpF {cd : ClassFile.Cond} {x x2 : Int32} {o : Int} (hd : decode bytes pc = .ok (.if_icmp cd o, 3)) (hc : cP (cneg cd) x x2) (q : pc + 3 = pc') (K : Go l Z y bytes mx rt R EL n0 w Q h kc ks SL pc' L S) : Go l Z y bytes mx rt R EL n0 w Q h kc ks SL pc L (.int x2 :: .int x :: S) := Go.st (fun W t kk => by obtain ⟨⟨hx, hby, -⟩, _, _, X, -⟩ := W; subst q; exact XS.icmpNo X.here hx rfl (hb hby hd) rfl (ic_f hc) kk) K
theorem Go.ifnullT {o : Int} (hd : decode bytes pc = .ok (.ifnull o, 3)) (ho : 0 ≤ (pc : Int) + o) (hp : ((pc : Int) + o).toNat = pc') (K : Go l Z y bytes mx rt R EL n0 w Q h kc ks SL pc' L S) : Go l Z y bytes mx rt R EL n0 w Q h kc ks SL pc L (.null :: S) := Go.st (fun W t kk => by obtain ⟨⟨hx, hby, -⟩, _, _, X, -⟩ := W; exact XS.ifnullYes X.here hx rfl rfl (hb hby hd) rfl ho hp kk) K
theorem Go.ifnullF {o : Int} {b : Addr} (hd : decode bytes pc = .ok (.ifnull o, 3)) (q : pc + 3 = pc') (K : Go l Z y bytes mx rt R EL n0 w Q h kc ks SL pc' L S) : Go l Z y bytes mx rt R EL n0 w Q h kc ks SL pc L (.ref b :: S) := Go.st (fun W t kk => by obtain ⟨⟨hx, hby, -⟩, _, _, X, -⟩ := W; subst q; exact XS.ifnullNo X.here hx rfl (hb hby hd) rfl kk) K
theorem Go.ifnonnullT {o : Int} {b : Addr} (hd : decode bytes pc = .ok (.ifnonnull o, 3)) (ho : 0 ≤ (pc : Int) + o) (hp : ((pc : Int) + o).toNat = pc') (K : Go l Z y bytes mx rt R EL n0 w Q h kc ks SL pc' L S) : Go l Z y bytes mx rt R EL n0 w Q h kc ks SL pc L (.ref b :: S) := Go.st (fun W t kk => by obtain ⟨⟨hx, hby, -⟩, _, _, X, -⟩ := W; exact XS.ifnonnullYes X.here hx rfl rfl (hb hby hd) rfl ho hp kk) K
theorem Go.ifnonnullF {o : Int} (hd : decode bytes pc = .ok (.ifnonnull o, 3)) (q : pc + 3 = pc') (K : Go l Z y bytes mx rt R EL n0 w Q h kc ks SL pc' L S) : Go l Z y bytes mx rt R EL n0 w Q h kc ks SL pc L (.null :: S) := Go.st (fun W t kk => by obtain ⟨⟨hx, hby, -⟩, _, _, X, -⟩ := W; subst q; exact XS.ifnonnullNo X.here hx rfl (hb hby hd) rfl kk) K
theorem Go.acmp {cd : ClassFile.ACond} {x x2 : Value} {o : Int} (same : Bool) (hd : decode bytes pc = .ok (.if_acmp cd o, 3)) (h1 : x.isRef = true) (h2 : x2.isRef = true) (hq : decide (x = x2) = same) (ho : 0 ≤ (pc : Int) + o) (hp : pc' = if acV cd same = true then ((pc : Int) + o).toNat else pc + 3) (K : Go l Z y bytes mx rt R EL n0 w Q h kc ks SL pc' L S) : Go l Z y bytes mx rt R EL n0 w Q h kc ks SL pc L (x2 :: x :: S) := Go.st (fun W t kk => by obtain ⟨⟨hx, hby, -⟩, _, _, X, -⟩ := W; exact RoadKit.acmp X hx rfl h1 h2 rfl (hb hby hd) rfl hq ho hp kk) K
theorem Go.st1 {n : Nat} (q : pc + n = pc') (hst : ∀ {p : Program} {e : Env} {s : State} {m : MethodId} {args : Array Value} {below : List Frame} {meth : Method} {c : Code} {T : State} {locs : List Loc}, Stand p l e R (s.setVm T.vm) m args below meth c T locs kc ks → T.heap = h → p.tables.exec = Jvm.exec → c.code = bytes → Z.Warmed39 T.vm → T.vm.findClass y.cls = some m.cls → ∀ t, Steps p.tables e below (T.setTop (mkF m (pc + n) L' S')) t → Steps p.tables e below (T.setTop (mkF m pc L S)) t)
    (K : Go l Z y bytes mx rt R EL n0 w Q h kc ks SL pc' L' S') : Go l Z y bytes mx rt R EL n0 w Q h kc ks SL pc L S := by
  subst q
  exact Go.st (fun W t kk => by
    obtain ⟨⟨hx, hby, -⟩, _, _, X, e1, -, -, hZ, hown, -⟩ := W
    exact hst X e1 hx hby hZ hown t kk) K
/-- both ways of a branch -/
theorem Go.icmp {cd : ClassFile.Cond} {x x2 : Int32} {o : Int} (hd : decode bytes pc = .ok (.if_icmp cd o, 3)) (ho : 0 ≤ (pc : Int) + o) (hp : ((pc : Int) + o).toNat = pc') (q : pc + 3 = pc'') (Kt : cP cd x x2 → Go l Z y bytes mx rt R EL n0 w Q h kc ks SL pc' L S) (Kf : cP (cneg cd) x x2 → Go l Z y bytes mx rt R EL n0 w Q h kc ks SL pc'' L S) : Go l Z y bytes mx rt R EL n0 w Q h kc ks SL pc L (.int x2 :: .int x :: S) :=
  (cP_em cd x x2).elim (fun hc => Go.icmpT hd hc ho hp (Kt hc)) (fun hc => Go.icmpF hd hc q (Kf hc))
theorem Go.ifc {cd : ClassFile.Cond} {x : Int32} {o : Int} (hd : decode bytes pc = .ok (.ifCond cd o, 3)) (ho : 0 ≤ (pc : Int) + o) (hp : ((pc : Int) + o).toNat = pc') (q : pc + 3 = pc'') (Kt : cP cd x 0 → Go l Z y bytes mx rt R EL n0 w Q h kc ks SL pc' L S) (Kf : cP (cneg cd) x 0 → Go l Z y bytes mx rt R EL n0 w Q h kc ks SL pc'' L S) : Go l Z y bytes mx rt R EL n0 w Q h kc ks SL pc L (.int x :: S) :=
  (cP_em cd x 0).elim (fun hc => Go.ifT hd hc ho hp (Kt hc)) (fun hc => Go.ifF hd hc q (Kf hc))
theorem Go.ldcI {index : Nat} {z : Int32} (hd : decode bytes pc = .ok (.ldc index, 2)) (wd : (Jvm.Cond.constant y.cls index z).before a1 Z = true) (q : pc + 2 = pc') (K : Go l Z y bytes mx rt R EL n0 w Q h kc ks SL pc' L (.int z :: S)) : Go l Z y bytes mx rt R EL n0 w Q h kc ks SL pc L S :=
  Go.st1 q (fun X e1 hx hby hZ hown t kk => X.ldcInt hx hown (mv (s := State.setVm _ _) hZ wd) (g := mkF _ pc L S) rfl (hb hby hd) t kk) K
theorem Go.ldc2J {index : Nat} {z : Int64} (hd : decode bytes pc = .ok (.ldc2_w index, 3)) (wd : (Jvm.Cond.constantLong y.cls index z).before a1 Z = true) (q : pc + 3 = pc') (K : Go l Z y bytes mx rt R EL n0 w Q h kc ks SL pc' L (.long z :: S)) : Go l Z y bytes mx rt R EL n0 w Q h kc ks SL pc L S :=
  Go.st1 q (fun X e1 hx hby hZ hown t kk => X.ldc2Long hx hown (mv (s := State.setVm _ _) hZ wd) (g := mkF _ pc L S) rfl (hb hby hd) t kk) K
theorem Go.getF {R0 O n d host : String} {index : Nat} {a : Addr} {v : Value} (hd : decode bytes pc = .ok (.getfield index, 3)) (wd : (Jvm.Cond.fieldLink y.cls index R0 n d).before a1 Z = true ∨ (Jvm.Cond.fieldLinkNest y.cls index R0 n d host).before a1 Z = true) (via : Via Z R0 O n d) (F : Fld Z h a O n d v) (q : pc + 3 = pc')
    (K : Go l Z y bytes mx rt R EL n0 w Q h kc ks SL pc' L (v :: S)) : Go l Z y bytes mx rt R EL n0 w Q h kc ks SL pc L (.ref a :: S) := by
  intro p e s m args below meth c T W
  subst q
  have W0 := W
  obtain ⟨⟨hx, hby, -⟩, k0, locs, X, e1, -, -, hZ, hown, hC, N, -, hSf⟩ := W
  obtain ⟨T', X', e', st⟩ := RoadKit.getF X hx hZ hown wd via e1 F (g := mkF m pc L (.ref a :: S)) rfl rfl (hb hby hd)
  obtain ⟨s₂, o, st2, r⟩ := K p e s m args below meth c T' (W0.next X' e' (CHr.refl hC.1) N hSf)
  exact ⟨s₂, o, st _ st2, r⟩
theorem Go.getS {R0 O n d host : String} {index : Nat} {v : Value} (hd : decode bytes pc = .ok (.getstatic index, 3)) (wd : (Jvm.Cond.fieldLink y.cls index R0 n d).before a1 Z = true ∨ (Jvm.Cond.fieldLinkNest y.cls index R0 n d host).before a1 Z = true) (via : Via Z R0 O n d) (F : Sta Z h O n d v) (q : pc + 3 = pc')
    (K : Go l Z y bytes mx rt R EL n0 w Q h kc ks SL pc' L (v :: S)) : Go l Z y bytes mx rt R EL n0 w Q h kc ks SL pc L S := by
  intro p e s m args below meth c T W
  subst q
  have W0 := W
  obtain ⟨⟨hx, hby, -⟩, k0, locs, X, e1, -, -, hZ, hown, hC, N, -, hSf⟩ := W
  obtain ⟨T', X', e', st⟩ := RoadKit.getS2 X hx hZ hown wd via e1 F (g := mkF m pc L S) rfl (hb hby hd)
  obtain ⟨s₂, o, st2, r⟩ := K p e s m args below meth c T' (W0.next X' e' (CHr.refl hC.1) N hSf)
  exact ⟨s₂, o, st _ st2, r⟩
/-- the cell at a is no literal's -/
def Sf (Z : State) (EL : List (String × Nat)) (SL : List Addr) (h : Heap) (a : Addr) : Prop := ∀ vm, Z.Warmed39 vm → Sfs Z EL vm h SL → Safe Z EL vm h a
theorem Sf.exa {a : Addr} {C : String} (E : Exa Z h a C) (h1 : C ≠ "java/lang/String") (h2 : C ≠ "[B") : Sf Z EL SL h a := fun vm hZ _ => Safe.exa hZ.alike E h1 h2
theorem Sf.mem {a : Addr} (hm : a ∈ SL) : Sf Z EL SL h a := fun vm _ F => (F a hm).2
theorem Sf.nil {a : Addr} : Sf Z [] SL h a := fun vm _ _ B => by obtain ⟨p, hp, -⟩ := B; cases hp
theorem Sf.arr {a : Addr} {cl : Cell} {ty : FieldType} (A : Arr Z h a cl ty) (ht : ty ≠ .byte) : Sf Z EL SL h a := fun vm hZ _ => Safe.arr hZ.alike A ht
theorem Go.putF {R0 O n d host C : String} {index kk : Nat} {ty : FieldType} {a : Addr} {v old : Value} (hd : decode bytes pc = .ok (.putfield index, 3)) (wd : (Jvm.Cond.fieldLink y.cls index R0 n d).before a1 Z = true ∨ (Jvm.Cond.fieldLinkNest y.cls index R0 n d host).before a1 Z = true) (via : Via Z R0 O n d) (F : Fld Z h a O n d old) (E : Exa Z h a C)
    (Ly : (Jvm.Cond.lays C O n d).before a1 Z = true ∨ ((Jvm.Cond.laysFinal C O n d).before a1 Z = true ∧ y.cls = O ∧ y.name = "<init>")) (wi : (Jvm.Cond.instantiable C kk).before a1 Z = true) (hty : parseFieldDescriptor d = some ty) (hn : narrow ty v = v) (hf : fits ty v = true) (hsafe : Sf Z EL SL h a) (ha : n0 ≤ a) (q : pc + 3 = pc')
    (K : ∀ h', Wr h h' a (RoadKit.slotOf Z O n d) v → Go l Z y bytes mx rt R EL n0 w Q h' kc ks SL pc' L S) : Go l Z y bytes mx rt R EL n0 w Q h kc ks SL pc L (v :: .ref a :: S) := by
  intro p e s m args below meth c T W
  subst q
  have W0 := W
  obtain ⟨⟨hx, hby, -, -, -, hnm, -⟩, k0, locs, X, e1, -, -, hZ, hown, hC, N, -, hSf⟩ := W
  obtain ⟨T', h', X', e', Wr', st⟩ := RoadKit.putF X hx hZ hown wd via e1 F E (Ly.imp id fun q => ⟨q.1, q.2.1, hnm.trans q.2.2⟩) wi hty hn hf (g := mkF m pc L (v :: .ref a :: S)) rfl rfl (hb hby hd)
  have A := CHr.wr Wr' (hsafe _ hZ hSf) hC.1
  obtain ⟨s₂, o, st2, r⟩ := K h' Wr' p e s m args below meth c T' (W0.next X' e' A (Fr.snoc X' N ha) (hSf.chr A))
  exact ⟨s₂, o, st _ st2, r⟩
theorem Go.newO {C : String} {index n : Nat} (hd : decode bytes pc = .ok (.new index, 3)) (wd : (Jvm.Cond.classLink y.cls index C).before a1 Z = true) (wi : (Jvm.Cond.instantiable C n).before a1 Z = true) (wz : (Jvm.Cond.initialized C).before a1 Z = true) (hc : kc + 1 ≤ R.cells) (hl : ks + n ≤ R.slots) (q : pc + 3 = pc')
    (K : ∀ (a : Addr) (h' : Heap), a = h.size → Ext h h' → Exa Z h' a C → (∀ {O nm d : String} {ty : FieldType}, Laid Z a1 C O nm d → parseFieldDescriptor d = some ty → Fld Z h' a O nm d (defaultValue ty)) → Go l Z y bytes mx rt R EL n0 w Q h' (kc + 1) (ks + n) (a :: SL) pc' L (.ref a :: S)) : Go l Z y bytes mx rt R EL n0 w Q h kc ks SL pc L S := by
  intro p e s m args below meth c T W
  subst q
  have W0 := W
  obtain ⟨⟨hx, hby, -⟩, k0, locs, X, e1, -, -, hZ, hown, hC, N, -, hSf⟩ := W
  obtain ⟨T', h', X', e', E, A, D, -, st⟩ := RoadKit.newO X hx hZ hown wd wi wz e1 (g := mkF m pc L S) rfl (hb hby hd) hc hl
  have B := CHr.ext (vm := T.vm) (EL := EL) (Z := Z) E hC.1
  have hS2 : Sfs Z EL T.vm h' (h.size :: SL) := fun x hx' => by
    rcases List.mem_cons.mp hx' with rfl | q
    · exact ⟨A.lt, Safe.ext E hC.1 (Safe.new (Nat.le_refl _))⟩
    · exact hSf.chr B x q
  obtain ⟨s₂, o, st2, r⟩ := K h.size h' rfl E A D p e s m args below meth c T' (W0.next X' e' B N hS2)
  exact ⟨s₂, o, st _ st2, r⟩
theorem Go.newP {aty : ArrayType} {n : Int32} (cap : Nat) (hd : decode bytes pc = .ok (.newarray aty, 2)) (wd : (Jvm.Cond.arrayClass (newarray.typeOf aty)).before a1 Z = true) (hn : ¬ n < 0) (hcap : n.toNatClampNeg ≤ cap) (hb' : cap * 8 ≤ 536870912) (hc : kc + 1 ≤ R.cells) (hl : ks + cap ≤ R.slots) (q : pc + 2 = pc')
    (K : ∀ (a : Addr) (h' : Heap) (cA : ClassId), a = h.size → Ext h h' → Arr Z h' a (newA cA (newarray.typeOf aty) n) (newarray.typeOf aty) → Go l Z y bytes mx rt R EL n0 w Q h' (kc + 1) (ks + cap) (a :: SL) pc' L (.ref a :: S)) : Go l Z y bytes mx rt R EL n0 w Q h kc ks SL pc L (.int n :: S) := by
  intro p e s m args below meth c T W
  subst q
  have W0 := W
  obtain ⟨⟨hx, hby, -⟩, k0, locs, X, e1, -, -, hZ, hown, hC, N, -, hSf⟩ := W
  obtain ⟨T', h', cA, X', e', E, A, st⟩ := RoadKit.newP X hx hZ wd e1 (g := mkF m pc L (.int n :: S)) rfl (hb hby hd) rfl hn hcap hb' hc hl
  have B := CHr.ext (vm := T.vm) (EL := EL) (Z := Z) E hC.1
  have hS2 : Sfs Z EL T.vm h' (h.size :: SL) := fun x hx' => by
    rcases List.mem_cons.mp hx' with rfl | q
    · exact ⟨A.lt, Safe.ext E hC.1 (Safe.new (Nat.le_refl _))⟩
    · exact hSf.chr B x q
  obtain ⟨s₂, o, st2, r⟩ := K h.size h' cA rfl E A p e s m args below meth c T' (W0.next X' e' B N hS2)
  exact ⟨s₂, o, st _ st2, r⟩
theorem Go.initO {index : Nat} {a : Addr} (hd : decode bytes pc = .ok (.invokespecial index, 3)) (w1 : (Jvm.Cond.methodLink y.cls index Lib.objectInit).before a1 Z = true) (w2 : (Jvm.Cond.instanceMethod Lib.objectInit).before a1 Z = true) (w3 : (Jvm.Cond.code Lib.objectInit ⟨#[0xb1]⟩ 1 none).before a1 Z = true) (hL : L.size = mx) (hf : 1 ≤ R.frames) (Wd : Nat) (hW : (S.map fun v => v.category).sum = Wd) (hl : Wd + 12 ≤ R.locals) (q : pc + 3 = pc')
    (K : Go l Z y bytes mx rt R EL n0 w Q h kc ks SL pc' L S) : Go l Z y bytes mx rt R EL n0 w Q h kc ks SL pc L (.ref a :: S) := by
  intro p e s m args below meth c T W
  subst q
  have W0 := W
  obtain ⟨⟨hx, hby, hml, -⟩, k0, locs, X, e1, -, -, hZ, hown, hC, N, -, hSf⟩ := W
  obtain ⟨T', X', e', st⟩ := RoadKit.initO X hx hZ hown w1 w2 w3 e1 (g := mkF m pc L (.ref a :: S)) rfl (hL.trans hml.symm) rfl (hb hby hd) hf (W := Wd) (by show 2 * 0 + _ ≤ _; omega) hl
  obtain ⟨s₂, o, st2, r⟩ := K p e s m args below meth c T' (W0.next X' e' (CHr.refl hC.1) N hSf)
  exact ⟨s₂, o, st _ st2, r⟩
/-- a String constant, unread -/
theorem Go.ldcO {index : Nat} {text : String} (n : Nat) (hd : decode bytes pc = .ok (.ldc index, 2)) (hw : w = true) (wd : (Jvm.Cond.stringLink y.cls index text).before a1 Z = true) (wS : ∀ d ∈ Bundle.stringAtoms, d.before a1 Z = true) (hn : 4 * text.toList.length ≤ n) (hbig : n ≤ 536870912) (hc : kc + 2 ≤ R.cells) (hl : ks + (n + 4) ≤ R.slots) (q : pc + 2 = pc') (hEL : EW Z a1 EL)
    (K : ∀ (a : Addr) (h' : Heap), Ext h h' → Go l Z y bytes mx rt R EL n0 w Q h' (kc + 2) (ks + (n + 4)) SL pc' L (.ref a :: S)) : Go l Z y bytes mx rt R EL n0 w Q h kc ks SL pc L S := by
  intro p e s m args below meth c T W
  subst q
  have W0 := W
  obtain ⟨⟨hx, hby, -⟩, k0, locs, X, e1, hS, hk, hZ, hown, hC, N, -, hSf⟩ := W
  obtain ⟨a, T', h', k1, X', e', E, hS', hk', hZ', hown', hC', -, st⟩ := RoadKit.ldcOH (s := s.setVm T.vm) (vm0 := T.vm) X hx hZ hown wd wS e1 (k0 := h.size) ((State.WarmedH.refl _).since _) (Nat.le_refl _) hEL hC.1 (g := mkF m pc L S) rfl (hb hby hd) hn hbig hc hl
  have hS2 : (s.setVm T.vm).Since T'.vm h'.size := ⟨hS'.1, fun j p hj hp => by obtain ⟨z1, z2⟩ := hS'.2 j p hj hp; exact ⟨z1, Nat.lt_of_lt_of_le z2 hk'⟩⟩
  obtain ⟨s₂, o, st2, r⟩ := K a h' E p e s m args below meth c T' (W0.nextS X' e' hS2 E.1 (Nat.le_refl _) hC' N (fun q => by rw [hw] at q; cases q) (hSf.chr hC'))
  exact ⟨s₂, o, st _ st2, r⟩
/-- a String constant, read -/
theorem Go.ldcR {index : Nat} {text : String} (n : Nat) {vs : List Value} {z : Int32} (hd : decode bytes pc = .ok (.ldc index, 2)) (hw : w = true) (wd : (Jvm.Cond.stringLink y.cls index text).before a1 Z = true) (wS : ∀ d ∈ Bundle.stringAtoms, d.before a1 Z = true) (hn : 4 * text.toList.length ≤ n) (hbig : n ≤ 536870912) (hc : kc + 2 ≤ R.cells) (hl : ks + (n + 4) ≤ R.slots) (q : pc + 2 = pc') (hEL : EW Z a1 EL) (hmem : (y.cls, index) ∈ EL)
    (ht : (∀ c ∈ text.toList, c.toNat < 256) ∧ text.toList.map (fun c => Value.int (Jvm.Lit.byteI c.toNat.toUInt16)) = vs) (hz : ¬ z < 0) (hzl : z.toNatClampNeg = vs.length)
    (K : ∀ (a : Addr) (h' : Heap) (b : Addr) (k : ClassId), Ext h h' → Exa Z h' a "java/lang/String" → Fld Z h' a "java/lang/String" "coder" "B" (.int 0) → Fld Z h' a "java/lang/String" "value" "[B" (.ref b) → Arv Z h' b k .byte z vs (.int 0) → (∀ x ∈ SL, x ≠ a ∧ x ≠ b) → Go l Z y bytes mx rt R EL n0 w Q h' (kc + 2) (ks + (n + 4)) SL pc' L (.ref a :: S)) : Go l Z y bytes mx rt R EL n0 w Q h kc ks SL pc L S := by
  intro p e s m args below meth c T W
  subst q
  have W0 := W
  obtain ⟨⟨hx, hby, -⟩, k0, locs, X, e1, hS, hk, hZ, hown, hC, N, -, hSf⟩ := W
  obtain ⟨a, T', h', k1, b, k, X', e', E, hS', hk', hZ', hown', E1, E2, E3, E4, -, -, hC', -, hne, st⟩ := RoadKit.ldcCH (s := s.setVm T.vm) (vm0 := T.vm) X hx hZ hown wd wS e1 (k0 := h.size) ((State.WarmedH.refl _).since _) (Nat.le_refl _) hEL hmem hC.1 ht hz hzl (g := mkF m pc L S) rfl (hb hby hd) hn hbig hc hl
  have hS2 : (s.setVm T.vm).Since T'.vm h'.size := ⟨hS'.1, fun j p hj hp => by obtain ⟨z1, z2⟩ := hS'.2 j p hj hp; exact ⟨z1, Nat.lt_of_lt_of_le z2 hk'⟩⟩
  obtain ⟨s₂, o, st2, r⟩ := K a h' b k E E1 E2 E3 E4 (fun x hx' => hne x ((hSf.chr hC') x hx').2) p e s m args below meth c T' (W0.nextS X' e' hS2 E.1 (Nat.le_refl _) hC' N (fun q => by rw [hw] at q; cases q) (hSf.chr hC'))
  exact ⟨s₂, o, st _ st2, r⟩
section Calls
variable {z yy : MethodName} {bytesZ : ByteArray} {mxZ : Nat} {rtZ : Option FieldType} {rm : Room} {QZ : Option Value → Heap → List Addr → Prop} {argsL rest : List Value} {index : Nat}
theorem Go.callS (hM : Ct l Z z bytesZ mxZ rtZ rm EL n0 w [] argsL.toArray h SL' QZ) (hd : decode bytes pc = .ok (.invokestatic index, 3)) (w1 : (Jvm.Cond.methodLink y.cls index z).before a1 Z = true) (w2 : (Jvm.Cond.static z).before a1 Z = true) (w3 : (Jvm.Cond.initialized z.cls).before a1 Z = true) (w4 : (Jvm.Cond.code z bytesZ mxZ rtZ).before a1 Z = true)
    (hy : z.cls ≠ "java/lang/invoke/MethodHandle" ∧ z.cls ≠ "java/lang/invoke/VarHandle") (hlen : ∀ sig, parseMethodDescriptor z.desc = some sig → argsL.length = sig.parameters.length) (hst : S = argsL.reverse ++ rest) (Wd : Nat) (hW : (rest.map fun v => v.category).sum = Wd) (hL : L.size = mx) (hf : rm.frames + 1 ≤ R.frames) (hl : Wd + (mxZ + 11) + rm.locals ≤ R.locals) (hc : kc + rm.cells ≤ R.cells) (hs : ks + rm.slots ≤ R.slots) (hSL : ∀ x ∈ SL', x ∈ SL) (q : pc + 3 = pc')
    (K : ∀ v h' N, QZ v h' N → h.size ≤ h'.size → Go l Z y bytes mx rt R EL n0 w Q h' (kc + rm.cells) (ks + rm.slots) (N ++ SL) pc' L (v.toList ++ rest)) : Go l Z y bytes mx rt R EL n0 w Q h kc ks SL pc L S := by
  intro p e s m args below meth c T W
  subst q
  have W0 := W
  obtain ⟨⟨hx, hby, hml, -, -, -, a2, hEW⟩, k0, locs, X, e1, hS, hk, hZ, hown, hC, N, -, hSf⟩ := W
  obtain ⟨v, vm₁, ⟨T', Lt, kt, nt⟩, -, X', hS', hgr, ⟨Ls, N', hQ, hFr, l1, l2, l3, hC', hSf', hw'⟩, st⟩ := RoadKit.callSS X hx hown (mvT (s := s.setVm T.vm) hZ w1) (mvT (s := s.setVm T.vm) hZ w2) (mvT (s := s.setVm T.vm) hZ w3) (mvT (s := s.setVm T.vm) hZ w4) hy (Ct.pay (W := Wd) hM hZ hEW hC.1 (hSf.mono hSL) w4 w3 hf hl) (g := mkF m pc L S) rfl (hL.trans hml.symm) (argsL := argsL) (rest := rest) hlen hst (by show 2 * 0 + _ ≤ _; omega) (hb hby hd) (fun _ _ => ⟨rfl, e1, hc, hs⟩)
  dsimp only [Pt.U, Pt.locs, Pt.cells, Pt.slots] at X' l1 l2 l3 st hQ hC' hSf' hw' hgr hS'
  subst l1 l2 l3
  have hS2 : Sfs Z EL T'.vm T'.heap (N' ++ SL) := fun x hx' => (List.mem_append.mp hx').elim (hSf' x) (hSf.chr hC' x)
  obtain ⟨s₂, o, st2, r⟩ := K v _ N' hQ hC'.2.1 p e s m args below meth c T' (W0.nextS X' rfl hS' hC'.2.1 (Nat.le_refl _) hC' (N.app hFr) hw' hS2)
  exact ⟨s₂, o, st.trans st2, r⟩
theorem Go.callN {a : Addr} (hM : Ct l Z z bytesZ mxZ none rm EL n0 w [] (.ref a :: argsL).toArray h SL' QZ) (hd : decode bytes pc = .ok (.invokespecial index, 3)) (hz1 : z.name = "<init>") (w1 : (Jvm.Cond.methodLink y.cls index z).before a1 Z = true) (w2 : (Jvm.Cond.instanceMethod z).before a1 Z = true) (w3 : (Jvm.Cond.initialized z.cls).before a1 Z = true) (w4 : (Jvm.Cond.code z bytesZ mxZ none).before a1 Z = true)
    (hy : z.cls ≠ "java/lang/invoke/MethodHandle" ∧ z.cls ≠ "java/lang/invoke/VarHandle") (hlen : ∀ sig, parseMethodDescriptor z.desc = some sig → argsL.length = sig.parameters.length) (hst : S = argsL.reverse ++ .ref a :: rest) (Wd : Nat) (hW : (rest.map fun v => v.category).sum = Wd) (hL : L.size = mx) (hf : rm.frames + 1 ≤ R.frames) (hl : Wd + (mxZ + 11) + rm.locals ≤ R.locals) (hc : kc + rm.cells ≤ R.cells) (hs : ks + rm.slots ≤ R.slots) (hSL : ∀ x ∈ SL', x ∈ SL) (q : pc + 3 = pc')
    (K : ∀ v h' N, QZ v h' N → h.size ≤ h'.size → Go l Z y bytes mx rt R EL n0 w Q h' (kc + rm.cells) (ks + rm.slots) (N ++ SL) pc' L (v.toList ++ rest)) : Go l Z y bytes mx rt R EL n0 w Q h kc ks SL pc L S := by
  intro p e s m args below meth c T W
  subst q
  have W0 := W
  obtain ⟨⟨hx, hby, hml, -, -, -, a2, hEW⟩, k0, locs, X, e1, hS, hk, hZ, hown, hC, N, -, hSf⟩ := W
  obtain ⟨v, vm₁, ⟨T', Lt, kt, nt⟩, -, X', hS', hgr, ⟨Ls, N', hQ, hFr, l1, l2, l3, hC', hSf', hw'⟩, st⟩ := X.specialBackS hx hz1 hown (mvT (s := s.setVm T.vm) hZ w1) (mvT (s := s.setVm T.vm) hZ w2) (mvT (s := s.setVm T.vm) hZ w4) hy (Ct.pay (W := Wd) hM hZ hEW hC.1 (hSf.mono hSL) w4 w3 hf hl) (g := mkF m pc L S) rfl (hL.trans hml.symm) (Steps.refl _) (a := a) (argsL := argsL) (rest := rest) hlen hst (by show 2 * 0 + _ ≤ _; omega) (hb hby hd) (fun _ _ => ⟨rfl, e1, hc, hs⟩)
  dsimp only [Pt.U, Pt.locs, Pt.cells, Pt.slots] at X' l1 l2 l3 st hQ hC' hSf' hw' hgr hS'
  subst l1 l2 l3
  have hS2 : Sfs Z EL T'.vm T'.heap (N' ++ SL) := fun x hx' => (List.mem_append.mp hx').elim (hSf' x) (hSf.chr hC' x)
  obtain ⟨s₂, o, st2, r⟩ := K v _ N' hQ hC'.2.1 p e s m args below meth c T' (W0.nextS X' rfl hS' hC'.2.1 (Nat.le_refl _) hC' (N.app hFr) hw' hS2)
  exact ⟨s₂, o, st.trans st2, r⟩
theorem Go.callV {a : Addr} {C : String} (hM : Ct l Z z bytesZ mxZ rtZ rm EL n0 w [] (.ref a :: argsL).toArray h SL' QZ) (hd : decode bytes pc = .ok (.invokevirtual index, 3)) (w1 : (Jvm.Cond.methodLink y.cls index yy).before a1 Z = true) (wdec : (Jvm.Cond.declares yy).before a1 Z = true) (wnf : (Jvm.Cond.selects yy.cls yy yy).before a1 Z = true) (wsel : (Jvm.Cond.selects C yy z).before a1 Z = true) (w2 : (Jvm.Cond.instanceMethod z).before a1 Z = true) (w3 : (Jvm.Cond.initialized z.cls).before a1 Z = true) (w4 : (Jvm.Cond.code z bytesZ mxZ rtZ).before a1 Z = true) (E : Exa Z h a C)
    (hy : yy.cls ≠ "java/lang/invoke/MethodHandle" ∧ yy.cls ≠ "java/lang/invoke/VarHandle") (hlen : ∀ sig, parseMethodDescriptor yy.desc = some sig → argsL.length = sig.parameters.length) (hst : S = argsL.reverse ++ .ref a :: rest) (Wd : Nat) (hW : (rest.map fun v => v.category).sum = Wd) (hL : L.size = mx) (hf : rm.frames + 1 ≤ R.frames) (hl : Wd + (mxZ + 11) + rm.locals ≤ R.locals) (hc : kc + rm.cells ≤ R.cells) (hs : ks + rm.slots ≤ R.slots) (hSL : ∀ x ∈ SL', x ∈ SL) (q : pc + 3 = pc')
    (K : ∀ v h' N, QZ v h' N → h.size ≤ h'.size → Go l Z y bytes mx rt R EL n0 w Q h' (kc + rm.cells) (ks + rm.slots) (N ++ SL) pc' L (v.toList ++ rest)) : Go l Z y bytes mx rt R EL n0 w Q h kc ks SL pc L S := by
  intro p e s m args below meth c T W
  subst q
  have W0 := W
  obtain ⟨⟨hx, hby, hml, -, -, -, a2, hEW⟩, k0, locs, X, e1, hS, hk, hZ, hown, hC, N, -, hSf⟩ := W
  obtain ⟨cq, kq, qa, qb, qc⟩ := isOf (s := s.setVm T.vm) hZ e1 E
  obtain ⟨v, vm₁, ⟨T', Lt, kt, nt⟩, -, X', hS', hgr, ⟨Ls, N', hQ, hFr, l1, l2, l3, hC', hSf', hw'⟩, st⟩ := X.virtualBackS hx hown (mvT (s := s.setVm T.vm) hZ w1) (mvT (s := s.setVm T.vm) hZ wdec) (notFace_of_selects (args := #[]) (mvT (s := s.setVm T.vm) hZ wnf)) (mvT (s := s.setVm T.vm) hZ wsel) (mvT (s := s.setVm T.vm) hZ w2) hy (Ct.pay (W := Wd) hM hZ hEW hC.1 (hSf.mono hSL) w4 w3 hf hl) qa qc (g := mkF m pc L S) rfl (hL.trans hml.symm) (Steps.refl _) (argsL := argsL) (rest := rest) hlen hst (by show 2 * 0 + _ ≤ _; omega) (hb hby hd) (fun _ _ => ⟨rfl, e1, hc, hs⟩)
  dsimp only [Pt.U, Pt.locs, Pt.cells, Pt.slots] at X' l1 l2 l3 st hQ hC' hSf' hw' hgr hS'
  subst l1 l2 l3
  have hS2 : Sfs Z EL T'.vm T'.heap (N' ++ SL) := fun x hx' => (List.mem_append.mp hx').elim (hSf' x) (hSf.chr hC' x)
  obtain ⟨s₂, o, st2, r⟩ := K v _ N' hQ hC'.2.1 p e s m args below meth c T' (W0.nextS X' rfl hS' hC'.2.1 (Nat.le_refl _) hC' (N.app hFr) hw' hS2)
  exact ⟨s₂, o, st.trans st2, r⟩
end Calls
/-- the end of a body -/
theorem Go.out {v : Option Value} (hv : rt = none → v = none) (N : List Addr) (hN : ∀ x ∈ N, x ∈ SL) (hQ : Q v h N) (hc : kc ≤ R.cells) (hs : ks ≤ R.slots)
    (hst : ∀ {p : Program} {e : Env} {s : State} {m : MethodId} {args : Array Value} {below : List Frame} {meth : Method} {c : Code} {T : State} {locs : List Loc}, p.tables.exec = Jvm.exec → c.code = bytes → meth.sig.returnType = rt → Stand p l e R (s.setVm T.vm) m args below meth c T locs kc ks → ∀ fs, (∀ (f : JFrame) (acts : List Action), f.method = m → f.locked = none → f.entered = [] → (doReturn e (T.setTop f) acts v).1 = T.setFrames fs) → Steps p.tables e below (T.setTop (mkF m pc L S)) (T.setFrames fs)) :
    Go l Z y bytes mx rt R EL n0 w Q h kc ks SL pc L S := by
  intro p e s m args below meth c T W
  obtain ⟨⟨hx, hby, hml, hrt, hlk, -⟩, k0, locs, X, e1, hS, hk, hZ, hown, hC, Nn, hw', hSf⟩ := W
  obtain ⟨fs, hr, hrun, hended, hW⟩ := X.leaveW hS (by rw [e1]; exact hk) (v := v) (fun q => hv (hrt.symm.trans q)) hlk
  refine ⟨_, _, hst hx hby hrt X fs hr, hrun, hended, v, locs, N, rfl, ?_, Nn, ?_, ?_, ⟨hW.1, hW.2.1, hW.2.2.1, hW.2.2.2.mono hc hs⟩, hw'⟩
  · show Q v T.heap N; rw [e1]; exact hQ
  · show CHr Z EL s.vm s.heap T.vm T.heap; rw [e1]; exact hC
  · show Sfs Z EL T.vm T.heap N; rw [e1]; exact hSf.mono hN
theorem Go.ret0 (hr : rt = none) (N : List Addr) (hN : ∀ x ∈ N, x ∈ SL) (hd : decode bytes pc = .ok (.return_, 1)) (hc : kc ≤ R.cells) (hs : ks ≤ R.slots) (hQ : Q none h N) : Go l Z y bytes mx rt R EL n0 w Q h kc ks SL pc L [] :=
  Go.out (v := none) (fun _ => rfl) N hN hQ hc hs (fun hx hby hrt X fs hl => X.returnOut hx (hrt.trans hr) (hb hby hd) hl)
/-- a boolean, byte, char, short -/
theorem Go.retN {t : FieldType} {z : Int32} (z' : Int32) (hr : rt = some t) (ht : t = .boolean ∨ t = .byte ∨ t = .char ∨ t = .short) (hz : nar t z = z') (N : List Addr) (hN : ∀ x ∈ N, x ∈ SL) (hd : decode bytes pc = .ok (.ireturn, 1)) (hc : kc ≤ R.cells) (hs : ks ≤ R.slots) (hQ : Q (some (.int z')) h N) : Go l Z y bytes mx rt R EL n0 w Q h kc ks SL pc L (.int z :: S) :=
  Go.out (v := some (.int z')) (fun q => by rw [hr] at q; cases q) N hN hQ hc hs (fun hx hby hrt X fs hl => RoadKit.retN X hx (hrt.trans hr) ht (hb hby hd) (by rw [hz]; exact hl))
theorem Go.retI {z : Int32} (hr : rt = some .int) (N : List Addr) (hN : ∀ x ∈ N, x ∈ SL) (hd : decode bytes pc = .ok (.ireturn, 1)) (hc : kc ≤ R.cells) (hs : ks ≤ R.slots) (hQ : Q (some (.int z)) h N) : Go l Z y bytes mx rt R EL n0 w Q h kc ks SL pc L (.int z :: S) :=
  Go.out (v := some (.int z)) (fun q => by rw [hr] at q; cases q) N hN hQ hc hs (fun hx hby hrt X fs hl => RoadKit.retOut X hx (hrt.trans hr) rfl (Or.inl ⟨rfl, Or.inl rfl, _, rfl⟩) (hb hby hd) hl)
theorem Go.retJ {z : Int64} (hr : rt = some .long) (N : List Addr) (hN : ∀ x ∈ N, x ∈ SL) (hd : decode bytes pc = .ok (.lreturn, 1)) (hc : kc ≤ R.cells) (hs : ks ≤ R.slots) (hQ : Q (some (.long z)) h N) : Go l Z y bytes mx rt R EL n0 w Q h kc ks SL pc L (.long z :: S) :=
  Go.out (v := some (.long z)) (fun q => by rw [hr] at q; cases q) N hN hQ hc hs (fun hx hby hrt X fs hl => RoadKit.retOut X hx (hrt.trans hr) rfl (Or.inr (Or.inl ⟨rfl, rfl, _, rfl⟩)) (hb hby hd) hl)
theorem narrow_ref {t : FieldType} {v : Value} (ht : t.isReference = true) : narrow t v = v := by cases t <;> cases v <;> simp_all [FieldType.isReference, narrow]
theorem fits_r {t : FieldType} {v : Value} (ht : t.isReference = true) (hv : v.isRef = true) : fits t v = true := by cases t <;> cases v <;> simp_all [FieldType.isReference, fits, Value.isRef]
theorem Go.retA {t : FieldType} {v : Value} (hr : rt = some t) (ht : t.isReference = true) (hv : v.isRef = true) (N : List Addr) (hN : ∀ x ∈ N, x ∈ SL) (hd : decode bytes pc = .ok (.areturn, 1)) (hc : kc ≤ R.cells) (hs : ks ≤ R.slots) (hQ : Q (some v) h N) : Go l Z y bytes mx rt R EL n0 w Q h kc ks SL pc L (v :: S) :=
  Go.out (v := some v) (fun q => by rw [hr] at q; cases q) N hN hQ hc hs (fun hx hby hrt X fs hl => RoadKit.retOut X hx (hrt.trans hr) (narrow_ref ht) (Or.inr (Or.inr (Or.inr (Or.inr ⟨rfl, ht, hv⟩)))) (hb hby hd) hl)
/-! arrays -/
theorem Go.alen {a : Addr} {cl : Cell} {ty : FieldType} {n : Int32} (hd : decode bytes pc = .ok (.arraylength, 1)) (A : Arr Z h a cl ty) (hn : cl.slots.size.toInt32 = n) (q : pc + 1 = pc') (K : Go l Z y bytes mx rt R EL n0 w Q h kc ks SL pc' L (.int n :: S)) : Go l Z y bytes mx rt R EL n0 w Q h kc ks SL pc L (.ref a :: S) :=
  Go.st1 q (fun X e1 hx hby hZ hown t kk => X.arraylength hx (cell := cl) (ty := ty) (e1.symm ▸ A.1) (State.isArrayOf_alike hZ.alike A.2.1) (g := mkF _ pc L (.ref a :: S)) rfl rfl (hb hby hd) t (hn.symm ▸ kk)) K
theorem Go.aaload {a : Addr} {cl : Cell} {ty : FieldType} {j : Int32} {v : Value} (hd : decode bytes pc = .ok (.aaload, 1)) (A : Arr Z h a cl ty) (hty : ty.isReference = true) (hin : ¬ (j < 0 ∨ cl.slots.size ≤ j.toNatClampNeg)) (hv : cl.slots[j.toNatClampNeg]? = some v) (q : pc + 1 = pc') (K : Go l Z y bytes mx rt R EL n0 w Q h kc ks SL pc' L (v :: S)) : Go l Z y bytes mx rt R EL n0 w Q h kc ks SL pc L (.int j :: .ref a :: S) :=
  Go.st1 q (fun X e1 hx hby hZ hown t kk => X.aaload hx (cell := cl) (e1.symm ▸ A.1) (State.isArrayOf_alike hZ.alike A.2.1) hty A.2.2 hin hv (g := mkF _ pc L (.int j :: .ref a :: S)) rfl rfl (hb hby hd) t kk) K
theorem Go.iaload {a : Addr} {cl : Cell} {j : Int32} {v : Value} (hd : decode bytes pc = .ok (.iaload, 1)) (A : Arr Z h a cl .int) (hin : ¬ (j < 0 ∨ cl.slots.size ≤ j.toNatClampNeg)) (hv : cl.slots[j.toNatClampNeg]? = some v) (q : pc + 1 = pc') (K : Go l Z y bytes mx rt R EL n0 w Q h kc ks SL pc' L (v :: S)) : Go l Z y bytes mx rt R EL n0 w Q h kc ks SL pc L (.int j :: .ref a :: S) :=
  Go.st1 q (fun X e1 hx hby hZ hown t kk => X.iaload hx (cell := cl) (e1.symm ▸ A.1) (State.isArrayOf_alike hZ.alike A.2.1) A.2.2 hin hv (g := mkF _ pc L (.int j :: .ref a :: S)) rfl rfl (hb hby hd) t kk) K
theorem Go.baload {a : Addr} {cl : Cell} {j : Int32} {v : Value} (hd : decode bytes pc = .ok (.baload, 1)) (A : Arr Z h a cl .byte) (hin : ¬ (j < 0 ∨ cl.slots.size ≤ j.toNatClampNeg)) (hv : cl.slots[j.toNatClampNeg]? = some v) (q : pc + 1 = pc') (K : Go l Z y bytes mx rt R EL n0 w Q h kc ks SL pc' L (v :: S)) : Go l Z y bytes mx rt R EL n0 w Q h kc ks SL pc L (.int j :: .ref a :: S) :=
  Go.st1 q (fun X e1 hx hby hZ hown t kk => X.baloadBytes hx (cell := cl) (e1.symm ▸ A.1) (State.isArrayOf_alike hZ.alike A.2.1) A.2.2 hin hv (g := mkF _ pc L (.int j :: .ref a :: S)) rfl rfl (hb hby hd) t kk) K
theorem Go.caload {a : Addr} {cl : Cell} {j : Int32} {v : Value} (hd : decode bytes pc = .ok (.caload, 1)) (A : Arr Z h a cl .char) (hin : ¬ (j < 0 ∨ cl.slots.size ≤ j.toNatClampNeg)) (hv : cl.slots[j.toNatClampNeg]? = some v) (q : pc + 1 = pc') (K : Go l Z y bytes mx rt R EL n0 w Q h kc ks SL pc' L (v :: S)) : Go l Z y bytes mx rt R EL n0 w Q h kc ks SL pc L (.int j :: .ref a :: S) :=
  Go.st1 q (fun X e1 hx hby hZ hown t kk => X.caload hx (cell := cl) (e1.symm ▸ A.1) (State.isArrayOf_alike hZ.alike A.2.1) A.2.2 hin hv (g := mkF _ pc L (.int j :: .ref a :: S)) rfl rfl (hb hby hd) t kk) K
theorem Go.castore {a : Addr} {cl : Cell} {j x : Int32} (hd : decode bytes pc = .ok (.castore, 1)) (A : Arr Z h a cl .char) (hin : ¬ (j < 0 ∨ cl.slots.size ≤ j.toNatClampNeg)) (ha : n0 ≤ a) (q : pc + 1 = pc')
    (K : ∀ h', Wr h h' a j.toNatClampNeg (.int (nar .char x)) → Go l Z y bytes mx rt R EL n0 w Q h' kc ks SL pc' L S) : Go l Z y bytes mx rt R EL n0 w Q h kc ks SL pc L (.int x :: .int j :: .ref a :: S) := by
  intro p e s m args below meth c T W
  subst q
  have W0 := W
  obtain ⟨⟨hx, hby, -⟩, k0, locs, X, e1, -, -, hZ, hown, hC, N, -, hSf⟩ := W
  obtain ⟨T', h', X', e', Wr', st⟩ := RoadKit.stC X hx hZ e1 A hin (g := mkF m pc L (.int x :: .int j :: .ref a :: S)) rfl rfl (hb hby hd)
  have B := CHr.wr Wr' (Safe.arr hZ.alike A (by decide)) hC.1
  obtain ⟨s₂, o, st2, r⟩ := K h' Wr' p e s m args below meth c T' (W0.next X' e' B (Fr.snoc X' N ha) (hSf.chr B))
  exact ⟨s₂, o, st _ st2, r⟩
theorem Go.bastore {a : Addr} {cl : Cell} {j x : Int32} (hd : decode bytes pc = .ok (.bastore, 1)) (A : Arr Z h a cl .byte) (hin : ¬ (j < 0 ∨ cl.slots.size ≤ j.toNatClampNeg)) (hsafe : Sf Z EL SL h a) (ha : n0 ≤ a) (q : pc + 1 = pc')
    (K : ∀ h', Wr h h' a j.toNatClampNeg (.int (nar .byte x)) → Go l Z y bytes mx rt R EL n0 w Q h' kc ks SL pc' L S) : Go l Z y bytes mx rt R EL n0 w Q h kc ks SL pc L (.int x :: .int j :: .ref a :: S) := by
  intro p e s m args below meth c T W
  subst q
  have W0 := W
  obtain ⟨⟨hx, hby, -⟩, k0, locs, X, e1, -, -, hZ, hown, hC, N, -, hSf⟩ := W
  obtain ⟨T', h', X', e', Wr', st⟩ := RoadKit.stB X hx hZ e1 A hin (g := mkF m pc L (.int x :: .int j :: .ref a :: S)) rfl rfl (hb hby hd)
  have B := CHr.wr Wr' (hsafe _ hZ hSf) hC.1
  obtain ⟨s₂, o, st2, r⟩ := K h' Wr' p e s m args below meth c T' (W0.next X' e' B (Fr.snoc X' N ha) (hSf.chr B))
  exact ⟨s₂, o, st _ st2, r⟩
/-- two roads that meet: the rest is walked once -/
theorem Go.cut {α : Type} (pcJ : Nat) (LJ : α → Array Slot) (SJ : α → List Value) (K : ∀ r, Go l Z y bytes mx rt R EL n0 w Q h kc ks SL pcJ (LJ r) (SJ r)) (K2 : (∀ r, Go l Z y bytes mx rt R EL n0 w Q h kc ks SL pcJ (LJ r) (SJ r)) → Go l Z y bytes mx rt R EL n0 w Q h kc ks SL pc L S) : Go l Z y bytes mx rt R EL n0 w Q h kc ks SL pc L S := K2 K
end Rules
end Jvm.GoKit
namespace Jvm.GoKit
open Sem ClassFile Op Lib Jvm.Stand Jvm.Free Jvm.LawKit Jvm.RoadKit
section RulesV
variable {l : Launch} {Z : State} {y : MethodName} {bytes : ByteArray} {mx : Nat} {rt : Option FieldType} {R : Room} {EL : List (String × Nat)} {n0 : Nat} {w : Bool} {Q : Option Value → Heap → List Addr → Prop} {h h' : Heap} {kc ks kc' ks' : Nat} {SL SL' : List Addr} {pc pc' pc'' : Nat} {L L' : Array Slot} {S S' : List Value} {a0 a1 : Array Value}
variable {a : Addr} {k : ClassId} {ty : FieldType} {n j x : Int32} {vs : List Value} {d v : Value}
theorem Go.alenV (hd : decode bytes pc = .ok (.arraylength, 1)) (F : Arv Z h a k ty n vs d) (q : pc + 1 = pc') (K : Go l Z y bytes mx rt R EL n0 w Q h kc ks SL pc' L (.int n :: S)) : Go l Z y bytes mx rt R EL n0 w Q h kc ks SL pc L (.ref a :: S) := by
  obtain ⟨c, A, -, s1, s2, -⟩ := F
  exact Go.alen hd A (len_of s1 s2) q K
theorem Go.baloadV (hd : decode bytes pc = .ok (.baload, 1)) (F : Arv Z h a k .byte n vs d) (hj : ¬ j < 0 ∧ j < n) (hv : vs.getD j.toNatClampNeg d = v) (q : pc + 1 = pc') (K : Go l Z y bytes mx rt R EL n0 w Q h kc ks SL pc' L (v :: S)) : Go l Z y bytes mx rt R EL n0 w Q h kc ks SL pc L (.int j :: .ref a :: S) := by
  obtain ⟨c, A, -, s1, s2, H, -⟩ := F
  exact Go.baload hd A (inb_of s1 hj) (H.at (inb_of s1 hj) hv) q K
theorem Go.caloadV (hd : decode bytes pc = .ok (.caload, 1)) (F : Arv Z h a k .char n vs d) (hj : ¬ j < 0 ∧ j < n) (hv : vs.getD j.toNatClampNeg d = v) (q : pc + 1 = pc') (K : Go l Z y bytes mx rt R EL n0 w Q h kc ks SL pc' L (v :: S)) : Go l Z y bytes mx rt R EL n0 w Q h kc ks SL pc L (.int j :: .ref a :: S) := by
  obtain ⟨c, A, -, s1, s2, H, -⟩ := F
  exact Go.caload hd A (inb_of s1 hj) (H.at (inb_of s1 hj) hv) q K
theorem Go.ialoadV (hd : decode bytes pc = .ok (.iaload, 1)) (F : Arv Z h a k .int n vs d) (hj : ¬ j < 0 ∧ j < n) (hv : vs.getD j.toNatClampNeg d = v) (q : pc + 1 = pc') (K : Go l Z y bytes mx rt R EL n0 w Q h kc ks SL pc' L (v :: S)) : Go l Z y bytes mx rt R EL n0 w Q h kc ks SL pc L (.int j :: .ref a :: S) := by
  obtain ⟨c, A, -, s1, s2, H, -⟩ := F
  exact Go.iaload hd A (inb_of s1 hj) (H.at (inb_of s1 hj) hv) q K
theorem Go.newPV {aty : ArrayType} (cap : Nat) (vs : List Value) (hd : decode bytes pc = .ok (.newarray aty, 2)) (wd : (Jvm.Cond.arrayClass (newarray.typeOf aty)).before a1 Z = true) (hn : ¬ n < 0) (hcap : n.toNatClampNeg ≤ cap) (hb' : cap * 8 ≤ 536870912) (hc : kc + 1 ≤ R.cells) (hl : ks + cap ≤ R.slots) (hvs : vs = List.replicate n.toNatClampNeg (defaultValue (newarray.typeOf aty))) (q : pc + 2 = pc')
    (K : ∀ (a : Addr) (h' : Heap) (cA : ClassId), a = h.size → Ext h h' → Arv Z h' a cA (newarray.typeOf aty) n vs (defaultValue (newarray.typeOf aty)) → Go l Z y bytes mx rt R EL n0 w Q h' (kc + 1) (ks + cap) (a :: SL) pc' L (.ref a :: S)) : Go l Z y bytes mx rt R EL n0 w Q h kc ks SL pc L (.int n :: S) :=
  Go.newP cap hd wd hn hcap hb' hc hl q (fun a h' cA e E A => K a h' cA e E ((Arv.new A hn).pad (by rw [hvs, ← List.nil_append (List.replicate _ _)]; exact pad_rep _ _ _)))
theorem Go.castoreV (i : Nat) (hd : decode bytes pc = .ok (.castore, 1)) (F : Arv Z h a k .char n vs d) (hj : ¬ j < 0 ∧ j < n) (hi : j.toNatClampNeg = i) (hl : i < vs.length) (ha : n0 ≤ a) (q : pc + 1 = pc')
    (K : ∀ h', Wr h h' a j.toNatClampNeg (.int (nar .char x)) → Arv Z h' a k .char n (vs.set i (.int (nar .char x))) d → Go l Z y bytes mx rt R EL n0 w Q h' kc ks SL pc' L S) : Go l Z y bytes mx rt R EL n0 w Q h kc ks SL pc L (.int x :: .int j :: .ref a :: S) := by
  obtain ⟨c, A, q1, s1, s2, H, G⟩ := F
  exact Go.castore hd A (inb_of s1 hj) ha q (fun h' W => K h' W (Arv.set A q1 s1 s2 H G (fits_nar_char x) W i hi hl))
theorem fits_nar_byte (x : Int32) : fits .byte (.int (nar .byte x)) = true := by
  have h1 := Int8.toInt_lt x.toInt8
  have h2 := Int8.le_toInt x.toInt8
  have e : (x.toInt8.toInt32).toInt = x.toInt8.toInt := Int8.toInt_toInt32 _
  simp only [fits, nar, Bool.and_eq_true, decide_eq_true_eq, Int32.le_iff_toInt_le]
  rw [e]
  first
    | exact ⟨by have : ((-128 : Int32)).toInt = -128 := by decide
                omega, by have : ((127 : Int32)).toInt = 127 := by decide
                          omega⟩
    | omega
theorem Go.bastoreV (i : Nat) (hd : decode bytes pc = .ok (.bastore, 1)) (F : Arv Z h a k .byte n vs d) (hj : ¬ j < 0 ∧ j < n) (hi : j.toNatClampNeg = i) (hl : i < vs.length) (hsafe : Sf Z EL SL h a) (ha : n0 ≤ a) (q : pc + 1 = pc')
    (K : ∀ h', Wr h h' a j.toNatClampNeg (.int (nar .byte x)) → Arv Z h' a k .byte n (vs.set i (.int (nar .byte x))) d → Go l Z y bytes mx rt R EL n0 w Q h' kc ks SL pc' L S) : Go l Z y bytes mx rt R EL n0 w Q h kc ks SL pc L (.int x :: .int j :: .ref a :: S) := by
  obtain ⟨c, A, q1, s1, s2, H, G⟩ := F
  exact Go.bastore hd A (inb_of s1 hj) hsafe ha q (fun h' W => K h' W (Arv.set A q1 s1 s2 H G (fits_nar_byte x) W i hi hl))
theorem Go.cast {K0 : String} {index : Nat} (hd : decode bytes pc = .ok (.checkcast index, 3)) (wd : (Jvm.Cond.classLink y.cls index K0).before a1 Z = true) (F : Ins Z h a K0 true) (q : pc + 3 = pc') (K : Go l Z y bytes mx rt R EL n0 w Q h kc ks SL pc' L (.ref a :: S)) : Go l Z y bytes mx rt R EL n0 w Q h kc ks SL pc L (.ref a :: S) := by
  intro p e s m args below meth c T W
  subst q
  have W0 := W
  obtain ⟨⟨hx, hby, -⟩, k0, locs, X, e1, -, -, hZ, hown, hC, N, -, hSf⟩ := W
  obtain ⟨T', X', e', st⟩ := RoadKit.castY X hx hZ hown wd e1 F (g := mkF m pc L (.ref a :: S)) rfl rfl (hb hby hd)
  obtain ⟨s₂, o, st2, r⟩ := K p e s m args below meth c T' (W0.next X' e' (CHr.refl hC.1) N hSf)
  exact ⟨s₂, o, st _ st2, r⟩
theorem Go.inst {K0 : String} {index : Nat} (hd : decode bytes pc = .ok (.instanceof index, 3)) (wd : (Jvm.Cond.classLink y.cls index K0).before a1 Z = true) (F : Ins Z h a K0 true) (q : pc + 3 = pc') (K : Go l Z y bytes mx rt R EL n0 w Q h kc ks SL pc' L (.int 1 :: S)) : Go l Z y bytes mx rt R EL n0 w Q h kc ks SL pc L (.ref a :: S) := by
  intro p e s m args below meth c T W
  subst q
  have W0 := W
  obtain ⟨⟨hx, hby, -⟩, k0, locs, X, e1, -, -, hZ, hown, hC, N, -, hSf⟩ := W
  obtain ⟨T', X', e', st⟩ := RoadKit.instY X hx hZ hown wd e1 F (g := mkF m pc L (.ref a :: S)) rfl rfl (hb hby hd)
  obtain ⟨s₂, o, st2, r⟩ := K p e s m args below meth c T' (W0.next X' e' (CHr.refl hC.1) N hSf)
  exact ⟨s₂, o, st _ st2, r⟩
theorem Go.acopy {index : Nat} {b : Addr} {k' : ClassId} {z z' sp dp nn : Int32} {vd us : List Value} {dv dd : Value} (hd : decode bytes pc = .ok (.invokestatic index, 3)) (w1 : (Jvm.Cond.methodLink y.cls index Jvm.Stand.acN).before a1 Z = true) (w2 : (Jvm.Cond.native Jvm.Stand.acN).before a1 Z = true) (w3 : (Jvm.Cond.static Jvm.Stand.acN).before a1 Z = true) (w4 : (Jvm.Cond.initialized "java/lang/System").before a1 Z = true)
    (A : Arv Z h a k ty z vs dv) (B : Arv Z h b k' ty z' vd dd) (hty : refKind ty = false) (h1 : ¬ sp < 0) (h2 : ¬ dp < 0) (h3 : ¬ nn < 0) (h4 : sp.toNatClampNeg + nn.toNatClampNeg ≤ z.toNatClampNeg) (h5 : dp.toNatClampNeg + nn.toNatClampNeg ≤ z'.toNatClampNeg) (hus : us = (List.range nn.toNatClampNeg).map fun i => vs.getD (sp.toNatClampNeg + i) dv) (hl : dp.toNatClampNeg + nn.toNatClampNeg ≤ vd.length)
    (hsafe : Sf Z EL SL h b) (ge : n0 ≤ b) (hL : L.size = mx) (hf : 1 ≤ R.frames) (Wd : Nat) (hW : (S.map fun v => v.category).sum = Wd) (hlo : Wd + (nativeFrameWords "java/lang/System" "arraycopy" 5 + 11) ≤ R.locals) (q : pc + 3 = pc')
    (K : ∀ h', Keep h h' [b] → Arv Z h' b k' ty z' (vd.take dp.toNatClampNeg ++ us ++ vd.drop (dp.toNatClampNeg + nn.toNatClampNeg)) dd → Go l Z y bytes mx rt R EL n0 w Q h' kc ks SL pc' L S) : Go l Z y bytes mx rt R EL n0 w Q h kc ks SL pc L (.int nn :: .int dp :: .ref b :: .int sp :: .ref a :: S) := by
  intro p e s m args below meth c T W
  subst q
  have W0 := W
  obtain ⟨⟨hx, hby, hml, -⟩, k0, locs, X, e1, -, -, hZ, hown, hC, N, -, hSf⟩ := W
  obtain ⟨T', h', L', X', e', N', Kp, A', st⟩ := RoadKit.cpA X hx hZ hown w1 w2 w3 w4 e1 A B (Or.inl ⟨rfl, hty⟩) h1 h2 h3 h4 h5 hus hl N ge (g := mkF m pc L (.int nn :: .int dp :: .ref b :: .int sp :: .ref a :: S)) rfl (hL.trans hml.symm) rfl (hb hby hd) hf (W := Wd) (by show 2 * 0 + _ ≤ _; omega) hlo
  have Bk := CHr.keep (vm := T.vm) Kp (fun x hx' => by cases List.mem_singleton.mp hx'; exact hsafe _ hZ hSf) hC.1
  obtain ⟨s₂, o, st2, r⟩ := K h' Kp A' p e s m args below meth c T' (W0.next X' e' Bk N' (hSf.chr Bk))
  exact ⟨s₂, o, st _ st2, r⟩
/-- a loop: the head is reached again with a smaller measure -/
theorem Go.ind {α : Type} (μ : α → Nat) (P : α → Prop) (hJ : α → Heap) (LJ : α → Array Slot) (SJ : α → List Value) (step : ∀ x, P x → (∀ x', μ x' < μ x → P x' → Go l Z y bytes mx rt R EL n0 w Q (hJ x') kc ks SL pc (LJ x') (SJ x')) → Go l Z y bytes mx rt R EL n0 w Q (hJ x) kc ks SL pc (LJ x) (SJ x)) (x : α) (hx : P x) (e1 : h = hJ x) (e2 : L = LJ x) (e3 : S = SJ x) : Go l Z y bytes mx rt R EL n0 w Q h kc ks SL pc L S := by
  have key : ∀ n x, μ x < n → P x → Go l Z y bytes mx rt R EL n0 w Q (hJ x) kc ks SL pc (LJ x) (SJ x) := by
    intro n
    induction n with
    | zero => intro x q; exact absurd q (Nat.not_lt_zero _)
    | succ n ih => intro x q hP; exact step x hP (fun x' q' hP' => ih x' (by omega) hP')
  subst e1 e2 e3
  exact key _ x (Nat.lt_succ_self _) hx
theorem shr0 (n : Int32) : n >>> ((0 : Int32) &&& 31) = n := by
  have e : (0 : Int32) &&& 31 = 0 := by decide
  rw [e]; simp
theorem nar_i2b (x : Int32) : nar .byte (x.toInt8.toInt32) = x.toInt8.toInt32 := by simp [nar]
theorem ofN_lt {i n : Nat} (hi : i < 2 ^ 31) (hn : n < 2 ^ 31) : (Int32.ofNat i < Int32.ofNat n) ↔ i < n := by
  rw [Int32.lt_iff_toInt_lt, Int32.toInt_ofNat_of_lt hi, Int32.toInt_ofNat_of_lt hn]; omega
theorem ofN_eq {i n : Nat} (hi : i < 2 ^ 31) (hn : n < 2 ^ 31) : (Int32.ofNat i = Int32.ofNat n) ↔ i = n := by
  rw [← Int32.toInt_inj, Int32.toInt_ofNat_of_lt hi, Int32.toInt_ofNat_of_lt hn]; omega
theorem ofN_nn {i : Nat} (hi : i < 2 ^ 31) : ¬ Int32.ofNat i < 0 := by
  rw [Int32.lt_iff_toInt_lt, Int32.toInt_ofNat_of_lt hi]
  have e : (0 : Int32).toInt = 0 := by decide
  omega
theorem ofN_nat {i : Nat} (hi : i < 2 ^ 31) : (Int32.ofNat i).toNatClampNeg = i := by
  have e : (Int32.ofNat i).toNatClampNeg = (Int32.ofNat i).toInt.toNat := rfl
  rw [e, Int32.toInt_ofNat_of_lt hi]; omega
theorem ofN_succ (i : Nat) : Int32.ofNat i + 1 = Int32.ofNat (i + 1) := by
  rw [Int32.ofNat_add]; rfl
end RulesV
end Jvm.GoKit
namespace Jvm.GoKit
open Sem ClassFile Op Lib Jvm.Stand Jvm.Free Jvm.LawKit Jvm.RoadKit
section RulesW
variable {l : Launch} {Z : State} {y : MethodName} {bytes : ByteArray} {mx : Nat} {rt : Option FieldType} {R : Room} {EL : List (String × Nat)} {n0 : Nat} {w : Bool} {Q : Option Value → Heap → List Addr → Prop} {h h' : Heap} {kc ks kc' ks' : Nat} {SL SL' : List Addr} {pc pc' pc'' : Nat} {L L' : Array Slot} {S S' : List Value} {a0 a1 : Array Value}
/-- two roads that meet, with what is known there -/
theorem Go.cutP {P : Prop} (pcJ : Nat) (LJ : Array Slot) (SJ : List Value) (K : P → Go l Z y bytes mx rt R EL n0 w Q h kc ks SL pcJ LJ SJ) (K2 : (P → Go l Z y bytes mx rt R EL n0 w Q h kc ks SL pcJ LJ SJ) → Go l Z y bytes mx rt R EL n0 w Q h kc ks SL pc L S) : Go l Z y bytes mx rt R EL n0 w Q h kc ks SL pc L S := K2 K
theorem Ct.post {Q' : Option Value → Heap → List Addr → Prop} {ws : List Jvm.Cond} {as' : Array Value} {h0 : Heap} (q : ∀ v h N, Q v h N → Q' v h N) (hM : Ct l Z y bytes mx rt R EL n0 w ws as' h0 SL Q) : Ct l Z y bytes mx rt R EL n0 w ws as' h0 SL Q' := by
  intro p e ha hc hk s m args below hf happ hP hK
  obtain ⟨n, o, h1, h2, h3, v, Ls, N, e1, e2, r⟩ := hM p e ha hc hk s m args below hf happ hP hK
  exact ⟨n, o, h1, h2, h3, v, Ls, N, e1, q _ _ _ e2, r⟩
/-- fewer cells used than said -/
theorem Go.more (hk : kc ≤ kc') (hs : ks ≤ ks') (K : Go l Z y bytes mx rt R EL n0 w Q h kc' ks' SL pc L S) : Go l Z y bytes mx rt R EL n0 w Q h kc ks SL pc L S := fun p e s m args below meth c T W => by
  obtain ⟨A, k0, locs, X, r⟩ := W
  exact K p e s m args below meth c T ⟨A, k0, locs, X.more hk hs, r⟩
/-- a loop that makes cells -/
theorem Go.indK {α : Type} (μ : α → Nat) (P : α → Prop) (hJ : α → Heap) (kJ sJ : α → Nat) (LJ : α → Array Slot) (SJ : α → List Value) (step : ∀ x, P x → (∀ x', μ x' < μ x → P x' → Go l Z y bytes mx rt R EL n0 w Q (hJ x') (kJ x') (sJ x') SL pc (LJ x') (SJ x')) → Go l Z y bytes mx rt R EL n0 w Q (hJ x) (kJ x) (sJ x) SL pc (LJ x) (SJ x)) (x : α) (hx : P x) (e1 : h = hJ x) (ek : kc = kJ x) (es : ks = sJ x) (e2 : L = LJ x) (e3 : S = SJ x) : Go l Z y bytes mx rt R EL n0 w Q h kc ks SL pc L S := by
  have key : ∀ n x, μ x < n → P x → Go l Z y bytes mx rt R EL n0 w Q (hJ x) (kJ x) (sJ x) SL pc (LJ x) (SJ x) := by
    intro n
    induction n with
    | zero => intro x q; exact absurd q (Nat.not_lt_zero _)
    | succ n ih => intro x q hP; exact step x hP (fun x' q' hP' => ih x' (by omega) hP')
  subst e1 ek es e2 e3
  exact key _ x (Nat.lt_succ_self _) hx
end RulesW
end Jvm.GoKit
namespace Jvm.GoKit
open Sem ClassFile Op Lib Jvm.Stand Jvm.Free Jvm.LawKit Jvm.RoadKit
theorem nf_by {s : State} {args : Array Value} {C : String} {y y1 : MethodName} (hsel : (Jvm.Cond.selects C y1 y1).before args s = true) (e : y1.cls = y.cls) : NotFace s y := fun r0 h0 => by
  obtain ⟨c2, r2, m2, -, -, q3, -, kP, hkP, hkPi⟩ := Cond.selects_spec hsel
  have e1 := findClass_of_methodNamed h0
  have e2 := findClass_of_methodNamed q3
  rw [e] at e2
  have e3 := Option.some.inj (e1.symm.trans e2)
  exact ⟨kP, by rw [e3]; exact hkP, hkPi⟩
theorem decl_by {s : State} {args : Array Value} {y : MethodName} {b : ByteArray} {mx : Nat} {rt : Option FieldType} (hi : (Jvm.Cond.instanceMethod y).before args s = true) (hc : (Jvm.Cond.code y b mx rt).before args s = true) : (Jvm.Cond.declares y).before args s = true := by
  obtain ⟨mk, methM, hnamed, hmethM, hstM, habM⟩ := Cond.instanceMethod_spec hi
  obtain ⟨m2, cM, q1, -, -, -, -, -, -, hsig⟩ := Cond.code_spec hnamed hc
  cases hmethM.symm.trans q1
  simp [Jvm.Cond.before, Jvm.Cond.holds, Jvm.Cond.value, hnamed, hmethM, hstM, hsig]
theorem same_by {s : State} {args : Array Value} {y : MethodName} (hd : (Jvm.Cond.declares y).before args s = true) (hn : NotFace s y) (hy : y.cls ≠ "java/lang/invoke/MethodHandle" ∧ y.cls ≠ "java/lang/invoke/VarHandle") : (Jvm.Cond.sameMethod y.cls y.cls y.name y.desc).before args s = true := by
  obtain ⟨r0, r, hnm, hrm, hstR, hsigR⟩ := Cond.declares_spec hd
  obtain ⟨kr, hkr, hni⟩ := hn r0 hnm
  have hf := State.methodFound?_of_named hnm hy
  have hc := findClass_of_methodNamed hnm
  simp [Jvm.Cond.before, Jvm.Cond.holds, Jvm.Cond.value, hnm, hf, hc, hkr, hni]
theorem mvNest {Z s : State} {a0 args : Array Value} {own host : String} {index : Nat} {x : MethodName} (hZ : Z.Warmed39 s.vm) (w : (Jvm.Cond.methodLinkNest own index x host).before a0 Z = true) : (Jvm.Cond.methodLinkNest own index x host).before args s = true := (Cond.methodLinkNest_wide hZ w :)
theorem wd {ws : List Jvm.Cond} {a0 : Array Value} {Z : State} (hw : ∀ d ∈ ws, d.before a0 Z = true) (i : Nat) {d : Jvm.Cond} (e : ws[i]? = some d) : d.before a0 Z = true := hw d (List.mem_of_getElem? e)
theorem sl0 {SL : List Addr} : ∀ x ∈ ([] : List Addr), x ∈ SL := fun _ q => nomatch q
theorem sl1 {SL : List Addr} {b : Addr} (q : b ∈ SL) : ∀ x ∈ [b], x ∈ SL := fun x hx => by cases List.mem_singleton.mp hx; exact q
section Calls6
variable {l : Launch} {Z : State} {y : MethodName} {bytes : ByteArray} {mx : Nat} {rt : Option FieldType} {R : Room} {EL : List (String × Nat)} {n0 : Nat} {w : Bool} {Q : Option Value → Heap → List Addr → Prop} {h h' : Heap} {kc ks kc' ks' : Nat} {SL SL' : List Addr} {pc pc' pc'' : Nat} {L L' : Array Slot} {S S' : List Value} {a0 a1 : Array Value}
variable {z yy y1 : MethodName} {bytesZ : ByteArray} {mxZ : Nat} {rtZ : Option FieldType} {rm : Room} {QZ : Option Value → Heap → List Addr → Prop} {argsL rest : List Value} {index : Nat}
theorem Go.rs (S' : List Value) (q3 : S = S') (K : Go l Z y bytes mx rt R EL n0 w Q h kc ks SL pc L S') : Go l Z y bytes mx rt R EL n0 w Q h kc ks SL pc L S := by subst q3; exact K
theorem Go.callW {a : Addr} {C C1 : String} (hM : Ct l Z z bytesZ mxZ rtZ rm EL n0 w [] (.ref a :: argsL).toArray h SL' QZ) (hd : decode bytes pc = .ok (.invokevirtual index, 3)) (w1 : (Jvm.Cond.methodLink y.cls index yy).before a1 Z = true) (wdec : (Jvm.Cond.declares yy).before a1 Z = true) (wnf : (Jvm.Cond.selects C1 y1 y1).before a1 Z = true) (enf : y1.cls = yy.cls) (wsel : (Jvm.Cond.selects C yy z).before a1 Z = true) (w2 : (Jvm.Cond.instanceMethod z).before a1 Z = true) (w3 : (Jvm.Cond.initialized z.cls).before a1 Z = true) (w4 : (Jvm.Cond.code z bytesZ mxZ rtZ).before a1 Z = true) (E : Exa Z h a C)
    (hy : yy.cls ≠ "java/lang/invoke/MethodHandle" ∧ yy.cls ≠ "java/lang/invoke/VarHandle") (hlen : ∀ sig, parseMethodDescriptor yy.desc = some sig → argsL.length = sig.parameters.length) (hst : S = argsL.reverse ++ .ref a :: rest) (Wd : Nat) (hW : (rest.map fun v => v.category).sum = Wd) (hL : L.size = mx) (hf : rm.frames + 1 ≤ R.frames) (hl : Wd + (mxZ + 11) + rm.locals ≤ R.locals) (hc : kc + rm.cells ≤ R.cells) (hs : ks + rm.slots ≤ R.slots) (hSL : ∀ x ∈ SL', x ∈ SL) (q : pc + 3 = pc')
    (K : ∀ v h' N, QZ v h' N → h.size ≤ h'.size → Go l Z y bytes mx rt R EL n0 w Q h' (kc + rm.cells) (ks + rm.slots) (N ++ SL) pc' L (v.toList ++ rest)) : Go l Z y bytes mx rt R EL n0 w Q h kc ks SL pc L S := by
  intro p e s m args below meth c T W
  subst q
  have W0 := W
  obtain ⟨⟨hx, hby, hml, -, -, -, a2, hEW⟩, k0, locs, X, e1, hS, hk, hZ, hown, hC, N, -, hSf⟩ := W
  obtain ⟨cq, kq, qa, qb, qc⟩ := isOf (s := s.setVm T.vm) hZ e1 E
  obtain ⟨v, vm₁, ⟨T', Lt, kt, nt⟩, -, X', hS', hgr, ⟨Ls, N', hQ, hFr, l1, l2, l3, hC', hSf', hw'⟩, st⟩ := X.virtualBackS hx hown (mvT (s := s.setVm T.vm) hZ w1) (mvT (s := s.setVm T.vm) hZ wdec) (nf_by (args := #[]) (mvT (s := s.setVm T.vm) hZ wnf) enf) (mvT (s := s.setVm T.vm) hZ wsel) (mvT (s := s.setVm T.vm) hZ w2) hy (Ct.pay (W := Wd) hM hZ hEW hC.1 (hSf.mono hSL) w4 w3 hf hl) qa qc (g := mkF m pc L S) rfl (hL.trans hml.symm) (Steps.refl _) (argsL := argsL) (rest := rest) hlen hst (by show 2 * 0 + _ ≤ _; omega) (hb hby hd) (fun _ _ => ⟨rfl, e1, hc, hs⟩)
  dsimp only [Pt.U, Pt.locs, Pt.cells, Pt.slots] at X' l1 l2 l3 st hQ hC' hSf' hw' hgr hS'
  subst l1 l2 l3
  have hS2 : Sfs Z EL T'.vm T'.heap (N' ++ SL) := fun x hx' => (List.mem_append.mp hx').elim (hSf' x) (hSf.chr hC' x)
  obtain ⟨s₂, o, st2, r⟩ := K v _ N' hQ hC'.2.1 p e s m args below meth c T' (W0.nextS X' rfl hS' hC'.2.1 (Nat.le_refl _) hC' (N.app hFr) hw' hS2)
  exact ⟨s₂, o, st.trans st2, r⟩
theorem Go.callU {a : Addr} {C C1 : String} (hM : Ct l Z z bytesZ mxZ rtZ rm EL n0 w [] (.ref a :: argsL).toArray h SL' QZ) (hd : decode bytes pc = .ok (.invokespecial index, 3)) (hz1 : z.name ≠ "<init>") (w1 : (Jvm.Cond.methodLink y.cls index z).before a1 Z = true) (wdec : (Jvm.Cond.declares z).before a1 Z = true) (wnf : (Jvm.Cond.selects C1 y1 y1).before a1 Z = true) (enf : y1.cls = z.cls) (wsup : (Jvm.Cond.superclass y.cls z.cls).before a1 Z = true) (w2 : (Jvm.Cond.instanceMethod z).before a1 Z = true) (w3 : (Jvm.Cond.initialized z.cls).before a1 Z = true) (w4 : (Jvm.Cond.code z bytesZ mxZ rtZ).before a1 Z = true) (E : Exa Z h a C)
    (hy : z.cls ≠ "java/lang/invoke/MethodHandle" ∧ z.cls ≠ "java/lang/invoke/VarHandle") (hlen : ∀ sig, parseMethodDescriptor z.desc = some sig → argsL.length = sig.parameters.length) (hst : S = argsL.reverse ++ .ref a :: rest) (Wd : Nat) (hW : (rest.map fun v => v.category).sum = Wd) (hL : L.size = mx) (hf : rm.frames + 1 ≤ R.frames) (hl : Wd + (mxZ + 11) + rm.locals ≤ R.locals) (hc : kc + rm.cells ≤ R.cells) (hs : ks + rm.slots ≤ R.slots) (hSL : ∀ x ∈ SL', x ∈ SL) (q : pc + 3 = pc')
    (K : ∀ v h' N, QZ v h' N → h.size ≤ h'.size → Go l Z y bytes mx rt R EL n0 w Q h' (kc + rm.cells) (ks + rm.slots) (N ++ SL) pc' L (v.toList ++ rest)) : Go l Z y bytes mx rt R EL n0 w Q h kc ks SL pc L S := by
  intro p e s m args below meth c T W
  subst q
  have W0 := W
  obtain ⟨⟨hx, hby, hml, -, -, -, a2, hEW⟩, k0, locs, X, e1, hS, hk, hZ, hown, hC, N, -, hSf⟩ := W
  have wsm := same_by wdec (nf_by wnf enf) hy
  obtain ⟨v, vm₁, ⟨T', Lt, kt, nt⟩, -, X', hS', hgr, ⟨Ls, N', hQ, hFr, l1, l2, l3, hC', hSf', hw'⟩, st⟩ := RoadKit.superBackS (s := s.setVm T.vm) X hx hZ hown w1 wsm w2 wsup hz1 (Ct.pay (W := Wd) hM hZ hEW hC.1 (hSf.mono hSL) w4 w3 hf hl) e1 (Ins.self E) (g := mkF m pc L S) rfl (hL.trans hml.symm) w4 (argsL := argsL) (rest := rest) hlen hst (by show 2 * 0 + _ ≤ _; omega) (hb hby hd) (fun _ _ => ⟨rfl, e1, hc, hs⟩)
  dsimp only [Pt.U, Pt.locs, Pt.cells, Pt.slots] at X' l1 l2 l3 st hQ hC' hSf' hw' hgr hS'
  subst l1 l2 l3
  have hS2 : Sfs Z EL T'.vm T'.heap (N' ++ SL) := fun x hx' => (List.mem_append.mp hx').elim (hSf' x) (hSf.chr hC' x)
  obtain ⟨s₂, o, st2, r⟩ := K v _ N' hQ hC'.2.1 p e s m args below meth c T' (W0.nextS X' rfl hS' hC'.2.1 (Nat.le_refl _) hC' (N.app hFr) hw' hS2)
  exact ⟨s₂, o, st.trans st2, r⟩
theorem Go.callI {a : Addr} {C : String} {count : Nat} (hM : Ct l Z z bytesZ mxZ rtZ rm EL n0 w [] (.ref a :: argsL).toArray h SL' QZ) (hd : decode bytes pc = .ok (.invokeinterface index count, 5)) (w1 : (Jvm.Cond.methodLink y.cls index yy).before a1 Z = true) (wdec : (Jvm.Cond.declares yy).before a1 Z = true) (wface : (Jvm.Cond.interfaceMethod yy.cls yy.cls yy.name yy.desc).before a1 Z = true) (wsel : (Jvm.Cond.selects C yy z).before a1 Z = true) (w2 : (Jvm.Cond.instanceMethod z).before a1 Z = true) (wpub : (Jvm.Cond.publicMethod z).before a1 Z = true) (wunh : (Jvm.Cond.unhidden C yy.name yy.desc).before a1 Z = true) (wcast : (Jvm.Cond.castable C yy.cls).before a1 Z = true) (w3 : (Jvm.Cond.initialized z.cls).before a1 Z = true) (w4 : (Jvm.Cond.code z bytesZ mxZ rtZ).before a1 Z = true) (E : Exa Z h a C)
    (hy : yy.cls ≠ "java/lang/invoke/MethodHandle" ∧ yy.cls ≠ "java/lang/invoke/VarHandle") (hlen : ∀ sig, parseMethodDescriptor yy.desc = some sig → argsL.length = sig.parameters.length) (hst : S = argsL.reverse ++ .ref a :: rest) (Wd : Nat) (hW : (rest.map fun v => v.category).sum = Wd) (hL : L.size = mx) (hf : rm.frames + 1 ≤ R.frames) (hl : Wd + (mxZ + 11) + rm.locals ≤ R.locals) (hc : kc + rm.cells ≤ R.cells) (hs : ks + rm.slots ≤ R.slots) (hSL : ∀ x ∈ SL', x ∈ SL) (q : pc + 5 = pc')
    (K : ∀ v h' N, QZ v h' N → h.size ≤ h'.size → Go l Z y bytes mx rt R EL n0 w Q h' (kc + rm.cells) (ks + rm.slots) (N ++ SL) pc' L (v.toList ++ rest)) : Go l Z y bytes mx rt R EL n0 w Q h kc ks SL pc L S := by
  intro p e s m args below meth c T W
  subst q
  have W0 := W
  obtain ⟨⟨hx, hby, hml, -, -, -, a2, hEW⟩, k0, locs, X, e1, hS, hk, hZ, hown, hC, N, -, hSf⟩ := W
  obtain ⟨cq, kq, qa, qb, qc⟩ := isOf (s := s.setVm T.vm) hZ e1 E
  obtain ⟨v, vm₁, ⟨T', Lt, kt, nt⟩, -, X', hS', hgr, ⟨Ls, N', hQ, hFr, l1, l2, l3, hC', hSf', hw'⟩, st⟩ := X.interfaceBackS hx hown (mvT (s := s.setVm T.vm) hZ w1) (mvT (s := s.setVm T.vm) hZ wdec) (mvT (s := s.setVm T.vm) hZ wface (by simp [Cond.onTables, Cond.keepsFace, Cond.keeps, Cond.steady, Cond.faceAtom, hy.1, hy.2])) (mvT (s := s.setVm T.vm) hZ wsel) (mvT (s := s.setVm T.vm) hZ w2) (mvT (s := s.setVm T.vm) hZ wpub) (mvT (s := s.setVm T.vm) hZ wunh) (mvT (s := s.setVm T.vm) hZ wcast) hy (Ct.pay (W := Wd) hM hZ hEW hC.1 (hSf.mono hSL) w4 w3 hf hl) qa qb qc (g := mkF m pc L S) rfl (hL.trans hml.symm) (Steps.refl _) (argsL := argsL) (rest := rest) hlen hst (by show 2 * 0 + _ ≤ _; omega) (hb hby hd) (fun _ _ => ⟨rfl, e1, hc, hs⟩)
  dsimp only [Pt.U, Pt.locs, Pt.cells, Pt.slots] at X' l1 l2 l3 st hQ hC' hSf' hw' hgr hS'
  subst l1 l2 l3
  have hS2 : Sfs Z EL T'.vm T'.heap (N' ++ SL) := fun x hx' => (List.mem_append.mp hx').elim (hSf' x) (hSf.chr hC' x)
  obtain ⟨s₂, o, st2, r⟩ := K v _ N' hQ hC'.2.1 p e s m args below meth c T' (W0.nextS X' rfl hS' hC'.2.1 (Nat.le_refl _) hC' (N.app hFr) hw' hS2)
  exact ⟨s₂, o, st.trans st2, r⟩
theorem Go.callUp {a : Addr} {C : String} {owner : String} (hM : Ct l Z z bytesZ mxZ rtZ rm EL n0 w [] (.ref a :: argsL).toArray h SL' QZ) (hd : decode bytes pc = .ok (.invokevirtual index, 3)) (w1 : (Jvm.Cond.methodLink y.cls index yy).before a1 Z = true) (wsame : (Jvm.Cond.sameMethod yy.cls owner yy.name yy.desc).before a1 Z = true) (wdec : (Jvm.Cond.declares ⟨owner, yy.name, yy.desc⟩).before a1 Z = true) (wsel : (Jvm.Cond.selects C yy z).before a1 Z = true) (w2 : (Jvm.Cond.instanceMethod z).before a1 Z = true) (w3 : (Jvm.Cond.initialized z.cls).before a1 Z = true) (w4 : (Jvm.Cond.code z bytesZ mxZ rtZ).before a1 Z = true) (E : Exa Z h a C)
    (hy : owner ≠ "java/lang/invoke/MethodHandle" ∧ owner ≠ "java/lang/invoke/VarHandle") (hlen : ∀ sig, parseMethodDescriptor yy.desc = some sig → argsL.length = sig.parameters.length) (hst : S = argsL.reverse ++ .ref a :: rest) (Wd : Nat) (hW : (rest.map fun v => v.category).sum = Wd) (hL : L.size = mx) (hf : rm.frames + 1 ≤ R.frames) (hl : Wd + (mxZ + 11) + rm.locals ≤ R.locals) (hc : kc + rm.cells ≤ R.cells) (hs : ks + rm.slots ≤ R.slots) (hSL : ∀ x ∈ SL', x ∈ SL) (q : pc + 3 = pc')
    (K : ∀ v h' N, QZ v h' N → h.size ≤ h'.size → Go l Z y bytes mx rt R EL n0 w Q h' (kc + rm.cells) (ks + rm.slots) (N ++ SL) pc' L (v.toList ++ rest)) : Go l Z y bytes mx rt R EL n0 w Q h kc ks SL pc L S := by
  intro p e s m args below meth c T W
  subst q
  have W0 := W
  obtain ⟨⟨hx, hby, hml, -, -, -, a2, hEW⟩, k0, locs, X, e1, hS, hk, hZ, hown, hC, N, -, hSf⟩ := W
  obtain ⟨cq, kq, qa, qb, qc⟩ := isOf (s := s.setVm T.vm) hZ e1 E
  obtain ⟨v, vm₁, ⟨T', Lt, kt, nt⟩, -, X', hS', hgr, ⟨Ls, N', hQ, hFr, l1, l2, l3, hC', hSf', hw'⟩, st⟩ := X.virtualBackUpS hx hown (mvT (s := s.setVm T.vm) hZ w1) (mvT (s := s.setVm T.vm) hZ wsame) (mvT (s := s.setVm T.vm) hZ wdec) hy (mvT (s := s.setVm T.vm) hZ wsel) (mvT (s := s.setVm T.vm) hZ w2) (Ct.pay (W := Wd) hM hZ hEW hC.1 (hSf.mono hSL) w4 w3 hf hl) qa qc (g := mkF m pc L S) rfl (hL.trans hml.symm) (Steps.refl _) (argsL := argsL) (rest := rest) hlen hst (by show 2 * 0 + _ ≤ _; omega) (hb hby hd) (fun _ _ => ⟨rfl, e1, hc, hs⟩)
  dsimp only [Pt.U, Pt.locs, Pt.cells, Pt.slots] at X' l1 l2 l3 st hQ hC' hSf' hw' hgr hS'
  subst l1 l2 l3
  have hS2 : Sfs Z EL T'.vm T'.heap (N' ++ SL) := fun x hx' => (List.mem_append.mp hx').elim (hSf' x) (hSf.chr hC' x)
  obtain ⟨s₂, o, st2, r⟩ := K v _ N' hQ hC'.2.1 p e s m args below meth c T' (W0.nextS X' rfl hS' hC'.2.1 (Nat.le_refl _) hC' (N.app hFr) hw' hS2)
  exact ⟨s₂, o, st.trans st2, r⟩
theorem Go.callSN {host : String} (hM : Ct l Z z bytesZ mxZ rtZ rm EL n0 w [] argsL.toArray h SL' QZ) (hd : decode bytes pc = .ok (.invokestatic index, 3)) (w1 : (Jvm.Cond.methodLinkNest y.cls index z host).before a1 Z = true) (w2 : (Jvm.Cond.static z).before a1 Z = true) (w3 : (Jvm.Cond.initialized z.cls).before a1 Z = true) (w4 : (Jvm.Cond.code z bytesZ mxZ rtZ).before a1 Z = true)
    (hy : z.cls ≠ "java/lang/invoke/MethodHandle" ∧ z.cls ≠ "java/lang/invoke/VarHandle") (hlen : ∀ sig, parseMethodDescriptor z.desc = some sig → argsL.length = sig.parameters.length) (hst : S = argsL.reverse ++ rest) (Wd : Nat) (hW : (rest.map fun v => v.category).sum = Wd) (hL : L.size = mx) (hf : rm.frames + 1 ≤ R.frames) (hl : Wd + (mxZ + 11) + rm.locals ≤ R.locals) (hc : kc + rm.cells ≤ R.cells) (hs : ks + rm.slots ≤ R.slots) (hSL : ∀ x ∈ SL', x ∈ SL) (q : pc + 3 = pc')
    (K : ∀ v h' N, QZ v h' N → h.size ≤ h'.size → Go l Z y bytes mx rt R EL n0 w Q h' (kc + rm.cells) (ks + rm.slots) (N ++ SL) pc' L (v.toList ++ rest)) : Go l Z y bytes mx rt R EL n0 w Q h kc ks SL pc L S := by
  intro p e s m args below meth c T W
  subst q
  have W0 := W
  obtain ⟨⟨hx, hby, hml, -, -, -, a2, hEW⟩, k0, locs, X, e1, hS, hk, hZ, hown, hC, N, -, hSf⟩ := W
  obtain ⟨v, vm₁, ⟨T', Lt, kt, nt⟩, -, X', hS', hgr, ⟨Ls, N', hQ, hFr, l1, l2, l3, hC', hSf', hw'⟩, st⟩ := RoadKit.callSNS X hx hown (mvNest (s := s.setVm T.vm) hZ w1) (mvT (s := s.setVm T.vm) hZ w2) (mvT (s := s.setVm T.vm) hZ w3) (mvT (s := s.setVm T.vm) hZ w4) hy (Ct.pay (W := Wd) hM hZ hEW hC.1 (hSf.mono hSL) w4 w3 hf hl) (g := mkF m pc L S) rfl (hL.trans hml.symm) (argsL := argsL) (rest := rest) hlen hst (by show 2 * 0 + _ ≤ _; omega) (hb hby hd) (fun _ _ => ⟨rfl, e1, hc, hs⟩)
  dsimp only [Pt.U, Pt.locs, Pt.cells, Pt.slots] at X' l1 l2 l3 st hQ hC' hSf' hw' hgr hS'
  subst l1 l2 l3
  have hS2 : Sfs Z EL T'.vm T'.heap (N' ++ SL) := fun x hx' => (List.mem_append.mp hx').elim (hSf' x) (hSf.chr hC' x)
  obtain ⟨s₂, o, st2, r⟩ := K v _ N' hQ hC'.2.1 p e s m args below meth c T' (W0.nextS X' rfl hS' hC'.2.1 (Nat.le_refl _) hC' (N.app hFr) hw' hS2)
  exact ⟨s₂, o, st.trans st2, r⟩
theorem Go.tsw {dflt low high o : Int} {offs : Array Int} {len : Nat} {i : Int32} (hd : decode bytes pc = .ok (.tableswitch dflt low high offs, len)) (hin : ¬ (i.toInt < low ∨ i.toInt > high)) (hoff : offs[(i.toInt - low).toNat]? = some o) (ho : 0 ≤ (pc : Int) + o) (hp : ((pc : Int) + o).toNat = pc') (K : Go l Z y bytes mx rt R EL n0 w Q h kc ks SL pc' L S) : Go l Z y bytes mx rt R EL n0 w Q h kc ks SL pc L (.int i :: S) := Go.st (fun W t kk => by obtain ⟨⟨hx, hby, -⟩, _, _, X, -⟩ := W; exact XS.tswIn X.here hx rfl rfl (hb hby hd) rfl hin hoff ho hp kk) K
end Calls6
end Jvm.GoKit
namespace Jvm.GoKit
open Sem ClassFile Op Lib Jvm.Stand Jvm.Free Jvm.LawKit Jvm.RoadKit
/-- a Latin-1 String at a, its bytes at b -/
def Str (Z : State) (h : Heap) (a b : Addr) (ll : List Int32) : Prop := Exa Z h a "java/lang/String" ∧ Fld Z h a "java/lang/String" "coder" "B" (.int (0 : Int32)) ∧ Fld Z h a "java/lang/String" "value" "[B" (.ref b) ∧ ∃ k, Arv Z h b k .byte (Int32.ofNat ll.length) (ll.map Value.int) (.int 0)
/-- a Latin-1 StringBuilder at a, its bytes at b, so many of them, ll the content -/
def Sb (Z : State) (h : Heap) (a b : Addr) (cap : Nat) (ll : List Int32) : Prop := Exa Z h a "java/lang/StringBuilder" ∧ Fld Z h a "java/lang/AbstractStringBuilder" "count" "I" (.int (Int32.ofNat ll.length)) ∧ Fld Z h a "java/lang/AbstractStringBuilder" "coder" "B" (.int (0 : Int32)) ∧ Fld Z h a "java/lang/AbstractStringBuilder" "value" "[B" (.ref b) ∧ ∃ k vr, Arv Z h b k .byte (Int32.ofNat cap) ((ll ++ vr).map Value.int) (.int 0) ∧ (ll ++ vr).length = cap
section
variable {Z : State} {h h' : Heap} {a b : Addr} {cap : Nat} {ll : List Int32} {ws : List Addr}
theorem Str.ext (F : Str Z h a b ll) (E : Ext h h') : Str Z h' a b ll := by
  obtain ⟨f1, f2, f3, k, f4⟩ := F; exact ⟨Exa.ext E f1, Fld.ext E f2, Fld.ext E f3, k, f4.ext E⟩
theorem Str.keep (F : Str Z h a b ll) (K : Keep h h' ws) (q1 : a ∉ ws) (q2 : b ∉ ws) : Str Z h' a b ll := by
  obtain ⟨f1, f2, f3, k, f4⟩ := F; exact ⟨f1.keep K, f2.keep K q1, f3.keep K q1, k, f4.keep K q2⟩
theorem Str.lt (F : Str Z h a b ll) : a < h.size := F.1.lt
theorem Str.ltb (F : Str Z h a b ll) : b < h.size := by obtain ⟨f1, f2, f3, k, f4⟩ := F; exact f4.lt
theorem Sb.ext (F : Sb Z h a b cap ll) (E : Ext h h') : Sb Z h' a b cap ll := by
  obtain ⟨f1, f2, f3, f4, k, vr, f5, f6⟩ := F; exact ⟨Exa.ext E f1, Fld.ext E f2, Fld.ext E f3, Fld.ext E f4, k, vr, f5.ext E, f6⟩
theorem Sb.keep (F : Sb Z h a b cap ll) (K : Keep h h' ws) (q1 : a ∉ ws) (q2 : b ∉ ws) : Sb Z h' a b cap ll := by
  obtain ⟨f1, f2, f3, f4, k, vr, f5, f6⟩ := F; exact ⟨f1.keep K, f2.keep K q1, f3.keep K q1, f4.keep K q1, k, vr, f5.keep K q2, f6⟩
theorem Sb.lt (F : Sb Z h a b cap ll) : a < h.size := F.1.lt
theorem Sb.ltb (F : Sb Z h a b cap ll) : b < h.size := by obtain ⟨f1, f2, f3, f4, k, vr, f5, f6⟩ := F; exact f5.lt
theorem Sb.nsA (F : Sb Z h a b cap ll) : ∀ cell : Cell, h[a]? = some cell → cell.vm.isStatics = false := F.1.nostat
theorem Sb.nsB (F : Sb Z h a b cap ll) : ∀ cell : Cell, h[b]? = some cell → cell.vm.isStatics = false := by obtain ⟨f1, f2, f3, f4, k, vr, f5, f6⟩ := F; exact f5.nostat
theorem Str.nsA (F : Str Z h a b ll) : ∀ cell : Cell, h[a]? = some cell → cell.vm.isStatics = false := F.1.nostat
end
theorem shl0 (n : Int32) : n <<< ((0 : Int32) &&& 31) = n := by
  have e : (0 : Int32) &&& 31 = 0 := by decide
  rw [e]; simp
theorem ofN_add (i j : Nat) : Int32.ofNat i + Int32.ofNat j = Int32.ofNat (i + j) := (Int32.ofNat_add _ _).symm
theorem ofN_sub {p c : Nat} (h : c ≤ p) : Int32.ofNat p - Int32.ofNat c = Int32.ofNat (p - c) := by
  have e : Int32.ofNat p = Int32.ofNat (p - c) + Int32.ofNat c := by rw [ofN_add, Nat.sub_add_cancel h]
  rw [e]; exact Int32.add_sub_cancel _ _
theorem ofN_sub_le {p c : Nat} (h : p ≤ c) (hc : c < 2 ^ 31) : ¬ (0 < Int32.ofNat p - Int32.ofNat c) := by
  have e : Int32.ofNat p - Int32.ofNat c = -(Int32.ofNat (c - p)) := by rw [← ofN_sub h, Int32.neg_sub]
  rw [e]
  intro q
  have hz : (Int32.ofNat (c - p)).toInt = (c - p : Nat) := Int32.toInt_ofNat_of_lt (by omega)
  rw [Int32.lt_iff_toInt_lt, Int32.toInt_neg, hz] at q
  have e0 : (0 : Int32).toInt = 0 := by decide
  rw [e0] at q
  have e1 : (-((c - p : Nat) : Int)).bmod (2 ^ 32) = -((c - p : Nat) : Int) := by
    apply Int.bmod_eq_of_le <;> omega
  rw [e1] at q
  omega
theorem ofN_pos {p : Nat} (h : 0 < p) (hp : p < 2 ^ 31) : (0 : Int32) < Int32.ofNat p := by
  have e : (0 : Int32) = Int32.ofNat 0 := rfl
  rw [e, ofN_lt (by omega) hp]; exact h
theorem cp_us (m : List Int32) : (m.map Value.int) = (List.range m.length).map fun i => (m.map Value.int).getD (0 + i) (.int 0) := by
  apply List.ext_getElem
  · simp
  · intro i h1 h2
    simp at h1
    simp [h1]
theorem cp_us2 (m r : List Int32) : (m.map Value.int) = (List.range m.length).map fun i => ((m ++ r).map Value.int).getD (0 + i) (.int 0) := by
  apply List.ext_getElem
  · simp
  · intro i h1 h2
    simp at h1
    simp [h1, List.getElem?_append_left]
theorem put_at (ll m vr : List Int32) : ((ll ++ vr).map Value.int).take ll.length ++ m.map Value.int ++ ((ll ++ vr).map Value.int).drop (ll.length + m.length) = ((ll ++ m) ++ vr.drop m.length).map Value.int := by
  simp [List.take_append, List.drop_append, List.map_append, List.map_drop]
end Jvm.GoKit
namespace Jvm.GoKit
open Jvm Jvm.RoadKit Jvm.Free
abbrev by8 (c : Int32) : Int32 := c.toInt8.toInt32
theorem nn_nat {c : Int32} (h0 : ¬ c < 0) : (c.toInt = c.toBitVec.toNat) := by
  rw [Int32.lt_iff_toInt_lt] at h0
  have e0 : (0 : Int32).toInt = 0 := by decide
  have h1 : c.toInt = c.toBitVec.toInt := rfl
  rw [BitVec.toInt_eq_toNat_cond] at h1
  have := c.toBitVec.isLt
  split at h1 <;> omega
theorem hi_bits {c : Int32} (h0 : ¬ c < 0) (h1 : ¬ 65535 < c) (i : Nat) (hi : 16 ≤ i) : c.toBitVec.getLsbD i = false := by
  have e := nn_nat h0
  rw [Int32.lt_iff_toInt_lt] at h1
  have e1 : (65535 : Int32).toInt = 65535 := by decide
  have hn : c.toBitVec.toNat < 2 ^ 16 := by omega
  show c.toBitVec.toNat.testBit i = false
  exact Nat.testBit_lt_two_pow (Nat.lt_of_lt_of_le hn (Nat.pow_le_pow_right (by decide) hi))
theorem shr1 {m : Nat} (h : m < 2 ^ 20) : Int32.ofNat (2 * m) >>> ((1 : Int32) &&& 31) = Int32.ofNat m := by
  have e : (1 : Int32) &&& 31 = 1 := by decide
  rw [e]
  apply Int32.toBitVec_inj.mp
  rw [Int32.toBitVec_shiftRight]
  have e2 : (1 : Int32).toBitVec.smod 32 = 1#32 := by decide
  rw [e2]
  apply BitVec.eq_of_toInt_eq
  show (BitVec.sshiftRight (Int32.ofNat (2 * m)).toBitVec 1).toInt = (Int32.ofNat m).toInt
  rw [BitVec.toInt_sshiftRight]
  show (Int32.ofNat (2 * m)).toInt >>> 1 = _
  rw [Int32.toInt_ofNat_of_lt (by omega), Int32.toInt_ofNat_of_lt (by omega)]
  rw [Int.shiftRight_eq_div_pow]
  omega
theorem shl1 {m : Nat} : Int32.ofNat m <<< ((1 : Int32) &&& 31) = Int32.ofNat (2 * m) := by
  have e : (1 : Int32) &&& 31 = 1 := by decide
  rw [e]
  apply Int32.toBitVec_inj.mp
  rw [Int32.toBitVec_shiftLeft]
  have e2 : (1 : Int32).toBitVec.smod 32 = 1#32 := by decide
  rw [e2]
  apply BitVec.eq_of_toNat_eq
  show ((BitVec.ofNat 32 m) <<< 1).toNat = (BitVec.ofNat 32 (2 * m)).toNat
  simp [BitVec.toNat_shiftLeft, Nat.shiftLeft_eq]
  omega
theorem gchar {c : Int32} (h0 : ¬ c < 0) (h1 : ¬ 65535 < c) : nar .char (((by8 (c >>> ((0 : Int32) &&& 31)) &&& 255) <<< ((0 : Int32) &&& 31)) ||| ((by8 (c >>> ((8 : Int32) &&& 31)) &&& 255) <<< ((8 : Int32) &&& 31))) = c := by
  have e0 : (0 : Int32) &&& 31 = 0 := by decide
  have e8 : (8 : Int32) &&& 31 = 8 := by decide
  rw [e0, e8]
  apply Int32.toBitVec_inj.mp
  apply BitVec.eq_of_getLsbD_eq
  intro i hi
  have z0 : (0 : Int32).toBitVec.smod 32 = 0#32 := by decide
  have z8 : (8 : Int32).toBitVec.smod 32 = 8#32 := by decide
  have m255 : (255 : Int32).toBitVec = 255#32 := by decide
  have hb : ∀ j, 16 ≤ j → c.toBitVec.getLsbD j = false := fun j hj => hi_bits h0 h1 j hj
  show ((BitVec.setWidth 32 (BitVec.setWidth 16 (Int32.toBitVec _)))).getLsbD i = _
  simp only [Int32.toBitVec_or, Int32.toBitVec_and, Int32.toBitVec_shiftLeft, Int32.toBitVec_shiftRight, Int8.toBitVec_toInt32, Int32.toBitVec_toInt8, z0, z8, m255]
  have hm : ∀ j, (255#32).getLsbD j = decide (j < 8) := by
    intro j
    by_cases q : j < 32
    · have := (show ∀ j : Fin 32, (255#32).getLsbD j.val = decide (j.val < 8) by decide) ⟨j, q⟩
      exact this
    · rw [BitVec.getLsbD_of_ge _ _ (by omega)]; simp; omega
  simp only [BitVec.getLsbD_setWidth, BitVec.getLsbD_or, BitVec.getLsbD_and, BitVec.getLsbD_shiftLeft, BitVec.getLsbD_signExtend, BitVec.sshiftRight', BitVec.getLsbD_sshiftRight, BitVec.shiftLeft_eq', hm, BitVec.toNat_ofNat]
  by_cases q8 : i < 8
  · simp [q8, hi, show i < 16 by omega, show i < 32 by omega]
  · by_cases q16 : i < 16
    · simp [q8, q16, hi, show i - 8 < 8 by omega, show i - 8 < 32 by omega, show 8 + (i - 8) = i by omega, show ¬ 32 ≤ i - 8 by omega]
    · simp [q8, q16, hb i (by omega)]
theorem lchar {c : Int32} (h0 : ¬ c < 0) (h1 : ¬ 255 < c) : nar .char (by8 c &&& 255) = c := by
  have e := nn_nat h0
  rw [Int32.lt_iff_toInt_lt] at h1
  have e1 : (255 : Int32).toInt = 255 := by decide
  have hb : ∀ j, 8 ≤ j → c.toBitVec.getLsbD j = false := fun j hj => by
    show c.toBitVec.toNat.testBit j = false
    exact Nat.testBit_lt_two_pow (Nat.lt_of_lt_of_le (show c.toBitVec.toNat < 2 ^ 8 by omega) (Nat.pow_le_pow_right (by decide) hj))
  have m255 : (255 : Int32).toBitVec = 255#32 := by decide
  apply Int32.toBitVec_inj.mp
  apply BitVec.eq_of_getLsbD_eq
  intro i hi
  show ((BitVec.setWidth 32 (BitVec.setWidth 16 (Int32.toBitVec _)))).getLsbD i = _
  simp only [Int32.toBitVec_and, Int8.toBitVec_toInt32, Int32.toBitVec_toInt8, m255]
  have hm : ∀ j, (255#32).getLsbD j = decide (j < 8) := by
    intro j
    by_cases q : j < 32
    · exact (show ∀ j : Fin 32, (255#32).getLsbD j.val = decide (j.val < 8) by decide) ⟨j, q⟩
    · rw [BitVec.getLsbD_of_ge _ _ (by omega)]; simp; omega
  simp only [BitVec.getLsbD_setWidth, BitVec.getLsbD_and, BitVec.getLsbD_signExtend, hm]
  by_cases q8 : i < 8
  · simp [q8, hi, show i < 16 by omega]
  · simp [q8, hb i (by omega)]
theorem by8_eq {c : Int32} {v : Int32} (h0 : ¬ c < 0) (h1 : ¬ 255 < c) (hv0 : ¬ v < 0) (hv1 : ¬ 127 < v) : (v = c.toInt8.toInt32) ↔ c = v := by
  rw [Int32.lt_iff_toInt_lt] at h0 h1 hv0 hv1
  have e0 : (0 : Int32).toInt = 0 := by decide
  have e1 : (255 : Int32).toInt = 255 := by decide
  have e2 : (127 : Int32).toInt = 127 := by decide
  rw [← Int32.toInt_inj, ← Int32.toInt_inj, Int8.toInt_toInt32, Int32.toInt_toInt8]
  simp only [Int.bmod]
  omega
theorem nar_cc (x : Int32) : nar .char (nar .char x) = nar .char x := by
  apply Int32.toBitVec_inj.mp
  show BitVec.setWidth 32 (BitVec.setWidth 16 (BitVec.setWidth 32 (BitVec.setWidth 16 x.toBitVec))) = BitVec.setWidth 32 (BitVec.setWidth 16 x.toBitVec)
  congr 1
  apply BitVec.eq_of_toNat_eq
  simp [BitVec.toNat_setWidth]
theorem nar_rng (x : Int32) : ¬ nar .char x < 0 ∧ ¬ 65535 < nar .char x := by
  have hn : (nar .char x).toBitVec.toNat < 65536 := by
    show (BitVec.setWidth 32 (BitVec.setWidth 16 x.toBitVec)).toNat < 65536
    simp [BitVec.toNat_setWidth]
    omega
  have hi : (nar .char x).toInt = (nar .char x).toBitVec.toNat := by
    show (nar .char x).toBitVec.toInt = _
    rw [BitVec.toInt_eq_toNat_of_lt (by omega)]
  have e0 : (0 : Int32).toInt = 0 := by decide
  have e1 : (65535 : Int32).toInt = 65535 := by decide
  rw [Int32.lt_iff_toInt_lt, Int32.lt_iff_toInt_lt, hi, e0, e1]
  omega
end Jvm.GoKit
namespace Jvm.GoKit
open Sem ClassFile Op Lib Jvm.Stand Jvm.Free Jvm.LawKit Jvm.RoadKit
section Cuts
variable {l : Launch} {Z : State} {y : MethodName} {bytes : ByteArray} {mx : Nat} {rt : Option FieldType} {R : Room} {EL : List (String × Nat)} {n0 : Nat} {w : Bool} {Q : Option Value → Heap → List Addr → Prop} {h : Heap} {kc ks kcJ ksJ : Nat} {SL SLJ : List Addr} {pc : Nat} {L : Array Slot} {S : List Value}
/-- a number is made in one or more ways: the rest is walked once, for every such number -/
theorem Go.cutV (pcJ : Nat) (LJ : Int32 → Array Slot) (P : Int32 → Prop) (K : ∀ x, P x → Go l Z y bytes mx rt R EL n0 w Q h kcJ ksJ SLJ pcJ (LJ x) []) (K2 : (∀ x, P x → Go l Z y bytes mx rt R EL n0 w Q h kcJ ksJ SLJ pcJ (LJ x) []) → Go l Z y bytes mx rt R EL n0 w Q h kc ks SL pc L S) : Go l Z y bytes mx rt R EL n0 w Q h kc ks SL pc L S := K2 K
/-- roads that meet with other heaps (and another list) -/
theorem Go.cutE (pcJ : Nat) (LJ : List Int32 → Array Slot) (P : Heap → List Int32 → Prop) (K : ∀ h' E, P h' E → Go l Z y bytes mx rt R EL n0 w Q h' kcJ ksJ SLJ pcJ (LJ E) []) (K2 : (∀ h' E, P h' E → Go l Z y bytes mx rt R EL n0 w Q h' kcJ ksJ SLJ pcJ (LJ E) []) → Go l Z y bytes mx rt R EL n0 w Q h kc ks SL pc L S) : Go l Z y bytes mx rt R EL n0 w Q h kc ks SL pc L S := K2 K
end Cuts
def nl (z : Int32) : List Int32 := if z = 0 then [] else [10]
def mk2 (n c d : Int32) : List Int32 := if n = 0 then [] else if n = 1 then [c] else [c, d]
def or2 (x y : Int32) : Int32 := if x = 0 ∧ y = 0 then 0 else 1
/-- nine chars, the first of them given -/
def pad (E : List Int32) : List Value := (E ++ List.replicate (9 - E.length) (0 : Int32)).map Value.int
theorem pad_set (E : List Int32) (x : Int32) (h : E.length < 9) : (pad E).set E.length (.int x) = pad (E ++ [x]) := by
  unfold pad
  apply List.ext_getElem
  · simp; omega
  · intro i h1 h2
    simp only [List.getElem_set, List.getElem_map, List.getElem_append, List.length_append, List.length_cons, List.length_nil]
    by_cases q1 : E.length = i
    · subst q1; simp
    · by_cases q2 : i < E.length
      · simp [q1, q2, show i < E.length + 1 by omega]
      · simp [q1, q2, show ¬ i < E.length + 1 by omega]
theorem pad_len (E : List Int32) (h : E.length ≤ 9) : (pad E).length = 9 := by unfold pad; simp; omega
theorem pad_getD (E : List Int32) (i : Nat) : (pad E).getD i (.int 0) = .int (E.getD i 0) := by
  unfold pad
  simp only [List.getD_eq_getElem?_getD, List.getElem?_map]
  by_cases q : i < E.length
  · rw [List.getElem?_append_left q]; cases hE : E[i]? <;> rfl
  · rw [List.getElem?_append_right (by omega), List.getElem?_eq_none (show E.length ≤ i by omega)]
    by_cases q2 : i - E.length < 9 - E.length
    · simp [List.getElem?_replicate, q2]
    · simp [List.getElem?_replicate, q2]
theorem put1 (ll vr : List Int32) (x : Int32) (h : ll.length < (ll ++ vr).length) : ((ll ++ vr).map Value.int).set ll.length (.int x) = ((ll ++ [x] ++ vr.drop 1).map Value.int) := by
  cases vr with
  | nil => simp at h
  | cons v r => simp
/-- the char at i, 0 beyond -/
def at0 (ll : List Int32) (i : Nat) : Int32 := if i < ll.length then nar .char (ll.getD i 0 &&& 255) else 0
theorem at0_eq (H E : List Int32) (i : Nat) (hE : ∀ c ∈ E, ¬ c < 0 ∧ ¬ 255 < c) : at0 (H ++ E.map by8) (H.length + i) = E.getD i 0 := by
  unfold at0
  by_cases q : i < E.length
  · rw [if_pos (by simp; omega)]
    have e : (H ++ E.map by8).getD (H.length + i) 0 = by8 (E.getD i 0) := by
      simp [List.getD_eq_getElem?_getD, List.getElem?_append_right, q]
    rw [e]
    have hm : E.getD i 0 ∈ E := by simp [List.getD_eq_getElem?_getD, q]
    exact lchar (hE _ hm).1 (hE _ hm).2
  · rw [if_neg (by simp; omega)]
    simp [List.getD_eq_getElem?_getD, List.getElem?_eq_none (show E.length ≤ i by omega)]
end Jvm.GoKit
namespace Jvm.Pilot.@@N@@
open Jvm Jvm.ClassFile Sem Op Lib Jvm.Free Jvm.Stand Jvm.LawKit Jvm.RoadKit Jvm.GoKit Bundle Jvm.Pilot.@@N@@.Jvm.D
set_option maxRecDepth 65536
set_option maxHeartbeats 40000000
abbrev EL1 : List (String × Nat) := consts_1
theorem own_ew {Z : State} {a0 : Array Value} (hw : ∀ d ∈ tables_1, d.before a0 Z = true) : EW Z a0 EL1 := EW.cons (wd hw 27 rfl) (by decide) (EW.cons (wd hw 7 rfl) (by decide) (EW.cons (wd hw 175 rfl) (by decide) (EW.nil)))
theorem own_ws {Z : State} {a0 : Array Value} (hw : ∀ d ∈ tables_1, d.before a0 Z = true) : ∀ d ∈ Bundle.stringAtoms, d.before a0 Z = true := fun d hd => by
  simp only [Bundle.stringAtoms, List.mem_cons, List.not_mem_nil, or_false] at hd
  rcases hd with rfl | rfl | rfl | rfl | rfl | rfl | rfl
  · exact (wd hw 8 rfl)
  · exact (wd hw 9 rfl)
  · exact (wd hw 10 rfl)
  · exact (wd hw 11 rfl)
  · exact (wd hw 12 rfl)
  · exact (wd hw 13 rfl)
  · exact (wd hw 14 rfl)
theorem pn_java_lang_String : plainName "java/lang/String" = true := by first | (simp [plainName, overriddenIn]; done) | decide +kernel
theorem dj42m152_0 : decode jdk_42_method_152_code 0 = .ok (.getstatic 38, 3) := by decide +kernel
theorem dj42m152_3 : decode jdk_42_method_152_code 3 = .ok (.ifCond .eq 10, 3) := by decide +kernel
theorem dj42m152_6 : decode jdk_42_method_152_code 6 = .ok (.aload_n 0, 1) := by decide +kernel
theorem dj42m152_7 : decode jdk_42_method_152_code 7 = .ok (.getfield 15, 3) := by decide +kernel
theorem dj42m152_10 : decode jdk_42_method_152_code 10 = .ok (.goto 4, 3) := by decide +kernel
theorem dj42m152_14 : decode jdk_42_method_152_code 14 = .ok (.ireturn, 1) := by decide +kernel
theorem ct_coder (l : Launch) (Z : State) (a0 : Array Value) (hw : ∀ d ∈ tables_1, d.before a0 Z = true) (n0 : Nat) (h0 : Heap) (a1 : Addr) (cs : Int32) (S_cs : Sta Z h0 "java/lang/String" "COMPACT_STRINGS" "Z" (.int cs)) (hcs : ¬ cs = 0) (FC : Fld Z h0 a1 "java/lang/String" "coder" "B" (.int (0 : Int32))) :
    Ct l Z (⟨"java/lang/String", "coder", "()B"⟩ : MethodName) jdk_42_method_152_code 1 (some .byte) ({ frames := 0, cells := 0, slots := 0, locals := 0 } : Room) EL1 n0 true [] #[(.ref a1)] h0 [] (fun v h N => h0 = h ∧ v = some (.int 0)) := by
  refine Ct.of (a0 := a0) (plainFor_of_name pn_java_lang_String) (own_ew hw) (L0 := #[.val (.ref a1)]) (fun _ => rfl) ?_
  refine Go.getS (pc' := 3) (host := "") (a1 := a0) dj42m152_0 (Or.inl (wd hw 49 rfl)) Via.refl S_cs rfl ?_
  refine Go.ifF (pc' := 6) dj42m152_3 (hcs) rfl ?_
  refine Go.aloadN (pc' := 7) dj42m152_6 rfl rfl rfl ?_
  refine Go.getF (pc' := 10) (host := "") (a1 := a0) dj42m152_7 (Or.inl (wd hw 50 rfl)) Via.refl FC rfl ?_
  refine Go.goto (pc' := 14) dj42m152_10 (by decide) (by decide) ?_
  refine Go.retN (t := .byte) (0 : Int32) rfl (by simp) rfl [] sl0 dj42m152_14 (by decide) (by decide) ?_
  exact ⟨rfl, rfl⟩
theorem dj42m154_0 : decode jdk_42_method_154_code 0 = .ok (.getstatic 38, 3) := by decide +kernel
theorem dj42m154_3 : decode jdk_42_method_154_code 3 = .ok (.ifCond .eq 14, 3) := by decide +kernel
theorem dj42m154_6 : decode jdk_42_method_154_code 6 = .ok (.aload_n 0, 1) := by decide +kernel
theorem dj42m154_7 : decode jdk_42_method_154_code 7 = .ok (.getfield 15, 3) := by decide +kernel
theorem dj42m154_10 : decode jdk_42_method_154_code 10 = .ok (.ifCond .ne 7, 3) := by decide +kernel
theorem dj42m154_13 : decode jdk_42_method_154_code 13 = .ok (.iconst 1, 1) := by decide +kernel
theorem dj42m154_14 : decode jdk_42_method_154_code 14 = .ok (.goto 4, 3) := by decide +kernel
theorem dj42m154_18 : decode jdk_42_method_154_code 18 = .ok (.ireturn, 1) := by decide +kernel
theorem ct_isLatin1 (l : Launch) (Z : State) (a0 : Array Value) (hw : ∀ d ∈ tables_1, d.before a0 Z = true) (n0 : Nat) (h0 : Heap) (a1 : Addr) (cs : Int32) (S_cs : Sta Z h0 "java/lang/String" "COMPACT_STRINGS" "Z" (.int cs)) (hcs : ¬ cs = 0) (FC : Fld Z h0 a1 "java/lang/String" "coder" "B" (.int (0 : Int32))) :
    Ct l Z (⟨"java/lang/String", "isLatin1", "()Z"⟩ : MethodName) jdk_42_method_154_code 1 (some .boolean) ({ frames := 0, cells := 0, slots := 0, locals := 0 } : Room) EL1 n0 true [] #[(.ref a1)] h0 [] (fun v h N => h0 = h ∧ v = some (.int 1)) := by
  refine Ct.of (a0 := a0) (plainFor_of_name pn_java_lang_String) (own_ew hw) (L0 := #[.val (.ref a1)]) (fun _ => rfl) ?_
  refine Go.getS (pc' := 3) (host := "") (a1 := a0) dj42m154_0 (Or.inl (wd hw 49 rfl)) Via.refl S_cs rfl ?_
  refine Go.ifF (pc' := 6) dj42m154_3 (hcs) rfl ?_
  refine Go.aloadN (pc' := 7) dj42m154_6 rfl rfl rfl ?_
  refine Go.getF (pc' := 10) (host := "") (a1 := a0) dj42m154_7 (Or.inl (wd hw 50 rfl)) Via.refl FC rfl ?_
  refine Go.ifF (pc' := 13) dj42m154_10 (show (0 : Int32) = (0 : Int32) by decide) rfl ?_
  refine Go.iconst (pc' := 14) 1 dj42m154_13 rfl rfl ?_
  refine Go.goto (pc' := 18) dj42m154_14 (by decide) (by decide) ?_
  refine Go.retN (t := .boolean) (1 : Int32) rfl (by simp) rfl [] sl0 dj42m154_18 (by decide) (by decide) ?_
  exact ⟨rfl, rfl⟩
theorem dj42m54_0 : decode jdk_42_method_54_code 0 = .ok (.aload_n 0, 1) := by decide +kernel
theorem dj42m54_1 : decode jdk_42_method_54_code 1 = .ok (.getfield 9, 3) := by decide +kernel
theorem dj42m54_4 : decode jdk_42_method_54_code 4 = .ok (.arraylength, 1) := by decide +kernel
theorem dj42m54_5 : decode jdk_42_method_54_code 5 = .ok (.aload_n 0, 1) := by decide +kernel
theorem pd_0 : parseMethodDescriptor "()B" = some ⟨[], (some .byte)⟩ := by decide +kernel
theorem dj42m54_6 : decode jdk_42_method_54_code 6 = .ok (.invokevirtual 335, 3) := by decide +kernel
theorem dj42m54_9 : decode jdk_42_method_54_code 9 = .ok (.ishr, 1) := by decide +kernel
theorem dj42m54_10 : decode jdk_42_method_54_code 10 = .ok (.ireturn, 1) := by decide +kernel
theorem ct_length (l : Launch) (Z : State) (a0 : Array Value) (hw : ∀ d ∈ tables_1, d.before a0 Z = true) (n0 : Nat) (h0 : Heap) (a1 b : Addr) (k : ClassId) (n : Int32) (vs : List Value) (cs : Int32) (S_cs : Sta Z h0 "java/lang/String" "COMPACT_STRINGS" "Z" (.int cs)) (hcs : ¬ cs = 0) (E : Exa Z h0 a1 "java/lang/String") (FC : Fld Z h0 a1 "java/lang/String" "coder" "B" (.int (0 : Int32))) (FV : Fld Z h0 a1 "java/lang/String" "value" "[B" (.ref b)) (AV : Arv Z h0 b k .byte n vs (.int 0)) :
    Ct l Z (⟨"java/lang/String", "length", "()I"⟩ : MethodName) jdk_42_method_54_code 1 (some .int) ({ frames := 1, cells := 0, slots := 0, locals := 13 } : Room) EL1 n0 true [] #[(.ref a1)] h0 [] (fun v h N => h0 = h ∧ v = some (.int n)) := by
  refine Ct.of (a0 := a0) (plainFor_of_name pn_java_lang_String) (own_ew hw) (L0 := #[.val (.ref a1)]) (fun _ => rfl) ?_
  have l0_E := nlt E.lt
  have l0_AV := nlt AV.lt
  refine Go.aloadN (pc' := 1) dj42m54_0 rfl rfl rfl ?_
  refine Go.getF (pc' := 4) (host := "") (a1 := a0) dj42m54_1 (Or.inl (wd hw 43 rfl)) Via.refl FV rfl ?_
  refine Go.alenV (pc' := 5) dj42m54_4 AV rfl ?_
  refine Go.aloadN (pc' := 6) dj42m54_5 rfl rfl rfl ?_
  refine Go.callV (a1 := a0) (pc' := 9) (argsL := []) (rest := [(.int n)]) (ct_coder l Z a0 hw n0 h0 a1 cs S_cs hcs FC) dj42m54_6 (wd hw 44 rfl) (wd hw 45 rfl) (wd hw 47 rfl) (wd hw 47 rfl) (wd hw 46 rfl) (wd hw 8 rfl) (wd hw 48 rfl) E (by decide) (lenOf pd_0 rfl) rfl 1 rfl rfl (by decide) (by decide) (by decide) (by decide) sl0 rfl (fun v_1 h_2 N_3 hQ_4 hle_5 => ?_)
  obtain ⟨rfl, rfl⟩ := hQ_4
  refine Go.rs [(.int (0 : Int32)), (.int n)] rfl ?_
  refine Go.ishr (pc' := 10) dj42m54_9 rfl ?_
  refine Go.re (pc' := 10) (L' := #[.val (.ref a1)]) (S' := [.int n]) rfl rfl (by rw [shr0]) ?_
  refine Go.retI rfl [] sl0 dj42m54_10 (by decide) (by decide) ?_
  exact ⟨rfl, rfl⟩
theorem pn_jdk_internal_util_Preconditions : plainName "jdk/internal/util/Preconditions" = true := by first | (simp [plainName, overriddenIn]; done) | decide +kernel
theorem dj41m11_0 : decode jdk_41_method_11_code 0 = .ok (.iload_n 0, 1) := by decide +kernel
theorem dj41m11_1 : decode jdk_41_method_11_code 1 = .ok (.ifCond .lt 8, 3) := by decide +kernel
theorem dj41m11_4 : decode jdk_41_method_11_code 4 = .ok (.iload_n 0, 1) := by decide +kernel
theorem dj41m11_5 : decode jdk_41_method_11_code 5 = .ok (.iload_n 1, 1) := by decide +kernel
theorem dj41m11_6 : decode jdk_41_method_11_code 6 = .ok (.if_icmp .lt 10, 3) := by decide +kernel
theorem dj41m11_16 : decode jdk_41_method_11_code 16 = .ok (.iload_n 0, 1) := by decide +kernel
theorem dj41m11_17 : decode jdk_41_method_11_code 17 = .ok (.ireturn, 1) := by decide +kernel
theorem ct_pchk (l : Launch) (Z : State) (a0 : Array Value) (hw : ∀ d ∈ tables_1, d.before a0 Z = true) (n0 : Nat) (h0 : Heap) (p1 p2 : Int32) (sf : Value) (hsf : sf.isRef = true) (h1 : ¬ p1 < 0) (h2 : p1 < p2) :
    Ct l Z (⟨"jdk/internal/util/Preconditions", "checkIndex", "(IILjava/util/function/BiFunction;)I"⟩ : MethodName) jdk_41_method_11_code 3 (some .int) ({ frames := 0, cells := 0, slots := 0, locals := 0 } : Room) EL1 n0 true [] #[(.int p1), (.int p2), sf] h0 [] (fun v h N => h0 = h ∧ v = some (.int p1)) := by
  refine Ct.of (a0 := a0) (plainFor_of_name pn_jdk_internal_util_Preconditions) (own_ew hw) (L0 := #[.val (.int p1), .val (.int p2), .val (sf)]) (fun m => by rcases ref_cases hsf with rfl | ⟨_, rfl⟩ <;> first | (simp [entryFrame, mkF, argsToLocals, Value.category]; done) | rfl) ?_
  refine Go.iloadN (pc' := 1) dj41m11_0 rfl rfl ?_
  refine Go.ifF (pc' := 4) dj41m11_1 (h1) rfl ?_
  refine Go.iloadN (pc' := 5) dj41m11_4 rfl rfl ?_
  refine Go.iloadN (pc' := 6) dj41m11_5 rfl rfl ?_
  refine Go.icmpT (pc' := 16) dj41m11_6 (h2) (by decide) (by decide) ?_
  refine Go.iloadN (pc' := 17) dj41m11_16 rfl rfl ?_
  refine Go.retI rfl [] sl0 dj41m11_17 (by decide) (by decide) ?_
  exact ⟨rfl, rfl⟩
theorem dj42m155_0 : decode jdk_42_method_155_code 0 = .ok (.iload_n 0, 1) := by decide +kernel
theorem dj42m155_1 : decode jdk_42_method_155_code 1 = .ok (.iload_n 1, 1) := by decide +kernel
theorem dj42m155_2 : decode jdk_42_method_155_code 2 = .ok (.getstatic 1053, 3) := by decide +kernel
theorem pd_1 : parseMethodDescriptor "(IILjava/util/function/BiFunction;)I" = some ⟨[.int, .int, (.object "java/util/function/BiFunction")], (some .int)⟩ := by decide +kernel
theorem dj42m155_5 : decode jdk_42_method_155_code 5 = .ok (.invokestatic 1059, 3) := by decide +kernel
theorem dj42m155_8 : decode jdk_42_method_155_code 8 = .ok (.pop, 1) := by decide +kernel
theorem dj42m155_9 : decode jdk_42_method_155_code 9 = .ok (.return_, 1) := by decide +kernel
theorem ct_schk (l : Launch) (Z : State) (a0 : Array Value) (hw : ∀ d ∈ tables_1, d.before a0 Z = true) (n0 : Nat) (h0 : Heap) (p1 p2 : Int32) (sf : Value) (hsf : sf.isRef = true) (S_sf : Sta Z h0 "jdk/internal/util/Preconditions" "SIOOBE_FORMATTER" "Ljava/util/function/BiFunction;" sf) (h1 : ¬ p1 < 0) (h2 : p1 < p2) :
    Ct l Z (⟨"java/lang/String", "checkIndex", "(II)V"⟩ : MethodName) jdk_42_method_155_code 2 none ({ frames := 1, cells := 0, slots := 0, locals := 14 } : Room) EL1 n0 true [] #[(.int p1), (.int p2)] h0 [] (fun v h N => h0 = h ∧ v = none) := by
  refine Ct.of (a0 := a0) (plainFor_of_name pn_java_lang_String) (own_ew hw) (L0 := #[.val (.int p1), .val (.int p2)]) (fun _ => rfl) ?_
  refine Go.iloadN (pc' := 1) dj42m155_0 rfl rfl ?_
  refine Go.iloadN (pc' := 2) dj42m155_1 rfl rfl ?_
  refine Go.getS (pc' := 5) (host := "") (a1 := a0) dj42m155_2 (Or.inl (wd hw 193 rfl)) Via.refl S_sf rfl ?_
  refine Go.callS (a1 := a0) (pc' := 8) (argsL := [(.int p1), (.int p2), sf]) (rest := []) (ct_pchk l Z a0 hw n0 h0 p1 p2 sf hsf h1 h2) dj42m155_5 (wd hw 195 rfl) (wd hw 196 rfl) (wd hw 194 rfl) (wd hw 197 rfl) (by decide) (lenOf pd_1 rfl) rfl 0 rfl rfl (by decide) (by decide) (by decide) (by decide) sl0 rfl (fun v_1 h_2 N_3 hQ_4 hle_5 => ?_)
  obtain ⟨rfl, rfl⟩ := hQ_4
  refine Go.rs [(.int p1)] rfl ?_
  refine Go.pop (pc' := 9) dj42m155_8 rfl rfl ?_
  refine Go.ret0 rfl [] sl0 dj42m155_9 (by decide) (by decide) ?_
  exact ⟨rfl, rfl⟩
theorem getD_int (l : List Int32) (i : Nat) : (l.map Value.int).getD i (.int 0) = .int (l.getD i 0) := by
  simp only [List.getD_eq_getElem?_getD, List.getElem?_map]; cases l[i]? <;> rfl
theorem list_ext0 {l1 l2 : List Int32} (hl : l1.length = l2.length) (h : ∀ j, j < l1.length → l1.getD j 0 = l2.getD j 0) : l1 = l2 := by
  apply List.ext_getElem hl
  intro j h1 h2
  have := h j h1
  simpa [List.getD_eq_getElem?_getD, h1, h2] using this
theorem pn_java_lang_StringLatin1 : plainName "java/lang/StringLatin1" = true := by first | (simp [plainName, overriddenIn]; done) | decide +kernel
theorem dj43m2_0 : decode jdk_43_method_2_code 0 = .ok (.iload_n 1, 1) := by decide +kernel
theorem dj43m2_1 : decode jdk_43_method_2_code 1 = .ok (.aload_n 0, 1) := by decide +kernel
theorem dj43m2_2 : decode jdk_43_method_2_code 2 = .ok (.arraylength, 1) := by decide +kernel
theorem pd_2 : parseMethodDescriptor "(II)V" = some ⟨[.int, .int], none⟩ := by decide +kernel
theorem dj43m2_3 : decode jdk_43_method_2_code 3 = .ok (.invokestatic 9, 3) := by decide +kernel
theorem dj43m2_6 : decode jdk_43_method_2_code 6 = .ok (.aload_n 0, 1) := by decide +kernel
theorem dj43m2_7 : decode jdk_43_method_2_code 7 = .ok (.iload_n 1, 1) := by decide +kernel
theorem dj43m2_8 : decode jdk_43_method_2_code 8 = .ok (.baload, 1) := by decide +kernel
theorem dj43m2_9 : decode jdk_43_method_2_code 9 = .ok (.sipush 255, 3) := by decide +kernel
theorem dj43m2_12 : decode jdk_43_method_2_code 12 = .ok (.iand, 1) := by decide +kernel
theorem dj43m2_13 : decode jdk_43_method_2_code 13 = .ok (.i2c, 1) := by decide +kernel
theorem dj43m2_14 : decode jdk_43_method_2_code 14 = .ok (.ireturn, 1) := by decide +kernel
theorem ct_lchar (l : Launch) (Z : State) (a0 : Array Value) (hw : ∀ d ∈ tables_1, d.before a0 Z = true) (n0 : Nat) (h0 : Heap) (b : Addr) (k : ClassId) (m : Nat) (ll : List Int32) (i : Nat) (sf : Value) (hsf : sf.isRef = true) (S_sf : Sta Z h0 "jdk/internal/util/Preconditions" "SIOOBE_FORMATTER" "Ljava/util/function/BiFunction;" sf) (AV : Arv Z h0 b k .byte (Int32.ofNat m) (ll.map Value.int) (.int 0)) (hi : i < m) (hm : m < 2 ^ 31) :
    Ct l Z (⟨"java/lang/StringLatin1", "charAt", "([BI)C"⟩ : MethodName) jdk_43_method_2_code 2 (some .char) ({ frames := 2, cells := 0, slots := 0, locals := 27 } : Room) EL1 n0 true [] #[(.ref b), (.int (Int32.ofNat i))] h0 [] (fun v h N => h0 = h ∧ v = some (.int (nar .char (ll.getD i 0 &&& (255 : Int32))))) := by
  refine Ct.of (a0 := a0) (plainFor_of_name pn_java_lang_StringLatin1) (own_ew hw) (L0 := #[.val (.ref b), .val (.int (Int32.ofNat i))]) (fun _ => rfl) ?_
  have l0_AV := nlt AV.lt
  refine Go.iloadN (pc' := 1) dj43m2_0 rfl rfl ?_
  refine Go.aloadN (pc' := 2) dj43m2_1 rfl rfl rfl ?_
  refine Go.alenV (pc' := 3) dj43m2_2 AV rfl ?_
  refine Go.callS (a1 := a0) (pc' := 6) (argsL := [(.int (Int32.ofNat i)), (.int (Int32.ofNat m))]) (rest := []) (ct_schk l Z a0 hw n0 h0 (Int32.ofNat i) (Int32.ofNat m) sf hsf S_sf (ofN_nn (by omega)) ((ofN_lt (by omega) (by omega)).mpr (by omega))) dj43m2_3 (wd hw 190 rfl) (wd hw 191 rfl) (wd hw 8 rfl) (wd hw 192 rfl) (by decide) (lenOf pd_2 rfl) rfl 0 rfl rfl (by decide) (by decide) (by decide) (by decide) sl0 rfl (fun v_1 h_2 N_3 hQ_4 hle_5 => ?_)
  obtain ⟨rfl, rfl⟩ := hQ_4
  refine Go.rs [] rfl ?_
  refine Go.aloadN (pc' := 7) dj43m2_6 rfl rfl rfl ?_
  refine Go.iloadN (pc' := 8) dj43m2_7 rfl rfl ?_
  refine Go.baloadV (pc' := 9) (v := .int (ll.getD i 0)) dj43m2_8 AV ⟨ofN_nn (by omega), (ofN_lt (by omega) hm).mpr hi⟩ (by rw [ofN_nat (by omega)]; exact getD_int _ _) rfl ?_
  refine Go.sipush (pc' := 12) 255 dj43m2_9 rfl rfl ?_
  refine Go.iand (pc' := 13) dj43m2_12 rfl ?_
  refine Go.i2c (pc' := 14) dj43m2_13 rfl ?_
  refine Go.retN (t := .char) (nar .char ((ll.getD i 0) &&& (255 : Int32))) rfl (by simp) (nar_cc _) [] sl0 dj43m2_14 (by decide) (by decide) ?_
  exact ⟨rfl, rfl⟩
theorem dj42m56_0 : decode jdk_42_method_56_code 0 = .ok (.aload_n 0, 1) := by decide +kernel
theorem pd_3 : parseMethodDescriptor "()Z" = some ⟨[], (some .boolean)⟩ := by decide +kernel
theorem dj42m56_1 : decode jdk_42_method_56_code 1 = .ok (.invokevirtual 492, 3) := by decide +kernel
theorem dj42m56_4 : decode jdk_42_method_56_code 4 = .ok (.ifCond .eq 12, 3) := by decide +kernel
theorem dj42m56_7 : decode jdk_42_method_56_code 7 = .ok (.aload_n 0, 1) := by decide +kernel
theorem dj42m56_8 : decode jdk_42_method_56_code 8 = .ok (.getfield 9, 3) := by decide +kernel
theorem dj42m56_11 : decode jdk_42_method_56_code 11 = .ok (.iload_n 1, 1) := by decide +kernel
theorem pd_4 : parseMethodDescriptor "([BI)C" = some ⟨[(.array .byte), .int], (some .char)⟩ := by decide +kernel
theorem dj42m56_12 : decode jdk_42_method_56_code 12 = .ok (.invokestatic 495, 3) := by decide +kernel
theorem dj42m56_15 : decode jdk_42_method_56_code 15 = .ok (.ireturn, 1) := by decide +kernel
theorem ct_charAt (l : Launch) (Z : State) (a0 : Array Value) (hw : ∀ d ∈ tables_1, d.before a0 Z = true) (n0 : Nat) (h0 : Heap) (a1 b : Addr) (k : ClassId) (m : Nat) (ll : List Int32) (i : Nat) (sf : Value) (hsf : sf.isRef = true) (S_sf : Sta Z h0 "jdk/internal/util/Preconditions" "SIOOBE_FORMATTER" "Ljava/util/function/BiFunction;" sf) (cs : Int32) (S_cs : Sta Z h0 "java/lang/String" "COMPACT_STRINGS" "Z" (.int cs)) (hcs : ¬ cs = 0) (E : Exa Z h0 a1 "java/lang/String") (FC : Fld Z h0 a1 "java/lang/String" "coder" "B" (.int (0 : Int32))) (FV : Fld Z h0 a1 "java/lang/String" "value" "[B" (.ref b)) (AV : Arv Z h0 b k .byte (Int32.ofNat m) (ll.map Value.int) (.int 0)) (hi : i < m) (hm : m < 2 ^ 31) :
    Ct l Z (⟨"java/lang/String", "charAt", "(I)C"⟩ : MethodName) jdk_42_method_56_code 2 (some .char) ({ frames := 3, cells := 0, slots := 0, locals := 40 } : Room) EL1 n0 true [] #[(.ref a1), (.int (Int32.ofNat i))] h0 [] (fun v h N => h0 = h ∧ v = some (.int (nar .char (ll.getD i 0 &&& (255 : Int32))))) := by
  refine Ct.of (a0 := a0) (plainFor_of_name pn_java_lang_String) (own_ew hw) (L0 := #[.val (.ref a1), .val (.int (Int32.ofNat i))]) (fun _ => rfl) ?_
  have l0_E := nlt E.lt
  have l0_AV := nlt AV.lt
  refine Go.aloadN (pc' := 1) dj42m56_0 rfl rfl rfl ?_
  refine Go.callV (a1 := a0) (pc' := 4) (argsL := []) (rest := []) (ct_isLatin1 l Z a0 hw n0 h0 a1 cs S_cs hcs FC) dj42m56_1 (wd hw 182 rfl) (wd hw 183 rfl) (wd hw 185 rfl) (wd hw 185 rfl) (wd hw 184 rfl) (wd hw 8 rfl) (wd hw 186 rfl) E (by decide) (lenOf pd_3 rfl) rfl 0 rfl rfl (by decide) (by decide) (by decide) (by decide) sl0 rfl (fun v_1 h_2 N_3 hQ_4 hle_5 => ?_)
  obtain ⟨rfl, rfl⟩ := hQ_4
  refine Go.rs [(.int (1 : Int32))] rfl ?_
  refine Go.ifF (pc' := 7) dj42m56_4 (show ¬ ((1 : Int32) = (0 : Int32)) by decide) rfl ?_
  refine Go.aloadN (pc' := 8) dj42m56_7 rfl rfl rfl ?_
  refine Go.getF (pc' := 11) (host := "") (a1 := a0) dj42m56_8 (Or.inl (wd hw 43 rfl)) Via.refl FV rfl ?_
  refine Go.iloadN (pc' := 12) dj42m56_11 rfl rfl ?_
  refine Go.callS (a1 := a0) (pc' := 15) (argsL := [(.ref b), (.int (Int32.ofNat i))]) (rest := []) (ct_lchar l Z a0 hw n0 h0 b k m ll i sf hsf S_sf AV hi hm) dj42m56_12 (wd hw 187 rfl) (wd hw 188 rfl) (wd hw 114 rfl) (wd hw 189 rfl) (by decide) (lenOf pd_4 rfl) rfl 0 rfl rfl (by decide) (by decide) (by decide) (by decide) sl0 rfl (fun v_6 h_7 N_8 hQ_9 hle_10 => ?_)
  obtain ⟨rfl, rfl⟩ := hQ_9
  refine Go.rs [(.int (nar .char (ll.getD i 0 &&& (255 : Int32))))] rfl ?_
  refine Go.retN (t := .char) (nar .char (ll.getD i 0 &&& (255 : Int32))) rfl (by simp) (nar_cc _) [] sl0 dj42m56_15 (by decide) (by decide) ?_
  exact ⟨rfl, rfl⟩
theorem pn_java_lang_StringUTF16 : plainName "java/lang/StringUTF16" = true := by first | (simp [plainName, overriddenIn]; done) | decide +kernel
theorem dj52m15_0 : decode jdk_52_method_15_code 0 = .ok (.iload_n 1, 1) := by decide +kernel
theorem dj52m15_1 : decode jdk_52_method_15_code 1 = .ok (.aload_n 0, 1) := by decide +kernel
theorem dj52m15_2 : decode jdk_52_method_15_code 2 = .ok (.arraylength, 1) := by decide +kernel
theorem dj52m15_3 : decode jdk_52_method_15_code 3 = .ok (.isub, 1) := by decide +kernel
theorem dj52m15_4 : decode jdk_52_method_15_code 4 = .ok (.bipush 31, 2) := by decide +kernel
theorem dj52m15_6 : decode jdk_52_method_15_code 6 = .ok (.iushr, 1) := by decide +kernel
theorem dj52m15_7 : decode jdk_52_method_15_code 7 = .ok (.i2b, 1) := by decide +kernel
theorem dj52m15_8 : decode jdk_52_method_15_code 8 = .ok (.ireturn, 1) := by decide +kernel
theorem ct_cfal (l : Launch) (Z : State) (a0 : Array Value) (hw : ∀ d ∈ tables_1, d.before a0 Z = true) (n0 : Nat) (h0 : Heap) (b : Addr) (k : ClassId) (n : Int32) (vs : List Value) (AV : Arv Z h0 b k .byte n vs (.int 0)) :
    Ct l Z (⟨"java/lang/StringUTF16", "coderFromArrayLen", "([BI)B"⟩ : MethodName) jdk_52_method_15_code 2 (some .byte) ({ frames := 0, cells := 0, slots := 0, locals := 0 } : Room) EL1 n0 true [] #[(.ref b), (.int n)] h0 [] (fun v h N => h0 = h ∧ v = some (.int 0)) := by
  refine Ct.of (a0 := a0) (plainFor_of_name pn_java_lang_StringUTF16) (own_ew hw) (L0 := #[.val (.ref b), .val (.int n)]) (fun _ => rfl) ?_
  have l0_AV := nlt AV.lt
  refine Go.iloadN (pc' := 1) dj52m15_0 rfl rfl ?_
  refine Go.aloadN (pc' := 2) dj52m15_1 rfl rfl rfl ?_
  refine Go.alenV (pc' := 3) dj52m15_2 AV rfl ?_
  refine Go.isub (pc' := 4) dj52m15_3 rfl ?_
  refine Go.re (pc' := 4) (L' := #[.val (.ref b), .val (.int n)]) (S' := [.int (0 : Int32)]) rfl rfl (by rw [Int32.sub_self]) ?_
  refine Go.bipush (pc' := 6) 31 dj52m15_4 rfl rfl ?_
  refine Go.iushr (pc' := 7) dj52m15_6 rfl ?_
  refine Go.re (pc' := 7) (L' := #[.val (.ref b), .val (.int n)]) (S' := [(.int (0 : Int32))]) rfl rfl (congrArg (fun z => Value.int z :: _) (show (usr (0 : Int32) (31 : Int32)) = 0 by decide)) ?_
  refine Go.i2b (pc' := 8) dj52m15_7 rfl ?_
  refine Go.rs [(.int (0 : Int32))] rfl ?_
  refine Go.retN (t := .byte) (0 : Int32) rfl (by simp) rfl [] sl0 dj52m15_8 (by decide) (by decide) ?_
  exact ⟨rfl, rfl⟩
theorem dj52m21_0 : decode jdk_52_method_21_code 0 = .ok (.iconst 0, 1) := by decide +kernel
theorem dj52m21_1 : decode jdk_52_method_21_code 1 = .ok (.istore 5, 2) := by decide +kernel
theorem dj52m21_3 : decode jdk_52_method_21_code 3 = .ok (.iload 5, 2) := by decide +kernel
theorem dj52m21_5 : decode jdk_52_method_21_code 5 = .ok (.iload 4, 2) := by decide +kernel
theorem dj52m21_7 : decode jdk_52_method_21_code 7 = .ok (.if_icmp .ge 37, 3) := by decide +kernel
theorem dj52m21_10 : decode jdk_52_method_21_code 10 = .ok (.aload_n 0, 1) := by decide +kernel
theorem dj52m21_11 : decode jdk_52_method_21_code 11 = .ok (.iload_n 1, 1) := by decide +kernel
theorem dj52m21_12 : decode jdk_52_method_21_code 12 = .ok (.caload, 1) := by decide +kernel
theorem dj52m21_13 : decode jdk_52_method_21_code 13 = .ok (.istore 6, 2) := by decide +kernel
theorem dj52m21_15 : decode jdk_52_method_21_code 15 = .ok (.iload 6, 2) := by decide +kernel
theorem dj52m21_17 : decode jdk_52_method_21_code 17 = .ok (.sipush 255, 3) := by decide +kernel
theorem dj52m21_20 : decode jdk_52_method_21_code 20 = .ok (.if_icmp .le 6, 3) := by decide +kernel
theorem dj52m21_26 : decode jdk_52_method_21_code 26 = .ok (.aload_n 2, 1) := by decide +kernel
theorem dj52m21_27 : decode jdk_52_method_21_code 27 = .ok (.iload_n 3, 1) := by decide +kernel
theorem dj52m21_28 : decode jdk_52_method_21_code 28 = .ok (.iload 6, 2) := by decide +kernel
theorem dj52m21_30 : decode jdk_52_method_21_code 30 = .ok (.i2b, 1) := by decide +kernel
theorem dj52m21_31 : decode jdk_52_method_21_code 31 = .ok (.bastore, 1) := by decide +kernel
theorem dj52m21_32 : decode jdk_52_method_21_code 32 = .ok (.iinc 1 1, 3) := by decide +kernel
theorem dj52m21_35 : decode jdk_52_method_21_code 35 = .ok (.iinc 3 1, 3) := by decide +kernel
theorem dj52m21_38 : decode jdk_52_method_21_code 38 = .ok (.iinc 5 1, 3) := by decide +kernel
theorem dj52m21_41 : decode jdk_52_method_21_code 41 = .ok (.goto (-38), 3) := by decide +kernel
theorem dj52m21_44 : decode jdk_52_method_21_code 44 = .ok (.iload 4, 2) := by decide +kernel
theorem dj52m21_46 : decode jdk_52_method_21_code 46 = .ok (.ireturn, 1) := by decide +kernel
theorem ct_cmp5_2 (l : Launch) (Z : State) (a0 : Array Value) (hw : ∀ d ∈ tables_1, d.before a0 Z = true) (n0 : Nat) (h0 : Heap) (c d : Addr) (kc kd : ClassId) (c0 c1 : Int32) (AC : Arv Z h0 c kc .char (2 : Int32) [(.int c0), (.int c1)] (.int 0)) (AD : Arv Z h0 d kd .byte (2 : Int32) [(.int (0 : Int32)), (.int (0 : Int32))] (.int 0)) (hb_c0 : ¬ 255 < c0) (hb_c1 : ¬ 255 < c1) (hd : n0 ≤ d) (hcd : c ≠ d) :
    Ct l Z (⟨"java/lang/StringUTF16", "compress", "([CI[BII)I"⟩ : MethodName) jdk_52_method_21_code 7 (some .int) ({ frames := 0, cells := 0, slots := 0, locals := 0 } : Room) EL1 n0 true [] #[(.ref c), (.int (0 : Int32)), (.ref d), (.int (0 : Int32)), (.int (2 : Int32))] h0 [d] (fun v h N => v = some (.int (2 : Int32)) ∧ Keep h0 h [d] ∧ Arv Z h d kd .byte (2 : Int32) [(.int (c0).toInt8.toInt32), (.int (c1).toInt8.toInt32)] (.int 0)) := by
  refine Ct.of (a0 := a0) (plainFor_of_name pn_java_lang_StringUTF16) (own_ew hw) (L0 := #[.val (.ref c), .val (.int (0 : Int32)), .val (.ref d), .val (.int (0 : Int32)), .val (.int (2 : Int32)), .unset, .unset]) (fun _ => rfl) ?_
  have ltc := nlt AC.lt
  have ltd := nlt AD.lt
  have hcd9 := nne hcd
  have l0_AC := nlt AC.lt
  have l0_AD := nlt AD.lt
  refine Go.iconst (pc' := 1) 0 dj52m21_0 rfl rfl ?_
  refine Go.istore (pc' := 3) #[.val (.ref c), .val (.int (0 : Int32)), .val (.ref d), .val (.int (0 : Int32)), .val (.int (2 : Int32)), .val (.int (0 : Int32)), .unset] dj52m21_1 rfl rfl ?_
  refine Go.iload (pc' := 5) dj52m21_3 rfl rfl ?_
  refine Go.iload (pc' := 7) dj52m21_5 rfl rfl ?_
  refine Go.icmpF (pc' := 10) dj52m21_7 (show (0 : Int32) < (2 : Int32) by decide) rfl ?_
  refine Go.aloadN (pc' := 11) dj52m21_10 rfl rfl rfl ?_
  refine Go.iloadN (pc' := 12) dj52m21_11 rfl rfl ?_
  refine Go.caloadV (pc' := 13) dj52m21_12 AC (by decide) rfl rfl ?_
  refine Go.istore (pc' := 15) #[.val (.ref c), .val (.int (0 : Int32)), .val (.ref d), .val (.int (0 : Int32)), .val (.int (2 : Int32)), .val (.int (0 : Int32)), .val (.int c0)] dj52m21_13 rfl rfl ?_
  refine Go.iload (pc' := 17) dj52m21_15 rfl rfl ?_
  refine Go.sipush (pc' := 20) 255 dj52m21_17 rfl rfl ?_
  refine Go.icmpT (pc' := 26) dj52m21_20 (hb_c0) (by decide) (by decide) ?_
  refine Go.aloadN (pc' := 27) dj52m21_26 rfl rfl rfl ?_
  refine Go.iloadN (pc' := 28) dj52m21_27 rfl rfl ?_
  refine Go.iload (pc' := 30) dj52m21_28 rfl rfl ?_
  refine Go.i2b (pc' := 31) dj52m21_30 rfl ?_
  refine Go.bastoreV (pc' := 32) 0 dj52m21_31 AD (by decide) rfl (show 0 < 2 by decide) (Sf.mem (by simp)) (by omega) rfl (fun h_1 W_2 A_3 => ?_)
  have szh_1 : h_1.size = h0.size := Wr.size W_2
  have F_4 : Arv Z h_1 d kd .byte (2 : Int32) [(.int (c0).toInt8.toInt32), (.int (0 : Int32))] (.int 0) := by have q := A_3; rw [nar_i2b] at q; exact q
  refine Go.iinc (pc' := 35) (1 : Int32) #[.val (.ref c), .val (.int (1 : Int32)), .val (.ref d), .val (.int (0 : Int32)), .val (.int (2 : Int32)), .val (.int (0 : Int32)), .val (.int c0)] dj52m21_32 rfl (by decide) rfl rfl ?_
  refine Go.iinc (pc' := 38) (1 : Int32) #[.val (.ref c), .val (.int (1 : Int32)), .val (.ref d), .val (.int (1 : Int32)), .val (.int (2 : Int32)), .val (.int (0 : Int32)), .val (.int c0)] dj52m21_35 rfl (by decide) rfl rfl ?_
  refine Go.iinc (pc' := 41) (1 : Int32) #[.val (.ref c), .val (.int (1 : Int32)), .val (.ref d), .val (.int (1 : Int32)), .val (.int (2 : Int32)), .val (.int (1 : Int32)), .val (.int c0)] dj52m21_38 rfl (by decide) rfl rfl ?_
  refine Go.goto (pc' := 3) dj52m21_41 (by decide) (by decide) ?_
  refine Go.iload (pc' := 5) dj52m21_3 rfl rfl ?_
  refine Go.iload (pc' := 7) dj52m21_5 rfl rfl ?_
  refine Go.icmpF (pc' := 10) dj52m21_7 (show (1 : Int32) < (2 : Int32) by decide) rfl ?_
  refine Go.aloadN (pc' := 11) dj52m21_10 rfl rfl rfl ?_
  refine Go.iloadN (pc' := 12) dj52m21_11 rfl rfl ?_
  have F_5 := (Arv.other AC W_2 (nne (by omega)))
  refine Go.caloadV (pc' := 13) dj52m21_12 F_5 (by decide) rfl rfl ?_
  refine Go.istore (pc' := 15) #[.val (.ref c), .val (.int (1 : Int32)), .val (.ref d), .val (.int (1 : Int32)), .val (.int (2 : Int32)), .val (.int (1 : Int32)), .val (.int c1)] dj52m21_13 rfl rfl ?_
  refine Go.iload (pc' := 17) dj52m21_15 rfl rfl ?_
  refine Go.sipush (pc' := 20) 255 dj52m21_17 rfl rfl ?_
  refine Go.icmpT (pc' := 26) dj52m21_20 (hb_c1) (by decide) (by decide) ?_
  refine Go.aloadN (pc' := 27) dj52m21_26 rfl rfl rfl ?_
  refine Go.iloadN (pc' := 28) dj52m21_27 rfl rfl ?_
  refine Go.iload (pc' := 30) dj52m21_28 rfl rfl ?_
  refine Go.i2b (pc' := 31) dj52m21_30 rfl ?_
  refine Go.bastoreV (pc' := 32) 1 dj52m21_31 F_4 (by decide) rfl (show 1 < 2 by decide) (Sf.mem (by simp)) (by omega) rfl (fun h_6 W_7 A_8 => ?_)
  have szh_6 : h_6.size = h_1.size := Wr.size W_7
  have F_9 : Arv Z h_6 d kd .byte (2 : Int32) [(.int (c0).toInt8.toInt32), (.int (c1).toInt8.toInt32)] (.int 0) := by have q := A_8; rw [nar_i2b] at q; exact q
  refine Go.iinc (pc' := 35) (2 : Int32) #[.val (.ref c), .val (.int (2 : Int32)), .val (.ref d), .val (.int (1 : Int32)), .val (.int (2 : Int32)), .val (.int (1 : Int32)), .val (.int c1)] dj52m21_32 rfl (by decide) rfl rfl ?_
  refine Go.iinc (pc' := 38) (2 : Int32) #[.val (.ref c), .val (.int (2 : Int32)), .val (.ref d), .val (.int (2 : Int32)), .val (.int (2 : Int32)), .val (.int (1 : Int32)), .val (.int c1)] dj52m21_35 rfl (by decide) rfl rfl ?_
  refine Go.iinc (pc' := 41) (2 : Int32) #[.val (.ref c), .val (.int (2 : Int32)), .val (.ref d), .val (.int (2 : Int32)), .val (.int (2 : Int32)), .val (.int (2 : Int32)), .val (.int c1)] dj52m21_38 rfl (by decide) rfl rfl ?_
  refine Go.goto (pc' := 3) dj52m21_41 (by decide) (by decide) ?_
  refine Go.iload (pc' := 5) dj52m21_3 rfl rfl ?_
  refine Go.iload (pc' := 7) dj52m21_5 rfl rfl ?_
  refine Go.icmpT (pc' := 44) dj52m21_7 (show ¬ ((2 : Int32) < (2 : Int32)) by decide) (by decide) (by decide) ?_
  refine Go.iload (pc' := 46) dj52m21_44 rfl rfl ?_
  refine Go.retI rfl [] sl0 dj52m21_46 (by decide) (by decide) ?_
  exact ⟨rfl, (Keep.wr (Keep.wr (Keep.refl _ [d]) W_2 (Or.inl (by simp))) W_7 (Or.inl (by simp))), F_9⟩
theorem dj52m16_0 : decode jdk_52_method_16_code 0 = .ok (.iload_n 2, 1) := by decide +kernel
theorem dj52m16_1 : decode jdk_52_method_16_code 1 = .ok (.newarray .byte, 2) := by decide +kernel
theorem dj52m16_3 : decode jdk_52_method_16_code 3 = .ok (.astore_n 3, 1) := by decide +kernel
theorem dj52m16_4 : decode jdk_52_method_16_code 4 = .ok (.aload_n 0, 1) := by decide +kernel
theorem dj52m16_5 : decode jdk_52_method_16_code 5 = .ok (.iload_n 1, 1) := by decide +kernel
theorem dj52m16_6 : decode jdk_52_method_16_code 6 = .ok (.aload_n 3, 1) := by decide +kernel
theorem dj52m16_7 : decode jdk_52_method_16_code 7 = .ok (.iconst 0, 1) := by decide +kernel
theorem dj52m16_8 : decode jdk_52_method_16_code 8 = .ok (.iload_n 2, 1) := by decide +kernel
theorem pd_5 : parseMethodDescriptor "([CI[BII)I" = some ⟨[(.array .char), .int, (.array .byte), .int, .int], (some .int)⟩ := by decide +kernel
theorem dj52m16_9 : decode jdk_52_method_16_code 9 = .ok (.invokestatic 115, 3) := by decide +kernel
theorem dj52m16_12 : decode jdk_52_method_16_code 12 = .ok (.istore 4, 2) := by decide +kernel
theorem dj52m16_14 : decode jdk_52_method_16_code 14 = .ok (.iload 4, 2) := by decide +kernel
theorem dj52m16_16 : decode jdk_52_method_16_code 16 = .ok (.iload_n 2, 1) := by decide +kernel
theorem dj52m16_17 : decode jdk_52_method_16_code 17 = .ok (.if_icmp .eq 40, 3) := by decide +kernel
theorem dj52m16_57 : decode jdk_52_method_16_code 57 = .ok (.aload_n 3, 1) := by decide +kernel
theorem dj52m16_58 : decode jdk_52_method_16_code 58 = .ok (.areturn, 1) := by decide +kernel
theorem ct_cmp3_2 (l : Launch) (Z : State) (a0 : Array Value) (hw : ∀ d ∈ tables_1, d.before a0 Z = true) (n0 : Nat) (h0 : Heap) (c : Addr) (kc : ClassId) (c0 c1 : Int32) (AC : Arv Z h0 c kc .char (2 : Int32) [(.int c0), (.int c1)] (.int 0)) (hb_c0 : ¬ 255 < c0) (hb_c1 : ¬ 255 < c1) (hn0 : n0 ≤ h0.size) :
    Ct l Z (⟨"java/lang/StringUTF16", "compress", "([CII)[B"⟩ : MethodName) jdk_52_method_16_code 6 (some (.array .byte)) ({ frames := 1, cells := 1, slots := 2, locals := 18 } : Room) EL1 n0 true [] #[(.ref c), (.int (0 : Int32)), (.int (2 : Int32))] h0 [] (fun v h N => ∃ d kd, v = some (.ref d) ∧ h0.size ≤ d ∧ d < h.size ∧ Keep h0 h [] ∧ Arv Z h d kd .byte (2 : Int32) [(.int (c0).toInt8.toInt32), (.int (c1).toInt8.toInt32)] (.int 0)) := by
  refine Ct.of (a0 := a0) (plainFor_of_name pn_java_lang_StringUTF16) (own_ew hw) (L0 := #[.val (.ref c), .val (.int (0 : Int32)), .val (.int (2 : Int32)), .unset, .unset, .unset]) (fun _ => rfl) ?_
  have ltc := nlt AC.lt
  have l0_AC := nlt AC.lt
  refine Go.iloadN (pc' := 1) dj52m16_0 rfl rfl ?_
  refine Go.newPV (pc' := 3) (a1 := a0) 2 [(.int (0 : Int32)), (.int (0 : Int32))] dj52m16_1 (wd hw 10 rfl) (by decide) (by decide) (by decide) (by decide) (by decide) rfl rfl (fun a_1 h_2 cA_3 ha_4 E_5 A_6 => ?_)
  have szh_2 := nle E_5.1
  have lta_1 := nlt A_6.lt
  have qa_1 := neq ha_4
  have F_7 : Arv Z h_2 a_1 cA_3 .byte (2 : Int32) [(.int (0 : Int32)), (.int (0 : Int32))] (.int 0) := A_6
  refine Go.astoreN (pc' := 4) #[.val (.ref c), .val (.int (0 : Int32)), .val (.int (2 : Int32)), .val (.ref a_1), .unset, .unset] dj52m16_3 rfl rfl rfl ?_
  refine Go.aloadN (pc' := 5) dj52m16_4 rfl rfl rfl ?_
  refine Go.iloadN (pc' := 6) dj52m16_5 rfl rfl ?_
  refine Go.aloadN (pc' := 7) dj52m16_6 rfl rfl rfl ?_
  refine Go.iconst (pc' := 8) 0 dj52m16_7 rfl rfl ?_
  refine Go.iloadN (pc' := 9) dj52m16_8 rfl rfl ?_
  have F_10 := (Arv.ext AC E_5)
  refine Go.callS (a1 := a0) (pc' := 12) (argsL := [(.ref c), (.int (0 : Int32)), (.ref a_1), (.int (0 : Int32)), (.int (2 : Int32))]) (rest := []) (ct_cmp5_2 l Z a0 hw n0 h_2 c a_1 kc cA_3 c0 c1 F_10 F_7 hb_c0 hb_c1 (by omega) (nne (by omega))) dj52m16_9 (wd hw 228 rfl) (wd hw 229 rfl) (wd hw 226 rfl) (wd hw 230 rfl) (by decide) (lenOf pd_5 rfl) rfl 0 rfl rfl (by decide) (by decide) (by decide) (by decide) (sl1 (by simp)) rfl (fun v_11 h_12 N_13 hQ_14 hle_15 => ?_)
  obtain ⟨rfl, K_8, F_9⟩ := hQ_14
  have szh_12 := nle K_8.1
  refine Go.rs [(.int (2 : Int32))] rfl ?_
  refine Go.istore (pc' := 14) #[.val (.ref c), .val (.int (0 : Int32)), .val (.int (2 : Int32)), .val (.ref a_1), .val (.int (2 : Int32)), .unset] dj52m16_12 rfl rfl ?_
  refine Go.iload (pc' := 16) dj52m16_14 rfl rfl ?_
  refine Go.iloadN (pc' := 17) dj52m16_16 rfl rfl ?_
  refine Go.icmpT (pc' := 57) dj52m16_17 (show (2 : Int32) = (2 : Int32) by decide) (by decide) (by decide) ?_
  refine Go.aloadN (pc' := 58) dj52m16_57 rfl rfl rfl ?_
  refine Go.retA rfl rfl rfl [] sl0 dj52m16_58 (by decide) (by decide) ?_
  exact ⟨a_1, _, rfl, by omega, F_9.lt, (Keep.trans (Keep.ext (Keep.refl _ []) E_5) K_8 (allS (Or.inr (by omega)) all0)), F_9⟩
theorem dj42m149_0 : decode jdk_42_method_149_code 0 = .ok (.aload_n 0, 1) := by decide +kernel
theorem dj42m149_1 : decode jdk_42_method_149_code 1 = .ok (.invokespecial 1, 3) := by decide +kernel
theorem dj42m149_4 : decode jdk_42_method_149_code 4 = .ok (.iload_n 3, 1) := by decide +kernel
theorem dj42m149_5 : decode jdk_42_method_149_code 5 = .ok (.ifCond .ne 22, 3) := by decide +kernel
theorem dj42m149_27 : decode jdk_42_method_149_code 27 = .ok (.getstatic 38, 3) := by decide +kernel
theorem dj42m149_30 : decode jdk_42_method_149_code 30 = .ok (.ifCond .eq 28, 3) := by decide +kernel
theorem dj42m149_33 : decode jdk_42_method_149_code 33 = .ok (.aload_n 1, 1) := by decide +kernel
theorem dj42m149_34 : decode jdk_42_method_149_code 34 = .ok (.iload_n 2, 1) := by decide +kernel
theorem dj42m149_35 : decode jdk_42_method_149_code 35 = .ok (.iload_n 3, 1) := by decide +kernel
theorem pd_6 : parseMethodDescriptor "([CII)[B" = some ⟨[(.array .char), .int, .int], (some (.array .byte))⟩ := by decide +kernel
theorem dj42m149_36 : decode jdk_42_method_149_code 36 = .ok (.invokestatic 177, 3) := by decide +kernel
theorem dj42m149_39 : decode jdk_42_method_149_code 39 = .ok (.astore 5, 2) := by decide +kernel
theorem dj42m149_41 : decode jdk_42_method_149_code 41 = .ok (.aload_n 0, 1) := by decide +kernel
theorem dj42m149_42 : decode jdk_42_method_149_code 42 = .ok (.aload 5, 2) := by decide +kernel
theorem dj42m149_44 : decode jdk_42_method_149_code 44 = .ok (.iload_n 3, 1) := by decide +kernel
theorem pd_7 : parseMethodDescriptor "([BI)B" = some ⟨[(.array .byte), .int], (some .byte)⟩ := by decide +kernel
theorem dj42m149_45 : decode jdk_42_method_149_code 45 = .ok (.invokestatic 47, 3) := by decide +kernel
theorem dj42m149_48 : decode jdk_42_method_149_code 48 = .ok (.putfield 15, 3) := by decide +kernel
theorem dj42m149_51 : decode jdk_42_method_149_code 51 = .ok (.aload_n 0, 1) := by decide +kernel
theorem dj42m149_52 : decode jdk_42_method_149_code 52 = .ok (.aload 5, 2) := by decide +kernel
theorem dj42m149_54 : decode jdk_42_method_149_code 54 = .ok (.putfield 9, 3) := by decide +kernel
theorem dj42m149_57 : decode jdk_42_method_149_code 57 = .ok (.return_, 1) := by decide +kernel
theorem ct_si4_2 (l : Launch) (Z : State) (a0 : Array Value) (hw : ∀ d ∈ tables_1, d.before a0 Z = true) (n0 : Nat) (h0 : Heap) (a1 : Addr) (ha1 : n0 ≤ a1) (E1 : Exa Z h0 a1 "java/lang/String") (G1 : Fld Z h0 a1 "java/lang/String" "value" "[B" .null) (G2 : Fld Z h0 a1 "java/lang/String" "coder" "B" (.int (0 : Int32))) (c : Addr) (kc : ClassId) (c0 c1 : Int32) (AC : Arv Z h0 c kc .char (2 : Int32) [(.int c0), (.int c1)] (.int 0)) (hb_c0 : ¬ 255 < c0) (hb_c1 : ¬ 255 < c1) (cs : Int32) (S_cs : Sta Z h0 "java/lang/String" "COMPACT_STRINGS" "Z" (.int cs)) (hcs : ¬ cs = 0) :
    Ct l Z (⟨"java/lang/String", "<init>", "([CIILjava/lang/Void;)V"⟩ : MethodName) jdk_42_method_149_code 6 none ({ frames := 2, cells := 1, slots := 2, locals := 35 } : Room) EL1 n0 true [] #[(.ref a1), (.ref c), (.int (0 : Int32)), (.int (2 : Int32)), (.null)] h0 [a1] (fun v h N => v = none ∧ ∃ b kb, h0.size ≤ b ∧ b < h.size ∧ Keep h0 h [a1] ∧ Exa Z h a1 "java/lang/String" ∧ Fld Z h a1 "java/lang/String" "coder" "B" (.int (0 : Int32)) ∧ Fld Z h a1 "java/lang/String" "value" "[B" (.ref b) ∧ Arv Z h b kb .byte (2 : Int32) [(.int (c0).toInt8.toInt32), (.int (c1).toInt8.toInt32)] (.int 0)) := by
  refine Ct.of (a0 := a0) (plainFor_of_name pn_java_lang_String) (own_ew hw) (L0 := #[.val (.ref a1), .val (.ref c), .val (.int (0 : Int32)), .val (.int (2 : Int32)), .val (.null), .unset]) (fun _ => rfl) ?_
  have ltc := nlt AC.lt
  have lta1 := nlt E1.lt
  have l0_E1 := nlt E1.lt
  have l0_AC := nlt AC.lt
  refine Go.aloadN (pc' := 1) dj42m149_0 rfl rfl rfl ?_
  refine Go.initO (pc' := 4) (a1 := a0) dj42m149_1 (wd hw 144 rfl) (wd hw 22 rfl) (wd hw 23 rfl) rfl (by decide) 0 rfl (by decide) rfl ?_
  refine Go.iloadN (pc' := 5) dj42m149_4 rfl rfl ?_
  refine Go.ifT (pc' := 27) dj42m149_5 (show ¬ ((2 : Int32) = (0 : Int32)) by decide) (by decide) (by decide) ?_
  refine Go.getS (pc' := 30) (host := "") (a1 := a0) dj42m149_27 (Or.inl (wd hw 49 rfl)) Via.refl S_cs rfl ?_
  refine Go.ifF (pc' := 33) dj42m149_30 (hcs) rfl ?_
  refine Go.aloadN (pc' := 34) dj42m149_33 rfl rfl rfl ?_
  refine Go.iloadN (pc' := 35) dj42m149_34 rfl rfl ?_
  refine Go.iloadN (pc' := 36) dj42m149_35 rfl rfl ?_
  refine Go.callS (a1 := a0) (pc' := 39) (argsL := [(.ref c), (.int (0 : Int32)), (.int (2 : Int32))]) (rest := []) (ct_cmp3_2 l Z a0 hw n0 h0 c kc c0 c1 AC hb_c0 hb_c1 (by omega)) dj42m149_36 (wd hw 224 rfl) (wd hw 225 rfl) (wd hw 226 rfl) (wd hw 227 rfl) (by decide) (lenOf pd_6 rfl) rfl 0 rfl rfl (by decide) (by decide) (by decide) (by decide) sl0 rfl (fun v_7 h_8 N_9 hQ_10 hle_11 => ?_)
  obtain ⟨d_1, kd_2, rfl, g_3, g_4, K_5, F_6⟩ := hQ_10
  have szh_8 := nle K_5.1
  have ltd_1 := nlt g_4
  refine Go.rs [(.ref d_1)] rfl ?_
  refine Go.astore (pc' := 41) #[.val (.ref a1), .val (.ref c), .val (.int (0 : Int32)), .val (.int (2 : Int32)), .val (.null), .val (.ref d_1)] dj42m149_39 rfl rfl rfl ?_
  refine Go.aloadN (pc' := 42) dj42m149_41 rfl rfl rfl ?_
  refine Go.aload (pc' := 44) dj42m149_42 rfl rfl rfl ?_
  refine Go.iloadN (pc' := 45) dj42m149_44 rfl rfl ?_
  refine Go.callS (a1 := a0) (pc' := 48) (argsL := [(.ref d_1), (.int (2 : Int32))]) (rest := [(.ref a1)]) (ct_cfal l Z a0 hw n0 h_8 d_1 kd_2 (2 : Int32) [(.int (c0).toInt8.toInt32), (.int (c1).toInt8.toInt32)] F_6) dj42m149_45 (wd hw 231 rfl) (wd hw 232 rfl) (wd hw 226 rfl) (wd hw 233 rfl) (by decide) (lenOf pd_7 rfl) rfl 1 rfl rfl (by decide) (by decide) (by decide) (by decide) sl0 rfl (fun v_12 h_13 N_14 hQ_15 hle_16 => ?_)
  obtain ⟨rfl, rfl⟩ := hQ_15
  refine Go.rs [(.int (0 : Int32)), (.ref a1)] rfl ?_
  have F_17 := (Fld.keep G2 K_5 nin0)
  have F_18 := (Exa.keep E1 K_5)
  refine Go.putF (pc' := 51) (host := "") (a1 := a0) dj42m149_48 (Or.inl (wd hw 50 rfl)) Via.refl F_17 F_18 (Or.inr ⟨(wd hw 12 rfl), rfl, rfl⟩) (wd hw 9 rfl) (ty := .byte) (by decide) rfl rfl (Sf.mem (by simp)) (by omega) rfl (fun h_19 W_20 => ?_)
  have szh_19 : h_19.size = h_8.size := Wr.size W_20
  have F_21 : Fld Z h_19 a1 "java/lang/String" "coder" "B" (.int (0 : Int32)) := Fld.same W_20 F_17
  refine Go.aloadN (pc' := 52) dj42m149_51 rfl rfl rfl ?_
  refine Go.aload (pc' := 54) dj42m149_52 rfl rfl rfl ?_
  have F_22 : Fld Z h_19 a1 "java/lang/String" "value" "[B" (.null) := (Fld.other W_20 (Fld.keep G1 K_5 nin0) (Or.inr (slot_ne (Or.inr (wd hw 11 rfl)) (Or.inr (wd hw 12 rfl)) (by decide) (t := (.array .byte)) (t' := .byte) (by decide) (by decide))))
  have F_23 := (Exa.wr W_20 F_18)
  refine Go.putF (pc' := 57) (host := "") (a1 := a0) dj42m149_54 (Or.inl (wd hw 43 rfl)) Via.refl F_22 F_23 (Or.inr ⟨(wd hw 11 rfl), rfl, rfl⟩) (wd hw 9 rfl) (ty := (.array .byte)) (by decide) rfl rfl (Sf.mem (by simp)) (by omega) rfl (fun h_24 W_25 => ?_)
  have szh_24 : h_24.size = h_19.size := Wr.size W_25
  have F_26 : Fld Z h_24 a1 "java/lang/String" "value" "[B" (.ref d_1) := Fld.same W_25 F_22
  have F_27 := (Arv.other (Arv.other F_6 W_20 (nne (by omega))) W_25 (nne (by omega)))
  have F_28 := (Exa.wr W_25 F_23)
  have F_29 : Fld Z h_24 a1 "java/lang/String" "coder" "B" (.int (0 : Int32)) := (Fld.other W_25 F_21 (Or.inr (slot_ne (Or.inr (wd hw 12 rfl)) (Or.inr (wd hw 11 rfl)) (by decide) (t := .byte) (t' := (.array .byte)) (by decide) (by decide))))
  have F_30 := (Arv.other (Arv.other F_6 W_20 (nne (by omega))) W_25 (nne (by omega)))
  refine Go.ret0 rfl [] sl0 dj42m149_57 (by decide) (by decide) ?_
  exact ⟨rfl, d_1, kd_2, by omega, F_27.lt, (Keep.wr (Keep.wr (Keep.trans (Keep.refl _ [a1]) K_5 all0) W_20 (Or.inl (by simp))) W_25 (Or.inl (by simp))), F_28, F_29, F_26, F_30⟩
theorem dj42m3_0 : decode jdk_42_method_3_code 0 = .ok (.aload_n 0, 1) := by decide +kernel
theorem dj42m3_1 : decode jdk_42_method_3_code 1 = .ok (.aload_n 1, 1) := by decide +kernel
theorem dj42m3_2 : decode jdk_42_method_3_code 2 = .ok (.iconst 0, 1) := by decide +kernel
theorem dj42m3_3 : decode jdk_42_method_3_code 3 = .ok (.aload_n 1, 1) := by decide +kernel
theorem dj42m3_4 : decode jdk_42_method_3_code 4 = .ok (.arraylength, 1) := by decide +kernel
theorem dj42m3_5 : decode jdk_42_method_3_code 5 = .ok (.aconst_null, 1) := by decide +kernel
theorem pd_8 : parseMethodDescriptor "([CIILjava/lang/Void;)V" = some ⟨[(.array .char), .int, .int, (.object "java/lang/Void")], none⟩ := by decide +kernel
theorem dj42m3_6 : decode jdk_42_method_3_code 6 = .ok (.invokespecial 27, 3) := by decide +kernel
theorem dj42m3_9 : decode jdk_42_method_3_code 9 = .ok (.return_, 1) := by decide +kernel
theorem ct_si1_2 (l : Launch) (Z : State) (a0 : Array Value) (hw : ∀ d ∈ tables_1, d.before a0 Z = true) (n0 : Nat) (h0 : Heap) (a1 : Addr) (ha1 : n0 ≤ a1) (E1 : Exa Z h0 a1 "java/lang/String") (G1 : Fld Z h0 a1 "java/lang/String" "value" "[B" .null) (G2 : Fld Z h0 a1 "java/lang/String" "coder" "B" (.int (0 : Int32))) (c : Addr) (kc : ClassId) (c0 c1 : Int32) (AC : Arv Z h0 c kc .char (2 : Int32) [(.int c0), (.int c1)] (.int 0)) (hb_c0 : ¬ 255 < c0) (hb_c1 : ¬ 255 < c1) (cs : Int32) (S_cs : Sta Z h0 "java/lang/String" "COMPACT_STRINGS" "Z" (.int cs)) (hcs : ¬ cs = 0) :
    Ct l Z (⟨"java/lang/String", "<init>", "([C)V"⟩ : MethodName) jdk_42_method_3_code 2 none ({ frames := 3, cells := 1, slots := 2, locals := 52 } : Room) EL1 n0 true [] #[(.ref a1), (.ref c)] h0 [a1] (fun v h N => v = none ∧ ∃ b kb, h0.size ≤ b ∧ b < h.size ∧ Keep h0 h [a1] ∧ Exa Z h a1 "java/lang/String" ∧ Fld Z h a1 "java/lang/String" "coder" "B" (.int (0 : Int32)) ∧ Fld Z h a1 "java/lang/String" "value" "[B" (.ref b) ∧ Arv Z h b kb .byte (2 : Int32) [(.int (c0).toInt8.toInt32), (.int (c1).toInt8.toInt32)] (.int 0)) := by
  refine Ct.of (a0 := a0) (plainFor_of_name pn_java_lang_String) (own_ew hw) (L0 := #[.val (.ref a1), .val (.ref c)]) (fun _ => rfl) ?_
  have ltc := nlt AC.lt
  have lta1 := nlt E1.lt
  have l0_E1 := nlt E1.lt
  have l0_AC := nlt AC.lt
  refine Go.aloadN (pc' := 1) dj42m3_0 rfl rfl rfl ?_
  refine Go.aloadN (pc' := 2) dj42m3_1 rfl rfl rfl ?_
  refine Go.iconst (pc' := 3) 0 dj42m3_2 rfl rfl ?_
  refine Go.aloadN (pc' := 4) dj42m3_3 rfl rfl rfl ?_
  refine Go.alenV (pc' := 5) dj42m3_4 AC rfl ?_
  refine Go.aconstNull (pc' := 6) dj42m3_5 rfl ?_
  refine Go.callN (a1 := a0) (pc' := 9) (argsL := [(.ref c), (.int (0 : Int32)), (.int (2 : Int32)), (.null)]) (rest := []) (ct_si4_2 l Z a0 hw n0 h0 a1 (by omega) E1 G1 G2 c kc c0 c1 AC hb_c0 hb_c1 cs S_cs hcs) dj42m3_6 rfl (wd hw 221 rfl) (wd hw 222 rfl) (wd hw 8 rfl) (wd hw 223 rfl) (by decide) (lenOf pd_8 rfl) rfl 0 rfl rfl (by decide) (by decide) (by decide) (by decide) (sl1 (by simp)) rfl (fun v_10 h_11 N_12 hQ_13 hle_14 => ?_)
  obtain ⟨rfl, b_1, kb_2, g_3, g_4, K_5, X_6, F_7, F_8, A_9⟩ := hQ_13
  have szh_11 := nle K_5.1
  have ltb_1 := nlt g_4
  refine Go.rs [] rfl ?_
  refine Go.ret0 rfl [] sl0 dj42m3_9 (by decide) (by decide) ?_
  exact ⟨rfl, b_1, kb_2, by omega, A_9.lt, (Keep.trans (Keep.refl _ [a1]) K_5 (allS (Or.inl (by simp)) all0)), X_6, F_7, F_8, A_9⟩
theorem pn_java_lang_AbstractStringBuilder : plainName "java/lang/AbstractStringBuilder" = true := by first | (simp [plainName, overriddenIn]; done) | decide +kernel
theorem dj68m71_0 : decode jdk_68_method_71_code 0 = .ok (.getstatic 18, 3) := by decide +kernel
theorem dj68m71_3 : decode jdk_68_method_71_code 3 = .ok (.ifCond .eq 18, 3) := by decide +kernel
theorem dj68m71_6 : decode jdk_68_method_71_code 6 = .ok (.aload_n 0, 1) := by decide +kernel
theorem dj68m71_7 : decode jdk_68_method_71_code 7 = .ok (.getfield 22, 3) := by decide +kernel
theorem dj68m71_10 : decode jdk_68_method_71_code 10 = .ok (.aload_n 1, 1) := by decide +kernel
theorem dj68m71_11 : decode jdk_68_method_71_code 11 = .ok (.invokevirtual 40, 3) := by decide +kernel
theorem dj68m71_14 : decode jdk_68_method_71_code 14 = .ok (.if_icmp .eq 7, 3) := by decide +kernel
theorem dj68m71_21 : decode jdk_68_method_71_code 21 = .ok (.return_, 1) := by decide +kernel
theorem ct_inf (l : Launch) (Z : State) (a0 : Array Value) (hw : ∀ d ∈ tables_1, d.before a0 Z = true) (n0 : Nat) (h0 : Heap) (a1 s : Addr) (cs : Int32) (S_cs : Sta Z h0 "java/lang/String" "COMPACT_STRINGS" "Z" (.int cs)) (hcs : ¬ cs = 0) (GC : Fld Z h0 a1 "java/lang/AbstractStringBuilder" "coder" "B" (.int (0 : Int32))) (Es : Exa Z h0 s "java/lang/String") (FCs : Fld Z h0 s "java/lang/String" "coder" "B" (.int (0 : Int32))) :
    Ct l Z (⟨"java/lang/AbstractStringBuilder", "inflateIfNeededFor", "(Ljava/lang/String;)V"⟩ : MethodName) jdk_68_method_71_code 2 none ({ frames := 1, cells := 0, slots := 0, locals := 13 } : Room) EL1 n0 true [] #[(.ref a1), (.ref s)] h0 [] (fun v h N => h0 = h ∧ v = none) := by
  refine Ct.of (a0 := a0) (plainFor_of_name pn_java_lang_AbstractStringBuilder) (own_ew hw) (L0 := #[.val (.ref a1), .val (.ref s)]) (fun _ => rfl) ?_
  have l0_Es := nlt Es.lt
  refine Go.getS (pc' := 3) (host := "") (a1 := a0) dj68m71_0 (Or.inl (wd hw 88 rfl)) Via.refl S_cs rfl ?_
  refine Go.ifF (pc' := 6) dj68m71_3 (hcs) rfl ?_
  refine Go.aloadN (pc' := 7) dj68m71_6 rfl rfl rfl ?_
  refine Go.getF (pc' := 10) (host := "") (a1 := a0) dj68m71_7 (Or.inl (wd hw 53 rfl)) Via.refl GC rfl ?_
  refine Go.aloadN (pc' := 11) dj68m71_10 rfl rfl rfl ?_
  refine Go.callV (a1 := a0) (pc' := 14) (argsL := []) (rest := [(.int (0 : Int32))]) (ct_coder l Z a0 hw n0 h0 s cs S_cs hcs FCs) dj68m71_11 (wd hw 52 rfl) (wd hw 45 rfl) (wd hw 47 rfl) (wd hw 47 rfl) (wd hw 46 rfl) (wd hw 8 rfl) (wd hw 48 rfl) Es (by decide) (lenOf pd_0 rfl) rfl 1 rfl rfl (by decide) (by decide) (by decide) (by decide) sl0 rfl (fun v_1 h_2 N_3 hQ_4 hle_5 => ?_)
  obtain ⟨rfl, rfl⟩ := hQ_4
  refine Go.rs [(.int (0 : Int32)), (.int (0 : Int32))] rfl ?_
  refine Go.icmpT (pc' := 21) dj68m71_14 (show (0 : Int32) = (0 : Int32) by decide) (by decide) (by decide) ?_
  refine Go.ret0 rfl [] sl0 dj68m71_21 (by decide) (by decide) ?_
  exact ⟨rfl, rfl⟩
theorem dj68m9_0 : decode jdk_68_method_9_code 0 = .ok (.aload_n 0, 1) := by decide +kernel
theorem dj68m9_1 : decode jdk_68_method_9_code 1 = .ok (.getfield 15, 3) := by decide +kernel
theorem dj68m9_4 : decode jdk_68_method_9_code 4 = .ok (.arraylength, 1) := by decide +kernel
theorem dj68m9_5 : decode jdk_68_method_9_code 5 = .ok (.aload_n 0, 1) := by decide +kernel
theorem dj68m9_6 : decode jdk_68_method_9_code 6 = .ok (.getfield 22, 3) := by decide +kernel
theorem dj68m9_9 : decode jdk_68_method_9_code 9 = .ok (.ishr, 1) := by decide +kernel
theorem dj68m9_10 : decode jdk_68_method_9_code 10 = .ok (.istore_n 2, 1) := by decide +kernel
theorem dj68m9_11 : decode jdk_68_method_9_code 11 = .ok (.iload_n 1, 1) := by decide +kernel
theorem dj68m9_12 : decode jdk_68_method_9_code 12 = .ok (.iload_n 2, 1) := by decide +kernel
theorem dj68m9_13 : decode jdk_68_method_9_code 13 = .ok (.isub, 1) := by decide +kernel
theorem dj68m9_14 : decode jdk_68_method_9_code 14 = .ok (.ifCond .le 24, 3) := by decide +kernel
theorem dj68m9_38 : decode jdk_68_method_9_code 38 = .ok (.return_, 1) := by decide +kernel
theorem ct_ens (l : Launch) (Z : State) (a0 : Array Value) (hw : ∀ d ∈ tables_1, d.before a0 Z = true) (n0 : Nat) (h0 : Heap) (a1 b : Addr) (k : ClassId) (vs : List Value) (p cap : Nat) (GC : Fld Z h0 a1 "java/lang/AbstractStringBuilder" "coder" "B" (.int (0 : Int32))) (GV : Fld Z h0 a1 "java/lang/AbstractStringBuilder" "value" "[B" (.ref b)) (AVB : Arv Z h0 b k .byte (Int32.ofNat cap) vs (.int 0)) (hp : p ≤ cap) (hc : cap < 2 ^ 16) :
    Ct l Z (⟨"java/lang/AbstractStringBuilder", "ensureCapacityInternal", "(I)V"⟩ : MethodName) jdk_68_method_9_code 3 none ({ frames := 0, cells := 0, slots := 0, locals := 0 } : Room) EL1 n0 true [] #[(.ref a1), (.int (Int32.ofNat p))] h0 [] (fun v h N => h0 = h ∧ v = none) := by
  refine Ct.of (a0 := a0) (plainFor_of_name pn_java_lang_AbstractStringBuilder) (own_ew hw) (L0 := #[.val (.ref a1), .val (.int (Int32.ofNat p)), .unset]) (fun _ => rfl) ?_
  have l0_AVB := nlt AVB.lt
  refine Go.aloadN (pc' := 1) dj68m9_0 rfl rfl rfl ?_
  refine Go.getF (pc' := 4) (host := "") (a1 := a0) dj68m9_1 (Or.inl (wd hw 55 rfl)) Via.refl GV rfl ?_
  refine Go.alenV (pc' := 5) dj68m9_4 AVB rfl ?_
  refine Go.aloadN (pc' := 6) dj68m9_5 rfl rfl rfl ?_
  refine Go.getF (pc' := 9) (host := "") (a1 := a0) dj68m9_6 (Or.inl (wd hw 53 rfl)) Via.refl GC rfl ?_
  refine Go.ishr (pc' := 10) dj68m9_9 rfl ?_
  refine Go.re (pc' := 10) (L' := #[.val (.ref a1), .val (.int (Int32.ofNat p)), .unset]) (S' := [(.int (Int32.ofNat cap))]) rfl rfl (by rw [shr0]) ?_
  refine Go.istoreN (pc' := 11) #[.val (.ref a1), .val (.int (Int32.ofNat p)), .val (.int (Int32.ofNat cap))] dj68m9_10 rfl rfl ?_
  refine Go.iloadN (pc' := 12) dj68m9_11 rfl rfl ?_
  refine Go.iloadN (pc' := 13) dj68m9_12 rfl rfl ?_
  refine Go.isub (pc' := 14) dj68m9_13 rfl ?_
  refine Go.ifT (pc' := 38) dj68m9_14 (ofN_sub_le hp (by omega)) (by decide) (by decide) ?_
  refine Go.ret0 rfl [] sl0 dj68m9_38 (by decide) (by decide) ?_
  exact ⟨rfl, rfl⟩
theorem dj42m147_0 : decode jdk_42_method_147_code 0 = .ok (.aload_n 0, 1) := by decide +kernel
theorem dj42m147_1 : decode jdk_42_method_147_code 1 = .ok (.invokevirtual 335, 3) := by decide +kernel
theorem dj42m147_4 : decode jdk_42_method_147_code 4 = .ok (.iload_n 3, 1) := by decide +kernel
theorem dj42m147_5 : decode jdk_42_method_147_code 5 = .ok (.if_icmp .ne 23, 3) := by decide +kernel
theorem dj42m147_8 : decode jdk_42_method_147_code 8 = .ok (.aload_n 0, 1) := by decide +kernel
theorem dj42m147_9 : decode jdk_42_method_147_code 9 = .ok (.getfield 9, 3) := by decide +kernel
theorem dj42m147_12 : decode jdk_42_method_147_code 12 = .ok (.iconst 0, 1) := by decide +kernel
theorem dj42m147_13 : decode jdk_42_method_147_code 13 = .ok (.aload_n 1, 1) := by decide +kernel
theorem dj42m147_14 : decode jdk_42_method_147_code 14 = .ok (.iload_n 2, 1) := by decide +kernel
theorem dj42m147_15 : decode jdk_42_method_147_code 15 = .ok (.iload_n 3, 1) := by decide +kernel
theorem dj42m147_16 : decode jdk_42_method_147_code 16 = .ok (.ishl, 1) := by decide +kernel
theorem dj42m147_17 : decode jdk_42_method_147_code 17 = .ok (.aload_n 0, 1) := by decide +kernel
theorem dj42m147_18 : decode jdk_42_method_147_code 18 = .ok (.getfield 9, 3) := by decide +kernel
theorem dj42m147_21 : decode jdk_42_method_147_code 21 = .ok (.arraylength, 1) := by decide +kernel
theorem dj42m147_22 : decode jdk_42_method_147_code 22 = .ok (.invokestatic 212, 3) := by decide +kernel
theorem dj42m147_25 : decode jdk_42_method_147_code 25 = .ok (.goto 18, 3) := by decide +kernel
theorem dj42m147_43 : decode jdk_42_method_147_code 43 = .ok (.return_, 1) := by decide +kernel
theorem ct_get (l : Launch) (Z : State) (a0 : Array Value) (hw : ∀ d ∈ tables_1, d.before a0 Z = true) (n0 : Nat) (h0 : Heap) (s b1 b : Addr) (k1 k : ClassId) (m vd : List Int32) (p cap : Nat) (hp : p + m.length ≤ cap) (hc : cap < 2 ^ 16) (cs : Int32) (S_cs : Sta Z h0 "java/lang/String" "COMPACT_STRINGS" "Z" (.int cs)) (hcs : ¬ cs = 0) (Es : Exa Z h0 s "java/lang/String") (FCs : Fld Z h0 s "java/lang/String" "coder" "B" (.int (0 : Int32))) (FVs : Fld Z h0 s "java/lang/String" "value" "[B" (.ref b1)) (AVs : Arv Z h0 b1 k1 .byte (Int32.ofNat m.length) (m.map Value.int) (.int 0)) (AVB : Arv Z h0 b k .byte (Int32.ofNat cap) (vd.map Value.int) (.int 0)) (hv : vd.length = cap) (hb1 : b1 ≠ b) (hb : n0 ≤ b) :
    Ct l Z (⟨"java/lang/String", "getBytes", "([BIB)V"⟩ : MethodName) jdk_42_method_147_code 4 none ({ frames := 1, cells := 0, slots := 0, locals := 18 } : Room) EL1 n0 true [] #[(.ref s), (.ref b), (.int (Int32.ofNat p)), (.int (0 : Int32))] h0 [b] (fun v h N => v = none ∧ Keep h0 h [b] ∧ Arv Z h b k .byte (Int32.ofNat cap) ((vd.map Value.int).take p ++ m.map Value.int ++ (vd.map Value.int).drop (p + m.length)) (.int 0)) := by
  refine Ct.of (a0 := a0) (plainFor_of_name pn_java_lang_String) (own_ew hw) (L0 := #[.val (.ref s), .val (.ref b), .val (.int (Int32.ofNat p)), .val (.int (0 : Int32))]) (fun _ => rfl) ?_
  have e_sb := nne (Exa.neArv (a0 := a0) Es AVB (wd hw 9 rfl))
  have e_b := nne hb1
  have l0_Es := nlt Es.lt
  have l0_AVs := nlt AVs.lt
  have l0_AVB := nlt AVB.lt
  refine Go.aloadN (pc' := 1) dj42m147_0 rfl rfl rfl ?_
  refine Go.callV (a1 := a0) (pc' := 4) (argsL := []) (rest := []) (ct_coder l Z a0 hw n0 h0 s cs S_cs hcs FCs) dj42m147_1 (wd hw 44 rfl) (wd hw 45 rfl) (wd hw 47 rfl) (wd hw 47 rfl) (wd hw 46 rfl) (wd hw 8 rfl) (wd hw 48 rfl) Es (by decide) (lenOf pd_0 rfl) rfl 0 rfl rfl (by decide) (by decide) (by decide) (by decide) sl0 rfl (fun v_1 h_2 N_3 hQ_4 hle_5 => ?_)
  obtain ⟨rfl, rfl⟩ := hQ_4
  refine Go.rs [(.int (0 : Int32))] rfl ?_
  refine Go.iloadN (pc' := 5) dj42m147_4 rfl rfl ?_
  refine Go.icmpF (pc' := 8) dj42m147_5 (show (0 : Int32) = (0 : Int32) by decide) rfl ?_
  refine Go.aloadN (pc' := 9) dj42m147_8 rfl rfl rfl ?_
  refine Go.getF (pc' := 12) (host := "") (a1 := a0) dj42m147_9 (Or.inl (wd hw 43 rfl)) Via.refl FVs rfl ?_
  refine Go.iconst (pc' := 13) 0 dj42m147_12 rfl rfl ?_
  refine Go.aloadN (pc' := 14) dj42m147_13 rfl rfl rfl ?_
  refine Go.iloadN (pc' := 15) dj42m147_14 rfl rfl ?_
  refine Go.iloadN (pc' := 16) dj42m147_15 rfl rfl ?_
  refine Go.ishl (pc' := 17) dj42m147_16 rfl ?_
  refine Go.re (pc' := 17) (L' := #[.val (.ref s), .val (.ref b), .val (.int (Int32.ofNat p)), .val (.int (0 : Int32))]) (S' := [(.int (Int32.ofNat p)), (.ref b), (.int (0 : Int32)), (.ref b1)]) rfl rfl (by rw [shl0]) ?_
  refine Go.aloadN (pc' := 18) dj42m147_17 rfl rfl rfl ?_
  refine Go.getF (pc' := 21) (host := "") (a1 := a0) dj42m147_18 (Or.inl (wd hw 43 rfl)) Via.refl FVs rfl ?_
  refine Go.alenV (pc' := 22) dj42m147_21 AVs rfl ?_
  refine Go.acopy (pc' := 25) (a1 := a0) (us := m.map Value.int) dj42m147_22 (wd hw 94 rfl) (wd hw 97 rfl) (wd hw 95 rfl) (wd hw 96 rfl) AVs AVB rfl (by decide) (ofN_nn (by omega)) (ofN_nn (by omega)) (by rw [ofN_nat (by omega)]; exact Nat.le_of_eq (Nat.zero_add _)) (by rw [ofN_nat (by omega), ofN_nat (by omega), ofN_nat (by omega)]; exact hp) (by rw [ofN_nat (by omega)]; exact cp_us m) (by rw [ofN_nat (by omega), ofN_nat (by omega), List.length_map, hv]; exact hp) (Sf.mem (by simp)) (by omega) rfl (by decide) 0 rfl (by decide) rfl (fun h_6 K_7 A_8 => ?_)
  have szh_6 := nle K_7.1
  have F_9 : Arv Z h_6 b k .byte (Int32.ofNat cap) ((vd.map Value.int).take p ++ m.map Value.int ++ (vd.map Value.int).drop (p + m.length)) (.int 0) := by have q := A_8; rw [ofN_nat (by omega), ofN_nat (by omega)] at q; exact q
  refine Go.rs [] rfl ?_
  refine Go.goto (pc' := 43) dj42m147_25 (by decide) (by decide) ?_
  refine Go.ret0 rfl [] sl0 dj42m147_43 (by decide) (by decide) ?_
  exact ⟨rfl, (Keep.trans (Keep.refl _ [b]) K_7 (allS (Or.inl (by simp)) all0)), F_9⟩
theorem dj68m73_0 : decode jdk_68_method_73_code 0 = .ok (.aload_n 0, 1) := by decide +kernel
theorem dj68m73_1 : decode jdk_68_method_73_code 1 = .ok (.aload_n 2, 1) := by decide +kernel
theorem pd_9 : parseMethodDescriptor "(Ljava/lang/String;)V" = some ⟨[(.object "java/lang/String")], none⟩ := by decide +kernel
theorem dj68m73_2 : decode jdk_68_method_73_code 2 = .ok (.invokevirtual 397, 3) := by decide +kernel
theorem dj68m73_5 : decode jdk_68_method_73_code 5 = .ok (.aload_n 2, 1) := by decide +kernel
theorem dj68m73_6 : decode jdk_68_method_73_code 6 = .ok (.aload_n 0, 1) := by decide +kernel
theorem dj68m73_7 : decode jdk_68_method_73_code 7 = .ok (.getfield 15, 3) := by decide +kernel
theorem dj68m73_10 : decode jdk_68_method_73_code 10 = .ok (.iload_n 1, 1) := by decide +kernel
theorem dj68m73_11 : decode jdk_68_method_73_code 11 = .ok (.aload_n 0, 1) := by decide +kernel
theorem dj68m73_12 : decode jdk_68_method_73_code 12 = .ok (.getfield 22, 3) := by decide +kernel
theorem pd_10 : parseMethodDescriptor "([BIB)V" = some ⟨[(.array .byte), .int, .byte], none⟩ := by decide +kernel
theorem dj68m73_15 : decode jdk_68_method_73_code 15 = .ok (.invokevirtual 399, 3) := by decide +kernel
theorem dj68m73_18 : decode jdk_68_method_73_code 18 = .ok (.return_, 1) := by decide +kernel
theorem ct_put (l : Launch) (Z : State) (a0 : Array Value) (hw : ∀ d ∈ tables_1, d.before a0 Z = true) (n0 : Nat) (h0 : Heap) (a1 s b1 b : Addr) (k1 k : ClassId) (m vd : List Int32) (p cap : Nat) (hp : p + m.length ≤ cap) (hc : cap < 2 ^ 16) (cs : Int32) (S_cs : Sta Z h0 "java/lang/String" "COMPACT_STRINGS" "Z" (.int cs)) (hcs : ¬ cs = 0) (Es : Exa Z h0 s "java/lang/String") (FCs : Fld Z h0 s "java/lang/String" "coder" "B" (.int (0 : Int32))) (FVs : Fld Z h0 s "java/lang/String" "value" "[B" (.ref b1)) (AVs : Arv Z h0 b1 k1 .byte (Int32.ofNat m.length) (m.map Value.int) (.int 0)) (EA : Exa Z h0 a1 "java/lang/StringBuilder") (GC : Fld Z h0 a1 "java/lang/AbstractStringBuilder" "coder" "B" (.int (0 : Int32))) (GV : Fld Z h0 a1 "java/lang/AbstractStringBuilder" "value" "[B" (.ref b)) (AVB : Arv Z h0 b k .byte (Int32.ofNat cap) (vd.map Value.int) (.int 0)) (hv : vd.length = cap) (hb1 : b1 ≠ b) (hb : n0 ≤ b) :
    Ct l Z (⟨"java/lang/AbstractStringBuilder", "putStringAt", "(ILjava/lang/String;)V"⟩ : MethodName) jdk_68_method_73_code 3 none ({ frames := 2, cells := 0, slots := 0, locals := 33 } : Room) EL1 n0 true [] #[(.ref a1), (.int (Int32.ofNat p)), (.ref s)] h0 [b] (fun v h N => v = none ∧ Keep h0 h [b] ∧ Arv Z h b k .byte (Int32.ofNat cap) ((vd.map Value.int).take p ++ m.map Value.int ++ (vd.map Value.int).drop (p + m.length)) (.int 0)) := by
  refine Ct.of (a0 := a0) (plainFor_of_name pn_java_lang_AbstractStringBuilder) (own_ew hw) (L0 := #[.val (.ref a1), .val (.int (Int32.ofNat p)), .val (.ref s)]) (fun _ => rfl) ?_
  have e_sb := nne (Exa.neArv (a0 := a0) Es AVB (wd hw 9 rfl))
  have e_b := nne hb1
  have e_ab := nne (Exa.neArv (a0 := a0) EA AVB (wd hw 25 rfl))
  have l0_Es := nlt Es.lt
  have l0_AVs := nlt AVs.lt
  have l0_EA := nlt EA.lt
  have l0_AVB := nlt AVB.lt
  refine Go.aloadN (pc' := 1) dj68m73_0 rfl rfl rfl ?_
  refine Go.aloadN (pc' := 2) dj68m73_1 rfl rfl rfl ?_
  refine Go.callW (a1 := a0) (pc' := 5) (argsL := [(.ref s)]) (rest := []) (ct_inf l Z a0 hw n0 h0 a1 s cs S_cs hcs GC Es FCs) dj68m73_2 (wd hw 83 rfl) (decl_by (wd hw 84 rfl) (wd hw 87 rfl)) (wd hw 76 rfl) rfl (wd hw 86 rfl) (wd hw 84 rfl) (wd hw 35 rfl) (wd hw 87 rfl) EA (by decide) (lenOf pd_9 rfl) rfl 0 rfl rfl (by decide) (by decide) (by decide) (by decide) sl0 rfl (fun v_1 h_2 N_3 hQ_4 hle_5 => ?_)
  obtain ⟨rfl, rfl⟩ := hQ_4
  refine Go.rs [] rfl ?_
  refine Go.aloadN (pc' := 6) dj68m73_5 rfl rfl rfl ?_
  refine Go.aloadN (pc' := 7) dj68m73_6 rfl rfl rfl ?_
  refine Go.getF (pc' := 10) (host := "") (a1 := a0) dj68m73_7 (Or.inl (wd hw 55 rfl)) Via.refl GV rfl ?_
  refine Go.iloadN (pc' := 11) dj68m73_10 rfl rfl ?_
  refine Go.aloadN (pc' := 12) dj68m73_11 rfl rfl rfl ?_
  refine Go.getF (pc' := 15) (host := "") (a1 := a0) dj68m73_12 (Or.inl (wd hw 53 rfl)) Via.refl GC rfl ?_
  refine Go.callV (a1 := a0) (pc' := 18) (argsL := [(.ref b), (.int (Int32.ofNat p)), (.int (0 : Int32))]) (rest := []) (ct_get l Z a0 hw n0 h0 s b1 b k1 k m vd p cap hp hc cs S_cs hcs Es FCs FVs AVs AVB hv hb1 hb) dj68m73_15 (wd hw 89 rfl) (wd hw 90 rfl) (wd hw 92 rfl) (wd hw 92 rfl) (wd hw 91 rfl) (wd hw 8 rfl) (wd hw 93 rfl) Es (by decide) (lenOf pd_10 rfl) rfl 0 rfl rfl (by decide) (by decide) (by decide) (by decide) (sl1 (by simp)) rfl (fun v_8 h_9 N_10 hQ_11 hle_12 => ?_)
  obtain ⟨rfl, K_6, F_7⟩ := hQ_11
  have szh_9 := nle K_6.1
  refine Go.rs [] rfl ?_
  refine Go.ret0 rfl [] sl0 dj68m73_18 (by decide) (by decide) ?_
  exact ⟨rfl, (Keep.trans (Keep.refl _ [b]) K_6 (allS (Or.inl (by simp)) all0)), F_7⟩
theorem dj68m22_0 : decode jdk_68_method_22_code 0 = .ok (.aload_n 1, 1) := by decide +kernel
theorem dj68m22_1 : decode jdk_68_method_22_code 1 = .ok (.ifnonnull 8, 3) := by decide +kernel
theorem dj68m22_9 : decode jdk_68_method_22_code 9 = .ok (.aload_n 1, 1) := by decide +kernel
theorem pd_11 : parseMethodDescriptor "()I" = some ⟨[], (some .int)⟩ := by decide +kernel
theorem dj68m22_10 : decode jdk_68_method_22_code 10 = .ok (.invokevirtual 32, 3) := by decide +kernel
theorem dj68m22_13 : decode jdk_68_method_22_code 13 = .ok (.istore_n 2, 1) := by decide +kernel
theorem dj68m22_14 : decode jdk_68_method_22_code 14 = .ok (.aload_n 0, 1) := by decide +kernel
theorem dj68m22_15 : decode jdk_68_method_22_code 15 = .ok (.aload_n 0, 1) := by decide +kernel
theorem dj68m22_16 : decode jdk_68_method_22_code 16 = .ok (.getfield 79, 3) := by decide +kernel
theorem dj68m22_19 : decode jdk_68_method_22_code 19 = .ok (.iload_n 2, 1) := by decide +kernel
theorem dj68m22_20 : decode jdk_68_method_22_code 20 = .ok (.iadd, 1) := by decide +kernel
theorem pd_12 : parseMethodDescriptor "(I)V" = some ⟨[.int], none⟩ := by decide +kernel
theorem dj68m22_21 : decode jdk_68_method_22_code 21 = .ok (.invokevirtual 100, 3) := by decide +kernel
theorem dj68m22_24 : decode jdk_68_method_22_code 24 = .ok (.aload_n 0, 1) := by decide +kernel
theorem dj68m22_25 : decode jdk_68_method_22_code 25 = .ok (.aload_n 0, 1) := by decide +kernel
theorem dj68m22_26 : decode jdk_68_method_22_code 26 = .ok (.getfield 79, 3) := by decide +kernel
theorem dj68m22_29 : decode jdk_68_method_22_code 29 = .ok (.aload_n 1, 1) := by decide +kernel
theorem pd_13 : parseMethodDescriptor "(ILjava/lang/String;)V" = some ⟨[.int, (.object "java/lang/String")], none⟩ := by decide +kernel
theorem dj68m22_30 : decode jdk_68_method_22_code 30 = .ok (.invokevirtual 208, 3) := by decide +kernel
theorem dj68m22_33 : decode jdk_68_method_22_code 33 = .ok (.aload_n 0, 1) := by decide +kernel
theorem dj68m22_34 : decode jdk_68_method_22_code 34 = .ok (.dup, 1) := by decide +kernel
theorem dj68m22_35 : decode jdk_68_method_22_code 35 = .ok (.getfield 79, 3) := by decide +kernel
theorem dj68m22_38 : decode jdk_68_method_22_code 38 = .ok (.iload_n 2, 1) := by decide +kernel
theorem dj68m22_39 : decode jdk_68_method_22_code 39 = .ok (.iadd, 1) := by decide +kernel
theorem dj68m22_40 : decode jdk_68_method_22_code 40 = .ok (.putfield 79, 3) := by decide +kernel
theorem dj68m22_43 : decode jdk_68_method_22_code 43 = .ok (.aload_n 0, 1) := by decide +kernel
theorem dj68m22_44 : decode jdk_68_method_22_code 44 = .ok (.areturn, 1) := by decide +kernel
theorem ct_aapp (l : Launch) (Z : State) (a0 : Array Value) (hw : ∀ d ∈ tables_1, d.before a0 Z = true) (n0 : Nat) (h0 : Heap) (a1 s b1 b : Addr) (k1 k : ClassId) (ll vr m : List Int32) (cap : Nat) (hv : (ll ++ vr).length = cap) (hm : ll.length + m.length ≤ cap) (hc : cap < 2 ^ 16) (hb1 : b1 ≠ b) (hb : n0 ≤ b) (ha : n0 ≤ a1) (cs : Int32) (S_cs : Sta Z h0 "java/lang/String" "COMPACT_STRINGS" "Z" (.int cs)) (hcs : ¬ cs = 0) (Es : Exa Z h0 s "java/lang/String") (FCs : Fld Z h0 s "java/lang/String" "coder" "B" (.int (0 : Int32))) (FVs : Fld Z h0 s "java/lang/String" "value" "[B" (.ref b1)) (AVs : Arv Z h0 b1 k1 .byte (Int32.ofNat m.length) (m.map Value.int) (.int 0)) (EA : Exa Z h0 a1 "java/lang/StringBuilder") (GN : Fld Z h0 a1 "java/lang/AbstractStringBuilder" "count" "I" (.int (Int32.ofNat ll.length))) (GC : Fld Z h0 a1 "java/lang/AbstractStringBuilder" "coder" "B" (.int (0 : Int32))) (GV : Fld Z h0 a1 "java/lang/AbstractStringBuilder" "value" "[B" (.ref b)) (AVB : Arv Z h0 b k .byte (Int32.ofNat cap) ((ll ++ vr).map Value.int) (.int 0)) :
    Ct l Z (⟨"java/lang/AbstractStringBuilder", "append", "(Ljava/lang/String;)Ljava/lang/AbstractStringBuilder;"⟩ : MethodName) jdk_68_method_22_code 3 (some (.object "java/lang/AbstractStringBuilder")) ({ frames := 3, cells := 0, slots := 0, locals := 47 } : Room) EL1 n0 true [] #[(.ref a1), (.ref s)] h0 [b] (fun v h N => v = some (.ref a1) ∧ Keep h0 h [a1, b] ∧ Exa Z h a1 "java/lang/StringBuilder" ∧ Fld Z h a1 "java/lang/AbstractStringBuilder" "count" "I" (.int (Int32.ofNat (ll.length + m.length))) ∧ Fld Z h a1 "java/lang/AbstractStringBuilder" "coder" "B" (.int (0 : Int32)) ∧ Fld Z h a1 "java/lang/AbstractStringBuilder" "value" "[B" (.ref b) ∧ Arv Z h b k .byte (Int32.ofNat cap) ((ll ++ m ++ vr.drop m.length).map Value.int) (.int 0)) := by
  refine Ct.of (a0 := a0) (plainFor_of_name pn_java_lang_AbstractStringBuilder) (own_ew hw) (L0 := #[.val (.ref a1), .val (.ref s), .unset]) (fun _ => rfl) ?_
  have e_sb := nne (Exa.neArv (a0 := a0) Es AVB (wd hw 9 rfl))
  have e_b := nne hb1
  have e_ab := nne (Exa.neArv (a0 := a0) EA AVB (wd hw 25 rfl))
  have e_as := nne (Exa.ne EA Es (by decide))
  have e_a1 := nne (Exa.neArv (a0 := a0) EA AVs (wd hw 25 rfl))
  have l0_Es := nlt Es.lt
  have l0_AVs := nlt AVs.lt
  have l0_EA := nlt EA.lt
  have l0_AVB := nlt AVB.lt
  refine Go.aloadN (pc' := 1) dj68m22_0 rfl rfl rfl ?_
  refine Go.ifnonnullT (pc' := 9) dj68m22_1 (by decide) (by decide) ?_
  refine Go.aloadN (pc' := 10) dj68m22_9 rfl rfl rfl ?_
  refine Go.callV (a1 := a0) (pc' := 13) (argsL := []) (rest := []) (ct_length l Z a0 hw n0 h0 s b1 k1 (Int32.ofNat m.length) (m.map Value.int) cs S_cs hcs Es FCs FVs AVs) dj68m22_10 (wd hw 38 rfl) (wd hw 39 rfl) (wd hw 41 rfl) (wd hw 41 rfl) (wd hw 40 rfl) (wd hw 8 rfl) (wd hw 42 rfl) Es (by decide) (lenOf pd_11 rfl) rfl 0 rfl rfl (by decide) (by decide) (by decide) (by decide) sl0 rfl (fun v_1 h_2 N_3 hQ_4 hle_5 => ?_)
  obtain ⟨rfl, rfl⟩ := hQ_4
  refine Go.rs [(.int (Int32.ofNat m.length))] rfl ?_
  refine Go.istoreN (pc' := 14) #[.val (.ref a1), .val (.ref s), .val (.int (Int32.ofNat m.length))] dj68m22_13 rfl rfl ?_
  refine Go.aloadN (pc' := 15) dj68m22_14 rfl rfl rfl ?_
  refine Go.aloadN (pc' := 16) dj68m22_15 rfl rfl rfl ?_
  refine Go.getF (pc' := 19) (host := "") (a1 := a0) dj68m22_16 (Or.inl (wd hw 71 rfl)) Via.refl GN rfl ?_
  refine Go.iloadN (pc' := 20) dj68m22_19 rfl rfl ?_
  refine Go.iadd (pc' := 21) dj68m22_20 rfl ?_
  refine Go.re (pc' := 21) (L' := #[.val (.ref a1), .val (.ref s), .val (.int (Int32.ofNat m.length))]) (S' := [(.int (Int32.ofNat (ll.length + m.length))), (.ref a1)]) rfl rfl (by rw [ofN_add]) ?_
  refine Go.callW (a1 := a0) (pc' := 24) (argsL := [(.int (Int32.ofNat (ll.length + m.length)))]) (rest := []) (ct_ens l Z a0 hw n0 h0 a1 b k _ (ll.length + m.length) cap GC GV AVB hm hc) dj68m22_21 (wd hw 73 rfl) (decl_by (wd hw 74 rfl) (wd hw 77 rfl)) (wd hw 76 rfl) rfl (wd hw 76 rfl) (wd hw 74 rfl) (wd hw 35 rfl) (wd hw 77 rfl) EA (by decide) (lenOf pd_12 rfl) rfl 0 rfl rfl (by decide) (by decide) (by decide) (by decide) sl0 rfl (fun v_6 h_7 N_8 hQ_9 hle_10 => ?_)
  obtain ⟨rfl, rfl⟩ := hQ_9
  refine Go.rs [] rfl ?_
  refine Go.aloadN (pc' := 25) dj68m22_24 rfl rfl rfl ?_
  refine Go.aloadN (pc' := 26) dj68m22_25 rfl rfl rfl ?_
  refine Go.getF (pc' := 29) (host := "") (a1 := a0) dj68m22_26 (Or.inl (wd hw 71 rfl)) Via.refl GN rfl ?_
  refine Go.aloadN (pc' := 30) dj68m22_29 rfl rfl rfl ?_
  refine Go.callW (a1 := a0) (pc' := 33) (argsL := [(.int (Int32.ofNat ll.length)), (.ref s)]) (rest := []) (ct_put l Z a0 hw n0 h0 a1 s b1 b k1 k m (ll ++ vr) ll.length cap hm hc cs S_cs hcs Es FCs FVs AVs EA GC GV AVB hv hb1 hb) dj68m22_30 (wd hw 78 rfl) (decl_by (wd hw 79 rfl) (wd hw 82 rfl)) (wd hw 76 rfl) rfl (wd hw 81 rfl) (wd hw 79 rfl) (wd hw 35 rfl) (wd hw 82 rfl) EA (by decide) (lenOf pd_13 rfl) rfl 0 rfl rfl (by decide) (by decide) (by decide) (by decide) (sl1 (by simp)) rfl (fun v_14 h_15 N_16 hQ_17 hle_18 => ?_)
  obtain ⟨rfl, K_11, F_12⟩ := hQ_17
  have szh_15 := nle K_11.1
  have F_13 : Arv Z h_15 b k .byte (Int32.ofNat cap) ((ll ++ m ++ vr.drop m.length).map Value.int) (.int 0) := by rw [← put_at]; exact F_12
  refine Go.rs [] rfl ?_
  refine Go.aloadN (pc' := 34) dj68m22_33 rfl rfl rfl ?_
  refine Go.dup (pc' := 35) dj68m22_34 rfl rfl ?_
  have F_19 := (Fld.keep GN K_11 (ninS (nne (by omega)) nin0))
  refine Go.getF (pc' := 38) (host := "") (a1 := a0) dj68m22_35 (Or.inl (wd hw 71 rfl)) Via.refl F_19 rfl ?_
  refine Go.iloadN (pc' := 39) dj68m22_38 rfl rfl ?_
  refine Go.iadd (pc' := 40) dj68m22_39 rfl ?_
  refine Go.re (pc' := 40) (L' := #[.val (.ref a1), .val (.ref s), .val (.int (Int32.ofNat m.length))]) (S' := [(.int (Int32.ofNat (ll.length + m.length))), (.ref a1)]) rfl rfl (by rw [ofN_add]) ?_
  have F_20 := (Exa.keep EA K_11)
  refine Go.putF (pc' := 43) (host := "") (a1 := a0) dj68m22_40 (Or.inl (wd hw 71 rfl)) Via.refl F_19 F_20 (Or.inl (wd hw 72 rfl)) (wd hw 25 rfl) (ty := .int) (by decide) rfl rfl (Sf.exa F_20 (by decide) (by decide)) (by omega) rfl (fun h_21 W_22 => ?_)
  have szh_21 : h_21.size = h_15.size := Wr.size W_22
  have F_23 : Fld Z h_21 a1 "java/lang/AbstractStringBuilder" "count" "I" (.int (Int32.ofNat (ll.length + m.length))) := Fld.same W_22 F_19
  refine Go.aloadN (pc' := 44) dj68m22_43 rfl rfl rfl ?_
  have F_24 := (Exa.wr W_22 F_20)
  have F_25 : Fld Z h_21 a1 "java/lang/AbstractStringBuilder" "coder" "B" (.int (0 : Int32)) := (Fld.other W_22 (Fld.keep GC K_11 (ninS (nne (by omega)) nin0)) (Or.inr (slot_ne (Or.inl (wd hw 54 rfl)) (Or.inl (wd hw 72 rfl)) (by decide) (t := .byte) (t' := .int) (by decide) (by decide))))
  have F_26 : Fld Z h_21 a1 "java/lang/AbstractStringBuilder" "value" "[B" (.ref b) := (Fld.other W_22 (Fld.keep GV K_11 (ninS (nne (by omega)) nin0)) (Or.inr (slot_ne (Or.inl (wd hw 56 rfl)) (Or.inl (wd hw 72 rfl)) (by decide) (t := (.array .byte)) (t' := .int) (by decide) (by decide))))
  have F_27 := (Arv.other F_13 W_22 (nne (by omega)))
  refine Go.retA rfl rfl rfl [] sl0 dj68m22_44 (by decide) (by decide) ?_
  exact ⟨rfl, (Keep.wr (Keep.trans (Keep.refl _ [a1, b]) K_11 (allS (Or.inl (by simp)) all0)) W_22 (Or.inl (by simp))), F_24, F_23, F_25, F_26, F_27⟩
theorem pn_java_lang_StringBuilder : plainName "java/lang/StringBuilder" = true := by first | (simp [plainName, overriddenIn]; done) | decide +kernel
theorem dj67m7_0 : decode jdk_67_method_7_code 0 = .ok (.aload_n 0, 1) := by decide +kernel
theorem dj67m7_1 : decode jdk_67_method_7_code 1 = .ok (.aload_n 1, 1) := by decide +kernel
theorem pd_14 : parseMethodDescriptor "(Ljava/lang/String;)Ljava/lang/AbstractStringBuilder;" = some ⟨[(.object "java/lang/String")], (some (.object "java/lang/AbstractStringBuilder"))⟩ := by decide +kernel
theorem dj67m7_2 : decode jdk_67_method_7_code 2 = .ok (.invokespecial 29, 3) := by decide +kernel
theorem dj67m7_5 : decode jdk_67_method_7_code 5 = .ok (.pop, 1) := by decide +kernel
theorem dj67m7_6 : decode jdk_67_method_7_code 6 = .ok (.aload_n 0, 1) := by decide +kernel
theorem dj67m7_7 : decode jdk_67_method_7_code 7 = .ok (.areturn, 1) := by decide +kernel
theorem ct_app (l : Launch) (Z : State) (a0 : Array Value) (hw : ∀ d ∈ tables_1, d.before a0 Z = true) (n0 : Nat) (h0 : Heap) (a1 s b1 b : Addr) (ll m : List Int32) (cap : Nat) (HB : Sb Z h0 a1 b cap ll) (HS : Str Z h0 s b1 m) (hm : ll.length + m.length ≤ cap) (hc : cap < 2 ^ 16) (hb1 : b1 ≠ b) (hb : n0 ≤ b) (ha : n0 ≤ a1) (cs : Int32) (S_cs : Sta Z h0 "java/lang/String" "COMPACT_STRINGS" "Z" (.int cs)) (hcs : ¬ cs = 0) :
    Ct l Z (⟨"java/lang/StringBuilder", "append", "(Ljava/lang/String;)Ljava/lang/StringBuilder;"⟩ : MethodName) jdk_67_method_7_code 2 (some (.object "java/lang/StringBuilder")) ({ frames := 4, cells := 0, slots := 0, locals := 61 } : Room) EL1 n0 true [] #[(.ref a1), (.ref s)] h0 [b] (fun v h N => v = some (.ref a1) ∧ Keep h0 h [a1, b] ∧ Sb Z h a1 b cap (ll ++ m)) := by
  refine Ct.of (a0 := a0) (plainFor_of_name pn_java_lang_StringBuilder) (own_ew hw) (L0 := #[.val (.ref a1), .val (.ref s)]) (fun _ => rfl) ?_
  obtain ⟨EA, GN, GC, GV, k, vr, AVB, hv⟩ := HB
  obtain ⟨Es, FCs, FVs, k1, AVs⟩ := HS
  have l0_EA := nlt EA.lt
  refine Go.aloadN (pc' := 1) dj67m7_0 rfl rfl rfl ?_
  refine Go.aloadN (pc' := 2) dj67m7_1 rfl rfl rfl ?_
  refine Go.callU (a1 := a0) (pc' := 5) (argsL := [(.ref s)]) (rest := []) (ct_aapp l Z a0 hw n0 h0 a1 s b1 b k1 k ll vr m cap hv hm hc hb1 hb ha cs S_cs hcs Es FCs FVs AVs EA GN GC GV AVB) dj67m7_2 (by decide) (wd hw 68 rfl) (wd hw 58 rfl) (wd hw 76 rfl) rfl (wd hw 69 rfl) (wd hw 59 rfl) (wd hw 35 rfl) (wd hw 70 rfl) EA (by decide) (lenOf pd_14 rfl) rfl 0 rfl rfl (by decide) (by decide) (by decide) (by decide) (sl1 (by simp)) rfl (fun v_7 h_8 N_9 hQ_10 hle_11 => ?_)
  obtain ⟨rfl, K_1, X_2, F_3, F_4, F_5, A_6⟩ := hQ_10
  have szh_8 := nle K_1.1
  refine Go.rs [(.ref a1)] rfl ?_
  refine Go.pop (pc' := 6) dj67m7_5 rfl rfl ?_
  refine Go.aloadN (pc' := 7) dj67m7_6 rfl rfl rfl ?_
  refine Go.retA rfl rfl rfl [] sl0 dj67m7_7 (by decide) (by decide) ?_
  exact ⟨rfl, (Keep.trans (Keep.refl _ [a1, b]) K_1 (allS (Or.inl (by simp)) (allS (Or.inl (by simp)) all0))), X_2, by rw [List.length_append]; exact F_3, F_4, F_5, k, vr.drop m.length, A_6, by rw [List.length_append, List.length_append, List.length_drop]; rw [List.length_append] at hv; omega⟩
theorem dj68m64_0 : decode jdk_68_method_64_code 0 = .ok (.aload_n 0, 1) := by decide +kernel
theorem dj68m64_1 : decode jdk_68_method_64_code 1 = .ok (.getfield 15, 3) := by decide +kernel
theorem dj68m64_4 : decode jdk_68_method_64_code 4 = .ok (.areturn, 1) := by decide +kernel
theorem ct_gv (l : Launch) (Z : State) (a0 : Array Value) (hw : ∀ d ∈ tables_1, d.before a0 Z = true) (n0 : Nat) (h0 : Heap) (a1 b : Addr) (GV : Fld Z h0 a1 "java/lang/AbstractStringBuilder" "value" "[B" (.ref b)) :
    Ct l Z (⟨"java/lang/AbstractStringBuilder", "getValue", "()[B"⟩ : MethodName) jdk_68_method_64_code 1 (some (.array .byte)) ({ frames := 0, cells := 0, slots := 0, locals := 0 } : Room) EL1 n0 true [] #[(.ref a1)] h0 [] (fun v h N => h0 = h ∧ v = some (.ref b)) := by
  refine Ct.of (a0 := a0) (plainFor_of_name pn_java_lang_AbstractStringBuilder) (own_ew hw) (L0 := #[.val (.ref a1)]) (fun _ => rfl) ?_
  refine Go.aloadN (pc' := 1) dj68m64_0 rfl rfl rfl ?_
  refine Go.getF (pc' := 4) (host := "") (a1 := a0) dj68m64_1 (Or.inl (wd hw 55 rfl)) Via.refl GV rfl ?_
  refine Go.retA rfl rfl rfl [] sl0 dj68m64_4 (by decide) (by decide) ?_
  exact ⟨rfl, rfl⟩
theorem dj68m6_0 : decode jdk_68_method_6_code 0 = .ok (.aload_n 0, 1) := by decide +kernel
theorem dj68m6_1 : decode jdk_68_method_6_code 1 = .ok (.getfield 79, 3) := by decide +kernel
theorem dj68m6_4 : decode jdk_68_method_6_code 4 = .ok (.ireturn, 1) := by decide +kernel
theorem ct_alen (l : Launch) (Z : State) (a0 : Array Value) (hw : ∀ d ∈ tables_1, d.before a0 Z = true) (n0 : Nat) (h0 : Heap) (a1 : Addr) (n : Int32) (GN : Fld Z h0 a1 "java/lang/AbstractStringBuilder" "count" "I" (.int n)) :
    Ct l Z (⟨"java/lang/AbstractStringBuilder", "length", "()I"⟩ : MethodName) jdk_68_method_6_code 1 (some .int) ({ frames := 0, cells := 0, slots := 0, locals := 0 } : Room) EL1 n0 true [] #[(.ref a1)] h0 [] (fun v h N => h0 = h ∧ v = some (.int n)) := by
  refine Ct.of (a0 := a0) (plainFor_of_name pn_java_lang_AbstractStringBuilder) (own_ew hw) (L0 := #[.val (.ref a1)]) (fun _ => rfl) ?_
  refine Go.aloadN (pc' := 1) dj68m6_0 rfl rfl rfl ?_
  refine Go.getF (pc' := 4) (host := "") (a1 := a0) dj68m6_1 (Or.inl (wd hw 71 rfl)) Via.refl GN rfl ?_
  refine Go.retI rfl [] sl0 dj68m6_4 (by decide) (by decide) ?_
  exact ⟨rfl, rfl⟩
theorem dj67m93_0 : decode jdk_67_method_93_code 0 = .ok (.aload_n 0, 1) := by decide +kernel
theorem dj67m93_1 : decode jdk_67_method_93_code 1 = .ok (.invokespecial 343, 3) := by decide +kernel
theorem dj67m93_4 : decode jdk_67_method_93_code 4 = .ok (.ireturn, 1) := by decide +kernel
theorem ct_slen (l : Launch) (Z : State) (a0 : Array Value) (hw : ∀ d ∈ tables_1, d.before a0 Z = true) (n0 : Nat) (h0 : Heap) (a1 : Addr) (n : Int32) (EA : Exa Z h0 a1 "java/lang/StringBuilder") (GN : Fld Z h0 a1 "java/lang/AbstractStringBuilder" "count" "I" (.int n)) :
    Ct l Z (⟨"java/lang/StringBuilder", "length", "()I"⟩ : MethodName) jdk_67_method_93_code 1 (some .int) ({ frames := 1, cells := 0, slots := 0, locals := 12 } : Room) EL1 n0 true [] #[(.ref a1)] h0 [] (fun v h N => h0 = h ∧ v = some (.int n)) := by
  refine Ct.of (a0 := a0) (plainFor_of_name pn_java_lang_StringBuilder) (own_ew hw) (L0 := #[.val (.ref a1)]) (fun _ => rfl) ?_
  have l0_EA := nlt EA.lt
  refine Go.aloadN (pc' := 1) dj67m93_0 rfl rfl rfl ?_
  refine Go.callU (a1 := a0) (pc' := 4) (argsL := []) (rest := []) (ct_alen l Z a0 hw n0 h0 a1 n GN) dj67m93_1 (by decide) (wd hw 156 rfl) (wd hw 151 rfl) (wd hw 76 rfl) rfl (wd hw 69 rfl) (wd hw 152 rfl) (wd hw 35 rfl) (wd hw 157 rfl) EA (by decide) (lenOf pd_11 rfl) rfl 0 rfl rfl (by decide) (by decide) (by decide) (by decide) sl0 rfl (fun v_1 h_2 N_3 hQ_4 hle_5 => ?_)
  obtain ⟨rfl, rfl⟩ := hQ_4
  refine Go.rs [(.int n)] rfl ?_
  refine Go.retI rfl [] sl0 dj67m93_4 (by decide) (by decide) ?_
  exact ⟨rfl, rfl⟩
theorem dj68m68_0 : decode jdk_68_method_68_code 0 = .ok (.getstatic 18, 3) := by decide +kernel
theorem dj68m68_3 : decode jdk_68_method_68_code 3 = .ok (.ifCond .eq 14, 3) := by decide +kernel
theorem dj68m68_6 : decode jdk_68_method_68_code 6 = .ok (.aload_n 0, 1) := by decide +kernel
theorem dj68m68_7 : decode jdk_68_method_68_code 7 = .ok (.getfield 22, 3) := by decide +kernel
theorem dj68m68_10 : decode jdk_68_method_68_code 10 = .ok (.ifCond .ne 7, 3) := by decide +kernel
theorem dj68m68_13 : decode jdk_68_method_68_code 13 = .ok (.iconst 1, 1) := by decide +kernel
theorem dj68m68_14 : decode jdk_68_method_68_code 14 = .ok (.goto 4, 3) := by decide +kernel
theorem dj68m68_18 : decode jdk_68_method_68_code 18 = .ok (.ireturn, 1) := by decide +kernel
theorem ct_isl (l : Launch) (Z : State) (a0 : Array Value) (hw : ∀ d ∈ tables_1, d.before a0 Z = true) (n0 : Nat) (h0 : Heap) (a1 : Addr) (cs : Int32) (S_cs : Sta Z h0 "java/lang/String" "COMPACT_STRINGS" "Z" (.int cs)) (hcs : ¬ cs = 0) (GC : Fld Z h0 a1 "java/lang/AbstractStringBuilder" "coder" "B" (.int (0 : Int32))) :
    Ct l Z (⟨"java/lang/AbstractStringBuilder", "isLatin1", "()Z"⟩ : MethodName) jdk_68_method_68_code 1 (some .boolean) ({ frames := 0, cells := 0, slots := 0, locals := 0 } : Room) EL1 n0 true [] #[(.ref a1)] h0 [] (fun v h N => h0 = h ∧ v = some (.int 1)) := by
  refine Ct.of (a0 := a0) (plainFor_of_name pn_java_lang_AbstractStringBuilder) (own_ew hw) (L0 := #[.val (.ref a1)]) (fun _ => rfl) ?_
  refine Go.getS (pc' := 3) (host := "") (a1 := a0) dj68m68_0 (Or.inl (wd hw 88 rfl)) Via.refl S_cs rfl ?_
  refine Go.ifF (pc' := 6) dj68m68_3 (hcs) rfl ?_
  refine Go.aloadN (pc' := 7) dj68m68_6 rfl rfl rfl ?_
  refine Go.getF (pc' := 10) (host := "") (a1 := a0) dj68m68_7 (Or.inl (wd hw 53 rfl)) Via.refl GC rfl ?_
  refine Go.ifF (pc' := 13) dj68m68_10 (show (0 : Int32) = (0 : Int32) by decide) rfl ?_
  refine Go.iconst (pc' := 14) 1 dj68m68_13 rfl rfl ?_
  refine Go.goto (pc' := 18) dj68m68_14 (by decide) (by decide) ?_
  refine Go.retN (t := .boolean) (1 : Int32) rfl (by simp) rfl [] sl0 dj68m68_18 (by decide) (by decide) ?_
  exact ⟨rfl, rfl⟩
theorem dj29m69_0 : decode jdk_29_method_69_code 0 = .ok (.iload_n 0, 1) := by decide +kernel
theorem dj29m69_1 : decode jdk_29_method_69_code 1 = .ok (.iload_n 1, 1) := by decide +kernel
theorem dj29m69_2 : decode jdk_29_method_69_code 2 = .ok (.if_icmp .gt 7, 3) := by decide +kernel
theorem dj29m69_9 : decode jdk_29_method_69_code 9 = .ok (.iload_n 1, 1) := by decide +kernel
theorem dj29m69_10 : decode jdk_29_method_69_code 10 = .ok (.ireturn, 1) := by decide +kernel
theorem ct_min2 (l : Launch) (Z : State) (a0 : Array Value) (hw : ∀ d ∈ tables_1, d.before a0 Z = true) (n0 : Nat) (h0 : Heap) (p1 p2 : Int32) (hp : p2 < p1) :
    Ct l Z (⟨"java/lang/Math", "min", "(II)I"⟩ : MethodName) jdk_29_method_69_code 2 (some .int) ({ frames := 0, cells := 0, slots := 0, locals := 0 } : Room) EL1 n0 true [] #[(.int p1), (.int p2)] h0 [] (fun v h N => h0 = h ∧ v = some (.int p2)) := by
  refine Ct.of (a0 := a0) (Jvm.Free.JP.mathPlain rfl (by decide +kernel)) (own_ew hw) (L0 := #[.val (.int p1), .val (.int p2)]) (fun _ => rfl) ?_
  refine Go.iloadN (pc' := 1) dj29m69_0 rfl rfl ?_
  refine Go.iloadN (pc' := 2) dj29m69_1 rfl rfl ?_
  refine Go.icmpT (pc' := 9) dj29m69_2 (hp) (by decide) (by decide) ?_
  refine Go.iloadN (pc' := 10) dj29m69_9 rfl rfl ?_
  refine Go.retI rfl [] sl0 dj29m69_10 (by decide) (by decide) ?_
  exact ⟨rfl, rfl⟩
theorem pn_java_util_Arrays : plainName "java/util/Arrays" = true := by first | (simp [plainName, overriddenIn]; done) | decide +kernel
theorem dj65m131_0 : decode jdk_65_method_131_code 0 = .ok (.iload_n 1, 1) := by decide +kernel
theorem dj65m131_1 : decode jdk_65_method_131_code 1 = .ok (.iload_n 0, 1) := by decide +kernel
theorem dj65m131_2 : decode jdk_65_method_131_code 2 = .ok (.if_icmp .ge 35, 3) := by decide +kernel
theorem dj65m131_37 : decode jdk_65_method_131_code 37 = .ok (.return_, 1) := by decide +kernel
theorem ct_chkL (l : Launch) (Z : State) (a0 : Array Value) (hw : ∀ d ∈ tables_1, d.before a0 Z = true) (n0 : Nat) (h0 : Heap) (p2 : Int32) (hp : ¬ p2 < 0) :
    Ct l Z (⟨"java/util/Arrays", "checkLength", "(II)V"⟩ : MethodName) jdk_65_method_131_code 2 none ({ frames := 0, cells := 0, slots := 0, locals := 0 } : Room) EL1 n0 true [] #[(.int (0 : Int32)), (.int p2)] h0 [] (fun v h N => h0 = h ∧ v = none) := by
  refine Ct.of (a0 := a0) (plainFor_of_name pn_java_util_Arrays) (own_ew hw) (L0 := #[.val (.int (0 : Int32)), .val (.int p2)]) (fun _ => rfl) ?_
  refine Go.iloadN (pc' := 1) dj65m131_0 rfl rfl ?_
  refine Go.iloadN (pc' := 2) dj65m131_1 rfl rfl ?_
  refine Go.icmpT (pc' := 37) dj65m131_2 (hp) (by decide) (by decide) ?_
  refine Go.ret0 rfl [] sl0 dj65m131_37 (by decide) (by decide) ?_
  exact ⟨rfl, rfl⟩
theorem dj65m133_0 : decode jdk_65_method_133_code 0 = .ok (.iload_n 1, 1) := by decide +kernel
theorem dj65m133_1 : decode jdk_65_method_133_code 1 = .ok (.iload_n 2, 1) := by decide +kernel
theorem dj65m133_2 : decode jdk_65_method_133_code 2 = .ok (.invokestatic 343, 3) := by decide +kernel
theorem dj65m133_5 : decode jdk_65_method_133_code 5 = .ok (.iload_n 2, 1) := by decide +kernel
theorem dj65m133_6 : decode jdk_65_method_133_code 6 = .ok (.iload_n 1, 1) := by decide +kernel
theorem dj65m133_7 : decode jdk_65_method_133_code 7 = .ok (.isub, 1) := by decide +kernel
theorem dj65m133_8 : decode jdk_65_method_133_code 8 = .ok (.istore_n 3, 1) := by decide +kernel
theorem dj65m133_9 : decode jdk_65_method_133_code 9 = .ok (.iload_n 3, 1) := by decide +kernel
theorem dj65m133_10 : decode jdk_65_method_133_code 10 = .ok (.newarray .byte, 2) := by decide +kernel
theorem dj65m133_12 : decode jdk_65_method_133_code 12 = .ok (.astore 4, 2) := by decide +kernel
theorem dj65m133_14 : decode jdk_65_method_133_code 14 = .ok (.aload_n 0, 1) := by decide +kernel
theorem dj65m133_15 : decode jdk_65_method_133_code 15 = .ok (.iload_n 1, 1) := by decide +kernel
theorem dj65m133_16 : decode jdk_65_method_133_code 16 = .ok (.aload 4, 2) := by decide +kernel
theorem dj65m133_18 : decode jdk_65_method_133_code 18 = .ok (.iconst 0, 1) := by decide +kernel
theorem dj65m133_19 : decode jdk_65_method_133_code 19 = .ok (.aload_n 0, 1) := by decide +kernel
theorem dj65m133_20 : decode jdk_65_method_133_code 20 = .ok (.arraylength, 1) := by decide +kernel
theorem dj65m133_21 : decode jdk_65_method_133_code 21 = .ok (.iload_n 1, 1) := by decide +kernel
theorem dj65m133_22 : decode jdk_65_method_133_code 22 = .ok (.isub, 1) := by decide +kernel
theorem dj65m133_23 : decode jdk_65_method_133_code 23 = .ok (.iload_n 3, 1) := by decide +kernel
theorem pd_15 : parseMethodDescriptor "(II)I" = some ⟨[.int, .int], (some .int)⟩ := by decide +kernel
theorem dj65m133_24 : decode jdk_65_method_133_code 24 = .ok (.invokestatic 304, 3) := by decide +kernel
theorem dj65m133_27 : decode jdk_65_method_133_code 27 = .ok (.invokestatic 150, 3) := by decide +kernel
theorem dj65m133_30 : decode jdk_65_method_133_code 30 = .ok (.aload 4, 2) := by decide +kernel
theorem dj65m133_32 : decode jdk_65_method_133_code 32 = .ok (.areturn, 1) := by decide +kernel
theorem ct_crb (l : Launch) (Z : State) (a0 : Array Value) (hw : ∀ d ∈ tables_1, d.before a0 Z = true) (n0 : Nat) (h0 : Heap) (b : Addr) (k : ClassId) (ll vr : List Int32) (cap : Nat) (hv : (ll ++ vr).length = cap) (hn : ll.length < cap) (hc : cap < 2 ^ 16) (hk : ll.length ≤ 128) (AVB : Arv Z h0 b k .byte (Int32.ofNat cap) ((ll ++ vr).map Value.int) (.int 0)) (hn0 : n0 ≤ h0.size) :
    Ct l Z (⟨"java/util/Arrays", "copyOfRangeByte", "([BII)[B"⟩ : MethodName) jdk_65_method_133_code 5 (some (.array .byte)) ({ frames := 1, cells := 1, slots := 128, locals := 18 } : Room) EL1 n0 true [] #[(.ref b), (.int (0 : Int32)), (.int (Int32.ofNat ll.length))] h0 [] (fun v h N => ∃ d kd, v = some (.ref d) ∧ h0.size ≤ d ∧ d < h.size ∧ Keep h0 h [] ∧ Arv Z h d kd .byte (Int32.ofNat ll.length) (ll.map Value.int) (.int 0)) := by
  refine Ct.of (a0 := a0) (plainFor_of_name pn_java_util_Arrays) (own_ew hw) (L0 := #[.val (.ref b), .val (.int (0 : Int32)), .val (.int (Int32.ofNat ll.length)), .unset, .unset]) (fun _ => rfl) ?_
  have l0_AVB := nlt AVB.lt
  refine Go.iloadN (pc' := 1) dj65m133_0 rfl rfl ?_
  refine Go.iloadN (pc' := 2) dj65m133_1 rfl rfl ?_
  refine Go.callS (a1 := a0) (pc' := 5) (argsL := [(.int (0 : Int32)), (.int (Int32.ofNat ll.length))]) (rest := []) (ct_chkL l Z a0 hw n0 h0 (Int32.ofNat ll.length) (ofN_nn (by omega))) dj65m133_2 (wd hw 166 rfl) (wd hw 167 rfl) (wd hw 161 rfl) (wd hw 168 rfl) (by decide) (lenOf pd_2 rfl) rfl 0 rfl rfl (by decide) (by decide) (by decide) (by decide) sl0 rfl (fun v_1 h_2 N_3 hQ_4 hle_5 => ?_)
  obtain ⟨rfl, rfl⟩ := hQ_4
  refine Go.rs [] rfl ?_
  refine Go.iloadN (pc' := 6) dj65m133_5 rfl rfl ?_
  refine Go.iloadN (pc' := 7) dj65m133_6 rfl rfl ?_
  refine Go.isub (pc' := 8) dj65m133_7 rfl ?_
  refine Go.re (pc' := 8) (L' := #[.val (.ref b), .val (.int (0 : Int32)), .val (.int (Int32.ofNat ll.length)), .unset, .unset]) (S' := [(.int (Int32.ofNat ll.length))]) rfl rfl (by rw [Int32.sub_zero]) ?_
  refine Go.istoreN (pc' := 9) #[.val (.ref b), .val (.int (0 : Int32)), .val (.int (Int32.ofNat ll.length)), .val (.int (Int32.ofNat ll.length)), .unset] dj65m133_8 rfl rfl ?_
  refine Go.iloadN (pc' := 10) dj65m133_9 rfl rfl ?_
  refine Go.newPV (pc' := 12) (a1 := a0) 128 ((List.replicate ll.length (0 : Int32)).map Value.int) dj65m133_10 (wd hw 10 rfl) (ofN_nn (by omega)) (by rw [ofN_nat (by omega)]; exact hk) (by decide) (by decide) (by decide) (by rw [ofN_nat (by omega), List.map_replicate]; rfl) rfl (fun a_6 h_7 cA_8 ha_9 E_10 A_11 => ?_)
  have szh_7 := nle E_10.1
  have lta_6 := nlt A_11.lt
  have qa_6 := neq ha_9
  have F_12 : Arv Z h_7 a_6 cA_8 .byte (Int32.ofNat ll.length) ((List.replicate ll.length (0 : Int32)).map Value.int) (.int 0) := A_11
  refine Go.astore (pc' := 14) #[.val (.ref b), .val (.int (0 : Int32)), .val (.int (Int32.ofNat ll.length)), .val (.int (Int32.ofNat ll.length)), .val (.ref a_6)] dj65m133_12 rfl rfl rfl ?_
  refine Go.aloadN (pc' := 15) dj65m133_14 rfl rfl rfl ?_
  refine Go.iloadN (pc' := 16) dj65m133_15 rfl rfl ?_
  refine Go.aload (pc' := 18) dj65m133_16 rfl rfl rfl ?_
  refine Go.iconst (pc' := 19) 0 dj65m133_18 rfl rfl ?_
  refine Go.aloadN (pc' := 20) dj65m133_19 rfl rfl rfl ?_
  have F_13 := (Arv.ext AVB E_10)
  refine Go.alenV (pc' := 21) dj65m133_20 F_13 rfl ?_
  refine Go.iloadN (pc' := 22) dj65m133_21 rfl rfl ?_
  refine Go.isub (pc' := 23) dj65m133_22 rfl ?_
  refine Go.re (pc' := 23) (L' := #[.val (.ref b), .val (.int (0 : Int32)), .val (.int (Int32.ofNat ll.length)), .val (.int (Int32.ofNat ll.length)), .val (.ref a_6)]) (S' := [(.int (Int32.ofNat cap)), (.int (0 : Int32)), (.ref a_6), (.int (0 : Int32)), (.ref b)]) rfl rfl (by rw [Int32.sub_zero]) ?_
  refine Go.iloadN (pc' := 24) dj65m133_23 rfl rfl ?_
  refine Go.callS (a1 := a0) (pc' := 27) (argsL := [(.int (Int32.ofNat cap)), (.int (Int32.ofNat ll.length))]) (rest := [(.int (0 : Int32)), (.ref a_6), (.int (0 : Int32)), (.ref b)]) (ct_min2 l Z a0 hw n0 h_7 (Int32.ofNat cap) (Int32.ofNat ll.length) ((ofN_lt (by omega) (by omega)).mpr hn)) dj65m133_24 (wd hw 169 rfl) (wd hw 170 rfl) (wd hw 171 rfl) (wd hw 172 rfl) (by decide) (lenOf pd_15 rfl) rfl 4 rfl rfl (by decide) (by decide) (by decide) (by decide) sl0 rfl (fun v_14 h_15 N_16 hQ_17 hle_18 => ?_)
  obtain ⟨rfl, rfl⟩ := hQ_17
  refine Go.rs [(.int (Int32.ofNat ll.length)), (.int (0 : Int32)), (.ref a_6), (.int (0 : Int32)), (.ref b)] rfl ?_
  refine Go.acopy (pc' := 30) (a1 := a0) (us := ll.map Value.int) dj65m133_27 (wd hw 173 rfl) (wd hw 97 rfl) (wd hw 95 rfl) (wd hw 96 rfl) F_13 F_12 rfl (by decide) (by decide) (ofN_nn (by omega)) (by rw [ofN_nat (by omega), ofN_nat (by omega)]; show 0 + ll.length ≤ cap; omega) (by rw [ofN_nat (by omega)]; show 0 + ll.length ≤ ll.length; omega) (by rw [ofN_nat (by omega)]; exact cp_us2 ll vr) (by rw [ofN_nat (by omega), List.length_map, List.length_replicate]; show 0 + ll.length ≤ ll.length; omega) (Sf.mem (by simp)) (by omega) rfl (by decide) 0 rfl (by decide) rfl (fun h_19 K_20 A_21 => ?_)
  have szh_19 := nle K_20.1
  have F_22 : Arv Z h_19 a_6 cA_8 .byte (Int32.ofNat ll.length) (ll.map Value.int) (.int 0) := by have q := A_21; rw [ofN_nat (by omega)] at q; have z0 : (0 : Int32).toNatClampNeg = 0 := (by decide); rw [z0] at q; simpa using q
  refine Go.rs [] rfl ?_
  refine Go.aload (pc' := 32) dj65m133_30 rfl rfl rfl ?_
  refine Go.retA rfl rfl rfl [] sl0 dj65m133_32 (by decide) (by decide) ?_
  exact ⟨a_6, _, rfl, by omega, F_22.lt, (Keep.trans (Keep.ext (Keep.refl _ []) E_10) K_20 (allS (Or.inr (by omega)) all0)), F_22⟩
theorem dj65m132_0 : decode jdk_65_method_132_code 0 = .ok (.iload_n 1, 1) := by decide +kernel
theorem dj65m132_1 : decode jdk_65_method_132_code 1 = .ok (.ifCond .ne 9, 3) := by decide +kernel
theorem dj65m132_4 : decode jdk_65_method_132_code 4 = .ok (.iload_n 2, 1) := by decide +kernel
theorem dj65m132_5 : decode jdk_65_method_132_code 5 = .ok (.aload_n 0, 1) := by decide +kernel
theorem dj65m132_6 : decode jdk_65_method_132_code 6 = .ok (.arraylength, 1) := by decide +kernel
theorem dj65m132_7 : decode jdk_65_method_132_code 7 = .ok (.if_icmp .eq 10, 3) := by decide +kernel
theorem dj65m132_10 : decode jdk_65_method_132_code 10 = .ok (.aload_n 0, 1) := by decide +kernel
theorem dj65m132_11 : decode jdk_65_method_132_code 11 = .ok (.iload_n 1, 1) := by decide +kernel
theorem dj65m132_12 : decode jdk_65_method_132_code 12 = .ok (.iload_n 2, 1) := by decide +kernel
theorem pd_16 : parseMethodDescriptor "([BII)[B" = some ⟨[(.array .byte), .int, .int], (some (.array .byte))⟩ := by decide +kernel
theorem dj65m132_13 : decode jdk_65_method_132_code 13 = .ok (.invokestatic 339, 3) := by decide +kernel
theorem dj65m132_16 : decode jdk_65_method_132_code 16 = .ok (.areturn, 1) := by decide +kernel
theorem ct_cr (l : Launch) (Z : State) (a0 : Array Value) (hw : ∀ d ∈ tables_1, d.before a0 Z = true) (n0 : Nat) (h0 : Heap) (b : Addr) (k : ClassId) (ll vr : List Int32) (cap : Nat) (hv : (ll ++ vr).length = cap) (hn : ll.length < cap) (hc : cap < 2 ^ 16) (hk : ll.length ≤ 128) (AVB : Arv Z h0 b k .byte (Int32.ofNat cap) ((ll ++ vr).map Value.int) (.int 0)) (hn0 : n0 ≤ h0.size) :
    Ct l Z (⟨"java/util/Arrays", "copyOfRange", "([BII)[B"⟩ : MethodName) jdk_65_method_132_code 3 (some (.array .byte)) ({ frames := 2, cells := 1, slots := 128, locals := 34 } : Room) EL1 n0 true [] #[(.ref b), (.int (0 : Int32)), (.int (Int32.ofNat ll.length))] h0 [] (fun v h N => ∃ d kd, v = some (.ref d) ∧ h0.size ≤ d ∧ d < h.size ∧ Keep h0 h [] ∧ Arv Z h d kd .byte (Int32.ofNat ll.length) (ll.map Value.int) (.int 0)) := by
  refine Ct.of (a0 := a0) (plainFor_of_name pn_java_util_Arrays) (own_ew hw) (L0 := #[.val (.ref b), .val (.int (0 : Int32)), .val (.int (Int32.ofNat ll.length))]) (fun _ => rfl) ?_
  have l0_AVB := nlt AVB.lt
  refine Go.iloadN (pc' := 1) dj65m132_0 rfl rfl ?_
  refine Go.ifF (pc' := 4) dj65m132_1 (show (0 : Int32) = (0 : Int32) by decide) rfl ?_
  refine Go.iloadN (pc' := 5) dj65m132_4 rfl rfl ?_
  refine Go.aloadN (pc' := 6) dj65m132_5 rfl rfl rfl ?_
  refine Go.alenV (pc' := 7) dj65m132_6 AVB rfl ?_
  refine Go.icmpF (pc' := 10) dj65m132_7 (fun q => absurd ((ofN_eq (by omega) (by omega)).mp q) (by omega)) rfl ?_
  refine Go.aloadN (pc' := 11) dj65m132_10 rfl rfl rfl ?_
  refine Go.iloadN (pc' := 12) dj65m132_11 rfl rfl ?_
  refine Go.iloadN (pc' := 13) dj65m132_12 rfl rfl ?_
  refine Go.callS (a1 := a0) (pc' := 16) (argsL := [(.ref b), (.int (0 : Int32)), (.int (Int32.ofNat ll.length))]) (rest := []) (ct_crb l Z a0 hw n0 h0 b k ll vr cap hv hn hc hk AVB (by omega)) dj65m132_13 (wd hw 163 rfl) (wd hw 164 rfl) (wd hw 161 rfl) (wd hw 165 rfl) (by decide) (lenOf pd_16 rfl) rfl 0 rfl rfl (by decide) (by decide) (by decide) (by decide) sl0 rfl (fun v_7 h_8 N_9 hQ_10 hle_11 => ?_)
  obtain ⟨d_1, kd_2, rfl, g_3, g_4, K_5, F_6⟩ := hQ_10
  have szh_8 := nle K_5.1
  have ltd_1 := nlt g_4
  have ged_1 := nle g_3
  refine Go.rs [(.ref d_1)] rfl ?_
  refine Go.retA rfl rfl rfl [] sl0 dj65m132_16 (by decide) (by decide) ?_
  exact ⟨d_1, _, rfl, by omega, F_6.lt, (Keep.trans (Keep.refl _ []) K_5 all0), F_6⟩
theorem dj42m150_0 : decode jdk_42_method_150_code 0 = .ok (.aload_n 0, 1) := by decide +kernel
theorem dj42m150_1 : decode jdk_42_method_150_code 1 = .ok (.invokespecial 1, 3) := by decide +kernel
theorem dj42m150_4 : decode jdk_42_method_150_code 4 = .ok (.aload_n 1, 1) := by decide +kernel
theorem pd_17 : parseMethodDescriptor "()[B" = some ⟨[], (some (.array .byte))⟩ := by decide +kernel
theorem dj42m150_5 : decode jdk_42_method_150_code 5 = .ok (.invokevirtual 552, 3) := by decide +kernel
theorem dj42m150_8 : decode jdk_42_method_150_code 8 = .ok (.astore_n 3, 1) := by decide +kernel
theorem dj42m150_9 : decode jdk_42_method_150_code 9 = .ok (.aload_n 1, 1) := by decide +kernel
theorem dj42m150_10 : decode jdk_42_method_150_code 10 = .ok (.invokevirtual 549, 3) := by decide +kernel
theorem dj42m150_13 : decode jdk_42_method_150_code 13 = .ok (.istore 4, 2) := by decide +kernel
theorem dj42m150_15 : decode jdk_42_method_150_code 15 = .ok (.aload_n 1, 1) := by decide +kernel
theorem dj42m150_16 : decode jdk_42_method_150_code 16 = .ok (.invokevirtual 1047, 3) := by decide +kernel
theorem dj42m150_19 : decode jdk_42_method_150_code 19 = .ok (.ifCond .eq 22, 3) := by decide +kernel
theorem dj42m150_22 : decode jdk_42_method_150_code 22 = .ok (.aload_n 0, 1) := by decide +kernel
theorem dj42m150_23 : decode jdk_42_method_150_code 23 = .ok (.iconst 0, 1) := by decide +kernel
theorem dj42m150_24 : decode jdk_42_method_150_code 24 = .ok (.putfield 15, 3) := by decide +kernel
theorem dj42m150_27 : decode jdk_42_method_150_code 27 = .ok (.aload_n 0, 1) := by decide +kernel
theorem dj42m150_28 : decode jdk_42_method_150_code 28 = .ok (.aload_n 3, 1) := by decide +kernel
theorem dj42m150_29 : decode jdk_42_method_150_code 29 = .ok (.iconst 0, 1) := by decide +kernel
theorem dj42m150_30 : decode jdk_42_method_150_code 30 = .ok (.iload 4, 2) := by decide +kernel
theorem dj42m150_32 : decode jdk_42_method_150_code 32 = .ok (.invokestatic 54, 3) := by decide +kernel
theorem dj42m150_35 : decode jdk_42_method_150_code 35 = .ok (.putfield 9, 3) := by decide +kernel
theorem dj42m150_38 : decode jdk_42_method_150_code 38 = .ok (.goto 59, 3) := by decide +kernel
theorem dj42m150_97 : decode jdk_42_method_150_code 97 = .ok (.return_, 1) := by decide +kernel
theorem ct_tsi2 (l : Launch) (Z : State) (a0 : Array Value) (hw : ∀ d ∈ tables_1, d.before a0 Z = true) (n0 : Nat) (h0 : Heap) (s : Addr) (hs : n0 ≤ s) (Es : Exa Z h0 s "java/lang/String") (G1 : Fld Z h0 s "java/lang/String" "value" "[B" .null) (G2 : Fld Z h0 s "java/lang/String" "coder" "B" (.int (0 : Int32))) (a1 b : Addr) (k : ClassId) (ll vr : List Int32) (cap : Nat) (hv : (ll ++ vr).length = cap) (hn : ll.length < cap) (hc : cap < 2 ^ 16) (hk : ll.length ≤ 128) (EA : Exa Z h0 a1 "java/lang/StringBuilder") (GN : Fld Z h0 a1 "java/lang/AbstractStringBuilder" "count" "I" (.int (Int32.ofNat ll.length))) (GC : Fld Z h0 a1 "java/lang/AbstractStringBuilder" "coder" "B" (.int (0 : Int32))) (GV : Fld Z h0 a1 "java/lang/AbstractStringBuilder" "value" "[B" (.ref b)) (AVB : Arv Z h0 b k .byte (Int32.ofNat cap) ((ll ++ vr).map Value.int) (.int 0)) (cs : Int32) (S_cs : Sta Z h0 "java/lang/String" "COMPACT_STRINGS" "Z" (.int cs)) (hcs : ¬ cs = 0) :
    Ct l Z (⟨"java/lang/String", "<init>", "(Ljava/lang/AbstractStringBuilder;Ljava/lang/Void;)V"⟩ : MethodName) jdk_42_method_150_code 5 none ({ frames := 3, cells := 1, slots := 128, locals := 49 } : Room) EL1 n0 true [] #[(.ref s), (.ref a1), (.null)] h0 [s] (fun v h N => v = none ∧ ∃ b2 k2, h0.size ≤ b2 ∧ b2 < h.size ∧ Keep h0 h [s] ∧ Exa Z h s "java/lang/String" ∧ Fld Z h s "java/lang/String" "coder" "B" (.int (0 : Int32)) ∧ Fld Z h s "java/lang/String" "value" "[B" (.ref b2) ∧ Arv Z h b2 k2 .byte (Int32.ofNat ll.length) (ll.map Value.int) (.int 0)) := by
  refine Ct.of (a0 := a0) (plainFor_of_name pn_java_lang_String) (own_ew hw) (L0 := #[.val (.ref s), .val (.ref a1), .val (.null), .unset, .unset]) (fun _ => rfl) ?_
  have e_as := nne (Exa.ne EA Es (by decide))
  have e_ab := nne (Exa.neArv (a0 := a0) EA AVB (wd hw 25 rfl))
  have e_sb := nne (Exa.neArv (a0 := a0) Es AVB (wd hw 9 rfl))
  have l0_Es := nlt Es.lt
  have l0_EA := nlt EA.lt
  have l0_AVB := nlt AVB.lt
  refine Go.aloadN (pc' := 1) dj42m150_0 rfl rfl rfl ?_
  refine Go.initO (pc' := 4) (a1 := a0) dj42m150_1 (wd hw 144 rfl) (wd hw 22 rfl) (wd hw 23 rfl) rfl (by decide) 0 rfl (by decide) rfl ?_
  refine Go.aloadN (pc' := 5) dj42m150_4 rfl rfl rfl ?_
  refine Go.callW (a1 := a0) (pc' := 8) (argsL := []) (rest := []) (ct_gv l Z a0 hw n0 h0 a1 b GV) dj42m150_5 (wd hw 145 rfl) (wd hw 146 rfl) (wd hw 76 rfl) rfl (wd hw 148 rfl) (wd hw 147 rfl) (wd hw 35 rfl) (wd hw 149 rfl) EA (by decide) (lenOf pd_17 rfl) rfl 0 rfl rfl (by decide) (by decide) (by decide) (by decide) sl0 rfl (fun v_1 h_2 N_3 hQ_4 hle_5 => ?_)
  obtain ⟨rfl, rfl⟩ := hQ_4
  refine Go.rs [(.ref b)] rfl ?_
  refine Go.astoreN (pc' := 9) #[.val (.ref s), .val (.ref a1), .val (.null), .val (.ref b), .unset] dj42m150_8 rfl rfl rfl ?_
  refine Go.aloadN (pc' := 10) dj42m150_9 rfl rfl rfl ?_
  refine Go.callW (a1 := a0) (pc' := 13) (argsL := []) (rest := []) (ct_slen l Z a0 hw n0 h0 a1 (Int32.ofNat ll.length) EA GN) dj42m150_10 (wd hw 150 rfl) (wd hw 151 rfl) (wd hw 76 rfl) rfl (wd hw 153 rfl) (wd hw 154 rfl) (wd hw 26 rfl) (wd hw 155 rfl) EA (by decide) (lenOf pd_11 rfl) rfl 0 rfl rfl (by decide) (by decide) (by decide) (by decide) sl0 rfl (fun v_6 h_7 N_8 hQ_9 hle_10 => ?_)
  obtain ⟨rfl, rfl⟩ := hQ_9
  refine Go.rs [(.int (Int32.ofNat ll.length))] rfl ?_
  refine Go.istore (pc' := 15) #[.val (.ref s), .val (.ref a1), .val (.null), .val (.ref b), .val (.int (Int32.ofNat ll.length))] dj42m150_13 rfl rfl ?_
  refine Go.aloadN (pc' := 16) dj42m150_15 rfl rfl rfl ?_
  refine Go.callW (a1 := a0) (pc' := 19) (argsL := []) (rest := []) (ct_isl l Z a0 hw n0 h0 a1 cs S_cs hcs GC) dj42m150_16 (wd hw 158 rfl) (wd hw 108 rfl) (wd hw 76 rfl) rfl (wd hw 110 rfl) (wd hw 109 rfl) (wd hw 35 rfl) (wd hw 111 rfl) EA (by decide) (lenOf pd_3 rfl) rfl 0 rfl rfl (by decide) (by decide) (by decide) (by decide) sl0 rfl (fun v_11 h_12 N_13 hQ_14 hle_15 => ?_)
  obtain ⟨rfl, rfl⟩ := hQ_14
  refine Go.rs [(.int (1 : Int32))] rfl ?_
  refine Go.ifF (pc' := 22) dj42m150_19 (show ¬ ((1 : Int32) = (0 : Int32)) by decide) rfl ?_
  refine Go.aloadN (pc' := 23) dj42m150_22 rfl rfl rfl ?_
  refine Go.iconst (pc' := 24) 0 dj42m150_23 rfl rfl ?_
  refine Go.putF (pc' := 27) (host := "") (a1 := a0) dj42m150_24 (Or.inl (wd hw 50 rfl)) Via.refl G2 Es (Or.inr ⟨(wd hw 12 rfl), rfl, rfl⟩) (wd hw 9 rfl) (ty := .byte) (by decide) rfl rfl (Sf.mem (by simp)) (by omega) rfl (fun h_16 W_17 => ?_)
  have szh_16 : h_16.size = h0.size := Wr.size W_17
  have F_18 : Fld Z h_16 s "java/lang/String" "coder" "B" (.int (0 : Int32)) := Fld.same W_17 G2
  refine Go.aloadN (pc' := 28) dj42m150_27 rfl rfl rfl ?_
  refine Go.aloadN (pc' := 29) dj42m150_28 rfl rfl rfl ?_
  refine Go.iconst (pc' := 30) 0 dj42m150_29 rfl rfl ?_
  refine Go.iload (pc' := 32) dj42m150_30 rfl rfl ?_
  have F_25 := (Arv.other AVB W_17 (nne (by omega)))
  refine Go.callS (a1 := a0) (pc' := 35) (argsL := [(.ref b), (.int (0 : Int32)), (.int (Int32.ofNat ll.length))]) (rest := [(.ref s)]) (ct_cr l Z a0 hw n0 h_16 b k ll vr cap hv hn hc hk F_25 (by omega)) dj42m150_32 (wd hw 159 rfl) (wd hw 160 rfl) (wd hw 161 rfl) (wd hw 162 rfl) (by decide) (lenOf pd_16 rfl) rfl 1 rfl rfl (by decide) (by decide) (by decide) (by decide) sl0 rfl (fun v_26 h_27 N_28 hQ_29 hle_30 => ?_)
  obtain ⟨d_19, kd_20, rfl, g_21, g_22, K_23, F_24⟩ := hQ_29
  have szh_27 := nle K_23.1
  have ltd_19 := nlt g_22
  have ged_19 := nle g_21
  refine Go.rs [(.ref d_19), (.ref s)] rfl ?_
  have F_31 : Fld Z h_27 s "java/lang/String" "value" "[B" (.null) := (Fld.keep (Fld.other W_17 G1 (Or.inr (slot_ne (Or.inr (wd hw 11 rfl)) (Or.inr (wd hw 12 rfl)) (by decide) (t := (.array .byte)) (t' := .byte) (by decide) (by decide)))) K_23 nin0)
  have F_32 := (Exa.keep (Exa.wr W_17 Es) K_23)
  refine Go.putF (pc' := 38) (host := "") (a1 := a0) dj42m150_35 (Or.inl (wd hw 43 rfl)) Via.refl F_31 F_32 (Or.inr ⟨(wd hw 11 rfl), rfl, rfl⟩) (wd hw 9 rfl) (ty := (.array .byte)) (by decide) rfl rfl (Sf.mem (by simp)) (by omega) rfl (fun h_33 W_34 => ?_)
  have szh_33 : h_33.size = h_27.size := Wr.size W_34
  have F_35 : Fld Z h_33 s "java/lang/String" "value" "[B" (.ref d_19) := Fld.same W_34 F_31
  refine Go.goto (pc' := 97) dj42m150_38 (by decide) (by decide) ?_
  have F_36 := (Arv.other F_24 W_34 (nne (by omega)))
  have F_37 := (Exa.wr W_34 F_32)
  have F_38 : Fld Z h_33 s "java/lang/String" "coder" "B" (.int (0 : Int32)) := (Fld.other W_34 (Fld.keep F_18 K_23 nin0) (Or.inr (slot_ne (Or.inr (wd hw 12 rfl)) (Or.inr (wd hw 11 rfl)) (by decide) (t := .byte) (t' := (.array .byte)) (by decide) (by decide))))
  have F_39 := (Arv.other F_24 W_34 (nne (by omega)))
  refine Go.ret0 rfl [] sl0 dj42m150_97 (by decide) (by decide) ?_
  exact ⟨rfl, d_19, kd_20, by omega, F_36.lt, (Keep.wr (Keep.trans (Keep.wr (Keep.refl _ [s]) W_17 (Or.inl (by simp))) K_23 all0) W_34 (Or.inl (by simp))), F_37, F_38, F_35, F_39⟩
theorem dj42m53_0 : decode jdk_42_method_53_code 0 = .ok (.aload_n 0, 1) := by decide +kernel
theorem dj42m53_1 : decode jdk_42_method_53_code 1 = .ok (.aload_n 1, 1) := by decide +kernel
theorem dj42m53_2 : decode jdk_42_method_53_code 2 = .ok (.aconst_null, 1) := by decide +kernel
theorem pd_18 : parseMethodDescriptor "(Ljava/lang/AbstractStringBuilder;Ljava/lang/Void;)V" = some ⟨[(.object "java/lang/AbstractStringBuilder"), (.object "java/lang/Void")], none⟩ := by decide +kernel
theorem dj42m53_3 : decode jdk_42_method_53_code 3 = .ok (.invokespecial 489, 3) := by decide +kernel
theorem dj42m53_6 : decode jdk_42_method_53_code 6 = .ok (.return_, 1) := by decide +kernel
theorem ct_tsi1 (l : Launch) (Z : State) (a0 : Array Value) (hw : ∀ d ∈ tables_1, d.before a0 Z = true) (n0 : Nat) (h0 : Heap) (s : Addr) (hs : n0 ≤ s) (Es : Exa Z h0 s "java/lang/String") (G1 : Fld Z h0 s "java/lang/String" "value" "[B" .null) (G2 : Fld Z h0 s "java/lang/String" "coder" "B" (.int (0 : Int32))) (a1 b : Addr) (k : ClassId) (ll vr : List Int32) (cap : Nat) (hv : (ll ++ vr).length = cap) (hn : ll.length < cap) (hc : cap < 2 ^ 16) (hk : ll.length ≤ 128) (EA : Exa Z h0 a1 "java/lang/StringBuilder") (GN : Fld Z h0 a1 "java/lang/AbstractStringBuilder" "count" "I" (.int (Int32.ofNat ll.length))) (GC : Fld Z h0 a1 "java/lang/AbstractStringBuilder" "coder" "B" (.int (0 : Int32))) (GV : Fld Z h0 a1 "java/lang/AbstractStringBuilder" "value" "[B" (.ref b)) (AVB : Arv Z h0 b k .byte (Int32.ofNat cap) ((ll ++ vr).map Value.int) (.int 0)) (cs : Int32) (S_cs : Sta Z h0 "java/lang/String" "COMPACT_STRINGS" "Z" (.int cs)) (hcs : ¬ cs = 0) :
    Ct l Z (⟨"java/lang/String", "<init>", "(Ljava/lang/StringBuilder;)V"⟩ : MethodName) jdk_42_method_53_code 2 none ({ frames := 4, cells := 1, slots := 128, locals := 65 } : Room) EL1 n0 true [] #[(.ref s), (.ref a1)] h0 [s] (fun v h N => v = none ∧ ∃ b2 k2, h0.size ≤ b2 ∧ b2 < h.size ∧ Keep h0 h [s] ∧ Exa Z h s "java/lang/String" ∧ Fld Z h s "java/lang/String" "coder" "B" (.int (0 : Int32)) ∧ Fld Z h s "java/lang/String" "value" "[B" (.ref b2) ∧ Arv Z h b2 k2 .byte (Int32.ofNat ll.length) (ll.map Value.int) (.int 0)) := by
  refine Ct.of (a0 := a0) (plainFor_of_name pn_java_lang_String) (own_ew hw) (L0 := #[.val (.ref s), .val (.ref a1)]) (fun _ => rfl) ?_
  have e_as := nne (Exa.ne EA Es (by decide))
  have e_ab := nne (Exa.neArv (a0 := a0) EA AVB (wd hw 25 rfl))
  have e_sb := nne (Exa.neArv (a0 := a0) Es AVB (wd hw 9 rfl))
  have l0_Es := nlt Es.lt
  have l0_EA := nlt EA.lt
  have l0_AVB := nlt AVB.lt
  refine Go.aloadN (pc' := 1) dj42m53_0 rfl rfl rfl ?_
  refine Go.aloadN (pc' := 2) dj42m53_1 rfl rfl rfl ?_
  refine Go.aconstNull (pc' := 3) dj42m53_2 rfl ?_
  refine Go.callN (a1 := a0) (pc' := 6) (argsL := [(.ref a1), (.null)]) (rest := []) (ct_tsi2 l Z a0 hw n0 h0 s (by omega) Es G1 G2 a1 b k ll vr cap hv hn hc hk EA GN GC GV AVB cs S_cs hcs) dj42m53_3 rfl (wd hw 141 rfl) (wd hw 142 rfl) (wd hw 8 rfl) (wd hw 143 rfl) (by decide) (lenOf pd_18 rfl) rfl 0 rfl rfl (by decide) (by decide) (by decide) (by decide) (sl1 (by simp)) rfl (fun v_10 h_11 N_12 hQ_13 hle_14 => ?_)
  obtain ⟨rfl, b_1, kb_2, g_3, g_4, K_5, X_6, F_7, F_8, A_9⟩ := hQ_13
  have szh_11 := nle K_5.1
  have ltb_1 := nlt g_4
  have geb_1 := nle g_3
  refine Go.rs [] rfl ?_
  refine Go.ret0 rfl [] sl0 dj42m53_6 (by decide) (by decide) ?_
  exact ⟨rfl, b_1, kb_2, by omega, A_9.lt, (Keep.trans (Keep.refl _ [s]) K_5 (allS (Or.inl (by simp)) all0)), X_6, F_7, F_8, A_9⟩
theorem dj67m42_0 : decode jdk_67_method_42_code 0 = .ok (.new 18, 3) := by decide +kernel
theorem dj67m42_3 : decode jdk_67_method_42_code 3 = .ok (.dup, 1) := by decide +kernel
theorem dj67m42_4 : decode jdk_67_method_42_code 4 = .ok (.aload_n 0, 1) := by decide +kernel
theorem pd_19 : parseMethodDescriptor "(Ljava/lang/StringBuilder;)V" = some ⟨[(.object "java/lang/StringBuilder")], none⟩ := by decide +kernel
theorem dj67m42_5 : decode jdk_67_method_42_code 5 = .ok (.invokespecial 137, 3) := by decide +kernel
theorem dj67m42_8 : decode jdk_67_method_42_code 8 = .ok (.areturn, 1) := by decide +kernel
theorem ct_ts (l : Launch) (Z : State) (a0 : Array Value) (hw : ∀ d ∈ tables_1, d.before a0 Z = true) (n0 : Nat) (h0 : Heap) (a1 b : Addr) (ll : List Int32) (cap : Nat) (HB : Sb Z h0 a1 b cap ll) (hn : ll.length < cap) (hc : cap < 2 ^ 16) (hk : ll.length ≤ 128) (hn0 : n0 ≤ h0.size) (cs : Int32) (S_cs : Sta Z h0 "java/lang/String" "COMPACT_STRINGS" "Z" (.int cs)) (hcs : ¬ cs = 0) :
    Ct l Z (⟨"java/lang/StringBuilder", "toString", "()Ljava/lang/String;"⟩ : MethodName) jdk_67_method_42_code 1 (some (.object "java/lang/String")) ({ frames := 5, cells := 2, slots := 132, locals := 79 } : Room) EL1 n0 true [] #[(.ref a1)] h0 [] (fun v h N => ∃ s b2, v = some (.ref s) ∧ h0.size ≤ s ∧ h0.size ≤ b2 ∧ Keep h0 h [] ∧ Str Z h s b2 ll) := by
  refine Ct.of (a0 := a0) (plainFor_of_name pn_java_lang_StringBuilder) (own_ew hw) (L0 := #[.val (.ref a1)]) (fun _ => rfl) ?_
  obtain ⟨EA, GN, GC, GV, k, vr, AVB, hv⟩ := HB
  have l0_EA := nlt EA.lt
  have l0_AVB := nlt AVB.lt
  refine Go.newO (pc' := 3) (a1 := a0) dj67m42_0 (wd hw 136 rfl) (wd hw 9 rfl) (wd hw 8 rfl) (by decide) (by decide) rfl (fun a_1 h_2 ha_4 E_3 X_5 Df_6 => ?_)
  have szh_2 := nle E_3.1
  have lta_1 := nlt X_5.lt
  have qa_1 := neq ha_4
  have F_7 : Fld Z h_2 a_1 "java/lang/String" "value" "[B" (.null) := Df_6 (Or.inr (wd hw 11 rfl)) (ty := (.array .byte)) (by decide)
  have F_8 : Fld Z h_2 a_1 "java/lang/String" "coder" "B" (.int (0 : Int32)) := Df_6 (Or.inr (wd hw 12 rfl)) (ty := .byte) (by decide)
  refine Go.dup (pc' := 4) dj67m42_3 rfl rfl ?_
  refine Go.aloadN (pc' := 5) dj67m42_4 rfl rfl rfl ?_
  have F_18 := (Exa.ext E_3 EA)
  have F_19 := (Fld.ext E_3 GN)
  have F_20 := (Fld.ext E_3 GC)
  have F_21 := (Fld.ext E_3 GV)
  have F_22 := (Arv.ext AVB E_3)
  have F_23 := (Sta.ext E_3 S_cs)
  refine Go.callN (a1 := a0) (pc' := 8) (argsL := [(.ref a1)]) (rest := [(.ref a_1)]) (ct_tsi1 l Z a0 hw n0 h_2 a_1 (by omega) X_5 F_7 F_8 a1 b k ll vr cap hv hn hc hk F_18 F_19 F_20 F_21 F_22 cs F_23 hcs) dj67m42_5 rfl (wd hw 137 rfl) (wd hw 138 rfl) (wd hw 8 rfl) (wd hw 140 rfl) (by decide) (lenOf pd_19 rfl) rfl 1 rfl rfl (by decide) (by decide) (by decide) (by decide) (sl1 (by simp)) rfl (fun v_24 h_25 N_26 hQ_27 hle_28 => ?_)
  obtain ⟨rfl, b_9, kb_10, g_11, g_12, K_13, X_14, F_15, F_16, A_17⟩ := hQ_27
  have szh_25 := nle K_13.1
  have ltb_9 := nlt g_12
  have geb_9 := nle g_11
  refine Go.rs [(.ref a_1)] rfl ?_
  refine Go.retA rfl rfl rfl [] sl0 dj67m42_8 (by decide) (by decide) ?_
  exact ⟨a_1, b_9, rfl, by omega, by omega, (Keep.trans (Keep.ext (Keep.refl _ []) E_3) K_13 (allS (Or.inr (by omega)) all0)), X_14, F_15, F_16, kb_10, A_17⟩
theorem dj43m3_0 : decode jdk_43_method_3_code 0 = .ok (.iload_n 0, 1) := by decide +kernel
theorem dj43m3_1 : decode jdk_43_method_3_code 1 = .ok (.sipush 255, 3) := by decide +kernel
theorem dj43m3_4 : decode jdk_43_method_3_code 4 = .ok (.if_icmp .gt 7, 3) := by decide +kernel
theorem dj43m3_7 : decode jdk_43_method_3_code 7 = .ok (.iconst 1, 1) := by decide +kernel
theorem dj43m3_8 : decode jdk_43_method_3_code 8 = .ok (.goto 4, 3) := by decide +kernel
theorem dj43m3_12 : decode jdk_43_method_3_code 12 = .ok (.ireturn, 1) := by decide +kernel
theorem ct_ce (l : Launch) (Z : State) (a0 : Array Value) (hw : ∀ d ∈ tables_1, d.before a0 Z = true) (n0 : Nat) (h0 : Heap) (c : Int32) (hcc : ¬ 255 < c) :
    Ct l Z (⟨"java/lang/StringLatin1", "canEncode", "(C)Z"⟩ : MethodName) jdk_43_method_3_code 1 (some .boolean) ({ frames := 0, cells := 0, slots := 0, locals := 0 } : Room) EL1 n0 true [] #[(.int c)] h0 [] (fun v h N => h0 = h ∧ v = some (.int 1)) := by
  refine Ct.of (a0 := a0) (plainFor_of_name pn_java_lang_StringLatin1) (own_ew hw) (L0 := #[.val (.int c)]) (fun _ => rfl) ?_
  refine Go.iloadN (pc' := 1) dj43m3_0 rfl rfl ?_
  refine Go.sipush (pc' := 4) 255 dj43m3_1 rfl rfl ?_
  refine Go.icmpF (pc' := 7) dj43m3_4 (hcc) rfl ?_
  refine Go.iconst (pc' := 8) 1 dj43m3_7 rfl rfl ?_
  refine Go.goto (pc' := 12) dj43m3_8 (by decide) (by decide) ?_
  refine Go.retN (t := .boolean) (1 : Int32) rfl (by simp) rfl [] sl0 dj43m3_12 (by decide) (by decide) ?_
  exact ⟨rfl, rfl⟩
theorem dj68m31_0 : decode jdk_68_method_31_code 0 = .ok (.aload_n 0, 1) := by decide +kernel
theorem dj68m31_1 : decode jdk_68_method_31_code 1 = .ok (.aload_n 0, 1) := by decide +kernel
theorem dj68m31_2 : decode jdk_68_method_31_code 2 = .ok (.getfield 79, 3) := by decide +kernel
theorem dj68m31_5 : decode jdk_68_method_31_code 5 = .ok (.iconst 1, 1) := by decide +kernel
theorem dj68m31_6 : decode jdk_68_method_31_code 6 = .ok (.iadd, 1) := by decide +kernel
theorem dj68m31_7 : decode jdk_68_method_31_code 7 = .ok (.invokevirtual 100, 3) := by decide +kernel
theorem dj68m31_10 : decode jdk_68_method_31_code 10 = .ok (.aload_n 0, 1) := by decide +kernel
theorem dj68m31_11 : decode jdk_68_method_31_code 11 = .ok (.invokevirtual 83, 3) := by decide +kernel
theorem dj68m31_14 : decode jdk_68_method_31_code 14 = .ok (.ifCond .eq 31, 3) := by decide +kernel
theorem dj68m31_17 : decode jdk_68_method_31_code 17 = .ok (.iload_n 1, 1) := by decide +kernel
theorem pd_20 : parseMethodDescriptor "(C)Z" = some ⟨[.char], (some .boolean)⟩ := by decide +kernel
theorem dj68m31_18 : decode jdk_68_method_31_code 18 = .ok (.invokestatic 191, 3) := by decide +kernel
theorem dj68m31_21 : decode jdk_68_method_31_code 21 = .ok (.ifCond .eq 24, 3) := by decide +kernel
theorem dj68m31_24 : decode jdk_68_method_31_code 24 = .ok (.aload_n 0, 1) := by decide +kernel
theorem dj68m31_25 : decode jdk_68_method_31_code 25 = .ok (.getfield 15, 3) := by decide +kernel
theorem dj68m31_28 : decode jdk_68_method_31_code 28 = .ok (.aload_n 0, 1) := by decide +kernel
theorem dj68m31_29 : decode jdk_68_method_31_code 29 = .ok (.dup, 1) := by decide +kernel
theorem dj68m31_30 : decode jdk_68_method_31_code 30 = .ok (.getfield 79, 3) := by decide +kernel
theorem dj68m31_33 : decode jdk_68_method_31_code 33 = .ok (.dup_x1, 1) := by decide +kernel
theorem dj68m31_34 : decode jdk_68_method_31_code 34 = .ok (.iconst 1, 1) := by decide +kernel
theorem dj68m31_35 : decode jdk_68_method_31_code 35 = .ok (.iadd, 1) := by decide +kernel
theorem dj68m31_36 : decode jdk_68_method_31_code 36 = .ok (.putfield 79, 3) := by decide +kernel
theorem dj68m31_39 : decode jdk_68_method_31_code 39 = .ok (.iload_n 1, 1) := by decide +kernel
theorem dj68m31_40 : decode jdk_68_method_31_code 40 = .ok (.i2b, 1) := by decide +kernel
theorem dj68m31_41 : decode jdk_68_method_31_code 41 = .ok (.bastore, 1) := by decide +kernel
theorem dj68m31_42 : decode jdk_68_method_31_code 42 = .ok (.goto 33, 3) := by decide +kernel
theorem dj68m31_75 : decode jdk_68_method_31_code 75 = .ok (.aload_n 0, 1) := by decide +kernel
theorem dj68m31_76 : decode jdk_68_method_31_code 76 = .ok (.areturn, 1) := by decide +kernel
theorem ct_acc (l : Launch) (Z : State) (a0 : Array Value) (hw : ∀ d ∈ tables_1, d.before a0 Z = true) (n0 : Nat) (h0 : Heap) (a1 b : Addr) (k : ClassId) (ll vr : List Int32) (cap : Nat) (c : Int32) (hcc : ¬ 255 < c) (hv : (ll ++ vr).length = cap) (hm : ll.length + 1 ≤ cap) (hc : cap < 2 ^ 16) (hb : n0 ≤ b) (ha : n0 ≤ a1) (cs : Int32) (S_cs : Sta Z h0 "java/lang/String" "COMPACT_STRINGS" "Z" (.int cs)) (hcs : ¬ cs = 0) (EA : Exa Z h0 a1 "java/lang/StringBuilder") (GN : Fld Z h0 a1 "java/lang/AbstractStringBuilder" "count" "I" (.int (Int32.ofNat ll.length))) (GC : Fld Z h0 a1 "java/lang/AbstractStringBuilder" "coder" "B" (.int (0 : Int32))) (GV : Fld Z h0 a1 "java/lang/AbstractStringBuilder" "value" "[B" (.ref b)) (AVB : Arv Z h0 b k .byte (Int32.ofNat cap) ((ll ++ vr).map Value.int) (.int 0)) :
    Ct l Z (⟨"java/lang/AbstractStringBuilder", "append", "(C)Ljava/lang/AbstractStringBuilder;"⟩ : MethodName) jdk_68_method_31_code 2 (some (.object "java/lang/AbstractStringBuilder")) ({ frames := 1, cells := 0, slots := 0, locals := 14 } : Room) EL1 n0 true [] #[(.ref a1), (.int c)] h0 [b] (fun v h N => v = some (.ref a1) ∧ Keep h0 h [a1, b] ∧ Exa Z h a1 "java/lang/StringBuilder" ∧ Fld Z h a1 "java/lang/AbstractStringBuilder" "count" "I" (.int (Int32.ofNat (ll.length + 1))) ∧ Fld Z h a1 "java/lang/AbstractStringBuilder" "coder" "B" (.int (0 : Int32)) ∧ Fld Z h a1 "java/lang/AbstractStringBuilder" "value" "[B" (.ref b) ∧ Arv Z h b k .byte (Int32.ofNat cap) ((ll ++ [by8 c] ++ vr.drop 1).map Value.int) (.int 0)) := by
  refine Ct.of (a0 := a0) (plainFor_of_name pn_java_lang_AbstractStringBuilder) (own_ew hw) (L0 := #[.val (.ref a1), .val (.int c)]) (fun _ => rfl) ?_
  have e_ab := nne (Exa.neArv (a0 := a0) EA AVB (wd hw 25 rfl))
  have l0_EA := nlt EA.lt
  have l0_AVB := nlt AVB.lt
  refine Go.aloadN (pc' := 1) dj68m31_0 rfl rfl rfl ?_
  refine Go.aloadN (pc' := 2) dj68m31_1 rfl rfl rfl ?_
  refine Go.getF (pc' := 5) (host := "") (a1 := a0) dj68m31_2 (Or.inl (wd hw 71 rfl)) Via.refl GN rfl ?_
  refine Go.iconst (pc' := 6) 1 dj68m31_5 rfl rfl ?_
  refine Go.iadd (pc' := 7) dj68m31_6 rfl ?_
  refine Go.re (pc' := 7) (L' := #[.val (.ref a1), .val (.int c)]) (S' := [(.int (Int32.ofNat (ll.length + 1))), (.ref a1)]) rfl rfl (by rw [ofN_succ]) ?_
  refine Go.callW (a1 := a0) (pc' := 10) (argsL := [(.int (Int32.ofNat (ll.length + 1)))]) (rest := []) (ct_ens l Z a0 hw n0 h0 a1 b k _ (ll.length + 1) cap GC GV AVB hm hc) dj68m31_7 (wd hw 73 rfl) (decl_by (wd hw 74 rfl) (wd hw 77 rfl)) (wd hw 76 rfl) rfl (wd hw 76 rfl) (wd hw 74 rfl) (wd hw 35 rfl) (wd hw 77 rfl) EA (by decide) (lenOf pd_12 rfl) rfl 0 rfl rfl (by decide) (by decide) (by decide) (by decide) sl0 rfl (fun v_1 h_2 N_3 hQ_4 hle_5 => ?_)
  obtain ⟨rfl, rfl⟩ := hQ_4
  refine Go.rs [] rfl ?_
  refine Go.aloadN (pc' := 11) dj68m31_10 rfl rfl rfl ?_
  refine Go.callW (a1 := a0) (pc' := 14) (argsL := []) (rest := []) (ct_isl l Z a0 hw n0 h0 a1 cs S_cs hcs GC) dj68m31_11 (wd hw 107 rfl) (wd hw 108 rfl) (wd hw 76 rfl) rfl (wd hw 110 rfl) (wd hw 109 rfl) (wd hw 35 rfl) (wd hw 111 rfl) EA (by decide) (lenOf pd_3 rfl) rfl 0 rfl rfl (by decide) (by decide) (by decide) (by decide) sl0 rfl (fun v_6 h_7 N_8 hQ_9 hle_10 => ?_)
  obtain ⟨rfl, rfl⟩ := hQ_9
  refine Go.rs [(.int (1 : Int32))] rfl ?_
  refine Go.ifF (pc' := 17) dj68m31_14 (show ¬ ((1 : Int32) = (0 : Int32)) by decide) rfl ?_
  refine Go.iloadN (pc' := 18) dj68m31_17 rfl rfl ?_
  refine Go.callS (a1 := a0) (pc' := 21) (argsL := [(.int c)]) (rest := []) (ct_ce l Z a0 hw n0 h0 c hcc) dj68m31_18 (wd hw 112 rfl) (wd hw 113 rfl) (wd hw 114 rfl) (wd hw 115 rfl) (by decide) (lenOf pd_20 rfl) rfl 0 rfl rfl (by decide) (by decide) (by decide) (by decide) sl0 rfl (fun v_11 h_12 N_13 hQ_14 hle_15 => ?_)
  obtain ⟨rfl, rfl⟩ := hQ_14
  refine Go.rs [(.int (1 : Int32))] rfl ?_
  refine Go.ifF (pc' := 24) dj68m31_21 (show ¬ ((1 : Int32) = (0 : Int32)) by decide) rfl ?_
  refine Go.aloadN (pc' := 25) dj68m31_24 rfl rfl rfl ?_
  refine Go.getF (pc' := 28) (host := "") (a1 := a0) dj68m31_25 (Or.inl (wd hw 55 rfl)) Via.refl GV rfl ?_
  refine Go.aloadN (pc' := 29) dj68m31_28 rfl rfl rfl ?_
  refine Go.dup (pc' := 30) dj68m31_29 rfl rfl ?_
  refine Go.getF (pc' := 33) (host := "") (a1 := a0) dj68m31_30 (Or.inl (wd hw 71 rfl)) Via.refl GN rfl ?_
  refine Go.dupX1 (pc' := 34) dj68m31_33 rfl rfl rfl ?_
  refine Go.iconst (pc' := 35) 1 dj68m31_34 rfl rfl ?_
  refine Go.iadd (pc' := 36) dj68m31_35 rfl ?_
  refine Go.re (pc' := 36) (L' := #[.val (.ref a1), .val (.int c)]) (S' := [(.int (Int32.ofNat (ll.length + 1))), (.ref a1), (.int (Int32.ofNat ll.length)), (.ref b)]) rfl rfl (by rw [ofN_succ]) ?_
  refine Go.putF (pc' := 39) (host := "") (a1 := a0) dj68m31_36 (Or.inl (wd hw 71 rfl)) Via.refl GN EA (Or.inl (wd hw 72 rfl)) (wd hw 25 rfl) (ty := .int) (by decide) rfl rfl (Sf.exa EA (by decide) (by decide)) (by omega) rfl (fun h_16 W_17 => ?_)
  have szh_16 : h_16.size = h0.size := Wr.size W_17
  have F_18 : Fld Z h_16 a1 "java/lang/AbstractStringBuilder" "count" "I" (.int (Int32.ofNat (ll.length + 1))) := Fld.same W_17 GN
  refine Go.iloadN (pc' := 40) dj68m31_39 rfl rfl ?_
  refine Go.i2b (pc' := 41) dj68m31_40 rfl ?_
  have F_19 := (Arv.other AVB W_17 (nne (by omega)))
  refine Go.bastoreV (pc' := 42) ll.length dj68m31_41 F_19 ⟨ofN_nn (by omega), (ofN_lt (by omega) (by omega)).mpr (by omega)⟩ (ofN_nat (by omega)) (by rw [List.length_map]; omega) (Sf.mem (by simp)) (by omega) rfl (fun h_20 W_21 A_22 => ?_)
  have szh_20 : h_20.size = h_16.size := Wr.size W_21
  have F_23 : Arv Z h_20 b k .byte (Int32.ofNat cap) ((ll ++ [by8 c] ++ vr.drop 1).map Value.int) (.int 0) := by have q := A_22; rw [nar_i2b, put1 _ _ _ (by omega)] at q; exact q
  refine Go.goto (pc' := 75) dj68m31_42 (by decide) (by decide) ?_
  refine Go.aloadN (pc' := 76) dj68m31_75 rfl rfl rfl ?_
  have F_24 := (Exa.wr W_21 (Exa.wr W_17 EA))
  have F_25 := (Fld.other W_21 F_18 (Or.inl (nne (by omega))))
  have F_26 : Fld Z h_20 a1 "java/lang/AbstractStringBuilder" "coder" "B" (.int (0 : Int32)) := (Fld.other W_21 (Fld.other W_17 GC (Or.inr (slot_ne (Or.inl (wd hw 54 rfl)) (Or.inl (wd hw 72 rfl)) (by decide) (t := .byte) (t' := .int) (by decide) (by decide)))) (Or.inl (nne (by omega))))
  have F_27 : Fld Z h_20 a1 "java/lang/AbstractStringBuilder" "value" "[B" (.ref b) := (Fld.other W_21 (Fld.other W_17 GV (Or.inr (slot_ne (Or.inl (wd hw 56 rfl)) (Or.inl (wd hw 72 rfl)) (by decide) (t := (.array .byte)) (t' := .int) (by decide) (by decide)))) (Or.inl (nne (by omega))))
  refine Go.retA rfl rfl rfl [] sl0 dj68m31_76 (by decide) (by decide) ?_
  exact ⟨rfl, (Keep.wr (Keep.wr (Keep.refl _ [a1, b]) W_17 (Or.inl (by simp))) W_21 (Or.inl (by simp))), F_24, F_25, F_26, F_27, F_23⟩
theorem dj67m14_0 : decode jdk_67_method_14_code 0 = .ok (.aload_n 0, 1) := by decide +kernel
theorem dj67m14_1 : decode jdk_67_method_14_code 1 = .ok (.iload_n 1, 1) := by decide +kernel
theorem pd_21 : parseMethodDescriptor "(C)Ljava/lang/AbstractStringBuilder;" = some ⟨[.char], (some (.object "java/lang/AbstractStringBuilder"))⟩ := by decide +kernel
theorem dj67m14_2 : decode jdk_67_method_14_code 2 = .ok (.invokespecial 50, 3) := by decide +kernel
theorem dj67m14_5 : decode jdk_67_method_14_code 5 = .ok (.pop, 1) := by decide +kernel
theorem dj67m14_6 : decode jdk_67_method_14_code 6 = .ok (.aload_n 0, 1) := by decide +kernel
theorem dj67m14_7 : decode jdk_67_method_14_code 7 = .ok (.areturn, 1) := by decide +kernel
theorem ct_appC (l : Launch) (Z : State) (a0 : Array Value) (hw : ∀ d ∈ tables_1, d.before a0 Z = true) (n0 : Nat) (h0 : Heap) (a1 b : Addr) (ll : List Int32) (cap : Nat) (c : Int32) (hcc : ¬ 255 < c) (HB : Sb Z h0 a1 b cap ll) (hm : ll.length + 1 ≤ cap) (hc : cap < 2 ^ 16) (hb : n0 ≤ b) (ha : n0 ≤ a1) (cs : Int32) (S_cs : Sta Z h0 "java/lang/String" "COMPACT_STRINGS" "Z" (.int cs)) (hcs : ¬ cs = 0) :
    Ct l Z (⟨"java/lang/StringBuilder", "append", "(C)Ljava/lang/StringBuilder;"⟩ : MethodName) jdk_67_method_14_code 2 (some (.object "java/lang/StringBuilder")) ({ frames := 2, cells := 0, slots := 0, locals := 27 } : Room) EL1 n0 true [] #[(.ref a1), (.int c)] h0 [b] (fun v h N => v = some (.ref a1) ∧ Keep h0 h [a1, b] ∧ Sb Z h a1 b cap (ll ++ [by8 c])) := by
  refine Ct.of (a0 := a0) (plainFor_of_name pn_java_lang_StringBuilder) (own_ew hw) (L0 := #[.val (.ref a1), .val (.int c)]) (fun _ => rfl) ?_
  obtain ⟨EA, GN, GC, GV, k, vr, AVB, hv⟩ := HB
  have l0_EA := nlt EA.lt
  refine Go.aloadN (pc' := 1) dj67m14_0 rfl rfl rfl ?_
  refine Go.iloadN (pc' := 2) dj67m14_1 rfl rfl ?_
  refine Go.callU (a1 := a0) (pc' := 5) (argsL := [(.int c)]) (rest := []) (ct_acc l Z a0 hw n0 h0 a1 b k ll vr cap c hcc hv hm hc hb ha cs S_cs hcs EA GN GC GV AVB) dj67m14_2 (by decide) (wd hw 103 rfl) (wd hw 105 rfl) (wd hw 76 rfl) rfl (wd hw 69 rfl) (wd hw 104 rfl) (wd hw 35 rfl) (wd hw 106 rfl) EA (by decide) (lenOf pd_21 rfl) rfl 0 rfl rfl (by decide) (by decide) (by decide) (by decide) (sl1 (by simp)) rfl (fun v_7 h_8 N_9 hQ_10 hle_11 => ?_)
  obtain ⟨rfl, K_1, X_2, F_3, F_4, F_5, A_6⟩ := hQ_10
  have szh_8 := nle K_1.1
  refine Go.rs [(.ref a1)] rfl ?_
  refine Go.pop (pc' := 6) dj67m14_5 rfl rfl ?_
  refine Go.aloadN (pc' := 7) dj67m14_6 rfl rfl rfl ?_
  refine Go.retA rfl rfl rfl [] sl0 dj67m14_7 (by decide) (by decide) ?_
  exact ⟨rfl, (Keep.trans (Keep.refl _ [a1, b]) K_1 (allS (Or.inl (by simp)) (allS (Or.inl (by simp)) all0))), X_2, by rw [List.length_append]; exact F_3, F_4, F_5, k, vr.drop 1, A_6, by simp only [List.length_append, List.length_drop, List.length_cons, List.length_nil] at hv ⊢; omega⟩
theorem by8_10 : by8 10 = 10 := by decide
theorem dj67m80_0 : decode jdk_67_method_80_code 0 = .ok (.aload_n 0, 1) := by decide +kernel
theorem dj67m80_1 : decode jdk_67_method_80_code 1 = .ok (.aload_n 1, 1) := by decide +kernel
theorem pd_22 : parseMethodDescriptor "(Ljava/lang/String;)Ljava/lang/StringBuilder;" = some ⟨[(.object "java/lang/String")], (some (.object "java/lang/StringBuilder"))⟩ := by decide +kernel
theorem dj67m80_2 : decode jdk_67_method_80_code 2 = .ok (.invokevirtual 23, 3) := by decide +kernel
theorem dj67m80_5 : decode jdk_67_method_80_code 5 = .ok (.areturn, 1) := by decide +kernel
theorem ct_br (l : Launch) (Z : State) (a0 : Array Value) (hw : ∀ d ∈ tables_1, d.before a0 Z = true) (n0 : Nat) (h0 : Heap) (a1 s b1 b : Addr) (ll m : List Int32) (cap : Nat) (HB : Sb Z h0 a1 b cap ll) (HS : Str Z h0 s b1 m) (hm : ll.length + m.length ≤ cap) (hc : cap < 2 ^ 16) (hb1 : b1 ≠ b) (hb : n0 ≤ b) (ha : n0 ≤ a1) (cs : Int32) (S_cs : Sta Z h0 "java/lang/String" "COMPACT_STRINGS" "Z" (.int cs)) (hcs : ¬ cs = 0) :
    Ct l Z (⟨"java/lang/StringBuilder", "append", "(Ljava/lang/String;)Ljava/lang/AbstractStringBuilder;"⟩ : MethodName) jdk_67_method_80_code 2 (some (.object "java/lang/AbstractStringBuilder")) ({ frames := 5, cells := 0, slots := 0, locals := 74 } : Room) EL1 n0 true [] #[(.ref a1), (.ref s)] h0 [b] (fun v h N => v = some (.ref a1) ∧ Keep h0 h [a1, b] ∧ Sb Z h a1 b cap (ll ++ m)) := by
  refine Ct.of (a0 := a0) (plainFor_of_name pn_java_lang_StringBuilder) (own_ew hw) (L0 := #[.val (.ref a1), .val (.ref s)]) (fun _ => rfl) ?_
  have EA := HB.1
  have l0_EA := nlt EA.lt
  refine Go.aloadN (pc' := 1) dj67m80_0 rfl rfl rfl ?_
  refine Go.aloadN (pc' := 2) dj67m80_1 rfl rfl rfl ?_
  refine Go.callV (a1 := a0) (pc' := 5) (argsL := [(.ref s)]) (rest := []) (ct_app l Z a0 hw n0 h0 a1 s b1 b ll m cap HB HS hm hc hb1 hb ha cs S_cs hcs) dj67m80_2 (wd hw 63 rfl) (wd hw 64 rfl) (wd hw 66 rfl) (wd hw 66 rfl) (wd hw 65 rfl) (wd hw 26 rfl) (wd hw 67 rfl) EA (by decide) (lenOf pd_22 rfl) rfl 0 rfl rfl (by decide) (by decide) (by decide) (by decide) (sl1 (by simp)) rfl (fun v_3 h_4 N_5 hQ_6 hle_7 => ?_)
  obtain ⟨rfl, K_1, F_2⟩ := hQ_6
  have szh_4 := nle K_1.1
  refine Go.rs [(.ref a1)] rfl ?_
  refine Go.retA rfl rfl rfl [] sl0 dj67m80_5 (by decide) (by decide) ?_
  exact ⟨rfl, (Keep.trans (Keep.refl _ [a1, b]) K_1 (allS (Or.inl (by simp)) (allS (Or.inl (by simp)) all0))), F_2⟩
theorem ofN_add16 (i : Nat) : Int32.ofNat i + (16 : Int32) = Int32.ofNat (i + 16) := by rw [← ofN_add]; rfl
theorem ofN_lt31 {n : Nat} (h : n < 2147483631) : Int32.ofNat n < (2147483631 : Int32) := by rw [show (2147483631 : Int32) = Int32.ofNat 2147483631 from rfl, ofN_lt (by omega) (by decide)]; exact h
theorem dj68m3_0 : decode jdk_68_method_3_code 0 = .ok (.aload_n 0, 1) := by decide +kernel
theorem dj68m3_1 : decode jdk_68_method_3_code 1 = .ok (.invokespecial 3, 3) := by decide +kernel
theorem dj68m3_4 : decode jdk_68_method_3_code 4 = .ok (.aload_n 1, 1) := by decide +kernel
theorem dj68m3_5 : decode jdk_68_method_3_code 5 = .ok (.invokevirtual 32, 3) := by decide +kernel
theorem dj68m3_8 : decode jdk_68_method_3_code 8 = .ok (.istore_n 2, 1) := by decide +kernel
theorem dj68m3_9 : decode jdk_68_method_3_code 9 = .ok (.iload_n 2, 1) := by decide +kernel
theorem dj68m3_10 : decode jdk_68_method_3_code 10 = .ok (.ldc 38, 2) := by decide +kernel
theorem dj68m3_12 : decode jdk_68_method_3_code 12 = .ok (.if_icmp .ge 10, 3) := by decide +kernel
theorem dj68m3_15 : decode jdk_68_method_3_code 15 = .ok (.iload_n 2, 1) := by decide +kernel
theorem dj68m3_16 : decode jdk_68_method_3_code 16 = .ok (.bipush 16, 2) := by decide +kernel
theorem dj68m3_18 : decode jdk_68_method_3_code 18 = .ok (.iadd, 1) := by decide +kernel
theorem dj68m3_19 : decode jdk_68_method_3_code 19 = .ok (.goto 5, 3) := by decide +kernel
theorem dj68m3_24 : decode jdk_68_method_3_code 24 = .ok (.istore_n 3, 1) := by decide +kernel
theorem dj68m3_25 : decode jdk_68_method_3_code 25 = .ok (.aload_n 1, 1) := by decide +kernel
theorem dj68m3_26 : decode jdk_68_method_3_code 26 = .ok (.invokevirtual 40, 3) := by decide +kernel
theorem dj68m3_29 : decode jdk_68_method_3_code 29 = .ok (.istore 4, 2) := by decide +kernel
theorem dj68m3_31 : decode jdk_68_method_3_code 31 = .ok (.aload_n 0, 1) := by decide +kernel
theorem dj68m3_32 : decode jdk_68_method_3_code 32 = .ok (.iload 4, 2) := by decide +kernel
theorem dj68m3_34 : decode jdk_68_method_3_code 34 = .ok (.putfield 22, 3) := by decide +kernel
theorem dj68m3_37 : decode jdk_68_method_3_code 37 = .ok (.aload_n 0, 1) := by decide +kernel
theorem dj68m3_38 : decode jdk_68_method_3_code 38 = .ok (.iload 4, 2) := by decide +kernel
theorem dj68m3_40 : decode jdk_68_method_3_code 40 = .ok (.ifCond .ne 9, 3) := by decide +kernel
theorem dj68m3_43 : decode jdk_68_method_3_code 43 = .ok (.iload_n 3, 1) := by decide +kernel
theorem dj68m3_44 : decode jdk_68_method_3_code 44 = .ok (.newarray .byte, 2) := by decide +kernel
theorem dj68m3_46 : decode jdk_68_method_3_code 46 = .ok (.goto 7, 3) := by decide +kernel
theorem dj68m3_53 : decode jdk_68_method_3_code 53 = .ok (.putfield 15, 3) := by decide +kernel
theorem dj68m3_56 : decode jdk_68_method_3_code 56 = .ok (.aload_n 0, 1) := by decide +kernel
theorem dj68m3_57 : decode jdk_68_method_3_code 57 = .ok (.aload_n 1, 1) := by decide +kernel
theorem dj68m3_58 : decode jdk_68_method_3_code 58 = .ok (.invokevirtual 43, 3) := by decide +kernel
theorem dj68m3_61 : decode jdk_68_method_3_code 61 = .ok (.pop, 1) := by decide +kernel
theorem dj68m3_62 : decode jdk_68_method_3_code 62 = .ok (.return_, 1) := by decide +kernel
theorem ct_is1 (l : Launch) (Z : State) (a0 : Array Value) (hw : ∀ d ∈ tables_1, d.before a0 Z = true) (n0 : Nat) (h0 : Heap) (a1 s b1 : Addr) (m : List Int32) (ha : n0 ≤ a1) (HS : Str Z h0 s b1 m) (hl : m.length ≤ 40) (hn0 : n0 ≤ h0.size) (EA : Exa Z h0 a1 "java/lang/StringBuilder") (GN : Fld Z h0 a1 "java/lang/AbstractStringBuilder" "count" "I" (.int (0 : Int32))) (GC : Fld Z h0 a1 "java/lang/AbstractStringBuilder" "coder" "B" (.int (0 : Int32))) (GV : Fld Z h0 a1 "java/lang/AbstractStringBuilder" "value" "[B" .null) (cs : Int32) (S_cs : Sta Z h0 "java/lang/String" "COMPACT_STRINGS" "Z" (.int cs)) (hcs : ¬ cs = 0) :
    Ct l Z (⟨"java/lang/AbstractStringBuilder", "<init>", "(Ljava/lang/String;)V"⟩ : MethodName) jdk_68_method_3_code 5 none ({ frames := 6, cells := 1, slots := 64, locals := 87 } : Room) EL1 n0 true [] #[(.ref a1), (.ref s)] h0 [] (fun v h N => v = none ∧ ∃ b, N = [b] ∧ h0.size ≤ b ∧ Keep h0 h [a1] ∧ Sb Z h a1 b (m.length + 16) m) := by
  refine Ct.of (a0 := a0) (plainFor_of_name pn_java_lang_AbstractStringBuilder) (own_ew hw) (L0 := #[.val (.ref a1), .val (.ref s), .unset, .unset, .unset]) (fun _ => rfl) ?_
  obtain ⟨Es, FCs, FVs, k1, AVs⟩ := HS
  have e_as := nne (Exa.ne EA Es (by decide))
  have e_a1 := nne (Exa.neArv (a0 := a0) EA AVs (wd hw 25 rfl))
  have l0_EA := nlt EA.lt
  have l0_Es := nlt Es.lt
  have l0_AVs := nlt AVs.lt
  refine Go.aloadN (pc' := 1) dj68m3_0 rfl rfl rfl ?_
  refine Go.initO (pc' := 4) (a1 := a0) dj68m3_1 (wd hw 37 rfl) (wd hw 22 rfl) (wd hw 23 rfl) rfl (by decide) 0 rfl (by decide) rfl ?_
  refine Go.aloadN (pc' := 5) dj68m3_4 rfl rfl rfl ?_
  refine Go.callV (a1 := a0) (pc' := 8) (argsL := []) (rest := []) (ct_length l Z a0 hw n0 h0 s b1 k1 (Int32.ofNat m.length) (m.map Value.int) cs S_cs hcs Es FCs FVs AVs) dj68m3_5 (wd hw 38 rfl) (wd hw 39 rfl) (wd hw 41 rfl) (wd hw 41 rfl) (wd hw 40 rfl) (wd hw 8 rfl) (wd hw 42 rfl) Es (by decide) (lenOf pd_11 rfl) rfl 0 rfl rfl (by decide) (by decide) (by decide) (by decide) sl0 rfl (fun v_1 h_2 N_3 hQ_4 hle_5 => ?_)
  obtain ⟨rfl, rfl⟩ := hQ_4
  refine Go.rs [(.int (Int32.ofNat m.length))] rfl ?_
  refine Go.istoreN (pc' := 9) #[.val (.ref a1), .val (.ref s), .val (.int (Int32.ofNat m.length)), .unset, .unset] dj68m3_8 rfl rfl ?_
  refine Go.iloadN (pc' := 10) dj68m3_9 rfl rfl ?_
  refine Go.ldcI (pc' := 12) (a1 := a0) dj68m3_10 (wd hw 51 rfl) rfl ?_
  refine Go.icmpF (pc' := 15) dj68m3_12 (ofN_lt31 (by omega)) rfl ?_
  refine Go.iloadN (pc' := 16) dj68m3_15 rfl rfl ?_
  refine Go.bipush (pc' := 18) 16 dj68m3_16 rfl rfl ?_
  refine Go.iadd (pc' := 19) dj68m3_18 rfl ?_
  refine Go.re (pc' := 19) (L' := #[.val (.ref a1), .val (.ref s), .val (.int (Int32.ofNat m.length)), .unset, .unset]) (S' := [(.int (Int32.ofNat (m.length + 16)))]) rfl rfl (by rw [ofN_add16]) ?_
  refine Go.goto (pc' := 24) dj68m3_19 (by decide) (by decide) ?_
  refine Go.istoreN (pc' := 25) #[.val (.ref a1), .val (.ref s), .val (.int (Int32.ofNat m.length)), .val (.int (Int32.ofNat (m.length + 16))), .unset] dj68m3_24 rfl rfl ?_
  refine Go.aloadN (pc' := 26) dj68m3_25 rfl rfl rfl ?_
  refine Go.callV (a1 := a0) (pc' := 29) (argsL := []) (rest := []) (ct_coder l Z a0 hw n0 h0 s cs S_cs hcs FCs) dj68m3_26 (wd hw 52 rfl) (wd hw 45 rfl) (wd hw 47 rfl) (wd hw 47 rfl) (wd hw 46 rfl) (wd hw 8 rfl) (wd hw 48 rfl) Es (by decide) (lenOf pd_0 rfl) rfl 0 rfl rfl (by decide) (by decide) (by decide) (by decide) sl0 rfl (fun v_6 h_7 N_8 hQ_9 hle_10 => ?_)
  obtain ⟨rfl, rfl⟩ := hQ_9
  refine Go.rs [(.int (0 : Int32))] rfl ?_
  refine Go.istore (pc' := 31) #[.val (.ref a1), .val (.ref s), .val (.int (Int32.ofNat m.length)), .val (.int (Int32.ofNat (m.length + 16))), .val (.int (0 : Int32))] dj68m3_29 rfl rfl ?_
  refine Go.aloadN (pc' := 32) dj68m3_31 rfl rfl rfl ?_
  refine Go.iload (pc' := 34) dj68m3_32 rfl rfl ?_
  refine Go.putF (pc' := 37) (host := "") (a1 := a0) dj68m3_34 (Or.inl (wd hw 53 rfl)) Via.refl GC EA (Or.inl (wd hw 54 rfl)) (wd hw 25 rfl) (ty := .byte) (by decide) rfl rfl (Sf.exa EA (by decide) (by decide)) (by omega) rfl (fun h_11 W_12 => ?_)
  have szh_11 : h_11.size = h0.size := Wr.size W_12
  have F_13 : Fld Z h_11 a1 "java/lang/AbstractStringBuilder" "coder" "B" (.int (0 : Int32)) := Fld.same W_12 GC
  refine Go.aloadN (pc' := 38) dj68m3_37 rfl rfl rfl ?_
  refine Go.iload (pc' := 40) dj68m3_38 rfl rfl ?_
  refine Go.ifF (pc' := 43) dj68m3_40 (show (0 : Int32) = (0 : Int32) by decide) rfl ?_
  refine Go.iloadN (pc' := 44) dj68m3_43 rfl rfl ?_
  refine Go.newPV (pc' := 46) (a1 := a0) 64 ((List.replicate (m.length + 16) (0 : Int32)).map Value.int) dj68m3_44 (wd hw 10 rfl) (ofN_nn (by omega)) (by rw [ofN_nat (by omega)]; omega) (by decide) (by decide) (by decide) (by rw [ofN_nat (by omega), List.map_replicate]; rfl) rfl (fun a_14 h_15 cA_16 ha_17 E_18 A_19 => ?_)
  have szh_15 := nle E_18.1
  have lta_14 := nlt A_19.lt
  have qa_14 := neq ha_17
  have F_20 : Arv Z h_15 a_14 cA_16 .byte (Int32.ofNat (m.length + 16)) ((List.replicate (m.length + 16) (0 : Int32)).map Value.int) (.int 0) := A_19
  refine Go.goto (pc' := 53) dj68m3_46 (by decide) (by decide) ?_
  have F_21 : Fld Z h_15 a1 "java/lang/AbstractStringBuilder" "value" "[B" (.null) := (Fld.ext E_18 (Fld.other W_12 GV (Or.inr (slot_ne (Or.inl (wd hw 56 rfl)) (Or.inl (wd hw 54 rfl)) (by decide) (t := (.array .byte)) (t' := .byte) (by decide) (by decide)))))
  have F_22 := (Exa.ext E_18 (Exa.wr W_12 EA))
  refine Go.putF (pc' := 56) (host := "") (a1 := a0) dj68m3_53 (Or.inl (wd hw 55 rfl)) Via.refl F_21 F_22 (Or.inl (wd hw 56 rfl)) (wd hw 25 rfl) (ty := (.array .byte)) (by decide) rfl rfl (Sf.exa F_22 (by decide) (by decide)) (by omega) rfl (fun h_23 W_24 => ?_)
  have szh_23 : h_23.size = h_15.size := Wr.size W_24
  have F_25 : Fld Z h_23 a1 "java/lang/AbstractStringBuilder" "value" "[B" (.ref a_14) := Fld.same W_24 F_21
  refine Go.aloadN (pc' := 57) dj68m3_56 rfl rfl rfl ?_
  refine Go.aloadN (pc' := 58) dj68m3_57 rfl rfl rfl ?_
  have F_30 := (Exa.wr W_24 F_22)
  have F_31 : Fld Z h_23 a1 "java/lang/AbstractStringBuilder" "count" "I" (.int (0 : Int32)) := (Fld.other W_24 (Fld.ext E_18 (Fld.other W_12 GN (Or.inr (slot_ne (Or.inl (wd hw 72 rfl)) (Or.inl (wd hw 54 rfl)) (by decide) (t := .int) (t' := .byte) (by decide) (by decide))))) (Or.inr (slot_ne (Or.inl (wd hw 72 rfl)) (Or.inl (wd hw 56 rfl)) (by decide) (t := .int) (t' := (.array .byte)) (by decide) (by decide))))
  have F_32 : Fld Z h_23 a1 "java/lang/AbstractStringBuilder" "coder" "B" (.int (0 : Int32)) := (Fld.other W_24 (Fld.ext E_18 F_13) (Or.inr (slot_ne (Or.inl (wd hw 54 rfl)) (Or.inl (wd hw 56 rfl)) (by decide) (t := .byte) (t' := (.array .byte)) (by decide) (by decide))))
  have F_33 := (Arv.other F_20 W_24 (nne (by omega)))
  have HB_26 : Sb Z h_23 a1 a_14 (m.length + 16) [] := ⟨F_30, F_31, F_32, F_25, cA_16, List.replicate (m.length + 16) (0 : Int32), F_33, by simp⟩
  have F_34 := (Exa.wr W_24 (Exa.ext E_18 (Exa.wr W_12 Es)))
  have F_35 := (Fld.other W_24 (Fld.ext E_18 (Fld.other W_12 FCs (Or.inl (nne (by omega))))) (Or.inl (nne (by omega))))
  have F_36 := (Fld.other W_24 (Fld.ext E_18 (Fld.other W_12 FVs (Or.inl (nne (by omega))))) (Or.inl (nne (by omega))))
  have F_37 := (Arv.other (Arv.ext (Arv.other AVs W_12 (nne (by omega))) E_18) W_24 (nne (by omega)))
  have HS_27 : Str Z h_23 s b1 m := ⟨F_34, F_35, F_36, k1, F_37⟩
  have F_38 := (Sta.wr W_24 (Sta.ext E_18 (Sta.wr W_12 S_cs)))
  refine Go.callW (a1 := a0) (pc' := 61) (argsL := [(.ref s)]) (rest := []) (ct_br l Z a0 hw n0 h_23 a1 s b1 a_14 [] m (m.length + 16) HB_26 HS_27 (by show 0 + m.length ≤ _; omega) (by omega) (nne (by omega)) (by omega) (by omega) cs F_38 hcs) dj68m3_58 (wd hw 57 rfl) (wd hw 58 rfl) (wd hw 76 rfl) rfl (wd hw 60 rfl) (wd hw 61 rfl) (wd hw 26 rfl) (wd hw 62 rfl) F_30 (by decide) (lenOf pd_14 rfl) rfl 0 rfl rfl (by decide) (by decide) (by decide) (by decide) (sl1 (by simp)) rfl (fun v_39 h_40 N_41 hQ_42 hle_43 => ?_)
  obtain ⟨rfl, K_28, F_29⟩ := hQ_42
  have szh_40 := nle K_28.1
  refine Go.rs [(.ref a1)] rfl ?_
  refine Go.pop (pc' := 62) dj68m3_61 rfl rfl ?_
  refine Go.ret0 rfl [a_14] (by intro x hx; cases List.mem_singleton.mp hx; simp) dj68m3_62 (by decide) (by decide) ?_
  exact ⟨rfl, a_14, rfl, by omega, (Keep.trans (Keep.wr (Keep.ext (Keep.wr (Keep.refl _ [a1]) W_12 (Or.inl (by simp))) E_18) W_24 (Or.inl (by simp))) K_28 (allS (Or.inl (by simp)) (allS (Or.inr (by omega)) all0))), F_29⟩
theorem dj67m3_0 : decode jdk_67_method_3_code 0 = .ok (.aload_n 0, 1) := by decide +kernel
theorem dj67m3_1 : decode jdk_67_method_3_code 1 = .ok (.aload_n 1, 1) := by decide +kernel
theorem dj67m3_2 : decode jdk_67_method_3_code 2 = .ok (.invokespecial 7, 3) := by decide +kernel
theorem dj67m3_5 : decode jdk_67_method_3_code 5 = .ok (.return_, 1) := by decide +kernel
theorem ct_is0 (l : Launch) (Z : State) (a0 : Array Value) (hw : ∀ d ∈ tables_1, d.before a0 Z = true) (n0 : Nat) (h0 : Heap) (a1 s b1 : Addr) (m : List Int32) (ha : n0 ≤ a1) (HS : Str Z h0 s b1 m) (hl : m.length ≤ 40) (hn0 : n0 ≤ h0.size) (EA : Exa Z h0 a1 "java/lang/StringBuilder") (GN : Fld Z h0 a1 "java/lang/AbstractStringBuilder" "count" "I" (.int (0 : Int32))) (GC : Fld Z h0 a1 "java/lang/AbstractStringBuilder" "coder" "B" (.int (0 : Int32))) (GV : Fld Z h0 a1 "java/lang/AbstractStringBuilder" "value" "[B" .null) (cs : Int32) (S_cs : Sta Z h0 "java/lang/String" "COMPACT_STRINGS" "Z" (.int cs)) (hcs : ¬ cs = 0) :
    Ct l Z (⟨"java/lang/StringBuilder", "<init>", "(Ljava/lang/String;)V"⟩ : MethodName) jdk_67_method_3_code 2 none ({ frames := 7, cells := 1, slots := 64, locals := 103 } : Room) EL1 n0 true [] #[(.ref a1), (.ref s)] h0 [] (fun v h N => v = none ∧ ∃ b, N = [b] ∧ h0.size ≤ b ∧ Keep h0 h [a1] ∧ Sb Z h a1 b (m.length + 16) m) := by
  refine Ct.of (a0 := a0) (plainFor_of_name pn_java_lang_StringBuilder) (own_ew hw) (L0 := #[.val (.ref a1), .val (.ref s)]) (fun _ => rfl) ?_
  have lt_HS := nlt HS.lt
  have ltb_HS := nlt HS.ltb
  have l0_EA := nlt EA.lt
  refine Go.aloadN (pc' := 1) dj67m3_0 rfl rfl rfl ?_
  refine Go.aloadN (pc' := 2) dj67m3_1 rfl rfl rfl ?_
  refine Go.callN (a1 := a0) (pc' := 5) (argsL := [(.ref s)]) (rest := []) (ct_is1 l Z a0 hw n0 h0 a1 s b1 m (by omega) HS hl (by omega) EA GN GC GV cs S_cs hcs) dj67m3_2 rfl (wd hw 31 rfl) (wd hw 32 rfl) (wd hw 35 rfl) (wd hw 36 rfl) (by decide) (lenOf pd_9 rfl) rfl 0 rfl rfl (by decide) (by decide) (by decide) (by decide) sl0 rfl (fun v_6 h_7 N_8 hQ_9 hle_10 => ?_)
  obtain ⟨rfl, b_1, rfl, g_2, K_3, F_4⟩ := hQ_9
  have szh_7 := nle K_3.1
  have ltb_1 := nlt F_4.ltb
  have geb_1 := nle g_2
  have F_5 : Sb Z h_7 a1 b_1 (m.length + 16) m := F_4
  refine Go.rs [] rfl ?_
  refine Go.ret0 rfl [b_1] (by intro x hx; cases List.mem_singleton.mp hx; simp) dj67m3_5 (by decide) (by decide) ?_
  exact ⟨rfl, b_1, rfl, by omega, (Keep.trans (Keep.refl _ [a1]) K_3 (allS (Or.inl (by simp)) all0)), F_5⟩
def own_hdr : List Int32 := [47, 47, 32, 71, 101, 110, 101, 114, 97, 116, 101, 100, 32, 98, 121, 32, 84, 121, 112, 101, 119, 114, 105, 103, 104, 116, 46, 32, 68, 111, 32, 110, 111, 116, 32, 101, 100, 105, 116, 46]
theorem own_r255 (p : Int32) : ¬ nar .char (p &&& 255) < 0 ∧ ¬ 255 < nar .char (p &&& 255) := by
  have hn : (nar .char (p &&& 255)).toBitVec.toNat < 256 := by
    show (BitVec.setWidth 32 (BitVec.setWidth 16 (p.toBitVec &&& 255#32))).toNat < 256
    have h1 : p.toBitVec.toNat &&& 255 ≤ 255 := Nat.and_le_right
    have h2 : (255 : Nat) % 2 ^ 32 = 255 := by decide
    simp only [BitVec.toNat_setWidth, BitVec.toNat_and, BitVec.toNat_ofNat, h2]
    omega
  have e : (nar .char (p &&& 255)).toInt = (nar .char (p &&& 255)).toBitVec.toNat := by
    have h1 : (nar .char (p &&& 255)).toInt = (nar .char (p &&& 255)).toBitVec.toInt := rfl
    rw [BitVec.toInt_eq_toNat_cond] at h1
    split at h1 <;> omega
  have e0 : (0 : Int32).toInt = 0 := by decide
  have e1 : (255 : Int32).toInt = 255 := by decide
  constructor <;> (rw [Int32.lt_iff_toInt_lt]; omega)
theorem own_nch {c : Int32} (h0 : ¬ c < 0) (h1 : ¬ 255 < c) : nar .char c = c := by
  rw [← lchar h0 h1]; exact nar_cc _
theorem own_mk0 (c d : Int32) : mk2 0 c d = [] := rfl
theorem own_mk1 (c d : Int32) : mk2 1 c d = [c] := rfl
theorem own_mk2 (c d : Int32) : mk2 2 c d = [c, d] := rfl
theorem own_nl0 : nl 0 = [] := rfl
theorem own_nl1 : nl 1 = [10] := rfl
theorem pn_dev_typewright_dart_DartWriterLinePinLaw : plainName "dev/typewright/dart/DartWriterLinePinLaw" = true := by first | (simp [plainName, overriddenIn]; done) | decide +kernel
theorem dm2_0 : decode method_2_code 0 = .ok (.iload_n 0, 1) := by decide +kernel
theorem dm2_1 : decode method_2_code 1 = .ok (.sipush 255, 3) := by decide +kernel
theorem dm2_4 : decode method_2_code 4 = .ok (.iand, 1) := by decide +kernel
theorem dm2_5 : decode method_2_code 5 = .ok (.i2c, 1) := by decide +kernel
theorem dm2_6 : decode method_2_code 6 = .ok (.istore_n 1, 1) := by decide +kernel
theorem dm2_7 : decode method_2_code 7 = .ok (.iload_n 1, 1) := by decide +kernel
theorem dm2_8 : decode method_2_code 8 = .ok (.bipush 10, 2) := by decide +kernel
theorem dm2_10 : decode method_2_code 10 = .ok (.if_icmp .eq 9, 3) := by decide +kernel
theorem dm2_19 : decode method_2_code 19 = .ok (.bipush 97, 2) := by decide +kernel
theorem dm2_21 : decode method_2_code 21 = .ok (.ireturn, 1) := by decide +kernel
theorem dm2_13 : decode method_2_code 13 = .ok (.iload_n 1, 1) := by decide +kernel
theorem dm2_14 : decode method_2_code 14 = .ok (.bipush 13, 2) := by decide +kernel
theorem dm2_16 : decode method_2_code 16 = .ok (.if_icmp .ne 6, 3) := by decide +kernel
theorem dm2_22 : decode method_2_code 22 = .ok (.iload_n 1, 1) := by decide +kernel
theorem dm2_23 : decode method_2_code 23 = .ok (.ireturn, 1) := by decide +kernel
theorem ct_ch (l : Launch) (Z : State) (a0 : Array Value) (hw : ∀ d ∈ tables_1, d.before a0 Z = true) (n0 : Nat) (h0 : Heap) (p : Int32) :
    Ct l Z (⟨"dev/typewright/dart/DartWriterLinePinLaw", "ch", "(I)C"⟩ : MethodName) method_2_code 2 (some .char) ({ frames := 0, cells := 0, slots := 0, locals := 0 } : Room) EL1 n0 true [] #[(.int p)] h0 [] (fun v h N => h0 = h ∧ ∃ c, v = some (.int c) ∧ ¬ c < 0 ∧ ¬ 255 < c) := by
  refine Ct.of (a0 := a0) (plainFor_of_name pn_dev_typewright_dart_DartWriterLinePinLaw) (own_ew hw) (L0 := #[.val (.int p), .unset]) (fun _ => rfl) ?_
  refine Go.iloadN (pc' := 1) dm2_0 rfl rfl ?_
  refine Go.sipush (pc' := 4) 255 dm2_1 rfl rfl ?_
  refine Go.iand (pc' := 5) dm2_4 rfl ?_
  refine Go.i2c (pc' := 6) dm2_5 rfl ?_
  refine Go.istoreN (pc' := 7) #[.val (.int p), .val (.int (nar .char (p &&& (255 : Int32))))] dm2_6 rfl rfl ?_
  refine Go.iloadN (pc' := 8) dm2_7 rfl rfl ?_
  refine Go.bipush (pc' := 10) 10 dm2_8 rfl rfl ?_
  refine Go.icmp (pc' := 19) (pc'' := 13) dm2_10 (by decide) (by decide) rfl (fun hc_1 => ?_) (fun hc_1 => ?_)
  · have hc_1 : (nar .char (p &&& (255 : Int32))) = (10 : Int32) := hc_1
    refine Go.bipush (pc' := 21) 97 dm2_19 rfl rfl ?_
    refine Go.retN (t := .char) (97 : Int32) rfl (by simp) rfl [] sl0 dm2_21 (by decide) (by decide) ?_
    exact ⟨rfl, _, rfl, by decide, by decide⟩
  · have hc_1 : ¬ ((nar .char (p &&& (255 : Int32))) = (10 : Int32)) := hc_1
    refine Go.iloadN (pc' := 14) dm2_13 rfl rfl ?_
    refine Go.bipush (pc' := 16) 13 dm2_14 rfl rfl ?_
    refine Go.icmp (pc' := 22) (pc'' := 19) dm2_16 (by decide) (by decide) rfl (fun hc_2 => ?_) (fun hc_2 => ?_)
    · have hc_2 : ¬ ((nar .char (p &&& (255 : Int32))) = (13 : Int32)) := hc_2
      refine Go.iloadN (pc' := 23) dm2_22 rfl rfl ?_
      refine Go.retN (t := .char) (nar .char (p &&& (255 : Int32))) rfl (by simp) (nar_cc _) [] sl0 dm2_23 (by decide) (by decide) ?_
      exact ⟨rfl, _, rfl, (own_r255 p).1, (own_r255 p).2⟩
    · have hc_2 : (nar .char (p &&& (255 : Int32))) = (13 : Int32) := hc_2
      refine Go.bipush (pc' := 21) 97 dm2_19 rfl rfl ?_
      refine Go.retN (t := .char) (97 : Int32) rfl (by simp) rfl [] sl0 dm2_21 (by decide) (by decide) ?_
      exact ⟨rfl, _, rfl, by decide, by decide⟩
theorem dj43m46_0 : decode jdk_43_method_46_code 0 = .ok (.iconst 1, 1) := by decide +kernel
theorem dj43m46_1 : decode jdk_43_method_46_code 1 = .ok (.newarray .byte, 2) := by decide +kernel
theorem dj43m46_3 : decode jdk_43_method_46_code 3 = .ok (.dup, 1) := by decide +kernel
theorem dj43m46_4 : decode jdk_43_method_46_code 4 = .ok (.iconst 0, 1) := by decide +kernel
theorem dj43m46_5 : decode jdk_43_method_46_code 5 = .ok (.iload_n 0, 1) := by decide +kernel
theorem dj43m46_6 : decode jdk_43_method_46_code 6 = .ok (.i2b, 1) := by decide +kernel
theorem dj43m46_7 : decode jdk_43_method_46_code 7 = .ok (.bastore, 1) := by decide +kernel
theorem dj43m46_8 : decode jdk_43_method_46_code 8 = .ok (.areturn, 1) := by decide +kernel
theorem ct_tb (l : Launch) (Z : State) (a0 : Array Value) (hw : ∀ d ∈ tables_1, d.before a0 Z = true) (n0 : Nat) (h0 : Heap) (c : Int32) (hn0 : n0 ≤ h0.size) :
    Ct l Z (⟨"java/lang/StringLatin1", "toBytes", "(C)[B"⟩ : MethodName) jdk_43_method_46_code 1 (some (.array .byte)) ({ frames := 0, cells := 1, slots := 1, locals := 0 } : Room) EL1 n0 true [] #[(.int c)] h0 [] (fun v h N => ∃ d kd, v = some (.ref d) ∧ h0.size ≤ d ∧ Keep h0 h [] ∧ Arv Z h d kd .byte (1 : Int32) [(.int (by8 c))] (.int 0)) := by
  refine Ct.of (a0 := a0) (plainFor_of_name pn_java_lang_StringLatin1) (own_ew hw) (L0 := #[.val (.int c)]) (fun _ => rfl) ?_
  refine Go.iconst (pc' := 1) 1 dj43m46_0 rfl rfl ?_
  refine Go.newPV (pc' := 3) (a1 := a0) 1 [(.int (0 : Int32))] dj43m46_1 (wd hw 10 rfl) (by decide) (by decide) (by decide) (by decide) (by decide) rfl rfl (fun a_1 h_2 cA_3 ha_4 E_5 A_6 => ?_)
  have szh_2 := nle E_5.1
  have lta_1 := nlt A_6.lt
  have qa_1 := neq ha_4
  have F_7 : Arv Z h_2 a_1 cA_3 .byte (1 : Int32) [(.int (0 : Int32))] (.int 0) := A_6
  refine Go.dup (pc' := 4) dj43m46_3 rfl rfl ?_
  refine Go.iconst (pc' := 5) 0 dj43m46_4 rfl rfl ?_
  refine Go.iloadN (pc' := 6) dj43m46_5 rfl rfl ?_
  refine Go.i2b (pc' := 7) dj43m46_6 rfl ?_
  refine Go.bastoreV (pc' := 8) 0 dj43m46_7 F_7 (by decide) rfl (show 0 < 1 by decide) (Sf.mem (by simp)) (by omega) rfl (fun h_8 W_9 A_10 => ?_)
  have szh_8 : h_8.size = h_2.size := Wr.size W_9
  have F_11 : Arv Z h_8 a_1 cA_3 .byte (1 : Int32) [(.int (c).toInt8.toInt32)] (.int 0) := by have q := A_10; rw [nar_i2b] at q; exact q
  refine Go.retA rfl rfl rfl [] sl0 dj43m46_8 (by decide) (by decide) ?_
  exact ⟨a_1, _, rfl, by omega, (Keep.wr (Keep.ext (Keep.refl _ []) E_5) W_9 (Or.inr (by omega))), F_11⟩
theorem dj42m151_0 : decode jdk_42_method_151_code 0 = .ok (.aload_n 0, 1) := by decide +kernel
theorem dj42m151_1 : decode jdk_42_method_151_code 1 = .ok (.invokespecial 1, 3) := by decide +kernel
theorem dj42m151_4 : decode jdk_42_method_151_code 4 = .ok (.aload_n 0, 1) := by decide +kernel
theorem dj42m151_5 : decode jdk_42_method_151_code 5 = .ok (.aload_n 1, 1) := by decide +kernel
theorem dj42m151_6 : decode jdk_42_method_151_code 6 = .ok (.putfield 9, 3) := by decide +kernel
theorem dj42m151_9 : decode jdk_42_method_151_code 9 = .ok (.aload_n 0, 1) := by decide +kernel
theorem dj42m151_10 : decode jdk_42_method_151_code 10 = .ok (.iload_n 2, 1) := by decide +kernel
theorem dj42m151_11 : decode jdk_42_method_151_code 11 = .ok (.putfield 15, 3) := by decide +kernel
theorem dj42m151_14 : decode jdk_42_method_151_code 14 = .ok (.return_, 1) := by decide +kernel
theorem ct_ib (l : Launch) (Z : State) (a0 : Array Value) (hw : ∀ d ∈ tables_1, d.before a0 Z = true) (n0 : Nat) (h0 : Heap) (s : Addr) (hs : n0 ≤ s) (Es : Exa Z h0 s "java/lang/String") (G1 : Fld Z h0 s "java/lang/String" "value" "[B" .null) (G2 : Fld Z h0 s "java/lang/String" "coder" "B" (.int (0 : Int32))) (d : Addr) :
    Ct l Z (⟨"java/lang/String", "<init>", "([BB)V"⟩ : MethodName) jdk_42_method_151_code 3 none ({ frames := 1, cells := 0, slots := 0, locals := 12 } : Room) EL1 n0 true [] #[(.ref s), (.ref d), (.int (0 : Int32))] h0 [s] (fun v h N => v = none ∧ Keep h0 h [s] ∧ Exa Z h s "java/lang/String" ∧ Fld Z h s "java/lang/String" "coder" "B" (.int (0 : Int32)) ∧ Fld Z h s "java/lang/String" "value" "[B" (.ref d)) := by
  refine Ct.of (a0 := a0) (plainFor_of_name pn_java_lang_String) (own_ew hw) (L0 := #[.val (.ref s), .val (.ref d), .val (.int (0 : Int32))]) (fun _ => rfl) ?_
  have l0_Es := nlt Es.lt
  refine Go.aloadN (pc' := 1) dj42m151_0 rfl rfl rfl ?_
  refine Go.initO (pc' := 4) (a1 := a0) dj42m151_1 (wd hw 144 rfl) (wd hw 22 rfl) (wd hw 23 rfl) rfl (by decide) 0 rfl (by decide) rfl ?_
  refine Go.aloadN (pc' := 5) dj42m151_4 rfl rfl rfl ?_
  refine Go.aloadN (pc' := 6) dj42m151_5 rfl rfl rfl ?_
  refine Go.putF (pc' := 9) (host := "") (a1 := a0) dj42m151_6 (Or.inl (wd hw 43 rfl)) Via.refl G1 Es (Or.inr ⟨(wd hw 11 rfl), rfl, rfl⟩) (wd hw 9 rfl) (ty := (.array .byte)) (by decide) rfl rfl (Sf.mem (by simp)) (by omega) rfl (fun h_1 W_2 => ?_)
  have szh_1 : h_1.size = h0.size := Wr.size W_2
  have F_3 : Fld Z h_1 s "java/lang/String" "value" "[B" (.ref d) := Fld.same W_2 G1
  refine Go.aloadN (pc' := 10) dj42m151_9 rfl rfl rfl ?_
  refine Go.iloadN (pc' := 11) dj42m151_10 rfl rfl ?_
  have F_4 : Fld Z h_1 s "java/lang/String" "coder" "B" (.int (0 : Int32)) := (Fld.other W_2 G2 (Or.inr (slot_ne (Or.inr (wd hw 12 rfl)) (Or.inr (wd hw 11 rfl)) (by decide) (t := .byte) (t' := (.array .byte)) (by decide) (by decide))))
  have F_5 := (Exa.wr W_2 Es)
  refine Go.putF (pc' := 14) (host := "") (a1 := a0) dj42m151_11 (Or.inl (wd hw 50 rfl)) Via.refl F_4 F_5 (Or.inr ⟨(wd hw 12 rfl), rfl, rfl⟩) (wd hw 9 rfl) (ty := .byte) (by decide) rfl rfl (Sf.mem (by simp)) (by omega) rfl (fun h_6 W_7 => ?_)
  have szh_6 : h_6.size = h_1.size := Wr.size W_7
  have F_8 : Fld Z h_6 s "java/lang/String" "coder" "B" (.int (0 : Int32)) := Fld.same W_7 F_4
  have F_9 := (Exa.wr W_7 F_5)
  have F_10 : Fld Z h_6 s "java/lang/String" "value" "[B" (.ref d) := (Fld.other W_7 F_3 (Or.inr (slot_ne (Or.inr (wd hw 11 rfl)) (Or.inr (wd hw 12 rfl)) (by decide) (t := (.array .byte)) (t' := .byte) (by decide) (by decide))))
  refine Go.ret0 rfl [] sl0 dj42m151_14 (by decide) (by decide) ?_
  exact ⟨rfl, (Keep.wr (Keep.wr (Keep.refl _ [s]) W_2 (Or.inl (by simp))) W_7 (Or.inl (by simp))), F_9, F_8, F_10⟩
theorem dj42m139_0 : decode jdk_42_method_139_code 0 = .ok (.getstatic 38, 3) := by decide +kernel
theorem dj42m139_3 : decode jdk_42_method_139_code 3 = .ok (.ifCond .eq 23, 3) := by decide +kernel
theorem dj42m139_6 : decode jdk_42_method_139_code 6 = .ok (.iload_n 0, 1) := by decide +kernel
theorem dj42m139_7 : decode jdk_42_method_139_code 7 = .ok (.invokestatic 1015, 3) := by decide +kernel
theorem dj42m139_10 : decode jdk_42_method_139_code 10 = .ok (.ifCond .eq 16, 3) := by decide +kernel
theorem dj42m139_13 : decode jdk_42_method_139_code 13 = .ok (.new 10, 3) := by decide +kernel
theorem dj42m139_16 : decode jdk_42_method_139_code 16 = .ok (.dup, 1) := by decide +kernel
theorem dj42m139_17 : decode jdk_42_method_139_code 17 = .ok (.iload_n 0, 1) := by decide +kernel
theorem pd_23 : parseMethodDescriptor "(C)[B" = some ⟨[.char], (some (.array .byte))⟩ := by decide +kernel
theorem dj42m139_18 : decode jdk_42_method_139_code 18 = .ok (.invokestatic 1018, 3) := by decide +kernel
theorem dj42m139_21 : decode jdk_42_method_139_code 21 = .ok (.iconst 0, 1) := by decide +kernel
theorem pd_24 : parseMethodDescriptor "([BB)V" = some ⟨[(.array .byte), .byte], none⟩ := by decide +kernel
theorem dj42m139_22 : decode jdk_42_method_139_code 22 = .ok (.invokespecial 209, 3) := by decide +kernel
theorem dj42m139_25 : decode jdk_42_method_139_code 25 = .ok (.areturn, 1) := by decide +kernel
theorem ct_vo (l : Launch) (Z : State) (a0 : Array Value) (hw : ∀ d ∈ tables_1, d.before a0 Z = true) (n0 : Nat) (h0 : Heap) (c : Int32) (hcc : ¬ 255 < c) (hn0 : n0 ≤ h0.size) (cs : Int32) (S_cs : Sta Z h0 "java/lang/String" "COMPACT_STRINGS" "Z" (.int cs)) (hcs : ¬ cs = 0) :
    Ct l Z (⟨"java/lang/String", "valueOf", "(C)Ljava/lang/String;"⟩ : MethodName) jdk_42_method_139_code 1 (some (.object "java/lang/String")) ({ frames := 2, cells := 2, slots := 5, locals := 27 } : Room) EL1 n0 true [] #[(.int c)] h0 [] (fun v h N => ∃ s b, v = some (.ref s) ∧ h0.size ≤ s ∧ h0.size ≤ b ∧ Keep h0 h [] ∧ Str Z h s b [by8 c]) := by
  refine Ct.of (a0 := a0) (plainFor_of_name pn_java_lang_String) (own_ew hw) (L0 := #[.val (.int c)]) (fun _ => rfl) ?_
  refine Go.getS (pc' := 3) (host := "") (a1 := a0) dj42m139_0 (Or.inl (wd hw 49 rfl)) Via.refl S_cs rfl ?_
  refine Go.ifF (pc' := 6) dj42m139_3 (hcs) rfl ?_
  refine Go.iloadN (pc' := 7) dj42m139_6 rfl rfl ?_
  refine Go.callS (a1 := a0) (pc' := 10) (argsL := [(.int c)]) (rest := []) (ct_ce l Z a0 hw n0 h0 c hcc) dj42m139_7 (wd hw 209 rfl) (wd hw 113 rfl) (wd hw 114 rfl) (wd hw 115 rfl) (by decide) (lenOf pd_20 rfl) rfl 0 rfl rfl (by decide) (by decide) (by decide) (by decide) sl0 rfl (fun v_1 h_2 N_3 hQ_4 hle_5 => ?_)
  obtain ⟨rfl, rfl⟩ := hQ_4
  refine Go.rs [(.int (1 : Int32))] rfl ?_
  refine Go.ifF (pc' := 13) dj42m139_10 (show ¬ ((1 : Int32) = (0 : Int32)) by decide) rfl ?_
  refine Go.newO (pc' := 16) (a1 := a0) dj42m139_13 (wd hw 210 rfl) (wd hw 9 rfl) (wd hw 8 rfl) (by decide) (by decide) rfl (fun a_6 h_7 ha_9 E_8 X_10 Df_11 => ?_)
  have szh_7 := nle E_8.1
  have lta_6 := nlt X_10.lt
  have qa_6 := neq ha_9
  have F_12 : Fld Z h_7 a_6 "java/lang/String" "value" "[B" (.null) := Df_11 (Or.inr (wd hw 11 rfl)) (ty := (.array .byte)) (by decide)
  have F_13 : Fld Z h_7 a_6 "java/lang/String" "coder" "B" (.int (0 : Int32)) := Df_11 (Or.inr (wd hw 12 rfl)) (ty := .byte) (by decide)
  refine Go.dup (pc' := 17) dj42m139_16 rfl rfl ?_
  refine Go.iloadN (pc' := 18) dj42m139_17 rfl rfl ?_
  refine Go.callS (a1 := a0) (pc' := 21) (argsL := [(.int c)]) (rest := [(.ref a_6), (.ref a_6)]) (ct_tb l Z a0 hw n0 h_7 c (by omega)) dj42m139_18 (wd hw 211 rfl) (wd hw 212 rfl) (wd hw 114 rfl) (wd hw 213 rfl) (by decide) (lenOf pd_23 rfl) rfl 2 rfl rfl (by decide) (by decide) (by decide) (by decide) sl0 rfl (fun v_19 h_20 N_21 hQ_22 hle_23 => ?_)
  obtain ⟨d_14, kd_15, rfl, g_16, K_17, F_18⟩ := hQ_22
  have szh_20 := nle K_17.1
  have ltd_14 := nlt F_18.lt
  have ged_14 := nle g_16
  refine Go.rs [(.ref d_14), (.ref a_6), (.ref a_6)] rfl ?_
  refine Go.iconst (pc' := 22) 0 dj42m139_21 rfl rfl ?_
  have F_29 := (Exa.keep X_10 K_17)
  have F_30 := (Fld.keep F_12 K_17 nin0)
  have F_31 := (Fld.keep F_13 K_17 nin0)
  refine Go.callN (a1 := a0) (pc' := 25) (argsL := [(.ref d_14), (.int (0 : Int32))]) (rest := [(.ref a_6)]) (ct_ib l Z a0 hw n0 h_20 a_6 (by omega) F_29 F_30 F_31 d_14) dj42m139_22 rfl (wd hw 214 rfl) (wd hw 215 rfl) (wd hw 8 rfl) (wd hw 216 rfl) (by decide) (lenOf pd_24 rfl) rfl 1 rfl rfl (by decide) (by decide) (by decide) (by decide) (sl1 (by simp)) rfl (fun v_32 h_33 N_34 hQ_35 hle_36 => ?_)
  obtain ⟨rfl, K_24, X_25, F_26, F_27⟩ := hQ_35
  have szh_33 := nle K_24.1
  have F_37 := (Arv.keep F_18 K_24 (ninS (nne (by omega)) nin0))
  have T_28 : Str Z h_33 a_6 d_14 [by8 c] := ⟨X_25, F_26, F_27, kd_15, F_37⟩
  refine Go.rs [(.ref a_6)] rfl ?_
  refine Go.retA rfl rfl rfl [] sl0 dj42m139_25 (by decide) (by decide) ?_
  exact ⟨a_6, d_14, rfl, by omega, by omega, (Keep.trans (Keep.trans (Keep.ext (Keep.refl _ []) E_8) K_17 all0) K_24 (allS (Or.inr (by omega)) all0)), T_28⟩
theorem dm4_0 : decode method_4_code 0 = .ok (.iload_n 0, 1) := by decide +kernel
theorem dm4_1 : decode method_4_code 1 = .ok (.ifCond .ne 6, 3) := by decide +kernel
theorem dm4_4 : decode method_4_code 4 = .ok (.ldc 17, 2) := by decide +kernel
theorem dm4_6 : decode method_4_code 6 = .ok (.areturn, 1) := by decide +kernel
theorem dm4_7 : decode method_4_code 7 = .ok (.iload_n 0, 1) := by decide +kernel
theorem dm4_8 : decode method_4_code 8 = .ok (.iconst 1, 1) := by decide +kernel
theorem dm4_9 : decode method_4_code 9 = .ok (.if_icmp .ne 8, 3) := by decide +kernel
theorem dm4_12 : decode method_4_code 12 = .ok (.iload_n 1, 1) := by decide +kernel
theorem pd_25 : parseMethodDescriptor "(C)Ljava/lang/String;" = some ⟨[.char], (some (.object "java/lang/String"))⟩ := by decide +kernel
theorem dm4_13 : decode method_4_code 13 = .ok (.invokestatic 19, 3) := by decide +kernel
theorem dm4_16 : decode method_4_code 16 = .ok (.areturn, 1) := by decide +kernel
theorem dm4_17 : decode method_4_code 17 = .ok (.iconst 2, 1) := by decide +kernel
theorem dm4_18 : decode method_4_code 18 = .ok (.newarray .char, 2) := by decide +kernel
theorem dm4_20 : decode method_4_code 20 = .ok (.dup, 1) := by decide +kernel
theorem dm4_21 : decode method_4_code 21 = .ok (.iconst 0, 1) := by decide +kernel
theorem dm4_22 : decode method_4_code 22 = .ok (.iload_n 1, 1) := by decide +kernel
theorem dm4_23 : decode method_4_code 23 = .ok (.castore, 1) := by decide +kernel
theorem dm4_24 : decode method_4_code 24 = .ok (.dup, 1) := by decide +kernel
theorem dm4_25 : decode method_4_code 25 = .ok (.iconst 1, 1) := by decide +kernel
theorem dm4_26 : decode method_4_code 26 = .ok (.iload_n 2, 1) := by decide +kernel
theorem dm4_27 : decode method_4_code 27 = .ok (.castore, 1) := by decide +kernel
theorem dm4_28 : decode method_4_code 28 = .ok (.astore_n 3, 1) := by decide +kernel
theorem dm4_29 : decode method_4_code 29 = .ok (.new 8, 3) := by decide +kernel
theorem dm4_32 : decode method_4_code 32 = .ok (.dup, 1) := by decide +kernel
theorem dm4_33 : decode method_4_code 33 = .ok (.aload_n 3, 1) := by decide +kernel
theorem pd_26 : parseMethodDescriptor "([C)V" = some ⟨[(.array .char)], none⟩ := by decide +kernel
theorem dm4_34 : decode method_4_code 34 = .ok (.invokespecial 23, 3) := by decide +kernel
theorem dm4_37 : decode method_4_code 37 = .ok (.areturn, 1) := by decide +kernel
theorem ct_str (l : Launch) (Z : State) (a0 : Array Value) (hw : ∀ d ∈ tables_1, d.before a0 Z = true) (n0 : Nat) (h0 : Heap) (n c d : Int32) (hn : n = 0 ∨ n = 1 ∨ n = 2) (hc0 : ¬ c < 0) (hc1 : ¬ 255 < c) (hd0 : ¬ d < 0) (hd1 : ¬ 255 < d) (hn0 : n0 ≤ h0.size) (cs : Int32) (S_cs : Sta Z h0 "java/lang/String" "COMPACT_STRINGS" "Z" (.int cs)) (hcs : ¬ cs = 0) :
    Ct l Z (⟨"dev/typewright/dart/DartWriterLinePinLaw", "str", "(ICC)Ljava/lang/String;"⟩ : MethodName) method_4_code 4 (some (.object "java/lang/String")) ({ frames := 4, cells := 3, slots := 8, locals := 66 } : Room) EL1 n0 true [] #[(.int n), (.int c), (.int d)] h0 [] (fun v h N => ∃ s b, v = some (.ref s) ∧ Keep h0 h [] ∧ Str Z h s b ((mk2 n c d).map by8)) := by
  refine Ct.of (a0 := a0) (plainFor_of_name pn_dev_typewright_dart_DartWriterLinePinLaw) (own_ew hw) (L0 := #[.val (.int n), .val (.int c), .val (.int d), .unset]) (fun _ => rfl) ?_
  rcases hn with rfl | rfl | rfl
  · refine Go.iloadN (pc' := 1) dm4_0 rfl rfl ?_
    refine Go.ifF (pc' := 4) dm4_1 (show (0 : Int32) = (0 : Int32) by decide) rfl ?_
    refine Go.ldcR (pc' := 6) (a1 := a0) 0 (vs := []) (z := 0) dm4_4 rfl (wd hw 7 rfl) (own_ws hw) (by decide) (by decide) (by decide) (by decide) rfl (own_ew hw) (List.mem_of_getElem? (i := 1) rfl) ⟨by decide, by decide⟩ (by decide) (by decide) (fun a_1 h_2 b_3 k_4 E_5 X_6 F_7 F_8 A_9 ne_10 => ?_)
    have szh_2 := nle E_5.1
    have lta_1 := nlt X_6.lt
    have ltb_3 := nlt A_9.lt
    have T_11 : Str Z h_2 a_1 b_3 [] := ⟨X_6, F_7, F_8, k_4, A_9⟩
    refine Go.retA rfl rfl rfl [] sl0 dm4_6 (by decide) (by decide) ?_
    exact ⟨a_1, b_3, rfl, (Keep.ext (Keep.refl _ []) E_5), by rw [own_mk0]; exact T_11⟩
  · refine Go.iloadN (pc' := 1) dm4_0 rfl rfl ?_
    refine Go.ifT (pc' := 7) dm4_1 (show ¬ ((1 : Int32) = (0 : Int32)) by decide) (by decide) (by decide) ?_
    refine Go.iloadN (pc' := 8) dm4_7 rfl rfl ?_
    refine Go.iconst (pc' := 9) 1 dm4_8 rfl rfl ?_
    refine Go.icmpF (pc' := 12) dm4_9 (show (1 : Int32) = (1 : Int32) by decide) rfl ?_
    refine Go.iloadN (pc' := 13) dm4_12 rfl rfl ?_
    refine Go.callS (a1 := a0) (pc' := 16) (argsL := [(.int c)]) (rest := []) (ct_vo l Z a0 hw n0 h0 c hc1 (by omega) cs S_cs hcs) dm4_13 (wd hw 206 rfl) (wd hw 207 rfl) (wd hw 8 rfl) (wd hw 208 rfl) (by decide) (lenOf pd_25 rfl) rfl 0 rfl rfl (by decide) (by decide) (by decide) (by decide) sl0 rfl (fun v_18 h_19 N_20 hQ_21 hle_22 => ?_)
    obtain ⟨s_12, b_13, rfl, g_14, g_15, K_16, F_17⟩ := hQ_21
    have szh_19 := nle K_16.1
    have lts_12 := nlt F_17.lt
    have ltb_13 := nlt F_17.ltb
    have ges_12 := nle g_14
    have geb_13 := nle g_15
    refine Go.rs [(.ref s_12)] rfl ?_
    refine Go.retA rfl rfl rfl [] sl0 dm4_16 (by decide) (by decide) ?_
    exact ⟨s_12, b_13, rfl, (Keep.trans (Keep.refl _ []) K_16 all0), by rw [own_mk1]; exact F_17⟩
  · refine Go.iloadN (pc' := 1) dm4_0 rfl rfl ?_
    refine Go.ifT (pc' := 7) dm4_1 (show ¬ ((2 : Int32) = (0 : Int32)) by decide) (by decide) (by decide) ?_
    refine Go.iloadN (pc' := 8) dm4_7 rfl rfl ?_
    refine Go.iconst (pc' := 9) 1 dm4_8 rfl rfl ?_
    refine Go.icmpT (pc' := 17) dm4_9 (show ¬ ((2 : Int32) = (1 : Int32)) by decide) (by decide) (by decide) ?_
    refine Go.iconst (pc' := 18) 2 dm4_17 rfl rfl ?_
    refine Go.newPV (pc' := 20) (a1 := a0) 2 [(.int (0 : Int32)), (.int (0 : Int32))] dm4_18 (wd hw 174 rfl) (by decide) (by decide) (by decide) (by decide) (by decide) rfl rfl (fun a_23 h_24 cA_25 ha_26 E_27 A_28 => ?_)
    have szh_24 := nle E_27.1
    have lta_23 := nlt A_28.lt
    have qa_23 := neq ha_26
    have F_29 : Arv Z h_24 a_23 cA_25 .char (2 : Int32) [(.int (0 : Int32)), (.int (0 : Int32))] (.int 0) := A_28
    refine Go.dup (pc' := 21) dm4_20 rfl rfl ?_
    refine Go.iconst (pc' := 22) 0 dm4_21 rfl rfl ?_
    refine Go.iloadN (pc' := 23) dm4_22 rfl rfl ?_
    refine Go.castoreV (pc' := 24) 0 dm4_23 F_29 (by decide) rfl (show 0 < 2 by decide) (by omega) rfl (fun h_30 W_31 A_32 => ?_)
    have szh_30 : h_30.size = h_24.size := Wr.size W_31
    have F_33 : Arv Z h_30 a_23 cA_25 .char (2 : Int32) [(.int c), (.int (0 : Int32))] (.int 0) := by have q := A_32; rw [own_nch hc0 hc1] at q; exact q
    refine Go.dup (pc' := 25) dm4_24 rfl rfl ?_
    refine Go.iconst (pc' := 26) 1 dm4_25 rfl rfl ?_
    refine Go.iloadN (pc' := 27) dm4_26 rfl rfl ?_
    refine Go.castoreV (pc' := 28) 1 dm4_27 F_33 (by decide) rfl (show 1 < 2 by decide) (by omega) rfl (fun h_34 W_35 A_36 => ?_)
    have szh_34 : h_34.size = h_30.size := Wr.size W_35
    have F_37 : Arv Z h_34 a_23 cA_25 .char (2 : Int32) [(.int c), (.int d)] (.int 0) := by have q := A_36; rw [own_nch hd0 hd1] at q; exact q
    refine Go.astoreN (pc' := 29) #[.val (.int (2 : Int32)), .val (.int c), .val (.int d), .val (.ref a_23)] dm4_28 rfl rfl rfl ?_
    refine Go.newO (pc' := 32) (a1 := a0) dm4_29 (wd hw 217 rfl) (wd hw 9 rfl) (wd hw 8 rfl) (by decide) (by decide) rfl (fun a_38 h_39 ha_41 E_40 X_42 Df_43 => ?_)
    have szh_39 := nle E_40.1
    have lta_38 := nlt X_42.lt
    have qa_38 := neq ha_41
    have F_44 : Fld Z h_39 a_38 "java/lang/String" "value" "[B" (.null) := Df_43 (Or.inr (wd hw 11 rfl)) (ty := (.array .byte)) (by decide)
    have F_45 : Fld Z h_39 a_38 "java/lang/String" "coder" "B" (.int (0 : Int32)) := Df_43 (Or.inr (wd hw 12 rfl)) (ty := .byte) (by decide)
    refine Go.dup (pc' := 33) dm4_32 rfl rfl ?_
    refine Go.aloadN (pc' := 34) dm4_33 rfl rfl rfl ?_
    have F_55 := (Arv.ext F_37 E_40)
    have F_56 := (Sta.ext E_40 (Sta.wr W_35 (Sta.wr W_31 (Sta.ext E_27 S_cs))))
    refine Go.callN (a1 := a0) (pc' := 37) (argsL := [(.ref a_23)]) (rest := [(.ref a_38)]) (ct_si1_2 l Z a0 hw n0 h_39 a_38 (by omega) X_42 F_44 F_45 a_23 cA_25 c d F_55 hc1 hd1 cs F_56 hcs) dm4_34 rfl (wd hw 218 rfl) (wd hw 219 rfl) (wd hw 8 rfl) (wd hw 220 rfl) (by decide) (lenOf pd_26 rfl) rfl 1 rfl rfl (by decide) (by decide) (by decide) (by decide) (sl1 (by simp)) rfl (fun v_57 h_58 N_59 hQ_60 hle_61 => ?_)
    obtain ⟨rfl, b_46, kb_47, g_48, g_49, K_50, X_51, F_52, F_53, A_54⟩ := hQ_60
    have szh_58 := nle K_50.1
    have ltb_46 := nlt g_49
    refine Go.rs [(.ref a_38)] rfl ?_
    have T_62 : Str Z h_58 a_38 b_46 [by8 c, by8 d] := ⟨X_51, F_52, F_53, kb_47, A_54⟩
    refine Go.retA rfl rfl rfl [] sl0 dm4_37 (by decide) (by decide) ?_
    exact ⟨a_38, b_46, rfl, (Keep.trans (Keep.ext (Keep.wr (Keep.wr (Keep.ext (Keep.refl _ []) E_27) W_31 (Or.inr (by omega))) W_35 (Or.inr (by omega))) E_40) K_50 (allS (Or.inr (by omega)) all0)), by rw [own_mk2]; exact T_62⟩
theorem pn_dev_typewright_dart_DartWriter : plainName "dev/typewright/dart/DartWriter" = true := by first | (simp [plainName, overriddenIn]; done) | decide +kernel
theorem dp57m1_0 : decode prog_57_method_1_code 0 = .ok (.aload_n 0, 1) := by decide +kernel
theorem dp57m1_1 : decode prog_57_method_1_code 1 = .ok (.invokespecial 1, 3) := by decide +kernel
theorem dp57m1_4 : decode prog_57_method_1_code 4 = .ok (.aload_n 0, 1) := by decide +kernel
theorem dp57m1_5 : decode prog_57_method_1_code 5 = .ok (.new 7, 3) := by decide +kernel
theorem dp57m1_8 : decode prog_57_method_1_code 8 = .ok (.dup, 1) := by decide +kernel
theorem dp57m1_9 : decode prog_57_method_1_code 9 = .ok (.ldc 11, 2) := by decide +kernel
theorem dp57m1_11 : decode prog_57_method_1_code 11 = .ok (.invokespecial 13, 3) := by decide +kernel
theorem dp57m1_14 : decode prog_57_method_1_code 14 = .ok (.bipush 10, 2) := by decide +kernel
theorem pd_27 : parseMethodDescriptor "(C)Ljava/lang/StringBuilder;" = some ⟨[.char], (some (.object "java/lang/StringBuilder"))⟩ := by decide +kernel
theorem dp57m1_16 : decode prog_57_method_1_code 16 = .ok (.invokevirtual 16, 3) := by decide +kernel
theorem dp57m1_19 : decode prog_57_method_1_code 19 = .ok (.putfield 20, 3) := by decide +kernel
theorem dp57m1_22 : decode prog_57_method_1_code 22 = .ok (.return_, 1) := by decide +kernel
theorem ct_wi (l : Launch) (Z : State) (a0 : Array Value) (hw : ∀ d ∈ tables_1, d.before a0 Z = true) (n0 : Nat) (h0 : Heap) (a1 : Addr) (ha : n0 ≤ a1) (hn0 : n0 ≤ h0.size) (EW9 : Exa Z h0 a1 "dev/typewright/dart/DartWriter") (GT : Fld Z h0 a1 "dev/typewright/dart/DartWriter" "text" "Ljava/lang/StringBuilder;" .null) (GP : Fld Z h0 a1 "dev/typewright/dart/DartWriter" "blankLinePending" "Z" (.int (0 : Int32))) (cs : Int32) (S_cs : Sta Z h0 "java/lang/String" "COMPACT_STRINGS" "Z" (.int cs)) (hcs : ¬ cs = 0) :
    Ct l Z (⟨"dev/typewright/dart/DartWriter", "<init>", "()V"⟩ : MethodName) prog_57_method_1_code 1 none ({ frames := 8, cells := 4, slots := 232, locals := 118 } : Room) EL1 n0 true [] #[(.ref a1)] h0 [] (fun v h N => v = none ∧ ∃ sb b, N = [b] ∧ h0.size ≤ sb ∧ h0.size ≤ b ∧ Keep h0 h [a1] ∧ Fld Z h a1 "dev/typewright/dart/DartWriter" "text" "Ljava/lang/StringBuilder;" (.ref sb) ∧ Fld Z h a1 "dev/typewright/dart/DartWriter" "blankLinePending" "Z" (.int (0 : Int32)) ∧ Sb Z h sb b 56 (own_hdr ++ [10])) := by
  refine Ct.of (a0 := a0) (plainFor_of_name pn_dev_typewright_dart_DartWriter) (own_ew hw) (L0 := #[.val (.ref a1)]) (fun _ => rfl) ?_
  have l0_EW9 := nlt EW9.lt
  refine Go.aloadN (pc' := 1) dp57m1_0 rfl rfl rfl ?_
  refine Go.initO (pc' := 4) (a1 := a0) dp57m1_1 (wd hw 21 rfl) (wd hw 22 rfl) (wd hw 23 rfl) rfl (by decide) 0 rfl (by decide) rfl ?_
  refine Go.aloadN (pc' := 5) dp57m1_4 rfl rfl rfl ?_
  refine Go.newO (pc' := 8) (a1 := a0) dp57m1_5 (wd hw 24 rfl) (wd hw 25 rfl) (wd hw 26 rfl) (by decide) (by decide) rfl (fun a_1 h_2 ha_4 E_3 X_5 Df_6 => ?_)
  have szh_2 := nle E_3.1
  have lta_1 := nlt X_5.lt
  have qa_1 := neq ha_4
  have F_7 : Fld Z h_2 a_1 "java/lang/AbstractStringBuilder" "coder" "B" (.int (0 : Int32)) := Df_6 (Or.inl (wd hw 54 rfl)) (ty := .byte) (by decide)
  have F_8 : Fld Z h_2 a_1 "java/lang/AbstractStringBuilder" "value" "[B" (.null) := Df_6 (Or.inl (wd hw 56 rfl)) (ty := (.array .byte)) (by decide)
  have F_9 : Fld Z h_2 a_1 "java/lang/AbstractStringBuilder" "count" "I" (.int (0 : Int32)) := Df_6 (Or.inl (wd hw 72 rfl)) (ty := .int) (by decide)
  refine Go.dup (pc' := 9) dp57m1_8 rfl rfl ?_
  refine Go.ldcR (pc' := 11) (a1 := a0) 160 (vs := [.int 47, .int 47, .int 32, .int 71, .int 101, .int 110, .int 101, .int 114, .int 97, .int 116, .int 101, .int 100, .int 32, .int 98, .int 121, .int 32, .int 84, .int 121, .int 112, .int 101, .int 119, .int 114, .int 105, .int 103, .int 104, .int 116, .int 46, .int 32, .int 68, .int 111, .int 32, .int 110, .int 111, .int 116, .int 32, .int 101, .int 100, .int 105, .int 116, .int 46]) (z := 40) dp57m1_9 rfl (wd hw 27 rfl) (own_ws hw) (by decide) (by decide) (by decide) (by decide) rfl (own_ew hw) (List.mem_of_getElem? (i := 0) rfl) ⟨by decide, by decide⟩ (by decide) (by decide) (fun a_10 h_11 b_12 k_13 E_14 X_15 F_16 F_17 A_18 ne_19 => ?_)
  have szh_11 := nle E_14.1
  have lta_10 := nlt X_15.lt
  have ltb_12 := nlt A_18.lt
  have nx_20 := nne2 (ne_19 a_1 (by simp))
  have T_21 : Str Z h_11 a_10 b_12 [47, 47, 32, 71, 101, 110, 101, 114, 97, 116, 101, 100, 32, 98, 121, 32, 84, 121, 112, 101, 119, 114, 105, 103, 104, 116, 46, 32, 68, 111, 32, 110, 111, 116, 32, 101, 100, 105, 116, 46] := ⟨X_15, F_16, F_17, k_13, A_18⟩
  have F_27 := (Exa.ext E_14 X_5)
  have F_28 := (Fld.ext E_14 F_9)
  have F_29 := (Fld.ext E_14 F_7)
  have F_30 := (Fld.ext E_14 F_8)
  have F_31 := (Sta.ext E_14 (Sta.ext E_3 S_cs))
  refine Go.callN (a1 := a0) (pc' := 14) (argsL := [(.ref a_10)]) (rest := [(.ref a_1), (.ref a1)]) (ct_is0 l Z a0 hw n0 h_11 a_1 a_10 b_12 [47, 47, 32, 71, 101, 110, 101, 114, 97, 116, 101, 100, 32, 98, 121, 32, 84, 121, 112, 101, 119, 114, 105, 103, 104, 116, 46, 32, 68, 111, 32, 110, 111, 116, 32, 101, 100, 105, 116, 46] (by omega) T_21 (by decide) (by omega) F_27 F_28 F_29 F_30 cs F_31 hcs) dp57m1_11 rfl (wd hw 28 rfl) (wd hw 29 rfl) (wd hw 26 rfl) (wd hw 30 rfl) (by decide) (lenOf pd_9 rfl) rfl 2 rfl rfl (by decide) (by decide) (by decide) (by decide) sl0 rfl (fun v_32 h_33 N_34 hQ_35 hle_36 => ?_)
  obtain ⟨rfl, b_22, rfl, g_23, K_24, F_25⟩ := hQ_35
  have szh_33 := nle K_24.1
  have ltb_22 := nlt F_25.ltb
  have geb_22 := nle g_23
  have F_26 : Sb Z h_33 a_1 b_22 56 [47, 47, 32, 71, 101, 110, 101, 114, 97, 116, 101, 100, 32, 98, 121, 32, 84, 121, 112, 101, 119, 114, 105, 103, 104, 116, 46, 32, 68, 111, 32, 110, 111, 116, 32, 101, 100, 105, 116, 46] := F_25
  refine Go.rs [(.ref a_1), (.ref a1)] rfl ?_
  refine Go.bipush (pc' := 16) 10 dp57m1_14 rfl rfl ?_
  have F_40 := (sta_keep F_31 K_24 (nsS (Exa.nostat F_27) ns0))
  have F_46 := (Exa.keep F_27 K_24)
  refine Go.callV (a1 := a0) (pc' := 19) (argsL := [(.int (10 : Int32))]) (rest := [(.ref a1)]) (ct_appC l Z a0 hw n0 h_33 a_1 b_22 [47, 47, 32, 71, 101, 110, 101, 114, 97, 116, 101, 100, 32, 98, 121, 32, 84, 121, 112, 101, 119, 114, 105, 103, 104, 116, 46, 32, 68, 111, 32, 110, 111, 116, 32, 101, 100, 105, 116, 46] 56 10 (by decide) F_26 (by decide) (by decide) (by omega) (by omega) cs F_40 hcs) dp57m1_16 (wd hw 98 rfl) (wd hw 99 rfl) (wd hw 101 rfl) (wd hw 101 rfl) (wd hw 100 rfl) (wd hw 26 rfl) (wd hw 102 rfl) F_46 (by decide) (lenOf pd_27 rfl) rfl 1 rfl rfl (by decide) (by decide) (by decide) (by decide) (sl1 (by simp)) rfl (fun v_41 h_42 N_43 hQ_44 hle_45 => ?_)
  obtain ⟨rfl, K_37, F_38⟩ := hQ_44
  have szh_42 := nle K_37.1
  have F_39 : Sb Z h_42 a_1 b_22 56 [47, 47, 32, 71, 101, 110, 101, 114, 97, 116, 101, 100, 32, 98, 121, 32, 84, 121, 112, 101, 119, 114, 105, 103, 104, 116, 46, 32, 68, 111, 32, 110, 111, 116, 32, 101, 100, 105, 116, 46, 10] := by have q := F_38; rw [by8_10] at q; exact q
  refine Go.rs [(.ref a_1), (.ref a1)] rfl ?_
  have F_47 := (Fld.keep (Fld.keep (Fld.ext E_14 (Fld.ext E_3 GT)) K_24 (ninS (nne (by omega)) nin0)) K_37 (ninS (nne (by omega)) (ninS (nne (by omega)) nin0)))
  have F_48 := (Exa.keep (Exa.keep (Exa.ext E_14 (Exa.ext E_3 EW9)) K_24) K_37)
  refine Go.putF (pc' := 22) (host := "") (a1 := a0) dp57m1_19 (Or.inl (wd hw 116 rfl)) Via.refl F_47 F_48 (Or.inr ⟨(wd hw 117 rfl), rfl, rfl⟩) (wd hw 16 rfl) (ty := (.object "java/lang/StringBuilder")) (by decide) rfl rfl (Sf.exa F_48 (by decide) (by decide)) (by omega) rfl (fun h_49 W_50 => ?_)
  have szh_49 : h_49.size = h_42.size := Wr.size W_50
  have F_51 : Fld Z h_49 a1 "dev/typewright/dart/DartWriter" "text" "Ljava/lang/StringBuilder;" (.ref a_1) := Fld.same W_50 F_47
  have F_52 : Fld Z h_49 a1 "dev/typewright/dart/DartWriter" "blankLinePending" "Z" (.int (0 : Int32)) := (Fld.other W_50 (Fld.keep (Fld.keep (Fld.ext E_14 (Fld.ext E_3 GP)) K_24 (ninS (nne (by omega)) nin0)) K_37 (ninS (nne (by omega)) (ninS (nne (by omega)) nin0))) (Or.inr (slot_ne (Or.inl (wd hw 124 rfl)) (Or.inr (wd hw 117 rfl)) (by decide) (t := .boolean) (t' := (.object "java/lang/StringBuilder")) (by decide) (by decide))))
  have F_53 := (Sb.keep F_39 (Keep.of_wr W_50) (ninS (nne (by omega)) nin0) (ninS (nne (by omega)) nin0))
  refine Go.ret0 rfl [b_22] (by intro x hx; cases List.mem_singleton.mp hx; simp) dp57m1_22 (by decide) (by decide) ?_
  exact ⟨rfl, a_1, b_22, rfl, by omega, by omega, (Keep.wr (Keep.trans (Keep.trans (Keep.ext (Keep.ext (Keep.refl _ [a1]) E_3) E_14) K_24 (allS (Or.inr (by omega)) all0)) K_37 (allS (Or.inr (by omega)) (allS (Or.inr (by omega)) all0))) W_50 (Or.inl (by simp))), F_51, F_52, F_53⟩
theorem dp57m3_0 : decode prog_57_method_3_code 0 = .ok (.aload_n 0, 1) := by decide +kernel
theorem dp57m3_1 : decode prog_57_method_3_code 1 = .ok (.iconst 1, 1) := by decide +kernel
theorem dp57m3_2 : decode prog_57_method_3_code 2 = .ok (.putfield 24, 3) := by decide +kernel
theorem dp57m3_5 : decode prog_57_method_3_code 5 = .ok (.aload_n 0, 1) := by decide +kernel
theorem dp57m3_6 : decode prog_57_method_3_code 6 = .ok (.areturn, 1) := by decide +kernel
theorem ct_bl (l : Launch) (Z : State) (a0 : Array Value) (hw : ∀ d ∈ tables_1, d.before a0 Z = true) (n0 : Nat) (h0 : Heap) (a1 sb : Addr) (z : Int32) (ha : n0 ≤ a1) (EW9 : Exa Z h0 a1 "dev/typewright/dart/DartWriter") (GT : Fld Z h0 a1 "dev/typewright/dart/DartWriter" "text" "Ljava/lang/StringBuilder;" (.ref sb)) (GP : Fld Z h0 a1 "dev/typewright/dart/DartWriter" "blankLinePending" "Z" (.int z)) :
    Ct l Z (⟨"dev/typewright/dart/DartWriter", "blankLine", "()Ldev/typewright/dart/DartWriter;"⟩ : MethodName) prog_57_method_3_code 1 (some (.object "dev/typewright/dart/DartWriter")) ({ frames := 0, cells := 0, slots := 0, locals := 0 } : Room) EL1 n0 true [] #[(.ref a1)] h0 [] (fun v h N => v = some (.ref a1) ∧ Keep h0 h [a1] ∧ Fld Z h a1 "dev/typewright/dart/DartWriter" "text" "Ljava/lang/StringBuilder;" (.ref sb) ∧ Fld Z h a1 "dev/typewright/dart/DartWriter" "blankLinePending" "Z" (.int (1 : Int32))) := by
  refine Ct.of (a0 := a0) (plainFor_of_name pn_dev_typewright_dart_DartWriter) (own_ew hw) (L0 := #[.val (.ref a1)]) (fun _ => rfl) ?_
  have l0_EW9 := nlt EW9.lt
  refine Go.aloadN (pc' := 1) dp57m3_0 rfl rfl rfl ?_
  refine Go.iconst (pc' := 2) 1 dp57m3_1 rfl rfl ?_
  refine Go.putF (pc' := 5) (host := "") (a1 := a0) dp57m3_2 (Or.inl (wd hw 123 rfl)) Via.refl GP EW9 (Or.inl (wd hw 124 rfl)) (wd hw 16 rfl) (ty := .boolean) (by decide) rfl rfl (Sf.exa EW9 (by decide) (by decide)) (by omega) rfl (fun h_1 W_2 => ?_)
  have szh_1 : h_1.size = h0.size := Wr.size W_2
  have F_3 : Fld Z h_1 a1 "dev/typewright/dart/DartWriter" "blankLinePending" "Z" (.int (1 : Int32)) := Fld.same W_2 GP
  refine Go.aloadN (pc' := 6) dp57m3_5 rfl rfl rfl ?_
  have F_4 : Fld Z h_1 a1 "dev/typewright/dart/DartWriter" "text" "Ljava/lang/StringBuilder;" (.ref sb) := (Fld.other W_2 GT (Or.inr (slot_ne (Or.inr (wd hw 117 rfl)) (Or.inl (wd hw 124 rfl)) (by decide) (t := (.object "java/lang/StringBuilder")) (t' := .boolean) (by decide) (by decide))))
  refine Go.retA rfl rfl rfl [] sl0 dp57m3_6 (by decide) (by decide) ?_
  exact ⟨rfl, (Keep.wr (Keep.refl _ [a1]) W_2 (Or.inl (by simp))), F_4, F_3⟩
theorem dp57m2_0 : decode prog_57_method_2_code 0 = .ok (.aload_n 0, 1) := by decide +kernel
theorem dp57m2_1 : decode prog_57_method_2_code 1 = .ok (.getfield 24, 3) := by decide +kernel
theorem dp57m2_4 : decode prog_57_method_2_code 4 = .ok (.ifCond .eq 18, 3) := by decide +kernel
theorem dp57m2_22 : decode prog_57_method_2_code 22 = .ok (.aload_n 0, 1) := by decide +kernel
theorem dp57m2_23 : decode prog_57_method_2_code 23 = .ok (.getfield 20, 3) := by decide +kernel
theorem dp57m2_26 : decode prog_57_method_2_code 26 = .ok (.aload_n 1, 1) := by decide +kernel
theorem dp57m2_27 : decode prog_57_method_2_code 27 = .ok (.invokevirtual 28, 3) := by decide +kernel
theorem dp57m2_30 : decode prog_57_method_2_code 30 = .ok (.bipush 10, 2) := by decide +kernel
theorem dp57m2_32 : decode prog_57_method_2_code 32 = .ok (.invokevirtual 16, 3) := by decide +kernel
theorem dp57m2_35 : decode prog_57_method_2_code 35 = .ok (.pop, 1) := by decide +kernel
theorem dp57m2_36 : decode prog_57_method_2_code 36 = .ok (.aload_n 0, 1) := by decide +kernel
theorem dp57m2_37 : decode prog_57_method_2_code 37 = .ok (.areturn, 1) := by decide +kernel
theorem dp57m2_7 : decode prog_57_method_2_code 7 = .ok (.aload_n 0, 1) := by decide +kernel
theorem dp57m2_8 : decode prog_57_method_2_code 8 = .ok (.getfield 20, 3) := by decide +kernel
theorem dp57m2_11 : decode prog_57_method_2_code 11 = .ok (.bipush 10, 2) := by decide +kernel
theorem dp57m2_13 : decode prog_57_method_2_code 13 = .ok (.invokevirtual 16, 3) := by decide +kernel
theorem dp57m2_16 : decode prog_57_method_2_code 16 = .ok (.pop, 1) := by decide +kernel
theorem dp57m2_17 : decode prog_57_method_2_code 17 = .ok (.aload_n 0, 1) := by decide +kernel
theorem dp57m2_18 : decode prog_57_method_2_code 18 = .ok (.iconst 0, 1) := by decide +kernel
theorem dp57m2_19 : decode prog_57_method_2_code 19 = .ok (.putfield 24, 3) := by decide +kernel
theorem ct_li (l : Launch) (Z : State) (a0 : Array Value) (hw : ∀ d ∈ tables_1, d.before a0 Z = true) (n0 : Nat) (h0 : Heap) (a1 sb b s b1 : Addr) (z : Int32) (hz : z = 0 ∨ z = 1) (ll m : List Int32) (HB : Sb Z h0 sb b 56 ll) (HS : Str Z h0 s b1 m) (hl : ll.length + m.length + 2 ≤ 56) (ha : n0 ≤ a1) (hsb : n0 ≤ sb) (hb : n0 ≤ b) (hb1 : b1 ≠ b) (EW9 : Exa Z h0 a1 "dev/typewright/dart/DartWriter") (GT : Fld Z h0 a1 "dev/typewright/dart/DartWriter" "text" "Ljava/lang/StringBuilder;" (.ref sb)) (GP : Fld Z h0 a1 "dev/typewright/dart/DartWriter" "blankLinePending" "Z" (.int z)) (cs : Int32) (S_cs : Sta Z h0 "java/lang/String" "COMPACT_STRINGS" "Z" (.int cs)) (hcs : ¬ cs = 0) :
    Ct l Z (⟨"dev/typewright/dart/DartWriter", "line", "(Ljava/lang/String;)Ldev/typewright/dart/DartWriter;"⟩ : MethodName) prog_57_method_2_code 2 (some (.object "dev/typewright/dart/DartWriter")) ({ frames := 5, cells := 0, slots := 0, locals := 74 } : Room) EL1 n0 true [] #[(.ref a1), (.ref s)] h0 [b] (fun v h N => v = some (.ref a1) ∧ Keep h0 h [a1, sb, b] ∧ Fld Z h a1 "dev/typewright/dart/DartWriter" "text" "Ljava/lang/StringBuilder;" (.ref sb) ∧ Fld Z h a1 "dev/typewright/dart/DartWriter" "blankLinePending" "Z" (.int (0 : Int32)) ∧ Sb Z h sb b 56 (ll ++ nl z ++ m ++ [10])) := by
  refine Ct.of (a0 := a0) (plainFor_of_name pn_dev_typewright_dart_DartWriter) (own_ew hw) (L0 := #[.val (.ref a1), .val (.ref s)]) (fun _ => rfl) ?_
  have EB9 := HB.1
  obtain ⟨_, _, _, _, k9, vr9, AB9, _⟩ := id HB
  have Es9 := HS.1
  obtain ⟨_, _, _, k8, AS9⟩ := id HS
  have n1 := nne (Exa.ne EW9 EB9 (by decide))
  have n2 := nne (Exa.neArv (a0 := a0) EW9 AB9 (wd hw 16 rfl))
  have n3 := nne (Exa.neArv (a0 := a0) EB9 AB9 (wd hw 25 rfl))
  have n4 := nne (Exa.ne EW9 Es9 (by decide))
  have n5 := nne (Exa.ne EB9 Es9 (by decide))
  have n6 := nne (Exa.neArv (a0 := a0) Es9 AB9 (wd hw 9 rfl))
  have n7 := nne (Exa.neArv (a0 := a0) EW9 AS9 (wd hw 16 rfl))
  have n8 := nne (Exa.neArv (a0 := a0) EB9 AS9 (wd hw 25 rfl))
  have n9 := nne hb1
  have lt_HB := nlt HB.lt
  have ltb_HB := nlt HB.ltb
  have lt_HS := nlt HS.lt
  have ltb_HS := nlt HS.ltb
  have l0_EW9 := nlt EW9.lt
  have l0_EB9 := nlt EB9.lt
  rcases hz with rfl | rfl
  · refine Go.aloadN (pc' := 1) dp57m2_0 rfl rfl rfl ?_
    refine Go.getF (pc' := 4) (host := "") (a1 := a0) dp57m2_1 (Or.inl (wd hw 123 rfl)) Via.refl GP rfl ?_
    refine Go.ifT (pc' := 22) dp57m2_4 (show (0 : Int32) = (0 : Int32) by decide) (by decide) (by decide) ?_
    refine Go.aloadN (pc' := 23) dp57m2_22 rfl rfl rfl ?_
    refine Go.getF (pc' := 26) (host := "") (a1 := a0) dp57m2_23 (Or.inl (wd hw 116 rfl)) Via.refl GT rfl ?_
    refine Go.aloadN (pc' := 27) dp57m2_26 rfl rfl rfl ?_
    refine Go.callV (a1 := a0) (pc' := 30) (argsL := [(.ref s)]) (rest := []) (ct_app l Z a0 hw n0 h0 sb s b1 b ll m 56 HB HS (by (try simp only [List.length_append, List.length_cons, List.length_nil]); omega) (by decide) (nne (by omega)) (by omega) (by omega) cs S_cs hcs) dp57m2_27 (wd hw 125 rfl) (wd hw 64 rfl) (wd hw 66 rfl) (wd hw 66 rfl) (wd hw 65 rfl) (wd hw 26 rfl) (wd hw 67 rfl) EB9 (by decide) (lenOf pd_22 rfl) rfl 0 rfl rfl (by decide) (by decide) (by decide) (by decide) (sl1 (by simp)) rfl (fun v_4 h_5 N_6 hQ_7 hle_8 => ?_)
    obtain ⟨rfl, K_1, F_2⟩ := hQ_7
    have szh_5 := nle K_1.1
    have F_3 : Sb Z h_5 sb b 56 (ll ++ m) := F_2
    refine Go.rs [(.ref sb)] rfl ?_
    refine Go.bipush (pc' := 32) 10 dp57m2_30 rfl rfl ?_
    have F_12 := (sta_keep S_cs K_1 (nsS (Exa.nostat EB9) (nsS (Sb.nsB HB) ns0)))
    have F_18 := (Exa.keep EB9 K_1)
    refine Go.callV (a1 := a0) (pc' := 35) (argsL := [(.int (10 : Int32))]) (rest := []) (ct_appC l Z a0 hw n0 h_5 sb b (ll ++ m) 56 10 (by decide) F_3 (by (try simp only [List.length_append, List.length_cons, List.length_nil]); omega) (by decide) (by omega) (by omega) cs F_12 hcs) dp57m2_32 (wd hw 98 rfl) (wd hw 99 rfl) (wd hw 101 rfl) (wd hw 101 rfl) (wd hw 100 rfl) (wd hw 26 rfl) (wd hw 102 rfl) F_18 (by decide) (lenOf pd_27 rfl) rfl 0 rfl rfl (by decide) (by decide) (by decide) (by decide) (sl1 (by simp)) rfl (fun v_13 h_14 N_15 hQ_16 hle_17 => ?_)
    obtain ⟨rfl, K_9, F_10⟩ := hQ_16
    have szh_14 := nle K_9.1
    have F_11 : Sb Z h_14 sb b 56 ((ll ++ m) ++ [10]) := by have q := F_10; rw [by8_10] at q; exact q
    refine Go.rs [(.ref sb)] rfl ?_
    refine Go.pop (pc' := 36) dp57m2_35 rfl rfl ?_
    refine Go.aloadN (pc' := 37) dp57m2_36 rfl rfl rfl ?_
    have F_19 := (Fld.keep (Fld.keep GT K_1 (ninS (nne (by omega)) (ninS (nne (by omega)) nin0))) K_9 (ninS (nne (by omega)) (ninS (nne (by omega)) nin0)))
    have F_20 := (Fld.keep (Fld.keep GP K_1 (ninS (nne (by omega)) (ninS (nne (by omega)) nin0))) K_9 (ninS (nne (by omega)) (ninS (nne (by omega)) nin0)))
    refine Go.retA rfl rfl rfl [] sl0 dp57m2_37 (by decide) (by decide) ?_
    exact ⟨rfl, (Keep.trans (Keep.trans (Keep.refl _ [a1, sb, b]) K_1 (allS (Or.inl (by simp)) (allS (Or.inl (by simp)) all0))) K_9 (allS (Or.inl (by simp)) (allS (Or.inl (by simp)) all0))), F_19, F_20, by rw [own_nl0]; exact (by rw [List.append_nil]; exact F_11)⟩
  · refine Go.aloadN (pc' := 1) dp57m2_0 rfl rfl rfl ?_
    refine Go.getF (pc' := 4) (host := "") (a1 := a0) dp57m2_1 (Or.inl (wd hw 123 rfl)) Via.refl GP rfl ?_
    refine Go.ifF (pc' := 7) dp57m2_4 (show ¬ ((1 : Int32) = (0 : Int32)) by decide) rfl ?_
    refine Go.aloadN (pc' := 8) dp57m2_7 rfl rfl rfl ?_
    refine Go.getF (pc' := 11) (host := "") (a1 := a0) dp57m2_8 (Or.inl (wd hw 116 rfl)) Via.refl GT rfl ?_
    refine Go.bipush (pc' := 13) 10 dp57m2_11 rfl rfl ?_
    refine Go.callV (a1 := a0) (pc' := 16) (argsL := [(.int (10 : Int32))]) (rest := []) (ct_appC l Z a0 hw n0 h0 sb b ll 56 10 (by decide) HB (by (try simp only [List.length_append, List.length_cons, List.length_nil]); omega) (by decide) (by omega) (by omega) cs S_cs hcs) dp57m2_13 (wd hw 98 rfl) (wd hw 99 rfl) (wd hw 101 rfl) (wd hw 101 rfl) (wd hw 100 rfl) (wd hw 26 rfl) (wd hw 102 rfl) EB9 (by decide) (lenOf pd_27 rfl) rfl 0 rfl rfl (by decide) (by decide) (by decide) (by decide) (sl1 (by simp)) rfl (fun v_24 h_25 N_26 hQ_27 hle_28 => ?_)
    obtain ⟨rfl, K_21, F_22⟩ := hQ_27
    have szh_25 := nle K_21.1
    have F_23 : Sb Z h_25 sb b 56 (ll ++ [10]) := by have q := F_22; rw [by8_10] at q; exact q
    refine Go.rs [(.ref sb)] rfl ?_
    refine Go.pop (pc' := 17) dp57m2_16 rfl rfl ?_
    refine Go.aloadN (pc' := 18) dp57m2_17 rfl rfl rfl ?_
    refine Go.iconst (pc' := 19) 0 dp57m2_18 rfl rfl ?_
    have F_29 := (Fld.keep GP K_21 (ninS (nne (by omega)) (ninS (nne (by omega)) nin0)))
    have F_30 := (Exa.keep EW9 K_21)
    refine Go.putF (pc' := 22) (host := "") (a1 := a0) dp57m2_19 (Or.inl (wd hw 123 rfl)) Via.refl F_29 F_30 (Or.inl (wd hw 124 rfl)) (wd hw 16 rfl) (ty := .boolean) (by decide) rfl rfl (Sf.exa F_30 (by decide) (by decide)) (by omega) rfl (fun h_31 W_32 => ?_)
    have szh_31 : h_31.size = h_25.size := Wr.size W_32
    have F_33 : Fld Z h_31 a1 "dev/typewright/dart/DartWriter" "blankLinePending" "Z" (.int (0 : Int32)) := Fld.same W_32 F_29
    refine Go.aloadN (pc' := 23) dp57m2_22 rfl rfl rfl ?_
    have F_34 : Fld Z h_31 a1 "dev/typewright/dart/DartWriter" "text" "Ljava/lang/StringBuilder;" (.ref sb) := (Fld.other W_32 (Fld.keep GT K_21 (ninS (nne (by omega)) (ninS (nne (by omega)) nin0))) (Or.inr (slot_ne (Or.inr (wd hw 117 rfl)) (Or.inl (wd hw 124 rfl)) (by decide) (t := (.object "java/lang/StringBuilder")) (t' := .boolean) (by decide) (by decide))))
    refine Go.getF (pc' := 26) (host := "") (a1 := a0) dp57m2_23 (Or.inl (wd hw 116 rfl)) Via.refl F_34 rfl ?_
    refine Go.aloadN (pc' := 27) dp57m2_26 rfl rfl rfl ?_
    have F_38 := (Sb.keep F_23 (Keep.of_wr W_32) (ninS (nne (by omega)) nin0) (ninS (nne (by omega)) nin0))
    have F_39 := (Str.keep (Str.keep HS K_21 (ninS (nne (by omega)) (ninS (nne (by omega)) nin0)) (ninS (nne (by omega)) (ninS (nne (by omega)) nin0))) (Keep.of_wr W_32) (ninS (nne (by omega)) nin0) (ninS (nne (by omega)) nin0))
    have F_40 := (Sta.wr W_32 (sta_keep S_cs K_21 (nsS (Exa.nostat EB9) (nsS (Sb.nsB HB) ns0))))
    have F_46 := (Exa.wr W_32 (Exa.keep EB9 K_21))
    refine Go.callV (a1 := a0) (pc' := 30) (argsL := [(.ref s)]) (rest := []) (ct_app l Z a0 hw n0 h_31 sb s b1 b (ll ++ [10]) m 56 F_38 F_39 (by (try simp only [List.length_append, List.length_cons, List.length_nil]); omega) (by decide) (nne (by omega)) (by omega) (by omega) cs F_40 hcs) dp57m2_27 (wd hw 125 rfl) (wd hw 64 rfl) (wd hw 66 rfl) (wd hw 66 rfl) (wd hw 65 rfl) (wd hw 26 rfl) (wd hw 67 rfl) F_46 (by decide) (lenOf pd_22 rfl) rfl 0 rfl rfl (by decide) (by decide) (by decide) (by decide) (sl1 (by simp)) rfl (fun v_41 h_42 N_43 hQ_44 hle_45 => ?_)
    obtain ⟨rfl, K_35, F_36⟩ := hQ_44
    have szh_42 := nle K_35.1
    have F_37 : Sb Z h_42 sb b 56 ((ll ++ [10]) ++ m) := F_36
    refine Go.rs [(.ref sb)] rfl ?_
    refine Go.bipush (pc' := 32) 10 dp57m2_30 rfl rfl ?_
    have F_50 := (sta_keep F_40 K_35 (nsS (Exa.nostat F_46) (nsS (Sb.nsB F_38) ns0)))
    have F_56 := (Exa.keep F_46 K_35)
    refine Go.callV (a1 := a0) (pc' := 35) (argsL := [(.int (10 : Int32))]) (rest := []) (ct_appC l Z a0 hw n0 h_42 sb b ((ll ++ [10]) ++ m) 56 10 (by decide) F_37 (by (try simp only [List.length_append, List.length_cons, List.length_nil]); omega) (by decide) (by omega) (by omega) cs F_50 hcs) dp57m2_32 (wd hw 98 rfl) (wd hw 99 rfl) (wd hw 101 rfl) (wd hw 101 rfl) (wd hw 100 rfl) (wd hw 26 rfl) (wd hw 102 rfl) F_56 (by decide) (lenOf pd_27 rfl) rfl 0 rfl rfl (by decide) (by decide) (by decide) (by decide) (sl1 (by simp)) rfl (fun v_51 h_52 N_53 hQ_54 hle_55 => ?_)
    obtain ⟨rfl, K_47, F_48⟩ := hQ_54
    have szh_52 := nle K_47.1
    have F_49 : Sb Z h_52 sb b 56 (((ll ++ [10]) ++ m) ++ [10]) := by have q := F_48; rw [by8_10] at q; exact q
    refine Go.rs [(.ref sb)] rfl ?_
    refine Go.pop (pc' := 36) dp57m2_35 rfl rfl ?_
    refine Go.aloadN (pc' := 37) dp57m2_36 rfl rfl rfl ?_
    have F_57 := (Fld.keep (Fld.keep F_34 K_35 (ninS (nne (by omega)) (ninS (nne (by omega)) nin0))) K_47 (ninS (nne (by omega)) (ninS (nne (by omega)) nin0)))
    have F_58 := (Fld.keep (Fld.keep F_33 K_35 (ninS (nne (by omega)) (ninS (nne (by omega)) nin0))) K_47 (ninS (nne (by omega)) (ninS (nne (by omega)) nin0)))
    refine Go.retA rfl rfl rfl [] sl0 dp57m2_37 (by decide) (by decide) ?_
    exact ⟨rfl, (Keep.trans (Keep.trans (Keep.wr (Keep.trans (Keep.refl _ [a1, sb, b]) K_21 (allS (Or.inl (by simp)) (allS (Or.inl (by simp)) all0))) W_32 (Or.inl (by simp))) K_35 (allS (Or.inl (by simp)) (allS (Or.inl (by simp)) all0))) K_47 (allS (Or.inl (by simp)) (allS (Or.inl (by simp)) all0))), F_57, F_58, by rw [own_nl1]; exact F_49⟩
theorem dp57m4_0 : decode prog_57_method_4_code 0 = .ok (.aload_n 0, 1) := by decide +kernel
theorem dp57m4_1 : decode prog_57_method_4_code 1 = .ok (.getfield 20, 3) := by decide +kernel
theorem pd_28 : parseMethodDescriptor "()Ljava/lang/String;" = some ⟨[], (some (.object "java/lang/String"))⟩ := by decide +kernel
theorem dp57m4_4 : decode prog_57_method_4_code 4 = .ok (.invokevirtual 31, 3) := by decide +kernel
theorem dp57m4_7 : decode prog_57_method_4_code 7 = .ok (.areturn, 1) := by decide +kernel
theorem ct_wt (l : Launch) (Z : State) (a0 : Array Value) (hw : ∀ d ∈ tables_1, d.before a0 Z = true) (n0 : Nat) (h0 : Heap) (a1 sb b : Addr) (ll : List Int32) (HB : Sb Z h0 sb b 56 ll) (hl : ll.length < 56) (hn0 : n0 ≤ h0.size) (GT : Fld Z h0 a1 "dev/typewright/dart/DartWriter" "text" "Ljava/lang/StringBuilder;" (.ref sb)) (cs : Int32) (S_cs : Sta Z h0 "java/lang/String" "COMPACT_STRINGS" "Z" (.int cs)) (hcs : ¬ cs = 0) :
    Ct l Z (⟨"dev/typewright/dart/DartWriter", "toString", "()Ljava/lang/String;"⟩ : MethodName) prog_57_method_4_code 1 (some (.object "java/lang/String")) ({ frames := 6, cells := 2, slots := 132, locals := 91 } : Room) EL1 n0 true [] #[(.ref a1)] h0 [] (fun v h N => ∃ s b, v = some (.ref s) ∧ h0.size ≤ s ∧ h0.size ≤ b ∧ Keep h0 h [] ∧ Str Z h s b ll) := by
  refine Ct.of (a0 := a0) (plainFor_of_name pn_dev_typewright_dart_DartWriter) (own_ew hw) (L0 := #[.val (.ref a1)]) (fun _ => rfl) ?_
  have EB9 := HB.1
  have l0_EB9 := nlt EB9.lt
  refine Go.aloadN (pc' := 1) dp57m4_0 rfl rfl rfl ?_
  refine Go.getF (pc' := 4) (host := "") (a1 := a0) dp57m4_1 (Or.inl (wd hw 116 rfl)) Via.refl GT rfl ?_
  refine Go.callV (a1 := a0) (pc' := 7) (argsL := []) (rest := []) (ct_ts l Z a0 hw n0 h0 sb b ll 56 HB (by (try simp only [List.length_append, List.length_cons, List.length_nil]); omega) (by decide) (by (try simp only [List.length_append, List.length_cons, List.length_nil]); omega) (by omega) cs S_cs hcs) dp57m4_4 (wd hw 131 rfl) (wd hw 132 rfl) (wd hw 134 rfl) (wd hw 134 rfl) (wd hw 133 rfl) (wd hw 26 rfl) (wd hw 135 rfl) EB9 (by decide) (lenOf pd_28 rfl) rfl 0 rfl rfl (by decide) (by decide) (by decide) (by decide) sl0 rfl (fun v_7 h_8 N_9 hQ_10 hle_11 => ?_)
  obtain ⟨s_1, b_2, rfl, g_3, g_4, K_5, F_6⟩ := hQ_10
  have szh_8 := nle K_5.1
  have lts_1 := nlt F_6.lt
  have ltb_2 := nlt F_6.ltb
  have ges_1 := nle g_3
  have geb_2 := nle g_4
  refine Go.rs [(.ref s_1)] rfl ?_
  refine Go.retA rfl rfl rfl [] sl0 dp57m4_7 (by decide) (by decide) ?_
  exact ⟨s_1, b_2, rfl, by omega, by omega, (Keep.trans (Keep.refl _ []) K_5 all0), F_6⟩
theorem dm3_0 : decode method_3_code 0 = .ok (.iload_n 1, 1) := by decide +kernel
theorem dm3_1 : decode method_3_code 1 = .ok (.ifCond .lt 17, 3) := by decide +kernel
theorem dm3_4 : decode method_3_code 4 = .ok (.iload_n 1, 1) := by decide +kernel
theorem dm3_5 : decode method_3_code 5 = .ok (.aload_n 0, 1) := by decide +kernel
theorem dm3_6 : decode method_3_code 6 = .ok (.invokevirtual 7, 3) := by decide +kernel
theorem dm3_9 : decode method_3_code 9 = .ok (.if_icmp .ge 9, 3) := by decide +kernel
theorem dm3_18 : decode method_3_code 18 = .ok (.iconst 0, 1) := by decide +kernel
theorem dm3_19 : decode method_3_code 19 = .ok (.ireturn, 1) := by decide +kernel
theorem dm3_12 : decode method_3_code 12 = .ok (.aload_n 0, 1) := by decide +kernel
theorem dm3_13 : decode method_3_code 13 = .ok (.iload_n 1, 1) := by decide +kernel
theorem pd_29 : parseMethodDescriptor "(I)C" = some ⟨[.int], (some .char)⟩ := by decide +kernel
theorem dm3_14 : decode method_3_code 14 = .ok (.invokevirtual 13, 3) := by decide +kernel
theorem dm3_17 : decode method_3_code 17 = .ok (.ireturn, 1) := by decide +kernel
theorem ct_at (l : Launch) (Z : State) (a0 : Array Value) (hw : ∀ d ∈ tables_1, d.before a0 Z = true) (n0 : Nat) (h0 : Heap) (a1 b : Addr) (ll : List Int32) (i : Nat) (H1 : Str Z h0 a1 b ll) (hi : i < 2 ^ 16) (hl : ll.length < 2 ^ 16) (sf : Value) (hsf : sf.isRef = true) (S_sf : Sta Z h0 "jdk/internal/util/Preconditions" "SIOOBE_FORMATTER" "Ljava/util/function/BiFunction;" sf) (cs : Int32) (S_cs : Sta Z h0 "java/lang/String" "COMPACT_STRINGS" "Z" (.int cs)) (hcs : ¬ cs = 0) :
    Ct l Z (⟨"dev/typewright/dart/DartWriterLinePinLaw", "at", "(Ljava/lang/String;I)C"⟩ : MethodName) method_3_code 2 (some .char) ({ frames := 4, cells := 0, slots := 0, locals := 53 } : Room) EL1 n0 true [] #[(.ref a1), (.int (Int32.ofNat i))] h0 [] (fun v h N => h0 = h ∧ v = some (.int (at0 ll i))) := by
  refine Ct.of (a0 := a0) (plainFor_of_name pn_dev_typewright_dart_DartWriterLinePinLaw) (own_ew hw) (L0 := #[.val (.ref a1), .val (.int (Int32.ofNat i))]) (fun _ => rfl) ?_
  refine Go.iloadN (pc' := 1) dm3_0 rfl rfl ?_
  refine Go.ifF (pc' := 4) dm3_1 (ofN_nn (by omega)) rfl ?_
  refine Go.iloadN (pc' := 5) dm3_4 rfl rfl ?_
  refine Go.aloadN (pc' := 6) dm3_5 rfl rfl rfl ?_
  obtain ⟨E_1, FC_2, FV_3, k_4, AV_5⟩ := id H1
  have X_11 : Exa Z h0 a1 "java/lang/String" := H1.1
  refine Go.callV (a1 := a0) (pc' := 9) (argsL := []) (rest := [(.int (Int32.ofNat i))]) (ct_length l Z a0 hw n0 h0 a1 b k_4 _ _ cs S_cs hcs E_1 FC_2 FV_3 AV_5) dm3_6 (wd hw 176 rfl) (wd hw 39 rfl) (wd hw 41 rfl) (wd hw 41 rfl) (wd hw 40 rfl) (wd hw 8 rfl) (wd hw 42 rfl) X_11 (by decide) (lenOf pd_11 rfl) rfl 1 rfl rfl (by decide) (by decide) (by decide) (by decide) sl0 rfl (fun v_6 h_7 N_8 hQ_9 hle_10 => ?_)
  obtain ⟨rfl, rfl⟩ := hQ_9
  refine Go.rs [(.int (Int32.ofNat ll.length)), (.int (Int32.ofNat i))] rfl ?_
  refine Go.icmp (pc' := 18) (pc'' := 12) dm3_9 (by decide) (by decide) rfl (fun hc_12 => ?_) (fun hc_12 => ?_)
  · have hc_12 : ¬ ((Int32.ofNat i) < (Int32.ofNat ll.length)) := hc_12
    refine Go.iconst (pc' := 19) 0 dm3_18 rfl rfl ?_
    refine Go.retN (t := .char) (0 : Int32) rfl (by simp) rfl [] sl0 dm3_19 (by decide) (by decide) ?_
    exact ⟨rfl, by rw [at0, if_neg (fun q => hc_12 ((ofN_lt (by omega) (by omega)).mpr q))]⟩
  · have hc_12 : (Int32.ofNat i) < (Int32.ofNat ll.length) := hc_12
    refine Go.aloadN (pc' := 13) dm3_12 rfl rfl rfl ?_
    refine Go.iloadN (pc' := 14) dm3_13 rfl rfl ?_
    obtain ⟨E_13, FC_14, FV_15, k_16, AV_17⟩ := id H1
    refine Go.callV (a1 := a0) (pc' := 17) (argsL := [(.int (Int32.ofNat i))]) (rest := []) (ct_charAt l Z a0 hw n0 h0 a1 b k_16 ll.length ll i sf hsf S_sf cs S_cs hcs E_13 FC_14 FV_15 AV_17 ((ofN_lt (by omega) (by omega)).mp (by assumption)) (by omega)) dm3_14 (wd hw 177 rfl) (wd hw 178 rfl) (wd hw 180 rfl) (wd hw 180 rfl) (wd hw 179 rfl) (wd hw 8 rfl) (wd hw 181 rfl) X_11 (by decide) (lenOf pd_29 rfl) rfl 0 rfl rfl (by decide) (by decide) (by decide) (by decide) sl0 rfl (fun v_18 h_19 N_20 hQ_21 hle_22 => ?_)
    obtain ⟨rfl, rfl⟩ := hQ_21
    refine Go.rs [(.int (nar .char (ll.getD i 0 &&& (255 : Int32))))] rfl ?_
    refine Go.retN (t := .char) (nar .char (ll.getD i 0 &&& (255 : Int32))) rfl (by simp) (nar_cc _) [] sl0 dm3_17 (by decide) (by decide) ?_
    exact ⟨rfl, by rw [at0, if_pos ((ofN_lt (by omega) (by omega)).mp hc_12)]⟩
def Is01 (v : Int32) : Prop := v = 0 ∨ v = 1
def Is012 (v : Int32) : Prop := v = 0 ∨ v = 1 ∨ v = 2
theorem Is01.one {v : Int32} (h : Is01 v) (k : ¬ v = 0) : v = 1 := Or.resolve_left h k
theorem own_hl : own_hdr.length = 40 := rfl
theorem nl_len (z : Int32) : (nl z).length ≤ 1 := by unfold nl; split <;> decide
theorem mk2_len (n c d : Int32) : (mk2 n c d).length ≤ 2 := by unfold mk2; split <;> (try split) <;> simp
theorem own_unat (x k : Int32) (hk : k = 4 ∨ k = 8) : (usr x k).toBitVec.toNat < 2 ^ 28 := by
  have h : x.toUInt32.toNat < 2 ^ 32 := x.toUInt32.toNat_lt
  rcases hk with rfl | rfl
  · have e : (usr x 4).toBitVec.toNat = x.toUInt32.toNat >>> 4 := by
      show (x.toUInt32 >>> ((4 : Int32) &&& 31).toUInt32).toNat = _
      rw [UInt32.toNat_shiftRight]; rfl
    rw [e, Nat.shiftRight_eq_div_pow]; omega
  · have e : (usr x 8).toBitVec.toNat = x.toUInt32.toNat >>> 8 := by
      show (x.toUInt32 >>> ((8 : Int32) &&& 31).toUInt32).toNat = _
      rw [UInt32.toNat_shiftRight]; rfl
    rw [e, Nat.shiftRight_eq_div_pow]; omega
theorem own_u3 (x k : Int32) (hk : k = 4 ∨ k = 8) : usr x k % 3 = 0 ∨ usr x k % 3 = 1 ∨ usr x k % 3 = 2 := by
  have h1 := own_unat x k hk
  generalize usr x k = y at *
  have hi : y.toInt = y.toBitVec.toNat := by
    show y.toBitVec.toInt = _
    rw [BitVec.toInt_eq_toNat_of_lt (by omega)]
  have e3 : (3 : Int32).toInt = 3 := by decide
  have hm : (y % 3).toInt = y.toInt.tmod 3 := by rw [Int32.toInt_mod, e3]
  have hb : y.toInt.tmod 3 = y.toInt % 3 := Int.tmod_eq_emod_of_nonneg (by omega)
  have h3 : (y % 3).toInt = 0 ∨ (y % 3).toInt = 1 ∨ (y % 3).toInt = 2 := by omega
  rcases h3 with q | q | q
  · exact Or.inl (Int32.toInt_inj.mp (q.trans (by decide)))
  · exact Or.inr (Or.inl (Int32.toInt_inj.mp (q.trans (by decide))))
  · exact Or.inr (Or.inr (Int32.toInt_inj.mp (q.trans (by decide))))
theorem own_inc (E : List Int32) (x : Int32) : Int32.ofNat E.length + Int32.ofInt 1 = Int32.ofNat (E ++ [x]).length := by rw [List.length_append]; exact ofN_succ _
theorem nar10 : nar .char (10 : Int32) = 10 := by decide
theorem or2_01 (x y : Int32) : or2 x y = 0 ∨ or2 x y = 1 := by unfold or2; split; exact Or.inl rfl; exact Or.inr rfl
def Rg (E : List Int32) : Prop := ∀ c ∈ E, ¬ c < 0 ∧ ¬ 255 < c
theorem Rg_app {A B : List Int32} (h1 : Rg A) (h2 : Rg B) : Rg (A ++ B) := fun c h => (List.mem_append.mp h).elim (h1 c) (h2 c)
theorem Rg_0 : Rg [] := fun c h => nomatch h
theorem Rg_10 : Rg [10] := fun c h => by cases List.mem_singleton.mp h; exact ⟨by decide, by decide⟩
theorem Rg_nl (z : Int32) : Rg (nl z) := by unfold nl; split; exact Rg_0; exact Rg_10
theorem Rg_mk {n c d : Int32} (h1 : ¬ c < 0) (h2 : ¬ 255 < c) (h3 : ¬ d < 0) (h4 : ¬ 255 < d) : Rg (mk2 n c d) := by
  have hc : Rg [c] := fun x h => by cases List.mem_singleton.mp h; exact ⟨h1, h2⟩
  have hd : Rg [d] := fun x h => by cases List.mem_singleton.mp h; exact ⟨h3, h4⟩
  unfold mk2; split
  · exact Rg_0
  · split
    · exact hc
    · exact Rg_app hc hd
theorem nl_by8 (z : Int32) : (nl z).map by8 = nl z := by unfold nl; split; rfl; exact congrArg (· :: []) by8_10
theorem own_len (E LL : List Int32) (hL : LL = own_hdr ++ E.map by8) : Int32.ofNat LL.length = (40 : Int32) + Int32.ofNat E.length := by
  rw [hL, List.length_append, List.length_map, ← ofN_add]; rfl
theorem own_c0 (X LL : List Int32) (hL : LL = own_hdr ++ X) : nar .char (LL.getD 0 0 &&& (255 : Int32)) = 47 := hL ▸ (show nar .char ((47 : Int32) &&& 255) = 47 by decide)
theorem own_c1 (X : List Int32) : nar .char (((47 :: X) : List Int32).getD 0 0 &&& (255 : Int32)) = 47 := (show nar .char ((47 : Int32) &&& 255) = 47 by decide)
theorem own_at (E LL : List Int32) (hL : LL = own_hdr ++ E.map by8) (k m : Nat) (hm : m = own_hdr.length + k) (hE : Rg E) : at0 LL m = E.getD k 0 := by subst hm hL; exact at0_eq own_hdr E k hE
theorem pd_30 : parseMethodDescriptor "(ICC)Ljava/lang/String;" = some ⟨[.int, .char, .char], (some (.object "java/lang/String"))⟩ := by decide +kernel
theorem pd_31 : parseMethodDescriptor "()V" = some ⟨[], none⟩ := by decide +kernel
theorem pd_32 : parseMethodDescriptor "(Ljava/lang/String;)Ldev/typewright/dart/DartWriter;" = some ⟨[(.object "java/lang/String")], (some (.object "dev/typewright/dart/DartWriter"))⟩ := by decide +kernel
theorem pd_33 : parseMethodDescriptor "(Ljava/lang/String;I)C" = some ⟨[(.object "java/lang/String"), .int], (some .char)⟩ := by decide +kernel
theorem pd_34 : parseMethodDescriptor "()Ldev/typewright/dart/DartWriter;" = some ⟨[], (some (.object "dev/typewright/dart/DartWriter"))⟩ := by decide +kernel
theorem ct_law (l : Launch) (Z : State) (a0 : Array Value) (hw : ∀ d ∈ tables_1, d.before a0 Z = true) (n0 : Nat) (h0 : Heap) (p0 p1 p2 : Int32) (hn0 : n0 ≤ h0.size) (sf : Value) (hsf : sf.isRef = true) (S_sf : Sta Z h0 "jdk/internal/util/Preconditions" "SIOOBE_FORMATTER" "Ljava/util/function/BiFunction;" sf) (cs : Int32) (S_cs : Sta Z h0 "java/lang/String" "COMPACT_STRINGS" "Z" (.int cs)) (hcs : ¬ cs = 0) :
    Ct l Z x code maxLocals ret room_1 EL1 n0 true tables_1 #[(.int p0), (.int p1), (.int p2)] h0 [] (fun v h N => v = some (.int 1)) := by
  refine Ct.of (a0 := a0) (plainFor_of_name pn_dev_typewright_dart_DartWriterLinePinLaw) (own_ew hw) (L0 := #[.val (.int p0), .val (.int p1), .val (.int p2), .unset, .unset, .unset, .unset, .unset, .unset, .unset, .unset, .unset, .unset, .unset, .unset, .unset, .unset, .unset, .unset, .unset, .unset]) (fun _ => by simp [entryFrame, argsToLocals, Value.category, mkF, maxLocals]) ?_
  refine Go.cutV (kcJ := 0) (ksJ := 0) (SLJ := []) 12 (fun v9 => #[.val (.int p0), .val (.int p1), .val (.int p2), .val (.int v9), .unset, .unset, .unset, .unset, .unset, .unset, .unset, .unset, .unset, .unset, .unset, .unset, .unset, .unset, .unset, .unset, .unset]) (fun v9 => Is01 v9) (fun z1 hz1 => ?_) (fun cut12 => ?_)
  · refine Go.cutV (kcJ := 0) (ksJ := 0) (SLJ := []) 25 (fun v9 => #[.val (.int p0), .val (.int p1), .val (.int p2), .val (.int z1), .val (.int v9), .unset, .unset, .unset, .unset, .unset, .unset, .unset, .unset, .unset, .unset, .unset, .unset, .unset, .unset, .unset, .unset]) (fun v9 => Is01 v9) (fun z2 hz2 => ?_) (fun cut25 => ?_)
    · refine Go.cutV (kcJ := 0) (ksJ := 0) (SLJ := []) 38 (fun v9 => #[.val (.int p0), .val (.int p1), .val (.int p2), .val (.int z1), .val (.int z2), .val (.int v9), .unset, .unset, .unset, .unset, .unset, .unset, .unset, .unset, .unset, .unset, .unset, .unset, .unset, .unset, .unset]) (fun v9 => Is01 v9) (fun z3 hz3 => ?_) (fun cut38 => ?_)
      · refine Go.cutV (kcJ := 0) (ksJ := 0) (SLJ := []) 52 (fun v9 => #[.val (.int p0), .val (.int p1), .val (.int p2), .val (.int z1), .val (.int z2), .val (.int z3), .val (.int v9), .unset, .unset, .unset, .unset, .unset, .unset, .unset, .unset, .unset, .unset, .unset, .unset, .unset, .unset]) (fun v9 => Is01 v9) (fun z4 hz4 => ?_) (fun cut52 => ?_)
        · refine Go.cutV (kcJ := 0) (ksJ := 0) (SLJ := []) 59 (fun v9 => #[.val (.int p0), .val (.int p1), .val (.int p2), .val (.int z1), .val (.int z2), .val (.int z3), .val (.int z4), .val (.int v9), .unset, .unset, .unset, .unset, .unset, .unset, .unset, .unset, .unset, .unset, .unset, .unset, .unset]) (fun v9 => Is012 v9) (fun n1 hn1 => ?_) (fun cut59 => ?_)
          · refine Go.cutV (kcJ := 0) (ksJ := 0) (SLJ := []) 67 (fun v9 => #[.val (.int p0), .val (.int p1), .val (.int p2), .val (.int z1), .val (.int z2), .val (.int z3), .val (.int z4), .val (.int n1), .val (.int v9), .unset, .unset, .unset, .unset, .unset, .unset, .unset, .unset, .unset, .unset, .unset, .unset]) (fun v9 => Is012 v9) (fun n2 hn2 => ?_) (fun cut67 => ?_)
            · refine Go.iloadN (pc' := 68) at_67 rfl rfl ?_
              refine Go.callS (a1 := a0) (pc' := 71) (argsL := [(.int p1)]) (rest := []) (ct_ch l Z a0 hw n0 h0 p1) at_68 (wd hw 0 rfl) (wd hw 1 rfl) (wd hw 2 rfl) (wd hw 3 rfl) (by decide) (lenOf pd_29 rfl) rfl 0 rfl rfl (by decide) (by decide) (by decide) (by decide) sl0 rfl (fun v_1 h_2 N_3 hQ_4 hle_5 => ?_)
              obtain ⟨rfl, c1, rfl, hc1a, hc1b⟩ := hQ_4
              refine Go.rs [(.int c1)] rfl ?_
              refine Go.istore (pc' := 73) #[.val (.int p0), .val (.int p1), .val (.int p2), .val (.int z1), .val (.int z2), .val (.int z3), .val (.int z4), .val (.int n1), .val (.int n2), .val (.int c1), .unset, .unset, .unset, .unset, .unset, .unset, .unset, .unset, .unset, .unset, .unset] at_71 rfl rfl ?_
              refine Go.iloadN (pc' := 74) at_73 rfl rfl ?_
              refine Go.bipush (pc' := 76) 8 at_74 rfl rfl ?_
              refine Go.iushr (pc' := 77) at_76 rfl ?_
              refine Go.callS (a1 := a0) (pc' := 80) (argsL := [(.int (usr p1 (8 : Int32)))]) (rest := []) (ct_ch l Z a0 hw n0 h0 (usr p1 (8 : Int32))) at_77 (wd hw 0 rfl) (wd hw 1 rfl) (wd hw 2 rfl) (wd hw 3 rfl) (by decide) (lenOf pd_29 rfl) rfl 0 rfl rfl (by decide) (by decide) (by decide) (by decide) sl0 rfl (fun v_6 h_7 N_8 hQ_9 hle_10 => ?_)
              obtain ⟨rfl, c2, rfl, hc2a, hc2b⟩ := hQ_9
              refine Go.rs [(.int c2)] rfl ?_
              refine Go.istore (pc' := 82) #[.val (.int p0), .val (.int p1), .val (.int p2), .val (.int z1), .val (.int z2), .val (.int z3), .val (.int z4), .val (.int n1), .val (.int n2), .val (.int c1), .val (.int c2), .unset, .unset, .unset, .unset, .unset, .unset, .unset, .unset, .unset, .unset] at_80 rfl rfl ?_
              refine Go.iloadN (pc' := 83) at_82 rfl rfl ?_
              refine Go.callS (a1 := a0) (pc' := 86) (argsL := [(.int p2)]) (rest := []) (ct_ch l Z a0 hw n0 h0 p2) at_83 (wd hw 0 rfl) (wd hw 1 rfl) (wd hw 2 rfl) (wd hw 3 rfl) (by decide) (lenOf pd_29 rfl) rfl 0 rfl rfl (by decide) (by decide) (by decide) (by decide) sl0 rfl (fun v_11 h_12 N_13 hQ_14 hle_15 => ?_)
              obtain ⟨rfl, c3, rfl, hc3a, hc3b⟩ := hQ_14
              refine Go.rs [(.int c3)] rfl ?_
              refine Go.istore (pc' := 88) #[.val (.int p0), .val (.int p1), .val (.int p2), .val (.int z1), .val (.int z2), .val (.int z3), .val (.int z4), .val (.int n1), .val (.int n2), .val (.int c1), .val (.int c2), .val (.int c3), .unset, .unset, .unset, .unset, .unset, .unset, .unset, .unset, .unset] at_86 rfl rfl ?_
              refine Go.iloadN (pc' := 89) at_88 rfl rfl ?_
              refine Go.bipush (pc' := 91) 8 at_89 rfl rfl ?_
              refine Go.iushr (pc' := 92) at_91 rfl ?_
              refine Go.callS (a1 := a0) (pc' := 95) (argsL := [(.int (usr p2 (8 : Int32)))]) (rest := []) (ct_ch l Z a0 hw n0 h0 (usr p2 (8 : Int32))) at_92 (wd hw 0 rfl) (wd hw 1 rfl) (wd hw 2 rfl) (wd hw 3 rfl) (by decide) (lenOf pd_29 rfl) rfl 0 rfl rfl (by decide) (by decide) (by decide) (by decide) sl0 rfl (fun v_16 h_17 N_18 hQ_19 hle_20 => ?_)
              obtain ⟨rfl, c4, rfl, hc4a, hc4b⟩ := hQ_19
              refine Go.rs [(.int c4)] rfl ?_
              refine Go.istore (pc' := 97) #[.val (.int p0), .val (.int p1), .val (.int p2), .val (.int z1), .val (.int z2), .val (.int z3), .val (.int z4), .val (.int n1), .val (.int n2), .val (.int c1), .val (.int c2), .val (.int c3), .val (.int c4), .unset, .unset, .unset, .unset, .unset, .unset, .unset, .unset] at_95 rfl rfl ?_
              refine Go.iload (pc' := 99) at_97 rfl rfl ?_
              refine Go.iload (pc' := 101) at_99 rfl rfl ?_
              refine Go.iload (pc' := 103) at_101 rfl rfl ?_
              refine Go.callS (a1 := a0) (pc' := 106) (argsL := [(.int n1), (.int c1), (.int c2)]) (rest := []) (ct_str l Z a0 hw n0 h0 n1 c1 c2 hn1 hc1a hc1b hc2a hc2b (by omega) cs S_cs hcs) at_103 (wd hw 4 rfl) (wd hw 5 rfl) (wd hw 2 rfl) (wd hw 6 rfl) (by decide) (lenOf pd_30 rfl) rfl 0 rfl rfl (by decide) (by decide) (by decide) (by decide) sl0 rfl (fun v_27 h_28 N_29 hQ_30 hle_31 => ?_)
              obtain ⟨s_21, b_22, rfl, K_25, F_26⟩ := hQ_30
              have szh_28 := nle K_25.1
              have lts_21 := nlt F_26.lt
              have ltb_22 := nlt F_26.ltb
              refine Go.rs [(.ref s_21)] rfl ?_
              refine Go.astore (pc' := 108) #[.val (.int p0), .val (.int p1), .val (.int p2), .val (.int z1), .val (.int z2), .val (.int z3), .val (.int z4), .val (.int n1), .val (.int n2), .val (.int c1), .val (.int c2), .val (.int c3), .val (.int c4), .val (.ref s_21), .unset, .unset, .unset, .unset, .unset, .unset, .unset] at_106 rfl rfl rfl ?_
              refine Go.iload (pc' := 110) at_108 rfl rfl ?_
              refine Go.iload (pc' := 112) at_110 rfl rfl ?_
              refine Go.iload (pc' := 114) at_112 rfl rfl ?_
              have F_32 := (sta_keep S_cs K_25 ns0)
              refine Go.callS (a1 := a0) (pc' := 117) (argsL := [(.int n2), (.int c3), (.int c4)]) (rest := []) (ct_str l Z a0 hw n0 h_28 n2 c3 c4 hn2 hc3a hc3b hc4a hc4b (by omega) cs F_32 hcs) at_114 (wd hw 4 rfl) (wd hw 5 rfl) (wd hw 2 rfl) (wd hw 6 rfl) (by decide) (lenOf pd_30 rfl) rfl 0 rfl rfl (by decide) (by decide) (by decide) (by decide) sl0 rfl (fun v_39 h_40 N_41 hQ_42 hle_43 => ?_)
              obtain ⟨s_33, b_34, rfl, K_37, F_38⟩ := hQ_42
              have szh_40 := nle K_37.1
              have lts_33 := nlt F_38.lt
              have ltb_34 := nlt F_38.ltb
              refine Go.rs [(.ref s_33)] rfl ?_
              refine Go.astore (pc' := 119) #[.val (.int p0), .val (.int p1), .val (.int p2), .val (.int z1), .val (.int z2), .val (.int z3), .val (.int z4), .val (.int n1), .val (.int n2), .val (.int c1), .val (.int c2), .val (.int c3), .val (.int c4), .val (.ref s_21), .val (.ref s_33), .unset, .unset, .unset, .unset, .unset, .unset] at_117 rfl rfl rfl ?_
              refine Go.newO (pc' := 122) (a1 := a0) at_119 (wd hw 15 rfl) (wd hw 16 rfl) (wd hw 17 rfl) (by decide) (by decide) rfl (fun a_44 h_45 ha_47 E_46 X_48 Df_49 => ?_)
              have szh_45 := nle E_46.1
              have lta_44 := nlt X_48.lt
              have qa_44 := neq ha_47
              have F_50 : Fld Z h_45 a_44 "dev/typewright/dart/DartWriter" "text" "Ljava/lang/StringBuilder;" (.null) := Df_49 (Or.inr (wd hw 117 rfl)) (ty := (.object "java/lang/StringBuilder")) (by decide)
              have F_51 : Fld Z h_45 a_44 "dev/typewright/dart/DartWriter" "blankLinePending" "Z" (.int (0 : Int32)) := Df_49 (Or.inl (wd hw 124 rfl)) (ty := .boolean) (by decide)
              refine Go.dup (pc' := 123) at_122 rfl rfl ?_
              have F_60 := (Sta.ext E_46 (sta_keep F_32 K_37 ns0))
              refine Go.callN (a1 := a0) (pc' := 126) (argsL := []) (rest := [(.ref a_44)]) (ct_wi l Z a0 hw n0 h_45 a_44 (by omega) (by omega) X_48 F_50 F_51 cs F_60 hcs) at_123 rfl (wd hw 18 rfl) (wd hw 19 rfl) (wd hw 17 rfl) (wd hw 20 rfl) (by decide) (lenOf pd_31 rfl) rfl 1 rfl rfl (by decide) (by decide) (by decide) (by decide) sl0 rfl (fun v_61 h_62 N_63 hQ_64 hle_65 => ?_)
              obtain ⟨rfl, sb_52, b_53, rfl, g_54, g_55, K_56, F_57, F_58, F_59⟩ := hQ_64
              have szh_62 := nle K_56.1
              have ltsb_52 := nlt F_59.lt
              have ltb_53 := nlt F_59.ltb
              have gesb_52 := nle g_54
              have geb_53 := nle g_55
              refine Go.rs [(.ref a_44)] rfl ?_
              refine Go.astore (pc' := 128) #[.val (.int p0), .val (.int p1), .val (.int p2), .val (.int z1), .val (.int z2), .val (.int z3), .val (.int z4), .val (.int n1), .val (.int n2), .val (.int c1), .val (.int c2), .val (.int c3), .val (.int c4), .val (.ref s_21), .val (.ref s_33), .val (.ref a_44), .unset, .unset, .unset, .unset, .unset] at_126 rfl rfl rfl ?_
              refine Go.cutE (kcJ := 11) (ksJ := 250) (SLJ := [b_53, a_44]) 138 (fun E9 => #[.val (.int p0), .val (.int p1), .val (.int p2), .val (.int z1), .val (.int z2), .val (.int z3), .val (.int z4), .val (.int n1), .val (.int n2), .val (.int c1), .val (.int c2), .val (.int c3), .val (.int c4), .val (.ref s_21), .val (.ref s_33), .val (.ref a_44), .unset, .unset, .unset, .unset, .unset]) (fun h9 E9 => Exa Z h9 a_44 "dev/typewright/dart/DartWriter" ∧ Fld Z h9 a_44 "dev/typewright/dart/DartWriter" "text" "Ljava/lang/StringBuilder;" (.ref sb_52) ∧ Sb Z h9 sb_52 b_53 56 (own_hdr ++ [10]) ∧ Str Z h9 s_33 b_34 ((mk2 n2 c3 c4).map by8) ∧ Sta Z h9 "java/lang/String" "COMPACT_STRINGS" "Z" (.int cs) ∧ Sta Z h9 "jdk/internal/util/Preconditions" "SIOOBE_FORMATTER" "Ljava/util/function/BiFunction;" sf ∧ Str Z h9 s_21 b_22 ((mk2 n1 c1 c2).map by8) ∧ Fld Z h9 a_44 "dev/typewright/dart/DartWriter" "blankLinePending" "Z" (.int z1) ∧ h_62.size ≤ h9.size) (fun h_66 E_67 hP_68 => ?_) (fun cut138 => ?_)
              · obtain ⟨J_70, J_71, J_72, J_73, J_74, J_75, J_76, J_77, sz_69⟩ := hP_68
                have nsz_69 := nle sz_69
                have lJ_70 := nlt J_70.lt
                have lJ_72 := nlt J_72.lt
                have lbJ_72 := nlt J_72.ltb
                have lJ_73 := nlt J_73.lt
                have lbJ_73 := nlt J_73.ltb
                have lJ_76 := nlt J_76.lt
                have lbJ_76 := nlt J_76.ltb
                refine Go.aload (pc' := 140) at_138 rfl rfl rfl ?_
                refine Go.aload (pc' := 142) at_140 rfl rfl rfl ?_
                refine Go.callV (a1 := a0) (pc' := 145) (argsL := [(.ref s_21)]) (rest := []) (ct_li l Z a0 hw n0 h_66 a_44 sb_52 b_53 s_21 b_22 z1 hz1 (own_hdr ++ [10]) ((mk2 n1 c1 c2).map by8) J_72 J_76 (by (try simp only [List.length_append, List.length_map, List.length_cons, List.length_nil, own_hl]); have q1 := nl_len z1; have q2 := nl_len (or2 z2 z3); have q3 := mk2_len n1 c1 c2; have q4 := mk2_len n2 c3 c4; omega) (by omega) (by omega) (by omega) (nne (by omega)) J_70 J_71 J_77 cs J_74 hcs) at_142 (wd hw 118 rfl) (wd hw 119 rfl) (wd hw 121 rfl) (wd hw 121 rfl) (wd hw 120 rfl) (wd hw 17 rfl) (wd hw 122 rfl) J_70 (by decide) (lenOf pd_32 rfl) rfl 0 rfl rfl (by decide) (by decide) (by decide) (by decide) (sl1 (by simp)) rfl (fun v_82 h_83 N_84 hQ_85 hle_86 => ?_)
                obtain ⟨rfl, K_78, F_79, F_80, F_81⟩ := hQ_85
                have szh_83 := nle K_78.1
                refine Go.rs [(.ref a_44)] rfl ?_
                refine Go.aload (pc' := 147) at_145 rfl rfl rfl ?_
                refine Go.acmp (pc' := 150) true at_147 rfl rfl (decide_eq_true rfl) (by decide) (by decide) ?_
                refine Go.iconst (pc' := 151) 1 at_150 rfl rfl ?_
                refine Go.goto (pc' := 155) at_151 (by decide) (by decide) ?_
                refine Go.istore (pc' := 157) #[.val (.int p0), .val (.int p1), .val (.int p2), .val (.int z1), .val (.int z2), .val (.int z3), .val (.int z4), .val (.int n1), .val (.int n2), .val (.int c1), .val (.int c2), .val (.int c3), .val (.int c4), .val (.ref s_21), .val (.ref s_33), .val (.ref a_44), .val (.int (1 : Int32)), .unset, .unset, .unset, .unset] at_155 rfl rfl ?_
                refine Go.cutE (kcJ := 11) (ksJ := 250) (SLJ := [b_53, a_44]) 179 (fun E9 => #[.val (.int p0), .val (.int p1), .val (.int p2), .val (.int z1), .val (.int z2), .val (.int z3), .val (.int z4), .val (.int n1), .val (.int n2), .val (.int c1), .val (.int c2), .val (.int c3), .val (.int c4), .val (.ref s_21), .val (.ref s_33), .val (.ref a_44), .val (.int (1 : Int32)), .unset, .unset, .unset, .unset]) (fun h9 E9 => Exa Z h9 a_44 "dev/typewright/dart/DartWriter" ∧ Fld Z h9 a_44 "dev/typewright/dart/DartWriter" "text" "Ljava/lang/StringBuilder;" (.ref sb_52) ∧ Sb Z h9 sb_52 b_53 56 ((own_hdr ++ [10]) ++ nl z1 ++ ((mk2 n1 c1 c2).map by8) ++ [10]) ∧ Str Z h9 s_33 b_34 ((mk2 n2 c3 c4).map by8) ∧ Sta Z h9 "java/lang/String" "COMPACT_STRINGS" "Z" (.int cs) ∧ Sta Z h9 "jdk/internal/util/Preconditions" "SIOOBE_FORMATTER" "Ljava/util/function/BiFunction;" sf ∧ Fld Z h9 a_44 "dev/typewright/dart/DartWriter" "blankLinePending" "Z" (.int (or2 z2 z3)) ∧ h_83.size ≤ h9.size) (fun h_87 E_88 hP_89 => ?_) (fun cut179 => ?_)
                · obtain ⟨J_91, J_92, J_93, J_94, J_95, J_96, J_97, sz_90⟩ := hP_89
                  have nsz_90 := nle sz_90
                  have lJ_91 := nlt J_91.lt
                  have lJ_93 := nlt J_93.lt
                  have lbJ_93 := nlt J_93.ltb
                  have lJ_94 := nlt J_94.lt
                  have lbJ_94 := nlt J_94.ltb
                  refine Go.iload (pc' := 181) at_179 rfl rfl ?_
                  refine Go.ifF (pc' := 184) at_181 (show ¬ ((1 : Int32) = (0 : Int32)) by decide) rfl ?_
                  refine Go.aload (pc' := 186) at_184 rfl rfl rfl ?_
                  refine Go.aload (pc' := 188) at_186 rfl rfl rfl ?_
                  refine Go.callV (a1 := a0) (pc' := 191) (argsL := [(.ref s_33)]) (rest := []) (ct_li l Z a0 hw n0 h_87 a_44 sb_52 b_53 s_33 b_34 (or2 z2 z3) (or2_01 z2 z3) ((own_hdr ++ [10]) ++ nl z1 ++ ((mk2 n1 c1 c2).map by8) ++ [10]) ((mk2 n2 c3 c4).map by8) J_93 J_94 (by (try simp only [List.length_append, List.length_map, List.length_cons, List.length_nil, own_hl]); have q1 := nl_len z1; have q2 := nl_len (or2 z2 z3); have q3 := mk2_len n1 c1 c2; have q4 := mk2_len n2 c3 c4; omega) (by omega) (by omega) (by omega) (nne (by omega)) J_91 J_92 J_97 cs J_95 hcs) at_188 (wd hw 118 rfl) (wd hw 119 rfl) (wd hw 121 rfl) (wd hw 121 rfl) (wd hw 120 rfl) (wd hw 17 rfl) (wd hw 122 rfl) J_91 (by decide) (lenOf pd_32 rfl) rfl 0 rfl rfl (by decide) (by decide) (by decide) (by decide) (sl1 (by simp)) rfl (fun v_102 h_103 N_104 hQ_105 hle_106 => ?_)
                  obtain ⟨rfl, K_98, F_99, F_100, F_101⟩ := hQ_105
                  have szh_103 := nle K_98.1
                  refine Go.rs [(.ref a_44)] rfl ?_
                  refine Go.aload (pc' := 193) at_191 rfl rfl rfl ?_
                  refine Go.acmp (pc' := 196) true at_193 rfl rfl (decide_eq_true rfl) (by decide) (by decide) ?_
                  refine Go.iconst (pc' := 197) 1 at_196 rfl rfl ?_
                  refine Go.goto (pc' := 201) at_197 (by decide) (by decide) ?_
                  refine Go.istore (pc' := 203) #[.val (.int p0), .val (.int p1), .val (.int p2), .val (.int z1), .val (.int z2), .val (.int z3), .val (.int z4), .val (.int n1), .val (.int n2), .val (.int c1), .val (.int c2), .val (.int c3), .val (.int c4), .val (.ref s_21), .val (.ref s_33), .val (.ref a_44), .val (.int (1 : Int32)), .unset, .unset, .unset, .unset] at_201 rfl rfl ?_
                  refine Go.cutE (kcJ := 11) (ksJ := 250) (SLJ := [b_53, a_44]) 214 (fun E9 => #[.val (.int p0), .val (.int p1), .val (.int p2), .val (.int z1), .val (.int z2), .val (.int z3), .val (.int z4), .val (.int n1), .val (.int n2), .val (.int c1), .val (.int c2), .val (.int c3), .val (.int c4), .val (.ref s_21), .val (.ref s_33), .val (.ref a_44), .val (.int (1 : Int32)), .unset, .unset, .unset, .unset]) (fun h9 E9 => Exa Z h9 a_44 "dev/typewright/dart/DartWriter" ∧ Fld Z h9 a_44 "dev/typewright/dart/DartWriter" "text" "Ljava/lang/StringBuilder;" (.ref sb_52) ∧ Sb Z h9 sb_52 b_53 56 (((own_hdr ++ [10]) ++ nl z1 ++ ((mk2 n1 c1 c2).map by8) ++ [10]) ++ nl (or2 z2 z3) ++ ((mk2 n2 c3 c4).map by8) ++ [10]) ∧ Str Z h9 s_33 b_34 ((mk2 n2 c3 c4).map by8) ∧ Sta Z h9 "java/lang/String" "COMPACT_STRINGS" "Z" (.int cs) ∧ Sta Z h9 "jdk/internal/util/Preconditions" "SIOOBE_FORMATTER" "Ljava/util/function/BiFunction;" sf ∧ h_103.size ≤ h9.size) (fun h_107 E_108 hP_109 => ?_) (fun cut214 => ?_)
                  · obtain ⟨J_111, J_112, J_113, J_114, J_115, J_116, sz_110⟩ := hP_109
                    have nsz_110 := nle sz_110
                    have lJ_111 := nlt J_111.lt
                    have lJ_113 := nlt J_113.lt
                    have lbJ_113 := nlt J_113.ltb
                    have lJ_114 := nlt J_114.lt
                    have lbJ_114 := nlt J_114.ltb
                    refine Go.aload (pc' := 216) at_214 rfl rfl rfl ?_
                    refine Go.callV (a1 := a0) (pc' := 219) (argsL := []) (rest := []) (ct_wt l Z a0 hw n0 h_107 a_44 sb_52 b_53 (((own_hdr ++ [10]) ++ nl z1 ++ ((mk2 n1 c1 c2).map by8) ++ [10]) ++ nl (or2 z2 z3) ++ ((mk2 n2 c3 c4).map by8) ++ [10]) J_113 (by (try simp only [List.length_append, List.length_map, List.length_cons, List.length_nil, own_hl]); have q1 := nl_len z1; have q2 := nl_len (or2 z2 z3); have q3 := mk2_len n1 c1 c2; have q4 := mk2_len n2 c3 c4; omega) (by omega) J_112 cs J_115 hcs) at_216 (wd hw 126 rfl) (wd hw 127 rfl) (wd hw 129 rfl) (wd hw 129 rfl) (wd hw 128 rfl) (wd hw 17 rfl) (wd hw 130 rfl) J_111 (by decide) (lenOf pd_28 rfl) rfl 0 rfl rfl (by decide) (by decide) (by decide) (by decide) sl0 rfl (fun v_123 h_124 N_125 hQ_126 hle_127 => ?_)
                    obtain ⟨s_117, b_118, rfl, g_119, g_120, K_121, F_122⟩ := hQ_126
                    have szh_124 := nle K_121.1
                    have lts_117 := nlt F_122.lt
                    have ltb_118 := nlt F_122.ltb
                    have ges_117 := nle g_119
                    have geb_118 := nle g_120
                    refine Go.rs [(.ref s_117)] rfl ?_
                    refine Go.astore (pc' := 221) #[.val (.int p0), .val (.int p1), .val (.int p2), .val (.int z1), .val (.int z2), .val (.int z3), .val (.int z4), .val (.int n1), .val (.int n2), .val (.int c1), .val (.int c2), .val (.int c3), .val (.int c4), .val (.ref s_21), .val (.ref s_33), .val (.ref a_44), .val (.int (1 : Int32)), .val (.ref s_117), .unset, .unset, .unset] at_219 rfl rfl rfl ?_
                    refine Go.bipush (pc' := 223) 9 at_221 rfl rfl ?_
                    refine Go.newPV (pc' := 225) (a1 := a0) 9 [(.int (0 : Int32)), (.int (0 : Int32)), (.int (0 : Int32)), (.int (0 : Int32)), (.int (0 : Int32)), (.int (0 : Int32)), (.int (0 : Int32)), (.int (0 : Int32)), (.int (0 : Int32))] at_223 (wd hw 174 rfl) (by decide) (by decide) (by decide) (by decide) (by decide) rfl rfl (fun a_128 h_129 cA_130 ha_131 E_132 A_133 => ?_)
                    have szh_129 := nle E_132.1
                    have lta_128 := nlt A_133.lt
                    have qa_128 := neq ha_131
                    have F_134 : Arv Z h_129 a_128 cA_130 .char (9 : Int32) [(.int (0 : Int32)), (.int (0 : Int32)), (.int (0 : Int32)), (.int (0 : Int32)), (.int (0 : Int32)), (.int (0 : Int32)), (.int (0 : Int32)), (.int (0 : Int32)), (.int (0 : Int32))] (.int 0) := A_133
                    refine Go.astore (pc' := 227) #[.val (.int p0), .val (.int p1), .val (.int p2), .val (.int z1), .val (.int z2), .val (.int z3), .val (.int z4), .val (.int n1), .val (.int n2), .val (.int c1), .val (.int c2), .val (.int c3), .val (.int c4), .val (.ref s_21), .val (.ref s_33), .val (.ref a_44), .val (.int (1 : Int32)), .val (.ref s_117), .val (.ref a_128), .unset, .unset] at_225 rfl rfl rfl ?_
                    refine Go.iconst (pc' := 228) 0 at_227 rfl rfl ?_
                    refine Go.istore (pc' := 230) #[.val (.int p0), .val (.int p1), .val (.int p2), .val (.int z1), .val (.int z2), .val (.int z3), .val (.int z4), .val (.int n1), .val (.int n2), .val (.int c1), .val (.int c2), .val (.int c3), .val (.int c4), .val (.ref s_21), .val (.ref s_33), .val (.ref a_44), .val (.int (1 : Int32)), .val (.ref s_117), .val (.ref a_128), .val (.int (0 : Int32)), .unset] at_228 rfl rfl ?_
                    refine Go.re (pc' := 230) (L' := #[.val (.int p0), .val (.int p1), .val (.int p2), .val (.int z1), .val (.int z2), .val (.int z3), .val (.int z4), .val (.int n1), .val (.int n2), .val (.int c1), .val (.int c2), .val (.int c3), .val (.int c4), .val (.ref s_21), .val (.ref s_33), .val (.ref a_44), .val (.int (1 : Int32)), .val (.ref s_117), .val (.ref a_128), .val (.int (Int32.ofNat ([] : List Int32).length)), .unset]) (S' := []) rfl rfl rfl ?_
                    have F_135 : Arv Z h_129 a_128 cA_130 .char (9 : Int32) (pad []) (.int 0) := F_134
                    refine Go.aload (pc' := 232) at_230 rfl rfl rfl ?_
                    refine Go.iload (pc' := 234) at_232 rfl rfl ?_
                    refine Go.bipush (pc' := 236) 10 at_234 rfl rfl ?_
                    refine Go.castoreV (pc' := 237) ([] : List Int32).length at_236 F_135 ⟨ofN_nn (by (try simp only [List.length_append, List.length_cons, List.length_nil]) <;> omega), (ofN_lt (n := 9) (by (try simp only [List.length_append, List.length_cons, List.length_nil]) <;> omega) (by decide)).mpr (by (try simp only [List.length_append, List.length_cons, List.length_nil]) <;> omega)⟩ (ofN_nat (by (try simp only [List.length_append, List.length_cons, List.length_nil]) <;> omega)) (by rw [pad_len _ (by (try simp only [List.length_append, List.length_cons, List.length_nil]) <;> omega)]; exact (by (try simp only [List.length_append, List.length_cons, List.length_nil]) <;> omega)) (by omega) rfl (fun h_136 W_137 A_138 => ?_)
                    have szh_136 : h_136.size = h_129.size := Wr.size W_137
                    have F_139 : Arv Z h_136 a_128 cA_130 .char (9 : Int32) (pad (([] : List Int32) ++ [10])) (.int 0) := by have q := A_138; rw [nar10, pad_set _ _ (by (try simp only [List.length_append, List.length_cons, List.length_nil]) <;> omega)] at q; exact q
                    refine Go.iinc (pc' := 240) (Int32.ofNat (([] : List Int32) ++ [10]).length) #[.val (.int p0), .val (.int p1), .val (.int p2), .val (.int z1), .val (.int z2), .val (.int z3), .val (.int z4), .val (.int n1), .val (.int n2), .val (.int c1), .val (.int c2), .val (.int c3), .val (.int c4), .val (.ref s_21), .val (.ref s_33), .val (.ref a_44), .val (.int (1 : Int32)), .val (.ref s_117), .val (.ref a_128), .val (.int (Int32.ofNat (([] : List Int32) ++ [10]).length)), .unset] at_237 rfl (own_inc ([] : List Int32) 10) rfl rfl ?_
                    refine Go.cutE (kcJ := 14) (ksJ := 391) (SLJ := [a_128, b_53, a_44]) 254 (fun E9 => #[.val (.int p0), .val (.int p1), .val (.int p2), .val (.int z1), .val (.int z2), .val (.int z3), .val (.int z4), .val (.int n1), .val (.int n2), .val (.int c1), .val (.int c2), .val (.int c3), .val (.int c4), .val (.ref s_21), .val (.ref s_33), .val (.ref a_44), .val (.int (1 : Int32)), .val (.ref s_117), .val (.ref a_128), .val (.int (Int32.ofNat E9.length)), .unset]) (fun h9 E9 => Arv Z h9 a_128 cA_130 .char (9 : Int32) (pad E9) (.int 0) ∧ Str Z h9 s_117 b_118 (((own_hdr ++ [10]) ++ nl z1 ++ ((mk2 n1 c1 c2).map by8) ++ [10]) ++ nl (or2 z2 z3) ++ ((mk2 n2 c3 c4).map by8) ++ [10]) ∧ Sta Z h9 "java/lang/String" "COMPACT_STRINGS" "Z" (.int cs) ∧ Sta Z h9 "jdk/internal/util/Preconditions" "SIOOBE_FORMATTER" "Ljava/util/function/BiFunction;" sf ∧ h_136.size ≤ h9.size ∧ E9 = ((([] : List Int32) ++ [10]) ++ nl z1)) (fun h_140 E_141 hP_142 => ?_) (fun cut254 => ?_)
                    · obtain ⟨J_144, J_145, J_146, J_147, sz_143, eE_141⟩ := hP_142
                      have nsz_143 := nle sz_143
                      have lJ_144 := nlt J_144.lt
                      have lJ_145 := nlt J_145.lt
                      have lbJ_145 := nlt J_145.ltb
                      have lEE_141 : E_141.length ≤ 2 := by rw [eE_141]; (try simp only [List.length_append, List.length_cons, List.length_nil]); have q1 := nl_len z1; have q2 := nl_len (or2 z2 z3); have q3 := mk2_len n1 c1 c2; have q4 := mk2_len n2 c3 c4; omega
                      refine Go.cutE (kcJ := 14) (ksJ := 391) (SLJ := [a_128, b_53, a_44]) 285 (fun E9 => #[.val (.int p0), .val (.int p1), .val (.int p2), .val (.int z1), .val (.int z2), .val (.int z3), .val (.int z4), .val (.int n1), .val (.int n2), .val (.int c1), .val (.int c2), .val (.int c3), .val (.int c4), .val (.ref s_21), .val (.ref s_33), .val (.ref a_44), .val (.int (1 : Int32)), .val (.ref s_117), .val (.ref a_128), .val (.int (Int32.ofNat E9.length)), .unset]) (fun h9 E9 => Arv Z h9 a_128 cA_130 .char (9 : Int32) (pad E9) (.int 0) ∧ Str Z h9 s_117 b_118 (((own_hdr ++ [10]) ++ nl z1 ++ ((mk2 n1 c1 c2).map by8) ++ [10]) ++ nl (or2 z2 z3) ++ ((mk2 n2 c3 c4).map by8) ++ [10]) ∧ Sta Z h9 "java/lang/String" "COMPACT_STRINGS" "Z" (.int cs) ∧ Sta Z h9 "jdk/internal/util/Preconditions" "SIOOBE_FORMATTER" "Ljava/util/function/BiFunction;" sf ∧ h_140.size ≤ h9.size ∧ E9 = (E_141 ++ mk2 n1 c1 c2)) (fun h_148 E_149 hP_150 => ?_) (fun cut285 => ?_)
                      · obtain ⟨J_152, J_153, J_154, J_155, sz_151, eE_149⟩ := hP_150
                        have nsz_151 := nle sz_151
                        have lJ_152 := nlt J_152.lt
                        have lJ_153 := nlt J_153.lt
                        have lbJ_153 := nlt J_153.ltb
                        have lEE_149 : E_149.length ≤ 4 := by rw [eE_149]; (try simp only [List.length_append, List.length_cons, List.length_nil]); have q1 := nl_len z1; have q2 := nl_len (or2 z2 z3); have q3 := mk2_len n1 c1 c2; have q4 := mk2_len n2 c3 c4; omega
                        refine Go.aload (pc' := 287) at_285 rfl rfl rfl ?_
                        refine Go.iload (pc' := 289) at_287 rfl rfl ?_
                        refine Go.bipush (pc' := 291) 10 at_289 rfl rfl ?_
                        refine Go.castoreV (pc' := 292) E_149.length at_291 J_152 ⟨ofN_nn (by (try simp only [List.length_append, List.length_cons, List.length_nil]) <;> omega), (ofN_lt (n := 9) (by (try simp only [List.length_append, List.length_cons, List.length_nil]) <;> omega) (by decide)).mpr (by (try simp only [List.length_append, List.length_cons, List.length_nil]) <;> omega)⟩ (ofN_nat (by (try simp only [List.length_append, List.length_cons, List.length_nil]) <;> omega)) (by rw [pad_len _ (by (try simp only [List.length_append, List.length_cons, List.length_nil]) <;> omega)]; exact (by (try simp only [List.length_append, List.length_cons, List.length_nil]) <;> omega)) (by omega) rfl (fun h_156 W_157 A_158 => ?_)
                        have szh_156 : h_156.size = h_148.size := Wr.size W_157
                        have F_159 : Arv Z h_156 a_128 cA_130 .char (9 : Int32) (pad (E_149 ++ [10])) (.int 0) := by have q := A_158; rw [nar10, pad_set _ _ (by (try simp only [List.length_append, List.length_cons, List.length_nil]) <;> omega)] at q; exact q
                        refine Go.iinc (pc' := 295) (Int32.ofNat (E_149 ++ [10]).length) #[.val (.int p0), .val (.int p1), .val (.int p2), .val (.int z1), .val (.int z2), .val (.int z3), .val (.int z4), .val (.int n1), .val (.int n2), .val (.int c1), .val (.int c2), .val (.int c3), .val (.int c4), .val (.ref s_21), .val (.ref s_33), .val (.ref a_44), .val (.int (1 : Int32)), .val (.ref s_117), .val (.ref a_128), .val (.int (Int32.ofNat (E_149 ++ [10]).length)), .unset] at_292 rfl (own_inc E_149 10) rfl rfl ?_
                        refine Go.cutE (kcJ := 14) (ksJ := 391) (SLJ := [a_128, b_53, a_44]) 315 (fun E9 => #[.val (.int p0), .val (.int p1), .val (.int p2), .val (.int z1), .val (.int z2), .val (.int z3), .val (.int z4), .val (.int n1), .val (.int n2), .val (.int c1), .val (.int c2), .val (.int c3), .val (.int c4), .val (.ref s_21), .val (.ref s_33), .val (.ref a_44), .val (.int (1 : Int32)), .val (.ref s_117), .val (.ref a_128), .val (.int (Int32.ofNat E9.length)), .unset]) (fun h9 E9 => Arv Z h9 a_128 cA_130 .char (9 : Int32) (pad E9) (.int 0) ∧ Str Z h9 s_117 b_118 (((own_hdr ++ [10]) ++ nl z1 ++ ((mk2 n1 c1 c2).map by8) ++ [10]) ++ nl (or2 z2 z3) ++ ((mk2 n2 c3 c4).map by8) ++ [10]) ∧ Sta Z h9 "java/lang/String" "COMPACT_STRINGS" "Z" (.int cs) ∧ Sta Z h9 "jdk/internal/util/Preconditions" "SIOOBE_FORMATTER" "Ljava/util/function/BiFunction;" sf ∧ h_156.size ≤ h9.size ∧ E9 = ((E_149 ++ [10]) ++ nl (or2 z2 z3))) (fun h_160 E_161 hP_162 => ?_) (fun cut315 => ?_)
                        · obtain ⟨J_164, J_165, J_166, J_167, sz_163, eE_161⟩ := hP_162
                          have nsz_163 := nle sz_163
                          have lJ_164 := nlt J_164.lt
                          have lJ_165 := nlt J_165.lt
                          have lbJ_165 := nlt J_165.ltb
                          have lEE_161 : E_161.length ≤ 6 := by rw [eE_161]; (try simp only [List.length_append, List.length_cons, List.length_nil]); have q1 := nl_len z1; have q2 := nl_len (or2 z2 z3); have q3 := mk2_len n1 c1 c2; have q4 := mk2_len n2 c3 c4; omega
                          refine Go.cutE (kcJ := 14) (ksJ := 391) (SLJ := [a_128, b_53, a_44]) 346 (fun E9 => #[.val (.int p0), .val (.int p1), .val (.int p2), .val (.int z1), .val (.int z2), .val (.int z3), .val (.int z4), .val (.int n1), .val (.int n2), .val (.int c1), .val (.int c2), .val (.int c3), .val (.int c4), .val (.ref s_21), .val (.ref s_33), .val (.ref a_44), .val (.int (1 : Int32)), .val (.ref s_117), .val (.ref a_128), .val (.int (Int32.ofNat E9.length)), .unset]) (fun h9 E9 => Arv Z h9 a_128 cA_130 .char (9 : Int32) (pad E9) (.int 0) ∧ Str Z h9 s_117 b_118 (((own_hdr ++ [10]) ++ nl z1 ++ ((mk2 n1 c1 c2).map by8) ++ [10]) ++ nl (or2 z2 z3) ++ ((mk2 n2 c3 c4).map by8) ++ [10]) ∧ Sta Z h9 "java/lang/String" "COMPACT_STRINGS" "Z" (.int cs) ∧ Sta Z h9 "jdk/internal/util/Preconditions" "SIOOBE_FORMATTER" "Ljava/util/function/BiFunction;" sf ∧ h_160.size ≤ h9.size ∧ E9 = (E_161 ++ mk2 n2 c3 c4)) (fun h_168 E_169 hP_170 => ?_) (fun cut346 => ?_)
                          · obtain ⟨J_172, J_173, J_174, J_175, sz_171, eE_169⟩ := hP_170
                            have nsz_171 := nle sz_171
                            have lJ_172 := nlt J_172.lt
                            have lJ_173 := nlt J_173.lt
                            have lbJ_173 := nlt J_173.ltb
                            have lEE_169 : E_169.length ≤ 8 := by rw [eE_169]; (try simp only [List.length_append, List.length_cons, List.length_nil]); have q1 := nl_len z1; have q2 := nl_len (or2 z2 z3); have q3 := mk2_len n1 c1 c2; have q4 := mk2_len n2 c3 c4; omega
                            refine Go.aload (pc' := 348) at_346 rfl rfl rfl ?_
                            refine Go.iload (pc' := 350) at_348 rfl rfl ?_
                            refine Go.bipush (pc' := 352) 10 at_350 rfl rfl ?_
                            refine Go.castoreV (pc' := 353) E_169.length at_352 J_172 ⟨ofN_nn (by (try simp only [List.length_append, List.length_cons, List.length_nil]) <;> omega), (ofN_lt (n := 9) (by (try simp only [List.length_append, List.length_cons, List.length_nil]) <;> omega) (by decide)).mpr (by (try simp only [List.length_append, List.length_cons, List.length_nil]) <;> omega)⟩ (ofN_nat (by (try simp only [List.length_append, List.length_cons, List.length_nil]) <;> omega)) (by rw [pad_len _ (by (try simp only [List.length_append, List.length_cons, List.length_nil]) <;> omega)]; exact (by (try simp only [List.length_append, List.length_cons, List.length_nil]) <;> omega)) (by omega) rfl (fun h_176 W_177 A_178 => ?_)
                            have szh_176 : h_176.size = h_168.size := Wr.size W_177
                            have F_179 : Arv Z h_176 a_128 cA_130 .char (9 : Int32) (pad (E_169 ++ [10])) (.int 0) := by have q := A_178; rw [nar10, pad_set _ _ (by (try simp only [List.length_append, List.length_cons, List.length_nil]) <;> omega)] at q; exact q
                            refine Go.iinc (pc' := 356) (Int32.ofNat (E_169 ++ [10]).length) #[.val (.int p0), .val (.int p1), .val (.int p2), .val (.int z1), .val (.int z2), .val (.int z3), .val (.int z4), .val (.int n1), .val (.int n2), .val (.int c1), .val (.int c2), .val (.int c3), .val (.int c4), .val (.ref s_21), .val (.ref s_33), .val (.ref a_44), .val (.int (1 : Int32)), .val (.ref s_117), .val (.ref a_128), .val (.int (Int32.ofNat (E_169 ++ [10]).length)), .unset] at_353 rfl (own_inc E_169 10) rfl rfl ?_
                            have F_180 := (Str.keep J_173 (Keep.of_wr W_177) (ninS (nne (by omega)) nin0) (ninS (nne (by omega)) nin0))
                            have hC : (((own_hdr ++ [10]) ++ nl z1 ++ ((mk2 n1 c1 c2).map by8) ++ [10]) ++ nl (or2 z2 z3) ++ ((mk2 n2 c3 c4).map by8) ++ [10]) = own_hdr ++ (E_169 ++ [10]).map by8 := by simp only [eE_169, eE_161, eE_149, eE_141]; simp [nl_by8, by8_10]
                            have hE : Rg (E_169 ++ [10]) := by simp only [eE_169, eE_161, eE_149, eE_141]; repeat (first | exact Rg_10 | exact Rg_0 | exact Rg_nl _ | exact Rg_mk hc1a hc1b hc2a hc2b | exact Rg_mk hc3a hc3b hc4a hc4b | apply Rg_app)
                            obtain ⟨LL, hLL⟩ : ∃ LL : List Int32, LL = own_hdr ++ (E_169 ++ [10]).map by8 := ⟨_, rfl⟩
                            have lL : LL.length ≤ 49 := by rw [hLL, List.length_append, List.length_map, own_hl]; (try simp only [List.length_append, List.length_cons, List.length_nil]); have q1 := nl_len z1; have q2 := nl_len (or2 z2 z3); have q3 := mk2_len n1 c1 c2; have q4 := mk2_len n2 c3 c4; omega
                            have gL : 40 ≤ LL.length := by rw [hLL, List.length_append, own_hl]; exact Nat.le_add_right _ _
                            have R_181 : Str Z h_176 s_117 b_118 LL := by rw [hLL, ← hC]; exact F_180
                            refine Go.iload (pc' := 358) at_356 rfl rfl ?_
                            refine Go.ifT (pc' := 363) at_358 (show ¬ ((1 : Int32) = (0 : Int32)) by decide) (by decide) (by decide) ?_
                            refine Go.ldcR (pc' := 365) (a1 := a0) 160 (vs := [.int 47, .int 47, .int 32, .int 71, .int 101, .int 110, .int 101, .int 114, .int 97, .int 116, .int 101, .int 100, .int 32, .int 98, .int 121, .int 32, .int 84, .int 121, .int 112, .int 101, .int 119, .int 114, .int 105, .int 103, .int 104, .int 116, .int 46, .int 32, .int 68, .int 111, .int 32, .int 110, .int 111, .int 116, .int 32, .int 101, .int 100, .int 105, .int 116, .int 46]) (z := 40) at_363 rfl (wd hw 175 rfl) (own_ws hw) (by decide) (by decide) (by decide) (by decide) rfl (own_ew hw) (List.mem_of_getElem? (i := 2) rfl) ⟨by decide, by decide⟩ (by decide) (by decide) (fun a_182 h_183 b_184 k_185 E_186 X_187 F_188 F_189 A_190 ne_191 => ?_)
                            have szh_183 := nle E_186.1
                            have lta_182 := nlt X_187.lt
                            have ltb_184 := nlt A_190.lt
                            have nx_192 := nne2 (ne_191 a_128 (by simp))
                            have nx_193 := nne2 (ne_191 b_53 (by simp))
                            have nx_194 := nne2 (ne_191 a_44 (by simp))
                            have T_195 : Str Z h_183 a_182 b_184 [47, 47, 32, 71, 101, 110, 101, 114, 97, 116, 101, 100, 32, 98, 121, 32, 84, 121, 112, 101, 119, 114, 105, 103, 104, 116, 46, 32, 68, 111, 32, 110, 111, 116, 32, 101, 100, 105, 116, 46] := ⟨X_187, F_188, F_189, k_185, A_190⟩
                            obtain ⟨E_196, FC_197, FV_198, k_199, AV_200⟩ := id T_195
                            have F_201 := (Sta.ext E_186 (Sta.wr W_177 J_174))
                            have X_207 : Exa Z h_183 a_182 "java/lang/String" := T_195.1
                            refine Go.callV (a1 := a0) (pc' := 368) (argsL := []) (rest := []) (ct_length l Z a0 hw n0 h_183 a_182 b_184 k_199 _ _ cs F_201 hcs E_196 FC_197 FV_198 AV_200) at_365 (wd hw 176 rfl) (wd hw 39 rfl) (wd hw 41 rfl) (wd hw 41 rfl) (wd hw 40 rfl) (wd hw 8 rfl) (wd hw 42 rfl) X_207 (by decide) (lenOf pd_11 rfl) rfl 0 rfl rfl (by decide) (by decide) (by decide) (by decide) sl0 rfl (fun v_202 h_203 N_204 hQ_205 hle_206 => ?_)
                            obtain ⟨rfl, rfl⟩ := hQ_205
                            refine Go.rs [(.int (40 : Int32))] rfl ?_
                            refine Go.istore (pc' := 370) #[.val (.int p0), .val (.int p1), .val (.int p2), .val (.int z1), .val (.int z2), .val (.int z3), .val (.int z4), .val (.int n1), .val (.int n2), .val (.int c1), .val (.int c2), .val (.int c3), .val (.int c4), .val (.ref s_21), .val (.ref s_33), .val (.ref a_44), .val (.int (1 : Int32)), .val (.ref s_117), .val (.ref a_128), .val (.int (Int32.ofNat (E_169 ++ [10]).length)), .val (.int (40 : Int32))] at_368 rfl rfl ?_
                            refine Go.aload (pc' := 372) at_370 rfl rfl rfl ?_
                            have F_213 := (Str.ext R_181 E_186)
                            obtain ⟨E_208, FC_209, FV_210, k_211, AV_212⟩ := id F_213
                            have X_219 : Exa Z h_183 s_117 "java/lang/String" := F_213.1
                            refine Go.callV (a1 := a0) (pc' := 375) (argsL := []) (rest := []) (ct_length l Z a0 hw n0 h_183 s_117 b_118 k_211 _ _ cs F_201 hcs E_208 FC_209 FV_210 AV_212) at_372 (wd hw 176 rfl) (wd hw 39 rfl) (wd hw 41 rfl) (wd hw 41 rfl) (wd hw 40 rfl) (wd hw 8 rfl) (wd hw 42 rfl) X_219 (by decide) (lenOf pd_11 rfl) rfl 0 rfl rfl (by decide) (by decide) (by decide) (by decide) sl0 rfl (fun v_214 h_215 N_216 hQ_217 hle_218 => ?_)
                            obtain ⟨rfl, rfl⟩ := hQ_217
                            refine Go.rs [(.int (Int32.ofNat LL.length))] rfl ?_
                            refine Go.iload (pc' := 377) at_375 rfl rfl ?_
                            refine Go.iload (pc' := 379) at_377 rfl rfl ?_
                            refine Go.iadd (pc' := 380) at_379 rfl ?_
                            refine Go.icmpT (pc' := 385) at_380 (own_len (E_169 ++ [10]) LL hLL) (by decide) (by decide) ?_
                            refine Go.aload (pc' := 387) at_385 rfl rfl rfl ?_
                            refine Go.iconst (pc' := 388) 0 at_387 rfl rfl ?_
                            obtain ⟨E_220, FC_221, FV_222, k_223, AV_224⟩ := id F_213
                            have F_225 := (Sta.ext E_186 (Sta.wr W_177 J_175))
                            refine Go.callV (a1 := a0) (pc' := 391) (argsL := [(.int (0 : Int32))]) (rest := []) (ct_charAt l Z a0 hw n0 h_183 s_117 b_118 k_223 LL.length LL 0 sf hsf F_225 cs F_201 hcs E_220 FC_221 FV_222 AV_224 (by omega) (by omega)) at_388 (wd hw 177 rfl) (wd hw 178 rfl) (wd hw 180 rfl) (wd hw 180 rfl) (wd hw 179 rfl) (wd hw 8 rfl) (wd hw 181 rfl) X_219 (by decide) (lenOf pd_29 rfl) rfl 0 rfl rfl (by decide) (by decide) (by decide) (by decide) sl0 rfl (fun v_226 h_227 N_228 hQ_229 hle_230 => ?_)
                            obtain ⟨rfl, rfl⟩ := hQ_229
                            refine Go.rs [(.int (nar .char (LL.getD 0 0 &&& (255 : Int32))))] rfl ?_
                            refine Go.ldcR (pc' := 393) (a1 := a0) 160 (vs := [.int 47, .int 47, .int 32, .int 71, .int 101, .int 110, .int 101, .int 114, .int 97, .int 116, .int 101, .int 100, .int 32, .int 98, .int 121, .int 32, .int 84, .int 121, .int 112, .int 101, .int 119, .int 114, .int 105, .int 103, .int 104, .int 116, .int 46, .int 32, .int 68, .int 111, .int 32, .int 110, .int 111, .int 116, .int 32, .int 101, .int 100, .int 105, .int 116, .int 46]) (z := 40) at_391 rfl (wd hw 175 rfl) (own_ws hw) (by decide) (by decide) (by decide) (by decide) rfl (own_ew hw) (List.mem_of_getElem? (i := 2) rfl) ⟨by decide, by decide⟩ (by decide) (by decide) (fun a_231 h_232 b_233 k_234 E_235 X_236 F_237 F_238 A_239 ne_240 => ?_)
                            have szh_232 := nle E_235.1
                            have lta_231 := nlt X_236.lt
                            have ltb_233 := nlt A_239.lt
                            have nx_241 := nne2 (ne_240 a_128 (by simp))
                            have nx_242 := nne2 (ne_240 b_53 (by simp))
                            have nx_243 := nne2 (ne_240 a_44 (by simp))
                            have T_244 : Str Z h_232 a_231 b_233 [47, 47, 32, 71, 101, 110, 101, 114, 97, 116, 101, 100, 32, 98, 121, 32, 84, 121, 112, 101, 119, 114, 105, 103, 104, 116, 46, 32, 68, 111, 32, 110, 111, 116, 32, 101, 100, 105, 116, 46] := ⟨X_236, F_237, F_238, k_234, A_239⟩
                            refine Go.iconst (pc' := 394) 0 at_393 rfl rfl ?_
                            obtain ⟨E_245, FC_246, FV_247, k_248, AV_249⟩ := id T_244
                            have F_250 := (Sta.ext E_235 F_225)
                            have F_251 := (Sta.ext E_235 F_201)
                            have X_257 : Exa Z h_232 a_231 "java/lang/String" := T_244.1
                            refine Go.callV (a1 := a0) (pc' := 397) (argsL := [(.int (0 : Int32))]) (rest := [(.int (nar .char (LL.getD 0 0 &&& (255 : Int32))))]) (ct_charAt l Z a0 hw n0 h_232 a_231 b_233 k_248 ([47, 47, 32, 71, 101, 110, 101, 114, 97, 116, 101, 100, 32, 98, 121, 32, 84, 121, 112, 101, 119, 114, 105, 103, 104, 116, 46, 32, 68, 111, 32, 110, 111, 116, 32, 101, 100, 105, 116, 46] : List Int32).length ([47, 47, 32, 71, 101, 110, 101, 114, 97, 116, 101, 100, 32, 98, 121, 32, 84, 121, 112, 101, 119, 114, 105, 103, 104, 116, 46, 32, 68, 111, 32, 110, 111, 116, 32, 101, 100, 105, 116, 46] : List Int32) 0 sf hsf F_250 cs F_251 hcs E_245 FC_246 FV_247 AV_249 (by decide) (by decide)) at_394 (wd hw 177 rfl) (wd hw 178 rfl) (wd hw 180 rfl) (wd hw 180 rfl) (wd hw 179 rfl) (wd hw 8 rfl) (wd hw 181 rfl) X_257 (by decide) (lenOf pd_29 rfl) rfl 1 rfl rfl (by decide) (by decide) (by decide) (by decide) sl0 rfl (fun v_252 h_253 N_254 hQ_255 hle_256 => ?_)
                            obtain ⟨rfl, rfl⟩ := hQ_255
                            refine Go.rs [(.int (nar .char (([47, 47, 32, 71, 101, 110, 101, 114, 97, 116, 101, 100, 32, 98, 121, 32, 84, 121, 112, 101, 119, 114, 105, 103, 104, 116, 46, 32, 68, 111, 32, 110, 111, 116, 32, 101, 100, 105, 116, 46] : List Int32).getD 0 0 &&& (255 : Int32)))), (.int (nar .char (LL.getD 0 0 &&& (255 : Int32))))] rfl ?_
                            refine Go.icmpT (pc' := 402) at_397 ((own_c0 _ LL hLL).trans (own_c1 _).symm) (by decide) (by decide) ?_
                            refine Go.aload (pc' := 404) at_402 rfl rfl rfl ?_
                            refine Go.iload (pc' := 406) at_404 rfl rfl ?_
                            have F_258 := (Str.ext F_213 E_235)
                            refine Go.callS (a1 := a0) (pc' := 409) (argsL := [(.ref s_117), (.int (40 : Int32))]) (rest := []) (ct_at l Z a0 hw n0 h_232 s_117 b_118 LL 40 F_258 (by decide) (by omega) sf hsf F_250 cs F_251 hcs) at_406 (wd hw 198 rfl) (wd hw 199 rfl) (wd hw 2 rfl) (wd hw 200 rfl) (by decide) (lenOf pd_33 rfl) rfl 0 rfl rfl (by decide) (by decide) (by decide) (by decide) sl0 rfl (fun v_259 h_260 N_261 hQ_262 hle_263 => ?_)
                            obtain ⟨rfl, rfl⟩ := hQ_262
                            refine Go.rs [(.int (at0 LL 40))] rfl ?_
                            refine Go.aload (pc' := 411) at_409 rfl rfl rfl ?_
                            refine Go.iconst (pc' := 412) 0 at_411 rfl rfl ?_
                            have F_264 := (Arv.ext (Arv.ext F_179 E_186) E_235)
                            refine Go.caloadV (pc' := 413) (v := .int ((E_169 ++ [10]).getD 0 0)) at_412 F_264 ⟨by decide, by decide⟩ (pad_getD (E_169 ++ [10]) 0) rfl ?_
                            refine Go.icmpF (pc' := 416) at_413 (own_at (E_169 ++ [10]) LL hLL 0 40 rfl hE) rfl ?_
                            refine Go.aload (pc' := 418) at_416 rfl rfl rfl ?_
                            refine Go.iload (pc' := 420) at_418 rfl rfl ?_
                            refine Go.iconst (pc' := 421) 1 at_420 rfl rfl ?_
                            refine Go.iadd (pc' := 422) at_421 rfl ?_
                            refine Go.re (pc' := 422) (L' := #[.val (.int p0), .val (.int p1), .val (.int p2), .val (.int z1), .val (.int z2), .val (.int z3), .val (.int z4), .val (.int n1), .val (.int n2), .val (.int c1), .val (.int c2), .val (.int c3), .val (.int c4), .val (.ref s_21), .val (.ref s_33), .val (.ref a_44), .val (.int (1 : Int32)), .val (.ref s_117), .val (.ref a_128), .val (.int (Int32.ofNat (E_169 ++ [10]).length)), .val (.int (40 : Int32))]) (S' := [(.int (41 : Int32)), (.ref s_117)]) rfl rfl (congrArg (fun z => Value.int z :: _) (show (40 : Int32) + 1 = 41 by decide)) ?_
                            refine Go.callS (a1 := a0) (pc' := 425) (argsL := [(.ref s_117), (.int (41 : Int32))]) (rest := []) (ct_at l Z a0 hw n0 h_232 s_117 b_118 LL 41 F_258 (by decide) (by omega) sf hsf F_250 cs F_251 hcs) at_422 (wd hw 198 rfl) (wd hw 199 rfl) (wd hw 2 rfl) (wd hw 200 rfl) (by decide) (lenOf pd_33 rfl) rfl 0 rfl rfl (by decide) (by decide) (by decide) (by decide) sl0 rfl (fun v_265 h_266 N_267 hQ_268 hle_269 => ?_)
                            obtain ⟨rfl, rfl⟩ := hQ_268
                            refine Go.rs [(.int (at0 LL 41))] rfl ?_
                            refine Go.aload (pc' := 427) at_425 rfl rfl rfl ?_
                            refine Go.iconst (pc' := 428) 1 at_427 rfl rfl ?_
                            refine Go.caloadV (pc' := 429) (v := .int ((E_169 ++ [10]).getD 1 0)) at_428 F_264 ⟨by decide, by decide⟩ (pad_getD (E_169 ++ [10]) 1) rfl ?_
                            refine Go.icmpF (pc' := 432) at_429 (own_at (E_169 ++ [10]) LL hLL 1 41 rfl hE) rfl ?_
                            refine Go.aload (pc' := 434) at_432 rfl rfl rfl ?_
                            refine Go.iload (pc' := 436) at_434 rfl rfl ?_
                            refine Go.iconst (pc' := 437) 2 at_436 rfl rfl ?_
                            refine Go.iadd (pc' := 438) at_437 rfl ?_
                            refine Go.re (pc' := 438) (L' := #[.val (.int p0), .val (.int p1), .val (.int p2), .val (.int z1), .val (.int z2), .val (.int z3), .val (.int z4), .val (.int n1), .val (.int n2), .val (.int c1), .val (.int c2), .val (.int c3), .val (.int c4), .val (.ref s_21), .val (.ref s_33), .val (.ref a_44), .val (.int (1 : Int32)), .val (.ref s_117), .val (.ref a_128), .val (.int (Int32.ofNat (E_169 ++ [10]).length)), .val (.int (40 : Int32))]) (S' := [(.int (42 : Int32)), (.ref s_117)]) rfl rfl (congrArg (fun z => Value.int z :: _) (show (40 : Int32) + 2 = 42 by decide)) ?_
                            refine Go.callS (a1 := a0) (pc' := 441) (argsL := [(.ref s_117), (.int (42 : Int32))]) (rest := []) (ct_at l Z a0 hw n0 h_232 s_117 b_118 LL 42 F_258 (by decide) (by omega) sf hsf F_250 cs F_251 hcs) at_438 (wd hw 198 rfl) (wd hw 199 rfl) (wd hw 2 rfl) (wd hw 200 rfl) (by decide) (lenOf pd_33 rfl) rfl 0 rfl rfl (by decide) (by decide) (by decide) (by decide) sl0 rfl (fun v_270 h_271 N_272 hQ_273 hle_274 => ?_)
                            obtain ⟨rfl, rfl⟩ := hQ_273
                            refine Go.rs [(.int (at0 LL 42))] rfl ?_
                            refine Go.aload (pc' := 443) at_441 rfl rfl rfl ?_
                            refine Go.iconst (pc' := 444) 2 at_443 rfl rfl ?_
                            refine Go.caloadV (pc' := 445) (v := .int ((E_169 ++ [10]).getD 2 0)) at_444 F_264 ⟨by decide, by decide⟩ (pad_getD (E_169 ++ [10]) 2) rfl ?_
                            refine Go.icmpF (pc' := 448) at_445 (own_at (E_169 ++ [10]) LL hLL 2 42 rfl hE) rfl ?_
                            refine Go.aload (pc' := 450) at_448 rfl rfl rfl ?_
                            refine Go.iload (pc' := 452) at_450 rfl rfl ?_
                            refine Go.iconst (pc' := 453) 3 at_452 rfl rfl ?_
                            refine Go.iadd (pc' := 454) at_453 rfl ?_
                            refine Go.re (pc' := 454) (L' := #[.val (.int p0), .val (.int p1), .val (.int p2), .val (.int z1), .val (.int z2), .val (.int z3), .val (.int z4), .val (.int n1), .val (.int n2), .val (.int c1), .val (.int c2), .val (.int c3), .val (.int c4), .val (.ref s_21), .val (.ref s_33), .val (.ref a_44), .val (.int (1 : Int32)), .val (.ref s_117), .val (.ref a_128), .val (.int (Int32.ofNat (E_169 ++ [10]).length)), .val (.int (40 : Int32))]) (S' := [(.int (43 : Int32)), (.ref s_117)]) rfl rfl (congrArg (fun z => Value.int z :: _) (show (40 : Int32) + 3 = 43 by decide)) ?_
                            refine Go.callS (a1 := a0) (pc' := 457) (argsL := [(.ref s_117), (.int (43 : Int32))]) (rest := []) (ct_at l Z a0 hw n0 h_232 s_117 b_118 LL 43 F_258 (by decide) (by omega) sf hsf F_250 cs F_251 hcs) at_454 (wd hw 198 rfl) (wd hw 199 rfl) (wd hw 2 rfl) (wd hw 200 rfl) (by decide) (lenOf pd_33 rfl) rfl 0 rfl rfl (by decide) (by decide) (by decide) (by decide) sl0 rfl (fun v_275 h_276 N_277 hQ_278 hle_279 => ?_)
                            obtain ⟨rfl, rfl⟩ := hQ_278
                            refine Go.rs [(.int (at0 LL 43))] rfl ?_
                            refine Go.aload (pc' := 459) at_457 rfl rfl rfl ?_
                            refine Go.iconst (pc' := 460) 3 at_459 rfl rfl ?_
                            refine Go.caloadV (pc' := 461) (v := .int ((E_169 ++ [10]).getD 3 0)) at_460 F_264 ⟨by decide, by decide⟩ (pad_getD (E_169 ++ [10]) 3) rfl ?_
                            refine Go.icmpF (pc' := 464) at_461 (own_at (E_169 ++ [10]) LL hLL 3 43 rfl hE) rfl ?_
                            refine Go.aload (pc' := 466) at_464 rfl rfl rfl ?_
                            refine Go.iload (pc' := 468) at_466 rfl rfl ?_
                            refine Go.iconst (pc' := 469) 4 at_468 rfl rfl ?_
                            refine Go.iadd (pc' := 470) at_469 rfl ?_
                            refine Go.re (pc' := 470) (L' := #[.val (.int p0), .val (.int p1), .val (.int p2), .val (.int z1), .val (.int z2), .val (.int z3), .val (.int z4), .val (.int n1), .val (.int n2), .val (.int c1), .val (.int c2), .val (.int c3), .val (.int c4), .val (.ref s_21), .val (.ref s_33), .val (.ref a_44), .val (.int (1 : Int32)), .val (.ref s_117), .val (.ref a_128), .val (.int (Int32.ofNat (E_169 ++ [10]).length)), .val (.int (40 : Int32))]) (S' := [(.int (44 : Int32)), (.ref s_117)]) rfl rfl (congrArg (fun z => Value.int z :: _) (show (40 : Int32) + 4 = 44 by decide)) ?_
                            refine Go.callS (a1 := a0) (pc' := 473) (argsL := [(.ref s_117), (.int (44 : Int32))]) (rest := []) (ct_at l Z a0 hw n0 h_232 s_117 b_118 LL 44 F_258 (by decide) (by omega) sf hsf F_250 cs F_251 hcs) at_470 (wd hw 198 rfl) (wd hw 199 rfl) (wd hw 2 rfl) (wd hw 200 rfl) (by decide) (lenOf pd_33 rfl) rfl 0 rfl rfl (by decide) (by decide) (by decide) (by decide) sl0 rfl (fun v_280 h_281 N_282 hQ_283 hle_284 => ?_)
                            obtain ⟨rfl, rfl⟩ := hQ_283
                            refine Go.rs [(.int (at0 LL 44))] rfl ?_
                            refine Go.aload (pc' := 475) at_473 rfl rfl rfl ?_
                            refine Go.iconst (pc' := 476) 4 at_475 rfl rfl ?_
                            refine Go.caloadV (pc' := 477) (v := .int ((E_169 ++ [10]).getD 4 0)) at_476 F_264 ⟨by decide, by decide⟩ (pad_getD (E_169 ++ [10]) 4) rfl ?_
                            refine Go.icmpF (pc' := 480) at_477 (own_at (E_169 ++ [10]) LL hLL 4 44 rfl hE) rfl ?_
                            refine Go.aload (pc' := 482) at_480 rfl rfl rfl ?_
                            refine Go.iload (pc' := 484) at_482 rfl rfl ?_
                            refine Go.iconst (pc' := 485) 5 at_484 rfl rfl ?_
                            refine Go.iadd (pc' := 486) at_485 rfl ?_
                            refine Go.re (pc' := 486) (L' := #[.val (.int p0), .val (.int p1), .val (.int p2), .val (.int z1), .val (.int z2), .val (.int z3), .val (.int z4), .val (.int n1), .val (.int n2), .val (.int c1), .val (.int c2), .val (.int c3), .val (.int c4), .val (.ref s_21), .val (.ref s_33), .val (.ref a_44), .val (.int (1 : Int32)), .val (.ref s_117), .val (.ref a_128), .val (.int (Int32.ofNat (E_169 ++ [10]).length)), .val (.int (40 : Int32))]) (S' := [(.int (45 : Int32)), (.ref s_117)]) rfl rfl (congrArg (fun z => Value.int z :: _) (show (40 : Int32) + 5 = 45 by decide)) ?_
                            refine Go.callS (a1 := a0) (pc' := 489) (argsL := [(.ref s_117), (.int (45 : Int32))]) (rest := []) (ct_at l Z a0 hw n0 h_232 s_117 b_118 LL 45 F_258 (by decide) (by omega) sf hsf F_250 cs F_251 hcs) at_486 (wd hw 198 rfl) (wd hw 199 rfl) (wd hw 2 rfl) (wd hw 200 rfl) (by decide) (lenOf pd_33 rfl) rfl 0 rfl rfl (by decide) (by decide) (by decide) (by decide) sl0 rfl (fun v_285 h_286 N_287 hQ_288 hle_289 => ?_)
                            obtain ⟨rfl, rfl⟩ := hQ_288
                            refine Go.rs [(.int (at0 LL 45))] rfl ?_
                            refine Go.aload (pc' := 491) at_489 rfl rfl rfl ?_
                            refine Go.iconst (pc' := 492) 5 at_491 rfl rfl ?_
                            refine Go.caloadV (pc' := 493) (v := .int ((E_169 ++ [10]).getD 5 0)) at_492 F_264 ⟨by decide, by decide⟩ (pad_getD (E_169 ++ [10]) 5) rfl ?_
                            refine Go.icmpF (pc' := 496) at_493 (own_at (E_169 ++ [10]) LL hLL 5 45 rfl hE) rfl ?_
                            refine Go.aload (pc' := 498) at_496 rfl rfl rfl ?_
                            refine Go.iload (pc' := 500) at_498 rfl rfl ?_
                            refine Go.bipush (pc' := 502) 6 at_500 rfl rfl ?_
                            refine Go.iadd (pc' := 503) at_502 rfl ?_
                            refine Go.re (pc' := 503) (L' := #[.val (.int p0), .val (.int p1), .val (.int p2), .val (.int z1), .val (.int z2), .val (.int z3), .val (.int z4), .val (.int n1), .val (.int n2), .val (.int c1), .val (.int c2), .val (.int c3), .val (.int c4), .val (.ref s_21), .val (.ref s_33), .val (.ref a_44), .val (.int (1 : Int32)), .val (.ref s_117), .val (.ref a_128), .val (.int (Int32.ofNat (E_169 ++ [10]).length)), .val (.int (40 : Int32))]) (S' := [(.int (46 : Int32)), (.ref s_117)]) rfl rfl (congrArg (fun z => Value.int z :: _) (show (40 : Int32) + 6 = 46 by decide)) ?_
                            refine Go.callS (a1 := a0) (pc' := 506) (argsL := [(.ref s_117), (.int (46 : Int32))]) (rest := []) (ct_at l Z a0 hw n0 h_232 s_117 b_118 LL 46 F_258 (by decide) (by omega) sf hsf F_250 cs F_251 hcs) at_503 (wd hw 198 rfl) (wd hw 199 rfl) (wd hw 2 rfl) (wd hw 200 rfl) (by decide) (lenOf pd_33 rfl) rfl 0 rfl rfl (by decide) (by decide) (by decide) (by decide) sl0 rfl (fun v_290 h_291 N_292 hQ_293 hle_294 => ?_)
                            obtain ⟨rfl, rfl⟩ := hQ_293
                            refine Go.rs [(.int (at0 LL 46))] rfl ?_
                            refine Go.aload (pc' := 508) at_506 rfl rfl rfl ?_
                            refine Go.bipush (pc' := 510) 6 at_508 rfl rfl ?_
                            refine Go.caloadV (pc' := 511) (v := .int ((E_169 ++ [10]).getD 6 0)) at_510 F_264 ⟨by decide, by decide⟩ (pad_getD (E_169 ++ [10]) 6) rfl ?_
                            refine Go.icmpF (pc' := 514) at_511 (own_at (E_169 ++ [10]) LL hLL 6 46 rfl hE) rfl ?_
                            refine Go.aload (pc' := 516) at_514 rfl rfl rfl ?_
                            refine Go.iload (pc' := 518) at_516 rfl rfl ?_
                            refine Go.bipush (pc' := 520) 7 at_518 rfl rfl ?_
                            refine Go.iadd (pc' := 521) at_520 rfl ?_
                            refine Go.re (pc' := 521) (L' := #[.val (.int p0), .val (.int p1), .val (.int p2), .val (.int z1), .val (.int z2), .val (.int z3), .val (.int z4), .val (.int n1), .val (.int n2), .val (.int c1), .val (.int c2), .val (.int c3), .val (.int c4), .val (.ref s_21), .val (.ref s_33), .val (.ref a_44), .val (.int (1 : Int32)), .val (.ref s_117), .val (.ref a_128), .val (.int (Int32.ofNat (E_169 ++ [10]).length)), .val (.int (40 : Int32))]) (S' := [(.int (47 : Int32)), (.ref s_117)]) rfl rfl (congrArg (fun z => Value.int z :: _) (show (40 : Int32) + 7 = 47 by decide)) ?_
                            refine Go.callS (a1 := a0) (pc' := 524) (argsL := [(.ref s_117), (.int (47 : Int32))]) (rest := []) (ct_at l Z a0 hw n0 h_232 s_117 b_118 LL 47 F_258 (by decide) (by omega) sf hsf F_250 cs F_251 hcs) at_521 (wd hw 198 rfl) (wd hw 199 rfl) (wd hw 2 rfl) (wd hw 200 rfl) (by decide) (lenOf pd_33 rfl) rfl 0 rfl rfl (by decide) (by decide) (by decide) (by decide) sl0 rfl (fun v_295 h_296 N_297 hQ_298 hle_299 => ?_)
                            obtain ⟨rfl, rfl⟩ := hQ_298
                            refine Go.rs [(.int (at0 LL 47))] rfl ?_
                            refine Go.aload (pc' := 526) at_524 rfl rfl rfl ?_
                            refine Go.bipush (pc' := 528) 7 at_526 rfl rfl ?_
                            refine Go.caloadV (pc' := 529) (v := .int ((E_169 ++ [10]).getD 7 0)) at_528 F_264 ⟨by decide, by decide⟩ (pad_getD (E_169 ++ [10]) 7) rfl ?_
                            refine Go.icmpF (pc' := 532) at_529 (own_at (E_169 ++ [10]) LL hLL 7 47 rfl hE) rfl ?_
                            refine Go.aload (pc' := 534) at_532 rfl rfl rfl ?_
                            refine Go.iload (pc' := 536) at_534 rfl rfl ?_
                            refine Go.bipush (pc' := 538) 8 at_536 rfl rfl ?_
                            refine Go.iadd (pc' := 539) at_538 rfl ?_
                            refine Go.re (pc' := 539) (L' := #[.val (.int p0), .val (.int p1), .val (.int p2), .val (.int z1), .val (.int z2), .val (.int z3), .val (.int z4), .val (.int n1), .val (.int n2), .val (.int c1), .val (.int c2), .val (.int c3), .val (.int c4), .val (.ref s_21), .val (.ref s_33), .val (.ref a_44), .val (.int (1 : Int32)), .val (.ref s_117), .val (.ref a_128), .val (.int (Int32.ofNat (E_169 ++ [10]).length)), .val (.int (40 : Int32))]) (S' := [(.int (48 : Int32)), (.ref s_117)]) rfl rfl (congrArg (fun z => Value.int z :: _) (show (40 : Int32) + 8 = 48 by decide)) ?_
                            refine Go.callS (a1 := a0) (pc' := 542) (argsL := [(.ref s_117), (.int (48 : Int32))]) (rest := []) (ct_at l Z a0 hw n0 h_232 s_117 b_118 LL 48 F_258 (by decide) (by omega) sf hsf F_250 cs F_251 hcs) at_539 (wd hw 198 rfl) (wd hw 199 rfl) (wd hw 2 rfl) (wd hw 200 rfl) (by decide) (lenOf pd_33 rfl) rfl 0 rfl rfl (by decide) (by decide) (by decide) (by decide) sl0 rfl (fun v_300 h_301 N_302 hQ_303 hle_304 => ?_)
                            obtain ⟨rfl, rfl⟩ := hQ_303
                            refine Go.rs [(.int (at0 LL 48))] rfl ?_
                            refine Go.aload (pc' := 544) at_542 rfl rfl rfl ?_
                            refine Go.bipush (pc' := 546) 8 at_544 rfl rfl ?_
                            refine Go.caloadV (pc' := 547) (v := .int ((E_169 ++ [10]).getD 8 0)) at_546 F_264 ⟨by decide, by decide⟩ (pad_getD (E_169 ++ [10]) 8) rfl ?_
                            refine Go.icmpF (pc' := 550) at_547 (own_at (E_169 ++ [10]) LL hLL 8 48 rfl hE) rfl ?_
                            refine Go.iconst (pc' := 551) 1 at_550 rfl rfl ?_
                            refine Go.goto (pc' := 555) at_551 (by decide) (by decide) ?_
                            refine Go.retN (t := .boolean) (1 : Int32) rfl (by simp) rfl [] sl0 at_555 (by decide) (by decide) ?_
                            exact rfl
                          · rcases hn2 with rfl | rfl | rfl
                            · refine Go.iload (pc' := 317) at_315 rfl rfl ?_
                              refine Go.ifT (pc' := 330) at_317 (show ¬ ((0 : Int32) < (0 : Int32)) by decide) (by decide) (by decide) ?_
                              refine Go.iload (pc' := 332) at_330 rfl rfl ?_
                              refine Go.iconst (pc' := 333) 1 at_332 rfl rfl ?_
                              refine Go.icmpT (pc' := 346) at_333 (show ¬ ((1 : Int32) < (0 : Int32)) by decide) (by decide) (by decide) ?_
                              exact Go.mono (by simp) (cut346 _ _ ⟨J_164, J_165, J_166, J_167, by omega, (by rw [own_mk0, List.append_nil])⟩)
                            · refine Go.iload (pc' := 317) at_315 rfl rfl ?_
                              refine Go.ifF (pc' := 320) at_317 (show (0 : Int32) < (1 : Int32) by decide) rfl ?_
                              refine Go.aload (pc' := 322) at_320 rfl rfl rfl ?_
                              refine Go.iload (pc' := 324) at_322 rfl rfl ?_
                              refine Go.iload (pc' := 326) at_324 rfl rfl ?_
                              refine Go.castoreV (pc' := 327) E_161.length at_326 J_164 ⟨ofN_nn (by (try simp only [List.length_append, List.length_cons, List.length_nil]) <;> omega), (ofN_lt (n := 9) (by (try simp only [List.length_append, List.length_cons, List.length_nil]) <;> omega) (by decide)).mpr (by (try simp only [List.length_append, List.length_cons, List.length_nil]) <;> omega)⟩ (ofN_nat (by (try simp only [List.length_append, List.length_cons, List.length_nil]) <;> omega)) (by rw [pad_len _ (by (try simp only [List.length_append, List.length_cons, List.length_nil]) <;> omega)]; exact (by (try simp only [List.length_append, List.length_cons, List.length_nil]) <;> omega)) (by omega) rfl (fun h_305 W_306 A_307 => ?_)
                              have szh_305 : h_305.size = h_160.size := Wr.size W_306
                              have F_308 : Arv Z h_305 a_128 cA_130 .char (9 : Int32) (pad (E_161 ++ [c3])) (.int 0) := by have q := A_307; rw [own_nch hc3a hc3b, pad_set _ _ (by (try simp only [List.length_append, List.length_cons, List.length_nil]) <;> omega)] at q; exact q
                              refine Go.iinc (pc' := 330) (Int32.ofNat (E_161 ++ [c3]).length) #[.val (.int p0), .val (.int p1), .val (.int p2), .val (.int z1), .val (.int z2), .val (.int z3), .val (.int z4), .val (.int n1), .val (.int (1 : Int32)), .val (.int c1), .val (.int c2), .val (.int c3), .val (.int c4), .val (.ref s_21), .val (.ref s_33), .val (.ref a_44), .val (.int (1 : Int32)), .val (.ref s_117), .val (.ref a_128), .val (.int (Int32.ofNat (E_161 ++ [c3]).length)), .unset] at_327 rfl (own_inc E_161 c3) rfl rfl ?_
                              refine Go.iload (pc' := 332) at_330 rfl rfl ?_
                              refine Go.iconst (pc' := 333) 1 at_332 rfl rfl ?_
                              refine Go.icmpT (pc' := 346) at_333 (show ¬ ((1 : Int32) < (1 : Int32)) by decide) (by decide) (by decide) ?_
                              have F_309 := (Str.keep J_165 (Keep.of_wr W_306) (ninS (nne (by omega)) nin0) (ninS (nne (by omega)) nin0))
                              have F_310 := (Sta.wr W_306 J_166)
                              have F_311 := (Sta.wr W_306 J_167)
                              exact Go.mono (by simp) (cut346 _ _ ⟨F_308, F_309, F_310, F_311, by omega, (by rw [own_mk1])⟩)
                            · refine Go.iload (pc' := 317) at_315 rfl rfl ?_
                              refine Go.ifF (pc' := 320) at_317 (show (0 : Int32) < (2 : Int32) by decide) rfl ?_
                              refine Go.aload (pc' := 322) at_320 rfl rfl rfl ?_
                              refine Go.iload (pc' := 324) at_322 rfl rfl ?_
                              refine Go.iload (pc' := 326) at_324 rfl rfl ?_
                              refine Go.castoreV (pc' := 327) E_161.length at_326 J_164 ⟨ofN_nn (by (try simp only [List.length_append, List.length_cons, List.length_nil]) <;> omega), (ofN_lt (n := 9) (by (try simp only [List.length_append, List.length_cons, List.length_nil]) <;> omega) (by decide)).mpr (by (try simp only [List.length_append, List.length_cons, List.length_nil]) <;> omega)⟩ (ofN_nat (by (try simp only [List.length_append, List.length_cons, List.length_nil]) <;> omega)) (by rw [pad_len _ (by (try simp only [List.length_append, List.length_cons, List.length_nil]) <;> omega)]; exact (by (try simp only [List.length_append, List.length_cons, List.length_nil]) <;> omega)) (by omega) rfl (fun h_312 W_313 A_314 => ?_)
                              have szh_312 : h_312.size = h_160.size := Wr.size W_313
                              have F_315 : Arv Z h_312 a_128 cA_130 .char (9 : Int32) (pad (E_161 ++ [c3])) (.int 0) := by have q := A_314; rw [own_nch hc3a hc3b, pad_set _ _ (by (try simp only [List.length_append, List.length_cons, List.length_nil]) <;> omega)] at q; exact q
                              refine Go.iinc (pc' := 330) (Int32.ofNat (E_161 ++ [c3]).length) #[.val (.int p0), .val (.int p1), .val (.int p2), .val (.int z1), .val (.int z2), .val (.int z3), .val (.int z4), .val (.int n1), .val (.int (2 : Int32)), .val (.int c1), .val (.int c2), .val (.int c3), .val (.int c4), .val (.ref s_21), .val (.ref s_33), .val (.ref a_44), .val (.int (1 : Int32)), .val (.ref s_117), .val (.ref a_128), .val (.int (Int32.ofNat (E_161 ++ [c3]).length)), .unset] at_327 rfl (own_inc E_161 c3) rfl rfl ?_
                              refine Go.iload (pc' := 332) at_330 rfl rfl ?_
                              refine Go.iconst (pc' := 333) 1 at_332 rfl rfl ?_
                              refine Go.icmpF (pc' := 336) at_333 (show (1 : Int32) < (2 : Int32) by decide) rfl ?_
                              refine Go.aload (pc' := 338) at_336 rfl rfl rfl ?_
                              refine Go.iload (pc' := 340) at_338 rfl rfl ?_
                              refine Go.iload (pc' := 342) at_340 rfl rfl ?_
                              refine Go.castoreV (pc' := 343) (E_161 ++ [c3]).length at_342 F_315 ⟨ofN_nn (by (try simp only [List.length_append, List.length_cons, List.length_nil]) <;> omega), (ofN_lt (n := 9) (by (try simp only [List.length_append, List.length_cons, List.length_nil]) <;> omega) (by decide)).mpr (by (try simp only [List.length_append, List.length_cons, List.length_nil]) <;> omega)⟩ (ofN_nat (by (try simp only [List.length_append, List.length_cons, List.length_nil]) <;> omega)) (by rw [pad_len _ (by (try simp only [List.length_append, List.length_cons, List.length_nil]) <;> omega)]; exact (by (try simp only [List.length_append, List.length_cons, List.length_nil]) <;> omega)) (by omega) rfl (fun h_316 W_317 A_318 => ?_)
                              have szh_316 : h_316.size = h_312.size := Wr.size W_317
                              have F_319 : Arv Z h_316 a_128 cA_130 .char (9 : Int32) (pad ((E_161 ++ [c3]) ++ [c4])) (.int 0) := by have q := A_318; rw [own_nch hc4a hc4b, pad_set _ _ (by (try simp only [List.length_append, List.length_cons, List.length_nil]) <;> omega)] at q; exact q
                              refine Go.iinc (pc' := 346) (Int32.ofNat ((E_161 ++ [c3]) ++ [c4]).length) #[.val (.int p0), .val (.int p1), .val (.int p2), .val (.int z1), .val (.int z2), .val (.int z3), .val (.int z4), .val (.int n1), .val (.int (2 : Int32)), .val (.int c1), .val (.int c2), .val (.int c3), .val (.int c4), .val (.ref s_21), .val (.ref s_33), .val (.ref a_44), .val (.int (1 : Int32)), .val (.ref s_117), .val (.ref a_128), .val (.int (Int32.ofNat ((E_161 ++ [c3]) ++ [c4]).length)), .unset] at_343 rfl (own_inc (E_161 ++ [c3]) c4) rfl rfl ?_
                              have F_320 := (Str.keep (Str.keep J_165 (Keep.of_wr W_313) (ninS (nne (by omega)) nin0) (ninS (nne (by omega)) nin0)) (Keep.of_wr W_317) (ninS (nne (by omega)) nin0) (ninS (nne (by omega)) nin0))
                              have F_321 := (Sta.wr W_317 (Sta.wr W_313 J_166))
                              have F_322 := (Sta.wr W_317 (Sta.wr W_313 J_167))
                              exact Go.mono (by simp) (cut346 _ _ ⟨F_319, F_320, F_321, F_322, by omega, (by rw [own_mk2, List.append_assoc]; rfl)⟩)
                        · refine Go.iload (pc' := 297) at_295 rfl rfl ?_
                          refine Go.ifc (pc' := 305) (pc'' := 300) at_297 (by decide) (by decide) rfl (fun hc_323 => ?_) (fun hc_323 => ?_)
                          · have hc_323 : ¬ (z2 = 0) := hc_323
                            refine Go.aload (pc' := 307) at_305 rfl rfl rfl ?_
                            refine Go.iload (pc' := 309) at_307 rfl rfl ?_
                            refine Go.bipush (pc' := 311) 10 at_309 rfl rfl ?_
                            refine Go.castoreV (pc' := 312) (E_149 ++ [10]).length at_311 F_159 ⟨ofN_nn (by (try simp only [List.length_append, List.length_cons, List.length_nil]) <;> omega), (ofN_lt (n := 9) (by (try simp only [List.length_append, List.length_cons, List.length_nil]) <;> omega) (by decide)).mpr (by (try simp only [List.length_append, List.length_cons, List.length_nil]) <;> omega)⟩ (ofN_nat (by (try simp only [List.length_append, List.length_cons, List.length_nil]) <;> omega)) (by rw [pad_len _ (by (try simp only [List.length_append, List.length_cons, List.length_nil]) <;> omega)]; exact (by (try simp only [List.length_append, List.length_cons, List.length_nil]) <;> omega)) (by omega) rfl (fun h_324 W_325 A_326 => ?_)
                            have szh_324 : h_324.size = h_156.size := Wr.size W_325
                            have F_327 : Arv Z h_324 a_128 cA_130 .char (9 : Int32) (pad ((E_149 ++ [10]) ++ [10])) (.int 0) := by have q := A_326; rw [nar10, pad_set _ _ (by (try simp only [List.length_append, List.length_cons, List.length_nil]) <;> omega)] at q; exact q
                            refine Go.iinc (pc' := 315) (Int32.ofNat ((E_149 ++ [10]) ++ [10]).length) #[.val (.int p0), .val (.int p1), .val (.int p2), .val (.int z1), .val (.int z2), .val (.int z3), .val (.int z4), .val (.int n1), .val (.int n2), .val (.int c1), .val (.int c2), .val (.int c3), .val (.int c4), .val (.ref s_21), .val (.ref s_33), .val (.ref a_44), .val (.int (1 : Int32)), .val (.ref s_117), .val (.ref a_128), .val (.int (Int32.ofNat ((E_149 ++ [10]) ++ [10]).length)), .unset] at_312 rfl (own_inc (E_149 ++ [10]) 10) rfl rfl ?_
                            have F_328 := (Str.keep (Str.keep J_153 (Keep.of_wr W_157) (ninS (nne (by omega)) nin0) (ninS (nne (by omega)) nin0)) (Keep.of_wr W_325) (ninS (nne (by omega)) nin0) (ninS (nne (by omega)) nin0))
                            have F_329 := (Sta.wr W_325 (Sta.wr W_157 J_154))
                            have F_330 := (Sta.wr W_325 (Sta.wr W_157 J_155))
                            exact Go.mono (by simp) (cut315 _ _ ⟨F_327, F_328, F_329, F_330, by omega, (by rw [show or2 z2 z3 = 1 by simp [or2, hc_323], own_nl1])⟩)
                          · have hc_323 : z2 = 0 := hc_323
                            refine Go.iload (pc' := 302) at_300 rfl rfl ?_
                            refine Go.ifc (pc' := 315) (pc'' := 305) at_302 (by decide) (by decide) rfl (fun hc_331 => ?_) (fun hc_331 => ?_)
                            · have hc_331 : z3 = 0 := hc_331
                              have F_332 := (Str.keep J_153 (Keep.of_wr W_157) (ninS (nne (by omega)) nin0) (ninS (nne (by omega)) nin0))
                              have F_333 := (Sta.wr W_157 J_154)
                              have F_334 := (Sta.wr W_157 J_155)
                              exact Go.mono (by simp) (cut315 _ _ ⟨F_159, F_332, F_333, F_334, by omega, (by rw [show or2 z2 z3 = 0 by simp [or2, hc_323, hc_331], own_nl0, List.append_nil])⟩)
                            · have hc_331 : ¬ (z3 = 0) := hc_331
                              refine Go.aload (pc' := 307) at_305 rfl rfl rfl ?_
                              refine Go.iload (pc' := 309) at_307 rfl rfl ?_
                              refine Go.bipush (pc' := 311) 10 at_309 rfl rfl ?_
                              refine Go.castoreV (pc' := 312) (E_149 ++ [10]).length at_311 F_159 ⟨ofN_nn (by (try simp only [List.length_append, List.length_cons, List.length_nil]) <;> omega), (ofN_lt (n := 9) (by (try simp only [List.length_append, List.length_cons, List.length_nil]) <;> omega) (by decide)).mpr (by (try simp only [List.length_append, List.length_cons, List.length_nil]) <;> omega)⟩ (ofN_nat (by (try simp only [List.length_append, List.length_cons, List.length_nil]) <;> omega)) (by rw [pad_len _ (by (try simp only [List.length_append, List.length_cons, List.length_nil]) <;> omega)]; exact (by (try simp only [List.length_append, List.length_cons, List.length_nil]) <;> omega)) (by omega) rfl (fun h_335 W_336 A_337 => ?_)
                              have szh_335 : h_335.size = h_156.size := Wr.size W_336
                              have F_338 : Arv Z h_335 a_128 cA_130 .char (9 : Int32) (pad ((E_149 ++ [10]) ++ [10])) (.int 0) := by have q := A_337; rw [nar10, pad_set _ _ (by (try simp only [List.length_append, List.length_cons, List.length_nil]) <;> omega)] at q; exact q
                              refine Go.iinc (pc' := 315) (Int32.ofNat ((E_149 ++ [10]) ++ [10]).length) #[.val (.int p0), .val (.int p1), .val (.int p2), .val (.int z1), .val (.int z2), .val (.int z3), .val (.int z4), .val (.int n1), .val (.int n2), .val (.int c1), .val (.int c2), .val (.int c3), .val (.int c4), .val (.ref s_21), .val (.ref s_33), .val (.ref a_44), .val (.int (1 : Int32)), .val (.ref s_117), .val (.ref a_128), .val (.int (Int32.ofNat ((E_149 ++ [10]) ++ [10]).length)), .unset] at_312 rfl (own_inc (E_149 ++ [10]) 10) rfl rfl ?_
                              have F_339 := (Str.keep (Str.keep J_153 (Keep.of_wr W_157) (ninS (nne (by omega)) nin0) (ninS (nne (by omega)) nin0)) (Keep.of_wr W_336) (ninS (nne (by omega)) nin0) (ninS (nne (by omega)) nin0))
                              have F_340 := (Sta.wr W_336 (Sta.wr W_157 J_154))
                              have F_341 := (Sta.wr W_336 (Sta.wr W_157 J_155))
                              exact Go.mono (by simp) (cut315 _ _ ⟨F_338, F_339, F_340, F_341, by omega, (by rw [show or2 z2 z3 = 1 by simp [or2, hc_323, hc_331], own_nl1])⟩)
                      · rcases hn1 with rfl | rfl | rfl
                        · refine Go.iload (pc' := 256) at_254 rfl rfl ?_
                          refine Go.ifT (pc' := 269) at_256 (show ¬ ((0 : Int32) < (0 : Int32)) by decide) (by decide) (by decide) ?_
                          refine Go.iload (pc' := 271) at_269 rfl rfl ?_
                          refine Go.iconst (pc' := 272) 1 at_271 rfl rfl ?_
                          refine Go.icmpT (pc' := 285) at_272 (show ¬ ((1 : Int32) < (0 : Int32)) by decide) (by decide) (by decide) ?_
                          exact Go.mono (by simp) (cut285 _ _ ⟨J_144, J_145, J_146, J_147, by omega, (by rw [own_mk0, List.append_nil])⟩)
                        · refine Go.iload (pc' := 256) at_254 rfl rfl ?_
                          refine Go.ifF (pc' := 259) at_256 (show (0 : Int32) < (1 : Int32) by decide) rfl ?_
                          refine Go.aload (pc' := 261) at_259 rfl rfl rfl ?_
                          refine Go.iload (pc' := 263) at_261 rfl rfl ?_
                          refine Go.iload (pc' := 265) at_263 rfl rfl ?_
                          refine Go.castoreV (pc' := 266) E_141.length at_265 J_144 ⟨ofN_nn (by (try simp only [List.length_append, List.length_cons, List.length_nil]) <;> omega), (ofN_lt (n := 9) (by (try simp only [List.length_append, List.length_cons, List.length_nil]) <;> omega) (by decide)).mpr (by (try simp only [List.length_append, List.length_cons, List.length_nil]) <;> omega)⟩ (ofN_nat (by (try simp only [List.length_append, List.length_cons, List.length_nil]) <;> omega)) (by rw [pad_len _ (by (try simp only [List.length_append, List.length_cons, List.length_nil]) <;> omega)]; exact (by (try simp only [List.length_append, List.length_cons, List.length_nil]) <;> omega)) (by omega) rfl (fun h_342 W_343 A_344 => ?_)
                          have szh_342 : h_342.size = h_140.size := Wr.size W_343
                          have F_345 : Arv Z h_342 a_128 cA_130 .char (9 : Int32) (pad (E_141 ++ [c1])) (.int 0) := by have q := A_344; rw [own_nch hc1a hc1b, pad_set _ _ (by (try simp only [List.length_append, List.length_cons, List.length_nil]) <;> omega)] at q; exact q
                          refine Go.iinc (pc' := 269) (Int32.ofNat (E_141 ++ [c1]).length) #[.val (.int p0), .val (.int p1), .val (.int p2), .val (.int z1), .val (.int z2), .val (.int z3), .val (.int z4), .val (.int (1 : Int32)), .val (.int n2), .val (.int c1), .val (.int c2), .val (.int c3), .val (.int c4), .val (.ref s_21), .val (.ref s_33), .val (.ref a_44), .val (.int (1 : Int32)), .val (.ref s_117), .val (.ref a_128), .val (.int (Int32.ofNat (E_141 ++ [c1]).length)), .unset] at_266 rfl (own_inc E_141 c1) rfl rfl ?_
                          refine Go.iload (pc' := 271) at_269 rfl rfl ?_
                          refine Go.iconst (pc' := 272) 1 at_271 rfl rfl ?_
                          refine Go.icmpT (pc' := 285) at_272 (show ¬ ((1 : Int32) < (1 : Int32)) by decide) (by decide) (by decide) ?_
                          have F_346 := (Str.keep J_145 (Keep.of_wr W_343) (ninS (nne (by omega)) nin0) (ninS (nne (by omega)) nin0))
                          have F_347 := (Sta.wr W_343 J_146)
                          have F_348 := (Sta.wr W_343 J_147)
                          exact Go.mono (by simp) (cut285 _ _ ⟨F_345, F_346, F_347, F_348, by omega, (by rw [own_mk1])⟩)
                        · refine Go.iload (pc' := 256) at_254 rfl rfl ?_
                          refine Go.ifF (pc' := 259) at_256 (show (0 : Int32) < (2 : Int32) by decide) rfl ?_
                          refine Go.aload (pc' := 261) at_259 rfl rfl rfl ?_
                          refine Go.iload (pc' := 263) at_261 rfl rfl ?_
                          refine Go.iload (pc' := 265) at_263 rfl rfl ?_
                          refine Go.castoreV (pc' := 266) E_141.length at_265 J_144 ⟨ofN_nn (by (try simp only [List.length_append, List.length_cons, List.length_nil]) <;> omega), (ofN_lt (n := 9) (by (try simp only [List.length_append, List.length_cons, List.length_nil]) <;> omega) (by decide)).mpr (by (try simp only [List.length_append, List.length_cons, List.length_nil]) <;> omega)⟩ (ofN_nat (by (try simp only [List.length_append, List.length_cons, List.length_nil]) <;> omega)) (by rw [pad_len _ (by (try simp only [List.length_append, List.length_cons, List.length_nil]) <;> omega)]; exact (by (try simp only [List.length_append, List.length_cons, List.length_nil]) <;> omega)) (by omega) rfl (fun h_349 W_350 A_351 => ?_)
                          have szh_349 : h_349.size = h_140.size := Wr.size W_350
                          have F_352 : Arv Z h_349 a_128 cA_130 .char (9 : Int32) (pad (E_141 ++ [c1])) (.int 0) := by have q := A_351; rw [own_nch hc1a hc1b, pad_set _ _ (by (try simp only [List.length_append, List.length_cons, List.length_nil]) <;> omega)] at q; exact q
                          refine Go.iinc (pc' := 269) (Int32.ofNat (E_141 ++ [c1]).length) #[.val (.int p0), .val (.int p1), .val (.int p2), .val (.int z1), .val (.int z2), .val (.int z3), .val (.int z4), .val (.int (2 : Int32)), .val (.int n2), .val (.int c1), .val (.int c2), .val (.int c3), .val (.int c4), .val (.ref s_21), .val (.ref s_33), .val (.ref a_44), .val (.int (1 : Int32)), .val (.ref s_117), .val (.ref a_128), .val (.int (Int32.ofNat (E_141 ++ [c1]).length)), .unset] at_266 rfl (own_inc E_141 c1) rfl rfl ?_
                          refine Go.iload (pc' := 271) at_269 rfl rfl ?_
                          refine Go.iconst (pc' := 272) 1 at_271 rfl rfl ?_
                          refine Go.icmpF (pc' := 275) at_272 (show (1 : Int32) < (2 : Int32) by decide) rfl ?_
                          refine Go.aload (pc' := 277) at_275 rfl rfl rfl ?_
                          refine Go.iload (pc' := 279) at_277 rfl rfl ?_
                          refine Go.iload (pc' := 281) at_279 rfl rfl ?_
                          refine Go.castoreV (pc' := 282) (E_141 ++ [c1]).length at_281 F_352 ⟨ofN_nn (by (try simp only [List.length_append, List.length_cons, List.length_nil]) <;> omega), (ofN_lt (n := 9) (by (try simp only [List.length_append, List.length_cons, List.length_nil]) <;> omega) (by decide)).mpr (by (try simp only [List.length_append, List.length_cons, List.length_nil]) <;> omega)⟩ (ofN_nat (by (try simp only [List.length_append, List.length_cons, List.length_nil]) <;> omega)) (by rw [pad_len _ (by (try simp only [List.length_append, List.length_cons, List.length_nil]) <;> omega)]; exact (by (try simp only [List.length_append, List.length_cons, List.length_nil]) <;> omega)) (by omega) rfl (fun h_353 W_354 A_355 => ?_)
                          have szh_353 : h_353.size = h_349.size := Wr.size W_354
                          have F_356 : Arv Z h_353 a_128 cA_130 .char (9 : Int32) (pad ((E_141 ++ [c1]) ++ [c2])) (.int 0) := by have q := A_355; rw [own_nch hc2a hc2b, pad_set _ _ (by (try simp only [List.length_append, List.length_cons, List.length_nil]) <;> omega)] at q; exact q
                          refine Go.iinc (pc' := 285) (Int32.ofNat ((E_141 ++ [c1]) ++ [c2]).length) #[.val (.int p0), .val (.int p1), .val (.int p2), .val (.int z1), .val (.int z2), .val (.int z3), .val (.int z4), .val (.int (2 : Int32)), .val (.int n2), .val (.int c1), .val (.int c2), .val (.int c3), .val (.int c4), .val (.ref s_21), .val (.ref s_33), .val (.ref a_44), .val (.int (1 : Int32)), .val (.ref s_117), .val (.ref a_128), .val (.int (Int32.ofNat ((E_141 ++ [c1]) ++ [c2]).length)), .unset] at_282 rfl (own_inc (E_141 ++ [c1]) c2) rfl rfl ?_
                          have F_357 := (Str.keep (Str.keep J_145 (Keep.of_wr W_350) (ninS (nne (by omega)) nin0) (ninS (nne (by omega)) nin0)) (Keep.of_wr W_354) (ninS (nne (by omega)) nin0) (ninS (nne (by omega)) nin0))
                          have F_358 := (Sta.wr W_354 (Sta.wr W_350 J_146))
                          have F_359 := (Sta.wr W_354 (Sta.wr W_350 J_147))
                          exact Go.mono (by simp) (cut285 _ _ ⟨F_356, F_357, F_358, F_359, by omega, (by rw [own_mk2, List.append_assoc]; rfl)⟩)
                    · refine Go.iloadN (pc' := 241) at_240 rfl rfl ?_
                      refine Go.ifc (pc' := 254) (pc'' := 244) at_241 (by decide) (by decide) rfl (fun hc_360 => ?_) (fun hc_360 => ?_)
                      · have hc_360 : z1 = 0 := hc_360
                        have F_361 := (Str.keep (Str.ext F_122 E_132) (Keep.of_wr W_137) (ninS (nne (by omega)) nin0) (ninS (nne (by omega)) nin0))
                        have F_362 := (Sta.wr W_137 (Sta.ext E_132 (sta_keep J_115 K_121 ns0)))
                        have F_363 := (Sta.wr W_137 (Sta.ext E_132 (sta_keep J_116 K_121 ns0)))
                        exact Go.mono (by simp) (cut254 _ _ ⟨F_139, F_361, F_362, F_363, by omega, (by rw [hc_360, own_nl0, List.append_nil])⟩)
                      · have hc_360 : ¬ (z1 = 0) := hc_360
                        refine Go.aload (pc' := 246) at_244 rfl rfl rfl ?_
                        refine Go.iload (pc' := 248) at_246 rfl rfl ?_
                        refine Go.bipush (pc' := 250) 10 at_248 rfl rfl ?_
                        refine Go.castoreV (pc' := 251) (([] : List Int32) ++ [10]).length at_250 F_139 ⟨ofN_nn (by (try simp only [List.length_append, List.length_cons, List.length_nil]) <;> omega), (ofN_lt (n := 9) (by (try simp only [List.length_append, List.length_cons, List.length_nil]) <;> omega) (by decide)).mpr (by (try simp only [List.length_append, List.length_cons, List.length_nil]) <;> omega)⟩ (ofN_nat (by (try simp only [List.length_append, List.length_cons, List.length_nil]) <;> omega)) (by rw [pad_len _ (by (try simp only [List.length_append, List.length_cons, List.length_nil]) <;> omega)]; exact (by (try simp only [List.length_append, List.length_cons, List.length_nil]) <;> omega)) (by omega) rfl (fun h_364 W_365 A_366 => ?_)
                        have szh_364 : h_364.size = h_136.size := Wr.size W_365
                        have F_367 : Arv Z h_364 a_128 cA_130 .char (9 : Int32) (pad ((([] : List Int32) ++ [10]) ++ [10])) (.int 0) := by have q := A_366; rw [nar10, pad_set _ _ (by (try simp only [List.length_append, List.length_cons, List.length_nil]) <;> omega)] at q; exact q
                        refine Go.iinc (pc' := 254) (Int32.ofNat ((([] : List Int32) ++ [10]) ++ [10]).length) #[.val (.int p0), .val (.int p1), .val (.int p2), .val (.int z1), .val (.int z2), .val (.int z3), .val (.int z4), .val (.int n1), .val (.int n2), .val (.int c1), .val (.int c2), .val (.int c3), .val (.int c4), .val (.ref s_21), .val (.ref s_33), .val (.ref a_44), .val (.int (1 : Int32)), .val (.ref s_117), .val (.ref a_128), .val (.int (Int32.ofNat ((([] : List Int32) ++ [10]) ++ [10]).length)), .unset] at_251 rfl (own_inc (([] : List Int32) ++ [10]) 10) rfl rfl ?_
                        have F_368 := (Str.keep (Str.keep (Str.ext F_122 E_132) (Keep.of_wr W_137) (ninS (nne (by omega)) nin0) (ninS (nne (by omega)) nin0)) (Keep.of_wr W_365) (ninS (nne (by omega)) nin0) (ninS (nne (by omega)) nin0))
                        have F_369 := (Sta.wr W_365 (Sta.wr W_137 (Sta.ext E_132 (sta_keep J_115 K_121 ns0))))
                        have F_370 := (Sta.wr W_365 (Sta.wr W_137 (Sta.ext E_132 (sta_keep J_116 K_121 ns0))))
                        exact Go.mono (by simp) (cut254 _ _ ⟨F_367, F_368, F_369, F_370, by omega, (by rw [hz1.one hc_360, own_nl1])⟩)
                  · refine Go.iload (pc' := 205) at_203 rfl rfl ?_
                    refine Go.ifc (pc' := 214) (pc'' := 208) at_205 (by decide) (by decide) rfl (fun hc_371 => ?_) (fun hc_371 => ?_)
                    · have hc_371 : z4 = 0 := hc_371
                      have F_372 := (Exa.keep J_91 K_98)
                      have F_373 := (Str.keep J_94 K_98 (ninS (nne (by omega)) (ninS (nne (by omega)) (ninS (nne (by omega)) nin0))) (ninS (nne (by omega)) (ninS (nne (by omega)) (ninS (nne (by omega)) nin0))))
                      have F_374 := (sta_keep J_95 K_98 (nsS (Exa.nostat J_91) (nsS (Sb.nsA J_93) (nsS (Sb.nsB J_93) ns0))))
                      have F_375 := (sta_keep J_96 K_98 (nsS (Exa.nostat J_91) (nsS (Sb.nsA J_93) (nsS (Sb.nsB J_93) ns0))))
                      exact Go.mono (by simp) (cut214 _ [] ⟨F_372, F_99, F_101, F_373, F_374, F_375, by omega⟩)
                    · have hc_371 : ¬ (z4 = 0) := hc_371
                      refine Go.aload (pc' := 210) at_208 rfl rfl rfl ?_
                      have F_379 := (Exa.keep J_91 K_98)
                      refine Go.callV (a1 := a0) (pc' := 213) (argsL := []) (rest := []) (ct_bl l Z a0 hw n0 h_103 a_44 sb_52 (0 : Int32) (by omega) F_379 F_99 F_100) at_210 (wd hw 201 rfl) (wd hw 202 rfl) (wd hw 204 rfl) (wd hw 204 rfl) (wd hw 203 rfl) (wd hw 17 rfl) (wd hw 205 rfl) F_379 (by decide) (lenOf pd_34 rfl) rfl 0 rfl rfl (by decide) (by decide) (by decide) (by decide) sl0 rfl (fun v_380 h_381 N_382 hQ_383 hle_384 => ?_)
                      obtain ⟨rfl, K_376, F_377, F_378⟩ := hQ_383
                      have szh_381 := nle K_376.1
                      refine Go.rs [(.ref a_44)] rfl ?_
                      refine Go.pop (pc' := 214) at_213 rfl rfl ?_
                      have F_385 := (Exa.keep F_379 K_376)
                      have F_386 := (Sb.keep F_101 K_376 (ninS (nne (by omega)) nin0) (ninS (nne (by omega)) nin0))
                      have F_387 := (Str.keep (Str.keep J_94 K_98 (ninS (nne (by omega)) (ninS (nne (by omega)) (ninS (nne (by omega)) nin0))) (ninS (nne (by omega)) (ninS (nne (by omega)) (ninS (nne (by omega)) nin0)))) K_376 (ninS (nne (by omega)) nin0) (ninS (nne (by omega)) nin0))
                      have F_388 := (sta_keep (sta_keep J_95 K_98 (nsS (Exa.nostat J_91) (nsS (Sb.nsA J_93) (nsS (Sb.nsB J_93) ns0)))) K_376 (nsS (Exa.nostat F_379) ns0))
                      have F_389 := (sta_keep (sta_keep J_96 K_98 (nsS (Exa.nostat J_91) (nsS (Sb.nsA J_93) (nsS (Sb.nsB J_93) ns0)))) K_376 (nsS (Exa.nostat F_379) ns0))
                      exact Go.mono (by simp) (cut214 _ [] ⟨F_385, F_377, F_386, F_387, F_388, F_389, by omega⟩)
                · refine Go.iload (pc' := 159) at_157 rfl rfl ?_
                  refine Go.ifc (pc' := 168) (pc'' := 162) at_159 (by decide) (by decide) rfl (fun hc_390 => ?_) (fun hc_390 => ?_)
                  · have hc_390 : z2 = 0 := hc_390
                    refine Go.iload (pc' := 170) at_168 rfl rfl ?_
                    refine Go.ifc (pc' := 179) (pc'' := 173) at_170 (by decide) (by decide) rfl (fun hc_391 => ?_) (fun hc_391 => ?_)
                    · have hc_391 : z3 = 0 := hc_391
                      have F_392 := (Exa.keep J_70 K_78)
                      have F_393 := (Str.keep J_73 K_78 (ninS (nne (by omega)) (ninS (nne (by omega)) (ninS (nne (by omega)) nin0))) (ninS (nne (by omega)) (ninS (nne (by omega)) (ninS (nne (by omega)) nin0))))
                      have F_394 := (sta_keep J_74 K_78 (nsS (Exa.nostat J_70) (nsS (Sb.nsA J_72) (nsS (Sb.nsB J_72) ns0))))
                      have F_395 := (sta_keep J_75 K_78 (nsS (Exa.nostat J_70) (nsS (Sb.nsA J_72) (nsS (Sb.nsB J_72) ns0))))
                      exact Go.mono (by simp) (cut179 _ [] ⟨F_392, F_79, F_81, F_393, F_394, F_395, (by rw [show or2 z2 z3 = 0 by simp [or2, hc_390, hc_391]]; exact F_80), by omega⟩)
                    · have hc_391 : ¬ (z3 = 0) := hc_391
                      refine Go.aload (pc' := 175) at_173 rfl rfl rfl ?_
                      have F_399 := (Exa.keep J_70 K_78)
                      refine Go.callV (a1 := a0) (pc' := 178) (argsL := []) (rest := []) (ct_bl l Z a0 hw n0 h_83 a_44 sb_52 (0 : Int32) (by omega) F_399 F_79 F_80) at_175 (wd hw 201 rfl) (wd hw 202 rfl) (wd hw 204 rfl) (wd hw 204 rfl) (wd hw 203 rfl) (wd hw 17 rfl) (wd hw 205 rfl) F_399 (by decide) (lenOf pd_34 rfl) rfl 0 rfl rfl (by decide) (by decide) (by decide) (by decide) sl0 rfl (fun v_400 h_401 N_402 hQ_403 hle_404 => ?_)
                      obtain ⟨rfl, K_396, F_397, F_398⟩ := hQ_403
                      have szh_401 := nle K_396.1
                      refine Go.rs [(.ref a_44)] rfl ?_
                      refine Go.pop (pc' := 179) at_178 rfl rfl ?_
                      have F_405 := (Exa.keep F_399 K_396)
                      have F_406 := (Sb.keep F_81 K_396 (ninS (nne (by omega)) nin0) (ninS (nne (by omega)) nin0))
                      have F_407 := (Str.keep (Str.keep J_73 K_78 (ninS (nne (by omega)) (ninS (nne (by omega)) (ninS (nne (by omega)) nin0))) (ninS (nne (by omega)) (ninS (nne (by omega)) (ninS (nne (by omega)) nin0)))) K_396 (ninS (nne (by omega)) nin0) (ninS (nne (by omega)) nin0))
                      have F_408 := (sta_keep (sta_keep J_74 K_78 (nsS (Exa.nostat J_70) (nsS (Sb.nsA J_72) (nsS (Sb.nsB J_72) ns0)))) K_396 (nsS (Exa.nostat F_399) ns0))
                      have F_409 := (sta_keep (sta_keep J_75 K_78 (nsS (Exa.nostat J_70) (nsS (Sb.nsA J_72) (nsS (Sb.nsB J_72) ns0)))) K_396 (nsS (Exa.nostat F_399) ns0))
                      exact Go.mono (by simp) (cut179 _ [] ⟨F_405, F_397, F_406, F_407, F_408, F_409, (by rw [show or2 z2 z3 = 1 by simp [or2, hc_390, hc_391]]; exact F_398), by omega⟩)
                  · have hc_390 : ¬ (z2 = 0) := hc_390
                    refine Go.aload (pc' := 164) at_162 rfl rfl rfl ?_
                    have F_413 := (Exa.keep J_70 K_78)
                    refine Go.callV (a1 := a0) (pc' := 167) (argsL := []) (rest := []) (ct_bl l Z a0 hw n0 h_83 a_44 sb_52 (0 : Int32) (by omega) F_413 F_79 F_80) at_164 (wd hw 201 rfl) (wd hw 202 rfl) (wd hw 204 rfl) (wd hw 204 rfl) (wd hw 203 rfl) (wd hw 17 rfl) (wd hw 205 rfl) F_413 (by decide) (lenOf pd_34 rfl) rfl 0 rfl rfl (by decide) (by decide) (by decide) (by decide) sl0 rfl (fun v_414 h_415 N_416 hQ_417 hle_418 => ?_)
                    obtain ⟨rfl, K_410, F_411, F_412⟩ := hQ_417
                    have szh_415 := nle K_410.1
                    refine Go.rs [(.ref a_44)] rfl ?_
                    refine Go.pop (pc' := 168) at_167 rfl rfl ?_
                    refine Go.iload (pc' := 170) at_168 rfl rfl ?_
                    refine Go.ifc (pc' := 179) (pc'' := 173) at_170 (by decide) (by decide) rfl (fun hc_419 => ?_) (fun hc_419 => ?_)
                    · have hc_419 : z3 = 0 := hc_419
                      have F_420 := (Exa.keep F_413 K_410)
                      have F_421 := (Sb.keep F_81 K_410 (ninS (nne (by omega)) nin0) (ninS (nne (by omega)) nin0))
                      have F_422 := (Str.keep (Str.keep J_73 K_78 (ninS (nne (by omega)) (ninS (nne (by omega)) (ninS (nne (by omega)) nin0))) (ninS (nne (by omega)) (ninS (nne (by omega)) (ninS (nne (by omega)) nin0)))) K_410 (ninS (nne (by omega)) nin0) (ninS (nne (by omega)) nin0))
                      have F_423 := (sta_keep (sta_keep J_74 K_78 (nsS (Exa.nostat J_70) (nsS (Sb.nsA J_72) (nsS (Sb.nsB J_72) ns0)))) K_410 (nsS (Exa.nostat F_413) ns0))
                      have F_424 := (sta_keep (sta_keep J_75 K_78 (nsS (Exa.nostat J_70) (nsS (Sb.nsA J_72) (nsS (Sb.nsB J_72) ns0)))) K_410 (nsS (Exa.nostat F_413) ns0))
                      exact Go.mono (by simp) (cut179 _ [] ⟨F_420, F_411, F_421, F_422, F_423, F_424, (by rw [show or2 z2 z3 = 1 by simp [or2, hc_390, hc_419]]; exact F_412), by omega⟩)
                    · have hc_419 : ¬ (z3 = 0) := hc_419
                      refine Go.aload (pc' := 175) at_173 rfl rfl rfl ?_
                      have F_428 := (Exa.keep F_413 K_410)
                      refine Go.callV (a1 := a0) (pc' := 178) (argsL := []) (rest := []) (ct_bl l Z a0 hw n0 h_415 a_44 sb_52 (1 : Int32) (by omega) F_428 F_411 F_412) at_175 (wd hw 201 rfl) (wd hw 202 rfl) (wd hw 204 rfl) (wd hw 204 rfl) (wd hw 203 rfl) (wd hw 17 rfl) (wd hw 205 rfl) F_428 (by decide) (lenOf pd_34 rfl) rfl 0 rfl rfl (by decide) (by decide) (by decide) (by decide) sl0 rfl (fun v_429 h_430 N_431 hQ_432 hle_433 => ?_)
                      obtain ⟨rfl, K_425, F_426, F_427⟩ := hQ_432
                      have szh_430 := nle K_425.1
                      refine Go.rs [(.ref a_44)] rfl ?_
                      refine Go.pop (pc' := 179) at_178 rfl rfl ?_
                      have F_434 := (Exa.keep F_428 K_425)
                      have F_435 := (Sb.keep (Sb.keep F_81 K_410 (ninS (nne (by omega)) nin0) (ninS (nne (by omega)) nin0)) K_425 (ninS (nne (by omega)) nin0) (ninS (nne (by omega)) nin0))
                      have F_436 := (Str.keep (Str.keep (Str.keep J_73 K_78 (ninS (nne (by omega)) (ninS (nne (by omega)) (ninS (nne (by omega)) nin0))) (ninS (nne (by omega)) (ninS (nne (by omega)) (ninS (nne (by omega)) nin0)))) K_410 (ninS (nne (by omega)) nin0) (ninS (nne (by omega)) nin0)) K_425 (ninS (nne (by omega)) nin0) (ninS (nne (by omega)) nin0))
                      have F_437 := (sta_keep (sta_keep (sta_keep J_74 K_78 (nsS (Exa.nostat J_70) (nsS (Sb.nsA J_72) (nsS (Sb.nsB J_72) ns0)))) K_410 (nsS (Exa.nostat F_413) ns0)) K_425 (nsS (Exa.nostat F_428) ns0))
                      have F_438 := (sta_keep (sta_keep (sta_keep J_75 K_78 (nsS (Exa.nostat J_70) (nsS (Sb.nsA J_72) (nsS (Sb.nsB J_72) ns0)))) K_410 (nsS (Exa.nostat F_413) ns0)) K_425 (nsS (Exa.nostat F_428) ns0))
                      exact Go.mono (by simp) (cut179 _ [] ⟨F_434, F_426, F_435, F_436, F_437, F_438, (by rw [show or2 z2 z3 = 1 by simp [or2, hc_390, hc_419]]; exact F_427), by omega⟩)
              · refine Go.iloadN (pc' := 129) at_128 rfl rfl ?_
                refine Go.ifc (pc' := 138) (pc'' := 132) at_129 (by decide) (by decide) rfl (fun hc_439 => ?_) (fun hc_439 => ?_)
                · have hc_439 : z1 = 0 := hc_439
                  have F_440 := (Exa.keep X_48 K_56)
                  have F_441 := (Str.keep (Str.ext F_38 E_46) K_56 (ninS (nne (by omega)) nin0) (ninS (nne (by omega)) nin0))
                  have F_442 := (sta_keep F_60 K_56 (nsS (Exa.nostat X_48) ns0))
                  have F_443 := (sta_keep (Sta.ext E_46 (sta_keep (sta_keep S_sf K_25 ns0) K_37 ns0)) K_56 (nsS (Exa.nostat X_48) ns0))
                  have F_444 := (Str.keep (Str.ext (Str.keep F_26 K_37 nin0 nin0) E_46) K_56 (ninS (nne (by omega)) nin0) (ninS (nne (by omega)) nin0))
                  exact Go.mono (by simp) (cut138 _ [] ⟨F_440, F_57, F_59, F_441, F_442, F_443, F_444, (by rw [hc_439]; exact F_58), by omega⟩)
                · have hc_439 : ¬ (z1 = 0) := hc_439
                  refine Go.aload (pc' := 134) at_132 rfl rfl rfl ?_
                  have F_448 := (Exa.keep X_48 K_56)
                  refine Go.callV (a1 := a0) (pc' := 137) (argsL := []) (rest := []) (ct_bl l Z a0 hw n0 h_62 a_44 sb_52 (0 : Int32) (by omega) F_448 F_57 F_58) at_134 (wd hw 201 rfl) (wd hw 202 rfl) (wd hw 204 rfl) (wd hw 204 rfl) (wd hw 203 rfl) (wd hw 17 rfl) (wd hw 205 rfl) F_448 (by decide) (lenOf pd_34 rfl) rfl 0 rfl rfl (by decide) (by decide) (by decide) (by decide) sl0 rfl (fun v_449 h_450 N_451 hQ_452 hle_453 => ?_)
                  obtain ⟨rfl, K_445, F_446, F_447⟩ := hQ_452
                  have szh_450 := nle K_445.1
                  refine Go.rs [(.ref a_44)] rfl ?_
                  refine Go.pop (pc' := 138) at_137 rfl rfl ?_
                  have F_454 := (Exa.keep F_448 K_445)
                  have F_455 := (Sb.keep F_59 K_445 (ninS (nne (by omega)) nin0) (ninS (nne (by omega)) nin0))
                  have F_456 := (Str.keep (Str.keep (Str.ext F_38 E_46) K_56 (ninS (nne (by omega)) nin0) (ninS (nne (by omega)) nin0)) K_445 (ninS (nne (by omega)) nin0) (ninS (nne (by omega)) nin0))
                  have F_457 := (sta_keep (sta_keep F_60 K_56 (nsS (Exa.nostat X_48) ns0)) K_445 (nsS (Exa.nostat F_448) ns0))
                  have F_458 := (sta_keep (sta_keep (Sta.ext E_46 (sta_keep (sta_keep S_sf K_25 ns0) K_37 ns0)) K_56 (nsS (Exa.nostat X_48) ns0)) K_445 (nsS (Exa.nostat F_448) ns0))
                  have F_459 := (Str.keep (Str.keep (Str.ext (Str.keep F_26 K_37 nin0 nin0) E_46) K_56 (ninS (nne (by omega)) nin0) (ninS (nne (by omega)) nin0)) K_445 (ninS (nne (by omega)) nin0) (ninS (nne (by omega)) nin0))
                  exact Go.mono (by simp) (cut138 _ [] ⟨F_454, F_446, F_455, F_456, F_457, F_458, F_459, (by rw [hz1.one hc_439]; exact F_447), by omega⟩)
            · refine Go.iloadN (pc' := 60) at_59 rfl rfl ?_
              refine Go.bipush (pc' := 62) 8 at_60 rfl rfl ?_
              refine Go.iushr (pc' := 63) at_62 rfl ?_
              refine Go.iconst (pc' := 64) 3 at_63 rfl rfl ?_
              refine Go.irem (pc' := 65) at_64 (by decide) rfl ?_
              refine Go.istore (pc' := 67) #[.val (.int p0), .val (.int p1), .val (.int p2), .val (.int z1), .val (.int z2), .val (.int z3), .val (.int z4), .val (.int n1), .val (.int ((usr p0 (8 : Int32)) % (3 : Int32))), .unset, .unset, .unset, .unset, .unset, .unset, .unset, .unset, .unset, .unset, .unset, .unset] at_65 rfl rfl ?_
              exact cut67 _ (own_u3 p0 8 (Or.inr rfl))
          · refine Go.iloadN (pc' := 53) at_52 rfl rfl ?_
            refine Go.iconst (pc' := 54) 4 at_53 rfl rfl ?_
            refine Go.iushr (pc' := 55) at_54 rfl ?_
            refine Go.iconst (pc' := 56) 3 at_55 rfl rfl ?_
            refine Go.irem (pc' := 57) at_56 (by decide) rfl ?_
            refine Go.istore (pc' := 59) #[.val (.int p0), .val (.int p1), .val (.int p2), .val (.int z1), .val (.int z2), .val (.int z3), .val (.int z4), .val (.int ((usr p0 (4 : Int32)) % (3 : Int32))), .unset, .unset, .unset, .unset, .unset, .unset, .unset, .unset, .unset, .unset, .unset, .unset, .unset] at_57 rfl rfl ?_
            exact cut59 _ (own_u3 p0 4 (Or.inl rfl))
        · refine Go.iloadN (pc' := 39) at_38 rfl rfl ?_
          refine Go.bipush (pc' := 41) 8 at_39 rfl rfl ?_
          refine Go.iand (pc' := 42) at_41 rfl ?_
          refine Go.ifc (pc' := 49) (pc'' := 45) at_42 (by decide) (by decide) rfl (fun hc_460 => ?_) (fun hc_460 => ?_)
          · have hc_460 : (p0 &&& (8 : Int32)) = 0 := hc_460
            refine Go.iconst (pc' := 50) 0 at_49 rfl rfl ?_
            refine Go.istore (pc' := 52) #[.val (.int p0), .val (.int p1), .val (.int p2), .val (.int z1), .val (.int z2), .val (.int z3), .val (.int (0 : Int32)), .unset, .unset, .unset, .unset, .unset, .unset, .unset, .unset, .unset, .unset, .unset, .unset, .unset, .unset] at_50 rfl rfl ?_
            exact cut52 _ (Or.inl rfl)
          · have hc_460 : ¬ ((p0 &&& (8 : Int32)) = 0) := hc_460
            refine Go.iconst (pc' := 46) 1 at_45 rfl rfl ?_
            refine Go.goto (pc' := 50) at_46 (by decide) (by decide) ?_
            refine Go.istore (pc' := 52) #[.val (.int p0), .val (.int p1), .val (.int p2), .val (.int z1), .val (.int z2), .val (.int z3), .val (.int (1 : Int32)), .unset, .unset, .unset, .unset, .unset, .unset, .unset, .unset, .unset, .unset, .unset, .unset, .unset, .unset] at_50 rfl rfl ?_
            exact cut52 _ (Or.inr rfl)
      · refine Go.iloadN (pc' := 26) at_25 rfl rfl ?_
        refine Go.iconst (pc' := 27) 4 at_26 rfl rfl ?_
        refine Go.iand (pc' := 28) at_27 rfl ?_
        refine Go.ifc (pc' := 35) (pc'' := 31) at_28 (by decide) (by decide) rfl (fun hc_461 => ?_) (fun hc_461 => ?_)
        · have hc_461 : (p0 &&& (4 : Int32)) = 0 := hc_461
          refine Go.iconst (pc' := 36) 0 at_35 rfl rfl ?_
          refine Go.istore (pc' := 38) #[.val (.int p0), .val (.int p1), .val (.int p2), .val (.int z1), .val (.int z2), .val (.int (0 : Int32)), .unset, .unset, .unset, .unset, .unset, .unset, .unset, .unset, .unset, .unset, .unset, .unset, .unset, .unset, .unset] at_36 rfl rfl ?_
          exact cut38 _ (Or.inl rfl)
        · have hc_461 : ¬ ((p0 &&& (4 : Int32)) = 0) := hc_461
          refine Go.iconst (pc' := 32) 1 at_31 rfl rfl ?_
          refine Go.goto (pc' := 36) at_32 (by decide) (by decide) ?_
          refine Go.istore (pc' := 38) #[.val (.int p0), .val (.int p1), .val (.int p2), .val (.int z1), .val (.int z2), .val (.int (1 : Int32)), .unset, .unset, .unset, .unset, .unset, .unset, .unset, .unset, .unset, .unset, .unset, .unset, .unset, .unset, .unset] at_36 rfl rfl ?_
          exact cut38 _ (Or.inr rfl)
    · refine Go.iloadN (pc' := 13) at_12 rfl rfl ?_
      refine Go.iconst (pc' := 14) 2 at_13 rfl rfl ?_
      refine Go.iand (pc' := 15) at_14 rfl ?_
      refine Go.ifc (pc' := 22) (pc'' := 18) at_15 (by decide) (by decide) rfl (fun hc_462 => ?_) (fun hc_462 => ?_)
      · have hc_462 : (p0 &&& (2 : Int32)) = 0 := hc_462
        refine Go.iconst (pc' := 23) 0 at_22 rfl rfl ?_
        refine Go.istore (pc' := 25) #[.val (.int p0), .val (.int p1), .val (.int p2), .val (.int z1), .val (.int (0 : Int32)), .unset, .unset, .unset, .unset, .unset, .unset, .unset, .unset, .unset, .unset, .unset, .unset, .unset, .unset, .unset, .unset] at_23 rfl rfl ?_
        exact cut25 _ (Or.inl rfl)
      · have hc_462 : ¬ ((p0 &&& (2 : Int32)) = 0) := hc_462
        refine Go.iconst (pc' := 19) 1 at_18 rfl rfl ?_
        refine Go.goto (pc' := 23) at_19 (by decide) (by decide) ?_
        refine Go.istore (pc' := 25) #[.val (.int p0), .val (.int p1), .val (.int p2), .val (.int z1), .val (.int (1 : Int32)), .unset, .unset, .unset, .unset, .unset, .unset, .unset, .unset, .unset, .unset, .unset, .unset, .unset, .unset, .unset, .unset] at_23 rfl rfl ?_
        exact cut25 _ (Or.inr rfl)
  · refine Go.iloadN (pc' := 1) at_0 rfl rfl ?_
    refine Go.iconst (pc' := 2) 1 at_1 rfl rfl ?_
    refine Go.iand (pc' := 3) at_2 rfl ?_
    refine Go.ifc (pc' := 10) (pc'' := 6) at_3 (by decide) (by decide) rfl (fun hc_463 => ?_) (fun hc_463 => ?_)
    · have hc_463 : (p0 &&& (1 : Int32)) = 0 := hc_463
      refine Go.iconst (pc' := 11) 0 at_10 rfl rfl ?_
      refine Go.istoreN (pc' := 12) #[.val (.int p0), .val (.int p1), .val (.int p2), .val (.int (0 : Int32)), .unset, .unset, .unset, .unset, .unset, .unset, .unset, .unset, .unset, .unset, .unset, .unset, .unset, .unset, .unset, .unset, .unset] at_11 rfl rfl ?_
      exact cut12 _ (Or.inl rfl)
    · have hc_463 : ¬ ((p0 &&& (1 : Int32)) = 0) := hc_463
      refine Go.iconst (pc' := 7) 1 at_6 rfl rfl ?_
      refine Go.goto (pc' := 11) at_7 (by decide) (by decide) ?_
      refine Go.istoreN (pc' := 12) #[.val (.int p0), .val (.int p1), .val (.int p2), .val (.int (1 : Int32)), .unset, .unset, .unset, .unset, .unset, .unset, .unset, .unset, .unset, .unset, .unset, .unset, .unset, .unset, .unset, .unset, .unset] at_11 rfl rfl ?_
      exact cut12 _ (Or.inr rfl)
set_option maxRecDepth 65536 in
set_option maxHeartbeats 40000000 in
theorem comes_1 {Post : Tables → Env → Array Value → State → Outcome → State → Prop} (hpost : ∀ tb e args s v u, (limb_1_1.after args s (.returned v) u = true ∧ limb_1_2.after args s (.returned v) u = true ∧ True) → ReturnedEndW s (.returned v) u (Jvm.fieldLocs frame_1_writes args s ++ Jvm.arrayLocs frame_1_arrays args s ++ Jvm.staticLocs frame_1_statics s) 40 3456 → Post tb e args s (.returned v) u) :
    ArmFor flags0 classFile x code maxLocals ret World_1 tables_1 room_1 Calls_1 rest_1 Pre_1 Post := by
  intro l hfl _ _ p e ha hc hk s m args below hf hA hF happ hP
  obtain ⟨hcalls, hrest, hpre⟩ := hP
  obtain ⟨-, -, -, hnamed, -, -, -, hat⟩ := (Spec.applies_iff hf).mp happ
  obtain ⟨hg, hn⟩ := and_e (Cond.before_iff.mp (show (Jvm.Cond.and given_1 narrow_1).before args s = true from hpre))
  obtain ⟨g0, hg⟩ := and_e hg
  obtain ⟨w0, w1, w2, rfl⟩ : ∃ w0 w1 w2 : Value, args = #[w0, w1, w2] := by
    have hs : args.size = 3 := by simpa [Cond.value, given_1] using g0
    obtain ⟨L⟩ := args
    match L, hs with
    | [w0, w1, w2], _ => exact ⟨w0, w1, w2, rfl⟩
  have hw := fun d (hd : d ∈ tables_1) => atoms_spec (ws := Jvm.Cond.code x code maxLocals ret :: tables_1) hat d (List.mem_cons_of_mem _ hd)
  have hfit : Fit s := fun {y c} hc i hi => by
    obtain ⟨ha, rfl⟩ := Array.getElem?_eq_some_iff.mp hc
    have q := List.all_eq_true.mp ((Array.all_eq_true_iff_forall_mem.mp hF) _ (Array.getElem_mem ha)) i (List.mem_range.mpr hi)
    simpa [Array.getElem?_eq_getElem hi] using q
  obtain ⟨g1, hg⟩ := and_e hg
  obtain ⟨g2, hg⟩ := and_e hg
  have g3 := hg
  obtain ⟨p0, e0⟩ := is_v g1
  obtain rfl : w0 = (.int p0) := Option.some.inj e0
  obtain ⟨p1, e1⟩ := is_v g2
  obtain rfl : w1 = (.int p1) := Option.some.inj e1
  obtain ⟨p2, e2⟩ := is_v g3
  obtain rfl : w2 = (.int p2) := Option.some.inj e2
  obtain ⟨hsets, hown0⟩ := atoms_of _ (rest_1_c_eq ▸ (show rest_1_c.before _ s = true from hrest))
  have ncs := not_v (Cond.before_iff.mp (hsets _ (List.mem_of_getElem? (i := 2) rfl)))
  obtain ⟨cs, ecs⟩ := is_v (Cond.before_iff.mp (hsets _ (List.mem_of_getElem? (i := 1) rfl)))
  have S_cs : Sta s s.heap "java/lang/String" "COMPACT_STRINGS" "Z" (.int cs) := Sta.start ecs (Or.inl (hsets _ (List.mem_of_getElem? (i := 0) rfl)))
  have hcs : ¬ (cs = (0 : Int32)) := gotF (Cond.eq_ints ecs (Term.int_eval (0))) ncs
  obtain ⟨sf, esf, hsf⟩ := isR_v (Cond.before_iff.mp (hsets _ (List.mem_of_getElem? (i := 8) rfl)))
  have S_sf : Sta s s.heap "jdk/internal/util/Preconditions" "SIOOBE_FORMATTER" "Ljava/util/function/BiFunction;" sf := Sta.start esf (Or.inl (hsets _ (List.mem_of_getElem? (i := 7) rfl)))
  obtain ⟨n, o, h1, h2, h3, v, Ls, N, rfl, rfl, hFr, -, -, hEn⟩ := ct_law l s _ hw s.heap.size s.heap p0 p1 p2 (Nat.le_refl _) sf hsf S_sf cs S_cs hcs p e ha hc hk s m _ below hf ((Spec.applies_iff_loose hf).mp happ).1 ⟨rfl, State.Warmed39.refl s, rfl, (CHv.start (own_ew hw) (fun p hp => hcalls.1 p hp) (hsets _ (List.mem_of_getElem? (i := 2) rfl)) (wd hw 10 rfl) (wd hw 9 rfl)), (fun x q => nomatch q)⟩ trivial
  refine ⟨n, _, h1, h2, h3, hpost _ _ _ _ _ _ ⟨Cond.after_iff.mpr rfl, Cond.after_iff.mpr (eq_i res_at (Term.int_eval (1)) rfl), trivial⟩ ⟨⟨_, rfl⟩, hEn.1.2.1, hEn.1.2.2.1, (hEn.1.2.2.2.sift fun y hy => Or.inr (hFr y hy)).mono (by decide) (by decide)⟩⟩
theorem main_1_1 : Claimed_1_1 := comes_1 fun _ _ _ _ _ _ h hF => ⟨h.1, hF⟩
theorem main_1_2 : Claimed_1_2 := comes_1 fun _ _ _ _ _ _ h hF => ⟨h.2.1, hF⟩
end Jvm.Pilot.@@N@@
namespace Jvm.Pilot.@@N@@
open Jvm Jvm.ClassFile Sem Op Lib Jvm.Free Jvm.Stand Jvm.Pilot.@@N@@.Jvm.D
/-! MADE BY PROGRAM (witnessworld.py) out of the Statement's table words and the real class files: 26 classes; the members and pool entries that the words name. The judged class is class 1, her method 4. -/
namespace start1
open Jvm.ClassFile
def u (s : String) : CpInfo := .utf8 (stringToUtf16 s)
/-- a pool by its gaps: so many unusable entries, then the entry; so many at the end -/
def gap : Nat → List CpInfo → List CpInfo
  | 0, r => r
  | n + 1, r => .unusable :: gap n r
def poolList (es : List (Nat × CpInfo)) (last : Nat) : List CpInfo := es.foldr (fun e r => gap e.1 (e.2 :: r)) (gap last [])
def pool (es : List (Nat × CpInfo)) (last : Nat) : Array CpInfo := ⟨poolList es last⟩
def fileOf (pool : Array CpInfo) (this : Nat) (attrs : Array Attribute := #[]) (ms : Array MethodInfo := #[]) (fl : Nat := 33) (sup : Nat := 0) (ifs : Array Nat := #[]) (fds : Array FieldInfo := #[]) : ClassFile where
  minorVersion := 0
  majorVersion := 65
  constantPool := pool
  accessFlags := fl
  thisClass := this
  superClass := sup
  interfaces := ifs
  fields := fds
  methods := ms
  attributes := attrs
def plain (name : String) (sup : Option ClassId) : Class where
  name := name
  kind := .ordinary
  loader := none
  accessFlags := 33
  super := sup
  interfaces := #[]
  cf := none
  fields := #[]
  methods := #[]
  instanceTypes := #[]
  staticTypes := #[]
  resolved := #[]
  callSites := []
  init := .initialized
  statics := none
  mirror := none

def pool0 : Array CpInfo := pool [(5, u "<init>"), (0, u "()V"), (1, .class_ 10), (1, u "java/lang/Object")] 113

def k0c0 : Code := { maxStack := 0, maxLocals := 1, code := object_method_1_code, exceptionTable := #[], attributes := #[] }
def k0m0 : Method := { name := "<init>", desc := "()V", sig := { parameters := [], returnType := none }, accessFlags := 1, code := some k0c0 }
/-- java/lang/Object -/
def k0 : Class := { plain "java/lang/Object" none with
  accessFlags := 33
  interfaces := #[]
  cf := some (fileOf pool0 8 #[] #[{ accessFlags := 1, nameIndex := 5, descriptorIndex := 6, attributes := #[] }] 33 0 #[] #[])
  fields := #[]
  methods := #[k0m0]
  instanceTypes := #[]
  staticTypes := #[]
  resolved := Array.replicate 124 none
  statics := none }

def pool1 : Array CpInfo := pool [(2, .class_ 4), (0, .nameAndType 5 6), (0, u "java/lang/Object"), (0, u "<init>"), (0, u "()V"), (0, .methodref 8 9), (0, .class_ 10), (0, .nameAndType 11 12), (0, u "java/lang/String"), (0, u "length"), (0, u "()I"), (0, .methodref 8 14), (0, .nameAndType 15 16), (0, u "charAt"), (0, u "(I)C"), (0, .string 18), (0, u ""), (0, .methodref 8 20), (0, .nameAndType 21 22), (0, u "valueOf"), (0, u "(C)Ljava/lang/String;"), (0, .methodref 8 24), (0, .nameAndType 5 25), (0, u "([C)V"), (0, .methodref 27 28), (0, .class_ 29), (0, .nameAndType 30 16), (0, u "dev/typewright/dart/DartWriterLinePinLaw"), (0, u "ch"), (0, .methodref 27 32), (0, .nameAndType 33 34), (0, u "str"), (0, u "(ICC)Ljava/lang/String;"), (0, .class_ 36), (0, u "dev/typewright/dart/DartWriter"), (0, .methodref 35 3), (0, .methodref 35 39), (0, .nameAndType 40 41), (0, u "blankLine"), (0, u "()Ldev/typewright/dart/DartWriter;"), (0, .methodref 35 43), (0, .nameAndType 44 45), (0, u "line"), (0, u "(Ljava/lang/String;)Ldev/typewright/dart/DartWriter;"), (0, .methodref 35 47), (0, .nameAndType 48 49), (0, u "toString"), (0, u "()Ljava/lang/String;"), (0, .string 51), (0, u "// Generated by Typewright. Do not edit."), (0, .methodref 27 53), (0, .nameAndType 54 55), (0, u "at"), (0, u "(Ljava/lang/String;I)C"), (3, u "law"), (0, u "(III)Z")] 4

def k1m0 : Method := { name := "<init>", desc := "()V", sig := { parameters := [], returnType := none }, accessFlags := 1, code := none }
def k1c1 : Code := { maxStack := 2, maxLocals := 2, code := method_2_code, exceptionTable := #[], attributes := #[] }
def k1m1 : Method := { name := "ch", desc := "(I)C", sig := { parameters := [.int], returnType := some .char }, accessFlags := 10, code := some k1c1 }
def k1c2 : Code := { maxStack := 2, maxLocals := 2, code := method_3_code, exceptionTable := #[], attributes := #[] }
def k1m2 : Method := { name := "at", desc := "(Ljava/lang/String;I)C", sig := { parameters := [(.object "java/lang/String"), .int], returnType := some .char }, accessFlags := 10, code := some k1c2 }
def k1c3 : Code := { maxStack := 4, maxLocals := 4, code := method_4_code, exceptionTable := #[], attributes := #[] }
def k1m3 : Method := { name := "str", desc := "(ICC)Ljava/lang/String;", sig := { parameters := [.int, .char, .char], returnType := some (.object "java/lang/String") }, accessFlags := 10, code := some k1c3 }
def k1c4 : Code := { maxStack := 3, maxLocals := 21, code := code, exceptionTable := #[], attributes := #[] }
def k1m4 : Method := { name := "law", desc := "(III)Z", sig := { parameters := [.int, .int, .int], returnType := some .boolean }, accessFlags := 9, code := some k1c4 }
/-- dev/typewright/dart/DartWriterLinePinLaw -/
def k1 : Class := { plain "dev/typewright/dart/DartWriterLinePinLaw" (some 0) with
  accessFlags := 49
  interfaces := #[]
  cf := some (fileOf pool1 27 #[] #[{ accessFlags := 1, nameIndex := 5, descriptorIndex := 6, attributes := #[] }, { accessFlags := 10, nameIndex := 30, descriptorIndex := 16, attributes := #[] }, { accessFlags := 10, nameIndex := 54, descriptorIndex := 55, attributes := #[] }, { accessFlags := 10, nameIndex := 33, descriptorIndex := 34, attributes := #[] }, { accessFlags := 9, nameIndex := 59, descriptorIndex := 60, attributes := #[] }] 49 2 #[] #[])
  fields := #[]
  methods := #[k1m0, k1m1, k1m2, k1m3, k1m4]
  instanceTypes := #[]
  staticTypes := #[]
  resolved := Array.replicate 65 none
  statics := none }

def pool2 : Array CpInfo := pool [(1, .class_ 2), (0, u "java/io/Serializable"), (0, .class_ 4), (0, u "java/lang/Object")] 2

/-- java/io/Serializable -/
def k2 : Class := { plain "java/io/Serializable" (some 0) with
  accessFlags := 1537
  interfaces := #[]
  cf := some (fileOf pool2 1 #[] #[] 1537 3 #[] #[])
  fields := #[]
  methods := #[]
  instanceTypes := #[]
  staticTypes := #[]
  resolved := Array.replicate 7 none
  statics := none }

def pool3 : Array CpInfo := pool [(1, .class_ 2), (0, u "java/lang/Comparable"), (0, .class_ 4), (0, u "java/lang/Object")] 7

/-- java/lang/Comparable -/
def k3 : Class := { plain "java/lang/Comparable" (some 0) with
  accessFlags := 1537
  interfaces := #[]
  cf := some (fileOf pool3 1 #[] #[] 1537 3 #[] #[])
  fields := #[]
  methods := #[]
  instanceTypes := #[]
  staticTypes := #[]
  resolved := Array.replicate 12 none
  statics := none }

def pool4 : Array CpInfo := pool [(2, .class_ 4), (1, u "java/lang/CharSequence"), (42, .class_ 48), (0, u "java/lang/CharSequence$1CodePointIterator"), (10, .class_ 60), (0, u "java/lang/CharSequence$1CharIterator"), (5, .class_ 67), (0, u "java/lang/Object")] 63

/-- java/lang/CharSequence -/
def k4 : Class := { plain "java/lang/CharSequence" (some 0) with
  accessFlags := 1537
  interfaces := #[]
  cf := some (fileOf pool4 2 #[.nestMembers #[47, 59]] #[] 1537 66 #[] #[])
  fields := #[]
  methods := #[]
  instanceTypes := #[]
  staticTypes := #[]
  resolved := Array.replicate 131 none
  statics := none }

def pool5 : Array CpInfo := pool [(1, .class_ 2), (0, u "java/lang/constant/Constable"), (0, .class_ 4), (0, u "java/lang/Object")] 6

/-- java/lang/constant/Constable -/
def k5 : Class := { plain "java/lang/constant/Constable" (some 0) with
  accessFlags := 1537
  interfaces := #[]
  cf := some (fileOf pool5 1 #[] #[] 1537 3 #[] #[])
  fields := #[]
  methods := #[]
  instanceTypes := #[]
  staticTypes := #[]
  resolved := Array.replicate 11 none
  statics := none }

def pool6 : Array CpInfo := pool [(1, .class_ 2), (0, u "java/lang/constant/ConstantDesc"), (0, .class_ 4), (0, u "java/lang/Object")] 32

/-- java/lang/constant/ConstantDesc -/
def k6 : Class := { plain "java/lang/constant/ConstantDesc" (some 0) with
  accessFlags := 1537
  interfaces := #[]
  cf := some (fileOf pool6 1 #[] #[] 1537 3 #[] #[])
  fields := #[]
  methods := #[]
  instanceTypes := #[]
  staticTypes := #[]
  resolved := Array.replicate 37 none
  statics := none }

def pool7 : Array CpInfo := pool [(1, .methodref 2 3), (0, .class_ 4), (0, .nameAndType 5 6), (0, u "java/lang/Object"), (0, u "<init>"), (0, u "()V"), (2, .fieldref 10 11), (0, .class_ 12), (0, .nameAndType 13 14), (0, u "java/lang/String"), (0, u "value"), (0, u "[B"), (0, .fieldref 10 16), (0, .nameAndType 17 18), (0, u "coder"), (0, u "B"), (2, u "hash"), (0, u "I"), (2, u "hashIsZero"), (0, u "Z"), (0, .methodref 10 28), (0, .nameAndType 5 29), (0, u "([CIILjava/lang/Void;)V"), (8, .fieldref 10 39), (0, .nameAndType 40 26), (0, u "COMPACT_STRINGS"), (1, .class_ 44), (1, u "java/lang/StringUTF16"), (0, u "compress"), (1, .methodref 42 48), (0, .nameAndType 49 50), (0, u "coderFromArrayLen"), (0, u "([BI)B"), (2, u "toBytes"), (0, .methodref 55 56), (0, .class_ 57), (0, .nameAndType 58 59), (0, u "java/util/Arrays"), (0, u "copyOfRange"), (0, u "([BII)[B"), (47, .class_ 109), (1, u "java/lang/StringLatin1"), (32, u "()Z"), (34, .methodref 42 178), (0, .nameAndType 45 179), (0, u "([CII)[B"), (13, .class_ 195), (1, u "java/lang/System"), (13, .methodref 10 210), (0, .nameAndType 5 211), (0, u "([BB)V"), (0, .methodref 193 213), (0, .nameAndType 214 215), (0, u "arraycopy"), (0, u "(Ljava/lang/Object;ILjava/lang/Object;II)V"), (118, u "()I"), (0, .methodref 10 336), (0, .nameAndType 17 337), (0, u "()B"), (2, u "()[B"), (22, u "([BI)C"), (5, u "(C)Z"), (21, u "(II)V"), (35, u "(I)C"), (61, .methodref 10 490), (0, .nameAndType 5 491), (0, u "(Ljava/lang/AbstractStringBuilder;Ljava/lang/Void;)V"), (0, .methodref 10 493), (0, .nameAndType 494 142), (0, u "isLatin1"), (0, .methodref 107 496), (0, .nameAndType 497 363), (0, u "charAt"), (3, u "checkIndex"), (4, .nameAndType 507 334), (0, u "length"), (24, u "getBytes"), (16, .methodref 550 506), (0, .class_ 551), (0, u "java/lang/AbstractStringBuilder"), (0, .methodref 550 553), (0, .nameAndType 554 340), (0, u "getValue"), (20, .class_ 576), (0, u "java/lang/CharSequence"), (22, u "CASE_INSENSITIVE_ORDER"), (0, u "Ljava/util/Comparator;"), (181, u "valueOf"), (0, u "(C)Ljava/lang/String;"), (37, u "([BIB)V"), (188, u "([C)V"), (4, .methodref 107 1016), (0, .nameAndType 1017 369), (0, u "canEncode"), (0, .methodref 107 1019), (0, .nameAndType 53 1020), (0, u "(C)[B"), (26, .methodref 550 493), (5, .fieldref 1054 1055), (0, .class_ 1056), (0, .nameAndType 1057 1058), (0, u "jdk/internal/util/Preconditions"), (0, u "SIOOBE_FORMATTER"), (0, u "Ljava/util/function/BiFunction;"), (0, .methodref 1054 1060), (0, .nameAndType 501 1061), (0, u "(IILjava/util/function/BiFunction;)I"), (39, u "serialPersistentFields"), (0, u "[Ljava/io/ObjectStreamField;"), (0, .class_ 1104), (0, u "java/lang/String$CaseInsensitiveComparator"), (1, .class_ 1107), (0, u "java/io/Serializable"), (0, .class_ 1109), (0, u "java/lang/Comparable"), (0, .class_ 1111), (0, u "java/lang/constant/Constable"), (0, .class_ 1113), (0, u "java/lang/constant/ConstantDesc"), (2, u "serialVersionUID"), (0, u "J"), (3, u "REPL"), (0, u "C"), (2, u "LATIN1"), (1, u "UTF16"), (105, u "(Ljava/lang/StringBuilder;)V")] 217

def k7m0 : Method := { name := "<init>", desc := "()V", sig := { parameters := [], returnType := none }, accessFlags := 1, code := none }
def k7c1 : Code := { maxStack := 5, maxLocals := 2, code := jdk_42_method_3_code, exceptionTable := #[], attributes := #[] }
def k7m1 : Method := { name := "<init>", desc := "([C)V", sig := { parameters := [(.array .char)], returnType := none }, accessFlags := 1, code := some k7c1 }
def k7c2 : Code := { maxStack := 3, maxLocals := 2, code := jdk_42_method_53_code, exceptionTable := #[], attributes := #[] }
def k7m2 : Method := { name := "<init>", desc := "(Ljava/lang/StringBuilder;)V", sig := { parameters := [(.object "java/lang/StringBuilder")], returnType := none }, accessFlags := 1, code := some k7c2 }
def k7c3 : Code := { maxStack := 2, maxLocals := 1, code := jdk_42_method_54_code, exceptionTable := #[], attributes := #[] }
def k7m3 : Method := { name := "length", desc := "()I", sig := { parameters := [], returnType := some .int }, accessFlags := 1, code := some k7c3 }
def k7c4 : Code := { maxStack := 2, maxLocals := 2, code := jdk_42_method_56_code, exceptionTable := #[], attributes := #[] }
def k7m4 : Method := { name := "charAt", desc := "(I)C", sig := { parameters := [.int], returnType := some .char }, accessFlags := 1, code := some k7c4 }
def k7c5 : Code := { maxStack := 4, maxLocals := 1, code := jdk_42_method_139_code, exceptionTable := #[], attributes := #[] }
def k7m5 : Method := { name := "valueOf", desc := "(C)Ljava/lang/String;", sig := { parameters := [.char], returnType := some (.object "java/lang/String") }, accessFlags := 9, code := some k7c5 }
def k7c6 : Code := { maxStack := 5, maxLocals := 4, code := jdk_42_method_147_code, exceptionTable := #[], attributes := #[] }
def k7m6 : Method := { name := "getBytes", desc := "([BIB)V", sig := { parameters := [(.array .byte), .int, .byte], returnType := none }, accessFlags := 0, code := some k7c6 }
def k7c7 : Code := { maxStack := 4, maxLocals := 6, code := jdk_42_method_149_code, exceptionTable := #[], attributes := #[] }
def k7m7 : Method := { name := "<init>", desc := "([CIILjava/lang/Void;)V", sig := { parameters := [(.array .char), .int, .int, (.object "java/lang/Void")], returnType := none }, accessFlags := 2, code := some k7c7 }
def k7c8 : Code := { maxStack := 5, maxLocals := 5, code := jdk_42_method_150_code, exceptionTable := #[], attributes := #[] }
def k7m8 : Method := { name := "<init>", desc := "(Ljava/lang/AbstractStringBuilder;Ljava/lang/Void;)V", sig := { parameters := [(.object "java/lang/AbstractStringBuilder"), (.object "java/lang/Void")], returnType := none }, accessFlags := 0, code := some k7c8 }
def k7c9 : Code := { maxStack := 2, maxLocals := 3, code := jdk_42_method_151_code, exceptionTable := #[], attributes := #[] }
def k7m9 : Method := { name := "<init>", desc := "([BB)V", sig := { parameters := [(.array .byte), .byte], returnType := none }, accessFlags := 0, code := some k7c9 }
def k7c10 : Code := { maxStack := 1, maxLocals := 1, code := jdk_42_method_152_code, exceptionTable := #[], attributes := #[] }
def k7m10 : Method := { name := "coder", desc := "()B", sig := { parameters := [], returnType := some .byte }, accessFlags := 0, code := some k7c10 }
def k7c11 : Code := { maxStack := 1, maxLocals := 1, code := jdk_42_method_154_code, exceptionTable := #[], attributes := #[] }
def k7m11 : Method := { name := "isLatin1", desc := "()Z", sig := { parameters := [], returnType := some .boolean }, accessFlags := 0, code := some k7c11 }
def k7c12 : Code := { maxStack := 3, maxLocals := 2, code := jdk_42_method_155_code, exceptionTable := #[], attributes := #[] }
def k7m12 : Method := { name := "checkIndex", desc := "(II)V", sig := { parameters := [.int, .int], returnType := none }, accessFlags := 8, code := some k7c12 }
/-- java/lang/String -/
def k7 : Class := { plain "java/lang/String" (some 0) with
  accessFlags := 49
  interfaces := #[2, 3, 4, 5, 6]
  cf := some (fileOf pool7 10 #[.nestMembers #[1103]] #[{ accessFlags := 1, nameIndex := 5, descriptorIndex := 6, attributes := #[] }, { accessFlags := 1, nameIndex := 5, descriptorIndex := 1010, attributes := #[] }, { accessFlags := 1, nameIndex := 5, descriptorIndex := 1233, attributes := #[] }, { accessFlags := 1, nameIndex := 507, descriptorIndex := 334, attributes := #[] }, { accessFlags := 1, nameIndex := 497, descriptorIndex := 427, attributes := #[] }, { accessFlags := 9, nameIndex := 782, descriptorIndex := 783, attributes := #[] }, { accessFlags := 0, nameIndex := 532, descriptorIndex := 821, attributes := #[] }, { accessFlags := 2, nameIndex := 5, descriptorIndex := 29, attributes := #[] }, { accessFlags := 0, nameIndex := 5, descriptorIndex := 491, attributes := #[] }, { accessFlags := 0, nameIndex := 5, descriptorIndex := 211, attributes := #[] }, { accessFlags := 0, nameIndex := 17, descriptorIndex := 337, attributes := #[] }, { accessFlags := 0, nameIndex := 494, descriptorIndex := 142, attributes := #[] }, { accessFlags := 8, nameIndex := 501, descriptorIndex := 391, attributes := #[] }] 49 2 #[1106, 1108, 575, 1110, 1112] #[{ accessFlags := 18, nameIndex := 13, descriptorIndex := 14, attributes := #[] }, { accessFlags := 18, nameIndex := 17, descriptorIndex := 18, attributes := #[] }, { accessFlags := 2, nameIndex := 21, descriptorIndex := 22, attributes := #[] }, { accessFlags := 2, nameIndex := 25, descriptorIndex := 26, attributes := #[] }, { accessFlags := 26, nameIndex := 1116, descriptorIndex := 1117, attributes := #[] }, { accessFlags := 24, nameIndex := 40, descriptorIndex := 26, attributes := #[] }, { accessFlags := 26, nameIndex := 1101, descriptorIndex := 1102, attributes := #[] }, { accessFlags := 26, nameIndex := 1121, descriptorIndex := 1122, attributes := #[] }, { accessFlags := 25, nameIndex := 599, descriptorIndex := 600, attributes := #[] }, { accessFlags := 24, nameIndex := 1125, descriptorIndex := 18, attributes := #[] }, { accessFlags := 24, nameIndex := 1127, descriptorIndex := 18, attributes := #[] }])
  fields := #[{ name := "value", type := (.array .byte), accessFlags := 18, slot := 0, constantValue := 0 }, { name := "coder", type := .byte, accessFlags := 18, slot := 1, constantValue := 0 }, { name := "hash", type := .int, accessFlags := 2, slot := 2, constantValue := 0 }, { name := "hashIsZero", type := .boolean, accessFlags := 2, slot := 3, constantValue := 0 }, { name := "serialVersionUID", type := .long, accessFlags := 26, slot := 0, constantValue := 0 }, { name := "COMPACT_STRINGS", type := .boolean, accessFlags := 24, slot := 1, constantValue := 0 }, { name := "serialPersistentFields", type := (.array (.object "java/io/ObjectStreamField")), accessFlags := 26, slot := 2, constantValue := 0 }, { name := "REPL", type := .char, accessFlags := 26, slot := 3, constantValue := 0 }, { name := "CASE_INSENSITIVE_ORDER", type := (.object "java/util/Comparator"), accessFlags := 25, slot := 4, constantValue := 0 }, { name := "LATIN1", type := .byte, accessFlags := 24, slot := 5, constantValue := 0 }, { name := "UTF16", type := .byte, accessFlags := 24, slot := 6, constantValue := 0 }]
  methods := #[k7m0, k7m1, k7m2, k7m3, k7m4, k7m5, k7m6, k7m7, k7m8, k7m9, k7m10, k7m11, k7m12]
  instanceTypes := #[(.array .byte), .byte, .int, .boolean]
  staticTypes := #[.long, .boolean, (.array (.object "java/io/ObjectStreamField")), .char, (.object "java/util/Comparator"), .byte, .byte]
  resolved := Array.replicate 1451 none
  statics := some 0 }

def pool8 : Array CpInfo := pool [(1, .methodref 2 3), (0, .class_ 4), (0, .nameAndType 5 6), (0, u "java/lang/Object"), (0, u "<init>"), (0, u "()V"), (0, .class_ 8), (0, u "java/lang/StringBuilder"), (0, .class_ 10), (0, u "dev/typewright/dart/DartWriter"), (0, .string 12), (0, u "// Generated by Typewright. Do not edit."), (0, .methodref 7 14), (0, .nameAndType 5 15), (0, u "(Ljava/lang/String;)V"), (0, .methodref 7 17), (0, .nameAndType 18 19), (0, u "append"), (0, u "(C)Ljava/lang/StringBuilder;"), (0, .fieldref 9 21), (0, .nameAndType 22 23), (0, u "text"), (0, u "Ljava/lang/StringBuilder;"), (0, .fieldref 9 25), (0, .nameAndType 26 27), (0, u "blankLinePending"), (0, u "Z"), (0, .methodref 7 29), (0, .nameAndType 18 30), (0, u "(Ljava/lang/String;)Ljava/lang/StringBuilder;"), (0, .methodref 7 32), (0, .nameAndType 33 34), (0, u "toString"), (0, u "()Ljava/lang/String;"), (0, u "HEADER"), (0, u "Ljava/lang/String;"), (3, u "line"), (0, u "(Ljava/lang/String;)Ldev/typewright/dart/DartWriter;"), (1, u "blankLine"), (0, u "()Ldev/typewright/dart/DartWriter;")] 2

def k8c0 : Code := { maxStack := 4, maxLocals := 1, code := prog_57_method_1_code, exceptionTable := #[], attributes := #[] }
def k8m0 : Method := { name := "<init>", desc := "()V", sig := { parameters := [], returnType := none }, accessFlags := 0, code := some k8c0 }
def k8c1 : Code := { maxStack := 2, maxLocals := 2, code := prog_57_method_2_code, exceptionTable := #[], attributes := #[] }
def k8m1 : Method := { name := "line", desc := "(Ljava/lang/String;)Ldev/typewright/dart/DartWriter;", sig := { parameters := [(.object "java/lang/String")], returnType := some (.object "dev/typewright/dart/DartWriter") }, accessFlags := 0, code := some k8c1 }
def k8c2 : Code := { maxStack := 2, maxLocals := 1, code := prog_57_method_3_code, exceptionTable := #[], attributes := #[] }
def k8m2 : Method := { name := "blankLine", desc := "()Ldev/typewright/dart/DartWriter;", sig := { parameters := [], returnType := some (.object "dev/typewright/dart/DartWriter") }, accessFlags := 0, code := some k8c2 }
def k8c3 : Code := { maxStack := 1, maxLocals := 1, code := prog_57_method_4_code, exceptionTable := #[], attributes := #[] }
def k8m3 : Method := { name := "toString", desc := "()Ljava/lang/String;", sig := { parameters := [], returnType := some (.object "java/lang/String") }, accessFlags := 1, code := some k8c3 }
/-- dev/typewright/dart/DartWriter -/
def k8 : Class := { plain "dev/typewright/dart/DartWriter" (some 0) with
  accessFlags := 48
  interfaces := #[]
  cf := some (fileOf pool8 9 #[] #[{ accessFlags := 0, nameIndex := 5, descriptorIndex := 6, attributes := #[] }, { accessFlags := 0, nameIndex := 40, descriptorIndex := 41, attributes := #[] }, { accessFlags := 0, nameIndex := 43, descriptorIndex := 44, attributes := #[] }, { accessFlags := 1, nameIndex := 33, descriptorIndex := 34, attributes := #[] }] 48 2 #[] #[{ accessFlags := 24, nameIndex := 35, descriptorIndex := 36, attributes := #[] }, { accessFlags := 18, nameIndex := 22, descriptorIndex := 23, attributes := #[] }, { accessFlags := 2, nameIndex := 26, descriptorIndex := 27, attributes := #[] }])
  fields := #[{ name := "HEADER", type := (.object "java/lang/String"), accessFlags := 24, slot := 0, constantValue := 0 }, { name := "text", type := (.object "java/lang/StringBuilder"), accessFlags := 18, slot := 0, constantValue := 0 }, { name := "blankLinePending", type := .boolean, accessFlags := 2, slot := 1, constantValue := 0 }]
  methods := #[k8m0, k8m1, k8m2, k8m3]
  instanceTypes := #[(.object "java/lang/StringBuilder"), .boolean]
  staticTypes := #[(.object "java/lang/String")]
  resolved := Array.replicate 47 none
  statics := none }

def pool9 : Array CpInfo := pool [(1, .class_ 2), (0, u "java/lang/Appendable"), (0, .class_ 4), (0, u "java/lang/Object")] 9

/-- java/lang/Appendable -/
def k9 : Class := { plain "java/lang/Appendable" (some 0) with
  accessFlags := 1537
  interfaces := #[]
  cf := some (fileOf pool9 1 #[] #[] 1537 3 #[] #[])
  fields := #[]
  methods := #[]
  instanceTypes := #[]
  staticTypes := #[]
  resolved := Array.replicate 14 none
  statics := none }

def pool10 : Array CpInfo := pool [(1, .class_ 2), (0, u "java/lang/String"), (0, .methodref 4 5), (0, .class_ 6), (0, .nameAndType 7 8), (0, u "java/lang/Object"), (0, u "<init>"), (0, u "()V"), (1, .class_ 12), (1, u "java/lang/AbstractStringBuilder"), (0, u "EMPTYVALUE"), (0, u "[B"), (0, .fieldref 10 16), (0, .nameAndType 17 14), (0, u "value"), (0, .fieldref 1 19), (0, .nameAndType 20 21), (0, u "COMPACT_STRINGS"), (0, u "Z"), (0, .fieldref 10 23), (0, .nameAndType 24 25), (0, u "coder"), (0, u "B"), (6, .methodref 1 33), (0, .nameAndType 34 35), (0, u "length"), (0, u "()I"), (2, .integer 2147483631), (1, .methodref 1 41), (0, .nameAndType 24 42), (0, u "()B"), (0, .methodref 10 44), (0, .nameAndType 45 46), (0, u "append"), (0, u "(Ljava/lang/String;)Ljava/lang/AbstractStringBuilder;"), (1, .class_ 49), (0, u "java/lang/CharSequence"), (19, u "(Ljava/lang/String;)V"), (5, u "maybeLatin1"), (3, .fieldref 10 80), (0, .nameAndType 81 82), (0, u "count"), (0, u "I"), (0, .methodref 10 84), (0, .nameAndType 85 86), (0, u "isLatin1"), (0, u "()Z"), (1, .class_ 90), (1, u "java/lang/StringLatin1"), (9, .methodref 10 101), (0, .nameAndType 102 103), (0, u "ensureCapacityInternal"), (0, u "(I)V"), (87, .methodref 88 192), (0, .nameAndType 193 194), (0, u "canEncode"), (0, u "(C)Z"), (13, .methodref 10 209), (0, .nameAndType 210 211), (0, u "putStringAt"), (0, u "(ILjava/lang/String;)V"), (5, u "inflateIfNeededFor"), (2, .nameAndType 221 222), (0, u "getBytes"), (0, u "([BIB)V"), (69, u "(C)Ljava/lang/AbstractStringBuilder;"), (104, .methodref 10 398), (0, .nameAndType 217 69), (0, .methodref 1 220), (3, u "()[B"), (40, .class_ 445), (0, u "java/lang/Appendable"), (106, u "getValue")] 56

def k10m0 : Method := { name := "<init>", desc := "()V", sig := { parameters := [], returnType := none }, accessFlags := 0, code := none }
def k10c1 : Code := { maxStack := 2, maxLocals := 5, code := jdk_68_method_3_code, exceptionTable := #[], attributes := #[] }
def k10m1 : Method := { name := "<init>", desc := "(Ljava/lang/String;)V", sig := { parameters := [(.object "java/lang/String")], returnType := none }, accessFlags := 0, code := some k10c1 }
def k10c2 : Code := { maxStack := 1, maxLocals := 1, code := jdk_68_method_6_code, exceptionTable := #[], attributes := #[] }
def k10m2 : Method := { name := "length", desc := "()I", sig := { parameters := [], returnType := some .int }, accessFlags := 1, code := some k10c2 }
def k10c3 : Code := { maxStack := 4, maxLocals := 3, code := jdk_68_method_9_code, exceptionTable := #[], attributes := #[] }
def k10m3 : Method := { name := "ensureCapacityInternal", desc := "(I)V", sig := { parameters := [.int], returnType := none }, accessFlags := 2, code := some k10c3 }
def k10c4 : Code := { maxStack := 3, maxLocals := 3, code := jdk_68_method_22_code, exceptionTable := #[], attributes := #[] }
def k10m4 : Method := { name := "append", desc := "(Ljava/lang/String;)Ljava/lang/AbstractStringBuilder;", sig := { parameters := [(.object "java/lang/String")], returnType := some (.object "java/lang/AbstractStringBuilder") }, accessFlags := 1, code := some k10c4 }
def k10c5 : Code := { maxStack := 5, maxLocals := 2, code := jdk_68_method_31_code, exceptionTable := #[], attributes := #[] }
def k10m5 : Method := { name := "append", desc := "(C)Ljava/lang/AbstractStringBuilder;", sig := { parameters := [.char], returnType := some (.object "java/lang/AbstractStringBuilder") }, accessFlags := 1, code := some k10c5 }
def k10c6 : Code := { maxStack := 1, maxLocals := 1, code := jdk_68_method_64_code, exceptionTable := #[], attributes := #[] }
def k10m6 : Method := { name := "getValue", desc := "()[B", sig := { parameters := [], returnType := some (.array .byte) }, accessFlags := 16, code := some k10c6 }
def k10c7 : Code := { maxStack := 1, maxLocals := 1, code := jdk_68_method_68_code, exceptionTable := #[], attributes := #[] }
def k10m7 : Method := { name := "isLatin1", desc := "()Z", sig := { parameters := [], returnType := some .boolean }, accessFlags := 16, code := some k10c7 }
def k10c8 : Code := { maxStack := 2, maxLocals := 2, code := jdk_68_method_71_code, exceptionTable := #[], attributes := #[] }
def k10m8 : Method := { name := "inflateIfNeededFor", desc := "(Ljava/lang/String;)V", sig := { parameters := [(.object "java/lang/String")], returnType := none }, accessFlags := 2, code := some k10c8 }
def k10c9 : Code := { maxStack := 4, maxLocals := 3, code := jdk_68_method_73_code, exceptionTable := #[], attributes := #[] }
def k10m9 : Method := { name := "putStringAt", desc := "(ILjava/lang/String;)V", sig := { parameters := [.int, (.object "java/lang/String")], returnType := none }, accessFlags := 2, code := some k10c9 }
/-- java/lang/AbstractStringBuilder -/
def k10 : Class := { plain "java/lang/AbstractStringBuilder" (some 0) with
  accessFlags := 1056
  interfaces := #[9, 4]
  cf := some (fileOf pool10 10 #[] #[{ accessFlags := 0, nameIndex := 7, descriptorIndex := 8, attributes := #[] }, { accessFlags := 0, nameIndex := 7, descriptorIndex := 69, attributes := #[] }, { accessFlags := 1, nameIndex := 34, descriptorIndex := 35, attributes := #[] }, { accessFlags := 2, nameIndex := 102, descriptorIndex := 103, attributes := #[] }, { accessFlags := 1, nameIndex := 45, descriptorIndex := 46, attributes := #[] }, { accessFlags := 1, nameIndex := 45, descriptorIndex := 292, attributes := #[] }, { accessFlags := 16, nameIndex := 552, descriptorIndex := 403, attributes := #[] }, { accessFlags := 16, nameIndex := 85, descriptorIndex := 86, attributes := #[] }, { accessFlags := 2, nameIndex := 217, descriptorIndex := 69, attributes := #[] }, { accessFlags := 2, nameIndex := 210, descriptorIndex := 211, attributes := #[] }] 1056 4 #[444, 48] #[{ accessFlags := 0, nameIndex := 17, descriptorIndex := 14, attributes := #[] }, { accessFlags := 0, nameIndex := 24, descriptorIndex := 25, attributes := #[] }, { accessFlags := 0, nameIndex := 75, descriptorIndex := 21, attributes := #[] }, { accessFlags := 0, nameIndex := 81, descriptorIndex := 82, attributes := #[] }, { accessFlags := 26, nameIndex := 13, descriptorIndex := 14, attributes := #[] }])
  fields := #[{ name := "value", type := (.array .byte), accessFlags := 0, slot := 0, constantValue := 0 }, { name := "coder", type := .byte, accessFlags := 0, slot := 1, constantValue := 0 }, { name := "maybeLatin1", type := .boolean, accessFlags := 0, slot := 2, constantValue := 0 }, { name := "count", type := .int, accessFlags := 0, slot := 3, constantValue := 0 }, { name := "EMPTYVALUE", type := (.array .byte), accessFlags := 26, slot := 0, constantValue := 0 }]
  methods := #[k10m0, k10m1, k10m2, k10m3, k10m4, k10m5, k10m6, k10m7, k10m8, k10m9]
  instanceTypes := #[(.array .byte), .byte, .boolean, .int]
  staticTypes := #[(.array .byte)]
  resolved := Array.replicate 609 none
  statics := none }

def pool11 : Array CpInfo := pool [(2, .class_ 4), (1, u "java/lang/AbstractStringBuilder"), (0, u "<init>"), (1, .methodref 2 8), (0, .nameAndType 5 9), (0, u "(Ljava/lang/String;)V"), (8, .class_ 20), (1, u "java/lang/String"), (2, .methodref 24 25), (0, .class_ 26), (0, .nameAndType 27 28), (0, u "java/lang/StringBuilder"), (0, u "append"), (0, u "(Ljava/lang/String;)Ljava/lang/StringBuilder;"), (0, .methodref 2 30), (0, .nameAndType 27 31), (0, u "(Ljava/lang/String;)Ljava/lang/AbstractStringBuilder;"), (18, .methodref 2 51), (0, .nameAndType 27 52), (0, u "(C)Ljava/lang/AbstractStringBuilder;"), (84, .methodref 18 138), (0, .nameAndType 5 139), (0, u "(Ljava/lang/StringBuilder;)V"), (5, u "()V"), (10, u "()I"), (129, u "(C)Ljava/lang/StringBuilder;"), (56, .methodref 2 344), (0, .nameAndType 345 156), (0, u "length"), (3, .class_ 350), (0, u "java/lang/Appendable"), (0, .class_ 352), (0, u "java/io/Serializable"), (0, .class_ 354), (0, u "java/lang/Comparable"), (0, .class_ 356), (0, u "java/lang/CharSequence"), (0, u "serialVersionUID"), (0, u "J"), (40, u "toString"), (0, u "()Ljava/lang/String;")] 21

def k11m0 : Method := { name := "<init>", desc := "()V", sig := { parameters := [], returnType := none }, accessFlags := 1, code := none }
def k11c1 : Code := { maxStack := 2, maxLocals := 2, code := jdk_67_method_3_code, exceptionTable := #[], attributes := #[] }
def k11m1 : Method := { name := "<init>", desc := "(Ljava/lang/String;)V", sig := { parameters := [(.object "java/lang/String")], returnType := none }, accessFlags := 1, code := some k11c1 }
def k11c2 : Code := { maxStack := 2, maxLocals := 2, code := jdk_67_method_7_code, exceptionTable := #[], attributes := #[] }
def k11m2 : Method := { name := "append", desc := "(Ljava/lang/String;)Ljava/lang/StringBuilder;", sig := { parameters := [(.object "java/lang/String")], returnType := some (.object "java/lang/StringBuilder") }, accessFlags := 1, code := some k11c2 }
def k11c3 : Code := { maxStack := 2, maxLocals := 2, code := jdk_67_method_14_code, exceptionTable := #[], attributes := #[] }
def k11m3 : Method := { name := "append", desc := "(C)Ljava/lang/StringBuilder;", sig := { parameters := [.char], returnType := some (.object "java/lang/StringBuilder") }, accessFlags := 1, code := some k11c3 }
def k11c4 : Code := { maxStack := 3, maxLocals := 1, code := jdk_67_method_42_code, exceptionTable := #[], attributes := #[] }
def k11m4 : Method := { name := "toString", desc := "()Ljava/lang/String;", sig := { parameters := [], returnType := some (.object "java/lang/String") }, accessFlags := 1, code := some k11c4 }
def k11c5 : Code := { maxStack := 2, maxLocals := 2, code := jdk_67_method_80_code, exceptionTable := #[], attributes := #[] }
def k11m5 : Method := { name := "append", desc := "(Ljava/lang/String;)Ljava/lang/AbstractStringBuilder;", sig := { parameters := [(.object "java/lang/String")], returnType := some (.object "java/lang/AbstractStringBuilder") }, accessFlags := 4161, code := some k11c5 }
def k11c6 : Code := { maxStack := 1, maxLocals := 1, code := jdk_67_method_93_code, exceptionTable := #[], attributes := #[] }
def k11m6 : Method := { name := "length", desc := "()I", sig := { parameters := [], returnType := some .int }, accessFlags := 4161, code := some k11c6 }
/-- java/lang/StringBuilder -/
def k11 : Class := { plain "java/lang/StringBuilder" (some 10) with
  accessFlags := 49
  interfaces := #[9, 2, 3, 4]
  cf := some (fileOf pool11 24 #[] #[{ accessFlags := 1, nameIndex := 5, descriptorIndex := 145, attributes := #[] }, { accessFlags := 1, nameIndex := 5, descriptorIndex := 9, attributes := #[] }, { accessFlags := 1, nameIndex := 27, descriptorIndex := 28, attributes := #[] }, { accessFlags := 1, nameIndex := 27, descriptorIndex := 286, attributes := #[] }, { accessFlags := 1, nameIndex := 399, descriptorIndex := 400, attributes := #[] }, { accessFlags := 4161, nameIndex := 27, descriptorIndex := 31, attributes := #[] }, { accessFlags := 4161, nameIndex := 345, descriptorIndex := 156, attributes := #[] }] 49 2 #[349, 351, 353, 355] #[{ accessFlags := 24, nameIndex := 357, descriptorIndex := 358, attributes := #[] }])
  fields := #[{ name := "serialVersionUID", type := .long, accessFlags := 24, slot := 0, constantValue := 0 }]
  methods := #[k11m0, k11m1, k11m2, k11m3, k11m4, k11m5, k11m6]
  instanceTypes := #[(.array .byte), .byte, .boolean, .int]
  staticTypes := #[.long]
  resolved := Array.replicate 422 none
  statics := none }

def pool12 : Array CpInfo := pool [(2, .class_ 4), (1, u "java/lang/Object"), (0, u "<init>"), (0, u "()V"), (1, .class_ 10), (1, u "java/lang/System"), (0, u "allowSecurityManager"), (0, u "I"), (16, u "cons"), (0, u "Ljava/io/Console;"), (77, .class_ 110), (1, u "java/lang/System$CallersHolder"), (43, u "initialErrStream"), (0, u "Ljava/io/PrintStream;"), (19, u "security"), (0, u "Ljava/lang/SecurityManager;"), (31, .class_ 209), (0, u "java/lang/System$1"), (7, u "props"), (0, u "Ljava/util/Properties;"), (2, u "lineSeparator"), (0, u "Ljava/lang/String;"), (96, .class_ 321), (1, u "java/lang/System$LoggerFinder"), (5, .class_ 328), (0, u "java/lang/System$Logger"), (67, u "err"), (2, u "out"), (91, u "notSupportedJnuEncoding"), (15, u "in"), (17, u "initialIn"), (0, u "Ljava/io/InputStream;"), (35, u "bootLayer"), (0, u "Ljava/lang/ModuleLayer;"), (99, .class_ 664), (0, u "java/lang/System$2"), (9, u "NEVER"), (2, u "MAYBE"), (49, u "arraycopy"), (0, u "(Ljava/lang/Object;ILjava/lang/Object;II)V"), (72, .class_ 802), (0, u "java/lang/System$Logger$Level")] 31

def k12m0 : Method := { name := "<init>", desc := "()V", sig := { parameters := [], returnType := none }, accessFlags := 2, code := none }
def k12m1 : Method := { name := "arraycopy", desc := "(Ljava/lang/Object;ILjava/lang/Object;II)V", sig := { parameters := [(.object "java/lang/Object"), .int, (.object "java/lang/Object"), .int, .int], returnType := none }, accessFlags := 265, code := none }
/-- java/lang/System -/
def k12 : Class := { plain "java/lang/System" (some 0) with
  accessFlags := 49
  interfaces := #[]
  cf := some (fileOf pool12 8 #[.nestMembers #[319, 327, 801, 108, 663, 208]] #[{ accessFlags := 2, nameIndex := 5, descriptorIndex := 6, attributes := #[] }, { accessFlags := 265, nameIndex := 727, descriptorIndex := 728, attributes := #[] }] 49 2 #[] #[{ accessFlags := 25, nameIndex := 507, descriptorIndex := 526, attributes := #[] }, { accessFlags := 25, nameIndex := 399, descriptorIndex := 155, attributes := #[] }, { accessFlags := 25, nameIndex := 396, descriptorIndex := 155, attributes := #[] }, { accessFlags := 10, nameIndex := 525, descriptorIndex := 526, attributes := #[] }, { accessFlags := 26, nameIndex := 674, descriptorIndex := 12, attributes := #[] }, { accessFlags := 26, nameIndex := 677, descriptorIndex := 12, attributes := #[] }, { accessFlags := 10, nameIndex := 11, descriptorIndex := 12, attributes := #[] }, { accessFlags := 74, nameIndex := 175, descriptorIndex := 176, attributes := #[] }, { accessFlags := 10, nameIndex := 491, descriptorIndex := 222, attributes := #[] }, { accessFlags := 74, nameIndex := 29, descriptorIndex := 30, attributes := #[] }, { accessFlags := 74, nameIndex := 154, descriptorIndex := 155, attributes := #[] }, { accessFlags := 10, nameIndex := 217, descriptorIndex := 218, attributes := #[] }, { accessFlags := 10, nameIndex := 221, descriptorIndex := 222, attributes := #[] }, { accessFlags := 8, nameIndex := 562, descriptorIndex := 563, attributes := #[] }])
  fields := #[{ name := "in", type := (.object "java/io/InputStream"), accessFlags := 25, slot := 0, constantValue := 0 }, { name := "out", type := (.object "java/io/PrintStream"), accessFlags := 25, slot := 1, constantValue := 0 }, { name := "err", type := (.object "java/io/PrintStream"), accessFlags := 25, slot := 2, constantValue := 0 }, { name := "initialIn", type := (.object "java/io/InputStream"), accessFlags := 10, slot := 3, constantValue := 0 }, { name := "NEVER", type := .int, accessFlags := 26, slot := 4, constantValue := 0 }, { name := "MAYBE", type := .int, accessFlags := 26, slot := 5, constantValue := 0 }, { name := "allowSecurityManager", type := .int, accessFlags := 10, slot := 6, constantValue := 0 }, { name := "security", type := (.object "java/lang/SecurityManager"), accessFlags := 74, slot := 7, constantValue := 0 }, { name := "notSupportedJnuEncoding", type := (.object "java/lang/String"), accessFlags := 10, slot := 8, constantValue := 0 }, { name := "cons", type := (.object "java/io/Console"), accessFlags := 74, slot := 9, constantValue := 0 }, { name := "initialErrStream", type := (.object "java/io/PrintStream"), accessFlags := 74, slot := 10, constantValue := 0 }, { name := "props", type := (.object "java/util/Properties"), accessFlags := 10, slot := 11, constantValue := 0 }, { name := "lineSeparator", type := (.object "java/lang/String"), accessFlags := 10, slot := 12, constantValue := 0 }, { name := "bootLayer", type := (.object "java/lang/ModuleLayer"), accessFlags := 8, slot := 13, constantValue := 0 }]
  methods := #[k12m0, k12m1]
  instanceTypes := #[]
  staticTypes := #[(.object "java/io/InputStream"), (.object "java/io/PrintStream"), (.object "java/io/PrintStream"), (.object "java/io/InputStream"), .int, .int, .int, (.object "java/lang/SecurityManager"), (.object "java/lang/String"), (.object "java/io/Console"), (.object "java/io/PrintStream"), (.object "java/util/Properties"), (.object "java/lang/String"), (.object "java/lang/ModuleLayer")]
  resolved := Array.replicate 834 none
  statics := none }

def pool13 : Array CpInfo := pool [(1, .class_ 2), (0, u "java/lang/String"), (1, .class_ 6), (1, u "java/lang/Object"), (0, u "<init>"), (0, u "()V"), (0, .methodref 1 10), (0, .nameAndType 11 12), (0, u "checkIndex"), (0, u "(II)V"), (1, .class_ 16), (1, u "java/lang/StringLatin1"), (36, u "([BI)C"), (36, u "canEncode"), (14, u "(C)Z"), (15, u "$assertionsDisabled"), (0, u "Z"), (98, .class_ 223), (1, u "java/lang/StringLatin1$LinesSpliterator"), (28, u "charAt"), (127, u "toBytes"), (1, u "(C)[B"), (7, .class_ 391), (0, u "java/lang/StringLatin1$CharsSpliterator")] 3

def k13m0 : Method := { name := "<init>", desc := "()V", sig := { parameters := [], returnType := none }, accessFlags := 0, code := none }
def k13c1 : Code := { maxStack := 2, maxLocals := 2, code := jdk_43_method_2_code, exceptionTable := #[], attributes := #[] }
def k13m1 : Method := { name := "charAt", desc := "([BI)C", sig := { parameters := [(.array .byte), .int], returnType := some .char }, accessFlags := 9, code := some k13c1 }
def k13c2 : Code := { maxStack := 2, maxLocals := 1, code := jdk_43_method_3_code, exceptionTable := #[], attributes := #[] }
def k13m2 : Method := { name := "canEncode", desc := "(C)Z", sig := { parameters := [.char], returnType := some .boolean }, accessFlags := 9, code := some k13c2 }
def k13c3 : Code := { maxStack := 4, maxLocals := 1, code := jdk_43_method_46_code, exceptionTable := #[], attributes := #[] }
def k13m3 : Method := { name := "toBytes", desc := "(C)[B", sig := { parameters := [.char], returnType := some (.array .byte) }, accessFlags := 9, code := some k13c3 }
/-- java/lang/StringLatin1 -/
def k13 : Class := { plain "java/lang/StringLatin1" (some 0) with
  accessFlags := 48
  interfaces := #[]
  cf := some (fileOf pool13 14 #[.nestMembers #[390, 221]] #[{ accessFlags := 0, nameIndex := 7, descriptorIndex := 8, attributes := #[] }, { accessFlags := 9, nameIndex := 252, descriptorIndex := 53, attributes := #[] }, { accessFlags := 9, nameIndex := 90, descriptorIndex := 105, attributes := #[] }, { accessFlags := 9, nameIndex := 380, descriptorIndex := 382, attributes := #[] }] 48 4 #[] #[{ accessFlags := 4120, nameIndex := 121, descriptorIndex := 122, attributes := #[] }])
  fields := #[{ name := "$assertionsDisabled", type := .boolean, accessFlags := 4120, slot := 0, constantValue := 0 }]
  methods := #[k13m0, k13m1, k13m2, k13m3]
  instanceTypes := #[]
  staticTypes := #[.boolean]
  resolved := Array.replicate 395 none
  statics := none }

def pool14 : Array CpInfo := pool [(2, .class_ 4), (1, u "java/lang/Object"), (0, u "<init>"), (0, u "()V"), (7, .class_ 16), (1, u "java/util/Arrays"), (57, .class_ 76), (1, u "java/util/Arrays$NaturalOrder"), (36, .class_ 115), (1, u "java/util/Arrays$LegacyMergeSort"), (1, u "Z"), (21, u "copyOfRange"), (10, .methodref 151 152), (0, .class_ 153), (0, .nameAndType 154 155), (0, u "java/lang/System"), (0, u "arraycopy"), (0, u "(Ljava/lang/Object;ILjava/lang/Object;II)V"), (148, .methodref 305 306), (0, .class_ 307), (0, .nameAndType 308 309), (0, u "java/lang/Math"), (0, u "min"), (0, u "(II)I"), (29, .methodref 14 340), (0, .nameAndType 341 342), (0, u "copyOfRangeByte"), (0, u "([BII)[B"), (0, .methodref 14 344), (0, .nameAndType 345 346), (0, u "checkLength"), (0, u "(II)V"), (28, .class_ 376), (0, u "java/util/Arrays$ArrayList"), (68, u "$assertionsDisabled"), (269, u "MIN_ARRAY_SORT_GRAN"), (0, u "I"), (2, u "INSERTIONSORT_THRESHOLD"), (255, .class_ 976), (0, u "java/util/Arrays$ArrayItr")] 52

def k14m0 : Method := { name := "<init>", desc := "()V", sig := { parameters := [], returnType := none }, accessFlags := 2, code := none }
def k14c1 : Code := { maxStack := 4, maxLocals := 2, code := jdk_65_method_131_code, exceptionTable := #[], attributes := #[] }
def k14m1 : Method := { name := "checkLength", desc := "(II)V", sig := { parameters := [.int, .int], returnType := none }, accessFlags := 10, code := some k14c1 }
def k14c2 : Code := { maxStack := 3, maxLocals := 3, code := jdk_65_method_132_code, exceptionTable := #[], attributes := #[] }
def k14m2 : Method := { name := "copyOfRange", desc := "([BII)[B", sig := { parameters := [(.array .byte), .int, .int], returnType := some (.array .byte) }, accessFlags := 9, code := some k14c2 }
def k14c3 : Code := { maxStack := 6, maxLocals := 5, code := jdk_65_method_133_code, exceptionTable := #[], attributes := #[] }
def k14m3 : Method := { name := "copyOfRangeByte", desc := "([BII)[B", sig := { parameters := [(.array .byte), .int, .int], returnType := some (.array .byte) }, accessFlags := 10, code := some k14c3 }
/-- java/util/Arrays -/
def k14 : Class := { plain "java/util/Arrays" (some 0) with
  accessFlags := 49
  interfaces := #[]
  cf := some (fileOf pool14 14 #[.nestMembers #[975, 375, 113, 74]] #[{ accessFlags := 2, nameIndex := 5, descriptorIndex := 6, attributes := #[] }, { accessFlags := 10, nameIndex := 345, descriptorIndex := 346, attributes := #[] }, { accessFlags := 9, nameIndex := 139, descriptorIndex := 342, attributes := #[] }, { accessFlags := 10, nameIndex := 341, descriptorIndex := 342, attributes := #[] }] 49 2 #[] #[{ accessFlags := 26, nameIndex := 715, descriptorIndex := 716, attributes := #[] }, { accessFlags := 26, nameIndex := 719, descriptorIndex := 716, attributes := #[] }, { accessFlags := 4120, nameIndex := 445, descriptorIndex := 117, attributes := #[] }])
  fields := #[{ name := "MIN_ARRAY_SORT_GRAN", type := .int, accessFlags := 26, slot := 0, constantValue := 0 }, { name := "INSERTIONSORT_THRESHOLD", type := .int, accessFlags := 26, slot := 1, constantValue := 0 }, { name := "$assertionsDisabled", type := .boolean, accessFlags := 4120, slot := 2, constantValue := 0 }]
  methods := #[k14m0, k14m1, k14m2, k14m3]
  instanceTypes := #[]
  staticTypes := #[.int, .int, .boolean]
  resolved := Array.replicate 1029 none
  statics := none }

def pool15 : Array CpInfo := pool [(1, .class_ 2), (0, u "java/lang/Math"), (1, .class_ 6), (1, u "java/lang/Object"), (0, u "<init>"), (0, u "()V"), (89, .class_ 100), (1, u "java/lang/Math$RandomNumberGeneratorHolder"), (71, u "negativeZeroFloatBits"), (0, u "J"), (2, u "negativeZeroDoubleBits"), (24, u "min"), (43, u "$assertionsDisabled"), (0, u "Z"), (88, u "(II)I"), (2, u "twoToTheDoubleScaleDown"), (0, u "D"), (4, u "twoToTheDoubleScaleUp"), (9, u "E"), (3, u "PI"), (2, u "TAU"), (2, u "DEGREES_TO_RADIANS"), (0, u "RADIANS_TO_DEGREES")] 94

def k15m0 : Method := { name := "<init>", desc := "()V", sig := { parameters := [], returnType := none }, accessFlags := 2, code := none }
def k15c1 : Code := { maxStack := 2, maxLocals := 2, code := jdk_29_method_69_code, exceptionTable := #[], attributes := #[] }
def k15m1 : Method := { name := "min", desc := "(II)I", sig := { parameters := [.int, .int], returnType := some .int }, accessFlags := 9, code := some k15c1 }
/-- java/lang/Math -/
def k15 : Class := { plain "java/lang/Math" (some 0) with
  accessFlags := 49
  interfaces := #[]
  cf := some (fileOf pool15 1 #[.nestMembers #[98]] #[{ accessFlags := 2, nameIndex := 7, descriptorIndex := 8, attributes := #[] }, { accessFlags := 9, nameIndex := 201, descriptorIndex := 335, attributes := #[] }] 49 4 #[] #[{ accessFlags := 25, nameIndex := 354, descriptorIndex := 339, attributes := #[] }, { accessFlags := 25, nameIndex := 358, descriptorIndex := 339, attributes := #[] }, { accessFlags := 25, nameIndex := 361, descriptorIndex := 339, attributes := #[] }, { accessFlags := 26, nameIndex := 364, descriptorIndex := 339, attributes := #[] }, { accessFlags := 26, nameIndex := 365, descriptorIndex := 339, attributes := #[] }, { accessFlags := 26, nameIndex := 172, descriptorIndex := 173, attributes := #[] }, { accessFlags := 26, nameIndex := 176, descriptorIndex := 173, attributes := #[] }, { accessFlags := 8, nameIndex := 344, descriptorIndex := 339, attributes := #[] }, { accessFlags := 8, nameIndex := 338, descriptorIndex := 339, attributes := #[] }, { accessFlags := 4120, nameIndex := 245, descriptorIndex := 246, attributes := #[] }])
  fields := #[{ name := "E", type := .double, accessFlags := 25, slot := 0, constantValue := 0 }, { name := "PI", type := .double, accessFlags := 25, slot := 1, constantValue := 0 }, { name := "TAU", type := .double, accessFlags := 25, slot := 2, constantValue := 0 }, { name := "DEGREES_TO_RADIANS", type := .double, accessFlags := 26, slot := 3, constantValue := 0 }, { name := "RADIANS_TO_DEGREES", type := .double, accessFlags := 26, slot := 4, constantValue := 0 }, { name := "negativeZeroFloatBits", type := .long, accessFlags := 26, slot := 5, constantValue := 0 }, { name := "negativeZeroDoubleBits", type := .long, accessFlags := 26, slot := 6, constantValue := 0 }, { name := "twoToTheDoubleScaleUp", type := .double, accessFlags := 8, slot := 7, constantValue := 0 }, { name := "twoToTheDoubleScaleDown", type := .double, accessFlags := 8, slot := 8, constantValue := 0 }, { name := "$assertionsDisabled", type := .boolean, accessFlags := 4120, slot := 9, constantValue := 0 }]
  methods := #[k15m0, k15m1]
  instanceTypes := #[]
  staticTypes := #[.double, .double, .double, .double, .double, .long, .long, .double, .double, .boolean]
  resolved := Array.replicate 460 none
  statics := none }

def pool16 : Array CpInfo := pool [(2, .class_ 4), (1, u "java/lang/Object"), (0, u "<init>"), (0, u "()V"), (17, .class_ 26), (1, u "jdk/internal/util/Preconditions"), (6, u "checkIndex"), (21, .class_ 56), (0, u "jdk/internal/util/Preconditions$4"), (57, .class_ 115), (0, u "jdk/internal/util/Preconditions$1"), (7, u "SIOOBE_FORMATTER"), (0, u "Ljava/util/function/BiFunction;"), (0, .class_ 126), (0, u "jdk/internal/util/Preconditions$2"), (3, u "AIOOBE_FORMATTER"), (0, .class_ 132), (0, u "jdk/internal/util/Preconditions$3"), (3, u "IOOBE_FORMATTER"), (41, u "(IILjava/util/function/BiFunction;)I")] 15

def k16m0 : Method := { name := "<init>", desc := "()V", sig := { parameters := [], returnType := none }, accessFlags := 1, code := none }
def k16c1 : Code := { maxStack := 3, maxLocals := 3, code := jdk_41_method_11_code, exceptionTable := #[], attributes := #[] }
def k16m1 : Method := { name := "checkIndex", desc := "(IILjava/util/function/BiFunction;)I", sig := { parameters := [.int, .int, (.object "java/util/function/BiFunction")], returnType := some .int }, accessFlags := 9, code := some k16c1 }
/-- jdk/internal/util/Preconditions -/
def k16 : Class := { plain "jdk/internal/util/Preconditions" (some 0) with
  accessFlags := 33
  interfaces := #[]
  cf := some (fileOf pool16 24 #[.nestMembers #[55, 131, 125, 114]] #[{ accessFlags := 1, nameIndex := 5, descriptorIndex := 6, attributes := #[] }, { accessFlags := 9, nameIndex := 33, descriptorIndex := 178, attributes := #[] }] 33 2 #[] #[{ accessFlags := 25, nameIndex := 123, descriptorIndex := 124, attributes := #[] }, { accessFlags := 25, nameIndex := 130, descriptorIndex := 124, attributes := #[] }, { accessFlags := 25, nameIndex := 136, descriptorIndex := 124, attributes := #[] }])
  fields := #[{ name := "SIOOBE_FORMATTER", type := (.object "java/util/function/BiFunction"), accessFlags := 25, slot := 0, constantValue := 0 }, { name := "AIOOBE_FORMATTER", type := (.object "java/util/function/BiFunction"), accessFlags := 25, slot := 1, constantValue := 0 }, { name := "IOOBE_FORMATTER", type := (.object "java/util/function/BiFunction"), accessFlags := 25, slot := 2, constantValue := 0 }]
  methods := #[k16m0, k16m1]
  instanceTypes := #[]
  staticTypes := #[(.object "java/util/function/BiFunction"), (.object "java/util/function/BiFunction"), (.object "java/util/function/BiFunction")]
  resolved := Array.replicate 194 none
  statics := some 1 }

def pool17 : Array CpInfo := pool [(6, .class_ 8), (1, u "java/lang/Object"), (0, u "<init>"), (0, u "()V"), (1, .class_ 14), (1, u "java/lang/StringUTF16"), (31, u "$assertionsDisabled"), (0, u "Z"), (13, u "HI_BYTE_SHIFT"), (0, u "I"), (2, u "LO_BYTE_SHIFT"), (49, .methodref 12 116), (0, .nameAndType 117 118), (0, u "compress"), (0, u "([CI[BII)I"), (3, u "([CII)[B"), (138, u "coderFromArrayLen"), (0, u "([BI)B"), (106, .class_ 371), (1, u "java/lang/StringUTF16$LinesSpliterator"), (58, u "MAX_LENGTH"), (196, .class_ 628), (0, u "java/lang/StringUTF16$CodePointsSpliterator"), (0, .class_ 630), (0, u "java/lang/StringUTF16$CharsSpliterator")] 4

def k17m0 : Method := { name := "<init>", desc := "()V", sig := { parameters := [], returnType := none }, accessFlags := 0, code := none }
def k17c1 : Code := { maxStack := 2, maxLocals := 2, code := jdk_52_method_15_code, exceptionTable := #[], attributes := #[] }
def k17m1 : Method := { name := "coderFromArrayLen", desc := "([BI)B", sig := { parameters := [(.array .byte), .int], returnType := some .byte }, accessFlags := 8, code := some k17c1 }
def k17c2 : Code := { maxStack := 5, maxLocals := 6, code := jdk_52_method_16_code, exceptionTable := #[], attributes := #[] }
def k17m2 : Method := { name := "compress", desc := "([CII)[B", sig := { parameters := [(.array .char), .int, .int], returnType := some (.array .byte) }, accessFlags := 9, code := some k17c2 }
def k17c3 : Code := { maxStack := 3, maxLocals := 7, code := jdk_52_method_21_code, exceptionTable := #[], attributes := #[] }
def k17m3 : Method := { name := "compress", desc := "([CI[BII)I", sig := { parameters := [(.array .char), .int, (.array .byte), .int, .int], returnType := some .int }, accessFlags := 9, code := some k17c3 }
/-- java/lang/StringUTF16 -/
def k17 : Class := { plain "java/lang/StringUTF16" (some 0) with
  accessFlags := 48
  interfaces := #[]
  cf := some (fileOf pool17 12 #[.nestMembers #[627, 629, 369]] #[{ accessFlags := 0, nameIndex := 9, descriptorIndex := 10, attributes := #[] }, { accessFlags := 8, nameIndex := 261, descriptorIndex := 262, attributes := #[] }, { accessFlags := 9, nameIndex := 117, descriptorIndex := 122, attributes := #[] }, { accessFlags := 9, nameIndex := 117, descriptorIndex := 118, attributes := #[] }] 48 6 #[] #[{ accessFlags := 26, nameIndex := 61, descriptorIndex := 62, attributes := #[] }, { accessFlags := 26, nameIndex := 65, descriptorIndex := 62, attributes := #[] }, { accessFlags := 24, nameIndex := 430, descriptorIndex := 62, attributes := #[] }, { accessFlags := 4120, nameIndex := 46, descriptorIndex := 47, attributes := #[] }])
  fields := #[{ name := "HI_BYTE_SHIFT", type := .int, accessFlags := 26, slot := 0, constantValue := 0 }, { name := "LO_BYTE_SHIFT", type := .int, accessFlags := 26, slot := 1, constantValue := 0 }, { name := "MAX_LENGTH", type := .int, accessFlags := 24, slot := 2, constantValue := 0 }, { name := "$assertionsDisabled", type := .boolean, accessFlags := 4120, slot := 3, constantValue := 0 }]
  methods := #[k17m0, k17m1, k17m2, k17m3]
  instanceTypes := #[]
  staticTypes := #[.int, .int, .int, .boolean]
  resolved := Array.replicate 635 none
  statics := none }

def pool18 : Array CpInfo := pool [(9, u "<init>"), (6, .class_ 18), (1, u "java/lang/Object"), (0, u "()V"), (1, .class_ 23), (1, u "jdk/internal/util/ArraysSupport"), (0, u "LOG2_ARRAY_LONG_INDEX_SCALE"), (0, u "I"), (2, u "U"), (0, u "Ljdk/internal/misc/Unsafe;"), (8, u "BIG_ENDIAN"), (0, u "Z"), (8, u "LOG2_BYTE_BIT_SIZE"), (4, u "LOG2_ARRAY_INT_INDEX_SCALE"), (54, u "JLA"), (0, u "Ljdk/internal/access/JavaLangAccess;"), (11, u "LOG2_ARRAY_BOOLEAN_INDEX_SCALE"), (9, u "LOG2_ARRAY_BYTE_INDEX_SCALE"), (5, u "LOG2_ARRAY_CHAR_INDEX_SCALE"), (5, u "LOG2_ARRAY_SHORT_INDEX_SCALE"), (18, u "LOG2_ARRAY_FLOAT_INDEX_SCALE"), (24, u "LOG2_ARRAY_DOUBLE_INDEX_SCALE"), (89, u "T_BOOLEAN"), (2, u "T_CHAR"), (1, u "T_FLOAT"), (1, u "T_DOUBLE"), (1, u "T_BYTE"), (1, u "T_SHORT"), (1, u "T_INT"), (1, u "T_LONG"), (1, u "SOFT_MAX_ARRAY_LENGTH")] 83

def k18m0 : Method := { name := "<init>", desc := "()V", sig := { parameters := [], returnType := none }, accessFlags := 2, code := none }
/-- jdk/internal/util/ArraysSupport -/
def k18 : Class := { plain "jdk/internal/util/ArraysSupport" (some 0) with
  accessFlags := 33
  interfaces := #[]
  cf := some (fileOf pool18 21 #[] #[{ accessFlags := 2, nameIndex := 9, descriptorIndex := 19, attributes := #[] }] 33 16 #[] #[{ accessFlags := 24, nameIndex := 28, descriptorIndex := 29, attributes := #[] }, { accessFlags := 26, nameIndex := 38, descriptorIndex := 39, attributes := #[] }, { accessFlags := 25, nameIndex := 121, descriptorIndex := 25, attributes := #[] }, { accessFlags := 25, nameIndex := 131, descriptorIndex := 25, attributes := #[] }, { accessFlags := 25, nameIndex := 137, descriptorIndex := 25, attributes := #[] }, { accessFlags := 25, nameIndex := 143, descriptorIndex := 25, attributes := #[] }, { accessFlags := 25, nameIndex := 53, descriptorIndex := 25, attributes := #[] }, { accessFlags := 25, nameIndex := 24, descriptorIndex := 25, attributes := #[] }, { accessFlags := 25, nameIndex := 162, descriptorIndex := 25, attributes := #[] }, { accessFlags := 25, nameIndex := 187, descriptorIndex := 25, attributes := #[] }, { accessFlags := 26, nameIndex := 48, descriptorIndex := 25, attributes := #[] }, { accessFlags := 25, nameIndex := 277, descriptorIndex := 25, attributes := #[] }, { accessFlags := 25, nameIndex := 280, descriptorIndex := 25, attributes := #[] }, { accessFlags := 25, nameIndex := 282, descriptorIndex := 25, attributes := #[] }, { accessFlags := 25, nameIndex := 284, descriptorIndex := 25, attributes := #[] }, { accessFlags := 25, nameIndex := 286, descriptorIndex := 25, attributes := #[] }, { accessFlags := 25, nameIndex := 288, descriptorIndex := 25, attributes := #[] }, { accessFlags := 25, nameIndex := 290, descriptorIndex := 25, attributes := #[] }, { accessFlags := 25, nameIndex := 292, descriptorIndex := 25, attributes := #[] }, { accessFlags := 26, nameIndex := 108, descriptorIndex := 109, attributes := #[] }, { accessFlags := 25, nameIndex := 294, descriptorIndex := 25, attributes := #[] }])
  fields := #[{ name := "U", type := (.object "jdk/internal/misc/Unsafe"), accessFlags := 24, slot := 0, constantValue := 0 }, { name := "BIG_ENDIAN", type := .boolean, accessFlags := 26, slot := 1, constantValue := 0 }, { name := "LOG2_ARRAY_BOOLEAN_INDEX_SCALE", type := .int, accessFlags := 25, slot := 2, constantValue := 0 }, { name := "LOG2_ARRAY_BYTE_INDEX_SCALE", type := .int, accessFlags := 25, slot := 3, constantValue := 0 }, { name := "LOG2_ARRAY_CHAR_INDEX_SCALE", type := .int, accessFlags := 25, slot := 4, constantValue := 0 }, { name := "LOG2_ARRAY_SHORT_INDEX_SCALE", type := .int, accessFlags := 25, slot := 5, constantValue := 0 }, { name := "LOG2_ARRAY_INT_INDEX_SCALE", type := .int, accessFlags := 25, slot := 6, constantValue := 0 }, { name := "LOG2_ARRAY_LONG_INDEX_SCALE", type := .int, accessFlags := 25, slot := 7, constantValue := 0 }, { name := "LOG2_ARRAY_FLOAT_INDEX_SCALE", type := .int, accessFlags := 25, slot := 8, constantValue := 0 }, { name := "LOG2_ARRAY_DOUBLE_INDEX_SCALE", type := .int, accessFlags := 25, slot := 9, constantValue := 0 }, { name := "LOG2_BYTE_BIT_SIZE", type := .int, accessFlags := 26, slot := 10, constantValue := 0 }, { name := "T_BOOLEAN", type := .int, accessFlags := 25, slot := 11, constantValue := 0 }, { name := "T_CHAR", type := .int, accessFlags := 25, slot := 12, constantValue := 0 }, { name := "T_FLOAT", type := .int, accessFlags := 25, slot := 13, constantValue := 0 }, { name := "T_DOUBLE", type := .int, accessFlags := 25, slot := 14, constantValue := 0 }, { name := "T_BYTE", type := .int, accessFlags := 25, slot := 15, constantValue := 0 }, { name := "T_SHORT", type := .int, accessFlags := 25, slot := 16, constantValue := 0 }, { name := "T_INT", type := .int, accessFlags := 25, slot := 17, constantValue := 0 }, { name := "T_LONG", type := .int, accessFlags := 25, slot := 18, constantValue := 0 }, { name := "JLA", type := (.object "jdk/internal/access/JavaLangAccess"), accessFlags := 26, slot := 19, constantValue := 0 }, { name := "SOFT_MAX_ARRAY_LENGTH", type := .int, accessFlags := 25, slot := 20, constantValue := 0 }]
  methods := #[k18m0]
  instanceTypes := #[]
  staticTypes := #[(.object "jdk/internal/misc/Unsafe"), .boolean, .int, .int, .int, .int, .int, .int, .int, .int, .int, .int, .int, .int, .int, .int, .int, .int, .int, (.object "jdk/internal/access/JavaLangAccess"), .int]
  resolved := Array.replicate 378 none
  statics := none }

def pool19 : Array CpInfo := pool [(1, u "java/lang/Cloneable"), (0, .class_ 1), (0, u "java/lang/Object"), (0, .class_ 3)] 3

/-- java/lang/Cloneable -/
def k19 : Class := { plain "java/lang/Cloneable" (some 0) with
  accessFlags := 1537
  interfaces := #[]
  cf := some (fileOf pool19 2 #[] #[] 1537 4 #[] #[])
  fields := #[]
  methods := #[]
  instanceTypes := #[]
  staticTypes := #[]
  resolved := Array.replicate 8 none
  statics := none }

/-- the primitive byte -/
def k20 : Class := { plain "byte" none with kind := .primitive 'B', accessFlags := 0x411 }
/-- [B -/
def k21 : Class := { plain "[B" (some 0) with kind := .array 20 .byte, interfaces := #[19, 2], accessFlags := 1041 }

/-- the primitive char -/
def k22 : Class := { plain "char" none with kind := .primitive 'C', accessFlags := 0x411 }
/-- [C -/
def k23 : Class := { plain "[C" (some 0) with kind := .array 22 .char, interfaces := #[19, 2], accessFlags := 1041 }

/-- the primitive int -/
def k24 : Class := { plain "int" none with kind := .primitive 'I', accessFlags := 0x411 }
/-- [I -/
def k25 : Class := { plain "[I" (some 0) with kind := .array 24 .int, interfaces := #[19, 2], accessFlags := 1041 }

def heap : Heap := #[{ cls := 7, slots := #[.long 0, .int 1, .null, .int 0, .null, .int 0, .int 0], vm := .statics 7 },
  { cls := 16, slots := #[.null, .null, .null], vm := .statics 16 }]
def classes : Array Class := #[k0, k1, k2, k3, k4, k5, k6, k7, k8, k9, k10, k11, k12, k13, k14, k15, k16, k17, k18, k19, k20, k21, k22, k23, k24, k25]
def interned : List (Array UInt16 × Addr) := []
def slotsUsed : Nat := 10
def theMethod : MethodId := ⟨1, 4⟩
def args0 : Array Value := #[.int 5, .int 5, .int 5]
def aboutOver (below : List Frame) : State where
  vm := { classes := classes, interned := interned.toArray }
  heap := heap
  slotsUsed := slotsUsed
  threads := #[{ frames := .invoking theMethod args0 :: below }]
def below0 : List Frame := [.native { method := ⟨0, 0⟩, args := #[] }]
def about1 : State := aboutOver below0
def p0 : Program := .bare "" "" ""
def e0 : Env := launch0.env 0 0 0
theorem w_frames : about1.frames = Frame.invoking theMethod args0 :: below0 := rfl
set_option maxRecDepth 65536 in
theorem w_args : argsFit about1.vm theMethod args0 = true := by decide +kernel
set_option maxRecDepth 65536 in
theorem w_heap : heapFits about1 = true := by decide +kernel
set_option maxRecDepth 65536 in
theorem w_runnable : about1.curStatus? = some .runnable := by decide +kernel
set_option maxRecDepth 65536 in
theorem w_alone : about1.alone = true := by decide +kernel
set_option maxRecDepth 65536 in
theorem w_named : about1.methodNamed? x = some theMethod := by decide +kernel
set_option maxRecDepth 65536 in
theorem w_hears : about1.hears theMethod below0 = true := by decide +kernel
set_option maxRecDepth 65536 in
theorem w_ripe : about1.ripe theMethod args0 below0 = true := by decide +kernel
theorem w_running : about1.status = .running := rfl
set_option maxRecDepth 65536 in
theorem w_room : about1.hasRoom e0.platform room_1 = true :=
  launch0.hasRoom_least _ room_1 (by decide +kernel) (by decide +kernel) (by decide +kernel) (by decide +kernel) (by decide +kernel) (by decide +kernel)
theorem allAtoms_all (ts : List Jvm.Cond) (a : Array Jvm.Value) (st : Jvm.State) : (allAtoms ts).before a st = ts.all (fun c => c.before a st) := by
  induction ts with
  | nil => rfl
  | cons c t ih =>
    show (Jvm.Cond.and c (allAtoms t)).before a st = _
    rw [Jvm.Cond.before_and, ih, List.all_cons]
def words1 : List Jvm.Cond := Jvm.Cond.code x code maxLocals ret :: tables_1
/-- a 'code' word, met by the world's own term for the bytes: nothing is compared byte by byte -/
theorem code_word {y : MethodName} {bytes : ByteArray} {mx : Nat} {rt : Option FieldType} {a : Array Value} {s : State} {m : MethodId} {meth : Method} {c : Code} (h1 : s.methodNamed? y = some m) (h2 : s.vm.method? m = some meth) (h3 : meth.code = some c) (h4 : c.code = bytes)
    (h5 : (c.maxLocals == mx && c.exceptionTable.isEmpty && decide (c.maxStack ≤ mostOperands) && decide (meth.sig.returnType = rt) && !meth.locks && decide (parseMethodDescriptor y.desc = some meth.sig)) = true) : (Jvm.Cond.code y bytes mx rt).before a s = true := by
  simp only [Bool.and_eq_true, beq_iff_eq, Bool.not_eq_true', decide_eq_true_eq] at h5
  obtain ⟨⟨⟨⟨⟨g1, g2⟩, g3⟩, g4⟩, g5⟩, g6⟩ := h5
  simp [Cond.before, Cond.holds, Cond.value, h1, h2, h3, h4, g1, g2, g3, g4, g5, g6]
def isCode : Jvm.Cond → Bool
  | .code _ _ _ _ => true
  | _ => false
theorem all_split {L : List Jvm.Cond} {P : Jvm.Cond → Bool} (h1 : L.all (fun c => isCode c || P c) = true) (h2 : ∀ c ∈ L.filter isCode, P c = true) : L.all P = true := by
  refine List.all_eq_true.mpr fun c hc => ?_
  have h := List.all_eq_true.mp h1 c hc
  rcases Bool.eq_false_or_eq_true (isCode c) with hi | hi
  · exact h2 c (List.mem_filter.mpr ⟨hc, hi⟩)
  · simpa [hi] using h
set_option maxRecDepth 65536 in
theorem w_c0 : (Jvm.Cond.code x code maxLocals ret).before args0 about1 = true := code_word (m := ⟨1, 4⟩) (meth := k1m4) (c := k1c4) (by decide +kernel) rfl rfl rfl (by decide +kernel)
set_option maxRecDepth 65536 in
theorem w_c1 : (Jvm.Cond.code ({ cls := "dev/typewright/dart/DartWriterLinePinLaw", name := "ch", desc := "(I)C" } : Jvm.MethodName) method_2_code (2 : Nat) (Option.some Jvm.ClassFile.FieldType.char)).before args0 about1 = true := code_word (m := ⟨1, 1⟩) (meth := k1m1) (c := k1c1) (by decide +kernel) rfl rfl rfl (by decide +kernel)
set_option maxRecDepth 65536 in
theorem w_c2 : (Jvm.Cond.code ({ cls := "dev/typewright/dart/DartWriterLinePinLaw", name := "str", desc := "(ICC)Ljava/lang/String;" } : Jvm.MethodName) method_4_code (4 : Nat) (Option.some (Jvm.ClassFile.FieldType.object "java/lang/String"))).before args0 about1 = true := code_word (m := ⟨1, 3⟩) (meth := k1m3) (c := k1c3) (by decide +kernel) rfl rfl rfl (by decide +kernel)
set_option maxRecDepth 65536 in
theorem w_c3 : (Jvm.Cond.code ({ cls := "dev/typewright/dart/DartWriter", name := "<init>", desc := "()V" } : Jvm.MethodName) prog_57_method_1_code (1 : Nat) (Option.none : Option Jvm.ClassFile.FieldType)).before args0 about1 = true := code_word (m := ⟨8, 0⟩) (meth := k8m0) (c := k8c0) (by decide +kernel) rfl rfl rfl (by decide +kernel)
set_option maxRecDepth 65536 in
theorem w_c4 : (Jvm.Cond.code ({ cls := "java/lang/Object", name := "<init>", desc := "()V" } : Jvm.MethodName) object_method_1_code (1 : Nat) (Option.none : Option Jvm.ClassFile.FieldType)).before args0 about1 = true := code_word (m := ⟨0, 0⟩) (meth := k0m0) (c := k0c0) (by decide +kernel) rfl rfl rfl (by decide +kernel)
set_option maxRecDepth 65536 in
theorem w_c5 : (Jvm.Cond.code ({ cls := "java/lang/StringBuilder", name := "<init>", desc := "(Ljava/lang/String;)V" } : Jvm.MethodName) jdk_67_method_3_code (2 : Nat) (Option.none : Option Jvm.ClassFile.FieldType)).before args0 about1 = true := code_word (m := ⟨11, 1⟩) (meth := k11m1) (c := k11c1) (by decide +kernel) rfl rfl rfl (by decide +kernel)
set_option maxRecDepth 65536 in
theorem w_c6 : (Jvm.Cond.code ({ cls := "java/lang/AbstractStringBuilder", name := "<init>", desc := "(Ljava/lang/String;)V" } : Jvm.MethodName) jdk_68_method_3_code (5 : Nat) (Option.none : Option Jvm.ClassFile.FieldType)).before args0 about1 = true := code_word (m := ⟨10, 1⟩) (meth := k10m1) (c := k10c1) (by decide +kernel) rfl rfl rfl (by decide +kernel)
set_option maxRecDepth 65536 in
theorem w_c7 : (Jvm.Cond.code ({ cls := "java/lang/String", name := "length", desc := "()I" } : Jvm.MethodName) jdk_42_method_54_code (1 : Nat) (Option.some Jvm.ClassFile.FieldType.int)).before args0 about1 = true := code_word (m := ⟨7, 3⟩) (meth := k7m3) (c := k7c3) (by decide +kernel) rfl rfl rfl (by decide +kernel)
set_option maxRecDepth 65536 in
theorem w_c8 : (Jvm.Cond.code ({ cls := "java/lang/String", name := "coder", desc := "()B" } : Jvm.MethodName) jdk_42_method_152_code (1 : Nat) (Option.some Jvm.ClassFile.FieldType.byte)).before args0 about1 = true := code_word (m := ⟨7, 10⟩) (meth := k7m10) (c := k7c10) (by decide +kernel) rfl rfl rfl (by decide +kernel)
set_option maxRecDepth 65536 in
theorem w_c9 : (Jvm.Cond.code ({ cls := "java/lang/StringBuilder", name := "append", desc := "(Ljava/lang/String;)Ljava/lang/AbstractStringBuilder;" } : Jvm.MethodName) jdk_67_method_80_code (2 : Nat) (Option.some (Jvm.ClassFile.FieldType.object "java/lang/AbstractStringBuilder"))).before args0 about1 = true := code_word (m := ⟨11, 5⟩) (meth := k11m5) (c := k11c5) (by decide +kernel) rfl rfl rfl (by decide +kernel)
set_option maxRecDepth 65536 in
theorem w_c10 : (Jvm.Cond.code ({ cls := "java/lang/StringBuilder", name := "append", desc := "(Ljava/lang/String;)Ljava/lang/StringBuilder;" } : Jvm.MethodName) jdk_67_method_7_code (2 : Nat) (Option.some (Jvm.ClassFile.FieldType.object "java/lang/StringBuilder"))).before args0 about1 = true := code_word (m := ⟨11, 2⟩) (meth := k11m2) (c := k11c2) (by decide +kernel) rfl rfl rfl (by decide +kernel)
set_option maxRecDepth 65536 in
theorem w_c11 : (Jvm.Cond.code ({ cls := "java/lang/AbstractStringBuilder", name := "append", desc := "(Ljava/lang/String;)Ljava/lang/AbstractStringBuilder;" } : Jvm.MethodName) jdk_68_method_22_code (3 : Nat) (Option.some (Jvm.ClassFile.FieldType.object "java/lang/AbstractStringBuilder"))).before args0 about1 = true := code_word (m := ⟨10, 4⟩) (meth := k10m4) (c := k10c4) (by decide +kernel) rfl rfl rfl (by decide +kernel)
set_option maxRecDepth 65536 in
theorem w_c12 : (Jvm.Cond.code ({ cls := "java/lang/AbstractStringBuilder", name := "ensureCapacityInternal", desc := "(I)V" } : Jvm.MethodName) jdk_68_method_9_code (3 : Nat) (Option.none : Option Jvm.ClassFile.FieldType)).before args0 about1 = true := code_word (m := ⟨10, 3⟩) (meth := k10m3) (c := k10c3) (by decide +kernel) rfl rfl rfl (by decide +kernel)
set_option maxRecDepth 65536 in
theorem w_c13 : (Jvm.Cond.code ({ cls := "java/lang/AbstractStringBuilder", name := "putStringAt", desc := "(ILjava/lang/String;)V" } : Jvm.MethodName) jdk_68_method_73_code (3 : Nat) (Option.none : Option Jvm.ClassFile.FieldType)).before args0 about1 = true := code_word (m := ⟨10, 9⟩) (meth := k10m9) (c := k10c9) (by decide +kernel) rfl rfl rfl (by decide +kernel)
set_option maxRecDepth 65536 in
theorem w_c14 : (Jvm.Cond.code ({ cls := "java/lang/AbstractStringBuilder", name := "inflateIfNeededFor", desc := "(Ljava/lang/String;)V" } : Jvm.MethodName) jdk_68_method_71_code (2 : Nat) (Option.none : Option Jvm.ClassFile.FieldType)).before args0 about1 = true := code_word (m := ⟨10, 8⟩) (meth := k10m8) (c := k10c8) (by decide +kernel) rfl rfl rfl (by decide +kernel)
set_option maxRecDepth 65536 in
theorem w_c15 : (Jvm.Cond.code ({ cls := "java/lang/String", name := "getBytes", desc := "([BIB)V" } : Jvm.MethodName) jdk_42_method_147_code (4 : Nat) (Option.none : Option Jvm.ClassFile.FieldType)).before args0 about1 = true := code_word (m := ⟨7, 6⟩) (meth := k7m6) (c := k7c6) (by decide +kernel) rfl rfl rfl (by decide +kernel)
set_option maxRecDepth 65536 in
theorem w_c16 : (Jvm.Cond.code ({ cls := "java/lang/StringBuilder", name := "append", desc := "(C)Ljava/lang/StringBuilder;" } : Jvm.MethodName) jdk_67_method_14_code (2 : Nat) (Option.some (Jvm.ClassFile.FieldType.object "java/lang/StringBuilder"))).before args0 about1 = true := code_word (m := ⟨11, 3⟩) (meth := k11m3) (c := k11c3) (by decide +kernel) rfl rfl rfl (by decide +kernel)
set_option maxRecDepth 65536 in
theorem w_c17 : (Jvm.Cond.code ({ cls := "java/lang/AbstractStringBuilder", name := "append", desc := "(C)Ljava/lang/AbstractStringBuilder;" } : Jvm.MethodName) jdk_68_method_31_code (2 : Nat) (Option.some (Jvm.ClassFile.FieldType.object "java/lang/AbstractStringBuilder"))).before args0 about1 = true := code_word (m := ⟨10, 5⟩) (meth := k10m5) (c := k10c5) (by decide +kernel) rfl rfl rfl (by decide +kernel)
set_option maxRecDepth 65536 in
theorem w_c18 : (Jvm.Cond.code ({ cls := "java/lang/AbstractStringBuilder", name := "isLatin1", desc := "()Z" } : Jvm.MethodName) jdk_68_method_68_code (1 : Nat) (Option.some Jvm.ClassFile.FieldType.boolean)).before args0 about1 = true := code_word (m := ⟨10, 7⟩) (meth := k10m7) (c := k10c7) (by decide +kernel) rfl rfl rfl (by decide +kernel)
set_option maxRecDepth 65536 in
theorem w_c19 : (Jvm.Cond.code ({ cls := "java/lang/StringLatin1", name := "canEncode", desc := "(C)Z" } : Jvm.MethodName) jdk_43_method_3_code (1 : Nat) (Option.some Jvm.ClassFile.FieldType.boolean)).before args0 about1 = true := code_word (m := ⟨13, 2⟩) (meth := k13m2) (c := k13c2) (by decide +kernel) rfl rfl rfl (by decide +kernel)
set_option maxRecDepth 65536 in
theorem w_c20 : (Jvm.Cond.code ({ cls := "dev/typewright/dart/DartWriter", name := "line", desc := "(Ljava/lang/String;)Ldev/typewright/dart/DartWriter;" } : Jvm.MethodName) prog_57_method_2_code (2 : Nat) (Option.some (Jvm.ClassFile.FieldType.object "dev/typewright/dart/DartWriter"))).before args0 about1 = true := code_word (m := ⟨8, 1⟩) (meth := k8m1) (c := k8c1) (by decide +kernel) rfl rfl rfl (by decide +kernel)
set_option maxRecDepth 65536 in
theorem w_c21 : (Jvm.Cond.code ({ cls := "dev/typewright/dart/DartWriter", name := "toString", desc := "()Ljava/lang/String;" } : Jvm.MethodName) prog_57_method_4_code (1 : Nat) (Option.some (Jvm.ClassFile.FieldType.object "java/lang/String"))).before args0 about1 = true := code_word (m := ⟨8, 3⟩) (meth := k8m3) (c := k8c3) (by decide +kernel) rfl rfl rfl (by decide +kernel)
set_option maxRecDepth 65536 in
theorem w_c22 : (Jvm.Cond.code ({ cls := "java/lang/StringBuilder", name := "toString", desc := "()Ljava/lang/String;" } : Jvm.MethodName) jdk_67_method_42_code (1 : Nat) (Option.some (Jvm.ClassFile.FieldType.object "java/lang/String"))).before args0 about1 = true := code_word (m := ⟨11, 4⟩) (meth := k11m4) (c := k11c4) (by decide +kernel) rfl rfl rfl (by decide +kernel)
set_option maxRecDepth 65536 in
theorem w_c23 : (Jvm.Cond.code ({ cls := "java/lang/String", name := "<init>", desc := "(Ljava/lang/StringBuilder;)V" } : Jvm.MethodName) jdk_42_method_53_code (2 : Nat) (Option.none : Option Jvm.ClassFile.FieldType)).before args0 about1 = true := code_word (m := ⟨7, 2⟩) (meth := k7m2) (c := k7c2) (by decide +kernel) rfl rfl rfl (by decide +kernel)
set_option maxRecDepth 65536 in
theorem w_c24 : (Jvm.Cond.code ({ cls := "java/lang/String", name := "<init>", desc := "(Ljava/lang/AbstractStringBuilder;Ljava/lang/Void;)V" } : Jvm.MethodName) jdk_42_method_150_code (5 : Nat) (Option.none : Option Jvm.ClassFile.FieldType)).before args0 about1 = true := code_word (m := ⟨7, 8⟩) (meth := k7m8) (c := k7c8) (by decide +kernel) rfl rfl rfl (by decide +kernel)
set_option maxRecDepth 65536 in
theorem w_c25 : (Jvm.Cond.code ({ cls := "java/lang/AbstractStringBuilder", name := "getValue", desc := "()[B" } : Jvm.MethodName) jdk_68_method_64_code (1 : Nat) (Option.some (Jvm.ClassFile.FieldType.array Jvm.ClassFile.FieldType.byte))).before args0 about1 = true := code_word (m := ⟨10, 6⟩) (meth := k10m6) (c := k10c6) (by decide +kernel) rfl rfl rfl (by decide +kernel)
set_option maxRecDepth 65536 in
theorem w_c26 : (Jvm.Cond.code ({ cls := "java/lang/StringBuilder", name := "length", desc := "()I" } : Jvm.MethodName) jdk_67_method_93_code (1 : Nat) (Option.some Jvm.ClassFile.FieldType.int)).before args0 about1 = true := code_word (m := ⟨11, 6⟩) (meth := k11m6) (c := k11c6) (by decide +kernel) rfl rfl rfl (by decide +kernel)
set_option maxRecDepth 65536 in
theorem w_c27 : (Jvm.Cond.code ({ cls := "java/lang/AbstractStringBuilder", name := "length", desc := "()I" } : Jvm.MethodName) jdk_68_method_6_code (1 : Nat) (Option.some Jvm.ClassFile.FieldType.int)).before args0 about1 = true := code_word (m := ⟨10, 2⟩) (meth := k10m2) (c := k10c2) (by decide +kernel) rfl rfl rfl (by decide +kernel)
set_option maxRecDepth 65536 in
theorem w_c28 : (Jvm.Cond.code ({ cls := "java/util/Arrays", name := "copyOfRange", desc := "([BII)[B" } : Jvm.MethodName) jdk_65_method_132_code (3 : Nat) (Option.some (Jvm.ClassFile.FieldType.array Jvm.ClassFile.FieldType.byte))).before args0 about1 = true := code_word (m := ⟨14, 2⟩) (meth := k14m2) (c := k14c2) (by decide +kernel) rfl rfl rfl (by decide +kernel)
set_option maxRecDepth 65536 in
theorem w_c29 : (Jvm.Cond.code ({ cls := "java/util/Arrays", name := "copyOfRangeByte", desc := "([BII)[B" } : Jvm.MethodName) jdk_65_method_133_code (5 : Nat) (Option.some (Jvm.ClassFile.FieldType.array Jvm.ClassFile.FieldType.byte))).before args0 about1 = true := code_word (m := ⟨14, 3⟩) (meth := k14m3) (c := k14c3) (by decide +kernel) rfl rfl rfl (by decide +kernel)
set_option maxRecDepth 65536 in
theorem w_c30 : (Jvm.Cond.code ({ cls := "java/util/Arrays", name := "checkLength", desc := "(II)V" } : Jvm.MethodName) jdk_65_method_131_code (2 : Nat) (Option.none : Option Jvm.ClassFile.FieldType)).before args0 about1 = true := code_word (m := ⟨14, 1⟩) (meth := k14m1) (c := k14c1) (by decide +kernel) rfl rfl rfl (by decide +kernel)
set_option maxRecDepth 65536 in
theorem w_c31 : (Jvm.Cond.code ({ cls := "java/lang/Math", name := "min", desc := "(II)I" } : Jvm.MethodName) jdk_29_method_69_code (2 : Nat) (Option.some Jvm.ClassFile.FieldType.int)).before args0 about1 = true := code_word (m := ⟨15, 1⟩) (meth := k15m1) (c := k15c1) (by decide +kernel) rfl rfl rfl (by decide +kernel)
set_option maxRecDepth 65536 in
theorem w_c32 : (Jvm.Cond.code ({ cls := "java/lang/String", name := "charAt", desc := "(I)C" } : Jvm.MethodName) jdk_42_method_56_code (2 : Nat) (Option.some Jvm.ClassFile.FieldType.char)).before args0 about1 = true := code_word (m := ⟨7, 4⟩) (meth := k7m4) (c := k7c4) (by decide +kernel) rfl rfl rfl (by decide +kernel)
set_option maxRecDepth 65536 in
theorem w_c33 : (Jvm.Cond.code ({ cls := "java/lang/String", name := "isLatin1", desc := "()Z" } : Jvm.MethodName) jdk_42_method_154_code (1 : Nat) (Option.some Jvm.ClassFile.FieldType.boolean)).before args0 about1 = true := code_word (m := ⟨7, 11⟩) (meth := k7m11) (c := k7c11) (by decide +kernel) rfl rfl rfl (by decide +kernel)
set_option maxRecDepth 65536 in
theorem w_c34 : (Jvm.Cond.code ({ cls := "java/lang/StringLatin1", name := "charAt", desc := "([BI)C" } : Jvm.MethodName) jdk_43_method_2_code (2 : Nat) (Option.some Jvm.ClassFile.FieldType.char)).before args0 about1 = true := code_word (m := ⟨13, 1⟩) (meth := k13m1) (c := k13c1) (by decide +kernel) rfl rfl rfl (by decide +kernel)
set_option maxRecDepth 65536 in
theorem w_c35 : (Jvm.Cond.code ({ cls := "java/lang/String", name := "checkIndex", desc := "(II)V" } : Jvm.MethodName) jdk_42_method_155_code (2 : Nat) (Option.none : Option Jvm.ClassFile.FieldType)).before args0 about1 = true := code_word (m := ⟨7, 12⟩) (meth := k7m12) (c := k7c12) (by decide +kernel) rfl rfl rfl (by decide +kernel)
set_option maxRecDepth 65536 in
theorem w_c36 : (Jvm.Cond.code ({ cls := "jdk/internal/util/Preconditions", name := "checkIndex", desc := "(IILjava/util/function/BiFunction;)I" } : Jvm.MethodName) jdk_41_method_11_code (3 : Nat) (Option.some Jvm.ClassFile.FieldType.int)).before args0 about1 = true := code_word (m := ⟨16, 1⟩) (meth := k16m1) (c := k16c1) (by decide +kernel) rfl rfl rfl (by decide +kernel)
set_option maxRecDepth 65536 in
theorem w_c37 : (Jvm.Cond.code ({ cls := "dev/typewright/dart/DartWriterLinePinLaw", name := "at", desc := "(Ljava/lang/String;I)C" } : Jvm.MethodName) method_3_code (2 : Nat) (Option.some Jvm.ClassFile.FieldType.char)).before args0 about1 = true := code_word (m := ⟨1, 2⟩) (meth := k1m2) (c := k1c2) (by decide +kernel) rfl rfl rfl (by decide +kernel)
set_option maxRecDepth 65536 in
theorem w_c38 : (Jvm.Cond.code ({ cls := "dev/typewright/dart/DartWriter", name := "blankLine", desc := "()Ldev/typewright/dart/DartWriter;" } : Jvm.MethodName) prog_57_method_3_code (1 : Nat) (Option.some (Jvm.ClassFile.FieldType.object "dev/typewright/dart/DartWriter"))).before args0 about1 = true := code_word (m := ⟨8, 2⟩) (meth := k8m2) (c := k8c2) (by decide +kernel) rfl rfl rfl (by decide +kernel)
set_option maxRecDepth 65536 in
theorem w_c39 : (Jvm.Cond.code ({ cls := "java/lang/String", name := "valueOf", desc := "(C)Ljava/lang/String;" } : Jvm.MethodName) jdk_42_method_139_code (1 : Nat) (Option.some (Jvm.ClassFile.FieldType.object "java/lang/String"))).before args0 about1 = true := code_word (m := ⟨7, 5⟩) (meth := k7m5) (c := k7c5) (by decide +kernel) rfl rfl rfl (by decide +kernel)
set_option maxRecDepth 65536 in
theorem w_c40 : (Jvm.Cond.code ({ cls := "java/lang/StringLatin1", name := "toBytes", desc := "(C)[B" } : Jvm.MethodName) jdk_43_method_46_code (1 : Nat) (Option.some (Jvm.ClassFile.FieldType.array Jvm.ClassFile.FieldType.byte))).before args0 about1 = true := code_word (m := ⟨13, 3⟩) (meth := k13m3) (c := k13c3) (by decide +kernel) rfl rfl rfl (by decide +kernel)
set_option maxRecDepth 65536 in
theorem w_c41 : (Jvm.Cond.code ({ cls := "java/lang/String", name := "<init>", desc := "([BB)V" } : Jvm.MethodName) jdk_42_method_151_code (3 : Nat) (Option.none : Option Jvm.ClassFile.FieldType)).before args0 about1 = true := code_word (m := ⟨7, 9⟩) (meth := k7m9) (c := k7c9) (by decide +kernel) rfl rfl rfl (by decide +kernel)
set_option maxRecDepth 65536 in
theorem w_c42 : (Jvm.Cond.code ({ cls := "java/lang/String", name := "<init>", desc := "([C)V" } : Jvm.MethodName) jdk_42_method_3_code (2 : Nat) (Option.none : Option Jvm.ClassFile.FieldType)).before args0 about1 = true := code_word (m := ⟨7, 1⟩) (meth := k7m1) (c := k7c1) (by decide +kernel) rfl rfl rfl (by decide +kernel)
set_option maxRecDepth 65536 in
theorem w_c43 : (Jvm.Cond.code ({ cls := "java/lang/String", name := "<init>", desc := "([CIILjava/lang/Void;)V" } : Jvm.MethodName) jdk_42_method_149_code (6 : Nat) (Option.none : Option Jvm.ClassFile.FieldType)).before args0 about1 = true := code_word (m := ⟨7, 7⟩) (meth := k7m7) (c := k7c7) (by decide +kernel) rfl rfl rfl (by decide +kernel)
set_option maxRecDepth 65536 in
theorem w_c44 : (Jvm.Cond.code ({ cls := "java/lang/StringUTF16", name := "compress", desc := "([CII)[B" } : Jvm.MethodName) jdk_52_method_16_code (6 : Nat) (Option.some (Jvm.ClassFile.FieldType.array Jvm.ClassFile.FieldType.byte))).before args0 about1 = true := code_word (m := ⟨17, 2⟩) (meth := k17m2) (c := k17c2) (by decide +kernel) rfl rfl rfl (by decide +kernel)
set_option maxRecDepth 65536 in
theorem w_c45 : (Jvm.Cond.code ({ cls := "java/lang/StringUTF16", name := "compress", desc := "([CI[BII)I" } : Jvm.MethodName) jdk_52_method_21_code (7 : Nat) (Option.some Jvm.ClassFile.FieldType.int)).before args0 about1 = true := code_word (m := ⟨17, 3⟩) (meth := k17m3) (c := k17c3) (by decide +kernel) rfl rfl rfl (by decide +kernel)
set_option maxRecDepth 65536 in
theorem w_c46 : (Jvm.Cond.code ({ cls := "java/lang/StringUTF16", name := "coderFromArrayLen", desc := "([BI)B" } : Jvm.MethodName) jdk_52_method_15_code (2 : Nat) (Option.some Jvm.ClassFile.FieldType.byte)).before args0 about1 = true := code_word (m := ⟨17, 1⟩) (meth := k17m1) (c := k17c1) (by decide +kernel) rfl rfl rfl (by decide +kernel)
def codes1 : List Jvm.Cond := [Jvm.Cond.code x code maxLocals ret, Jvm.Cond.code ({ cls := "dev/typewright/dart/DartWriterLinePinLaw", name := "ch", desc := "(I)C" } : Jvm.MethodName) method_2_code (2 : Nat) (Option.some Jvm.ClassFile.FieldType.char), Jvm.Cond.code ({ cls := "dev/typewright/dart/DartWriterLinePinLaw", name := "str", desc := "(ICC)Ljava/lang/String;" } : Jvm.MethodName) method_4_code (4 : Nat) (Option.some (Jvm.ClassFile.FieldType.object "java/lang/String")), Jvm.Cond.code ({ cls := "dev/typewright/dart/DartWriter", name := "<init>", desc := "()V" } : Jvm.MethodName) prog_57_method_1_code (1 : Nat) (Option.none : Option Jvm.ClassFile.FieldType), Jvm.Cond.code ({ cls := "java/lang/Object", name := "<init>", desc := "()V" } : Jvm.MethodName) object_method_1_code (1 : Nat) (Option.none : Option Jvm.ClassFile.FieldType), Jvm.Cond.code ({ cls := "java/lang/StringBuilder", name := "<init>", desc := "(Ljava/lang/String;)V" } : Jvm.MethodName) jdk_67_method_3_code (2 : Nat) (Option.none : Option Jvm.ClassFile.FieldType), Jvm.Cond.code ({ cls := "java/lang/AbstractStringBuilder", name := "<init>", desc := "(Ljava/lang/String;)V" } : Jvm.MethodName) jdk_68_method_3_code (5 : Nat) (Option.none : Option Jvm.ClassFile.FieldType), Jvm.Cond.code ({ cls := "java/lang/String", name := "length", desc := "()I" } : Jvm.MethodName) jdk_42_method_54_code (1 : Nat) (Option.some Jvm.ClassFile.FieldType.int), Jvm.Cond.code ({ cls := "java/lang/String", name := "coder", desc := "()B" } : Jvm.MethodName) jdk_42_method_152_code (1 : Nat) (Option.some Jvm.ClassFile.FieldType.byte), Jvm.Cond.code ({ cls := "java/lang/StringBuilder", name := "append", desc := "(Ljava/lang/String;)Ljava/lang/AbstractStringBuilder;" } : Jvm.MethodName) jdk_67_method_80_code (2 : Nat) (Option.some (Jvm.ClassFile.FieldType.object "java/lang/AbstractStringBuilder")), Jvm.Cond.code ({ cls := "java/lang/StringBuilder", name := "append", desc := "(Ljava/lang/String;)Ljava/lang/StringBuilder;" } : Jvm.MethodName) jdk_67_method_7_code (2 : Nat) (Option.some (Jvm.ClassFile.FieldType.object "java/lang/StringBuilder")), Jvm.Cond.code ({ cls := "java/lang/AbstractStringBuilder", name := "append", desc := "(Ljava/lang/String;)Ljava/lang/AbstractStringBuilder;" } : Jvm.MethodName) jdk_68_method_22_code (3 : Nat) (Option.some (Jvm.ClassFile.FieldType.object "java/lang/AbstractStringBuilder")), Jvm.Cond.code ({ cls := "java/lang/AbstractStringBuilder", name := "ensureCapacityInternal", desc := "(I)V" } : Jvm.MethodName) jdk_68_method_9_code (3 : Nat) (Option.none : Option Jvm.ClassFile.FieldType), Jvm.Cond.code ({ cls := "java/lang/AbstractStringBuilder", name := "putStringAt", desc := "(ILjava/lang/String;)V" } : Jvm.MethodName) jdk_68_method_73_code (3 : Nat) (Option.none : Option Jvm.ClassFile.FieldType), Jvm.Cond.code ({ cls := "java/lang/AbstractStringBuilder", name := "inflateIfNeededFor", desc := "(Ljava/lang/String;)V" } : Jvm.MethodName) jdk_68_method_71_code (2 : Nat) (Option.none : Option Jvm.ClassFile.FieldType), Jvm.Cond.code ({ cls := "java/lang/String", name := "getBytes", desc := "([BIB)V" } : Jvm.MethodName) jdk_42_method_147_code (4 : Nat) (Option.none : Option Jvm.ClassFile.FieldType), Jvm.Cond.code ({ cls := "java/lang/StringBuilder", name := "append", desc := "(C)Ljava/lang/StringBuilder;" } : Jvm.MethodName) jdk_67_method_14_code (2 : Nat) (Option.some (Jvm.ClassFile.FieldType.object "java/lang/StringBuilder")), Jvm.Cond.code ({ cls := "java/lang/AbstractStringBuilder", name := "append", desc := "(C)Ljava/lang/AbstractStringBuilder;" } : Jvm.MethodName) jdk_68_method_31_code (2 : Nat) (Option.some (Jvm.ClassFile.FieldType.object "java/lang/AbstractStringBuilder")), Jvm.Cond.code ({ cls := "java/lang/AbstractStringBuilder", name := "isLatin1", desc := "()Z" } : Jvm.MethodName) jdk_68_method_68_code (1 : Nat) (Option.some Jvm.ClassFile.FieldType.boolean), Jvm.Cond.code ({ cls := "java/lang/StringLatin1", name := "canEncode", desc := "(C)Z" } : Jvm.MethodName) jdk_43_method_3_code (1 : Nat) (Option.some Jvm.ClassFile.FieldType.boolean), Jvm.Cond.code ({ cls := "dev/typewright/dart/DartWriter", name := "line", desc := "(Ljava/lang/String;)Ldev/typewright/dart/DartWriter;" } : Jvm.MethodName) prog_57_method_2_code (2 : Nat) (Option.some (Jvm.ClassFile.FieldType.object "dev/typewright/dart/DartWriter")), Jvm.Cond.code ({ cls := "dev/typewright/dart/DartWriter", name := "toString", desc := "()Ljava/lang/String;" } : Jvm.MethodName) prog_57_method_4_code (1 : Nat) (Option.some (Jvm.ClassFile.FieldType.object "java/lang/String")), Jvm.Cond.code ({ cls := "java/lang/StringBuilder", name := "toString", desc := "()Ljava/lang/String;" } : Jvm.MethodName) jdk_67_method_42_code (1 : Nat) (Option.some (Jvm.ClassFile.FieldType.object "java/lang/String")), Jvm.Cond.code ({ cls := "java/lang/String", name := "<init>", desc := "(Ljava/lang/StringBuilder;)V" } : Jvm.MethodName) jdk_42_method_53_code (2 : Nat) (Option.none : Option Jvm.ClassFile.FieldType), Jvm.Cond.code ({ cls := "java/lang/String", name := "<init>", desc := "(Ljava/lang/AbstractStringBuilder;Ljava/lang/Void;)V" } : Jvm.MethodName) jdk_42_method_150_code (5 : Nat) (Option.none : Option Jvm.ClassFile.FieldType), Jvm.Cond.code ({ cls := "java/lang/AbstractStringBuilder", name := "getValue", desc := "()[B" } : Jvm.MethodName) jdk_68_method_64_code (1 : Nat) (Option.some (Jvm.ClassFile.FieldType.array Jvm.ClassFile.FieldType.byte)), Jvm.Cond.code ({ cls := "java/lang/StringBuilder", name := "length", desc := "()I" } : Jvm.MethodName) jdk_67_method_93_code (1 : Nat) (Option.some Jvm.ClassFile.FieldType.int), Jvm.Cond.code ({ cls := "java/lang/AbstractStringBuilder", name := "length", desc := "()I" } : Jvm.MethodName) jdk_68_method_6_code (1 : Nat) (Option.some Jvm.ClassFile.FieldType.int), Jvm.Cond.code ({ cls := "java/util/Arrays", name := "copyOfRange", desc := "([BII)[B" } : Jvm.MethodName) jdk_65_method_132_code (3 : Nat) (Option.some (Jvm.ClassFile.FieldType.array Jvm.ClassFile.FieldType.byte)), Jvm.Cond.code ({ cls := "java/util/Arrays", name := "copyOfRangeByte", desc := "([BII)[B" } : Jvm.MethodName) jdk_65_method_133_code (5 : Nat) (Option.some (Jvm.ClassFile.FieldType.array Jvm.ClassFile.FieldType.byte)), Jvm.Cond.code ({ cls := "java/util/Arrays", name := "checkLength", desc := "(II)V" } : Jvm.MethodName) jdk_65_method_131_code (2 : Nat) (Option.none : Option Jvm.ClassFile.FieldType), Jvm.Cond.code ({ cls := "java/lang/Math", name := "min", desc := "(II)I" } : Jvm.MethodName) jdk_29_method_69_code (2 : Nat) (Option.some Jvm.ClassFile.FieldType.int), Jvm.Cond.code ({ cls := "java/lang/String", name := "charAt", desc := "(I)C" } : Jvm.MethodName) jdk_42_method_56_code (2 : Nat) (Option.some Jvm.ClassFile.FieldType.char), Jvm.Cond.code ({ cls := "java/lang/String", name := "isLatin1", desc := "()Z" } : Jvm.MethodName) jdk_42_method_154_code (1 : Nat) (Option.some Jvm.ClassFile.FieldType.boolean), Jvm.Cond.code ({ cls := "java/lang/StringLatin1", name := "charAt", desc := "([BI)C" } : Jvm.MethodName) jdk_43_method_2_code (2 : Nat) (Option.some Jvm.ClassFile.FieldType.char), Jvm.Cond.code ({ cls := "java/lang/String", name := "checkIndex", desc := "(II)V" } : Jvm.MethodName) jdk_42_method_155_code (2 : Nat) (Option.none : Option Jvm.ClassFile.FieldType), Jvm.Cond.code ({ cls := "jdk/internal/util/Preconditions", name := "checkIndex", desc := "(IILjava/util/function/BiFunction;)I" } : Jvm.MethodName) jdk_41_method_11_code (3 : Nat) (Option.some Jvm.ClassFile.FieldType.int), Jvm.Cond.code ({ cls := "dev/typewright/dart/DartWriterLinePinLaw", name := "at", desc := "(Ljava/lang/String;I)C" } : Jvm.MethodName) method_3_code (2 : Nat) (Option.some Jvm.ClassFile.FieldType.char), Jvm.Cond.code ({ cls := "dev/typewright/dart/DartWriter", name := "blankLine", desc := "()Ldev/typewright/dart/DartWriter;" } : Jvm.MethodName) prog_57_method_3_code (1 : Nat) (Option.some (Jvm.ClassFile.FieldType.object "dev/typewright/dart/DartWriter")), Jvm.Cond.code ({ cls := "java/lang/String", name := "valueOf", desc := "(C)Ljava/lang/String;" } : Jvm.MethodName) jdk_42_method_139_code (1 : Nat) (Option.some (Jvm.ClassFile.FieldType.object "java/lang/String")), Jvm.Cond.code ({ cls := "java/lang/StringLatin1", name := "toBytes", desc := "(C)[B" } : Jvm.MethodName) jdk_43_method_46_code (1 : Nat) (Option.some (Jvm.ClassFile.FieldType.array Jvm.ClassFile.FieldType.byte)), Jvm.Cond.code ({ cls := "java/lang/String", name := "<init>", desc := "([BB)V" } : Jvm.MethodName) jdk_42_method_151_code (3 : Nat) (Option.none : Option Jvm.ClassFile.FieldType), Jvm.Cond.code ({ cls := "java/lang/String", name := "<init>", desc := "([C)V" } : Jvm.MethodName) jdk_42_method_3_code (2 : Nat) (Option.none : Option Jvm.ClassFile.FieldType), Jvm.Cond.code ({ cls := "java/lang/String", name := "<init>", desc := "([CIILjava/lang/Void;)V" } : Jvm.MethodName) jdk_42_method_149_code (6 : Nat) (Option.none : Option Jvm.ClassFile.FieldType), Jvm.Cond.code ({ cls := "java/lang/StringUTF16", name := "compress", desc := "([CII)[B" } : Jvm.MethodName) jdk_52_method_16_code (6 : Nat) (Option.some (Jvm.ClassFile.FieldType.array Jvm.ClassFile.FieldType.byte)), Jvm.Cond.code ({ cls := "java/lang/StringUTF16", name := "compress", desc := "([CI[BII)I" } : Jvm.MethodName) jdk_52_method_21_code (7 : Nat) (Option.some Jvm.ClassFile.FieldType.int), Jvm.Cond.code ({ cls := "java/lang/StringUTF16", name := "coderFromArrayLen", desc := "([BI)B" } : Jvm.MethodName) jdk_52_method_15_code (2 : Nat) (Option.some Jvm.ClassFile.FieldType.byte)]
set_option maxRecDepth 65536 in
theorem codes_eq : words1.filter isCode = codes1 := rfl
theorem w_codes : ∀ c ∈ words1.filter isCode, c.before args0 about1 = true := by
  rw [codes_eq]
  intro c hc
  simp only [codes1, List.mem_cons, List.not_mem_nil, or_false] at hc
  rcases hc with rfl | rfl | rfl | rfl | rfl | rfl | rfl | rfl | rfl | rfl | rfl | rfl | rfl | rfl | rfl | rfl | rfl | rfl | rfl | rfl | rfl | rfl | rfl | rfl | rfl | rfl | rfl | rfl | rfl | rfl | rfl | rfl | rfl | rfl | rfl | rfl | rfl | rfl | rfl | rfl | rfl | rfl | rfl | rfl | rfl | rfl | rfl
  · exact w_c0
  · exact w_c1
  · exact w_c2
  · exact w_c3
  · exact w_c4
  · exact w_c5
  · exact w_c6
  · exact w_c7
  · exact w_c8
  · exact w_c9
  · exact w_c10
  · exact w_c11
  · exact w_c12
  · exact w_c13
  · exact w_c14
  · exact w_c15
  · exact w_c16
  · exact w_c17
  · exact w_c18
  · exact w_c19
  · exact w_c20
  · exact w_c21
  · exact w_c22
  · exact w_c23
  · exact w_c24
  · exact w_c25
  · exact w_c26
  · exact w_c27
  · exact w_c28
  · exact w_c29
  · exact w_c30
  · exact w_c31
  · exact w_c32
  · exact w_c33
  · exact w_c34
  · exact w_c35
  · exact w_c36
  · exact w_c37
  · exact w_c38
  · exact w_c39
  · exact w_c40
  · exact w_c41
  · exact w_c42
  · exact w_c43
  · exact w_c44
  · exact w_c45
  · exact w_c46
set_option maxRecDepth 65536 in
theorem w_t1 : (words1.take 24).all (fun c => isCode c || c.before args0 about1) = true := by decide +kernel
set_option maxRecDepth 65536 in
theorem w_t2 : ((words1.drop 24).take 24).all (fun c => isCode c || c.before args0 about1) = true := by decide +kernel
set_option maxRecDepth 65536 in
theorem w_t3 : (((words1.drop 24).drop 24).take 24).all (fun c => isCode c || c.before args0 about1) = true := by decide +kernel
set_option maxRecDepth 65536 in
theorem w_t4 : ((((words1.drop 24).drop 24).drop 24).take 24).all (fun c => isCode c || c.before args0 about1) = true := by decide +kernel
set_option maxRecDepth 65536 in
theorem w_t5 : (((((words1.drop 24).drop 24).drop 24).drop 24).take 24).all (fun c => isCode c || c.before args0 about1) = true := by decide +kernel
set_option maxRecDepth 65536 in
theorem w_t6 : ((((((words1.drop 24).drop 24).drop 24).drop 24).drop 24).take 24).all (fun c => isCode c || c.before args0 about1) = true := by decide +kernel
set_option maxRecDepth 65536 in
theorem w_t7 : (((((((words1.drop 24).drop 24).drop 24).drop 24).drop 24).drop 24).take 24).all (fun c => isCode c || c.before args0 about1) = true := by decide +kernel
set_option maxRecDepth 65536 in
theorem w_t8 : ((((((((words1.drop 24).drop 24).drop 24).drop 24).drop 24).drop 24).drop 24).take 24).all (fun c => isCode c || c.before args0 about1) = true := by decide +kernel
set_option maxRecDepth 65536 in
theorem w_t9 : (((((((((words1.drop 24).drop 24).drop 24).drop 24).drop 24).drop 24).drop 24).drop 24).take 24).all (fun c => isCode c || c.before args0 about1) = true := by decide +kernel
set_option maxRecDepth 65536 in
theorem w_t10 : (((((((((words1.drop 24).drop 24).drop 24).drop 24).drop 24).drop 24).drop 24).drop 24).drop 24).all (fun c => isCode c || c.before args0 about1) = true := by decide +kernel
theorem w_tables : (allAtoms (Jvm.Cond.code x code maxLocals ret :: tables_1)).before args0 about1 = true := by
  rw [allAtoms_all]
  show words1.all (fun c => c.before args0 about1) = true
  refine all_split ?_ w_codes
  rw [← List.take_append_drop 24 words1, List.all_append, w_t1, ← List.take_append_drop 24 (words1.drop 24), List.all_append, w_t2, ← List.take_append_drop 24 ((words1.drop 24).drop 24), List.all_append, w_t3, ← List.take_append_drop 24 (((words1.drop 24).drop 24).drop 24), List.all_append, w_t4, ← List.take_append_drop 24 ((((words1.drop 24).drop 24).drop 24).drop 24), List.all_append, w_t5, ← List.take_append_drop 24 (((((words1.drop 24).drop 24).drop 24).drop 24).drop 24), List.all_append, w_t6, ← List.take_append_drop 24 ((((((words1.drop 24).drop 24).drop 24).drop 24).drop 24).drop 24), List.all_append, w_t7, ← List.take_append_drop 24 (((((((words1.drop 24).drop 24).drop 24).drop 24).drop 24).drop 24).drop 24), List.all_append, w_t8, ← List.take_append_drop 24 ((((((((words1.drop 24).drop 24).drop 24).drop 24).drop 24).drop 24).drop 24).drop 24), List.all_append, w_t9, w_t10]
  rfl
set_option maxRecDepth 65536 in
theorem w_rest : rest_1_c.before args0 about1 = true := by decide +kernel
set_option maxRecDepth 65536 in
theorem w_case : (Jvm.Cond.and given_1 narrow_1).before args0 about1 = true := by decide +kernel
set_option maxRecDepth 65536 in
theorem w_consts : constsHeld consts_1 about1 := Jvm.Lit.constsHeldB_iff.mp (by decide +kernel)
theorem w_applies : (headSpec (Jvm.Cond.code x code maxLocals ret :: tables_1) room_1).applies x e0.platform about1 = true :=
  (Spec.applies_iff w_frames).mpr ⟨w_running, w_runnable, w_alone, w_named, w_hears, w_ripe, w_room, w_tables⟩
theorem atStart : AtStart classFile x code maxLocals ret World_1 tables_1 room_1 Calls_1 rest_1 Pre_1 launch0 p0 e0 about1 theMethod args0 below0 :=
  ⟨lists_1, trivial, launch0.admits_env _ _ _, launch0.least_env, fairChoices_fair.cas, fairChoices_fair.clock, w_frames, w_args, w_heap, w_applies, ⟨w_consts, trivial⟩, w_rest, w_case⟩
end start1
theorem witness_1 : WitnessClaimed_1 := ⟨start1.p0, start1.e0, start1.about1, start1.theMethod, start1.args0, start1.below0, start1.atStart⟩
end Jvm.Pilot.@@N@@
